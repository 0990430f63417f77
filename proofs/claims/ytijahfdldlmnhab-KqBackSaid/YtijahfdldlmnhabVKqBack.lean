/- Printed by this work's own program: the code of each function below comes to the answer that its plain form tells. -/
import Derived.Test.YtijahfdldlmnhabMr
import Derived.Test.YtijahfdldlmnhabProg
import Derived.Test.YtijahfdldlmnhabLKqBack
import Derived.Test.YtijahfdldlmnhabKX0
import Derived.Test.YtijahfdldlmnhabKX1
import Derived.Test.YtijahfdldlmnhabKX2
import Derived.Test.YtijahfdldlmnhabKX3
set_option linter.unusedVariables false
set_option linter.unusedSimpArgs false
set_option maxRecDepth 100000
set_option maxHeartbeats 4000000
namespace Go.Proofs.Ytijahfdldlmnhab
open Go.Mx
attribute [local irreducible] wpOp

theorem law25_KqBack.ok {K : Nat} {a0 : Arr 256} {a1 : Arr 256} {a2 : Arr 256} {a3 : Int} {a4 : List Int} {r0 : Bool} {a4_A : Option Addr} {a4_n : Nat} {a4_c : Nat} (h : law25_KqBack.f K a0 a1 a2 a3 a4 = some r0) (w0 : World) (hp4 : RowL (CI .u8) w0 a4_A a4_n a4_c a4) : Ret Try.prog 3 #[.agg (enc .i32 a0).toArray, .agg (enc .i32 a1).toArray, .agg (enc .i32 a2).toArray, .int .i64 a3, .slice a4_A a4_n a4_c] w0 (.bool r0) := by
  refine calls_k Try.func3 rfl fun Q qq => ?_
  have hs := St.startR (all_cons (RowP.ent hp4) all_nil)
  refine wp_conv (a' := ⟨#[.agg (enc .i32 a0).toArray, .agg (enc .i32 a1).toArray, .agg (enc .i32 a2).toArray, .int .i64 a3, .slice a4_A a4_n a4_c, undef, undef, undef, undef, undef, undef, undef, undef, undef, undef, undef, undef, undef, undef, undef, undef, undef, undef, undef, undef, undef, undef, undef, undef, undef, undef, undef, undef, undef, undef, undef, undef, undef, undef, undef, undef, undef, undef, undef, undef, undef, undef, undef, undef, undef, undef, undef, undef, undef, undef, undef, undef, undef, undef, undef, undef, undef, undef, undef, undef, undef, undef, undef, undef, undef, undef, undef, undef, undef, undef, undef, undef, undef, undef, undef, undef, undef, undef, undef, undef, undef, undef, undef, undef, undef, undef, undef, undef, undef, undef, undef, undef, undef, undef, undef, undef, undef, undef, undef, undef, undef, undef, undef, undef, undef, undef, undef, undef, undef, undef, undef, undef, undef, undef, undef, undef, undef, undef, undef, undef], []⟩) (by kernel_rfl) ?_
  refine wp_seq_k fun KS1 ks1 => ?_
  refine wp_regS (l := [0, 1, 2, 3]) (by kernel_rfl) fun KR kr => ?_
  refine wpS.only 0 (op_box (t := 23) (v := .agg (enc .i32 a0).toArray) (d := (some 5)) (by kernel_rfl) hs (enc .i32 a0) (by kernel_rfl) (by kernel_rfl) ?_)
  intro b1 w gw hs
  refine ⟨fun _ => trivial, ?_⟩
  refine wpS.only 1 (op_box (t := 23) (v := .agg (enc .i32 a1).toArray) (d := (some 6)) (by kernel_rfl) hs (enc .i32 a1) (by kernel_rfl) (by kernel_rfl) ?_)
  intro b2 w gw hs
  refine ⟨fun _ => trivial, ?_⟩
  refine wpS.only 2 (op_box (t := 23) (v := .agg (enc .i32 a2).toArray) (d := (some 7)) (by kernel_rfl) hs (enc .i32 a2) (by kernel_rfl) (by kernel_rfl) ?_)
  intro b3 w gw hs
  refine ⟨fun _ => trivial, ?_⟩
  refine wpS.take 3 false (some 10) (.bool false) (by kernel_rfl) (yld fun _ => by kernel_rfl) ?_
  refine wpS.fin rfl (kr _ _ ?_)
  refine then_n (ks1 _ _ ?_)
  refine wp_seq_k fun KS7 ks7 => ?_
  refine wp_seq_k fun KS8 ks8 => ?_
  refine wp_regS (l := [0, 1, 2, 3, 4, 5, 6, 7, 8, 9, 10, 11, 12, 13, 14, 15, 16, 17]) (by kernel_rfl) fun KR kr => ?_
  refine wpS.take 0 true (some 16) (.agg (enc .i32 a0).toArray) (by kernel_rfl) (yld_loadW (e := 23) (n := 256) hs 2 rfl (by kernel_rfl) (by kernel_rfl) (by kernel_rfl) (by exact enc_len _ _) .grow) ?_
  obtain ⟨r4, hg, h⟩ := of_bind h
  cases r4 with
  | true =>
    have h := of_if_t h
    refine wpS.only 1 (op_call (d := (some 17)) (by kernel_rfl) hs (fun _ => by kernel_rfl) (ref25_Fit.ok hg _) ?_)
    intro w gw hs
    refine ⟨fun _ => trivial, ?_⟩
    refine wpS.take 2 false (some 18) (.bool false) (by kernel_rfl) (yld fun _ => by kernel_rfl) ?_
    refine wpS.take 3 false (some 19) (.bool false) (by kernel_rfl) (yld fun _ => by kernel_rfl) ?_
    refine wpS.take 4 true (some 20) (.agg (enc .i32 a1).toArray) (by kernel_rfl) (yld_loadW (e := 23) (n := 256) hs 1 rfl (by kernel_rfl) (by kernel_rfl) (by kernel_rfl) (by exact enc_len _ _) .grow) ?_
    obtain ⟨r5, hg, h⟩ := of_bind h
    cases r5 with
    | true =>
      have h := of_if_t h
      refine wpS.only 5 (op_call (d := (some 21)) (by kernel_rfl) hs (fun _ => by kernel_rfl) (ref25_Fit.ok hg _) ?_)
      intro w gw hs
      refine ⟨fun _ => trivial, ?_⟩
      refine wpS.take 6 false (some 22) (.bool false) (by kernel_rfl) (yld fun _ => by kernel_rfl) ?_
      refine wpS.take 7 false (some 23) (.bool false) (by kernel_rfl) (yld fun _ => by kernel_rfl) ?_
      refine wpS.take 8 false (some 24) (.bool false) (by kernel_rfl) (yld fun _ => by kernel_rfl) ?_
      refine wpS.take 9 true (some 25) (.agg (enc .i32 a2).toArray) (by kernel_rfl) (yld_loadW (e := 23) (n := 256) hs 0 rfl (by kernel_rfl) (by kernel_rfl) (by kernel_rfl) (by exact enc_len _ _) .grow) ?_
      obtain ⟨r6, hg, h⟩ := of_bind h
      cases r6 with
      | true =>
        have h := of_if_t h
        refine wpS.only 10 (op_call (d := (some 26)) (by kernel_rfl) hs (fun _ => by kernel_rfl) (ref25_Fit.ok hg _) ?_)
        intro w gw hs
        refine ⟨fun _ => trivial, ?_⟩
        refine wpS.take 11 false (some 27) (.bool false) (by kernel_rfl) (yld fun _ => by kernel_rfl) ?_
        refine wpS.take 12 false (some 28) (.bool false) (by kernel_rfl) (yld fun _ => by kernel_rfl) ?_
        refine wpS.take 13 false (some 29) (.bool false) (by kernel_rfl) (yld fun _ => by kernel_rfl) ?_
        refine wpS.take 14 false (some 30) (.slice a4_A a4_n a4_c) (by kernel_rfl) (yld fun _ => by kernel_rfl) ?_
        refine wpS.take 15 false (some 31) (.int .i64 (a4.length : Int)) (by kernel_rfl) (yld_lenL (hs.rowR 0 rfl) (fun _ => by kernel_rfl)) ?_
        rcases of_if h with ⟨hc, h⟩ | ⟨hc, h⟩
        · refine wpS.take 16 false (some 32) (.bool true) (by kernel_rfl) (yld_b (dt hc) (fun _ => by kernel_rfl)) ?_
          refine wpS.take 17 false (some 33) (.bool true) (by kernel_rfl) (yld fun _ => by kernel_rfl) ?_
          refine wpS.fin rfl (kr _ _ ?_)
          refine then_n (ks8 _ _ ?_)
          refine wp_cond_t (by kernel_rfl) ?_
          refine wp_seq_k fun KS9 ks9 => ?_
          refine wp_regS (l := [0, 1]) (by kernel_rfl) fun KR kr => ?_
          obtain ⟨r7, hg, h⟩ := of_bind h
          refine wpS.only 0 (op_call (d := (some 34)) (by kernel_rfl) hs (fun _ => by kernel_rfl) (law25_awake.ok hg _) ?_)
          intro w gw hs
          refine ⟨fun _ => trivial, ?_⟩
          refine wpS.take 1 false (some 10) (.bool r7) (by kernel_rfl) (yld fun _ => by kernel_rfl) ?_
          refine wpS.fin rfl (kr _ _ ?_)
          refine then_n (ks9 _ _ ?_)
          refine wp_ret ?_
          refine then_r ?_
          have q0 := of_some h
          subst q0
          exact qq _ _ (post_ret (by kernel_rfl) (run_results [.tmp 10] [.bool r7] (by kernel_rfl) (.cons (res_tmp (by kernel_rfl)) .nil)) ⟨congrArg Ending.returned (by kernel_rfl), hs.none⟩)
        · refine wpS.take 16 false (some 32) (.bool false) (by kernel_rfl) (yld_b (df hc) (fun _ => by kernel_rfl)) ?_
          refine wpS.take 17 false (some 33) (.bool false) (by kernel_rfl) (yld fun _ => by kernel_rfl) ?_
          refine wpS.fin rfl (kr _ _ ?_)
          refine then_n (ks8 _ _ ?_)
          refine wp_cond_f (by kernel_rfl) ?_
          refine wp_skip ?_
          refine then_n (ks7 _ _ ?_)
          refine wp_seq_k fun KS16 ks16 => ?_
          refine wp_seq_k fun KS17 ks17 => ?_
          refine wp_regG [] (fun k => True) 48 (by kernel_rfl) (by kernel_rfl) fun KR kr => ?_
          have hs := hs.drawn1
          refine wpG.takeD 0 true (some 35) (.agg (enc .i32 a0).toArray) (by kernel_rfl) (by kernel_rfl) (yld_loadW (e := 23) (n := 256) hs 2 rfl (by kernel_rfl) (by kernel_rfl) (by kernel_rfl) (by exact enc_len _ _) .grow) ?_
          refine wpG.takeD 3 true (some 38) (.agg (enc .i32 a0).toArray) (by kernel_rfl) (by kernel_rfl) (yld_loadW (e := 23) (n := 256) hs 2 rfl (by kernel_rfl) (by kernel_rfl) (by kernel_rfl) (by exact enc_len _ _) .grow) ?_
          obtain ⟨r8, hg, h⟩ := of_bind h
          refine wpG.only 1 (by kernel_rfl) (op_call (d := (some 36)) (by kernel_rfl) hs (fun _ => by kernel_rfl) (kq_Ntt.ok hg _) ?_)
          intro w gw hs
          refine ⟨.of gw, ?_⟩
          obtain ⟨r9, hg, h⟩ := of_bind h
          refine wpG.only 2 (by kernel_rfl) (op_call (d := (some 37)) (by kernel_rfl) hs (fun _ => by kernel_rfl) (kq_Back.ok hg _) ?_)
          intro w gw hs
          refine ⟨.of gw, ?_⟩
          rcases of_ifb h with ⟨hc, h⟩ | ⟨hc, h⟩
          · refine wpG.takeD 4 false (some 39) (.bool true) (by kernel_rfl) (by kernel_rfl) (yld_bb hc (yld_eqAn (t := 23) (e := 21) (k := .i32) (.tmp 37) (.tmp 38) (by kernel_rfl) (by kernel_rfl) (by kernel_rfl) (by kernel_rfl) (by kernel_rfl) (by kernel_rfl))) ?_
            refine wpG.takeD 5 false (some 40) (.bool true) (by kernel_rfl) (by kernel_rfl) (yld fun _ => by kernel_rfl) ?_
            refine wpG.takeD 6 false (some 41) (undef) (by kernel_rfl) (by kernel_rfl) (yld fun _ => by kernel_rfl) ?_
            refine wpG.takeD 9 false (some 44) (undef) (by kernel_rfl) (by kernel_rfl) (yld fun _ => by kernel_rfl) ?_
            refine wpG.takeD 7 false (some 42) (undef) (by kernel_rfl) (by kernel_rfl) (yld fun _ => by kernel_rfl) ?_
            refine wpG.takeD 8 false (some 43) (undef) (by kernel_rfl) (by kernel_rfl) (yld fun _ => by kernel_rfl) ?_
            refine wpG.takeD 10 false (some 45) (undef) (by kernel_rfl) (by kernel_rfl) (yld fun _ => by kernel_rfl) ?_
            refine wpG.takeD 11 false (some 46) (.bool true) (by kernel_rfl) (by kernel_rfl) (yld fun _ => by kernel_rfl) ?_
            refine wpG.takeD 12 false (some 47) (.bool true) (by kernel_rfl) (by kernel_rfl) (yld fun _ => by kernel_rfl) ?_
            refine wpG.takeD 13 false (some 48) (undef) (by kernel_rfl) (by kernel_rfl) (yld fun _ => by kernel_rfl) ?_
            refine wpG.takeD 14 false (some 49) (undef) (by kernel_rfl) (by kernel_rfl) (yld fun _ => by kernel_rfl) ?_
            refine wpG.takeD 17 false (some 52) (undef) (by kernel_rfl) (by kernel_rfl) (yld fun _ => by kernel_rfl) ?_
            refine wpG.takeD 19 false (some 54) (undef) (by kernel_rfl) (by kernel_rfl) (yld fun _ => by kernel_rfl) ?_
            refine wpG.takeD 15 false (some 50) (undef) (by kernel_rfl) (by kernel_rfl) (yld fun _ => by kernel_rfl) ?_
            refine wpG.takeD 16 false (some 51) (undef) (by kernel_rfl) (by kernel_rfl) (yld fun _ => by kernel_rfl) ?_
            refine wpG.takeD 18 false (some 53) (undef) (by kernel_rfl) (by kernel_rfl) (yld fun _ => by kernel_rfl) ?_
            refine wpG.takeD 20 false (some 55) (undef) (by kernel_rfl) (by kernel_rfl) (yld fun _ => by kernel_rfl) ?_
            refine wpG.takeD 21 false (some 56) (undef) (by kernel_rfl) (by kernel_rfl) (yld fun _ => by kernel_rfl) ?_
            refine wpG.takeD 22 false (some 57) (undef) (by kernel_rfl) (by kernel_rfl) (yld fun _ => by kernel_rfl) ?_
            refine wpG.takeD 23 false (some 58) (.bool true) (by kernel_rfl) (by kernel_rfl) (yld fun _ => by kernel_rfl) ?_
            refine wpG.takeD 24 false (some 59) (.bool true) (by kernel_rfl) (by kernel_rfl) (yld fun _ => by kernel_rfl) ?_
            refine wpG.takeD 25 false (some 60) (undef) (by kernel_rfl) (by kernel_rfl) (yld fun _ => by kernel_rfl) ?_
            refine wpG.takeD 26 false (some 61) (undef) (by kernel_rfl) (by kernel_rfl) (yld fun _ => by kernel_rfl) ?_
            refine wpG.takeD 27 false (some 62) (undef) (by kernel_rfl) (by kernel_rfl) (yld fun _ => by kernel_rfl) ?_
            refine wpG.takeD 30 false (some 65) (undef) (by kernel_rfl) (by kernel_rfl) (yld fun _ => by kernel_rfl) ?_
            refine wpG.takeD 31 false (some 66) (undef) (by kernel_rfl) (by kernel_rfl) (yld fun _ => by kernel_rfl) ?_
            refine wpG.takeD 33 false (some 68) (undef) (by kernel_rfl) (by kernel_rfl) (yld fun _ => by kernel_rfl) ?_
            refine wpG.takeD 34 false (some 69) (undef) (by kernel_rfl) (by kernel_rfl) (yld fun _ => by kernel_rfl) ?_
            refine wpG.takeD 28 false (some 63) (undef) (by kernel_rfl) (by kernel_rfl) (yld fun _ => by kernel_rfl) ?_
            refine wpG.takeD 29 false (some 64) (undef) (by kernel_rfl) (by kernel_rfl) (yld fun _ => by kernel_rfl) ?_
            refine wpG.takeD 32 false (some 67) (undef) (by kernel_rfl) (by kernel_rfl) (yld fun _ => by kernel_rfl) ?_
            refine wpG.takeD 35 false (some 70) (undef) (by kernel_rfl) (by kernel_rfl) (yld fun _ => by kernel_rfl) ?_
            refine wpG.takeD 36 false (some 71) (undef) (by kernel_rfl) (by kernel_rfl) (yld fun _ => by kernel_rfl) ?_
            refine wpG.takeD 37 false (some 72) (undef) (by kernel_rfl) (by kernel_rfl) (yld fun _ => by kernel_rfl) ?_
            refine wpG.takeD 38 false (some 73) (.bool true) (by kernel_rfl) (by kernel_rfl) (yld fun _ => by kernel_rfl) ?_
            refine wpG.takeD 39 false (some 74) (.bool true) (by kernel_rfl) (by kernel_rfl) (yld fun _ => by kernel_rfl) ?_
            refine wpG.takeD 40 false (some 75) (undef) (by kernel_rfl) (by kernel_rfl) (yld fun _ => by kernel_rfl) ?_
            refine wpG.takeD 41 false (some 76) (undef) (by kernel_rfl) (by kernel_rfl) (yld fun _ => by kernel_rfl) ?_
            refine wpG.takeD 43 false (some 78) (undef) (by kernel_rfl) (by kernel_rfl) (yld fun _ => by kernel_rfl) ?_
            refine wpG.takeD 45 false (some 80) (undef) (by kernel_rfl) (by kernel_rfl) (yld fun _ => by kernel_rfl) ?_
            refine wpG.takeD 42 false (some 77) (undef) (by kernel_rfl) (by kernel_rfl) (yld fun _ => by kernel_rfl) ?_
            refine wpG.takeD 44 false (some 79) (undef) (by kernel_rfl) (by kernel_rfl) (yld fun _ => by kernel_rfl) ?_
            refine wpG.takeD 46 false (some 81) (undef) (by kernel_rfl) (by kernel_rfl) (yld fun _ => by kernel_rfl) ?_
            refine wpG.takeD 47 false (some 82) (.bool true) (by kernel_rfl) (by kernel_rfl) (yld fun _ => by kernel_rfl) ?_
            refine wpG.fin (by kernel_rfl) rfl (kr _ _ ?_)
            refine then_n (ks17 _ _ ?_)
            refine wp_cond_t (by kernel_rfl) ?_
            refine wp_seq_k fun KS18 ks18 => ?_
            refine wp_regS (l := [0]) (by kernel_rfl) fun KR kr => ?_
            refine wpS.take 0 false (some 10) (.bool false) (by kernel_rfl) (yld fun _ => by kernel_rfl) ?_
            refine wpS.fin rfl (kr _ _ ?_)
            refine then_n (ks18 _ _ ?_)
            refine wp_ret ?_
            refine then_r ?_
            have q0 := of_some h
            subst q0
            exact qq _ _ (post_ret (by kernel_rfl) (run_results [.tmp 10] [.bool false] (by kernel_rfl) (.cons (res_tmp (by kernel_rfl)) .nil)) ⟨congrArg Ending.returned (by kernel_rfl), hs.none⟩)
          · refine wpG.takeD 4 false (some 39) (.bool false) (by kernel_rfl) (by kernel_rfl) (yld_bb hc (yld_eqAn (t := 23) (e := 21) (k := .i32) (.tmp 37) (.tmp 38) (by kernel_rfl) (by kernel_rfl) (by kernel_rfl) (by kernel_rfl) (by kernel_rfl) (by kernel_rfl))) ?_
            refine wpG.takeD 5 false (some 40) (.bool false) (by kernel_rfl) (by kernel_rfl) (yld fun _ => by kernel_rfl) ?_
            refine wpG.takeD 6 true (some 41) (.agg (enc .i32 a0).toArray) (by kernel_rfl) (by kernel_rfl) (yld_loadW (e := 23) (n := 256) hs 2 rfl (by kernel_rfl) (by kernel_rfl) (by kernel_rfl) (by exact enc_len _ _) .grow) ?_
            refine wpG.takeD 9 true (some 44) (.agg (enc .i32 a0).toArray) (by kernel_rfl) (by kernel_rfl) (yld_loadW (e := 23) (n := 256) hs 2 rfl (by kernel_rfl) (by kernel_rfl) (by kernel_rfl) (by exact enc_len _ _) .grow) ?_
            obtain ⟨r10, hg, h⟩ := of_bind h
            refine wpG.only 7 (by kernel_rfl) (op_call (d := (some 42)) (by kernel_rfl) hs (fun _ => by kernel_rfl) (kq_Back.ok hg _) ?_)
            intro w gw hs
            refine ⟨.of gw, ?_⟩
            obtain ⟨r11, hg, h⟩ := of_bind h
            refine wpG.only 8 (by kernel_rfl) (op_call (d := (some 43)) (by kernel_rfl) hs (fun _ => by kernel_rfl) (kq_Ntt.ok hg _) ?_)
            intro w gw hs
            refine ⟨.of gw, ?_⟩
            rcases of_ifb h with ⟨hc, h⟩ | ⟨hc, h⟩
            · refine wpG.takeD 10 false (some 45) (.bool true) (by kernel_rfl) (by kernel_rfl) (yld_bb hc (yld_eqAn (t := 23) (e := 21) (k := .i32) (.tmp 43) (.tmp 44) (by kernel_rfl) (by kernel_rfl) (by kernel_rfl) (by kernel_rfl) (by kernel_rfl) (by kernel_rfl))) ?_
              refine wpG.takeD 11 false (some 46) (.bool true) (by kernel_rfl) (by kernel_rfl) (yld fun _ => by kernel_rfl) ?_
              refine wpG.takeD 12 false (some 47) (.bool true) (by kernel_rfl) (by kernel_rfl) (yld fun _ => by kernel_rfl) ?_
              refine wpG.takeD 13 false (some 48) (undef) (by kernel_rfl) (by kernel_rfl) (yld fun _ => by kernel_rfl) ?_
              refine wpG.takeD 14 false (some 49) (undef) (by kernel_rfl) (by kernel_rfl) (yld fun _ => by kernel_rfl) ?_
              refine wpG.takeD 17 false (some 52) (undef) (by kernel_rfl) (by kernel_rfl) (yld fun _ => by kernel_rfl) ?_
              refine wpG.takeD 19 false (some 54) (undef) (by kernel_rfl) (by kernel_rfl) (yld fun _ => by kernel_rfl) ?_
              refine wpG.takeD 15 false (some 50) (undef) (by kernel_rfl) (by kernel_rfl) (yld fun _ => by kernel_rfl) ?_
              refine wpG.takeD 16 false (some 51) (undef) (by kernel_rfl) (by kernel_rfl) (yld fun _ => by kernel_rfl) ?_
              refine wpG.takeD 18 false (some 53) (undef) (by kernel_rfl) (by kernel_rfl) (yld fun _ => by kernel_rfl) ?_
              refine wpG.takeD 20 false (some 55) (undef) (by kernel_rfl) (by kernel_rfl) (yld fun _ => by kernel_rfl) ?_
              refine wpG.takeD 21 false (some 56) (undef) (by kernel_rfl) (by kernel_rfl) (yld fun _ => by kernel_rfl) ?_
              refine wpG.takeD 22 false (some 57) (undef) (by kernel_rfl) (by kernel_rfl) (yld fun _ => by kernel_rfl) ?_
              refine wpG.takeD 23 false (some 58) (.bool true) (by kernel_rfl) (by kernel_rfl) (yld fun _ => by kernel_rfl) ?_
              refine wpG.takeD 24 false (some 59) (.bool true) (by kernel_rfl) (by kernel_rfl) (yld fun _ => by kernel_rfl) ?_
              refine wpG.takeD 25 false (some 60) (undef) (by kernel_rfl) (by kernel_rfl) (yld fun _ => by kernel_rfl) ?_
              refine wpG.takeD 26 false (some 61) (undef) (by kernel_rfl) (by kernel_rfl) (yld fun _ => by kernel_rfl) ?_
              refine wpG.takeD 27 false (some 62) (undef) (by kernel_rfl) (by kernel_rfl) (yld fun _ => by kernel_rfl) ?_
              refine wpG.takeD 30 false (some 65) (undef) (by kernel_rfl) (by kernel_rfl) (yld fun _ => by kernel_rfl) ?_
              refine wpG.takeD 31 false (some 66) (undef) (by kernel_rfl) (by kernel_rfl) (yld fun _ => by kernel_rfl) ?_
              refine wpG.takeD 33 false (some 68) (undef) (by kernel_rfl) (by kernel_rfl) (yld fun _ => by kernel_rfl) ?_
              refine wpG.takeD 34 false (some 69) (undef) (by kernel_rfl) (by kernel_rfl) (yld fun _ => by kernel_rfl) ?_
              refine wpG.takeD 28 false (some 63) (undef) (by kernel_rfl) (by kernel_rfl) (yld fun _ => by kernel_rfl) ?_
              refine wpG.takeD 29 false (some 64) (undef) (by kernel_rfl) (by kernel_rfl) (yld fun _ => by kernel_rfl) ?_
              refine wpG.takeD 32 false (some 67) (undef) (by kernel_rfl) (by kernel_rfl) (yld fun _ => by kernel_rfl) ?_
              refine wpG.takeD 35 false (some 70) (undef) (by kernel_rfl) (by kernel_rfl) (yld fun _ => by kernel_rfl) ?_
              refine wpG.takeD 36 false (some 71) (undef) (by kernel_rfl) (by kernel_rfl) (yld fun _ => by kernel_rfl) ?_
              refine wpG.takeD 37 false (some 72) (undef) (by kernel_rfl) (by kernel_rfl) (yld fun _ => by kernel_rfl) ?_
              refine wpG.takeD 38 false (some 73) (.bool true) (by kernel_rfl) (by kernel_rfl) (yld fun _ => by kernel_rfl) ?_
              refine wpG.takeD 39 false (some 74) (.bool true) (by kernel_rfl) (by kernel_rfl) (yld fun _ => by kernel_rfl) ?_
              refine wpG.takeD 40 false (some 75) (undef) (by kernel_rfl) (by kernel_rfl) (yld fun _ => by kernel_rfl) ?_
              refine wpG.takeD 41 false (some 76) (undef) (by kernel_rfl) (by kernel_rfl) (yld fun _ => by kernel_rfl) ?_
              refine wpG.takeD 43 false (some 78) (undef) (by kernel_rfl) (by kernel_rfl) (yld fun _ => by kernel_rfl) ?_
              refine wpG.takeD 45 false (some 80) (undef) (by kernel_rfl) (by kernel_rfl) (yld fun _ => by kernel_rfl) ?_
              refine wpG.takeD 42 false (some 77) (undef) (by kernel_rfl) (by kernel_rfl) (yld fun _ => by kernel_rfl) ?_
              refine wpG.takeD 44 false (some 79) (undef) (by kernel_rfl) (by kernel_rfl) (yld fun _ => by kernel_rfl) ?_
              refine wpG.takeD 46 false (some 81) (undef) (by kernel_rfl) (by kernel_rfl) (yld fun _ => by kernel_rfl) ?_
              refine wpG.takeD 47 false (some 82) (.bool true) (by kernel_rfl) (by kernel_rfl) (yld fun _ => by kernel_rfl) ?_
              refine wpG.fin (by kernel_rfl) rfl (kr _ _ ?_)
              refine then_n (ks17 _ _ ?_)
              refine wp_cond_t (by kernel_rfl) ?_
              refine wp_seq_k fun KS19 ks19 => ?_
              refine wp_regS (l := [0]) (by kernel_rfl) fun KR kr => ?_
              refine wpS.take 0 false (some 10) (.bool false) (by kernel_rfl) (yld fun _ => by kernel_rfl) ?_
              refine wpS.fin rfl (kr _ _ ?_)
              refine then_n (ks19 _ _ ?_)
              refine wp_ret ?_
              refine then_r ?_
              have q0 := of_some h
              subst q0
              exact qq _ _ (post_ret (by kernel_rfl) (run_results [.tmp 10] [.bool false] (by kernel_rfl) (.cons (res_tmp (by kernel_rfl)) .nil)) ⟨congrArg Ending.returned (by kernel_rfl), hs.none⟩)
            · refine wpG.takeD 10 false (some 45) (.bool false) (by kernel_rfl) (by kernel_rfl) (yld_bb hc (yld_eqAn (t := 23) (e := 21) (k := .i32) (.tmp 43) (.tmp 44) (by kernel_rfl) (by kernel_rfl) (by kernel_rfl) (by kernel_rfl) (by kernel_rfl) (by kernel_rfl))) ?_
              refine wpG.takeD 11 false (some 46) (.bool false) (by kernel_rfl) (by kernel_rfl) (yld fun _ => by kernel_rfl) ?_
              refine wpG.takeD 12 false (some 47) (.bool false) (by kernel_rfl) (by kernel_rfl) (yld fun _ => by kernel_rfl) ?_
              refine wpG.takeD 13 true (some 48) (.agg (enc .i32 a0).toArray) (by kernel_rfl) (by kernel_rfl) (yld_loadW (e := 23) (n := 256) hs 2 rfl (by kernel_rfl) (by kernel_rfl) (by kernel_rfl) (by exact enc_len _ _) .grow) ?_
              refine wpG.takeD 14 true (some 49) (.agg (enc .i32 a1).toArray) (by kernel_rfl) (by kernel_rfl) (yld_loadW (e := 23) (n := 256) hs 1 rfl (by kernel_rfl) (by kernel_rfl) (by kernel_rfl) (by exact enc_len _ _) .grow) ?_
              refine wpG.takeD 17 true (some 52) (.agg (enc .i32 a0).toArray) (by kernel_rfl) (by kernel_rfl) (yld_loadW (e := 23) (n := 256) hs 2 rfl (by kernel_rfl) (by kernel_rfl) (by kernel_rfl) (by exact enc_len _ _) .grow) ?_
              refine wpG.takeD 19 true (some 54) (.agg (enc .i32 a1).toArray) (by kernel_rfl) (by kernel_rfl) (yld_loadW (e := 23) (n := 256) hs 1 rfl (by kernel_rfl) (by kernel_rfl) (by kernel_rfl) (by exact enc_len _ _) .grow) ?_
              obtain ⟨r12, hg, h⟩ := of_bind h
              refine wpG.only 15 (by kernel_rfl) (op_call (d := (some 50)) (by kernel_rfl) hs (fun _ => by kernel_rfl) (kq_Times.ok hg _) ?_)
              intro w gw hs
              refine ⟨.of gw, ?_⟩
              obtain ⟨r13, hg, h⟩ := of_bind h
              refine wpG.only 16 (by kernel_rfl) (op_call (d := (some 51)) (by kernel_rfl) hs (fun _ => by kernel_rfl) (kq_Ntt.ok hg _) ?_)
              intro w gw hs
              refine ⟨.of gw, ?_⟩
              obtain ⟨r14, hg, h⟩ := of_bind h
              refine wpG.only 18 (by kernel_rfl) (op_call (d := (some 53)) (by kernel_rfl) hs (fun _ => by kernel_rfl) (kq_Ntt.ok hg _) ?_)
              intro w gw hs
              refine ⟨.of gw, ?_⟩
              obtain ⟨r15, hg, h⟩ := of_bind h
              refine wpG.only 20 (by kernel_rfl) (op_call (d := (some 55)) (by kernel_rfl) hs (fun _ => by kernel_rfl) (kq_Ntt.ok hg _) ?_)
              intro w gw hs
              refine ⟨.of gw, ?_⟩
              obtain ⟨r16, hg, h⟩ := of_bind h
              refine wpG.only 21 (by kernel_rfl) (op_call (d := (some 56)) (by kernel_rfl) hs (fun _ => by kernel_rfl) (kq_Mul.ok hg _) ?_)
              intro w gw hs
              refine ⟨.of gw, ?_⟩
              rcases of_ifb h with ⟨hc, h⟩ | ⟨hc, h⟩
              · refine wpG.takeD 22 false (some 57) (.bool true) (by kernel_rfl) (by kernel_rfl) (yld_bb hc (yld_eqAn (t := 23) (e := 21) (k := .i32) (.tmp 51) (.tmp 56) (by kernel_rfl) (by kernel_rfl) (by kernel_rfl) (by kernel_rfl) (by kernel_rfl) (by kernel_rfl))) ?_
                refine wpG.takeD 23 false (some 58) (.bool true) (by kernel_rfl) (by kernel_rfl) (yld fun _ => by kernel_rfl) ?_
                refine wpG.takeD 24 false (some 59) (.bool true) (by kernel_rfl) (by kernel_rfl) (yld fun _ => by kernel_rfl) ?_
                refine wpG.takeD 25 false (some 60) (undef) (by kernel_rfl) (by kernel_rfl) (yld fun _ => by kernel_rfl) ?_
                refine wpG.takeD 26 false (some 61) (undef) (by kernel_rfl) (by kernel_rfl) (yld fun _ => by kernel_rfl) ?_
                refine wpG.takeD 27 false (some 62) (undef) (by kernel_rfl) (by kernel_rfl) (yld fun _ => by kernel_rfl) ?_
                refine wpG.takeD 30 false (some 65) (undef) (by kernel_rfl) (by kernel_rfl) (yld fun _ => by kernel_rfl) ?_
                refine wpG.takeD 31 false (some 66) (undef) (by kernel_rfl) (by kernel_rfl) (yld fun _ => by kernel_rfl) ?_
                refine wpG.takeD 33 false (some 68) (undef) (by kernel_rfl) (by kernel_rfl) (yld fun _ => by kernel_rfl) ?_
                refine wpG.takeD 34 false (some 69) (undef) (by kernel_rfl) (by kernel_rfl) (yld fun _ => by kernel_rfl) ?_
                refine wpG.takeD 28 false (some 63) (undef) (by kernel_rfl) (by kernel_rfl) (yld fun _ => by kernel_rfl) ?_
                refine wpG.takeD 29 false (some 64) (undef) (by kernel_rfl) (by kernel_rfl) (yld fun _ => by kernel_rfl) ?_
                refine wpG.takeD 32 false (some 67) (undef) (by kernel_rfl) (by kernel_rfl) (yld fun _ => by kernel_rfl) ?_
                refine wpG.takeD 35 false (some 70) (undef) (by kernel_rfl) (by kernel_rfl) (yld fun _ => by kernel_rfl) ?_
                refine wpG.takeD 36 false (some 71) (undef) (by kernel_rfl) (by kernel_rfl) (yld fun _ => by kernel_rfl) ?_
                refine wpG.takeD 37 false (some 72) (undef) (by kernel_rfl) (by kernel_rfl) (yld fun _ => by kernel_rfl) ?_
                refine wpG.takeD 38 false (some 73) (.bool true) (by kernel_rfl) (by kernel_rfl) (yld fun _ => by kernel_rfl) ?_
                refine wpG.takeD 39 false (some 74) (.bool true) (by kernel_rfl) (by kernel_rfl) (yld fun _ => by kernel_rfl) ?_
                refine wpG.takeD 40 false (some 75) (undef) (by kernel_rfl) (by kernel_rfl) (yld fun _ => by kernel_rfl) ?_
                refine wpG.takeD 41 false (some 76) (undef) (by kernel_rfl) (by kernel_rfl) (yld fun _ => by kernel_rfl) ?_
                refine wpG.takeD 43 false (some 78) (undef) (by kernel_rfl) (by kernel_rfl) (yld fun _ => by kernel_rfl) ?_
                refine wpG.takeD 45 false (some 80) (undef) (by kernel_rfl) (by kernel_rfl) (yld fun _ => by kernel_rfl) ?_
                refine wpG.takeD 42 false (some 77) (undef) (by kernel_rfl) (by kernel_rfl) (yld fun _ => by kernel_rfl) ?_
                refine wpG.takeD 44 false (some 79) (undef) (by kernel_rfl) (by kernel_rfl) (yld fun _ => by kernel_rfl) ?_
                refine wpG.takeD 46 false (some 81) (undef) (by kernel_rfl) (by kernel_rfl) (yld fun _ => by kernel_rfl) ?_
                refine wpG.takeD 47 false (some 82) (.bool true) (by kernel_rfl) (by kernel_rfl) (yld fun _ => by kernel_rfl) ?_
                refine wpG.fin (by kernel_rfl) rfl (kr _ _ ?_)
                refine then_n (ks17 _ _ ?_)
                refine wp_cond_t (by kernel_rfl) ?_
                refine wp_seq_k fun KS20 ks20 => ?_
                refine wp_regS (l := [0]) (by kernel_rfl) fun KR kr => ?_
                refine wpS.take 0 false (some 10) (.bool false) (by kernel_rfl) (yld fun _ => by kernel_rfl) ?_
                refine wpS.fin rfl (kr _ _ ?_)
                refine then_n (ks20 _ _ ?_)
                refine wp_ret ?_
                refine then_r ?_
                have q0 := of_some h
                subst q0
                exact qq _ _ (post_ret (by kernel_rfl) (run_results [.tmp 10] [.bool false] (by kernel_rfl) (.cons (res_tmp (by kernel_rfl)) .nil)) ⟨congrArg Ending.returned (by kernel_rfl), hs.none⟩)
              · refine wpG.takeD 22 false (some 57) (.bool false) (by kernel_rfl) (by kernel_rfl) (yld_bb hc (yld_eqAn (t := 23) (e := 21) (k := .i32) (.tmp 51) (.tmp 56) (by kernel_rfl) (by kernel_rfl) (by kernel_rfl) (by kernel_rfl) (by kernel_rfl) (by kernel_rfl))) ?_
                refine wpG.takeD 23 false (some 58) (.bool false) (by kernel_rfl) (by kernel_rfl) (yld fun _ => by kernel_rfl) ?_
                refine wpG.takeD 24 false (some 59) (.bool false) (by kernel_rfl) (by kernel_rfl) (yld fun _ => by kernel_rfl) ?_
                refine wpG.takeD 25 true (some 60) (.agg (enc .i32 a0).toArray) (by kernel_rfl) (by kernel_rfl) (yld_loadW (e := 23) (n := 256) hs 2 rfl (by kernel_rfl) (by kernel_rfl) (by kernel_rfl) (by exact enc_len _ _) .grow) ?_
                refine wpG.takeD 26 true (some 61) (.agg (enc .i32 a1).toArray) (by kernel_rfl) (by kernel_rfl) (yld_loadW (e := 23) (n := 256) hs 1 rfl (by kernel_rfl) (by kernel_rfl) (by kernel_rfl) (by exact enc_len _ _) .grow) ?_
                refine wpG.takeD 27 true (some 62) (.agg (enc .i32 a2).toArray) (by kernel_rfl) (by kernel_rfl) (yld_loadW (e := 23) (n := 256) hs 0 rfl (by kernel_rfl) (by kernel_rfl) (by kernel_rfl) (by exact enc_len _ _) .grow) ?_
                refine wpG.takeD 30 true (some 65) (.agg (enc .i32 a0).toArray) (by kernel_rfl) (by kernel_rfl) (yld_loadW (e := 23) (n := 256) hs 2 rfl (by kernel_rfl) (by kernel_rfl) (by kernel_rfl) (by exact enc_len _ _) .grow) ?_
                refine wpG.takeD 31 true (some 66) (.agg (enc .i32 a1).toArray) (by kernel_rfl) (by kernel_rfl) (yld_loadW (e := 23) (n := 256) hs 1 rfl (by kernel_rfl) (by kernel_rfl) (by kernel_rfl) (by exact enc_len _ _) .grow) ?_
                refine wpG.takeD 33 true (some 68) (.agg (enc .i32 a0).toArray) (by kernel_rfl) (by kernel_rfl) (yld_loadW (e := 23) (n := 256) hs 2 rfl (by kernel_rfl) (by kernel_rfl) (by kernel_rfl) (by exact enc_len _ _) .grow) ?_
                refine wpG.takeD 34 true (some 69) (.agg (enc .i32 a2).toArray) (by kernel_rfl) (by kernel_rfl) (yld_loadW (e := 23) (n := 256) hs 0 rfl (by kernel_rfl) (by kernel_rfl) (by kernel_rfl) (by exact enc_len _ _) .grow) ?_
                obtain ⟨r17, hg, h⟩ := of_bind h
                refine wpG.only 28 (by kernel_rfl) (op_call (d := (some 63)) (by kernel_rfl) hs (fun _ => by kernel_rfl) (kq_Add.ok hg _) ?_)
                intro w gw hs
                refine ⟨.of gw, ?_⟩
                obtain ⟨r18, hg, h⟩ := of_bind h
                refine wpG.only 29 (by kernel_rfl) (op_call (d := (some 64)) (by kernel_rfl) hs (fun _ => by kernel_rfl) (kq_Times.ok hg _) ?_)
                intro w gw hs
                refine ⟨.of gw, ?_⟩
                obtain ⟨r19, hg, h⟩ := of_bind h
                refine wpG.only 32 (by kernel_rfl) (op_call (d := (some 67)) (by kernel_rfl) hs (fun _ => by kernel_rfl) (kq_Times.ok hg _) ?_)
                intro w gw hs
                refine ⟨.of gw, ?_⟩
                obtain ⟨r20, hg, h⟩ := of_bind h
                refine wpG.only 35 (by kernel_rfl) (op_call (d := (some 70)) (by kernel_rfl) hs (fun _ => by kernel_rfl) (kq_Times.ok hg _) ?_)
                intro w gw hs
                refine ⟨.of gw, ?_⟩
                obtain ⟨r21, hg, h⟩ := of_bind h
                refine wpG.only 36 (by kernel_rfl) (op_call (d := (some 71)) (by kernel_rfl) hs (fun _ => by kernel_rfl) (kq_Add.ok hg _) ?_)
                intro w gw hs
                refine ⟨.of gw, ?_⟩
                rcases of_ifb h with ⟨hc, h⟩ | ⟨hc, h⟩
                · refine wpG.takeD 37 false (some 72) (.bool true) (by kernel_rfl) (by kernel_rfl) (yld_bb hc (yld_eqAn (t := 23) (e := 21) (k := .i32) (.tmp 64) (.tmp 71) (by kernel_rfl) (by kernel_rfl) (by kernel_rfl) (by kernel_rfl) (by kernel_rfl) (by kernel_rfl))) ?_
                  refine wpG.takeD 38 false (some 73) (.bool true) (by kernel_rfl) (by kernel_rfl) (yld fun _ => by kernel_rfl) ?_
                  refine wpG.takeD 39 false (some 74) (.bool true) (by kernel_rfl) (by kernel_rfl) (yld fun _ => by kernel_rfl) ?_
                  refine wpG.takeD 40 false (some 75) (undef) (by kernel_rfl) (by kernel_rfl) (yld fun _ => by kernel_rfl) ?_
                  refine wpG.takeD 41 false (some 76) (undef) (by kernel_rfl) (by kernel_rfl) (yld fun _ => by kernel_rfl) ?_
                  refine wpG.takeD 43 false (some 78) (undef) (by kernel_rfl) (by kernel_rfl) (yld fun _ => by kernel_rfl) ?_
                  refine wpG.takeD 45 false (some 80) (undef) (by kernel_rfl) (by kernel_rfl) (yld fun _ => by kernel_rfl) ?_
                  refine wpG.takeD 42 false (some 77) (undef) (by kernel_rfl) (by kernel_rfl) (yld fun _ => by kernel_rfl) ?_
                  refine wpG.takeD 44 false (some 79) (undef) (by kernel_rfl) (by kernel_rfl) (yld fun _ => by kernel_rfl) ?_
                  refine wpG.takeD 46 false (some 81) (undef) (by kernel_rfl) (by kernel_rfl) (yld fun _ => by kernel_rfl) ?_
                  refine wpG.takeD 47 false (some 82) (.bool true) (by kernel_rfl) (by kernel_rfl) (yld fun _ => by kernel_rfl) ?_
                  refine wpG.fin (by kernel_rfl) rfl (kr _ _ ?_)
                  refine then_n (ks17 _ _ ?_)
                  refine wp_cond_t (by kernel_rfl) ?_
                  refine wp_seq_k fun KS21 ks21 => ?_
                  refine wp_regS (l := [0]) (by kernel_rfl) fun KR kr => ?_
                  refine wpS.take 0 false (some 10) (.bool false) (by kernel_rfl) (yld fun _ => by kernel_rfl) ?_
                  refine wpS.fin rfl (kr _ _ ?_)
                  refine then_n (ks21 _ _ ?_)
                  refine wp_ret ?_
                  refine then_r ?_
                  have q0 := of_some h
                  subst q0
                  exact qq _ _ (post_ret (by kernel_rfl) (run_results [.tmp 10] [.bool false] (by kernel_rfl) (.cons (res_tmp (by kernel_rfl)) .nil)) ⟨congrArg Ending.returned (by kernel_rfl), hs.none⟩)
                · refine wpG.takeD 37 false (some 72) (.bool false) (by kernel_rfl) (by kernel_rfl) (yld_bb hc (yld_eqAn (t := 23) (e := 21) (k := .i32) (.tmp 64) (.tmp 71) (by kernel_rfl) (by kernel_rfl) (by kernel_rfl) (by kernel_rfl) (by kernel_rfl) (by kernel_rfl))) ?_
                  refine wpG.takeD 38 false (some 73) (.bool false) (by kernel_rfl) (by kernel_rfl) (yld fun _ => by kernel_rfl) ?_
                  refine wpG.takeD 39 false (some 74) (.bool false) (by kernel_rfl) (by kernel_rfl) (yld fun _ => by kernel_rfl) ?_
                  refine wpG.takeD 40 true (some 75) (.agg (enc .i32 a0).toArray) (by kernel_rfl) (by kernel_rfl) (yld_loadW (e := 23) (n := 256) hs 2 rfl (by kernel_rfl) (by kernel_rfl) (by kernel_rfl) (by exact enc_len _ _) .grow) ?_
                  refine wpG.takeD 41 true (some 76) (.agg (enc .i32 a1).toArray) (by kernel_rfl) (by kernel_rfl) (yld_loadW (e := 23) (n := 256) hs 1 rfl (by kernel_rfl) (by kernel_rfl) (by kernel_rfl) (by exact enc_len _ _) .grow) ?_
                  refine wpG.takeD 43 true (some 78) (.agg (enc .i32 a1).toArray) (by kernel_rfl) (by kernel_rfl) (yld_loadW (e := 23) (n := 256) hs 1 rfl (by kernel_rfl) (by kernel_rfl) (by kernel_rfl) (by exact enc_len _ _) .grow) ?_
                  refine wpG.takeD 45 true (some 80) (.agg (enc .i32 a0).toArray) (by kernel_rfl) (by kernel_rfl) (yld_loadW (e := 23) (n := 256) hs 2 rfl (by kernel_rfl) (by kernel_rfl) (by kernel_rfl) (by exact enc_len _ _) .grow) ?_
                  obtain ⟨r22, hg, h⟩ := of_bind h
                  refine wpG.only 42 (by kernel_rfl) (op_call (d := (some 77)) (by kernel_rfl) hs (fun _ => by kernel_rfl) (kq_Sub.ok hg _) ?_)
                  intro w gw hs
                  refine ⟨.of gw, ?_⟩
                  obtain ⟨r23, hg, h⟩ := of_bind h
                  refine wpG.only 44 (by kernel_rfl) (op_call (d := (some 79)) (by kernel_rfl) hs (fun _ => by kernel_rfl) (kq_Add.ok hg _) ?_)
                  intro w gw hs
                  refine ⟨.of gw, ?_⟩
                  rcases of_ifb h with ⟨hc, h⟩ | ⟨hc, h⟩
                  · refine wpG.takeD 46 false (some 81) (.bool true) (by kernel_rfl) (by kernel_rfl) (yld_bb hc (yld_eqAn (t := 23) (e := 21) (k := .i32) (.tmp 79) (.tmp 80) (by kernel_rfl) (by kernel_rfl) (by kernel_rfl) (by kernel_rfl) (by kernel_rfl) (by kernel_rfl))) ?_
                    refine wpG.takeD 47 false (some 82) (.bool true) (by kernel_rfl) (by kernel_rfl) (yld fun _ => by kernel_rfl) ?_
                    refine wpG.fin (by kernel_rfl) rfl (kr _ _ ?_)
                    refine then_n (ks17 _ _ ?_)
                    refine wp_cond_t (by kernel_rfl) ?_
                    refine wp_seq_k fun KS22 ks22 => ?_
                    refine wp_regS (l := [0]) (by kernel_rfl) fun KR kr => ?_
                    refine wpS.take 0 false (some 10) (.bool false) (by kernel_rfl) (yld fun _ => by kernel_rfl) ?_
                    refine wpS.fin rfl (kr _ _ ?_)
                    refine then_n (ks22 _ _ ?_)
                    refine wp_ret ?_
                    refine then_r ?_
                    have q0 := of_some h
                    subst q0
                    exact qq _ _ (post_ret (by kernel_rfl) (run_results [.tmp 10] [.bool false] (by kernel_rfl) (.cons (res_tmp (by kernel_rfl)) .nil)) ⟨congrArg Ending.returned (by kernel_rfl), hs.none⟩)
                  · refine wpG.takeD 46 false (some 81) (.bool false) (by kernel_rfl) (by kernel_rfl) (yld_bb hc (yld_eqAn (t := 23) (e := 21) (k := .i32) (.tmp 79) (.tmp 80) (by kernel_rfl) (by kernel_rfl) (by kernel_rfl) (by kernel_rfl) (by kernel_rfl) (by kernel_rfl))) ?_
                    refine wpG.takeD 47 false (some 82) (.bool false) (by kernel_rfl) (by kernel_rfl) (yld fun _ => by kernel_rfl) ?_
                    refine wpG.fin (by kernel_rfl) rfl (kr _ _ ?_)
                    refine then_n (ks17 _ _ ?_)
                    refine wp_cond_f (by kernel_rfl) ?_
                    refine wp_skip ?_
                    refine then_n (ks16 _ _ ?_)
                    refine wp_seq_k fun KS23 ks23 => ?_
                    refine wp_regS (l := [0]) (by kernel_rfl) fun KR kr => ?_
                    refine wpS.only 0 (op_alloc (t := 23) (d := (some 11)) (by kernel_rfl) hs (enc .i32 (zeroA 256)) (.agg (enc .i32 (zeroA 256)).toArray) (by kernel_rfl) (by kernel_rfl) (by kernel_rfl) ?_)
                    intro b24 w gw hs
                    refine ⟨fun _ => trivial, ?_⟩
                    refine wpS.fin rfl (kr _ _ ?_)
                    refine then_n (ks23 _ _ ?_)
                    refine wp_seq_k fun KS24 ks24 => ?_
                    refine wp_regS (l := [0, 1]) (by kernel_rfl) fun KR kr => ?_
                    refine wpS.take 0 false (some 83) (.pointer (some ⟨b24, 0 + (128 : Int).toNat * 1, none⟩)) (by kernel_rfl) (yld_idx (t := 23) (e := 21) (n := 256) (sz := 1) (k := .i64) (x := 128) (by kernel_rfl) (by kernel_rfl) (by kernel_rfl) (by decide) (by decide)) ?_
                    refine wpS.only 1 (op_storeA (t := 21) (x := 128) (v := 1) (d := none) (by kernel_rfl) hs 0 rfl (by kernel_rfl /-v-/) (by kernel_rfl) (by decide) (by decide) ?_)
                    intro w kp hs
                    refine ⟨fun _ => trivial, ?_⟩
                    refine wpS.fin rfl (kr _ _ ?_)
                    refine then_n (ks24 _ _ ?_)
                    refine wp_seq_k fun KS28 ks28 => ?_
                    refine wp_seq_k fun KS29 ks29 => ?_
                    refine wp_regG [] (fun k => True) 9 (by kernel_rfl) (by kernel_rfl) fun KR kr => ?_
                    have hs := hs.drawn1
                    refine wpG.takeD 0 true (some 84) (.agg (enc .i32 (wr (zeroA 256) 128 1)).toArray) (by kernel_rfl) (by kernel_rfl) (yld_loadW (e := 23) (n := 256) hs 0 rfl (by kernel_rfl) (by kernel_rfl) (by kernel_rfl) (by exact enc_len _ _) .grow) ?_
                    refine wpG.takeD 1 true (some 85) (.agg (enc .i32 (wr (zeroA 256) 128 1)).toArray) (by kernel_rfl) (by kernel_rfl) (yld_loadW (e := 23) (n := 256) hs 0 rfl (by kernel_rfl) (by kernel_rfl) (by kernel_rfl) (by exact enc_len _ _) .grow) ?_
                    refine wpG.takeD 2 true (some 86) (.agg (enc .i32 a0).toArray) (by kernel_rfl) (by kernel_rfl) (yld_loadW (e := 23) (n := 256) hs 3 rfl (by kernel_rfl) (by kernel_rfl) (by kernel_rfl) (by exact enc_len _ _) .grow) ?_
                    refine wpG.takeD 5 true (some 89) (.agg (enc .i32 a0).toArray) (by kernel_rfl) (by kernel_rfl) (yld_loadW (e := 23) (n := 256) hs 3 rfl (by kernel_rfl) (by kernel_rfl) (by kernel_rfl) (by exact enc_len _ _) .grow) ?_
                    refine wpG.takeD 7 false (some 91) (.agg (enc .i32 (zeroA 256)).toArray) (by kernel_rfl) (by kernel_rfl) (yld fun _ => by kernel_rfl) ?_
                    obtain ⟨r25, hg, h⟩ := of_bind h
                    refine wpG.only 3 (by kernel_rfl) (op_call (d := (some 87)) (by kernel_rfl) hs (fun _ => by kernel_rfl) (kq_Times.ok hg _) ?_)
                    intro w gw hs
                    refine ⟨.of gw, ?_⟩
                    obtain ⟨r26, hg, h⟩ := of_bind h
                    refine wpG.only 4 (by kernel_rfl) (op_call (d := (some 88)) (by kernel_rfl) hs (fun _ => by kernel_rfl) (kq_Times.ok hg _) ?_)
                    intro w gw hs
                    refine ⟨.of gw, ?_⟩
                    obtain ⟨r27, hg, h⟩ := of_bind h
                    refine wpG.only 6 (by kernel_rfl) (op_call (d := (some 90)) (by kernel_rfl) hs (fun _ => by kernel_rfl) (kq_Add.ok hg _) ?_)
                    intro w gw hs
                    refine ⟨.of gw, ?_⟩
                    rcases of_ifb h with ⟨hc, h⟩ | ⟨hc, h⟩
                    · refine wpG.takeD 8 false (some 92) (.bool true) (by kernel_rfl) (by kernel_rfl) (yld_bb hc (yld_eqAn (t := 23) (e := 21) (k := .i32) (.tmp 90) (.tmp 91) (by kernel_rfl) (by kernel_rfl) (by kernel_rfl) (by kernel_rfl) (by kernel_rfl) (by kernel_rfl))) ?_
                      refine wpG.fin (by kernel_rfl) rfl (kr _ _ ?_)
                      refine then_n (ks29 _ _ ?_)
                      refine wp_cond_t (by kernel_rfl) ?_
                      refine wp_seq_k fun KS30 ks30 => ?_
                      refine wp_regS (l := [0]) (by kernel_rfl) fun KR kr => ?_
                      refine wpS.take 0 false (some 10) (.bool false) (by kernel_rfl) (yld fun _ => by kernel_rfl) ?_
                      refine wpS.fin rfl (kr _ _ ?_)
                      refine then_n (ks30 _ _ ?_)
                      refine wp_ret ?_
                      refine then_r ?_
                      have q0 := of_some h
                      subst q0
                      exact qq _ _ (post_ret (by kernel_rfl) (run_results [.tmp 10] [.bool false] (by kernel_rfl) (.cons (res_tmp (by kernel_rfl)) .nil)) ⟨congrArg Ending.returned (by kernel_rfl), hs.none⟩)
                    · refine wpG.takeD 8 false (some 92) (.bool false) (by kernel_rfl) (by kernel_rfl) (yld_bb hc (yld_eqAn (t := 23) (e := 21) (k := .i32) (.tmp 90) (.tmp 91) (by kernel_rfl) (by kernel_rfl) (by kernel_rfl) (by kernel_rfl) (by kernel_rfl) (by kernel_rfl))) ?_
                      refine wpG.fin (by kernel_rfl) rfl (kr _ _ ?_)
                      refine then_n (ks29 _ _ ?_)
                      refine wp_cond_f (by kernel_rfl) ?_
                      refine wp_skip ?_
                      refine then_n (ks28 _ _ ?_)
                      refine wp_seq_k fun KS31 ks31 => ?_
                      refine wp_regS (l := [0, 1, 2, 3, 4, 5, 6, 7, 8]) (by kernel_rfl) fun KR kr => ?_
                      refine wpS.take 0 true (some 94) (.agg (enc .i32 a0).toArray) (by kernel_rfl) (yld_loadW (e := 23) (n := 256) hs 3 rfl (by kernel_rfl) (by kernel_rfl) (by kernel_rfl) (by exact enc_len _ _) .grow) ?_
                      obtain ⟨r28, hg, h⟩ := of_bind h
                      refine wpS.only 1 (op_callH (d := (some 95)) (by kernel_rfl) hs (fun _ => by kernel_rfl) (kq_Pack.ok hg _) ?_)
                      rintro ⟨r28_A, r28_n, r28_c⟩ w gw hs
                      have hs := hs.conv (L' := [.ownL (CI .u8) r28_A r28_n r28_c r28 5, .blk b24 (enc .i32 (wr (zeroA 256) 128 1)) 23, .blk b3 (enc .i32 a2) 23, .blk b2 (enc .i32 a1) 23, .blk b1 (enc .i32 a0) 23]) rfl
                      refine ⟨fun _ => trivial, ?_⟩
                      obtain ⟨⟨r29, r30⟩, hg, h⟩ := of_bind h
                      refine wpS.only 2 (op_call (d := (some 96)) (by kernel_rfl) hs (fun _ => by kernel_rfl) (kq_Unpack.ok hg _ (hs.rowL 0 rfl)) ?_)
                      intro w gw hs
                      refine ⟨fun _ => trivial, ?_⟩
                      refine wpS.take 3 false (some 93) (.tuple #[.agg (enc .i32 r29).toArray, .bool r30]) (by kernel_rfl) (yld fun _ => by kernel_rfl) ?_
                      refine wpS.take 4 false (some 97) (.agg (enc .i32 r29).toArray) (by kernel_rfl) (yld fun _ => by kernel_rfl) ?_
                      cases r30 with
                      | true =>
                        have h := of_if_t h
                        refine wpS.take 5 false (some 98) (.bool true) (by kernel_rfl) (yld fun _ => by kernel_rfl) ?_
                        refine wpS.only 6 (op_alloc (t := 23) (d := (some 12)) (by kernel_rfl) hs (enc .i32 (zeroA 256)) (.agg (enc .i32 (zeroA 256)).toArray) (by kernel_rfl) (by kernel_rfl) (by kernel_rfl) ?_)
                        intro b31 w gw hs
                        refine ⟨fun _ => trivial, ?_⟩
                        refine wpS.only 7 (op_storeW (t := 23) (v := .agg (enc .i32 r29).toArray) (d := none) (by kernel_rfl) hs 0 rfl (vs := enc .i32 r29) (n := 256) (by kernel_rfl) (by kernel_rfl) (by kernel_rfl) (by simp [enc_len]) (by simp [enc_len]) (by intro u hu; exact enc_one _ _ u hu) ?_)
                        intro w kp hs
                        refine ⟨fun _ => trivial, ?_⟩
                        refine wpS.take 8 false (some 13) (.bool true) (by kernel_rfl) (yld fun _ => by kernel_rfl) ?_
                        refine wpS.fin rfl (kr _ _ ?_)
                        refine then_n (ks31 _ _ ?_)
                        refine wp_seq_k fun KS32 ks32 => ?_
                        refine wp_regS (l := [0, 1, 2, 3, 4, 5, 6, 7, 8]) (by kernel_rfl) fun KR kr => ?_
                        refine wpS.take 0 false (some 100) (.slice a4_A a4_n a4_c) (by kernel_rfl) (yld fun _ => by kernel_rfl) ?_
                        refine wpS.take 1 false (some 101) (.int .i64 a3) (by kernel_rfl) (yld fun _ => by kernel_rfl) ?_
                        obtain ⟨⟨r32, r33⟩, hg, h⟩ := of_bind h
                        refine wpS.only 2 (op_call (d := (some 102)) (by kernel_rfl) hs (fun _ => by kernel_rfl) (kq_Unpack.ok hg _ (hs.rowR 0 rfl)) ?_)
                        intro w gw hs
                        refine ⟨fun _ => trivial, ?_⟩
                        refine wpS.take 3 false (some 99) (.tuple #[.agg (enc .i32 r32).toArray, .bool r33]) (by kernel_rfl) (yld fun _ => by kernel_rfl) ?_
                        refine wpS.take 4 false (some 103) (.agg (enc .i32 r32).toArray) (by kernel_rfl) (yld fun _ => by kernel_rfl) ?_
                        cases r33 with
                        | true =>
                          have h := of_if_t h
                          refine wpS.take 5 false (some 104) (.bool true) (by kernel_rfl) (yld fun _ => by kernel_rfl) ?_
                          refine wpS.only 6 (op_alloc (t := 23) (d := (some 14)) (by kernel_rfl) hs (enc .i32 (zeroA 256)) (.agg (enc .i32 (zeroA 256)).toArray) (by kernel_rfl) (by kernel_rfl) (by kernel_rfl) ?_)
                          intro b34 w gw hs
                          refine ⟨fun _ => trivial, ?_⟩
                          refine wpS.only 7 (op_storeW (t := 23) (v := .agg (enc .i32 r32).toArray) (d := none) (by kernel_rfl) hs 0 rfl (vs := enc .i32 r32) (n := 256) (by kernel_rfl) (by kernel_rfl) (by kernel_rfl) (by simp [enc_len]) (by simp [enc_len]) (by intro u hu; exact enc_one _ _ u hu) ?_)
                          intro w kp hs
                          refine ⟨fun _ => trivial, ?_⟩
                          refine wpS.take 8 false (some 15) (.bool true) (by kernel_rfl) (yld fun _ => by kernel_rfl) ?_
                          refine wpS.fin rfl (kr _ _ ?_)
                          refine then_n (ks32 _ _ ?_)
                          refine wp_seq_k fun KS33 ks33 => ?_
                          refine wp_regS (l := [0, 1, 2, 3, 4, 5, 6, 7, 8, 9, 10, 11, 12, 13, 14, 15, 16, 17, 18, 19, 20]) (by kernel_rfl) fun KR kr => ?_
                          refine wpS.take 0 false (some 105) (.bool true) (by kernel_rfl) (yld fun _ => by kernel_rfl) ?_
                          refine wpS.take 1 false (some 106) (.bool true) (by kernel_rfl) (yld fun _ => by kernel_rfl) ?_
                          refine wpS.take 2 true (some 107) (.agg (enc .i32 r29).toArray) (by kernel_rfl) (yld_loadW (e := 23) (n := 256) hs 1 rfl (by kernel_rfl) (by kernel_rfl) (by kernel_rfl) (by exact enc_len _ _) .grow) ?_
                          refine wpS.take 3 true (some 108) (.agg (enc .i32 a0).toArray) (by kernel_rfl) (yld_loadW (e := 23) (n := 256) hs 6 rfl (by kernel_rfl) (by kernel_rfl) (by kernel_rfl) (by exact enc_len _ _) .grow) ?_
                          rcases of_ifb h with ⟨hc, h⟩ | ⟨hc, h⟩
                          · refine wpS.take 4 false (some 109) (.bool true) (by kernel_rfl) (yld_bb hc (yld_eqA (t := 23) (e := 21) (k := .i32) (.tmp 107) (.tmp 108) (by kernel_rfl) (by kernel_rfl) (by kernel_rfl) (by kernel_rfl) (by kernel_rfl) (by kernel_rfl))) ?_
                            refine wpS.take 5 false (some 110) (.bool true) (by kernel_rfl) (yld fun _ => by kernel_rfl) ?_
                            refine wpS.take 6 false (some 111) (.bool true) (by kernel_rfl) (yld fun _ => by kernel_rfl) ?_
                            refine wpS.take 7 false (some 112) (.bool true) (by kernel_rfl) (yld fun _ => by kernel_rfl) ?_
                            refine wpS.take 8 false (some 113) (.bool false) (by kernel_rfl) (yld fun _ => by kernel_rfl) ?_
                            refine wpS.take 9 false (some 114) (.bool false) (by kernel_rfl) (yld fun _ => by kernel_rfl) ?_
                            refine wpS.take 10 true (some 115) (.agg (enc .i32 r32).toArray) (by kernel_rfl) (yld_loadW (e := 23) (n := 256) hs 0 rfl (by kernel_rfl) (by kernel_rfl) (by kernel_rfl) (by exact enc_len _ _) .grow) ?_
                            refine wpS.take 11 false (some 116) (.int .i64 a3) (by kernel_rfl) (yld fun _ => by kernel_rfl) ?_
                            obtain ⟨r35, hg, h⟩ := of_bind h
                            refine wpS.only 12 (op_callH (d := (some 117)) (by kernel_rfl) hs (fun _ => by kernel_rfl) (kq_Pack.ok hg _) ?_)
                            rintro ⟨r35_A, r35_n, r35_c⟩ w gw hs
                            have hs := hs.conv (L' := [.ownL (CI .u8) r35_A r35_n r35_c r35 5, .blk b34 (enc .i32 r32) 23, .blk b31 (enc .i32 r29) 23, .ownL (CI .u8) r28_A r28_n r28_c r28 5, .blk b24 (enc .i32 (wr (zeroA 256) 128 1)) 23, .blk b3 (enc .i32 a2) 23, .blk b2 (enc .i32 a1) 23, .blk b1 (enc .i32 a0) 23]) rfl
                            refine ⟨fun _ => trivial, ?_⟩
                            refine wpS.take 13 false (some 118) (.slice a4_A a4_n a4_c) (by kernel_rfl) (yld fun _ => by kernel_rfl) ?_
                            obtain ⟨r36, hg, h⟩ := of_bind h
                            cases r36 with
                            | true =>
                              have h := of_if_t h
                              refine wpS.only 14 (op_call (d := (some 119)) (by kernel_rfl) hs (fun _ => by kernel_rfl) (ref01_Same.ok hg _ (hs.rowL 0 rfl) (hs.rowR 0 rfl)) ?_)
                              intro w gw hs
                              refine ⟨fun _ => trivial, ?_⟩
                              refine wpS.take 15 false (some 120) (.bool true) (by kernel_rfl) (yld fun _ => by kernel_rfl) ?_
                              refine wpS.take 16 false (some 121) (.bool true) (by kernel_rfl) (yld fun _ => by kernel_rfl) ?_
                              refine wpS.take 17 false (some 122) (.bool true) (by kernel_rfl) (yld fun _ => by kernel_rfl) ?_
                              obtain ⟨r37, hg, h⟩ := of_bind h
                              refine wpS.only 18 (op_call (d := (some 123)) (by kernel_rfl) hs (fun _ => by kernel_rfl) (law25_awake.ok hg _) ?_)
                              intro w gw hs
                              refine ⟨fun _ => trivial, ?_⟩
                              refine wpS.take 19 false (some 124) (.bool r37) (by kernel_rfl) (yld fun _ => by kernel_rfl) ?_
                              refine wpS.take 20 false (some 10) (.bool r37) (by kernel_rfl) (yld fun _ => by kernel_rfl) ?_
                              refine wpS.fin rfl (kr _ _ ?_)
                              refine then_n (ks33 _ _ ?_)
                              refine wp_ret ?_
                              have q0 := of_some h
                              subst q0
                              exact qq _ _ (post_ret (by kernel_rfl) (run_results [.tmp 10] [.bool r37] (by kernel_rfl) (.cons (res_tmp (by kernel_rfl)) .nil)) ⟨congrArg Ending.returned (by kernel_rfl), hs.none⟩)
                            | false =>
                              have h := of_if_f h
                              refine wpS.only 14 (op_call (d := (some 119)) (by kernel_rfl) hs (fun _ => by kernel_rfl) (ref01_Same.ok hg _ (hs.rowL 0 rfl) (hs.rowR 0 rfl)) ?_)
                              intro w gw hs
                              refine ⟨fun _ => trivial, ?_⟩
                              refine wpS.take 15 false (some 120) (.bool false) (by kernel_rfl) (yld fun _ => by kernel_rfl) ?_
                              refine wpS.take 16 false (some 121) (.bool false) (by kernel_rfl) (yld fun _ => by kernel_rfl) ?_
                              refine wpS.take 17 false (some 122) (.bool false) (by kernel_rfl) (yld fun _ => by kernel_rfl) ?_
                              refine wpS.take 18 false (some 123) (undef) (by kernel_rfl) (yld fun _ => by kernel_rfl) ?_
                              refine wpS.take 19 false (some 124) (.bool false) (by kernel_rfl) (yld fun _ => by kernel_rfl) ?_
                              refine wpS.take 20 false (some 10) (.bool false) (by kernel_rfl) (yld fun _ => by kernel_rfl) ?_
                              refine wpS.fin rfl (kr _ _ ?_)
                              refine then_n (ks33 _ _ ?_)
                              refine wp_ret ?_
                              have q0 := of_some h
                              subst q0
                              exact qq _ _ (post_ret (by kernel_rfl) (run_results [.tmp 10] [.bool false] (by kernel_rfl) (.cons (res_tmp (by kernel_rfl)) .nil)) ⟨congrArg Ending.returned (by kernel_rfl), hs.none⟩)
                          · refine wpS.take 4 false (some 109) (.bool false) (by kernel_rfl) (yld_bb hc (yld_eqA (t := 23) (e := 21) (k := .i32) (.tmp 107) (.tmp 108) (by kernel_rfl) (by kernel_rfl) (by kernel_rfl) (by kernel_rfl) (by kernel_rfl) (by kernel_rfl))) ?_
                            refine wpS.take 5 false (some 110) (.bool false) (by kernel_rfl) (yld fun _ => by kernel_rfl) ?_
                            refine wpS.take 6 false (some 111) (.bool false) (by kernel_rfl) (yld fun _ => by kernel_rfl) ?_
                            refine wpS.take 7 false (some 112) (undef) (by kernel_rfl) (yld fun _ => by kernel_rfl) ?_
                            refine wpS.take 8 false (some 113) (undef) (by kernel_rfl) (yld fun _ => by kernel_rfl) ?_
                            refine wpS.take 9 false (some 114) (undef) (by kernel_rfl) (yld fun _ => by kernel_rfl) ?_
                            refine wpS.take 10 false (some 115) (undef) (by kernel_rfl) (yld fun _ => by kernel_rfl) ?_
                            refine wpS.take 11 false (some 116) (undef) (by kernel_rfl) (yld fun _ => by kernel_rfl) ?_
                            refine wpS.take 12 false (some 117) (undef) (by kernel_rfl) (yld fun _ => by kernel_rfl) ?_
                            refine wpS.take 13 false (some 118) (undef) (by kernel_rfl) (yld fun _ => by kernel_rfl) ?_
                            refine wpS.take 14 false (some 119) (undef) (by kernel_rfl) (yld fun _ => by kernel_rfl) ?_
                            refine wpS.take 15 false (some 120) (undef) (by kernel_rfl) (yld fun _ => by kernel_rfl) ?_
                            refine wpS.take 16 false (some 121) (.bool false) (by kernel_rfl) (yld fun _ => by kernel_rfl) ?_
                            refine wpS.take 17 false (some 122) (.bool false) (by kernel_rfl) (yld fun _ => by kernel_rfl) ?_
                            refine wpS.take 18 false (some 123) (undef) (by kernel_rfl) (yld fun _ => by kernel_rfl) ?_
                            refine wpS.take 19 false (some 124) (.bool false) (by kernel_rfl) (yld fun _ => by kernel_rfl) ?_
                            refine wpS.take 20 false (some 10) (.bool false) (by kernel_rfl) (yld fun _ => by kernel_rfl) ?_
                            refine wpS.fin rfl (kr _ _ ?_)
                            refine then_n (ks33 _ _ ?_)
                            refine wp_ret ?_
                            have q0 := of_some h
                            subst q0
                            exact qq _ _ (post_ret (by kernel_rfl) (run_results [.tmp 10] [.bool false] (by kernel_rfl) (.cons (res_tmp (by kernel_rfl)) .nil)) ⟨congrArg Ending.returned (by kernel_rfl), hs.none⟩)
                        | false =>
                          have h := of_if_f h
                          refine wpS.take 5 false (some 104) (.bool false) (by kernel_rfl) (yld fun _ => by kernel_rfl) ?_
                          refine wpS.only 6 (op_alloc (t := 23) (d := (some 14)) (by kernel_rfl) hs (enc .i32 (zeroA 256)) (.agg (enc .i32 (zeroA 256)).toArray) (by kernel_rfl) (by kernel_rfl) (by kernel_rfl) ?_)
                          intro b38 w gw hs
                          refine ⟨fun _ => trivial, ?_⟩
                          refine wpS.only 7 (op_storeW (t := 23) (v := .agg (enc .i32 r32).toArray) (d := none) (by kernel_rfl) hs 0 rfl (vs := enc .i32 r32) (n := 256) (by kernel_rfl) (by kernel_rfl) (by kernel_rfl) (by simp [enc_len]) (by simp [enc_len]) (by intro u hu; exact enc_one _ _ u hu) ?_)
                          intro w kp hs
                          refine ⟨fun _ => trivial, ?_⟩
                          refine wpS.take 8 false (some 15) (.bool false) (by kernel_rfl) (yld fun _ => by kernel_rfl) ?_
                          refine wpS.fin rfl (kr _ _ ?_)
                          refine then_n (ks32 _ _ ?_)
                          refine wp_seq_k fun KS34 ks34 => ?_
                          refine wp_regS (l := [0, 1, 2, 3, 4, 5, 6, 7, 8, 9, 10, 11, 12, 13, 14, 15, 16, 17, 18, 19, 20]) (by kernel_rfl) fun KR kr => ?_
                          refine wpS.take 0 false (some 105) (.bool true) (by kernel_rfl) (yld fun _ => by kernel_rfl) ?_
                          refine wpS.take 1 false (some 106) (.bool true) (by kernel_rfl) (yld fun _ => by kernel_rfl) ?_
                          refine wpS.take 2 true (some 107) (.agg (enc .i32 r29).toArray) (by kernel_rfl) (yld_loadW (e := 23) (n := 256) hs 1 rfl (by kernel_rfl) (by kernel_rfl) (by kernel_rfl) (by exact enc_len _ _) .grow) ?_
                          refine wpS.take 3 true (some 108) (.agg (enc .i32 a0).toArray) (by kernel_rfl) (yld_loadW (e := 23) (n := 256) hs 6 rfl (by kernel_rfl) (by kernel_rfl) (by kernel_rfl) (by exact enc_len _ _) .grow) ?_
                          rcases of_ifb h with ⟨hc, h⟩ | ⟨hc, h⟩
                          · refine wpS.take 4 false (some 109) (.bool true) (by kernel_rfl) (yld_bb hc (yld_eqA (t := 23) (e := 21) (k := .i32) (.tmp 107) (.tmp 108) (by kernel_rfl) (by kernel_rfl) (by kernel_rfl) (by kernel_rfl) (by kernel_rfl) (by kernel_rfl))) ?_
                            refine wpS.take 5 false (some 110) (.bool true) (by kernel_rfl) (yld fun _ => by kernel_rfl) ?_
                            refine wpS.take 6 false (some 111) (.bool true) (by kernel_rfl) (yld fun _ => by kernel_rfl) ?_
                            refine wpS.take 7 false (some 112) (.bool false) (by kernel_rfl) (yld fun _ => by kernel_rfl) ?_
                            refine wpS.take 8 false (some 113) (.bool true) (by kernel_rfl) (yld fun _ => by kernel_rfl) ?_
                            refine wpS.take 9 false (some 114) (.bool true) (by kernel_rfl) (yld fun _ => by kernel_rfl) ?_
                            refine wpS.take 10 false (some 115) (undef) (by kernel_rfl) (yld fun _ => by kernel_rfl) ?_
                            refine wpS.take 11 false (some 116) (undef) (by kernel_rfl) (yld fun _ => by kernel_rfl) ?_
                            refine wpS.take 12 false (some 117) (undef) (by kernel_rfl) (yld fun _ => by kernel_rfl) ?_
                            refine wpS.take 13 false (some 118) (undef) (by kernel_rfl) (yld fun _ => by kernel_rfl) ?_
                            refine wpS.take 14 false (some 119) (undef) (by kernel_rfl) (yld fun _ => by kernel_rfl) ?_
                            refine wpS.take 15 false (some 120) (.bool true) (by kernel_rfl) (yld fun _ => by kernel_rfl) ?_
                            refine wpS.take 16 false (some 121) (.bool true) (by kernel_rfl) (yld fun _ => by kernel_rfl) ?_
                            refine wpS.take 17 false (some 122) (.bool true) (by kernel_rfl) (yld fun _ => by kernel_rfl) ?_
                            obtain ⟨r39, hg, h⟩ := of_bind h
                            refine wpS.only 18 (op_call (d := (some 123)) (by kernel_rfl) hs (fun _ => by kernel_rfl) (law25_awake.ok hg _) ?_)
                            intro w gw hs
                            refine ⟨fun _ => trivial, ?_⟩
                            refine wpS.take 19 false (some 124) (.bool r39) (by kernel_rfl) (yld fun _ => by kernel_rfl) ?_
                            refine wpS.take 20 false (some 10) (.bool r39) (by kernel_rfl) (yld fun _ => by kernel_rfl) ?_
                            refine wpS.fin rfl (kr _ _ ?_)
                            refine then_n (ks34 _ _ ?_)
                            refine wp_ret ?_
                            have q0 := of_some h
                            subst q0
                            exact qq _ _ (post_ret (by kernel_rfl) (run_results [.tmp 10] [.bool r39] (by kernel_rfl) (.cons (res_tmp (by kernel_rfl)) .nil)) ⟨congrArg Ending.returned (by kernel_rfl), hs.none⟩)
                          · refine wpS.take 4 false (some 109) (.bool false) (by kernel_rfl) (yld_bb hc (yld_eqA (t := 23) (e := 21) (k := .i32) (.tmp 107) (.tmp 108) (by kernel_rfl) (by kernel_rfl) (by kernel_rfl) (by kernel_rfl) (by kernel_rfl) (by kernel_rfl))) ?_
                            refine wpS.take 5 false (some 110) (.bool false) (by kernel_rfl) (yld fun _ => by kernel_rfl) ?_
                            refine wpS.take 6 false (some 111) (.bool false) (by kernel_rfl) (yld fun _ => by kernel_rfl) ?_
                            refine wpS.take 7 false (some 112) (undef) (by kernel_rfl) (yld fun _ => by kernel_rfl) ?_
                            refine wpS.take 8 false (some 113) (undef) (by kernel_rfl) (yld fun _ => by kernel_rfl) ?_
                            refine wpS.take 9 false (some 114) (undef) (by kernel_rfl) (yld fun _ => by kernel_rfl) ?_
                            refine wpS.take 10 false (some 115) (undef) (by kernel_rfl) (yld fun _ => by kernel_rfl) ?_
                            refine wpS.take 11 false (some 116) (undef) (by kernel_rfl) (yld fun _ => by kernel_rfl) ?_
                            refine wpS.take 12 false (some 117) (undef) (by kernel_rfl) (yld fun _ => by kernel_rfl) ?_
                            refine wpS.take 13 false (some 118) (undef) (by kernel_rfl) (yld fun _ => by kernel_rfl) ?_
                            refine wpS.take 14 false (some 119) (undef) (by kernel_rfl) (yld fun _ => by kernel_rfl) ?_
                            refine wpS.take 15 false (some 120) (undef) (by kernel_rfl) (yld fun _ => by kernel_rfl) ?_
                            refine wpS.take 16 false (some 121) (.bool false) (by kernel_rfl) (yld fun _ => by kernel_rfl) ?_
                            refine wpS.take 17 false (some 122) (.bool false) (by kernel_rfl) (yld fun _ => by kernel_rfl) ?_
                            refine wpS.take 18 false (some 123) (undef) (by kernel_rfl) (yld fun _ => by kernel_rfl) ?_
                            refine wpS.take 19 false (some 124) (.bool false) (by kernel_rfl) (yld fun _ => by kernel_rfl) ?_
                            refine wpS.take 20 false (some 10) (.bool false) (by kernel_rfl) (yld fun _ => by kernel_rfl) ?_
                            refine wpS.fin rfl (kr _ _ ?_)
                            refine then_n (ks34 _ _ ?_)
                            refine wp_ret ?_
                            have q0 := of_some h
                            subst q0
                            exact qq _ _ (post_ret (by kernel_rfl) (run_results [.tmp 10] [.bool false] (by kernel_rfl) (.cons (res_tmp (by kernel_rfl)) .nil)) ⟨congrArg Ending.returned (by kernel_rfl), hs.none⟩)
                      | false =>
                        have h := of_if_f h
                        refine wpS.take 5 false (some 98) (.bool false) (by kernel_rfl) (yld fun _ => by kernel_rfl) ?_
                        refine wpS.only 6 (op_alloc (t := 23) (d := (some 12)) (by kernel_rfl) hs (enc .i32 (zeroA 256)) (.agg (enc .i32 (zeroA 256)).toArray) (by kernel_rfl) (by kernel_rfl) (by kernel_rfl) ?_)
                        intro b40 w gw hs
                        refine ⟨fun _ => trivial, ?_⟩
                        refine wpS.only 7 (op_storeW (t := 23) (v := .agg (enc .i32 r29).toArray) (d := none) (by kernel_rfl) hs 0 rfl (vs := enc .i32 r29) (n := 256) (by kernel_rfl) (by kernel_rfl) (by kernel_rfl) (by simp [enc_len]) (by simp [enc_len]) (by intro u hu; exact enc_one _ _ u hu) ?_)
                        intro w kp hs
                        refine ⟨fun _ => trivial, ?_⟩
                        refine wpS.take 8 false (some 13) (.bool false) (by kernel_rfl) (yld fun _ => by kernel_rfl) ?_
                        refine wpS.fin rfl (kr _ _ ?_)
                        refine then_n (ks31 _ _ ?_)
                        refine wp_seq_k fun KS35 ks35 => ?_
                        refine wp_regS (l := [0, 1, 2, 3, 4, 5, 6, 7, 8]) (by kernel_rfl) fun KR kr => ?_
                        refine wpS.take 0 false (some 100) (.slice a4_A a4_n a4_c) (by kernel_rfl) (yld fun _ => by kernel_rfl) ?_
                        refine wpS.take 1 false (some 101) (.int .i64 a3) (by kernel_rfl) (yld fun _ => by kernel_rfl) ?_
                        obtain ⟨⟨r41, r42⟩, hg, h⟩ := of_bind h
                        refine wpS.only 2 (op_call (d := (some 102)) (by kernel_rfl) hs (fun _ => by kernel_rfl) (kq_Unpack.ok hg _ (hs.rowR 0 rfl)) ?_)
                        intro w gw hs
                        refine ⟨fun _ => trivial, ?_⟩
                        refine wpS.take 3 false (some 99) (.tuple #[.agg (enc .i32 r41).toArray, .bool r42]) (by kernel_rfl) (yld fun _ => by kernel_rfl) ?_
                        refine wpS.take 4 false (some 103) (.agg (enc .i32 r41).toArray) (by kernel_rfl) (yld fun _ => by kernel_rfl) ?_
                        cases r42 with
                        | true =>
                          have h := of_if_t h
                          refine wpS.take 5 false (some 104) (.bool true) (by kernel_rfl) (yld fun _ => by kernel_rfl) ?_
                          refine wpS.only 6 (op_alloc (t := 23) (d := (some 14)) (by kernel_rfl) hs (enc .i32 (zeroA 256)) (.agg (enc .i32 (zeroA 256)).toArray) (by kernel_rfl) (by kernel_rfl) (by kernel_rfl) ?_)
                          intro b43 w gw hs
                          refine ⟨fun _ => trivial, ?_⟩
                          refine wpS.only 7 (op_storeW (t := 23) (v := .agg (enc .i32 r41).toArray) (d := none) (by kernel_rfl) hs 0 rfl (vs := enc .i32 r41) (n := 256) (by kernel_rfl) (by kernel_rfl) (by kernel_rfl) (by simp [enc_len]) (by simp [enc_len]) (by intro u hu; exact enc_one _ _ u hu) ?_)
                          intro w kp hs
                          refine ⟨fun _ => trivial, ?_⟩
                          refine wpS.take 8 false (some 15) (.bool true) (by kernel_rfl) (yld fun _ => by kernel_rfl) ?_
                          refine wpS.fin rfl (kr _ _ ?_)
                          refine then_n (ks35 _ _ ?_)
                          refine wp_seq_k fun KS36 ks36 => ?_
                          refine wp_regS (l := [0, 1, 2, 3, 4, 5, 6, 7, 8, 9, 10, 11, 12, 13, 14, 15, 16, 17, 18, 19, 20]) (by kernel_rfl) fun KR kr => ?_
                          refine wpS.take 0 false (some 105) (.bool false) (by kernel_rfl) (yld fun _ => by kernel_rfl) ?_
                          refine wpS.take 1 false (some 106) (.bool false) (by kernel_rfl) (yld fun _ => by kernel_rfl) ?_
                          refine wpS.take 2 false (some 107) (undef) (by kernel_rfl) (yld fun _ => by kernel_rfl) ?_
                          refine wpS.take 3 false (some 108) (undef) (by kernel_rfl) (yld fun _ => by kernel_rfl) ?_
                          refine wpS.take 4 false (some 109) (undef) (by kernel_rfl) (yld fun _ => by kernel_rfl) ?_
                          refine wpS.take 5 false (some 110) (.bool false) (by kernel_rfl) (yld fun _ => by kernel_rfl) ?_
                          refine wpS.take 6 false (some 111) (.bool false) (by kernel_rfl) (yld fun _ => by kernel_rfl) ?_
                          refine wpS.take 7 false (some 112) (undef) (by kernel_rfl) (yld fun _ => by kernel_rfl) ?_
                          refine wpS.take 8 false (some 113) (undef) (by kernel_rfl) (yld fun _ => by kernel_rfl) ?_
                          refine wpS.take 9 false (some 114) (undef) (by kernel_rfl) (yld fun _ => by kernel_rfl) ?_
                          refine wpS.take 10 false (some 115) (undef) (by kernel_rfl) (yld fun _ => by kernel_rfl) ?_
                          refine wpS.take 11 false (some 116) (undef) (by kernel_rfl) (yld fun _ => by kernel_rfl) ?_
                          refine wpS.take 12 false (some 117) (undef) (by kernel_rfl) (yld fun _ => by kernel_rfl) ?_
                          refine wpS.take 13 false (some 118) (undef) (by kernel_rfl) (yld fun _ => by kernel_rfl) ?_
                          refine wpS.take 14 false (some 119) (undef) (by kernel_rfl) (yld fun _ => by kernel_rfl) ?_
                          refine wpS.take 15 false (some 120) (undef) (by kernel_rfl) (yld fun _ => by kernel_rfl) ?_
                          refine wpS.take 16 false (some 121) (.bool false) (by kernel_rfl) (yld fun _ => by kernel_rfl) ?_
                          refine wpS.take 17 false (some 122) (.bool false) (by kernel_rfl) (yld fun _ => by kernel_rfl) ?_
                          refine wpS.take 18 false (some 123) (undef) (by kernel_rfl) (yld fun _ => by kernel_rfl) ?_
                          refine wpS.take 19 false (some 124) (.bool false) (by kernel_rfl) (yld fun _ => by kernel_rfl) ?_
                          refine wpS.take 20 false (some 10) (.bool false) (by kernel_rfl) (yld fun _ => by kernel_rfl) ?_
                          refine wpS.fin rfl (kr _ _ ?_)
                          refine then_n (ks36 _ _ ?_)
                          refine wp_ret ?_
                          have q0 := of_some h
                          subst q0
                          exact qq _ _ (post_ret (by kernel_rfl) (run_results [.tmp 10] [.bool false] (by kernel_rfl) (.cons (res_tmp (by kernel_rfl)) .nil)) ⟨congrArg Ending.returned (by kernel_rfl), hs.none⟩)
                        | false =>
                          have h := of_if_f h
                          refine wpS.take 5 false (some 104) (.bool false) (by kernel_rfl) (yld fun _ => by kernel_rfl) ?_
                          refine wpS.only 6 (op_alloc (t := 23) (d := (some 14)) (by kernel_rfl) hs (enc .i32 (zeroA 256)) (.agg (enc .i32 (zeroA 256)).toArray) (by kernel_rfl) (by kernel_rfl) (by kernel_rfl) ?_)
                          intro b44 w gw hs
                          refine ⟨fun _ => trivial, ?_⟩
                          refine wpS.only 7 (op_storeW (t := 23) (v := .agg (enc .i32 r41).toArray) (d := none) (by kernel_rfl) hs 0 rfl (vs := enc .i32 r41) (n := 256) (by kernel_rfl) (by kernel_rfl) (by kernel_rfl) (by simp [enc_len]) (by simp [enc_len]) (by intro u hu; exact enc_one _ _ u hu) ?_)
                          intro w kp hs
                          refine ⟨fun _ => trivial, ?_⟩
                          refine wpS.take 8 false (some 15) (.bool false) (by kernel_rfl) (yld fun _ => by kernel_rfl) ?_
                          refine wpS.fin rfl (kr _ _ ?_)
                          refine then_n (ks35 _ _ ?_)
                          refine wp_seq_k fun KS37 ks37 => ?_
                          refine wp_regS (l := [0, 1, 2, 3, 4, 5, 6, 7, 8, 9, 10, 11, 12, 13, 14, 15, 16, 17, 18, 19, 20]) (by kernel_rfl) fun KR kr => ?_
                          refine wpS.take 0 false (some 105) (.bool false) (by kernel_rfl) (yld fun _ => by kernel_rfl) ?_
                          refine wpS.take 1 false (some 106) (.bool false) (by kernel_rfl) (yld fun _ => by kernel_rfl) ?_
                          refine wpS.take 2 false (some 107) (undef) (by kernel_rfl) (yld fun _ => by kernel_rfl) ?_
                          refine wpS.take 3 false (some 108) (undef) (by kernel_rfl) (yld fun _ => by kernel_rfl) ?_
                          refine wpS.take 4 false (some 109) (undef) (by kernel_rfl) (yld fun _ => by kernel_rfl) ?_
                          refine wpS.take 5 false (some 110) (.bool false) (by kernel_rfl) (yld fun _ => by kernel_rfl) ?_
                          refine wpS.take 6 false (some 111) (.bool false) (by kernel_rfl) (yld fun _ => by kernel_rfl) ?_
                          refine wpS.take 7 false (some 112) (undef) (by kernel_rfl) (yld fun _ => by kernel_rfl) ?_
                          refine wpS.take 8 false (some 113) (undef) (by kernel_rfl) (yld fun _ => by kernel_rfl) ?_
                          refine wpS.take 9 false (some 114) (undef) (by kernel_rfl) (yld fun _ => by kernel_rfl) ?_
                          refine wpS.take 10 false (some 115) (undef) (by kernel_rfl) (yld fun _ => by kernel_rfl) ?_
                          refine wpS.take 11 false (some 116) (undef) (by kernel_rfl) (yld fun _ => by kernel_rfl) ?_
                          refine wpS.take 12 false (some 117) (undef) (by kernel_rfl) (yld fun _ => by kernel_rfl) ?_
                          refine wpS.take 13 false (some 118) (undef) (by kernel_rfl) (yld fun _ => by kernel_rfl) ?_
                          refine wpS.take 14 false (some 119) (undef) (by kernel_rfl) (yld fun _ => by kernel_rfl) ?_
                          refine wpS.take 15 false (some 120) (undef) (by kernel_rfl) (yld fun _ => by kernel_rfl) ?_
                          refine wpS.take 16 false (some 121) (.bool false) (by kernel_rfl) (yld fun _ => by kernel_rfl) ?_
                          refine wpS.take 17 false (some 122) (.bool false) (by kernel_rfl) (yld fun _ => by kernel_rfl) ?_
                          refine wpS.take 18 false (some 123) (undef) (by kernel_rfl) (yld fun _ => by kernel_rfl) ?_
                          refine wpS.take 19 false (some 124) (.bool false) (by kernel_rfl) (yld fun _ => by kernel_rfl) ?_
                          refine wpS.take 20 false (some 10) (.bool false) (by kernel_rfl) (yld fun _ => by kernel_rfl) ?_
                          refine wpS.fin rfl (kr _ _ ?_)
                          refine then_n (ks37 _ _ ?_)
                          refine wp_ret ?_
                          have q0 := of_some h
                          subst q0
                          exact qq _ _ (post_ret (by kernel_rfl) (run_results [.tmp 10] [.bool false] (by kernel_rfl) (.cons (res_tmp (by kernel_rfl)) .nil)) ⟨congrArg Ending.returned (by kernel_rfl), hs.none⟩)
      | false =>
        have h := of_if_f h
        refine wpS.only 10 (op_call (d := (some 26)) (by kernel_rfl) hs (fun _ => by kernel_rfl) (ref25_Fit.ok hg _) ?_)
        intro w gw hs
        refine ⟨fun _ => trivial, ?_⟩
        refine wpS.take 11 false (some 27) (.bool true) (by kernel_rfl) (yld fun _ => by kernel_rfl) ?_
        refine wpS.take 12 false (some 28) (.bool true) (by kernel_rfl) (yld fun _ => by kernel_rfl) ?_
        refine wpS.take 13 false (some 29) (.bool true) (by kernel_rfl) (yld fun _ => by kernel_rfl) ?_
        refine wpS.take 14 false (some 30) (undef) (by kernel_rfl) (yld fun _ => by kernel_rfl) ?_
        refine wpS.take 15 false (some 31) (undef) (by kernel_rfl) (yld fun _ => by kernel_rfl) ?_
        refine wpS.take 16 false (some 32) (undef) (by kernel_rfl) (yld fun _ => by kernel_rfl) ?_
        refine wpS.take 17 false (some 33) (.bool true) (by kernel_rfl) (yld fun _ => by kernel_rfl) ?_
        refine wpS.fin rfl (kr _ _ ?_)
        refine then_n (ks8 _ _ ?_)
        refine wp_cond_t (by kernel_rfl) ?_
        refine wp_seq_k fun KS38 ks38 => ?_
        refine wp_regS (l := [0, 1]) (by kernel_rfl) fun KR kr => ?_
        obtain ⟨r45, hg, h⟩ := of_bind h
        refine wpS.only 0 (op_call (d := (some 34)) (by kernel_rfl) hs (fun _ => by kernel_rfl) (law25_awake.ok hg _) ?_)
        intro w gw hs
        refine ⟨fun _ => trivial, ?_⟩
        refine wpS.take 1 false (some 10) (.bool r45) (by kernel_rfl) (yld fun _ => by kernel_rfl) ?_
        refine wpS.fin rfl (kr _ _ ?_)
        refine then_n (ks38 _ _ ?_)
        refine wp_ret ?_
        refine then_r ?_
        have q0 := of_some h
        subst q0
        exact qq _ _ (post_ret (by kernel_rfl) (run_results [.tmp 10] [.bool r45] (by kernel_rfl) (.cons (res_tmp (by kernel_rfl)) .nil)) ⟨congrArg Ending.returned (by kernel_rfl), hs.none⟩)
    | false =>
      have h := of_if_f h
      refine wpS.only 5 (op_call (d := (some 21)) (by kernel_rfl) hs (fun _ => by kernel_rfl) (ref25_Fit.ok hg _) ?_)
      intro w gw hs
      refine ⟨fun _ => trivial, ?_⟩
      refine wpS.take 6 false (some 22) (.bool true) (by kernel_rfl) (yld fun _ => by kernel_rfl) ?_
      refine wpS.take 7 false (some 23) (.bool true) (by kernel_rfl) (yld fun _ => by kernel_rfl) ?_
      refine wpS.take 8 false (some 24) (.bool true) (by kernel_rfl) (yld fun _ => by kernel_rfl) ?_
      refine wpS.take 9 false (some 25) (undef) (by kernel_rfl) (yld fun _ => by kernel_rfl) ?_
      refine wpS.take 10 false (some 26) (undef) (by kernel_rfl) (yld fun _ => by kernel_rfl) ?_
      refine wpS.take 11 false (some 27) (undef) (by kernel_rfl) (yld fun _ => by kernel_rfl) ?_
      refine wpS.take 12 false (some 28) (.bool true) (by kernel_rfl) (yld fun _ => by kernel_rfl) ?_
      refine wpS.take 13 false (some 29) (.bool true) (by kernel_rfl) (yld fun _ => by kernel_rfl) ?_
      refine wpS.take 14 false (some 30) (undef) (by kernel_rfl) (yld fun _ => by kernel_rfl) ?_
      refine wpS.take 15 false (some 31) (undef) (by kernel_rfl) (yld fun _ => by kernel_rfl) ?_
      refine wpS.take 16 false (some 32) (undef) (by kernel_rfl) (yld fun _ => by kernel_rfl) ?_
      refine wpS.take 17 false (some 33) (.bool true) (by kernel_rfl) (yld fun _ => by kernel_rfl) ?_
      refine wpS.fin rfl (kr _ _ ?_)
      refine then_n (ks8 _ _ ?_)
      refine wp_cond_t (by kernel_rfl) ?_
      refine wp_seq_k fun KS39 ks39 => ?_
      refine wp_regS (l := [0, 1]) (by kernel_rfl) fun KR kr => ?_
      obtain ⟨r46, hg, h⟩ := of_bind h
      refine wpS.only 0 (op_call (d := (some 34)) (by kernel_rfl) hs (fun _ => by kernel_rfl) (law25_awake.ok hg _) ?_)
      intro w gw hs
      refine ⟨fun _ => trivial, ?_⟩
      refine wpS.take 1 false (some 10) (.bool r46) (by kernel_rfl) (yld fun _ => by kernel_rfl) ?_
      refine wpS.fin rfl (kr _ _ ?_)
      refine then_n (ks39 _ _ ?_)
      refine wp_ret ?_
      refine then_r ?_
      have q0 := of_some h
      subst q0
      exact qq _ _ (post_ret (by kernel_rfl) (run_results [.tmp 10] [.bool r46] (by kernel_rfl) (.cons (res_tmp (by kernel_rfl)) .nil)) ⟨congrArg Ending.returned (by kernel_rfl), hs.none⟩)
  | false =>
    have h := of_if_f h
    refine wpS.only 1 (op_call (d := (some 17)) (by kernel_rfl) hs (fun _ => by kernel_rfl) (ref25_Fit.ok hg _) ?_)
    intro w gw hs
    refine ⟨fun _ => trivial, ?_⟩
    refine wpS.take 2 false (some 18) (.bool true) (by kernel_rfl) (yld fun _ => by kernel_rfl) ?_
    refine wpS.take 3 false (some 19) (.bool true) (by kernel_rfl) (yld fun _ => by kernel_rfl) ?_
    refine wpS.take 4 false (some 20) (undef) (by kernel_rfl) (yld fun _ => by kernel_rfl) ?_
    refine wpS.take 5 false (some 21) (undef) (by kernel_rfl) (yld fun _ => by kernel_rfl) ?_
    refine wpS.take 6 false (some 22) (undef) (by kernel_rfl) (yld fun _ => by kernel_rfl) ?_
    refine wpS.take 7 false (some 23) (.bool true) (by kernel_rfl) (yld fun _ => by kernel_rfl) ?_
    refine wpS.take 8 false (some 24) (.bool true) (by kernel_rfl) (yld fun _ => by kernel_rfl) ?_
    refine wpS.take 9 false (some 25) (undef) (by kernel_rfl) (yld fun _ => by kernel_rfl) ?_
    refine wpS.take 10 false (some 26) (undef) (by kernel_rfl) (yld fun _ => by kernel_rfl) ?_
    refine wpS.take 11 false (some 27) (undef) (by kernel_rfl) (yld fun _ => by kernel_rfl) ?_
    refine wpS.take 12 false (some 28) (.bool true) (by kernel_rfl) (yld fun _ => by kernel_rfl) ?_
    refine wpS.take 13 false (some 29) (.bool true) (by kernel_rfl) (yld fun _ => by kernel_rfl) ?_
    refine wpS.take 14 false (some 30) (undef) (by kernel_rfl) (yld fun _ => by kernel_rfl) ?_
    refine wpS.take 15 false (some 31) (undef) (by kernel_rfl) (yld fun _ => by kernel_rfl) ?_
    refine wpS.take 16 false (some 32) (undef) (by kernel_rfl) (yld fun _ => by kernel_rfl) ?_
    refine wpS.take 17 false (some 33) (.bool true) (by kernel_rfl) (yld fun _ => by kernel_rfl) ?_
    refine wpS.fin rfl (kr _ _ ?_)
    refine then_n (ks8 _ _ ?_)
    refine wp_cond_t (by kernel_rfl) ?_
    refine wp_seq_k fun KS40 ks40 => ?_
    refine wp_regS (l := [0, 1]) (by kernel_rfl) fun KR kr => ?_
    obtain ⟨r47, hg, h⟩ := of_bind h
    refine wpS.only 0 (op_call (d := (some 34)) (by kernel_rfl) hs (fun _ => by kernel_rfl) (law25_awake.ok hg _) ?_)
    intro w gw hs
    refine ⟨fun _ => trivial, ?_⟩
    refine wpS.take 1 false (some 10) (.bool r47) (by kernel_rfl) (yld fun _ => by kernel_rfl) ?_
    refine wpS.fin rfl (kr _ _ ?_)
    refine then_n (ks40 _ _ ?_)
    refine wp_ret ?_
    refine then_r ?_
    have q0 := of_some h
    subst q0
    exact qq _ _ (post_ret (by kernel_rfl) (run_results [.tmp 10] [.bool r47] (by kernel_rfl) (.cons (res_tmp (by kernel_rfl)) .nil)) ⟨congrArg Ending.returned (by kernel_rfl), hs.none⟩)
end Go.Proofs.Ytijahfdldlmnhab
