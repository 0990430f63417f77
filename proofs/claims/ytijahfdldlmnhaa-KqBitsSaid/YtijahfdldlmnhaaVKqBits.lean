/- Printed by this work's own program: the code of each function below comes to the answer that its plain form tells. -/
import Derived.Test.YtijahfdldlmnhaaMr
import Derived.Test.YtijahfdldlmnhaaProg
import Derived.Test.YtijahfdldlmnhaaLKqBits
import Derived.Test.YtijahfdldlmnhaaKX0
import Derived.Test.YtijahfdldlmnhaaKX1
import Derived.Test.YtijahfdldlmnhaaKX2
import Derived.Test.YtijahfdldlmnhaaKX3
set_option linter.unusedVariables false
set_option maxRecDepth 100000
set_option maxHeartbeats 4000000
namespace Go.Proofs.Ytijahfdldlmnhaa
open Go.Mx
attribute [local irreducible] wpOp

theorem law25_KqBits.ok {K : Nat} {a0 : Arr 256} {a1 : Int} {a2 : List Int} {r0 : Bool} {a2_A : Option Addr} {a2_n : Nat} {a2_c : Nat} (h : law25_KqBits.f K a0 a1 a2 = some r0) (w0 : World) (hp2 : RowL (CI .u8) w0 a2_A a2_n a2_c a2) : Ret Try.prog 8 #[.agg (enc .i32 a0).toArray, .int .i64 a1, .slice a2_A a2_n a2_c] w0 (.bool r0) := by
  refine calls_k Try.func8 rfl fun Q qq => ?_
  have hs := St.startR (all_cons (RowP.ent hp2) all_nil)
  refine wp_conv (a' := ⟨#[.agg (enc .i32 a0).toArray, .int .i64 a1, .slice a2_A a2_n a2_c, undef, undef, undef, undef, undef, undef, undef, undef, undef, undef, undef, undef, undef, undef, undef, undef, undef, undef, undef, undef, undef, undef, undef, undef, undef, undef, undef, undef, undef, undef, undef, undef, undef, undef, undef, undef, undef, undef, undef, undef, undef, undef, undef, undef, undef, undef, undef, undef, undef, undef, undef, undef, undef, undef, undef, undef, undef, undef, undef, undef, undef, undef, undef, undef], []⟩) (by kernel_rfl) ?_
  refine wp_seq_k fun KS1 ks1 => ?_
  refine wp_regS (l := [0, 1]) (by kernel_rfl) fun KR kr => ?_
  refine wpS.only 0 (op_box (t := 23) (v := .agg (enc .i32 a0).toArray) (d := (some 3)) (by kernel_rfl) hs (enc .i32 a0) (by kernel_rfl) (by kernel_rfl) ?_)
  intro b1 w gw hs
  refine ⟨fun _ => trivial, ?_⟩
  refine wpS.take 1 false (some 6) (.bool false) (by kernel_rfl) (yld fun _ => by kernel_rfl) ?_
  refine wpS.fin rfl (kr _ _ ?_)
  refine then_n (ks1 _ _ ?_)
  refine wp_seq_k fun KS4 ks4 => ?_
  refine wp_seq_k fun KS5 ks5 => ?_
  refine wp_regS (l := [0, 1, 2]) (by kernel_rfl) fun KR kr => ?_
  refine wpS.take 0 false (some 11) (.slice a2_A a2_n a2_c) (by kernel_rfl) (yld fun _ => by kernel_rfl) ?_
  refine wpS.take 1 false (some 12) (.int .i64 (a2.length : Int)) (by kernel_rfl) (yld_lenL (hs.rowR 0 rfl) (fun _ => by kernel_rfl)) ?_
  rcases of_if h with ⟨hc, h⟩ | ⟨hc, h⟩
  · refine wpS.take 2 false (some 13) (.bool true) (by kernel_rfl) (yld_b (dt hc) (fun _ => by kernel_rfl)) ?_
    refine wpS.fin rfl (kr _ _ ?_)
    refine then_n (ks5 _ _ ?_)
    refine wp_cond_t (by kernel_rfl) ?_
    refine wp_seq_k fun KS6 ks6 => ?_
    refine wp_regS (l := [0, 1]) (by kernel_rfl) fun KR kr => ?_
    obtain ⟨r2, hg, h⟩ := of_bind h
    refine wpS.only 0 (op_call (d := (some 14)) (by kernel_rfl) hs (fun _ => by kernel_rfl) (law25_awake.ok hg _) ?_)
    intro w gw hs
    refine ⟨fun _ => trivial, ?_⟩
    refine wpS.take 1 false (some 6) (.bool r2) (by kernel_rfl) (yld fun _ => by kernel_rfl) ?_
    refine wpS.fin rfl (kr _ _ ?_)
    refine then_n (ks6 _ _ ?_)
    refine wp_ret ?_
    refine then_r ?_
    have q0 := of_some h
    subst q0
    exact qq _ _ (post_ret (by kernel_rfl) (run_results [.tmp 6] [.bool r2] (by kernel_rfl) (.cons (res_tmp (by kernel_rfl)) .nil)) ⟨congrArg Ending.returned (by kernel_rfl), hs.none⟩)
  · refine wpS.take 2 false (some 13) (.bool false) (by kernel_rfl) (yld_b (df hc) (fun _ => by kernel_rfl)) ?_
    refine wpS.fin rfl (kr _ _ ?_)
    refine then_n (ks5 _ _ ?_)
    refine wp_cond_f (by kernel_rfl) ?_
    refine wp_skip ?_
    refine then_n (ks4 _ _ ?_)
    refine wp_seq_k fun KS7 ks7 => ?_
    refine wp_regS (l := [0, 1, 2, 3, 4, 5, 6, 7, 8]) (by kernel_rfl) fun KR kr => ?_
    refine wpS.take 0 false (some 16) (.slice a2_A a2_n a2_c) (by kernel_rfl) (yld fun _ => by kernel_rfl) ?_
    refine wpS.take 1 false (some 17) (.int .i64 a1) (by kernel_rfl) (yld fun _ => by kernel_rfl) ?_
    obtain ⟨⟨r3, r4⟩, hg, h⟩ := of_bind h
    refine wpS.only 2 (op_call (d := (some 18)) (by kernel_rfl) hs (fun _ => by kernel_rfl) (kq_Unpack.ok hg _ (hs.rowR 0 rfl)) ?_)
    intro w gw hs
    refine ⟨fun _ => trivial, ?_⟩
    refine wpS.take 3 false (some 15) (.tuple #[.agg (enc .i32 r3).toArray, .bool r4]) (by kernel_rfl) (yld fun _ => by kernel_rfl) ?_
    refine wpS.take 4 false (some 19) (.agg (enc .i32 r3).toArray) (by kernel_rfl) (yld fun _ => by kernel_rfl) ?_
    refine wpS.take 5 false (some 20) (.bool r4) (by kernel_rfl) (yld fun _ => by kernel_rfl) ?_
    refine wpS.only 6 (op_alloc (t := 23) (d := (some 7)) (by kernel_rfl) hs (enc .i32 (zeroA 256)) (.agg (enc .i32 (zeroA 256)).toArray) (by kernel_rfl) (by kernel_rfl) (by kernel_rfl) ?_)
    intro b5 w gw hs
    refine ⟨fun _ => trivial, ?_⟩
    refine wpS.only 7 (op_storeW (t := 23) (v := .agg (enc .i32 r3).toArray) (d := none) (by kernel_rfl) hs 0 rfl (vs := enc .i32 r3) (n := 256) (by kernel_rfl) (by kernel_rfl) (by kernel_rfl) (by simp [enc_len]) (by simp [enc_len]) (by intro u hu; exact enc_one _ _ u hu) ?_)
    intro w kp hs
    refine ⟨fun _ => trivial, ?_⟩
    refine wpS.take 8 false (some 8) (.bool r4) (by kernel_rfl) (yld fun _ => by kernel_rfl) ?_
    refine wpS.fin rfl (kr _ _ ?_)
    refine then_n (ks7 _ _ ?_)
    refine wp_seq_k fun KS8 ks8 => ?_
    refine wp_regS (l := [0, 1, 2, 3, 4, 5, 6, 7, 8]) (by kernel_rfl) fun KR kr => ?_
    refine wpS.take 0 false (some 22) (.slice a2_A a2_n a2_c) (by kernel_rfl) (yld fun _ => by kernel_rfl) ?_
    refine wpS.take 1 false (some 23) (.int .i64 a1) (by kernel_rfl) (yld fun _ => by kernel_rfl) ?_
    obtain ⟨⟨r6, r7⟩, hg, h⟩ := of_bind h
    refine wpS.only 2 (op_call (d := (some 24)) (by kernel_rfl) hs (fun _ => by kernel_rfl) (ref25_Unpack.ok hg _ (hs.rowR 0 rfl)) ?_)
    intro w gw hs
    refine ⟨fun _ => trivial, ?_⟩
    refine wpS.take 3 false (some 21) (.tuple #[.agg (enc .i32 r6).toArray, .bool r7]) (by kernel_rfl) (yld fun _ => by kernel_rfl) ?_
    refine wpS.take 4 false (some 25) (.agg (enc .i32 r6).toArray) (by kernel_rfl) (yld fun _ => by kernel_rfl) ?_
    refine wpS.take 5 false (some 26) (.bool r7) (by kernel_rfl) (yld fun _ => by kernel_rfl) ?_
    refine wpS.only 6 (op_alloc (t := 23) (d := (some 9)) (by kernel_rfl) hs (enc .i32 (zeroA 256)) (.agg (enc .i32 (zeroA 256)).toArray) (by kernel_rfl) (by kernel_rfl) (by kernel_rfl) ?_)
    intro b8 w gw hs
    refine ⟨fun _ => trivial, ?_⟩
    refine wpS.only 7 (op_storeW (t := 23) (v := .agg (enc .i32 r6).toArray) (d := none) (by kernel_rfl) hs 0 rfl (vs := enc .i32 r6) (n := 256) (by kernel_rfl) (by kernel_rfl) (by kernel_rfl) (by simp [enc_len]) (by simp [enc_len]) (by intro u hu; exact enc_one _ _ u hu) ?_)
    intro w kp hs
    refine ⟨fun _ => trivial, ?_⟩
    refine wpS.take 8 false (some 10) (.bool r7) (by kernel_rfl) (yld fun _ => by kernel_rfl) ?_
    refine wpS.fin rfl (kr _ _ ?_)
    refine then_n (ks8 _ _ ?_)
    refine wp_seq_k fun KS13 ks13 => ?_
    refine wp_seq_k fun KS14 ks14 => ?_
    refine wp_regG [] (fun k => True) 21 (by kernel_rfl) (by kernel_rfl) fun KR kr => ?_
    have hs := hs.drawn1
    refine wpG.takeD 0 true (some 27) (.agg (enc .i32 r3).toArray) (by kernel_rfl) (by kernel_rfl) (yld_loadW (e := 23) (n := 256) hs 1 rfl (by kernel_rfl) (by kernel_rfl) (by kernel_rfl) (by exact enc_len _ _) .grow) ?_
    refine wpG.takeD 1 true (some 28) (.agg (enc .i32 r6).toArray) (by kernel_rfl) (by kernel_rfl) (yld_loadW (e := 23) (n := 256) hs 0 rfl (by kernel_rfl) (by kernel_rfl) (by kernel_rfl) (by exact enc_len _ _) .grow) ?_
    rcases of_ifb h with ⟨hc, h⟩ | ⟨hc, h⟩
    · refine wpG.takeD 2 false (some 29) (.bool true) (by kernel_rfl) (by kernel_rfl) (yld_bb hc (yld_eqAn (t := 23) (e := 21) (k := .i32) (.tmp 27) (.tmp 28) (by kernel_rfl) (by kernel_rfl) (by kernel_rfl) (by kernel_rfl) (by kernel_rfl) (by kernel_rfl))) ?_
      refine wpG.takeD 3 false (some 30) (.bool true) (by kernel_rfl) (by kernel_rfl) (yld fun _ => by kernel_rfl) ?_
      refine wpG.takeD 4 false (some 31) (undef) (by kernel_rfl) (by kernel_rfl) (yld fun _ => by kernel_rfl) ?_
      refine wpG.takeD 5 false (some 32) (undef) (by kernel_rfl) (by kernel_rfl) (yld fun _ => by kernel_rfl) ?_
      refine wpG.takeD 6 false (some 33) (undef) (by kernel_rfl) (by kernel_rfl) (yld fun _ => by kernel_rfl) ?_
      refine wpG.takeD 7 false (some 34) (.bool true) (by kernel_rfl) (by kernel_rfl) (yld fun _ => by kernel_rfl) ?_
      refine wpG.takeD 8 false (some 35) (.bool true) (by kernel_rfl) (by kernel_rfl) (yld fun _ => by kernel_rfl) ?_
      refine wpG.takeD 9 false (some 36) (undef) (by kernel_rfl) (by kernel_rfl) (yld fun _ => by kernel_rfl) ?_
      refine wpG.takeD 10 false (some 37) (undef) (by kernel_rfl) (by kernel_rfl) (yld fun _ => by kernel_rfl) ?_
      refine wpG.takeD 11 false (some 38) (undef) (by kernel_rfl) (by kernel_rfl) (yld fun _ => by kernel_rfl) ?_
      refine wpG.takeD 12 false (some 39) (undef) (by kernel_rfl) (by kernel_rfl) (yld fun _ => by kernel_rfl) ?_
      refine wpG.takeD 13 false (some 40) (undef) (by kernel_rfl) (by kernel_rfl) (yld fun _ => by kernel_rfl) ?_
      refine wpG.takeD 15 false (some 42) (undef) (by kernel_rfl) (by kernel_rfl) (yld fun _ => by kernel_rfl) ?_
      refine wpG.takeD 16 false (some 43) (undef) (by kernel_rfl) (by kernel_rfl) (yld fun _ => by kernel_rfl) ?_
      refine wpG.takeD 14 false (some 41) (undef) (by kernel_rfl) (by kernel_rfl) (yld fun _ => by kernel_rfl) ?_
      refine wpG.takeD 17 false (some 44) (undef) (by kernel_rfl) (by kernel_rfl) (yld fun _ => by kernel_rfl) ?_
      refine wpG.takeD 18 false (some 45) (undef) (by kernel_rfl) (by kernel_rfl) (yld fun _ => by kernel_rfl) ?_
      refine wpG.takeD 19 false (some 46) (undef) (by kernel_rfl) (by kernel_rfl) (yld fun _ => by kernel_rfl) ?_
      refine wpG.takeD 20 false (some 47) (.bool true) (by kernel_rfl) (by kernel_rfl) (yld fun _ => by kernel_rfl) ?_
      refine wpG.fin (by kernel_rfl) rfl (kr _ _ ?_)
      refine then_n (ks14 _ _ ?_)
      refine wp_cond_t (by kernel_rfl) ?_
      refine wp_seq_k fun KS15 ks15 => ?_
      refine wp_regS (l := [0]) (by kernel_rfl) fun KR kr => ?_
      refine wpS.take 0 false (some 6) (.bool false) (by kernel_rfl) (yld fun _ => by kernel_rfl) ?_
      refine wpS.fin rfl (kr _ _ ?_)
      refine then_n (ks15 _ _ ?_)
      refine wp_ret ?_
      refine then_r ?_
      have q0 := of_some h
      subst q0
      exact qq _ _ (post_ret (by kernel_rfl) (run_results [.tmp 6] [.bool false] (by kernel_rfl) (.cons (res_tmp (by kernel_rfl)) .nil)) ⟨congrArg Ending.returned (by kernel_rfl), hs.none⟩)
    · refine wpG.takeD 2 false (some 29) (.bool false) (by kernel_rfl) (by kernel_rfl) (yld_bb hc (yld_eqAn (t := 23) (e := 21) (k := .i32) (.tmp 27) (.tmp 28) (by kernel_rfl) (by kernel_rfl) (by kernel_rfl) (by kernel_rfl) (by kernel_rfl) (by kernel_rfl))) ?_
      refine wpG.takeD 3 false (some 30) (.bool false) (by kernel_rfl) (by kernel_rfl) (yld fun _ => by kernel_rfl) ?_
      refine wpG.takeD 4 false (some 31) (.bool r4) (by kernel_rfl) (by kernel_rfl) (yld fun _ => by kernel_rfl) ?_
      refine wpG.takeD 5 false (some 32) (.bool r7) (by kernel_rfl) (by kernel_rfl) (yld fun _ => by kernel_rfl) ?_
      rcases of_ifb h with ⟨hc, h⟩ | ⟨hc, h⟩
      · refine wpG.takeD 6 false (some 33) (.bool true) (by kernel_rfl) (by kernel_rfl) (yld_b hc (fun _ => by kernel_rfl)) ?_
        refine wpG.takeD 7 false (some 34) (.bool true) (by kernel_rfl) (by kernel_rfl) (yld fun _ => by kernel_rfl) ?_
        refine wpG.takeD 8 false (some 35) (.bool true) (by kernel_rfl) (by kernel_rfl) (yld fun _ => by kernel_rfl) ?_
        refine wpG.takeD 9 false (some 36) (undef) (by kernel_rfl) (by kernel_rfl) (yld fun _ => by kernel_rfl) ?_
        refine wpG.takeD 10 false (some 37) (undef) (by kernel_rfl) (by kernel_rfl) (yld fun _ => by kernel_rfl) ?_
        refine wpG.takeD 11 false (some 38) (undef) (by kernel_rfl) (by kernel_rfl) (yld fun _ => by kernel_rfl) ?_
        refine wpG.takeD 12 false (some 39) (undef) (by kernel_rfl) (by kernel_rfl) (yld fun _ => by kernel_rfl) ?_
        refine wpG.takeD 13 false (some 40) (undef) (by kernel_rfl) (by kernel_rfl) (yld fun _ => by kernel_rfl) ?_
        refine wpG.takeD 15 false (some 42) (undef) (by kernel_rfl) (by kernel_rfl) (yld fun _ => by kernel_rfl) ?_
        refine wpG.takeD 16 false (some 43) (undef) (by kernel_rfl) (by kernel_rfl) (yld fun _ => by kernel_rfl) ?_
        refine wpG.takeD 14 false (some 41) (undef) (by kernel_rfl) (by kernel_rfl) (yld fun _ => by kernel_rfl) ?_
        refine wpG.takeD 17 false (some 44) (undef) (by kernel_rfl) (by kernel_rfl) (yld fun _ => by kernel_rfl) ?_
        refine wpG.takeD 18 false (some 45) (undef) (by kernel_rfl) (by kernel_rfl) (yld fun _ => by kernel_rfl) ?_
        refine wpG.takeD 19 false (some 46) (undef) (by kernel_rfl) (by kernel_rfl) (yld fun _ => by kernel_rfl) ?_
        refine wpG.takeD 20 false (some 47) (.bool true) (by kernel_rfl) (by kernel_rfl) (yld fun _ => by kernel_rfl) ?_
        refine wpG.fin (by kernel_rfl) rfl (kr _ _ ?_)
        refine then_n (ks14 _ _ ?_)
        refine wp_cond_t (by kernel_rfl) ?_
        refine wp_seq_k fun KS16 ks16 => ?_
        refine wp_regS (l := [0]) (by kernel_rfl) fun KR kr => ?_
        refine wpS.take 0 false (some 6) (.bool false) (by kernel_rfl) (yld fun _ => by kernel_rfl) ?_
        refine wpS.fin rfl (kr _ _ ?_)
        refine then_n (ks16 _ _ ?_)
        refine wp_ret ?_
        refine then_r ?_
        have q0 := of_some h
        subst q0
        exact qq _ _ (post_ret (by kernel_rfl) (run_results [.tmp 6] [.bool false] (by kernel_rfl) (.cons (res_tmp (by kernel_rfl)) .nil)) ⟨congrArg Ending.returned (by kernel_rfl), hs.none⟩)
      · refine wpG.takeD 6 false (some 33) (.bool false) (by kernel_rfl) (by kernel_rfl) (yld_b hc (fun _ => by kernel_rfl)) ?_
        refine wpG.takeD 7 false (some 34) (.bool false) (by kernel_rfl) (by kernel_rfl) (yld fun _ => by kernel_rfl) ?_
        refine wpG.takeD 8 false (some 35) (.bool false) (by kernel_rfl) (by kernel_rfl) (yld fun _ => by kernel_rfl) ?_
        refine wpG.takeD 9 true (some 36) (.agg (enc .i32 a0).toArray) (by kernel_rfl) (by kernel_rfl) (yld_loadW (e := 23) (n := 256) hs 2 rfl (by kernel_rfl) (by kernel_rfl) (by kernel_rfl) (by exact enc_len _ _) .grow) ?_
        obtain ⟨r9, hg, h⟩ := of_bind h
        cases r9 with
        | true =>
          have h := of_if_t h
          refine wpG.only 10 (by kernel_rfl) (op_call (d := (some 37)) (by kernel_rfl) hs (fun _ => by kernel_rfl) (ref25_Fit.ok hg _) ?_)
          intro w gw hs
          refine ⟨.of gw, ?_⟩
          refine wpG.takeD 11 false (some 38) (.bool true) (by kernel_rfl) (by kernel_rfl) (yld fun _ => by kernel_rfl) ?_
          refine wpG.takeD 12 true (some 39) (.agg (enc .i32 a0).toArray) (by kernel_rfl) (by kernel_rfl) (yld_loadW (e := 23) (n := 256) hs 2 rfl (by kernel_rfl) (by kernel_rfl) (by kernel_rfl) (by exact enc_len _ _) .grow) ?_
          refine wpG.takeD 13 false (some 40) (.int .i64 a1) (by kernel_rfl) (by kernel_rfl) (yld fun _ => by kernel_rfl) ?_
          refine wpG.takeD 15 true (some 42) (.agg (enc .i32 a0).toArray) (by kernel_rfl) (by kernel_rfl) (yld_loadW (e := 23) (n := 256) hs 2 rfl (by kernel_rfl) (by kernel_rfl) (by kernel_rfl) (by exact enc_len _ _) .grow) ?_
          refine wpG.takeD 16 false (some 43) (.int .i64 a1) (by kernel_rfl) (by kernel_rfl) (yld fun _ => by kernel_rfl) ?_
          obtain ⟨r10, hg, h⟩ := of_bind h
          refine wpG.only 14 (by kernel_rfl) (op_call (d := (some 41)) (by kernel_rfl) hs (fun _ => by kernel_rfl) (kq_Squeeze.ok hg _) ?_)
          intro w gw hs
          refine ⟨.of gw, ?_⟩
          obtain ⟨r11, hg, h⟩ := of_bind h
          refine wpG.only 17 (by kernel_rfl) (op_call (d := (some 44)) (by kernel_rfl) hs (fun _ => by kernel_rfl) (ref25_Squeeze.ok hg _) ?_)
          intro w gw hs
          refine ⟨.of gw, ?_⟩
          rcases of_ifb h with ⟨hc, h⟩ | ⟨hc, h⟩
          · refine wpG.takeD 18 false (some 45) (.bool true) (by kernel_rfl) (by kernel_rfl) (yld_bb hc (yld_eqAn (t := 23) (e := 21) (k := .i32) (.tmp 41) (.tmp 44) (by kernel_rfl) (by kernel_rfl) (by kernel_rfl) (by kernel_rfl) (by kernel_rfl) (by kernel_rfl))) ?_
            refine wpG.takeD 19 false (some 46) (.bool true) (by kernel_rfl) (by kernel_rfl) (yld fun _ => by kernel_rfl) ?_
            refine wpG.takeD 20 false (some 47) (.bool true) (by kernel_rfl) (by kernel_rfl) (yld fun _ => by kernel_rfl) ?_
            refine wpG.fin (by kernel_rfl) rfl (kr _ _ ?_)
            refine then_n (ks14 _ _ ?_)
            refine wp_cond_t (by kernel_rfl) ?_
            refine wp_seq_k fun KS17 ks17 => ?_
            refine wp_regS (l := [0]) (by kernel_rfl) fun KR kr => ?_
            refine wpS.take 0 false (some 6) (.bool false) (by kernel_rfl) (yld fun _ => by kernel_rfl) ?_
            refine wpS.fin rfl (kr _ _ ?_)
            refine then_n (ks17 _ _ ?_)
            refine wp_ret ?_
            refine then_r ?_
            have q0 := of_some h
            subst q0
            exact qq _ _ (post_ret (by kernel_rfl) (run_results [.tmp 6] [.bool false] (by kernel_rfl) (.cons (res_tmp (by kernel_rfl)) .nil)) ⟨congrArg Ending.returned (by kernel_rfl), hs.none⟩)
          · refine wpG.takeD 18 false (some 45) (.bool false) (by kernel_rfl) (by kernel_rfl) (yld_bb hc (yld_eqAn (t := 23) (e := 21) (k := .i32) (.tmp 41) (.tmp 44) (by kernel_rfl) (by kernel_rfl) (by kernel_rfl) (by kernel_rfl) (by kernel_rfl) (by kernel_rfl))) ?_
            refine wpG.takeD 19 false (some 46) (.bool false) (by kernel_rfl) (by kernel_rfl) (yld fun _ => by kernel_rfl) ?_
            refine wpG.takeD 20 false (some 47) (.bool false) (by kernel_rfl) (by kernel_rfl) (yld fun _ => by kernel_rfl) ?_
            refine wpG.fin (by kernel_rfl) rfl (kr _ _ ?_)
            refine then_n (ks14 _ _ ?_)
            refine wp_cond_f (by kernel_rfl) ?_
            refine wp_skip ?_
            refine then_n (ks13 _ _ ?_)
            refine wp_seq_k fun KS18 ks18 => ?_
            refine wp_regG [] (fun k => True) 20 (by kernel_rfl) (by kernel_rfl) fun KR kr => ?_
            have hs := hs.drawn1
            refine wpG.takeD 0 true (some 48) (.agg (enc .i32 a0).toArray) (by kernel_rfl) (by kernel_rfl) (yld_loadW (e := 23) (n := 256) hs 2 rfl (by kernel_rfl) (by kernel_rfl) (by kernel_rfl) (by exact enc_len _ _) .grow) ?_
            refine wpG.takeD 1 false (some 49) (.int .i64 a1) (by kernel_rfl) (by kernel_rfl) (yld fun _ => by kernel_rfl) ?_
            refine wpG.takeD 3 true (some 51) (.agg (enc .i32 a0).toArray) (by kernel_rfl) (by kernel_rfl) (yld_loadW (e := 23) (n := 256) hs 2 rfl (by kernel_rfl) (by kernel_rfl) (by kernel_rfl) (by exact enc_len _ _) .grow) ?_
            refine wpG.takeD 4 false (some 52) (.int .i64 a1) (by kernel_rfl) (by kernel_rfl) (yld fun _ => by kernel_rfl) ?_
            obtain ⟨r12, hg, h⟩ := of_bind h
            refine wpG.only 2 (by kernel_rfl) (op_call (d := (some 50)) (by kernel_rfl) hs (fun _ => by kernel_rfl) (kq_Widen.ok hg _) ?_)
            intro w gw hs
            refine ⟨.of gw, ?_⟩
            obtain ⟨r13, hg, h⟩ := of_bind h
            refine wpG.only 5 (by kernel_rfl) (op_call (d := (some 53)) (by kernel_rfl) hs (fun _ => by kernel_rfl) (ref25_Widen.ok hg _) ?_)
            intro w gw hs
            refine ⟨.of gw, ?_⟩
            rcases of_ifb h with ⟨hc, h⟩ | ⟨hc, h⟩
            · refine wpG.takeD 6 false (some 54) (.bool true) (by kernel_rfl) (by kernel_rfl) (yld_bb hc (yld_eqA (t := 23) (e := 21) (k := .i32) (.tmp 50) (.tmp 53) (by kernel_rfl) (by kernel_rfl) (by kernel_rfl) (by kernel_rfl) (by kernel_rfl) (by kernel_rfl))) ?_
              refine wpG.takeD 7 false (some 55) (.bool true) (by kernel_rfl) (by kernel_rfl) (yld fun _ => by kernel_rfl) ?_
              refine wpG.takeD 8 true (some 56) (.agg (enc .i32 a0).toArray) (by kernel_rfl) (by kernel_rfl) (yld_loadW (e := 23) (n := 256) hs 2 rfl (by kernel_rfl) (by kernel_rfl) (by kernel_rfl) (by exact enc_len _ _) .grow) ?_
              refine wpG.takeD 9 false (some 57) (.int .i64 a1) (by kernel_rfl) (by kernel_rfl) (yld fun _ => by kernel_rfl) ?_
              refine wpG.takeD 11 true (some 59) (.agg (enc .i32 a0).toArray) (by kernel_rfl) (by kernel_rfl) (yld_loadW (e := 23) (n := 256) hs 2 rfl (by kernel_rfl) (by kernel_rfl) (by kernel_rfl) (by exact enc_len _ _) .grow) ?_
              refine wpG.takeD 12 false (some 60) (.int .i64 a1) (by kernel_rfl) (by kernel_rfl) (yld fun _ => by kernel_rfl) ?_
              obtain ⟨r14, hg, h⟩ := of_bind h
              refine wpG.only 10 (by kernel_rfl) (op_callH (d := (some 58)) (by kernel_rfl) hs (fun _ => by kernel_rfl) (kq_Pack.ok hg _) ?_)
              rintro ⟨r14_A, r14_n, r14_c⟩ w gw hs
              have hs := hs.conv (L' := [.ownL (CI .u8) r14_A r14_n r14_c r14 5, .blk b8 (enc .i32 r6) 23, .blk b5 (enc .i32 r3) 23, .blk b1 (enc .i32 a0) 23]) rfl
              refine ⟨.of gw, ?_⟩
              obtain ⟨r15, hg, h⟩ := of_bind h
              refine wpG.only 13 (by kernel_rfl) (op_callH (d := (some 61)) (by kernel_rfl) hs (fun _ => by kernel_rfl) (ref25_Pack.ok hg _) ?_)
              rintro ⟨r15_A, r15_n, r15_c⟩ w gw hs
              have hs := hs.conv (L' := [.ownL (CI .u8) r15_A r15_n r15_c r15 5, .ownL (CI .u8) r14_A r14_n r14_c r14 5, .blk b8 (enc .i32 r6) 23, .blk b5 (enc .i32 r3) 23, .blk b1 (enc .i32 a0) 23]) rfl
              refine ⟨.of gw, ?_⟩
              obtain ⟨r16, hg, h⟩ := of_bind h
              cases r16 with
              | true =>
                have h := of_if_t h
                refine wpG.only 14 (by kernel_rfl) (op_call (d := (some 62)) (by kernel_rfl) hs (fun _ => by kernel_rfl) (ref01_Same.ok hg _ (hs.rowL 1 rfl) (hs.rowL 0 rfl)) ?_)
                intro w gw hs
                refine ⟨.of gw, ?_⟩
                refine wpG.takeD 15 false (some 63) (.bool true) (by kernel_rfl) (by kernel_rfl) (yld fun _ => by kernel_rfl) ?_
                refine wpG.takeD 16 false (some 64) (.bool true) (by kernel_rfl) (by kernel_rfl) (yld fun _ => by kernel_rfl) ?_
                obtain ⟨r17, hg, h⟩ := of_bind h
                refine wpG.only 17 (by kernel_rfl) (op_call (d := (some 65)) (by kernel_rfl) hs (fun _ => by kernel_rfl) (law25_awake.ok hg _) ?_)
                intro w gw hs
                refine ⟨.of gw, ?_⟩
                refine wpG.takeD 18 false (some 66) (.bool r17) (by kernel_rfl) (by kernel_rfl) (yld fun _ => by kernel_rfl) ?_
                refine wpG.takeD 19 false (some 6) (.bool r17) (by kernel_rfl) (by kernel_rfl) (yld fun _ => by kernel_rfl) ?_
                refine wpG.fin (by kernel_rfl) rfl (kr _ _ ?_)
                refine then_n (ks18 _ _ ?_)
                refine wp_ret ?_
                have q0 := of_some h
                subst q0
                exact qq _ _ (post_ret (by kernel_rfl) (run_results [.tmp 6] [.bool r17] (by kernel_rfl) (.cons (res_tmp (by kernel_rfl)) .nil)) ⟨congrArg Ending.returned (by kernel_rfl), hs.none⟩)
              | false =>
                have h := of_if_f h
                refine wpG.only 14 (by kernel_rfl) (op_call (d := (some 62)) (by kernel_rfl) hs (fun _ => by kernel_rfl) (ref01_Same.ok hg _ (hs.rowL 1 rfl) (hs.rowL 0 rfl)) ?_)
                intro w gw hs
                refine ⟨.of gw, ?_⟩
                refine wpG.takeD 15 false (some 63) (.bool false) (by kernel_rfl) (by kernel_rfl) (yld fun _ => by kernel_rfl) ?_
                refine wpG.takeD 16 false (some 64) (.bool false) (by kernel_rfl) (by kernel_rfl) (yld fun _ => by kernel_rfl) ?_
                refine wpG.takeD 17 false (some 65) (undef) (by kernel_rfl) (by kernel_rfl) (yld fun _ => by kernel_rfl) ?_
                refine wpG.takeD 18 false (some 66) (.bool false) (by kernel_rfl) (by kernel_rfl) (yld fun _ => by kernel_rfl) ?_
                refine wpG.takeD 19 false (some 6) (.bool false) (by kernel_rfl) (by kernel_rfl) (yld fun _ => by kernel_rfl) ?_
                refine wpG.fin (by kernel_rfl) rfl (kr _ _ ?_)
                refine then_n (ks18 _ _ ?_)
                refine wp_ret ?_
                have q0 := of_some h
                subst q0
                exact qq _ _ (post_ret (by kernel_rfl) (run_results [.tmp 6] [.bool false] (by kernel_rfl) (.cons (res_tmp (by kernel_rfl)) .nil)) ⟨congrArg Ending.returned (by kernel_rfl), hs.none⟩)
            · refine wpG.takeD 6 false (some 54) (.bool false) (by kernel_rfl) (by kernel_rfl) (yld_bb hc (yld_eqA (t := 23) (e := 21) (k := .i32) (.tmp 50) (.tmp 53) (by kernel_rfl) (by kernel_rfl) (by kernel_rfl) (by kernel_rfl) (by kernel_rfl) (by kernel_rfl))) ?_
              refine wpG.takeD 7 false (some 55) (.bool false) (by kernel_rfl) (by kernel_rfl) (yld fun _ => by kernel_rfl) ?_
              refine wpG.takeD 8 false (some 56) (undef) (by kernel_rfl) (by kernel_rfl) (yld fun _ => by kernel_rfl) ?_
              refine wpG.takeD 9 false (some 57) (undef) (by kernel_rfl) (by kernel_rfl) (yld fun _ => by kernel_rfl) ?_
              refine wpG.takeD 11 false (some 59) (undef) (by kernel_rfl) (by kernel_rfl) (yld fun _ => by kernel_rfl) ?_
              refine wpG.takeD 12 false (some 60) (undef) (by kernel_rfl) (by kernel_rfl) (yld fun _ => by kernel_rfl) ?_
              refine wpG.takeD 10 false (some 58) (undef) (by kernel_rfl) (by kernel_rfl) (yld fun _ => by kernel_rfl) ?_
              refine wpG.takeD 13 false (some 61) (undef) (by kernel_rfl) (by kernel_rfl) (yld fun _ => by kernel_rfl) ?_
              refine wpG.takeD 14 false (some 62) (undef) (by kernel_rfl) (by kernel_rfl) (yld fun _ => by kernel_rfl) ?_
              refine wpG.takeD 15 false (some 63) (.bool false) (by kernel_rfl) (by kernel_rfl) (yld fun _ => by kernel_rfl) ?_
              refine wpG.takeD 16 false (some 64) (.bool false) (by kernel_rfl) (by kernel_rfl) (yld fun _ => by kernel_rfl) ?_
              refine wpG.takeD 17 false (some 65) (undef) (by kernel_rfl) (by kernel_rfl) (yld fun _ => by kernel_rfl) ?_
              refine wpG.takeD 18 false (some 66) (.bool false) (by kernel_rfl) (by kernel_rfl) (yld fun _ => by kernel_rfl) ?_
              refine wpG.takeD 19 false (some 6) (.bool false) (by kernel_rfl) (by kernel_rfl) (yld fun _ => by kernel_rfl) ?_
              refine wpG.fin (by kernel_rfl) rfl (kr _ _ ?_)
              refine then_n (ks18 _ _ ?_)
              refine wp_ret ?_
              have q0 := of_some h
              subst q0
              exact qq _ _ (post_ret (by kernel_rfl) (run_results [.tmp 6] [.bool false] (by kernel_rfl) (.cons (res_tmp (by kernel_rfl)) .nil)) ⟨congrArg Ending.returned (by kernel_rfl), hs.none⟩)
        | false =>
          have h := of_if_f h
          refine wpG.only 10 (by kernel_rfl) (op_call (d := (some 37)) (by kernel_rfl) hs (fun _ => by kernel_rfl) (ref25_Fit.ok hg _) ?_)
          intro w gw hs
          refine ⟨.of gw, ?_⟩
          refine wpG.takeD 11 false (some 38) (.bool false) (by kernel_rfl) (by kernel_rfl) (yld fun _ => by kernel_rfl) ?_
          refine wpG.takeD 12 false (some 39) (undef) (by kernel_rfl) (by kernel_rfl) (yld fun _ => by kernel_rfl) ?_
          refine wpG.takeD 13 false (some 40) (undef) (by kernel_rfl) (by kernel_rfl) (yld fun _ => by kernel_rfl) ?_
          refine wpG.takeD 15 false (some 42) (undef) (by kernel_rfl) (by kernel_rfl) (yld fun _ => by kernel_rfl) ?_
          refine wpG.takeD 16 false (some 43) (undef) (by kernel_rfl) (by kernel_rfl) (yld fun _ => by kernel_rfl) ?_
          refine wpG.takeD 14 false (some 41) (undef) (by kernel_rfl) (by kernel_rfl) (yld fun _ => by kernel_rfl) ?_
          refine wpG.takeD 17 false (some 44) (undef) (by kernel_rfl) (by kernel_rfl) (yld fun _ => by kernel_rfl) ?_
          refine wpG.takeD 18 false (some 45) (undef) (by kernel_rfl) (by kernel_rfl) (yld fun _ => by kernel_rfl) ?_
          refine wpG.takeD 19 false (some 46) (.bool false) (by kernel_rfl) (by kernel_rfl) (yld fun _ => by kernel_rfl) ?_
          refine wpG.takeD 20 false (some 47) (.bool false) (by kernel_rfl) (by kernel_rfl) (yld fun _ => by kernel_rfl) ?_
          refine wpG.fin (by kernel_rfl) rfl (kr _ _ ?_)
          refine then_n (ks14 _ _ ?_)
          refine wp_cond_f (by kernel_rfl) ?_
          refine wp_skip ?_
          refine then_n (ks13 _ _ ?_)
          refine wp_seq_k fun KS19 ks19 => ?_
          refine wp_regG [] (fun k => True) 20 (by kernel_rfl) (by kernel_rfl) fun KR kr => ?_
          have hs := hs.drawn1
          refine wpG.takeD 0 true (some 48) (.agg (enc .i32 a0).toArray) (by kernel_rfl) (by kernel_rfl) (yld_loadW (e := 23) (n := 256) hs 2 rfl (by kernel_rfl) (by kernel_rfl) (by kernel_rfl) (by exact enc_len _ _) .grow) ?_
          refine wpG.takeD 1 false (some 49) (.int .i64 a1) (by kernel_rfl) (by kernel_rfl) (yld fun _ => by kernel_rfl) ?_
          refine wpG.takeD 3 true (some 51) (.agg (enc .i32 a0).toArray) (by kernel_rfl) (by kernel_rfl) (yld_loadW (e := 23) (n := 256) hs 2 rfl (by kernel_rfl) (by kernel_rfl) (by kernel_rfl) (by exact enc_len _ _) .grow) ?_
          refine wpG.takeD 4 false (some 52) (.int .i64 a1) (by kernel_rfl) (by kernel_rfl) (yld fun _ => by kernel_rfl) ?_
          obtain ⟨r18, hg, h⟩ := of_bind h
          refine wpG.only 2 (by kernel_rfl) (op_call (d := (some 50)) (by kernel_rfl) hs (fun _ => by kernel_rfl) (kq_Widen.ok hg _) ?_)
          intro w gw hs
          refine ⟨.of gw, ?_⟩
          obtain ⟨r19, hg, h⟩ := of_bind h
          refine wpG.only 5 (by kernel_rfl) (op_call (d := (some 53)) (by kernel_rfl) hs (fun _ => by kernel_rfl) (ref25_Widen.ok hg _) ?_)
          intro w gw hs
          refine ⟨.of gw, ?_⟩
          rcases of_ifb h with ⟨hc, h⟩ | ⟨hc, h⟩
          · refine wpG.takeD 6 false (some 54) (.bool true) (by kernel_rfl) (by kernel_rfl) (yld_bb hc (yld_eqA (t := 23) (e := 21) (k := .i32) (.tmp 50) (.tmp 53) (by kernel_rfl) (by kernel_rfl) (by kernel_rfl) (by kernel_rfl) (by kernel_rfl) (by kernel_rfl))) ?_
            refine wpG.takeD 7 false (some 55) (.bool true) (by kernel_rfl) (by kernel_rfl) (yld fun _ => by kernel_rfl) ?_
            refine wpG.takeD 8 true (some 56) (.agg (enc .i32 a0).toArray) (by kernel_rfl) (by kernel_rfl) (yld_loadW (e := 23) (n := 256) hs 2 rfl (by kernel_rfl) (by kernel_rfl) (by kernel_rfl) (by exact enc_len _ _) .grow) ?_
            refine wpG.takeD 9 false (some 57) (.int .i64 a1) (by kernel_rfl) (by kernel_rfl) (yld fun _ => by kernel_rfl) ?_
            refine wpG.takeD 11 true (some 59) (.agg (enc .i32 a0).toArray) (by kernel_rfl) (by kernel_rfl) (yld_loadW (e := 23) (n := 256) hs 2 rfl (by kernel_rfl) (by kernel_rfl) (by kernel_rfl) (by exact enc_len _ _) .grow) ?_
            refine wpG.takeD 12 false (some 60) (.int .i64 a1) (by kernel_rfl) (by kernel_rfl) (yld fun _ => by kernel_rfl) ?_
            obtain ⟨r20, hg, h⟩ := of_bind h
            refine wpG.only 10 (by kernel_rfl) (op_callH (d := (some 58)) (by kernel_rfl) hs (fun _ => by kernel_rfl) (kq_Pack.ok hg _) ?_)
            rintro ⟨r20_A, r20_n, r20_c⟩ w gw hs
            have hs := hs.conv (L' := [.ownL (CI .u8) r20_A r20_n r20_c r20 5, .blk b8 (enc .i32 r6) 23, .blk b5 (enc .i32 r3) 23, .blk b1 (enc .i32 a0) 23]) rfl
            refine ⟨.of gw, ?_⟩
            obtain ⟨r21, hg, h⟩ := of_bind h
            refine wpG.only 13 (by kernel_rfl) (op_callH (d := (some 61)) (by kernel_rfl) hs (fun _ => by kernel_rfl) (ref25_Pack.ok hg _) ?_)
            rintro ⟨r21_A, r21_n, r21_c⟩ w gw hs
            have hs := hs.conv (L' := [.ownL (CI .u8) r21_A r21_n r21_c r21 5, .ownL (CI .u8) r20_A r20_n r20_c r20 5, .blk b8 (enc .i32 r6) 23, .blk b5 (enc .i32 r3) 23, .blk b1 (enc .i32 a0) 23]) rfl
            refine ⟨.of gw, ?_⟩
            obtain ⟨r22, hg, h⟩ := of_bind h
            cases r22 with
            | true =>
              have h := of_if_t h
              refine wpG.only 14 (by kernel_rfl) (op_call (d := (some 62)) (by kernel_rfl) hs (fun _ => by kernel_rfl) (ref01_Same.ok hg _ (hs.rowL 1 rfl) (hs.rowL 0 rfl)) ?_)
              intro w gw hs
              refine ⟨.of gw, ?_⟩
              refine wpG.takeD 15 false (some 63) (.bool true) (by kernel_rfl) (by kernel_rfl) (yld fun _ => by kernel_rfl) ?_
              refine wpG.takeD 16 false (some 64) (.bool true) (by kernel_rfl) (by kernel_rfl) (yld fun _ => by kernel_rfl) ?_
              obtain ⟨r23, hg, h⟩ := of_bind h
              refine wpG.only 17 (by kernel_rfl) (op_call (d := (some 65)) (by kernel_rfl) hs (fun _ => by kernel_rfl) (law25_awake.ok hg _) ?_)
              intro w gw hs
              refine ⟨.of gw, ?_⟩
              refine wpG.takeD 18 false (some 66) (.bool r23) (by kernel_rfl) (by kernel_rfl) (yld fun _ => by kernel_rfl) ?_
              refine wpG.takeD 19 false (some 6) (.bool r23) (by kernel_rfl) (by kernel_rfl) (yld fun _ => by kernel_rfl) ?_
              refine wpG.fin (by kernel_rfl) rfl (kr _ _ ?_)
              refine then_n (ks19 _ _ ?_)
              refine wp_ret ?_
              have q0 := of_some h
              subst q0
              exact qq _ _ (post_ret (by kernel_rfl) (run_results [.tmp 6] [.bool r23] (by kernel_rfl) (.cons (res_tmp (by kernel_rfl)) .nil)) ⟨congrArg Ending.returned (by kernel_rfl), hs.none⟩)
            | false =>
              have h := of_if_f h
              refine wpG.only 14 (by kernel_rfl) (op_call (d := (some 62)) (by kernel_rfl) hs (fun _ => by kernel_rfl) (ref01_Same.ok hg _ (hs.rowL 1 rfl) (hs.rowL 0 rfl)) ?_)
              intro w gw hs
              refine ⟨.of gw, ?_⟩
              refine wpG.takeD 15 false (some 63) (.bool false) (by kernel_rfl) (by kernel_rfl) (yld fun _ => by kernel_rfl) ?_
              refine wpG.takeD 16 false (some 64) (.bool false) (by kernel_rfl) (by kernel_rfl) (yld fun _ => by kernel_rfl) ?_
              refine wpG.takeD 17 false (some 65) (undef) (by kernel_rfl) (by kernel_rfl) (yld fun _ => by kernel_rfl) ?_
              refine wpG.takeD 18 false (some 66) (.bool false) (by kernel_rfl) (by kernel_rfl) (yld fun _ => by kernel_rfl) ?_
              refine wpG.takeD 19 false (some 6) (.bool false) (by kernel_rfl) (by kernel_rfl) (yld fun _ => by kernel_rfl) ?_
              refine wpG.fin (by kernel_rfl) rfl (kr _ _ ?_)
              refine then_n (ks19 _ _ ?_)
              refine wp_ret ?_
              have q0 := of_some h
              subst q0
              exact qq _ _ (post_ret (by kernel_rfl) (run_results [.tmp 6] [.bool false] (by kernel_rfl) (.cons (res_tmp (by kernel_rfl)) .nil)) ⟨congrArg Ending.returned (by kernel_rfl), hs.none⟩)
          · refine wpG.takeD 6 false (some 54) (.bool false) (by kernel_rfl) (by kernel_rfl) (yld_bb hc (yld_eqA (t := 23) (e := 21) (k := .i32) (.tmp 50) (.tmp 53) (by kernel_rfl) (by kernel_rfl) (by kernel_rfl) (by kernel_rfl) (by kernel_rfl) (by kernel_rfl))) ?_
            refine wpG.takeD 7 false (some 55) (.bool false) (by kernel_rfl) (by kernel_rfl) (yld fun _ => by kernel_rfl) ?_
            refine wpG.takeD 8 false (some 56) (undef) (by kernel_rfl) (by kernel_rfl) (yld fun _ => by kernel_rfl) ?_
            refine wpG.takeD 9 false (some 57) (undef) (by kernel_rfl) (by kernel_rfl) (yld fun _ => by kernel_rfl) ?_
            refine wpG.takeD 11 false (some 59) (undef) (by kernel_rfl) (by kernel_rfl) (yld fun _ => by kernel_rfl) ?_
            refine wpG.takeD 12 false (some 60) (undef) (by kernel_rfl) (by kernel_rfl) (yld fun _ => by kernel_rfl) ?_
            refine wpG.takeD 10 false (some 58) (undef) (by kernel_rfl) (by kernel_rfl) (yld fun _ => by kernel_rfl) ?_
            refine wpG.takeD 13 false (some 61) (undef) (by kernel_rfl) (by kernel_rfl) (yld fun _ => by kernel_rfl) ?_
            refine wpG.takeD 14 false (some 62) (undef) (by kernel_rfl) (by kernel_rfl) (yld fun _ => by kernel_rfl) ?_
            refine wpG.takeD 15 false (some 63) (.bool false) (by kernel_rfl) (by kernel_rfl) (yld fun _ => by kernel_rfl) ?_
            refine wpG.takeD 16 false (some 64) (.bool false) (by kernel_rfl) (by kernel_rfl) (yld fun _ => by kernel_rfl) ?_
            refine wpG.takeD 17 false (some 65) (undef) (by kernel_rfl) (by kernel_rfl) (yld fun _ => by kernel_rfl) ?_
            refine wpG.takeD 18 false (some 66) (.bool false) (by kernel_rfl) (by kernel_rfl) (yld fun _ => by kernel_rfl) ?_
            refine wpG.takeD 19 false (some 6) (.bool false) (by kernel_rfl) (by kernel_rfl) (yld fun _ => by kernel_rfl) ?_
            refine wpG.fin (by kernel_rfl) rfl (kr _ _ ?_)
            refine then_n (ks19 _ _ ?_)
            refine wp_ret ?_
            have q0 := of_some h
            subst q0
            exact qq _ _ (post_ret (by kernel_rfl) (run_results [.tmp 6] [.bool false] (by kernel_rfl) (.cons (res_tmp (by kernel_rfl)) .nil)) ⟨congrArg Ending.returned (by kernel_rfl), hs.none⟩)
end Go.Proofs.Ytijahfdldlmnhaa
