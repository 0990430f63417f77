/- Printed by this work's own program: the code of each function below comes to the answer that its plain form tells. -/
import Derived.Test.YtblploekkjeolaaMj
import Derived.Test.YtblploekkjeolaaProg
import Derived.Test.YtblploekkjeolaaLDpackTells
import Derived.Test.YtblploekkjeolaaDX0
import Derived.Test.YtblploekkjeolaaDX1
import Derived.Test.YtblploekkjeolaaDX2
import Derived.Test.YtblploekkjeolaaDX3
import Derived.Test.YtblploekkjeolaaDX4
import Derived.Test.YtblploekkjeolaaDX5
import Derived.Test.YtblploekkjeolaaDX6
import Derived.Test.YtblploekkjeolaaDX7
import Derived.Test.YtblploekkjeolaaDX8
set_option linter.unusedVariables false
set_option linter.unusedSimpArgs false
set_option maxRecDepth 100000
set_option maxHeartbeats 4000000
namespace Go.Proofs.Ytblploekkjeolaa
open Go.Mx
attribute [local irreducible] wpOp

theorem law22_DpackTells.ok {K : Nat} {a0 : Int} {a1_0 : Int} {a1_1 : Int} {a1_2 : Int} {a1_3 : Int} {a1_4 : Int} {a1_5 : Int} {a1_6 : Int} {a1_7 : Int} {a2 : Arr 256} {a3 : Int} {a4 : Int} {a5 : List Int} {a6 : List (Arr 256)} {a7 : Int} {r0 : Bool} {a5_A : Option Addr} {a5_n : Nat} {a5_c : Nat} {a6_A : Option Addr} {a6_n : Nat} {a6_c : Nat} (h : law22_DpackTells.f K a0 a1_0 a1_1 a1_2 a1_3 a1_4 a1_5 a1_6 a1_7 a2 a3 a4 a5 a6 a7 = some r0) (w0 : World) (hp5 : RowL (CI .u8) w0 a5_A a5_n a5_c a5) (hp6 : RowL (CA .i32 256 (by decide)) w0 a6_A a6_n a6_c a6) : Ret Try.prog 4 #[.int .i64 a0, .agg #[.int .i64 a1_0, .int .i64 a1_1, .int .i32 a1_2, .int .i64 a1_3, .int .i32 a1_4, .int .i32 a1_5, .int .i64 a1_6, .int .i64 a1_7], .agg (enc .i32 a2).toArray, .int .i32 a3, .int .i32 a4, .slice a5_A a5_n a5_c, .slice a6_A a6_n a6_c, .int .i64 a7] w0 (.bool r0) := by
  refine calls_k Try.func4 rfl fun Q qq => ?_
  have hs := St.startR (all_cons (RowP.ent hp5) (all_cons (RowP.ent hp6) all_nil))
  refine wp_conv (a' := ⟨#[.int .i64 a0, .agg #[.int .i64 a1_0, .int .i64 a1_1, .int .i32 a1_2, .int .i64 a1_3, .int .i32 a1_4, .int .i32 a1_5, .int .i64 a1_6, .int .i64 a1_7], .agg (enc .i32 a2).toArray, .int .i32 a3, .int .i32 a4, .slice a5_A a5_n a5_c, .slice a6_A a6_n a6_c, .int .i64 a7, undef, undef, undef, undef, undef, undef, undef, undef, undef, undef, undef, undef, undef, undef, undef, undef, undef, undef, undef, undef, undef, undef, undef, undef, undef, undef, undef, undef, undef, undef, undef, undef, undef, undef, undef, undef, undef, undef, undef, undef, undef, undef, undef, undef, undef, undef, undef, undef, undef, undef, undef, undef, undef, undef, undef, undef, undef, undef, undef, undef, undef, undef, undef, undef, undef, undef, undef, undef, undef, undef, undef, undef, undef, undef, undef, undef, undef, undef, undef, undef, undef, undef, undef, undef, undef, undef, undef, undef, undef, undef, undef, undef, undef, undef, undef, undef, undef, undef, undef, undef, undef, undef, undef, undef, undef, undef, undef, undef, undef, undef, undef, undef, undef, undef, undef, undef, undef, undef, undef, undef, undef, undef, undef, undef, undef, undef, undef, undef, undef, undef, undef, undef, undef, undef, undef, undef, undef, undef, undef, undef, undef, undef, undef, undef, undef, undef, undef, undef, undef, undef, undef, undef, undef], []⟩) (by kernel_rfl) ?_
  refine xseq_k fun KS1 ks1 => ?_
  refine wp_regS (l := [0, 1, 2]) (by kernel_rfl) (by kernel_rfl) fun KR2 kr2 => ?_
  refine wpS.only 0 (op_box (t := 23) (v := .agg #[.int .i64 a1_0, .int .i64 a1_1, .int .i32 a1_2, .int .i64 a1_3, .int .i32 a1_4, .int .i32 a1_5, .int .i64 a1_6, .int .i64 a1_7]) (d := (some 9)) (by kernel_rfl) hs ([.int .i64 a1_0, .int .i64 a1_1, .int .i32 a1_2, .int .i64 a1_3, .int .i32 a1_4, .int .i32 a1_5, .int .i64 a1_6, .int .i64 a1_7]) (by kernel_rfl) (by kernel_rfl) ?_)
  intro b1 w gw hs
  refine ⟨fun _ => trivial, ?_⟩
  refine wpS.only 1 (op_box (t := 40) (v := .agg (enc .i32 a2).toArray) (d := (some 10)) (by kernel_rfl) hs (enc .i32 a2) (by kernel_rfl) (by kernel_rfl) ?_)
  intro b2 w gw hs
  refine ⟨fun _ => trivial, ?_⟩
  refine wpS.take 2 false (some 16) (.bool false) (by kernel_rfl) (yld fun _ => by kernel_rfl) ?_
  refine wpS.fin rfl (kr2 _ _ ?_)
  refine then_n (ks1 _ _ ?_)
  refine xseq_k fun KS9 ks9 => ?_
  refine xseq_k fun KS10 ks10 => ?_
  refine wp_regS (l := [0, 1, 2, 3, 4, 5, 6, 7]) (by kernel_rfl) (by kernel_rfl) fun KR11 kr11 => ?_
  refine wpS.take 0 false (some 35) (.slice a5_A a5_n a5_c) (by kernel_rfl) (yld fun _ => by kernel_rfl) ?_
  refine wpS.take 1 false (some 36) (.int .i64 (a5.length : Int)) (by kernel_rfl) (yld_lenL (hs.rowR 0 rfl) (fun _ => by kernel_rfl)) ?_
  rcases of_if h with ⟨hc, h⟩ | ⟨hc, h⟩
  · refine wpS.take 2 false (some 37) (.bool true) (by kernel_rfl) (yld_b (dt hc) (fun _ => by kernel_rfl)) ?_
    refine wpS.take 3 false (some 38) (.bool true) (by kernel_rfl) (yld fun _ => by kernel_rfl) ?_
    refine wpS.take 4 false (some 39) (undef) (by kernel_rfl) (yld fun _ => by kernel_rfl) ?_
    refine wpS.take 5 false (some 40) (undef) (by kernel_rfl) (yld fun _ => by kernel_rfl) ?_
    refine wpS.take 6 false (some 41) (undef) (by kernel_rfl) (yld fun _ => by kernel_rfl) ?_
    refine wpS.take 7 false (some 42) (.bool true) (by kernel_rfl) (yld fun _ => by kernel_rfl) ?_
    refine wpS.fin rfl (kr11 _ _ ?_)
    refine then_n (ks10 _ _ ?_)
    refine wp_cond_t (by kernel_rfl) ?_
    refine xseq_k fun KS12 ks12 => ?_
    refine wp_regS (l := [0, 1]) (by kernel_rfl) (by kernel_rfl) fun KR13 kr13 => ?_
    obtain ⟨r3, hg, h⟩ := of_bind h
    refine wpS.only 0 (op_call (d := (some 43)) (by kernel_rfl) hs (fun _ => by kernel_rfl) (law22_awake.ok hg _) ?_)
    intro w gw hs
    refine ⟨fun _ => trivial, ?_⟩
    refine wpS.take 1 false (some 16) (.bool r3) (by kernel_rfl) (yld fun _ => by kernel_rfl) ?_
    refine wpS.fin rfl (kr13 _ _ ?_)
    refine then_n (ks12 _ _ ?_)
    refine xret ?_
    refine then_r ?_
    have q0 := of_some h
    subst q0
    exact qq _ _ (post_ret (by kernel_rfl) (run_results [.tmp 16] [.bool r3] (by kernel_rfl) (.cons (res_tmp (by kernel_rfl)) .nil)) ⟨congrArg Ending.returned (by kernel_rfl), hs.none⟩)
  · refine wpS.take 2 false (some 37) (.bool false) (by kernel_rfl) (yld_b (df hc) (fun _ => by kernel_rfl)) ?_
    refine wpS.take 3 false (some 38) (.bool false) (by kernel_rfl) (yld fun _ => by kernel_rfl) ?_
    refine wpS.take 4 false (some 39) (.slice a6_A a6_n a6_c) (by kernel_rfl) (yld fun _ => by kernel_rfl) ?_
    refine wpS.take 5 false (some 40) (.int .i64 (a6.length : Int)) (by kernel_rfl) (yld_lenL (hs.rowR 1 rfl) (fun _ => by kernel_rfl)) ?_
    rcases of_if h with ⟨hc, h⟩ | ⟨hc, h⟩
    · refine wpS.take 6 false (some 41) (.bool true) (by kernel_rfl) (yld_b (dt hc) (fun _ => by kernel_rfl)) ?_
      refine wpS.take 7 false (some 42) (.bool true) (by kernel_rfl) (yld fun _ => by kernel_rfl) ?_
      refine wpS.fin rfl (kr11 _ _ ?_)
      refine then_n (ks10 _ _ ?_)
      refine wp_cond_t (by kernel_rfl) ?_
      refine xseq_k fun KS14 ks14 => ?_
      refine wp_regS (l := [0, 1]) (by kernel_rfl) (by kernel_rfl) fun KR15 kr15 => ?_
      obtain ⟨r4, hg, h⟩ := of_bind h
      refine wpS.only 0 (op_call (d := (some 43)) (by kernel_rfl) hs (fun _ => by kernel_rfl) (law22_awake.ok hg _) ?_)
      intro w gw hs
      refine ⟨fun _ => trivial, ?_⟩
      refine wpS.take 1 false (some 16) (.bool r4) (by kernel_rfl) (yld fun _ => by kernel_rfl) ?_
      refine wpS.fin rfl (kr15 _ _ ?_)
      refine then_n (ks14 _ _ ?_)
      refine xret ?_
      refine then_r ?_
      have q0 := of_some h
      subst q0
      exact qq _ _ (post_ret (by kernel_rfl) (run_results [.tmp 16] [.bool r4] (by kernel_rfl) (.cons (res_tmp (by kernel_rfl)) .nil)) ⟨congrArg Ending.returned (by kernel_rfl), hs.none⟩)
    · refine wpS.take 6 false (some 41) (.bool false) (by kernel_rfl) (yld_b (df hc) (fun _ => by kernel_rfl)) ?_
      refine wpS.take 7 false (some 42) (.bool false) (by kernel_rfl) (yld fun _ => by kernel_rfl) ?_
      refine wpS.fin rfl (kr11 _ _ ?_)
      refine then_n (ks10 _ _ ?_)
      refine wp_cond_f (by kernel_rfl) ?_
      refine xskip ?_
      refine then_n (ks9 _ _ ?_)
      refine xseq_k fun KS16 ks16 => ?_
      refine wp_regS (l := [0, 1, 2, 3, 4, 5, 6, 7]) (by kernel_rfl) (by kernel_rfl) fun KR17 kr17 => ?_
      refine wpS.take 0 false (some 45) (.int .i64 a0) (by kernel_rfl) (yld fun _ => by kernel_rfl) ?_
      obtain ⟨⟨r5_0, r5_1, r5_2, r5_3, r5_4, r5_5, r5_6, r5_7, r6⟩, hg, h⟩ := of_bind h
      refine wpS.only 1 (op_call (d := (some 46)) (by kernel_rfl) hs (fun _ => by kernel_rfl) (dpack_Set.ok hg _) ?_)
      intro w gw hs
      refine ⟨fun _ => trivial, ?_⟩
      refine wpS.take 2 false (some 44) (.tuple #[.agg #[.int .i64 r5_0, .int .i64 r5_1, .int .i32 r5_2, .int .i64 r5_3, .int .i32 r5_4, .int .i32 r5_5, .int .i64 r5_6, .int .i64 r5_7], .bool r6]) (by kernel_rfl) (yld fun _ => by kernel_rfl) ?_
      refine wpS.take 3 false (some 47) (.agg #[.int .i64 r5_0, .int .i64 r5_1, .int .i32 r5_2, .int .i64 r5_3, .int .i32 r5_4, .int .i32 r5_5, .int .i64 r5_6, .int .i64 r5_7]) (by kernel_rfl) (yld fun _ => by kernel_rfl) ?_
      refine wpS.take 4 false (some 48) (.bool r6) (by kernel_rfl) (yld fun _ => by kernel_rfl) ?_
      refine wpS.only 5 (op_alloc (t := 23) (d := (some 17)) (by kernel_rfl) hs ([.int .i64 0, .int .i64 0, .int .i32 0, .int .i64 0, .int .i32 0, .int .i32 0, .int .i64 0, .int .i64 0]) (.agg #[.int .i64 0, .int .i64 0, .int .i32 0, .int .i64 0, .int .i32 0, .int .i32 0, .int .i64 0, .int .i64 0]) (by kernel_rfl) (by kernel_rfl) (by kernel_rfl) ?_)
      intro b7 w gw hs
      refine ⟨fun _ => trivial, ?_⟩
      refine wpS.only 6 (op_storeW (t := 23) (v := .agg #[.int .i64 r5_0, .int .i64 r5_1, .int .i32 r5_2, .int .i64 r5_3, .int .i32 r5_4, .int .i32 r5_5, .int .i64 r5_6, .int .i64 r5_7]) (d := none) (by kernel_rfl) hs 0 rfl (vs := [.int .i64 r5_0, .int .i64 r5_1, .int .i32 r5_2, .int .i64 r5_3, .int .i32 r5_4, .int .i32 r5_5, .int .i64 r5_6, .int .i64 r5_7]) (n := 8) (by kernel_rfl) (by kernel_rfl) (by kernel_rfl) (by simp [enc_len]) (by simp [enc_len]) (by simp [Value.oneCell']) ?_)
      intro w kp hs
      refine ⟨fun _ => trivial, ?_⟩
      refine wpS.take 7 false (some 18) (.bool r6) (by kernel_rfl) (yld fun _ => by kernel_rfl) ?_
      refine wpS.fin rfl (kr17 _ _ ?_)
      refine then_n (ks16 _ _ ?_)
      refine xseq_k fun KS18 ks18 => ?_
      refine wp_regS (l := [0, 1, 2, 3, 4, 5, 6, 7]) (by kernel_rfl) (by kernel_rfl) fun KR19 kr19 => ?_
      refine wpS.take 0 false (some 50) (.int .i64 a0) (by kernel_rfl) (yld fun _ => by kernel_rfl) ?_
      obtain ⟨⟨r8_0, r8_1, r8_2, r8_3, r8_4, r8_5, r8_6, r8_7, r9⟩, hg, h⟩ := of_bind h
      refine wpS.only 1 (op_call (d := (some 51)) (by kernel_rfl) hs (fun _ => by kernel_rfl) (ref22_Set.ok hg _) ?_)
      intro w gw hs
      refine ⟨fun _ => trivial, ?_⟩
      refine wpS.take 2 false (some 49) (.tuple #[.agg #[.int .i64 r8_0, .int .i64 r8_1, .int .i32 r8_2, .int .i64 r8_3, .int .i32 r8_4, .int .i32 r8_5, .int .i64 r8_6, .int .i64 r8_7], .bool r9]) (by kernel_rfl) (yld fun _ => by kernel_rfl) ?_
      refine wpS.take 3 false (some 52) (.agg #[.int .i64 r8_0, .int .i64 r8_1, .int .i32 r8_2, .int .i64 r8_3, .int .i32 r8_4, .int .i32 r8_5, .int .i64 r8_6, .int .i64 r8_7]) (by kernel_rfl) (yld fun _ => by kernel_rfl) ?_
      refine wpS.take 4 false (some 53) (.bool r9) (by kernel_rfl) (yld fun _ => by kernel_rfl) ?_
      refine wpS.only 5 (op_alloc (t := 23) (d := (some 19)) (by kernel_rfl) hs ([.int .i64 0, .int .i64 0, .int .i32 0, .int .i64 0, .int .i32 0, .int .i32 0, .int .i64 0, .int .i64 0]) (.agg #[.int .i64 0, .int .i64 0, .int .i32 0, .int .i64 0, .int .i32 0, .int .i32 0, .int .i64 0, .int .i64 0]) (by kernel_rfl) (by kernel_rfl) (by kernel_rfl) ?_)
      intro b10 w gw hs
      refine ⟨fun _ => trivial, ?_⟩
      refine wpS.only 6 (op_storeW (t := 23) (v := .agg #[.int .i64 r8_0, .int .i64 r8_1, .int .i32 r8_2, .int .i64 r8_3, .int .i32 r8_4, .int .i32 r8_5, .int .i64 r8_6, .int .i64 r8_7]) (d := none) (by kernel_rfl) hs 0 rfl (vs := [.int .i64 r8_0, .int .i64 r8_1, .int .i32 r8_2, .int .i64 r8_3, .int .i32 r8_4, .int .i32 r8_5, .int .i64 r8_6, .int .i64 r8_7]) (n := 8) (by kernel_rfl) (by kernel_rfl) (by kernel_rfl) (by simp [enc_len]) (by simp [enc_len]) (by simp [Value.oneCell']) ?_)
      intro w kp hs
      refine ⟨fun _ => trivial, ?_⟩
      refine wpS.take 7 false (some 20) (.bool r9) (by kernel_rfl) (yld fun _ => by kernel_rfl) ?_
      refine wpS.fin rfl (kr19 _ _ ?_)
      refine then_n (ks18 _ _ ?_)
      refine xseq_k fun KS20 ks20 => ?_
      refine wp_regS (l := [0, 1, 2, 3, 4, 5, 6, 7, 8]) (by kernel_rfl) (by kernel_rfl) fun KR21 kr21 => ?_
      refine wpS.take 0 true (some 55) (.agg #[.int .i64 a1_0, .int .i64 a1_1, .int .i32 a1_2, .int .i64 a1_3, .int .i32 a1_4, .int .i32 a1_5, .int .i64 a1_6, .int .i64 a1_7]) (by kernel_rfl) (yld_loadW (e := 23) (n := 8) hs 3 rfl (by kernel_rfl) (by kernel_rfl) (by kernel_rfl) (by simp [enc_len]) .grow) ?_
      obtain ⟨⟨r11, r12, r13⟩, hg, h⟩ := of_bind h
      refine wpS.only 1 (op_call (d := (some 56)) (by kernel_rfl) hs (fun _ => by kernel_rfl) (dpack_Sizes.ok hg _) ?_)
      intro w gw hs
      refine ⟨fun _ => trivial, ?_⟩
      refine wpS.take 2 false (some 54) (.tuple #[.int .i64 r11, .int .i64 r12, .int .i64 r13]) (by kernel_rfl) (yld fun _ => by kernel_rfl) ?_
      refine wpS.take 3 false (some 57) (.int .i64 r11) (by kernel_rfl) (yld fun _ => by kernel_rfl) ?_
      refine wpS.take 4 false (some 58) (.int .i64 r12) (by kernel_rfl) (yld fun _ => by kernel_rfl) ?_
      refine wpS.take 5 false (some 59) (.int .i64 r13) (by kernel_rfl) (yld fun _ => by kernel_rfl) ?_
      refine wpS.take 6 false (some 21) (.int .i64 r11) (by kernel_rfl) (yld fun _ => by kernel_rfl) ?_
      refine wpS.take 7 false (some 22) (.int .i64 r12) (by kernel_rfl) (yld fun _ => by kernel_rfl) ?_
      refine wpS.take 8 false (some 23) (.int .i64 r13) (by kernel_rfl) (yld fun _ => by kernel_rfl) ?_
      refine wpS.fin rfl (kr21 _ _ ?_)
      refine then_n (ks20 _ _ ?_)
      refine xseq_k fun KS22 ks22 => ?_
      refine wp_regS (l := [0, 1, 2, 3, 4, 5, 6, 7, 8]) (by kernel_rfl) (by kernel_rfl) fun KR23 kr23 => ?_
      refine wpS.take 0 true (some 61) (.agg #[.int .i64 a1_0, .int .i64 a1_1, .int .i32 a1_2, .int .i64 a1_3, .int .i32 a1_4, .int .i32 a1_5, .int .i64 a1_6, .int .i64 a1_7]) (by kernel_rfl) (yld_loadW (e := 23) (n := 8) hs 3 rfl (by kernel_rfl) (by kernel_rfl) (by kernel_rfl) (by simp [enc_len]) .grow) ?_
      obtain ⟨⟨r14, r15, r16⟩, hg, h⟩ := of_bind h
      refine wpS.only 1 (op_call (d := (some 62)) (by kernel_rfl) hs (fun _ => by kernel_rfl) (ref22_Sizes.ok hg _) ?_)
      intro w gw hs
      refine ⟨fun _ => trivial, ?_⟩
      refine wpS.take 2 false (some 60) (.tuple #[.int .i64 r14, .int .i64 r15, .int .i64 r16]) (by kernel_rfl) (yld fun _ => by kernel_rfl) ?_
      refine wpS.take 3 false (some 63) (.int .i64 r14) (by kernel_rfl) (yld fun _ => by kernel_rfl) ?_
      refine wpS.take 4 false (some 64) (.int .i64 r15) (by kernel_rfl) (yld fun _ => by kernel_rfl) ?_
      refine wpS.take 5 false (some 65) (.int .i64 r16) (by kernel_rfl) (yld fun _ => by kernel_rfl) ?_
      refine wpS.take 6 false (some 24) (.int .i64 r14) (by kernel_rfl) (yld fun _ => by kernel_rfl) ?_
      refine wpS.take 7 false (some 25) (.int .i64 r15) (by kernel_rfl) (yld fun _ => by kernel_rfl) ?_
      refine wpS.take 8 false (some 26) (.int .i64 r16) (by kernel_rfl) (yld fun _ => by kernel_rfl) ?_
      refine wpS.fin rfl (kr23 _ _ ?_)
      refine then_n (ks22 _ _ ?_)
      refine xseq_k fun KS24 ks24 => ?_
      refine wp_regS (l := [0, 1, 2, 3, 4, 5, 6, 7, 8, 9]) (by kernel_rfl) (by kernel_rfl) fun KR25 kr25 => ?_
      refine wpS.take 0 false (some 67) (.slice a5_A a5_n a5_c) (by kernel_rfl) (yld fun _ => by kernel_rfl) ?_
      refine wpS.take 1 false (some 68) (.int .i32 a3) (by kernel_rfl) (yld fun _ => by kernel_rfl) ?_
      refine wpS.take 2 false (some 69) (.int .i32 a4) (by kernel_rfl) (yld fun _ => by kernel_rfl) ?_
      obtain ⟨⟨r17, r18⟩, hg, h⟩ := of_bind h
      refine wpS.only 3 (op_call (d := (some 70)) (by kernel_rfl) hs (fun _ => by kernel_rfl) (dpack_Unpack.ok hg _ (hs.rowR 0 rfl)) ?_)
      intro w gw hs
      refine ⟨fun _ => trivial, ?_⟩
      refine wpS.take 4 false (some 66) (.tuple #[.agg (enc .i32 r17).toArray, .bool r18]) (by kernel_rfl) (yld fun _ => by kernel_rfl) ?_
      refine wpS.take 5 false (some 71) (.agg (enc .i32 r17).toArray) (by kernel_rfl) (yld fun _ => by kernel_rfl) ?_
      refine wpS.take 6 false (some 72) (.bool r18) (by kernel_rfl) (yld fun _ => by kernel_rfl) ?_
      refine wpS.only 7 (op_alloc (t := 40) (d := (some 27)) (by kernel_rfl) hs (enc .i32 (zeroA 256)) (.agg (enc .i32 (zeroA 256)).toArray) (by kernel_rfl) (by kernel_rfl) (by kernel_rfl) ?_)
      intro b19 w gw hs
      refine ⟨fun _ => trivial, ?_⟩
      refine wpS.only 8 (op_storeW (t := 40) (v := .agg (enc .i32 r17).toArray) (d := none) (by kernel_rfl) hs 0 rfl (vs := enc .i32 r17) (n := 256) (by kernel_rfl) (by kernel_rfl) (by kernel_rfl) (by simp [enc_len]) (by simp [enc_len]) (by intro u hu; exact enc_one _ _ u hu) ?_)
      intro w kp hs
      refine ⟨fun _ => trivial, ?_⟩
      refine wpS.take 9 false (some 28) (.bool r18) (by kernel_rfl) (yld fun _ => by kernel_rfl) ?_
      refine wpS.fin rfl (kr25 _ _ ?_)
      refine then_n (ks24 _ _ ?_)
      refine xseq_k fun KS26 ks26 => ?_
      refine wp_regS (l := [0, 1, 2, 3, 4, 5, 6, 7, 8, 9]) (by kernel_rfl) (by kernel_rfl) fun KR27 kr27 => ?_
      refine wpS.take 0 false (some 74) (.slice a5_A a5_n a5_c) (by kernel_rfl) (yld fun _ => by kernel_rfl) ?_
      refine wpS.take 1 false (some 75) (.int .i32 a3) (by kernel_rfl) (yld fun _ => by kernel_rfl) ?_
      refine wpS.take 2 false (some 76) (.int .i32 a4) (by kernel_rfl) (yld fun _ => by kernel_rfl) ?_
      obtain ⟨⟨r20, r21⟩, hg, h⟩ := of_bind h
      refine wpS.only 3 (op_call (d := (some 77)) (by kernel_rfl) hs (fun _ => by kernel_rfl) (ref22_Unpack.ok hg _ (hs.rowR 0 rfl)) ?_)
      intro w gw hs
      refine ⟨fun _ => trivial, ?_⟩
      refine wpS.take 4 false (some 73) (.tuple #[.agg (enc .i32 r20).toArray, .bool r21]) (by kernel_rfl) (yld fun _ => by kernel_rfl) ?_
      refine wpS.take 5 false (some 78) (.agg (enc .i32 r20).toArray) (by kernel_rfl) (yld fun _ => by kernel_rfl) ?_
      refine wpS.take 6 false (some 79) (.bool r21) (by kernel_rfl) (yld fun _ => by kernel_rfl) ?_
      refine wpS.only 7 (op_alloc (t := 40) (d := (some 29)) (by kernel_rfl) hs (enc .i32 (zeroA 256)) (.agg (enc .i32 (zeroA 256)).toArray) (by kernel_rfl) (by kernel_rfl) (by kernel_rfl) ?_)
      intro b22 w gw hs
      refine ⟨fun _ => trivial, ?_⟩
      refine wpS.only 8 (op_storeW (t := 40) (v := .agg (enc .i32 r20).toArray) (d := none) (by kernel_rfl) hs 0 rfl (vs := enc .i32 r20) (n := 256) (by kernel_rfl) (by kernel_rfl) (by kernel_rfl) (by simp [enc_len]) (by simp [enc_len]) (by intro u hu; exact enc_one _ _ u hu) ?_)
      intro w kp hs
      refine ⟨fun _ => trivial, ?_⟩
      refine wpS.take 9 false (some 30) (.bool r21) (by kernel_rfl) (yld fun _ => by kernel_rfl) ?_
      refine wpS.fin rfl (kr27 _ _ ?_)
      refine then_n (ks26 _ _ ?_)
      refine xseq_k fun KS28 ks28 => ?_
      refine wp_regS (l := [0, 1, 2, 3, 4, 5, 6, 7, 8, 9]) (by kernel_rfl) (by kernel_rfl) fun KR29 kr29 => ?_
      refine wpS.take 0 false (some 81) (.slice a5_A a5_n a5_c) (by kernel_rfl) (yld fun _ => by kernel_rfl) ?_
      refine wpS.take 1 false (some 82) (.slice a6_A a6_n a6_c) (by kernel_rfl) (yld fun _ => by kernel_rfl) ?_
      refine wpS.take 2 false (some 83) (.int .i64 (a6.length : Int)) (by kernel_rfl) (yld_lenL (hs.rowR 1 rfl) (fun _ => by kernel_rfl)) ?_
      refine wpS.take 3 false (some 84) (.int .i64 a7) (by kernel_rfl) (yld fun _ => by kernel_rfl) ?_
      obtain ⟨⟨r23, r24⟩, hg, h⟩ := of_bind h
      refine wpS.only 4 (op_callH (d := (some 85)) (by kernel_rfl) hs (fun _ => by kernel_rfl) (dpack_Unhints.ok hg _ (hs.rowR 0 rfl)) ?_)
      rintro ⟨r23_A, r23_n, r23_c⟩ w gw hs
      have hs := hs.conv (L' := [.ownL (CA .i32 256 (by decide)) r23_A r23_n r23_c r23 40, .blk b22 (enc .i32 r20) 40, .blk b19 (enc .i32 r17) 40, .blk b10 ([.int .i64 r8_0, .int .i64 r8_1, .int .i32 r8_2, .int .i64 r8_3, .int .i32 r8_4, .int .i32 r8_5, .int .i64 r8_6, .int .i64 r8_7]) 23, .blk b7 ([.int .i64 r5_0, .int .i64 r5_1, .int .i32 r5_2, .int .i64 r5_3, .int .i32 r5_4, .int .i32 r5_5, .int .i64 r5_6, .int .i64 r5_7]) 23, .blk b2 (enc .i32 a2) 40, .blk b1 ([.int .i64 a1_0, .int .i64 a1_1, .int .i32 a1_2, .int .i64 a1_3, .int .i32 a1_4, .int .i32 a1_5, .int .i64 a1_6, .int .i64 a1_7]) 23]) rfl
      refine ⟨fun _ => trivial, ?_⟩
      refine wpS.take 5 false (some 80) (.tuple #[.slice r23_A r23_n r23_c, .bool r24]) (by kernel_rfl) (yld fun _ => by kernel_rfl) ?_
      refine wpS.take 6 false (some 86) (.slice r23_A r23_n r23_c) (by kernel_rfl) (yld fun _ => by kernel_rfl) ?_
      refine wpS.take 7 false (some 87) (.bool r24) (by kernel_rfl) (yld fun _ => by kernel_rfl) ?_
      refine wpS.take 8 false (some 31) (.slice r23_A r23_n r23_c) (by kernel_rfl) (yld fun _ => by kernel_rfl) ?_
      refine wpS.take 9 false (some 32) (.bool r24) (by kernel_rfl) (yld fun _ => by kernel_rfl) ?_
      refine wpS.fin rfl (kr29 _ _ ?_)
      refine then_n (ks28 _ _ ?_)
      refine xseq_k fun KS30 ks30 => ?_
      refine wp_regS (l := [0, 1, 2, 3, 4, 5, 6, 7, 8, 9]) (by kernel_rfl) (by kernel_rfl) fun KR31 kr31 => ?_
      refine wpS.take 0 false (some 89) (.slice a5_A a5_n a5_c) (by kernel_rfl) (yld fun _ => by kernel_rfl) ?_
      refine wpS.take 1 false (some 90) (.slice a6_A a6_n a6_c) (by kernel_rfl) (yld fun _ => by kernel_rfl) ?_
      refine wpS.take 2 false (some 91) (.int .i64 (a6.length : Int)) (by kernel_rfl) (yld_lenL (hs.rowR 1 rfl) (fun _ => by kernel_rfl)) ?_
      refine wpS.take 3 false (some 92) (.int .i64 a7) (by kernel_rfl) (yld fun _ => by kernel_rfl) ?_
      obtain ⟨⟨r25, r26⟩, hg, h⟩ := of_bind h
      refine wpS.only 4 (op_callH (d := (some 93)) (by kernel_rfl) hs (fun _ => by kernel_rfl) (ref22_Unhints.ok hg _ (hs.rowR 0 rfl)) ?_)
      rintro ⟨r25_A, r25_n, r25_c⟩ w gw hs
      have hs := hs.conv (L' := [.ownL (CA .i32 256 (by decide)) r25_A r25_n r25_c r25 40, .ownL (CA .i32 256 (by decide)) r23_A r23_n r23_c r23 40, .blk b22 (enc .i32 r20) 40, .blk b19 (enc .i32 r17) 40, .blk b10 ([.int .i64 r8_0, .int .i64 r8_1, .int .i32 r8_2, .int .i64 r8_3, .int .i32 r8_4, .int .i32 r8_5, .int .i64 r8_6, .int .i64 r8_7]) 23, .blk b7 ([.int .i64 r5_0, .int .i64 r5_1, .int .i32 r5_2, .int .i64 r5_3, .int .i32 r5_4, .int .i32 r5_5, .int .i64 r5_6, .int .i64 r5_7]) 23, .blk b2 (enc .i32 a2) 40, .blk b1 ([.int .i64 a1_0, .int .i64 a1_1, .int .i32 a1_2, .int .i64 a1_3, .int .i32 a1_4, .int .i32 a1_5, .int .i64 a1_6, .int .i64 a1_7]) 23]) rfl
      refine ⟨fun _ => trivial, ?_⟩
      refine wpS.take 5 false (some 88) (.tuple #[.slice r25_A r25_n r25_c, .bool r26]) (by kernel_rfl) (yld fun _ => by kernel_rfl) ?_
      refine wpS.take 6 false (some 94) (.slice r25_A r25_n r25_c) (by kernel_rfl) (yld fun _ => by kernel_rfl) ?_
      refine wpS.take 7 false (some 95) (.bool r26) (by kernel_rfl) (yld fun _ => by kernel_rfl) ?_
      refine wpS.take 8 false (some 33) (.slice r25_A r25_n r25_c) (by kernel_rfl) (yld fun _ => by kernel_rfl) ?_
      refine wpS.take 9 false (some 34) (.bool r26) (by kernel_rfl) (yld fun _ => by kernel_rfl) ?_
      refine wpS.fin rfl (kr31 _ _ ?_)
      refine then_n (ks30 _ _ ?_)
      refine xseq_k fun KS52 ks52 => ?_
      refine xseq_k fun KS53 ks53 => ?_
      refine wp_regS (l := [0, 1, 2, 3, 4, 5, 6, 7, 8, 9, 10, 11, 12, 13, 14, 15, 16, 17, 18, 19, 20, 21, 22, 23, 24, 25, 26, 27, 28, 29, 30, 31, 32, 33, 34, 35, 36, 37, 38, 39, 40, 41, 42, 43]) (by kernel_rfl) (by kernel_rfl) fun KR54 kr54 => ?_
      refine wpS.take 0 true (some 96) (.agg #[.int .i64 r5_0, .int .i64 r5_1, .int .i32 r5_2, .int .i64 r5_3, .int .i32 r5_4, .int .i32 r5_5, .int .i64 r5_6, .int .i64 r5_7]) (by kernel_rfl) (yld_loadW (e := 23) (n := 8) hs 5 rfl (by kernel_rfl) (by kernel_rfl) (by kernel_rfl) (by simp [enc_len]) .grow) ?_
      refine wpS.take 1 true (some 97) (.agg #[.int .i64 r8_0, .int .i64 r8_1, .int .i32 r8_2, .int .i64 r8_3, .int .i32 r8_4, .int .i32 r8_5, .int .i64 r8_6, .int .i64 r8_7]) (by kernel_rfl) (yld_loadW (e := 23) (n := 8) hs 4 rfl (by kernel_rfl) (by kernel_rfl) (by kernel_rfl) (by simp [enc_len]) .grow) ?_
      rcases of_ifb h with ⟨hc, h⟩ | ⟨hc, h⟩
      · refine wpS.take 2 false (some 98) (.bool true) (by kernel_rfl) (yld_bb hc (yld_eqSn (fs := [Field.mk "K" 3 0 false "" "" 0, Field.mk "L" 3 1 false "" "" 8, Field.mk "Eta" 21 2 false "" "" 16, Field.mk "Tau" 3 3 false "" "" 24, Field.mk "Mask" 21 4 false "" "" 32, Field.mk "Half" 21 5 false "" "" 36, Field.mk "Omega" 3 6 false "" "" 40, Field.mk "Size" 3 7 false "" "" 48]) (xs := [.int .i64 r5_0, .int .i64 r5_1, .int .i32 r5_2, .int .i64 r5_3, .int .i32 r5_4, .int .i32 r5_5, .int .i64 r5_6, .int .i64 r5_7]) (ys := [.int .i64 r8_0, .int .i64 r8_1, .int .i32 r8_2, .int .i64 r8_3, .int .i32 r8_4, .int .i32 r8_5, .int .i64 r8_6, .int .i64 r8_7]) (t := 23) (.tmp 96) (.tmp 97) (by kernel_rfl) (by kernel_rfl) (by kernel_rfl) (by kernel_rfl) (.cons rfl (fun w => Go.Mx.run_part1 (by kernel_rfl) rfl) (fun w => Go.Mx.run_part1 (by kernel_rfl) rfl) (fun w => Go.Mx.run_equalIn_int (by kernel_rfl)) (.cons rfl (fun w => Go.Mx.run_part1 (by kernel_rfl) rfl) (fun w => Go.Mx.run_part1 (by kernel_rfl) rfl) (fun w => Go.Mx.run_equalIn_int (by kernel_rfl)) (.cons rfl (fun w => Go.Mx.run_part1 (by kernel_rfl) rfl) (fun w => Go.Mx.run_part1 (by kernel_rfl) rfl) (fun w => Go.Mx.run_equalIn_int (by kernel_rfl)) (.cons rfl (fun w => Go.Mx.run_part1 (by kernel_rfl) rfl) (fun w => Go.Mx.run_part1 (by kernel_rfl) rfl) (fun w => Go.Mx.run_equalIn_int (by kernel_rfl)) (.cons rfl (fun w => Go.Mx.run_part1 (by kernel_rfl) rfl) (fun w => Go.Mx.run_part1 (by kernel_rfl) rfl) (fun w => Go.Mx.run_equalIn_int (by kernel_rfl)) (.cons rfl (fun w => Go.Mx.run_part1 (by kernel_rfl) rfl) (fun w => Go.Mx.run_part1 (by kernel_rfl) rfl) (fun w => Go.Mx.run_equalIn_int (by kernel_rfl)) (.cons rfl (fun w => Go.Mx.run_part1 (by kernel_rfl) rfl) (fun w => Go.Mx.run_part1 (by kernel_rfl) rfl) (fun w => Go.Mx.run_equalIn_int (by kernel_rfl)) (.cons rfl (fun w => Go.Mx.run_part1 (by kernel_rfl) rfl) (fun w => Go.Mx.run_part1 (by kernel_rfl) rfl) (fun w => Go.Mx.run_equalIn_int (by kernel_rfl)) .nil)))))))))) ?_
        refine wpS.take 3 false (some 99) (.bool true) (by kernel_rfl) (yld fun _ => by kernel_rfl) ?_
        refine wpS.take 4 false (some 100) (undef) (by kernel_rfl) (yld fun _ => by kernel_rfl) ?_
        refine wpS.take 5 false (some 101) (undef) (by kernel_rfl) (yld fun _ => by kernel_rfl) ?_
        refine wpS.take 6 false (some 102) (undef) (by kernel_rfl) (yld fun _ => by kernel_rfl) ?_
        refine wpS.take 7 false (some 103) (.bool true) (by kernel_rfl) (yld fun _ => by kernel_rfl) ?_
        refine wpS.take 8 false (some 104) (.bool true) (by kernel_rfl) (yld fun _ => by kernel_rfl) ?_
        refine wpS.take 9 false (some 105) (undef) (by kernel_rfl) (yld fun _ => by kernel_rfl) ?_
        refine wpS.take 10 false (some 106) (undef) (by kernel_rfl) (yld fun _ => by kernel_rfl) ?_
        refine wpS.take 11 false (some 107) (undef) (by kernel_rfl) (yld fun _ => by kernel_rfl) ?_
        refine wpS.take 12 false (some 108) (.bool true) (by kernel_rfl) (yld fun _ => by kernel_rfl) ?_
        refine wpS.take 13 false (some 109) (.bool true) (by kernel_rfl) (yld fun _ => by kernel_rfl) ?_
        refine wpS.take 14 false (some 110) (undef) (by kernel_rfl) (yld fun _ => by kernel_rfl) ?_
        refine wpS.take 15 false (some 111) (undef) (by kernel_rfl) (yld fun _ => by kernel_rfl) ?_
        refine wpS.take 16 false (some 112) (undef) (by kernel_rfl) (yld fun _ => by kernel_rfl) ?_
        refine wpS.take 17 false (some 113) (.bool true) (by kernel_rfl) (yld fun _ => by kernel_rfl) ?_
        refine wpS.take 18 false (some 114) (.bool true) (by kernel_rfl) (yld fun _ => by kernel_rfl) ?_
        refine wpS.take 19 false (some 115) (undef) (by kernel_rfl) (yld fun _ => by kernel_rfl) ?_
        refine wpS.take 20 false (some 116) (undef) (by kernel_rfl) (yld fun _ => by kernel_rfl) ?_
        refine wpS.take 21 false (some 117) (undef) (by kernel_rfl) (yld fun _ => by kernel_rfl) ?_
        refine wpS.take 22 false (some 118) (.bool true) (by kernel_rfl) (yld fun _ => by kernel_rfl) ?_
        refine wpS.take 23 false (some 119) (.bool true) (by kernel_rfl) (yld fun _ => by kernel_rfl) ?_
        refine wpS.take 24 false (some 120) (undef) (by kernel_rfl) (yld fun _ => by kernel_rfl) ?_
        refine wpS.take 25 false (some 121) (undef) (by kernel_rfl) (yld fun _ => by kernel_rfl) ?_
        refine wpS.take 26 false (some 122) (undef) (by kernel_rfl) (yld fun _ => by kernel_rfl) ?_
        refine wpS.take 27 false (some 123) (.bool true) (by kernel_rfl) (yld fun _ => by kernel_rfl) ?_
        refine wpS.take 28 false (some 124) (.bool true) (by kernel_rfl) (yld fun _ => by kernel_rfl) ?_
        refine wpS.take 29 false (some 125) (undef) (by kernel_rfl) (yld fun _ => by kernel_rfl) ?_
        refine wpS.take 30 false (some 126) (undef) (by kernel_rfl) (yld fun _ => by kernel_rfl) ?_
        refine wpS.take 31 false (some 127) (undef) (by kernel_rfl) (yld fun _ => by kernel_rfl) ?_
        refine wpS.take 32 false (some 128) (.bool true) (by kernel_rfl) (yld fun _ => by kernel_rfl) ?_
        refine wpS.take 33 false (some 129) (.bool true) (by kernel_rfl) (yld fun _ => by kernel_rfl) ?_
        refine wpS.take 34 false (some 130) (undef) (by kernel_rfl) (yld fun _ => by kernel_rfl) ?_
        refine wpS.take 35 false (some 131) (undef) (by kernel_rfl) (yld fun _ => by kernel_rfl) ?_
        refine wpS.take 36 false (some 132) (undef) (by kernel_rfl) (yld fun _ => by kernel_rfl) ?_
        refine wpS.take 37 false (some 133) (undef) (by kernel_rfl) (yld fun _ => by kernel_rfl) ?_
        refine wpS.take 38 false (some 134) (.bool true) (by kernel_rfl) (yld fun _ => by kernel_rfl) ?_
        refine wpS.take 39 false (some 135) (.bool true) (by kernel_rfl) (yld fun _ => by kernel_rfl) ?_
        refine wpS.take 40 false (some 136) (undef) (by kernel_rfl) (yld fun _ => by kernel_rfl) ?_
        refine wpS.take 41 false (some 137) (undef) (by kernel_rfl) (yld fun _ => by kernel_rfl) ?_
        refine wpS.take 42 false (some 138) (undef) (by kernel_rfl) (yld fun _ => by kernel_rfl) ?_
        refine wpS.take 43 false (some 139) (.bool true) (by kernel_rfl) (yld fun _ => by kernel_rfl) ?_
        refine wpS.fin rfl (kr54 _ _ ?_)
        refine then_n (ks53 _ _ ?_)
        refine wp_cond_t (by kernel_rfl) ?_
        refine xseq_k fun KS55 ks55 => ?_
        refine wp_regS (l := [0]) (by kernel_rfl) (by kernel_rfl) fun KR56 kr56 => ?_
        refine wpS.take 0 false (some 16) (.bool false) (by kernel_rfl) (yld fun _ => by kernel_rfl) ?_
        refine wpS.fin rfl (kr56 _ _ ?_)
        refine then_n (ks55 _ _ ?_)
        refine xret ?_
        refine then_r ?_
        have q0 := of_some h
        subst q0
        exact qq _ _ (post_ret (by kernel_rfl) (run_results [.tmp 16] [.bool false] (by kernel_rfl) (.cons (res_tmp (by kernel_rfl)) .nil)) ⟨congrArg Ending.returned (by kernel_rfl), hs.none⟩)
      · refine wpS.take 2 false (some 98) (.bool false) (by kernel_rfl) (yld_bb hc (yld_eqSn (fs := [Field.mk "K" 3 0 false "" "" 0, Field.mk "L" 3 1 false "" "" 8, Field.mk "Eta" 21 2 false "" "" 16, Field.mk "Tau" 3 3 false "" "" 24, Field.mk "Mask" 21 4 false "" "" 32, Field.mk "Half" 21 5 false "" "" 36, Field.mk "Omega" 3 6 false "" "" 40, Field.mk "Size" 3 7 false "" "" 48]) (xs := [.int .i64 r5_0, .int .i64 r5_1, .int .i32 r5_2, .int .i64 r5_3, .int .i32 r5_4, .int .i32 r5_5, .int .i64 r5_6, .int .i64 r5_7]) (ys := [.int .i64 r8_0, .int .i64 r8_1, .int .i32 r8_2, .int .i64 r8_3, .int .i32 r8_4, .int .i32 r8_5, .int .i64 r8_6, .int .i64 r8_7]) (t := 23) (.tmp 96) (.tmp 97) (by kernel_rfl) (by kernel_rfl) (by kernel_rfl) (by kernel_rfl) (.cons rfl (fun w => Go.Mx.run_part1 (by kernel_rfl) rfl) (fun w => Go.Mx.run_part1 (by kernel_rfl) rfl) (fun w => Go.Mx.run_equalIn_int (by kernel_rfl)) (.cons rfl (fun w => Go.Mx.run_part1 (by kernel_rfl) rfl) (fun w => Go.Mx.run_part1 (by kernel_rfl) rfl) (fun w => Go.Mx.run_equalIn_int (by kernel_rfl)) (.cons rfl (fun w => Go.Mx.run_part1 (by kernel_rfl) rfl) (fun w => Go.Mx.run_part1 (by kernel_rfl) rfl) (fun w => Go.Mx.run_equalIn_int (by kernel_rfl)) (.cons rfl (fun w => Go.Mx.run_part1 (by kernel_rfl) rfl) (fun w => Go.Mx.run_part1 (by kernel_rfl) rfl) (fun w => Go.Mx.run_equalIn_int (by kernel_rfl)) (.cons rfl (fun w => Go.Mx.run_part1 (by kernel_rfl) rfl) (fun w => Go.Mx.run_part1 (by kernel_rfl) rfl) (fun w => Go.Mx.run_equalIn_int (by kernel_rfl)) (.cons rfl (fun w => Go.Mx.run_part1 (by kernel_rfl) rfl) (fun w => Go.Mx.run_part1 (by kernel_rfl) rfl) (fun w => Go.Mx.run_equalIn_int (by kernel_rfl)) (.cons rfl (fun w => Go.Mx.run_part1 (by kernel_rfl) rfl) (fun w => Go.Mx.run_part1 (by kernel_rfl) rfl) (fun w => Go.Mx.run_equalIn_int (by kernel_rfl)) (.cons rfl (fun w => Go.Mx.run_part1 (by kernel_rfl) rfl) (fun w => Go.Mx.run_part1 (by kernel_rfl) rfl) (fun w => Go.Mx.run_equalIn_int (by kernel_rfl)) .nil)))))))))) ?_
        refine wpS.take 3 false (some 99) (.bool false) (by kernel_rfl) (yld fun _ => by kernel_rfl) ?_
        refine wpS.take 4 false (some 100) (.bool r6) (by kernel_rfl) (yld fun _ => by kernel_rfl) ?_
        refine wpS.take 5 false (some 101) (.bool r9) (by kernel_rfl) (yld fun _ => by kernel_rfl) ?_
        rcases of_ifb h with ⟨hc, h⟩ | ⟨hc, h⟩
        · refine wpS.take 6 false (some 102) (.bool true) (by kernel_rfl) (yld_b hc (fun _ => by kernel_rfl)) ?_
          refine wpS.take 7 false (some 103) (.bool true) (by kernel_rfl) (yld fun _ => by kernel_rfl) ?_
          refine wpS.take 8 false (some 104) (.bool true) (by kernel_rfl) (yld fun _ => by kernel_rfl) ?_
          refine wpS.take 9 false (some 105) (undef) (by kernel_rfl) (yld fun _ => by kernel_rfl) ?_
          refine wpS.take 10 false (some 106) (undef) (by kernel_rfl) (yld fun _ => by kernel_rfl) ?_
          refine wpS.take 11 false (some 107) (undef) (by kernel_rfl) (yld fun _ => by kernel_rfl) ?_
          refine wpS.take 12 false (some 108) (.bool true) (by kernel_rfl) (yld fun _ => by kernel_rfl) ?_
          refine wpS.take 13 false (some 109) (.bool true) (by kernel_rfl) (yld fun _ => by kernel_rfl) ?_
          refine wpS.take 14 false (some 110) (undef) (by kernel_rfl) (yld fun _ => by kernel_rfl) ?_
          refine wpS.take 15 false (some 111) (undef) (by kernel_rfl) (yld fun _ => by kernel_rfl) ?_
          refine wpS.take 16 false (some 112) (undef) (by kernel_rfl) (yld fun _ => by kernel_rfl) ?_
          refine wpS.take 17 false (some 113) (.bool true) (by kernel_rfl) (yld fun _ => by kernel_rfl) ?_
          refine wpS.take 18 false (some 114) (.bool true) (by kernel_rfl) (yld fun _ => by kernel_rfl) ?_
          refine wpS.take 19 false (some 115) (undef) (by kernel_rfl) (yld fun _ => by kernel_rfl) ?_
          refine wpS.take 20 false (some 116) (undef) (by kernel_rfl) (yld fun _ => by kernel_rfl) ?_
          refine wpS.take 21 false (some 117) (undef) (by kernel_rfl) (yld fun _ => by kernel_rfl) ?_
          refine wpS.take 22 false (some 118) (.bool true) (by kernel_rfl) (yld fun _ => by kernel_rfl) ?_
          refine wpS.take 23 false (some 119) (.bool true) (by kernel_rfl) (yld fun _ => by kernel_rfl) ?_
          refine wpS.take 24 false (some 120) (undef) (by kernel_rfl) (yld fun _ => by kernel_rfl) ?_
          refine wpS.take 25 false (some 121) (undef) (by kernel_rfl) (yld fun _ => by kernel_rfl) ?_
          refine wpS.take 26 false (some 122) (undef) (by kernel_rfl) (yld fun _ => by kernel_rfl) ?_
          refine wpS.take 27 false (some 123) (.bool true) (by kernel_rfl) (yld fun _ => by kernel_rfl) ?_
          refine wpS.take 28 false (some 124) (.bool true) (by kernel_rfl) (yld fun _ => by kernel_rfl) ?_
          refine wpS.take 29 false (some 125) (undef) (by kernel_rfl) (yld fun _ => by kernel_rfl) ?_
          refine wpS.take 30 false (some 126) (undef) (by kernel_rfl) (yld fun _ => by kernel_rfl) ?_
          refine wpS.take 31 false (some 127) (undef) (by kernel_rfl) (yld fun _ => by kernel_rfl) ?_
          refine wpS.take 32 false (some 128) (.bool true) (by kernel_rfl) (yld fun _ => by kernel_rfl) ?_
          refine wpS.take 33 false (some 129) (.bool true) (by kernel_rfl) (yld fun _ => by kernel_rfl) ?_
          refine wpS.take 34 false (some 130) (undef) (by kernel_rfl) (yld fun _ => by kernel_rfl) ?_
          refine wpS.take 35 false (some 131) (undef) (by kernel_rfl) (yld fun _ => by kernel_rfl) ?_
          refine wpS.take 36 false (some 132) (undef) (by kernel_rfl) (yld fun _ => by kernel_rfl) ?_
          refine wpS.take 37 false (some 133) (undef) (by kernel_rfl) (yld fun _ => by kernel_rfl) ?_
          refine wpS.take 38 false (some 134) (.bool true) (by kernel_rfl) (yld fun _ => by kernel_rfl) ?_
          refine wpS.take 39 false (some 135) (.bool true) (by kernel_rfl) (yld fun _ => by kernel_rfl) ?_
          refine wpS.take 40 false (some 136) (undef) (by kernel_rfl) (yld fun _ => by kernel_rfl) ?_
          refine wpS.take 41 false (some 137) (undef) (by kernel_rfl) (yld fun _ => by kernel_rfl) ?_
          refine wpS.take 42 false (some 138) (undef) (by kernel_rfl) (yld fun _ => by kernel_rfl) ?_
          refine wpS.take 43 false (some 139) (.bool true) (by kernel_rfl) (yld fun _ => by kernel_rfl) ?_
          refine wpS.fin rfl (kr54 _ _ ?_)
          refine then_n (ks53 _ _ ?_)
          refine wp_cond_t (by kernel_rfl) ?_
          refine xseq_k fun KS57 ks57 => ?_
          refine wp_regS (l := [0]) (by kernel_rfl) (by kernel_rfl) fun KR58 kr58 => ?_
          refine wpS.take 0 false (some 16) (.bool false) (by kernel_rfl) (yld fun _ => by kernel_rfl) ?_
          refine wpS.fin rfl (kr58 _ _ ?_)
          refine then_n (ks57 _ _ ?_)
          refine xret ?_
          refine then_r ?_
          have q0 := of_some h
          subst q0
          exact qq _ _ (post_ret (by kernel_rfl) (run_results [.tmp 16] [.bool false] (by kernel_rfl) (.cons (res_tmp (by kernel_rfl)) .nil)) ⟨congrArg Ending.returned (by kernel_rfl), hs.none⟩)
        · refine wpS.take 6 false (some 102) (.bool false) (by kernel_rfl) (yld_b hc (fun _ => by kernel_rfl)) ?_
          refine wpS.take 7 false (some 103) (.bool false) (by kernel_rfl) (yld fun _ => by kernel_rfl) ?_
          refine wpS.take 8 false (some 104) (.bool false) (by kernel_rfl) (yld fun _ => by kernel_rfl) ?_
          refine wpS.take 9 false (some 105) (.int .i64 r11) (by kernel_rfl) (yld fun _ => by kernel_rfl) ?_
          refine wpS.take 10 false (some 106) (.int .i64 r14) (by kernel_rfl) (yld fun _ => by kernel_rfl) ?_
          rcases of_if h with ⟨hc, h⟩ | ⟨hc, h⟩
          · refine wpS.take 11 false (some 107) (.bool false) (by kernel_rfl) (yld_b (nf hc) (fun _ => by kernel_rfl)) ?_
            refine wpS.take 12 false (some 108) (.bool false) (by kernel_rfl) (yld fun _ => by kernel_rfl) ?_
            refine wpS.take 13 false (some 109) (.bool false) (by kernel_rfl) (yld fun _ => by kernel_rfl) ?_
            refine wpS.take 14 false (some 110) (.int .i64 r12) (by kernel_rfl) (yld fun _ => by kernel_rfl) ?_
            refine wpS.take 15 false (some 111) (.int .i64 r15) (by kernel_rfl) (yld fun _ => by kernel_rfl) ?_
            rcases of_if h with ⟨hc, h⟩ | ⟨hc, h⟩
            · refine wpS.take 16 false (some 112) (.bool false) (by kernel_rfl) (yld_b (nf hc) (fun _ => by kernel_rfl)) ?_
              refine wpS.take 17 false (some 113) (.bool false) (by kernel_rfl) (yld fun _ => by kernel_rfl) ?_
              refine wpS.take 18 false (some 114) (.bool false) (by kernel_rfl) (yld fun _ => by kernel_rfl) ?_
              refine wpS.take 19 false (some 115) (.int .i64 r13) (by kernel_rfl) (yld fun _ => by kernel_rfl) ?_
              refine wpS.take 20 false (some 116) (.int .i64 r16) (by kernel_rfl) (yld fun _ => by kernel_rfl) ?_
              rcases of_if h with ⟨hc, h⟩ | ⟨hc, h⟩
              · refine wpS.take 21 false (some 117) (.bool false) (by kernel_rfl) (yld_b (nf hc) (fun _ => by kernel_rfl)) ?_
                refine wpS.take 22 false (some 118) (.bool false) (by kernel_rfl) (yld fun _ => by kernel_rfl) ?_
                refine wpS.take 23 false (some 119) (.bool false) (by kernel_rfl) (yld fun _ => by kernel_rfl) ?_
                refine wpS.take 24 true (some 120) (.agg (enc .i32 r17).toArray) (by kernel_rfl) (yld_loadW (e := 40) (n := 256) hs 3 rfl (by kernel_rfl) (by kernel_rfl) (by kernel_rfl) (by exact enc_len _ _) .grow) ?_
                refine wpS.take 25 true (some 121) (.agg (enc .i32 r20).toArray) (by kernel_rfl) (yld_loadW (e := 40) (n := 256) hs 2 rfl (by kernel_rfl) (by kernel_rfl) (by kernel_rfl) (by exact enc_len _ _) .grow) ?_
                rcases of_ifb h with ⟨hc, h⟩ | ⟨hc, h⟩
                · refine wpS.take 26 false (some 122) (.bool true) (by kernel_rfl) (yld_bb hc (yld_eqAn (t := 40) (e := 21) (k := .i32) (.tmp 120) (.tmp 121) (by kernel_rfl) (by kernel_rfl) (by kernel_rfl) (by kernel_rfl) (by kernel_rfl) (by kernel_rfl))) ?_
                  refine wpS.take 27 false (some 123) (.bool true) (by kernel_rfl) (yld fun _ => by kernel_rfl) ?_
                  refine wpS.take 28 false (some 124) (.bool true) (by kernel_rfl) (yld fun _ => by kernel_rfl) ?_
                  refine wpS.take 29 false (some 125) (undef) (by kernel_rfl) (yld fun _ => by kernel_rfl) ?_
                  refine wpS.take 30 false (some 126) (undef) (by kernel_rfl) (yld fun _ => by kernel_rfl) ?_
                  refine wpS.take 31 false (some 127) (undef) (by kernel_rfl) (yld fun _ => by kernel_rfl) ?_
                  refine wpS.take 32 false (some 128) (.bool true) (by kernel_rfl) (yld fun _ => by kernel_rfl) ?_
                  refine wpS.take 33 false (some 129) (.bool true) (by kernel_rfl) (yld fun _ => by kernel_rfl) ?_
                  refine wpS.take 34 false (some 130) (undef) (by kernel_rfl) (yld fun _ => by kernel_rfl) ?_
                  refine wpS.take 35 false (some 131) (undef) (by kernel_rfl) (yld fun _ => by kernel_rfl) ?_
                  refine wpS.take 36 false (some 132) (undef) (by kernel_rfl) (yld fun _ => by kernel_rfl) ?_
                  refine wpS.take 37 false (some 133) (undef) (by kernel_rfl) (yld fun _ => by kernel_rfl) ?_
                  refine wpS.take 38 false (some 134) (.bool true) (by kernel_rfl) (yld fun _ => by kernel_rfl) ?_
                  refine wpS.take 39 false (some 135) (.bool true) (by kernel_rfl) (yld fun _ => by kernel_rfl) ?_
                  refine wpS.take 40 false (some 136) (undef) (by kernel_rfl) (yld fun _ => by kernel_rfl) ?_
                  refine wpS.take 41 false (some 137) (undef) (by kernel_rfl) (yld fun _ => by kernel_rfl) ?_
                  refine wpS.take 42 false (some 138) (undef) (by kernel_rfl) (yld fun _ => by kernel_rfl) ?_
                  refine wpS.take 43 false (some 139) (.bool true) (by kernel_rfl) (yld fun _ => by kernel_rfl) ?_
                  refine wpS.fin rfl (kr54 _ _ ?_)
                  refine then_n (ks53 _ _ ?_)
                  refine wp_cond_t (by kernel_rfl) ?_
                  refine xseq_k fun KS59 ks59 => ?_
                  refine wp_regS (l := [0]) (by kernel_rfl) (by kernel_rfl) fun KR60 kr60 => ?_
                  refine wpS.take 0 false (some 16) (.bool false) (by kernel_rfl) (yld fun _ => by kernel_rfl) ?_
                  refine wpS.fin rfl (kr60 _ _ ?_)
                  refine then_n (ks59 _ _ ?_)
                  refine xret ?_
                  refine then_r ?_
                  have q0 := of_some h
                  subst q0
                  exact qq _ _ (post_ret (by kernel_rfl) (run_results [.tmp 16] [.bool false] (by kernel_rfl) (.cons (res_tmp (by kernel_rfl)) .nil)) ⟨congrArg Ending.returned (by kernel_rfl), hs.none⟩)
                · refine wpS.take 26 false (some 122) (.bool false) (by kernel_rfl) (yld_bb hc (yld_eqAn (t := 40) (e := 21) (k := .i32) (.tmp 120) (.tmp 121) (by kernel_rfl) (by kernel_rfl) (by kernel_rfl) (by kernel_rfl) (by kernel_rfl) (by kernel_rfl))) ?_
                  refine wpS.take 27 false (some 123) (.bool false) (by kernel_rfl) (yld fun _ => by kernel_rfl) ?_
                  refine wpS.take 28 false (some 124) (.bool false) (by kernel_rfl) (yld fun _ => by kernel_rfl) ?_
                  refine wpS.take 29 false (some 125) (.bool r18) (by kernel_rfl) (yld fun _ => by kernel_rfl) ?_
                  refine wpS.take 30 false (some 126) (.bool r21) (by kernel_rfl) (yld fun _ => by kernel_rfl) ?_
                  rcases of_ifb h with ⟨hc, h⟩ | ⟨hc, h⟩
                  · refine wpS.take 31 false (some 127) (.bool true) (by kernel_rfl) (yld_b hc (fun _ => by kernel_rfl)) ?_
                    refine wpS.take 32 false (some 128) (.bool true) (by kernel_rfl) (yld fun _ => by kernel_rfl) ?_
                    refine wpS.take 33 false (some 129) (.bool true) (by kernel_rfl) (yld fun _ => by kernel_rfl) ?_
                    refine wpS.take 34 false (some 130) (undef) (by kernel_rfl) (yld fun _ => by kernel_rfl) ?_
                    refine wpS.take 35 false (some 131) (undef) (by kernel_rfl) (yld fun _ => by kernel_rfl) ?_
                    refine wpS.take 36 false (some 132) (undef) (by kernel_rfl) (yld fun _ => by kernel_rfl) ?_
                    refine wpS.take 37 false (some 133) (undef) (by kernel_rfl) (yld fun _ => by kernel_rfl) ?_
                    refine wpS.take 38 false (some 134) (.bool true) (by kernel_rfl) (yld fun _ => by kernel_rfl) ?_
                    refine wpS.take 39 false (some 135) (.bool true) (by kernel_rfl) (yld fun _ => by kernel_rfl) ?_
                    refine wpS.take 40 false (some 136) (undef) (by kernel_rfl) (yld fun _ => by kernel_rfl) ?_
                    refine wpS.take 41 false (some 137) (undef) (by kernel_rfl) (yld fun _ => by kernel_rfl) ?_
                    refine wpS.take 42 false (some 138) (undef) (by kernel_rfl) (yld fun _ => by kernel_rfl) ?_
                    refine wpS.take 43 false (some 139) (.bool true) (by kernel_rfl) (yld fun _ => by kernel_rfl) ?_
                    refine wpS.fin rfl (kr54 _ _ ?_)
                    refine then_n (ks53 _ _ ?_)
                    refine wp_cond_t (by kernel_rfl) ?_
                    refine xseq_k fun KS61 ks61 => ?_
                    refine wp_regS (l := [0]) (by kernel_rfl) (by kernel_rfl) fun KR62 kr62 => ?_
                    refine wpS.take 0 false (some 16) (.bool false) (by kernel_rfl) (yld fun _ => by kernel_rfl) ?_
                    refine wpS.fin rfl (kr62 _ _ ?_)
                    refine then_n (ks61 _ _ ?_)
                    refine xret ?_
                    refine then_r ?_
                    have q0 := of_some h
                    subst q0
                    exact qq _ _ (post_ret (by kernel_rfl) (run_results [.tmp 16] [.bool false] (by kernel_rfl) (.cons (res_tmp (by kernel_rfl)) .nil)) ⟨congrArg Ending.returned (by kernel_rfl), hs.none⟩)
                  · refine wpS.take 31 false (some 127) (.bool false) (by kernel_rfl) (yld_b hc (fun _ => by kernel_rfl)) ?_
                    refine wpS.take 32 false (some 128) (.bool false) (by kernel_rfl) (yld fun _ => by kernel_rfl) ?_
                    refine wpS.take 33 false (some 129) (.bool false) (by kernel_rfl) (yld fun _ => by kernel_rfl) ?_
                    refine wpS.take 34 false (some 130) (.slice r23_A r23_n r23_c) (by kernel_rfl) (yld fun _ => by kernel_rfl) ?_
                    refine wpS.take 35 false (some 131) (.slice r25_A r25_n r25_c) (by kernel_rfl) (yld fun _ => by kernel_rfl) ?_
                    obtain ⟨r27, hg, h⟩ := of_bind h
                    cases r27 with
                    | true =>
                      have h := of_if_t h
                      refine wpS.only 36 (op_call (d := (some 132)) (by kernel_rfl) hs (fun _ => by kernel_rfl) (ref22_Same.ok hg _ (hs.rowL 1 rfl) (hs.rowL 0 rfl)) ?_)
                      intro w gw hs
                      refine ⟨fun _ => trivial, ?_⟩
                      refine wpS.take 37 false (some 133) (.bool false) (by kernel_rfl) (yld fun _ => by kernel_rfl) ?_
                      refine wpS.take 38 false (some 134) (.bool false) (by kernel_rfl) (yld fun _ => by kernel_rfl) ?_
                      refine wpS.take 39 false (some 135) (.bool false) (by kernel_rfl) (yld fun _ => by kernel_rfl) ?_
                      refine wpS.take 40 false (some 136) (.bool r24) (by kernel_rfl) (yld fun _ => by kernel_rfl) ?_
                      refine wpS.take 41 false (some 137) (.bool r26) (by kernel_rfl) (yld fun _ => by kernel_rfl) ?_
                      rcases of_ifb h with ⟨hc, h⟩ | ⟨hc, h⟩
                      · refine wpS.take 42 false (some 138) (.bool true) (by kernel_rfl) (yld_b hc (fun _ => by kernel_rfl)) ?_
                        refine wpS.take 43 false (some 139) (.bool true) (by kernel_rfl) (yld fun _ => by kernel_rfl) ?_
                        refine wpS.fin rfl (kr54 _ _ ?_)
                        refine then_n (ks53 _ _ ?_)
                        refine wp_cond_t (by kernel_rfl) ?_
                        refine xseq_k fun KS63 ks63 => ?_
                        refine wp_regS (l := [0]) (by kernel_rfl) (by kernel_rfl) fun KR64 kr64 => ?_
                        refine wpS.take 0 false (some 16) (.bool false) (by kernel_rfl) (yld fun _ => by kernel_rfl) ?_
                        refine wpS.fin rfl (kr64 _ _ ?_)
                        refine then_n (ks63 _ _ ?_)
                        refine xret ?_
                        refine then_r ?_
                        have q0 := of_some h
                        subst q0
                        exact qq _ _ (post_ret (by kernel_rfl) (run_results [.tmp 16] [.bool false] (by kernel_rfl) (.cons (res_tmp (by kernel_rfl)) .nil)) ⟨congrArg Ending.returned (by kernel_rfl), hs.none⟩)
                      · refine wpS.take 42 false (some 138) (.bool false) (by kernel_rfl) (yld_b hc (fun _ => by kernel_rfl)) ?_
                        refine wpS.take 43 false (some 139) (.bool false) (by kernel_rfl) (yld fun _ => by kernel_rfl) ?_
                        refine wpS.fin rfl (kr54 _ _ ?_)
                        refine then_n (ks53 _ _ ?_)
                        refine wp_cond_f (by kernel_rfl) ?_
                        refine xskip ?_
                        refine then_n (ks52 _ _ ?_)
                        refine xseq_k fun KS65 ks65 => ?_
                        refine wp_regG [] (fun k => True) 22 (by kernel_rfl) (by kernel_rfl) (by kernel_rfl) fun KR66 kr66 => ?_
                        have hs := hs.drawn1
                        refine wpG.takeD 0 true (some 140) (.agg (enc .i32 a2).toArray) (by kernel_rfl) (by kernel_rfl) (yld_loadW (e := 40) (n := 256) hs 6 rfl (by kernel_rfl) (by kernel_rfl) (by kernel_rfl) (by exact enc_len _ _) .grow) ?_
                        refine wpG.takeD 1 false (some 141) (.int .i32 a3) (by kernel_rfl) (by kernel_rfl) (yld fun _ => by kernel_rfl) ?_
                        refine wpG.takeD 2 false (some 142) (.int .i32 a4) (by kernel_rfl) (by kernel_rfl) (yld fun _ => by kernel_rfl) ?_
                        refine wpG.takeD 4 true (some 144) (.agg (enc .i32 a2).toArray) (by kernel_rfl) (by kernel_rfl) (yld_loadW (e := 40) (n := 256) hs 6 rfl (by kernel_rfl) (by kernel_rfl) (by kernel_rfl) (by exact enc_len _ _) .grow) ?_
                        refine wpG.takeD 5 false (some 145) (.int .i32 a3) (by kernel_rfl) (by kernel_rfl) (yld fun _ => by kernel_rfl) ?_
                        refine wpG.takeD 6 false (some 146) (.int .i32 a4) (by kernel_rfl) (by kernel_rfl) (yld fun _ => by kernel_rfl) ?_
                        obtain ⟨r28, hg, h⟩ := of_bind h
                        refine wpG.only 3 (by kernel_rfl) (op_callH (d := (some 143)) (by kernel_rfl) hs (fun _ => by kernel_rfl) (dpack_Pack.ok hg _) ?_)
                        rintro ⟨r28_A, r28_n, r28_c⟩ w gw hs
                        have hs := hs.conv (L' := [.ownL (CI .u8) r28_A r28_n r28_c r28 5, .ownL (CA .i32 256 (by decide)) r25_A r25_n r25_c r25 40, .ownL (CA .i32 256 (by decide)) r23_A r23_n r23_c r23 40, .blk b22 (enc .i32 r20) 40, .blk b19 (enc .i32 r17) 40, .blk b10 ([.int .i64 r8_0, .int .i64 r8_1, .int .i32 r8_2, .int .i64 r8_3, .int .i32 r8_4, .int .i32 r8_5, .int .i64 r8_6, .int .i64 r8_7]) 23, .blk b7 ([.int .i64 r5_0, .int .i64 r5_1, .int .i32 r5_2, .int .i64 r5_3, .int .i32 r5_4, .int .i32 r5_5, .int .i64 r5_6, .int .i64 r5_7]) 23, .blk b2 (enc .i32 a2) 40, .blk b1 ([.int .i64 a1_0, .int .i64 a1_1, .int .i32 a1_2, .int .i64 a1_3, .int .i32 a1_4, .int .i32 a1_5, .int .i64 a1_6, .int .i64 a1_7]) 23]) rfl
                        refine ⟨.of gw, ?_⟩
                        obtain ⟨r29, hg, h⟩ := of_bind h
                        refine wpG.only 7 (by kernel_rfl) (op_callH (d := (some 147)) (by kernel_rfl) hs (fun _ => by kernel_rfl) (ref22_Pack.ok hg _) ?_)
                        rintro ⟨r29_A, r29_n, r29_c⟩ w gw hs
                        have hs := hs.conv (L' := [.ownL (CI .u8) r29_A r29_n r29_c r29 5, .ownL (CI .u8) r28_A r28_n r28_c r28 5, .ownL (CA .i32 256 (by decide)) r25_A r25_n r25_c r25 40, .ownL (CA .i32 256 (by decide)) r23_A r23_n r23_c r23 40, .blk b22 (enc .i32 r20) 40, .blk b19 (enc .i32 r17) 40, .blk b10 ([.int .i64 r8_0, .int .i64 r8_1, .int .i32 r8_2, .int .i64 r8_3, .int .i32 r8_4, .int .i32 r8_5, .int .i64 r8_6, .int .i64 r8_7]) 23, .blk b7 ([.int .i64 r5_0, .int .i64 r5_1, .int .i32 r5_2, .int .i64 r5_3, .int .i32 r5_4, .int .i32 r5_5, .int .i64 r5_6, .int .i64 r5_7]) 23, .blk b2 (enc .i32 a2) 40, .blk b1 ([.int .i64 a1_0, .int .i64 a1_1, .int .i32 a1_2, .int .i64 a1_3, .int .i32 a1_4, .int .i32 a1_5, .int .i64 a1_6, .int .i64 a1_7]) 23]) rfl
                        refine ⟨.of gw, ?_⟩
                        obtain ⟨r30, hg, h⟩ := of_bind h
                        cases r30 with
                        | true =>
                          have h := of_if_t h
                          refine wpG.only 8 (by kernel_rfl) (op_call (d := (some 148)) (by kernel_rfl) hs (fun _ => by kernel_rfl) (ref01_Same.ok hg _ (hs.rowL 1 rfl) (hs.rowL 0 rfl)) ?_)
                          intro w gw hs
                          refine ⟨.of gw, ?_⟩
                          refine wpG.takeD 9 false (some 149) (.bool true) (by kernel_rfl) (by kernel_rfl) (yld fun _ => by kernel_rfl) ?_
                          refine wpG.takeD 10 false (some 150) (.slice a6_A a6_n a6_c) (by kernel_rfl) (by kernel_rfl) (yld fun _ => by kernel_rfl) ?_
                          refine wpG.takeD 11 false (some 151) (.int .i64 a7) (by kernel_rfl) (by kernel_rfl) (yld fun _ => by kernel_rfl) ?_
                          refine wpG.takeD 13 false (some 153) (.slice a6_A a6_n a6_c) (by kernel_rfl) (by kernel_rfl) (yld fun _ => by kernel_rfl) ?_
                          refine wpG.takeD 14 false (some 154) (.int .i64 a7) (by kernel_rfl) (by kernel_rfl) (yld fun _ => by kernel_rfl) ?_
                          obtain ⟨r31, hg, h⟩ := of_bind h
                          refine wpG.only 12 (by kernel_rfl) (op_callH (d := (some 152)) (by kernel_rfl) hs (fun _ => by kernel_rfl) (dpack_Hints.ok hg _ (hs.rowR 1 rfl)) ?_)
                          rintro ⟨r31_A, r31_n, r31_c⟩ w gw hs
                          have hs := hs.conv (L' := [.ownL (CI .u8) r31_A r31_n r31_c r31 5, .ownL (CI .u8) r29_A r29_n r29_c r29 5, .ownL (CI .u8) r28_A r28_n r28_c r28 5, .ownL (CA .i32 256 (by decide)) r25_A r25_n r25_c r25 40, .ownL (CA .i32 256 (by decide)) r23_A r23_n r23_c r23 40, .blk b22 (enc .i32 r20) 40, .blk b19 (enc .i32 r17) 40, .blk b10 ([.int .i64 r8_0, .int .i64 r8_1, .int .i32 r8_2, .int .i64 r8_3, .int .i32 r8_4, .int .i32 r8_5, .int .i64 r8_6, .int .i64 r8_7]) 23, .blk b7 ([.int .i64 r5_0, .int .i64 r5_1, .int .i32 r5_2, .int .i64 r5_3, .int .i32 r5_4, .int .i32 r5_5, .int .i64 r5_6, .int .i64 r5_7]) 23, .blk b2 (enc .i32 a2) 40, .blk b1 ([.int .i64 a1_0, .int .i64 a1_1, .int .i32 a1_2, .int .i64 a1_3, .int .i32 a1_4, .int .i32 a1_5, .int .i64 a1_6, .int .i64 a1_7]) 23]) rfl
                          refine ⟨.of gw, ?_⟩
                          obtain ⟨r32, hg, h⟩ := of_bind h
                          refine wpG.only 15 (by kernel_rfl) (op_callH (d := (some 155)) (by kernel_rfl) hs (fun _ => by kernel_rfl) (ref22_Hints.ok hg _ (hs.rowR 1 rfl)) ?_)
                          rintro ⟨r32_A, r32_n, r32_c⟩ w gw hs
                          have hs := hs.conv (L' := [.ownL (CI .u8) r32_A r32_n r32_c r32 5, .ownL (CI .u8) r31_A r31_n r31_c r31 5, .ownL (CI .u8) r29_A r29_n r29_c r29 5, .ownL (CI .u8) r28_A r28_n r28_c r28 5, .ownL (CA .i32 256 (by decide)) r25_A r25_n r25_c r25 40, .ownL (CA .i32 256 (by decide)) r23_A r23_n r23_c r23 40, .blk b22 (enc .i32 r20) 40, .blk b19 (enc .i32 r17) 40, .blk b10 ([.int .i64 r8_0, .int .i64 r8_1, .int .i32 r8_2, .int .i64 r8_3, .int .i32 r8_4, .int .i32 r8_5, .int .i64 r8_6, .int .i64 r8_7]) 23, .blk b7 ([.int .i64 r5_0, .int .i64 r5_1, .int .i32 r5_2, .int .i64 r5_3, .int .i32 r5_4, .int .i32 r5_5, .int .i64 r5_6, .int .i64 r5_7]) 23, .blk b2 (enc .i32 a2) 40, .blk b1 ([.int .i64 a1_0, .int .i64 a1_1, .int .i32 a1_2, .int .i64 a1_3, .int .i32 a1_4, .int .i32 a1_5, .int .i64 a1_6, .int .i64 a1_7]) 23]) rfl
                          refine ⟨.of gw, ?_⟩
                          obtain ⟨r33, hg, h⟩ := of_bind h
                          cases r33 with
                          | true =>
                            have h := of_if_t h
                            refine wpG.only 16 (by kernel_rfl) (op_call (d := (some 156)) (by kernel_rfl) hs (fun _ => by kernel_rfl) (ref01_Same.ok hg _ (hs.rowL 1 rfl) (hs.rowL 0 rfl)) ?_)
                            intro w gw hs
                            refine ⟨.of gw, ?_⟩
                            refine wpG.takeD 17 false (some 157) (.bool true) (by kernel_rfl) (by kernel_rfl) (yld fun _ => by kernel_rfl) ?_
                            refine wpG.takeD 18 false (some 158) (.bool true) (by kernel_rfl) (by kernel_rfl) (yld fun _ => by kernel_rfl) ?_
                            obtain ⟨r34, hg, h⟩ := of_bind h
                            refine wpG.only 19 (by kernel_rfl) (op_call (d := (some 159)) (by kernel_rfl) hs (fun _ => by kernel_rfl) (law22_awake.ok hg _) ?_)
                            intro w gw hs
                            refine ⟨.of gw, ?_⟩
                            refine wpG.takeD 20 false (some 160) (.bool r34) (by kernel_rfl) (by kernel_rfl) (yld fun _ => by kernel_rfl) ?_
                            refine wpG.takeD 21 false (some 16) (.bool r34) (by kernel_rfl) (by kernel_rfl) (yld fun _ => by kernel_rfl) ?_
                            refine wpG.fin (by kernel_rfl) rfl (kr66 _ _ ?_)
                            refine then_n (ks65 _ _ ?_)
                            refine xret ?_
                            have q0 := of_some h
                            subst q0
                            exact qq _ _ (post_ret (by kernel_rfl) (run_results [.tmp 16] [.bool r34] (by kernel_rfl) (.cons (res_tmp (by kernel_rfl)) .nil)) ⟨congrArg Ending.returned (by kernel_rfl), hs.none⟩)
                          | false =>
                            have h := of_if_f h
                            refine wpG.only 16 (by kernel_rfl) (op_call (d := (some 156)) (by kernel_rfl) hs (fun _ => by kernel_rfl) (ref01_Same.ok hg _ (hs.rowL 1 rfl) (hs.rowL 0 rfl)) ?_)
                            intro w gw hs
                            refine ⟨.of gw, ?_⟩
                            refine wpG.takeD 17 false (some 157) (.bool false) (by kernel_rfl) (by kernel_rfl) (yld fun _ => by kernel_rfl) ?_
                            refine wpG.takeD 18 false (some 158) (.bool false) (by kernel_rfl) (by kernel_rfl) (yld fun _ => by kernel_rfl) ?_
                            refine wpG.takeD 19 false (some 159) (undef) (by kernel_rfl) (by kernel_rfl) (yld fun _ => by kernel_rfl) ?_
                            refine wpG.takeD 20 false (some 160) (.bool false) (by kernel_rfl) (by kernel_rfl) (yld fun _ => by kernel_rfl) ?_
                            refine wpG.takeD 21 false (some 16) (.bool false) (by kernel_rfl) (by kernel_rfl) (yld fun _ => by kernel_rfl) ?_
                            refine wpG.fin (by kernel_rfl) rfl (kr66 _ _ ?_)
                            refine then_n (ks65 _ _ ?_)
                            refine xret ?_
                            have q0 := of_some h
                            subst q0
                            exact qq _ _ (post_ret (by kernel_rfl) (run_results [.tmp 16] [.bool false] (by kernel_rfl) (.cons (res_tmp (by kernel_rfl)) .nil)) ⟨congrArg Ending.returned (by kernel_rfl), hs.none⟩)
                        | false =>
                          have h := of_if_f h
                          refine wpG.only 8 (by kernel_rfl) (op_call (d := (some 148)) (by kernel_rfl) hs (fun _ => by kernel_rfl) (ref01_Same.ok hg _ (hs.rowL 1 rfl) (hs.rowL 0 rfl)) ?_)
                          intro w gw hs
                          refine ⟨.of gw, ?_⟩
                          refine wpG.takeD 9 false (some 149) (.bool false) (by kernel_rfl) (by kernel_rfl) (yld fun _ => by kernel_rfl) ?_
                          refine wpG.takeD 10 false (some 150) (undef) (by kernel_rfl) (by kernel_rfl) (yld fun _ => by kernel_rfl) ?_
                          refine wpG.takeD 11 false (some 151) (undef) (by kernel_rfl) (by kernel_rfl) (yld fun _ => by kernel_rfl) ?_
                          refine wpG.takeD 13 false (some 153) (undef) (by kernel_rfl) (by kernel_rfl) (yld fun _ => by kernel_rfl) ?_
                          refine wpG.takeD 14 false (some 154) (undef) (by kernel_rfl) (by kernel_rfl) (yld fun _ => by kernel_rfl) ?_
                          refine wpG.takeD 12 false (some 152) (undef) (by kernel_rfl) (by kernel_rfl) (yld fun _ => by kernel_rfl) ?_
                          refine wpG.takeD 15 false (some 155) (undef) (by kernel_rfl) (by kernel_rfl) (yld fun _ => by kernel_rfl) ?_
                          refine wpG.takeD 16 false (some 156) (undef) (by kernel_rfl) (by kernel_rfl) (yld fun _ => by kernel_rfl) ?_
                          refine wpG.takeD 17 false (some 157) (.bool false) (by kernel_rfl) (by kernel_rfl) (yld fun _ => by kernel_rfl) ?_
                          refine wpG.takeD 18 false (some 158) (.bool false) (by kernel_rfl) (by kernel_rfl) (yld fun _ => by kernel_rfl) ?_
                          refine wpG.takeD 19 false (some 159) (undef) (by kernel_rfl) (by kernel_rfl) (yld fun _ => by kernel_rfl) ?_
                          refine wpG.takeD 20 false (some 160) (.bool false) (by kernel_rfl) (by kernel_rfl) (yld fun _ => by kernel_rfl) ?_
                          refine wpG.takeD 21 false (some 16) (.bool false) (by kernel_rfl) (by kernel_rfl) (yld fun _ => by kernel_rfl) ?_
                          refine wpG.fin (by kernel_rfl) rfl (kr66 _ _ ?_)
                          refine then_n (ks65 _ _ ?_)
                          refine xret ?_
                          have q0 := of_some h
                          subst q0
                          exact qq _ _ (post_ret (by kernel_rfl) (run_results [.tmp 16] [.bool false] (by kernel_rfl) (.cons (res_tmp (by kernel_rfl)) .nil)) ⟨congrArg Ending.returned (by kernel_rfl), hs.none⟩)
                    | false =>
                      have h := of_if_f h
                      refine wpS.only 36 (op_call (d := (some 132)) (by kernel_rfl) hs (fun _ => by kernel_rfl) (ref22_Same.ok hg _ (hs.rowL 1 rfl) (hs.rowL 0 rfl)) ?_)
                      intro w gw hs
                      refine ⟨fun _ => trivial, ?_⟩
                      refine wpS.take 37 false (some 133) (.bool true) (by kernel_rfl) (yld fun _ => by kernel_rfl) ?_
                      refine wpS.take 38 false (some 134) (.bool true) (by kernel_rfl) (yld fun _ => by kernel_rfl) ?_
                      refine wpS.take 39 false (some 135) (.bool true) (by kernel_rfl) (yld fun _ => by kernel_rfl) ?_
                      refine wpS.take 40 false (some 136) (undef) (by kernel_rfl) (yld fun _ => by kernel_rfl) ?_
                      refine wpS.take 41 false (some 137) (undef) (by kernel_rfl) (yld fun _ => by kernel_rfl) ?_
                      refine wpS.take 42 false (some 138) (undef) (by kernel_rfl) (yld fun _ => by kernel_rfl) ?_
                      refine wpS.take 43 false (some 139) (.bool true) (by kernel_rfl) (yld fun _ => by kernel_rfl) ?_
                      refine wpS.fin rfl (kr54 _ _ ?_)
                      refine then_n (ks53 _ _ ?_)
                      refine wp_cond_t (by kernel_rfl) ?_
                      refine xseq_k fun KS67 ks67 => ?_
                      refine wp_regS (l := [0]) (by kernel_rfl) (by kernel_rfl) fun KR68 kr68 => ?_
                      refine wpS.take 0 false (some 16) (.bool false) (by kernel_rfl) (yld fun _ => by kernel_rfl) ?_
                      refine wpS.fin rfl (kr68 _ _ ?_)
                      refine then_n (ks67 _ _ ?_)
                      refine xret ?_
                      refine then_r ?_
                      have q0 := of_some h
                      subst q0
                      exact qq _ _ (post_ret (by kernel_rfl) (run_results [.tmp 16] [.bool false] (by kernel_rfl) (.cons (res_tmp (by kernel_rfl)) .nil)) ⟨congrArg Ending.returned (by kernel_rfl), hs.none⟩)
              · refine wpS.take 21 false (some 117) (.bool true) (by kernel_rfl) (yld_b (nt hc) (fun _ => by kernel_rfl)) ?_
                refine wpS.take 22 false (some 118) (.bool true) (by kernel_rfl) (yld fun _ => by kernel_rfl) ?_
                refine wpS.take 23 false (some 119) (.bool true) (by kernel_rfl) (yld fun _ => by kernel_rfl) ?_
                refine wpS.take 24 false (some 120) (undef) (by kernel_rfl) (yld fun _ => by kernel_rfl) ?_
                refine wpS.take 25 false (some 121) (undef) (by kernel_rfl) (yld fun _ => by kernel_rfl) ?_
                refine wpS.take 26 false (some 122) (undef) (by kernel_rfl) (yld fun _ => by kernel_rfl) ?_
                refine wpS.take 27 false (some 123) (.bool true) (by kernel_rfl) (yld fun _ => by kernel_rfl) ?_
                refine wpS.take 28 false (some 124) (.bool true) (by kernel_rfl) (yld fun _ => by kernel_rfl) ?_
                refine wpS.take 29 false (some 125) (undef) (by kernel_rfl) (yld fun _ => by kernel_rfl) ?_
                refine wpS.take 30 false (some 126) (undef) (by kernel_rfl) (yld fun _ => by kernel_rfl) ?_
                refine wpS.take 31 false (some 127) (undef) (by kernel_rfl) (yld fun _ => by kernel_rfl) ?_
                refine wpS.take 32 false (some 128) (.bool true) (by kernel_rfl) (yld fun _ => by kernel_rfl) ?_
                refine wpS.take 33 false (some 129) (.bool true) (by kernel_rfl) (yld fun _ => by kernel_rfl) ?_
                refine wpS.take 34 false (some 130) (undef) (by kernel_rfl) (yld fun _ => by kernel_rfl) ?_
                refine wpS.take 35 false (some 131) (undef) (by kernel_rfl) (yld fun _ => by kernel_rfl) ?_
                refine wpS.take 36 false (some 132) (undef) (by kernel_rfl) (yld fun _ => by kernel_rfl) ?_
                refine wpS.take 37 false (some 133) (undef) (by kernel_rfl) (yld fun _ => by kernel_rfl) ?_
                refine wpS.take 38 false (some 134) (.bool true) (by kernel_rfl) (yld fun _ => by kernel_rfl) ?_
                refine wpS.take 39 false (some 135) (.bool true) (by kernel_rfl) (yld fun _ => by kernel_rfl) ?_
                refine wpS.take 40 false (some 136) (undef) (by kernel_rfl) (yld fun _ => by kernel_rfl) ?_
                refine wpS.take 41 false (some 137) (undef) (by kernel_rfl) (yld fun _ => by kernel_rfl) ?_
                refine wpS.take 42 false (some 138) (undef) (by kernel_rfl) (yld fun _ => by kernel_rfl) ?_
                refine wpS.take 43 false (some 139) (.bool true) (by kernel_rfl) (yld fun _ => by kernel_rfl) ?_
                refine wpS.fin rfl (kr54 _ _ ?_)
                refine then_n (ks53 _ _ ?_)
                refine wp_cond_t (by kernel_rfl) ?_
                refine xseq_k fun KS69 ks69 => ?_
                refine wp_regS (l := [0]) (by kernel_rfl) (by kernel_rfl) fun KR70 kr70 => ?_
                refine wpS.take 0 false (some 16) (.bool false) (by kernel_rfl) (yld fun _ => by kernel_rfl) ?_
                refine wpS.fin rfl (kr70 _ _ ?_)
                refine then_n (ks69 _ _ ?_)
                refine xret ?_
                refine then_r ?_
                have q0 := of_some h
                subst q0
                exact qq _ _ (post_ret (by kernel_rfl) (run_results [.tmp 16] [.bool false] (by kernel_rfl) (.cons (res_tmp (by kernel_rfl)) .nil)) ⟨congrArg Ending.returned (by kernel_rfl), hs.none⟩)
            · refine wpS.take 16 false (some 112) (.bool true) (by kernel_rfl) (yld_b (nt hc) (fun _ => by kernel_rfl)) ?_
              refine wpS.take 17 false (some 113) (.bool true) (by kernel_rfl) (yld fun _ => by kernel_rfl) ?_
              refine wpS.take 18 false (some 114) (.bool true) (by kernel_rfl) (yld fun _ => by kernel_rfl) ?_
              refine wpS.take 19 false (some 115) (undef) (by kernel_rfl) (yld fun _ => by kernel_rfl) ?_
              refine wpS.take 20 false (some 116) (undef) (by kernel_rfl) (yld fun _ => by kernel_rfl) ?_
              refine wpS.take 21 false (some 117) (undef) (by kernel_rfl) (yld fun _ => by kernel_rfl) ?_
              refine wpS.take 22 false (some 118) (.bool true) (by kernel_rfl) (yld fun _ => by kernel_rfl) ?_
              refine wpS.take 23 false (some 119) (.bool true) (by kernel_rfl) (yld fun _ => by kernel_rfl) ?_
              refine wpS.take 24 false (some 120) (undef) (by kernel_rfl) (yld fun _ => by kernel_rfl) ?_
              refine wpS.take 25 false (some 121) (undef) (by kernel_rfl) (yld fun _ => by kernel_rfl) ?_
              refine wpS.take 26 false (some 122) (undef) (by kernel_rfl) (yld fun _ => by kernel_rfl) ?_
              refine wpS.take 27 false (some 123) (.bool true) (by kernel_rfl) (yld fun _ => by kernel_rfl) ?_
              refine wpS.take 28 false (some 124) (.bool true) (by kernel_rfl) (yld fun _ => by kernel_rfl) ?_
              refine wpS.take 29 false (some 125) (undef) (by kernel_rfl) (yld fun _ => by kernel_rfl) ?_
              refine wpS.take 30 false (some 126) (undef) (by kernel_rfl) (yld fun _ => by kernel_rfl) ?_
              refine wpS.take 31 false (some 127) (undef) (by kernel_rfl) (yld fun _ => by kernel_rfl) ?_
              refine wpS.take 32 false (some 128) (.bool true) (by kernel_rfl) (yld fun _ => by kernel_rfl) ?_
              refine wpS.take 33 false (some 129) (.bool true) (by kernel_rfl) (yld fun _ => by kernel_rfl) ?_
              refine wpS.take 34 false (some 130) (undef) (by kernel_rfl) (yld fun _ => by kernel_rfl) ?_
              refine wpS.take 35 false (some 131) (undef) (by kernel_rfl) (yld fun _ => by kernel_rfl) ?_
              refine wpS.take 36 false (some 132) (undef) (by kernel_rfl) (yld fun _ => by kernel_rfl) ?_
              refine wpS.take 37 false (some 133) (undef) (by kernel_rfl) (yld fun _ => by kernel_rfl) ?_
              refine wpS.take 38 false (some 134) (.bool true) (by kernel_rfl) (yld fun _ => by kernel_rfl) ?_
              refine wpS.take 39 false (some 135) (.bool true) (by kernel_rfl) (yld fun _ => by kernel_rfl) ?_
              refine wpS.take 40 false (some 136) (undef) (by kernel_rfl) (yld fun _ => by kernel_rfl) ?_
              refine wpS.take 41 false (some 137) (undef) (by kernel_rfl) (yld fun _ => by kernel_rfl) ?_
              refine wpS.take 42 false (some 138) (undef) (by kernel_rfl) (yld fun _ => by kernel_rfl) ?_
              refine wpS.take 43 false (some 139) (.bool true) (by kernel_rfl) (yld fun _ => by kernel_rfl) ?_
              refine wpS.fin rfl (kr54 _ _ ?_)
              refine then_n (ks53 _ _ ?_)
              refine wp_cond_t (by kernel_rfl) ?_
              refine xseq_k fun KS71 ks71 => ?_
              refine wp_regS (l := [0]) (by kernel_rfl) (by kernel_rfl) fun KR72 kr72 => ?_
              refine wpS.take 0 false (some 16) (.bool false) (by kernel_rfl) (yld fun _ => by kernel_rfl) ?_
              refine wpS.fin rfl (kr72 _ _ ?_)
              refine then_n (ks71 _ _ ?_)
              refine xret ?_
              refine then_r ?_
              have q0 := of_some h
              subst q0
              exact qq _ _ (post_ret (by kernel_rfl) (run_results [.tmp 16] [.bool false] (by kernel_rfl) (.cons (res_tmp (by kernel_rfl)) .nil)) ⟨congrArg Ending.returned (by kernel_rfl), hs.none⟩)
          · refine wpS.take 11 false (some 107) (.bool true) (by kernel_rfl) (yld_b (nt hc) (fun _ => by kernel_rfl)) ?_
            refine wpS.take 12 false (some 108) (.bool true) (by kernel_rfl) (yld fun _ => by kernel_rfl) ?_
            refine wpS.take 13 false (some 109) (.bool true) (by kernel_rfl) (yld fun _ => by kernel_rfl) ?_
            refine wpS.take 14 false (some 110) (undef) (by kernel_rfl) (yld fun _ => by kernel_rfl) ?_
            refine wpS.take 15 false (some 111) (undef) (by kernel_rfl) (yld fun _ => by kernel_rfl) ?_
            refine wpS.take 16 false (some 112) (undef) (by kernel_rfl) (yld fun _ => by kernel_rfl) ?_
            refine wpS.take 17 false (some 113) (.bool true) (by kernel_rfl) (yld fun _ => by kernel_rfl) ?_
            refine wpS.take 18 false (some 114) (.bool true) (by kernel_rfl) (yld fun _ => by kernel_rfl) ?_
            refine wpS.take 19 false (some 115) (undef) (by kernel_rfl) (yld fun _ => by kernel_rfl) ?_
            refine wpS.take 20 false (some 116) (undef) (by kernel_rfl) (yld fun _ => by kernel_rfl) ?_
            refine wpS.take 21 false (some 117) (undef) (by kernel_rfl) (yld fun _ => by kernel_rfl) ?_
            refine wpS.take 22 false (some 118) (.bool true) (by kernel_rfl) (yld fun _ => by kernel_rfl) ?_
            refine wpS.take 23 false (some 119) (.bool true) (by kernel_rfl) (yld fun _ => by kernel_rfl) ?_
            refine wpS.take 24 false (some 120) (undef) (by kernel_rfl) (yld fun _ => by kernel_rfl) ?_
            refine wpS.take 25 false (some 121) (undef) (by kernel_rfl) (yld fun _ => by kernel_rfl) ?_
            refine wpS.take 26 false (some 122) (undef) (by kernel_rfl) (yld fun _ => by kernel_rfl) ?_
            refine wpS.take 27 false (some 123) (.bool true) (by kernel_rfl) (yld fun _ => by kernel_rfl) ?_
            refine wpS.take 28 false (some 124) (.bool true) (by kernel_rfl) (yld fun _ => by kernel_rfl) ?_
            refine wpS.take 29 false (some 125) (undef) (by kernel_rfl) (yld fun _ => by kernel_rfl) ?_
            refine wpS.take 30 false (some 126) (undef) (by kernel_rfl) (yld fun _ => by kernel_rfl) ?_
            refine wpS.take 31 false (some 127) (undef) (by kernel_rfl) (yld fun _ => by kernel_rfl) ?_
            refine wpS.take 32 false (some 128) (.bool true) (by kernel_rfl) (yld fun _ => by kernel_rfl) ?_
            refine wpS.take 33 false (some 129) (.bool true) (by kernel_rfl) (yld fun _ => by kernel_rfl) ?_
            refine wpS.take 34 false (some 130) (undef) (by kernel_rfl) (yld fun _ => by kernel_rfl) ?_
            refine wpS.take 35 false (some 131) (undef) (by kernel_rfl) (yld fun _ => by kernel_rfl) ?_
            refine wpS.take 36 false (some 132) (undef) (by kernel_rfl) (yld fun _ => by kernel_rfl) ?_
            refine wpS.take 37 false (some 133) (undef) (by kernel_rfl) (yld fun _ => by kernel_rfl) ?_
            refine wpS.take 38 false (some 134) (.bool true) (by kernel_rfl) (yld fun _ => by kernel_rfl) ?_
            refine wpS.take 39 false (some 135) (.bool true) (by kernel_rfl) (yld fun _ => by kernel_rfl) ?_
            refine wpS.take 40 false (some 136) (undef) (by kernel_rfl) (yld fun _ => by kernel_rfl) ?_
            refine wpS.take 41 false (some 137) (undef) (by kernel_rfl) (yld fun _ => by kernel_rfl) ?_
            refine wpS.take 42 false (some 138) (undef) (by kernel_rfl) (yld fun _ => by kernel_rfl) ?_
            refine wpS.take 43 false (some 139) (.bool true) (by kernel_rfl) (yld fun _ => by kernel_rfl) ?_
            refine wpS.fin rfl (kr54 _ _ ?_)
            refine then_n (ks53 _ _ ?_)
            refine wp_cond_t (by kernel_rfl) ?_
            refine xseq_k fun KS73 ks73 => ?_
            refine wp_regS (l := [0]) (by kernel_rfl) (by kernel_rfl) fun KR74 kr74 => ?_
            refine wpS.take 0 false (some 16) (.bool false) (by kernel_rfl) (yld fun _ => by kernel_rfl) ?_
            refine wpS.fin rfl (kr74 _ _ ?_)
            refine then_n (ks73 _ _ ?_)
            refine xret ?_
            refine then_r ?_
            have q0 := of_some h
            subst q0
            exact qq _ _ (post_ret (by kernel_rfl) (run_results [.tmp 16] [.bool false] (by kernel_rfl) (.cons (res_tmp (by kernel_rfl)) .nil)) ⟨congrArg Ending.returned (by kernel_rfl), hs.none⟩)
end Go.Proofs.Ytblploekkjeolaa
