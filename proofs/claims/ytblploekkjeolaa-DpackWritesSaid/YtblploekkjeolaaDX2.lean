/- Printed by this work's own program: the code of each function below comes to the answer that its plain form tells. -/
import Derived.Test.YtblploekkjeolaaMj
import Derived.Test.YtblploekkjeolaaProg
import Derived.Test.YtblploekkjeolaaDF0
import Derived.Test.YtblploekkjeolaaDX1
set_option linter.unusedVariables false
set_option linter.unusedSimpArgs false
set_option maxRecDepth 100000
set_option maxHeartbeats 4000000
namespace Go.Proofs.Ytblploekkjeolaa
open Go.Mx
attribute [local irreducible] wpOp

theorem ref22_Known.ok {K : Nat} {a0_0 : Int} {a0_1 : Int} {a0_2 : Int} {a0_3 : Int} {a0_4 : Int} {a0_5 : Int} {a0_6 : Int} {a0_7 : Int} {r0 : Bool} (h : ref22_Known.f K a0_0 a0_1 a0_2 a0_3 a0_4 a0_5 a0_6 a0_7 = some r0) (w0 : World) : Ret Try.prog 42 #[.agg #[.int .i64 a0_0, .int .i64 a0_1, .int .i32 a0_2, .int .i64 a0_3, .int .i32 a0_4, .int .i32 a0_5, .int .i64 a0_6, .int .i64 a0_7]] w0 (.bool r0) := by
  refine calls_k Try.func42 rfl fun Q qq => ?_
  have hs := St.start w0
  refine wp_conv (a' := ⟨#[.agg #[.int .i64 a0_0, .int .i64 a0_1, .int .i32 a0_2, .int .i64 a0_3, .int .i32 a0_4, .int .i32 a0_5, .int .i64 a0_6, .int .i64 a0_7], undef, undef, undef, undef, undef, undef, undef, undef, undef, undef, undef, undef, undef, undef, undef, undef, undef, undef, undef, undef, undef, undef, undef, undef, undef, undef, undef, undef, undef, undef, undef, undef, undef], []⟩) (by kernel_rfl) ?_
  refine xseq_k fun KS1 ks1 => ?_
  refine wp_regS (l := [0, 1]) (by kernel_rfl) (by kernel_rfl) fun KR2 kr2 => ?_
  refine wpS.only 0 (op_box (t := 23) (v := .agg #[.int .i64 a0_0, .int .i64 a0_1, .int .i32 a0_2, .int .i64 a0_3, .int .i32 a0_4, .int .i32 a0_5, .int .i64 a0_6, .int .i64 a0_7]) (d := (some 1)) (by kernel_rfl) hs ([.int .i64 a0_0, .int .i64 a0_1, .int .i32 a0_2, .int .i64 a0_3, .int .i32 a0_4, .int .i32 a0_5, .int .i64 a0_6, .int .i64 a0_7]) (by kernel_rfl) (by kernel_rfl) ?_)
  intro b1 w gw hs
  refine ⟨fun _ => trivial, ?_⟩
  refine wpS.take 1 false (some 2) (.bool false) (by kernel_rfl) (yld fun _ => by kernel_rfl) ?_
  refine wpS.fin rfl (kr2 _ _ ?_)
  refine then_n (ks1 _ _ ?_)
  refine xseq_k fun KS3 ks3 => ?_
  refine wp_regS (l := [0, 1, 2, 3, 4, 5, 6]) (by kernel_rfl) (by kernel_rfl) fun KR4 kr4 => ?_
  obtain ⟨⟨r2_0, r2_1, r2_2, r2_3, r2_4, r2_5, r2_6, r2_7, r3⟩, hg, h⟩ := of_bind h
  refine wpS.only 0 (op_call (d := (some 10)) (by kernel_rfl) hs (fun _ => by kernel_rfl) (ref22_Set.ok hg _) ?_)
  intro w gw hs
  refine ⟨fun _ => trivial, ?_⟩
  refine wpS.take 1 false (some 9) (.tuple #[.agg #[.int .i64 r2_0, .int .i64 r2_1, .int .i32 r2_2, .int .i64 r2_3, .int .i32 r2_4, .int .i32 r2_5, .int .i64 r2_6, .int .i64 r2_7], .bool r3]) (by kernel_rfl) (yld fun _ => by kernel_rfl) ?_
  refine wpS.take 2 false (some 11) (.agg #[.int .i64 r2_0, .int .i64 r2_1, .int .i32 r2_2, .int .i64 r2_3, .int .i32 r2_4, .int .i32 r2_5, .int .i64 r2_6, .int .i64 r2_7]) (by kernel_rfl) (yld fun _ => by kernel_rfl) ?_
  refine wpS.take 3 false (some 12) (.bool r3) (by kernel_rfl) (yld fun _ => by kernel_rfl) ?_
  refine wpS.only 4 (op_alloc (t := 23) (d := (some 3)) (by kernel_rfl) hs ([.int .i64 0, .int .i64 0, .int .i32 0, .int .i64 0, .int .i32 0, .int .i32 0, .int .i64 0, .int .i64 0]) (.agg #[.int .i64 0, .int .i64 0, .int .i32 0, .int .i64 0, .int .i32 0, .int .i32 0, .int .i64 0, .int .i64 0]) (by kernel_rfl) (by kernel_rfl) (by kernel_rfl) ?_)
  intro b4 w gw hs
  refine ⟨fun _ => trivial, ?_⟩
  refine wpS.only 5 (op_storeW (t := 23) (v := .agg #[.int .i64 r2_0, .int .i64 r2_1, .int .i32 r2_2, .int .i64 r2_3, .int .i32 r2_4, .int .i32 r2_5, .int .i64 r2_6, .int .i64 r2_7]) (d := none) (by kernel_rfl) hs 0 rfl (vs := [.int .i64 r2_0, .int .i64 r2_1, .int .i32 r2_2, .int .i64 r2_3, .int .i32 r2_4, .int .i32 r2_5, .int .i64 r2_6, .int .i64 r2_7]) (n := 8) (by kernel_rfl) (by kernel_rfl) (by kernel_rfl) (by simp [enc_len]) (by simp [enc_len]) (by simp [Value.oneCell']) ?_)
  intro w kp hs
  refine ⟨fun _ => trivial, ?_⟩
  refine wpS.take 6 false (some 4) (.bool r3) (by kernel_rfl) (yld fun _ => by kernel_rfl) ?_
  refine wpS.fin rfl (kr4 _ _ ?_)
  refine then_n (ks3 _ _ ?_)
  refine xseq_k fun KS5 ks5 => ?_
  refine wp_regS (l := [0, 1, 2, 3, 4, 5, 6]) (by kernel_rfl) (by kernel_rfl) fun KR6 kr6 => ?_
  obtain ⟨⟨r5_0, r5_1, r5_2, r5_3, r5_4, r5_5, r5_6, r5_7, r6⟩, hg, h⟩ := of_bind h
  refine wpS.only 0 (op_call (d := (some 14)) (by kernel_rfl) hs (fun _ => by kernel_rfl) (ref22_Set.ok hg _) ?_)
  intro w gw hs
  refine ⟨fun _ => trivial, ?_⟩
  refine wpS.take 1 false (some 13) (.tuple #[.agg #[.int .i64 r5_0, .int .i64 r5_1, .int .i32 r5_2, .int .i64 r5_3, .int .i32 r5_4, .int .i32 r5_5, .int .i64 r5_6, .int .i64 r5_7], .bool r6]) (by kernel_rfl) (yld fun _ => by kernel_rfl) ?_
  refine wpS.take 2 false (some 15) (.agg #[.int .i64 r5_0, .int .i64 r5_1, .int .i32 r5_2, .int .i64 r5_3, .int .i32 r5_4, .int .i32 r5_5, .int .i64 r5_6, .int .i64 r5_7]) (by kernel_rfl) (yld fun _ => by kernel_rfl) ?_
  refine wpS.take 3 false (some 16) (.bool r6) (by kernel_rfl) (yld fun _ => by kernel_rfl) ?_
  refine wpS.only 4 (op_alloc (t := 23) (d := (some 5)) (by kernel_rfl) hs ([.int .i64 0, .int .i64 0, .int .i32 0, .int .i64 0, .int .i32 0, .int .i32 0, .int .i64 0, .int .i64 0]) (.agg #[.int .i64 0, .int .i64 0, .int .i32 0, .int .i64 0, .int .i32 0, .int .i32 0, .int .i64 0, .int .i64 0]) (by kernel_rfl) (by kernel_rfl) (by kernel_rfl) ?_)
  intro b7 w gw hs
  refine ⟨fun _ => trivial, ?_⟩
  refine wpS.only 5 (op_storeW (t := 23) (v := .agg #[.int .i64 r5_0, .int .i64 r5_1, .int .i32 r5_2, .int .i64 r5_3, .int .i32 r5_4, .int .i32 r5_5, .int .i64 r5_6, .int .i64 r5_7]) (d := none) (by kernel_rfl) hs 0 rfl (vs := [.int .i64 r5_0, .int .i64 r5_1, .int .i32 r5_2, .int .i64 r5_3, .int .i32 r5_4, .int .i32 r5_5, .int .i64 r5_6, .int .i64 r5_7]) (n := 8) (by kernel_rfl) (by kernel_rfl) (by kernel_rfl) (by simp [enc_len]) (by simp [enc_len]) (by simp [Value.oneCell']) ?_)
  intro w kp hs
  refine ⟨fun _ => trivial, ?_⟩
  refine wpS.take 6 false (some 6) (.bool r6) (by kernel_rfl) (yld fun _ => by kernel_rfl) ?_
  refine wpS.fin rfl (kr6 _ _ ?_)
  refine then_n (ks5 _ _ ?_)
  refine xseq_k fun KS7 ks7 => ?_
  refine wp_regS (l := [0, 1, 2, 3, 4, 5, 6]) (by kernel_rfl) (by kernel_rfl) fun KR8 kr8 => ?_
  obtain ⟨⟨r8_0, r8_1, r8_2, r8_3, r8_4, r8_5, r8_6, r8_7, r9⟩, hg, h⟩ := of_bind h
  refine wpS.only 0 (op_call (d := (some 18)) (by kernel_rfl) hs (fun _ => by kernel_rfl) (ref22_Set.ok hg _) ?_)
  intro w gw hs
  refine ⟨fun _ => trivial, ?_⟩
  refine wpS.take 1 false (some 17) (.tuple #[.agg #[.int .i64 r8_0, .int .i64 r8_1, .int .i32 r8_2, .int .i64 r8_3, .int .i32 r8_4, .int .i32 r8_5, .int .i64 r8_6, .int .i64 r8_7], .bool r9]) (by kernel_rfl) (yld fun _ => by kernel_rfl) ?_
  refine wpS.take 2 false (some 19) (.agg #[.int .i64 r8_0, .int .i64 r8_1, .int .i32 r8_2, .int .i64 r8_3, .int .i32 r8_4, .int .i32 r8_5, .int .i64 r8_6, .int .i64 r8_7]) (by kernel_rfl) (yld fun _ => by kernel_rfl) ?_
  refine wpS.take 3 false (some 20) (.bool r9) (by kernel_rfl) (yld fun _ => by kernel_rfl) ?_
  refine wpS.only 4 (op_alloc (t := 23) (d := (some 7)) (by kernel_rfl) hs ([.int .i64 0, .int .i64 0, .int .i32 0, .int .i64 0, .int .i32 0, .int .i32 0, .int .i64 0, .int .i64 0]) (.agg #[.int .i64 0, .int .i64 0, .int .i32 0, .int .i64 0, .int .i32 0, .int .i32 0, .int .i64 0, .int .i64 0]) (by kernel_rfl) (by kernel_rfl) (by kernel_rfl) ?_)
  intro b10 w gw hs
  refine ⟨fun _ => trivial, ?_⟩
  refine wpS.only 5 (op_storeW (t := 23) (v := .agg #[.int .i64 r8_0, .int .i64 r8_1, .int .i32 r8_2, .int .i64 r8_3, .int .i32 r8_4, .int .i32 r8_5, .int .i64 r8_6, .int .i64 r8_7]) (d := none) (by kernel_rfl) hs 0 rfl (vs := [.int .i64 r8_0, .int .i64 r8_1, .int .i32 r8_2, .int .i64 r8_3, .int .i32 r8_4, .int .i32 r8_5, .int .i64 r8_6, .int .i64 r8_7]) (n := 8) (by kernel_rfl) (by kernel_rfl) (by kernel_rfl) (by simp [enc_len]) (by simp [enc_len]) (by simp [Value.oneCell']) ?_)
  intro w kp hs
  refine ⟨fun _ => trivial, ?_⟩
  refine wpS.take 6 false (some 8) (.bool r9) (by kernel_rfl) (yld fun _ => by kernel_rfl) ?_
  refine wpS.fin rfl (kr8 _ _ ?_)
  refine then_n (ks7 _ _ ?_)
  refine xseq_k fun KS9 ks9 => ?_
  refine wp_regS (l := [0, 1, 2, 3, 4, 5, 6, 7, 8, 9, 10, 11, 12, 13]) (by kernel_rfl) (by kernel_rfl) fun KR10 kr10 => ?_
  refine wpS.take 0 true (some 21) (.agg #[.int .i64 a0_0, .int .i64 a0_1, .int .i32 a0_2, .int .i64 a0_3, .int .i32 a0_4, .int .i32 a0_5, .int .i64 a0_6, .int .i64 a0_7]) (by kernel_rfl) (yld_loadW (e := 23) (n := 8) hs 3 rfl (by kernel_rfl) (by kernel_rfl) (by kernel_rfl) (by simp [enc_len]) .grow) ?_
  refine wpS.take 1 true (some 22) (.agg #[.int .i64 r2_0, .int .i64 r2_1, .int .i32 r2_2, .int .i64 r2_3, .int .i32 r2_4, .int .i32 r2_5, .int .i64 r2_6, .int .i64 r2_7]) (by kernel_rfl) (yld_loadW (e := 23) (n := 8) hs 2 rfl (by kernel_rfl) (by kernel_rfl) (by kernel_rfl) (by simp [enc_len]) .grow) ?_
  rcases of_ifb h with ⟨hc, h⟩ | ⟨hc, h⟩
  · refine wpS.take 2 false (some 23) (.bool true) (by kernel_rfl) (yld_bb hc (yld_eqS (fs := [Field.mk "K" 3 0 false "" "" 0, Field.mk "L" 3 1 false "" "" 8, Field.mk "Eta" 21 2 false "" "" 16, Field.mk "Tau" 3 3 false "" "" 24, Field.mk "Mask" 21 4 false "" "" 32, Field.mk "Half" 21 5 false "" "" 36, Field.mk "Omega" 3 6 false "" "" 40, Field.mk "Size" 3 7 false "" "" 48]) (xs := [.int .i64 a0_0, .int .i64 a0_1, .int .i32 a0_2, .int .i64 a0_3, .int .i32 a0_4, .int .i32 a0_5, .int .i64 a0_6, .int .i64 a0_7]) (ys := [.int .i64 r2_0, .int .i64 r2_1, .int .i32 r2_2, .int .i64 r2_3, .int .i32 r2_4, .int .i32 r2_5, .int .i64 r2_6, .int .i64 r2_7]) (t := 23) (.tmp 21) (.tmp 22) (by kernel_rfl) (by kernel_rfl) (by kernel_rfl) (by kernel_rfl) (.cons rfl (fun w => Go.Mx.run_part1 (by kernel_rfl) rfl) (fun w => Go.Mx.run_part1 (by kernel_rfl) rfl) (fun w => Go.Mx.run_equalIn_int (by kernel_rfl)) (.cons rfl (fun w => Go.Mx.run_part1 (by kernel_rfl) rfl) (fun w => Go.Mx.run_part1 (by kernel_rfl) rfl) (fun w => Go.Mx.run_equalIn_int (by kernel_rfl)) (.cons rfl (fun w => Go.Mx.run_part1 (by kernel_rfl) rfl) (fun w => Go.Mx.run_part1 (by kernel_rfl) rfl) (fun w => Go.Mx.run_equalIn_int (by kernel_rfl)) (.cons rfl (fun w => Go.Mx.run_part1 (by kernel_rfl) rfl) (fun w => Go.Mx.run_part1 (by kernel_rfl) rfl) (fun w => Go.Mx.run_equalIn_int (by kernel_rfl)) (.cons rfl (fun w => Go.Mx.run_part1 (by kernel_rfl) rfl) (fun w => Go.Mx.run_part1 (by kernel_rfl) rfl) (fun w => Go.Mx.run_equalIn_int (by kernel_rfl)) (.cons rfl (fun w => Go.Mx.run_part1 (by kernel_rfl) rfl) (fun w => Go.Mx.run_part1 (by kernel_rfl) rfl) (fun w => Go.Mx.run_equalIn_int (by kernel_rfl)) (.cons rfl (fun w => Go.Mx.run_part1 (by kernel_rfl) rfl) (fun w => Go.Mx.run_part1 (by kernel_rfl) rfl) (fun w => Go.Mx.run_equalIn_int (by kernel_rfl)) (.cons rfl (fun w => Go.Mx.run_part1 (by kernel_rfl) rfl) (fun w => Go.Mx.run_part1 (by kernel_rfl) rfl) (fun w => Go.Mx.run_equalIn_int (by kernel_rfl)) .nil)))))))))) ?_
    refine wpS.take 3 false (some 24) (.bool true) (by kernel_rfl) (yld fun _ => by kernel_rfl) ?_
    refine wpS.take 4 false (some 25) (undef) (by kernel_rfl) (yld fun _ => by kernel_rfl) ?_
    refine wpS.take 5 false (some 26) (undef) (by kernel_rfl) (yld fun _ => by kernel_rfl) ?_
    refine wpS.take 6 false (some 27) (undef) (by kernel_rfl) (yld fun _ => by kernel_rfl) ?_
    refine wpS.take 7 false (some 28) (.bool true) (by kernel_rfl) (yld fun _ => by kernel_rfl) ?_
    refine wpS.take 8 false (some 29) (.bool true) (by kernel_rfl) (yld fun _ => by kernel_rfl) ?_
    refine wpS.take 9 false (some 30) (undef) (by kernel_rfl) (yld fun _ => by kernel_rfl) ?_
    refine wpS.take 10 false (some 31) (undef) (by kernel_rfl) (yld fun _ => by kernel_rfl) ?_
    refine wpS.take 11 false (some 32) (undef) (by kernel_rfl) (yld fun _ => by kernel_rfl) ?_
    refine wpS.take 12 false (some 33) (.bool true) (by kernel_rfl) (yld fun _ => by kernel_rfl) ?_
    refine wpS.take 13 false (some 2) (.bool true) (by kernel_rfl) (yld fun _ => by kernel_rfl) ?_
    refine wpS.fin rfl (kr10 _ _ ?_)
    refine then_n (ks9 _ _ ?_)
    refine xret ?_
    have q0 := of_some h
    subst q0
    exact qq _ _ (post_ret (by kernel_rfl) (run_results [.tmp 2] [.bool true] (by kernel_rfl) (.cons (res_tmp (by kernel_rfl)) .nil)) ⟨congrArg Ending.returned (by kernel_rfl), hs.none⟩)
  · refine wpS.take 2 false (some 23) (.bool false) (by kernel_rfl) (yld_bb hc (yld_eqS (fs := [Field.mk "K" 3 0 false "" "" 0, Field.mk "L" 3 1 false "" "" 8, Field.mk "Eta" 21 2 false "" "" 16, Field.mk "Tau" 3 3 false "" "" 24, Field.mk "Mask" 21 4 false "" "" 32, Field.mk "Half" 21 5 false "" "" 36, Field.mk "Omega" 3 6 false "" "" 40, Field.mk "Size" 3 7 false "" "" 48]) (xs := [.int .i64 a0_0, .int .i64 a0_1, .int .i32 a0_2, .int .i64 a0_3, .int .i32 a0_4, .int .i32 a0_5, .int .i64 a0_6, .int .i64 a0_7]) (ys := [.int .i64 r2_0, .int .i64 r2_1, .int .i32 r2_2, .int .i64 r2_3, .int .i32 r2_4, .int .i32 r2_5, .int .i64 r2_6, .int .i64 r2_7]) (t := 23) (.tmp 21) (.tmp 22) (by kernel_rfl) (by kernel_rfl) (by kernel_rfl) (by kernel_rfl) (.cons rfl (fun w => Go.Mx.run_part1 (by kernel_rfl) rfl) (fun w => Go.Mx.run_part1 (by kernel_rfl) rfl) (fun w => Go.Mx.run_equalIn_int (by kernel_rfl)) (.cons rfl (fun w => Go.Mx.run_part1 (by kernel_rfl) rfl) (fun w => Go.Mx.run_part1 (by kernel_rfl) rfl) (fun w => Go.Mx.run_equalIn_int (by kernel_rfl)) (.cons rfl (fun w => Go.Mx.run_part1 (by kernel_rfl) rfl) (fun w => Go.Mx.run_part1 (by kernel_rfl) rfl) (fun w => Go.Mx.run_equalIn_int (by kernel_rfl)) (.cons rfl (fun w => Go.Mx.run_part1 (by kernel_rfl) rfl) (fun w => Go.Mx.run_part1 (by kernel_rfl) rfl) (fun w => Go.Mx.run_equalIn_int (by kernel_rfl)) (.cons rfl (fun w => Go.Mx.run_part1 (by kernel_rfl) rfl) (fun w => Go.Mx.run_part1 (by kernel_rfl) rfl) (fun w => Go.Mx.run_equalIn_int (by kernel_rfl)) (.cons rfl (fun w => Go.Mx.run_part1 (by kernel_rfl) rfl) (fun w => Go.Mx.run_part1 (by kernel_rfl) rfl) (fun w => Go.Mx.run_equalIn_int (by kernel_rfl)) (.cons rfl (fun w => Go.Mx.run_part1 (by kernel_rfl) rfl) (fun w => Go.Mx.run_part1 (by kernel_rfl) rfl) (fun w => Go.Mx.run_equalIn_int (by kernel_rfl)) (.cons rfl (fun w => Go.Mx.run_part1 (by kernel_rfl) rfl) (fun w => Go.Mx.run_part1 (by kernel_rfl) rfl) (fun w => Go.Mx.run_equalIn_int (by kernel_rfl)) .nil)))))))))) ?_
    refine wpS.take 3 false (some 24) (.bool false) (by kernel_rfl) (yld fun _ => by kernel_rfl) ?_
    refine wpS.take 4 true (some 25) (.agg #[.int .i64 a0_0, .int .i64 a0_1, .int .i32 a0_2, .int .i64 a0_3, .int .i32 a0_4, .int .i32 a0_5, .int .i64 a0_6, .int .i64 a0_7]) (by kernel_rfl) (yld_loadW (e := 23) (n := 8) hs 3 rfl (by kernel_rfl) (by kernel_rfl) (by kernel_rfl) (by simp [enc_len]) .grow) ?_
    refine wpS.take 5 true (some 26) (.agg #[.int .i64 r5_0, .int .i64 r5_1, .int .i32 r5_2, .int .i64 r5_3, .int .i32 r5_4, .int .i32 r5_5, .int .i64 r5_6, .int .i64 r5_7]) (by kernel_rfl) (yld_loadW (e := 23) (n := 8) hs 1 rfl (by kernel_rfl) (by kernel_rfl) (by kernel_rfl) (by simp [enc_len]) .grow) ?_
    rcases of_ifb h with ⟨hc, h⟩ | ⟨hc, h⟩
    · refine wpS.take 6 false (some 27) (.bool true) (by kernel_rfl) (yld_bb hc (yld_eqS (fs := [Field.mk "K" 3 0 false "" "" 0, Field.mk "L" 3 1 false "" "" 8, Field.mk "Eta" 21 2 false "" "" 16, Field.mk "Tau" 3 3 false "" "" 24, Field.mk "Mask" 21 4 false "" "" 32, Field.mk "Half" 21 5 false "" "" 36, Field.mk "Omega" 3 6 false "" "" 40, Field.mk "Size" 3 7 false "" "" 48]) (xs := [.int .i64 a0_0, .int .i64 a0_1, .int .i32 a0_2, .int .i64 a0_3, .int .i32 a0_4, .int .i32 a0_5, .int .i64 a0_6, .int .i64 a0_7]) (ys := [.int .i64 r5_0, .int .i64 r5_1, .int .i32 r5_2, .int .i64 r5_3, .int .i32 r5_4, .int .i32 r5_5, .int .i64 r5_6, .int .i64 r5_7]) (t := 23) (.tmp 25) (.tmp 26) (by kernel_rfl) (by kernel_rfl) (by kernel_rfl) (by kernel_rfl) (.cons rfl (fun w => Go.Mx.run_part1 (by kernel_rfl) rfl) (fun w => Go.Mx.run_part1 (by kernel_rfl) rfl) (fun w => Go.Mx.run_equalIn_int (by kernel_rfl)) (.cons rfl (fun w => Go.Mx.run_part1 (by kernel_rfl) rfl) (fun w => Go.Mx.run_part1 (by kernel_rfl) rfl) (fun w => Go.Mx.run_equalIn_int (by kernel_rfl)) (.cons rfl (fun w => Go.Mx.run_part1 (by kernel_rfl) rfl) (fun w => Go.Mx.run_part1 (by kernel_rfl) rfl) (fun w => Go.Mx.run_equalIn_int (by kernel_rfl)) (.cons rfl (fun w => Go.Mx.run_part1 (by kernel_rfl) rfl) (fun w => Go.Mx.run_part1 (by kernel_rfl) rfl) (fun w => Go.Mx.run_equalIn_int (by kernel_rfl)) (.cons rfl (fun w => Go.Mx.run_part1 (by kernel_rfl) rfl) (fun w => Go.Mx.run_part1 (by kernel_rfl) rfl) (fun w => Go.Mx.run_equalIn_int (by kernel_rfl)) (.cons rfl (fun w => Go.Mx.run_part1 (by kernel_rfl) rfl) (fun w => Go.Mx.run_part1 (by kernel_rfl) rfl) (fun w => Go.Mx.run_equalIn_int (by kernel_rfl)) (.cons rfl (fun w => Go.Mx.run_part1 (by kernel_rfl) rfl) (fun w => Go.Mx.run_part1 (by kernel_rfl) rfl) (fun w => Go.Mx.run_equalIn_int (by kernel_rfl)) (.cons rfl (fun w => Go.Mx.run_part1 (by kernel_rfl) rfl) (fun w => Go.Mx.run_part1 (by kernel_rfl) rfl) (fun w => Go.Mx.run_equalIn_int (by kernel_rfl)) .nil)))))))))) ?_
      refine wpS.take 7 false (some 28) (.bool true) (by kernel_rfl) (yld fun _ => by kernel_rfl) ?_
      refine wpS.take 8 false (some 29) (.bool true) (by kernel_rfl) (yld fun _ => by kernel_rfl) ?_
      refine wpS.take 9 false (some 30) (undef) (by kernel_rfl) (yld fun _ => by kernel_rfl) ?_
      refine wpS.take 10 false (some 31) (undef) (by kernel_rfl) (yld fun _ => by kernel_rfl) ?_
      refine wpS.take 11 false (some 32) (undef) (by kernel_rfl) (yld fun _ => by kernel_rfl) ?_
      refine wpS.take 12 false (some 33) (.bool true) (by kernel_rfl) (yld fun _ => by kernel_rfl) ?_
      refine wpS.take 13 false (some 2) (.bool true) (by kernel_rfl) (yld fun _ => by kernel_rfl) ?_
      refine wpS.fin rfl (kr10 _ _ ?_)
      refine then_n (ks9 _ _ ?_)
      refine xret ?_
      have q0 := of_some h
      subst q0
      exact qq _ _ (post_ret (by kernel_rfl) (run_results [.tmp 2] [.bool true] (by kernel_rfl) (.cons (res_tmp (by kernel_rfl)) .nil)) ⟨congrArg Ending.returned (by kernel_rfl), hs.none⟩)
    · refine wpS.take 6 false (some 27) (.bool false) (by kernel_rfl) (yld_bb hc (yld_eqS (fs := [Field.mk "K" 3 0 false "" "" 0, Field.mk "L" 3 1 false "" "" 8, Field.mk "Eta" 21 2 false "" "" 16, Field.mk "Tau" 3 3 false "" "" 24, Field.mk "Mask" 21 4 false "" "" 32, Field.mk "Half" 21 5 false "" "" 36, Field.mk "Omega" 3 6 false "" "" 40, Field.mk "Size" 3 7 false "" "" 48]) (xs := [.int .i64 a0_0, .int .i64 a0_1, .int .i32 a0_2, .int .i64 a0_3, .int .i32 a0_4, .int .i32 a0_5, .int .i64 a0_6, .int .i64 a0_7]) (ys := [.int .i64 r5_0, .int .i64 r5_1, .int .i32 r5_2, .int .i64 r5_3, .int .i32 r5_4, .int .i32 r5_5, .int .i64 r5_6, .int .i64 r5_7]) (t := 23) (.tmp 25) (.tmp 26) (by kernel_rfl) (by kernel_rfl) (by kernel_rfl) (by kernel_rfl) (.cons rfl (fun w => Go.Mx.run_part1 (by kernel_rfl) rfl) (fun w => Go.Mx.run_part1 (by kernel_rfl) rfl) (fun w => Go.Mx.run_equalIn_int (by kernel_rfl)) (.cons rfl (fun w => Go.Mx.run_part1 (by kernel_rfl) rfl) (fun w => Go.Mx.run_part1 (by kernel_rfl) rfl) (fun w => Go.Mx.run_equalIn_int (by kernel_rfl)) (.cons rfl (fun w => Go.Mx.run_part1 (by kernel_rfl) rfl) (fun w => Go.Mx.run_part1 (by kernel_rfl) rfl) (fun w => Go.Mx.run_equalIn_int (by kernel_rfl)) (.cons rfl (fun w => Go.Mx.run_part1 (by kernel_rfl) rfl) (fun w => Go.Mx.run_part1 (by kernel_rfl) rfl) (fun w => Go.Mx.run_equalIn_int (by kernel_rfl)) (.cons rfl (fun w => Go.Mx.run_part1 (by kernel_rfl) rfl) (fun w => Go.Mx.run_part1 (by kernel_rfl) rfl) (fun w => Go.Mx.run_equalIn_int (by kernel_rfl)) (.cons rfl (fun w => Go.Mx.run_part1 (by kernel_rfl) rfl) (fun w => Go.Mx.run_part1 (by kernel_rfl) rfl) (fun w => Go.Mx.run_equalIn_int (by kernel_rfl)) (.cons rfl (fun w => Go.Mx.run_part1 (by kernel_rfl) rfl) (fun w => Go.Mx.run_part1 (by kernel_rfl) rfl) (fun w => Go.Mx.run_equalIn_int (by kernel_rfl)) (.cons rfl (fun w => Go.Mx.run_part1 (by kernel_rfl) rfl) (fun w => Go.Mx.run_part1 (by kernel_rfl) rfl) (fun w => Go.Mx.run_equalIn_int (by kernel_rfl)) .nil)))))))))) ?_
      refine wpS.take 7 false (some 28) (.bool false) (by kernel_rfl) (yld fun _ => by kernel_rfl) ?_
      refine wpS.take 8 false (some 29) (.bool false) (by kernel_rfl) (yld fun _ => by kernel_rfl) ?_
      refine wpS.take 9 true (some 30) (.agg #[.int .i64 a0_0, .int .i64 a0_1, .int .i32 a0_2, .int .i64 a0_3, .int .i32 a0_4, .int .i32 a0_5, .int .i64 a0_6, .int .i64 a0_7]) (by kernel_rfl) (yld_loadW (e := 23) (n := 8) hs 3 rfl (by kernel_rfl) (by kernel_rfl) (by kernel_rfl) (by simp [enc_len]) .grow) ?_
      refine wpS.take 10 true (some 31) (.agg #[.int .i64 r8_0, .int .i64 r8_1, .int .i32 r8_2, .int .i64 r8_3, .int .i32 r8_4, .int .i32 r8_5, .int .i64 r8_6, .int .i64 r8_7]) (by kernel_rfl) (yld_loadW (e := 23) (n := 8) hs 0 rfl (by kernel_rfl) (by kernel_rfl) (by kernel_rfl) (by simp [enc_len]) .grow) ?_
      refine wpS.take 11 false (some 32) (.bool ((a0_0 == r8_0) && ((a0_1 == r8_1) && ((a0_2 == r8_2) && ((a0_3 == r8_3) && ((a0_4 == r8_4) && ((a0_5 == r8_5) && ((a0_6 == r8_6) && ((a0_7 == r8_7) && true))))))))) (by kernel_rfl) (yld_eqS (fs := [Field.mk "K" 3 0 false "" "" 0, Field.mk "L" 3 1 false "" "" 8, Field.mk "Eta" 21 2 false "" "" 16, Field.mk "Tau" 3 3 false "" "" 24, Field.mk "Mask" 21 4 false "" "" 32, Field.mk "Half" 21 5 false "" "" 36, Field.mk "Omega" 3 6 false "" "" 40, Field.mk "Size" 3 7 false "" "" 48]) (xs := [.int .i64 a0_0, .int .i64 a0_1, .int .i32 a0_2, .int .i64 a0_3, .int .i32 a0_4, .int .i32 a0_5, .int .i64 a0_6, .int .i64 a0_7]) (ys := [.int .i64 r8_0, .int .i64 r8_1, .int .i32 r8_2, .int .i64 r8_3, .int .i32 r8_4, .int .i32 r8_5, .int .i64 r8_6, .int .i64 r8_7]) (t := 23) (.tmp 30) (.tmp 31) (by kernel_rfl) (by kernel_rfl) (by kernel_rfl) (by kernel_rfl) (.cons rfl (fun w => Go.Mx.run_part1 (by kernel_rfl) rfl) (fun w => Go.Mx.run_part1 (by kernel_rfl) rfl) (fun w => Go.Mx.run_equalIn_int (by kernel_rfl)) (.cons rfl (fun w => Go.Mx.run_part1 (by kernel_rfl) rfl) (fun w => Go.Mx.run_part1 (by kernel_rfl) rfl) (fun w => Go.Mx.run_equalIn_int (by kernel_rfl)) (.cons rfl (fun w => Go.Mx.run_part1 (by kernel_rfl) rfl) (fun w => Go.Mx.run_part1 (by kernel_rfl) rfl) (fun w => Go.Mx.run_equalIn_int (by kernel_rfl)) (.cons rfl (fun w => Go.Mx.run_part1 (by kernel_rfl) rfl) (fun w => Go.Mx.run_part1 (by kernel_rfl) rfl) (fun w => Go.Mx.run_equalIn_int (by kernel_rfl)) (.cons rfl (fun w => Go.Mx.run_part1 (by kernel_rfl) rfl) (fun w => Go.Mx.run_part1 (by kernel_rfl) rfl) (fun w => Go.Mx.run_equalIn_int (by kernel_rfl)) (.cons rfl (fun w => Go.Mx.run_part1 (by kernel_rfl) rfl) (fun w => Go.Mx.run_part1 (by kernel_rfl) rfl) (fun w => Go.Mx.run_equalIn_int (by kernel_rfl)) (.cons rfl (fun w => Go.Mx.run_part1 (by kernel_rfl) rfl) (fun w => Go.Mx.run_part1 (by kernel_rfl) rfl) (fun w => Go.Mx.run_equalIn_int (by kernel_rfl)) (.cons rfl (fun w => Go.Mx.run_part1 (by kernel_rfl) rfl) (fun w => Go.Mx.run_part1 (by kernel_rfl) rfl) (fun w => Go.Mx.run_equalIn_int (by kernel_rfl)) .nil))))))))) ?_
      refine wpS.take 12 false (some 33) (.bool ((a0_0 == r8_0) && ((a0_1 == r8_1) && ((a0_2 == r8_2) && ((a0_3 == r8_3) && ((a0_4 == r8_4) && ((a0_5 == r8_5) && ((a0_6 == r8_6) && ((a0_7 == r8_7) && true))))))))) (by kernel_rfl) (yld fun _ => by kernel_rfl) ?_
      refine wpS.take 13 false (some 2) (.bool ((a0_0 == r8_0) && ((a0_1 == r8_1) && ((a0_2 == r8_2) && ((a0_3 == r8_3) && ((a0_4 == r8_4) && ((a0_5 == r8_5) && ((a0_6 == r8_6) && ((a0_7 == r8_7) && true))))))))) (by kernel_rfl) (yld fun _ => by kernel_rfl) ?_
      refine wpS.fin rfl (kr10 _ _ ?_)
      refine then_n (ks9 _ _ ?_)
      refine xret ?_
      have q0 := of_some h
      subst q0
      exact qq _ _ (post_ret (by kernel_rfl) (run_results [.tmp 2] [.bool ((a0_0 == r8_0) && ((a0_1 == r8_1) && ((a0_2 == r8_2) && ((a0_3 == r8_3) && ((a0_4 == r8_4) && ((a0_5 == r8_5) && ((a0_6 == r8_6) && ((a0_7 == r8_7) && true))))))))] (by kernel_rfl) (.cons (res_tmp (by kernel_rfl)) .nil)) ⟨congrArg Ending.returned (by kernel_rfl), hs.none⟩)

theorem ref22_width.ok {K : Nat} {a0 : Int} {r0 : Int} (h : ref22_width.f K a0 = some r0) (w0 : World) : Ret Try.prog 65 #[.int .i32 a0] w0 (.int .i64 r0) := by
  refine calls_k Try.func65 rfl fun Q qq => ?_
  have hs := St.start w0
  refine wp_conv (a' := ⟨#[.int .i32 a0, undef, undef, undef, undef, undef, undef, undef, undef, undef, undef], []⟩) (by kernel_rfl) ?_
  refine xseq_k fun KS1 ks1 => ?_
  refine wp_regS (l := [0]) (by kernel_rfl) (by kernel_rfl) fun KR2 kr2 => ?_
  refine wpS.take 0 false (some 2) (.int .i64 0) (by kernel_rfl) (yld fun _ => by kernel_rfl) ?_
  refine wpS.fin rfl (kr2 _ _ ?_)
  refine then_n (ks1 _ _ ?_)
  refine xseq_k fun KS3 ks3 => ?_
  refine wp_regS (l := [0]) (by kernel_rfl) (by kernel_rfl) fun KR4 kr4 => ?_
  refine wpS.take 0 false (some 3) (.int .i64 0) (by kernel_rfl) (yld fun _ => by kernel_rfl) ?_
  refine wpS.fin rfl (kr4 _ _ ?_)
  refine then_n (ks3 _ _ ?_)
  refine xseq_k fun KS5 ks5 => ?_
  obtain ⟨y3, hy, hk0⟩ := of_bind h
  refine wp_exq (N := fun a w => St w0 [] [] [] w ∧ ∃ g : Nat → Value, a = ⟨#[(g 0), undef, .int .i64 0, .int .i64 y3, (g 4), (g 5), (g 6), (g 7), (g 8), (g 9), undef], []⟩) (fun N0 nn0 => ?_) ?_
  · clear hk0
    refine xblock ?_
    refine wp_loop_k (fun n a w => ∃ z1 z2, ref22_width.l0 K n z1 z2 = some y3 ∧ St w0 [] [] [] w ∧ ∃ g : Nat → Value, a = ⟨#[.int .i32 z1, undef, .int .i64 0, .int .i64 z2, (g 4), (g 5), (g 6), (g 7), (g 8), (g 9), undef], []⟩) K ⟨a0, 0, hy, hs.conv rfl, exg (by kernel_rfl)⟩ ?_
    clear hs h hy
    rintro n a w ⟨z1, z2, h, hs, g, rfl⟩ KL0 kl0
    cases n with
    | zero => exact nomatch (show none = some _ from h)
    | succ n =>
      refine xseq_k fun KS16 ks16 => ?_
      refine xseq_k fun KS17 ks17 => ?_
      refine wp_regS (l := [0, 1]) (by kernel_rfl) (by kernel_rfl) fun KR18 kr18 => ?_
      refine wpS.take 0 false (some 4) (.int .i32 z1) (by kernel_rfl) (yld fun _ => by kernel_rfl) ?_
      rcases of_if h with ⟨hc, h⟩ | ⟨hc, h⟩
      · refine wpS.take 1 false (some 5) (.bool true) (by kernel_rfl) (yld_b (dt hc) (fun _ => by kernel_rfl)) ?_
        refine wpS.fin rfl (kr18 _ _ ?_)
        refine then_n (ks17 _ _ ?_)
        refine wp_cond_t (by kernel_rfl) ?_
        refine xskip ?_
        refine then_n (ks16 _ _ ?_)
        refine xblock ?_
        refine xseq_k fun KS19 ks19 => ?_
        refine wp_regS (l := [0, 1, 2]) (by kernel_rfl) (by kernel_rfl) fun KR20 kr20 => ?_
        refine wpS.take 0 false (some 6) (.int .i32 z1) (by kernel_rfl) (yld fun _ => by kernel_rfl) ?_
        refine wpS.take 1 false (some 7) (.int .i32 (iquo .i32 z1 2)) (by kernel_rfl) (yld fun _ => by kernel_rfl) ?_
        obtain ⟨x4, hx, h⟩ := of_bind h
        refine wpS.take 2 false (some 0) (.int .i32 x4) (by kernel_rfl) (yld_int hx (fun _ => by kernel_rfl)) ?_
        refine wpS.fin rfl (kr20 _ _ ?_)
        refine then_n (ks19 _ _ ?_)
        refine wp_regS (l := [0, 1, 2]) (by kernel_rfl) (by kernel_rfl) fun KR21 kr21 => ?_
        refine wpS.take 0 false (some 8) (.int .i64 z2) (by kernel_rfl) (yld fun _ => by kernel_rfl) ?_
        refine wpS.take 1 false (some 9) (.int .i64 (iadd .i64 z2 1)) (by kernel_rfl) (yld fun _ => by kernel_rfl) ?_
        obtain ⟨x5, hx, h⟩ := of_bind h
        refine wpS.take 2 false (some 3) (.int .i64 x5) (by kernel_rfl) (yld_int hx (fun _ => by kernel_rfl)) ?_
        refine wpS.fin rfl (kr21 _ _ ?_)
        refine inBlock_n ?_
        exact then_n (kl0 _ _ ⟨n, Nat.lt_succ_self n, x4, x5, h, (hs.conv rfl), exg (by kernel_rfl)⟩)
      · refine wpS.take 1 false (some 5) (.bool false) (by kernel_rfl) (yld_b (df hc) (fun _ => by kernel_rfl)) ?_
        refine wpS.fin rfl (kr18 _ _ ?_)
        refine then_n (ks17 _ _ ?_)
        refine wp_cond_f (by kernel_rfl) ?_
        refine xexit ?_
        refine then_x ?_
        refine then_x ?_
        refine inBlock_hit ?_
        have q0 := of_some h
        subst q0
        exact exq_n (nn0 _ _ ⟨(hs.conv rfl), exg (by kernel_rfl)⟩)
  · clear hs h hy
    rintro a w ⟨hs, g, rfl⟩
    have h := hk0
    refine then_n (ks5 _ _ ?_)
    refine xseq_k fun KS22 ks22 => ?_
    refine wp_regS (l := [0, 1]) (by kernel_rfl) (by kernel_rfl) fun KR23 kr23 => ?_
    refine wpS.take 0 false (some 10) (.int .i64 y3) (by kernel_rfl) (yld fun _ => by kernel_rfl) ?_
    refine wpS.take 1 false (some 2) (.int .i64 y3) (by kernel_rfl) (yld fun _ => by kernel_rfl) ?_
    refine wpS.fin rfl (kr23 _ _ ?_)
    refine then_n (ks22 _ _ ?_)
    refine xret ?_
    have q0 := of_some h
    subst q0
    exact qq _ _ (post_ret (by kernel_rfl) (run_results [.tmp 2] [.int .i64 y3] (by kernel_rfl) (.cons (res_tmp (by kernel_rfl)) .nil)) ⟨congrArg Ending.returned (by kernel_rfl), hs.none⟩)

theorem ref22_bitsOf.ok {K : Nat} {a0 : Int} {a1 : Int} {r0 : Int} (h : ref22_bitsOf.f K a0 a1 = some r0) (w0 : World) : Ret Try.prog 46 #[.int .i32 a0, .int .i32 a1] w0 (.int .i64 r0) := by
  refine calls_k Try.func46 rfl fun Q qq => ?_
  have hs := St.start w0
  refine wp_conv (a' := ⟨#[.int .i32 a0, .int .i32 a1, undef, undef, undef, undef, undef, undef, undef, undef], []⟩) (by kernel_rfl) ?_
  refine xseq_k fun KS1 ks1 => ?_
  refine wp_regS (l := [0]) (by kernel_rfl) (by kernel_rfl) fun KR2 kr2 => ?_
  refine wpS.take 0 false (some 4) (.int .i64 0) (by kernel_rfl) (yld fun _ => by kernel_rfl) ?_
  refine wpS.fin rfl (kr2 _ _ ?_)
  refine then_n (ks1 _ _ ?_)
  refine xseq_k fun KS3 ks3 => ?_
  refine wp_regS (l := [0, 1, 2, 3, 4, 5]) (by kernel_rfl) (by kernel_rfl) fun KR4 kr4 => ?_
  refine wpS.take 0 false (some 5) (.int .i32 a0) (by kernel_rfl) (yld fun _ => by kernel_rfl) ?_
  refine wpS.take 1 false (some 6) (.int .i32 (imax a0 0)) (by kernel_rfl) (yld fun _ => by kernel_rfl) ?_
  refine wpS.take 2 false (some 7) (.int .i32 a1) (by kernel_rfl) (yld fun _ => by kernel_rfl) ?_
  refine wpS.take 3 false (some 8) (.int .i32 (iadd .i32 (imax a0 0) a1)) (by kernel_rfl) (yld fun _ => by kernel_rfl) ?_
  obtain ⟨r1, hg, h⟩ := of_bind h
  refine wpS.only 4 (op_call (d := (some 9)) (by kernel_rfl) hs (fun _ => by kernel_rfl) (ref22_width.ok hg _) ?_)
  intro w gw hs
  refine ⟨fun _ => trivial, ?_⟩
  refine wpS.take 5 false (some 4) (.int .i64 r1) (by kernel_rfl) (yld fun _ => by kernel_rfl) ?_
  refine wpS.fin rfl (kr4 _ _ ?_)
  refine then_n (ks3 _ _ ?_)
  refine xret ?_
  have q0 := of_some h
  subst q0
  exact qq _ _ (post_ret (by kernel_rfl) (run_results [.tmp 4] [.int .i64 r1] (by kernel_rfl) (.cons (res_tmp (by kernel_rfl)) .nil)) ⟨congrArg Ending.returned (by kernel_rfl), hs.none⟩)

theorem ref22_Sizes.ok {K : Nat} {a0_0 : Int} {a0_1 : Int} {a0_2 : Int} {a0_3 : Int} {a0_4 : Int} {a0_5 : Int} {a0_6 : Int} {a0_7 : Int} {r0 : Int} {r1 : Int} {r2 : Int} (h : ref22_Sizes.f K a0_0 a0_1 a0_2 a0_3 a0_4 a0_5 a0_6 a0_7 = some (r0, r1, r2)) (w0 : World) : Ret Try.prog 19 #[.agg #[.int .i64 a0_0, .int .i64 a0_1, .int .i32 a0_2, .int .i64 a0_3, .int .i32 a0_4, .int .i32 a0_5, .int .i64 a0_6, .int .i64 a0_7]] w0 (.tuple #[.int .i64 r0, .int .i64 r1, .int .i64 r2]) := by
  refine calls_k Try.func19 rfl fun Q qq => ?_
  have hs := St.start w0
  refine wp_conv (a' := ⟨#[.agg #[.int .i64 a0_0, .int .i64 a0_1, .int .i32 a0_2, .int .i64 a0_3, .int .i32 a0_4, .int .i32 a0_5, .int .i64 a0_6, .int .i64 a0_7], undef, undef, undef, undef, undef, undef, undef, undef, undef, undef, undef, undef, undef, undef, undef, undef, undef, undef, undef, undef, undef, undef, undef, undef, undef, undef, undef, undef, undef, undef, undef, undef, undef, undef, undef, undef, undef, undef, undef, undef, undef, undef, undef, undef, undef, undef, undef, undef, undef, undef, undef], []⟩) (by kernel_rfl) ?_
  refine xseq_k fun KS1 ks1 => ?_
  refine wp_regS (l := [0, 1, 2, 3]) (by kernel_rfl) (by kernel_rfl) fun KR2 kr2 => ?_
  refine wpS.only 0 (op_box (t := 23) (v := .agg #[.int .i64 a0_0, .int .i64 a0_1, .int .i32 a0_2, .int .i64 a0_3, .int .i32 a0_4, .int .i32 a0_5, .int .i64 a0_6, .int .i64 a0_7]) (d := (some 1)) (by kernel_rfl) hs ([.int .i64 a0_0, .int .i64 a0_1, .int .i32 a0_2, .int .i64 a0_3, .int .i32 a0_4, .int .i32 a0_5, .int .i64 a0_6, .int .i64 a0_7]) (by kernel_rfl) (by kernel_rfl) ?_)
  intro b1 w gw hs
  refine ⟨fun _ => trivial, ?_⟩
  refine wpS.take 1 false (some 2) (.int .i64 0) (by kernel_rfl) (yld fun _ => by kernel_rfl) ?_
  refine wpS.take 2 false (some 3) (.int .i64 0) (by kernel_rfl) (yld fun _ => by kernel_rfl) ?_
  refine wpS.take 3 false (some 4) (.int .i64 0) (by kernel_rfl) (yld fun _ => by kernel_rfl) ?_
  refine wpS.fin rfl (kr2 _ _ ?_)
  refine then_n (ks1 _ _ ?_)
  refine xseq_k fun KS7 ks7 => ?_
  refine xseq_k fun KS8 ks8 => ?_
  refine wp_regS (l := [0, 1, 2]) (by kernel_rfl) (by kernel_rfl) fun KR9 kr9 => ?_
  refine wpS.take 0 true (some 7) (.agg #[.int .i64 a0_0, .int .i64 a0_1, .int .i32 a0_2, .int .i64 a0_3, .int .i32 a0_4, .int .i32 a0_5, .int .i64 a0_6, .int .i64 a0_7]) (by kernel_rfl) (yld_loadW (e := 23) (n := 8) hs 0 rfl (by kernel_rfl) (by kernel_rfl) (by kernel_rfl) (by simp [enc_len]) .grow) ?_
  obtain ⟨r2, hg, h⟩ := of_bind h
  cases r2 with
  | true =>
    have h := of_if_t h
    refine wpS.only 1 (op_call (d := (some 8)) (by kernel_rfl) hs (fun _ => by kernel_rfl) (ref22_Known.ok hg _) ?_)
    intro w gw hs
    refine ⟨fun _ => trivial, ?_⟩
    refine wpS.take 2 false (some 9) (.bool false) (by kernel_rfl) (yld fun _ => by kernel_rfl) ?_
    refine wpS.fin rfl (kr9 _ _ ?_)
    refine then_n (ks8 _ _ ?_)
    refine wp_cond_f (by kernel_rfl) ?_
    refine xskip ?_
    refine then_n (ks7 _ _ ?_)
    refine xseq_k fun KS10 ks10 => ?_
    refine wp_regS (l := [0, 1, 2, 3, 4, 5, 6]) (by kernel_rfl) (by kernel_rfl) fun KR11 kr11 => ?_
    refine wpS.take 0 false (some 10) (.pointer (some ⟨b1, 2, none⟩)) (by kernel_rfl) (yld fun _ => by kernel_rfl) ?_
    refine wpS.take 1 true (some 11) (.int .i32 a0_2) (by kernel_rfl) (yld_load1 (e := 21) (o := 2) hs 0 rfl (by kernel_rfl) (by kernel_rfl) (by rfl) .grow) ?_
    refine wpS.take 2 false (some 12) (.pointer (some ⟨b1, 2, none⟩)) (by kernel_rfl) (yld fun _ => by kernel_rfl) ?_
    refine wpS.take 3 true (some 13) (.int .i32 a0_2) (by kernel_rfl) (yld_load1 (e := 21) (o := 2) hs 0 rfl (by kernel_rfl) (by kernel_rfl) (by rfl) .grow) ?_
    obtain ⟨r3, hg, h⟩ := of_bind h
    refine wpS.only 4 (op_call (d := (some 14)) (by kernel_rfl) hs (fun _ => by kernel_rfl) (ref22_bitsOf.ok hg _) ?_)
    intro w gw hs
    refine ⟨fun _ => trivial, ?_⟩
    refine wpS.take 5 false (some 15) (.int .i64 (imul .i64 32 r3)) (by kernel_rfl) (yld fun _ => by kernel_rfl) ?_
    obtain ⟨x4, hx, h⟩ := of_bind h
    refine wpS.take 6 false (some 5) (.int .i64 x4) (by kernel_rfl) (yld_int hx (fun _ => by kernel_rfl)) ?_
    refine wpS.fin rfl (kr11 _ _ ?_)
    refine then_n (ks10 _ _ ?_)
    refine xseq_k fun KS12 ks12 => ?_
    refine wp_regS (l := [0, 1, 2, 3, 4, 5, 6, 7]) (by kernel_rfl) (by kernel_rfl) fun KR13 kr13 => ?_
    refine wpS.take 0 false (some 16) (.pointer (some ⟨b1, 4, none⟩)) (by kernel_rfl) (yld fun _ => by kernel_rfl) ?_
    refine wpS.take 1 true (some 17) (.int .i32 a0_4) (by kernel_rfl) (yld_load1 (e := 21) (o := 4) hs 0 rfl (by kernel_rfl) (by kernel_rfl) (by rfl) .grow) ?_
    refine wpS.take 2 false (some 18) (.int .i32 (isub .i32 a0_4 1)) (by kernel_rfl) (yld fun _ => by kernel_rfl) ?_
    refine wpS.take 3 false (some 19) (.pointer (some ⟨b1, 4, none⟩)) (by kernel_rfl) (yld fun _ => by kernel_rfl) ?_
    refine wpS.take 4 true (some 20) (.int .i32 a0_4) (by kernel_rfl) (yld_load1 (e := 21) (o := 4) hs 0 rfl (by kernel_rfl) (by kernel_rfl) (by rfl) .grow) ?_
    obtain ⟨r5, hg, h⟩ := of_bind h
    refine wpS.only 5 (op_call (d := (some 21)) (by kernel_rfl) hs (fun _ => by kernel_rfl) (ref22_bitsOf.ok hg _) ?_)
    intro w gw hs
    refine ⟨fun _ => trivial, ?_⟩
    refine wpS.take 6 false (some 22) (.int .i64 (imul .i64 32 r5)) (by kernel_rfl) (yld fun _ => by kernel_rfl) ?_
    obtain ⟨x6, hx, h⟩ := of_bind h
    refine wpS.take 7 false (some 6) (.int .i64 x6) (by kernel_rfl) (yld_int hx (fun _ => by kernel_rfl)) ?_
    refine wpS.fin rfl (kr13 _ _ ?_)
    refine then_n (ks12 _ _ ?_)
    refine xseq_k fun KS14 ks14 => ?_
    refine wp_regG [] (fun k => True) 32 (by kernel_rfl) (by kernel_rfl) (by kernel_rfl) fun KR15 kr15 => ?_
    have hs := hs.drawn1
    refine wpG.takeD 0 false (some 23) (.pointer (some ⟨b1, 0, none⟩)) (by kernel_rfl) (by kernel_rfl) (yld fun _ => by kernel_rfl) ?_
    refine wpG.takeD 1 true (some 24) (.int .i64 a0_0) (by kernel_rfl) (by kernel_rfl) (yld_load1 (e := 3) (o := 0) hs 0 rfl (by kernel_rfl) (by kernel_rfl) (by rfl) .grow) ?_
    refine wpG.takeD 2 false (some 25) (.int .i64 (imul .i64 320 a0_0)) (by kernel_rfl) (by kernel_rfl) (yld fun _ => by kernel_rfl) ?_
    refine wpG.takeD 3 false (some 26) (.int .i64 (iadd .i64 32 (imul .i64 320 a0_0))) (by kernel_rfl) (by kernel_rfl) (yld fun _ => by kernel_rfl) ?_
    refine wpG.takeD 4 false (some 27) (.int .i64 x4) (by kernel_rfl) (by kernel_rfl) (yld fun _ => by kernel_rfl) ?_
    refine wpG.takeD 5 false (some 28) (.pointer (some ⟨b1, 0, none⟩)) (by kernel_rfl) (by kernel_rfl) (yld fun _ => by kernel_rfl) ?_
    refine wpG.takeD 6 true (some 29) (.int .i64 a0_0) (by kernel_rfl) (by kernel_rfl) (yld_load1 (e := 3) (o := 0) hs 0 rfl (by kernel_rfl) (by kernel_rfl) (by rfl) .grow) ?_
    refine wpG.takeD 7 false (some 30) (.pointer (some ⟨b1, 1, none⟩)) (by kernel_rfl) (by kernel_rfl) (yld fun _ => by kernel_rfl) ?_
    refine wpG.takeD 8 true (some 31) (.int .i64 a0_1) (by kernel_rfl) (by kernel_rfl) (yld_load1 (e := 3) (o := 1) hs 0 rfl (by kernel_rfl) (by kernel_rfl) (by rfl) .grow) ?_
    refine wpG.takeD 9 false (some 32) (.int .i64 (iadd .i64 a0_0 a0_1)) (by kernel_rfl) (by kernel_rfl) (yld fun _ => by kernel_rfl) ?_
    refine wpG.takeD 10 false (some 33) (.int .i64 (imul .i64 x4 (iadd .i64 a0_0 a0_1))) (by kernel_rfl) (by kernel_rfl) (yld fun _ => by kernel_rfl) ?_
    refine wpG.takeD 11 false (some 34) (.int .i64 (iadd .i64 128 (imul .i64 x4 (iadd .i64 a0_0 a0_1)))) (by kernel_rfl) (by kernel_rfl) (yld fun _ => by kernel_rfl) ?_
    refine wpG.takeD 12 false (some 35) (.pointer (some ⟨b1, 0, none⟩)) (by kernel_rfl) (by kernel_rfl) (yld fun _ => by kernel_rfl) ?_
    refine wpG.takeD 13 true (some 36) (.int .i64 a0_0) (by kernel_rfl) (by kernel_rfl) (yld_load1 (e := 3) (o := 0) hs 0 rfl (by kernel_rfl) (by kernel_rfl) (by rfl) .grow) ?_
    refine wpG.takeD 14 false (some 37) (.int .i64 (imul .i64 416 a0_0)) (by kernel_rfl) (by kernel_rfl) (yld fun _ => by kernel_rfl) ?_
    refine wpG.takeD 15 false (some 38) (.int .i64 (iadd .i64 (iadd .i64 128 (imul .i64 x4 (iadd .i64 a0_0 a0_1))) (imul .i64 416 a0_0))) (by kernel_rfl) (by kernel_rfl) (yld fun _ => by kernel_rfl) ?_
    refine wpG.takeD 16 false (some 39) (.pointer (some ⟨b1, 7, none⟩)) (by kernel_rfl) (by kernel_rfl) (yld fun _ => by kernel_rfl) ?_
    refine wpG.takeD 17 true (some 40) (.int .i64 a0_7) (by kernel_rfl) (by kernel_rfl) (yld_load1 (e := 3) (o := 7) hs 0 rfl (by kernel_rfl) (by kernel_rfl) (by rfl) .grow) ?_
    refine wpG.takeD 18 false (some 41) (.int .i64 x6) (by kernel_rfl) (by kernel_rfl) (yld fun _ => by kernel_rfl) ?_
    refine wpG.takeD 19 false (some 42) (.pointer (some ⟨b1, 1, none⟩)) (by kernel_rfl) (by kernel_rfl) (yld fun _ => by kernel_rfl) ?_
    refine wpG.takeD 20 true (some 43) (.int .i64 a0_1) (by kernel_rfl) (by kernel_rfl) (yld_load1 (e := 3) (o := 1) hs 0 rfl (by kernel_rfl) (by kernel_rfl) (by rfl) .grow) ?_
    refine wpG.takeD 21 false (some 44) (.int .i64 (imul .i64 x6 a0_1)) (by kernel_rfl) (by kernel_rfl) (yld fun _ => by kernel_rfl) ?_
    refine wpG.takeD 22 false (some 45) (.int .i64 (iadd .i64 a0_7 (imul .i64 x6 a0_1))) (by kernel_rfl) (by kernel_rfl) (yld fun _ => by kernel_rfl) ?_
    refine wpG.takeD 23 false (some 46) (.pointer (some ⟨b1, 6, none⟩)) (by kernel_rfl) (by kernel_rfl) (yld fun _ => by kernel_rfl) ?_
    refine wpG.takeD 24 true (some 47) (.int .i64 a0_6) (by kernel_rfl) (by kernel_rfl) (yld_load1 (e := 3) (o := 6) hs 0 rfl (by kernel_rfl) (by kernel_rfl) (by rfl) .grow) ?_
    refine wpG.takeD 25 false (some 48) (.int .i64 (iadd .i64 (iadd .i64 a0_7 (imul .i64 x6 a0_1)) a0_6)) (by kernel_rfl) (by kernel_rfl) (yld fun _ => by kernel_rfl) ?_
    refine wpG.takeD 26 false (some 49) (.pointer (some ⟨b1, 0, none⟩)) (by kernel_rfl) (by kernel_rfl) (yld fun _ => by kernel_rfl) ?_
    refine wpG.takeD 27 true (some 50) (.int .i64 a0_0) (by kernel_rfl) (by kernel_rfl) (yld_load1 (e := 3) (o := 0) hs 0 rfl (by kernel_rfl) (by kernel_rfl) (by rfl) .grow) ?_
    refine wpG.takeD 28 false (some 51) (.int .i64 (iadd .i64 (iadd .i64 (iadd .i64 a0_7 (imul .i64 x6 a0_1)) a0_6) a0_0)) (by kernel_rfl) (by kernel_rfl) (yld fun _ => by kernel_rfl) ?_
    obtain ⟨x7, hx, h⟩ := of_bind h
    refine wpG.takeD 29 false (some 2) (.int .i64 x7) (by kernel_rfl) (by kernel_rfl) (yld_int hx (fun _ => by kernel_rfl)) ?_
    obtain ⟨x8, hx, h⟩ := of_bind h
    refine wpG.takeD 30 false (some 3) (.int .i64 x8) (by kernel_rfl) (by kernel_rfl) (yld_int hx (fun _ => by kernel_rfl)) ?_
    obtain ⟨x9, hx, h⟩ := of_bind h
    refine wpG.takeD 31 false (some 4) (.int .i64 x9) (by kernel_rfl) (by kernel_rfl) (yld_int hx (fun _ => by kernel_rfl)) ?_
    refine wpG.fin (by kernel_rfl) rfl (kr15 _ _ ?_)
    refine then_n (ks14 _ _ ?_)
    refine xret ?_
    obtain ⟨q0, qr0⟩ := Prod.mk.inj (of_some h)
    obtain ⟨q1, qr1⟩ := Prod.mk.inj (qr0)
    have q2 := qr1
    subst q0
    subst q1
    subst q2
    exact qq _ _ (post_ret (by kernel_rfl) (run_results [.tmp 2, .tmp 3, .tmp 4] [.int .i64 x7, .int .i64 x8, .int .i64 x9] (by kernel_rfl) (.cons (res_tmp (by kernel_rfl)) (.cons (res_tmp (by kernel_rfl)) (.cons (res_tmp (by kernel_rfl)) .nil)))) ⟨congrArg Ending.returned (by kernel_rfl), hs.none⟩)
  | false =>
    have h := of_if_f h
    refine wpS.only 1 (op_call (d := (some 8)) (by kernel_rfl) hs (fun _ => by kernel_rfl) (ref22_Known.ok hg _) ?_)
    intro w gw hs
    refine ⟨fun _ => trivial, ?_⟩
    refine wpS.take 2 false (some 9) (.bool true) (by kernel_rfl) (yld fun _ => by kernel_rfl) ?_
    refine wpS.fin rfl (kr9 _ _ ?_)
    refine then_n (ks8 _ _ ?_)
    refine wp_cond_t (by kernel_rfl) ?_
    refine xseq_k fun KS16 ks16 => ?_
    refine wp_regS (l := [0, 1, 2]) (by kernel_rfl) (by kernel_rfl) fun KR17 kr17 => ?_
    refine wpS.take 0 false (some 2) (.int .i64 0) (by kernel_rfl) (yld fun _ => by kernel_rfl) ?_
    refine wpS.take 1 false (some 3) (.int .i64 0) (by kernel_rfl) (yld fun _ => by kernel_rfl) ?_
    refine wpS.take 2 false (some 4) (.int .i64 0) (by kernel_rfl) (yld fun _ => by kernel_rfl) ?_
    refine wpS.fin rfl (kr17 _ _ ?_)
    refine then_n (ks16 _ _ ?_)
    refine xret ?_
    refine then_r ?_
    obtain ⟨q0, qr0⟩ := Prod.mk.inj (of_some h)
    obtain ⟨q1, qr1⟩ := Prod.mk.inj (qr0)
    have q2 := qr1
    subst q0
    subst q1
    subst q2
    exact qq _ _ (post_ret (by kernel_rfl) (run_results [.tmp 2, .tmp 3, .tmp 4] [.int .i64 0, .int .i64 0, .int .i64 0] (by kernel_rfl) (.cons (res_tmp (by kernel_rfl)) (.cons (res_tmp (by kernel_rfl)) (.cons (res_tmp (by kernel_rfl)) .nil)))) ⟨congrArg Ending.returned (by kernel_rfl), hs.none⟩)

theorem dpack_span_fit.ok {K : Nat} {a0_0 : Int} {a0_1 : Int} {r0 : Bool} (h : dpack_span_fit.f K a0_0 a0_1 = some r0) (w0 : World) : Ret Try.prog 47 #[.agg #[.int .i32 a0_0, .int .i32 a0_1]] w0 (.bool r0) := by
  refine calls_k Try.func47 rfl fun Q qq => ?_
  have hs := St.start w0
  refine wp_conv (a' := ⟨#[.agg #[.int .i32 a0_0, .int .i32 a0_1], undef, undef, undef, undef, undef, undef, undef, undef, undef, undef, undef, undef, undef, undef, undef, undef, undef, undef, undef, undef], []⟩) (by kernel_rfl) ?_
  refine xseq_k fun KS1 ks1 => ?_
  refine wp_regS (l := [0, 1]) (by kernel_rfl) (by kernel_rfl) fun KR2 kr2 => ?_
  refine wpS.only 0 (op_box (t := 73) (v := .agg #[.int .i32 a0_0, .int .i32 a0_1]) (d := (some 1)) (by kernel_rfl) hs ([.int .i32 a0_0, .int .i32 a0_1]) (by kernel_rfl) (by kernel_rfl) ?_)
  intro b1 w gw hs
  refine ⟨fun _ => trivial, ?_⟩
  refine wpS.take 1 false (some 2) (.bool false) (by kernel_rfl) (yld fun _ => by kernel_rfl) ?_
  refine wpS.fin rfl (kr2 _ _ ?_)
  refine then_n (ks1 _ _ ?_)
  refine xseq_k fun KS3 ks3 => ?_
  refine wp_regS (l := [0, 1, 2, 3, 4, 5, 6, 7, 8, 9, 10, 11, 12, 13, 14, 15, 16, 17, 18]) (by kernel_rfl) (by kernel_rfl) fun KR4 kr4 => ?_
  refine wpS.take 0 false (some 3) (.pointer (some ⟨b1, 0, none⟩)) (by kernel_rfl) (yld fun _ => by kernel_rfl) ?_
  refine wpS.take 1 true (some 4) (.int .i32 a0_0) (by kernel_rfl) (yld_load1 (e := 21) (o := 0) hs 0 rfl (by kernel_rfl) (by kernel_rfl) (by rfl) .grow) ?_
  rcases of_if h with ⟨hc, h⟩ | ⟨hc, h⟩
  · refine wpS.take 2 false (some 5) (.bool true) (by kernel_rfl) (yld_b (dt hc) (fun _ => by kernel_rfl)) ?_
    refine wpS.take 3 false (some 6) (.bool true) (by kernel_rfl) (yld fun _ => by kernel_rfl) ?_
    refine wpS.take 4 false (some 7) (.pointer (some ⟨b1, 0, none⟩)) (by kernel_rfl) (yld fun _ => by kernel_rfl) ?_
    refine wpS.take 5 true (some 8) (.int .i32 a0_0) (by kernel_rfl) (yld_load1 (e := 21) (o := 0) hs 0 rfl (by kernel_rfl) (by kernel_rfl) (by rfl) .grow) ?_
    rcases of_if h with ⟨hc, h⟩ | ⟨hc, h⟩
    · refine wpS.take 6 false (some 9) (.bool true) (by kernel_rfl) (yld_b (dt hc) (fun _ => by kernel_rfl)) ?_
      refine wpS.take 7 false (some 10) (.bool true) (by kernel_rfl) (yld fun _ => by kernel_rfl) ?_
      refine wpS.take 8 false (some 11) (.bool true) (by kernel_rfl) (yld fun _ => by kernel_rfl) ?_
      refine wpS.take 9 false (some 12) (.pointer (some ⟨b1, 1, none⟩)) (by kernel_rfl) (yld fun _ => by kernel_rfl) ?_
      refine wpS.take 10 true (some 13) (.int .i32 a0_1) (by kernel_rfl) (yld_load1 (e := 21) (o := 1) hs 0 rfl (by kernel_rfl) (by kernel_rfl) (by rfl) .grow) ?_
      rcases of_if h with ⟨hc, h⟩ | ⟨hc, h⟩
      · refine wpS.take 11 false (some 14) (.bool true) (by kernel_rfl) (yld_b (dt hc) (fun _ => by kernel_rfl)) ?_
        refine wpS.take 12 false (some 15) (.bool true) (by kernel_rfl) (yld fun _ => by kernel_rfl) ?_
        refine wpS.take 13 false (some 16) (.bool true) (by kernel_rfl) (yld fun _ => by kernel_rfl) ?_
        refine wpS.take 14 false (some 17) (.pointer (some ⟨b1, 1, none⟩)) (by kernel_rfl) (yld fun _ => by kernel_rfl) ?_
        refine wpS.take 15 true (some 18) (.int .i32 a0_1) (by kernel_rfl) (yld_load1 (e := 21) (o := 1) hs 0 rfl (by kernel_rfl) (by kernel_rfl) (by rfl) .grow) ?_
        refine wpS.take 16 false (some 19) (.bool (decide (a0_1 ≤ 1048576))) (by kernel_rfl) (yld fun _ => by kernel_rfl) ?_
        refine wpS.take 17 false (some 20) (.bool (decide (a0_1 ≤ 1048576))) (by kernel_rfl) (yld fun _ => by kernel_rfl) ?_
        refine wpS.take 18 false (some 2) (.bool (decide (a0_1 ≤ 1048576))) (by kernel_rfl) (yld fun _ => by kernel_rfl) ?_
        refine wpS.fin rfl (kr4 _ _ ?_)
        refine then_n (ks3 _ _ ?_)
        refine xret ?_
        have q0 := of_some h
        subst q0
        exact qq _ _ (post_ret (by kernel_rfl) (run_results [.tmp 2] [.bool (decide (a0_1 ≤ 1048576))] (by kernel_rfl) (.cons (res_tmp (by kernel_rfl)) .nil)) ⟨congrArg Ending.returned (by kernel_rfl), hs.none⟩)
      · refine wpS.take 11 false (some 14) (.bool false) (by kernel_rfl) (yld_b (df hc) (fun _ => by kernel_rfl)) ?_
        refine wpS.take 12 false (some 15) (.bool false) (by kernel_rfl) (yld fun _ => by kernel_rfl) ?_
        refine wpS.take 13 false (some 16) (.bool false) (by kernel_rfl) (yld fun _ => by kernel_rfl) ?_
        refine wpS.take 14 false (some 17) (undef) (by kernel_rfl) (yld fun _ => by kernel_rfl) ?_
        refine wpS.take 15 false (some 18) (undef) (by kernel_rfl) (yld fun _ => by kernel_rfl) ?_
        refine wpS.take 16 false (some 19) (undef) (by kernel_rfl) (yld fun _ => by kernel_rfl) ?_
        refine wpS.take 17 false (some 20) (.bool false) (by kernel_rfl) (yld fun _ => by kernel_rfl) ?_
        refine wpS.take 18 false (some 2) (.bool false) (by kernel_rfl) (yld fun _ => by kernel_rfl) ?_
        refine wpS.fin rfl (kr4 _ _ ?_)
        refine then_n (ks3 _ _ ?_)
        refine xret ?_
        have q0 := of_some h
        subst q0
        exact qq _ _ (post_ret (by kernel_rfl) (run_results [.tmp 2] [.bool false] (by kernel_rfl) (.cons (res_tmp (by kernel_rfl)) .nil)) ⟨congrArg Ending.returned (by kernel_rfl), hs.none⟩)
    · refine wpS.take 6 false (some 9) (.bool false) (by kernel_rfl) (yld_b (df hc) (fun _ => by kernel_rfl)) ?_
      refine wpS.take 7 false (some 10) (.bool false) (by kernel_rfl) (yld fun _ => by kernel_rfl) ?_
      refine wpS.take 8 false (some 11) (.bool false) (by kernel_rfl) (yld fun _ => by kernel_rfl) ?_
      refine wpS.take 9 false (some 12) (undef) (by kernel_rfl) (yld fun _ => by kernel_rfl) ?_
      refine wpS.take 10 false (some 13) (undef) (by kernel_rfl) (yld fun _ => by kernel_rfl) ?_
      refine wpS.take 11 false (some 14) (undef) (by kernel_rfl) (yld fun _ => by kernel_rfl) ?_
      refine wpS.take 12 false (some 15) (.bool false) (by kernel_rfl) (yld fun _ => by kernel_rfl) ?_
      refine wpS.take 13 false (some 16) (.bool false) (by kernel_rfl) (yld fun _ => by kernel_rfl) ?_
      refine wpS.take 14 false (some 17) (undef) (by kernel_rfl) (yld fun _ => by kernel_rfl) ?_
      refine wpS.take 15 false (some 18) (undef) (by kernel_rfl) (yld fun _ => by kernel_rfl) ?_
      refine wpS.take 16 false (some 19) (undef) (by kernel_rfl) (yld fun _ => by kernel_rfl) ?_
      refine wpS.take 17 false (some 20) (.bool false) (by kernel_rfl) (yld fun _ => by kernel_rfl) ?_
      refine wpS.take 18 false (some 2) (.bool false) (by kernel_rfl) (yld fun _ => by kernel_rfl) ?_
      refine wpS.fin rfl (kr4 _ _ ?_)
      refine then_n (ks3 _ _ ?_)
      refine xret ?_
      have q0 := of_some h
      subst q0
      exact qq _ _ (post_ret (by kernel_rfl) (run_results [.tmp 2] [.bool false] (by kernel_rfl) (.cons (res_tmp (by kernel_rfl)) .nil)) ⟨congrArg Ending.returned (by kernel_rfl), hs.none⟩)
  · refine wpS.take 2 false (some 5) (.bool false) (by kernel_rfl) (yld_b (df hc) (fun _ => by kernel_rfl)) ?_
    refine wpS.take 3 false (some 6) (.bool false) (by kernel_rfl) (yld fun _ => by kernel_rfl) ?_
    refine wpS.take 4 false (some 7) (undef) (by kernel_rfl) (yld fun _ => by kernel_rfl) ?_
    refine wpS.take 5 false (some 8) (undef) (by kernel_rfl) (yld fun _ => by kernel_rfl) ?_
    refine wpS.take 6 false (some 9) (undef) (by kernel_rfl) (yld fun _ => by kernel_rfl) ?_
    refine wpS.take 7 false (some 10) (.bool false) (by kernel_rfl) (yld fun _ => by kernel_rfl) ?_
    refine wpS.take 8 false (some 11) (.bool false) (by kernel_rfl) (yld fun _ => by kernel_rfl) ?_
    refine wpS.take 9 false (some 12) (undef) (by kernel_rfl) (yld fun _ => by kernel_rfl) ?_
    refine wpS.take 10 false (some 13) (undef) (by kernel_rfl) (yld fun _ => by kernel_rfl) ?_
    refine wpS.take 11 false (some 14) (undef) (by kernel_rfl) (yld fun _ => by kernel_rfl) ?_
    refine wpS.take 12 false (some 15) (.bool false) (by kernel_rfl) (yld fun _ => by kernel_rfl) ?_
    refine wpS.take 13 false (some 16) (.bool false) (by kernel_rfl) (yld fun _ => by kernel_rfl) ?_
    refine wpS.take 14 false (some 17) (undef) (by kernel_rfl) (yld fun _ => by kernel_rfl) ?_
    refine wpS.take 15 false (some 18) (undef) (by kernel_rfl) (yld fun _ => by kernel_rfl) ?_
    refine wpS.take 16 false (some 19) (undef) (by kernel_rfl) (yld fun _ => by kernel_rfl) ?_
    refine wpS.take 17 false (some 20) (.bool false) (by kernel_rfl) (yld fun _ => by kernel_rfl) ?_
    refine wpS.take 18 false (some 2) (.bool false) (by kernel_rfl) (yld fun _ => by kernel_rfl) ?_
    refine wpS.fin rfl (kr4 _ _ ?_)
    refine then_n (ks3 _ _ ?_)
    refine xret ?_
    have q0 := of_some h
    subst q0
    exact qq _ _ (post_ret (by kernel_rfl) (run_results [.tmp 2] [.bool false] (by kernel_rfl) (.cons (res_tmp (by kernel_rfl)) .nil)) ⟨congrArg Ending.returned (by kernel_rfl), hs.none⟩)

theorem bits_such.ok {K : Nat} {a0 : List Int} {a1 : Int} {a2 : Int} {r0 : Bool} {a0_A : Option Addr} {a0_n : Nat} {a0_c : Nat} (h : bits_such.f K a0 a1 a2 = some r0) (w0 : World) (hp0 : RowL (CI .u8) w0 a0_A a0_n a0_c a0) : Ret Try.prog 66 #[.slice a0_A a0_n a0_c, .int .i64 a1, .int .i64 a2] w0 (.bool r0) := by
  refine calls_k Try.func66 rfl fun Q qq => ?_
  have hs := St.startR (all_cons (RowP.ent hp0) all_nil)
  refine wp_conv (a' := ⟨#[.slice a0_A a0_n a0_c, .int .i64 a1, .int .i64 a2, undef, undef, undef, undef, undef, undef, undef, undef, undef, undef, undef, undef, undef, undef, undef, undef, undef, undef, undef, undef, undef, undef, undef], []⟩) (by kernel_rfl) ?_
  refine xseq_k fun KS1 ks1 => ?_
  refine wp_regS (l := [0]) (by kernel_rfl) (by kernel_rfl) fun KR2 kr2 => ?_
  refine wpS.take 0 false (some 6) (.bool false) (by kernel_rfl) (yld fun _ => by kernel_rfl) ?_
  refine wpS.fin rfl (kr2 _ _ ?_)
  refine then_n (ks1 _ _ ?_)
  refine xseq_k fun KS3 ks3 => ?_
  refine wp_regS (l := [0, 1, 2, 3, 4, 5, 6, 7, 8, 9, 10, 11, 12, 13, 14, 15, 16, 17, 18, 19]) (by kernel_rfl) (by kernel_rfl) fun KR4 kr4 => ?_
  refine wpS.take 0 false (some 7) (.int .i64 a1) (by kernel_rfl) (yld fun _ => by kernel_rfl) ?_
  rcases of_if h with ⟨hc, h⟩ | ⟨hc, h⟩
  · refine wpS.take 1 false (some 8) (.bool true) (by kernel_rfl) (yld_b (dt hc) (fun _ => by kernel_rfl)) ?_
    refine wpS.take 2 false (some 9) (.bool true) (by kernel_rfl) (yld fun _ => by kernel_rfl) ?_
    refine wpS.take 3 false (some 10) (.int .i64 a1) (by kernel_rfl) (yld fun _ => by kernel_rfl) ?_
    rcases of_if h with ⟨hc, h⟩ | ⟨hc, h⟩
    · refine wpS.take 4 false (some 11) (.bool true) (by kernel_rfl) (yld_b (dt hc) (fun _ => by kernel_rfl)) ?_
      refine wpS.take 5 false (some 12) (.bool true) (by kernel_rfl) (yld fun _ => by kernel_rfl) ?_
      refine wpS.take 6 false (some 13) (.bool true) (by kernel_rfl) (yld fun _ => by kernel_rfl) ?_
      refine wpS.take 7 false (some 14) (.int .i64 a2) (by kernel_rfl) (yld fun _ => by kernel_rfl) ?_
      rcases of_if h with ⟨hc, h⟩ | ⟨hc, h⟩
      · refine wpS.take 8 false (some 15) (.bool true) (by kernel_rfl) (yld_b (dt hc) (fun _ => by kernel_rfl)) ?_
        refine wpS.take 9 false (some 16) (.bool true) (by kernel_rfl) (yld fun _ => by kernel_rfl) ?_
        refine wpS.take 10 false (some 17) (.bool true) (by kernel_rfl) (yld fun _ => by kernel_rfl) ?_
        refine wpS.take 11 false (some 18) (.int .i64 a2) (by kernel_rfl) (yld fun _ => by kernel_rfl) ?_
        refine wpS.take 12 false (some 19) (.slice a0_A a0_n a0_c) (by kernel_rfl) (yld fun _ => by kernel_rfl) ?_
        refine wpS.take 13 false (some 20) (.int .i64 (a0.length : Int)) (by kernel_rfl) (yld_lenL (hs.rowR 0 rfl) (fun _ => by kernel_rfl)) ?_
        refine wpS.take 14 false (some 21) (.int .i64 (imul .i64 (a0.length : Int) 8)) (by kernel_rfl) (yld fun _ => by kernel_rfl) ?_
        refine wpS.take 15 false (some 22) (.int .i64 a1) (by kernel_rfl) (yld fun _ => by kernel_rfl) ?_
        obtain ⟨h0, h⟩ := of_chk h
        refine wpS.take 16 false (some 23) (.int .i64 (iquo .i64 (imul .i64 (a0.length : Int) 8) a1)) (by kernel_rfl) (yld_quo (t := 3) (by kernel_rfl) h0) ?_
        refine wpS.take 17 false (some 24) (.bool (decide (a2 ≤ (iquo .i64 (imul .i64 (a0.length : Int) 8) a1)))) (by kernel_rfl) (yld fun _ => by kernel_rfl) ?_
        refine wpS.take 18 false (some 25) (.bool (decide (a2 ≤ (iquo .i64 (imul .i64 (a0.length : Int) 8) a1)))) (by kernel_rfl) (yld fun _ => by kernel_rfl) ?_
        refine wpS.take 19 false (some 6) (.bool (decide (a2 ≤ (iquo .i64 (imul .i64 (a0.length : Int) 8) a1)))) (by kernel_rfl) (yld fun _ => by kernel_rfl) ?_
        refine wpS.fin rfl (kr4 _ _ ?_)
        refine then_n (ks3 _ _ ?_)
        refine xret ?_
        have q0 := of_some h
        subst q0
        exact qq _ _ (post_ret (by kernel_rfl) (run_results [.tmp 6] [.bool (decide (a2 ≤ (iquo .i64 (imul .i64 (a0.length : Int) 8) a1)))] (by kernel_rfl) (.cons (res_tmp (by kernel_rfl)) .nil)) ⟨congrArg Ending.returned (by kernel_rfl), hs.none⟩)
      · refine wpS.take 8 false (some 15) (.bool false) (by kernel_rfl) (yld_b (df hc) (fun _ => by kernel_rfl)) ?_
        refine wpS.take 9 false (some 16) (.bool false) (by kernel_rfl) (yld fun _ => by kernel_rfl) ?_
        refine wpS.take 10 false (some 17) (.bool false) (by kernel_rfl) (yld fun _ => by kernel_rfl) ?_
        refine wpS.take 11 false (some 18) (undef) (by kernel_rfl) (yld fun _ => by kernel_rfl) ?_
        refine wpS.take 12 false (some 19) (undef) (by kernel_rfl) (yld fun _ => by kernel_rfl) ?_
        refine wpS.take 13 false (some 20) (undef) (by kernel_rfl) (yld fun _ => by kernel_rfl) ?_
        refine wpS.take 14 false (some 21) (undef) (by kernel_rfl) (yld fun _ => by kernel_rfl) ?_
        refine wpS.take 15 false (some 22) (undef) (by kernel_rfl) (yld fun _ => by kernel_rfl) ?_
        refine wpS.take 16 false (some 23) (undef) (by kernel_rfl) (yld fun _ => by kernel_rfl) ?_
        refine wpS.take 17 false (some 24) (undef) (by kernel_rfl) (yld fun _ => by kernel_rfl) ?_
        refine wpS.take 18 false (some 25) (.bool false) (by kernel_rfl) (yld fun _ => by kernel_rfl) ?_
        refine wpS.take 19 false (some 6) (.bool false) (by kernel_rfl) (yld fun _ => by kernel_rfl) ?_
        refine wpS.fin rfl (kr4 _ _ ?_)
        refine then_n (ks3 _ _ ?_)
        refine xret ?_
        have q0 := of_some h
        subst q0
        exact qq _ _ (post_ret (by kernel_rfl) (run_results [.tmp 6] [.bool false] (by kernel_rfl) (.cons (res_tmp (by kernel_rfl)) .nil)) ⟨congrArg Ending.returned (by kernel_rfl), hs.none⟩)
    · refine wpS.take 4 false (some 11) (.bool false) (by kernel_rfl) (yld_b (df hc) (fun _ => by kernel_rfl)) ?_
      refine wpS.take 5 false (some 12) (.bool false) (by kernel_rfl) (yld fun _ => by kernel_rfl) ?_
      refine wpS.take 6 false (some 13) (.bool false) (by kernel_rfl) (yld fun _ => by kernel_rfl) ?_
      refine wpS.take 7 false (some 14) (undef) (by kernel_rfl) (yld fun _ => by kernel_rfl) ?_
      refine wpS.take 8 false (some 15) (undef) (by kernel_rfl) (yld fun _ => by kernel_rfl) ?_
      refine wpS.take 9 false (some 16) (.bool false) (by kernel_rfl) (yld fun _ => by kernel_rfl) ?_
      refine wpS.take 10 false (some 17) (.bool false) (by kernel_rfl) (yld fun _ => by kernel_rfl) ?_
      refine wpS.take 11 false (some 18) (undef) (by kernel_rfl) (yld fun _ => by kernel_rfl) ?_
      refine wpS.take 12 false (some 19) (undef) (by kernel_rfl) (yld fun _ => by kernel_rfl) ?_
      refine wpS.take 13 false (some 20) (undef) (by kernel_rfl) (yld fun _ => by kernel_rfl) ?_
      refine wpS.take 14 false (some 21) (undef) (by kernel_rfl) (yld fun _ => by kernel_rfl) ?_
      refine wpS.take 15 false (some 22) (undef) (by kernel_rfl) (yld fun _ => by kernel_rfl) ?_
      refine wpS.take 16 false (some 23) (undef) (by kernel_rfl) (yld fun _ => by kernel_rfl) ?_
      refine wpS.take 17 false (some 24) (undef) (by kernel_rfl) (yld fun _ => by kernel_rfl) ?_
      refine wpS.take 18 false (some 25) (.bool false) (by kernel_rfl) (yld fun _ => by kernel_rfl) ?_
      refine wpS.take 19 false (some 6) (.bool false) (by kernel_rfl) (yld fun _ => by kernel_rfl) ?_
      refine wpS.fin rfl (kr4 _ _ ?_)
      refine then_n (ks3 _ _ ?_)
      refine xret ?_
      have q0 := of_some h
      subst q0
      exact qq _ _ (post_ret (by kernel_rfl) (run_results [.tmp 6] [.bool false] (by kernel_rfl) (.cons (res_tmp (by kernel_rfl)) .nil)) ⟨congrArg Ending.returned (by kernel_rfl), hs.none⟩)
  · refine wpS.take 1 false (some 8) (.bool false) (by kernel_rfl) (yld_b (df hc) (fun _ => by kernel_rfl)) ?_
    refine wpS.take 2 false (some 9) (.bool false) (by kernel_rfl) (yld fun _ => by kernel_rfl) ?_
    refine wpS.take 3 false (some 10) (undef) (by kernel_rfl) (yld fun _ => by kernel_rfl) ?_
    refine wpS.take 4 false (some 11) (undef) (by kernel_rfl) (yld fun _ => by kernel_rfl) ?_
    refine wpS.take 5 false (some 12) (.bool false) (by kernel_rfl) (yld fun _ => by kernel_rfl) ?_
    refine wpS.take 6 false (some 13) (.bool false) (by kernel_rfl) (yld fun _ => by kernel_rfl) ?_
    refine wpS.take 7 false (some 14) (undef) (by kernel_rfl) (yld fun _ => by kernel_rfl) ?_
    refine wpS.take 8 false (some 15) (undef) (by kernel_rfl) (yld fun _ => by kernel_rfl) ?_
    refine wpS.take 9 false (some 16) (.bool false) (by kernel_rfl) (yld fun _ => by kernel_rfl) ?_
    refine wpS.take 10 false (some 17) (.bool false) (by kernel_rfl) (yld fun _ => by kernel_rfl) ?_
    refine wpS.take 11 false (some 18) (undef) (by kernel_rfl) (yld fun _ => by kernel_rfl) ?_
    refine wpS.take 12 false (some 19) (undef) (by kernel_rfl) (yld fun _ => by kernel_rfl) ?_
    refine wpS.take 13 false (some 20) (undef) (by kernel_rfl) (yld fun _ => by kernel_rfl) ?_
    refine wpS.take 14 false (some 21) (undef) (by kernel_rfl) (yld fun _ => by kernel_rfl) ?_
    refine wpS.take 15 false (some 22) (undef) (by kernel_rfl) (yld fun _ => by kernel_rfl) ?_
    refine wpS.take 16 false (some 23) (undef) (by kernel_rfl) (yld fun _ => by kernel_rfl) ?_
    refine wpS.take 17 false (some 24) (undef) (by kernel_rfl) (yld fun _ => by kernel_rfl) ?_
    refine wpS.take 18 false (some 25) (.bool false) (by kernel_rfl) (yld fun _ => by kernel_rfl) ?_
    refine wpS.take 19 false (some 6) (.bool false) (by kernel_rfl) (yld fun _ => by kernel_rfl) ?_
    refine wpS.fin rfl (kr4 _ _ ?_)
    refine then_n (ks3 _ _ ?_)
    refine xret ?_
    have q0 := of_some h
    subst q0
    exact qq _ _ (post_ret (by kernel_rfl) (run_results [.tmp 6] [.bool false] (by kernel_rfl) (.cons (res_tmp (by kernel_rfl)) .nil)) ⟨congrArg Ending.returned (by kernel_rfl), hs.none⟩)

theorem bits_Unpack.ok {K : Nat} {a0 : List Int} {a1 : Int} {a2 : Int} {r0 : List Int} {a0_A : Option Addr} {a0_n : Nat} {a0_c : Nat} (h : bits_Unpack.f K a0 a1 a2 = some r0) (w0 : World) (hp0 : RowL (CI .u8) w0 a0_A a0_n a0_c a0) : Calls Try.prog 48 #[.slice a0_A a0_n a0_c, .int .i64 a1, .int .i64 a2] w0 fun e w' => ∃ h : (Option Addr × Nat × Nat), e = .returned (.slice h.1 h.2.1 h.2.2) ∧ St w0 [] [.ownL (CI .u32) h.1 h.2.1 h.2.2 r0 84] [] w' := by
  refine calls_k Try.func48 rfl fun Q qq => ?_
  have hs := St.startR (all_cons (RowP.ent hp0) all_nil)
  refine wp_conv (a' := ⟨#[.slice a0_A a0_n a0_c, .int .i64 a1, .int .i64 a2, undef, undef, undef, undef, undef, undef, undef, undef, undef, undef, undef, undef, undef, undef, undef, undef, undef, undef, undef, undef, undef, undef, undef, undef, undef, undef, undef, undef, undef, undef, undef, undef, undef, undef, undef, undef, undef, undef, undef, undef, undef, undef, undef, undef, undef, undef, undef, undef, undef, undef, undef, undef], []⟩) (by kernel_rfl) ?_
  refine xseq_k fun KS1 ks1 => ?_
  refine wp_regS (l := [0]) (by kernel_rfl) (by kernel_rfl) fun KR2 kr2 => ?_
  refine wpS.take 0 false (some 6) (.slice none 0 0) (by kernel_rfl) (yld fun _ => by kernel_rfl) ?_
  refine wpS.fin rfl (kr2 _ _ ?_)
  refine then_n (ks1 _ _ ?_)
  refine xseq_k fun KS7 ks7 => ?_
  refine xseq_k fun KS8 ks8 => ?_
  refine wp_regS (l := [0, 1, 2, 3, 4]) (by kernel_rfl) (by kernel_rfl) fun KR9 kr9 => ?_
  refine wpS.take 0 false (some 11) (.slice a0_A a0_n a0_c) (by kernel_rfl) (yld fun _ => by kernel_rfl) ?_
  refine wpS.take 1 false (some 12) (.int .i64 a1) (by kernel_rfl) (yld fun _ => by kernel_rfl) ?_
  refine wpS.take 2 false (some 13) (.int .i64 a2) (by kernel_rfl) (yld fun _ => by kernel_rfl) ?_
  obtain ⟨r1, hg, h⟩ := of_bind h
  cases r1 with
  | true =>
    have h := of_if_t h
    refine wpS.only 3 (op_call (d := (some 14)) (by kernel_rfl) hs (fun _ => by kernel_rfl) (bits_such.ok hg _ (hs.rowR 0 rfl)) ?_)
    intro w gw hs
    refine ⟨fun _ => trivial, ?_⟩
    refine wpS.take 4 false (some 15) (.bool false) (by kernel_rfl) (yld fun _ => by kernel_rfl) ?_
    refine wpS.fin rfl (kr9 _ _ ?_)
    refine then_n (ks8 _ _ ?_)
    refine wp_cond_f (by kernel_rfl) ?_
    refine xskip ?_
    refine then_n (ks7 _ _ ?_)
    refine xseq_k fun KS10 ks10 => ?_
    refine wp_regS (l := [0, 1, 2]) (by kernel_rfl) (by kernel_rfl) fun KR11 kr11 => ?_
    refine wpS.take 0 false (some 16) (.int .i64 a2) (by kernel_rfl) (yld fun _ => by kernel_rfl) ?_
    obtain ⟨h0, h⟩ := of_chk h
    obtain ⟨h1, h⟩ := of_chk h
    refine wpS.only 1 (op_makeT (C := (CI .u32)) (t := 82) (e := 84) (bytes := 4) (B := 35184372088832) (kl := .i64) (kc := .i64) (x := a2) (d := (some 17)) (by kernel_rfl) hs (by kernel_rfl) (by kernel_rfl) (by kernel_rfl) (by kernel_rfl) (by kernel_rfl) h0 h1 (by decide) (by decide) ?_)
    intro s2_A s2_n s2_c w gw hs
    refine ⟨fun _ => trivial, ?_⟩
    refine wpS.take 2 false (some 7) (.slice s2_A s2_n s2_c) (by kernel_rfl) (yld fun _ => by kernel_rfl) ?_
    refine wpS.fin rfl (kr11 _ _ ?_)
    refine then_n (ks10 _ _ ?_)
    refine xseq_k fun KS12 ks12 => ?_
    refine wp_regS (l := [0, 1]) (by kernel_rfl) (by kernel_rfl) fun KR13 kr13 => ?_
    refine wpS.take 0 false (some 8) (.int .u64 0) (by kernel_rfl) (yld fun _ => by kernel_rfl) ?_
    refine wpS.take 1 false (some 9) (.int .i64 0) (by kernel_rfl) (yld fun _ => by kernel_rfl) ?_
    refine wpS.fin rfl (kr13 _ _ ?_)
    refine then_n (ks12 _ _ ?_)
    refine xseq_k fun KS120 ks120 => ?_
    refine xseq_k fun KS121 ks121 => ?_
    refine wp_regS (l := [0, 1, 2]) (by kernel_rfl) (by kernel_rfl) fun KR122 kr122 => ?_
    refine wpS.take 0 false (some 18) (.slice s2_A s2_n s2_c) (by kernel_rfl) (yld fun _ => by kernel_rfl) ?_
    refine wpS.take 1 false (some 19) (.int .i64 ((List.replicate (a2 : Int).toNat (Cod.zero (CI .u32))).length : Int)) (by kernel_rfl) (yld_lenL (hs.rowL 0 rfl) (fun _ => by kernel_rfl)) ?_
    refine wpS.take 2 false (some 20) (.int .i64 0) (by kernel_rfl) (yld fun _ => by kernel_rfl) ?_
    refine wpS.fin rfl (kr122 _ _ ?_)
    refine then_n (ks121 _ _ ?_)
    obtain ⟨y8, hy, hk0⟩ := of_bind h
    refine wp_exq (N := fun a w => St w0 [] [.ownL (CI .u32) s2_A s2_n s2_c y8 84] [.rowL (CI .u8) a0_A a0_n a0_c a0] w ∧ ∃ g : Nat → Value, a = ⟨#[(g 0), .int .i64 a1, .int .i64 a2, undef, undef, undef, .slice none 0 0, .slice s2_A s2_n s2_c, (g 8), (g 9), (g 10), .slice a0_A a0_n a0_c, .int .i64 a1, .int .i64 a2, .bool true, .bool false, .int .i64 a2, .slice s2_A s2_n s2_c, .slice s2_A s2_n s2_c, .int .i64 ((List.replicate (a2 : Int).toNat (Cod.zero (CI .u32))).length : Int), (g 20), (g 21), (g 22), (g 23), (g 24), (g 25), (g 26), (g 27), (g 28), (g 29), (g 30), (g 31), (g 32), (g 33), (g 34), (g 35), (g 36), (g 37), (g 38), (g 39), (g 40), (g 41), (g 42), (g 43), (g 44), (g 45), (g 46), (g 47), (g 48), (g 49), (g 50), (g 51), (g 52), (g 53), undef], []⟩) (fun N0 nn0 => ?_) ?_
    · clear hk0
      refine xblock ?_
      refine wp_loop_k (fun n a w => ∃ z3 z4 z5 z6 z7, ∃ (z7_A : Option Addr) (z7_n : Nat) (z7_c : Nat), bits_Unpack.l0 K n a1 a2 z3 z4 z5 z6 z7 = some y8 ∧ St w0 [] [.ownL (CI .u32) s2_A s2_n s2_c z6 84] [.rowL (CI .u8) z7_A z7_n z7_c z7, .rowL (CI .u8) a0_A a0_n a0_c a0] w ∧ ∃ g : Nat → Value, a = ⟨#[.slice z7_A z7_n z7_c, .int .i64 a1, .int .i64 a2, undef, undef, undef, .slice none 0 0, .slice s2_A s2_n s2_c, .int .u64 z3, .int .i64 z4, (g 10), .slice a0_A a0_n a0_c, .int .i64 a1, .int .i64 a2, .bool true, .bool false, .int .i64 a2, .slice s2_A s2_n s2_c, .slice s2_A s2_n s2_c, .int .i64 ((List.replicate (a2 : Int).toNat (Cod.zero (CI .u32))).length : Int), .int .i64 z5, (g 21), (g 22), (g 23), (g 24), (g 25), (g 26), (g 27), (g 28), (g 29), (g 30), (g 31), (g 32), (g 33), (g 34), (g 35), (g 36), (g 37), (g 38), (g 39), (g 40), (g 41), (g 42), (g 43), (g 44), (g 45), (g 46), (g 47), (g 48), (g 49), (g 50), (g 51), (g 52), (g 53), undef], []⟩) K ⟨0, 0, 0, (List.replicate (a2 : Int).toNat (Cod.zero (CI .u32))), a0, a0_A, a0_n, a0_c, hy, (hs.conv (L' := [.ownL (CI .u32) s2_A s2_n s2_c (List.replicate (a2 : Int).toNat (Cod.zero (CI .u32))) 84]) rfl).pickR (pick_cons 0 rfl (pick_cons 0 rfl pick_nil)), exg (by kernel_rfl)⟩ ?_
      clear hs h hy
      rintro n a w ⟨z3, z4, z5, z6, z7, z7_A, z7_n, z7_c, h, hs, g, rfl⟩ KL0 kl0
      cases n with
      | zero => exact nomatch (show none = some _ from h)
      | succ n =>
        refine xseq_k fun KS175 ks175 => ?_
        refine wp_regS (l := [0]) (by kernel_rfl) (by kernel_rfl) fun KR176 kr176 => ?_
        rcases of_if h with ⟨hc, h⟩ | ⟨hc, h⟩
        · refine wpS.take 0 false (some 21) (.bool true) (by kernel_rfl) (yld_b (dt hc) (fun _ => by kernel_rfl)) ?_
          refine wpS.fin rfl (kr176 _ _ ?_)
          refine then_n (ks175 _ _ ?_)
          refine xseq_k fun KS177 ks177 => ?_
          refine wp_cond_t (by kernel_rfl) ?_
          refine xskip ?_
          refine then_n (ks177 _ _ ?_)
          refine xseq_k fun KS201 ks201 => ?_
          refine xblock ?_
          refine xseq_k fun KS202 ks202 => ?_
          refine wp_regS (l := [0, 1]) (by kernel_rfl) (by kernel_rfl) fun KR203 kr203 => ?_
          refine wpS.take 0 false (some 22) (.int .i64 z5) (by kernel_rfl) (yld fun _ => by kernel_rfl) ?_
          refine wpS.take 1 false (some 10) (.int .i64 z5) (by kernel_rfl) (yld fun _ => by kernel_rfl) ?_
          refine wpS.fin rfl (kr203 _ _ ?_)
          refine then_n (ks202 _ _ ?_)
          refine xseq_k fun KS204 ks204 => ?_
          obtain ⟨⟨y12, y13, y14⟩, hy, hk1⟩ := of_bind h
          refine wp_exq (N := fun a w => ∃ (y14_A : Option Addr) (y14_n : Nat) (y14_c : Nat), St w0 [] [.ownL (CI .u32) s2_A s2_n s2_c z6 84] [.rowL (CI .u8) y14_A y14_n y14_c y14, .rowL (CI .u8) z7_A z7_n z7_c z7, .rowL (CI .u8) a0_A a0_n a0_c a0] w ∧ ∃ g : Nat → Value, a = ⟨#[.slice y14_A y14_n y14_c, .int .i64 a1, .int .i64 a2, undef, undef, undef, .slice none 0 0, .slice s2_A s2_n s2_c, .int .u64 y12, .int .i64 y13, .int .i64 z5, .slice a0_A a0_n a0_c, .int .i64 a1, .int .i64 a2, .bool true, .bool false, .int .i64 a2, .slice s2_A s2_n s2_c, .slice s2_A s2_n s2_c, .int .i64 ((List.replicate (a2 : Int).toNat (Cod.zero (CI .u32))).length : Int), .int .i64 z5, .bool true, .int .i64 z5, (g 23), (g 24), (g 25), (g 26), (g 27), (g 28), (g 29), (g 30), (g 31), (g 32), (g 33), (g 34), (g 35), (g 36), (g 37), (g 38), (g 39), (g 40), (g 41), (g 42), (g 43), (g 44), (g 45), (g 46), (g 47), (g 48), (g 49), (g 50), (g 51), (g 52), (g 53), undef], []⟩) (fun N1 nn1 => ?_) ?_
          · clear hk1
            refine xblock ?_
            refine wp_loop_k (fun n a w => ∃ z9 z10 z11, ∃ (z11_A : Option Addr) (z11_n : Nat) (z11_c : Nat), bits_Unpack.l1 K n a1 z9 z10 z11 = some (y12, y13, y14) ∧ St w0 [] [.ownL (CI .u32) s2_A s2_n s2_c z6 84] [.rowL (CI .u8) z11_A z11_n z11_c z11, .rowL (CI .u8) z7_A z7_n z7_c z7, .rowL (CI .u8) a0_A a0_n a0_c a0] w ∧ ∃ g : Nat → Value, a = ⟨#[.slice z11_A z11_n z11_c, .int .i64 a1, .int .i64 a2, undef, undef, undef, .slice none 0 0, .slice s2_A s2_n s2_c, .int .u64 z9, .int .i64 z10, .int .i64 z5, .slice a0_A a0_n a0_c, .int .i64 a1, .int .i64 a2, .bool true, .bool false, .int .i64 a2, .slice s2_A s2_n s2_c, .slice s2_A s2_n s2_c, .int .i64 ((List.replicate (a2 : Int).toNat (Cod.zero (CI .u32))).length : Int), .int .i64 z5, .bool true, .int .i64 z5, (g 23), (g 24), (g 25), (g 26), (g 27), (g 28), (g 29), (g 30), (g 31), (g 32), (g 33), (g 34), (g 35), (g 36), (g 37), (g 38), (g 39), (g 40), (g 41), (g 42), (g 43), (g 44), (g 45), (g 46), (g 47), (g 48), (g 49), (g 50), (g 51), (g 52), (g 53), undef], []⟩) K ⟨z3, z4, z7, z7_A, z7_n, z7_c, hy, (hs.conv (L' := [.ownL (CI .u32) s2_A s2_n s2_c z6 84]) rfl).pickR (pick_cons 0 rfl (pick_cons 0 rfl (pick_cons 1 rfl pick_nil))), exg (by kernel_rfl)⟩ ?_
            clear hs h hy
            rintro n a w ⟨z9, z10, z11, z11_A, z11_n, z11_c, h, hs, g, rfl⟩ KL1 kl1
            cases n with
            | zero => exact nomatch (show none = some _ from h)
            | succ n =>
              refine xseq_k fun KS214 ks214 => ?_
              refine xseq_k fun KS215 ks215 => ?_
              refine wp_regS (l := [0, 1, 2]) (by kernel_rfl) (by kernel_rfl) fun KR216 kr216 => ?_
              refine wpS.take 0 false (some 23) (.int .i64 z10) (by kernel_rfl) (yld fun _ => by kernel_rfl) ?_
              refine wpS.take 1 false (some 24) (.int .i64 a1) (by kernel_rfl) (yld fun _ => by kernel_rfl) ?_
              rcases of_if h with ⟨hc, h⟩ | ⟨hc, h⟩
              · refine wpS.take 2 false (some 25) (.bool true) (by kernel_rfl) (yld_b (dt hc) (fun _ => by kernel_rfl)) ?_
                refine wpS.fin rfl (kr216 _ _ ?_)
                refine then_n (ks215 _ _ ?_)
                refine wp_cond_t (by kernel_rfl) ?_
                refine xskip ?_
                refine then_n (ks214 _ _ ?_)
                refine xblock ?_
                refine wp_regG [] (fun k => True) 15 (by kernel_rfl) (by kernel_rfl) (by kernel_rfl) fun KR217 kr217 => ?_
                have hs := hs.drawn1
                refine wpG.takeD 0 false (some 26) (.int .u64 z9) (by kernel_rfl) (by kernel_rfl) (yld fun _ => by kernel_rfl) ?_
                refine wpG.takeD 1 false (some 27) (.slice z11_A z11_n z11_c) (by kernel_rfl) (by kernel_rfl) (yld fun _ => by kernel_rfl) ?_
                obtain ⟨h0, h⟩ := of_chk h
                obtain ⟨h1, h⟩ := of_chk h
                have i0_218 := h0
                have i1_218 := h1
                refine wpG.takeD 2 false (some 28) (.pointer (adr z11_A ((0 : Int).toNat * Cod.size (CI .u8)))) (by kernel_rfl) (by kernel_rfl) (yld_idxL (C := (CI .u8)) (t := 24) (e := 5) (k := .i64) (x := 0) (hs.rowR 0 rfl) (by kernel_rfl) (by kernel_rfl) (by kernel_rfl) h0 h1) ?_
                refine wpG.takeD 3 true (some 29) (.int .u8 (rdL (CI .u8) z11 0)) (by kernel_rfl) (by kernel_rfl) (yld_loadL (C := (CI .u8)) (e := 5) (x := 0) (hs.rowR 0 rfl) (by kernel_rfl) rfl (by kernel_rfl) i0_218 i1_218) ?_
                refine wpG.takeD 4 false (some 30) (.int .u64 (iconv .u64 (rdL (CI .u8) z11 0))) (by kernel_rfl) (by kernel_rfl) (yld fun _ => by kernel_rfl) ?_
                refine wpG.takeD 5 false (some 31) (.int .i64 z10) (by kernel_rfl) (by kernel_rfl) (yld fun _ => by kernel_rfl) ?_
                obtain ⟨h0, h⟩ := of_chk h
                refine wpG.takeD 6 false (some 32) (.int .u64 (ishl .u64 (iconv .u64 (rdL (CI .u8) z11 0)) z10)) (by kernel_rfl) (by kernel_rfl) (yld_shl (t := 104) (k' := .i64) (by kernel_rfl) h0) ?_
                refine wpG.takeD 7 false (some 33) (.int .u64 (ior .u64 z9 (ishl .u64 (iconv .u64 (rdL (CI .u8) z11 0)) z10))) (by kernel_rfl) (by kernel_rfl) (yld fun _ => by kernel_rfl) ?_
                refine wpG.takeD 8 false (some 34) (.int .i64 z10) (by kernel_rfl) (by kernel_rfl) (yld fun _ => by kernel_rfl) ?_
                refine wpG.takeD 9 false (some 35) (.int .i64 (iadd .i64 z10 8)) (by kernel_rfl) (by kernel_rfl) (yld fun _ => by kernel_rfl) ?_
                refine wpG.takeD 10 false (some 36) (.slice z11_A z11_n z11_c) (by kernel_rfl) (by kernel_rfl) (yld fun _ => by kernel_rfl) ?_
                obtain ⟨h0, h⟩ := of_chk h
                obtain ⟨h1, h⟩ := of_chk h
                obtain ⟨h2, h⟩ := of_chk h
                obtain ⟨s15_A, hA⟩ : ∃ A, A = if z11_c = (1 : Int).toNat then z11_A else adr z11_A ((1 : Int).toNat * Cod.size (CI .u8)) := ⟨_, rfl⟩
                obtain ⟨s15_n, hn⟩ : ∃ n, n = ((z11.length : Int) : Int).toNat - (1 : Int).toNat := ⟨_, rfl⟩
                obtain ⟨s15_c, hc⟩ : ∃ c, c = z11_c - (1 : Int).toNat := ⟨_, rfl⟩
                refine wpG.takeD 11 false (some 37) (.slice s15_A s15_n s15_c) (by kernel_rfl) (by kernel_rfl) (yld_sub (C := (CI .u8)) (t := 24) (e := 5) (low := some (.int .i64 1)) (high := none) (lo := 1) (hi := (z11.length : Int)) (hs.rowR 0 rfl) (by kernel_rfl) (by kernel_rfl) (by kernel_rfl) (.inr ⟨_, rfl⟩) (.inl ⟨rfl, rfl⟩) h0 h1 h2 hA hn hc) ?_
                have hs := hs.addSub (C := (CI .u8)) 0 rfl h0 h1 h2 hA hn hc
                obtain ⟨x16, hx, h⟩ := of_bind h
                refine wpG.takeD 12 false (some 8) (.int .u64 x16) (by kernel_rfl) (by kernel_rfl) (yld_int hx (fun _ => by kernel_rfl)) ?_
                obtain ⟨x17, hx, h⟩ := of_bind h
                refine wpG.takeD 13 false (some 9) (.int .i64 x17) (by kernel_rfl) (by kernel_rfl) (yld_int hx (fun _ => by kernel_rfl)) ?_
                refine wpG.takeD 14 false (some 0) (.slice s15_A s15_n s15_c) (by kernel_rfl) (by kernel_rfl) (yld fun _ => by kernel_rfl) ?_
                refine wpG.fin (by kernel_rfl) rfl (kr217 _ _ ?_)
                refine inBlock_n ?_
                exact then_n (kl1 _ _ ⟨n, Nat.lt_succ_self n, x16, x17, (subL z11 1 (z11.length : Int)), s15_A, s15_n, s15_c, h, ((hs.conv (L' := [.ownL (CI .u32) s2_A s2_n s2_c z6 84]) rfl).pickR (pick_cons 0 rfl (pick_cons 2 rfl (pick_cons 3 rfl pick_nil)))), exg (by kernel_rfl)⟩)
              · refine wpS.take 2 false (some 25) (.bool false) (by kernel_rfl) (yld_b (df hc) (fun _ => by kernel_rfl)) ?_
                refine wpS.fin rfl (kr216 _ _ ?_)
                refine then_n (ks215 _ _ ?_)
                refine wp_cond_f (by kernel_rfl) ?_
                refine xexit ?_
                refine then_x ?_
                refine then_x ?_
                refine inBlock_hit ?_
                obtain ⟨q0, qr0⟩ := Prod.mk.inj (of_some h)
                obtain ⟨q1, qr1⟩ := Prod.mk.inj (qr0)
                have q2 := qr1
                subst q0
                subst q1
                subst q2
                exact exq_n (nn1 _ _ ⟨z11_A, z11_n, z11_c, (hs.conv rfl), exg (by kernel_rfl)⟩)
          · clear hs h hy
            rintro a w ⟨y14_A, y14_n, y14_c, hs, g, rfl⟩
            have h := hk1
            refine then_n (ks204 _ _ ?_)
            refine xseq_k fun KS219 ks219 => ?_
            refine wp_regS (l := [0, 1, 2, 3, 4, 5, 6, 7, 8, 9]) (by kernel_rfl) (by kernel_rfl) fun KR220 kr220 => ?_
            refine wpS.take 0 false (some 38) (.slice s2_A s2_n s2_c) (by kernel_rfl) (yld fun _ => by kernel_rfl) ?_
            refine wpS.take 1 false (some 39) (.int .i64 z5) (by kernel_rfl) (yld fun _ => by kernel_rfl) ?_
            refine wpS.take 2 false (some 40) (.int .u64 y12) (by kernel_rfl) (yld fun _ => by kernel_rfl) ?_
            refine wpS.take 3 false (some 41) (.int .i64 a1) (by kernel_rfl) (yld fun _ => by kernel_rfl) ?_
            obtain ⟨h0, h⟩ := of_chk h
            refine wpS.take 4 false (some 42) (.int .u64 (ishl .u64 1 a1)) (by kernel_rfl) (yld_shl (t := 104) (k' := .i64) (by kernel_rfl) h0) ?_
            refine wpS.take 5 false (some 43) (.int .u64 (isub .u64 (ishl .u64 1 a1) 1)) (by kernel_rfl) (yld fun _ => by kernel_rfl) ?_
            refine wpS.take 6 false (some 44) (.int .u64 (iand .u64 y12 (isub .u64 (ishl .u64 1 a1) 1))) (by kernel_rfl) (yld fun _ => by kernel_rfl) ?_
            refine wpS.take 7 false (some 45) (.int .u32 (iconv .u32 (iand .u64 y12 (isub .u64 (ishl .u64 1 a1) 1)))) (by kernel_rfl) (yld fun _ => by kernel_rfl) ?_
            obtain ⟨h0, h⟩ := of_chk h
            obtain ⟨h1, h⟩ := of_chk h
            have i0_221 := h0
            have i1_221 := h1
            refine wpS.take 8 false (some 46) (.pointer (adr s2_A ((z5 : Int).toNat * Cod.size (CI .u32)))) (by kernel_rfl) (yld_idxL (C := (CI .u32)) (t := 82) (e := 84) (k := .i64) (x := z5) (hs.rowL 0 rfl) (by kernel_rfl) (by kernel_rfl) (by kernel_rfl) h0 h1) ?_
            obtain ⟨x18, hx, h⟩ := of_bind h
            refine wpS.only 9 (op_storeL (C := (CI .u32)) (t := 84) (x := z5) (v := x18) (d := none) (by kernel_rfl) hs 0 rfl (by cases hx; kernel_rfl) (by kernel_rfl) i0_221 i1_221 ?_)
            intro w hs
            refine ⟨fun _ => trivial, ?_⟩
            refine wpS.fin rfl (kr220 _ _ ?_)
            refine then_n (ks219 _ _ ?_)
            refine xseq_k fun KS222 ks222 => ?_
            refine wp_regS (l := [0, 1, 2, 3]) (by kernel_rfl) (by kernel_rfl) fun KR223 kr223 => ?_
            refine wpS.take 0 false (some 47) (.int .u64 y12) (by kernel_rfl) (yld fun _ => by kernel_rfl) ?_
            refine wpS.take 1 false (some 48) (.int .i64 a1) (by kernel_rfl) (yld fun _ => by kernel_rfl) ?_
            obtain ⟨h0, h⟩ := of_chk h
            refine wpS.take 2 false (some 49) (.int .u64 (ishr .u64 y12 a1)) (by kernel_rfl) (yld_shr (t := 104) (k' := .i64) (by kernel_rfl) h0) ?_
            obtain ⟨x19, hx, h⟩ := of_bind h
            refine wpS.take 3 false (some 8) (.int .u64 x19) (by kernel_rfl) (yld_int hx (fun _ => by kernel_rfl)) ?_
            refine wpS.fin rfl (kr223 _ _ ?_)
            refine then_n (ks222 _ _ ?_)
            refine wp_regS (l := [0, 1, 2, 3]) (by kernel_rfl) (by kernel_rfl) fun KR224 kr224 => ?_
            refine wpS.take 0 false (some 50) (.int .i64 y13) (by kernel_rfl) (yld fun _ => by kernel_rfl) ?_
            refine wpS.take 1 false (some 51) (.int .i64 a1) (by kernel_rfl) (yld fun _ => by kernel_rfl) ?_
            refine wpS.take 2 false (some 52) (.int .i64 (isub .i64 y13 a1)) (by kernel_rfl) (yld fun _ => by kernel_rfl) ?_
            obtain ⟨x20, hx, h⟩ := of_bind h
            refine wpS.take 3 false (some 9) (.int .i64 x20) (by kernel_rfl) (yld_int hx (fun _ => by kernel_rfl)) ?_
            refine wpS.fin rfl (kr224 _ _ ?_)
            refine inBlock_n ?_
            refine then_n (ks201 _ _ ?_)
            refine wp_regS (l := [0, 1]) (by kernel_rfl) (by kernel_rfl) fun KR225 kr225 => ?_
            refine wpS.take 0 false (some 53) (.int .i64 (iadd .i64 z5 1)) (by kernel_rfl) (yld fun _ => by kernel_rfl) ?_
            refine wpS.take 1 false (some 20) (.int .i64 (iadd .i64 z5 1)) (by kernel_rfl) (yld fun _ => by kernel_rfl) ?_
            refine wpS.fin rfl (kr225 _ _ ?_)
            exact then_n (kl0 _ _ ⟨n, Nat.lt_succ_self n, x19, x20, (iadd .i64 z5 1), (wrL z6 z5 x18), y14, y14_A, y14_n, y14_c, h, ((hs.conv (L' := [.ownL (CI .u32) s2_A s2_n s2_c (wrL z6 z5 x18) 84]) rfl).pickR (pick_cons 0 rfl (pick_cons 2 rfl pick_nil))), exg (by kernel_rfl)⟩)
        · refine wpS.take 0 false (some 21) (.bool false) (by kernel_rfl) (yld_b (df hc) (fun _ => by kernel_rfl)) ?_
          refine wpS.fin rfl (kr176 _ _ ?_)
          refine then_n (ks175 _ _ ?_)
          refine xseq_k fun KS226 ks226 => ?_
          refine wp_cond_f (by kernel_rfl) ?_
          refine xexit ?_
          refine then_x ?_
          refine then_x ?_
          refine inBlock_hit ?_
          have q0 := of_some h
          subst q0
          exact exq_n (nn0 _ _ ⟨((hs.conv (L' := [.ownL (CI .u32) s2_A s2_n s2_c z6 84]) rfl).pickR (pick_cons 1 rfl pick_nil)), exg (by kernel_rfl)⟩)
    · clear hs h hy
      rintro a w ⟨hs, g, rfl⟩
      have h := hk0
      refine then_n (ks120 _ _ ?_)
      refine xseq_k fun KS227 ks227 => ?_
      refine wp_regS (l := [0, 1]) (by kernel_rfl) (by kernel_rfl) fun KR228 kr228 => ?_
      refine wpS.take 0 false (some 54) (.slice s2_A s2_n s2_c) (by kernel_rfl) (yld fun _ => by kernel_rfl) ?_
      refine wpS.take 1 false (some 6) (.slice s2_A s2_n s2_c) (by kernel_rfl) (yld fun _ => by kernel_rfl) ?_
      refine wpS.fin rfl (kr228 _ _ ?_)
      refine then_n (ks227 _ _ ?_)
      refine xret ?_
      have q0 := of_some h
      subst q0
      exact qq _ _ (post_ret (by kernel_rfl) (run_results [.tmp 6] [.slice s2_A s2_n s2_c] (by kernel_rfl) (.cons (res_tmp (by kernel_rfl)) .nil)) ⟨⟨s2_A, s2_n, s2_c⟩, congrArg Ending.returned (by kernel_rfl), ((hs.conv (L' := [.ownL (CI .u32) s2_A s2_n s2_c y8 84]) rfl).pickR pick_nil)⟩)
  | false =>
    have h := of_if_f h
    refine wpS.only 3 (op_call (d := (some 14)) (by kernel_rfl) hs (fun _ => by kernel_rfl) (bits_such.ok hg _ (hs.rowR 0 rfl)) ?_)
    intro w gw hs
    refine ⟨fun _ => trivial, ?_⟩
    refine wpS.take 4 false (some 15) (.bool true) (by kernel_rfl) (yld fun _ => by kernel_rfl) ?_
    refine wpS.fin rfl (kr9 _ _ ?_)
    refine then_n (ks8 _ _ ?_)
    refine wp_cond_t (by kernel_rfl) ?_
    refine xseq_k fun KS229 ks229 => ?_
    refine wp_regS (l := [0]) (by kernel_rfl) (by kernel_rfl) fun KR230 kr230 => ?_
    refine wpS.take 0 false (some 6) (.slice none 0 0) (by kernel_rfl) (yld fun _ => by kernel_rfl) ?_
    refine wpS.fin rfl (kr230 _ _ ?_)
    refine then_n (ks229 _ _ ?_)
    refine xret ?_
    refine then_r ?_
    have q0 := of_some h
    subst q0
    have hs := hs.addNilL (CI .u32) 84
    exact qq _ _ (post_ret (by kernel_rfl) (run_results [.tmp 6] [.slice none 0 0] (by kernel_rfl) (.cons (res_tmp (by kernel_rfl)) .nil)) ⟨⟨none, 0, 0⟩, congrArg Ending.returned (by kernel_rfl), ((hs.conv (L' := [.ownL (CI .u32) none 0 0 ([] : List Int) 84]) rfl).pickR pick_nil)⟩)

theorem dpack_span_back.ok {K : Nat} {a0_0 : Int} {a0_1 : Int} {a1 : Int} {r0 : Int} (h : dpack_span_back.f K a0_0 a0_1 a1 = some r0) (w0 : World) : Ret Try.prog 51 #[.agg #[.int .i32 a0_0, .int .i32 a0_1], .int .u32 a1] w0 (.int .i32 r0) := by
  refine calls_k Try.func51 rfl fun Q qq => ?_
  have hs := St.start w0
  refine wp_conv (a' := ⟨#[.agg #[.int .i32 a0_0, .int .i32 a0_1], .int .u32 a1, undef, undef, undef, undef, undef, undef, undef, undef, undef, undef, undef, undef, undef, undef, undef, undef, undef, undef, undef, undef, undef], []⟩) (by kernel_rfl) ?_
  refine xseq_k fun KS1 ks1 => ?_
  refine wp_regS (l := [0, 1]) (by kernel_rfl) (by kernel_rfl) fun KR2 kr2 => ?_
  refine wpS.only 0 (op_box (t := 73) (v := .agg #[.int .i32 a0_0, .int .i32 a0_1]) (d := (some 2)) (by kernel_rfl) hs ([.int .i32 a0_0, .int .i32 a0_1]) (by kernel_rfl) (by kernel_rfl) ?_)
  intro b1 w gw hs
  refine ⟨fun _ => trivial, ?_⟩
  refine wpS.take 1 false (some 4) (.int .i32 0) (by kernel_rfl) (yld fun _ => by kernel_rfl) ?_
  refine wpS.fin rfl (kr2 _ _ ?_)
  refine then_n (ks1 _ _ ?_)
  refine xseq_k fun KS3 ks3 => ?_
  refine wp_regS (l := [0, 1, 2, 3, 4, 5]) (by kernel_rfl) (by kernel_rfl) fun KR4 kr4 => ?_
  refine wpS.take 0 false (some 6) (.pointer (some ⟨b1, 1, none⟩)) (by kernel_rfl) (yld fun _ => by kernel_rfl) ?_
  refine wpS.take 1 true (some 7) (.int .i32 a0_1) (by kernel_rfl) (yld_load1 (e := 21) (o := 1) hs 0 rfl (by kernel_rfl) (by kernel_rfl) (by rfl) .grow) ?_
  refine wpS.take 2 false (some 8) (.int .u32 a1) (by kernel_rfl) (yld fun _ => by kernel_rfl) ?_
  refine wpS.take 3 false (some 9) (.int .i32 (iconv .i32 a1)) (by kernel_rfl) (yld fun _ => by kernel_rfl) ?_
  refine wpS.take 4 false (some 10) (.int .i32 (isub .i32 a0_1 (iconv .i32 a1))) (by kernel_rfl) (yld fun _ => by kernel_rfl) ?_
  obtain ⟨x2, hx, h⟩ := of_bind h
  refine wpS.take 5 false (some 5) (.int .i32 x2) (by kernel_rfl) (yld_int hx (fun _ => by kernel_rfl)) ?_
  refine wpS.fin rfl (kr4 _ _ ?_)
  refine then_n (ks3 _ _ ?_)
  refine xblock ?_
  refine xseq_k fun KS5 ks5 => ?_
  refine wp_regS (l := [0, 1, 2, 3]) (by kernel_rfl) (by kernel_rfl) fun KR6 kr6 => ?_
  refine wpS.take 0 false (some 13) (.pointer (some ⟨b1, 0, none⟩)) (by kernel_rfl) (yld fun _ => by kernel_rfl) ?_
  refine wpS.take 1 true (some 14) (.int .i32 a0_0) (by kernel_rfl) (yld_load1 (e := 21) (o := 0) hs 0 rfl (by kernel_rfl) (by kernel_rfl) (by rfl) .grow) ?_
  rcases of_if h with ⟨hc, h⟩ | ⟨hc, h⟩
  · refine wpS.take 2 false (some 15) (.bool true) (by kernel_rfl) (yld_b (dt hc) (fun _ => by kernel_rfl)) ?_
    refine wpS.take 3 false (some 12) (.bool true) (by kernel_rfl) (yld fun _ => by kernel_rfl) ?_
    refine wpS.fin rfl (kr6 _ _ ?_)
    refine then_n (ks5 _ _ ?_)
    refine wp_cond_t (by kernel_rfl) ?_
    refine xseq_k fun KS7 ks7 => ?_
    refine wp_regS (l := [0, 1, 2]) (by kernel_rfl) (by kernel_rfl) fun KR8 kr8 => ?_
    refine wpS.take 0 false (some 16) (.int .u32 a1) (by kernel_rfl) (yld fun _ => by kernel_rfl) ?_
    refine wpS.take 1 false (some 17) (.int .i32 (iconv .i32 a1)) (by kernel_rfl) (yld fun _ => by kernel_rfl) ?_
    obtain ⟨x3, hx, h⟩ := of_bind h
    refine wpS.take 2 false (some 4) (.int .i32 x3) (by kernel_rfl) (yld_int hx (fun _ => by kernel_rfl)) ?_
    refine wpS.fin rfl (kr8 _ _ ?_)
    refine then_n (ks7 _ _ ?_)
    refine xret ?_
    refine inBlock_r ?_
    have q0 := of_some h
    subst q0
    exact qq _ _ (post_ret (by kernel_rfl) (run_results [.tmp 4] [.int .i32 x3] (by kernel_rfl) (.cons (res_tmp (by kernel_rfl)) .nil)) ⟨congrArg Ending.returned (by kernel_rfl), hs.none⟩)
  · refine wpS.take 2 false (some 15) (.bool false) (by kernel_rfl) (yld_b (df hc) (fun _ => by kernel_rfl)) ?_
    refine wpS.take 3 false (some 12) (.bool false) (by kernel_rfl) (yld fun _ => by kernel_rfl) ?_
    refine wpS.fin rfl (kr6 _ _ ?_)
    refine then_n (ks5 _ _ ?_)
    refine wp_cond_f (by kernel_rfl) ?_
    refine xseq_k fun KS9 ks9 => ?_
    refine wp_regS (l := [0, 1, 2]) (by kernel_rfl) (by kernel_rfl) fun KR10 kr10 => ?_
    refine wpS.take 0 false (some 19) (.int .i32 x2) (by kernel_rfl) (yld fun _ => by kernel_rfl) ?_
    rcases of_if h with ⟨hc, h⟩ | ⟨hc, h⟩
    · refine wpS.take 1 false (some 20) (.bool true) (by kernel_rfl) (yld_b (dt hc) (fun _ => by kernel_rfl)) ?_
      refine wpS.take 2 false (some 18) (.bool true) (by kernel_rfl) (yld fun _ => by kernel_rfl) ?_
      refine wpS.fin rfl (kr10 _ _ ?_)
      refine then_n (ks9 _ _ ?_)
      refine wp_cond_t (by kernel_rfl) ?_
      refine xseq_k fun KS11 ks11 => ?_
      refine wp_regS (l := [0, 1, 2]) (by kernel_rfl) (by kernel_rfl) fun KR12 kr12 => ?_
      refine wpS.take 0 false (some 21) (.int .i32 x2) (by kernel_rfl) (yld fun _ => by kernel_rfl) ?_
      refine wpS.take 1 false (some 22) (.int .i32 (iadd .i32 x2 8380417)) (by kernel_rfl) (yld fun _ => by kernel_rfl) ?_
      obtain ⟨x4, hx, h⟩ := of_bind h
      refine wpS.take 2 false (some 4) (.int .i32 x4) (by kernel_rfl) (yld_int hx (fun _ => by kernel_rfl)) ?_
      refine wpS.fin rfl (kr12 _ _ ?_)
      refine then_n (ks11 _ _ ?_)
      refine xret ?_
      refine inBlock_r ?_
      have q0 := of_some h
      subst q0
      exact qq _ _ (post_ret (by kernel_rfl) (run_results [.tmp 4] [.int .i32 x4] (by kernel_rfl) (.cons (res_tmp (by kernel_rfl)) .nil)) ⟨congrArg Ending.returned (by kernel_rfl), hs.none⟩)
    · refine wpS.take 1 false (some 20) (.bool false) (by kernel_rfl) (yld_b (df hc) (fun _ => by kernel_rfl)) ?_
      refine wpS.take 2 false (some 18) (.bool false) (by kernel_rfl) (yld fun _ => by kernel_rfl) ?_
      refine wpS.fin rfl (kr10 _ _ ?_)
      refine then_n (ks9 _ _ ?_)
      refine wp_cond_f (by kernel_rfl) ?_
      refine xseq_k fun KS13 ks13 => ?_
      refine wp_regS (l := [0, 1]) (by kernel_rfl) (by kernel_rfl) fun KR14 kr14 => ?_
      refine wpS.take 0 false (some 11) (.int .i32 x2) (by kernel_rfl) (yld fun _ => by kernel_rfl) ?_
      refine wpS.take 1 false (some 4) (.int .i32 x2) (by kernel_rfl) (yld fun _ => by kernel_rfl) ?_
      refine wpS.fin rfl (kr14 _ _ ?_)
      refine then_n (ks13 _ _ ?_)
      refine xret ?_
      refine inBlock_r ?_
      have q0 := of_some h
      subst q0
      exact qq _ _ (post_ret (by kernel_rfl) (run_results [.tmp 4] [.int .i32 x2] (by kernel_rfl) (.cons (res_tmp (by kernel_rfl)) .nil)) ⟨congrArg Ending.returned (by kernel_rfl), hs.none⟩)
end Go.Proofs.Ytblploekkjeolaa
