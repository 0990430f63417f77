/- Printed by this work's own program: the code of each function below comes to the answer that its plain form tells. -/
import Derived.Test.YtblploekkjeolaaMv
import Derived.Test.YtblploekkjeolaaProg
import Derived.Test.YtblploekkjeolaaDF0
set_option linter.unusedVariables false
set_option linter.unusedSimpArgs false
set_option maxRecDepth 100000
set_option maxHeartbeats 4000000
namespace Go.Proofs.Ytblploekkjeolaa
open Go.Mx
attribute [local irreducible] wpOp

theorem ref22_Set.ok {K : Nat} {a0 : Int} {r0_0 : Int} {r0_1 : Int} {r0_2 : Int} {r0_3 : Int} {r0_4 : Int} {r0_5 : Int} {r0_6 : Int} {r0_7 : Int} {r1 : Bool} (h : ref22_Set.f K a0 = some (r0_0, r0_1, r0_2, r0_3, r0_4, r0_5, r0_6, r0_7, r1)) (w0 : World) : Ret Try.prog 17 #[.int .i64 a0] w0 (.tuple #[.agg #[.int .i64 r0_0, .int .i64 r0_1, .int .i32 r0_2, .int .i64 r0_3, .int .i32 r0_4, .int .i32 r0_5, .int .i64 r0_6, .int .i64 r0_7], .bool r1]) := by
 refine calls_k Try.func17 rfl fun Q qq => ?_
 have hs := St.start w0
 refine wp_conv (a' := ⟨#[.int .i64 a0, undef, undef, undef, undef, undef, undef, undef, undef, undef, undef, undef, undef, undef, undef], []⟩) (by kernel_rfl) ?_
 refine xseq_k fun KS1 ks1 => ?_
 refine wp_regS (l := [0, 1]) (by kernel_rfl) (by kernel_rfl) fun KR2 kr2 => ?_
 refine wpS.only 0 (op_alloc (t := 23) (d := (some 2)) (by kernel_rfl) hs ([.int .i64 0, .int .i64 0, .int .i32 0, .int .i64 0, .int .i32 0, .int .i32 0, .int .i64 0, .int .i64 0]) (.agg #[.int .i64 0, .int .i64 0, .int .i32 0, .int .i64 0, .int .i32 0, .int .i32 0, .int .i64 0, .int .i64 0]) (by kernel_rfl) (by kernel_rfl) (by kernel_rfl) ?_)
 intro b1 w gw hs
 refine ⟨fun _ => trivial, ?_⟩
 refine wpS.p 1 3 (.bool false) (by kernel_rfl) ?_
 refine wpS.fin rfl (kr2 _ _ ?_)
 refine then_n (ks1 _ _ ?_)
 refine xseq_k fun KS3 ks3 => ?_
 refine xseq_k fun KS4 ks4 => ?_
 refine wp_regS (l := [0]) (by kernel_rfl) (by kernel_rfl) fun KR5 kr5 => ?_
 refine wpS.p 0 4 (.int .i64 a0) (by kernel_rfl) ?_
 refine wpS.fin rfl (kr5 _ _ ?_)
 refine then_n (ks4 _ _ ?_)
 refine xblock ?_
 refine xseq_k fun KS6 ks6 => ?_
 refine wp_regS (l := [0, 1]) (by kernel_rfl) (by kernel_rfl) fun KR7 kr7 => ?_
 rcases of_if h with ⟨hc, h⟩ | ⟨hc, h⟩
 ·refine wpS.take 0 false (some 6) (.bool true) (by kernel_rfl) (yld_b (et hc) (fun _ => by kernel_rfl)) ?_
  refine wpS.p 1 5 (.bool true) (by kernel_rfl) ?_
  refine wpS.fin rfl (kr7 _ _ ?_)
  refine then_n (ks6 _ _ ?_)
  refine wp_cond_t (by kernel_rfl) ?_
  refine xseq_k fun KS8 ks8 => ?_
  refine wp_regS (l := [0, 1, 2]) (by kernel_rfl) (by kernel_rfl) fun KR9 kr9 => ?_
  refine wpS.p 0 7 (.agg #[.int .i64 4, .int .i64 4, .int .i32 2, .int .i64 39, .int .i32 131072, .int .i32 95232, .int .i64 80, .int .i64 32]) (by kernel_rfl) ?_
  refine wpS.only 1 (op_storeW (t := 23) (v := .agg #[.int .i64 4, .int .i64 4, .int .i32 2, .int .i64 39, .int .i32 131072, .int .i32 95232, .int .i64 80, .int .i64 32]) (d := none) (by kernel_rfl) hs 0 rfl (vs := [.int .i64 4, .int .i64 4, .int .i32 2, .int .i64 39, .int .i32 131072, .int .i32 95232, .int .i64 80, .int .i64 32]) (n := 8) (by kernel_rfl) (by kernel_rfl) (by kernel_rfl) (by simp [enc_len]) (by simp [enc_len]) (by simp [Value.oneCell']) ?_)
  intro w kp hs
  refine ⟨fun _ => trivial, ?_⟩
  refine wpS.p 2 3 (.bool true) (by kernel_rfl) ?_
  refine wpS.fin rfl (kr9 _ _ ?_)
  refine then_n (ks8 _ _ ?_)
  refine xret ?_
  refine inBlock_r ?_
  refine then_r ?_
  obtain ⟨q0, qr0⟩ := Prod.mk.inj (of_some h)
  obtain ⟨q1, qr1⟩ := Prod.mk.inj (qr0)
  obtain ⟨q2, qr2⟩ := Prod.mk.inj (qr1)
  obtain ⟨q3, qr3⟩ := Prod.mk.inj (qr2)
  obtain ⟨q4, qr4⟩ := Prod.mk.inj (qr3)
  obtain ⟨q5, qr5⟩ := Prod.mk.inj (qr4)
  obtain ⟨q6, qr6⟩ := Prod.mk.inj (qr5)
  obtain ⟨q7, qr7⟩ := Prod.mk.inj (qr6)
  have q8 := qr7
  subst q0
  subst q1
  subst q2
  subst q3
  subst q4
  subst q5
  subst q6
  subst q7
  subst q8
  exact qq _ _ (post_ret (by kernel_rfl) (run_results [.cell 2 23, .tmp 3] [.agg #[.int .i64 4, .int .i64 4, .int .i32 2, .int .i64 39, .int .i32 131072, .int .i32 95232, .int .i64 80, .int .i64 32], .bool true] (by kernel_rfl) (.cons (res_cellN (n := 8) hs 0 rfl (by kernel_rfl) (by kernel_rfl) (by kernel_rfl) (by simp [enc_len])) (.cons (res_tmp (by kernel_rfl)) .nil))) ⟨congrArg Ending.returned (by kernel_rfl), hs.none⟩)
 ·refine wpS.take 0 false (some 6) (.bool false) (by kernel_rfl) (yld_b (ef hc) (fun _ => by kernel_rfl)) ?_
  refine wpS.p 1 5 (.bool false) (by kernel_rfl) ?_
  refine wpS.fin rfl (kr7 _ _ ?_)
  refine then_n (ks6 _ _ ?_)
  refine wp_cond_f (by kernel_rfl) ?_
  refine xseq_k fun KS10 ks10 => ?_
  refine wp_regS (l := [0, 1]) (by kernel_rfl) (by kernel_rfl) fun KR11 kr11 => ?_
  rcases of_if h with ⟨hc, h⟩ | ⟨hc, h⟩
  ·refine wpS.take 0 false (some 9) (.bool true) (by kernel_rfl) (yld_b (et hc) (fun _ => by kernel_rfl)) ?_
   refine wpS.p 1 8 (.bool true) (by kernel_rfl) ?_
   refine wpS.fin rfl (kr11 _ _ ?_)
   refine then_n (ks10 _ _ ?_)
   refine wp_cond_t (by kernel_rfl) ?_
   refine xseq_k fun KS12 ks12 => ?_
   refine wp_regS (l := [0, 1, 2]) (by kernel_rfl) (by kernel_rfl) fun KR13 kr13 => ?_
   refine wpS.p 0 10 (.agg #[.int .i64 6, .int .i64 5, .int .i32 4, .int .i64 49, .int .i32 524288, .int .i32 261888, .int .i64 55, .int .i64 48]) (by kernel_rfl) ?_
   refine wpS.only 1 (op_storeW (t := 23) (v := .agg #[.int .i64 6, .int .i64 5, .int .i32 4, .int .i64 49, .int .i32 524288, .int .i32 261888, .int .i64 55, .int .i64 48]) (d := none) (by kernel_rfl) hs 0 rfl (vs := [.int .i64 6, .int .i64 5, .int .i32 4, .int .i64 49, .int .i32 524288, .int .i32 261888, .int .i64 55, .int .i64 48]) (n := 8) (by kernel_rfl) (by kernel_rfl) (by kernel_rfl) (by simp [enc_len]) (by simp [enc_len]) (by simp [Value.oneCell']) ?_)
   intro w kp hs
   refine ⟨fun _ => trivial, ?_⟩
   refine wpS.p 2 3 (.bool true) (by kernel_rfl) ?_
   refine wpS.fin rfl (kr13 _ _ ?_)
   refine then_n (ks12 _ _ ?_)
   refine xret ?_
   refine inBlock_r ?_
   refine then_r ?_
   obtain ⟨q0, qr0⟩ := Prod.mk.inj (of_some h)
   obtain ⟨q1, qr1⟩ := Prod.mk.inj (qr0)
   obtain ⟨q2, qr2⟩ := Prod.mk.inj (qr1)
   obtain ⟨q3, qr3⟩ := Prod.mk.inj (qr2)
   obtain ⟨q4, qr4⟩ := Prod.mk.inj (qr3)
   obtain ⟨q5, qr5⟩ := Prod.mk.inj (qr4)
   obtain ⟨q6, qr6⟩ := Prod.mk.inj (qr5)
   obtain ⟨q7, qr7⟩ := Prod.mk.inj (qr6)
   have q8 := qr7
   subst q0
   subst q1
   subst q2
   subst q3
   subst q4
   subst q5
   subst q6
   subst q7
   subst q8
   exact qq _ _ (post_ret (by kernel_rfl) (run_results [.cell 2 23, .tmp 3] [.agg #[.int .i64 6, .int .i64 5, .int .i32 4, .int .i64 49, .int .i32 524288, .int .i32 261888, .int .i64 55, .int .i64 48], .bool true] (by kernel_rfl) (.cons (res_cellN (n := 8) hs 0 rfl (by kernel_rfl) (by kernel_rfl) (by kernel_rfl) (by simp [enc_len])) (.cons (res_tmp (by kernel_rfl)) .nil))) ⟨congrArg Ending.returned (by kernel_rfl), hs.none⟩)
  ·refine wpS.take 0 false (some 9) (.bool false) (by kernel_rfl) (yld_b (ef hc) (fun _ => by kernel_rfl)) ?_
   refine wpS.p 1 8 (.bool false) (by kernel_rfl) ?_
   refine wpS.fin rfl (kr11 _ _ ?_)
   refine then_n (ks10 _ _ ?_)
   refine wp_cond_f (by kernel_rfl) ?_
   refine xseq_k fun KS14 ks14 => ?_
   refine wp_regS (l := [0, 1]) (by kernel_rfl) (by kernel_rfl) fun KR15 kr15 => ?_
   rcases of_if h with ⟨hc, h⟩ | ⟨hc, h⟩
   ·refine wpS.take 0 false (some 12) (.bool true) (by kernel_rfl) (yld_b (et hc) (fun _ => by kernel_rfl)) ?_
    refine wpS.p 1 11 (.bool true) (by kernel_rfl) ?_
    refine wpS.fin rfl (kr15 _ _ ?_)
    refine then_n (ks14 _ _ ?_)
    refine wp_cond_t (by kernel_rfl) ?_
    refine xseq_k fun KS16 ks16 => ?_
    refine wp_regS (l := [0, 1, 2]) (by kernel_rfl) (by kernel_rfl) fun KR17 kr17 => ?_
    refine wpS.p 0 13 (.agg #[.int .i64 8, .int .i64 7, .int .i32 2, .int .i64 60, .int .i32 524288, .int .i32 261888, .int .i64 75, .int .i64 64]) (by kernel_rfl) ?_
    refine wpS.only 1 (op_storeW (t := 23) (v := .agg #[.int .i64 8, .int .i64 7, .int .i32 2, .int .i64 60, .int .i32 524288, .int .i32 261888, .int .i64 75, .int .i64 64]) (d := none) (by kernel_rfl) hs 0 rfl (vs := [.int .i64 8, .int .i64 7, .int .i32 2, .int .i64 60, .int .i32 524288, .int .i32 261888, .int .i64 75, .int .i64 64]) (n := 8) (by kernel_rfl) (by kernel_rfl) (by kernel_rfl) (by simp [enc_len]) (by simp [enc_len]) (by simp [Value.oneCell']) ?_)
    intro w kp hs
    refine ⟨fun _ => trivial, ?_⟩
    refine wpS.p 2 3 (.bool true) (by kernel_rfl) ?_
    refine wpS.fin rfl (kr17 _ _ ?_)
    refine then_n (ks16 _ _ ?_)
    refine xret ?_
    refine inBlock_r ?_
    refine then_r ?_
    obtain ⟨q0, qr0⟩ := Prod.mk.inj (of_some h)
    obtain ⟨q1, qr1⟩ := Prod.mk.inj (qr0)
    obtain ⟨q2, qr2⟩ := Prod.mk.inj (qr1)
    obtain ⟨q3, qr3⟩ := Prod.mk.inj (qr2)
    obtain ⟨q4, qr4⟩ := Prod.mk.inj (qr3)
    obtain ⟨q5, qr5⟩ := Prod.mk.inj (qr4)
    obtain ⟨q6, qr6⟩ := Prod.mk.inj (qr5)
    obtain ⟨q7, qr7⟩ := Prod.mk.inj (qr6)
    have q8 := qr7
    subst q0
    subst q1
    subst q2
    subst q3
    subst q4
    subst q5
    subst q6
    subst q7
    subst q8
    exact qq _ _ (post_ret (by kernel_rfl) (run_results [.cell 2 23, .tmp 3] [.agg #[.int .i64 8, .int .i64 7, .int .i32 2, .int .i64 60, .int .i32 524288, .int .i32 261888, .int .i64 75, .int .i64 64], .bool true] (by kernel_rfl) (.cons (res_cellN (n := 8) hs 0 rfl (by kernel_rfl) (by kernel_rfl) (by kernel_rfl) (by simp [enc_len])) (.cons (res_tmp (by kernel_rfl)) .nil))) ⟨congrArg Ending.returned (by kernel_rfl), hs.none⟩)
   ·refine wpS.take 0 false (some 12) (.bool false) (by kernel_rfl) (yld_b (ef hc) (fun _ => by kernel_rfl)) ?_
    refine wpS.p 1 11 (.bool false) (by kernel_rfl) ?_
    refine wpS.fin rfl (kr15 _ _ ?_)
    refine then_n (ks14 _ _ ?_)
    refine wp_cond_f (by kernel_rfl) ?_
    refine xskip ?_
    refine inBlock_n ?_
    refine then_n (ks3 _ _ ?_)
    refine xseq_k fun KS18 ks18 => ?_
    refine wp_regS (l := [0, 1, 2]) (by kernel_rfl) (by kernel_rfl) fun KR19 kr19 => ?_
    refine wpS.p 0 14 (.agg #[.int .i64 0, .int .i64 0, .int .i32 0, .int .i64 0, .int .i32 0, .int .i32 0, .int .i64 0, .int .i64 0]) (by kernel_rfl) ?_
    refine wpS.only 1 (op_storeW (t := 23) (v := .agg #[.int .i64 0, .int .i64 0, .int .i32 0, .int .i64 0, .int .i32 0, .int .i32 0, .int .i64 0, .int .i64 0]) (d := none) (by kernel_rfl) hs 0 rfl (vs := [.int .i64 0, .int .i64 0, .int .i32 0, .int .i64 0, .int .i32 0, .int .i32 0, .int .i64 0, .int .i64 0]) (n := 8) (by kernel_rfl) (by kernel_rfl) (by kernel_rfl) (by simp [enc_len]) (by simp [enc_len]) (by simp [Value.oneCell']) ?_)
    intro w kp hs
    refine ⟨fun _ => trivial, ?_⟩
    refine wpS.p 2 3 (.bool false) (by kernel_rfl) ?_
    refine wpS.fin rfl (kr19 _ _ ?_)
    refine then_n (ks18 _ _ ?_)
    refine xret ?_
    obtain ⟨q0, qr0⟩ := Prod.mk.inj (of_some h)
    obtain ⟨q1, qr1⟩ := Prod.mk.inj (qr0)
    obtain ⟨q2, qr2⟩ := Prod.mk.inj (qr1)
    obtain ⟨q3, qr3⟩ := Prod.mk.inj (qr2)
    obtain ⟨q4, qr4⟩ := Prod.mk.inj (qr3)
    obtain ⟨q5, qr5⟩ := Prod.mk.inj (qr4)
    obtain ⟨q6, qr6⟩ := Prod.mk.inj (qr5)
    obtain ⟨q7, qr7⟩ := Prod.mk.inj (qr6)
    have q8 := qr7
    subst q0
    subst q1
    subst q2
    subst q3
    subst q4
    subst q5
    subst q6
    subst q7
    subst q8
    exact qq _ _ (post_ret (by kernel_rfl) (run_results [.cell 2 23, .tmp 3] [.agg #[.int .i64 0, .int .i64 0, .int .i32 0, .int .i64 0, .int .i32 0, .int .i32 0, .int .i64 0, .int .i64 0], .bool false] (by kernel_rfl) (.cons (res_cellN (n := 8) hs 0 rfl (by kernel_rfl) (by kernel_rfl) (by kernel_rfl) (by simp [enc_len])) (.cons (res_tmp (by kernel_rfl)) .nil))) ⟨congrArg Ending.returned (by kernel_rfl), hs.none⟩)

theorem law22_kind.ok {K : Nat} {a0 : Int} {a1_0 : Int} {a1_1 : Int} {a1_2 : Int} {a1_3 : Int} {a1_4 : Int} {a1_5 : Int} {a1_6 : Int} {a1_7 : Int} {r0_0 : Int} {r0_1 : Int} {r0_2 : Int} {r0_3 : Int} {r0_4 : Int} {r0_5 : Int} {r0_6 : Int} {r0_7 : Int} (h : law22_kind.f K a0 a1_0 a1_1 a1_2 a1_3 a1_4 a1_5 a1_6 a1_7 = some (r0_0, r0_1, r0_2, r0_3, r0_4, r0_5, r0_6, r0_7)) (w0 : World) : Ret Try.prog 7 #[.int .u8 a0, .agg #[.int .i64 a1_0, .int .i64 a1_1, .int .i32 a1_2, .int .i64 a1_3, .int .i32 a1_4, .int .i32 a1_5, .int .i64 a1_6, .int .i64 a1_7]] w0 (.agg #[.int .i64 r0_0, .int .i64 r0_1, .int .i32 r0_2, .int .i64 r0_3, .int .i32 r0_4, .int .i32 r0_5, .int .i64 r0_6, .int .i64 r0_7]) := by
 refine calls_k Try.func7 rfl fun Q qq => ?_
 have hs := St.start w0
 refine wp_conv (a' := ⟨#[.int .u8 a0, .agg #[.int .i64 a1_0, .int .i64 a1_1, .int .i32 a1_2, .int .i64 a1_3, .int .i32 a1_4, .int .i32 a1_5, .int .i64 a1_6, .int .i64 a1_7], undef, undef, undef, undef, undef, undef, undef, undef, undef, undef, undef, undef, undef, undef, undef, undef, undef, undef], []⟩) (by kernel_rfl) ?_
 refine xseq_k fun KS1 ks1 => ?_
 refine wp_regS (l := [0, 1]) (by kernel_rfl) (by kernel_rfl) fun KR2 kr2 => ?_
 refine wpS.only 0 (op_box (t := 23) (v := .agg #[.int .i64 a1_0, .int .i64 a1_1, .int .i32 a1_2, .int .i64 a1_3, .int .i32 a1_4, .int .i32 a1_5, .int .i64 a1_6, .int .i64 a1_7]) (d := (some 3)) (by kernel_rfl) hs ([.int .i64 a1_0, .int .i64 a1_1, .int .i32 a1_2, .int .i64 a1_3, .int .i32 a1_4, .int .i32 a1_5, .int .i64 a1_6, .int .i64 a1_7]) (by kernel_rfl) (by kernel_rfl) ?_)
 intro b1 w gw hs
 refine ⟨fun _ => trivial, ?_⟩
 refine wpS.only 1 (op_alloc (t := 23) (d := (some 4)) (by kernel_rfl) hs ([.int .i64 0, .int .i64 0, .int .i32 0, .int .i64 0, .int .i32 0, .int .i32 0, .int .i64 0, .int .i64 0]) (.agg #[.int .i64 0, .int .i64 0, .int .i32 0, .int .i64 0, .int .i32 0, .int .i32 0, .int .i64 0, .int .i64 0]) (by kernel_rfl) (by kernel_rfl) (by kernel_rfl) ?_)
 intro b2 w gw hs
 refine ⟨fun _ => trivial, ?_⟩
 refine wpS.fin rfl (kr2 _ _ ?_)
 refine then_n (ks1 _ _ ?_)
 refine xseq_k fun KS3 ks3 => ?_
 refine wp_regS (l := [0, 1, 2, 3, 4, 5, 6, 7, 8, 9, 10, 11]) (by kernel_rfl) (by kernel_rfl) fun KR4 kr4 => ?_
 refine wpS.only 0 (op_lit (C := (CI .i64)) (t := 66) (e := 3) (len := 4) (parts := #[(0, .int .i64 44), (1, .int .i64 65), (2, .int .i64 87), (3, .int .i64 0)]) (l := [44, 65, 87, 0]) (d := (some 8)) (by kernel_rfl) hs (by kernel_rfl) (by kernel_rfl) (by kernel_rfl) (z := .int .i64 0) (by kernel_rfl) rfl (by decide) (by decide) (by kernel_rfl) ?_)
 intro s3_A s3_n s3_c w gw hs
 refine ⟨fun _ => trivial, ?_⟩
 refine wpS.ps [(1, 9, .int .u8 a0), (2, 10, .int .u8 (irem .u8 a0 4))] (by kernel_rfl) ?_
 obtain ⟨x4, hx, h⟩ := of_bind h
 have hx := of_some hx
 subst hx
 obtain ⟨h0, h⟩ := of_chk h
 obtain ⟨h1, h⟩ := of_chk h
 have i0_5 := h0
 have i1_5 := h1
 refine wpS.take 3 false (some 11) (.pointer (adr s3_A (((irem .u8 a0 4) : Int).toNat * Cod.size (CI .i64)))) (by kernel_rfl) (yld_idxL (C := (CI .i64)) (t := 66) (e := 3) (k := .u8) (x := (irem .u8 a0 4)) (hs.rowL 0 rfl) (by kernel_rfl) (by kernel_rfl) (by kernel_rfl) h0 h1) ?_
 refine wpS.take 4 true (some 12) (.int .i64 (rdL (CI .i64) ([44, 65, 87, 0] : List Int) (irem .u8 a0 4))) (by kernel_rfl) (yld_loadL (C := (CI .i64)) (e := 3) (x := (irem .u8 a0 4)) (hs.rowL 0 rfl) (by kernel_rfl) rfl (by kernel_rfl) i0_5 i1_5) ?_
 obtain ⟨⟨r5_0, r5_1, r5_2, r5_3, r5_4, r5_5, r5_6, r5_7, r6⟩, hg, h⟩ := of_bind h
 refine wpS.only 5 (op_call (d := (some 13)) (by kernel_rfl) hs (fun _ => by kernel_rfl) (ref22_Set.ok hg _) ?_)
 intro w gw hs
 refine ⟨fun _ => trivial, ?_⟩
 refine wpS.ps [(6, 7, .tuple #[.agg #[.int .i64 r5_0, .int .i64 r5_1, .int .i32 r5_2, .int .i64 r5_3, .int .i32 r5_4, .int .i32 r5_5, .int .i64 r5_6, .int .i64 r5_7], .bool r6]), (7, 14, .agg #[.int .i64 r5_0, .int .i64 r5_1, .int .i32 r5_2, .int .i64 r5_3, .int .i32 r5_4, .int .i32 r5_5, .int .i64 r5_6, .int .i64 r5_7])] (by kernel_rfl) ?_
 cases r6 with
 | true =>
  have h := of_if_t h
  refine wpS.p 8 15 (.bool true) (by kernel_rfl) ?_
  refine wpS.only 9 (op_alloc (t := 23) (d := (some 5)) (by kernel_rfl) hs ([.int .i64 0, .int .i64 0, .int .i32 0, .int .i64 0, .int .i32 0, .int .i32 0, .int .i64 0, .int .i64 0]) (.agg #[.int .i64 0, .int .i64 0, .int .i32 0, .int .i64 0, .int .i32 0, .int .i32 0, .int .i64 0, .int .i64 0]) (by kernel_rfl) (by kernel_rfl) (by kernel_rfl) ?_)
  intro b7 w gw hs
  refine ⟨fun _ => trivial, ?_⟩
  refine wpS.only 10 (op_storeW (t := 23) (v := .agg #[.int .i64 r5_0, .int .i64 r5_1, .int .i32 r5_2, .int .i64 r5_3, .int .i32 r5_4, .int .i32 r5_5, .int .i64 r5_6, .int .i64 r5_7]) (d := none) (by kernel_rfl) hs 0 rfl (vs := [.int .i64 r5_0, .int .i64 r5_1, .int .i32 r5_2, .int .i64 r5_3, .int .i32 r5_4, .int .i32 r5_5, .int .i64 r5_6, .int .i64 r5_7]) (n := 8) (by kernel_rfl) (by kernel_rfl) (by kernel_rfl) (by simp [enc_len]) (by simp [enc_len]) (by simp [Value.oneCell']) ?_)
  intro w kp hs
  refine ⟨fun _ => trivial, ?_⟩
  refine wpS.p 11 6 (.bool true) (by kernel_rfl) ?_
  refine wpS.fin rfl (kr4 _ _ ?_)
  refine then_n (ks3 _ _ ?_)
  refine xseq_k fun KS6 ks6 => ?_
  refine xseq_k fun KS7 ks7 => ?_
  refine wp_regS (l := [0, 1]) (by kernel_rfl) (by kernel_rfl) fun KR8 kr8 => ?_
  refine wpS.ps [(0, 16, .bool true), (1, 17, .bool false)] (by kernel_rfl) ?_
  refine wpS.fin rfl (kr8 _ _ ?_)
  refine then_n (ks7 _ _ ?_)
  refine wp_cond_f (by kernel_rfl) ?_
  refine xskip ?_
  refine then_n (ks6 _ _ ?_)
  refine xseq_k fun KS9 ks9 => ?_
  refine wp_regS (l := [0, 1]) (by kernel_rfl) (by kernel_rfl) fun KR10 kr10 => ?_
  refine wpS.take 0 true (some 19) (.agg #[.int .i64 r5_0, .int .i64 r5_1, .int .i32 r5_2, .int .i64 r5_3, .int .i32 r5_4, .int .i32 r5_5, .int .i64 r5_6, .int .i64 r5_7]) (by kernel_rfl) (yld_loadW (e := 23) (n := 8) hs 0 rfl (by kernel_rfl) (by kernel_rfl) (by kernel_rfl) (by simp [enc_len]) .grow) ?_
  refine wpS.only 1 (op_storeW (t := 23) (v := .agg #[.int .i64 r5_0, .int .i64 r5_1, .int .i32 r5_2, .int .i64 r5_3, .int .i32 r5_4, .int .i32 r5_5, .int .i64 r5_6, .int .i64 r5_7]) (d := none) (by kernel_rfl) hs 2 rfl (vs := [.int .i64 r5_0, .int .i64 r5_1, .int .i32 r5_2, .int .i64 r5_3, .int .i32 r5_4, .int .i32 r5_5, .int .i64 r5_6, .int .i64 r5_7]) (n := 8) (by kernel_rfl) (by kernel_rfl) (by kernel_rfl) (by simp [enc_len]) (by simp [enc_len]) (by simp [Value.oneCell']) ?_)
  intro w kp hs
  refine ⟨fun _ => trivial, ?_⟩
  refine wpS.fin rfl (kr10 _ _ ?_)
  refine then_n (ks9 _ _ ?_)
  refine xret ?_
  obtain ⟨q0, qr0⟩ := Prod.mk.inj (of_some h)
  obtain ⟨q1, qr1⟩ := Prod.mk.inj (qr0)
  obtain ⟨q2, qr2⟩ := Prod.mk.inj (qr1)
  obtain ⟨q3, qr3⟩ := Prod.mk.inj (qr2)
  obtain ⟨q4, qr4⟩ := Prod.mk.inj (qr3)
  obtain ⟨q5, qr5⟩ := Prod.mk.inj (qr4)
  obtain ⟨q6, qr6⟩ := Prod.mk.inj (qr5)
  have q7 := qr6
  subst q0
  subst q1
  subst q2
  subst q3
  subst q4
  subst q5
  subst q6
  subst q7
  exact qq _ _ (post_ret (by kernel_rfl) (run_results [.cell 4 23] [.agg #[.int .i64 r5_0, .int .i64 r5_1, .int .i32 r5_2, .int .i64 r5_3, .int .i32 r5_4, .int .i32 r5_5, .int .i64 r5_6, .int .i64 r5_7]] (by kernel_rfl) (.cons (res_cellN (n := 8) hs 2 rfl (by kernel_rfl) (by kernel_rfl) (by kernel_rfl) (by simp [enc_len])) .nil)) ⟨congrArg Ending.returned (by kernel_rfl), hs.none⟩)
 | false =>
  have h := of_if_f h
  refine wpS.p 8 15 (.bool false) (by kernel_rfl) ?_
  refine wpS.only 9 (op_alloc (t := 23) (d := (some 5)) (by kernel_rfl) hs ([.int .i64 0, .int .i64 0, .int .i32 0, .int .i64 0, .int .i32 0, .int .i32 0, .int .i64 0, .int .i64 0]) (.agg #[.int .i64 0, .int .i64 0, .int .i32 0, .int .i64 0, .int .i32 0, .int .i32 0, .int .i64 0, .int .i64 0]) (by kernel_rfl) (by kernel_rfl) (by kernel_rfl) ?_)
  intro b8 w gw hs
  refine ⟨fun _ => trivial, ?_⟩
  refine wpS.only 10 (op_storeW (t := 23) (v := .agg #[.int .i64 r5_0, .int .i64 r5_1, .int .i32 r5_2, .int .i64 r5_3, .int .i32 r5_4, .int .i32 r5_5, .int .i64 r5_6, .int .i64 r5_7]) (d := none) (by kernel_rfl) hs 0 rfl (vs := [.int .i64 r5_0, .int .i64 r5_1, .int .i32 r5_2, .int .i64 r5_3, .int .i32 r5_4, .int .i32 r5_5, .int .i64 r5_6, .int .i64 r5_7]) (n := 8) (by kernel_rfl) (by kernel_rfl) (by kernel_rfl) (by simp [enc_len]) (by simp [enc_len]) (by simp [Value.oneCell']) ?_)
  intro w kp hs
  refine ⟨fun _ => trivial, ?_⟩
  refine wpS.p 11 6 (.bool false) (by kernel_rfl) ?_
  refine wpS.fin rfl (kr4 _ _ ?_)
  refine then_n (ks3 _ _ ?_)
  refine xseq_k fun KS11 ks11 => ?_
  refine xseq_k fun KS12 ks12 => ?_
  refine wp_regS (l := [0, 1]) (by kernel_rfl) (by kernel_rfl) fun KR13 kr13 => ?_
  refine wpS.ps [(0, 16, .bool false), (1, 17, .bool true)] (by kernel_rfl) ?_
  refine wpS.fin rfl (kr13 _ _ ?_)
  refine then_n (ks12 _ _ ?_)
  refine wp_cond_t (by kernel_rfl) ?_
  refine xseq_k fun KS14 ks14 => ?_
  refine wp_regS (l := [0, 1]) (by kernel_rfl) (by kernel_rfl) fun KR15 kr15 => ?_
  refine wpS.take 0 true (some 18) (.agg #[.int .i64 a1_0, .int .i64 a1_1, .int .i32 a1_2, .int .i64 a1_3, .int .i32 a1_4, .int .i32 a1_5, .int .i64 a1_6, .int .i64 a1_7]) (by kernel_rfl) (yld_loadW (e := 23) (n := 8) hs 3 rfl (by kernel_rfl) (by kernel_rfl) (by kernel_rfl) (by simp [enc_len]) .grow) ?_
  refine wpS.only 1 (op_storeW (t := 23) (v := .agg #[.int .i64 a1_0, .int .i64 a1_1, .int .i32 a1_2, .int .i64 a1_3, .int .i32 a1_4, .int .i32 a1_5, .int .i64 a1_6, .int .i64 a1_7]) (d := none) (by kernel_rfl) hs 2 rfl (vs := [.int .i64 a1_0, .int .i64 a1_1, .int .i32 a1_2, .int .i64 a1_3, .int .i32 a1_4, .int .i32 a1_5, .int .i64 a1_6, .int .i64 a1_7]) (n := 8) (by kernel_rfl) (by kernel_rfl) (by kernel_rfl) (by simp [enc_len]) (by simp [enc_len]) (by simp [Value.oneCell']) ?_)
  intro w kp hs
  refine ⟨fun _ => trivial, ?_⟩
  refine wpS.fin rfl (kr15 _ _ ?_)
  refine then_n (ks14 _ _ ?_)
  refine xret ?_
  refine then_r ?_
  obtain ⟨q0, qr0⟩ := Prod.mk.inj (of_some h)
  obtain ⟨q1, qr1⟩ := Prod.mk.inj (qr0)
  obtain ⟨q2, qr2⟩ := Prod.mk.inj (qr1)
  obtain ⟨q3, qr3⟩ := Prod.mk.inj (qr2)
  obtain ⟨q4, qr4⟩ := Prod.mk.inj (qr3)
  obtain ⟨q5, qr5⟩ := Prod.mk.inj (qr4)
  obtain ⟨q6, qr6⟩ := Prod.mk.inj (qr5)
  have q7 := qr6
  subst q0
  subst q1
  subst q2
  subst q3
  subst q4
  subst q5
  subst q6
  subst q7
  exact qq _ _ (post_ret (by kernel_rfl) (run_results [.cell 4 23] [.agg #[.int .i64 a1_0, .int .i64 a1_1, .int .i32 a1_2, .int .i64 a1_3, .int .i32 a1_4, .int .i32 a1_5, .int .i64 a1_6, .int .i64 a1_7]] (by kernel_rfl) (.cons (res_cellN (n := 8) hs 2 rfl (by kernel_rfl) (by kernel_rfl) (by kernel_rfl) (by simp [enc_len])) .nil)) ⟨congrArg Ending.returned (by kernel_rfl), hs.none⟩)

theorem ref01_Same.ok {K : Nat} {a0 : List Int} {a1 : List Int} {r0 : Bool} {a0_A : Option Addr} {a0_n : Nat} {a0_c : Nat} {a1_A : Option Addr} {a1_n : Nat} {a1_c : Nat} (h : ref01_Same.f K a0 a1 = some r0) (w0 : World) (hp0 : RowL (CI .u8) w0 a0_A a0_n a0_c a0) (hp1 : RowL (CI .u8) w0 a1_A a1_n a1_c a1) : Ret Try.prog 9 #[.slice a0_A a0_n a0_c, .slice a1_A a1_n a1_c] w0 (.bool r0) := by
 refine calls_k Try.func9 rfl fun Q qq => ?_
 have hs := St.startR (all_cons (RowP.ent hp0) (all_cons (RowP.ent hp1) all_nil))
 refine wp_conv (a' := ⟨#[.slice a0_A a0_n a0_c, .slice a1_A a1_n a1_c, undef, undef, undef, undef, undef, undef, undef, undef, undef, undef, undef, undef, undef, undef, undef, undef, undef, undef, undef, undef, undef, undef, undef, undef], []⟩) (by kernel_rfl) ?_
 refine xseq_k fun KS1 ks1 => ?_
 refine wp_regS (l := [0]) (by kernel_rfl) (by kernel_rfl) fun KR2 kr2 => ?_
 refine wpS.p 0 4 (.bool false) (by kernel_rfl) ?_
 refine wpS.fin rfl (kr2 _ _ ?_)
 refine then_n (ks1 _ _ ?_)
 refine xseq_k fun KS3 ks3 => ?_
 refine xseq_k fun KS4 ks4 => ?_
 refine wp_regS (l := [0, 1, 2, 3, 4]) (by kernel_rfl) (by kernel_rfl) fun KR5 kr5 => ?_
 refine wpS.p 0 6 (.slice a0_A a0_n a0_c) (by kernel_rfl) ?_
 refine wpS.take 1 false (some 7) (.int .i64 (a0.length : Int)) (by kernel_rfl) (yld_lenL (hs.rowR 0 rfl) (fun _ => by kernel_rfl)) ?_
 refine wpS.p 2 8 (.slice a1_A a1_n a1_c) (by kernel_rfl) ?_
 refine wpS.take 3 false (some 9) (.int .i64 (a1.length : Int)) (by kernel_rfl) (yld_lenL (hs.rowR 1 rfl) (fun _ => by kernel_rfl)) ?_
 rcases of_if h with ⟨hc, h⟩ | ⟨hc, h⟩
 ·refine wpS.take 4 false (some 10) (.bool false) (by kernel_rfl) (yld_b (nf hc) (fun _ => by kernel_rfl)) ?_
  refine wpS.fin rfl (kr5 _ _ ?_)
  refine then_n (ks4 _ _ ?_)
  refine wp_cond_f (by kernel_rfl) ?_
  refine xskip ?_
  refine then_n (ks3 _ _ ?_)
  refine xseq_k fun KS6 ks6 => ?_
  refine xseq_k fun KS7 ks7 => ?_
  refine wp_regS (l := [0]) (by kernel_rfl) (by kernel_rfl) fun KR8 kr8 => ?_
  refine wpS.p 0 5 (.int .i64 0) (by kernel_rfl) ?_
  refine wpS.fin rfl (kr8 _ _ ?_)
  refine then_n (ks7 _ _ ?_)
  obtain ⟨t0, hy, hk0⟩ := of_bind h
  refine wp_exq (N := fun a w => t0 = .inl () ∧ St w0 [] [] [.rowL (CI .u8) a0_A a0_n a0_c a0, .rowL (CI .u8) a1_A a1_n a1_c a1] w ∧ ∃ g : Nat → Value, a = ⟨#[.slice a0_A a0_n a0_c, .slice a1_A a1_n a1_c, undef, undef, (g 4), (g 5), .slice a0_A a0_n a0_c, .int .i64 (a0.length : Int), .slice a1_A a1_n a1_c, .int .i64 (a1.length : Int), .bool false, (g 11), (g 12), (g 13), (g 14), (g 15), (g 16), (g 17), (g 18), (g 19), (g 20), (g 21), (g 22), (g 23), (g 24), (g 25)], []⟩) (fun N0 nn0 => ?_) ?_
  ·refine xblock ?_
   refine wp_loop_k (fun n a w => ∃ z1, ref01_Same.l0 K n a0 a1 z1 = some t0 ∧ St w0 [] [] [.rowL (CI .u8) a0_A a0_n a0_c a0, .rowL (CI .u8) a1_A a1_n a1_c a1] w ∧ ∃ g : Nat → Value, a = ⟨#[.slice a0_A a0_n a0_c, .slice a1_A a1_n a1_c, undef, undef, (g 4), .int .i64 z1, .slice a0_A a0_n a0_c, .int .i64 (a0.length : Int), .slice a1_A a1_n a1_c, .int .i64 (a1.length : Int), .bool false, (g 11), (g 12), (g 13), (g 14), (g 15), (g 16), (g 17), (g 18), (g 19), (g 20), (g 21), (g 22), (g 23), (g 24), (g 25)], []⟩) K ⟨0, hy, hs.conv rfl, exg (by kernel_rfl)⟩ ?_
   clear hs h hy
   rintro n a w ⟨z1, h, hs, g, rfl⟩ KL0 kl0
   cases n with
   | zero => exact nomatch (show none = some _ from h)
   | succ n =>
    refine xseq_k fun KS9 ks9 => ?_
    refine xseq_k fun KS10 ks10 => ?_
    refine wp_regS (l := [0, 1, 2, 3]) (by kernel_rfl) (by kernel_rfl) fun KR11 kr11 => ?_
    refine wpS.ps [(0, 11, .int .i64 z1), (1, 12, .slice a0_A a0_n a0_c)] (by kernel_rfl) ?_
    refine wpS.take 2 false (some 13) (.int .i64 (a0.length : Int)) (by kernel_rfl) (yld_lenL (hs.rowR 0 rfl) (fun _ => by kernel_rfl)) ?_
    rcases of_if h with ⟨hc, h⟩ | ⟨hc, h⟩
    ·refine wpS.take 3 false (some 14) (.bool true) (by kernel_rfl) (yld_b (dt hc) (fun _ => by kernel_rfl)) ?_
     refine wpS.fin rfl (kr11 _ _ ?_)
     refine then_n (ks10 _ _ ?_)
     refine wp_cond_t (by kernel_rfl) ?_
     refine xskip ?_
     refine then_n (ks9 _ _ ?_)
     refine xseq_k fun KS12 ks12 => ?_
     refine xblock ?_
     refine xseq_k fun KS13 ks13 => ?_
     refine wp_regG [] (fun k => True) 9 (by kernel_rfl) (by kernel_rfl) (by kernel_rfl) fun KR14 kr14 => ?_
     have hs := hs.drawn1
     refine wpG.takeD 0 false (some 17) (.slice a0_A a0_n a0_c) (by kernel_rfl) (by kernel_rfl) (yld fun _ => by kernel_rfl) ?_
     refine wpG.takeD 1 false (some 18) (.int .i64 z1) (by kernel_rfl) (by kernel_rfl) (yld fun _ => by kernel_rfl) ?_
     obtain ⟨h0, h⟩ := of_chk h
     obtain ⟨h1, h⟩ := of_chk h
     have i0_15 := h0
     have i1_15 := h1
     refine wpG.takeD 2 false (some 19) (.pointer (adr a0_A ((z1 : Int).toNat * Cod.size (CI .u8)))) (by kernel_rfl) (by kernel_rfl) (yld_idxL (C := (CI .u8)) (t := 24) (e := 5) (k := .i64) (x := z1) (hs.rowR 0 rfl) (by kernel_rfl) (by kernel_rfl) (by kernel_rfl) h0 h1) ?_
     refine wpG.takeD 3 true (some 20) (.int .u8 (rdL (CI .u8) a0 z1)) (by kernel_rfl) (by kernel_rfl) (yld_loadL (C := (CI .u8)) (e := 5) (x := z1) (hs.rowR 0 rfl) (by kernel_rfl) rfl (by kernel_rfl) i0_15 i1_15) ?_
     refine wpG.takeD 4 false (some 21) (.slice a1_A a1_n a1_c) (by kernel_rfl) (by kernel_rfl) (yld fun _ => by kernel_rfl) ?_
     refine wpG.takeD 5 false (some 22) (.int .i64 z1) (by kernel_rfl) (by kernel_rfl) (yld fun _ => by kernel_rfl) ?_
     obtain ⟨h0, h⟩ := of_chk h
     obtain ⟨h1, h⟩ := of_chk h
     have i0_16 := h0
     have i1_16 := h1
     refine wpG.takeD 6 false (some 23) (.pointer (adr a1_A ((z1 : Int).toNat * Cod.size (CI .u8)))) (by kernel_rfl) (by kernel_rfl) (yld_idxL (C := (CI .u8)) (t := 24) (e := 5) (k := .i64) (x := z1) (hs.rowR 1 rfl) (by kernel_rfl) (by kernel_rfl) (by kernel_rfl) h0 h1) ?_
     refine wpG.takeD 7 true (some 24) (.int .u8 (rdL (CI .u8) a1 z1)) (by kernel_rfl) (by kernel_rfl) (yld_loadL (C := (CI .u8)) (e := 5) (x := z1) (hs.rowR 1 rfl) (by kernel_rfl) rfl (by kernel_rfl) i0_16 i1_16) ?_
     rcases of_if h with ⟨hc, h⟩ | ⟨hc, h⟩
     ·refine wpG.takeD 8 false (some 25) (.bool false) (by kernel_rfl) (by kernel_rfl) (yld_b (nf hc) (fun _ => by kernel_rfl)) ?_
      refine wpG.fin (by kernel_rfl) rfl (kr14 _ _ ?_)
      refine then_n (ks13 _ _ ?_)
      refine wp_cond_f (by kernel_rfl) ?_
      refine xskip ?_
      refine inBlock_n ?_
      refine then_n (ks12 _ _ ?_)
      refine wp_regS (l := [0, 1, 2]) (by kernel_rfl) (by kernel_rfl) fun KR17 kr17 => ?_
      refine wpS.ps [(0, 15, .int .i64 z1), (1, 16, .int .i64 (iadd .i64 z1 1))] (by kernel_rfl) ?_
      obtain ⟨x2, hx, h⟩ := of_bind h
      refine wpS.take 2 false (some 5) (.int .i64 x2) (by kernel_rfl) (yld_int hx (fun _ => by kernel_rfl)) ?_
      refine wpS.fin rfl (kr17 _ _ ?_)
      exact then_n (kl0 _ _ ⟨n, Nat.lt_succ_self n, x2, h, (hs.conv rfl), exg (by kernel_rfl)⟩)
     ·refine wpG.takeD 8 false (some 25) (.bool true) (by kernel_rfl) (by kernel_rfl) (yld_b (nt hc) (fun _ => by kernel_rfl)) ?_
      refine wpG.fin (by kernel_rfl) rfl (kr14 _ _ ?_)
      refine then_n (ks13 _ _ ?_)
      refine wp_cond_t (by kernel_rfl) ?_
      refine xseq_k fun KS18 ks18 => ?_
      refine wp_regS (l := [0]) (by kernel_rfl) (by kernel_rfl) fun KR19 kr19 => ?_
      refine wpS.p 0 4 (.bool false) (by kernel_rfl) ?_
      refine wpS.fin rfl (kr19 _ _ ?_)
      refine then_n (ks18 _ _ ?_)
      refine xret ?_
      refine inBlock_r ?_
      refine then_r ?_
      refine then_r ?_
      refine inBlock_r ?_
      refine exq_r ?_
      refine then_r ?_
      have q0 := of_some h
      subst q0
      have q0 := of_some hk0
      subst q0
      exact qq _ _ (post_ret (by kernel_rfl) (run_results [.tmp 4] [.bool false] (by kernel_rfl) (.cons (res_tmp (by kernel_rfl)) .nil)) ⟨congrArg Ending.returned (by kernel_rfl), hs.none⟩)
    ·refine wpS.take 3 false (some 14) (.bool false) (by kernel_rfl) (yld_b (df hc) (fun _ => by kernel_rfl)) ?_
     refine wpS.fin rfl (kr11 _ _ ?_)
     refine then_n (ks10 _ _ ?_)
     refine wp_cond_f (by kernel_rfl) ?_
     refine xexit ?_
     refine then_x ?_
     refine then_x ?_
     refine inBlock_hit ?_
     have q0 := of_some h
     subst q0
     exact exq_n (nn0 _ _ ⟨rfl, (hs.conv rfl), exg (by kernel_rfl)⟩)
  ·clear hs h hy
   rintro a w ⟨rfl, hs, g, rfl⟩
   have h := hk0
   refine then_n (ks6 _ _ ?_)
   refine xseq_k fun KS20 ks20 => ?_
   refine wp_regS (l := [0]) (by kernel_rfl) (by kernel_rfl) fun KR21 kr21 => ?_
   refine wpS.p 0 4 (.bool true) (by kernel_rfl) ?_
   refine wpS.fin rfl (kr21 _ _ ?_)
   refine then_n (ks20 _ _ ?_)
   refine xret ?_
   have q0 := of_some h
   subst q0
   exact qq _ _ (post_ret (by kernel_rfl) (run_results [.tmp 4] [.bool true] (by kernel_rfl) (.cons (res_tmp (by kernel_rfl)) .nil)) ⟨congrArg Ending.returned (by kernel_rfl), hs.none⟩)
 ·refine wpS.take 4 false (some 10) (.bool true) (by kernel_rfl) (yld_b (nt hc) (fun _ => by kernel_rfl)) ?_
  refine wpS.fin rfl (kr5 _ _ ?_)
  refine then_n (ks4 _ _ ?_)
  refine wp_cond_t (by kernel_rfl) ?_
  refine xseq_k fun KS22 ks22 => ?_
  refine wp_regS (l := [0]) (by kernel_rfl) (by kernel_rfl) fun KR23 kr23 => ?_
  refine wpS.p 0 4 (.bool false) (by kernel_rfl) ?_
  refine wpS.fin rfl (kr23 _ _ ?_)
  refine then_n (ks22 _ _ ?_)
  refine xret ?_
  refine then_r ?_
  have q0 := of_some h
  subst q0
  exact qq _ _ (post_ret (by kernel_rfl) (run_results [.tmp 4] [.bool false] (by kernel_rfl) (.cons (res_tmp (by kernel_rfl)) .nil)) ⟨congrArg Ending.returned (by kernel_rfl), hs.none⟩)

theorem dpack_Set.ok {K : Nat} {a0 : Int} {r0_0 : Int} {r0_1 : Int} {r0_2 : Int} {r0_3 : Int} {r0_4 : Int} {r0_5 : Int} {r0_6 : Int} {r0_7 : Int} {r1 : Bool} (h : dpack_Set.f K a0 = some (r0_0, r0_1, r0_2, r0_3, r0_4, r0_5, r0_6, r0_7, r1)) (w0 : World) : Ret Try.prog 16 #[.int .i64 a0] w0 (.tuple #[.agg #[.int .i64 r0_0, .int .i64 r0_1, .int .i32 r0_2, .int .i64 r0_3, .int .i32 r0_4, .int .i32 r0_5, .int .i64 r0_6, .int .i64 r0_7], .bool r1]) := by
 refine calls_k Try.func16 rfl fun Q qq => ?_
 have hs := St.start w0
 refine wp_conv (a' := ⟨#[.int .i64 a0, undef, undef, undef, undef, undef, undef, undef, undef, undef, undef, undef, undef, undef, undef], []⟩) (by kernel_rfl) ?_
 refine xseq_k fun KS1 ks1 => ?_
 refine wp_regS (l := [0, 1]) (by kernel_rfl) (by kernel_rfl) fun KR2 kr2 => ?_
 refine wpS.only 0 (op_alloc (t := 23) (d := (some 2)) (by kernel_rfl) hs ([.int .i64 0, .int .i64 0, .int .i32 0, .int .i64 0, .int .i32 0, .int .i32 0, .int .i64 0, .int .i64 0]) (.agg #[.int .i64 0, .int .i64 0, .int .i32 0, .int .i64 0, .int .i32 0, .int .i32 0, .int .i64 0, .int .i64 0]) (by kernel_rfl) (by kernel_rfl) (by kernel_rfl) ?_)
 intro b1 w gw hs
 refine ⟨fun _ => trivial, ?_⟩
 refine wpS.p 1 3 (.bool false) (by kernel_rfl) ?_
 refine wpS.fin rfl (kr2 _ _ ?_)
 refine then_n (ks1 _ _ ?_)
 refine xseq_k fun KS3 ks3 => ?_
 refine xseq_k fun KS4 ks4 => ?_
 refine wp_regS (l := [0]) (by kernel_rfl) (by kernel_rfl) fun KR5 kr5 => ?_
 refine wpS.p 0 4 (.int .i64 a0) (by kernel_rfl) ?_
 refine wpS.fin rfl (kr5 _ _ ?_)
 refine then_n (ks4 _ _ ?_)
 refine xblock ?_
 refine xseq_k fun KS6 ks6 => ?_
 refine wp_regS (l := [0, 1]) (by kernel_rfl) (by kernel_rfl) fun KR7 kr7 => ?_
 rcases of_if h with ⟨hc, h⟩ | ⟨hc, h⟩
 ·refine wpS.take 0 false (some 6) (.bool true) (by kernel_rfl) (yld_b (et hc) (fun _ => by kernel_rfl)) ?_
  refine wpS.p 1 5 (.bool true) (by kernel_rfl) ?_
  refine wpS.fin rfl (kr7 _ _ ?_)
  refine then_n (ks6 _ _ ?_)
  refine wp_cond_t (by kernel_rfl) ?_
  refine xseq_k fun KS8 ks8 => ?_
  refine wp_regS (l := [0, 1, 2]) (by kernel_rfl) (by kernel_rfl) fun KR9 kr9 => ?_
  refine wpS.p 0 7 (.agg #[.int .i64 4, .int .i64 4, .int .i32 2, .int .i64 39, .int .i32 131072, .int .i32 95232, .int .i64 80, .int .i64 32]) (by kernel_rfl) ?_
  refine wpS.only 1 (op_storeW (t := 23) (v := .agg #[.int .i64 4, .int .i64 4, .int .i32 2, .int .i64 39, .int .i32 131072, .int .i32 95232, .int .i64 80, .int .i64 32]) (d := none) (by kernel_rfl) hs 0 rfl (vs := [.int .i64 4, .int .i64 4, .int .i32 2, .int .i64 39, .int .i32 131072, .int .i32 95232, .int .i64 80, .int .i64 32]) (n := 8) (by kernel_rfl) (by kernel_rfl) (by kernel_rfl) (by simp [enc_len]) (by simp [enc_len]) (by simp [Value.oneCell']) ?_)
  intro w kp hs
  refine ⟨fun _ => trivial, ?_⟩
  refine wpS.p 2 3 (.bool true) (by kernel_rfl) ?_
  refine wpS.fin rfl (kr9 _ _ ?_)
  refine then_n (ks8 _ _ ?_)
  refine xret ?_
  refine inBlock_r ?_
  refine then_r ?_
  obtain ⟨q0, qr0⟩ := Prod.mk.inj (of_some h)
  obtain ⟨q1, qr1⟩ := Prod.mk.inj (qr0)
  obtain ⟨q2, qr2⟩ := Prod.mk.inj (qr1)
  obtain ⟨q3, qr3⟩ := Prod.mk.inj (qr2)
  obtain ⟨q4, qr4⟩ := Prod.mk.inj (qr3)
  obtain ⟨q5, qr5⟩ := Prod.mk.inj (qr4)
  obtain ⟨q6, qr6⟩ := Prod.mk.inj (qr5)
  obtain ⟨q7, qr7⟩ := Prod.mk.inj (qr6)
  have q8 := qr7
  subst q0
  subst q1
  subst q2
  subst q3
  subst q4
  subst q5
  subst q6
  subst q7
  subst q8
  exact qq _ _ (post_ret (by kernel_rfl) (run_results [.cell 2 23, .tmp 3] [.agg #[.int .i64 4, .int .i64 4, .int .i32 2, .int .i64 39, .int .i32 131072, .int .i32 95232, .int .i64 80, .int .i64 32], .bool true] (by kernel_rfl) (.cons (res_cellN (n := 8) hs 0 rfl (by kernel_rfl) (by kernel_rfl) (by kernel_rfl) (by simp [enc_len])) (.cons (res_tmp (by kernel_rfl)) .nil))) ⟨congrArg Ending.returned (by kernel_rfl), hs.none⟩)
 ·refine wpS.take 0 false (some 6) (.bool false) (by kernel_rfl) (yld_b (ef hc) (fun _ => by kernel_rfl)) ?_
  refine wpS.p 1 5 (.bool false) (by kernel_rfl) ?_
  refine wpS.fin rfl (kr7 _ _ ?_)
  refine then_n (ks6 _ _ ?_)
  refine wp_cond_f (by kernel_rfl) ?_
  refine xseq_k fun KS10 ks10 => ?_
  refine wp_regS (l := [0, 1]) (by kernel_rfl) (by kernel_rfl) fun KR11 kr11 => ?_
  rcases of_if h with ⟨hc, h⟩ | ⟨hc, h⟩
  ·refine wpS.take 0 false (some 9) (.bool true) (by kernel_rfl) (yld_b (et hc) (fun _ => by kernel_rfl)) ?_
   refine wpS.p 1 8 (.bool true) (by kernel_rfl) ?_
   refine wpS.fin rfl (kr11 _ _ ?_)
   refine then_n (ks10 _ _ ?_)
   refine wp_cond_t (by kernel_rfl) ?_
   refine xseq_k fun KS12 ks12 => ?_
   refine wp_regS (l := [0, 1, 2]) (by kernel_rfl) (by kernel_rfl) fun KR13 kr13 => ?_
   refine wpS.p 0 10 (.agg #[.int .i64 6, .int .i64 5, .int .i32 4, .int .i64 49, .int .i32 524288, .int .i32 261888, .int .i64 55, .int .i64 48]) (by kernel_rfl) ?_
   refine wpS.only 1 (op_storeW (t := 23) (v := .agg #[.int .i64 6, .int .i64 5, .int .i32 4, .int .i64 49, .int .i32 524288, .int .i32 261888, .int .i64 55, .int .i64 48]) (d := none) (by kernel_rfl) hs 0 rfl (vs := [.int .i64 6, .int .i64 5, .int .i32 4, .int .i64 49, .int .i32 524288, .int .i32 261888, .int .i64 55, .int .i64 48]) (n := 8) (by kernel_rfl) (by kernel_rfl) (by kernel_rfl) (by simp [enc_len]) (by simp [enc_len]) (by simp [Value.oneCell']) ?_)
   intro w kp hs
   refine ⟨fun _ => trivial, ?_⟩
   refine wpS.p 2 3 (.bool true) (by kernel_rfl) ?_
   refine wpS.fin rfl (kr13 _ _ ?_)
   refine then_n (ks12 _ _ ?_)
   refine xret ?_
   refine inBlock_r ?_
   refine then_r ?_
   obtain ⟨q0, qr0⟩ := Prod.mk.inj (of_some h)
   obtain ⟨q1, qr1⟩ := Prod.mk.inj (qr0)
   obtain ⟨q2, qr2⟩ := Prod.mk.inj (qr1)
   obtain ⟨q3, qr3⟩ := Prod.mk.inj (qr2)
   obtain ⟨q4, qr4⟩ := Prod.mk.inj (qr3)
   obtain ⟨q5, qr5⟩ := Prod.mk.inj (qr4)
   obtain ⟨q6, qr6⟩ := Prod.mk.inj (qr5)
   obtain ⟨q7, qr7⟩ := Prod.mk.inj (qr6)
   have q8 := qr7
   subst q0
   subst q1
   subst q2
   subst q3
   subst q4
   subst q5
   subst q6
   subst q7
   subst q8
   exact qq _ _ (post_ret (by kernel_rfl) (run_results [.cell 2 23, .tmp 3] [.agg #[.int .i64 6, .int .i64 5, .int .i32 4, .int .i64 49, .int .i32 524288, .int .i32 261888, .int .i64 55, .int .i64 48], .bool true] (by kernel_rfl) (.cons (res_cellN (n := 8) hs 0 rfl (by kernel_rfl) (by kernel_rfl) (by kernel_rfl) (by simp [enc_len])) (.cons (res_tmp (by kernel_rfl)) .nil))) ⟨congrArg Ending.returned (by kernel_rfl), hs.none⟩)
  ·refine wpS.take 0 false (some 9) (.bool false) (by kernel_rfl) (yld_b (ef hc) (fun _ => by kernel_rfl)) ?_
   refine wpS.p 1 8 (.bool false) (by kernel_rfl) ?_
   refine wpS.fin rfl (kr11 _ _ ?_)
   refine then_n (ks10 _ _ ?_)
   refine wp_cond_f (by kernel_rfl) ?_
   refine xseq_k fun KS14 ks14 => ?_
   refine wp_regS (l := [0, 1]) (by kernel_rfl) (by kernel_rfl) fun KR15 kr15 => ?_
   rcases of_if h with ⟨hc, h⟩ | ⟨hc, h⟩
   ·refine wpS.take 0 false (some 12) (.bool true) (by kernel_rfl) (yld_b (et hc) (fun _ => by kernel_rfl)) ?_
    refine wpS.p 1 11 (.bool true) (by kernel_rfl) ?_
    refine wpS.fin rfl (kr15 _ _ ?_)
    refine then_n (ks14 _ _ ?_)
    refine wp_cond_t (by kernel_rfl) ?_
    refine xseq_k fun KS16 ks16 => ?_
    refine wp_regS (l := [0, 1, 2]) (by kernel_rfl) (by kernel_rfl) fun KR17 kr17 => ?_
    refine wpS.p 0 13 (.agg #[.int .i64 8, .int .i64 7, .int .i32 2, .int .i64 60, .int .i32 524288, .int .i32 261888, .int .i64 75, .int .i64 64]) (by kernel_rfl) ?_
    refine wpS.only 1 (op_storeW (t := 23) (v := .agg #[.int .i64 8, .int .i64 7, .int .i32 2, .int .i64 60, .int .i32 524288, .int .i32 261888, .int .i64 75, .int .i64 64]) (d := none) (by kernel_rfl) hs 0 rfl (vs := [.int .i64 8, .int .i64 7, .int .i32 2, .int .i64 60, .int .i32 524288, .int .i32 261888, .int .i64 75, .int .i64 64]) (n := 8) (by kernel_rfl) (by kernel_rfl) (by kernel_rfl) (by simp [enc_len]) (by simp [enc_len]) (by simp [Value.oneCell']) ?_)
    intro w kp hs
    refine ⟨fun _ => trivial, ?_⟩
    refine wpS.p 2 3 (.bool true) (by kernel_rfl) ?_
    refine wpS.fin rfl (kr17 _ _ ?_)
    refine then_n (ks16 _ _ ?_)
    refine xret ?_
    refine inBlock_r ?_
    refine then_r ?_
    obtain ⟨q0, qr0⟩ := Prod.mk.inj (of_some h)
    obtain ⟨q1, qr1⟩ := Prod.mk.inj (qr0)
    obtain ⟨q2, qr2⟩ := Prod.mk.inj (qr1)
    obtain ⟨q3, qr3⟩ := Prod.mk.inj (qr2)
    obtain ⟨q4, qr4⟩ := Prod.mk.inj (qr3)
    obtain ⟨q5, qr5⟩ := Prod.mk.inj (qr4)
    obtain ⟨q6, qr6⟩ := Prod.mk.inj (qr5)
    obtain ⟨q7, qr7⟩ := Prod.mk.inj (qr6)
    have q8 := qr7
    subst q0
    subst q1
    subst q2
    subst q3
    subst q4
    subst q5
    subst q6
    subst q7
    subst q8
    exact qq _ _ (post_ret (by kernel_rfl) (run_results [.cell 2 23, .tmp 3] [.agg #[.int .i64 8, .int .i64 7, .int .i32 2, .int .i64 60, .int .i32 524288, .int .i32 261888, .int .i64 75, .int .i64 64], .bool true] (by kernel_rfl) (.cons (res_cellN (n := 8) hs 0 rfl (by kernel_rfl) (by kernel_rfl) (by kernel_rfl) (by simp [enc_len])) (.cons (res_tmp (by kernel_rfl)) .nil))) ⟨congrArg Ending.returned (by kernel_rfl), hs.none⟩)
   ·refine wpS.take 0 false (some 12) (.bool false) (by kernel_rfl) (yld_b (ef hc) (fun _ => by kernel_rfl)) ?_
    refine wpS.p 1 11 (.bool false) (by kernel_rfl) ?_
    refine wpS.fin rfl (kr15 _ _ ?_)
    refine then_n (ks14 _ _ ?_)
    refine wp_cond_f (by kernel_rfl) ?_
    refine xskip ?_
    refine inBlock_n ?_
    refine then_n (ks3 _ _ ?_)
    refine xseq_k fun KS18 ks18 => ?_
    refine wp_regS (l := [0, 1, 2]) (by kernel_rfl) (by kernel_rfl) fun KR19 kr19 => ?_
    refine wpS.p 0 14 (.agg #[.int .i64 0, .int .i64 0, .int .i32 0, .int .i64 0, .int .i32 0, .int .i32 0, .int .i64 0, .int .i64 0]) (by kernel_rfl) ?_
    refine wpS.only 1 (op_storeW (t := 23) (v := .agg #[.int .i64 0, .int .i64 0, .int .i32 0, .int .i64 0, .int .i32 0, .int .i32 0, .int .i64 0, .int .i64 0]) (d := none) (by kernel_rfl) hs 0 rfl (vs := [.int .i64 0, .int .i64 0, .int .i32 0, .int .i64 0, .int .i32 0, .int .i32 0, .int .i64 0, .int .i64 0]) (n := 8) (by kernel_rfl) (by kernel_rfl) (by kernel_rfl) (by simp [enc_len]) (by simp [enc_len]) (by simp [Value.oneCell']) ?_)
    intro w kp hs
    refine ⟨fun _ => trivial, ?_⟩
    refine wpS.p 2 3 (.bool false) (by kernel_rfl) ?_
    refine wpS.fin rfl (kr19 _ _ ?_)
    refine then_n (ks18 _ _ ?_)
    refine xret ?_
    obtain ⟨q0, qr0⟩ := Prod.mk.inj (of_some h)
    obtain ⟨q1, qr1⟩ := Prod.mk.inj (qr0)
    obtain ⟨q2, qr2⟩ := Prod.mk.inj (qr1)
    obtain ⟨q3, qr3⟩ := Prod.mk.inj (qr2)
    obtain ⟨q4, qr4⟩ := Prod.mk.inj (qr3)
    obtain ⟨q5, qr5⟩ := Prod.mk.inj (qr4)
    obtain ⟨q6, qr6⟩ := Prod.mk.inj (qr5)
    obtain ⟨q7, qr7⟩ := Prod.mk.inj (qr6)
    have q8 := qr7
    subst q0
    subst q1
    subst q2
    subst q3
    subst q4
    subst q5
    subst q6
    subst q7
    subst q8
    exact qq _ _ (post_ret (by kernel_rfl) (run_results [.cell 2 23, .tmp 3] [.agg #[.int .i64 0, .int .i64 0, .int .i32 0, .int .i64 0, .int .i32 0, .int .i32 0, .int .i64 0, .int .i64 0], .bool false] (by kernel_rfl) (.cons (res_cellN (n := 8) hs 0 rfl (by kernel_rfl) (by kernel_rfl) (by kernel_rfl) (by simp [enc_len])) (.cons (res_tmp (by kernel_rfl)) .nil))) ⟨congrArg Ending.returned (by kernel_rfl), hs.none⟩)

theorem dpack_known.ok {K : Nat} {a0_0 : Int} {a0_1 : Int} {a0_2 : Int} {a0_3 : Int} {a0_4 : Int} {a0_5 : Int} {a0_6 : Int} {a0_7 : Int} {r0 : Bool} (h : dpack_known.f K a0_0 a0_1 a0_2 a0_3 a0_4 a0_5 a0_6 a0_7 = some r0) (w0 : World) : Ret Try.prog 44 #[.agg #[.int .i64 a0_0, .int .i64 a0_1, .int .i32 a0_2, .int .i64 a0_3, .int .i32 a0_4, .int .i32 a0_5, .int .i64 a0_6, .int .i64 a0_7]] w0 (.bool r0) := by
 refine calls_k Try.func44 rfl fun Q qq => ?_
 have hs := St.start w0
 refine wp_conv (a' := ⟨#[.agg #[.int .i64 a0_0, .int .i64 a0_1, .int .i32 a0_2, .int .i64 a0_3, .int .i32 a0_4, .int .i32 a0_5, .int .i64 a0_6, .int .i64 a0_7], undef, undef, undef, undef, undef, undef, undef, undef, undef, undef, undef, undef, undef, undef, undef, undef, undef, undef, undef, undef, undef], []⟩) (by kernel_rfl) ?_
 refine xseq_k fun KS1 ks1 => ?_
 refine wp_regS (l := [0, 1]) (by kernel_rfl) (by kernel_rfl) fun KR2 kr2 => ?_
 refine wpS.only 0 (op_box (t := 23) (v := .agg #[.int .i64 a0_0, .int .i64 a0_1, .int .i32 a0_2, .int .i64 a0_3, .int .i32 a0_4, .int .i32 a0_5, .int .i64 a0_6, .int .i64 a0_7]) (d := (some 1)) (by kernel_rfl) hs ([.int .i64 a0_0, .int .i64 a0_1, .int .i32 a0_2, .int .i64 a0_3, .int .i32 a0_4, .int .i32 a0_5, .int .i64 a0_6, .int .i64 a0_7]) (by kernel_rfl) (by kernel_rfl) ?_)
 intro b1 w gw hs
 refine ⟨fun _ => trivial, ?_⟩
 refine wpS.p 1 2 (.bool false) (by kernel_rfl) ?_
 refine wpS.fin rfl (kr2 _ _ ?_)
 refine then_n (ks1 _ _ ?_)
 refine xseq_k fun KS3 ks3 => ?_
 refine xseq_k fun KS4 ks4 => ?_
 refine wp_regS (l := [0, 1, 2]) (by kernel_rfl) (by kernel_rfl) fun KR5 kr5 => ?_
 refine wpS.only 0 (op_lit (C := (CI .i64)) (t := 66) (e := 3) (len := 3) (parts := #[(0, .int .i64 44), (1, .int .i64 65), (2, .int .i64 87)]) (l := [44, 65, 87]) (d := (some 7)) (by kernel_rfl) hs (by kernel_rfl) (by kernel_rfl) (by kernel_rfl) (z := .int .i64 0) (by kernel_rfl) rfl (by decide) (by decide) (by kernel_rfl) ?_)
 intro s2_A s2_n s2_c w gw hs
 refine ⟨fun _ => trivial, ?_⟩
 refine wpS.take 1 false (some 8) (.int .i64 (([44, 65, 87] : List Int).length : Int)) (by kernel_rfl) (yld_lenL (hs.rowL 0 rfl) (fun _ => by kernel_rfl)) ?_
 refine wpS.p 2 9 (.int .i64 0) (by kernel_rfl) ?_
 refine wpS.fin rfl (kr5 _ _ ?_)
 refine then_n (ks4 _ _ ?_)
 obtain ⟨t0, hy, hk0⟩ := of_bind h
 refine wp_exq (N := fun a w => t0 = .inl () ∧ St w0 [] [.ownL (CI .i64) s2_A s2_n s2_c ([44, 65, 87] : List Int) 3, .blk b1 ([.int .i64 a0_0, .int .i64 a0_1, .int .i32 a0_2, .int .i64 a0_3, .int .i32 a0_4, .int .i32 a0_5, .int .i64 a0_6, .int .i64 a0_7]) 23] [] w ∧ ∃ g : Nat → Value, a = ⟨#[.agg #[.int .i64 a0_0, .int .i64 a0_1, .int .i32 a0_2, .int .i64 a0_3, .int .i32 a0_4, .int .i32 a0_5, .int .i64 a0_6, .int .i64 a0_7], .pointer (some ⟨b1, 0, none⟩), (g 2), undef, (g 4), (g 5), (g 6), .slice s2_A s2_n s2_c, .int .i64 (([44, 65, 87] : List Int).length : Int), (g 9), (g 10), (g 11), (g 12), (g 13), (g 14), (g 15), (g 16), (g 17), (g 18), (g 19), (g 20), (g 21)], []⟩) (fun N0 nn0 => ?_) ?_
 ·refine xblock ?_
  refine wp_loop_k (fun n a w => ∃ z3, dpack_known.l0 K n a0_0 a0_1 a0_2 a0_3 a0_4 a0_5 a0_6 a0_7 z3 = some t0 ∧ St w0 [] [.ownL (CI .i64) s2_A s2_n s2_c ([44, 65, 87] : List Int) 3, .blk b1 ([.int .i64 a0_0, .int .i64 a0_1, .int .i32 a0_2, .int .i64 a0_3, .int .i32 a0_4, .int .i32 a0_5, .int .i64 a0_6, .int .i64 a0_7]) 23] [] w ∧ ∃ g : Nat → Value, a = ⟨#[.agg #[.int .i64 a0_0, .int .i64 a0_1, .int .i32 a0_2, .int .i64 a0_3, .int .i32 a0_4, .int .i32 a0_5, .int .i64 a0_6, .int .i64 a0_7], .pointer (some ⟨b1, 0, none⟩), (g 2), undef, (g 4), (g 5), (g 6), .slice s2_A s2_n s2_c, .int .i64 (([44, 65, 87] : List Int).length : Int), .int .i64 z3, (g 10), (g 11), (g 12), (g 13), (g 14), (g 15), (g 16), (g 17), (g 18), (g 19), (g 20), (g 21)], []⟩) K ⟨0, hy, hs.conv rfl, exg (by kernel_rfl)⟩ ?_
  clear hs h hy
  rintro n a w ⟨z3, h, hs, g, rfl⟩ KL0 kl0
  cases n with
  | zero => exact nomatch (show none = some _ from h)
  | succ n =>
   refine xseq_k fun KS6 ks6 => ?_
   refine wp_regS (l := [0]) (by kernel_rfl) (by kernel_rfl) fun KR7 kr7 => ?_
   rcases of_if h with ⟨hc, h⟩ | ⟨hc, h⟩
   ·refine wpS.take 0 false (some 10) (.bool true) (by kernel_rfl) (yld_b (dt hc) (fun _ => by kernel_rfl)) ?_
    refine wpS.fin rfl (kr7 _ _ ?_)
    refine then_n (ks6 _ _ ?_)
    refine xseq_k fun KS8 ks8 => ?_
    refine wp_cond_t (by kernel_rfl) ?_
    refine xskip ?_
    refine then_n (ks8 _ _ ?_)
    refine xseq_k fun KS9 ks9 => ?_
    refine xblock ?_
    refine xseq_k fun KS10 ks10 => ?_
    refine wp_regS (l := [0, 1, 2]) (by kernel_rfl) (by kernel_rfl) fun KR11 kr11 => ?_
    obtain ⟨h0, h⟩ := of_chk h
    obtain ⟨h1, h⟩ := of_chk h
    have i0_12 := h0
    have i1_12 := h1
    refine wpS.take 0 false (some 11) (.pointer (adr s2_A ((z3 : Int).toNat * Cod.size (CI .i64)))) (by kernel_rfl) (yld_idxL (C := (CI .i64)) (t := 66) (e := 3) (k := .i64) (x := z3) (hs.rowL 0 rfl) (by kernel_rfl) (by kernel_rfl) (by kernel_rfl) h0 h1) ?_
    refine wpS.take 1 true (some 12) (.int .i64 (rdL (CI .i64) ([44, 65, 87] : List Int) z3)) (by kernel_rfl) (yld_loadL (C := (CI .i64)) (e := 3) (x := z3) (hs.rowL 0 rfl) (by kernel_rfl) rfl (by kernel_rfl) i0_12 i1_12) ?_
    obtain ⟨x4, hx, h⟩ := of_bind h
    refine wpS.take 2 false (some 4) (.int .i64 x4) (by kernel_rfl) (yld_int hx (fun _ => by kernel_rfl)) ?_
    refine wpS.fin rfl (kr11 _ _ ?_)
    refine then_n (ks10 _ _ ?_)
    refine xseq_k fun KS13 ks13 => ?_
    refine wp_regS (l := [0, 1, 2, 3, 4, 5, 6, 7]) (by kernel_rfl) (by kernel_rfl) fun KR14 kr14 => ?_
    refine wpS.p 0 14 (.int .i64 x4) (by kernel_rfl) ?_
    obtain ⟨⟨r5_0, r5_1, r5_2, r5_3, r5_4, r5_5, r5_6, r5_7, r6⟩, hg, h⟩ := of_bind h
    refine wpS.only 1 (op_call (d := (some 15)) (by kernel_rfl) hs (fun _ => by kernel_rfl) (dpack_Set.ok hg _) ?_)
    intro w gw hs
    refine ⟨fun _ => trivial, ?_⟩
    refine wpS.ps [(2, 13, .tuple #[.agg #[.int .i64 r5_0, .int .i64 r5_1, .int .i32 r5_2, .int .i64 r5_3, .int .i32 r5_4, .int .i32 r5_5, .int .i64 r5_6, .int .i64 r5_7], .bool r6]), (3, 16, .agg #[.int .i64 r5_0, .int .i64 r5_1, .int .i32 r5_2, .int .i64 r5_3, .int .i32 r5_4, .int .i32 r5_5, .int .i64 r5_6, .int .i64 r5_7]), (4, 17, .bool r6)] (by kernel_rfl) ?_
    refine wpS.only 5 (op_alloc (t := 23) (d := (some 5)) (by kernel_rfl) hs ([.int .i64 0, .int .i64 0, .int .i32 0, .int .i64 0, .int .i32 0, .int .i32 0, .int .i64 0, .int .i64 0]) (.agg #[.int .i64 0, .int .i64 0, .int .i32 0, .int .i64 0, .int .i32 0, .int .i32 0, .int .i64 0, .int .i64 0]) (by kernel_rfl) (by kernel_rfl) (by kernel_rfl) ?_)
    intro b7 w gw hs
    refine ⟨fun _ => trivial, ?_⟩
    refine wpS.only 6 (op_storeW (t := 23) (v := .agg #[.int .i64 r5_0, .int .i64 r5_1, .int .i32 r5_2, .int .i64 r5_3, .int .i32 r5_4, .int .i32 r5_5, .int .i64 r5_6, .int .i64 r5_7]) (d := none) (by kernel_rfl) hs 0 rfl (vs := [.int .i64 r5_0, .int .i64 r5_1, .int .i32 r5_2, .int .i64 r5_3, .int .i32 r5_4, .int .i32 r5_5, .int .i64 r5_6, .int .i64 r5_7]) (n := 8) (by kernel_rfl) (by kernel_rfl) (by kernel_rfl) (by simp [enc_len]) (by simp [enc_len]) (by simp [Value.oneCell']) ?_)
    intro w kp hs
    refine ⟨fun _ => trivial, ?_⟩
    refine wpS.p 7 6 (.bool r6) (by kernel_rfl) ?_
    refine wpS.fin rfl (kr14 _ _ ?_)
    refine then_n (ks13 _ _ ?_)
    refine xseq_k fun KS15 ks15 => ?_
    refine wp_regS (l := [0, 1, 2]) (by kernel_rfl) (by kernel_rfl) fun KR16 kr16 => ?_
    refine wpS.take 0 true (some 18) (.agg #[.int .i64 r5_0, .int .i64 r5_1, .int .i32 r5_2, .int .i64 r5_3, .int .i32 r5_4, .int .i32 r5_5, .int .i64 r5_6, .int .i64 r5_7]) (by kernel_rfl) (yld_loadW (e := 23) (n := 8) hs 0 rfl (by kernel_rfl) (by kernel_rfl) (by kernel_rfl) (by simp [enc_len]) .grow) ?_
    refine wpS.take 1 true (some 19) (.agg #[.int .i64 a0_0, .int .i64 a0_1, .int .i32 a0_2, .int .i64 a0_3, .int .i32 a0_4, .int .i32 a0_5, .int .i64 a0_6, .int .i64 a0_7]) (by kernel_rfl) (yld_loadW (e := 23) (n := 8) hs 2 rfl (by kernel_rfl) (by kernel_rfl) (by kernel_rfl) (by simp [enc_len]) .grow) ?_
    rcases of_ifb h with ⟨hc, h⟩ | ⟨hc, h⟩
    ·refine wpS.take 2 false (some 20) (.bool true) (by kernel_rfl) (yld_bb hc (yld_eqS (fs := [Field.mk "K" 3 0 false "" "" 0, Field.mk "L" 3 1 false "" "" 8, Field.mk "Eta" 21 2 false "" "" 16, Field.mk "Tau" 3 3 false "" "" 24, Field.mk "Mask" 21 4 false "" "" 32, Field.mk "Half" 21 5 false "" "" 36, Field.mk "Omega" 3 6 false "" "" 40, Field.mk "Size" 3 7 false "" "" 48]) (xs := [.int .i64 r5_0, .int .i64 r5_1, .int .i32 r5_2, .int .i64 r5_3, .int .i32 r5_4, .int .i32 r5_5, .int .i64 r5_6, .int .i64 r5_7]) (ys := [.int .i64 a0_0, .int .i64 a0_1, .int .i32 a0_2, .int .i64 a0_3, .int .i32 a0_4, .int .i32 a0_5, .int .i64 a0_6, .int .i64 a0_7]) (t := 23) (.tmp 18) (.tmp 19) (by kernel_rfl) (by kernel_rfl) (by kernel_rfl) (by kernel_rfl) (.cons rfl (fun w => Go.Mx.run_part1 (by kernel_rfl) rfl) (fun w => Go.Mx.run_part1 (by kernel_rfl) rfl) (fun w => Go.Mx.run_equalIn_int (by kernel_rfl)) (.cons rfl (fun w => Go.Mx.run_part1 (by kernel_rfl) rfl) (fun w => Go.Mx.run_part1 (by kernel_rfl) rfl) (fun w => Go.Mx.run_equalIn_int (by kernel_rfl)) (.cons rfl (fun w => Go.Mx.run_part1 (by kernel_rfl) rfl) (fun w => Go.Mx.run_part1 (by kernel_rfl) rfl) (fun w => Go.Mx.run_equalIn_int (by kernel_rfl)) (.cons rfl (fun w => Go.Mx.run_part1 (by kernel_rfl) rfl) (fun w => Go.Mx.run_part1 (by kernel_rfl) rfl) (fun w => Go.Mx.run_equalIn_int (by kernel_rfl)) (.cons rfl (fun w => Go.Mx.run_part1 (by kernel_rfl) rfl) (fun w => Go.Mx.run_part1 (by kernel_rfl) rfl) (fun w => Go.Mx.run_equalIn_int (by kernel_rfl)) (.cons rfl (fun w => Go.Mx.run_part1 (by kernel_rfl) rfl) (fun w => Go.Mx.run_part1 (by kernel_rfl) rfl) (fun w => Go.Mx.run_equalIn_int (by kernel_rfl)) (.cons rfl (fun w => Go.Mx.run_part1 (by kernel_rfl) rfl) (fun w => Go.Mx.run_part1 (by kernel_rfl) rfl) (fun w => Go.Mx.run_equalIn_int (by kernel_rfl)) (.cons rfl (fun w => Go.Mx.run_part1 (by kernel_rfl) rfl) (fun w => Go.Mx.run_part1 (by kernel_rfl) rfl) (fun w => Go.Mx.run_equalIn_int (by kernel_rfl)) .nil)))))))))) ?_
     refine wpS.fin rfl (kr16 _ _ ?_)
     refine then_n (ks15 _ _ ?_)
     refine wp_cond_t (by kernel_rfl) ?_
     refine xseq_k fun KS17 ks17 => ?_
     refine wp_regS (l := [0]) (by kernel_rfl) (by kernel_rfl) fun KR18 kr18 => ?_
     refine wpS.p 0 2 (.bool true) (by kernel_rfl) ?_
     refine wpS.fin rfl (kr18 _ _ ?_)
     refine then_n (ks17 _ _ ?_)
     refine xret ?_
     refine inBlock_r ?_
     refine then_r ?_
     refine then_r ?_
     refine inBlock_r ?_
     refine exq_r ?_
     refine then_r ?_
     have q0 := of_some h
     subst q0
     have q0 := of_some hk0
     subst q0
     exact qq _ _ (post_ret (by kernel_rfl) (run_results [.tmp 2] [.bool true] (by kernel_rfl) (.cons (res_tmp (by kernel_rfl)) .nil)) ⟨congrArg Ending.returned (by kernel_rfl), hs.none⟩)
    ·refine wpS.take 2 false (some 20) (.bool false) (by kernel_rfl) (yld_bb hc (yld_eqS (fs := [Field.mk "K" 3 0 false "" "" 0, Field.mk "L" 3 1 false "" "" 8, Field.mk "Eta" 21 2 false "" "" 16, Field.mk "Tau" 3 3 false "" "" 24, Field.mk "Mask" 21 4 false "" "" 32, Field.mk "Half" 21 5 false "" "" 36, Field.mk "Omega" 3 6 false "" "" 40, Field.mk "Size" 3 7 false "" "" 48]) (xs := [.int .i64 r5_0, .int .i64 r5_1, .int .i32 r5_2, .int .i64 r5_3, .int .i32 r5_4, .int .i32 r5_5, .int .i64 r5_6, .int .i64 r5_7]) (ys := [.int .i64 a0_0, .int .i64 a0_1, .int .i32 a0_2, .int .i64 a0_3, .int .i32 a0_4, .int .i32 a0_5, .int .i64 a0_6, .int .i64 a0_7]) (t := 23) (.tmp 18) (.tmp 19) (by kernel_rfl) (by kernel_rfl) (by kernel_rfl) (by kernel_rfl) (.cons rfl (fun w => Go.Mx.run_part1 (by kernel_rfl) rfl) (fun w => Go.Mx.run_part1 (by kernel_rfl) rfl) (fun w => Go.Mx.run_equalIn_int (by kernel_rfl)) (.cons rfl (fun w => Go.Mx.run_part1 (by kernel_rfl) rfl) (fun w => Go.Mx.run_part1 (by kernel_rfl) rfl) (fun w => Go.Mx.run_equalIn_int (by kernel_rfl)) (.cons rfl (fun w => Go.Mx.run_part1 (by kernel_rfl) rfl) (fun w => Go.Mx.run_part1 (by kernel_rfl) rfl) (fun w => Go.Mx.run_equalIn_int (by kernel_rfl)) (.cons rfl (fun w => Go.Mx.run_part1 (by kernel_rfl) rfl) (fun w => Go.Mx.run_part1 (by kernel_rfl) rfl) (fun w => Go.Mx.run_equalIn_int (by kernel_rfl)) (.cons rfl (fun w => Go.Mx.run_part1 (by kernel_rfl) rfl) (fun w => Go.Mx.run_part1 (by kernel_rfl) rfl) (fun w => Go.Mx.run_equalIn_int (by kernel_rfl)) (.cons rfl (fun w => Go.Mx.run_part1 (by kernel_rfl) rfl) (fun w => Go.Mx.run_part1 (by kernel_rfl) rfl) (fun w => Go.Mx.run_equalIn_int (by kernel_rfl)) (.cons rfl (fun w => Go.Mx.run_part1 (by kernel_rfl) rfl) (fun w => Go.Mx.run_part1 (by kernel_rfl) rfl) (fun w => Go.Mx.run_equalIn_int (by kernel_rfl)) (.cons rfl (fun w => Go.Mx.run_part1 (by kernel_rfl) rfl) (fun w => Go.Mx.run_part1 (by kernel_rfl) rfl) (fun w => Go.Mx.run_equalIn_int (by kernel_rfl)) .nil)))))))))) ?_
     refine wpS.fin rfl (kr16 _ _ ?_)
     refine then_n (ks15 _ _ ?_)
     refine wp_cond_f (by kernel_rfl) ?_
     refine xskip ?_
     refine inBlock_n ?_
     refine then_n (ks9 _ _ ?_)
     refine wp_regS (l := [0, 1]) (by kernel_rfl) (by kernel_rfl) fun KR19 kr19 => ?_
     refine wpS.ps [(0, 21, .int .i64 (iadd .i64 z3 1)), (1, 9, .int .i64 (iadd .i64 z3 1))] (by kernel_rfl) ?_
     refine wpS.fin rfl (kr19 _ _ ?_)
     exact then_n (kl0 _ _ ⟨n, Nat.lt_succ_self n, (iadd .i64 z3 1), h, (hs.drop (.cons _ (.cons_cons _ (.cons_cons _ .slnil)))), exg (by kernel_rfl)⟩)
   ·refine wpS.take 0 false (some 10) (.bool false) (by kernel_rfl) (yld_b (df hc) (fun _ => by kernel_rfl)) ?_
    refine wpS.fin rfl (kr7 _ _ ?_)
    refine then_n (ks6 _ _ ?_)
    refine xseq_k fun KS20 ks20 => ?_
    refine wp_cond_f (by kernel_rfl) ?_
    refine xexit ?_
    refine then_x ?_
    refine then_x ?_
    refine inBlock_hit ?_
    have q0 := of_some h
    subst q0
    exact exq_n (nn0 _ _ ⟨rfl, (hs.conv rfl), exg (by kernel_rfl)⟩)
 ·clear hs h hy
  rintro a w ⟨rfl, hs, g, rfl⟩
  have h := hk0
  refine then_n (ks3 _ _ ?_)
  refine xseq_k fun KS21 ks21 => ?_
  refine wp_regS (l := [0]) (by kernel_rfl) (by kernel_rfl) fun KR22 kr22 => ?_
  refine wpS.p 0 2 (.bool false) (by kernel_rfl) ?_
  refine wpS.fin rfl (kr22 _ _ ?_)
  refine then_n (ks21 _ _ ?_)
  refine xret ?_
  have q0 := of_some h
  subst q0
  exact qq _ _ (post_ret (by kernel_rfl) (run_results [.tmp 2] [.bool false] (by kernel_rfl) (.cons (res_tmp (by kernel_rfl)) .nil)) ⟨congrArg Ending.returned (by kernel_rfl), hs.none⟩)

theorem dpack_span_all.ok {K : Nat} {a0_0 : Int} {a0_1 : Int} {r0 : Int} (h : dpack_span_all.f K a0_0 a0_1 = some r0) (w0 : World) : Ret Try.prog 50 #[.agg #[.int .i32 a0_0, .int .i32 a0_1]] w0 (.int .i32 r0) := by
 refine calls_k Try.func50 rfl fun Q qq => ?_
 have hs := St.start w0
 refine wp_conv (a' := ⟨#[.agg #[.int .i32 a0_0, .int .i32 a0_1], undef, undef, undef, undef, undef, undef, undef, undef], []⟩) (by kernel_rfl) ?_
 refine xseq_k fun KS1 ks1 => ?_
 refine wp_regS (l := [0, 1]) (by kernel_rfl) (by kernel_rfl) fun KR2 kr2 => ?_
 refine wpS.only 0 (op_box (t := 73) (v := .agg #[.int .i32 a0_0, .int .i32 a0_1]) (d := (some 1)) (by kernel_rfl) hs ([.int .i32 a0_0, .int .i32 a0_1]) (by kernel_rfl) (by kernel_rfl) ?_)
 intro b1 w gw hs
 refine ⟨fun _ => trivial, ?_⟩
 refine wpS.p 1 2 (.int .i32 0) (by kernel_rfl) ?_
 refine wpS.fin rfl (kr2 _ _ ?_)
 refine then_n (ks1 _ _ ?_)
 refine xseq_k fun KS3 ks3 => ?_
 refine wp_regS (l := [0, 1, 2, 3, 4, 5, 6]) (by kernel_rfl) (by kernel_rfl) fun KR4 kr4 => ?_
 refine wpS.p 0 3 (.pointer (some ⟨b1, 0, none⟩)) (by kernel_rfl) ?_
 refine wpS.take 1 true (some 4) (.int .i32 a0_0) (by kernel_rfl) (yld_load1 (e := 21) (o := 0) hs 0 rfl (by kernel_rfl) (by kernel_rfl) (by rfl) .grow) ?_
 refine wpS.ps [(2, 5, .int .i32 (imax a0_0 0)), (3, 6, .pointer (some ⟨b1, 1, none⟩))] (by kernel_rfl) ?_
 refine wpS.take 4 true (some 7) (.int .i32 a0_1) (by kernel_rfl) (yld_load1 (e := 21) (o := 1) hs 0 rfl (by kernel_rfl) (by kernel_rfl) (by rfl) .grow) ?_
 refine wpS.p 5 8 (.int .i32 (iadd .i32 (imax a0_0 0) a0_1)) (by kernel_rfl) ?_
 obtain ⟨x2, hx, h⟩ := of_bind h
 refine wpS.take 6 false (some 2) (.int .i32 x2) (by kernel_rfl) (yld_int hx (fun _ => by kernel_rfl)) ?_
 refine wpS.fin rfl (kr4 _ _ ?_)
 refine then_n (ks3 _ _ ?_)
 refine xret ?_
 have q0 := of_some h
 subst q0
 exact qq _ _ (post_ret (by kernel_rfl) (run_results [.tmp 2] [.int .i32 x2] (by kernel_rfl) (.cons (res_tmp (by kernel_rfl)) .nil)) ⟨congrArg Ending.returned (by kernel_rfl), hs.none⟩)

theorem math_bits_Len32.ok {K : Nat} {a0 : Int} {r0 : Int} (h : math_bits_Len32.f K a0 = some r0) (w0 : World) : Ret Try.prog 67 #[.int .u32 a0] w0 (.int .i64 r0) := by
 refine calls_k Try.func67 rfl fun Q qq => ?_
 have hs := St.start w0
 refine wp_conv (a' := ⟨#[.int .u32 a0, undef, undef, undef, undef, undef, undef, undef, undef, undef, undef, undef, undef, undef, undef, undef, undef, undef, undef], []⟩) (by kernel_rfl) ?_
 refine xseq_k fun KS1 ks1 => ?_
 refine wp_regS (l := [0]) (by kernel_rfl) (by kernel_rfl) fun KR2 kr2 => ?_
 refine wpS.p 0 2 (.int .i64 0) (by kernel_rfl) ?_
 refine wpS.fin rfl (kr2 _ _ ?_)
 refine then_n (ks1 _ _ ?_)
 obtain ⟨⟨y1, y2⟩, hj, h⟩ := of_bind h
 refine xseq_k fun KS3 ks3 => wp_join (N := fun a w => St w0 [] [] [] w ∧ ∃ g : Nat → Value, a = ⟨#[.int .u32 y1, undef, .int .i64 y2, (g 3), (g 4), (g 5), (g 6), undef, undef, undef, undef, undef, undef, undef, undef, undef, undef, undef, undef], []⟩) (fun N nj => ?_) ?_
 ·clear h
  have h := hj
  refine xseq_k fun KS4 ks4 => ?_
  refine wp_regS (l := [0, 1]) (by kernel_rfl) (by kernel_rfl) fun KR5 kr5 => ?_
  refine wpS.p 0 3 (.int .u32 a0) (by kernel_rfl) ?_
  rcases of_if h with ⟨hc, h⟩ | ⟨hc, h⟩
  ·refine wpS.take 1 false (some 4) (.bool true) (by kernel_rfl) (yld_b (dt hc) (fun _ => by kernel_rfl)) ?_
   refine wpS.fin rfl (kr5 _ _ ?_)
   refine then_n (ks4 _ _ ?_)
   refine wp_cond_t (by kernel_rfl) ?_
   refine xseq_k fun KS6 ks6 => ?_
   refine wp_regS (l := [0, 1, 2]) (by kernel_rfl) (by kernel_rfl) fun KR7 kr7 => ?_
   refine wpS.ps [(0, 5, .int .u32 a0), (1, 6, .int .u32 (ishr .u32 a0 16))] (by kernel_rfl) ?_
   obtain ⟨x3, hx, h⟩ := of_bind h
   refine wpS.take 2 false (some 0) (.int .u32 x3) (by kernel_rfl) (yld_int hx (fun _ => by kernel_rfl)) ?_
   refine wpS.fin rfl (kr7 _ _ ?_)
   refine then_n (ks6 _ _ ?_)
   refine wp_regS (l := [0]) (by kernel_rfl) (by kernel_rfl) fun KR8 kr8 => ?_
   refine wpS.p 0 2 (.int .i64 16) (by kernel_rfl) ?_
   refine wpS.fin rfl (kr8 _ _ ?_)
   obtain ⟨q0, qr0⟩ := Prod.mk.inj (of_some h)
   have q1 := qr0
   subst q0
   subst q1
   exact nj _ _ ⟨(hs.conv rfl), exg (by kernel_rfl)⟩
  ·refine wpS.take 1 false (some 4) (.bool false) (by kernel_rfl) (yld_b (df hc) (fun _ => by kernel_rfl)) ?_
   refine wpS.fin rfl (kr5 _ _ ?_)
   refine then_n (ks4 _ _ ?_)
   refine wp_cond_f (by kernel_rfl) ?_
   refine xskip ?_
   obtain ⟨q0, qr0⟩ := Prod.mk.inj (of_some h)
   have q1 := qr0
   subst q0
   subst q1
   exact nj _ _ ⟨(hs.conv rfl), exg (by kernel_rfl)⟩
 ·clear hj hs
  rintro a w ⟨hs, g, rfl⟩
  refine then_n (ks3 _ _ ?_)
  obtain ⟨⟨y4, y5⟩, hj, h⟩ := of_bind h
  refine xseq_k fun KS9 ks9 => wp_join (N := fun a w => St w0 [] [] [] w ∧ ∃ g : Nat → Value, a = ⟨#[.int .u32 y4, undef, .int .i64 y5, (g 3), (g 4), (g 5), (g 6), (g 7), (g 8), (g 9), (g 10), (g 11), (g 12), undef, undef, undef, undef, undef, undef], []⟩) (fun N nj => ?_) ?_
  ·clear h
   have h := hj
   refine xseq_k fun KS10 ks10 => ?_
   refine wp_regS (l := [0, 1]) (by kernel_rfl) (by kernel_rfl) fun KR11 kr11 => ?_
   refine wpS.p 0 7 (.int .u32 y1) (by kernel_rfl) ?_
   rcases of_if h with ⟨hc, h⟩ | ⟨hc, h⟩
   ·refine wpS.take 1 false (some 8) (.bool true) (by kernel_rfl) (yld_b (dt hc) (fun _ => by kernel_rfl)) ?_
    refine wpS.fin rfl (kr11 _ _ ?_)
    refine then_n (ks10 _ _ ?_)
    refine wp_cond_t (by kernel_rfl) ?_
    refine xseq_k fun KS12 ks12 => ?_
    refine wp_regS (l := [0, 1, 2]) (by kernel_rfl) (by kernel_rfl) fun KR13 kr13 => ?_
    refine wpS.ps [(0, 9, .int .u32 y1), (1, 10, .int .u32 (ishr .u32 y1 8))] (by kernel_rfl) ?_
    obtain ⟨x6, hx, h⟩ := of_bind h
    refine wpS.take 2 false (some 0) (.int .u32 x6) (by kernel_rfl) (yld_int hx (fun _ => by kernel_rfl)) ?_
    refine wpS.fin rfl (kr13 _ _ ?_)
    refine then_n (ks12 _ _ ?_)
    refine wp_regS (l := [0, 1, 2]) (by kernel_rfl) (by kernel_rfl) fun KR14 kr14 => ?_
    refine wpS.ps [(0, 11, .int .i64 y2), (1, 12, .int .i64 (iadd .i64 y2 8))] (by kernel_rfl) ?_
    obtain ⟨x7, hx, h⟩ := of_bind h
    refine wpS.take 2 false (some 2) (.int .i64 x7) (by kernel_rfl) (yld_int hx (fun _ => by kernel_rfl)) ?_
    refine wpS.fin rfl (kr14 _ _ ?_)
    obtain ⟨q0, qr0⟩ := Prod.mk.inj (of_some h)
    have q1 := qr0
    subst q0
    subst q1
    exact nj _ _ ⟨(hs.conv rfl), exg (by kernel_rfl)⟩
   ·refine wpS.take 1 false (some 8) (.bool false) (by kernel_rfl) (yld_b (df hc) (fun _ => by kernel_rfl)) ?_
    refine wpS.fin rfl (kr11 _ _ ?_)
    refine then_n (ks10 _ _ ?_)
    refine wp_cond_f (by kernel_rfl) ?_
    refine xskip ?_
    obtain ⟨q0, qr0⟩ := Prod.mk.inj (of_some h)
    have q1 := qr0
    subst q0
    subst q1
    exact nj _ _ ⟨(hs.conv rfl), exg (by kernel_rfl)⟩
  ·clear hj hs
   rintro a w ⟨hs, g, rfl⟩
   refine then_n (ks9 _ _ ?_)
   refine xseq_k fun KS15 ks15 => ?_
   refine wp_regS (l := [0, 1, 2, 3, 4, 5, 6]) (by kernel_rfl) (by kernel_rfl) fun KR16 kr16 => ?_
   refine wpS.ps [(0, 13, .int .i64 y5), (1, 14, .int .u32 y4), (2, 15, .int .u8 (iconv .u8 y4))] (by kernel_rfl) ?_
   obtain ⟨x8, hx, h⟩ := of_bind h
   have hx := of_some hx
   subst hx
   obtain ⟨h0, h⟩ := of_chk h
   obtain ⟨h1, h⟩ := of_chk h
   refine wpS.take 3 false (some 16) (.int .u8 (strAt [0, 1, 2, 2, 3, 3, 3, 3, 4, 4, 4, 4, 4, 4, 4, 4, 5, 5, 5, 5, 5, 5, 5, 5, 5, 5, 5, 5, 5, 5, 5, 5, 6, 6, 6, 6, 6, 6, 6, 6, 6, 6, 6, 6, 6, 6, 6, 6, 6, 6, 6, 6, 6, 6, 6, 6, 6, 6, 6, 6, 6, 6, 6, 6, 7, 7, 7, 7, 7, 7, 7, 7, 7, 7, 7, 7, 7, 7, 7, 7, 7, 7, 7, 7, 7, 7, 7, 7, 7, 7, 7, 7, 7, 7, 7, 7, 7, 7, 7, 7, 7, 7, 7, 7, 7, 7, 7, 7, 7, 7, 7, 7, 7, 7, 7, 7, 7, 7, 7, 7, 7, 7, 7, 7, 7, 7, 7, 7, 8, 8, 8, 8, 8, 8, 8, 8, 8, 8, 8, 8, 8, 8, 8, 8, 8, 8, 8, 8, 8, 8, 8, 8, 8, 8, 8, 8, 8, 8, 8, 8, 8, 8, 8, 8, 8, 8, 8, 8, 8, 8, 8, 8, 8, 8, 8, 8, 8, 8, 8, 8, 8, 8, 8, 8, 8, 8, 8, 8, 8, 8, 8, 8, 8, 8, 8, 8, 8, 8, 8, 8, 8, 8, 8, 8, 8, 8, 8, 8, 8, 8, 8, 8, 8, 8, 8, 8, 8, 8, 8, 8, 8, 8, 8, 8, 8, 8, 8, 8, 8, 8, 8, 8, 8, 8, 8, 8, 8, 8, 8, 8, 8, 8, 8, 8, 8, 8, 8, 8, 8, 8, 8, 8, 8, 8, 8, 8] (iconv .u8 y4))) (by kernel_rfl) (yld_str (t := 9) (k' := .u8) (by kernel_rfl) (by kernel_rfl) h0 h1) ?_
   refine wpS.ps [(4, 17, .int .i64 (iconv .i64 (strAt [0, 1, 2, 2, 3, 3, 3, 3, 4, 4, 4, 4, 4, 4, 4, 4, 5, 5, 5, 5, 5, 5, 5, 5, 5, 5, 5, 5, 5, 5, 5, 5, 6, 6, 6, 6, 6, 6, 6, 6, 6, 6, 6, 6, 6, 6, 6, 6, 6, 6, 6, 6, 6, 6, 6, 6, 6, 6, 6, 6, 6, 6, 6, 6, 7, 7, 7, 7, 7, 7, 7, 7, 7, 7, 7, 7, 7, 7, 7, 7, 7, 7, 7, 7, 7, 7, 7, 7, 7, 7, 7, 7, 7, 7, 7, 7, 7, 7, 7, 7, 7, 7, 7, 7, 7, 7, 7, 7, 7, 7, 7, 7, 7, 7, 7, 7, 7, 7, 7, 7, 7, 7, 7, 7, 7, 7, 7, 7, 8, 8, 8, 8, 8, 8, 8, 8, 8, 8, 8, 8, 8, 8, 8, 8, 8, 8, 8, 8, 8, 8, 8, 8, 8, 8, 8, 8, 8, 8, 8, 8, 8, 8, 8, 8, 8, 8, 8, 8, 8, 8, 8, 8, 8, 8, 8, 8, 8, 8, 8, 8, 8, 8, 8, 8, 8, 8, 8, 8, 8, 8, 8, 8, 8, 8, 8, 8, 8, 8, 8, 8, 8, 8, 8, 8, 8, 8, 8, 8, 8, 8, 8, 8, 8, 8, 8, 8, 8, 8, 8, 8, 8, 8, 8, 8, 8, 8, 8, 8, 8, 8, 8, 8, 8, 8, 8, 8, 8, 8, 8, 8, 8, 8, 8, 8, 8, 8, 8, 8, 8, 8, 8, 8, 8, 8, 8, 8] (iconv .u8 y4)))), (5, 18, .int .i64 (iadd .i64 y5 (iconv .i64 (strAt [0, 1, 2, 2, 3, 3, 3, 3, 4, 4, 4, 4, 4, 4, 4, 4, 5, 5, 5, 5, 5, 5, 5, 5, 5, 5, 5, 5, 5, 5, 5, 5, 6, 6, 6, 6, 6, 6, 6, 6, 6, 6, 6, 6, 6, 6, 6, 6, 6, 6, 6, 6, 6, 6, 6, 6, 6, 6, 6, 6, 6, 6, 6, 6, 7, 7, 7, 7, 7, 7, 7, 7, 7, 7, 7, 7, 7, 7, 7, 7, 7, 7, 7, 7, 7, 7, 7, 7, 7, 7, 7, 7, 7, 7, 7, 7, 7, 7, 7, 7, 7, 7, 7, 7, 7, 7, 7, 7, 7, 7, 7, 7, 7, 7, 7, 7, 7, 7, 7, 7, 7, 7, 7, 7, 7, 7, 7, 7, 8, 8, 8, 8, 8, 8, 8, 8, 8, 8, 8, 8, 8, 8, 8, 8, 8, 8, 8, 8, 8, 8, 8, 8, 8, 8, 8, 8, 8, 8, 8, 8, 8, 8, 8, 8, 8, 8, 8, 8, 8, 8, 8, 8, 8, 8, 8, 8, 8, 8, 8, 8, 8, 8, 8, 8, 8, 8, 8, 8, 8, 8, 8, 8, 8, 8, 8, 8, 8, 8, 8, 8, 8, 8, 8, 8, 8, 8, 8, 8, 8, 8, 8, 8, 8, 8, 8, 8, 8, 8, 8, 8, 8, 8, 8, 8, 8, 8, 8, 8, 8, 8, 8, 8, 8, 8, 8, 8, 8, 8, 8, 8, 8, 8, 8, 8, 8, 8, 8, 8, 8, 8, 8, 8, 8, 8, 8, 8] (iconv .u8 y4)))))] (by kernel_rfl) ?_
   obtain ⟨x9, hx, h⟩ := of_bind h
   refine wpS.take 6 false (some 2) (.int .i64 x9) (by kernel_rfl) (yld_int hx (fun _ => by kernel_rfl)) ?_
   refine wpS.fin rfl (kr16 _ _ ?_)
   refine then_n (ks15 _ _ ?_)
   refine xret ?_
   have q0 := of_some h
   subst q0
   exact qq _ _ (post_ret (by kernel_rfl) (run_results [.tmp 2] [.int .i64 x9] (by kernel_rfl) (.cons (res_tmp (by kernel_rfl)) .nil)) ⟨congrArg Ending.returned (by kernel_rfl), hs.none⟩)

theorem dpack_span_width.ok {K : Nat} {a0_0 : Int} {a0_1 : Int} {r0 : Int} (h : dpack_span_width.f K a0_0 a0_1 = some r0) (w0 : World) : Ret Try.prog 49 #[.agg #[.int .i32 a0_0, .int .i32 a0_1]] w0 (.int .i64 r0) := by
 refine calls_k Try.func49 rfl fun Q qq => ?_
 have hs := St.start w0
 refine wp_conv (a' := ⟨#[.agg #[.int .i32 a0_0, .int .i32 a0_1], undef, undef, undef, undef, undef, undef], []⟩) (by kernel_rfl) ?_
 refine xseq_k fun KS1 ks1 => ?_
 refine wp_regS (l := [0, 1]) (by kernel_rfl) (by kernel_rfl) fun KR2 kr2 => ?_
 refine wpS.only 0 (op_box (t := 73) (v := .agg #[.int .i32 a0_0, .int .i32 a0_1]) (d := (some 1)) (by kernel_rfl) hs ([.int .i32 a0_0, .int .i32 a0_1]) (by kernel_rfl) (by kernel_rfl) ?_)
 intro b1 w gw hs
 refine ⟨fun _ => trivial, ?_⟩
 refine wpS.p 1 2 (.int .i64 0) (by kernel_rfl) ?_
 refine wpS.fin rfl (kr2 _ _ ?_)
 refine then_n (ks1 _ _ ?_)
 refine xseq_k fun KS3 ks3 => ?_
 refine wp_regS (l := [0, 1, 2, 3, 4]) (by kernel_rfl) (by kernel_rfl) fun KR4 kr4 => ?_
 refine wpS.take 0 true (some 3) (.agg #[.int .i32 a0_0, .int .i32 a0_1]) (by kernel_rfl) (yld_loadW (e := 73) (n := 2) hs 0 rfl (by kernel_rfl) (by kernel_rfl) (by kernel_rfl) (by simp [enc_len]) .grow) ?_
 obtain ⟨r2, hg, h⟩ := of_bind h
 refine wpS.only 1 (op_call (d := (some 4)) (by kernel_rfl) hs (fun _ => by kernel_rfl) (dpack_span_all.ok hg _) ?_)
 intro w gw hs
 refine ⟨fun _ => trivial, ?_⟩
 refine wpS.p 2 5 (.int .u32 (iconv .u32 r2)) (by kernel_rfl) ?_
 obtain ⟨r3, hg, h⟩ := of_bind h
 refine wpS.only 3 (op_call (d := (some 6)) (by kernel_rfl) hs (fun _ => by kernel_rfl) (math_bits_Len32.ok hg _) ?_)
 intro w gw hs
 refine ⟨fun _ => trivial, ?_⟩
 refine wpS.p 4 2 (.int .i64 r3) (by kernel_rfl) ?_
 refine wpS.fin rfl (kr4 _ _ ?_)
 refine then_n (ks3 _ _ ?_)
 refine xret ?_
 have q0 := of_some h
 subst q0
 exact qq _ _ (post_ret (by kernel_rfl) (run_results [.tmp 2] [.int .i64 r3] (by kernel_rfl) (.cons (res_tmp (by kernel_rfl)) .nil)) ⟨congrArg Ending.returned (by kernel_rfl), hs.none⟩)

theorem dpack_span_size.ok {K : Nat} {a0_0 : Int} {a0_1 : Int} {r0 : Int} (h : dpack_span_size.f K a0_0 a0_1 = some r0) (w0 : World) : Ret Try.prog 45 #[.agg #[.int .i32 a0_0, .int .i32 a0_1]] w0 (.int .i64 r0) := by
 refine calls_k Try.func45 rfl fun Q qq => ?_
 have hs := St.start w0
 refine wp_conv (a' := ⟨#[.agg #[.int .i32 a0_0, .int .i32 a0_1], undef, undef, undef, undef, undef], []⟩) (by kernel_rfl) ?_
 refine xseq_k fun KS1 ks1 => ?_
 refine wp_regS (l := [0, 1]) (by kernel_rfl) (by kernel_rfl) fun KR2 kr2 => ?_
 refine wpS.only 0 (op_box (t := 73) (v := .agg #[.int .i32 a0_0, .int .i32 a0_1]) (d := (some 1)) (by kernel_rfl) hs ([.int .i32 a0_0, .int .i32 a0_1]) (by kernel_rfl) (by kernel_rfl) ?_)
 intro b1 w gw hs
 refine ⟨fun _ => trivial, ?_⟩
 refine wpS.p 1 2 (.int .i64 0) (by kernel_rfl) ?_
 refine wpS.fin rfl (kr2 _ _ ?_)
 refine then_n (ks1 _ _ ?_)
 refine xseq_k fun KS3 ks3 => ?_
 refine wp_regS (l := [0, 1, 2, 3]) (by kernel_rfl) (by kernel_rfl) fun KR4 kr4 => ?_
 refine wpS.take 0 true (some 3) (.agg #[.int .i32 a0_0, .int .i32 a0_1]) (by kernel_rfl) (yld_loadW (e := 73) (n := 2) hs 0 rfl (by kernel_rfl) (by kernel_rfl) (by kernel_rfl) (by simp [enc_len]) .grow) ?_
 obtain ⟨r2, hg, h⟩ := of_bind h
 refine wpS.only 1 (op_call (d := (some 4)) (by kernel_rfl) hs (fun _ => by kernel_rfl) (dpack_span_width.ok hg _) ?_)
 intro w gw hs
 refine ⟨fun _ => trivial, ?_⟩
 refine wpS.p 2 5 (.int .i64 (imul .i64 32 r2)) (by kernel_rfl) ?_
 obtain ⟨x3, hx, h⟩ := of_bind h
 refine wpS.take 3 false (some 2) (.int .i64 x3) (by kernel_rfl) (yld_int hx (fun _ => by kernel_rfl)) ?_
 refine wpS.fin rfl (kr4 _ _ ?_)
 refine then_n (ks3 _ _ ?_)
 refine xret ?_
 have q0 := of_some h
 subst q0
 exact qq _ _ (post_ret (by kernel_rfl) (run_results [.tmp 2] [.int .i64 x3] (by kernel_rfl) (.cons (res_tmp (by kernel_rfl)) .nil)) ⟨congrArg Ending.returned (by kernel_rfl), hs.none⟩)

theorem dpack_Sizes.ok {K : Nat} {a0_0 : Int} {a0_1 : Int} {a0_2 : Int} {a0_3 : Int} {a0_4 : Int} {a0_5 : Int} {a0_6 : Int} {a0_7 : Int} {r0 : Int} {r1 : Int} {r2 : Int} (h : dpack_Sizes.f K a0_0 a0_1 a0_2 a0_3 a0_4 a0_5 a0_6 a0_7 = some (r0, r1, r2)) (w0 : World) : Ret Try.prog 18 #[.agg #[.int .i64 a0_0, .int .i64 a0_1, .int .i32 a0_2, .int .i64 a0_3, .int .i32 a0_4, .int .i32 a0_5, .int .i64 a0_6, .int .i64 a0_7]] w0 (.tuple #[.int .i64 r0, .int .i64 r1, .int .i64 r2]) := by
 refine calls_k Try.func18 rfl fun Q qq => ?_
 have hs := St.start w0
 refine wp_conv (a' := ⟨#[.agg #[.int .i64 a0_0, .int .i64 a0_1, .int .i32 a0_2, .int .i64 a0_3, .int .i32 a0_4, .int .i32 a0_5, .int .i64 a0_6, .int .i64 a0_7], undef, undef, undef, undef, undef, undef, undef, undef, undef, undef, undef, undef, undef, undef, undef, undef, undef, undef, undef, undef, undef, undef, undef, undef, undef, undef, undef, undef, undef, undef, undef, undef, undef, undef, undef, undef, undef, undef, undef, undef, undef, undef, undef, undef, undef, undef, undef, undef, undef, undef, undef, undef, undef, undef, undef, undef, undef], []⟩) (by kernel_rfl) ?_
 refine xseq_k fun KS1 ks1 => ?_
 refine wp_regS (l := [0, 1, 2, 3]) (by kernel_rfl) (by kernel_rfl) fun KR2 kr2 => ?_
 refine wpS.only 0 (op_box (t := 23) (v := .agg #[.int .i64 a0_0, .int .i64 a0_1, .int .i32 a0_2, .int .i64 a0_3, .int .i32 a0_4, .int .i32 a0_5, .int .i64 a0_6, .int .i64 a0_7]) (d := (some 1)) (by kernel_rfl) hs ([.int .i64 a0_0, .int .i64 a0_1, .int .i32 a0_2, .int .i64 a0_3, .int .i32 a0_4, .int .i32 a0_5, .int .i64 a0_6, .int .i64 a0_7]) (by kernel_rfl) (by kernel_rfl) ?_)
 intro b1 w gw hs
 refine ⟨fun _ => trivial, ?_⟩
 refine wpS.ps [(1, 2, .int .i64 0), (2, 3, .int .i64 0), (3, 4, .int .i64 0)] (by kernel_rfl) ?_
 refine wpS.fin rfl (kr2 _ _ ?_)
 refine then_n (ks1 _ _ ?_)
 refine xseq_k fun KS3 ks3 => ?_
 refine xseq_k fun KS4 ks4 => ?_
 refine wp_regS (l := [0, 1, 2]) (by kernel_rfl) (by kernel_rfl) fun KR5 kr5 => ?_
 refine wpS.take 0 true (some 7) (.agg #[.int .i64 a0_0, .int .i64 a0_1, .int .i32 a0_2, .int .i64 a0_3, .int .i32 a0_4, .int .i32 a0_5, .int .i64 a0_6, .int .i64 a0_7]) (by kernel_rfl) (yld_loadW (e := 23) (n := 8) hs 0 rfl (by kernel_rfl) (by kernel_rfl) (by kernel_rfl) (by simp [enc_len]) .grow) ?_
 obtain ⟨r2, hg, h⟩ := of_bind h
 cases r2 with
 | true =>
  have h := of_if_t h
  refine wpS.only 1 (op_call (d := (some 8)) (by kernel_rfl) hs (fun _ => by kernel_rfl) (dpack_known.ok hg _) ?_)
  intro w gw hs
  refine ⟨fun _ => trivial, ?_⟩
  refine wpS.p 2 9 (.bool false) (by kernel_rfl) ?_
  refine wpS.fin rfl (kr5 _ _ ?_)
  refine then_n (ks4 _ _ ?_)
  refine wp_cond_f (by kernel_rfl) ?_
  refine xskip ?_
  refine then_n (ks3 _ _ ?_)
  refine xseq_k fun KS6 ks6 => ?_
  refine wp_regS (l := [0, 1, 2, 3, 4, 5, 6, 7, 8, 9]) (by kernel_rfl) (by kernel_rfl) fun KR7 kr7 => ?_
  refine wpS.p 0 10 (.pointer (some ⟨b1, 2, none⟩)) (by kernel_rfl) ?_
  refine wpS.take 1 true (some 11) (.int .i32 a0_2) (by kernel_rfl) (yld_load1 (e := 21) (o := 2) hs 0 rfl (by kernel_rfl) (by kernel_rfl) (by rfl) .grow) ?_
  refine wpS.p 2 12 (.pointer (some ⟨b1, 2, none⟩)) (by kernel_rfl) ?_
  refine wpS.take 3 true (some 13) (.int .i32 a0_2) (by kernel_rfl) (yld_load1 (e := 21) (o := 2) hs 0 rfl (by kernel_rfl) (by kernel_rfl) (by rfl) .grow) ?_
  refine wpS.p 4 14 (.agg #[.int .i32 a0_2, .int .i32 a0_2]) (by kernel_rfl) ?_
  obtain ⟨r3, hg, h⟩ := of_bind h
  refine wpS.only 5 (op_call (d := (some 15)) (by kernel_rfl) hs (fun _ => by kernel_rfl) (dpack_span_size.ok hg _) ?_)
  intro w gw hs
  refine ⟨fun _ => trivial, ?_⟩
  refine wpS.p 6 16 (.agg #[.int .i32 4095, .int .i32 4096]) (by kernel_rfl) ?_
  obtain ⟨r4, hg, h⟩ := of_bind h
  refine wpS.only 7 (op_call (d := (some 17)) (by kernel_rfl) hs (fun _ => by kernel_rfl) (dpack_span_size.ok hg _) ?_)
  intro w gw hs
  refine ⟨fun _ => trivial, ?_⟩
  refine wpS.ps [(8, 5, .int .i64 r3), (9, 6, .int .i64 r4)] (by kernel_rfl) ?_
  refine wpS.fin rfl (kr7 _ _ ?_)
  refine then_n (ks6 _ _ ?_)
  refine xseq_k fun KS8 ks8 => ?_
  refine wp_regG [] (fun k => True) 7 (by kernel_rfl) (by kernel_rfl) (by kernel_rfl) fun KR9 kr9 => ?_
  have hs := hs.drawn1
  refine wpG.takeD 0 false (some 18) (.pointer (some ⟨b1, 0, none⟩)) (by kernel_rfl) (by kernel_rfl) (yld fun _ => by kernel_rfl) ?_
  refine wpG.takeD 1 true (some 19) (.int .i64 a0_0) (by kernel_rfl) (by kernel_rfl) (yld_load1 (e := 3) (o := 0) hs 0 rfl (by kernel_rfl) (by kernel_rfl) (by rfl) .grow) ?_
  refine wpG.takeD 2 false (some 20) (.agg #[.int .i32 (-1), .int .i32 1023]) (by kernel_rfl) (by kernel_rfl) (yld fun _ => by kernel_rfl) ?_
  obtain ⟨r5, hg, h⟩ := of_bind h
  refine wpG.only 3 (by kernel_rfl) (op_call (d := (some 21)) (by kernel_rfl) hs (fun _ => by kernel_rfl) (dpack_span_size.ok hg _) ?_)
  intro w gw hs
  refine ⟨.of gw, ?_⟩
  refine wpG.p 4 22 (.int .i64 (imul .i64 a0_0 r5)) (by kernel_rfl) (by kernel_rfl) ?_
  refine wpG.p 5 23 (.int .i64 (iadd .i64 32 (imul .i64 a0_0 r5))) (by kernel_rfl) (by kernel_rfl) ?_
  obtain ⟨x6, hx, h⟩ := of_bind h
  refine wpG.takeD 6 false (some 2) (.int .i64 x6) (by kernel_rfl) (by kernel_rfl) (yld_int hx (fun _ => by kernel_rfl)) ?_
  refine wpG.fin (by kernel_rfl) rfl (kr9 _ _ ?_)
  refine then_n (ks8 _ _ ?_)
  refine xseq_k fun KS10 ks10 => ?_
  refine wp_regS (l := [0, 1, 2, 3, 4, 5, 6, 7, 8, 9, 10, 11, 12, 13]) (by kernel_rfl) (by kernel_rfl) fun KR11 kr11 => ?_
  refine wpS.ps [(0, 24, .int .i64 r3), (1, 25, .pointer (some ⟨b1, 0, none⟩))] (by kernel_rfl) ?_
  refine wpS.take 2 true (some 26) (.int .i64 a0_0) (by kernel_rfl) (yld_load1 (e := 3) (o := 0) hs 0 rfl (by kernel_rfl) (by kernel_rfl) (by rfl) .grow) ?_
  refine wpS.p 3 27 (.pointer (some ⟨b1, 1, none⟩)) (by kernel_rfl) ?_
  refine wpS.take 4 true (some 28) (.int .i64 a0_1) (by kernel_rfl) (yld_load1 (e := 3) (o := 1) hs 0 rfl (by kernel_rfl) (by kernel_rfl) (by rfl) .grow) ?_
  refine wpS.ps [(5, 29, .int .i64 (iadd .i64 a0_0 a0_1)), (6, 30, .int .i64 (imul .i64 r3 (iadd .i64 a0_0 a0_1))), (7, 31, .int .i64 (iadd .i64 128 (imul .i64 r3 (iadd .i64 a0_0 a0_1)))), (8, 32, .int .i64 r4), (9, 33, .pointer (some ⟨b1, 0, none⟩))] (by kernel_rfl) ?_
  refine wpS.take 10 true (some 34) (.int .i64 a0_0) (by kernel_rfl) (yld_load1 (e := 3) (o := 0) hs 0 rfl (by kernel_rfl) (by kernel_rfl) (by rfl) .grow) ?_
  refine wpS.ps [(11, 35, .int .i64 (imul .i64 r4 a0_0)), (12, 36, .int .i64 (iadd .i64 (iadd .i64 128 (imul .i64 r3 (iadd .i64 a0_0 a0_1))) (imul .i64 r4 a0_0)))] (by kernel_rfl) ?_
  obtain ⟨x7, hx, h⟩ := of_bind h
  refine wpS.take 13 false (some 3) (.int .i64 x7) (by kernel_rfl) (yld_int hx (fun _ => by kernel_rfl)) ?_
  refine wpS.fin rfl (kr11 _ _ ?_)
  refine then_n (ks10 _ _ ?_)
  refine xseq_k fun KS12 ks12 => ?_
  refine wp_regG [] (fun k => True) 24 (by kernel_rfl) (by kernel_rfl) (by kernel_rfl) fun KR13 kr13 => ?_
  have hs := hs.drawn1
  refine wpG.p 0 37 (.int .i64 x6) (by kernel_rfl) (by kernel_rfl) ?_
  refine wpG.p 1 38 (.int .i64 x7) (by kernel_rfl) (by kernel_rfl) ?_
  refine wpG.takeD 2 false (some 39) (.pointer (some ⟨b1, 7, none⟩)) (by kernel_rfl) (by kernel_rfl) (yld fun _ => by kernel_rfl) ?_
  refine wpG.takeD 3 true (some 40) (.int .i64 a0_7) (by kernel_rfl) (by kernel_rfl) (yld_load1 (e := 3) (o := 7) hs 0 rfl (by kernel_rfl) (by kernel_rfl) (by rfl) .grow) ?_
  refine wpG.takeD 4 false (some 41) (.pointer (some ⟨b1, 1, none⟩)) (by kernel_rfl) (by kernel_rfl) (yld fun _ => by kernel_rfl) ?_
  refine wpG.takeD 5 true (some 42) (.int .i64 a0_1) (by kernel_rfl) (by kernel_rfl) (yld_load1 (e := 3) (o := 1) hs 0 rfl (by kernel_rfl) (by kernel_rfl) (by rfl) .grow) ?_
  refine wpG.takeD 6 false (some 43) (.pointer (some ⟨b1, 4, none⟩)) (by kernel_rfl) (by kernel_rfl) (yld fun _ => by kernel_rfl) ?_
  refine wpG.takeD 7 true (some 44) (.int .i32 a0_4) (by kernel_rfl) (by kernel_rfl) (yld_load1 (e := 21) (o := 4) hs 0 rfl (by kernel_rfl) (by kernel_rfl) (by rfl) .grow) ?_
  refine wpG.takeD 8 false (some 45) (.int .i32 (isub .i32 a0_4 1)) (by kernel_rfl) (by kernel_rfl) (yld fun _ => by kernel_rfl) ?_
  refine wpG.takeD 9 false (some 46) (.pointer (some ⟨b1, 4, none⟩)) (by kernel_rfl) (by kernel_rfl) (yld fun _ => by kernel_rfl) ?_
  refine wpG.takeD 10 true (some 47) (.int .i32 a0_4) (by kernel_rfl) (by kernel_rfl) (yld_load1 (e := 21) (o := 4) hs 0 rfl (by kernel_rfl) (by kernel_rfl) (by rfl) .grow) ?_
  refine wpG.takeD 11 false (some 48) (.agg #[.int .i32 (isub .i32 a0_4 1), .int .i32 a0_4]) (by kernel_rfl) (by kernel_rfl) (yld fun _ => by kernel_rfl) ?_
  refine wpG.takeD 15 false (some 52) (.pointer (some ⟨b1, 6, none⟩)) (by kernel_rfl) (by kernel_rfl) (yld fun _ => by kernel_rfl) ?_
  refine wpG.takeD 16 true (some 53) (.int .i64 a0_6) (by kernel_rfl) (by kernel_rfl) (yld_load1 (e := 3) (o := 6) hs 0 rfl (by kernel_rfl) (by kernel_rfl) (by rfl) .grow) ?_
  refine wpG.takeD 18 false (some 55) (.pointer (some ⟨b1, 0, none⟩)) (by kernel_rfl) (by kernel_rfl) (yld fun _ => by kernel_rfl) ?_
  refine wpG.takeD 19 true (some 56) (.int .i64 a0_0) (by kernel_rfl) (by kernel_rfl) (yld_load1 (e := 3) (o := 0) hs 0 rfl (by kernel_rfl) (by kernel_rfl) (by rfl) .grow) ?_
  obtain ⟨r8, hg, h⟩ := of_bind h
  refine wpG.only 12 (by kernel_rfl) (op_call (d := (some 49)) (by kernel_rfl) hs (fun _ => by kernel_rfl) (dpack_span_size.ok hg _) ?_)
  intro w gw hs
  refine ⟨.of gw, ?_⟩
  refine wpG.takeD 13 false (some 50) (.int .i64 (imul .i64 a0_1 r8)) (by kernel_rfl) (by kernel_rfl) (yld fun _ => by kernel_rfl) ?_
  refine wpG.takeD 14 false (some 51) (.int .i64 (iadd .i64 a0_7 (imul .i64 a0_1 r8))) (by kernel_rfl) (by kernel_rfl) (yld fun _ => by kernel_rfl) ?_
  refine wpG.p 17 54 (.int .i64 (iadd .i64 (iadd .i64 a0_7 (imul .i64 a0_1 r8)) a0_6)) (by kernel_rfl) (by kernel_rfl) ?_
  refine wpG.p 20 57 (.int .i64 (iadd .i64 (iadd .i64 (iadd .i64 a0_7 (imul .i64 a0_1 r8)) a0_6) a0_0)) (by kernel_rfl) (by kernel_rfl) ?_
  refine wpG.p 21 2 (.int .i64 x6) (by kernel_rfl) (by kernel_rfl) ?_
  refine wpG.p 22 3 (.int .i64 x7) (by kernel_rfl) (by kernel_rfl) ?_
  obtain ⟨x9, hx, h⟩ := of_bind h
  refine wpG.takeD 23 false (some 4) (.int .i64 x9) (by kernel_rfl) (by kernel_rfl) (yld_int hx (fun _ => by kernel_rfl)) ?_
  refine wpG.fin (by kernel_rfl) rfl (kr13 _ _ ?_)
  refine then_n (ks12 _ _ ?_)
  refine xret ?_
  obtain ⟨q0, qr0⟩ := Prod.mk.inj (of_some h)
  obtain ⟨q1, qr1⟩ := Prod.mk.inj (qr0)
  have q2 := qr1
  subst q0
  subst q1
  subst q2
  exact qq _ _ (post_ret (by kernel_rfl) (run_results [.tmp 2, .tmp 3, .tmp 4] [.int .i64 x6, .int .i64 x7, .int .i64 x9] (by kernel_rfl) (.cons (res_tmp (by kernel_rfl)) (.cons (res_tmp (by kernel_rfl)) (.cons (res_tmp (by kernel_rfl)) .nil)))) ⟨congrArg Ending.returned (by kernel_rfl), hs.none⟩)
 | false =>
  have h := of_if_f h
  refine wpS.only 1 (op_call (d := (some 8)) (by kernel_rfl) hs (fun _ => by kernel_rfl) (dpack_known.ok hg _) ?_)
  intro w gw hs
  refine ⟨fun _ => trivial, ?_⟩
  refine wpS.p 2 9 (.bool true) (by kernel_rfl) ?_
  refine wpS.fin rfl (kr5 _ _ ?_)
  refine then_n (ks4 _ _ ?_)
  refine wp_cond_t (by kernel_rfl) ?_
  refine xseq_k fun KS14 ks14 => ?_
  refine wp_regS (l := [0, 1, 2]) (by kernel_rfl) (by kernel_rfl) fun KR15 kr15 => ?_
  refine wpS.ps [(0, 2, .int .i64 0), (1, 3, .int .i64 0), (2, 4, .int .i64 0)] (by kernel_rfl) ?_
  refine wpS.fin rfl (kr15 _ _ ?_)
  refine then_n (ks14 _ _ ?_)
  refine xret ?_
  refine then_r ?_
  obtain ⟨q0, qr0⟩ := Prod.mk.inj (of_some h)
  obtain ⟨q1, qr1⟩ := Prod.mk.inj (qr0)
  have q2 := qr1
  subst q0
  subst q1
  subst q2
  exact qq _ _ (post_ret (by kernel_rfl) (run_results [.tmp 2, .tmp 3, .tmp 4] [.int .i64 0, .int .i64 0, .int .i64 0] (by kernel_rfl) (.cons (res_tmp (by kernel_rfl)) (.cons (res_tmp (by kernel_rfl)) (.cons (res_tmp (by kernel_rfl)) .nil)))) ⟨congrArg Ending.returned (by kernel_rfl), hs.none⟩)
end Go.Proofs.Ytblploekkjeolaa
