/- Printed by this work's own program: the code of each function below comes to the answer that its plain form tells. -/
import Derived.Test.YtblploekkjeolaaMv
import Derived.Test.YtblploekkjeolaaProg
import Derived.Test.YtblploekkjeolaaDF0
import Derived.Test.YtblploekkjeolaaDX0
import Derived.Test.YtblploekkjeolaaDX1
set_option linter.unusedVariables false
set_option linter.unusedSimpArgs false
set_option maxRecDepth 100000
set_option maxHeartbeats 4000000
namespace Go.Proofs.Ytblploekkjeolaa
open Go.Mx
attribute [local irreducible] wpOp

theorem ref22_Sizes.ok {K : Nat} {a0_0 : Int} {a0_1 : Int} {a0_2 : Int} {a0_3 : Int} {a0_4 : Int} {a0_5 : Int} {a0_6 : Int} {a0_7 : Int} {r0 : Int} {r1 : Int} {r2 : Int} (h : ref22_Sizes.f K a0_0 a0_1 a0_2 a0_3 a0_4 a0_5 a0_6 a0_7 = some (r0, r1, r2)) (w0 : World) : Ret Try.prog 19 #[.agg #[.int .i64 a0_0, .int .i64 a0_1, .int .i32 a0_2, .int .i64 a0_3, .int .i32 a0_4, .int .i32 a0_5, .int .i64 a0_6, .int .i64 a0_7]] w0 (.tuple #[.int .i64 r0, .int .i64 r1, .int .i64 r2]) := by
 refine calls_k Try.func19 rfl fun Q qq => ?_
 have hs := St.start w0
 refine wp_conv (a' := ⟨#[.agg #[.int .i64 a0_0, .int .i64 a0_1, .int .i32 a0_2, .int .i64 a0_3, .int .i32 a0_4, .int .i32 a0_5, .int .i64 a0_6, .int .i64 a0_7], undef, undef, undef, undef, undef, undef, undef, undef, undef, undef, undef, undef, undef, undef, undef, undef, undef, undef, undef, undef, undef, undef, undef, undef, undef, undef, undef, undef, undef, undef, undef, undef, undef, undef, undef, undef, undef, undef, undef, undef, undef, undef, undef, undef, undef, undef, undef, undef, undef, undef, undef], []⟩) (by kernel_rfl) ?_
 refine xseq_k fun KS1 ks1 => ?_
 refine wp_regS (l := [0, 1, 2, 3]) (by kernel_rfl) (by kernel_rfl) fun KR2 kr2 => ?_
 refine wpS.only 0 (op_box (t := 23) (v := .agg #[.int .i64 a0_0, .int .i64 a0_1, .int .i32 a0_2, .int .i64 a0_3, .int .i32 a0_4, .int .i32 a0_5, .int .i64 a0_6, .int .i64 a0_7]) (d := (some 1)) (by kernel_rfl) hs ([.int .i64 a0_0, .int .i64 a0_1, .int .i32 a0_2, .int .i64 a0_3, .int .i32 a0_4, .int .i32 a0_5, .int .i64 a0_6, .int .i64 a0_7]) (by kernel_rfl) (by kernel_rfl) ?_)
 intro b1 w gw hs
 refine ⟨fun _ => trivial, ?_⟩
 refine wpS.ps [(1, 2, .int .i64 0), (2, 3, .int .i64 0), (3, 4, .int .i64 0)] (by kernel_rfl) ?_
 refine wpS.fin rfl (kr2 _ _ ?_)
 refine then_n (ks1 _ _ ?_)
 refine xseq_k fun KS3 ks3 => ?_
 refine xseq_k fun KS4 ks4 => ?_
 refine wp_regS (l := [0, 1, 2]) (by kernel_rfl) (by kernel_rfl) fun KR5 kr5 => ?_
 refine wpS.take 0 true (some 7) (.agg #[.int .i64 a0_0, .int .i64 a0_1, .int .i32 a0_2, .int .i64 a0_3, .int .i32 a0_4, .int .i32 a0_5, .int .i64 a0_6, .int .i64 a0_7]) (by kernel_rfl) (yld_loadW (e := 23) (n := 8) hs 0 rfl (by kernel_rfl) (by kernel_rfl) (by kernel_rfl) (by simp [enc_len]) .grow) ?_
 obtain ⟨r2, hg, h⟩ := of_bind h
 cases r2 with
 | true =>
  have h := of_if_t h
  refine wpS.only 1 (op_call (d := (some 8)) (by kernel_rfl) hs (fun _ => by kernel_rfl) (ref22_Known.ok hg _) ?_)
  intro w gw hs
  refine ⟨fun _ => trivial, ?_⟩
  refine wpS.p 2 9 (.bool false) (by kernel_rfl) ?_
  refine wpS.fin rfl (kr5 _ _ ?_)
  refine then_n (ks4 _ _ ?_)
  refine wp_cond_f (by kernel_rfl) ?_
  refine xskip ?_
  refine then_n (ks3 _ _ ?_)
  refine xseq_k fun KS6 ks6 => ?_
  refine wp_regS (l := [0, 1, 2, 3, 4, 5, 6]) (by kernel_rfl) (by kernel_rfl) fun KR7 kr7 => ?_
  refine wpS.p 0 10 (.pointer (some ⟨b1, 2, none⟩)) (by kernel_rfl) ?_
  refine wpS.take 1 true (some 11) (.int .i32 a0_2) (by kernel_rfl) (yld_load1 (e := 21) (o := 2) hs 0 rfl (by kernel_rfl) (by kernel_rfl) (by rfl) .grow) ?_
  refine wpS.p 2 12 (.pointer (some ⟨b1, 2, none⟩)) (by kernel_rfl) ?_
  refine wpS.take 3 true (some 13) (.int .i32 a0_2) (by kernel_rfl) (yld_load1 (e := 21) (o := 2) hs 0 rfl (by kernel_rfl) (by kernel_rfl) (by rfl) .grow) ?_
  obtain ⟨r3, hg, h⟩ := of_bind h
  refine wpS.only 4 (op_call (d := (some 14)) (by kernel_rfl) hs (fun _ => by kernel_rfl) (ref22_bitsOf.ok hg _) ?_)
  intro w gw hs
  refine ⟨fun _ => trivial, ?_⟩
  refine wpS.p 5 15 (.int .i64 (imul .i64 32 r3)) (by kernel_rfl) ?_
  obtain ⟨x4, hx, h⟩ := of_bind h
  refine wpS.take 6 false (some 5) (.int .i64 x4) (by kernel_rfl) (yld_int hx (fun _ => by kernel_rfl)) ?_
  refine wpS.fin rfl (kr7 _ _ ?_)
  refine then_n (ks6 _ _ ?_)
  refine xseq_k fun KS8 ks8 => ?_
  refine wp_regS (l := [0, 1, 2, 3, 4, 5, 6, 7]) (by kernel_rfl) (by kernel_rfl) fun KR9 kr9 => ?_
  refine wpS.p 0 16 (.pointer (some ⟨b1, 4, none⟩)) (by kernel_rfl) ?_
  refine wpS.take 1 true (some 17) (.int .i32 a0_4) (by kernel_rfl) (yld_load1 (e := 21) (o := 4) hs 0 rfl (by kernel_rfl) (by kernel_rfl) (by rfl) .grow) ?_
  refine wpS.ps [(2, 18, .int .i32 (isub .i32 a0_4 1)), (3, 19, .pointer (some ⟨b1, 4, none⟩))] (by kernel_rfl) ?_
  refine wpS.take 4 true (some 20) (.int .i32 a0_4) (by kernel_rfl) (yld_load1 (e := 21) (o := 4) hs 0 rfl (by kernel_rfl) (by kernel_rfl) (by rfl) .grow) ?_
  obtain ⟨r5, hg, h⟩ := of_bind h
  refine wpS.only 5 (op_call (d := (some 21)) (by kernel_rfl) hs (fun _ => by kernel_rfl) (ref22_bitsOf.ok hg _) ?_)
  intro w gw hs
  refine ⟨fun _ => trivial, ?_⟩
  refine wpS.p 6 22 (.int .i64 (imul .i64 32 r5)) (by kernel_rfl) ?_
  obtain ⟨x6, hx, h⟩ := of_bind h
  refine wpS.take 7 false (some 6) (.int .i64 x6) (by kernel_rfl) (yld_int hx (fun _ => by kernel_rfl)) ?_
  refine wpS.fin rfl (kr9 _ _ ?_)
  refine then_n (ks8 _ _ ?_)
  refine xseq_k fun KS10 ks10 => ?_
  refine wp_regG [] (fun k => True) 32 (by kernel_rfl) (by kernel_rfl) (by kernel_rfl) fun KR11 kr11 => ?_
  have hs := hs.drawn1
  refine wpG.takeD 0 false (some 23) (.pointer (some ⟨b1, 0, none⟩)) (by kernel_rfl) (by kernel_rfl) (yld fun _ => by kernel_rfl) ?_
  refine wpG.takeD 1 true (some 24) (.int .i64 a0_0) (by kernel_rfl) (by kernel_rfl) (yld_load1 (e := 3) (o := 0) hs 0 rfl (by kernel_rfl) (by kernel_rfl) (by rfl) .grow) ?_
  refine wpG.p 2 25 (.int .i64 (imul .i64 320 a0_0)) (by kernel_rfl) (by kernel_rfl) ?_
  refine wpG.p 3 26 (.int .i64 (iadd .i64 32 (imul .i64 320 a0_0))) (by kernel_rfl) (by kernel_rfl) ?_
  refine wpG.takeD 4 false (some 27) (.int .i64 x4) (by kernel_rfl) (by kernel_rfl) (yld fun _ => by kernel_rfl) ?_
  refine wpG.takeD 5 false (some 28) (.pointer (some ⟨b1, 0, none⟩)) (by kernel_rfl) (by kernel_rfl) (yld fun _ => by kernel_rfl) ?_
  refine wpG.takeD 6 true (some 29) (.int .i64 a0_0) (by kernel_rfl) (by kernel_rfl) (yld_load1 (e := 3) (o := 0) hs 0 rfl (by kernel_rfl) (by kernel_rfl) (by rfl) .grow) ?_
  refine wpG.takeD 7 false (some 30) (.pointer (some ⟨b1, 1, none⟩)) (by kernel_rfl) (by kernel_rfl) (yld fun _ => by kernel_rfl) ?_
  refine wpG.takeD 8 true (some 31) (.int .i64 a0_1) (by kernel_rfl) (by kernel_rfl) (yld_load1 (e := 3) (o := 1) hs 0 rfl (by kernel_rfl) (by kernel_rfl) (by rfl) .grow) ?_
  refine wpG.takeD 9 false (some 32) (.int .i64 (iadd .i64 a0_0 a0_1)) (by kernel_rfl) (by kernel_rfl) (yld fun _ => by kernel_rfl) ?_
  refine wpG.takeD 10 false (some 33) (.int .i64 (imul .i64 x4 (iadd .i64 a0_0 a0_1))) (by kernel_rfl) (by kernel_rfl) (yld fun _ => by kernel_rfl) ?_
  refine wpG.p 11 34 (.int .i64 (iadd .i64 128 (imul .i64 x4 (iadd .i64 a0_0 a0_1)))) (by kernel_rfl) (by kernel_rfl) ?_
  refine wpG.takeD 12 false (some 35) (.pointer (some ⟨b1, 0, none⟩)) (by kernel_rfl) (by kernel_rfl) (yld fun _ => by kernel_rfl) ?_
  refine wpG.takeD 13 true (some 36) (.int .i64 a0_0) (by kernel_rfl) (by kernel_rfl) (yld_load1 (e := 3) (o := 0) hs 0 rfl (by kernel_rfl) (by kernel_rfl) (by rfl) .grow) ?_
  refine wpG.p 14 37 (.int .i64 (imul .i64 416 a0_0)) (by kernel_rfl) (by kernel_rfl) ?_
  refine wpG.p 15 38 (.int .i64 (iadd .i64 (iadd .i64 128 (imul .i64 x4 (iadd .i64 a0_0 a0_1))) (imul .i64 416 a0_0))) (by kernel_rfl) (by kernel_rfl) ?_
  refine wpG.takeD 16 false (some 39) (.pointer (some ⟨b1, 7, none⟩)) (by kernel_rfl) (by kernel_rfl) (yld fun _ => by kernel_rfl) ?_
  refine wpG.takeD 17 true (some 40) (.int .i64 a0_7) (by kernel_rfl) (by kernel_rfl) (yld_load1 (e := 3) (o := 7) hs 0 rfl (by kernel_rfl) (by kernel_rfl) (by rfl) .grow) ?_
  refine wpG.takeD 18 false (some 41) (.int .i64 x6) (by kernel_rfl) (by kernel_rfl) (yld fun _ => by kernel_rfl) ?_
  refine wpG.takeD 19 false (some 42) (.pointer (some ⟨b1, 1, none⟩)) (by kernel_rfl) (by kernel_rfl) (yld fun _ => by kernel_rfl) ?_
  refine wpG.takeD 20 true (some 43) (.int .i64 a0_1) (by kernel_rfl) (by kernel_rfl) (yld_load1 (e := 3) (o := 1) hs 0 rfl (by kernel_rfl) (by kernel_rfl) (by rfl) .grow) ?_
  refine wpG.takeD 21 false (some 44) (.int .i64 (imul .i64 x6 a0_1)) (by kernel_rfl) (by kernel_rfl) (yld fun _ => by kernel_rfl) ?_
  refine wpG.takeD 22 false (some 45) (.int .i64 (iadd .i64 a0_7 (imul .i64 x6 a0_1))) (by kernel_rfl) (by kernel_rfl) (yld fun _ => by kernel_rfl) ?_
  refine wpG.takeD 23 false (some 46) (.pointer (some ⟨b1, 6, none⟩)) (by kernel_rfl) (by kernel_rfl) (yld fun _ => by kernel_rfl) ?_
  refine wpG.takeD 24 true (some 47) (.int .i64 a0_6) (by kernel_rfl) (by kernel_rfl) (yld_load1 (e := 3) (o := 6) hs 0 rfl (by kernel_rfl) (by kernel_rfl) (by rfl) .grow) ?_
  refine wpG.p 25 48 (.int .i64 (iadd .i64 (iadd .i64 a0_7 (imul .i64 x6 a0_1)) a0_6)) (by kernel_rfl) (by kernel_rfl) ?_
  refine wpG.takeD 26 false (some 49) (.pointer (some ⟨b1, 0, none⟩)) (by kernel_rfl) (by kernel_rfl) (yld fun _ => by kernel_rfl) ?_
  refine wpG.takeD 27 true (some 50) (.int .i64 a0_0) (by kernel_rfl) (by kernel_rfl) (yld_load1 (e := 3) (o := 0) hs 0 rfl (by kernel_rfl) (by kernel_rfl) (by rfl) .grow) ?_
  refine wpG.p 28 51 (.int .i64 (iadd .i64 (iadd .i64 (iadd .i64 a0_7 (imul .i64 x6 a0_1)) a0_6) a0_0)) (by kernel_rfl) (by kernel_rfl) ?_
  obtain ⟨x7, hx, h⟩ := of_bind h
  refine wpG.takeD 29 false (some 2) (.int .i64 x7) (by kernel_rfl) (by kernel_rfl) (yld_int hx (fun _ => by kernel_rfl)) ?_
  obtain ⟨x8, hx, h⟩ := of_bind h
  refine wpG.takeD 30 false (some 3) (.int .i64 x8) (by kernel_rfl) (by kernel_rfl) (yld_int hx (fun _ => by kernel_rfl)) ?_
  obtain ⟨x9, hx, h⟩ := of_bind h
  refine wpG.takeD 31 false (some 4) (.int .i64 x9) (by kernel_rfl) (by kernel_rfl) (yld_int hx (fun _ => by kernel_rfl)) ?_
  refine wpG.fin (by kernel_rfl) rfl (kr11 _ _ ?_)
  refine then_n (ks10 _ _ ?_)
  refine xret ?_
  obtain ⟨q0, qr0⟩ := Prod.mk.inj (of_some h)
  obtain ⟨q1, qr1⟩ := Prod.mk.inj (qr0)
  have q2 := qr1
  subst q0
  subst q1
  subst q2
  exact qq _ _ (post_ret (by kernel_rfl) (run_results [.tmp 2, .tmp 3, .tmp 4] [.int .i64 x7, .int .i64 x8, .int .i64 x9] (by kernel_rfl) (.cons (res_tmp (by kernel_rfl)) (.cons (res_tmp (by kernel_rfl)) (.cons (res_tmp (by kernel_rfl)) .nil)))) ⟨congrArg Ending.returned (by kernel_rfl), hs.none⟩)
 | false =>
  have h := of_if_f h
  refine wpS.only 1 (op_call (d := (some 8)) (by kernel_rfl) hs (fun _ => by kernel_rfl) (ref22_Known.ok hg _) ?_)
  intro w gw hs
  refine ⟨fun _ => trivial, ?_⟩
  refine wpS.p 2 9 (.bool true) (by kernel_rfl) ?_
  refine wpS.fin rfl (kr5 _ _ ?_)
  refine then_n (ks4 _ _ ?_)
  refine wp_cond_t (by kernel_rfl) ?_
  refine xseq_k fun KS12 ks12 => ?_
  refine wp_regS (l := [0, 1, 2]) (by kernel_rfl) (by kernel_rfl) fun KR13 kr13 => ?_
  refine wpS.ps [(0, 2, .int .i64 0), (1, 3, .int .i64 0), (2, 4, .int .i64 0)] (by kernel_rfl) ?_
  refine wpS.fin rfl (kr13 _ _ ?_)
  refine then_n (ks12 _ _ ?_)
  refine xret ?_
  refine then_r ?_
  obtain ⟨q0, qr0⟩ := Prod.mk.inj (of_some h)
  obtain ⟨q1, qr1⟩ := Prod.mk.inj (qr0)
  have q2 := qr1
  subst q0
  subst q1
  subst q2
  exact qq _ _ (post_ret (by kernel_rfl) (run_results [.tmp 2, .tmp 3, .tmp 4] [.int .i64 0, .int .i64 0, .int .i64 0] (by kernel_rfl) (.cons (res_tmp (by kernel_rfl)) (.cons (res_tmp (by kernel_rfl)) (.cons (res_tmp (by kernel_rfl)) .nil)))) ⟨congrArg Ending.returned (by kernel_rfl), hs.none⟩)

theorem bits_such.ok {K : Nat} {a0 : List Int} {a1 : Int} {a2 : Int} {r0 : Bool} {a0_A : Option Addr} {a0_n : Nat} {a0_c : Nat} (h : bits_such.f K a0 a1 a2 = some r0) (w0 : World) (hp0 : RowL (CI .u8) w0 a0_A a0_n a0_c a0) : Ret Try.prog 66 #[.slice a0_A a0_n a0_c, .int .i64 a1, .int .i64 a2] w0 (.bool r0) := by
 refine calls_k Try.func66 rfl fun Q qq => ?_
 have hs := St.startR (all_cons (RowP.ent hp0) all_nil)
 refine wp_conv (a' := ⟨#[.slice a0_A a0_n a0_c, .int .i64 a1, .int .i64 a2, undef, undef, undef, undef, undef, undef, undef, undef, undef, undef, undef, undef, undef, undef, undef, undef, undef, undef, undef, undef, undef, undef, undef], []⟩) (by kernel_rfl) ?_
 refine xseq_k fun KS1 ks1 => ?_
 refine wp_regS (l := [0]) (by kernel_rfl) (by kernel_rfl) fun KR2 kr2 => ?_
 refine wpS.p 0 6 (.bool false) (by kernel_rfl) ?_
 refine wpS.fin rfl (kr2 _ _ ?_)
 refine then_n (ks1 _ _ ?_)
 refine xseq_k fun KS3 ks3 => ?_
 refine wp_regS (l := [0, 1, 2, 3, 4, 5, 6, 7, 8, 9, 10, 11, 12, 13, 14, 15, 16, 17, 18, 19]) (by kernel_rfl) (by kernel_rfl) fun KR4 kr4 => ?_
 refine wpS.p 0 7 (.int .i64 a1) (by kernel_rfl) ?_
 rcases of_if h with ⟨hc, h⟩ | ⟨hc, h⟩
 ·refine wpS.take 1 false (some 8) (.bool true) (by kernel_rfl) (yld_b (dt hc) (fun _ => by kernel_rfl)) ?_
  refine wpS.ps [(2, 9, .bool true), (3, 10, .int .i64 a1)] (by kernel_rfl) ?_
  rcases of_if h with ⟨hc, h⟩ | ⟨hc, h⟩
  ·refine wpS.take 4 false (some 11) (.bool true) (by kernel_rfl) (yld_b (dt hc) (fun _ => by kernel_rfl)) ?_
   refine wpS.ps [(5, 12, .bool true), (6, 13, .bool true), (7, 14, .int .i64 a2)] (by kernel_rfl) ?_
   rcases of_if h with ⟨hc, h⟩ | ⟨hc, h⟩
   ·refine wpS.take 8 false (some 15) (.bool true) (by kernel_rfl) (yld_b (dt hc) (fun _ => by kernel_rfl)) ?_
    refine wpS.ps [(9, 16, .bool true), (10, 17, .bool true), (11, 18, .int .i64 a2), (12, 19, .slice a0_A a0_n a0_c)] (by kernel_rfl) ?_
    refine wpS.take 13 false (some 20) (.int .i64 (a0.length : Int)) (by kernel_rfl) (yld_lenL (hs.rowR 0 rfl) (fun _ => by kernel_rfl)) ?_
    refine wpS.ps [(14, 21, .int .i64 (imul .i64 (a0.length : Int) 8)), (15, 22, .int .i64 a1)] (by kernel_rfl) ?_
    obtain ⟨h0, h⟩ := of_chk h
    refine wpS.take 16 false (some 23) (.int .i64 (iquo .i64 (imul .i64 (a0.length : Int) 8) a1)) (by kernel_rfl) (yld_quo (t := 3) (by kernel_rfl) h0) ?_
    refine wpS.ps [(17, 24, .bool (decide (a2 ≤ (iquo .i64 (imul .i64 (a0.length : Int) 8) a1)))), (18, 25, .bool (decide (a2 ≤ (iquo .i64 (imul .i64 (a0.length : Int) 8) a1)))), (19, 6, .bool (decide (a2 ≤ (iquo .i64 (imul .i64 (a0.length : Int) 8) a1))))] (by kernel_rfl) ?_
    refine wpS.fin rfl (kr4 _ _ ?_)
    refine then_n (ks3 _ _ ?_)
    refine xret ?_
    have q0 := of_some h
    subst q0
    exact qq _ _ (post_ret (by kernel_rfl) (run_results [.tmp 6] [.bool (decide (a2 ≤ (iquo .i64 (imul .i64 (a0.length : Int) 8) a1)))] (by kernel_rfl) (.cons (res_tmp (by kernel_rfl)) .nil)) ⟨congrArg Ending.returned (by kernel_rfl), hs.none⟩)
   ·refine wpS.take 8 false (some 15) (.bool false) (by kernel_rfl) (yld_b (df hc) (fun _ => by kernel_rfl)) ?_
    refine wpS.ps [(9, 16, .bool false), (10, 17, .bool false), (11, 18, undef), (12, 19, undef), (13, 20, undef), (14, 21, undef), (15, 22, undef), (16, 23, undef), (17, 24, undef), (18, 25, .bool false), (19, 6, .bool false)] (by kernel_rfl) ?_
    refine wpS.fin rfl (kr4 _ _ ?_)
    refine then_n (ks3 _ _ ?_)
    refine xret ?_
    have q0 := of_some h
    subst q0
    exact qq _ _ (post_ret (by kernel_rfl) (run_results [.tmp 6] [.bool false] (by kernel_rfl) (.cons (res_tmp (by kernel_rfl)) .nil)) ⟨congrArg Ending.returned (by kernel_rfl), hs.none⟩)
  ·refine wpS.take 4 false (some 11) (.bool false) (by kernel_rfl) (yld_b (df hc) (fun _ => by kernel_rfl)) ?_
   refine wpS.ps [(5, 12, .bool false), (6, 13, .bool false), (7, 14, undef), (8, 15, undef), (9, 16, .bool false), (10, 17, .bool false), (11, 18, undef), (12, 19, undef), (13, 20, undef), (14, 21, undef), (15, 22, undef), (16, 23, undef), (17, 24, undef), (18, 25, .bool false), (19, 6, .bool false)] (by kernel_rfl) ?_
   refine wpS.fin rfl (kr4 _ _ ?_)
   refine then_n (ks3 _ _ ?_)
   refine xret ?_
   have q0 := of_some h
   subst q0
   exact qq _ _ (post_ret (by kernel_rfl) (run_results [.tmp 6] [.bool false] (by kernel_rfl) (.cons (res_tmp (by kernel_rfl)) .nil)) ⟨congrArg Ending.returned (by kernel_rfl), hs.none⟩)
 ·refine wpS.take 1 false (some 8) (.bool false) (by kernel_rfl) (yld_b (df hc) (fun _ => by kernel_rfl)) ?_
  refine wpS.ps [(2, 9, .bool false), (3, 10, undef), (4, 11, undef), (5, 12, .bool false), (6, 13, .bool false), (7, 14, undef), (8, 15, undef), (9, 16, .bool false), (10, 17, .bool false), (11, 18, undef), (12, 19, undef), (13, 20, undef), (14, 21, undef), (15, 22, undef), (16, 23, undef), (17, 24, undef), (18, 25, .bool false), (19, 6, .bool false)] (by kernel_rfl) ?_
  refine wpS.fin rfl (kr4 _ _ ?_)
  refine then_n (ks3 _ _ ?_)
  refine xret ?_
  have q0 := of_some h
  subst q0
  exact qq _ _ (post_ret (by kernel_rfl) (run_results [.tmp 6] [.bool false] (by kernel_rfl) (.cons (res_tmp (by kernel_rfl)) .nil)) ⟨congrArg Ending.returned (by kernel_rfl), hs.none⟩)

theorem bits_Unpack.ok {K : Nat} {a0 : List Int} {a1 : Int} {a2 : Int} {r0 : List Int} {a0_A : Option Addr} {a0_n : Nat} {a0_c : Nat} (h : bits_Unpack.f K a0 a1 a2 = some r0) (w0 : World) (hp0 : RowL (CI .u8) w0 a0_A a0_n a0_c a0) : Calls Try.prog 48 #[.slice a0_A a0_n a0_c, .int .i64 a1, .int .i64 a2] w0 fun e w' => ∃ h : (Option Addr × Nat × Nat), e = .returned (.slice h.1 h.2.1 h.2.2) ∧ St w0 [] [.ownL (CI .u32) h.1 h.2.1 h.2.2 r0 84] [] w' := by
 refine calls_k Try.func48 rfl fun Q qq => ?_
 have hs := St.startR (all_cons (RowP.ent hp0) all_nil)
 refine wp_conv (a' := ⟨#[.slice a0_A a0_n a0_c, .int .i64 a1, .int .i64 a2, undef, undef, undef, undef, undef, undef, undef, undef, undef, undef, undef, undef, undef, undef, undef, undef, undef, undef, undef, undef, undef, undef, undef, undef, undef, undef, undef, undef, undef, undef, undef, undef, undef, undef, undef, undef, undef, undef, undef, undef, undef, undef, undef, undef, undef, undef, undef, undef, undef, undef, undef, undef], []⟩) (by kernel_rfl) ?_
 refine xseq_k fun KS1 ks1 => ?_
 refine wp_regS (l := [0]) (by kernel_rfl) (by kernel_rfl) fun KR2 kr2 => ?_
 refine wpS.p 0 6 (.slice none 0 0) (by kernel_rfl) ?_
 refine wpS.fin rfl (kr2 _ _ ?_)
 refine then_n (ks1 _ _ ?_)
 refine xseq_k fun KS3 ks3 => ?_
 refine xseq_k fun KS4 ks4 => ?_
 refine wp_regS (l := [0, 1, 2, 3, 4]) (by kernel_rfl) (by kernel_rfl) fun KR5 kr5 => ?_
 refine wpS.ps [(0, 11, .slice a0_A a0_n a0_c), (1, 12, .int .i64 a1), (2, 13, .int .i64 a2)] (by kernel_rfl) ?_
 obtain ⟨r1, hg, h⟩ := of_bind h
 cases r1 with
 | true =>
  have h := of_if_t h
  refine wpS.only 3 (op_call (d := (some 14)) (by kernel_rfl) hs (fun _ => by kernel_rfl) (bits_such.ok hg _ (hs.rowR 0 rfl)) ?_)
  intro w gw hs
  refine ⟨fun _ => trivial, ?_⟩
  refine wpS.p 4 15 (.bool false) (by kernel_rfl) ?_
  refine wpS.fin rfl (kr5 _ _ ?_)
  refine then_n (ks4 _ _ ?_)
  refine wp_cond_f (by kernel_rfl) ?_
  refine xskip ?_
  refine then_n (ks3 _ _ ?_)
  refine xseq_k fun KS6 ks6 => ?_
  refine wp_regS (l := [0, 1, 2]) (by kernel_rfl) (by kernel_rfl) fun KR7 kr7 => ?_
  refine wpS.p 0 16 (.int .i64 a2) (by kernel_rfl) ?_
  obtain ⟨h0, h⟩ := of_chk h
  obtain ⟨h1, h⟩ := of_chk h
  refine wpS.only 1 (op_makeT (C := (CI .u32)) (t := 82) (e := 84) (bytes := 4) (B := 35184372088832) (kl := .i64) (kc := .i64) (x := a2) (d := (some 17)) (by kernel_rfl) hs (by kernel_rfl) (by kernel_rfl) (by kernel_rfl) (by kernel_rfl) (by kernel_rfl) h0 h1 (by decide) (by decide) ?_)
  intro s2_A s2_n s2_c w gw hs
  refine ⟨fun _ => trivial, ?_⟩
  refine wpS.p 2 7 (.slice s2_A s2_n s2_c) (by kernel_rfl) ?_
  refine wpS.fin rfl (kr7 _ _ ?_)
  refine then_n (ks6 _ _ ?_)
  refine xseq_k fun KS8 ks8 => ?_
  refine wp_regS (l := [0, 1]) (by kernel_rfl) (by kernel_rfl) fun KR9 kr9 => ?_
  refine wpS.ps [(0, 8, .int .u64 0), (1, 9, .int .i64 0)] (by kernel_rfl) ?_
  refine wpS.fin rfl (kr9 _ _ ?_)
  refine then_n (ks8 _ _ ?_)
  refine xseq_k fun KS10 ks10 => ?_
  refine xseq_k fun KS11 ks11 => ?_
  refine wp_regS (l := [0, 1, 2]) (by kernel_rfl) (by kernel_rfl) fun KR12 kr12 => ?_
  refine wpS.p 0 18 (.slice s2_A s2_n s2_c) (by kernel_rfl) ?_
  refine wpS.take 1 false (some 19) (.int .i64 ((List.replicate (a2 : Int).toNat (Cod.zero (CI .u32))).length : Int)) (by kernel_rfl) (yld_lenL (hs.rowL 0 rfl) (fun _ => by kernel_rfl)) ?_
  refine wpS.p 2 20 (.int .i64 0) (by kernel_rfl) ?_
  refine wpS.fin rfl (kr12 _ _ ?_)
  refine then_n (ks11 _ _ ?_)
  obtain ⟨y8, hy, hk0⟩ := of_bind h
  refine wp_exq (N := fun a w => St w0 [] [.ownL (CI .u32) s2_A s2_n s2_c y8 84] [.rowL (CI .u8) a0_A a0_n a0_c a0] w ∧ ∃ g : Nat → Value, a = ⟨#[(g 0), .int .i64 a1, .int .i64 a2, undef, undef, undef, .slice none 0 0, .slice s2_A s2_n s2_c, (g 8), (g 9), (g 10), .slice a0_A a0_n a0_c, .int .i64 a1, .int .i64 a2, .bool true, .bool false, .int .i64 a2, .slice s2_A s2_n s2_c, .slice s2_A s2_n s2_c, .int .i64 ((List.replicate (a2 : Int).toNat (Cod.zero (CI .u32))).length : Int), (g 20), (g 21), (g 22), (g 23), (g 24), (g 25), (g 26), (g 27), (g 28), (g 29), (g 30), (g 31), (g 32), (g 33), (g 34), (g 35), (g 36), (g 37), (g 38), (g 39), (g 40), (g 41), (g 42), (g 43), (g 44), (g 45), (g 46), (g 47), (g 48), (g 49), (g 50), (g 51), (g 52), (g 53), undef], []⟩) (fun N0 nn0 => ?_) ?_
  ·clear hk0
   refine xblock ?_
   refine wp_loop_k (fun n a w => ∃ z3 z4 z5 z6 z7, ∃ (z7_A : Option Addr) (z7_n : Nat) (z7_c : Nat), bits_Unpack.l0 K n a1 a2 z3 z4 z5 z6 z7 = some y8 ∧ St w0 [] [.ownL (CI .u32) s2_A s2_n s2_c z6 84] [.rowL (CI .u8) z7_A z7_n z7_c z7, .rowL (CI .u8) a0_A a0_n a0_c a0] w ∧ ∃ g : Nat → Value, a = ⟨#[.slice z7_A z7_n z7_c, .int .i64 a1, .int .i64 a2, undef, undef, undef, .slice none 0 0, .slice s2_A s2_n s2_c, .int .u64 z3, .int .i64 z4, (g 10), .slice a0_A a0_n a0_c, .int .i64 a1, .int .i64 a2, .bool true, .bool false, .int .i64 a2, .slice s2_A s2_n s2_c, .slice s2_A s2_n s2_c, .int .i64 ((List.replicate (a2 : Int).toNat (Cod.zero (CI .u32))).length : Int), .int .i64 z5, (g 21), (g 22), (g 23), (g 24), (g 25), (g 26), (g 27), (g 28), (g 29), (g 30), (g 31), (g 32), (g 33), (g 34), (g 35), (g 36), (g 37), (g 38), (g 39), (g 40), (g 41), (g 42), (g 43), (g 44), (g 45), (g 46), (g 47), (g 48), (g 49), (g 50), (g 51), (g 52), (g 53), undef], []⟩) K ⟨0, 0, 0, (List.replicate (a2 : Int).toNat (Cod.zero (CI .u32))), a0, a0_A, a0_n, a0_c, hy, (hs.conv (L' := [.ownL (CI .u32) s2_A s2_n s2_c (List.replicate (a2 : Int).toNat (Cod.zero (CI .u32))) 84]) rfl).pickR (pick_cons 0 rfl (pick_cons 0 rfl pick_nil)), exg (by kernel_rfl)⟩ ?_
   clear hs h hy
   rintro n a w ⟨z3, z4, z5, z6, z7, z7_A, z7_n, z7_c, h, hs, g, rfl⟩ KL0 kl0
   cases n with
   | zero => exact nomatch (show none = some _ from h)
   | succ n =>
    refine xseq_k fun KS13 ks13 => ?_
    refine wp_regS (l := [0]) (by kernel_rfl) (by kernel_rfl) fun KR14 kr14 => ?_
    rcases of_if h with ⟨hc, h⟩ | ⟨hc, h⟩
    ·refine wpS.take 0 false (some 21) (.bool true) (by kernel_rfl) (yld_b (dt hc) (fun _ => by kernel_rfl)) ?_
     refine wpS.fin rfl (kr14 _ _ ?_)
     refine then_n (ks13 _ _ ?_)
     refine xseq_k fun KS15 ks15 => ?_
     refine wp_cond_t (by kernel_rfl) ?_
     refine xskip ?_
     refine then_n (ks15 _ _ ?_)
     refine xseq_k fun KS16 ks16 => ?_
     refine xblock ?_
     refine xseq_k fun KS17 ks17 => ?_
     refine wp_regS (l := [0, 1]) (by kernel_rfl) (by kernel_rfl) fun KR18 kr18 => ?_
     refine wpS.ps [(0, 22, .int .i64 z5), (1, 10, .int .i64 z5)] (by kernel_rfl) ?_
     refine wpS.fin rfl (kr18 _ _ ?_)
     refine then_n (ks17 _ _ ?_)
     refine xseq_k fun KS19 ks19 => ?_
     obtain ⟨⟨y12, y13, y14⟩, hy, hk1⟩ := of_bind h
     refine wp_exq (N := fun a w => ∃ (y14_A : Option Addr) (y14_n : Nat) (y14_c : Nat), St w0 [] [.ownL (CI .u32) s2_A s2_n s2_c z6 84] [.rowL (CI .u8) y14_A y14_n y14_c y14, .rowL (CI .u8) z7_A z7_n z7_c z7, .rowL (CI .u8) a0_A a0_n a0_c a0] w ∧ ∃ g : Nat → Value, a = ⟨#[.slice y14_A y14_n y14_c, .int .i64 a1, .int .i64 a2, undef, undef, undef, .slice none 0 0, .slice s2_A s2_n s2_c, .int .u64 y12, .int .i64 y13, .int .i64 z5, .slice a0_A a0_n a0_c, .int .i64 a1, .int .i64 a2, .bool true, .bool false, .int .i64 a2, .slice s2_A s2_n s2_c, .slice s2_A s2_n s2_c, .int .i64 ((List.replicate (a2 : Int).toNat (Cod.zero (CI .u32))).length : Int), .int .i64 z5, .bool true, .int .i64 z5, (g 23), (g 24), (g 25), (g 26), (g 27), (g 28), (g 29), (g 30), (g 31), (g 32), (g 33), (g 34), (g 35), (g 36), (g 37), (g 38), (g 39), (g 40), (g 41), (g 42), (g 43), (g 44), (g 45), (g 46), (g 47), (g 48), (g 49), (g 50), (g 51), (g 52), (g 53), undef], []⟩) (fun N1 nn1 => ?_) ?_
     ·clear hk1
      refine xblock ?_
      refine wp_loop_k (fun n a w => ∃ z9 z10 z11, ∃ (z11_A : Option Addr) (z11_n : Nat) (z11_c : Nat), bits_Unpack.l1 K n a1 z9 z10 z11 = some (y12, y13, y14) ∧ St w0 [] [.ownL (CI .u32) s2_A s2_n s2_c z6 84] [.rowL (CI .u8) z11_A z11_n z11_c z11, .rowL (CI .u8) z7_A z7_n z7_c z7, .rowL (CI .u8) a0_A a0_n a0_c a0] w ∧ ∃ g : Nat → Value, a = ⟨#[.slice z11_A z11_n z11_c, .int .i64 a1, .int .i64 a2, undef, undef, undef, .slice none 0 0, .slice s2_A s2_n s2_c, .int .u64 z9, .int .i64 z10, .int .i64 z5, .slice a0_A a0_n a0_c, .int .i64 a1, .int .i64 a2, .bool true, .bool false, .int .i64 a2, .slice s2_A s2_n s2_c, .slice s2_A s2_n s2_c, .int .i64 ((List.replicate (a2 : Int).toNat (Cod.zero (CI .u32))).length : Int), .int .i64 z5, .bool true, .int .i64 z5, (g 23), (g 24), (g 25), (g 26), (g 27), (g 28), (g 29), (g 30), (g 31), (g 32), (g 33), (g 34), (g 35), (g 36), (g 37), (g 38), (g 39), (g 40), (g 41), (g 42), (g 43), (g 44), (g 45), (g 46), (g 47), (g 48), (g 49), (g 50), (g 51), (g 52), (g 53), undef], []⟩) K ⟨z3, z4, z7, z7_A, z7_n, z7_c, hy, (hs.conv (L' := [.ownL (CI .u32) s2_A s2_n s2_c z6 84]) rfl).pickR (pick_cons 0 rfl (pick_cons 0 rfl (pick_cons 1 rfl pick_nil))), exg (by kernel_rfl)⟩ ?_
      clear hs h hy
      rintro n a w ⟨z9, z10, z11, z11_A, z11_n, z11_c, h, hs, g, rfl⟩ KL1 kl1
      cases n with
      | zero => exact nomatch (show none = some _ from h)
      | succ n =>
       refine xseq_k fun KS20 ks20 => ?_
       refine xseq_k fun KS21 ks21 => ?_
       refine wp_regS (l := [0, 1, 2]) (by kernel_rfl) (by kernel_rfl) fun KR22 kr22 => ?_
       refine wpS.ps [(0, 23, .int .i64 z10), (1, 24, .int .i64 a1)] (by kernel_rfl) ?_
       rcases of_if h with ⟨hc, h⟩ | ⟨hc, h⟩
       ·refine wpS.take 2 false (some 25) (.bool true) (by kernel_rfl) (yld_b (dt hc) (fun _ => by kernel_rfl)) ?_
        refine wpS.fin rfl (kr22 _ _ ?_)
        refine then_n (ks21 _ _ ?_)
        refine wp_cond_t (by kernel_rfl) ?_
        refine xskip ?_
        refine then_n (ks20 _ _ ?_)
        refine xblock ?_
        refine wp_regG [] (fun k => True) 15 (by kernel_rfl) (by kernel_rfl) (by kernel_rfl) fun KR23 kr23 => ?_
        have hs := hs.drawn1
        refine wpG.p 0 26 (.int .u64 z9) (by kernel_rfl) (by kernel_rfl) ?_
        refine wpG.takeD 1 false (some 27) (.slice z11_A z11_n z11_c) (by kernel_rfl) (by kernel_rfl) (yld fun _ => by kernel_rfl) ?_
        obtain ⟨h0, h⟩ := of_chk h
        obtain ⟨h1, h⟩ := of_chk h
        have i0_24 := h0
        have i1_24 := h1
        refine wpG.takeD 2 false (some 28) (.pointer (adr z11_A ((0 : Int).toNat * Cod.size (CI .u8)))) (by kernel_rfl) (by kernel_rfl) (yld_idxL (C := (CI .u8)) (t := 24) (e := 5) (k := .i64) (x := 0) (hs.rowR 0 rfl) (by kernel_rfl) (by kernel_rfl) (by kernel_rfl) h0 h1) ?_
        refine wpG.takeD 3 true (some 29) (.int .u8 (rdL (CI .u8) z11 0)) (by kernel_rfl) (by kernel_rfl) (yld_loadL (C := (CI .u8)) (e := 5) (x := 0) (hs.rowR 0 rfl) (by kernel_rfl) rfl (by kernel_rfl) i0_24 i1_24) ?_
        refine wpG.takeD 4 false (some 30) (.int .u64 (iconv .u64 (rdL (CI .u8) z11 0))) (by kernel_rfl) (by kernel_rfl) (yld fun _ => by kernel_rfl) ?_
        refine wpG.takeD 5 false (some 31) (.int .i64 z10) (by kernel_rfl) (by kernel_rfl) (yld fun _ => by kernel_rfl) ?_
        obtain ⟨h0, h⟩ := of_chk h
        refine wpG.takeD 6 false (some 32) (.int .u64 (ishl .u64 (iconv .u64 (rdL (CI .u8) z11 0)) z10)) (by kernel_rfl) (by kernel_rfl) (yld_shl (t := 104) (k' := .i64) (by kernel_rfl) h0) ?_
        refine wpG.p 7 33 (.int .u64 (ior .u64 z9 (ishl .u64 (iconv .u64 (rdL (CI .u8) z11 0)) z10))) (by kernel_rfl) (by kernel_rfl) ?_
        refine wpG.p 8 34 (.int .i64 z10) (by kernel_rfl) (by kernel_rfl) ?_
        refine wpG.p 9 35 (.int .i64 (iadd .i64 z10 8)) (by kernel_rfl) (by kernel_rfl) ?_
        refine wpG.p 10 36 (.slice z11_A z11_n z11_c) (by kernel_rfl) (by kernel_rfl) ?_
        obtain ⟨h0, h⟩ := of_chk h
        obtain ⟨h1, h⟩ := of_chk h
        obtain ⟨h2, h⟩ := of_chk h
        obtain ⟨s15_A, hA⟩ : ∃ A, A = if z11_c = (1 : Int).toNat then z11_A else adr z11_A ((1 : Int).toNat * Cod.size (CI .u8)) := ⟨_, rfl⟩
        obtain ⟨s15_n, hn⟩ : ∃ n, n = ((z11.length : Int) : Int).toNat - (1 : Int).toNat := ⟨_, rfl⟩
        obtain ⟨s15_c, hc⟩ : ∃ c, c = z11_c - (1 : Int).toNat := ⟨_, rfl⟩
        refine wpG.takeD 11 false (some 37) (.slice s15_A s15_n s15_c) (by kernel_rfl) (by kernel_rfl) (yld_sub (C := (CI .u8)) (t := 24) (e := 5) (low := some (.int .i64 1)) (high := none) (lo := 1) (hi := (z11.length : Int)) (hs.rowR 0 rfl) (by kernel_rfl) (by kernel_rfl) (by kernel_rfl) (.inr ⟨_, rfl⟩) (.inl ⟨rfl, rfl⟩) h0 h1 h2 hA hn hc) ?_
        have hs := hs.addSub (C := (CI .u8)) 0 rfl h0 h1 h2 hA hn hc
        obtain ⟨x16, hx, h⟩ := of_bind h
        refine wpG.takeD 12 false (some 8) (.int .u64 x16) (by kernel_rfl) (by kernel_rfl) (yld_int hx (fun _ => by kernel_rfl)) ?_
        obtain ⟨x17, hx, h⟩ := of_bind h
        refine wpG.takeD 13 false (some 9) (.int .i64 x17) (by kernel_rfl) (by kernel_rfl) (yld_int hx (fun _ => by kernel_rfl)) ?_
        refine wpG.p 14 0 (.slice s15_A s15_n s15_c) (by kernel_rfl) (by kernel_rfl) ?_
        refine wpG.fin (by kernel_rfl) rfl (kr23 _ _ ?_)
        refine inBlock_n ?_
        exact then_n (kl1 _ _ ⟨n, Nat.lt_succ_self n, x16, x17, (subL z11 1 (z11.length : Int)), s15_A, s15_n, s15_c, h, (hs.pickR (pick_cons 0 rfl (pick_cons 2 rfl (pick_cons 3 rfl pick_nil)))), exg (by kernel_rfl)⟩)
       ·refine wpS.take 2 false (some 25) (.bool false) (by kernel_rfl) (yld_b (df hc) (fun _ => by kernel_rfl)) ?_
        refine wpS.fin rfl (kr22 _ _ ?_)
        refine then_n (ks21 _ _ ?_)
        refine wp_cond_f (by kernel_rfl) ?_
        refine xexit ?_
        refine then_x ?_
        refine then_x ?_
        refine inBlock_hit ?_
        obtain ⟨q0, qr0⟩ := Prod.mk.inj (of_some h)
        obtain ⟨q1, qr1⟩ := Prod.mk.inj (qr0)
        have q2 := qr1
        subst q0
        subst q1
        subst q2
        exact exq_n (nn1 _ _ ⟨z11_A, z11_n, z11_c, (hs.conv rfl), exg (by kernel_rfl)⟩)
     ·clear hs h hy
      rintro a w ⟨y14_A, y14_n, y14_c, hs, g, rfl⟩
      have h := hk1
      refine then_n (ks19 _ _ ?_)
      refine xseq_k fun KS25 ks25 => ?_
      refine wp_regS (l := [0, 1, 2, 3, 4, 5, 6, 7, 8, 9]) (by kernel_rfl) (by kernel_rfl) fun KR26 kr26 => ?_
      refine wpS.ps [(0, 38, .slice s2_A s2_n s2_c), (1, 39, .int .i64 z5), (2, 40, .int .u64 y12), (3, 41, .int .i64 a1)] (by kernel_rfl) ?_
      obtain ⟨h0, h⟩ := of_chk h
      refine wpS.take 4 false (some 42) (.int .u64 (ishl .u64 1 a1)) (by kernel_rfl) (yld_shl (t := 104) (k' := .i64) (by kernel_rfl) h0) ?_
      refine wpS.ps [(5, 43, .int .u64 (isub .u64 (ishl .u64 1 a1) 1)), (6, 44, .int .u64 (iand .u64 y12 (isub .u64 (ishl .u64 1 a1) 1))), (7, 45, .int .u32 (iconv .u32 (iand .u64 y12 (isub .u64 (ishl .u64 1 a1) 1))))] (by kernel_rfl) ?_
      obtain ⟨h0, h⟩ := of_chk h
      obtain ⟨h1, h⟩ := of_chk h
      have i0_27 := h0
      have i1_27 := h1
      refine wpS.take 8 false (some 46) (.pointer (adr s2_A ((z5 : Int).toNat * Cod.size (CI .u32)))) (by kernel_rfl) (yld_idxL (C := (CI .u32)) (t := 82) (e := 84) (k := .i64) (x := z5) (hs.rowL 0 rfl) (by kernel_rfl) (by kernel_rfl) (by kernel_rfl) h0 h1) ?_
      obtain ⟨x18, hx, h⟩ := of_bind h
      refine wpS.only 9 (op_storeL (C := (CI .u32)) (t := 84) (x := z5) (v := x18) (d := none) (by kernel_rfl) hs 0 rfl (by cases hx; kernel_rfl) (by kernel_rfl) i0_27 i1_27 ?_)
      intro w hs
      refine ⟨fun _ => trivial, ?_⟩
      refine wpS.fin rfl (kr26 _ _ ?_)
      refine then_n (ks25 _ _ ?_)
      refine xseq_k fun KS28 ks28 => ?_
      refine wp_regS (l := [0, 1, 2, 3]) (by kernel_rfl) (by kernel_rfl) fun KR29 kr29 => ?_
      refine wpS.ps [(0, 47, .int .u64 y12), (1, 48, .int .i64 a1)] (by kernel_rfl) ?_
      obtain ⟨h0, h⟩ := of_chk h
      refine wpS.take 2 false (some 49) (.int .u64 (ishr .u64 y12 a1)) (by kernel_rfl) (yld_shr (t := 104) (k' := .i64) (by kernel_rfl) h0) ?_
      obtain ⟨x19, hx, h⟩ := of_bind h
      refine wpS.take 3 false (some 8) (.int .u64 x19) (by kernel_rfl) (yld_int hx (fun _ => by kernel_rfl)) ?_
      refine wpS.fin rfl (kr29 _ _ ?_)
      refine then_n (ks28 _ _ ?_)
      refine wp_regS (l := [0, 1, 2, 3]) (by kernel_rfl) (by kernel_rfl) fun KR30 kr30 => ?_
      refine wpS.ps [(0, 50, .int .i64 y13), (1, 51, .int .i64 a1), (2, 52, .int .i64 (isub .i64 y13 a1))] (by kernel_rfl) ?_
      obtain ⟨x20, hx, h⟩ := of_bind h
      refine wpS.take 3 false (some 9) (.int .i64 x20) (by kernel_rfl) (yld_int hx (fun _ => by kernel_rfl)) ?_
      refine wpS.fin rfl (kr30 _ _ ?_)
      refine inBlock_n ?_
      refine then_n (ks16 _ _ ?_)
      refine wp_regS (l := [0, 1]) (by kernel_rfl) (by kernel_rfl) fun KR31 kr31 => ?_
      refine wpS.ps [(0, 53, .int .i64 (iadd .i64 z5 1)), (1, 20, .int .i64 (iadd .i64 z5 1))] (by kernel_rfl) ?_
      refine wpS.fin rfl (kr31 _ _ ?_)
      exact then_n (kl0 _ _ ⟨n, Nat.lt_succ_self n, x19, x20, (iadd .i64 z5 1), (wrL z6 z5 x18), y14, y14_A, y14_n, y14_c, h, (hs.pickR (pick_cons 0 rfl (pick_cons 2 rfl pick_nil))), exg (by kernel_rfl)⟩)
    ·refine wpS.take 0 false (some 21) (.bool false) (by kernel_rfl) (yld_b (df hc) (fun _ => by kernel_rfl)) ?_
     refine wpS.fin rfl (kr14 _ _ ?_)
     refine then_n (ks13 _ _ ?_)
     refine xseq_k fun KS32 ks32 => ?_
     refine wp_cond_f (by kernel_rfl) ?_
     refine xexit ?_
     refine then_x ?_
     refine then_x ?_
     refine inBlock_hit ?_
     have q0 := of_some h
     subst q0
     exact exq_n (nn0 _ _ ⟨(hs.pickR (pick_cons 1 rfl pick_nil)), exg (by kernel_rfl)⟩)
  ·clear hs h hy
   rintro a w ⟨hs, g, rfl⟩
   have h := hk0
   refine then_n (ks10 _ _ ?_)
   refine xseq_k fun KS33 ks33 => ?_
   refine wp_regS (l := [0, 1]) (by kernel_rfl) (by kernel_rfl) fun KR34 kr34 => ?_
   refine wpS.ps [(0, 54, .slice s2_A s2_n s2_c), (1, 6, .slice s2_A s2_n s2_c)] (by kernel_rfl) ?_
   refine wpS.fin rfl (kr34 _ _ ?_)
   refine then_n (ks33 _ _ ?_)
   refine xret ?_
   have q0 := of_some h
   subst q0
   exact qq _ _ (post_ret (by kernel_rfl) (run_results [.tmp 6] [.slice s2_A s2_n s2_c] (by kernel_rfl) (.cons (res_tmp (by kernel_rfl)) .nil)) ⟨⟨s2_A, s2_n, s2_c⟩, congrArg Ending.returned (by kernel_rfl), (hs.pickR pick_nil)⟩)
 | false =>
  have h := of_if_f h
  refine wpS.only 3 (op_call (d := (some 14)) (by kernel_rfl) hs (fun _ => by kernel_rfl) (bits_such.ok hg _ (hs.rowR 0 rfl)) ?_)
  intro w gw hs
  refine ⟨fun _ => trivial, ?_⟩
  refine wpS.p 4 15 (.bool true) (by kernel_rfl) ?_
  refine wpS.fin rfl (kr5 _ _ ?_)
  refine then_n (ks4 _ _ ?_)
  refine wp_cond_t (by kernel_rfl) ?_
  refine xseq_k fun KS35 ks35 => ?_
  refine wp_regS (l := [0]) (by kernel_rfl) (by kernel_rfl) fun KR36 kr36 => ?_
  refine wpS.p 0 6 (.slice none 0 0) (by kernel_rfl) ?_
  refine wpS.fin rfl (kr36 _ _ ?_)
  refine then_n (ks35 _ _ ?_)
  refine xret ?_
  refine then_r ?_
  have q0 := of_some h
  subst q0
  have hs := hs.addNilL (CI .u32) 84
  exact qq _ _ (post_ret (by kernel_rfl) (run_results [.tmp 6] [.slice none 0 0] (by kernel_rfl) (.cons (res_tmp (by kernel_rfl)) .nil)) ⟨⟨none, 0, 0⟩, congrArg Ending.returned (by kernel_rfl), (hs.pickR pick_nil)⟩)

theorem dpack_span_back.ok {K : Nat} {a0_0 : Int} {a0_1 : Int} {a1 : Int} {r0 : Int} (h : dpack_span_back.f K a0_0 a0_1 a1 = some r0) (w0 : World) : Ret Try.prog 51 #[.agg #[.int .i32 a0_0, .int .i32 a0_1], .int .u32 a1] w0 (.int .i32 r0) := by
 refine calls_k Try.func51 rfl fun Q qq => ?_
 have hs := St.start w0
 refine wp_conv (a' := ⟨#[.agg #[.int .i32 a0_0, .int .i32 a0_1], .int .u32 a1, undef, undef, undef, undef, undef, undef, undef, undef, undef, undef, undef, undef, undef, undef, undef, undef, undef, undef, undef, undef, undef], []⟩) (by kernel_rfl) ?_
 refine xseq_k fun KS1 ks1 => ?_
 refine wp_regS (l := [0, 1]) (by kernel_rfl) (by kernel_rfl) fun KR2 kr2 => ?_
 refine wpS.only 0 (op_box (t := 73) (v := .agg #[.int .i32 a0_0, .int .i32 a0_1]) (d := (some 2)) (by kernel_rfl) hs ([.int .i32 a0_0, .int .i32 a0_1]) (by kernel_rfl) (by kernel_rfl) ?_)
 intro b1 w gw hs
 refine ⟨fun _ => trivial, ?_⟩
 refine wpS.p 1 4 (.int .i32 0) (by kernel_rfl) ?_
 refine wpS.fin rfl (kr2 _ _ ?_)
 refine then_n (ks1 _ _ ?_)
 refine xseq_k fun KS3 ks3 => ?_
 refine wp_regS (l := [0, 1, 2, 3, 4, 5]) (by kernel_rfl) (by kernel_rfl) fun KR4 kr4 => ?_
 refine wpS.p 0 6 (.pointer (some ⟨b1, 1, none⟩)) (by kernel_rfl) ?_
 refine wpS.take 1 true (some 7) (.int .i32 a0_1) (by kernel_rfl) (yld_load1 (e := 21) (o := 1) hs 0 rfl (by kernel_rfl) (by kernel_rfl) (by rfl) .grow) ?_
 refine wpS.ps [(2, 8, .int .u32 a1), (3, 9, .int .i32 (iconv .i32 a1)), (4, 10, .int .i32 (isub .i32 a0_1 (iconv .i32 a1)))] (by kernel_rfl) ?_
 obtain ⟨x2, hx, h⟩ := of_bind h
 refine wpS.take 5 false (some 5) (.int .i32 x2) (by kernel_rfl) (yld_int hx (fun _ => by kernel_rfl)) ?_
 refine wpS.fin rfl (kr4 _ _ ?_)
 refine then_n (ks3 _ _ ?_)
 refine xblock ?_
 refine xseq_k fun KS5 ks5 => ?_
 refine wp_regS (l := [0, 1, 2, 3]) (by kernel_rfl) (by kernel_rfl) fun KR6 kr6 => ?_
 refine wpS.p 0 13 (.pointer (some ⟨b1, 0, none⟩)) (by kernel_rfl) ?_
 refine wpS.take 1 true (some 14) (.int .i32 a0_0) (by kernel_rfl) (yld_load1 (e := 21) (o := 0) hs 0 rfl (by kernel_rfl) (by kernel_rfl) (by rfl) .grow) ?_
 rcases of_if h with ⟨hc, h⟩ | ⟨hc, h⟩
 ·refine wpS.take 2 false (some 15) (.bool true) (by kernel_rfl) (yld_b (dt hc) (fun _ => by kernel_rfl)) ?_
  refine wpS.p 3 12 (.bool true) (by kernel_rfl) ?_
  refine wpS.fin rfl (kr6 _ _ ?_)
  refine then_n (ks5 _ _ ?_)
  refine wp_cond_t (by kernel_rfl) ?_
  refine xseq_k fun KS7 ks7 => ?_
  refine wp_regS (l := [0, 1, 2]) (by kernel_rfl) (by kernel_rfl) fun KR8 kr8 => ?_
  refine wpS.ps [(0, 16, .int .u32 a1), (1, 17, .int .i32 (iconv .i32 a1))] (by kernel_rfl) ?_
  obtain ⟨x3, hx, h⟩ := of_bind h
  refine wpS.take 2 false (some 4) (.int .i32 x3) (by kernel_rfl) (yld_int hx (fun _ => by kernel_rfl)) ?_
  refine wpS.fin rfl (kr8 _ _ ?_)
  refine then_n (ks7 _ _ ?_)
  refine xret ?_
  refine inBlock_r ?_
  have q0 := of_some h
  subst q0
  exact qq _ _ (post_ret (by kernel_rfl) (run_results [.tmp 4] [.int .i32 x3] (by kernel_rfl) (.cons (res_tmp (by kernel_rfl)) .nil)) ⟨congrArg Ending.returned (by kernel_rfl), hs.none⟩)
 ·refine wpS.take 2 false (some 15) (.bool false) (by kernel_rfl) (yld_b (df hc) (fun _ => by kernel_rfl)) ?_
  refine wpS.p 3 12 (.bool false) (by kernel_rfl) ?_
  refine wpS.fin rfl (kr6 _ _ ?_)
  refine then_n (ks5 _ _ ?_)
  refine wp_cond_f (by kernel_rfl) ?_
  refine xseq_k fun KS9 ks9 => ?_
  refine wp_regS (l := [0, 1, 2]) (by kernel_rfl) (by kernel_rfl) fun KR10 kr10 => ?_
  refine wpS.p 0 19 (.int .i32 x2) (by kernel_rfl) ?_
  rcases of_if h with ⟨hc, h⟩ | ⟨hc, h⟩
  ·refine wpS.take 1 false (some 20) (.bool true) (by kernel_rfl) (yld_b (dt hc) (fun _ => by kernel_rfl)) ?_
   refine wpS.p 2 18 (.bool true) (by kernel_rfl) ?_
   refine wpS.fin rfl (kr10 _ _ ?_)
   refine then_n (ks9 _ _ ?_)
   refine wp_cond_t (by kernel_rfl) ?_
   refine xseq_k fun KS11 ks11 => ?_
   refine wp_regS (l := [0, 1, 2]) (by kernel_rfl) (by kernel_rfl) fun KR12 kr12 => ?_
   refine wpS.ps [(0, 21, .int .i32 x2), (1, 22, .int .i32 (iadd .i32 x2 8380417))] (by kernel_rfl) ?_
   obtain ⟨x4, hx, h⟩ := of_bind h
   refine wpS.take 2 false (some 4) (.int .i32 x4) (by kernel_rfl) (yld_int hx (fun _ => by kernel_rfl)) ?_
   refine wpS.fin rfl (kr12 _ _ ?_)
   refine then_n (ks11 _ _ ?_)
   refine xret ?_
   refine inBlock_r ?_
   have q0 := of_some h
   subst q0
   exact qq _ _ (post_ret (by kernel_rfl) (run_results [.tmp 4] [.int .i32 x4] (by kernel_rfl) (.cons (res_tmp (by kernel_rfl)) .nil)) ⟨congrArg Ending.returned (by kernel_rfl), hs.none⟩)
  ·refine wpS.take 1 false (some 20) (.bool false) (by kernel_rfl) (yld_b (df hc) (fun _ => by kernel_rfl)) ?_
   refine wpS.p 2 18 (.bool false) (by kernel_rfl) ?_
   refine wpS.fin rfl (kr10 _ _ ?_)
   refine then_n (ks9 _ _ ?_)
   refine wp_cond_f (by kernel_rfl) ?_
   refine xseq_k fun KS13 ks13 => ?_
   refine wp_regS (l := [0, 1]) (by kernel_rfl) (by kernel_rfl) fun KR14 kr14 => ?_
   refine wpS.ps [(0, 11, .int .i32 x2), (1, 4, .int .i32 x2)] (by kernel_rfl) ?_
   refine wpS.fin rfl (kr14 _ _ ?_)
   refine then_n (ks13 _ _ ?_)
   refine xret ?_
   refine inBlock_r ?_
   have q0 := of_some h
   subst q0
   exact qq _ _ (post_ret (by kernel_rfl) (run_results [.tmp 4] [.int .i32 x2] (by kernel_rfl) (.cons (res_tmp (by kernel_rfl)) .nil)) ⟨congrArg Ending.returned (by kernel_rfl), hs.none⟩)

theorem dpack_Unpack.ok {K : Nat} {a0 : List Int} {a1 : Int} {a2 : Int} {r0 : Arr 256} {r1 : Bool} {a0_A : Option Addr} {a0_n : Nat} {a0_c : Nat} (h : dpack_Unpack.f K a0 a1 a2 = some (r0, r1)) (w0 : World) (hp0 : RowL (CI .u8) w0 a0_A a0_n a0_c a0) : Ret Try.prog 20 #[.slice a0_A a0_n a0_c, .int .i32 a1, .int .i32 a2] w0 (.tuple #[.agg (enc .i32 r0).toArray, .bool r1]) := by
 refine calls_k Try.func20 rfl fun Q qq => ?_
 have hs := St.startR (all_cons (RowP.ent hp0) all_nil)
 refine wp_conv (a' := ⟨#[.slice a0_A a0_n a0_c, .int .i32 a1, .int .i32 a2, undef, undef, undef, undef, undef, undef, undef, undef, undef, undef, undef, undef, undef, undef, undef, undef, undef, undef, undef, undef, undef, undef, undef, undef, undef, undef, undef, undef, undef, undef, undef, undef, undef, undef, undef, undef, undef, undef, undef, undef, undef, undef, undef, undef, undef, undef], []⟩) (by kernel_rfl) ?_
 refine xseq_k fun KS1 ks1 => ?_
 refine wp_regS (l := [0, 1]) (by kernel_rfl) (by kernel_rfl) fun KR2 kr2 => ?_
 refine wpS.only 0 (op_alloc (t := 40) (d := (some 6)) (by kernel_rfl) hs (enc .i32 (zeroA 256)) (.agg (enc .i32 (zeroA 256)).toArray) (by kernel_rfl) (by kernel_rfl) (by kernel_rfl) ?_)
 intro b1 w gw hs
 refine ⟨fun _ => trivial, ?_⟩
 refine wpS.p 1 7 (.bool false) (by kernel_rfl) ?_
 refine wpS.fin rfl (kr2 _ _ ?_)
 refine then_n (ks1 _ _ ?_)
 refine xseq_k fun KS3 ks3 => ?_
 refine wp_regS (l := [0, 1, 2, 3, 4]) (by kernel_rfl) (by kernel_rfl) fun KR4 kr4 => ?_
 refine wpS.ps [(0, 12, .int .i32 a1), (1, 13, .int .i32 a2), (2, 14, .agg #[.int .i32 a1, .int .i32 a2])] (by kernel_rfl) ?_
 refine wpS.only 3 (op_alloc (t := 73) (d := (some 8)) (by kernel_rfl) hs ([.int .i32 0, .int .i32 0]) (.agg #[.int .i32 0, .int .i32 0]) (by kernel_rfl) (by kernel_rfl) (by kernel_rfl) ?_)
 intro b2 w gw hs
 refine ⟨fun _ => trivial, ?_⟩
 refine wpS.only 4 (op_storeW (t := 73) (v := .agg #[.int .i32 a1, .int .i32 a2]) (d := none) (by kernel_rfl) hs 0 rfl (vs := [.int .i32 a1, .int .i32 a2]) (n := 2) (by kernel_rfl) (by kernel_rfl) (by kernel_rfl) (by simp [enc_len]) (by simp [enc_len]) (by simp [Value.oneCell']) ?_)
 intro w kp hs
 refine ⟨fun _ => trivial, ?_⟩
 refine wpS.fin rfl (kr4 _ _ ?_)
 refine then_n (ks3 _ _ ?_)
 refine xseq_k fun KS5 ks5 => ?_
 refine xseq_k fun KS6 ks6 => ?_
 refine wp_regS (l := [0, 1, 2, 3, 4, 5, 6, 7, 8, 9]) (by kernel_rfl) (by kernel_rfl) fun KR7 kr7 => ?_
 refine wpS.take 0 true (some 15) (.agg #[.int .i32 a1, .int .i32 a2]) (by kernel_rfl) (yld_loadW (e := 73) (n := 2) hs 0 rfl (by kernel_rfl) (by kernel_rfl) (by kernel_rfl) (by simp [enc_len]) .grow) ?_
 obtain ⟨r3, hg, h⟩ := of_bind h
 cases r3 with
 | true =>
  have h := of_if_t h
  refine wpS.only 1 (op_call (d := (some 16)) (by kernel_rfl) hs (fun _ => by kernel_rfl) (dpack_span_fit.ok hg _) ?_)
  intro w gw hs
  refine ⟨fun _ => trivial, ?_⟩
  refine wpS.ps [(2, 17, .bool false), (3, 18, .bool false), (4, 19, .slice a0_A a0_n a0_c)] (by kernel_rfl) ?_
  refine wpS.take 5 false (some 20) (.int .i64 (a0.length : Int)) (by kernel_rfl) (yld_lenL (hs.rowR 0 rfl) (fun _ => by kernel_rfl)) ?_
  refine wpS.take 6 true (some 21) (.agg #[.int .i32 a1, .int .i32 a2]) (by kernel_rfl) (yld_loadW (e := 73) (n := 2) hs 0 rfl (by kernel_rfl) (by kernel_rfl) (by kernel_rfl) (by simp [enc_len]) .grow) ?_
  obtain ⟨r4, hg, h⟩ := of_bind h
  refine wpS.only 7 (op_call (d := (some 22)) (by kernel_rfl) hs (fun _ => by kernel_rfl) (dpack_span_size.ok hg _) ?_)
  intro w gw hs
  refine ⟨fun _ => trivial, ?_⟩
  rcases of_if h with ⟨hc, h⟩ | ⟨hc, h⟩
  ·refine wpS.take 8 false (some 23) (.bool false) (by kernel_rfl) (yld_b (nf hc) (fun _ => by kernel_rfl)) ?_
   refine wpS.p 9 24 (.bool false) (by kernel_rfl) ?_
   refine wpS.fin rfl (kr7 _ _ ?_)
   refine then_n (ks6 _ _ ?_)
   refine wp_cond_f (by kernel_rfl) ?_
   refine xskip ?_
   refine then_n (ks5 _ _ ?_)
   refine xseq_k fun KS8 ks8 => ?_
   refine wp_regS (l := [0]) (by kernel_rfl) (by kernel_rfl) fun KR9 kr9 => ?_
   refine wpS.only 0 (op_alloc (t := 40) (d := (some 9)) (by kernel_rfl) hs (enc .i32 (zeroA 256)) (.agg (enc .i32 (zeroA 256)).toArray) (by kernel_rfl) (by kernel_rfl) (by kernel_rfl) ?_)
   intro b5 w gw hs
   refine ⟨fun _ => trivial, ?_⟩
   refine wpS.fin rfl (kr9 _ _ ?_)
   refine then_n (ks8 _ _ ?_)
   refine xseq_k fun KS10 ks10 => ?_
   refine xseq_k fun KS11 ks11 => ?_
   refine wp_regS (l := [0, 1, 2, 3, 4, 5]) (by kernel_rfl) (by kernel_rfl) fun KR12 kr12 => ?_
   refine wpS.p 0 26 (.slice a0_A a0_n a0_c) (by kernel_rfl) ?_
   refine wpS.take 1 true (some 27) (.agg #[.int .i32 a1, .int .i32 a2]) (by kernel_rfl) (yld_loadW (e := 73) (n := 2) hs 1 rfl (by kernel_rfl) (by kernel_rfl) (by kernel_rfl) (by simp [enc_len]) .grow) ?_
   obtain ⟨r6, hg, h⟩ := of_bind h
   refine wpS.only 2 (op_call (d := (some 28)) (by kernel_rfl) hs (fun _ => by kernel_rfl) (dpack_span_width.ok hg _) ?_)
   intro w gw hs
   refine ⟨fun _ => trivial, ?_⟩
   obtain ⟨r7, hg, h⟩ := of_bind h
   refine wpS.only 3 (op_callH (d := (some 29)) (by kernel_rfl) hs (fun _ => by kernel_rfl) (bits_Unpack.ok hg _ (hs.rowR 0 rfl)) ?_)
   rintro ⟨r7_A, r7_n, r7_c⟩ w gw hs
   have hs := hs.conv (L' := [.ownL (CI .u32) r7_A r7_n r7_c r7 84, .blk b5 (enc .i32 (zeroA 256)) 40, .blk b2 ([.int .i32 a1, .int .i32 a2]) 73, .blk b1 (enc .i32 (zeroA 256)) 40]) rfl
   refine ⟨fun _ => trivial, ?_⟩
   refine wpS.take 4 false (some 30) (.int .i64 (r7.length : Int)) (by kernel_rfl) (yld_lenL (hs.rowL 0 rfl) (fun _ => by kernel_rfl)) ?_
   refine wpS.p 5 31 (.int .i64 0) (by kernel_rfl) ?_
   refine wpS.fin rfl (kr12 _ _ ?_)
   refine then_n (ks11 _ _ ?_)
   obtain ⟨t0, hy, hk0⟩ := of_bind h
   refine wp_exq (N := fun a w => ∃ y11 y12, t0 = .inl (y11, y12) ∧ St w0 [] [.ownL (CI .u32) r7_A r7_n r7_c r7 84, .blk b5 (enc .i32 y11) 40, .blk b2 ([.int .i32 a1, .int .i32 a2]) 73, .blk b1 (enc .i32 y12) 40] [.rowL (CI .u8) a0_A a0_n a0_c a0] w ∧ ∃ g : Nat → Value, a = ⟨#[.slice a0_A a0_n a0_c, .int .i32 a1, .int .i32 a2, undef, undef, undef, .pointer (some ⟨b1, 0, none⟩), (g 7), .pointer (some ⟨b2, 0, none⟩), .pointer (some ⟨b5, 0, none⟩), (g 10), (g 11), .int .i32 a1, .int .i32 a2, .agg #[.int .i32 a1, .int .i32 a2], .agg #[.int .i32 a1, .int .i32 a2], .bool true, .bool false, .bool false, .slice a0_A a0_n a0_c, .int .i64 (a0.length : Int), .agg #[.int .i32 a1, .int .i32 a2], .int .i64 r4, .bool false, .bool false, undef, .slice a0_A a0_n a0_c, .agg #[.int .i32 a1, .int .i32 a2], .int .i64 r6, .slice r7_A r7_n r7_c, .int .i64 (r7.length : Int), (g 31), (g 32), (g 33), (g 34), (g 35), (g 36), (g 37), (g 38), (g 39), (g 40), (g 41), (g 42), (g 43), (g 44), (g 45), (g 46), (g 47), undef], []⟩) (fun N0 nn0 => ?_) ?_
   ·refine xblock ?_
    refine wp_loop_k (fun n a w => ∃ z8 z9 z10, dpack_Unpack.l0 K n a1 a2 r7 z8 z9 z10 = some t0 ∧ St w0 [] [.ownL (CI .u32) r7_A r7_n r7_c r7 84, .blk b5 (enc .i32 z9) 40, .blk b2 ([.int .i32 a1, .int .i32 a2]) 73, .blk b1 (enc .i32 z10) 40] [.rowL (CI .u8) a0_A a0_n a0_c a0] w ∧ ∃ g : Nat → Value, a = ⟨#[.slice a0_A a0_n a0_c, .int .i32 a1, .int .i32 a2, undef, undef, undef, .pointer (some ⟨b1, 0, none⟩), (g 7), .pointer (some ⟨b2, 0, none⟩), .pointer (some ⟨b5, 0, none⟩), (g 10), (g 11), .int .i32 a1, .int .i32 a2, .agg #[.int .i32 a1, .int .i32 a2], .agg #[.int .i32 a1, .int .i32 a2], .bool true, .bool false, .bool false, .slice a0_A a0_n a0_c, .int .i64 (a0.length : Int), .agg #[.int .i32 a1, .int .i32 a2], .int .i64 r4, .bool false, .bool false, undef, .slice a0_A a0_n a0_c, .agg #[.int .i32 a1, .int .i32 a2], .int .i64 r6, .slice r7_A r7_n r7_c, .int .i64 (r7.length : Int), .int .i64 z8, (g 32), (g 33), (g 34), (g 35), (g 36), (g 37), (g 38), (g 39), (g 40), (g 41), (g 42), (g 43), (g 44), (g 45), (g 46), (g 47), undef], []⟩) K ⟨0, (zeroA 256), (zeroA 256), hy, hs.conv rfl, exg (by kernel_rfl)⟩ ?_
    clear hs h hy
    rintro n a w ⟨z8, z9, z10, h, hs, g, rfl⟩ KL0 kl0
    cases n with
    | zero => exact nomatch (show none = some _ from h)
    | succ n =>
     refine xseq_k fun KS13 ks13 => ?_
     refine wp_regS (l := [0]) (by kernel_rfl) (by kernel_rfl) fun KR14 kr14 => ?_
     rcases of_if h with ⟨hc, h⟩ | ⟨hc, h⟩
     ·refine wpS.take 0 false (some 32) (.bool true) (by kernel_rfl) (yld_b (dt hc) (fun _ => by kernel_rfl)) ?_
      refine wpS.fin rfl (kr14 _ _ ?_)
      refine then_n (ks13 _ _ ?_)
      refine xseq_k fun KS15 ks15 => ?_
      refine wp_cond_t (by kernel_rfl) ?_
      refine xskip ?_
      refine then_n (ks15 _ _ ?_)
      refine xseq_k fun KS16 ks16 => ?_
      refine xblock ?_
      refine xseq_k fun KS17 ks17 => ?_
      refine wp_regS (l := [0, 1, 2, 3, 4]) (by kernel_rfl) (by kernel_rfl) fun KR18 kr18 => ?_
      refine wpS.p 0 33 (.int .i64 z8) (by kernel_rfl) ?_
      obtain ⟨h0, h⟩ := of_chk h
      obtain ⟨h1, h⟩ := of_chk h
      have i0_19 := h0
      have i1_19 := h1
      refine wpS.take 1 false (some 34) (.pointer (adr r7_A ((z8 : Int).toNat * Cod.size (CI .u32)))) (by kernel_rfl) (yld_idxL (C := (CI .u32)) (t := 82) (e := 84) (k := .i64) (x := z8) (hs.rowL 0 rfl) (by kernel_rfl) (by kernel_rfl) (by kernel_rfl) h0 h1) ?_
      refine wpS.take 2 true (some 35) (.int .u32 (rdL (CI .u32) r7 z8)) (by kernel_rfl) (yld_loadL (C := (CI .u32)) (e := 84) (x := z8) (hs.rowL 0 rfl) (by kernel_rfl) rfl (by kernel_rfl) i0_19 i1_19) ?_
      refine wpS.p 3 10 (.int .i64 z8) (by kernel_rfl) ?_
      obtain ⟨x13, hx, h⟩ := of_bind h
      refine wpS.take 4 false (some 11) (.int .u32 x13) (by kernel_rfl) (yld_int hx (fun _ => by kernel_rfl)) ?_
      refine wpS.fin rfl (kr18 _ _ ?_)
      refine then_n (ks17 _ _ ?_)
      refine xseq_k fun KS20 ks20 => ?_
      refine xseq_k fun KS21 ks21 => ?_
      refine wp_regS (l := [0, 1, 2, 3, 4]) (by kernel_rfl) (by kernel_rfl) fun KR22 kr22 => ?_
      refine wpS.p 0 36 (.int .u32 x13) (by kernel_rfl) ?_
      refine wpS.take 1 true (some 37) (.agg #[.int .i32 a1, .int .i32 a2]) (by kernel_rfl) (yld_loadW (e := 73) (n := 2) hs 2 rfl (by kernel_rfl) (by kernel_rfl) (by kernel_rfl) (by simp [enc_len]) .grow) ?_
      obtain ⟨r14, hg, h⟩ := of_bind h
      refine wpS.only 2 (op_call (d := (some 38)) (by kernel_rfl) hs (fun _ => by kernel_rfl) (dpack_span_all.ok hg _) ?_)
      intro w gw hs
      refine ⟨fun _ => trivial, ?_⟩
      refine wpS.p 3 39 (.int .u32 (iconv .u32 r14)) (by kernel_rfl) ?_
      rcases of_if h with ⟨hc, h⟩ | ⟨hc, h⟩
      ·refine wpS.take 4 false (some 40) (.bool true) (by kernel_rfl) (yld_b (dt hc) (fun _ => by kernel_rfl)) ?_
       refine wpS.fin rfl (kr22 _ _ ?_)
       refine then_n (ks21 _ _ ?_)
       refine wp_cond_t (by kernel_rfl) ?_
       refine xseq_k fun KS23 ks23 => ?_
       refine wp_regS (l := [0, 1, 2]) (by kernel_rfl) (by kernel_rfl) fun KR24 kr24 => ?_
       refine wpS.p 0 41 (.agg (enc .i32 (zeroA 256)).toArray) (by kernel_rfl) ?_
       refine wpS.only 1 (op_storeW (t := 40) (v := .agg (enc .i32 (zeroA 256)).toArray) (d := none) (by kernel_rfl) hs 3 rfl (vs := enc .i32 (zeroA 256)) (n := 256) (by kernel_rfl) (by kernel_rfl) (by kernel_rfl) (by simp [enc_len]) (by simp [enc_len]) (by intro u hu; exact enc_one _ _ u hu) ?_)
       intro w kp hs
       refine ⟨fun _ => trivial, ?_⟩
       refine wpS.p 2 7 (.bool false) (by kernel_rfl) ?_
       refine wpS.fin rfl (kr24 _ _ ?_)
       refine then_n (ks23 _ _ ?_)
       refine xret ?_
       refine then_r ?_
       refine inBlock_r ?_
       refine then_r ?_
       refine then_r ?_
       refine inBlock_r ?_
       refine exq_r ?_
       refine then_r ?_
       have q0 := of_some h
       subst q0
       obtain ⟨q0, qr0⟩ := Prod.mk.inj (of_some hk0)
       have q1 := qr0
       subst q0
       subst q1
       exact qq _ _ (post_ret (by kernel_rfl) (run_results [.cell 6 40, .tmp 7] [.agg (enc .i32 (zeroA 256)).toArray, .bool false] (by kernel_rfl) (.cons (res_cellN (n := 256) hs 3 rfl (by kernel_rfl) (by kernel_rfl) (by kernel_rfl) (by exact enc_len _ _)) (.cons (res_tmp (by kernel_rfl)) .nil))) ⟨congrArg Ending.returned (by kernel_rfl), hs.none⟩)
      ·refine wpS.take 4 false (some 40) (.bool false) (by kernel_rfl) (yld_b (df hc) (fun _ => by kernel_rfl)) ?_
       refine wpS.fin rfl (kr22 _ _ ?_)
       refine then_n (ks21 _ _ ?_)
       refine wp_cond_f (by kernel_rfl) ?_
       refine xskip ?_
       refine then_n (ks20 _ _ ?_)
       refine wp_regS (l := [0, 1, 2, 3, 4, 5]) (by kernel_rfl) (by kernel_rfl) fun KR25 kr25 => ?_
       refine wpS.p 0 42 (.int .i64 z8) (by kernel_rfl) ?_
       refine wpS.take 1 true (some 43) (.agg #[.int .i32 a1, .int .i32 a2]) (by kernel_rfl) (yld_loadW (e := 73) (n := 2) hs 2 rfl (by kernel_rfl) (by kernel_rfl) (by kernel_rfl) (by simp [enc_len]) .grow) ?_
       refine wpS.p 2 44 (.int .u32 x13) (by kernel_rfl) ?_
       obtain ⟨r15, hg, h⟩ := of_bind h
       refine wpS.only 3 (op_call (d := (some 45)) (by kernel_rfl) hs (fun _ => by kernel_rfl) (dpack_span_back.ok hg _) ?_)
       intro w gw hs
       refine ⟨fun _ => trivial, ?_⟩
       obtain ⟨i0_26, h⟩ := of_chk h
       obtain ⟨i1_26, h⟩ := of_chk h
       refine wpS.take 4 false (some 46) (.pointer (some ⟨b5, 0 + (z8 : Int).toNat * 1, none⟩)) (by kernel_rfl) (yld_idx (t := 40) (e := 21) (n := 256) (sz := 1) (k := .i64) (x := z8) (by kernel_rfl) (by kernel_rfl) (by kernel_rfl) i0_26 i1_26) ?_
       refine wpS.only 5 (op_storeA (t := 21) (x := z8) (v := r15) (d := none) (by kernel_rfl) hs 1 rfl (by kernel_rfl) (by kernel_rfl) i0_26 i1_26 ?_)
       intro w kp hs
       refine ⟨fun _ => trivial, ?_⟩
       refine wpS.fin rfl (kr25 _ _ ?_)
       refine inBlock_n ?_
       refine then_n (ks16 _ _ ?_)
       refine wp_regS (l := [0, 1]) (by kernel_rfl) (by kernel_rfl) fun KR27 kr27 => ?_
       refine wpS.ps [(0, 47, .int .i64 (iadd .i64 z8 1)), (1, 31, .int .i64 (iadd .i64 z8 1))] (by kernel_rfl) ?_
       refine wpS.fin rfl (kr27 _ _ ?_)
       exact then_n (kl0 _ _ ⟨n, Nat.lt_succ_self n, (iadd .i64 z8 1), (wr z9 z8 r15), z10, h, (hs.conv rfl), exg (by kernel_rfl)⟩)
     ·refine wpS.take 0 false (some 32) (.bool false) (by kernel_rfl) (yld_b (df hc) (fun _ => by kernel_rfl)) ?_
      refine wpS.fin rfl (kr14 _ _ ?_)
      refine then_n (ks13 _ _ ?_)
      refine xseq_k fun KS28 ks28 => ?_
      refine wp_cond_f (by kernel_rfl) ?_
      refine xexit ?_
      refine then_x ?_
      refine then_x ?_
      refine inBlock_hit ?_
      have q0 := of_some h
      subst q0
      exact exq_n (nn0 _ _ ⟨z9, z10, rfl, (hs.conv rfl), exg (by kernel_rfl)⟩)
   ·clear hs h hy
    rintro a w ⟨y11, y12, rfl, hs, g, rfl⟩
    have h := hk0
    refine then_n (ks10 _ _ ?_)
    refine xseq_k fun KS29 ks29 => ?_
    refine wp_regS (l := [0, 1, 2]) (by kernel_rfl) (by kernel_rfl) fun KR30 kr30 => ?_
    refine wpS.take 0 true (some 48) (.agg (enc .i32 y11).toArray) (by kernel_rfl) (yld_loadW (e := 40) (n := 256) hs 1 rfl (by kernel_rfl) (by kernel_rfl) (by kernel_rfl) (by exact enc_len _ _) .grow) ?_
    refine wpS.only 1 (op_storeW (t := 40) (v := .agg (enc .i32 y11).toArray) (d := none) (by kernel_rfl) hs 3 rfl (vs := enc .i32 y11) (n := 256) (by kernel_rfl) (by kernel_rfl) (by kernel_rfl) (by simp [enc_len]) (by simp [enc_len]) (by intro u hu; exact enc_one _ _ u hu) ?_)
    intro w kp hs
    refine ⟨fun _ => trivial, ?_⟩
    refine wpS.p 2 7 (.bool true) (by kernel_rfl) ?_
    refine wpS.fin rfl (kr30 _ _ ?_)
    refine then_n (ks29 _ _ ?_)
    refine xret ?_
    obtain ⟨q0, qr0⟩ := Prod.mk.inj (of_some h)
    have q1 := qr0
    subst q0
    subst q1
    exact qq _ _ (post_ret (by kernel_rfl) (run_results [.cell 6 40, .tmp 7] [.agg (enc .i32 y11).toArray, .bool true] (by kernel_rfl) (.cons (res_cellN (n := 256) hs 3 rfl (by kernel_rfl) (by kernel_rfl) (by kernel_rfl) (by exact enc_len _ _)) (.cons (res_tmp (by kernel_rfl)) .nil))) ⟨congrArg Ending.returned (by kernel_rfl), hs.none⟩)
  ·refine wpS.take 8 false (some 23) (.bool true) (by kernel_rfl) (yld_b (nt hc) (fun _ => by kernel_rfl)) ?_
   refine wpS.p 9 24 (.bool true) (by kernel_rfl) ?_
   refine wpS.fin rfl (kr7 _ _ ?_)
   refine then_n (ks6 _ _ ?_)
   refine wp_cond_t (by kernel_rfl) ?_
   refine xseq_k fun KS31 ks31 => ?_
   refine wp_regS (l := [0, 1, 2]) (by kernel_rfl) (by kernel_rfl) fun KR32 kr32 => ?_
   refine wpS.p 0 25 (.agg (enc .i32 (zeroA 256)).toArray) (by kernel_rfl) ?_
   refine wpS.only 1 (op_storeW (t := 40) (v := .agg (enc .i32 (zeroA 256)).toArray) (d := none) (by kernel_rfl) hs 1 rfl (vs := enc .i32 (zeroA 256)) (n := 256) (by kernel_rfl) (by kernel_rfl) (by kernel_rfl) (by simp [enc_len]) (by simp [enc_len]) (by intro u hu; exact enc_one _ _ u hu) ?_)
   intro w kp hs
   refine ⟨fun _ => trivial, ?_⟩
   refine wpS.p 2 7 (.bool false) (by kernel_rfl) ?_
   refine wpS.fin rfl (kr32 _ _ ?_)
   refine then_n (ks31 _ _ ?_)
   refine xret ?_
   refine then_r ?_
   obtain ⟨q0, qr0⟩ := Prod.mk.inj (of_some h)
   have q1 := qr0
   subst q0
   subst q1
   exact qq _ _ (post_ret (by kernel_rfl) (run_results [.cell 6 40, .tmp 7] [.agg (enc .i32 (zeroA 256)).toArray, .bool false] (by kernel_rfl) (.cons (res_cellN (n := 256) hs 1 rfl (by kernel_rfl) (by kernel_rfl) (by kernel_rfl) (by exact enc_len _ _)) (.cons (res_tmp (by kernel_rfl)) .nil))) ⟨congrArg Ending.returned (by kernel_rfl), hs.none⟩)
 | false =>
  have h := of_if_f h
  refine wpS.only 1 (op_call (d := (some 16)) (by kernel_rfl) hs (fun _ => by kernel_rfl) (dpack_span_fit.ok hg _) ?_)
  intro w gw hs
  refine ⟨fun _ => trivial, ?_⟩
  refine wpS.ps [(2, 17, .bool true), (3, 18, .bool true), (4, 19, undef), (5, 20, undef), (6, 21, undef), (7, 22, undef), (8, 23, undef), (9, 24, .bool true)] (by kernel_rfl) ?_
  refine wpS.fin rfl (kr7 _ _ ?_)
  refine then_n (ks6 _ _ ?_)
  refine wp_cond_t (by kernel_rfl) ?_
  refine xseq_k fun KS33 ks33 => ?_
  refine wp_regS (l := [0, 1, 2]) (by kernel_rfl) (by kernel_rfl) fun KR34 kr34 => ?_
  refine wpS.p 0 25 (.agg (enc .i32 (zeroA 256)).toArray) (by kernel_rfl) ?_
  refine wpS.only 1 (op_storeW (t := 40) (v := .agg (enc .i32 (zeroA 256)).toArray) (d := none) (by kernel_rfl) hs 1 rfl (vs := enc .i32 (zeroA 256)) (n := 256) (by kernel_rfl) (by kernel_rfl) (by kernel_rfl) (by simp [enc_len]) (by simp [enc_len]) (by intro u hu; exact enc_one _ _ u hu) ?_)
  intro w kp hs
  refine ⟨fun _ => trivial, ?_⟩
  refine wpS.p 2 7 (.bool false) (by kernel_rfl) ?_
  refine wpS.fin rfl (kr34 _ _ ?_)
  refine then_n (ks33 _ _ ?_)
  refine xret ?_
  refine then_r ?_
  obtain ⟨q0, qr0⟩ := Prod.mk.inj (of_some h)
  have q1 := qr0
  subst q0
  subst q1
  exact qq _ _ (post_ret (by kernel_rfl) (run_results [.cell 6 40, .tmp 7] [.agg (enc .i32 (zeroA 256)).toArray, .bool false] (by kernel_rfl) (.cons (res_cellN (n := 256) hs 1 rfl (by kernel_rfl) (by kernel_rfl) (by kernel_rfl) (by exact enc_len _ _)) (.cons (res_tmp (by kernel_rfl)) .nil))) ⟨congrArg Ending.returned (by kernel_rfl), hs.none⟩)

theorem ref01_such.ok {K : Nat} {a0 : List Int} {a1 : Int} {a2 : Int} {r0 : Bool} {a0_A : Option Addr} {a0_n : Nat} {a0_c : Nat} (h : ref01_such.f K a0 a1 a2 = some r0) (w0 : World) (hp0 : RowL (CI .u8) w0 a0_A a0_n a0_c a0) : Ret Try.prog 68 #[.slice a0_A a0_n a0_c, .int .i64 a1, .int .i64 a2] w0 (.bool r0) := by
 refine calls_k Try.func68 rfl fun Q qq => ?_
 have hs := St.startR (all_cons (RowP.ent hp0) all_nil)
 refine wp_conv (a' := ⟨#[.slice a0_A a0_n a0_c, .int .i64 a1, .int .i64 a2, undef, undef, undef, undef, undef, undef, undef, undef, undef, undef, undef, undef, undef, undef, undef, undef, undef, undef, undef, undef, undef, undef, undef], []⟩) (by kernel_rfl) ?_
 refine xseq_k fun KS1 ks1 => ?_
 refine wp_regS (l := [0]) (by kernel_rfl) (by kernel_rfl) fun KR2 kr2 => ?_
 refine wpS.p 0 6 (.bool false) (by kernel_rfl) ?_
 refine wpS.fin rfl (kr2 _ _ ?_)
 refine then_n (ks1 _ _ ?_)
 refine xseq_k fun KS3 ks3 => ?_
 refine wp_regS (l := [0, 1, 2, 3, 4, 5, 6, 7, 8, 9, 10, 11, 12, 13, 14, 15, 16, 17, 18, 19]) (by kernel_rfl) (by kernel_rfl) fun KR4 kr4 => ?_
 refine wpS.p 0 7 (.int .i64 a1) (by kernel_rfl) ?_
 rcases of_if h with ⟨hc, h⟩ | ⟨hc, h⟩
 ·refine wpS.take 1 false (some 8) (.bool true) (by kernel_rfl) (yld_b (dt hc) (fun _ => by kernel_rfl)) ?_
  refine wpS.ps [(2, 9, .bool true), (3, 10, .int .i64 a1)] (by kernel_rfl) ?_
  rcases of_if h with ⟨hc, h⟩ | ⟨hc, h⟩
  ·refine wpS.take 4 false (some 11) (.bool true) (by kernel_rfl) (yld_b (dt hc) (fun _ => by kernel_rfl)) ?_
   refine wpS.ps [(5, 12, .bool true), (6, 13, .bool true), (7, 14, .int .i64 a2)] (by kernel_rfl) ?_
   rcases of_if h with ⟨hc, h⟩ | ⟨hc, h⟩
   ·refine wpS.take 8 false (some 15) (.bool true) (by kernel_rfl) (yld_b (dt hc) (fun _ => by kernel_rfl)) ?_
    refine wpS.ps [(9, 16, .bool true), (10, 17, .bool true), (11, 18, .int .i64 a2), (12, 19, .slice a0_A a0_n a0_c)] (by kernel_rfl) ?_
    refine wpS.take 13 false (some 20) (.int .i64 (a0.length : Int)) (by kernel_rfl) (yld_lenL (hs.rowR 0 rfl) (fun _ => by kernel_rfl)) ?_
    refine wpS.ps [(14, 21, .int .i64 (imul .i64 (a0.length : Int) 8)), (15, 22, .int .i64 a1)] (by kernel_rfl) ?_
    obtain ⟨h0, h⟩ := of_chk h
    refine wpS.take 16 false (some 23) (.int .i64 (iquo .i64 (imul .i64 (a0.length : Int) 8) a1)) (by kernel_rfl) (yld_quo (t := 3) (by kernel_rfl) h0) ?_
    refine wpS.ps [(17, 24, .bool (decide (a2 ≤ (iquo .i64 (imul .i64 (a0.length : Int) 8) a1)))), (18, 25, .bool (decide (a2 ≤ (iquo .i64 (imul .i64 (a0.length : Int) 8) a1)))), (19, 6, .bool (decide (a2 ≤ (iquo .i64 (imul .i64 (a0.length : Int) 8) a1))))] (by kernel_rfl) ?_
    refine wpS.fin rfl (kr4 _ _ ?_)
    refine then_n (ks3 _ _ ?_)
    refine xret ?_
    have q0 := of_some h
    subst q0
    exact qq _ _ (post_ret (by kernel_rfl) (run_results [.tmp 6] [.bool (decide (a2 ≤ (iquo .i64 (imul .i64 (a0.length : Int) 8) a1)))] (by kernel_rfl) (.cons (res_tmp (by kernel_rfl)) .nil)) ⟨congrArg Ending.returned (by kernel_rfl), hs.none⟩)
   ·refine wpS.take 8 false (some 15) (.bool false) (by kernel_rfl) (yld_b (df hc) (fun _ => by kernel_rfl)) ?_
    refine wpS.ps [(9, 16, .bool false), (10, 17, .bool false), (11, 18, undef), (12, 19, undef), (13, 20, undef), (14, 21, undef), (15, 22, undef), (16, 23, undef), (17, 24, undef), (18, 25, .bool false), (19, 6, .bool false)] (by kernel_rfl) ?_
    refine wpS.fin rfl (kr4 _ _ ?_)
    refine then_n (ks3 _ _ ?_)
    refine xret ?_
    have q0 := of_some h
    subst q0
    exact qq _ _ (post_ret (by kernel_rfl) (run_results [.tmp 6] [.bool false] (by kernel_rfl) (.cons (res_tmp (by kernel_rfl)) .nil)) ⟨congrArg Ending.returned (by kernel_rfl), hs.none⟩)
  ·refine wpS.take 4 false (some 11) (.bool false) (by kernel_rfl) (yld_b (df hc) (fun _ => by kernel_rfl)) ?_
   refine wpS.ps [(5, 12, .bool false), (6, 13, .bool false), (7, 14, undef), (8, 15, undef), (9, 16, .bool false), (10, 17, .bool false), (11, 18, undef), (12, 19, undef), (13, 20, undef), (14, 21, undef), (15, 22, undef), (16, 23, undef), (17, 24, undef), (18, 25, .bool false), (19, 6, .bool false)] (by kernel_rfl) ?_
   refine wpS.fin rfl (kr4 _ _ ?_)
   refine then_n (ks3 _ _ ?_)
   refine xret ?_
   have q0 := of_some h
   subst q0
   exact qq _ _ (post_ret (by kernel_rfl) (run_results [.tmp 6] [.bool false] (by kernel_rfl) (.cons (res_tmp (by kernel_rfl)) .nil)) ⟨congrArg Ending.returned (by kernel_rfl), hs.none⟩)
 ·refine wpS.take 1 false (some 8) (.bool false) (by kernel_rfl) (yld_b (df hc) (fun _ => by kernel_rfl)) ?_
  refine wpS.ps [(2, 9, .bool false), (3, 10, undef), (4, 11, undef), (5, 12, .bool false), (6, 13, .bool false), (7, 14, undef), (8, 15, undef), (9, 16, .bool false), (10, 17, .bool false), (11, 18, undef), (12, 19, undef), (13, 20, undef), (14, 21, undef), (15, 22, undef), (16, 23, undef), (17, 24, undef), (18, 25, .bool false), (19, 6, .bool false)] (by kernel_rfl) ?_
  refine wpS.fin rfl (kr4 _ _ ?_)
  refine then_n (ks3 _ _ ?_)
  refine xret ?_
  have q0 := of_some h
  subst q0
  exact qq _ _ (post_ret (by kernel_rfl) (run_results [.tmp 6] [.bool false] (by kernel_rfl) (.cons (res_tmp (by kernel_rfl)) .nil)) ⟨congrArg Ending.returned (by kernel_rfl), hs.none⟩)

theorem ref01_Unpack.ok {K : Nat} {a0 : List Int} {a1 : Int} {a2 : Int} {r0 : List Int} {a0_A : Option Addr} {a0_n : Nat} {a0_c : Nat} (h : ref01_Unpack.f K a0 a1 a2 = some r0) (w0 : World) (hp0 : RowL (CI .u8) w0 a0_A a0_n a0_c a0) : Calls Try.prog 53 #[.slice a0_A a0_n a0_c, .int .i64 a1, .int .i64 a2] w0 fun e w' => ∃ h : (Option Addr × Nat × Nat), e = .returned (.slice h.1 h.2.1 h.2.2) ∧ St w0 [] [.ownL (CI .u32) h.1 h.2.1 h.2.2 r0 84] [] w' := by
 refine calls_k Try.func53 rfl fun Q qq => ?_
 have hs := St.startR (all_cons (RowP.ent hp0) all_nil)
 refine wp_conv (a' := ⟨#[.slice a0_A a0_n a0_c, .int .i64 a1, .int .i64 a2, undef, undef, undef, undef, undef, undef, undef, undef, undef, undef, undef, undef, undef, undef, undef, undef, undef, undef, undef, undef, undef, undef, undef, undef, undef, undef, undef, undef, undef, undef, undef, undef, undef, undef, undef, undef, undef, undef, undef, undef, undef, undef, undef, undef, undef, undef, undef, undef], []⟩) (by kernel_rfl) ?_
 refine xseq_k fun KS1 ks1 => ?_
 refine wp_regS (l := [0]) (by kernel_rfl) (by kernel_rfl) fun KR2 kr2 => ?_
 refine wpS.p 0 6 (.slice none 0 0) (by kernel_rfl) ?_
 refine wpS.fin rfl (kr2 _ _ ?_)
 refine then_n (ks1 _ _ ?_)
 refine xseq_k fun KS3 ks3 => ?_
 refine xseq_k fun KS4 ks4 => ?_
 refine wp_regS (l := [0, 1, 2, 3, 4]) (by kernel_rfl) (by kernel_rfl) fun KR5 kr5 => ?_
 refine wpS.ps [(0, 12, .slice a0_A a0_n a0_c), (1, 13, .int .i64 a1), (2, 14, .int .i64 a2)] (by kernel_rfl) ?_
 obtain ⟨r1, hg, h⟩ := of_bind h
 cases r1 with
 | true =>
  have h := of_if_t h
  refine wpS.only 3 (op_call (d := (some 15)) (by kernel_rfl) hs (fun _ => by kernel_rfl) (ref01_such.ok hg _ (hs.rowR 0 rfl)) ?_)
  intro w gw hs
  refine ⟨fun _ => trivial, ?_⟩
  refine wpS.p 4 16 (.bool false) (by kernel_rfl) ?_
  refine wpS.fin rfl (kr5 _ _ ?_)
  refine then_n (ks4 _ _ ?_)
  refine wp_cond_f (by kernel_rfl) ?_
  refine xskip ?_
  refine then_n (ks3 _ _ ?_)
  refine xseq_k fun KS6 ks6 => ?_
  refine wp_regS (l := [0]) (by kernel_rfl) (by kernel_rfl) fun KR7 kr7 => ?_
  refine wpS.p 0 7 (.slice none 0 0) (by kernel_rfl) ?_
  refine wpS.fin rfl (kr7 _ _ ?_)
  refine then_n (ks6 _ _ ?_)
  refine xseq_k fun KS8 ks8 => ?_
  refine xseq_k fun KS9 ks9 => ?_
  refine wp_regS (l := [0]) (by kernel_rfl) (by kernel_rfl) fun KR10 kr10 => ?_
  refine wpS.p 0 8 (.int .i64 0) (by kernel_rfl) ?_
  refine wpS.fin rfl (kr10 _ _ ?_)
  refine then_n (ks9 _ _ ?_)
  have hs := hs.addNilL (CI .u32) 84
  obtain ⟨y4, hy, hk0⟩ := of_bind h
  refine wp_exq (N := fun a w => ∃ (y4_A : Option Addr) (y4_n : Nat) (y4_c : Nat), St w0 [] [.ownL (CI .u32) y4_A y4_n y4_c y4 84] [.rowL (CI .u8) a0_A a0_n a0_c a0] w ∧ ∃ g : Nat → Value, a = ⟨#[.slice a0_A a0_n a0_c, .int .i64 a1, .int .i64 a2, undef, undef, undef, .slice none 0 0, .slice y4_A y4_n y4_c, (g 8), (g 9), (g 10), (g 11), .slice a0_A a0_n a0_c, .int .i64 a1, .int .i64 a2, .bool true, .bool false, (g 17), (g 18), (g 19), (g 20), (g 21), (g 22), (g 23), (g 24), (g 25), (g 26), (g 27), (g 28), (g 29), (g 30), (g 31), (g 32), (g 33), (g 34), (g 35), (g 36), (g 37), (g 38), (g 39), (g 40), (g 41), (g 42), (g 43), (g 44), (g 45), (g 46), (g 47), (g 48), (g 49), undef], []⟩) (fun N0 nn0 => ?_) ?_
  ·clear hk0
   refine xblock ?_
   refine wp_loop_k (fun n a w => ∃ z2 z3, ∃ (z3_A : Option Addr) (z3_n : Nat) (z3_c : Nat), ref01_Unpack.l0 K n a0 a1 a2 z2 z3 = some y4 ∧ St w0 [] [.ownL (CI .u32) z3_A z3_n z3_c z3 84] [.rowL (CI .u8) a0_A a0_n a0_c a0] w ∧ ∃ g : Nat → Value, a = ⟨#[.slice a0_A a0_n a0_c, .int .i64 a1, .int .i64 a2, undef, undef, undef, .slice none 0 0, .slice z3_A z3_n z3_c, .int .i64 z2, (g 9), (g 10), (g 11), .slice a0_A a0_n a0_c, .int .i64 a1, .int .i64 a2, .bool true, .bool false, (g 17), (g 18), (g 19), (g 20), (g 21), (g 22), (g 23), (g 24), (g 25), (g 26), (g 27), (g 28), (g 29), (g 30), (g 31), (g 32), (g 33), (g 34), (g 35), (g 36), (g 37), (g 38), (g 39), (g 40), (g 41), (g 42), (g 43), (g 44), (g 45), (g 46), (g 47), (g 48), (g 49), undef], []⟩) K ⟨0, ([] : List Int), none, 0, 0, hy, hs.conv rfl, exg (by kernel_rfl)⟩ ?_
   clear hs h hy
   rintro n a w ⟨z2, z3, z3_A, z3_n, z3_c, h, hs, g, rfl⟩ KL0 kl0
   cases n with
   | zero => exact nomatch (show none = some _ from h)
   | succ n =>
    refine xseq_k fun KS11 ks11 => ?_
    refine xseq_k fun KS12 ks12 => ?_
    refine wp_regS (l := [0, 1, 2]) (by kernel_rfl) (by kernel_rfl) fun KR13 kr13 => ?_
    refine wpS.ps [(0, 17, .int .i64 z2), (1, 18, .int .i64 a2)] (by kernel_rfl) ?_
    rcases of_if h with ⟨hc, h⟩ | ⟨hc, h⟩
    ·refine wpS.take 2 false (some 19) (.bool true) (by kernel_rfl) (yld_b (dt hc) (fun _ => by kernel_rfl)) ?_
     refine wpS.fin rfl (kr13 _ _ ?_)
     refine then_n (ks12 _ _ ?_)
     refine wp_cond_t (by kernel_rfl) ?_
     refine xskip ?_
     refine then_n (ks11 _ _ ?_)
     refine xseq_k fun KS14 ks14 => ?_
     refine xblock ?_
     refine xseq_k fun KS15 ks15 => ?_
     refine wp_regS (l := [0]) (by kernel_rfl) (by kernel_rfl) fun KR16 kr16 => ?_
     refine wpS.p 0 9 (.int .u32 0) (by kernel_rfl) ?_
     refine wpS.fin rfl (kr16 _ _ ?_)
     refine then_n (ks15 _ _ ?_)
     refine xseq_k fun KS17 ks17 => ?_
     refine xseq_k fun KS18 ks18 => ?_
     refine wp_regS (l := [0, 1, 2]) (by kernel_rfl) (by kernel_rfl) fun KR19 kr19 => ?_
     refine wpS.ps [(0, 22, .int .i64 a1), (1, 23, .int .i64 (isub .i64 a1 1))] (by kernel_rfl) ?_
     obtain ⟨x5, hx, h⟩ := of_bind h
     refine wpS.take 2 false (some 10) (.int .i64 x5) (by kernel_rfl) (yld_int hx (fun _ => by kernel_rfl)) ?_
     refine wpS.fin rfl (kr19 _ _ ?_)
     refine then_n (ks18 _ _ ?_)
     obtain ⟨y8, hy, hk1⟩ := of_bind h
     refine wp_exq (N := fun a w => St w0 [] [.ownL (CI .u32) z3_A z3_n z3_c z3 84] [.rowL (CI .u8) a0_A a0_n a0_c a0] w ∧ ∃ g : Nat → Value, a = ⟨#[.slice a0_A a0_n a0_c, .int .i64 a1, .int .i64 a2, undef, undef, undef, .slice none 0 0, .slice z3_A z3_n z3_c, .int .i64 z2, .int .u32 y8, (g 10), (g 11), .slice a0_A a0_n a0_c, .int .i64 a1, .int .i64 a2, .bool true, .bool false, .int .i64 z2, .int .i64 a2, .bool true, (g 20), (g 21), .int .i64 a1, .int .i64 (isub .i64 a1 1), (g 24), (g 25), (g 26), (g 27), (g 28), (g 29), (g 30), (g 31), (g 32), (g 33), (g 34), (g 35), (g 36), (g 37), (g 38), (g 39), (g 40), (g 41), (g 42), (g 43), (g 44), (g 45), (g 46), (g 47), (g 48), (g 49), undef], []⟩) (fun N1 nn1 => ?_) ?_
     ·clear hk1
      refine xblock ?_
      refine wp_loop_k (fun n a w => ∃ z6 z7, ref01_Unpack.l1 K n a0 a1 z2 z6 z7 = some y8 ∧ St w0 [] [.ownL (CI .u32) z3_A z3_n z3_c z3 84] [.rowL (CI .u8) a0_A a0_n a0_c a0] w ∧ ∃ g : Nat → Value, a = ⟨#[.slice a0_A a0_n a0_c, .int .i64 a1, .int .i64 a2, undef, undef, undef, .slice none 0 0, .slice z3_A z3_n z3_c, .int .i64 z2, .int .u32 z6, .int .i64 z7, (g 11), .slice a0_A a0_n a0_c, .int .i64 a1, .int .i64 a2, .bool true, .bool false, .int .i64 z2, .int .i64 a2, .bool true, (g 20), (g 21), .int .i64 a1, .int .i64 (isub .i64 a1 1), (g 24), (g 25), (g 26), (g 27), (g 28), (g 29), (g 30), (g 31), (g 32), (g 33), (g 34), (g 35), (g 36), (g 37), (g 38), (g 39), (g 40), (g 41), (g 42), (g 43), (g 44), (g 45), (g 46), (g 47), (g 48), (g 49), undef], []⟩) K ⟨0, x5, hy, hs.conv rfl, exg (by kernel_rfl)⟩ ?_
      clear hs h hy
      rintro n a w ⟨z6, z7, h, hs, g, rfl⟩ KL1 kl1
      cases n with
      | zero => exact nomatch (show none = some _ from h)
      | succ n =>
       refine xseq_k fun KS20 ks20 => ?_
       refine xseq_k fun KS21 ks21 => ?_
       refine wp_regS (l := [0, 1]) (by kernel_rfl) (by kernel_rfl) fun KR22 kr22 => ?_
       refine wpS.p 0 24 (.int .i64 z7) (by kernel_rfl) ?_
       rcases of_if h with ⟨hc, h⟩ | ⟨hc, h⟩
       ·refine wpS.take 1 false (some 25) (.bool true) (by kernel_rfl) (yld_b (dt hc) (fun _ => by kernel_rfl)) ?_
        refine wpS.fin rfl (kr22 _ _ ?_)
        refine then_n (ks21 _ _ ?_)
        refine wp_cond_t (by kernel_rfl) ?_
        refine xskip ?_
        refine then_n (ks20 _ _ ?_)
        refine xseq_k fun KS23 ks23 => ?_
        refine xblock ?_
        refine xseq_k fun KS24 ks24 => ?_
        refine wp_regS (l := [0, 1, 2, 3, 4, 5]) (by kernel_rfl) (by kernel_rfl) fun KR25 kr25 => ?_
        refine wpS.ps [(0, 28, .int .i64 z2), (1, 29, .int .i64 a1), (2, 30, .int .i64 (imul .i64 z2 a1)), (3, 31, .int .i64 z7), (4, 32, .int .i64 (iadd .i64 (imul .i64 z2 a1) z7))] (by kernel_rfl) ?_
        obtain ⟨x9, hx, h⟩ := of_bind h
        refine wpS.take 5 false (some 11) (.int .i64 x9) (by kernel_rfl) (yld_int hx (fun _ => by kernel_rfl)) ?_
        refine wpS.fin rfl (kr25 _ _ ?_)
        refine then_n (ks24 _ _ ?_)
        refine wp_regS (l := [0, 1, 2, 3, 4, 5, 6, 7, 8, 9, 10, 11, 12, 13]) (by kernel_rfl) (by kernel_rfl) fun KR26 kr26 => ?_
        refine wpS.ps [(0, 33, .int .u32 z6), (1, 34, .int .u32 (imul .u32 z6 2)), (2, 35, .slice a0_A a0_n a0_c), (3, 36, .int .i64 x9), (4, 37, .int .i64 (iquo .i64 x9 8))] (by kernel_rfl) ?_
        obtain ⟨x10, hx, h⟩ := of_bind h
        have hx := of_some hx
        subst hx
        obtain ⟨h0, h⟩ := of_chk h
        obtain ⟨h1, h⟩ := of_chk h
        have i0_27 := h0
        have i1_27 := h1
        refine wpS.take 5 false (some 38) (.pointer (adr a0_A (((iquo .i64 x9 8) : Int).toNat * Cod.size (CI .u8)))) (by kernel_rfl) (yld_idxL (C := (CI .u8)) (t := 24) (e := 5) (k := .i64) (x := (iquo .i64 x9 8)) (hs.rowR 0 rfl) (by kernel_rfl) (by kernel_rfl) (by kernel_rfl) h0 h1) ?_
        refine wpS.take 6 true (some 39) (.int .u8 (rdL (CI .u8) a0 (iquo .i64 x9 8))) (by kernel_rfl) (yld_loadL (C := (CI .u8)) (e := 5) (x := (iquo .i64 x9 8)) (hs.rowR 0 rfl) (by kernel_rfl) rfl (by kernel_rfl) i0_27 i1_27) ?_
        refine wpS.ps [(7, 40, .int .i64 x9), (8, 41, .int .i64 (irem .i64 x9 8))] (by kernel_rfl) ?_
        obtain ⟨h0, h⟩ := of_chk h
        refine wpS.take 9 false (some 42) (.int .u8 (ishr .u8 (rdL (CI .u8) a0 (iquo .i64 x9 8)) (irem .i64 x9 8))) (by kernel_rfl) (yld_shr (t := 5) (k' := .i64) (by kernel_rfl) h0) ?_
        refine wpS.ps [(10, 43, .int .u8 (iand .u8 (ishr .u8 (rdL (CI .u8) a0 (iquo .i64 x9 8)) (irem .i64 x9 8)) 1)), (11, 44, .int .u32 (iconv .u32 (iand .u8 (ishr .u8 (rdL (CI .u8) a0 (iquo .i64 x9 8)) (irem .i64 x9 8)) 1))), (12, 45, .int .u32 (iadd .u32 (imul .u32 z6 2) (iconv .u32 (iand .u8 (ishr .u8 (rdL (CI .u8) a0 (iquo .i64 x9 8)) (irem .i64 x9 8)) 1))))] (by kernel_rfl) ?_
        obtain ⟨x11, hx, h⟩ := of_bind h
        refine wpS.take 13 false (some 9) (.int .u32 x11) (by kernel_rfl) (yld_int hx (fun _ => by kernel_rfl)) ?_
        refine wpS.fin rfl (kr26 _ _ ?_)
        refine inBlock_n ?_
        refine then_n (ks23 _ _ ?_)
        refine wp_regS (l := [0, 1, 2]) (by kernel_rfl) (by kernel_rfl) fun KR28 kr28 => ?_
        refine wpS.ps [(0, 26, .int .i64 z7), (1, 27, .int .i64 (isub .i64 z7 1))] (by kernel_rfl) ?_
        obtain ⟨x12, hx, h⟩ := of_bind h
        refine wpS.take 2 false (some 10) (.int .i64 x12) (by kernel_rfl) (yld_int hx (fun _ => by kernel_rfl)) ?_
        refine wpS.fin rfl (kr28 _ _ ?_)
        exact then_n (kl1 _ _ ⟨n, Nat.lt_succ_self n, x11, x12, h, (hs.conv rfl), exg (by kernel_rfl)⟩)
       ·refine wpS.take 1 false (some 25) (.bool false) (by kernel_rfl) (yld_b (df hc) (fun _ => by kernel_rfl)) ?_
        refine wpS.fin rfl (kr22 _ _ ?_)
        refine then_n (ks21 _ _ ?_)
        refine wp_cond_f (by kernel_rfl) ?_
        refine xexit ?_
        refine then_x ?_
        refine then_x ?_
        refine inBlock_hit ?_
        have q0 := of_some h
        subst q0
        exact exq_n (nn1 _ _ ⟨(hs.conv rfl), exg (by kernel_rfl)⟩)
     ·clear hs h hy
      rintro a w ⟨hs, g, rfl⟩
      have h := hk1
      refine then_n (ks17 _ _ ?_)
      refine wp_regS (l := [0, 1, 2, 3, 4]) (by kernel_rfl) (by kernel_rfl) fun KR29 kr29 => ?_
      refine wpS.ps [(0, 46, .slice z3_A z3_n z3_c), (1, 47, .int .u32 y8)] (by kernel_rfl) ?_
      refine wpS.only 2 (op_lit (C := (CI .u32)) (t := 82) (e := 84) (len := 1) (parts := #[(0, .int .u32 y8)]) (l := [y8]) (d := (some 48)) (by kernel_rfl) hs (by kernel_rfl) (by kernel_rfl) (by kernel_rfl) (z := .int .u32 0) (by kernel_rfl) rfl (by decide) (by decide) (by kernel_rfl) ?_)
      intro s13_A s13_n s13_c w gw hs
      refine ⟨fun _ => trivial, ?_⟩
      obtain ⟨h0, h⟩ := of_chk h
      refine wpS.only 3 (op_appendT (C := (CI .u32)) (t := 82) (ty := 82) (e := 84) (bytes := 4) (B := 35184372088832) (d := (some 49)) (by kernel_rfl) hs 1 rfl (hs.rowL 0 rfl) (by kernel_rfl) (by kernel_rfl) (by kernel_rfl) (by kernel_rfl) (by kernel_rfl) h0 (by decide) (by decide) ?_)
      intro s14_A s14_n s14_c w hs
      refine ⟨fun _ => trivial, ?_⟩
      refine wpS.p 4 7 (.slice s14_A s14_n s14_c) (by kernel_rfl) ?_
      refine wpS.fin rfl (kr29 _ _ ?_)
      refine inBlock_n ?_
      refine then_n (ks14 _ _ ?_)
      refine wp_regS (l := [0, 1, 2]) (by kernel_rfl) (by kernel_rfl) fun KR30 kr30 => ?_
      refine wpS.ps [(0, 20, .int .i64 z2), (1, 21, .int .i64 (iadd .i64 z2 1))] (by kernel_rfl) ?_
      obtain ⟨x15, hx, h⟩ := of_bind h
      refine wpS.take 2 false (some 8) (.int .i64 x15) (by kernel_rfl) (yld_int hx (fun _ => by kernel_rfl)) ?_
      refine wpS.fin rfl (kr30 _ _ ?_)
      exact then_n (kl0 _ _ ⟨n, Nat.lt_succ_self n, x15, (z3 ++ ([y8] : List Int)), s14_A, s14_n, s14_c, h, (hs.drop (.cons _ (.cons_cons _ .slnil))), exg (by kernel_rfl)⟩)
    ·refine wpS.take 2 false (some 19) (.bool false) (by kernel_rfl) (yld_b (df hc) (fun _ => by kernel_rfl)) ?_
     refine wpS.fin rfl (kr13 _ _ ?_)
     refine then_n (ks12 _ _ ?_)
     refine wp_cond_f (by kernel_rfl) ?_
     refine xexit ?_
     refine then_x ?_
     refine then_x ?_
     refine inBlock_hit ?_
     have q0 := of_some h
     subst q0
     exact exq_n (nn0 _ _ ⟨z3_A, z3_n, z3_c, (hs.conv rfl), exg (by kernel_rfl)⟩)
  ·clear hs h hy
   rintro a w ⟨y4_A, y4_n, y4_c, hs, g, rfl⟩
   have h := hk0
   refine then_n (ks8 _ _ ?_)
   refine xseq_k fun KS31 ks31 => ?_
   refine wp_regS (l := [0, 1]) (by kernel_rfl) (by kernel_rfl) fun KR32 kr32 => ?_
   refine wpS.ps [(0, 50, .slice y4_A y4_n y4_c), (1, 6, .slice y4_A y4_n y4_c)] (by kernel_rfl) ?_
   refine wpS.fin rfl (kr32 _ _ ?_)
   refine then_n (ks31 _ _ ?_)
   refine xret ?_
   have q0 := of_some h
   subst q0
   exact qq _ _ (post_ret (by kernel_rfl) (run_results [.tmp 6] [.slice y4_A y4_n y4_c] (by kernel_rfl) (.cons (res_tmp (by kernel_rfl)) .nil)) ⟨⟨y4_A, y4_n, y4_c⟩, congrArg Ending.returned (by kernel_rfl), (hs.pickR pick_nil)⟩)
 | false =>
  have h := of_if_f h
  refine wpS.only 3 (op_call (d := (some 15)) (by kernel_rfl) hs (fun _ => by kernel_rfl) (ref01_such.ok hg _ (hs.rowR 0 rfl)) ?_)
  intro w gw hs
  refine ⟨fun _ => trivial, ?_⟩
  refine wpS.p 4 16 (.bool true) (by kernel_rfl) ?_
  refine wpS.fin rfl (kr5 _ _ ?_)
  refine then_n (ks4 _ _ ?_)
  refine wp_cond_t (by kernel_rfl) ?_
  refine xseq_k fun KS33 ks33 => ?_
  refine wp_regS (l := [0]) (by kernel_rfl) (by kernel_rfl) fun KR34 kr34 => ?_
  refine wpS.p 0 6 (.slice none 0 0) (by kernel_rfl) ?_
  refine wpS.fin rfl (kr34 _ _ ?_)
  refine then_n (ks33 _ _ ?_)
  refine xret ?_
  refine then_r ?_
  have q0 := of_some h
  subst q0
  have hs := hs.addNilL (CI .u32) 84
  exact qq _ _ (post_ret (by kernel_rfl) (run_results [.tmp 6] [.slice none 0 0] (by kernel_rfl) (.cons (res_tmp (by kernel_rfl)) .nil)) ⟨⟨none, 0, 0⟩, congrArg Ending.returned (by kernel_rfl), (hs.pickR pick_nil)⟩)
end Go.Proofs.Ytblploekkjeolaa
