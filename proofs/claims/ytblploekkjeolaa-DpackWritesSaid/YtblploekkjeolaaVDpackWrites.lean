/- Printed by this work's own program: the code of each function below comes to the answer that its plain form tells. -/
import Derived.Test.YtblploekkjeolaaMj
import Derived.Test.YtblploekkjeolaaProg
import Derived.Test.YtblploekkjeolaaLDpackWrites
import Derived.Test.YtblploekkjeolaaDX0
import Derived.Test.YtblploekkjeolaaDX1
import Derived.Test.YtblploekkjeolaaDX10
import Derived.Test.YtblploekkjeolaaDX11
import Derived.Test.YtblploekkjeolaaDX12
import Derived.Test.YtblploekkjeolaaDX2
import Derived.Test.YtblploekkjeolaaDX3
import Derived.Test.YtblploekkjeolaaDX5
import Derived.Test.YtblploekkjeolaaDX6
import Derived.Test.YtblploekkjeolaaDX7
import Derived.Test.YtblploekkjeolaaDX8
import Derived.Test.YtblploekkjeolaaDX9
set_option linter.unusedVariables false
set_option linter.unusedSimpArgs false
set_option maxRecDepth 100000
set_option maxHeartbeats 4000000
namespace Go.Proofs.Ytblploekkjeolaa
open Go.Mx
attribute [local irreducible] wpOp

theorem law22_DpackWrites.ok {K : Nat} {a0 : Int} {a1_0 : Int} {a1_1 : Int} {a1_2 : Int} {a1_3 : Int} {a1_4 : Int} {a1_5 : Int} {a1_6 : Int} {a1_7 : Int} {a2_0 : List Int} {a2_1 : List (Arr 256)} {a3_0 : List Int} {a3_1 : List Int} {a3_2 : List Int} {a3_3 : List (Arr 256)} {a3_4 : List (Arr 256)} {a3_5 : List (Arr 256)} {a4_0 : List Int} {a4_1 : List (Arr 256)} {a4_2 : List (Arr 256)} {r0 : Bool} {a2_0_A : Option Addr} {a2_0_n : Nat} {a2_0_c : Nat} {a2_1_A : Option Addr} {a2_1_n : Nat} {a2_1_c : Nat} {a3_0_A : Option Addr} {a3_0_n : Nat} {a3_0_c : Nat} {a3_1_A : Option Addr} {a3_1_n : Nat} {a3_1_c : Nat} {a3_2_A : Option Addr} {a3_2_n : Nat} {a3_2_c : Nat} {a3_3_A : Option Addr} {a3_3_n : Nat} {a3_3_c : Nat} {a3_4_A : Option Addr} {a3_4_n : Nat} {a3_4_c : Nat} {a3_5_A : Option Addr} {a3_5_n : Nat} {a3_5_c : Nat} {a4_0_A : Option Addr} {a4_0_n : Nat} {a4_0_c : Nat} {a4_1_A : Option Addr} {a4_1_n : Nat} {a4_1_c : Nat} {a4_2_A : Option Addr} {a4_2_n : Nat} {a4_2_c : Nat} (h : law22_DpackWrites.f K a0 a1_0 a1_1 a1_2 a1_3 a1_4 a1_5 a1_6 a1_7 a2_0 a2_1 a3_0 a3_1 a3_2 a3_3 a3_4 a3_5 a4_0 a4_1 a4_2 = some r0) (w0 : World) (hp2_0 : RowL (CI .u8) w0 a2_0_A a2_0_n a2_0_c a2_0) (hp2_1 : RowL (CA .i32 256 (by decide)) w0 a2_1_A a2_1_n a2_1_c a2_1) (hp3_0 : RowL (CI .u8) w0 a3_0_A a3_0_n a3_0_c a3_0) (hp3_1 : RowL (CI .u8) w0 a3_1_A a3_1_n a3_1_c a3_1) (hp3_2 : RowL (CI .u8) w0 a3_2_A a3_2_n a3_2_c a3_2) (hp3_3 : RowL (CA .i32 256 (by decide)) w0 a3_3_A a3_3_n a3_3_c a3_3) (hp3_4 : RowL (CA .i32 256 (by decide)) w0 a3_4_A a3_4_n a3_4_c a3_4) (hp3_5 : RowL (CA .i32 256 (by decide)) w0 a3_5_A a3_5_n a3_5_c a3_5) (hp4_0 : RowL (CI .u8) w0 a4_0_A a4_0_n a4_0_c a4_0) (hp4_1 : RowL (CA .i32 256 (by decide)) w0 a4_1_A a4_1_n a4_1_c a4_1) (hp4_2 : RowL (CA .i32 256 (by decide)) w0 a4_2_A a4_2_n a4_2_c a4_2) : Ret Try.prog 3 #[.int .u8 a0, .agg #[.int .i64 a1_0, .int .i64 a1_1, .int .i32 a1_2, .int .i64 a1_3, .int .i32 a1_4, .int .i32 a1_5, .int .i64 a1_6, .int .i64 a1_7], .agg #[.slice a2_0_A a2_0_n a2_0_c, .slice a2_1_A a2_1_n a2_1_c], .agg #[.slice a3_0_A a3_0_n a3_0_c, .slice a3_1_A a3_1_n a3_1_c, .slice a3_2_A a3_2_n a3_2_c, .slice a3_3_A a3_3_n a3_3_c, .slice a3_4_A a3_4_n a3_4_c, .slice a3_5_A a3_5_n a3_5_c], .agg #[.slice a4_0_A a4_0_n a4_0_c, .slice a4_1_A a4_1_n a4_1_c, .slice a4_2_A a4_2_n a4_2_c]] w0 (.bool r0) := by
  refine calls_k Try.func3 rfl fun Q qq => ?_
  have hs := St.startR (all_cons (RowP.ent hp2_0) (all_cons (RowP.ent hp2_1) (all_cons (RowP.ent hp3_0) (all_cons (RowP.ent hp3_1) (all_cons (RowP.ent hp3_2) (all_cons (RowP.ent hp3_3) (all_cons (RowP.ent hp3_4) (all_cons (RowP.ent hp3_5) (all_cons (RowP.ent hp4_0) (all_cons (RowP.ent hp4_1) (all_cons (RowP.ent hp4_2) all_nil)))))))))))
  refine wp_conv (a' := ⟨#[.int .u8 a0, .agg #[.int .i64 a1_0, .int .i64 a1_1, .int .i32 a1_2, .int .i64 a1_3, .int .i32 a1_4, .int .i32 a1_5, .int .i64 a1_6, .int .i64 a1_7], .agg #[.slice a2_0_A a2_0_n a2_0_c, .slice a2_1_A a2_1_n a2_1_c], .agg #[.slice a3_0_A a3_0_n a3_0_c, .slice a3_1_A a3_1_n a3_1_c, .slice a3_2_A a3_2_n a3_2_c, .slice a3_3_A a3_3_n a3_3_c, .slice a3_4_A a3_4_n a3_4_c, .slice a3_5_A a3_5_n a3_5_c], .agg #[.slice a4_0_A a4_0_n a4_0_c, .slice a4_1_A a4_1_n a4_1_c, .slice a4_2_A a4_2_n a4_2_c], undef, undef, undef, undef, undef, undef, undef, undef, undef, undef, undef, undef, undef, undef, undef, undef, undef, undef, undef, undef, undef, undef, undef, undef, undef, undef, undef, undef, undef, undef, undef, undef, undef, undef, undef, undef, undef, undef, undef, undef, undef, undef, undef, undef, undef, undef, undef, undef, undef, undef, undef, undef, undef, undef, undef, undef, undef, undef, undef, undef, undef, undef, undef, undef, undef, undef, undef, undef, undef, undef, undef, undef, undef, undef, undef, undef, undef, undef, undef, undef, undef, undef, undef, undef], []⟩) (by kernel_rfl) ?_
  refine xseq_k fun KS1 ks1 => ?_
  refine wp_regS (l := [0, 1, 2, 3, 4]) (by kernel_rfl) (by kernel_rfl) fun KR2 kr2 => ?_
  refine wpS.only 0 (op_box (t := 23) (v := .agg #[.int .i64 a1_0, .int .i64 a1_1, .int .i32 a1_2, .int .i64 a1_3, .int .i32 a1_4, .int .i32 a1_5, .int .i64 a1_6, .int .i64 a1_7]) (d := (some 6)) (by kernel_rfl) hs ([.int .i64 a1_0, .int .i64 a1_1, .int .i32 a1_2, .int .i64 a1_3, .int .i32 a1_4, .int .i32 a1_5, .int .i64 a1_6, .int .i64 a1_7]) (by kernel_rfl) (by kernel_rfl) ?_)
  intro b1 w gw hs
  refine ⟨fun _ => trivial, ?_⟩
  refine wpS.only 1 (op_box (t := 27) (v := .agg #[.slice a2_0_A a2_0_n a2_0_c, .slice a2_1_A a2_1_n a2_1_c]) (d := (some 7)) (by kernel_rfl) hs ([.slice a2_0_A a2_0_n a2_0_c, .slice a2_1_A a2_1_n a2_1_c]) (by kernel_rfl) (by kernel_rfl) ?_)
  intro b2 w gw hs
  refine ⟨fun _ => trivial, ?_⟩
  refine wpS.only 2 (op_box (t := 29) (v := .agg #[.slice a3_0_A a3_0_n a3_0_c, .slice a3_1_A a3_1_n a3_1_c, .slice a3_2_A a3_2_n a3_2_c, .slice a3_3_A a3_3_n a3_3_c, .slice a3_4_A a3_4_n a3_4_c, .slice a3_5_A a3_5_n a3_5_c]) (d := (some 8)) (by kernel_rfl) hs ([.slice a3_0_A a3_0_n a3_0_c, .slice a3_1_A a3_1_n a3_1_c, .slice a3_2_A a3_2_n a3_2_c, .slice a3_3_A a3_3_n a3_3_c, .slice a3_4_A a3_4_n a3_4_c, .slice a3_5_A a3_5_n a3_5_c]) (by kernel_rfl) (by kernel_rfl) ?_)
  intro b3 w gw hs
  refine ⟨fun _ => trivial, ?_⟩
  refine wpS.only 3 (op_box (t := 31) (v := .agg #[.slice a4_0_A a4_0_n a4_0_c, .slice a4_1_A a4_1_n a4_1_c, .slice a4_2_A a4_2_n a4_2_c]) (d := (some 9)) (by kernel_rfl) hs ([.slice a4_0_A a4_0_n a4_0_c, .slice a4_1_A a4_1_n a4_1_c, .slice a4_2_A a4_2_n a4_2_c]) (by kernel_rfl) (by kernel_rfl) ?_)
  intro b4 w gw hs
  refine ⟨fun _ => trivial, ?_⟩
  refine wpS.take 4 false (some 10) (.bool false) (by kernel_rfl) (yld fun _ => by kernel_rfl) ?_
  refine wpS.fin rfl (kr2 _ _ ?_)
  refine then_n (ks1 _ _ ?_)
  refine xseq_k fun KS3 ks3 => ?_
  refine wp_regS (l := [0, 1, 2, 3]) (by kernel_rfl) (by kernel_rfl) fun KR4 kr4 => ?_
  refine wpS.take 0 false (some 11) (.int .u8 a0) (by kernel_rfl) (yld fun _ => by kernel_rfl) ?_
  refine wpS.take 1 true (some 12) (.agg #[.int .i64 a1_0, .int .i64 a1_1, .int .i32 a1_2, .int .i64 a1_3, .int .i32 a1_4, .int .i32 a1_5, .int .i64 a1_6, .int .i64 a1_7]) (by kernel_rfl) (yld_loadW (e := 23) (n := 8) hs 3 rfl (by kernel_rfl) (by kernel_rfl) (by kernel_rfl) (by simp [enc_len]) .grow) ?_
  obtain ⟨⟨r5_0, r5_1, r5_2, r5_3, r5_4, r5_5, r5_6, r5_7⟩, hg, h⟩ := of_bind h
  refine wpS.only 2 (op_call (d := (some 13)) (by kernel_rfl) hs (fun _ => by kernel_rfl) (law22_kind.ok hg _) ?_)
  intro w gw hs
  refine ⟨fun _ => trivial, ?_⟩
  refine wpS.only 3 (op_storeW (t := 23) (v := .agg #[.int .i64 r5_0, .int .i64 r5_1, .int .i32 r5_2, .int .i64 r5_3, .int .i32 r5_4, .int .i32 r5_5, .int .i64 r5_6, .int .i64 r5_7]) (d := none) (by kernel_rfl) hs 3 rfl (vs := [.int .i64 r5_0, .int .i64 r5_1, .int .i32 r5_2, .int .i64 r5_3, .int .i32 r5_4, .int .i32 r5_5, .int .i64 r5_6, .int .i64 r5_7]) (n := 8) (by kernel_rfl) (by kernel_rfl) (by kernel_rfl) (by simp [enc_len]) (by simp [enc_len]) (by simp [Value.oneCell']) ?_)
  intro w kp hs
  refine ⟨fun _ => trivial, ?_⟩
  refine wpS.fin rfl (kr4 _ _ ?_)
  refine then_n (ks3 _ _ ?_)
  refine xseq_k fun KS11 ks11 => ?_
  refine xseq_k fun KS12 ks12 => ?_
  refine wp_regS (l := [0, 1, 2, 3, 4, 5, 6, 7, 8, 9, 10, 11, 12, 13, 14, 15, 16, 17, 18, 19, 20, 21, 22, 23, 24, 25, 26, 27, 28, 29, 30, 31, 32, 33, 34, 35, 36, 37, 38, 39, 40, 41, 42, 43, 44, 45]) (by kernel_rfl) (by kernel_rfl) fun KR13 kr13 => ?_
  refine wpS.take 0 false (some 14) (.pointer (some ⟨b2, 0, none⟩)) (by kernel_rfl) (yld fun _ => by kernel_rfl) ?_
  refine wpS.take 1 true (some 15) (.slice a2_0_A a2_0_n a2_0_c) (by kernel_rfl) (yld_load1 (e := 24) (o := 0) hs 2 rfl (by kernel_rfl) (by kernel_rfl) (by rfl) .grow) ?_
  refine wpS.take 2 false (some 16) (.int .i64 (a2_0.length : Int)) (by kernel_rfl) (yld_lenL (hs.rowR 0 rfl) (fun _ => by kernel_rfl)) ?_
  refine wpS.take 3 false (some 17) (.pointer (some ⟨b3, 0, none⟩)) (by kernel_rfl) (yld fun _ => by kernel_rfl) ?_
  refine wpS.take 4 true (some 18) (.slice a3_0_A a3_0_n a3_0_c) (by kernel_rfl) (yld_load1 (e := 24) (o := 0) hs 1 rfl (by kernel_rfl) (by kernel_rfl) (by rfl) .grow) ?_
  refine wpS.take 5 false (some 19) (.int .i64 (a3_0.length : Int)) (by kernel_rfl) (yld_lenL (hs.rowR 2 rfl) (fun _ => by kernel_rfl)) ?_
  refine wpS.take 6 false (some 20) (.int .i64 (iadd .i64 (a2_0.length : Int) (a3_0.length : Int))) (by kernel_rfl) (yld fun _ => by kernel_rfl) ?_
  refine wpS.take 7 false (some 21) (.pointer (some ⟨b3, 1, none⟩)) (by kernel_rfl) (yld fun _ => by kernel_rfl) ?_
  refine wpS.take 8 true (some 22) (.slice a3_1_A a3_1_n a3_1_c) (by kernel_rfl) (yld_load1 (e := 24) (o := 1) hs 1 rfl (by kernel_rfl) (by kernel_rfl) (by rfl) .grow) ?_
  refine wpS.take 9 false (some 23) (.int .i64 (a3_1.length : Int)) (by kernel_rfl) (yld_lenL (hs.rowR 3 rfl) (fun _ => by kernel_rfl)) ?_
  refine wpS.take 10 false (some 24) (.int .i64 (iadd .i64 (iadd .i64 (a2_0.length : Int) (a3_0.length : Int)) (a3_1.length : Int))) (by kernel_rfl) (yld fun _ => by kernel_rfl) ?_
  refine wpS.take 11 false (some 25) (.pointer (some ⟨b3, 2, none⟩)) (by kernel_rfl) (yld fun _ => by kernel_rfl) ?_
  refine wpS.take 12 true (some 26) (.slice a3_2_A a3_2_n a3_2_c) (by kernel_rfl) (yld_load1 (e := 24) (o := 2) hs 1 rfl (by kernel_rfl) (by kernel_rfl) (by rfl) .grow) ?_
  refine wpS.take 13 false (some 27) (.int .i64 (a3_2.length : Int)) (by kernel_rfl) (yld_lenL (hs.rowR 4 rfl) (fun _ => by kernel_rfl)) ?_
  refine wpS.take 14 false (some 28) (.int .i64 (iadd .i64 (iadd .i64 (iadd .i64 (a2_0.length : Int) (a3_0.length : Int)) (a3_1.length : Int)) (a3_2.length : Int))) (by kernel_rfl) (yld fun _ => by kernel_rfl) ?_
  refine wpS.take 15 false (some 29) (.pointer (some ⟨b4, 0, none⟩)) (by kernel_rfl) (yld fun _ => by kernel_rfl) ?_
  refine wpS.take 16 true (some 30) (.slice a4_0_A a4_0_n a4_0_c) (by kernel_rfl) (yld_load1 (e := 24) (o := 0) hs 0 rfl (by kernel_rfl) (by kernel_rfl) (by rfl) .grow) ?_
  refine wpS.take 17 false (some 31) (.int .i64 (a4_0.length : Int)) (by kernel_rfl) (yld_lenL (hs.rowR 8 rfl) (fun _ => by kernel_rfl)) ?_
  refine wpS.take 18 false (some 32) (.int .i64 (iadd .i64 (iadd .i64 (iadd .i64 (iadd .i64 (a2_0.length : Int) (a3_0.length : Int)) (a3_1.length : Int)) (a3_2.length : Int)) (a4_0.length : Int))) (by kernel_rfl) (yld fun _ => by kernel_rfl) ?_
  rcases of_if h with ⟨hc, h⟩ | ⟨hc, h⟩
  · refine wpS.take 19 false (some 33) (.bool true) (by kernel_rfl) (yld_b (dt hc) (fun _ => by kernel_rfl)) ?_
    refine wpS.take 20 false (some 34) (.bool true) (by kernel_rfl) (yld fun _ => by kernel_rfl) ?_
    refine wpS.take 21 false (some 35) (undef) (by kernel_rfl) (yld fun _ => by kernel_rfl) ?_
    refine wpS.take 22 false (some 36) (undef) (by kernel_rfl) (yld fun _ => by kernel_rfl) ?_
    refine wpS.take 23 false (some 37) (undef) (by kernel_rfl) (yld fun _ => by kernel_rfl) ?_
    refine wpS.take 24 false (some 38) (undef) (by kernel_rfl) (yld fun _ => by kernel_rfl) ?_
    refine wpS.take 25 false (some 39) (undef) (by kernel_rfl) (yld fun _ => by kernel_rfl) ?_
    refine wpS.take 26 false (some 40) (undef) (by kernel_rfl) (yld fun _ => by kernel_rfl) ?_
    refine wpS.take 27 false (some 41) (undef) (by kernel_rfl) (yld fun _ => by kernel_rfl) ?_
    refine wpS.take 28 false (some 42) (undef) (by kernel_rfl) (yld fun _ => by kernel_rfl) ?_
    refine wpS.take 29 false (some 43) (undef) (by kernel_rfl) (yld fun _ => by kernel_rfl) ?_
    refine wpS.take 30 false (some 44) (undef) (by kernel_rfl) (yld fun _ => by kernel_rfl) ?_
    refine wpS.take 31 false (some 45) (undef) (by kernel_rfl) (yld fun _ => by kernel_rfl) ?_
    refine wpS.take 32 false (some 46) (undef) (by kernel_rfl) (yld fun _ => by kernel_rfl) ?_
    refine wpS.take 33 false (some 47) (undef) (by kernel_rfl) (yld fun _ => by kernel_rfl) ?_
    refine wpS.take 34 false (some 48) (undef) (by kernel_rfl) (yld fun _ => by kernel_rfl) ?_
    refine wpS.take 35 false (some 49) (undef) (by kernel_rfl) (yld fun _ => by kernel_rfl) ?_
    refine wpS.take 36 false (some 50) (undef) (by kernel_rfl) (yld fun _ => by kernel_rfl) ?_
    refine wpS.take 37 false (some 51) (undef) (by kernel_rfl) (yld fun _ => by kernel_rfl) ?_
    refine wpS.take 38 false (some 52) (undef) (by kernel_rfl) (yld fun _ => by kernel_rfl) ?_
    refine wpS.take 39 false (some 53) (undef) (by kernel_rfl) (yld fun _ => by kernel_rfl) ?_
    refine wpS.take 40 false (some 54) (undef) (by kernel_rfl) (yld fun _ => by kernel_rfl) ?_
    refine wpS.take 41 false (some 55) (undef) (by kernel_rfl) (yld fun _ => by kernel_rfl) ?_
    refine wpS.take 42 false (some 56) (undef) (by kernel_rfl) (yld fun _ => by kernel_rfl) ?_
    refine wpS.take 43 false (some 57) (undef) (by kernel_rfl) (yld fun _ => by kernel_rfl) ?_
    refine wpS.take 44 false (some 58) (undef) (by kernel_rfl) (yld fun _ => by kernel_rfl) ?_
    refine wpS.take 45 false (some 59) (.bool true) (by kernel_rfl) (yld fun _ => by kernel_rfl) ?_
    refine wpS.fin rfl (kr13 _ _ ?_)
    refine then_n (ks12 _ _ ?_)
    refine wp_cond_t (by kernel_rfl) ?_
    refine xseq_k fun KS14 ks14 => ?_
    refine wp_regS (l := [0, 1]) (by kernel_rfl) (by kernel_rfl) fun KR15 kr15 => ?_
    obtain ⟨r6, hg, h⟩ := of_bind h
    refine wpS.only 0 (op_call (d := (some 60)) (by kernel_rfl) hs (fun _ => by kernel_rfl) (law22_awake.ok hg _) ?_)
    intro w gw hs
    refine ⟨fun _ => trivial, ?_⟩
    refine wpS.take 1 false (some 10) (.bool r6) (by kernel_rfl) (yld fun _ => by kernel_rfl) ?_
    refine wpS.fin rfl (kr15 _ _ ?_)
    refine then_n (ks14 _ _ ?_)
    refine xret ?_
    refine then_r ?_
    have q0 := of_some h
    subst q0
    exact qq _ _ (post_ret (by kernel_rfl) (run_results [.tmp 10] [.bool r6] (by kernel_rfl) (.cons (res_tmp (by kernel_rfl)) .nil)) ⟨congrArg Ending.returned (by kernel_rfl), hs.none⟩)
  · refine wpS.take 19 false (some 33) (.bool false) (by kernel_rfl) (yld_b (df hc) (fun _ => by kernel_rfl)) ?_
    refine wpS.take 20 false (some 34) (.bool false) (by kernel_rfl) (yld fun _ => by kernel_rfl) ?_
    refine wpS.take 21 false (some 35) (.pointer (some ⟨b2, 1, none⟩)) (by kernel_rfl) (yld fun _ => by kernel_rfl) ?_
    refine wpS.take 22 true (some 36) (.slice a2_1_A a2_1_n a2_1_c) (by kernel_rfl) (yld_load1 (e := 25) (o := 1) hs 2 rfl (by kernel_rfl) (by kernel_rfl) (by rfl) .grow) ?_
    refine wpS.take 23 false (some 37) (.int .i64 (a2_1.length : Int)) (by kernel_rfl) (yld_lenL (hs.rowR 1 rfl) (fun _ => by kernel_rfl)) ?_
    refine wpS.take 24 false (some 38) (.pointer (some ⟨b3, 3, none⟩)) (by kernel_rfl) (yld fun _ => by kernel_rfl) ?_
    refine wpS.take 25 true (some 39) (.slice a3_3_A a3_3_n a3_3_c) (by kernel_rfl) (yld_load1 (e := 25) (o := 3) hs 1 rfl (by kernel_rfl) (by kernel_rfl) (by rfl) .grow) ?_
    refine wpS.take 26 false (some 40) (.int .i64 (a3_3.length : Int)) (by kernel_rfl) (yld_lenL (hs.rowR 5 rfl) (fun _ => by kernel_rfl)) ?_
    refine wpS.take 27 false (some 41) (.int .i64 (iadd .i64 (a2_1.length : Int) (a3_3.length : Int))) (by kernel_rfl) (yld fun _ => by kernel_rfl) ?_
    refine wpS.take 28 false (some 42) (.pointer (some ⟨b3, 4, none⟩)) (by kernel_rfl) (yld fun _ => by kernel_rfl) ?_
    refine wpS.take 29 true (some 43) (.slice a3_4_A a3_4_n a3_4_c) (by kernel_rfl) (yld_load1 (e := 25) (o := 4) hs 1 rfl (by kernel_rfl) (by kernel_rfl) (by rfl) .grow) ?_
    refine wpS.take 30 false (some 44) (.int .i64 (a3_4.length : Int)) (by kernel_rfl) (yld_lenL (hs.rowR 6 rfl) (fun _ => by kernel_rfl)) ?_
    refine wpS.take 31 false (some 45) (.int .i64 (iadd .i64 (iadd .i64 (a2_1.length : Int) (a3_3.length : Int)) (a3_4.length : Int))) (by kernel_rfl) (yld fun _ => by kernel_rfl) ?_
    refine wpS.take 32 false (some 46) (.pointer (some ⟨b3, 5, none⟩)) (by kernel_rfl) (yld fun _ => by kernel_rfl) ?_
    refine wpS.take 33 true (some 47) (.slice a3_5_A a3_5_n a3_5_c) (by kernel_rfl) (yld_load1 (e := 25) (o := 5) hs 1 rfl (by kernel_rfl) (by kernel_rfl) (by rfl) .grow) ?_
    refine wpS.take 34 false (some 48) (.int .i64 (a3_5.length : Int)) (by kernel_rfl) (yld_lenL (hs.rowR 7 rfl) (fun _ => by kernel_rfl)) ?_
    refine wpS.take 35 false (some 49) (.int .i64 (iadd .i64 (iadd .i64 (iadd .i64 (a2_1.length : Int) (a3_3.length : Int)) (a3_4.length : Int)) (a3_5.length : Int))) (by kernel_rfl) (yld fun _ => by kernel_rfl) ?_
    refine wpS.take 36 false (some 50) (.pointer (some ⟨b4, 1, none⟩)) (by kernel_rfl) (yld fun _ => by kernel_rfl) ?_
    refine wpS.take 37 true (some 51) (.slice a4_1_A a4_1_n a4_1_c) (by kernel_rfl) (yld_load1 (e := 25) (o := 1) hs 0 rfl (by kernel_rfl) (by kernel_rfl) (by rfl) .grow) ?_
    refine wpS.take 38 false (some 52) (.int .i64 (a4_1.length : Int)) (by kernel_rfl) (yld_lenL (hs.rowR 9 rfl) (fun _ => by kernel_rfl)) ?_
    refine wpS.take 39 false (some 53) (.int .i64 (iadd .i64 (iadd .i64 (iadd .i64 (iadd .i64 (a2_1.length : Int) (a3_3.length : Int)) (a3_4.length : Int)) (a3_5.length : Int)) (a4_1.length : Int))) (by kernel_rfl) (yld fun _ => by kernel_rfl) ?_
    refine wpS.take 40 false (some 54) (.pointer (some ⟨b4, 2, none⟩)) (by kernel_rfl) (yld fun _ => by kernel_rfl) ?_
    refine wpS.take 41 true (some 55) (.slice a4_2_A a4_2_n a4_2_c) (by kernel_rfl) (yld_load1 (e := 25) (o := 2) hs 0 rfl (by kernel_rfl) (by kernel_rfl) (by rfl) .grow) ?_
    refine wpS.take 42 false (some 56) (.int .i64 (a4_2.length : Int)) (by kernel_rfl) (yld_lenL (hs.rowR 10 rfl) (fun _ => by kernel_rfl)) ?_
    refine wpS.take 43 false (some 57) (.int .i64 (iadd .i64 (iadd .i64 (iadd .i64 (iadd .i64 (iadd .i64 (a2_1.length : Int) (a3_3.length : Int)) (a3_4.length : Int)) (a3_5.length : Int)) (a4_1.length : Int)) (a4_2.length : Int))) (by kernel_rfl) (yld fun _ => by kernel_rfl) ?_
    rcases of_if h with ⟨hc, h⟩ | ⟨hc, h⟩
    · refine wpS.take 44 false (some 58) (.bool true) (by kernel_rfl) (yld_b (dt hc) (fun _ => by kernel_rfl)) ?_
      refine wpS.take 45 false (some 59) (.bool true) (by kernel_rfl) (yld fun _ => by kernel_rfl) ?_
      refine wpS.fin rfl (kr13 _ _ ?_)
      refine then_n (ks12 _ _ ?_)
      refine wp_cond_t (by kernel_rfl) ?_
      refine xseq_k fun KS16 ks16 => ?_
      refine wp_regS (l := [0, 1]) (by kernel_rfl) (by kernel_rfl) fun KR17 kr17 => ?_
      obtain ⟨r7, hg, h⟩ := of_bind h
      refine wpS.only 0 (op_call (d := (some 60)) (by kernel_rfl) hs (fun _ => by kernel_rfl) (law22_awake.ok hg _) ?_)
      intro w gw hs
      refine ⟨fun _ => trivial, ?_⟩
      refine wpS.take 1 false (some 10) (.bool r7) (by kernel_rfl) (yld fun _ => by kernel_rfl) ?_
      refine wpS.fin rfl (kr17 _ _ ?_)
      refine then_n (ks16 _ _ ?_)
      refine xret ?_
      refine then_r ?_
      have q0 := of_some h
      subst q0
      exact qq _ _ (post_ret (by kernel_rfl) (run_results [.tmp 10] [.bool r7] (by kernel_rfl) (.cons (res_tmp (by kernel_rfl)) .nil)) ⟨congrArg Ending.returned (by kernel_rfl), hs.none⟩)
    · refine wpS.take 44 false (some 58) (.bool false) (by kernel_rfl) (yld_b (df hc) (fun _ => by kernel_rfl)) ?_
      refine wpS.take 45 false (some 59) (.bool false) (by kernel_rfl) (yld fun _ => by kernel_rfl) ?_
      refine wpS.fin rfl (kr13 _ _ ?_)
      refine then_n (ks12 _ _ ?_)
      refine wp_cond_f (by kernel_rfl) ?_
      refine xskip ?_
      refine then_n (ks11 _ _ ?_)
      refine xseq_k fun KS18 ks18 => ?_
      refine wp_regG [] (fun k => True) 29 (by kernel_rfl) (by kernel_rfl) (by kernel_rfl) fun KR19 kr19 => ?_
      have hs := hs.drawn1
      refine wpG.takeD 0 true (some 61) (.agg #[.int .i64 r5_0, .int .i64 r5_1, .int .i32 r5_2, .int .i64 r5_3, .int .i32 r5_4, .int .i32 r5_5, .int .i64 r5_6, .int .i64 r5_7]) (by kernel_rfl) (by kernel_rfl) (yld_loadW (e := 23) (n := 8) hs 3 rfl (by kernel_rfl) (by kernel_rfl) (by kernel_rfl) (by simp [enc_len]) .grow) ?_
      refine wpG.takeD 1 true (some 62) (.agg #[.slice a2_0_A a2_0_n a2_0_c, .slice a2_1_A a2_1_n a2_1_c]) (by kernel_rfl) (by kernel_rfl) (yld_loadW (e := 27) (n := 2) hs 2 rfl (by kernel_rfl) (by kernel_rfl) (by kernel_rfl) (by simp [enc_len]) .grow) ?_
      refine wpG.takeD 3 true (some 64) (.agg #[.int .i64 r5_0, .int .i64 r5_1, .int .i32 r5_2, .int .i64 r5_3, .int .i32 r5_4, .int .i32 r5_5, .int .i64 r5_6, .int .i64 r5_7]) (by kernel_rfl) (by kernel_rfl) (yld_loadW (e := 23) (n := 8) hs 3 rfl (by kernel_rfl) (by kernel_rfl) (by kernel_rfl) (by simp [enc_len]) .grow) ?_
      refine wpG.takeD 4 true (some 65) (.agg #[.slice a2_0_A a2_0_n a2_0_c, .slice a2_1_A a2_1_n a2_1_c]) (by kernel_rfl) (by kernel_rfl) (yld_loadW (e := 27) (n := 2) hs 2 rfl (by kernel_rfl) (by kernel_rfl) (by kernel_rfl) (by simp [enc_len]) .grow) ?_
      obtain ⟨r8, hg, h⟩ := of_bind h
      refine wpG.only 2 (by kernel_rfl) (op_callH (d := (some 63)) (by kernel_rfl) hs (fun _ => by kernel_rfl) (dpack_Public.ok hg _ (hs.rowR 0 rfl) (hs.rowR 1 rfl)) ?_)
      rintro ⟨r8_A, r8_n, r8_c⟩ w gw hs
      have hs := hs.conv (L' := [.ownL (CI .u8) r8_A r8_n r8_c r8 5, .blk b4 ([.slice a4_0_A a4_0_n a4_0_c, .slice a4_1_A a4_1_n a4_1_c, .slice a4_2_A a4_2_n a4_2_c]) 31, .blk b3 ([.slice a3_0_A a3_0_n a3_0_c, .slice a3_1_A a3_1_n a3_1_c, .slice a3_2_A a3_2_n a3_2_c, .slice a3_3_A a3_3_n a3_3_c, .slice a3_4_A a3_4_n a3_4_c, .slice a3_5_A a3_5_n a3_5_c]) 29, .blk b2 ([.slice a2_0_A a2_0_n a2_0_c, .slice a2_1_A a2_1_n a2_1_c]) 27, .blk b1 ([.int .i64 r5_0, .int .i64 r5_1, .int .i32 r5_2, .int .i64 r5_3, .int .i32 r5_4, .int .i32 r5_5, .int .i64 r5_6, .int .i64 r5_7]) 23]) rfl
      refine ⟨.of gw, ?_⟩
      obtain ⟨r9, hg, h⟩ := of_bind h
      refine wpG.only 5 (by kernel_rfl) (op_callH (d := (some 66)) (by kernel_rfl) hs (fun _ => by kernel_rfl) (ref22_Public.ok hg _ (hs.rowR 0 rfl) (hs.rowR 1 rfl)) ?_)
      rintro ⟨r9_A, r9_n, r9_c⟩ w gw hs
      have hs := hs.conv (L' := [.ownL (CI .u8) r9_A r9_n r9_c r9 5, .ownL (CI .u8) r8_A r8_n r8_c r8 5, .blk b4 ([.slice a4_0_A a4_0_n a4_0_c, .slice a4_1_A a4_1_n a4_1_c, .slice a4_2_A a4_2_n a4_2_c]) 31, .blk b3 ([.slice a3_0_A a3_0_n a3_0_c, .slice a3_1_A a3_1_n a3_1_c, .slice a3_2_A a3_2_n a3_2_c, .slice a3_3_A a3_3_n a3_3_c, .slice a3_4_A a3_4_n a3_4_c, .slice a3_5_A a3_5_n a3_5_c]) 29, .blk b2 ([.slice a2_0_A a2_0_n a2_0_c, .slice a2_1_A a2_1_n a2_1_c]) 27, .blk b1 ([.int .i64 r5_0, .int .i64 r5_1, .int .i32 r5_2, .int .i64 r5_3, .int .i32 r5_4, .int .i32 r5_5, .int .i64 r5_6, .int .i64 r5_7]) 23]) rfl
      refine ⟨.of gw, ?_⟩
      obtain ⟨r10, hg, h⟩ := of_bind h
      cases r10 with
      | true =>
        have h := of_if_t h
        refine wpG.only 6 (by kernel_rfl) (op_call (d := (some 67)) (by kernel_rfl) hs (fun _ => by kernel_rfl) (ref01_Same.ok hg _ (hs.rowL 1 rfl) (hs.rowL 0 rfl)) ?_)
        intro w gw hs
        refine ⟨.of gw, ?_⟩
        refine wpG.takeD 7 false (some 68) (.bool true) (by kernel_rfl) (by kernel_rfl) (yld fun _ => by kernel_rfl) ?_
        refine wpG.takeD 8 true (some 69) (.agg #[.int .i64 r5_0, .int .i64 r5_1, .int .i32 r5_2, .int .i64 r5_3, .int .i32 r5_4, .int .i32 r5_5, .int .i64 r5_6, .int .i64 r5_7]) (by kernel_rfl) (by kernel_rfl) (yld_loadW (e := 23) (n := 8) hs 5 rfl (by kernel_rfl) (by kernel_rfl) (by kernel_rfl) (by simp [enc_len]) .grow) ?_
        refine wpG.takeD 9 true (some 70) (.agg #[.slice a3_0_A a3_0_n a3_0_c, .slice a3_1_A a3_1_n a3_1_c, .slice a3_2_A a3_2_n a3_2_c, .slice a3_3_A a3_3_n a3_3_c, .slice a3_4_A a3_4_n a3_4_c, .slice a3_5_A a3_5_n a3_5_c]) (by kernel_rfl) (by kernel_rfl) (yld_loadW (e := 29) (n := 6) hs 3 rfl (by kernel_rfl) (by kernel_rfl) (by kernel_rfl) (by simp [enc_len]) .grow) ?_
        refine wpG.takeD 11 true (some 72) (.agg #[.int .i64 r5_0, .int .i64 r5_1, .int .i32 r5_2, .int .i64 r5_3, .int .i32 r5_4, .int .i32 r5_5, .int .i64 r5_6, .int .i64 r5_7]) (by kernel_rfl) (by kernel_rfl) (yld_loadW (e := 23) (n := 8) hs 5 rfl (by kernel_rfl) (by kernel_rfl) (by kernel_rfl) (by simp [enc_len]) .grow) ?_
        refine wpG.takeD 12 true (some 73) (.agg #[.slice a3_0_A a3_0_n a3_0_c, .slice a3_1_A a3_1_n a3_1_c, .slice a3_2_A a3_2_n a3_2_c, .slice a3_3_A a3_3_n a3_3_c, .slice a3_4_A a3_4_n a3_4_c, .slice a3_5_A a3_5_n a3_5_c]) (by kernel_rfl) (by kernel_rfl) (yld_loadW (e := 29) (n := 6) hs 3 rfl (by kernel_rfl) (by kernel_rfl) (by kernel_rfl) (by simp [enc_len]) .grow) ?_
        obtain ⟨r11, hg, h⟩ := of_bind h
        refine wpG.only 10 (by kernel_rfl) (op_callH (d := (some 71)) (by kernel_rfl) hs (fun _ => by kernel_rfl) (dpack_Private.ok hg _ (hs.rowR 2 rfl) (hs.rowR 3 rfl) (hs.rowR 4 rfl) (hs.rowR 5 rfl) (hs.rowR 6 rfl) (hs.rowR 7 rfl)) ?_)
        rintro ⟨r11_A, r11_n, r11_c⟩ w gw hs
        have hs := hs.conv (L' := [.ownL (CI .u8) r11_A r11_n r11_c r11 5, .ownL (CI .u8) r9_A r9_n r9_c r9 5, .ownL (CI .u8) r8_A r8_n r8_c r8 5, .blk b4 ([.slice a4_0_A a4_0_n a4_0_c, .slice a4_1_A a4_1_n a4_1_c, .slice a4_2_A a4_2_n a4_2_c]) 31, .blk b3 ([.slice a3_0_A a3_0_n a3_0_c, .slice a3_1_A a3_1_n a3_1_c, .slice a3_2_A a3_2_n a3_2_c, .slice a3_3_A a3_3_n a3_3_c, .slice a3_4_A a3_4_n a3_4_c, .slice a3_5_A a3_5_n a3_5_c]) 29, .blk b2 ([.slice a2_0_A a2_0_n a2_0_c, .slice a2_1_A a2_1_n a2_1_c]) 27, .blk b1 ([.int .i64 r5_0, .int .i64 r5_1, .int .i32 r5_2, .int .i64 r5_3, .int .i32 r5_4, .int .i32 r5_5, .int .i64 r5_6, .int .i64 r5_7]) 23]) rfl
        refine ⟨.of gw, ?_⟩
        obtain ⟨r12, hg, h⟩ := of_bind h
        refine wpG.only 13 (by kernel_rfl) (op_callH (d := (some 74)) (by kernel_rfl) hs (fun _ => by kernel_rfl) (ref22_Private.ok hg _ (hs.rowR 2 rfl) (hs.rowR 3 rfl) (hs.rowR 4 rfl) (hs.rowR 5 rfl) (hs.rowR 6 rfl) (hs.rowR 7 rfl)) ?_)
        rintro ⟨r12_A, r12_n, r12_c⟩ w gw hs
        have hs := hs.conv (L' := [.ownL (CI .u8) r12_A r12_n r12_c r12 5, .ownL (CI .u8) r11_A r11_n r11_c r11 5, .ownL (CI .u8) r9_A r9_n r9_c r9 5, .ownL (CI .u8) r8_A r8_n r8_c r8 5, .blk b4 ([.slice a4_0_A a4_0_n a4_0_c, .slice a4_1_A a4_1_n a4_1_c, .slice a4_2_A a4_2_n a4_2_c]) 31, .blk b3 ([.slice a3_0_A a3_0_n a3_0_c, .slice a3_1_A a3_1_n a3_1_c, .slice a3_2_A a3_2_n a3_2_c, .slice a3_3_A a3_3_n a3_3_c, .slice a3_4_A a3_4_n a3_4_c, .slice a3_5_A a3_5_n a3_5_c]) 29, .blk b2 ([.slice a2_0_A a2_0_n a2_0_c, .slice a2_1_A a2_1_n a2_1_c]) 27, .blk b1 ([.int .i64 r5_0, .int .i64 r5_1, .int .i32 r5_2, .int .i64 r5_3, .int .i32 r5_4, .int .i32 r5_5, .int .i64 r5_6, .int .i64 r5_7]) 23]) rfl
        refine ⟨.of gw, ?_⟩
        obtain ⟨r13, hg, h⟩ := of_bind h
        cases r13 with
        | true =>
          have h := of_if_t h
          refine wpG.only 14 (by kernel_rfl) (op_call (d := (some 75)) (by kernel_rfl) hs (fun _ => by kernel_rfl) (ref01_Same.ok hg _ (hs.rowL 1 rfl) (hs.rowL 0 rfl)) ?_)
          intro w gw hs
          refine ⟨.of gw, ?_⟩
          refine wpG.takeD 15 false (some 76) (.bool true) (by kernel_rfl) (by kernel_rfl) (yld fun _ => by kernel_rfl) ?_
          refine wpG.takeD 16 false (some 77) (.bool true) (by kernel_rfl) (by kernel_rfl) (yld fun _ => by kernel_rfl) ?_
          refine wpG.takeD 17 true (some 78) (.agg #[.int .i64 r5_0, .int .i64 r5_1, .int .i32 r5_2, .int .i64 r5_3, .int .i32 r5_4, .int .i32 r5_5, .int .i64 r5_6, .int .i64 r5_7]) (by kernel_rfl) (by kernel_rfl) (yld_loadW (e := 23) (n := 8) hs 7 rfl (by kernel_rfl) (by kernel_rfl) (by kernel_rfl) (by simp [enc_len]) .grow) ?_
          refine wpG.takeD 18 true (some 79) (.agg #[.slice a4_0_A a4_0_n a4_0_c, .slice a4_1_A a4_1_n a4_1_c, .slice a4_2_A a4_2_n a4_2_c]) (by kernel_rfl) (by kernel_rfl) (yld_loadW (e := 31) (n := 3) hs 4 rfl (by kernel_rfl) (by kernel_rfl) (by kernel_rfl) (by simp [enc_len]) .grow) ?_
          refine wpG.takeD 20 true (some 81) (.agg #[.int .i64 r5_0, .int .i64 r5_1, .int .i32 r5_2, .int .i64 r5_3, .int .i32 r5_4, .int .i32 r5_5, .int .i64 r5_6, .int .i64 r5_7]) (by kernel_rfl) (by kernel_rfl) (yld_loadW (e := 23) (n := 8) hs 7 rfl (by kernel_rfl) (by kernel_rfl) (by kernel_rfl) (by simp [enc_len]) .grow) ?_
          refine wpG.takeD 21 true (some 82) (.agg #[.slice a4_0_A a4_0_n a4_0_c, .slice a4_1_A a4_1_n a4_1_c, .slice a4_2_A a4_2_n a4_2_c]) (by kernel_rfl) (by kernel_rfl) (yld_loadW (e := 31) (n := 3) hs 4 rfl (by kernel_rfl) (by kernel_rfl) (by kernel_rfl) (by simp [enc_len]) .grow) ?_
          obtain ⟨r14, hg, h⟩ := of_bind h
          refine wpG.only 19 (by kernel_rfl) (op_callH (d := (some 80)) (by kernel_rfl) hs (fun _ => by kernel_rfl) (dpack_Sig.ok hg _ (hs.rowR 8 rfl) (hs.rowR 9 rfl) (hs.rowR 10 rfl)) ?_)
          rintro ⟨r14_A, r14_n, r14_c⟩ w gw hs
          have hs := hs.conv (L' := [.ownL (CI .u8) r14_A r14_n r14_c r14 5, .ownL (CI .u8) r12_A r12_n r12_c r12 5, .ownL (CI .u8) r11_A r11_n r11_c r11 5, .ownL (CI .u8) r9_A r9_n r9_c r9 5, .ownL (CI .u8) r8_A r8_n r8_c r8 5, .blk b4 ([.slice a4_0_A a4_0_n a4_0_c, .slice a4_1_A a4_1_n a4_1_c, .slice a4_2_A a4_2_n a4_2_c]) 31, .blk b3 ([.slice a3_0_A a3_0_n a3_0_c, .slice a3_1_A a3_1_n a3_1_c, .slice a3_2_A a3_2_n a3_2_c, .slice a3_3_A a3_3_n a3_3_c, .slice a3_4_A a3_4_n a3_4_c, .slice a3_5_A a3_5_n a3_5_c]) 29, .blk b2 ([.slice a2_0_A a2_0_n a2_0_c, .slice a2_1_A a2_1_n a2_1_c]) 27, .blk b1 ([.int .i64 r5_0, .int .i64 r5_1, .int .i32 r5_2, .int .i64 r5_3, .int .i32 r5_4, .int .i32 r5_5, .int .i64 r5_6, .int .i64 r5_7]) 23]) rfl
          refine ⟨.of gw, ?_⟩
          obtain ⟨r15, hg, h⟩ := of_bind h
          refine wpG.only 22 (by kernel_rfl) (op_callH (d := (some 83)) (by kernel_rfl) hs (fun _ => by kernel_rfl) (ref22_Sig.ok hg _ (hs.rowR 8 rfl) (hs.rowR 9 rfl) (hs.rowR 10 rfl)) ?_)
          rintro ⟨r15_A, r15_n, r15_c⟩ w gw hs
          have hs := hs.conv (L' := [.ownL (CI .u8) r15_A r15_n r15_c r15 5, .ownL (CI .u8) r14_A r14_n r14_c r14 5, .ownL (CI .u8) r12_A r12_n r12_c r12 5, .ownL (CI .u8) r11_A r11_n r11_c r11 5, .ownL (CI .u8) r9_A r9_n r9_c r9 5, .ownL (CI .u8) r8_A r8_n r8_c r8 5, .blk b4 ([.slice a4_0_A a4_0_n a4_0_c, .slice a4_1_A a4_1_n a4_1_c, .slice a4_2_A a4_2_n a4_2_c]) 31, .blk b3 ([.slice a3_0_A a3_0_n a3_0_c, .slice a3_1_A a3_1_n a3_1_c, .slice a3_2_A a3_2_n a3_2_c, .slice a3_3_A a3_3_n a3_3_c, .slice a3_4_A a3_4_n a3_4_c, .slice a3_5_A a3_5_n a3_5_c]) 29, .blk b2 ([.slice a2_0_A a2_0_n a2_0_c, .slice a2_1_A a2_1_n a2_1_c]) 27, .blk b1 ([.int .i64 r5_0, .int .i64 r5_1, .int .i32 r5_2, .int .i64 r5_3, .int .i32 r5_4, .int .i32 r5_5, .int .i64 r5_6, .int .i64 r5_7]) 23]) rfl
          refine ⟨.of gw, ?_⟩
          obtain ⟨r16, hg, h⟩ := of_bind h
          cases r16 with
          | true =>
            have h := of_if_t h
            refine wpG.only 23 (by kernel_rfl) (op_call (d := (some 84)) (by kernel_rfl) hs (fun _ => by kernel_rfl) (ref01_Same.ok hg _ (hs.rowL 1 rfl) (hs.rowL 0 rfl)) ?_)
            intro w gw hs
            refine ⟨.of gw, ?_⟩
            refine wpG.takeD 24 false (some 85) (.bool true) (by kernel_rfl) (by kernel_rfl) (yld fun _ => by kernel_rfl) ?_
            refine wpG.takeD 25 false (some 86) (.bool true) (by kernel_rfl) (by kernel_rfl) (yld fun _ => by kernel_rfl) ?_
            obtain ⟨r17, hg, h⟩ := of_bind h
            refine wpG.only 26 (by kernel_rfl) (op_call (d := (some 87)) (by kernel_rfl) hs (fun _ => by kernel_rfl) (law22_awake.ok hg _) ?_)
            intro w gw hs
            refine ⟨.of gw, ?_⟩
            refine wpG.takeD 27 false (some 88) (.bool r17) (by kernel_rfl) (by kernel_rfl) (yld fun _ => by kernel_rfl) ?_
            refine wpG.takeD 28 false (some 10) (.bool r17) (by kernel_rfl) (by kernel_rfl) (yld fun _ => by kernel_rfl) ?_
            refine wpG.fin (by kernel_rfl) rfl (kr19 _ _ ?_)
            refine then_n (ks18 _ _ ?_)
            refine xret ?_
            have q0 := of_some h
            subst q0
            exact qq _ _ (post_ret (by kernel_rfl) (run_results [.tmp 10] [.bool r17] (by kernel_rfl) (.cons (res_tmp (by kernel_rfl)) .nil)) ⟨congrArg Ending.returned (by kernel_rfl), hs.none⟩)
          | false =>
            have h := of_if_f h
            refine wpG.only 23 (by kernel_rfl) (op_call (d := (some 84)) (by kernel_rfl) hs (fun _ => by kernel_rfl) (ref01_Same.ok hg _ (hs.rowL 1 rfl) (hs.rowL 0 rfl)) ?_)
            intro w gw hs
            refine ⟨.of gw, ?_⟩
            refine wpG.takeD 24 false (some 85) (.bool false) (by kernel_rfl) (by kernel_rfl) (yld fun _ => by kernel_rfl) ?_
            refine wpG.takeD 25 false (some 86) (.bool false) (by kernel_rfl) (by kernel_rfl) (yld fun _ => by kernel_rfl) ?_
            refine wpG.takeD 26 false (some 87) (undef) (by kernel_rfl) (by kernel_rfl) (yld fun _ => by kernel_rfl) ?_
            refine wpG.takeD 27 false (some 88) (.bool false) (by kernel_rfl) (by kernel_rfl) (yld fun _ => by kernel_rfl) ?_
            refine wpG.takeD 28 false (some 10) (.bool false) (by kernel_rfl) (by kernel_rfl) (yld fun _ => by kernel_rfl) ?_
            refine wpG.fin (by kernel_rfl) rfl (kr19 _ _ ?_)
            refine then_n (ks18 _ _ ?_)
            refine xret ?_
            have q0 := of_some h
            subst q0
            exact qq _ _ (post_ret (by kernel_rfl) (run_results [.tmp 10] [.bool false] (by kernel_rfl) (.cons (res_tmp (by kernel_rfl)) .nil)) ⟨congrArg Ending.returned (by kernel_rfl), hs.none⟩)
        | false =>
          have h := of_if_f h
          refine wpG.only 14 (by kernel_rfl) (op_call (d := (some 75)) (by kernel_rfl) hs (fun _ => by kernel_rfl) (ref01_Same.ok hg _ (hs.rowL 1 rfl) (hs.rowL 0 rfl)) ?_)
          intro w gw hs
          refine ⟨.of gw, ?_⟩
          refine wpG.takeD 15 false (some 76) (.bool false) (by kernel_rfl) (by kernel_rfl) (yld fun _ => by kernel_rfl) ?_
          refine wpG.takeD 16 false (some 77) (.bool false) (by kernel_rfl) (by kernel_rfl) (yld fun _ => by kernel_rfl) ?_
          refine wpG.takeD 17 false (some 78) (undef) (by kernel_rfl) (by kernel_rfl) (yld fun _ => by kernel_rfl) ?_
          refine wpG.takeD 18 false (some 79) (undef) (by kernel_rfl) (by kernel_rfl) (yld fun _ => by kernel_rfl) ?_
          refine wpG.takeD 20 false (some 81) (undef) (by kernel_rfl) (by kernel_rfl) (yld fun _ => by kernel_rfl) ?_
          refine wpG.takeD 21 false (some 82) (undef) (by kernel_rfl) (by kernel_rfl) (yld fun _ => by kernel_rfl) ?_
          refine wpG.takeD 19 false (some 80) (undef) (by kernel_rfl) (by kernel_rfl) (yld fun _ => by kernel_rfl) ?_
          refine wpG.takeD 22 false (some 83) (undef) (by kernel_rfl) (by kernel_rfl) (yld fun _ => by kernel_rfl) ?_
          refine wpG.takeD 23 false (some 84) (undef) (by kernel_rfl) (by kernel_rfl) (yld fun _ => by kernel_rfl) ?_
          refine wpG.takeD 24 false (some 85) (.bool false) (by kernel_rfl) (by kernel_rfl) (yld fun _ => by kernel_rfl) ?_
          refine wpG.takeD 25 false (some 86) (.bool false) (by kernel_rfl) (by kernel_rfl) (yld fun _ => by kernel_rfl) ?_
          refine wpG.takeD 26 false (some 87) (undef) (by kernel_rfl) (by kernel_rfl) (yld fun _ => by kernel_rfl) ?_
          refine wpG.takeD 27 false (some 88) (.bool false) (by kernel_rfl) (by kernel_rfl) (yld fun _ => by kernel_rfl) ?_
          refine wpG.takeD 28 false (some 10) (.bool false) (by kernel_rfl) (by kernel_rfl) (yld fun _ => by kernel_rfl) ?_
          refine wpG.fin (by kernel_rfl) rfl (kr19 _ _ ?_)
          refine then_n (ks18 _ _ ?_)
          refine xret ?_
          have q0 := of_some h
          subst q0
          exact qq _ _ (post_ret (by kernel_rfl) (run_results [.tmp 10] [.bool false] (by kernel_rfl) (.cons (res_tmp (by kernel_rfl)) .nil)) ⟨congrArg Ending.returned (by kernel_rfl), hs.none⟩)
      | false =>
        have h := of_if_f h
        refine wpG.only 6 (by kernel_rfl) (op_call (d := (some 67)) (by kernel_rfl) hs (fun _ => by kernel_rfl) (ref01_Same.ok hg _ (hs.rowL 1 rfl) (hs.rowL 0 rfl)) ?_)
        intro w gw hs
        refine ⟨.of gw, ?_⟩
        refine wpG.takeD 7 false (some 68) (.bool false) (by kernel_rfl) (by kernel_rfl) (yld fun _ => by kernel_rfl) ?_
        refine wpG.takeD 8 false (some 69) (undef) (by kernel_rfl) (by kernel_rfl) (yld fun _ => by kernel_rfl) ?_
        refine wpG.takeD 9 false (some 70) (undef) (by kernel_rfl) (by kernel_rfl) (yld fun _ => by kernel_rfl) ?_
        refine wpG.takeD 11 false (some 72) (undef) (by kernel_rfl) (by kernel_rfl) (yld fun _ => by kernel_rfl) ?_
        refine wpG.takeD 12 false (some 73) (undef) (by kernel_rfl) (by kernel_rfl) (yld fun _ => by kernel_rfl) ?_
        refine wpG.takeD 10 false (some 71) (undef) (by kernel_rfl) (by kernel_rfl) (yld fun _ => by kernel_rfl) ?_
        refine wpG.takeD 13 false (some 74) (undef) (by kernel_rfl) (by kernel_rfl) (yld fun _ => by kernel_rfl) ?_
        refine wpG.takeD 14 false (some 75) (undef) (by kernel_rfl) (by kernel_rfl) (yld fun _ => by kernel_rfl) ?_
        refine wpG.takeD 15 false (some 76) (.bool false) (by kernel_rfl) (by kernel_rfl) (yld fun _ => by kernel_rfl) ?_
        refine wpG.takeD 16 false (some 77) (.bool false) (by kernel_rfl) (by kernel_rfl) (yld fun _ => by kernel_rfl) ?_
        refine wpG.takeD 17 false (some 78) (undef) (by kernel_rfl) (by kernel_rfl) (yld fun _ => by kernel_rfl) ?_
        refine wpG.takeD 18 false (some 79) (undef) (by kernel_rfl) (by kernel_rfl) (yld fun _ => by kernel_rfl) ?_
        refine wpG.takeD 20 false (some 81) (undef) (by kernel_rfl) (by kernel_rfl) (yld fun _ => by kernel_rfl) ?_
        refine wpG.takeD 21 false (some 82) (undef) (by kernel_rfl) (by kernel_rfl) (yld fun _ => by kernel_rfl) ?_
        refine wpG.takeD 19 false (some 80) (undef) (by kernel_rfl) (by kernel_rfl) (yld fun _ => by kernel_rfl) ?_
        refine wpG.takeD 22 false (some 83) (undef) (by kernel_rfl) (by kernel_rfl) (yld fun _ => by kernel_rfl) ?_
        refine wpG.takeD 23 false (some 84) (undef) (by kernel_rfl) (by kernel_rfl) (yld fun _ => by kernel_rfl) ?_
        refine wpG.takeD 24 false (some 85) (.bool false) (by kernel_rfl) (by kernel_rfl) (yld fun _ => by kernel_rfl) ?_
        refine wpG.takeD 25 false (some 86) (.bool false) (by kernel_rfl) (by kernel_rfl) (yld fun _ => by kernel_rfl) ?_
        refine wpG.takeD 26 false (some 87) (undef) (by kernel_rfl) (by kernel_rfl) (yld fun _ => by kernel_rfl) ?_
        refine wpG.takeD 27 false (some 88) (.bool false) (by kernel_rfl) (by kernel_rfl) (yld fun _ => by kernel_rfl) ?_
        refine wpG.takeD 28 false (some 10) (.bool false) (by kernel_rfl) (by kernel_rfl) (yld fun _ => by kernel_rfl) ?_
        refine wpG.fin (by kernel_rfl) rfl (kr19 _ _ ?_)
        refine then_n (ks18 _ _ ?_)
        refine xret ?_
        have q0 := of_some h
        subst q0
        exact qq _ _ (post_ret (by kernel_rfl) (run_results [.tmp 10] [.bool false] (by kernel_rfl) (.cons (res_tmp (by kernel_rfl)) .nil)) ⟨congrArg Ending.returned (by kernel_rfl), hs.none⟩)
end Go.Proofs.Ytblploekkjeolaa
