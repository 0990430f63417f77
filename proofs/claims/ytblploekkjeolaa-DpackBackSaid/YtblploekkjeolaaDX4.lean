/- Printed by this work's own program: the code of each function below comes to the answer that its plain form tells. -/
import Derived.Test.YtblploekkjeolaaMv
import Derived.Test.YtblploekkjeolaaProg
import Derived.Test.YtblploekkjeolaaDF0
import Derived.Test.YtblploekkjeolaaDX0
import Derived.Test.YtblploekkjeolaaDX1
import Derived.Test.YtblploekkjeolaaDX2
set_option linter.unusedVariables false
set_option linter.unusedSimpArgs false
set_option maxRecDepth 100000
set_option maxHeartbeats 4000000
namespace Go.Proofs.Ytblploekkjeolaa
open Go.Mx
attribute [local irreducible] wpOp

theorem dpack_Sig.ok {K : Nat} {a0_0 : Int} {a0_1 : Int} {a0_2 : Int} {a0_3 : Int} {a0_4 : Int} {a0_5 : Int} {a0_6 : Int} {a0_7 : Int} {a1_0 : List Int} {a1_1 : List (Arr 256)} {a1_2 : List (Arr 256)} {r0 : List Int} {a1_0_A : Option Addr} {a1_0_n : Nat} {a1_0_c : Nat} {a1_1_A : Option Addr} {a1_1_n : Nat} {a1_1_c : Nat} {a1_2_A : Option Addr} {a1_2_n : Nat} {a1_2_c : Nat} (h : dpack_Sig.f K a0_0 a0_1 a0_2 a0_3 a0_4 a0_5 a0_6 a0_7 a1_0 a1_1 a1_2 = some r0) (w0 : World) (hp1_0 : RowL (CI .u8) w0 a1_0_A a1_0_n a1_0_c a1_0) (hp1_1 : RowL (CA .i32 256 (by decide)) w0 a1_1_A a1_1_n a1_1_c a1_1) (hp1_2 : RowL (CA .i32 256 (by decide)) w0 a1_2_A a1_2_n a1_2_c a1_2) : Calls Try.prog 14 #[.agg #[.int .i64 a0_0, .int .i64 a0_1, .int .i32 a0_2, .int .i64 a0_3, .int .i32 a0_4, .int .i32 a0_5, .int .i64 a0_6, .int .i64 a0_7], .agg #[.slice a1_0_A a1_0_n a1_0_c, .slice a1_1_A a1_1_n a1_1_c, .slice a1_2_A a1_2_n a1_2_c]] w0 fun e w' => ∃ h : (Option Addr × Nat × Nat), e = .returned (.slice h.1 h.2.1 h.2.2) ∧ St w0 [] [.ownL (CI .u8) h.1 h.2.1 h.2.2 r0 5] [] w' := by
 refine calls_k Try.func14 rfl fun Q qq => ?_
 have hs := St.startR (all_cons (RowP.ent hp1_0) (all_cons (RowP.ent hp1_1) (all_cons (RowP.ent hp1_2) all_nil)))
 refine wp_conv (a' := ⟨#[.agg #[.int .i64 a0_0, .int .i64 a0_1, .int .i32 a0_2, .int .i64 a0_3, .int .i32 a0_4, .int .i32 a0_5, .int .i64 a0_6, .int .i64 a0_7], .agg #[.slice a1_0_A a1_0_n a1_0_c, .slice a1_1_A a1_1_n a1_1_c, .slice a1_2_A a1_2_n a1_2_c], undef, undef, undef, undef, undef, undef, undef, undef, undef, undef, undef, undef, undef, undef, undef, undef, undef, undef, undef, undef, undef, undef, undef, undef, undef, undef, undef, undef, undef, undef, undef, undef, undef, undef, undef, undef, undef, undef, undef, undef, undef, undef, undef, undef, undef], []⟩) (by kernel_rfl) ?_
 refine xseq_k fun KS1 ks1 => ?_
 refine wp_regS (l := [0, 1, 2]) (by kernel_rfl) (by kernel_rfl) fun KR2 kr2 => ?_
 refine wpS.only 0 (op_box (t := 23) (v := .agg #[.int .i64 a0_0, .int .i64 a0_1, .int .i32 a0_2, .int .i64 a0_3, .int .i32 a0_4, .int .i32 a0_5, .int .i64 a0_6, .int .i64 a0_7]) (d := (some 2)) (by kernel_rfl) hs ([.int .i64 a0_0, .int .i64 a0_1, .int .i32 a0_2, .int .i64 a0_3, .int .i32 a0_4, .int .i32 a0_5, .int .i64 a0_6, .int .i64 a0_7]) (by kernel_rfl) (by kernel_rfl) ?_)
 intro b1 w gw hs
 refine ⟨fun _ => trivial, ?_⟩
 refine wpS.only 1 (op_box (t := 31) (v := .agg #[.slice a1_0_A a1_0_n a1_0_c, .slice a1_1_A a1_1_n a1_1_c, .slice a1_2_A a1_2_n a1_2_c]) (d := (some 3)) (by kernel_rfl) hs ([.slice a1_0_A a1_0_n a1_0_c, .slice a1_1_A a1_1_n a1_1_c, .slice a1_2_A a1_2_n a1_2_c]) (by kernel_rfl) (by kernel_rfl) ?_)
 intro b2 w gw hs
 refine ⟨fun _ => trivial, ?_⟩
 refine wpS.p 2 4 (.slice none 0 0) (by kernel_rfl) ?_
 refine wpS.fin rfl (kr2 _ _ ?_)
 refine then_n (ks1 _ _ ?_)
 refine xseq_k fun KS3 ks3 => ?_
 refine wp_regS (l := [0, 1, 2]) (by kernel_rfl) (by kernel_rfl) fun KR4 kr4 => ?_
 refine wpS.p 0 6 (.agg #[.slice none 0 0, .bool false]) (by kernel_rfl) ?_
 refine wpS.only 1 (op_box (t := 69) (v := .agg #[.slice none 0 0, .bool false]) (d := (some 7)) (by kernel_rfl) hs ([.slice none 0 0, .bool false]) (by kernel_rfl) (by kernel_rfl) ?_)
 intro b3 w gw hs
 refine ⟨fun _ => trivial, ?_⟩
 refine wpS.p 2 5 (.pointer (some ⟨b3, 0, none⟩)) (by kernel_rfl) ?_
 refine wpS.fin rfl (kr4 _ _ ?_)
 refine then_n (ks3 _ _ ?_)
 refine xseq_k fun KS5 ks5 => ?_
 refine wp_regS (l := [0, 1, 2, 3, 4, 5]) (by kernel_rfl) (by kernel_rfl) fun KR6 kr6 => ?_
 refine wpS.ps [(0, 8, .pointer (some ⟨b3, 0, none⟩)), (1, 9, .pointer (some ⟨b2, 0, none⟩))] (by kernel_rfl) ?_
 refine wpS.take 2 true (some 10) (.slice a1_0_A a1_0_n a1_0_c) (by kernel_rfl) (yld_load1 (e := 24) (o := 0) hs 1 rfl (by kernel_rfl) (by kernel_rfl) (by rfl) .grow) ?_
 refine wpS.p 3 11 (.pointer (some ⟨b1, 7, none⟩)) (by kernel_rfl) ?_
 refine wpS.take 4 true (some 12) (.int .i64 a0_7) (by kernel_rfl) (yld_load1 (e := 3) (o := 7) hs 2 rfl (by kernel_rfl) (by kernel_rfl) (by rfl) .grow) ?_
 refine wpS.only 5 (op_inline (d := (some 13)) (f := 38) (args := #[.pointer (some ⟨b3, 0, none⟩), .slice a1_0_A a1_0_n a1_0_c, .int .i64 a0_7]) (by kernel_rfl) (fun _ => by kernel_rfl) fun R7 kI7 => ?_)
 refine calls_kn Try.func38 rfl fun Q7 qq7 qn7 => ?_
 refine wp_conv (a' := ⟨#[.pointer (some ⟨b3, 0, none⟩), .slice a1_0_A a1_0_n a1_0_c, .int .i64 a0_7, undef, undef, undef, undef, undef, undef, undef, undef, undef, undef, undef, undef, undef, undef, undef, undef, undef, undef, undef, undef, undef, undef, undef, undef, undef], []⟩) (by kernel_rfl) ?_
 refine xseq_k fun KS8 ks8 => ?_
 refine wp_regS (l := [0, 1, 2, 3, 4, 5, 6, 7, 8, 9, 10, 11, 12, 13]) (by kernel_rfl) (by kernel_rfl) fun KR9 kr9 => ?_
 refine wpS.ps [(0, 6, .pointer (some ⟨b3, 0, none⟩)), (1, 7, .pointer (some ⟨b3, 0, none⟩)), (2, 8, .pointer (some ⟨b3, 0, none⟩)), (3, 9, .pointer (some ⟨b3, 1, none⟩))] (by kernel_rfl) ?_
 refine wpS.take 4 true (some 10) (.bool false) (by kernel_rfl) (yld_load1 (e := 4) (o := 1) hs 0 rfl (by kernel_rfl) (by kernel_rfl) (by rfl) .grow) ?_
 refine wpS.ps [(5, 11, .bool false), (6, 12, .slice a1_0_A a1_0_n a1_0_c)] (by kernel_rfl) ?_
 refine wpS.take 7 false (some 13) (.int .i64 (a1_0.length : Int)) (by kernel_rfl) (yld_lenL (hs.rowR 0 rfl) (fun _ => by kernel_rfl)) ?_
 refine wpS.ps [(8, 14, .int .i64 a0_7), (9, 15, .bool ((a1_0.length : Int) != a0_7)), (10, 16, .bool ((a1_0.length : Int) != a0_7)), (11, 17, .pointer (some ⟨b3, 0, none⟩)), (12, 18, .pointer (some ⟨b3, 1, none⟩))] (by kernel_rfl) ?_
 obtain ⟨x4, hx, h⟩ := of_bind h
 refine wpS.only 13 (op_store1 (t := 4) (o := 1) (v := .bool x4) (d := none) (by kernel_rfl) hs 0 rfl (by cases hx; kernel_rfl) rfl (by kernel_rfl) (by simp) ?_)
 intro w kp hs
 refine ⟨fun _ => trivial, ?_⟩
 refine wpS.fin rfl (kr9 _ _ ?_)
 refine then_n (ks8 _ _ ?_)
 refine wp_regS (l := [0, 1, 2, 3, 4, 5, 6, 7, 8, 9]) (by kernel_rfl) (by kernel_rfl) fun KR10 kr10 => ?_
 refine wpS.ps [(0, 19, .pointer (some ⟨b3, 0, none⟩)), (1, 20, .pointer (some ⟨b3, 0, none⟩)), (2, 21, .pointer (some ⟨b3, 0, none⟩)), (3, 22, .pointer (some ⟨b3, 0, none⟩))] (by kernel_rfl) ?_
 refine wpS.take 4 true (some 23) (.slice none 0 0) (by kernel_rfl) (yld_load1 (e := 24) (o := 0) hs 0 rfl (by kernel_rfl) (by kernel_rfl) (by rfl) .grow) ?_
 refine wpS.p 5 24 (.slice a1_0_A a1_0_n a1_0_c) (by kernel_rfl) ?_
 obtain ⟨h0, h⟩ := of_chk h
 have hs := hs.addNilL (CI .u8) 5
 refine wpS.only 6 (op_appendT (C := (CI .u8)) (t := 24) (ty := 24) (e := 5) (bytes := 1) (B := 140737488355328) (d := (some 25)) (by kernel_rfl) hs 0 rfl (hs.rowR 0 rfl) (by kernel_rfl) (by kernel_rfl) (by kernel_rfl) (by kernel_rfl) (by kernel_rfl) h0 (by decide) (by decide) ?_)
 intro s5_A s5_n s5_c w hs
 refine ⟨fun _ => trivial, ?_⟩
 refine wpS.ps [(7, 26, .pointer (some ⟨b3, 0, none⟩)), (8, 27, .pointer (some ⟨b3, 0, none⟩))] (by kernel_rfl) ?_
 refine wpS.only 9 (op_store1 (t := 24) (o := 0) (v := .slice s5_A s5_n s5_c) (d := none) (by kernel_rfl) hs 1 rfl (by kernel_rfl) rfl (by kernel_rfl) (by simp) ?_)
 intro w kp hs
 refine ⟨fun _ => trivial, ?_⟩
 refine wpS.fin rfl (kr10 _ _ ?_)
 refine qn7 _ _ (post_nrm (by kernel_rfl) (run_results [] [] (by kernel_rfl) .nil) ?_)
 refine kI7 _ _ ?_
 refine ⟨fun _ => trivial, ?_⟩
 refine wpS.fin rfl (kr6 _ _ ?_)
 refine then_n (ks5 _ _ ?_)
 refine xseq_k fun KS11 ks11 => ?_
 refine wp_regS (l := [0, 1, 2, 3, 4, 5, 6, 7, 8, 9, 10, 11]) (by kernel_rfl) (by kernel_rfl) fun KR12 kr12 => ?_
 refine wpS.ps [(0, 14, .pointer (some ⟨b3, 0, none⟩)), (1, 15, .pointer (some ⟨b2, 1, none⟩))] (by kernel_rfl) ?_
 refine wpS.take 2 true (some 16) (.slice a1_1_A a1_1_n a1_1_c) (by kernel_rfl) (yld_load1 (e := 25) (o := 1) hs 2 rfl (by kernel_rfl) (by kernel_rfl) (by rfl) .grow) ?_
 refine wpS.p 3 17 (.pointer (some ⟨b1, 1, none⟩)) (by kernel_rfl) ?_
 refine wpS.take 4 true (some 18) (.int .i64 a0_1) (by kernel_rfl) (yld_load1 (e := 3) (o := 1) hs 3 rfl (by kernel_rfl) (by kernel_rfl) (by rfl) .grow) ?_
 refine wpS.p 5 19 (.pointer (some ⟨b1, 4, none⟩)) (by kernel_rfl) ?_
 refine wpS.take 6 true (some 20) (.int .i32 a0_4) (by kernel_rfl) (yld_load1 (e := 21) (o := 4) hs 3 rfl (by kernel_rfl) (by kernel_rfl) (by rfl) .grow) ?_
 refine wpS.ps [(7, 21, .int .i32 (isub .i32 a0_4 1)), (8, 22, .pointer (some ⟨b1, 4, none⟩))] (by kernel_rfl) ?_
 refine wpS.take 9 true (some 23) (.int .i32 a0_4) (by kernel_rfl) (yld_load1 (e := 21) (o := 4) hs 3 rfl (by kernel_rfl) (by kernel_rfl) (by rfl) .grow) ?_
 refine wpS.p 10 24 (.agg #[.int .i32 (isub .i32 a0_4 1), .int .i32 a0_4]) (by kernel_rfl) ?_
 refine wpS.only 11 (op_inline (d := (some 25)) (f := 39) (args := #[.pointer (some ⟨b3, 0, none⟩), .slice a1_1_A a1_1_n a1_1_c, .int .i64 a0_1, .agg #[.int .i32 (isub .i32 a0_4 1), .int .i32 a0_4]]) (by kernel_rfl) (fun _ => by kernel_rfl) fun R13 kI13 => ?_)
 refine calls_kn Try.func39 rfl fun Q13 qq13 qn13 => ?_
 refine wp_conv (a' := ⟨#[.pointer (some ⟨b3, 0, none⟩), .slice a1_1_A a1_1_n a1_1_c, .int .i64 a0_1, .agg #[.int .i32 (isub .i32 a0_4 1), .int .i32 a0_4], undef, undef, undef, undef, undef, undef, undef, undef, undef, undef, undef, undef, undef, undef, undef, undef, undef, undef, undef, undef, undef, undef, undef, undef, undef, undef, undef, undef, undef, undef, undef, undef, undef, undef, undef, undef, undef, undef, undef, undef, undef, undef, undef, undef, undef, undef, undef, undef, undef, undef, undef, undef, undef], []⟩) (by kernel_rfl) ?_
 refine xseq_k fun KS14 ks14 => ?_
 refine wp_regS (l := [0]) (by kernel_rfl) (by kernel_rfl) fun KR15 kr15 => ?_
 refine wpS.only 0 (op_box (t := 73) (v := .agg #[.int .i32 (isub .i32 a0_4 1), .int .i32 a0_4]) (d := (some 7)) (by kernel_rfl) hs ([.int .i32 (isub .i32 a0_4 1), .int .i32 a0_4]) (by kernel_rfl) (by kernel_rfl) ?_)
 intro b6 w gw hs
 refine ⟨fun _ => trivial, ?_⟩
 refine wpS.fin rfl (kr15 _ _ ?_)
 refine then_n (ks14 _ _ ?_)
 obtain ⟨y7_1, hj, h⟩ := of_bind h
 refine xseq_k fun KS16 ks16 => wp_join (N := fun a w => St w0 [] [.blk b6 ([.int .i32 (isub .i32 a0_4 1), .int .i32 a0_4]) 73, .ownL (CI .u8) s5_A s5_n s5_c (([] : List Int) ++ a1_0) 5, .blk b3 ([.slice s5_A s5_n s5_c, .bool y7_1]) 69, .blk b2 ([.slice a1_0_A a1_0_n a1_0_c, .slice a1_1_A a1_1_n a1_1_c, .slice a1_2_A a1_2_n a1_2_c]) 31, .blk b1 ([.int .i64 a0_0, .int .i64 a0_1, .int .i32 a0_2, .int .i64 a0_3, .int .i32 a0_4, .int .i32 a0_5, .int .i64 a0_6, .int .i64 a0_7]) 23] [.rowL (CI .u8) a1_0_A a1_0_n a1_0_c a1_0, .rowL (CA .i32 256 (by decide)) a1_1_A a1_1_n a1_1_c a1_1, .rowL (CA .i32 256 (by decide)) a1_2_A a1_2_n a1_2_c a1_2] w ∧ ∃ g : Nat → Value, a = ⟨#[.pointer (some ⟨b3, 0, none⟩), .slice a1_1_A a1_1_n a1_1_c, .int .i64 a0_1, .agg #[.int .i32 (isub .i32 a0_4 1), .int .i32 a0_4], undef, undef, undef, .pointer (some ⟨b6, 0, none⟩), undef, undef, undef, (g 11), (g 12), (g 13), (g 14), (g 15), (g 16), (g 17), (g 18), (g 19), (g 20), (g 21), (g 22), (g 23), undef, undef, undef, undef, undef, undef, undef, undef, undef, undef, undef, undef, undef, undef, undef, undef, undef, undef, undef, undef, undef, undef, undef, undef, undef, undef, undef, undef, undef, undef, undef, undef, undef], []⟩) (fun N nj => ?_) ?_
 ·clear h
  have h := hj
  refine wp_regS (l := [0, 1, 2, 3, 4, 5, 6, 7, 8, 9, 10, 11, 12, 13]) (by kernel_rfl) (by kernel_rfl) fun KR17 kr17 => ?_
  refine wpS.ps [(0, 11, .pointer (some ⟨b3, 0, none⟩)), (1, 12, .pointer (some ⟨b3, 0, none⟩)), (2, 13, .pointer (some ⟨b3, 0, none⟩)), (3, 14, .pointer (some ⟨b3, 1, none⟩))] (by kernel_rfl) ?_
  cases x4 with
  | true =>
   have h := of_if_t h
   refine wpS.take 4 true (some 15) (.bool true) (by kernel_rfl) (yld_load1 (e := 4) (o := 1) hs 2 rfl (by kernel_rfl) (by kernel_rfl) (by rfl) .grow) ?_
   refine wpS.ps [(5, 16, .bool true), (6, 17, undef), (7, 18, undef), (8, 19, undef), (9, 20, undef), (10, 21, .bool true), (11, 22, .pointer (some ⟨b3, 0, none⟩)), (12, 23, .pointer (some ⟨b3, 1, none⟩))] (by kernel_rfl) ?_
   refine wpS.only 13 (op_store1 (t := 4) (o := 1) (v := .bool true) (d := none) (by kernel_rfl) hs 2 rfl (by kernel_rfl) rfl (by kernel_rfl) (by simp) ?_)
   intro w kp hs
   refine ⟨fun _ => trivial, ?_⟩
   refine wpS.fin rfl (kr17 _ _ ?_)
   have q0 := of_some h
   subst q0
   exact nj _ _ ⟨(hs.conv rfl), exg (by kernel_rfl)⟩
  | false =>
   have h := of_if_f h
   refine wpS.take 4 true (some 15) (.bool false) (by kernel_rfl) (yld_load1 (e := 4) (o := 1) hs 2 rfl (by kernel_rfl) (by kernel_rfl) (by rfl) .grow) ?_
   refine wpS.ps [(5, 16, .bool false), (6, 17, .slice a1_1_A a1_1_n a1_1_c)] (by kernel_rfl) ?_
   refine wpS.take 7 false (some 18) (.int .i64 (a1_1.length : Int)) (by kernel_rfl) (yld_lenL (hs.rowR 1 rfl) (fun _ => by kernel_rfl)) ?_
   refine wpS.ps [(8, 19, .int .i64 a0_1), (9, 20, .bool ((a1_1.length : Int) != a0_1)), (10, 21, .bool ((a1_1.length : Int) != a0_1)), (11, 22, .pointer (some ⟨b3, 0, none⟩)), (12, 23, .pointer (some ⟨b3, 1, none⟩))] (by kernel_rfl) ?_
   obtain ⟨x8, hx, h⟩ := of_bind h
   refine wpS.only 13 (op_store1 (t := 4) (o := 1) (v := .bool x8) (d := none) (by kernel_rfl) hs 2 rfl (by cases hx; kernel_rfl) rfl (by kernel_rfl) (by simp) ?_)
   intro w kp hs
   refine ⟨fun _ => trivial, ?_⟩
   refine wpS.fin rfl (kr17 _ _ ?_)
   have q0 := of_some h
   subst q0
   exact nj _ _ ⟨(hs.conv rfl), exg (by kernel_rfl)⟩
 ·clear hj hs
  rintro a w ⟨hs, g, rfl⟩
  refine then_n (ks16 _ _ ?_)
  refine xseq_k fun KS18 ks18 => ?_
  refine wp_regS (l := [0, 1, 2]) (by kernel_rfl) (by kernel_rfl) fun KR19 kr19 => ?_
  refine wpS.p 0 24 (.slice a1_1_A a1_1_n a1_1_c) (by kernel_rfl) ?_
  refine wpS.take 1 false (some 25) (.int .i64 (a1_1.length : Int)) (by kernel_rfl) (yld_lenL (hs.rowR 1 rfl) (fun _ => by kernel_rfl)) ?_
  refine wpS.p 2 26 (.int .i64 0) (by kernel_rfl) ?_
  refine wpS.fin rfl (kr19 _ _ ?_)
  refine then_n (ks18 _ _ ?_)
  obtain ⟨⟨y12, y13_1⟩, hy, hk0⟩ := of_bind h
  refine wp_exq (N := fun a w => ∃ (y12_A : Option Addr) (y12_n : Nat) (y12_c : Nat), St w0 [] [.blk b6 ([.int .i32 (isub .i32 a0_4 1), .int .i32 a0_4]) 73, .ownL (CI .u8) y12_A y12_n y12_c y12 5, .blk b3 ([.slice y12_A y12_n y12_c, .bool y13_1]) 69, .blk b2 ([.slice a1_0_A a1_0_n a1_0_c, .slice a1_1_A a1_1_n a1_1_c, .slice a1_2_A a1_2_n a1_2_c]) 31, .blk b1 ([.int .i64 a0_0, .int .i64 a0_1, .int .i32 a0_2, .int .i64 a0_3, .int .i32 a0_4, .int .i32 a0_5, .int .i64 a0_6, .int .i64 a0_7]) 23] [.rowL (CI .u8) a1_0_A a1_0_n a1_0_c a1_0, .rowL (CA .i32 256 (by decide)) a1_1_A a1_1_n a1_1_c a1_1, .rowL (CA .i32 256 (by decide)) a1_2_A a1_2_n a1_2_c a1_2] w ∧ ∃ g : Nat → Value, a = ⟨#[.pointer (some ⟨b3, 0, none⟩), .slice a1_1_A a1_1_n a1_1_c, .int .i64 a0_1, .agg #[.int .i32 (isub .i32 a0_4 1), .int .i32 a0_4], undef, undef, undef, .pointer (some ⟨b6, 0, none⟩), undef, (g 9), (g 10), (g 11), (g 12), (g 13), (g 14), (g 15), (g 16), (g 17), (g 18), (g 19), (g 20), (g 21), (g 22), (g 23), .slice a1_1_A a1_1_n a1_1_c, .int .i64 (a1_1.length : Int), (g 26), (g 27), (g 28), (g 29), (g 30), (g 31), (g 32), (g 33), (g 34), (g 35), (g 36), (g 37), (g 38), (g 39), (g 40), (g 41), (g 42), (g 43), (g 44), (g 45), (g 46), (g 47), (g 48), (g 49), (g 50), (g 51), (g 52), (g 53), (g 54), (g 55), (g 56)], []⟩) (fun N0 nn0 => ?_) ?_
  ·clear hk0
   refine xblock ?_
   refine wp_loop_k (fun n a w => ∃ z9 z10 z11_1, ∃ (z10_A : Option Addr) (z10_n : Nat) (z10_c : Nat), dpack_Sig.l0 K n a0_4 a1_1 z9 z10 z11_1 = some (y12, y13_1) ∧ St w0 [] [.blk b6 ([.int .i32 (isub .i32 a0_4 1), .int .i32 a0_4]) 73, .ownL (CI .u8) z10_A z10_n z10_c z10 5, .blk b3 ([.slice z10_A z10_n z10_c, .bool z11_1]) 69, .blk b2 ([.slice a1_0_A a1_0_n a1_0_c, .slice a1_1_A a1_1_n a1_1_c, .slice a1_2_A a1_2_n a1_2_c]) 31, .blk b1 ([.int .i64 a0_0, .int .i64 a0_1, .int .i32 a0_2, .int .i64 a0_3, .int .i32 a0_4, .int .i32 a0_5, .int .i64 a0_6, .int .i64 a0_7]) 23] [.rowL (CI .u8) a1_0_A a1_0_n a1_0_c a1_0, .rowL (CA .i32 256 (by decide)) a1_1_A a1_1_n a1_1_c a1_1, .rowL (CA .i32 256 (by decide)) a1_2_A a1_2_n a1_2_c a1_2] w ∧ ∃ g : Nat → Value, a = ⟨#[.pointer (some ⟨b3, 0, none⟩), .slice a1_1_A a1_1_n a1_1_c, .int .i64 a0_1, .agg #[.int .i32 (isub .i32 a0_4 1), .int .i32 a0_4], undef, undef, undef, .pointer (some ⟨b6, 0, none⟩), undef, (g 9), (g 10), (g 11), (g 12), (g 13), (g 14), (g 15), (g 16), (g 17), (g 18), (g 19), (g 20), (g 21), (g 22), (g 23), .slice a1_1_A a1_1_n a1_1_c, .int .i64 (a1_1.length : Int), .int .i64 z9, (g 27), (g 28), (g 29), (g 30), (g 31), (g 32), (g 33), (g 34), (g 35), (g 36), (g 37), (g 38), (g 39), (g 40), (g 41), (g 42), (g 43), (g 44), (g 45), (g 46), (g 47), (g 48), (g 49), (g 50), (g 51), (g 52), (g 53), (g 54), (g 55), (g 56)], []⟩) K ⟨0, (([] : List Int) ++ a1_0), y7_1, s5_A, s5_n, s5_c, hy, hs.conv rfl, exg (by kernel_rfl)⟩ ?_
   clear hs h hy
   rintro n a w ⟨z9, z10, z11_1, z10_A, z10_n, z10_c, h, hs, g, rfl⟩ KL0 kl0
   cases n with
   | zero => exact nomatch (show none = some _ from h)
   | succ n =>
    refine xseq_k fun KS20 ks20 => ?_
    refine wp_regS (l := [0]) (by kernel_rfl) (by kernel_rfl) fun KR21 kr21 => ?_
    rcases of_if h with ⟨hc, h⟩ | ⟨hc, h⟩
    ·refine wpS.take 0 false (some 27) (.bool true) (by kernel_rfl) (yld_b (dt hc) (fun _ => by kernel_rfl)) ?_
     refine wpS.fin rfl (kr21 _ _ ?_)
     refine then_n (ks20 _ _ ?_)
     refine xseq_k fun KS22 ks22 => ?_
     refine wp_cond_t (by kernel_rfl) ?_
     refine xskip ?_
     refine then_n (ks22 _ _ ?_)
     refine xseq_k fun KS23 ks23 => ?_
     refine xblock ?_
     refine xseq_k fun KS24 ks24 => ?_
     refine wp_regS (l := [0, 1, 2, 3]) (by kernel_rfl) (by kernel_rfl) fun KR25 kr25 => ?_
     obtain ⟨h0, h⟩ := of_chk h
     obtain ⟨h1, h⟩ := of_chk h
     have i0_26 := h0
     have i1_26 := h1
     refine wpS.take 0 false (some 28) (.pointer (adr a1_1_A ((z9 : Int).toNat * Cod.size (CA .i32 256 (by decide))))) (by kernel_rfl) (yld_idxL (C := (CA .i32 256 (by decide))) (t := 25) (e := 40) (k := .i64) (x := z9) (hs.rowR 1 rfl) (by kernel_rfl) (by kernel_rfl) (by kernel_rfl) h0 h1) ?_
     refine wpS.take 1 true (some 29) (.agg (enc .i32 (rdL (CA .i32 256 (by decide)) a1_1 z9)).toArray) (by kernel_rfl) (yld_loadLA (C := (CA .i32 256 (by decide))) (e := 40) (x := z9) (hs.rowR 1 rfl) (by kernel_rfl) rfl (by kernel_rfl) (by kernel_rfl) i0_26 i1_26) ?_
     refine wpS.only 2 (op_alloc (t := 40) (d := (some 9)) (by kernel_rfl) hs (enc .i32 (zeroA 256)) (.agg (enc .i32 (zeroA 256)).toArray) (by kernel_rfl) (by kernel_rfl) (by kernel_rfl) ?_)
     intro b14 w gw hs
     refine ⟨fun _ => trivial, ?_⟩
     refine wpS.only 3 (op_storeW (t := 40) (v := .agg (enc .i32 (rdL (CA .i32 256 (by decide)) a1_1 z9)).toArray) (d := none) (by kernel_rfl) hs 0 rfl (vs := enc .i32 (rdL (CA .i32 256 (by decide)) a1_1 z9)) (n := 256) (by kernel_rfl) (by kernel_rfl) (by kernel_rfl) (by simp [enc_len]) (by simp [enc_len]) (by intro u hu; exact enc_one _ _ u hu) ?_)
     intro w kp hs
     refine ⟨fun _ => trivial, ?_⟩
     refine wpS.fin rfl (kr25 _ _ ?_)
     refine then_n (ks24 _ _ ?_)
     refine xseq_k fun KS27 ks27 => ?_
     refine wp_regS (l := [0, 1, 2, 3, 4, 5, 6]) (by kernel_rfl) (by kernel_rfl) fun KR28 kr28 => ?_
     refine wpS.take 0 true (some 30) (.agg (enc .i32 (rdL (CA .i32 256 (by decide)) a1_1 z9)).toArray) (by kernel_rfl) (yld_loadW (e := 40) (n := 256) hs 0 rfl (by kernel_rfl) (by kernel_rfl) (by kernel_rfl) (by exact enc_len _ _) .grow) ?_
     refine wpS.p 1 31 (.pointer (some ⟨b6, 0, none⟩)) (by kernel_rfl) ?_
     refine wpS.take 2 true (some 32) (.int .i32 (isub .i32 a0_4 1)) (by kernel_rfl) (yld_load1 (e := 21) (o := 0) hs 1 rfl (by kernel_rfl) (by kernel_rfl) (by rfl) .grow) ?_
     refine wpS.p 3 33 (.pointer (some ⟨b6, 1, none⟩)) (by kernel_rfl) ?_
     refine wpS.take 4 true (some 34) (.int .i32 a0_4) (by kernel_rfl) (yld_load1 (e := 21) (o := 1) hs 1 rfl (by kernel_rfl) (by kernel_rfl) (by rfl) .grow) ?_
     obtain ⟨r15, hg, h⟩ := of_bind h
     refine wpS.only 5 (op_callHF (d := (some 35)) (by kernel_rfl) hs (fun _ => by kernel_rfl) (dpack_Pack.ok hg _) ?_)
     rintro ⟨r15_A, r15_n, r15_c⟩ w hne29 gw hs
     have hs := hs.conv (L' := [.ownL (CI .u8) r15_A r15_n r15_c r15 5, .blk b14 (enc .i32 (rdL (CA .i32 256 (by decide)) a1_1 z9)) 40, .blk b6 ([.int .i32 (isub .i32 a0_4 1), .int .i32 a0_4]) 73, .ownL (CI .u8) z10_A z10_n z10_c z10 5, .blk b3 ([.slice z10_A z10_n z10_c, .bool z11_1]) 69, .blk b2 ([.slice a1_0_A a1_0_n a1_0_c, .slice a1_1_A a1_1_n a1_1_c, .slice a1_2_A a1_2_n a1_2_c]) 31, .blk b1 ([.int .i64 a0_0, .int .i64 a0_1, .int .i32 a0_2, .int .i64 a0_3, .int .i32 a0_4, .int .i32 a0_5, .int .i64 a0_6, .int .i64 a0_7]) 23]) rfl
     refine ⟨fun _ => trivial, ?_⟩
     refine wpS.p 6 10 (.slice r15_A r15_n r15_c) (by kernel_rfl) ?_
     refine wpS.fin rfl (kr28 _ _ ?_)
     refine then_n (ks27 _ _ ?_)
     obtain ⟨y16_1, hj, h⟩ := of_bind h
     refine xseq_k fun KS30 ks30 => wp_join (N := fun a w => St w0 [] [.ownL (CI .u8) r15_A r15_n r15_c r15 5, .blk b14 (enc .i32 (rdL (CA .i32 256 (by decide)) a1_1 z9)) 40, .blk b6 ([.int .i32 (isub .i32 a0_4 1), .int .i32 a0_4]) 73, .ownL (CI .u8) z10_A z10_n z10_c z10 5, .blk b3 ([.slice z10_A z10_n z10_c, .bool y16_1]) 69, .blk b2 ([.slice a1_0_A a1_0_n a1_0_c, .slice a1_1_A a1_1_n a1_1_c, .slice a1_2_A a1_2_n a1_2_c]) 31, .blk b1 ([.int .i64 a0_0, .int .i64 a0_1, .int .i32 a0_2, .int .i64 a0_3, .int .i32 a0_4, .int .i32 a0_5, .int .i64 a0_6, .int .i64 a0_7]) 23] [.rowL (CI .u8) a1_0_A a1_0_n a1_0_c a1_0, .rowL (CA .i32 256 (by decide)) a1_1_A a1_1_n a1_1_c a1_1, .rowL (CA .i32 256 (by decide)) a1_2_A a1_2_n a1_2_c a1_2] w ∧ ∃ g : Nat → Value, a = ⟨#[.pointer (some ⟨b3, 0, none⟩), .slice a1_1_A a1_1_n a1_1_c, .int .i64 a0_1, .agg #[.int .i32 (isub .i32 a0_4 1), .int .i32 a0_4], undef, undef, undef, .pointer (some ⟨b6, 0, none⟩), undef, .pointer (some ⟨b14, 0, none⟩), .slice r15_A r15_n r15_c, (g 11), (g 12), (g 13), (g 14), (g 15), (g 16), (g 17), (g 18), (g 19), (g 20), (g 21), (g 22), (g 23), .slice a1_1_A a1_1_n a1_1_c, .int .i64 (a1_1.length : Int), .int .i64 z9, .bool true, .pointer (adr a1_1_A ((z9 : Int).toNat * Cod.size (CA .i32 256 (by decide)))), .agg (enc .i32 (rdL (CA .i32 256 (by decide)) a1_1 z9)).toArray, .agg (enc .i32 (rdL (CA .i32 256 (by decide)) a1_1 z9)).toArray, .pointer (some ⟨b6, 0, none⟩), .int .i32 (isub .i32 a0_4 1), .pointer (some ⟨b6, 1, none⟩), .int .i32 a0_4, .slice r15_A r15_n r15_c, (g 36), (g 37), (g 38), (g 39), (g 40), (g 41), (g 42), (g 43), (g 44), (g 45), (g 46), (g 47), (g 48), (g 49), (g 50), (g 51), (g 52), (g 53), (g 54), (g 55), (g 56)], []⟩) (fun N nj => ?_) ?_
     ·clear h
      have h := hj
      refine wp_regS (l := [0, 1, 2, 3, 4, 5, 6, 7, 8, 9, 10, 11]) (by kernel_rfl) (by kernel_rfl) fun KR31 kr31 => ?_
      refine wpS.ps [(0, 36, .pointer (some ⟨b3, 0, none⟩)), (1, 37, .pointer (some ⟨b3, 0, none⟩)), (2, 38, .pointer (some ⟨b3, 0, none⟩)), (3, 39, .pointer (some ⟨b3, 1, none⟩))] (by kernel_rfl) ?_
      cases z11_1 with
      | true =>
       have h := of_if_t h
       refine wpS.take 4 true (some 40) (.bool true) (by kernel_rfl) (yld_load1 (e := 4) (o := 1) hs 4 rfl (by kernel_rfl) (by kernel_rfl) (by rfl) .grow) ?_
       refine wpS.ps [(5, 41, .bool true), (6, 42, undef), (7, 43, undef), (8, 44, .bool true), (9, 45, .pointer (some ⟨b3, 0, none⟩)), (10, 46, .pointer (some ⟨b3, 1, none⟩))] (by kernel_rfl) ?_
       refine wpS.only 11 (op_store1 (t := 4) (o := 1) (v := .bool true) (d := none) (by kernel_rfl) hs 4 rfl (by kernel_rfl) rfl (by kernel_rfl) (by simp) ?_)
       intro w kp hs
       refine ⟨fun _ => trivial, ?_⟩
       refine wpS.fin rfl (kr31 _ _ ?_)
       have q0 := of_some h
       subst q0
       exact nj _ _ ⟨(hs.conv rfl), exg (by kernel_rfl)⟩
      | false =>
       have h := of_if_f h
       refine wpS.take 4 true (some 40) (.bool false) (by kernel_rfl) (yld_load1 (e := 4) (o := 1) hs 4 rfl (by kernel_rfl) (by kernel_rfl) (by rfl) .grow) ?_
       refine wpS.ps [(5, 41, .bool false), (6, 42, .slice r15_A r15_n r15_c)] (by kernel_rfl) ?_
       refine wpS.take 7 false (some 43) (.bool ((r15).isEmpty)) (by kernel_rfl) (yld_nilS (t := 24) (e := 5) (C := (CI .u8)) (.tmp 42) (.const (.slice none 0 0)) (hs.rowL 0 rfl) hne29 (by kernel_rfl) (by kernel_rfl) (by kernel_rfl)) ?_
       refine wpS.ps [(8, 44, .bool ((r15).isEmpty)), (9, 45, .pointer (some ⟨b3, 0, none⟩)), (10, 46, .pointer (some ⟨b3, 1, none⟩))] (by kernel_rfl) ?_
       obtain ⟨x17, hx, h⟩ := of_bind h
       refine wpS.only 11 (op_store1 (t := 4) (o := 1) (v := .bool x17) (d := none) (by kernel_rfl) hs 4 rfl (by cases hx; kernel_rfl) rfl (by kernel_rfl) (by simp) ?_)
       intro w kp hs
       refine ⟨fun _ => trivial, ?_⟩
       refine wpS.fin rfl (kr31 _ _ ?_)
       have q0 := of_some h
       subst q0
       exact nj _ _ ⟨(hs.conv rfl), exg (by kernel_rfl)⟩
     ·clear hj hs
      rintro a w ⟨hs, g, rfl⟩
      refine then_n (ks30 _ _ ?_)
      refine wp_regS (l := [0, 1, 2, 3, 4, 5, 6, 7, 8, 9]) (by kernel_rfl) (by kernel_rfl) fun KR32 kr32 => ?_
      refine wpS.ps [(0, 47, .pointer (some ⟨b3, 0, none⟩)), (1, 48, .pointer (some ⟨b3, 0, none⟩)), (2, 49, .pointer (some ⟨b3, 0, none⟩)), (3, 50, .pointer (some ⟨b3, 0, none⟩))] (by kernel_rfl) ?_
      refine wpS.take 4 true (some 51) (.slice z10_A z10_n z10_c) (by kernel_rfl) (yld_load1 (e := 24) (o := 0) hs 4 rfl (by kernel_rfl) (by kernel_rfl) (by rfl) .grow) ?_
      refine wpS.p 5 52 (.slice r15_A r15_n r15_c) (by kernel_rfl) ?_
      obtain ⟨h0, h⟩ := of_chk h
      refine wpS.only 6 (op_appendT (C := (CI .u8)) (t := 24) (ty := 24) (e := 5) (bytes := 1) (B := 140737488355328) (d := (some 53)) (by kernel_rfl) hs 3 rfl (hs.rowL 0 rfl) (by kernel_rfl) (by kernel_rfl) (by kernel_rfl) (by kernel_rfl) (by kernel_rfl) h0 (by decide) (by decide) ?_)
      intro s18_A s18_n s18_c w hs
      refine ⟨fun _ => trivial, ?_⟩
      refine wpS.ps [(7, 54, .pointer (some ⟨b3, 0, none⟩)), (8, 55, .pointer (some ⟨b3, 0, none⟩))] (by kernel_rfl) ?_
      refine wpS.only 9 (op_store1 (t := 24) (o := 0) (v := .slice s18_A s18_n s18_c) (d := none) (by kernel_rfl) hs 4 rfl (by kernel_rfl) rfl (by kernel_rfl) (by simp) ?_)
      intro w kp hs
      refine ⟨fun _ => trivial, ?_⟩
      refine wpS.fin rfl (kr32 _ _ ?_)
      refine inBlock_n ?_
      refine then_n (ks23 _ _ ?_)
      refine wp_regS (l := [0, 1]) (by kernel_rfl) (by kernel_rfl) fun KR33 kr33 => ?_
      refine wpS.ps [(0, 56, .int .i64 (iadd .i64 z9 1)), (1, 26, .int .i64 (iadd .i64 z9 1))] (by kernel_rfl) ?_
      refine wpS.fin rfl (kr33 _ _ ?_)
      exact then_n (kl0 _ _ ⟨n, Nat.lt_succ_self n, (iadd .i64 z9 1), (z10 ++ r15), y16_1, s18_A, s18_n, s18_c, h, (hs.drop (.cons _ (.cons _ (.cons_cons _ (.cons_cons _ (.cons_cons _ (.cons_cons _ (.cons_cons _ .slnil)))))))), exg (by kernel_rfl)⟩)
    ·refine wpS.take 0 false (some 27) (.bool false) (by kernel_rfl) (yld_b (df hc) (fun _ => by kernel_rfl)) ?_
     refine wpS.fin rfl (kr21 _ _ ?_)
     refine then_n (ks20 _ _ ?_)
     refine xseq_k fun KS34 ks34 => ?_
     refine wp_cond_f (by kernel_rfl) ?_
     refine xexit ?_
     refine then_x ?_
     refine then_x ?_
     refine inBlock_hit ?_
     obtain ⟨q0, qr0⟩ := Prod.mk.inj (of_some h)
     have q1 := qr0
     subst q0
     subst q1
     exact exq_n (nn0 _ _ ⟨z10_A, z10_n, z10_c, (hs.conv rfl), exg (by kernel_rfl)⟩)
  ·clear hs h hy
   rintro a w ⟨y12_A, y12_n, y12_c, hs, g, rfl⟩
   have h := hk0
   refine qn13 _ _ (post_nrm (by kernel_rfl) (run_results [] [] (by kernel_rfl) .nil) ?_)
   refine kI13 _ _ ?_
   refine ⟨fun _ => trivial, ?_⟩
   refine wpS.fin rfl (kr12 _ _ ?_)
   refine then_n (ks11 _ _ ?_)
   refine xseq_k fun KS35 ks35 => ?_
   refine xseq_k fun KS36 ks36 => ?_
   refine wp_regS (l := [0, 1, 2, 3, 4, 5]) (by kernel_rfl) (by kernel_rfl) fun KR37 kr37 => ?_
   refine wpS.p 0 26 (.pointer (some ⟨b2, 2, none⟩)) (by kernel_rfl) ?_
   refine wpS.take 1 true (some 27) (.slice a1_2_A a1_2_n a1_2_c) (by kernel_rfl) (yld_load1 (e := 25) (o := 2) hs 3 rfl (by kernel_rfl) (by kernel_rfl) (by rfl) .grow) ?_
   refine wpS.take 2 false (some 28) (.int .i64 (a1_2.length : Int)) (by kernel_rfl) (yld_lenL (hs.rowR 2 rfl) (fun _ => by kernel_rfl)) ?_
   refine wpS.p 3 29 (.pointer (some ⟨b1, 0, none⟩)) (by kernel_rfl) ?_
   refine wpS.take 4 true (some 30) (.int .i64 a0_0) (by kernel_rfl) (yld_load1 (e := 3) (o := 0) hs 4 rfl (by kernel_rfl) (by kernel_rfl) (by rfl) .grow) ?_
   rcases of_if h with ⟨hc, h⟩ | ⟨hc, h⟩
   ·refine wpS.take 5 false (some 31) (.bool false) (by kernel_rfl) (yld_b (nf hc) (fun _ => by kernel_rfl)) ?_
    refine wpS.fin rfl (kr37 _ _ ?_)
    refine then_n (ks36 _ _ ?_)
    refine wp_cond_f (by kernel_rfl) ?_
    refine xskip ?_
    refine then_n (ks35 _ _ ?_)
    refine xseq_k fun KS38 ks38 => ?_
    refine wp_regG [11] (fun k => True) 12 (by kernel_rfl) (by kernel_rfl) (by kernel_rfl) fun KR39 kr39 => ?_
    have hs := hs.drawn1
    refine wpG.p 0 32 (.pointer (some ⟨b3, 0, none⟩)) (by kernel_rfl) (by kernel_rfl) ?_
    refine wpG.takeD 1 false (some 33) (.pointer (some ⟨b2, 2, none⟩)) (by kernel_rfl) (by kernel_rfl) (yld fun _ => by kernel_rfl) ?_
    refine wpG.take [2, 5, 11] 2 true (some 34) (.slice a1_2_A a1_2_n a1_2_c) (by kernel_rfl) (by kernel_rfl) (yld_load1 (e := 25) (o := 2) hs 3 rfl (by kernel_rfl) (by kernel_rfl) (by rfl) .grow) ?_
    refine wpG.takeD 3 false (some 35) (.pointer (some ⟨b1, 6, none⟩)) (by kernel_rfl) (by kernel_rfl) (yld fun _ => by kernel_rfl) ?_
    refine wpG.take [4, 5, 11] 4 true (some 36) (.int .i64 a0_6) (by kernel_rfl) (by kernel_rfl) (yld_load1 (e := 3) (o := 6) hs 4 rfl (by kernel_rfl) (by kernel_rfl) (by rfl) .grow) ?_
    refine wpG.takeD 6 false (some 38) (.pointer (some ⟨b1, 6, none⟩)) (by kernel_rfl) (by kernel_rfl) (yld fun _ => by kernel_rfl) ?_
    refine wpG.take [7, 10, 11] 7 true (some 39) (.int .i64 a0_6) (by kernel_rfl) (by kernel_rfl) (yld_load1 (e := 3) (o := 6) hs 4 rfl (by kernel_rfl) (by kernel_rfl) (by rfl) .grow) ?_
    refine wpG.takeD 8 false (some 40) (.pointer (some ⟨b1, 0, none⟩)) (by kernel_rfl) (by kernel_rfl) (yld fun _ => by kernel_rfl) ?_
    refine wpG.take [9, 10, 11] 9 true (some 41) (.int .i64 a0_0) (by kernel_rfl) (by kernel_rfl) (yld_load1 (e := 3) (o := 0) hs 4 rfl (by kernel_rfl) (by kernel_rfl) (by rfl) .grow) ?_
    refine wpG.p 10 42 (.int .i64 (iadd .i64 a0_6 a0_0)) (by kernel_rfl) (by kernel_rfl) ?_
    obtain ⟨r19, hg, h⟩ := of_bind h
    refine wpG.only 5 (by kernel_rfl) (op_callH (d := (some 37)) (by kernel_rfl) hs (fun _ => by kernel_rfl) (dpack_Hints.ok hg _ (hs.rowR 2 rfl)) ?_)
    rintro ⟨r19_A, r19_n, r19_c⟩ w gw hs
    have hs := hs.conv (L' := [.ownL (CI .u8) r19_A r19_n r19_c r19 5, .blk b6 ([.int .i32 (isub .i32 a0_4 1), .int .i32 a0_4]) 73, .ownL (CI .u8) y12_A y12_n y12_c y12 5, .blk b3 ([.slice y12_A y12_n y12_c, .bool y13_1]) 69, .blk b2 ([.slice a1_0_A a1_0_n a1_0_c, .slice a1_1_A a1_1_n a1_1_c, .slice a1_2_A a1_2_n a1_2_c]) 31, .blk b1 ([.int .i64 a0_0, .int .i64 a0_1, .int .i32 a0_2, .int .i64 a0_3, .int .i32 a0_4, .int .i32 a0_5, .int .i64 a0_6, .int .i64 a0_7]) 23]) rfl
    refine ⟨.of gw, ?_⟩
    refine wpG.only 11 (by kernel_rfl) (op_inline (d := (some 43)) (f := 38) (args := #[.pointer (some ⟨b3, 0, none⟩), .slice r19_A r19_n r19_c, .int .i64 (iadd .i64 a0_6 a0_0)]) (by kernel_rfl) (fun _ => by kernel_rfl) fun R40 kI40 => ?_)
    refine calls_kn Try.func38 rfl fun Q40 qq40 qn40 => ?_
    refine wp_conv (a' := ⟨#[.pointer (some ⟨b3, 0, none⟩), .slice r19_A r19_n r19_c, .int .i64 (iadd .i64 a0_6 a0_0), undef, undef, undef, undef, undef, undef, undef, undef, undef, undef, undef, undef, undef, undef, undef, undef, undef, undef, undef, undef, undef, undef, undef, undef, undef], []⟩) (by kernel_rfl) ?_
    obtain ⟨y20_1, hj, h⟩ := of_bind h
    refine xseq_k fun KS41 ks41 => wp_join (N := fun a w => St w0 [] [.ownL (CI .u8) r19_A r19_n r19_c r19 5, .blk b6 ([.int .i32 (isub .i32 a0_4 1), .int .i32 a0_4]) 73, .ownL (CI .u8) y12_A y12_n y12_c y12 5, .blk b3 ([.slice y12_A y12_n y12_c, .bool y20_1]) 69, .blk b2 ([.slice a1_0_A a1_0_n a1_0_c, .slice a1_1_A a1_1_n a1_1_c, .slice a1_2_A a1_2_n a1_2_c]) 31, .blk b1 ([.int .i64 a0_0, .int .i64 a0_1, .int .i32 a0_2, .int .i64 a0_3, .int .i32 a0_4, .int .i32 a0_5, .int .i64 a0_6, .int .i64 a0_7]) 23] [.rowL (CI .u8) a1_0_A a1_0_n a1_0_c a1_0, .rowL (CA .i32 256 (by decide)) a1_1_A a1_1_n a1_1_c a1_1, .rowL (CA .i32 256 (by decide)) a1_2_A a1_2_n a1_2_c a1_2] w ∧ ∃ g : Nat → Value, a = ⟨#[.pointer (some ⟨b3, 0, none⟩), .slice r19_A r19_n r19_c, .int .i64 (iadd .i64 a0_6 a0_0), undef, undef, undef, (g 6), (g 7), (g 8), (g 9), (g 10), (g 11), (g 12), (g 13), (g 14), (g 15), (g 16), (g 17), (g 18), undef, undef, undef, undef, undef, undef, undef, undef, undef], []⟩) (fun N nj => ?_) ?_
    ·clear h
     have h := hj
     refine wp_regS (l := [0, 1, 2, 3, 4, 5, 6, 7, 8, 9, 10, 11, 12, 13]) (by kernel_rfl) (by kernel_rfl) fun KR42 kr42 => ?_
     refine wpS.ps [(0, 6, .pointer (some ⟨b3, 0, none⟩)), (1, 7, .pointer (some ⟨b3, 0, none⟩)), (2, 8, .pointer (some ⟨b3, 0, none⟩)), (3, 9, .pointer (some ⟨b3, 1, none⟩))] (by kernel_rfl) ?_
     cases y13_1 with
     | true =>
      have h := of_if_t h
      refine wpS.take 4 true (some 10) (.bool true) (by kernel_rfl) (yld_load1 (e := 4) (o := 1) hs 3 rfl (by kernel_rfl) (by kernel_rfl) (by rfl) .grow) ?_
      refine wpS.ps [(5, 11, .bool true), (6, 12, undef), (7, 13, undef), (8, 14, undef), (9, 15, undef), (10, 16, .bool true), (11, 17, .pointer (some ⟨b3, 0, none⟩)), (12, 18, .pointer (some ⟨b3, 1, none⟩))] (by kernel_rfl) ?_
      refine wpS.only 13 (op_store1 (t := 4) (o := 1) (v := .bool true) (d := none) (by kernel_rfl) hs 3 rfl (by kernel_rfl) rfl (by kernel_rfl) (by simp) ?_)
      intro w kp hs
      refine ⟨fun _ => trivial, ?_⟩
      refine wpS.fin rfl (kr42 _ _ ?_)
      have q0 := of_some h
      subst q0
      exact nj _ _ ⟨(hs.conv rfl), exg (by kernel_rfl)⟩
     | false =>
      have h := of_if_f h
      refine wpS.take 4 true (some 10) (.bool false) (by kernel_rfl) (yld_load1 (e := 4) (o := 1) hs 3 rfl (by kernel_rfl) (by kernel_rfl) (by rfl) .grow) ?_
      refine wpS.ps [(5, 11, .bool false), (6, 12, .slice r19_A r19_n r19_c)] (by kernel_rfl) ?_
      refine wpS.take 7 false (some 13) (.int .i64 (r19.length : Int)) (by kernel_rfl) (yld_lenL (hs.rowL 0 rfl) (fun _ => by kernel_rfl)) ?_
      refine wpS.ps [(8, 14, .int .i64 (iadd .i64 a0_6 a0_0)), (9, 15, .bool ((r19.length : Int) != (iadd .i64 a0_6 a0_0))), (10, 16, .bool ((r19.length : Int) != (iadd .i64 a0_6 a0_0))), (11, 17, .pointer (some ⟨b3, 0, none⟩)), (12, 18, .pointer (some ⟨b3, 1, none⟩))] (by kernel_rfl) ?_
      obtain ⟨x21, hx, h⟩ := of_bind h
      refine wpS.only 13 (op_store1 (t := 4) (o := 1) (v := .bool x21) (d := none) (by kernel_rfl) hs 3 rfl (by cases hx; kernel_rfl) rfl (by kernel_rfl) (by simp) ?_)
      intro w kp hs
      refine ⟨fun _ => trivial, ?_⟩
      refine wpS.fin rfl (kr42 _ _ ?_)
      have q0 := of_some h
      subst q0
      exact nj _ _ ⟨(hs.conv rfl), exg (by kernel_rfl)⟩
    ·clear hj hs
     rintro a w ⟨hs, g, rfl⟩
     refine then_n (ks41 _ _ ?_)
     refine wp_regS (l := [0, 1, 2, 3, 4, 5, 6, 7, 8, 9]) (by kernel_rfl) (by kernel_rfl) fun KR43 kr43 => ?_
     refine wpS.ps [(0, 19, .pointer (some ⟨b3, 0, none⟩)), (1, 20, .pointer (some ⟨b3, 0, none⟩)), (2, 21, .pointer (some ⟨b3, 0, none⟩)), (3, 22, .pointer (some ⟨b3, 0, none⟩))] (by kernel_rfl) ?_
     refine wpS.take 4 true (some 23) (.slice y12_A y12_n y12_c) (by kernel_rfl) (yld_load1 (e := 24) (o := 0) hs 3 rfl (by kernel_rfl) (by kernel_rfl) (by rfl) .grow) ?_
     refine wpS.p 5 24 (.slice r19_A r19_n r19_c) (by kernel_rfl) ?_
     obtain ⟨h0, h⟩ := of_chk h
     refine wpS.only 6 (op_appendT (C := (CI .u8)) (t := 24) (ty := 24) (e := 5) (bytes := 1) (B := 140737488355328) (d := (some 25)) (by kernel_rfl) hs 2 rfl (hs.rowL 0 rfl) (by kernel_rfl) (by kernel_rfl) (by kernel_rfl) (by kernel_rfl) (by kernel_rfl) h0 (by decide) (by decide) ?_)
     intro s22_A s22_n s22_c w hs
     refine ⟨fun _ => trivial, ?_⟩
     refine wpS.ps [(7, 26, .pointer (some ⟨b3, 0, none⟩)), (8, 27, .pointer (some ⟨b3, 0, none⟩))] (by kernel_rfl) ?_
     refine wpS.only 9 (op_store1 (t := 24) (o := 0) (v := .slice s22_A s22_n s22_c) (d := none) (by kernel_rfl) hs 3 rfl (by kernel_rfl) rfl (by kernel_rfl) (by simp) ?_)
     intro w kp hs
     refine ⟨fun _ => trivial, ?_⟩
     refine wpS.fin rfl (kr43 _ _ ?_)
     refine qn40 _ _ (post_nrm (by kernel_rfl) (run_results [] [] (by kernel_rfl) .nil) ?_)
     refine kI40 _ _ ?_
     refine ⟨⟨fun hf => absurd hf (by decide), .all _ _⟩, ?_⟩
     refine wpG.fin (by kernel_rfl) rfl (kr39 _ _ ?_)
     refine then_n (ks38 _ _ ?_)
     refine xseq_k fun KS44 ks44 => ?_
     refine wp_regS (l := [0, 1, 2, 3]) (by kernel_rfl) (by kernel_rfl) fun KR45 kr45 => ?_
     refine wpS.p 0 44 (.pointer (some ⟨b3, 0, none⟩)) (by kernel_rfl) ?_
     refine wpS.take 1 true (some 45) (.agg #[.int .i64 a0_0, .int .i64 a0_1, .int .i32 a0_2, .int .i64 a0_3, .int .i32 a0_4, .int .i32 a0_5, .int .i64 a0_6, .int .i64 a0_7]) (by kernel_rfl) (yld_loadW (e := 23) (n := 8) hs 5 rfl (by kernel_rfl) (by kernel_rfl) (by kernel_rfl) (by simp [enc_len]) .grow) ?_
     obtain ⟨y23, hj, h⟩ := of_bind h
     refine wpS.only 2 (op_inlineJ (d := (some 46)) (f := 40) (args := #[.pointer (some ⟨b3, 0, none⟩), .agg #[.int .i64 a0_0, .int .i64 a0_1, .int .i32 a0_2, .int .i64 a0_3, .int .i32 a0_4, .int .i32 a0_5, .int .i64 a0_6, .int .i64 a0_7]]) (by kernel_rfl) (fun _ => by kernel_rfl) (N := fun v w => ∃ (y23_A : Option Addr) (y23_n : Nat) (y23_c : Nat), v = .slice y23_A y23_n y23_c ∧ St w0 [] [.ownL (CI .u8) y23_A y23_n y23_c y23 5, .ownL (CI .u8) r19_A r19_n r19_c r19 5, .blk b6 ([.int .i32 (isub .i32 a0_4 1), .int .i32 a0_4]) 73, .blk b3 ([.slice s22_A s22_n s22_c, .bool y20_1]) 69, .blk b2 ([.slice a1_0_A a1_0_n a1_0_c, .slice a1_1_A a1_1_n a1_1_c, .slice a1_2_A a1_2_n a1_2_c]) 31, .blk b1 ([.int .i64 a0_0, .int .i64 a0_1, .int .i32 a0_2, .int .i64 a0_3, .int .i32 a0_4, .int .i32 a0_5, .int .i64 a0_6, .int .i64 a0_7]) 23] [.rowL (CI .u8) a1_0_A a1_0_n a1_0_c a1_0, .rowL (CA .i32 256 (by decide)) a1_1_A a1_1_n a1_1_c a1_1, .rowL (CA .i32 256 (by decide)) a1_2_A a1_2_n a1_2_c a1_2] w) (fun R46 kI46 => ?_) ?_)
     ·clear h
      have h := hj
      refine calls_k Try.func40 rfl fun Q46 qq46 => ?_
      refine wp_conv (a' := ⟨#[.pointer (some ⟨b3, 0, none⟩), .agg #[.int .i64 a0_0, .int .i64 a0_1, .int .i32 a0_2, .int .i64 a0_3, .int .i32 a0_4, .int .i32 a0_5, .int .i64 a0_6, .int .i64 a0_7], undef, undef, undef, undef, undef, undef, undef, undef, undef, undef, undef, undef, undef, undef, undef, undef], []⟩) (by kernel_rfl) ?_
      refine xseq_k fun KS47 ks47 => ?_
      refine wp_regS (l := [0, 1]) (by kernel_rfl) (by kernel_rfl) fun KR48 kr48 => ?_
      refine wpS.only 0 (op_box (t := 23) (v := .agg #[.int .i64 a0_0, .int .i64 a0_1, .int .i32 a0_2, .int .i64 a0_3, .int .i32 a0_4, .int .i32 a0_5, .int .i64 a0_6, .int .i64 a0_7]) (d := (some 3)) (by kernel_rfl) hs ([.int .i64 a0_0, .int .i64 a0_1, .int .i32 a0_2, .int .i64 a0_3, .int .i32 a0_4, .int .i32 a0_5, .int .i64 a0_6, .int .i64 a0_7]) (by kernel_rfl) (by kernel_rfl) ?_)
      intro b24 w gw hs
      refine ⟨fun _ => trivial, ?_⟩
      refine wpS.p 1 4 (.slice none 0 0) (by kernel_rfl) ?_
      refine wpS.fin rfl (kr48 _ _ ?_)
      refine then_n (ks47 _ _ ?_)
      refine xseq_k fun KS49 ks49 => ?_
      refine xseq_k fun KS50 ks50 => ?_
      refine wp_regS (l := [0, 1, 2, 3, 4, 5, 6, 7, 8]) (by kernel_rfl) (by kernel_rfl) fun KR51 kr51 => ?_
      refine wpS.ps [(0, 5, .pointer (some ⟨b3, 0, none⟩)), (1, 6, .pointer (some ⟨b3, 0, none⟩)), (2, 7, .pointer (some ⟨b3, 1, none⟩))] (by kernel_rfl) ?_
      cases y20_1 with
      | true =>
       have h := of_if_t h
       refine wpS.take 3 true (some 8) (.bool true) (by kernel_rfl) (yld_load1 (e := 4) (o := 1) hs 4 rfl (by kernel_rfl) (by kernel_rfl) (by rfl) .grow) ?_
       refine wpS.ps [(4, 9, .bool true), (5, 10, undef), (6, 11, undef), (7, 12, undef), (8, 13, .bool true)] (by kernel_rfl) ?_
       refine wpS.fin rfl (kr51 _ _ ?_)
       refine then_n (ks50 _ _ ?_)
       refine wp_cond_t (by kernel_rfl) ?_
       refine xseq_k fun KS52 ks52 => ?_
       refine wp_regS (l := [0]) (by kernel_rfl) (by kernel_rfl) fun KR53 kr53 => ?_
       refine wpS.p 0 4 (.slice none 0 0) (by kernel_rfl) ?_
       refine wpS.fin rfl (kr53 _ _ ?_)
       refine then_n (ks52 _ _ ?_)
       refine xret ?_
       refine then_r ?_
       have q0 := of_some h
       subst q0
       have hs := hs.addNilL (CI .u8) 5
       exact qq46 _ _ (post_ret (by kernel_rfl) (run_results [.tmp 4] [.slice none 0 0] (by kernel_rfl) (.cons (res_tmp (by kernel_rfl)) .nil)) (kI46 _ _ ⟨none, 0, 0, rfl, (hs.drop (.cons_cons _ (.cons _ (.cons_cons _ (.cons_cons _ (.cons _ (.cons_cons _ (.cons_cons _ (.cons_cons _ .slnil)))))))))⟩))
      | false =>
       have h := of_if_f h
       refine wpS.take 3 true (some 8) (.bool false) (by kernel_rfl) (yld_load1 (e := 4) (o := 1) hs 4 rfl (by kernel_rfl) (by kernel_rfl) (by rfl) .grow) ?_
       refine wpS.p 4 9 (.bool false) (by kernel_rfl) ?_
       refine wpS.take 5 true (some 10) (.agg #[.int .i64 a0_0, .int .i64 a0_1, .int .i32 a0_2, .int .i64 a0_3, .int .i32 a0_4, .int .i32 a0_5, .int .i64 a0_6, .int .i64 a0_7]) (by kernel_rfl) (yld_loadW (e := 23) (n := 8) hs 0 rfl (by kernel_rfl) (by kernel_rfl) (by kernel_rfl) (by simp [enc_len]) .grow) ?_
       obtain ⟨r25, hg, h⟩ := of_bind h
       cases r25 with
       | true =>
        have h := of_if_t h
        refine wpS.only 6 (op_call (d := (some 11)) (by kernel_rfl) hs (fun _ => by kernel_rfl) (dpack_known.ok hg _) ?_)
        intro w gw hs
        refine ⟨fun _ => trivial, ?_⟩
        refine wpS.ps [(7, 12, .bool false), (8, 13, .bool false)] (by kernel_rfl) ?_
        refine wpS.fin rfl (kr51 _ _ ?_)
        refine then_n (ks50 _ _ ?_)
        refine wp_cond_f (by kernel_rfl) ?_
        refine xskip ?_
        refine then_n (ks49 _ _ ?_)
        refine xseq_k fun KS54 ks54 => ?_
        refine wp_regS (l := [0, 1, 2, 3, 4]) (by kernel_rfl) (by kernel_rfl) fun KR55 kr55 => ?_
        refine wpS.ps [(0, 14, .pointer (some ⟨b3, 0, none⟩)), (1, 15, .pointer (some ⟨b3, 0, none⟩)), (2, 16, .pointer (some ⟨b3, 0, none⟩))] (by kernel_rfl) ?_
        refine wpS.take 3 true (some 17) (.slice s22_A s22_n s22_c) (by kernel_rfl) (yld_load1 (e := 24) (o := 0) hs 4 rfl (by kernel_rfl) (by kernel_rfl) (by rfl) .grow) ?_
        refine wpS.p 4 4 (.slice s22_A s22_n s22_c) (by kernel_rfl) ?_
        refine wpS.fin rfl (kr55 _ _ ?_)
        refine then_n (ks54 _ _ ?_)
        refine xret ?_
        have q0 := of_some h
        subst q0
        have hs := (hs.front 6 rfl).conv (L' := [.blk b1 ([.int .i64 a0_0, .int .i64 a0_1, .int .i32 a0_2, .int .i64 a0_3, .int .i32 a0_4, .int .i32 a0_5, .int .i64 a0_6, .int .i64 a0_7]) 23, .blk b24 ([.int .i64 a0_0, .int .i64 a0_1, .int .i32 a0_2, .int .i64 a0_3, .int .i32 a0_4, .int .i32 a0_5, .int .i64 a0_6, .int .i64 a0_7]) 23, .ownL (CI .u8) r19_A r19_n r19_c r19 5, .blk b6 ([.int .i32 (isub .i32 a0_4 1), .int .i32 a0_4]) 73, .ownL (CI .u8) s22_A s22_n s22_c (y12 ++ r19) 5, .blk b3 ([.slice s22_A s22_n s22_c, .bool false]) 69, .blk b2 ([.slice a1_0_A a1_0_n a1_0_c, .slice a1_1_A a1_1_n a1_1_c, .slice a1_2_A a1_2_n a1_2_c]) 31]) rfl
        have hs := (hs.front 6 rfl).conv (L' := [.blk b2 ([.slice a1_0_A a1_0_n a1_0_c, .slice a1_1_A a1_1_n a1_1_c, .slice a1_2_A a1_2_n a1_2_c]) 31, .blk b1 ([.int .i64 a0_0, .int .i64 a0_1, .int .i32 a0_2, .int .i64 a0_3, .int .i32 a0_4, .int .i32 a0_5, .int .i64 a0_6, .int .i64 a0_7]) 23, .blk b24 ([.int .i64 a0_0, .int .i64 a0_1, .int .i32 a0_2, .int .i64 a0_3, .int .i32 a0_4, .int .i32 a0_5, .int .i64 a0_6, .int .i64 a0_7]) 23, .ownL (CI .u8) r19_A r19_n r19_c r19 5, .blk b6 ([.int .i32 (isub .i32 a0_4 1), .int .i32 a0_4]) 73, .ownL (CI .u8) s22_A s22_n s22_c (y12 ++ r19) 5, .blk b3 ([.slice s22_A s22_n s22_c, .bool false]) 69]) rfl
        have hs := (hs.front 6 rfl).conv (L' := [.blk b3 ([.slice s22_A s22_n s22_c, .bool false]) 69, .blk b2 ([.slice a1_0_A a1_0_n a1_0_c, .slice a1_1_A a1_1_n a1_1_c, .slice a1_2_A a1_2_n a1_2_c]) 31, .blk b1 ([.int .i64 a0_0, .int .i64 a0_1, .int .i32 a0_2, .int .i64 a0_3, .int .i32 a0_4, .int .i32 a0_5, .int .i64 a0_6, .int .i64 a0_7]) 23, .blk b24 ([.int .i64 a0_0, .int .i64 a0_1, .int .i32 a0_2, .int .i64 a0_3, .int .i32 a0_4, .int .i32 a0_5, .int .i64 a0_6, .int .i64 a0_7]) 23, .ownL (CI .u8) r19_A r19_n r19_c r19 5, .blk b6 ([.int .i32 (isub .i32 a0_4 1), .int .i32 a0_4]) 73, .ownL (CI .u8) s22_A s22_n s22_c (y12 ++ r19) 5]) rfl
        have hs := (hs.front 5 rfl).conv (L' := [.blk b6 ([.int .i32 (isub .i32 a0_4 1), .int .i32 a0_4]) 73, .blk b3 ([.slice s22_A s22_n s22_c, .bool false]) 69, .blk b2 ([.slice a1_0_A a1_0_n a1_0_c, .slice a1_1_A a1_1_n a1_1_c, .slice a1_2_A a1_2_n a1_2_c]) 31, .blk b1 ([.int .i64 a0_0, .int .i64 a0_1, .int .i32 a0_2, .int .i64 a0_3, .int .i32 a0_4, .int .i32 a0_5, .int .i64 a0_6, .int .i64 a0_7]) 23, .blk b24 ([.int .i64 a0_0, .int .i64 a0_1, .int .i32 a0_2, .int .i64 a0_3, .int .i32 a0_4, .int .i32 a0_5, .int .i64 a0_6, .int .i64 a0_7]) 23, .ownL (CI .u8) r19_A r19_n r19_c r19 5, .ownL (CI .u8) s22_A s22_n s22_c (y12 ++ r19) 5]) rfl
        have hs := (hs.front 5 rfl).conv (L' := [.ownL (CI .u8) r19_A r19_n r19_c r19 5, .blk b6 ([.int .i32 (isub .i32 a0_4 1), .int .i32 a0_4]) 73, .blk b3 ([.slice s22_A s22_n s22_c, .bool false]) 69, .blk b2 ([.slice a1_0_A a1_0_n a1_0_c, .slice a1_1_A a1_1_n a1_1_c, .slice a1_2_A a1_2_n a1_2_c]) 31, .blk b1 ([.int .i64 a0_0, .int .i64 a0_1, .int .i32 a0_2, .int .i64 a0_3, .int .i32 a0_4, .int .i32 a0_5, .int .i64 a0_6, .int .i64 a0_7]) 23, .blk b24 ([.int .i64 a0_0, .int .i64 a0_1, .int .i32 a0_2, .int .i64 a0_3, .int .i32 a0_4, .int .i32 a0_5, .int .i64 a0_6, .int .i64 a0_7]) 23, .ownL (CI .u8) s22_A s22_n s22_c (y12 ++ r19) 5]) rfl
        have hs := (hs.front 6 rfl).conv (L' := [.ownL (CI .u8) s22_A s22_n s22_c (y12 ++ r19) 5, .ownL (CI .u8) r19_A r19_n r19_c r19 5, .blk b6 ([.int .i32 (isub .i32 a0_4 1), .int .i32 a0_4]) 73, .blk b3 ([.slice s22_A s22_n s22_c, .bool false]) 69, .blk b2 ([.slice a1_0_A a1_0_n a1_0_c, .slice a1_1_A a1_1_n a1_1_c, .slice a1_2_A a1_2_n a1_2_c]) 31, .blk b1 ([.int .i64 a0_0, .int .i64 a0_1, .int .i32 a0_2, .int .i64 a0_3, .int .i32 a0_4, .int .i32 a0_5, .int .i64 a0_6, .int .i64 a0_7]) 23, .blk b24 ([.int .i64 a0_0, .int .i64 a0_1, .int .i32 a0_2, .int .i64 a0_3, .int .i32 a0_4, .int .i32 a0_5, .int .i64 a0_6, .int .i64 a0_7]) 23]) rfl
        exact qq46 _ _ (post_ret (by kernel_rfl) (run_results [.tmp 4] [.slice s22_A s22_n s22_c] (by kernel_rfl) (.cons (res_tmp (by kernel_rfl)) .nil)) (kI46 _ _ ⟨s22_A, s22_n, s22_c, rfl, (hs.drop (.cons_cons _ (.cons_cons _ (.cons_cons _ (.cons_cons _ (.cons_cons _ (.cons_cons _ (.cons _ .slnil))))))))⟩))
       | false =>
        have h := of_if_f h
        refine wpS.only 6 (op_call (d := (some 11)) (by kernel_rfl) hs (fun _ => by kernel_rfl) (dpack_known.ok hg _) ?_)
        intro w gw hs
        refine ⟨fun _ => trivial, ?_⟩
        refine wpS.ps [(7, 12, .bool true), (8, 13, .bool true)] (by kernel_rfl) ?_
        refine wpS.fin rfl (kr51 _ _ ?_)
        refine then_n (ks50 _ _ ?_)
        refine wp_cond_t (by kernel_rfl) ?_
        refine xseq_k fun KS56 ks56 => ?_
        refine wp_regS (l := [0]) (by kernel_rfl) (by kernel_rfl) fun KR57 kr57 => ?_
        refine wpS.p 0 4 (.slice none 0 0) (by kernel_rfl) ?_
        refine wpS.fin rfl (kr57 _ _ ?_)
        refine then_n (ks56 _ _ ?_)
        refine xret ?_
        refine then_r ?_
        have q0 := of_some h
        subst q0
        have hs := hs.addNilL (CI .u8) 5
        exact qq46 _ _ (post_ret (by kernel_rfl) (run_results [.tmp 4] [.slice none 0 0] (by kernel_rfl) (.cons (res_tmp (by kernel_rfl)) .nil)) (kI46 _ _ ⟨none, 0, 0, rfl, (hs.drop (.cons_cons _ (.cons _ (.cons_cons _ (.cons_cons _ (.cons _ (.cons_cons _ (.cons_cons _ (.cons_cons _ .slnil)))))))))⟩))
     ·clear hj hs
      rintro v w ⟨y23_A, y23_n, y23_c, rfl, hs⟩
      refine ⟨fun _ => trivial, ?_⟩
      refine wpS.p 3 4 (.slice y23_A y23_n y23_c) (by kernel_rfl) ?_
      refine wpS.fin rfl (kr45 _ _ ?_)
      refine then_n (ks44 _ _ ?_)
      refine xret ?_
      have q0 := of_some h
      subst q0
      exact qq _ _ (post_ret (by kernel_rfl) (run_results [.tmp 4] [.slice y23_A y23_n y23_c] (by kernel_rfl) (.cons (res_tmp (by kernel_rfl)) .nil)) ⟨⟨y23_A, y23_n, y23_c⟩, congrArg Ending.returned (by kernel_rfl), ((hs.drop (.cons_cons _ (.cons _ (.cons _ (.cons _ (.cons _ (.cons _ .slnil))))))).pickR pick_nil)⟩)
   ·refine wpS.take 5 false (some 31) (.bool true) (by kernel_rfl) (yld_b (nt hc) (fun _ => by kernel_rfl)) ?_
    refine wpS.fin rfl (kr37 _ _ ?_)
    refine then_n (ks36 _ _ ?_)
    refine wp_cond_t (by kernel_rfl) ?_
    refine xseq_k fun KS58 ks58 => ?_
    refine wp_regS (l := [0]) (by kernel_rfl) (by kernel_rfl) fun KR59 kr59 => ?_
    refine wpS.p 0 4 (.slice none 0 0) (by kernel_rfl) ?_
    refine wpS.fin rfl (kr59 _ _ ?_)
    refine then_n (ks58 _ _ ?_)
    refine xret ?_
    refine then_r ?_
    have q0 := of_some h
    subst q0
    have hs := hs.addNilL (CI .u8) 5
    exact qq _ _ (post_ret (by kernel_rfl) (run_results [.tmp 4] [.slice none 0 0] (by kernel_rfl) (.cons (res_tmp (by kernel_rfl)) .nil)) ⟨⟨none, 0, 0⟩, congrArg Ending.returned (by kernel_rfl), ((hs.drop (.cons_cons _ (.cons _ (.cons _ (.cons _ (.cons _ (.cons _ .slnil))))))).pickR pick_nil)⟩)

theorem bits_such.ok {K : Nat} {a0 : List Int} {a1 : Int} {a2 : Int} {r0 : Bool} {a0_A : Option Addr} {a0_n : Nat} {a0_c : Nat} (h : bits_such.f K a0 a1 a2 = some r0) (w0 : World) (hp0 : RowL (CI .u8) w0 a0_A a0_n a0_c a0) : Ret Try.prog 66 #[.slice a0_A a0_n a0_c, .int .i64 a1, .int .i64 a2] w0 (.bool r0) := by
 refine calls_k Try.func66 rfl fun Q qq => ?_
 have hs := St.startR (all_cons (RowP.ent hp0) all_nil)
 refine wp_conv (a' := ⟨#[.slice a0_A a0_n a0_c, .int .i64 a1, .int .i64 a2, undef, undef, undef, undef, undef, undef, undef, undef, undef, undef, undef, undef, undef, undef, undef, undef, undef, undef, undef, undef, undef, undef, undef], []⟩) (by kernel_rfl) ?_
 refine xseq_k fun KS1 ks1 => ?_
 refine wp_regS (l := [0]) (by kernel_rfl) (by kernel_rfl) fun KR2 kr2 => ?_
 refine wpS.p 0 6 (.bool false) (by kernel_rfl) ?_
 refine wpS.fin rfl (kr2 _ _ ?_)
 refine then_n (ks1 _ _ ?_)
 refine xseq_k fun KS3 ks3 => ?_
 refine wp_regS (l := [0, 1, 2, 3, 4, 5, 6, 7, 8, 9, 10, 11, 12, 13, 14, 15, 16, 17, 18, 19]) (by kernel_rfl) (by kernel_rfl) fun KR4 kr4 => ?_
 refine wpS.p 0 7 (.int .i64 a1) (by kernel_rfl) ?_
 rcases of_if h with ⟨hc, h⟩ | ⟨hc, h⟩
 ·refine wpS.take 1 false (some 8) (.bool true) (by kernel_rfl) (yld_b (dt hc) (fun _ => by kernel_rfl)) ?_
  refine wpS.ps [(2, 9, .bool true), (3, 10, .int .i64 a1)] (by kernel_rfl) ?_
  rcases of_if h with ⟨hc, h⟩ | ⟨hc, h⟩
  ·refine wpS.take 4 false (some 11) (.bool true) (by kernel_rfl) (yld_b (dt hc) (fun _ => by kernel_rfl)) ?_
   refine wpS.ps [(5, 12, .bool true), (6, 13, .bool true), (7, 14, .int .i64 a2)] (by kernel_rfl) ?_
   rcases of_if h with ⟨hc, h⟩ | ⟨hc, h⟩
   ·refine wpS.take 8 false (some 15) (.bool true) (by kernel_rfl) (yld_b (dt hc) (fun _ => by kernel_rfl)) ?_
    refine wpS.ps [(9, 16, .bool true), (10, 17, .bool true), (11, 18, .int .i64 a2), (12, 19, .slice a0_A a0_n a0_c)] (by kernel_rfl) ?_
    refine wpS.take 13 false (some 20) (.int .i64 (a0.length : Int)) (by kernel_rfl) (yld_lenL (hs.rowR 0 rfl) (fun _ => by kernel_rfl)) ?_
    refine wpS.ps [(14, 21, .int .i64 (imul .i64 (a0.length : Int) 8)), (15, 22, .int .i64 a1)] (by kernel_rfl) ?_
    obtain ⟨h0, h⟩ := of_chk h
    refine wpS.take 16 false (some 23) (.int .i64 (iquo .i64 (imul .i64 (a0.length : Int) 8) a1)) (by kernel_rfl) (yld_quo (t := 3) (by kernel_rfl) h0) ?_
    refine wpS.ps [(17, 24, .bool (decide (a2 ≤ (iquo .i64 (imul .i64 (a0.length : Int) 8) a1)))), (18, 25, .bool (decide (a2 ≤ (iquo .i64 (imul .i64 (a0.length : Int) 8) a1)))), (19, 6, .bool (decide (a2 ≤ (iquo .i64 (imul .i64 (a0.length : Int) 8) a1))))] (by kernel_rfl) ?_
    refine wpS.fin rfl (kr4 _ _ ?_)
    refine then_n (ks3 _ _ ?_)
    refine xret ?_
    have q0 := of_some h
    subst q0
    exact qq _ _ (post_ret (by kernel_rfl) (run_results [.tmp 6] [.bool (decide (a2 ≤ (iquo .i64 (imul .i64 (a0.length : Int) 8) a1)))] (by kernel_rfl) (.cons (res_tmp (by kernel_rfl)) .nil)) ⟨congrArg Ending.returned (by kernel_rfl), hs.none⟩)
   ·refine wpS.take 8 false (some 15) (.bool false) (by kernel_rfl) (yld_b (df hc) (fun _ => by kernel_rfl)) ?_
    refine wpS.ps [(9, 16, .bool false), (10, 17, .bool false), (11, 18, undef), (12, 19, undef), (13, 20, undef), (14, 21, undef), (15, 22, undef), (16, 23, undef), (17, 24, undef), (18, 25, .bool false), (19, 6, .bool false)] (by kernel_rfl) ?_
    refine wpS.fin rfl (kr4 _ _ ?_)
    refine then_n (ks3 _ _ ?_)
    refine xret ?_
    have q0 := of_some h
    subst q0
    exact qq _ _ (post_ret (by kernel_rfl) (run_results [.tmp 6] [.bool false] (by kernel_rfl) (.cons (res_tmp (by kernel_rfl)) .nil)) ⟨congrArg Ending.returned (by kernel_rfl), hs.none⟩)
  ·refine wpS.take 4 false (some 11) (.bool false) (by kernel_rfl) (yld_b (df hc) (fun _ => by kernel_rfl)) ?_
   refine wpS.ps [(5, 12, .bool false), (6, 13, .bool false), (7, 14, undef), (8, 15, undef), (9, 16, .bool false), (10, 17, .bool false), (11, 18, undef), (12, 19, undef), (13, 20, undef), (14, 21, undef), (15, 22, undef), (16, 23, undef), (17, 24, undef), (18, 25, .bool false), (19, 6, .bool false)] (by kernel_rfl) ?_
   refine wpS.fin rfl (kr4 _ _ ?_)
   refine then_n (ks3 _ _ ?_)
   refine xret ?_
   have q0 := of_some h
   subst q0
   exact qq _ _ (post_ret (by kernel_rfl) (run_results [.tmp 6] [.bool false] (by kernel_rfl) (.cons (res_tmp (by kernel_rfl)) .nil)) ⟨congrArg Ending.returned (by kernel_rfl), hs.none⟩)
 ·refine wpS.take 1 false (some 8) (.bool false) (by kernel_rfl) (yld_b (df hc) (fun _ => by kernel_rfl)) ?_
  refine wpS.ps [(2, 9, .bool false), (3, 10, undef), (4, 11, undef), (5, 12, .bool false), (6, 13, .bool false), (7, 14, undef), (8, 15, undef), (9, 16, .bool false), (10, 17, .bool false), (11, 18, undef), (12, 19, undef), (13, 20, undef), (14, 21, undef), (15, 22, undef), (16, 23, undef), (17, 24, undef), (18, 25, .bool false), (19, 6, .bool false)] (by kernel_rfl) ?_
  refine wpS.fin rfl (kr4 _ _ ?_)
  refine then_n (ks3 _ _ ?_)
  refine xret ?_
  have q0 := of_some h
  subst q0
  exact qq _ _ (post_ret (by kernel_rfl) (run_results [.tmp 6] [.bool false] (by kernel_rfl) (.cons (res_tmp (by kernel_rfl)) .nil)) ⟨congrArg Ending.returned (by kernel_rfl), hs.none⟩)

theorem bits_Unpack.ok {K : Nat} {a0 : List Int} {a1 : Int} {a2 : Int} {r0 : List Int} {a0_A : Option Addr} {a0_n : Nat} {a0_c : Nat} (h : bits_Unpack.f K a0 a1 a2 = some r0) (w0 : World) (hp0 : RowL (CI .u8) w0 a0_A a0_n a0_c a0) : Calls Try.prog 48 #[.slice a0_A a0_n a0_c, .int .i64 a1, .int .i64 a2] w0 fun e w' => ∃ h : (Option Addr × Nat × Nat), e = .returned (.slice h.1 h.2.1 h.2.2) ∧ St w0 [] [.ownL (CI .u32) h.1 h.2.1 h.2.2 r0 84] [] w' := by
 refine calls_k Try.func48 rfl fun Q qq => ?_
 have hs := St.startR (all_cons (RowP.ent hp0) all_nil)
 refine wp_conv (a' := ⟨#[.slice a0_A a0_n a0_c, .int .i64 a1, .int .i64 a2, undef, undef, undef, undef, undef, undef, undef, undef, undef, undef, undef, undef, undef, undef, undef, undef, undef, undef, undef, undef, undef, undef, undef, undef, undef, undef, undef, undef, undef, undef, undef, undef, undef, undef, undef, undef, undef, undef, undef, undef, undef, undef, undef, undef, undef, undef, undef, undef, undef, undef, undef, undef], []⟩) (by kernel_rfl) ?_
 refine xseq_k fun KS1 ks1 => ?_
 refine wp_regS (l := [0]) (by kernel_rfl) (by kernel_rfl) fun KR2 kr2 => ?_
 refine wpS.p 0 6 (.slice none 0 0) (by kernel_rfl) ?_
 refine wpS.fin rfl (kr2 _ _ ?_)
 refine then_n (ks1 _ _ ?_)
 refine xseq_k fun KS3 ks3 => ?_
 refine xseq_k fun KS4 ks4 => ?_
 refine wp_regS (l := [0, 1, 2, 3, 4]) (by kernel_rfl) (by kernel_rfl) fun KR5 kr5 => ?_
 refine wpS.ps [(0, 11, .slice a0_A a0_n a0_c), (1, 12, .int .i64 a1), (2, 13, .int .i64 a2)] (by kernel_rfl) ?_
 obtain ⟨r1, hg, h⟩ := of_bind h
 cases r1 with
 | true =>
  have h := of_if_t h
  refine wpS.only 3 (op_call (d := (some 14)) (by kernel_rfl) hs (fun _ => by kernel_rfl) (bits_such.ok hg _ (hs.rowR 0 rfl)) ?_)
  intro w gw hs
  refine ⟨fun _ => trivial, ?_⟩
  refine wpS.p 4 15 (.bool false) (by kernel_rfl) ?_
  refine wpS.fin rfl (kr5 _ _ ?_)
  refine then_n (ks4 _ _ ?_)
  refine wp_cond_f (by kernel_rfl) ?_
  refine xskip ?_
  refine then_n (ks3 _ _ ?_)
  refine xseq_k fun KS6 ks6 => ?_
  refine wp_regS (l := [0, 1, 2]) (by kernel_rfl) (by kernel_rfl) fun KR7 kr7 => ?_
  refine wpS.p 0 16 (.int .i64 a2) (by kernel_rfl) ?_
  obtain ⟨h0, h⟩ := of_chk h
  obtain ⟨h1, h⟩ := of_chk h
  refine wpS.only 1 (op_makeT (C := (CI .u32)) (t := 82) (e := 84) (bytes := 4) (B := 35184372088832) (kl := .i64) (kc := .i64) (x := a2) (d := (some 17)) (by kernel_rfl) hs (by kernel_rfl) (by kernel_rfl) (by kernel_rfl) (by kernel_rfl) (by kernel_rfl) h0 h1 (by decide) (by decide) ?_)
  intro s2_A s2_n s2_c w gw hs
  refine ⟨fun _ => trivial, ?_⟩
  refine wpS.p 2 7 (.slice s2_A s2_n s2_c) (by kernel_rfl) ?_
  refine wpS.fin rfl (kr7 _ _ ?_)
  refine then_n (ks6 _ _ ?_)
  refine xseq_k fun KS8 ks8 => ?_
  refine wp_regS (l := [0, 1]) (by kernel_rfl) (by kernel_rfl) fun KR9 kr9 => ?_
  refine wpS.ps [(0, 8, .int .u64 0), (1, 9, .int .i64 0)] (by kernel_rfl) ?_
  refine wpS.fin rfl (kr9 _ _ ?_)
  refine then_n (ks8 _ _ ?_)
  refine xseq_k fun KS10 ks10 => ?_
  refine xseq_k fun KS11 ks11 => ?_
  refine wp_regS (l := [0, 1, 2]) (by kernel_rfl) (by kernel_rfl) fun KR12 kr12 => ?_
  refine wpS.p 0 18 (.slice s2_A s2_n s2_c) (by kernel_rfl) ?_
  refine wpS.take 1 false (some 19) (.int .i64 ((List.replicate (a2 : Int).toNat (Cod.zero (CI .u32))).length : Int)) (by kernel_rfl) (yld_lenL (hs.rowL 0 rfl) (fun _ => by kernel_rfl)) ?_
  refine wpS.p 2 20 (.int .i64 0) (by kernel_rfl) ?_
  refine wpS.fin rfl (kr12 _ _ ?_)
  refine then_n (ks11 _ _ ?_)
  obtain ⟨y8, hy, hk0⟩ := of_bind h
  refine wp_exq (N := fun a w => St w0 [] [.ownL (CI .u32) s2_A s2_n s2_c y8 84] [.rowL (CI .u8) a0_A a0_n a0_c a0] w ∧ ∃ g : Nat → Value, a = ⟨#[(g 0), .int .i64 a1, .int .i64 a2, undef, undef, undef, .slice none 0 0, .slice s2_A s2_n s2_c, (g 8), (g 9), (g 10), .slice a0_A a0_n a0_c, .int .i64 a1, .int .i64 a2, .bool true, .bool false, .int .i64 a2, .slice s2_A s2_n s2_c, .slice s2_A s2_n s2_c, .int .i64 ((List.replicate (a2 : Int).toNat (Cod.zero (CI .u32))).length : Int), (g 20), (g 21), (g 22), (g 23), (g 24), (g 25), (g 26), (g 27), (g 28), (g 29), (g 30), (g 31), (g 32), (g 33), (g 34), (g 35), (g 36), (g 37), (g 38), (g 39), (g 40), (g 41), (g 42), (g 43), (g 44), (g 45), (g 46), (g 47), (g 48), (g 49), (g 50), (g 51), (g 52), (g 53), undef], []⟩) (fun N0 nn0 => ?_) ?_
  ·clear hk0
   refine xblock ?_
   refine wp_loop_k (fun n a w => ∃ z3 z4 z5 z6 z7, ∃ (z7_A : Option Addr) (z7_n : Nat) (z7_c : Nat), bits_Unpack.l0 K n a1 a2 z3 z4 z5 z6 z7 = some y8 ∧ St w0 [] [.ownL (CI .u32) s2_A s2_n s2_c z6 84] [.rowL (CI .u8) z7_A z7_n z7_c z7, .rowL (CI .u8) a0_A a0_n a0_c a0] w ∧ ∃ g : Nat → Value, a = ⟨#[.slice z7_A z7_n z7_c, .int .i64 a1, .int .i64 a2, undef, undef, undef, .slice none 0 0, .slice s2_A s2_n s2_c, .int .u64 z3, .int .i64 z4, (g 10), .slice a0_A a0_n a0_c, .int .i64 a1, .int .i64 a2, .bool true, .bool false, .int .i64 a2, .slice s2_A s2_n s2_c, .slice s2_A s2_n s2_c, .int .i64 ((List.replicate (a2 : Int).toNat (Cod.zero (CI .u32))).length : Int), .int .i64 z5, (g 21), (g 22), (g 23), (g 24), (g 25), (g 26), (g 27), (g 28), (g 29), (g 30), (g 31), (g 32), (g 33), (g 34), (g 35), (g 36), (g 37), (g 38), (g 39), (g 40), (g 41), (g 42), (g 43), (g 44), (g 45), (g 46), (g 47), (g 48), (g 49), (g 50), (g 51), (g 52), (g 53), undef], []⟩) K ⟨0, 0, 0, (List.replicate (a2 : Int).toNat (Cod.zero (CI .u32))), a0, a0_A, a0_n, a0_c, hy, (hs.conv (L' := [.ownL (CI .u32) s2_A s2_n s2_c (List.replicate (a2 : Int).toNat (Cod.zero (CI .u32))) 84]) rfl).pickR (pick_cons 0 rfl (pick_cons 0 rfl pick_nil)), exg (by kernel_rfl)⟩ ?_
   clear hs h hy
   rintro n a w ⟨z3, z4, z5, z6, z7, z7_A, z7_n, z7_c, h, hs, g, rfl⟩ KL0 kl0
   cases n with
   | zero => exact nomatch (show none = some _ from h)
   | succ n =>
    refine xseq_k fun KS13 ks13 => ?_
    refine wp_regS (l := [0]) (by kernel_rfl) (by kernel_rfl) fun KR14 kr14 => ?_
    rcases of_if h with ⟨hc, h⟩ | ⟨hc, h⟩
    ·refine wpS.take 0 false (some 21) (.bool true) (by kernel_rfl) (yld_b (dt hc) (fun _ => by kernel_rfl)) ?_
     refine wpS.fin rfl (kr14 _ _ ?_)
     refine then_n (ks13 _ _ ?_)
     refine xseq_k fun KS15 ks15 => ?_
     refine wp_cond_t (by kernel_rfl) ?_
     refine xskip ?_
     refine then_n (ks15 _ _ ?_)
     refine xseq_k fun KS16 ks16 => ?_
     refine xblock ?_
     refine xseq_k fun KS17 ks17 => ?_
     refine wp_regS (l := [0, 1]) (by kernel_rfl) (by kernel_rfl) fun KR18 kr18 => ?_
     refine wpS.ps [(0, 22, .int .i64 z5), (1, 10, .int .i64 z5)] (by kernel_rfl) ?_
     refine wpS.fin rfl (kr18 _ _ ?_)
     refine then_n (ks17 _ _ ?_)
     refine xseq_k fun KS19 ks19 => ?_
     obtain ⟨⟨y12, y13, y14⟩, hy, hk1⟩ := of_bind h
     refine wp_exq (N := fun a w => ∃ (y14_A : Option Addr) (y14_n : Nat) (y14_c : Nat), St w0 [] [.ownL (CI .u32) s2_A s2_n s2_c z6 84] [.rowL (CI .u8) y14_A y14_n y14_c y14, .rowL (CI .u8) z7_A z7_n z7_c z7, .rowL (CI .u8) a0_A a0_n a0_c a0] w ∧ ∃ g : Nat → Value, a = ⟨#[.slice y14_A y14_n y14_c, .int .i64 a1, .int .i64 a2, undef, undef, undef, .slice none 0 0, .slice s2_A s2_n s2_c, .int .u64 y12, .int .i64 y13, .int .i64 z5, .slice a0_A a0_n a0_c, .int .i64 a1, .int .i64 a2, .bool true, .bool false, .int .i64 a2, .slice s2_A s2_n s2_c, .slice s2_A s2_n s2_c, .int .i64 ((List.replicate (a2 : Int).toNat (Cod.zero (CI .u32))).length : Int), .int .i64 z5, .bool true, .int .i64 z5, (g 23), (g 24), (g 25), (g 26), (g 27), (g 28), (g 29), (g 30), (g 31), (g 32), (g 33), (g 34), (g 35), (g 36), (g 37), (g 38), (g 39), (g 40), (g 41), (g 42), (g 43), (g 44), (g 45), (g 46), (g 47), (g 48), (g 49), (g 50), (g 51), (g 52), (g 53), undef], []⟩) (fun N1 nn1 => ?_) ?_
     ·clear hk1
      refine xblock ?_
      refine wp_loop_k (fun n a w => ∃ z9 z10 z11, ∃ (z11_A : Option Addr) (z11_n : Nat) (z11_c : Nat), bits_Unpack.l1 K n a1 z9 z10 z11 = some (y12, y13, y14) ∧ St w0 [] [.ownL (CI .u32) s2_A s2_n s2_c z6 84] [.rowL (CI .u8) z11_A z11_n z11_c z11, .rowL (CI .u8) z7_A z7_n z7_c z7, .rowL (CI .u8) a0_A a0_n a0_c a0] w ∧ ∃ g : Nat → Value, a = ⟨#[.slice z11_A z11_n z11_c, .int .i64 a1, .int .i64 a2, undef, undef, undef, .slice none 0 0, .slice s2_A s2_n s2_c, .int .u64 z9, .int .i64 z10, .int .i64 z5, .slice a0_A a0_n a0_c, .int .i64 a1, .int .i64 a2, .bool true, .bool false, .int .i64 a2, .slice s2_A s2_n s2_c, .slice s2_A s2_n s2_c, .int .i64 ((List.replicate (a2 : Int).toNat (Cod.zero (CI .u32))).length : Int), .int .i64 z5, .bool true, .int .i64 z5, (g 23), (g 24), (g 25), (g 26), (g 27), (g 28), (g 29), (g 30), (g 31), (g 32), (g 33), (g 34), (g 35), (g 36), (g 37), (g 38), (g 39), (g 40), (g 41), (g 42), (g 43), (g 44), (g 45), (g 46), (g 47), (g 48), (g 49), (g 50), (g 51), (g 52), (g 53), undef], []⟩) K ⟨z3, z4, z7, z7_A, z7_n, z7_c, hy, (hs.conv (L' := [.ownL (CI .u32) s2_A s2_n s2_c z6 84]) rfl).pickR (pick_cons 0 rfl (pick_cons 0 rfl (pick_cons 1 rfl pick_nil))), exg (by kernel_rfl)⟩ ?_
      clear hs h hy
      rintro n a w ⟨z9, z10, z11, z11_A, z11_n, z11_c, h, hs, g, rfl⟩ KL1 kl1
      cases n with
      | zero => exact nomatch (show none = some _ from h)
      | succ n =>
       refine xseq_k fun KS20 ks20 => ?_
       refine xseq_k fun KS21 ks21 => ?_
       refine wp_regS (l := [0, 1, 2]) (by kernel_rfl) (by kernel_rfl) fun KR22 kr22 => ?_
       refine wpS.ps [(0, 23, .int .i64 z10), (1, 24, .int .i64 a1)] (by kernel_rfl) ?_
       rcases of_if h with ⟨hc, h⟩ | ⟨hc, h⟩
       ·refine wpS.take 2 false (some 25) (.bool true) (by kernel_rfl) (yld_b (dt hc) (fun _ => by kernel_rfl)) ?_
        refine wpS.fin rfl (kr22 _ _ ?_)
        refine then_n (ks21 _ _ ?_)
        refine wp_cond_t (by kernel_rfl) ?_
        refine xskip ?_
        refine then_n (ks20 _ _ ?_)
        refine xblock ?_
        refine wp_regG [] (fun k => True) 15 (by kernel_rfl) (by kernel_rfl) (by kernel_rfl) fun KR23 kr23 => ?_
        have hs := hs.drawn1
        refine wpG.p 0 26 (.int .u64 z9) (by kernel_rfl) (by kernel_rfl) ?_
        refine wpG.takeD 1 false (some 27) (.slice z11_A z11_n z11_c) (by kernel_rfl) (by kernel_rfl) (yld fun _ => by kernel_rfl) ?_
        obtain ⟨h0, h⟩ := of_chk h
        obtain ⟨h1, h⟩ := of_chk h
        have i0_24 := h0
        have i1_24 := h1
        refine wpG.takeD 2 false (some 28) (.pointer (adr z11_A ((0 : Int).toNat * Cod.size (CI .u8)))) (by kernel_rfl) (by kernel_rfl) (yld_idxL (C := (CI .u8)) (t := 24) (e := 5) (k := .i64) (x := 0) (hs.rowR 0 rfl) (by kernel_rfl) (by kernel_rfl) (by kernel_rfl) h0 h1) ?_
        refine wpG.takeD 3 true (some 29) (.int .u8 (rdL (CI .u8) z11 0)) (by kernel_rfl) (by kernel_rfl) (yld_loadL (C := (CI .u8)) (e := 5) (x := 0) (hs.rowR 0 rfl) (by kernel_rfl) rfl (by kernel_rfl) i0_24 i1_24) ?_
        refine wpG.takeD 4 false (some 30) (.int .u64 (iconv .u64 (rdL (CI .u8) z11 0))) (by kernel_rfl) (by kernel_rfl) (yld fun _ => by kernel_rfl) ?_
        refine wpG.takeD 5 false (some 31) (.int .i64 z10) (by kernel_rfl) (by kernel_rfl) (yld fun _ => by kernel_rfl) ?_
        obtain ⟨h0, h⟩ := of_chk h
        refine wpG.takeD 6 false (some 32) (.int .u64 (ishl .u64 (iconv .u64 (rdL (CI .u8) z11 0)) z10)) (by kernel_rfl) (by kernel_rfl) (yld_shl (t := 104) (k' := .i64) (by kernel_rfl) h0) ?_
        refine wpG.p 7 33 (.int .u64 (ior .u64 z9 (ishl .u64 (iconv .u64 (rdL (CI .u8) z11 0)) z10))) (by kernel_rfl) (by kernel_rfl) ?_
        refine wpG.p 8 34 (.int .i64 z10) (by kernel_rfl) (by kernel_rfl) ?_
        refine wpG.p 9 35 (.int .i64 (iadd .i64 z10 8)) (by kernel_rfl) (by kernel_rfl) ?_
        refine wpG.p 10 36 (.slice z11_A z11_n z11_c) (by kernel_rfl) (by kernel_rfl) ?_
        obtain ⟨h0, h⟩ := of_chk h
        obtain ⟨h1, h⟩ := of_chk h
        obtain ⟨h2, h⟩ := of_chk h
        obtain ⟨s15_A, hA⟩ : ∃ A, A = if z11_c = (1 : Int).toNat then z11_A else adr z11_A ((1 : Int).toNat * Cod.size (CI .u8)) := ⟨_, rfl⟩
        obtain ⟨s15_n, hn⟩ : ∃ n, n = ((z11.length : Int) : Int).toNat - (1 : Int).toNat := ⟨_, rfl⟩
        obtain ⟨s15_c, hc⟩ : ∃ c, c = z11_c - (1 : Int).toNat := ⟨_, rfl⟩
        refine wpG.takeD 11 false (some 37) (.slice s15_A s15_n s15_c) (by kernel_rfl) (by kernel_rfl) (yld_sub (C := (CI .u8)) (t := 24) (e := 5) (low := some (.int .i64 1)) (high := none) (lo := 1) (hi := (z11.length : Int)) (hs.rowR 0 rfl) (by kernel_rfl) (by kernel_rfl) (by kernel_rfl) (.inr ⟨_, rfl⟩) (.inl ⟨rfl, rfl⟩) h0 h1 h2 hA hn hc) ?_
        have hs := hs.addSub (C := (CI .u8)) 0 rfl h0 h1 h2 hA hn hc
        obtain ⟨x16, hx, h⟩ := of_bind h
        refine wpG.takeD 12 false (some 8) (.int .u64 x16) (by kernel_rfl) (by kernel_rfl) (yld_int hx (fun _ => by kernel_rfl)) ?_
        obtain ⟨x17, hx, h⟩ := of_bind h
        refine wpG.takeD 13 false (some 9) (.int .i64 x17) (by kernel_rfl) (by kernel_rfl) (yld_int hx (fun _ => by kernel_rfl)) ?_
        refine wpG.p 14 0 (.slice s15_A s15_n s15_c) (by kernel_rfl) (by kernel_rfl) ?_
        refine wpG.fin (by kernel_rfl) rfl (kr23 _ _ ?_)
        refine inBlock_n ?_
        exact then_n (kl1 _ _ ⟨n, Nat.lt_succ_self n, x16, x17, (subL z11 1 (z11.length : Int)), s15_A, s15_n, s15_c, h, (hs.pickR (pick_cons 0 rfl (pick_cons 2 rfl (pick_cons 3 rfl pick_nil)))), exg (by kernel_rfl)⟩)
       ·refine wpS.take 2 false (some 25) (.bool false) (by kernel_rfl) (yld_b (df hc) (fun _ => by kernel_rfl)) ?_
        refine wpS.fin rfl (kr22 _ _ ?_)
        refine then_n (ks21 _ _ ?_)
        refine wp_cond_f (by kernel_rfl) ?_
        refine xexit ?_
        refine then_x ?_
        refine then_x ?_
        refine inBlock_hit ?_
        obtain ⟨q0, qr0⟩ := Prod.mk.inj (of_some h)
        obtain ⟨q1, qr1⟩ := Prod.mk.inj (qr0)
        have q2 := qr1
        subst q0
        subst q1
        subst q2
        exact exq_n (nn1 _ _ ⟨z11_A, z11_n, z11_c, (hs.conv rfl), exg (by kernel_rfl)⟩)
     ·clear hs h hy
      rintro a w ⟨y14_A, y14_n, y14_c, hs, g, rfl⟩
      have h := hk1
      refine then_n (ks19 _ _ ?_)
      refine xseq_k fun KS25 ks25 => ?_
      refine wp_regS (l := [0, 1, 2, 3, 4, 5, 6, 7, 8, 9]) (by kernel_rfl) (by kernel_rfl) fun KR26 kr26 => ?_
      refine wpS.ps [(0, 38, .slice s2_A s2_n s2_c), (1, 39, .int .i64 z5), (2, 40, .int .u64 y12), (3, 41, .int .i64 a1)] (by kernel_rfl) ?_
      obtain ⟨h0, h⟩ := of_chk h
      refine wpS.take 4 false (some 42) (.int .u64 (ishl .u64 1 a1)) (by kernel_rfl) (yld_shl (t := 104) (k' := .i64) (by kernel_rfl) h0) ?_
      refine wpS.ps [(5, 43, .int .u64 (isub .u64 (ishl .u64 1 a1) 1)), (6, 44, .int .u64 (iand .u64 y12 (isub .u64 (ishl .u64 1 a1) 1))), (7, 45, .int .u32 (iconv .u32 (iand .u64 y12 (isub .u64 (ishl .u64 1 a1) 1))))] (by kernel_rfl) ?_
      obtain ⟨h0, h⟩ := of_chk h
      obtain ⟨h1, h⟩ := of_chk h
      have i0_27 := h0
      have i1_27 := h1
      refine wpS.take 8 false (some 46) (.pointer (adr s2_A ((z5 : Int).toNat * Cod.size (CI .u32)))) (by kernel_rfl) (yld_idxL (C := (CI .u32)) (t := 82) (e := 84) (k := .i64) (x := z5) (hs.rowL 0 rfl) (by kernel_rfl) (by kernel_rfl) (by kernel_rfl) h0 h1) ?_
      obtain ⟨x18, hx, h⟩ := of_bind h
      refine wpS.only 9 (op_storeL (C := (CI .u32)) (t := 84) (x := z5) (v := x18) (d := none) (by kernel_rfl) hs 0 rfl (by cases hx; kernel_rfl) (by kernel_rfl) i0_27 i1_27 ?_)
      intro w hs
      refine ⟨fun _ => trivial, ?_⟩
      refine wpS.fin rfl (kr26 _ _ ?_)
      refine then_n (ks25 _ _ ?_)
      refine xseq_k fun KS28 ks28 => ?_
      refine wp_regS (l := [0, 1, 2, 3]) (by kernel_rfl) (by kernel_rfl) fun KR29 kr29 => ?_
      refine wpS.ps [(0, 47, .int .u64 y12), (1, 48, .int .i64 a1)] (by kernel_rfl) ?_
      obtain ⟨h0, h⟩ := of_chk h
      refine wpS.take 2 false (some 49) (.int .u64 (ishr .u64 y12 a1)) (by kernel_rfl) (yld_shr (t := 104) (k' := .i64) (by kernel_rfl) h0) ?_
      obtain ⟨x19, hx, h⟩ := of_bind h
      refine wpS.take 3 false (some 8) (.int .u64 x19) (by kernel_rfl) (yld_int hx (fun _ => by kernel_rfl)) ?_
      refine wpS.fin rfl (kr29 _ _ ?_)
      refine then_n (ks28 _ _ ?_)
      refine wp_regS (l := [0, 1, 2, 3]) (by kernel_rfl) (by kernel_rfl) fun KR30 kr30 => ?_
      refine wpS.ps [(0, 50, .int .i64 y13), (1, 51, .int .i64 a1), (2, 52, .int .i64 (isub .i64 y13 a1))] (by kernel_rfl) ?_
      obtain ⟨x20, hx, h⟩ := of_bind h
      refine wpS.take 3 false (some 9) (.int .i64 x20) (by kernel_rfl) (yld_int hx (fun _ => by kernel_rfl)) ?_
      refine wpS.fin rfl (kr30 _ _ ?_)
      refine inBlock_n ?_
      refine then_n (ks16 _ _ ?_)
      refine wp_regS (l := [0, 1]) (by kernel_rfl) (by kernel_rfl) fun KR31 kr31 => ?_
      refine wpS.ps [(0, 53, .int .i64 (iadd .i64 z5 1)), (1, 20, .int .i64 (iadd .i64 z5 1))] (by kernel_rfl) ?_
      refine wpS.fin rfl (kr31 _ _ ?_)
      exact then_n (kl0 _ _ ⟨n, Nat.lt_succ_self n, x19, x20, (iadd .i64 z5 1), (wrL z6 z5 x18), y14, y14_A, y14_n, y14_c, h, (hs.pickR (pick_cons 0 rfl (pick_cons 2 rfl pick_nil))), exg (by kernel_rfl)⟩)
    ·refine wpS.take 0 false (some 21) (.bool false) (by kernel_rfl) (yld_b (df hc) (fun _ => by kernel_rfl)) ?_
     refine wpS.fin rfl (kr14 _ _ ?_)
     refine then_n (ks13 _ _ ?_)
     refine xseq_k fun KS32 ks32 => ?_
     refine wp_cond_f (by kernel_rfl) ?_
     refine xexit ?_
     refine then_x ?_
     refine then_x ?_
     refine inBlock_hit ?_
     have q0 := of_some h
     subst q0
     exact exq_n (nn0 _ _ ⟨(hs.pickR (pick_cons 1 rfl pick_nil)), exg (by kernel_rfl)⟩)
  ·clear hs h hy
   rintro a w ⟨hs, g, rfl⟩
   have h := hk0
   refine then_n (ks10 _ _ ?_)
   refine xseq_k fun KS33 ks33 => ?_
   refine wp_regS (l := [0, 1]) (by kernel_rfl) (by kernel_rfl) fun KR34 kr34 => ?_
   refine wpS.ps [(0, 54, .slice s2_A s2_n s2_c), (1, 6, .slice s2_A s2_n s2_c)] (by kernel_rfl) ?_
   refine wpS.fin rfl (kr34 _ _ ?_)
   refine then_n (ks33 _ _ ?_)
   refine xret ?_
   have q0 := of_some h
   subst q0
   exact qq _ _ (post_ret (by kernel_rfl) (run_results [.tmp 6] [.slice s2_A s2_n s2_c] (by kernel_rfl) (.cons (res_tmp (by kernel_rfl)) .nil)) ⟨⟨s2_A, s2_n, s2_c⟩, congrArg Ending.returned (by kernel_rfl), (hs.pickR pick_nil)⟩)
 | false =>
  have h := of_if_f h
  refine wpS.only 3 (op_call (d := (some 14)) (by kernel_rfl) hs (fun _ => by kernel_rfl) (bits_such.ok hg _ (hs.rowR 0 rfl)) ?_)
  intro w gw hs
  refine ⟨fun _ => trivial, ?_⟩
  refine wpS.p 4 15 (.bool true) (by kernel_rfl) ?_
  refine wpS.fin rfl (kr5 _ _ ?_)
  refine then_n (ks4 _ _ ?_)
  refine wp_cond_t (by kernel_rfl) ?_
  refine xseq_k fun KS35 ks35 => ?_
  refine wp_regS (l := [0]) (by kernel_rfl) (by kernel_rfl) fun KR36 kr36 => ?_
  refine wpS.p 0 6 (.slice none 0 0) (by kernel_rfl) ?_
  refine wpS.fin rfl (kr36 _ _ ?_)
  refine then_n (ks35 _ _ ?_)
  refine xret ?_
  refine then_r ?_
  have q0 := of_some h
  subst q0
  have hs := hs.addNilL (CI .u32) 84
  exact qq _ _ (post_ret (by kernel_rfl) (run_results [.tmp 6] [.slice none 0 0] (by kernel_rfl) (.cons (res_tmp (by kernel_rfl)) .nil)) ⟨⟨none, 0, 0⟩, congrArg Ending.returned (by kernel_rfl), (hs.pickR pick_nil)⟩)

theorem dpack_span_back.ok {K : Nat} {a0_0 : Int} {a0_1 : Int} {a1 : Int} {r0 : Int} (h : dpack_span_back.f K a0_0 a0_1 a1 = some r0) (w0 : World) : Ret Try.prog 51 #[.agg #[.int .i32 a0_0, .int .i32 a0_1], .int .u32 a1] w0 (.int .i32 r0) := by
 refine calls_k Try.func51 rfl fun Q qq => ?_
 have hs := St.start w0
 refine wp_conv (a' := ⟨#[.agg #[.int .i32 a0_0, .int .i32 a0_1], .int .u32 a1, undef, undef, undef, undef, undef, undef, undef, undef, undef, undef, undef, undef, undef, undef, undef, undef, undef, undef, undef, undef, undef], []⟩) (by kernel_rfl) ?_
 refine xseq_k fun KS1 ks1 => ?_
 refine wp_regS (l := [0, 1]) (by kernel_rfl) (by kernel_rfl) fun KR2 kr2 => ?_
 refine wpS.only 0 (op_box (t := 73) (v := .agg #[.int .i32 a0_0, .int .i32 a0_1]) (d := (some 2)) (by kernel_rfl) hs ([.int .i32 a0_0, .int .i32 a0_1]) (by kernel_rfl) (by kernel_rfl) ?_)
 intro b1 w gw hs
 refine ⟨fun _ => trivial, ?_⟩
 refine wpS.p 1 4 (.int .i32 0) (by kernel_rfl) ?_
 refine wpS.fin rfl (kr2 _ _ ?_)
 refine then_n (ks1 _ _ ?_)
 refine xseq_k fun KS3 ks3 => ?_
 refine wp_regS (l := [0, 1, 2, 3, 4, 5]) (by kernel_rfl) (by kernel_rfl) fun KR4 kr4 => ?_
 refine wpS.p 0 6 (.pointer (some ⟨b1, 1, none⟩)) (by kernel_rfl) ?_
 refine wpS.take 1 true (some 7) (.int .i32 a0_1) (by kernel_rfl) (yld_load1 (e := 21) (o := 1) hs 0 rfl (by kernel_rfl) (by kernel_rfl) (by rfl) .grow) ?_
 refine wpS.ps [(2, 8, .int .u32 a1), (3, 9, .int .i32 (iconv .i32 a1)), (4, 10, .int .i32 (isub .i32 a0_1 (iconv .i32 a1)))] (by kernel_rfl) ?_
 obtain ⟨x2, hx, h⟩ := of_bind h
 refine wpS.take 5 false (some 5) (.int .i32 x2) (by kernel_rfl) (yld_int hx (fun _ => by kernel_rfl)) ?_
 refine wpS.fin rfl (kr4 _ _ ?_)
 refine then_n (ks3 _ _ ?_)
 refine xblock ?_
 refine xseq_k fun KS5 ks5 => ?_
 refine wp_regS (l := [0, 1, 2, 3]) (by kernel_rfl) (by kernel_rfl) fun KR6 kr6 => ?_
 refine wpS.p 0 13 (.pointer (some ⟨b1, 0, none⟩)) (by kernel_rfl) ?_
 refine wpS.take 1 true (some 14) (.int .i32 a0_0) (by kernel_rfl) (yld_load1 (e := 21) (o := 0) hs 0 rfl (by kernel_rfl) (by kernel_rfl) (by rfl) .grow) ?_
 rcases of_if h with ⟨hc, h⟩ | ⟨hc, h⟩
 ·refine wpS.take 2 false (some 15) (.bool true) (by kernel_rfl) (yld_b (dt hc) (fun _ => by kernel_rfl)) ?_
  refine wpS.p 3 12 (.bool true) (by kernel_rfl) ?_
  refine wpS.fin rfl (kr6 _ _ ?_)
  refine then_n (ks5 _ _ ?_)
  refine wp_cond_t (by kernel_rfl) ?_
  refine xseq_k fun KS7 ks7 => ?_
  refine wp_regS (l := [0, 1, 2]) (by kernel_rfl) (by kernel_rfl) fun KR8 kr8 => ?_
  refine wpS.ps [(0, 16, .int .u32 a1), (1, 17, .int .i32 (iconv .i32 a1))] (by kernel_rfl) ?_
  obtain ⟨x3, hx, h⟩ := of_bind h
  refine wpS.take 2 false (some 4) (.int .i32 x3) (by kernel_rfl) (yld_int hx (fun _ => by kernel_rfl)) ?_
  refine wpS.fin rfl (kr8 _ _ ?_)
  refine then_n (ks7 _ _ ?_)
  refine xret ?_
  refine inBlock_r ?_
  have q0 := of_some h
  subst q0
  exact qq _ _ (post_ret (by kernel_rfl) (run_results [.tmp 4] [.int .i32 x3] (by kernel_rfl) (.cons (res_tmp (by kernel_rfl)) .nil)) ⟨congrArg Ending.returned (by kernel_rfl), hs.none⟩)
 ·refine wpS.take 2 false (some 15) (.bool false) (by kernel_rfl) (yld_b (df hc) (fun _ => by kernel_rfl)) ?_
  refine wpS.p 3 12 (.bool false) (by kernel_rfl) ?_
  refine wpS.fin rfl (kr6 _ _ ?_)
  refine then_n (ks5 _ _ ?_)
  refine wp_cond_f (by kernel_rfl) ?_
  refine xseq_k fun KS9 ks9 => ?_
  refine wp_regS (l := [0, 1, 2]) (by kernel_rfl) (by kernel_rfl) fun KR10 kr10 => ?_
  refine wpS.p 0 19 (.int .i32 x2) (by kernel_rfl) ?_
  rcases of_if h with ⟨hc, h⟩ | ⟨hc, h⟩
  ·refine wpS.take 1 false (some 20) (.bool true) (by kernel_rfl) (yld_b (dt hc) (fun _ => by kernel_rfl)) ?_
   refine wpS.p 2 18 (.bool true) (by kernel_rfl) ?_
   refine wpS.fin rfl (kr10 _ _ ?_)
   refine then_n (ks9 _ _ ?_)
   refine wp_cond_t (by kernel_rfl) ?_
   refine xseq_k fun KS11 ks11 => ?_
   refine wp_regS (l := [0, 1, 2]) (by kernel_rfl) (by kernel_rfl) fun KR12 kr12 => ?_
   refine wpS.ps [(0, 21, .int .i32 x2), (1, 22, .int .i32 (iadd .i32 x2 8380417))] (by kernel_rfl) ?_
   obtain ⟨x4, hx, h⟩ := of_bind h
   refine wpS.take 2 false (some 4) (.int .i32 x4) (by kernel_rfl) (yld_int hx (fun _ => by kernel_rfl)) ?_
   refine wpS.fin rfl (kr12 _ _ ?_)
   refine then_n (ks11 _ _ ?_)
   refine xret ?_
   refine inBlock_r ?_
   have q0 := of_some h
   subst q0
   exact qq _ _ (post_ret (by kernel_rfl) (run_results [.tmp 4] [.int .i32 x4] (by kernel_rfl) (.cons (res_tmp (by kernel_rfl)) .nil)) ⟨congrArg Ending.returned (by kernel_rfl), hs.none⟩)
  ·refine wpS.take 1 false (some 20) (.bool false) (by kernel_rfl) (yld_b (df hc) (fun _ => by kernel_rfl)) ?_
   refine wpS.p 2 18 (.bool false) (by kernel_rfl) ?_
   refine wpS.fin rfl (kr10 _ _ ?_)
   refine then_n (ks9 _ _ ?_)
   refine wp_cond_f (by kernel_rfl) ?_
   refine xseq_k fun KS13 ks13 => ?_
   refine wp_regS (l := [0, 1]) (by kernel_rfl) (by kernel_rfl) fun KR14 kr14 => ?_
   refine wpS.ps [(0, 11, .int .i32 x2), (1, 4, .int .i32 x2)] (by kernel_rfl) ?_
   refine wpS.fin rfl (kr14 _ _ ?_)
   refine then_n (ks13 _ _ ?_)
   refine xret ?_
   refine inBlock_r ?_
   have q0 := of_some h
   subst q0
   exact qq _ _ (post_ret (by kernel_rfl) (run_results [.tmp 4] [.int .i32 x2] (by kernel_rfl) (.cons (res_tmp (by kernel_rfl)) .nil)) ⟨congrArg Ending.returned (by kernel_rfl), hs.none⟩)
end Go.Proofs.Ytblploekkjeolaa
