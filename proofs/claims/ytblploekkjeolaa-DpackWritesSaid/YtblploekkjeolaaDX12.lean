/- Printed by this work's own program: the code of each function below comes to the answer that its plain form tells. -/
import Derived.Test.YtblploekkjeolaaMj
import Derived.Test.YtblploekkjeolaaProg
import Derived.Test.YtblploekkjeolaaDF0
import Derived.Test.YtblploekkjeolaaDX0
import Derived.Test.YtblploekkjeolaaDX1
import Derived.Test.YtblploekkjeolaaDX2
import Derived.Test.YtblploekkjeolaaDX3
import Derived.Test.YtblploekkjeolaaDX5
import Derived.Test.YtblploekkjeolaaDX6
import Derived.Test.YtblploekkjeolaaDX7
import Derived.Test.YtblploekkjeolaaDX8
import Derived.Test.YtblploekkjeolaaDX9
set_option linter.unusedVariables false
set_option linter.unusedSimpArgs false
set_option maxRecDepth 100000
set_option maxHeartbeats 4000000
namespace Go.Proofs.Ytblploekkjeolaa
open Go.Mx
attribute [local irreducible] wpOp

theorem dpack_Sig.ok {K : Nat} {a0_0 : Int} {a0_1 : Int} {a0_2 : Int} {a0_3 : Int} {a0_4 : Int} {a0_5 : Int} {a0_6 : Int} {a0_7 : Int} {a1_0 : List Int} {a1_1 : List (Arr 256)} {a1_2 : List (Arr 256)} {r0 : List Int} {a1_0_A : Option Addr} {a1_0_n : Nat} {a1_0_c : Nat} {a1_1_A : Option Addr} {a1_1_n : Nat} {a1_1_c : Nat} {a1_2_A : Option Addr} {a1_2_n : Nat} {a1_2_c : Nat} (h : dpack_Sig.f K a0_0 a0_1 a0_2 a0_3 a0_4 a0_5 a0_6 a0_7 a1_0 a1_1 a1_2 = some r0) (w0 : World) (hp1_0 : RowL (CI .u8) w0 a1_0_A a1_0_n a1_0_c a1_0) (hp1_1 : RowL (CA .i32 256 (by decide)) w0 a1_1_A a1_1_n a1_1_c a1_1) (hp1_2 : RowL (CA .i32 256 (by decide)) w0 a1_2_A a1_2_n a1_2_c a1_2) : Calls Try.prog 14 #[.agg #[.int .i64 a0_0, .int .i64 a0_1, .int .i32 a0_2, .int .i64 a0_3, .int .i32 a0_4, .int .i32 a0_5, .int .i64 a0_6, .int .i64 a0_7], .agg #[.slice a1_0_A a1_0_n a1_0_c, .slice a1_1_A a1_1_n a1_1_c, .slice a1_2_A a1_2_n a1_2_c]] w0 fun e w' => ∃ h : (Option Addr × Nat × Nat), e = .returned (.slice h.1 h.2.1 h.2.2) ∧ St w0 [] [.ownL (CI .u8) h.1 h.2.1 h.2.2 r0 5] [] w' := by
  refine calls_k Try.func14 rfl fun Q qq => ?_
  have hs := St.startR (all_cons (RowP.ent hp1_0) (all_cons (RowP.ent hp1_1) (all_cons (RowP.ent hp1_2) all_nil)))
  refine wp_conv (a' := ⟨#[.agg #[.int .i64 a0_0, .int .i64 a0_1, .int .i32 a0_2, .int .i64 a0_3, .int .i32 a0_4, .int .i32 a0_5, .int .i64 a0_6, .int .i64 a0_7], .agg #[.slice a1_0_A a1_0_n a1_0_c, .slice a1_1_A a1_1_n a1_1_c, .slice a1_2_A a1_2_n a1_2_c], undef, undef, undef, undef, undef, undef, undef, undef, undef, undef, undef, undef, undef, undef, undef, undef, undef, undef, undef, undef, undef, undef, undef, undef, undef, undef, undef, undef, undef, undef, undef, undef, undef, undef, undef, undef, undef, undef, undef, undef, undef, undef, undef, undef, undef], []⟩) (by kernel_rfl) ?_
  refine xseq_k fun KS1 ks1 => ?_
  refine wp_regS (l := [0, 1, 2]) (by kernel_rfl) (by kernel_rfl) fun KR2 kr2 => ?_
  refine wpS.only 0 (op_box (t := 23) (v := .agg #[.int .i64 a0_0, .int .i64 a0_1, .int .i32 a0_2, .int .i64 a0_3, .int .i32 a0_4, .int .i32 a0_5, .int .i64 a0_6, .int .i64 a0_7]) (d := (some 2)) (by kernel_rfl) hs ([.int .i64 a0_0, .int .i64 a0_1, .int .i32 a0_2, .int .i64 a0_3, .int .i32 a0_4, .int .i32 a0_5, .int .i64 a0_6, .int .i64 a0_7]) (by kernel_rfl) (by kernel_rfl) ?_)
  intro b1 w gw hs
  refine ⟨fun _ => trivial, ?_⟩
  refine wpS.only 1 (op_box (t := 31) (v := .agg #[.slice a1_0_A a1_0_n a1_0_c, .slice a1_1_A a1_1_n a1_1_c, .slice a1_2_A a1_2_n a1_2_c]) (d := (some 3)) (by kernel_rfl) hs ([.slice a1_0_A a1_0_n a1_0_c, .slice a1_1_A a1_1_n a1_1_c, .slice a1_2_A a1_2_n a1_2_c]) (by kernel_rfl) (by kernel_rfl) ?_)
  intro b2 w gw hs
  refine ⟨fun _ => trivial, ?_⟩
  refine wpS.take 2 false (some 4) (.slice none 0 0) (by kernel_rfl) (yld fun _ => by kernel_rfl) ?_
  refine wpS.fin rfl (kr2 _ _ ?_)
  refine then_n (ks1 _ _ ?_)
  refine xseq_k fun KS3 ks3 => ?_
  refine wp_regS (l := [0, 1, 2]) (by kernel_rfl) (by kernel_rfl) fun KR4 kr4 => ?_
  refine wpS.take 0 false (some 6) (.agg #[.slice none 0 0, .bool false]) (by kernel_rfl) (yld fun _ => by kernel_rfl) ?_
  refine wpS.only 1 (op_box (t := 69) (v := .agg #[.slice none 0 0, .bool false]) (d := (some 7)) (by kernel_rfl) hs ([.slice none 0 0, .bool false]) (by kernel_rfl) (by kernel_rfl) ?_)
  intro b3 w gw hs
  refine ⟨fun _ => trivial, ?_⟩
  refine wpS.take 2 false (some 5) (.pointer (some ⟨b3, 0, none⟩)) (by kernel_rfl) (yld fun _ => by kernel_rfl) ?_
  refine wpS.fin rfl (kr4 _ _ ?_)
  refine then_n (ks3 _ _ ?_)
  refine xseq_k fun KS5 ks5 => ?_
  refine wp_regS (l := [0, 1, 2, 3, 4, 5]) (by kernel_rfl) (by kernel_rfl) fun KR6 kr6 => ?_
  refine wpS.take 0 false (some 8) (.pointer (some ⟨b3, 0, none⟩)) (by kernel_rfl) (yld fun _ => by kernel_rfl) ?_
  refine wpS.take 1 false (some 9) (.pointer (some ⟨b2, 0, none⟩)) (by kernel_rfl) (yld fun _ => by kernel_rfl) ?_
  refine wpS.take 2 true (some 10) (.slice a1_0_A a1_0_n a1_0_c) (by kernel_rfl) (yld_load1 (e := 24) (o := 0) hs 1 rfl (by kernel_rfl) (by kernel_rfl) (by rfl) .grow) ?_
  refine wpS.take 3 false (some 11) (.pointer (some ⟨b1, 7, none⟩)) (by kernel_rfl) (yld fun _ => by kernel_rfl) ?_
  refine wpS.take 4 true (some 12) (.int .i64 a0_7) (by kernel_rfl) (yld_load1 (e := 3) (o := 7) hs 2 rfl (by kernel_rfl) (by kernel_rfl) (by rfl) .grow) ?_
  refine wpS.only 5 (op_inline (d := (some 13)) (f := 38) (args := #[.pointer (some ⟨b3, 0, none⟩), .slice a1_0_A a1_0_n a1_0_c, .int .i64 a0_7]) (by kernel_rfl) (fun _ => by kernel_rfl) fun R7 kI7 => ?_)
  refine calls_kn Try.func38 rfl fun Q7 qq7 qn7 => ?_
  refine wp_conv (a' := ⟨#[.pointer (some ⟨b3, 0, none⟩), .slice a1_0_A a1_0_n a1_0_c, .int .i64 a0_7, undef, undef, undef, undef, undef, undef, undef, undef, undef, undef, undef, undef, undef, undef, undef, undef, undef, undef, undef, undef, undef, undef, undef, undef, undef], []⟩) (by kernel_rfl) ?_
  refine xseq_k fun KS13 ks13 => ?_
  refine wp_regS (l := [0, 1, 2, 3, 4, 5, 6, 7, 8, 9, 10, 11, 12, 13]) (by kernel_rfl) (by kernel_rfl) fun KR14 kr14 => ?_
  refine wpS.take 0 false (some 6) (.pointer (some ⟨b3, 0, none⟩)) (by kernel_rfl) (yld fun _ => by kernel_rfl) ?_
  refine wpS.take 1 false (some 7) (.pointer (some ⟨b3, 0, none⟩)) (by kernel_rfl) (yld fun _ => by kernel_rfl) ?_
  refine wpS.take 2 false (some 8) (.pointer (some ⟨b3, 0, none⟩)) (by kernel_rfl) (yld fun _ => by kernel_rfl) ?_
  refine wpS.take 3 false (some 9) (.pointer (some ⟨b3, 1, none⟩)) (by kernel_rfl) (yld fun _ => by kernel_rfl) ?_
  refine wpS.take 4 true (some 10) (.bool false) (by kernel_rfl) (yld_load1 (e := 4) (o := 1) hs 0 rfl (by kernel_rfl) (by kernel_rfl) (by rfl) .grow) ?_
  refine wpS.take 5 false (some 11) (.bool false) (by kernel_rfl) (yld fun _ => by kernel_rfl) ?_
  refine wpS.take 6 false (some 12) (.slice a1_0_A a1_0_n a1_0_c) (by kernel_rfl) (yld fun _ => by kernel_rfl) ?_
  refine wpS.take 7 false (some 13) (.int .i64 (a1_0.length : Int)) (by kernel_rfl) (yld_lenL (hs.rowR 0 rfl) (fun _ => by kernel_rfl)) ?_
  refine wpS.take 8 false (some 14) (.int .i64 a0_7) (by kernel_rfl) (yld fun _ => by kernel_rfl) ?_
  refine wpS.take 9 false (some 15) (.bool ((a1_0.length : Int) != a0_7)) (by kernel_rfl) (yld fun _ => by kernel_rfl) ?_
  refine wpS.take 10 false (some 16) (.bool ((a1_0.length : Int) != a0_7)) (by kernel_rfl) (yld fun _ => by kernel_rfl) ?_
  refine wpS.take 11 false (some 17) (.pointer (some ⟨b3, 0, none⟩)) (by kernel_rfl) (yld fun _ => by kernel_rfl) ?_
  refine wpS.take 12 false (some 18) (.pointer (some ⟨b3, 1, none⟩)) (by kernel_rfl) (yld fun _ => by kernel_rfl) ?_
  obtain ⟨x4, hx, h⟩ := of_bind h
  refine wpS.only 13 (op_store1 (t := 4) (o := 1) (v := .bool x4) (d := none) (by kernel_rfl) hs 0 rfl (by cases hx; kernel_rfl) rfl (by kernel_rfl) (by simp) ?_)
  intro w kp hs
  refine ⟨fun _ => trivial, ?_⟩
  refine wpS.fin rfl (kr14 _ _ ?_)
  refine then_n (ks13 _ _ ?_)
  refine wp_regS (l := [0, 1, 2, 3, 4, 5, 6, 7, 8, 9]) (by kernel_rfl) (by kernel_rfl) fun KR15 kr15 => ?_
  refine wpS.take 0 false (some 19) (.pointer (some ⟨b3, 0, none⟩)) (by kernel_rfl) (yld fun _ => by kernel_rfl) ?_
  refine wpS.take 1 false (some 20) (.pointer (some ⟨b3, 0, none⟩)) (by kernel_rfl) (yld fun _ => by kernel_rfl) ?_
  refine wpS.take 2 false (some 21) (.pointer (some ⟨b3, 0, none⟩)) (by kernel_rfl) (yld fun _ => by kernel_rfl) ?_
  refine wpS.take 3 false (some 22) (.pointer (some ⟨b3, 0, none⟩)) (by kernel_rfl) (yld fun _ => by kernel_rfl) ?_
  refine wpS.take 4 true (some 23) (.slice none 0 0) (by kernel_rfl) (yld_load1 (e := 24) (o := 0) hs 0 rfl (by kernel_rfl) (by kernel_rfl) (by rfl) .grow) ?_
  refine wpS.take 5 false (some 24) (.slice a1_0_A a1_0_n a1_0_c) (by kernel_rfl) (yld fun _ => by kernel_rfl) ?_
  obtain ⟨h0, h⟩ := of_chk h
  have hs := hs.addNilL (CI .u8) 5
  refine wpS.only 6 (op_appendT (C := (CI .u8)) (t := 24) (ty := 24) (e := 5) (bytes := 1) (B := 140737488355328) (d := (some 25)) (by kernel_rfl) hs 0 rfl (hs.rowR 0 rfl) (by kernel_rfl) (by kernel_rfl) (by kernel_rfl) (by kernel_rfl) (by kernel_rfl) h0 (by decide) (by decide) ?_)
  intro s5_A s5_n s5_c w hs
  refine ⟨fun _ => trivial, ?_⟩
  refine wpS.take 7 false (some 26) (.pointer (some ⟨b3, 0, none⟩)) (by kernel_rfl) (yld fun _ => by kernel_rfl) ?_
  refine wpS.take 8 false (some 27) (.pointer (some ⟨b3, 0, none⟩)) (by kernel_rfl) (yld fun _ => by kernel_rfl) ?_
  refine wpS.only 9 (op_store1 (t := 24) (o := 0) (v := .slice s5_A s5_n s5_c) (d := none) (by kernel_rfl) hs 1 rfl (by kernel_rfl) rfl (by kernel_rfl) (by simp) ?_)
  intro w kp hs
  refine ⟨fun _ => trivial, ?_⟩
  refine wpS.fin rfl (kr15 _ _ ?_)
  refine qn7 _ _ (post_nrm (by kernel_rfl) (run_results [] [] (by kernel_rfl) .nil) ?_)
  refine kI7 _ _ ?_
  refine ⟨fun _ => trivial, ?_⟩
  refine wpS.fin rfl (kr6 _ _ ?_)
  refine then_n (ks5 _ _ ?_)
  refine xseq_k fun KS16 ks16 => ?_
  refine wp_regS (l := [0, 1, 2, 3, 4, 5, 6, 7, 8, 9, 10, 11]) (by kernel_rfl) (by kernel_rfl) fun KR17 kr17 => ?_
  refine wpS.take 0 false (some 14) (.pointer (some ⟨b3, 0, none⟩)) (by kernel_rfl) (yld fun _ => by kernel_rfl) ?_
  refine wpS.take 1 false (some 15) (.pointer (some ⟨b2, 1, none⟩)) (by kernel_rfl) (yld fun _ => by kernel_rfl) ?_
  refine wpS.take 2 true (some 16) (.slice a1_1_A a1_1_n a1_1_c) (by kernel_rfl) (yld_load1 (e := 25) (o := 1) hs 2 rfl (by kernel_rfl) (by kernel_rfl) (by rfl) .grow) ?_
  refine wpS.take 3 false (some 17) (.pointer (some ⟨b1, 1, none⟩)) (by kernel_rfl) (yld fun _ => by kernel_rfl) ?_
  refine wpS.take 4 true (some 18) (.int .i64 a0_1) (by kernel_rfl) (yld_load1 (e := 3) (o := 1) hs 3 rfl (by kernel_rfl) (by kernel_rfl) (by rfl) .grow) ?_
  refine wpS.take 5 false (some 19) (.pointer (some ⟨b1, 4, none⟩)) (by kernel_rfl) (yld fun _ => by kernel_rfl) ?_
  refine wpS.take 6 true (some 20) (.int .i32 a0_4) (by kernel_rfl) (yld_load1 (e := 21) (o := 4) hs 3 rfl (by kernel_rfl) (by kernel_rfl) (by rfl) .grow) ?_
  refine wpS.take 7 false (some 21) (.int .i32 (isub .i32 a0_4 1)) (by kernel_rfl) (yld fun _ => by kernel_rfl) ?_
  refine wpS.take 8 false (some 22) (.pointer (some ⟨b1, 4, none⟩)) (by kernel_rfl) (yld fun _ => by kernel_rfl) ?_
  refine wpS.take 9 true (some 23) (.int .i32 a0_4) (by kernel_rfl) (yld_load1 (e := 21) (o := 4) hs 3 rfl (by kernel_rfl) (by kernel_rfl) (by rfl) .grow) ?_
  refine wpS.take 10 false (some 24) (.agg #[.int .i32 (isub .i32 a0_4 1), .int .i32 a0_4]) (by kernel_rfl) (yld fun _ => by kernel_rfl) ?_
  refine wpS.only 11 (op_inline (d := (some 25)) (f := 39) (args := #[.pointer (some ⟨b3, 0, none⟩), .slice a1_1_A a1_1_n a1_1_c, .int .i64 a0_1, .agg #[.int .i32 (isub .i32 a0_4 1), .int .i32 a0_4]]) (by kernel_rfl) (fun _ => by kernel_rfl) fun R18 kI18 => ?_)
  refine calls_kn Try.func39 rfl fun Q18 qq18 qn18 => ?_
  refine wp_conv (a' := ⟨#[.pointer (some ⟨b3, 0, none⟩), .slice a1_1_A a1_1_n a1_1_c, .int .i64 a0_1, .agg #[.int .i32 (isub .i32 a0_4 1), .int .i32 a0_4], undef, undef, undef, undef, undef, undef, undef, undef, undef, undef, undef, undef, undef, undef, undef, undef, undef, undef, undef, undef, undef, undef, undef, undef, undef, undef, undef, undef, undef, undef, undef, undef, undef, undef, undef, undef, undef, undef, undef, undef, undef, undef, undef, undef, undef, undef, undef, undef, undef, undef, undef, undef, undef], []⟩) (by kernel_rfl) ?_
  refine xseq_k fun KS83 ks83 => ?_
  refine wp_regS (l := [0]) (by kernel_rfl) (by kernel_rfl) fun KR84 kr84 => ?_
  refine wpS.only 0 (op_box (t := 73) (v := .agg #[.int .i32 (isub .i32 a0_4 1), .int .i32 a0_4]) (d := (some 7)) (by kernel_rfl) hs ([.int .i32 (isub .i32 a0_4 1), .int .i32 a0_4]) (by kernel_rfl) (by kernel_rfl) ?_)
  intro b6 w gw hs
  refine ⟨fun _ => trivial, ?_⟩
  refine wpS.fin rfl (kr84 _ _ ?_)
  refine then_n (ks83 _ _ ?_)
  obtain ⟨y7_1, hj, h⟩ := of_bind h
  refine xseq_k fun KS205 ks205 => wp_join (N := fun a w => St w0 [] [.blk b6 ([.int .i32 (isub .i32 a0_4 1), .int .i32 a0_4]) 73, .ownL (CI .u8) s5_A s5_n s5_c (([] : List Int) ++ a1_0) 5, .blk b3 ([.slice s5_A s5_n s5_c, .bool y7_1]) 69, .blk b2 ([.slice a1_0_A a1_0_n a1_0_c, .slice a1_1_A a1_1_n a1_1_c, .slice a1_2_A a1_2_n a1_2_c]) 31, .blk b1 ([.int .i64 a0_0, .int .i64 a0_1, .int .i32 a0_2, .int .i64 a0_3, .int .i32 a0_4, .int .i32 a0_5, .int .i64 a0_6, .int .i64 a0_7]) 23] [.rowL (CI .u8) a1_0_A a1_0_n a1_0_c a1_0, .rowL (CA .i32 256 (by decide)) a1_1_A a1_1_n a1_1_c a1_1, .rowL (CA .i32 256 (by decide)) a1_2_A a1_2_n a1_2_c a1_2] w ∧ ∃ g : Nat → Value, a = ⟨#[.pointer (some ⟨b3, 0, none⟩), .slice a1_1_A a1_1_n a1_1_c, .int .i64 a0_1, .agg #[.int .i32 (isub .i32 a0_4 1), .int .i32 a0_4], undef, undef, undef, .pointer (some ⟨b6, 0, none⟩), undef, undef, undef, (g 11), (g 12), (g 13), (g 14), (g 15), (g 16), (g 17), (g 18), (g 19), (g 20), (g 21), (g 22), (g 23), undef, undef, undef, undef, undef, undef, undef, undef, undef, undef, undef, undef, undef, undef, undef, undef, undef, undef, undef, undef, undef, undef, undef, undef, undef, undef, undef, undef, undef, undef, undef, undef, undef], []⟩) (fun N nj => ?_) ?_
  · clear h
    have h := hj
    refine wp_regS (l := [0, 1, 2, 3, 4, 5, 6, 7, 8, 9, 10, 11, 12, 13]) (by kernel_rfl) (by kernel_rfl) fun KR87 kr87 => ?_
    refine wpS.take 0 false (some 11) (.pointer (some ⟨b3, 0, none⟩)) (by kernel_rfl) (yld fun _ => by kernel_rfl) ?_
    refine wpS.take 1 false (some 12) (.pointer (some ⟨b3, 0, none⟩)) (by kernel_rfl) (yld fun _ => by kernel_rfl) ?_
    refine wpS.take 2 false (some 13) (.pointer (some ⟨b3, 0, none⟩)) (by kernel_rfl) (yld fun _ => by kernel_rfl) ?_
    refine wpS.take 3 false (some 14) (.pointer (some ⟨b3, 1, none⟩)) (by kernel_rfl) (yld fun _ => by kernel_rfl) ?_
    cases x4 with
    | true =>
      have h := of_if_t h
      refine wpS.take 4 true (some 15) (.bool true) (by kernel_rfl) (yld_load1 (e := 4) (o := 1) hs 2 rfl (by kernel_rfl) (by kernel_rfl) (by rfl) .grow) ?_
      refine wpS.take 5 false (some 16) (.bool true) (by kernel_rfl) (yld fun _ => by kernel_rfl) ?_
      refine wpS.take 6 false (some 17) (undef) (by kernel_rfl) (yld fun _ => by kernel_rfl) ?_
      refine wpS.take 7 false (some 18) (undef) (by kernel_rfl) (yld fun _ => by kernel_rfl) ?_
      refine wpS.take 8 false (some 19) (undef) (by kernel_rfl) (yld fun _ => by kernel_rfl) ?_
      refine wpS.take 9 false (some 20) (undef) (by kernel_rfl) (yld fun _ => by kernel_rfl) ?_
      refine wpS.take 10 false (some 21) (.bool true) (by kernel_rfl) (yld fun _ => by kernel_rfl) ?_
      refine wpS.take 11 false (some 22) (.pointer (some ⟨b3, 0, none⟩)) (by kernel_rfl) (yld fun _ => by kernel_rfl) ?_
      refine wpS.take 12 false (some 23) (.pointer (some ⟨b3, 1, none⟩)) (by kernel_rfl) (yld fun _ => by kernel_rfl) ?_
      refine wpS.only 13 (op_store1 (t := 4) (o := 1) (v := .bool true) (d := none) (by kernel_rfl) hs 2 rfl (by kernel_rfl) rfl (by kernel_rfl) (by simp) ?_)
      intro w kp hs
      refine ⟨fun _ => trivial, ?_⟩
      refine wpS.fin rfl (kr87 _ _ ?_)
      have q0 := of_some h
      subst q0
      exact nj _ _ ⟨(hs.conv rfl), exg (by kernel_rfl)⟩
    | false =>
      have h := of_if_f h
      refine wpS.take 4 true (some 15) (.bool false) (by kernel_rfl) (yld_load1 (e := 4) (o := 1) hs 2 rfl (by kernel_rfl) (by kernel_rfl) (by rfl) .grow) ?_
      refine wpS.take 5 false (some 16) (.bool false) (by kernel_rfl) (yld fun _ => by kernel_rfl) ?_
      refine wpS.take 6 false (some 17) (.slice a1_1_A a1_1_n a1_1_c) (by kernel_rfl) (yld fun _ => by kernel_rfl) ?_
      refine wpS.take 7 false (some 18) (.int .i64 (a1_1.length : Int)) (by kernel_rfl) (yld_lenL (hs.rowR 1 rfl) (fun _ => by kernel_rfl)) ?_
      refine wpS.take 8 false (some 19) (.int .i64 a0_1) (by kernel_rfl) (yld fun _ => by kernel_rfl) ?_
      refine wpS.take 9 false (some 20) (.bool ((a1_1.length : Int) != a0_1)) (by kernel_rfl) (yld fun _ => by kernel_rfl) ?_
      refine wpS.take 10 false (some 21) (.bool ((a1_1.length : Int) != a0_1)) (by kernel_rfl) (yld fun _ => by kernel_rfl) ?_
      refine wpS.take 11 false (some 22) (.pointer (some ⟨b3, 0, none⟩)) (by kernel_rfl) (yld fun _ => by kernel_rfl) ?_
      refine wpS.take 12 false (some 23) (.pointer (some ⟨b3, 1, none⟩)) (by kernel_rfl) (yld fun _ => by kernel_rfl) ?_
      obtain ⟨x8, hx, h⟩ := of_bind h
      refine wpS.only 13 (op_store1 (t := 4) (o := 1) (v := .bool x8) (d := none) (by kernel_rfl) hs 2 rfl (by cases hx; kernel_rfl) rfl (by kernel_rfl) (by simp) ?_)
      intro w kp hs
      refine ⟨fun _ => trivial, ?_⟩
      refine wpS.fin rfl (kr87 _ _ ?_)
      have q0 := of_some h
      subst q0
      exact nj _ _ ⟨(hs.conv rfl), exg (by kernel_rfl)⟩
  · clear hj hs
    rintro a w ⟨hs, g, rfl⟩
    refine then_n (ks205 _ _ ?_)
    refine xseq_k fun KS88 ks88 => ?_
    refine wp_regS (l := [0, 1, 2]) (by kernel_rfl) (by kernel_rfl) fun KR89 kr89 => ?_
    refine wpS.take 0 false (some 24) (.slice a1_1_A a1_1_n a1_1_c) (by kernel_rfl) (yld fun _ => by kernel_rfl) ?_
    refine wpS.take 1 false (some 25) (.int .i64 (a1_1.length : Int)) (by kernel_rfl) (yld_lenL (hs.rowR 1 rfl) (fun _ => by kernel_rfl)) ?_
    refine wpS.take 2 false (some 26) (.int .i64 0) (by kernel_rfl) (yld fun _ => by kernel_rfl) ?_
    refine wpS.fin rfl (kr89 _ _ ?_)
    refine then_n (ks88 _ _ ?_)
    obtain ⟨⟨y12, y13_1⟩, hy, hk0⟩ := of_bind h
    refine wp_exq (N := fun a w => ∃ (y12_A : Option Addr) (y12_n : Nat) (y12_c : Nat), St w0 [] [.blk b6 ([.int .i32 (isub .i32 a0_4 1), .int .i32 a0_4]) 73, .ownL (CI .u8) y12_A y12_n y12_c y12 5, .blk b3 ([.slice y12_A y12_n y12_c, .bool y13_1]) 69, .blk b2 ([.slice a1_0_A a1_0_n a1_0_c, .slice a1_1_A a1_1_n a1_1_c, .slice a1_2_A a1_2_n a1_2_c]) 31, .blk b1 ([.int .i64 a0_0, .int .i64 a0_1, .int .i32 a0_2, .int .i64 a0_3, .int .i32 a0_4, .int .i32 a0_5, .int .i64 a0_6, .int .i64 a0_7]) 23] [.rowL (CI .u8) a1_0_A a1_0_n a1_0_c a1_0, .rowL (CA .i32 256 (by decide)) a1_1_A a1_1_n a1_1_c a1_1, .rowL (CA .i32 256 (by decide)) a1_2_A a1_2_n a1_2_c a1_2] w ∧ ∃ g : Nat → Value, a = ⟨#[.pointer (some ⟨b3, 0, none⟩), .slice a1_1_A a1_1_n a1_1_c, .int .i64 a0_1, .agg #[.int .i32 (isub .i32 a0_4 1), .int .i32 a0_4], undef, undef, undef, .pointer (some ⟨b6, 0, none⟩), undef, (g 9), (g 10), (g 11), (g 12), (g 13), (g 14), (g 15), (g 16), (g 17), (g 18), (g 19), (g 20), (g 21), (g 22), (g 23), .slice a1_1_A a1_1_n a1_1_c, .int .i64 (a1_1.length : Int), (g 26), (g 27), (g 28), (g 29), (g 30), (g 31), (g 32), (g 33), (g 34), (g 35), (g 36), (g 37), (g 38), (g 39), (g 40), (g 41), (g 42), (g 43), (g 44), (g 45), (g 46), (g 47), (g 48), (g 49), (g 50), (g 51), (g 52), (g 53), (g 54), (g 55), (g 56)], []⟩) (fun N0 nn0 => ?_) ?_
    · clear hk0
      refine xblock ?_
      refine wp_loop_k (fun n a w => ∃ z9 z10 z11_1, ∃ (z10_A : Option Addr) (z10_n : Nat) (z10_c : Nat), dpack_Sig.l0 K n a0_4 a1_1 z9 z10 z11_1 = some (y12, y13_1) ∧ St w0 [] [.blk b6 ([.int .i32 (isub .i32 a0_4 1), .int .i32 a0_4]) 73, .ownL (CI .u8) z10_A z10_n z10_c z10 5, .blk b3 ([.slice z10_A z10_n z10_c, .bool z11_1]) 69, .blk b2 ([.slice a1_0_A a1_0_n a1_0_c, .slice a1_1_A a1_1_n a1_1_c, .slice a1_2_A a1_2_n a1_2_c]) 31, .blk b1 ([.int .i64 a0_0, .int .i64 a0_1, .int .i32 a0_2, .int .i64 a0_3, .int .i32 a0_4, .int .i32 a0_5, .int .i64 a0_6, .int .i64 a0_7]) 23] [.rowL (CI .u8) a1_0_A a1_0_n a1_0_c a1_0, .rowL (CA .i32 256 (by decide)) a1_1_A a1_1_n a1_1_c a1_1, .rowL (CA .i32 256 (by decide)) a1_2_A a1_2_n a1_2_c a1_2] w ∧ ∃ g : Nat → Value, a = ⟨#[.pointer (some ⟨b3, 0, none⟩), .slice a1_1_A a1_1_n a1_1_c, .int .i64 a0_1, .agg #[.int .i32 (isub .i32 a0_4 1), .int .i32 a0_4], undef, undef, undef, .pointer (some ⟨b6, 0, none⟩), undef, (g 9), (g 10), (g 11), (g 12), (g 13), (g 14), (g 15), (g 16), (g 17), (g 18), (g 19), (g 20), (g 21), (g 22), (g 23), .slice a1_1_A a1_1_n a1_1_c, .int .i64 (a1_1.length : Int), .int .i64 z9, (g 27), (g 28), (g 29), (g 30), (g 31), (g 32), (g 33), (g 34), (g 35), (g 36), (g 37), (g 38), (g 39), (g 40), (g 41), (g 42), (g 43), (g 44), (g 45), (g 46), (g 47), (g 48), (g 49), (g 50), (g 51), (g 52), (g 53), (g 54), (g 55), (g 56)], []⟩) K ⟨0, (([] : List Int) ++ a1_0), y7_1, s5_A, s5_n, s5_c, hy, hs.conv rfl, exg (by kernel_rfl)⟩ ?_
      clear hs h hy
      rintro n a w ⟨z9, z10, z11_1, z10_A, z10_n, z10_c, h, hs, g, rfl⟩ KL0 kl0
      cases n with
      | zero => exact nomatch (show none = some _ from h)
      | succ n =>
        refine xseq_k fun KS118 ks118 => ?_
        refine wp_regS (l := [0]) (by kernel_rfl) (by kernel_rfl) fun KR119 kr119 => ?_
        rcases of_if h with ⟨hc, h⟩ | ⟨hc, h⟩
        · refine wpS.take 0 false (some 27) (.bool true) (by kernel_rfl) (yld_b (dt hc) (fun _ => by kernel_rfl)) ?_
          refine wpS.fin rfl (kr119 _ _ ?_)
          refine then_n (ks118 _ _ ?_)
          refine xseq_k fun KS120 ks120 => ?_
          refine wp_cond_t (by kernel_rfl) ?_
          refine xskip ?_
          refine then_n (ks120 _ _ ?_)
          refine xseq_k fun KS132 ks132 => ?_
          refine xblock ?_
          refine xseq_k fun KS133 ks133 => ?_
          refine wp_regS (l := [0, 1, 2, 3]) (by kernel_rfl) (by kernel_rfl) fun KR134 kr134 => ?_
          obtain ⟨h0, h⟩ := of_chk h
          obtain ⟨h1, h⟩ := of_chk h
          have i0_135 := h0
          have i1_135 := h1
          refine wpS.take 0 false (some 28) (.pointer (adr a1_1_A ((z9 : Int).toNat * Cod.size (CA .i32 256 (by decide))))) (by kernel_rfl) (yld_idxL (C := (CA .i32 256 (by decide))) (t := 25) (e := 40) (k := .i64) (x := z9) (hs.rowR 1 rfl) (by kernel_rfl) (by kernel_rfl) (by kernel_rfl) h0 h1) ?_
          refine wpS.take 1 true (some 29) (.agg (enc .i32 (rdL (CA .i32 256 (by decide)) a1_1 z9)).toArray) (by kernel_rfl) (yld_loadLA (C := (CA .i32 256 (by decide))) (e := 40) (x := z9) (hs.rowR 1 rfl) (by kernel_rfl) rfl (by kernel_rfl) (by kernel_rfl) i0_135 i1_135) ?_
          refine wpS.only 2 (op_alloc (t := 40) (d := (some 9)) (by kernel_rfl) hs (enc .i32 (zeroA 256)) (.agg (enc .i32 (zeroA 256)).toArray) (by kernel_rfl) (by kernel_rfl) (by kernel_rfl) ?_)
          intro b14 w gw hs
          refine ⟨fun _ => trivial, ?_⟩
          refine wpS.only 3 (op_storeW (t := 40) (v := .agg (enc .i32 (rdL (CA .i32 256 (by decide)) a1_1 z9)).toArray) (d := none) (by kernel_rfl) hs 0 rfl (vs := enc .i32 (rdL (CA .i32 256 (by decide)) a1_1 z9)) (n := 256) (by kernel_rfl) (by kernel_rfl) (by kernel_rfl) (by simp [enc_len]) (by simp [enc_len]) (by intro u hu; exact enc_one _ _ u hu) ?_)
          intro w kp hs
          refine ⟨fun _ => trivial, ?_⟩
          refine wpS.fin rfl (kr134 _ _ ?_)
          refine then_n (ks133 _ _ ?_)
          refine xseq_k fun KS136 ks136 => ?_
          refine wp_regS (l := [0, 1, 2, 3, 4, 5, 6]) (by kernel_rfl) (by kernel_rfl) fun KR137 kr137 => ?_
          refine wpS.take 0 true (some 30) (.agg (enc .i32 (rdL (CA .i32 256 (by decide)) a1_1 z9)).toArray) (by kernel_rfl) (yld_loadW (e := 40) (n := 256) hs 0 rfl (by kernel_rfl) (by kernel_rfl) (by kernel_rfl) (by exact enc_len _ _) .grow) ?_
          refine wpS.take 1 false (some 31) (.pointer (some ⟨b6, 0, none⟩)) (by kernel_rfl) (yld fun _ => by kernel_rfl) ?_
          refine wpS.take 2 true (some 32) (.int .i32 (isub .i32 a0_4 1)) (by kernel_rfl) (yld_load1 (e := 21) (o := 0) hs 1 rfl (by kernel_rfl) (by kernel_rfl) (by rfl) .grow) ?_
          refine wpS.take 3 false (some 33) (.pointer (some ⟨b6, 1, none⟩)) (by kernel_rfl) (yld fun _ => by kernel_rfl) ?_
          refine wpS.take 4 true (some 34) (.int .i32 a0_4) (by kernel_rfl) (yld_load1 (e := 21) (o := 1) hs 1 rfl (by kernel_rfl) (by kernel_rfl) (by rfl) .grow) ?_
          obtain ⟨r15, hg, h⟩ := of_bind h
          refine wpS.only 5 (op_callHF (d := (some 35)) (by kernel_rfl) hs (fun _ => by kernel_rfl) (dpack_Pack.ok hg _) ?_)
          rintro ⟨r15_A, r15_n, r15_c⟩ w hne138 gw hs
          have hs := hs.conv (L' := [.ownL (CI .u8) r15_A r15_n r15_c r15 5, .blk b14 (enc .i32 (rdL (CA .i32 256 (by decide)) a1_1 z9)) 40, .blk b6 ([.int .i32 (isub .i32 a0_4 1), .int .i32 a0_4]) 73, .ownL (CI .u8) z10_A z10_n z10_c z10 5, .blk b3 ([.slice z10_A z10_n z10_c, .bool z11_1]) 69, .blk b2 ([.slice a1_0_A a1_0_n a1_0_c, .slice a1_1_A a1_1_n a1_1_c, .slice a1_2_A a1_2_n a1_2_c]) 31, .blk b1 ([.int .i64 a0_0, .int .i64 a0_1, .int .i32 a0_2, .int .i64 a0_3, .int .i32 a0_4, .int .i32 a0_5, .int .i64 a0_6, .int .i64 a0_7]) 23]) rfl
          refine ⟨fun _ => trivial, ?_⟩
          refine wpS.take 6 false (some 10) (.slice r15_A r15_n r15_c) (by kernel_rfl) (yld fun _ => by kernel_rfl) ?_
          refine wpS.fin rfl (kr137 _ _ ?_)
          refine then_n (ks136 _ _ ?_)
          obtain ⟨y16_1, hj, h⟩ := of_bind h
          refine xseq_k fun KS144 ks144 => wp_join (N := fun a w => St w0 [] [.ownL (CI .u8) r15_A r15_n r15_c r15 5, .blk b14 (enc .i32 (rdL (CA .i32 256 (by decide)) a1_1 z9)) 40, .blk b6 ([.int .i32 (isub .i32 a0_4 1), .int .i32 a0_4]) 73, .ownL (CI .u8) z10_A z10_n z10_c z10 5, .blk b3 ([.slice z10_A z10_n z10_c, .bool y16_1]) 69, .blk b2 ([.slice a1_0_A a1_0_n a1_0_c, .slice a1_1_A a1_1_n a1_1_c, .slice a1_2_A a1_2_n a1_2_c]) 31, .blk b1 ([.int .i64 a0_0, .int .i64 a0_1, .int .i32 a0_2, .int .i64 a0_3, .int .i32 a0_4, .int .i32 a0_5, .int .i64 a0_6, .int .i64 a0_7]) 23] [.rowL (CI .u8) a1_0_A a1_0_n a1_0_c a1_0, .rowL (CA .i32 256 (by decide)) a1_1_A a1_1_n a1_1_c a1_1, .rowL (CA .i32 256 (by decide)) a1_2_A a1_2_n a1_2_c a1_2] w ∧ ∃ g : Nat → Value, a = ⟨#[.pointer (some ⟨b3, 0, none⟩), .slice a1_1_A a1_1_n a1_1_c, .int .i64 a0_1, .agg #[.int .i32 (isub .i32 a0_4 1), .int .i32 a0_4], undef, undef, undef, .pointer (some ⟨b6, 0, none⟩), undef, .pointer (some ⟨b14, 0, none⟩), .slice r15_A r15_n r15_c, (g 11), (g 12), (g 13), (g 14), (g 15), (g 16), (g 17), (g 18), (g 19), (g 20), (g 21), (g 22), (g 23), .slice a1_1_A a1_1_n a1_1_c, .int .i64 (a1_1.length : Int), .int .i64 z9, .bool true, .pointer (adr a1_1_A ((z9 : Int).toNat * Cod.size (CA .i32 256 (by decide)))), .agg (enc .i32 (rdL (CA .i32 256 (by decide)) a1_1 z9)).toArray, .agg (enc .i32 (rdL (CA .i32 256 (by decide)) a1_1 z9)).toArray, .pointer (some ⟨b6, 0, none⟩), .int .i32 (isub .i32 a0_4 1), .pointer (some ⟨b6, 1, none⟩), .int .i32 a0_4, .slice r15_A r15_n r15_c, (g 36), (g 37), (g 38), (g 39), (g 40), (g 41), (g 42), (g 43), (g 44), (g 45), (g 46), (g 47), (g 48), (g 49), (g 50), (g 51), (g 52), (g 53), (g 54), (g 55), (g 56)], []⟩) (fun N nj => ?_) ?_
          · clear h
            have h := hj
            refine wp_regS (l := [0, 1, 2, 3, 4, 5, 6, 7, 8, 9, 10, 11]) (by kernel_rfl) (by kernel_rfl) fun KR141 kr141 => ?_
            refine wpS.take 0 false (some 36) (.pointer (some ⟨b3, 0, none⟩)) (by kernel_rfl) (yld fun _ => by kernel_rfl) ?_
            refine wpS.take 1 false (some 37) (.pointer (some ⟨b3, 0, none⟩)) (by kernel_rfl) (yld fun _ => by kernel_rfl) ?_
            refine wpS.take 2 false (some 38) (.pointer (some ⟨b3, 0, none⟩)) (by kernel_rfl) (yld fun _ => by kernel_rfl) ?_
            refine wpS.take 3 false (some 39) (.pointer (some ⟨b3, 1, none⟩)) (by kernel_rfl) (yld fun _ => by kernel_rfl) ?_
            cases z11_1 with
            | true =>
              have h := of_if_t h
              refine wpS.take 4 true (some 40) (.bool true) (by kernel_rfl) (yld_load1 (e := 4) (o := 1) hs 4 rfl (by kernel_rfl) (by kernel_rfl) (by rfl) .grow) ?_
              refine wpS.take 5 false (some 41) (.bool true) (by kernel_rfl) (yld fun _ => by kernel_rfl) ?_
              refine wpS.take 6 false (some 42) (undef) (by kernel_rfl) (yld fun _ => by kernel_rfl) ?_
              refine wpS.take 7 false (some 43) (undef) (by kernel_rfl) (yld fun _ => by kernel_rfl) ?_
              refine wpS.take 8 false (some 44) (.bool true) (by kernel_rfl) (yld fun _ => by kernel_rfl) ?_
              refine wpS.take 9 false (some 45) (.pointer (some ⟨b3, 0, none⟩)) (by kernel_rfl) (yld fun _ => by kernel_rfl) ?_
              refine wpS.take 10 false (some 46) (.pointer (some ⟨b3, 1, none⟩)) (by kernel_rfl) (yld fun _ => by kernel_rfl) ?_
              refine wpS.only 11 (op_store1 (t := 4) (o := 1) (v := .bool true) (d := none) (by kernel_rfl) hs 4 rfl (by kernel_rfl) rfl (by kernel_rfl) (by simp) ?_)
              intro w kp hs
              refine ⟨fun _ => trivial, ?_⟩
              refine wpS.fin rfl (kr141 _ _ ?_)
              have q0 := of_some h
              subst q0
              exact nj _ _ ⟨(hs.conv rfl), exg (by kernel_rfl)⟩
            | false =>
              have h := of_if_f h
              refine wpS.take 4 true (some 40) (.bool false) (by kernel_rfl) (yld_load1 (e := 4) (o := 1) hs 4 rfl (by kernel_rfl) (by kernel_rfl) (by rfl) .grow) ?_
              refine wpS.take 5 false (some 41) (.bool false) (by kernel_rfl) (yld fun _ => by kernel_rfl) ?_
              refine wpS.take 6 false (some 42) (.slice r15_A r15_n r15_c) (by kernel_rfl) (yld fun _ => by kernel_rfl) ?_
              refine wpS.take 7 false (some 43) (.bool ((r15).isEmpty)) (by kernel_rfl) (yld_nilS (t := 24) (e := 5) (C := (CI .u8)) (.tmp 42) (.const (.slice none 0 0)) (hs.rowL 0 rfl) hne138 (by kernel_rfl) (by kernel_rfl) (by kernel_rfl)) ?_
              refine wpS.take 8 false (some 44) (.bool ((r15).isEmpty)) (by kernel_rfl) (yld fun _ => by kernel_rfl) ?_
              refine wpS.take 9 false (some 45) (.pointer (some ⟨b3, 0, none⟩)) (by kernel_rfl) (yld fun _ => by kernel_rfl) ?_
              refine wpS.take 10 false (some 46) (.pointer (some ⟨b3, 1, none⟩)) (by kernel_rfl) (yld fun _ => by kernel_rfl) ?_
              obtain ⟨x17, hx, h⟩ := of_bind h
              refine wpS.only 11 (op_store1 (t := 4) (o := 1) (v := .bool x17) (d := none) (by kernel_rfl) hs 4 rfl (by cases hx; kernel_rfl) rfl (by kernel_rfl) (by simp) ?_)
              intro w kp hs
              refine ⟨fun _ => trivial, ?_⟩
              refine wpS.fin rfl (kr141 _ _ ?_)
              have q0 := of_some h
              subst q0
              exact nj _ _ ⟨(hs.conv rfl), exg (by kernel_rfl)⟩
          · clear hj hs
            rintro a w ⟨hs, g, rfl⟩
            refine then_n (ks144 _ _ ?_)
            refine wp_regS (l := [0, 1, 2, 3, 4, 5, 6, 7, 8, 9]) (by kernel_rfl) (by kernel_rfl) fun KR142 kr142 => ?_
            refine wpS.take 0 false (some 47) (.pointer (some ⟨b3, 0, none⟩)) (by kernel_rfl) (yld fun _ => by kernel_rfl) ?_
            refine wpS.take 1 false (some 48) (.pointer (some ⟨b3, 0, none⟩)) (by kernel_rfl) (yld fun _ => by kernel_rfl) ?_
            refine wpS.take 2 false (some 49) (.pointer (some ⟨b3, 0, none⟩)) (by kernel_rfl) (yld fun _ => by kernel_rfl) ?_
            refine wpS.take 3 false (some 50) (.pointer (some ⟨b3, 0, none⟩)) (by kernel_rfl) (yld fun _ => by kernel_rfl) ?_
            refine wpS.take 4 true (some 51) (.slice z10_A z10_n z10_c) (by kernel_rfl) (yld_load1 (e := 24) (o := 0) hs 4 rfl (by kernel_rfl) (by kernel_rfl) (by rfl) .grow) ?_
            refine wpS.take 5 false (some 52) (.slice r15_A r15_n r15_c) (by kernel_rfl) (yld fun _ => by kernel_rfl) ?_
            obtain ⟨h0, h⟩ := of_chk h
            refine wpS.only 6 (op_appendT (C := (CI .u8)) (t := 24) (ty := 24) (e := 5) (bytes := 1) (B := 140737488355328) (d := (some 53)) (by kernel_rfl) hs 3 rfl (hs.rowL 0 rfl) (by kernel_rfl) (by kernel_rfl) (by kernel_rfl) (by kernel_rfl) (by kernel_rfl) h0 (by decide) (by decide) ?_)
            intro s18_A s18_n s18_c w hs
            refine ⟨fun _ => trivial, ?_⟩
            refine wpS.take 7 false (some 54) (.pointer (some ⟨b3, 0, none⟩)) (by kernel_rfl) (yld fun _ => by kernel_rfl) ?_
            refine wpS.take 8 false (some 55) (.pointer (some ⟨b3, 0, none⟩)) (by kernel_rfl) (yld fun _ => by kernel_rfl) ?_
            refine wpS.only 9 (op_store1 (t := 24) (o := 0) (v := .slice s18_A s18_n s18_c) (d := none) (by kernel_rfl) hs 4 rfl (by kernel_rfl) rfl (by kernel_rfl) (by simp) ?_)
            intro w kp hs
            refine ⟨fun _ => trivial, ?_⟩
            refine wpS.fin rfl (kr142 _ _ ?_)
            refine inBlock_n ?_
            refine then_n (ks132 _ _ ?_)
            refine wp_regS (l := [0, 1]) (by kernel_rfl) (by kernel_rfl) fun KR143 kr143 => ?_
            refine wpS.take 0 false (some 56) (.int .i64 (iadd .i64 z9 1)) (by kernel_rfl) (yld fun _ => by kernel_rfl) ?_
            refine wpS.take 1 false (some 26) (.int .i64 (iadd .i64 z9 1)) (by kernel_rfl) (yld fun _ => by kernel_rfl) ?_
            refine wpS.fin rfl (kr143 _ _ ?_)
            exact then_n (kl0 _ _ ⟨n, Nat.lt_succ_self n, (iadd .i64 z9 1), (z10 ++ r15), y16_1, s18_A, s18_n, s18_c, h, ((hs.conv (L' := [.ownL (CI .u8) r15_A r15_n r15_c r15 5, .blk b14 (enc .i32 (rdL (CA .i32 256 (by decide)) a1_1 z9)) 40, .blk b6 ([.int .i32 (isub .i32 a0_4 1), .int .i32 a0_4]) 73, .ownL (CI .u8) s18_A s18_n s18_c (z10 ++ r15) 5, .blk b3 ([.slice s18_A s18_n s18_c, .bool y16_1]) 69, .blk b2 ([.slice a1_0_A a1_0_n a1_0_c, .slice a1_1_A a1_1_n a1_1_c, .slice a1_2_A a1_2_n a1_2_c]) 31, .blk b1 ([.int .i64 a0_0, .int .i64 a0_1, .int .i32 a0_2, .int .i64 a0_3, .int .i32 a0_4, .int .i32 a0_5, .int .i64 a0_6, .int .i64 a0_7]) 23]) rfl).drop (.cons _ (.cons _ (.cons_cons _ (.cons_cons _ (.cons_cons _ (.cons_cons _ (.cons_cons _ .slnil)))))))), exg (by kernel_rfl)⟩)
        · refine wpS.take 0 false (some 27) (.bool false) (by kernel_rfl) (yld_b (df hc) (fun _ => by kernel_rfl)) ?_
          refine wpS.fin rfl (kr119 _ _ ?_)
          refine then_n (ks118 _ _ ?_)
          refine xseq_k fun KS145 ks145 => ?_
          refine wp_cond_f (by kernel_rfl) ?_
          refine xexit ?_
          refine then_x ?_
          refine then_x ?_
          refine inBlock_hit ?_
          obtain ⟨q0, qr0⟩ := Prod.mk.inj (of_some h)
          have q1 := qr0
          subst q0
          subst q1
          exact exq_n (nn0 _ _ ⟨z10_A, z10_n, z10_c, (hs.conv rfl), exg (by kernel_rfl)⟩)
    · clear hs h hy
      rintro a w ⟨y12_A, y12_n, y12_c, hs, g, rfl⟩
      have h := hk0
      refine qn18 _ _ (post_nrm (by kernel_rfl) (run_results [] [] (by kernel_rfl) .nil) ?_)
      refine kI18 _ _ ?_
      refine ⟨fun _ => trivial, ?_⟩
      refine wpS.fin rfl (kr17 _ _ ?_)
      refine then_n (ks16 _ _ ?_)
      refine xseq_k fun KS150 ks150 => ?_
      refine xseq_k fun KS151 ks151 => ?_
      refine wp_regS (l := [0, 1, 2, 3, 4, 5]) (by kernel_rfl) (by kernel_rfl) fun KR152 kr152 => ?_
      refine wpS.take 0 false (some 26) (.pointer (some ⟨b2, 2, none⟩)) (by kernel_rfl) (yld fun _ => by kernel_rfl) ?_
      refine wpS.take 1 true (some 27) (.slice a1_2_A a1_2_n a1_2_c) (by kernel_rfl) (yld_load1 (e := 25) (o := 2) hs 3 rfl (by kernel_rfl) (by kernel_rfl) (by rfl) .grow) ?_
      refine wpS.take 2 false (some 28) (.int .i64 (a1_2.length : Int)) (by kernel_rfl) (yld_lenL (hs.rowR 2 rfl) (fun _ => by kernel_rfl)) ?_
      refine wpS.take 3 false (some 29) (.pointer (some ⟨b1, 0, none⟩)) (by kernel_rfl) (yld fun _ => by kernel_rfl) ?_
      refine wpS.take 4 true (some 30) (.int .i64 a0_0) (by kernel_rfl) (yld_load1 (e := 3) (o := 0) hs 4 rfl (by kernel_rfl) (by kernel_rfl) (by rfl) .grow) ?_
      rcases of_if h with ⟨hc, h⟩ | ⟨hc, h⟩
      · refine wpS.take 5 false (some 31) (.bool false) (by kernel_rfl) (yld_b (nf hc) (fun _ => by kernel_rfl)) ?_
        refine wpS.fin rfl (kr152 _ _ ?_)
        refine then_n (ks151 _ _ ?_)
        refine wp_cond_f (by kernel_rfl) ?_
        refine xskip ?_
        refine then_n (ks150 _ _ ?_)
        refine xseq_k fun KS153 ks153 => ?_
        refine wp_regG [11] (fun k => True) 12 (by kernel_rfl) (by kernel_rfl) (by kernel_rfl) fun KR154 kr154 => ?_
        have hs := hs.drawn1
        refine wpG.takeD 0 false (some 32) (.pointer (some ⟨b3, 0, none⟩)) (by kernel_rfl) (by kernel_rfl) (yld fun _ => by kernel_rfl) ?_
        refine wpG.takeD 1 false (some 33) (.pointer (some ⟨b2, 2, none⟩)) (by kernel_rfl) (by kernel_rfl) (yld fun _ => by kernel_rfl) ?_
        refine wpG.take [2, 5, 11] 2 true (some 34) (.slice a1_2_A a1_2_n a1_2_c) (by kernel_rfl) (by kernel_rfl) (yld_load1 (e := 25) (o := 2) hs 3 rfl (by kernel_rfl) (by kernel_rfl) (by rfl) .grow) ?_
        refine wpG.takeD 3 false (some 35) (.pointer (some ⟨b1, 6, none⟩)) (by kernel_rfl) (by kernel_rfl) (yld fun _ => by kernel_rfl) ?_
        refine wpG.take [4, 5, 11] 4 true (some 36) (.int .i64 a0_6) (by kernel_rfl) (by kernel_rfl) (yld_load1 (e := 3) (o := 6) hs 4 rfl (by kernel_rfl) (by kernel_rfl) (by rfl) .grow) ?_
        refine wpG.takeD 6 false (some 38) (.pointer (some ⟨b1, 6, none⟩)) (by kernel_rfl) (by kernel_rfl) (yld fun _ => by kernel_rfl) ?_
        refine wpG.take [7, 10, 11] 7 true (some 39) (.int .i64 a0_6) (by kernel_rfl) (by kernel_rfl) (yld_load1 (e := 3) (o := 6) hs 4 rfl (by kernel_rfl) (by kernel_rfl) (by rfl) .grow) ?_
        refine wpG.takeD 8 false (some 40) (.pointer (some ⟨b1, 0, none⟩)) (by kernel_rfl) (by kernel_rfl) (yld fun _ => by kernel_rfl) ?_
        refine wpG.take [9, 10, 11] 9 true (some 41) (.int .i64 a0_0) (by kernel_rfl) (by kernel_rfl) (yld_load1 (e := 3) (o := 0) hs 4 rfl (by kernel_rfl) (by kernel_rfl) (by rfl) .grow) ?_
        refine wpG.takeD 10 false (some 42) (.int .i64 (iadd .i64 a0_6 a0_0)) (by kernel_rfl) (by kernel_rfl) (yld fun _ => by kernel_rfl) ?_
        obtain ⟨r19, hg, h⟩ := of_bind h
        refine wpG.only 5 (by kernel_rfl) (op_callH (d := (some 37)) (by kernel_rfl) hs (fun _ => by kernel_rfl) (dpack_Hints.ok hg _ (hs.rowR 2 rfl)) ?_)
        rintro ⟨r19_A, r19_n, r19_c⟩ w gw hs
        have hs := hs.conv (L' := [.ownL (CI .u8) r19_A r19_n r19_c r19 5, .blk b6 ([.int .i32 (isub .i32 a0_4 1), .int .i32 a0_4]) 73, .ownL (CI .u8) y12_A y12_n y12_c y12 5, .blk b3 ([.slice y12_A y12_n y12_c, .bool y13_1]) 69, .blk b2 ([.slice a1_0_A a1_0_n a1_0_c, .slice a1_1_A a1_1_n a1_1_c, .slice a1_2_A a1_2_n a1_2_c]) 31, .blk b1 ([.int .i64 a0_0, .int .i64 a0_1, .int .i32 a0_2, .int .i64 a0_3, .int .i32 a0_4, .int .i32 a0_5, .int .i64 a0_6, .int .i64 a0_7]) 23]) rfl
        refine ⟨.of gw, ?_⟩
        refine wpG.only 11 (by kernel_rfl) (op_inline (d := (some 43)) (f := 38) (args := #[.pointer (some ⟨b3, 0, none⟩), .slice r19_A r19_n r19_c, .int .i64 (iadd .i64 a0_6 a0_0)]) (by kernel_rfl) (fun _ => by kernel_rfl) fun R155 kI155 => ?_)
        refine calls_kn Try.func38 rfl fun Q155 qq155 qn155 => ?_
        refine wp_conv (a' := ⟨#[.pointer (some ⟨b3, 0, none⟩), .slice r19_A r19_n r19_c, .int .i64 (iadd .i64 a0_6 a0_0), undef, undef, undef, undef, undef, undef, undef, undef, undef, undef, undef, undef, undef, undef, undef, undef, undef, undef, undef, undef, undef, undef, undef, undef, undef], []⟩) (by kernel_rfl) ?_
        obtain ⟨y20_1, hj, h⟩ := of_bind h
        refine xseq_k fun KS202 ks202 => wp_join (N := fun a w => St w0 [] [.ownL (CI .u8) r19_A r19_n r19_c r19 5, .blk b6 ([.int .i32 (isub .i32 a0_4 1), .int .i32 a0_4]) 73, .ownL (CI .u8) y12_A y12_n y12_c y12 5, .blk b3 ([.slice y12_A y12_n y12_c, .bool y20_1]) 69, .blk b2 ([.slice a1_0_A a1_0_n a1_0_c, .slice a1_1_A a1_1_n a1_1_c, .slice a1_2_A a1_2_n a1_2_c]) 31, .blk b1 ([.int .i64 a0_0, .int .i64 a0_1, .int .i32 a0_2, .int .i64 a0_3, .int .i32 a0_4, .int .i32 a0_5, .int .i64 a0_6, .int .i64 a0_7]) 23] [.rowL (CI .u8) a1_0_A a1_0_n a1_0_c a1_0, .rowL (CA .i32 256 (by decide)) a1_1_A a1_1_n a1_1_c a1_1, .rowL (CA .i32 256 (by decide)) a1_2_A a1_2_n a1_2_c a1_2] w ∧ ∃ g : Nat → Value, a = ⟨#[.pointer (some ⟨b3, 0, none⟩), .slice r19_A r19_n r19_c, .int .i64 (iadd .i64 a0_6 a0_0), undef, undef, undef, (g 6), (g 7), (g 8), (g 9), (g 10), (g 11), (g 12), (g 13), (g 14), (g 15), (g 16), (g 17), (g 18), undef, undef, undef, undef, undef, undef, undef, undef, undef], []⟩) (fun N nj => ?_) ?_
        · clear h
          have h := hj
          refine wp_regS (l := [0, 1, 2, 3, 4, 5, 6, 7, 8, 9, 10, 11, 12, 13]) (by kernel_rfl) (by kernel_rfl) fun KR163 kr163 => ?_
          refine wpS.take 0 false (some 6) (.pointer (some ⟨b3, 0, none⟩)) (by kernel_rfl) (yld fun _ => by kernel_rfl) ?_
          refine wpS.take 1 false (some 7) (.pointer (some ⟨b3, 0, none⟩)) (by kernel_rfl) (yld fun _ => by kernel_rfl) ?_
          refine wpS.take 2 false (some 8) (.pointer (some ⟨b3, 0, none⟩)) (by kernel_rfl) (yld fun _ => by kernel_rfl) ?_
          refine wpS.take 3 false (some 9) (.pointer (some ⟨b3, 1, none⟩)) (by kernel_rfl) (yld fun _ => by kernel_rfl) ?_
          cases y13_1 with
          | true =>
            have h := of_if_t h
            refine wpS.take 4 true (some 10) (.bool true) (by kernel_rfl) (yld_load1 (e := 4) (o := 1) hs 3 rfl (by kernel_rfl) (by kernel_rfl) (by rfl) .grow) ?_
            refine wpS.take 5 false (some 11) (.bool true) (by kernel_rfl) (yld fun _ => by kernel_rfl) ?_
            refine wpS.take 6 false (some 12) (undef) (by kernel_rfl) (yld fun _ => by kernel_rfl) ?_
            refine wpS.take 7 false (some 13) (undef) (by kernel_rfl) (yld fun _ => by kernel_rfl) ?_
            refine wpS.take 8 false (some 14) (undef) (by kernel_rfl) (yld fun _ => by kernel_rfl) ?_
            refine wpS.take 9 false (some 15) (undef) (by kernel_rfl) (yld fun _ => by kernel_rfl) ?_
            refine wpS.take 10 false (some 16) (.bool true) (by kernel_rfl) (yld fun _ => by kernel_rfl) ?_
            refine wpS.take 11 false (some 17) (.pointer (some ⟨b3, 0, none⟩)) (by kernel_rfl) (yld fun _ => by kernel_rfl) ?_
            refine wpS.take 12 false (some 18) (.pointer (some ⟨b3, 1, none⟩)) (by kernel_rfl) (yld fun _ => by kernel_rfl) ?_
            refine wpS.only 13 (op_store1 (t := 4) (o := 1) (v := .bool true) (d := none) (by kernel_rfl) hs 3 rfl (by kernel_rfl) rfl (by kernel_rfl) (by simp) ?_)
            intro w kp hs
            refine ⟨fun _ => trivial, ?_⟩
            refine wpS.fin rfl (kr163 _ _ ?_)
            have q0 := of_some h
            subst q0
            exact nj _ _ ⟨(hs.conv rfl), exg (by kernel_rfl)⟩
          | false =>
            have h := of_if_f h
            refine wpS.take 4 true (some 10) (.bool false) (by kernel_rfl) (yld_load1 (e := 4) (o := 1) hs 3 rfl (by kernel_rfl) (by kernel_rfl) (by rfl) .grow) ?_
            refine wpS.take 5 false (some 11) (.bool false) (by kernel_rfl) (yld fun _ => by kernel_rfl) ?_
            refine wpS.take 6 false (some 12) (.slice r19_A r19_n r19_c) (by kernel_rfl) (yld fun _ => by kernel_rfl) ?_
            refine wpS.take 7 false (some 13) (.int .i64 (r19.length : Int)) (by kernel_rfl) (yld_lenL (hs.rowL 0 rfl) (fun _ => by kernel_rfl)) ?_
            refine wpS.take 8 false (some 14) (.int .i64 (iadd .i64 a0_6 a0_0)) (by kernel_rfl) (yld fun _ => by kernel_rfl) ?_
            refine wpS.take 9 false (some 15) (.bool ((r19.length : Int) != (iadd .i64 a0_6 a0_0))) (by kernel_rfl) (yld fun _ => by kernel_rfl) ?_
            refine wpS.take 10 false (some 16) (.bool ((r19.length : Int) != (iadd .i64 a0_6 a0_0))) (by kernel_rfl) (yld fun _ => by kernel_rfl) ?_
            refine wpS.take 11 false (some 17) (.pointer (some ⟨b3, 0, none⟩)) (by kernel_rfl) (yld fun _ => by kernel_rfl) ?_
            refine wpS.take 12 false (some 18) (.pointer (some ⟨b3, 1, none⟩)) (by kernel_rfl) (yld fun _ => by kernel_rfl) ?_
            obtain ⟨x21, hx, h⟩ := of_bind h
            refine wpS.only 13 (op_store1 (t := 4) (o := 1) (v := .bool x21) (d := none) (by kernel_rfl) hs 3 rfl (by cases hx; kernel_rfl) rfl (by kernel_rfl) (by simp) ?_)
            intro w kp hs
            refine ⟨fun _ => trivial, ?_⟩
            refine wpS.fin rfl (kr163 _ _ ?_)
            have q0 := of_some h
            subst q0
            exact nj _ _ ⟨(hs.conv rfl), exg (by kernel_rfl)⟩
        · clear hj hs
          rintro a w ⟨hs, g, rfl⟩
          refine then_n (ks202 _ _ ?_)
          refine wp_regS (l := [0, 1, 2, 3, 4, 5, 6, 7, 8, 9]) (by kernel_rfl) (by kernel_rfl) fun KR164 kr164 => ?_
          refine wpS.take 0 false (some 19) (.pointer (some ⟨b3, 0, none⟩)) (by kernel_rfl) (yld fun _ => by kernel_rfl) ?_
          refine wpS.take 1 false (some 20) (.pointer (some ⟨b3, 0, none⟩)) (by kernel_rfl) (yld fun _ => by kernel_rfl) ?_
          refine wpS.take 2 false (some 21) (.pointer (some ⟨b3, 0, none⟩)) (by kernel_rfl) (yld fun _ => by kernel_rfl) ?_
          refine wpS.take 3 false (some 22) (.pointer (some ⟨b3, 0, none⟩)) (by kernel_rfl) (yld fun _ => by kernel_rfl) ?_
          refine wpS.take 4 true (some 23) (.slice y12_A y12_n y12_c) (by kernel_rfl) (yld_load1 (e := 24) (o := 0) hs 3 rfl (by kernel_rfl) (by kernel_rfl) (by rfl) .grow) ?_
          refine wpS.take 5 false (some 24) (.slice r19_A r19_n r19_c) (by kernel_rfl) (yld fun _ => by kernel_rfl) ?_
          obtain ⟨h0, h⟩ := of_chk h
          refine wpS.only 6 (op_appendT (C := (CI .u8)) (t := 24) (ty := 24) (e := 5) (bytes := 1) (B := 140737488355328) (d := (some 25)) (by kernel_rfl) hs 2 rfl (hs.rowL 0 rfl) (by kernel_rfl) (by kernel_rfl) (by kernel_rfl) (by kernel_rfl) (by kernel_rfl) h0 (by decide) (by decide) ?_)
          intro s22_A s22_n s22_c w hs
          refine ⟨fun _ => trivial, ?_⟩
          refine wpS.take 7 false (some 26) (.pointer (some ⟨b3, 0, none⟩)) (by kernel_rfl) (yld fun _ => by kernel_rfl) ?_
          refine wpS.take 8 false (some 27) (.pointer (some ⟨b3, 0, none⟩)) (by kernel_rfl) (yld fun _ => by kernel_rfl) ?_
          refine wpS.only 9 (op_store1 (t := 24) (o := 0) (v := .slice s22_A s22_n s22_c) (d := none) (by kernel_rfl) hs 3 rfl (by kernel_rfl) rfl (by kernel_rfl) (by simp) ?_)
          intro w kp hs
          refine ⟨fun _ => trivial, ?_⟩
          refine wpS.fin rfl (kr164 _ _ ?_)
          refine qn155 _ _ (post_nrm (by kernel_rfl) (run_results [] [] (by kernel_rfl) .nil) ?_)
          refine kI155 _ _ ?_
          refine ⟨⟨fun hf => absurd hf (by decide), .all _ _⟩, ?_⟩
          refine wpG.fin (by kernel_rfl) rfl (kr154 _ _ ?_)
          refine then_n (ks153 _ _ ?_)
          refine xseq_k fun KS165 ks165 => ?_
          refine wp_regS (l := [0, 1, 2, 3]) (by kernel_rfl) (by kernel_rfl) fun KR166 kr166 => ?_
          refine wpS.take 0 false (some 44) (.pointer (some ⟨b3, 0, none⟩)) (by kernel_rfl) (yld fun _ => by kernel_rfl) ?_
          refine wpS.take 1 true (some 45) (.agg #[.int .i64 a0_0, .int .i64 a0_1, .int .i32 a0_2, .int .i64 a0_3, .int .i32 a0_4, .int .i32 a0_5, .int .i64 a0_6, .int .i64 a0_7]) (by kernel_rfl) (yld_loadW (e := 23) (n := 8) hs 5 rfl (by kernel_rfl) (by kernel_rfl) (by kernel_rfl) (by simp [enc_len]) .grow) ?_
          obtain ⟨y23, hj, h⟩ := of_bind h
          refine wpS.only 2 (op_inlineJ (d := (some 46)) (f := 40) (args := #[.pointer (some ⟨b3, 0, none⟩), .agg #[.int .i64 a0_0, .int .i64 a0_1, .int .i32 a0_2, .int .i64 a0_3, .int .i32 a0_4, .int .i32 a0_5, .int .i64 a0_6, .int .i64 a0_7]]) (by kernel_rfl) (fun _ => by kernel_rfl) (N := fun v w => ∃ (y23_A : Option Addr) (y23_n : Nat) (y23_c : Nat), v = .slice y23_A y23_n y23_c ∧ St w0 [] [.ownL (CI .u8) y23_A y23_n y23_c y23 5, .ownL (CI .u8) r19_A r19_n r19_c r19 5, .blk b6 ([.int .i32 (isub .i32 a0_4 1), .int .i32 a0_4]) 73, .blk b3 ([.slice s22_A s22_n s22_c, .bool y20_1]) 69, .blk b2 ([.slice a1_0_A a1_0_n a1_0_c, .slice a1_1_A a1_1_n a1_1_c, .slice a1_2_A a1_2_n a1_2_c]) 31, .blk b1 ([.int .i64 a0_0, .int .i64 a0_1, .int .i32 a0_2, .int .i64 a0_3, .int .i32 a0_4, .int .i32 a0_5, .int .i64 a0_6, .int .i64 a0_7]) 23] [.rowL (CI .u8) a1_0_A a1_0_n a1_0_c a1_0, .rowL (CA .i32 256 (by decide)) a1_1_A a1_1_n a1_1_c a1_1, .rowL (CA .i32 256 (by decide)) a1_2_A a1_2_n a1_2_c a1_2] w) (fun R167 kI167 => ?_) ?_)
          · clear h
            have h := hj
            refine calls_k Try.func40 rfl fun Q167 qq167 => ?_
            refine wp_conv (a' := ⟨#[.pointer (some ⟨b3, 0, none⟩), .agg #[.int .i64 a0_0, .int .i64 a0_1, .int .i32 a0_2, .int .i64 a0_3, .int .i32 a0_4, .int .i32 a0_5, .int .i64 a0_6, .int .i64 a0_7], undef, undef, undef, undef, undef, undef, undef, undef, undef, undef, undef, undef, undef, undef, undef, undef], []⟩) (by kernel_rfl) ?_
            refine xseq_k fun KS185 ks185 => ?_
            refine wp_regS (l := [0, 1]) (by kernel_rfl) (by kernel_rfl) fun KR186 kr186 => ?_
            refine wpS.only 0 (op_box (t := 23) (v := .agg #[.int .i64 a0_0, .int .i64 a0_1, .int .i32 a0_2, .int .i64 a0_3, .int .i32 a0_4, .int .i32 a0_5, .int .i64 a0_6, .int .i64 a0_7]) (d := (some 3)) (by kernel_rfl) hs ([.int .i64 a0_0, .int .i64 a0_1, .int .i32 a0_2, .int .i64 a0_3, .int .i32 a0_4, .int .i32 a0_5, .int .i64 a0_6, .int .i64 a0_7]) (by kernel_rfl) (by kernel_rfl) ?_)
            intro b24 w gw hs
            refine ⟨fun _ => trivial, ?_⟩
            refine wpS.take 1 false (some 4) (.slice none 0 0) (by kernel_rfl) (yld fun _ => by kernel_rfl) ?_
            refine wpS.fin rfl (kr186 _ _ ?_)
            refine then_n (ks185 _ _ ?_)
            refine xseq_k fun KS193 ks193 => ?_
            refine xseq_k fun KS194 ks194 => ?_
            refine wp_regS (l := [0, 1, 2, 3, 4, 5, 6, 7, 8]) (by kernel_rfl) (by kernel_rfl) fun KR195 kr195 => ?_
            refine wpS.take 0 false (some 5) (.pointer (some ⟨b3, 0, none⟩)) (by kernel_rfl) (yld fun _ => by kernel_rfl) ?_
            refine wpS.take 1 false (some 6) (.pointer (some ⟨b3, 0, none⟩)) (by kernel_rfl) (yld fun _ => by kernel_rfl) ?_
            refine wpS.take 2 false (some 7) (.pointer (some ⟨b3, 1, none⟩)) (by kernel_rfl) (yld fun _ => by kernel_rfl) ?_
            cases y20_1 with
            | true =>
              have h := of_if_t h
              refine wpS.take 3 true (some 8) (.bool true) (by kernel_rfl) (yld_load1 (e := 4) (o := 1) hs 4 rfl (by kernel_rfl) (by kernel_rfl) (by rfl) .grow) ?_
              refine wpS.take 4 false (some 9) (.bool true) (by kernel_rfl) (yld fun _ => by kernel_rfl) ?_
              refine wpS.take 5 false (some 10) (undef) (by kernel_rfl) (yld fun _ => by kernel_rfl) ?_
              refine wpS.take 6 false (some 11) (undef) (by kernel_rfl) (yld fun _ => by kernel_rfl) ?_
              refine wpS.take 7 false (some 12) (undef) (by kernel_rfl) (yld fun _ => by kernel_rfl) ?_
              refine wpS.take 8 false (some 13) (.bool true) (by kernel_rfl) (yld fun _ => by kernel_rfl) ?_
              refine wpS.fin rfl (kr195 _ _ ?_)
              refine then_n (ks194 _ _ ?_)
              refine wp_cond_t (by kernel_rfl) ?_
              refine xseq_k fun KS196 ks196 => ?_
              refine wp_regS (l := [0]) (by kernel_rfl) (by kernel_rfl) fun KR197 kr197 => ?_
              refine wpS.take 0 false (some 4) (.slice none 0 0) (by kernel_rfl) (yld fun _ => by kernel_rfl) ?_
              refine wpS.fin rfl (kr197 _ _ ?_)
              refine then_n (ks196 _ _ ?_)
              refine xret ?_
              refine then_r ?_
              have q0 := of_some h
              subst q0
              have hs := hs.addNilL (CI .u8) 5
              exact qq167 _ _ (post_ret (by kernel_rfl) (run_results [.tmp 4] [.slice none 0 0] (by kernel_rfl) (.cons (res_tmp (by kernel_rfl)) .nil)) (kI167 _ _ ⟨none, 0, 0, rfl, ((hs.conv (L' := [.ownL (CI .u8) none 0 0 ([] : List Int) 5, .blk b24 ([.int .i64 a0_0, .int .i64 a0_1, .int .i32 a0_2, .int .i64 a0_3, .int .i32 a0_4, .int .i32 a0_5, .int .i64 a0_6, .int .i64 a0_7]) 23, .ownL (CI .u8) r19_A r19_n r19_c r19 5, .blk b6 ([.int .i32 (isub .i32 a0_4 1), .int .i32 a0_4]) 73, .ownL (CI .u8) s22_A s22_n s22_c (y12 ++ r19) 5, .blk b3 ([.slice s22_A s22_n s22_c, .bool true]) 69, .blk b2 ([.slice a1_0_A a1_0_n a1_0_c, .slice a1_1_A a1_1_n a1_1_c, .slice a1_2_A a1_2_n a1_2_c]) 31, .blk b1 ([.int .i64 a0_0, .int .i64 a0_1, .int .i32 a0_2, .int .i64 a0_3, .int .i32 a0_4, .int .i32 a0_5, .int .i64 a0_6, .int .i64 a0_7]) 23]) rfl).drop (.cons_cons _ (.cons _ (.cons_cons _ (.cons_cons _ (.cons _ (.cons_cons _ (.cons_cons _ (.cons_cons _ .slnil)))))))))⟩))
            | false =>
              have h := of_if_f h
              refine wpS.take 3 true (some 8) (.bool false) (by kernel_rfl) (yld_load1 (e := 4) (o := 1) hs 4 rfl (by kernel_rfl) (by kernel_rfl) (by rfl) .grow) ?_
              refine wpS.take 4 false (some 9) (.bool false) (by kernel_rfl) (yld fun _ => by kernel_rfl) ?_
              refine wpS.take 5 true (some 10) (.agg #[.int .i64 a0_0, .int .i64 a0_1, .int .i32 a0_2, .int .i64 a0_3, .int .i32 a0_4, .int .i32 a0_5, .int .i64 a0_6, .int .i64 a0_7]) (by kernel_rfl) (yld_loadW (e := 23) (n := 8) hs 0 rfl (by kernel_rfl) (by kernel_rfl) (by kernel_rfl) (by simp [enc_len]) .grow) ?_
              obtain ⟨r25, hg, h⟩ := of_bind h
              cases r25 with
              | true =>
                have h := of_if_t h
                refine wpS.only 6 (op_call (d := (some 11)) (by kernel_rfl) hs (fun _ => by kernel_rfl) (dpack_known.ok hg _) ?_)
                intro w gw hs
                refine ⟨fun _ => trivial, ?_⟩
                refine wpS.take 7 false (some 12) (.bool false) (by kernel_rfl) (yld fun _ => by kernel_rfl) ?_
                refine wpS.take 8 false (some 13) (.bool false) (by kernel_rfl) (yld fun _ => by kernel_rfl) ?_
                refine wpS.fin rfl (kr195 _ _ ?_)
                refine then_n (ks194 _ _ ?_)
                refine wp_cond_f (by kernel_rfl) ?_
                refine xskip ?_
                refine then_n (ks193 _ _ ?_)
                refine xseq_k fun KS198 ks198 => ?_
                refine wp_regS (l := [0, 1, 2, 3, 4]) (by kernel_rfl) (by kernel_rfl) fun KR199 kr199 => ?_
                refine wpS.take 0 false (some 14) (.pointer (some ⟨b3, 0, none⟩)) (by kernel_rfl) (yld fun _ => by kernel_rfl) ?_
                refine wpS.take 1 false (some 15) (.pointer (some ⟨b3, 0, none⟩)) (by kernel_rfl) (yld fun _ => by kernel_rfl) ?_
                refine wpS.take 2 false (some 16) (.pointer (some ⟨b3, 0, none⟩)) (by kernel_rfl) (yld fun _ => by kernel_rfl) ?_
                refine wpS.take 3 true (some 17) (.slice s22_A s22_n s22_c) (by kernel_rfl) (yld_load1 (e := 24) (o := 0) hs 4 rfl (by kernel_rfl) (by kernel_rfl) (by rfl) .grow) ?_
                refine wpS.take 4 false (some 4) (.slice s22_A s22_n s22_c) (by kernel_rfl) (yld fun _ => by kernel_rfl) ?_
                refine wpS.fin rfl (kr199 _ _ ?_)
                refine then_n (ks198 _ _ ?_)
                refine xret ?_
                have q0 := of_some h
                subst q0
                have hs := (hs.front 6 rfl).conv (L' := [.blk b1 ([.int .i64 a0_0, .int .i64 a0_1, .int .i32 a0_2, .int .i64 a0_3, .int .i32 a0_4, .int .i32 a0_5, .int .i64 a0_6, .int .i64 a0_7]) 23, .blk b24 ([.int .i64 a0_0, .int .i64 a0_1, .int .i32 a0_2, .int .i64 a0_3, .int .i32 a0_4, .int .i32 a0_5, .int .i64 a0_6, .int .i64 a0_7]) 23, .ownL (CI .u8) r19_A r19_n r19_c r19 5, .blk b6 ([.int .i32 (isub .i32 a0_4 1), .int .i32 a0_4]) 73, .ownL (CI .u8) s22_A s22_n s22_c (y12 ++ r19) 5, .blk b3 ([.slice s22_A s22_n s22_c, .bool false]) 69, .blk b2 ([.slice a1_0_A a1_0_n a1_0_c, .slice a1_1_A a1_1_n a1_1_c, .slice a1_2_A a1_2_n a1_2_c]) 31]) rfl
                have hs := (hs.front 6 rfl).conv (L' := [.blk b2 ([.slice a1_0_A a1_0_n a1_0_c, .slice a1_1_A a1_1_n a1_1_c, .slice a1_2_A a1_2_n a1_2_c]) 31, .blk b1 ([.int .i64 a0_0, .int .i64 a0_1, .int .i32 a0_2, .int .i64 a0_3, .int .i32 a0_4, .int .i32 a0_5, .int .i64 a0_6, .int .i64 a0_7]) 23, .blk b24 ([.int .i64 a0_0, .int .i64 a0_1, .int .i32 a0_2, .int .i64 a0_3, .int .i32 a0_4, .int .i32 a0_5, .int .i64 a0_6, .int .i64 a0_7]) 23, .ownL (CI .u8) r19_A r19_n r19_c r19 5, .blk b6 ([.int .i32 (isub .i32 a0_4 1), .int .i32 a0_4]) 73, .ownL (CI .u8) s22_A s22_n s22_c (y12 ++ r19) 5, .blk b3 ([.slice s22_A s22_n s22_c, .bool false]) 69]) rfl
                have hs := (hs.front 6 rfl).conv (L' := [.blk b3 ([.slice s22_A s22_n s22_c, .bool false]) 69, .blk b2 ([.slice a1_0_A a1_0_n a1_0_c, .slice a1_1_A a1_1_n a1_1_c, .slice a1_2_A a1_2_n a1_2_c]) 31, .blk b1 ([.int .i64 a0_0, .int .i64 a0_1, .int .i32 a0_2, .int .i64 a0_3, .int .i32 a0_4, .int .i32 a0_5, .int .i64 a0_6, .int .i64 a0_7]) 23, .blk b24 ([.int .i64 a0_0, .int .i64 a0_1, .int .i32 a0_2, .int .i64 a0_3, .int .i32 a0_4, .int .i32 a0_5, .int .i64 a0_6, .int .i64 a0_7]) 23, .ownL (CI .u8) r19_A r19_n r19_c r19 5, .blk b6 ([.int .i32 (isub .i32 a0_4 1), .int .i32 a0_4]) 73, .ownL (CI .u8) s22_A s22_n s22_c (y12 ++ r19) 5]) rfl
                have hs := (hs.front 5 rfl).conv (L' := [.blk b6 ([.int .i32 (isub .i32 a0_4 1), .int .i32 a0_4]) 73, .blk b3 ([.slice s22_A s22_n s22_c, .bool false]) 69, .blk b2 ([.slice a1_0_A a1_0_n a1_0_c, .slice a1_1_A a1_1_n a1_1_c, .slice a1_2_A a1_2_n a1_2_c]) 31, .blk b1 ([.int .i64 a0_0, .int .i64 a0_1, .int .i32 a0_2, .int .i64 a0_3, .int .i32 a0_4, .int .i32 a0_5, .int .i64 a0_6, .int .i64 a0_7]) 23, .blk b24 ([.int .i64 a0_0, .int .i64 a0_1, .int .i32 a0_2, .int .i64 a0_3, .int .i32 a0_4, .int .i32 a0_5, .int .i64 a0_6, .int .i64 a0_7]) 23, .ownL (CI .u8) r19_A r19_n r19_c r19 5, .ownL (CI .u8) s22_A s22_n s22_c (y12 ++ r19) 5]) rfl
                have hs := (hs.front 5 rfl).conv (L' := [.ownL (CI .u8) r19_A r19_n r19_c r19 5, .blk b6 ([.int .i32 (isub .i32 a0_4 1), .int .i32 a0_4]) 73, .blk b3 ([.slice s22_A s22_n s22_c, .bool false]) 69, .blk b2 ([.slice a1_0_A a1_0_n a1_0_c, .slice a1_1_A a1_1_n a1_1_c, .slice a1_2_A a1_2_n a1_2_c]) 31, .blk b1 ([.int .i64 a0_0, .int .i64 a0_1, .int .i32 a0_2, .int .i64 a0_3, .int .i32 a0_4, .int .i32 a0_5, .int .i64 a0_6, .int .i64 a0_7]) 23, .blk b24 ([.int .i64 a0_0, .int .i64 a0_1, .int .i32 a0_2, .int .i64 a0_3, .int .i32 a0_4, .int .i32 a0_5, .int .i64 a0_6, .int .i64 a0_7]) 23, .ownL (CI .u8) s22_A s22_n s22_c (y12 ++ r19) 5]) rfl
                have hs := (hs.front 6 rfl).conv (L' := [.ownL (CI .u8) s22_A s22_n s22_c (y12 ++ r19) 5, .ownL (CI .u8) r19_A r19_n r19_c r19 5, .blk b6 ([.int .i32 (isub .i32 a0_4 1), .int .i32 a0_4]) 73, .blk b3 ([.slice s22_A s22_n s22_c, .bool false]) 69, .blk b2 ([.slice a1_0_A a1_0_n a1_0_c, .slice a1_1_A a1_1_n a1_1_c, .slice a1_2_A a1_2_n a1_2_c]) 31, .blk b1 ([.int .i64 a0_0, .int .i64 a0_1, .int .i32 a0_2, .int .i64 a0_3, .int .i32 a0_4, .int .i32 a0_5, .int .i64 a0_6, .int .i64 a0_7]) 23, .blk b24 ([.int .i64 a0_0, .int .i64 a0_1, .int .i32 a0_2, .int .i64 a0_3, .int .i32 a0_4, .int .i32 a0_5, .int .i64 a0_6, .int .i64 a0_7]) 23]) rfl
                exact qq167 _ _ (post_ret (by kernel_rfl) (run_results [.tmp 4] [.slice s22_A s22_n s22_c] (by kernel_rfl) (.cons (res_tmp (by kernel_rfl)) .nil)) (kI167 _ _ ⟨s22_A, s22_n, s22_c, rfl, ((hs.conv (L' := [.ownL (CI .u8) s22_A s22_n s22_c (y12 ++ r19) 5, .ownL (CI .u8) r19_A r19_n r19_c r19 5, .blk b6 ([.int .i32 (isub .i32 a0_4 1), .int .i32 a0_4]) 73, .blk b3 ([.slice s22_A s22_n s22_c, .bool false]) 69, .blk b2 ([.slice a1_0_A a1_0_n a1_0_c, .slice a1_1_A a1_1_n a1_1_c, .slice a1_2_A a1_2_n a1_2_c]) 31, .blk b1 ([.int .i64 a0_0, .int .i64 a0_1, .int .i32 a0_2, .int .i64 a0_3, .int .i32 a0_4, .int .i32 a0_5, .int .i64 a0_6, .int .i64 a0_7]) 23, .blk b24 ([.int .i64 a0_0, .int .i64 a0_1, .int .i32 a0_2, .int .i64 a0_3, .int .i32 a0_4, .int .i32 a0_5, .int .i64 a0_6, .int .i64 a0_7]) 23]) rfl).drop (.cons_cons _ (.cons_cons _ (.cons_cons _ (.cons_cons _ (.cons_cons _ (.cons_cons _ (.cons _ .slnil))))))))⟩))
              | false =>
                have h := of_if_f h
                refine wpS.only 6 (op_call (d := (some 11)) (by kernel_rfl) hs (fun _ => by kernel_rfl) (dpack_known.ok hg _) ?_)
                intro w gw hs
                refine ⟨fun _ => trivial, ?_⟩
                refine wpS.take 7 false (some 12) (.bool true) (by kernel_rfl) (yld fun _ => by kernel_rfl) ?_
                refine wpS.take 8 false (some 13) (.bool true) (by kernel_rfl) (yld fun _ => by kernel_rfl) ?_
                refine wpS.fin rfl (kr195 _ _ ?_)
                refine then_n (ks194 _ _ ?_)
                refine wp_cond_t (by kernel_rfl) ?_
                refine xseq_k fun KS200 ks200 => ?_
                refine wp_regS (l := [0]) (by kernel_rfl) (by kernel_rfl) fun KR201 kr201 => ?_
                refine wpS.take 0 false (some 4) (.slice none 0 0) (by kernel_rfl) (yld fun _ => by kernel_rfl) ?_
                refine wpS.fin rfl (kr201 _ _ ?_)
                refine then_n (ks200 _ _ ?_)
                refine xret ?_
                refine then_r ?_
                have q0 := of_some h
                subst q0
                have hs := hs.addNilL (CI .u8) 5
                exact qq167 _ _ (post_ret (by kernel_rfl) (run_results [.tmp 4] [.slice none 0 0] (by kernel_rfl) (.cons (res_tmp (by kernel_rfl)) .nil)) (kI167 _ _ ⟨none, 0, 0, rfl, ((hs.conv (L' := [.ownL (CI .u8) none 0 0 ([] : List Int) 5, .blk b24 ([.int .i64 a0_0, .int .i64 a0_1, .int .i32 a0_2, .int .i64 a0_3, .int .i32 a0_4, .int .i32 a0_5, .int .i64 a0_6, .int .i64 a0_7]) 23, .ownL (CI .u8) r19_A r19_n r19_c r19 5, .blk b6 ([.int .i32 (isub .i32 a0_4 1), .int .i32 a0_4]) 73, .ownL (CI .u8) s22_A s22_n s22_c (y12 ++ r19) 5, .blk b3 ([.slice s22_A s22_n s22_c, .bool false]) 69, .blk b2 ([.slice a1_0_A a1_0_n a1_0_c, .slice a1_1_A a1_1_n a1_1_c, .slice a1_2_A a1_2_n a1_2_c]) 31, .blk b1 ([.int .i64 a0_0, .int .i64 a0_1, .int .i32 a0_2, .int .i64 a0_3, .int .i32 a0_4, .int .i32 a0_5, .int .i64 a0_6, .int .i64 a0_7]) 23]) rfl).drop (.cons_cons _ (.cons _ (.cons_cons _ (.cons_cons _ (.cons _ (.cons_cons _ (.cons_cons _ (.cons_cons _ .slnil)))))))))⟩))
          · clear hj hs
            rintro v w ⟨y23_A, y23_n, y23_c, rfl, hs⟩
            refine ⟨fun _ => trivial, ?_⟩
            refine wpS.take 3 false (some 4) (.slice y23_A y23_n y23_c) (by kernel_rfl) (yld fun _ => by kernel_rfl) ?_
            refine wpS.fin rfl (kr166 _ _ ?_)
            refine then_n (ks165 _ _ ?_)
            refine xret ?_
            have q0 := of_some h
            subst q0
            exact qq _ _ (post_ret (by kernel_rfl) (run_results [.tmp 4] [.slice y23_A y23_n y23_c] (by kernel_rfl) (.cons (res_tmp (by kernel_rfl)) .nil)) ⟨⟨y23_A, y23_n, y23_c⟩, congrArg Ending.returned (by kernel_rfl), (((hs.conv (L' := [.ownL (CI .u8) y23_A y23_n y23_c y23 5, .ownL (CI .u8) r19_A r19_n r19_c r19 5, .blk b6 ([.int .i32 (isub .i32 a0_4 1), .int .i32 a0_4]) 73, .blk b3 ([.slice s22_A s22_n s22_c, .bool y20_1]) 69, .blk b2 ([.slice a1_0_A a1_0_n a1_0_c, .slice a1_1_A a1_1_n a1_1_c, .slice a1_2_A a1_2_n a1_2_c]) 31, .blk b1 ([.int .i64 a0_0, .int .i64 a0_1, .int .i32 a0_2, .int .i64 a0_3, .int .i32 a0_4, .int .i32 a0_5, .int .i64 a0_6, .int .i64 a0_7]) 23]) rfl).drop (.cons_cons _ (.cons _ (.cons _ (.cons _ (.cons _ (.cons _ .slnil))))))).pickR pick_nil)⟩)
      · refine wpS.take 5 false (some 31) (.bool true) (by kernel_rfl) (yld_b (nt hc) (fun _ => by kernel_rfl)) ?_
        refine wpS.fin rfl (kr152 _ _ ?_)
        refine then_n (ks151 _ _ ?_)
        refine wp_cond_t (by kernel_rfl) ?_
        refine xseq_k fun KS203 ks203 => ?_
        refine wp_regS (l := [0]) (by kernel_rfl) (by kernel_rfl) fun KR204 kr204 => ?_
        refine wpS.take 0 false (some 4) (.slice none 0 0) (by kernel_rfl) (yld fun _ => by kernel_rfl) ?_
        refine wpS.fin rfl (kr204 _ _ ?_)
        refine then_n (ks203 _ _ ?_)
        refine xret ?_
        refine then_r ?_
        have q0 := of_some h
        subst q0
        have hs := hs.addNilL (CI .u8) 5
        exact qq _ _ (post_ret (by kernel_rfl) (run_results [.tmp 4] [.slice none 0 0] (by kernel_rfl) (.cons (res_tmp (by kernel_rfl)) .nil)) ⟨⟨none, 0, 0⟩, congrArg Ending.returned (by kernel_rfl), (((hs.conv (L' := [.ownL (CI .u8) none 0 0 ([] : List Int) 5, .blk b6 ([.int .i32 (isub .i32 a0_4 1), .int .i32 a0_4]) 73, .ownL (CI .u8) y12_A y12_n y12_c y12 5, .blk b3 ([.slice y12_A y12_n y12_c, .bool y13_1]) 69, .blk b2 ([.slice a1_0_A a1_0_n a1_0_c, .slice a1_1_A a1_1_n a1_1_c, .slice a1_2_A a1_2_n a1_2_c]) 31, .blk b1 ([.int .i64 a0_0, .int .i64 a0_1, .int .i32 a0_2, .int .i64 a0_3, .int .i32 a0_4, .int .i32 a0_5, .int .i64 a0_6, .int .i64 a0_7]) 23]) rfl).drop (.cons_cons _ (.cons _ (.cons _ (.cons _ (.cons _ (.cons _ .slnil))))))).pickR pick_nil)⟩)

theorem ref22_Sig.ok {K : Nat} {a0_0 : Int} {a0_1 : Int} {a0_2 : Int} {a0_3 : Int} {a0_4 : Int} {a0_5 : Int} {a0_6 : Int} {a0_7 : Int} {a1_0 : List Int} {a1_1 : List (Arr 256)} {a1_2 : List (Arr 256)} {r0 : List Int} {a1_0_A : Option Addr} {a1_0_n : Nat} {a1_0_c : Nat} {a1_1_A : Option Addr} {a1_1_n : Nat} {a1_1_c : Nat} {a1_2_A : Option Addr} {a1_2_n : Nat} {a1_2_c : Nat} (h : ref22_Sig.f K a0_0 a0_1 a0_2 a0_3 a0_4 a0_5 a0_6 a0_7 a1_0 a1_1 a1_2 = some r0) (w0 : World) (hp1_0 : RowL (CI .u8) w0 a1_0_A a1_0_n a1_0_c a1_0) (hp1_1 : RowL (CA .i32 256 (by decide)) w0 a1_1_A a1_1_n a1_1_c a1_1) (hp1_2 : RowL (CA .i32 256 (by decide)) w0 a1_2_A a1_2_n a1_2_c a1_2) : Calls Try.prog 15 #[.agg #[.int .i64 a0_0, .int .i64 a0_1, .int .i32 a0_2, .int .i64 a0_3, .int .i32 a0_4, .int .i32 a0_5, .int .i64 a0_6, .int .i64 a0_7], .agg #[.slice a1_0_A a1_0_n a1_0_c, .slice a1_1_A a1_1_n a1_1_c, .slice a1_2_A a1_2_n a1_2_c]] w0 fun e w' => ∃ h : (Option Addr × Nat × Nat), e = .returned (.slice h.1 h.2.1 h.2.2) ∧ St w0 [] [.ownL (CI .u8) h.1 h.2.1 h.2.2 r0 5] [] w' := by
  refine calls_k Try.func15 rfl fun Q qq => ?_
  have hs := St.startR (all_cons (RowP.ent hp1_0) (all_cons (RowP.ent hp1_1) (all_cons (RowP.ent hp1_2) all_nil)))
  refine wp_conv (a' := ⟨#[.agg #[.int .i64 a0_0, .int .i64 a0_1, .int .i32 a0_2, .int .i64 a0_3, .int .i32 a0_4, .int .i32 a0_5, .int .i64 a0_6, .int .i64 a0_7], .agg #[.slice a1_0_A a1_0_n a1_0_c, .slice a1_1_A a1_1_n a1_1_c, .slice a1_2_A a1_2_n a1_2_c], undef, undef, undef, undef, undef, undef, undef, undef, undef, undef, undef, undef, undef, undef, undef, undef, undef, undef, undef, undef, undef, undef, undef, undef, undef, undef, undef, undef, undef, undef, undef, undef, undef, undef, undef, undef, undef, undef, undef, undef, undef, undef, undef, undef, undef, undef, undef, undef, undef, undef, undef, undef, undef, undef, undef, undef], []⟩) (by kernel_rfl) ?_
  refine xseq_k fun KS1 ks1 => ?_
  refine wp_regS (l := [0, 1, 2]) (by kernel_rfl) (by kernel_rfl) fun KR2 kr2 => ?_
  refine wpS.only 0 (op_box (t := 23) (v := .agg #[.int .i64 a0_0, .int .i64 a0_1, .int .i32 a0_2, .int .i64 a0_3, .int .i32 a0_4, .int .i32 a0_5, .int .i64 a0_6, .int .i64 a0_7]) (d := (some 2)) (by kernel_rfl) hs ([.int .i64 a0_0, .int .i64 a0_1, .int .i32 a0_2, .int .i64 a0_3, .int .i32 a0_4, .int .i32 a0_5, .int .i64 a0_6, .int .i64 a0_7]) (by kernel_rfl) (by kernel_rfl) ?_)
  intro b1 w gw hs
  refine ⟨fun _ => trivial, ?_⟩
  refine wpS.only 1 (op_box (t := 31) (v := .agg #[.slice a1_0_A a1_0_n a1_0_c, .slice a1_1_A a1_1_n a1_1_c, .slice a1_2_A a1_2_n a1_2_c]) (d := (some 3)) (by kernel_rfl) hs ([.slice a1_0_A a1_0_n a1_0_c, .slice a1_1_A a1_1_n a1_1_c, .slice a1_2_A a1_2_n a1_2_c]) (by kernel_rfl) (by kernel_rfl) ?_)
  intro b2 w gw hs
  refine ⟨fun _ => trivial, ?_⟩
  refine wpS.take 2 false (some 4) (.slice none 0 0) (by kernel_rfl) (yld fun _ => by kernel_rfl) ?_
  refine wpS.fin rfl (kr2 _ _ ?_)
  refine then_n (ks1 _ _ ?_)
  refine xseq_k fun KS11 ks11 => ?_
  refine xseq_k fun KS12 ks12 => ?_
  refine wp_regS (l := [0, 1, 2, 3, 4, 5, 6, 7, 8, 9, 10, 11, 12, 13, 14, 15, 16, 17, 18]) (by kernel_rfl) (by kernel_rfl) fun KR13 kr13 => ?_
  refine wpS.take 0 true (some 8) (.agg #[.int .i64 a0_0, .int .i64 a0_1, .int .i32 a0_2, .int .i64 a0_3, .int .i32 a0_4, .int .i32 a0_5, .int .i64 a0_6, .int .i64 a0_7]) (by kernel_rfl) (yld_loadW (e := 23) (n := 8) hs 1 rfl (by kernel_rfl) (by kernel_rfl) (by kernel_rfl) (by simp [enc_len]) .grow) ?_
  obtain ⟨r3, hg, h⟩ := of_bind h
  cases r3 with
  | true =>
    have h := of_if_t h
    refine wpS.only 1 (op_call (d := (some 9)) (by kernel_rfl) hs (fun _ => by kernel_rfl) (ref22_Known.ok hg _) ?_)
    intro w gw hs
    refine ⟨fun _ => trivial, ?_⟩
    refine wpS.take 2 false (some 10) (.bool false) (by kernel_rfl) (yld fun _ => by kernel_rfl) ?_
    refine wpS.take 3 false (some 11) (.bool false) (by kernel_rfl) (yld fun _ => by kernel_rfl) ?_
    refine wpS.take 4 false (some 12) (.pointer (some ⟨b2, 0, none⟩)) (by kernel_rfl) (yld fun _ => by kernel_rfl) ?_
    refine wpS.take 5 true (some 13) (.slice a1_0_A a1_0_n a1_0_c) (by kernel_rfl) (yld_load1 (e := 24) (o := 0) hs 0 rfl (by kernel_rfl) (by kernel_rfl) (by rfl) .grow) ?_
    refine wpS.take 6 false (some 14) (.int .i64 (a1_0.length : Int)) (by kernel_rfl) (yld_lenL (hs.rowR 0 rfl) (fun _ => by kernel_rfl)) ?_
    refine wpS.take 7 false (some 15) (.pointer (some ⟨b1, 7, none⟩)) (by kernel_rfl) (yld fun _ => by kernel_rfl) ?_
    refine wpS.take 8 true (some 16) (.int .i64 a0_7) (by kernel_rfl) (yld_load1 (e := 3) (o := 7) hs 1 rfl (by kernel_rfl) (by kernel_rfl) (by rfl) .grow) ?_
    rcases of_if h with ⟨hc, h⟩ | ⟨hc, h⟩
    · refine wpS.take 9 false (some 17) (.bool false) (by kernel_rfl) (yld_b (nf hc) (fun _ => by kernel_rfl)) ?_
      refine wpS.take 10 false (some 18) (.bool false) (by kernel_rfl) (yld fun _ => by kernel_rfl) ?_
      refine wpS.take 11 false (some 19) (.bool false) (by kernel_rfl) (yld fun _ => by kernel_rfl) ?_
      refine wpS.take 12 false (some 20) (.pointer (some ⟨b2, 2, none⟩)) (by kernel_rfl) (yld fun _ => by kernel_rfl) ?_
      refine wpS.take 13 true (some 21) (.slice a1_2_A a1_2_n a1_2_c) (by kernel_rfl) (yld_load1 (e := 25) (o := 2) hs 0 rfl (by kernel_rfl) (by kernel_rfl) (by rfl) .grow) ?_
      refine wpS.take 14 false (some 22) (.int .i64 (a1_2.length : Int)) (by kernel_rfl) (yld_lenL (hs.rowR 2 rfl) (fun _ => by kernel_rfl)) ?_
      refine wpS.take 15 false (some 23) (.pointer (some ⟨b1, 0, none⟩)) (by kernel_rfl) (yld fun _ => by kernel_rfl) ?_
      refine wpS.take 16 true (some 24) (.int .i64 a0_0) (by kernel_rfl) (yld_load1 (e := 3) (o := 0) hs 1 rfl (by kernel_rfl) (by kernel_rfl) (by rfl) .grow) ?_
      rcases of_if h with ⟨hc, h⟩ | ⟨hc, h⟩
      · refine wpS.take 17 false (some 25) (.bool false) (by kernel_rfl) (yld_b (nf hc) (fun _ => by kernel_rfl)) ?_
        refine wpS.take 18 false (some 26) (.bool false) (by kernel_rfl) (yld fun _ => by kernel_rfl) ?_
        refine wpS.fin rfl (kr13 _ _ ?_)
        refine then_n (ks12 _ _ ?_)
        refine wp_cond_f (by kernel_rfl) ?_
        refine xskip ?_
        refine then_n (ks11 _ _ ?_)
        refine xseq_k fun KS14 ks14 => ?_
        refine wp_regS (l := [0, 1, 2, 3, 4, 5, 6, 7, 8, 9, 10, 11, 12, 13, 14]) (by kernel_rfl) (by kernel_rfl) fun KR15 kr15 => ?_
        refine wpS.take 0 false (some 28) (.pointer (some ⟨b2, 1, none⟩)) (by kernel_rfl) (yld fun _ => by kernel_rfl) ?_
        refine wpS.take 1 true (some 29) (.slice a1_1_A a1_1_n a1_1_c) (by kernel_rfl) (yld_load1 (e := 25) (o := 1) hs 0 rfl (by kernel_rfl) (by kernel_rfl) (by rfl) .grow) ?_
        refine wpS.take 2 false (some 30) (.pointer (some ⟨b1, 1, none⟩)) (by kernel_rfl) (yld fun _ => by kernel_rfl) ?_
        refine wpS.take 3 true (some 31) (.int .i64 a0_1) (by kernel_rfl) (yld_load1 (e := 3) (o := 1) hs 1 rfl (by kernel_rfl) (by kernel_rfl) (by rfl) .grow) ?_
        refine wpS.take 4 false (some 32) (.pointer (some ⟨b1, 4, none⟩)) (by kernel_rfl) (yld fun _ => by kernel_rfl) ?_
        refine wpS.take 5 true (some 33) (.int .i32 a0_4) (by kernel_rfl) (yld_load1 (e := 21) (o := 4) hs 1 rfl (by kernel_rfl) (by kernel_rfl) (by rfl) .grow) ?_
        refine wpS.take 6 false (some 34) (.int .i32 (isub .i32 a0_4 1)) (by kernel_rfl) (yld fun _ => by kernel_rfl) ?_
        refine wpS.take 7 false (some 35) (.pointer (some ⟨b1, 4, none⟩)) (by kernel_rfl) (yld fun _ => by kernel_rfl) ?_
        refine wpS.take 8 true (some 36) (.int .i32 a0_4) (by kernel_rfl) (yld_load1 (e := 21) (o := 4) hs 1 rfl (by kernel_rfl) (by kernel_rfl) (by rfl) .grow) ?_
        obtain ⟨⟨r4, r5⟩, hg, h⟩ := of_bind h
        refine wpS.only 9 (op_callH (d := (some 37)) (by kernel_rfl) hs (fun _ => by kernel_rfl) (ref22_row.ok hg _ (hs.rowR 1 rfl)) ?_)
        rintro ⟨r4_A, r4_n, r4_c⟩ w gw hs
        have hs := hs.conv (L' := [.ownL (CI .u8) r4_A r4_n r4_c r4 5, .blk b2 ([.slice a1_0_A a1_0_n a1_0_c, .slice a1_1_A a1_1_n a1_1_c, .slice a1_2_A a1_2_n a1_2_c]) 31, .blk b1 ([.int .i64 a0_0, .int .i64 a0_1, .int .i32 a0_2, .int .i64 a0_3, .int .i32 a0_4, .int .i32 a0_5, .int .i64 a0_6, .int .i64 a0_7]) 23]) rfl
        refine ⟨fun _ => trivial, ?_⟩
        refine wpS.take 10 false (some 27) (.tuple #[.slice r4_A r4_n r4_c, .bool r5]) (by kernel_rfl) (yld fun _ => by kernel_rfl) ?_
        refine wpS.take 11 false (some 38) (.slice r4_A r4_n r4_c) (by kernel_rfl) (yld fun _ => by kernel_rfl) ?_
        cases r5 with
        | true =>
          have h := of_if_t h
          refine wpS.take 12 false (some 39) (.bool true) (by kernel_rfl) (yld fun _ => by kernel_rfl) ?_
          refine wpS.take 13 false (some 5) (.slice r4_A r4_n r4_c) (by kernel_rfl) (yld fun _ => by kernel_rfl) ?_
          refine wpS.take 14 false (some 6) (.bool true) (by kernel_rfl) (yld fun _ => by kernel_rfl) ?_
          refine wpS.fin rfl (kr15 _ _ ?_)
          refine then_n (ks14 _ _ ?_)
          refine xseq_k fun KS16 ks16 => ?_
          refine wp_regS (l := [0, 1, 2, 3, 4, 5]) (by kernel_rfl) (by kernel_rfl) fun KR17 kr17 => ?_
          refine wpS.take 0 false (some 40) (.pointer (some ⟨b2, 2, none⟩)) (by kernel_rfl) (yld fun _ => by kernel_rfl) ?_
          refine wpS.take 1 true (some 41) (.slice a1_2_A a1_2_n a1_2_c) (by kernel_rfl) (yld_load1 (e := 25) (o := 2) hs 1 rfl (by kernel_rfl) (by kernel_rfl) (by rfl) .grow) ?_
          refine wpS.take 2 false (some 42) (.pointer (some ⟨b1, 6, none⟩)) (by kernel_rfl) (yld fun _ => by kernel_rfl) ?_
          refine wpS.take 3 true (some 43) (.int .i64 a0_6) (by kernel_rfl) (yld_load1 (e := 3) (o := 6) hs 2 rfl (by kernel_rfl) (by kernel_rfl) (by rfl) .grow) ?_
          obtain ⟨r6, hg, h⟩ := of_bind h
          refine wpS.only 4 (op_callH (d := (some 44)) (by kernel_rfl) hs (fun _ => by kernel_rfl) (ref22_Hints.ok hg _ (hs.rowR 2 rfl)) ?_)
          rintro ⟨r6_A, r6_n, r6_c⟩ w gw hs
          have hs := hs.conv (L' := [.ownL (CI .u8) r6_A r6_n r6_c r6 5, .ownL (CI .u8) r4_A r4_n r4_c r4 5, .blk b2 ([.slice a1_0_A a1_0_n a1_0_c, .slice a1_1_A a1_1_n a1_1_c, .slice a1_2_A a1_2_n a1_2_c]) 31, .blk b1 ([.int .i64 a0_0, .int .i64 a0_1, .int .i32 a0_2, .int .i64 a0_3, .int .i32 a0_4, .int .i32 a0_5, .int .i64 a0_6, .int .i64 a0_7]) 23]) rfl
          refine ⟨fun _ => trivial, ?_⟩
          refine wpS.take 5 false (some 7) (.slice r6_A r6_n r6_c) (by kernel_rfl) (yld fun _ => by kernel_rfl) ?_
          refine wpS.fin rfl (kr17 _ _ ?_)
          refine then_n (ks16 _ _ ?_)
          refine xseq_k fun KS22 ks22 => ?_
          refine xseq_k fun KS23 ks23 => ?_
          refine wp_regS (l := [0, 1, 2, 3, 4, 5, 6]) (by kernel_rfl) (by kernel_rfl) fun KR24 kr24 => ?_
          refine wpS.take 0 false (some 45) (.bool true) (by kernel_rfl) (yld fun _ => by kernel_rfl) ?_
          refine wpS.take 1 false (some 46) (.bool false) (by kernel_rfl) (yld fun _ => by kernel_rfl) ?_
          refine wpS.take 2 false (some 47) (.bool false) (by kernel_rfl) (yld fun _ => by kernel_rfl) ?_
          refine wpS.take 3 false (some 48) (.slice r6_A r6_n r6_c) (by kernel_rfl) (yld fun _ => by kernel_rfl) ?_
          refine wpS.take 4 false (some 49) (.int .i64 (r6.length : Int)) (by kernel_rfl) (yld_lenL (hs.rowL 0 rfl) (fun _ => by kernel_rfl)) ?_
          rcases of_if h with ⟨hc, h⟩ | ⟨hc, h⟩
          · refine wpS.take 5 false (some 50) (.bool true) (by kernel_rfl) (yld_b (et hc) (fun _ => by kernel_rfl)) ?_
            refine wpS.take 6 false (some 51) (.bool true) (by kernel_rfl) (yld fun _ => by kernel_rfl) ?_
            refine wpS.fin rfl (kr24 _ _ ?_)
            refine then_n (ks23 _ _ ?_)
            refine wp_cond_t (by kernel_rfl) ?_
            refine xseq_k fun KS25 ks25 => ?_
            refine wp_regS (l := [0]) (by kernel_rfl) (by kernel_rfl) fun KR26 kr26 => ?_
            refine wpS.take 0 false (some 4) (.slice none 0 0) (by kernel_rfl) (yld fun _ => by kernel_rfl) ?_
            refine wpS.fin rfl (kr26 _ _ ?_)
            refine then_n (ks25 _ _ ?_)
            refine xret ?_
            refine then_r ?_
            have q0 := of_some h
            subst q0
            have hs := hs.addNilL (CI .u8) 5
            exact qq _ _ (post_ret (by kernel_rfl) (run_results [.tmp 4] [.slice none 0 0] (by kernel_rfl) (.cons (res_tmp (by kernel_rfl)) .nil)) ⟨⟨none, 0, 0⟩, congrArg Ending.returned (by kernel_rfl), (((hs.conv (L' := [.ownL (CI .u8) none 0 0 ([] : List Int) 5, .ownL (CI .u8) r6_A r6_n r6_c r6 5, .ownL (CI .u8) r4_A r4_n r4_c r4 5, .blk b2 ([.slice a1_0_A a1_0_n a1_0_c, .slice a1_1_A a1_1_n a1_1_c, .slice a1_2_A a1_2_n a1_2_c]) 31, .blk b1 ([.int .i64 a0_0, .int .i64 a0_1, .int .i32 a0_2, .int .i64 a0_3, .int .i32 a0_4, .int .i32 a0_5, .int .i64 a0_6, .int .i64 a0_7]) 23]) rfl).drop (.cons_cons _ (.cons _ (.cons _ (.cons _ (.cons _ .slnil)))))).pickR pick_nil)⟩)
          · refine wpS.take 5 false (some 50) (.bool false) (by kernel_rfl) (yld_b (ef hc) (fun _ => by kernel_rfl)) ?_
            refine wpS.take 6 false (some 51) (.bool false) (by kernel_rfl) (yld fun _ => by kernel_rfl) ?_
            refine wpS.fin rfl (kr24 _ _ ?_)
            refine then_n (ks23 _ _ ?_)
            refine wp_cond_f (by kernel_rfl) ?_
            refine xskip ?_
            refine then_n (ks22 _ _ ?_)
            refine xseq_k fun KS27 ks27 => ?_
            refine wp_regS (l := [0, 1, 2, 3, 4, 5, 6]) (by kernel_rfl) (by kernel_rfl) fun KR28 kr28 => ?_
            refine wpS.take 0 false (some 52) (.pointer (some ⟨b2, 0, none⟩)) (by kernel_rfl) (yld fun _ => by kernel_rfl) ?_
            refine wpS.take 1 true (some 53) (.slice a1_0_A a1_0_n a1_0_c) (by kernel_rfl) (yld_load1 (e := 24) (o := 0) hs 2 rfl (by kernel_rfl) (by kernel_rfl) (by rfl) .grow) ?_
            refine wpS.take 2 false (some 54) (.slice r4_A r4_n r4_c) (by kernel_rfl) (yld fun _ => by kernel_rfl) ?_
            refine wpS.take 3 false (some 55) (.slice r6_A r6_n r6_c) (by kernel_rfl) (yld fun _ => by kernel_rfl) ?_
            refine wpS.only 4 (op_lit (C := CS) (t := 79) (e := 24) (len := 3) (parts := #[(0, .slice a1_0_A a1_0_n a1_0_c), (1, .slice r4_A r4_n r4_c), (2, .slice r6_A r6_n r6_c)]) (l := ([(a1_0_A, a1_0_n, a1_0_c), (r4_A, r4_n, r4_c), (r6_A, r6_n, r6_c)] : List HS)) (d := (some 56)) (by kernel_rfl) hs (by kernel_rfl) (by kernel_rfl) (by kernel_rfl) (z := .slice none 0 0) (by kernel_rfl) rfl (by decide) (by decide) (by kernel_rfl) ?_)
            intro s7_A s7_n s7_c w gw hs
            refine ⟨fun _ => trivial, ?_⟩
            obtain ⟨r8, hg, h⟩ := of_bind h
            refine wpS.only 5 (op_callH (d := (some 57)) (by kernel_rfl) hs (fun _ => by kernel_rfl) (ref01_Join.ok hg _ (LLP.mk (hs.rowL 0 rfl) (inn_cons (hs.rowR 0 rfl) (inn_cons (hs.rowL 2 rfl) (inn_cons (hs.rowL 1 rfl) inn_nil))))) ?_)
            rintro ⟨r8_A, r8_n, r8_c⟩ w gw hs
            have hs := hs.conv (L' := [.ownL (CI .u8) r8_A r8_n r8_c r8 5, .ownL CS s7_A s7_n s7_c ([(a1_0_A, a1_0_n, a1_0_c), (r4_A, r4_n, r4_c), (r6_A, r6_n, r6_c)] : List HS) 24, .ownL (CI .u8) r6_A r6_n r6_c r6 5, .ownL (CI .u8) r4_A r4_n r4_c r4 5, .blk b2 ([.slice a1_0_A a1_0_n a1_0_c, .slice a1_1_A a1_1_n a1_1_c, .slice a1_2_A a1_2_n a1_2_c]) 31, .blk b1 ([.int .i64 a0_0, .int .i64 a0_1, .int .i32 a0_2, .int .i64 a0_3, .int .i32 a0_4, .int .i32 a0_5, .int .i64 a0_6, .int .i64 a0_7]) 23]) rfl
            refine ⟨fun _ => trivial, ?_⟩
            refine wpS.take 6 false (some 4) (.slice r8_A r8_n r8_c) (by kernel_rfl) (yld fun _ => by kernel_rfl) ?_
            refine wpS.fin rfl (kr28 _ _ ?_)
            refine then_n (ks27 _ _ ?_)
            refine xret ?_
            have q0 := of_some h
            subst q0
            exact qq _ _ (post_ret (by kernel_rfl) (run_results [.tmp 4] [.slice r8_A r8_n r8_c] (by kernel_rfl) (.cons (res_tmp (by kernel_rfl)) .nil)) ⟨⟨r8_A, r8_n, r8_c⟩, congrArg Ending.returned (by kernel_rfl), (((hs.conv (L' := [.ownL (CI .u8) r8_A r8_n r8_c r8 5, .ownL CS s7_A s7_n s7_c ([(a1_0_A, a1_0_n, a1_0_c), (r4_A, r4_n, r4_c), (r6_A, r6_n, r6_c)] : List HS) 24, .ownL (CI .u8) r6_A r6_n r6_c r6 5, .ownL (CI .u8) r4_A r4_n r4_c r4 5, .blk b2 ([.slice a1_0_A a1_0_n a1_0_c, .slice a1_1_A a1_1_n a1_1_c, .slice a1_2_A a1_2_n a1_2_c]) 31, .blk b1 ([.int .i64 a0_0, .int .i64 a0_1, .int .i32 a0_2, .int .i64 a0_3, .int .i32 a0_4, .int .i32 a0_5, .int .i64 a0_6, .int .i64 a0_7]) 23]) rfl).drop (.cons_cons _ (.cons _ (.cons _ (.cons _ (.cons _ (.cons _ .slnil))))))).pickR pick_nil)⟩)
        | false =>
          have h := of_if_f h
          refine wpS.take 12 false (some 39) (.bool false) (by kernel_rfl) (yld fun _ => by kernel_rfl) ?_
          refine wpS.take 13 false (some 5) (.slice r4_A r4_n r4_c) (by kernel_rfl) (yld fun _ => by kernel_rfl) ?_
          refine wpS.take 14 false (some 6) (.bool false) (by kernel_rfl) (yld fun _ => by kernel_rfl) ?_
          refine wpS.fin rfl (kr15 _ _ ?_)
          refine then_n (ks14 _ _ ?_)
          refine xseq_k fun KS29 ks29 => ?_
          refine wp_regS (l := [0, 1, 2, 3, 4, 5]) (by kernel_rfl) (by kernel_rfl) fun KR30 kr30 => ?_
          refine wpS.take 0 false (some 40) (.pointer (some ⟨b2, 2, none⟩)) (by kernel_rfl) (yld fun _ => by kernel_rfl) ?_
          refine wpS.take 1 true (some 41) (.slice a1_2_A a1_2_n a1_2_c) (by kernel_rfl) (yld_load1 (e := 25) (o := 2) hs 1 rfl (by kernel_rfl) (by kernel_rfl) (by rfl) .grow) ?_
          refine wpS.take 2 false (some 42) (.pointer (some ⟨b1, 6, none⟩)) (by kernel_rfl) (yld fun _ => by kernel_rfl) ?_
          refine wpS.take 3 true (some 43) (.int .i64 a0_6) (by kernel_rfl) (yld_load1 (e := 3) (o := 6) hs 2 rfl (by kernel_rfl) (by kernel_rfl) (by rfl) .grow) ?_
          obtain ⟨r9, hg, h⟩ := of_bind h
          refine wpS.only 4 (op_callH (d := (some 44)) (by kernel_rfl) hs (fun _ => by kernel_rfl) (ref22_Hints.ok hg _ (hs.rowR 2 rfl)) ?_)
          rintro ⟨r9_A, r9_n, r9_c⟩ w gw hs
          have hs := hs.conv (L' := [.ownL (CI .u8) r9_A r9_n r9_c r9 5, .ownL (CI .u8) r4_A r4_n r4_c r4 5, .blk b2 ([.slice a1_0_A a1_0_n a1_0_c, .slice a1_1_A a1_1_n a1_1_c, .slice a1_2_A a1_2_n a1_2_c]) 31, .blk b1 ([.int .i64 a0_0, .int .i64 a0_1, .int .i32 a0_2, .int .i64 a0_3, .int .i32 a0_4, .int .i32 a0_5, .int .i64 a0_6, .int .i64 a0_7]) 23]) rfl
          refine ⟨fun _ => trivial, ?_⟩
          refine wpS.take 5 false (some 7) (.slice r9_A r9_n r9_c) (by kernel_rfl) (yld fun _ => by kernel_rfl) ?_
          refine wpS.fin rfl (kr30 _ _ ?_)
          refine then_n (ks29 _ _ ?_)
          refine xseq_k fun KS35 ks35 => ?_
          refine xseq_k fun KS36 ks36 => ?_
          refine wp_regS (l := [0, 1, 2, 3, 4, 5, 6]) (by kernel_rfl) (by kernel_rfl) fun KR37 kr37 => ?_
          refine wpS.take 0 false (some 45) (.bool false) (by kernel_rfl) (yld fun _ => by kernel_rfl) ?_
          refine wpS.take 1 false (some 46) (.bool true) (by kernel_rfl) (yld fun _ => by kernel_rfl) ?_
          refine wpS.take 2 false (some 47) (.bool true) (by kernel_rfl) (yld fun _ => by kernel_rfl) ?_
          refine wpS.take 3 false (some 48) (undef) (by kernel_rfl) (yld fun _ => by kernel_rfl) ?_
          refine wpS.take 4 false (some 49) (undef) (by kernel_rfl) (yld fun _ => by kernel_rfl) ?_
          refine wpS.take 5 false (some 50) (undef) (by kernel_rfl) (yld fun _ => by kernel_rfl) ?_
          refine wpS.take 6 false (some 51) (.bool true) (by kernel_rfl) (yld fun _ => by kernel_rfl) ?_
          refine wpS.fin rfl (kr37 _ _ ?_)
          refine then_n (ks36 _ _ ?_)
          refine wp_cond_t (by kernel_rfl) ?_
          refine xseq_k fun KS38 ks38 => ?_
          refine wp_regS (l := [0]) (by kernel_rfl) (by kernel_rfl) fun KR39 kr39 => ?_
          refine wpS.take 0 false (some 4) (.slice none 0 0) (by kernel_rfl) (yld fun _ => by kernel_rfl) ?_
          refine wpS.fin rfl (kr39 _ _ ?_)
          refine then_n (ks38 _ _ ?_)
          refine xret ?_
          refine then_r ?_
          have q0 := of_some h
          subst q0
          have hs := hs.addNilL (CI .u8) 5
          exact qq _ _ (post_ret (by kernel_rfl) (run_results [.tmp 4] [.slice none 0 0] (by kernel_rfl) (.cons (res_tmp (by kernel_rfl)) .nil)) ⟨⟨none, 0, 0⟩, congrArg Ending.returned (by kernel_rfl), (((hs.conv (L' := [.ownL (CI .u8) none 0 0 ([] : List Int) 5, .ownL (CI .u8) r9_A r9_n r9_c r9 5, .ownL (CI .u8) r4_A r4_n r4_c r4 5, .blk b2 ([.slice a1_0_A a1_0_n a1_0_c, .slice a1_1_A a1_1_n a1_1_c, .slice a1_2_A a1_2_n a1_2_c]) 31, .blk b1 ([.int .i64 a0_0, .int .i64 a0_1, .int .i32 a0_2, .int .i64 a0_3, .int .i32 a0_4, .int .i32 a0_5, .int .i64 a0_6, .int .i64 a0_7]) 23]) rfl).drop (.cons_cons _ (.cons _ (.cons _ (.cons _ (.cons _ .slnil)))))).pickR pick_nil)⟩)
      · refine wpS.take 17 false (some 25) (.bool true) (by kernel_rfl) (yld_b (nt hc) (fun _ => by kernel_rfl)) ?_
        refine wpS.take 18 false (some 26) (.bool true) (by kernel_rfl) (yld fun _ => by kernel_rfl) ?_
        refine wpS.fin rfl (kr13 _ _ ?_)
        refine then_n (ks12 _ _ ?_)
        refine wp_cond_t (by kernel_rfl) ?_
        refine xseq_k fun KS40 ks40 => ?_
        refine wp_regS (l := [0]) (by kernel_rfl) (by kernel_rfl) fun KR41 kr41 => ?_
        refine wpS.take 0 false (some 4) (.slice none 0 0) (by kernel_rfl) (yld fun _ => by kernel_rfl) ?_
        refine wpS.fin rfl (kr41 _ _ ?_)
        refine then_n (ks40 _ _ ?_)
        refine xret ?_
        refine then_r ?_
        have q0 := of_some h
        subst q0
        have hs := hs.addNilL (CI .u8) 5
        exact qq _ _ (post_ret (by kernel_rfl) (run_results [.tmp 4] [.slice none 0 0] (by kernel_rfl) (.cons (res_tmp (by kernel_rfl)) .nil)) ⟨⟨none, 0, 0⟩, congrArg Ending.returned (by kernel_rfl), (((hs.conv (L' := [.ownL (CI .u8) none 0 0 ([] : List Int) 5, .blk b2 ([.slice a1_0_A a1_0_n a1_0_c, .slice a1_1_A a1_1_n a1_1_c, .slice a1_2_A a1_2_n a1_2_c]) 31, .blk b1 ([.int .i64 a0_0, .int .i64 a0_1, .int .i32 a0_2, .int .i64 a0_3, .int .i32 a0_4, .int .i32 a0_5, .int .i64 a0_6, .int .i64 a0_7]) 23]) rfl).drop (.cons_cons _ (.cons _ (.cons _ .slnil)))).pickR pick_nil)⟩)
    · refine wpS.take 9 false (some 17) (.bool true) (by kernel_rfl) (yld_b (nt hc) (fun _ => by kernel_rfl)) ?_
      refine wpS.take 10 false (some 18) (.bool true) (by kernel_rfl) (yld fun _ => by kernel_rfl) ?_
      refine wpS.take 11 false (some 19) (.bool true) (by kernel_rfl) (yld fun _ => by kernel_rfl) ?_
      refine wpS.take 12 false (some 20) (undef) (by kernel_rfl) (yld fun _ => by kernel_rfl) ?_
      refine wpS.take 13 false (some 21) (undef) (by kernel_rfl) (yld fun _ => by kernel_rfl) ?_
      refine wpS.take 14 false (some 22) (undef) (by kernel_rfl) (yld fun _ => by kernel_rfl) ?_
      refine wpS.take 15 false (some 23) (undef) (by kernel_rfl) (yld fun _ => by kernel_rfl) ?_
      refine wpS.take 16 false (some 24) (undef) (by kernel_rfl) (yld fun _ => by kernel_rfl) ?_
      refine wpS.take 17 false (some 25) (undef) (by kernel_rfl) (yld fun _ => by kernel_rfl) ?_
      refine wpS.take 18 false (some 26) (.bool true) (by kernel_rfl) (yld fun _ => by kernel_rfl) ?_
      refine wpS.fin rfl (kr13 _ _ ?_)
      refine then_n (ks12 _ _ ?_)
      refine wp_cond_t (by kernel_rfl) ?_
      refine xseq_k fun KS42 ks42 => ?_
      refine wp_regS (l := [0]) (by kernel_rfl) (by kernel_rfl) fun KR43 kr43 => ?_
      refine wpS.take 0 false (some 4) (.slice none 0 0) (by kernel_rfl) (yld fun _ => by kernel_rfl) ?_
      refine wpS.fin rfl (kr43 _ _ ?_)
      refine then_n (ks42 _ _ ?_)
      refine xret ?_
      refine then_r ?_
      have q0 := of_some h
      subst q0
      have hs := hs.addNilL (CI .u8) 5
      exact qq _ _ (post_ret (by kernel_rfl) (run_results [.tmp 4] [.slice none 0 0] (by kernel_rfl) (.cons (res_tmp (by kernel_rfl)) .nil)) ⟨⟨none, 0, 0⟩, congrArg Ending.returned (by kernel_rfl), (((hs.conv (L' := [.ownL (CI .u8) none 0 0 ([] : List Int) 5, .blk b2 ([.slice a1_0_A a1_0_n a1_0_c, .slice a1_1_A a1_1_n a1_1_c, .slice a1_2_A a1_2_n a1_2_c]) 31, .blk b1 ([.int .i64 a0_0, .int .i64 a0_1, .int .i32 a0_2, .int .i64 a0_3, .int .i32 a0_4, .int .i32 a0_5, .int .i64 a0_6, .int .i64 a0_7]) 23]) rfl).drop (.cons_cons _ (.cons _ (.cons _ .slnil)))).pickR pick_nil)⟩)
  | false =>
    have h := of_if_f h
    refine wpS.only 1 (op_call (d := (some 9)) (by kernel_rfl) hs (fun _ => by kernel_rfl) (ref22_Known.ok hg _) ?_)
    intro w gw hs
    refine ⟨fun _ => trivial, ?_⟩
    refine wpS.take 2 false (some 10) (.bool true) (by kernel_rfl) (yld fun _ => by kernel_rfl) ?_
    refine wpS.take 3 false (some 11) (.bool true) (by kernel_rfl) (yld fun _ => by kernel_rfl) ?_
    refine wpS.take 4 false (some 12) (undef) (by kernel_rfl) (yld fun _ => by kernel_rfl) ?_
    refine wpS.take 5 false (some 13) (undef) (by kernel_rfl) (yld fun _ => by kernel_rfl) ?_
    refine wpS.take 6 false (some 14) (undef) (by kernel_rfl) (yld fun _ => by kernel_rfl) ?_
    refine wpS.take 7 false (some 15) (undef) (by kernel_rfl) (yld fun _ => by kernel_rfl) ?_
    refine wpS.take 8 false (some 16) (undef) (by kernel_rfl) (yld fun _ => by kernel_rfl) ?_
    refine wpS.take 9 false (some 17) (undef) (by kernel_rfl) (yld fun _ => by kernel_rfl) ?_
    refine wpS.take 10 false (some 18) (.bool true) (by kernel_rfl) (yld fun _ => by kernel_rfl) ?_
    refine wpS.take 11 false (some 19) (.bool true) (by kernel_rfl) (yld fun _ => by kernel_rfl) ?_
    refine wpS.take 12 false (some 20) (undef) (by kernel_rfl) (yld fun _ => by kernel_rfl) ?_
    refine wpS.take 13 false (some 21) (undef) (by kernel_rfl) (yld fun _ => by kernel_rfl) ?_
    refine wpS.take 14 false (some 22) (undef) (by kernel_rfl) (yld fun _ => by kernel_rfl) ?_
    refine wpS.take 15 false (some 23) (undef) (by kernel_rfl) (yld fun _ => by kernel_rfl) ?_
    refine wpS.take 16 false (some 24) (undef) (by kernel_rfl) (yld fun _ => by kernel_rfl) ?_
    refine wpS.take 17 false (some 25) (undef) (by kernel_rfl) (yld fun _ => by kernel_rfl) ?_
    refine wpS.take 18 false (some 26) (.bool true) (by kernel_rfl) (yld fun _ => by kernel_rfl) ?_
    refine wpS.fin rfl (kr13 _ _ ?_)
    refine then_n (ks12 _ _ ?_)
    refine wp_cond_t (by kernel_rfl) ?_
    refine xseq_k fun KS44 ks44 => ?_
    refine wp_regS (l := [0]) (by kernel_rfl) (by kernel_rfl) fun KR45 kr45 => ?_
    refine wpS.take 0 false (some 4) (.slice none 0 0) (by kernel_rfl) (yld fun _ => by kernel_rfl) ?_
    refine wpS.fin rfl (kr45 _ _ ?_)
    refine then_n (ks44 _ _ ?_)
    refine xret ?_
    refine then_r ?_
    have q0 := of_some h
    subst q0
    have hs := hs.addNilL (CI .u8) 5
    exact qq _ _ (post_ret (by kernel_rfl) (run_results [.tmp 4] [.slice none 0 0] (by kernel_rfl) (.cons (res_tmp (by kernel_rfl)) .nil)) ⟨⟨none, 0, 0⟩, congrArg Ending.returned (by kernel_rfl), (((hs.conv (L' := [.ownL (CI .u8) none 0 0 ([] : List Int) 5, .blk b2 ([.slice a1_0_A a1_0_n a1_0_c, .slice a1_1_A a1_1_n a1_1_c, .slice a1_2_A a1_2_n a1_2_c]) 31, .blk b1 ([.int .i64 a0_0, .int .i64 a0_1, .int .i32 a0_2, .int .i64 a0_3, .int .i32 a0_4, .int .i32 a0_5, .int .i64 a0_6, .int .i64 a0_7]) 23]) rfl).drop (.cons_cons _ (.cons _ (.cons _ .slnil)))).pickR pick_nil)⟩)
end Go.Proofs.Ytblploekkjeolaa
