/- Printed by this work's own program: the code of each function below comes to the answer that its plain form tells. -/
import Derived.Test.YtblploekkjeolaaMv
import Derived.Test.YtblploekkjeolaaProg
import Derived.Test.YtblploekkjeolaaDF0
import Derived.Test.YtblploekkjeolaaDX0
import Derived.Test.YtblploekkjeolaaDX1
import Derived.Test.YtblploekkjeolaaDX2
set_option linter.unusedVariables false
set_option linter.unusedSimpArgs false
set_option maxRecDepth 100000
set_option maxHeartbeats 4000000
namespace Go.Proofs.Ytblploekkjeolaa
open Go.Mx
attribute [local irreducible] wpOp

theorem dpack_Private.ok {K : Nat} {a0_0 : Int} {a0_1 : Int} {a0_2 : Int} {a0_3 : Int} {a0_4 : Int} {a0_5 : Int} {a0_6 : Int} {a0_7 : Int} {a1_0 : List Int} {a1_1 : List Int} {a1_2 : List Int} {a1_3 : List (Arr 256)} {a1_4 : List (Arr 256)} {a1_5 : List (Arr 256)} {r0 : List Int} {a1_0_A : Option Addr} {a1_0_n : Nat} {a1_0_c : Nat} {a1_1_A : Option Addr} {a1_1_n : Nat} {a1_1_c : Nat} {a1_2_A : Option Addr} {a1_2_n : Nat} {a1_2_c : Nat} {a1_3_A : Option Addr} {a1_3_n : Nat} {a1_3_c : Nat} {a1_4_A : Option Addr} {a1_4_n : Nat} {a1_4_c : Nat} {a1_5_A : Option Addr} {a1_5_n : Nat} {a1_5_c : Nat} (h : dpack_Private.f K a0_0 a0_1 a0_2 a0_3 a0_4 a0_5 a0_6 a0_7 a1_0 a1_1 a1_2 a1_3 a1_4 a1_5 = some r0) (w0 : World) (hp1_0 : RowL (CI .u8) w0 a1_0_A a1_0_n a1_0_c a1_0) (hp1_1 : RowL (CI .u8) w0 a1_1_A a1_1_n a1_1_c a1_1) (hp1_2 : RowL (CI .u8) w0 a1_2_A a1_2_n a1_2_c a1_2) (hp1_3 : RowL (CA .i32 256 (by decide)) w0 a1_3_A a1_3_n a1_3_c a1_3) (hp1_4 : RowL (CA .i32 256 (by decide)) w0 a1_4_A a1_4_n a1_4_c a1_4) (hp1_5 : RowL (CA .i32 256 (by decide)) w0 a1_5_A a1_5_n a1_5_c a1_5) : Calls Try.prog 12 #[.agg #[.int .i64 a0_0, .int .i64 a0_1, .int .i32 a0_2, .int .i64 a0_3, .int .i32 a0_4, .int .i32 a0_5, .int .i64 a0_6, .int .i64 a0_7], .agg #[.slice a1_0_A a1_0_n a1_0_c, .slice a1_1_A a1_1_n a1_1_c, .slice a1_2_A a1_2_n a1_2_c, .slice a1_3_A a1_3_n a1_3_c, .slice a1_4_A a1_4_n a1_4_c, .slice a1_5_A a1_5_n a1_5_c]] w0 fun e w' => ∃ h : (Option Addr × Nat × Nat), e = .returned (.slice h.1 h.2.1 h.2.2) ∧ St w0 [] [.ownL (CI .u8) h.1 h.2.1 h.2.2 r0 5] [] w' := by
 refine calls_k Try.func12 rfl fun Q qq => ?_
 have hs := St.startR (all_cons (RowP.ent hp1_0) (all_cons (RowP.ent hp1_1) (all_cons (RowP.ent hp1_2) (all_cons (RowP.ent hp1_3) (all_cons (RowP.ent hp1_4) (all_cons (RowP.ent hp1_5) all_nil))))))
 refine wp_conv (a' := ⟨#[.agg #[.int .i64 a0_0, .int .i64 a0_1, .int .i32 a0_2, .int .i64 a0_3, .int .i32 a0_4, .int .i32 a0_5, .int .i64 a0_6, .int .i64 a0_7], .agg #[.slice a1_0_A a1_0_n a1_0_c, .slice a1_1_A a1_1_n a1_1_c, .slice a1_2_A a1_2_n a1_2_c, .slice a1_3_A a1_3_n a1_3_c, .slice a1_4_A a1_4_n a1_4_c, .slice a1_5_A a1_5_n a1_5_c], undef, undef, undef, undef, undef, undef, undef, undef, undef, undef, undef, undef, undef, undef, undef, undef, undef, undef, undef, undef, undef, undef, undef, undef, undef, undef, undef, undef, undef, undef, undef, undef, undef, undef, undef, undef, undef, undef, undef, undef, undef, undef, undef, undef, undef, undef, undef, undef, undef, undef, undef, undef, undef, undef, undef, undef], []⟩) (by kernel_rfl) ?_
 refine xseq_k fun KS1 ks1 => ?_
 refine wp_regS (l := [0, 1, 2]) (by kernel_rfl) (by kernel_rfl) fun KR2 kr2 => ?_
 refine wpS.only 0 (op_box (t := 23) (v := .agg #[.int .i64 a0_0, .int .i64 a0_1, .int .i32 a0_2, .int .i64 a0_3, .int .i32 a0_4, .int .i32 a0_5, .int .i64 a0_6, .int .i64 a0_7]) (d := (some 2)) (by kernel_rfl) hs ([.int .i64 a0_0, .int .i64 a0_1, .int .i32 a0_2, .int .i64 a0_3, .int .i32 a0_4, .int .i32 a0_5, .int .i64 a0_6, .int .i64 a0_7]) (by kernel_rfl) (by kernel_rfl) ?_)
 intro b1 w gw hs
 refine ⟨fun _ => trivial, ?_⟩
 refine wpS.only 1 (op_box (t := 29) (v := .agg #[.slice a1_0_A a1_0_n a1_0_c, .slice a1_1_A a1_1_n a1_1_c, .slice a1_2_A a1_2_n a1_2_c, .slice a1_3_A a1_3_n a1_3_c, .slice a1_4_A a1_4_n a1_4_c, .slice a1_5_A a1_5_n a1_5_c]) (d := (some 3)) (by kernel_rfl) hs ([.slice a1_0_A a1_0_n a1_0_c, .slice a1_1_A a1_1_n a1_1_c, .slice a1_2_A a1_2_n a1_2_c, .slice a1_3_A a1_3_n a1_3_c, .slice a1_4_A a1_4_n a1_4_c, .slice a1_5_A a1_5_n a1_5_c]) (by kernel_rfl) (by kernel_rfl) ?_)
 intro b2 w gw hs
 refine ⟨fun _ => trivial, ?_⟩
 refine wpS.p 2 4 (.slice none 0 0) (by kernel_rfl) ?_
 refine wpS.fin rfl (kr2 _ _ ?_)
 refine then_n (ks1 _ _ ?_)
 refine xseq_k fun KS3 ks3 => ?_
 refine wp_regS (l := [0, 1, 2]) (by kernel_rfl) (by kernel_rfl) fun KR4 kr4 => ?_
 refine wpS.p 0 8 (.agg #[.slice none 0 0, .bool false]) (by kernel_rfl) ?_
 refine wpS.only 1 (op_box (t := 69) (v := .agg #[.slice none 0 0, .bool false]) (d := (some 9)) (by kernel_rfl) hs ([.slice none 0 0, .bool false]) (by kernel_rfl) (by kernel_rfl) ?_)
 intro b3 w gw hs
 refine ⟨fun _ => trivial, ?_⟩
 refine wpS.p 2 5 (.pointer (some ⟨b3, 0, none⟩)) (by kernel_rfl) ?_
 refine wpS.fin rfl (kr4 _ _ ?_)
 refine then_n (ks3 _ _ ?_)
 refine xseq_k fun KS5 ks5 => ?_
 refine wp_regS (l := [0, 1, 2, 3, 4, 5]) (by kernel_rfl) (by kernel_rfl) fun KR6 kr6 => ?_
 refine wpS.ps [(0, 10, .pointer (some ⟨b3, 0, none⟩)), (1, 11, .func (.func 38) #[.pointer (some ⟨b3, 0, none⟩)] #[]), (2, 12, .pointer (some ⟨b3, 0, none⟩)), (3, 13, .func (.func 39) #[.pointer (some ⟨b3, 0, none⟩)] #[]), (4, 6, .func (.func 38) #[.pointer (some ⟨b3, 0, none⟩)] #[]), (5, 7, .func (.func 39) #[.pointer (some ⟨b3, 0, none⟩)] #[])] (by kernel_rfl) ?_
 refine wpS.fin rfl (kr6 _ _ ?_)
 refine then_n (ks5 _ _ ?_)
 refine xseq_k fun KS7 ks7 => ?_
 refine wp_regS (l := [0, 1, 2, 3]) (by kernel_rfl) (by kernel_rfl) fun KR8 kr8 => ?_
 refine wpS.ps [(0, 14, .func (.func 38) #[.pointer (some ⟨b3, 0, none⟩)] #[]), (1, 15, .pointer (some ⟨b2, 0, none⟩))] (by kernel_rfl) ?_
 refine wpS.take 2 true (some 16) (.slice a1_0_A a1_0_n a1_0_c) (by kernel_rfl) (yld_load1 (e := 24) (o := 0) hs 1 rfl (by kernel_rfl) (by kernel_rfl) (by rfl) .grow) ?_
 refine wpS.only 3 (op_inline (d := (some 17)) (f := 38) (args := #[.pointer (some ⟨b3, 0, none⟩), .slice a1_0_A a1_0_n a1_0_c, .int .i64 32]) (by kernel_rfl) (fun _ => by kernel_rfl) fun R9 kI9 => ?_)
 refine calls_kn Try.func38 rfl fun Q9 qq9 qn9 => ?_
 refine wp_conv (a' := ⟨#[.pointer (some ⟨b3, 0, none⟩), .slice a1_0_A a1_0_n a1_0_c, .int .i64 32, undef, undef, undef, undef, undef, undef, undef, undef, undef, undef, undef, undef, undef, undef, undef, undef, undef, undef, undef, undef, undef, undef, undef, undef, undef], []⟩) (by kernel_rfl) ?_
 refine xseq_k fun KS10 ks10 => ?_
 refine wp_regS (l := [0, 1, 2, 3, 4, 5, 6, 7, 8, 9, 10, 11, 12, 13]) (by kernel_rfl) (by kernel_rfl) fun KR11 kr11 => ?_
 refine wpS.ps [(0, 6, .pointer (some ⟨b3, 0, none⟩)), (1, 7, .pointer (some ⟨b3, 0, none⟩)), (2, 8, .pointer (some ⟨b3, 0, none⟩)), (3, 9, .pointer (some ⟨b3, 1, none⟩))] (by kernel_rfl) ?_
 refine wpS.take 4 true (some 10) (.bool false) (by kernel_rfl) (yld_load1 (e := 4) (o := 1) hs 0 rfl (by kernel_rfl) (by kernel_rfl) (by rfl) .grow) ?_
 refine wpS.ps [(5, 11, .bool false), (6, 12, .slice a1_0_A a1_0_n a1_0_c)] (by kernel_rfl) ?_
 refine wpS.take 7 false (some 13) (.int .i64 (a1_0.length : Int)) (by kernel_rfl) (yld_lenL (hs.rowR 0 rfl) (fun _ => by kernel_rfl)) ?_
 refine wpS.ps [(8, 14, .int .i64 32), (9, 15, .bool ((a1_0.length : Int) != 32)), (10, 16, .bool ((a1_0.length : Int) != 32)), (11, 17, .pointer (some ⟨b3, 0, none⟩)), (12, 18, .pointer (some ⟨b3, 1, none⟩))] (by kernel_rfl) ?_
 obtain ⟨x4, hx, h⟩ := of_bind h
 refine wpS.only 13 (op_store1 (t := 4) (o := 1) (v := .bool x4) (d := none) (by kernel_rfl) hs 0 rfl (by cases hx; kernel_rfl) rfl (by kernel_rfl) (by simp) ?_)
 intro w kp hs
 refine ⟨fun _ => trivial, ?_⟩
 refine wpS.fin rfl (kr11 _ _ ?_)
 refine then_n (ks10 _ _ ?_)
 refine wp_regS (l := [0, 1, 2, 3, 4, 5, 6, 7, 8, 9]) (by kernel_rfl) (by kernel_rfl) fun KR12 kr12 => ?_
 refine wpS.ps [(0, 19, .pointer (some ⟨b3, 0, none⟩)), (1, 20, .pointer (some ⟨b3, 0, none⟩)), (2, 21, .pointer (some ⟨b3, 0, none⟩)), (3, 22, .pointer (some ⟨b3, 0, none⟩))] (by kernel_rfl) ?_
 refine wpS.take 4 true (some 23) (.slice none 0 0) (by kernel_rfl) (yld_load1 (e := 24) (o := 0) hs 0 rfl (by kernel_rfl) (by kernel_rfl) (by rfl) .grow) ?_
 refine wpS.p 5 24 (.slice a1_0_A a1_0_n a1_0_c) (by kernel_rfl) ?_
 obtain ⟨h0, h⟩ := of_chk h
 have hs := hs.addNilL (CI .u8) 5
 refine wpS.only 6 (op_appendT (C := (CI .u8)) (t := 24) (ty := 24) (e := 5) (bytes := 1) (B := 140737488355328) (d := (some 25)) (by kernel_rfl) hs 0 rfl (hs.rowR 0 rfl) (by kernel_rfl) (by kernel_rfl) (by kernel_rfl) (by kernel_rfl) (by kernel_rfl) h0 (by decide) (by decide) ?_)
 intro s5_A s5_n s5_c w hs
 refine ⟨fun _ => trivial, ?_⟩
 refine wpS.ps [(7, 26, .pointer (some ⟨b3, 0, none⟩)), (8, 27, .pointer (some ⟨b3, 0, none⟩))] (by kernel_rfl) ?_
 refine wpS.only 9 (op_store1 (t := 24) (o := 0) (v := .slice s5_A s5_n s5_c) (d := none) (by kernel_rfl) hs 1 rfl (by kernel_rfl) rfl (by kernel_rfl) (by simp) ?_)
 intro w kp hs
 refine ⟨fun _ => trivial, ?_⟩
 refine wpS.fin rfl (kr12 _ _ ?_)
 refine qn9 _ _ (post_nrm (by kernel_rfl) (run_results [] [] (by kernel_rfl) .nil) ?_)
 refine kI9 _ _ ?_
 refine ⟨fun _ => trivial, ?_⟩
 refine wpS.fin rfl (kr8 _ _ ?_)
 refine then_n (ks7 _ _ ?_)
 refine xseq_k fun KS13 ks13 => ?_
 refine wp_regS (l := [0, 1, 2, 3]) (by kernel_rfl) (by kernel_rfl) fun KR14 kr14 => ?_
 refine wpS.ps [(0, 18, .func (.func 38) #[.pointer (some ⟨b3, 0, none⟩)] #[]), (1, 19, .pointer (some ⟨b2, 1, none⟩))] (by kernel_rfl) ?_
 refine wpS.take 2 true (some 20) (.slice a1_1_A a1_1_n a1_1_c) (by kernel_rfl) (yld_load1 (e := 24) (o := 1) hs 2 rfl (by kernel_rfl) (by kernel_rfl) (by rfl) .grow) ?_
 refine wpS.only 3 (op_inline (d := (some 21)) (f := 38) (args := #[.pointer (some ⟨b3, 0, none⟩), .slice a1_1_A a1_1_n a1_1_c, .int .i64 32]) (by kernel_rfl) (fun _ => by kernel_rfl) fun R15 kI15 => ?_)
 refine calls_kn Try.func38 rfl fun Q15 qq15 qn15 => ?_
 refine wp_conv (a' := ⟨#[.pointer (some ⟨b3, 0, none⟩), .slice a1_1_A a1_1_n a1_1_c, .int .i64 32, undef, undef, undef, undef, undef, undef, undef, undef, undef, undef, undef, undef, undef, undef, undef, undef, undef, undef, undef, undef, undef, undef, undef, undef, undef], []⟩) (by kernel_rfl) ?_
 obtain ⟨y6_1, hj, h⟩ := of_bind h
 refine xseq_k fun KS16 ks16 => wp_join (N := fun a w => St w0 [] [.ownL (CI .u8) s5_A s5_n s5_c (([] : List Int) ++ a1_0) 5, .blk b3 ([.slice s5_A s5_n s5_c, .bool y6_1]) 69, .blk b2 ([.slice a1_0_A a1_0_n a1_0_c, .slice a1_1_A a1_1_n a1_1_c, .slice a1_2_A a1_2_n a1_2_c, .slice a1_3_A a1_3_n a1_3_c, .slice a1_4_A a1_4_n a1_4_c, .slice a1_5_A a1_5_n a1_5_c]) 29, .blk b1 ([.int .i64 a0_0, .int .i64 a0_1, .int .i32 a0_2, .int .i64 a0_3, .int .i32 a0_4, .int .i32 a0_5, .int .i64 a0_6, .int .i64 a0_7]) 23] [.rowL (CI .u8) a1_0_A a1_0_n a1_0_c a1_0, .rowL (CI .u8) a1_1_A a1_1_n a1_1_c a1_1, .rowL (CI .u8) a1_2_A a1_2_n a1_2_c a1_2, .rowL (CA .i32 256 (by decide)) a1_3_A a1_3_n a1_3_c a1_3, .rowL (CA .i32 256 (by decide)) a1_4_A a1_4_n a1_4_c a1_4, .rowL (CA .i32 256 (by decide)) a1_5_A a1_5_n a1_5_c a1_5] w ∧ ∃ g : Nat → Value, a = ⟨#[.pointer (some ⟨b3, 0, none⟩), .slice a1_1_A a1_1_n a1_1_c, .int .i64 32, undef, undef, undef, (g 6), (g 7), (g 8), (g 9), (g 10), (g 11), (g 12), (g 13), (g 14), (g 15), (g 16), (g 17), (g 18), undef, undef, undef, undef, undef, undef, undef, undef, undef], []⟩) (fun N nj => ?_) ?_
 ·clear h
  have h := hj
  refine wp_regS (l := [0, 1, 2, 3, 4, 5, 6, 7, 8, 9, 10, 11, 12, 13]) (by kernel_rfl) (by kernel_rfl) fun KR17 kr17 => ?_
  refine wpS.ps [(0, 6, .pointer (some ⟨b3, 0, none⟩)), (1, 7, .pointer (some ⟨b3, 0, none⟩)), (2, 8, .pointer (some ⟨b3, 0, none⟩)), (3, 9, .pointer (some ⟨b3, 1, none⟩))] (by kernel_rfl) ?_
  cases x4 with
  | true =>
   have h := of_if_t h
   refine wpS.take 4 true (some 10) (.bool true) (by kernel_rfl) (yld_load1 (e := 4) (o := 1) hs 1 rfl (by kernel_rfl) (by kernel_rfl) (by rfl) .grow) ?_
   refine wpS.ps [(5, 11, .bool true), (6, 12, undef), (7, 13, undef), (8, 14, undef), (9, 15, undef), (10, 16, .bool true), (11, 17, .pointer (some ⟨b3, 0, none⟩)), (12, 18, .pointer (some ⟨b3, 1, none⟩))] (by kernel_rfl) ?_
   refine wpS.only 13 (op_store1 (t := 4) (o := 1) (v := .bool true) (d := none) (by kernel_rfl) hs 1 rfl (by kernel_rfl) rfl (by kernel_rfl) (by simp) ?_)
   intro w kp hs
   refine ⟨fun _ => trivial, ?_⟩
   refine wpS.fin rfl (kr17 _ _ ?_)
   have q0 := of_some h
   subst q0
   exact nj _ _ ⟨(hs.conv rfl), exg (by kernel_rfl)⟩
  | false =>
   have h := of_if_f h
   refine wpS.take 4 true (some 10) (.bool false) (by kernel_rfl) (yld_load1 (e := 4) (o := 1) hs 1 rfl (by kernel_rfl) (by kernel_rfl) (by rfl) .grow) ?_
   refine wpS.ps [(5, 11, .bool false), (6, 12, .slice a1_1_A a1_1_n a1_1_c)] (by kernel_rfl) ?_
   refine wpS.take 7 false (some 13) (.int .i64 (a1_1.length : Int)) (by kernel_rfl) (yld_lenL (hs.rowR 1 rfl) (fun _ => by kernel_rfl)) ?_
   refine wpS.ps [(8, 14, .int .i64 32), (9, 15, .bool ((a1_1.length : Int) != 32)), (10, 16, .bool ((a1_1.length : Int) != 32)), (11, 17, .pointer (some ⟨b3, 0, none⟩)), (12, 18, .pointer (some ⟨b3, 1, none⟩))] (by kernel_rfl) ?_
   obtain ⟨x7, hx, h⟩ := of_bind h
   refine wpS.only 13 (op_store1 (t := 4) (o := 1) (v := .bool x7) (d := none) (by kernel_rfl) hs 1 rfl (by cases hx; kernel_rfl) rfl (by kernel_rfl) (by simp) ?_)
   intro w kp hs
   refine ⟨fun _ => trivial, ?_⟩
   refine wpS.fin rfl (kr17 _ _ ?_)
   have q0 := of_some h
   subst q0
   exact nj _ _ ⟨(hs.conv rfl), exg (by kernel_rfl)⟩
 ·clear hj hs
  rintro a w ⟨hs, g, rfl⟩
  refine then_n (ks16 _ _ ?_)
  refine wp_regS (l := [0, 1, 2, 3, 4, 5, 6, 7, 8, 9]) (by kernel_rfl) (by kernel_rfl) fun KR18 kr18 => ?_
  refine wpS.ps [(0, 19, .pointer (some ⟨b3, 0, none⟩)), (1, 20, .pointer (some ⟨b3, 0, none⟩)), (2, 21, .pointer (some ⟨b3, 0, none⟩)), (3, 22, .pointer (some ⟨b3, 0, none⟩))] (by kernel_rfl) ?_
  refine wpS.take 4 true (some 23) (.slice s5_A s5_n s5_c) (by kernel_rfl) (yld_load1 (e := 24) (o := 0) hs 1 rfl (by kernel_rfl) (by kernel_rfl) (by rfl) .grow) ?_
  refine wpS.p 5 24 (.slice a1_1_A a1_1_n a1_1_c) (by kernel_rfl) ?_
  obtain ⟨h0, h⟩ := of_chk h
  refine wpS.only 6 (op_appendT (C := (CI .u8)) (t := 24) (ty := 24) (e := 5) (bytes := 1) (B := 140737488355328) (d := (some 25)) (by kernel_rfl) hs 0 rfl (hs.rowR 1 rfl) (by kernel_rfl) (by kernel_rfl) (by kernel_rfl) (by kernel_rfl) (by kernel_rfl) h0 (by decide) (by decide) ?_)
  intro s8_A s8_n s8_c w hs
  refine ⟨fun _ => trivial, ?_⟩
  refine wpS.ps [(7, 26, .pointer (some ⟨b3, 0, none⟩)), (8, 27, .pointer (some ⟨b3, 0, none⟩))] (by kernel_rfl) ?_
  refine wpS.only 9 (op_store1 (t := 24) (o := 0) (v := .slice s8_A s8_n s8_c) (d := none) (by kernel_rfl) hs 1 rfl (by kernel_rfl) rfl (by kernel_rfl) (by simp) ?_)
  intro w kp hs
  refine ⟨fun _ => trivial, ?_⟩
  refine wpS.fin rfl (kr18 _ _ ?_)
  refine qn15 _ _ (post_nrm (by kernel_rfl) (run_results [] [] (by kernel_rfl) .nil) ?_)
  refine kI15 _ _ ?_
  refine ⟨fun _ => trivial, ?_⟩
  refine wpS.fin rfl (kr14 _ _ ?_)
  refine then_n (ks13 _ _ ?_)
  refine xseq_k fun KS19 ks19 => ?_
  refine wp_regS (l := [0, 1, 2, 3]) (by kernel_rfl) (by kernel_rfl) fun KR20 kr20 => ?_
  refine wpS.ps [(0, 22, .func (.func 38) #[.pointer (some ⟨b3, 0, none⟩)] #[]), (1, 23, .pointer (some ⟨b2, 2, none⟩))] (by kernel_rfl) ?_
  refine wpS.take 2 true (some 24) (.slice a1_2_A a1_2_n a1_2_c) (by kernel_rfl) (yld_load1 (e := 24) (o := 2) hs 2 rfl (by kernel_rfl) (by kernel_rfl) (by rfl) .grow) ?_
  refine wpS.only 3 (op_inline (d := (some 25)) (f := 38) (args := #[.pointer (some ⟨b3, 0, none⟩), .slice a1_2_A a1_2_n a1_2_c, .int .i64 64]) (by kernel_rfl) (fun _ => by kernel_rfl) fun R21 kI21 => ?_)
  refine calls_kn Try.func38 rfl fun Q21 qq21 qn21 => ?_
  refine wp_conv (a' := ⟨#[.pointer (some ⟨b3, 0, none⟩), .slice a1_2_A a1_2_n a1_2_c, .int .i64 64, undef, undef, undef, undef, undef, undef, undef, undef, undef, undef, undef, undef, undef, undef, undef, undef, undef, undef, undef, undef, undef, undef, undef, undef, undef], []⟩) (by kernel_rfl) ?_
  obtain ⟨y9_1, hj, h⟩ := of_bind h
  refine xseq_k fun KS22 ks22 => wp_join (N := fun a w => St w0 [] [.ownL (CI .u8) s8_A s8_n s8_c ((([] : List Int) ++ a1_0) ++ a1_1) 5, .blk b3 ([.slice s8_A s8_n s8_c, .bool y9_1]) 69, .blk b2 ([.slice a1_0_A a1_0_n a1_0_c, .slice a1_1_A a1_1_n a1_1_c, .slice a1_2_A a1_2_n a1_2_c, .slice a1_3_A a1_3_n a1_3_c, .slice a1_4_A a1_4_n a1_4_c, .slice a1_5_A a1_5_n a1_5_c]) 29, .blk b1 ([.int .i64 a0_0, .int .i64 a0_1, .int .i32 a0_2, .int .i64 a0_3, .int .i32 a0_4, .int .i32 a0_5, .int .i64 a0_6, .int .i64 a0_7]) 23] [.rowL (CI .u8) a1_0_A a1_0_n a1_0_c a1_0, .rowL (CI .u8) a1_1_A a1_1_n a1_1_c a1_1, .rowL (CI .u8) a1_2_A a1_2_n a1_2_c a1_2, .rowL (CA .i32 256 (by decide)) a1_3_A a1_3_n a1_3_c a1_3, .rowL (CA .i32 256 (by decide)) a1_4_A a1_4_n a1_4_c a1_4, .rowL (CA .i32 256 (by decide)) a1_5_A a1_5_n a1_5_c a1_5] w ∧ ∃ g : Nat → Value, a = ⟨#[.pointer (some ⟨b3, 0, none⟩), .slice a1_2_A a1_2_n a1_2_c, .int .i64 64, undef, undef, undef, (g 6), (g 7), (g 8), (g 9), (g 10), (g 11), (g 12), (g 13), (g 14), (g 15), (g 16), (g 17), (g 18), undef, undef, undef, undef, undef, undef, undef, undef, undef], []⟩) (fun N nj => ?_) ?_
  ·clear h
   have h := hj
   refine wp_regS (l := [0, 1, 2, 3, 4, 5, 6, 7, 8, 9, 10, 11, 12, 13]) (by kernel_rfl) (by kernel_rfl) fun KR23 kr23 => ?_
   refine wpS.ps [(0, 6, .pointer (some ⟨b3, 0, none⟩)), (1, 7, .pointer (some ⟨b3, 0, none⟩)), (2, 8, .pointer (some ⟨b3, 0, none⟩)), (3, 9, .pointer (some ⟨b3, 1, none⟩))] (by kernel_rfl) ?_
   cases y6_1 with
   | true =>
    have h := of_if_t h
    refine wpS.take 4 true (some 10) (.bool true) (by kernel_rfl) (yld_load1 (e := 4) (o := 1) hs 1 rfl (by kernel_rfl) (by kernel_rfl) (by rfl) .grow) ?_
    refine wpS.ps [(5, 11, .bool true), (6, 12, undef), (7, 13, undef), (8, 14, undef), (9, 15, undef), (10, 16, .bool true), (11, 17, .pointer (some ⟨b3, 0, none⟩)), (12, 18, .pointer (some ⟨b3, 1, none⟩))] (by kernel_rfl) ?_
    refine wpS.only 13 (op_store1 (t := 4) (o := 1) (v := .bool true) (d := none) (by kernel_rfl) hs 1 rfl (by kernel_rfl) rfl (by kernel_rfl) (by simp) ?_)
    intro w kp hs
    refine ⟨fun _ => trivial, ?_⟩
    refine wpS.fin rfl (kr23 _ _ ?_)
    have q0 := of_some h
    subst q0
    exact nj _ _ ⟨(hs.conv rfl), exg (by kernel_rfl)⟩
   | false =>
    have h := of_if_f h
    refine wpS.take 4 true (some 10) (.bool false) (by kernel_rfl) (yld_load1 (e := 4) (o := 1) hs 1 rfl (by kernel_rfl) (by kernel_rfl) (by rfl) .grow) ?_
    refine wpS.ps [(5, 11, .bool false), (6, 12, .slice a1_2_A a1_2_n a1_2_c)] (by kernel_rfl) ?_
    refine wpS.take 7 false (some 13) (.int .i64 (a1_2.length : Int)) (by kernel_rfl) (yld_lenL (hs.rowR 2 rfl) (fun _ => by kernel_rfl)) ?_
    refine wpS.ps [(8, 14, .int .i64 64), (9, 15, .bool ((a1_2.length : Int) != 64)), (10, 16, .bool ((a1_2.length : Int) != 64)), (11, 17, .pointer (some ⟨b3, 0, none⟩)), (12, 18, .pointer (some ⟨b3, 1, none⟩))] (by kernel_rfl) ?_
    obtain ⟨x10, hx, h⟩ := of_bind h
    refine wpS.only 13 (op_store1 (t := 4) (o := 1) (v := .bool x10) (d := none) (by kernel_rfl) hs 1 rfl (by cases hx; kernel_rfl) rfl (by kernel_rfl) (by simp) ?_)
    intro w kp hs
    refine ⟨fun _ => trivial, ?_⟩
    refine wpS.fin rfl (kr23 _ _ ?_)
    have q0 := of_some h
    subst q0
    exact nj _ _ ⟨(hs.conv rfl), exg (by kernel_rfl)⟩
  ·clear hj hs
   rintro a w ⟨hs, g, rfl⟩
   refine then_n (ks22 _ _ ?_)
   refine wp_regS (l := [0, 1, 2, 3, 4, 5, 6, 7, 8, 9]) (by kernel_rfl) (by kernel_rfl) fun KR24 kr24 => ?_
   refine wpS.ps [(0, 19, .pointer (some ⟨b3, 0, none⟩)), (1, 20, .pointer (some ⟨b3, 0, none⟩)), (2, 21, .pointer (some ⟨b3, 0, none⟩)), (3, 22, .pointer (some ⟨b3, 0, none⟩))] (by kernel_rfl) ?_
   refine wpS.take 4 true (some 23) (.slice s8_A s8_n s8_c) (by kernel_rfl) (yld_load1 (e := 24) (o := 0) hs 1 rfl (by kernel_rfl) (by kernel_rfl) (by rfl) .grow) ?_
   refine wpS.p 5 24 (.slice a1_2_A a1_2_n a1_2_c) (by kernel_rfl) ?_
   obtain ⟨h0, h⟩ := of_chk h
   refine wpS.only 6 (op_appendT (C := (CI .u8)) (t := 24) (ty := 24) (e := 5) (bytes := 1) (B := 140737488355328) (d := (some 25)) (by kernel_rfl) hs 0 rfl (hs.rowR 2 rfl) (by kernel_rfl) (by kernel_rfl) (by kernel_rfl) (by kernel_rfl) (by kernel_rfl) h0 (by decide) (by decide) ?_)
   intro s11_A s11_n s11_c w hs
   refine ⟨fun _ => trivial, ?_⟩
   refine wpS.ps [(7, 26, .pointer (some ⟨b3, 0, none⟩)), (8, 27, .pointer (some ⟨b3, 0, none⟩))] (by kernel_rfl) ?_
   refine wpS.only 9 (op_store1 (t := 24) (o := 0) (v := .slice s11_A s11_n s11_c) (d := none) (by kernel_rfl) hs 1 rfl (by kernel_rfl) rfl (by kernel_rfl) (by simp) ?_)
   intro w kp hs
   refine ⟨fun _ => trivial, ?_⟩
   refine wpS.fin rfl (kr24 _ _ ?_)
   refine qn21 _ _ (post_nrm (by kernel_rfl) (run_results [] [] (by kernel_rfl) .nil) ?_)
   refine kI21 _ _ ?_
   refine ⟨fun _ => trivial, ?_⟩
   refine wpS.fin rfl (kr20 _ _ ?_)
   refine then_n (ks19 _ _ ?_)
   refine xseq_k fun KS25 ks25 => ?_
   refine wp_regS (l := [0, 1, 2, 3, 4, 5, 6, 7, 8, 9, 10]) (by kernel_rfl) (by kernel_rfl) fun KR26 kr26 => ?_
   refine wpS.ps [(0, 26, .func (.func 39) #[.pointer (some ⟨b3, 0, none⟩)] #[]), (1, 27, .pointer (some ⟨b2, 3, none⟩))] (by kernel_rfl) ?_
   refine wpS.take 2 true (some 28) (.slice a1_3_A a1_3_n a1_3_c) (by kernel_rfl) (yld_load1 (e := 25) (o := 3) hs 2 rfl (by kernel_rfl) (by kernel_rfl) (by rfl) .grow) ?_
   refine wpS.p 3 29 (.pointer (some ⟨b1, 1, none⟩)) (by kernel_rfl) ?_
   refine wpS.take 4 true (some 30) (.int .i64 a0_1) (by kernel_rfl) (yld_load1 (e := 3) (o := 1) hs 3 rfl (by kernel_rfl) (by kernel_rfl) (by rfl) .grow) ?_
   refine wpS.p 5 31 (.pointer (some ⟨b1, 2, none⟩)) (by kernel_rfl) ?_
   refine wpS.take 6 true (some 32) (.int .i32 a0_2) (by kernel_rfl) (yld_load1 (e := 21) (o := 2) hs 3 rfl (by kernel_rfl) (by kernel_rfl) (by rfl) .grow) ?_
   refine wpS.p 7 33 (.pointer (some ⟨b1, 2, none⟩)) (by kernel_rfl) ?_
   refine wpS.take 8 true (some 34) (.int .i32 a0_2) (by kernel_rfl) (yld_load1 (e := 21) (o := 2) hs 3 rfl (by kernel_rfl) (by kernel_rfl) (by rfl) .grow) ?_
   refine wpS.p 9 35 (.agg #[.int .i32 a0_2, .int .i32 a0_2]) (by kernel_rfl) ?_
   refine wpS.only 10 (op_inline (d := (some 36)) (f := 39) (args := #[.pointer (some ⟨b3, 0, none⟩), .slice a1_3_A a1_3_n a1_3_c, .int .i64 a0_1, .agg #[.int .i32 a0_2, .int .i32 a0_2]]) (by kernel_rfl) (fun _ => by kernel_rfl) fun R27 kI27 => ?_)
   refine calls_kn Try.func39 rfl fun Q27 qq27 qn27 => ?_
   refine wp_conv (a' := ⟨#[.pointer (some ⟨b3, 0, none⟩), .slice a1_3_A a1_3_n a1_3_c, .int .i64 a0_1, .agg #[.int .i32 a0_2, .int .i32 a0_2], undef, undef, undef, undef, undef, undef, undef, undef, undef, undef, undef, undef, undef, undef, undef, undef, undef, undef, undef, undef, undef, undef, undef, undef, undef, undef, undef, undef, undef, undef, undef, undef, undef, undef, undef, undef, undef, undef, undef, undef, undef, undef, undef, undef, undef, undef, undef, undef, undef, undef, undef, undef, undef], []⟩) (by kernel_rfl) ?_
   refine xseq_k fun KS28 ks28 => ?_
   refine wp_regS (l := [0]) (by kernel_rfl) (by kernel_rfl) fun KR29 kr29 => ?_
   refine wpS.only 0 (op_box (t := 73) (v := .agg #[.int .i32 a0_2, .int .i32 a0_2]) (d := (some 7)) (by kernel_rfl) hs ([.int .i32 a0_2, .int .i32 a0_2]) (by kernel_rfl) (by kernel_rfl) ?_)
   intro b12 w gw hs
   refine ⟨fun _ => trivial, ?_⟩
   refine wpS.fin rfl (kr29 _ _ ?_)
   refine then_n (ks28 _ _ ?_)
   obtain ⟨y13_1, hj, h⟩ := of_bind h
   refine xseq_k fun KS30 ks30 => wp_join (N := fun a w => St w0 [] [.blk b12 ([.int .i32 a0_2, .int .i32 a0_2]) 73, .ownL (CI .u8) s11_A s11_n s11_c (((([] : List Int) ++ a1_0) ++ a1_1) ++ a1_2) 5, .blk b3 ([.slice s11_A s11_n s11_c, .bool y13_1]) 69, .blk b2 ([.slice a1_0_A a1_0_n a1_0_c, .slice a1_1_A a1_1_n a1_1_c, .slice a1_2_A a1_2_n a1_2_c, .slice a1_3_A a1_3_n a1_3_c, .slice a1_4_A a1_4_n a1_4_c, .slice a1_5_A a1_5_n a1_5_c]) 29, .blk b1 ([.int .i64 a0_0, .int .i64 a0_1, .int .i32 a0_2, .int .i64 a0_3, .int .i32 a0_4, .int .i32 a0_5, .int .i64 a0_6, .int .i64 a0_7]) 23] [.rowL (CI .u8) a1_0_A a1_0_n a1_0_c a1_0, .rowL (CI .u8) a1_1_A a1_1_n a1_1_c a1_1, .rowL (CI .u8) a1_2_A a1_2_n a1_2_c a1_2, .rowL (CA .i32 256 (by decide)) a1_3_A a1_3_n a1_3_c a1_3, .rowL (CA .i32 256 (by decide)) a1_4_A a1_4_n a1_4_c a1_4, .rowL (CA .i32 256 (by decide)) a1_5_A a1_5_n a1_5_c a1_5] w ∧ ∃ g : Nat → Value, a = ⟨#[.pointer (some ⟨b3, 0, none⟩), .slice a1_3_A a1_3_n a1_3_c, .int .i64 a0_1, .agg #[.int .i32 a0_2, .int .i32 a0_2], undef, undef, undef, .pointer (some ⟨b12, 0, none⟩), undef, undef, undef, (g 11), (g 12), (g 13), (g 14), (g 15), (g 16), (g 17), (g 18), (g 19), (g 20), (g 21), (g 22), (g 23), undef, undef, undef, undef, undef, undef, undef, undef, undef, undef, undef, undef, undef, undef, undef, undef, undef, undef, undef, undef, undef, undef, undef, undef, undef, undef, undef, undef, undef, undef, undef, undef, undef], []⟩) (fun N nj => ?_) ?_
   ·clear h
    have h := hj
    refine wp_regS (l := [0, 1, 2, 3, 4, 5, 6, 7, 8, 9, 10, 11, 12, 13]) (by kernel_rfl) (by kernel_rfl) fun KR31 kr31 => ?_
    refine wpS.ps [(0, 11, .pointer (some ⟨b3, 0, none⟩)), (1, 12, .pointer (some ⟨b3, 0, none⟩)), (2, 13, .pointer (some ⟨b3, 0, none⟩)), (3, 14, .pointer (some ⟨b3, 1, none⟩))] (by kernel_rfl) ?_
    cases y9_1 with
    | true =>
     have h := of_if_t h
     refine wpS.take 4 true (some 15) (.bool true) (by kernel_rfl) (yld_load1 (e := 4) (o := 1) hs 2 rfl (by kernel_rfl) (by kernel_rfl) (by rfl) .grow) ?_
     refine wpS.ps [(5, 16, .bool true), (6, 17, undef), (7, 18, undef), (8, 19, undef), (9, 20, undef), (10, 21, .bool true), (11, 22, .pointer (some ⟨b3, 0, none⟩)), (12, 23, .pointer (some ⟨b3, 1, none⟩))] (by kernel_rfl) ?_
     refine wpS.only 13 (op_store1 (t := 4) (o := 1) (v := .bool true) (d := none) (by kernel_rfl) hs 2 rfl (by kernel_rfl) rfl (by kernel_rfl) (by simp) ?_)
     intro w kp hs
     refine ⟨fun _ => trivial, ?_⟩
     refine wpS.fin rfl (kr31 _ _ ?_)
     have q0 := of_some h
     subst q0
     exact nj _ _ ⟨(hs.conv rfl), exg (by kernel_rfl)⟩
    | false =>
     have h := of_if_f h
     refine wpS.take 4 true (some 15) (.bool false) (by kernel_rfl) (yld_load1 (e := 4) (o := 1) hs 2 rfl (by kernel_rfl) (by kernel_rfl) (by rfl) .grow) ?_
     refine wpS.ps [(5, 16, .bool false), (6, 17, .slice a1_3_A a1_3_n a1_3_c)] (by kernel_rfl) ?_
     refine wpS.take 7 false (some 18) (.int .i64 (a1_3.length : Int)) (by kernel_rfl) (yld_lenL (hs.rowR 3 rfl) (fun _ => by kernel_rfl)) ?_
     refine wpS.ps [(8, 19, .int .i64 a0_1), (9, 20, .bool ((a1_3.length : Int) != a0_1)), (10, 21, .bool ((a1_3.length : Int) != a0_1)), (11, 22, .pointer (some ⟨b3, 0, none⟩)), (12, 23, .pointer (some ⟨b3, 1, none⟩))] (by kernel_rfl) ?_
     obtain ⟨x14, hx, h⟩ := of_bind h
     refine wpS.only 13 (op_store1 (t := 4) (o := 1) (v := .bool x14) (d := none) (by kernel_rfl) hs 2 rfl (by cases hx; kernel_rfl) rfl (by kernel_rfl) (by simp) ?_)
     intro w kp hs
     refine ⟨fun _ => trivial, ?_⟩
     refine wpS.fin rfl (kr31 _ _ ?_)
     have q0 := of_some h
     subst q0
     exact nj _ _ ⟨(hs.conv rfl), exg (by kernel_rfl)⟩
   ·clear hj hs
    rintro a w ⟨hs, g, rfl⟩
    refine then_n (ks30 _ _ ?_)
    refine xseq_k fun KS32 ks32 => ?_
    refine wp_regS (l := [0, 1, 2]) (by kernel_rfl) (by kernel_rfl) fun KR33 kr33 => ?_
    refine wpS.p 0 24 (.slice a1_3_A a1_3_n a1_3_c) (by kernel_rfl) ?_
    refine wpS.take 1 false (some 25) (.int .i64 (a1_3.length : Int)) (by kernel_rfl) (yld_lenL (hs.rowR 3 rfl) (fun _ => by kernel_rfl)) ?_
    refine wpS.p 2 26 (.int .i64 0) (by kernel_rfl) ?_
    refine wpS.fin rfl (kr33 _ _ ?_)
    refine then_n (ks32 _ _ ?_)
    obtain ⟨⟨y18, y19_1⟩, hy, hk0⟩ := of_bind h
    refine wp_exq (N := fun a w => ∃ (y18_A : Option Addr) (y18_n : Nat) (y18_c : Nat), St w0 [] [.blk b12 ([.int .i32 a0_2, .int .i32 a0_2]) 73, .ownL (CI .u8) y18_A y18_n y18_c y18 5, .blk b3 ([.slice y18_A y18_n y18_c, .bool y19_1]) 69, .blk b2 ([.slice a1_0_A a1_0_n a1_0_c, .slice a1_1_A a1_1_n a1_1_c, .slice a1_2_A a1_2_n a1_2_c, .slice a1_3_A a1_3_n a1_3_c, .slice a1_4_A a1_4_n a1_4_c, .slice a1_5_A a1_5_n a1_5_c]) 29, .blk b1 ([.int .i64 a0_0, .int .i64 a0_1, .int .i32 a0_2, .int .i64 a0_3, .int .i32 a0_4, .int .i32 a0_5, .int .i64 a0_6, .int .i64 a0_7]) 23] [.rowL (CI .u8) a1_0_A a1_0_n a1_0_c a1_0, .rowL (CI .u8) a1_1_A a1_1_n a1_1_c a1_1, .rowL (CI .u8) a1_2_A a1_2_n a1_2_c a1_2, .rowL (CA .i32 256 (by decide)) a1_3_A a1_3_n a1_3_c a1_3, .rowL (CA .i32 256 (by decide)) a1_4_A a1_4_n a1_4_c a1_4, .rowL (CA .i32 256 (by decide)) a1_5_A a1_5_n a1_5_c a1_5] w ∧ ∃ g : Nat → Value, a = ⟨#[.pointer (some ⟨b3, 0, none⟩), .slice a1_3_A a1_3_n a1_3_c, .int .i64 a0_1, .agg #[.int .i32 a0_2, .int .i32 a0_2], undef, undef, undef, .pointer (some ⟨b12, 0, none⟩), undef, (g 9), (g 10), (g 11), (g 12), (g 13), (g 14), (g 15), (g 16), (g 17), (g 18), (g 19), (g 20), (g 21), (g 22), (g 23), .slice a1_3_A a1_3_n a1_3_c, .int .i64 (a1_3.length : Int), (g 26), (g 27), (g 28), (g 29), (g 30), (g 31), (g 32), (g 33), (g 34), (g 35), (g 36), (g 37), (g 38), (g 39), (g 40), (g 41), (g 42), (g 43), (g 44), (g 45), (g 46), (g 47), (g 48), (g 49), (g 50), (g 51), (g 52), (g 53), (g 54), (g 55), (g 56)], []⟩) (fun N0 nn0 => ?_) ?_
    ·clear hk0
     refine xblock ?_
     refine wp_loop_k (fun n a w => ∃ z15 z16 z17_1, ∃ (z16_A : Option Addr) (z16_n : Nat) (z16_c : Nat), dpack_Private.l0 K n a0_2 a1_3 z15 z16 z17_1 = some (y18, y19_1) ∧ St w0 [] [.blk b12 ([.int .i32 a0_2, .int .i32 a0_2]) 73, .ownL (CI .u8) z16_A z16_n z16_c z16 5, .blk b3 ([.slice z16_A z16_n z16_c, .bool z17_1]) 69, .blk b2 ([.slice a1_0_A a1_0_n a1_0_c, .slice a1_1_A a1_1_n a1_1_c, .slice a1_2_A a1_2_n a1_2_c, .slice a1_3_A a1_3_n a1_3_c, .slice a1_4_A a1_4_n a1_4_c, .slice a1_5_A a1_5_n a1_5_c]) 29, .blk b1 ([.int .i64 a0_0, .int .i64 a0_1, .int .i32 a0_2, .int .i64 a0_3, .int .i32 a0_4, .int .i32 a0_5, .int .i64 a0_6, .int .i64 a0_7]) 23] [.rowL (CI .u8) a1_0_A a1_0_n a1_0_c a1_0, .rowL (CI .u8) a1_1_A a1_1_n a1_1_c a1_1, .rowL (CI .u8) a1_2_A a1_2_n a1_2_c a1_2, .rowL (CA .i32 256 (by decide)) a1_3_A a1_3_n a1_3_c a1_3, .rowL (CA .i32 256 (by decide)) a1_4_A a1_4_n a1_4_c a1_4, .rowL (CA .i32 256 (by decide)) a1_5_A a1_5_n a1_5_c a1_5] w ∧ ∃ g : Nat → Value, a = ⟨#[.pointer (some ⟨b3, 0, none⟩), .slice a1_3_A a1_3_n a1_3_c, .int .i64 a0_1, .agg #[.int .i32 a0_2, .int .i32 a0_2], undef, undef, undef, .pointer (some ⟨b12, 0, none⟩), undef, (g 9), (g 10), (g 11), (g 12), (g 13), (g 14), (g 15), (g 16), (g 17), (g 18), (g 19), (g 20), (g 21), (g 22), (g 23), .slice a1_3_A a1_3_n a1_3_c, .int .i64 (a1_3.length : Int), .int .i64 z15, (g 27), (g 28), (g 29), (g 30), (g 31), (g 32), (g 33), (g 34), (g 35), (g 36), (g 37), (g 38), (g 39), (g 40), (g 41), (g 42), (g 43), (g 44), (g 45), (g 46), (g 47), (g 48), (g 49), (g 50), (g 51), (g 52), (g 53), (g 54), (g 55), (g 56)], []⟩) K ⟨0, (((([] : List Int) ++ a1_0) ++ a1_1) ++ a1_2), y13_1, s11_A, s11_n, s11_c, hy, hs.conv rfl, exg (by kernel_rfl)⟩ ?_
     clear hs h hy
     rintro n a w ⟨z15, z16, z17_1, z16_A, z16_n, z16_c, h, hs, g, rfl⟩ KL0 kl0
     cases n with
     | zero => exact nomatch (show none = some _ from h)
     | succ n =>
      refine xseq_k fun KS34 ks34 => ?_
      refine wp_regS (l := [0]) (by kernel_rfl) (by kernel_rfl) fun KR35 kr35 => ?_
      rcases of_if h with ⟨hc, h⟩ | ⟨hc, h⟩
      ·refine wpS.take 0 false (some 27) (.bool true) (by kernel_rfl) (yld_b (dt hc) (fun _ => by kernel_rfl)) ?_
       refine wpS.fin rfl (kr35 _ _ ?_)
       refine then_n (ks34 _ _ ?_)
       refine xseq_k fun KS36 ks36 => ?_
       refine wp_cond_t (by kernel_rfl) ?_
       refine xskip ?_
       refine then_n (ks36 _ _ ?_)
       refine xseq_k fun KS37 ks37 => ?_
       refine xblock ?_
       refine xseq_k fun KS38 ks38 => ?_
       refine wp_regS (l := [0, 1, 2, 3]) (by kernel_rfl) (by kernel_rfl) fun KR39 kr39 => ?_
       obtain ⟨h0, h⟩ := of_chk h
       obtain ⟨h1, h⟩ := of_chk h
       have i0_40 := h0
       have i1_40 := h1
       refine wpS.take 0 false (some 28) (.pointer (adr a1_3_A ((z15 : Int).toNat * Cod.size (CA .i32 256 (by decide))))) (by kernel_rfl) (yld_idxL (C := (CA .i32 256 (by decide))) (t := 25) (e := 40) (k := .i64) (x := z15) (hs.rowR 3 rfl) (by kernel_rfl) (by kernel_rfl) (by kernel_rfl) h0 h1) ?_
       refine wpS.take 1 true (some 29) (.agg (enc .i32 (rdL (CA .i32 256 (by decide)) a1_3 z15)).toArray) (by kernel_rfl) (yld_loadLA (C := (CA .i32 256 (by decide))) (e := 40) (x := z15) (hs.rowR 3 rfl) (by kernel_rfl) rfl (by kernel_rfl) (by kernel_rfl) i0_40 i1_40) ?_
       refine wpS.only 2 (op_alloc (t := 40) (d := (some 9)) (by kernel_rfl) hs (enc .i32 (zeroA 256)) (.agg (enc .i32 (zeroA 256)).toArray) (by kernel_rfl) (by kernel_rfl) (by kernel_rfl) ?_)
       intro b20 w gw hs
       refine ⟨fun _ => trivial, ?_⟩
       refine wpS.only 3 (op_storeW (t := 40) (v := .agg (enc .i32 (rdL (CA .i32 256 (by decide)) a1_3 z15)).toArray) (d := none) (by kernel_rfl) hs 0 rfl (vs := enc .i32 (rdL (CA .i32 256 (by decide)) a1_3 z15)) (n := 256) (by kernel_rfl) (by kernel_rfl) (by kernel_rfl) (by simp [enc_len]) (by simp [enc_len]) (by intro u hu; exact enc_one _ _ u hu) ?_)
       intro w kp hs
       refine ⟨fun _ => trivial, ?_⟩
       refine wpS.fin rfl (kr39 _ _ ?_)
       refine then_n (ks38 _ _ ?_)
       refine xseq_k fun KS41 ks41 => ?_
       refine wp_regS (l := [0, 1, 2, 3, 4, 5, 6]) (by kernel_rfl) (by kernel_rfl) fun KR42 kr42 => ?_
       refine wpS.take 0 true (some 30) (.agg (enc .i32 (rdL (CA .i32 256 (by decide)) a1_3 z15)).toArray) (by kernel_rfl) (yld_loadW (e := 40) (n := 256) hs 0 rfl (by kernel_rfl) (by kernel_rfl) (by kernel_rfl) (by exact enc_len _ _) .grow) ?_
       refine wpS.p 1 31 (.pointer (some ⟨b12, 0, none⟩)) (by kernel_rfl) ?_
       refine wpS.take 2 true (some 32) (.int .i32 a0_2) (by kernel_rfl) (yld_load1 (e := 21) (o := 0) hs 1 rfl (by kernel_rfl) (by kernel_rfl) (by rfl) .grow) ?_
       refine wpS.p 3 33 (.pointer (some ⟨b12, 1, none⟩)) (by kernel_rfl) ?_
       refine wpS.take 4 true (some 34) (.int .i32 a0_2) (by kernel_rfl) (yld_load1 (e := 21) (o := 1) hs 1 rfl (by kernel_rfl) (by kernel_rfl) (by rfl) .grow) ?_
       obtain ⟨r21, hg, h⟩ := of_bind h
       refine wpS.only 5 (op_callHF (d := (some 35)) (by kernel_rfl) hs (fun _ => by kernel_rfl) (dpack_Pack.ok hg _) ?_)
       rintro ⟨r21_A, r21_n, r21_c⟩ w hne43 gw hs
       have hs := hs.conv (L' := [.ownL (CI .u8) r21_A r21_n r21_c r21 5, .blk b20 (enc .i32 (rdL (CA .i32 256 (by decide)) a1_3 z15)) 40, .blk b12 ([.int .i32 a0_2, .int .i32 a0_2]) 73, .ownL (CI .u8) z16_A z16_n z16_c z16 5, .blk b3 ([.slice z16_A z16_n z16_c, .bool z17_1]) 69, .blk b2 ([.slice a1_0_A a1_0_n a1_0_c, .slice a1_1_A a1_1_n a1_1_c, .slice a1_2_A a1_2_n a1_2_c, .slice a1_3_A a1_3_n a1_3_c, .slice a1_4_A a1_4_n a1_4_c, .slice a1_5_A a1_5_n a1_5_c]) 29, .blk b1 ([.int .i64 a0_0, .int .i64 a0_1, .int .i32 a0_2, .int .i64 a0_3, .int .i32 a0_4, .int .i32 a0_5, .int .i64 a0_6, .int .i64 a0_7]) 23]) rfl
       refine ⟨fun _ => trivial, ?_⟩
       refine wpS.p 6 10 (.slice r21_A r21_n r21_c) (by kernel_rfl) ?_
       refine wpS.fin rfl (kr42 _ _ ?_)
       refine then_n (ks41 _ _ ?_)
       obtain ⟨y22_1, hj, h⟩ := of_bind h
       refine xseq_k fun KS44 ks44 => wp_join (N := fun a w => St w0 [] [.ownL (CI .u8) r21_A r21_n r21_c r21 5, .blk b20 (enc .i32 (rdL (CA .i32 256 (by decide)) a1_3 z15)) 40, .blk b12 ([.int .i32 a0_2, .int .i32 a0_2]) 73, .ownL (CI .u8) z16_A z16_n z16_c z16 5, .blk b3 ([.slice z16_A z16_n z16_c, .bool y22_1]) 69, .blk b2 ([.slice a1_0_A a1_0_n a1_0_c, .slice a1_1_A a1_1_n a1_1_c, .slice a1_2_A a1_2_n a1_2_c, .slice a1_3_A a1_3_n a1_3_c, .slice a1_4_A a1_4_n a1_4_c, .slice a1_5_A a1_5_n a1_5_c]) 29, .blk b1 ([.int .i64 a0_0, .int .i64 a0_1, .int .i32 a0_2, .int .i64 a0_3, .int .i32 a0_4, .int .i32 a0_5, .int .i64 a0_6, .int .i64 a0_7]) 23] [.rowL (CI .u8) a1_0_A a1_0_n a1_0_c a1_0, .rowL (CI .u8) a1_1_A a1_1_n a1_1_c a1_1, .rowL (CI .u8) a1_2_A a1_2_n a1_2_c a1_2, .rowL (CA .i32 256 (by decide)) a1_3_A a1_3_n a1_3_c a1_3, .rowL (CA .i32 256 (by decide)) a1_4_A a1_4_n a1_4_c a1_4, .rowL (CA .i32 256 (by decide)) a1_5_A a1_5_n a1_5_c a1_5] w ∧ ∃ g : Nat → Value, a = ⟨#[.pointer (some ⟨b3, 0, none⟩), .slice a1_3_A a1_3_n a1_3_c, .int .i64 a0_1, .agg #[.int .i32 a0_2, .int .i32 a0_2], undef, undef, undef, .pointer (some ⟨b12, 0, none⟩), undef, .pointer (some ⟨b20, 0, none⟩), .slice r21_A r21_n r21_c, (g 11), (g 12), (g 13), (g 14), (g 15), (g 16), (g 17), (g 18), (g 19), (g 20), (g 21), (g 22), (g 23), .slice a1_3_A a1_3_n a1_3_c, .int .i64 (a1_3.length : Int), .int .i64 z15, .bool true, .pointer (adr a1_3_A ((z15 : Int).toNat * Cod.size (CA .i32 256 (by decide)))), .agg (enc .i32 (rdL (CA .i32 256 (by decide)) a1_3 z15)).toArray, .agg (enc .i32 (rdL (CA .i32 256 (by decide)) a1_3 z15)).toArray, .pointer (some ⟨b12, 0, none⟩), .int .i32 a0_2, .pointer (some ⟨b12, 1, none⟩), .int .i32 a0_2, .slice r21_A r21_n r21_c, (g 36), (g 37), (g 38), (g 39), (g 40), (g 41), (g 42), (g 43), (g 44), (g 45), (g 46), (g 47), (g 48), (g 49), (g 50), (g 51), (g 52), (g 53), (g 54), (g 55), (g 56)], []⟩) (fun N nj => ?_) ?_
       ·clear h
        have h := hj
        refine wp_regS (l := [0, 1, 2, 3, 4, 5, 6, 7, 8, 9, 10, 11]) (by kernel_rfl) (by kernel_rfl) fun KR45 kr45 => ?_
        refine wpS.ps [(0, 36, .pointer (some ⟨b3, 0, none⟩)), (1, 37, .pointer (some ⟨b3, 0, none⟩)), (2, 38, .pointer (some ⟨b3, 0, none⟩)), (3, 39, .pointer (some ⟨b3, 1, none⟩))] (by kernel_rfl) ?_
        cases z17_1 with
        | true =>
         have h := of_if_t h
         refine wpS.take 4 true (some 40) (.bool true) (by kernel_rfl) (yld_load1 (e := 4) (o := 1) hs 4 rfl (by kernel_rfl) (by kernel_rfl) (by rfl) .grow) ?_
         refine wpS.ps [(5, 41, .bool true), (6, 42, undef), (7, 43, undef), (8, 44, .bool true), (9, 45, .pointer (some ⟨b3, 0, none⟩)), (10, 46, .pointer (some ⟨b3, 1, none⟩))] (by kernel_rfl) ?_
         refine wpS.only 11 (op_store1 (t := 4) (o := 1) (v := .bool true) (d := none) (by kernel_rfl) hs 4 rfl (by kernel_rfl) rfl (by kernel_rfl) (by simp) ?_)
         intro w kp hs
         refine ⟨fun _ => trivial, ?_⟩
         refine wpS.fin rfl (kr45 _ _ ?_)
         have q0 := of_some h
         subst q0
         exact nj _ _ ⟨(hs.conv rfl), exg (by kernel_rfl)⟩
        | false =>
         have h := of_if_f h
         refine wpS.take 4 true (some 40) (.bool false) (by kernel_rfl) (yld_load1 (e := 4) (o := 1) hs 4 rfl (by kernel_rfl) (by kernel_rfl) (by rfl) .grow) ?_
         refine wpS.ps [(5, 41, .bool false), (6, 42, .slice r21_A r21_n r21_c)] (by kernel_rfl) ?_
         refine wpS.take 7 false (some 43) (.bool ((r21).isEmpty)) (by kernel_rfl) (yld_nilS (t := 24) (e := 5) (C := (CI .u8)) (.tmp 42) (.const (.slice none 0 0)) (hs.rowL 0 rfl) hne43 (by kernel_rfl) (by kernel_rfl) (by kernel_rfl)) ?_
         refine wpS.ps [(8, 44, .bool ((r21).isEmpty)), (9, 45, .pointer (some ⟨b3, 0, none⟩)), (10, 46, .pointer (some ⟨b3, 1, none⟩))] (by kernel_rfl) ?_
         obtain ⟨x23, hx, h⟩ := of_bind h
         refine wpS.only 11 (op_store1 (t := 4) (o := 1) (v := .bool x23) (d := none) (by kernel_rfl) hs 4 rfl (by cases hx; kernel_rfl) rfl (by kernel_rfl) (by simp) ?_)
         intro w kp hs
         refine ⟨fun _ => trivial, ?_⟩
         refine wpS.fin rfl (kr45 _ _ ?_)
         have q0 := of_some h
         subst q0
         exact nj _ _ ⟨(hs.conv rfl), exg (by kernel_rfl)⟩
       ·clear hj hs
        rintro a w ⟨hs, g, rfl⟩
        refine then_n (ks44 _ _ ?_)
        refine wp_regS (l := [0, 1, 2, 3, 4, 5, 6, 7, 8, 9]) (by kernel_rfl) (by kernel_rfl) fun KR46 kr46 => ?_
        refine wpS.ps [(0, 47, .pointer (some ⟨b3, 0, none⟩)), (1, 48, .pointer (some ⟨b3, 0, none⟩)), (2, 49, .pointer (some ⟨b3, 0, none⟩)), (3, 50, .pointer (some ⟨b3, 0, none⟩))] (by kernel_rfl) ?_
        refine wpS.take 4 true (some 51) (.slice z16_A z16_n z16_c) (by kernel_rfl) (yld_load1 (e := 24) (o := 0) hs 4 rfl (by kernel_rfl) (by kernel_rfl) (by rfl) .grow) ?_
        refine wpS.p 5 52 (.slice r21_A r21_n r21_c) (by kernel_rfl) ?_
        obtain ⟨h0, h⟩ := of_chk h
        refine wpS.only 6 (op_appendT (C := (CI .u8)) (t := 24) (ty := 24) (e := 5) (bytes := 1) (B := 140737488355328) (d := (some 53)) (by kernel_rfl) hs 3 rfl (hs.rowL 0 rfl) (by kernel_rfl) (by kernel_rfl) (by kernel_rfl) (by kernel_rfl) (by kernel_rfl) h0 (by decide) (by decide) ?_)
        intro s24_A s24_n s24_c w hs
        refine ⟨fun _ => trivial, ?_⟩
        refine wpS.ps [(7, 54, .pointer (some ⟨b3, 0, none⟩)), (8, 55, .pointer (some ⟨b3, 0, none⟩))] (by kernel_rfl) ?_
        refine wpS.only 9 (op_store1 (t := 24) (o := 0) (v := .slice s24_A s24_n s24_c) (d := none) (by kernel_rfl) hs 4 rfl (by kernel_rfl) rfl (by kernel_rfl) (by simp) ?_)
        intro w kp hs
        refine ⟨fun _ => trivial, ?_⟩
        refine wpS.fin rfl (kr46 _ _ ?_)
        refine inBlock_n ?_
        refine then_n (ks37 _ _ ?_)
        refine wp_regS (l := [0, 1]) (by kernel_rfl) (by kernel_rfl) fun KR47 kr47 => ?_
        refine wpS.ps [(0, 56, .int .i64 (iadd .i64 z15 1)), (1, 26, .int .i64 (iadd .i64 z15 1))] (by kernel_rfl) ?_
        refine wpS.fin rfl (kr47 _ _ ?_)
        exact then_n (kl0 _ _ ⟨n, Nat.lt_succ_self n, (iadd .i64 z15 1), (z16 ++ r21), y22_1, s24_A, s24_n, s24_c, h, (hs.drop (.cons _ (.cons _ (.cons_cons _ (.cons_cons _ (.cons_cons _ (.cons_cons _ (.cons_cons _ .slnil)))))))), exg (by kernel_rfl)⟩)
      ·refine wpS.take 0 false (some 27) (.bool false) (by kernel_rfl) (yld_b (df hc) (fun _ => by kernel_rfl)) ?_
       refine wpS.fin rfl (kr35 _ _ ?_)
       refine then_n (ks34 _ _ ?_)
       refine xseq_k fun KS48 ks48 => ?_
       refine wp_cond_f (by kernel_rfl) ?_
       refine xexit ?_
       refine then_x ?_
       refine then_x ?_
       refine inBlock_hit ?_
       obtain ⟨q0, qr0⟩ := Prod.mk.inj (of_some h)
       have q1 := qr0
       subst q0
       subst q1
       exact exq_n (nn0 _ _ ⟨z16_A, z16_n, z16_c, (hs.conv rfl), exg (by kernel_rfl)⟩)
    ·clear hs h hy
     rintro a w ⟨y18_A, y18_n, y18_c, hs, g, rfl⟩
     have h := hk0
     refine qn27 _ _ (post_nrm (by kernel_rfl) (run_results [] [] (by kernel_rfl) .nil) ?_)
     refine kI27 _ _ ?_
     refine ⟨fun _ => trivial, ?_⟩
     refine wpS.fin rfl (kr26 _ _ ?_)
     refine then_n (ks25 _ _ ?_)
     refine xseq_k fun KS49 ks49 => ?_
     refine wp_regS (l := [0, 1, 2, 3, 4, 5, 6, 7, 8, 9, 10]) (by kernel_rfl) (by kernel_rfl) fun KR50 kr50 => ?_
     refine wpS.ps [(0, 37, .func (.func 39) #[.pointer (some ⟨b3, 0, none⟩)] #[]), (1, 38, .pointer (some ⟨b2, 4, none⟩))] (by kernel_rfl) ?_
     refine wpS.take 2 true (some 39) (.slice a1_4_A a1_4_n a1_4_c) (by kernel_rfl) (yld_load1 (e := 25) (o := 4) hs 3 rfl (by kernel_rfl) (by kernel_rfl) (by rfl) .grow) ?_
     refine wpS.p 3 40 (.pointer (some ⟨b1, 0, none⟩)) (by kernel_rfl) ?_
     refine wpS.take 4 true (some 41) (.int .i64 a0_0) (by kernel_rfl) (yld_load1 (e := 3) (o := 0) hs 4 rfl (by kernel_rfl) (by kernel_rfl) (by rfl) .grow) ?_
     refine wpS.p 5 42 (.pointer (some ⟨b1, 2, none⟩)) (by kernel_rfl) ?_
     refine wpS.take 6 true (some 43) (.int .i32 a0_2) (by kernel_rfl) (yld_load1 (e := 21) (o := 2) hs 4 rfl (by kernel_rfl) (by kernel_rfl) (by rfl) .grow) ?_
     refine wpS.p 7 44 (.pointer (some ⟨b1, 2, none⟩)) (by kernel_rfl) ?_
     refine wpS.take 8 true (some 45) (.int .i32 a0_2) (by kernel_rfl) (yld_load1 (e := 21) (o := 2) hs 4 rfl (by kernel_rfl) (by kernel_rfl) (by rfl) .grow) ?_
     refine wpS.p 9 46 (.agg #[.int .i32 a0_2, .int .i32 a0_2]) (by kernel_rfl) ?_
     refine wpS.only 10 (op_inline (d := (some 47)) (f := 39) (args := #[.pointer (some ⟨b3, 0, none⟩), .slice a1_4_A a1_4_n a1_4_c, .int .i64 a0_0, .agg #[.int .i32 a0_2, .int .i32 a0_2]]) (by kernel_rfl) (fun _ => by kernel_rfl) fun R51 kI51 => ?_)
     refine calls_kn Try.func39 rfl fun Q51 qq51 qn51 => ?_
     refine wp_conv (a' := ⟨#[.pointer (some ⟨b3, 0, none⟩), .slice a1_4_A a1_4_n a1_4_c, .int .i64 a0_0, .agg #[.int .i32 a0_2, .int .i32 a0_2], undef, undef, undef, undef, undef, undef, undef, undef, undef, undef, undef, undef, undef, undef, undef, undef, undef, undef, undef, undef, undef, undef, undef, undef, undef, undef, undef, undef, undef, undef, undef, undef, undef, undef, undef, undef, undef, undef, undef, undef, undef, undef, undef, undef, undef, undef, undef, undef, undef, undef, undef, undef, undef], []⟩) (by kernel_rfl) ?_
     refine xseq_k fun KS52 ks52 => ?_
     refine wp_regS (l := [0]) (by kernel_rfl) (by kernel_rfl) fun KR53 kr53 => ?_
     refine wpS.only 0 (op_box (t := 73) (v := .agg #[.int .i32 a0_2, .int .i32 a0_2]) (d := (some 7)) (by kernel_rfl) hs ([.int .i32 a0_2, .int .i32 a0_2]) (by kernel_rfl) (by kernel_rfl) ?_)
     intro b25 w gw hs
     refine ⟨fun _ => trivial, ?_⟩
     refine wpS.fin rfl (kr53 _ _ ?_)
     refine then_n (ks52 _ _ ?_)
     obtain ⟨y26_1, hj, h⟩ := of_bind h
     refine xseq_k fun KS54 ks54 => wp_join (N := fun a w => St w0 [] [.blk b25 ([.int .i32 a0_2, .int .i32 a0_2]) 73, .blk b12 ([.int .i32 a0_2, .int .i32 a0_2]) 73, .ownL (CI .u8) y18_A y18_n y18_c y18 5, .blk b3 ([.slice y18_A y18_n y18_c, .bool y26_1]) 69, .blk b2 ([.slice a1_0_A a1_0_n a1_0_c, .slice a1_1_A a1_1_n a1_1_c, .slice a1_2_A a1_2_n a1_2_c, .slice a1_3_A a1_3_n a1_3_c, .slice a1_4_A a1_4_n a1_4_c, .slice a1_5_A a1_5_n a1_5_c]) 29, .blk b1 ([.int .i64 a0_0, .int .i64 a0_1, .int .i32 a0_2, .int .i64 a0_3, .int .i32 a0_4, .int .i32 a0_5, .int .i64 a0_6, .int .i64 a0_7]) 23] [.rowL (CI .u8) a1_0_A a1_0_n a1_0_c a1_0, .rowL (CI .u8) a1_1_A a1_1_n a1_1_c a1_1, .rowL (CI .u8) a1_2_A a1_2_n a1_2_c a1_2, .rowL (CA .i32 256 (by decide)) a1_3_A a1_3_n a1_3_c a1_3, .rowL (CA .i32 256 (by decide)) a1_4_A a1_4_n a1_4_c a1_4, .rowL (CA .i32 256 (by decide)) a1_5_A a1_5_n a1_5_c a1_5] w ∧ ∃ g : Nat → Value, a = ⟨#[.pointer (some ⟨b3, 0, none⟩), .slice a1_4_A a1_4_n a1_4_c, .int .i64 a0_0, .agg #[.int .i32 a0_2, .int .i32 a0_2], undef, undef, undef, .pointer (some ⟨b25, 0, none⟩), undef, undef, undef, (g 11), (g 12), (g 13), (g 14), (g 15), (g 16), (g 17), (g 18), (g 19), (g 20), (g 21), (g 22), (g 23), undef, undef, undef, undef, undef, undef, undef, undef, undef, undef, undef, undef, undef, undef, undef, undef, undef, undef, undef, undef, undef, undef, undef, undef, undef, undef, undef, undef, undef, undef, undef, undef, undef], []⟩) (fun N nj => ?_) ?_
     ·clear h
      have h := hj
      refine wp_regS (l := [0, 1, 2, 3, 4, 5, 6, 7, 8, 9, 10, 11, 12, 13]) (by kernel_rfl) (by kernel_rfl) fun KR55 kr55 => ?_
      refine wpS.ps [(0, 11, .pointer (some ⟨b3, 0, none⟩)), (1, 12, .pointer (some ⟨b3, 0, none⟩)), (2, 13, .pointer (some ⟨b3, 0, none⟩)), (3, 14, .pointer (some ⟨b3, 1, none⟩))] (by kernel_rfl) ?_
      cases y19_1 with
      | true =>
       have h := of_if_t h
       refine wpS.take 4 true (some 15) (.bool true) (by kernel_rfl) (yld_load1 (e := 4) (o := 1) hs 3 rfl (by kernel_rfl) (by kernel_rfl) (by rfl) .grow) ?_
       refine wpS.ps [(5, 16, .bool true), (6, 17, undef), (7, 18, undef), (8, 19, undef), (9, 20, undef), (10, 21, .bool true), (11, 22, .pointer (some ⟨b3, 0, none⟩)), (12, 23, .pointer (some ⟨b3, 1, none⟩))] (by kernel_rfl) ?_
       refine wpS.only 13 (op_store1 (t := 4) (o := 1) (v := .bool true) (d := none) (by kernel_rfl) hs 3 rfl (by kernel_rfl) rfl (by kernel_rfl) (by simp) ?_)
       intro w kp hs
       refine ⟨fun _ => trivial, ?_⟩
       refine wpS.fin rfl (kr55 _ _ ?_)
       have q0 := of_some h
       subst q0
       exact nj _ _ ⟨(hs.conv rfl), exg (by kernel_rfl)⟩
      | false =>
       have h := of_if_f h
       refine wpS.take 4 true (some 15) (.bool false) (by kernel_rfl) (yld_load1 (e := 4) (o := 1) hs 3 rfl (by kernel_rfl) (by kernel_rfl) (by rfl) .grow) ?_
       refine wpS.ps [(5, 16, .bool false), (6, 17, .slice a1_4_A a1_4_n a1_4_c)] (by kernel_rfl) ?_
       refine wpS.take 7 false (some 18) (.int .i64 (a1_4.length : Int)) (by kernel_rfl) (yld_lenL (hs.rowR 4 rfl) (fun _ => by kernel_rfl)) ?_
       refine wpS.ps [(8, 19, .int .i64 a0_0), (9, 20, .bool ((a1_4.length : Int) != a0_0)), (10, 21, .bool ((a1_4.length : Int) != a0_0)), (11, 22, .pointer (some ⟨b3, 0, none⟩)), (12, 23, .pointer (some ⟨b3, 1, none⟩))] (by kernel_rfl) ?_
       obtain ⟨x27, hx, h⟩ := of_bind h
       refine wpS.only 13 (op_store1 (t := 4) (o := 1) (v := .bool x27) (d := none) (by kernel_rfl) hs 3 rfl (by cases hx; kernel_rfl) rfl (by kernel_rfl) (by simp) ?_)
       intro w kp hs
       refine ⟨fun _ => trivial, ?_⟩
       refine wpS.fin rfl (kr55 _ _ ?_)
       have q0 := of_some h
       subst q0
       exact nj _ _ ⟨(hs.conv rfl), exg (by kernel_rfl)⟩
     ·clear hj hs
      rintro a w ⟨hs, g, rfl⟩
      refine then_n (ks54 _ _ ?_)
      refine xseq_k fun KS56 ks56 => ?_
      refine wp_regS (l := [0, 1, 2]) (by kernel_rfl) (by kernel_rfl) fun KR57 kr57 => ?_
      refine wpS.p 0 24 (.slice a1_4_A a1_4_n a1_4_c) (by kernel_rfl) ?_
      refine wpS.take 1 false (some 25) (.int .i64 (a1_4.length : Int)) (by kernel_rfl) (yld_lenL (hs.rowR 4 rfl) (fun _ => by kernel_rfl)) ?_
      refine wpS.p 2 26 (.int .i64 0) (by kernel_rfl) ?_
      refine wpS.fin rfl (kr57 _ _ ?_)
      refine then_n (ks56 _ _ ?_)
      obtain ⟨⟨y31, y32_1⟩, hy, hk1⟩ := of_bind h
      refine wp_exq (N := fun a w => ∃ (y31_A : Option Addr) (y31_n : Nat) (y31_c : Nat), St w0 [] [.blk b25 ([.int .i32 a0_2, .int .i32 a0_2]) 73, .blk b12 ([.int .i32 a0_2, .int .i32 a0_2]) 73, .ownL (CI .u8) y31_A y31_n y31_c y31 5, .blk b3 ([.slice y31_A y31_n y31_c, .bool y32_1]) 69, .blk b2 ([.slice a1_0_A a1_0_n a1_0_c, .slice a1_1_A a1_1_n a1_1_c, .slice a1_2_A a1_2_n a1_2_c, .slice a1_3_A a1_3_n a1_3_c, .slice a1_4_A a1_4_n a1_4_c, .slice a1_5_A a1_5_n a1_5_c]) 29, .blk b1 ([.int .i64 a0_0, .int .i64 a0_1, .int .i32 a0_2, .int .i64 a0_3, .int .i32 a0_4, .int .i32 a0_5, .int .i64 a0_6, .int .i64 a0_7]) 23] [.rowL (CI .u8) a1_0_A a1_0_n a1_0_c a1_0, .rowL (CI .u8) a1_1_A a1_1_n a1_1_c a1_1, .rowL (CI .u8) a1_2_A a1_2_n a1_2_c a1_2, .rowL (CA .i32 256 (by decide)) a1_3_A a1_3_n a1_3_c a1_3, .rowL (CA .i32 256 (by decide)) a1_4_A a1_4_n a1_4_c a1_4, .rowL (CA .i32 256 (by decide)) a1_5_A a1_5_n a1_5_c a1_5] w ∧ ∃ g : Nat → Value, a = ⟨#[.pointer (some ⟨b3, 0, none⟩), .slice a1_4_A a1_4_n a1_4_c, .int .i64 a0_0, .agg #[.int .i32 a0_2, .int .i32 a0_2], undef, undef, undef, .pointer (some ⟨b25, 0, none⟩), undef, (g 9), (g 10), (g 11), (g 12), (g 13), (g 14), (g 15), (g 16), (g 17), (g 18), (g 19), (g 20), (g 21), (g 22), (g 23), .slice a1_4_A a1_4_n a1_4_c, .int .i64 (a1_4.length : Int), (g 26), (g 27), (g 28), (g 29), (g 30), (g 31), (g 32), (g 33), (g 34), (g 35), (g 36), (g 37), (g 38), (g 39), (g 40), (g 41), (g 42), (g 43), (g 44), (g 45), (g 46), (g 47), (g 48), (g 49), (g 50), (g 51), (g 52), (g 53), (g 54), (g 55), (g 56)], []⟩) (fun N1 nn1 => ?_) ?_
      ·clear hk1
       refine xblock ?_
       refine wp_loop_k (fun n a w => ∃ z28 z29 z30_1, ∃ (z29_A : Option Addr) (z29_n : Nat) (z29_c : Nat), dpack_Private.l1 K n a0_2 a1_4 z28 z29 z30_1 = some (y31, y32_1) ∧ St w0 [] [.blk b25 ([.int .i32 a0_2, .int .i32 a0_2]) 73, .blk b12 ([.int .i32 a0_2, .int .i32 a0_2]) 73, .ownL (CI .u8) z29_A z29_n z29_c z29 5, .blk b3 ([.slice z29_A z29_n z29_c, .bool z30_1]) 69, .blk b2 ([.slice a1_0_A a1_0_n a1_0_c, .slice a1_1_A a1_1_n a1_1_c, .slice a1_2_A a1_2_n a1_2_c, .slice a1_3_A a1_3_n a1_3_c, .slice a1_4_A a1_4_n a1_4_c, .slice a1_5_A a1_5_n a1_5_c]) 29, .blk b1 ([.int .i64 a0_0, .int .i64 a0_1, .int .i32 a0_2, .int .i64 a0_3, .int .i32 a0_4, .int .i32 a0_5, .int .i64 a0_6, .int .i64 a0_7]) 23] [.rowL (CI .u8) a1_0_A a1_0_n a1_0_c a1_0, .rowL (CI .u8) a1_1_A a1_1_n a1_1_c a1_1, .rowL (CI .u8) a1_2_A a1_2_n a1_2_c a1_2, .rowL (CA .i32 256 (by decide)) a1_3_A a1_3_n a1_3_c a1_3, .rowL (CA .i32 256 (by decide)) a1_4_A a1_4_n a1_4_c a1_4, .rowL (CA .i32 256 (by decide)) a1_5_A a1_5_n a1_5_c a1_5] w ∧ ∃ g : Nat → Value, a = ⟨#[.pointer (some ⟨b3, 0, none⟩), .slice a1_4_A a1_4_n a1_4_c, .int .i64 a0_0, .agg #[.int .i32 a0_2, .int .i32 a0_2], undef, undef, undef, .pointer (some ⟨b25, 0, none⟩), undef, (g 9), (g 10), (g 11), (g 12), (g 13), (g 14), (g 15), (g 16), (g 17), (g 18), (g 19), (g 20), (g 21), (g 22), (g 23), .slice a1_4_A a1_4_n a1_4_c, .int .i64 (a1_4.length : Int), .int .i64 z28, (g 27), (g 28), (g 29), (g 30), (g 31), (g 32), (g 33), (g 34), (g 35), (g 36), (g 37), (g 38), (g 39), (g 40), (g 41), (g 42), (g 43), (g 44), (g 45), (g 46), (g 47), (g 48), (g 49), (g 50), (g 51), (g 52), (g 53), (g 54), (g 55), (g 56)], []⟩) K ⟨0, y18, y26_1, y18_A, y18_n, y18_c, hy, hs.conv rfl, exg (by kernel_rfl)⟩ ?_
       clear hs h hy
       rintro n a w ⟨z28, z29, z30_1, z29_A, z29_n, z29_c, h, hs, g, rfl⟩ KL1 kl1
       cases n with
       | zero => exact nomatch (show none = some _ from h)
       | succ n =>
        refine xseq_k fun KS58 ks58 => ?_
        refine wp_regS (l := [0]) (by kernel_rfl) (by kernel_rfl) fun KR59 kr59 => ?_
        rcases of_if h with ⟨hc, h⟩ | ⟨hc, h⟩
        ·refine wpS.take 0 false (some 27) (.bool true) (by kernel_rfl) (yld_b (dt hc) (fun _ => by kernel_rfl)) ?_
         refine wpS.fin rfl (kr59 _ _ ?_)
         refine then_n (ks58 _ _ ?_)
         refine xseq_k fun KS60 ks60 => ?_
         refine wp_cond_t (by kernel_rfl) ?_
         refine xskip ?_
         refine then_n (ks60 _ _ ?_)
         refine xseq_k fun KS61 ks61 => ?_
         refine xblock ?_
         refine xseq_k fun KS62 ks62 => ?_
         refine wp_regS (l := [0, 1, 2, 3]) (by kernel_rfl) (by kernel_rfl) fun KR63 kr63 => ?_
         obtain ⟨h0, h⟩ := of_chk h
         obtain ⟨h1, h⟩ := of_chk h
         have i0_64 := h0
         have i1_64 := h1
         refine wpS.take 0 false (some 28) (.pointer (adr a1_4_A ((z28 : Int).toNat * Cod.size (CA .i32 256 (by decide))))) (by kernel_rfl) (yld_idxL (C := (CA .i32 256 (by decide))) (t := 25) (e := 40) (k := .i64) (x := z28) (hs.rowR 4 rfl) (by kernel_rfl) (by kernel_rfl) (by kernel_rfl) h0 h1) ?_
         refine wpS.take 1 true (some 29) (.agg (enc .i32 (rdL (CA .i32 256 (by decide)) a1_4 z28)).toArray) (by kernel_rfl) (yld_loadLA (C := (CA .i32 256 (by decide))) (e := 40) (x := z28) (hs.rowR 4 rfl) (by kernel_rfl) rfl (by kernel_rfl) (by kernel_rfl) i0_64 i1_64) ?_
         refine wpS.only 2 (op_alloc (t := 40) (d := (some 9)) (by kernel_rfl) hs (enc .i32 (zeroA 256)) (.agg (enc .i32 (zeroA 256)).toArray) (by kernel_rfl) (by kernel_rfl) (by kernel_rfl) ?_)
         intro b33 w gw hs
         refine ⟨fun _ => trivial, ?_⟩
         refine wpS.only 3 (op_storeW (t := 40) (v := .agg (enc .i32 (rdL (CA .i32 256 (by decide)) a1_4 z28)).toArray) (d := none) (by kernel_rfl) hs 0 rfl (vs := enc .i32 (rdL (CA .i32 256 (by decide)) a1_4 z28)) (n := 256) (by kernel_rfl) (by kernel_rfl) (by kernel_rfl) (by simp [enc_len]) (by simp [enc_len]) (by intro u hu; exact enc_one _ _ u hu) ?_)
         intro w kp hs
         refine ⟨fun _ => trivial, ?_⟩
         refine wpS.fin rfl (kr63 _ _ ?_)
         refine then_n (ks62 _ _ ?_)
         refine xseq_k fun KS65 ks65 => ?_
         refine wp_regS (l := [0, 1, 2, 3, 4, 5, 6]) (by kernel_rfl) (by kernel_rfl) fun KR66 kr66 => ?_
         refine wpS.take 0 true (some 30) (.agg (enc .i32 (rdL (CA .i32 256 (by decide)) a1_4 z28)).toArray) (by kernel_rfl) (yld_loadW (e := 40) (n := 256) hs 0 rfl (by kernel_rfl) (by kernel_rfl) (by kernel_rfl) (by exact enc_len _ _) .grow) ?_
         refine wpS.p 1 31 (.pointer (some ⟨b25, 0, none⟩)) (by kernel_rfl) ?_
         refine wpS.take 2 true (some 32) (.int .i32 a0_2) (by kernel_rfl) (yld_load1 (e := 21) (o := 0) hs 1 rfl (by kernel_rfl) (by kernel_rfl) (by rfl) .grow) ?_
         refine wpS.p 3 33 (.pointer (some ⟨b25, 1, none⟩)) (by kernel_rfl) ?_
         refine wpS.take 4 true (some 34) (.int .i32 a0_2) (by kernel_rfl) (yld_load1 (e := 21) (o := 1) hs 1 rfl (by kernel_rfl) (by kernel_rfl) (by rfl) .grow) ?_
         obtain ⟨r34, hg, h⟩ := of_bind h
         refine wpS.only 5 (op_callHF (d := (some 35)) (by kernel_rfl) hs (fun _ => by kernel_rfl) (dpack_Pack.ok hg _) ?_)
         rintro ⟨r34_A, r34_n, r34_c⟩ w hne67 gw hs
         have hs := hs.conv (L' := [.ownL (CI .u8) r34_A r34_n r34_c r34 5, .blk b33 (enc .i32 (rdL (CA .i32 256 (by decide)) a1_4 z28)) 40, .blk b25 ([.int .i32 a0_2, .int .i32 a0_2]) 73, .blk b12 ([.int .i32 a0_2, .int .i32 a0_2]) 73, .ownL (CI .u8) z29_A z29_n z29_c z29 5, .blk b3 ([.slice z29_A z29_n z29_c, .bool z30_1]) 69, .blk b2 ([.slice a1_0_A a1_0_n a1_0_c, .slice a1_1_A a1_1_n a1_1_c, .slice a1_2_A a1_2_n a1_2_c, .slice a1_3_A a1_3_n a1_3_c, .slice a1_4_A a1_4_n a1_4_c, .slice a1_5_A a1_5_n a1_5_c]) 29, .blk b1 ([.int .i64 a0_0, .int .i64 a0_1, .int .i32 a0_2, .int .i64 a0_3, .int .i32 a0_4, .int .i32 a0_5, .int .i64 a0_6, .int .i64 a0_7]) 23]) rfl
         refine ⟨fun _ => trivial, ?_⟩
         refine wpS.p 6 10 (.slice r34_A r34_n r34_c) (by kernel_rfl) ?_
         refine wpS.fin rfl (kr66 _ _ ?_)
         refine then_n (ks65 _ _ ?_)
         obtain ⟨y35_1, hj, h⟩ := of_bind h
         refine xseq_k fun KS68 ks68 => wp_join (N := fun a w => St w0 [] [.ownL (CI .u8) r34_A r34_n r34_c r34 5, .blk b33 (enc .i32 (rdL (CA .i32 256 (by decide)) a1_4 z28)) 40, .blk b25 ([.int .i32 a0_2, .int .i32 a0_2]) 73, .blk b12 ([.int .i32 a0_2, .int .i32 a0_2]) 73, .ownL (CI .u8) z29_A z29_n z29_c z29 5, .blk b3 ([.slice z29_A z29_n z29_c, .bool y35_1]) 69, .blk b2 ([.slice a1_0_A a1_0_n a1_0_c, .slice a1_1_A a1_1_n a1_1_c, .slice a1_2_A a1_2_n a1_2_c, .slice a1_3_A a1_3_n a1_3_c, .slice a1_4_A a1_4_n a1_4_c, .slice a1_5_A a1_5_n a1_5_c]) 29, .blk b1 ([.int .i64 a0_0, .int .i64 a0_1, .int .i32 a0_2, .int .i64 a0_3, .int .i32 a0_4, .int .i32 a0_5, .int .i64 a0_6, .int .i64 a0_7]) 23] [.rowL (CI .u8) a1_0_A a1_0_n a1_0_c a1_0, .rowL (CI .u8) a1_1_A a1_1_n a1_1_c a1_1, .rowL (CI .u8) a1_2_A a1_2_n a1_2_c a1_2, .rowL (CA .i32 256 (by decide)) a1_3_A a1_3_n a1_3_c a1_3, .rowL (CA .i32 256 (by decide)) a1_4_A a1_4_n a1_4_c a1_4, .rowL (CA .i32 256 (by decide)) a1_5_A a1_5_n a1_5_c a1_5] w ∧ ∃ g : Nat → Value, a = ⟨#[.pointer (some ⟨b3, 0, none⟩), .slice a1_4_A a1_4_n a1_4_c, .int .i64 a0_0, .agg #[.int .i32 a0_2, .int .i32 a0_2], undef, undef, undef, .pointer (some ⟨b25, 0, none⟩), undef, .pointer (some ⟨b33, 0, none⟩), .slice r34_A r34_n r34_c, (g 11), (g 12), (g 13), (g 14), (g 15), (g 16), (g 17), (g 18), (g 19), (g 20), (g 21), (g 22), (g 23), .slice a1_4_A a1_4_n a1_4_c, .int .i64 (a1_4.length : Int), .int .i64 z28, .bool true, .pointer (adr a1_4_A ((z28 : Int).toNat * Cod.size (CA .i32 256 (by decide)))), .agg (enc .i32 (rdL (CA .i32 256 (by decide)) a1_4 z28)).toArray, .agg (enc .i32 (rdL (CA .i32 256 (by decide)) a1_4 z28)).toArray, .pointer (some ⟨b25, 0, none⟩), .int .i32 a0_2, .pointer (some ⟨b25, 1, none⟩), .int .i32 a0_2, .slice r34_A r34_n r34_c, (g 36), (g 37), (g 38), (g 39), (g 40), (g 41), (g 42), (g 43), (g 44), (g 45), (g 46), (g 47), (g 48), (g 49), (g 50), (g 51), (g 52), (g 53), (g 54), (g 55), (g 56)], []⟩) (fun N nj => ?_) ?_
         ·clear h
          have h := hj
          refine wp_regS (l := [0, 1, 2, 3, 4, 5, 6, 7, 8, 9, 10, 11]) (by kernel_rfl) (by kernel_rfl) fun KR69 kr69 => ?_
          refine wpS.ps [(0, 36, .pointer (some ⟨b3, 0, none⟩)), (1, 37, .pointer (some ⟨b3, 0, none⟩)), (2, 38, .pointer (some ⟨b3, 0, none⟩)), (3, 39, .pointer (some ⟨b3, 1, none⟩))] (by kernel_rfl) ?_
          cases z30_1 with
          | true =>
           have h := of_if_t h
           refine wpS.take 4 true (some 40) (.bool true) (by kernel_rfl) (yld_load1 (e := 4) (o := 1) hs 5 rfl (by kernel_rfl) (by kernel_rfl) (by rfl) .grow) ?_
           refine wpS.ps [(5, 41, .bool true), (6, 42, undef), (7, 43, undef), (8, 44, .bool true), (9, 45, .pointer (some ⟨b3, 0, none⟩)), (10, 46, .pointer (some ⟨b3, 1, none⟩))] (by kernel_rfl) ?_
           refine wpS.only 11 (op_store1 (t := 4) (o := 1) (v := .bool true) (d := none) (by kernel_rfl) hs 5 rfl (by kernel_rfl) rfl (by kernel_rfl) (by simp) ?_)
           intro w kp hs
           refine ⟨fun _ => trivial, ?_⟩
           refine wpS.fin rfl (kr69 _ _ ?_)
           have q0 := of_some h
           subst q0
           exact nj _ _ ⟨(hs.conv rfl), exg (by kernel_rfl)⟩
          | false =>
           have h := of_if_f h
           refine wpS.take 4 true (some 40) (.bool false) (by kernel_rfl) (yld_load1 (e := 4) (o := 1) hs 5 rfl (by kernel_rfl) (by kernel_rfl) (by rfl) .grow) ?_
           refine wpS.ps [(5, 41, .bool false), (6, 42, .slice r34_A r34_n r34_c)] (by kernel_rfl) ?_
           refine wpS.take 7 false (some 43) (.bool ((r34).isEmpty)) (by kernel_rfl) (yld_nilS (t := 24) (e := 5) (C := (CI .u8)) (.tmp 42) (.const (.slice none 0 0)) (hs.rowL 0 rfl) hne67 (by kernel_rfl) (by kernel_rfl) (by kernel_rfl)) ?_
           refine wpS.ps [(8, 44, .bool ((r34).isEmpty)), (9, 45, .pointer (some ⟨b3, 0, none⟩)), (10, 46, .pointer (some ⟨b3, 1, none⟩))] (by kernel_rfl) ?_
           obtain ⟨x36, hx, h⟩ := of_bind h
           refine wpS.only 11 (op_store1 (t := 4) (o := 1) (v := .bool x36) (d := none) (by kernel_rfl) hs 5 rfl (by cases hx; kernel_rfl) rfl (by kernel_rfl) (by simp) ?_)
           intro w kp hs
           refine ⟨fun _ => trivial, ?_⟩
           refine wpS.fin rfl (kr69 _ _ ?_)
           have q0 := of_some h
           subst q0
           exact nj _ _ ⟨(hs.conv rfl), exg (by kernel_rfl)⟩
         ·clear hj hs
          rintro a w ⟨hs, g, rfl⟩
          refine then_n (ks68 _ _ ?_)
          refine wp_regS (l := [0, 1, 2, 3, 4, 5, 6, 7, 8, 9]) (by kernel_rfl) (by kernel_rfl) fun KR70 kr70 => ?_
          refine wpS.ps [(0, 47, .pointer (some ⟨b3, 0, none⟩)), (1, 48, .pointer (some ⟨b3, 0, none⟩)), (2, 49, .pointer (some ⟨b3, 0, none⟩)), (3, 50, .pointer (some ⟨b3, 0, none⟩))] (by kernel_rfl) ?_
          refine wpS.take 4 true (some 51) (.slice z29_A z29_n z29_c) (by kernel_rfl) (yld_load1 (e := 24) (o := 0) hs 5 rfl (by kernel_rfl) (by kernel_rfl) (by rfl) .grow) ?_
          refine wpS.p 5 52 (.slice r34_A r34_n r34_c) (by kernel_rfl) ?_
          obtain ⟨h0, h⟩ := of_chk h
          refine wpS.only 6 (op_appendT (C := (CI .u8)) (t := 24) (ty := 24) (e := 5) (bytes := 1) (B := 140737488355328) (d := (some 53)) (by kernel_rfl) hs 4 rfl (hs.rowL 0 rfl) (by kernel_rfl) (by kernel_rfl) (by kernel_rfl) (by kernel_rfl) (by kernel_rfl) h0 (by decide) (by decide) ?_)
          intro s37_A s37_n s37_c w hs
          refine ⟨fun _ => trivial, ?_⟩
          refine wpS.ps [(7, 54, .pointer (some ⟨b3, 0, none⟩)), (8, 55, .pointer (some ⟨b3, 0, none⟩))] (by kernel_rfl) ?_
          refine wpS.only 9 (op_store1 (t := 24) (o := 0) (v := .slice s37_A s37_n s37_c) (d := none) (by kernel_rfl) hs 5 rfl (by kernel_rfl) rfl (by kernel_rfl) (by simp) ?_)
          intro w kp hs
          refine ⟨fun _ => trivial, ?_⟩
          refine wpS.fin rfl (kr70 _ _ ?_)
          refine inBlock_n ?_
          refine then_n (ks61 _ _ ?_)
          refine wp_regS (l := [0, 1]) (by kernel_rfl) (by kernel_rfl) fun KR71 kr71 => ?_
          refine wpS.ps [(0, 56, .int .i64 (iadd .i64 z28 1)), (1, 26, .int .i64 (iadd .i64 z28 1))] (by kernel_rfl) ?_
          refine wpS.fin rfl (kr71 _ _ ?_)
          exact then_n (kl1 _ _ ⟨n, Nat.lt_succ_self n, (iadd .i64 z28 1), (z29 ++ r34), y35_1, s37_A, s37_n, s37_c, h, (hs.drop (.cons _ (.cons _ (.cons_cons _ (.cons_cons _ (.cons_cons _ (.cons_cons _ (.cons_cons _ (.cons_cons _ .slnil))))))))), exg (by kernel_rfl)⟩)
        ·refine wpS.take 0 false (some 27) (.bool false) (by kernel_rfl) (yld_b (df hc) (fun _ => by kernel_rfl)) ?_
         refine wpS.fin rfl (kr59 _ _ ?_)
         refine then_n (ks58 _ _ ?_)
         refine xseq_k fun KS72 ks72 => ?_
         refine wp_cond_f (by kernel_rfl) ?_
         refine xexit ?_
         refine then_x ?_
         refine then_x ?_
         refine inBlock_hit ?_
         obtain ⟨q0, qr0⟩ := Prod.mk.inj (of_some h)
         have q1 := qr0
         subst q0
         subst q1
         exact exq_n (nn1 _ _ ⟨z29_A, z29_n, z29_c, (hs.conv rfl), exg (by kernel_rfl)⟩)
      ·clear hs h hy
       rintro a w ⟨y31_A, y31_n, y31_c, hs, g, rfl⟩
       have h := hk1
       refine qn51 _ _ (post_nrm (by kernel_rfl) (run_results [] [] (by kernel_rfl) .nil) ?_)
       refine kI51 _ _ ?_
       refine ⟨fun _ => trivial, ?_⟩
       refine wpS.fin rfl (kr50 _ _ ?_)
       refine then_n (ks49 _ _ ?_)
       refine xseq_k fun KS73 ks73 => ?_
       refine wp_regS (l := [0, 1, 2, 3, 4, 5, 6]) (by kernel_rfl) (by kernel_rfl) fun KR74 kr74 => ?_
       refine wpS.ps [(0, 48, .func (.func 39) #[.pointer (some ⟨b3, 0, none⟩)] #[]), (1, 49, .pointer (some ⟨b2, 5, none⟩))] (by kernel_rfl) ?_
       refine wpS.take 2 true (some 50) (.slice a1_5_A a1_5_n a1_5_c) (by kernel_rfl) (yld_load1 (e := 25) (o := 5) hs 4 rfl (by kernel_rfl) (by kernel_rfl) (by rfl) .grow) ?_
       refine wpS.p 3 51 (.pointer (some ⟨b1, 0, none⟩)) (by kernel_rfl) ?_
       refine wpS.take 4 true (some 52) (.int .i64 a0_0) (by kernel_rfl) (yld_load1 (e := 3) (o := 0) hs 5 rfl (by kernel_rfl) (by kernel_rfl) (by rfl) .grow) ?_
       refine wpS.p 5 53 (.agg #[.int .i32 4095, .int .i32 4096]) (by kernel_rfl) ?_
       refine wpS.only 6 (op_inline (d := (some 54)) (f := 39) (args := #[.pointer (some ⟨b3, 0, none⟩), .slice a1_5_A a1_5_n a1_5_c, .int .i64 a0_0, .agg #[.int .i32 4095, .int .i32 4096]]) (by kernel_rfl) (fun _ => by kernel_rfl) fun R75 kI75 => ?_)
       refine calls_kn Try.func39 rfl fun Q75 qq75 qn75 => ?_
       refine wp_conv (a' := ⟨#[.pointer (some ⟨b3, 0, none⟩), .slice a1_5_A a1_5_n a1_5_c, .int .i64 a0_0, .agg #[.int .i32 4095, .int .i32 4096], undef, undef, undef, undef, undef, undef, undef, undef, undef, undef, undef, undef, undef, undef, undef, undef, undef, undef, undef, undef, undef, undef, undef, undef, undef, undef, undef, undef, undef, undef, undef, undef, undef, undef, undef, undef, undef, undef, undef, undef, undef, undef, undef, undef, undef, undef, undef, undef, undef, undef, undef, undef, undef], []⟩) (by kernel_rfl) ?_
       refine xseq_k fun KS76 ks76 => ?_
       refine wp_regS (l := [0]) (by kernel_rfl) (by kernel_rfl) fun KR77 kr77 => ?_
       refine wpS.only 0 (op_box (t := 73) (v := .agg #[.int .i32 4095, .int .i32 4096]) (d := (some 7)) (by kernel_rfl) hs ([.int .i32 4095, .int .i32 4096]) (by kernel_rfl) (by kernel_rfl) ?_)
       intro b38 w gw hs
       refine ⟨fun _ => trivial, ?_⟩
       refine wpS.fin rfl (kr77 _ _ ?_)
       refine then_n (ks76 _ _ ?_)
       obtain ⟨y39_1, hj, h⟩ := of_bind h
       refine xseq_k fun KS78 ks78 => wp_join (N := fun a w => St w0 [] [.blk b38 ([.int .i32 4095, .int .i32 4096]) 73, .blk b25 ([.int .i32 a0_2, .int .i32 a0_2]) 73, .blk b12 ([.int .i32 a0_2, .int .i32 a0_2]) 73, .ownL (CI .u8) y31_A y31_n y31_c y31 5, .blk b3 ([.slice y31_A y31_n y31_c, .bool y39_1]) 69, .blk b2 ([.slice a1_0_A a1_0_n a1_0_c, .slice a1_1_A a1_1_n a1_1_c, .slice a1_2_A a1_2_n a1_2_c, .slice a1_3_A a1_3_n a1_3_c, .slice a1_4_A a1_4_n a1_4_c, .slice a1_5_A a1_5_n a1_5_c]) 29, .blk b1 ([.int .i64 a0_0, .int .i64 a0_1, .int .i32 a0_2, .int .i64 a0_3, .int .i32 a0_4, .int .i32 a0_5, .int .i64 a0_6, .int .i64 a0_7]) 23] [.rowL (CI .u8) a1_0_A a1_0_n a1_0_c a1_0, .rowL (CI .u8) a1_1_A a1_1_n a1_1_c a1_1, .rowL (CI .u8) a1_2_A a1_2_n a1_2_c a1_2, .rowL (CA .i32 256 (by decide)) a1_3_A a1_3_n a1_3_c a1_3, .rowL (CA .i32 256 (by decide)) a1_4_A a1_4_n a1_4_c a1_4, .rowL (CA .i32 256 (by decide)) a1_5_A a1_5_n a1_5_c a1_5] w ∧ ∃ g : Nat → Value, a = ⟨#[.pointer (some ⟨b3, 0, none⟩), .slice a1_5_A a1_5_n a1_5_c, .int .i64 a0_0, .agg #[.int .i32 4095, .int .i32 4096], undef, undef, undef, .pointer (some ⟨b38, 0, none⟩), undef, undef, undef, (g 11), (g 12), (g 13), (g 14), (g 15), (g 16), (g 17), (g 18), (g 19), (g 20), (g 21), (g 22), (g 23), undef, undef, undef, undef, undef, undef, undef, undef, undef, undef, undef, undef, undef, undef, undef, undef, undef, undef, undef, undef, undef, undef, undef, undef, undef, undef, undef, undef, undef, undef, undef, undef, undef], []⟩) (fun N nj => ?_) ?_
       ·clear h
        have h := hj
        refine wp_regS (l := [0, 1, 2, 3, 4, 5, 6, 7, 8, 9, 10, 11, 12, 13]) (by kernel_rfl) (by kernel_rfl) fun KR79 kr79 => ?_
        refine wpS.ps [(0, 11, .pointer (some ⟨b3, 0, none⟩)), (1, 12, .pointer (some ⟨b3, 0, none⟩)), (2, 13, .pointer (some ⟨b3, 0, none⟩)), (3, 14, .pointer (some ⟨b3, 1, none⟩))] (by kernel_rfl) ?_
        cases y32_1 with
        | true =>
         have h := of_if_t h
         refine wpS.take 4 true (some 15) (.bool true) (by kernel_rfl) (yld_load1 (e := 4) (o := 1) hs 4 rfl (by kernel_rfl) (by kernel_rfl) (by rfl) .grow) ?_
         refine wpS.ps [(5, 16, .bool true), (6, 17, undef), (7, 18, undef), (8, 19, undef), (9, 20, undef), (10, 21, .bool true), (11, 22, .pointer (some ⟨b3, 0, none⟩)), (12, 23, .pointer (some ⟨b3, 1, none⟩))] (by kernel_rfl) ?_
         refine wpS.only 13 (op_store1 (t := 4) (o := 1) (v := .bool true) (d := none) (by kernel_rfl) hs 4 rfl (by kernel_rfl) rfl (by kernel_rfl) (by simp) ?_)
         intro w kp hs
         refine ⟨fun _ => trivial, ?_⟩
         refine wpS.fin rfl (kr79 _ _ ?_)
         have q0 := of_some h
         subst q0
         exact nj _ _ ⟨(hs.conv rfl), exg (by kernel_rfl)⟩
        | false =>
         have h := of_if_f h
         refine wpS.take 4 true (some 15) (.bool false) (by kernel_rfl) (yld_load1 (e := 4) (o := 1) hs 4 rfl (by kernel_rfl) (by kernel_rfl) (by rfl) .grow) ?_
         refine wpS.ps [(5, 16, .bool false), (6, 17, .slice a1_5_A a1_5_n a1_5_c)] (by kernel_rfl) ?_
         refine wpS.take 7 false (some 18) (.int .i64 (a1_5.length : Int)) (by kernel_rfl) (yld_lenL (hs.rowR 5 rfl) (fun _ => by kernel_rfl)) ?_
         refine wpS.ps [(8, 19, .int .i64 a0_0), (9, 20, .bool ((a1_5.length : Int) != a0_0)), (10, 21, .bool ((a1_5.length : Int) != a0_0)), (11, 22, .pointer (some ⟨b3, 0, none⟩)), (12, 23, .pointer (some ⟨b3, 1, none⟩))] (by kernel_rfl) ?_
         obtain ⟨x40, hx, h⟩ := of_bind h
         refine wpS.only 13 (op_store1 (t := 4) (o := 1) (v := .bool x40) (d := none) (by kernel_rfl) hs 4 rfl (by cases hx; kernel_rfl) rfl (by kernel_rfl) (by simp) ?_)
         intro w kp hs
         refine ⟨fun _ => trivial, ?_⟩
         refine wpS.fin rfl (kr79 _ _ ?_)
         have q0 := of_some h
         subst q0
         exact nj _ _ ⟨(hs.conv rfl), exg (by kernel_rfl)⟩
       ·clear hj hs
        rintro a w ⟨hs, g, rfl⟩
        refine then_n (ks78 _ _ ?_)
        refine xseq_k fun KS80 ks80 => ?_
        refine wp_regS (l := [0, 1, 2]) (by kernel_rfl) (by kernel_rfl) fun KR81 kr81 => ?_
        refine wpS.p 0 24 (.slice a1_5_A a1_5_n a1_5_c) (by kernel_rfl) ?_
        refine wpS.take 1 false (some 25) (.int .i64 (a1_5.length : Int)) (by kernel_rfl) (yld_lenL (hs.rowR 5 rfl) (fun _ => by kernel_rfl)) ?_
        refine wpS.p 2 26 (.int .i64 0) (by kernel_rfl) ?_
        refine wpS.fin rfl (kr81 _ _ ?_)
        refine then_n (ks80 _ _ ?_)
        obtain ⟨⟨y44, y45_1⟩, hy, hk2⟩ := of_bind h
        refine wp_exq (N := fun a w => ∃ (y44_A : Option Addr) (y44_n : Nat) (y44_c : Nat), St w0 [] [.blk b38 ([.int .i32 4095, .int .i32 4096]) 73, .blk b25 ([.int .i32 a0_2, .int .i32 a0_2]) 73, .blk b12 ([.int .i32 a0_2, .int .i32 a0_2]) 73, .ownL (CI .u8) y44_A y44_n y44_c y44 5, .blk b3 ([.slice y44_A y44_n y44_c, .bool y45_1]) 69, .blk b2 ([.slice a1_0_A a1_0_n a1_0_c, .slice a1_1_A a1_1_n a1_1_c, .slice a1_2_A a1_2_n a1_2_c, .slice a1_3_A a1_3_n a1_3_c, .slice a1_4_A a1_4_n a1_4_c, .slice a1_5_A a1_5_n a1_5_c]) 29, .blk b1 ([.int .i64 a0_0, .int .i64 a0_1, .int .i32 a0_2, .int .i64 a0_3, .int .i32 a0_4, .int .i32 a0_5, .int .i64 a0_6, .int .i64 a0_7]) 23] [.rowL (CI .u8) a1_0_A a1_0_n a1_0_c a1_0, .rowL (CI .u8) a1_1_A a1_1_n a1_1_c a1_1, .rowL (CI .u8) a1_2_A a1_2_n a1_2_c a1_2, .rowL (CA .i32 256 (by decide)) a1_3_A a1_3_n a1_3_c a1_3, .rowL (CA .i32 256 (by decide)) a1_4_A a1_4_n a1_4_c a1_4, .rowL (CA .i32 256 (by decide)) a1_5_A a1_5_n a1_5_c a1_5] w ∧ ∃ g : Nat → Value, a = ⟨#[.pointer (some ⟨b3, 0, none⟩), .slice a1_5_A a1_5_n a1_5_c, .int .i64 a0_0, .agg #[.int .i32 4095, .int .i32 4096], undef, undef, undef, .pointer (some ⟨b38, 0, none⟩), undef, (g 9), (g 10), (g 11), (g 12), (g 13), (g 14), (g 15), (g 16), (g 17), (g 18), (g 19), (g 20), (g 21), (g 22), (g 23), .slice a1_5_A a1_5_n a1_5_c, .int .i64 (a1_5.length : Int), (g 26), (g 27), (g 28), (g 29), (g 30), (g 31), (g 32), (g 33), (g 34), (g 35), (g 36), (g 37), (g 38), (g 39), (g 40), (g 41), (g 42), (g 43), (g 44), (g 45), (g 46), (g 47), (g 48), (g 49), (g 50), (g 51), (g 52), (g 53), (g 54), (g 55), (g 56)], []⟩) (fun N2 nn2 => ?_) ?_
        ·clear hk2
         refine xblock ?_
         refine wp_loop_k (fun n a w => ∃ z41 z42 z43_1, ∃ (z42_A : Option Addr) (z42_n : Nat) (z42_c : Nat), dpack_Private.l2 K n a1_5 z41 z42 z43_1 = some (y44, y45_1) ∧ St w0 [] [.blk b38 ([.int .i32 4095, .int .i32 4096]) 73, .blk b25 ([.int .i32 a0_2, .int .i32 a0_2]) 73, .blk b12 ([.int .i32 a0_2, .int .i32 a0_2]) 73, .ownL (CI .u8) z42_A z42_n z42_c z42 5, .blk b3 ([.slice z42_A z42_n z42_c, .bool z43_1]) 69, .blk b2 ([.slice a1_0_A a1_0_n a1_0_c, .slice a1_1_A a1_1_n a1_1_c, .slice a1_2_A a1_2_n a1_2_c, .slice a1_3_A a1_3_n a1_3_c, .slice a1_4_A a1_4_n a1_4_c, .slice a1_5_A a1_5_n a1_5_c]) 29, .blk b1 ([.int .i64 a0_0, .int .i64 a0_1, .int .i32 a0_2, .int .i64 a0_3, .int .i32 a0_4, .int .i32 a0_5, .int .i64 a0_6, .int .i64 a0_7]) 23] [.rowL (CI .u8) a1_0_A a1_0_n a1_0_c a1_0, .rowL (CI .u8) a1_1_A a1_1_n a1_1_c a1_1, .rowL (CI .u8) a1_2_A a1_2_n a1_2_c a1_2, .rowL (CA .i32 256 (by decide)) a1_3_A a1_3_n a1_3_c a1_3, .rowL (CA .i32 256 (by decide)) a1_4_A a1_4_n a1_4_c a1_4, .rowL (CA .i32 256 (by decide)) a1_5_A a1_5_n a1_5_c a1_5] w ∧ ∃ g : Nat → Value, a = ⟨#[.pointer (some ⟨b3, 0, none⟩), .slice a1_5_A a1_5_n a1_5_c, .int .i64 a0_0, .agg #[.int .i32 4095, .int .i32 4096], undef, undef, undef, .pointer (some ⟨b38, 0, none⟩), undef, (g 9), (g 10), (g 11), (g 12), (g 13), (g 14), (g 15), (g 16), (g 17), (g 18), (g 19), (g 20), (g 21), (g 22), (g 23), .slice a1_5_A a1_5_n a1_5_c, .int .i64 (a1_5.length : Int), .int .i64 z41, (g 27), (g 28), (g 29), (g 30), (g 31), (g 32), (g 33), (g 34), (g 35), (g 36), (g 37), (g 38), (g 39), (g 40), (g 41), (g 42), (g 43), (g 44), (g 45), (g 46), (g 47), (g 48), (g 49), (g 50), (g 51), (g 52), (g 53), (g 54), (g 55), (g 56)], []⟩) K ⟨0, y31, y39_1, y31_A, y31_n, y31_c, hy, hs.conv rfl, exg (by kernel_rfl)⟩ ?_
         clear hs h hy
         rintro n a w ⟨z41, z42, z43_1, z42_A, z42_n, z42_c, h, hs, g, rfl⟩ KL2 kl2
         cases n with
         | zero => exact nomatch (show none = some _ from h)
         | succ n =>
          refine xseq_k fun KS82 ks82 => ?_
          refine wp_regS (l := [0]) (by kernel_rfl) (by kernel_rfl) fun KR83 kr83 => ?_
          rcases of_if h with ⟨hc, h⟩ | ⟨hc, h⟩
          ·refine wpS.take 0 false (some 27) (.bool true) (by kernel_rfl) (yld_b (dt hc) (fun _ => by kernel_rfl)) ?_
           refine wpS.fin rfl (kr83 _ _ ?_)
           refine then_n (ks82 _ _ ?_)
           refine xseq_k fun KS84 ks84 => ?_
           refine wp_cond_t (by kernel_rfl) ?_
           refine xskip ?_
           refine then_n (ks84 _ _ ?_)
           refine xseq_k fun KS85 ks85 => ?_
           refine xblock ?_
           refine xseq_k fun KS86 ks86 => ?_
           refine wp_regS (l := [0, 1, 2, 3]) (by kernel_rfl) (by kernel_rfl) fun KR87 kr87 => ?_
           obtain ⟨h0, h⟩ := of_chk h
           obtain ⟨h1, h⟩ := of_chk h
           have i0_88 := h0
           have i1_88 := h1
           refine wpS.take 0 false (some 28) (.pointer (adr a1_5_A ((z41 : Int).toNat * Cod.size (CA .i32 256 (by decide))))) (by kernel_rfl) (yld_idxL (C := (CA .i32 256 (by decide))) (t := 25) (e := 40) (k := .i64) (x := z41) (hs.rowR 5 rfl) (by kernel_rfl) (by kernel_rfl) (by kernel_rfl) h0 h1) ?_
           refine wpS.take 1 true (some 29) (.agg (enc .i32 (rdL (CA .i32 256 (by decide)) a1_5 z41)).toArray) (by kernel_rfl) (yld_loadLA (C := (CA .i32 256 (by decide))) (e := 40) (x := z41) (hs.rowR 5 rfl) (by kernel_rfl) rfl (by kernel_rfl) (by kernel_rfl) i0_88 i1_88) ?_
           refine wpS.only 2 (op_alloc (t := 40) (d := (some 9)) (by kernel_rfl) hs (enc .i32 (zeroA 256)) (.agg (enc .i32 (zeroA 256)).toArray) (by kernel_rfl) (by kernel_rfl) (by kernel_rfl) ?_)
           intro b46 w gw hs
           refine ⟨fun _ => trivial, ?_⟩
           refine wpS.only 3 (op_storeW (t := 40) (v := .agg (enc .i32 (rdL (CA .i32 256 (by decide)) a1_5 z41)).toArray) (d := none) (by kernel_rfl) hs 0 rfl (vs := enc .i32 (rdL (CA .i32 256 (by decide)) a1_5 z41)) (n := 256) (by kernel_rfl) (by kernel_rfl) (by kernel_rfl) (by simp [enc_len]) (by simp [enc_len]) (by intro u hu; exact enc_one _ _ u hu) ?_)
           intro w kp hs
           refine ⟨fun _ => trivial, ?_⟩
           refine wpS.fin rfl (kr87 _ _ ?_)
           refine then_n (ks86 _ _ ?_)
           refine xseq_k fun KS89 ks89 => ?_
           refine wp_regS (l := [0, 1, 2, 3, 4, 5, 6]) (by kernel_rfl) (by kernel_rfl) fun KR90 kr90 => ?_
           refine wpS.take 0 true (some 30) (.agg (enc .i32 (rdL (CA .i32 256 (by decide)) a1_5 z41)).toArray) (by kernel_rfl) (yld_loadW (e := 40) (n := 256) hs 0 rfl (by kernel_rfl) (by kernel_rfl) (by kernel_rfl) (by exact enc_len _ _) .grow) ?_
           refine wpS.p 1 31 (.pointer (some ⟨b38, 0, none⟩)) (by kernel_rfl) ?_
           refine wpS.take 2 true (some 32) (.int .i32 4095) (by kernel_rfl) (yld_load1 (e := 21) (o := 0) hs 1 rfl (by kernel_rfl) (by kernel_rfl) (by rfl) .grow) ?_
           refine wpS.p 3 33 (.pointer (some ⟨b38, 1, none⟩)) (by kernel_rfl) ?_
           refine wpS.take 4 true (some 34) (.int .i32 4096) (by kernel_rfl) (yld_load1 (e := 21) (o := 1) hs 1 rfl (by kernel_rfl) (by kernel_rfl) (by rfl) .grow) ?_
           obtain ⟨r47, hg, h⟩ := of_bind h
           refine wpS.only 5 (op_callHF (d := (some 35)) (by kernel_rfl) hs (fun _ => by kernel_rfl) (dpack_Pack.ok hg _) ?_)
           rintro ⟨r47_A, r47_n, r47_c⟩ w hne91 gw hs
           have hs := hs.conv (L' := [.ownL (CI .u8) r47_A r47_n r47_c r47 5, .blk b46 (enc .i32 (rdL (CA .i32 256 (by decide)) a1_5 z41)) 40, .blk b38 ([.int .i32 4095, .int .i32 4096]) 73, .blk b25 ([.int .i32 a0_2, .int .i32 a0_2]) 73, .blk b12 ([.int .i32 a0_2, .int .i32 a0_2]) 73, .ownL (CI .u8) z42_A z42_n z42_c z42 5, .blk b3 ([.slice z42_A z42_n z42_c, .bool z43_1]) 69, .blk b2 ([.slice a1_0_A a1_0_n a1_0_c, .slice a1_1_A a1_1_n a1_1_c, .slice a1_2_A a1_2_n a1_2_c, .slice a1_3_A a1_3_n a1_3_c, .slice a1_4_A a1_4_n a1_4_c, .slice a1_5_A a1_5_n a1_5_c]) 29, .blk b1 ([.int .i64 a0_0, .int .i64 a0_1, .int .i32 a0_2, .int .i64 a0_3, .int .i32 a0_4, .int .i32 a0_5, .int .i64 a0_6, .int .i64 a0_7]) 23]) rfl
           refine ⟨fun _ => trivial, ?_⟩
           refine wpS.p 6 10 (.slice r47_A r47_n r47_c) (by kernel_rfl) ?_
           refine wpS.fin rfl (kr90 _ _ ?_)
           refine then_n (ks89 _ _ ?_)
           obtain ⟨y48_1, hj, h⟩ := of_bind h
           refine xseq_k fun KS92 ks92 => wp_join (N := fun a w => St w0 [] [.ownL (CI .u8) r47_A r47_n r47_c r47 5, .blk b46 (enc .i32 (rdL (CA .i32 256 (by decide)) a1_5 z41)) 40, .blk b38 ([.int .i32 4095, .int .i32 4096]) 73, .blk b25 ([.int .i32 a0_2, .int .i32 a0_2]) 73, .blk b12 ([.int .i32 a0_2, .int .i32 a0_2]) 73, .ownL (CI .u8) z42_A z42_n z42_c z42 5, .blk b3 ([.slice z42_A z42_n z42_c, .bool y48_1]) 69, .blk b2 ([.slice a1_0_A a1_0_n a1_0_c, .slice a1_1_A a1_1_n a1_1_c, .slice a1_2_A a1_2_n a1_2_c, .slice a1_3_A a1_3_n a1_3_c, .slice a1_4_A a1_4_n a1_4_c, .slice a1_5_A a1_5_n a1_5_c]) 29, .blk b1 ([.int .i64 a0_0, .int .i64 a0_1, .int .i32 a0_2, .int .i64 a0_3, .int .i32 a0_4, .int .i32 a0_5, .int .i64 a0_6, .int .i64 a0_7]) 23] [.rowL (CI .u8) a1_0_A a1_0_n a1_0_c a1_0, .rowL (CI .u8) a1_1_A a1_1_n a1_1_c a1_1, .rowL (CI .u8) a1_2_A a1_2_n a1_2_c a1_2, .rowL (CA .i32 256 (by decide)) a1_3_A a1_3_n a1_3_c a1_3, .rowL (CA .i32 256 (by decide)) a1_4_A a1_4_n a1_4_c a1_4, .rowL (CA .i32 256 (by decide)) a1_5_A a1_5_n a1_5_c a1_5] w ∧ ∃ g : Nat → Value, a = ⟨#[.pointer (some ⟨b3, 0, none⟩), .slice a1_5_A a1_5_n a1_5_c, .int .i64 a0_0, .agg #[.int .i32 4095, .int .i32 4096], undef, undef, undef, .pointer (some ⟨b38, 0, none⟩), undef, .pointer (some ⟨b46, 0, none⟩), .slice r47_A r47_n r47_c, (g 11), (g 12), (g 13), (g 14), (g 15), (g 16), (g 17), (g 18), (g 19), (g 20), (g 21), (g 22), (g 23), .slice a1_5_A a1_5_n a1_5_c, .int .i64 (a1_5.length : Int), .int .i64 z41, .bool true, .pointer (adr a1_5_A ((z41 : Int).toNat * Cod.size (CA .i32 256 (by decide)))), .agg (enc .i32 (rdL (CA .i32 256 (by decide)) a1_5 z41)).toArray, .agg (enc .i32 (rdL (CA .i32 256 (by decide)) a1_5 z41)).toArray, .pointer (some ⟨b38, 0, none⟩), .int .i32 4095, .pointer (some ⟨b38, 1, none⟩), .int .i32 4096, .slice r47_A r47_n r47_c, (g 36), (g 37), (g 38), (g 39), (g 40), (g 41), (g 42), (g 43), (g 44), (g 45), (g 46), (g 47), (g 48), (g 49), (g 50), (g 51), (g 52), (g 53), (g 54), (g 55), (g 56)], []⟩) (fun N nj => ?_) ?_
           ·clear h
            have h := hj
            refine wp_regS (l := [0, 1, 2, 3, 4, 5, 6, 7, 8, 9, 10, 11]) (by kernel_rfl) (by kernel_rfl) fun KR93 kr93 => ?_
            refine wpS.ps [(0, 36, .pointer (some ⟨b3, 0, none⟩)), (1, 37, .pointer (some ⟨b3, 0, none⟩)), (2, 38, .pointer (some ⟨b3, 0, none⟩)), (3, 39, .pointer (some ⟨b3, 1, none⟩))] (by kernel_rfl) ?_
            cases z43_1 with
            | true =>
             have h := of_if_t h
             refine wpS.take 4 true (some 40) (.bool true) (by kernel_rfl) (yld_load1 (e := 4) (o := 1) hs 6 rfl (by kernel_rfl) (by kernel_rfl) (by rfl) .grow) ?_
             refine wpS.ps [(5, 41, .bool true), (6, 42, undef), (7, 43, undef), (8, 44, .bool true), (9, 45, .pointer (some ⟨b3, 0, none⟩)), (10, 46, .pointer (some ⟨b3, 1, none⟩))] (by kernel_rfl) ?_
             refine wpS.only 11 (op_store1 (t := 4) (o := 1) (v := .bool true) (d := none) (by kernel_rfl) hs 6 rfl (by kernel_rfl) rfl (by kernel_rfl) (by simp) ?_)
             intro w kp hs
             refine ⟨fun _ => trivial, ?_⟩
             refine wpS.fin rfl (kr93 _ _ ?_)
             have q0 := of_some h
             subst q0
             exact nj _ _ ⟨(hs.conv rfl), exg (by kernel_rfl)⟩
            | false =>
             have h := of_if_f h
             refine wpS.take 4 true (some 40) (.bool false) (by kernel_rfl) (yld_load1 (e := 4) (o := 1) hs 6 rfl (by kernel_rfl) (by kernel_rfl) (by rfl) .grow) ?_
             refine wpS.ps [(5, 41, .bool false), (6, 42, .slice r47_A r47_n r47_c)] (by kernel_rfl) ?_
             refine wpS.take 7 false (some 43) (.bool ((r47).isEmpty)) (by kernel_rfl) (yld_nilS (t := 24) (e := 5) (C := (CI .u8)) (.tmp 42) (.const (.slice none 0 0)) (hs.rowL 0 rfl) hne91 (by kernel_rfl) (by kernel_rfl) (by kernel_rfl)) ?_
             refine wpS.ps [(8, 44, .bool ((r47).isEmpty)), (9, 45, .pointer (some ⟨b3, 0, none⟩)), (10, 46, .pointer (some ⟨b3, 1, none⟩))] (by kernel_rfl) ?_
             obtain ⟨x49, hx, h⟩ := of_bind h
             refine wpS.only 11 (op_store1 (t := 4) (o := 1) (v := .bool x49) (d := none) (by kernel_rfl) hs 6 rfl (by cases hx; kernel_rfl) rfl (by kernel_rfl) (by simp) ?_)
             intro w kp hs
             refine ⟨fun _ => trivial, ?_⟩
             refine wpS.fin rfl (kr93 _ _ ?_)
             have q0 := of_some h
             subst q0
             exact nj _ _ ⟨(hs.conv rfl), exg (by kernel_rfl)⟩
           ·clear hj hs
            rintro a w ⟨hs, g, rfl⟩
            refine then_n (ks92 _ _ ?_)
            refine wp_regS (l := [0, 1, 2, 3, 4, 5, 6, 7, 8, 9]) (by kernel_rfl) (by kernel_rfl) fun KR94 kr94 => ?_
            refine wpS.ps [(0, 47, .pointer (some ⟨b3, 0, none⟩)), (1, 48, .pointer (some ⟨b3, 0, none⟩)), (2, 49, .pointer (some ⟨b3, 0, none⟩)), (3, 50, .pointer (some ⟨b3, 0, none⟩))] (by kernel_rfl) ?_
            refine wpS.take 4 true (some 51) (.slice z42_A z42_n z42_c) (by kernel_rfl) (yld_load1 (e := 24) (o := 0) hs 6 rfl (by kernel_rfl) (by kernel_rfl) (by rfl) .grow) ?_
            refine wpS.p 5 52 (.slice r47_A r47_n r47_c) (by kernel_rfl) ?_
            obtain ⟨h0, h⟩ := of_chk h
            refine wpS.only 6 (op_appendT (C := (CI .u8)) (t := 24) (ty := 24) (e := 5) (bytes := 1) (B := 140737488355328) (d := (some 53)) (by kernel_rfl) hs 5 rfl (hs.rowL 0 rfl) (by kernel_rfl) (by kernel_rfl) (by kernel_rfl) (by kernel_rfl) (by kernel_rfl) h0 (by decide) (by decide) ?_)
            intro s50_A s50_n s50_c w hs
            refine ⟨fun _ => trivial, ?_⟩
            refine wpS.ps [(7, 54, .pointer (some ⟨b3, 0, none⟩)), (8, 55, .pointer (some ⟨b3, 0, none⟩))] (by kernel_rfl) ?_
            refine wpS.only 9 (op_store1 (t := 24) (o := 0) (v := .slice s50_A s50_n s50_c) (d := none) (by kernel_rfl) hs 6 rfl (by kernel_rfl) rfl (by kernel_rfl) (by simp) ?_)
            intro w kp hs
            refine ⟨fun _ => trivial, ?_⟩
            refine wpS.fin rfl (kr94 _ _ ?_)
            refine inBlock_n ?_
            refine then_n (ks85 _ _ ?_)
            refine wp_regS (l := [0, 1]) (by kernel_rfl) (by kernel_rfl) fun KR95 kr95 => ?_
            refine wpS.ps [(0, 56, .int .i64 (iadd .i64 z41 1)), (1, 26, .int .i64 (iadd .i64 z41 1))] (by kernel_rfl) ?_
            refine wpS.fin rfl (kr95 _ _ ?_)
            exact then_n (kl2 _ _ ⟨n, Nat.lt_succ_self n, (iadd .i64 z41 1), (z42 ++ r47), y48_1, s50_A, s50_n, s50_c, h, (hs.drop (.cons _ (.cons _ (.cons_cons _ (.cons_cons _ (.cons_cons _ (.cons_cons _ (.cons_cons _ (.cons_cons _ (.cons_cons _ .slnil)))))))))), exg (by kernel_rfl)⟩)
          ·refine wpS.take 0 false (some 27) (.bool false) (by kernel_rfl) (yld_b (df hc) (fun _ => by kernel_rfl)) ?_
           refine wpS.fin rfl (kr83 _ _ ?_)
           refine then_n (ks82 _ _ ?_)
           refine xseq_k fun KS96 ks96 => ?_
           refine wp_cond_f (by kernel_rfl) ?_
           refine xexit ?_
           refine then_x ?_
           refine then_x ?_
           refine inBlock_hit ?_
           obtain ⟨q0, qr0⟩ := Prod.mk.inj (of_some h)
           have q1 := qr0
           subst q0
           subst q1
           exact exq_n (nn2 _ _ ⟨z42_A, z42_n, z42_c, (hs.conv rfl), exg (by kernel_rfl)⟩)
        ·clear hs h hy
         rintro a w ⟨y44_A, y44_n, y44_c, hs, g, rfl⟩
         have h := hk2
         refine qn75 _ _ (post_nrm (by kernel_rfl) (run_results [] [] (by kernel_rfl) .nil) ?_)
         refine kI75 _ _ ?_
         refine ⟨fun _ => trivial, ?_⟩
         refine wpS.fin rfl (kr74 _ _ ?_)
         refine then_n (ks73 _ _ ?_)
         refine xseq_k fun KS97 ks97 => ?_
         refine wp_regS (l := [0, 1, 2, 3]) (by kernel_rfl) (by kernel_rfl) fun KR98 kr98 => ?_
         refine wpS.p 0 55 (.pointer (some ⟨b3, 0, none⟩)) (by kernel_rfl) ?_
         refine wpS.take 1 true (some 56) (.agg #[.int .i64 a0_0, .int .i64 a0_1, .int .i32 a0_2, .int .i64 a0_3, .int .i32 a0_4, .int .i32 a0_5, .int .i64 a0_6, .int .i64 a0_7]) (by kernel_rfl) (yld_loadW (e := 23) (n := 8) hs 6 rfl (by kernel_rfl) (by kernel_rfl) (by kernel_rfl) (by simp [enc_len]) .grow) ?_
         obtain ⟨y51, hj, h⟩ := of_bind h
         refine wpS.only 2 (op_inlineJ (d := (some 57)) (f := 40) (args := #[.pointer (some ⟨b3, 0, none⟩), .agg #[.int .i64 a0_0, .int .i64 a0_1, .int .i32 a0_2, .int .i64 a0_3, .int .i32 a0_4, .int .i32 a0_5, .int .i64 a0_6, .int .i64 a0_7]]) (by kernel_rfl) (fun _ => by kernel_rfl) (N := fun v w => ∃ (y51_A : Option Addr) (y51_n : Nat) (y51_c : Nat), v = .slice y51_A y51_n y51_c ∧ St w0 [] [.ownL (CI .u8) y51_A y51_n y51_c y51 5, .blk b38 ([.int .i32 4095, .int .i32 4096]) 73, .blk b25 ([.int .i32 a0_2, .int .i32 a0_2]) 73, .blk b12 ([.int .i32 a0_2, .int .i32 a0_2]) 73, .blk b3 ([.slice y44_A y44_n y44_c, .bool y45_1]) 69, .blk b2 ([.slice a1_0_A a1_0_n a1_0_c, .slice a1_1_A a1_1_n a1_1_c, .slice a1_2_A a1_2_n a1_2_c, .slice a1_3_A a1_3_n a1_3_c, .slice a1_4_A a1_4_n a1_4_c, .slice a1_5_A a1_5_n a1_5_c]) 29, .blk b1 ([.int .i64 a0_0, .int .i64 a0_1, .int .i32 a0_2, .int .i64 a0_3, .int .i32 a0_4, .int .i32 a0_5, .int .i64 a0_6, .int .i64 a0_7]) 23] [.rowL (CI .u8) a1_0_A a1_0_n a1_0_c a1_0, .rowL (CI .u8) a1_1_A a1_1_n a1_1_c a1_1, .rowL (CI .u8) a1_2_A a1_2_n a1_2_c a1_2, .rowL (CA .i32 256 (by decide)) a1_3_A a1_3_n a1_3_c a1_3, .rowL (CA .i32 256 (by decide)) a1_4_A a1_4_n a1_4_c a1_4, .rowL (CA .i32 256 (by decide)) a1_5_A a1_5_n a1_5_c a1_5] w) (fun R99 kI99 => ?_) ?_)
         ·clear h
          have h := hj
          refine calls_k Try.func40 rfl fun Q99 qq99 => ?_
          refine wp_conv (a' := ⟨#[.pointer (some ⟨b3, 0, none⟩), .agg #[.int .i64 a0_0, .int .i64 a0_1, .int .i32 a0_2, .int .i64 a0_3, .int .i32 a0_4, .int .i32 a0_5, .int .i64 a0_6, .int .i64 a0_7], undef, undef, undef, undef, undef, undef, undef, undef, undef, undef, undef, undef, undef, undef, undef, undef], []⟩) (by kernel_rfl) ?_
          refine xseq_k fun KS100 ks100 => ?_
          refine wp_regS (l := [0, 1]) (by kernel_rfl) (by kernel_rfl) fun KR101 kr101 => ?_
          refine wpS.only 0 (op_box (t := 23) (v := .agg #[.int .i64 a0_0, .int .i64 a0_1, .int .i32 a0_2, .int .i64 a0_3, .int .i32 a0_4, .int .i32 a0_5, .int .i64 a0_6, .int .i64 a0_7]) (d := (some 3)) (by kernel_rfl) hs ([.int .i64 a0_0, .int .i64 a0_1, .int .i32 a0_2, .int .i64 a0_3, .int .i32 a0_4, .int .i32 a0_5, .int .i64 a0_6, .int .i64 a0_7]) (by kernel_rfl) (by kernel_rfl) ?_)
          intro b52 w gw hs
          refine ⟨fun _ => trivial, ?_⟩
          refine wpS.p 1 4 (.slice none 0 0) (by kernel_rfl) ?_
          refine wpS.fin rfl (kr101 _ _ ?_)
          refine then_n (ks100 _ _ ?_)
          refine xseq_k fun KS102 ks102 => ?_
          refine xseq_k fun KS103 ks103 => ?_
          refine wp_regS (l := [0, 1, 2, 3, 4, 5, 6, 7, 8]) (by kernel_rfl) (by kernel_rfl) fun KR104 kr104 => ?_
          refine wpS.ps [(0, 5, .pointer (some ⟨b3, 0, none⟩)), (1, 6, .pointer (some ⟨b3, 0, none⟩)), (2, 7, .pointer (some ⟨b3, 1, none⟩))] (by kernel_rfl) ?_
          cases y45_1 with
          | true =>
           have h := of_if_t h
           refine wpS.take 3 true (some 8) (.bool true) (by kernel_rfl) (yld_load1 (e := 4) (o := 1) hs 5 rfl (by kernel_rfl) (by kernel_rfl) (by rfl) .grow) ?_
           refine wpS.ps [(4, 9, .bool true), (5, 10, undef), (6, 11, undef), (7, 12, undef), (8, 13, .bool true)] (by kernel_rfl) ?_
           refine wpS.fin rfl (kr104 _ _ ?_)
           refine then_n (ks103 _ _ ?_)
           refine wp_cond_t (by kernel_rfl) ?_
           refine xseq_k fun KS105 ks105 => ?_
           refine wp_regS (l := [0]) (by kernel_rfl) (by kernel_rfl) fun KR106 kr106 => ?_
           refine wpS.p 0 4 (.slice none 0 0) (by kernel_rfl) ?_
           refine wpS.fin rfl (kr106 _ _ ?_)
           refine then_n (ks105 _ _ ?_)
           refine xret ?_
           refine then_r ?_
           have q0 := of_some h
           subst q0
           have hs := hs.addNilL (CI .u8) 5
           exact qq99 _ _ (post_ret (by kernel_rfl) (run_results [.tmp 4] [.slice none 0 0] (by kernel_rfl) (.cons (res_tmp (by kernel_rfl)) .nil)) (kI99 _ _ ⟨none, 0, 0, rfl, (hs.drop (.cons_cons _ (.cons _ (.cons_cons _ (.cons_cons _ (.cons_cons _ (.cons _ (.cons_cons _ (.cons_cons _ (.cons_cons _ .slnil))))))))))⟩))
          | false =>
           have h := of_if_f h
           refine wpS.take 3 true (some 8) (.bool false) (by kernel_rfl) (yld_load1 (e := 4) (o := 1) hs 5 rfl (by kernel_rfl) (by kernel_rfl) (by rfl) .grow) ?_
           refine wpS.p 4 9 (.bool false) (by kernel_rfl) ?_
           refine wpS.take 5 true (some 10) (.agg #[.int .i64 a0_0, .int .i64 a0_1, .int .i32 a0_2, .int .i64 a0_3, .int .i32 a0_4, .int .i32 a0_5, .int .i64 a0_6, .int .i64 a0_7]) (by kernel_rfl) (yld_loadW (e := 23) (n := 8) hs 0 rfl (by kernel_rfl) (by kernel_rfl) (by kernel_rfl) (by simp [enc_len]) .grow) ?_
           obtain ⟨r53, hg, h⟩ := of_bind h
           cases r53 with
           | true =>
            have h := of_if_t h
            refine wpS.only 6 (op_call (d := (some 11)) (by kernel_rfl) hs (fun _ => by kernel_rfl) (dpack_known.ok hg _) ?_)
            intro w gw hs
            refine ⟨fun _ => trivial, ?_⟩
            refine wpS.ps [(7, 12, .bool false), (8, 13, .bool false)] (by kernel_rfl) ?_
            refine wpS.fin rfl (kr104 _ _ ?_)
            refine then_n (ks103 _ _ ?_)
            refine wp_cond_f (by kernel_rfl) ?_
            refine xskip ?_
            refine then_n (ks102 _ _ ?_)
            refine xseq_k fun KS107 ks107 => ?_
            refine wp_regS (l := [0, 1, 2, 3, 4]) (by kernel_rfl) (by kernel_rfl) fun KR108 kr108 => ?_
            refine wpS.ps [(0, 14, .pointer (some ⟨b3, 0, none⟩)), (1, 15, .pointer (some ⟨b3, 0, none⟩)), (2, 16, .pointer (some ⟨b3, 0, none⟩))] (by kernel_rfl) ?_
            refine wpS.take 3 true (some 17) (.slice y44_A y44_n y44_c) (by kernel_rfl) (yld_load1 (e := 24) (o := 0) hs 5 rfl (by kernel_rfl) (by kernel_rfl) (by rfl) .grow) ?_
            refine wpS.p 4 4 (.slice y44_A y44_n y44_c) (by kernel_rfl) ?_
            refine wpS.fin rfl (kr108 _ _ ?_)
            refine then_n (ks107 _ _ ?_)
            refine xret ?_
            have q0 := of_some h
            subst q0
            have hs := (hs.front 7 rfl).conv (L' := [.blk b1 ([.int .i64 a0_0, .int .i64 a0_1, .int .i32 a0_2, .int .i64 a0_3, .int .i32 a0_4, .int .i32 a0_5, .int .i64 a0_6, .int .i64 a0_7]) 23, .blk b52 ([.int .i64 a0_0, .int .i64 a0_1, .int .i32 a0_2, .int .i64 a0_3, .int .i32 a0_4, .int .i32 a0_5, .int .i64 a0_6, .int .i64 a0_7]) 23, .blk b38 ([.int .i32 4095, .int .i32 4096]) 73, .blk b25 ([.int .i32 a0_2, .int .i32 a0_2]) 73, .blk b12 ([.int .i32 a0_2, .int .i32 a0_2]) 73, .ownL (CI .u8) y44_A y44_n y44_c y44 5, .blk b3 ([.slice y44_A y44_n y44_c, .bool false]) 69, .blk b2 ([.slice a1_0_A a1_0_n a1_0_c, .slice a1_1_A a1_1_n a1_1_c, .slice a1_2_A a1_2_n a1_2_c, .slice a1_3_A a1_3_n a1_3_c, .slice a1_4_A a1_4_n a1_4_c, .slice a1_5_A a1_5_n a1_5_c]) 29]) rfl
            have hs := (hs.front 7 rfl).conv (L' := [.blk b2 ([.slice a1_0_A a1_0_n a1_0_c, .slice a1_1_A a1_1_n a1_1_c, .slice a1_2_A a1_2_n a1_2_c, .slice a1_3_A a1_3_n a1_3_c, .slice a1_4_A a1_4_n a1_4_c, .slice a1_5_A a1_5_n a1_5_c]) 29, .blk b1 ([.int .i64 a0_0, .int .i64 a0_1, .int .i32 a0_2, .int .i64 a0_3, .int .i32 a0_4, .int .i32 a0_5, .int .i64 a0_6, .int .i64 a0_7]) 23, .blk b52 ([.int .i64 a0_0, .int .i64 a0_1, .int .i32 a0_2, .int .i64 a0_3, .int .i32 a0_4, .int .i32 a0_5, .int .i64 a0_6, .int .i64 a0_7]) 23, .blk b38 ([.int .i32 4095, .int .i32 4096]) 73, .blk b25 ([.int .i32 a0_2, .int .i32 a0_2]) 73, .blk b12 ([.int .i32 a0_2, .int .i32 a0_2]) 73, .ownL (CI .u8) y44_A y44_n y44_c y44 5, .blk b3 ([.slice y44_A y44_n y44_c, .bool false]) 69]) rfl
            have hs := (hs.front 7 rfl).conv (L' := [.blk b3 ([.slice y44_A y44_n y44_c, .bool false]) 69, .blk b2 ([.slice a1_0_A a1_0_n a1_0_c, .slice a1_1_A a1_1_n a1_1_c, .slice a1_2_A a1_2_n a1_2_c, .slice a1_3_A a1_3_n a1_3_c, .slice a1_4_A a1_4_n a1_4_c, .slice a1_5_A a1_5_n a1_5_c]) 29, .blk b1 ([.int .i64 a0_0, .int .i64 a0_1, .int .i32 a0_2, .int .i64 a0_3, .int .i32 a0_4, .int .i32 a0_5, .int .i64 a0_6, .int .i64 a0_7]) 23, .blk b52 ([.int .i64 a0_0, .int .i64 a0_1, .int .i32 a0_2, .int .i64 a0_3, .int .i32 a0_4, .int .i32 a0_5, .int .i64 a0_6, .int .i64 a0_7]) 23, .blk b38 ([.int .i32 4095, .int .i32 4096]) 73, .blk b25 ([.int .i32 a0_2, .int .i32 a0_2]) 73, .blk b12 ([.int .i32 a0_2, .int .i32 a0_2]) 73, .ownL (CI .u8) y44_A y44_n y44_c y44 5]) rfl
            have hs := (hs.front 6 rfl).conv (L' := [.blk b12 ([.int .i32 a0_2, .int .i32 a0_2]) 73, .blk b3 ([.slice y44_A y44_n y44_c, .bool false]) 69, .blk b2 ([.slice a1_0_A a1_0_n a1_0_c, .slice a1_1_A a1_1_n a1_1_c, .slice a1_2_A a1_2_n a1_2_c, .slice a1_3_A a1_3_n a1_3_c, .slice a1_4_A a1_4_n a1_4_c, .slice a1_5_A a1_5_n a1_5_c]) 29, .blk b1 ([.int .i64 a0_0, .int .i64 a0_1, .int .i32 a0_2, .int .i64 a0_3, .int .i32 a0_4, .int .i32 a0_5, .int .i64 a0_6, .int .i64 a0_7]) 23, .blk b52 ([.int .i64 a0_0, .int .i64 a0_1, .int .i32 a0_2, .int .i64 a0_3, .int .i32 a0_4, .int .i32 a0_5, .int .i64 a0_6, .int .i64 a0_7]) 23, .blk b38 ([.int .i32 4095, .int .i32 4096]) 73, .blk b25 ([.int .i32 a0_2, .int .i32 a0_2]) 73, .ownL (CI .u8) y44_A y44_n y44_c y44 5]) rfl
            have hs := (hs.front 6 rfl).conv (L' := [.blk b25 ([.int .i32 a0_2, .int .i32 a0_2]) 73, .blk b12 ([.int .i32 a0_2, .int .i32 a0_2]) 73, .blk b3 ([.slice y44_A y44_n y44_c, .bool false]) 69, .blk b2 ([.slice a1_0_A a1_0_n a1_0_c, .slice a1_1_A a1_1_n a1_1_c, .slice a1_2_A a1_2_n a1_2_c, .slice a1_3_A a1_3_n a1_3_c, .slice a1_4_A a1_4_n a1_4_c, .slice a1_5_A a1_5_n a1_5_c]) 29, .blk b1 ([.int .i64 a0_0, .int .i64 a0_1, .int .i32 a0_2, .int .i64 a0_3, .int .i32 a0_4, .int .i32 a0_5, .int .i64 a0_6, .int .i64 a0_7]) 23, .blk b52 ([.int .i64 a0_0, .int .i64 a0_1, .int .i32 a0_2, .int .i64 a0_3, .int .i32 a0_4, .int .i32 a0_5, .int .i64 a0_6, .int .i64 a0_7]) 23, .blk b38 ([.int .i32 4095, .int .i32 4096]) 73, .ownL (CI .u8) y44_A y44_n y44_c y44 5]) rfl
            have hs := (hs.front 6 rfl).conv (L' := [.blk b38 ([.int .i32 4095, .int .i32 4096]) 73, .blk b25 ([.int .i32 a0_2, .int .i32 a0_2]) 73, .blk b12 ([.int .i32 a0_2, .int .i32 a0_2]) 73, .blk b3 ([.slice y44_A y44_n y44_c, .bool false]) 69, .blk b2 ([.slice a1_0_A a1_0_n a1_0_c, .slice a1_1_A a1_1_n a1_1_c, .slice a1_2_A a1_2_n a1_2_c, .slice a1_3_A a1_3_n a1_3_c, .slice a1_4_A a1_4_n a1_4_c, .slice a1_5_A a1_5_n a1_5_c]) 29, .blk b1 ([.int .i64 a0_0, .int .i64 a0_1, .int .i32 a0_2, .int .i64 a0_3, .int .i32 a0_4, .int .i32 a0_5, .int .i64 a0_6, .int .i64 a0_7]) 23, .blk b52 ([.int .i64 a0_0, .int .i64 a0_1, .int .i32 a0_2, .int .i64 a0_3, .int .i32 a0_4, .int .i32 a0_5, .int .i64 a0_6, .int .i64 a0_7]) 23, .ownL (CI .u8) y44_A y44_n y44_c y44 5]) rfl
            have hs := (hs.front 7 rfl).conv (L' := [.ownL (CI .u8) y44_A y44_n y44_c y44 5, .blk b38 ([.int .i32 4095, .int .i32 4096]) 73, .blk b25 ([.int .i32 a0_2, .int .i32 a0_2]) 73, .blk b12 ([.int .i32 a0_2, .int .i32 a0_2]) 73, .blk b3 ([.slice y44_A y44_n y44_c, .bool false]) 69, .blk b2 ([.slice a1_0_A a1_0_n a1_0_c, .slice a1_1_A a1_1_n a1_1_c, .slice a1_2_A a1_2_n a1_2_c, .slice a1_3_A a1_3_n a1_3_c, .slice a1_4_A a1_4_n a1_4_c, .slice a1_5_A a1_5_n a1_5_c]) 29, .blk b1 ([.int .i64 a0_0, .int .i64 a0_1, .int .i32 a0_2, .int .i64 a0_3, .int .i32 a0_4, .int .i32 a0_5, .int .i64 a0_6, .int .i64 a0_7]) 23, .blk b52 ([.int .i64 a0_0, .int .i64 a0_1, .int .i32 a0_2, .int .i64 a0_3, .int .i32 a0_4, .int .i32 a0_5, .int .i64 a0_6, .int .i64 a0_7]) 23]) rfl
            exact qq99 _ _ (post_ret (by kernel_rfl) (run_results [.tmp 4] [.slice y44_A y44_n y44_c] (by kernel_rfl) (.cons (res_tmp (by kernel_rfl)) .nil)) (kI99 _ _ ⟨y44_A, y44_n, y44_c, rfl, (hs.drop (.cons_cons _ (.cons_cons _ (.cons_cons _ (.cons_cons _ (.cons_cons _ (.cons_cons _ (.cons_cons _ (.cons _ .slnil)))))))))⟩))
           | false =>
            have h := of_if_f h
            refine wpS.only 6 (op_call (d := (some 11)) (by kernel_rfl) hs (fun _ => by kernel_rfl) (dpack_known.ok hg _) ?_)
            intro w gw hs
            refine ⟨fun _ => trivial, ?_⟩
            refine wpS.ps [(7, 12, .bool true), (8, 13, .bool true)] (by kernel_rfl) ?_
            refine wpS.fin rfl (kr104 _ _ ?_)
            refine then_n (ks103 _ _ ?_)
            refine wp_cond_t (by kernel_rfl) ?_
            refine xseq_k fun KS109 ks109 => ?_
            refine wp_regS (l := [0]) (by kernel_rfl) (by kernel_rfl) fun KR110 kr110 => ?_
            refine wpS.p 0 4 (.slice none 0 0) (by kernel_rfl) ?_
            refine wpS.fin rfl (kr110 _ _ ?_)
            refine then_n (ks109 _ _ ?_)
            refine xret ?_
            refine then_r ?_
            have q0 := of_some h
            subst q0
            have hs := hs.addNilL (CI .u8) 5
            exact qq99 _ _ (post_ret (by kernel_rfl) (run_results [.tmp 4] [.slice none 0 0] (by kernel_rfl) (.cons (res_tmp (by kernel_rfl)) .nil)) (kI99 _ _ ⟨none, 0, 0, rfl, (hs.drop (.cons_cons _ (.cons _ (.cons_cons _ (.cons_cons _ (.cons_cons _ (.cons _ (.cons_cons _ (.cons_cons _ (.cons_cons _ .slnil))))))))))⟩))
         ·clear hj hs
          rintro v w ⟨y51_A, y51_n, y51_c, rfl, hs⟩
          refine ⟨fun _ => trivial, ?_⟩
          refine wpS.p 3 4 (.slice y51_A y51_n y51_c) (by kernel_rfl) ?_
          refine wpS.fin rfl (kr98 _ _ ?_)
          refine then_n (ks97 _ _ ?_)
          refine xret ?_
          have q0 := of_some h
          subst q0
          exact qq _ _ (post_ret (by kernel_rfl) (run_results [.tmp 4] [.slice y51_A y51_n y51_c] (by kernel_rfl) (.cons (res_tmp (by kernel_rfl)) .nil)) ⟨⟨y51_A, y51_n, y51_c⟩, congrArg Ending.returned (by kernel_rfl), ((hs.drop (.cons_cons _ (.cons _ (.cons _ (.cons _ (.cons _ (.cons _ (.cons _ .slnil)))))))).pickR pick_nil)⟩)
end Go.Proofs.Ytblploekkjeolaa
