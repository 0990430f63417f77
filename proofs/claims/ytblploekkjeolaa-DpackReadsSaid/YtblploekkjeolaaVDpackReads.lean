/- Printed by this work's own program: the code of each function below comes to the answer that its plain form tells. -/
import Derived.Test.YtblploekkjeolaaMv
import Derived.Test.YtblploekkjeolaaProg
import Derived.Test.YtblploekkjeolaaLDpackReads
import Derived.Test.YtblploekkjeolaaDX0
import Derived.Test.YtblploekkjeolaaDX1
import Derived.Test.YtblploekkjeolaaDX13
import Derived.Test.YtblploekkjeolaaDX14
import Derived.Test.YtblploekkjeolaaDX15
import Derived.Test.YtblploekkjeolaaDX16
import Derived.Test.YtblploekkjeolaaDX17
import Derived.Test.YtblploekkjeolaaDX18
import Derived.Test.YtblploekkjeolaaDX19
import Derived.Test.YtblploekkjeolaaDX2
import Derived.Test.YtblploekkjeolaaDX3
import Derived.Test.YtblploekkjeolaaDX4
import Derived.Test.YtblploekkjeolaaDX5
import Derived.Test.YtblploekkjeolaaDX8
set_option linter.unusedVariables false
set_option linter.unusedSimpArgs false
set_option maxRecDepth 100000
set_option maxHeartbeats 4000000
namespace Go.Proofs.Ytblploekkjeolaa
open Go.Mx
attribute [local irreducible] wpOp

theorem law22_DpackReads.ok {K : Nat} {a0 : Int} {a1_0 : Int} {a1_1 : Int} {a1_2 : Int} {a1_3 : Int} {a1_4 : Int} {a1_5 : Int} {a1_6 : Int} {a1_7 : Int} {a2 : List Int} {r0 : Bool} {a2_A : Option Addr} {a2_n : Nat} {a2_c : Nat} (h : law22_DpackReads.f K a0 a1_0 a1_1 a1_2 a1_3 a1_4 a1_5 a1_6 a1_7 a2 = some r0) (w0 : World) (hp2 : RowL (CI .u8) w0 a2_A a2_n a2_c a2) : Ret Try.prog 5 #[.int .u8 a0, .agg #[.int .i64 a1_0, .int .i64 a1_1, .int .i32 a1_2, .int .i64 a1_3, .int .i32 a1_4, .int .i32 a1_5, .int .i64 a1_6, .int .i64 a1_7], .slice a2_A a2_n a2_c] w0 (.bool r0) := by
 refine calls_k Try.func5 rfl fun Q qq => ?_
 have hs := St.startR (all_cons (RowP.ent hp2) all_nil)
 refine wp_conv (a' := ⟨#[.int .u8 a0, .agg #[.int .i64 a1_0, .int .i64 a1_1, .int .i32 a1_2, .int .i64 a1_3, .int .i32 a1_4, .int .i32 a1_5, .int .i64 a1_6, .int .i64 a1_7], .slice a2_A a2_n a2_c, undef, undef, undef, undef, undef, undef, undef, undef, undef, undef, undef, undef, undef, undef, undef, undef, undef, undef, undef, undef, undef, undef, undef, undef, undef, undef, undef, undef, undef, undef, undef, undef, undef, undef, undef, undef, undef, undef, undef, undef, undef, undef, undef, undef, undef, undef, undef, undef, undef, undef, undef, undef, undef, undef, undef, undef, undef, undef, undef, undef, undef, undef, undef, undef, undef, undef, undef, undef, undef, undef, undef, undef, undef, undef, undef, undef, undef, undef, undef, undef, undef, undef, undef, undef, undef, undef, undef, undef, undef, undef], []⟩) (by kernel_rfl) ?_
 refine xseq_k fun KS1 ks1 => ?_
 refine wp_regS (l := [0, 1]) (by kernel_rfl) (by kernel_rfl) fun KR2 kr2 => ?_
 refine wpS.only 0 (op_box (t := 23) (v := .agg #[.int .i64 a1_0, .int .i64 a1_1, .int .i32 a1_2, .int .i64 a1_3, .int .i32 a1_4, .int .i32 a1_5, .int .i64 a1_6, .int .i64 a1_7]) (d := (some 4)) (by kernel_rfl) hs ([.int .i64 a1_0, .int .i64 a1_1, .int .i32 a1_2, .int .i64 a1_3, .int .i32 a1_4, .int .i32 a1_5, .int .i64 a1_6, .int .i64 a1_7]) (by kernel_rfl) (by kernel_rfl) ?_)
 intro b1 w gw hs
 refine ⟨fun _ => trivial, ?_⟩
 refine wpS.p 1 6 (.bool false) (by kernel_rfl) ?_
 refine wpS.fin rfl (kr2 _ _ ?_)
 refine then_n (ks1 _ _ ?_)
 refine xseq_k fun KS3 ks3 => ?_
 refine wp_regS (l := [0, 1, 2, 3]) (by kernel_rfl) (by kernel_rfl) fun KR4 kr4 => ?_
 refine wpS.p 0 19 (.int .u8 a0) (by kernel_rfl) ?_
 refine wpS.take 1 true (some 20) (.agg #[.int .i64 a1_0, .int .i64 a1_1, .int .i32 a1_2, .int .i64 a1_3, .int .i32 a1_4, .int .i32 a1_5, .int .i64 a1_6, .int .i64 a1_7]) (by kernel_rfl) (yld_loadW (e := 23) (n := 8) hs 0 rfl (by kernel_rfl) (by kernel_rfl) (by kernel_rfl) (by simp [enc_len]) .grow) ?_
 obtain ⟨⟨r2_0, r2_1, r2_2, r2_3, r2_4, r2_5, r2_6, r2_7⟩, hg, h⟩ := of_bind h
 refine wpS.only 2 (op_call (d := (some 21)) (by kernel_rfl) hs (fun _ => by kernel_rfl) (law22_kind.ok hg _) ?_)
 intro w gw hs
 refine ⟨fun _ => trivial, ?_⟩
 refine wpS.only 3 (op_storeW (t := 23) (v := .agg #[.int .i64 r2_0, .int .i64 r2_1, .int .i32 r2_2, .int .i64 r2_3, .int .i32 r2_4, .int .i32 r2_5, .int .i64 r2_6, .int .i64 r2_7]) (d := none) (by kernel_rfl) hs 0 rfl (vs := [.int .i64 r2_0, .int .i64 r2_1, .int .i32 r2_2, .int .i64 r2_3, .int .i32 r2_4, .int .i32 r2_5, .int .i64 r2_6, .int .i64 r2_7]) (n := 8) (by kernel_rfl) (by kernel_rfl) (by kernel_rfl) (by simp [enc_len]) (by simp [enc_len]) (by simp [Value.oneCell']) ?_)
 intro w kp hs
 refine ⟨fun _ => trivial, ?_⟩
 refine wpS.fin rfl (kr4 _ _ ?_)
 refine then_n (ks3 _ _ ?_)
 refine xseq_k fun KS5 ks5 => ?_
 refine xseq_k fun KS6 ks6 => ?_
 refine wp_regS (l := [0, 1, 2]) (by kernel_rfl) (by kernel_rfl) fun KR7 kr7 => ?_
 refine wpS.p 0 22 (.slice a2_A a2_n a2_c) (by kernel_rfl) ?_
 refine wpS.take 1 false (some 23) (.int .i64 (a2.length : Int)) (by kernel_rfl) (yld_lenL (hs.rowR 0 rfl) (fun _ => by kernel_rfl)) ?_
 rcases of_if h with ⟨hc, h⟩ | ⟨hc, h⟩
 ·refine wpS.take 2 false (some 24) (.bool true) (by kernel_rfl) (yld_b (dt hc) (fun _ => by kernel_rfl)) ?_
  refine wpS.fin rfl (kr7 _ _ ?_)
  refine then_n (ks6 _ _ ?_)
  refine wp_cond_t (by kernel_rfl) ?_
  refine xseq_k fun KS8 ks8 => ?_
  refine wp_regS (l := [0, 1]) (by kernel_rfl) (by kernel_rfl) fun KR9 kr9 => ?_
  obtain ⟨r3, hg, h⟩ := of_bind h
  refine wpS.only 0 (op_call (d := (some 25)) (by kernel_rfl) hs (fun _ => by kernel_rfl) (law22_awake.ok hg _) ?_)
  intro w gw hs
  refine ⟨fun _ => trivial, ?_⟩
  refine wpS.p 1 6 (.bool r3) (by kernel_rfl) ?_
  refine wpS.fin rfl (kr9 _ _ ?_)
  refine then_n (ks8 _ _ ?_)
  refine xret ?_
  refine then_r ?_
  have q0 := of_some h
  subst q0
  exact qq _ _ (post_ret (by kernel_rfl) (run_results [.tmp 6] [.bool r3] (by kernel_rfl) (.cons (res_tmp (by kernel_rfl)) .nil)) ⟨congrArg Ending.returned (by kernel_rfl), hs.none⟩)
 ·refine wpS.take 2 false (some 24) (.bool false) (by kernel_rfl) (yld_b (df hc) (fun _ => by kernel_rfl)) ?_
  refine wpS.fin rfl (kr7 _ _ ?_)
  refine then_n (ks6 _ _ ?_)
  refine wp_cond_f (by kernel_rfl) ?_
  refine xskip ?_
  refine then_n (ks5 _ _ ?_)
  refine xseq_k fun KS10 ks10 => ?_
  refine wp_regS (l := [0, 1, 2, 3, 4, 5, 6, 7, 8]) (by kernel_rfl) (by kernel_rfl) fun KR11 kr11 => ?_
  refine wpS.take 0 true (some 27) (.agg #[.int .i64 r2_0, .int .i64 r2_1, .int .i32 r2_2, .int .i64 r2_3, .int .i32 r2_4, .int .i32 r2_5, .int .i64 r2_6, .int .i64 r2_7]) (by kernel_rfl) (yld_loadW (e := 23) (n := 8) hs 0 rfl (by kernel_rfl) (by kernel_rfl) (by kernel_rfl) (by simp [enc_len]) .grow) ?_
  refine wpS.p 1 28 (.slice a2_A a2_n a2_c) (by kernel_rfl) ?_
  obtain ⟨⟨r4_0, r4_1, r5⟩, hg, h⟩ := of_bind h
  refine wpS.only 2 (op_callH (d := (some 29)) (by kernel_rfl) hs (fun _ => by kernel_rfl) (dpack_UnPublic.ok hg _ (hs.rowR 0 rfl)) ?_)
  rintro ⟨⟨r4_0_A, r4_0_n, r4_0_c⟩, ⟨r4_1_A, r4_1_n, r4_1_c⟩⟩ w gw hs
  have hs := hs.conv (L' := [.ownL (CI .u8) r4_0_A r4_0_n r4_0_c r4_0 5, .ownL (CA .i32 256 (by decide)) r4_1_A r4_1_n r4_1_c r4_1 40, .blk b1 ([.int .i64 r2_0, .int .i64 r2_1, .int .i32 r2_2, .int .i64 r2_3, .int .i32 r2_4, .int .i32 r2_5, .int .i64 r2_6, .int .i64 r2_7]) 23]) rfl
  refine ⟨fun _ => trivial, ?_⟩
  refine wpS.ps [(3, 26, .tuple #[.agg #[.slice r4_0_A r4_0_n r4_0_c, .slice r4_1_A r4_1_n r4_1_c], .bool r5]), (4, 30, .agg #[.slice r4_0_A r4_0_n r4_0_c, .slice r4_1_A r4_1_n r4_1_c]), (5, 31, .bool r5)] (by kernel_rfl) ?_
  refine wpS.only 6 (op_alloc (t := 27) (d := (some 7)) (by kernel_rfl) hs ([.slice none 0 0, .slice none 0 0]) (.agg #[.slice none 0 0, .slice none 0 0]) (by kernel_rfl) (by kernel_rfl) (by kernel_rfl) ?_)
  intro b6 w gw hs
  refine ⟨fun _ => trivial, ?_⟩
  refine wpS.only 7 (op_storeW (t := 27) (v := .agg #[.slice r4_0_A r4_0_n r4_0_c, .slice r4_1_A r4_1_n r4_1_c]) (d := none) (by kernel_rfl) hs 0 rfl (vs := [.slice r4_0_A r4_0_n r4_0_c, .slice r4_1_A r4_1_n r4_1_c]) (n := 2) (by kernel_rfl) (by kernel_rfl) (by kernel_rfl) (by simp [enc_len]) (by simp [enc_len]) (by simp [Value.oneCell']) ?_)
  intro w kp hs
  refine ⟨fun _ => trivial, ?_⟩
  refine wpS.p 8 8 (.bool r5) (by kernel_rfl) ?_
  refine wpS.fin rfl (kr11 _ _ ?_)
  refine then_n (ks10 _ _ ?_)
  refine xseq_k fun KS12 ks12 => ?_
  refine wp_regS (l := [0, 1, 2, 3, 4, 5, 6, 7, 8]) (by kernel_rfl) (by kernel_rfl) fun KR13 kr13 => ?_
  refine wpS.take 0 true (some 33) (.agg #[.int .i64 r2_0, .int .i64 r2_1, .int .i32 r2_2, .int .i64 r2_3, .int .i32 r2_4, .int .i32 r2_5, .int .i64 r2_6, .int .i64 r2_7]) (by kernel_rfl) (yld_loadW (e := 23) (n := 8) hs 3 rfl (by kernel_rfl) (by kernel_rfl) (by kernel_rfl) (by simp [enc_len]) .grow) ?_
  refine wpS.p 1 34 (.slice a2_A a2_n a2_c) (by kernel_rfl) ?_
  obtain ⟨⟨r7_0, r7_1, r8⟩, hg, h⟩ := of_bind h
  refine wpS.only 2 (op_callHR (d := (some 35)) (by kernel_rfl) hs (fun _ => by kernel_rfl) (ref22_UnPublic.ok hg _ (hs.rowR 0 rfl)) (fun _ => (far_cons 0 rfl (fun _ hb => hb) far_nil)) ?_)
  rintro ⟨⟨r7_0_A, r7_0_n, r7_0_c⟩, ⟨r7_1_A, r7_1_n, r7_1_c⟩⟩ w gw hs
  have hs := (hs.conv (L' := [.ownL (CA .i32 256 (by decide)) r7_1_A r7_1_n r7_1_c r7_1 40, .blk b6 ([.slice r4_0_A r4_0_n r4_0_c, .slice r4_1_A r4_1_n r4_1_c]) 27, .ownL (CI .u8) r4_0_A r4_0_n r4_0_c r4_0 5, .ownL (CA .i32 256 (by decide)) r4_1_A r4_1_n r4_1_c r4_1 40, .blk b1 ([.int .i64 r2_0, .int .i64 r2_1, .int .i32 r2_2, .int .i64 r2_3, .int .i32 r2_4, .int .i32 r2_5, .int .i64 r2_6, .int .i64 r2_7]) 23]) rfl).convR (R' := [.rowF (Ent.rowL (CI .u8) a2_A a2_n a2_c a2).foot (CI .u8) r7_0_A r7_0_n r7_0_c r7_0, .rowL (CI .u8) a2_A a2_n a2_c a2]) rfl
  refine ⟨fun _ => trivial, ?_⟩
  refine wpS.ps [(3, 32, .tuple #[.agg #[.slice r7_0_A r7_0_n r7_0_c, .slice r7_1_A r7_1_n r7_1_c], .bool r8]), (4, 36, .agg #[.slice r7_0_A r7_0_n r7_0_c, .slice r7_1_A r7_1_n r7_1_c]), (5, 37, .bool r8)] (by kernel_rfl) ?_
  refine wpS.only 6 (op_alloc (t := 27) (d := (some 9)) (by kernel_rfl) hs ([.slice none 0 0, .slice none 0 0]) (.agg #[.slice none 0 0, .slice none 0 0]) (by kernel_rfl) (by kernel_rfl) (by kernel_rfl) ?_)
  intro b9 w gw hs
  refine ⟨fun _ => trivial, ?_⟩
  refine wpS.only 7 (op_storeW (t := 27) (v := .agg #[.slice r7_0_A r7_0_n r7_0_c, .slice r7_1_A r7_1_n r7_1_c]) (d := none) (by kernel_rfl) hs 0 rfl (vs := [.slice r7_0_A r7_0_n r7_0_c, .slice r7_1_A r7_1_n r7_1_c]) (n := 2) (by kernel_rfl) (by kernel_rfl) (by kernel_rfl) (by simp [enc_len]) (by simp [enc_len]) (by simp [Value.oneCell']) ?_)
  intro w kp hs
  refine ⟨fun _ => trivial, ?_⟩
  refine wpS.p 8 10 (.bool r8) (by kernel_rfl) ?_
  refine wpS.fin rfl (kr13 _ _ ?_)
  refine then_n (ks12 _ _ ?_)
  refine xseq_k fun KS14 ks14 => ?_
  refine wp_regS (l := [0, 1, 2, 3, 4, 5, 6, 7, 8]) (by kernel_rfl) (by kernel_rfl) fun KR15 kr15 => ?_
  refine wpS.take 0 true (some 39) (.agg #[.int .i64 r2_0, .int .i64 r2_1, .int .i32 r2_2, .int .i64 r2_3, .int .i32 r2_4, .int .i32 r2_5, .int .i64 r2_6, .int .i64 r2_7]) (by kernel_rfl) (yld_loadW (e := 23) (n := 8) hs 5 rfl (by kernel_rfl) (by kernel_rfl) (by kernel_rfl) (by simp [enc_len]) .grow) ?_
  refine wpS.p 1 40 (.slice a2_A a2_n a2_c) (by kernel_rfl) ?_
  obtain ⟨⟨r10_0, r10_1, r10_2, r10_3, r10_4, r10_5, r11⟩, hg, h⟩ := of_bind h
  refine wpS.only 2 (op_callH (d := (some 41)) (by kernel_rfl) hs (fun _ => by kernel_rfl) (dpack_UnPrivate.ok hg _ (hs.rowR 1 rfl)) ?_)
  rintro ⟨⟨r10_0_A, r10_0_n, r10_0_c⟩, ⟨r10_1_A, r10_1_n, r10_1_c⟩, ⟨r10_2_A, r10_2_n, r10_2_c⟩, ⟨r10_3_A, r10_3_n, r10_3_c⟩, ⟨r10_4_A, r10_4_n, r10_4_c⟩, ⟨r10_5_A, r10_5_n, r10_5_c⟩⟩ w gw hs
  have hs := hs.conv (L' := [.ownL (CI .u8) r10_0_A r10_0_n r10_0_c r10_0 5, .ownL (CI .u8) r10_1_A r10_1_n r10_1_c r10_1 5, .ownL (CI .u8) r10_2_A r10_2_n r10_2_c r10_2 5, .ownL (CA .i32 256 (by decide)) r10_3_A r10_3_n r10_3_c r10_3 40, .ownL (CA .i32 256 (by decide)) r10_4_A r10_4_n r10_4_c r10_4 40, .ownL (CA .i32 256 (by decide)) r10_5_A r10_5_n r10_5_c r10_5 40, .blk b9 ([.slice r7_0_A r7_0_n r7_0_c, .slice r7_1_A r7_1_n r7_1_c]) 27, .ownL (CA .i32 256 (by decide)) r7_1_A r7_1_n r7_1_c r7_1 40, .blk b6 ([.slice r4_0_A r4_0_n r4_0_c, .slice r4_1_A r4_1_n r4_1_c]) 27, .ownL (CI .u8) r4_0_A r4_0_n r4_0_c r4_0 5, .ownL (CA .i32 256 (by decide)) r4_1_A r4_1_n r4_1_c r4_1 40, .blk b1 ([.int .i64 r2_0, .int .i64 r2_1, .int .i32 r2_2, .int .i64 r2_3, .int .i32 r2_4, .int .i32 r2_5, .int .i64 r2_6, .int .i64 r2_7]) 23]) rfl
  refine ⟨fun _ => trivial, ?_⟩
  refine wpS.ps [(3, 38, .tuple #[.agg #[.slice r10_0_A r10_0_n r10_0_c, .slice r10_1_A r10_1_n r10_1_c, .slice r10_2_A r10_2_n r10_2_c, .slice r10_3_A r10_3_n r10_3_c, .slice r10_4_A r10_4_n r10_4_c, .slice r10_5_A r10_5_n r10_5_c], .bool r11]), (4, 42, .agg #[.slice r10_0_A r10_0_n r10_0_c, .slice r10_1_A r10_1_n r10_1_c, .slice r10_2_A r10_2_n r10_2_c, .slice r10_3_A r10_3_n r10_3_c, .slice r10_4_A r10_4_n r10_4_c, .slice r10_5_A r10_5_n r10_5_c]), (5, 43, .bool r11)] (by kernel_rfl) ?_
  refine wpS.only 6 (op_alloc (t := 29) (d := (some 11)) (by kernel_rfl) hs ([.slice none 0 0, .slice none 0 0, .slice none 0 0, .slice none 0 0, .slice none 0 0, .slice none 0 0]) (.agg #[.slice none 0 0, .slice none 0 0, .slice none 0 0, .slice none 0 0, .slice none 0 0, .slice none 0 0]) (by kernel_rfl) (by kernel_rfl) (by kernel_rfl) ?_)
  intro b12 w gw hs
  refine ⟨fun _ => trivial, ?_⟩
  refine wpS.only 7 (op_storeW (t := 29) (v := .agg #[.slice r10_0_A r10_0_n r10_0_c, .slice r10_1_A r10_1_n r10_1_c, .slice r10_2_A r10_2_n r10_2_c, .slice r10_3_A r10_3_n r10_3_c, .slice r10_4_A r10_4_n r10_4_c, .slice r10_5_A r10_5_n r10_5_c]) (d := none) (by kernel_rfl) hs 0 rfl (vs := [.slice r10_0_A r10_0_n r10_0_c, .slice r10_1_A r10_1_n r10_1_c, .slice r10_2_A r10_2_n r10_2_c, .slice r10_3_A r10_3_n r10_3_c, .slice r10_4_A r10_4_n r10_4_c, .slice r10_5_A r10_5_n r10_5_c]) (n := 6) (by kernel_rfl) (by kernel_rfl) (by kernel_rfl) (by simp [enc_len]) (by simp [enc_len]) (by simp [Value.oneCell']) ?_)
  intro w kp hs
  refine ⟨fun _ => trivial, ?_⟩
  refine wpS.p 8 12 (.bool r11) (by kernel_rfl) ?_
  refine wpS.fin rfl (kr15 _ _ ?_)
  refine then_n (ks14 _ _ ?_)
  refine xseq_k fun KS16 ks16 => ?_
  refine wp_regS (l := [0, 1, 2, 3, 4, 5, 6, 7, 8]) (by kernel_rfl) (by kernel_rfl) fun KR17 kr17 => ?_
  refine wpS.take 0 true (some 45) (.agg #[.int .i64 r2_0, .int .i64 r2_1, .int .i32 r2_2, .int .i64 r2_3, .int .i32 r2_4, .int .i32 r2_5, .int .i64 r2_6, .int .i64 r2_7]) (by kernel_rfl) (yld_loadW (e := 23) (n := 8) hs 12 rfl (by kernel_rfl) (by kernel_rfl) (by kernel_rfl) (by simp [enc_len]) .grow) ?_
  refine wpS.p 1 46 (.slice a2_A a2_n a2_c) (by kernel_rfl) ?_
  obtain ⟨⟨r13_0, r13_1, r13_2, r13_3, r13_4, r13_5, r14⟩, hg, h⟩ := of_bind h
  refine wpS.only 2 (op_callHR (d := (some 47)) (by kernel_rfl) hs (fun _ => by kernel_rfl) (ref22_UnPrivate.ok hg _ (hs.rowR 1 rfl)) (fun _ => (far_cons 1 rfl (fun _ hb => hb) (far_cons 1 rfl (fun _ hb => hb) (far_cons 1 rfl (fun _ hb => hb) far_nil)))) ?_)
  rintro ⟨⟨r13_0_A, r13_0_n, r13_0_c⟩, ⟨r13_1_A, r13_1_n, r13_1_c⟩, ⟨r13_2_A, r13_2_n, r13_2_c⟩, ⟨r13_3_A, r13_3_n, r13_3_c⟩, ⟨r13_4_A, r13_4_n, r13_4_c⟩, ⟨r13_5_A, r13_5_n, r13_5_c⟩⟩ w gw hs
  have hs := (hs.conv (L' := [.ownL (CA .i32 256 (by decide)) r13_3_A r13_3_n r13_3_c r13_3 40, .ownL (CA .i32 256 (by decide)) r13_4_A r13_4_n r13_4_c r13_4 40, .ownL (CA .i32 256 (by decide)) r13_5_A r13_5_n r13_5_c r13_5 40, .blk b12 ([.slice r10_0_A r10_0_n r10_0_c, .slice r10_1_A r10_1_n r10_1_c, .slice r10_2_A r10_2_n r10_2_c, .slice r10_3_A r10_3_n r10_3_c, .slice r10_4_A r10_4_n r10_4_c, .slice r10_5_A r10_5_n r10_5_c]) 29, .ownL (CI .u8) r10_0_A r10_0_n r10_0_c r10_0 5, .ownL (CI .u8) r10_1_A r10_1_n r10_1_c r10_1 5, .ownL (CI .u8) r10_2_A r10_2_n r10_2_c r10_2 5, .ownL (CA .i32 256 (by decide)) r10_3_A r10_3_n r10_3_c r10_3 40, .ownL (CA .i32 256 (by decide)) r10_4_A r10_4_n r10_4_c r10_4 40, .ownL (CA .i32 256 (by decide)) r10_5_A r10_5_n r10_5_c r10_5 40, .blk b9 ([.slice r7_0_A r7_0_n r7_0_c, .slice r7_1_A r7_1_n r7_1_c]) 27, .ownL (CA .i32 256 (by decide)) r7_1_A r7_1_n r7_1_c r7_1 40, .blk b6 ([.slice r4_0_A r4_0_n r4_0_c, .slice r4_1_A r4_1_n r4_1_c]) 27, .ownL (CI .u8) r4_0_A r4_0_n r4_0_c r4_0 5, .ownL (CA .i32 256 (by decide)) r4_1_A r4_1_n r4_1_c r4_1 40, .blk b1 ([.int .i64 r2_0, .int .i64 r2_1, .int .i32 r2_2, .int .i64 r2_3, .int .i32 r2_4, .int .i32 r2_5, .int .i64 r2_6, .int .i64 r2_7]) 23]) rfl).convR (R' := [.rowF (Ent.rowL (CI .u8) a2_A a2_n a2_c a2).foot (CI .u8) r13_0_A r13_0_n r13_0_c r13_0, .rowF (Ent.rowL (CI .u8) a2_A a2_n a2_c a2).foot (CI .u8) r13_1_A r13_1_n r13_1_c r13_1, .rowF (Ent.rowL (CI .u8) a2_A a2_n a2_c a2).foot (CI .u8) r13_2_A r13_2_n r13_2_c r13_2, .rowF (Ent.rowL (CI .u8) a2_A a2_n a2_c a2).foot (CI .u8) r7_0_A r7_0_n r7_0_c r7_0, .rowL (CI .u8) a2_A a2_n a2_c a2]) rfl
  refine ⟨fun _ => trivial, ?_⟩
  refine wpS.ps [(3, 44, .tuple #[.agg #[.slice r13_0_A r13_0_n r13_0_c, .slice r13_1_A r13_1_n r13_1_c, .slice r13_2_A r13_2_n r13_2_c, .slice r13_3_A r13_3_n r13_3_c, .slice r13_4_A r13_4_n r13_4_c, .slice r13_5_A r13_5_n r13_5_c], .bool r14]), (4, 48, .agg #[.slice r13_0_A r13_0_n r13_0_c, .slice r13_1_A r13_1_n r13_1_c, .slice r13_2_A r13_2_n r13_2_c, .slice r13_3_A r13_3_n r13_3_c, .slice r13_4_A r13_4_n r13_4_c, .slice r13_5_A r13_5_n r13_5_c]), (5, 49, .bool r14)] (by kernel_rfl) ?_
  refine wpS.only 6 (op_alloc (t := 29) (d := (some 13)) (by kernel_rfl) hs ([.slice none 0 0, .slice none 0 0, .slice none 0 0, .slice none 0 0, .slice none 0 0, .slice none 0 0]) (.agg #[.slice none 0 0, .slice none 0 0, .slice none 0 0, .slice none 0 0, .slice none 0 0, .slice none 0 0]) (by kernel_rfl) (by kernel_rfl) (by kernel_rfl) ?_)
  intro b15 w gw hs
  refine ⟨fun _ => trivial, ?_⟩
  refine wpS.only 7 (op_storeW (t := 29) (v := .agg #[.slice r13_0_A r13_0_n r13_0_c, .slice r13_1_A r13_1_n r13_1_c, .slice r13_2_A r13_2_n r13_2_c, .slice r13_3_A r13_3_n r13_3_c, .slice r13_4_A r13_4_n r13_4_c, .slice r13_5_A r13_5_n r13_5_c]) (d := none) (by kernel_rfl) hs 0 rfl (vs := [.slice r13_0_A r13_0_n r13_0_c, .slice r13_1_A r13_1_n r13_1_c, .slice r13_2_A r13_2_n r13_2_c, .slice r13_3_A r13_3_n r13_3_c, .slice r13_4_A r13_4_n r13_4_c, .slice r13_5_A r13_5_n r13_5_c]) (n := 6) (by kernel_rfl) (by kernel_rfl) (by kernel_rfl) (by simp [enc_len]) (by simp [enc_len]) (by simp [Value.oneCell']) ?_)
  intro w kp hs
  refine ⟨fun _ => trivial, ?_⟩
  refine wpS.p 8 14 (.bool r14) (by kernel_rfl) ?_
  refine wpS.fin rfl (kr17 _ _ ?_)
  refine then_n (ks16 _ _ ?_)
  refine xseq_k fun KS18 ks18 => ?_
  refine wp_regS (l := [0, 1, 2, 3, 4, 5, 6, 7, 8]) (by kernel_rfl) (by kernel_rfl) fun KR19 kr19 => ?_
  refine wpS.take 0 true (some 51) (.agg #[.int .i64 r2_0, .int .i64 r2_1, .int .i32 r2_2, .int .i64 r2_3, .int .i32 r2_4, .int .i32 r2_5, .int .i64 r2_6, .int .i64 r2_7]) (by kernel_rfl) (yld_loadW (e := 23) (n := 8) hs 16 rfl (by kernel_rfl) (by kernel_rfl) (by kernel_rfl) (by simp [enc_len]) .grow) ?_
  refine wpS.p 1 52 (.slice a2_A a2_n a2_c) (by kernel_rfl) ?_
  obtain ⟨⟨r16_0, r16_1, r16_2, r17⟩, hg, h⟩ := of_bind h
  refine wpS.only 2 (op_callH (d := (some 53)) (by kernel_rfl) hs (fun _ => by kernel_rfl) (dpack_UnSig.ok hg _ (hs.rowR 4 rfl)) ?_)
  rintro ⟨⟨r16_0_A, r16_0_n, r16_0_c⟩, ⟨r16_1_A, r16_1_n, r16_1_c⟩, ⟨r16_2_A, r16_2_n, r16_2_c⟩⟩ w gw hs
  have hs := hs.conv (L' := [.ownL (CI .u8) r16_0_A r16_0_n r16_0_c r16_0 5, .ownL (CA .i32 256 (by decide)) r16_1_A r16_1_n r16_1_c r16_1 40, .ownL (CA .i32 256 (by decide)) r16_2_A r16_2_n r16_2_c r16_2 40, .blk b15 ([.slice r13_0_A r13_0_n r13_0_c, .slice r13_1_A r13_1_n r13_1_c, .slice r13_2_A r13_2_n r13_2_c, .slice r13_3_A r13_3_n r13_3_c, .slice r13_4_A r13_4_n r13_4_c, .slice r13_5_A r13_5_n r13_5_c]) 29, .ownL (CA .i32 256 (by decide)) r13_3_A r13_3_n r13_3_c r13_3 40, .ownL (CA .i32 256 (by decide)) r13_4_A r13_4_n r13_4_c r13_4 40, .ownL (CA .i32 256 (by decide)) r13_5_A r13_5_n r13_5_c r13_5 40, .blk b12 ([.slice r10_0_A r10_0_n r10_0_c, .slice r10_1_A r10_1_n r10_1_c, .slice r10_2_A r10_2_n r10_2_c, .slice r10_3_A r10_3_n r10_3_c, .slice r10_4_A r10_4_n r10_4_c, .slice r10_5_A r10_5_n r10_5_c]) 29, .ownL (CI .u8) r10_0_A r10_0_n r10_0_c r10_0 5, .ownL (CI .u8) r10_1_A r10_1_n r10_1_c r10_1 5, .ownL (CI .u8) r10_2_A r10_2_n r10_2_c r10_2 5, .ownL (CA .i32 256 (by decide)) r10_3_A r10_3_n r10_3_c r10_3 40, .ownL (CA .i32 256 (by decide)) r10_4_A r10_4_n r10_4_c r10_4 40, .ownL (CA .i32 256 (by decide)) r10_5_A r10_5_n r10_5_c r10_5 40, .blk b9 ([.slice r7_0_A r7_0_n r7_0_c, .slice r7_1_A r7_1_n r7_1_c]) 27, .ownL (CA .i32 256 (by decide)) r7_1_A r7_1_n r7_1_c r7_1 40, .blk b6 ([.slice r4_0_A r4_0_n r4_0_c, .slice r4_1_A r4_1_n r4_1_c]) 27, .ownL (CI .u8) r4_0_A r4_0_n r4_0_c r4_0 5, .ownL (CA .i32 256 (by decide)) r4_1_A r4_1_n r4_1_c r4_1 40, .blk b1 ([.int .i64 r2_0, .int .i64 r2_1, .int .i32 r2_2, .int .i64 r2_3, .int .i32 r2_4, .int .i32 r2_5, .int .i64 r2_6, .int .i64 r2_7]) 23]) rfl
  refine ⟨fun _ => trivial, ?_⟩
  refine wpS.ps [(3, 50, .tuple #[.agg #[.slice r16_0_A r16_0_n r16_0_c, .slice r16_1_A r16_1_n r16_1_c, .slice r16_2_A r16_2_n r16_2_c], .bool r17]), (4, 54, .agg #[.slice r16_0_A r16_0_n r16_0_c, .slice r16_1_A r16_1_n r16_1_c, .slice r16_2_A r16_2_n r16_2_c]), (5, 55, .bool r17)] (by kernel_rfl) ?_
  refine wpS.only 6 (op_alloc (t := 31) (d := (some 15)) (by kernel_rfl) hs ([.slice none 0 0, .slice none 0 0, .slice none 0 0]) (.agg #[.slice none 0 0, .slice none 0 0, .slice none 0 0]) (by kernel_rfl) (by kernel_rfl) (by kernel_rfl) ?_)
  intro b18 w gw hs
  refine ⟨fun _ => trivial, ?_⟩
  refine wpS.only 7 (op_storeW (t := 31) (v := .agg #[.slice r16_0_A r16_0_n r16_0_c, .slice r16_1_A r16_1_n r16_1_c, .slice r16_2_A r16_2_n r16_2_c]) (d := none) (by kernel_rfl) hs 0 rfl (vs := [.slice r16_0_A r16_0_n r16_0_c, .slice r16_1_A r16_1_n r16_1_c, .slice r16_2_A r16_2_n r16_2_c]) (n := 3) (by kernel_rfl) (by kernel_rfl) (by kernel_rfl) (by simp [enc_len]) (by simp [enc_len]) (by simp [Value.oneCell']) ?_)
  intro w kp hs
  refine ⟨fun _ => trivial, ?_⟩
  refine wpS.p 8 16 (.bool r17) (by kernel_rfl) ?_
  refine wpS.fin rfl (kr19 _ _ ?_)
  refine then_n (ks18 _ _ ?_)
  refine xseq_k fun KS20 ks20 => ?_
  refine wp_regS (l := [0, 1, 2, 3, 4, 5, 6, 7, 8]) (by kernel_rfl) (by kernel_rfl) fun KR21 kr21 => ?_
  refine wpS.take 0 true (some 57) (.agg #[.int .i64 r2_0, .int .i64 r2_1, .int .i32 r2_2, .int .i64 r2_3, .int .i32 r2_4, .int .i32 r2_5, .int .i64 r2_6, .int .i64 r2_7]) (by kernel_rfl) (yld_loadW (e := 23) (n := 8) hs 20 rfl (by kernel_rfl) (by kernel_rfl) (by kernel_rfl) (by simp [enc_len]) .grow) ?_
  refine wpS.p 1 58 (.slice a2_A a2_n a2_c) (by kernel_rfl) ?_
  obtain ⟨⟨r19_0, r19_1, r19_2, r20⟩, hg, h⟩ := of_bind h
  refine wpS.only 2 (op_callHR (d := (some 59)) (by kernel_rfl) hs (fun _ => by kernel_rfl) (ref22_UnSig.ok hg _ (hs.rowR 4 rfl)) (fun _ => (far_cons 4 rfl (fun _ hb => hb) far_nil)) ?_)
  rintro ⟨⟨r19_0_A, r19_0_n, r19_0_c⟩, ⟨r19_1_A, r19_1_n, r19_1_c⟩, ⟨r19_2_A, r19_2_n, r19_2_c⟩⟩ w gw hs
  have hs := (hs.conv (L' := [.ownL (CA .i32 256 (by decide)) r19_1_A r19_1_n r19_1_c r19_1 40, .ownL (CA .i32 256 (by decide)) r19_2_A r19_2_n r19_2_c r19_2 40, .blk b18 ([.slice r16_0_A r16_0_n r16_0_c, .slice r16_1_A r16_1_n r16_1_c, .slice r16_2_A r16_2_n r16_2_c]) 31, .ownL (CI .u8) r16_0_A r16_0_n r16_0_c r16_0 5, .ownL (CA .i32 256 (by decide)) r16_1_A r16_1_n r16_1_c r16_1 40, .ownL (CA .i32 256 (by decide)) r16_2_A r16_2_n r16_2_c r16_2 40, .blk b15 ([.slice r13_0_A r13_0_n r13_0_c, .slice r13_1_A r13_1_n r13_1_c, .slice r13_2_A r13_2_n r13_2_c, .slice r13_3_A r13_3_n r13_3_c, .slice r13_4_A r13_4_n r13_4_c, .slice r13_5_A r13_5_n r13_5_c]) 29, .ownL (CA .i32 256 (by decide)) r13_3_A r13_3_n r13_3_c r13_3 40, .ownL (CA .i32 256 (by decide)) r13_4_A r13_4_n r13_4_c r13_4 40, .ownL (CA .i32 256 (by decide)) r13_5_A r13_5_n r13_5_c r13_5 40, .blk b12 ([.slice r10_0_A r10_0_n r10_0_c, .slice r10_1_A r10_1_n r10_1_c, .slice r10_2_A r10_2_n r10_2_c, .slice r10_3_A r10_3_n r10_3_c, .slice r10_4_A r10_4_n r10_4_c, .slice r10_5_A r10_5_n r10_5_c]) 29, .ownL (CI .u8) r10_0_A r10_0_n r10_0_c r10_0 5, .ownL (CI .u8) r10_1_A r10_1_n r10_1_c r10_1 5, .ownL (CI .u8) r10_2_A r10_2_n r10_2_c r10_2 5, .ownL (CA .i32 256 (by decide)) r10_3_A r10_3_n r10_3_c r10_3 40, .ownL (CA .i32 256 (by decide)) r10_4_A r10_4_n r10_4_c r10_4 40, .ownL (CA .i32 256 (by decide)) r10_5_A r10_5_n r10_5_c r10_5 40, .blk b9 ([.slice r7_0_A r7_0_n r7_0_c, .slice r7_1_A r7_1_n r7_1_c]) 27, .ownL (CA .i32 256 (by decide)) r7_1_A r7_1_n r7_1_c r7_1 40, .blk b6 ([.slice r4_0_A r4_0_n r4_0_c, .slice r4_1_A r4_1_n r4_1_c]) 27, .ownL (CI .u8) r4_0_A r4_0_n r4_0_c r4_0 5, .ownL (CA .i32 256 (by decide)) r4_1_A r4_1_n r4_1_c r4_1 40, .blk b1 ([.int .i64 r2_0, .int .i64 r2_1, .int .i32 r2_2, .int .i64 r2_3, .int .i32 r2_4, .int .i32 r2_5, .int .i64 r2_6, .int .i64 r2_7]) 23]) rfl).convR (R' := [.rowF (Ent.rowL (CI .u8) a2_A a2_n a2_c a2).foot (CI .u8) r19_0_A r19_0_n r19_0_c r19_0, .rowF (Ent.rowL (CI .u8) a2_A a2_n a2_c a2).foot (CI .u8) r13_0_A r13_0_n r13_0_c r13_0, .rowF (Ent.rowL (CI .u8) a2_A a2_n a2_c a2).foot (CI .u8) r13_1_A r13_1_n r13_1_c r13_1, .rowF (Ent.rowL (CI .u8) a2_A a2_n a2_c a2).foot (CI .u8) r13_2_A r13_2_n r13_2_c r13_2, .rowF (Ent.rowL (CI .u8) a2_A a2_n a2_c a2).foot (CI .u8) r7_0_A r7_0_n r7_0_c r7_0, .rowL (CI .u8) a2_A a2_n a2_c a2]) rfl
  refine ⟨fun _ => trivial, ?_⟩
  refine wpS.ps [(3, 56, .tuple #[.agg #[.slice r19_0_A r19_0_n r19_0_c, .slice r19_1_A r19_1_n r19_1_c, .slice r19_2_A r19_2_n r19_2_c], .bool r20]), (4, 60, .agg #[.slice r19_0_A r19_0_n r19_0_c, .slice r19_1_A r19_1_n r19_1_c, .slice r19_2_A r19_2_n r19_2_c]), (5, 61, .bool r20)] (by kernel_rfl) ?_
  refine wpS.only 6 (op_alloc (t := 31) (d := (some 17)) (by kernel_rfl) hs ([.slice none 0 0, .slice none 0 0, .slice none 0 0]) (.agg #[.slice none 0 0, .slice none 0 0, .slice none 0 0]) (by kernel_rfl) (by kernel_rfl) (by kernel_rfl) ?_)
  intro b21 w gw hs
  refine ⟨fun _ => trivial, ?_⟩
  refine wpS.only 7 (op_storeW (t := 31) (v := .agg #[.slice r19_0_A r19_0_n r19_0_c, .slice r19_1_A r19_1_n r19_1_c, .slice r19_2_A r19_2_n r19_2_c]) (d := none) (by kernel_rfl) hs 0 rfl (vs := [.slice r19_0_A r19_0_n r19_0_c, .slice r19_1_A r19_1_n r19_1_c, .slice r19_2_A r19_2_n r19_2_c]) (n := 3) (by kernel_rfl) (by kernel_rfl) (by kernel_rfl) (by simp [enc_len]) (by simp [enc_len]) (by simp [Value.oneCell']) ?_)
  intro w kp hs
  refine ⟨fun _ => trivial, ?_⟩
  refine wpS.p 8 18 (.bool r20) (by kernel_rfl) ?_
  refine wpS.fin rfl (kr21 _ _ ?_)
  refine then_n (ks20 _ _ ?_)
  refine xseq_k fun KS22 ks22 => ?_
  refine wp_regS (l := [0, 1, 2, 3, 4, 5, 6, 7, 8, 9, 10, 11, 12, 13, 14, 15, 16, 17, 18, 19, 20, 21, 22, 23, 24, 25, 26, 27, 28, 29, 30, 31]) (by kernel_rfl) (by kernel_rfl) fun KR23 kr23 => ?_
  refine wpS.take 0 true (some 62) (.agg #[.slice r4_0_A r4_0_n r4_0_c, .slice r4_1_A r4_1_n r4_1_c]) (by kernel_rfl) (yld_loadW (e := 27) (n := 2) hs 20 rfl (by kernel_rfl) (by kernel_rfl) (by kernel_rfl) (by simp [enc_len]) .grow) ?_
  refine wpS.take 1 true (some 63) (.agg #[.slice r7_0_A r7_0_n r7_0_c, .slice r7_1_A r7_1_n r7_1_c]) (by kernel_rfl) (yld_loadW (e := 27) (n := 2) hs 18 rfl (by kernel_rfl) (by kernel_rfl) (by kernel_rfl) (by simp [enc_len]) .grow) ?_
  obtain ⟨r22, hg, h⟩ := of_bind h
  cases r22 with
  | true =>
   have h := of_if_t h
   refine wpS.only 2 (op_call (d := (some 64)) (by kernel_rfl) hs (fun _ => by kernel_rfl) (ref22_SamePublic.ok hg _ (hs.rowL 21 rfl) (hs.rowL 22 rfl) (hs.rowF 4 rfl) (hs.rowL 19 rfl)) ?_)
   intro w gw hs
   refine ⟨fun _ => trivial, ?_⟩
   refine wpS.ps [(3, 65, .bool true), (4, 66, .bool r5), (5, 67, .bool r8)] (by kernel_rfl) ?_
   rcases of_ifb h with ⟨hc, h⟩ | ⟨hc, h⟩
   ·refine wpS.take 6 false (some 68) (.bool true) (by kernel_rfl) (yld_b hc (fun _ => by kernel_rfl)) ?_
    refine wpS.ps [(7, 69, .bool true), (8, 70, .bool true)] (by kernel_rfl) ?_
    refine wpS.take 9 true (some 71) (.agg #[.slice r10_0_A r10_0_n r10_0_c, .slice r10_1_A r10_1_n r10_1_c, .slice r10_2_A r10_2_n r10_2_c, .slice r10_3_A r10_3_n r10_3_c, .slice r10_4_A r10_4_n r10_4_c, .slice r10_5_A r10_5_n r10_5_c]) (by kernel_rfl) (yld_loadW (e := 29) (n := 6) hs 11 rfl (by kernel_rfl) (by kernel_rfl) (by kernel_rfl) (by simp [enc_len]) .grow) ?_
    refine wpS.take 10 true (some 72) (.agg #[.slice r13_0_A r13_0_n r13_0_c, .slice r13_1_A r13_1_n r13_1_c, .slice r13_2_A r13_2_n r13_2_c, .slice r13_3_A r13_3_n r13_3_c, .slice r13_4_A r13_4_n r13_4_c, .slice r13_5_A r13_5_n r13_5_c]) (by kernel_rfl) (yld_loadW (e := 29) (n := 6) hs 7 rfl (by kernel_rfl) (by kernel_rfl) (by kernel_rfl) (by simp [enc_len]) .grow) ?_
    obtain ⟨r23, hg, h⟩ := of_bind h
    cases r23 with
    | true =>
     have h := of_if_t h
     refine wpS.only 11 (op_call (d := (some 73)) (by kernel_rfl) hs (fun _ => by kernel_rfl) (ref22_SamePrivate.ok hg _ (hs.rowL 12 rfl) (hs.rowL 13 rfl) (hs.rowL 14 rfl) (hs.rowL 15 rfl) (hs.rowL 16 rfl) (hs.rowL 17 rfl) (hs.rowF 1 rfl) (hs.rowF 2 rfl) (hs.rowF 3 rfl) (hs.rowL 8 rfl) (hs.rowL 9 rfl) (hs.rowL 10 rfl)) ?_)
     intro w gw hs
     refine ⟨fun _ => trivial, ?_⟩
     refine wpS.ps [(12, 74, .bool true), (13, 75, .bool true), (14, 76, .bool r11), (15, 77, .bool r14)] (by kernel_rfl) ?_
     rcases of_ifb h with ⟨hc, h⟩ | ⟨hc, h⟩
     ·refine wpS.take 16 false (some 78) (.bool true) (by kernel_rfl) (yld_b hc (fun _ => by kernel_rfl)) ?_
      refine wpS.ps [(17, 79, .bool true), (18, 80, .bool true)] (by kernel_rfl) ?_
      refine wpS.take 19 true (some 81) (.agg #[.slice r16_0_A r16_0_n r16_0_c, .slice r16_1_A r16_1_n r16_1_c, .slice r16_2_A r16_2_n r16_2_c]) (by kernel_rfl) (yld_loadW (e := 31) (n := 3) hs 3 rfl (by kernel_rfl) (by kernel_rfl) (by kernel_rfl) (by simp [enc_len]) .grow) ?_
      refine wpS.take 20 true (some 82) (.agg #[.slice r19_0_A r19_0_n r19_0_c, .slice r19_1_A r19_1_n r19_1_c, .slice r19_2_A r19_2_n r19_2_c]) (by kernel_rfl) (yld_loadW (e := 31) (n := 3) hs 0 rfl (by kernel_rfl) (by kernel_rfl) (by kernel_rfl) (by simp [enc_len]) .grow) ?_
      obtain ⟨r24, hg, h⟩ := of_bind h
      cases r24 with
      | true =>
       have h := of_if_t h
       refine wpS.only 21 (op_call (d := (some 83)) (by kernel_rfl) hs (fun _ => by kernel_rfl) (ref22_SameSig.ok hg _ (hs.rowL 4 rfl) (hs.rowL 5 rfl) (hs.rowL 6 rfl) (hs.rowF 0 rfl) (hs.rowL 1 rfl) (hs.rowL 2 rfl)) ?_)
       intro w gw hs
       refine ⟨fun _ => trivial, ?_⟩
       refine wpS.ps [(22, 84, .bool true), (23, 85, .bool true), (24, 86, .bool r17), (25, 87, .bool r20)] (by kernel_rfl) ?_
       rcases of_ifb h with ⟨hc, h⟩ | ⟨hc, h⟩
       ·refine wpS.take 26 false (some 88) (.bool true) (by kernel_rfl) (yld_b hc (fun _ => by kernel_rfl)) ?_
        refine wpS.ps [(27, 89, .bool true), (28, 90, .bool true)] (by kernel_rfl) ?_
        obtain ⟨r25, hg, h⟩ := of_bind h
        refine wpS.only 29 (op_call (d := (some 91)) (by kernel_rfl) hs (fun _ => by kernel_rfl) (law22_awake.ok hg _) ?_)
        intro w gw hs
        refine ⟨fun _ => trivial, ?_⟩
        refine wpS.ps [(30, 92, .bool r25), (31, 6, .bool r25)] (by kernel_rfl) ?_
        refine wpS.fin rfl (kr23 _ _ ?_)
        refine then_n (ks22 _ _ ?_)
        refine xret ?_
        have q0 := of_some h
        subst q0
        exact qq _ _ (post_ret (by kernel_rfl) (run_results [.tmp 6] [.bool r25] (by kernel_rfl) (.cons (res_tmp (by kernel_rfl)) .nil)) ⟨congrArg Ending.returned (by kernel_rfl), hs.none⟩)
       ·refine wpS.take 26 false (some 88) (.bool false) (by kernel_rfl) (yld_b hc (fun _ => by kernel_rfl)) ?_
        refine wpS.ps [(27, 89, .bool false), (28, 90, .bool false), (29, 91, undef), (30, 92, .bool false), (31, 6, .bool false)] (by kernel_rfl) ?_
        refine wpS.fin rfl (kr23 _ _ ?_)
        refine then_n (ks22 _ _ ?_)
        refine xret ?_
        have q0 := of_some h
        subst q0
        exact qq _ _ (post_ret (by kernel_rfl) (run_results [.tmp 6] [.bool false] (by kernel_rfl) (.cons (res_tmp (by kernel_rfl)) .nil)) ⟨congrArg Ending.returned (by kernel_rfl), hs.none⟩)
      | false =>
       have h := of_if_f h
       refine wpS.only 21 (op_call (d := (some 83)) (by kernel_rfl) hs (fun _ => by kernel_rfl) (ref22_SameSig.ok hg _ (hs.rowL 4 rfl) (hs.rowL 5 rfl) (hs.rowL 6 rfl) (hs.rowF 0 rfl) (hs.rowL 1 rfl) (hs.rowL 2 rfl)) ?_)
       intro w gw hs
       refine ⟨fun _ => trivial, ?_⟩
       refine wpS.ps [(22, 84, .bool false), (23, 85, .bool false), (24, 86, undef), (25, 87, undef), (26, 88, undef), (27, 89, .bool false), (28, 90, .bool false), (29, 91, undef), (30, 92, .bool false), (31, 6, .bool false)] (by kernel_rfl) ?_
       refine wpS.fin rfl (kr23 _ _ ?_)
       refine then_n (ks22 _ _ ?_)
       refine xret ?_
       have q0 := of_some h
       subst q0
       exact qq _ _ (post_ret (by kernel_rfl) (run_results [.tmp 6] [.bool false] (by kernel_rfl) (.cons (res_tmp (by kernel_rfl)) .nil)) ⟨congrArg Ending.returned (by kernel_rfl), hs.none⟩)
     ·refine wpS.take 16 false (some 78) (.bool false) (by kernel_rfl) (yld_b hc (fun _ => by kernel_rfl)) ?_
      refine wpS.ps [(17, 79, .bool false), (18, 80, .bool false), (19, 81, undef), (20, 82, undef), (21, 83, undef), (22, 84, .bool false), (23, 85, .bool false), (24, 86, undef), (25, 87, undef), (26, 88, undef), (27, 89, .bool false), (28, 90, .bool false), (29, 91, undef), (30, 92, .bool false), (31, 6, .bool false)] (by kernel_rfl) ?_
      refine wpS.fin rfl (kr23 _ _ ?_)
      refine then_n (ks22 _ _ ?_)
      refine xret ?_
      have q0 := of_some h
      subst q0
      exact qq _ _ (post_ret (by kernel_rfl) (run_results [.tmp 6] [.bool false] (by kernel_rfl) (.cons (res_tmp (by kernel_rfl)) .nil)) ⟨congrArg Ending.returned (by kernel_rfl), hs.none⟩)
    | false =>
     have h := of_if_f h
     refine wpS.only 11 (op_call (d := (some 73)) (by kernel_rfl) hs (fun _ => by kernel_rfl) (ref22_SamePrivate.ok hg _ (hs.rowL 12 rfl) (hs.rowL 13 rfl) (hs.rowL 14 rfl) (hs.rowL 15 rfl) (hs.rowL 16 rfl) (hs.rowL 17 rfl) (hs.rowF 1 rfl) (hs.rowF 2 rfl) (hs.rowF 3 rfl) (hs.rowL 8 rfl) (hs.rowL 9 rfl) (hs.rowL 10 rfl)) ?_)
     intro w gw hs
     refine ⟨fun _ => trivial, ?_⟩
     refine wpS.ps [(12, 74, .bool false), (13, 75, .bool false), (14, 76, undef), (15, 77, undef), (16, 78, undef), (17, 79, .bool false), (18, 80, .bool false), (19, 81, undef), (20, 82, undef), (21, 83, undef), (22, 84, .bool false), (23, 85, .bool false), (24, 86, undef), (25, 87, undef), (26, 88, undef), (27, 89, .bool false), (28, 90, .bool false), (29, 91, undef), (30, 92, .bool false), (31, 6, .bool false)] (by kernel_rfl) ?_
     refine wpS.fin rfl (kr23 _ _ ?_)
     refine then_n (ks22 _ _ ?_)
     refine xret ?_
     have q0 := of_some h
     subst q0
     exact qq _ _ (post_ret (by kernel_rfl) (run_results [.tmp 6] [.bool false] (by kernel_rfl) (.cons (res_tmp (by kernel_rfl)) .nil)) ⟨congrArg Ending.returned (by kernel_rfl), hs.none⟩)
   ·refine wpS.take 6 false (some 68) (.bool false) (by kernel_rfl) (yld_b hc (fun _ => by kernel_rfl)) ?_
    refine wpS.ps [(7, 69, .bool false), (8, 70, .bool false), (9, 71, undef), (10, 72, undef), (11, 73, undef), (12, 74, .bool false), (13, 75, .bool false), (14, 76, undef), (15, 77, undef), (16, 78, undef), (17, 79, .bool false), (18, 80, .bool false), (19, 81, undef), (20, 82, undef), (21, 83, undef), (22, 84, .bool false), (23, 85, .bool false), (24, 86, undef), (25, 87, undef), (26, 88, undef), (27, 89, .bool false), (28, 90, .bool false), (29, 91, undef), (30, 92, .bool false), (31, 6, .bool false)] (by kernel_rfl) ?_
    refine wpS.fin rfl (kr23 _ _ ?_)
    refine then_n (ks22 _ _ ?_)
    refine xret ?_
    have q0 := of_some h
    subst q0
    exact qq _ _ (post_ret (by kernel_rfl) (run_results [.tmp 6] [.bool false] (by kernel_rfl) (.cons (res_tmp (by kernel_rfl)) .nil)) ⟨congrArg Ending.returned (by kernel_rfl), hs.none⟩)
  | false =>
   have h := of_if_f h
   refine wpS.only 2 (op_call (d := (some 64)) (by kernel_rfl) hs (fun _ => by kernel_rfl) (ref22_SamePublic.ok hg _ (hs.rowL 21 rfl) (hs.rowL 22 rfl) (hs.rowF 4 rfl) (hs.rowL 19 rfl)) ?_)
   intro w gw hs
   refine ⟨fun _ => trivial, ?_⟩
   refine wpS.ps [(3, 65, .bool false), (4, 66, undef), (5, 67, undef), (6, 68, undef), (7, 69, .bool false), (8, 70, .bool false), (9, 71, undef), (10, 72, undef), (11, 73, undef), (12, 74, .bool false), (13, 75, .bool false), (14, 76, undef), (15, 77, undef), (16, 78, undef), (17, 79, .bool false), (18, 80, .bool false), (19, 81, undef), (20, 82, undef), (21, 83, undef), (22, 84, .bool false), (23, 85, .bool false), (24, 86, undef), (25, 87, undef), (26, 88, undef), (27, 89, .bool false), (28, 90, .bool false), (29, 91, undef), (30, 92, .bool false), (31, 6, .bool false)] (by kernel_rfl) ?_
   refine wpS.fin rfl (kr23 _ _ ?_)
   refine then_n (ks22 _ _ ?_)
   refine xret ?_
   have q0 := of_some h
   subst q0
   exact qq _ _ (post_ret (by kernel_rfl) (run_results [.tmp 6] [.bool false] (by kernel_rfl) (.cons (res_tmp (by kernel_rfl)) .nil)) ⟨congrArg Ending.returned (by kernel_rfl), hs.none⟩)
end Go.Proofs.Ytblploekkjeolaa
