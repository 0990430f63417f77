/- Printed by this work's own program: the code of each function below comes to the answer that its plain form tells. -/
import Derived.Test.YtblploekkjeolaaMv
import Derived.Test.YtblploekkjeolaaProg
import Derived.Test.YtblploekkjeolaaDF0
import Derived.Test.YtblploekkjeolaaDX0
set_option linter.unusedVariables false
set_option linter.unusedSimpArgs false
set_option maxRecDepth 100000
set_option maxHeartbeats 4000000
namespace Go.Proofs.Ytblploekkjeolaa
open Go.Mx
attribute [local irreducible] wpOp

theorem law22_awake.ok {K : Nat} {r0 : Bool} (h : law22_awake.f K = some r0) (w0 : World) : Ret Try.prog 8 #[] w0 (.bool r0) := by
 refine calls_k Try.func8 rfl fun Q qq => ?_
 have hs := St.start w0
 refine wp_conv (a' := ⟨#[undef, undef, undef, undef, undef, undef, undef, undef, undef, undef, undef, undef, undef, undef, undef, undef, undef, undef, undef, undef, undef, undef, undef, undef, undef, undef, undef, undef, undef, undef, undef, undef, undef, undef, undef, undef, undef, undef, undef, undef, undef, undef, undef, undef, undef, undef], []⟩) (by kernel_rfl) ?_
 refine xseq_k fun KS1 ks1 => ?_
 refine wp_regS (l := [0]) (by kernel_rfl) (by kernel_rfl) fun KR2 kr2 => ?_
 refine wpS.p 0 0 (.bool false) (by kernel_rfl) ?_
 refine wpS.fin rfl (kr2 _ _ ?_)
 refine then_n (ks1 _ _ ?_)
 refine xseq_k fun KS3 ks3 => ?_
 refine wp_regS (l := [0, 1, 2, 3, 4, 5, 6]) (by kernel_rfl) (by kernel_rfl) fun KR4 kr4 => ?_
 obtain ⟨⟨r1_0, r1_1, r1_2, r1_3, r1_4, r1_5, r1_6, r1_7, r2⟩, hg, h⟩ := of_bind h
 refine wpS.only 0 (op_call (d := (some 9)) (by kernel_rfl) hs (fun _ => by kernel_rfl) (dpack_Set.ok hg _) ?_)
 intro w gw hs
 refine ⟨fun _ => trivial, ?_⟩
 refine wpS.ps [(1, 8, .tuple #[.agg #[.int .i64 r1_0, .int .i64 r1_1, .int .i32 r1_2, .int .i64 r1_3, .int .i32 r1_4, .int .i32 r1_5, .int .i64 r1_6, .int .i64 r1_7], .bool r2]), (2, 10, .agg #[.int .i64 r1_0, .int .i64 r1_1, .int .i32 r1_2, .int .i64 r1_3, .int .i32 r1_4, .int .i32 r1_5, .int .i64 r1_6, .int .i64 r1_7])] (by kernel_rfl) ?_
 cases r2 with
 | true =>
  have h := of_if_t h
  refine wpS.p 3 11 (.bool true) (by kernel_rfl) ?_
  refine wpS.only 4 (op_alloc (t := 23) (d := (some 1)) (by kernel_rfl) hs ([.int .i64 0, .int .i64 0, .int .i32 0, .int .i64 0, .int .i32 0, .int .i32 0, .int .i64 0, .int .i64 0]) (.agg #[.int .i64 0, .int .i64 0, .int .i32 0, .int .i64 0, .int .i32 0, .int .i32 0, .int .i64 0, .int .i64 0]) (by kernel_rfl) (by kernel_rfl) (by kernel_rfl) ?_)
  intro b3 w gw hs
  refine ⟨fun _ => trivial, ?_⟩
  refine wpS.only 5 (op_storeW (t := 23) (v := .agg #[.int .i64 r1_0, .int .i64 r1_1, .int .i32 r1_2, .int .i64 r1_3, .int .i32 r1_4, .int .i32 r1_5, .int .i64 r1_6, .int .i64 r1_7]) (d := none) (by kernel_rfl) hs 0 rfl (vs := [.int .i64 r1_0, .int .i64 r1_1, .int .i32 r1_2, .int .i64 r1_3, .int .i32 r1_4, .int .i32 r1_5, .int .i64 r1_6, .int .i64 r1_7]) (n := 8) (by kernel_rfl) (by kernel_rfl) (by kernel_rfl) (by simp [enc_len]) (by simp [enc_len]) (by simp [Value.oneCell']) ?_)
  intro w kp hs
  refine ⟨fun _ => trivial, ?_⟩
  refine wpS.p 6 2 (.bool true) (by kernel_rfl) ?_
  refine wpS.fin rfl (kr4 _ _ ?_)
  refine then_n (ks3 _ _ ?_)
  refine xseq_k fun KS5 ks5 => ?_
  refine wp_regS (l := [0, 1, 2, 3, 4, 5, 6, 7, 8]) (by kernel_rfl) (by kernel_rfl) fun KR6 kr6 => ?_
  refine wpS.take 0 true (some 13) (.agg #[.int .i64 r1_0, .int .i64 r1_1, .int .i32 r1_2, .int .i64 r1_3, .int .i32 r1_4, .int .i32 r1_5, .int .i64 r1_6, .int .i64 r1_7]) (by kernel_rfl) (yld_loadW (e := 23) (n := 8) hs 0 rfl (by kernel_rfl) (by kernel_rfl) (by kernel_rfl) (by simp [enc_len]) .grow) ?_
  obtain ⟨⟨r4, r5, r6⟩, hg, h⟩ := of_bind h
  refine wpS.only 1 (op_call (d := (some 14)) (by kernel_rfl) hs (fun _ => by kernel_rfl) (dpack_Sizes.ok hg _) ?_)
  intro w gw hs
  refine ⟨fun _ => trivial, ?_⟩
  refine wpS.ps [(2, 12, .tuple #[.int .i64 r4, .int .i64 r5, .int .i64 r6]), (3, 15, .int .i64 r4), (4, 16, .int .i64 r5), (5, 17, .int .i64 r6), (6, 3, .int .i64 r4), (7, 4, .int .i64 r5), (8, 5, .int .i64 r6)] (by kernel_rfl) ?_
  refine wpS.fin rfl (kr6 _ _ ?_)
  refine then_n (ks5 _ _ ?_)
  refine xseq_k fun KS7 ks7 => ?_
  refine wp_regS (l := [0, 1, 2, 3, 4, 5, 6]) (by kernel_rfl) (by kernel_rfl) fun KR8 kr8 => ?_
  obtain ⟨⟨r7_0, r7_1, r7_2, r7_3, r7_4, r7_5, r7_6, r7_7, r8⟩, hg, h⟩ := of_bind h
  refine wpS.only 0 (op_call (d := (some 19)) (by kernel_rfl) hs (fun _ => by kernel_rfl) (dpack_Set.ok hg _) ?_)
  intro w gw hs
  refine ⟨fun _ => trivial, ?_⟩
  refine wpS.ps [(1, 18, .tuple #[.agg #[.int .i64 r7_0, .int .i64 r7_1, .int .i32 r7_2, .int .i64 r7_3, .int .i32 r7_4, .int .i32 r7_5, .int .i64 r7_6, .int .i64 r7_7], .bool r8]), (2, 20, .agg #[.int .i64 r7_0, .int .i64 r7_1, .int .i32 r7_2, .int .i64 r7_3, .int .i32 r7_4, .int .i32 r7_5, .int .i64 r7_6, .int .i64 r7_7])] (by kernel_rfl) ?_
  cases r8 with
  | true =>
   have h := of_if_t h
   refine wpS.p 3 21 (.bool true) (by kernel_rfl) ?_
   refine wpS.only 4 (op_alloc (t := 23) (d := (some 6)) (by kernel_rfl) hs ([.int .i64 0, .int .i64 0, .int .i32 0, .int .i64 0, .int .i32 0, .int .i32 0, .int .i64 0, .int .i64 0]) (.agg #[.int .i64 0, .int .i64 0, .int .i32 0, .int .i64 0, .int .i32 0, .int .i32 0, .int .i64 0, .int .i64 0]) (by kernel_rfl) (by kernel_rfl) (by kernel_rfl) ?_)
   intro b9 w gw hs
   refine ⟨fun _ => trivial, ?_⟩
   refine wpS.only 5 (op_storeW (t := 23) (v := .agg #[.int .i64 r7_0, .int .i64 r7_1, .int .i32 r7_2, .int .i64 r7_3, .int .i32 r7_4, .int .i32 r7_5, .int .i64 r7_6, .int .i64 r7_7]) (d := none) (by kernel_rfl) hs 0 rfl (vs := [.int .i64 r7_0, .int .i64 r7_1, .int .i32 r7_2, .int .i64 r7_3, .int .i32 r7_4, .int .i32 r7_5, .int .i64 r7_6, .int .i64 r7_7]) (n := 8) (by kernel_rfl) (by kernel_rfl) (by kernel_rfl) (by simp [enc_len]) (by simp [enc_len]) (by simp [Value.oneCell']) ?_)
   intro w kp hs
   refine ⟨fun _ => trivial, ?_⟩
   refine wpS.p 6 7 (.bool true) (by kernel_rfl) ?_
   refine wpS.fin rfl (kr8 _ _ ?_)
   refine then_n (ks7 _ _ ?_)
   refine xseq_k fun KS9 ks9 => ?_
   refine wp_regS (l := [0, 1, 2, 3, 4, 5, 6, 7, 8, 9, 10, 11, 12, 13, 14, 15, 16, 17, 18, 19, 20, 21, 22, 23, 24]) (by kernel_rfl) (by kernel_rfl) fun KR10 kr10 => ?_
   refine wpS.ps [(0, 22, .bool true), (1, 23, .bool true), (2, 24, .int .i64 r4)] (by kernel_rfl) ?_
   rcases of_if h with ⟨hc, h⟩ | ⟨hc, h⟩
   ·refine wpS.take 3 false (some 25) (.bool true) (by kernel_rfl) (yld_b (et hc) (fun _ => by kernel_rfl)) ?_
    refine wpS.ps [(4, 26, .bool true), (5, 27, .bool true), (6, 28, .int .i64 r5)] (by kernel_rfl) ?_
    rcases of_if h with ⟨hc, h⟩ | ⟨hc, h⟩
    ·refine wpS.take 7 false (some 29) (.bool true) (by kernel_rfl) (yld_b (et hc) (fun _ => by kernel_rfl)) ?_
     refine wpS.ps [(8, 30, .bool true), (9, 31, .bool true), (10, 32, .int .i64 r6)] (by kernel_rfl) ?_
     rcases of_if h with ⟨hc, h⟩ | ⟨hc, h⟩
     ·refine wpS.take 11 false (some 33) (.bool true) (by kernel_rfl) (yld_b (et hc) (fun _ => by kernel_rfl)) ?_
      refine wpS.ps [(12, 34, .bool true), (13, 35, .bool true), (14, 36, .bool true), (15, 37, .bool false), (16, 38, .bool false), (17, 39, .bool false), (18, 40, undef), (19, 41, undef), (20, 42, undef), (21, 43, undef), (22, 44, undef), (23, 45, .bool false), (24, 0, .bool false)] (by kernel_rfl) ?_
      refine wpS.fin rfl (kr10 _ _ ?_)
      refine then_n (ks9 _ _ ?_)
      refine xret ?_
      have q0 := of_some h
      subst q0
      exact qq _ _ (post_ret (by kernel_rfl) (run_results [.tmp 0] [.bool false] (by kernel_rfl) (.cons (res_tmp (by kernel_rfl)) .nil)) ⟨congrArg Ending.returned (by kernel_rfl), hs.none⟩)
     ·refine wpS.take 11 false (some 33) (.bool false) (by kernel_rfl) (yld_b (ef hc) (fun _ => by kernel_rfl)) ?_
      refine wpS.ps [(12, 34, .bool false), (13, 35, .bool false), (14, 36, undef), (15, 37, undef), (16, 38, .bool false), (17, 39, .bool false), (18, 40, undef), (19, 41, undef), (20, 42, undef), (21, 43, undef), (22, 44, undef), (23, 45, .bool false), (24, 0, .bool false)] (by kernel_rfl) ?_
      refine wpS.fin rfl (kr10 _ _ ?_)
      refine then_n (ks9 _ _ ?_)
      refine xret ?_
      have q0 := of_some h
      subst q0
      exact qq _ _ (post_ret (by kernel_rfl) (run_results [.tmp 0] [.bool false] (by kernel_rfl) (.cons (res_tmp (by kernel_rfl)) .nil)) ⟨congrArg Ending.returned (by kernel_rfl), hs.none⟩)
    ·refine wpS.take 7 false (some 29) (.bool false) (by kernel_rfl) (yld_b (ef hc) (fun _ => by kernel_rfl)) ?_
     refine wpS.ps [(8, 30, .bool false), (9, 31, .bool false), (10, 32, undef), (11, 33, undef), (12, 34, .bool false), (13, 35, .bool false), (14, 36, undef), (15, 37, undef), (16, 38, .bool false), (17, 39, .bool false), (18, 40, undef), (19, 41, undef), (20, 42, undef), (21, 43, undef), (22, 44, undef), (23, 45, .bool false), (24, 0, .bool false)] (by kernel_rfl) ?_
     refine wpS.fin rfl (kr10 _ _ ?_)
     refine then_n (ks9 _ _ ?_)
     refine xret ?_
     have q0 := of_some h
     subst q0
     exact qq _ _ (post_ret (by kernel_rfl) (run_results [.tmp 0] [.bool false] (by kernel_rfl) (.cons (res_tmp (by kernel_rfl)) .nil)) ⟨congrArg Ending.returned (by kernel_rfl), hs.none⟩)
   ·refine wpS.take 3 false (some 25) (.bool false) (by kernel_rfl) (yld_b (ef hc) (fun _ => by kernel_rfl)) ?_
    refine wpS.ps [(4, 26, .bool false), (5, 27, .bool false), (6, 28, undef), (7, 29, undef), (8, 30, .bool false), (9, 31, .bool false), (10, 32, undef), (11, 33, undef), (12, 34, .bool false), (13, 35, .bool false), (14, 36, undef), (15, 37, undef), (16, 38, .bool false), (17, 39, .bool false), (18, 40, undef), (19, 41, undef), (20, 42, undef), (21, 43, undef), (22, 44, undef), (23, 45, .bool false), (24, 0, .bool false)] (by kernel_rfl) ?_
    refine wpS.fin rfl (kr10 _ _ ?_)
    refine then_n (ks9 _ _ ?_)
    refine xret ?_
    have q0 := of_some h
    subst q0
    exact qq _ _ (post_ret (by kernel_rfl) (run_results [.tmp 0] [.bool false] (by kernel_rfl) (.cons (res_tmp (by kernel_rfl)) .nil)) ⟨congrArg Ending.returned (by kernel_rfl), hs.none⟩)
  | false =>
   have h := of_if_f h
   refine wpS.p 3 21 (.bool false) (by kernel_rfl) ?_
   refine wpS.only 4 (op_alloc (t := 23) (d := (some 6)) (by kernel_rfl) hs ([.int .i64 0, .int .i64 0, .int .i32 0, .int .i64 0, .int .i32 0, .int .i32 0, .int .i64 0, .int .i64 0]) (.agg #[.int .i64 0, .int .i64 0, .int .i32 0, .int .i64 0, .int .i32 0, .int .i32 0, .int .i64 0, .int .i64 0]) (by kernel_rfl) (by kernel_rfl) (by kernel_rfl) ?_)
   intro b10 w gw hs
   refine ⟨fun _ => trivial, ?_⟩
   refine wpS.only 5 (op_storeW (t := 23) (v := .agg #[.int .i64 r7_0, .int .i64 r7_1, .int .i32 r7_2, .int .i64 r7_3, .int .i32 r7_4, .int .i32 r7_5, .int .i64 r7_6, .int .i64 r7_7]) (d := none) (by kernel_rfl) hs 0 rfl (vs := [.int .i64 r7_0, .int .i64 r7_1, .int .i32 r7_2, .int .i64 r7_3, .int .i32 r7_4, .int .i32 r7_5, .int .i64 r7_6, .int .i64 r7_7]) (n := 8) (by kernel_rfl) (by kernel_rfl) (by kernel_rfl) (by simp [enc_len]) (by simp [enc_len]) (by simp [Value.oneCell']) ?_)
   intro w kp hs
   refine ⟨fun _ => trivial, ?_⟩
   refine wpS.p 6 7 (.bool false) (by kernel_rfl) ?_
   refine wpS.fin rfl (kr8 _ _ ?_)
   refine then_n (ks7 _ _ ?_)
   refine xseq_k fun KS11 ks11 => ?_
   refine wp_regS (l := [0, 1, 2, 3, 4, 5, 6, 7, 8, 9, 10, 11, 12, 13, 14, 15, 16, 17, 18, 19, 20, 21, 22, 23, 24]) (by kernel_rfl) (by kernel_rfl) fun KR12 kr12 => ?_
   refine wpS.ps [(0, 22, .bool true), (1, 23, .bool true), (2, 24, .int .i64 r4)] (by kernel_rfl) ?_
   rcases of_if h with ⟨hc, h⟩ | ⟨hc, h⟩
   ·refine wpS.take 3 false (some 25) (.bool true) (by kernel_rfl) (yld_b (et hc) (fun _ => by kernel_rfl)) ?_
    refine wpS.ps [(4, 26, .bool true), (5, 27, .bool true), (6, 28, .int .i64 r5)] (by kernel_rfl) ?_
    rcases of_if h with ⟨hc, h⟩ | ⟨hc, h⟩
    ·refine wpS.take 7 false (some 29) (.bool true) (by kernel_rfl) (yld_b (et hc) (fun _ => by kernel_rfl)) ?_
     refine wpS.ps [(8, 30, .bool true), (9, 31, .bool true), (10, 32, .int .i64 r6)] (by kernel_rfl) ?_
     rcases of_if h with ⟨hc, h⟩ | ⟨hc, h⟩
     ·refine wpS.take 11 false (some 33) (.bool true) (by kernel_rfl) (yld_b (et hc) (fun _ => by kernel_rfl)) ?_
      refine wpS.ps [(12, 34, .bool true), (13, 35, .bool true), (14, 36, .bool false), (15, 37, .bool true), (16, 38, .bool true), (17, 39, .bool true), (18, 40, .agg (enc .i32 (zeroA 256)).toArray)] (by kernel_rfl) ?_
      refine wpS.only 19 (op_litL (C := (CA .i32 256 (by decide))) (t := 25) (e := 40) (len := 1) (parts := #[(0, .agg (enc .i32 (zeroA 256)).toArray)]) (l := [(zeroA 256)]) (d := (some 41)) (by kernel_rfl) hs (by kernel_rfl) rfl (by kernel_rfl) (by kernel_rfl) (z := .agg (enc .i32 (zeroA 256)).toArray) (by kernel_rfl) rfl (by decide) (by decide) ?_)
      intro s11_A s11_n s11_c w gw hs
      refine ⟨fun _ => trivial, ?_⟩
      obtain ⟨r12, hg, h⟩ := of_bind h
      refine wpS.only 20 (op_callH (d := (some 42)) (by kernel_rfl) hs (fun _ => by kernel_rfl) (dpack_Hints.ok hg _ (hs.rowL 0 rfl)) ?_)
      rintro ⟨r12_A, r12_n, r12_c⟩ w gw hs
      have hs := hs.conv (L' := [.ownL (CI .u8) r12_A r12_n r12_c r12 5, .ownL (CA .i32 256 (by decide)) s11_A s11_n s11_c ([(zeroA 256)] : List (Arr 256)) 40, .blk b10 ([.int .i64 r7_0, .int .i64 r7_1, .int .i32 r7_2, .int .i64 r7_3, .int .i32 r7_4, .int .i32 r7_5, .int .i64 r7_6, .int .i64 r7_7]) 23, .blk b3 ([.int .i64 r1_0, .int .i64 r1_1, .int .i32 r1_2, .int .i64 r1_3, .int .i32 r1_4, .int .i32 r1_5, .int .i64 r1_6, .int .i64 r1_7]) 23]) rfl
      refine ⟨fun _ => trivial, ?_⟩
      refine wpS.only 21 (op_lit (C := (CI .u8)) (t := 24) (e := 5) (len := 3) (parts := #[(0, .int .u8 0), (1, .int .u8 0), (2, .int .u8 0)]) (l := [0, 0, 0]) (d := (some 43)) (by kernel_rfl) hs (by kernel_rfl) (by kernel_rfl) (by kernel_rfl) (z := .int .u8 0) (by kernel_rfl) rfl (by decide) (by decide) (by kernel_rfl) ?_)
      intro s13_A s13_n s13_c w gw hs
      refine ⟨fun _ => trivial, ?_⟩
      obtain ⟨r14, hg, h⟩ := of_bind h
      refine wpS.only 22 (op_call (d := (some 44)) (by kernel_rfl) hs (fun _ => by kernel_rfl) (ref01_Same.ok hg _ (hs.rowL 1 rfl) (hs.rowL 0 rfl)) ?_)
      intro w gw hs
      refine ⟨fun _ => trivial, ?_⟩
      refine wpS.ps [(23, 45, .bool r14), (24, 0, .bool r14)] (by kernel_rfl) ?_
      refine wpS.fin rfl (kr12 _ _ ?_)
      refine then_n (ks11 _ _ ?_)
      refine xret ?_
      have q0 := of_some h
      subst q0
      exact qq _ _ (post_ret (by kernel_rfl) (run_results [.tmp 0] [.bool r14] (by kernel_rfl) (.cons (res_tmp (by kernel_rfl)) .nil)) ⟨congrArg Ending.returned (by kernel_rfl), hs.none⟩)
     ·refine wpS.take 11 false (some 33) (.bool false) (by kernel_rfl) (yld_b (ef hc) (fun _ => by kernel_rfl)) ?_
      refine wpS.ps [(12, 34, .bool false), (13, 35, .bool false), (14, 36, undef), (15, 37, undef), (16, 38, .bool false), (17, 39, .bool false), (18, 40, undef), (19, 41, undef), (20, 42, undef), (21, 43, undef), (22, 44, undef), (23, 45, .bool false), (24, 0, .bool false)] (by kernel_rfl) ?_
      refine wpS.fin rfl (kr12 _ _ ?_)
      refine then_n (ks11 _ _ ?_)
      refine xret ?_
      have q0 := of_some h
      subst q0
      exact qq _ _ (post_ret (by kernel_rfl) (run_results [.tmp 0] [.bool false] (by kernel_rfl) (.cons (res_tmp (by kernel_rfl)) .nil)) ⟨congrArg Ending.returned (by kernel_rfl), hs.none⟩)
    ·refine wpS.take 7 false (some 29) (.bool false) (by kernel_rfl) (yld_b (ef hc) (fun _ => by kernel_rfl)) ?_
     refine wpS.ps [(8, 30, .bool false), (9, 31, .bool false), (10, 32, undef), (11, 33, undef), (12, 34, .bool false), (13, 35, .bool false), (14, 36, undef), (15, 37, undef), (16, 38, .bool false), (17, 39, .bool false), (18, 40, undef), (19, 41, undef), (20, 42, undef), (21, 43, undef), (22, 44, undef), (23, 45, .bool false), (24, 0, .bool false)] (by kernel_rfl) ?_
     refine wpS.fin rfl (kr12 _ _ ?_)
     refine then_n (ks11 _ _ ?_)
     refine xret ?_
     have q0 := of_some h
     subst q0
     exact qq _ _ (post_ret (by kernel_rfl) (run_results [.tmp 0] [.bool false] (by kernel_rfl) (.cons (res_tmp (by kernel_rfl)) .nil)) ⟨congrArg Ending.returned (by kernel_rfl), hs.none⟩)
   ·refine wpS.take 3 false (some 25) (.bool false) (by kernel_rfl) (yld_b (ef hc) (fun _ => by kernel_rfl)) ?_
    refine wpS.ps [(4, 26, .bool false), (5, 27, .bool false), (6, 28, undef), (7, 29, undef), (8, 30, .bool false), (9, 31, .bool false), (10, 32, undef), (11, 33, undef), (12, 34, .bool false), (13, 35, .bool false), (14, 36, undef), (15, 37, undef), (16, 38, .bool false), (17, 39, .bool false), (18, 40, undef), (19, 41, undef), (20, 42, undef), (21, 43, undef), (22, 44, undef), (23, 45, .bool false), (24, 0, .bool false)] (by kernel_rfl) ?_
    refine wpS.fin rfl (kr12 _ _ ?_)
    refine then_n (ks11 _ _ ?_)
    refine xret ?_
    have q0 := of_some h
    subst q0
    exact qq _ _ (post_ret (by kernel_rfl) (run_results [.tmp 0] [.bool false] (by kernel_rfl) (.cons (res_tmp (by kernel_rfl)) .nil)) ⟨congrArg Ending.returned (by kernel_rfl), hs.none⟩)
 | false =>
  have h := of_if_f h
  refine wpS.p 3 11 (.bool false) (by kernel_rfl) ?_
  refine wpS.only 4 (op_alloc (t := 23) (d := (some 1)) (by kernel_rfl) hs ([.int .i64 0, .int .i64 0, .int .i32 0, .int .i64 0, .int .i32 0, .int .i32 0, .int .i64 0, .int .i64 0]) (.agg #[.int .i64 0, .int .i64 0, .int .i32 0, .int .i64 0, .int .i32 0, .int .i32 0, .int .i64 0, .int .i64 0]) (by kernel_rfl) (by kernel_rfl) (by kernel_rfl) ?_)
  intro b15 w gw hs
  refine ⟨fun _ => trivial, ?_⟩
  refine wpS.only 5 (op_storeW (t := 23) (v := .agg #[.int .i64 r1_0, .int .i64 r1_1, .int .i32 r1_2, .int .i64 r1_3, .int .i32 r1_4, .int .i32 r1_5, .int .i64 r1_6, .int .i64 r1_7]) (d := none) (by kernel_rfl) hs 0 rfl (vs := [.int .i64 r1_0, .int .i64 r1_1, .int .i32 r1_2, .int .i64 r1_3, .int .i32 r1_4, .int .i32 r1_5, .int .i64 r1_6, .int .i64 r1_7]) (n := 8) (by kernel_rfl) (by kernel_rfl) (by kernel_rfl) (by simp [enc_len]) (by simp [enc_len]) (by simp [Value.oneCell']) ?_)
  intro w kp hs
  refine ⟨fun _ => trivial, ?_⟩
  refine wpS.p 6 2 (.bool false) (by kernel_rfl) ?_
  refine wpS.fin rfl (kr4 _ _ ?_)
  refine then_n (ks3 _ _ ?_)
  refine xseq_k fun KS13 ks13 => ?_
  refine wp_regS (l := [0, 1, 2, 3, 4, 5, 6, 7, 8]) (by kernel_rfl) (by kernel_rfl) fun KR14 kr14 => ?_
  refine wpS.take 0 true (some 13) (.agg #[.int .i64 r1_0, .int .i64 r1_1, .int .i32 r1_2, .int .i64 r1_3, .int .i32 r1_4, .int .i32 r1_5, .int .i64 r1_6, .int .i64 r1_7]) (by kernel_rfl) (yld_loadW (e := 23) (n := 8) hs 0 rfl (by kernel_rfl) (by kernel_rfl) (by kernel_rfl) (by simp [enc_len]) .grow) ?_
  obtain ⟨⟨r16, r17, r18⟩, hg, h⟩ := of_bind h
  refine wpS.only 1 (op_call (d := (some 14)) (by kernel_rfl) hs (fun _ => by kernel_rfl) (dpack_Sizes.ok hg _) ?_)
  intro w gw hs
  refine ⟨fun _ => trivial, ?_⟩
  refine wpS.ps [(2, 12, .tuple #[.int .i64 r16, .int .i64 r17, .int .i64 r18]), (3, 15, .int .i64 r16), (4, 16, .int .i64 r17), (5, 17, .int .i64 r18), (6, 3, .int .i64 r16), (7, 4, .int .i64 r17), (8, 5, .int .i64 r18)] (by kernel_rfl) ?_
  refine wpS.fin rfl (kr14 _ _ ?_)
  refine then_n (ks13 _ _ ?_)
  refine xseq_k fun KS15 ks15 => ?_
  refine wp_regS (l := [0, 1, 2, 3, 4, 5, 6]) (by kernel_rfl) (by kernel_rfl) fun KR16 kr16 => ?_
  obtain ⟨⟨r19_0, r19_1, r19_2, r19_3, r19_4, r19_5, r19_6, r19_7, r20⟩, hg, h⟩ := of_bind h
  refine wpS.only 0 (op_call (d := (some 19)) (by kernel_rfl) hs (fun _ => by kernel_rfl) (dpack_Set.ok hg _) ?_)
  intro w gw hs
  refine ⟨fun _ => trivial, ?_⟩
  refine wpS.ps [(1, 18, .tuple #[.agg #[.int .i64 r19_0, .int .i64 r19_1, .int .i32 r19_2, .int .i64 r19_3, .int .i32 r19_4, .int .i32 r19_5, .int .i64 r19_6, .int .i64 r19_7], .bool r20]), (2, 20, .agg #[.int .i64 r19_0, .int .i64 r19_1, .int .i32 r19_2, .int .i64 r19_3, .int .i32 r19_4, .int .i32 r19_5, .int .i64 r19_6, .int .i64 r19_7])] (by kernel_rfl) ?_
  cases r20 with
  | true =>
   have h := of_if_t h
   refine wpS.p 3 21 (.bool true) (by kernel_rfl) ?_
   refine wpS.only 4 (op_alloc (t := 23) (d := (some 6)) (by kernel_rfl) hs ([.int .i64 0, .int .i64 0, .int .i32 0, .int .i64 0, .int .i32 0, .int .i32 0, .int .i64 0, .int .i64 0]) (.agg #[.int .i64 0, .int .i64 0, .int .i32 0, .int .i64 0, .int .i32 0, .int .i32 0, .int .i64 0, .int .i64 0]) (by kernel_rfl) (by kernel_rfl) (by kernel_rfl) ?_)
   intro b21 w gw hs
   refine ⟨fun _ => trivial, ?_⟩
   refine wpS.only 5 (op_storeW (t := 23) (v := .agg #[.int .i64 r19_0, .int .i64 r19_1, .int .i32 r19_2, .int .i64 r19_3, .int .i32 r19_4, .int .i32 r19_5, .int .i64 r19_6, .int .i64 r19_7]) (d := none) (by kernel_rfl) hs 0 rfl (vs := [.int .i64 r19_0, .int .i64 r19_1, .int .i32 r19_2, .int .i64 r19_3, .int .i32 r19_4, .int .i32 r19_5, .int .i64 r19_6, .int .i64 r19_7]) (n := 8) (by kernel_rfl) (by kernel_rfl) (by kernel_rfl) (by simp [enc_len]) (by simp [enc_len]) (by simp [Value.oneCell']) ?_)
   intro w kp hs
   refine ⟨fun _ => trivial, ?_⟩
   refine wpS.p 6 7 (.bool true) (by kernel_rfl) ?_
   refine wpS.fin rfl (kr16 _ _ ?_)
   refine then_n (ks15 _ _ ?_)
   refine xseq_k fun KS17 ks17 => ?_
   refine wp_regS (l := [0, 1, 2, 3, 4, 5, 6, 7, 8, 9, 10, 11, 12, 13, 14, 15, 16, 17, 18, 19, 20, 21, 22, 23, 24]) (by kernel_rfl) (by kernel_rfl) fun KR18 kr18 => ?_
   refine wpS.ps [(0, 22, .bool false), (1, 23, .bool false), (2, 24, undef), (3, 25, undef), (4, 26, .bool false), (5, 27, .bool false), (6, 28, undef), (7, 29, undef), (8, 30, .bool false), (9, 31, .bool false), (10, 32, undef), (11, 33, undef), (12, 34, .bool false), (13, 35, .bool false), (14, 36, undef), (15, 37, undef), (16, 38, .bool false), (17, 39, .bool false), (18, 40, undef), (19, 41, undef), (20, 42, undef), (21, 43, undef), (22, 44, undef), (23, 45, .bool false), (24, 0, .bool false)] (by kernel_rfl) ?_
   refine wpS.fin rfl (kr18 _ _ ?_)
   refine then_n (ks17 _ _ ?_)
   refine xret ?_
   have q0 := of_some h
   subst q0
   exact qq _ _ (post_ret (by kernel_rfl) (run_results [.tmp 0] [.bool false] (by kernel_rfl) (.cons (res_tmp (by kernel_rfl)) .nil)) ⟨congrArg Ending.returned (by kernel_rfl), hs.none⟩)
  | false =>
   have h := of_if_f h
   refine wpS.p 3 21 (.bool false) (by kernel_rfl) ?_
   refine wpS.only 4 (op_alloc (t := 23) (d := (some 6)) (by kernel_rfl) hs ([.int .i64 0, .int .i64 0, .int .i32 0, .int .i64 0, .int .i32 0, .int .i32 0, .int .i64 0, .int .i64 0]) (.agg #[.int .i64 0, .int .i64 0, .int .i32 0, .int .i64 0, .int .i32 0, .int .i32 0, .int .i64 0, .int .i64 0]) (by kernel_rfl) (by kernel_rfl) (by kernel_rfl) ?_)
   intro b22 w gw hs
   refine ⟨fun _ => trivial, ?_⟩
   refine wpS.only 5 (op_storeW (t := 23) (v := .agg #[.int .i64 r19_0, .int .i64 r19_1, .int .i32 r19_2, .int .i64 r19_3, .int .i32 r19_4, .int .i32 r19_5, .int .i64 r19_6, .int .i64 r19_7]) (d := none) (by kernel_rfl) hs 0 rfl (vs := [.int .i64 r19_0, .int .i64 r19_1, .int .i32 r19_2, .int .i64 r19_3, .int .i32 r19_4, .int .i32 r19_5, .int .i64 r19_6, .int .i64 r19_7]) (n := 8) (by kernel_rfl) (by kernel_rfl) (by kernel_rfl) (by simp [enc_len]) (by simp [enc_len]) (by simp [Value.oneCell']) ?_)
   intro w kp hs
   refine ⟨fun _ => trivial, ?_⟩
   refine wpS.p 6 7 (.bool false) (by kernel_rfl) ?_
   refine wpS.fin rfl (kr16 _ _ ?_)
   refine then_n (ks15 _ _ ?_)
   refine xseq_k fun KS19 ks19 => ?_
   refine wp_regS (l := [0, 1, 2, 3, 4, 5, 6, 7, 8, 9, 10, 11, 12, 13, 14, 15, 16, 17, 18, 19, 20, 21, 22, 23, 24]) (by kernel_rfl) (by kernel_rfl) fun KR20 kr20 => ?_
   refine wpS.ps [(0, 22, .bool false), (1, 23, .bool false), (2, 24, undef), (3, 25, undef), (4, 26, .bool false), (5, 27, .bool false), (6, 28, undef), (7, 29, undef), (8, 30, .bool false), (9, 31, .bool false), (10, 32, undef), (11, 33, undef), (12, 34, .bool false), (13, 35, .bool false), (14, 36, undef), (15, 37, undef), (16, 38, .bool false), (17, 39, .bool false), (18, 40, undef), (19, 41, undef), (20, 42, undef), (21, 43, undef), (22, 44, undef), (23, 45, .bool false), (24, 0, .bool false)] (by kernel_rfl) ?_
   refine wpS.fin rfl (kr20 _ _ ?_)
   refine then_n (ks19 _ _ ?_)
   refine xret ?_
   have q0 := of_some h
   subst q0
   exact qq _ _ (post_ret (by kernel_rfl) (run_results [.tmp 0] [.bool false] (by kernel_rfl) (.cons (res_tmp (by kernel_rfl)) .nil)) ⟨congrArg Ending.returned (by kernel_rfl), hs.none⟩)

theorem ref22_Set.ok {K : Nat} {a0 : Int} {r0_0 : Int} {r0_1 : Int} {r0_2 : Int} {r0_3 : Int} {r0_4 : Int} {r0_5 : Int} {r0_6 : Int} {r0_7 : Int} {r1 : Bool} (h : ref22_Set.f K a0 = some (r0_0, r0_1, r0_2, r0_3, r0_4, r0_5, r0_6, r0_7, r1)) (w0 : World) : Ret Try.prog 17 #[.int .i64 a0] w0 (.tuple #[.agg #[.int .i64 r0_0, .int .i64 r0_1, .int .i32 r0_2, .int .i64 r0_3, .int .i32 r0_4, .int .i32 r0_5, .int .i64 r0_6, .int .i64 r0_7], .bool r1]) := by
 refine calls_k Try.func17 rfl fun Q qq => ?_
 have hs := St.start w0
 refine wp_conv (a' := ⟨#[.int .i64 a0, undef, undef, undef, undef, undef, undef, undef, undef, undef, undef, undef, undef, undef, undef], []⟩) (by kernel_rfl) ?_
 refine xseq_k fun KS1 ks1 => ?_
 refine wp_regS (l := [0, 1]) (by kernel_rfl) (by kernel_rfl) fun KR2 kr2 => ?_
 refine wpS.only 0 (op_alloc (t := 23) (d := (some 2)) (by kernel_rfl) hs ([.int .i64 0, .int .i64 0, .int .i32 0, .int .i64 0, .int .i32 0, .int .i32 0, .int .i64 0, .int .i64 0]) (.agg #[.int .i64 0, .int .i64 0, .int .i32 0, .int .i64 0, .int .i32 0, .int .i32 0, .int .i64 0, .int .i64 0]) (by kernel_rfl) (by kernel_rfl) (by kernel_rfl) ?_)
 intro b1 w gw hs
 refine ⟨fun _ => trivial, ?_⟩
 refine wpS.p 1 3 (.bool false) (by kernel_rfl) ?_
 refine wpS.fin rfl (kr2 _ _ ?_)
 refine then_n (ks1 _ _ ?_)
 refine xseq_k fun KS3 ks3 => ?_
 refine xseq_k fun KS4 ks4 => ?_
 refine wp_regS (l := [0]) (by kernel_rfl) (by kernel_rfl) fun KR5 kr5 => ?_
 refine wpS.p 0 4 (.int .i64 a0) (by kernel_rfl) ?_
 refine wpS.fin rfl (kr5 _ _ ?_)
 refine then_n (ks4 _ _ ?_)
 refine xblock ?_
 refine xseq_k fun KS6 ks6 => ?_
 refine wp_regS (l := [0, 1]) (by kernel_rfl) (by kernel_rfl) fun KR7 kr7 => ?_
 rcases of_if h with ⟨hc, h⟩ | ⟨hc, h⟩
 ·refine wpS.take 0 false (some 6) (.bool true) (by kernel_rfl) (yld_b (et hc) (fun _ => by kernel_rfl)) ?_
  refine wpS.p 1 5 (.bool true) (by kernel_rfl) ?_
  refine wpS.fin rfl (kr7 _ _ ?_)
  refine then_n (ks6 _ _ ?_)
  refine wp_cond_t (by kernel_rfl) ?_
  refine xseq_k fun KS8 ks8 => ?_
  refine wp_regS (l := [0, 1, 2]) (by kernel_rfl) (by kernel_rfl) fun KR9 kr9 => ?_
  refine wpS.p 0 7 (.agg #[.int .i64 4, .int .i64 4, .int .i32 2, .int .i64 39, .int .i32 131072, .int .i32 95232, .int .i64 80, .int .i64 32]) (by kernel_rfl) ?_
  refine wpS.only 1 (op_storeW (t := 23) (v := .agg #[.int .i64 4, .int .i64 4, .int .i32 2, .int .i64 39, .int .i32 131072, .int .i32 95232, .int .i64 80, .int .i64 32]) (d := none) (by kernel_rfl) hs 0 rfl (vs := [.int .i64 4, .int .i64 4, .int .i32 2, .int .i64 39, .int .i32 131072, .int .i32 95232, .int .i64 80, .int .i64 32]) (n := 8) (by kernel_rfl) (by kernel_rfl) (by kernel_rfl) (by simp [enc_len]) (by simp [enc_len]) (by simp [Value.oneCell']) ?_)
  intro w kp hs
  refine ⟨fun _ => trivial, ?_⟩
  refine wpS.p 2 3 (.bool true) (by kernel_rfl) ?_
  refine wpS.fin rfl (kr9 _ _ ?_)
  refine then_n (ks8 _ _ ?_)
  refine xret ?_
  refine inBlock_r ?_
  refine then_r ?_
  obtain ⟨q0, qr0⟩ := Prod.mk.inj (of_some h)
  obtain ⟨q1, qr1⟩ := Prod.mk.inj (qr0)
  obtain ⟨q2, qr2⟩ := Prod.mk.inj (qr1)
  obtain ⟨q3, qr3⟩ := Prod.mk.inj (qr2)
  obtain ⟨q4, qr4⟩ := Prod.mk.inj (qr3)
  obtain ⟨q5, qr5⟩ := Prod.mk.inj (qr4)
  obtain ⟨q6, qr6⟩ := Prod.mk.inj (qr5)
  obtain ⟨q7, qr7⟩ := Prod.mk.inj (qr6)
  have q8 := qr7
  subst q0
  subst q1
  subst q2
  subst q3
  subst q4
  subst q5
  subst q6
  subst q7
  subst q8
  exact qq _ _ (post_ret (by kernel_rfl) (run_results [.cell 2 23, .tmp 3] [.agg #[.int .i64 4, .int .i64 4, .int .i32 2, .int .i64 39, .int .i32 131072, .int .i32 95232, .int .i64 80, .int .i64 32], .bool true] (by kernel_rfl) (.cons (res_cellN (n := 8) hs 0 rfl (by kernel_rfl) (by kernel_rfl) (by kernel_rfl) (by simp [enc_len])) (.cons (res_tmp (by kernel_rfl)) .nil))) ⟨congrArg Ending.returned (by kernel_rfl), hs.none⟩)
 ·refine wpS.take 0 false (some 6) (.bool false) (by kernel_rfl) (yld_b (ef hc) (fun _ => by kernel_rfl)) ?_
  refine wpS.p 1 5 (.bool false) (by kernel_rfl) ?_
  refine wpS.fin rfl (kr7 _ _ ?_)
  refine then_n (ks6 _ _ ?_)
  refine wp_cond_f (by kernel_rfl) ?_
  refine xseq_k fun KS10 ks10 => ?_
  refine wp_regS (l := [0, 1]) (by kernel_rfl) (by kernel_rfl) fun KR11 kr11 => ?_
  rcases of_if h with ⟨hc, h⟩ | ⟨hc, h⟩
  ·refine wpS.take 0 false (some 9) (.bool true) (by kernel_rfl) (yld_b (et hc) (fun _ => by kernel_rfl)) ?_
   refine wpS.p 1 8 (.bool true) (by kernel_rfl) ?_
   refine wpS.fin rfl (kr11 _ _ ?_)
   refine then_n (ks10 _ _ ?_)
   refine wp_cond_t (by kernel_rfl) ?_
   refine xseq_k fun KS12 ks12 => ?_
   refine wp_regS (l := [0, 1, 2]) (by kernel_rfl) (by kernel_rfl) fun KR13 kr13 => ?_
   refine wpS.p 0 10 (.agg #[.int .i64 6, .int .i64 5, .int .i32 4, .int .i64 49, .int .i32 524288, .int .i32 261888, .int .i64 55, .int .i64 48]) (by kernel_rfl) ?_
   refine wpS.only 1 (op_storeW (t := 23) (v := .agg #[.int .i64 6, .int .i64 5, .int .i32 4, .int .i64 49, .int .i32 524288, .int .i32 261888, .int .i64 55, .int .i64 48]) (d := none) (by kernel_rfl) hs 0 rfl (vs := [.int .i64 6, .int .i64 5, .int .i32 4, .int .i64 49, .int .i32 524288, .int .i32 261888, .int .i64 55, .int .i64 48]) (n := 8) (by kernel_rfl) (by kernel_rfl) (by kernel_rfl) (by simp [enc_len]) (by simp [enc_len]) (by simp [Value.oneCell']) ?_)
   intro w kp hs
   refine ⟨fun _ => trivial, ?_⟩
   refine wpS.p 2 3 (.bool true) (by kernel_rfl) ?_
   refine wpS.fin rfl (kr13 _ _ ?_)
   refine then_n (ks12 _ _ ?_)
   refine xret ?_
   refine inBlock_r ?_
   refine then_r ?_
   obtain ⟨q0, qr0⟩ := Prod.mk.inj (of_some h)
   obtain ⟨q1, qr1⟩ := Prod.mk.inj (qr0)
   obtain ⟨q2, qr2⟩ := Prod.mk.inj (qr1)
   obtain ⟨q3, qr3⟩ := Prod.mk.inj (qr2)
   obtain ⟨q4, qr4⟩ := Prod.mk.inj (qr3)
   obtain ⟨q5, qr5⟩ := Prod.mk.inj (qr4)
   obtain ⟨q6, qr6⟩ := Prod.mk.inj (qr5)
   obtain ⟨q7, qr7⟩ := Prod.mk.inj (qr6)
   have q8 := qr7
   subst q0
   subst q1
   subst q2
   subst q3
   subst q4
   subst q5
   subst q6
   subst q7
   subst q8
   exact qq _ _ (post_ret (by kernel_rfl) (run_results [.cell 2 23, .tmp 3] [.agg #[.int .i64 6, .int .i64 5, .int .i32 4, .int .i64 49, .int .i32 524288, .int .i32 261888, .int .i64 55, .int .i64 48], .bool true] (by kernel_rfl) (.cons (res_cellN (n := 8) hs 0 rfl (by kernel_rfl) (by kernel_rfl) (by kernel_rfl) (by simp [enc_len])) (.cons (res_tmp (by kernel_rfl)) .nil))) ⟨congrArg Ending.returned (by kernel_rfl), hs.none⟩)
  ·refine wpS.take 0 false (some 9) (.bool false) (by kernel_rfl) (yld_b (ef hc) (fun _ => by kernel_rfl)) ?_
   refine wpS.p 1 8 (.bool false) (by kernel_rfl) ?_
   refine wpS.fin rfl (kr11 _ _ ?_)
   refine then_n (ks10 _ _ ?_)
   refine wp_cond_f (by kernel_rfl) ?_
   refine xseq_k fun KS14 ks14 => ?_
   refine wp_regS (l := [0, 1]) (by kernel_rfl) (by kernel_rfl) fun KR15 kr15 => ?_
   rcases of_if h with ⟨hc, h⟩ | ⟨hc, h⟩
   ·refine wpS.take 0 false (some 12) (.bool true) (by kernel_rfl) (yld_b (et hc) (fun _ => by kernel_rfl)) ?_
    refine wpS.p 1 11 (.bool true) (by kernel_rfl) ?_
    refine wpS.fin rfl (kr15 _ _ ?_)
    refine then_n (ks14 _ _ ?_)
    refine wp_cond_t (by kernel_rfl) ?_
    refine xseq_k fun KS16 ks16 => ?_
    refine wp_regS (l := [0, 1, 2]) (by kernel_rfl) (by kernel_rfl) fun KR17 kr17 => ?_
    refine wpS.p 0 13 (.agg #[.int .i64 8, .int .i64 7, .int .i32 2, .int .i64 60, .int .i32 524288, .int .i32 261888, .int .i64 75, .int .i64 64]) (by kernel_rfl) ?_
    refine wpS.only 1 (op_storeW (t := 23) (v := .agg #[.int .i64 8, .int .i64 7, .int .i32 2, .int .i64 60, .int .i32 524288, .int .i32 261888, .int .i64 75, .int .i64 64]) (d := none) (by kernel_rfl) hs 0 rfl (vs := [.int .i64 8, .int .i64 7, .int .i32 2, .int .i64 60, .int .i32 524288, .int .i32 261888, .int .i64 75, .int .i64 64]) (n := 8) (by kernel_rfl) (by kernel_rfl) (by kernel_rfl) (by simp [enc_len]) (by simp [enc_len]) (by simp [Value.oneCell']) ?_)
    intro w kp hs
    refine ⟨fun _ => trivial, ?_⟩
    refine wpS.p 2 3 (.bool true) (by kernel_rfl) ?_
    refine wpS.fin rfl (kr17 _ _ ?_)
    refine then_n (ks16 _ _ ?_)
    refine xret ?_
    refine inBlock_r ?_
    refine then_r ?_
    obtain ⟨q0, qr0⟩ := Prod.mk.inj (of_some h)
    obtain ⟨q1, qr1⟩ := Prod.mk.inj (qr0)
    obtain ⟨q2, qr2⟩ := Prod.mk.inj (qr1)
    obtain ⟨q3, qr3⟩ := Prod.mk.inj (qr2)
    obtain ⟨q4, qr4⟩ := Prod.mk.inj (qr3)
    obtain ⟨q5, qr5⟩ := Prod.mk.inj (qr4)
    obtain ⟨q6, qr6⟩ := Prod.mk.inj (qr5)
    obtain ⟨q7, qr7⟩ := Prod.mk.inj (qr6)
    have q8 := qr7
    subst q0
    subst q1
    subst q2
    subst q3
    subst q4
    subst q5
    subst q6
    subst q7
    subst q8
    exact qq _ _ (post_ret (by kernel_rfl) (run_results [.cell 2 23, .tmp 3] [.agg #[.int .i64 8, .int .i64 7, .int .i32 2, .int .i64 60, .int .i32 524288, .int .i32 261888, .int .i64 75, .int .i64 64], .bool true] (by kernel_rfl) (.cons (res_cellN (n := 8) hs 0 rfl (by kernel_rfl) (by kernel_rfl) (by kernel_rfl) (by simp [enc_len])) (.cons (res_tmp (by kernel_rfl)) .nil))) ⟨congrArg Ending.returned (by kernel_rfl), hs.none⟩)
   ·refine wpS.take 0 false (some 12) (.bool false) (by kernel_rfl) (yld_b (ef hc) (fun _ => by kernel_rfl)) ?_
    refine wpS.p 1 11 (.bool false) (by kernel_rfl) ?_
    refine wpS.fin rfl (kr15 _ _ ?_)
    refine then_n (ks14 _ _ ?_)
    refine wp_cond_f (by kernel_rfl) ?_
    refine xskip ?_
    refine inBlock_n ?_
    refine then_n (ks3 _ _ ?_)
    refine xseq_k fun KS18 ks18 => ?_
    refine wp_regS (l := [0, 1, 2]) (by kernel_rfl) (by kernel_rfl) fun KR19 kr19 => ?_
    refine wpS.p 0 14 (.agg #[.int .i64 0, .int .i64 0, .int .i32 0, .int .i64 0, .int .i32 0, .int .i32 0, .int .i64 0, .int .i64 0]) (by kernel_rfl) ?_
    refine wpS.only 1 (op_storeW (t := 23) (v := .agg #[.int .i64 0, .int .i64 0, .int .i32 0, .int .i64 0, .int .i32 0, .int .i32 0, .int .i64 0, .int .i64 0]) (d := none) (by kernel_rfl) hs 0 rfl (vs := [.int .i64 0, .int .i64 0, .int .i32 0, .int .i64 0, .int .i32 0, .int .i32 0, .int .i64 0, .int .i64 0]) (n := 8) (by kernel_rfl) (by kernel_rfl) (by kernel_rfl) (by simp [enc_len]) (by simp [enc_len]) (by simp [Value.oneCell']) ?_)
    intro w kp hs
    refine ⟨fun _ => trivial, ?_⟩
    refine wpS.p 2 3 (.bool false) (by kernel_rfl) ?_
    refine wpS.fin rfl (kr19 _ _ ?_)
    refine then_n (ks18 _ _ ?_)
    refine xret ?_
    obtain ⟨q0, qr0⟩ := Prod.mk.inj (of_some h)
    obtain ⟨q1, qr1⟩ := Prod.mk.inj (qr0)
    obtain ⟨q2, qr2⟩ := Prod.mk.inj (qr1)
    obtain ⟨q3, qr3⟩ := Prod.mk.inj (qr2)
    obtain ⟨q4, qr4⟩ := Prod.mk.inj (qr3)
    obtain ⟨q5, qr5⟩ := Prod.mk.inj (qr4)
    obtain ⟨q6, qr6⟩ := Prod.mk.inj (qr5)
    obtain ⟨q7, qr7⟩ := Prod.mk.inj (qr6)
    have q8 := qr7
    subst q0
    subst q1
    subst q2
    subst q3
    subst q4
    subst q5
    subst q6
    subst q7
    subst q8
    exact qq _ _ (post_ret (by kernel_rfl) (run_results [.cell 2 23, .tmp 3] [.agg #[.int .i64 0, .int .i64 0, .int .i32 0, .int .i64 0, .int .i32 0, .int .i32 0, .int .i64 0, .int .i64 0], .bool false] (by kernel_rfl) (.cons (res_cellN (n := 8) hs 0 rfl (by kernel_rfl) (by kernel_rfl) (by kernel_rfl) (by simp [enc_len])) (.cons (res_tmp (by kernel_rfl)) .nil))) ⟨congrArg Ending.returned (by kernel_rfl), hs.none⟩)

theorem ref22_Known.ok {K : Nat} {a0_0 : Int} {a0_1 : Int} {a0_2 : Int} {a0_3 : Int} {a0_4 : Int} {a0_5 : Int} {a0_6 : Int} {a0_7 : Int} {r0 : Bool} (h : ref22_Known.f K a0_0 a0_1 a0_2 a0_3 a0_4 a0_5 a0_6 a0_7 = some r0) (w0 : World) : Ret Try.prog 42 #[.agg #[.int .i64 a0_0, .int .i64 a0_1, .int .i32 a0_2, .int .i64 a0_3, .int .i32 a0_4, .int .i32 a0_5, .int .i64 a0_6, .int .i64 a0_7]] w0 (.bool r0) := by
 refine calls_k Try.func42 rfl fun Q qq => ?_
 have hs := St.start w0
 refine wp_conv (a' := ⟨#[.agg #[.int .i64 a0_0, .int .i64 a0_1, .int .i32 a0_2, .int .i64 a0_3, .int .i32 a0_4, .int .i32 a0_5, .int .i64 a0_6, .int .i64 a0_7], undef, undef, undef, undef, undef, undef, undef, undef, undef, undef, undef, undef, undef, undef, undef, undef, undef, undef, undef, undef, undef, undef, undef, undef, undef, undef, undef, undef, undef, undef, undef, undef, undef], []⟩) (by kernel_rfl) ?_
 refine xseq_k fun KS1 ks1 => ?_
 refine wp_regS (l := [0, 1]) (by kernel_rfl) (by kernel_rfl) fun KR2 kr2 => ?_
 refine wpS.only 0 (op_box (t := 23) (v := .agg #[.int .i64 a0_0, .int .i64 a0_1, .int .i32 a0_2, .int .i64 a0_3, .int .i32 a0_4, .int .i32 a0_5, .int .i64 a0_6, .int .i64 a0_7]) (d := (some 1)) (by kernel_rfl) hs ([.int .i64 a0_0, .int .i64 a0_1, .int .i32 a0_2, .int .i64 a0_3, .int .i32 a0_4, .int .i32 a0_5, .int .i64 a0_6, .int .i64 a0_7]) (by kernel_rfl) (by kernel_rfl) ?_)
 intro b1 w gw hs
 refine ⟨fun _ => trivial, ?_⟩
 refine wpS.p 1 2 (.bool false) (by kernel_rfl) ?_
 refine wpS.fin rfl (kr2 _ _ ?_)
 refine then_n (ks1 _ _ ?_)
 refine xseq_k fun KS3 ks3 => ?_
 refine wp_regS (l := [0, 1, 2, 3, 4, 5, 6]) (by kernel_rfl) (by kernel_rfl) fun KR4 kr4 => ?_
 obtain ⟨⟨r2_0, r2_1, r2_2, r2_3, r2_4, r2_5, r2_6, r2_7, r3⟩, hg, h⟩ := of_bind h
 refine wpS.only 0 (op_call (d := (some 10)) (by kernel_rfl) hs (fun _ => by kernel_rfl) (ref22_Set.ok hg _) ?_)
 intro w gw hs
 refine ⟨fun _ => trivial, ?_⟩
 refine wpS.ps [(1, 9, .tuple #[.agg #[.int .i64 r2_0, .int .i64 r2_1, .int .i32 r2_2, .int .i64 r2_3, .int .i32 r2_4, .int .i32 r2_5, .int .i64 r2_6, .int .i64 r2_7], .bool r3]), (2, 11, .agg #[.int .i64 r2_0, .int .i64 r2_1, .int .i32 r2_2, .int .i64 r2_3, .int .i32 r2_4, .int .i32 r2_5, .int .i64 r2_6, .int .i64 r2_7]), (3, 12, .bool r3)] (by kernel_rfl) ?_
 refine wpS.only 4 (op_alloc (t := 23) (d := (some 3)) (by kernel_rfl) hs ([.int .i64 0, .int .i64 0, .int .i32 0, .int .i64 0, .int .i32 0, .int .i32 0, .int .i64 0, .int .i64 0]) (.agg #[.int .i64 0, .int .i64 0, .int .i32 0, .int .i64 0, .int .i32 0, .int .i32 0, .int .i64 0, .int .i64 0]) (by kernel_rfl) (by kernel_rfl) (by kernel_rfl) ?_)
 intro b4 w gw hs
 refine ⟨fun _ => trivial, ?_⟩
 refine wpS.only 5 (op_storeW (t := 23) (v := .agg #[.int .i64 r2_0, .int .i64 r2_1, .int .i32 r2_2, .int .i64 r2_3, .int .i32 r2_4, .int .i32 r2_5, .int .i64 r2_6, .int .i64 r2_7]) (d := none) (by kernel_rfl) hs 0 rfl (vs := [.int .i64 r2_0, .int .i64 r2_1, .int .i32 r2_2, .int .i64 r2_3, .int .i32 r2_4, .int .i32 r2_5, .int .i64 r2_6, .int .i64 r2_7]) (n := 8) (by kernel_rfl) (by kernel_rfl) (by kernel_rfl) (by simp [enc_len]) (by simp [enc_len]) (by simp [Value.oneCell']) ?_)
 intro w kp hs
 refine ⟨fun _ => trivial, ?_⟩
 refine wpS.p 6 4 (.bool r3) (by kernel_rfl) ?_
 refine wpS.fin rfl (kr4 _ _ ?_)
 refine then_n (ks3 _ _ ?_)
 refine xseq_k fun KS5 ks5 => ?_
 refine wp_regS (l := [0, 1, 2, 3, 4, 5, 6]) (by kernel_rfl) (by kernel_rfl) fun KR6 kr6 => ?_
 obtain ⟨⟨r5_0, r5_1, r5_2, r5_3, r5_4, r5_5, r5_6, r5_7, r6⟩, hg, h⟩ := of_bind h
 refine wpS.only 0 (op_call (d := (some 14)) (by kernel_rfl) hs (fun _ => by kernel_rfl) (ref22_Set.ok hg _) ?_)
 intro w gw hs
 refine ⟨fun _ => trivial, ?_⟩
 refine wpS.ps [(1, 13, .tuple #[.agg #[.int .i64 r5_0, .int .i64 r5_1, .int .i32 r5_2, .int .i64 r5_3, .int .i32 r5_4, .int .i32 r5_5, .int .i64 r5_6, .int .i64 r5_7], .bool r6]), (2, 15, .agg #[.int .i64 r5_0, .int .i64 r5_1, .int .i32 r5_2, .int .i64 r5_3, .int .i32 r5_4, .int .i32 r5_5, .int .i64 r5_6, .int .i64 r5_7]), (3, 16, .bool r6)] (by kernel_rfl) ?_
 refine wpS.only 4 (op_alloc (t := 23) (d := (some 5)) (by kernel_rfl) hs ([.int .i64 0, .int .i64 0, .int .i32 0, .int .i64 0, .int .i32 0, .int .i32 0, .int .i64 0, .int .i64 0]) (.agg #[.int .i64 0, .int .i64 0, .int .i32 0, .int .i64 0, .int .i32 0, .int .i32 0, .int .i64 0, .int .i64 0]) (by kernel_rfl) (by kernel_rfl) (by kernel_rfl) ?_)
 intro b7 w gw hs
 refine ⟨fun _ => trivial, ?_⟩
 refine wpS.only 5 (op_storeW (t := 23) (v := .agg #[.int .i64 r5_0, .int .i64 r5_1, .int .i32 r5_2, .int .i64 r5_3, .int .i32 r5_4, .int .i32 r5_5, .int .i64 r5_6, .int .i64 r5_7]) (d := none) (by kernel_rfl) hs 0 rfl (vs := [.int .i64 r5_0, .int .i64 r5_1, .int .i32 r5_2, .int .i64 r5_3, .int .i32 r5_4, .int .i32 r5_5, .int .i64 r5_6, .int .i64 r5_7]) (n := 8) (by kernel_rfl) (by kernel_rfl) (by kernel_rfl) (by simp [enc_len]) (by simp [enc_len]) (by simp [Value.oneCell']) ?_)
 intro w kp hs
 refine ⟨fun _ => trivial, ?_⟩
 refine wpS.p 6 6 (.bool r6) (by kernel_rfl) ?_
 refine wpS.fin rfl (kr6 _ _ ?_)
 refine then_n (ks5 _ _ ?_)
 refine xseq_k fun KS7 ks7 => ?_
 refine wp_regS (l := [0, 1, 2, 3, 4, 5, 6]) (by kernel_rfl) (by kernel_rfl) fun KR8 kr8 => ?_
 obtain ⟨⟨r8_0, r8_1, r8_2, r8_3, r8_4, r8_5, r8_6, r8_7, r9⟩, hg, h⟩ := of_bind h
 refine wpS.only 0 (op_call (d := (some 18)) (by kernel_rfl) hs (fun _ => by kernel_rfl) (ref22_Set.ok hg _) ?_)
 intro w gw hs
 refine ⟨fun _ => trivial, ?_⟩
 refine wpS.ps [(1, 17, .tuple #[.agg #[.int .i64 r8_0, .int .i64 r8_1, .int .i32 r8_2, .int .i64 r8_3, .int .i32 r8_4, .int .i32 r8_5, .int .i64 r8_6, .int .i64 r8_7], .bool r9]), (2, 19, .agg #[.int .i64 r8_0, .int .i64 r8_1, .int .i32 r8_2, .int .i64 r8_3, .int .i32 r8_4, .int .i32 r8_5, .int .i64 r8_6, .int .i64 r8_7]), (3, 20, .bool r9)] (by kernel_rfl) ?_
 refine wpS.only 4 (op_alloc (t := 23) (d := (some 7)) (by kernel_rfl) hs ([.int .i64 0, .int .i64 0, .int .i32 0, .int .i64 0, .int .i32 0, .int .i32 0, .int .i64 0, .int .i64 0]) (.agg #[.int .i64 0, .int .i64 0, .int .i32 0, .int .i64 0, .int .i32 0, .int .i32 0, .int .i64 0, .int .i64 0]) (by kernel_rfl) (by kernel_rfl) (by kernel_rfl) ?_)
 intro b10 w gw hs
 refine ⟨fun _ => trivial, ?_⟩
 refine wpS.only 5 (op_storeW (t := 23) (v := .agg #[.int .i64 r8_0, .int .i64 r8_1, .int .i32 r8_2, .int .i64 r8_3, .int .i32 r8_4, .int .i32 r8_5, .int .i64 r8_6, .int .i64 r8_7]) (d := none) (by kernel_rfl) hs 0 rfl (vs := [.int .i64 r8_0, .int .i64 r8_1, .int .i32 r8_2, .int .i64 r8_3, .int .i32 r8_4, .int .i32 r8_5, .int .i64 r8_6, .int .i64 r8_7]) (n := 8) (by kernel_rfl) (by kernel_rfl) (by kernel_rfl) (by simp [enc_len]) (by simp [enc_len]) (by simp [Value.oneCell']) ?_)
 intro w kp hs
 refine ⟨fun _ => trivial, ?_⟩
 refine wpS.p 6 8 (.bool r9) (by kernel_rfl) ?_
 refine wpS.fin rfl (kr8 _ _ ?_)
 refine then_n (ks7 _ _ ?_)
 refine xseq_k fun KS9 ks9 => ?_
 refine wp_regS (l := [0, 1, 2, 3, 4, 5, 6, 7, 8, 9, 10, 11, 12, 13]) (by kernel_rfl) (by kernel_rfl) fun KR10 kr10 => ?_
 refine wpS.take 0 true (some 21) (.agg #[.int .i64 a0_0, .int .i64 a0_1, .int .i32 a0_2, .int .i64 a0_3, .int .i32 a0_4, .int .i32 a0_5, .int .i64 a0_6, .int .i64 a0_7]) (by kernel_rfl) (yld_loadW (e := 23) (n := 8) hs 3 rfl (by kernel_rfl) (by kernel_rfl) (by kernel_rfl) (by simp [enc_len]) .grow) ?_
 refine wpS.take 1 true (some 22) (.agg #[.int .i64 r2_0, .int .i64 r2_1, .int .i32 r2_2, .int .i64 r2_3, .int .i32 r2_4, .int .i32 r2_5, .int .i64 r2_6, .int .i64 r2_7]) (by kernel_rfl) (yld_loadW (e := 23) (n := 8) hs 2 rfl (by kernel_rfl) (by kernel_rfl) (by kernel_rfl) (by simp [enc_len]) .grow) ?_
 rcases of_ifb h with ⟨hc, h⟩ | ⟨hc, h⟩
 ·refine wpS.take 2 false (some 23) (.bool true) (by kernel_rfl) (yld_bb hc (yld_eqS (fs := [Field.mk "K" 3 0 false "" "" 0, Field.mk "L" 3 1 false "" "" 8, Field.mk "Eta" 21 2 false "" "" 16, Field.mk "Tau" 3 3 false "" "" 24, Field.mk "Mask" 21 4 false "" "" 32, Field.mk "Half" 21 5 false "" "" 36, Field.mk "Omega" 3 6 false "" "" 40, Field.mk "Size" 3 7 false "" "" 48]) (xs := [.int .i64 a0_0, .int .i64 a0_1, .int .i32 a0_2, .int .i64 a0_3, .int .i32 a0_4, .int .i32 a0_5, .int .i64 a0_6, .int .i64 a0_7]) (ys := [.int .i64 r2_0, .int .i64 r2_1, .int .i32 r2_2, .int .i64 r2_3, .int .i32 r2_4, .int .i32 r2_5, .int .i64 r2_6, .int .i64 r2_7]) (t := 23) (.tmp 21) (.tmp 22) (by kernel_rfl) (by kernel_rfl) (by kernel_rfl) (by kernel_rfl) (.cons rfl (fun w => Go.Mx.run_part1 (by kernel_rfl) rfl) (fun w => Go.Mx.run_part1 (by kernel_rfl) rfl) (fun w => Go.Mx.run_equalIn_int (by kernel_rfl)) (.cons rfl (fun w => Go.Mx.run_part1 (by kernel_rfl) rfl) (fun w => Go.Mx.run_part1 (by kernel_rfl) rfl) (fun w => Go.Mx.run_equalIn_int (by kernel_rfl)) (.cons rfl (fun w => Go.Mx.run_part1 (by kernel_rfl) rfl) (fun w => Go.Mx.run_part1 (by kernel_rfl) rfl) (fun w => Go.Mx.run_equalIn_int (by kernel_rfl)) (.cons rfl (fun w => Go.Mx.run_part1 (by kernel_rfl) rfl) (fun w => Go.Mx.run_part1 (by kernel_rfl) rfl) (fun w => Go.Mx.run_equalIn_int (by kernel_rfl)) (.cons rfl (fun w => Go.Mx.run_part1 (by kernel_rfl) rfl) (fun w => Go.Mx.run_part1 (by kernel_rfl) rfl) (fun w => Go.Mx.run_equalIn_int (by kernel_rfl)) (.cons rfl (fun w => Go.Mx.run_part1 (by kernel_rfl) rfl) (fun w => Go.Mx.run_part1 (by kernel_rfl) rfl) (fun w => Go.Mx.run_equalIn_int (by kernel_rfl)) (.cons rfl (fun w => Go.Mx.run_part1 (by kernel_rfl) rfl) (fun w => Go.Mx.run_part1 (by kernel_rfl) rfl) (fun w => Go.Mx.run_equalIn_int (by kernel_rfl)) (.cons rfl (fun w => Go.Mx.run_part1 (by kernel_rfl) rfl) (fun w => Go.Mx.run_part1 (by kernel_rfl) rfl) (fun w => Go.Mx.run_equalIn_int (by kernel_rfl)) .nil)))))))))) ?_
  refine wpS.ps [(3, 24, .bool true), (4, 25, undef), (5, 26, undef), (6, 27, undef), (7, 28, .bool true), (8, 29, .bool true), (9, 30, undef), (10, 31, undef), (11, 32, undef), (12, 33, .bool true), (13, 2, .bool true)] (by kernel_rfl) ?_
  refine wpS.fin rfl (kr10 _ _ ?_)
  refine then_n (ks9 _ _ ?_)
  refine xret ?_
  have q0 := of_some h
  subst q0
  exact qq _ _ (post_ret (by kernel_rfl) (run_results [.tmp 2] [.bool true] (by kernel_rfl) (.cons (res_tmp (by kernel_rfl)) .nil)) ⟨congrArg Ending.returned (by kernel_rfl), hs.none⟩)
 ·refine wpS.take 2 false (some 23) (.bool false) (by kernel_rfl) (yld_bb hc (yld_eqS (fs := [Field.mk "K" 3 0 false "" "" 0, Field.mk "L" 3 1 false "" "" 8, Field.mk "Eta" 21 2 false "" "" 16, Field.mk "Tau" 3 3 false "" "" 24, Field.mk "Mask" 21 4 false "" "" 32, Field.mk "Half" 21 5 false "" "" 36, Field.mk "Omega" 3 6 false "" "" 40, Field.mk "Size" 3 7 false "" "" 48]) (xs := [.int .i64 a0_0, .int .i64 a0_1, .int .i32 a0_2, .int .i64 a0_3, .int .i32 a0_4, .int .i32 a0_5, .int .i64 a0_6, .int .i64 a0_7]) (ys := [.int .i64 r2_0, .int .i64 r2_1, .int .i32 r2_2, .int .i64 r2_3, .int .i32 r2_4, .int .i32 r2_5, .int .i64 r2_6, .int .i64 r2_7]) (t := 23) (.tmp 21) (.tmp 22) (by kernel_rfl) (by kernel_rfl) (by kernel_rfl) (by kernel_rfl) (.cons rfl (fun w => Go.Mx.run_part1 (by kernel_rfl) rfl) (fun w => Go.Mx.run_part1 (by kernel_rfl) rfl) (fun w => Go.Mx.run_equalIn_int (by kernel_rfl)) (.cons rfl (fun w => Go.Mx.run_part1 (by kernel_rfl) rfl) (fun w => Go.Mx.run_part1 (by kernel_rfl) rfl) (fun w => Go.Mx.run_equalIn_int (by kernel_rfl)) (.cons rfl (fun w => Go.Mx.run_part1 (by kernel_rfl) rfl) (fun w => Go.Mx.run_part1 (by kernel_rfl) rfl) (fun w => Go.Mx.run_equalIn_int (by kernel_rfl)) (.cons rfl (fun w => Go.Mx.run_part1 (by kernel_rfl) rfl) (fun w => Go.Mx.run_part1 (by kernel_rfl) rfl) (fun w => Go.Mx.run_equalIn_int (by kernel_rfl)) (.cons rfl (fun w => Go.Mx.run_part1 (by kernel_rfl) rfl) (fun w => Go.Mx.run_part1 (by kernel_rfl) rfl) (fun w => Go.Mx.run_equalIn_int (by kernel_rfl)) (.cons rfl (fun w => Go.Mx.run_part1 (by kernel_rfl) rfl) (fun w => Go.Mx.run_part1 (by kernel_rfl) rfl) (fun w => Go.Mx.run_equalIn_int (by kernel_rfl)) (.cons rfl (fun w => Go.Mx.run_part1 (by kernel_rfl) rfl) (fun w => Go.Mx.run_part1 (by kernel_rfl) rfl) (fun w => Go.Mx.run_equalIn_int (by kernel_rfl)) (.cons rfl (fun w => Go.Mx.run_part1 (by kernel_rfl) rfl) (fun w => Go.Mx.run_part1 (by kernel_rfl) rfl) (fun w => Go.Mx.run_equalIn_int (by kernel_rfl)) .nil)))))))))) ?_
  refine wpS.p 3 24 (.bool false) (by kernel_rfl) ?_
  refine wpS.take 4 true (some 25) (.agg #[.int .i64 a0_0, .int .i64 a0_1, .int .i32 a0_2, .int .i64 a0_3, .int .i32 a0_4, .int .i32 a0_5, .int .i64 a0_6, .int .i64 a0_7]) (by kernel_rfl) (yld_loadW (e := 23) (n := 8) hs 3 rfl (by kernel_rfl) (by kernel_rfl) (by kernel_rfl) (by simp [enc_len]) .grow) ?_
  refine wpS.take 5 true (some 26) (.agg #[.int .i64 r5_0, .int .i64 r5_1, .int .i32 r5_2, .int .i64 r5_3, .int .i32 r5_4, .int .i32 r5_5, .int .i64 r5_6, .int .i64 r5_7]) (by kernel_rfl) (yld_loadW (e := 23) (n := 8) hs 1 rfl (by kernel_rfl) (by kernel_rfl) (by kernel_rfl) (by simp [enc_len]) .grow) ?_
  rcases of_ifb h with ⟨hc, h⟩ | ⟨hc, h⟩
  ·refine wpS.take 6 false (some 27) (.bool true) (by kernel_rfl) (yld_bb hc (yld_eqS (fs := [Field.mk "K" 3 0 false "" "" 0, Field.mk "L" 3 1 false "" "" 8, Field.mk "Eta" 21 2 false "" "" 16, Field.mk "Tau" 3 3 false "" "" 24, Field.mk "Mask" 21 4 false "" "" 32, Field.mk "Half" 21 5 false "" "" 36, Field.mk "Omega" 3 6 false "" "" 40, Field.mk "Size" 3 7 false "" "" 48]) (xs := [.int .i64 a0_0, .int .i64 a0_1, .int .i32 a0_2, .int .i64 a0_3, .int .i32 a0_4, .int .i32 a0_5, .int .i64 a0_6, .int .i64 a0_7]) (ys := [.int .i64 r5_0, .int .i64 r5_1, .int .i32 r5_2, .int .i64 r5_3, .int .i32 r5_4, .int .i32 r5_5, .int .i64 r5_6, .int .i64 r5_7]) (t := 23) (.tmp 25) (.tmp 26) (by kernel_rfl) (by kernel_rfl) (by kernel_rfl) (by kernel_rfl) (.cons rfl (fun w => Go.Mx.run_part1 (by kernel_rfl) rfl) (fun w => Go.Mx.run_part1 (by kernel_rfl) rfl) (fun w => Go.Mx.run_equalIn_int (by kernel_rfl)) (.cons rfl (fun w => Go.Mx.run_part1 (by kernel_rfl) rfl) (fun w => Go.Mx.run_part1 (by kernel_rfl) rfl) (fun w => Go.Mx.run_equalIn_int (by kernel_rfl)) (.cons rfl (fun w => Go.Mx.run_part1 (by kernel_rfl) rfl) (fun w => Go.Mx.run_part1 (by kernel_rfl) rfl) (fun w => Go.Mx.run_equalIn_int (by kernel_rfl)) (.cons rfl (fun w => Go.Mx.run_part1 (by kernel_rfl) rfl) (fun w => Go.Mx.run_part1 (by kernel_rfl) rfl) (fun w => Go.Mx.run_equalIn_int (by kernel_rfl)) (.cons rfl (fun w => Go.Mx.run_part1 (by kernel_rfl) rfl) (fun w => Go.Mx.run_part1 (by kernel_rfl) rfl) (fun w => Go.Mx.run_equalIn_int (by kernel_rfl)) (.cons rfl (fun w => Go.Mx.run_part1 (by kernel_rfl) rfl) (fun w => Go.Mx.run_part1 (by kernel_rfl) rfl) (fun w => Go.Mx.run_equalIn_int (by kernel_rfl)) (.cons rfl (fun w => Go.Mx.run_part1 (by kernel_rfl) rfl) (fun w => Go.Mx.run_part1 (by kernel_rfl) rfl) (fun w => Go.Mx.run_equalIn_int (by kernel_rfl)) (.cons rfl (fun w => Go.Mx.run_part1 (by kernel_rfl) rfl) (fun w => Go.Mx.run_part1 (by kernel_rfl) rfl) (fun w => Go.Mx.run_equalIn_int (by kernel_rfl)) .nil)))))))))) ?_
   refine wpS.ps [(7, 28, .bool true), (8, 29, .bool true), (9, 30, undef), (10, 31, undef), (11, 32, undef), (12, 33, .bool true), (13, 2, .bool true)] (by kernel_rfl) ?_
   refine wpS.fin rfl (kr10 _ _ ?_)
   refine then_n (ks9 _ _ ?_)
   refine xret ?_
   have q0 := of_some h
   subst q0
   exact qq _ _ (post_ret (by kernel_rfl) (run_results [.tmp 2] [.bool true] (by kernel_rfl) (.cons (res_tmp (by kernel_rfl)) .nil)) ⟨congrArg Ending.returned (by kernel_rfl), hs.none⟩)
  ·refine wpS.take 6 false (some 27) (.bool false) (by kernel_rfl) (yld_bb hc (yld_eqS (fs := [Field.mk "K" 3 0 false "" "" 0, Field.mk "L" 3 1 false "" "" 8, Field.mk "Eta" 21 2 false "" "" 16, Field.mk "Tau" 3 3 false "" "" 24, Field.mk "Mask" 21 4 false "" "" 32, Field.mk "Half" 21 5 false "" "" 36, Field.mk "Omega" 3 6 false "" "" 40, Field.mk "Size" 3 7 false "" "" 48]) (xs := [.int .i64 a0_0, .int .i64 a0_1, .int .i32 a0_2, .int .i64 a0_3, .int .i32 a0_4, .int .i32 a0_5, .int .i64 a0_6, .int .i64 a0_7]) (ys := [.int .i64 r5_0, .int .i64 r5_1, .int .i32 r5_2, .int .i64 r5_3, .int .i32 r5_4, .int .i32 r5_5, .int .i64 r5_6, .int .i64 r5_7]) (t := 23) (.tmp 25) (.tmp 26) (by kernel_rfl) (by kernel_rfl) (by kernel_rfl) (by kernel_rfl) (.cons rfl (fun w => Go.Mx.run_part1 (by kernel_rfl) rfl) (fun w => Go.Mx.run_part1 (by kernel_rfl) rfl) (fun w => Go.Mx.run_equalIn_int (by kernel_rfl)) (.cons rfl (fun w => Go.Mx.run_part1 (by kernel_rfl) rfl) (fun w => Go.Mx.run_part1 (by kernel_rfl) rfl) (fun w => Go.Mx.run_equalIn_int (by kernel_rfl)) (.cons rfl (fun w => Go.Mx.run_part1 (by kernel_rfl) rfl) (fun w => Go.Mx.run_part1 (by kernel_rfl) rfl) (fun w => Go.Mx.run_equalIn_int (by kernel_rfl)) (.cons rfl (fun w => Go.Mx.run_part1 (by kernel_rfl) rfl) (fun w => Go.Mx.run_part1 (by kernel_rfl) rfl) (fun w => Go.Mx.run_equalIn_int (by kernel_rfl)) (.cons rfl (fun w => Go.Mx.run_part1 (by kernel_rfl) rfl) (fun w => Go.Mx.run_part1 (by kernel_rfl) rfl) (fun w => Go.Mx.run_equalIn_int (by kernel_rfl)) (.cons rfl (fun w => Go.Mx.run_part1 (by kernel_rfl) rfl) (fun w => Go.Mx.run_part1 (by kernel_rfl) rfl) (fun w => Go.Mx.run_equalIn_int (by kernel_rfl)) (.cons rfl (fun w => Go.Mx.run_part1 (by kernel_rfl) rfl) (fun w => Go.Mx.run_part1 (by kernel_rfl) rfl) (fun w => Go.Mx.run_equalIn_int (by kernel_rfl)) (.cons rfl (fun w => Go.Mx.run_part1 (by kernel_rfl) rfl) (fun w => Go.Mx.run_part1 (by kernel_rfl) rfl) (fun w => Go.Mx.run_equalIn_int (by kernel_rfl)) .nil)))))))))) ?_
   refine wpS.ps [(7, 28, .bool false), (8, 29, .bool false)] (by kernel_rfl) ?_
   refine wpS.take 9 true (some 30) (.agg #[.int .i64 a0_0, .int .i64 a0_1, .int .i32 a0_2, .int .i64 a0_3, .int .i32 a0_4, .int .i32 a0_5, .int .i64 a0_6, .int .i64 a0_7]) (by kernel_rfl) (yld_loadW (e := 23) (n := 8) hs 3 rfl (by kernel_rfl) (by kernel_rfl) (by kernel_rfl) (by simp [enc_len]) .grow) ?_
   refine wpS.take 10 true (some 31) (.agg #[.int .i64 r8_0, .int .i64 r8_1, .int .i32 r8_2, .int .i64 r8_3, .int .i32 r8_4, .int .i32 r8_5, .int .i64 r8_6, .int .i64 r8_7]) (by kernel_rfl) (yld_loadW (e := 23) (n := 8) hs 0 rfl (by kernel_rfl) (by kernel_rfl) (by kernel_rfl) (by simp [enc_len]) .grow) ?_
   refine wpS.take 11 false (some 32) (.bool ((a0_0 == r8_0) && ((a0_1 == r8_1) && ((a0_2 == r8_2) && ((a0_3 == r8_3) && ((a0_4 == r8_4) && ((a0_5 == r8_5) && ((a0_6 == r8_6) && ((a0_7 == r8_7) && true))))))))) (by kernel_rfl) (yld_eqS (fs := [Field.mk "K" 3 0 false "" "" 0, Field.mk "L" 3 1 false "" "" 8, Field.mk "Eta" 21 2 false "" "" 16, Field.mk "Tau" 3 3 false "" "" 24, Field.mk "Mask" 21 4 false "" "" 32, Field.mk "Half" 21 5 false "" "" 36, Field.mk "Omega" 3 6 false "" "" 40, Field.mk "Size" 3 7 false "" "" 48]) (xs := [.int .i64 a0_0, .int .i64 a0_1, .int .i32 a0_2, .int .i64 a0_3, .int .i32 a0_4, .int .i32 a0_5, .int .i64 a0_6, .int .i64 a0_7]) (ys := [.int .i64 r8_0, .int .i64 r8_1, .int .i32 r8_2, .int .i64 r8_3, .int .i32 r8_4, .int .i32 r8_5, .int .i64 r8_6, .int .i64 r8_7]) (t := 23) (.tmp 30) (.tmp 31) (by kernel_rfl) (by kernel_rfl) (by kernel_rfl) (by kernel_rfl) (.cons rfl (fun w => Go.Mx.run_part1 (by kernel_rfl) rfl) (fun w => Go.Mx.run_part1 (by kernel_rfl) rfl) (fun w => Go.Mx.run_equalIn_int (by kernel_rfl)) (.cons rfl (fun w => Go.Mx.run_part1 (by kernel_rfl) rfl) (fun w => Go.Mx.run_part1 (by kernel_rfl) rfl) (fun w => Go.Mx.run_equalIn_int (by kernel_rfl)) (.cons rfl (fun w => Go.Mx.run_part1 (by kernel_rfl) rfl) (fun w => Go.Mx.run_part1 (by kernel_rfl) rfl) (fun w => Go.Mx.run_equalIn_int (by kernel_rfl)) (.cons rfl (fun w => Go.Mx.run_part1 (by kernel_rfl) rfl) (fun w => Go.Mx.run_part1 (by kernel_rfl) rfl) (fun w => Go.Mx.run_equalIn_int (by kernel_rfl)) (.cons rfl (fun w => Go.Mx.run_part1 (by kernel_rfl) rfl) (fun w => Go.Mx.run_part1 (by kernel_rfl) rfl) (fun w => Go.Mx.run_equalIn_int (by kernel_rfl)) (.cons rfl (fun w => Go.Mx.run_part1 (by kernel_rfl) rfl) (fun w => Go.Mx.run_part1 (by kernel_rfl) rfl) (fun w => Go.Mx.run_equalIn_int (by kernel_rfl)) (.cons rfl (fun w => Go.Mx.run_part1 (by kernel_rfl) rfl) (fun w => Go.Mx.run_part1 (by kernel_rfl) rfl) (fun w => Go.Mx.run_equalIn_int (by kernel_rfl)) (.cons rfl (fun w => Go.Mx.run_part1 (by kernel_rfl) rfl) (fun w => Go.Mx.run_part1 (by kernel_rfl) rfl) (fun w => Go.Mx.run_equalIn_int (by kernel_rfl)) .nil))))))))) ?_
   refine wpS.ps [(12, 33, .bool ((a0_0 == r8_0) && ((a0_1 == r8_1) && ((a0_2 == r8_2) && ((a0_3 == r8_3) && ((a0_4 == r8_4) && ((a0_5 == r8_5) && ((a0_6 == r8_6) && ((a0_7 == r8_7) && true))))))))), (13, 2, .bool ((a0_0 == r8_0) && ((a0_1 == r8_1) && ((a0_2 == r8_2) && ((a0_3 == r8_3) && ((a0_4 == r8_4) && ((a0_5 == r8_5) && ((a0_6 == r8_6) && ((a0_7 == r8_7) && true)))))))))] (by kernel_rfl) ?_
   refine wpS.fin rfl (kr10 _ _ ?_)
   refine then_n (ks9 _ _ ?_)
   refine xret ?_
   have q0 := of_some h
   subst q0
   exact qq _ _ (post_ret (by kernel_rfl) (run_results [.tmp 2] [.bool ((a0_0 == r8_0) && ((a0_1 == r8_1) && ((a0_2 == r8_2) && ((a0_3 == r8_3) && ((a0_4 == r8_4) && ((a0_5 == r8_5) && ((a0_6 == r8_6) && ((a0_7 == r8_7) && true))))))))] (by kernel_rfl) (.cons (res_tmp (by kernel_rfl)) .nil)) ⟨congrArg Ending.returned (by kernel_rfl), hs.none⟩)

theorem ref22_width.ok {K : Nat} {a0 : Int} {r0 : Int} (h : ref22_width.f K a0 = some r0) (w0 : World) : Ret Try.prog 65 #[.int .i32 a0] w0 (.int .i64 r0) := by
 refine calls_k Try.func65 rfl fun Q qq => ?_
 have hs := St.start w0
 refine wp_conv (a' := ⟨#[.int .i32 a0, undef, undef, undef, undef, undef, undef, undef, undef, undef, undef], []⟩) (by kernel_rfl) ?_
 refine xseq_k fun KS1 ks1 => ?_
 refine wp_regS (l := [0]) (by kernel_rfl) (by kernel_rfl) fun KR2 kr2 => ?_
 refine wpS.p 0 2 (.int .i64 0) (by kernel_rfl) ?_
 refine wpS.fin rfl (kr2 _ _ ?_)
 refine then_n (ks1 _ _ ?_)
 refine xseq_k fun KS3 ks3 => ?_
 refine wp_regS (l := [0]) (by kernel_rfl) (by kernel_rfl) fun KR4 kr4 => ?_
 refine wpS.p 0 3 (.int .i64 0) (by kernel_rfl) ?_
 refine wpS.fin rfl (kr4 _ _ ?_)
 refine then_n (ks3 _ _ ?_)
 refine xseq_k fun KS5 ks5 => ?_
 obtain ⟨y3, hy, hk0⟩ := of_bind h
 refine wp_exq (N := fun a w => St w0 [] [] [] w ∧ ∃ g : Nat → Value, a = ⟨#[(g 0), undef, .int .i64 0, .int .i64 y3, (g 4), (g 5), (g 6), (g 7), (g 8), (g 9), undef], []⟩) (fun N0 nn0 => ?_) ?_
 ·clear hk0
  refine xblock ?_
  refine wp_loop_k (fun n a w => ∃ z1 z2, ref22_width.l0 K n z1 z2 = some y3 ∧ St w0 [] [] [] w ∧ ∃ g : Nat → Value, a = ⟨#[.int .i32 z1, undef, .int .i64 0, .int .i64 z2, (g 4), (g 5), (g 6), (g 7), (g 8), (g 9), undef], []⟩) K ⟨a0, 0, hy, hs.conv rfl, exg (by kernel_rfl)⟩ ?_
  clear hs h hy
  rintro n a w ⟨z1, z2, h, hs, g, rfl⟩ KL0 kl0
  cases n with
  | zero => exact nomatch (show none = some _ from h)
  | succ n =>
   refine xseq_k fun KS6 ks6 => ?_
   refine xseq_k fun KS7 ks7 => ?_
   refine wp_regS (l := [0, 1]) (by kernel_rfl) (by kernel_rfl) fun KR8 kr8 => ?_
   refine wpS.p 0 4 (.int .i32 z1) (by kernel_rfl) ?_
   rcases of_if h with ⟨hc, h⟩ | ⟨hc, h⟩
   ·refine wpS.take 1 false (some 5) (.bool true) (by kernel_rfl) (yld_b (dt hc) (fun _ => by kernel_rfl)) ?_
    refine wpS.fin rfl (kr8 _ _ ?_)
    refine then_n (ks7 _ _ ?_)
    refine wp_cond_t (by kernel_rfl) ?_
    refine xskip ?_
    refine then_n (ks6 _ _ ?_)
    refine xblock ?_
    refine xseq_k fun KS9 ks9 => ?_
    refine wp_regS (l := [0, 1, 2]) (by kernel_rfl) (by kernel_rfl) fun KR10 kr10 => ?_
    refine wpS.ps [(0, 6, .int .i32 z1), (1, 7, .int .i32 (iquo .i32 z1 2))] (by kernel_rfl) ?_
    obtain ⟨x4, hx, h⟩ := of_bind h
    refine wpS.take 2 false (some 0) (.int .i32 x4) (by kernel_rfl) (yld_int hx (fun _ => by kernel_rfl)) ?_
    refine wpS.fin rfl (kr10 _ _ ?_)
    refine then_n (ks9 _ _ ?_)
    refine wp_regS (l := [0, 1, 2]) (by kernel_rfl) (by kernel_rfl) fun KR11 kr11 => ?_
    refine wpS.ps [(0, 8, .int .i64 z2), (1, 9, .int .i64 (iadd .i64 z2 1))] (by kernel_rfl) ?_
    obtain ⟨x5, hx, h⟩ := of_bind h
    refine wpS.take 2 false (some 3) (.int .i64 x5) (by kernel_rfl) (yld_int hx (fun _ => by kernel_rfl)) ?_
    refine wpS.fin rfl (kr11 _ _ ?_)
    refine inBlock_n ?_
    exact then_n (kl0 _ _ ⟨n, Nat.lt_succ_self n, x4, x5, h, (hs.conv rfl), exg (by kernel_rfl)⟩)
   ·refine wpS.take 1 false (some 5) (.bool false) (by kernel_rfl) (yld_b (df hc) (fun _ => by kernel_rfl)) ?_
    refine wpS.fin rfl (kr8 _ _ ?_)
    refine then_n (ks7 _ _ ?_)
    refine wp_cond_f (by kernel_rfl) ?_
    refine xexit ?_
    refine then_x ?_
    refine then_x ?_
    refine inBlock_hit ?_
    have q0 := of_some h
    subst q0
    exact exq_n (nn0 _ _ ⟨(hs.conv rfl), exg (by kernel_rfl)⟩)
 ·clear hs h hy
  rintro a w ⟨hs, g, rfl⟩
  have h := hk0
  refine then_n (ks5 _ _ ?_)
  refine xseq_k fun KS12 ks12 => ?_
  refine wp_regS (l := [0, 1]) (by kernel_rfl) (by kernel_rfl) fun KR13 kr13 => ?_
  refine wpS.ps [(0, 10, .int .i64 y3), (1, 2, .int .i64 y3)] (by kernel_rfl) ?_
  refine wpS.fin rfl (kr13 _ _ ?_)
  refine then_n (ks12 _ _ ?_)
  refine xret ?_
  have q0 := of_some h
  subst q0
  exact qq _ _ (post_ret (by kernel_rfl) (run_results [.tmp 2] [.int .i64 y3] (by kernel_rfl) (.cons (res_tmp (by kernel_rfl)) .nil)) ⟨congrArg Ending.returned (by kernel_rfl), hs.none⟩)

theorem ref22_bitsOf.ok {K : Nat} {a0 : Int} {a1 : Int} {r0 : Int} (h : ref22_bitsOf.f K a0 a1 = some r0) (w0 : World) : Ret Try.prog 46 #[.int .i32 a0, .int .i32 a1] w0 (.int .i64 r0) := by
 refine calls_k Try.func46 rfl fun Q qq => ?_
 have hs := St.start w0
 refine wp_conv (a' := ⟨#[.int .i32 a0, .int .i32 a1, undef, undef, undef, undef, undef, undef, undef, undef], []⟩) (by kernel_rfl) ?_
 refine xseq_k fun KS1 ks1 => ?_
 refine wp_regS (l := [0]) (by kernel_rfl) (by kernel_rfl) fun KR2 kr2 => ?_
 refine wpS.p 0 4 (.int .i64 0) (by kernel_rfl) ?_
 refine wpS.fin rfl (kr2 _ _ ?_)
 refine then_n (ks1 _ _ ?_)
 refine xseq_k fun KS3 ks3 => ?_
 refine wp_regS (l := [0, 1, 2, 3, 4, 5]) (by kernel_rfl) (by kernel_rfl) fun KR4 kr4 => ?_
 refine wpS.ps [(0, 5, .int .i32 a0), (1, 6, .int .i32 (imax a0 0)), (2, 7, .int .i32 a1), (3, 8, .int .i32 (iadd .i32 (imax a0 0) a1))] (by kernel_rfl) ?_
 obtain ⟨r1, hg, h⟩ := of_bind h
 refine wpS.only 4 (op_call (d := (some 9)) (by kernel_rfl) hs (fun _ => by kernel_rfl) (ref22_width.ok hg _) ?_)
 intro w gw hs
 refine ⟨fun _ => trivial, ?_⟩
 refine wpS.p 5 4 (.int .i64 r1) (by kernel_rfl) ?_
 refine wpS.fin rfl (kr4 _ _ ?_)
 refine then_n (ks3 _ _ ?_)
 refine xret ?_
 have q0 := of_some h
 subst q0
 exact qq _ _ (post_ret (by kernel_rfl) (run_results [.tmp 4] [.int .i64 r1] (by kernel_rfl) (.cons (res_tmp (by kernel_rfl)) .nil)) ⟨congrArg Ending.returned (by kernel_rfl), hs.none⟩)

theorem dpack_span_fit.ok {K : Nat} {a0_0 : Int} {a0_1 : Int} {r0 : Bool} (h : dpack_span_fit.f K a0_0 a0_1 = some r0) (w0 : World) : Ret Try.prog 47 #[.agg #[.int .i32 a0_0, .int .i32 a0_1]] w0 (.bool r0) := by
 refine calls_k Try.func47 rfl fun Q qq => ?_
 have hs := St.start w0
 refine wp_conv (a' := ⟨#[.agg #[.int .i32 a0_0, .int .i32 a0_1], undef, undef, undef, undef, undef, undef, undef, undef, undef, undef, undef, undef, undef, undef, undef, undef, undef, undef, undef, undef], []⟩) (by kernel_rfl) ?_
 refine xseq_k fun KS1 ks1 => ?_
 refine wp_regS (l := [0, 1]) (by kernel_rfl) (by kernel_rfl) fun KR2 kr2 => ?_
 refine wpS.only 0 (op_box (t := 73) (v := .agg #[.int .i32 a0_0, .int .i32 a0_1]) (d := (some 1)) (by kernel_rfl) hs ([.int .i32 a0_0, .int .i32 a0_1]) (by kernel_rfl) (by kernel_rfl) ?_)
 intro b1 w gw hs
 refine ⟨fun _ => trivial, ?_⟩
 refine wpS.p 1 2 (.bool false) (by kernel_rfl) ?_
 refine wpS.fin rfl (kr2 _ _ ?_)
 refine then_n (ks1 _ _ ?_)
 refine xseq_k fun KS3 ks3 => ?_
 refine wp_regS (l := [0, 1, 2, 3, 4, 5, 6, 7, 8, 9, 10, 11, 12, 13, 14, 15, 16, 17, 18]) (by kernel_rfl) (by kernel_rfl) fun KR4 kr4 => ?_
 refine wpS.p 0 3 (.pointer (some ⟨b1, 0, none⟩)) (by kernel_rfl) ?_
 refine wpS.take 1 true (some 4) (.int .i32 a0_0) (by kernel_rfl) (yld_load1 (e := 21) (o := 0) hs 0 rfl (by kernel_rfl) (by kernel_rfl) (by rfl) .grow) ?_
 rcases of_if h with ⟨hc, h⟩ | ⟨hc, h⟩
 ·refine wpS.take 2 false (some 5) (.bool true) (by kernel_rfl) (yld_b (dt hc) (fun _ => by kernel_rfl)) ?_
  refine wpS.ps [(3, 6, .bool true), (4, 7, .pointer (some ⟨b1, 0, none⟩))] (by kernel_rfl) ?_
  refine wpS.take 5 true (some 8) (.int .i32 a0_0) (by kernel_rfl) (yld_load1 (e := 21) (o := 0) hs 0 rfl (by kernel_rfl) (by kernel_rfl) (by rfl) .grow) ?_
  rcases of_if h with ⟨hc, h⟩ | ⟨hc, h⟩
  ·refine wpS.take 6 false (some 9) (.bool true) (by kernel_rfl) (yld_b (dt hc) (fun _ => by kernel_rfl)) ?_
   refine wpS.ps [(7, 10, .bool true), (8, 11, .bool true), (9, 12, .pointer (some ⟨b1, 1, none⟩))] (by kernel_rfl) ?_
   refine wpS.take 10 true (some 13) (.int .i32 a0_1) (by kernel_rfl) (yld_load1 (e := 21) (o := 1) hs 0 rfl (by kernel_rfl) (by kernel_rfl) (by rfl) .grow) ?_
   rcases of_if h with ⟨hc, h⟩ | ⟨hc, h⟩
   ·refine wpS.take 11 false (some 14) (.bool true) (by kernel_rfl) (yld_b (dt hc) (fun _ => by kernel_rfl)) ?_
    refine wpS.ps [(12, 15, .bool true), (13, 16, .bool true), (14, 17, .pointer (some ⟨b1, 1, none⟩))] (by kernel_rfl) ?_
    refine wpS.take 15 true (some 18) (.int .i32 a0_1) (by kernel_rfl) (yld_load1 (e := 21) (o := 1) hs 0 rfl (by kernel_rfl) (by kernel_rfl) (by rfl) .grow) ?_
    refine wpS.ps [(16, 19, .bool (decide (a0_1 ≤ 1048576))), (17, 20, .bool (decide (a0_1 ≤ 1048576))), (18, 2, .bool (decide (a0_1 ≤ 1048576)))] (by kernel_rfl) ?_
    refine wpS.fin rfl (kr4 _ _ ?_)
    refine then_n (ks3 _ _ ?_)
    refine xret ?_
    have q0 := of_some h
    subst q0
    exact qq _ _ (post_ret (by kernel_rfl) (run_results [.tmp 2] [.bool (decide (a0_1 ≤ 1048576))] (by kernel_rfl) (.cons (res_tmp (by kernel_rfl)) .nil)) ⟨congrArg Ending.returned (by kernel_rfl), hs.none⟩)
   ·refine wpS.take 11 false (some 14) (.bool false) (by kernel_rfl) (yld_b (df hc) (fun _ => by kernel_rfl)) ?_
    refine wpS.ps [(12, 15, .bool false), (13, 16, .bool false), (14, 17, undef), (15, 18, undef), (16, 19, undef), (17, 20, .bool false), (18, 2, .bool false)] (by kernel_rfl) ?_
    refine wpS.fin rfl (kr4 _ _ ?_)
    refine then_n (ks3 _ _ ?_)
    refine xret ?_
    have q0 := of_some h
    subst q0
    exact qq _ _ (post_ret (by kernel_rfl) (run_results [.tmp 2] [.bool false] (by kernel_rfl) (.cons (res_tmp (by kernel_rfl)) .nil)) ⟨congrArg Ending.returned (by kernel_rfl), hs.none⟩)
  ·refine wpS.take 6 false (some 9) (.bool false) (by kernel_rfl) (yld_b (df hc) (fun _ => by kernel_rfl)) ?_
   refine wpS.ps [(7, 10, .bool false), (8, 11, .bool false), (9, 12, undef), (10, 13, undef), (11, 14, undef), (12, 15, .bool false), (13, 16, .bool false), (14, 17, undef), (15, 18, undef), (16, 19, undef), (17, 20, .bool false), (18, 2, .bool false)] (by kernel_rfl) ?_
   refine wpS.fin rfl (kr4 _ _ ?_)
   refine then_n (ks3 _ _ ?_)
   refine xret ?_
   have q0 := of_some h
   subst q0
   exact qq _ _ (post_ret (by kernel_rfl) (run_results [.tmp 2] [.bool false] (by kernel_rfl) (.cons (res_tmp (by kernel_rfl)) .nil)) ⟨congrArg Ending.returned (by kernel_rfl), hs.none⟩)
 ·refine wpS.take 2 false (some 5) (.bool false) (by kernel_rfl) (yld_b (df hc) (fun _ => by kernel_rfl)) ?_
  refine wpS.ps [(3, 6, .bool false), (4, 7, undef), (5, 8, undef), (6, 9, undef), (7, 10, .bool false), (8, 11, .bool false), (9, 12, undef), (10, 13, undef), (11, 14, undef), (12, 15, .bool false), (13, 16, .bool false), (14, 17, undef), (15, 18, undef), (16, 19, undef), (17, 20, .bool false), (18, 2, .bool false)] (by kernel_rfl) ?_
  refine wpS.fin rfl (kr4 _ _ ?_)
  refine then_n (ks3 _ _ ?_)
  refine xret ?_
  have q0 := of_some h
  subst q0
  exact qq _ _ (post_ret (by kernel_rfl) (run_results [.tmp 2] [.bool false] (by kernel_rfl) (.cons (res_tmp (by kernel_rfl)) .nil)) ⟨congrArg Ending.returned (by kernel_rfl), hs.none⟩)

theorem ref22_bounds.ok {K : Nat} {a0 : Int} {a1 : Int} {r0 : Bool} (h : ref22_bounds.f K a0 a1 = some r0) (w0 : World) : Ret Try.prog 52 #[.int .i32 a0, .int .i32 a1] w0 (.bool r0) := by
 refine calls_k Try.func52 rfl fun Q qq => ?_
 have hs := St.start w0
 refine wp_conv (a' := ⟨#[.int .i32 a0, .int .i32 a1, undef, undef, undef, undef, undef, undef, undef, undef, undef, undef, undef, undef, undef, undef, undef, undef, undef], []⟩) (by kernel_rfl) ?_
 refine xseq_k fun KS1 ks1 => ?_
 refine wp_regS (l := [0]) (by kernel_rfl) (by kernel_rfl) fun KR2 kr2 => ?_
 refine wpS.p 0 4 (.bool false) (by kernel_rfl) ?_
 refine wpS.fin rfl (kr2 _ _ ?_)
 refine then_n (ks1 _ _ ?_)
 refine xseq_k fun KS3 ks3 => ?_
 refine wp_regS (l := [0, 1, 2, 3, 4, 5, 6, 7, 8, 9, 10, 11, 12, 13, 14]) (by kernel_rfl) (by kernel_rfl) fun KR4 kr4 => ?_
 refine wpS.p 0 5 (.int .i32 a0) (by kernel_rfl) ?_
 rcases of_if h with ⟨hc, h⟩ | ⟨hc, h⟩
 ·refine wpS.take 1 false (some 6) (.bool true) (by kernel_rfl) (yld_b (dt hc) (fun _ => by kernel_rfl)) ?_
  refine wpS.ps [(2, 7, .bool true), (3, 8, .int .i32 a0)] (by kernel_rfl) ?_
  rcases of_if h with ⟨hc, h⟩ | ⟨hc, h⟩
  ·refine wpS.take 4 false (some 9) (.bool true) (by kernel_rfl) (yld_b (dt hc) (fun _ => by kernel_rfl)) ?_
   refine wpS.ps [(5, 10, .bool true), (6, 11, .bool true), (7, 12, .int .i32 a1)] (by kernel_rfl) ?_
   rcases of_if h with ⟨hc, h⟩ | ⟨hc, h⟩
   ·refine wpS.take 8 false (some 13) (.bool true) (by kernel_rfl) (yld_b (dt hc) (fun _ => by kernel_rfl)) ?_
    refine wpS.ps [(9, 14, .bool true), (10, 15, .bool true), (11, 16, .int .i32 a1), (12, 17, .bool (decide (a1 ≤ 1048576))), (13, 18, .bool (decide (a1 ≤ 1048576))), (14, 4, .bool (decide (a1 ≤ 1048576)))] (by kernel_rfl) ?_
    refine wpS.fin rfl (kr4 _ _ ?_)
    refine then_n (ks3 _ _ ?_)
    refine xret ?_
    have q0 := of_some h
    subst q0
    exact qq _ _ (post_ret (by kernel_rfl) (run_results [.tmp 4] [.bool (decide (a1 ≤ 1048576))] (by kernel_rfl) (.cons (res_tmp (by kernel_rfl)) .nil)) ⟨congrArg Ending.returned (by kernel_rfl), hs.none⟩)
   ·refine wpS.take 8 false (some 13) (.bool false) (by kernel_rfl) (yld_b (df hc) (fun _ => by kernel_rfl)) ?_
    refine wpS.ps [(9, 14, .bool false), (10, 15, .bool false), (11, 16, undef), (12, 17, undef), (13, 18, .bool false), (14, 4, .bool false)] (by kernel_rfl) ?_
    refine wpS.fin rfl (kr4 _ _ ?_)
    refine then_n (ks3 _ _ ?_)
    refine xret ?_
    have q0 := of_some h
    subst q0
    exact qq _ _ (post_ret (by kernel_rfl) (run_results [.tmp 4] [.bool false] (by kernel_rfl) (.cons (res_tmp (by kernel_rfl)) .nil)) ⟨congrArg Ending.returned (by kernel_rfl), hs.none⟩)
  ·refine wpS.take 4 false (some 9) (.bool false) (by kernel_rfl) (yld_b (df hc) (fun _ => by kernel_rfl)) ?_
   refine wpS.ps [(5, 10, .bool false), (6, 11, .bool false), (7, 12, undef), (8, 13, undef), (9, 14, .bool false), (10, 15, .bool false), (11, 16, undef), (12, 17, undef), (13, 18, .bool false), (14, 4, .bool false)] (by kernel_rfl) ?_
   refine wpS.fin rfl (kr4 _ _ ?_)
   refine then_n (ks3 _ _ ?_)
   refine xret ?_
   have q0 := of_some h
   subst q0
   exact qq _ _ (post_ret (by kernel_rfl) (run_results [.tmp 4] [.bool false] (by kernel_rfl) (.cons (res_tmp (by kernel_rfl)) .nil)) ⟨congrArg Ending.returned (by kernel_rfl), hs.none⟩)
 ·refine wpS.take 1 false (some 6) (.bool false) (by kernel_rfl) (yld_b (df hc) (fun _ => by kernel_rfl)) ?_
  refine wpS.ps [(2, 7, .bool false), (3, 8, undef), (4, 9, undef), (5, 10, .bool false), (6, 11, .bool false), (7, 12, undef), (8, 13, undef), (9, 14, .bool false), (10, 15, .bool false), (11, 16, undef), (12, 17, undef), (13, 18, .bool false), (14, 4, .bool false)] (by kernel_rfl) ?_
  refine wpS.fin rfl (kr4 _ _ ?_)
  refine then_n (ks3 _ _ ?_)
  refine xret ?_
  have q0 := of_some h
  subst q0
  exact qq _ _ (post_ret (by kernel_rfl) (run_results [.tmp 4] [.bool false] (by kernel_rfl) (.cons (res_tmp (by kernel_rfl)) .nil)) ⟨congrArg Ending.returned (by kernel_rfl), hs.none⟩)
end Go.Proofs.Ytblploekkjeolaa
