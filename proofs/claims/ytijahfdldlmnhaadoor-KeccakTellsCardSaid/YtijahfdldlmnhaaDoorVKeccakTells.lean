/- Printed by this work's own program: the code of each function below comes to the answer that its plain form tells. -/
import Derived.Test.YtijahfdldlmnhaaDoorMr
import Derived.Test.YtijahfdldlmnhaaDoorProg
import Derived.Test.YtijahfdldlmnhaaDoorLKeccakTells
import Derived.Test.YtijahfdldlmnhaaDoorSX0
import Derived.Test.YtijahfdldlmnhaaDoorSX1
import Derived.Test.YtijahfdldlmnhaaDoorSX2
import Derived.Test.YtijahfdldlmnhaaDoorSX3
import Derived.Test.YtijahfdldlmnhaaDoorSX4
set_option linter.unusedVariables false
set_option linter.unusedSimpArgs false
set_option maxRecDepth 100000
set_option maxHeartbeats 4000000
namespace Go.Proofs.YtijahfdldlmnhaaDoor
open Go.Mx
attribute [local irreducible] wpOp

theorem law08_KeccakTells.ok {K : Nat} {a0 : Arr 25} {a1 : Int} {a2 : List Int} {a3 : Int} {a4_0 : Int} {a4_1 : Arr 25} {a4_2 : Int} {a4_3 : Bool} {r0 : Bool} {a2_A : Option Addr} {a2_n : Nat} {a2_c : Nat} (h : law08_KeccakTells.f K a0 a1 a2 a3 a4_0 a4_1 a4_2 a4_3 = some r0) (w0 : World) (hp2 : RowL (CI .u8) w0 a2_A a2_n a2_c a2) (hg0 : RowL (CA .u64 24 (by decide)) w0 (some ⟨0, 0, none⟩) 1 1 [tab_0]) (hg1 : RowL (CA .i64 24 (by decide)) w0 (some ⟨1, 0, none⟩) 1 1 [tab_1]) (hg2 : RowL (CA .i64 24 (by decide)) w0 (some ⟨2, 0, none⟩) 1 1 [tab_2]) : Ret Tryd.prog 6 #[.agg (enc .u64 a0).toArray, .int .i64 a1, .slice a2_A a2_n a2_c, .int .i64 a3, .agg (([.int .i64 a4_0] : List Value) ++ enc .u64 a4_1 ++ ([.int .i64 a4_2, .bool a4_3] : List Value)).toArray] w0 (.bool r0) := by
  refine calls_k Tryd.func6 rfl fun Q qq => ?_
  have hs := St.startR (all_cons (RowP.ent hp2) (all_cons (RowP.ent hg0) (all_cons (RowP.ent hg1) (all_cons (RowP.ent hg2) all_nil))))
  refine wp_conv (a' := ⟨#[.agg (enc .u64 a0).toArray, .int .i64 a1, .slice a2_A a2_n a2_c, .int .i64 a3, .agg (([.int .i64 a4_0] : List Value) ++ enc .u64 a4_1 ++ ([.int .i64 a4_2, .bool a4_3] : List Value)).toArray, undef, undef, undef, undef, undef, undef, undef, undef, undef, undef, undef, undef, undef, undef, undef, undef, undef, undef, undef, undef, undef, undef, undef, undef, undef, undef, undef, undef, undef, undef, undef, undef, undef, undef, undef, undef, undef, undef, undef, undef, undef, undef, undef, undef, undef, undef, undef, undef, undef, undef, undef, undef, undef, undef, undef, undef, undef, undef, undef, undef, undef, undef, undef, undef, undef, undef, undef, undef, undef, undef, undef, undef, undef, undef, undef, undef, undef, undef, undef, undef, undef, undef, undef, undef, undef], []⟩) (by kernel_rfl) ?_
  refine wp_seq_k fun KS1 ks1 => ?_
  refine wp_regS (l := [0, 1, 2]) (by kernel_rfl) fun KR kr => ?_
  refine wpS.only 0 (op_box (t := 23) (v := .agg (enc .u64 a0).toArray) (d := (some 5)) (by kernel_rfl) hs (enc .u64 a0) (by kernel_rfl) (by kernel_rfl) ?_)
  intro b1 w gw hs
  refine ⟨fun _ => trivial, ?_⟩
  refine wpS.only 1 (op_box (t := 25) (v := .agg (([.int .i64 a4_0] : List Value) ++ enc .u64 a4_1 ++ ([.int .i64 a4_2, .bool a4_3] : List Value)).toArray) (d := (some 9)) (by kernel_rfl) hs (([.int .i64 a4_0] : List Value) ++ enc .u64 a4_1 ++ ([.int .i64 a4_2, .bool a4_3] : List Value)) (by kernel_rfl) (by kernel_rfl) ?_)
  intro b2 w gw hs
  refine ⟨fun _ => trivial, ?_⟩
  refine wpS.take 2 false (some 10) (.bool false) (by kernel_rfl) (yld fun _ => by kernel_rfl) ?_
  refine wpS.fin rfl (kr _ _ ?_)
  refine then_n (ks1 _ _ ?_)
  refine wp_seq_k fun KS5 ks5 => ?_
  refine wp_seq_k fun KS6 ks6 => ?_
  refine wp_regS (l := [0, 1, 2, 3, 4, 5, 6, 7, 8, 9, 10]) (by kernel_rfl) fun KR kr => ?_
  refine wpS.take 0 false (some 19) (.slice a2_A a2_n a2_c) (by kernel_rfl) (yld fun _ => by kernel_rfl) ?_
  refine wpS.take 1 false (some 20) (.int .i64 (a2.length : Int)) (by kernel_rfl) (yld_lenL (hs.rowR 0 rfl) (fun _ => by kernel_rfl)) ?_
  rcases of_if h with ⟨hc, h⟩ | ⟨hc, h⟩
  · refine wpS.take 2 false (some 21) (.bool true) (by kernel_rfl) (yld_b (dt hc) (fun _ => by kernel_rfl)) ?_
    refine wpS.take 3 false (some 22) (.bool true) (by kernel_rfl) (yld fun _ => by kernel_rfl) ?_
    refine wpS.take 4 false (some 23) (undef) (by kernel_rfl) (yld fun _ => by kernel_rfl) ?_
    refine wpS.take 5 false (some 24) (undef) (by kernel_rfl) (yld fun _ => by kernel_rfl) ?_
    refine wpS.take 6 false (some 25) (undef) (by kernel_rfl) (yld fun _ => by kernel_rfl) ?_
    refine wpS.take 7 false (some 26) (undef) (by kernel_rfl) (yld fun _ => by kernel_rfl) ?_
    refine wpS.take 8 false (some 27) (undef) (by kernel_rfl) (yld fun _ => by kernel_rfl) ?_
    refine wpS.take 9 false (some 28) (undef) (by kernel_rfl) (yld fun _ => by kernel_rfl) ?_
    refine wpS.take 10 false (some 29) (.bool true) (by kernel_rfl) (yld fun _ => by kernel_rfl) ?_
    refine wpS.fin rfl (kr _ _ ?_)
    refine then_n (ks6 _ _ ?_)
    refine wp_cond_t (by kernel_rfl) ?_
    refine wp_seq_k fun KS7 ks7 => ?_
    refine wp_regS (l := [0, 1]) (by kernel_rfl) fun KR kr => ?_
    obtain ⟨r3, hg, h⟩ := of_bind h
    refine wpS.only 0 (op_call (d := (some 30)) (by kernel_rfl) hs (fun _ => by kernel_rfl) (law08_awake.ok hg _ (hs.rowR 1 rfl) (hs.rowR 2 rfl) (hs.rowR 3 rfl)) ?_)
    intro w gw hs
    refine ⟨fun _ => trivial, ?_⟩
    refine wpS.take 1 false (some 10) (.bool r3) (by kernel_rfl) (yld fun _ => by kernel_rfl) ?_
    refine wpS.fin rfl (kr _ _ ?_)
    refine then_n (ks7 _ _ ?_)
    refine wp_ret ?_
    refine then_r ?_
    have q0 := of_some h
    subst q0
    exact qq _ _ (post_ret (by kernel_rfl) (run_results [.tmp 10] [.bool r3] (by kernel_rfl) (.cons (res_tmp (by kernel_rfl)) .nil)) ⟨congrArg Ending.returned (by kernel_rfl), hs.none⟩)
  · refine wpS.take 2 false (some 21) (.bool false) (by kernel_rfl) (yld_b (df hc) (fun _ => by kernel_rfl)) ?_
    refine wpS.take 3 false (some 22) (.bool false) (by kernel_rfl) (yld fun _ => by kernel_rfl) ?_
    refine wpS.take 4 false (some 23) (.int .i64 a3) (by kernel_rfl) (yld fun _ => by kernel_rfl) ?_
    rcases of_if h with ⟨hc, h⟩ | ⟨hc, h⟩
    · refine wpS.take 5 false (some 24) (.bool true) (by kernel_rfl) (yld_b (dt hc) (fun _ => by kernel_rfl)) ?_
      refine wpS.take 6 false (some 25) (.bool true) (by kernel_rfl) (yld fun _ => by kernel_rfl) ?_
      refine wpS.take 7 false (some 26) (.int .i64 a3) (by kernel_rfl) (yld fun _ => by kernel_rfl) ?_
      rcases of_if h with ⟨hc, h⟩ | ⟨hc, h⟩
      · refine wpS.take 8 false (some 27) (.bool true) (by kernel_rfl) (yld_b (dt hc) (fun _ => by kernel_rfl)) ?_
        refine wpS.take 9 false (some 28) (.bool true) (by kernel_rfl) (yld fun _ => by kernel_rfl) ?_
        refine wpS.take 10 false (some 29) (.bool true) (by kernel_rfl) (yld fun _ => by kernel_rfl) ?_
        refine wpS.fin rfl (kr _ _ ?_)
        refine then_n (ks6 _ _ ?_)
        refine wp_cond_t (by kernel_rfl) ?_
        refine wp_seq_k fun KS8 ks8 => ?_
        refine wp_regS (l := [0, 1]) (by kernel_rfl) fun KR kr => ?_
        obtain ⟨r4, hg, h⟩ := of_bind h
        refine wpS.only 0 (op_call (d := (some 30)) (by kernel_rfl) hs (fun _ => by kernel_rfl) (law08_awake.ok hg _ (hs.rowR 1 rfl) (hs.rowR 2 rfl) (hs.rowR 3 rfl)) ?_)
        intro w gw hs
        refine ⟨fun _ => trivial, ?_⟩
        refine wpS.take 1 false (some 10) (.bool r4) (by kernel_rfl) (yld fun _ => by kernel_rfl) ?_
        refine wpS.fin rfl (kr _ _ ?_)
        refine then_n (ks8 _ _ ?_)
        refine wp_ret ?_
        refine then_r ?_
        have q0 := of_some h
        subst q0
        exact qq _ _ (post_ret (by kernel_rfl) (run_results [.tmp 10] [.bool r4] (by kernel_rfl) (.cons (res_tmp (by kernel_rfl)) .nil)) ⟨congrArg Ending.returned (by kernel_rfl), hs.none⟩)
      · refine wpS.take 8 false (some 27) (.bool false) (by kernel_rfl) (yld_b (df hc) (fun _ => by kernel_rfl)) ?_
        refine wpS.take 9 false (some 28) (.bool false) (by kernel_rfl) (yld fun _ => by kernel_rfl) ?_
        refine wpS.take 10 false (some 29) (.bool false) (by kernel_rfl) (yld fun _ => by kernel_rfl) ?_
        refine wpS.fin rfl (kr _ _ ?_)
        refine then_n (ks6 _ _ ?_)
        refine wp_cond_f (by kernel_rfl) ?_
        refine wp_skip ?_
        refine then_n (ks5 _ _ ?_)
        refine wp_seq_k fun KS9 ks9 => ?_
        refine wp_regS (l := [0, 1, 2, 3, 4, 5, 6, 7, 8]) (by kernel_rfl) fun KR kr => ?_
        refine wpS.take 0 false (some 32) (.int .i64 a1) (by kernel_rfl) (yld fun _ => by kernel_rfl) ?_
        refine wpS.take 1 false (some 33) (.slice a2_A a2_n a2_c) (by kernel_rfl) (yld fun _ => by kernel_rfl) ?_
        refine wpS.take 2 false (some 34) (.int .i64 a3) (by kernel_rfl) (yld fun _ => by kernel_rfl) ?_
        obtain ⟨⟨r5, r6⟩, hg, h⟩ := of_bind h
        refine wpS.only 3 (op_callH (d := (some 35)) (by kernel_rfl) hs (fun _ => by kernel_rfl) (keccak_Sum.ok hg _ (hs.rowR 0 rfl) (hs.rowR 1 rfl) (hs.rowR 2 rfl) (hs.rowR 3 rfl)) ?_)
        rintro ⟨r5_A, r5_n, r5_c⟩ w gw hs
        have hs := hs.conv (L' := [.ownL (CI .u8) r5_A r5_n r5_c r5 5, .blk b2 (([.int .i64 a4_0] : List Value) ++ enc .u64 a4_1 ++ ([.int .i64 a4_2, .bool a4_3] : List Value)) 25, .blk b1 (enc .u64 a0) 23]) rfl
        refine ⟨fun _ => trivial, ?_⟩
        refine wpS.take 4 false (some 31) (.tuple #[.slice r5_A r5_n r5_c, .int .i64 r6]) (by kernel_rfl) (yld fun _ => by kernel_rfl) ?_
        refine wpS.take 5 false (some 36) (.slice r5_A r5_n r5_c) (by kernel_rfl) (yld fun _ => by kernel_rfl) ?_
        refine wpS.take 6 false (some 37) (.int .i64 r6) (by kernel_rfl) (yld fun _ => by kernel_rfl) ?_
        refine wpS.take 7 false (some 11) (.slice r5_A r5_n r5_c) (by kernel_rfl) (yld fun _ => by kernel_rfl) ?_
        refine wpS.take 8 false (some 12) (.int .i64 r6) (by kernel_rfl) (yld fun _ => by kernel_rfl) ?_
        refine wpS.fin rfl (kr _ _ ?_)
        refine then_n (ks9 _ _ ?_)
        refine wp_seq_k fun KS10 ks10 => ?_
        refine wp_regS (l := [0, 1, 2, 3, 4, 5, 6, 7, 8]) (by kernel_rfl) fun KR kr => ?_
        refine wpS.take 0 false (some 39) (.int .i64 a1) (by kernel_rfl) (yld fun _ => by kernel_rfl) ?_
        refine wpS.take 1 false (some 40) (.slice a2_A a2_n a2_c) (by kernel_rfl) (yld fun _ => by kernel_rfl) ?_
        refine wpS.take 2 false (some 41) (.int .i64 a3) (by kernel_rfl) (yld fun _ => by kernel_rfl) ?_
        obtain ⟨⟨r7, r8⟩, hg, h⟩ := of_bind h
        refine wpS.only 3 (op_callH (d := (some 42)) (by kernel_rfl) hs (fun _ => by kernel_rfl) (ref08_Sum.ok hg _ (hs.rowR 0 rfl)) ?_)
        rintro ⟨r7_A, r7_n, r7_c⟩ w gw hs
        have hs := hs.conv (L' := [.ownL (CI .u8) r7_A r7_n r7_c r7 5, .ownL (CI .u8) r5_A r5_n r5_c r5 5, .blk b2 (([.int .i64 a4_0] : List Value) ++ enc .u64 a4_1 ++ ([.int .i64 a4_2, .bool a4_3] : List Value)) 25, .blk b1 (enc .u64 a0) 23]) rfl
        refine ⟨fun _ => trivial, ?_⟩
        refine wpS.take 4 false (some 38) (.tuple #[.slice r7_A r7_n r7_c, .int .i64 r8]) (by kernel_rfl) (yld fun _ => by kernel_rfl) ?_
        refine wpS.take 5 false (some 43) (.slice r7_A r7_n r7_c) (by kernel_rfl) (yld fun _ => by kernel_rfl) ?_
        refine wpS.take 6 false (some 44) (.int .i64 r8) (by kernel_rfl) (yld fun _ => by kernel_rfl) ?_
        refine wpS.take 7 false (some 13) (.slice r7_A r7_n r7_c) (by kernel_rfl) (yld fun _ => by kernel_rfl) ?_
        refine wpS.take 8 false (some 14) (.int .i64 r8) (by kernel_rfl) (yld fun _ => by kernel_rfl) ?_
        refine wpS.fin rfl (kr _ _ ?_)
        refine then_n (ks10 _ _ ?_)
        refine wp_seq_k fun KS11 ks11 => ?_
        refine wp_regS (l := [0, 1, 2, 3, 4, 5, 6, 7]) (by kernel_rfl) fun KR kr => ?_
        refine wpS.take 0 false (some 46) (.int .i64 a1) (by kernel_rfl) (yld fun _ => by kernel_rfl) ?_
        obtain ⟨⟨r9_0, r9_1, r9_2, r9_3, r10⟩, hg, h⟩ := of_bind h
        refine wpS.only 1 (op_call (d := (some 47)) (by kernel_rfl) hs (fun _ => by kernel_rfl) (keccak_New.ok hg _) ?_)
        intro w gw hs
        refine ⟨fun _ => trivial, ?_⟩
        refine wpS.take 2 false (some 45) (.tuple #[.agg (([.int .i64 r9_0] : List Value) ++ enc .u64 r9_1 ++ ([.int .i64 r9_2, .bool r9_3] : List Value)).toArray, .int .i64 r10]) (by kernel_rfl) (yld fun _ => by kernel_rfl) ?_
        refine wpS.take 3 false (some 48) (.agg (([.int .i64 r9_0] : List Value) ++ enc .u64 r9_1 ++ ([.int .i64 r9_2, .bool r9_3] : List Value)).toArray) (by kernel_rfl) (yld fun _ => by kernel_rfl) ?_
        refine wpS.take 4 false (some 49) (.int .i64 r10) (by kernel_rfl) (yld fun _ => by kernel_rfl) ?_
        refine wpS.only 5 (op_alloc (t := 25) (d := (some 15)) (by kernel_rfl) hs (([.int .i64 0] : List Value) ++ enc .u64 (zeroA 25) ++ ([.int .i64 0, .bool false] : List Value)) (.agg (([.int .i64 0] : List Value) ++ enc .u64 (zeroA 25) ++ ([.int .i64 0, .bool false] : List Value)).toArray) (by kernel_rfl) (by kernel_rfl) (by kernel_rfl) ?_)
        intro b11 w gw hs
        refine ⟨fun _ => trivial, ?_⟩
        refine wpS.only 6 (op_storeW (t := 25) (v := .agg (([.int .i64 r9_0] : List Value) ++ enc .u64 r9_1 ++ ([.int .i64 r9_2, .bool r9_3] : List Value)).toArray) (d := none) (by kernel_rfl) hs 0 rfl (vs := ([.int .i64 r9_0] : List Value) ++ enc .u64 r9_1 ++ ([.int .i64 r9_2, .bool r9_3] : List Value)) (n := 28) (by kernel_rfl) (by kernel_rfl) (by kernel_rfl) (by simp [enc_len]) (by simp [enc_len]) (one_app (one_app (by simp [Value.oneCell']) (fun u hu => enc_one _ _ u hu)) (by simp [Value.oneCell'])) ?_)
        intro w kp hs
        refine ⟨fun _ => trivial, ?_⟩
        refine wpS.take 7 false (some 16) (.int .i64 r10) (by kernel_rfl) (yld fun _ => by kernel_rfl) ?_
        refine wpS.fin rfl (kr _ _ ?_)
        refine then_n (ks11 _ _ ?_)
        refine wp_seq_k fun KS12 ks12 => ?_
        refine wp_regS (l := [0, 1, 2, 3, 4, 5, 6, 7]) (by kernel_rfl) fun KR kr => ?_
        refine wpS.take 0 false (some 51) (.int .i64 a1) (by kernel_rfl) (yld fun _ => by kernel_rfl) ?_
        obtain ⟨⟨r12_0, r12_1, r12_2, r12_3, r13⟩, hg, h⟩ := of_bind h
        refine wpS.only 1 (op_call (d := (some 52)) (by kernel_rfl) hs (fun _ => by kernel_rfl) (ref08_New.ok hg _) ?_)
        intro w gw hs
        refine ⟨fun _ => trivial, ?_⟩
        refine wpS.take 2 false (some 50) (.tuple #[.agg (([.int .i64 r12_0] : List Value) ++ enc .u64 r12_1 ++ ([.int .i64 r12_2, .bool r12_3] : List Value)).toArray, .int .i64 r13]) (by kernel_rfl) (yld fun _ => by kernel_rfl) ?_
        refine wpS.take 3 false (some 53) (.agg (([.int .i64 r12_0] : List Value) ++ enc .u64 r12_1 ++ ([.int .i64 r12_2, .bool r12_3] : List Value)).toArray) (by kernel_rfl) (yld fun _ => by kernel_rfl) ?_
        refine wpS.take 4 false (some 54) (.int .i64 r13) (by kernel_rfl) (yld fun _ => by kernel_rfl) ?_
        refine wpS.only 5 (op_alloc (t := 25) (d := (some 17)) (by kernel_rfl) hs (([.int .i64 0] : List Value) ++ enc .u64 (zeroA 25) ++ ([.int .i64 0, .bool false] : List Value)) (.agg (([.int .i64 0] : List Value) ++ enc .u64 (zeroA 25) ++ ([.int .i64 0, .bool false] : List Value)).toArray) (by kernel_rfl) (by kernel_rfl) (by kernel_rfl) ?_)
        intro b14 w gw hs
        refine ⟨fun _ => trivial, ?_⟩
        refine wpS.only 6 (op_storeW (t := 25) (v := .agg (([.int .i64 r12_0] : List Value) ++ enc .u64 r12_1 ++ ([.int .i64 r12_2, .bool r12_3] : List Value)).toArray) (d := none) (by kernel_rfl) hs 0 rfl (vs := ([.int .i64 r12_0] : List Value) ++ enc .u64 r12_1 ++ ([.int .i64 r12_2, .bool r12_3] : List Value)) (n := 28) (by kernel_rfl) (by kernel_rfl) (by kernel_rfl) (by simp [enc_len]) (by simp [enc_len]) (one_app (one_app (by simp [Value.oneCell']) (fun u hu => enc_one _ _ u hu)) (by simp [Value.oneCell'])) ?_)
        intro w kp hs
        refine ⟨fun _ => trivial, ?_⟩
        refine wpS.take 7 false (some 18) (.int .i64 r13) (by kernel_rfl) (yld fun _ => by kernel_rfl) ?_
        refine wpS.fin rfl (kr _ _ ?_)
        refine then_n (ks12 _ _ ?_)
        refine wp_seq_k fun KS13 ks13 => ?_
        refine wp_regG [] (fun k => True) 36 (by kernel_rfl) (by kernel_rfl) fun KR kr => ?_
        have hs := hs.drawn1
        refine wpG.takeD 0 true (some 55) (.agg (enc .u64 a0).toArray) (by kernel_rfl) (by kernel_rfl) (yld_loadW (e := 23) (n := 25) hs 5 rfl (by kernel_rfl) (by kernel_rfl) (by kernel_rfl) (by exact enc_len _ _) .grow) ?_
        refine wpG.takeD 2 true (some 57) (.agg (enc .u64 a0).toArray) (by kernel_rfl) (by kernel_rfl) (yld_loadW (e := 23) (n := 25) hs 5 rfl (by kernel_rfl) (by kernel_rfl) (by kernel_rfl) (by exact enc_len _ _) .grow) ?_
        obtain ⟨r15, hg, h⟩ := of_bind h
        refine wpG.only 1 (by kernel_rfl) (op_call (d := (some 56)) (by kernel_rfl) hs (fun _ => by kernel_rfl) (keccak_Permute.ok hg _ (hs.rowR 1 rfl) (hs.rowR 2 rfl) (hs.rowR 3 rfl)) ?_)
        intro w gw hs
        refine ⟨.of gw, ?_⟩
        obtain ⟨r16, hg, h⟩ := of_bind h
        refine wpG.only 3 (by kernel_rfl) (op_call (d := (some 58)) (by kernel_rfl) hs (fun _ => by kernel_rfl) (ref08_Permute.ok hg _) ?_)
        intro w gw hs
        refine ⟨.of gw, ?_⟩
        rcases of_ifb h with ⟨hc, h⟩ | ⟨hc, h⟩
        · refine wpG.takeD 4 false (some 59) (.bool true) (by kernel_rfl) (by kernel_rfl) (yld_bb hc (yld_eqA (t := 23) (e := 22) (k := .u64) (.tmp 56) (.tmp 58) (by kernel_rfl) (by kernel_rfl) (by kernel_rfl) (by kernel_rfl) (by kernel_rfl) (by kernel_rfl))) ?_
          refine wpG.takeD 5 false (some 60) (.bool true) (by kernel_rfl) (by kernel_rfl) (yld fun _ => by kernel_rfl) ?_
          refine wpG.takeD 6 false (some 61) (.slice r5_A r5_n r5_c) (by kernel_rfl) (by kernel_rfl) (yld fun _ => by kernel_rfl) ?_
          refine wpG.takeD 7 false (some 62) (.slice r7_A r7_n r7_c) (by kernel_rfl) (by kernel_rfl) (yld fun _ => by kernel_rfl) ?_
          obtain ⟨r17, hg, h⟩ := of_bind h
          cases r17 with
          | true =>
            have h := of_if_t h
            refine wpG.only 8 (by kernel_rfl) (op_call (d := (some 63)) (by kernel_rfl) hs (fun _ => by kernel_rfl) (ref01_Same.ok hg _ (hs.rowL 3 rfl) (hs.rowL 2 rfl)) ?_)
            intro w gw hs
            refine ⟨.of gw, ?_⟩
            refine wpG.takeD 9 false (some 64) (.bool true) (by kernel_rfl) (by kernel_rfl) (yld fun _ => by kernel_rfl) ?_
            refine wpG.takeD 10 false (some 65) (.bool true) (by kernel_rfl) (by kernel_rfl) (yld fun _ => by kernel_rfl) ?_
            refine wpG.takeD 11 false (some 66) (.int .i64 r6) (by kernel_rfl) (by kernel_rfl) (yld fun _ => by kernel_rfl) ?_
            refine wpG.takeD 12 false (some 67) (.int .i64 r8) (by kernel_rfl) (by kernel_rfl) (yld fun _ => by kernel_rfl) ?_
            rcases of_if h with ⟨hc, h⟩ | ⟨hc, h⟩
            · refine wpG.takeD 13 false (some 68) (.bool true) (by kernel_rfl) (by kernel_rfl) (yld_b (et hc) (fun _ => by kernel_rfl)) ?_
              refine wpG.takeD 14 false (some 69) (.bool true) (by kernel_rfl) (by kernel_rfl) (yld fun _ => by kernel_rfl) ?_
              refine wpG.takeD 15 false (some 70) (.bool true) (by kernel_rfl) (by kernel_rfl) (yld fun _ => by kernel_rfl) ?_
              refine wpG.takeD 16 true (some 71) (.agg (([.int .i64 r9_0] : List Value) ++ enc .u64 r9_1 ++ ([.int .i64 r9_2, .bool r9_3] : List Value)).toArray) (by kernel_rfl) (by kernel_rfl) (yld_loadW (e := 25) (n := 28) hs 1 rfl (by kernel_rfl) (by kernel_rfl) (by kernel_rfl) (by simp [enc_len]) .grow) ?_
              refine wpG.takeD 17 true (some 72) (.agg (([.int .i64 r12_0] : List Value) ++ enc .u64 r12_1 ++ ([.int .i64 r12_2, .bool r12_3] : List Value)).toArray) (by kernel_rfl) (by kernel_rfl) (yld_loadW (e := 25) (n := 28) hs 0 rfl (by kernel_rfl) (by kernel_rfl) (by kernel_rfl) (by simp [enc_len]) .grow) ?_
              rcases of_ifb h with ⟨hc, h⟩ | ⟨hc, h⟩
              · refine wpG.takeD 18 false (some 73) (.bool true) (by kernel_rfl) (by kernel_rfl) (yld_bb hc (yld_eqS (fs := [Field.mk "Kind" 3 0 false "" "" 0, Field.mk "Words" 23 1 false "" "" 8, Field.mk "At" 3 26 false "" "" 208, Field.mk "Out" 4 27 false "" "" 216]) (xs := ([.int .i64 r9_0] : List Value) ++ enc .u64 r9_1 ++ ([.int .i64 r9_2, .bool r9_3] : List Value)) (ys := ([.int .i64 r12_0] : List Value) ++ enc .u64 r12_1 ++ ([.int .i64 r12_2, .bool r12_3] : List Value)) (t := 25) (.tmp 71) (.tmp 72) (by kernel_rfl) (by kernel_rfl) (by kernel_rfl) (by kernel_rfl) (.cons rfl (fun w => Go.Mx.run_part1 (by kernel_rfl) (List.getElem?_toArray.trans (get_pre rfl))) (fun w => Go.Mx.run_part1 (by kernel_rfl) (List.getElem?_toArray.trans (get_pre rfl))) (fun w => Go.Mx.run_equalIn_int (by kernel_rfl)) (.cons rfl (fun w => Go.Mx.run_partN (by kernel_rfl) (by kernel_rfl) (mid_of rfl)) (fun w => Go.Mx.run_partN (by kernel_rfl) (by kernel_rfl) (mid_of rfl)) (fun w => Go.Mx.run_equalA (e := 22) (by kernel_rfl) (by kernel_rfl) (by kernel_rfl) (by kernel_rfl)) (.cons rfl (fun w => Go.Mx.run_part1 (by kernel_rfl) (List.getElem?_toArray.trans (get_post 0 rfl rfl))) (fun w => Go.Mx.run_part1 (by kernel_rfl) (List.getElem?_toArray.trans (get_post 0 rfl rfl))) (fun w => Go.Mx.run_equalIn_int (by kernel_rfl)) (.cons rfl (fun w => Go.Mx.run_part1 (by kernel_rfl) (List.getElem?_toArray.trans (get_post 1 rfl rfl))) (fun w => Go.Mx.run_part1 (by kernel_rfl) (List.getElem?_toArray.trans (get_post 1 rfl rfl))) (fun w => Go.Mx.run_equalIn_bool (by kernel_rfl)) .nil)))))) ?_
                refine wpG.takeD 19 false (some 74) (.bool true) (by kernel_rfl) (by kernel_rfl) (yld fun _ => by kernel_rfl) ?_
                refine wpG.takeD 20 false (some 75) (.bool true) (by kernel_rfl) (by kernel_rfl) (yld fun _ => by kernel_rfl) ?_
                refine wpG.takeD 21 false (some 76) (.int .i64 r10) (by kernel_rfl) (by kernel_rfl) (yld fun _ => by kernel_rfl) ?_
                refine wpG.takeD 22 false (some 77) (.int .i64 r13) (by kernel_rfl) (by kernel_rfl) (yld fun _ => by kernel_rfl) ?_
                rcases of_if h with ⟨hc, h⟩ | ⟨hc, h⟩
                · refine wpG.takeD 23 false (some 78) (.bool true) (by kernel_rfl) (by kernel_rfl) (yld_b (et hc) (fun _ => by kernel_rfl)) ?_
                  refine wpG.takeD 24 false (some 79) (.bool true) (by kernel_rfl) (by kernel_rfl) (yld fun _ => by kernel_rfl) ?_
                  refine wpG.takeD 25 false (some 80) (.bool true) (by kernel_rfl) (by kernel_rfl) (yld fun _ => by kernel_rfl) ?_
                  refine wpG.takeD 26 true (some 81) (.agg (([.int .i64 a4_0] : List Value) ++ enc .u64 a4_1 ++ ([.int .i64 a4_2, .bool a4_3] : List Value)).toArray) (by kernel_rfl) (by kernel_rfl) (yld_loadW (e := 25) (n := 28) hs 4 rfl (by kernel_rfl) (by kernel_rfl) (by kernel_rfl) (by simp [enc_len]) .grow) ?_
                  refine wpG.takeD 28 true (some 83) (.agg (([.int .i64 a4_0] : List Value) ++ enc .u64 a4_1 ++ ([.int .i64 a4_2, .bool a4_3] : List Value)).toArray) (by kernel_rfl) (by kernel_rfl) (yld_loadW (e := 25) (n := 28) hs 4 rfl (by kernel_rfl) (by kernel_rfl) (by kernel_rfl) (by simp [enc_len]) .grow) ?_
                  obtain ⟨r18, hg, h⟩ := of_bind h
                  refine wpG.only 27 (by kernel_rfl) (op_call (d := (some 82)) (by kernel_rfl) hs (fun _ => by kernel_rfl) (keccak_Fit.ok hg _) ?_)
                  intro w gw hs
                  refine ⟨.of gw, ?_⟩
                  obtain ⟨r19, hg, h⟩ := of_bind h
                  refine wpG.only 29 (by kernel_rfl) (op_call (d := (some 84)) (by kernel_rfl) hs (fun _ => by kernel_rfl) (ref08_Fit.ok hg _) ?_)
                  intro w gw hs
                  refine ⟨.of gw, ?_⟩
                  rcases of_ifb h with ⟨hc, h⟩ | ⟨hc, h⟩
                  · refine wpG.takeD 30 false (some 85) (.bool true) (by kernel_rfl) (by kernel_rfl) (yld_b hc (fun _ => by kernel_rfl)) ?_
                    refine wpG.takeD 31 false (some 86) (.bool true) (by kernel_rfl) (by kernel_rfl) (yld fun _ => by kernel_rfl) ?_
                    refine wpG.takeD 32 false (some 87) (.bool true) (by kernel_rfl) (by kernel_rfl) (yld fun _ => by kernel_rfl) ?_
                    obtain ⟨r20, hg, h⟩ := of_bind h
                    refine wpG.only 33 (by kernel_rfl) (op_call (d := (some 88)) (by kernel_rfl) hs (fun _ => by kernel_rfl) (law08_awake.ok hg _ (hs.rowR 1 rfl) (hs.rowR 2 rfl) (hs.rowR 3 rfl)) ?_)
                    intro w gw hs
                    refine ⟨.of gw, ?_⟩
                    refine wpG.takeD 34 false (some 89) (.bool r20) (by kernel_rfl) (by kernel_rfl) (yld fun _ => by kernel_rfl) ?_
                    refine wpG.takeD 35 false (some 10) (.bool r20) (by kernel_rfl) (by kernel_rfl) (yld fun _ => by kernel_rfl) ?_
                    refine wpG.fin (by kernel_rfl) rfl (kr _ _ ?_)
                    refine then_n (ks13 _ _ ?_)
                    refine wp_ret ?_
                    have q0 := of_some h
                    subst q0
                    exact qq _ _ (post_ret (by kernel_rfl) (run_results [.tmp 10] [.bool r20] (by kernel_rfl) (.cons (res_tmp (by kernel_rfl)) .nil)) ⟨congrArg Ending.returned (by kernel_rfl), hs.none⟩)
                  · refine wpG.takeD 30 false (some 85) (.bool false) (by kernel_rfl) (by kernel_rfl) (yld_b hc (fun _ => by kernel_rfl)) ?_
                    refine wpG.takeD 31 false (some 86) (.bool false) (by kernel_rfl) (by kernel_rfl) (yld fun _ => by kernel_rfl) ?_
                    refine wpG.takeD 32 false (some 87) (.bool false) (by kernel_rfl) (by kernel_rfl) (yld fun _ => by kernel_rfl) ?_
                    refine wpG.takeD 33 false (some 88) (undef) (by kernel_rfl) (by kernel_rfl) (yld fun _ => by kernel_rfl) ?_
                    refine wpG.takeD 34 false (some 89) (.bool false) (by kernel_rfl) (by kernel_rfl) (yld fun _ => by kernel_rfl) ?_
                    refine wpG.takeD 35 false (some 10) (.bool false) (by kernel_rfl) (by kernel_rfl) (yld fun _ => by kernel_rfl) ?_
                    refine wpG.fin (by kernel_rfl) rfl (kr _ _ ?_)
                    refine then_n (ks13 _ _ ?_)
                    refine wp_ret ?_
                    have q0 := of_some h
                    subst q0
                    exact qq _ _ (post_ret (by kernel_rfl) (run_results [.tmp 10] [.bool false] (by kernel_rfl) (.cons (res_tmp (by kernel_rfl)) .nil)) ⟨congrArg Ending.returned (by kernel_rfl), hs.none⟩)
                · refine wpG.takeD 23 false (some 78) (.bool false) (by kernel_rfl) (by kernel_rfl) (yld_b (ef hc) (fun _ => by kernel_rfl)) ?_
                  refine wpG.takeD 24 false (some 79) (.bool false) (by kernel_rfl) (by kernel_rfl) (yld fun _ => by kernel_rfl) ?_
                  refine wpG.takeD 25 false (some 80) (.bool false) (by kernel_rfl) (by kernel_rfl) (yld fun _ => by kernel_rfl) ?_
                  refine wpG.takeD 26 false (some 81) (undef) (by kernel_rfl) (by kernel_rfl) (yld fun _ => by kernel_rfl) ?_
                  refine wpG.takeD 28 false (some 83) (undef) (by kernel_rfl) (by kernel_rfl) (yld fun _ => by kernel_rfl) ?_
                  refine wpG.takeD 27 false (some 82) (undef) (by kernel_rfl) (by kernel_rfl) (yld fun _ => by kernel_rfl) ?_
                  refine wpG.takeD 29 false (some 84) (undef) (by kernel_rfl) (by kernel_rfl) (yld fun _ => by kernel_rfl) ?_
                  refine wpG.takeD 30 false (some 85) (undef) (by kernel_rfl) (by kernel_rfl) (yld fun _ => by kernel_rfl) ?_
                  refine wpG.takeD 31 false (some 86) (.bool false) (by kernel_rfl) (by kernel_rfl) (yld fun _ => by kernel_rfl) ?_
                  refine wpG.takeD 32 false (some 87) (.bool false) (by kernel_rfl) (by kernel_rfl) (yld fun _ => by kernel_rfl) ?_
                  refine wpG.takeD 33 false (some 88) (undef) (by kernel_rfl) (by kernel_rfl) (yld fun _ => by kernel_rfl) ?_
                  refine wpG.takeD 34 false (some 89) (.bool false) (by kernel_rfl) (by kernel_rfl) (yld fun _ => by kernel_rfl) ?_
                  refine wpG.takeD 35 false (some 10) (.bool false) (by kernel_rfl) (by kernel_rfl) (yld fun _ => by kernel_rfl) ?_
                  refine wpG.fin (by kernel_rfl) rfl (kr _ _ ?_)
                  refine then_n (ks13 _ _ ?_)
                  refine wp_ret ?_
                  have q0 := of_some h
                  subst q0
                  exact qq _ _ (post_ret (by kernel_rfl) (run_results [.tmp 10] [.bool false] (by kernel_rfl) (.cons (res_tmp (by kernel_rfl)) .nil)) ⟨congrArg Ending.returned (by kernel_rfl), hs.none⟩)
              · refine wpG.takeD 18 false (some 73) (.bool false) (by kernel_rfl) (by kernel_rfl) (yld_bb hc (yld_eqS (fs := [Field.mk "Kind" 3 0 false "" "" 0, Field.mk "Words" 23 1 false "" "" 8, Field.mk "At" 3 26 false "" "" 208, Field.mk "Out" 4 27 false "" "" 216]) (xs := ([.int .i64 r9_0] : List Value) ++ enc .u64 r9_1 ++ ([.int .i64 r9_2, .bool r9_3] : List Value)) (ys := ([.int .i64 r12_0] : List Value) ++ enc .u64 r12_1 ++ ([.int .i64 r12_2, .bool r12_3] : List Value)) (t := 25) (.tmp 71) (.tmp 72) (by kernel_rfl) (by kernel_rfl) (by kernel_rfl) (by kernel_rfl) (.cons rfl (fun w => Go.Mx.run_part1 (by kernel_rfl) (List.getElem?_toArray.trans (get_pre rfl))) (fun w => Go.Mx.run_part1 (by kernel_rfl) (List.getElem?_toArray.trans (get_pre rfl))) (fun w => Go.Mx.run_equalIn_int (by kernel_rfl)) (.cons rfl (fun w => Go.Mx.run_partN (by kernel_rfl) (by kernel_rfl) (mid_of rfl)) (fun w => Go.Mx.run_partN (by kernel_rfl) (by kernel_rfl) (mid_of rfl)) (fun w => Go.Mx.run_equalA (e := 22) (by kernel_rfl) (by kernel_rfl) (by kernel_rfl) (by kernel_rfl)) (.cons rfl (fun w => Go.Mx.run_part1 (by kernel_rfl) (List.getElem?_toArray.trans (get_post 0 rfl rfl))) (fun w => Go.Mx.run_part1 (by kernel_rfl) (List.getElem?_toArray.trans (get_post 0 rfl rfl))) (fun w => Go.Mx.run_equalIn_int (by kernel_rfl)) (.cons rfl (fun w => Go.Mx.run_part1 (by kernel_rfl) (List.getElem?_toArray.trans (get_post 1 rfl rfl))) (fun w => Go.Mx.run_part1 (by kernel_rfl) (List.getElem?_toArray.trans (get_post 1 rfl rfl))) (fun w => Go.Mx.run_equalIn_bool (by kernel_rfl)) .nil)))))) ?_
                refine wpG.takeD 19 false (some 74) (.bool false) (by kernel_rfl) (by kernel_rfl) (yld fun _ => by kernel_rfl) ?_
                refine wpG.takeD 20 false (some 75) (.bool false) (by kernel_rfl) (by kernel_rfl) (yld fun _ => by kernel_rfl) ?_
                refine wpG.takeD 21 false (some 76) (undef) (by kernel_rfl) (by kernel_rfl) (yld fun _ => by kernel_rfl) ?_
                refine wpG.takeD 22 false (some 77) (undef) (by kernel_rfl) (by kernel_rfl) (yld fun _ => by kernel_rfl) ?_
                refine wpG.takeD 23 false (some 78) (undef) (by kernel_rfl) (by kernel_rfl) (yld fun _ => by kernel_rfl) ?_
                refine wpG.takeD 24 false (some 79) (.bool false) (by kernel_rfl) (by kernel_rfl) (yld fun _ => by kernel_rfl) ?_
                refine wpG.takeD 25 false (some 80) (.bool false) (by kernel_rfl) (by kernel_rfl) (yld fun _ => by kernel_rfl) ?_
                refine wpG.takeD 26 false (some 81) (undef) (by kernel_rfl) (by kernel_rfl) (yld fun _ => by kernel_rfl) ?_
                refine wpG.takeD 28 false (some 83) (undef) (by kernel_rfl) (by kernel_rfl) (yld fun _ => by kernel_rfl) ?_
                refine wpG.takeD 27 false (some 82) (undef) (by kernel_rfl) (by kernel_rfl) (yld fun _ => by kernel_rfl) ?_
                refine wpG.takeD 29 false (some 84) (undef) (by kernel_rfl) (by kernel_rfl) (yld fun _ => by kernel_rfl) ?_
                refine wpG.takeD 30 false (some 85) (undef) (by kernel_rfl) (by kernel_rfl) (yld fun _ => by kernel_rfl) ?_
                refine wpG.takeD 31 false (some 86) (.bool false) (by kernel_rfl) (by kernel_rfl) (yld fun _ => by kernel_rfl) ?_
                refine wpG.takeD 32 false (some 87) (.bool false) (by kernel_rfl) (by kernel_rfl) (yld fun _ => by kernel_rfl) ?_
                refine wpG.takeD 33 false (some 88) (undef) (by kernel_rfl) (by kernel_rfl) (yld fun _ => by kernel_rfl) ?_
                refine wpG.takeD 34 false (some 89) (.bool false) (by kernel_rfl) (by kernel_rfl) (yld fun _ => by kernel_rfl) ?_
                refine wpG.takeD 35 false (some 10) (.bool false) (by kernel_rfl) (by kernel_rfl) (yld fun _ => by kernel_rfl) ?_
                refine wpG.fin (by kernel_rfl) rfl (kr _ _ ?_)
                refine then_n (ks13 _ _ ?_)
                refine wp_ret ?_
                have q0 := of_some h
                subst q0
                exact qq _ _ (post_ret (by kernel_rfl) (run_results [.tmp 10] [.bool false] (by kernel_rfl) (.cons (res_tmp (by kernel_rfl)) .nil)) ⟨congrArg Ending.returned (by kernel_rfl), hs.none⟩)
            · refine wpG.takeD 13 false (some 68) (.bool false) (by kernel_rfl) (by kernel_rfl) (yld_b (ef hc) (fun _ => by kernel_rfl)) ?_
              refine wpG.takeD 14 false (some 69) (.bool false) (by kernel_rfl) (by kernel_rfl) (yld fun _ => by kernel_rfl) ?_
              refine wpG.takeD 15 false (some 70) (.bool false) (by kernel_rfl) (by kernel_rfl) (yld fun _ => by kernel_rfl) ?_
              refine wpG.takeD 16 false (some 71) (undef) (by kernel_rfl) (by kernel_rfl) (yld fun _ => by kernel_rfl) ?_
              refine wpG.takeD 17 false (some 72) (undef) (by kernel_rfl) (by kernel_rfl) (yld fun _ => by kernel_rfl) ?_
              refine wpG.takeD 18 false (some 73) (undef) (by kernel_rfl) (by kernel_rfl) (yld fun _ => by kernel_rfl) ?_
              refine wpG.takeD 19 false (some 74) (.bool false) (by kernel_rfl) (by kernel_rfl) (yld fun _ => by kernel_rfl) ?_
              refine wpG.takeD 20 false (some 75) (.bool false) (by kernel_rfl) (by kernel_rfl) (yld fun _ => by kernel_rfl) ?_
              refine wpG.takeD 21 false (some 76) (undef) (by kernel_rfl) (by kernel_rfl) (yld fun _ => by kernel_rfl) ?_
              refine wpG.takeD 22 false (some 77) (undef) (by kernel_rfl) (by kernel_rfl) (yld fun _ => by kernel_rfl) ?_
              refine wpG.takeD 23 false (some 78) (undef) (by kernel_rfl) (by kernel_rfl) (yld fun _ => by kernel_rfl) ?_
              refine wpG.takeD 24 false (some 79) (.bool false) (by kernel_rfl) (by kernel_rfl) (yld fun _ => by kernel_rfl) ?_
              refine wpG.takeD 25 false (some 80) (.bool false) (by kernel_rfl) (by kernel_rfl) (yld fun _ => by kernel_rfl) ?_
              refine wpG.takeD 26 false (some 81) (undef) (by kernel_rfl) (by kernel_rfl) (yld fun _ => by kernel_rfl) ?_
              refine wpG.takeD 28 false (some 83) (undef) (by kernel_rfl) (by kernel_rfl) (yld fun _ => by kernel_rfl) ?_
              refine wpG.takeD 27 false (some 82) (undef) (by kernel_rfl) (by kernel_rfl) (yld fun _ => by kernel_rfl) ?_
              refine wpG.takeD 29 false (some 84) (undef) (by kernel_rfl) (by kernel_rfl) (yld fun _ => by kernel_rfl) ?_
              refine wpG.takeD 30 false (some 85) (undef) (by kernel_rfl) (by kernel_rfl) (yld fun _ => by kernel_rfl) ?_
              refine wpG.takeD 31 false (some 86) (.bool false) (by kernel_rfl) (by kernel_rfl) (yld fun _ => by kernel_rfl) ?_
              refine wpG.takeD 32 false (some 87) (.bool false) (by kernel_rfl) (by kernel_rfl) (yld fun _ => by kernel_rfl) ?_
              refine wpG.takeD 33 false (some 88) (undef) (by kernel_rfl) (by kernel_rfl) (yld fun _ => by kernel_rfl) ?_
              refine wpG.takeD 34 false (some 89) (.bool false) (by kernel_rfl) (by kernel_rfl) (yld fun _ => by kernel_rfl) ?_
              refine wpG.takeD 35 false (some 10) (.bool false) (by kernel_rfl) (by kernel_rfl) (yld fun _ => by kernel_rfl) ?_
              refine wpG.fin (by kernel_rfl) rfl (kr _ _ ?_)
              refine then_n (ks13 _ _ ?_)
              refine wp_ret ?_
              have q0 := of_some h
              subst q0
              exact qq _ _ (post_ret (by kernel_rfl) (run_results [.tmp 10] [.bool false] (by kernel_rfl) (.cons (res_tmp (by kernel_rfl)) .nil)) ⟨congrArg Ending.returned (by kernel_rfl), hs.none⟩)
          | false =>
            have h := of_if_f h
            refine wpG.only 8 (by kernel_rfl) (op_call (d := (some 63)) (by kernel_rfl) hs (fun _ => by kernel_rfl) (ref01_Same.ok hg _ (hs.rowL 3 rfl) (hs.rowL 2 rfl)) ?_)
            intro w gw hs
            refine ⟨.of gw, ?_⟩
            refine wpG.takeD 9 false (some 64) (.bool false) (by kernel_rfl) (by kernel_rfl) (yld fun _ => by kernel_rfl) ?_
            refine wpG.takeD 10 false (some 65) (.bool false) (by kernel_rfl) (by kernel_rfl) (yld fun _ => by kernel_rfl) ?_
            refine wpG.takeD 11 false (some 66) (undef) (by kernel_rfl) (by kernel_rfl) (yld fun _ => by kernel_rfl) ?_
            refine wpG.takeD 12 false (some 67) (undef) (by kernel_rfl) (by kernel_rfl) (yld fun _ => by kernel_rfl) ?_
            refine wpG.takeD 13 false (some 68) (undef) (by kernel_rfl) (by kernel_rfl) (yld fun _ => by kernel_rfl) ?_
            refine wpG.takeD 14 false (some 69) (.bool false) (by kernel_rfl) (by kernel_rfl) (yld fun _ => by kernel_rfl) ?_
            refine wpG.takeD 15 false (some 70) (.bool false) (by kernel_rfl) (by kernel_rfl) (yld fun _ => by kernel_rfl) ?_
            refine wpG.takeD 16 false (some 71) (undef) (by kernel_rfl) (by kernel_rfl) (yld fun _ => by kernel_rfl) ?_
            refine wpG.takeD 17 false (some 72) (undef) (by kernel_rfl) (by kernel_rfl) (yld fun _ => by kernel_rfl) ?_
            refine wpG.takeD 18 false (some 73) (undef) (by kernel_rfl) (by kernel_rfl) (yld fun _ => by kernel_rfl) ?_
            refine wpG.takeD 19 false (some 74) (.bool false) (by kernel_rfl) (by kernel_rfl) (yld fun _ => by kernel_rfl) ?_
            refine wpG.takeD 20 false (some 75) (.bool false) (by kernel_rfl) (by kernel_rfl) (yld fun _ => by kernel_rfl) ?_
            refine wpG.takeD 21 false (some 76) (undef) (by kernel_rfl) (by kernel_rfl) (yld fun _ => by kernel_rfl) ?_
            refine wpG.takeD 22 false (some 77) (undef) (by kernel_rfl) (by kernel_rfl) (yld fun _ => by kernel_rfl) ?_
            refine wpG.takeD 23 false (some 78) (undef) (by kernel_rfl) (by kernel_rfl) (yld fun _ => by kernel_rfl) ?_
            refine wpG.takeD 24 false (some 79) (.bool false) (by kernel_rfl) (by kernel_rfl) (yld fun _ => by kernel_rfl) ?_
            refine wpG.takeD 25 false (some 80) (.bool false) (by kernel_rfl) (by kernel_rfl) (yld fun _ => by kernel_rfl) ?_
            refine wpG.takeD 26 false (some 81) (undef) (by kernel_rfl) (by kernel_rfl) (yld fun _ => by kernel_rfl) ?_
            refine wpG.takeD 28 false (some 83) (undef) (by kernel_rfl) (by kernel_rfl) (yld fun _ => by kernel_rfl) ?_
            refine wpG.takeD 27 false (some 82) (undef) (by kernel_rfl) (by kernel_rfl) (yld fun _ => by kernel_rfl) ?_
            refine wpG.takeD 29 false (some 84) (undef) (by kernel_rfl) (by kernel_rfl) (yld fun _ => by kernel_rfl) ?_
            refine wpG.takeD 30 false (some 85) (undef) (by kernel_rfl) (by kernel_rfl) (yld fun _ => by kernel_rfl) ?_
            refine wpG.takeD 31 false (some 86) (.bool false) (by kernel_rfl) (by kernel_rfl) (yld fun _ => by kernel_rfl) ?_
            refine wpG.takeD 32 false (some 87) (.bool false) (by kernel_rfl) (by kernel_rfl) (yld fun _ => by kernel_rfl) ?_
            refine wpG.takeD 33 false (some 88) (undef) (by kernel_rfl) (by kernel_rfl) (yld fun _ => by kernel_rfl) ?_
            refine wpG.takeD 34 false (some 89) (.bool false) (by kernel_rfl) (by kernel_rfl) (yld fun _ => by kernel_rfl) ?_
            refine wpG.takeD 35 false (some 10) (.bool false) (by kernel_rfl) (by kernel_rfl) (yld fun _ => by kernel_rfl) ?_
            refine wpG.fin (by kernel_rfl) rfl (kr _ _ ?_)
            refine then_n (ks13 _ _ ?_)
            refine wp_ret ?_
            have q0 := of_some h
            subst q0
            exact qq _ _ (post_ret (by kernel_rfl) (run_results [.tmp 10] [.bool false] (by kernel_rfl) (.cons (res_tmp (by kernel_rfl)) .nil)) ⟨congrArg Ending.returned (by kernel_rfl), hs.none⟩)
        · refine wpG.takeD 4 false (some 59) (.bool false) (by kernel_rfl) (by kernel_rfl) (yld_bb hc (yld_eqA (t := 23) (e := 22) (k := .u64) (.tmp 56) (.tmp 58) (by kernel_rfl) (by kernel_rfl) (by kernel_rfl) (by kernel_rfl) (by kernel_rfl) (by kernel_rfl))) ?_
          refine wpG.takeD 5 false (some 60) (.bool false) (by kernel_rfl) (by kernel_rfl) (yld fun _ => by kernel_rfl) ?_
          refine wpG.takeD 6 false (some 61) (undef) (by kernel_rfl) (by kernel_rfl) (yld fun _ => by kernel_rfl) ?_
          refine wpG.takeD 7 false (some 62) (undef) (by kernel_rfl) (by kernel_rfl) (yld fun _ => by kernel_rfl) ?_
          refine wpG.takeD 8 false (some 63) (undef) (by kernel_rfl) (by kernel_rfl) (yld fun _ => by kernel_rfl) ?_
          refine wpG.takeD 9 false (some 64) (.bool false) (by kernel_rfl) (by kernel_rfl) (yld fun _ => by kernel_rfl) ?_
          refine wpG.takeD 10 false (some 65) (.bool false) (by kernel_rfl) (by kernel_rfl) (yld fun _ => by kernel_rfl) ?_
          refine wpG.takeD 11 false (some 66) (undef) (by kernel_rfl) (by kernel_rfl) (yld fun _ => by kernel_rfl) ?_
          refine wpG.takeD 12 false (some 67) (undef) (by kernel_rfl) (by kernel_rfl) (yld fun _ => by kernel_rfl) ?_
          refine wpG.takeD 13 false (some 68) (undef) (by kernel_rfl) (by kernel_rfl) (yld fun _ => by kernel_rfl) ?_
          refine wpG.takeD 14 false (some 69) (.bool false) (by kernel_rfl) (by kernel_rfl) (yld fun _ => by kernel_rfl) ?_
          refine wpG.takeD 15 false (some 70) (.bool false) (by kernel_rfl) (by kernel_rfl) (yld fun _ => by kernel_rfl) ?_
          refine wpG.takeD 16 false (some 71) (undef) (by kernel_rfl) (by kernel_rfl) (yld fun _ => by kernel_rfl) ?_
          refine wpG.takeD 17 false (some 72) (undef) (by kernel_rfl) (by kernel_rfl) (yld fun _ => by kernel_rfl) ?_
          refine wpG.takeD 18 false (some 73) (undef) (by kernel_rfl) (by kernel_rfl) (yld fun _ => by kernel_rfl) ?_
          refine wpG.takeD 19 false (some 74) (.bool false) (by kernel_rfl) (by kernel_rfl) (yld fun _ => by kernel_rfl) ?_
          refine wpG.takeD 20 false (some 75) (.bool false) (by kernel_rfl) (by kernel_rfl) (yld fun _ => by kernel_rfl) ?_
          refine wpG.takeD 21 false (some 76) (undef) (by kernel_rfl) (by kernel_rfl) (yld fun _ => by kernel_rfl) ?_
          refine wpG.takeD 22 false (some 77) (undef) (by kernel_rfl) (by kernel_rfl) (yld fun _ => by kernel_rfl) ?_
          refine wpG.takeD 23 false (some 78) (undef) (by kernel_rfl) (by kernel_rfl) (yld fun _ => by kernel_rfl) ?_
          refine wpG.takeD 24 false (some 79) (.bool false) (by kernel_rfl) (by kernel_rfl) (yld fun _ => by kernel_rfl) ?_
          refine wpG.takeD 25 false (some 80) (.bool false) (by kernel_rfl) (by kernel_rfl) (yld fun _ => by kernel_rfl) ?_
          refine wpG.takeD 26 false (some 81) (undef) (by kernel_rfl) (by kernel_rfl) (yld fun _ => by kernel_rfl) ?_
          refine wpG.takeD 28 false (some 83) (undef) (by kernel_rfl) (by kernel_rfl) (yld fun _ => by kernel_rfl) ?_
          refine wpG.takeD 27 false (some 82) (undef) (by kernel_rfl) (by kernel_rfl) (yld fun _ => by kernel_rfl) ?_
          refine wpG.takeD 29 false (some 84) (undef) (by kernel_rfl) (by kernel_rfl) (yld fun _ => by kernel_rfl) ?_
          refine wpG.takeD 30 false (some 85) (undef) (by kernel_rfl) (by kernel_rfl) (yld fun _ => by kernel_rfl) ?_
          refine wpG.takeD 31 false (some 86) (.bool false) (by kernel_rfl) (by kernel_rfl) (yld fun _ => by kernel_rfl) ?_
          refine wpG.takeD 32 false (some 87) (.bool false) (by kernel_rfl) (by kernel_rfl) (yld fun _ => by kernel_rfl) ?_
          refine wpG.takeD 33 false (some 88) (undef) (by kernel_rfl) (by kernel_rfl) (yld fun _ => by kernel_rfl) ?_
          refine wpG.takeD 34 false (some 89) (.bool false) (by kernel_rfl) (by kernel_rfl) (yld fun _ => by kernel_rfl) ?_
          refine wpG.takeD 35 false (some 10) (.bool false) (by kernel_rfl) (by kernel_rfl) (yld fun _ => by kernel_rfl) ?_
          refine wpG.fin (by kernel_rfl) rfl (kr _ _ ?_)
          refine then_n (ks13 _ _ ?_)
          refine wp_ret ?_
          have q0 := of_some h
          subst q0
          exact qq _ _ (post_ret (by kernel_rfl) (run_results [.tmp 10] [.bool false] (by kernel_rfl) (.cons (res_tmp (by kernel_rfl)) .nil)) ⟨congrArg Ending.returned (by kernel_rfl), hs.none⟩)
    · refine wpS.take 5 false (some 24) (.bool false) (by kernel_rfl) (yld_b (df hc) (fun _ => by kernel_rfl)) ?_
      refine wpS.take 6 false (some 25) (.bool false) (by kernel_rfl) (yld fun _ => by kernel_rfl) ?_
      refine wpS.take 7 false (some 26) (undef) (by kernel_rfl) (yld fun _ => by kernel_rfl) ?_
      refine wpS.take 8 false (some 27) (undef) (by kernel_rfl) (yld fun _ => by kernel_rfl) ?_
      refine wpS.take 9 false (some 28) (.bool false) (by kernel_rfl) (yld fun _ => by kernel_rfl) ?_
      refine wpS.take 10 false (some 29) (.bool false) (by kernel_rfl) (yld fun _ => by kernel_rfl) ?_
      refine wpS.fin rfl (kr _ _ ?_)
      refine then_n (ks6 _ _ ?_)
      refine wp_cond_f (by kernel_rfl) ?_
      refine wp_skip ?_
      refine then_n (ks5 _ _ ?_)
      refine wp_seq_k fun KS14 ks14 => ?_
      refine wp_regS (l := [0, 1, 2, 3, 4, 5, 6, 7, 8]) (by kernel_rfl) fun KR kr => ?_
      refine wpS.take 0 false (some 32) (.int .i64 a1) (by kernel_rfl) (yld fun _ => by kernel_rfl) ?_
      refine wpS.take 1 false (some 33) (.slice a2_A a2_n a2_c) (by kernel_rfl) (yld fun _ => by kernel_rfl) ?_
      refine wpS.take 2 false (some 34) (.int .i64 a3) (by kernel_rfl) (yld fun _ => by kernel_rfl) ?_
      obtain ⟨⟨r21, r22⟩, hg, h⟩ := of_bind h
      refine wpS.only 3 (op_callH (d := (some 35)) (by kernel_rfl) hs (fun _ => by kernel_rfl) (keccak_Sum.ok hg _ (hs.rowR 0 rfl) (hs.rowR 1 rfl) (hs.rowR 2 rfl) (hs.rowR 3 rfl)) ?_)
      rintro ⟨r21_A, r21_n, r21_c⟩ w gw hs
      have hs := hs.conv (L' := [.ownL (CI .u8) r21_A r21_n r21_c r21 5, .blk b2 (([.int .i64 a4_0] : List Value) ++ enc .u64 a4_1 ++ ([.int .i64 a4_2, .bool a4_3] : List Value)) 25, .blk b1 (enc .u64 a0) 23]) rfl
      refine ⟨fun _ => trivial, ?_⟩
      refine wpS.take 4 false (some 31) (.tuple #[.slice r21_A r21_n r21_c, .int .i64 r22]) (by kernel_rfl) (yld fun _ => by kernel_rfl) ?_
      refine wpS.take 5 false (some 36) (.slice r21_A r21_n r21_c) (by kernel_rfl) (yld fun _ => by kernel_rfl) ?_
      refine wpS.take 6 false (some 37) (.int .i64 r22) (by kernel_rfl) (yld fun _ => by kernel_rfl) ?_
      refine wpS.take 7 false (some 11) (.slice r21_A r21_n r21_c) (by kernel_rfl) (yld fun _ => by kernel_rfl) ?_
      refine wpS.take 8 false (some 12) (.int .i64 r22) (by kernel_rfl) (yld fun _ => by kernel_rfl) ?_
      refine wpS.fin rfl (kr _ _ ?_)
      refine then_n (ks14 _ _ ?_)
      refine wp_seq_k fun KS15 ks15 => ?_
      refine wp_regS (l := [0, 1, 2, 3, 4, 5, 6, 7, 8]) (by kernel_rfl) fun KR kr => ?_
      refine wpS.take 0 false (some 39) (.int .i64 a1) (by kernel_rfl) (yld fun _ => by kernel_rfl) ?_
      refine wpS.take 1 false (some 40) (.slice a2_A a2_n a2_c) (by kernel_rfl) (yld fun _ => by kernel_rfl) ?_
      refine wpS.take 2 false (some 41) (.int .i64 a3) (by kernel_rfl) (yld fun _ => by kernel_rfl) ?_
      obtain ⟨⟨r23, r24⟩, hg, h⟩ := of_bind h
      refine wpS.only 3 (op_callH (d := (some 42)) (by kernel_rfl) hs (fun _ => by kernel_rfl) (ref08_Sum.ok hg _ (hs.rowR 0 rfl)) ?_)
      rintro ⟨r23_A, r23_n, r23_c⟩ w gw hs
      have hs := hs.conv (L' := [.ownL (CI .u8) r23_A r23_n r23_c r23 5, .ownL (CI .u8) r21_A r21_n r21_c r21 5, .blk b2 (([.int .i64 a4_0] : List Value) ++ enc .u64 a4_1 ++ ([.int .i64 a4_2, .bool a4_3] : List Value)) 25, .blk b1 (enc .u64 a0) 23]) rfl
      refine ⟨fun _ => trivial, ?_⟩
      refine wpS.take 4 false (some 38) (.tuple #[.slice r23_A r23_n r23_c, .int .i64 r24]) (by kernel_rfl) (yld fun _ => by kernel_rfl) ?_
      refine wpS.take 5 false (some 43) (.slice r23_A r23_n r23_c) (by kernel_rfl) (yld fun _ => by kernel_rfl) ?_
      refine wpS.take 6 false (some 44) (.int .i64 r24) (by kernel_rfl) (yld fun _ => by kernel_rfl) ?_
      refine wpS.take 7 false (some 13) (.slice r23_A r23_n r23_c) (by kernel_rfl) (yld fun _ => by kernel_rfl) ?_
      refine wpS.take 8 false (some 14) (.int .i64 r24) (by kernel_rfl) (yld fun _ => by kernel_rfl) ?_
      refine wpS.fin rfl (kr _ _ ?_)
      refine then_n (ks15 _ _ ?_)
      refine wp_seq_k fun KS16 ks16 => ?_
      refine wp_regS (l := [0, 1, 2, 3, 4, 5, 6, 7]) (by kernel_rfl) fun KR kr => ?_
      refine wpS.take 0 false (some 46) (.int .i64 a1) (by kernel_rfl) (yld fun _ => by kernel_rfl) ?_
      obtain ⟨⟨r25_0, r25_1, r25_2, r25_3, r26⟩, hg, h⟩ := of_bind h
      refine wpS.only 1 (op_call (d := (some 47)) (by kernel_rfl) hs (fun _ => by kernel_rfl) (keccak_New.ok hg _) ?_)
      intro w gw hs
      refine ⟨fun _ => trivial, ?_⟩
      refine wpS.take 2 false (some 45) (.tuple #[.agg (([.int .i64 r25_0] : List Value) ++ enc .u64 r25_1 ++ ([.int .i64 r25_2, .bool r25_3] : List Value)).toArray, .int .i64 r26]) (by kernel_rfl) (yld fun _ => by kernel_rfl) ?_
      refine wpS.take 3 false (some 48) (.agg (([.int .i64 r25_0] : List Value) ++ enc .u64 r25_1 ++ ([.int .i64 r25_2, .bool r25_3] : List Value)).toArray) (by kernel_rfl) (yld fun _ => by kernel_rfl) ?_
      refine wpS.take 4 false (some 49) (.int .i64 r26) (by kernel_rfl) (yld fun _ => by kernel_rfl) ?_
      refine wpS.only 5 (op_alloc (t := 25) (d := (some 15)) (by kernel_rfl) hs (([.int .i64 0] : List Value) ++ enc .u64 (zeroA 25) ++ ([.int .i64 0, .bool false] : List Value)) (.agg (([.int .i64 0] : List Value) ++ enc .u64 (zeroA 25) ++ ([.int .i64 0, .bool false] : List Value)).toArray) (by kernel_rfl) (by kernel_rfl) (by kernel_rfl) ?_)
      intro b27 w gw hs
      refine ⟨fun _ => trivial, ?_⟩
      refine wpS.only 6 (op_storeW (t := 25) (v := .agg (([.int .i64 r25_0] : List Value) ++ enc .u64 r25_1 ++ ([.int .i64 r25_2, .bool r25_3] : List Value)).toArray) (d := none) (by kernel_rfl) hs 0 rfl (vs := ([.int .i64 r25_0] : List Value) ++ enc .u64 r25_1 ++ ([.int .i64 r25_2, .bool r25_3] : List Value)) (n := 28) (by kernel_rfl) (by kernel_rfl) (by kernel_rfl) (by simp [enc_len]) (by simp [enc_len]) (one_app (one_app (by simp [Value.oneCell']) (fun u hu => enc_one _ _ u hu)) (by simp [Value.oneCell'])) ?_)
      intro w kp hs
      refine ⟨fun _ => trivial, ?_⟩
      refine wpS.take 7 false (some 16) (.int .i64 r26) (by kernel_rfl) (yld fun _ => by kernel_rfl) ?_
      refine wpS.fin rfl (kr _ _ ?_)
      refine then_n (ks16 _ _ ?_)
      refine wp_seq_k fun KS17 ks17 => ?_
      refine wp_regS (l := [0, 1, 2, 3, 4, 5, 6, 7]) (by kernel_rfl) fun KR kr => ?_
      refine wpS.take 0 false (some 51) (.int .i64 a1) (by kernel_rfl) (yld fun _ => by kernel_rfl) ?_
      obtain ⟨⟨r28_0, r28_1, r28_2, r28_3, r29⟩, hg, h⟩ := of_bind h
      refine wpS.only 1 (op_call (d := (some 52)) (by kernel_rfl) hs (fun _ => by kernel_rfl) (ref08_New.ok hg _) ?_)
      intro w gw hs
      refine ⟨fun _ => trivial, ?_⟩
      refine wpS.take 2 false (some 50) (.tuple #[.agg (([.int .i64 r28_0] : List Value) ++ enc .u64 r28_1 ++ ([.int .i64 r28_2, .bool r28_3] : List Value)).toArray, .int .i64 r29]) (by kernel_rfl) (yld fun _ => by kernel_rfl) ?_
      refine wpS.take 3 false (some 53) (.agg (([.int .i64 r28_0] : List Value) ++ enc .u64 r28_1 ++ ([.int .i64 r28_2, .bool r28_3] : List Value)).toArray) (by kernel_rfl) (yld fun _ => by kernel_rfl) ?_
      refine wpS.take 4 false (some 54) (.int .i64 r29) (by kernel_rfl) (yld fun _ => by kernel_rfl) ?_
      refine wpS.only 5 (op_alloc (t := 25) (d := (some 17)) (by kernel_rfl) hs (([.int .i64 0] : List Value) ++ enc .u64 (zeroA 25) ++ ([.int .i64 0, .bool false] : List Value)) (.agg (([.int .i64 0] : List Value) ++ enc .u64 (zeroA 25) ++ ([.int .i64 0, .bool false] : List Value)).toArray) (by kernel_rfl) (by kernel_rfl) (by kernel_rfl) ?_)
      intro b30 w gw hs
      refine ⟨fun _ => trivial, ?_⟩
      refine wpS.only 6 (op_storeW (t := 25) (v := .agg (([.int .i64 r28_0] : List Value) ++ enc .u64 r28_1 ++ ([.int .i64 r28_2, .bool r28_3] : List Value)).toArray) (d := none) (by kernel_rfl) hs 0 rfl (vs := ([.int .i64 r28_0] : List Value) ++ enc .u64 r28_1 ++ ([.int .i64 r28_2, .bool r28_3] : List Value)) (n := 28) (by kernel_rfl) (by kernel_rfl) (by kernel_rfl) (by simp [enc_len]) (by simp [enc_len]) (one_app (one_app (by simp [Value.oneCell']) (fun u hu => enc_one _ _ u hu)) (by simp [Value.oneCell'])) ?_)
      intro w kp hs
      refine ⟨fun _ => trivial, ?_⟩
      refine wpS.take 7 false (some 18) (.int .i64 r29) (by kernel_rfl) (yld fun _ => by kernel_rfl) ?_
      refine wpS.fin rfl (kr _ _ ?_)
      refine then_n (ks17 _ _ ?_)
      refine wp_seq_k fun KS18 ks18 => ?_
      refine wp_regG [] (fun k => True) 36 (by kernel_rfl) (by kernel_rfl) fun KR kr => ?_
      have hs := hs.drawn1
      refine wpG.takeD 0 true (some 55) (.agg (enc .u64 a0).toArray) (by kernel_rfl) (by kernel_rfl) (yld_loadW (e := 23) (n := 25) hs 5 rfl (by kernel_rfl) (by kernel_rfl) (by kernel_rfl) (by exact enc_len _ _) .grow) ?_
      refine wpG.takeD 2 true (some 57) (.agg (enc .u64 a0).toArray) (by kernel_rfl) (by kernel_rfl) (yld_loadW (e := 23) (n := 25) hs 5 rfl (by kernel_rfl) (by kernel_rfl) (by kernel_rfl) (by exact enc_len _ _) .grow) ?_
      obtain ⟨r31, hg, h⟩ := of_bind h
      refine wpG.only 1 (by kernel_rfl) (op_call (d := (some 56)) (by kernel_rfl) hs (fun _ => by kernel_rfl) (keccak_Permute.ok hg _ (hs.rowR 1 rfl) (hs.rowR 2 rfl) (hs.rowR 3 rfl)) ?_)
      intro w gw hs
      refine ⟨.of gw, ?_⟩
      obtain ⟨r32, hg, h⟩ := of_bind h
      refine wpG.only 3 (by kernel_rfl) (op_call (d := (some 58)) (by kernel_rfl) hs (fun _ => by kernel_rfl) (ref08_Permute.ok hg _) ?_)
      intro w gw hs
      refine ⟨.of gw, ?_⟩
      rcases of_ifb h with ⟨hc, h⟩ | ⟨hc, h⟩
      · refine wpG.takeD 4 false (some 59) (.bool true) (by kernel_rfl) (by kernel_rfl) (yld_bb hc (yld_eqA (t := 23) (e := 22) (k := .u64) (.tmp 56) (.tmp 58) (by kernel_rfl) (by kernel_rfl) (by kernel_rfl) (by kernel_rfl) (by kernel_rfl) (by kernel_rfl))) ?_
        refine wpG.takeD 5 false (some 60) (.bool true) (by kernel_rfl) (by kernel_rfl) (yld fun _ => by kernel_rfl) ?_
        refine wpG.takeD 6 false (some 61) (.slice r21_A r21_n r21_c) (by kernel_rfl) (by kernel_rfl) (yld fun _ => by kernel_rfl) ?_
        refine wpG.takeD 7 false (some 62) (.slice r23_A r23_n r23_c) (by kernel_rfl) (by kernel_rfl) (yld fun _ => by kernel_rfl) ?_
        obtain ⟨r33, hg, h⟩ := of_bind h
        cases r33 with
        | true =>
          have h := of_if_t h
          refine wpG.only 8 (by kernel_rfl) (op_call (d := (some 63)) (by kernel_rfl) hs (fun _ => by kernel_rfl) (ref01_Same.ok hg _ (hs.rowL 3 rfl) (hs.rowL 2 rfl)) ?_)
          intro w gw hs
          refine ⟨.of gw, ?_⟩
          refine wpG.takeD 9 false (some 64) (.bool true) (by kernel_rfl) (by kernel_rfl) (yld fun _ => by kernel_rfl) ?_
          refine wpG.takeD 10 false (some 65) (.bool true) (by kernel_rfl) (by kernel_rfl) (yld fun _ => by kernel_rfl) ?_
          refine wpG.takeD 11 false (some 66) (.int .i64 r22) (by kernel_rfl) (by kernel_rfl) (yld fun _ => by kernel_rfl) ?_
          refine wpG.takeD 12 false (some 67) (.int .i64 r24) (by kernel_rfl) (by kernel_rfl) (yld fun _ => by kernel_rfl) ?_
          rcases of_if h with ⟨hc, h⟩ | ⟨hc, h⟩
          · refine wpG.takeD 13 false (some 68) (.bool true) (by kernel_rfl) (by kernel_rfl) (yld_b (et hc) (fun _ => by kernel_rfl)) ?_
            refine wpG.takeD 14 false (some 69) (.bool true) (by kernel_rfl) (by kernel_rfl) (yld fun _ => by kernel_rfl) ?_
            refine wpG.takeD 15 false (some 70) (.bool true) (by kernel_rfl) (by kernel_rfl) (yld fun _ => by kernel_rfl) ?_
            refine wpG.takeD 16 true (some 71) (.agg (([.int .i64 r25_0] : List Value) ++ enc .u64 r25_1 ++ ([.int .i64 r25_2, .bool r25_3] : List Value)).toArray) (by kernel_rfl) (by kernel_rfl) (yld_loadW (e := 25) (n := 28) hs 1 rfl (by kernel_rfl) (by kernel_rfl) (by kernel_rfl) (by simp [enc_len]) .grow) ?_
            refine wpG.takeD 17 true (some 72) (.agg (([.int .i64 r28_0] : List Value) ++ enc .u64 r28_1 ++ ([.int .i64 r28_2, .bool r28_3] : List Value)).toArray) (by kernel_rfl) (by kernel_rfl) (yld_loadW (e := 25) (n := 28) hs 0 rfl (by kernel_rfl) (by kernel_rfl) (by kernel_rfl) (by simp [enc_len]) .grow) ?_
            rcases of_ifb h with ⟨hc, h⟩ | ⟨hc, h⟩
            · refine wpG.takeD 18 false (some 73) (.bool true) (by kernel_rfl) (by kernel_rfl) (yld_bb hc (yld_eqS (fs := [Field.mk "Kind" 3 0 false "" "" 0, Field.mk "Words" 23 1 false "" "" 8, Field.mk "At" 3 26 false "" "" 208, Field.mk "Out" 4 27 false "" "" 216]) (xs := ([.int .i64 r25_0] : List Value) ++ enc .u64 r25_1 ++ ([.int .i64 r25_2, .bool r25_3] : List Value)) (ys := ([.int .i64 r28_0] : List Value) ++ enc .u64 r28_1 ++ ([.int .i64 r28_2, .bool r28_3] : List Value)) (t := 25) (.tmp 71) (.tmp 72) (by kernel_rfl) (by kernel_rfl) (by kernel_rfl) (by kernel_rfl) (.cons rfl (fun w => Go.Mx.run_part1 (by kernel_rfl) (List.getElem?_toArray.trans (get_pre rfl))) (fun w => Go.Mx.run_part1 (by kernel_rfl) (List.getElem?_toArray.trans (get_pre rfl))) (fun w => Go.Mx.run_equalIn_int (by kernel_rfl)) (.cons rfl (fun w => Go.Mx.run_partN (by kernel_rfl) (by kernel_rfl) (mid_of rfl)) (fun w => Go.Mx.run_partN (by kernel_rfl) (by kernel_rfl) (mid_of rfl)) (fun w => Go.Mx.run_equalA (e := 22) (by kernel_rfl) (by kernel_rfl) (by kernel_rfl) (by kernel_rfl)) (.cons rfl (fun w => Go.Mx.run_part1 (by kernel_rfl) (List.getElem?_toArray.trans (get_post 0 rfl rfl))) (fun w => Go.Mx.run_part1 (by kernel_rfl) (List.getElem?_toArray.trans (get_post 0 rfl rfl))) (fun w => Go.Mx.run_equalIn_int (by kernel_rfl)) (.cons rfl (fun w => Go.Mx.run_part1 (by kernel_rfl) (List.getElem?_toArray.trans (get_post 1 rfl rfl))) (fun w => Go.Mx.run_part1 (by kernel_rfl) (List.getElem?_toArray.trans (get_post 1 rfl rfl))) (fun w => Go.Mx.run_equalIn_bool (by kernel_rfl)) .nil)))))) ?_
              refine wpG.takeD 19 false (some 74) (.bool true) (by kernel_rfl) (by kernel_rfl) (yld fun _ => by kernel_rfl) ?_
              refine wpG.takeD 20 false (some 75) (.bool true) (by kernel_rfl) (by kernel_rfl) (yld fun _ => by kernel_rfl) ?_
              refine wpG.takeD 21 false (some 76) (.int .i64 r26) (by kernel_rfl) (by kernel_rfl) (yld fun _ => by kernel_rfl) ?_
              refine wpG.takeD 22 false (some 77) (.int .i64 r29) (by kernel_rfl) (by kernel_rfl) (yld fun _ => by kernel_rfl) ?_
              rcases of_if h with ⟨hc, h⟩ | ⟨hc, h⟩
              · refine wpG.takeD 23 false (some 78) (.bool true) (by kernel_rfl) (by kernel_rfl) (yld_b (et hc) (fun _ => by kernel_rfl)) ?_
                refine wpG.takeD 24 false (some 79) (.bool true) (by kernel_rfl) (by kernel_rfl) (yld fun _ => by kernel_rfl) ?_
                refine wpG.takeD 25 false (some 80) (.bool true) (by kernel_rfl) (by kernel_rfl) (yld fun _ => by kernel_rfl) ?_
                refine wpG.takeD 26 true (some 81) (.agg (([.int .i64 a4_0] : List Value) ++ enc .u64 a4_1 ++ ([.int .i64 a4_2, .bool a4_3] : List Value)).toArray) (by kernel_rfl) (by kernel_rfl) (yld_loadW (e := 25) (n := 28) hs 4 rfl (by kernel_rfl) (by kernel_rfl) (by kernel_rfl) (by simp [enc_len]) .grow) ?_
                refine wpG.takeD 28 true (some 83) (.agg (([.int .i64 a4_0] : List Value) ++ enc .u64 a4_1 ++ ([.int .i64 a4_2, .bool a4_3] : List Value)).toArray) (by kernel_rfl) (by kernel_rfl) (yld_loadW (e := 25) (n := 28) hs 4 rfl (by kernel_rfl) (by kernel_rfl) (by kernel_rfl) (by simp [enc_len]) .grow) ?_
                obtain ⟨r34, hg, h⟩ := of_bind h
                refine wpG.only 27 (by kernel_rfl) (op_call (d := (some 82)) (by kernel_rfl) hs (fun _ => by kernel_rfl) (keccak_Fit.ok hg _) ?_)
                intro w gw hs
                refine ⟨.of gw, ?_⟩
                obtain ⟨r35, hg, h⟩ := of_bind h
                refine wpG.only 29 (by kernel_rfl) (op_call (d := (some 84)) (by kernel_rfl) hs (fun _ => by kernel_rfl) (ref08_Fit.ok hg _) ?_)
                intro w gw hs
                refine ⟨.of gw, ?_⟩
                rcases of_ifb h with ⟨hc, h⟩ | ⟨hc, h⟩
                · refine wpG.takeD 30 false (some 85) (.bool true) (by kernel_rfl) (by kernel_rfl) (yld_b hc (fun _ => by kernel_rfl)) ?_
                  refine wpG.takeD 31 false (some 86) (.bool true) (by kernel_rfl) (by kernel_rfl) (yld fun _ => by kernel_rfl) ?_
                  refine wpG.takeD 32 false (some 87) (.bool true) (by kernel_rfl) (by kernel_rfl) (yld fun _ => by kernel_rfl) ?_
                  obtain ⟨r36, hg, h⟩ := of_bind h
                  refine wpG.only 33 (by kernel_rfl) (op_call (d := (some 88)) (by kernel_rfl) hs (fun _ => by kernel_rfl) (law08_awake.ok hg _ (hs.rowR 1 rfl) (hs.rowR 2 rfl) (hs.rowR 3 rfl)) ?_)
                  intro w gw hs
                  refine ⟨.of gw, ?_⟩
                  refine wpG.takeD 34 false (some 89) (.bool r36) (by kernel_rfl) (by kernel_rfl) (yld fun _ => by kernel_rfl) ?_
                  refine wpG.takeD 35 false (some 10) (.bool r36) (by kernel_rfl) (by kernel_rfl) (yld fun _ => by kernel_rfl) ?_
                  refine wpG.fin (by kernel_rfl) rfl (kr _ _ ?_)
                  refine then_n (ks18 _ _ ?_)
                  refine wp_ret ?_
                  have q0 := of_some h
                  subst q0
                  exact qq _ _ (post_ret (by kernel_rfl) (run_results [.tmp 10] [.bool r36] (by kernel_rfl) (.cons (res_tmp (by kernel_rfl)) .nil)) ⟨congrArg Ending.returned (by kernel_rfl), hs.none⟩)
                · refine wpG.takeD 30 false (some 85) (.bool false) (by kernel_rfl) (by kernel_rfl) (yld_b hc (fun _ => by kernel_rfl)) ?_
                  refine wpG.takeD 31 false (some 86) (.bool false) (by kernel_rfl) (by kernel_rfl) (yld fun _ => by kernel_rfl) ?_
                  refine wpG.takeD 32 false (some 87) (.bool false) (by kernel_rfl) (by kernel_rfl) (yld fun _ => by kernel_rfl) ?_
                  refine wpG.takeD 33 false (some 88) (undef) (by kernel_rfl) (by kernel_rfl) (yld fun _ => by kernel_rfl) ?_
                  refine wpG.takeD 34 false (some 89) (.bool false) (by kernel_rfl) (by kernel_rfl) (yld fun _ => by kernel_rfl) ?_
                  refine wpG.takeD 35 false (some 10) (.bool false) (by kernel_rfl) (by kernel_rfl) (yld fun _ => by kernel_rfl) ?_
                  refine wpG.fin (by kernel_rfl) rfl (kr _ _ ?_)
                  refine then_n (ks18 _ _ ?_)
                  refine wp_ret ?_
                  have q0 := of_some h
                  subst q0
                  exact qq _ _ (post_ret (by kernel_rfl) (run_results [.tmp 10] [.bool false] (by kernel_rfl) (.cons (res_tmp (by kernel_rfl)) .nil)) ⟨congrArg Ending.returned (by kernel_rfl), hs.none⟩)
              · refine wpG.takeD 23 false (some 78) (.bool false) (by kernel_rfl) (by kernel_rfl) (yld_b (ef hc) (fun _ => by kernel_rfl)) ?_
                refine wpG.takeD 24 false (some 79) (.bool false) (by kernel_rfl) (by kernel_rfl) (yld fun _ => by kernel_rfl) ?_
                refine wpG.takeD 25 false (some 80) (.bool false) (by kernel_rfl) (by kernel_rfl) (yld fun _ => by kernel_rfl) ?_
                refine wpG.takeD 26 false (some 81) (undef) (by kernel_rfl) (by kernel_rfl) (yld fun _ => by kernel_rfl) ?_
                refine wpG.takeD 28 false (some 83) (undef) (by kernel_rfl) (by kernel_rfl) (yld fun _ => by kernel_rfl) ?_
                refine wpG.takeD 27 false (some 82) (undef) (by kernel_rfl) (by kernel_rfl) (yld fun _ => by kernel_rfl) ?_
                refine wpG.takeD 29 false (some 84) (undef) (by kernel_rfl) (by kernel_rfl) (yld fun _ => by kernel_rfl) ?_
                refine wpG.takeD 30 false (some 85) (undef) (by kernel_rfl) (by kernel_rfl) (yld fun _ => by kernel_rfl) ?_
                refine wpG.takeD 31 false (some 86) (.bool false) (by kernel_rfl) (by kernel_rfl) (yld fun _ => by kernel_rfl) ?_
                refine wpG.takeD 32 false (some 87) (.bool false) (by kernel_rfl) (by kernel_rfl) (yld fun _ => by kernel_rfl) ?_
                refine wpG.takeD 33 false (some 88) (undef) (by kernel_rfl) (by kernel_rfl) (yld fun _ => by kernel_rfl) ?_
                refine wpG.takeD 34 false (some 89) (.bool false) (by kernel_rfl) (by kernel_rfl) (yld fun _ => by kernel_rfl) ?_
                refine wpG.takeD 35 false (some 10) (.bool false) (by kernel_rfl) (by kernel_rfl) (yld fun _ => by kernel_rfl) ?_
                refine wpG.fin (by kernel_rfl) rfl (kr _ _ ?_)
                refine then_n (ks18 _ _ ?_)
                refine wp_ret ?_
                have q0 := of_some h
                subst q0
                exact qq _ _ (post_ret (by kernel_rfl) (run_results [.tmp 10] [.bool false] (by kernel_rfl) (.cons (res_tmp (by kernel_rfl)) .nil)) ⟨congrArg Ending.returned (by kernel_rfl), hs.none⟩)
            · refine wpG.takeD 18 false (some 73) (.bool false) (by kernel_rfl) (by kernel_rfl) (yld_bb hc (yld_eqS (fs := [Field.mk "Kind" 3 0 false "" "" 0, Field.mk "Words" 23 1 false "" "" 8, Field.mk "At" 3 26 false "" "" 208, Field.mk "Out" 4 27 false "" "" 216]) (xs := ([.int .i64 r25_0] : List Value) ++ enc .u64 r25_1 ++ ([.int .i64 r25_2, .bool r25_3] : List Value)) (ys := ([.int .i64 r28_0] : List Value) ++ enc .u64 r28_1 ++ ([.int .i64 r28_2, .bool r28_3] : List Value)) (t := 25) (.tmp 71) (.tmp 72) (by kernel_rfl) (by kernel_rfl) (by kernel_rfl) (by kernel_rfl) (.cons rfl (fun w => Go.Mx.run_part1 (by kernel_rfl) (List.getElem?_toArray.trans (get_pre rfl))) (fun w => Go.Mx.run_part1 (by kernel_rfl) (List.getElem?_toArray.trans (get_pre rfl))) (fun w => Go.Mx.run_equalIn_int (by kernel_rfl)) (.cons rfl (fun w => Go.Mx.run_partN (by kernel_rfl) (by kernel_rfl) (mid_of rfl)) (fun w => Go.Mx.run_partN (by kernel_rfl) (by kernel_rfl) (mid_of rfl)) (fun w => Go.Mx.run_equalA (e := 22) (by kernel_rfl) (by kernel_rfl) (by kernel_rfl) (by kernel_rfl)) (.cons rfl (fun w => Go.Mx.run_part1 (by kernel_rfl) (List.getElem?_toArray.trans (get_post 0 rfl rfl))) (fun w => Go.Mx.run_part1 (by kernel_rfl) (List.getElem?_toArray.trans (get_post 0 rfl rfl))) (fun w => Go.Mx.run_equalIn_int (by kernel_rfl)) (.cons rfl (fun w => Go.Mx.run_part1 (by kernel_rfl) (List.getElem?_toArray.trans (get_post 1 rfl rfl))) (fun w => Go.Mx.run_part1 (by kernel_rfl) (List.getElem?_toArray.trans (get_post 1 rfl rfl))) (fun w => Go.Mx.run_equalIn_bool (by kernel_rfl)) .nil)))))) ?_
              refine wpG.takeD 19 false (some 74) (.bool false) (by kernel_rfl) (by kernel_rfl) (yld fun _ => by kernel_rfl) ?_
              refine wpG.takeD 20 false (some 75) (.bool false) (by kernel_rfl) (by kernel_rfl) (yld fun _ => by kernel_rfl) ?_
              refine wpG.takeD 21 false (some 76) (undef) (by kernel_rfl) (by kernel_rfl) (yld fun _ => by kernel_rfl) ?_
              refine wpG.takeD 22 false (some 77) (undef) (by kernel_rfl) (by kernel_rfl) (yld fun _ => by kernel_rfl) ?_
              refine wpG.takeD 23 false (some 78) (undef) (by kernel_rfl) (by kernel_rfl) (yld fun _ => by kernel_rfl) ?_
              refine wpG.takeD 24 false (some 79) (.bool false) (by kernel_rfl) (by kernel_rfl) (yld fun _ => by kernel_rfl) ?_
              refine wpG.takeD 25 false (some 80) (.bool false) (by kernel_rfl) (by kernel_rfl) (yld fun _ => by kernel_rfl) ?_
              refine wpG.takeD 26 false (some 81) (undef) (by kernel_rfl) (by kernel_rfl) (yld fun _ => by kernel_rfl) ?_
              refine wpG.takeD 28 false (some 83) (undef) (by kernel_rfl) (by kernel_rfl) (yld fun _ => by kernel_rfl) ?_
              refine wpG.takeD 27 false (some 82) (undef) (by kernel_rfl) (by kernel_rfl) (yld fun _ => by kernel_rfl) ?_
              refine wpG.takeD 29 false (some 84) (undef) (by kernel_rfl) (by kernel_rfl) (yld fun _ => by kernel_rfl) ?_
              refine wpG.takeD 30 false (some 85) (undef) (by kernel_rfl) (by kernel_rfl) (yld fun _ => by kernel_rfl) ?_
              refine wpG.takeD 31 false (some 86) (.bool false) (by kernel_rfl) (by kernel_rfl) (yld fun _ => by kernel_rfl) ?_
              refine wpG.takeD 32 false (some 87) (.bool false) (by kernel_rfl) (by kernel_rfl) (yld fun _ => by kernel_rfl) ?_
              refine wpG.takeD 33 false (some 88) (undef) (by kernel_rfl) (by kernel_rfl) (yld fun _ => by kernel_rfl) ?_
              refine wpG.takeD 34 false (some 89) (.bool false) (by kernel_rfl) (by kernel_rfl) (yld fun _ => by kernel_rfl) ?_
              refine wpG.takeD 35 false (some 10) (.bool false) (by kernel_rfl) (by kernel_rfl) (yld fun _ => by kernel_rfl) ?_
              refine wpG.fin (by kernel_rfl) rfl (kr _ _ ?_)
              refine then_n (ks18 _ _ ?_)
              refine wp_ret ?_
              have q0 := of_some h
              subst q0
              exact qq _ _ (post_ret (by kernel_rfl) (run_results [.tmp 10] [.bool false] (by kernel_rfl) (.cons (res_tmp (by kernel_rfl)) .nil)) ⟨congrArg Ending.returned (by kernel_rfl), hs.none⟩)
          · refine wpG.takeD 13 false (some 68) (.bool false) (by kernel_rfl) (by kernel_rfl) (yld_b (ef hc) (fun _ => by kernel_rfl)) ?_
            refine wpG.takeD 14 false (some 69) (.bool false) (by kernel_rfl) (by kernel_rfl) (yld fun _ => by kernel_rfl) ?_
            refine wpG.takeD 15 false (some 70) (.bool false) (by kernel_rfl) (by kernel_rfl) (yld fun _ => by kernel_rfl) ?_
            refine wpG.takeD 16 false (some 71) (undef) (by kernel_rfl) (by kernel_rfl) (yld fun _ => by kernel_rfl) ?_
            refine wpG.takeD 17 false (some 72) (undef) (by kernel_rfl) (by kernel_rfl) (yld fun _ => by kernel_rfl) ?_
            refine wpG.takeD 18 false (some 73) (undef) (by kernel_rfl) (by kernel_rfl) (yld fun _ => by kernel_rfl) ?_
            refine wpG.takeD 19 false (some 74) (.bool false) (by kernel_rfl) (by kernel_rfl) (yld fun _ => by kernel_rfl) ?_
            refine wpG.takeD 20 false (some 75) (.bool false) (by kernel_rfl) (by kernel_rfl) (yld fun _ => by kernel_rfl) ?_
            refine wpG.takeD 21 false (some 76) (undef) (by kernel_rfl) (by kernel_rfl) (yld fun _ => by kernel_rfl) ?_
            refine wpG.takeD 22 false (some 77) (undef) (by kernel_rfl) (by kernel_rfl) (yld fun _ => by kernel_rfl) ?_
            refine wpG.takeD 23 false (some 78) (undef) (by kernel_rfl) (by kernel_rfl) (yld fun _ => by kernel_rfl) ?_
            refine wpG.takeD 24 false (some 79) (.bool false) (by kernel_rfl) (by kernel_rfl) (yld fun _ => by kernel_rfl) ?_
            refine wpG.takeD 25 false (some 80) (.bool false) (by kernel_rfl) (by kernel_rfl) (yld fun _ => by kernel_rfl) ?_
            refine wpG.takeD 26 false (some 81) (undef) (by kernel_rfl) (by kernel_rfl) (yld fun _ => by kernel_rfl) ?_
            refine wpG.takeD 28 false (some 83) (undef) (by kernel_rfl) (by kernel_rfl) (yld fun _ => by kernel_rfl) ?_
            refine wpG.takeD 27 false (some 82) (undef) (by kernel_rfl) (by kernel_rfl) (yld fun _ => by kernel_rfl) ?_
            refine wpG.takeD 29 false (some 84) (undef) (by kernel_rfl) (by kernel_rfl) (yld fun _ => by kernel_rfl) ?_
            refine wpG.takeD 30 false (some 85) (undef) (by kernel_rfl) (by kernel_rfl) (yld fun _ => by kernel_rfl) ?_
            refine wpG.takeD 31 false (some 86) (.bool false) (by kernel_rfl) (by kernel_rfl) (yld fun _ => by kernel_rfl) ?_
            refine wpG.takeD 32 false (some 87) (.bool false) (by kernel_rfl) (by kernel_rfl) (yld fun _ => by kernel_rfl) ?_
            refine wpG.takeD 33 false (some 88) (undef) (by kernel_rfl) (by kernel_rfl) (yld fun _ => by kernel_rfl) ?_
            refine wpG.takeD 34 false (some 89) (.bool false) (by kernel_rfl) (by kernel_rfl) (yld fun _ => by kernel_rfl) ?_
            refine wpG.takeD 35 false (some 10) (.bool false) (by kernel_rfl) (by kernel_rfl) (yld fun _ => by kernel_rfl) ?_
            refine wpG.fin (by kernel_rfl) rfl (kr _ _ ?_)
            refine then_n (ks18 _ _ ?_)
            refine wp_ret ?_
            have q0 := of_some h
            subst q0
            exact qq _ _ (post_ret (by kernel_rfl) (run_results [.tmp 10] [.bool false] (by kernel_rfl) (.cons (res_tmp (by kernel_rfl)) .nil)) ⟨congrArg Ending.returned (by kernel_rfl), hs.none⟩)
        | false =>
          have h := of_if_f h
          refine wpG.only 8 (by kernel_rfl) (op_call (d := (some 63)) (by kernel_rfl) hs (fun _ => by kernel_rfl) (ref01_Same.ok hg _ (hs.rowL 3 rfl) (hs.rowL 2 rfl)) ?_)
          intro w gw hs
          refine ⟨.of gw, ?_⟩
          refine wpG.takeD 9 false (some 64) (.bool false) (by kernel_rfl) (by kernel_rfl) (yld fun _ => by kernel_rfl) ?_
          refine wpG.takeD 10 false (some 65) (.bool false) (by kernel_rfl) (by kernel_rfl) (yld fun _ => by kernel_rfl) ?_
          refine wpG.takeD 11 false (some 66) (undef) (by kernel_rfl) (by kernel_rfl) (yld fun _ => by kernel_rfl) ?_
          refine wpG.takeD 12 false (some 67) (undef) (by kernel_rfl) (by kernel_rfl) (yld fun _ => by kernel_rfl) ?_
          refine wpG.takeD 13 false (some 68) (undef) (by kernel_rfl) (by kernel_rfl) (yld fun _ => by kernel_rfl) ?_
          refine wpG.takeD 14 false (some 69) (.bool false) (by kernel_rfl) (by kernel_rfl) (yld fun _ => by kernel_rfl) ?_
          refine wpG.takeD 15 false (some 70) (.bool false) (by kernel_rfl) (by kernel_rfl) (yld fun _ => by kernel_rfl) ?_
          refine wpG.takeD 16 false (some 71) (undef) (by kernel_rfl) (by kernel_rfl) (yld fun _ => by kernel_rfl) ?_
          refine wpG.takeD 17 false (some 72) (undef) (by kernel_rfl) (by kernel_rfl) (yld fun _ => by kernel_rfl) ?_
          refine wpG.takeD 18 false (some 73) (undef) (by kernel_rfl) (by kernel_rfl) (yld fun _ => by kernel_rfl) ?_
          refine wpG.takeD 19 false (some 74) (.bool false) (by kernel_rfl) (by kernel_rfl) (yld fun _ => by kernel_rfl) ?_
          refine wpG.takeD 20 false (some 75) (.bool false) (by kernel_rfl) (by kernel_rfl) (yld fun _ => by kernel_rfl) ?_
          refine wpG.takeD 21 false (some 76) (undef) (by kernel_rfl) (by kernel_rfl) (yld fun _ => by kernel_rfl) ?_
          refine wpG.takeD 22 false (some 77) (undef) (by kernel_rfl) (by kernel_rfl) (yld fun _ => by kernel_rfl) ?_
          refine wpG.takeD 23 false (some 78) (undef) (by kernel_rfl) (by kernel_rfl) (yld fun _ => by kernel_rfl) ?_
          refine wpG.takeD 24 false (some 79) (.bool false) (by kernel_rfl) (by kernel_rfl) (yld fun _ => by kernel_rfl) ?_
          refine wpG.takeD 25 false (some 80) (.bool false) (by kernel_rfl) (by kernel_rfl) (yld fun _ => by kernel_rfl) ?_
          refine wpG.takeD 26 false (some 81) (undef) (by kernel_rfl) (by kernel_rfl) (yld fun _ => by kernel_rfl) ?_
          refine wpG.takeD 28 false (some 83) (undef) (by kernel_rfl) (by kernel_rfl) (yld fun _ => by kernel_rfl) ?_
          refine wpG.takeD 27 false (some 82) (undef) (by kernel_rfl) (by kernel_rfl) (yld fun _ => by kernel_rfl) ?_
          refine wpG.takeD 29 false (some 84) (undef) (by kernel_rfl) (by kernel_rfl) (yld fun _ => by kernel_rfl) ?_
          refine wpG.takeD 30 false (some 85) (undef) (by kernel_rfl) (by kernel_rfl) (yld fun _ => by kernel_rfl) ?_
          refine wpG.takeD 31 false (some 86) (.bool false) (by kernel_rfl) (by kernel_rfl) (yld fun _ => by kernel_rfl) ?_
          refine wpG.takeD 32 false (some 87) (.bool false) (by kernel_rfl) (by kernel_rfl) (yld fun _ => by kernel_rfl) ?_
          refine wpG.takeD 33 false (some 88) (undef) (by kernel_rfl) (by kernel_rfl) (yld fun _ => by kernel_rfl) ?_
          refine wpG.takeD 34 false (some 89) (.bool false) (by kernel_rfl) (by kernel_rfl) (yld fun _ => by kernel_rfl) ?_
          refine wpG.takeD 35 false (some 10) (.bool false) (by kernel_rfl) (by kernel_rfl) (yld fun _ => by kernel_rfl) ?_
          refine wpG.fin (by kernel_rfl) rfl (kr _ _ ?_)
          refine then_n (ks18 _ _ ?_)
          refine wp_ret ?_
          have q0 := of_some h
          subst q0
          exact qq _ _ (post_ret (by kernel_rfl) (run_results [.tmp 10] [.bool false] (by kernel_rfl) (.cons (res_tmp (by kernel_rfl)) .nil)) ⟨congrArg Ending.returned (by kernel_rfl), hs.none⟩)
      · refine wpG.takeD 4 false (some 59) (.bool false) (by kernel_rfl) (by kernel_rfl) (yld_bb hc (yld_eqA (t := 23) (e := 22) (k := .u64) (.tmp 56) (.tmp 58) (by kernel_rfl) (by kernel_rfl) (by kernel_rfl) (by kernel_rfl) (by kernel_rfl) (by kernel_rfl))) ?_
        refine wpG.takeD 5 false (some 60) (.bool false) (by kernel_rfl) (by kernel_rfl) (yld fun _ => by kernel_rfl) ?_
        refine wpG.takeD 6 false (some 61) (undef) (by kernel_rfl) (by kernel_rfl) (yld fun _ => by kernel_rfl) ?_
        refine wpG.takeD 7 false (some 62) (undef) (by kernel_rfl) (by kernel_rfl) (yld fun _ => by kernel_rfl) ?_
        refine wpG.takeD 8 false (some 63) (undef) (by kernel_rfl) (by kernel_rfl) (yld fun _ => by kernel_rfl) ?_
        refine wpG.takeD 9 false (some 64) (.bool false) (by kernel_rfl) (by kernel_rfl) (yld fun _ => by kernel_rfl) ?_
        refine wpG.takeD 10 false (some 65) (.bool false) (by kernel_rfl) (by kernel_rfl) (yld fun _ => by kernel_rfl) ?_
        refine wpG.takeD 11 false (some 66) (undef) (by kernel_rfl) (by kernel_rfl) (yld fun _ => by kernel_rfl) ?_
        refine wpG.takeD 12 false (some 67) (undef) (by kernel_rfl) (by kernel_rfl) (yld fun _ => by kernel_rfl) ?_
        refine wpG.takeD 13 false (some 68) (undef) (by kernel_rfl) (by kernel_rfl) (yld fun _ => by kernel_rfl) ?_
        refine wpG.takeD 14 false (some 69) (.bool false) (by kernel_rfl) (by kernel_rfl) (yld fun _ => by kernel_rfl) ?_
        refine wpG.takeD 15 false (some 70) (.bool false) (by kernel_rfl) (by kernel_rfl) (yld fun _ => by kernel_rfl) ?_
        refine wpG.takeD 16 false (some 71) (undef) (by kernel_rfl) (by kernel_rfl) (yld fun _ => by kernel_rfl) ?_
        refine wpG.takeD 17 false (some 72) (undef) (by kernel_rfl) (by kernel_rfl) (yld fun _ => by kernel_rfl) ?_
        refine wpG.takeD 18 false (some 73) (undef) (by kernel_rfl) (by kernel_rfl) (yld fun _ => by kernel_rfl) ?_
        refine wpG.takeD 19 false (some 74) (.bool false) (by kernel_rfl) (by kernel_rfl) (yld fun _ => by kernel_rfl) ?_
        refine wpG.takeD 20 false (some 75) (.bool false) (by kernel_rfl) (by kernel_rfl) (yld fun _ => by kernel_rfl) ?_
        refine wpG.takeD 21 false (some 76) (undef) (by kernel_rfl) (by kernel_rfl) (yld fun _ => by kernel_rfl) ?_
        refine wpG.takeD 22 false (some 77) (undef) (by kernel_rfl) (by kernel_rfl) (yld fun _ => by kernel_rfl) ?_
        refine wpG.takeD 23 false (some 78) (undef) (by kernel_rfl) (by kernel_rfl) (yld fun _ => by kernel_rfl) ?_
        refine wpG.takeD 24 false (some 79) (.bool false) (by kernel_rfl) (by kernel_rfl) (yld fun _ => by kernel_rfl) ?_
        refine wpG.takeD 25 false (some 80) (.bool false) (by kernel_rfl) (by kernel_rfl) (yld fun _ => by kernel_rfl) ?_
        refine wpG.takeD 26 false (some 81) (undef) (by kernel_rfl) (by kernel_rfl) (yld fun _ => by kernel_rfl) ?_
        refine wpG.takeD 28 false (some 83) (undef) (by kernel_rfl) (by kernel_rfl) (yld fun _ => by kernel_rfl) ?_
        refine wpG.takeD 27 false (some 82) (undef) (by kernel_rfl) (by kernel_rfl) (yld fun _ => by kernel_rfl) ?_
        refine wpG.takeD 29 false (some 84) (undef) (by kernel_rfl) (by kernel_rfl) (yld fun _ => by kernel_rfl) ?_
        refine wpG.takeD 30 false (some 85) (undef) (by kernel_rfl) (by kernel_rfl) (yld fun _ => by kernel_rfl) ?_
        refine wpG.takeD 31 false (some 86) (.bool false) (by kernel_rfl) (by kernel_rfl) (yld fun _ => by kernel_rfl) ?_
        refine wpG.takeD 32 false (some 87) (.bool false) (by kernel_rfl) (by kernel_rfl) (yld fun _ => by kernel_rfl) ?_
        refine wpG.takeD 33 false (some 88) (undef) (by kernel_rfl) (by kernel_rfl) (yld fun _ => by kernel_rfl) ?_
        refine wpG.takeD 34 false (some 89) (.bool false) (by kernel_rfl) (by kernel_rfl) (yld fun _ => by kernel_rfl) ?_
        refine wpG.takeD 35 false (some 10) (.bool false) (by kernel_rfl) (by kernel_rfl) (yld fun _ => by kernel_rfl) ?_
        refine wpG.fin (by kernel_rfl) rfl (kr _ _ ?_)
        refine then_n (ks18 _ _ ?_)
        refine wp_ret ?_
        have q0 := of_some h
        subst q0
        exact qq _ _ (post_ret (by kernel_rfl) (run_results [.tmp 10] [.bool false] (by kernel_rfl) (.cons (res_tmp (by kernel_rfl)) .nil)) ⟨congrArg Ending.returned (by kernel_rfl), hs.none⟩)
end Go.Proofs.YtijahfdldlmnhaaDoor
