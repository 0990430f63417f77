/- Printed by this work's own program: the code of each function below comes to the answer that its plain form tells. -/
import Derived.Test.YtmpagpbnpgcecaaMd
import Derived.Test.YtmpagpbnpgcecaaProg
import Derived.Test.YtmpagpbnpgcecaaGF0
import Derived.Test.YtmpagpbnpgcecaaGX7
import Derived.Test.YtmpagpbnpgcecaaGX8
set_option linter.unusedVariables false
set_option linter.unusedSimpArgs false
set_option maxRecDepth 100000
set_option maxHeartbeats 4000000
namespace Go.Proofs.Ytmpagpbnpgcecaa
open Go.Mx
attribute [local irreducible] wpOp

theorem gcm_Mul.ok {K : Nat} {a0 : List Int} {a1 : List Int} {r0 : List Int} {a0_A : Option Addr} {a0_n : Nat} {a0_c : Nat} {a1_A : Option Addr} {a1_n : Nat} {a1_c : Nat} (h : gcm_Mul.f K a0 a1 = some r0) (w0 : World) (hp0 : RowL (CI .u8) w0 a0_A a0_n a0_c a0) (hp1 : RowL (CI .u8) w0 a1_A a1_n a1_c a1) : Calls Try.prog 38 #[.slice a0_A a0_n a0_c, .slice a1_A a1_n a1_c] w0 fun e w' => ∃ h : (Option Addr × Nat × Nat), e = .returned (.slice h.1 h.2.1 h.2.2) ∧ St w0 [] [.ownL (CI .u8) h.1 h.2.1 h.2.2 r0 5] [] w' := by
 refine calls_k Try.func38 rfl fun Q qq => ?_
 have hs := St.startR (all_cons (RowP.ent hp0) (all_cons (RowP.ent hp1) all_nil))
 refine wp_conv (a' := ⟨#[.slice a0_A a0_n a0_c, .slice a1_A a1_n a1_c, undef, undef, undef, undef, undef, undef, undef, undef, undef, undef, undef, undef, undef, undef, undef, undef, undef], []⟩) (by kernel_rfl) ?_
 refine xseq_k fun KS1 ks1 => ?_
 refine xregS [0] fun KR2 kr2 => ?_
 refine wpS.q 0 4 (.slice none 0 0) ?_
 refine wpS.fin rfl (kr2 _ _ (then_n (ks1 _ _ (xseq_k fun KS3 ks3 => (xseq_k fun KS4 ks4 => (xregS [0, 1, 2, 3, 4, 5, 6, 7] fun KR5 kr5 => ?_))))))
 refine wpS.q 0 5 (.slice a0_A a0_n a0_c) ?_
 refine wpS.tk 1 false (some 6) (.int .i64 (a0.length : Int)) (yld_lenL (hs.rowR 0 rfl) (fun _ => by kernel_rfl)) ?_
 rcases of_if h with ⟨hc, h⟩ | ⟨hc, h⟩
 ·refine wpS.tk 2 false (some 7) (.bool false) (yld_b (nf hc) (fun _ => by kernel_rfl)) ?_
  refine wpS.qs [(3, 8, .bool false), (4, 9, .slice a1_A a1_n a1_c)] ?_
  refine wpS.tk 5 false (some 10) (.int .i64 (a1.length : Int)) (yld_lenL (hs.rowR 1 rfl) (fun _ => by kernel_rfl)) ?_
  rcases of_if h with ⟨hc, h⟩ | ⟨hc, h⟩
  ·refine wpS.tk 6 false (some 11) (.bool false) (yld_b (nf hc) (fun _ => by kernel_rfl)) ?_
   refine wpS.q 7 12 (.bool false) ?_
   refine wpS.fin rfl (kr5 _ _ (then_n (ks4 _ _ (wp_cond_f (by kernel_rfl) (xskip (then_n (ks3 _ _ (xseq_k fun KS6 ks6 => (xregS [0, 1, 2, 3, 4, 5, 6] fun KR7 kr7 => ?_)))))))))
   refine wpS.q 0 13 (.slice a0_A a0_n a0_c) ?_
   obtain ⟨⟨r1_0, r1_1⟩, hg, h⟩ := of_bind h
   refine wpS.only 1 (op_call (d := (some 14)) (by kernel_rfl) hs (fun _ => by kernel_rfl) (gcm_read.ok hg _ (hs.rowR 0 rfl)) ?_)
   intro w gw hs
   refine ⟨fun _ => trivial, ?_⟩
   refine wpS.q 2 15 (.slice a1_A a1_n a1_c) ?_
   obtain ⟨⟨r2_0, r2_1⟩, hg, h⟩ := of_bind h
   refine wpS.only 3 (op_call (d := (some 16)) (by kernel_rfl) hs (fun _ => by kernel_rfl) (gcm_read.ok hg _ (hs.rowR 1 rfl)) ?_)
   intro w gw hs
   refine ⟨fun _ => trivial, ?_⟩
   obtain ⟨⟨r3_0, r3_1⟩, hg, h⟩ := of_bind h
   refine wpS.only 4 (op_call (d := (some 17)) (by kernel_rfl) hs (fun _ => by kernel_rfl) (gcm_element_times.ok hg _) ?_)
   intro w gw hs
   refine ⟨fun _ => trivial, ?_⟩
   obtain ⟨r4, hg, h⟩ := of_bind h
   refine wpS.only 5 (op_callH (d := (some 18)) (by kernel_rfl) hs (fun _ => by kernel_rfl) (gcm_element_bytes.ok hg _) ?_)
   rintro ⟨r4_A, r4_n, r4_c⟩ w gw hs
   have hs := hs.conv (L' := [.ownL (CI .u8) r4_A r4_n r4_c r4 5]) rfl
   refine ⟨fun _ => trivial, ?_⟩
   refine wpS.q 6 4 (.slice r4_A r4_n r4_c) ?_
   refine wpS.fin rfl (kr7 _ _ (then_n (ks6 _ _ (xret ?_))))
   have q0 := of_some h
   subst q0
   exact qq _ _ (post_ret (by kernel_rfl) (run_results [.tmp 4] [.slice r4_A r4_n r4_c] (by kernel_rfl) (.cons (res_tmp (by kernel_rfl)) .nil)) ⟨⟨r4_A, r4_n, r4_c⟩, congrArg Ending.returned (by kernel_rfl), (hs.pickR pick_nil)⟩)
  refine wpS.tk 6 false (some 11) (.bool true) (yld_b (nt hc) (fun _ => by kernel_rfl)) ?_
  refine wpS.q 7 12 (.bool true) ?_
  refine wpS.fin rfl (kr5 _ _ (then_n (ks4 _ _ (wp_cond_t (by kernel_rfl) (xseq_k fun KS8 ks8 => (xregS [0] fun KR9 kr9 => ?_))))))
  refine wpS.q 0 4 (.slice none 0 0) ?_
  refine wpS.fin rfl (kr9 _ _ (then_n (ks8 _ _ (xret (then_r ?_)))))
  have q0 := of_some h
  subst q0
  have hs := hs.addNilL (CI .u8) 5
  exact qq _ _ (post_ret (by kernel_rfl) (run_results [.tmp 4] [.slice none 0 0] (by kernel_rfl) (.cons (res_tmp (by kernel_rfl)) .nil)) ⟨⟨none, 0, 0⟩, congrArg Ending.returned (by kernel_rfl), (hs.pickR pick_nil)⟩)
 refine wpS.tk 2 false (some 7) (.bool true) (yld_b (nt hc) (fun _ => by kernel_rfl)) ?_
 refine wpS.qs [(3, 8, .bool true), (4, 9, undef), (5, 10, undef), (6, 11, undef), (7, 12, .bool true)] ?_
 refine wpS.fin rfl (kr5 _ _ (then_n (ks4 _ _ (wp_cond_t (by kernel_rfl) (xseq_k fun KS10 ks10 => (xregS [0] fun KR11 kr11 => ?_))))))
 refine wpS.q 0 4 (.slice none 0 0) ?_
 refine wpS.fin rfl (kr11 _ _ (then_n (ks10 _ _ (xret (then_r ?_)))))
 have q0 := of_some h
 subst q0
 have hs := hs.addNilL (CI .u8) 5
 exact qq _ _ (post_ret (by kernel_rfl) (run_results [.tmp 4] [.slice none 0 0] (by kernel_rfl) (.cons (res_tmp (by kernel_rfl)) .nil)) ⟨⟨none, 0, 0⟩, congrArg Ending.returned (by kernel_rfl), (hs.pickR pick_nil)⟩)

theorem gcm_Ghash.ok {K : Nat} {a0 : List Int} {a1 : List Int} {r0 : List Int} {a0_A : Option Addr} {a0_n : Nat} {a0_c : Nat} {a1_A : Option Addr} {a1_n : Nat} {a1_c : Nat} (h : gcm_Ghash.f K a0 a1 = some r0) (w0 : World) (hp0 : RowL (CI .u8) w0 a0_A a0_n a0_c a0) (hp1 : RowL (CI .u8) w0 a1_A a1_n a1_c a1) : Calls Try.prog 40 #[.slice a0_A a0_n a0_c, .slice a1_A a1_n a1_c] w0 fun e w' => ∃ h : (Option Addr × Nat × Nat), e = .returned (.slice h.1 h.2.1 h.2.2) ∧ St w0 [] [.ownL (CI .u8) h.1 h.2.1 h.2.2 r0 5] [] w' := by
 refine calls_k Try.func40 rfl fun Q qq => ?_
 have hs := St.startR (all_cons (RowP.ent hp0) (all_cons (RowP.ent hp1) all_nil))
 refine wp_conv (a' := ⟨#[.slice a0_A a0_n a0_c, .slice a1_A a1_n a1_c, undef, undef, undef, undef, undef, undef, undef, undef, undef, undef, undef, undef, undef, undef, undef, undef, undef, undef, undef, undef, undef, undef, undef, undef, undef], []⟩) (by kernel_rfl) ?_
 refine xseq_k fun KS1 ks1 => ?_
 refine xregS [0] fun KR2 kr2 => ?_
 refine wpS.q 0 4 (.slice none 0 0) ?_
 refine wpS.fin rfl (kr2 _ _ (then_n (ks1 _ _ (xseq_k fun KS3 ks3 => (xseq_k fun KS4 ks4 => (xregS [0, 1, 2, 3, 4, 5, 6, 7, 8] fun KR5 kr5 => ?_))))))
 refine wpS.q 0 6 (.slice a0_A a0_n a0_c) ?_
 refine wpS.tk 1 false (some 7) (.int .i64 (a0.length : Int)) (yld_lenL (hs.rowR 0 rfl) (fun _ => by kernel_rfl)) ?_
 rcases of_if h with ⟨hc, h⟩ | ⟨hc, h⟩
 ·refine wpS.tk 2 false (some 8) (.bool false) (yld_b (nf hc) (fun _ => by kernel_rfl)) ?_
  refine wpS.qs [(3, 9, .bool false), (4, 10, .slice a1_A a1_n a1_c)] ?_
  refine wpS.tk 5 false (some 11) (.int .i64 (a1.length : Int)) (yld_lenL (hs.rowR 1 rfl) (fun _ => by kernel_rfl)) ?_
  refine wpS.q 6 12 (.int .i64 (irem .i64 (a1.length : Int) 16)) ?_
  rcases of_if h with ⟨hc, h⟩ | ⟨hc, h⟩
  ·refine wpS.tk 7 false (some 13) (.bool false) (yld_b (nf hc) (fun _ => by kernel_rfl)) ?_
   refine wpS.q 8 14 (.bool false) ?_
   refine wpS.fin rfl (kr5 _ _ (then_n (ks4 _ _ (wp_cond_f (by kernel_rfl) (xskip (then_n (ks3 _ _ (xseq_k fun KS6 ks6 => (xregS [0, 1, 2, 3, 4] fun KR7 kr7 => ?_)))))))))
   refine wpS.q 0 15 (.slice a0_A a0_n a0_c) ?_
   obtain ⟨⟨r1_0, r1_1⟩, hg, h⟩ := of_bind h
   refine wpS.only 1 (op_call (d := (some 16)) (by kernel_rfl) hs (fun _ => by kernel_rfl) (gcm_read.ok hg _ (hs.rowR 0 rfl)) ?_)
   intro w gw hs
   refine ⟨fun _ => trivial, ?_⟩
   refine wpS.q 2 17 (.agg #[.int .u64 r1_0, .int .u64 r1_1, .int .u64 0, .int .u64 0]) ?_
   refine wpS.only 3 (op_box (t := 91) (v := .agg #[.int .u64 r1_0, .int .u64 r1_1, .int .u64 0, .int .u64 0]) (d := (some 18)) (by kernel_rfl) hs ([.int .u64 r1_0, .int .u64 r1_1, .int .u64 0, .int .u64 0]) (by kernel_rfl) (by kernel_rfl) ?_)
   intro b2 w gw hs
   refine ⟨fun _ => trivial, ?_⟩
   refine wpS.q 4 5 (.pointer (some ⟨b2, 0, none⟩)) ?_
   refine wpS.fin rfl (kr7 _ _ (then_n (ks6 _ _ (xseq_k fun KS8 ks8 => (xregS [0, 1, 2] fun KR9 kr9 => ?_)))))
   refine wpS.qs [(0, 19, .pointer (some ⟨b2, 0, none⟩)), (1, 20, .slice a1_A a1_n a1_c)] ?_
   obtain ⟨⟨r3_0_0, r3_0_1, r3_1_0, r3_1_1⟩, hg, h⟩ := of_bind h
   refine wpS.only 2 (op_callX (d := (some 21)) (by kernel_rfl) hs 0 rfl (fun _ => by kernel_rfl) (gcm_summer_add.ok hg _ (hs.rowR 1 rfl) (hs.blkAt 0 rfl) (hs.farR 0 1 rfl rfl)) ?_)
   intro w kp hs
   have hs := hs.conv (L' := [.blk b2 ([.int .u64 r3_0_0, .int .u64 r3_0_1, .int .u64 r3_1_0, .int .u64 r3_1_1]) 91]) rfl
   refine ⟨fun _ => trivial, ?_⟩
   refine wpS.fin rfl (kr9 _ _ (then_n (ks8 _ _ (xseq_k fun KS10 ks10 => (xregS [0, 1, 2, 3, 4, 5] fun KR11 kr11 => ?_)))))
   refine wpS.qs [(0, 22, .pointer (some ⟨b2, 0, none⟩)), (1, 23, .pointer (some ⟨b2, 0, none⟩)), (2, 24, .pointer (some ⟨b2, 2, none⟩))] ?_
   refine wpS.tk 3 true (some 25) (.agg #[.int .u64 r3_1_0, .int .u64 r3_1_1]) (yld_loadN (e := 84) (n := 2) (o := 2) hs 0 rfl (by kernel_rfl) (by kernel_rfl) (by kernel_rfl) (by simp [enc_len]) (by simp [enc_len]) .grow) ?_
   obtain ⟨r4, hg, h⟩ := of_bind h
   refine wpS.only 4 (op_callH (d := (some 26)) (by kernel_rfl) hs (fun _ => by kernel_rfl) (gcm_element_bytes.ok hg _) ?_)
   rintro ⟨r4_A, r4_n, r4_c⟩ w gw hs
   have hs := hs.conv (L' := [.ownL (CI .u8) r4_A r4_n r4_c r4 5, .blk b2 ([.int .u64 r3_0_0, .int .u64 r3_0_1, .int .u64 r3_1_0, .int .u64 r3_1_1]) 91]) rfl
   refine ⟨fun _ => trivial, ?_⟩
   refine wpS.q 5 4 (.slice r4_A r4_n r4_c) ?_
   refine wpS.fin rfl (kr11 _ _ (then_n (ks10 _ _ (xret ?_))))
   have q0 := of_some h
   subst q0
   exact qq _ _ (post_ret (by kernel_rfl) (run_results [.tmp 4] [.slice r4_A r4_n r4_c] (by kernel_rfl) (.cons (res_tmp (by kernel_rfl)) .nil)) ⟨⟨r4_A, r4_n, r4_c⟩, congrArg Ending.returned (by kernel_rfl), ((hs.drop (.cons_cons _ (.cons _ .slnil))).pickR pick_nil)⟩)
  refine wpS.tk 7 false (some 13) (.bool true) (yld_b (nt hc) (fun _ => by kernel_rfl)) ?_
  refine wpS.q 8 14 (.bool true) ?_
  refine wpS.fin rfl (kr5 _ _ (then_n (ks4 _ _ (wp_cond_t (by kernel_rfl) (xseq_k fun KS12 ks12 => (xregS [0] fun KR13 kr13 => ?_))))))
  refine wpS.q 0 4 (.slice none 0 0) ?_
  refine wpS.fin rfl (kr13 _ _ (then_n (ks12 _ _ (xret (then_r ?_)))))
  have q0 := of_some h
  subst q0
  have hs := hs.addNilL (CI .u8) 5
  exact qq _ _ (post_ret (by kernel_rfl) (run_results [.tmp 4] [.slice none 0 0] (by kernel_rfl) (.cons (res_tmp (by kernel_rfl)) .nil)) ⟨⟨none, 0, 0⟩, congrArg Ending.returned (by kernel_rfl), (hs.pickR pick_nil)⟩)
 refine wpS.tk 2 false (some 8) (.bool true) (yld_b (nt hc) (fun _ => by kernel_rfl)) ?_
 refine wpS.qs [(3, 9, .bool true), (4, 10, undef), (5, 11, undef), (6, 12, undef), (7, 13, undef), (8, 14, .bool true)] ?_
 refine wpS.fin rfl (kr5 _ _ (then_n (ks4 _ _ (wp_cond_t (by kernel_rfl) (xseq_k fun KS14 ks14 => (xregS [0] fun KR15 kr15 => ?_))))))
 refine wpS.q 0 4 (.slice none 0 0) ?_
 refine wpS.fin rfl (kr15 _ _ (then_n (ks14 _ _ (xret (then_r ?_)))))
 have q0 := of_some h
 subst q0
 have hs := hs.addNilL (CI .u8) 5
 exact qq _ _ (post_ret (by kernel_rfl) (run_results [.tmp 4] [.slice none 0 0] (by kernel_rfl) (.cons (res_tmp (by kernel_rfl)) .nil)) ⟨⟨none, 0, 0⟩, congrArg Ending.returned (by kernel_rfl), (hs.pickR pick_nil)⟩)
end Go.Proofs.Ytmpagpbnpgcecaa
