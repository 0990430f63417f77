/- Printed by this work's own program: the code of each function below comes to the answer that its plain form tells. -/
import Derived.Test.YtmpagpbnpgcecaaMd
import Derived.Test.YtmpagpbnpgcecaaProg
import Derived.Test.YtmpagpbnpgcecaaRFAesChains
import Derived.Test.YtmpagpbnpgcecaaRX3
import Derived.Test.YtmpagpbnpgcecaaRX4
set_option linter.unusedVariables false
set_option linter.unusedSimpArgs false
set_option maxRecDepth 100000
set_option maxHeartbeats 4000000
namespace Go.Proofs.Ytmpagpbnpgcecaa
open Go.Mx
attribute [local irreducible] wpOp

theorem ref10_Chain.ok {K : Nat} {a0 : List Int} {a1 : List Int} {a2 : List Int} {r0 : List Int} {r1 : Int} {a0_A : Option Addr} {a0_n : Nat} {a0_c : Nat} {a1_A : Option Addr} {a1_n : Nat} {a1_c : Nat} {a2_A : Option Addr} {a2_n : Nat} {a2_c : Nat} (h : ref10_Chain.f K a0 a1 a2 = some (r0, r1)) (w0 : World) (hp0 : RowL (CI .u8) w0 a0_A a0_n a0_c a0) (hp1 : RowL (CI .u8) w0 a1_A a1_n a1_c a1) (hp2 : RowL (CI .u8) w0 a2_A a2_n a2_c a2) : Calls Try.prog 35 #[.slice a0_A a0_n a0_c, .slice a1_A a1_n a1_c, .slice a2_A a2_n a2_c] w0 fun e w' => ∃ h : (Option Addr × Nat × Nat), e = .returned (.tuple #[.slice h.1 h.2.1 h.2.2, .int .i64 r1]) ∧ St w0 [] [.ownL (CI .u8) h.1 h.2.1 h.2.2 r0 5] [] w' := by
 refine calls_k Try.func35 rfl fun Q qq => ?_
 have hs := St.startR (all_cons (RowP.ent hp0) (all_cons (RowP.ent hp1) (all_cons (RowP.ent hp2) all_nil)))
 refine wp_conv (a' := ⟨#[.slice a0_A a0_n a0_c, .slice a1_A a1_n a1_c, .slice a2_A a2_n a2_c, undef, undef, undef, undef, undef, undef, undef, undef, undef, undef, undef, undef, undef, undef, undef, undef, undef, undef, undef, undef, undef, undef, undef, undef, undef, undef, undef, undef, undef, undef, undef, undef, undef, undef, undef, undef, undef, undef, undef, undef, undef, undef, undef, undef, undef, undef, undef, undef, undef, undef, undef, undef, undef, undef, undef, undef, undef, undef, undef, undef, undef, undef, undef, undef, undef, undef, undef, undef], []⟩) (by kernel_rfl) ?_
 refine xseq_k fun KS1 ks1 => ?_
 refine xregS [0, 1] fun KR2 kr2 => ?_
 refine wpS.qs [(0, 6, .slice none 0 0), (1, 7, .int .i64 0)] ?_
 refine wpS.fin rfl (kr2 _ _ (then_n (ks1 _ _ (xseq_k fun KS3 ks3 => (xseq_k fun KS4 ks4 => (xregS [0, 1, 2] fun KR5 kr5 => ?_))))))
 refine wpS.q 0 17 (.slice a0_A a0_n a0_c) ?_
 obtain ⟨r1, hg, h⟩ := of_bind h
 cases r1 with
 | true =>
  have h := of_if_t h
  refine wpS.only 1 (op_call (d := (some 18)) (by kernel_rfl) hs (fun _ => by kernel_rfl) (ref10_Sized.ok hg _ (hs.rowR 0 rfl)) ?_)
  intro w gw hs
  refine ⟨fun _ => trivial, ?_⟩
  refine wpS.q 2 19 (.bool false) ?_
  refine wpS.fin rfl (kr5 _ _ (then_n (ks4 _ _ (wp_cond_f (by kernel_rfl) (xskip (then_n (ks3 _ _ (xseq_k fun KS6 ks6 => (xseq_k fun KS7 ks7 => (xregS [0, 1, 2] fun KR8 kr8 => ?_))))))))))
  refine wpS.q 0 20 (.slice a1_A a1_n a1_c) ?_
  refine wpS.tk 1 false (some 21) (.int .i64 (a1.length : Int)) (yld_lenL (hs.rowR 1 rfl) (fun _ => by kernel_rfl)) ?_
  rcases of_if h with ⟨hc, h⟩ | ⟨hc, h⟩
  ·refine wpS.tk 2 false (some 22) (.bool false) (yld_b (nf hc) (fun _ => by kernel_rfl)) ?_
   refine wpS.fin rfl (kr8 _ _ (then_n (ks7 _ _ (wp_cond_f (by kernel_rfl) (xskip (then_n (ks6 _ _ (xseq_k fun KS9 ks9 => (xseq_k fun KS10 ks10 => (xregS [0, 1, 2] fun KR11 kr11 => ?_))))))))))
   refine wpS.q 0 23 (.slice a2_A a2_n a2_c) ?_
   refine wpS.tk 1 false (some 24) (.int .i64 (a2.length : Int)) (yld_lenL (hs.rowR 2 rfl) (fun _ => by kernel_rfl)) ?_
   rcases of_if h with ⟨hc, h⟩ | ⟨hc, h⟩
   ·refine wpS.tk 2 false (some 25) (.bool true) (yld_b (dt hc) (fun _ => by kernel_rfl)) ?_
    refine wpS.fin rfl (kr11 _ _ (then_n (ks10 _ _ (wp_cond_t (by kernel_rfl) (xseq_k fun KS12 ks12 => (xregS [0, 1] fun KR13 kr13 => ?_))))))
    refine wpS.qs [(0, 6, .slice none 0 0), (1, 7, .int .i64 2)] ?_
    refine wpS.fin rfl (kr13 _ _ (then_n (ks12 _ _ (xret (then_r ?_)))))
    obtain ⟨q0, qr0⟩ := Prod.mk.inj (of_some h)
    have q1 := qr0
    subst q0
    subst q1
    have hs := hs.addNilL (CI .u8) 5
    exact qq _ _ (post_ret (by kernel_rfl) (run_results [.tmp 6, .tmp 7] [.slice none 0 0, .int .i64 2] (by kernel_rfl) (.cons (res_tmp (by kernel_rfl)) (.cons (res_tmp (by kernel_rfl)) .nil))) ⟨⟨none, 0, 0⟩, congrArg Ending.returned (by kernel_rfl), (hs.pickR pick_nil)⟩)
   refine wpS.tk 2 false (some 25) (.bool false) (yld_b (df hc) (fun _ => by kernel_rfl)) ?_
   refine wpS.fin rfl (kr11 _ _ (then_n (ks10 _ _ (wp_cond_f (by kernel_rfl) (xskip (then_n (ks9 _ _ (xseq_k fun KS14 ks14 => (xregS [0, 1, 2, 3, 4] fun KR15 kr15 => ?_)))))))))
   refine wpS.q 0 26 (.slice a2_A a2_n a2_c) ?_
   refine wpS.tk 1 false (some 27) (.int .i64 (a2.length : Int)) (yld_lenL (hs.rowR 2 rfl) (fun _ => by kernel_rfl)) ?_
   refine wpS.qs [(2, 28, .int .i64 (irem .i64 (a2.length : Int) 16)), (3, 29, .int .i64 (isub .i64 16 (irem .i64 (a2.length : Int) 16)))] ?_
   obtain ⟨x2, hx, h⟩ := of_bind h
   refine wpS.tk 4 false (some 8) (.int .i64 x2) (yld_int hx (fun _ => by kernel_rfl)) ?_
   refine wpS.fin rfl (kr15 _ _ (then_n (ks14 _ _ (xseq_k fun KS16 ks16 => (xregS [0] fun KR17 kr17 => ?_)))))
   refine wpS.q 0 9 (.slice none 0 0) ?_
   refine wpS.fin rfl (kr17 _ _ (then_n (ks16 _ _ (xseq_k fun KS18 ks18 => (xregS [0, 1, 2, 3] fun KR19 kr19 => ?_)))))
   refine wpS.qs [(0, 30, .slice none 0 0), (1, 31, .slice a2_A a2_n a2_c)] ?_
   obtain ⟨h0, h⟩ := of_chk h
   have hs := hs.addNilL (CI .u8) 5
   refine wpS.only 2 (op_appendT (C := (CI .u8)) (t := 26) (ty := 26) (e := 5) (bytes := 1) (B := 140737488355328) (d := (some 32)) (by kernel_rfl) hs 0 rfl (hs.rowR 2 rfl) (by kernel_rfl) (by kernel_rfl) (by kernel_rfl) (by kernel_rfl) (by kernel_rfl) h0 (by decide) (by decide) ?_)
   intro s3_A s3_n s3_c w hs
   refine ⟨fun _ => trivial, ?_⟩
   refine wpS.q 3 9 (.slice s3_A s3_n s3_c) ?_
   refine wpS.fin rfl (kr19 _ _ (then_n (ks18 _ _ (xseq_k fun KS20 ks20 => (xseq_k fun KS21 ks21 => (xregS [0] fun KR22 kr22 => ?_))))))
   refine wpS.q 0 10 (.int .i64 0) ?_
   refine wpS.fin rfl (kr22 _ _ (then_n (ks21 _ _ ?_)))
   obtain ⟨y6, hy, hk0⟩ := of_bind h
   refine wp_exq (N := fun a w => ∃ (y6_A : Option Addr) (y6_n : Nat) (y6_c : Nat), St w0 [] [.ownL (CI .u8) y6_A y6_n y6_c y6 5] [.rowL (CI .u8) a0_A a0_n a0_c a0, .rowL (CI .u8) a1_A a1_n a1_c a1, .rowL (CI .u8) a2_A a2_n a2_c a2] w ∧ ∃ g24 : Nat → Value, a = ⟨#[.slice a0_A a0_n a0_c, .slice a1_A a1_n a1_c, .slice a2_A a2_n a2_c, undef, undef, undef, .slice none 0 0, .int .i64 0, .int .i64 x2, .slice y6_A y6_n y6_c, (g24 10), undef, undef, undef, undef, undef, undef, .slice a0_A a0_n a0_c, .bool true, .bool false, .slice a1_A a1_n a1_c, .int .i64 (a1.length : Int), .bool false, .slice a2_A a2_n a2_c, .int .i64 (a2.length : Int), .bool false, .slice a2_A a2_n a2_c, .int .i64 (a2.length : Int), .int .i64 (irem .i64 (a2.length : Int) 16), .int .i64 (isub .i64 16 (irem .i64 (a2.length : Int) 16)), .slice none 0 0, .slice a2_A a2_n a2_c, .slice s3_A s3_n s3_c, (g24 33), (g24 34), (g24 35), (g24 36), (g24 37), (g24 38), (g24 39), (g24 40), (g24 41), (g24 42), undef, undef, undef, undef, undef, undef, undef, undef, undef, undef, undef, undef, undef, undef, undef, undef, undef, undef, undef, undef, undef, undef, undef, undef, undef, undef, undef, undef], []⟩) (fun N0 nn0 => ?_) ?_
   ·clear hk0
    refine xblock ?_
    refine wp_loop_k (fun n a w => ∃ z4 z5, ∃ (z5_A : Option Addr) (z5_n : Nat) (z5_c : Nat), ref10_Chain.l0 K n x2 z4 z5 = some y6 ∧ St w0 [] [.ownL (CI .u8) z5_A z5_n z5_c z5 5] [.rowL (CI .u8) a0_A a0_n a0_c a0, .rowL (CI .u8) a1_A a1_n a1_c a1, .rowL (CI .u8) a2_A a2_n a2_c a2] w ∧ ∃ g23 : Nat → Value, a = ⟨#[.slice a0_A a0_n a0_c, .slice a1_A a1_n a1_c, .slice a2_A a2_n a2_c, undef, undef, undef, .slice none 0 0, .int .i64 0, .int .i64 x2, .slice z5_A z5_n z5_c, .int .i64 z4, undef, undef, undef, undef, undef, undef, .slice a0_A a0_n a0_c, .bool true, .bool false, .slice a1_A a1_n a1_c, .int .i64 (a1.length : Int), .bool false, .slice a2_A a2_n a2_c, .int .i64 (a2.length : Int), .bool false, .slice a2_A a2_n a2_c, .int .i64 (a2.length : Int), .int .i64 (irem .i64 (a2.length : Int) 16), .int .i64 (isub .i64 16 (irem .i64 (a2.length : Int) 16)), .slice none 0 0, .slice a2_A a2_n a2_c, .slice s3_A s3_n s3_c, (g23 33), (g23 34), (g23 35), (g23 36), (g23 37), (g23 38), (g23 39), (g23 40), (g23 41), (g23 42), undef, undef, undef, undef, undef, undef, undef, undef, undef, undef, undef, undef, undef, undef, undef, undef, undef, undef, undef, undef, undef, undef, undef, undef, undef, undef, undef, undef], []⟩) K ⟨0, (([] : List Int) ++ a2), s3_A, s3_n, s3_c, hy, hs.conv rfl, exg (by kernel_rfl)⟩ ?_
    clear hs h hy
    rintro n a w ⟨z4, z5, z5_A, z5_n, z5_c, h, hs, g23, rfl⟩ KL0 kl0
    cases n with
    | zero => exact nomatch (show none = some _ from h)
    | succ n =>
     refine xseq_k fun KS25 ks25 => ?_
     refine xseq_k fun KS26 ks26 => ?_
     refine xregS [0, 1, 2] fun KR27 kr27 => ?_
     refine wpS.qs [(0, 33, .int .i64 z4), (1, 34, .int .i64 x2)] ?_
     rcases of_if h with ⟨hc, h⟩ | ⟨hc, h⟩
     ·refine wpS.tk 2 false (some 35) (.bool true) (yld_b (dt hc) (fun _ => by kernel_rfl)) ?_
      refine wpS.fin rfl (kr27 _ _ (then_n (ks26 _ _ (wp_cond_t (by kernel_rfl) (xskip (then_n (ks25 _ _ (xseq_k fun KS28 ks28 => (xblock (xregS [0, 1, 2, 3, 4, 5] fun KR29 kr29 => ?_))))))))))
      refine wpS.qs [(0, 38, .slice z5_A z5_n z5_c), (1, 39, .int .i64 x2), (2, 40, .int .u8 (iconv .u8 x2))] ?_
      refine wpS.only 3 (op_lit (C := (CI .u8)) (t := 26) (e := 5) (len := 1) (parts := #[(0, .int .u8 (iconv .u8 x2))]) (l := [(iconv .u8 x2)]) (d := (some 41)) (by kernel_rfl) hs (by kernel_rfl) (by kernel_rfl) (by kernel_rfl) (z := .int .u8 0) (by kernel_rfl) rfl (by decide) (by decide) (by kernel_rfl) ?_)
      intro s7_A s7_n s7_c w gw hs
      refine ⟨fun _ => trivial, ?_⟩
      obtain ⟨h0, h⟩ := of_chk h
      refine wpS.only 4 (op_appendT (C := (CI .u8)) (t := 26) (ty := 26) (e := 5) (bytes := 1) (B := 140737488355328) (d := (some 42)) (by kernel_rfl) hs 1 rfl (hs.rowL 0 rfl) (by kernel_rfl) (by kernel_rfl) (by kernel_rfl) (by kernel_rfl) (by kernel_rfl) h0 (by decide) (by decide) ?_)
      intro s8_A s8_n s8_c w hs
      refine ⟨fun _ => trivial, ?_⟩
      refine wpS.q 5 9 (.slice s8_A s8_n s8_c) ?_
      refine wpS.fin rfl (kr29 _ _ (inBlock_n (then_n (ks28 _ _ (xregS [0, 1, 2] fun KR30 kr30 => ?_)))))
      refine wpS.qs [(0, 36, .int .i64 z4), (1, 37, .int .i64 (iadd .i64 z4 1))] ?_
      obtain ⟨x9, hx, h⟩ := of_bind h
      refine wpS.tk 2 false (some 10) (.int .i64 x9) (yld_int hx (fun _ => by kernel_rfl)) ?_
      refine wpS.fin rfl (kr30 _ _ ?_)
      exact then_n (kl0 _ _ ⟨n, Nat.lt_succ_self n, x9, (z5 ++ ([(iconv .u8 x2)] : List Int)), s8_A, s8_n, s8_c, h, (hs.drop (.cons _ (.cons_cons _ .slnil))), exg (by kernel_rfl)⟩)
     refine wpS.tk 2 false (some 35) (.bool false) (yld_b (df hc) (fun _ => by kernel_rfl)) ?_
     refine wpS.fin rfl (kr27 _ _ (then_n (ks26 _ _ (wp_cond_f (by kernel_rfl) (xexit (then_x (then_x (inBlock_hit ?_))))))))
     have q0 := of_some h
     subst q0
     exact exq_n (nn0 _ _ ⟨z5_A, z5_n, z5_c, (hs.conv rfl), exg (by kernel_rfl)⟩)
   clear hs h hy
   rintro a w ⟨y6_A, y6_n, y6_c, hs, g24, rfl⟩
   have h := hk0
   refine then_n (ks20 _ _ (xseq_k fun KS31 ks31 => (xregS [0, 1, 2, 3, 4, 5, 6, 7] fun KR32 kr32 => ?_)))
   obtain ⟨⟨r10, r11⟩, hg, h⟩ := of_bind h
   refine wpS.only 0 (op_call (d := (some 44)) (by kernel_rfl) hs (fun _ => by kernel_rfl) (ref10_boxes.ok hg _) ?_)
   intro w gw hs
   refine ⟨fun _ => trivial, ?_⟩
   refine wpS.qs [(1, 43, .tuple #[.agg (enc .u8 r10).toArray, .agg (enc .u8 r11).toArray]), (2, 45, .agg (enc .u8 r10).toArray), (3, 46, .agg (enc .u8 r11).toArray)] ?_
   refine wpS.only 4 (op_alloc (t := 46) (d := (some 11)) (by kernel_rfl) hs (enc .u8 (zeroA 256)) (.agg (enc .u8 (zeroA 256)).toArray) (by kernel_rfl) (by kernel_rfl) (by kernel_rfl) ?_)
   intro b12 w gw hs
   refine ⟨fun _ => trivial, ?_⟩
   refine wpS.only 5 (op_alloc (t := 46) (d := (some 12)) (by kernel_rfl) hs (enc .u8 (zeroA 256)) (.agg (enc .u8 (zeroA 256)).toArray) (by kernel_rfl) (by kernel_rfl) (by kernel_rfl) ?_)
   intro b13 w gw hs
   refine ⟨fun _ => trivial, ?_⟩
   refine wpS.only 6 (op_storeW (t := 46) (v := .agg (enc .u8 r10).toArray) (d := none) (by kernel_rfl) hs 1 rfl (vs := enc .u8 r10) (n := 256) (by kernel_rfl) (by kernel_rfl) (by kernel_rfl) (by simp [enc_len]) (by simp [enc_len]) (by intro u hu; exact enc_one _ _ u hu) ?_)
   intro w kp hs
   refine ⟨fun _ => trivial, ?_⟩
   refine wpS.only 7 (op_storeW (t := 46) (v := .agg (enc .u8 r11).toArray) (d := none) (by kernel_rfl) hs 0 rfl (vs := enc .u8 r11) (n := 256) (by kernel_rfl) (by kernel_rfl) (by kernel_rfl) (by simp [enc_len]) (by simp [enc_len]) (by intro u hu; exact enc_one _ _ u hu) ?_)
   intro w kp hs
   refine ⟨fun _ => trivial, ?_⟩
   refine wpS.fin rfl (kr32 _ _ (then_n (ks31 _ _ (xseq_k fun KS33 ks33 => (xregS [0, 1, 2, 3] fun KR34 kr34 => ?_)))))
   refine wpS.q 0 47 (.slice a0_A a0_n a0_c) ?_
   refine wpS.tk 1 true (some 48) (.agg (enc .u8 r10).toArray) (yld_loadW (e := 46) (n := 256) hs 1 rfl (by kernel_rfl) (by kernel_rfl) (by kernel_rfl) (by exact enc_len _ _) .grow) ?_
   obtain ⟨r14, hg, h⟩ := of_bind h
   refine wpS.only 2 (op_callH (d := (some 49)) (by kernel_rfl) hs (fun _ => by kernel_rfl) (ref10_keys.ok hg _ (hs.rowR 0 rfl)) ?_)
   rintro ⟨r14_A, r14_n, r14_c⟩ w gw hs
   have hs := hs.conv (L' := [.ownL (CI .u8) r14_A r14_n r14_c r14 5, .blk b13 (enc .u8 r11) 46, .blk b12 (enc .u8 r10) 46, .ownL (CI .u8) y6_A y6_n y6_c y6 5]) rfl
   refine ⟨fun _ => trivial, ?_⟩
   refine wpS.q 3 13 (.slice r14_A r14_n r14_c) ?_
   refine wpS.fin rfl (kr34 _ _ (then_n (ks33 _ _ (xseq_k fun KS35 ks35 => (xregS [0] fun KR36 kr36 => ?_)))))
   refine wpS.q 0 14 (.slice none 0 0) ?_
   refine wpS.fin rfl (kr36 _ _ (then_n (ks35 _ _ (xseq_k fun KS37 ks37 => (xregS [0, 1] fun KR38 kr38 => ?_)))))
   refine wpS.qs [(0, 50, .slice a1_A a1_n a1_c), (1, 15, .slice a1_A a1_n a1_c)] ?_
   refine wpS.fin rfl (kr38 _ _ (then_n (ks37 _ _ (xseq_k fun KS39 ks39 => (xseq_k fun KS40 ks40 => (xregS [0] fun KR41 kr41 => ?_))))))
   refine wpS.q 0 16 (.int .i64 0) ?_
   refine wpS.fin rfl (kr41 _ _ (then_n (ks40 _ _ ?_)))
   have hs := hs.freeze 3 rfl
   have hs := hs.addNilL (CI .u8) 5
   obtain ⟨y18, hy, hk1⟩ := of_bind h
   refine wp_exq (N := fun a w => ∃ (y18_A : Option Addr) (y18_n : Nat) (y18_c : Nat), St w0 [] [.ownL (CI .u8) y18_A y18_n y18_c y18 5, .ownL (CI .u8) r14_A r14_n r14_c r14 5, .blk b13 (enc .u8 r11) 46, .blk b12 (enc .u8 r10) 46] [.rowL (CI .u8) y6_A y6_n y6_c y6, .rowL (CI .u8) a0_A a0_n a0_c a0, .rowL (CI .u8) a1_A a1_n a1_c a1, .rowL (CI .u8) a2_A a2_n a2_c a2] w ∧ ∃ g43 : Nat → Value, a = ⟨#[.slice a0_A a0_n a0_c, .slice a1_A a1_n a1_c, .slice a2_A a2_n a2_c, undef, undef, undef, .slice none 0 0, .int .i64 0, .int .i64 x2, .slice y6_A y6_n y6_c, (g24 10), .pointer (some ⟨b12, 0, none⟩), .pointer (some ⟨b13, 0, none⟩), .slice r14_A r14_n r14_c, .slice y18_A y18_n y18_c, (g43 15), (g43 16), .slice a0_A a0_n a0_c, .bool true, .bool false, .slice a1_A a1_n a1_c, .int .i64 (a1.length : Int), .bool false, .slice a2_A a2_n a2_c, .int .i64 (a2.length : Int), .bool false, .slice a2_A a2_n a2_c, .int .i64 (a2.length : Int), .int .i64 (irem .i64 (a2.length : Int) 16), .int .i64 (isub .i64 16 (irem .i64 (a2.length : Int) 16)), .slice none 0 0, .slice a2_A a2_n a2_c, .slice s3_A s3_n s3_c, (g24 33), (g24 34), (g24 35), (g24 36), (g24 37), (g24 38), (g24 39), (g24 40), (g24 41), (g24 42), .tuple #[.agg (enc .u8 r10).toArray, .agg (enc .u8 r11).toArray], .tuple #[.agg (enc .u8 r10).toArray, .agg (enc .u8 r11).toArray], .agg (enc .u8 r10).toArray, .agg (enc .u8 r11).toArray, .slice a0_A a0_n a0_c, .agg (enc .u8 r10).toArray, .slice r14_A r14_n r14_c, .slice a1_A a1_n a1_c, (g43 51), (g43 52), (g43 53), (g43 54), (g43 55), (g43 56), (g43 57), (g43 58), (g43 59), (g43 60), (g43 61), (g43 62), (g43 63), (g43 64), (g43 65), (g43 66), (g43 67), (g43 68), (g43 69), undef], []⟩) (fun N1 nn1 => ?_) ?_
   ·clear hk1
    refine xblock ?_
    refine wp_loop_k (fun n a w => ∃ z15 z16 z17, ∃ (z16_A : Option Addr) (z16_n : Nat) (z16_c : Nat) (z17_A : Option Addr) (z17_n : Nat) (z17_c : Nat), ref10_Chain.l1 K n y6 r10 r14 z15 z16 z17 = some y18 ∧ St w0 [] [.ownL (CI .u8) z16_A z16_n z16_c z16 5, .ownL (CI .u8) r14_A r14_n r14_c r14 5, .blk b13 (enc .u8 r11) 46, .blk b12 (enc .u8 r10) 46] [.rowL (CI .u8) z17_A z17_n z17_c z17, .rowL (CI .u8) y6_A y6_n y6_c y6, .rowL (CI .u8) a0_A a0_n a0_c a0, .rowL (CI .u8) a1_A a1_n a1_c a1, .rowL (CI .u8) a2_A a2_n a2_c a2] w ∧ ∃ g42 : Nat → Value, a = ⟨#[.slice a0_A a0_n a0_c, .slice a1_A a1_n a1_c, .slice a2_A a2_n a2_c, undef, undef, undef, .slice none 0 0, .int .i64 0, .int .i64 x2, .slice y6_A y6_n y6_c, (g24 10), .pointer (some ⟨b12, 0, none⟩), .pointer (some ⟨b13, 0, none⟩), .slice r14_A r14_n r14_c, .slice z16_A z16_n z16_c, .slice z17_A z17_n z17_c, .int .i64 z15, .slice a0_A a0_n a0_c, .bool true, .bool false, .slice a1_A a1_n a1_c, .int .i64 (a1.length : Int), .bool false, .slice a2_A a2_n a2_c, .int .i64 (a2.length : Int), .bool false, .slice a2_A a2_n a2_c, .int .i64 (a2.length : Int), .int .i64 (irem .i64 (a2.length : Int) 16), .int .i64 (isub .i64 16 (irem .i64 (a2.length : Int) 16)), .slice none 0 0, .slice a2_A a2_n a2_c, .slice s3_A s3_n s3_c, (g24 33), (g24 34), (g24 35), (g24 36), (g24 37), (g24 38), (g24 39), (g24 40), (g24 41), (g24 42), .tuple #[.agg (enc .u8 r10).toArray, .agg (enc .u8 r11).toArray], .tuple #[.agg (enc .u8 r10).toArray, .agg (enc .u8 r11).toArray], .agg (enc .u8 r10).toArray, .agg (enc .u8 r11).toArray, .slice a0_A a0_n a0_c, .agg (enc .u8 r10).toArray, .slice r14_A r14_n r14_c, .slice a1_A a1_n a1_c, (g42 51), (g42 52), (g42 53), (g42 54), (g42 55), (g42 56), (g42 57), (g42 58), (g42 59), (g42 60), (g42 61), (g42 62), (g42 63), (g42 64), (g42 65), (g42 66), (g42 67), (g42 68), (g42 69), undef], []⟩) K ⟨0, ([] : List Int), a1, none, 0, 0, a1_A, a1_n, a1_c, hy, (hs.conv (L' := [.ownL (CI .u8) none 0 0 ([] : List Int) 5, .ownL (CI .u8) r14_A r14_n r14_c r14 5, .blk b13 (enc .u8 r11) 46, .blk b12 (enc .u8 r10) 46]) rfl).pickR (pick_cons 2 rfl (pick_cons 0 rfl (pick_cons 1 rfl (pick_cons 2 rfl (pick_cons 3 rfl pick_nil))))), exg (by kernel_rfl)⟩ ?_
    clear hs h hy
    rintro n a w ⟨z15, z16, z17, z16_A, z16_n, z16_c, z17_A, z17_n, z17_c, h, hs, g42, rfl⟩ KL1 kl1
    cases n with
    | zero => exact nomatch (show none = some _ from h)
    | succ n =>
     refine xseq_k fun KS44 ks44 => ?_
     refine xseq_k fun KS45 ks45 => ?_
     refine xregS [0, 1, 2, 3] fun KR46 kr46 => ?_
     refine wpS.qs [(0, 51, .int .i64 z15), (1, 52, .slice y6_A y6_n y6_c)] ?_
     refine wpS.tk 2 false (some 53) (.int .i64 (y6.length : Int)) (yld_lenL (hs.rowR 1 rfl) (fun _ => by kernel_rfl)) ?_
     rcases of_if h with ⟨hc, h⟩ | ⟨hc, h⟩
     ·refine wpS.tk 3 false (some 54) (.bool true) (yld_b (dt hc) (fun _ => by kernel_rfl)) ?_
      refine wpS.fin rfl (kr46 _ _ (then_n (ks45 _ _ (wp_cond_t (by kernel_rfl) (xskip (then_n (ks44 _ _ (xseq_k fun KS47 ks47 => (xblock (xseq_k fun KS48 ks48 => ?_))))))))))
      refine wp_regG [] (fun k => True) 11 (by kernel_rfl) (by kernel_rfl) (by kernel_rfl) fun KR49 kr49 => ?_
      have hs := hs.drawn1
      refine wpG.q 0 57 (.slice r14_A r14_n r14_c) ?_
      refine wpG.q 1 58 (.slice y6_A y6_n y6_c) ?_
      refine wpG.q 2 59 (.int .i64 z15) ?_
      refine wpG.q 3 60 (.int .i64 z15) ?_
      refine wpG.q 4 61 (.int .i64 (iadd .i64 z15 16)) ?_
      obtain ⟨h0, h⟩ := of_chk h
      obtain ⟨h1, h⟩ := of_chk h
      obtain ⟨h2, h⟩ := of_chk h
      obtain ⟨s19_A, hA⟩ : ∃ A, A = if y6_c = (z15 : Int).toNat then y6_A else adr y6_A ((z15 : Int).toNat * Cod.size (CI .u8)) := ⟨_, rfl⟩
      obtain ⟨s19_n, hn⟩ : ∃ n, n = ((iadd .i64 z15 16) : Int).toNat - (z15 : Int).toNat := ⟨_, rfl⟩
      obtain ⟨s19_c, hc⟩ : ∃ c, c = y6_c - (z15 : Int).toNat := ⟨_, rfl⟩
      refine wpG.tD 5 false (some 62) (.slice s19_A s19_n s19_c) (yld_sub (C := (CI .u8)) (t := 26) (e := 5) (low := some (.int .i64 z15)) (high := some (.int .i64 (iadd .i64 z15 16))) (lo := z15) (hi := (iadd .i64 z15 16)) (hs.rowR 1 rfl) (by kernel_rfl) (by kernel_rfl) (by kernel_rfl) (.inr ⟨_, rfl⟩) (.inr ⟨_, rfl⟩) h0 h1 h2 hA hn hc) ?_
      have hs := hs.addSub (C := (CI .u8)) 1 rfl h0 h1 h2 hA hn hc
      refine wpG.q 6 63 (.slice z17_A z17_n z17_c) ?_
      refine wpG.tD 8 true (some 65) (.agg (enc .u8 r10).toArray) (yld_loadW (e := 46) (n := 256) hs 3 rfl (by kernel_rfl) (by kernel_rfl) (by kernel_rfl) (by exact enc_len _ _) .grow) ?_
      obtain ⟨r20, hg, h⟩ := of_bind h
      refine wpG.only 7 (by kernel_rfl) (op_callH (d := (some 64)) (by kernel_rfl) hs (fun _ => by kernel_rfl) (ref01_Xor.ok hg _ (hs.rowR 0 rfl) (hs.rowR 1 rfl)) ?_)
      rintro ⟨r20_A, r20_n, r20_c⟩ w gw hs
      have hs := hs.conv (L' := [.ownL (CI .u8) r20_A r20_n r20_c r20 5, .ownL (CI .u8) z16_A z16_n z16_c z16 5, .ownL (CI .u8) r14_A r14_n r14_c r14 5, .blk b13 (enc .u8 r11) 46, .blk b12 (enc .u8 r10) 46]) rfl
      refine ⟨.of gw, ?_⟩
      obtain ⟨r21, hg, h⟩ := of_bind h
      refine wpG.only 9 (by kernel_rfl) (op_callH (d := (some 66)) (by kernel_rfl) hs (fun _ => by kernel_rfl) (ref10_there.ok hg _ (hs.rowL 2 rfl) (hs.rowL 0 rfl)) ?_)
      rintro ⟨r21_A, r21_n, r21_c⟩ w gw hs
      have hs := hs.conv (L' := [.ownL (CI .u8) r21_A r21_n r21_c r21 5, .ownL (CI .u8) r20_A r20_n r20_c r20 5, .ownL (CI .u8) z16_A z16_n z16_c z16 5, .ownL (CI .u8) r14_A r14_n r14_c r14 5, .blk b13 (enc .u8 r11) 46, .blk b12 (enc .u8 r10) 46]) rfl
      refine ⟨.of gw, ?_⟩
      refine wpG.q 10 15 (.slice r21_A r21_n r21_c) ?_
      refine wpG.fin (by kernel_rfl) rfl (kr49 _ _ ?_)
      refine then_n (ks48 _ _ (xregS [0, 1, 2, 3] fun KR50 kr50 => ?_))
      refine wpS.qs [(0, 67, .slice z16_A z16_n z16_c), (1, 68, .slice r21_A r21_n r21_c)] ?_
      obtain ⟨h0, h⟩ := of_chk h
      refine wpS.only 2 (op_appendT (C := (CI .u8)) (t := 26) (ty := 26) (e := 5) (bytes := 1) (B := 140737488355328) (d := (some 69)) (by kernel_rfl) hs 2 rfl (hs.rowL 0 rfl) (by kernel_rfl) (by kernel_rfl) (by kernel_rfl) (by kernel_rfl) (by kernel_rfl) h0 (by decide) (by decide) ?_)
      intro s22_A s22_n s22_c w hs
      refine ⟨fun _ => trivial, ?_⟩
      refine wpS.q 3 14 (.slice s22_A s22_n s22_c) ?_
      refine wpS.fin rfl (kr50 _ _ (inBlock_n (then_n (ks47 _ _ (xregS [0, 1, 2] fun KR51 kr51 => ?_)))))
      refine wpS.qs [(0, 55, .int .i64 z15), (1, 56, .int .i64 (iadd .i64 z15 16))] ?_
      obtain ⟨x23, hx, h⟩ := of_bind h
      refine wpS.tk 2 false (some 16) (.int .i64 x23) (yld_int hx (fun _ => by kernel_rfl)) ?_
      refine wpS.fin rfl (kr51 _ _ ?_)
      have hs := hs.freeze 0 rfl
      exact then_n (kl1 _ _ ⟨n, Nat.lt_succ_self n, x23, (z16 ++ r21), r21, s22_A, s22_n, s22_c, r21_A, r21_n, r21_c, h, ((hs.drop (.cons _ (.cons_cons _ (.cons_cons _ (.cons_cons _ (.cons_cons _ .slnil)))))).pickR (pick_cons 0 rfl (pick_cons 3 rfl (pick_cons 4 rfl (pick_cons 5 rfl (pick_cons 6 rfl pick_nil)))))), exg (by kernel_rfl)⟩)
     refine wpS.tk 3 false (some 54) (.bool false) (yld_b (df hc) (fun _ => by kernel_rfl)) ?_
     refine wpS.fin rfl (kr46 _ _ (then_n (ks45 _ _ (wp_cond_f (by kernel_rfl) (xexit (then_x (then_x (inBlock_hit ?_))))))))
     have q0 := of_some h
     subst q0
     exact exq_n (nn1 _ _ ⟨z16_A, z16_n, z16_c, (hs.pickR (pick_cons 1 rfl (pick_cons 2 rfl (pick_cons 3 rfl (pick_cons 4 rfl pick_nil))))), exg (by kernel_rfl)⟩)
   clear hs h hy
   rintro a w ⟨y18_A, y18_n, y18_c, hs, g43, rfl⟩
   have h := hk1
   refine then_n (ks39 _ _ (xseq_k fun KS52 ks52 => (xregS [0, 1, 2] fun KR53 kr53 => ?_)))
   refine wpS.qs [(0, 70, .slice y18_A y18_n y18_c), (1, 6, .slice y18_A y18_n y18_c), (2, 7, .int .i64 0)] ?_
   refine wpS.fin rfl (kr53 _ _ (then_n (ks52 _ _ (xret ?_))))
   obtain ⟨q0, qr0⟩ := Prod.mk.inj (of_some h)
   have q1 := qr0
   subst q0
   subst q1
   exact qq _ _ (post_ret (by kernel_rfl) (run_results [.tmp 6, .tmp 7] [.slice y18_A y18_n y18_c, .int .i64 0] (by kernel_rfl) (.cons (res_tmp (by kernel_rfl)) (.cons (res_tmp (by kernel_rfl)) .nil))) ⟨⟨y18_A, y18_n, y18_c⟩, congrArg Ending.returned (by kernel_rfl), ((hs.drop (.cons_cons _ (.cons _ (.cons _ (.cons _ .slnil))))).pickR pick_nil)⟩)
  refine wpS.tk 2 false (some 22) (.bool true) (yld_b (nt hc) (fun _ => by kernel_rfl)) ?_
  refine wpS.fin rfl (kr8 _ _ (then_n (ks7 _ _ (wp_cond_t (by kernel_rfl) (xseq_k fun KS54 ks54 => (xregS [0, 1] fun KR55 kr55 => ?_))))))
  refine wpS.qs [(0, 6, .slice none 0 0), (1, 7, .int .i64 14)] ?_
  refine wpS.fin rfl (kr55 _ _ (then_n (ks54 _ _ (xret (then_r ?_)))))
  obtain ⟨q0, qr0⟩ := Prod.mk.inj (of_some h)
  have q1 := qr0
  subst q0
  subst q1
  have hs := hs.addNilL (CI .u8) 5
  exact qq _ _ (post_ret (by kernel_rfl) (run_results [.tmp 6, .tmp 7] [.slice none 0 0, .int .i64 14] (by kernel_rfl) (.cons (res_tmp (by kernel_rfl)) (.cons (res_tmp (by kernel_rfl)) .nil))) ⟨⟨none, 0, 0⟩, congrArg Ending.returned (by kernel_rfl), (hs.pickR pick_nil)⟩)
 | false =>
  have h := of_if_f h
  refine wpS.only 1 (op_call (d := (some 18)) (by kernel_rfl) hs (fun _ => by kernel_rfl) (ref10_Sized.ok hg _ (hs.rowR 0 rfl)) ?_)
  intro w gw hs
  refine ⟨fun _ => trivial, ?_⟩
  refine wpS.q 2 19 (.bool true) ?_
  refine wpS.fin rfl (kr5 _ _ (then_n (ks4 _ _ (wp_cond_t (by kernel_rfl) (xseq_k fun KS56 ks56 => (xregS [0, 1] fun KR57 kr57 => ?_))))))
  refine wpS.qs [(0, 6, .slice none 0 0), (1, 7, .int .i64 10)] ?_
  refine wpS.fin rfl (kr57 _ _ (then_n (ks56 _ _ (xret (then_r ?_)))))
  obtain ⟨q0, qr0⟩ := Prod.mk.inj (of_some h)
  have q1 := qr0
  subst q0
  subst q1
  have hs := hs.addNilL (CI .u8) 5
  exact qq _ _ (post_ret (by kernel_rfl) (run_results [.tmp 6, .tmp 7] [.slice none 0 0, .int .i64 10] (by kernel_rfl) (.cons (res_tmp (by kernel_rfl)) (.cons (res_tmp (by kernel_rfl)) .nil))) ⟨⟨none, 0, 0⟩, congrArg Ending.returned (by kernel_rfl), (hs.pickR pick_nil)⟩)

theorem ref10_Unchain.ok {K : Nat} {a0 : List Int} {a1 : List Int} {a2 : List Int} {r0 : List Int} {r1 : Int} {a0_A : Option Addr} {a0_n : Nat} {a0_c : Nat} {a1_A : Option Addr} {a1_n : Nat} {a1_c : Nat} {a2_A : Option Addr} {a2_n : Nat} {a2_c : Nat} (h : ref10_Unchain.f K a0 a1 a2 = some (r0, r1)) (w0 : World) (hp0 : RowL (CI .u8) w0 a0_A a0_n a0_c a0) (hp1 : RowL (CI .u8) w0 a1_A a1_n a1_c a1) (hp2 : RowL (CI .u8) w0 a2_A a2_n a2_c a2) : Calls Try.prog 37 #[.slice a0_A a0_n a0_c, .slice a1_A a1_n a1_c, .slice a2_A a2_n a2_c] w0 fun e w' => ∃ h : (Option Addr × Nat × Nat), e = .returned (.tuple #[.slice h.1 h.2.1 h.2.2, .int .i64 r1]) ∧ St w0 [] [.ownL (CI .u8) h.1 h.2.1 h.2.2 r0 5] [] w' := by
 refine calls_k Try.func37 rfl fun Q qq => ?_
 have hs := St.startR (all_cons (RowP.ent hp0) (all_cons (RowP.ent hp1) (all_cons (RowP.ent hp2) all_nil)))
 refine wp_conv (a' := ⟨#[.slice a0_A a0_n a0_c, .slice a1_A a1_n a1_c, .slice a2_A a2_n a2_c, undef, undef, undef, undef, undef, undef, undef, undef, undef, undef, undef, undef, undef, undef, undef, undef, undef, undef, undef, undef, undef, undef, undef, undef, undef, undef, undef, undef, undef, undef, undef, undef, undef, undef, undef, undef, undef, undef, undef, undef, undef, undef, undef, undef, undef, undef, undef, undef, undef, undef, undef, undef, undef, undef, undef, undef, undef, undef, undef, undef, undef, undef, undef, undef, undef, undef, undef, undef, undef, undef, undef, undef, undef, undef, undef, undef, undef, undef, undef, undef, undef, undef, undef, undef, undef, undef, undef, undef, undef, undef, undef, undef, undef, undef, undef, undef, undef, undef, undef, undef], []⟩) (by kernel_rfl) ?_
 refine xseq_k fun KS1 ks1 => ?_
 refine xregS [0, 1] fun KR2 kr2 => ?_
 refine wpS.qs [(0, 6, .slice none 0 0), (1, 7, .int .i64 0)] ?_
 refine wpS.fin rfl (kr2 _ _ (then_n (ks1 _ _ (xseq_k fun KS3 ks3 => (xseq_k fun KS4 ks4 => (xregS [0, 1, 2] fun KR5 kr5 => ?_))))))
 refine wpS.q 0 16 (.slice a0_A a0_n a0_c) ?_
 obtain ⟨r1, hg, h⟩ := of_bind h
 cases r1 with
 | true =>
  have h := of_if_t h
  refine wpS.only 1 (op_call (d := (some 17)) (by kernel_rfl) hs (fun _ => by kernel_rfl) (ref10_Sized.ok hg _ (hs.rowR 0 rfl)) ?_)
  intro w gw hs
  refine ⟨fun _ => trivial, ?_⟩
  refine wpS.q 2 18 (.bool false) ?_
  refine wpS.fin rfl (kr5 _ _ (then_n (ks4 _ _ (wp_cond_f (by kernel_rfl) (xskip (then_n (ks3 _ _ (xseq_k fun KS6 ks6 => (xseq_k fun KS7 ks7 => (xregS [0, 1, 2, 3, 4, 5, 6, 7, 8, 9, 10, 11, 12, 13] fun KR8 kr8 => ?_))))))))))
  refine wpS.q 0 19 (.slice a1_A a1_n a1_c) ?_
  refine wpS.tk 1 false (some 20) (.int .i64 (a1.length : Int)) (yld_lenL (hs.rowR 1 rfl) (fun _ => by kernel_rfl)) ?_
  rcases of_if h with ⟨hc, h⟩ | ⟨hc, h⟩
  ·refine wpS.tk 2 false (some 21) (.bool false) (yld_b (nf hc) (fun _ => by kernel_rfl)) ?_
   refine wpS.qs [(3, 22, .bool false), (4, 23, .slice a2_A a2_n a2_c)] ?_
   refine wpS.tk 5 false (some 24) (.int .i64 (a2.length : Int)) (yld_lenL (hs.rowR 2 rfl) (fun _ => by kernel_rfl)) ?_
   rcases of_if h with ⟨hc, h⟩ | ⟨hc, h⟩
   ·refine wpS.tk 6 false (some 25) (.bool true) (yld_b (et hc) (fun _ => by kernel_rfl)) ?_
    refine wpS.qs [(7, 26, .bool true), (8, 27, .bool true), (9, 28, undef), (10, 29, undef), (11, 30, undef), (12, 31, undef), (13, 32, .bool true)] ?_
    refine wpS.fin rfl (kr8 _ _ (then_n (ks7 _ _ (wp_cond_t (by kernel_rfl) (xseq_k fun KS9 ks9 => (xregS [0, 1] fun KR10 kr10 => ?_))))))
    refine wpS.qs [(0, 6, .slice none 0 0), (1, 7, .int .i64 14)] ?_
    refine wpS.fin rfl (kr10 _ _ (then_n (ks9 _ _ (xret (then_r ?_)))))
    obtain ⟨q0, qr0⟩ := Prod.mk.inj (of_some h)
    have q1 := qr0
    subst q0
    subst q1
    have hs := hs.addNilL (CI .u8) 5
    exact qq _ _ (post_ret (by kernel_rfl) (run_results [.tmp 6, .tmp 7] [.slice none 0 0, .int .i64 14] (by kernel_rfl) (.cons (res_tmp (by kernel_rfl)) (.cons (res_tmp (by kernel_rfl)) .nil))) ⟨⟨none, 0, 0⟩, congrArg Ending.returned (by kernel_rfl), (hs.pickR pick_nil)⟩)
   refine wpS.tk 6 false (some 25) (.bool false) (yld_b (ef hc) (fun _ => by kernel_rfl)) ?_
   refine wpS.qs [(7, 26, .bool false), (8, 27, .bool false), (9, 28, .slice a2_A a2_n a2_c)] ?_
   refine wpS.tk 10 false (some 29) (.int .i64 (a2.length : Int)) (yld_lenL (hs.rowR 2 rfl) (fun _ => by kernel_rfl)) ?_
   refine wpS.q 11 30 (.int .i64 (irem .i64 (a2.length : Int) 16)) ?_
   rcases of_if h with ⟨hc, h⟩ | ⟨hc, h⟩
   ·refine wpS.tk 12 false (some 31) (.bool false) (yld_b (nf hc) (fun _ => by kernel_rfl)) ?_
    refine wpS.q 13 32 (.bool false) ?_
    refine wpS.fin rfl (kr8 _ _ (then_n (ks7 _ _ (wp_cond_f (by kernel_rfl) (xskip (then_n (ks6 _ _ (xseq_k fun KS11 ks11 => (xseq_k fun KS12 ks12 => (xregS [0, 1, 2] fun KR13 kr13 => ?_))))))))))
    refine wpS.q 0 33 (.slice a2_A a2_n a2_c) ?_
    refine wpS.tk 1 false (some 34) (.int .i64 (a2.length : Int)) (yld_lenL (hs.rowR 2 rfl) (fun _ => by kernel_rfl)) ?_
    rcases of_if h with ⟨hc, h⟩ | ⟨hc, h⟩
    ·refine wpS.tk 2 false (some 35) (.bool true) (yld_b (dt hc) (fun _ => by kernel_rfl)) ?_
     refine wpS.fin rfl (kr13 _ _ (then_n (ks12 _ _ (wp_cond_t (by kernel_rfl) (xseq_k fun KS14 ks14 => (xregS [0, 1] fun KR15 kr15 => ?_))))))
     refine wpS.qs [(0, 6, .slice none 0 0), (1, 7, .int .i64 2)] ?_
     refine wpS.fin rfl (kr15 _ _ (then_n (ks14 _ _ (xret (then_r ?_)))))
     obtain ⟨q0, qr0⟩ := Prod.mk.inj (of_some h)
     have q1 := qr0
     subst q0
     subst q1
     have hs := hs.addNilL (CI .u8) 5
     exact qq _ _ (post_ret (by kernel_rfl) (run_results [.tmp 6, .tmp 7] [.slice none 0 0, .int .i64 2] (by kernel_rfl) (.cons (res_tmp (by kernel_rfl)) (.cons (res_tmp (by kernel_rfl)) .nil))) ⟨⟨none, 0, 0⟩, congrArg Ending.returned (by kernel_rfl), (hs.pickR pick_nil)⟩)
    refine wpS.tk 2 false (some 35) (.bool false) (yld_b (df hc) (fun _ => by kernel_rfl)) ?_
    refine wpS.fin rfl (kr13 _ _ (then_n (ks12 _ _ (wp_cond_f (by kernel_rfl) (xskip (then_n (ks11 _ _ (xseq_k fun KS16 ks16 => (xregS [0, 1, 2, 3, 4, 5, 6, 7] fun KR17 kr17 => ?_)))))))))
    obtain ⟨⟨r2, r3⟩, hg, h⟩ := of_bind h
    refine wpS.only 0 (op_call (d := (some 37)) (by kernel_rfl) hs (fun _ => by kernel_rfl) (ref10_boxes.ok hg _) ?_)
    intro w gw hs
    refine ⟨fun _ => trivial, ?_⟩
    refine wpS.qs [(1, 36, .tuple #[.agg (enc .u8 r2).toArray, .agg (enc .u8 r3).toArray]), (2, 38, .agg (enc .u8 r2).toArray), (3, 39, .agg (enc .u8 r3).toArray)] ?_
    refine wpS.only 4 (op_alloc (t := 46) (d := (some 8)) (by kernel_rfl) hs (enc .u8 (zeroA 256)) (.agg (enc .u8 (zeroA 256)).toArray) (by kernel_rfl) (by kernel_rfl) (by kernel_rfl) ?_)
    intro b4 w gw hs
    refine ⟨fun _ => trivial, ?_⟩
    refine wpS.only 5 (op_alloc (t := 46) (d := (some 9)) (by kernel_rfl) hs (enc .u8 (zeroA 256)) (.agg (enc .u8 (zeroA 256)).toArray) (by kernel_rfl) (by kernel_rfl) (by kernel_rfl) ?_)
    intro b5 w gw hs
    refine ⟨fun _ => trivial, ?_⟩
    refine wpS.only 6 (op_storeW (t := 46) (v := .agg (enc .u8 r2).toArray) (d := none) (by kernel_rfl) hs 1 rfl (vs := enc .u8 r2) (n := 256) (by kernel_rfl) (by kernel_rfl) (by kernel_rfl) (by simp [enc_len]) (by simp [enc_len]) (by intro u hu; exact enc_one _ _ u hu) ?_)
    intro w kp hs
    refine ⟨fun _ => trivial, ?_⟩
    refine wpS.only 7 (op_storeW (t := 46) (v := .agg (enc .u8 r3).toArray) (d := none) (by kernel_rfl) hs 0 rfl (vs := enc .u8 r3) (n := 256) (by kernel_rfl) (by kernel_rfl) (by kernel_rfl) (by simp [enc_len]) (by simp [enc_len]) (by intro u hu; exact enc_one _ _ u hu) ?_)
    intro w kp hs
    refine ⟨fun _ => trivial, ?_⟩
    refine wpS.fin rfl (kr17 _ _ (then_n (ks16 _ _ (xseq_k fun KS18 ks18 => (xregS [0, 1, 2, 3] fun KR19 kr19 => ?_)))))
    refine wpS.q 0 40 (.slice a0_A a0_n a0_c) ?_
    refine wpS.tk 1 true (some 41) (.agg (enc .u8 r2).toArray) (yld_loadW (e := 46) (n := 256) hs 1 rfl (by kernel_rfl) (by kernel_rfl) (by kernel_rfl) (by exact enc_len _ _) .grow) ?_
    obtain ⟨r6, hg, h⟩ := of_bind h
    refine wpS.only 2 (op_callH (d := (some 42)) (by kernel_rfl) hs (fun _ => by kernel_rfl) (ref10_keys.ok hg _ (hs.rowR 0 rfl)) ?_)
    rintro ⟨r6_A, r6_n, r6_c⟩ w gw hs
    have hs := hs.conv (L' := [.ownL (CI .u8) r6_A r6_n r6_c r6 5, .blk b5 (enc .u8 r3) 46, .blk b4 (enc .u8 r2) 46]) rfl
    refine ⟨fun _ => trivial, ?_⟩
    refine wpS.q 3 10 (.slice r6_A r6_n r6_c) ?_
    refine wpS.fin rfl (kr19 _ _ (then_n (ks18 _ _ (xseq_k fun KS20 ks20 => (xregS [0] fun KR21 kr21 => ?_)))))
    refine wpS.q 0 11 (.slice none 0 0) ?_
    refine wpS.fin rfl (kr21 _ _ (then_n (ks20 _ _ (xseq_k fun KS22 ks22 => (xregS [0, 1] fun KR23 kr23 => ?_)))))
    refine wpS.qs [(0, 43, .slice a1_A a1_n a1_c), (1, 12, .slice a1_A a1_n a1_c)] ?_
    refine wpS.fin rfl (kr23 _ _ (then_n (ks22 _ _ (xseq_k fun KS24 ks24 => (xseq_k fun KS25 ks25 => (xregS [0] fun KR26 kr26 => ?_))))))
    refine wpS.q 0 13 (.int .i64 0) ?_
    refine wpS.fin rfl (kr26 _ _ (then_n (ks25 _ _ ?_)))
    have hs := hs.addNilL (CI .u8) 5
    obtain ⟨y10, hy, hk0⟩ := of_bind h
    refine wp_exq (N := fun a w => ∃ (y10_A : Option Addr) (y10_n : Nat) (y10_c : Nat), St w0 [] [.ownL (CI .u8) y10_A y10_n y10_c y10 5, .ownL (CI .u8) r6_A r6_n r6_c r6 5, .blk b5 (enc .u8 r3) 46, .blk b4 (enc .u8 r2) 46] [.rowL (CI .u8) a0_A a0_n a0_c a0, .rowL (CI .u8) a1_A a1_n a1_c a1, .rowL (CI .u8) a2_A a2_n a2_c a2] w ∧ ∃ g28 : Nat → Value, a = ⟨#[.slice a0_A a0_n a0_c, .slice a1_A a1_n a1_c, .slice a2_A a2_n a2_c, undef, undef, undef, .slice none 0 0, .int .i64 0, .pointer (some ⟨b4, 0, none⟩), .pointer (some ⟨b5, 0, none⟩), .slice r6_A r6_n r6_c, .slice y10_A y10_n y10_c, (g28 12), (g28 13), undef, undef, .slice a0_A a0_n a0_c, .bool true, .bool false, .slice a1_A a1_n a1_c, .int .i64 (a1.length : Int), .bool false, .bool false, .slice a2_A a2_n a2_c, .int .i64 (a2.length : Int), .bool false, .bool false, .bool false, .slice a2_A a2_n a2_c, .int .i64 (a2.length : Int), .int .i64 (irem .i64 (a2.length : Int) 16), .bool false, .bool false, .slice a2_A a2_n a2_c, .int .i64 (a2.length : Int), .bool false, .tuple #[.agg (enc .u8 r2).toArray, .agg (enc .u8 r3).toArray], .tuple #[.agg (enc .u8 r2).toArray, .agg (enc .u8 r3).toArray], .agg (enc .u8 r2).toArray, .agg (enc .u8 r3).toArray, .slice a0_A a0_n a0_c, .agg (enc .u8 r2).toArray, .slice r6_A r6_n r6_c, .slice a1_A a1_n a1_c, (g28 44), (g28 45), (g28 46), (g28 47), (g28 48), (g28 49), (g28 50), (g28 51), (g28 52), (g28 53), (g28 54), (g28 55), (g28 56), (g28 57), (g28 58), (g28 59), (g28 60), (g28 61), (g28 62), (g28 63), (g28 64), (g28 65), (g28 66), undef, undef, undef, undef, undef, undef, undef, undef, undef, undef, undef, undef, undef, undef, undef, undef, undef, undef, undef, undef, undef, undef, undef, undef, undef, undef, undef, undef, undef, undef, undef, undef, undef, undef, undef, undef], []⟩) (fun N0 nn0 => ?_) ?_
    ·clear hk0
     refine xblock ?_
     refine wp_loop_k (fun n a w => ∃ z7 z8 z9, ∃ (z8_A : Option Addr) (z8_n : Nat) (z8_c : Nat) (z9_A : Option Addr) (z9_n : Nat) (z9_c : Nat), ref10_Unchain.l0 K n a2 r3 r6 z7 z8 z9 = some y10 ∧ St w0 [] [.ownL (CI .u8) z8_A z8_n z8_c z8 5, .ownL (CI .u8) r6_A r6_n r6_c r6 5, .blk b5 (enc .u8 r3) 46, .blk b4 (enc .u8 r2) 46] [.rowL (CI .u8) z9_A z9_n z9_c z9, .rowL (CI .u8) a0_A a0_n a0_c a0, .rowL (CI .u8) a1_A a1_n a1_c a1, .rowL (CI .u8) a2_A a2_n a2_c a2] w ∧ ∃ g27 : Nat → Value, a = ⟨#[.slice a0_A a0_n a0_c, .slice a1_A a1_n a1_c, .slice a2_A a2_n a2_c, undef, undef, undef, .slice none 0 0, .int .i64 0, .pointer (some ⟨b4, 0, none⟩), .pointer (some ⟨b5, 0, none⟩), .slice r6_A r6_n r6_c, .slice z8_A z8_n z8_c, .slice z9_A z9_n z9_c, .int .i64 z7, undef, undef, .slice a0_A a0_n a0_c, .bool true, .bool false, .slice a1_A a1_n a1_c, .int .i64 (a1.length : Int), .bool false, .bool false, .slice a2_A a2_n a2_c, .int .i64 (a2.length : Int), .bool false, .bool false, .bool false, .slice a2_A a2_n a2_c, .int .i64 (a2.length : Int), .int .i64 (irem .i64 (a2.length : Int) 16), .bool false, .bool false, .slice a2_A a2_n a2_c, .int .i64 (a2.length : Int), .bool false, .tuple #[.agg (enc .u8 r2).toArray, .agg (enc .u8 r3).toArray], .tuple #[.agg (enc .u8 r2).toArray, .agg (enc .u8 r3).toArray], .agg (enc .u8 r2).toArray, .agg (enc .u8 r3).toArray, .slice a0_A a0_n a0_c, .agg (enc .u8 r2).toArray, .slice r6_A r6_n r6_c, .slice a1_A a1_n a1_c, (g27 44), (g27 45), (g27 46), (g27 47), (g27 48), (g27 49), (g27 50), (g27 51), (g27 52), (g27 53), (g27 54), (g27 55), (g27 56), (g27 57), (g27 58), (g27 59), (g27 60), (g27 61), (g27 62), (g27 63), (g27 64), (g27 65), (g27 66), undef, undef, undef, undef, undef, undef, undef, undef, undef, undef, undef, undef, undef, undef, undef, undef, undef, undef, undef, undef, undef, undef, undef, undef, undef, undef, undef, undef, undef, undef, undef, undef, undef, undef, undef, undef], []⟩) K ⟨0, ([] : List Int), a1, none, 0, 0, a1_A, a1_n, a1_c, hy, (hs.conv (L' := [.ownL (CI .u8) none 0 0 ([] : List Int) 5, .ownL (CI .u8) r6_A r6_n r6_c r6 5, .blk b5 (enc .u8 r3) 46, .blk b4 (enc .u8 r2) 46]) rfl).pickR (pick_cons 1 rfl (pick_cons 0 rfl (pick_cons 1 rfl (pick_cons 2 rfl pick_nil)))), exg (by kernel_rfl)⟩ ?_
     clear hs h hy
     rintro n a w ⟨z7, z8, z9, z8_A, z8_n, z8_c, z9_A, z9_n, z9_c, h, hs, g27, rfl⟩ KL0 kl0
     cases n with
     | zero => exact nomatch (show none = some _ from h)
     | succ n =>
      refine xseq_k fun KS29 ks29 => ?_
      refine xseq_k fun KS30 ks30 => ?_
      refine xregS [0, 1, 2, 3] fun KR31 kr31 => ?_
      refine wpS.qs [(0, 44, .int .i64 z7), (1, 45, .slice a2_A a2_n a2_c)] ?_
      refine wpS.tk 2 false (some 46) (.int .i64 (a2.length : Int)) (yld_lenL (hs.rowR 3 rfl) (fun _ => by kernel_rfl)) ?_
      rcases of_if h with ⟨hc, h⟩ | ⟨hc, h⟩
      ·refine wpS.tk 3 false (some 47) (.bool true) (yld_b (dt hc) (fun _ => by kernel_rfl)) ?_
       refine wpS.fin rfl (kr31 _ _ (then_n (ks30 _ _ (wp_cond_t (by kernel_rfl) (xskip (then_n (ks29 _ _ (xseq_k fun KS32 ks32 => (xblock (xseq_k fun KS33 ks33 => ?_))))))))))
       refine wp_regG [11] (fun k => True) 13 (by kernel_rfl) (by kernel_rfl) (by kernel_rfl) fun KR34 kr34 => ?_
       have hs := hs.drawn1
       refine wpG.q 0 50 (.slice z8_A z8_n z8_c) ?_
       refine wpG.q 1 51 (.slice r6_A r6_n r6_c) ?_
       refine wpG.q 2 52 (.slice a2_A a2_n a2_c) ?_
       refine wpG.q 3 53 (.int .i64 z7) ?_
       refine wpG.q 4 54 (.int .i64 z7) ?_
       refine wpG.q 5 55 (.int .i64 (iadd .i64 z7 16)) ?_
       obtain ⟨h0, h⟩ := of_chk h
       obtain ⟨h1, h⟩ := of_chk h
       obtain ⟨h2, h⟩ := of_chk h
       obtain ⟨s11_A, hA⟩ : ∃ A, A = if a2_c = (z7 : Int).toNat then a2_A else adr a2_A ((z7 : Int).toNat * Cod.size (CI .u8)) := ⟨_, rfl⟩
       obtain ⟨s11_n, hn⟩ : ∃ n, n = ((iadd .i64 z7 16) : Int).toNat - (z7 : Int).toNat := ⟨_, rfl⟩
       obtain ⟨s11_c, hc⟩ : ∃ c, c = a2_c - (z7 : Int).toNat := ⟨_, rfl⟩
       refine wpG.tD 6 false (some 56) (.slice s11_A s11_n s11_c) (yld_sub (C := (CI .u8)) (t := 26) (e := 5) (low := some (.int .i64 z7)) (high := some (.int .i64 (iadd .i64 z7 16))) (lo := z7) (hi := (iadd .i64 z7 16)) (hs.rowR 3 rfl) (by kernel_rfl) (by kernel_rfl) (by kernel_rfl) (.inr ⟨_, rfl⟩) (.inr ⟨_, rfl⟩) h0 h1 h2 hA hn hc) ?_
       have hs := hs.addSub (C := (CI .u8)) 3 rfl h0 h1 h2 hA hn hc
       refine wpG.take [7, 8, 10, 11, 12] 7 true (some 57) (.agg (enc .u8 r3).toArray) (by kernel_rfl) (by kernel_rfl) (yld_loadW (e := 46) (n := 256) hs 2 rfl (by kernel_rfl) (by kernel_rfl) (by kernel_rfl) (by exact enc_len _ _) .grow) ?_
       refine wpG.q 9 59 (.slice z9_A z9_n z9_c) ?_
       obtain ⟨r12, hg, h⟩ := of_bind h
       refine wpG.only 8 (by kernel_rfl) (op_callH (d := (some 58)) (by kernel_rfl) hs (fun _ => by kernel_rfl) (ref10_back.ok hg _ (hs.rowL 1 rfl) (hs.rowR 0 rfl)) ?_)
       rintro ⟨r12_A, r12_n, r12_c⟩ w gw hs
       have hs := hs.conv (L' := [.ownL (CI .u8) r12_A r12_n r12_c r12 5, .ownL (CI .u8) z8_A z8_n z8_c z8 5, .ownL (CI .u8) r6_A r6_n r6_c r6 5, .blk b5 (enc .u8 r3) 46, .blk b4 (enc .u8 r2) 46]) rfl
       refine ⟨.of gw, ?_⟩
       obtain ⟨r13, hg, h⟩ := of_bind h
       refine wpG.only 10 (by kernel_rfl) (op_callH (d := (some 60)) (by kernel_rfl) hs (fun _ => by kernel_rfl) (ref01_Xor.ok hg _ (hs.rowL 0 rfl) (hs.rowR 1 rfl)) ?_)
       rintro ⟨r13_A, r13_n, r13_c⟩ w gw hs
       have hs := hs.conv (L' := [.ownL (CI .u8) r13_A r13_n r13_c r13 5, .ownL (CI .u8) r12_A r12_n r12_c r12 5, .ownL (CI .u8) z8_A z8_n z8_c z8 5, .ownL (CI .u8) r6_A r6_n r6_c r6 5, .blk b5 (enc .u8 r3) 46, .blk b4 (enc .u8 r2) 46]) rfl
       refine ⟨.of gw, ?_⟩
       obtain ⟨h0, h⟩ := of_chk h
       refine wpG.only 11 (by kernel_rfl) (op_appendT (C := (CI .u8)) (t := 26) (ty := 26) (e := 5) (bytes := 1) (B := 140737488355328) (d := (some 61)) (by kernel_rfl) hs 2 rfl (hs.rowL 0 rfl) (by kernel_rfl) (by kernel_rfl) (by kernel_rfl) (by kernel_rfl) (by kernel_rfl) h0 (by decide) (by decide) ?_)
       intro s14_A s14_n s14_c w hs
       refine ⟨⟨fun hf => absurd hf (by decide), .all _ _⟩, ?_⟩
       refine wpG.q 12 11 (.slice s14_A s14_n s14_c) ?_
       refine wpG.fin (by kernel_rfl) rfl (kr34 _ _ ?_)
       refine then_n (ks33 _ _ (xregS [0, 1, 2, 3, 4, 5] fun KR35 kr35 => ?_))
       refine wpS.qs [(0, 62, .slice a2_A a2_n a2_c), (1, 63, .int .i64 z7), (2, 64, .int .i64 z7), (3, 65, .int .i64 (iadd .i64 z7 16))] ?_
       obtain ⟨h0, h⟩ := of_chk h
       obtain ⟨h1, h⟩ := of_chk h
       obtain ⟨h2, h⟩ := of_chk h
       obtain ⟨s15_A, hA⟩ : ∃ A, A = if a2_c = (z7 : Int).toNat then a2_A else adr a2_A ((z7 : Int).toNat * Cod.size (CI .u8)) := ⟨_, rfl⟩
       obtain ⟨s15_n, hn⟩ : ∃ n, n = ((iadd .i64 z7 16) : Int).toNat - (z7 : Int).toNat := ⟨_, rfl⟩
       obtain ⟨s15_c, hc⟩ : ∃ c, c = a2_c - (z7 : Int).toNat := ⟨_, rfl⟩
       refine wpS.tk 4 false (some 66) (.slice s15_A s15_n s15_c) (yld_sub (C := (CI .u8)) (t := 26) (e := 5) (low := some (.int .i64 z7)) (high := some (.int .i64 (iadd .i64 z7 16))) (lo := z7) (hi := (iadd .i64 z7 16)) (hs.rowR 4 rfl) (by kernel_rfl) (by kernel_rfl) (by kernel_rfl) (.inr ⟨_, rfl⟩) (.inr ⟨_, rfl⟩) h0 h1 h2 hA hn hc) ?_
       have hs := hs.addSub (C := (CI .u8)) 4 rfl h0 h1 h2 hA hn hc
       refine wpS.q 5 12 (.slice s15_A s15_n s15_c) ?_
       refine wpS.fin rfl (kr35 _ _ (inBlock_n (then_n (ks32 _ _ (xregS [0, 1, 2] fun KR36 kr36 => ?_)))))
       refine wpS.qs [(0, 48, .int .i64 z7), (1, 49, .int .i64 (iadd .i64 z7 16))] ?_
       obtain ⟨x16, hx, h⟩ := of_bind h
       refine wpS.tk 2 false (some 13) (.int .i64 x16) (yld_int hx (fun _ => by kernel_rfl)) ?_
       refine wpS.fin rfl (kr36 _ _ ?_)
       exact then_n (kl0 _ _ ⟨n, Nat.lt_succ_self n, x16, (z8 ++ r13), (subL a2 z7 (iadd .i64 z7 16)), s14_A, s14_n, s14_c, s15_A, s15_n, s15_c, h, ((hs.drop (.cons _ (.cons _ (.cons_cons _ (.cons_cons _ (.cons_cons _ (.cons_cons _ .slnil))))))).pickR (pick_cons 0 rfl (pick_cons 3 rfl (pick_cons 4 rfl (pick_cons 5 rfl pick_nil))))), exg (by kernel_rfl)⟩)
      refine wpS.tk 3 false (some 47) (.bool false) (yld_b (df hc) (fun _ => by kernel_rfl)) ?_
      refine wpS.fin rfl (kr31 _ _ (then_n (ks30 _ _ (wp_cond_f (by kernel_rfl) (xexit (then_x (then_x (inBlock_hit ?_))))))))
      have q0 := of_some h
      subst q0
      exact exq_n (nn0 _ _ ⟨z8_A, z8_n, z8_c, (hs.pickR (pick_cons 1 rfl (pick_cons 2 rfl (pick_cons 3 rfl pick_nil)))), exg (by kernel_rfl)⟩)
    clear hs h hy
    rintro a w ⟨y10_A, y10_n, y10_c, hs, g28, rfl⟩
    have h := hk0
    refine then_n (ks24 _ _ (xseq_k fun KS37 ks37 => (xregS [0, 1, 2, 3, 4, 5, 6, 7] fun KR38 kr38 => ?_)))
    refine wpS.qs [(0, 67, .slice y10_A y10_n y10_c), (1, 68, .slice y10_A y10_n y10_c)] ?_
    refine wpS.tk 2 false (some 69) (.int .i64 (y10.length : Int)) (yld_lenL (hs.rowL 0 rfl) (fun _ => by kernel_rfl)) ?_
    refine wpS.q 3 70 (.int .i64 (isub .i64 (y10.length : Int) 1)) ?_
    obtain ⟨x17, hx, h⟩ := of_bind h
    have hx := of_some hx
    subst hx
    obtain ⟨h0, h⟩ := of_chk h
    obtain ⟨h1, h⟩ := of_chk h
    have i0_39 := h0
    have i1_39 := h1
    refine wpS.tk 4 false (some 71) (.pointer (adr y10_A (((isub .i64 (y10.length : Int) 1) : Int).toNat * Cod.size (CI .u8)))) (yld_idxL (C := (CI .u8)) (t := 26) (e := 5) (k := .i64) (x := (isub .i64 (y10.length : Int) 1)) (hs.rowL 0 rfl) (by kernel_rfl) (by kernel_rfl) (by kernel_rfl) h0 h1) ?_
    refine wpS.tk 5 true (some 72) (.int .u8 (rdL (CI .u8) y10 (isub .i64 (y10.length : Int) 1))) (yld_loadL (C := (CI .u8)) (e := 5) (x := (isub .i64 (y10.length : Int) 1)) (hs.rowL 0 rfl) (by kernel_rfl) rfl (by kernel_rfl) i0_39 i1_39) ?_
    refine wpS.q 6 73 (.int .i64 (iconv .i64 (rdL (CI .u8) y10 (isub .i64 (y10.length : Int) 1)))) ?_
    obtain ⟨x18, hx, h⟩ := of_bind h
    refine wpS.tk 7 false (some 14) (.int .i64 x18) (yld_int hx (fun _ => by kernel_rfl)) ?_
    refine wpS.fin rfl (kr38 _ _ (then_n (ks37 _ _ (xseq_k fun KS40 ks40 => (xseq_k fun KS41 ks41 => (xregS [0, 1, 2, 3, 4, 5] fun KR42 kr42 => ?_))))))
    refine wpS.q 0 74 (.int .i64 x18) ?_
    rcases of_if h with ⟨hc, h⟩ | ⟨hc, h⟩
    ·refine wpS.tk 1 false (some 75) (.bool true) (yld_b (dt hc) (fun _ => by kernel_rfl)) ?_
     refine wpS.qs [(2, 76, .bool true), (3, 77, undef), (4, 78, undef), (5, 79, .bool true)] ?_
     refine wpS.fin rfl (kr42 _ _ (then_n (ks41 _ _ (wp_cond_t (by kernel_rfl) (xseq_k fun KS43 ks43 => (xregS [0, 1] fun KR44 kr44 => ?_))))))
     refine wpS.qs [(0, 6, .slice none 0 0), (1, 7, .int .i64 15)] ?_
     refine wpS.fin rfl (kr44 _ _ (then_n (ks43 _ _ (xret (then_r ?_)))))
     obtain ⟨q0, qr0⟩ := Prod.mk.inj (of_some h)
     have q1 := qr0
     subst q0
     subst q1
     have hs := hs.addNilL (CI .u8) 5
     exact qq _ _ (post_ret (by kernel_rfl) (run_results [.tmp 6, .tmp 7] [.slice none 0 0, .int .i64 15] (by kernel_rfl) (.cons (res_tmp (by kernel_rfl)) (.cons (res_tmp (by kernel_rfl)) .nil))) ⟨⟨none, 0, 0⟩, congrArg Ending.returned (by kernel_rfl), ((hs.drop (.cons_cons _ (.cons _ (.cons _ (.cons _ (.cons _ .slnil)))))).pickR pick_nil)⟩)
    refine wpS.tk 1 false (some 75) (.bool false) (yld_b (df hc) (fun _ => by kernel_rfl)) ?_
    refine wpS.qs [(2, 76, .bool false), (3, 77, .int .i64 x18)] ?_
    rcases of_if h with ⟨hc, h⟩ | ⟨hc, h⟩
    ·refine wpS.tk 4 false (some 78) (.bool true) (yld_b (dt hc) (fun _ => by kernel_rfl)) ?_
     refine wpS.q 5 79 (.bool true) ?_
     refine wpS.fin rfl (kr42 _ _ (then_n (ks41 _ _ (wp_cond_t (by kernel_rfl) (xseq_k fun KS45 ks45 => (xregS [0, 1] fun KR46 kr46 => ?_))))))
     refine wpS.qs [(0, 6, .slice none 0 0), (1, 7, .int .i64 15)] ?_
     refine wpS.fin rfl (kr46 _ _ (then_n (ks45 _ _ (xret (then_r ?_)))))
     obtain ⟨q0, qr0⟩ := Prod.mk.inj (of_some h)
     have q1 := qr0
     subst q0
     subst q1
     have hs := hs.addNilL (CI .u8) 5
     exact qq _ _ (post_ret (by kernel_rfl) (run_results [.tmp 6, .tmp 7] [.slice none 0 0, .int .i64 15] (by kernel_rfl) (.cons (res_tmp (by kernel_rfl)) (.cons (res_tmp (by kernel_rfl)) .nil))) ⟨⟨none, 0, 0⟩, congrArg Ending.returned (by kernel_rfl), ((hs.drop (.cons_cons _ (.cons _ (.cons _ (.cons _ (.cons _ .slnil)))))).pickR pick_nil)⟩)
    refine wpS.tk 4 false (some 78) (.bool false) (yld_b (df hc) (fun _ => by kernel_rfl)) ?_
    refine wpS.q 5 79 (.bool false) ?_
    refine wpS.fin rfl (kr42 _ _ (then_n (ks41 _ _ (wp_cond_f (by kernel_rfl) (xskip (then_n (ks40 _ _ (xseq_k fun KS47 ks47 => (xseq_k fun KS48 ks48 => (xregS [0, 1, 2, 3, 4] fun KR49 kr49 => ?_))))))))))
    refine wpS.q 0 80 (.slice y10_A y10_n y10_c) ?_
    refine wpS.tk 1 false (some 81) (.int .i64 (y10.length : Int)) (yld_lenL (hs.rowL 0 rfl) (fun _ => by kernel_rfl)) ?_
    refine wpS.qs [(2, 82, .int .i64 x18), (3, 83, .int .i64 (isub .i64 (y10.length : Int) x18))] ?_
    obtain ⟨x19, hx, h⟩ := of_bind h
    refine wpS.tk 4 false (some 15) (.int .i64 x19) (yld_int hx (fun _ => by kernel_rfl)) ?_
    refine wpS.fin rfl (kr49 _ _ (then_n (ks48 _ _ ?_)))
    obtain ⟨t1, hy, hk1⟩ := of_bind h
    refine wp_exq (N := fun a w => t1 = .inl () ∧ St w0 [] [.ownL (CI .u8) y10_A y10_n y10_c y10 5, .ownL (CI .u8) r6_A r6_n r6_c r6 5, .blk b5 (enc .u8 r3) 46, .blk b4 (enc .u8 r2) 46] [.rowL (CI .u8) a0_A a0_n a0_c a0, .rowL (CI .u8) a1_A a1_n a1_c a1, .rowL (CI .u8) a2_A a2_n a2_c a2] w ∧ ∃ g51 : Nat → Value, a = ⟨#[.slice a0_A a0_n a0_c, .slice a1_A a1_n a1_c, .slice a2_A a2_n a2_c, undef, undef, undef, (g51 6), (g51 7), .pointer (some ⟨b4, 0, none⟩), .pointer (some ⟨b5, 0, none⟩), .slice r6_A r6_n r6_c, .slice y10_A y10_n y10_c, (g28 12), (g28 13), .int .i64 x18, (g51 15), .slice a0_A a0_n a0_c, .bool true, .bool false, .slice a1_A a1_n a1_c, .int .i64 (a1.length : Int), .bool false, .bool false, .slice a2_A a2_n a2_c, .int .i64 (a2.length : Int), .bool false, .bool false, .bool false, .slice a2_A a2_n a2_c, .int .i64 (a2.length : Int), .int .i64 (irem .i64 (a2.length : Int) 16), .bool false, .bool false, .slice a2_A a2_n a2_c, .int .i64 (a2.length : Int), .bool false, .tuple #[.agg (enc .u8 r2).toArray, .agg (enc .u8 r3).toArray], .tuple #[.agg (enc .u8 r2).toArray, .agg (enc .u8 r3).toArray], .agg (enc .u8 r2).toArray, .agg (enc .u8 r3).toArray, .slice a0_A a0_n a0_c, .agg (enc .u8 r2).toArray, .slice r6_A r6_n r6_c, .slice a1_A a1_n a1_c, (g28 44), (g28 45), (g28 46), (g28 47), (g28 48), (g28 49), (g28 50), (g28 51), (g28 52), (g28 53), (g28 54), (g28 55), (g28 56), (g28 57), (g28 58), (g28 59), (g28 60), (g28 61), (g28 62), (g28 63), (g28 64), (g28 65), (g28 66), .slice y10_A y10_n y10_c, .slice y10_A y10_n y10_c, .int .i64 (y10.length : Int), .int .i64 (isub .i64 (y10.length : Int) 1), .pointer (adr y10_A (((isub .i64 (y10.length : Int) 1) : Int).toNat * Cod.size (CI .u8))), .int .u8 (rdL (CI .u8) y10 (isub .i64 (y10.length : Int) 1)), .int .i64 (iconv .i64 (rdL (CI .u8) y10 (isub .i64 (y10.length : Int) 1))), .int .i64 x18, .bool false, .bool false, .int .i64 x18, .bool false, .bool false, .slice y10_A y10_n y10_c, .int .i64 (y10.length : Int), .int .i64 x18, .int .i64 (isub .i64 (y10.length : Int) x18), (g51 84), (g51 85), (g51 86), (g51 87), (g51 88), (g51 89), (g51 90), (g51 91), (g51 92), (g51 93), (g51 94), (g51 95), (g51 96), undef, undef, undef, undef, undef, undef], []⟩) (fun N1 nn1 => ?_) ?_
    ·refine xblock ?_
     refine wp_loop_k (fun n a w => ∃ z20, ref10_Unchain.l1 K n y10 x18 z20 = some t1 ∧ St w0 [] [.ownL (CI .u8) y10_A y10_n y10_c y10 5, .ownL (CI .u8) r6_A r6_n r6_c r6 5, .blk b5 (enc .u8 r3) 46, .blk b4 (enc .u8 r2) 46] [.rowL (CI .u8) a0_A a0_n a0_c a0, .rowL (CI .u8) a1_A a1_n a1_c a1, .rowL (CI .u8) a2_A a2_n a2_c a2] w ∧ ∃ g50 : Nat → Value, a = ⟨#[.slice a0_A a0_n a0_c, .slice a1_A a1_n a1_c, .slice a2_A a2_n a2_c, undef, undef, undef, (g50 6), (g50 7), .pointer (some ⟨b4, 0, none⟩), .pointer (some ⟨b5, 0, none⟩), .slice r6_A r6_n r6_c, .slice y10_A y10_n y10_c, (g28 12), (g28 13), .int .i64 x18, .int .i64 z20, .slice a0_A a0_n a0_c, .bool true, .bool false, .slice a1_A a1_n a1_c, .int .i64 (a1.length : Int), .bool false, .bool false, .slice a2_A a2_n a2_c, .int .i64 (a2.length : Int), .bool false, .bool false, .bool false, .slice a2_A a2_n a2_c, .int .i64 (a2.length : Int), .int .i64 (irem .i64 (a2.length : Int) 16), .bool false, .bool false, .slice a2_A a2_n a2_c, .int .i64 (a2.length : Int), .bool false, .tuple #[.agg (enc .u8 r2).toArray, .agg (enc .u8 r3).toArray], .tuple #[.agg (enc .u8 r2).toArray, .agg (enc .u8 r3).toArray], .agg (enc .u8 r2).toArray, .agg (enc .u8 r3).toArray, .slice a0_A a0_n a0_c, .agg (enc .u8 r2).toArray, .slice r6_A r6_n r6_c, .slice a1_A a1_n a1_c, (g28 44), (g28 45), (g28 46), (g28 47), (g28 48), (g28 49), (g28 50), (g28 51), (g28 52), (g28 53), (g28 54), (g28 55), (g28 56), (g28 57), (g28 58), (g28 59), (g28 60), (g28 61), (g28 62), (g28 63), (g28 64), (g28 65), (g28 66), .slice y10_A y10_n y10_c, .slice y10_A y10_n y10_c, .int .i64 (y10.length : Int), .int .i64 (isub .i64 (y10.length : Int) 1), .pointer (adr y10_A (((isub .i64 (y10.length : Int) 1) : Int).toNat * Cod.size (CI .u8))), .int .u8 (rdL (CI .u8) y10 (isub .i64 (y10.length : Int) 1)), .int .i64 (iconv .i64 (rdL (CI .u8) y10 (isub .i64 (y10.length : Int) 1))), .int .i64 x18, .bool false, .bool false, .int .i64 x18, .bool false, .bool false, .slice y10_A y10_n y10_c, .int .i64 (y10.length : Int), .int .i64 x18, .int .i64 (isub .i64 (y10.length : Int) x18), (g50 84), (g50 85), (g50 86), (g50 87), (g50 88), (g50 89), (g50 90), (g50 91), (g50 92), (g50 93), (g50 94), (g50 95), (g50 96), undef, undef, undef, undef, undef, undef], []⟩) K ⟨x19, hy, hs.conv rfl, exg (by kernel_rfl)⟩ ?_
     clear hs h hy
     rintro n a w ⟨z20, h, hs, g50, rfl⟩ KL1 kl1
     cases n with
     | zero => exact nomatch (show none = some _ from h)
     | succ n =>
      refine xseq_k fun KS52 ks52 => ?_
      refine xseq_k fun KS53 ks53 => ?_
      refine xregS [0, 1, 2, 3] fun KR54 kr54 => ?_
      refine wpS.qs [(0, 84, .int .i64 z20), (1, 85, .slice y10_A y10_n y10_c)] ?_
      refine wpS.tk 2 false (some 86) (.int .i64 (y10.length : Int)) (yld_lenL (hs.rowL 0 rfl) (fun _ => by kernel_rfl)) ?_
      rcases of_if h with ⟨hc, h⟩ | ⟨hc, h⟩
      ·refine wpS.tk 3 false (some 87) (.bool true) (yld_b (dt hc) (fun _ => by kernel_rfl)) ?_
       refine wpS.fin rfl (kr54 _ _ (then_n (ks53 _ _ (wp_cond_t (by kernel_rfl) (xskip (then_n (ks52 _ _ (xseq_k fun KS55 ks55 => (xblock (xseq_k fun KS56 ks56 => (xregS [0, 1, 2, 3, 4, 5, 6] fun KR57 kr57 => ?_)))))))))))
       refine wpS.qs [(0, 90, .slice y10_A y10_n y10_c), (1, 91, .int .i64 z20)] ?_
       obtain ⟨h0, h⟩ := of_chk h
       obtain ⟨h1, h⟩ := of_chk h
       have i0_58 := h0
       have i1_58 := h1
       refine wpS.tk 2 false (some 92) (.pointer (adr y10_A ((z20 : Int).toNat * Cod.size (CI .u8)))) (yld_idxL (C := (CI .u8)) (t := 26) (e := 5) (k := .i64) (x := z20) (hs.rowL 0 rfl) (by kernel_rfl) (by kernel_rfl) (by kernel_rfl) h0 h1) ?_
       refine wpS.tk 3 true (some 93) (.int .u8 (rdL (CI .u8) y10 z20)) (yld_loadL (C := (CI .u8)) (e := 5) (x := z20) (hs.rowL 0 rfl) (by kernel_rfl) rfl (by kernel_rfl) i0_58 i1_58) ?_
       refine wpS.qs [(4, 94, .int .i64 (iconv .i64 (rdL (CI .u8) y10 z20))), (5, 95, .int .i64 x18)] ?_
       rcases of_if h with ⟨hc, h⟩ | ⟨hc, h⟩
       ·refine wpS.tk 6 false (some 96) (.bool false) (yld_b (nf hc) (fun _ => by kernel_rfl)) ?_
        refine wpS.fin rfl (kr57 _ _ (then_n (ks56 _ _ (wp_cond_f (by kernel_rfl) (xskip (inBlock_n (then_n (ks55 _ _ (xregS [0, 1, 2] fun KR59 kr59 => ?_)))))))))
        refine wpS.qs [(0, 88, .int .i64 z20), (1, 89, .int .i64 (iadd .i64 z20 1))] ?_
        obtain ⟨x21, hx, h⟩ := of_bind h
        refine wpS.tk 2 false (some 15) (.int .i64 x21) (yld_int hx (fun _ => by kernel_rfl)) ?_
        refine wpS.fin rfl (kr59 _ _ ?_)
        exact then_n (kl1 _ _ ⟨n, Nat.lt_succ_self n, x21, h, (hs.conv rfl), exg (by kernel_rfl)⟩)
       refine wpS.tk 6 false (some 96) (.bool true) (yld_b (nt hc) (fun _ => by kernel_rfl)) ?_
       refine wpS.fin rfl (kr57 _ _ (then_n (ks56 _ _ (wp_cond_t (by kernel_rfl) (xseq_k fun KS60 ks60 => (xregS [0, 1] fun KR61 kr61 => ?_))))))
       refine wpS.qs [(0, 6, .slice none 0 0), (1, 7, .int .i64 15)] ?_
       refine wpS.fin rfl (kr61 _ _ (then_n (ks60 _ _ (xret (inBlock_r (then_r (then_r (inBlock_r (exq_r (then_r ?_))))))))))
       have q0 := of_some h
       subst q0
       obtain ⟨q0, qr0⟩ := Prod.mk.inj (of_some hk1)
       have q1 := qr0
       subst q0
       subst q1
       have hs := hs.addNilL (CI .u8) 5
       exact qq _ _ (post_ret (by kernel_rfl) (run_results [.tmp 6, .tmp 7] [.slice none 0 0, .int .i64 15] (by kernel_rfl) (.cons (res_tmp (by kernel_rfl)) (.cons (res_tmp (by kernel_rfl)) .nil))) ⟨⟨none, 0, 0⟩, congrArg Ending.returned (by kernel_rfl), ((hs.drop (.cons_cons _ (.cons _ (.cons _ (.cons _ (.cons _ .slnil)))))).pickR pick_nil)⟩)
      refine wpS.tk 3 false (some 87) (.bool false) (yld_b (df hc) (fun _ => by kernel_rfl)) ?_
      refine wpS.fin rfl (kr54 _ _ (then_n (ks53 _ _ (wp_cond_f (by kernel_rfl) (xexit (then_x (then_x (inBlock_hit ?_))))))))
      have q0 := of_some h
      subst q0
      exact exq_n (nn1 _ _ ⟨rfl, (hs.conv rfl), exg (by kernel_rfl)⟩)
    clear hs h hy
    rintro a w ⟨rfl, hs, g51, rfl⟩
    have h := hk1
    refine then_n (ks47 _ _ (xseq_k fun KS62 ks62 => (xregS [0, 1, 2, 3, 4, 5, 6, 7] fun KR63 kr63 => ?_)))
    refine wpS.qs [(0, 97, .slice y10_A y10_n y10_c), (1, 98, .slice y10_A y10_n y10_c)] ?_
    refine wpS.tk 2 false (some 99) (.int .i64 (y10.length : Int)) (yld_lenL (hs.rowL 0 rfl) (fun _ => by kernel_rfl)) ?_
    refine wpS.qs [(3, 100, .int .i64 x18), (4, 101, .int .i64 (isub .i64 (y10.length : Int) x18))] ?_
    obtain ⟨h0, h⟩ := of_chk h
    obtain ⟨h1, h⟩ := of_chk h
    refine wpS.tk 5 false (some 102) (.slice y10_A ((isub .i64 (y10.length : Int) x18) : Int).toNat y10_c) (yld_pre (C := (CI .u8)) (t := 26) (e := 5) (k := .i64) (hi := (isub .i64 (y10.length : Int) x18)) (hs.rowL 0 rfl) (by kernel_rfl) (by kernel_rfl) (by kernel_rfl) h0 h1) ?_
    have hs := hs.preOwn 0 rfl h0 h1
    refine wpS.qs [(6, 6, .slice y10_A ((isub .i64 (y10.length : Int) x18) : Int).toNat y10_c), (7, 7, .int .i64 0)] ?_
    refine wpS.fin rfl (kr63 _ _ (then_n (ks62 _ _ (xret ?_))))
    obtain ⟨q0, qr0⟩ := Prod.mk.inj (of_some h)
    have q1 := qr0
    subst q0
    subst q1
    exact qq _ _ (post_ret (by kernel_rfl) (run_results [.tmp 6, .tmp 7] [.slice y10_A ((isub .i64 (y10.length : Int) x18) : Int).toNat y10_c, .int .i64 0] (by kernel_rfl) (.cons (res_tmp (by kernel_rfl)) (.cons (res_tmp (by kernel_rfl)) .nil))) ⟨⟨y10_A, ((isub .i64 (y10.length : Int) x18) : Int).toNat, y10_c⟩, congrArg Ending.returned (by kernel_rfl), ((hs.drop (.cons_cons _ (.cons _ (.cons _ (.cons _ .slnil))))).pickR pick_nil)⟩)
   refine wpS.tk 12 false (some 31) (.bool true) (yld_b (nt hc) (fun _ => by kernel_rfl)) ?_
   refine wpS.q 13 32 (.bool true) ?_
   refine wpS.fin rfl (kr8 _ _ (then_n (ks7 _ _ (wp_cond_t (by kernel_rfl) (xseq_k fun KS64 ks64 => (xregS [0, 1] fun KR65 kr65 => ?_))))))
   refine wpS.qs [(0, 6, .slice none 0 0), (1, 7, .int .i64 14)] ?_
   refine wpS.fin rfl (kr65 _ _ (then_n (ks64 _ _ (xret (then_r ?_)))))
   obtain ⟨q0, qr0⟩ := Prod.mk.inj (of_some h)
   have q1 := qr0
   subst q0
   subst q1
   have hs := hs.addNilL (CI .u8) 5
   exact qq _ _ (post_ret (by kernel_rfl) (run_results [.tmp 6, .tmp 7] [.slice none 0 0, .int .i64 14] (by kernel_rfl) (.cons (res_tmp (by kernel_rfl)) (.cons (res_tmp (by kernel_rfl)) .nil))) ⟨⟨none, 0, 0⟩, congrArg Ending.returned (by kernel_rfl), (hs.pickR pick_nil)⟩)
  refine wpS.tk 2 false (some 21) (.bool true) (yld_b (nt hc) (fun _ => by kernel_rfl)) ?_
  refine wpS.qs [(3, 22, .bool true), (4, 23, undef), (5, 24, undef), (6, 25, undef), (7, 26, .bool true), (8, 27, .bool true), (9, 28, undef), (10, 29, undef), (11, 30, undef), (12, 31, undef), (13, 32, .bool true)] ?_
  refine wpS.fin rfl (kr8 _ _ (then_n (ks7 _ _ (wp_cond_t (by kernel_rfl) (xseq_k fun KS66 ks66 => (xregS [0, 1] fun KR67 kr67 => ?_))))))
  refine wpS.qs [(0, 6, .slice none 0 0), (1, 7, .int .i64 14)] ?_
  refine wpS.fin rfl (kr67 _ _ (then_n (ks66 _ _ (xret (then_r ?_)))))
  obtain ⟨q0, qr0⟩ := Prod.mk.inj (of_some h)
  have q1 := qr0
  subst q0
  subst q1
  have hs := hs.addNilL (CI .u8) 5
  exact qq _ _ (post_ret (by kernel_rfl) (run_results [.tmp 6, .tmp 7] [.slice none 0 0, .int .i64 14] (by kernel_rfl) (.cons (res_tmp (by kernel_rfl)) (.cons (res_tmp (by kernel_rfl)) .nil))) ⟨⟨none, 0, 0⟩, congrArg Ending.returned (by kernel_rfl), (hs.pickR pick_nil)⟩)
 | false =>
  have h := of_if_f h
  refine wpS.only 1 (op_call (d := (some 17)) (by kernel_rfl) hs (fun _ => by kernel_rfl) (ref10_Sized.ok hg _ (hs.rowR 0 rfl)) ?_)
  intro w gw hs
  refine ⟨fun _ => trivial, ?_⟩
  refine wpS.q 2 18 (.bool true) ?_
  refine wpS.fin rfl (kr5 _ _ (then_n (ks4 _ _ (wp_cond_t (by kernel_rfl) (xseq_k fun KS68 ks68 => (xregS [0, 1] fun KR69 kr69 => ?_))))))
  refine wpS.qs [(0, 6, .slice none 0 0), (1, 7, .int .i64 10)] ?_
  refine wpS.fin rfl (kr69 _ _ (then_n (ks68 _ _ (xret (then_r ?_)))))
  obtain ⟨q0, qr0⟩ := Prod.mk.inj (of_some h)
  have q1 := qr0
  subst q0
  subst q1
  have hs := hs.addNilL (CI .u8) 5
  exact qq _ _ (post_ret (by kernel_rfl) (run_results [.tmp 6, .tmp 7] [.slice none 0 0, .int .i64 10] (by kernel_rfl) (.cons (res_tmp (by kernel_rfl)) (.cons (res_tmp (by kernel_rfl)) .nil))) ⟨⟨none, 0, 0⟩, congrArg Ending.returned (by kernel_rfl), (hs.pickR pick_nil)⟩)
end Go.Proofs.Ytmpagpbnpgcecaa
