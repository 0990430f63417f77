/- Printed by this work's own program: the code of each function below comes to the answer that its plain form tells. -/
import Derived.Test.YtmpagpbnpgcecaaMy
import Derived.Test.YtmpagpbnpgcecaaProg
import Derived.Test.YtmpagpbnpgcecaaEF0
import Derived.Test.YtmpagpbnpgcecaaEX2
import Derived.Test.YtmpagpbnpgcecaaEX3
set_option linter.unusedVariables false
set_option linter.unusedSimpArgs false
set_option maxRecDepth 100000
set_option maxHeartbeats 4000000
namespace Go.Proofs.Ytmpagpbnpgcecaa
open Go.Mx
attribute [local irreducible] wpOp

theorem ref10_back.ok {K : Nat} {a0 : List Int} {a1 : List Int} {a2 : Arr 256} {r0 : List Int} {a0_A : Option Addr} {a0_n : Nat} {a0_c : Nat} {a1_A : Option Addr} {a1_n : Nat} {a1_c : Nat} (h : ref10_back.f K a0 a1 a2 = some r0) (w0 : World) (hp0 : RowL (CI .u8) w0 a0_A a0_n a0_c a0) (hp1 : RowL (CI .u8) w0 a1_A a1_n a1_c a1) : Calls Try.prog 54 #[.slice a0_A a0_n a0_c, .slice a1_A a1_n a1_c, .agg (enc .u8 a2).toArray] w0 fun e w' => ∃ h : (Option Addr × Nat × Nat), e = .returned (.slice h.1 h.2.1 h.2.2) ∧ St w0 [] [.ownL (CI .u8) h.1 h.2.1 h.2.2 r0 5] [] w' := by
 refine calls_k Try.func54 rfl fun Q qq => ?_
 have hs := St.startR (all_cons (RowP.ent hp0) (all_cons (RowP.ent hp1) all_nil))
 refine wp_conv (a' := ⟨#[.slice a0_A a0_n a0_c, .slice a1_A a1_n a1_c, .agg (enc .u8 a2).toArray, undef, undef, undef, undef, undef, undef, undef, undef, undef, undef, undef, undef, undef, undef, undef, undef, undef, undef, undef, undef, undef, undef, undef, undef, undef, undef, undef, undef, undef, undef, undef, undef, undef, undef, undef, undef, undef, undef, undef, undef], []⟩) (by kernel_rfl) ?_
 refine xseq_k fun KS1 ks1 => ?_
 refine xregS [0, 1] fun KR2 kr2 => ?_
 refine wpS.only 0 (op_box (t := 46) (v := .agg (enc .u8 a2).toArray) (d := (some 5)) (by kernel_rfl) hs (enc .u8 a2) (by kernel_rfl) (by kernel_rfl) ?_)
 intro b1 w gw hs
 refine ⟨fun _ => trivial, ?_⟩
 refine wpS.q 1 6 (.slice none 0 0) ?_
 refine wpS.fin rfl (kr2 _ _ (then_n (ks1 _ _ (xseq_k fun KS3 ks3 => (xregS [0, 1, 2, 3, 4] fun KR4 kr4 => ?_)))))
 refine wpS.q 0 10 (.slice a0_A a0_n a0_c) ?_
 refine wpS.tk 1 false (some 11) (.int .i64 (a0.length : Int)) (yld_lenL (hs.rowR 0 rfl) (fun _ => by kernel_rfl)) ?_
 refine wpS.qs [(2, 12, .int .i64 (iquo .i64 (a0.length : Int) 16)), (3, 13, .int .i64 (isub .i64 (iquo .i64 (a0.length : Int) 16) 1))] ?_
 obtain ⟨x2, hx, h⟩ := of_bind h
 refine wpS.tk 4 false (some 7) (.int .i64 x2) (yld_int hx (fun _ => by kernel_rfl)) ?_
 refine wpS.fin rfl (kr4 _ _ (then_n (ks3 _ _ (xseq_k fun KS5 ks5 => (xregS [0, 1] fun KR6 kr6 => ?_)))))
 refine wpS.qs [(0, 14, .slice a1_A a1_n a1_c), (1, 8, .slice a1_A a1_n a1_c)] ?_
 refine wpS.fin rfl (kr6 _ _ (then_n (ks5 _ _ (xseq_k fun KS7 ks7 => (xseq_k fun KS8 ks8 => (xregS [0, 1] fun KR9 kr9 => ?_))))))
 refine wpS.qs [(0, 15, .int .i64 x2), (1, 9, .int .i64 x2)] ?_
 refine wpS.fin rfl (kr9 _ _ (then_n (ks8 _ _ ?_)))
 obtain ⟨y5, hy, hk0⟩ := of_bind h
 refine wp_exq (N := fun a w => ∃ (y5_A : Option Addr) (y5_n : Nat) (y5_c : Nat), St w0 [] [.blk b1 (enc .u8 a2) 46] [.rowL (CI .u8) y5_A y5_n y5_c y5, .rowL (CI .u8) a0_A a0_n a0_c a0, .rowL (CI .u8) a1_A a1_n a1_c a1] w ∧ ∃ g11 : Nat → Value, a = ⟨#[.slice a0_A a0_n a0_c, .slice a1_A a1_n a1_c, .agg (enc .u8 a2).toArray, undef, undef, .pointer (some ⟨b1, 0, none⟩), .slice none 0 0, .int .i64 x2, .slice y5_A y5_n y5_c, (g11 9), .slice a0_A a0_n a0_c, .int .i64 (a0.length : Int), .int .i64 (iquo .i64 (a0.length : Int) 16), .int .i64 (isub .i64 (iquo .i64 (a0.length : Int) 16) 1), .slice a1_A a1_n a1_c, .int .i64 x2, (g11 16), (g11 17), (g11 18), (g11 19), (g11 20), (g11 21), (g11 22), (g11 23), (g11 24), (g11 25), (g11 26), (g11 27), (g11 28), (g11 29), (g11 30), (g11 31), (g11 32), (g11 33), (g11 34), (g11 35), (g11 36), (g11 37), (g11 38), undef, undef, undef, undef], []⟩) (fun N0 nn0 => ?_) ?_
 ·clear hk0
  refine xblock ?_
  refine wp_loop_k (fun n a w => ∃ z3 z4, ∃ (z4_A : Option Addr) (z4_n : Nat) (z4_c : Nat), ref10_back.l0 K n a0 a2 x2 z3 z4 = some y5 ∧ St w0 [] [.blk b1 (enc .u8 a2) 46] [.rowL (CI .u8) z4_A z4_n z4_c z4, .rowL (CI .u8) a0_A a0_n a0_c a0, .rowL (CI .u8) a1_A a1_n a1_c a1] w ∧ ∃ g10 : Nat → Value, a = ⟨#[.slice a0_A a0_n a0_c, .slice a1_A a1_n a1_c, .agg (enc .u8 a2).toArray, undef, undef, .pointer (some ⟨b1, 0, none⟩), .slice none 0 0, .int .i64 x2, .slice z4_A z4_n z4_c, .int .i64 z3, .slice a0_A a0_n a0_c, .int .i64 (a0.length : Int), .int .i64 (iquo .i64 (a0.length : Int) 16), .int .i64 (isub .i64 (iquo .i64 (a0.length : Int) 16) 1), .slice a1_A a1_n a1_c, .int .i64 x2, (g10 16), (g10 17), (g10 18), (g10 19), (g10 20), (g10 21), (g10 22), (g10 23), (g10 24), (g10 25), (g10 26), (g10 27), (g10 28), (g10 29), (g10 30), (g10 31), (g10 32), (g10 33), (g10 34), (g10 35), (g10 36), (g10 37), (g10 38), undef, undef, undef, undef], []⟩) K ⟨x2, a1, a1_A, a1_n, a1_c, hy, (hs.conv (L' := [.blk b1 (enc .u8 a2) 46]) rfl).pickR (pick_cons 1 rfl (pick_cons 0 rfl (pick_cons 1 rfl pick_nil))), exg (by kernel_rfl)⟩ ?_
  clear hs h hy
  rintro n a w ⟨z3, z4, z4_A, z4_n, z4_c, h, hs, g10, rfl⟩ KL0 kl0
  cases n with
  | zero => exact nomatch (show none = some _ from h)
  | succ n =>
   refine xseq_k fun KS12 ks12 => ?_
   refine xseq_k fun KS13 ks13 => ?_
   refine xregS [0, 1] fun KR14 kr14 => ?_
   refine wpS.q 0 16 (.int .i64 z3) ?_
   rcases of_if h with ⟨hc, h⟩ | ⟨hc, h⟩
   ·refine wpS.tk 1 false (some 17) (.bool true) (yld_b (dt hc) (fun _ => by kernel_rfl)) ?_
    refine wpS.fin rfl (kr14 _ _ (then_n (ks13 _ _ (wp_cond_t (by kernel_rfl) (xskip (then_n (ks12 _ _ (xseq_k fun KS15 ks15 => (xblock (xseq_k fun KS16 ks16 => (xregS [0, 1, 2, 3, 4, 5, 6, 7, 8, 9] fun KR17 kr17 => ?_)))))))))))
    refine wpS.qs [(0, 20, .slice z4_A z4_n z4_c), (1, 21, .slice a0_A a0_n a0_c), (2, 22, .int .i64 z3), (3, 23, .int .i64 (imul .i64 16 z3)), (4, 24, .int .i64 z3), (5, 25, .int .i64 (imul .i64 16 z3)), (6, 26, .int .i64 (iadd .i64 (imul .i64 16 z3) 16))] ?_
    obtain ⟨h0, h⟩ := of_chk h
    obtain ⟨h1, h⟩ := of_chk h
    obtain ⟨h2, h⟩ := of_chk h
    obtain ⟨s6_A, hA⟩ : ∃ A, A = if a0_c = ((imul .i64 16 z3) : Int).toNat then a0_A else adr a0_A (((imul .i64 16 z3) : Int).toNat * Cod.size (CI .u8)) := ⟨_, rfl⟩
    obtain ⟨s6_n, hn⟩ : ∃ n, n = ((iadd .i64 (imul .i64 16 z3) 16) : Int).toNat - ((imul .i64 16 z3) : Int).toNat := ⟨_, rfl⟩
    obtain ⟨s6_c, hc⟩ : ∃ c, c = a0_c - ((imul .i64 16 z3) : Int).toNat := ⟨_, rfl⟩
    refine wpS.tk 7 false (some 27) (.slice s6_A s6_n s6_c) (yld_sub (C := (CI .u8)) (t := 26) (e := 5) (low := some (.int .i64 (imul .i64 16 z3))) (high := some (.int .i64 (iadd .i64 (imul .i64 16 z3) 16))) (lo := (imul .i64 16 z3)) (hi := (iadd .i64 (imul .i64 16 z3) 16)) (hs.rowR 1 rfl) (by kernel_rfl) (by kernel_rfl) (by kernel_rfl) (.inr ⟨_, rfl⟩) (.inr ⟨_, rfl⟩) h0 h1 h2 hA hn hc) ?_
    have hs := hs.addSub (C := (CI .u8)) 1 rfl h0 h1 h2 hA hn hc
    obtain ⟨r7, hg, h⟩ := of_bind h
    refine wpS.only 8 (op_callH (d := (some 28)) (by kernel_rfl) hs (fun _ => by kernel_rfl) (ref01_Xor.ok hg _ (hs.rowR 1 rfl) (hs.rowR 0 rfl)) ?_)
    rintro ⟨r7_A, r7_n, r7_c⟩ w gw hs
    have hs := hs.conv (L' := [.ownL (CI .u8) r7_A r7_n r7_c r7 5, .blk b1 (enc .u8 a2) 46]) rfl
    refine ⟨fun _ => trivial, ?_⟩
    refine wpS.q 9 8 (.slice r7_A r7_n r7_c) ?_
    refine wpS.fin rfl (kr17 _ _ (then_n (ks16 _ _ ?_)))
    obtain ⟨y8, hj, h⟩ := of_bind h
    refine xseq_k fun KS19 ks19 => wp_join (N := fun a w => ∃ (y8_A : Option Addr) (y8_n : Nat) (y8_c : Nat), St w0 [] [.ownL (CI .u8) y8_A y8_n y8_c y8 5, .blk b1 (enc .u8 a2) 46] [.rowL (CI .u8) s6_A s6_n s6_c (subL a0 (imul .i64 16 z3) (iadd .i64 (imul .i64 16 z3) 16)), .rowL (CI .u8) z4_A z4_n z4_c z4, .rowL (CI .u8) a0_A a0_n a0_c a0, .rowL (CI .u8) a1_A a1_n a1_c a1] w ∧ ∃ g18 : Nat → Value, a = ⟨#[.slice a0_A a0_n a0_c, .slice a1_A a1_n a1_c, .agg (enc .u8 a2).toArray, undef, undef, .pointer (some ⟨b1, 0, none⟩), .slice none 0 0, .int .i64 x2, .slice y8_A y8_n y8_c, .int .i64 z3, .slice a0_A a0_n a0_c, .int .i64 (a0.length : Int), .int .i64 (iquo .i64 (a0.length : Int) 16), .int .i64 (isub .i64 (iquo .i64 (a0.length : Int) 16) 1), .slice a1_A a1_n a1_c, .int .i64 x2, .int .i64 z3, .bool true, (g10 18), (g10 19), .slice z4_A z4_n z4_c, .slice a0_A a0_n a0_c, .int .i64 z3, .int .i64 (imul .i64 16 z3), .int .i64 z3, .int .i64 (imul .i64 16 z3), .int .i64 (iadd .i64 (imul .i64 16 z3) 16), .slice s6_A s6_n s6_c, .slice r7_A r7_n r7_c, (g18 29), (g18 30), (g18 31), (g18 32), (g18 33), (g18 34), (g10 35), (g10 36), (g10 37), (g10 38), undef, undef, undef, undef], []⟩) (fun N nj => ?_) ?_
    ·clear h
     have h := hj
     refine xseq_k fun KS20 ks20 => ?_
     refine xregS [0, 1, 2] fun KR21 kr21 => ?_
     refine wpS.qs [(0, 29, .int .i64 z3), (1, 30, .int .i64 x2)] ?_
     rcases of_if h with ⟨hc, h⟩ | ⟨hc, h⟩
     ·refine wpS.tk 2 false (some 31) (.bool true) (yld_b (dt hc) (fun _ => by kernel_rfl)) ?_
      refine wpS.fin rfl (kr21 _ _ (then_n (ks20 _ _ (wp_cond_t (by kernel_rfl) (xregS [0, 1, 2, 3] fun KR22 kr22 => ?_)))))
      refine wpS.qs [(0, 32, .slice r7_A r7_n r7_c), (1, 33, .agg (enc .u8 (wr (wr (wr (wr (zeroA 4) 0 14) 1 11) 2 13) 3 9)).toArray)] ?_
      obtain ⟨r9, hg, h⟩ := of_bind h
      refine wpS.only 2 (op_callH (d := (some 34)) (by kernel_rfl) hs (fun _ => by kernel_rfl) (ref10_columns.ok hg _ (hs.rowL 0 rfl)) ?_)
      rintro ⟨r9_A, r9_n, r9_c⟩ w gw hs
      have hs := hs.conv (L' := [.ownL (CI .u8) r9_A r9_n r9_c r9 5, .ownL (CI .u8) r7_A r7_n r7_c r7 5, .blk b1 (enc .u8 a2) 46]) rfl
      refine ⟨fun _ => trivial, ?_⟩
      refine wpS.q 3 8 (.slice r9_A r9_n r9_c) ?_
      refine wpS.fin rfl (kr22 _ _ ?_)
      have q0 := of_some h
      subst q0
      exact nj _ _ ⟨r9_A, r9_n, r9_c, (hs.drop (.cons_cons _ (.cons _ (.cons_cons _ .slnil)))), exg (by kernel_rfl)⟩
     refine wpS.tk 2 false (some 31) (.bool false) (yld_b (df hc) (fun _ => by kernel_rfl)) ?_
     refine wpS.fin rfl (kr21 _ _ (then_n (ks20 _ _ (wp_cond_f (by kernel_rfl) (xskip ?_)))))
     have q0 := of_some h
     subst q0
     exact nj _ _ ⟨r7_A, r7_n, r7_c, (hs.conv rfl), exg (by kernel_rfl)⟩
    clear hj hs
    rintro a w ⟨y8_A, y8_n, y8_c, hs, g18, rfl⟩
    refine then_n (ks19 _ _ ?_)
    refine wp_regG [] (fun k => True) 5 (by kernel_rfl) (by kernel_rfl) (by kernel_rfl) fun KR23 kr23 => ?_
    have hs := hs.drawn1
    refine wpG.q 0 35 (.slice y8_A y8_n y8_c) ?_
    refine wpG.tD 2 true (some 37) (.agg (enc .u8 a2).toArray) (yld_loadW (e := 46) (n := 256) hs 1 rfl (by kernel_rfl) (by kernel_rfl) (by kernel_rfl) (by exact enc_len _ _) .grow) ?_
    obtain ⟨r10, hg, h⟩ := of_bind h
    refine wpG.only 1 (by kernel_rfl) (op_callH (d := (some 36)) (by kernel_rfl) hs (fun _ => by kernel_rfl) (ref10_rows.ok hg _ (hs.rowL 0 rfl)) ?_)
    rintro ⟨r10_A, r10_n, r10_c⟩ w gw hs
    have hs := hs.conv (L' := [.ownL (CI .u8) r10_A r10_n r10_c r10 5, .ownL (CI .u8) y8_A y8_n y8_c y8 5, .blk b1 (enc .u8 a2) 46]) rfl
    refine ⟨.of gw, ?_⟩
    obtain ⟨r11, hg, h⟩ := of_bind h
    refine wpG.only 3 (by kernel_rfl) (op_callH (d := (some 38)) (by kernel_rfl) hs (fun _ => by kernel_rfl) (ref10_each.ok hg _ (hs.rowL 0 rfl)) ?_)
    rintro ⟨r11_A, r11_n, r11_c⟩ w gw hs
    have hs := hs.conv (L' := [.ownL (CI .u8) r11_A r11_n r11_c r11 5, .ownL (CI .u8) r10_A r10_n r10_c r10 5, .ownL (CI .u8) y8_A y8_n y8_c y8 5, .blk b1 (enc .u8 a2) 46]) rfl
    refine ⟨.of gw, ?_⟩
    refine wpG.q 4 8 (.slice r11_A r11_n r11_c) ?_
    refine wpG.fin (by kernel_rfl) rfl (kr23 _ _ ?_)
    refine inBlock_n (then_n (ks15 _ _ (xregS [0, 1, 2] fun KR24 kr24 => ?_)))
    refine wpS.qs [(0, 18, .int .i64 z3), (1, 19, .int .i64 (isub .i64 z3 1))] ?_
    obtain ⟨x12, hx, h⟩ := of_bind h
    refine wpS.tk 2 false (some 9) (.int .i64 x12) (yld_int hx (fun _ => by kernel_rfl)) ?_
    refine wpS.fin rfl (kr24 _ _ ?_)
    have hs := hs.freeze 0 rfl
    exact then_n (kl0 _ _ ⟨n, Nat.lt_succ_self n, x12, r11, r11_A, r11_n, r11_c, h, ((hs.drop (.cons _ (.cons _ (.cons_cons _ .slnil)))).pickR (pick_cons 0 rfl (pick_cons 3 rfl (pick_cons 4 rfl pick_nil)))), exg (by kernel_rfl)⟩)
   refine wpS.tk 1 false (some 17) (.bool false) (yld_b (df hc) (fun _ => by kernel_rfl)) ?_
   refine wpS.fin rfl (kr14 _ _ (then_n (ks13 _ _ (wp_cond_f (by kernel_rfl) (xexit (then_x (then_x (inBlock_hit ?_))))))))
   have q0 := of_some h
   subst q0
   exact exq_n (nn0 _ _ ⟨z4_A, z4_n, z4_c, (hs.conv rfl), exg (by kernel_rfl)⟩)
 clear hs h hy
 rintro a w ⟨y5_A, y5_n, y5_c, hs, g11, rfl⟩
 have h := hk0
 refine then_n (ks7 _ _ (xseq_k fun KS25 ks25 => (xregS [0, 1, 2, 3, 4] fun KR26 kr26 => ?_)))
 refine wpS.qs [(0, 39, .slice y5_A y5_n y5_c), (1, 40, .slice a0_A a0_n a0_c)] ?_
 obtain ⟨h0, h⟩ := of_chk h
 obtain ⟨h1, h⟩ := of_chk h
 obtain ⟨h2, h⟩ := of_chk h
 obtain ⟨s13_A, hA⟩ : ∃ A, A = if a0_c = (0 : Int).toNat then a0_A else adr a0_A ((0 : Int).toNat * Cod.size (CI .u8)) := ⟨_, rfl⟩
 obtain ⟨s13_n, hn⟩ : ∃ n, n = (16 : Int).toNat - (0 : Int).toNat := ⟨_, rfl⟩
 obtain ⟨s13_c, hc⟩ : ∃ c, c = a0_c - (0 : Int).toNat := ⟨_, rfl⟩
 refine wpS.tk 2 false (some 41) (.slice s13_A s13_n s13_c) (yld_sub (C := (CI .u8)) (t := 26) (e := 5) (low := none) (high := some (.int .i64 16)) (lo := 0) (hi := 16) (hs.rowR 1 rfl) (by kernel_rfl) (by kernel_rfl) (by kernel_rfl) (.inl ⟨rfl, rfl⟩) (.inr ⟨_, rfl⟩) h0 h1 h2 hA hn hc) ?_
 have hs := hs.addSub (C := (CI .u8)) 1 rfl h0 h1 h2 hA hn hc
 obtain ⟨r14, hg, h⟩ := of_bind h
 refine wpS.only 3 (op_callH (d := (some 42)) (by kernel_rfl) hs (fun _ => by kernel_rfl) (ref01_Xor.ok hg _ (hs.rowR 1 rfl) (hs.rowR 0 rfl)) ?_)
 rintro ⟨r14_A, r14_n, r14_c⟩ w gw hs
 have hs := hs.conv (L' := [.ownL (CI .u8) r14_A r14_n r14_c r14 5, .blk b1 (enc .u8 a2) 46]) rfl
 refine ⟨fun _ => trivial, ?_⟩
 refine wpS.q 4 6 (.slice r14_A r14_n r14_c) ?_
 refine wpS.fin rfl (kr26 _ _ (then_n (ks25 _ _ (xret ?_))))
 have q0 := of_some h
 subst q0
 exact qq _ _ (post_ret (by kernel_rfl) (run_results [.tmp 6] [.slice r14_A r14_n r14_c] (by kernel_rfl) (.cons (res_tmp (by kernel_rfl)) .nil)) ⟨⟨r14_A, r14_n, r14_c⟩, congrArg Ending.returned (by kernel_rfl), ((hs.drop (.cons_cons _ (.cons _ .slnil))).pickR pick_nil)⟩)

theorem ref10_Back.ok {K : Nat} {a0 : List Int} {a1 : List Int} {r0 : List Int} {r1 : Int} {a0_A : Option Addr} {a0_n : Nat} {a0_c : Nat} {a1_A : Option Addr} {a1_n : Nat} {a1_c : Nat} (h : ref10_Back.f K a0 a1 = some (r0, r1)) (w0 : World) (hp0 : RowL (CI .u8) w0 a0_A a0_n a0_c a0) (hp1 : RowL (CI .u8) w0 a1_A a1_n a1_c a1) : Calls Try.prog 21 #[.slice a0_A a0_n a0_c, .slice a1_A a1_n a1_c] w0 fun e w' => ∃ h : (Option Addr × Nat × Nat), e = .returned (.tuple #[.slice h.1 h.2.1 h.2.2, .int .i64 r1]) ∧ St w0 [] [.ownL (CI .u8) h.1 h.2.1 h.2.2 r0 5] [] w' := by
 refine calls_k Try.func21 rfl fun Q qq => ?_
 have hs := St.startR (all_cons (RowP.ent hp0) (all_cons (RowP.ent hp1) all_nil))
 refine wp_conv (a' := ⟨#[.slice a0_A a0_n a0_c, .slice a1_A a1_n a1_c, undef, undef, undef, undef, undef, undef, undef, undef, undef, undef, undef, undef, undef, undef, undef, undef, undef, undef, undef, undef, undef, undef], []⟩) (by kernel_rfl) ?_
 refine xseq_k fun KS1 ks1 => ?_
 refine xregS [0, 1] fun KR2 kr2 => ?_
 refine wpS.qs [(0, 4, .slice none 0 0), (1, 5, .int .i64 0)] ?_
 refine wpS.fin rfl (kr2 _ _ (then_n (ks1 _ _ (xseq_k fun KS3 ks3 => (xseq_k fun KS4 ks4 => (xregS [0, 1, 2] fun KR5 kr5 => ?_))))))
 refine wpS.q 0 8 (.slice a0_A a0_n a0_c) ?_
 obtain ⟨r1, hg, h⟩ := of_bind h
 cases r1 with
 | true =>
  have h := of_if_t h
  refine wpS.only 1 (op_call (d := (some 9)) (by kernel_rfl) hs (fun _ => by kernel_rfl) (ref10_Sized.ok hg _ (hs.rowR 0 rfl)) ?_)
  intro w gw hs
  refine ⟨fun _ => trivial, ?_⟩
  refine wpS.q 2 10 (.bool false) ?_
  refine wpS.fin rfl (kr5 _ _ (then_n (ks4 _ _ (wp_cond_f (by kernel_rfl) (xskip (then_n (ks3 _ _ (xseq_k fun KS6 ks6 => (xseq_k fun KS7 ks7 => (xregS [0, 1, 2] fun KR8 kr8 => ?_))))))))))
  refine wpS.q 0 11 (.slice a1_A a1_n a1_c) ?_
  refine wpS.tk 1 false (some 12) (.int .i64 (a1.length : Int)) (yld_lenL (hs.rowR 1 rfl) (fun _ => by kernel_rfl)) ?_
  rcases of_if h with ⟨hc, h⟩ | ⟨hc, h⟩
  ·refine wpS.tk 2 false (some 13) (.bool false) (yld_b (nf hc) (fun _ => by kernel_rfl)) ?_
   refine wpS.fin rfl (kr8 _ _ (then_n (ks7 _ _ (wp_cond_f (by kernel_rfl) (xskip (then_n (ks6 _ _ (xseq_k fun KS9 ks9 => (xregS [0, 1, 2, 3, 4, 5, 6, 7] fun KR10 kr10 => ?_)))))))))
   obtain ⟨⟨r2, r3⟩, hg, h⟩ := of_bind h
   refine wpS.only 0 (op_call (d := (some 15)) (by kernel_rfl) hs (fun _ => by kernel_rfl) (ref10_boxes.ok hg _) ?_)
   intro w gw hs
   refine ⟨fun _ => trivial, ?_⟩
   refine wpS.qs [(1, 14, .tuple #[.agg (enc .u8 r2).toArray, .agg (enc .u8 r3).toArray]), (2, 16, .agg (enc .u8 r2).toArray), (3, 17, .agg (enc .u8 r3).toArray)] ?_
   refine wpS.only 4 (op_alloc (t := 46) (d := (some 6)) (by kernel_rfl) hs (enc .u8 (zeroA 256)) (.agg (enc .u8 (zeroA 256)).toArray) (by kernel_rfl) (by kernel_rfl) (by kernel_rfl) ?_)
   intro b4 w gw hs
   refine ⟨fun _ => trivial, ?_⟩
   refine wpS.only 5 (op_alloc (t := 46) (d := (some 7)) (by kernel_rfl) hs (enc .u8 (zeroA 256)) (.agg (enc .u8 (zeroA 256)).toArray) (by kernel_rfl) (by kernel_rfl) (by kernel_rfl) ?_)
   intro b5 w gw hs
   refine ⟨fun _ => trivial, ?_⟩
   refine wpS.only 6 (op_storeW (t := 46) (v := .agg (enc .u8 r2).toArray) (d := none) (by kernel_rfl) hs 1 rfl (vs := enc .u8 r2) (n := 256) (by kernel_rfl) (by kernel_rfl) (by kernel_rfl) (by simp [enc_len]) (by simp [enc_len]) (by intro u hu; exact enc_one _ _ u hu) ?_)
   intro w kp hs
   refine ⟨fun _ => trivial, ?_⟩
   refine wpS.only 7 (op_storeW (t := 46) (v := .agg (enc .u8 r3).toArray) (d := none) (by kernel_rfl) hs 0 rfl (vs := enc .u8 r3) (n := 256) (by kernel_rfl) (by kernel_rfl) (by kernel_rfl) (by simp [enc_len]) (by simp [enc_len]) (by intro u hu; exact enc_one _ _ u hu) ?_)
   intro w kp hs
   refine ⟨fun _ => trivial, ?_⟩
   refine wpS.fin rfl (kr10 _ _ (then_n (ks9 _ _ (xseq_k fun KS11 ks11 => ?_))))
   refine wp_regG [] (fun k => True) 8 (by kernel_rfl) (by kernel_rfl) (by kernel_rfl) fun KR12 kr12 => ?_
   have hs := hs.drawn1
   refine wpG.q 0 18 (.slice a0_A a0_n a0_c) ?_
   refine wpG.tD 1 true (some 19) (.agg (enc .u8 r2).toArray) (yld_loadW (e := 46) (n := 256) hs 1 rfl (by kernel_rfl) (by kernel_rfl) (by kernel_rfl) (by exact enc_len _ _) .grow) ?_
   refine wpG.q 3 21 (.slice a1_A a1_n a1_c) ?_
   refine wpG.tD 4 true (some 22) (.agg (enc .u8 r3).toArray) (yld_loadW (e := 46) (n := 256) hs 0 rfl (by kernel_rfl) (by kernel_rfl) (by kernel_rfl) (by exact enc_len _ _) .grow) ?_
   obtain ⟨r6, hg, h⟩ := of_bind h
   refine wpG.only 2 (by kernel_rfl) (op_callH (d := (some 20)) (by kernel_rfl) hs (fun _ => by kernel_rfl) (ref10_keys.ok hg _ (hs.rowR 0 rfl)) ?_)
   rintro ⟨r6_A, r6_n, r6_c⟩ w gw hs
   have hs := hs.conv (L' := [.ownL (CI .u8) r6_A r6_n r6_c r6 5, .blk b5 (enc .u8 r3) 46, .blk b4 (enc .u8 r2) 46]) rfl
   refine ⟨.of gw, ?_⟩
   obtain ⟨r7, hg, h⟩ := of_bind h
   refine wpG.only 5 (by kernel_rfl) (op_callH (d := (some 23)) (by kernel_rfl) hs (fun _ => by kernel_rfl) (ref10_back.ok hg _ (hs.rowL 0 rfl) (hs.rowR 1 rfl)) ?_)
   rintro ⟨r7_A, r7_n, r7_c⟩ w gw hs
   have hs := hs.conv (L' := [.ownL (CI .u8) r7_A r7_n r7_c r7 5, .ownL (CI .u8) r6_A r6_n r6_c r6 5, .blk b5 (enc .u8 r3) 46, .blk b4 (enc .u8 r2) 46]) rfl
   refine ⟨.of gw, ?_⟩
   refine wpG.q 6 4 (.slice r7_A r7_n r7_c) ?_
   refine wpG.q 7 5 (.int .i64 0) ?_
   refine wpG.fin (by kernel_rfl) rfl (kr12 _ _ ?_)
   refine then_n (ks11 _ _ (xret ?_))
   obtain ⟨q0, qr0⟩ := Prod.mk.inj (of_some h)
   have q1 := qr0
   subst q0
   subst q1
   exact qq _ _ (post_ret (by kernel_rfl) (run_results [.tmp 4, .tmp 5] [.slice r7_A r7_n r7_c, .int .i64 0] (by kernel_rfl) (.cons (res_tmp (by kernel_rfl)) (.cons (res_tmp (by kernel_rfl)) .nil))) ⟨⟨r7_A, r7_n, r7_c⟩, congrArg Ending.returned (by kernel_rfl), ((hs.drop (.cons_cons _ (.cons _ (.cons _ (.cons _ .slnil))))).pickR pick_nil)⟩)
  refine wpS.tk 2 false (some 13) (.bool true) (yld_b (nt hc) (fun _ => by kernel_rfl)) ?_
  refine wpS.fin rfl (kr8 _ _ (then_n (ks7 _ _ (wp_cond_t (by kernel_rfl) (xseq_k fun KS13 ks13 => (xregS [0, 1] fun KR14 kr14 => ?_))))))
  refine wpS.qs [(0, 4, .slice none 0 0), (1, 5, .int .i64 14)] ?_
  refine wpS.fin rfl (kr14 _ _ (then_n (ks13 _ _ (xret (then_r ?_)))))
  obtain ⟨q0, qr0⟩ := Prod.mk.inj (of_some h)
  have q1 := qr0
  subst q0
  subst q1
  have hs := hs.addNilL (CI .u8) 5
  exact qq _ _ (post_ret (by kernel_rfl) (run_results [.tmp 4, .tmp 5] [.slice none 0 0, .int .i64 14] (by kernel_rfl) (.cons (res_tmp (by kernel_rfl)) (.cons (res_tmp (by kernel_rfl)) .nil))) ⟨⟨none, 0, 0⟩, congrArg Ending.returned (by kernel_rfl), (hs.pickR pick_nil)⟩)
 | false =>
  have h := of_if_f h
  refine wpS.only 1 (op_call (d := (some 9)) (by kernel_rfl) hs (fun _ => by kernel_rfl) (ref10_Sized.ok hg _ (hs.rowR 0 rfl)) ?_)
  intro w gw hs
  refine ⟨fun _ => trivial, ?_⟩
  refine wpS.q 2 10 (.bool true) ?_
  refine wpS.fin rfl (kr5 _ _ (then_n (ks4 _ _ (wp_cond_t (by kernel_rfl) (xseq_k fun KS15 ks15 => (xregS [0, 1] fun KR16 kr16 => ?_))))))
  refine wpS.qs [(0, 4, .slice none 0 0), (1, 5, .int .i64 10)] ?_
  refine wpS.fin rfl (kr16 _ _ (then_n (ks15 _ _ (xret (then_r ?_)))))
  obtain ⟨q0, qr0⟩ := Prod.mk.inj (of_some h)
  have q1 := qr0
  subst q0
  subst q1
  have hs := hs.addNilL (CI .u8) 5
  exact qq _ _ (post_ret (by kernel_rfl) (run_results [.tmp 4, .tmp 5] [.slice none 0 0, .int .i64 10] (by kernel_rfl) (.cons (res_tmp (by kernel_rfl)) (.cons (res_tmp (by kernel_rfl)) .nil))) ⟨⟨none, 0, 0⟩, congrArg Ending.returned (by kernel_rfl), (hs.pickR pick_nil)⟩)

theorem ref01_Same.ok {K : Nat} {a0 : List Int} {a1 : List Int} {r0 : Bool} {a0_A : Option Addr} {a0_n : Nat} {a0_c : Nat} {a1_A : Option Addr} {a1_n : Nat} {a1_c : Nat} (h : ref01_Same.f K a0 a1 = some r0) (w0 : World) (hp0 : RowL (CI .u8) w0 a0_A a0_n a0_c a0) (hp1 : RowL (CI .u8) w0 a1_A a1_n a1_c a1) : Ret Try.prog 22 #[.slice a0_A a0_n a0_c, .slice a1_A a1_n a1_c] w0 (.bool r0) := by
 refine calls_k Try.func22 rfl fun Q qq => ?_
 have hs := St.startR (all_cons (RowP.ent hp0) (all_cons (RowP.ent hp1) all_nil))
 refine wp_conv (a' := ⟨#[.slice a0_A a0_n a0_c, .slice a1_A a1_n a1_c, undef, undef, undef, undef, undef, undef, undef, undef, undef, undef, undef, undef, undef, undef, undef, undef, undef, undef, undef, undef, undef, undef, undef, undef], []⟩) (by kernel_rfl) ?_
 refine xseq_k fun KS1 ks1 => ?_
 refine xregS [0] fun KR2 kr2 => ?_
 refine wpS.q 0 4 (.bool false) ?_
 refine wpS.fin rfl (kr2 _ _ (then_n (ks1 _ _ (xseq_k fun KS3 ks3 => (xseq_k fun KS4 ks4 => (xregS [0, 1, 2, 3, 4] fun KR5 kr5 => ?_))))))
 refine wpS.q 0 6 (.slice a0_A a0_n a0_c) ?_
 refine wpS.tk 1 false (some 7) (.int .i64 (a0.length : Int)) (yld_lenL (hs.rowR 0 rfl) (fun _ => by kernel_rfl)) ?_
 refine wpS.q 2 8 (.slice a1_A a1_n a1_c) ?_
 refine wpS.tk 3 false (some 9) (.int .i64 (a1.length : Int)) (yld_lenL (hs.rowR 1 rfl) (fun _ => by kernel_rfl)) ?_
 rcases of_if h with ⟨hc, h⟩ | ⟨hc, h⟩
 ·refine wpS.tk 4 false (some 10) (.bool false) (yld_b (nf hc) (fun _ => by kernel_rfl)) ?_
  refine wpS.fin rfl (kr5 _ _ (then_n (ks4 _ _ (wp_cond_f (by kernel_rfl) (xskip (then_n (ks3 _ _ (xseq_k fun KS6 ks6 => (xseq_k fun KS7 ks7 => (xregS [0] fun KR8 kr8 => ?_))))))))))
  refine wpS.q 0 5 (.int .i64 0) ?_
  refine wpS.fin rfl (kr8 _ _ (then_n (ks7 _ _ ?_)))
  obtain ⟨t0, hy, hk0⟩ := of_bind h
  refine wp_exq (N := fun a w => t0 = .inl () ∧ St w0 [] [] [.rowL (CI .u8) a0_A a0_n a0_c a0, .rowL (CI .u8) a1_A a1_n a1_c a1] w ∧ ∃ g10 : Nat → Value, a = ⟨#[.slice a0_A a0_n a0_c, .slice a1_A a1_n a1_c, undef, undef, (g10 4), (g10 5), .slice a0_A a0_n a0_c, .int .i64 (a0.length : Int), .slice a1_A a1_n a1_c, .int .i64 (a1.length : Int), .bool false, (g10 11), (g10 12), (g10 13), (g10 14), (g10 15), (g10 16), (g10 17), (g10 18), (g10 19), (g10 20), (g10 21), (g10 22), (g10 23), (g10 24), (g10 25)], []⟩) (fun N0 nn0 => ?_) ?_
  ·refine xblock ?_
   refine wp_loop_k (fun n a w => ∃ z1, ref01_Same.l0 K n a0 a1 z1 = some t0 ∧ St w0 [] [] [.rowL (CI .u8) a0_A a0_n a0_c a0, .rowL (CI .u8) a1_A a1_n a1_c a1] w ∧ ∃ g9 : Nat → Value, a = ⟨#[.slice a0_A a0_n a0_c, .slice a1_A a1_n a1_c, undef, undef, (g9 4), .int .i64 z1, .slice a0_A a0_n a0_c, .int .i64 (a0.length : Int), .slice a1_A a1_n a1_c, .int .i64 (a1.length : Int), .bool false, (g9 11), (g9 12), (g9 13), (g9 14), (g9 15), (g9 16), (g9 17), (g9 18), (g9 19), (g9 20), (g9 21), (g9 22), (g9 23), (g9 24), (g9 25)], []⟩) K ⟨0, hy, hs.conv rfl, exg (by kernel_rfl)⟩ ?_
   clear hs h hy
   rintro n a w ⟨z1, h, hs, g9, rfl⟩ KL0 kl0
   cases n with
   | zero => exact nomatch (show none = some _ from h)
   | succ n =>
    refine xseq_k fun KS11 ks11 => ?_
    refine xseq_k fun KS12 ks12 => ?_
    refine xregS [0, 1, 2, 3] fun KR13 kr13 => ?_
    refine wpS.qs [(0, 11, .int .i64 z1), (1, 12, .slice a0_A a0_n a0_c)] ?_
    refine wpS.tk 2 false (some 13) (.int .i64 (a0.length : Int)) (yld_lenL (hs.rowR 0 rfl) (fun _ => by kernel_rfl)) ?_
    rcases of_if h with ⟨hc, h⟩ | ⟨hc, h⟩
    ·refine wpS.tk 3 false (some 14) (.bool true) (yld_b (dt hc) (fun _ => by kernel_rfl)) ?_
     refine wpS.fin rfl (kr13 _ _ (then_n (ks12 _ _ (wp_cond_t (by kernel_rfl) (xskip (then_n (ks11 _ _ (xseq_k fun KS14 ks14 => (xblock (xseq_k fun KS15 ks15 => ?_))))))))))
     refine wp_regG [] (fun k => True) 9 (by kernel_rfl) (by kernel_rfl) (by kernel_rfl) fun KR16 kr16 => ?_
     have hs := hs.drawn1
     refine wpG.q 0 17 (.slice a0_A a0_n a0_c) ?_
     refine wpG.q 1 18 (.int .i64 z1) ?_
     obtain ⟨h0, h⟩ := of_chk h
     obtain ⟨h1, h⟩ := of_chk h
     have i0_17 := h0
     have i1_17 := h1
     refine wpG.tD 2 false (some 19) (.pointer (adr a0_A ((z1 : Int).toNat * Cod.size (CI .u8)))) (yld_idxL (C := (CI .u8)) (t := 26) (e := 5) (k := .i64) (x := z1) (hs.rowR 0 rfl) (by kernel_rfl) (by kernel_rfl) (by kernel_rfl) h0 h1) ?_
     refine wpG.tD 3 true (some 20) (.int .u8 (rdL (CI .u8) a0 z1)) (yld_loadL (C := (CI .u8)) (e := 5) (x := z1) (hs.rowR 0 rfl) (by kernel_rfl) rfl (by kernel_rfl) i0_17 i1_17) ?_
     refine wpG.q 4 21 (.slice a1_A a1_n a1_c) ?_
     refine wpG.q 5 22 (.int .i64 z1) ?_
     obtain ⟨h0, h⟩ := of_chk h
     obtain ⟨h1, h⟩ := of_chk h
     have i0_18 := h0
     have i1_18 := h1
     refine wpG.tD 6 false (some 23) (.pointer (adr a1_A ((z1 : Int).toNat * Cod.size (CI .u8)))) (yld_idxL (C := (CI .u8)) (t := 26) (e := 5) (k := .i64) (x := z1) (hs.rowR 1 rfl) (by kernel_rfl) (by kernel_rfl) (by kernel_rfl) h0 h1) ?_
     refine wpG.tD 7 true (some 24) (.int .u8 (rdL (CI .u8) a1 z1)) (yld_loadL (C := (CI .u8)) (e := 5) (x := z1) (hs.rowR 1 rfl) (by kernel_rfl) rfl (by kernel_rfl) i0_18 i1_18) ?_
     rcases of_if h with ⟨hc, h⟩ | ⟨hc, h⟩
     ·refine wpG.tD 8 false (some 25) (.bool false) (yld_b (nf hc) (fun _ => by kernel_rfl)) ?_
      refine wpG.fin (by kernel_rfl) rfl (kr16 _ _ ?_)
      refine then_n (ks15 _ _ (wp_cond_f (by kernel_rfl) (xskip (inBlock_n (then_n (ks14 _ _ (xregS [0, 1, 2] fun KR19 kr19 => ?_)))))))
      refine wpS.qs [(0, 15, .int .i64 z1), (1, 16, .int .i64 (iadd .i64 z1 1))] ?_
      obtain ⟨x2, hx, h⟩ := of_bind h
      refine wpS.tk 2 false (some 5) (.int .i64 x2) (yld_int hx (fun _ => by kernel_rfl)) ?_
      refine wpS.fin rfl (kr19 _ _ ?_)
      exact then_n (kl0 _ _ ⟨n, Nat.lt_succ_self n, x2, h, (hs.conv rfl), exg (by kernel_rfl)⟩)
     refine wpG.tD 8 false (some 25) (.bool true) (yld_b (nt hc) (fun _ => by kernel_rfl)) ?_
     refine wpG.fin (by kernel_rfl) rfl (kr16 _ _ ?_)
     refine then_n (ks15 _ _ (wp_cond_t (by kernel_rfl) (xseq_k fun KS20 ks20 => (xregS [0] fun KR21 kr21 => ?_))))
     refine wpS.q 0 4 (.bool false) ?_
     refine wpS.fin rfl (kr21 _ _ (then_n (ks20 _ _ (xret (inBlock_r (then_r (then_r (inBlock_r (exq_r (then_r ?_))))))))))
     have q0 := of_some h
     subst q0
     have q0 := of_some hk0
     subst q0
     exact qq _ _ (post_ret (by kernel_rfl) (run_results [.tmp 4] [.bool false] (by kernel_rfl) (.cons (res_tmp (by kernel_rfl)) .nil)) ⟨congrArg Ending.returned (by kernel_rfl), hs.none⟩)
    refine wpS.tk 3 false (some 14) (.bool false) (yld_b (df hc) (fun _ => by kernel_rfl)) ?_
    refine wpS.fin rfl (kr13 _ _ (then_n (ks12 _ _ (wp_cond_f (by kernel_rfl) (xexit (then_x (then_x (inBlock_hit ?_))))))))
    have q0 := of_some h
    subst q0
    exact exq_n (nn0 _ _ ⟨rfl, (hs.conv rfl), exg (by kernel_rfl)⟩)
  clear hs h hy
  rintro a w ⟨rfl, hs, g10, rfl⟩
  have h := hk0
  refine then_n (ks6 _ _ (xseq_k fun KS22 ks22 => (xregS [0] fun KR23 kr23 => ?_)))
  refine wpS.q 0 4 (.bool true) ?_
  refine wpS.fin rfl (kr23 _ _ (then_n (ks22 _ _ (xret ?_))))
  have q0 := of_some h
  subst q0
  exact qq _ _ (post_ret (by kernel_rfl) (run_results [.tmp 4] [.bool true] (by kernel_rfl) (.cons (res_tmp (by kernel_rfl)) .nil)) ⟨congrArg Ending.returned (by kernel_rfl), hs.none⟩)
 refine wpS.tk 4 false (some 10) (.bool true) (yld_b (nt hc) (fun _ => by kernel_rfl)) ?_
 refine wpS.fin rfl (kr5 _ _ (then_n (ks4 _ _ (wp_cond_t (by kernel_rfl) (xseq_k fun KS24 ks24 => (xregS [0] fun KR25 kr25 => ?_))))))
 refine wpS.q 0 4 (.bool false) ?_
 refine wpS.fin rfl (kr25 _ _ (then_n (ks24 _ _ (xret (then_r ?_)))))
 have q0 := of_some h
 subst q0
 exact qq _ _ (post_ret (by kernel_rfl) (run_results [.tmp 4] [.bool false] (by kernel_rfl) (.cons (res_tmp (by kernel_rfl)) .nil)) ⟨congrArg Ending.returned (by kernel_rfl), hs.none⟩)
end Go.Proofs.Ytmpagpbnpgcecaa
