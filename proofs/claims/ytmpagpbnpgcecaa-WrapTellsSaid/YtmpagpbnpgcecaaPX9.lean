/- Printed by this work's own program: the code of each function below comes to the answer that its plain form tells. -/
import Derived.Test.YtmpagpbnpgcecaaMa
import Derived.Test.YtmpagpbnpgcecaaProg
import Derived.Test.YtmpagpbnpgcecaaPF0
import Derived.Test.YtmpagpbnpgcecaaPX5
import Derived.Test.YtmpagpbnpgcecaaPX6
import Derived.Test.YtmpagpbnpgcecaaPX7
import Derived.Test.YtmpagpbnpgcecaaPX8
set_option linter.unusedVariables false
set_option linter.unusedSimpArgs false
set_option maxRecDepth 100000
set_option maxHeartbeats 4000000
namespace Go.Proofs.Ytmpagpbnpgcecaa
open Go.Mx
attribute [local irreducible] wpOp

theorem ref11_Unwrap.ok {K : Nat} {a0 : List Int} {a1 : List Int} {r0 : List Int} {r1 : Int} {a0_A : Option Addr} {a0_n : Nat} {a0_c : Nat} {a1_A : Option Addr} {a1_n : Nat} {a1_c : Nat} (h : ref11_Unwrap.f K a0 a1 = some (r0, r1)) (w0 : World) (hp0 : RowL (CI .u8) w0 a0_A a0_n a0_c a0) (hp1 : RowL (CI .u8) w0 a1_A a1_n a1_c a1) : Calls Try.prog 27 #[.slice a0_A a0_n a0_c, .slice a1_A a1_n a1_c] w0 fun e w' => ∃ h : (Option Addr × Nat × Nat), e = .returned (.tuple #[.slice h.1 h.2.1 h.2.2, .int .i64 r1]) ∧ St w0 [] [.ownL (CI .u8) h.1 h.2.1 h.2.2 r0 5] [] w' := by
 refine calls_k Try.func27 rfl fun Q qq => ?_
 have hs := St.startR (all_cons (RowP.ent hp0) (all_cons (RowP.ent hp1) all_nil))
 refine wp_conv (a' := ⟨#[.slice a0_A a0_n a0_c, .slice a1_A a1_n a1_c, undef, undef, undef, undef, undef, undef, undef, undef, undef, undef, undef, undef, undef, undef, undef, undef, undef, undef, undef, undef, undef, undef, undef, undef, undef, undef, undef, undef, undef, undef, undef, undef, undef, undef, undef, undef, undef, undef, undef, undef, undef, undef, undef, undef, undef, undef, undef, undef, undef, undef, undef, undef, undef, undef, undef, undef, undef, undef, undef, undef, undef, undef, undef, undef, undef, undef, undef, undef, undef, undef, undef, undef, undef, undef, undef, undef, undef, undef, undef, undef, undef, undef, undef, undef, undef, undef, undef, undef, undef, undef, undef, undef, undef, undef], []⟩) (by kernel_rfl) ?_
 refine xseq_k fun KS1 ks1 => ?_
 refine xregS [0, 1] fun KR2 kr2 => ?_
 refine wpS.qs [(0, 4, .slice none 0 0), (1, 5, .int .i64 0)] ?_
 refine wpS.fin rfl (kr2 _ _ (then_n (ks1 _ _ (xseq_k fun KS3 ks3 => (xseq_k fun KS4 ks4 => (xregS [0, 1, 2] fun KR5 kr5 => ?_))))))
 refine wpS.q 0 14 (.slice a0_A a0_n a0_c) ?_
 obtain ⟨r1, hg, h⟩ := of_bind h
 cases r1 with
 | true =>
  have h := of_if_t h
  refine wpS.only 1 (op_call (d := (some 15)) (by kernel_rfl) hs (fun _ => by kernel_rfl) (ref10_Sized.ok hg _ (hs.rowR 0 rfl)) ?_)
  intro w gw hs
  refine ⟨fun _ => trivial, ?_⟩
  refine wpS.q 2 16 (.bool false) ?_
  refine wpS.fin rfl (kr5 _ _ (then_n (ks4 _ _ (wp_cond_f (by kernel_rfl) (xskip (then_n (ks3 _ _ (xseq_k fun KS6 ks6 => (xseq_k fun KS7 ks7 => (xregS [0, 1, 2, 3, 4, 5, 6, 7, 8, 9, 10, 11, 12, 13] fun KR8 kr8 => ?_))))))))))
  refine wpS.q 0 17 (.slice a1_A a1_n a1_c) ?_
  refine wpS.tk 1 false (some 18) (.int .i64 (a1.length : Int)) (yld_lenL (hs.rowR 1 rfl) (fun _ => by kernel_rfl)) ?_
  rcases of_if h with ⟨hc, h⟩ | ⟨hc, h⟩
  ·refine wpS.tk 2 false (some 19) (.bool true) (yld_b (dt hc) (fun _ => by kernel_rfl)) ?_
   refine wpS.qs [(3, 20, .bool true), (4, 21, undef), (5, 22, undef), (6, 23, undef), (7, 24, .bool true), (8, 25, .bool true), (9, 26, undef), (10, 27, undef), (11, 28, undef), (12, 29, undef), (13, 30, .bool true)] ?_
   refine wpS.fin rfl (kr8 _ _ (then_n (ks7 _ _ (wp_cond_t (by kernel_rfl) (xseq_k fun KS9 ks9 => (xregS [0, 1] fun KR10 kr10 => ?_))))))
   refine wpS.qs [(0, 4, .slice none 0 0), (1, 5, .int .i64 14)] ?_
   refine wpS.fin rfl (kr10 _ _ (then_n (ks9 _ _ (xret (then_r ?_)))))
   obtain ⟨q0, qr0⟩ := Prod.mk.inj (of_some h)
   have q1 := qr0
   subst q0
   subst q1
   have hs := hs.addNilL (CI .u8) 5
   exact qq _ _ (post_ret (by kernel_rfl) (run_results [.tmp 4, .tmp 5] [.slice none 0 0, .int .i64 14] (by kernel_rfl) (.cons (res_tmp (by kernel_rfl)) (.cons (res_tmp (by kernel_rfl)) .nil))) ⟨⟨none, 0, 0⟩, congrArg Ending.returned (by kernel_rfl), (hs.pickR pick_nil)⟩)
  refine wpS.tk 2 false (some 19) (.bool false) (yld_b (df hc) (fun _ => by kernel_rfl)) ?_
  refine wpS.qs [(3, 20, .bool false), (4, 21, .slice a1_A a1_n a1_c)] ?_
  refine wpS.tk 5 false (some 22) (.int .i64 (a1.length : Int)) (yld_lenL (hs.rowR 1 rfl) (fun _ => by kernel_rfl)) ?_
  rcases of_if h with ⟨hc, h⟩ | ⟨hc, h⟩
  ·refine wpS.tk 6 false (some 23) (.bool true) (yld_b (dt hc) (fun _ => by kernel_rfl)) ?_
   refine wpS.qs [(7, 24, .bool true), (8, 25, .bool true), (9, 26, undef), (10, 27, undef), (11, 28, undef), (12, 29, undef), (13, 30, .bool true)] ?_
   refine wpS.fin rfl (kr8 _ _ (then_n (ks7 _ _ (wp_cond_t (by kernel_rfl) (xseq_k fun KS11 ks11 => (xregS [0, 1] fun KR12 kr12 => ?_))))))
   refine wpS.qs [(0, 4, .slice none 0 0), (1, 5, .int .i64 14)] ?_
   refine wpS.fin rfl (kr12 _ _ (then_n (ks11 _ _ (xret (then_r ?_)))))
   obtain ⟨q0, qr0⟩ := Prod.mk.inj (of_some h)
   have q1 := qr0
   subst q0
   subst q1
   have hs := hs.addNilL (CI .u8) 5
   exact qq _ _ (post_ret (by kernel_rfl) (run_results [.tmp 4, .tmp 5] [.slice none 0 0, .int .i64 14] (by kernel_rfl) (.cons (res_tmp (by kernel_rfl)) (.cons (res_tmp (by kernel_rfl)) .nil))) ⟨⟨none, 0, 0⟩, congrArg Ending.returned (by kernel_rfl), (hs.pickR pick_nil)⟩)
  refine wpS.tk 6 false (some 23) (.bool false) (yld_b (df hc) (fun _ => by kernel_rfl)) ?_
  refine wpS.qs [(7, 24, .bool false), (8, 25, .bool false), (9, 26, .slice a1_A a1_n a1_c)] ?_
  refine wpS.tk 10 false (some 27) (.int .i64 (a1.length : Int)) (yld_lenL (hs.rowR 1 rfl) (fun _ => by kernel_rfl)) ?_
  refine wpS.q 11 28 (.int .i64 (irem .i64 (a1.length : Int) 8)) ?_
  rcases of_if h with ⟨hc, h⟩ | ⟨hc, h⟩
  ·refine wpS.tk 12 false (some 29) (.bool false) (yld_b (nf hc) (fun _ => by kernel_rfl)) ?_
   refine wpS.q 13 30 (.bool false) ?_
   refine wpS.fin rfl (kr8 _ _ (then_n (ks7 _ _ (wp_cond_f (by kernel_rfl) (xskip (then_n (ks6 _ _ (xseq_k fun KS13 ks13 => (xregS [0, 1, 2, 3] fun KR14 kr14 => ?_)))))))))
   refine wpS.q 0 31 (.slice a1_A a1_n a1_c) ?_
   obtain ⟨h0, h⟩ := of_chk h
   obtain ⟨h1, h⟩ := of_chk h
   obtain ⟨h2, h⟩ := of_chk h
   obtain ⟨s2_A, hA⟩ : ∃ A, A = if a1_c = (0 : Int).toNat then a1_A else adr a1_A ((0 : Int).toNat * Cod.size (CI .u8)) := ⟨_, rfl⟩
   obtain ⟨s2_n, hn⟩ : ∃ n, n = (8 : Int).toNat - (0 : Int).toNat := ⟨_, rfl⟩
   obtain ⟨s2_c, hc⟩ : ∃ c, c = a1_c - (0 : Int).toNat := ⟨_, rfl⟩
   refine wpS.tk 1 false (some 32) (.slice s2_A s2_n s2_c) (yld_sub (C := (CI .u8)) (t := 26) (e := 5) (low := none) (high := some (.int .i64 8)) (lo := 0) (hi := 8) (hs.rowR 1 rfl) (by kernel_rfl) (by kernel_rfl) (by kernel_rfl) (.inl ⟨rfl, rfl⟩) (.inr ⟨_, rfl⟩) h0 h1 h2 hA hn hc) ?_
   have hs := hs.addSub (C := (CI .u8)) 1 rfl h0 h1 h2 hA hn hc
   obtain ⟨r3, hg, h⟩ := of_bind h
   refine wpS.only 2 (op_call (d := (some 33)) (by kernel_rfl) hs (fun _ => by kernel_rfl) (ref01_Num.ok hg _ (hs.rowR 0 rfl)) ?_)
   intro w gw hs
   refine ⟨fun _ => trivial, ?_⟩
   refine wpS.q 3 6 (.int .u64 r3) ?_
   refine wpS.fin rfl (kr14 _ _ (then_n (ks13 _ _ (xseq_k fun KS15 ks15 => (xregS [0] fun KR16 kr16 => ?_)))))
   refine wpS.q 0 7 (.slice none 0 0) ?_
   refine wpS.fin rfl (kr16 _ _ (then_n (ks15 _ _ (xseq_k fun KS17 ks17 => (xregS [0, 1, 2, 3, 4] fun KR18 kr18 => ?_)))))
   refine wpS.qs [(0, 34, .slice none 0 0), (1, 35, .slice a1_A a1_n a1_c)] ?_
   obtain ⟨h0, h⟩ := of_chk h
   obtain ⟨h1, h⟩ := of_chk h
   obtain ⟨h2, h⟩ := of_chk h
   obtain ⟨s4_A, hA⟩ : ∃ A, A = if a1_c = (8 : Int).toNat then a1_A else adr a1_A ((8 : Int).toNat * Cod.size (CI .u8)) := ⟨_, rfl⟩
   obtain ⟨s4_n, hn⟩ : ∃ n, n = ((a1.length : Int) : Int).toNat - (8 : Int).toNat := ⟨_, rfl⟩
   obtain ⟨s4_c, hc⟩ : ∃ c, c = a1_c - (8 : Int).toNat := ⟨_, rfl⟩
   refine wpS.tk 2 false (some 36) (.slice s4_A s4_n s4_c) (yld_sub (C := (CI .u8)) (t := 26) (e := 5) (low := some (.int .i64 8)) (high := none) (lo := 8) (hi := (a1.length : Int)) (hs.rowR 2 rfl) (by kernel_rfl) (by kernel_rfl) (by kernel_rfl) (.inr ⟨_, rfl⟩) (.inl ⟨rfl, rfl⟩) h0 h1 h2 hA hn hc) ?_
   have hs := hs.addSub (C := (CI .u8)) 2 rfl h0 h1 h2 hA hn hc
   obtain ⟨h0, h⟩ := of_chk h
   have hs := hs.addNilL (CI .u8) 5
   refine wpS.only 3 (op_appendT (C := (CI .u8)) (t := 26) (ty := 26) (e := 5) (bytes := 1) (B := 140737488355328) (d := (some 37)) (by kernel_rfl) hs 0 rfl (hs.rowR 0 rfl) (by kernel_rfl) (by kernel_rfl) (by kernel_rfl) (by kernel_rfl) (by kernel_rfl) h0 (by decide) (by decide) ?_)
   intro s5_A s5_n s5_c w hs
   refine ⟨fun _ => trivial, ?_⟩
   refine wpS.q 4 7 (.slice s5_A s5_n s5_c) ?_
   refine wpS.fin rfl (kr18 _ _ (then_n (ks17 _ _ (xseq_k fun KS19 ks19 => (xregS [0, 1, 2, 3] fun KR20 kr20 => ?_)))))
   refine wpS.q 0 38 (.slice s5_A s5_n s5_c) ?_
   refine wpS.tk 1 false (some 39) (.int .i64 ((([] : List Int) ++ (subL a1 8 (a1.length : Int))).length : Int)) (yld_lenL (hs.rowL 0 rfl) (fun _ => by kernel_rfl)) ?_
   refine wpS.q 2 40 (.int .i64 (iquo .i64 ((([] : List Int) ++ (subL a1 8 (a1.length : Int))).length : Int) 8)) ?_
   obtain ⟨x6, hx, h⟩ := of_bind h
   refine wpS.tk 3 false (some 8) (.int .i64 x6) (yld_int hx (fun _ => by kernel_rfl)) ?_
   refine wpS.fin rfl (kr20 _ _ (then_n (ks19 _ _ (xseq_k fun KS21 ks21 => (xseq_k fun KS22 ks22 => (xregS [0] fun KR23 kr23 => ?_))))))
   refine wpS.q 0 9 (.int .i64 5) ?_
   refine wpS.fin rfl (kr23 _ _ (then_n (ks22 _ _ ?_)))
   obtain ⟨⟨y10, y11⟩, hy, hk0⟩ := of_bind h
   refine wp_exq (N := fun a w => St w0 [] [.ownL (CI .u8) s5_A s5_n s5_c y11 5] [.rowL (CI .u8) s4_A s4_n s4_c (subL a1 8 (a1.length : Int)), .rowL (CI .u8) s2_A s2_n s2_c (subL a1 0 8), .rowL (CI .u8) a0_A a0_n a0_c a0, .rowL (CI .u8) a1_A a1_n a1_c a1] w ∧ ∃ g25 : Nat → Value, a = ⟨#[.slice a0_A a0_n a0_c, .slice a1_A a1_n a1_c, undef, undef, .slice none 0 0, .int .i64 0, .int .u64 y10, .slice s5_A s5_n s5_c, .int .i64 x6, (g25 9), (g25 10), (g25 11), (g25 12), (g25 13), .slice a0_A a0_n a0_c, .bool true, .bool false, .slice a1_A a1_n a1_c, .int .i64 (a1.length : Int), .bool false, .bool false, .slice a1_A a1_n a1_c, .int .i64 (a1.length : Int), .bool false, .bool false, .bool false, .slice a1_A a1_n a1_c, .int .i64 (a1.length : Int), .int .i64 (irem .i64 (a1.length : Int) 8), .bool false, .bool false, .slice a1_A a1_n a1_c, .slice s2_A s2_n s2_c, .int .u64 r3, .slice none 0 0, .slice a1_A a1_n a1_c, .slice s4_A s4_n s4_c, .slice s5_A s5_n s5_c, .slice s5_A s5_n s5_c, .int .i64 ((([] : List Int) ++ (subL a1 8 (a1.length : Int))).length : Int), .int .i64 (iquo .i64 ((([] : List Int) ++ (subL a1 8 (a1.length : Int))).length : Int) 8), (g25 41), (g25 42), (g25 43), (g25 44), (g25 45), (g25 46), (g25 47), (g25 48), (g25 49), (g25 50), (g25 51), (g25 52), (g25 53), (g25 54), (g25 55), (g25 56), (g25 57), (g25 58), (g25 59), (g25 60), (g25 61), (g25 62), (g25 63), (g25 64), (g25 65), (g25 66), (g25 67), (g25 68), (g25 69), (g25 70), (g25 71), (g25 72), (g25 73), (g25 74), (g25 75), (g25 76), (g25 77), (g25 78), (g25 79), (g25 80), (g25 81), (g25 82), (g25 83), (g25 84), (g25 85), (g25 86), (g25 87), (g25 88), (g25 89), (g25 90), (g25 91), (g25 92), undef, undef, undef], []⟩) (fun N0 nn0 => ?_) ?_
   ·clear hk0
    refine xblock ?_
    refine wp_loop_k (fun n a w => ∃ z7 z8 z9, ref11_Unwrap.l0 K n a0 x6 z7 z8 z9 = some (y10, y11) ∧ St w0 [] [.ownL (CI .u8) s5_A s5_n s5_c z9 5] [.rowL (CI .u8) s4_A s4_n s4_c (subL a1 8 (a1.length : Int)), .rowL (CI .u8) s2_A s2_n s2_c (subL a1 0 8), .rowL (CI .u8) a0_A a0_n a0_c a0, .rowL (CI .u8) a1_A a1_n a1_c a1] w ∧ ∃ g24 : Nat → Value, a = ⟨#[.slice a0_A a0_n a0_c, .slice a1_A a1_n a1_c, undef, undef, .slice none 0 0, .int .i64 0, .int .u64 z7, .slice s5_A s5_n s5_c, .int .i64 x6, .int .i64 z8, (g24 10), (g24 11), (g24 12), (g24 13), .slice a0_A a0_n a0_c, .bool true, .bool false, .slice a1_A a1_n a1_c, .int .i64 (a1.length : Int), .bool false, .bool false, .slice a1_A a1_n a1_c, .int .i64 (a1.length : Int), .bool false, .bool false, .bool false, .slice a1_A a1_n a1_c, .int .i64 (a1.length : Int), .int .i64 (irem .i64 (a1.length : Int) 8), .bool false, .bool false, .slice a1_A a1_n a1_c, .slice s2_A s2_n s2_c, .int .u64 r3, .slice none 0 0, .slice a1_A a1_n a1_c, .slice s4_A s4_n s4_c, .slice s5_A s5_n s5_c, .slice s5_A s5_n s5_c, .int .i64 ((([] : List Int) ++ (subL a1 8 (a1.length : Int))).length : Int), .int .i64 (iquo .i64 ((([] : List Int) ++ (subL a1 8 (a1.length : Int))).length : Int) 8), (g24 41), (g24 42), (g24 43), (g24 44), (g24 45), (g24 46), (g24 47), (g24 48), (g24 49), (g24 50), (g24 51), (g24 52), (g24 53), (g24 54), (g24 55), (g24 56), (g24 57), (g24 58), (g24 59), (g24 60), (g24 61), (g24 62), (g24 63), (g24 64), (g24 65), (g24 66), (g24 67), (g24 68), (g24 69), (g24 70), (g24 71), (g24 72), (g24 73), (g24 74), (g24 75), (g24 76), (g24 77), (g24 78), (g24 79), (g24 80), (g24 81), (g24 82), (g24 83), (g24 84), (g24 85), (g24 86), (g24 87), (g24 88), (g24 89), (g24 90), (g24 91), (g24 92), undef, undef, undef], []⟩) K ⟨r3, 5, (([] : List Int) ++ (subL a1 8 (a1.length : Int))), hy, hs.conv rfl, exg (by kernel_rfl)⟩ ?_
    clear hs h hy
    rintro n a w ⟨z7, z8, z9, h, hs, g24, rfl⟩ KL0 kl0
    cases n with
    | zero => exact nomatch (show none = some _ from h)
    | succ n =>
     refine xseq_k fun KS26 ks26 => ?_
     refine xseq_k fun KS27 ks27 => ?_
     refine xregS [0, 1] fun KR28 kr28 => ?_
     refine wpS.q 0 41 (.int .i64 z8) ?_
     rcases of_if h with ⟨hc, h⟩ | ⟨hc, h⟩
     ·refine wpS.tk 1 false (some 42) (.bool true) (yld_b (dt hc) (fun _ => by kernel_rfl)) ?_
      refine wpS.fin rfl (kr28 _ _ (then_n (ks27 _ _ (wp_cond_t (by kernel_rfl) (xskip (then_n (ks26 _ _ (xseq_k fun KS29 ks29 => (xblock (xseq_k fun KS30 ks30 => (xregS [0, 1, 2] fun KR31 kr31 => ?_)))))))))))
      refine wpS.qs [(0, 45, .int .i64 x6), (1, 46, .int .i64 (isub .i64 x6 1))] ?_
      obtain ⟨x12, hx, h⟩ := of_bind h
      refine wpS.tk 2 false (some 10) (.int .i64 x12) (yld_int hx (fun _ => by kernel_rfl)) ?_
      refine wpS.fin rfl (kr31 _ _ (then_n (ks30 _ _ ?_)))
      obtain ⟨⟨y16, y17⟩, hy, hk1⟩ := of_bind h
      refine wp_exq (N := fun a w => St w0 [] [.ownL (CI .u8) s5_A s5_n s5_c y17 5] [.rowL (CI .u8) s4_A s4_n s4_c (subL a1 8 (a1.length : Int)), .rowL (CI .u8) s2_A s2_n s2_c (subL a1 0 8), .rowL (CI .u8) a0_A a0_n a0_c a0, .rowL (CI .u8) a1_A a1_n a1_c a1] w ∧ ∃ g33 : Nat → Value, a = ⟨#[.slice a0_A a0_n a0_c, .slice a1_A a1_n a1_c, undef, undef, .slice none 0 0, .int .i64 0, .int .u64 y16, .slice s5_A s5_n s5_c, .int .i64 x6, .int .i64 z8, (g33 10), (g33 11), (g33 12), (g33 13), .slice a0_A a0_n a0_c, .bool true, .bool false, .slice a1_A a1_n a1_c, .int .i64 (a1.length : Int), .bool false, .bool false, .slice a1_A a1_n a1_c, .int .i64 (a1.length : Int), .bool false, .bool false, .bool false, .slice a1_A a1_n a1_c, .int .i64 (a1.length : Int), .int .i64 (irem .i64 (a1.length : Int) 8), .bool false, .bool false, .slice a1_A a1_n a1_c, .slice s2_A s2_n s2_c, .int .u64 r3, .slice none 0 0, .slice a1_A a1_n a1_c, .slice s4_A s4_n s4_c, .slice s5_A s5_n s5_c, .slice s5_A s5_n s5_c, .int .i64 ((([] : List Int) ++ (subL a1 8 (a1.length : Int))).length : Int), .int .i64 (iquo .i64 ((([] : List Int) ++ (subL a1 8 (a1.length : Int))).length : Int) 8), .int .i64 z8, .bool true, (g24 43), (g24 44), .int .i64 x6, .int .i64 (isub .i64 x6 1), (g33 47), (g33 48), (g33 49), (g33 50), (g33 51), (g33 52), (g33 53), (g33 54), (g33 55), (g33 56), (g33 57), (g33 58), (g33 59), (g33 60), (g33 61), (g33 62), (g33 63), (g33 64), (g33 65), (g33 66), (g33 67), (g33 68), (g33 69), (g33 70), (g33 71), (g33 72), (g33 73), (g33 74), (g33 75), (g33 76), (g33 77), (g33 78), (g33 79), (g33 80), (g33 81), (g33 82), (g33 83), (g33 84), (g33 85), (g33 86), (g33 87), (g33 88), (g33 89), (g33 90), (g33 91), (g33 92), undef, undef, undef], []⟩) (fun N1 nn1 => ?_) ?_
      ·clear hk1
       refine xblock ?_
       refine wp_loop_k (fun n a w => ∃ z13 z14 z15, ref11_Unwrap.l1 K n a0 x6 z8 z13 z14 z15 = some (y16, y17) ∧ St w0 [] [.ownL (CI .u8) s5_A s5_n s5_c z15 5] [.rowL (CI .u8) s4_A s4_n s4_c (subL a1 8 (a1.length : Int)), .rowL (CI .u8) s2_A s2_n s2_c (subL a1 0 8), .rowL (CI .u8) a0_A a0_n a0_c a0, .rowL (CI .u8) a1_A a1_n a1_c a1] w ∧ ∃ g32 : Nat → Value, a = ⟨#[.slice a0_A a0_n a0_c, .slice a1_A a1_n a1_c, undef, undef, .slice none 0 0, .int .i64 0, .int .u64 z13, .slice s5_A s5_n s5_c, .int .i64 x6, .int .i64 z8, .int .i64 z14, (g32 11), (g32 12), (g32 13), .slice a0_A a0_n a0_c, .bool true, .bool false, .slice a1_A a1_n a1_c, .int .i64 (a1.length : Int), .bool false, .bool false, .slice a1_A a1_n a1_c, .int .i64 (a1.length : Int), .bool false, .bool false, .bool false, .slice a1_A a1_n a1_c, .int .i64 (a1.length : Int), .int .i64 (irem .i64 (a1.length : Int) 8), .bool false, .bool false, .slice a1_A a1_n a1_c, .slice s2_A s2_n s2_c, .int .u64 r3, .slice none 0 0, .slice a1_A a1_n a1_c, .slice s4_A s4_n s4_c, .slice s5_A s5_n s5_c, .slice s5_A s5_n s5_c, .int .i64 ((([] : List Int) ++ (subL a1 8 (a1.length : Int))).length : Int), .int .i64 (iquo .i64 ((([] : List Int) ++ (subL a1 8 (a1.length : Int))).length : Int) 8), .int .i64 z8, .bool true, (g24 43), (g24 44), .int .i64 x6, .int .i64 (isub .i64 x6 1), (g32 47), (g32 48), (g32 49), (g32 50), (g32 51), (g32 52), (g32 53), (g32 54), (g32 55), (g32 56), (g32 57), (g32 58), (g32 59), (g32 60), (g32 61), (g32 62), (g32 63), (g32 64), (g32 65), (g32 66), (g32 67), (g32 68), (g32 69), (g32 70), (g32 71), (g32 72), (g32 73), (g32 74), (g32 75), (g32 76), (g32 77), (g32 78), (g32 79), (g32 80), (g32 81), (g32 82), (g32 83), (g32 84), (g32 85), (g32 86), (g32 87), (g32 88), (g32 89), (g32 90), (g32 91), (g32 92), undef, undef, undef], []⟩) K ⟨z7, x12, z9, hy, hs.conv rfl, exg (by kernel_rfl)⟩ ?_
       clear hs h hy
       rintro n a w ⟨z13, z14, z15, h, hs, g32, rfl⟩ KL1 kl1
       cases n with
       | zero => exact nomatch (show none = some _ from h)
       | succ n =>
        refine xseq_k fun KS34 ks34 => ?_
        refine xseq_k fun KS35 ks35 => ?_
        refine xregS [0, 1] fun KR36 kr36 => ?_
        refine wpS.q 0 47 (.int .i64 z14) ?_
        rcases of_if h with ⟨hc, h⟩ | ⟨hc, h⟩
        ·refine wpS.tk 1 false (some 48) (.bool true) (yld_b (dt hc) (fun _ => by kernel_rfl)) ?_
         refine wpS.fin rfl (kr36 _ _ (then_n (ks35 _ _ (wp_cond_t (by kernel_rfl) (xskip (then_n (ks34 _ _ (xseq_k fun KS37 ks37 => (xblock (xseq_k fun KS38 ks38 => ?_))))))))))
         refine wp_regG [] (fun k => True) 26 (by kernel_rfl) (by kernel_rfl) (by kernel_rfl) fun KR39 kr39 => ?_
         have hs := hs.drawn1
         refine wpG.q 0 52 (.slice a0_A a0_n a0_c) ?_
         refine wpG.q 1 53 (.int .u64 z13) ?_
         refine wpG.q 2 54 (.int .i64 x6) ?_
         refine wpG.q 3 55 (.int .i64 z8) ?_
         refine wpG.q 4 56 (.int .i64 (imul .i64 x6 z8)) ?_
         refine wpG.q 5 57 (.int .i64 z14) ?_
         refine wpG.q 6 58 (.int .i64 (iadd .i64 (imul .i64 x6 z8) z14)) ?_
         refine wpG.q 7 59 (.int .i64 (iadd .i64 (iadd .i64 (imul .i64 x6 z8) z14) 1)) ?_
         refine wpG.q 8 60 (.int .u64 (iconv .u64 (iadd .i64 (iadd .i64 (imul .i64 x6 z8) z14) 1))) ?_
         refine wpG.q 9 61 (.int .u64 (ixor .u64 z13 (iconv .u64 (iadd .i64 (iadd .i64 (imul .i64 x6 z8) z14) 1)))) ?_
         refine wpG.q 11 63 (.slice s5_A s5_n s5_c) ?_
         refine wpG.q 12 64 (.int .i64 z14) ?_
         refine wpG.q 13 65 (.int .i64 (imul .i64 8 z14)) ?_
         refine wpG.q 14 66 (.int .i64 z14) ?_
         refine wpG.q 15 67 (.int .i64 (imul .i64 8 z14)) ?_
         refine wpG.q 16 68 (.int .i64 (iadd .i64 (imul .i64 8 z14) 8)) ?_
         obtain ⟨hv0_40, h⟩ := of_chk h
         obtain ⟨hv1_40, h⟩ := of_chk h
         obtain ⟨hv2_40, h⟩ := of_chk h
         obtain ⟨s18_A, hvA_40⟩ : ∃ A, A = if s5_c = ((imul .i64 8 z14) : Int).toNat then s5_A else adr s5_A (((imul .i64 8 z14) : Int).toNat * Cod.size (CI .u8)) := ⟨_, rfl⟩
         obtain ⟨s18_n, hvn_40⟩ : ∃ n, n = ((iadd .i64 (imul .i64 8 z14) 8) : Int).toNat - ((imul .i64 8 z14) : Int).toNat := ⟨_, rfl⟩
         obtain ⟨s18_c, hvc_40⟩ : ∃ c, c = s5_c - ((imul .i64 8 z14) : Int).toNat := ⟨_, rfl⟩
         refine wpG.tD 17 false (some 69) (.slice s18_A s18_n s18_c) (yld_sub (C := (CI .u8)) (t := 26) (e := 5) (low := some (.int .i64 (imul .i64 8 z14))) (high := some (.int .i64 (iadd .i64 (imul .i64 8 z14) 8))) (lo := (imul .i64 8 z14)) (hi := (iadd .i64 (imul .i64 8 z14) 8)) (hs.rowL 0 rfl) (by kernel_rfl) (by kernel_rfl) (by kernel_rfl) (.inr ⟨_, rfl⟩) (.inr ⟨_, rfl⟩) hv0_40 hv1_40 hv2_40 hvA_40 hvn_40 hvc_40) ?_
         obtain ⟨r19, hg, h⟩ := of_bind h
         refine wpG.only 10 (by kernel_rfl) (op_callH (d := (some 62)) (by kernel_rfl) hs (fun _ => by kernel_rfl) (ref01_Be.ok hg _) ?_)
         rintro ⟨r19_A, r19_n, r19_c⟩ w gw hs
         have hs := hs.conv (L' := [.ownL (CI .u8) r19_A r19_n r19_c r19 5, .ownL (CI .u8) s5_A s5_n s5_c z15 5]) rfl
         refine ⟨.of gw, ?_⟩
         refine wpG.only 18 (by kernel_rfl) (op_lit (C := CS) (t := 44) (e := 26) (len := 2) (parts := #[(0, .slice r19_A r19_n r19_c), (1, .slice s18_A s18_n s18_c)]) (l := ([(r19_A, r19_n, r19_c), (s18_A, s18_n, s18_c)] : List HS)) (d := (some 70)) (by kernel_rfl) hs (by kernel_rfl) (by kernel_rfl) (by kernel_rfl) (z := .slice none 0 0) (by kernel_rfl) rfl (by decide) (by decide) (by kernel_rfl) ?_)
         intro s20_A s20_n s20_c w gw hs
         refine ⟨.of gw, ?_⟩
         obtain ⟨r21, hg, h⟩ := of_bind h
         refine wpG.only 19 (by kernel_rfl) (op_callH (d := (some 71)) (by kernel_rfl) hs (fun _ => by kernel_rfl) (ref01_Join.ok hg _ (LLP.mk (hs.rowL 0 rfl) (inn_cons (hs.rowL 1 rfl) (inn_cons (RowL.sub (hs.rowL 2 rfl) hv0_40 hv1_40 hv2_40 hvA_40 hvn_40 hvc_40) inn_nil)))) ?_)
         rintro ⟨r21_A, r21_n, r21_c⟩ w gw hs
         have hs := hs.conv (L' := [.ownL (CI .u8) r21_A r21_n r21_c r21 5, .ownL CS s20_A s20_n s20_c ([(r19_A, r19_n, r19_c), (s18_A, s18_n, s18_c)] : List HS) 26, .ownL (CI .u8) r19_A r19_n r19_c r19 5, .ownL (CI .u8) s5_A s5_n s5_c z15 5]) rfl
         refine ⟨.of gw, ?_⟩
         obtain ⟨⟨r22, r23⟩, hg, h⟩ := of_bind h
         refine wpG.only 20 (by kernel_rfl) (op_callH (d := (some 72)) (by kernel_rfl) hs (fun _ => by kernel_rfl) (ref10_Back.ok hg _ (hs.rowR 2 rfl) (hs.rowL 0 rfl)) ?_)
         rintro ⟨r22_A, r22_n, r22_c⟩ w gw hs
         have hs := hs.conv (L' := [.ownL (CI .u8) r22_A r22_n r22_c r22 5, .ownL (CI .u8) r21_A r21_n r21_c r21 5, .ownL CS s20_A s20_n s20_c ([(r19_A, r19_n, r19_c), (s18_A, s18_n, s18_c)] : List HS) 26, .ownL (CI .u8) r19_A r19_n r19_c r19 5, .ownL (CI .u8) s5_A s5_n s5_c z15 5]) rfl
         refine ⟨.of gw, ?_⟩
         refine wpG.q 21 51 (.tuple #[.slice r22_A r22_n r22_c, .int .i64 r23]) ?_
         refine wpG.q 22 73 (.slice r22_A r22_n r22_c) ?_
         refine wpG.q 23 74 (.int .i64 r23) ?_
         refine wpG.q 24 11 (.slice r22_A r22_n r22_c) ?_
         refine wpG.q 25 12 (.int .i64 r23) ?_
         refine wpG.fin (by kernel_rfl) rfl (kr39 _ _ ?_)
         refine then_n (ks38 _ _ (xseq_k fun KS41 ks41 => (xregS [0, 1, 2, 3] fun KR42 kr42 => ?_)))
         refine wpS.q 0 75 (.slice r22_A r22_n r22_c) ?_
         obtain ⟨hv0_43, h⟩ := of_chk h
         obtain ⟨hv1_43, h⟩ := of_chk h
         obtain ⟨hv2_43, h⟩ := of_chk h
         obtain ⟨s24_A, hvA_43⟩ : ∃ A, A = if r22_c = (0 : Int).toNat then r22_A else adr r22_A ((0 : Int).toNat * Cod.size (CI .u8)) := ⟨_, rfl⟩
         obtain ⟨s24_n, hvn_43⟩ : ∃ n, n = (8 : Int).toNat - (0 : Int).toNat := ⟨_, rfl⟩
         obtain ⟨s24_c, hvc_43⟩ : ∃ c, c = r22_c - (0 : Int).toNat := ⟨_, rfl⟩
         refine wpS.tk 1 false (some 76) (.slice s24_A s24_n s24_c) (yld_sub (C := (CI .u8)) (t := 26) (e := 5) (low := none) (high := some (.int .i64 8)) (lo := 0) (hi := 8) (hs.rowL 0 rfl) (by kernel_rfl) (by kernel_rfl) (by kernel_rfl) (.inl ⟨rfl, rfl⟩) (.inr ⟨_, rfl⟩) hv0_43 hv1_43 hv2_43 hvA_43 hvn_43 hvc_43) ?_
         obtain ⟨r25, hg, h⟩ := of_bind h
         refine wpS.only 2 (op_call (d := (some 77)) (by kernel_rfl) hs (fun _ => by kernel_rfl) (ref01_Num.ok hg _ (RowL.sub (hs.rowL 0 rfl) hv0_43 hv1_43 hv2_43 hvA_43 hvn_43 hvc_43)) ?_)
         intro w gw hs
         refine ⟨fun _ => trivial, ?_⟩
         refine wpS.q 3 6 (.int .u64 r25) ?_
         refine wpS.fin rfl (kr42 _ _ (then_n (ks41 _ _ (xseq_k fun KS44 ks44 => (xregS [0] fun KR45 kr45 => ?_)))))
         refine wpS.q 0 13 (.int .i64 0) ?_
         refine wpS.fin rfl (kr45 _ _ (then_n (ks44 _ _ ?_)))
         obtain ⟨y28, hy, hk2⟩ := of_bind h
         refine wp_exq (N := fun a w => St w0 [] [.ownL (CI .u8) r22_A r22_n r22_c r22 5, .ownL (CI .u8) r21_A r21_n r21_c r21 5, .ownL CS s20_A s20_n s20_c ([(r19_A, r19_n, r19_c), (s18_A, s18_n, s18_c)] : List HS) 26, .ownL (CI .u8) r19_A r19_n r19_c r19 5, .ownL (CI .u8) s5_A s5_n s5_c y28 5] [.rowL (CI .u8) s4_A s4_n s4_c (subL a1 8 (a1.length : Int)), .rowL (CI .u8) s2_A s2_n s2_c (subL a1 0 8), .rowL (CI .u8) a0_A a0_n a0_c a0, .rowL (CI .u8) a1_A a1_n a1_c a1] w ∧ ∃ g47 : Nat → Value, a = ⟨#[.slice a0_A a0_n a0_c, .slice a1_A a1_n a1_c, undef, undef, .slice none 0 0, .int .i64 0, .int .u64 r25, .slice s5_A s5_n s5_c, .int .i64 x6, .int .i64 z8, .int .i64 z14, .slice r22_A r22_n r22_c, .int .i64 r23, (g47 13), .slice a0_A a0_n a0_c, .bool true, .bool false, .slice a1_A a1_n a1_c, .int .i64 (a1.length : Int), .bool false, .bool false, .slice a1_A a1_n a1_c, .int .i64 (a1.length : Int), .bool false, .bool false, .bool false, .slice a1_A a1_n a1_c, .int .i64 (a1.length : Int), .int .i64 (irem .i64 (a1.length : Int) 8), .bool false, .bool false, .slice a1_A a1_n a1_c, .slice s2_A s2_n s2_c, .int .u64 r3, .slice none 0 0, .slice a1_A a1_n a1_c, .slice s4_A s4_n s4_c, .slice s5_A s5_n s5_c, .slice s5_A s5_n s5_c, .int .i64 ((([] : List Int) ++ (subL a1 8 (a1.length : Int))).length : Int), .int .i64 (iquo .i64 ((([] : List Int) ++ (subL a1 8 (a1.length : Int))).length : Int) 8), .int .i64 z8, .bool true, (g24 43), (g24 44), .int .i64 x6, .int .i64 (isub .i64 x6 1), .int .i64 z14, .bool true, (g32 49), (g32 50), .tuple #[.slice r22_A r22_n r22_c, .int .i64 r23], .slice a0_A a0_n a0_c, .int .u64 z13, .int .i64 x6, .int .i64 z8, .int .i64 (imul .i64 x6 z8), .int .i64 z14, .int .i64 (iadd .i64 (imul .i64 x6 z8) z14), .int .i64 (iadd .i64 (iadd .i64 (imul .i64 x6 z8) z14) 1), .int .u64 (iconv .u64 (iadd .i64 (iadd .i64 (imul .i64 x6 z8) z14) 1)), .int .u64 (ixor .u64 z13 (iconv .u64 (iadd .i64 (iadd .i64 (imul .i64 x6 z8) z14) 1))), .slice r19_A r19_n r19_c, .slice s5_A s5_n s5_c, .int .i64 z14, .int .i64 (imul .i64 8 z14), .int .i64 z14, .int .i64 (imul .i64 8 z14), .int .i64 (iadd .i64 (imul .i64 8 z14) 8), .slice s18_A s18_n s18_c, .slice s20_A s20_n s20_c, .slice r21_A r21_n r21_c, .tuple #[.slice r22_A r22_n r22_c, .int .i64 r23], .slice r22_A r22_n r22_c, .int .i64 r23, .slice r22_A r22_n r22_c, .slice s24_A s24_n s24_c, .int .u64 r25, (g47 78), (g47 79), (g47 80), (g47 81), (g47 82), (g47 83), (g47 84), (g47 85), (g47 86), (g47 87), (g47 88), (g47 89), (g47 90), (g47 91), (g47 92), undef, undef, undef], []⟩) (fun N2 nn2 => ?_) ?_
         ·clear hk2
          refine xblock ?_
          refine wp_loop_k (fun n a w => ∃ z26 z27, ref11_Unwrap.l2 K n z14 r22 z26 z27 = some y28 ∧ St w0 [] [.ownL (CI .u8) r22_A r22_n r22_c r22 5, .ownL (CI .u8) r21_A r21_n r21_c r21 5, .ownL CS s20_A s20_n s20_c ([(r19_A, r19_n, r19_c), (s18_A, s18_n, s18_c)] : List HS) 26, .ownL (CI .u8) r19_A r19_n r19_c r19 5, .ownL (CI .u8) s5_A s5_n s5_c z27 5] [.rowL (CI .u8) s4_A s4_n s4_c (subL a1 8 (a1.length : Int)), .rowL (CI .u8) s2_A s2_n s2_c (subL a1 0 8), .rowL (CI .u8) a0_A a0_n a0_c a0, .rowL (CI .u8) a1_A a1_n a1_c a1] w ∧ ∃ g46 : Nat → Value, a = ⟨#[.slice a0_A a0_n a0_c, .slice a1_A a1_n a1_c, undef, undef, .slice none 0 0, .int .i64 0, .int .u64 r25, .slice s5_A s5_n s5_c, .int .i64 x6, .int .i64 z8, .int .i64 z14, .slice r22_A r22_n r22_c, .int .i64 r23, .int .i64 z26, .slice a0_A a0_n a0_c, .bool true, .bool false, .slice a1_A a1_n a1_c, .int .i64 (a1.length : Int), .bool false, .bool false, .slice a1_A a1_n a1_c, .int .i64 (a1.length : Int), .bool false, .bool false, .bool false, .slice a1_A a1_n a1_c, .int .i64 (a1.length : Int), .int .i64 (irem .i64 (a1.length : Int) 8), .bool false, .bool false, .slice a1_A a1_n a1_c, .slice s2_A s2_n s2_c, .int .u64 r3, .slice none 0 0, .slice a1_A a1_n a1_c, .slice s4_A s4_n s4_c, .slice s5_A s5_n s5_c, .slice s5_A s5_n s5_c, .int .i64 ((([] : List Int) ++ (subL a1 8 (a1.length : Int))).length : Int), .int .i64 (iquo .i64 ((([] : List Int) ++ (subL a1 8 (a1.length : Int))).length : Int) 8), .int .i64 z8, .bool true, (g24 43), (g24 44), .int .i64 x6, .int .i64 (isub .i64 x6 1), .int .i64 z14, .bool true, (g32 49), (g32 50), .tuple #[.slice r22_A r22_n r22_c, .int .i64 r23], .slice a0_A a0_n a0_c, .int .u64 z13, .int .i64 x6, .int .i64 z8, .int .i64 (imul .i64 x6 z8), .int .i64 z14, .int .i64 (iadd .i64 (imul .i64 x6 z8) z14), .int .i64 (iadd .i64 (iadd .i64 (imul .i64 x6 z8) z14) 1), .int .u64 (iconv .u64 (iadd .i64 (iadd .i64 (imul .i64 x6 z8) z14) 1)), .int .u64 (ixor .u64 z13 (iconv .u64 (iadd .i64 (iadd .i64 (imul .i64 x6 z8) z14) 1))), .slice r19_A r19_n r19_c, .slice s5_A s5_n s5_c, .int .i64 z14, .int .i64 (imul .i64 8 z14), .int .i64 z14, .int .i64 (imul .i64 8 z14), .int .i64 (iadd .i64 (imul .i64 8 z14) 8), .slice s18_A s18_n s18_c, .slice s20_A s20_n s20_c, .slice r21_A r21_n r21_c, .tuple #[.slice r22_A r22_n r22_c, .int .i64 r23], .slice r22_A r22_n r22_c, .int .i64 r23, .slice r22_A r22_n r22_c, .slice s24_A s24_n s24_c, .int .u64 r25, (g46 78), (g46 79), (g46 80), (g46 81), (g46 82), (g46 83), (g46 84), (g46 85), (g46 86), (g46 87), (g46 88), (g46 89), (g46 90), (g46 91), (g46 92), undef, undef, undef], []⟩) K ⟨0, z15, hy, hs.conv rfl, exg (by kernel_rfl)⟩ ?_
          clear hs h hy
          rintro n a w ⟨z26, z27, h, hs, g46, rfl⟩ KL2 kl2
          cases n with
          | zero => exact nomatch (show none = some _ from h)
          | succ n =>
           refine xseq_k fun KS48 ks48 => ?_
           refine xseq_k fun KS49 ks49 => ?_
           refine xregS [0, 1] fun KR50 kr50 => ?_
           refine wpS.q 0 78 (.int .i64 z26) ?_
           rcases of_if h with ⟨hc, h⟩ | ⟨hc, h⟩
           ·refine wpS.tk 1 false (some 79) (.bool true) (yld_b (dt hc) (fun _ => by kernel_rfl)) ?_
            refine wpS.fin rfl (kr50 _ _ (then_n (ks49 _ _ (wp_cond_t (by kernel_rfl) (xskip (then_n (ks48 _ _ (xseq_k fun KS51 ks51 => (xblock (xregS [0, 1, 2, 3, 4, 5, 6, 7, 8, 9, 10, 11] fun KR52 kr52 => ?_))))))))))
            refine wpS.qs [(0, 82, .slice s5_A s5_n s5_c), (1, 83, .int .i64 z14), (2, 84, .int .i64 (imul .i64 8 z14)), (3, 85, .int .i64 z26), (4, 86, .int .i64 (iadd .i64 (imul .i64 8 z14) z26)), (5, 87, .slice r22_A r22_n r22_c), (6, 88, .int .i64 z26), (7, 89, .int .i64 (iadd .i64 8 z26))] ?_
            obtain ⟨x29, hx, h⟩ := of_bind h
            have hx := of_some hx
            subst hx
            obtain ⟨h0, h⟩ := of_chk h
            obtain ⟨h1, h⟩ := of_chk h
            have i0_53 := h0
            have i1_53 := h1
            refine wpS.tk 8 false (some 90) (.pointer (adr r22_A (((iadd .i64 8 z26) : Int).toNat * Cod.size (CI .u8)))) (yld_idxL (C := (CI .u8)) (t := 26) (e := 5) (k := .i64) (x := (iadd .i64 8 z26)) (hs.rowL 0 rfl) (by kernel_rfl) (by kernel_rfl) (by kernel_rfl) h0 h1) ?_
            refine wpS.tk 9 true (some 91) (.int .u8 (rdL (CI .u8) r22 (iadd .i64 8 z26))) (yld_loadL (C := (CI .u8)) (e := 5) (x := (iadd .i64 8 z26)) (hs.rowL 0 rfl) (by kernel_rfl) rfl (by kernel_rfl) i0_53 i1_53) ?_
            obtain ⟨x30, hx, h⟩ := of_bind h
            have hx := of_some hx
            subst hx
            obtain ⟨h0, h⟩ := of_chk h
            obtain ⟨h1, h⟩ := of_chk h
            have i0_54 := h0
            have i1_54 := h1
            refine wpS.tk 10 false (some 92) (.pointer (adr s5_A (((iadd .i64 (imul .i64 8 z14) z26) : Int).toNat * Cod.size (CI .u8)))) (yld_idxL (C := (CI .u8)) (t := 26) (e := 5) (k := .i64) (x := (iadd .i64 (imul .i64 8 z14) z26)) (hs.rowL 4 rfl) (by kernel_rfl) (by kernel_rfl) (by kernel_rfl) h0 h1) ?_
            obtain ⟨x31, hx, h⟩ := of_bind h
            refine wpS.only 11 (op_storeL (C := (CI .u8)) (t := 5) (x := (iadd .i64 (imul .i64 8 z14) z26)) (v := x31) (d := none) (by kernel_rfl) hs 4 rfl (by cases hx; kernel_rfl) (by kernel_rfl) i0_54 i1_54 ?_)
            intro w hs
            refine ⟨fun _ => trivial, ?_⟩
            refine wpS.fin rfl (kr52 _ _ (inBlock_n (then_n (ks51 _ _ (xregS [0, 1, 2] fun KR55 kr55 => ?_)))))
            refine wpS.qs [(0, 80, .int .i64 z26), (1, 81, .int .i64 (iadd .i64 z26 1))] ?_
            obtain ⟨x32, hx, h⟩ := of_bind h
            refine wpS.tk 2 false (some 13) (.int .i64 x32) (yld_int hx (fun _ => by kernel_rfl)) ?_
            refine wpS.fin rfl (kr55 _ _ ?_)
            exact then_n (kl2 _ _ ⟨n, Nat.lt_succ_self n, x32, (wrL z27 (iadd .i64 (imul .i64 8 z14) z26) x31), h, (hs.conv rfl), exg (by kernel_rfl)⟩)
           refine wpS.tk 1 false (some 79) (.bool false) (yld_b (df hc) (fun _ => by kernel_rfl)) ?_
           refine wpS.fin rfl (kr50 _ _ (then_n (ks49 _ _ (wp_cond_f (by kernel_rfl) (xexit (then_x (then_x (inBlock_hit ?_))))))))
           have q0 := of_some h
           subst q0
           exact exq_n (nn2 _ _ ⟨(hs.conv rfl), exg (by kernel_rfl)⟩)
         clear hs h hy
         rintro a w ⟨hs, g47, rfl⟩
         have h := hk2
         refine inBlock_n (then_n (ks37 _ _ (xregS [0, 1, 2] fun KR56 kr56 => ?_)))
         refine wpS.qs [(0, 49, .int .i64 z14), (1, 50, .int .i64 (isub .i64 z14 1))] ?_
         obtain ⟨x33, hx, h⟩ := of_bind h
         refine wpS.tk 2 false (some 10) (.int .i64 x33) (yld_int hx (fun _ => by kernel_rfl)) ?_
         refine wpS.fin rfl (kr56 _ _ ?_)
         exact then_n (kl1 _ _ ⟨n, Nat.lt_succ_self n, r25, x33, y28, h, (hs.drop (.cons _ (.cons _ (.cons _ (.cons _ (.cons_cons _ .slnil)))))), exg (by kernel_rfl)⟩)
        refine wpS.tk 1 false (some 48) (.bool false) (yld_b (df hc) (fun _ => by kernel_rfl)) ?_
        refine wpS.fin rfl (kr36 _ _ (then_n (ks35 _ _ (wp_cond_f (by kernel_rfl) (xexit (then_x (then_x (inBlock_hit ?_))))))))
        obtain ⟨q0, qr0⟩ := Prod.mk.inj (of_some h)
        have q1 := qr0
        subst q0
        subst q1
        exact exq_n (nn1 _ _ ⟨(hs.conv rfl), exg (by kernel_rfl)⟩)
      clear hs h hy
      rintro a w ⟨hs, g33, rfl⟩
      have h := hk1
      refine inBlock_n (then_n (ks29 _ _ (xregS [0, 1, 2] fun KR57 kr57 => ?_)))
      refine wpS.qs [(0, 43, .int .i64 z8), (1, 44, .int .i64 (isub .i64 z8 1))] ?_
      obtain ⟨x34, hx, h⟩ := of_bind h
      refine wpS.tk 2 false (some 9) (.int .i64 x34) (yld_int hx (fun _ => by kernel_rfl)) ?_
      refine wpS.fin rfl (kr57 _ _ ?_)
      exact then_n (kl0 _ _ ⟨n, Nat.lt_succ_self n, y16, x34, y17, h, (hs.conv rfl), exg (by kernel_rfl)⟩)
     refine wpS.tk 1 false (some 42) (.bool false) (yld_b (df hc) (fun _ => by kernel_rfl)) ?_
     refine wpS.fin rfl (kr28 _ _ (then_n (ks27 _ _ (wp_cond_f (by kernel_rfl) (xexit (then_x (then_x (inBlock_hit ?_))))))))
     obtain ⟨q0, qr0⟩ := Prod.mk.inj (of_some h)
     have q1 := qr0
     subst q0
     subst q1
     exact exq_n (nn0 _ _ ⟨(hs.conv rfl), exg (by kernel_rfl)⟩)
   clear hs h hy
   rintro a w ⟨hs, g25, rfl⟩
   have h := hk0
   refine then_n (ks21 _ _ (xseq_k fun KS58 ks58 => (xseq_k fun KS59 ks59 => (xregS [0, 1] fun KR60 kr60 => ?_))))
   refine wpS.q 0 93 (.int .u64 y10) ?_
   rcases of_if h with ⟨hc, h⟩ | ⟨hc, h⟩
   ·refine wpS.tk 1 false (some 94) (.bool false) (yld_b (nf hc) (fun _ => by kernel_rfl)) ?_
    refine wpS.fin rfl (kr60 _ _ (then_n (ks59 _ _ (wp_cond_f (by kernel_rfl) (xskip (then_n (ks58 _ _ (xseq_k fun KS61 ks61 => (xregS [0, 1, 2] fun KR62 kr62 => ?_)))))))))
    refine wpS.qs [(0, 95, .slice s5_A s5_n s5_c), (1, 4, .slice s5_A s5_n s5_c), (2, 5, .int .i64 0)] ?_
    refine wpS.fin rfl (kr62 _ _ (then_n (ks61 _ _ (xret ?_))))
    obtain ⟨q0, qr0⟩ := Prod.mk.inj (of_some h)
    have q1 := qr0
    subst q0
    subst q1
    exact qq _ _ (post_ret (by kernel_rfl) (run_results [.tmp 4, .tmp 5] [.slice s5_A s5_n s5_c, .int .i64 0] (by kernel_rfl) (.cons (res_tmp (by kernel_rfl)) (.cons (res_tmp (by kernel_rfl)) .nil))) ⟨⟨s5_A, s5_n, s5_c⟩, congrArg Ending.returned (by kernel_rfl), (hs.pickR pick_nil)⟩)
   refine wpS.tk 1 false (some 94) (.bool true) (yld_b (nt hc) (fun _ => by kernel_rfl)) ?_
   refine wpS.fin rfl (kr60 _ _ (then_n (ks59 _ _ (wp_cond_t (by kernel_rfl) (xseq_k fun KS63 ks63 => (xregS [0, 1] fun KR64 kr64 => ?_))))))
   refine wpS.qs [(0, 4, .slice none 0 0), (1, 5, .int .i64 16)] ?_
   refine wpS.fin rfl (kr64 _ _ (then_n (ks63 _ _ (xret (then_r ?_)))))
   obtain ⟨q0, qr0⟩ := Prod.mk.inj (of_some h)
   have q1 := qr0
   subst q0
   subst q1
   have hs := hs.addNilL (CI .u8) 5
   exact qq _ _ (post_ret (by kernel_rfl) (run_results [.tmp 4, .tmp 5] [.slice none 0 0, .int .i64 16] (by kernel_rfl) (.cons (res_tmp (by kernel_rfl)) (.cons (res_tmp (by kernel_rfl)) .nil))) ⟨⟨none, 0, 0⟩, congrArg Ending.returned (by kernel_rfl), ((hs.drop (.cons_cons _ (.cons _ .slnil))).pickR pick_nil)⟩)
  refine wpS.tk 12 false (some 29) (.bool true) (yld_b (nt hc) (fun _ => by kernel_rfl)) ?_
  refine wpS.q 13 30 (.bool true) ?_
  refine wpS.fin rfl (kr8 _ _ (then_n (ks7 _ _ (wp_cond_t (by kernel_rfl) (xseq_k fun KS65 ks65 => (xregS [0, 1] fun KR66 kr66 => ?_))))))
  refine wpS.qs [(0, 4, .slice none 0 0), (1, 5, .int .i64 14)] ?_
  refine wpS.fin rfl (kr66 _ _ (then_n (ks65 _ _ (xret (then_r ?_)))))
  obtain ⟨q0, qr0⟩ := Prod.mk.inj (of_some h)
  have q1 := qr0
  subst q0
  subst q1
  have hs := hs.addNilL (CI .u8) 5
  exact qq _ _ (post_ret (by kernel_rfl) (run_results [.tmp 4, .tmp 5] [.slice none 0 0, .int .i64 14] (by kernel_rfl) (.cons (res_tmp (by kernel_rfl)) (.cons (res_tmp (by kernel_rfl)) .nil))) ⟨⟨none, 0, 0⟩, congrArg Ending.returned (by kernel_rfl), (hs.pickR pick_nil)⟩)
 | false =>
  have h := of_if_f h
  refine wpS.only 1 (op_call (d := (some 15)) (by kernel_rfl) hs (fun _ => by kernel_rfl) (ref10_Sized.ok hg _ (hs.rowR 0 rfl)) ?_)
  intro w gw hs
  refine ⟨fun _ => trivial, ?_⟩
  refine wpS.q 2 16 (.bool true) ?_
  refine wpS.fin rfl (kr5 _ _ (then_n (ks4 _ _ (wp_cond_t (by kernel_rfl) (xseq_k fun KS67 ks67 => (xregS [0, 1] fun KR68 kr68 => ?_))))))
  refine wpS.qs [(0, 4, .slice none 0 0), (1, 5, .int .i64 10)] ?_
  refine wpS.fin rfl (kr68 _ _ (then_n (ks67 _ _ (xret (then_r ?_)))))
  obtain ⟨q0, qr0⟩ := Prod.mk.inj (of_some h)
  have q1 := qr0
  subst q0
  subst q1
  have hs := hs.addNilL (CI .u8) 5
  exact qq _ _ (post_ret (by kernel_rfl) (run_results [.tmp 4, .tmp 5] [.slice none 0 0, .int .i64 10] (by kernel_rfl) (.cons (res_tmp (by kernel_rfl)) (.cons (res_tmp (by kernel_rfl)) .nil))) ⟨⟨none, 0, 0⟩, congrArg Ending.returned (by kernel_rfl), (hs.pickR pick_nil)⟩)
end Go.Proofs.Ytmpagpbnpgcecaa
