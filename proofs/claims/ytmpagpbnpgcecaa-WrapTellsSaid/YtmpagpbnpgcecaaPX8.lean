/- Printed by this work's own program: the code of each function below comes to the answer that its plain form tells. -/
import Derived.Test.YtmpagpbnpgcecaaMa
import Derived.Test.YtmpagpbnpgcecaaProg
import Derived.Test.YtmpagpbnpgcecaaPF0
import Derived.Test.YtmpagpbnpgcecaaPX5
import Derived.Test.YtmpagpbnpgcecaaPX6
import Derived.Test.YtmpagpbnpgcecaaPX7
set_option linter.unusedVariables false
set_option linter.unusedSimpArgs false
set_option maxRecDepth 100000
set_option maxHeartbeats 4000000
namespace Go.Proofs.Ytmpagpbnpgcecaa
open Go.Mx
attribute [local irreducible] wpOp

theorem ref11_Wrap.ok {K : Nat} {a0 : List Int} {a1 : List Int} {r0 : List Int} {r1 : Int} {a0_A : Option Addr} {a0_n : Nat} {a0_c : Nat} {a1_A : Option Addr} {a1_n : Nat} {a1_c : Nat} (h : ref11_Wrap.f K a0 a1 = some (r0, r1)) (w0 : World) (hp0 : RowL (CI .u8) w0 a0_A a0_n a0_c a0) (hp1 : RowL (CI .u8) w0 a1_A a1_n a1_c a1) : Calls Try.prog 25 #[.slice a0_A a0_n a0_c, .slice a1_A a1_n a1_c] w0 fun e w' => ∃ h : (Option Addr × Nat × Nat), e = .returned (.tuple #[.slice h.1 h.2.1 h.2.2, .int .i64 r1]) ∧ St w0 [] [.ownL (CI .u8) h.1 h.2.1 h.2.2 r0 5] [] w' := by
 refine calls_k Try.func25 rfl fun Q qq => ?_
 have hs := St.startR (all_cons (RowP.ent hp0) (all_cons (RowP.ent hp1) all_nil))
 refine wp_conv (a' := ⟨#[.slice a0_A a0_n a0_c, .slice a1_A a1_n a1_c, undef, undef, undef, undef, undef, undef, undef, undef, undef, undef, undef, undef, undef, undef, undef, undef, undef, undef, undef, undef, undef, undef, undef, undef, undef, undef, undef, undef, undef, undef, undef, undef, undef, undef, undef, undef, undef, undef, undef, undef, undef, undef, undef, undef, undef, undef, undef, undef, undef, undef, undef, undef, undef, undef, undef, undef, undef, undef, undef, undef, undef, undef, undef, undef, undef, undef, undef, undef, undef, undef, undef, undef, undef, undef, undef, undef, undef, undef, undef, undef, undef, undef, undef, undef, undef, undef, undef, undef, undef, undef], []⟩) (by kernel_rfl) ?_
 refine xseq_k fun KS1 ks1 => ?_
 refine xregS [0, 1] fun KR2 kr2 => ?_
 refine wpS.qs [(0, 4, .slice none 0 0), (1, 5, .int .i64 0)] ?_
 refine wpS.fin rfl (kr2 _ _ (then_n (ks1 _ _ (xseq_k fun KS3 ks3 => (xseq_k fun KS4 ks4 => (xregS [0, 1, 2] fun KR5 kr5 => ?_))))))
 refine wpS.q 0 14 (.slice a0_A a0_n a0_c) ?_
 obtain ⟨r1, hg, h⟩ := of_bind h
 cases r1 with
 | true =>
  have h := of_if_t h
  refine wpS.only 1 (op_call (d := (some 15)) (by kernel_rfl) hs (fun _ => by kernel_rfl) (ref10_Sized.ok hg _ (hs.rowR 0 rfl)) ?_)
  intro w gw hs
  refine ⟨fun _ => trivial, ?_⟩
  refine wpS.q 2 16 (.bool false) ?_
  refine wpS.fin rfl (kr5 _ _ (then_n (ks4 _ _ (wp_cond_f (by kernel_rfl) (xskip (then_n (ks3 _ _ (xseq_k fun KS6 ks6 => (xseq_k fun KS7 ks7 => (xregS [0, 1, 2, 3, 4, 5, 6, 7, 8, 9, 10, 11, 12, 13] fun KR8 kr8 => ?_))))))))))
  refine wpS.q 0 17 (.slice a1_A a1_n a1_c) ?_
  refine wpS.tk 1 false (some 18) (.int .i64 (a1.length : Int)) (yld_lenL (hs.rowR 1 rfl) (fun _ => by kernel_rfl)) ?_
  rcases of_if h with ⟨hc, h⟩ | ⟨hc, h⟩
  ·refine wpS.tk 2 false (some 19) (.bool true) (yld_b (dt hc) (fun _ => by kernel_rfl)) ?_
   refine wpS.qs [(3, 20, .bool true), (4, 21, undef), (5, 22, undef), (6, 23, undef), (7, 24, .bool true), (8, 25, .bool true), (9, 26, undef), (10, 27, undef), (11, 28, undef), (12, 29, undef), (13, 30, .bool true)] ?_
   refine wpS.fin rfl (kr8 _ _ (then_n (ks7 _ _ (wp_cond_t (by kernel_rfl) (xseq_k fun KS9 ks9 => (xregS [0, 1] fun KR10 kr10 => ?_))))))
   refine wpS.qs [(0, 4, .slice none 0 0), (1, 5, .int .i64 14)] ?_
   refine wpS.fin rfl (kr10 _ _ (then_n (ks9 _ _ (xret (then_r ?_)))))
   obtain ⟨q0, qr0⟩ := Prod.mk.inj (of_some h)
   have q1 := qr0
   subst q0
   subst q1
   have hs := hs.addNilL (CI .u8) 5
   exact qq _ _ (post_ret (by kernel_rfl) (run_results [.tmp 4, .tmp 5] [.slice none 0 0, .int .i64 14] (by kernel_rfl) (.cons (res_tmp (by kernel_rfl)) (.cons (res_tmp (by kernel_rfl)) .nil))) ⟨⟨none, 0, 0⟩, congrArg Ending.returned (by kernel_rfl), (hs.pickR pick_nil)⟩)
  refine wpS.tk 2 false (some 19) (.bool false) (yld_b (df hc) (fun _ => by kernel_rfl)) ?_
  refine wpS.qs [(3, 20, .bool false), (4, 21, .slice a1_A a1_n a1_c)] ?_
  refine wpS.tk 5 false (some 22) (.int .i64 (a1.length : Int)) (yld_lenL (hs.rowR 1 rfl) (fun _ => by kernel_rfl)) ?_
  rcases of_if h with ⟨hc, h⟩ | ⟨hc, h⟩
  ·refine wpS.tk 6 false (some 23) (.bool true) (yld_b (dt hc) (fun _ => by kernel_rfl)) ?_
   refine wpS.qs [(7, 24, .bool true), (8, 25, .bool true), (9, 26, undef), (10, 27, undef), (11, 28, undef), (12, 29, undef), (13, 30, .bool true)] ?_
   refine wpS.fin rfl (kr8 _ _ (then_n (ks7 _ _ (wp_cond_t (by kernel_rfl) (xseq_k fun KS11 ks11 => (xregS [0, 1] fun KR12 kr12 => ?_))))))
   refine wpS.qs [(0, 4, .slice none 0 0), (1, 5, .int .i64 14)] ?_
   refine wpS.fin rfl (kr12 _ _ (then_n (ks11 _ _ (xret (then_r ?_)))))
   obtain ⟨q0, qr0⟩ := Prod.mk.inj (of_some h)
   have q1 := qr0
   subst q0
   subst q1
   have hs := hs.addNilL (CI .u8) 5
   exact qq _ _ (post_ret (by kernel_rfl) (run_results [.tmp 4, .tmp 5] [.slice none 0 0, .int .i64 14] (by kernel_rfl) (.cons (res_tmp (by kernel_rfl)) (.cons (res_tmp (by kernel_rfl)) .nil))) ⟨⟨none, 0, 0⟩, congrArg Ending.returned (by kernel_rfl), (hs.pickR pick_nil)⟩)
  refine wpS.tk 6 false (some 23) (.bool false) (yld_b (df hc) (fun _ => by kernel_rfl)) ?_
  refine wpS.qs [(7, 24, .bool false), (8, 25, .bool false), (9, 26, .slice a1_A a1_n a1_c)] ?_
  refine wpS.tk 10 false (some 27) (.int .i64 (a1.length : Int)) (yld_lenL (hs.rowR 1 rfl) (fun _ => by kernel_rfl)) ?_
  refine wpS.q 11 28 (.int .i64 (irem .i64 (a1.length : Int) 8)) ?_
  rcases of_if h with ⟨hc, h⟩ | ⟨hc, h⟩
  ·refine wpS.tk 12 false (some 29) (.bool false) (yld_b (nf hc) (fun _ => by kernel_rfl)) ?_
   refine wpS.q 13 30 (.bool false) ?_
   refine wpS.fin rfl (kr8 _ _ (then_n (ks7 _ _ (wp_cond_f (by kernel_rfl) (xskip (then_n (ks6 _ _ (xseq_k fun KS13 ks13 => (xregS [0] fun KR14 kr14 => ?_)))))))))
   refine wpS.q 0 6 (.slice none 0 0) ?_
   refine wpS.fin rfl (kr14 _ _ (then_n (ks13 _ _ (xseq_k fun KS15 ks15 => (xregS [0, 1, 2, 3] fun KR16 kr16 => ?_)))))
   refine wpS.qs [(0, 31, .slice none 0 0), (1, 32, .slice a1_A a1_n a1_c)] ?_
   obtain ⟨h0, h⟩ := of_chk h
   have hs := hs.addNilL (CI .u8) 5
   refine wpS.only 2 (op_appendT (C := (CI .u8)) (t := 26) (ty := 26) (e := 5) (bytes := 1) (B := 140737488355328) (d := (some 33)) (by kernel_rfl) hs 0 rfl (hs.rowR 1 rfl) (by kernel_rfl) (by kernel_rfl) (by kernel_rfl) (by kernel_rfl) (by kernel_rfl) h0 (by decide) (by decide) ?_)
   intro s2_A s2_n s2_c w hs
   refine ⟨fun _ => trivial, ?_⟩
   refine wpS.q 3 6 (.slice s2_A s2_n s2_c) ?_
   refine wpS.fin rfl (kr16 _ _ (then_n (ks15 _ _ (xseq_k fun KS17 ks17 => (xregS [0] fun KR18 kr18 => ?_)))))
   refine wpS.q 0 7 (.int .u64 12008468691120727718) ?_
   refine wpS.fin rfl (kr18 _ _ (then_n (ks17 _ _ (xseq_k fun KS19 ks19 => (xregS [0, 1, 2, 3] fun KR20 kr20 => ?_)))))
   refine wpS.q 0 34 (.slice a1_A a1_n a1_c) ?_
   refine wpS.tk 1 false (some 35) (.int .i64 (a1.length : Int)) (yld_lenL (hs.rowR 1 rfl) (fun _ => by kernel_rfl)) ?_
   refine wpS.q 2 36 (.int .i64 (iquo .i64 (a1.length : Int) 8)) ?_
   obtain ⟨x3, hx, h⟩ := of_bind h
   refine wpS.tk 3 false (some 8) (.int .i64 x3) (yld_int hx (fun _ => by kernel_rfl)) ?_
   refine wpS.fin rfl (kr20 _ _ (then_n (ks19 _ _ (xseq_k fun KS21 ks21 => (xseq_k fun KS22 ks22 => (xregS [0] fun KR23 kr23 => ?_))))))
   refine wpS.q 0 9 (.int .i64 0) ?_
   refine wpS.fin rfl (kr23 _ _ (then_n (ks22 _ _ ?_)))
   obtain ⟨⟨y7, y8⟩, hy, hk0⟩ := of_bind h
   refine wp_exq (N := fun a w => St w0 [] [.ownL (CI .u8) s2_A s2_n s2_c y8 5] [.rowL (CI .u8) a0_A a0_n a0_c a0, .rowL (CI .u8) a1_A a1_n a1_c a1] w ∧ ∃ g25 : Nat → Value, a = ⟨#[.slice a0_A a0_n a0_c, .slice a1_A a1_n a1_c, undef, undef, .slice none 0 0, .int .i64 0, .slice s2_A s2_n s2_c, .int .u64 y7, .int .i64 x3, (g25 9), (g25 10), (g25 11), (g25 12), (g25 13), .slice a0_A a0_n a0_c, .bool true, .bool false, .slice a1_A a1_n a1_c, .int .i64 (a1.length : Int), .bool false, .bool false, .slice a1_A a1_n a1_c, .int .i64 (a1.length : Int), .bool false, .bool false, .bool false, .slice a1_A a1_n a1_c, .int .i64 (a1.length : Int), .int .i64 (irem .i64 (a1.length : Int) 8), .bool false, .bool false, .slice none 0 0, .slice a1_A a1_n a1_c, .slice s2_A s2_n s2_c, .slice a1_A a1_n a1_c, .int .i64 (a1.length : Int), .int .i64 (iquo .i64 (a1.length : Int) 8), (g25 37), (g25 38), (g25 39), (g25 40), (g25 41), (g25 42), (g25 43), (g25 44), (g25 45), (g25 46), (g25 47), (g25 48), (g25 49), (g25 50), (g25 51), (g25 52), (g25 53), (g25 54), (g25 55), (g25 56), (g25 57), (g25 58), (g25 59), (g25 60), (g25 61), (g25 62), (g25 63), (g25 64), (g25 65), (g25 66), (g25 67), (g25 68), (g25 69), (g25 70), (g25 71), (g25 72), (g25 73), (g25 74), (g25 75), (g25 76), (g25 77), (g25 78), (g25 79), (g25 80), (g25 81), (g25 82), (g25 83), (g25 84), (g25 85), (g25 86), (g25 87), undef, undef, undef, undef], []⟩) (fun N0 nn0 => ?_) ?_
   ·clear hk0
    refine xblock ?_
    refine wp_loop_k (fun n a w => ∃ z4 z5 z6, ref11_Wrap.l0 K n a0 x3 z4 z5 z6 = some (y7, y8) ∧ St w0 [] [.ownL (CI .u8) s2_A s2_n s2_c z6 5] [.rowL (CI .u8) a0_A a0_n a0_c a0, .rowL (CI .u8) a1_A a1_n a1_c a1] w ∧ ∃ g24 : Nat → Value, a = ⟨#[.slice a0_A a0_n a0_c, .slice a1_A a1_n a1_c, undef, undef, .slice none 0 0, .int .i64 0, .slice s2_A s2_n s2_c, .int .u64 z4, .int .i64 x3, .int .i64 z5, (g24 10), (g24 11), (g24 12), (g24 13), .slice a0_A a0_n a0_c, .bool true, .bool false, .slice a1_A a1_n a1_c, .int .i64 (a1.length : Int), .bool false, .bool false, .slice a1_A a1_n a1_c, .int .i64 (a1.length : Int), .bool false, .bool false, .bool false, .slice a1_A a1_n a1_c, .int .i64 (a1.length : Int), .int .i64 (irem .i64 (a1.length : Int) 8), .bool false, .bool false, .slice none 0 0, .slice a1_A a1_n a1_c, .slice s2_A s2_n s2_c, .slice a1_A a1_n a1_c, .int .i64 (a1.length : Int), .int .i64 (iquo .i64 (a1.length : Int) 8), (g24 37), (g24 38), (g24 39), (g24 40), (g24 41), (g24 42), (g24 43), (g24 44), (g24 45), (g24 46), (g24 47), (g24 48), (g24 49), (g24 50), (g24 51), (g24 52), (g24 53), (g24 54), (g24 55), (g24 56), (g24 57), (g24 58), (g24 59), (g24 60), (g24 61), (g24 62), (g24 63), (g24 64), (g24 65), (g24 66), (g24 67), (g24 68), (g24 69), (g24 70), (g24 71), (g24 72), (g24 73), (g24 74), (g24 75), (g24 76), (g24 77), (g24 78), (g24 79), (g24 80), (g24 81), (g24 82), (g24 83), (g24 84), (g24 85), (g24 86), (g24 87), undef, undef, undef, undef], []⟩) K ⟨12008468691120727718, 0, (([] : List Int) ++ a1), hy, hs.conv rfl, exg (by kernel_rfl)⟩ ?_
    clear hs h hy
    rintro n a w ⟨z4, z5, z6, h, hs, g24, rfl⟩ KL0 kl0
    cases n with
    | zero => exact nomatch (show none = some _ from h)
    | succ n =>
     refine xseq_k fun KS26 ks26 => ?_
     refine xseq_k fun KS27 ks27 => ?_
     refine xregS [0, 1] fun KR28 kr28 => ?_
     refine wpS.q 0 37 (.int .i64 z5) ?_
     rcases of_if h with ⟨hc, h⟩ | ⟨hc, h⟩
     ·refine wpS.tk 1 false (some 38) (.bool true) (yld_b (dt hc) (fun _ => by kernel_rfl)) ?_
      refine wpS.fin rfl (kr28 _ _ (then_n (ks27 _ _ (wp_cond_t (by kernel_rfl) (xskip (then_n (ks26 _ _ (xseq_k fun KS29 ks29 => (xblock (xseq_k fun KS30 ks30 => (xregS [0] fun KR31 kr31 => ?_)))))))))))
      refine wpS.q 0 10 (.int .i64 0) ?_
      refine wpS.fin rfl (kr31 _ _ (then_n (ks30 _ _ ?_)))
      obtain ⟨⟨y12, y13⟩, hy, hk1⟩ := of_bind h
      refine wp_exq (N := fun a w => St w0 [] [.ownL (CI .u8) s2_A s2_n s2_c y13 5] [.rowL (CI .u8) a0_A a0_n a0_c a0, .rowL (CI .u8) a1_A a1_n a1_c a1] w ∧ ∃ g33 : Nat → Value, a = ⟨#[.slice a0_A a0_n a0_c, .slice a1_A a1_n a1_c, undef, undef, .slice none 0 0, .int .i64 0, .slice s2_A s2_n s2_c, .int .u64 y12, .int .i64 x3, .int .i64 z5, (g33 10), (g33 11), (g33 12), (g33 13), .slice a0_A a0_n a0_c, .bool true, .bool false, .slice a1_A a1_n a1_c, .int .i64 (a1.length : Int), .bool false, .bool false, .slice a1_A a1_n a1_c, .int .i64 (a1.length : Int), .bool false, .bool false, .bool false, .slice a1_A a1_n a1_c, .int .i64 (a1.length : Int), .int .i64 (irem .i64 (a1.length : Int) 8), .bool false, .bool false, .slice none 0 0, .slice a1_A a1_n a1_c, .slice s2_A s2_n s2_c, .slice a1_A a1_n a1_c, .int .i64 (a1.length : Int), .int .i64 (iquo .i64 (a1.length : Int) 8), .int .i64 z5, .bool true, (g24 39), (g24 40), (g33 41), (g33 42), (g33 43), (g33 44), (g33 45), (g33 46), (g33 47), (g33 48), (g33 49), (g33 50), (g33 51), (g33 52), (g33 53), (g33 54), (g33 55), (g33 56), (g33 57), (g33 58), (g33 59), (g33 60), (g33 61), (g33 62), (g33 63), (g33 64), (g33 65), (g33 66), (g33 67), (g33 68), (g33 69), (g33 70), (g33 71), (g33 72), (g33 73), (g33 74), (g33 75), (g33 76), (g33 77), (g33 78), (g33 79), (g33 80), (g33 81), (g33 82), (g33 83), (g33 84), (g33 85), (g33 86), (g33 87), undef, undef, undef, undef], []⟩) (fun N1 nn1 => ?_) ?_
      ·clear hk1
       refine xblock ?_
       refine wp_loop_k (fun n a w => ∃ z9 z10 z11, ref11_Wrap.l1 K n a0 x3 z5 z9 z10 z11 = some (y12, y13) ∧ St w0 [] [.ownL (CI .u8) s2_A s2_n s2_c z11 5] [.rowL (CI .u8) a0_A a0_n a0_c a0, .rowL (CI .u8) a1_A a1_n a1_c a1] w ∧ ∃ g32 : Nat → Value, a = ⟨#[.slice a0_A a0_n a0_c, .slice a1_A a1_n a1_c, undef, undef, .slice none 0 0, .int .i64 0, .slice s2_A s2_n s2_c, .int .u64 z9, .int .i64 x3, .int .i64 z5, .int .i64 z10, (g32 11), (g32 12), (g32 13), .slice a0_A a0_n a0_c, .bool true, .bool false, .slice a1_A a1_n a1_c, .int .i64 (a1.length : Int), .bool false, .bool false, .slice a1_A a1_n a1_c, .int .i64 (a1.length : Int), .bool false, .bool false, .bool false, .slice a1_A a1_n a1_c, .int .i64 (a1.length : Int), .int .i64 (irem .i64 (a1.length : Int) 8), .bool false, .bool false, .slice none 0 0, .slice a1_A a1_n a1_c, .slice s2_A s2_n s2_c, .slice a1_A a1_n a1_c, .int .i64 (a1.length : Int), .int .i64 (iquo .i64 (a1.length : Int) 8), .int .i64 z5, .bool true, (g24 39), (g24 40), (g32 41), (g32 42), (g32 43), (g32 44), (g32 45), (g32 46), (g32 47), (g32 48), (g32 49), (g32 50), (g32 51), (g32 52), (g32 53), (g32 54), (g32 55), (g32 56), (g32 57), (g32 58), (g32 59), (g32 60), (g32 61), (g32 62), (g32 63), (g32 64), (g32 65), (g32 66), (g32 67), (g32 68), (g32 69), (g32 70), (g32 71), (g32 72), (g32 73), (g32 74), (g32 75), (g32 76), (g32 77), (g32 78), (g32 79), (g32 80), (g32 81), (g32 82), (g32 83), (g32 84), (g32 85), (g32 86), (g32 87), undef, undef, undef, undef], []⟩) K ⟨z4, 0, z6, hy, hs.conv rfl, exg (by kernel_rfl)⟩ ?_
       clear hs h hy
       rintro n a w ⟨z9, z10, z11, h, hs, g32, rfl⟩ KL1 kl1
       cases n with
       | zero => exact nomatch (show none = some _ from h)
       | succ n =>
        refine xseq_k fun KS34 ks34 => ?_
        refine xseq_k fun KS35 ks35 => ?_
        refine xregS [0, 1, 2] fun KR36 kr36 => ?_
        refine wpS.qs [(0, 41, .int .i64 z10), (1, 42, .int .i64 x3)] ?_
        rcases of_if h with ⟨hc, h⟩ | ⟨hc, h⟩
        ·refine wpS.tk 2 false (some 43) (.bool true) (yld_b (dt hc) (fun _ => by kernel_rfl)) ?_
         refine wpS.fin rfl (kr36 _ _ (then_n (ks35 _ _ (wp_cond_t (by kernel_rfl) (xskip (then_n (ks34 _ _ (xseq_k fun KS37 ks37 => (xblock (xseq_k fun KS38 ks38 => ?_))))))))))
         refine wp_regG [] (fun k => True) 18 (by kernel_rfl) (by kernel_rfl) (by kernel_rfl) fun KR39 kr39 => ?_
         have hs := hs.drawn1
         refine wpG.q 0 47 (.slice a0_A a0_n a0_c) ?_
         refine wpG.q 1 48 (.int .u64 z9) ?_
         refine wpG.q 3 50 (.slice s2_A s2_n s2_c) ?_
         refine wpG.q 4 51 (.int .i64 z10) ?_
         refine wpG.q 5 52 (.int .i64 (imul .i64 8 z10)) ?_
         refine wpG.q 6 53 (.int .i64 z10) ?_
         refine wpG.q 7 54 (.int .i64 (imul .i64 8 z10)) ?_
         refine wpG.q 8 55 (.int .i64 (iadd .i64 (imul .i64 8 z10) 8)) ?_
         obtain ⟨hv0_40, h⟩ := of_chk h
         obtain ⟨hv1_40, h⟩ := of_chk h
         obtain ⟨hv2_40, h⟩ := of_chk h
         obtain ⟨s14_A, hvA_40⟩ : ∃ A, A = if s2_c = ((imul .i64 8 z10) : Int).toNat then s2_A else adr s2_A (((imul .i64 8 z10) : Int).toNat * Cod.size (CI .u8)) := ⟨_, rfl⟩
         obtain ⟨s14_n, hvn_40⟩ : ∃ n, n = ((iadd .i64 (imul .i64 8 z10) 8) : Int).toNat - ((imul .i64 8 z10) : Int).toNat := ⟨_, rfl⟩
         obtain ⟨s14_c, hvc_40⟩ : ∃ c, c = s2_c - ((imul .i64 8 z10) : Int).toNat := ⟨_, rfl⟩
         refine wpG.tD 9 false (some 56) (.slice s14_A s14_n s14_c) (yld_sub (C := (CI .u8)) (t := 26) (e := 5) (low := some (.int .i64 (imul .i64 8 z10))) (high := some (.int .i64 (iadd .i64 (imul .i64 8 z10) 8))) (lo := (imul .i64 8 z10)) (hi := (iadd .i64 (imul .i64 8 z10) 8)) (hs.rowL 0 rfl) (by kernel_rfl) (by kernel_rfl) (by kernel_rfl) (.inr ⟨_, rfl⟩) (.inr ⟨_, rfl⟩) hv0_40 hv1_40 hv2_40 hvA_40 hvn_40 hvc_40) ?_
         obtain ⟨r15, hg, h⟩ := of_bind h
         refine wpG.only 2 (by kernel_rfl) (op_callH (d := (some 49)) (by kernel_rfl) hs (fun _ => by kernel_rfl) (ref01_Be.ok hg _) ?_)
         rintro ⟨r15_A, r15_n, r15_c⟩ w gw hs
         have hs := hs.conv (L' := [.ownL (CI .u8) r15_A r15_n r15_c r15 5, .ownL (CI .u8) s2_A s2_n s2_c z11 5]) rfl
         refine ⟨.of gw, ?_⟩
         refine wpG.only 10 (by kernel_rfl) (op_lit (C := CS) (t := 44) (e := 26) (len := 2) (parts := #[(0, .slice r15_A r15_n r15_c), (1, .slice s14_A s14_n s14_c)]) (l := ([(r15_A, r15_n, r15_c), (s14_A, s14_n, s14_c)] : List HS)) (d := (some 57)) (by kernel_rfl) hs (by kernel_rfl) (by kernel_rfl) (by kernel_rfl) (z := .slice none 0 0) (by kernel_rfl) rfl (by decide) (by decide) (by kernel_rfl) ?_)
         intro s16_A s16_n s16_c w gw hs
         refine ⟨.of gw, ?_⟩
         obtain ⟨r17, hg, h⟩ := of_bind h
         refine wpG.only 11 (by kernel_rfl) (op_callH (d := (some 58)) (by kernel_rfl) hs (fun _ => by kernel_rfl) (ref01_Join.ok hg _ (LLP.mk (hs.rowL 0 rfl) (inn_cons (hs.rowL 1 rfl) (inn_cons (RowL.sub (hs.rowL 2 rfl) hv0_40 hv1_40 hv2_40 hvA_40 hvn_40 hvc_40) inn_nil)))) ?_)
         rintro ⟨r17_A, r17_n, r17_c⟩ w gw hs
         have hs := hs.conv (L' := [.ownL (CI .u8) r17_A r17_n r17_c r17 5, .ownL CS s16_A s16_n s16_c ([(r15_A, r15_n, r15_c), (s14_A, s14_n, s14_c)] : List HS) 26, .ownL (CI .u8) r15_A r15_n r15_c r15 5, .ownL (CI .u8) s2_A s2_n s2_c z11 5]) rfl
         refine ⟨.of gw, ?_⟩
         obtain ⟨⟨r18, r19⟩, hg, h⟩ := of_bind h
         refine wpG.only 12 (by kernel_rfl) (op_callH (d := (some 59)) (by kernel_rfl) hs (fun _ => by kernel_rfl) (ref10_Block.ok hg _ (hs.rowR 0 rfl) (hs.rowL 0 rfl)) ?_)
         rintro ⟨r18_A, r18_n, r18_c⟩ w gw hs
         have hs := hs.conv (L' := [.ownL (CI .u8) r18_A r18_n r18_c r18 5, .ownL (CI .u8) r17_A r17_n r17_c r17 5, .ownL CS s16_A s16_n s16_c ([(r15_A, r15_n, r15_c), (s14_A, s14_n, s14_c)] : List HS) 26, .ownL (CI .u8) r15_A r15_n r15_c r15 5, .ownL (CI .u8) s2_A s2_n s2_c z11 5]) rfl
         refine ⟨.of gw, ?_⟩
         refine wpG.q 13 46 (.tuple #[.slice r18_A r18_n r18_c, .int .i64 r19]) ?_
         refine wpG.q 14 60 (.slice r18_A r18_n r18_c) ?_
         refine wpG.q 15 61 (.int .i64 r19) ?_
         refine wpG.q 16 11 (.slice r18_A r18_n r18_c) ?_
         refine wpG.q 17 12 (.int .i64 r19) ?_
         refine wpG.fin (by kernel_rfl) rfl (kr39 _ _ ?_)
         refine then_n (ks38 _ _ (xseq_k fun KS41 ks41 => (xregS [0, 1, 2, 3, 4, 5, 6, 7, 8, 9, 10, 11] fun KR42 kr42 => ?_)))
         refine wpS.q 0 62 (.slice r18_A r18_n r18_c) ?_
         obtain ⟨hv0_43, h⟩ := of_chk h
         obtain ⟨hv1_43, h⟩ := of_chk h
         obtain ⟨hv2_43, h⟩ := of_chk h
         obtain ⟨s20_A, hvA_43⟩ : ∃ A, A = if r18_c = (0 : Int).toNat then r18_A else adr r18_A ((0 : Int).toNat * Cod.size (CI .u8)) := ⟨_, rfl⟩
         obtain ⟨s20_n, hvn_43⟩ : ∃ n, n = (8 : Int).toNat - (0 : Int).toNat := ⟨_, rfl⟩
         obtain ⟨s20_c, hvc_43⟩ : ∃ c, c = r18_c - (0 : Int).toNat := ⟨_, rfl⟩
         refine wpS.tk 1 false (some 63) (.slice s20_A s20_n s20_c) (yld_sub (C := (CI .u8)) (t := 26) (e := 5) (low := none) (high := some (.int .i64 8)) (lo := 0) (hi := 8) (hs.rowL 0 rfl) (by kernel_rfl) (by kernel_rfl) (by kernel_rfl) (.inl ⟨rfl, rfl⟩) (.inr ⟨_, rfl⟩) hv0_43 hv1_43 hv2_43 hvA_43 hvn_43 hvc_43) ?_
         obtain ⟨r21, hg, h⟩ := of_bind h
         refine wpS.only 2 (op_call (d := (some 64)) (by kernel_rfl) hs (fun _ => by kernel_rfl) (ref01_Num.ok hg _ (RowL.sub (hs.rowL 0 rfl) hv0_43 hv1_43 hv2_43 hvA_43 hvn_43 hvc_43)) ?_)
         intro w gw hs
         refine ⟨fun _ => trivial, ?_⟩
         refine wpS.qs [(3, 65, .int .i64 x3), (4, 66, .int .i64 z5), (5, 67, .int .i64 (imul .i64 x3 z5)), (6, 68, .int .i64 z10), (7, 69, .int .i64 (iadd .i64 (imul .i64 x3 z5) z10)), (8, 70, .int .i64 (iadd .i64 (iadd .i64 (imul .i64 x3 z5) z10) 1)), (9, 71, .int .u64 (iconv .u64 (iadd .i64 (iadd .i64 (imul .i64 x3 z5) z10) 1))), (10, 72, .int .u64 (ixor .u64 r21 (iconv .u64 (iadd .i64 (iadd .i64 (imul .i64 x3 z5) z10) 1))))] ?_
         obtain ⟨x22, hx, h⟩ := of_bind h
         refine wpS.tk 11 false (some 7) (.int .u64 x22) (yld_int hx (fun _ => by kernel_rfl)) ?_
         refine wpS.fin rfl (kr42 _ _ (then_n (ks41 _ _ (xseq_k fun KS44 ks44 => (xregS [0] fun KR45 kr45 => ?_)))))
         refine wpS.q 0 13 (.int .i64 0) ?_
         refine wpS.fin rfl (kr45 _ _ (then_n (ks44 _ _ ?_)))
         obtain ⟨y25, hy, hk2⟩ := of_bind h
         refine wp_exq (N := fun a w => St w0 [] [.ownL (CI .u8) r18_A r18_n r18_c r18 5, .ownL (CI .u8) r17_A r17_n r17_c r17 5, .ownL CS s16_A s16_n s16_c ([(r15_A, r15_n, r15_c), (s14_A, s14_n, s14_c)] : List HS) 26, .ownL (CI .u8) r15_A r15_n r15_c r15 5, .ownL (CI .u8) s2_A s2_n s2_c y25 5] [.rowL (CI .u8) a0_A a0_n a0_c a0, .rowL (CI .u8) a1_A a1_n a1_c a1] w ∧ ∃ g47 : Nat → Value, a = ⟨#[.slice a0_A a0_n a0_c, .slice a1_A a1_n a1_c, undef, undef, .slice none 0 0, .int .i64 0, .slice s2_A s2_n s2_c, .int .u64 x22, .int .i64 x3, .int .i64 z5, .int .i64 z10, .slice r18_A r18_n r18_c, .int .i64 r19, (g47 13), .slice a0_A a0_n a0_c, .bool true, .bool false, .slice a1_A a1_n a1_c, .int .i64 (a1.length : Int), .bool false, .bool false, .slice a1_A a1_n a1_c, .int .i64 (a1.length : Int), .bool false, .bool false, .bool false, .slice a1_A a1_n a1_c, .int .i64 (a1.length : Int), .int .i64 (irem .i64 (a1.length : Int) 8), .bool false, .bool false, .slice none 0 0, .slice a1_A a1_n a1_c, .slice s2_A s2_n s2_c, .slice a1_A a1_n a1_c, .int .i64 (a1.length : Int), .int .i64 (iquo .i64 (a1.length : Int) 8), .int .i64 z5, .bool true, (g24 39), (g24 40), .int .i64 z10, .int .i64 x3, .bool true, (g32 44), (g32 45), .tuple #[.slice r18_A r18_n r18_c, .int .i64 r19], .slice a0_A a0_n a0_c, .int .u64 z9, .slice r15_A r15_n r15_c, .slice s2_A s2_n s2_c, .int .i64 z10, .int .i64 (imul .i64 8 z10), .int .i64 z10, .int .i64 (imul .i64 8 z10), .int .i64 (iadd .i64 (imul .i64 8 z10) 8), .slice s14_A s14_n s14_c, .slice s16_A s16_n s16_c, .slice r17_A r17_n r17_c, .tuple #[.slice r18_A r18_n r18_c, .int .i64 r19], .slice r18_A r18_n r18_c, .int .i64 r19, .slice r18_A r18_n r18_c, .slice s20_A s20_n s20_c, .int .u64 r21, .int .i64 x3, .int .i64 z5, .int .i64 (imul .i64 x3 z5), .int .i64 z10, .int .i64 (iadd .i64 (imul .i64 x3 z5) z10), .int .i64 (iadd .i64 (iadd .i64 (imul .i64 x3 z5) z10) 1), .int .u64 (iconv .u64 (iadd .i64 (iadd .i64 (imul .i64 x3 z5) z10) 1)), .int .u64 (ixor .u64 r21 (iconv .u64 (iadd .i64 (iadd .i64 (imul .i64 x3 z5) z10) 1))), (g47 73), (g47 74), (g47 75), (g47 76), (g47 77), (g47 78), (g47 79), (g47 80), (g47 81), (g47 82), (g47 83), (g47 84), (g47 85), (g47 86), (g47 87), undef, undef, undef, undef], []⟩) (fun N2 nn2 => ?_) ?_
         ·clear hk2
          refine xblock ?_
          refine wp_loop_k (fun n a w => ∃ z23 z24, ref11_Wrap.l2 K n z10 r18 z23 z24 = some y25 ∧ St w0 [] [.ownL (CI .u8) r18_A r18_n r18_c r18 5, .ownL (CI .u8) r17_A r17_n r17_c r17 5, .ownL CS s16_A s16_n s16_c ([(r15_A, r15_n, r15_c), (s14_A, s14_n, s14_c)] : List HS) 26, .ownL (CI .u8) r15_A r15_n r15_c r15 5, .ownL (CI .u8) s2_A s2_n s2_c z24 5] [.rowL (CI .u8) a0_A a0_n a0_c a0, .rowL (CI .u8) a1_A a1_n a1_c a1] w ∧ ∃ g46 : Nat → Value, a = ⟨#[.slice a0_A a0_n a0_c, .slice a1_A a1_n a1_c, undef, undef, .slice none 0 0, .int .i64 0, .slice s2_A s2_n s2_c, .int .u64 x22, .int .i64 x3, .int .i64 z5, .int .i64 z10, .slice r18_A r18_n r18_c, .int .i64 r19, .int .i64 z23, .slice a0_A a0_n a0_c, .bool true, .bool false, .slice a1_A a1_n a1_c, .int .i64 (a1.length : Int), .bool false, .bool false, .slice a1_A a1_n a1_c, .int .i64 (a1.length : Int), .bool false, .bool false, .bool false, .slice a1_A a1_n a1_c, .int .i64 (a1.length : Int), .int .i64 (irem .i64 (a1.length : Int) 8), .bool false, .bool false, .slice none 0 0, .slice a1_A a1_n a1_c, .slice s2_A s2_n s2_c, .slice a1_A a1_n a1_c, .int .i64 (a1.length : Int), .int .i64 (iquo .i64 (a1.length : Int) 8), .int .i64 z5, .bool true, (g24 39), (g24 40), .int .i64 z10, .int .i64 x3, .bool true, (g32 44), (g32 45), .tuple #[.slice r18_A r18_n r18_c, .int .i64 r19], .slice a0_A a0_n a0_c, .int .u64 z9, .slice r15_A r15_n r15_c, .slice s2_A s2_n s2_c, .int .i64 z10, .int .i64 (imul .i64 8 z10), .int .i64 z10, .int .i64 (imul .i64 8 z10), .int .i64 (iadd .i64 (imul .i64 8 z10) 8), .slice s14_A s14_n s14_c, .slice s16_A s16_n s16_c, .slice r17_A r17_n r17_c, .tuple #[.slice r18_A r18_n r18_c, .int .i64 r19], .slice r18_A r18_n r18_c, .int .i64 r19, .slice r18_A r18_n r18_c, .slice s20_A s20_n s20_c, .int .u64 r21, .int .i64 x3, .int .i64 z5, .int .i64 (imul .i64 x3 z5), .int .i64 z10, .int .i64 (iadd .i64 (imul .i64 x3 z5) z10), .int .i64 (iadd .i64 (iadd .i64 (imul .i64 x3 z5) z10) 1), .int .u64 (iconv .u64 (iadd .i64 (iadd .i64 (imul .i64 x3 z5) z10) 1)), .int .u64 (ixor .u64 r21 (iconv .u64 (iadd .i64 (iadd .i64 (imul .i64 x3 z5) z10) 1))), (g46 73), (g46 74), (g46 75), (g46 76), (g46 77), (g46 78), (g46 79), (g46 80), (g46 81), (g46 82), (g46 83), (g46 84), (g46 85), (g46 86), (g46 87), undef, undef, undef, undef], []⟩) K ⟨0, z11, hy, hs.conv rfl, exg (by kernel_rfl)⟩ ?_
          clear hs h hy
          rintro n a w ⟨z23, z24, h, hs, g46, rfl⟩ KL2 kl2
          cases n with
          | zero => exact nomatch (show none = some _ from h)
          | succ n =>
           refine xseq_k fun KS48 ks48 => ?_
           refine xseq_k fun KS49 ks49 => ?_
           refine xregS [0, 1] fun KR50 kr50 => ?_
           refine wpS.q 0 73 (.int .i64 z23) ?_
           rcases of_if h with ⟨hc, h⟩ | ⟨hc, h⟩
           ·refine wpS.tk 1 false (some 74) (.bool true) (yld_b (dt hc) (fun _ => by kernel_rfl)) ?_
            refine wpS.fin rfl (kr50 _ _ (then_n (ks49 _ _ (wp_cond_t (by kernel_rfl) (xskip (then_n (ks48 _ _ (xseq_k fun KS51 ks51 => (xblock (xregS [0, 1, 2, 3, 4, 5, 6, 7, 8, 9, 10, 11] fun KR52 kr52 => ?_))))))))))
            refine wpS.qs [(0, 77, .slice s2_A s2_n s2_c), (1, 78, .int .i64 z10), (2, 79, .int .i64 (imul .i64 8 z10)), (3, 80, .int .i64 z23), (4, 81, .int .i64 (iadd .i64 (imul .i64 8 z10) z23)), (5, 82, .slice r18_A r18_n r18_c), (6, 83, .int .i64 z23), (7, 84, .int .i64 (iadd .i64 8 z23))] ?_
            obtain ⟨x26, hx, h⟩ := of_bind h
            have hx := of_some hx
            subst hx
            obtain ⟨h0, h⟩ := of_chk h
            obtain ⟨h1, h⟩ := of_chk h
            have i0_53 := h0
            have i1_53 := h1
            refine wpS.tk 8 false (some 85) (.pointer (adr r18_A (((iadd .i64 8 z23) : Int).toNat * Cod.size (CI .u8)))) (yld_idxL (C := (CI .u8)) (t := 26) (e := 5) (k := .i64) (x := (iadd .i64 8 z23)) (hs.rowL 0 rfl) (by kernel_rfl) (by kernel_rfl) (by kernel_rfl) h0 h1) ?_
            refine wpS.tk 9 true (some 86) (.int .u8 (rdL (CI .u8) r18 (iadd .i64 8 z23))) (yld_loadL (C := (CI .u8)) (e := 5) (x := (iadd .i64 8 z23)) (hs.rowL 0 rfl) (by kernel_rfl) rfl (by kernel_rfl) i0_53 i1_53) ?_
            obtain ⟨x27, hx, h⟩ := of_bind h
            have hx := of_some hx
            subst hx
            obtain ⟨h0, h⟩ := of_chk h
            obtain ⟨h1, h⟩ := of_chk h
            have i0_54 := h0
            have i1_54 := h1
            refine wpS.tk 10 false (some 87) (.pointer (adr s2_A (((iadd .i64 (imul .i64 8 z10) z23) : Int).toNat * Cod.size (CI .u8)))) (yld_idxL (C := (CI .u8)) (t := 26) (e := 5) (k := .i64) (x := (iadd .i64 (imul .i64 8 z10) z23)) (hs.rowL 4 rfl) (by kernel_rfl) (by kernel_rfl) (by kernel_rfl) h0 h1) ?_
            obtain ⟨x28, hx, h⟩ := of_bind h
            refine wpS.only 11 (op_storeL (C := (CI .u8)) (t := 5) (x := (iadd .i64 (imul .i64 8 z10) z23)) (v := x28) (d := none) (by kernel_rfl) hs 4 rfl (by cases hx; kernel_rfl) (by kernel_rfl) i0_54 i1_54 ?_)
            intro w hs
            refine ⟨fun _ => trivial, ?_⟩
            refine wpS.fin rfl (kr52 _ _ (inBlock_n (then_n (ks51 _ _ (xregS [0, 1, 2] fun KR55 kr55 => ?_)))))
            refine wpS.qs [(0, 75, .int .i64 z23), (1, 76, .int .i64 (iadd .i64 z23 1))] ?_
            obtain ⟨x29, hx, h⟩ := of_bind h
            refine wpS.tk 2 false (some 13) (.int .i64 x29) (yld_int hx (fun _ => by kernel_rfl)) ?_
            refine wpS.fin rfl (kr55 _ _ ?_)
            exact then_n (kl2 _ _ ⟨n, Nat.lt_succ_self n, x29, (wrL z24 (iadd .i64 (imul .i64 8 z10) z23) x28), h, (hs.conv rfl), exg (by kernel_rfl)⟩)
           refine wpS.tk 1 false (some 74) (.bool false) (yld_b (df hc) (fun _ => by kernel_rfl)) ?_
           refine wpS.fin rfl (kr50 _ _ (then_n (ks49 _ _ (wp_cond_f (by kernel_rfl) (xexit (then_x (then_x (inBlock_hit ?_))))))))
           have q0 := of_some h
           subst q0
           exact exq_n (nn2 _ _ ⟨(hs.conv rfl), exg (by kernel_rfl)⟩)
         clear hs h hy
         rintro a w ⟨hs, g47, rfl⟩
         have h := hk2
         refine inBlock_n (then_n (ks37 _ _ (xregS [0, 1, 2] fun KR56 kr56 => ?_)))
         refine wpS.qs [(0, 44, .int .i64 z10), (1, 45, .int .i64 (iadd .i64 z10 1))] ?_
         obtain ⟨x30, hx, h⟩ := of_bind h
         refine wpS.tk 2 false (some 10) (.int .i64 x30) (yld_int hx (fun _ => by kernel_rfl)) ?_
         refine wpS.fin rfl (kr56 _ _ ?_)
         exact then_n (kl1 _ _ ⟨n, Nat.lt_succ_self n, x22, x30, y25, h, (hs.drop (.cons _ (.cons _ (.cons _ (.cons _ (.cons_cons _ .slnil)))))), exg (by kernel_rfl)⟩)
        refine wpS.tk 2 false (some 43) (.bool false) (yld_b (df hc) (fun _ => by kernel_rfl)) ?_
        refine wpS.fin rfl (kr36 _ _ (then_n (ks35 _ _ (wp_cond_f (by kernel_rfl) (xexit (then_x (then_x (inBlock_hit ?_))))))))
        obtain ⟨q0, qr0⟩ := Prod.mk.inj (of_some h)
        have q1 := qr0
        subst q0
        subst q1
        exact exq_n (nn1 _ _ ⟨(hs.conv rfl), exg (by kernel_rfl)⟩)
      clear hs h hy
      rintro a w ⟨hs, g33, rfl⟩
      have h := hk1
      refine inBlock_n (then_n (ks29 _ _ (xregS [0, 1, 2] fun KR57 kr57 => ?_)))
      refine wpS.qs [(0, 39, .int .i64 z5), (1, 40, .int .i64 (iadd .i64 z5 1))] ?_
      obtain ⟨x31, hx, h⟩ := of_bind h
      refine wpS.tk 2 false (some 9) (.int .i64 x31) (yld_int hx (fun _ => by kernel_rfl)) ?_
      refine wpS.fin rfl (kr57 _ _ ?_)
      exact then_n (kl0 _ _ ⟨n, Nat.lt_succ_self n, y12, x31, y13, h, (hs.conv rfl), exg (by kernel_rfl)⟩)
     refine wpS.tk 1 false (some 38) (.bool false) (yld_b (df hc) (fun _ => by kernel_rfl)) ?_
     refine wpS.fin rfl (kr28 _ _ (then_n (ks27 _ _ (wp_cond_f (by kernel_rfl) (xexit (then_x (then_x (inBlock_hit ?_))))))))
     obtain ⟨q0, qr0⟩ := Prod.mk.inj (of_some h)
     have q1 := qr0
     subst q0
     subst q1
     exact exq_n (nn0 _ _ ⟨(hs.conv rfl), exg (by kernel_rfl)⟩)
   clear hs h hy
   rintro a w ⟨hs, g25, rfl⟩
   have h := hk0
   refine then_n (ks21 _ _ (xseq_k fun KS58 ks58 => (xregS [0, 1, 2, 3, 4, 5] fun KR59 kr59 => ?_)))
   refine wpS.q 0 88 (.int .u64 y7) ?_
   obtain ⟨r32, hg, h⟩ := of_bind h
   refine wpS.only 1 (op_callH (d := (some 89)) (by kernel_rfl) hs (fun _ => by kernel_rfl) (ref01_Be.ok hg _) ?_)
   rintro ⟨r32_A, r32_n, r32_c⟩ w gw hs
   have hs := hs.conv (L' := [.ownL (CI .u8) r32_A r32_n r32_c r32 5, .ownL (CI .u8) s2_A s2_n s2_c y8 5]) rfl
   refine ⟨fun _ => trivial, ?_⟩
   refine wpS.q 2 90 (.slice s2_A s2_n s2_c) ?_
   obtain ⟨h0, h⟩ := of_chk h
   refine wpS.only 3 (op_appendT (C := (CI .u8)) (t := 26) (ty := 26) (e := 5) (bytes := 1) (B := 140737488355328) (d := (some 91)) (by kernel_rfl) hs 0 rfl (hs.rowL 1 rfl) (by kernel_rfl) (by kernel_rfl) (by kernel_rfl) (by kernel_rfl) (by kernel_rfl) h0 (by decide) (by decide) ?_)
   intro s33_A s33_n s33_c w hs
   refine ⟨fun _ => trivial, ?_⟩
   refine wpS.qs [(4, 4, .slice s33_A s33_n s33_c), (5, 5, .int .i64 0)] ?_
   refine wpS.fin rfl (kr59 _ _ (then_n (ks58 _ _ (xret ?_))))
   obtain ⟨q0, qr0⟩ := Prod.mk.inj (of_some h)
   have q1 := qr0
   subst q0
   subst q1
   exact qq _ _ (post_ret (by kernel_rfl) (run_results [.tmp 4, .tmp 5] [.slice s33_A s33_n s33_c, .int .i64 0] (by kernel_rfl) (.cons (res_tmp (by kernel_rfl)) (.cons (res_tmp (by kernel_rfl)) .nil))) ⟨⟨s33_A, s33_n, s33_c⟩, congrArg Ending.returned (by kernel_rfl), ((hs.drop (.cons_cons _ (.cons _ .slnil))).pickR pick_nil)⟩)
  refine wpS.tk 12 false (some 29) (.bool true) (yld_b (nt hc) (fun _ => by kernel_rfl)) ?_
  refine wpS.q 13 30 (.bool true) ?_
  refine wpS.fin rfl (kr8 _ _ (then_n (ks7 _ _ (wp_cond_t (by kernel_rfl) (xseq_k fun KS60 ks60 => (xregS [0, 1] fun KR61 kr61 => ?_))))))
  refine wpS.qs [(0, 4, .slice none 0 0), (1, 5, .int .i64 14)] ?_
  refine wpS.fin rfl (kr61 _ _ (then_n (ks60 _ _ (xret (then_r ?_)))))
  obtain ⟨q0, qr0⟩ := Prod.mk.inj (of_some h)
  have q1 := qr0
  subst q0
  subst q1
  have hs := hs.addNilL (CI .u8) 5
  exact qq _ _ (post_ret (by kernel_rfl) (run_results [.tmp 4, .tmp 5] [.slice none 0 0, .int .i64 14] (by kernel_rfl) (.cons (res_tmp (by kernel_rfl)) (.cons (res_tmp (by kernel_rfl)) .nil))) ⟨⟨none, 0, 0⟩, congrArg Ending.returned (by kernel_rfl), (hs.pickR pick_nil)⟩)
 | false =>
  have h := of_if_f h
  refine wpS.only 1 (op_call (d := (some 15)) (by kernel_rfl) hs (fun _ => by kernel_rfl) (ref10_Sized.ok hg _ (hs.rowR 0 rfl)) ?_)
  intro w gw hs
  refine ⟨fun _ => trivial, ?_⟩
  refine wpS.q 2 16 (.bool true) ?_
  refine wpS.fin rfl (kr5 _ _ (then_n (ks4 _ _ (wp_cond_t (by kernel_rfl) (xseq_k fun KS62 ks62 => (xregS [0, 1] fun KR63 kr63 => ?_))))))
  refine wpS.qs [(0, 4, .slice none 0 0), (1, 5, .int .i64 10)] ?_
  refine wpS.fin rfl (kr63 _ _ (then_n (ks62 _ _ (xret (then_r ?_)))))
  obtain ⟨q0, qr0⟩ := Prod.mk.inj (of_some h)
  have q1 := qr0
  subst q0
  subst q1
  have hs := hs.addNilL (CI .u8) 5
  exact qq _ _ (post_ret (by kernel_rfl) (run_results [.tmp 4, .tmp 5] [.slice none 0 0, .int .i64 10] (by kernel_rfl) (.cons (res_tmp (by kernel_rfl)) (.cons (res_tmp (by kernel_rfl)) .nil))) ⟨⟨none, 0, 0⟩, congrArg Ending.returned (by kernel_rfl), (hs.pickR pick_nil)⟩)

theorem ref10_back.ok {K : Nat} {a0 : List Int} {a1 : List Int} {a2 : Arr 256} {r0 : List Int} {a0_A : Option Addr} {a0_n : Nat} {a0_c : Nat} {a1_A : Option Addr} {a1_n : Nat} {a1_c : Nat} (h : ref10_back.f K a0 a1 a2 = some r0) (w0 : World) (hp0 : RowL (CI .u8) w0 a0_A a0_n a0_c a0) (hp1 : RowL (CI .u8) w0 a1_A a1_n a1_c a1) : Calls Try.prog 54 #[.slice a0_A a0_n a0_c, .slice a1_A a1_n a1_c, .agg (enc .u8 a2).toArray] w0 fun e w' => ∃ h : (Option Addr × Nat × Nat), e = .returned (.slice h.1 h.2.1 h.2.2) ∧ St w0 [] [.ownL (CI .u8) h.1 h.2.1 h.2.2 r0 5] [] w' := by
 refine calls_k Try.func54 rfl fun Q qq => ?_
 have hs := St.startR (all_cons (RowP.ent hp0) (all_cons (RowP.ent hp1) all_nil))
 refine wp_conv (a' := ⟨#[.slice a0_A a0_n a0_c, .slice a1_A a1_n a1_c, .agg (enc .u8 a2).toArray, undef, undef, undef, undef, undef, undef, undef, undef, undef, undef, undef, undef, undef, undef, undef, undef, undef, undef, undef, undef, undef, undef, undef, undef, undef, undef, undef, undef, undef, undef, undef, undef, undef, undef, undef, undef, undef, undef, undef, undef], []⟩) (by kernel_rfl) ?_
 refine xseq_k fun KS1 ks1 => ?_
 refine xregS [0, 1] fun KR2 kr2 => ?_
 refine wpS.only 0 (op_box (t := 46) (v := .agg (enc .u8 a2).toArray) (d := (some 5)) (by kernel_rfl) hs (enc .u8 a2) (by kernel_rfl) (by kernel_rfl) ?_)
 intro b1 w gw hs
 refine ⟨fun _ => trivial, ?_⟩
 refine wpS.q 1 6 (.slice none 0 0) ?_
 refine wpS.fin rfl (kr2 _ _ (then_n (ks1 _ _ (xseq_k fun KS3 ks3 => (xregS [0, 1, 2, 3, 4] fun KR4 kr4 => ?_)))))
 refine wpS.q 0 10 (.slice a0_A a0_n a0_c) ?_
 refine wpS.tk 1 false (some 11) (.int .i64 (a0.length : Int)) (yld_lenL (hs.rowR 0 rfl) (fun _ => by kernel_rfl)) ?_
 refine wpS.qs [(2, 12, .int .i64 (iquo .i64 (a0.length : Int) 16)), (3, 13, .int .i64 (isub .i64 (iquo .i64 (a0.length : Int) 16) 1))] ?_
 obtain ⟨x2, hx, h⟩ := of_bind h
 refine wpS.tk 4 false (some 7) (.int .i64 x2) (yld_int hx (fun _ => by kernel_rfl)) ?_
 refine wpS.fin rfl (kr4 _ _ (then_n (ks3 _ _ (xseq_k fun KS5 ks5 => (xregS [0, 1] fun KR6 kr6 => ?_)))))
 refine wpS.qs [(0, 14, .slice a1_A a1_n a1_c), (1, 8, .slice a1_A a1_n a1_c)] ?_
 refine wpS.fin rfl (kr6 _ _ (then_n (ks5 _ _ (xseq_k fun KS7 ks7 => (xseq_k fun KS8 ks8 => (xregS [0, 1] fun KR9 kr9 => ?_))))))
 refine wpS.qs [(0, 15, .int .i64 x2), (1, 9, .int .i64 x2)] ?_
 refine wpS.fin rfl (kr9 _ _ (then_n (ks8 _ _ ?_)))
 obtain ⟨y5, hy, hk0⟩ := of_bind h
 refine wp_exq (N := fun a w => ∃ (y5_A : Option Addr) (y5_n : Nat) (y5_c : Nat), St w0 [] [.blk b1 (enc .u8 a2) 46] [.rowL (CI .u8) y5_A y5_n y5_c y5, .rowL (CI .u8) a0_A a0_n a0_c a0, .rowL (CI .u8) a1_A a1_n a1_c a1] w ∧ ∃ g11 : Nat → Value, a = ⟨#[.slice a0_A a0_n a0_c, .slice a1_A a1_n a1_c, .agg (enc .u8 a2).toArray, undef, undef, .pointer (some ⟨b1, 0, none⟩), .slice none 0 0, .int .i64 x2, .slice y5_A y5_n y5_c, (g11 9), .slice a0_A a0_n a0_c, .int .i64 (a0.length : Int), .int .i64 (iquo .i64 (a0.length : Int) 16), .int .i64 (isub .i64 (iquo .i64 (a0.length : Int) 16) 1), .slice a1_A a1_n a1_c, .int .i64 x2, (g11 16), (g11 17), (g11 18), (g11 19), (g11 20), (g11 21), (g11 22), (g11 23), (g11 24), (g11 25), (g11 26), (g11 27), (g11 28), (g11 29), (g11 30), (g11 31), (g11 32), (g11 33), (g11 34), (g11 35), (g11 36), (g11 37), (g11 38), undef, undef, undef, undef], []⟩) (fun N0 nn0 => ?_) ?_
 ·clear hk0
  refine xblock ?_
  refine wp_loop_k (fun n a w => ∃ z3 z4, ∃ (z4_A : Option Addr) (z4_n : Nat) (z4_c : Nat), ref10_back.l0 K n a0 a2 x2 z3 z4 = some y5 ∧ St w0 [] [.blk b1 (enc .u8 a2) 46] [.rowL (CI .u8) z4_A z4_n z4_c z4, .rowL (CI .u8) a0_A a0_n a0_c a0, .rowL (CI .u8) a1_A a1_n a1_c a1] w ∧ ∃ g10 : Nat → Value, a = ⟨#[.slice a0_A a0_n a0_c, .slice a1_A a1_n a1_c, .agg (enc .u8 a2).toArray, undef, undef, .pointer (some ⟨b1, 0, none⟩), .slice none 0 0, .int .i64 x2, .slice z4_A z4_n z4_c, .int .i64 z3, .slice a0_A a0_n a0_c, .int .i64 (a0.length : Int), .int .i64 (iquo .i64 (a0.length : Int) 16), .int .i64 (isub .i64 (iquo .i64 (a0.length : Int) 16) 1), .slice a1_A a1_n a1_c, .int .i64 x2, (g10 16), (g10 17), (g10 18), (g10 19), (g10 20), (g10 21), (g10 22), (g10 23), (g10 24), (g10 25), (g10 26), (g10 27), (g10 28), (g10 29), (g10 30), (g10 31), (g10 32), (g10 33), (g10 34), (g10 35), (g10 36), (g10 37), (g10 38), undef, undef, undef, undef], []⟩) K ⟨x2, a1, a1_A, a1_n, a1_c, hy, (hs.conv (L' := [.blk b1 (enc .u8 a2) 46]) rfl).pickR (pick_cons 1 rfl (pick_cons 0 rfl (pick_cons 1 rfl pick_nil))), exg (by kernel_rfl)⟩ ?_
  clear hs h hy
  rintro n a w ⟨z3, z4, z4_A, z4_n, z4_c, h, hs, g10, rfl⟩ KL0 kl0
  cases n with
  | zero => exact nomatch (show none = some _ from h)
  | succ n =>
   refine xseq_k fun KS12 ks12 => ?_
   refine xseq_k fun KS13 ks13 => ?_
   refine xregS [0, 1] fun KR14 kr14 => ?_
   refine wpS.q 0 16 (.int .i64 z3) ?_
   rcases of_if h with ⟨hc, h⟩ | ⟨hc, h⟩
   ·refine wpS.tk 1 false (some 17) (.bool true) (yld_b (dt hc) (fun _ => by kernel_rfl)) ?_
    refine wpS.fin rfl (kr14 _ _ (then_n (ks13 _ _ (wp_cond_t (by kernel_rfl) (xskip (then_n (ks12 _ _ (xseq_k fun KS15 ks15 => (xblock (xseq_k fun KS16 ks16 => (xregS [0, 1, 2, 3, 4, 5, 6, 7, 8, 9] fun KR17 kr17 => ?_)))))))))))
    refine wpS.qs [(0, 20, .slice z4_A z4_n z4_c), (1, 21, .slice a0_A a0_n a0_c), (2, 22, .int .i64 z3), (3, 23, .int .i64 (imul .i64 16 z3)), (4, 24, .int .i64 z3), (5, 25, .int .i64 (imul .i64 16 z3)), (6, 26, .int .i64 (iadd .i64 (imul .i64 16 z3) 16))] ?_
    obtain ⟨h0, h⟩ := of_chk h
    obtain ⟨h1, h⟩ := of_chk h
    obtain ⟨h2, h⟩ := of_chk h
    obtain ⟨s6_A, hA⟩ : ∃ A, A = if a0_c = ((imul .i64 16 z3) : Int).toNat then a0_A else adr a0_A (((imul .i64 16 z3) : Int).toNat * Cod.size (CI .u8)) := ⟨_, rfl⟩
    obtain ⟨s6_n, hn⟩ : ∃ n, n = ((iadd .i64 (imul .i64 16 z3) 16) : Int).toNat - ((imul .i64 16 z3) : Int).toNat := ⟨_, rfl⟩
    obtain ⟨s6_c, hc⟩ : ∃ c, c = a0_c - ((imul .i64 16 z3) : Int).toNat := ⟨_, rfl⟩
    refine wpS.tk 7 false (some 27) (.slice s6_A s6_n s6_c) (yld_sub (C := (CI .u8)) (t := 26) (e := 5) (low := some (.int .i64 (imul .i64 16 z3))) (high := some (.int .i64 (iadd .i64 (imul .i64 16 z3) 16))) (lo := (imul .i64 16 z3)) (hi := (iadd .i64 (imul .i64 16 z3) 16)) (hs.rowR 1 rfl) (by kernel_rfl) (by kernel_rfl) (by kernel_rfl) (.inr ⟨_, rfl⟩) (.inr ⟨_, rfl⟩) h0 h1 h2 hA hn hc) ?_
    have hs := hs.addSub (C := (CI .u8)) 1 rfl h0 h1 h2 hA hn hc
    obtain ⟨r7, hg, h⟩ := of_bind h
    refine wpS.only 8 (op_callH (d := (some 28)) (by kernel_rfl) hs (fun _ => by kernel_rfl) (ref01_Xor.ok hg _ (hs.rowR 1 rfl) (hs.rowR 0 rfl)) ?_)
    rintro ⟨r7_A, r7_n, r7_c⟩ w gw hs
    have hs := hs.conv (L' := [.ownL (CI .u8) r7_A r7_n r7_c r7 5, .blk b1 (enc .u8 a2) 46]) rfl
    refine ⟨fun _ => trivial, ?_⟩
    refine wpS.q 9 8 (.slice r7_A r7_n r7_c) ?_
    refine wpS.fin rfl (kr17 _ _ (then_n (ks16 _ _ ?_)))
    obtain ⟨y8, hj, h⟩ := of_bind h
    refine xseq_k fun KS19 ks19 => wp_join (N := fun a w => ∃ (y8_A : Option Addr) (y8_n : Nat) (y8_c : Nat), St w0 [] [.ownL (CI .u8) y8_A y8_n y8_c y8 5, .blk b1 (enc .u8 a2) 46] [.rowL (CI .u8) s6_A s6_n s6_c (subL a0 (imul .i64 16 z3) (iadd .i64 (imul .i64 16 z3) 16)), .rowL (CI .u8) z4_A z4_n z4_c z4, .rowL (CI .u8) a0_A a0_n a0_c a0, .rowL (CI .u8) a1_A a1_n a1_c a1] w ∧ ∃ g18 : Nat → Value, a = ⟨#[.slice a0_A a0_n a0_c, .slice a1_A a1_n a1_c, .agg (enc .u8 a2).toArray, undef, undef, .pointer (some ⟨b1, 0, none⟩), .slice none 0 0, .int .i64 x2, .slice y8_A y8_n y8_c, .int .i64 z3, .slice a0_A a0_n a0_c, .int .i64 (a0.length : Int), .int .i64 (iquo .i64 (a0.length : Int) 16), .int .i64 (isub .i64 (iquo .i64 (a0.length : Int) 16) 1), .slice a1_A a1_n a1_c, .int .i64 x2, .int .i64 z3, .bool true, (g10 18), (g10 19), .slice z4_A z4_n z4_c, .slice a0_A a0_n a0_c, .int .i64 z3, .int .i64 (imul .i64 16 z3), .int .i64 z3, .int .i64 (imul .i64 16 z3), .int .i64 (iadd .i64 (imul .i64 16 z3) 16), .slice s6_A s6_n s6_c, .slice r7_A r7_n r7_c, (g18 29), (g18 30), (g18 31), (g18 32), (g18 33), (g18 34), (g10 35), (g10 36), (g10 37), (g10 38), undef, undef, undef, undef], []⟩) (fun N nj => ?_) ?_
    ·clear h
     have h := hj
     refine xseq_k fun KS20 ks20 => ?_
     refine xregS [0, 1, 2] fun KR21 kr21 => ?_
     refine wpS.qs [(0, 29, .int .i64 z3), (1, 30, .int .i64 x2)] ?_
     rcases of_if h with ⟨hc, h⟩ | ⟨hc, h⟩
     ·refine wpS.tk 2 false (some 31) (.bool true) (yld_b (dt hc) (fun _ => by kernel_rfl)) ?_
      refine wpS.fin rfl (kr21 _ _ (then_n (ks20 _ _ (wp_cond_t (by kernel_rfl) (xregS [0, 1, 2, 3] fun KR22 kr22 => ?_)))))
      refine wpS.qs [(0, 32, .slice r7_A r7_n r7_c), (1, 33, .agg (enc .u8 (wr (wr (wr (wr (zeroA 4) 0 14) 1 11) 2 13) 3 9)).toArray)] ?_
      obtain ⟨r9, hg, h⟩ := of_bind h
      refine wpS.only 2 (op_callH (d := (some 34)) (by kernel_rfl) hs (fun _ => by kernel_rfl) (ref10_columns.ok hg _ (hs.rowL 0 rfl)) ?_)
      rintro ⟨r9_A, r9_n, r9_c⟩ w gw hs
      have hs := hs.conv (L' := [.ownL (CI .u8) r9_A r9_n r9_c r9 5, .ownL (CI .u8) r7_A r7_n r7_c r7 5, .blk b1 (enc .u8 a2) 46]) rfl
      refine ⟨fun _ => trivial, ?_⟩
      refine wpS.q 3 8 (.slice r9_A r9_n r9_c) ?_
      refine wpS.fin rfl (kr22 _ _ ?_)
      have q0 := of_some h
      subst q0
      exact nj _ _ ⟨r9_A, r9_n, r9_c, (hs.drop (.cons_cons _ (.cons _ (.cons_cons _ .slnil)))), exg (by kernel_rfl)⟩
     refine wpS.tk 2 false (some 31) (.bool false) (yld_b (df hc) (fun _ => by kernel_rfl)) ?_
     refine wpS.fin rfl (kr21 _ _ (then_n (ks20 _ _ (wp_cond_f (by kernel_rfl) (xskip ?_)))))
     have q0 := of_some h
     subst q0
     exact nj _ _ ⟨r7_A, r7_n, r7_c, (hs.conv rfl), exg (by kernel_rfl)⟩
    clear hj hs
    rintro a w ⟨y8_A, y8_n, y8_c, hs, g18, rfl⟩
    refine then_n (ks19 _ _ ?_)
    refine wp_regG [] (fun k => True) 5 (by kernel_rfl) (by kernel_rfl) (by kernel_rfl) fun KR23 kr23 => ?_
    have hs := hs.drawn1
    refine wpG.q 0 35 (.slice y8_A y8_n y8_c) ?_
    refine wpG.tD 2 true (some 37) (.agg (enc .u8 a2).toArray) (yld_loadW (e := 46) (n := 256) hs 1 rfl (by kernel_rfl) (by kernel_rfl) (by kernel_rfl) (by exact enc_len _ _) .grow) ?_
    obtain ⟨r10, hg, h⟩ := of_bind h
    refine wpG.only 1 (by kernel_rfl) (op_callH (d := (some 36)) (by kernel_rfl) hs (fun _ => by kernel_rfl) (ref10_rows.ok hg _ (hs.rowL 0 rfl)) ?_)
    rintro ⟨r10_A, r10_n, r10_c⟩ w gw hs
    have hs := hs.conv (L' := [.ownL (CI .u8) r10_A r10_n r10_c r10 5, .ownL (CI .u8) y8_A y8_n y8_c y8 5, .blk b1 (enc .u8 a2) 46]) rfl
    refine ⟨.of gw, ?_⟩
    obtain ⟨r11, hg, h⟩ := of_bind h
    refine wpG.only 3 (by kernel_rfl) (op_callH (d := (some 38)) (by kernel_rfl) hs (fun _ => by kernel_rfl) (ref10_each.ok hg _ (hs.rowL 0 rfl)) ?_)
    rintro ⟨r11_A, r11_n, r11_c⟩ w gw hs
    have hs := hs.conv (L' := [.ownL (CI .u8) r11_A r11_n r11_c r11 5, .ownL (CI .u8) r10_A r10_n r10_c r10 5, .ownL (CI .u8) y8_A y8_n y8_c y8 5, .blk b1 (enc .u8 a2) 46]) rfl
    refine ⟨.of gw, ?_⟩
    refine wpG.q 4 8 (.slice r11_A r11_n r11_c) ?_
    refine wpG.fin (by kernel_rfl) rfl (kr23 _ _ ?_)
    refine inBlock_n (then_n (ks15 _ _ (xregS [0, 1, 2] fun KR24 kr24 => ?_)))
    refine wpS.qs [(0, 18, .int .i64 z3), (1, 19, .int .i64 (isub .i64 z3 1))] ?_
    obtain ⟨x12, hx, h⟩ := of_bind h
    refine wpS.tk 2 false (some 9) (.int .i64 x12) (yld_int hx (fun _ => by kernel_rfl)) ?_
    refine wpS.fin rfl (kr24 _ _ ?_)
    have hs := hs.freeze 0 rfl
    exact then_n (kl0 _ _ ⟨n, Nat.lt_succ_self n, x12, r11, r11_A, r11_n, r11_c, h, ((hs.drop (.cons _ (.cons _ (.cons_cons _ .slnil)))).pickR (pick_cons 0 rfl (pick_cons 3 rfl (pick_cons 4 rfl pick_nil)))), exg (by kernel_rfl)⟩)
   refine wpS.tk 1 false (some 17) (.bool false) (yld_b (df hc) (fun _ => by kernel_rfl)) ?_
   refine wpS.fin rfl (kr14 _ _ (then_n (ks13 _ _ (wp_cond_f (by kernel_rfl) (xexit (then_x (then_x (inBlock_hit ?_))))))))
   have q0 := of_some h
   subst q0
   exact exq_n (nn0 _ _ ⟨z4_A, z4_n, z4_c, (hs.conv rfl), exg (by kernel_rfl)⟩)
 clear hs h hy
 rintro a w ⟨y5_A, y5_n, y5_c, hs, g11, rfl⟩
 have h := hk0
 refine then_n (ks7 _ _ (xseq_k fun KS25 ks25 => (xregS [0, 1, 2, 3, 4] fun KR26 kr26 => ?_)))
 refine wpS.qs [(0, 39, .slice y5_A y5_n y5_c), (1, 40, .slice a0_A a0_n a0_c)] ?_
 obtain ⟨h0, h⟩ := of_chk h
 obtain ⟨h1, h⟩ := of_chk h
 obtain ⟨h2, h⟩ := of_chk h
 obtain ⟨s13_A, hA⟩ : ∃ A, A = if a0_c = (0 : Int).toNat then a0_A else adr a0_A ((0 : Int).toNat * Cod.size (CI .u8)) := ⟨_, rfl⟩
 obtain ⟨s13_n, hn⟩ : ∃ n, n = (16 : Int).toNat - (0 : Int).toNat := ⟨_, rfl⟩
 obtain ⟨s13_c, hc⟩ : ∃ c, c = a0_c - (0 : Int).toNat := ⟨_, rfl⟩
 refine wpS.tk 2 false (some 41) (.slice s13_A s13_n s13_c) (yld_sub (C := (CI .u8)) (t := 26) (e := 5) (low := none) (high := some (.int .i64 16)) (lo := 0) (hi := 16) (hs.rowR 1 rfl) (by kernel_rfl) (by kernel_rfl) (by kernel_rfl) (.inl ⟨rfl, rfl⟩) (.inr ⟨_, rfl⟩) h0 h1 h2 hA hn hc) ?_
 have hs := hs.addSub (C := (CI .u8)) 1 rfl h0 h1 h2 hA hn hc
 obtain ⟨r14, hg, h⟩ := of_bind h
 refine wpS.only 3 (op_callH (d := (some 42)) (by kernel_rfl) hs (fun _ => by kernel_rfl) (ref01_Xor.ok hg _ (hs.rowR 1 rfl) (hs.rowR 0 rfl)) ?_)
 rintro ⟨r14_A, r14_n, r14_c⟩ w gw hs
 have hs := hs.conv (L' := [.ownL (CI .u8) r14_A r14_n r14_c r14 5, .blk b1 (enc .u8 a2) 46]) rfl
 refine ⟨fun _ => trivial, ?_⟩
 refine wpS.q 4 6 (.slice r14_A r14_n r14_c) ?_
 refine wpS.fin rfl (kr26 _ _ (then_n (ks25 _ _ (xret ?_))))
 have q0 := of_some h
 subst q0
 exact qq _ _ (post_ret (by kernel_rfl) (run_results [.tmp 6] [.slice r14_A r14_n r14_c] (by kernel_rfl) (.cons (res_tmp (by kernel_rfl)) .nil)) ⟨⟨r14_A, r14_n, r14_c⟩, congrArg Ending.returned (by kernel_rfl), ((hs.drop (.cons_cons _ (.cons _ .slnil))).pickR pick_nil)⟩)

theorem ref10_Back.ok {K : Nat} {a0 : List Int} {a1 : List Int} {r0 : List Int} {r1 : Int} {a0_A : Option Addr} {a0_n : Nat} {a0_c : Nat} {a1_A : Option Addr} {a1_n : Nat} {a1_c : Nat} (h : ref10_Back.f K a0 a1 = some (r0, r1)) (w0 : World) (hp0 : RowL (CI .u8) w0 a0_A a0_n a0_c a0) (hp1 : RowL (CI .u8) w0 a1_A a1_n a1_c a1) : Calls Try.prog 21 #[.slice a0_A a0_n a0_c, .slice a1_A a1_n a1_c] w0 fun e w' => ∃ h : (Option Addr × Nat × Nat), e = .returned (.tuple #[.slice h.1 h.2.1 h.2.2, .int .i64 r1]) ∧ St w0 [] [.ownL (CI .u8) h.1 h.2.1 h.2.2 r0 5] [] w' := by
 refine calls_k Try.func21 rfl fun Q qq => ?_
 have hs := St.startR (all_cons (RowP.ent hp0) (all_cons (RowP.ent hp1) all_nil))
 refine wp_conv (a' := ⟨#[.slice a0_A a0_n a0_c, .slice a1_A a1_n a1_c, undef, undef, undef, undef, undef, undef, undef, undef, undef, undef, undef, undef, undef, undef, undef, undef, undef, undef, undef, undef, undef, undef], []⟩) (by kernel_rfl) ?_
 refine xseq_k fun KS1 ks1 => ?_
 refine xregS [0, 1] fun KR2 kr2 => ?_
 refine wpS.qs [(0, 4, .slice none 0 0), (1, 5, .int .i64 0)] ?_
 refine wpS.fin rfl (kr2 _ _ (then_n (ks1 _ _ (xseq_k fun KS3 ks3 => (xseq_k fun KS4 ks4 => (xregS [0, 1, 2] fun KR5 kr5 => ?_))))))
 refine wpS.q 0 8 (.slice a0_A a0_n a0_c) ?_
 obtain ⟨r1, hg, h⟩ := of_bind h
 cases r1 with
 | true =>
  have h := of_if_t h
  refine wpS.only 1 (op_call (d := (some 9)) (by kernel_rfl) hs (fun _ => by kernel_rfl) (ref10_Sized.ok hg _ (hs.rowR 0 rfl)) ?_)
  intro w gw hs
  refine ⟨fun _ => trivial, ?_⟩
  refine wpS.q 2 10 (.bool false) ?_
  refine wpS.fin rfl (kr5 _ _ (then_n (ks4 _ _ (wp_cond_f (by kernel_rfl) (xskip (then_n (ks3 _ _ (xseq_k fun KS6 ks6 => (xseq_k fun KS7 ks7 => (xregS [0, 1, 2] fun KR8 kr8 => ?_))))))))))
  refine wpS.q 0 11 (.slice a1_A a1_n a1_c) ?_
  refine wpS.tk 1 false (some 12) (.int .i64 (a1.length : Int)) (yld_lenL (hs.rowR 1 rfl) (fun _ => by kernel_rfl)) ?_
  rcases of_if h with ⟨hc, h⟩ | ⟨hc, h⟩
  ·refine wpS.tk 2 false (some 13) (.bool false) (yld_b (nf hc) (fun _ => by kernel_rfl)) ?_
   refine wpS.fin rfl (kr8 _ _ (then_n (ks7 _ _ (wp_cond_f (by kernel_rfl) (xskip (then_n (ks6 _ _ (xseq_k fun KS9 ks9 => (xregS [0, 1, 2, 3, 4, 5, 6, 7] fun KR10 kr10 => ?_)))))))))
   obtain ⟨⟨r2, r3⟩, hg, h⟩ := of_bind h
   refine wpS.only 0 (op_call (d := (some 15)) (by kernel_rfl) hs (fun _ => by kernel_rfl) (ref10_boxes.ok hg _) ?_)
   intro w gw hs
   refine ⟨fun _ => trivial, ?_⟩
   refine wpS.qs [(1, 14, .tuple #[.agg (enc .u8 r2).toArray, .agg (enc .u8 r3).toArray]), (2, 16, .agg (enc .u8 r2).toArray), (3, 17, .agg (enc .u8 r3).toArray)] ?_
   refine wpS.only 4 (op_alloc (t := 46) (d := (some 6)) (by kernel_rfl) hs (enc .u8 (zeroA 256)) (.agg (enc .u8 (zeroA 256)).toArray) (by kernel_rfl) (by kernel_rfl) (by kernel_rfl) ?_)
   intro b4 w gw hs
   refine ⟨fun _ => trivial, ?_⟩
   refine wpS.only 5 (op_alloc (t := 46) (d := (some 7)) (by kernel_rfl) hs (enc .u8 (zeroA 256)) (.agg (enc .u8 (zeroA 256)).toArray) (by kernel_rfl) (by kernel_rfl) (by kernel_rfl) ?_)
   intro b5 w gw hs
   refine ⟨fun _ => trivial, ?_⟩
   refine wpS.only 6 (op_storeW (t := 46) (v := .agg (enc .u8 r2).toArray) (d := none) (by kernel_rfl) hs 1 rfl (vs := enc .u8 r2) (n := 256) (by kernel_rfl) (by kernel_rfl) (by kernel_rfl) (by simp [enc_len]) (by simp [enc_len]) (by intro u hu; exact enc_one _ _ u hu) ?_)
   intro w kp hs
   refine ⟨fun _ => trivial, ?_⟩
   refine wpS.only 7 (op_storeW (t := 46) (v := .agg (enc .u8 r3).toArray) (d := none) (by kernel_rfl) hs 0 rfl (vs := enc .u8 r3) (n := 256) (by kernel_rfl) (by kernel_rfl) (by kernel_rfl) (by simp [enc_len]) (by simp [enc_len]) (by intro u hu; exact enc_one _ _ u hu) ?_)
   intro w kp hs
   refine ⟨fun _ => trivial, ?_⟩
   refine wpS.fin rfl (kr10 _ _ (then_n (ks9 _ _ (xseq_k fun KS11 ks11 => ?_))))
   refine wp_regG [] (fun k => True) 8 (by kernel_rfl) (by kernel_rfl) (by kernel_rfl) fun KR12 kr12 => ?_
   have hs := hs.drawn1
   refine wpG.q 0 18 (.slice a0_A a0_n a0_c) ?_
   refine wpG.tD 1 true (some 19) (.agg (enc .u8 r2).toArray) (yld_loadW (e := 46) (n := 256) hs 1 rfl (by kernel_rfl) (by kernel_rfl) (by kernel_rfl) (by exact enc_len _ _) .grow) ?_
   refine wpG.q 3 21 (.slice a1_A a1_n a1_c) ?_
   refine wpG.tD 4 true (some 22) (.agg (enc .u8 r3).toArray) (yld_loadW (e := 46) (n := 256) hs 0 rfl (by kernel_rfl) (by kernel_rfl) (by kernel_rfl) (by exact enc_len _ _) .grow) ?_
   obtain ⟨r6, hg, h⟩ := of_bind h
   refine wpG.only 2 (by kernel_rfl) (op_callH (d := (some 20)) (by kernel_rfl) hs (fun _ => by kernel_rfl) (ref10_keys.ok hg _ (hs.rowR 0 rfl)) ?_)
   rintro ⟨r6_A, r6_n, r6_c⟩ w gw hs
   have hs := hs.conv (L' := [.ownL (CI .u8) r6_A r6_n r6_c r6 5, .blk b5 (enc .u8 r3) 46, .blk b4 (enc .u8 r2) 46]) rfl
   refine ⟨.of gw, ?_⟩
   obtain ⟨r7, hg, h⟩ := of_bind h
   refine wpG.only 5 (by kernel_rfl) (op_callH (d := (some 23)) (by kernel_rfl) hs (fun _ => by kernel_rfl) (ref10_back.ok hg _ (hs.rowL 0 rfl) (hs.rowR 1 rfl)) ?_)
   rintro ⟨r7_A, r7_n, r7_c⟩ w gw hs
   have hs := hs.conv (L' := [.ownL (CI .u8) r7_A r7_n r7_c r7 5, .ownL (CI .u8) r6_A r6_n r6_c r6 5, .blk b5 (enc .u8 r3) 46, .blk b4 (enc .u8 r2) 46]) rfl
   refine ⟨.of gw, ?_⟩
   refine wpG.q 6 4 (.slice r7_A r7_n r7_c) ?_
   refine wpG.q 7 5 (.int .i64 0) ?_
   refine wpG.fin (by kernel_rfl) rfl (kr12 _ _ ?_)
   refine then_n (ks11 _ _ (xret ?_))
   obtain ⟨q0, qr0⟩ := Prod.mk.inj (of_some h)
   have q1 := qr0
   subst q0
   subst q1
   exact qq _ _ (post_ret (by kernel_rfl) (run_results [.tmp 4, .tmp 5] [.slice r7_A r7_n r7_c, .int .i64 0] (by kernel_rfl) (.cons (res_tmp (by kernel_rfl)) (.cons (res_tmp (by kernel_rfl)) .nil))) ⟨⟨r7_A, r7_n, r7_c⟩, congrArg Ending.returned (by kernel_rfl), ((hs.drop (.cons_cons _ (.cons _ (.cons _ (.cons _ .slnil))))).pickR pick_nil)⟩)
  refine wpS.tk 2 false (some 13) (.bool true) (yld_b (nt hc) (fun _ => by kernel_rfl)) ?_
  refine wpS.fin rfl (kr8 _ _ (then_n (ks7 _ _ (wp_cond_t (by kernel_rfl) (xseq_k fun KS13 ks13 => (xregS [0, 1] fun KR14 kr14 => ?_))))))
  refine wpS.qs [(0, 4, .slice none 0 0), (1, 5, .int .i64 14)] ?_
  refine wpS.fin rfl (kr14 _ _ (then_n (ks13 _ _ (xret (then_r ?_)))))
  obtain ⟨q0, qr0⟩ := Prod.mk.inj (of_some h)
  have q1 := qr0
  subst q0
  subst q1
  have hs := hs.addNilL (CI .u8) 5
  exact qq _ _ (post_ret (by kernel_rfl) (run_results [.tmp 4, .tmp 5] [.slice none 0 0, .int .i64 14] (by kernel_rfl) (.cons (res_tmp (by kernel_rfl)) (.cons (res_tmp (by kernel_rfl)) .nil))) ⟨⟨none, 0, 0⟩, congrArg Ending.returned (by kernel_rfl), (hs.pickR pick_nil)⟩)
 | false =>
  have h := of_if_f h
  refine wpS.only 1 (op_call (d := (some 9)) (by kernel_rfl) hs (fun _ => by kernel_rfl) (ref10_Sized.ok hg _ (hs.rowR 0 rfl)) ?_)
  intro w gw hs
  refine ⟨fun _ => trivial, ?_⟩
  refine wpS.q 2 10 (.bool true) ?_
  refine wpS.fin rfl (kr5 _ _ (then_n (ks4 _ _ (wp_cond_t (by kernel_rfl) (xseq_k fun KS15 ks15 => (xregS [0, 1] fun KR16 kr16 => ?_))))))
  refine wpS.qs [(0, 4, .slice none 0 0), (1, 5, .int .i64 10)] ?_
  refine wpS.fin rfl (kr16 _ _ (then_n (ks15 _ _ (xret (then_r ?_)))))
  obtain ⟨q0, qr0⟩ := Prod.mk.inj (of_some h)
  have q1 := qr0
  subst q0
  subst q1
  have hs := hs.addNilL (CI .u8) 5
  exact qq _ _ (post_ret (by kernel_rfl) (run_results [.tmp 4, .tmp 5] [.slice none 0 0, .int .i64 10] (by kernel_rfl) (.cons (res_tmp (by kernel_rfl)) (.cons (res_tmp (by kernel_rfl)) .nil))) ⟨⟨none, 0, 0⟩, congrArg Ending.returned (by kernel_rfl), (hs.pickR pick_nil)⟩)
end Go.Proofs.Ytmpagpbnpgcecaa
