/- Printed by this work's own program: the code of each function below comes to the answer that its plain form tells. -/
import Derived.Test.YtblploekkjeolaaMv
import Derived.Test.YtblploekkjeolaaProg
import Derived.Test.YtblploekkjeolaaDF0
set_option linter.unusedVariables false
set_option linter.unusedSimpArgs false
set_option maxRecDepth 100000
set_option maxHeartbeats 4000000
namespace Go.Proofs.Ytblploekkjeolaa
open Go.Mx
attribute [local irreducible] wpOp

theorem ref22_Hints.ok {K : Nat} {a0 : List (Arr 256)} {a1 : Int} {r0 : List Int} {a0_A : Option Addr} {a0_n : Nat} {a0_c : Nat} (h : ref22_Hints.f K a0 a1 = some r0) (w0 : World) (hp0 : RowL (CA .i32 256 (by decide)) w0 a0_A a0_n a0_c a0) : Calls Try.prog 28 #[.slice a0_A a0_n a0_c, .int .i64 a1] w0 fun e w' => ∃ h : (Option Addr × Nat × Nat), e = .returned (.slice h.1 h.2.1 h.2.2) ∧ St w0 [] [.ownL (CI .u8) h.1 h.2.1 h.2.2 r0 5] [] w' := by
 refine calls_k Try.func28 rfl fun Q qq => ?_
 have hs := St.startR (all_cons (RowP.ent hp0) all_nil)
 refine wp_conv (a' := ⟨#[.slice a0_A a0_n a0_c, .int .i64 a1, undef, undef, undef, undef, undef, undef, undef, undef, undef, undef, undef, undef, undef, undef, undef, undef, undef, undef, undef, undef, undef, undef, undef, undef, undef, undef, undef, undef, undef, undef, undef, undef, undef, undef, undef, undef, undef, undef, undef, undef, undef, undef, undef, undef, undef, undef, undef, undef, undef, undef, undef, undef, undef, undef, undef, undef, undef, undef, undef, undef, undef, undef, undef, undef, undef, undef, undef, undef, undef, undef, undef, undef, undef, undef, undef, undef, undef, undef, undef, undef, undef], []⟩) (by kernel_rfl) ?_
 refine xseq_k fun KS1 ks1 => ?_
 refine wp_regS (l := [0]) (by kernel_rfl) (by kernel_rfl) fun KR2 kr2 => ?_
 refine wpS.p 0 4 (.slice none 0 0) (by kernel_rfl) ?_
 refine wpS.fin rfl (kr2 _ _ ?_)
 refine then_n (ks1 _ _ ?_)
 refine xseq_k fun KS3 ks3 => ?_
 refine xseq_k fun KS4 ks4 => ?_
 refine wp_regS (l := [0, 1, 2, 3, 4, 5, 6, 7, 8, 9, 10, 11, 12, 13, 14, 15]) (by kernel_rfl) (by kernel_rfl) fun KR5 kr5 => ?_
 refine wpS.p 0 9 (.slice a0_A a0_n a0_c) (by kernel_rfl) ?_
 refine wpS.take 1 false (some 10) (.int .i64 (a0.length : Int)) (by kernel_rfl) (yld_lenL (hs.rowR 0 rfl) (fun _ => by kernel_rfl)) ?_
 rcases of_if h with ⟨hc, h⟩ | ⟨hc, h⟩
 ·refine wpS.take 2 false (some 11) (.bool true) (by kernel_rfl) (yld_b (dt hc) (fun _ => by kernel_rfl)) ?_
  refine wpS.ps [(3, 12, .bool true), (4, 13, undef), (5, 14, undef), (6, 15, undef), (7, 16, .bool true), (8, 17, .bool true), (9, 18, undef), (10, 19, undef), (11, 20, .bool true), (12, 21, .bool true), (13, 22, undef), (14, 23, undef), (15, 24, .bool true)] (by kernel_rfl) ?_
  refine wpS.fin rfl (kr5 _ _ ?_)
  refine then_n (ks4 _ _ ?_)
  refine wp_cond_t (by kernel_rfl) ?_
  refine xseq_k fun KS6 ks6 => ?_
  refine wp_regS (l := [0]) (by kernel_rfl) (by kernel_rfl) fun KR7 kr7 => ?_
  refine wpS.p 0 4 (.slice none 0 0) (by kernel_rfl) ?_
  refine wpS.fin rfl (kr7 _ _ ?_)
  refine then_n (ks6 _ _ ?_)
  refine xret ?_
  refine then_r ?_
  have q0 := of_some h
  subst q0
  have hs := hs.addNilL (CI .u8) 5
  exact qq _ _ (post_ret (by kernel_rfl) (run_results [.tmp 4] [.slice none 0 0] (by kernel_rfl) (.cons (res_tmp (by kernel_rfl)) .nil)) ⟨⟨none, 0, 0⟩, congrArg Ending.returned (by kernel_rfl), (hs.pickR pick_nil)⟩)
 ·refine wpS.take 2 false (some 11) (.bool false) (by kernel_rfl) (yld_b (df hc) (fun _ => by kernel_rfl)) ?_
  refine wpS.ps [(3, 12, .bool false), (4, 13, .slice a0_A a0_n a0_c)] (by kernel_rfl) ?_
  refine wpS.take 5 false (some 14) (.int .i64 (a0.length : Int)) (by kernel_rfl) (yld_lenL (hs.rowR 0 rfl) (fun _ => by kernel_rfl)) ?_
  rcases of_if h with ⟨hc, h⟩ | ⟨hc, h⟩
  ·refine wpS.take 6 false (some 15) (.bool true) (by kernel_rfl) (yld_b (dt hc) (fun _ => by kernel_rfl)) ?_
   refine wpS.ps [(7, 16, .bool true), (8, 17, .bool true), (9, 18, undef), (10, 19, undef), (11, 20, .bool true), (12, 21, .bool true), (13, 22, undef), (14, 23, undef), (15, 24, .bool true)] (by kernel_rfl) ?_
   refine wpS.fin rfl (kr5 _ _ ?_)
   refine then_n (ks4 _ _ ?_)
   refine wp_cond_t (by kernel_rfl) ?_
   refine xseq_k fun KS8 ks8 => ?_
   refine wp_regS (l := [0]) (by kernel_rfl) (by kernel_rfl) fun KR9 kr9 => ?_
   refine wpS.p 0 4 (.slice none 0 0) (by kernel_rfl) ?_
   refine wpS.fin rfl (kr9 _ _ ?_)
   refine then_n (ks8 _ _ ?_)
   refine xret ?_
   refine then_r ?_
   have q0 := of_some h
   subst q0
   have hs := hs.addNilL (CI .u8) 5
   exact qq _ _ (post_ret (by kernel_rfl) (run_results [.tmp 4] [.slice none 0 0] (by kernel_rfl) (.cons (res_tmp (by kernel_rfl)) .nil)) ⟨⟨none, 0, 0⟩, congrArg Ending.returned (by kernel_rfl), (hs.pickR pick_nil)⟩)
  ·refine wpS.take 6 false (some 15) (.bool false) (by kernel_rfl) (yld_b (df hc) (fun _ => by kernel_rfl)) ?_
   refine wpS.ps [(7, 16, .bool false), (8, 17, .bool false), (9, 18, .int .i64 a1)] (by kernel_rfl) ?_
   rcases of_if h with ⟨hc, h⟩ | ⟨hc, h⟩
   ·refine wpS.take 10 false (some 19) (.bool true) (by kernel_rfl) (yld_b (dt hc) (fun _ => by kernel_rfl)) ?_
    refine wpS.ps [(11, 20, .bool true), (12, 21, .bool true), (13, 22, undef), (14, 23, undef), (15, 24, .bool true)] (by kernel_rfl) ?_
    refine wpS.fin rfl (kr5 _ _ ?_)
    refine then_n (ks4 _ _ ?_)
    refine wp_cond_t (by kernel_rfl) ?_
    refine xseq_k fun KS10 ks10 => ?_
    refine wp_regS (l := [0]) (by kernel_rfl) (by kernel_rfl) fun KR11 kr11 => ?_
    refine wpS.p 0 4 (.slice none 0 0) (by kernel_rfl) ?_
    refine wpS.fin rfl (kr11 _ _ ?_)
    refine then_n (ks10 _ _ ?_)
    refine xret ?_
    refine then_r ?_
    have q0 := of_some h
    subst q0
    have hs := hs.addNilL (CI .u8) 5
    exact qq _ _ (post_ret (by kernel_rfl) (run_results [.tmp 4] [.slice none 0 0] (by kernel_rfl) (.cons (res_tmp (by kernel_rfl)) .nil)) ⟨⟨none, 0, 0⟩, congrArg Ending.returned (by kernel_rfl), (hs.pickR pick_nil)⟩)
   ·refine wpS.take 10 false (some 19) (.bool false) (by kernel_rfl) (yld_b (df hc) (fun _ => by kernel_rfl)) ?_
    refine wpS.ps [(11, 20, .bool false), (12, 21, .bool false), (13, 22, .int .i64 a1)] (by kernel_rfl) ?_
    rcases of_if h with ⟨hc, h⟩ | ⟨hc, h⟩
    ·refine wpS.take 14 false (some 23) (.bool true) (by kernel_rfl) (yld_b (dt hc) (fun _ => by kernel_rfl)) ?_
     refine wpS.p 15 24 (.bool true) (by kernel_rfl) ?_
     refine wpS.fin rfl (kr5 _ _ ?_)
     refine then_n (ks4 _ _ ?_)
     refine wp_cond_t (by kernel_rfl) ?_
     refine xseq_k fun KS12 ks12 => ?_
     refine wp_regS (l := [0]) (by kernel_rfl) (by kernel_rfl) fun KR13 kr13 => ?_
     refine wpS.p 0 4 (.slice none 0 0) (by kernel_rfl) ?_
     refine wpS.fin rfl (kr13 _ _ ?_)
     refine then_n (ks12 _ _ ?_)
     refine xret ?_
     refine then_r ?_
     have q0 := of_some h
     subst q0
     have hs := hs.addNilL (CI .u8) 5
     exact qq _ _ (post_ret (by kernel_rfl) (run_results [.tmp 4] [.slice none 0 0] (by kernel_rfl) (.cons (res_tmp (by kernel_rfl)) .nil)) ⟨⟨none, 0, 0⟩, congrArg Ending.returned (by kernel_rfl), (hs.pickR pick_nil)⟩)
    ·refine wpS.take 14 false (some 23) (.bool false) (by kernel_rfl) (yld_b (df hc) (fun _ => by kernel_rfl)) ?_
     refine wpS.p 15 24 (.bool false) (by kernel_rfl) ?_
     refine wpS.fin rfl (kr5 _ _ ?_)
     refine then_n (ks4 _ _ ?_)
     refine wp_cond_f (by kernel_rfl) ?_
     refine xskip ?_
     refine then_n (ks3 _ _ ?_)
     refine xseq_k fun KS14 ks14 => ?_
     refine wp_regS (l := [0]) (by kernel_rfl) (by kernel_rfl) fun KR15 kr15 => ?_
     refine wpS.p 0 5 (.slice none 0 0) (by kernel_rfl) ?_
     refine wpS.fin rfl (kr15 _ _ ?_)
     refine then_n (ks14 _ _ ?_)
     refine xseq_k fun KS16 ks16 => ?_
     refine wp_regS (l := [0]) (by kernel_rfl) (by kernel_rfl) fun KR17 kr17 => ?_
     refine wpS.p 0 6 (.slice none 0 0) (by kernel_rfl) ?_
     refine wpS.fin rfl (kr17 _ _ ?_)
     refine then_n (ks16 _ _ ?_)
     refine xseq_k fun KS18 ks18 => ?_
     refine xseq_k fun KS19 ks19 => ?_
     refine wp_regS (l := [0]) (by kernel_rfl) (by kernel_rfl) fun KR20 kr20 => ?_
     refine wpS.p 0 7 (.int .i64 0) (by kernel_rfl) ?_
     refine wpS.fin rfl (kr20 _ _ ?_)
     refine then_n (ks19 _ _ ?_)
     have hs := hs.addNilL (CI .u8) 5
     have hs := hs.addNilL (CI .u8) 5
     obtain ⟨t0, hy, hk0⟩ := of_bind h
     refine wp_exq (N := fun a w => ∃ y4 y5, ∃ (y4_A : Option Addr) (y4_n : Nat) (y4_c : Nat) (y5_A : Option Addr) (y5_n : Nat) (y5_c : Nat), t0 = .inl (y4, y5) ∧ St w0 [] [.ownL (CI .u8) y4_A y4_n y4_c y4 5, .ownL (CI .u8) y5_A y5_n y5_c y5 5] [.rowL (CA .i32 256 (by decide)) a0_A a0_n a0_c a0] w ∧ ∃ g : Nat → Value, a = ⟨#[.slice a0_A a0_n a0_c, .int .i64 a1, undef, undef, (g 4), .slice y5_A y5_n y5_c, .slice y4_A y4_n y4_c, (g 7), (g 8), .slice a0_A a0_n a0_c, .int .i64 (a0.length : Int), .bool false, .bool false, .slice a0_A a0_n a0_c, .int .i64 (a0.length : Int), .bool false, .bool false, .bool false, .int .i64 a1, .bool false, .bool false, .bool false, .int .i64 a1, .bool false, .bool false, (g 25), (g 26), (g 27), (g 28), (g 29), (g 30), (g 31), (g 32), (g 33), (g 34), (g 35), (g 36), (g 37), (g 38), (g 39), (g 40), (g 41), (g 42), (g 43), (g 44), (g 45), (g 46), (g 47), (g 48), (g 49), (g 50), (g 51), (g 52), (g 53), (g 54), (g 55), (g 56), (g 57), (g 58), (g 59), (g 60), (g 61), (g 62), (g 63), (g 64), (g 65), (g 66), (g 67), (g 68), (g 69), (g 70), (g 71), (g 72), undef, undef, undef, undef, undef, undef, undef, undef, undef, undef], []⟩) (fun N0 nn0 => ?_) ?_
     ·refine xblock ?_
      refine wp_loop_k (fun n a w => ∃ z1 z2 z3, ∃ (z2_A : Option Addr) (z2_n : Nat) (z2_c : Nat) (z3_A : Option Addr) (z3_n : Nat) (z3_c : Nat), ref22_Hints.l0 K n a0 a1 z1 z2 z3 = some t0 ∧ St w0 [] [.ownL (CI .u8) z2_A z2_n z2_c z2 5, .ownL (CI .u8) z3_A z3_n z3_c z3 5] [.rowL (CA .i32 256 (by decide)) a0_A a0_n a0_c a0] w ∧ ∃ g : Nat → Value, a = ⟨#[.slice a0_A a0_n a0_c, .int .i64 a1, undef, undef, (g 4), .slice z3_A z3_n z3_c, .slice z2_A z2_n z2_c, .int .i64 z1, (g 8), .slice a0_A a0_n a0_c, .int .i64 (a0.length : Int), .bool false, .bool false, .slice a0_A a0_n a0_c, .int .i64 (a0.length : Int), .bool false, .bool false, .bool false, .int .i64 a1, .bool false, .bool false, .bool false, .int .i64 a1, .bool false, .bool false, (g 25), (g 26), (g 27), (g 28), (g 29), (g 30), (g 31), (g 32), (g 33), (g 34), (g 35), (g 36), (g 37), (g 38), (g 39), (g 40), (g 41), (g 42), (g 43), (g 44), (g 45), (g 46), (g 47), (g 48), (g 49), (g 50), (g 51), (g 52), (g 53), (g 54), (g 55), (g 56), (g 57), (g 58), (g 59), (g 60), (g 61), (g 62), (g 63), (g 64), (g 65), (g 66), (g 67), (g 68), (g 69), (g 70), (g 71), (g 72), undef, undef, undef, undef, undef, undef, undef, undef, undef, undef], []⟩) K ⟨0, ([] : List Int), ([] : List Int), none, 0, 0, none, 0, 0, hy, hs.conv rfl, exg (by kernel_rfl)⟩ ?_
      clear hs h hy
      rintro n a w ⟨z1, z2, z3, z2_A, z2_n, z2_c, z3_A, z3_n, z3_c, h, hs, g, rfl⟩ KL0 kl0
      cases n with
      | zero => exact nomatch (show none = some _ from h)
      | succ n =>
       refine xseq_k fun KS21 ks21 => ?_
       refine xseq_k fun KS22 ks22 => ?_
       refine wp_regS (l := [0, 1, 2, 3]) (by kernel_rfl) (by kernel_rfl) fun KR23 kr23 => ?_
       refine wpS.ps [(0, 25, .int .i64 z1), (1, 26, .slice a0_A a0_n a0_c)] (by kernel_rfl) ?_
       refine wpS.take 2 false (some 27) (.int .i64 (a0.length : Int)) (by kernel_rfl) (yld_lenL (hs.rowR 0 rfl) (fun _ => by kernel_rfl)) ?_
       rcases of_if h with ⟨hc, h⟩ | ⟨hc, h⟩
       ·refine wpS.take 3 false (some 28) (.bool true) (by kernel_rfl) (yld_b (dt hc) (fun _ => by kernel_rfl)) ?_
        refine wpS.fin rfl (kr23 _ _ ?_)
        refine then_n (ks22 _ _ ?_)
        refine wp_cond_t (by kernel_rfl) ?_
        refine xskip ?_
        refine then_n (ks21 _ _ ?_)
        refine xseq_k fun KS24 ks24 => ?_
        refine xblock ?_
        refine xseq_k fun KS25 ks25 => ?_
        refine xseq_k fun KS26 ks26 => ?_
        refine wp_regS (l := [0]) (by kernel_rfl) (by kernel_rfl) fun KR27 kr27 => ?_
        refine wpS.p 0 8 (.int .i64 0) (by kernel_rfl) ?_
        refine wpS.fin rfl (kr27 _ _ ?_)
        refine then_n (ks26 _ _ ?_)
        obtain ⟨t1, hy, hk1⟩ := of_bind h
        refine wp_exq (N := fun a w => ∃ y8, ∃ (y8_A : Option Addr) (y8_n : Nat) (y8_c : Nat), t1 = .inl y8 ∧ St w0 [] [.ownL (CI .u8) z2_A z2_n z2_c z2 5, .ownL (CI .u8) y8_A y8_n y8_c y8 5] [.rowL (CA .i32 256 (by decide)) a0_A a0_n a0_c a0] w ∧ ∃ g : Nat → Value, a = ⟨#[.slice a0_A a0_n a0_c, .int .i64 a1, undef, undef, (g 4), .slice y8_A y8_n y8_c, .slice z2_A z2_n z2_c, .int .i64 z1, (g 8), .slice a0_A a0_n a0_c, .int .i64 (a0.length : Int), .bool false, .bool false, .slice a0_A a0_n a0_c, .int .i64 (a0.length : Int), .bool false, .bool false, .bool false, .int .i64 a1, .bool false, .bool false, .bool false, .int .i64 a1, .bool false, .bool false, .int .i64 z1, .slice a0_A a0_n a0_c, .int .i64 (a0.length : Int), .bool true, (g 29), (g 30), (g 31), (g 32), (g 33), (g 34), (g 35), (g 36), (g 37), (g 38), (g 39), (g 40), (g 41), (g 42), (g 43), (g 44), (g 45), (g 46), (g 47), (g 48), (g 49), (g 50), (g 51), (g 52), (g 53), (g 54), (g 55), (g 56), (g 57), (g 58), (g 59), (g 60), (g 61), (g 62), (g 63), (g 64), (g 65), (g 66), (g 67), (g 68), (g 69), (g 70), (g 71), (g 72), undef, undef, undef, undef, undef, undef, undef, undef, undef, undef], []⟩) (fun N1 nn1 => ?_) ?_
        ·refine xblock ?_
         refine wp_loop_k (fun n a w => ∃ z6 z7, ∃ (z7_A : Option Addr) (z7_n : Nat) (z7_c : Nat), ref22_Hints.l1 K n a0 z1 z6 z7 = some t1 ∧ St w0 [] [.ownL (CI .u8) z2_A z2_n z2_c z2 5, .ownL (CI .u8) z7_A z7_n z7_c z7 5] [.rowL (CA .i32 256 (by decide)) a0_A a0_n a0_c a0] w ∧ ∃ g : Nat → Value, a = ⟨#[.slice a0_A a0_n a0_c, .int .i64 a1, undef, undef, (g 4), .slice z7_A z7_n z7_c, .slice z2_A z2_n z2_c, .int .i64 z1, .int .i64 z6, .slice a0_A a0_n a0_c, .int .i64 (a0.length : Int), .bool false, .bool false, .slice a0_A a0_n a0_c, .int .i64 (a0.length : Int), .bool false, .bool false, .bool false, .int .i64 a1, .bool false, .bool false, .bool false, .int .i64 a1, .bool false, .bool false, .int .i64 z1, .slice a0_A a0_n a0_c, .int .i64 (a0.length : Int), .bool true, (g 29), (g 30), (g 31), (g 32), (g 33), (g 34), (g 35), (g 36), (g 37), (g 38), (g 39), (g 40), (g 41), (g 42), (g 43), (g 44), (g 45), (g 46), (g 47), (g 48), (g 49), (g 50), (g 51), (g 52), (g 53), (g 54), (g 55), (g 56), (g 57), (g 58), (g 59), (g 60), (g 61), (g 62), (g 63), (g 64), (g 65), (g 66), (g 67), (g 68), (g 69), (g 70), (g 71), (g 72), undef, undef, undef, undef, undef, undef, undef, undef, undef, undef], []⟩) K ⟨0, z3, z3_A, z3_n, z3_c, hy, hs.conv rfl, exg (by kernel_rfl)⟩ ?_
         clear hs h hy
         rintro n a w ⟨z6, z7, z7_A, z7_n, z7_c, h, hs, g, rfl⟩ KL1 kl1
         cases n with
         | zero => exact nomatch (show none = some _ from h)
         | succ n =>
          refine xseq_k fun KS28 ks28 => ?_
          refine xseq_k fun KS29 ks29 => ?_
          refine wp_regS (l := [0, 1]) (by kernel_rfl) (by kernel_rfl) fun KR30 kr30 => ?_
          refine wpS.p 0 31 (.int .i64 z6) (by kernel_rfl) ?_
          rcases of_if h with ⟨hc, h⟩ | ⟨hc, h⟩
          ·refine wpS.take 1 false (some 32) (.bool true) (by kernel_rfl) (yld_b (dt hc) (fun _ => by kernel_rfl)) ?_
           refine wpS.fin rfl (kr30 _ _ ?_)
           refine then_n (ks29 _ _ ?_)
           refine wp_cond_t (by kernel_rfl) ?_
           refine xskip ?_
           refine then_n (ks28 _ _ ?_)
           refine xseq_k fun KS31 ks31 => ?_
           refine xblock ?_
           refine xseq_k fun KS32 ks32 => ?_
           refine xseq_k fun KS33 ks33 => ?_
           refine wp_regS (l := [0, 1, 2, 3, 4, 5, 6, 7, 8, 9, 10, 11, 12, 13, 14, 15]) (by kernel_rfl) (by kernel_rfl) fun KR34 kr34 => ?_
           refine wpS.ps [(0, 35, .slice a0_A a0_n a0_c), (1, 36, .int .i64 z1), (2, 37, .int .i64 z6)] (by kernel_rfl) ?_
           obtain ⟨h0, h⟩ := of_chk h
           obtain ⟨h1, h⟩ := of_chk h
           have i0_35 := h0
           have i1_35 := h1
           refine wpS.take 3 false (some 38) (.pointer (adr a0_A ((z1 : Int).toNat * Cod.size (CA .i32 256 (by decide))))) (by kernel_rfl) (yld_idxL (C := (CA .i32 256 (by decide))) (t := 25) (e := 40) (k := .i64) (x := z1) (hs.rowR 0 rfl) (by kernel_rfl) (by kernel_rfl) (by kernel_rfl) h0 h1) ?_
           obtain ⟨h0, h⟩ := of_chk h
           obtain ⟨h1, h⟩ := of_chk h
           have j0_36 := h0
           have j1_36 := h1
           refine wpS.take 4 false (some 39) (.pointer (adr a0_A ((z1 : Int).toNat * Cod.size (CA .i32 256 (by decide)) + (z6 : Int).toNat * 1))) (by kernel_rfl) (yld_idxLA (t := 40) (e := 21) (k' := .i64) (x := z1) (y := z6) (hs.rowR 0 rfl) (by kernel_rfl) (by kernel_rfl) (by kernel_rfl) i0_35 i1_35 h0 h1) ?_
           refine wpS.take 5 true (some 40) (.int .i32 (rd (rdL (CA .i32 256 (by decide)) a0 z1) z6)) (by kernel_rfl) (yld_loadLE (e := 21) (x := z1) (y := z6) (hs.rowR 0 rfl) (by kernel_rfl) (by kernel_rfl) i0_35 i1_35 j0_36 j1_36) ?_
           rcases of_if h with ⟨hc, h⟩ | ⟨hc, h⟩
           ·refine wpS.take 6 false (some 41) (.bool false) (by kernel_rfl) (yld_b (nf hc) (fun _ => by kernel_rfl)) ?_
            refine wpS.ps [(7, 42, .bool false), (8, 43, undef), (9, 44, undef), (10, 45, undef), (11, 46, undef), (12, 47, undef), (13, 48, undef), (14, 49, undef), (15, 50, .bool false)] (by kernel_rfl) ?_
            refine wpS.fin rfl (kr34 _ _ ?_)
            refine then_n (ks33 _ _ ?_)
            refine wp_cond_f (by kernel_rfl) ?_
            refine xskip ?_
            refine then_n (ks32 _ _ ?_)
            refine xseq_k fun KS37 ks37 => ?_
            refine wp_regS (l := [0, 1, 2, 3, 4, 5, 6]) (by kernel_rfl) (by kernel_rfl) fun KR38 kr38 => ?_
            refine wpS.ps [(0, 51, .slice a0_A a0_n a0_c), (1, 52, .int .i64 z1), (2, 53, .int .i64 z6)] (by kernel_rfl) ?_
            obtain ⟨h0, h⟩ := of_chk h
            obtain ⟨h1, h⟩ := of_chk h
            have i0_39 := h0
            have i1_39 := h1
            refine wpS.take 3 false (some 54) (.pointer (adr a0_A ((z1 : Int).toNat * Cod.size (CA .i32 256 (by decide))))) (by kernel_rfl) (yld_idxL (C := (CA .i32 256 (by decide))) (t := 25) (e := 40) (k := .i64) (x := z1) (hs.rowR 0 rfl) (by kernel_rfl) (by kernel_rfl) (by kernel_rfl) h0 h1) ?_
            obtain ⟨h0, h⟩ := of_chk h
            obtain ⟨h1, h⟩ := of_chk h
            have j0_40 := h0
            have j1_40 := h1
            refine wpS.take 4 false (some 55) (.pointer (adr a0_A ((z1 : Int).toNat * Cod.size (CA .i32 256 (by decide)) + (z6 : Int).toNat * 1))) (by kernel_rfl) (yld_idxLA (t := 40) (e := 21) (k' := .i64) (x := z1) (y := z6) (hs.rowR 0 rfl) (by kernel_rfl) (by kernel_rfl) (by kernel_rfl) i0_39 i1_39 h0 h1) ?_
            refine wpS.take 5 true (some 56) (.int .i32 (rd (rdL (CA .i32 256 (by decide)) a0 z1) z6)) (by kernel_rfl) (yld_loadLE (e := 21) (x := z1) (y := z6) (hs.rowR 0 rfl) (by kernel_rfl) (by kernel_rfl) i0_39 i1_39 j0_40 j1_40) ?_
            rcases of_if h with ⟨hc, h⟩ | ⟨hc, h⟩
            ·refine wpS.take 6 false (some 57) (.bool true) (by kernel_rfl) (yld_b (et hc) (fun _ => by kernel_rfl)) ?_
             refine wpS.fin rfl (kr38 _ _ ?_)
             refine then_n (ks37 _ _ ?_)
             refine wp_cond_t (by kernel_rfl) ?_
             refine wp_regS (l := [0, 1, 2, 3, 4, 5]) (by kernel_rfl) (by kernel_rfl) fun KR41 kr41 => ?_
             refine wpS.ps [(0, 58, .slice z7_A z7_n z7_c), (1, 59, .int .i64 z6), (2, 60, .int .u8 (iconv .u8 z6))] (by kernel_rfl) ?_
             refine wpS.only 3 (op_lit (C := (CI .u8)) (t := 24) (e := 5) (len := 1) (parts := #[(0, .int .u8 (iconv .u8 z6))]) (l := [(iconv .u8 z6)]) (d := (some 61)) (by kernel_rfl) hs (by kernel_rfl) (by kernel_rfl) (by kernel_rfl) (z := .int .u8 0) (by kernel_rfl) rfl (by decide) (by decide) (by kernel_rfl) ?_)
             intro s9_A s9_n s9_c w gw hs
             refine ⟨fun _ => trivial, ?_⟩
             obtain ⟨h0, h⟩ := of_chk h
             refine wpS.only 4 (op_appendT (C := (CI .u8)) (t := 24) (ty := 24) (e := 5) (bytes := 1) (B := 140737488355328) (d := (some 62)) (by kernel_rfl) hs 2 rfl (hs.rowL 0 rfl) (by kernel_rfl) (by kernel_rfl) (by kernel_rfl) (by kernel_rfl) (by kernel_rfl) h0 (by decide) (by decide) ?_)
             intro s10_A s10_n s10_c w hs
             refine ⟨fun _ => trivial, ?_⟩
             refine wpS.p 5 5 (.slice s10_A s10_n s10_c) (by kernel_rfl) ?_
             refine wpS.fin rfl (kr41 _ _ ?_)
             refine inBlock_n ?_
             refine then_n (ks31 _ _ ?_)
             refine wp_regS (l := [0, 1, 2]) (by kernel_rfl) (by kernel_rfl) fun KR42 kr42 => ?_
             refine wpS.ps [(0, 33, .int .i64 z6), (1, 34, .int .i64 (iadd .i64 z6 1))] (by kernel_rfl) ?_
             obtain ⟨x11, hx, h⟩ := of_bind h
             refine wpS.take 2 false (some 8) (.int .i64 x11) (by kernel_rfl) (yld_int hx (fun _ => by kernel_rfl)) ?_
             refine wpS.fin rfl (kr42 _ _ ?_)
             exact then_n (kl1 _ _ ⟨n, Nat.lt_succ_self n, x11, (z7 ++ ([(iconv .u8 z6)] : List Int)), s10_A, s10_n, s10_c, h, (hs.drop (.cons _ (.cons_cons _ (.cons_cons _ .slnil)))), exg (by kernel_rfl)⟩)
            ·refine wpS.take 6 false (some 57) (.bool false) (by kernel_rfl) (yld_b (ef hc) (fun _ => by kernel_rfl)) ?_
             refine wpS.fin rfl (kr38 _ _ ?_)
             refine then_n (ks37 _ _ ?_)
             refine wp_cond_f (by kernel_rfl) ?_
             refine xskip ?_
             refine inBlock_n ?_
             refine then_n (ks31 _ _ ?_)
             refine wp_regS (l := [0, 1, 2]) (by kernel_rfl) (by kernel_rfl) fun KR43 kr43 => ?_
             refine wpS.ps [(0, 33, .int .i64 z6), (1, 34, .int .i64 (iadd .i64 z6 1))] (by kernel_rfl) ?_
             obtain ⟨x12, hx, h⟩ := of_bind h
             refine wpS.take 2 false (some 8) (.int .i64 x12) (by kernel_rfl) (yld_int hx (fun _ => by kernel_rfl)) ?_
             refine wpS.fin rfl (kr43 _ _ ?_)
             exact then_n (kl1 _ _ ⟨n, Nat.lt_succ_self n, x12, z7, z7_A, z7_n, z7_c, h, (hs.conv rfl), exg (by kernel_rfl)⟩)
           ·refine wpS.take 6 false (some 41) (.bool true) (by kernel_rfl) (yld_b (nt hc) (fun _ => by kernel_rfl)) ?_
            refine wpS.ps [(7, 42, .bool true), (8, 43, .slice a0_A a0_n a0_c), (9, 44, .int .i64 z1), (10, 45, .int .i64 z6)] (by kernel_rfl) ?_
            obtain ⟨h0, h⟩ := of_chk h
            obtain ⟨h1, h⟩ := of_chk h
            have i0_44 := h0
            have i1_44 := h1
            refine wpS.take 11 false (some 46) (.pointer (adr a0_A ((z1 : Int).toNat * Cod.size (CA .i32 256 (by decide))))) (by kernel_rfl) (yld_idxL (C := (CA .i32 256 (by decide))) (t := 25) (e := 40) (k := .i64) (x := z1) (hs.rowR 0 rfl) (by kernel_rfl) (by kernel_rfl) (by kernel_rfl) h0 h1) ?_
            obtain ⟨h0, h⟩ := of_chk h
            obtain ⟨h1, h⟩ := of_chk h
            have j0_45 := h0
            have j1_45 := h1
            refine wpS.take 12 false (some 47) (.pointer (adr a0_A ((z1 : Int).toNat * Cod.size (CA .i32 256 (by decide)) + (z6 : Int).toNat * 1))) (by kernel_rfl) (yld_idxLA (t := 40) (e := 21) (k' := .i64) (x := z1) (y := z6) (hs.rowR 0 rfl) (by kernel_rfl) (by kernel_rfl) (by kernel_rfl) i0_44 i1_44 h0 h1) ?_
            refine wpS.take 13 true (some 48) (.int .i32 (rd (rdL (CA .i32 256 (by decide)) a0 z1) z6)) (by kernel_rfl) (yld_loadLE (e := 21) (x := z1) (y := z6) (hs.rowR 0 rfl) (by kernel_rfl) (by kernel_rfl) i0_44 i1_44 j0_45 j1_45) ?_
            rcases of_if h with ⟨hc, h⟩ | ⟨hc, h⟩
            ·refine wpS.take 14 false (some 49) (.bool false) (by kernel_rfl) (yld_b (nf hc) (fun _ => by kernel_rfl)) ?_
             refine wpS.p 15 50 (.bool false) (by kernel_rfl) ?_
             refine wpS.fin rfl (kr34 _ _ ?_)
             refine then_n (ks33 _ _ ?_)
             refine wp_cond_f (by kernel_rfl) ?_
             refine xskip ?_
             refine then_n (ks32 _ _ ?_)
             refine xseq_k fun KS46 ks46 => ?_
             refine wp_regS (l := [0, 1, 2, 3, 4, 5, 6]) (by kernel_rfl) (by kernel_rfl) fun KR47 kr47 => ?_
             refine wpS.ps [(0, 51, .slice a0_A a0_n a0_c), (1, 52, .int .i64 z1), (2, 53, .int .i64 z6)] (by kernel_rfl) ?_
             obtain ⟨h0, h⟩ := of_chk h
             obtain ⟨h1, h⟩ := of_chk h
             have i0_48 := h0
             have i1_48 := h1
             refine wpS.take 3 false (some 54) (.pointer (adr a0_A ((z1 : Int).toNat * Cod.size (CA .i32 256 (by decide))))) (by kernel_rfl) (yld_idxL (C := (CA .i32 256 (by decide))) (t := 25) (e := 40) (k := .i64) (x := z1) (hs.rowR 0 rfl) (by kernel_rfl) (by kernel_rfl) (by kernel_rfl) h0 h1) ?_
             obtain ⟨h0, h⟩ := of_chk h
             obtain ⟨h1, h⟩ := of_chk h
             have j0_49 := h0
             have j1_49 := h1
             refine wpS.take 4 false (some 55) (.pointer (adr a0_A ((z1 : Int).toNat * Cod.size (CA .i32 256 (by decide)) + (z6 : Int).toNat * 1))) (by kernel_rfl) (yld_idxLA (t := 40) (e := 21) (k' := .i64) (x := z1) (y := z6) (hs.rowR 0 rfl) (by kernel_rfl) (by kernel_rfl) (by kernel_rfl) i0_48 i1_48 h0 h1) ?_
             refine wpS.take 5 true (some 56) (.int .i32 (rd (rdL (CA .i32 256 (by decide)) a0 z1) z6)) (by kernel_rfl) (yld_loadLE (e := 21) (x := z1) (y := z6) (hs.rowR 0 rfl) (by kernel_rfl) (by kernel_rfl) i0_48 i1_48 j0_49 j1_49) ?_
             rcases of_if h with ⟨hc, h⟩ | ⟨hc, h⟩
             ·refine wpS.take 6 false (some 57) (.bool true) (by kernel_rfl) (yld_b (et hc) (fun _ => by kernel_rfl)) ?_
              refine wpS.fin rfl (kr47 _ _ ?_)
              refine then_n (ks46 _ _ ?_)
              refine wp_cond_t (by kernel_rfl) ?_
              refine wp_regS (l := [0, 1, 2, 3, 4, 5]) (by kernel_rfl) (by kernel_rfl) fun KR50 kr50 => ?_
              refine wpS.ps [(0, 58, .slice z7_A z7_n z7_c), (1, 59, .int .i64 z6), (2, 60, .int .u8 (iconv .u8 z6))] (by kernel_rfl) ?_
              refine wpS.only 3 (op_lit (C := (CI .u8)) (t := 24) (e := 5) (len := 1) (parts := #[(0, .int .u8 (iconv .u8 z6))]) (l := [(iconv .u8 z6)]) (d := (some 61)) (by kernel_rfl) hs (by kernel_rfl) (by kernel_rfl) (by kernel_rfl) (z := .int .u8 0) (by kernel_rfl) rfl (by decide) (by decide) (by kernel_rfl) ?_)
              intro s13_A s13_n s13_c w gw hs
              refine ⟨fun _ => trivial, ?_⟩
              obtain ⟨h0, h⟩ := of_chk h
              refine wpS.only 4 (op_appendT (C := (CI .u8)) (t := 24) (ty := 24) (e := 5) (bytes := 1) (B := 140737488355328) (d := (some 62)) (by kernel_rfl) hs 2 rfl (hs.rowL 0 rfl) (by kernel_rfl) (by kernel_rfl) (by kernel_rfl) (by kernel_rfl) (by kernel_rfl) h0 (by decide) (by decide) ?_)
              intro s14_A s14_n s14_c w hs
              refine ⟨fun _ => trivial, ?_⟩
              refine wpS.p 5 5 (.slice s14_A s14_n s14_c) (by kernel_rfl) ?_
              refine wpS.fin rfl (kr50 _ _ ?_)
              refine inBlock_n ?_
              refine then_n (ks31 _ _ ?_)
              refine wp_regS (l := [0, 1, 2]) (by kernel_rfl) (by kernel_rfl) fun KR51 kr51 => ?_
              refine wpS.ps [(0, 33, .int .i64 z6), (1, 34, .int .i64 (iadd .i64 z6 1))] (by kernel_rfl) ?_
              obtain ⟨x15, hx, h⟩ := of_bind h
              refine wpS.take 2 false (some 8) (.int .i64 x15) (by kernel_rfl) (yld_int hx (fun _ => by kernel_rfl)) ?_
              refine wpS.fin rfl (kr51 _ _ ?_)
              exact then_n (kl1 _ _ ⟨n, Nat.lt_succ_self n, x15, (z7 ++ ([(iconv .u8 z6)] : List Int)), s14_A, s14_n, s14_c, h, (hs.drop (.cons _ (.cons_cons _ (.cons_cons _ .slnil)))), exg (by kernel_rfl)⟩)
             ·refine wpS.take 6 false (some 57) (.bool false) (by kernel_rfl) (yld_b (ef hc) (fun _ => by kernel_rfl)) ?_
              refine wpS.fin rfl (kr47 _ _ ?_)
              refine then_n (ks46 _ _ ?_)
              refine wp_cond_f (by kernel_rfl) ?_
              refine xskip ?_
              refine inBlock_n ?_
              refine then_n (ks31 _ _ ?_)
              refine wp_regS (l := [0, 1, 2]) (by kernel_rfl) (by kernel_rfl) fun KR52 kr52 => ?_
              refine wpS.ps [(0, 33, .int .i64 z6), (1, 34, .int .i64 (iadd .i64 z6 1))] (by kernel_rfl) ?_
              obtain ⟨x16, hx, h⟩ := of_bind h
              refine wpS.take 2 false (some 8) (.int .i64 x16) (by kernel_rfl) (yld_int hx (fun _ => by kernel_rfl)) ?_
              refine wpS.fin rfl (kr52 _ _ ?_)
              exact then_n (kl1 _ _ ⟨n, Nat.lt_succ_self n, x16, z7, z7_A, z7_n, z7_c, h, (hs.conv rfl), exg (by kernel_rfl)⟩)
            ·refine wpS.take 14 false (some 49) (.bool true) (by kernel_rfl) (yld_b (nt hc) (fun _ => by kernel_rfl)) ?_
             refine wpS.p 15 50 (.bool true) (by kernel_rfl) ?_
             refine wpS.fin rfl (kr34 _ _ ?_)
             refine then_n (ks33 _ _ ?_)
             refine wp_cond_t (by kernel_rfl) ?_
             refine xseq_k fun KS53 ks53 => ?_
             refine wp_regS (l := [0]) (by kernel_rfl) (by kernel_rfl) fun KR54 kr54 => ?_
             refine wpS.p 0 4 (.slice none 0 0) (by kernel_rfl) ?_
             refine wpS.fin rfl (kr54 _ _ ?_)
             refine then_n (ks53 _ _ ?_)
             refine xret ?_
             refine then_r ?_
             refine inBlock_r ?_
             refine then_r ?_
             refine then_r ?_
             refine inBlock_r ?_
             refine exq_r ?_
             refine then_r ?_
             refine inBlock_r ?_
             refine then_r ?_
             refine then_r ?_
             refine inBlock_r ?_
             refine exq_r ?_
             refine then_r ?_
             have q0 := of_some h
             subst q0
             have q0 := of_some hk1
             subst q0
             have q0 := of_some hk0
             subst q0
             have hs := hs.addNilL (CI .u8) 5
             exact qq _ _ (post_ret (by kernel_rfl) (run_results [.tmp 4] [.slice none 0 0] (by kernel_rfl) (.cons (res_tmp (by kernel_rfl)) .nil)) ⟨⟨none, 0, 0⟩, congrArg Ending.returned (by kernel_rfl), ((hs.drop (.cons_cons _ (.cons _ (.cons _ .slnil)))).pickR pick_nil)⟩)
          ·refine wpS.take 1 false (some 32) (.bool false) (by kernel_rfl) (yld_b (df hc) (fun _ => by kernel_rfl)) ?_
           refine wpS.fin rfl (kr30 _ _ ?_)
           refine then_n (ks29 _ _ ?_)
           refine wp_cond_f (by kernel_rfl) ?_
           refine xexit ?_
           refine then_x ?_
           refine then_x ?_
           refine inBlock_hit ?_
           have q0 := of_some h
           subst q0
           exact exq_n (nn1 _ _ ⟨z7, z7_A, z7_n, z7_c, rfl, (hs.conv rfl), exg (by kernel_rfl)⟩)
        ·clear hs h hy
         rintro a w ⟨y8, y8_A, y8_n, y8_c, rfl, hs, g, rfl⟩
         have h := hk1
         refine then_n (ks25 _ _ ?_)
         refine xseq_k fun KS55 ks55 => ?_
         refine xseq_k fun KS56 ks56 => ?_
         refine wp_regS (l := [0, 1, 2, 3]) (by kernel_rfl) (by kernel_rfl) fun KR57 kr57 => ?_
         refine wpS.p 0 63 (.slice y8_A y8_n y8_c) (by kernel_rfl) ?_
         refine wpS.take 1 false (some 64) (.int .i64 (y8.length : Int)) (by kernel_rfl) (yld_lenL (hs.rowL 1 rfl) (fun _ => by kernel_rfl)) ?_
         refine wpS.p 2 65 (.int .i64 a1) (by kernel_rfl) ?_
         rcases of_if h with ⟨hc, h⟩ | ⟨hc, h⟩
         ·refine wpS.take 3 false (some 66) (.bool true) (by kernel_rfl) (yld_b (dt hc) (fun _ => by kernel_rfl)) ?_
          refine wpS.fin rfl (kr57 _ _ ?_)
          refine then_n (ks56 _ _ ?_)
          refine wp_cond_t (by kernel_rfl) ?_
          refine xseq_k fun KS58 ks58 => ?_
          refine wp_regS (l := [0]) (by kernel_rfl) (by kernel_rfl) fun KR59 kr59 => ?_
          refine wpS.p 0 4 (.slice none 0 0) (by kernel_rfl) ?_
          refine wpS.fin rfl (kr59 _ _ ?_)
          refine then_n (ks58 _ _ ?_)
          refine xret ?_
          refine then_r ?_
          refine inBlock_r ?_
          refine then_r ?_
          refine then_r ?_
          refine inBlock_r ?_
          refine exq_r ?_
          refine then_r ?_
          have q0 := of_some h
          subst q0
          have q0 := of_some hk0
          subst q0
          have hs := hs.addNilL (CI .u8) 5
          exact qq _ _ (post_ret (by kernel_rfl) (run_results [.tmp 4] [.slice none 0 0] (by kernel_rfl) (.cons (res_tmp (by kernel_rfl)) .nil)) ⟨⟨none, 0, 0⟩, congrArg Ending.returned (by kernel_rfl), ((hs.drop (.cons_cons _ (.cons _ (.cons _ .slnil)))).pickR pick_nil)⟩)
         ·refine wpS.take 3 false (some 66) (.bool false) (by kernel_rfl) (yld_b (df hc) (fun _ => by kernel_rfl)) ?_
          refine wpS.fin rfl (kr57 _ _ ?_)
          refine then_n (ks56 _ _ ?_)
          refine wp_cond_f (by kernel_rfl) ?_
          refine xskip ?_
          refine then_n (ks55 _ _ ?_)
          refine wp_regS (l := [0, 1, 2, 3, 4, 5, 6]) (by kernel_rfl) (by kernel_rfl) fun KR60 kr60 => ?_
          refine wpS.ps [(0, 67, .slice z2_A z2_n z2_c), (1, 68, .slice y8_A y8_n y8_c)] (by kernel_rfl) ?_
          refine wpS.take 2 false (some 69) (.int .i64 (y8.length : Int)) (by kernel_rfl) (yld_lenL (hs.rowL 1 rfl) (fun _ => by kernel_rfl)) ?_
          refine wpS.p 3 70 (.int .u8 (iconv .u8 (y8.length : Int))) (by kernel_rfl) ?_
          refine wpS.only 4 (op_lit (C := (CI .u8)) (t := 24) (e := 5) (len := 1) (parts := #[(0, .int .u8 (iconv .u8 (y8.length : Int)))]) (l := [(iconv .u8 (y8.length : Int))]) (d := (some 71)) (by kernel_rfl) hs (by kernel_rfl) (by kernel_rfl) (by kernel_rfl) (z := .int .u8 0) (by kernel_rfl) rfl (by decide) (by decide) (by kernel_rfl) ?_)
          intro s17_A s17_n s17_c w gw hs
          refine ⟨fun _ => trivial, ?_⟩
          obtain ⟨h0, h⟩ := of_chk h
          refine wpS.only 5 (op_appendT (C := (CI .u8)) (t := 24) (ty := 24) (e := 5) (bytes := 1) (B := 140737488355328) (d := (some 72)) (by kernel_rfl) hs 1 rfl (hs.rowL 0 rfl) (by kernel_rfl) (by kernel_rfl) (by kernel_rfl) (by kernel_rfl) (by kernel_rfl) h0 (by decide) (by decide) ?_)
          intro s18_A s18_n s18_c w hs
          refine ⟨fun _ => trivial, ?_⟩
          refine wpS.p 6 6 (.slice s18_A s18_n s18_c) (by kernel_rfl) ?_
          refine wpS.fin rfl (kr60 _ _ ?_)
          refine inBlock_n ?_
          refine then_n (ks24 _ _ ?_)
          refine wp_regS (l := [0, 1, 2]) (by kernel_rfl) (by kernel_rfl) fun KR61 kr61 => ?_
          refine wpS.ps [(0, 29, .int .i64 z1), (1, 30, .int .i64 (iadd .i64 z1 1))] (by kernel_rfl) ?_
          obtain ⟨x19, hx, h⟩ := of_bind h
          refine wpS.take 2 false (some 7) (.int .i64 x19) (by kernel_rfl) (yld_int hx (fun _ => by kernel_rfl)) ?_
          refine wpS.fin rfl (kr61 _ _ ?_)
          exact then_n (kl0 _ _ ⟨n, Nat.lt_succ_self n, x19, (z2 ++ ([(iconv .u8 (y8.length : Int))] : List Int)), y8, s18_A, s18_n, s18_c, y8_A, y8_n, y8_c, h, (hs.drop (.cons _ (.cons_cons _ (.cons_cons _ .slnil)))), exg (by kernel_rfl)⟩)
       ·refine wpS.take 3 false (some 28) (.bool false) (by kernel_rfl) (yld_b (df hc) (fun _ => by kernel_rfl)) ?_
        refine wpS.fin rfl (kr23 _ _ ?_)
        refine then_n (ks22 _ _ ?_)
        refine wp_cond_f (by kernel_rfl) ?_
        refine xexit ?_
        refine then_x ?_
        refine then_x ?_
        refine inBlock_hit ?_
        have q0 := of_some h
        subst q0
        exact exq_n (nn0 _ _ ⟨z2, z3, z2_A, z2_n, z2_c, z3_A, z3_n, z3_c, rfl, (hs.conv rfl), exg (by kernel_rfl)⟩)
     ·clear hs h hy
      rintro a w ⟨y4, y5, y4_A, y4_n, y4_c, y5_A, y5_n, y5_c, rfl, hs, g, rfl⟩
      have h := hk0
      refine then_n (ks18 _ _ ?_)
      refine xseq_k fun KS62 ks62 => ?_
      obtain ⟨y21, hy, hk2⟩ := of_bind h
      refine wp_exq (N := fun a w => ∃ (y21_A : Option Addr) (y21_n : Nat) (y21_c : Nat), St w0 [] [.ownL (CI .u8) y4_A y4_n y4_c y4 5, .ownL (CI .u8) y21_A y21_n y21_c y21 5] [.rowL (CA .i32 256 (by decide)) a0_A a0_n a0_c a0] w ∧ ∃ g : Nat → Value, a = ⟨#[.slice a0_A a0_n a0_c, .int .i64 a1, undef, undef, (g 4), .slice y21_A y21_n y21_c, .slice y4_A y4_n y4_c, (g 7), (g 8), .slice a0_A a0_n a0_c, .int .i64 (a0.length : Int), .bool false, .bool false, .slice a0_A a0_n a0_c, .int .i64 (a0.length : Int), .bool false, .bool false, .bool false, .int .i64 a1, .bool false, .bool false, .bool false, .int .i64 a1, .bool false, .bool false, (g 25), (g 26), (g 27), (g 28), (g 29), (g 30), (g 31), (g 32), (g 33), (g 34), (g 35), (g 36), (g 37), (g 38), (g 39), (g 40), (g 41), (g 42), (g 43), (g 44), (g 45), (g 46), (g 47), (g 48), (g 49), (g 50), (g 51), (g 52), (g 53), (g 54), (g 55), (g 56), (g 57), (g 58), (g 59), (g 60), (g 61), (g 62), (g 63), (g 64), (g 65), (g 66), (g 67), (g 68), (g 69), (g 70), (g 71), (g 72), (g 73), (g 74), (g 75), (g 76), (g 77), (g 78), (g 79), undef, undef, undef], []⟩) (fun N2 nn2 => ?_) ?_
      ·clear hk2
       refine xblock ?_
       refine wp_loop_k (fun n a w => ∃ z20, ∃ (z20_A : Option Addr) (z20_n : Nat) (z20_c : Nat), ref22_Hints.l2 K n a1 z20 = some y21 ∧ St w0 [] [.ownL (CI .u8) y4_A y4_n y4_c y4 5, .ownL (CI .u8) z20_A z20_n z20_c z20 5] [.rowL (CA .i32 256 (by decide)) a0_A a0_n a0_c a0] w ∧ ∃ g : Nat → Value, a = ⟨#[.slice a0_A a0_n a0_c, .int .i64 a1, undef, undef, (g 4), .slice z20_A z20_n z20_c, .slice y4_A y4_n y4_c, (g 7), (g 8), .slice a0_A a0_n a0_c, .int .i64 (a0.length : Int), .bool false, .bool false, .slice a0_A a0_n a0_c, .int .i64 (a0.length : Int), .bool false, .bool false, .bool false, .int .i64 a1, .bool false, .bool false, .bool false, .int .i64 a1, .bool false, .bool false, (g 25), (g 26), (g 27), (g 28), (g 29), (g 30), (g 31), (g 32), (g 33), (g 34), (g 35), (g 36), (g 37), (g 38), (g 39), (g 40), (g 41), (g 42), (g 43), (g 44), (g 45), (g 46), (g 47), (g 48), (g 49), (g 50), (g 51), (g 52), (g 53), (g 54), (g 55), (g 56), (g 57), (g 58), (g 59), (g 60), (g 61), (g 62), (g 63), (g 64), (g 65), (g 66), (g 67), (g 68), (g 69), (g 70), (g 71), (g 72), (g 73), (g 74), (g 75), (g 76), (g 77), (g 78), (g 79), undef, undef, undef], []⟩) K ⟨y5, y5_A, y5_n, y5_c, hy, hs.conv rfl, exg (by kernel_rfl)⟩ ?_
       clear hs h hy
       rintro n a w ⟨z20, z20_A, z20_n, z20_c, h, hs, g, rfl⟩ KL2 kl2
       cases n with
       | zero => exact nomatch (show none = some _ from h)
       | succ n =>
        refine xseq_k fun KS63 ks63 => ?_
        refine xseq_k fun KS64 ks64 => ?_
        refine wp_regS (l := [0, 1, 2, 3]) (by kernel_rfl) (by kernel_rfl) fun KR65 kr65 => ?_
        refine wpS.p 0 73 (.slice z20_A z20_n z20_c) (by kernel_rfl) ?_
        refine wpS.take 1 false (some 74) (.int .i64 (z20.length : Int)) (by kernel_rfl) (yld_lenL (hs.rowL 1 rfl) (fun _ => by kernel_rfl)) ?_
        refine wpS.p 2 75 (.int .i64 a1) (by kernel_rfl) ?_
        rcases of_if h with ⟨hc, h⟩ | ⟨hc, h⟩
        ·refine wpS.take 3 false (some 76) (.bool true) (by kernel_rfl) (yld_b (dt hc) (fun _ => by kernel_rfl)) ?_
         refine wpS.fin rfl (kr65 _ _ ?_)
         refine then_n (ks64 _ _ ?_)
         refine wp_cond_t (by kernel_rfl) ?_
         refine xskip ?_
         refine then_n (ks63 _ _ ?_)
         refine xblock ?_
         refine wp_regS (l := [0, 1, 2, 3]) (by kernel_rfl) (by kernel_rfl) fun KR66 kr66 => ?_
         refine wpS.p 0 77 (.slice z20_A z20_n z20_c) (by kernel_rfl) ?_
         refine wpS.only 1 (op_lit (C := (CI .u8)) (t := 24) (e := 5) (len := 1) (parts := #[(0, .int .u8 0)]) (l := [0]) (d := (some 78)) (by kernel_rfl) hs (by kernel_rfl) (by kernel_rfl) (by kernel_rfl) (z := .int .u8 0) (by kernel_rfl) rfl (by decide) (by decide) (by kernel_rfl) ?_)
         intro s22_A s22_n s22_c w gw hs
         refine ⟨fun _ => trivial, ?_⟩
         obtain ⟨h0, h⟩ := of_chk h
         refine wpS.only 2 (op_appendT (C := (CI .u8)) (t := 24) (ty := 24) (e := 5) (bytes := 1) (B := 140737488355328) (d := (some 79)) (by kernel_rfl) hs 2 rfl (hs.rowL 0 rfl) (by kernel_rfl) (by kernel_rfl) (by kernel_rfl) (by kernel_rfl) (by kernel_rfl) h0 (by decide) (by decide) ?_)
         intro s23_A s23_n s23_c w hs
         refine ⟨fun _ => trivial, ?_⟩
         refine wpS.p 3 5 (.slice s23_A s23_n s23_c) (by kernel_rfl) ?_
         refine wpS.fin rfl (kr66 _ _ ?_)
         refine inBlock_n ?_
         exact then_n (kl2 _ _ ⟨n, Nat.lt_succ_self n, (z20 ++ ([0] : List Int)), s23_A, s23_n, s23_c, h, (hs.drop (.cons _ (.cons_cons _ (.cons_cons _ .slnil)))), exg (by kernel_rfl)⟩)
        ·refine wpS.take 3 false (some 76) (.bool false) (by kernel_rfl) (yld_b (df hc) (fun _ => by kernel_rfl)) ?_
         refine wpS.fin rfl (kr65 _ _ ?_)
         refine then_n (ks64 _ _ ?_)
         refine wp_cond_f (by kernel_rfl) ?_
         refine xexit ?_
         refine then_x ?_
         refine then_x ?_
         refine inBlock_hit ?_
         have q0 := of_some h
         subst q0
         exact exq_n (nn2 _ _ ⟨z20_A, z20_n, z20_c, (hs.conv rfl), exg (by kernel_rfl)⟩)
      ·clear hs h hy
       rintro a w ⟨y21_A, y21_n, y21_c, hs, g, rfl⟩
       have h := hk2
       refine then_n (ks62 _ _ ?_)
       refine xseq_k fun KS67 ks67 => ?_
       refine wp_regS (l := [0, 1, 2, 3]) (by kernel_rfl) (by kernel_rfl) fun KR68 kr68 => ?_
       refine wpS.ps [(0, 80, .slice y21_A y21_n y21_c), (1, 81, .slice y4_A y4_n y4_c)] (by kernel_rfl) ?_
       obtain ⟨h0, h⟩ := of_chk h
       refine wpS.only 2 (op_appendT (C := (CI .u8)) (t := 24) (ty := 24) (e := 5) (bytes := 1) (B := 140737488355328) (d := (some 82)) (by kernel_rfl) hs 1 rfl (hs.rowL 0 rfl) (by kernel_rfl) (by kernel_rfl) (by kernel_rfl) (by kernel_rfl) (by kernel_rfl) h0 (by decide) (by decide) ?_)
       intro s24_A s24_n s24_c w hs
       refine ⟨fun _ => trivial, ?_⟩
       refine wpS.p 3 4 (.slice s24_A s24_n s24_c) (by kernel_rfl) ?_
       refine wpS.fin rfl (kr68 _ _ ?_)
       refine then_n (ks67 _ _ ?_)
       refine xret ?_
       have q0 := of_some h
       subst q0
       exact qq _ _ (post_ret (by kernel_rfl) (run_results [.tmp 4] [.slice s24_A s24_n s24_c] (by kernel_rfl) (.cons (res_tmp (by kernel_rfl)) .nil)) ⟨⟨s24_A, s24_n, s24_c⟩, congrArg Ending.returned (by kernel_rfl), ((hs.drop (.cons _ (.cons_cons _ .slnil))).pickR pick_nil)⟩)
end Go.Proofs.Ytblploekkjeolaa
