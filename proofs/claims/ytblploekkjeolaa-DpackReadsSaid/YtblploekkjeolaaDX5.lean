/- Printed by this work's own program: the code of each function below comes to the answer that its plain form tells. -/
import Derived.Test.YtblploekkjeolaaMv
import Derived.Test.YtblploekkjeolaaProg
import Derived.Test.YtblploekkjeolaaDF0
import Derived.Test.YtblploekkjeolaaDX0
import Derived.Test.YtblploekkjeolaaDX4
set_option linter.unusedVariables false
set_option linter.unusedSimpArgs false
set_option maxRecDepth 100000
set_option maxHeartbeats 4000000
namespace Go.Proofs.Ytblploekkjeolaa
open Go.Mx
attribute [local irreducible] wpOp

theorem ref22_Unhints.ok {K : Nat} {a0 : List Int} {a1 : Int} {a2 : Int} {r0 : List (Arr 256)} {r1 : Bool} {a0_A : Option Addr} {a0_n : Nat} {a0_c : Nat} (h : ref22_Unhints.f K a0 a1 a2 = some (r0, r1)) (w0 : World) (hp0 : RowL (CI .u8) w0 a0_A a0_n a0_c a0) : Calls Try.prog 23 #[.slice a0_A a0_n a0_c, .int .i64 a1, .int .i64 a2] w0 fun e w' => ∃ h : (Option Addr × Nat × Nat), e = .returned (.tuple #[.slice h.1 h.2.1 h.2.2, .bool r1]) ∧ St w0 [] [.ownL (CA .i32 256 (by decide)) h.1 h.2.1 h.2.2 r0 40] [] w' := by
 refine calls_k Try.func23 rfl fun Q qq => ?_
 have hs := St.startR (all_cons (RowP.ent hp0) all_nil)
 refine wp_conv (a' := ⟨#[.slice a0_A a0_n a0_c, .int .i64 a1, .int .i64 a2, undef, undef, undef, undef, undef, undef, undef, undef, undef, undef, undef, undef, undef, undef, undef, undef, undef, undef, undef, undef, undef, undef, undef, undef, undef, undef, undef, undef, undef, undef, undef, undef, undef, undef, undef, undef, undef, undef, undef, undef, undef, undef, undef, undef, undef, undef, undef, undef, undef, undef, undef, undef, undef, undef, undef, undef, undef, undef, undef, undef, undef, undef, undef, undef, undef, undef, undef, undef], []⟩) (by kernel_rfl) ?_
 refine xseq_k fun KS1 ks1 => ?_
 refine wp_regS (l := [0, 1]) (by kernel_rfl) (by kernel_rfl) fun KR2 kr2 => ?_
 refine wpS.ps [(0, 6, .slice none 0 0), (1, 7, .bool false)] (by kernel_rfl) ?_
 refine wpS.fin rfl (kr2 _ _ ?_)
 refine then_n (ks1 _ _ ?_)
 refine xseq_k fun KS3 ks3 => ?_
 refine xseq_k fun KS4 ks4 => ?_
 refine wp_regS (l := [0, 1, 2, 3, 4, 5, 6, 7, 8, 9, 10, 11, 12, 13, 14, 15, 16, 17, 18, 19, 20, 21]) (by kernel_rfl) (by kernel_rfl) fun KR5 kr5 => ?_
 refine wpS.p 0 11 (.int .i64 a1) (by kernel_rfl) ?_
 rcases of_if h with ⟨hc, h⟩ | ⟨hc, h⟩
 ·refine wpS.take 1 false (some 12) (.bool true) (by kernel_rfl) (yld_b (dt hc) (fun _ => by kernel_rfl)) ?_
  refine wpS.ps [(2, 13, .bool true), (3, 14, undef), (4, 15, undef), (5, 16, .bool true), (6, 17, .bool true), (7, 18, undef), (8, 19, undef), (9, 20, .bool true), (10, 21, .bool true), (11, 22, undef), (12, 23, undef), (13, 24, .bool true), (14, 25, .bool true), (15, 26, undef), (16, 27, undef), (17, 28, undef), (18, 29, undef), (19, 30, undef), (20, 31, undef), (21, 32, .bool true)] (by kernel_rfl) ?_
  refine wpS.fin rfl (kr5 _ _ ?_)
  refine then_n (ks4 _ _ ?_)
  refine wp_cond_t (by kernel_rfl) ?_
  refine xseq_k fun KS6 ks6 => ?_
  refine wp_regS (l := [0, 1]) (by kernel_rfl) (by kernel_rfl) fun KR7 kr7 => ?_
  refine wpS.ps [(0, 6, .slice none 0 0), (1, 7, .bool false)] (by kernel_rfl) ?_
  refine wpS.fin rfl (kr7 _ _ ?_)
  refine then_n (ks6 _ _ ?_)
  refine xret ?_
  refine then_r ?_
  obtain ⟨q0, qr0⟩ := Prod.mk.inj (of_some h)
  have q1 := qr0
  subst q0
  subst q1
  have hs := hs.addNilL (CA .i32 256 (by decide)) 40
  exact qq _ _ (post_ret (by kernel_rfl) (run_results [.tmp 6, .tmp 7] [.slice none 0 0, .bool false] (by kernel_rfl) (.cons (res_tmp (by kernel_rfl)) (.cons (res_tmp (by kernel_rfl)) .nil))) ⟨⟨none, 0, 0⟩, congrArg Ending.returned (by kernel_rfl), (hs.pickR pick_nil)⟩)
 ·refine wpS.take 1 false (some 12) (.bool false) (by kernel_rfl) (yld_b (df hc) (fun _ => by kernel_rfl)) ?_
  refine wpS.ps [(2, 13, .bool false), (3, 14, .int .i64 a1)] (by kernel_rfl) ?_
  rcases of_if h with ⟨hc, h⟩ | ⟨hc, h⟩
  ·refine wpS.take 4 false (some 15) (.bool true) (by kernel_rfl) (yld_b (dt hc) (fun _ => by kernel_rfl)) ?_
   refine wpS.ps [(5, 16, .bool true), (6, 17, .bool true), (7, 18, undef), (8, 19, undef), (9, 20, .bool true), (10, 21, .bool true), (11, 22, undef), (12, 23, undef), (13, 24, .bool true), (14, 25, .bool true), (15, 26, undef), (16, 27, undef), (17, 28, undef), (18, 29, undef), (19, 30, undef), (20, 31, undef), (21, 32, .bool true)] (by kernel_rfl) ?_
   refine wpS.fin rfl (kr5 _ _ ?_)
   refine then_n (ks4 _ _ ?_)
   refine wp_cond_t (by kernel_rfl) ?_
   refine xseq_k fun KS8 ks8 => ?_
   refine wp_regS (l := [0, 1]) (by kernel_rfl) (by kernel_rfl) fun KR9 kr9 => ?_
   refine wpS.ps [(0, 6, .slice none 0 0), (1, 7, .bool false)] (by kernel_rfl) ?_
   refine wpS.fin rfl (kr9 _ _ ?_)
   refine then_n (ks8 _ _ ?_)
   refine xret ?_
   refine then_r ?_
   obtain ⟨q0, qr0⟩ := Prod.mk.inj (of_some h)
   have q1 := qr0
   subst q0
   subst q1
   have hs := hs.addNilL (CA .i32 256 (by decide)) 40
   exact qq _ _ (post_ret (by kernel_rfl) (run_results [.tmp 6, .tmp 7] [.slice none 0 0, .bool false] (by kernel_rfl) (.cons (res_tmp (by kernel_rfl)) (.cons (res_tmp (by kernel_rfl)) .nil))) ⟨⟨none, 0, 0⟩, congrArg Ending.returned (by kernel_rfl), (hs.pickR pick_nil)⟩)
  ·refine wpS.take 4 false (some 15) (.bool false) (by kernel_rfl) (yld_b (df hc) (fun _ => by kernel_rfl)) ?_
   refine wpS.ps [(5, 16, .bool false), (6, 17, .bool false), (7, 18, .int .i64 a2)] (by kernel_rfl) ?_
   rcases of_if h with ⟨hc, h⟩ | ⟨hc, h⟩
   ·refine wpS.take 8 false (some 19) (.bool true) (by kernel_rfl) (yld_b (dt hc) (fun _ => by kernel_rfl)) ?_
    refine wpS.ps [(9, 20, .bool true), (10, 21, .bool true), (11, 22, undef), (12, 23, undef), (13, 24, .bool true), (14, 25, .bool true), (15, 26, undef), (16, 27, undef), (17, 28, undef), (18, 29, undef), (19, 30, undef), (20, 31, undef), (21, 32, .bool true)] (by kernel_rfl) ?_
    refine wpS.fin rfl (kr5 _ _ ?_)
    refine then_n (ks4 _ _ ?_)
    refine wp_cond_t (by kernel_rfl) ?_
    refine xseq_k fun KS10 ks10 => ?_
    refine wp_regS (l := [0, 1]) (by kernel_rfl) (by kernel_rfl) fun KR11 kr11 => ?_
    refine wpS.ps [(0, 6, .slice none 0 0), (1, 7, .bool false)] (by kernel_rfl) ?_
    refine wpS.fin rfl (kr11 _ _ ?_)
    refine then_n (ks10 _ _ ?_)
    refine xret ?_
    refine then_r ?_
    obtain ⟨q0, qr0⟩ := Prod.mk.inj (of_some h)
    have q1 := qr0
    subst q0
    subst q1
    have hs := hs.addNilL (CA .i32 256 (by decide)) 40
    exact qq _ _ (post_ret (by kernel_rfl) (run_results [.tmp 6, .tmp 7] [.slice none 0 0, .bool false] (by kernel_rfl) (.cons (res_tmp (by kernel_rfl)) (.cons (res_tmp (by kernel_rfl)) .nil))) ⟨⟨none, 0, 0⟩, congrArg Ending.returned (by kernel_rfl), (hs.pickR pick_nil)⟩)
   ·refine wpS.take 8 false (some 19) (.bool false) (by kernel_rfl) (yld_b (df hc) (fun _ => by kernel_rfl)) ?_
    refine wpS.ps [(9, 20, .bool false), (10, 21, .bool false), (11, 22, .int .i64 a2)] (by kernel_rfl) ?_
    rcases of_if h with ⟨hc, h⟩ | ⟨hc, h⟩
    ·refine wpS.take 12 false (some 23) (.bool true) (by kernel_rfl) (yld_b (dt hc) (fun _ => by kernel_rfl)) ?_
     refine wpS.ps [(13, 24, .bool true), (14, 25, .bool true), (15, 26, undef), (16, 27, undef), (17, 28, undef), (18, 29, undef), (19, 30, undef), (20, 31, undef), (21, 32, .bool true)] (by kernel_rfl) ?_
     refine wpS.fin rfl (kr5 _ _ ?_)
     refine then_n (ks4 _ _ ?_)
     refine wp_cond_t (by kernel_rfl) ?_
     refine xseq_k fun KS12 ks12 => ?_
     refine wp_regS (l := [0, 1]) (by kernel_rfl) (by kernel_rfl) fun KR13 kr13 => ?_
     refine wpS.ps [(0, 6, .slice none 0 0), (1, 7, .bool false)] (by kernel_rfl) ?_
     refine wpS.fin rfl (kr13 _ _ ?_)
     refine then_n (ks12 _ _ ?_)
     refine xret ?_
     refine then_r ?_
     obtain ⟨q0, qr0⟩ := Prod.mk.inj (of_some h)
     have q1 := qr0
     subst q0
     subst q1
     have hs := hs.addNilL (CA .i32 256 (by decide)) 40
     exact qq _ _ (post_ret (by kernel_rfl) (run_results [.tmp 6, .tmp 7] [.slice none 0 0, .bool false] (by kernel_rfl) (.cons (res_tmp (by kernel_rfl)) (.cons (res_tmp (by kernel_rfl)) .nil))) ⟨⟨none, 0, 0⟩, congrArg Ending.returned (by kernel_rfl), (hs.pickR pick_nil)⟩)
    ·refine wpS.take 12 false (some 23) (.bool false) (by kernel_rfl) (yld_b (df hc) (fun _ => by kernel_rfl)) ?_
     refine wpS.ps [(13, 24, .bool false), (14, 25, .bool false), (15, 26, .slice a0_A a0_n a0_c)] (by kernel_rfl) ?_
     refine wpS.take 16 false (some 27) (.int .i64 (a0.length : Int)) (by kernel_rfl) (yld_lenL (hs.rowR 0 rfl) (fun _ => by kernel_rfl)) ?_
     refine wpS.ps [(17, 28, .int .i64 a1), (18, 29, .int .i64 a2), (19, 30, .int .i64 (iadd .i64 a1 a2))] (by kernel_rfl) ?_
     rcases of_if h with ⟨hc, h⟩ | ⟨hc, h⟩
     ·refine wpS.take 20 false (some 31) (.bool false) (by kernel_rfl) (yld_b (nf hc) (fun _ => by kernel_rfl)) ?_
      refine wpS.p 21 32 (.bool false) (by kernel_rfl) ?_
      refine wpS.fin rfl (kr5 _ _ ?_)
      refine then_n (ks4 _ _ ?_)
      refine wp_cond_f (by kernel_rfl) ?_
      refine xskip ?_
      refine then_n (ks3 _ _ ?_)
      refine xseq_k fun KS14 ks14 => ?_
      refine wp_regS (l := [0, 1, 2]) (by kernel_rfl) (by kernel_rfl) fun KR15 kr15 => ?_
      refine wpS.p 0 33 (.int .i64 a1) (by kernel_rfl) ?_
      obtain ⟨h0, h⟩ := of_chk h
      obtain ⟨h1, h⟩ := of_chk h
      refine wpS.only 1 (op_makeT (C := (CA .i32 256 (by decide))) (t := 25) (e := 40) (bytes := 1024) (B := 137438953472) (kl := .i64) (kc := .i64) (x := a1) (d := (some 34)) (by kernel_rfl) hs (by kernel_rfl) (by kernel_rfl) (by kernel_rfl) (by kernel_rfl) (by kernel_rfl) h0 h1 (by decide) (by decide) ?_)
      intro s1_A s1_n s1_c w gw hs
      refine ⟨fun _ => trivial, ?_⟩
      refine wpS.p 2 8 (.slice s1_A s1_n s1_c) (by kernel_rfl) ?_
      refine wpS.fin rfl (kr15 _ _ ?_)
      refine then_n (ks14 _ _ ?_)
      refine xseq_k fun KS16 ks16 => ?_
      refine wp_regS (l := [0]) (by kernel_rfl) (by kernel_rfl) fun KR17 kr17 => ?_
      refine wpS.p 0 9 (.int .i64 0) (by kernel_rfl) ?_
      refine wpS.fin rfl (kr17 _ _ ?_)
      refine then_n (ks16 _ _ ?_)
      refine xseq_k fun KS18 ks18 => ?_
      refine xseq_k fun KS19 ks19 => ?_
      refine wp_regS (l := [0]) (by kernel_rfl) (by kernel_rfl) fun KR20 kr20 => ?_
      refine wpS.p 0 10 (.int .i64 0) (by kernel_rfl) ?_
      refine wpS.fin rfl (kr20 _ _ ?_)
      refine then_n (ks19 _ _ ?_)
      obtain ⟨y5, hy, hk0⟩ := of_bind h
      refine wp_exq (N := fun a w => St w0 [] [.ownL (CA .i32 256 (by decide)) s1_A s1_n s1_c y5 40] [.rowL (CI .u8) a0_A a0_n a0_c a0] w ∧ ∃ g : Nat → Value, a = ⟨#[.slice a0_A a0_n a0_c, .int .i64 a1, .int .i64 a2, undef, undef, undef, .slice none 0 0, .bool false, .slice s1_A s1_n s1_c, (g 9), (g 10), .int .i64 a1, .bool false, .bool false, .int .i64 a1, .bool false, .bool false, .bool false, .int .i64 a2, .bool false, .bool false, .bool false, .int .i64 a2, .bool false, .bool false, .bool false, .slice a0_A a0_n a0_c, .int .i64 (a0.length : Int), .int .i64 a1, .int .i64 a2, .int .i64 (iadd .i64 a1 a2), .bool false, .bool false, .int .i64 a1, .slice s1_A s1_n s1_c, (g 35), (g 36), (g 37), (g 38), (g 39), (g 40), (g 41), (g 42), (g 43), (g 44), (g 45), (g 46), (g 47), (g 48), (g 49), (g 50), (g 51), (g 52), (g 53), (g 54), (g 55), (g 56), (g 57), (g 58), (g 59), (g 60), (g 61), (g 62), (g 63), undef, undef, undef, undef, undef, undef, undef], []⟩) (fun N0 nn0 => ?_) ?_
      ·clear hk0
       refine xblock ?_
       refine wp_loop_k (fun n a w => ∃ z2 z3 z4, ref22_Unhints.l0 K n a0 a1 a2 z2 z3 z4 = some y5 ∧ St w0 [] [.ownL (CA .i32 256 (by decide)) s1_A s1_n s1_c z4 40] [.rowL (CI .u8) a0_A a0_n a0_c a0] w ∧ ∃ g : Nat → Value, a = ⟨#[.slice a0_A a0_n a0_c, .int .i64 a1, .int .i64 a2, undef, undef, undef, .slice none 0 0, .bool false, .slice s1_A s1_n s1_c, .int .i64 z2, .int .i64 z3, .int .i64 a1, .bool false, .bool false, .int .i64 a1, .bool false, .bool false, .bool false, .int .i64 a2, .bool false, .bool false, .bool false, .int .i64 a2, .bool false, .bool false, .bool false, .slice a0_A a0_n a0_c, .int .i64 (a0.length : Int), .int .i64 a1, .int .i64 a2, .int .i64 (iadd .i64 a1 a2), .bool false, .bool false, .int .i64 a1, .slice s1_A s1_n s1_c, (g 35), (g 36), (g 37), (g 38), (g 39), (g 40), (g 41), (g 42), (g 43), (g 44), (g 45), (g 46), (g 47), (g 48), (g 49), (g 50), (g 51), (g 52), (g 53), (g 54), (g 55), (g 56), (g 57), (g 58), (g 59), (g 60), (g 61), (g 62), (g 63), undef, undef, undef, undef, undef, undef, undef], []⟩) K ⟨0, 0, (List.replicate (a1 : Int).toNat (Cod.zero (CA .i32 256 (by decide)))), hy, hs.conv rfl, exg (by kernel_rfl)⟩ ?_
       clear hs h hy
       rintro n a w ⟨z2, z3, z4, h, hs, g, rfl⟩ KL0 kl0
       cases n with
       | zero => exact nomatch (show none = some _ from h)
       | succ n =>
        refine xseq_k fun KS21 ks21 => ?_
        refine xseq_k fun KS22 ks22 => ?_
        refine wp_regS (l := [0, 1, 2]) (by kernel_rfl) (by kernel_rfl) fun KR23 kr23 => ?_
        refine wpS.ps [(0, 35, .int .i64 z3), (1, 36, .int .i64 a1)] (by kernel_rfl) ?_
        rcases of_if h with ⟨hc, h⟩ | ⟨hc, h⟩
        ·refine wpS.take 2 false (some 37) (.bool true) (by kernel_rfl) (yld_b (dt hc) (fun _ => by kernel_rfl)) ?_
         refine wpS.fin rfl (kr23 _ _ ?_)
         refine then_n (ks22 _ _ ?_)
         refine wp_cond_t (by kernel_rfl) ?_
         refine xskip ?_
         refine then_n (ks21 _ _ ?_)
         refine xseq_k fun KS24 ks24 => ?_
         refine xblock ?_
         obtain ⟨⟨y8, y9⟩, hy, hk1⟩ := of_bind h
         refine wp_exq (N := fun a w => St w0 [] [.ownL (CA .i32 256 (by decide)) s1_A s1_n s1_c y9 40] [.rowL (CI .u8) a0_A a0_n a0_c a0] w ∧ ∃ g : Nat → Value, a = ⟨#[.slice a0_A a0_n a0_c, .int .i64 a1, .int .i64 a2, undef, undef, undef, .slice none 0 0, .bool false, .slice s1_A s1_n s1_c, .int .i64 y8, .int .i64 z3, .int .i64 a1, .bool false, .bool false, .int .i64 a1, .bool false, .bool false, .bool false, .int .i64 a2, .bool false, .bool false, .bool false, .int .i64 a2, .bool false, .bool false, .bool false, .slice a0_A a0_n a0_c, .int .i64 (a0.length : Int), .int .i64 a1, .int .i64 a2, .int .i64 (iadd .i64 a1 a2), .bool false, .bool false, .int .i64 a1, .slice s1_A s1_n s1_c, .int .i64 z3, .int .i64 a1, .bool true, (g 38), (g 39), (g 40), (g 41), (g 42), (g 43), (g 44), (g 45), (g 46), (g 47), (g 48), (g 49), (g 50), (g 51), (g 52), (g 53), (g 54), (g 55), (g 56), (g 57), (g 58), (g 59), (g 60), (g 61), (g 62), (g 63), undef, undef, undef, undef, undef, undef, undef], []⟩) (fun N1 nn1 => ?_) ?_
         ·clear hk1
          refine xblock ?_
          refine wp_loop_k (fun n a w => ∃ z6 z7, ref22_Unhints.l1 K n a0 a2 z3 z6 z7 = some (y8, y9) ∧ St w0 [] [.ownL (CA .i32 256 (by decide)) s1_A s1_n s1_c z7 40] [.rowL (CI .u8) a0_A a0_n a0_c a0] w ∧ ∃ g : Nat → Value, a = ⟨#[.slice a0_A a0_n a0_c, .int .i64 a1, .int .i64 a2, undef, undef, undef, .slice none 0 0, .bool false, .slice s1_A s1_n s1_c, .int .i64 z6, .int .i64 z3, .int .i64 a1, .bool false, .bool false, .int .i64 a1, .bool false, .bool false, .bool false, .int .i64 a2, .bool false, .bool false, .bool false, .int .i64 a2, .bool false, .bool false, .bool false, .slice a0_A a0_n a0_c, .int .i64 (a0.length : Int), .int .i64 a1, .int .i64 a2, .int .i64 (iadd .i64 a1 a2), .bool false, .bool false, .int .i64 a1, .slice s1_A s1_n s1_c, .int .i64 z3, .int .i64 a1, .bool true, (g 38), (g 39), (g 40), (g 41), (g 42), (g 43), (g 44), (g 45), (g 46), (g 47), (g 48), (g 49), (g 50), (g 51), (g 52), (g 53), (g 54), (g 55), (g 56), (g 57), (g 58), (g 59), (g 60), (g 61), (g 62), (g 63), undef, undef, undef, undef, undef, undef, undef], []⟩) K ⟨z2, z4, hy, hs.conv rfl, exg (by kernel_rfl)⟩ ?_
          clear hs h hy
          rintro n a w ⟨z6, z7, h, hs, g, rfl⟩ KL1 kl1
          cases n with
          | zero => exact nomatch (show none = some _ from h)
          | succ n =>
           refine xseq_k fun KS25 ks25 => ?_
           refine xseq_k fun KS26 ks26 => ?_
           refine wp_regS (l := [0, 1, 2, 3, 4, 5, 6, 7, 8, 9, 10, 11, 12, 13]) (by kernel_rfl) (by kernel_rfl) fun KR27 kr27 => ?_
           refine wpS.ps [(0, 40, .int .i64 z6), (1, 41, .slice a0_A a0_n a0_c), (2, 42, .int .i64 a2), (3, 43, .int .i64 z3), (4, 44, .int .i64 (iadd .i64 a2 z3))] (by kernel_rfl) ?_
           obtain ⟨x10, hx, h⟩ := of_bind h
           have hx := of_some hx
           subst hx
           obtain ⟨h0, h⟩ := of_chk h
           obtain ⟨h1, h⟩ := of_chk h
           have i0_28 := h0
           have i1_28 := h1
           refine wpS.take 5 false (some 45) (.pointer (adr a0_A (((iadd .i64 a2 z3) : Int).toNat * Cod.size (CI .u8)))) (by kernel_rfl) (yld_idxL (C := (CI .u8)) (t := 24) (e := 5) (k := .i64) (x := (iadd .i64 a2 z3)) (hs.rowR 0 rfl) (by kernel_rfl) (by kernel_rfl) (by kernel_rfl) h0 h1) ?_
           refine wpS.take 6 true (some 46) (.int .u8 (rdL (CI .u8) a0 (iadd .i64 a2 z3))) (by kernel_rfl) (yld_loadL (C := (CI .u8)) (e := 5) (x := (iadd .i64 a2 z3)) (hs.rowR 0 rfl) (by kernel_rfl) rfl (by kernel_rfl) i0_28 i1_28) ?_
           refine wpS.p 7 47 (.int .i64 (iconv .i64 (rdL (CI .u8) a0 (iadd .i64 a2 z3)))) (by kernel_rfl) ?_
           rcases of_if h with ⟨hc, h⟩ | ⟨hc, h⟩
           ·refine wpS.take 8 false (some 48) (.bool true) (by kernel_rfl) (yld_b (dt hc) (fun _ => by kernel_rfl)) ?_
            refine wpS.ps [(9, 49, .bool true), (10, 50, .int .i64 z6), (11, 51, .int .i64 a2)] (by kernel_rfl) ?_
            rcases of_if h with ⟨hc, h⟩ | ⟨hc, h⟩
            ·refine wpS.take 12 false (some 52) (.bool true) (by kernel_rfl) (yld_b (dt hc) (fun _ => by kernel_rfl)) ?_
             refine wpS.p 13 53 (.bool true) (by kernel_rfl) ?_
             refine wpS.fin rfl (kr27 _ _ ?_)
             refine then_n (ks26 _ _ ?_)
             refine wp_cond_t (by kernel_rfl) ?_
             refine xskip ?_
             refine then_n (ks25 _ _ ?_)
             refine xblock ?_
             refine xseq_k fun KS29 ks29 => ?_
             refine wp_regG [8] (fun k => True) 9 (by kernel_rfl) (by kernel_rfl) (by kernel_rfl) fun KR30 kr30 => ?_
             have hs := hs.drawn1
             refine wpG.p 0 54 (.slice s1_A s1_n s1_c) (by kernel_rfl) (by kernel_rfl) ?_
             refine wpG.p 1 55 (.int .i64 z3) (by kernel_rfl) (by kernel_rfl) ?_
             refine wpG.takeD 2 false (some 56) (.slice a0_A a0_n a0_c) (by kernel_rfl) (by kernel_rfl) (yld fun _ => by kernel_rfl) ?_
             refine wpG.takeD 3 false (some 57) (.int .i64 z6) (by kernel_rfl) (by kernel_rfl) (yld fun _ => by kernel_rfl) ?_
             obtain ⟨h0, h⟩ := of_chk h
             obtain ⟨h1, h⟩ := of_chk h
             have i0_31 := h0
             have i1_31 := h1
             refine wpG.takeD 4 false (some 58) (.pointer (adr a0_A ((z6 : Int).toNat * Cod.size (CI .u8)))) (by kernel_rfl) (by kernel_rfl) (yld_idxL (C := (CI .u8)) (t := 24) (e := 5) (k := .i64) (x := z6) (hs.rowR 0 rfl) (by kernel_rfl) (by kernel_rfl) (by kernel_rfl) h0 h1) ?_
             refine wpG.takeD 5 true (some 59) (.int .u8 (rdL (CI .u8) a0 z6)) (by kernel_rfl) (by kernel_rfl) (yld_loadL (C := (CI .u8)) (e := 5) (x := z6) (hs.rowR 0 rfl) (by kernel_rfl) rfl (by kernel_rfl) i0_31 i1_31) ?_
             obtain ⟨h0, h⟩ := of_chk h
             obtain ⟨h1, h⟩ := of_chk h
             have i0_32 := h0
             have i1_32 := h1
             refine wpG.takeD 6 false (some 60) (.pointer (adr s1_A ((z3 : Int).toNat * Cod.size (CA .i32 256 (by decide))))) (by kernel_rfl) (by kernel_rfl) (yld_idxL (C := (CA .i32 256 (by decide))) (t := 25) (e := 40) (k := .i64) (x := z3) (hs.rowL 0 rfl) (by kernel_rfl) (by kernel_rfl) (by kernel_rfl) h0 h1) ?_
             obtain ⟨x11, hx, h⟩ := of_bind h
             have hx := of_some hx
             subst hx
             obtain ⟨h0, h⟩ := of_chk h
             obtain ⟨h1, h⟩ := of_chk h
             have j0_33 := h0
             have j1_33 := h1
             refine wpG.takeD 7 false (some 61) (.pointer (adr s1_A ((z3 : Int).toNat * Cod.size (CA .i32 256 (by decide)) + ((rdL (CI .u8) a0 z6) : Int).toNat * 1))) (by kernel_rfl) (by kernel_rfl) (yld_idxLA (t := 40) (e := 21) (k' := .u8) (x := z3) (y := (rdL (CI .u8) a0 z6)) (hs.rowL 0 rfl) (by kernel_rfl) (by kernel_rfl) (by kernel_rfl) i0_32 i1_32 h0 h1) ?_
             refine wpG.only 8 (by kernel_rfl) (op_storeLE (t := 21) (x := z3) (y := (rdL (CI .u8) a0 z6)) (v := 1) (d := none) (by kernel_rfl) hs 0 rfl (by kernel_rfl) (by kernel_rfl) i0_32 i1_32 j0_33 j1_33 ?_)
             intro w hs
             refine ⟨⟨fun hf => absurd hf (by decide), .all _ _⟩, ?_⟩
             refine wpG.fin (by kernel_rfl) rfl (kr30 _ _ ?_)
             refine then_n (ks29 _ _ ?_)
             refine wp_regS (l := [0, 1, 2]) (by kernel_rfl) (by kernel_rfl) fun KR34 kr34 => ?_
             refine wpS.ps [(0, 62, .int .i64 z6), (1, 63, .int .i64 (iadd .i64 z6 1))] (by kernel_rfl) ?_
             obtain ⟨x12, hx, h⟩ := of_bind h
             refine wpS.take 2 false (some 9) (.int .i64 x12) (by kernel_rfl) (yld_int hx (fun _ => by kernel_rfl)) ?_
             refine wpS.fin rfl (kr34 _ _ ?_)
             refine inBlock_n ?_
             exact then_n (kl1 _ _ ⟨n, Nat.lt_succ_self n, x12, (wrL z7 z3 (wr (rdL (CA .i32 256 (by decide)) z7 z3) (rdL (CI .u8) a0 z6) 1)), h, (hs.conv rfl), exg (by kernel_rfl)⟩)
            ·refine wpS.take 12 false (some 52) (.bool false) (by kernel_rfl) (yld_b (df hc) (fun _ => by kernel_rfl)) ?_
             refine wpS.p 13 53 (.bool false) (by kernel_rfl) ?_
             refine wpS.fin rfl (kr27 _ _ ?_)
             refine then_n (ks26 _ _ ?_)
             refine wp_cond_f (by kernel_rfl) ?_
             refine xexit ?_
             refine then_x ?_
             refine then_x ?_
             refine inBlock_hit ?_
             obtain ⟨q0, qr0⟩ := Prod.mk.inj (of_some h)
             have q1 := qr0
             subst q0
             subst q1
             exact exq_n (nn1 _ _ ⟨(hs.conv rfl), exg (by kernel_rfl)⟩)
           ·refine wpS.take 8 false (some 48) (.bool false) (by kernel_rfl) (yld_b (df hc) (fun _ => by kernel_rfl)) ?_
            refine wpS.ps [(9, 49, .bool false), (10, 50, undef), (11, 51, undef), (12, 52, undef), (13, 53, .bool false)] (by kernel_rfl) ?_
            refine wpS.fin rfl (kr27 _ _ ?_)
            refine then_n (ks26 _ _ ?_)
            refine wp_cond_f (by kernel_rfl) ?_
            refine xexit ?_
            refine then_x ?_
            refine then_x ?_
            refine inBlock_hit ?_
            obtain ⟨q0, qr0⟩ := Prod.mk.inj (of_some h)
            have q1 := qr0
            subst q0
            subst q1
            exact exq_n (nn1 _ _ ⟨(hs.conv rfl), exg (by kernel_rfl)⟩)
         ·clear hs h hy
          rintro a w ⟨hs, g, rfl⟩
          have h := hk1
          refine inBlock_n ?_
          refine then_n (ks24 _ _ ?_)
          refine wp_regS (l := [0, 1, 2]) (by kernel_rfl) (by kernel_rfl) fun KR35 kr35 => ?_
          refine wpS.ps [(0, 38, .int .i64 z3), (1, 39, .int .i64 (iadd .i64 z3 1))] (by kernel_rfl) ?_
          obtain ⟨x13, hx, h⟩ := of_bind h
          refine wpS.take 2 false (some 10) (.int .i64 x13) (by kernel_rfl) (yld_int hx (fun _ => by kernel_rfl)) ?_
          refine wpS.fin rfl (kr35 _ _ ?_)
          exact then_n (kl0 _ _ ⟨n, Nat.lt_succ_self n, y8, x13, y9, h, (hs.conv rfl), exg (by kernel_rfl)⟩)
        ·refine wpS.take 2 false (some 37) (.bool false) (by kernel_rfl) (yld_b (df hc) (fun _ => by kernel_rfl)) ?_
         refine wpS.fin rfl (kr23 _ _ ?_)
         refine then_n (ks22 _ _ ?_)
         refine wp_cond_f (by kernel_rfl) ?_
         refine xexit ?_
         refine then_x ?_
         refine then_x ?_
         refine inBlock_hit ?_
         have q0 := of_some h
         subst q0
         exact exq_n (nn0 _ _ ⟨(hs.conv rfl), exg (by kernel_rfl)⟩)
      ·clear hs h hy
       rintro a w ⟨hs, g, rfl⟩
       have h := hk0
       refine then_n (ks18 _ _ ?_)
       refine xseq_k fun KS36 ks36 => ?_
       refine xseq_k fun KS37 ks37 => ?_
       refine wp_regS (l := [0, 1, 2, 3, 4, 5]) (by kernel_rfl) (by kernel_rfl) fun KR38 kr38 => ?_
       refine wpS.ps [(0, 64, .slice s1_A s1_n s1_c), (1, 65, .int .i64 a2)] (by kernel_rfl) ?_
       obtain ⟨r14, hg, h⟩ := of_bind h
       refine wpS.only 2 (op_callH (d := (some 66)) (by kernel_rfl) hs (fun _ => by kernel_rfl) (ref22_Hints.ok hg _ (hs.rowL 0 rfl)) ?_)
       rintro ⟨r14_A, r14_n, r14_c⟩ w gw hs
       have hs := hs.conv (L' := [.ownL (CI .u8) r14_A r14_n r14_c r14 5, .ownL (CA .i32 256 (by decide)) s1_A s1_n s1_c y5 40]) rfl
       refine ⟨fun _ => trivial, ?_⟩
       refine wpS.p 3 67 (.slice a0_A a0_n a0_c) (by kernel_rfl) ?_
       obtain ⟨r15, hg, h⟩ := of_bind h
       cases r15 with
       | true =>
        have h := of_if_t h
        refine wpS.only 4 (op_call (d := (some 68)) (by kernel_rfl) hs (fun _ => by kernel_rfl) (ref01_Same.ok hg _ (hs.rowL 0 rfl) (hs.rowR 0 rfl)) ?_)
        intro w gw hs
        refine ⟨fun _ => trivial, ?_⟩
        refine wpS.p 5 69 (.bool false) (by kernel_rfl) ?_
        refine wpS.fin rfl (kr38 _ _ ?_)
        refine then_n (ks37 _ _ ?_)
        refine wp_cond_f (by kernel_rfl) ?_
        refine xskip ?_
        refine then_n (ks36 _ _ ?_)
        refine xseq_k fun KS39 ks39 => ?_
        refine wp_regS (l := [0, 1, 2]) (by kernel_rfl) (by kernel_rfl) fun KR40 kr40 => ?_
        refine wpS.ps [(0, 70, .slice s1_A s1_n s1_c), (1, 6, .slice s1_A s1_n s1_c), (2, 7, .bool true)] (by kernel_rfl) ?_
        refine wpS.fin rfl (kr40 _ _ ?_)
        refine then_n (ks39 _ _ ?_)
        refine xret ?_
        obtain ⟨q0, qr0⟩ := Prod.mk.inj (of_some h)
        have q1 := qr0
        subst q0
        subst q1
        exact qq _ _ (post_ret (by kernel_rfl) (run_results [.tmp 6, .tmp 7] [.slice s1_A s1_n s1_c, .bool true] (by kernel_rfl) (.cons (res_tmp (by kernel_rfl)) (.cons (res_tmp (by kernel_rfl)) .nil))) ⟨⟨s1_A, s1_n, s1_c⟩, congrArg Ending.returned (by kernel_rfl), ((hs.drop (.cons _ (.cons_cons _ .slnil))).pickR pick_nil)⟩)
       | false =>
        have h := of_if_f h
        refine wpS.only 4 (op_call (d := (some 68)) (by kernel_rfl) hs (fun _ => by kernel_rfl) (ref01_Same.ok hg _ (hs.rowL 0 rfl) (hs.rowR 0 rfl)) ?_)
        intro w gw hs
        refine ⟨fun _ => trivial, ?_⟩
        refine wpS.p 5 69 (.bool true) (by kernel_rfl) ?_
        refine wpS.fin rfl (kr38 _ _ ?_)
        refine then_n (ks37 _ _ ?_)
        refine wp_cond_t (by kernel_rfl) ?_
        refine xseq_k fun KS41 ks41 => ?_
        refine wp_regS (l := [0, 1]) (by kernel_rfl) (by kernel_rfl) fun KR42 kr42 => ?_
        refine wpS.ps [(0, 6, .slice none 0 0), (1, 7, .bool false)] (by kernel_rfl) ?_
        refine wpS.fin rfl (kr42 _ _ ?_)
        refine then_n (ks41 _ _ ?_)
        refine xret ?_
        refine then_r ?_
        obtain ⟨q0, qr0⟩ := Prod.mk.inj (of_some h)
        have q1 := qr0
        subst q0
        subst q1
        have hs := hs.addNilL (CA .i32 256 (by decide)) 40
        exact qq _ _ (post_ret (by kernel_rfl) (run_results [.tmp 6, .tmp 7] [.slice none 0 0, .bool false] (by kernel_rfl) (.cons (res_tmp (by kernel_rfl)) (.cons (res_tmp (by kernel_rfl)) .nil))) ⟨⟨none, 0, 0⟩, congrArg Ending.returned (by kernel_rfl), ((hs.drop (.cons_cons _ (.cons _ (.cons _ .slnil)))).pickR pick_nil)⟩)
     ·refine wpS.take 20 false (some 31) (.bool true) (by kernel_rfl) (yld_b (nt hc) (fun _ => by kernel_rfl)) ?_
      refine wpS.p 21 32 (.bool true) (by kernel_rfl) ?_
      refine wpS.fin rfl (kr5 _ _ ?_)
      refine then_n (ks4 _ _ ?_)
      refine wp_cond_t (by kernel_rfl) ?_
      refine xseq_k fun KS43 ks43 => ?_
      refine wp_regS (l := [0, 1]) (by kernel_rfl) (by kernel_rfl) fun KR44 kr44 => ?_
      refine wpS.ps [(0, 6, .slice none 0 0), (1, 7, .bool false)] (by kernel_rfl) ?_
      refine wpS.fin rfl (kr44 _ _ ?_)
      refine then_n (ks43 _ _ ?_)
      refine xret ?_
      refine then_r ?_
      obtain ⟨q0, qr0⟩ := Prod.mk.inj (of_some h)
      have q1 := qr0
      subst q0
      subst q1
      have hs := hs.addNilL (CA .i32 256 (by decide)) 40
      exact qq _ _ (post_ret (by kernel_rfl) (run_results [.tmp 6, .tmp 7] [.slice none 0 0, .bool false] (by kernel_rfl) (.cons (res_tmp (by kernel_rfl)) (.cons (res_tmp (by kernel_rfl)) .nil))) ⟨⟨none, 0, 0⟩, congrArg Ending.returned (by kernel_rfl), (hs.pickR pick_nil)⟩)

theorem ref22_Same.ok {K : Nat} {a0 : List (Arr 256)} {a1 : List (Arr 256)} {r0 : Bool} {a0_A : Option Addr} {a0_n : Nat} {a0_c : Nat} {a1_A : Option Addr} {a1_n : Nat} {a1_c : Nat} (h : ref22_Same.f K a0 a1 = some r0) (w0 : World) (hp0 : RowL (CA .i32 256 (by decide)) w0 a0_A a0_n a0_c a0) (hp1 : RowL (CA .i32 256 (by decide)) w0 a1_A a1_n a1_c a1) : Ret Try.prog 24 #[.slice a0_A a0_n a0_c, .slice a1_A a1_n a1_c] w0 (.bool r0) := by
 refine calls_k Try.func24 rfl fun Q qq => ?_
 have hs := St.startR (all_cons (RowP.ent hp0) (all_cons (RowP.ent hp1) all_nil))
 refine wp_conv (a' := ⟨#[.slice a0_A a0_n a0_c, .slice a1_A a1_n a1_c, undef, undef, undef, undef, undef, undef, undef, undef, undef, undef, undef, undef, undef, undef, undef, undef, undef, undef, undef, undef, undef, undef, undef, undef], []⟩) (by kernel_rfl) ?_
 refine xseq_k fun KS1 ks1 => ?_
 refine wp_regS (l := [0]) (by kernel_rfl) (by kernel_rfl) fun KR2 kr2 => ?_
 refine wpS.p 0 4 (.bool false) (by kernel_rfl) ?_
 refine wpS.fin rfl (kr2 _ _ ?_)
 refine then_n (ks1 _ _ ?_)
 refine xseq_k fun KS3 ks3 => ?_
 refine xseq_k fun KS4 ks4 => ?_
 refine wp_regS (l := [0, 1, 2, 3, 4]) (by kernel_rfl) (by kernel_rfl) fun KR5 kr5 => ?_
 refine wpS.p 0 6 (.slice a0_A a0_n a0_c) (by kernel_rfl) ?_
 refine wpS.take 1 false (some 7) (.int .i64 (a0.length : Int)) (by kernel_rfl) (yld_lenL (hs.rowR 0 rfl) (fun _ => by kernel_rfl)) ?_
 refine wpS.p 2 8 (.slice a1_A a1_n a1_c) (by kernel_rfl) ?_
 refine wpS.take 3 false (some 9) (.int .i64 (a1.length : Int)) (by kernel_rfl) (yld_lenL (hs.rowR 1 rfl) (fun _ => by kernel_rfl)) ?_
 rcases of_if h with ⟨hc, h⟩ | ⟨hc, h⟩
 ·refine wpS.take 4 false (some 10) (.bool false) (by kernel_rfl) (yld_b (nf hc) (fun _ => by kernel_rfl)) ?_
  refine wpS.fin rfl (kr5 _ _ ?_)
  refine then_n (ks4 _ _ ?_)
  refine wp_cond_f (by kernel_rfl) ?_
  refine xskip ?_
  refine then_n (ks3 _ _ ?_)
  refine xseq_k fun KS6 ks6 => ?_
  refine xseq_k fun KS7 ks7 => ?_
  refine wp_regS (l := [0]) (by kernel_rfl) (by kernel_rfl) fun KR8 kr8 => ?_
  refine wpS.p 0 5 (.int .i64 0) (by kernel_rfl) ?_
  refine wpS.fin rfl (kr8 _ _ ?_)
  refine then_n (ks7 _ _ ?_)
  obtain ⟨t0, hy, hk0⟩ := of_bind h
  refine wp_exq (N := fun a w => t0 = .inl () ∧ St w0 [] [] [.rowL (CA .i32 256 (by decide)) a0_A a0_n a0_c a0, .rowL (CA .i32 256 (by decide)) a1_A a1_n a1_c a1] w ∧ ∃ g : Nat → Value, a = ⟨#[.slice a0_A a0_n a0_c, .slice a1_A a1_n a1_c, undef, undef, (g 4), (g 5), .slice a0_A a0_n a0_c, .int .i64 (a0.length : Int), .slice a1_A a1_n a1_c, .int .i64 (a1.length : Int), .bool false, (g 11), (g 12), (g 13), (g 14), (g 15), (g 16), (g 17), (g 18), (g 19), (g 20), (g 21), (g 22), (g 23), (g 24), (g 25)], []⟩) (fun N0 nn0 => ?_) ?_
  ·refine xblock ?_
   refine wp_loop_k (fun n a w => ∃ z1, ref22_Same.l0 K n a0 a1 z1 = some t0 ∧ St w0 [] [] [.rowL (CA .i32 256 (by decide)) a0_A a0_n a0_c a0, .rowL (CA .i32 256 (by decide)) a1_A a1_n a1_c a1] w ∧ ∃ g : Nat → Value, a = ⟨#[.slice a0_A a0_n a0_c, .slice a1_A a1_n a1_c, undef, undef, (g 4), .int .i64 z1, .slice a0_A a0_n a0_c, .int .i64 (a0.length : Int), .slice a1_A a1_n a1_c, .int .i64 (a1.length : Int), .bool false, (g 11), (g 12), (g 13), (g 14), (g 15), (g 16), (g 17), (g 18), (g 19), (g 20), (g 21), (g 22), (g 23), (g 24), (g 25)], []⟩) K ⟨0, hy, hs.conv rfl, exg (by kernel_rfl)⟩ ?_
   clear hs h hy
   rintro n a w ⟨z1, h, hs, g, rfl⟩ KL0 kl0
   cases n with
   | zero => exact nomatch (show none = some _ from h)
   | succ n =>
    refine xseq_k fun KS9 ks9 => ?_
    refine xseq_k fun KS10 ks10 => ?_
    refine wp_regS (l := [0, 1, 2, 3]) (by kernel_rfl) (by kernel_rfl) fun KR11 kr11 => ?_
    refine wpS.ps [(0, 11, .int .i64 z1), (1, 12, .slice a0_A a0_n a0_c)] (by kernel_rfl) ?_
    refine wpS.take 2 false (some 13) (.int .i64 (a0.length : Int)) (by kernel_rfl) (yld_lenL (hs.rowR 0 rfl) (fun _ => by kernel_rfl)) ?_
    rcases of_if h with ⟨hc, h⟩ | ⟨hc, h⟩
    ·refine wpS.take 3 false (some 14) (.bool true) (by kernel_rfl) (yld_b (dt hc) (fun _ => by kernel_rfl)) ?_
     refine wpS.fin rfl (kr11 _ _ ?_)
     refine then_n (ks10 _ _ ?_)
     refine wp_cond_t (by kernel_rfl) ?_
     refine xskip ?_
     refine then_n (ks9 _ _ ?_)
     refine xseq_k fun KS12 ks12 => ?_
     refine xblock ?_
     refine xseq_k fun KS13 ks13 => ?_
     refine wp_regG [] (fun k => True) 9 (by kernel_rfl) (by kernel_rfl) (by kernel_rfl) fun KR14 kr14 => ?_
     have hs := hs.drawn1
     refine wpG.takeD 0 false (some 17) (.slice a0_A a0_n a0_c) (by kernel_rfl) (by kernel_rfl) (yld fun _ => by kernel_rfl) ?_
     refine wpG.takeD 1 false (some 18) (.int .i64 z1) (by kernel_rfl) (by kernel_rfl) (yld fun _ => by kernel_rfl) ?_
     obtain ⟨h0, h⟩ := of_chk h
     obtain ⟨h1, h⟩ := of_chk h
     have i0_15 := h0
     have i1_15 := h1
     refine wpG.takeD 2 false (some 19) (.pointer (adr a0_A ((z1 : Int).toNat * Cod.size (CA .i32 256 (by decide))))) (by kernel_rfl) (by kernel_rfl) (yld_idxL (C := (CA .i32 256 (by decide))) (t := 25) (e := 40) (k := .i64) (x := z1) (hs.rowR 0 rfl) (by kernel_rfl) (by kernel_rfl) (by kernel_rfl) h0 h1) ?_
     refine wpG.takeD 3 true (some 20) (.agg (enc .i32 (rdL (CA .i32 256 (by decide)) a0 z1)).toArray) (by kernel_rfl) (by kernel_rfl) (yld_loadLA (C := (CA .i32 256 (by decide))) (e := 40) (x := z1) (hs.rowR 0 rfl) (by kernel_rfl) rfl (by kernel_rfl) (by kernel_rfl) i0_15 i1_15) ?_
     refine wpG.takeD 4 false (some 21) (.slice a1_A a1_n a1_c) (by kernel_rfl) (by kernel_rfl) (yld fun _ => by kernel_rfl) ?_
     refine wpG.takeD 5 false (some 22) (.int .i64 z1) (by kernel_rfl) (by kernel_rfl) (yld fun _ => by kernel_rfl) ?_
     obtain ⟨h0, h⟩ := of_chk h
     obtain ⟨h1, h⟩ := of_chk h
     have i0_16 := h0
     have i1_16 := h1
     refine wpG.takeD 6 false (some 23) (.pointer (adr a1_A ((z1 : Int).toNat * Cod.size (CA .i32 256 (by decide))))) (by kernel_rfl) (by kernel_rfl) (yld_idxL (C := (CA .i32 256 (by decide))) (t := 25) (e := 40) (k := .i64) (x := z1) (hs.rowR 1 rfl) (by kernel_rfl) (by kernel_rfl) (by kernel_rfl) h0 h1) ?_
     refine wpG.takeD 7 true (some 24) (.agg (enc .i32 (rdL (CA .i32 256 (by decide)) a1 z1)).toArray) (by kernel_rfl) (by kernel_rfl) (yld_loadLA (C := (CA .i32 256 (by decide))) (e := 40) (x := z1) (hs.rowR 1 rfl) (by kernel_rfl) rfl (by kernel_rfl) (by kernel_rfl) i0_16 i1_16) ?_
     rcases of_ifb h with ⟨hc, h⟩ | ⟨hc, h⟩
     ·refine wpG.takeD 8 false (some 25) (.bool true) (by kernel_rfl) (by kernel_rfl) (yld_bb hc (yld_eqAn (t := 40) (e := 21) (k := .i32) (.tmp 20) (.tmp 24) (by kernel_rfl) (by kernel_rfl) (by kernel_rfl) (by kernel_rfl) (by kernel_rfl) (by kernel_rfl))) ?_
      refine wpG.fin (by kernel_rfl) rfl (kr14 _ _ ?_)
      refine then_n (ks13 _ _ ?_)
      refine wp_cond_t (by kernel_rfl) ?_
      refine xseq_k fun KS17 ks17 => ?_
      refine wp_regS (l := [0]) (by kernel_rfl) (by kernel_rfl) fun KR18 kr18 => ?_
      refine wpS.p 0 4 (.bool false) (by kernel_rfl) ?_
      refine wpS.fin rfl (kr18 _ _ ?_)
      refine then_n (ks17 _ _ ?_)
      refine xret ?_
      refine inBlock_r ?_
      refine then_r ?_
      refine then_r ?_
      refine inBlock_r ?_
      refine exq_r ?_
      refine then_r ?_
      have q0 := of_some h
      subst q0
      have q0 := of_some hk0
      subst q0
      exact qq _ _ (post_ret (by kernel_rfl) (run_results [.tmp 4] [.bool false] (by kernel_rfl) (.cons (res_tmp (by kernel_rfl)) .nil)) ⟨congrArg Ending.returned (by kernel_rfl), hs.none⟩)
     ·refine wpG.takeD 8 false (some 25) (.bool false) (by kernel_rfl) (by kernel_rfl) (yld_bb hc (yld_eqAn (t := 40) (e := 21) (k := .i32) (.tmp 20) (.tmp 24) (by kernel_rfl) (by kernel_rfl) (by kernel_rfl) (by kernel_rfl) (by kernel_rfl) (by kernel_rfl))) ?_
      refine wpG.fin (by kernel_rfl) rfl (kr14 _ _ ?_)
      refine then_n (ks13 _ _ ?_)
      refine wp_cond_f (by kernel_rfl) ?_
      refine xskip ?_
      refine inBlock_n ?_
      refine then_n (ks12 _ _ ?_)
      refine wp_regS (l := [0, 1, 2]) (by kernel_rfl) (by kernel_rfl) fun KR19 kr19 => ?_
      refine wpS.ps [(0, 15, .int .i64 z1), (1, 16, .int .i64 (iadd .i64 z1 1))] (by kernel_rfl) ?_
      obtain ⟨x2, hx, h⟩ := of_bind h
      refine wpS.take 2 false (some 5) (.int .i64 x2) (by kernel_rfl) (yld_int hx (fun _ => by kernel_rfl)) ?_
      refine wpS.fin rfl (kr19 _ _ ?_)
      exact then_n (kl0 _ _ ⟨n, Nat.lt_succ_self n, x2, h, (hs.conv rfl), exg (by kernel_rfl)⟩)
    ·refine wpS.take 3 false (some 14) (.bool false) (by kernel_rfl) (yld_b (df hc) (fun _ => by kernel_rfl)) ?_
     refine wpS.fin rfl (kr11 _ _ ?_)
     refine then_n (ks10 _ _ ?_)
     refine wp_cond_f (by kernel_rfl) ?_
     refine xexit ?_
     refine then_x ?_
     refine then_x ?_
     refine inBlock_hit ?_
     have q0 := of_some h
     subst q0
     exact exq_n (nn0 _ _ ⟨rfl, (hs.conv rfl), exg (by kernel_rfl)⟩)
  ·clear hs h hy
   rintro a w ⟨rfl, hs, g, rfl⟩
   have h := hk0
   refine then_n (ks6 _ _ ?_)
   refine xseq_k fun KS20 ks20 => ?_
   refine wp_regS (l := [0]) (by kernel_rfl) (by kernel_rfl) fun KR21 kr21 => ?_
   refine wpS.p 0 4 (.bool true) (by kernel_rfl) ?_
   refine wpS.fin rfl (kr21 _ _ ?_)
   refine then_n (ks20 _ _ ?_)
   refine xret ?_
   have q0 := of_some h
   subst q0
   exact qq _ _ (post_ret (by kernel_rfl) (run_results [.tmp 4] [.bool true] (by kernel_rfl) (.cons (res_tmp (by kernel_rfl)) .nil)) ⟨congrArg Ending.returned (by kernel_rfl), hs.none⟩)
 ·refine wpS.take 4 false (some 10) (.bool true) (by kernel_rfl) (yld_b (nt hc) (fun _ => by kernel_rfl)) ?_
  refine wpS.fin rfl (kr5 _ _ ?_)
  refine then_n (ks4 _ _ ?_)
  refine wp_cond_t (by kernel_rfl) ?_
  refine xseq_k fun KS22 ks22 => ?_
  refine wp_regS (l := [0]) (by kernel_rfl) (by kernel_rfl) fun KR23 kr23 => ?_
  refine wpS.p 0 4 (.bool false) (by kernel_rfl) ?_
  refine wpS.fin rfl (kr23 _ _ ?_)
  refine then_n (ks22 _ _ ?_)
  refine xret ?_
  refine then_r ?_
  have q0 := of_some h
  subst q0
  exact qq _ _ (post_ret (by kernel_rfl) (run_results [.tmp 4] [.bool false] (by kernel_rfl) (.cons (res_tmp (by kernel_rfl)) .nil)) ⟨congrArg Ending.returned (by kernel_rfl), hs.none⟩)
end Go.Proofs.Ytblploekkjeolaa
