/- Printed by this work's own program: the code of each function below comes to the answer that its plain form tells. -/
import Derived.Test.YtblploekkjeolaaMv
import Derived.Test.YtblploekkjeolaaProg
import Derived.Test.YtblploekkjeolaaDF0
import Derived.Test.YtblploekkjeolaaDX0
set_option linter.unusedVariables false
set_option linter.unusedSimpArgs false
set_option maxRecDepth 100000
set_option maxHeartbeats 4000000
namespace Go.Proofs.Ytblploekkjeolaa
open Go.Mx
attribute [local irreducible] wpOp

theorem dpack_Hints.ok {K : Nat} {a0 : List (Arr 256)} {a1 : Int} {r0 : List Int} {a0_A : Option Addr} {a0_n : Nat} {a0_c : Nat} (h : dpack_Hints.f K a0 a1 = some r0) (w0 : World) (hp0 : RowL (CA .i32 256 (by decide)) w0 a0_A a0_n a0_c a0) : Calls Try.prog 27 #[.slice a0_A a0_n a0_c, .int .i64 a1] w0 fun e w' => ∃ h : (Option Addr × Nat × Nat), e = .returned (.slice h.1 h.2.1 h.2.2) ∧ St w0 [] [.ownL (CI .u8) h.1 h.2.1 h.2.2 r0 5] [] w' := by
 refine calls_k Try.func27 rfl fun Q qq => ?_
 have hs := St.startR (all_cons (RowP.ent hp0) all_nil)
 refine wp_conv (a' := ⟨#[.slice a0_A a0_n a0_c, .int .i64 a1, undef, undef, undef, undef, undef, undef, undef, undef, undef, undef, undef, undef, undef, undef, undef, undef, undef, undef, undef, undef, undef, undef, undef, undef, undef, undef, undef, undef, undef, undef, undef, undef, undef, undef, undef, undef, undef, undef, undef, undef, undef, undef, undef, undef, undef, undef, undef, undef, undef, undef, undef, undef, undef, undef, undef, undef, undef, undef, undef, undef, undef, undef, undef, undef, undef, undef, undef, undef, undef, undef], []⟩) (by kernel_rfl) ?_
 refine xseq_k fun KS1 ks1 => ?_
 refine wp_regS (l := [0]) (by kernel_rfl) (by kernel_rfl) fun KR2 kr2 => ?_
 refine wpS.p 0 4 (.slice none 0 0) (by kernel_rfl) ?_
 refine wpS.fin rfl (kr2 _ _ ?_)
 refine then_n (ks1 _ _ ?_)
 refine xseq_k fun KS3 ks3 => ?_
 refine xseq_k fun KS4 ks4 => ?_
 refine wp_regS (l := [0, 1, 2, 3, 4, 5, 6, 7, 8, 9, 10, 11, 12, 13, 14, 15]) (by kernel_rfl) (by kernel_rfl) fun KR5 kr5 => ?_
 refine wpS.p 0 11 (.slice a0_A a0_n a0_c) (by kernel_rfl) ?_
 refine wpS.take 1 false (some 12) (.int .i64 (a0.length : Int)) (by kernel_rfl) (yld_lenL (hs.rowR 0 rfl) (fun _ => by kernel_rfl)) ?_
 rcases of_if h with ⟨hc, h⟩ | ⟨hc, h⟩
 ·refine wpS.take 2 false (some 13) (.bool true) (by kernel_rfl) (yld_b (dt hc) (fun _ => by kernel_rfl)) ?_
  refine wpS.ps [(3, 14, .bool true), (4, 15, undef), (5, 16, undef), (6, 17, undef), (7, 18, .bool true), (8, 19, .bool true), (9, 20, undef), (10, 21, undef), (11, 22, .bool true), (12, 23, .bool true), (13, 24, undef), (14, 25, undef), (15, 26, .bool true)] (by kernel_rfl) ?_
  refine wpS.fin rfl (kr5 _ _ ?_)
  refine then_n (ks4 _ _ ?_)
  refine wp_cond_t (by kernel_rfl) ?_
  refine xseq_k fun KS6 ks6 => ?_
  refine wp_regS (l := [0]) (by kernel_rfl) (by kernel_rfl) fun KR7 kr7 => ?_
  refine wpS.p 0 4 (.slice none 0 0) (by kernel_rfl) ?_
  refine wpS.fin rfl (kr7 _ _ ?_)
  refine then_n (ks6 _ _ ?_)
  refine xret ?_
  refine then_r ?_
  have q0 := of_some h
  subst q0
  have hs := hs.addNilL (CI .u8) 5
  exact qq _ _ (post_ret (by kernel_rfl) (run_results [.tmp 4] [.slice none 0 0] (by kernel_rfl) (.cons (res_tmp (by kernel_rfl)) .nil)) ⟨⟨none, 0, 0⟩, congrArg Ending.returned (by kernel_rfl), (hs.pickR pick_nil)⟩)
 ·refine wpS.take 2 false (some 13) (.bool false) (by kernel_rfl) (yld_b (df hc) (fun _ => by kernel_rfl)) ?_
  refine wpS.ps [(3, 14, .bool false), (4, 15, .slice a0_A a0_n a0_c)] (by kernel_rfl) ?_
  refine wpS.take 5 false (some 16) (.int .i64 (a0.length : Int)) (by kernel_rfl) (yld_lenL (hs.rowR 0 rfl) (fun _ => by kernel_rfl)) ?_
  rcases of_if h with ⟨hc, h⟩ | ⟨hc, h⟩
  ·refine wpS.take 6 false (some 17) (.bool true) (by kernel_rfl) (yld_b (dt hc) (fun _ => by kernel_rfl)) ?_
   refine wpS.ps [(7, 18, .bool true), (8, 19, .bool true), (9, 20, undef), (10, 21, undef), (11, 22, .bool true), (12, 23, .bool true), (13, 24, undef), (14, 25, undef), (15, 26, .bool true)] (by kernel_rfl) ?_
   refine wpS.fin rfl (kr5 _ _ ?_)
   refine then_n (ks4 _ _ ?_)
   refine wp_cond_t (by kernel_rfl) ?_
   refine xseq_k fun KS8 ks8 => ?_
   refine wp_regS (l := [0]) (by kernel_rfl) (by kernel_rfl) fun KR9 kr9 => ?_
   refine wpS.p 0 4 (.slice none 0 0) (by kernel_rfl) ?_
   refine wpS.fin rfl (kr9 _ _ ?_)
   refine then_n (ks8 _ _ ?_)
   refine xret ?_
   refine then_r ?_
   have q0 := of_some h
   subst q0
   have hs := hs.addNilL (CI .u8) 5
   exact qq _ _ (post_ret (by kernel_rfl) (run_results [.tmp 4] [.slice none 0 0] (by kernel_rfl) (.cons (res_tmp (by kernel_rfl)) .nil)) ⟨⟨none, 0, 0⟩, congrArg Ending.returned (by kernel_rfl), (hs.pickR pick_nil)⟩)
  ·refine wpS.take 6 false (some 17) (.bool false) (by kernel_rfl) (yld_b (df hc) (fun _ => by kernel_rfl)) ?_
   refine wpS.ps [(7, 18, .bool false), (8, 19, .bool false), (9, 20, .int .i64 a1)] (by kernel_rfl) ?_
   rcases of_if h with ⟨hc, h⟩ | ⟨hc, h⟩
   ·refine wpS.take 10 false (some 21) (.bool true) (by kernel_rfl) (yld_b (dt hc) (fun _ => by kernel_rfl)) ?_
    refine wpS.ps [(11, 22, .bool true), (12, 23, .bool true), (13, 24, undef), (14, 25, undef), (15, 26, .bool true)] (by kernel_rfl) ?_
    refine wpS.fin rfl (kr5 _ _ ?_)
    refine then_n (ks4 _ _ ?_)
    refine wp_cond_t (by kernel_rfl) ?_
    refine xseq_k fun KS10 ks10 => ?_
    refine wp_regS (l := [0]) (by kernel_rfl) (by kernel_rfl) fun KR11 kr11 => ?_
    refine wpS.p 0 4 (.slice none 0 0) (by kernel_rfl) ?_
    refine wpS.fin rfl (kr11 _ _ ?_)
    refine then_n (ks10 _ _ ?_)
    refine xret ?_
    refine then_r ?_
    have q0 := of_some h
    subst q0
    have hs := hs.addNilL (CI .u8) 5
    exact qq _ _ (post_ret (by kernel_rfl) (run_results [.tmp 4] [.slice none 0 0] (by kernel_rfl) (.cons (res_tmp (by kernel_rfl)) .nil)) ⟨⟨none, 0, 0⟩, congrArg Ending.returned (by kernel_rfl), (hs.pickR pick_nil)⟩)
   ·refine wpS.take 10 false (some 21) (.bool false) (by kernel_rfl) (yld_b (df hc) (fun _ => by kernel_rfl)) ?_
    refine wpS.ps [(11, 22, .bool false), (12, 23, .bool false), (13, 24, .int .i64 a1)] (by kernel_rfl) ?_
    rcases of_if h with ⟨hc, h⟩ | ⟨hc, h⟩
    ·refine wpS.take 14 false (some 25) (.bool true) (by kernel_rfl) (yld_b (dt hc) (fun _ => by kernel_rfl)) ?_
     refine wpS.p 15 26 (.bool true) (by kernel_rfl) ?_
     refine wpS.fin rfl (kr5 _ _ ?_)
     refine then_n (ks4 _ _ ?_)
     refine wp_cond_t (by kernel_rfl) ?_
     refine xseq_k fun KS12 ks12 => ?_
     refine wp_regS (l := [0]) (by kernel_rfl) (by kernel_rfl) fun KR13 kr13 => ?_
     refine wpS.p 0 4 (.slice none 0 0) (by kernel_rfl) ?_
     refine wpS.fin rfl (kr13 _ _ ?_)
     refine then_n (ks12 _ _ ?_)
     refine xret ?_
     refine then_r ?_
     have q0 := of_some h
     subst q0
     have hs := hs.addNilL (CI .u8) 5
     exact qq _ _ (post_ret (by kernel_rfl) (run_results [.tmp 4] [.slice none 0 0] (by kernel_rfl) (.cons (res_tmp (by kernel_rfl)) .nil)) ⟨⟨none, 0, 0⟩, congrArg Ending.returned (by kernel_rfl), (hs.pickR pick_nil)⟩)
    ·refine wpS.take 14 false (some 25) (.bool false) (by kernel_rfl) (yld_b (df hc) (fun _ => by kernel_rfl)) ?_
     refine wpS.p 15 26 (.bool false) (by kernel_rfl) ?_
     refine wpS.fin rfl (kr5 _ _ ?_)
     refine then_n (ks4 _ _ ?_)
     refine wp_cond_f (by kernel_rfl) ?_
     refine xskip ?_
     refine then_n (ks3 _ _ ?_)
     refine xseq_k fun KS14 ks14 => ?_
     refine wp_regS (l := [0, 1, 2, 3, 4, 5]) (by kernel_rfl) (by kernel_rfl) fun KR15 kr15 => ?_
     refine wpS.ps [(0, 27, .int .i64 a1), (1, 28, .slice a0_A a0_n a0_c)] (by kernel_rfl) ?_
     refine wpS.take 2 false (some 29) (.int .i64 (a0.length : Int)) (by kernel_rfl) (yld_lenL (hs.rowR 0 rfl) (fun _ => by kernel_rfl)) ?_
     refine wpS.p 3 30 (.int .i64 (iadd .i64 a1 (a0.length : Int))) (by kernel_rfl) ?_
     obtain ⟨h0, h⟩ := of_chk h
     obtain ⟨h1, h⟩ := of_chk h
     refine wpS.only 4 (op_makeT (C := (CI .u8)) (t := 24) (e := 5) (bytes := 1) (B := 140737488355328) (kl := .i64) (kc := .i64) (x := (iadd .i64 a1 (a0.length : Int))) (d := (some 31)) (by kernel_rfl) hs (by kernel_rfl) (by kernel_rfl) (by kernel_rfl) (by kernel_rfl) (by kernel_rfl) h0 h1 (by decide) (by decide) ?_)
     intro s1_A s1_n s1_c w gw hs
     refine ⟨fun _ => trivial, ?_⟩
     refine wpS.p 5 5 (.slice s1_A s1_n s1_c) (by kernel_rfl) ?_
     refine wpS.fin rfl (kr15 _ _ ?_)
     refine then_n (ks14 _ _ ?_)
     refine xseq_k fun KS16 ks16 => ?_
     refine wp_regS (l := [0]) (by kernel_rfl) (by kernel_rfl) fun KR17 kr17 => ?_
     refine wpS.p 0 6 (.int .i64 0) (by kernel_rfl) ?_
     refine wpS.fin rfl (kr17 _ _ ?_)
     refine then_n (ks16 _ _ ?_)
     refine xseq_k fun KS18 ks18 => ?_
     refine xseq_k fun KS19 ks19 => ?_
     refine wp_regS (l := [0, 1, 2]) (by kernel_rfl) (by kernel_rfl) fun KR20 kr20 => ?_
     refine wpS.p 0 32 (.slice a0_A a0_n a0_c) (by kernel_rfl) ?_
     refine wpS.take 1 false (some 33) (.int .i64 (a0.length : Int)) (by kernel_rfl) (yld_lenL (hs.rowR 0 rfl) (fun _ => by kernel_rfl)) ?_
     refine wpS.p 2 34 (.int .i64 0) (by kernel_rfl) ?_
     refine wpS.fin rfl (kr20 _ _ ?_)
     refine then_n (ks19 _ _ ?_)
     obtain ⟨t0, hy, hk0⟩ := of_bind h
     refine wp_exq (N := fun a w => ∃ y5, t0 = .inl y5 ∧ St w0 [] [.ownL (CI .u8) s1_A s1_n s1_c y5 5] [.rowL (CA .i32 256 (by decide)) a0_A a0_n a0_c a0] w ∧ ∃ g : Nat → Value, a = ⟨#[.slice a0_A a0_n a0_c, .int .i64 a1, undef, undef, (g 4), .slice s1_A s1_n s1_c, (g 6), (g 7), (g 8), (g 9), (g 10), .slice a0_A a0_n a0_c, .int .i64 (a0.length : Int), .bool false, .bool false, .slice a0_A a0_n a0_c, .int .i64 (a0.length : Int), .bool false, .bool false, .bool false, .int .i64 a1, .bool false, .bool false, .bool false, .int .i64 a1, .bool false, .bool false, .int .i64 a1, .slice a0_A a0_n a0_c, .int .i64 (a0.length : Int), .int .i64 (iadd .i64 a1 (a0.length : Int)), .slice s1_A s1_n s1_c, .slice a0_A a0_n a0_c, .int .i64 (a0.length : Int), (g 34), (g 35), (g 36), (g 37), (g 38), (g 39), (g 40), (g 41), (g 42), (g 43), (g 44), (g 45), (g 46), (g 47), (g 48), (g 49), (g 50), (g 51), (g 52), (g 53), (g 54), (g 55), (g 56), (g 57), (g 58), (g 59), (g 60), (g 61), (g 62), (g 63), (g 64), (g 65), (g 66), (g 67), (g 68), (g 69), (g 70), undef], []⟩) (fun N0 nn0 => ?_) ?_
     ·refine xblock ?_
      refine wp_loop_k (fun n a w => ∃ z2 z3 z4, dpack_Hints.l0 K n a0 a1 z2 z3 z4 = some t0 ∧ St w0 [] [.ownL (CI .u8) s1_A s1_n s1_c z4 5] [.rowL (CA .i32 256 (by decide)) a0_A a0_n a0_c a0] w ∧ ∃ g : Nat → Value, a = ⟨#[.slice a0_A a0_n a0_c, .int .i64 a1, undef, undef, (g 4), .slice s1_A s1_n s1_c, .int .i64 z2, (g 7), (g 8), (g 9), (g 10), .slice a0_A a0_n a0_c, .int .i64 (a0.length : Int), .bool false, .bool false, .slice a0_A a0_n a0_c, .int .i64 (a0.length : Int), .bool false, .bool false, .bool false, .int .i64 a1, .bool false, .bool false, .bool false, .int .i64 a1, .bool false, .bool false, .int .i64 a1, .slice a0_A a0_n a0_c, .int .i64 (a0.length : Int), .int .i64 (iadd .i64 a1 (a0.length : Int)), .slice s1_A s1_n s1_c, .slice a0_A a0_n a0_c, .int .i64 (a0.length : Int), .int .i64 z3, (g 35), (g 36), (g 37), (g 38), (g 39), (g 40), (g 41), (g 42), (g 43), (g 44), (g 45), (g 46), (g 47), (g 48), (g 49), (g 50), (g 51), (g 52), (g 53), (g 54), (g 55), (g 56), (g 57), (g 58), (g 59), (g 60), (g 61), (g 62), (g 63), (g 64), (g 65), (g 66), (g 67), (g 68), (g 69), (g 70), undef], []⟩) K ⟨0, 0, (List.replicate ((iadd .i64 a1 (a0.length : Int)) : Int).toNat (Cod.zero (CI .u8))), hy, hs.conv rfl, exg (by kernel_rfl)⟩ ?_
      clear hs h hy
      rintro n a w ⟨z2, z3, z4, h, hs, g, rfl⟩ KL0 kl0
      cases n with
      | zero => exact nomatch (show none = some _ from h)
      | succ n =>
       refine xseq_k fun KS21 ks21 => ?_
       refine wp_regS (l := [0]) (by kernel_rfl) (by kernel_rfl) fun KR22 kr22 => ?_
       rcases of_if h with ⟨hc, h⟩ | ⟨hc, h⟩
       ·refine wpS.take 0 false (some 35) (.bool true) (by kernel_rfl) (yld_b (dt hc) (fun _ => by kernel_rfl)) ?_
        refine wpS.fin rfl (kr22 _ _ ?_)
        refine then_n (ks21 _ _ ?_)
        refine xseq_k fun KS23 ks23 => ?_
        refine wp_cond_t (by kernel_rfl) ?_
        refine xskip ?_
        refine then_n (ks23 _ _ ?_)
        refine xseq_k fun KS24 ks24 => ?_
        refine xblock ?_
        refine xseq_k fun KS25 ks25 => ?_
        refine wp_regS (l := [0, 1, 2, 3, 4, 5]) (by kernel_rfl) (by kernel_rfl) fun KR26 kr26 => ?_
        refine wpS.p 0 36 (.int .i64 z3) (by kernel_rfl) ?_
        obtain ⟨h0, h⟩ := of_chk h
        obtain ⟨h1, h⟩ := of_chk h
        have i0_27 := h0
        have i1_27 := h1
        refine wpS.take 1 false (some 37) (.pointer (adr a0_A ((z3 : Int).toNat * Cod.size (CA .i32 256 (by decide))))) (by kernel_rfl) (yld_idxL (C := (CA .i32 256 (by decide))) (t := 25) (e := 40) (k := .i64) (x := z3) (hs.rowR 0 rfl) (by kernel_rfl) (by kernel_rfl) (by kernel_rfl) h0 h1) ?_
        refine wpS.take 2 true (some 38) (.agg (enc .i32 (rdL (CA .i32 256 (by decide)) a0 z3)).toArray) (by kernel_rfl) (yld_loadLA (C := (CA .i32 256 (by decide))) (e := 40) (x := z3) (hs.rowR 0 rfl) (by kernel_rfl) rfl (by kernel_rfl) (by kernel_rfl) i0_27 i1_27) ?_
        refine wpS.only 3 (op_alloc (t := 40) (d := (some 8)) (by kernel_rfl) hs (enc .i32 (zeroA 256)) (.agg (enc .i32 (zeroA 256)).toArray) (by kernel_rfl) (by kernel_rfl) (by kernel_rfl) ?_)
        intro b6 w gw hs
        refine ⟨fun _ => trivial, ?_⟩
        refine wpS.p 4 7 (.int .i64 z3) (by kernel_rfl) ?_
        refine wpS.only 5 (op_storeW (t := 40) (v := .agg (enc .i32 (rdL (CA .i32 256 (by decide)) a0 z3)).toArray) (d := none) (by kernel_rfl) hs 0 rfl (vs := enc .i32 (rdL (CA .i32 256 (by decide)) a0 z3)) (n := 256) (by kernel_rfl) (by kernel_rfl) (by kernel_rfl) (by simp [enc_len]) (by simp [enc_len]) (by intro u hu; exact enc_one _ _ u hu) ?_)
        intro w kp hs
        refine ⟨fun _ => trivial, ?_⟩
        refine wpS.fin rfl (kr26 _ _ ?_)
        refine then_n (ks25 _ _ ?_)
        refine xseq_k fun KS28 ks28 => ?_
        refine xseq_k fun KS29 ks29 => ?_
        refine wp_regS (l := [0, 1]) (by kernel_rfl) (by kernel_rfl) fun KR30 kr30 => ?_
        refine wpS.take 0 true (some 39) (.agg (enc .i32 (rdL (CA .i32 256 (by decide)) a0 z3)).toArray) (by kernel_rfl) (yld_loadW (e := 40) (n := 256) hs 0 rfl (by kernel_rfl) (by kernel_rfl) (by kernel_rfl) (by exact enc_len _ _) .grow) ?_
        refine wpS.p 1 40 (.int .i64 0) (by kernel_rfl) ?_
        refine wpS.fin rfl (kr30 _ _ ?_)
        refine then_n (ks29 _ _ ?_)
        obtain ⟨t1, hy, hk1⟩ := of_bind h
        refine wp_exq (N := fun a w => ∃ y10 y11, t1 = .inl (y10, y11) ∧ St w0 [] [.blk b6 (enc .i32 (rdL (CA .i32 256 (by decide)) a0 z3)) 40, .ownL (CI .u8) s1_A s1_n s1_c y11 5] [.rowL (CA .i32 256 (by decide)) a0_A a0_n a0_c a0] w ∧ ∃ g : Nat → Value, a = ⟨#[.slice a0_A a0_n a0_c, .int .i64 a1, undef, undef, (g 4), .slice s1_A s1_n s1_c, .int .i64 y10, .int .i64 z3, .pointer (some ⟨b6, 0, none⟩), (g 9), (g 10), .slice a0_A a0_n a0_c, .int .i64 (a0.length : Int), .bool false, .bool false, .slice a0_A a0_n a0_c, .int .i64 (a0.length : Int), .bool false, .bool false, .bool false, .int .i64 a1, .bool false, .bool false, .bool false, .int .i64 a1, .bool false, .bool false, .int .i64 a1, .slice a0_A a0_n a0_c, .int .i64 (a0.length : Int), .int .i64 (iadd .i64 a1 (a0.length : Int)), .slice s1_A s1_n s1_c, .slice a0_A a0_n a0_c, .int .i64 (a0.length : Int), .int .i64 z3, .bool true, .int .i64 z3, .pointer (adr a0_A ((z3 : Int).toNat * Cod.size (CA .i32 256 (by decide)))), .agg (enc .i32 (rdL (CA .i32 256 (by decide)) a0 z3)).toArray, .agg (enc .i32 (rdL (CA .i32 256 (by decide)) a0 z3)).toArray, (g 40), (g 41), (g 42), (g 43), (g 44), (g 45), (g 46), (g 47), (g 48), (g 49), (g 50), (g 51), (g 52), (g 53), (g 54), (g 55), (g 56), (g 57), (g 58), (g 59), (g 60), (g 61), (g 62), (g 63), (g 64), (g 65), (g 66), (g 67), (g 68), (g 69), (g 70), undef], []⟩) (fun N1 nn1 => ?_) ?_
        ·refine xblock ?_
         refine wp_loop_k (fun n a w => ∃ z7 z8 z9, dpack_Hints.l1 K n a0 a1 z3 z7 z8 z9 = some t1 ∧ St w0 [] [.blk b6 (enc .i32 (rdL (CA .i32 256 (by decide)) a0 z3)) 40, .ownL (CI .u8) s1_A s1_n s1_c z9 5] [.rowL (CA .i32 256 (by decide)) a0_A a0_n a0_c a0] w ∧ ∃ g : Nat → Value, a = ⟨#[.slice a0_A a0_n a0_c, .int .i64 a1, undef, undef, (g 4), .slice s1_A s1_n s1_c, .int .i64 z7, .int .i64 z3, .pointer (some ⟨b6, 0, none⟩), (g 9), (g 10), .slice a0_A a0_n a0_c, .int .i64 (a0.length : Int), .bool false, .bool false, .slice a0_A a0_n a0_c, .int .i64 (a0.length : Int), .bool false, .bool false, .bool false, .int .i64 a1, .bool false, .bool false, .bool false, .int .i64 a1, .bool false, .bool false, .int .i64 a1, .slice a0_A a0_n a0_c, .int .i64 (a0.length : Int), .int .i64 (iadd .i64 a1 (a0.length : Int)), .slice s1_A s1_n s1_c, .slice a0_A a0_n a0_c, .int .i64 (a0.length : Int), .int .i64 z3, .bool true, .int .i64 z3, .pointer (adr a0_A ((z3 : Int).toNat * Cod.size (CA .i32 256 (by decide)))), .agg (enc .i32 (rdL (CA .i32 256 (by decide)) a0 z3)).toArray, .agg (enc .i32 (rdL (CA .i32 256 (by decide)) a0 z3)).toArray, .int .i64 z8, (g 41), (g 42), (g 43), (g 44), (g 45), (g 46), (g 47), (g 48), (g 49), (g 50), (g 51), (g 52), (g 53), (g 54), (g 55), (g 56), (g 57), (g 58), (g 59), (g 60), (g 61), (g 62), (g 63), (g 64), (g 65), (g 66), (g 67), (g 68), (g 69), (g 70), undef], []⟩) K ⟨z2, 0, z4, hy, hs.conv rfl, exg (by kernel_rfl)⟩ ?_
         clear hs h hy
         rintro n a w ⟨z7, z8, z9, h, hs, g, rfl⟩ KL1 kl1
         cases n with
         | zero => exact nomatch (show none = some _ from h)
         | succ n =>
          refine xseq_k fun KS31 ks31 => ?_
          refine wp_regS (l := [0]) (by kernel_rfl) (by kernel_rfl) fun KR32 kr32 => ?_
          rcases of_if h with ⟨hc, h⟩ | ⟨hc, h⟩
          ·refine wpS.take 0 false (some 41) (.bool true) (by kernel_rfl) (yld_b (dt hc) (fun _ => by kernel_rfl)) ?_
           refine wpS.fin rfl (kr32 _ _ ?_)
           refine then_n (ks31 _ _ ?_)
           refine xseq_k fun KS33 ks33 => ?_
           refine wp_cond_t (by kernel_rfl) ?_
           refine xskip ?_
           refine then_n (ks33 _ _ ?_)
           obtain ⟨tv34, hj, hk_34⟩ := of_bind h
           refine xseq_k fun KS34 ks34 => wp_exj (N := fun a w => ∃ y12 y13, tv34 = .inl (y12, y13) ∧ St w0 [] [.blk b6 (enc .i32 (rdL (CA .i32 256 (by decide)) a0 z3)) 40, .ownL (CI .u8) s1_A s1_n s1_c y13 5] [.rowL (CA .i32 256 (by decide)) a0_A a0_n a0_c a0] w ∧ ∃ g : Nat → Value, a = ⟨#[.slice a0_A a0_n a0_c, .int .i64 a1, undef, undef, (g 4), .slice s1_A s1_n s1_c, .int .i64 y12, .int .i64 z3, .pointer (some ⟨b6, 0, none⟩), (g 9), (g 10), .slice a0_A a0_n a0_c, .int .i64 (a0.length : Int), .bool false, .bool false, .slice a0_A a0_n a0_c, .int .i64 (a0.length : Int), .bool false, .bool false, .bool false, .int .i64 a1, .bool false, .bool false, .bool false, .int .i64 a1, .bool false, .bool false, .int .i64 a1, .slice a0_A a0_n a0_c, .int .i64 (a0.length : Int), .int .i64 (iadd .i64 a1 (a0.length : Int)), .slice s1_A s1_n s1_c, .slice a0_A a0_n a0_c, .int .i64 (a0.length : Int), .int .i64 z3, .bool true, .int .i64 z3, .pointer (adr a0_A ((z3 : Int).toNat * Cod.size (CA .i32 256 (by decide)))), .agg (enc .i32 (rdL (CA .i32 256 (by decide)) a0 z3)).toArray, .agg (enc .i32 (rdL (CA .i32 256 (by decide)) a0 z3)).toArray, .int .i64 z8, .bool true, (g 42), (g 43), (g 44), (g 45), (g 46), (g 47), (g 48), (g 49), (g 50), (g 51), (g 52), (g 53), (g 54), (g 55), (g 56), (g 57), (g 58), (g 59), (g 60), (g 61), (g 62), (g 63), (g 64), (g 65), (g 66), (g 67), (g 68), (g 69), (g 70), undef], []⟩) (fun N nj => ?_) ?_
           ·clear h
            have h := hj
            refine xblock ?_
            refine xseq_k fun KS35 ks35 => ?_
            refine wp_regS (l := [0, 1, 2, 3]) (by kernel_rfl) (by kernel_rfl) fun KR36 kr36 => ?_
            refine wpS.p 0 42 (.int .i64 z8) (by kernel_rfl) ?_
            obtain ⟨h0, h⟩ := of_chk h
            obtain ⟨h1, h⟩ := of_chk h
            refine wpS.take 1 false (some 43) (.int .i32 (rd (rdL (CA .i32 256 (by decide)) a0 z3) z8)) (by kernel_rfl) (yld_at (t := 40) (e := 21) (k' := .i64) (by kernel_rfl) (by kernel_rfl) (by kernel_rfl) (by kernel_rfl) h0 h1) ?_
            refine wpS.p 2 9 (.int .i64 z8) (by kernel_rfl) ?_
            obtain ⟨x14, hx, h⟩ := of_bind h
            refine wpS.take 3 false (some 10) (.int .i32 x14) (by kernel_rfl) (yld_int hx (fun _ => by kernel_rfl)) ?_
            refine wpS.fin rfl (kr36 _ _ ?_)
            refine then_n (ks35 _ _ ?_)
            refine xblock ?_
            refine xseq_k fun KS37 ks37 => ?_
            refine wp_regS (l := [0, 1, 2]) (by kernel_rfl) (by kernel_rfl) fun KR38 kr38 => ?_
            refine wpS.p 0 52 (.int .i32 x14) (by kernel_rfl) ?_
            rcases of_if h with ⟨hc, h⟩ | ⟨hc, h⟩
            ·refine wpS.take 1 false (some 53) (.bool true) (by kernel_rfl) (yld_b (et hc) (fun _ => by kernel_rfl)) ?_
             refine wpS.p 2 51 (.bool true) (by kernel_rfl) ?_
             refine wpS.fin rfl (kr38 _ _ ?_)
             refine then_n (ks37 _ _ ?_)
             refine wp_cond_t (by kernel_rfl) ?_
             refine xskip ?_
             refine inBlock_n ?_
             refine inBlock_n ?_
             have q0 := of_some h
             subst q0
             exact exj_n (nj _ _ ⟨z7, z9, rfl, (hs.conv rfl), exg (by kernel_rfl)⟩)
            ·refine wpS.take 1 false (some 53) (.bool false) (by kernel_rfl) (yld_b (ef hc) (fun _ => by kernel_rfl)) ?_
             refine wpS.p 2 51 (.bool false) (by kernel_rfl) ?_
             refine wpS.fin rfl (kr38 _ _ ?_)
             refine then_n (ks37 _ _ ?_)
             refine wp_cond_f (by kernel_rfl) ?_
             refine xseq_k fun KS39 ks39 => ?_
             refine wp_regS (l := [0, 1, 2, 3, 4, 5, 6, 7]) (by kernel_rfl) (by kernel_rfl) fun KR40 kr40 => ?_
             refine wpS.p 0 55 (.int .i32 x14) (by kernel_rfl) ?_
             rcases of_if h with ⟨hc, h⟩ | ⟨hc, h⟩
             ·refine wpS.take 1 false (some 56) (.bool false) (by kernel_rfl) (yld_b (nf hc) (fun _ => by kernel_rfl)) ?_
              refine wpS.ps [(2, 57, .bool false), (3, 58, .int .i64 z7), (4, 59, .int .i64 a1)] (by kernel_rfl) ?_
              rcases of_if h with ⟨hc, h⟩ | ⟨hc, h⟩
              ·refine wpS.take 5 false (some 60) (.bool true) (by kernel_rfl) (yld_b (et hc) (fun _ => by kernel_rfl)) ?_
               refine wpS.ps [(6, 61, .bool true), (7, 54, .bool true)] (by kernel_rfl) ?_
               refine wpS.fin rfl (kr40 _ _ ?_)
               refine then_n (ks39 _ _ ?_)
               refine wp_cond_t (by kernel_rfl) ?_
               refine xseq_k fun KS41 ks41 => ?_
               refine wp_regS (l := [0]) (by kernel_rfl) (by kernel_rfl) fun KR42 kr42 => ?_
               refine wpS.p 0 4 (.slice none 0 0) (by kernel_rfl) ?_
               refine wpS.fin rfl (kr42 _ _ ?_)
               refine then_n (ks41 _ _ ?_)
               refine xret ?_
               refine inBlock_r ?_
               refine inBlock_r ?_
               have q0 := of_some h
               subst q0
               have h := hk_34
               refine exj_r ?_
               refine then_r ?_
               refine then_r ?_
               refine inBlock_r ?_
               refine exq_r ?_
               refine then_r ?_
               refine inBlock_r ?_
               refine then_r ?_
               refine then_r ?_
               refine inBlock_r ?_
               refine exq_r ?_
               refine then_r ?_
               have q0 := of_some h
               subst q0
               have q0 := of_some hk1
               subst q0
               have q0 := of_some hk0
               subst q0
               have hs := hs.addNilL (CI .u8) 5
               exact qq _ _ (post_ret (by kernel_rfl) (run_results [.tmp 4] [.slice none 0 0] (by kernel_rfl) (.cons (res_tmp (by kernel_rfl)) .nil)) ⟨⟨none, 0, 0⟩, congrArg Ending.returned (by kernel_rfl), ((hs.drop (.cons_cons _ (.cons _ (.cons _ .slnil)))).pickR pick_nil)⟩)
              ·refine wpS.take 5 false (some 60) (.bool false) (by kernel_rfl) (yld_b (ef hc) (fun _ => by kernel_rfl)) ?_
               refine wpS.ps [(6, 61, .bool false), (7, 54, .bool false)] (by kernel_rfl) ?_
               refine wpS.fin rfl (kr40 _ _ ?_)
               refine then_n (ks39 _ _ ?_)
               refine wp_cond_f (by kernel_rfl) ?_
               refine xseq_k fun KS43 ks43 => ?_
               refine wp_regS (l := [0, 1, 2, 3, 4, 5]) (by kernel_rfl) (by kernel_rfl) fun KR44 kr44 => ?_
               refine wpS.ps [(0, 44, .slice s1_A s1_n s1_c), (1, 45, .int .i64 z7), (2, 46, .int .i64 z8), (3, 47, .int .u8 (iconv .u8 z8))] (by kernel_rfl) ?_
               obtain ⟨h0, h⟩ := of_chk h
               obtain ⟨h1, h⟩ := of_chk h
               have i0_45 := h0
               have i1_45 := h1
               refine wpS.take 4 false (some 48) (.pointer (adr s1_A ((z7 : Int).toNat * Cod.size (CI .u8)))) (by kernel_rfl) (yld_idxL (C := (CI .u8)) (t := 24) (e := 5) (k := .i64) (x := z7) (hs.rowL 1 rfl) (by kernel_rfl) (by kernel_rfl) (by kernel_rfl) h0 h1) ?_
               obtain ⟨x15, hx, h⟩ := of_bind h
               refine wpS.only 5 (op_storeL (C := (CI .u8)) (t := 5) (x := z7) (v := x15) (d := none) (by kernel_rfl) hs 1 rfl (by cases hx; kernel_rfl) (by kernel_rfl) i0_45 i1_45 ?_)
               intro w hs
               refine ⟨fun _ => trivial, ?_⟩
               refine wpS.fin rfl (kr44 _ _ ?_)
               refine then_n (ks43 _ _ ?_)
               refine wp_regS (l := [0, 1, 2]) (by kernel_rfl) (by kernel_rfl) fun KR46 kr46 => ?_
               refine wpS.ps [(0, 49, .int .i64 z7), (1, 50, .int .i64 (iadd .i64 z7 1))] (by kernel_rfl) ?_
               obtain ⟨x16, hx, h⟩ := of_bind h
               refine wpS.take 2 false (some 6) (.int .i64 x16) (by kernel_rfl) (yld_int hx (fun _ => by kernel_rfl)) ?_
               refine wpS.fin rfl (kr46 _ _ ?_)
               refine inBlock_n ?_
               refine inBlock_n ?_
               have q0 := of_some h
               subst q0
               exact exj_n (nj _ _ ⟨x16, (wrL z9 z7 x15), rfl, (hs.conv rfl), exg (by kernel_rfl)⟩)
             ·refine wpS.take 1 false (some 56) (.bool true) (by kernel_rfl) (yld_b (nt hc) (fun _ => by kernel_rfl)) ?_
              refine wpS.ps [(2, 57, .bool true), (3, 58, undef), (4, 59, undef), (5, 60, undef), (6, 61, .bool true), (7, 54, .bool true)] (by kernel_rfl) ?_
              refine wpS.fin rfl (kr40 _ _ ?_)
              refine then_n (ks39 _ _ ?_)
              refine wp_cond_t (by kernel_rfl) ?_
              refine xseq_k fun KS47 ks47 => ?_
              refine wp_regS (l := [0]) (by kernel_rfl) (by kernel_rfl) fun KR48 kr48 => ?_
              refine wpS.p 0 4 (.slice none 0 0) (by kernel_rfl) ?_
              refine wpS.fin rfl (kr48 _ _ ?_)
              refine then_n (ks47 _ _ ?_)
              refine xret ?_
              refine inBlock_r ?_
              refine inBlock_r ?_
              have q0 := of_some h
              subst q0
              have h := hk_34
              refine exj_r ?_
              refine then_r ?_
              refine then_r ?_
              refine inBlock_r ?_
              refine exq_r ?_
              refine then_r ?_
              refine inBlock_r ?_
              refine then_r ?_
              refine then_r ?_
              refine inBlock_r ?_
              refine exq_r ?_
              refine then_r ?_
              have q0 := of_some h
              subst q0
              have q0 := of_some hk1
              subst q0
              have q0 := of_some hk0
              subst q0
              have hs := hs.addNilL (CI .u8) 5
              exact qq _ _ (post_ret (by kernel_rfl) (run_results [.tmp 4] [.slice none 0 0] (by kernel_rfl) (.cons (res_tmp (by kernel_rfl)) .nil)) ⟨⟨none, 0, 0⟩, congrArg Ending.returned (by kernel_rfl), ((hs.drop (.cons_cons _ (.cons _ (.cons _ .slnil)))).pickR pick_nil)⟩)
           ·clear hj hs
            rintro a w ⟨y12, y13, rfl, hs, g, rfl⟩
            have h := hk_34
            refine then_n (ks34 _ _ ?_)
            refine wp_regS (l := [0, 1]) (by kernel_rfl) (by kernel_rfl) fun KR49 kr49 => ?_
            refine wpS.ps [(0, 62, .int .i64 (iadd .i64 z8 1)), (1, 40, .int .i64 (iadd .i64 z8 1))] (by kernel_rfl) ?_
            refine wpS.fin rfl (kr49 _ _ ?_)
            exact then_n (kl1 _ _ ⟨n, Nat.lt_succ_self n, y12, (iadd .i64 z8 1), y13, h, (hs.conv rfl), exg (by kernel_rfl)⟩)
          ·refine wpS.take 0 false (some 41) (.bool false) (by kernel_rfl) (yld_b (df hc) (fun _ => by kernel_rfl)) ?_
           refine wpS.fin rfl (kr32 _ _ ?_)
           refine then_n (ks31 _ _ ?_)
           refine xseq_k fun KS50 ks50 => ?_
           refine wp_cond_f (by kernel_rfl) ?_
           refine xexit ?_
           refine then_x ?_
           refine then_x ?_
           refine inBlock_hit ?_
           have q0 := of_some h
           subst q0
           exact exq_n (nn1 _ _ ⟨z7, z9, rfl, (hs.conv rfl), exg (by kernel_rfl)⟩)
        ·clear hs h hy
         rintro a w ⟨y10, y11, rfl, hs, g, rfl⟩
         have h := hk1
         refine then_n (ks28 _ _ ?_)
         refine wp_regS (l := [0, 1, 2, 3, 4, 5, 6, 7]) (by kernel_rfl) (by kernel_rfl) fun KR51 kr51 => ?_
         refine wpS.ps [(0, 63, .slice s1_A s1_n s1_c), (1, 64, .int .i64 a1), (2, 65, .int .i64 z3), (3, 66, .int .i64 (iadd .i64 a1 z3)), (4, 67, .int .i64 y10), (5, 68, .int .u8 (iconv .u8 y10))] (by kernel_rfl) ?_
         obtain ⟨x17, hx, h⟩ := of_bind h
         have hx := of_some hx
         subst hx
         obtain ⟨h0, h⟩ := of_chk h
         obtain ⟨h1, h⟩ := of_chk h
         have i0_52 := h0
         have i1_52 := h1
         refine wpS.take 6 false (some 69) (.pointer (adr s1_A (((iadd .i64 a1 z3) : Int).toNat * Cod.size (CI .u8)))) (by kernel_rfl) (yld_idxL (C := (CI .u8)) (t := 24) (e := 5) (k := .i64) (x := (iadd .i64 a1 z3)) (hs.rowL 1 rfl) (by kernel_rfl) (by kernel_rfl) (by kernel_rfl) h0 h1) ?_
         obtain ⟨x18, hx, h⟩ := of_bind h
         refine wpS.only 7 (op_storeL (C := (CI .u8)) (t := 5) (x := (iadd .i64 a1 z3)) (v := x18) (d := none) (by kernel_rfl) hs 1 rfl (by cases hx; kernel_rfl) (by kernel_rfl) i0_52 i1_52 ?_)
         intro w hs
         refine ⟨fun _ => trivial, ?_⟩
         refine wpS.fin rfl (kr51 _ _ ?_)
         refine inBlock_n ?_
         refine then_n (ks24 _ _ ?_)
         refine wp_regS (l := [0, 1]) (by kernel_rfl) (by kernel_rfl) fun KR53 kr53 => ?_
         refine wpS.ps [(0, 70, .int .i64 (iadd .i64 z3 1)), (1, 34, .int .i64 (iadd .i64 z3 1))] (by kernel_rfl) ?_
         refine wpS.fin rfl (kr53 _ _ ?_)
         exact then_n (kl0 _ _ ⟨n, Nat.lt_succ_self n, y10, (iadd .i64 z3 1), (wrL y11 (iadd .i64 a1 z3) x18), h, (hs.drop (.cons _ (.cons_cons _ .slnil))), exg (by kernel_rfl)⟩)
       ·refine wpS.take 0 false (some 35) (.bool false) (by kernel_rfl) (yld_b (df hc) (fun _ => by kernel_rfl)) ?_
        refine wpS.fin rfl (kr22 _ _ ?_)
        refine then_n (ks21 _ _ ?_)
        refine xseq_k fun KS54 ks54 => ?_
        refine wp_cond_f (by kernel_rfl) ?_
        refine xexit ?_
        refine then_x ?_
        refine then_x ?_
        refine inBlock_hit ?_
        have q0 := of_some h
        subst q0
        exact exq_n (nn0 _ _ ⟨z4, rfl, (hs.conv rfl), exg (by kernel_rfl)⟩)
     ·clear hs h hy
      rintro a w ⟨y5, rfl, hs, g, rfl⟩
      have h := hk0
      refine then_n (ks18 _ _ ?_)
      refine xseq_k fun KS55 ks55 => ?_
      refine wp_regS (l := [0, 1]) (by kernel_rfl) (by kernel_rfl) fun KR56 kr56 => ?_
      refine wpS.ps [(0, 71, .slice s1_A s1_n s1_c), (1, 4, .slice s1_A s1_n s1_c)] (by kernel_rfl) ?_
      refine wpS.fin rfl (kr56 _ _ ?_)
      refine then_n (ks55 _ _ ?_)
      refine xret ?_
      have q0 := of_some h
      subst q0
      exact qq _ _ (post_ret (by kernel_rfl) (run_results [.tmp 4] [.slice s1_A s1_n s1_c] (by kernel_rfl) (.cons (res_tmp (by kernel_rfl)) .nil)) ⟨⟨s1_A, s1_n, s1_c⟩, congrArg Ending.returned (by kernel_rfl), (hs.pickR pick_nil)⟩)

theorem law22_awake.ok {K : Nat} {r0 : Bool} (h : law22_awake.f K = some r0) (w0 : World) : Ret Try.prog 8 #[] w0 (.bool r0) := by
 refine calls_k Try.func8 rfl fun Q qq => ?_
 have hs := St.start w0
 refine wp_conv (a' := ⟨#[undef, undef, undef, undef, undef, undef, undef, undef, undef, undef, undef, undef, undef, undef, undef, undef, undef, undef, undef, undef, undef, undef, undef, undef, undef, undef, undef, undef, undef, undef, undef, undef, undef, undef, undef, undef, undef, undef, undef, undef, undef, undef, undef, undef, undef, undef], []⟩) (by kernel_rfl) ?_
 refine xseq_k fun KS1 ks1 => ?_
 refine wp_regS (l := [0]) (by kernel_rfl) (by kernel_rfl) fun KR2 kr2 => ?_
 refine wpS.p 0 0 (.bool false) (by kernel_rfl) ?_
 refine wpS.fin rfl (kr2 _ _ ?_)
 refine then_n (ks1 _ _ ?_)
 refine xseq_k fun KS3 ks3 => ?_
 refine wp_regS (l := [0, 1, 2, 3, 4, 5, 6]) (by kernel_rfl) (by kernel_rfl) fun KR4 kr4 => ?_
 obtain ⟨⟨r1_0, r1_1, r1_2, r1_3, r1_4, r1_5, r1_6, r1_7, r2⟩, hg, h⟩ := of_bind h
 refine wpS.only 0 (op_call (d := (some 9)) (by kernel_rfl) hs (fun _ => by kernel_rfl) (dpack_Set.ok hg _) ?_)
 intro w gw hs
 refine ⟨fun _ => trivial, ?_⟩
 refine wpS.ps [(1, 8, .tuple #[.agg #[.int .i64 r1_0, .int .i64 r1_1, .int .i32 r1_2, .int .i64 r1_3, .int .i32 r1_4, .int .i32 r1_5, .int .i64 r1_6, .int .i64 r1_7], .bool r2]), (2, 10, .agg #[.int .i64 r1_0, .int .i64 r1_1, .int .i32 r1_2, .int .i64 r1_3, .int .i32 r1_4, .int .i32 r1_5, .int .i64 r1_6, .int .i64 r1_7])] (by kernel_rfl) ?_
 cases r2 with
 | true =>
  have h := of_if_t h
  refine wpS.p 3 11 (.bool true) (by kernel_rfl) ?_
  refine wpS.only 4 (op_alloc (t := 23) (d := (some 1)) (by kernel_rfl) hs ([.int .i64 0, .int .i64 0, .int .i32 0, .int .i64 0, .int .i32 0, .int .i32 0, .int .i64 0, .int .i64 0]) (.agg #[.int .i64 0, .int .i64 0, .int .i32 0, .int .i64 0, .int .i32 0, .int .i32 0, .int .i64 0, .int .i64 0]) (by kernel_rfl) (by kernel_rfl) (by kernel_rfl) ?_)
  intro b3 w gw hs
  refine ⟨fun _ => trivial, ?_⟩
  refine wpS.only 5 (op_storeW (t := 23) (v := .agg #[.int .i64 r1_0, .int .i64 r1_1, .int .i32 r1_2, .int .i64 r1_3, .int .i32 r1_4, .int .i32 r1_5, .int .i64 r1_6, .int .i64 r1_7]) (d := none) (by kernel_rfl) hs 0 rfl (vs := [.int .i64 r1_0, .int .i64 r1_1, .int .i32 r1_2, .int .i64 r1_3, .int .i32 r1_4, .int .i32 r1_5, .int .i64 r1_6, .int .i64 r1_7]) (n := 8) (by kernel_rfl) (by kernel_rfl) (by kernel_rfl) (by simp [enc_len]) (by simp [enc_len]) (by simp [Value.oneCell']) ?_)
  intro w kp hs
  refine ⟨fun _ => trivial, ?_⟩
  refine wpS.p 6 2 (.bool true) (by kernel_rfl) ?_
  refine wpS.fin rfl (kr4 _ _ ?_)
  refine then_n (ks3 _ _ ?_)
  refine xseq_k fun KS5 ks5 => ?_
  refine wp_regS (l := [0, 1, 2, 3, 4, 5, 6, 7, 8]) (by kernel_rfl) (by kernel_rfl) fun KR6 kr6 => ?_
  refine wpS.take 0 true (some 13) (.agg #[.int .i64 r1_0, .int .i64 r1_1, .int .i32 r1_2, .int .i64 r1_3, .int .i32 r1_4, .int .i32 r1_5, .int .i64 r1_6, .int .i64 r1_7]) (by kernel_rfl) (yld_loadW (e := 23) (n := 8) hs 0 rfl (by kernel_rfl) (by kernel_rfl) (by kernel_rfl) (by simp [enc_len]) .grow) ?_
  obtain ⟨⟨r4, r5, r6⟩, hg, h⟩ := of_bind h
  refine wpS.only 1 (op_call (d := (some 14)) (by kernel_rfl) hs (fun _ => by kernel_rfl) (dpack_Sizes.ok hg _) ?_)
  intro w gw hs
  refine ⟨fun _ => trivial, ?_⟩
  refine wpS.ps [(2, 12, .tuple #[.int .i64 r4, .int .i64 r5, .int .i64 r6]), (3, 15, .int .i64 r4), (4, 16, .int .i64 r5), (5, 17, .int .i64 r6), (6, 3, .int .i64 r4), (7, 4, .int .i64 r5), (8, 5, .int .i64 r6)] (by kernel_rfl) ?_
  refine wpS.fin rfl (kr6 _ _ ?_)
  refine then_n (ks5 _ _ ?_)
  refine xseq_k fun KS7 ks7 => ?_
  refine wp_regS (l := [0, 1, 2, 3, 4, 5, 6]) (by kernel_rfl) (by kernel_rfl) fun KR8 kr8 => ?_
  obtain ⟨⟨r7_0, r7_1, r7_2, r7_3, r7_4, r7_5, r7_6, r7_7, r8⟩, hg, h⟩ := of_bind h
  refine wpS.only 0 (op_call (d := (some 19)) (by kernel_rfl) hs (fun _ => by kernel_rfl) (dpack_Set.ok hg _) ?_)
  intro w gw hs
  refine ⟨fun _ => trivial, ?_⟩
  refine wpS.ps [(1, 18, .tuple #[.agg #[.int .i64 r7_0, .int .i64 r7_1, .int .i32 r7_2, .int .i64 r7_3, .int .i32 r7_4, .int .i32 r7_5, .int .i64 r7_6, .int .i64 r7_7], .bool r8]), (2, 20, .agg #[.int .i64 r7_0, .int .i64 r7_1, .int .i32 r7_2, .int .i64 r7_3, .int .i32 r7_4, .int .i32 r7_5, .int .i64 r7_6, .int .i64 r7_7])] (by kernel_rfl) ?_
  cases r8 with
  | true =>
   have h := of_if_t h
   refine wpS.p 3 21 (.bool true) (by kernel_rfl) ?_
   refine wpS.only 4 (op_alloc (t := 23) (d := (some 6)) (by kernel_rfl) hs ([.int .i64 0, .int .i64 0, .int .i32 0, .int .i64 0, .int .i32 0, .int .i32 0, .int .i64 0, .int .i64 0]) (.agg #[.int .i64 0, .int .i64 0, .int .i32 0, .int .i64 0, .int .i32 0, .int .i32 0, .int .i64 0, .int .i64 0]) (by kernel_rfl) (by kernel_rfl) (by kernel_rfl) ?_)
   intro b9 w gw hs
   refine ⟨fun _ => trivial, ?_⟩
   refine wpS.only 5 (op_storeW (t := 23) (v := .agg #[.int .i64 r7_0, .int .i64 r7_1, .int .i32 r7_2, .int .i64 r7_3, .int .i32 r7_4, .int .i32 r7_5, .int .i64 r7_6, .int .i64 r7_7]) (d := none) (by kernel_rfl) hs 0 rfl (vs := [.int .i64 r7_0, .int .i64 r7_1, .int .i32 r7_2, .int .i64 r7_3, .int .i32 r7_4, .int .i32 r7_5, .int .i64 r7_6, .int .i64 r7_7]) (n := 8) (by kernel_rfl) (by kernel_rfl) (by kernel_rfl) (by simp [enc_len]) (by simp [enc_len]) (by simp [Value.oneCell']) ?_)
   intro w kp hs
   refine ⟨fun _ => trivial, ?_⟩
   refine wpS.p 6 7 (.bool true) (by kernel_rfl) ?_
   refine wpS.fin rfl (kr8 _ _ ?_)
   refine then_n (ks7 _ _ ?_)
   refine xseq_k fun KS9 ks9 => ?_
   refine wp_regS (l := [0, 1, 2, 3, 4, 5, 6, 7, 8, 9, 10, 11, 12, 13, 14, 15, 16, 17, 18, 19, 20, 21, 22, 23, 24]) (by kernel_rfl) (by kernel_rfl) fun KR10 kr10 => ?_
   refine wpS.ps [(0, 22, .bool true), (1, 23, .bool true), (2, 24, .int .i64 r4)] (by kernel_rfl) ?_
   rcases of_if h with ⟨hc, h⟩ | ⟨hc, h⟩
   ·refine wpS.take 3 false (some 25) (.bool true) (by kernel_rfl) (yld_b (et hc) (fun _ => by kernel_rfl)) ?_
    refine wpS.ps [(4, 26, .bool true), (5, 27, .bool true), (6, 28, .int .i64 r5)] (by kernel_rfl) ?_
    rcases of_if h with ⟨hc, h⟩ | ⟨hc, h⟩
    ·refine wpS.take 7 false (some 29) (.bool true) (by kernel_rfl) (yld_b (et hc) (fun _ => by kernel_rfl)) ?_
     refine wpS.ps [(8, 30, .bool true), (9, 31, .bool true), (10, 32, .int .i64 r6)] (by kernel_rfl) ?_
     rcases of_if h with ⟨hc, h⟩ | ⟨hc, h⟩
     ·refine wpS.take 11 false (some 33) (.bool true) (by kernel_rfl) (yld_b (et hc) (fun _ => by kernel_rfl)) ?_
      refine wpS.ps [(12, 34, .bool true), (13, 35, .bool true), (14, 36, .bool true), (15, 37, .bool false), (16, 38, .bool false), (17, 39, .bool false), (18, 40, undef), (19, 41, undef), (20, 42, undef), (21, 43, undef), (22, 44, undef), (23, 45, .bool false), (24, 0, .bool false)] (by kernel_rfl) ?_
      refine wpS.fin rfl (kr10 _ _ ?_)
      refine then_n (ks9 _ _ ?_)
      refine xret ?_
      have q0 := of_some h
      subst q0
      exact qq _ _ (post_ret (by kernel_rfl) (run_results [.tmp 0] [.bool false] (by kernel_rfl) (.cons (res_tmp (by kernel_rfl)) .nil)) ⟨congrArg Ending.returned (by kernel_rfl), hs.none⟩)
     ·refine wpS.take 11 false (some 33) (.bool false) (by kernel_rfl) (yld_b (ef hc) (fun _ => by kernel_rfl)) ?_
      refine wpS.ps [(12, 34, .bool false), (13, 35, .bool false), (14, 36, undef), (15, 37, undef), (16, 38, .bool false), (17, 39, .bool false), (18, 40, undef), (19, 41, undef), (20, 42, undef), (21, 43, undef), (22, 44, undef), (23, 45, .bool false), (24, 0, .bool false)] (by kernel_rfl) ?_
      refine wpS.fin rfl (kr10 _ _ ?_)
      refine then_n (ks9 _ _ ?_)
      refine xret ?_
      have q0 := of_some h
      subst q0
      exact qq _ _ (post_ret (by kernel_rfl) (run_results [.tmp 0] [.bool false] (by kernel_rfl) (.cons (res_tmp (by kernel_rfl)) .nil)) ⟨congrArg Ending.returned (by kernel_rfl), hs.none⟩)
    ·refine wpS.take 7 false (some 29) (.bool false) (by kernel_rfl) (yld_b (ef hc) (fun _ => by kernel_rfl)) ?_
     refine wpS.ps [(8, 30, .bool false), (9, 31, .bool false), (10, 32, undef), (11, 33, undef), (12, 34, .bool false), (13, 35, .bool false), (14, 36, undef), (15, 37, undef), (16, 38, .bool false), (17, 39, .bool false), (18, 40, undef), (19, 41, undef), (20, 42, undef), (21, 43, undef), (22, 44, undef), (23, 45, .bool false), (24, 0, .bool false)] (by kernel_rfl) ?_
     refine wpS.fin rfl (kr10 _ _ ?_)
     refine then_n (ks9 _ _ ?_)
     refine xret ?_
     have q0 := of_some h
     subst q0
     exact qq _ _ (post_ret (by kernel_rfl) (run_results [.tmp 0] [.bool false] (by kernel_rfl) (.cons (res_tmp (by kernel_rfl)) .nil)) ⟨congrArg Ending.returned (by kernel_rfl), hs.none⟩)
   ·refine wpS.take 3 false (some 25) (.bool false) (by kernel_rfl) (yld_b (ef hc) (fun _ => by kernel_rfl)) ?_
    refine wpS.ps [(4, 26, .bool false), (5, 27, .bool false), (6, 28, undef), (7, 29, undef), (8, 30, .bool false), (9, 31, .bool false), (10, 32, undef), (11, 33, undef), (12, 34, .bool false), (13, 35, .bool false), (14, 36, undef), (15, 37, undef), (16, 38, .bool false), (17, 39, .bool false), (18, 40, undef), (19, 41, undef), (20, 42, undef), (21, 43, undef), (22, 44, undef), (23, 45, .bool false), (24, 0, .bool false)] (by kernel_rfl) ?_
    refine wpS.fin rfl (kr10 _ _ ?_)
    refine then_n (ks9 _ _ ?_)
    refine xret ?_
    have q0 := of_some h
    subst q0
    exact qq _ _ (post_ret (by kernel_rfl) (run_results [.tmp 0] [.bool false] (by kernel_rfl) (.cons (res_tmp (by kernel_rfl)) .nil)) ⟨congrArg Ending.returned (by kernel_rfl), hs.none⟩)
  | false =>
   have h := of_if_f h
   refine wpS.p 3 21 (.bool false) (by kernel_rfl) ?_
   refine wpS.only 4 (op_alloc (t := 23) (d := (some 6)) (by kernel_rfl) hs ([.int .i64 0, .int .i64 0, .int .i32 0, .int .i64 0, .int .i32 0, .int .i32 0, .int .i64 0, .int .i64 0]) (.agg #[.int .i64 0, .int .i64 0, .int .i32 0, .int .i64 0, .int .i32 0, .int .i32 0, .int .i64 0, .int .i64 0]) (by kernel_rfl) (by kernel_rfl) (by kernel_rfl) ?_)
   intro b10 w gw hs
   refine ⟨fun _ => trivial, ?_⟩
   refine wpS.only 5 (op_storeW (t := 23) (v := .agg #[.int .i64 r7_0, .int .i64 r7_1, .int .i32 r7_2, .int .i64 r7_3, .int .i32 r7_4, .int .i32 r7_5, .int .i64 r7_6, .int .i64 r7_7]) (d := none) (by kernel_rfl) hs 0 rfl (vs := [.int .i64 r7_0, .int .i64 r7_1, .int .i32 r7_2, .int .i64 r7_3, .int .i32 r7_4, .int .i32 r7_5, .int .i64 r7_6, .int .i64 r7_7]) (n := 8) (by kernel_rfl) (by kernel_rfl) (by kernel_rfl) (by simp [enc_len]) (by simp [enc_len]) (by simp [Value.oneCell']) ?_)
   intro w kp hs
   refine ⟨fun _ => trivial, ?_⟩
   refine wpS.p 6 7 (.bool false) (by kernel_rfl) ?_
   refine wpS.fin rfl (kr8 _ _ ?_)
   refine then_n (ks7 _ _ ?_)
   refine xseq_k fun KS11 ks11 => ?_
   refine wp_regS (l := [0, 1, 2, 3, 4, 5, 6, 7, 8, 9, 10, 11, 12, 13, 14, 15, 16, 17, 18, 19, 20, 21, 22, 23, 24]) (by kernel_rfl) (by kernel_rfl) fun KR12 kr12 => ?_
   refine wpS.ps [(0, 22, .bool true), (1, 23, .bool true), (2, 24, .int .i64 r4)] (by kernel_rfl) ?_
   rcases of_if h with ⟨hc, h⟩ | ⟨hc, h⟩
   ·refine wpS.take 3 false (some 25) (.bool true) (by kernel_rfl) (yld_b (et hc) (fun _ => by kernel_rfl)) ?_
    refine wpS.ps [(4, 26, .bool true), (5, 27, .bool true), (6, 28, .int .i64 r5)] (by kernel_rfl) ?_
    rcases of_if h with ⟨hc, h⟩ | ⟨hc, h⟩
    ·refine wpS.take 7 false (some 29) (.bool true) (by kernel_rfl) (yld_b (et hc) (fun _ => by kernel_rfl)) ?_
     refine wpS.ps [(8, 30, .bool true), (9, 31, .bool true), (10, 32, .int .i64 r6)] (by kernel_rfl) ?_
     rcases of_if h with ⟨hc, h⟩ | ⟨hc, h⟩
     ·refine wpS.take 11 false (some 33) (.bool true) (by kernel_rfl) (yld_b (et hc) (fun _ => by kernel_rfl)) ?_
      refine wpS.ps [(12, 34, .bool true), (13, 35, .bool true), (14, 36, .bool false), (15, 37, .bool true), (16, 38, .bool true), (17, 39, .bool true), (18, 40, .agg (enc .i32 (zeroA 256)).toArray)] (by kernel_rfl) ?_
      refine wpS.only 19 (op_litL (C := (CA .i32 256 (by decide))) (t := 25) (e := 40) (len := 1) (parts := #[(0, .agg (enc .i32 (zeroA 256)).toArray)]) (l := [(zeroA 256)]) (d := (some 41)) (by kernel_rfl) hs (by kernel_rfl) rfl (by kernel_rfl) (by kernel_rfl) (z := .agg (enc .i32 (zeroA 256)).toArray) (by kernel_rfl) rfl (by decide) (by decide) ?_)
      intro s11_A s11_n s11_c w gw hs
      refine ⟨fun _ => trivial, ?_⟩
      obtain ⟨r12, hg, h⟩ := of_bind h
      refine wpS.only 20 (op_callH (d := (some 42)) (by kernel_rfl) hs (fun _ => by kernel_rfl) (dpack_Hints.ok hg _ (hs.rowL 0 rfl)) ?_)
      rintro ⟨r12_A, r12_n, r12_c⟩ w gw hs
      have hs := hs.conv (L' := [.ownL (CI .u8) r12_A r12_n r12_c r12 5, .ownL (CA .i32 256 (by decide)) s11_A s11_n s11_c ([(zeroA 256)] : List (Arr 256)) 40, .blk b10 ([.int .i64 r7_0, .int .i64 r7_1, .int .i32 r7_2, .int .i64 r7_3, .int .i32 r7_4, .int .i32 r7_5, .int .i64 r7_6, .int .i64 r7_7]) 23, .blk b3 ([.int .i64 r1_0, .int .i64 r1_1, .int .i32 r1_2, .int .i64 r1_3, .int .i32 r1_4, .int .i32 r1_5, .int .i64 r1_6, .int .i64 r1_7]) 23]) rfl
      refine ⟨fun _ => trivial, ?_⟩
      refine wpS.only 21 (op_lit (C := (CI .u8)) (t := 24) (e := 5) (len := 3) (parts := #[(0, .int .u8 0), (1, .int .u8 0), (2, .int .u8 0)]) (l := [0, 0, 0]) (d := (some 43)) (by kernel_rfl) hs (by kernel_rfl) (by kernel_rfl) (by kernel_rfl) (z := .int .u8 0) (by kernel_rfl) rfl (by decide) (by decide) (by kernel_rfl) ?_)
      intro s13_A s13_n s13_c w gw hs
      refine ⟨fun _ => trivial, ?_⟩
      obtain ⟨r14, hg, h⟩ := of_bind h
      refine wpS.only 22 (op_call (d := (some 44)) (by kernel_rfl) hs (fun _ => by kernel_rfl) (ref01_Same.ok hg _ (hs.rowL 1 rfl) (hs.rowL 0 rfl)) ?_)
      intro w gw hs
      refine ⟨fun _ => trivial, ?_⟩
      refine wpS.ps [(23, 45, .bool r14), (24, 0, .bool r14)] (by kernel_rfl) ?_
      refine wpS.fin rfl (kr12 _ _ ?_)
      refine then_n (ks11 _ _ ?_)
      refine xret ?_
      have q0 := of_some h
      subst q0
      exact qq _ _ (post_ret (by kernel_rfl) (run_results [.tmp 0] [.bool r14] (by kernel_rfl) (.cons (res_tmp (by kernel_rfl)) .nil)) ⟨congrArg Ending.returned (by kernel_rfl), hs.none⟩)
     ·refine wpS.take 11 false (some 33) (.bool false) (by kernel_rfl) (yld_b (ef hc) (fun _ => by kernel_rfl)) ?_
      refine wpS.ps [(12, 34, .bool false), (13, 35, .bool false), (14, 36, undef), (15, 37, undef), (16, 38, .bool false), (17, 39, .bool false), (18, 40, undef), (19, 41, undef), (20, 42, undef), (21, 43, undef), (22, 44, undef), (23, 45, .bool false), (24, 0, .bool false)] (by kernel_rfl) ?_
      refine wpS.fin rfl (kr12 _ _ ?_)
      refine then_n (ks11 _ _ ?_)
      refine xret ?_
      have q0 := of_some h
      subst q0
      exact qq _ _ (post_ret (by kernel_rfl) (run_results [.tmp 0] [.bool false] (by kernel_rfl) (.cons (res_tmp (by kernel_rfl)) .nil)) ⟨congrArg Ending.returned (by kernel_rfl), hs.none⟩)
    ·refine wpS.take 7 false (some 29) (.bool false) (by kernel_rfl) (yld_b (ef hc) (fun _ => by kernel_rfl)) ?_
     refine wpS.ps [(8, 30, .bool false), (9, 31, .bool false), (10, 32, undef), (11, 33, undef), (12, 34, .bool false), (13, 35, .bool false), (14, 36, undef), (15, 37, undef), (16, 38, .bool false), (17, 39, .bool false), (18, 40, undef), (19, 41, undef), (20, 42, undef), (21, 43, undef), (22, 44, undef), (23, 45, .bool false), (24, 0, .bool false)] (by kernel_rfl) ?_
     refine wpS.fin rfl (kr12 _ _ ?_)
     refine then_n (ks11 _ _ ?_)
     refine xret ?_
     have q0 := of_some h
     subst q0
     exact qq _ _ (post_ret (by kernel_rfl) (run_results [.tmp 0] [.bool false] (by kernel_rfl) (.cons (res_tmp (by kernel_rfl)) .nil)) ⟨congrArg Ending.returned (by kernel_rfl), hs.none⟩)
   ·refine wpS.take 3 false (some 25) (.bool false) (by kernel_rfl) (yld_b (ef hc) (fun _ => by kernel_rfl)) ?_
    refine wpS.ps [(4, 26, .bool false), (5, 27, .bool false), (6, 28, undef), (7, 29, undef), (8, 30, .bool false), (9, 31, .bool false), (10, 32, undef), (11, 33, undef), (12, 34, .bool false), (13, 35, .bool false), (14, 36, undef), (15, 37, undef), (16, 38, .bool false), (17, 39, .bool false), (18, 40, undef), (19, 41, undef), (20, 42, undef), (21, 43, undef), (22, 44, undef), (23, 45, .bool false), (24, 0, .bool false)] (by kernel_rfl) ?_
    refine wpS.fin rfl (kr12 _ _ ?_)
    refine then_n (ks11 _ _ ?_)
    refine xret ?_
    have q0 := of_some h
    subst q0
    exact qq _ _ (post_ret (by kernel_rfl) (run_results [.tmp 0] [.bool false] (by kernel_rfl) (.cons (res_tmp (by kernel_rfl)) .nil)) ⟨congrArg Ending.returned (by kernel_rfl), hs.none⟩)
 | false =>
  have h := of_if_f h
  refine wpS.p 3 11 (.bool false) (by kernel_rfl) ?_
  refine wpS.only 4 (op_alloc (t := 23) (d := (some 1)) (by kernel_rfl) hs ([.int .i64 0, .int .i64 0, .int .i32 0, .int .i64 0, .int .i32 0, .int .i32 0, .int .i64 0, .int .i64 0]) (.agg #[.int .i64 0, .int .i64 0, .int .i32 0, .int .i64 0, .int .i32 0, .int .i32 0, .int .i64 0, .int .i64 0]) (by kernel_rfl) (by kernel_rfl) (by kernel_rfl) ?_)
  intro b15 w gw hs
  refine ⟨fun _ => trivial, ?_⟩
  refine wpS.only 5 (op_storeW (t := 23) (v := .agg #[.int .i64 r1_0, .int .i64 r1_1, .int .i32 r1_2, .int .i64 r1_3, .int .i32 r1_4, .int .i32 r1_5, .int .i64 r1_6, .int .i64 r1_7]) (d := none) (by kernel_rfl) hs 0 rfl (vs := [.int .i64 r1_0, .int .i64 r1_1, .int .i32 r1_2, .int .i64 r1_3, .int .i32 r1_4, .int .i32 r1_5, .int .i64 r1_6, .int .i64 r1_7]) (n := 8) (by kernel_rfl) (by kernel_rfl) (by kernel_rfl) (by simp [enc_len]) (by simp [enc_len]) (by simp [Value.oneCell']) ?_)
  intro w kp hs
  refine ⟨fun _ => trivial, ?_⟩
  refine wpS.p 6 2 (.bool false) (by kernel_rfl) ?_
  refine wpS.fin rfl (kr4 _ _ ?_)
  refine then_n (ks3 _ _ ?_)
  refine xseq_k fun KS13 ks13 => ?_
  refine wp_regS (l := [0, 1, 2, 3, 4, 5, 6, 7, 8]) (by kernel_rfl) (by kernel_rfl) fun KR14 kr14 => ?_
  refine wpS.take 0 true (some 13) (.agg #[.int .i64 r1_0, .int .i64 r1_1, .int .i32 r1_2, .int .i64 r1_3, .int .i32 r1_4, .int .i32 r1_5, .int .i64 r1_6, .int .i64 r1_7]) (by kernel_rfl) (yld_loadW (e := 23) (n := 8) hs 0 rfl (by kernel_rfl) (by kernel_rfl) (by kernel_rfl) (by simp [enc_len]) .grow) ?_
  obtain ⟨⟨r16, r17, r18⟩, hg, h⟩ := of_bind h
  refine wpS.only 1 (op_call (d := (some 14)) (by kernel_rfl) hs (fun _ => by kernel_rfl) (dpack_Sizes.ok hg _) ?_)
  intro w gw hs
  refine ⟨fun _ => trivial, ?_⟩
  refine wpS.ps [(2, 12, .tuple #[.int .i64 r16, .int .i64 r17, .int .i64 r18]), (3, 15, .int .i64 r16), (4, 16, .int .i64 r17), (5, 17, .int .i64 r18), (6, 3, .int .i64 r16), (7, 4, .int .i64 r17), (8, 5, .int .i64 r18)] (by kernel_rfl) ?_
  refine wpS.fin rfl (kr14 _ _ ?_)
  refine then_n (ks13 _ _ ?_)
  refine xseq_k fun KS15 ks15 => ?_
  refine wp_regS (l := [0, 1, 2, 3, 4, 5, 6]) (by kernel_rfl) (by kernel_rfl) fun KR16 kr16 => ?_
  obtain ⟨⟨r19_0, r19_1, r19_2, r19_3, r19_4, r19_5, r19_6, r19_7, r20⟩, hg, h⟩ := of_bind h
  refine wpS.only 0 (op_call (d := (some 19)) (by kernel_rfl) hs (fun _ => by kernel_rfl) (dpack_Set.ok hg _) ?_)
  intro w gw hs
  refine ⟨fun _ => trivial, ?_⟩
  refine wpS.ps [(1, 18, .tuple #[.agg #[.int .i64 r19_0, .int .i64 r19_1, .int .i32 r19_2, .int .i64 r19_3, .int .i32 r19_4, .int .i32 r19_5, .int .i64 r19_6, .int .i64 r19_7], .bool r20]), (2, 20, .agg #[.int .i64 r19_0, .int .i64 r19_1, .int .i32 r19_2, .int .i64 r19_3, .int .i32 r19_4, .int .i32 r19_5, .int .i64 r19_6, .int .i64 r19_7])] (by kernel_rfl) ?_
  cases r20 with
  | true =>
   have h := of_if_t h
   refine wpS.p 3 21 (.bool true) (by kernel_rfl) ?_
   refine wpS.only 4 (op_alloc (t := 23) (d := (some 6)) (by kernel_rfl) hs ([.int .i64 0, .int .i64 0, .int .i32 0, .int .i64 0, .int .i32 0, .int .i32 0, .int .i64 0, .int .i64 0]) (.agg #[.int .i64 0, .int .i64 0, .int .i32 0, .int .i64 0, .int .i32 0, .int .i32 0, .int .i64 0, .int .i64 0]) (by kernel_rfl) (by kernel_rfl) (by kernel_rfl) ?_)
   intro b21 w gw hs
   refine ⟨fun _ => trivial, ?_⟩
   refine wpS.only 5 (op_storeW (t := 23) (v := .agg #[.int .i64 r19_0, .int .i64 r19_1, .int .i32 r19_2, .int .i64 r19_3, .int .i32 r19_4, .int .i32 r19_5, .int .i64 r19_6, .int .i64 r19_7]) (d := none) (by kernel_rfl) hs 0 rfl (vs := [.int .i64 r19_0, .int .i64 r19_1, .int .i32 r19_2, .int .i64 r19_3, .int .i32 r19_4, .int .i32 r19_5, .int .i64 r19_6, .int .i64 r19_7]) (n := 8) (by kernel_rfl) (by kernel_rfl) (by kernel_rfl) (by simp [enc_len]) (by simp [enc_len]) (by simp [Value.oneCell']) ?_)
   intro w kp hs
   refine ⟨fun _ => trivial, ?_⟩
   refine wpS.p 6 7 (.bool true) (by kernel_rfl) ?_
   refine wpS.fin rfl (kr16 _ _ ?_)
   refine then_n (ks15 _ _ ?_)
   refine xseq_k fun KS17 ks17 => ?_
   refine wp_regS (l := [0, 1, 2, 3, 4, 5, 6, 7, 8, 9, 10, 11, 12, 13, 14, 15, 16, 17, 18, 19, 20, 21, 22, 23, 24]) (by kernel_rfl) (by kernel_rfl) fun KR18 kr18 => ?_
   refine wpS.ps [(0, 22, .bool false), (1, 23, .bool false), (2, 24, undef), (3, 25, undef), (4, 26, .bool false), (5, 27, .bool false), (6, 28, undef), (7, 29, undef), (8, 30, .bool false), (9, 31, .bool false), (10, 32, undef), (11, 33, undef), (12, 34, .bool false), (13, 35, .bool false), (14, 36, undef), (15, 37, undef), (16, 38, .bool false), (17, 39, .bool false), (18, 40, undef), (19, 41, undef), (20, 42, undef), (21, 43, undef), (22, 44, undef), (23, 45, .bool false), (24, 0, .bool false)] (by kernel_rfl) ?_
   refine wpS.fin rfl (kr18 _ _ ?_)
   refine then_n (ks17 _ _ ?_)
   refine xret ?_
   have q0 := of_some h
   subst q0
   exact qq _ _ (post_ret (by kernel_rfl) (run_results [.tmp 0] [.bool false] (by kernel_rfl) (.cons (res_tmp (by kernel_rfl)) .nil)) ⟨congrArg Ending.returned (by kernel_rfl), hs.none⟩)
  | false =>
   have h := of_if_f h
   refine wpS.p 3 21 (.bool false) (by kernel_rfl) ?_
   refine wpS.only 4 (op_alloc (t := 23) (d := (some 6)) (by kernel_rfl) hs ([.int .i64 0, .int .i64 0, .int .i32 0, .int .i64 0, .int .i32 0, .int .i32 0, .int .i64 0, .int .i64 0]) (.agg #[.int .i64 0, .int .i64 0, .int .i32 0, .int .i64 0, .int .i32 0, .int .i32 0, .int .i64 0, .int .i64 0]) (by kernel_rfl) (by kernel_rfl) (by kernel_rfl) ?_)
   intro b22 w gw hs
   refine ⟨fun _ => trivial, ?_⟩
   refine wpS.only 5 (op_storeW (t := 23) (v := .agg #[.int .i64 r19_0, .int .i64 r19_1, .int .i32 r19_2, .int .i64 r19_3, .int .i32 r19_4, .int .i32 r19_5, .int .i64 r19_6, .int .i64 r19_7]) (d := none) (by kernel_rfl) hs 0 rfl (vs := [.int .i64 r19_0, .int .i64 r19_1, .int .i32 r19_2, .int .i64 r19_3, .int .i32 r19_4, .int .i32 r19_5, .int .i64 r19_6, .int .i64 r19_7]) (n := 8) (by kernel_rfl) (by kernel_rfl) (by kernel_rfl) (by simp [enc_len]) (by simp [enc_len]) (by simp [Value.oneCell']) ?_)
   intro w kp hs
   refine ⟨fun _ => trivial, ?_⟩
   refine wpS.p 6 7 (.bool false) (by kernel_rfl) ?_
   refine wpS.fin rfl (kr16 _ _ ?_)
   refine then_n (ks15 _ _ ?_)
   refine xseq_k fun KS19 ks19 => ?_
   refine wp_regS (l := [0, 1, 2, 3, 4, 5, 6, 7, 8, 9, 10, 11, 12, 13, 14, 15, 16, 17, 18, 19, 20, 21, 22, 23, 24]) (by kernel_rfl) (by kernel_rfl) fun KR20 kr20 => ?_
   refine wpS.ps [(0, 22, .bool false), (1, 23, .bool false), (2, 24, undef), (3, 25, undef), (4, 26, .bool false), (5, 27, .bool false), (6, 28, undef), (7, 29, undef), (8, 30, .bool false), (9, 31, .bool false), (10, 32, undef), (11, 33, undef), (12, 34, .bool false), (13, 35, .bool false), (14, 36, undef), (15, 37, undef), (16, 38, .bool false), (17, 39, .bool false), (18, 40, undef), (19, 41, undef), (20, 42, undef), (21, 43, undef), (22, 44, undef), (23, 45, .bool false), (24, 0, .bool false)] (by kernel_rfl) ?_
   refine wpS.fin rfl (kr20 _ _ ?_)
   refine then_n (ks19 _ _ ?_)
   refine xret ?_
   have q0 := of_some h
   subst q0
   exact qq _ _ (post_ret (by kernel_rfl) (run_results [.tmp 0] [.bool false] (by kernel_rfl) (.cons (res_tmp (by kernel_rfl)) .nil)) ⟨congrArg Ending.returned (by kernel_rfl), hs.none⟩)

theorem dpack_span_fit.ok {K : Nat} {a0_0 : Int} {a0_1 : Int} {r0 : Bool} (h : dpack_span_fit.f K a0_0 a0_1 = some r0) (w0 : World) : Ret Try.prog 47 #[.agg #[.int .i32 a0_0, .int .i32 a0_1]] w0 (.bool r0) := by
 refine calls_k Try.func47 rfl fun Q qq => ?_
 have hs := St.start w0
 refine wp_conv (a' := ⟨#[.agg #[.int .i32 a0_0, .int .i32 a0_1], undef, undef, undef, undef, undef, undef, undef, undef, undef, undef, undef, undef, undef, undef, undef, undef, undef, undef, undef, undef], []⟩) (by kernel_rfl) ?_
 refine xseq_k fun KS1 ks1 => ?_
 refine wp_regS (l := [0, 1]) (by kernel_rfl) (by kernel_rfl) fun KR2 kr2 => ?_
 refine wpS.only 0 (op_box (t := 73) (v := .agg #[.int .i32 a0_0, .int .i32 a0_1]) (d := (some 1)) (by kernel_rfl) hs ([.int .i32 a0_0, .int .i32 a0_1]) (by kernel_rfl) (by kernel_rfl) ?_)
 intro b1 w gw hs
 refine ⟨fun _ => trivial, ?_⟩
 refine wpS.p 1 2 (.bool false) (by kernel_rfl) ?_
 refine wpS.fin rfl (kr2 _ _ ?_)
 refine then_n (ks1 _ _ ?_)
 refine xseq_k fun KS3 ks3 => ?_
 refine wp_regS (l := [0, 1, 2, 3, 4, 5, 6, 7, 8, 9, 10, 11, 12, 13, 14, 15, 16, 17, 18]) (by kernel_rfl) (by kernel_rfl) fun KR4 kr4 => ?_
 refine wpS.p 0 3 (.pointer (some ⟨b1, 0, none⟩)) (by kernel_rfl) ?_
 refine wpS.take 1 true (some 4) (.int .i32 a0_0) (by kernel_rfl) (yld_load1 (e := 21) (o := 0) hs 0 rfl (by kernel_rfl) (by kernel_rfl) (by rfl) .grow) ?_
 rcases of_if h with ⟨hc, h⟩ | ⟨hc, h⟩
 ·refine wpS.take 2 false (some 5) (.bool true) (by kernel_rfl) (yld_b (dt hc) (fun _ => by kernel_rfl)) ?_
  refine wpS.ps [(3, 6, .bool true), (4, 7, .pointer (some ⟨b1, 0, none⟩))] (by kernel_rfl) ?_
  refine wpS.take 5 true (some 8) (.int .i32 a0_0) (by kernel_rfl) (yld_load1 (e := 21) (o := 0) hs 0 rfl (by kernel_rfl) (by kernel_rfl) (by rfl) .grow) ?_
  rcases of_if h with ⟨hc, h⟩ | ⟨hc, h⟩
  ·refine wpS.take 6 false (some 9) (.bool true) (by kernel_rfl) (yld_b (dt hc) (fun _ => by kernel_rfl)) ?_
   refine wpS.ps [(7, 10, .bool true), (8, 11, .bool true), (9, 12, .pointer (some ⟨b1, 1, none⟩))] (by kernel_rfl) ?_
   refine wpS.take 10 true (some 13) (.int .i32 a0_1) (by kernel_rfl) (yld_load1 (e := 21) (o := 1) hs 0 rfl (by kernel_rfl) (by kernel_rfl) (by rfl) .grow) ?_
   rcases of_if h with ⟨hc, h⟩ | ⟨hc, h⟩
   ·refine wpS.take 11 false (some 14) (.bool true) (by kernel_rfl) (yld_b (dt hc) (fun _ => by kernel_rfl)) ?_
    refine wpS.ps [(12, 15, .bool true), (13, 16, .bool true), (14, 17, .pointer (some ⟨b1, 1, none⟩))] (by kernel_rfl) ?_
    refine wpS.take 15 true (some 18) (.int .i32 a0_1) (by kernel_rfl) (yld_load1 (e := 21) (o := 1) hs 0 rfl (by kernel_rfl) (by kernel_rfl) (by rfl) .grow) ?_
    refine wpS.ps [(16, 19, .bool (decide (a0_1 ≤ 1048576))), (17, 20, .bool (decide (a0_1 ≤ 1048576))), (18, 2, .bool (decide (a0_1 ≤ 1048576)))] (by kernel_rfl) ?_
    refine wpS.fin rfl (kr4 _ _ ?_)
    refine then_n (ks3 _ _ ?_)
    refine xret ?_
    have q0 := of_some h
    subst q0
    exact qq _ _ (post_ret (by kernel_rfl) (run_results [.tmp 2] [.bool (decide (a0_1 ≤ 1048576))] (by kernel_rfl) (.cons (res_tmp (by kernel_rfl)) .nil)) ⟨congrArg Ending.returned (by kernel_rfl), hs.none⟩)
   ·refine wpS.take 11 false (some 14) (.bool false) (by kernel_rfl) (yld_b (df hc) (fun _ => by kernel_rfl)) ?_
    refine wpS.ps [(12, 15, .bool false), (13, 16, .bool false), (14, 17, undef), (15, 18, undef), (16, 19, undef), (17, 20, .bool false), (18, 2, .bool false)] (by kernel_rfl) ?_
    refine wpS.fin rfl (kr4 _ _ ?_)
    refine then_n (ks3 _ _ ?_)
    refine xret ?_
    have q0 := of_some h
    subst q0
    exact qq _ _ (post_ret (by kernel_rfl) (run_results [.tmp 2] [.bool false] (by kernel_rfl) (.cons (res_tmp (by kernel_rfl)) .nil)) ⟨congrArg Ending.returned (by kernel_rfl), hs.none⟩)
  ·refine wpS.take 6 false (some 9) (.bool false) (by kernel_rfl) (yld_b (df hc) (fun _ => by kernel_rfl)) ?_
   refine wpS.ps [(7, 10, .bool false), (8, 11, .bool false), (9, 12, undef), (10, 13, undef), (11, 14, undef), (12, 15, .bool false), (13, 16, .bool false), (14, 17, undef), (15, 18, undef), (16, 19, undef), (17, 20, .bool false), (18, 2, .bool false)] (by kernel_rfl) ?_
   refine wpS.fin rfl (kr4 _ _ ?_)
   refine then_n (ks3 _ _ ?_)
   refine xret ?_
   have q0 := of_some h
   subst q0
   exact qq _ _ (post_ret (by kernel_rfl) (run_results [.tmp 2] [.bool false] (by kernel_rfl) (.cons (res_tmp (by kernel_rfl)) .nil)) ⟨congrArg Ending.returned (by kernel_rfl), hs.none⟩)
 ·refine wpS.take 2 false (some 5) (.bool false) (by kernel_rfl) (yld_b (df hc) (fun _ => by kernel_rfl)) ?_
  refine wpS.ps [(3, 6, .bool false), (4, 7, undef), (5, 8, undef), (6, 9, undef), (7, 10, .bool false), (8, 11, .bool false), (9, 12, undef), (10, 13, undef), (11, 14, undef), (12, 15, .bool false), (13, 16, .bool false), (14, 17, undef), (15, 18, undef), (16, 19, undef), (17, 20, .bool false), (18, 2, .bool false)] (by kernel_rfl) ?_
  refine wpS.fin rfl (kr4 _ _ ?_)
  refine then_n (ks3 _ _ ?_)
  refine xret ?_
  have q0 := of_some h
  subst q0
  exact qq _ _ (post_ret (by kernel_rfl) (run_results [.tmp 2] [.bool false] (by kernel_rfl) (.cons (res_tmp (by kernel_rfl)) .nil)) ⟨congrArg Ending.returned (by kernel_rfl), hs.none⟩)

theorem zq_Fit.ok {K : Nat} {a0 : Arr 256} {r0 : Bool} (h : zq_Fit.f K a0 = some r0) (w0 : World) : Ret Try.prog 56 #[.agg (enc .i32 a0).toArray] w0 (.bool r0) := by
 refine calls_k Try.func56 rfl fun Q qq => ?_
 have hs := St.start w0
 refine wp_conv (a' := ⟨#[.agg (enc .i32 a0).toArray, undef, undef, undef, undef, undef, undef, undef, undef, undef, undef, undef, undef, undef, undef, undef], []⟩) (by kernel_rfl) ?_
 refine xseq_k fun KS1 ks1 => ?_
 refine wp_regS (l := [0, 1]) (by kernel_rfl) (by kernel_rfl) fun KR2 kr2 => ?_
 refine wpS.only 0 (op_box (t := 40) (v := .agg (enc .i32 a0).toArray) (d := (some 1)) (by kernel_rfl) hs (enc .i32 a0) (by kernel_rfl) (by kernel_rfl) ?_)
 intro b1 w gw hs
 refine ⟨fun _ => trivial, ?_⟩
 refine wpS.p 1 2 (.bool false) (by kernel_rfl) ?_
 refine wpS.fin rfl (kr2 _ _ ?_)
 refine then_n (ks1 _ _ ?_)
 refine xseq_k fun KS3 ks3 => ?_
 refine xseq_k fun KS4 ks4 => ?_
 refine wp_regS (l := [0, 1]) (by kernel_rfl) (by kernel_rfl) fun KR5 kr5 => ?_
 refine wpS.take 0 true (some 5) (.agg (enc .i32 a0).toArray) (by kernel_rfl) (yld_loadW (e := 40) (n := 256) hs 0 rfl (by kernel_rfl) (by kernel_rfl) (by kernel_rfl) (by exact enc_len _ _) .grow) ?_
 refine wpS.p 1 6 (.int .i64 0) (by kernel_rfl) ?_
 refine wpS.fin rfl (kr5 _ _ ?_)
 refine then_n (ks4 _ _ ?_)
 obtain ⟨t0, hy, hk0⟩ := of_bind h
 refine wp_exq (N := fun a w => t0 = .inl () ∧ St w0 [] [.blk b1 (enc .i32 a0) 40] [] w ∧ ∃ g : Nat → Value, a = ⟨#[.agg (enc .i32 a0).toArray, .pointer (some ⟨b1, 0, none⟩), (g 2), undef, (g 4), .agg (enc .i32 a0).toArray, (g 6), (g 7), (g 8), (g 9), (g 10), (g 11), (g 12), (g 13), (g 14), (g 15)], []⟩) (fun N0 nn0 => ?_) ?_
 ·refine xblock ?_
  refine wp_loop_k (fun n a w => ∃ z2, zq_Fit.l0 K n a0 z2 = some t0 ∧ St w0 [] [.blk b1 (enc .i32 a0) 40] [] w ∧ ∃ g : Nat → Value, a = ⟨#[.agg (enc .i32 a0).toArray, .pointer (some ⟨b1, 0, none⟩), (g 2), undef, (g 4), .agg (enc .i32 a0).toArray, .int .i64 z2, (g 7), (g 8), (g 9), (g 10), (g 11), (g 12), (g 13), (g 14), (g 15)], []⟩) K ⟨0, hy, hs.conv rfl, exg (by kernel_rfl)⟩ ?_
  clear hs h hy
  rintro n a w ⟨z2, h, hs, g, rfl⟩ KL0 kl0
  cases n with
  | zero => exact nomatch (show none = some _ from h)
  | succ n =>
   refine xseq_k fun KS6 ks6 => ?_
   refine wp_regS (l := [0]) (by kernel_rfl) (by kernel_rfl) fun KR7 kr7 => ?_
   rcases of_if h with ⟨hc, h⟩ | ⟨hc, h⟩
   ·refine wpS.take 0 false (some 7) (.bool true) (by kernel_rfl) (yld_b (dt hc) (fun _ => by kernel_rfl)) ?_
    refine wpS.fin rfl (kr7 _ _ ?_)
    refine then_n (ks6 _ _ ?_)
    refine xseq_k fun KS8 ks8 => ?_
    refine wp_cond_t (by kernel_rfl) ?_
    refine xskip ?_
    refine then_n (ks8 _ _ ?_)
    refine xseq_k fun KS9 ks9 => ?_
    refine xblock ?_
    refine xseq_k fun KS10 ks10 => ?_
    refine wp_regS (l := [0, 1]) (by kernel_rfl) (by kernel_rfl) fun KR11 kr11 => ?_
    obtain ⟨h0, h⟩ := of_chk h
    obtain ⟨h1, h⟩ := of_chk h
    refine wpS.take 0 false (some 8) (.int .i32 (rd a0 z2)) (by kernel_rfl) (yld_at (t := 40) (e := 21) (k' := .i64) (by kernel_rfl) (by kernel_rfl) (by kernel_rfl) (by kernel_rfl) h0 h1) ?_
    obtain ⟨x3, hx, h⟩ := of_bind h
    refine wpS.take 1 false (some 4) (.int .i32 x3) (by kernel_rfl) (yld_int hx (fun _ => by kernel_rfl)) ?_
    refine wpS.fin rfl (kr11 _ _ ?_)
    refine then_n (ks10 _ _ ?_)
    refine xseq_k fun KS12 ks12 => ?_
    refine wp_regS (l := [0, 1, 2, 3, 4, 5]) (by kernel_rfl) (by kernel_rfl) fun KR13 kr13 => ?_
    refine wpS.p 0 9 (.int .i32 x3) (by kernel_rfl) ?_
    rcases of_if h with ⟨hc, h⟩ | ⟨hc, h⟩
    ·refine wpS.take 1 false (some 10) (.bool true) (by kernel_rfl) (yld_b (dt hc) (fun _ => by kernel_rfl)) ?_
     refine wpS.ps [(2, 11, .bool true), (3, 12, undef), (4, 13, undef), (5, 14, .bool true)] (by kernel_rfl) ?_
     refine wpS.fin rfl (kr13 _ _ ?_)
     refine then_n (ks12 _ _ ?_)
     refine wp_cond_t (by kernel_rfl) ?_
     refine xseq_k fun KS14 ks14 => ?_
     refine wp_regS (l := [0]) (by kernel_rfl) (by kernel_rfl) fun KR15 kr15 => ?_
     refine wpS.p 0 2 (.bool false) (by kernel_rfl) ?_
     refine wpS.fin rfl (kr15 _ _ ?_)
     refine then_n (ks14 _ _ ?_)
     refine xret ?_
     refine inBlock_r ?_
     refine then_r ?_
     refine then_r ?_
     refine inBlock_r ?_
     refine exq_r ?_
     refine then_r ?_
     have q0 := of_some h
     subst q0
     have q0 := of_some hk0
     subst q0
     exact qq _ _ (post_ret (by kernel_rfl) (run_results [.tmp 2] [.bool false] (by kernel_rfl) (.cons (res_tmp (by kernel_rfl)) .nil)) ⟨congrArg Ending.returned (by kernel_rfl), hs.none⟩)
    ·refine wpS.take 1 false (some 10) (.bool false) (by kernel_rfl) (yld_b (df hc) (fun _ => by kernel_rfl)) ?_
     refine wpS.ps [(2, 11, .bool false), (3, 12, .int .i32 x3)] (by kernel_rfl) ?_
     rcases of_if h with ⟨hc, h⟩ | ⟨hc, h⟩
     ·refine wpS.take 4 false (some 13) (.bool true) (by kernel_rfl) (yld_b (dt hc) (fun _ => by kernel_rfl)) ?_
      refine wpS.p 5 14 (.bool true) (by kernel_rfl) ?_
      refine wpS.fin rfl (kr13 _ _ ?_)
      refine then_n (ks12 _ _ ?_)
      refine wp_cond_t (by kernel_rfl) ?_
      refine xseq_k fun KS16 ks16 => ?_
      refine wp_regS (l := [0]) (by kernel_rfl) (by kernel_rfl) fun KR17 kr17 => ?_
      refine wpS.p 0 2 (.bool false) (by kernel_rfl) ?_
      refine wpS.fin rfl (kr17 _ _ ?_)
      refine then_n (ks16 _ _ ?_)
      refine xret ?_
      refine inBlock_r ?_
      refine then_r ?_
      refine then_r ?_
      refine inBlock_r ?_
      refine exq_r ?_
      refine then_r ?_
      have q0 := of_some h
      subst q0
      have q0 := of_some hk0
      subst q0
      exact qq _ _ (post_ret (by kernel_rfl) (run_results [.tmp 2] [.bool false] (by kernel_rfl) (.cons (res_tmp (by kernel_rfl)) .nil)) ⟨congrArg Ending.returned (by kernel_rfl), hs.none⟩)
     ·refine wpS.take 4 false (some 13) (.bool false) (by kernel_rfl) (yld_b (df hc) (fun _ => by kernel_rfl)) ?_
      refine wpS.p 5 14 (.bool false) (by kernel_rfl) ?_
      refine wpS.fin rfl (kr13 _ _ ?_)
      refine then_n (ks12 _ _ ?_)
      refine wp_cond_f (by kernel_rfl) ?_
      refine xskip ?_
      refine inBlock_n ?_
      refine then_n (ks9 _ _ ?_)
      refine wp_regS (l := [0, 1]) (by kernel_rfl) (by kernel_rfl) fun KR18 kr18 => ?_
      refine wpS.ps [(0, 15, .int .i64 (iadd .i64 z2 1)), (1, 6, .int .i64 (iadd .i64 z2 1))] (by kernel_rfl) ?_
      refine wpS.fin rfl (kr18 _ _ ?_)
      exact then_n (kl0 _ _ ⟨n, Nat.lt_succ_self n, (iadd .i64 z2 1), h, (hs.conv rfl), exg (by kernel_rfl)⟩)
   ·refine wpS.take 0 false (some 7) (.bool false) (by kernel_rfl) (yld_b (df hc) (fun _ => by kernel_rfl)) ?_
    refine wpS.fin rfl (kr7 _ _ ?_)
    refine then_n (ks6 _ _ ?_)
    refine xseq_k fun KS19 ks19 => ?_
    refine wp_cond_f (by kernel_rfl) ?_
    refine xexit ?_
    refine then_x ?_
    refine then_x ?_
    refine inBlock_hit ?_
    have q0 := of_some h
    subst q0
    exact exq_n (nn0 _ _ ⟨rfl, (hs.conv rfl), exg (by kernel_rfl)⟩)
 ·clear hs h hy
  rintro a w ⟨rfl, hs, g, rfl⟩
  have h := hk0
  refine then_n (ks3 _ _ ?_)
  refine xseq_k fun KS20 ks20 => ?_
  refine wp_regS (l := [0]) (by kernel_rfl) (by kernel_rfl) fun KR21 kr21 => ?_
  refine wpS.p 0 2 (.bool true) (by kernel_rfl) ?_
  refine wpS.fin rfl (kr21 _ _ ?_)
  refine then_n (ks20 _ _ ?_)
  refine xret ?_
  have q0 := of_some h
  subst q0
  exact qq _ _ (post_ret (by kernel_rfl) (run_results [.tmp 2] [.bool true] (by kernel_rfl) (.cons (res_tmp (by kernel_rfl)) .nil)) ⟨congrArg Ending.returned (by kernel_rfl), hs.none⟩)

theorem dpack_span_turned.ok {K : Nat} {a0_0 : Int} {a0_1 : Int} {a1 : Int} {r0 : Int} {r1 : Bool} (h : dpack_span_turned.f K a0_0 a0_1 a1 = some (r0, r1)) (w0 : World) : Ret Try.prog 57 #[.agg #[.int .i32 a0_0, .int .i32 a0_1], .int .i32 a1] w0 (.tuple #[.int .u32 r0, .bool r1]) := by
 refine calls_k Try.func57 rfl fun Q qq => ?_
 have hs := St.start w0
 refine wp_conv (a' := ⟨#[.agg #[.int .i32 a0_0, .int .i32 a0_1], .int .i32 a1, undef, undef, undef, undef, undef, undef, undef, undef, undef, undef, undef, undef, undef, undef, undef, undef, undef, undef, undef, undef, undef, undef, undef, undef, undef, undef, undef, undef, undef, undef, undef, undef, undef], []⟩) (by kernel_rfl) ?_
 refine xseq_k fun KS1 ks1 => ?_
 refine wp_regS (l := [0, 1, 2]) (by kernel_rfl) (by kernel_rfl) fun KR2 kr2 => ?_
 refine wpS.only 0 (op_box (t := 73) (v := .agg #[.int .i32 a0_0, .int .i32 a0_1]) (d := (some 2)) (by kernel_rfl) hs ([.int .i32 a0_0, .int .i32 a0_1]) (by kernel_rfl) (by kernel_rfl) ?_)
 intro b1 w gw hs
 refine ⟨fun _ => trivial, ?_⟩
 refine wpS.ps [(1, 4, .int .u32 0), (2, 5, .bool false)] (by kernel_rfl) ?_
 refine wpS.fin rfl (kr2 _ _ ?_)
 refine then_n (ks1 _ _ ?_)
 refine xseq_k fun KS3 ks3 => ?_
 refine xseq_k fun KS4 ks4 => ?_
 refine wp_regS (l := [0, 1, 2]) (by kernel_rfl) (by kernel_rfl) fun KR5 kr5 => ?_
 refine wpS.p 0 6 (.pointer (some ⟨b1, 0, none⟩)) (by kernel_rfl) ?_
 refine wpS.take 1 true (some 7) (.int .i32 a0_0) (by kernel_rfl) (yld_load1 (e := 21) (o := 0) hs 0 rfl (by kernel_rfl) (by kernel_rfl) (by rfl) .grow) ?_
 rcases of_if h with ⟨hc, h⟩ | ⟨hc, h⟩
 ·refine wpS.take 2 false (some 8) (.bool true) (by kernel_rfl) (yld_b (dt hc) (fun _ => by kernel_rfl)) ?_
  refine wpS.fin rfl (kr5 _ _ ?_)
  refine then_n (ks4 _ _ ?_)
  refine wp_cond_t (by kernel_rfl) ?_
  refine xseq_k fun KS6 ks6 => ?_
  refine wp_regG [] (fun k => True) 8 (by kernel_rfl) (by kernel_rfl) (by kernel_rfl) fun KR7 kr7 => ?_
  have hs := hs.drawn1
  refine wpG.p 0 9 (.int .i32 a1) (by kernel_rfl) (by kernel_rfl) ?_
  refine wpG.p 1 10 (.int .u32 (iconv .u32 a1)) (by kernel_rfl) (by kernel_rfl) ?_
  refine wpG.p 2 11 (.int .i32 a1) (by kernel_rfl) (by kernel_rfl) ?_
  refine wpG.takeD 3 false (some 12) (.pointer (some ⟨b1, 1, none⟩)) (by kernel_rfl) (by kernel_rfl) (yld fun _ => by kernel_rfl) ?_
  refine wpG.takeD 4 true (some 13) (.int .i32 a0_1) (by kernel_rfl) (by kernel_rfl) (yld_load1 (e := 21) (o := 1) hs 0 rfl (by kernel_rfl) (by kernel_rfl) (by rfl) .grow) ?_
  refine wpG.p 5 14 (.bool (decide (a1 ≤ a0_1))) (by kernel_rfl) (by kernel_rfl) ?_
  obtain ⟨x2, hx, h⟩ := of_bind h
  refine wpG.takeD 6 false (some 4) (.int .u32 x2) (by kernel_rfl) (by kernel_rfl) (yld_int hx (fun _ => by kernel_rfl)) ?_
  refine wpG.p 7 5 (.bool (decide (a1 ≤ a0_1))) (by kernel_rfl) (by kernel_rfl) ?_
  refine wpG.fin (by kernel_rfl) rfl (kr7 _ _ ?_)
  refine then_n (ks6 _ _ ?_)
  refine xret ?_
  refine then_r ?_
  obtain ⟨q0, qr0⟩ := Prod.mk.inj (of_some h)
  have q1 := qr0
  subst q0
  subst q1
  exact qq _ _ (post_ret (by kernel_rfl) (run_results [.tmp 4, .tmp 5] [.int .u32 x2, .bool (decide (a1 ≤ a0_1))] (by kernel_rfl) (.cons (res_tmp (by kernel_rfl)) (.cons (res_tmp (by kernel_rfl)) .nil))) ⟨congrArg Ending.returned (by kernel_rfl), hs.none⟩)
 ·refine wpS.take 2 false (some 8) (.bool false) (by kernel_rfl) (yld_b (df hc) (fun _ => by kernel_rfl)) ?_
  refine wpS.fin rfl (kr5 _ _ ?_)
  refine then_n (ks4 _ _ ?_)
  refine wp_cond_f (by kernel_rfl) ?_
  refine xskip ?_
  refine then_n (ks3 _ _ ?_)
  obtain ⟨y3, hj, h⟩ := of_bind h
  refine xseq_k fun KS8 ks8 => wp_join (N := fun a w => St w0 [] [.blk b1 ([.int .i32 a0_0, .int .i32 a0_1]) 73] [] w ∧ ∃ g : Nat → Value, a = ⟨#[.agg #[.int .i32 a0_0, .int .i32 a0_1], .int .i32 y3, .pointer (some ⟨b1, 0, none⟩), undef, .int .u32 0, .bool false, .pointer (some ⟨b1, 0, none⟩), .int .i32 a0_0, .bool false, undef, undef, undef, undef, undef, undef, (g 15), (g 16), (g 17), (g 18), undef, undef, undef, undef, undef, undef, undef, undef, undef, undef, undef, undef, undef, undef, undef, undef], []⟩) (fun N nj => ?_) ?_
  ·clear h
   have h := hj
   refine xseq_k fun KS9 ks9 => ?_
   refine wp_regS (l := [0, 1]) (by kernel_rfl) (by kernel_rfl) fun KR10 kr10 => ?_
   refine wpS.p 0 15 (.int .i32 a1) (by kernel_rfl) ?_
   rcases of_if h with ⟨hc, h⟩ | ⟨hc, h⟩
   ·refine wpS.take 1 false (some 16) (.bool true) (by kernel_rfl) (yld_b (dt hc) (fun _ => by kernel_rfl)) ?_
    refine wpS.fin rfl (kr10 _ _ ?_)
    refine then_n (ks9 _ _ ?_)
    refine wp_cond_t (by kernel_rfl) ?_
    refine wp_regS (l := [0, 1, 2]) (by kernel_rfl) (by kernel_rfl) fun KR11 kr11 => ?_
    refine wpS.ps [(0, 17, .int .i32 a1), (1, 18, .int .i32 (isub .i32 a1 8380417))] (by kernel_rfl) ?_
    obtain ⟨x4, hx, h⟩ := of_bind h
    refine wpS.take 2 false (some 1) (.int .i32 x4) (by kernel_rfl) (yld_int hx (fun _ => by kernel_rfl)) ?_
    refine wpS.fin rfl (kr11 _ _ ?_)
    have q0 := of_some h
    subst q0
    exact nj _ _ ⟨(hs.conv rfl), exg (by kernel_rfl)⟩
   ·refine wpS.take 1 false (some 16) (.bool false) (by kernel_rfl) (yld_b (df hc) (fun _ => by kernel_rfl)) ?_
    refine wpS.fin rfl (kr10 _ _ ?_)
    refine then_n (ks9 _ _ ?_)
    refine wp_cond_f (by kernel_rfl) ?_
    refine xskip ?_
    have q0 := of_some h
    subst q0
    exact nj _ _ ⟨(hs.conv rfl), exg (by kernel_rfl)⟩
  ·clear hj hs
   rintro a w ⟨hs, g, rfl⟩
   refine then_n (ks8 _ _ ?_)
   refine xseq_k fun KS12 ks12 => ?_
   refine wp_regG [] (fun k => True) 18 (by kernel_rfl) (by kernel_rfl) (by kernel_rfl) fun KR13 kr13 => ?_
   have hs := hs.drawn1
   refine wpG.takeD 0 false (some 19) (.pointer (some ⟨b1, 1, none⟩)) (by kernel_rfl) (by kernel_rfl) (yld fun _ => by kernel_rfl) ?_
   refine wpG.takeD 1 true (some 20) (.int .i32 a0_1) (by kernel_rfl) (by kernel_rfl) (yld_load1 (e := 21) (o := 1) hs 0 rfl (by kernel_rfl) (by kernel_rfl) (by rfl) .grow) ?_
   refine wpG.takeD 2 false (some 21) (.int .i32 y3) (by kernel_rfl) (by kernel_rfl) (yld fun _ => by kernel_rfl) ?_
   refine wpG.p 3 22 (.int .i32 (isub .i32 a0_1 y3)) (by kernel_rfl) (by kernel_rfl) ?_
   refine wpG.p 4 23 (.int .u32 (iconv .u32 (isub .i32 a0_1 y3))) (by kernel_rfl) (by kernel_rfl) ?_
   refine wpG.takeD 5 false (some 24) (.int .i32 y3) (by kernel_rfl) (by kernel_rfl) (yld fun _ => by kernel_rfl) ?_
   refine wpG.takeD 6 false (some 25) (.pointer (some ⟨b1, 0, none⟩)) (by kernel_rfl) (by kernel_rfl) (yld fun _ => by kernel_rfl) ?_
   refine wpG.takeD 7 true (some 26) (.int .i32 a0_0) (by kernel_rfl) (by kernel_rfl) (yld_load1 (e := 21) (o := 0) hs 0 rfl (by kernel_rfl) (by kernel_rfl) (by rfl) .grow) ?_
   refine wpG.takeD 8 false (some 27) (.int .i32 (isub .i32 0 a0_0)) (by kernel_rfl) (by kernel_rfl) (yld fun _ => by kernel_rfl) ?_
   rcases of_if h with ⟨hc, h⟩ | ⟨hc, h⟩
   ·refine wpG.takeD 9 false (some 28) (.bool true) (by kernel_rfl) (by kernel_rfl) (yld_b (dt hc) (fun _ => by kernel_rfl)) ?_
    refine wpG.p 10 29 (.bool true) (by kernel_rfl) (by kernel_rfl) ?_
    refine wpG.takeD 11 false (some 30) (.int .i32 y3) (by kernel_rfl) (by kernel_rfl) (yld fun _ => by kernel_rfl) ?_
    refine wpG.takeD 12 false (some 31) (.pointer (some ⟨b1, 1, none⟩)) (by kernel_rfl) (by kernel_rfl) (yld fun _ => by kernel_rfl) ?_
    refine wpG.takeD 13 true (some 32) (.int .i32 a0_1) (by kernel_rfl) (by kernel_rfl) (yld_load1 (e := 21) (o := 1) hs 0 rfl (by kernel_rfl) (by kernel_rfl) (by rfl) .grow) ?_
    refine wpG.p 14 33 (.bool (decide (y3 ≤ a0_1))) (by kernel_rfl) (by kernel_rfl) ?_
    refine wpG.p 15 34 (.bool (decide (y3 ≤ a0_1))) (by kernel_rfl) (by kernel_rfl) ?_
    obtain ⟨x5, hx, h⟩ := of_bind h
    refine wpG.takeD 16 false (some 4) (.int .u32 x5) (by kernel_rfl) (by kernel_rfl) (yld_int hx (fun _ => by kernel_rfl)) ?_
    refine wpG.p 17 5 (.bool (decide (y3 ≤ a0_1))) (by kernel_rfl) (by kernel_rfl) ?_
    refine wpG.fin (by kernel_rfl) rfl (kr13 _ _ ?_)
    refine then_n (ks12 _ _ ?_)
    refine xret ?_
    obtain ⟨q0, qr0⟩ := Prod.mk.inj (of_some h)
    have q1 := qr0
    subst q0
    subst q1
    exact qq _ _ (post_ret (by kernel_rfl) (run_results [.tmp 4, .tmp 5] [.int .u32 x5, .bool (decide (y3 ≤ a0_1))] (by kernel_rfl) (.cons (res_tmp (by kernel_rfl)) (.cons (res_tmp (by kernel_rfl)) .nil))) ⟨congrArg Ending.returned (by kernel_rfl), hs.none⟩)
   ·refine wpG.takeD 9 false (some 28) (.bool false) (by kernel_rfl) (by kernel_rfl) (yld_b (df hc) (fun _ => by kernel_rfl)) ?_
    refine wpG.p 10 29 (.bool false) (by kernel_rfl) (by kernel_rfl) ?_
    refine wpG.takeD 11 false (some 30) (undef) (by kernel_rfl) (by kernel_rfl) (yld fun _ => by kernel_rfl) ?_
    refine wpG.takeD 12 false (some 31) (undef) (by kernel_rfl) (by kernel_rfl) (yld fun _ => by kernel_rfl) ?_
    refine wpG.takeD 13 false (some 32) (undef) (by kernel_rfl) (by kernel_rfl) (yld fun _ => by kernel_rfl) ?_
    refine wpG.p 14 33 (undef) (by kernel_rfl) (by kernel_rfl) ?_
    refine wpG.p 15 34 (.bool false) (by kernel_rfl) (by kernel_rfl) ?_
    obtain ⟨x6, hx, h⟩ := of_bind h
    refine wpG.takeD 16 false (some 4) (.int .u32 x6) (by kernel_rfl) (by kernel_rfl) (yld_int hx (fun _ => by kernel_rfl)) ?_
    refine wpG.p 17 5 (.bool false) (by kernel_rfl) (by kernel_rfl) ?_
    refine wpG.fin (by kernel_rfl) rfl (kr13 _ _ ?_)
    refine then_n (ks12 _ _ ?_)
    refine xret ?_
    obtain ⟨q0, qr0⟩ := Prod.mk.inj (of_some h)
    have q1 := qr0
    subst q0
    subst q1
    exact qq _ _ (post_ret (by kernel_rfl) (run_results [.tmp 4, .tmp 5] [.int .u32 x6, .bool false] (by kernel_rfl) (.cons (res_tmp (by kernel_rfl)) (.cons (res_tmp (by kernel_rfl)) .nil))) ⟨congrArg Ending.returned (by kernel_rfl), hs.none⟩)
end Go.Proofs.Ytblploekkjeolaa
