/- Printed by this work's own program: the code of each function below comes to the answer that its plain form tells. -/
import Derived.Test.YtblploekkjeolaaMv
import Derived.Test.YtblploekkjeolaaProg
import Derived.Test.YtblploekkjeolaaDF0
import Derived.Test.YtblploekkjeolaaDX0
import Derived.Test.YtblploekkjeolaaDX1
set_option linter.unusedVariables false
set_option linter.unusedSimpArgs false
set_option maxRecDepth 100000
set_option maxHeartbeats 4000000
namespace Go.Proofs.Ytblploekkjeolaa
open Go.Mx
attribute [local irreducible] wpOp

theorem bits_Pack.ok {K : Nat} {a0 : List Int} {a1 : Int} {r0 : List Int} {a0_A : Option Addr} {a0_n : Nat} {a0_c : Nat} (h : bits_Pack.f K a0 a1 = some r0) (w0 : World) (hp0 : RowL (CI .u32) w0 a0_A a0_n a0_c a0) : Calls Try.prog 58 #[.slice a0_A a0_n a0_c, .int .i64 a1] w0 fun e w' => ∃ h : (Option Addr × Nat × Nat), e = .returned (.slice h.1 h.2.1 h.2.2) ∧ St w0 [] [.ownL (CI .u8) h.1 h.2.1 h.2.2 r0 5] [] w' := by
 refine calls_k Try.func58 rfl fun Q qq => ?_
 have hs := St.startR (all_cons (RowP.ent hp0) all_nil)
 refine wp_conv (a' := ⟨#[.slice a0_A a0_n a0_c, .int .i64 a1, undef, undef, undef, undef, undef, undef, undef, undef, undef, undef, undef, undef, undef, undef, undef, undef, undef, undef, undef, undef, undef, undef, undef, undef, undef, undef, undef, undef, undef, undef, undef, undef, undef, undef, undef, undef, undef, undef, undef, undef, undef, undef, undef, undef, undef, undef, undef, undef, undef, undef, undef, undef, undef, undef, undef, undef, undef, undef, undef, undef], []⟩) (by kernel_rfl) ?_
 refine xseq_k fun KS1 ks1 => ?_
 refine wp_regS (l := [0]) (by kernel_rfl) (by kernel_rfl) fun KR2 kr2 => ?_
 refine wpS.p 0 4 (.slice none 0 0) (by kernel_rfl) ?_
 refine wpS.fin rfl (kr2 _ _ ?_)
 refine then_n (ks1 _ _ ?_)
 refine xseq_k fun KS3 ks3 => ?_
 refine xseq_k fun KS4 ks4 => ?_
 refine wp_regS (l := [0, 1, 2, 3, 4, 5]) (by kernel_rfl) (by kernel_rfl) fun KR5 kr5 => ?_
 refine wpS.p 0 10 (.int .i64 a1) (by kernel_rfl) ?_
 rcases of_if h with ⟨hc, h⟩ | ⟨hc, h⟩
 ·refine wpS.take 1 false (some 11) (.bool true) (by kernel_rfl) (yld_b (dt hc) (fun _ => by kernel_rfl)) ?_
  refine wpS.ps [(2, 12, .bool true), (3, 13, undef), (4, 14, undef), (5, 15, .bool true)] (by kernel_rfl) ?_
  refine wpS.fin rfl (kr5 _ _ ?_)
  refine then_n (ks4 _ _ ?_)
  refine wp_cond_t (by kernel_rfl) ?_
  refine xseq_k fun KS6 ks6 => ?_
  refine wp_regS (l := [0]) (by kernel_rfl) (by kernel_rfl) fun KR7 kr7 => ?_
  refine wpS.p 0 4 (.slice none 0 0) (by kernel_rfl) ?_
  refine wpS.fin rfl (kr7 _ _ ?_)
  refine then_n (ks6 _ _ ?_)
  refine xret ?_
  refine then_r ?_
  have q0 := of_some h
  subst q0
  have hs := hs.addNilL (CI .u8) 5
  exact qq _ _ (post_ret (by kernel_rfl) (run_results [.tmp 4] [.slice none 0 0] (by kernel_rfl) (.cons (res_tmp (by kernel_rfl)) .nil)) ⟨⟨none, 0, 0⟩, congrArg Ending.returned (by kernel_rfl), (hs.pickR pick_nil)⟩)
 ·refine wpS.take 1 false (some 11) (.bool false) (by kernel_rfl) (yld_b (df hc) (fun _ => by kernel_rfl)) ?_
  refine wpS.ps [(2, 12, .bool false), (3, 13, .int .i64 a1)] (by kernel_rfl) ?_
  rcases of_if h with ⟨hc, h⟩ | ⟨hc, h⟩
  ·refine wpS.take 4 false (some 14) (.bool true) (by kernel_rfl) (yld_b (dt hc) (fun _ => by kernel_rfl)) ?_
   refine wpS.p 5 15 (.bool true) (by kernel_rfl) ?_
   refine wpS.fin rfl (kr5 _ _ ?_)
   refine then_n (ks4 _ _ ?_)
   refine wp_cond_t (by kernel_rfl) ?_
   refine xseq_k fun KS8 ks8 => ?_
   refine wp_regS (l := [0]) (by kernel_rfl) (by kernel_rfl) fun KR9 kr9 => ?_
   refine wpS.p 0 4 (.slice none 0 0) (by kernel_rfl) ?_
   refine wpS.fin rfl (kr9 _ _ ?_)
   refine then_n (ks8 _ _ ?_)
   refine xret ?_
   refine then_r ?_
   have q0 := of_some h
   subst q0
   have hs := hs.addNilL (CI .u8) 5
   exact qq _ _ (post_ret (by kernel_rfl) (run_results [.tmp 4] [.slice none 0 0] (by kernel_rfl) (.cons (res_tmp (by kernel_rfl)) .nil)) ⟨⟨none, 0, 0⟩, congrArg Ending.returned (by kernel_rfl), (hs.pickR pick_nil)⟩)
  ·refine wpS.take 4 false (some 14) (.bool false) (by kernel_rfl) (yld_b (df hc) (fun _ => by kernel_rfl)) ?_
   refine wpS.p 5 15 (.bool false) (by kernel_rfl) ?_
   refine wpS.fin rfl (kr5 _ _ ?_)
   refine then_n (ks4 _ _ ?_)
   refine wp_cond_f (by kernel_rfl) ?_
   refine xskip ?_
   refine then_n (ks3 _ _ ?_)
   refine xseq_k fun KS10 ks10 => ?_
   refine wp_regS (l := [0, 1, 2, 3, 4, 5, 6, 7]) (by kernel_rfl) (by kernel_rfl) fun KR11 kr11 => ?_
   refine wpS.p 0 16 (.slice a0_A a0_n a0_c) (by kernel_rfl) ?_
   refine wpS.take 1 false (some 17) (.int .i64 (a0.length : Int)) (by kernel_rfl) (yld_lenL (hs.rowR 0 rfl) (fun _ => by kernel_rfl)) ?_
   refine wpS.ps [(2, 18, .int .i64 a1), (3, 19, .int .i64 (imul .i64 (a0.length : Int) a1)), (4, 20, .int .i64 (iadd .i64 (imul .i64 (a0.length : Int) a1) 7)), (5, 21, .int .i64 (iquo .i64 (iadd .i64 (imul .i64 (a0.length : Int) a1) 7) 8))] (by kernel_rfl) ?_
   obtain ⟨h0, h⟩ := of_chk h
   obtain ⟨h1, h⟩ := of_chk h
   refine wpS.only 6 (op_makeT0 (C := (CI .u8)) (t := 24) (e := 5) (bytes := 1) (B := 140737488355328) (kl := .i64) (kc := .i64) (x := (iquo .i64 (iadd .i64 (imul .i64 (a0.length : Int) a1) 7) 8)) (d := (some 22)) (by kernel_rfl) hs (by kernel_rfl) (by kernel_rfl) (by kernel_rfl) (by kernel_rfl) (by kernel_rfl) h0 h1 (by decide) (by decide) ?_)
   intro s1_A s1_n s1_c w gw hs
   refine ⟨fun _ => trivial, ?_⟩
   refine wpS.p 7 5 (.slice s1_A s1_n s1_c) (by kernel_rfl) ?_
   refine wpS.fin rfl (kr11 _ _ ?_)
   refine then_n (ks10 _ _ ?_)
   refine xseq_k fun KS12 ks12 => ?_
   refine wp_regS (l := [0, 1]) (by kernel_rfl) (by kernel_rfl) fun KR13 kr13 => ?_
   refine wpS.ps [(0, 6, .int .u64 0), (1, 7, .int .i64 0)] (by kernel_rfl) ?_
   refine wpS.fin rfl (kr13 _ _ ?_)
   refine then_n (ks12 _ _ ?_)
   refine xseq_k fun KS14 ks14 => ?_
   refine xseq_k fun KS15 ks15 => ?_
   refine wp_regS (l := [0, 1, 2]) (by kernel_rfl) (by kernel_rfl) fun KR16 kr16 => ?_
   refine wpS.p 0 23 (.slice a0_A a0_n a0_c) (by kernel_rfl) ?_
   refine wpS.take 1 false (some 24) (.int .i64 (a0.length : Int)) (by kernel_rfl) (yld_lenL (hs.rowR 0 rfl) (fun _ => by kernel_rfl)) ?_
   refine wpS.p 2 25 (.int .i64 0) (by kernel_rfl) ?_
   refine wpS.fin rfl (kr16 _ _ ?_)
   refine then_n (ks15 _ _ ?_)
   obtain ⟨⟨y6, y7, y8⟩, hy, hk0⟩ := of_bind h
   refine wp_exq (N := fun a w => ∃ (y8_A : Option Addr) (y8_n : Nat) (y8_c : Nat), St w0 [] [.ownL (CI .u8) y8_A y8_n y8_c y8 5] [.rowL (CI .u32) a0_A a0_n a0_c a0] w ∧ ∃ g : Nat → Value, a = ⟨#[.slice a0_A a0_n a0_c, .int .i64 a1, undef, undef, .slice none 0 0, .slice y8_A y8_n y8_c, .int .u64 y6, .int .i64 y7, undef, (g 9), .int .i64 a1, .bool false, .bool false, .int .i64 a1, .bool false, .bool false, .slice a0_A a0_n a0_c, .int .i64 (a0.length : Int), .int .i64 a1, .int .i64 (imul .i64 (a0.length : Int) a1), .int .i64 (iadd .i64 (imul .i64 (a0.length : Int) a1) 7), .int .i64 (iquo .i64 (iadd .i64 (imul .i64 (a0.length : Int) a1) 7) 8), .slice s1_A s1_n s1_c, .slice a0_A a0_n a0_c, .int .i64 (a0.length : Int), (g 25), (g 26), (g 27), (g 28), (g 29), (g 30), (g 31), (g 32), (g 33), (g 34), (g 35), (g 36), (g 37), (g 38), (g 39), (g 40), (g 41), (g 42), (g 43), (g 44), (g 45), (g 46), (g 47), (g 48), (g 49), (g 50), (g 51), (g 52), (g 53), undef, undef, undef, undef, undef, undef, undef, undef], []⟩) (fun N0 nn0 => ?_) ?_
   ·clear hk0
    refine xblock ?_
    refine wp_loop_k (fun n a w => ∃ z2 z3 z4 z5, ∃ (z5_A : Option Addr) (z5_n : Nat) (z5_c : Nat), bits_Pack.l0 K n a0 a1 z2 z3 z4 z5 = some (y6, y7, y8) ∧ St w0 [] [.ownL (CI .u8) z5_A z5_n z5_c z5 5] [.rowL (CI .u32) a0_A a0_n a0_c a0] w ∧ ∃ g : Nat → Value, a = ⟨#[.slice a0_A a0_n a0_c, .int .i64 a1, undef, undef, .slice none 0 0, .slice z5_A z5_n z5_c, .int .u64 z2, .int .i64 z3, undef, (g 9), .int .i64 a1, .bool false, .bool false, .int .i64 a1, .bool false, .bool false, .slice a0_A a0_n a0_c, .int .i64 (a0.length : Int), .int .i64 a1, .int .i64 (imul .i64 (a0.length : Int) a1), .int .i64 (iadd .i64 (imul .i64 (a0.length : Int) a1) 7), .int .i64 (iquo .i64 (iadd .i64 (imul .i64 (a0.length : Int) a1) 7) 8), .slice s1_A s1_n s1_c, .slice a0_A a0_n a0_c, .int .i64 (a0.length : Int), .int .i64 z4, (g 26), (g 27), (g 28), (g 29), (g 30), (g 31), (g 32), (g 33), (g 34), (g 35), (g 36), (g 37), (g 38), (g 39), (g 40), (g 41), (g 42), (g 43), (g 44), (g 45), (g 46), (g 47), (g 48), (g 49), (g 50), (g 51), (g 52), (g 53), undef, undef, undef, undef, undef, undef, undef, undef], []⟩) K ⟨0, 0, 0, ([] : List Int), s1_A, s1_n, s1_c, hy, hs.conv rfl, exg (by kernel_rfl)⟩ ?_
    clear hs h hy
    rintro n a w ⟨z2, z3, z4, z5, z5_A, z5_n, z5_c, h, hs, g, rfl⟩ KL0 kl0
    cases n with
    | zero => exact nomatch (show none = some _ from h)
    | succ n =>
     refine xseq_k fun KS17 ks17 => ?_
     refine wp_regS (l := [0]) (by kernel_rfl) (by kernel_rfl) fun KR18 kr18 => ?_
     rcases of_if h with ⟨hc, h⟩ | ⟨hc, h⟩
     ·refine wpS.take 0 false (some 26) (.bool true) (by kernel_rfl) (yld_b (dt hc) (fun _ => by kernel_rfl)) ?_
      refine wpS.fin rfl (kr18 _ _ ?_)
      refine then_n (ks17 _ _ ?_)
      refine xseq_k fun KS19 ks19 => ?_
      refine wp_cond_t (by kernel_rfl) ?_
      refine xskip ?_
      refine then_n (ks19 _ _ ?_)
      refine xseq_k fun KS20 ks20 => ?_
      refine xblock ?_
      refine xseq_k fun KS21 ks21 => ?_
      refine wp_regS (l := [0, 1, 2]) (by kernel_rfl) (by kernel_rfl) fun KR22 kr22 => ?_
      obtain ⟨h0, h⟩ := of_chk h
      obtain ⟨h1, h⟩ := of_chk h
      have i0_23 := h0
      have i1_23 := h1
      refine wpS.take 0 false (some 27) (.pointer (adr a0_A ((z4 : Int).toNat * Cod.size (CI .u32)))) (by kernel_rfl) (yld_idxL (C := (CI .u32)) (t := 82) (e := 84) (k := .i64) (x := z4) (hs.rowR 0 rfl) (by kernel_rfl) (by kernel_rfl) (by kernel_rfl) h0 h1) ?_
      refine wpS.take 1 true (some 28) (.int .u32 (rdL (CI .u32) a0 z4)) (by kernel_rfl) (yld_loadL (C := (CI .u32)) (e := 84) (x := z4) (hs.rowR 0 rfl) (by kernel_rfl) rfl (by kernel_rfl) i0_23 i1_23) ?_
      obtain ⟨x9, hx, h⟩ := of_bind h
      refine wpS.take 2 false (some 9) (.int .u32 x9) (by kernel_rfl) (yld_int hx (fun _ => by kernel_rfl)) ?_
      refine wpS.fin rfl (kr22 _ _ ?_)
      refine then_n (ks21 _ _ ?_)
      refine xseq_k fun KS24 ks24 => ?_
      refine wp_regS (l := [0, 1, 2, 3, 4, 5, 6, 7, 8, 9, 10]) (by kernel_rfl) (by kernel_rfl) fun KR25 kr25 => ?_
      refine wpS.ps [(0, 29, .int .u64 z2), (1, 30, .int .u32 x9), (2, 31, .int .i64 a1)] (by kernel_rfl) ?_
      obtain ⟨h0, h⟩ := of_chk h
      refine wpS.take 3 false (some 32) (.int .u32 (ishl .u32 1 a1)) (by kernel_rfl) (yld_shl (t := 84) (k' := .i64) (by kernel_rfl) h0) ?_
      refine wpS.ps [(4, 33, .int .u32 (isub .u32 (ishl .u32 1 a1) 1)), (5, 34, .int .u32 (iand .u32 x9 (isub .u32 (ishl .u32 1 a1) 1))), (6, 35, .int .u64 (iconv .u64 (iand .u32 x9 (isub .u32 (ishl .u32 1 a1) 1)))), (7, 36, .int .i64 z3)] (by kernel_rfl) ?_
      obtain ⟨h0, h⟩ := of_chk h
      refine wpS.take 8 false (some 37) (.int .u64 (ishl .u64 (iconv .u64 (iand .u32 x9 (isub .u32 (ishl .u32 1 a1) 1))) z3)) (by kernel_rfl) (yld_shl (t := 104) (k' := .i64) (by kernel_rfl) h0) ?_
      refine wpS.p 9 38 (.int .u64 (ior .u64 z2 (ishl .u64 (iconv .u64 (iand .u32 x9 (isub .u32 (ishl .u32 1 a1) 1))) z3))) (by kernel_rfl) ?_
      obtain ⟨x10, hx, h⟩ := of_bind h
      refine wpS.take 10 false (some 6) (.int .u64 x10) (by kernel_rfl) (yld_int hx (fun _ => by kernel_rfl)) ?_
      refine wpS.fin rfl (kr25 _ _ ?_)
      refine then_n (ks24 _ _ ?_)
      refine xseq_k fun KS26 ks26 => ?_
      refine wp_regS (l := [0, 1, 2, 3]) (by kernel_rfl) (by kernel_rfl) fun KR27 kr27 => ?_
      refine wpS.ps [(0, 39, .int .i64 z3), (1, 40, .int .i64 a1), (2, 41, .int .i64 (iadd .i64 z3 a1))] (by kernel_rfl) ?_
      obtain ⟨x11, hx, h⟩ := of_bind h
      refine wpS.take 3 false (some 7) (.int .i64 x11) (by kernel_rfl) (yld_int hx (fun _ => by kernel_rfl)) ?_
      refine wpS.fin rfl (kr27 _ _ ?_)
      refine then_n (ks26 _ _ ?_)
      obtain ⟨⟨y15, y16, y17⟩, hy, hk1⟩ := of_bind h
      refine wp_exq (N := fun a w => ∃ (y17_A : Option Addr) (y17_n : Nat) (y17_c : Nat), St w0 [] [.ownL (CI .u8) y17_A y17_n y17_c y17 5] [.rowL (CI .u32) a0_A a0_n a0_c a0] w ∧ ∃ g : Nat → Value, a = ⟨#[.slice a0_A a0_n a0_c, .int .i64 a1, undef, undef, .slice none 0 0, .slice y17_A y17_n y17_c, .int .u64 y15, .int .i64 y16, undef, .int .u32 x9, .int .i64 a1, .bool false, .bool false, .int .i64 a1, .bool false, .bool false, .slice a0_A a0_n a0_c, .int .i64 (a0.length : Int), .int .i64 a1, .int .i64 (imul .i64 (a0.length : Int) a1), .int .i64 (iadd .i64 (imul .i64 (a0.length : Int) a1) 7), .int .i64 (iquo .i64 (iadd .i64 (imul .i64 (a0.length : Int) a1) 7) 8), .slice s1_A s1_n s1_c, .slice a0_A a0_n a0_c, .int .i64 (a0.length : Int), .int .i64 z4, .bool true, .pointer (adr a0_A ((z4 : Int).toNat * Cod.size (CI .u32))), .int .u32 (rdL (CI .u32) a0 z4), .int .u64 z2, .int .u32 x9, .int .i64 a1, .int .u32 (ishl .u32 1 a1), .int .u32 (isub .u32 (ishl .u32 1 a1) 1), .int .u32 (iand .u32 x9 (isub .u32 (ishl .u32 1 a1) 1)), .int .u64 (iconv .u64 (iand .u32 x9 (isub .u32 (ishl .u32 1 a1) 1))), .int .i64 z3, .int .u64 (ishl .u64 (iconv .u64 (iand .u32 x9 (isub .u32 (ishl .u32 1 a1) 1))) z3), .int .u64 (ior .u64 z2 (ishl .u64 (iconv .u64 (iand .u32 x9 (isub .u32 (ishl .u32 1 a1) 1))) z3)), .int .i64 z3, .int .i64 a1, .int .i64 (iadd .i64 z3 a1), (g 42), (g 43), (g 44), (g 45), (g 46), (g 47), (g 48), (g 49), (g 50), (g 51), (g 52), (g 53), undef, undef, undef, undef, undef, undef, undef, undef], []⟩) (fun N1 nn1 => ?_) ?_
      ·clear hk1
       refine xblock ?_
       refine wp_loop_k (fun n a w => ∃ z12 z13 z14, ∃ (z14_A : Option Addr) (z14_n : Nat) (z14_c : Nat), bits_Pack.l1 K n z12 z13 z14 = some (y15, y16, y17) ∧ St w0 [] [.ownL (CI .u8) z14_A z14_n z14_c z14 5] [.rowL (CI .u32) a0_A a0_n a0_c a0] w ∧ ∃ g : Nat → Value, a = ⟨#[.slice a0_A a0_n a0_c, .int .i64 a1, undef, undef, .slice none 0 0, .slice z14_A z14_n z14_c, .int .u64 z12, .int .i64 z13, undef, .int .u32 x9, .int .i64 a1, .bool false, .bool false, .int .i64 a1, .bool false, .bool false, .slice a0_A a0_n a0_c, .int .i64 (a0.length : Int), .int .i64 a1, .int .i64 (imul .i64 (a0.length : Int) a1), .int .i64 (iadd .i64 (imul .i64 (a0.length : Int) a1) 7), .int .i64 (iquo .i64 (iadd .i64 (imul .i64 (a0.length : Int) a1) 7) 8), .slice s1_A s1_n s1_c, .slice a0_A a0_n a0_c, .int .i64 (a0.length : Int), .int .i64 z4, .bool true, .pointer (adr a0_A ((z4 : Int).toNat * Cod.size (CI .u32))), .int .u32 (rdL (CI .u32) a0 z4), .int .u64 z2, .int .u32 x9, .int .i64 a1, .int .u32 (ishl .u32 1 a1), .int .u32 (isub .u32 (ishl .u32 1 a1) 1), .int .u32 (iand .u32 x9 (isub .u32 (ishl .u32 1 a1) 1)), .int .u64 (iconv .u64 (iand .u32 x9 (isub .u32 (ishl .u32 1 a1) 1))), .int .i64 z3, .int .u64 (ishl .u64 (iconv .u64 (iand .u32 x9 (isub .u32 (ishl .u32 1 a1) 1))) z3), .int .u64 (ior .u64 z2 (ishl .u64 (iconv .u64 (iand .u32 x9 (isub .u32 (ishl .u32 1 a1) 1))) z3)), .int .i64 z3, .int .i64 a1, .int .i64 (iadd .i64 z3 a1), (g 42), (g 43), (g 44), (g 45), (g 46), (g 47), (g 48), (g 49), (g 50), (g 51), (g 52), (g 53), undef, undef, undef, undef, undef, undef, undef, undef], []⟩) K ⟨x10, x11, z5, z5_A, z5_n, z5_c, hy, hs.conv rfl, exg (by kernel_rfl)⟩ ?_
       clear hs h hy
       rintro n a w ⟨z12, z13, z14, z14_A, z14_n, z14_c, h, hs, g, rfl⟩ KL1 kl1
       cases n with
       | zero => exact nomatch (show none = some _ from h)
       | succ n =>
        refine xseq_k fun KS28 ks28 => ?_
        refine xseq_k fun KS29 ks29 => ?_
        refine wp_regS (l := [0, 1]) (by kernel_rfl) (by kernel_rfl) fun KR30 kr30 => ?_
        refine wpS.p 0 42 (.int .i64 z13) (by kernel_rfl) ?_
        rcases of_if h with ⟨hc, h⟩ | ⟨hc, h⟩
        ·refine wpS.take 1 false (some 43) (.bool true) (by kernel_rfl) (yld_b (dt hc) (fun _ => by kernel_rfl)) ?_
         refine wpS.fin rfl (kr30 _ _ ?_)
         refine then_n (ks29 _ _ ?_)
         refine wp_cond_t (by kernel_rfl) ?_
         refine xskip ?_
         refine then_n (ks28 _ _ ?_)
         refine xseq_k fun KS31 ks31 => ?_
         refine xblock ?_
         refine xseq_k fun KS32 ks32 => ?_
         refine wp_regS (l := [0, 1, 2, 3, 4, 5]) (by kernel_rfl) (by kernel_rfl) fun KR33 kr33 => ?_
         refine wpS.ps [(0, 46, .slice z14_A z14_n z14_c), (1, 47, .int .u64 z12), (2, 48, .int .u8 (iconv .u8 z12))] (by kernel_rfl) ?_
         refine wpS.only 3 (op_lit (C := (CI .u8)) (t := 24) (e := 5) (len := 1) (parts := #[(0, .int .u8 (iconv .u8 z12))]) (l := [(iconv .u8 z12)]) (d := (some 49)) (by kernel_rfl) hs (by kernel_rfl) (by kernel_rfl) (by kernel_rfl) (z := .int .u8 0) (by kernel_rfl) rfl (by decide) (by decide) (by kernel_rfl) ?_)
         intro s18_A s18_n s18_c w gw hs
         refine ⟨fun _ => trivial, ?_⟩
         obtain ⟨h0, h⟩ := of_chk h
         refine wpS.only 4 (op_appendT (C := (CI .u8)) (t := 24) (ty := 24) (e := 5) (bytes := 1) (B := 140737488355328) (d := (some 50)) (by kernel_rfl) hs 1 rfl (hs.rowL 0 rfl) (by kernel_rfl) (by kernel_rfl) (by kernel_rfl) (by kernel_rfl) (by kernel_rfl) h0 (by decide) (by decide) ?_)
         intro s19_A s19_n s19_c w hs
         refine ⟨fun _ => trivial, ?_⟩
         refine wpS.p 5 5 (.slice s19_A s19_n s19_c) (by kernel_rfl) ?_
         refine wpS.fin rfl (kr33 _ _ ?_)
         refine then_n (ks32 _ _ ?_)
         refine wp_regS (l := [0, 1, 2]) (by kernel_rfl) (by kernel_rfl) fun KR34 kr34 => ?_
         refine wpS.ps [(0, 51, .int .u64 z12), (1, 52, .int .u64 (ishr .u64 z12 8))] (by kernel_rfl) ?_
         obtain ⟨x20, hx, h⟩ := of_bind h
         refine wpS.take 2 false (some 6) (.int .u64 x20) (by kernel_rfl) (yld_int hx (fun _ => by kernel_rfl)) ?_
         refine wpS.fin rfl (kr34 _ _ ?_)
         refine inBlock_n ?_
         refine then_n (ks31 _ _ ?_)
         refine wp_regS (l := [0, 1, 2]) (by kernel_rfl) (by kernel_rfl) fun KR35 kr35 => ?_
         refine wpS.ps [(0, 44, .int .i64 z13), (1, 45, .int .i64 (isub .i64 z13 8))] (by kernel_rfl) ?_
         obtain ⟨x21, hx, h⟩ := of_bind h
         refine wpS.take 2 false (some 7) (.int .i64 x21) (by kernel_rfl) (yld_int hx (fun _ => by kernel_rfl)) ?_
         refine wpS.fin rfl (kr35 _ _ ?_)
         exact then_n (kl1 _ _ ⟨n, Nat.lt_succ_self n, x20, x21, (z14 ++ ([(iconv .u8 z12)] : List Int)), s19_A, s19_n, s19_c, h, (hs.drop (.cons _ (.cons_cons _ .slnil))), exg (by kernel_rfl)⟩)
        ·refine wpS.take 1 false (some 43) (.bool false) (by kernel_rfl) (yld_b (df hc) (fun _ => by kernel_rfl)) ?_
         refine wpS.fin rfl (kr30 _ _ ?_)
         refine then_n (ks29 _ _ ?_)
         refine wp_cond_f (by kernel_rfl) ?_
         refine xexit ?_
         refine then_x ?_
         refine then_x ?_
         refine inBlock_hit ?_
         obtain ⟨q0, qr0⟩ := Prod.mk.inj (of_some h)
         obtain ⟨q1, qr1⟩ := Prod.mk.inj (qr0)
         have q2 := qr1
         subst q0
         subst q1
         subst q2
         exact exq_n (nn1 _ _ ⟨z14_A, z14_n, z14_c, (hs.conv rfl), exg (by kernel_rfl)⟩)
      ·clear hs h hy
       rintro a w ⟨y17_A, y17_n, y17_c, hs, g, rfl⟩
       have h := hk1
       refine inBlock_n ?_
       refine then_n (ks20 _ _ ?_)
       refine wp_regS (l := [0, 1]) (by kernel_rfl) (by kernel_rfl) fun KR36 kr36 => ?_
       refine wpS.ps [(0, 53, .int .i64 (iadd .i64 z4 1)), (1, 25, .int .i64 (iadd .i64 z4 1))] (by kernel_rfl) ?_
       refine wpS.fin rfl (kr36 _ _ ?_)
       exact then_n (kl0 _ _ ⟨n, Nat.lt_succ_self n, y15, y16, (iadd .i64 z4 1), y17, y17_A, y17_n, y17_c, h, (hs.conv rfl), exg (by kernel_rfl)⟩)
     ·refine wpS.take 0 false (some 26) (.bool false) (by kernel_rfl) (yld_b (df hc) (fun _ => by kernel_rfl)) ?_
      refine wpS.fin rfl (kr18 _ _ ?_)
      refine then_n (ks17 _ _ ?_)
      refine xseq_k fun KS37 ks37 => ?_
      refine wp_cond_f (by kernel_rfl) ?_
      refine xexit ?_
      refine then_x ?_
      refine then_x ?_
      refine inBlock_hit ?_
      obtain ⟨q0, qr0⟩ := Prod.mk.inj (of_some h)
      obtain ⟨q1, qr1⟩ := Prod.mk.inj (qr0)
      have q2 := qr1
      subst q0
      subst q1
      subst q2
      exact exq_n (nn0 _ _ ⟨z5_A, z5_n, z5_c, (hs.conv rfl), exg (by kernel_rfl)⟩)
   ·clear hs h hy
    rintro a w ⟨y8_A, y8_n, y8_c, hs, g, rfl⟩
    have h := hk0
    refine then_n (ks14 _ _ ?_)
    obtain ⟨y22, hj, h⟩ := of_bind h
    refine xseq_k fun KS38 ks38 => wp_join (N := fun a w => ∃ (y22_A : Option Addr) (y22_n : Nat) (y22_c : Nat), St w0 [] [.ownL (CI .u8) y22_A y22_n y22_c y22 5] [.rowL (CI .u32) a0_A a0_n a0_c a0] w ∧ ∃ g : Nat → Value, a = ⟨#[.slice a0_A a0_n a0_c, .int .i64 a1, undef, undef, .slice none 0 0, .slice y22_A y22_n y22_c, .int .u64 y6, .int .i64 y7, undef, (g 9), .int .i64 a1, .bool false, .bool false, .int .i64 a1, .bool false, .bool false, .slice a0_A a0_n a0_c, .int .i64 (a0.length : Int), .int .i64 a1, .int .i64 (imul .i64 (a0.length : Int) a1), .int .i64 (iadd .i64 (imul .i64 (a0.length : Int) a1) 7), .int .i64 (iquo .i64 (iadd .i64 (imul .i64 (a0.length : Int) a1) 7) 8), .slice s1_A s1_n s1_c, .slice a0_A a0_n a0_c, .int .i64 (a0.length : Int), (g 25), (g 26), (g 27), (g 28), (g 29), (g 30), (g 31), (g 32), (g 33), (g 34), (g 35), (g 36), (g 37), (g 38), (g 39), (g 40), (g 41), (g 42), (g 43), (g 44), (g 45), (g 46), (g 47), (g 48), (g 49), (g 50), (g 51), (g 52), (g 53), (g 54), (g 55), (g 56), (g 57), (g 58), (g 59), (g 60), undef], []⟩) (fun N nj => ?_) ?_
    ·clear h
     have h := hj
     refine xseq_k fun KS39 ks39 => ?_
     refine wp_regS (l := [0, 1]) (by kernel_rfl) (by kernel_rfl) fun KR40 kr40 => ?_
     refine wpS.p 0 54 (.int .i64 y7) (by kernel_rfl) ?_
     rcases of_if h with ⟨hc, h⟩ | ⟨hc, h⟩
     ·refine wpS.take 1 false (some 55) (.bool true) (by kernel_rfl) (yld_b (dt hc) (fun _ => by kernel_rfl)) ?_
      refine wpS.fin rfl (kr40 _ _ ?_)
      refine then_n (ks39 _ _ ?_)
      refine wp_cond_t (by kernel_rfl) ?_
      refine wp_regS (l := [0, 1, 2, 3, 4, 5]) (by kernel_rfl) (by kernel_rfl) fun KR41 kr41 => ?_
      refine wpS.ps [(0, 56, .slice y8_A y8_n y8_c), (1, 57, .int .u64 y6), (2, 58, .int .u8 (iconv .u8 y6))] (by kernel_rfl) ?_
      refine wpS.only 3 (op_lit (C := (CI .u8)) (t := 24) (e := 5) (len := 1) (parts := #[(0, .int .u8 (iconv .u8 y6))]) (l := [(iconv .u8 y6)]) (d := (some 59)) (by kernel_rfl) hs (by kernel_rfl) (by kernel_rfl) (by kernel_rfl) (z := .int .u8 0) (by kernel_rfl) rfl (by decide) (by decide) (by kernel_rfl) ?_)
      intro s23_A s23_n s23_c w gw hs
      refine ⟨fun _ => trivial, ?_⟩
      obtain ⟨h0, h⟩ := of_chk h
      refine wpS.only 4 (op_appendT (C := (CI .u8)) (t := 24) (ty := 24) (e := 5) (bytes := 1) (B := 140737488355328) (d := (some 60)) (by kernel_rfl) hs 1 rfl (hs.rowL 0 rfl) (by kernel_rfl) (by kernel_rfl) (by kernel_rfl) (by kernel_rfl) (by kernel_rfl) h0 (by decide) (by decide) ?_)
      intro s24_A s24_n s24_c w hs
      refine ⟨fun _ => trivial, ?_⟩
      refine wpS.p 5 5 (.slice s24_A s24_n s24_c) (by kernel_rfl) ?_
      refine wpS.fin rfl (kr41 _ _ ?_)
      have q0 := of_some h
      subst q0
      exact nj _ _ ⟨s24_A, s24_n, s24_c, (hs.drop (.cons _ (.cons_cons _ .slnil))), exg (by kernel_rfl)⟩
     ·refine wpS.take 1 false (some 55) (.bool false) (by kernel_rfl) (yld_b (df hc) (fun _ => by kernel_rfl)) ?_
      refine wpS.fin rfl (kr40 _ _ ?_)
      refine then_n (ks39 _ _ ?_)
      refine wp_cond_f (by kernel_rfl) ?_
      refine xskip ?_
      have q0 := of_some h
      subst q0
      exact nj _ _ ⟨y8_A, y8_n, y8_c, (hs.conv rfl), exg (by kernel_rfl)⟩
    ·clear hj hs
     rintro a w ⟨y22_A, y22_n, y22_c, hs, g, rfl⟩
     refine then_n (ks38 _ _ ?_)
     refine xseq_k fun KS42 ks42 => ?_
     refine wp_regS (l := [0, 1]) (by kernel_rfl) (by kernel_rfl) fun KR43 kr43 => ?_
     refine wpS.ps [(0, 61, .slice y22_A y22_n y22_c), (1, 4, .slice y22_A y22_n y22_c)] (by kernel_rfl) ?_
     refine wpS.fin rfl (kr43 _ _ ?_)
     refine then_n (ks42 _ _ ?_)
     refine xret ?_
     have q0 := of_some h
     subst q0
     exact qq _ _ (post_ret (by kernel_rfl) (run_results [.tmp 4] [.slice y22_A y22_n y22_c] (by kernel_rfl) (.cons (res_tmp (by kernel_rfl)) .nil)) ⟨⟨y22_A, y22_n, y22_c⟩, congrArg Ending.returned (by kernel_rfl), (hs.pickR pick_nil)⟩)

theorem dpack_Pack.ok {K : Nat} {a0 : Arr 256} {a1 : Int} {a2 : Int} {r0 : List Int} (h : dpack_Pack.f K a0 a1 a2 = some r0) (w0 : World) : Calls Try.prog 25 #[.agg (enc .i32 a0).toArray, .int .i32 a1, .int .i32 a2] w0 fun e w' => ∃ h : (Option Addr × Nat × Nat), e = .returned (.slice h.1 h.2.1 h.2.2) ∧ St w0 [] [.ownL (CI .u8) h.1 h.2.1 h.2.2 r0 5] [] w' ∧ (r0 = [] → h.1 = none) := by
 refine calls_k Try.func25 rfl fun Q qq => ?_
 have hs := St.start w0
 refine wp_conv (a' := ⟨#[.agg (enc .i32 a0).toArray, .int .i32 a1, .int .i32 a2, undef, undef, undef, undef, undef, undef, undef, undef, undef, undef, undef, undef, undef, undef, undef, undef, undef, undef, undef, undef, undef, undef, undef, undef, undef, undef, undef, undef, undef, undef, undef, undef, undef, undef, undef, undef, undef, undef, undef, undef, undef, undef, undef, undef], []⟩) (by kernel_rfl) ?_
 refine xseq_k fun KS1 ks1 => ?_
 refine wp_regS (l := [0, 1]) (by kernel_rfl) (by kernel_rfl) fun KR2 kr2 => ?_
 refine wpS.only 0 (op_box (t := 40) (v := .agg (enc .i32 a0).toArray) (d := (some 3)) (by kernel_rfl) hs (enc .i32 a0) (by kernel_rfl) (by kernel_rfl) ?_)
 intro b1 w gw hs
 refine ⟨fun _ => trivial, ?_⟩
 refine wpS.p 1 6 (.slice none 0 0) (by kernel_rfl) ?_
 refine wpS.fin rfl (kr2 _ _ ?_)
 refine then_n (ks1 _ _ ?_)
 refine xseq_k fun KS3 ks3 => ?_
 refine wp_regS (l := [0, 1, 2, 3, 4]) (by kernel_rfl) (by kernel_rfl) fun KR4 kr4 => ?_
 refine wpS.ps [(0, 13, .int .i32 a1), (1, 14, .int .i32 a2), (2, 15, .agg #[.int .i32 a1, .int .i32 a2])] (by kernel_rfl) ?_
 refine wpS.only 3 (op_alloc (t := 73) (d := (some 7)) (by kernel_rfl) hs ([.int .i32 0, .int .i32 0]) (.agg #[.int .i32 0, .int .i32 0]) (by kernel_rfl) (by kernel_rfl) (by kernel_rfl) ?_)
 intro b2 w gw hs
 refine ⟨fun _ => trivial, ?_⟩
 refine wpS.only 4 (op_storeW (t := 73) (v := .agg #[.int .i32 a1, .int .i32 a2]) (d := none) (by kernel_rfl) hs 0 rfl (vs := [.int .i32 a1, .int .i32 a2]) (n := 2) (by kernel_rfl) (by kernel_rfl) (by kernel_rfl) (by simp [enc_len]) (by simp [enc_len]) (by simp [Value.oneCell']) ?_)
 intro w kp hs
 refine ⟨fun _ => trivial, ?_⟩
 refine wpS.fin rfl (kr4 _ _ ?_)
 refine then_n (ks3 _ _ ?_)
 refine xseq_k fun KS5 ks5 => ?_
 refine xseq_k fun KS6 ks6 => ?_
 refine wp_regS (l := [0, 1, 2, 3, 4, 5, 6, 7]) (by kernel_rfl) (by kernel_rfl) fun KR7 kr7 => ?_
 refine wpS.take 0 true (some 16) (.agg #[.int .i32 a1, .int .i32 a2]) (by kernel_rfl) (yld_loadW (e := 73) (n := 2) hs 0 rfl (by kernel_rfl) (by kernel_rfl) (by kernel_rfl) (by simp [enc_len]) .grow) ?_
 obtain ⟨r3, hg, h⟩ := of_bind h
 cases r3 with
 | true =>
  have h := of_if_t h
  refine wpS.only 1 (op_call (d := (some 17)) (by kernel_rfl) hs (fun _ => by kernel_rfl) (dpack_span_fit.ok hg _) ?_)
  intro w gw hs
  refine ⟨fun _ => trivial, ?_⟩
  refine wpS.ps [(2, 18, .bool false), (3, 19, .bool false)] (by kernel_rfl) ?_
  refine wpS.take 4 true (some 20) (.agg (enc .i32 a0).toArray) (by kernel_rfl) (yld_loadW (e := 40) (n := 256) hs 1 rfl (by kernel_rfl) (by kernel_rfl) (by kernel_rfl) (by exact enc_len _ _) .grow) ?_
  obtain ⟨r4, hg, h⟩ := of_bind h
  cases r4 with
  | true =>
   have h := of_if_t h
   refine wpS.only 5 (op_call (d := (some 21)) (by kernel_rfl) hs (fun _ => by kernel_rfl) (zq_Fit.ok hg _) ?_)
   intro w gw hs
   refine ⟨fun _ => trivial, ?_⟩
   refine wpS.ps [(6, 22, .bool false), (7, 23, .bool false)] (by kernel_rfl) ?_
   refine wpS.fin rfl (kr7 _ _ ?_)
   refine then_n (ks6 _ _ ?_)
   refine wp_cond_f (by kernel_rfl) ?_
   refine xskip ?_
   refine then_n (ks5 _ _ ?_)
   refine xseq_k fun KS8 ks8 => ?_
   refine wp_regS (l := [0, 1]) (by kernel_rfl) (by kernel_rfl) fun KR9 kr9 => ?_
   refine wpS.only 0 (op_makeT (C := (CI .u32)) (t := 82) (e := 84) (bytes := 4) (B := 35184372088832) (kl := .i64) (kc := .i64) (x := 256) (d := (some 24)) (by kernel_rfl) hs (by kernel_rfl) (by kernel_rfl) (by kernel_rfl) (by kernel_rfl) (by kernel_rfl) (by decide) (by decide) (by decide) (by decide) ?_)
   intro s5_A s5_n s5_c w gw hs
   refine ⟨fun _ => trivial, ?_⟩
   refine wpS.p 1 8 (.slice s5_A s5_n s5_c) (by kernel_rfl) ?_
   refine wpS.fin rfl (kr9 _ _ ?_)
   refine then_n (ks8 _ _ ?_)
   refine xseq_k fun KS10 ks10 => ?_
   refine xseq_k fun KS11 ks11 => ?_
   refine wp_regS (l := [0, 1]) (by kernel_rfl) (by kernel_rfl) fun KR12 kr12 => ?_
   refine wpS.take 0 true (some 25) (.agg (enc .i32 a0).toArray) (by kernel_rfl) (yld_loadW (e := 40) (n := 256) hs 2 rfl (by kernel_rfl) (by kernel_rfl) (by kernel_rfl) (by exact enc_len _ _) .grow) ?_
   refine wpS.p 1 26 (.int .i64 0) (by kernel_rfl) ?_
   refine wpS.fin rfl (kr12 _ _ ?_)
   refine then_n (ks11 _ _ ?_)
   obtain ⟨t0, hy, hk0⟩ := of_bind h
   refine wp_exq (N := fun a w => ∃ y8, t0 = .inl y8 ∧ St w0 [] [.ownL (CI .u32) s5_A s5_n s5_c y8 84, .blk b2 ([.int .i32 a1, .int .i32 a2]) 73, .blk b1 (enc .i32 a0) 40] [] w ∧ ∃ g : Nat → Value, a = ⟨#[.agg (enc .i32 a0).toArray, .int .i32 a1, .int .i32 a2, .pointer (some ⟨b1, 0, none⟩), undef, undef, (g 6), .pointer (some ⟨b2, 0, none⟩), .slice s5_A s5_n s5_c, (g 9), (g 10), (g 11), (g 12), .int .i32 a1, .int .i32 a2, .agg #[.int .i32 a1, .int .i32 a2], .agg #[.int .i32 a1, .int .i32 a2], .bool true, .bool false, .bool false, .agg (enc .i32 a0).toArray, .bool true, .bool false, .bool false, .slice s5_A s5_n s5_c, .agg (enc .i32 a0).toArray, (g 26), (g 27), (g 28), (g 29), (g 30), (g 31), (g 32), (g 33), (g 34), (g 35), (g 36), (g 37), (g 38), (g 39), (g 40), (g 41), (g 42), undef, undef, undef, undef], []⟩) (fun N0 nn0 => ?_) ?_
   ·refine xblock ?_
    refine wp_loop_k (fun n a w => ∃ z6 z7, dpack_Pack.l0 K n a0 a1 a2 z6 z7 = some t0 ∧ St w0 [] [.ownL (CI .u32) s5_A s5_n s5_c z7 84, .blk b2 ([.int .i32 a1, .int .i32 a2]) 73, .blk b1 (enc .i32 a0) 40] [] w ∧ ∃ g : Nat → Value, a = ⟨#[.agg (enc .i32 a0).toArray, .int .i32 a1, .int .i32 a2, .pointer (some ⟨b1, 0, none⟩), undef, undef, (g 6), .pointer (some ⟨b2, 0, none⟩), .slice s5_A s5_n s5_c, (g 9), (g 10), (g 11), (g 12), .int .i32 a1, .int .i32 a2, .agg #[.int .i32 a1, .int .i32 a2], .agg #[.int .i32 a1, .int .i32 a2], .bool true, .bool false, .bool false, .agg (enc .i32 a0).toArray, .bool true, .bool false, .bool false, .slice s5_A s5_n s5_c, .agg (enc .i32 a0).toArray, .int .i64 z6, (g 27), (g 28), (g 29), (g 30), (g 31), (g 32), (g 33), (g 34), (g 35), (g 36), (g 37), (g 38), (g 39), (g 40), (g 41), (g 42), undef, undef, undef, undef], []⟩) K ⟨0, (List.replicate (256 : Int).toNat (Cod.zero (CI .u32))), hy, hs.conv rfl, exg (by kernel_rfl)⟩ ?_
    clear hs h hy
    rintro n a w ⟨z6, z7, h, hs, g, rfl⟩ KL0 kl0
    cases n with
    | zero => exact nomatch (show none = some _ from h)
    | succ n =>
     refine xseq_k fun KS13 ks13 => ?_
     refine wp_regS (l := [0]) (by kernel_rfl) (by kernel_rfl) fun KR14 kr14 => ?_
     rcases of_if h with ⟨hc, h⟩ | ⟨hc, h⟩
     ·refine wpS.take 0 false (some 27) (.bool true) (by kernel_rfl) (yld_b (dt hc) (fun _ => by kernel_rfl)) ?_
      refine wpS.fin rfl (kr14 _ _ ?_)
      refine then_n (ks13 _ _ ?_)
      refine xseq_k fun KS15 ks15 => ?_
      refine wp_cond_t (by kernel_rfl) ?_
      refine xskip ?_
      refine then_n (ks15 _ _ ?_)
      refine xseq_k fun KS16 ks16 => ?_
      refine xblock ?_
      refine xseq_k fun KS17 ks17 => ?_
      refine wp_regS (l := [0, 1, 2, 3]) (by kernel_rfl) (by kernel_rfl) fun KR18 kr18 => ?_
      refine wpS.p 0 28 (.int .i64 z6) (by kernel_rfl) ?_
      obtain ⟨h0, h⟩ := of_chk h
      obtain ⟨h1, h⟩ := of_chk h
      refine wpS.take 1 false (some 29) (.int .i32 (rd a0 z6)) (by kernel_rfl) (yld_at (t := 40) (e := 21) (k' := .i64) (by kernel_rfl) (by kernel_rfl) (by kernel_rfl) (by kernel_rfl) h0 h1) ?_
      refine wpS.p 2 9 (.int .i64 z6) (by kernel_rfl) ?_
      obtain ⟨x9, hx, h⟩ := of_bind h
      refine wpS.take 3 false (some 10) (.int .i32 x9) (by kernel_rfl) (yld_int hx (fun _ => by kernel_rfl)) ?_
      refine wpS.fin rfl (kr18 _ _ ?_)
      refine then_n (ks17 _ _ ?_)
      refine xseq_k fun KS19 ks19 => ?_
      refine wp_regS (l := [0, 1, 2, 3, 4, 5, 6, 7]) (by kernel_rfl) (by kernel_rfl) fun KR20 kr20 => ?_
      refine wpS.take 0 true (some 31) (.agg #[.int .i32 a1, .int .i32 a2]) (by kernel_rfl) (yld_loadW (e := 73) (n := 2) hs 1 rfl (by kernel_rfl) (by kernel_rfl) (by kernel_rfl) (by simp [enc_len]) .grow) ?_
      refine wpS.p 1 32 (.int .i32 x9) (by kernel_rfl) ?_
      obtain ⟨⟨r10, r11⟩, hg, h⟩ := of_bind h
      refine wpS.only 2 (op_call (d := (some 33)) (by kernel_rfl) hs (fun _ => by kernel_rfl) (dpack_span_turned.ok hg _) ?_)
      intro w gw hs
      refine ⟨fun _ => trivial, ?_⟩
      refine wpS.ps [(3, 30, .tuple #[.int .u32 r10, .bool r11]), (4, 34, .int .u32 r10)] (by kernel_rfl) ?_
      cases r11 with
      | true =>
       have h := of_if_t h
       refine wpS.ps [(5, 35, .bool true), (6, 11, .int .u32 r10), (7, 12, .bool true)] (by kernel_rfl) ?_
       refine wpS.fin rfl (kr20 _ _ ?_)
       refine then_n (ks19 _ _ ?_)
       refine xseq_k fun KS21 ks21 => ?_
       refine xseq_k fun KS22 ks22 => ?_
       refine wp_regS (l := [0, 1]) (by kernel_rfl) (by kernel_rfl) fun KR23 kr23 => ?_
       refine wpS.ps [(0, 36, .bool true), (1, 37, .bool false)] (by kernel_rfl) ?_
       refine wpS.fin rfl (kr23 _ _ ?_)
       refine then_n (ks22 _ _ ?_)
       refine wp_cond_f (by kernel_rfl) ?_
       refine xskip ?_
       refine then_n (ks21 _ _ ?_)
       refine wp_regS (l := [0, 1, 2, 3, 4]) (by kernel_rfl) (by kernel_rfl) fun KR24 kr24 => ?_
       refine wpS.ps [(0, 38, .slice s5_A s5_n s5_c), (1, 39, .int .i64 z6), (2, 40, .int .u32 r10)] (by kernel_rfl) ?_
       obtain ⟨h0, h⟩ := of_chk h
       obtain ⟨h1, h⟩ := of_chk h
       have i0_25 := h0
       have i1_25 := h1
       refine wpS.take 3 false (some 41) (.pointer (adr s5_A ((z6 : Int).toNat * Cod.size (CI .u32)))) (by kernel_rfl) (yld_idxL (C := (CI .u32)) (t := 82) (e := 84) (k := .i64) (x := z6) (hs.rowL 0 rfl) (by kernel_rfl) (by kernel_rfl) (by kernel_rfl) h0 h1) ?_
       refine wpS.only 4 (op_storeL (C := (CI .u32)) (t := 84) (x := z6) (v := r10) (d := none) (by kernel_rfl) hs 0 rfl (by kernel_rfl) (by kernel_rfl) i0_25 i1_25 ?_)
       intro w hs
       refine ⟨fun _ => trivial, ?_⟩
       refine wpS.fin rfl (kr24 _ _ ?_)
       refine inBlock_n ?_
       refine then_n (ks16 _ _ ?_)
       refine wp_regS (l := [0, 1]) (by kernel_rfl) (by kernel_rfl) fun KR26 kr26 => ?_
       refine wpS.ps [(0, 42, .int .i64 (iadd .i64 z6 1)), (1, 26, .int .i64 (iadd .i64 z6 1))] (by kernel_rfl) ?_
       refine wpS.fin rfl (kr26 _ _ ?_)
       exact then_n (kl0 _ _ ⟨n, Nat.lt_succ_self n, (iadd .i64 z6 1), (wrL z7 z6 r10), h, (hs.conv rfl), exg (by kernel_rfl)⟩)
      | false =>
       have h := of_if_f h
       refine wpS.ps [(5, 35, .bool false), (6, 11, .int .u32 r10), (7, 12, .bool false)] (by kernel_rfl) ?_
       refine wpS.fin rfl (kr20 _ _ ?_)
       refine then_n (ks19 _ _ ?_)
       refine xseq_k fun KS27 ks27 => ?_
       refine xseq_k fun KS28 ks28 => ?_
       refine wp_regS (l := [0, 1]) (by kernel_rfl) (by kernel_rfl) fun KR29 kr29 => ?_
       refine wpS.ps [(0, 36, .bool false), (1, 37, .bool true)] (by kernel_rfl) ?_
       refine wpS.fin rfl (kr29 _ _ ?_)
       refine then_n (ks28 _ _ ?_)
       refine wp_cond_t (by kernel_rfl) ?_
       refine xseq_k fun KS30 ks30 => ?_
       refine wp_regS (l := [0]) (by kernel_rfl) (by kernel_rfl) fun KR31 kr31 => ?_
       refine wpS.p 0 6 (.slice none 0 0) (by kernel_rfl) ?_
       refine wpS.fin rfl (kr31 _ _ ?_)
       refine then_n (ks30 _ _ ?_)
       refine xret ?_
       refine then_r ?_
       refine inBlock_r ?_
       refine then_r ?_
       refine then_r ?_
       refine inBlock_r ?_
       refine exq_r ?_
       refine then_r ?_
       have q0 := of_some h
       subst q0
       have q0 := of_some hk0
       subst q0
       have hs := hs.addNilL (CI .u8) 5
       exact qq _ _ (post_ret (by kernel_rfl) (run_results [.tmp 6] [.slice none 0 0] (by kernel_rfl) (.cons (res_tmp (by kernel_rfl)) .nil)) ⟨⟨none, 0, 0⟩, congrArg Ending.returned (by kernel_rfl), (hs.drop (.cons_cons _ (.cons _ (.cons _ (.cons _ .slnil))))), (fun _ => rfl)⟩)
     ·refine wpS.take 0 false (some 27) (.bool false) (by kernel_rfl) (yld_b (df hc) (fun _ => by kernel_rfl)) ?_
      refine wpS.fin rfl (kr14 _ _ ?_)
      refine then_n (ks13 _ _ ?_)
      refine xseq_k fun KS32 ks32 => ?_
      refine wp_cond_f (by kernel_rfl) ?_
      refine xexit ?_
      refine then_x ?_
      refine then_x ?_
      refine inBlock_hit ?_
      have q0 := of_some h
      subst q0
      exact exq_n (nn0 _ _ ⟨z7, rfl, (hs.conv rfl), exg (by kernel_rfl)⟩)
   ·clear hs h hy
    rintro a w ⟨y8, rfl, hs, g, rfl⟩
    have h := hk0
    refine then_n (ks10 _ _ ?_)
    refine xseq_k fun KS33 ks33 => ?_
    refine wp_regS (l := [0, 1, 2, 3, 4]) (by kernel_rfl) (by kernel_rfl) fun KR34 kr34 => ?_
    refine wpS.p 0 43 (.slice s5_A s5_n s5_c) (by kernel_rfl) ?_
    refine wpS.take 1 true (some 44) (.agg #[.int .i32 a1, .int .i32 a2]) (by kernel_rfl) (yld_loadW (e := 73) (n := 2) hs 1 rfl (by kernel_rfl) (by kernel_rfl) (by kernel_rfl) (by simp [enc_len]) .grow) ?_
    obtain ⟨r12, hg, h⟩ := of_bind h
    refine wpS.only 2 (op_call (d := (some 45)) (by kernel_rfl) hs (fun _ => by kernel_rfl) (dpack_span_width.ok hg _) ?_)
    intro w gw hs
    refine ⟨fun _ => trivial, ?_⟩
    obtain ⟨r13, hg, h⟩ := of_bind h
    refine wpS.only 3 (op_callH (d := (some 46)) (by kernel_rfl) hs (fun _ => by kernel_rfl) (bits_Pack.ok hg _ (hs.rowL 0 rfl)) ?_)
    rintro ⟨r13_A, r13_n, r13_c⟩ w gw hs
    have hs := hs.conv (L' := [.ownL (CI .u8) r13_A r13_n r13_c r13 5, .ownL (CI .u32) s5_A s5_n s5_c y8 84, .blk b2 ([.int .i32 a1, .int .i32 a2]) 73, .blk b1 (enc .i32 a0) 40]) rfl
    refine ⟨fun _ => trivial, ?_⟩
    refine wpS.p 4 6 (.slice r13_A r13_n r13_c) (by kernel_rfl) ?_
    refine wpS.fin rfl (kr34 _ _ ?_)
    refine then_n (ks33 _ _ ?_)
    refine xret ?_
    obtain ⟨hne, h⟩ := of_chk h
    have q0 := of_some h
    subst q0
    exact qq _ _ (post_ret (by kernel_rfl) (run_results [.tmp 6] [.slice r13_A r13_n r13_c] (by kernel_rfl) (.cons (res_tmp (by kernel_rfl)) .nil)) ⟨⟨r13_A, r13_n, r13_c⟩, congrArg Ending.returned (by kernel_rfl), (hs.drop (.cons_cons _ (.cons _ (.cons _ (.cons _ .slnil))))), (fun hl => absurd (by rw [hl]; rfl) hne)⟩)
  | false =>
   have h := of_if_f h
   refine wpS.only 5 (op_call (d := (some 21)) (by kernel_rfl) hs (fun _ => by kernel_rfl) (zq_Fit.ok hg _) ?_)
   intro w gw hs
   refine ⟨fun _ => trivial, ?_⟩
   refine wpS.ps [(6, 22, .bool true), (7, 23, .bool true)] (by kernel_rfl) ?_
   refine wpS.fin rfl (kr7 _ _ ?_)
   refine then_n (ks6 _ _ ?_)
   refine wp_cond_t (by kernel_rfl) ?_
   refine xseq_k fun KS35 ks35 => ?_
   refine wp_regS (l := [0]) (by kernel_rfl) (by kernel_rfl) fun KR36 kr36 => ?_
   refine wpS.p 0 6 (.slice none 0 0) (by kernel_rfl) ?_
   refine wpS.fin rfl (kr36 _ _ ?_)
   refine then_n (ks35 _ _ ?_)
   refine xret ?_
   refine then_r ?_
   have q0 := of_some h
   subst q0
   have hs := hs.addNilL (CI .u8) 5
   exact qq _ _ (post_ret (by kernel_rfl) (run_results [.tmp 6] [.slice none 0 0] (by kernel_rfl) (.cons (res_tmp (by kernel_rfl)) .nil)) ⟨⟨none, 0, 0⟩, congrArg Ending.returned (by kernel_rfl), (hs.drop (.cons_cons _ (.cons _ (.cons _ .slnil)))), (fun _ => rfl)⟩)
 | false =>
  have h := of_if_f h
  refine wpS.only 1 (op_call (d := (some 17)) (by kernel_rfl) hs (fun _ => by kernel_rfl) (dpack_span_fit.ok hg _) ?_)
  intro w gw hs
  refine ⟨fun _ => trivial, ?_⟩
  refine wpS.ps [(2, 18, .bool true), (3, 19, .bool true), (4, 20, undef), (5, 21, undef), (6, 22, undef), (7, 23, .bool true)] (by kernel_rfl) ?_
  refine wpS.fin rfl (kr7 _ _ ?_)
  refine then_n (ks6 _ _ ?_)
  refine wp_cond_t (by kernel_rfl) ?_
  refine xseq_k fun KS37 ks37 => ?_
  refine wp_regS (l := [0]) (by kernel_rfl) (by kernel_rfl) fun KR38 kr38 => ?_
  refine wpS.p 0 6 (.slice none 0 0) (by kernel_rfl) ?_
  refine wpS.fin rfl (kr38 _ _ ?_)
  refine then_n (ks37 _ _ ?_)
  refine xret ?_
  refine then_r ?_
  have q0 := of_some h
  subst q0
  have hs := hs.addNilL (CI .u8) 5
  exact qq _ _ (post_ret (by kernel_rfl) (run_results [.tmp 6] [.slice none 0 0] (by kernel_rfl) (.cons (res_tmp (by kernel_rfl)) .nil)) ⟨⟨none, 0, 0⟩, congrArg Ending.returned (by kernel_rfl), (hs.drop (.cons_cons _ (.cons _ (.cons _ .slnil)))), (fun _ => rfl)⟩)

theorem dpack_Public.ok {K : Nat} {a0_0 : Int} {a0_1 : Int} {a0_2 : Int} {a0_3 : Int} {a0_4 : Int} {a0_5 : Int} {a0_6 : Int} {a0_7 : Int} {a1_0 : List Int} {a1_1 : List (Arr 256)} {r0 : List Int} {a1_0_A : Option Addr} {a1_0_n : Nat} {a1_0_c : Nat} {a1_1_A : Option Addr} {a1_1_n : Nat} {a1_1_c : Nat} (h : dpack_Public.f K a0_0 a0_1 a0_2 a0_3 a0_4 a0_5 a0_6 a0_7 a1_0 a1_1 = some r0) (w0 : World) (hp1_0 : RowL (CI .u8) w0 a1_0_A a1_0_n a1_0_c a1_0) (hp1_1 : RowL (CA .i32 256 (by decide)) w0 a1_1_A a1_1_n a1_1_c a1_1) : Calls Try.prog 10 #[.agg #[.int .i64 a0_0, .int .i64 a0_1, .int .i32 a0_2, .int .i64 a0_3, .int .i32 a0_4, .int .i32 a0_5, .int .i64 a0_6, .int .i64 a0_7], .agg #[.slice a1_0_A a1_0_n a1_0_c, .slice a1_1_A a1_1_n a1_1_c]] w0 fun e w' => ∃ h : (Option Addr × Nat × Nat), e = .returned (.slice h.1 h.2.1 h.2.2) ∧ St w0 [] [.ownL (CI .u8) h.1 h.2.1 h.2.2 r0 5] [] w' := by
 refine calls_k Try.func10 rfl fun Q qq => ?_
 have hs := St.startR (all_cons (RowP.ent hp1_0) (all_cons (RowP.ent hp1_1) all_nil))
 refine wp_conv (a' := ⟨#[.agg #[.int .i64 a0_0, .int .i64 a0_1, .int .i32 a0_2, .int .i64 a0_3, .int .i32 a0_4, .int .i32 a0_5, .int .i64 a0_6, .int .i64 a0_7], .agg #[.slice a1_0_A a1_0_n a1_0_c, .slice a1_1_A a1_1_n a1_1_c], undef, undef, undef, undef, undef, undef, undef, undef, undef, undef, undef, undef, undef, undef, undef, undef, undef, undef, undef, undef], []⟩) (by kernel_rfl) ?_
 refine xseq_k fun KS1 ks1 => ?_
 refine wp_regS (l := [0, 1, 2]) (by kernel_rfl) (by kernel_rfl) fun KR2 kr2 => ?_
 refine wpS.only 0 (op_box (t := 23) (v := .agg #[.int .i64 a0_0, .int .i64 a0_1, .int .i32 a0_2, .int .i64 a0_3, .int .i32 a0_4, .int .i32 a0_5, .int .i64 a0_6, .int .i64 a0_7]) (d := (some 2)) (by kernel_rfl) hs ([.int .i64 a0_0, .int .i64 a0_1, .int .i32 a0_2, .int .i64 a0_3, .int .i32 a0_4, .int .i32 a0_5, .int .i64 a0_6, .int .i64 a0_7]) (by kernel_rfl) (by kernel_rfl) ?_)
 intro b1 w gw hs
 refine ⟨fun _ => trivial, ?_⟩
 refine wpS.only 1 (op_box (t := 27) (v := .agg #[.slice a1_0_A a1_0_n a1_0_c, .slice a1_1_A a1_1_n a1_1_c]) (d := (some 3)) (by kernel_rfl) hs ([.slice a1_0_A a1_0_n a1_0_c, .slice a1_1_A a1_1_n a1_1_c]) (by kernel_rfl) (by kernel_rfl) ?_)
 intro b2 w gw hs
 refine ⟨fun _ => trivial, ?_⟩
 refine wpS.p 2 4 (.slice none 0 0) (by kernel_rfl) ?_
 refine wpS.fin rfl (kr2 _ _ ?_)
 refine then_n (ks1 _ _ ?_)
 refine xseq_k fun KS3 ks3 => ?_
 refine wp_regS (l := [0, 1, 2]) (by kernel_rfl) (by kernel_rfl) fun KR4 kr4 => ?_
 refine wpS.p 0 6 (.agg #[.slice none 0 0, .bool false]) (by kernel_rfl) ?_
 refine wpS.only 1 (op_box (t := 69) (v := .agg #[.slice none 0 0, .bool false]) (d := (some 7)) (by kernel_rfl) hs ([.slice none 0 0, .bool false]) (by kernel_rfl) (by kernel_rfl) ?_)
 intro b3 w gw hs
 refine ⟨fun _ => trivial, ?_⟩
 refine wpS.p 2 5 (.pointer (some ⟨b3, 0, none⟩)) (by kernel_rfl) ?_
 refine wpS.fin rfl (kr4 _ _ ?_)
 refine then_n (ks3 _ _ ?_)
 refine xseq_k fun KS5 ks5 => ?_
 refine wp_regS (l := [0, 1, 2, 3]) (by kernel_rfl) (by kernel_rfl) fun KR6 kr6 => ?_
 refine wpS.ps [(0, 8, .pointer (some ⟨b3, 0, none⟩)), (1, 9, .pointer (some ⟨b2, 0, none⟩))] (by kernel_rfl) ?_
 refine wpS.take 2 true (some 10) (.slice a1_0_A a1_0_n a1_0_c) (by kernel_rfl) (yld_load1 (e := 24) (o := 0) hs 1 rfl (by kernel_rfl) (by kernel_rfl) (by rfl) .grow) ?_
 refine wpS.only 3 (op_inline (d := (some 11)) (f := 38) (args := #[.pointer (some ⟨b3, 0, none⟩), .slice a1_0_A a1_0_n a1_0_c, .int .i64 32]) (by kernel_rfl) (fun _ => by kernel_rfl) fun R7 kI7 => ?_)
 refine calls_kn Try.func38 rfl fun Q7 qq7 qn7 => ?_
 refine wp_conv (a' := ⟨#[.pointer (some ⟨b3, 0, none⟩), .slice a1_0_A a1_0_n a1_0_c, .int .i64 32, undef, undef, undef, undef, undef, undef, undef, undef, undef, undef, undef, undef, undef, undef, undef, undef, undef, undef, undef, undef, undef, undef, undef, undef, undef], []⟩) (by kernel_rfl) ?_
 refine xseq_k fun KS8 ks8 => ?_
 refine wp_regS (l := [0, 1, 2, 3, 4, 5, 6, 7, 8, 9, 10, 11, 12, 13]) (by kernel_rfl) (by kernel_rfl) fun KR9 kr9 => ?_
 refine wpS.ps [(0, 6, .pointer (some ⟨b3, 0, none⟩)), (1, 7, .pointer (some ⟨b3, 0, none⟩)), (2, 8, .pointer (some ⟨b3, 0, none⟩)), (3, 9, .pointer (some ⟨b3, 1, none⟩))] (by kernel_rfl) ?_
 refine wpS.take 4 true (some 10) (.bool false) (by kernel_rfl) (yld_load1 (e := 4) (o := 1) hs 0 rfl (by kernel_rfl) (by kernel_rfl) (by rfl) .grow) ?_
 refine wpS.ps [(5, 11, .bool false), (6, 12, .slice a1_0_A a1_0_n a1_0_c)] (by kernel_rfl) ?_
 refine wpS.take 7 false (some 13) (.int .i64 (a1_0.length : Int)) (by kernel_rfl) (yld_lenL (hs.rowR 0 rfl) (fun _ => by kernel_rfl)) ?_
 refine wpS.ps [(8, 14, .int .i64 32), (9, 15, .bool ((a1_0.length : Int) != 32)), (10, 16, .bool ((a1_0.length : Int) != 32)), (11, 17, .pointer (some ⟨b3, 0, none⟩)), (12, 18, .pointer (some ⟨b3, 1, none⟩))] (by kernel_rfl) ?_
 obtain ⟨x4, hx, h⟩ := of_bind h
 refine wpS.only 13 (op_store1 (t := 4) (o := 1) (v := .bool x4) (d := none) (by kernel_rfl) hs 0 rfl (by cases hx; kernel_rfl) rfl (by kernel_rfl) (by simp) ?_)
 intro w kp hs
 refine ⟨fun _ => trivial, ?_⟩
 refine wpS.fin rfl (kr9 _ _ ?_)
 refine then_n (ks8 _ _ ?_)
 refine wp_regS (l := [0, 1, 2, 3, 4, 5, 6, 7, 8, 9]) (by kernel_rfl) (by kernel_rfl) fun KR10 kr10 => ?_
 refine wpS.ps [(0, 19, .pointer (some ⟨b3, 0, none⟩)), (1, 20, .pointer (some ⟨b3, 0, none⟩)), (2, 21, .pointer (some ⟨b3, 0, none⟩)), (3, 22, .pointer (some ⟨b3, 0, none⟩))] (by kernel_rfl) ?_
 refine wpS.take 4 true (some 23) (.slice none 0 0) (by kernel_rfl) (yld_load1 (e := 24) (o := 0) hs 0 rfl (by kernel_rfl) (by kernel_rfl) (by rfl) .grow) ?_
 refine wpS.p 5 24 (.slice a1_0_A a1_0_n a1_0_c) (by kernel_rfl) ?_
 obtain ⟨h0, h⟩ := of_chk h
 have hs := hs.addNilL (CI .u8) 5
 refine wpS.only 6 (op_appendT (C := (CI .u8)) (t := 24) (ty := 24) (e := 5) (bytes := 1) (B := 140737488355328) (d := (some 25)) (by kernel_rfl) hs 0 rfl (hs.rowR 0 rfl) (by kernel_rfl) (by kernel_rfl) (by kernel_rfl) (by kernel_rfl) (by kernel_rfl) h0 (by decide) (by decide) ?_)
 intro s5_A s5_n s5_c w hs
 refine ⟨fun _ => trivial, ?_⟩
 refine wpS.ps [(7, 26, .pointer (some ⟨b3, 0, none⟩)), (8, 27, .pointer (some ⟨b3, 0, none⟩))] (by kernel_rfl) ?_
 refine wpS.only 9 (op_store1 (t := 24) (o := 0) (v := .slice s5_A s5_n s5_c) (d := none) (by kernel_rfl) hs 1 rfl (by kernel_rfl) rfl (by kernel_rfl) (by simp) ?_)
 intro w kp hs
 refine ⟨fun _ => trivial, ?_⟩
 refine wpS.fin rfl (kr10 _ _ ?_)
 refine qn7 _ _ (post_nrm (by kernel_rfl) (run_results [] [] (by kernel_rfl) .nil) ?_)
 refine kI7 _ _ ?_
 refine ⟨fun _ => trivial, ?_⟩
 refine wpS.fin rfl (kr6 _ _ ?_)
 refine then_n (ks5 _ _ ?_)
 refine xseq_k fun KS11 ks11 => ?_
 refine wp_regS (l := [0, 1, 2, 3, 4, 5, 6]) (by kernel_rfl) (by kernel_rfl) fun KR12 kr12 => ?_
 refine wpS.ps [(0, 12, .pointer (some ⟨b3, 0, none⟩)), (1, 13, .pointer (some ⟨b2, 1, none⟩))] (by kernel_rfl) ?_
 refine wpS.take 2 true (some 14) (.slice a1_1_A a1_1_n a1_1_c) (by kernel_rfl) (yld_load1 (e := 25) (o := 1) hs 2 rfl (by kernel_rfl) (by kernel_rfl) (by rfl) .grow) ?_
 refine wpS.p 3 15 (.pointer (some ⟨b1, 0, none⟩)) (by kernel_rfl) ?_
 refine wpS.take 4 true (some 16) (.int .i64 a0_0) (by kernel_rfl) (yld_load1 (e := 3) (o := 0) hs 3 rfl (by kernel_rfl) (by kernel_rfl) (by rfl) .grow) ?_
 refine wpS.p 5 17 (.agg #[.int .i32 (-1), .int .i32 1023]) (by kernel_rfl) ?_
 refine wpS.only 6 (op_inline (d := (some 18)) (f := 39) (args := #[.pointer (some ⟨b3, 0, none⟩), .slice a1_1_A a1_1_n a1_1_c, .int .i64 a0_0, .agg #[.int .i32 (-1), .int .i32 1023]]) (by kernel_rfl) (fun _ => by kernel_rfl) fun R13 kI13 => ?_)
 refine calls_kn Try.func39 rfl fun Q13 qq13 qn13 => ?_
 refine wp_conv (a' := ⟨#[.pointer (some ⟨b3, 0, none⟩), .slice a1_1_A a1_1_n a1_1_c, .int .i64 a0_0, .agg #[.int .i32 (-1), .int .i32 1023], undef, undef, undef, undef, undef, undef, undef, undef, undef, undef, undef, undef, undef, undef, undef, undef, undef, undef, undef, undef, undef, undef, undef, undef, undef, undef, undef, undef, undef, undef, undef, undef, undef, undef, undef, undef, undef, undef, undef, undef, undef, undef, undef, undef, undef, undef, undef, undef, undef, undef, undef, undef, undef], []⟩) (by kernel_rfl) ?_
 refine xseq_k fun KS14 ks14 => ?_
 refine wp_regS (l := [0]) (by kernel_rfl) (by kernel_rfl) fun KR15 kr15 => ?_
 refine wpS.only 0 (op_box (t := 73) (v := .agg #[.int .i32 (-1), .int .i32 1023]) (d := (some 7)) (by kernel_rfl) hs ([.int .i32 (-1), .int .i32 1023]) (by kernel_rfl) (by kernel_rfl) ?_)
 intro b6 w gw hs
 refine ⟨fun _ => trivial, ?_⟩
 refine wpS.fin rfl (kr15 _ _ ?_)
 refine then_n (ks14 _ _ ?_)
 obtain ⟨y7_1, hj, h⟩ := of_bind h
 refine xseq_k fun KS16 ks16 => wp_join (N := fun a w => St w0 [] [.blk b6 ([.int .i32 (-1), .int .i32 1023]) 73, .ownL (CI .u8) s5_A s5_n s5_c (([] : List Int) ++ a1_0) 5, .blk b3 ([.slice s5_A s5_n s5_c, .bool y7_1]) 69, .blk b2 ([.slice a1_0_A a1_0_n a1_0_c, .slice a1_1_A a1_1_n a1_1_c]) 27, .blk b1 ([.int .i64 a0_0, .int .i64 a0_1, .int .i32 a0_2, .int .i64 a0_3, .int .i32 a0_4, .int .i32 a0_5, .int .i64 a0_6, .int .i64 a0_7]) 23] [.rowL (CI .u8) a1_0_A a1_0_n a1_0_c a1_0, .rowL (CA .i32 256 (by decide)) a1_1_A a1_1_n a1_1_c a1_1] w ∧ ∃ g : Nat → Value, a = ⟨#[.pointer (some ⟨b3, 0, none⟩), .slice a1_1_A a1_1_n a1_1_c, .int .i64 a0_0, .agg #[.int .i32 (-1), .int .i32 1023], undef, undef, undef, .pointer (some ⟨b6, 0, none⟩), undef, undef, undef, (g 11), (g 12), (g 13), (g 14), (g 15), (g 16), (g 17), (g 18), (g 19), (g 20), (g 21), (g 22), (g 23), undef, undef, undef, undef, undef, undef, undef, undef, undef, undef, undef, undef, undef, undef, undef, undef, undef, undef, undef, undef, undef, undef, undef, undef, undef, undef, undef, undef, undef, undef, undef, undef, undef], []⟩) (fun N nj => ?_) ?_
 ·clear h
  have h := hj
  refine wp_regS (l := [0, 1, 2, 3, 4, 5, 6, 7, 8, 9, 10, 11, 12, 13]) (by kernel_rfl) (by kernel_rfl) fun KR17 kr17 => ?_
  refine wpS.ps [(0, 11, .pointer (some ⟨b3, 0, none⟩)), (1, 12, .pointer (some ⟨b3, 0, none⟩)), (2, 13, .pointer (some ⟨b3, 0, none⟩)), (3, 14, .pointer (some ⟨b3, 1, none⟩))] (by kernel_rfl) ?_
  cases x4 with
  | true =>
   have h := of_if_t h
   refine wpS.take 4 true (some 15) (.bool true) (by kernel_rfl) (yld_load1 (e := 4) (o := 1) hs 2 rfl (by kernel_rfl) (by kernel_rfl) (by rfl) .grow) ?_
   refine wpS.ps [(5, 16, .bool true), (6, 17, undef), (7, 18, undef), (8, 19, undef), (9, 20, undef), (10, 21, .bool true), (11, 22, .pointer (some ⟨b3, 0, none⟩)), (12, 23, .pointer (some ⟨b3, 1, none⟩))] (by kernel_rfl) ?_
   refine wpS.only 13 (op_store1 (t := 4) (o := 1) (v := .bool true) (d := none) (by kernel_rfl) hs 2 rfl (by kernel_rfl) rfl (by kernel_rfl) (by simp) ?_)
   intro w kp hs
   refine ⟨fun _ => trivial, ?_⟩
   refine wpS.fin rfl (kr17 _ _ ?_)
   have q0 := of_some h
   subst q0
   exact nj _ _ ⟨(hs.conv rfl), exg (by kernel_rfl)⟩
  | false =>
   have h := of_if_f h
   refine wpS.take 4 true (some 15) (.bool false) (by kernel_rfl) (yld_load1 (e := 4) (o := 1) hs 2 rfl (by kernel_rfl) (by kernel_rfl) (by rfl) .grow) ?_
   refine wpS.ps [(5, 16, .bool false), (6, 17, .slice a1_1_A a1_1_n a1_1_c)] (by kernel_rfl) ?_
   refine wpS.take 7 false (some 18) (.int .i64 (a1_1.length : Int)) (by kernel_rfl) (yld_lenL (hs.rowR 1 rfl) (fun _ => by kernel_rfl)) ?_
   refine wpS.ps [(8, 19, .int .i64 a0_0), (9, 20, .bool ((a1_1.length : Int) != a0_0)), (10, 21, .bool ((a1_1.length : Int) != a0_0)), (11, 22, .pointer (some ⟨b3, 0, none⟩)), (12, 23, .pointer (some ⟨b3, 1, none⟩))] (by kernel_rfl) ?_
   obtain ⟨x8, hx, h⟩ := of_bind h
   refine wpS.only 13 (op_store1 (t := 4) (o := 1) (v := .bool x8) (d := none) (by kernel_rfl) hs 2 rfl (by cases hx; kernel_rfl) rfl (by kernel_rfl) (by simp) ?_)
   intro w kp hs
   refine ⟨fun _ => trivial, ?_⟩
   refine wpS.fin rfl (kr17 _ _ ?_)
   have q0 := of_some h
   subst q0
   exact nj _ _ ⟨(hs.conv rfl), exg (by kernel_rfl)⟩
 ·clear hj hs
  rintro a w ⟨hs, g, rfl⟩
  refine then_n (ks16 _ _ ?_)
  refine xseq_k fun KS18 ks18 => ?_
  refine wp_regS (l := [0, 1, 2]) (by kernel_rfl) (by kernel_rfl) fun KR19 kr19 => ?_
  refine wpS.p 0 24 (.slice a1_1_A a1_1_n a1_1_c) (by kernel_rfl) ?_
  refine wpS.take 1 false (some 25) (.int .i64 (a1_1.length : Int)) (by kernel_rfl) (yld_lenL (hs.rowR 1 rfl) (fun _ => by kernel_rfl)) ?_
  refine wpS.p 2 26 (.int .i64 0) (by kernel_rfl) ?_
  refine wpS.fin rfl (kr19 _ _ ?_)
  refine then_n (ks18 _ _ ?_)
  obtain ⟨⟨y12, y13_1⟩, hy, hk0⟩ := of_bind h
  refine wp_exq (N := fun a w => ∃ (y12_A : Option Addr) (y12_n : Nat) (y12_c : Nat), St w0 [] [.blk b6 ([.int .i32 (-1), .int .i32 1023]) 73, .ownL (CI .u8) y12_A y12_n y12_c y12 5, .blk b3 ([.slice y12_A y12_n y12_c, .bool y13_1]) 69, .blk b2 ([.slice a1_0_A a1_0_n a1_0_c, .slice a1_1_A a1_1_n a1_1_c]) 27, .blk b1 ([.int .i64 a0_0, .int .i64 a0_1, .int .i32 a0_2, .int .i64 a0_3, .int .i32 a0_4, .int .i32 a0_5, .int .i64 a0_6, .int .i64 a0_7]) 23] [.rowL (CI .u8) a1_0_A a1_0_n a1_0_c a1_0, .rowL (CA .i32 256 (by decide)) a1_1_A a1_1_n a1_1_c a1_1] w ∧ ∃ g : Nat → Value, a = ⟨#[.pointer (some ⟨b3, 0, none⟩), .slice a1_1_A a1_1_n a1_1_c, .int .i64 a0_0, .agg #[.int .i32 (-1), .int .i32 1023], undef, undef, undef, .pointer (some ⟨b6, 0, none⟩), undef, (g 9), (g 10), (g 11), (g 12), (g 13), (g 14), (g 15), (g 16), (g 17), (g 18), (g 19), (g 20), (g 21), (g 22), (g 23), .slice a1_1_A a1_1_n a1_1_c, .int .i64 (a1_1.length : Int), (g 26), (g 27), (g 28), (g 29), (g 30), (g 31), (g 32), (g 33), (g 34), (g 35), (g 36), (g 37), (g 38), (g 39), (g 40), (g 41), (g 42), (g 43), (g 44), (g 45), (g 46), (g 47), (g 48), (g 49), (g 50), (g 51), (g 52), (g 53), (g 54), (g 55), (g 56)], []⟩) (fun N0 nn0 => ?_) ?_
  ·clear hk0
   refine xblock ?_
   refine wp_loop_k (fun n a w => ∃ z9 z10 z11_1, ∃ (z10_A : Option Addr) (z10_n : Nat) (z10_c : Nat), dpack_Public.l0 K n a1_1 z9 z10 z11_1 = some (y12, y13_1) ∧ St w0 [] [.blk b6 ([.int .i32 (-1), .int .i32 1023]) 73, .ownL (CI .u8) z10_A z10_n z10_c z10 5, .blk b3 ([.slice z10_A z10_n z10_c, .bool z11_1]) 69, .blk b2 ([.slice a1_0_A a1_0_n a1_0_c, .slice a1_1_A a1_1_n a1_1_c]) 27, .blk b1 ([.int .i64 a0_0, .int .i64 a0_1, .int .i32 a0_2, .int .i64 a0_3, .int .i32 a0_4, .int .i32 a0_5, .int .i64 a0_6, .int .i64 a0_7]) 23] [.rowL (CI .u8) a1_0_A a1_0_n a1_0_c a1_0, .rowL (CA .i32 256 (by decide)) a1_1_A a1_1_n a1_1_c a1_1] w ∧ ∃ g : Nat → Value, a = ⟨#[.pointer (some ⟨b3, 0, none⟩), .slice a1_1_A a1_1_n a1_1_c, .int .i64 a0_0, .agg #[.int .i32 (-1), .int .i32 1023], undef, undef, undef, .pointer (some ⟨b6, 0, none⟩), undef, (g 9), (g 10), (g 11), (g 12), (g 13), (g 14), (g 15), (g 16), (g 17), (g 18), (g 19), (g 20), (g 21), (g 22), (g 23), .slice a1_1_A a1_1_n a1_1_c, .int .i64 (a1_1.length : Int), .int .i64 z9, (g 27), (g 28), (g 29), (g 30), (g 31), (g 32), (g 33), (g 34), (g 35), (g 36), (g 37), (g 38), (g 39), (g 40), (g 41), (g 42), (g 43), (g 44), (g 45), (g 46), (g 47), (g 48), (g 49), (g 50), (g 51), (g 52), (g 53), (g 54), (g 55), (g 56)], []⟩) K ⟨0, (([] : List Int) ++ a1_0), y7_1, s5_A, s5_n, s5_c, hy, hs.conv rfl, exg (by kernel_rfl)⟩ ?_
   clear hs h hy
   rintro n a w ⟨z9, z10, z11_1, z10_A, z10_n, z10_c, h, hs, g, rfl⟩ KL0 kl0
   cases n with
   | zero => exact nomatch (show none = some _ from h)
   | succ n =>
    refine xseq_k fun KS20 ks20 => ?_
    refine wp_regS (l := [0]) (by kernel_rfl) (by kernel_rfl) fun KR21 kr21 => ?_
    rcases of_if h with ⟨hc, h⟩ | ⟨hc, h⟩
    ·refine wpS.take 0 false (some 27) (.bool true) (by kernel_rfl) (yld_b (dt hc) (fun _ => by kernel_rfl)) ?_
     refine wpS.fin rfl (kr21 _ _ ?_)
     refine then_n (ks20 _ _ ?_)
     refine xseq_k fun KS22 ks22 => ?_
     refine wp_cond_t (by kernel_rfl) ?_
     refine xskip ?_
     refine then_n (ks22 _ _ ?_)
     refine xseq_k fun KS23 ks23 => ?_
     refine xblock ?_
     refine xseq_k fun KS24 ks24 => ?_
     refine wp_regS (l := [0, 1, 2, 3]) (by kernel_rfl) (by kernel_rfl) fun KR25 kr25 => ?_
     obtain ⟨h0, h⟩ := of_chk h
     obtain ⟨h1, h⟩ := of_chk h
     have i0_26 := h0
     have i1_26 := h1
     refine wpS.take 0 false (some 28) (.pointer (adr a1_1_A ((z9 : Int).toNat * Cod.size (CA .i32 256 (by decide))))) (by kernel_rfl) (yld_idxL (C := (CA .i32 256 (by decide))) (t := 25) (e := 40) (k := .i64) (x := z9) (hs.rowR 1 rfl) (by kernel_rfl) (by kernel_rfl) (by kernel_rfl) h0 h1) ?_
     refine wpS.take 1 true (some 29) (.agg (enc .i32 (rdL (CA .i32 256 (by decide)) a1_1 z9)).toArray) (by kernel_rfl) (yld_loadLA (C := (CA .i32 256 (by decide))) (e := 40) (x := z9) (hs.rowR 1 rfl) (by kernel_rfl) rfl (by kernel_rfl) (by kernel_rfl) i0_26 i1_26) ?_
     refine wpS.only 2 (op_alloc (t := 40) (d := (some 9)) (by kernel_rfl) hs (enc .i32 (zeroA 256)) (.agg (enc .i32 (zeroA 256)).toArray) (by kernel_rfl) (by kernel_rfl) (by kernel_rfl) ?_)
     intro b14 w gw hs
     refine ⟨fun _ => trivial, ?_⟩
     refine wpS.only 3 (op_storeW (t := 40) (v := .agg (enc .i32 (rdL (CA .i32 256 (by decide)) a1_1 z9)).toArray) (d := none) (by kernel_rfl) hs 0 rfl (vs := enc .i32 (rdL (CA .i32 256 (by decide)) a1_1 z9)) (n := 256) (by kernel_rfl) (by kernel_rfl) (by kernel_rfl) (by simp [enc_len]) (by simp [enc_len]) (by intro u hu; exact enc_one _ _ u hu) ?_)
     intro w kp hs
     refine ⟨fun _ => trivial, ?_⟩
     refine wpS.fin rfl (kr25 _ _ ?_)
     refine then_n (ks24 _ _ ?_)
     refine xseq_k fun KS27 ks27 => ?_
     refine wp_regS (l := [0, 1, 2, 3, 4, 5, 6]) (by kernel_rfl) (by kernel_rfl) fun KR28 kr28 => ?_
     refine wpS.take 0 true (some 30) (.agg (enc .i32 (rdL (CA .i32 256 (by decide)) a1_1 z9)).toArray) (by kernel_rfl) (yld_loadW (e := 40) (n := 256) hs 0 rfl (by kernel_rfl) (by kernel_rfl) (by kernel_rfl) (by exact enc_len _ _) .grow) ?_
     refine wpS.p 1 31 (.pointer (some ⟨b6, 0, none⟩)) (by kernel_rfl) ?_
     refine wpS.take 2 true (some 32) (.int .i32 (-1)) (by kernel_rfl) (yld_load1 (e := 21) (o := 0) hs 1 rfl (by kernel_rfl) (by kernel_rfl) (by rfl) .grow) ?_
     refine wpS.p 3 33 (.pointer (some ⟨b6, 1, none⟩)) (by kernel_rfl) ?_
     refine wpS.take 4 true (some 34) (.int .i32 1023) (by kernel_rfl) (yld_load1 (e := 21) (o := 1) hs 1 rfl (by kernel_rfl) (by kernel_rfl) (by rfl) .grow) ?_
     obtain ⟨r15, hg, h⟩ := of_bind h
     refine wpS.only 5 (op_callHF (d := (some 35)) (by kernel_rfl) hs (fun _ => by kernel_rfl) (dpack_Pack.ok hg _) ?_)
     rintro ⟨r15_A, r15_n, r15_c⟩ w hne29 gw hs
     have hs := hs.conv (L' := [.ownL (CI .u8) r15_A r15_n r15_c r15 5, .blk b14 (enc .i32 (rdL (CA .i32 256 (by decide)) a1_1 z9)) 40, .blk b6 ([.int .i32 (-1), .int .i32 1023]) 73, .ownL (CI .u8) z10_A z10_n z10_c z10 5, .blk b3 ([.slice z10_A z10_n z10_c, .bool z11_1]) 69, .blk b2 ([.slice a1_0_A a1_0_n a1_0_c, .slice a1_1_A a1_1_n a1_1_c]) 27, .blk b1 ([.int .i64 a0_0, .int .i64 a0_1, .int .i32 a0_2, .int .i64 a0_3, .int .i32 a0_4, .int .i32 a0_5, .int .i64 a0_6, .int .i64 a0_7]) 23]) rfl
     refine ⟨fun _ => trivial, ?_⟩
     refine wpS.p 6 10 (.slice r15_A r15_n r15_c) (by kernel_rfl) ?_
     refine wpS.fin rfl (kr28 _ _ ?_)
     refine then_n (ks27 _ _ ?_)
     obtain ⟨y16_1, hj, h⟩ := of_bind h
     refine xseq_k fun KS30 ks30 => wp_join (N := fun a w => St w0 [] [.ownL (CI .u8) r15_A r15_n r15_c r15 5, .blk b14 (enc .i32 (rdL (CA .i32 256 (by decide)) a1_1 z9)) 40, .blk b6 ([.int .i32 (-1), .int .i32 1023]) 73, .ownL (CI .u8) z10_A z10_n z10_c z10 5, .blk b3 ([.slice z10_A z10_n z10_c, .bool y16_1]) 69, .blk b2 ([.slice a1_0_A a1_0_n a1_0_c, .slice a1_1_A a1_1_n a1_1_c]) 27, .blk b1 ([.int .i64 a0_0, .int .i64 a0_1, .int .i32 a0_2, .int .i64 a0_3, .int .i32 a0_4, .int .i32 a0_5, .int .i64 a0_6, .int .i64 a0_7]) 23] [.rowL (CI .u8) a1_0_A a1_0_n a1_0_c a1_0, .rowL (CA .i32 256 (by decide)) a1_1_A a1_1_n a1_1_c a1_1] w ∧ ∃ g : Nat → Value, a = ⟨#[.pointer (some ⟨b3, 0, none⟩), .slice a1_1_A a1_1_n a1_1_c, .int .i64 a0_0, .agg #[.int .i32 (-1), .int .i32 1023], undef, undef, undef, .pointer (some ⟨b6, 0, none⟩), undef, .pointer (some ⟨b14, 0, none⟩), .slice r15_A r15_n r15_c, (g 11), (g 12), (g 13), (g 14), (g 15), (g 16), (g 17), (g 18), (g 19), (g 20), (g 21), (g 22), (g 23), .slice a1_1_A a1_1_n a1_1_c, .int .i64 (a1_1.length : Int), .int .i64 z9, .bool true, .pointer (adr a1_1_A ((z9 : Int).toNat * Cod.size (CA .i32 256 (by decide)))), .agg (enc .i32 (rdL (CA .i32 256 (by decide)) a1_1 z9)).toArray, .agg (enc .i32 (rdL (CA .i32 256 (by decide)) a1_1 z9)).toArray, .pointer (some ⟨b6, 0, none⟩), .int .i32 (-1), .pointer (some ⟨b6, 1, none⟩), .int .i32 1023, .slice r15_A r15_n r15_c, (g 36), (g 37), (g 38), (g 39), (g 40), (g 41), (g 42), (g 43), (g 44), (g 45), (g 46), (g 47), (g 48), (g 49), (g 50), (g 51), (g 52), (g 53), (g 54), (g 55), (g 56)], []⟩) (fun N nj => ?_) ?_
     ·clear h
      have h := hj
      refine wp_regS (l := [0, 1, 2, 3, 4, 5, 6, 7, 8, 9, 10, 11]) (by kernel_rfl) (by kernel_rfl) fun KR31 kr31 => ?_
      refine wpS.ps [(0, 36, .pointer (some ⟨b3, 0, none⟩)), (1, 37, .pointer (some ⟨b3, 0, none⟩)), (2, 38, .pointer (some ⟨b3, 0, none⟩)), (3, 39, .pointer (some ⟨b3, 1, none⟩))] (by kernel_rfl) ?_
      cases z11_1 with
      | true =>
       have h := of_if_t h
       refine wpS.take 4 true (some 40) (.bool true) (by kernel_rfl) (yld_load1 (e := 4) (o := 1) hs 4 rfl (by kernel_rfl) (by kernel_rfl) (by rfl) .grow) ?_
       refine wpS.ps [(5, 41, .bool true), (6, 42, undef), (7, 43, undef), (8, 44, .bool true), (9, 45, .pointer (some ⟨b3, 0, none⟩)), (10, 46, .pointer (some ⟨b3, 1, none⟩))] (by kernel_rfl) ?_
       refine wpS.only 11 (op_store1 (t := 4) (o := 1) (v := .bool true) (d := none) (by kernel_rfl) hs 4 rfl (by kernel_rfl) rfl (by kernel_rfl) (by simp) ?_)
       intro w kp hs
       refine ⟨fun _ => trivial, ?_⟩
       refine wpS.fin rfl (kr31 _ _ ?_)
       have q0 := of_some h
       subst q0
       exact nj _ _ ⟨(hs.conv rfl), exg (by kernel_rfl)⟩
      | false =>
       have h := of_if_f h
       refine wpS.take 4 true (some 40) (.bool false) (by kernel_rfl) (yld_load1 (e := 4) (o := 1) hs 4 rfl (by kernel_rfl) (by kernel_rfl) (by rfl) .grow) ?_
       refine wpS.ps [(5, 41, .bool false), (6, 42, .slice r15_A r15_n r15_c)] (by kernel_rfl) ?_
       refine wpS.take 7 false (some 43) (.bool ((r15).isEmpty)) (by kernel_rfl) (yld_nilS (t := 24) (e := 5) (C := (CI .u8)) (.tmp 42) (.const (.slice none 0 0)) (hs.rowL 0 rfl) hne29 (by kernel_rfl) (by kernel_rfl) (by kernel_rfl)) ?_
       refine wpS.ps [(8, 44, .bool ((r15).isEmpty)), (9, 45, .pointer (some ⟨b3, 0, none⟩)), (10, 46, .pointer (some ⟨b3, 1, none⟩))] (by kernel_rfl) ?_
       obtain ⟨x17, hx, h⟩ := of_bind h
       refine wpS.only 11 (op_store1 (t := 4) (o := 1) (v := .bool x17) (d := none) (by kernel_rfl) hs 4 rfl (by cases hx; kernel_rfl) rfl (by kernel_rfl) (by simp) ?_)
       intro w kp hs
       refine ⟨fun _ => trivial, ?_⟩
       refine wpS.fin rfl (kr31 _ _ ?_)
       have q0 := of_some h
       subst q0
       exact nj _ _ ⟨(hs.conv rfl), exg (by kernel_rfl)⟩
     ·clear hj hs
      rintro a w ⟨hs, g, rfl⟩
      refine then_n (ks30 _ _ ?_)
      refine wp_regS (l := [0, 1, 2, 3, 4, 5, 6, 7, 8, 9]) (by kernel_rfl) (by kernel_rfl) fun KR32 kr32 => ?_
      refine wpS.ps [(0, 47, .pointer (some ⟨b3, 0, none⟩)), (1, 48, .pointer (some ⟨b3, 0, none⟩)), (2, 49, .pointer (some ⟨b3, 0, none⟩)), (3, 50, .pointer (some ⟨b3, 0, none⟩))] (by kernel_rfl) ?_
      refine wpS.take 4 true (some 51) (.slice z10_A z10_n z10_c) (by kernel_rfl) (yld_load1 (e := 24) (o := 0) hs 4 rfl (by kernel_rfl) (by kernel_rfl) (by rfl) .grow) ?_
      refine wpS.p 5 52 (.slice r15_A r15_n r15_c) (by kernel_rfl) ?_
      obtain ⟨h0, h⟩ := of_chk h
      refine wpS.only 6 (op_appendT (C := (CI .u8)) (t := 24) (ty := 24) (e := 5) (bytes := 1) (B := 140737488355328) (d := (some 53)) (by kernel_rfl) hs 3 rfl (hs.rowL 0 rfl) (by kernel_rfl) (by kernel_rfl) (by kernel_rfl) (by kernel_rfl) (by kernel_rfl) h0 (by decide) (by decide) ?_)
      intro s18_A s18_n s18_c w hs
      refine ⟨fun _ => trivial, ?_⟩
      refine wpS.ps [(7, 54, .pointer (some ⟨b3, 0, none⟩)), (8, 55, .pointer (some ⟨b3, 0, none⟩))] (by kernel_rfl) ?_
      refine wpS.only 9 (op_store1 (t := 24) (o := 0) (v := .slice s18_A s18_n s18_c) (d := none) (by kernel_rfl) hs 4 rfl (by kernel_rfl) rfl (by kernel_rfl) (by simp) ?_)
      intro w kp hs
      refine ⟨fun _ => trivial, ?_⟩
      refine wpS.fin rfl (kr32 _ _ ?_)
      refine inBlock_n ?_
      refine then_n (ks23 _ _ ?_)
      refine wp_regS (l := [0, 1]) (by kernel_rfl) (by kernel_rfl) fun KR33 kr33 => ?_
      refine wpS.ps [(0, 56, .int .i64 (iadd .i64 z9 1)), (1, 26, .int .i64 (iadd .i64 z9 1))] (by kernel_rfl) ?_
      refine wpS.fin rfl (kr33 _ _ ?_)
      exact then_n (kl0 _ _ ⟨n, Nat.lt_succ_self n, (iadd .i64 z9 1), (z10 ++ r15), y16_1, s18_A, s18_n, s18_c, h, (hs.drop (.cons _ (.cons _ (.cons_cons _ (.cons_cons _ (.cons_cons _ (.cons_cons _ (.cons_cons _ .slnil)))))))), exg (by kernel_rfl)⟩)
    ·refine wpS.take 0 false (some 27) (.bool false) (by kernel_rfl) (yld_b (df hc) (fun _ => by kernel_rfl)) ?_
     refine wpS.fin rfl (kr21 _ _ ?_)
     refine then_n (ks20 _ _ ?_)
     refine xseq_k fun KS34 ks34 => ?_
     refine wp_cond_f (by kernel_rfl) ?_
     refine xexit ?_
     refine then_x ?_
     refine then_x ?_
     refine inBlock_hit ?_
     obtain ⟨q0, qr0⟩ := Prod.mk.inj (of_some h)
     have q1 := qr0
     subst q0
     subst q1
     exact exq_n (nn0 _ _ ⟨z10_A, z10_n, z10_c, (hs.conv rfl), exg (by kernel_rfl)⟩)
  ·clear hs h hy
   rintro a w ⟨y12_A, y12_n, y12_c, hs, g, rfl⟩
   have h := hk0
   refine qn13 _ _ (post_nrm (by kernel_rfl) (run_results [] [] (by kernel_rfl) .nil) ?_)
   refine kI13 _ _ ?_
   refine ⟨fun _ => trivial, ?_⟩
   refine wpS.fin rfl (kr12 _ _ ?_)
   refine then_n (ks11 _ _ ?_)
   refine xseq_k fun KS35 ks35 => ?_
   refine wp_regS (l := [0, 1, 2, 3]) (by kernel_rfl) (by kernel_rfl) fun KR36 kr36 => ?_
   refine wpS.p 0 19 (.pointer (some ⟨b3, 0, none⟩)) (by kernel_rfl) ?_
   refine wpS.take 1 true (some 20) (.agg #[.int .i64 a0_0, .int .i64 a0_1, .int .i32 a0_2, .int .i64 a0_3, .int .i32 a0_4, .int .i32 a0_5, .int .i64 a0_6, .int .i64 a0_7]) (by kernel_rfl) (yld_loadW (e := 23) (n := 8) hs 4 rfl (by kernel_rfl) (by kernel_rfl) (by kernel_rfl) (by simp [enc_len]) .grow) ?_
   obtain ⟨y19, hj, h⟩ := of_bind h
   refine wpS.only 2 (op_inlineJ (d := (some 21)) (f := 40) (args := #[.pointer (some ⟨b3, 0, none⟩), .agg #[.int .i64 a0_0, .int .i64 a0_1, .int .i32 a0_2, .int .i64 a0_3, .int .i32 a0_4, .int .i32 a0_5, .int .i64 a0_6, .int .i64 a0_7]]) (by kernel_rfl) (fun _ => by kernel_rfl) (N := fun v w => ∃ (y19_A : Option Addr) (y19_n : Nat) (y19_c : Nat), v = .slice y19_A y19_n y19_c ∧ St w0 [] [.ownL (CI .u8) y19_A y19_n y19_c y19 5, .blk b6 ([.int .i32 (-1), .int .i32 1023]) 73, .blk b3 ([.slice y12_A y12_n y12_c, .bool y13_1]) 69, .blk b2 ([.slice a1_0_A a1_0_n a1_0_c, .slice a1_1_A a1_1_n a1_1_c]) 27, .blk b1 ([.int .i64 a0_0, .int .i64 a0_1, .int .i32 a0_2, .int .i64 a0_3, .int .i32 a0_4, .int .i32 a0_5, .int .i64 a0_6, .int .i64 a0_7]) 23] [.rowL (CI .u8) a1_0_A a1_0_n a1_0_c a1_0, .rowL (CA .i32 256 (by decide)) a1_1_A a1_1_n a1_1_c a1_1] w) (fun R37 kI37 => ?_) ?_)
   ·clear h
    have h := hj
    refine calls_k Try.func40 rfl fun Q37 qq37 => ?_
    refine wp_conv (a' := ⟨#[.pointer (some ⟨b3, 0, none⟩), .agg #[.int .i64 a0_0, .int .i64 a0_1, .int .i32 a0_2, .int .i64 a0_3, .int .i32 a0_4, .int .i32 a0_5, .int .i64 a0_6, .int .i64 a0_7], undef, undef, undef, undef, undef, undef, undef, undef, undef, undef, undef, undef, undef, undef, undef, undef], []⟩) (by kernel_rfl) ?_
    refine xseq_k fun KS38 ks38 => ?_
    refine wp_regS (l := [0, 1]) (by kernel_rfl) (by kernel_rfl) fun KR39 kr39 => ?_
    refine wpS.only 0 (op_box (t := 23) (v := .agg #[.int .i64 a0_0, .int .i64 a0_1, .int .i32 a0_2, .int .i64 a0_3, .int .i32 a0_4, .int .i32 a0_5, .int .i64 a0_6, .int .i64 a0_7]) (d := (some 3)) (by kernel_rfl) hs ([.int .i64 a0_0, .int .i64 a0_1, .int .i32 a0_2, .int .i64 a0_3, .int .i32 a0_4, .int .i32 a0_5, .int .i64 a0_6, .int .i64 a0_7]) (by kernel_rfl) (by kernel_rfl) ?_)
    intro b20 w gw hs
    refine ⟨fun _ => trivial, ?_⟩
    refine wpS.p 1 4 (.slice none 0 0) (by kernel_rfl) ?_
    refine wpS.fin rfl (kr39 _ _ ?_)
    refine then_n (ks38 _ _ ?_)
    refine xseq_k fun KS40 ks40 => ?_
    refine xseq_k fun KS41 ks41 => ?_
    refine wp_regS (l := [0, 1, 2, 3, 4, 5, 6, 7, 8]) (by kernel_rfl) (by kernel_rfl) fun KR42 kr42 => ?_
    refine wpS.ps [(0, 5, .pointer (some ⟨b3, 0, none⟩)), (1, 6, .pointer (some ⟨b3, 0, none⟩)), (2, 7, .pointer (some ⟨b3, 1, none⟩))] (by kernel_rfl) ?_
    cases y13_1 with
    | true =>
     have h := of_if_t h
     refine wpS.take 3 true (some 8) (.bool true) (by kernel_rfl) (yld_load1 (e := 4) (o := 1) hs 3 rfl (by kernel_rfl) (by kernel_rfl) (by rfl) .grow) ?_
     refine wpS.ps [(4, 9, .bool true), (5, 10, undef), (6, 11, undef), (7, 12, undef), (8, 13, .bool true)] (by kernel_rfl) ?_
     refine wpS.fin rfl (kr42 _ _ ?_)
     refine then_n (ks41 _ _ ?_)
     refine wp_cond_t (by kernel_rfl) ?_
     refine xseq_k fun KS43 ks43 => ?_
     refine wp_regS (l := [0]) (by kernel_rfl) (by kernel_rfl) fun KR44 kr44 => ?_
     refine wpS.p 0 4 (.slice none 0 0) (by kernel_rfl) ?_
     refine wpS.fin rfl (kr44 _ _ ?_)
     refine then_n (ks43 _ _ ?_)
     refine xret ?_
     refine then_r ?_
     have q0 := of_some h
     subst q0
     have hs := hs.addNilL (CI .u8) 5
     exact qq37 _ _ (post_ret (by kernel_rfl) (run_results [.tmp 4] [.slice none 0 0] (by kernel_rfl) (.cons (res_tmp (by kernel_rfl)) .nil)) (kI37 _ _ ⟨none, 0, 0, rfl, (hs.drop (.cons_cons _ (.cons _ (.cons_cons _ (.cons _ (.cons_cons _ (.cons_cons _ (.cons_cons _ .slnil))))))))⟩))
    | false =>
     have h := of_if_f h
     refine wpS.take 3 true (some 8) (.bool false) (by kernel_rfl) (yld_load1 (e := 4) (o := 1) hs 3 rfl (by kernel_rfl) (by kernel_rfl) (by rfl) .grow) ?_
     refine wpS.p 4 9 (.bool false) (by kernel_rfl) ?_
     refine wpS.take 5 true (some 10) (.agg #[.int .i64 a0_0, .int .i64 a0_1, .int .i32 a0_2, .int .i64 a0_3, .int .i32 a0_4, .int .i32 a0_5, .int .i64 a0_6, .int .i64 a0_7]) (by kernel_rfl) (yld_loadW (e := 23) (n := 8) hs 0 rfl (by kernel_rfl) (by kernel_rfl) (by kernel_rfl) (by simp [enc_len]) .grow) ?_
     obtain ⟨r21, hg, h⟩ := of_bind h
     cases r21 with
     | true =>
      have h := of_if_t h
      refine wpS.only 6 (op_call (d := (some 11)) (by kernel_rfl) hs (fun _ => by kernel_rfl) (dpack_known.ok hg _) ?_)
      intro w gw hs
      refine ⟨fun _ => trivial, ?_⟩
      refine wpS.ps [(7, 12, .bool false), (8, 13, .bool false)] (by kernel_rfl) ?_
      refine wpS.fin rfl (kr42 _ _ ?_)
      refine then_n (ks41 _ _ ?_)
      refine wp_cond_f (by kernel_rfl) ?_
      refine xskip ?_
      refine then_n (ks40 _ _ ?_)
      refine xseq_k fun KS45 ks45 => ?_
      refine wp_regS (l := [0, 1, 2, 3, 4]) (by kernel_rfl) (by kernel_rfl) fun KR46 kr46 => ?_
      refine wpS.ps [(0, 14, .pointer (some ⟨b3, 0, none⟩)), (1, 15, .pointer (some ⟨b3, 0, none⟩)), (2, 16, .pointer (some ⟨b3, 0, none⟩))] (by kernel_rfl) ?_
      refine wpS.take 3 true (some 17) (.slice y12_A y12_n y12_c) (by kernel_rfl) (yld_load1 (e := 24) (o := 0) hs 3 rfl (by kernel_rfl) (by kernel_rfl) (by rfl) .grow) ?_
      refine wpS.p 4 4 (.slice y12_A y12_n y12_c) (by kernel_rfl) ?_
      refine wpS.fin rfl (kr46 _ _ ?_)
      refine then_n (ks45 _ _ ?_)
      refine xret ?_
      have q0 := of_some h
      subst q0
      have hs := (hs.front 5 rfl).conv (L' := [.blk b1 ([.int .i64 a0_0, .int .i64 a0_1, .int .i32 a0_2, .int .i64 a0_3, .int .i32 a0_4, .int .i32 a0_5, .int .i64 a0_6, .int .i64 a0_7]) 23, .blk b20 ([.int .i64 a0_0, .int .i64 a0_1, .int .i32 a0_2, .int .i64 a0_3, .int .i32 a0_4, .int .i32 a0_5, .int .i64 a0_6, .int .i64 a0_7]) 23, .blk b6 ([.int .i32 (-1), .int .i32 1023]) 73, .ownL (CI .u8) y12_A y12_n y12_c y12 5, .blk b3 ([.slice y12_A y12_n y12_c, .bool false]) 69, .blk b2 ([.slice a1_0_A a1_0_n a1_0_c, .slice a1_1_A a1_1_n a1_1_c]) 27]) rfl
      have hs := (hs.front 5 rfl).conv (L' := [.blk b2 ([.slice a1_0_A a1_0_n a1_0_c, .slice a1_1_A a1_1_n a1_1_c]) 27, .blk b1 ([.int .i64 a0_0, .int .i64 a0_1, .int .i32 a0_2, .int .i64 a0_3, .int .i32 a0_4, .int .i32 a0_5, .int .i64 a0_6, .int .i64 a0_7]) 23, .blk b20 ([.int .i64 a0_0, .int .i64 a0_1, .int .i32 a0_2, .int .i64 a0_3, .int .i32 a0_4, .int .i32 a0_5, .int .i64 a0_6, .int .i64 a0_7]) 23, .blk b6 ([.int .i32 (-1), .int .i32 1023]) 73, .ownL (CI .u8) y12_A y12_n y12_c y12 5, .blk b3 ([.slice y12_A y12_n y12_c, .bool false]) 69]) rfl
      have hs := (hs.front 5 rfl).conv (L' := [.blk b3 ([.slice y12_A y12_n y12_c, .bool false]) 69, .blk b2 ([.slice a1_0_A a1_0_n a1_0_c, .slice a1_1_A a1_1_n a1_1_c]) 27, .blk b1 ([.int .i64 a0_0, .int .i64 a0_1, .int .i32 a0_2, .int .i64 a0_3, .int .i32 a0_4, .int .i32 a0_5, .int .i64 a0_6, .int .i64 a0_7]) 23, .blk b20 ([.int .i64 a0_0, .int .i64 a0_1, .int .i32 a0_2, .int .i64 a0_3, .int .i32 a0_4, .int .i32 a0_5, .int .i64 a0_6, .int .i64 a0_7]) 23, .blk b6 ([.int .i32 (-1), .int .i32 1023]) 73, .ownL (CI .u8) y12_A y12_n y12_c y12 5]) rfl
      have hs := (hs.front 4 rfl).conv (L' := [.blk b6 ([.int .i32 (-1), .int .i32 1023]) 73, .blk b3 ([.slice y12_A y12_n y12_c, .bool false]) 69, .blk b2 ([.slice a1_0_A a1_0_n a1_0_c, .slice a1_1_A a1_1_n a1_1_c]) 27, .blk b1 ([.int .i64 a0_0, .int .i64 a0_1, .int .i32 a0_2, .int .i64 a0_3, .int .i32 a0_4, .int .i32 a0_5, .int .i64 a0_6, .int .i64 a0_7]) 23, .blk b20 ([.int .i64 a0_0, .int .i64 a0_1, .int .i32 a0_2, .int .i64 a0_3, .int .i32 a0_4, .int .i32 a0_5, .int .i64 a0_6, .int .i64 a0_7]) 23, .ownL (CI .u8) y12_A y12_n y12_c y12 5]) rfl
      have hs := (hs.front 5 rfl).conv (L' := [.ownL (CI .u8) y12_A y12_n y12_c y12 5, .blk b6 ([.int .i32 (-1), .int .i32 1023]) 73, .blk b3 ([.slice y12_A y12_n y12_c, .bool false]) 69, .blk b2 ([.slice a1_0_A a1_0_n a1_0_c, .slice a1_1_A a1_1_n a1_1_c]) 27, .blk b1 ([.int .i64 a0_0, .int .i64 a0_1, .int .i32 a0_2, .int .i64 a0_3, .int .i32 a0_4, .int .i32 a0_5, .int .i64 a0_6, .int .i64 a0_7]) 23, .blk b20 ([.int .i64 a0_0, .int .i64 a0_1, .int .i32 a0_2, .int .i64 a0_3, .int .i32 a0_4, .int .i32 a0_5, .int .i64 a0_6, .int .i64 a0_7]) 23]) rfl
      exact qq37 _ _ (post_ret (by kernel_rfl) (run_results [.tmp 4] [.slice y12_A y12_n y12_c] (by kernel_rfl) (.cons (res_tmp (by kernel_rfl)) .nil)) (kI37 _ _ ⟨y12_A, y12_n, y12_c, rfl, (hs.drop (.cons_cons _ (.cons_cons _ (.cons_cons _ (.cons_cons _ (.cons_cons _ (.cons _ .slnil)))))))⟩))
     | false =>
      have h := of_if_f h
      refine wpS.only 6 (op_call (d := (some 11)) (by kernel_rfl) hs (fun _ => by kernel_rfl) (dpack_known.ok hg _) ?_)
      intro w gw hs
      refine ⟨fun _ => trivial, ?_⟩
      refine wpS.ps [(7, 12, .bool true), (8, 13, .bool true)] (by kernel_rfl) ?_
      refine wpS.fin rfl (kr42 _ _ ?_)
      refine then_n (ks41 _ _ ?_)
      refine wp_cond_t (by kernel_rfl) ?_
      refine xseq_k fun KS47 ks47 => ?_
      refine wp_regS (l := [0]) (by kernel_rfl) (by kernel_rfl) fun KR48 kr48 => ?_
      refine wpS.p 0 4 (.slice none 0 0) (by kernel_rfl) ?_
      refine wpS.fin rfl (kr48 _ _ ?_)
      refine then_n (ks47 _ _ ?_)
      refine xret ?_
      refine then_r ?_
      have q0 := of_some h
      subst q0
      have hs := hs.addNilL (CI .u8) 5
      exact qq37 _ _ (post_ret (by kernel_rfl) (run_results [.tmp 4] [.slice none 0 0] (by kernel_rfl) (.cons (res_tmp (by kernel_rfl)) .nil)) (kI37 _ _ ⟨none, 0, 0, rfl, (hs.drop (.cons_cons _ (.cons _ (.cons_cons _ (.cons _ (.cons_cons _ (.cons_cons _ (.cons_cons _ .slnil))))))))⟩))
   ·clear hj hs
    rintro v w ⟨y19_A, y19_n, y19_c, rfl, hs⟩
    refine ⟨fun _ => trivial, ?_⟩
    refine wpS.p 3 4 (.slice y19_A y19_n y19_c) (by kernel_rfl) ?_
    refine wpS.fin rfl (kr36 _ _ ?_)
    refine then_n (ks35 _ _ ?_)
    refine xret ?_
    have q0 := of_some h
    subst q0
    exact qq _ _ (post_ret (by kernel_rfl) (run_results [.tmp 4] [.slice y19_A y19_n y19_c] (by kernel_rfl) (.cons (res_tmp (by kernel_rfl)) .nil)) ⟨⟨y19_A, y19_n, y19_c⟩, congrArg Ending.returned (by kernel_rfl), ((hs.drop (.cons_cons _ (.cons _ (.cons _ (.cons _ (.cons _ .slnil)))))).pickR pick_nil)⟩)
end Go.Proofs.Ytblploekkjeolaa
