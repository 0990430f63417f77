/- Printed by this work's own program: the code of each function below comes to the answer that its plain form tells. -/
import Derived.Test.YtblploekkjeolaaMv
import Derived.Test.YtblploekkjeolaaProg
import Derived.Test.YtblploekkjeolaaDFDpackReads
set_option linter.unusedVariables false
set_option linter.unusedSimpArgs false
set_option maxRecDepth 100000
set_option maxHeartbeats 4000000
namespace Go.Proofs.Ytblploekkjeolaa
open Go.Mx
attribute [local irreducible] wpOp

theorem slices_Clone_byte_byte.ok {K : Nat} {a0 : List Int} {r0 : List Int} {a0_A : Option Addr} {a0_n : Nat} {a0_c : Nat} (h : slices_Clone_byte_byte.f K a0 = some r0) (w0 : World) (hp0 : RowL (CI .u8) w0 a0_A a0_n a0_c a0) : Calls Try.prog 70 #[.slice a0_A a0_n a0_c] w0 fun e w' => ∃ h : (Option Addr × Nat × Nat), e = .returned (.slice h.1 h.2.1 h.2.2) ∧ St w0 [] [.ownL (CI .u8) h.1 h.2.1 h.2.2 r0 5] [] w' := by
 refine calls_k Try.func70 rfl fun Q qq => ?_
 have hs := St.startR (all_cons (RowP.ent hp0) all_nil)
 refine wp_conv (a' := ⟨#[.slice a0_A a0_n a0_c, undef, undef, undef, undef, undef, undef, undef], []⟩) (by kernel_rfl) ?_
 refine xseq_k fun KS1 ks1 => ?_
 refine wp_regS (l := [0]) (by kernel_rfl) (by kernel_rfl) fun KR2 kr2 => ?_
 refine wpS.p 0 2 (.slice none 0 0) (by kernel_rfl) ?_
 refine wpS.fin rfl (kr2 _ _ ?_)
 refine then_n (ks1 _ _ ?_)
 refine xseq_k fun KS3 ks3 => ?_
 refine xseq_k fun KS4 ks4 => ?_
 refine wp_regS (l := [0, 1]) (by kernel_rfl) (by kernel_rfl) fun KR5 kr5 => ?_
 refine wpS.p 0 3 (.slice a0_A a0_n a0_c) (by kernel_rfl) ?_
 cases hn : (a0_A : Option Addr).isNone with
 | true =>
  have hl := nil_list (hs.rowR 0 rfl) hn
  have h := of_isE_t hl h
  refine wpS.take 1 false (some 4) (.bool true) (by kernel_rfl) (yld_nilB (t := 24) (e := 5) (C := (CI .u8)) (.tmp 3) (.const (.slice none 0 0)) (hs.rowR 0 rfl) hn (by kernel_rfl) (by kernel_rfl) (by kernel_rfl)) ?_
  refine wpS.fin rfl (kr5 _ _ ?_)
  refine then_n (ks4 _ _ ?_)
  refine wp_cond_t (by kernel_rfl) ?_
  refine xseq_k fun KS6 ks6 => ?_
  refine wp_regS (l := [0]) (by kernel_rfl) (by kernel_rfl) fun KR7 kr7 => ?_
  refine wpS.p 0 2 (.slice none 0 0) (by kernel_rfl) ?_
  refine wpS.fin rfl (kr7 _ _ ?_)
  refine then_n (ks6 _ _ ?_)
  refine xret ?_
  refine then_r ?_
  have q0 := of_some h
  subst q0
  have hs := hs.addNilL (CI .u8) 5
  exact qq _ _ (post_ret (by kernel_rfl) (run_results [.tmp 2] [.slice none 0 0] (by kernel_rfl) (.cons (res_tmp (by kernel_rfl)) .nil)) ⟨⟨none, 0, 0⟩, congrArg Ending.returned (by kernel_rfl), (hs.pickR pick_nil)⟩)
 | false =>
  have h := of_isE_f (fun hl => by simp [hl]) h
  refine wpS.take 1 false (some 4) (.bool false) (by kernel_rfl) (yld_nilB (t := 24) (e := 5) (C := (CI .u8)) (.tmp 3) (.const (.slice none 0 0)) (hs.rowR 0 rfl) hn (by kernel_rfl) (by kernel_rfl) (by kernel_rfl)) ?_
  refine wpS.fin rfl (kr5 _ _ ?_)
  refine then_n (ks4 _ _ ?_)
  refine wp_cond_f (by kernel_rfl) ?_
  refine xskip ?_
  refine then_n (ks3 _ _ ?_)
  refine xseq_k fun KS8 ks8 => ?_
  refine wp_regS (l := [0, 1, 2, 3]) (by kernel_rfl) (by kernel_rfl) fun KR9 kr9 => ?_
  refine wpS.only 0 (op_lit0 (C := (CI .u8)) (t := 24) (e := 5) (parts := #[]) (d := (some 5)) (by kernel_rfl) hs rfl (by kernel_rfl) (by kernel_rfl) (by kernel_rfl) ?_)
  intro s1_A s1_n s1_c w gw hs
  refine ⟨fun _ => trivial, ?_⟩
  refine wpS.p 1 6 (.slice a0_A a0_n a0_c) (by kernel_rfl) ?_
  obtain ⟨h0, h⟩ := of_chk h
  refine wpS.only 2 (op_appendT (C := (CI .u8)) (t := 24) (ty := 24) (e := 5) (bytes := 1) (B := 140737488355328) (d := (some 7)) (by kernel_rfl) hs 0 rfl (hs.rowR 0 rfl) (by kernel_rfl) (by kernel_rfl) (by kernel_rfl) (by kernel_rfl) (by kernel_rfl) h0 (by decide) (by decide) ?_)
  intro s2_A s2_n s2_c w hs
  refine ⟨fun _ => trivial, ?_⟩
  refine wpS.p 3 2 (.slice s2_A s2_n s2_c) (by kernel_rfl) ?_
  refine wpS.fin rfl (kr9 _ _ ?_)
  refine then_n (ks8 _ _ ?_)
  refine xret ?_
  have q0 := of_some h
  subst q0
  exact qq _ _ (post_ret (by kernel_rfl) (run_results [.tmp 2] [.slice s2_A s2_n s2_c] (by kernel_rfl) (.cons (res_tmp (by kernel_rfl)) .nil)) ⟨⟨s2_A, s2_n, s2_c⟩, congrArg Ending.returned (by kernel_rfl), (hs.pickR pick_nil)⟩)
end Go.Proofs.Ytblploekkjeolaa
