/- Printed by this work's own program: the code of each function below comes to the answer that its plain form tells. -/
import Derived.Test.YtemdbgmldljbpaaDoorMf
import Derived.Test.YtemdbgmldljbpaaDoorProg
import Derived.Test.YtemdbgmldljbpaaDoorZFKpkeSmall
import Derived.Test.YtemdbgmldljbpaaDoorZX9
set_option linter.unusedVariables false
set_option linter.unusedSimpArgs false
set_option maxRecDepth 100000
set_option maxHeartbeats 4000000
namespace Go.Proofs.YtemdbgmldljbpaaDoor
open Go.Mx
attribute [local irreducible] wpOp

theorem ref25_Fit.ok {K : Nat} {a0 : Arr 256} {r0 : Bool} (h : ref25_Fit.f K a0 = some r0) (w0 : World) : Ret Tryd.prog 26 #[.agg (enc .i32 a0).toArray] w0 (.bool r0) := by
 refine calls_k Tryd.func26 rfl fun Q qq => ?_
 have hs := St.start w0
 refine wp_conv (a' := ⟨#[.agg (enc .i32 a0).toArray, undef, undef, undef, undef], []⟩) (by kernel_rfl) ?_
 refine xseq_k fun KS1 ks1 => ?_
 refine xregS [0, 1] fun KR2 kr2 => ?_
 refine wpS.only 0 (op_box (t := 32) (v := .agg (enc .i32 a0).toArray) (d := (some 1)) (by kernel_rfl) hs (enc .i32 a0) (by kernel_rfl) (by kernel_rfl) ?_)
 intro b1 w gw hs
 refine ⟨fun _ => trivial, ?_⟩
 refine wpS.q 1 2 (.bool false) ?_
 refine wpS.fin rfl (kr2 _ _ (then_n (ks1 _ _ (xseq_k fun KS3 ks3 => (xregS [0, 1, 2] fun KR4 kr4 => ?_)))))
 refine wpS.tk 0 true (some 3) (.agg (enc .i32 a0).toArray) (yld_loadW (e := 32) (n := 256) hs 0 rfl (by kernel_rfl) (by kernel_rfl) (by kernel_rfl) (by exact enc_len _ _) .grow) ?_
 obtain ⟨r2, hg, h⟩ := of_bind h
 refine wpS.only 1 (op_call (d := (some 4)) (by kernel_rfl) hs (fun _ => by kernel_rfl) (ref25_Below.ok hg _) ?_)
 intro w gw hs
 refine ⟨fun _ => trivial, ?_⟩
 refine wpS.q 2 2 (.bool r2) ?_
 refine wpS.fin rfl (kr4 _ _ (then_n (ks3 _ _ (xret ?_))))
 have q0 := of_some h
 subst q0
 exact qq _ _ (post_ret (by kernel_rfl) (run_results [.tmp 2] [.bool r2] (by kernel_rfl) (.cons (res_tmp (by kernel_rfl)) .nil)) ⟨congrArg Ending.returned (by kernel_rfl), hs.none⟩)
end Go.Proofs.YtemdbgmldljbpaaDoor
