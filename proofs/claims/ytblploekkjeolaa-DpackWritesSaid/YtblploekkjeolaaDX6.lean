/- Printed by this work's own program: the code of each function below comes to the answer that its plain form tells. -/
import Derived.Test.YtblploekkjeolaaMj
import Derived.Test.YtblploekkjeolaaProg
import Derived.Test.YtblploekkjeolaaDF0
import Derived.Test.YtblploekkjeolaaDX0
import Derived.Test.YtblploekkjeolaaDX5
set_option linter.unusedVariables false
set_option linter.unusedSimpArgs false
set_option maxRecDepth 100000
set_option maxHeartbeats 4000000
namespace Go.Proofs.Ytblploekkjeolaa
open Go.Mx
attribute [local irreducible] wpOp

theorem ref22_Unhints.ok {K : Nat} {a0 : List Int} {a1 : Int} {a2 : Int} {r0 : List (Arr 256)} {r1 : Bool} {a0_A : Option Addr} {a0_n : Nat} {a0_c : Nat} (h : ref22_Unhints.f K a0 a1 a2 = some (r0, r1)) (w0 : World) (hp0 : RowL (CI .u8) w0 a0_A a0_n a0_c a0) : Calls Try.prog 23 #[.slice a0_A a0_n a0_c, .int .i64 a1, .int .i64 a2] w0 fun e w' => ∃ h : (Option Addr × Nat × Nat), e = .returned (.tuple #[.slice h.1 h.2.1 h.2.2, .bool r1]) ∧ St w0 [] [.ownL (CA .i32 256 (by decide)) h.1 h.2.1 h.2.2 r0 40] [] w' := by
  refine calls_k Try.func23 rfl fun Q qq => ?_
  have hs := St.startR (all_cons (RowP.ent hp0) all_nil)
  refine wp_conv (a' := ⟨#[.slice a0_A a0_n a0_c, .int .i64 a1, .int .i64 a2, undef, undef, undef, undef, undef, undef, undef, undef, undef, undef, undef, undef, undef, undef, undef, undef, undef, undef, undef, undef, undef, undef, undef, undef, undef, undef, undef, undef, undef, undef, undef, undef, undef, undef, undef, undef, undef, undef, undef, undef, undef, undef, undef, undef, undef, undef, undef, undef, undef, undef, undef, undef, undef, undef, undef, undef, undef, undef, undef, undef, undef, undef, undef, undef, undef, undef, undef, undef], []⟩) (by kernel_rfl) ?_
  refine xseq_k fun KS1 ks1 => ?_
  refine wp_regS (l := [0, 1]) (by kernel_rfl) (by kernel_rfl) fun KR2 kr2 => ?_
  refine wpS.take 0 false (some 6) (.slice none 0 0) (by kernel_rfl) (yld fun _ => by kernel_rfl) ?_
  refine wpS.take 1 false (some 7) (.bool false) (by kernel_rfl) (yld fun _ => by kernel_rfl) ?_
  refine wpS.fin rfl (kr2 _ _ ?_)
  refine then_n (ks1 _ _ ?_)
  refine xseq_k fun KS15 ks15 => ?_
  refine xseq_k fun KS16 ks16 => ?_
  refine wp_regS (l := [0, 1, 2, 3, 4, 5, 6, 7, 8, 9, 10, 11, 12, 13, 14, 15, 16, 17, 18, 19, 20, 21]) (by kernel_rfl) (by kernel_rfl) fun KR17 kr17 => ?_
  refine wpS.take 0 false (some 11) (.int .i64 a1) (by kernel_rfl) (yld fun _ => by kernel_rfl) ?_
  rcases of_if h with ⟨hc, h⟩ | ⟨hc, h⟩
  · refine wpS.take 1 false (some 12) (.bool true) (by kernel_rfl) (yld_b (dt hc) (fun _ => by kernel_rfl)) ?_
    refine wpS.take 2 false (some 13) (.bool true) (by kernel_rfl) (yld fun _ => by kernel_rfl) ?_
    refine wpS.take 3 false (some 14) (undef) (by kernel_rfl) (yld fun _ => by kernel_rfl) ?_
    refine wpS.take 4 false (some 15) (undef) (by kernel_rfl) (yld fun _ => by kernel_rfl) ?_
    refine wpS.take 5 false (some 16) (.bool true) (by kernel_rfl) (yld fun _ => by kernel_rfl) ?_
    refine wpS.take 6 false (some 17) (.bool true) (by kernel_rfl) (yld fun _ => by kernel_rfl) ?_
    refine wpS.take 7 false (some 18) (undef) (by kernel_rfl) (yld fun _ => by kernel_rfl) ?_
    refine wpS.take 8 false (some 19) (undef) (by kernel_rfl) (yld fun _ => by kernel_rfl) ?_
    refine wpS.take 9 false (some 20) (.bool true) (by kernel_rfl) (yld fun _ => by kernel_rfl) ?_
    refine wpS.take 10 false (some 21) (.bool true) (by kernel_rfl) (yld fun _ => by kernel_rfl) ?_
    refine wpS.take 11 false (some 22) (undef) (by kernel_rfl) (yld fun _ => by kernel_rfl) ?_
    refine wpS.take 12 false (some 23) (undef) (by kernel_rfl) (yld fun _ => by kernel_rfl) ?_
    refine wpS.take 13 false (some 24) (.bool true) (by kernel_rfl) (yld fun _ => by kernel_rfl) ?_
    refine wpS.take 14 false (some 25) (.bool true) (by kernel_rfl) (yld fun _ => by kernel_rfl) ?_
    refine wpS.take 15 false (some 26) (undef) (by kernel_rfl) (yld fun _ => by kernel_rfl) ?_
    refine wpS.take 16 false (some 27) (undef) (by kernel_rfl) (yld fun _ => by kernel_rfl) ?_
    refine wpS.take 17 false (some 28) (undef) (by kernel_rfl) (yld fun _ => by kernel_rfl) ?_
    refine wpS.take 18 false (some 29) (undef) (by kernel_rfl) (yld fun _ => by kernel_rfl) ?_
    refine wpS.take 19 false (some 30) (undef) (by kernel_rfl) (yld fun _ => by kernel_rfl) ?_
    refine wpS.take 20 false (some 31) (undef) (by kernel_rfl) (yld fun _ => by kernel_rfl) ?_
    refine wpS.take 21 false (some 32) (.bool true) (by kernel_rfl) (yld fun _ => by kernel_rfl) ?_
    refine wpS.fin rfl (kr17 _ _ ?_)
    refine then_n (ks16 _ _ ?_)
    refine wp_cond_t (by kernel_rfl) ?_
    refine xseq_k fun KS18 ks18 => ?_
    refine wp_regS (l := [0, 1]) (by kernel_rfl) (by kernel_rfl) fun KR19 kr19 => ?_
    refine wpS.take 0 false (some 6) (.slice none 0 0) (by kernel_rfl) (yld fun _ => by kernel_rfl) ?_
    refine wpS.take 1 false (some 7) (.bool false) (by kernel_rfl) (yld fun _ => by kernel_rfl) ?_
    refine wpS.fin rfl (kr19 _ _ ?_)
    refine then_n (ks18 _ _ ?_)
    refine xret ?_
    refine then_r ?_
    obtain ⟨q0, qr0⟩ := Prod.mk.inj (of_some h)
    have q1 := qr0
    subst q0
    subst q1
    have hs := hs.addNilL (CA .i32 256 (by decide)) 40
    exact qq _ _ (post_ret (by kernel_rfl) (run_results [.tmp 6, .tmp 7] [.slice none 0 0, .bool false] (by kernel_rfl) (.cons (res_tmp (by kernel_rfl)) (.cons (res_tmp (by kernel_rfl)) .nil))) ⟨⟨none, 0, 0⟩, congrArg Ending.returned (by kernel_rfl), ((hs.conv (L' := [.ownL (CA .i32 256 (by decide)) none 0 0 ([] : List (Arr 256)) 40]) rfl).pickR pick_nil)⟩)
  · refine wpS.take 1 false (some 12) (.bool false) (by kernel_rfl) (yld_b (df hc) (fun _ => by kernel_rfl)) ?_
    refine wpS.take 2 false (some 13) (.bool false) (by kernel_rfl) (yld fun _ => by kernel_rfl) ?_
    refine wpS.take 3 false (some 14) (.int .i64 a1) (by kernel_rfl) (yld fun _ => by kernel_rfl) ?_
    rcases of_if h with ⟨hc, h⟩ | ⟨hc, h⟩
    · refine wpS.take 4 false (some 15) (.bool true) (by kernel_rfl) (yld_b (dt hc) (fun _ => by kernel_rfl)) ?_
      refine wpS.take 5 false (some 16) (.bool true) (by kernel_rfl) (yld fun _ => by kernel_rfl) ?_
      refine wpS.take 6 false (some 17) (.bool true) (by kernel_rfl) (yld fun _ => by kernel_rfl) ?_
      refine wpS.take 7 false (some 18) (undef) (by kernel_rfl) (yld fun _ => by kernel_rfl) ?_
      refine wpS.take 8 false (some 19) (undef) (by kernel_rfl) (yld fun _ => by kernel_rfl) ?_
      refine wpS.take 9 false (some 20) (.bool true) (by kernel_rfl) (yld fun _ => by kernel_rfl) ?_
      refine wpS.take 10 false (some 21) (.bool true) (by kernel_rfl) (yld fun _ => by kernel_rfl) ?_
      refine wpS.take 11 false (some 22) (undef) (by kernel_rfl) (yld fun _ => by kernel_rfl) ?_
      refine wpS.take 12 false (some 23) (undef) (by kernel_rfl) (yld fun _ => by kernel_rfl) ?_
      refine wpS.take 13 false (some 24) (.bool true) (by kernel_rfl) (yld fun _ => by kernel_rfl) ?_
      refine wpS.take 14 false (some 25) (.bool true) (by kernel_rfl) (yld fun _ => by kernel_rfl) ?_
      refine wpS.take 15 false (some 26) (undef) (by kernel_rfl) (yld fun _ => by kernel_rfl) ?_
      refine wpS.take 16 false (some 27) (undef) (by kernel_rfl) (yld fun _ => by kernel_rfl) ?_
      refine wpS.take 17 false (some 28) (undef) (by kernel_rfl) (yld fun _ => by kernel_rfl) ?_
      refine wpS.take 18 false (some 29) (undef) (by kernel_rfl) (yld fun _ => by kernel_rfl) ?_
      refine wpS.take 19 false (some 30) (undef) (by kernel_rfl) (yld fun _ => by kernel_rfl) ?_
      refine wpS.take 20 false (some 31) (undef) (by kernel_rfl) (yld fun _ => by kernel_rfl) ?_
      refine wpS.take 21 false (some 32) (.bool true) (by kernel_rfl) (yld fun _ => by kernel_rfl) ?_
      refine wpS.fin rfl (kr17 _ _ ?_)
      refine then_n (ks16 _ _ ?_)
      refine wp_cond_t (by kernel_rfl) ?_
      refine xseq_k fun KS20 ks20 => ?_
      refine wp_regS (l := [0, 1]) (by kernel_rfl) (by kernel_rfl) fun KR21 kr21 => ?_
      refine wpS.take 0 false (some 6) (.slice none 0 0) (by kernel_rfl) (yld fun _ => by kernel_rfl) ?_
      refine wpS.take 1 false (some 7) (.bool false) (by kernel_rfl) (yld fun _ => by kernel_rfl) ?_
      refine wpS.fin rfl (kr21 _ _ ?_)
      refine then_n (ks20 _ _ ?_)
      refine xret ?_
      refine then_r ?_
      obtain ⟨q0, qr0⟩ := Prod.mk.inj (of_some h)
      have q1 := qr0
      subst q0
      subst q1
      have hs := hs.addNilL (CA .i32 256 (by decide)) 40
      exact qq _ _ (post_ret (by kernel_rfl) (run_results [.tmp 6, .tmp 7] [.slice none 0 0, .bool false] (by kernel_rfl) (.cons (res_tmp (by kernel_rfl)) (.cons (res_tmp (by kernel_rfl)) .nil))) ⟨⟨none, 0, 0⟩, congrArg Ending.returned (by kernel_rfl), ((hs.conv (L' := [.ownL (CA .i32 256 (by decide)) none 0 0 ([] : List (Arr 256)) 40]) rfl).pickR pick_nil)⟩)
    · refine wpS.take 4 false (some 15) (.bool false) (by kernel_rfl) (yld_b (df hc) (fun _ => by kernel_rfl)) ?_
      refine wpS.take 5 false (some 16) (.bool false) (by kernel_rfl) (yld fun _ => by kernel_rfl) ?_
      refine wpS.take 6 false (some 17) (.bool false) (by kernel_rfl) (yld fun _ => by kernel_rfl) ?_
      refine wpS.take 7 false (some 18) (.int .i64 a2) (by kernel_rfl) (yld fun _ => by kernel_rfl) ?_
      rcases of_if h with ⟨hc, h⟩ | ⟨hc, h⟩
      · refine wpS.take 8 false (some 19) (.bool true) (by kernel_rfl) (yld_b (dt hc) (fun _ => by kernel_rfl)) ?_
        refine wpS.take 9 false (some 20) (.bool true) (by kernel_rfl) (yld fun _ => by kernel_rfl) ?_
        refine wpS.take 10 false (some 21) (.bool true) (by kernel_rfl) (yld fun _ => by kernel_rfl) ?_
        refine wpS.take 11 false (some 22) (undef) (by kernel_rfl) (yld fun _ => by kernel_rfl) ?_
        refine wpS.take 12 false (some 23) (undef) (by kernel_rfl) (yld fun _ => by kernel_rfl) ?_
        refine wpS.take 13 false (some 24) (.bool true) (by kernel_rfl) (yld fun _ => by kernel_rfl) ?_
        refine wpS.take 14 false (some 25) (.bool true) (by kernel_rfl) (yld fun _ => by kernel_rfl) ?_
        refine wpS.take 15 false (some 26) (undef) (by kernel_rfl) (yld fun _ => by kernel_rfl) ?_
        refine wpS.take 16 false (some 27) (undef) (by kernel_rfl) (yld fun _ => by kernel_rfl) ?_
        refine wpS.take 17 false (some 28) (undef) (by kernel_rfl) (yld fun _ => by kernel_rfl) ?_
        refine wpS.take 18 false (some 29) (undef) (by kernel_rfl) (yld fun _ => by kernel_rfl) ?_
        refine wpS.take 19 false (some 30) (undef) (by kernel_rfl) (yld fun _ => by kernel_rfl) ?_
        refine wpS.take 20 false (some 31) (undef) (by kernel_rfl) (yld fun _ => by kernel_rfl) ?_
        refine wpS.take 21 false (some 32) (.bool true) (by kernel_rfl) (yld fun _ => by kernel_rfl) ?_
        refine wpS.fin rfl (kr17 _ _ ?_)
        refine then_n (ks16 _ _ ?_)
        refine wp_cond_t (by kernel_rfl) ?_
        refine xseq_k fun KS22 ks22 => ?_
        refine wp_regS (l := [0, 1]) (by kernel_rfl) (by kernel_rfl) fun KR23 kr23 => ?_
        refine wpS.take 0 false (some 6) (.slice none 0 0) (by kernel_rfl) (yld fun _ => by kernel_rfl) ?_
        refine wpS.take 1 false (some 7) (.bool false) (by kernel_rfl) (yld fun _ => by kernel_rfl) ?_
        refine wpS.fin rfl (kr23 _ _ ?_)
        refine then_n (ks22 _ _ ?_)
        refine xret ?_
        refine then_r ?_
        obtain ⟨q0, qr0⟩ := Prod.mk.inj (of_some h)
        have q1 := qr0
        subst q0
        subst q1
        have hs := hs.addNilL (CA .i32 256 (by decide)) 40
        exact qq _ _ (post_ret (by kernel_rfl) (run_results [.tmp 6, .tmp 7] [.slice none 0 0, .bool false] (by kernel_rfl) (.cons (res_tmp (by kernel_rfl)) (.cons (res_tmp (by kernel_rfl)) .nil))) ⟨⟨none, 0, 0⟩, congrArg Ending.returned (by kernel_rfl), ((hs.conv (L' := [.ownL (CA .i32 256 (by decide)) none 0 0 ([] : List (Arr 256)) 40]) rfl).pickR pick_nil)⟩)
      · refine wpS.take 8 false (some 19) (.bool false) (by kernel_rfl) (yld_b (df hc) (fun _ => by kernel_rfl)) ?_
        refine wpS.take 9 false (some 20) (.bool false) (by kernel_rfl) (yld fun _ => by kernel_rfl) ?_
        refine wpS.take 10 false (some 21) (.bool false) (by kernel_rfl) (yld fun _ => by kernel_rfl) ?_
        refine wpS.take 11 false (some 22) (.int .i64 a2) (by kernel_rfl) (yld fun _ => by kernel_rfl) ?_
        rcases of_if h with ⟨hc, h⟩ | ⟨hc, h⟩
        · refine wpS.take 12 false (some 23) (.bool true) (by kernel_rfl) (yld_b (dt hc) (fun _ => by kernel_rfl)) ?_
          refine wpS.take 13 false (some 24) (.bool true) (by kernel_rfl) (yld fun _ => by kernel_rfl) ?_
          refine wpS.take 14 false (some 25) (.bool true) (by kernel_rfl) (yld fun _ => by kernel_rfl) ?_
          refine wpS.take 15 false (some 26) (undef) (by kernel_rfl) (yld fun _ => by kernel_rfl) ?_
          refine wpS.take 16 false (some 27) (undef) (by kernel_rfl) (yld fun _ => by kernel_rfl) ?_
          refine wpS.take 17 false (some 28) (undef) (by kernel_rfl) (yld fun _ => by kernel_rfl) ?_
          refine wpS.take 18 false (some 29) (undef) (by kernel_rfl) (yld fun _ => by kernel_rfl) ?_
          refine wpS.take 19 false (some 30) (undef) (by kernel_rfl) (yld fun _ => by kernel_rfl) ?_
          refine wpS.take 20 false (some 31) (undef) (by kernel_rfl) (yld fun _ => by kernel_rfl) ?_
          refine wpS.take 21 false (some 32) (.bool true) (by kernel_rfl) (yld fun _ => by kernel_rfl) ?_
          refine wpS.fin rfl (kr17 _ _ ?_)
          refine then_n (ks16 _ _ ?_)
          refine wp_cond_t (by kernel_rfl) ?_
          refine xseq_k fun KS24 ks24 => ?_
          refine wp_regS (l := [0, 1]) (by kernel_rfl) (by kernel_rfl) fun KR25 kr25 => ?_
          refine wpS.take 0 false (some 6) (.slice none 0 0) (by kernel_rfl) (yld fun _ => by kernel_rfl) ?_
          refine wpS.take 1 false (some 7) (.bool false) (by kernel_rfl) (yld fun _ => by kernel_rfl) ?_
          refine wpS.fin rfl (kr25 _ _ ?_)
          refine then_n (ks24 _ _ ?_)
          refine xret ?_
          refine then_r ?_
          obtain ⟨q0, qr0⟩ := Prod.mk.inj (of_some h)
          have q1 := qr0
          subst q0
          subst q1
          have hs := hs.addNilL (CA .i32 256 (by decide)) 40
          exact qq _ _ (post_ret (by kernel_rfl) (run_results [.tmp 6, .tmp 7] [.slice none 0 0, .bool false] (by kernel_rfl) (.cons (res_tmp (by kernel_rfl)) (.cons (res_tmp (by kernel_rfl)) .nil))) ⟨⟨none, 0, 0⟩, congrArg Ending.returned (by kernel_rfl), ((hs.conv (L' := [.ownL (CA .i32 256 (by decide)) none 0 0 ([] : List (Arr 256)) 40]) rfl).pickR pick_nil)⟩)
        · refine wpS.take 12 false (some 23) (.bool false) (by kernel_rfl) (yld_b (df hc) (fun _ => by kernel_rfl)) ?_
          refine wpS.take 13 false (some 24) (.bool false) (by kernel_rfl) (yld fun _ => by kernel_rfl) ?_
          refine wpS.take 14 false (some 25) (.bool false) (by kernel_rfl) (yld fun _ => by kernel_rfl) ?_
          refine wpS.take 15 false (some 26) (.slice a0_A a0_n a0_c) (by kernel_rfl) (yld fun _ => by kernel_rfl) ?_
          refine wpS.take 16 false (some 27) (.int .i64 (a0.length : Int)) (by kernel_rfl) (yld_lenL (hs.rowR 0 rfl) (fun _ => by kernel_rfl)) ?_
          refine wpS.take 17 false (some 28) (.int .i64 a1) (by kernel_rfl) (yld fun _ => by kernel_rfl) ?_
          refine wpS.take 18 false (some 29) (.int .i64 a2) (by kernel_rfl) (yld fun _ => by kernel_rfl) ?_
          refine wpS.take 19 false (some 30) (.int .i64 (iadd .i64 a1 a2)) (by kernel_rfl) (yld fun _ => by kernel_rfl) ?_
          rcases of_if h with ⟨hc, h⟩ | ⟨hc, h⟩
          · refine wpS.take 20 false (some 31) (.bool false) (by kernel_rfl) (yld_b (nf hc) (fun _ => by kernel_rfl)) ?_
            refine wpS.take 21 false (some 32) (.bool false) (by kernel_rfl) (yld fun _ => by kernel_rfl) ?_
            refine wpS.fin rfl (kr17 _ _ ?_)
            refine then_n (ks16 _ _ ?_)
            refine wp_cond_f (by kernel_rfl) ?_
            refine xskip ?_
            refine then_n (ks15 _ _ ?_)
            refine xseq_k fun KS26 ks26 => ?_
            refine wp_regS (l := [0, 1, 2]) (by kernel_rfl) (by kernel_rfl) fun KR27 kr27 => ?_
            refine wpS.take 0 false (some 33) (.int .i64 a1) (by kernel_rfl) (yld fun _ => by kernel_rfl) ?_
            obtain ⟨h0, h⟩ := of_chk h
            obtain ⟨h1, h⟩ := of_chk h
            refine wpS.only 1 (op_makeT (C := (CA .i32 256 (by decide))) (t := 25) (e := 40) (bytes := 1024) (B := 137438953472) (kl := .i64) (kc := .i64) (x := a1) (d := (some 34)) (by kernel_rfl) hs (by kernel_rfl) (by kernel_rfl) (by kernel_rfl) (by kernel_rfl) (by kernel_rfl) h0 h1 (by decide) (by decide) ?_)
            intro s1_A s1_n s1_c w gw hs
            refine ⟨fun _ => trivial, ?_⟩
            refine wpS.take 2 false (some 8) (.slice s1_A s1_n s1_c) (by kernel_rfl) (yld fun _ => by kernel_rfl) ?_
            refine wpS.fin rfl (kr27 _ _ ?_)
            refine then_n (ks26 _ _ ?_)
            refine xseq_k fun KS28 ks28 => ?_
            refine wp_regS (l := [0]) (by kernel_rfl) (by kernel_rfl) fun KR29 kr29 => ?_
            refine wpS.take 0 false (some 9) (.int .i64 0) (by kernel_rfl) (yld fun _ => by kernel_rfl) ?_
            refine wpS.fin rfl (kr29 _ _ ?_)
            refine then_n (ks28 _ _ ?_)
            refine xseq_k fun KS182 ks182 => ?_
            refine xseq_k fun KS183 ks183 => ?_
            refine wp_regS (l := [0]) (by kernel_rfl) (by kernel_rfl) fun KR184 kr184 => ?_
            refine wpS.take 0 false (some 10) (.int .i64 0) (by kernel_rfl) (yld fun _ => by kernel_rfl) ?_
            refine wpS.fin rfl (kr184 _ _ ?_)
            refine then_n (ks183 _ _ ?_)
            obtain ⟨y5, hy, hk0⟩ := of_bind h
            refine wp_exq (N := fun a w => St w0 [] [.ownL (CA .i32 256 (by decide)) s1_A s1_n s1_c y5 40] [.rowL (CI .u8) a0_A a0_n a0_c a0] w ∧ ∃ g : Nat → Value, a = ⟨#[.slice a0_A a0_n a0_c, .int .i64 a1, .int .i64 a2, undef, undef, undef, .slice none 0 0, .bool false, .slice s1_A s1_n s1_c, (g 9), (g 10), .int .i64 a1, .bool false, .bool false, .int .i64 a1, .bool false, .bool false, .bool false, .int .i64 a2, .bool false, .bool false, .bool false, .int .i64 a2, .bool false, .bool false, .bool false, .slice a0_A a0_n a0_c, .int .i64 (a0.length : Int), .int .i64 a1, .int .i64 a2, .int .i64 (iadd .i64 a1 a2), .bool false, .bool false, .int .i64 a1, .slice s1_A s1_n s1_c, (g 35), (g 36), (g 37), (g 38), (g 39), (g 40), (g 41), (g 42), (g 43), (g 44), (g 45), (g 46), (g 47), (g 48), (g 49), (g 50), (g 51), (g 52), (g 53), (g 54), (g 55), (g 56), (g 57), (g 58), (g 59), (g 60), (g 61), (g 62), (g 63), undef, undef, undef, undef, undef, undef, undef], []⟩) (fun N0 nn0 => ?_) ?_
            · clear hk0
              refine xblock ?_
              refine wp_loop_k (fun n a w => ∃ z2 z3 z4, ref22_Unhints.l0 K n a0 a1 a2 z2 z3 z4 = some y5 ∧ St w0 [] [.ownL (CA .i32 256 (by decide)) s1_A s1_n s1_c z4 40] [.rowL (CI .u8) a0_A a0_n a0_c a0] w ∧ ∃ g : Nat → Value, a = ⟨#[.slice a0_A a0_n a0_c, .int .i64 a1, .int .i64 a2, undef, undef, undef, .slice none 0 0, .bool false, .slice s1_A s1_n s1_c, .int .i64 z2, .int .i64 z3, .int .i64 a1, .bool false, .bool false, .int .i64 a1, .bool false, .bool false, .bool false, .int .i64 a2, .bool false, .bool false, .bool false, .int .i64 a2, .bool false, .bool false, .bool false, .slice a0_A a0_n a0_c, .int .i64 (a0.length : Int), .int .i64 a1, .int .i64 a2, .int .i64 (iadd .i64 a1 a2), .bool false, .bool false, .int .i64 a1, .slice s1_A s1_n s1_c, (g 35), (g 36), (g 37), (g 38), (g 39), (g 40), (g 41), (g 42), (g 43), (g 44), (g 45), (g 46), (g 47), (g 48), (g 49), (g 50), (g 51), (g 52), (g 53), (g 54), (g 55), (g 56), (g 57), (g 58), (g 59), (g 60), (g 61), (g 62), (g 63), undef, undef, undef, undef, undef, undef, undef], []⟩) K ⟨0, 0, (List.replicate (a1 : Int).toNat (Cod.zero (CA .i32 256 (by decide)))), hy, hs.conv rfl, exg (by kernel_rfl)⟩ ?_
              clear hs h hy
              rintro n a w ⟨z2, z3, z4, h, hs, g, rfl⟩ KL0 kl0
              cases n with
              | zero => exact nomatch (show none = some _ from h)
              | succ n =>
                refine xseq_k fun KS262 ks262 => ?_
                refine xseq_k fun KS263 ks263 => ?_
                refine wp_regS (l := [0, 1, 2]) (by kernel_rfl) (by kernel_rfl) fun KR264 kr264 => ?_
                refine wpS.take 0 false (some 35) (.int .i64 z3) (by kernel_rfl) (yld fun _ => by kernel_rfl) ?_
                refine wpS.take 1 false (some 36) (.int .i64 a1) (by kernel_rfl) (yld fun _ => by kernel_rfl) ?_
                rcases of_if h with ⟨hc, h⟩ | ⟨hc, h⟩
                · refine wpS.take 2 false (some 37) (.bool true) (by kernel_rfl) (yld_b (dt hc) (fun _ => by kernel_rfl)) ?_
                  refine wpS.fin rfl (kr264 _ _ ?_)
                  refine then_n (ks263 _ _ ?_)
                  refine wp_cond_t (by kernel_rfl) ?_
                  refine xskip ?_
                  refine then_n (ks262 _ _ ?_)
                  refine xseq_k fun KS299 ks299 => ?_
                  refine xblock ?_
                  obtain ⟨⟨y8, y9⟩, hy, hk1⟩ := of_bind h
                  refine wp_exq (N := fun a w => St w0 [] [.ownL (CA .i32 256 (by decide)) s1_A s1_n s1_c y9 40] [.rowL (CI .u8) a0_A a0_n a0_c a0] w ∧ ∃ g : Nat → Value, a = ⟨#[.slice a0_A a0_n a0_c, .int .i64 a1, .int .i64 a2, undef, undef, undef, .slice none 0 0, .bool false, .slice s1_A s1_n s1_c, .int .i64 y8, .int .i64 z3, .int .i64 a1, .bool false, .bool false, .int .i64 a1, .bool false, .bool false, .bool false, .int .i64 a2, .bool false, .bool false, .bool false, .int .i64 a2, .bool false, .bool false, .bool false, .slice a0_A a0_n a0_c, .int .i64 (a0.length : Int), .int .i64 a1, .int .i64 a2, .int .i64 (iadd .i64 a1 a2), .bool false, .bool false, .int .i64 a1, .slice s1_A s1_n s1_c, .int .i64 z3, .int .i64 a1, .bool true, (g 38), (g 39), (g 40), (g 41), (g 42), (g 43), (g 44), (g 45), (g 46), (g 47), (g 48), (g 49), (g 50), (g 51), (g 52), (g 53), (g 54), (g 55), (g 56), (g 57), (g 58), (g 59), (g 60), (g 61), (g 62), (g 63), undef, undef, undef, undef, undef, undef, undef], []⟩) (fun N1 nn1 => ?_) ?_
                  · clear hk1
                    refine xblock ?_
                    refine wp_loop_k (fun n a w => ∃ z6 z7, ref22_Unhints.l1 K n a0 a2 z3 z6 z7 = some (y8, y9) ∧ St w0 [] [.ownL (CA .i32 256 (by decide)) s1_A s1_n s1_c z7 40] [.rowL (CI .u8) a0_A a0_n a0_c a0] w ∧ ∃ g : Nat → Value, a = ⟨#[.slice a0_A a0_n a0_c, .int .i64 a1, .int .i64 a2, undef, undef, undef, .slice none 0 0, .bool false, .slice s1_A s1_n s1_c, .int .i64 z6, .int .i64 z3, .int .i64 a1, .bool false, .bool false, .int .i64 a1, .bool false, .bool false, .bool false, .int .i64 a2, .bool false, .bool false, .bool false, .int .i64 a2, .bool false, .bool false, .bool false, .slice a0_A a0_n a0_c, .int .i64 (a0.length : Int), .int .i64 a1, .int .i64 a2, .int .i64 (iadd .i64 a1 a2), .bool false, .bool false, .int .i64 a1, .slice s1_A s1_n s1_c, .int .i64 z3, .int .i64 a1, .bool true, (g 38), (g 39), (g 40), (g 41), (g 42), (g 43), (g 44), (g 45), (g 46), (g 47), (g 48), (g 49), (g 50), (g 51), (g 52), (g 53), (g 54), (g 55), (g 56), (g 57), (g 58), (g 59), (g 60), (g 61), (g 62), (g 63), undef, undef, undef, undef, undef, undef, undef], []⟩) K ⟨z2, z4, hy, hs.conv rfl, exg (by kernel_rfl)⟩ ?_
                    clear hs h hy
                    rintro n a w ⟨z6, z7, h, hs, g, rfl⟩ KL1 kl1
                    cases n with
                    | zero => exact nomatch (show none = some _ from h)
                    | succ n =>
                      refine xseq_k fun KS320 ks320 => ?_
                      refine xseq_k fun KS321 ks321 => ?_
                      refine wp_regS (l := [0, 1, 2, 3, 4, 5, 6, 7, 8, 9, 10, 11, 12, 13]) (by kernel_rfl) (by kernel_rfl) fun KR322 kr322 => ?_
                      refine wpS.take 0 false (some 40) (.int .i64 z6) (by kernel_rfl) (yld fun _ => by kernel_rfl) ?_
                      refine wpS.take 1 false (some 41) (.slice a0_A a0_n a0_c) (by kernel_rfl) (yld fun _ => by kernel_rfl) ?_
                      refine wpS.take 2 false (some 42) (.int .i64 a2) (by kernel_rfl) (yld fun _ => by kernel_rfl) ?_
                      refine wpS.take 3 false (some 43) (.int .i64 z3) (by kernel_rfl) (yld fun _ => by kernel_rfl) ?_
                      refine wpS.take 4 false (some 44) (.int .i64 (iadd .i64 a2 z3)) (by kernel_rfl) (yld fun _ => by kernel_rfl) ?_
                      obtain ⟨x10, hx, h⟩ := of_bind h
                      have hx := of_some hx
                      subst hx
                      obtain ⟨h0, h⟩ := of_chk h
                      obtain ⟨h1, h⟩ := of_chk h
                      have i0_323 := h0
                      have i1_323 := h1
                      refine wpS.take 5 false (some 45) (.pointer (adr a0_A (((iadd .i64 a2 z3) : Int).toNat * Cod.size (CI .u8)))) (by kernel_rfl) (yld_idxL (C := (CI .u8)) (t := 24) (e := 5) (k := .i64) (x := (iadd .i64 a2 z3)) (hs.rowR 0 rfl) (by kernel_rfl) (by kernel_rfl) (by kernel_rfl) h0 h1) ?_
                      refine wpS.take 6 true (some 46) (.int .u8 (rdL (CI .u8) a0 (iadd .i64 a2 z3))) (by kernel_rfl) (yld_loadL (C := (CI .u8)) (e := 5) (x := (iadd .i64 a2 z3)) (hs.rowR 0 rfl) (by kernel_rfl) rfl (by kernel_rfl) i0_323 i1_323) ?_
                      refine wpS.take 7 false (some 47) (.int .i64 (iconv .i64 (rdL (CI .u8) a0 (iadd .i64 a2 z3)))) (by kernel_rfl) (yld fun _ => by kernel_rfl) ?_
                      rcases of_if h with ⟨hc, h⟩ | ⟨hc, h⟩
                      · refine wpS.take 8 false (some 48) (.bool true) (by kernel_rfl) (yld_b (dt hc) (fun _ => by kernel_rfl)) ?_
                        refine wpS.take 9 false (some 49) (.bool true) (by kernel_rfl) (yld fun _ => by kernel_rfl) ?_
                        refine wpS.take 10 false (some 50) (.int .i64 z6) (by kernel_rfl) (yld fun _ => by kernel_rfl) ?_
                        refine wpS.take 11 false (some 51) (.int .i64 a2) (by kernel_rfl) (yld fun _ => by kernel_rfl) ?_
                        rcases of_if h with ⟨hc, h⟩ | ⟨hc, h⟩
                        · refine wpS.take 12 false (some 52) (.bool true) (by kernel_rfl) (yld_b (dt hc) (fun _ => by kernel_rfl)) ?_
                          refine wpS.take 13 false (some 53) (.bool true) (by kernel_rfl) (yld fun _ => by kernel_rfl) ?_
                          refine wpS.fin rfl (kr322 _ _ ?_)
                          refine then_n (ks321 _ _ ?_)
                          refine wp_cond_t (by kernel_rfl) ?_
                          refine xskip ?_
                          refine then_n (ks320 _ _ ?_)
                          refine xblock ?_
                          refine xseq_k fun KS324 ks324 => ?_
                          refine wp_regG [8] (fun k => True) 9 (by kernel_rfl) (by kernel_rfl) (by kernel_rfl) fun KR325 kr325 => ?_
                          have hs := hs.drawn1
                          refine wpG.takeD 0 false (some 54) (.slice s1_A s1_n s1_c) (by kernel_rfl) (by kernel_rfl) (yld fun _ => by kernel_rfl) ?_
                          refine wpG.takeD 1 false (some 55) (.int .i64 z3) (by kernel_rfl) (by kernel_rfl) (yld fun _ => by kernel_rfl) ?_
                          refine wpG.takeD 2 false (some 56) (.slice a0_A a0_n a0_c) (by kernel_rfl) (by kernel_rfl) (yld fun _ => by kernel_rfl) ?_
                          refine wpG.takeD 3 false (some 57) (.int .i64 z6) (by kernel_rfl) (by kernel_rfl) (yld fun _ => by kernel_rfl) ?_
                          obtain ⟨h0, h⟩ := of_chk h
                          obtain ⟨h1, h⟩ := of_chk h
                          have i0_330 := h0
                          have i1_330 := h1
                          refine wpG.takeD 4 false (some 58) (.pointer (adr a0_A ((z6 : Int).toNat * Cod.size (CI .u8)))) (by kernel_rfl) (by kernel_rfl) (yld_idxL (C := (CI .u8)) (t := 24) (e := 5) (k := .i64) (x := z6) (hs.rowR 0 rfl) (by kernel_rfl) (by kernel_rfl) (by kernel_rfl) h0 h1) ?_
                          refine wpG.takeD 5 true (some 59) (.int .u8 (rdL (CI .u8) a0 z6)) (by kernel_rfl) (by kernel_rfl) (yld_loadL (C := (CI .u8)) (e := 5) (x := z6) (hs.rowR 0 rfl) (by kernel_rfl) rfl (by kernel_rfl) i0_330 i1_330) ?_
                          obtain ⟨h0, h⟩ := of_chk h
                          obtain ⟨h1, h⟩ := of_chk h
                          have i0_331 := h0
                          have i1_331 := h1
                          refine wpG.takeD 6 false (some 60) (.pointer (adr s1_A ((z3 : Int).toNat * Cod.size (CA .i32 256 (by decide))))) (by kernel_rfl) (by kernel_rfl) (yld_idxL (C := (CA .i32 256 (by decide))) (t := 25) (e := 40) (k := .i64) (x := z3) (hs.rowL 0 rfl) (by kernel_rfl) (by kernel_rfl) (by kernel_rfl) h0 h1) ?_
                          obtain ⟨x11, hx, h⟩ := of_bind h
                          have hx := of_some hx
                          subst hx
                          obtain ⟨h0, h⟩ := of_chk h
                          obtain ⟨h1, h⟩ := of_chk h
                          have j0_332 := h0
                          have j1_332 := h1
                          refine wpG.takeD 7 false (some 61) (.pointer (adr s1_A ((z3 : Int).toNat * Cod.size (CA .i32 256 (by decide)) + ((rdL (CI .u8) a0 z6) : Int).toNat * 1))) (by kernel_rfl) (by kernel_rfl) (yld_idxLA (t := 40) (e := 21) (k' := .u8) (x := z3) (y := (rdL (CI .u8) a0 z6)) (hs.rowL 0 rfl) (by kernel_rfl) (by kernel_rfl) (by kernel_rfl) i0_331 i1_331 h0 h1) ?_
                          refine wpG.only 8 (by kernel_rfl) (op_storeLE (t := 21) (x := z3) (y := (rdL (CI .u8) a0 z6)) (v := 1) (d := none) (by kernel_rfl) hs 0 rfl (by kernel_rfl) (by kernel_rfl) i0_331 i1_331 j0_332 j1_332 ?_)
                          intro w hs
                          refine ⟨⟨fun hf => absurd hf (by decide), .all _ _⟩, ?_⟩
                          refine wpG.fin (by kernel_rfl) rfl (kr325 _ _ ?_)
                          refine then_n (ks324 _ _ ?_)
                          refine wp_regS (l := [0, 1, 2]) (by kernel_rfl) (by kernel_rfl) fun KR333 kr333 => ?_
                          refine wpS.take 0 false (some 62) (.int .i64 z6) (by kernel_rfl) (yld fun _ => by kernel_rfl) ?_
                          refine wpS.take 1 false (some 63) (.int .i64 (iadd .i64 z6 1)) (by kernel_rfl) (yld fun _ => by kernel_rfl) ?_
                          obtain ⟨x12, hx, h⟩ := of_bind h
                          refine wpS.take 2 false (some 9) (.int .i64 x12) (by kernel_rfl) (yld_int hx (fun _ => by kernel_rfl)) ?_
                          refine wpS.fin rfl (kr333 _ _ ?_)
                          refine inBlock_n ?_
                          exact then_n (kl1 _ _ ⟨n, Nat.lt_succ_self n, x12, (wrL z7 z3 (wr (rdL (CA .i32 256 (by decide)) z7 z3) (rdL (CI .u8) a0 z6) 1)), h, (hs.conv rfl), exg (by kernel_rfl)⟩)
                        · refine wpS.take 12 false (some 52) (.bool false) (by kernel_rfl) (yld_b (df hc) (fun _ => by kernel_rfl)) ?_
                          refine wpS.take 13 false (some 53) (.bool false) (by kernel_rfl) (yld fun _ => by kernel_rfl) ?_
                          refine wpS.fin rfl (kr322 _ _ ?_)
                          refine then_n (ks321 _ _ ?_)
                          refine wp_cond_f (by kernel_rfl) ?_
                          refine xexit ?_
                          refine then_x ?_
                          refine then_x ?_
                          refine inBlock_hit ?_
                          obtain ⟨q0, qr0⟩ := Prod.mk.inj (of_some h)
                          have q1 := qr0
                          subst q0
                          subst q1
                          exact exq_n (nn1 _ _ ⟨(hs.conv rfl), exg (by kernel_rfl)⟩)
                      · refine wpS.take 8 false (some 48) (.bool false) (by kernel_rfl) (yld_b (df hc) (fun _ => by kernel_rfl)) ?_
                        refine wpS.take 9 false (some 49) (.bool false) (by kernel_rfl) (yld fun _ => by kernel_rfl) ?_
                        refine wpS.take 10 false (some 50) (undef) (by kernel_rfl) (yld fun _ => by kernel_rfl) ?_
                        refine wpS.take 11 false (some 51) (undef) (by kernel_rfl) (yld fun _ => by kernel_rfl) ?_
                        refine wpS.take 12 false (some 52) (undef) (by kernel_rfl) (yld fun _ => by kernel_rfl) ?_
                        refine wpS.take 13 false (some 53) (.bool false) (by kernel_rfl) (yld fun _ => by kernel_rfl) ?_
                        refine wpS.fin rfl (kr322 _ _ ?_)
                        refine then_n (ks321 _ _ ?_)
                        refine wp_cond_f (by kernel_rfl) ?_
                        refine xexit ?_
                        refine then_x ?_
                        refine then_x ?_
                        refine inBlock_hit ?_
                        obtain ⟨q0, qr0⟩ := Prod.mk.inj (of_some h)
                        have q1 := qr0
                        subst q0
                        subst q1
                        exact exq_n (nn1 _ _ ⟨(hs.conv rfl), exg (by kernel_rfl)⟩)
                  · clear hs h hy
                    rintro a w ⟨hs, g, rfl⟩
                    have h := hk1
                    refine inBlock_n ?_
                    refine then_n (ks299 _ _ ?_)
                    refine wp_regS (l := [0, 1, 2]) (by kernel_rfl) (by kernel_rfl) fun KR334 kr334 => ?_
                    refine wpS.take 0 false (some 38) (.int .i64 z3) (by kernel_rfl) (yld fun _ => by kernel_rfl) ?_
                    refine wpS.take 1 false (some 39) (.int .i64 (iadd .i64 z3 1)) (by kernel_rfl) (yld fun _ => by kernel_rfl) ?_
                    obtain ⟨x13, hx, h⟩ := of_bind h
                    refine wpS.take 2 false (some 10) (.int .i64 x13) (by kernel_rfl) (yld_int hx (fun _ => by kernel_rfl)) ?_
                    refine wpS.fin rfl (kr334 _ _ ?_)
                    exact then_n (kl0 _ _ ⟨n, Nat.lt_succ_self n, y8, x13, y9, h, (hs.conv rfl), exg (by kernel_rfl)⟩)
                · refine wpS.take 2 false (some 37) (.bool false) (by kernel_rfl) (yld_b (df hc) (fun _ => by kernel_rfl)) ?_
                  refine wpS.fin rfl (kr264 _ _ ?_)
                  refine then_n (ks263 _ _ ?_)
                  refine wp_cond_f (by kernel_rfl) ?_
                  refine xexit ?_
                  refine then_x ?_
                  refine then_x ?_
                  refine inBlock_hit ?_
                  have q0 := of_some h
                  subst q0
                  exact exq_n (nn0 _ _ ⟨(hs.conv rfl), exg (by kernel_rfl)⟩)
            · clear hs h hy
              rintro a w ⟨hs, g, rfl⟩
              have h := hk0
              refine then_n (ks182 _ _ ?_)
              refine xseq_k fun KS339 ks339 => ?_
              refine xseq_k fun KS340 ks340 => ?_
              refine wp_regS (l := [0, 1, 2, 3, 4, 5]) (by kernel_rfl) (by kernel_rfl) fun KR341 kr341 => ?_
              refine wpS.take 0 false (some 64) (.slice s1_A s1_n s1_c) (by kernel_rfl) (yld fun _ => by kernel_rfl) ?_
              refine wpS.take 1 false (some 65) (.int .i64 a2) (by kernel_rfl) (yld fun _ => by kernel_rfl) ?_
              obtain ⟨r14, hg, h⟩ := of_bind h
              refine wpS.only 2 (op_callH (d := (some 66)) (by kernel_rfl) hs (fun _ => by kernel_rfl) (ref22_Hints.ok hg _ (hs.rowL 0 rfl)) ?_)
              rintro ⟨r14_A, r14_n, r14_c⟩ w gw hs
              have hs := hs.conv (L' := [.ownL (CI .u8) r14_A r14_n r14_c r14 5, .ownL (CA .i32 256 (by decide)) s1_A s1_n s1_c y5 40]) rfl
              refine ⟨fun _ => trivial, ?_⟩
              refine wpS.take 3 false (some 67) (.slice a0_A a0_n a0_c) (by kernel_rfl) (yld fun _ => by kernel_rfl) ?_
              obtain ⟨r15, hg, h⟩ := of_bind h
              cases r15 with
              | true =>
                have h := of_if_t h
                refine wpS.only 4 (op_call (d := (some 68)) (by kernel_rfl) hs (fun _ => by kernel_rfl) (ref01_Same.ok hg _ (hs.rowL 0 rfl) (hs.rowR 0 rfl)) ?_)
                intro w gw hs
                refine ⟨fun _ => trivial, ?_⟩
                refine wpS.take 5 false (some 69) (.bool false) (by kernel_rfl) (yld fun _ => by kernel_rfl) ?_
                refine wpS.fin rfl (kr341 _ _ ?_)
                refine then_n (ks340 _ _ ?_)
                refine wp_cond_f (by kernel_rfl) ?_
                refine xskip ?_
                refine then_n (ks339 _ _ ?_)
                refine xseq_k fun KS342 ks342 => ?_
                refine wp_regS (l := [0, 1, 2]) (by kernel_rfl) (by kernel_rfl) fun KR343 kr343 => ?_
                refine wpS.take 0 false (some 70) (.slice s1_A s1_n s1_c) (by kernel_rfl) (yld fun _ => by kernel_rfl) ?_
                refine wpS.take 1 false (some 6) (.slice s1_A s1_n s1_c) (by kernel_rfl) (yld fun _ => by kernel_rfl) ?_
                refine wpS.take 2 false (some 7) (.bool true) (by kernel_rfl) (yld fun _ => by kernel_rfl) ?_
                refine wpS.fin rfl (kr343 _ _ ?_)
                refine then_n (ks342 _ _ ?_)
                refine xret ?_
                obtain ⟨q0, qr0⟩ := Prod.mk.inj (of_some h)
                have q1 := qr0
                subst q0
                subst q1
                exact qq _ _ (post_ret (by kernel_rfl) (run_results [.tmp 6, .tmp 7] [.slice s1_A s1_n s1_c, .bool true] (by kernel_rfl) (.cons (res_tmp (by kernel_rfl)) (.cons (res_tmp (by kernel_rfl)) .nil))) ⟨⟨s1_A, s1_n, s1_c⟩, congrArg Ending.returned (by kernel_rfl), (((hs.conv (L' := [.ownL (CI .u8) r14_A r14_n r14_c r14 5, .ownL (CA .i32 256 (by decide)) s1_A s1_n s1_c y5 40]) rfl).drop (.cons _ (.cons_cons _ .slnil))).pickR pick_nil)⟩)
              | false =>
                have h := of_if_f h
                refine wpS.only 4 (op_call (d := (some 68)) (by kernel_rfl) hs (fun _ => by kernel_rfl) (ref01_Same.ok hg _ (hs.rowL 0 rfl) (hs.rowR 0 rfl)) ?_)
                intro w gw hs
                refine ⟨fun _ => trivial, ?_⟩
                refine wpS.take 5 false (some 69) (.bool true) (by kernel_rfl) (yld fun _ => by kernel_rfl) ?_
                refine wpS.fin rfl (kr341 _ _ ?_)
                refine then_n (ks340 _ _ ?_)
                refine wp_cond_t (by kernel_rfl) ?_
                refine xseq_k fun KS344 ks344 => ?_
                refine wp_regS (l := [0, 1]) (by kernel_rfl) (by kernel_rfl) fun KR345 kr345 => ?_
                refine wpS.take 0 false (some 6) (.slice none 0 0) (by kernel_rfl) (yld fun _ => by kernel_rfl) ?_
                refine wpS.take 1 false (some 7) (.bool false) (by kernel_rfl) (yld fun _ => by kernel_rfl) ?_
                refine wpS.fin rfl (kr345 _ _ ?_)
                refine then_n (ks344 _ _ ?_)
                refine xret ?_
                refine then_r ?_
                obtain ⟨q0, qr0⟩ := Prod.mk.inj (of_some h)
                have q1 := qr0
                subst q0
                subst q1
                have hs := hs.addNilL (CA .i32 256 (by decide)) 40
                exact qq _ _ (post_ret (by kernel_rfl) (run_results [.tmp 6, .tmp 7] [.slice none 0 0, .bool false] (by kernel_rfl) (.cons (res_tmp (by kernel_rfl)) (.cons (res_tmp (by kernel_rfl)) .nil))) ⟨⟨none, 0, 0⟩, congrArg Ending.returned (by kernel_rfl), (((hs.conv (L' := [.ownL (CA .i32 256 (by decide)) none 0 0 ([] : List (Arr 256)) 40, .ownL (CI .u8) r14_A r14_n r14_c r14 5, .ownL (CA .i32 256 (by decide)) s1_A s1_n s1_c y5 40]) rfl).drop (.cons_cons _ (.cons _ (.cons _ .slnil)))).pickR pick_nil)⟩)
          · refine wpS.take 20 false (some 31) (.bool true) (by kernel_rfl) (yld_b (nt hc) (fun _ => by kernel_rfl)) ?_
            refine wpS.take 21 false (some 32) (.bool true) (by kernel_rfl) (yld fun _ => by kernel_rfl) ?_
            refine wpS.fin rfl (kr17 _ _ ?_)
            refine then_n (ks16 _ _ ?_)
            refine wp_cond_t (by kernel_rfl) ?_
            refine xseq_k fun KS346 ks346 => ?_
            refine wp_regS (l := [0, 1]) (by kernel_rfl) (by kernel_rfl) fun KR347 kr347 => ?_
            refine wpS.take 0 false (some 6) (.slice none 0 0) (by kernel_rfl) (yld fun _ => by kernel_rfl) ?_
            refine wpS.take 1 false (some 7) (.bool false) (by kernel_rfl) (yld fun _ => by kernel_rfl) ?_
            refine wpS.fin rfl (kr347 _ _ ?_)
            refine then_n (ks346 _ _ ?_)
            refine xret ?_
            refine then_r ?_
            obtain ⟨q0, qr0⟩ := Prod.mk.inj (of_some h)
            have q1 := qr0
            subst q0
            subst q1
            have hs := hs.addNilL (CA .i32 256 (by decide)) 40
            exact qq _ _ (post_ret (by kernel_rfl) (run_results [.tmp 6, .tmp 7] [.slice none 0 0, .bool false] (by kernel_rfl) (.cons (res_tmp (by kernel_rfl)) (.cons (res_tmp (by kernel_rfl)) .nil))) ⟨⟨none, 0, 0⟩, congrArg Ending.returned (by kernel_rfl), ((hs.conv (L' := [.ownL (CA .i32 256 (by decide)) none 0 0 ([] : List (Arr 256)) 40]) rfl).pickR pick_nil)⟩)

theorem ref22_Same.ok {K : Nat} {a0 : List (Arr 256)} {a1 : List (Arr 256)} {r0 : Bool} {a0_A : Option Addr} {a0_n : Nat} {a0_c : Nat} {a1_A : Option Addr} {a1_n : Nat} {a1_c : Nat} (h : ref22_Same.f K a0 a1 = some r0) (w0 : World) (hp0 : RowL (CA .i32 256 (by decide)) w0 a0_A a0_n a0_c a0) (hp1 : RowL (CA .i32 256 (by decide)) w0 a1_A a1_n a1_c a1) : Ret Try.prog 24 #[.slice a0_A a0_n a0_c, .slice a1_A a1_n a1_c] w0 (.bool r0) := by
  refine calls_k Try.func24 rfl fun Q qq => ?_
  have hs := St.startR (all_cons (RowP.ent hp0) (all_cons (RowP.ent hp1) all_nil))
  refine wp_conv (a' := ⟨#[.slice a0_A a0_n a0_c, .slice a1_A a1_n a1_c, undef, undef, undef, undef, undef, undef, undef, undef, undef, undef, undef, undef, undef, undef, undef, undef, undef, undef, undef, undef, undef, undef, undef, undef], []⟩) (by kernel_rfl) ?_
  refine xseq_k fun KS1 ks1 => ?_
  refine wp_regS (l := [0]) (by kernel_rfl) (by kernel_rfl) fun KR2 kr2 => ?_
  refine wpS.take 0 false (some 4) (.bool false) (by kernel_rfl) (yld fun _ => by kernel_rfl) ?_
  refine wpS.fin rfl (kr2 _ _ ?_)
  refine then_n (ks1 _ _ ?_)
  refine xseq_k fun KS7 ks7 => ?_
  refine xseq_k fun KS8 ks8 => ?_
  refine wp_regS (l := [0, 1, 2, 3, 4]) (by kernel_rfl) (by kernel_rfl) fun KR9 kr9 => ?_
  refine wpS.take 0 false (some 6) (.slice a0_A a0_n a0_c) (by kernel_rfl) (yld fun _ => by kernel_rfl) ?_
  refine wpS.take 1 false (some 7) (.int .i64 (a0.length : Int)) (by kernel_rfl) (yld_lenL (hs.rowR 0 rfl) (fun _ => by kernel_rfl)) ?_
  refine wpS.take 2 false (some 8) (.slice a1_A a1_n a1_c) (by kernel_rfl) (yld fun _ => by kernel_rfl) ?_
  refine wpS.take 3 false (some 9) (.int .i64 (a1.length : Int)) (by kernel_rfl) (yld_lenL (hs.rowR 1 rfl) (fun _ => by kernel_rfl)) ?_
  rcases of_if h with ⟨hc, h⟩ | ⟨hc, h⟩
  · refine wpS.take 4 false (some 10) (.bool false) (by kernel_rfl) (yld_b (nf hc) (fun _ => by kernel_rfl)) ?_
    refine wpS.fin rfl (kr9 _ _ ?_)
    refine then_n (ks8 _ _ ?_)
    refine wp_cond_f (by kernel_rfl) ?_
    refine xskip ?_
    refine then_n (ks7 _ _ ?_)
    refine xseq_k fun KS50 ks50 => ?_
    refine xseq_k fun KS51 ks51 => ?_
    refine wp_regS (l := [0]) (by kernel_rfl) (by kernel_rfl) fun KR52 kr52 => ?_
    refine wpS.take 0 false (some 5) (.int .i64 0) (by kernel_rfl) (yld fun _ => by kernel_rfl) ?_
    refine wpS.fin rfl (kr52 _ _ ?_)
    refine then_n (ks51 _ _ ?_)
    obtain ⟨t0, hy, hk0⟩ := of_bind h
    refine wp_exq (N := fun a w => t0 = .inl () ∧ St w0 [] [] [.rowL (CA .i32 256 (by decide)) a0_A a0_n a0_c a0, .rowL (CA .i32 256 (by decide)) a1_A a1_n a1_c a1] w ∧ ∃ g : Nat → Value, a = ⟨#[.slice a0_A a0_n a0_c, .slice a1_A a1_n a1_c, undef, undef, (g 4), (g 5), .slice a0_A a0_n a0_c, .int .i64 (a0.length : Int), .slice a1_A a1_n a1_c, .int .i64 (a1.length : Int), .bool false, (g 11), (g 12), (g 13), (g 14), (g 15), (g 16), (g 17), (g 18), (g 19), (g 20), (g 21), (g 22), (g 23), (g 24), (g 25)], []⟩) (fun N0 nn0 => ?_) ?_
    · refine xblock ?_
      refine wp_loop_k (fun n a w => ∃ z1, ref22_Same.l0 K n a0 a1 z1 = some t0 ∧ St w0 [] [] [.rowL (CA .i32 256 (by decide)) a0_A a0_n a0_c a0, .rowL (CA .i32 256 (by decide)) a1_A a1_n a1_c a1] w ∧ ∃ g : Nat → Value, a = ⟨#[.slice a0_A a0_n a0_c, .slice a1_A a1_n a1_c, undef, undef, (g 4), .int .i64 z1, .slice a0_A a0_n a0_c, .int .i64 (a0.length : Int), .slice a1_A a1_n a1_c, .int .i64 (a1.length : Int), .bool false, (g 11), (g 12), (g 13), (g 14), (g 15), (g 16), (g 17), (g 18), (g 19), (g 20), (g 21), (g 22), (g 23), (g 24), (g 25)], []⟩) K ⟨0, hy, hs.conv rfl, exg (by kernel_rfl)⟩ ?_
      clear hs h hy
      rintro n a w ⟨z1, h, hs, g, rfl⟩ KL0 kl0
      cases n with
      | zero => exact nomatch (show none = some _ from h)
      | succ n =>
        refine xseq_k fun KS74 ks74 => ?_
        refine xseq_k fun KS75 ks75 => ?_
        refine wp_regS (l := [0, 1, 2, 3]) (by kernel_rfl) (by kernel_rfl) fun KR76 kr76 => ?_
        refine wpS.take 0 false (some 11) (.int .i64 z1) (by kernel_rfl) (yld fun _ => by kernel_rfl) ?_
        refine wpS.take 1 false (some 12) (.slice a0_A a0_n a0_c) (by kernel_rfl) (yld fun _ => by kernel_rfl) ?_
        refine wpS.take 2 false (some 13) (.int .i64 (a0.length : Int)) (by kernel_rfl) (yld_lenL (hs.rowR 0 rfl) (fun _ => by kernel_rfl)) ?_
        rcases of_if h with ⟨hc, h⟩ | ⟨hc, h⟩
        · refine wpS.take 3 false (some 14) (.bool true) (by kernel_rfl) (yld_b (dt hc) (fun _ => by kernel_rfl)) ?_
          refine wpS.fin rfl (kr76 _ _ ?_)
          refine then_n (ks75 _ _ ?_)
          refine wp_cond_t (by kernel_rfl) ?_
          refine xskip ?_
          refine then_n (ks74 _ _ ?_)
          refine xseq_k fun KS83 ks83 => ?_
          refine xblock ?_
          refine xseq_k fun KS84 ks84 => ?_
          refine wp_regG [] (fun k => True) 9 (by kernel_rfl) (by kernel_rfl) (by kernel_rfl) fun KR85 kr85 => ?_
          have hs := hs.drawn1
          refine wpG.takeD 0 false (some 17) (.slice a0_A a0_n a0_c) (by kernel_rfl) (by kernel_rfl) (yld fun _ => by kernel_rfl) ?_
          refine wpG.takeD 1 false (some 18) (.int .i64 z1) (by kernel_rfl) (by kernel_rfl) (yld fun _ => by kernel_rfl) ?_
          obtain ⟨h0, h⟩ := of_chk h
          obtain ⟨h1, h⟩ := of_chk h
          have i0_86 := h0
          have i1_86 := h1
          refine wpG.takeD 2 false (some 19) (.pointer (adr a0_A ((z1 : Int).toNat * Cod.size (CA .i32 256 (by decide))))) (by kernel_rfl) (by kernel_rfl) (yld_idxL (C := (CA .i32 256 (by decide))) (t := 25) (e := 40) (k := .i64) (x := z1) (hs.rowR 0 rfl) (by kernel_rfl) (by kernel_rfl) (by kernel_rfl) h0 h1) ?_
          refine wpG.takeD 3 true (some 20) (.agg (enc .i32 (rdL (CA .i32 256 (by decide)) a0 z1)).toArray) (by kernel_rfl) (by kernel_rfl) (yld_loadLA (C := (CA .i32 256 (by decide))) (e := 40) (x := z1) (hs.rowR 0 rfl) (by kernel_rfl) rfl (by kernel_rfl) (by kernel_rfl) i0_86 i1_86) ?_
          refine wpG.takeD 4 false (some 21) (.slice a1_A a1_n a1_c) (by kernel_rfl) (by kernel_rfl) (yld fun _ => by kernel_rfl) ?_
          refine wpG.takeD 5 false (some 22) (.int .i64 z1) (by kernel_rfl) (by kernel_rfl) (yld fun _ => by kernel_rfl) ?_
          obtain ⟨h0, h⟩ := of_chk h
          obtain ⟨h1, h⟩ := of_chk h
          have i0_87 := h0
          have i1_87 := h1
          refine wpG.takeD 6 false (some 23) (.pointer (adr a1_A ((z1 : Int).toNat * Cod.size (CA .i32 256 (by decide))))) (by kernel_rfl) (by kernel_rfl) (yld_idxL (C := (CA .i32 256 (by decide))) (t := 25) (e := 40) (k := .i64) (x := z1) (hs.rowR 1 rfl) (by kernel_rfl) (by kernel_rfl) (by kernel_rfl) h0 h1) ?_
          refine wpG.takeD 7 true (some 24) (.agg (enc .i32 (rdL (CA .i32 256 (by decide)) a1 z1)).toArray) (by kernel_rfl) (by kernel_rfl) (yld_loadLA (C := (CA .i32 256 (by decide))) (e := 40) (x := z1) (hs.rowR 1 rfl) (by kernel_rfl) rfl (by kernel_rfl) (by kernel_rfl) i0_87 i1_87) ?_
          rcases of_ifb h with ⟨hc, h⟩ | ⟨hc, h⟩
          · refine wpG.takeD 8 false (some 25) (.bool true) (by kernel_rfl) (by kernel_rfl) (yld_bb hc (yld_eqAn (t := 40) (e := 21) (k := .i32) (.tmp 20) (.tmp 24) (by kernel_rfl) (by kernel_rfl) (by kernel_rfl) (by kernel_rfl) (by kernel_rfl) (by kernel_rfl))) ?_
            refine wpG.fin (by kernel_rfl) rfl (kr85 _ _ ?_)
            refine then_n (ks84 _ _ ?_)
            refine wp_cond_t (by kernel_rfl) ?_
            refine xseq_k fun KS88 ks88 => ?_
            refine wp_regS (l := [0]) (by kernel_rfl) (by kernel_rfl) fun KR89 kr89 => ?_
            refine wpS.take 0 false (some 4) (.bool false) (by kernel_rfl) (yld fun _ => by kernel_rfl) ?_
            refine wpS.fin rfl (kr89 _ _ ?_)
            refine then_n (ks88 _ _ ?_)
            refine xret ?_
            refine inBlock_r ?_
            refine then_r ?_
            refine then_r ?_
            refine inBlock_r ?_
            refine exq_r ?_
            refine then_r ?_
            have q0 := of_some h
            subst q0
            have q0 := of_some hk0
            subst q0
            exact qq _ _ (post_ret (by kernel_rfl) (run_results [.tmp 4] [.bool false] (by kernel_rfl) (.cons (res_tmp (by kernel_rfl)) .nil)) ⟨congrArg Ending.returned (by kernel_rfl), hs.none⟩)
          · refine wpG.takeD 8 false (some 25) (.bool false) (by kernel_rfl) (by kernel_rfl) (yld_bb hc (yld_eqAn (t := 40) (e := 21) (k := .i32) (.tmp 20) (.tmp 24) (by kernel_rfl) (by kernel_rfl) (by kernel_rfl) (by kernel_rfl) (by kernel_rfl) (by kernel_rfl))) ?_
            refine wpG.fin (by kernel_rfl) rfl (kr85 _ _ ?_)
            refine then_n (ks84 _ _ ?_)
            refine wp_cond_f (by kernel_rfl) ?_
            refine xskip ?_
            refine inBlock_n ?_
            refine then_n (ks83 _ _ ?_)
            refine wp_regS (l := [0, 1, 2]) (by kernel_rfl) (by kernel_rfl) fun KR90 kr90 => ?_
            refine wpS.take 0 false (some 15) (.int .i64 z1) (by kernel_rfl) (yld fun _ => by kernel_rfl) ?_
            refine wpS.take 1 false (some 16) (.int .i64 (iadd .i64 z1 1)) (by kernel_rfl) (yld fun _ => by kernel_rfl) ?_
            obtain ⟨x2, hx, h⟩ := of_bind h
            refine wpS.take 2 false (some 5) (.int .i64 x2) (by kernel_rfl) (yld_int hx (fun _ => by kernel_rfl)) ?_
            refine wpS.fin rfl (kr90 _ _ ?_)
            exact then_n (kl0 _ _ ⟨n, Nat.lt_succ_self n, x2, h, (hs.conv rfl), exg (by kernel_rfl)⟩)
        · refine wpS.take 3 false (some 14) (.bool false) (by kernel_rfl) (yld_b (df hc) (fun _ => by kernel_rfl)) ?_
          refine wpS.fin rfl (kr76 _ _ ?_)
          refine then_n (ks75 _ _ ?_)
          refine wp_cond_f (by kernel_rfl) ?_
          refine xexit ?_
          refine then_x ?_
          refine then_x ?_
          refine inBlock_hit ?_
          have q0 := of_some h
          subst q0
          exact exq_n (nn0 _ _ ⟨rfl, (hs.conv rfl), exg (by kernel_rfl)⟩)
    · clear hs h hy
      rintro a w ⟨rfl, hs, g, rfl⟩
      have h := hk0
      refine then_n (ks50 _ _ ?_)
      refine xseq_k fun KS91 ks91 => ?_
      refine wp_regS (l := [0]) (by kernel_rfl) (by kernel_rfl) fun KR92 kr92 => ?_
      refine wpS.take 0 false (some 4) (.bool true) (by kernel_rfl) (yld fun _ => by kernel_rfl) ?_
      refine wpS.fin rfl (kr92 _ _ ?_)
      refine then_n (ks91 _ _ ?_)
      refine xret ?_
      have q0 := of_some h
      subst q0
      exact qq _ _ (post_ret (by kernel_rfl) (run_results [.tmp 4] [.bool true] (by kernel_rfl) (.cons (res_tmp (by kernel_rfl)) .nil)) ⟨congrArg Ending.returned (by kernel_rfl), hs.none⟩)
  · refine wpS.take 4 false (some 10) (.bool true) (by kernel_rfl) (yld_b (nt hc) (fun _ => by kernel_rfl)) ?_
    refine wpS.fin rfl (kr9 _ _ ?_)
    refine then_n (ks8 _ _ ?_)
    refine wp_cond_t (by kernel_rfl) ?_
    refine xseq_k fun KS93 ks93 => ?_
    refine wp_regS (l := [0]) (by kernel_rfl) (by kernel_rfl) fun KR94 kr94 => ?_
    refine wpS.take 0 false (some 4) (.bool false) (by kernel_rfl) (yld fun _ => by kernel_rfl) ?_
    refine wpS.fin rfl (kr94 _ _ ?_)
    refine then_n (ks93 _ _ ?_)
    refine xret ?_
    refine then_r ?_
    have q0 := of_some h
    subst q0
    exact qq _ _ (post_ret (by kernel_rfl) (run_results [.tmp 4] [.bool false] (by kernel_rfl) (.cons (res_tmp (by kernel_rfl)) .nil)) ⟨congrArg Ending.returned (by kernel_rfl), hs.none⟩)

theorem zq_Fit.ok {K : Nat} {a0 : Arr 256} {r0 : Bool} (h : zq_Fit.f K a0 = some r0) (w0 : World) : Ret Try.prog 56 #[.agg (enc .i32 a0).toArray] w0 (.bool r0) := by
  refine calls_k Try.func56 rfl fun Q qq => ?_
  have hs := St.start w0
  refine wp_conv (a' := ⟨#[.agg (enc .i32 a0).toArray, undef, undef, undef, undef, undef, undef, undef, undef, undef, undef, undef, undef, undef, undef, undef], []⟩) (by kernel_rfl) ?_
  refine xseq_k fun KS1 ks1 => ?_
  refine wp_regS (l := [0, 1]) (by kernel_rfl) (by kernel_rfl) fun KR2 kr2 => ?_
  refine wpS.only 0 (op_box (t := 40) (v := .agg (enc .i32 a0).toArray) (d := (some 1)) (by kernel_rfl) hs (enc .i32 a0) (by kernel_rfl) (by kernel_rfl) ?_)
  intro b1 w gw hs
  refine ⟨fun _ => trivial, ?_⟩
  refine wpS.take 1 false (some 2) (.bool false) (by kernel_rfl) (yld fun _ => by kernel_rfl) ?_
  refine wpS.fin rfl (kr2 _ _ ?_)
  refine then_n (ks1 _ _ ?_)
  refine xseq_k fun KS49 ks49 => ?_
  refine xseq_k fun KS50 ks50 => ?_
  refine wp_regS (l := [0, 1]) (by kernel_rfl) (by kernel_rfl) fun KR51 kr51 => ?_
  refine wpS.take 0 true (some 5) (.agg (enc .i32 a0).toArray) (by kernel_rfl) (yld_loadW (e := 40) (n := 256) hs 0 rfl (by kernel_rfl) (by kernel_rfl) (by kernel_rfl) (by exact enc_len _ _) .grow) ?_
  refine wpS.take 1 false (some 6) (.int .i64 0) (by kernel_rfl) (yld fun _ => by kernel_rfl) ?_
  refine wpS.fin rfl (kr51 _ _ ?_)
  refine then_n (ks50 _ _ ?_)
  obtain ⟨t0, hy, hk0⟩ := of_bind h
  refine wp_exq (N := fun a w => t0 = .inl () ∧ St w0 [] [.blk b1 (enc .i32 a0) 40] [] w ∧ ∃ g : Nat → Value, a = ⟨#[.agg (enc .i32 a0).toArray, .pointer (some ⟨b1, 0, none⟩), (g 2), undef, (g 4), .agg (enc .i32 a0).toArray, (g 6), (g 7), (g 8), (g 9), (g 10), (g 11), (g 12), (g 13), (g 14), (g 15)], []⟩) (fun N0 nn0 => ?_) ?_
  · refine xblock ?_
    refine wp_loop_k (fun n a w => ∃ z2, zq_Fit.l0 K n a0 z2 = some t0 ∧ St w0 [] [.blk b1 (enc .i32 a0) 40] [] w ∧ ∃ g : Nat → Value, a = ⟨#[.agg (enc .i32 a0).toArray, .pointer (some ⟨b1, 0, none⟩), (g 2), undef, (g 4), .agg (enc .i32 a0).toArray, .int .i64 z2, (g 7), (g 8), (g 9), (g 10), (g 11), (g 12), (g 13), (g 14), (g 15)], []⟩) K ⟨0, hy, hs.conv rfl, exg (by kernel_rfl)⟩ ?_
    clear hs h hy
    rintro n a w ⟨z2, h, hs, g, rfl⟩ KL0 kl0
    cases n with
    | zero => exact nomatch (show none = some _ from h)
    | succ n =>
      refine xseq_k fun KS74 ks74 => ?_
      refine wp_regS (l := [0]) (by kernel_rfl) (by kernel_rfl) fun KR75 kr75 => ?_
      rcases of_if h with ⟨hc, h⟩ | ⟨hc, h⟩
      · refine wpS.take 0 false (some 7) (.bool true) (by kernel_rfl) (yld_b (dt hc) (fun _ => by kernel_rfl)) ?_
        refine wpS.fin rfl (kr75 _ _ ?_)
        refine then_n (ks74 _ _ ?_)
        refine xseq_k fun KS76 ks76 => ?_
        refine wp_cond_t (by kernel_rfl) ?_
        refine xskip ?_
        refine then_n (ks76 _ _ ?_)
        refine xseq_k fun KS85 ks85 => ?_
        refine xblock ?_
        refine xseq_k fun KS86 ks86 => ?_
        refine wp_regS (l := [0, 1]) (by kernel_rfl) (by kernel_rfl) fun KR87 kr87 => ?_
        obtain ⟨h0, h⟩ := of_chk h
        obtain ⟨h1, h⟩ := of_chk h
        refine wpS.take 0 false (some 8) (.int .i32 (rd a0 z2)) (by kernel_rfl) (yld_at (t := 40) (e := 21) (k' := .i64) (by kernel_rfl) (by kernel_rfl) (by kernel_rfl) (by kernel_rfl) h0 h1) ?_
        obtain ⟨x3, hx, h⟩ := of_bind h
        refine wpS.take 1 false (some 4) (.int .i32 x3) (by kernel_rfl) (yld_int hx (fun _ => by kernel_rfl)) ?_
        refine wpS.fin rfl (kr87 _ _ ?_)
        refine then_n (ks86 _ _ ?_)
        refine xseq_k fun KS88 ks88 => ?_
        refine wp_regS (l := [0, 1, 2, 3, 4, 5]) (by kernel_rfl) (by kernel_rfl) fun KR89 kr89 => ?_
        refine wpS.take 0 false (some 9) (.int .i32 x3) (by kernel_rfl) (yld fun _ => by kernel_rfl) ?_
        rcases of_if h with ⟨hc, h⟩ | ⟨hc, h⟩
        · refine wpS.take 1 false (some 10) (.bool true) (by kernel_rfl) (yld_b (dt hc) (fun _ => by kernel_rfl)) ?_
          refine wpS.take 2 false (some 11) (.bool true) (by kernel_rfl) (yld fun _ => by kernel_rfl) ?_
          refine wpS.take 3 false (some 12) (undef) (by kernel_rfl) (yld fun _ => by kernel_rfl) ?_
          refine wpS.take 4 false (some 13) (undef) (by kernel_rfl) (yld fun _ => by kernel_rfl) ?_
          refine wpS.take 5 false (some 14) (.bool true) (by kernel_rfl) (yld fun _ => by kernel_rfl) ?_
          refine wpS.fin rfl (kr89 _ _ ?_)
          refine then_n (ks88 _ _ ?_)
          refine wp_cond_t (by kernel_rfl) ?_
          refine xseq_k fun KS90 ks90 => ?_
          refine wp_regS (l := [0]) (by kernel_rfl) (by kernel_rfl) fun KR91 kr91 => ?_
          refine wpS.take 0 false (some 2) (.bool false) (by kernel_rfl) (yld fun _ => by kernel_rfl) ?_
          refine wpS.fin rfl (kr91 _ _ ?_)
          refine then_n (ks90 _ _ ?_)
          refine xret ?_
          refine inBlock_r ?_
          refine then_r ?_
          refine then_r ?_
          refine inBlock_r ?_
          refine exq_r ?_
          refine then_r ?_
          have q0 := of_some h
          subst q0
          have q0 := of_some hk0
          subst q0
          exact qq _ _ (post_ret (by kernel_rfl) (run_results [.tmp 2] [.bool false] (by kernel_rfl) (.cons (res_tmp (by kernel_rfl)) .nil)) ⟨congrArg Ending.returned (by kernel_rfl), hs.none⟩)
        · refine wpS.take 1 false (some 10) (.bool false) (by kernel_rfl) (yld_b (df hc) (fun _ => by kernel_rfl)) ?_
          refine wpS.take 2 false (some 11) (.bool false) (by kernel_rfl) (yld fun _ => by kernel_rfl) ?_
          refine wpS.take 3 false (some 12) (.int .i32 x3) (by kernel_rfl) (yld fun _ => by kernel_rfl) ?_
          rcases of_if h with ⟨hc, h⟩ | ⟨hc, h⟩
          · refine wpS.take 4 false (some 13) (.bool true) (by kernel_rfl) (yld_b (dt hc) (fun _ => by kernel_rfl)) ?_
            refine wpS.take 5 false (some 14) (.bool true) (by kernel_rfl) (yld fun _ => by kernel_rfl) ?_
            refine wpS.fin rfl (kr89 _ _ ?_)
            refine then_n (ks88 _ _ ?_)
            refine wp_cond_t (by kernel_rfl) ?_
            refine xseq_k fun KS92 ks92 => ?_
            refine wp_regS (l := [0]) (by kernel_rfl) (by kernel_rfl) fun KR93 kr93 => ?_
            refine wpS.take 0 false (some 2) (.bool false) (by kernel_rfl) (yld fun _ => by kernel_rfl) ?_
            refine wpS.fin rfl (kr93 _ _ ?_)
            refine then_n (ks92 _ _ ?_)
            refine xret ?_
            refine inBlock_r ?_
            refine then_r ?_
            refine then_r ?_
            refine inBlock_r ?_
            refine exq_r ?_
            refine then_r ?_
            have q0 := of_some h
            subst q0
            have q0 := of_some hk0
            subst q0
            exact qq _ _ (post_ret (by kernel_rfl) (run_results [.tmp 2] [.bool false] (by kernel_rfl) (.cons (res_tmp (by kernel_rfl)) .nil)) ⟨congrArg Ending.returned (by kernel_rfl), hs.none⟩)
          · refine wpS.take 4 false (some 13) (.bool false) (by kernel_rfl) (yld_b (df hc) (fun _ => by kernel_rfl)) ?_
            refine wpS.take 5 false (some 14) (.bool false) (by kernel_rfl) (yld fun _ => by kernel_rfl) ?_
            refine wpS.fin rfl (kr89 _ _ ?_)
            refine then_n (ks88 _ _ ?_)
            refine wp_cond_f (by kernel_rfl) ?_
            refine xskip ?_
            refine inBlock_n ?_
            refine then_n (ks85 _ _ ?_)
            refine wp_regS (l := [0, 1]) (by kernel_rfl) (by kernel_rfl) fun KR94 kr94 => ?_
            refine wpS.take 0 false (some 15) (.int .i64 (iadd .i64 z2 1)) (by kernel_rfl) (yld fun _ => by kernel_rfl) ?_
            refine wpS.take 1 false (some 6) (.int .i64 (iadd .i64 z2 1)) (by kernel_rfl) (yld fun _ => by kernel_rfl) ?_
            refine wpS.fin rfl (kr94 _ _ ?_)
            exact then_n (kl0 _ _ ⟨n, Nat.lt_succ_self n, (iadd .i64 z2 1), h, (hs.conv rfl), exg (by kernel_rfl)⟩)
      · refine wpS.take 0 false (some 7) (.bool false) (by kernel_rfl) (yld_b (df hc) (fun _ => by kernel_rfl)) ?_
        refine wpS.fin rfl (kr75 _ _ ?_)
        refine then_n (ks74 _ _ ?_)
        refine xseq_k fun KS95 ks95 => ?_
        refine wp_cond_f (by kernel_rfl) ?_
        refine xexit ?_
        refine then_x ?_
        refine then_x ?_
        refine inBlock_hit ?_
        have q0 := of_some h
        subst q0
        exact exq_n (nn0 _ _ ⟨rfl, (hs.conv rfl), exg (by kernel_rfl)⟩)
  · clear hs h hy
    rintro a w ⟨rfl, hs, g, rfl⟩
    have h := hk0
    refine then_n (ks49 _ _ ?_)
    refine xseq_k fun KS96 ks96 => ?_
    refine wp_regS (l := [0]) (by kernel_rfl) (by kernel_rfl) fun KR97 kr97 => ?_
    refine wpS.take 0 false (some 2) (.bool true) (by kernel_rfl) (yld fun _ => by kernel_rfl) ?_
    refine wpS.fin rfl (kr97 _ _ ?_)
    refine then_n (ks96 _ _ ?_)
    refine xret ?_
    have q0 := of_some h
    subst q0
    exact qq _ _ (post_ret (by kernel_rfl) (run_results [.tmp 2] [.bool true] (by kernel_rfl) (.cons (res_tmp (by kernel_rfl)) .nil)) ⟨congrArg Ending.returned (by kernel_rfl), hs.none⟩)

theorem dpack_span_turned.ok {K : Nat} {a0_0 : Int} {a0_1 : Int} {a1 : Int} {r0 : Int} {r1 : Bool} (h : dpack_span_turned.f K a0_0 a0_1 a1 = some (r0, r1)) (w0 : World) : Ret Try.prog 57 #[.agg #[.int .i32 a0_0, .int .i32 a0_1], .int .i32 a1] w0 (.tuple #[.int .u32 r0, .bool r1]) := by
  refine calls_k Try.func57 rfl fun Q qq => ?_
  have hs := St.start w0
  refine wp_conv (a' := ⟨#[.agg #[.int .i32 a0_0, .int .i32 a0_1], .int .i32 a1, undef, undef, undef, undef, undef, undef, undef, undef, undef, undef, undef, undef, undef, undef, undef, undef, undef, undef, undef, undef, undef, undef, undef, undef, undef, undef, undef, undef, undef, undef, undef, undef, undef], []⟩) (by kernel_rfl) ?_
  refine xseq_k fun KS1 ks1 => ?_
  refine wp_regS (l := [0, 1, 2]) (by kernel_rfl) (by kernel_rfl) fun KR2 kr2 => ?_
  refine wpS.only 0 (op_box (t := 73) (v := .agg #[.int .i32 a0_0, .int .i32 a0_1]) (d := (some 2)) (by kernel_rfl) hs ([.int .i32 a0_0, .int .i32 a0_1]) (by kernel_rfl) (by kernel_rfl) ?_)
  intro b1 w gw hs
  refine ⟨fun _ => trivial, ?_⟩
  refine wpS.take 1 false (some 4) (.int .u32 0) (by kernel_rfl) (yld fun _ => by kernel_rfl) ?_
  refine wpS.take 2 false (some 5) (.bool false) (by kernel_rfl) (yld fun _ => by kernel_rfl) ?_
  refine wpS.fin rfl (kr2 _ _ ?_)
  refine then_n (ks1 _ _ ?_)
  refine xseq_k fun KS7 ks7 => ?_
  refine xseq_k fun KS8 ks8 => ?_
  refine wp_regS (l := [0, 1, 2]) (by kernel_rfl) (by kernel_rfl) fun KR9 kr9 => ?_
  refine wpS.take 0 false (some 6) (.pointer (some ⟨b1, 0, none⟩)) (by kernel_rfl) (yld fun _ => by kernel_rfl) ?_
  refine wpS.take 1 true (some 7) (.int .i32 a0_0) (by kernel_rfl) (yld_load1 (e := 21) (o := 0) hs 0 rfl (by kernel_rfl) (by kernel_rfl) (by rfl) .grow) ?_
  rcases of_if h with ⟨hc, h⟩ | ⟨hc, h⟩
  · refine wpS.take 2 false (some 8) (.bool true) (by kernel_rfl) (yld_b (dt hc) (fun _ => by kernel_rfl)) ?_
    refine wpS.fin rfl (kr9 _ _ ?_)
    refine then_n (ks8 _ _ ?_)
    refine wp_cond_t (by kernel_rfl) ?_
    refine xseq_k fun KS10 ks10 => ?_
    refine wp_regG [] (fun k => True) 8 (by kernel_rfl) (by kernel_rfl) (by kernel_rfl) fun KR11 kr11 => ?_
    have hs := hs.drawn1
    refine wpG.takeD 0 false (some 9) (.int .i32 a1) (by kernel_rfl) (by kernel_rfl) (yld fun _ => by kernel_rfl) ?_
    refine wpG.takeD 1 false (some 10) (.int .u32 (iconv .u32 a1)) (by kernel_rfl) (by kernel_rfl) (yld fun _ => by kernel_rfl) ?_
    refine wpG.takeD 2 false (some 11) (.int .i32 a1) (by kernel_rfl) (by kernel_rfl) (yld fun _ => by kernel_rfl) ?_
    refine wpG.takeD 3 false (some 12) (.pointer (some ⟨b1, 1, none⟩)) (by kernel_rfl) (by kernel_rfl) (yld fun _ => by kernel_rfl) ?_
    refine wpG.takeD 4 true (some 13) (.int .i32 a0_1) (by kernel_rfl) (by kernel_rfl) (yld_load1 (e := 21) (o := 1) hs 0 rfl (by kernel_rfl) (by kernel_rfl) (by rfl) .grow) ?_
    refine wpG.takeD 5 false (some 14) (.bool (decide (a1 ≤ a0_1))) (by kernel_rfl) (by kernel_rfl) (yld fun _ => by kernel_rfl) ?_
    obtain ⟨x2, hx, h⟩ := of_bind h
    refine wpG.takeD 6 false (some 4) (.int .u32 x2) (by kernel_rfl) (by kernel_rfl) (yld_int hx (fun _ => by kernel_rfl)) ?_
    refine wpG.takeD 7 false (some 5) (.bool (decide (a1 ≤ a0_1))) (by kernel_rfl) (by kernel_rfl) (yld fun _ => by kernel_rfl) ?_
    refine wpG.fin (by kernel_rfl) rfl (kr11 _ _ ?_)
    refine then_n (ks10 _ _ ?_)
    refine xret ?_
    refine then_r ?_
    obtain ⟨q0, qr0⟩ := Prod.mk.inj (of_some h)
    have q1 := qr0
    subst q0
    subst q1
    exact qq _ _ (post_ret (by kernel_rfl) (run_results [.tmp 4, .tmp 5] [.int .u32 x2, .bool (decide (a1 ≤ a0_1))] (by kernel_rfl) (.cons (res_tmp (by kernel_rfl)) (.cons (res_tmp (by kernel_rfl)) .nil))) ⟨congrArg Ending.returned (by kernel_rfl), hs.none⟩)
  · refine wpS.take 2 false (some 8) (.bool false) (by kernel_rfl) (yld_b (df hc) (fun _ => by kernel_rfl)) ?_
    refine wpS.fin rfl (kr9 _ _ ?_)
    refine then_n (ks8 _ _ ?_)
    refine wp_cond_f (by kernel_rfl) ?_
    refine xskip ?_
    refine then_n (ks7 _ _ ?_)
    obtain ⟨y3, hj, h⟩ := of_bind h
    refine xseq_k fun KS23 ks23 => wp_join (N := fun a w => St w0 [] [.blk b1 ([.int .i32 a0_0, .int .i32 a0_1]) 73] [] w ∧ ∃ g : Nat → Value, a = ⟨#[.agg #[.int .i32 a0_0, .int .i32 a0_1], .int .i32 y3, .pointer (some ⟨b1, 0, none⟩), undef, .int .u32 0, .bool false, .pointer (some ⟨b1, 0, none⟩), .int .i32 a0_0, .bool false, undef, undef, undef, undef, undef, undef, (g 15), (g 16), (g 17), (g 18), undef, undef, undef, undef, undef, undef, undef, undef, undef, undef, undef, undef, undef, undef, undef, undef], []⟩) (fun N nj => ?_) ?_
    · clear h
      have h := hj
      refine xseq_k fun KS18 ks18 => ?_
      refine wp_regS (l := [0, 1]) (by kernel_rfl) (by kernel_rfl) fun KR19 kr19 => ?_
      refine wpS.take 0 false (some 15) (.int .i32 a1) (by kernel_rfl) (yld fun _ => by kernel_rfl) ?_
      rcases of_if h with ⟨hc, h⟩ | ⟨hc, h⟩
      · refine wpS.take 1 false (some 16) (.bool true) (by kernel_rfl) (yld_b (dt hc) (fun _ => by kernel_rfl)) ?_
        refine wpS.fin rfl (kr19 _ _ ?_)
        refine then_n (ks18 _ _ ?_)
        refine wp_cond_t (by kernel_rfl) ?_
        refine wp_regS (l := [0, 1, 2]) (by kernel_rfl) (by kernel_rfl) fun KR20 kr20 => ?_
        refine wpS.take 0 false (some 17) (.int .i32 a1) (by kernel_rfl) (yld fun _ => by kernel_rfl) ?_
        refine wpS.take 1 false (some 18) (.int .i32 (isub .i32 a1 8380417)) (by kernel_rfl) (yld fun _ => by kernel_rfl) ?_
        obtain ⟨x4, hx, h⟩ := of_bind h
        refine wpS.take 2 false (some 1) (.int .i32 x4) (by kernel_rfl) (yld_int hx (fun _ => by kernel_rfl)) ?_
        refine wpS.fin rfl (kr20 _ _ ?_)
        have q0 := of_some h
        subst q0
        exact nj _ _ ⟨(hs.conv rfl), exg (by kernel_rfl)⟩
      · refine wpS.take 1 false (some 16) (.bool false) (by kernel_rfl) (yld_b (df hc) (fun _ => by kernel_rfl)) ?_
        refine wpS.fin rfl (kr19 _ _ ?_)
        refine then_n (ks18 _ _ ?_)
        refine wp_cond_f (by kernel_rfl) ?_
        refine xskip ?_
        have q0 := of_some h
        subst q0
        exact nj _ _ ⟨(hs.conv rfl), exg (by kernel_rfl)⟩
    · clear hj hs
      rintro a w ⟨hs, g, rfl⟩
      refine then_n (ks23 _ _ ?_)
      refine xseq_k fun KS21 ks21 => ?_
      refine wp_regG [] (fun k => True) 18 (by kernel_rfl) (by kernel_rfl) (by kernel_rfl) fun KR22 kr22 => ?_
      have hs := hs.drawn1
      refine wpG.takeD 0 false (some 19) (.pointer (some ⟨b1, 1, none⟩)) (by kernel_rfl) (by kernel_rfl) (yld fun _ => by kernel_rfl) ?_
      refine wpG.takeD 1 true (some 20) (.int .i32 a0_1) (by kernel_rfl) (by kernel_rfl) (yld_load1 (e := 21) (o := 1) hs 0 rfl (by kernel_rfl) (by kernel_rfl) (by rfl) .grow) ?_
      refine wpG.takeD 2 false (some 21) (.int .i32 y3) (by kernel_rfl) (by kernel_rfl) (yld fun _ => by kernel_rfl) ?_
      refine wpG.takeD 3 false (some 22) (.int .i32 (isub .i32 a0_1 y3)) (by kernel_rfl) (by kernel_rfl) (yld fun _ => by kernel_rfl) ?_
      refine wpG.takeD 4 false (some 23) (.int .u32 (iconv .u32 (isub .i32 a0_1 y3))) (by kernel_rfl) (by kernel_rfl) (yld fun _ => by kernel_rfl) ?_
      refine wpG.takeD 5 false (some 24) (.int .i32 y3) (by kernel_rfl) (by kernel_rfl) (yld fun _ => by kernel_rfl) ?_
      refine wpG.takeD 6 false (some 25) (.pointer (some ⟨b1, 0, none⟩)) (by kernel_rfl) (by kernel_rfl) (yld fun _ => by kernel_rfl) ?_
      refine wpG.takeD 7 true (some 26) (.int .i32 a0_0) (by kernel_rfl) (by kernel_rfl) (yld_load1 (e := 21) (o := 0) hs 0 rfl (by kernel_rfl) (by kernel_rfl) (by rfl) .grow) ?_
      refine wpG.takeD 8 false (some 27) (.int .i32 (isub .i32 0 a0_0)) (by kernel_rfl) (by kernel_rfl) (yld fun _ => by kernel_rfl) ?_
      rcases of_if h with ⟨hc, h⟩ | ⟨hc, h⟩
      · refine wpG.takeD 9 false (some 28) (.bool true) (by kernel_rfl) (by kernel_rfl) (yld_b (dt hc) (fun _ => by kernel_rfl)) ?_
        refine wpG.takeD 10 false (some 29) (.bool true) (by kernel_rfl) (by kernel_rfl) (yld fun _ => by kernel_rfl) ?_
        refine wpG.takeD 11 false (some 30) (.int .i32 y3) (by kernel_rfl) (by kernel_rfl) (yld fun _ => by kernel_rfl) ?_
        refine wpG.takeD 12 false (some 31) (.pointer (some ⟨b1, 1, none⟩)) (by kernel_rfl) (by kernel_rfl) (yld fun _ => by kernel_rfl) ?_
        refine wpG.takeD 13 true (some 32) (.int .i32 a0_1) (by kernel_rfl) (by kernel_rfl) (yld_load1 (e := 21) (o := 1) hs 0 rfl (by kernel_rfl) (by kernel_rfl) (by rfl) .grow) ?_
        refine wpG.takeD 14 false (some 33) (.bool (decide (y3 ≤ a0_1))) (by kernel_rfl) (by kernel_rfl) (yld fun _ => by kernel_rfl) ?_
        refine wpG.takeD 15 false (some 34) (.bool (decide (y3 ≤ a0_1))) (by kernel_rfl) (by kernel_rfl) (yld fun _ => by kernel_rfl) ?_
        obtain ⟨x5, hx, h⟩ := of_bind h
        refine wpG.takeD 16 false (some 4) (.int .u32 x5) (by kernel_rfl) (by kernel_rfl) (yld_int hx (fun _ => by kernel_rfl)) ?_
        refine wpG.takeD 17 false (some 5) (.bool (decide (y3 ≤ a0_1))) (by kernel_rfl) (by kernel_rfl) (yld fun _ => by kernel_rfl) ?_
        refine wpG.fin (by kernel_rfl) rfl (kr22 _ _ ?_)
        refine then_n (ks21 _ _ ?_)
        refine xret ?_
        obtain ⟨q0, qr0⟩ := Prod.mk.inj (of_some h)
        have q1 := qr0
        subst q0
        subst q1
        exact qq _ _ (post_ret (by kernel_rfl) (run_results [.tmp 4, .tmp 5] [.int .u32 x5, .bool (decide (y3 ≤ a0_1))] (by kernel_rfl) (.cons (res_tmp (by kernel_rfl)) (.cons (res_tmp (by kernel_rfl)) .nil))) ⟨congrArg Ending.returned (by kernel_rfl), hs.none⟩)
      · refine wpG.takeD 9 false (some 28) (.bool false) (by kernel_rfl) (by kernel_rfl) (yld_b (df hc) (fun _ => by kernel_rfl)) ?_
        refine wpG.takeD 10 false (some 29) (.bool false) (by kernel_rfl) (by kernel_rfl) (yld fun _ => by kernel_rfl) ?_
        refine wpG.takeD 11 false (some 30) (undef) (by kernel_rfl) (by kernel_rfl) (yld fun _ => by kernel_rfl) ?_
        refine wpG.takeD 12 false (some 31) (undef) (by kernel_rfl) (by kernel_rfl) (yld fun _ => by kernel_rfl) ?_
        refine wpG.takeD 13 false (some 32) (undef) (by kernel_rfl) (by kernel_rfl) (yld fun _ => by kernel_rfl) ?_
        refine wpG.takeD 14 false (some 33) (undef) (by kernel_rfl) (by kernel_rfl) (yld fun _ => by kernel_rfl) ?_
        refine wpG.takeD 15 false (some 34) (.bool false) (by kernel_rfl) (by kernel_rfl) (yld fun _ => by kernel_rfl) ?_
        obtain ⟨x6, hx, h⟩ := of_bind h
        refine wpG.takeD 16 false (some 4) (.int .u32 x6) (by kernel_rfl) (by kernel_rfl) (yld_int hx (fun _ => by kernel_rfl)) ?_
        refine wpG.takeD 17 false (some 5) (.bool false) (by kernel_rfl) (by kernel_rfl) (yld fun _ => by kernel_rfl) ?_
        refine wpG.fin (by kernel_rfl) rfl (kr22 _ _ ?_)
        refine then_n (ks21 _ _ ?_)
        refine xret ?_
        obtain ⟨q0, qr0⟩ := Prod.mk.inj (of_some h)
        have q1 := qr0
        subst q0
        subst q1
        exact qq _ _ (post_ret (by kernel_rfl) (run_results [.tmp 4, .tmp 5] [.int .u32 x6, .bool false] (by kernel_rfl) (.cons (res_tmp (by kernel_rfl)) (.cons (res_tmp (by kernel_rfl)) .nil))) ⟨congrArg Ending.returned (by kernel_rfl), hs.none⟩)
end Go.Proofs.Ytblploekkjeolaa
