/- Printed by this work's own program: the code of each function below comes to the answer that its plain form tells. -/
import Derived.Test.YtblploekkjeolaaMj
import Derived.Test.YtblploekkjeolaaProg
import Derived.Test.YtblploekkjeolaaDF0
import Derived.Test.YtblploekkjeolaaDX3
set_option linter.unusedVariables false
set_option linter.unusedSimpArgs false
set_option maxRecDepth 100000
set_option maxHeartbeats 4000000
namespace Go.Proofs.Ytblploekkjeolaa
open Go.Mx
attribute [local irreducible] wpOp

theorem dpack_Unhints.ok {K : Nat} {a0 : List Int} {a1 : Int} {a2 : Int} {r0 : List (Arr 256)} {r1 : Bool} {a0_A : Option Addr} {a0_n : Nat} {a0_c : Nat} (h : dpack_Unhints.f K a0 a1 a2 = some (r0, r1)) (w0 : World) (hp0 : RowL (CI .u8) w0 a0_A a0_n a0_c a0) : Calls Try.prog 22 #[.slice a0_A a0_n a0_c, .int .i64 a1, .int .i64 a2] w0 fun e w' => ∃ h : (Option Addr × Nat × Nat), e = .returned (.tuple #[.slice h.1 h.2.1 h.2.2, .bool r1]) ∧ St w0 [] [.ownL (CA .i32 256 (by decide)) h.1 h.2.1 h.2.2 r0 40] [] w' := by
  refine calls_k Try.func22 rfl fun Q qq => ?_
  have hs := St.startR (all_cons (RowP.ent hp0) all_nil)
  refine wp_conv (a' := ⟨#[.slice a0_A a0_n a0_c, .int .i64 a1, .int .i64 a2, undef, undef, undef, undef, undef, undef, undef, undef, undef, undef, undef, undef, undef, undef, undef, undef, undef, undef, undef, undef, undef, undef, undef, undef, undef, undef, undef, undef, undef, undef, undef, undef, undef, undef, undef, undef, undef, undef, undef, undef, undef, undef, undef, undef, undef, undef, undef, undef, undef, undef, undef, undef, undef, undef, undef, undef, undef, undef, undef, undef, undef, undef, undef, undef, undef, undef, undef, undef, undef, undef, undef, undef, undef, undef, undef, undef, undef, undef, undef, undef, undef, undef, undef, undef, undef, undef, undef, undef, undef, undef], []⟩) (by kernel_rfl) ?_
  refine xseq_k fun KS1 ks1 => ?_
  refine wp_regS (l := [0, 1]) (by kernel_rfl) (by kernel_rfl) fun KR2 kr2 => ?_
  refine wpS.take 0 false (some 6) (.slice none 0 0) (by kernel_rfl) (yld fun _ => by kernel_rfl) ?_
  refine wpS.take 1 false (some 7) (.bool false) (by kernel_rfl) (yld fun _ => by kernel_rfl) ?_
  refine wpS.fin rfl (kr2 _ _ ?_)
  refine then_n (ks1 _ _ ?_)
  refine xseq_k fun KS15 ks15 => ?_
  refine xseq_k fun KS16 ks16 => ?_
  refine wp_regS (l := [0, 1, 2, 3, 4, 5, 6, 7, 8, 9, 10, 11, 12, 13, 14, 15, 16, 17, 18, 19, 20, 21]) (by kernel_rfl) (by kernel_rfl) fun KR17 kr17 => ?_
  refine wpS.take 0 false (some 13) (.int .i64 a1) (by kernel_rfl) (yld fun _ => by kernel_rfl) ?_
  rcases of_if h with ⟨hc, h⟩ | ⟨hc, h⟩
  · refine wpS.take 1 false (some 14) (.bool true) (by kernel_rfl) (yld_b (dt hc) (fun _ => by kernel_rfl)) ?_
    refine wpS.take 2 false (some 15) (.bool true) (by kernel_rfl) (yld fun _ => by kernel_rfl) ?_
    refine wpS.take 3 false (some 16) (undef) (by kernel_rfl) (yld fun _ => by kernel_rfl) ?_
    refine wpS.take 4 false (some 17) (undef) (by kernel_rfl) (yld fun _ => by kernel_rfl) ?_
    refine wpS.take 5 false (some 18) (.bool true) (by kernel_rfl) (yld fun _ => by kernel_rfl) ?_
    refine wpS.take 6 false (some 19) (.bool true) (by kernel_rfl) (yld fun _ => by kernel_rfl) ?_
    refine wpS.take 7 false (some 20) (undef) (by kernel_rfl) (yld fun _ => by kernel_rfl) ?_
    refine wpS.take 8 false (some 21) (undef) (by kernel_rfl) (yld fun _ => by kernel_rfl) ?_
    refine wpS.take 9 false (some 22) (.bool true) (by kernel_rfl) (yld fun _ => by kernel_rfl) ?_
    refine wpS.take 10 false (some 23) (.bool true) (by kernel_rfl) (yld fun _ => by kernel_rfl) ?_
    refine wpS.take 11 false (some 24) (undef) (by kernel_rfl) (yld fun _ => by kernel_rfl) ?_
    refine wpS.take 12 false (some 25) (undef) (by kernel_rfl) (yld fun _ => by kernel_rfl) ?_
    refine wpS.take 13 false (some 26) (.bool true) (by kernel_rfl) (yld fun _ => by kernel_rfl) ?_
    refine wpS.take 14 false (some 27) (.bool true) (by kernel_rfl) (yld fun _ => by kernel_rfl) ?_
    refine wpS.take 15 false (some 28) (undef) (by kernel_rfl) (yld fun _ => by kernel_rfl) ?_
    refine wpS.take 16 false (some 29) (undef) (by kernel_rfl) (yld fun _ => by kernel_rfl) ?_
    refine wpS.take 17 false (some 30) (undef) (by kernel_rfl) (yld fun _ => by kernel_rfl) ?_
    refine wpS.take 18 false (some 31) (undef) (by kernel_rfl) (yld fun _ => by kernel_rfl) ?_
    refine wpS.take 19 false (some 32) (undef) (by kernel_rfl) (yld fun _ => by kernel_rfl) ?_
    refine wpS.take 20 false (some 33) (undef) (by kernel_rfl) (yld fun _ => by kernel_rfl) ?_
    refine wpS.take 21 false (some 34) (.bool true) (by kernel_rfl) (yld fun _ => by kernel_rfl) ?_
    refine wpS.fin rfl (kr17 _ _ ?_)
    refine then_n (ks16 _ _ ?_)
    refine wp_cond_t (by kernel_rfl) ?_
    refine xseq_k fun KS18 ks18 => ?_
    refine wp_regS (l := [0, 1]) (by kernel_rfl) (by kernel_rfl) fun KR19 kr19 => ?_
    refine wpS.take 0 false (some 6) (.slice none 0 0) (by kernel_rfl) (yld fun _ => by kernel_rfl) ?_
    refine wpS.take 1 false (some 7) (.bool false) (by kernel_rfl) (yld fun _ => by kernel_rfl) ?_
    refine wpS.fin rfl (kr19 _ _ ?_)
    refine then_n (ks18 _ _ ?_)
    refine xret ?_
    refine then_r ?_
    obtain ⟨q0, qr0⟩ := Prod.mk.inj (of_some h)
    have q1 := qr0
    subst q0
    subst q1
    have hs := hs.addNilL (CA .i32 256 (by decide)) 40
    exact qq _ _ (post_ret (by kernel_rfl) (run_results [.tmp 6, .tmp 7] [.slice none 0 0, .bool false] (by kernel_rfl) (.cons (res_tmp (by kernel_rfl)) (.cons (res_tmp (by kernel_rfl)) .nil))) ⟨⟨none, 0, 0⟩, congrArg Ending.returned (by kernel_rfl), ((hs.conv (L' := [.ownL (CA .i32 256 (by decide)) none 0 0 ([] : List (Arr 256)) 40]) rfl).pickR pick_nil)⟩)
  · refine wpS.take 1 false (some 14) (.bool false) (by kernel_rfl) (yld_b (df hc) (fun _ => by kernel_rfl)) ?_
    refine wpS.take 2 false (some 15) (.bool false) (by kernel_rfl) (yld fun _ => by kernel_rfl) ?_
    refine wpS.take 3 false (some 16) (.int .i64 a1) (by kernel_rfl) (yld fun _ => by kernel_rfl) ?_
    rcases of_if h with ⟨hc, h⟩ | ⟨hc, h⟩
    · refine wpS.take 4 false (some 17) (.bool true) (by kernel_rfl) (yld_b (dt hc) (fun _ => by kernel_rfl)) ?_
      refine wpS.take 5 false (some 18) (.bool true) (by kernel_rfl) (yld fun _ => by kernel_rfl) ?_
      refine wpS.take 6 false (some 19) (.bool true) (by kernel_rfl) (yld fun _ => by kernel_rfl) ?_
      refine wpS.take 7 false (some 20) (undef) (by kernel_rfl) (yld fun _ => by kernel_rfl) ?_
      refine wpS.take 8 false (some 21) (undef) (by kernel_rfl) (yld fun _ => by kernel_rfl) ?_
      refine wpS.take 9 false (some 22) (.bool true) (by kernel_rfl) (yld fun _ => by kernel_rfl) ?_
      refine wpS.take 10 false (some 23) (.bool true) (by kernel_rfl) (yld fun _ => by kernel_rfl) ?_
      refine wpS.take 11 false (some 24) (undef) (by kernel_rfl) (yld fun _ => by kernel_rfl) ?_
      refine wpS.take 12 false (some 25) (undef) (by kernel_rfl) (yld fun _ => by kernel_rfl) ?_
      refine wpS.take 13 false (some 26) (.bool true) (by kernel_rfl) (yld fun _ => by kernel_rfl) ?_
      refine wpS.take 14 false (some 27) (.bool true) (by kernel_rfl) (yld fun _ => by kernel_rfl) ?_
      refine wpS.take 15 false (some 28) (undef) (by kernel_rfl) (yld fun _ => by kernel_rfl) ?_
      refine wpS.take 16 false (some 29) (undef) (by kernel_rfl) (yld fun _ => by kernel_rfl) ?_
      refine wpS.take 17 false (some 30) (undef) (by kernel_rfl) (yld fun _ => by kernel_rfl) ?_
      refine wpS.take 18 false (some 31) (undef) (by kernel_rfl) (yld fun _ => by kernel_rfl) ?_
      refine wpS.take 19 false (some 32) (undef) (by kernel_rfl) (yld fun _ => by kernel_rfl) ?_
      refine wpS.take 20 false (some 33) (undef) (by kernel_rfl) (yld fun _ => by kernel_rfl) ?_
      refine wpS.take 21 false (some 34) (.bool true) (by kernel_rfl) (yld fun _ => by kernel_rfl) ?_
      refine wpS.fin rfl (kr17 _ _ ?_)
      refine then_n (ks16 _ _ ?_)
      refine wp_cond_t (by kernel_rfl) ?_
      refine xseq_k fun KS20 ks20 => ?_
      refine wp_regS (l := [0, 1]) (by kernel_rfl) (by kernel_rfl) fun KR21 kr21 => ?_
      refine wpS.take 0 false (some 6) (.slice none 0 0) (by kernel_rfl) (yld fun _ => by kernel_rfl) ?_
      refine wpS.take 1 false (some 7) (.bool false) (by kernel_rfl) (yld fun _ => by kernel_rfl) ?_
      refine wpS.fin rfl (kr21 _ _ ?_)
      refine then_n (ks20 _ _ ?_)
      refine xret ?_
      refine then_r ?_
      obtain ⟨q0, qr0⟩ := Prod.mk.inj (of_some h)
      have q1 := qr0
      subst q0
      subst q1
      have hs := hs.addNilL (CA .i32 256 (by decide)) 40
      exact qq _ _ (post_ret (by kernel_rfl) (run_results [.tmp 6, .tmp 7] [.slice none 0 0, .bool false] (by kernel_rfl) (.cons (res_tmp (by kernel_rfl)) (.cons (res_tmp (by kernel_rfl)) .nil))) ⟨⟨none, 0, 0⟩, congrArg Ending.returned (by kernel_rfl), ((hs.conv (L' := [.ownL (CA .i32 256 (by decide)) none 0 0 ([] : List (Arr 256)) 40]) rfl).pickR pick_nil)⟩)
    · refine wpS.take 4 false (some 17) (.bool false) (by kernel_rfl) (yld_b (df hc) (fun _ => by kernel_rfl)) ?_
      refine wpS.take 5 false (some 18) (.bool false) (by kernel_rfl) (yld fun _ => by kernel_rfl) ?_
      refine wpS.take 6 false (some 19) (.bool false) (by kernel_rfl) (yld fun _ => by kernel_rfl) ?_
      refine wpS.take 7 false (some 20) (.int .i64 a2) (by kernel_rfl) (yld fun _ => by kernel_rfl) ?_
      rcases of_if h with ⟨hc, h⟩ | ⟨hc, h⟩
      · refine wpS.take 8 false (some 21) (.bool true) (by kernel_rfl) (yld_b (dt hc) (fun _ => by kernel_rfl)) ?_
        refine wpS.take 9 false (some 22) (.bool true) (by kernel_rfl) (yld fun _ => by kernel_rfl) ?_
        refine wpS.take 10 false (some 23) (.bool true) (by kernel_rfl) (yld fun _ => by kernel_rfl) ?_
        refine wpS.take 11 false (some 24) (undef) (by kernel_rfl) (yld fun _ => by kernel_rfl) ?_
        refine wpS.take 12 false (some 25) (undef) (by kernel_rfl) (yld fun _ => by kernel_rfl) ?_
        refine wpS.take 13 false (some 26) (.bool true) (by kernel_rfl) (yld fun _ => by kernel_rfl) ?_
        refine wpS.take 14 false (some 27) (.bool true) (by kernel_rfl) (yld fun _ => by kernel_rfl) ?_
        refine wpS.take 15 false (some 28) (undef) (by kernel_rfl) (yld fun _ => by kernel_rfl) ?_
        refine wpS.take 16 false (some 29) (undef) (by kernel_rfl) (yld fun _ => by kernel_rfl) ?_
        refine wpS.take 17 false (some 30) (undef) (by kernel_rfl) (yld fun _ => by kernel_rfl) ?_
        refine wpS.take 18 false (some 31) (undef) (by kernel_rfl) (yld fun _ => by kernel_rfl) ?_
        refine wpS.take 19 false (some 32) (undef) (by kernel_rfl) (yld fun _ => by kernel_rfl) ?_
        refine wpS.take 20 false (some 33) (undef) (by kernel_rfl) (yld fun _ => by kernel_rfl) ?_
        refine wpS.take 21 false (some 34) (.bool true) (by kernel_rfl) (yld fun _ => by kernel_rfl) ?_
        refine wpS.fin rfl (kr17 _ _ ?_)
        refine then_n (ks16 _ _ ?_)
        refine wp_cond_t (by kernel_rfl) ?_
        refine xseq_k fun KS22 ks22 => ?_
        refine wp_regS (l := [0, 1]) (by kernel_rfl) (by kernel_rfl) fun KR23 kr23 => ?_
        refine wpS.take 0 false (some 6) (.slice none 0 0) (by kernel_rfl) (yld fun _ => by kernel_rfl) ?_
        refine wpS.take 1 false (some 7) (.bool false) (by kernel_rfl) (yld fun _ => by kernel_rfl) ?_
        refine wpS.fin rfl (kr23 _ _ ?_)
        refine then_n (ks22 _ _ ?_)
        refine xret ?_
        refine then_r ?_
        obtain ⟨q0, qr0⟩ := Prod.mk.inj (of_some h)
        have q1 := qr0
        subst q0
        subst q1
        have hs := hs.addNilL (CA .i32 256 (by decide)) 40
        exact qq _ _ (post_ret (by kernel_rfl) (run_results [.tmp 6, .tmp 7] [.slice none 0 0, .bool false] (by kernel_rfl) (.cons (res_tmp (by kernel_rfl)) (.cons (res_tmp (by kernel_rfl)) .nil))) ⟨⟨none, 0, 0⟩, congrArg Ending.returned (by kernel_rfl), ((hs.conv (L' := [.ownL (CA .i32 256 (by decide)) none 0 0 ([] : List (Arr 256)) 40]) rfl).pickR pick_nil)⟩)
      · refine wpS.take 8 false (some 21) (.bool false) (by kernel_rfl) (yld_b (df hc) (fun _ => by kernel_rfl)) ?_
        refine wpS.take 9 false (some 22) (.bool false) (by kernel_rfl) (yld fun _ => by kernel_rfl) ?_
        refine wpS.take 10 false (some 23) (.bool false) (by kernel_rfl) (yld fun _ => by kernel_rfl) ?_
        refine wpS.take 11 false (some 24) (.int .i64 a2) (by kernel_rfl) (yld fun _ => by kernel_rfl) ?_
        rcases of_if h with ⟨hc, h⟩ | ⟨hc, h⟩
        · refine wpS.take 12 false (some 25) (.bool true) (by kernel_rfl) (yld_b (dt hc) (fun _ => by kernel_rfl)) ?_
          refine wpS.take 13 false (some 26) (.bool true) (by kernel_rfl) (yld fun _ => by kernel_rfl) ?_
          refine wpS.take 14 false (some 27) (.bool true) (by kernel_rfl) (yld fun _ => by kernel_rfl) ?_
          refine wpS.take 15 false (some 28) (undef) (by kernel_rfl) (yld fun _ => by kernel_rfl) ?_
          refine wpS.take 16 false (some 29) (undef) (by kernel_rfl) (yld fun _ => by kernel_rfl) ?_
          refine wpS.take 17 false (some 30) (undef) (by kernel_rfl) (yld fun _ => by kernel_rfl) ?_
          refine wpS.take 18 false (some 31) (undef) (by kernel_rfl) (yld fun _ => by kernel_rfl) ?_
          refine wpS.take 19 false (some 32) (undef) (by kernel_rfl) (yld fun _ => by kernel_rfl) ?_
          refine wpS.take 20 false (some 33) (undef) (by kernel_rfl) (yld fun _ => by kernel_rfl) ?_
          refine wpS.take 21 false (some 34) (.bool true) (by kernel_rfl) (yld fun _ => by kernel_rfl) ?_
          refine wpS.fin rfl (kr17 _ _ ?_)
          refine then_n (ks16 _ _ ?_)
          refine wp_cond_t (by kernel_rfl) ?_
          refine xseq_k fun KS24 ks24 => ?_
          refine wp_regS (l := [0, 1]) (by kernel_rfl) (by kernel_rfl) fun KR25 kr25 => ?_
          refine wpS.take 0 false (some 6) (.slice none 0 0) (by kernel_rfl) (yld fun _ => by kernel_rfl) ?_
          refine wpS.take 1 false (some 7) (.bool false) (by kernel_rfl) (yld fun _ => by kernel_rfl) ?_
          refine wpS.fin rfl (kr25 _ _ ?_)
          refine then_n (ks24 _ _ ?_)
          refine xret ?_
          refine then_r ?_
          obtain ⟨q0, qr0⟩ := Prod.mk.inj (of_some h)
          have q1 := qr0
          subst q0
          subst q1
          have hs := hs.addNilL (CA .i32 256 (by decide)) 40
          exact qq _ _ (post_ret (by kernel_rfl) (run_results [.tmp 6, .tmp 7] [.slice none 0 0, .bool false] (by kernel_rfl) (.cons (res_tmp (by kernel_rfl)) (.cons (res_tmp (by kernel_rfl)) .nil))) ⟨⟨none, 0, 0⟩, congrArg Ending.returned (by kernel_rfl), ((hs.conv (L' := [.ownL (CA .i32 256 (by decide)) none 0 0 ([] : List (Arr 256)) 40]) rfl).pickR pick_nil)⟩)
        · refine wpS.take 12 false (some 25) (.bool false) (by kernel_rfl) (yld_b (df hc) (fun _ => by kernel_rfl)) ?_
          refine wpS.take 13 false (some 26) (.bool false) (by kernel_rfl) (yld fun _ => by kernel_rfl) ?_
          refine wpS.take 14 false (some 27) (.bool false) (by kernel_rfl) (yld fun _ => by kernel_rfl) ?_
          refine wpS.take 15 false (some 28) (.slice a0_A a0_n a0_c) (by kernel_rfl) (yld fun _ => by kernel_rfl) ?_
          refine wpS.take 16 false (some 29) (.int .i64 (a0.length : Int)) (by kernel_rfl) (yld_lenL (hs.rowR 0 rfl) (fun _ => by kernel_rfl)) ?_
          refine wpS.take 17 false (some 30) (.int .i64 a1) (by kernel_rfl) (yld fun _ => by kernel_rfl) ?_
          refine wpS.take 18 false (some 31) (.int .i64 a2) (by kernel_rfl) (yld fun _ => by kernel_rfl) ?_
          refine wpS.take 19 false (some 32) (.int .i64 (iadd .i64 a1 a2)) (by kernel_rfl) (yld fun _ => by kernel_rfl) ?_
          rcases of_if h with ⟨hc, h⟩ | ⟨hc, h⟩
          · refine wpS.take 20 false (some 33) (.bool false) (by kernel_rfl) (yld_b (nf hc) (fun _ => by kernel_rfl)) ?_
            refine wpS.take 21 false (some 34) (.bool false) (by kernel_rfl) (yld fun _ => by kernel_rfl) ?_
            refine wpS.fin rfl (kr17 _ _ ?_)
            refine then_n (ks16 _ _ ?_)
            refine wp_cond_f (by kernel_rfl) ?_
            refine xskip ?_
            refine then_n (ks15 _ _ ?_)
            refine xseq_k fun KS26 ks26 => ?_
            refine wp_regS (l := [0, 1, 2]) (by kernel_rfl) (by kernel_rfl) fun KR27 kr27 => ?_
            refine wpS.take 0 false (some 35) (.int .i64 a1) (by kernel_rfl) (yld fun _ => by kernel_rfl) ?_
            obtain ⟨h0, h⟩ := of_chk h
            obtain ⟨h1, h⟩ := of_chk h
            refine wpS.only 1 (op_makeT (C := (CA .i32 256 (by decide))) (t := 25) (e := 40) (bytes := 1024) (B := 137438953472) (kl := .i64) (kc := .i64) (x := a1) (d := (some 36)) (by kernel_rfl) hs (by kernel_rfl) (by kernel_rfl) (by kernel_rfl) (by kernel_rfl) (by kernel_rfl) h0 h1 (by decide) (by decide) ?_)
            intro s1_A s1_n s1_c w gw hs
            refine ⟨fun _ => trivial, ?_⟩
            refine wpS.take 2 false (some 8) (.slice s1_A s1_n s1_c) (by kernel_rfl) (yld fun _ => by kernel_rfl) ?_
            refine wpS.fin rfl (kr27 _ _ ?_)
            refine then_n (ks26 _ _ ?_)
            refine xseq_k fun KS28 ks28 => ?_
            refine wp_regS (l := [0]) (by kernel_rfl) (by kernel_rfl) fun KR29 kr29 => ?_
            refine wpS.take 0 false (some 9) (.int .i64 0) (by kernel_rfl) (yld fun _ => by kernel_rfl) ?_
            refine wpS.fin rfl (kr29 _ _ ?_)
            refine then_n (ks28 _ _ ?_)
            refine xseq_k fun KS652 ks652 => ?_
            refine xseq_k fun KS653 ks653 => ?_
            refine wp_regS (l := [0, 1, 2]) (by kernel_rfl) (by kernel_rfl) fun KR654 kr654 => ?_
            refine wpS.take 0 false (some 37) (.slice s1_A s1_n s1_c) (by kernel_rfl) (yld fun _ => by kernel_rfl) ?_
            refine wpS.take 1 false (some 38) (.int .i64 ((List.replicate (a1 : Int).toNat (Cod.zero (CA .i32 256 (by decide)))).length : Int)) (by kernel_rfl) (yld_lenL (hs.rowL 0 rfl) (fun _ => by kernel_rfl)) ?_
            refine wpS.take 2 false (some 39) (.int .i64 0) (by kernel_rfl) (yld fun _ => by kernel_rfl) ?_
            refine wpS.fin rfl (kr654 _ _ ?_)
            refine then_n (ks653 _ _ ?_)
            obtain ⟨t0, hy, hk0⟩ := of_bind h
            refine wp_exq (N := fun a w => ∃ y5 y6, t0 = .inl (y5, y6) ∧ St w0 [] [.ownL (CA .i32 256 (by decide)) s1_A s1_n s1_c y6 40] [.rowL (CI .u8) a0_A a0_n a0_c a0] w ∧ ∃ g : Nat → Value, a = ⟨#[.slice a0_A a0_n a0_c, .int .i64 a1, .int .i64 a2, undef, undef, undef, (g 6), (g 7), .slice s1_A s1_n s1_c, .int .i64 y5, (g 10), (g 11), (g 12), .int .i64 a1, .bool false, .bool false, .int .i64 a1, .bool false, .bool false, .bool false, .int .i64 a2, .bool false, .bool false, .bool false, .int .i64 a2, .bool false, .bool false, .bool false, .slice a0_A a0_n a0_c, .int .i64 (a0.length : Int), .int .i64 a1, .int .i64 a2, .int .i64 (iadd .i64 a1 a2), .bool false, .bool false, .int .i64 a1, .slice s1_A s1_n s1_c, .slice s1_A s1_n s1_c, .int .i64 ((List.replicate (a1 : Int).toNat (Cod.zero (CA .i32 256 (by decide)))).length : Int), (g 39), (g 40), (g 41), (g 42), (g 43), (g 44), (g 45), (g 46), (g 47), (g 48), (g 49), (g 50), (g 51), (g 52), (g 53), (g 54), (g 55), (g 56), (g 57), (g 58), (g 59), (g 60), (g 61), (g 62), (g 63), (g 64), (g 65), (g 66), (g 67), (g 68), (g 69), (g 70), (g 71), (g 72), (g 73), (g 74), (g 75), (g 76), (g 77), (g 78), (g 79), (g 80), (g 81), (g 82), (g 83), (g 84), (g 85), (g 86), undef, undef, undef, undef, undef, undef], []⟩) (fun N0 nn0 => ?_) ?_
            · refine xblock ?_
              refine wp_loop_k (fun n a w => ∃ z2 z3 z4, dpack_Unhints.l0 K n a0 a1 a2 z2 z3 z4 = some t0 ∧ St w0 [] [.ownL (CA .i32 256 (by decide)) s1_A s1_n s1_c z4 40] [.rowL (CI .u8) a0_A a0_n a0_c a0] w ∧ ∃ g : Nat → Value, a = ⟨#[.slice a0_A a0_n a0_c, .int .i64 a1, .int .i64 a2, undef, undef, undef, (g 6), (g 7), .slice s1_A s1_n s1_c, .int .i64 z2, (g 10), (g 11), (g 12), .int .i64 a1, .bool false, .bool false, .int .i64 a1, .bool false, .bool false, .bool false, .int .i64 a2, .bool false, .bool false, .bool false, .int .i64 a2, .bool false, .bool false, .bool false, .slice a0_A a0_n a0_c, .int .i64 (a0.length : Int), .int .i64 a1, .int .i64 a2, .int .i64 (iadd .i64 a1 a2), .bool false, .bool false, .int .i64 a1, .slice s1_A s1_n s1_c, .slice s1_A s1_n s1_c, .int .i64 ((List.replicate (a1 : Int).toNat (Cod.zero (CA .i32 256 (by decide)))).length : Int), .int .i64 z3, (g 40), (g 41), (g 42), (g 43), (g 44), (g 45), (g 46), (g 47), (g 48), (g 49), (g 50), (g 51), (g 52), (g 53), (g 54), (g 55), (g 56), (g 57), (g 58), (g 59), (g 60), (g 61), (g 62), (g 63), (g 64), (g 65), (g 66), (g 67), (g 68), (g 69), (g 70), (g 71), (g 72), (g 73), (g 74), (g 75), (g 76), (g 77), (g 78), (g 79), (g 80), (g 81), (g 82), (g 83), (g 84), (g 85), (g 86), undef, undef, undef, undef, undef, undef], []⟩) K ⟨0, 0, (List.replicate (a1 : Int).toNat (Cod.zero (CA .i32 256 (by decide)))), hy, hs.conv rfl, exg (by kernel_rfl)⟩ ?_
              clear hs h hy
              rintro n a w ⟨z2, z3, z4, h, hs, g, rfl⟩ KL0 kl0
              cases n with
              | zero => exact nomatch (show none = some _ from h)
              | succ n =>
                refine xseq_k fun KS965 ks965 => ?_
                refine wp_regS (l := [0]) (by kernel_rfl) (by kernel_rfl) fun KR966 kr966 => ?_
                rcases of_if h with ⟨hc, h⟩ | ⟨hc, h⟩
                · refine wpS.take 0 false (some 40) (.bool true) (by kernel_rfl) (yld_b (dt hc) (fun _ => by kernel_rfl)) ?_
                  refine wpS.fin rfl (kr966 _ _ ?_)
                  refine then_n (ks965 _ _ ?_)
                  refine xseq_k fun KS967 ks967 => ?_
                  refine wp_cond_t (by kernel_rfl) ?_
                  refine xskip ?_
                  refine then_n (ks967 _ _ ?_)
                  refine xseq_k fun KS1120 ks1120 => ?_
                  refine xblock ?_
                  refine xseq_k fun KS1121 ks1121 => ?_
                  refine wp_regS (l := [0, 1]) (by kernel_rfl) (by kernel_rfl) fun KR1122 kr1122 => ?_
                  refine wpS.take 0 false (some 41) (.int .i64 z3) (by kernel_rfl) (yld fun _ => by kernel_rfl) ?_
                  refine wpS.take 1 false (some 10) (.int .i64 z3) (by kernel_rfl) (yld fun _ => by kernel_rfl) ?_
                  refine wpS.fin rfl (kr1122 _ _ ?_)
                  refine then_n (ks1121 _ _ ?_)
                  refine xseq_k fun KS1123 ks1123 => ?_
                  refine wp_regS (l := [0, 1, 2, 3, 4, 5, 6, 7]) (by kernel_rfl) (by kernel_rfl) fun KR1124 kr1124 => ?_
                  refine wpS.take 0 false (some 42) (.slice a0_A a0_n a0_c) (by kernel_rfl) (yld fun _ => by kernel_rfl) ?_
                  refine wpS.take 1 false (some 43) (.int .i64 a2) (by kernel_rfl) (yld fun _ => by kernel_rfl) ?_
                  refine wpS.take 2 false (some 44) (.int .i64 z3) (by kernel_rfl) (yld fun _ => by kernel_rfl) ?_
                  refine wpS.take 3 false (some 45) (.int .i64 (iadd .i64 a2 z3)) (by kernel_rfl) (yld fun _ => by kernel_rfl) ?_
                  obtain ⟨x7, hx, h⟩ := of_bind h
                  have hx := of_some hx
                  subst hx
                  obtain ⟨h0, h⟩ := of_chk h
                  obtain ⟨h1, h⟩ := of_chk h
                  have i0_1125 := h0
                  have i1_1125 := h1
                  refine wpS.take 4 false (some 46) (.pointer (adr a0_A (((iadd .i64 a2 z3) : Int).toNat * Cod.size (CI .u8)))) (by kernel_rfl) (yld_idxL (C := (CI .u8)) (t := 24) (e := 5) (k := .i64) (x := (iadd .i64 a2 z3)) (hs.rowR 0 rfl) (by kernel_rfl) (by kernel_rfl) (by kernel_rfl) h0 h1) ?_
                  refine wpS.take 5 true (some 47) (.int .u8 (rdL (CI .u8) a0 (iadd .i64 a2 z3))) (by kernel_rfl) (yld_loadL (C := (CI .u8)) (e := 5) (x := (iadd .i64 a2 z3)) (hs.rowR 0 rfl) (by kernel_rfl) rfl (by kernel_rfl) i0_1125 i1_1125) ?_
                  refine wpS.take 6 false (some 48) (.int .i64 (iconv .i64 (rdL (CI .u8) a0 (iadd .i64 a2 z3)))) (by kernel_rfl) (yld fun _ => by kernel_rfl) ?_
                  obtain ⟨x8, hx, h⟩ := of_bind h
                  refine wpS.take 7 false (some 11) (.int .i64 x8) (by kernel_rfl) (yld_int hx (fun _ => by kernel_rfl)) ?_
                  refine wpS.fin rfl (kr1124 _ _ ?_)
                  refine then_n (ks1123 _ _ ?_)
                  refine xseq_k fun KS1132 ks1132 => ?_
                  refine xseq_k fun KS1133 ks1133 => ?_
                  refine wp_regS (l := [0, 1, 2, 3, 4, 5, 6, 7]) (by kernel_rfl) (by kernel_rfl) fun KR1134 kr1134 => ?_
                  refine wpS.take 0 false (some 49) (.int .i64 x8) (by kernel_rfl) (yld fun _ => by kernel_rfl) ?_
                  refine wpS.take 1 false (some 50) (.int .i64 z2) (by kernel_rfl) (yld fun _ => by kernel_rfl) ?_
                  rcases of_if h with ⟨hc, h⟩ | ⟨hc, h⟩
                  · refine wpS.take 2 false (some 51) (.bool true) (by kernel_rfl) (yld_b (dt hc) (fun _ => by kernel_rfl)) ?_
                    refine wpS.take 3 false (some 52) (.bool true) (by kernel_rfl) (yld fun _ => by kernel_rfl) ?_
                    refine wpS.take 4 false (some 53) (undef) (by kernel_rfl) (yld fun _ => by kernel_rfl) ?_
                    refine wpS.take 5 false (some 54) (undef) (by kernel_rfl) (yld fun _ => by kernel_rfl) ?_
                    refine wpS.take 6 false (some 55) (undef) (by kernel_rfl) (yld fun _ => by kernel_rfl) ?_
                    refine wpS.take 7 false (some 56) (.bool true) (by kernel_rfl) (yld fun _ => by kernel_rfl) ?_
                    refine wpS.fin rfl (kr1134 _ _ ?_)
                    refine then_n (ks1133 _ _ ?_)
                    refine wp_cond_t (by kernel_rfl) ?_
                    refine xseq_k fun KS1135 ks1135 => ?_
                    refine wp_regS (l := [0, 1]) (by kernel_rfl) (by kernel_rfl) fun KR1136 kr1136 => ?_
                    refine wpS.take 0 false (some 6) (.slice none 0 0) (by kernel_rfl) (yld fun _ => by kernel_rfl) ?_
                    refine wpS.take 1 false (some 7) (.bool false) (by kernel_rfl) (yld fun _ => by kernel_rfl) ?_
                    refine wpS.fin rfl (kr1136 _ _ ?_)
                    refine then_n (ks1135 _ _ ?_)
                    refine xret ?_
                    refine then_r ?_
                    refine inBlock_r ?_
                    refine then_r ?_
                    refine then_r ?_
                    refine inBlock_r ?_
                    refine exq_r ?_
                    refine then_r ?_
                    have q0 := of_some h
                    subst q0
                    obtain ⟨q0, qr0⟩ := Prod.mk.inj (of_some hk0)
                    have q1 := qr0
                    subst q0
                    subst q1
                    have hs := hs.addNilL (CA .i32 256 (by decide)) 40
                    exact qq _ _ (post_ret (by kernel_rfl) (run_results [.tmp 6, .tmp 7] [.slice none 0 0, .bool false] (by kernel_rfl) (.cons (res_tmp (by kernel_rfl)) (.cons (res_tmp (by kernel_rfl)) .nil))) ⟨⟨none, 0, 0⟩, congrArg Ending.returned (by kernel_rfl), (((hs.conv (L' := [.ownL (CA .i32 256 (by decide)) none 0 0 ([] : List (Arr 256)) 40, .ownL (CA .i32 256 (by decide)) s1_A s1_n s1_c z4 40]) rfl).drop (.cons_cons _ (.cons _ .slnil))).pickR pick_nil)⟩)
                  · refine wpS.take 2 false (some 51) (.bool false) (by kernel_rfl) (yld_b (df hc) (fun _ => by kernel_rfl)) ?_
                    refine wpS.take 3 false (some 52) (.bool false) (by kernel_rfl) (yld fun _ => by kernel_rfl) ?_
                    refine wpS.take 4 false (some 53) (.int .i64 x8) (by kernel_rfl) (yld fun _ => by kernel_rfl) ?_
                    refine wpS.take 5 false (some 54) (.int .i64 a2) (by kernel_rfl) (yld fun _ => by kernel_rfl) ?_
                    rcases of_if h with ⟨hc, h⟩ | ⟨hc, h⟩
                    · refine wpS.take 6 false (some 55) (.bool true) (by kernel_rfl) (yld_b (dt hc) (fun _ => by kernel_rfl)) ?_
                      refine wpS.take 7 false (some 56) (.bool true) (by kernel_rfl) (yld fun _ => by kernel_rfl) ?_
                      refine wpS.fin rfl (kr1134 _ _ ?_)
                      refine then_n (ks1133 _ _ ?_)
                      refine wp_cond_t (by kernel_rfl) ?_
                      refine xseq_k fun KS1137 ks1137 => ?_
                      refine wp_regS (l := [0, 1]) (by kernel_rfl) (by kernel_rfl) fun KR1138 kr1138 => ?_
                      refine wpS.take 0 false (some 6) (.slice none 0 0) (by kernel_rfl) (yld fun _ => by kernel_rfl) ?_
                      refine wpS.take 1 false (some 7) (.bool false) (by kernel_rfl) (yld fun _ => by kernel_rfl) ?_
                      refine wpS.fin rfl (kr1138 _ _ ?_)
                      refine then_n (ks1137 _ _ ?_)
                      refine xret ?_
                      refine then_r ?_
                      refine inBlock_r ?_
                      refine then_r ?_
                      refine then_r ?_
                      refine inBlock_r ?_
                      refine exq_r ?_
                      refine then_r ?_
                      have q0 := of_some h
                      subst q0
                      obtain ⟨q0, qr0⟩ := Prod.mk.inj (of_some hk0)
                      have q1 := qr0
                      subst q0
                      subst q1
                      have hs := hs.addNilL (CA .i32 256 (by decide)) 40
                      exact qq _ _ (post_ret (by kernel_rfl) (run_results [.tmp 6, .tmp 7] [.slice none 0 0, .bool false] (by kernel_rfl) (.cons (res_tmp (by kernel_rfl)) (.cons (res_tmp (by kernel_rfl)) .nil))) ⟨⟨none, 0, 0⟩, congrArg Ending.returned (by kernel_rfl), (((hs.conv (L' := [.ownL (CA .i32 256 (by decide)) none 0 0 ([] : List (Arr 256)) 40, .ownL (CA .i32 256 (by decide)) s1_A s1_n s1_c z4 40]) rfl).drop (.cons_cons _ (.cons _ .slnil))).pickR pick_nil)⟩)
                    · refine wpS.take 6 false (some 55) (.bool false) (by kernel_rfl) (yld_b (df hc) (fun _ => by kernel_rfl)) ?_
                      refine wpS.take 7 false (some 56) (.bool false) (by kernel_rfl) (yld fun _ => by kernel_rfl) ?_
                      refine wpS.fin rfl (kr1134 _ _ ?_)
                      refine then_n (ks1133 _ _ ?_)
                      refine wp_cond_f (by kernel_rfl) ?_
                      refine xskip ?_
                      refine then_n (ks1132 _ _ ?_)
                      refine xseq_k fun KS1139 ks1139 => ?_
                      refine wp_regS (l := [0, 1]) (by kernel_rfl) (by kernel_rfl) fun KR1140 kr1140 => ?_
                      refine wpS.take 0 false (some 57) (.int .i64 z2) (by kernel_rfl) (yld fun _ => by kernel_rfl) ?_
                      refine wpS.take 1 false (some 12) (.int .i64 z2) (by kernel_rfl) (yld fun _ => by kernel_rfl) ?_
                      refine wpS.fin rfl (kr1140 _ _ ?_)
                      refine then_n (ks1139 _ _ ?_)
                      obtain ⟨t1, hy, hk1⟩ := of_bind h
                      refine wp_exq (N := fun a w => ∃ y11 y12, t1 = .inl (y11, y12) ∧ St w0 [] [.ownL (CA .i32 256 (by decide)) s1_A s1_n s1_c y12 40] [.rowL (CI .u8) a0_A a0_n a0_c a0] w ∧ ∃ g : Nat → Value, a = ⟨#[.slice a0_A a0_n a0_c, .int .i64 a1, .int .i64 a2, undef, undef, undef, (g 6), (g 7), .slice s1_A s1_n s1_c, .int .i64 y11, .int .i64 z3, .int .i64 x8, .int .i64 z2, .int .i64 a1, .bool false, .bool false, .int .i64 a1, .bool false, .bool false, .bool false, .int .i64 a2, .bool false, .bool false, .bool false, .int .i64 a2, .bool false, .bool false, .bool false, .slice a0_A a0_n a0_c, .int .i64 (a0.length : Int), .int .i64 a1, .int .i64 a2, .int .i64 (iadd .i64 a1 a2), .bool false, .bool false, .int .i64 a1, .slice s1_A s1_n s1_c, .slice s1_A s1_n s1_c, .int .i64 ((List.replicate (a1 : Int).toNat (Cod.zero (CA .i32 256 (by decide)))).length : Int), .int .i64 z3, .bool true, .int .i64 z3, .slice a0_A a0_n a0_c, .int .i64 a2, .int .i64 z3, .int .i64 (iadd .i64 a2 z3), .pointer (adr a0_A (((iadd .i64 a2 z3) : Int).toNat * Cod.size (CI .u8))), .int .u8 (rdL (CI .u8) a0 (iadd .i64 a2 z3)), .int .i64 (iconv .i64 (rdL (CI .u8) a0 (iadd .i64 a2 z3))), .int .i64 x8, .int .i64 z2, .bool false, .bool false, .int .i64 x8, .int .i64 a2, .bool false, .bool false, .int .i64 z2, (g 58), (g 59), (g 60), (g 61), (g 62), (g 63), (g 64), (g 65), (g 66), (g 67), (g 68), (g 69), (g 70), (g 71), (g 72), (g 73), (g 74), (g 75), (g 76), (g 77), (g 78), (g 79), (g 80), (g 81), (g 82), (g 83), (g 84), (g 85), (g 86), undef, undef, undef, undef, undef, undef], []⟩) (fun N1 nn1 => ?_) ?_
                      · refine xblock ?_
                        refine wp_loop_k (fun n a w => ∃ z9 z10, dpack_Unhints.l1 K n a0 z2 z3 x8 z9 z10 = some t1 ∧ St w0 [] [.ownL (CA .i32 256 (by decide)) s1_A s1_n s1_c z10 40] [.rowL (CI .u8) a0_A a0_n a0_c a0] w ∧ ∃ g : Nat → Value, a = ⟨#[.slice a0_A a0_n a0_c, .int .i64 a1, .int .i64 a2, undef, undef, undef, (g 6), (g 7), .slice s1_A s1_n s1_c, .int .i64 z9, .int .i64 z3, .int .i64 x8, .int .i64 z2, .int .i64 a1, .bool false, .bool false, .int .i64 a1, .bool false, .bool false, .bool false, .int .i64 a2, .bool false, .bool false, .bool false, .int .i64 a2, .bool false, .bool false, .bool false, .slice a0_A a0_n a0_c, .int .i64 (a0.length : Int), .int .i64 a1, .int .i64 a2, .int .i64 (iadd .i64 a1 a2), .bool false, .bool false, .int .i64 a1, .slice s1_A s1_n s1_c, .slice s1_A s1_n s1_c, .int .i64 ((List.replicate (a1 : Int).toNat (Cod.zero (CA .i32 256 (by decide)))).length : Int), .int .i64 z3, .bool true, .int .i64 z3, .slice a0_A a0_n a0_c, .int .i64 a2, .int .i64 z3, .int .i64 (iadd .i64 a2 z3), .pointer (adr a0_A (((iadd .i64 a2 z3) : Int).toNat * Cod.size (CI .u8))), .int .u8 (rdL (CI .u8) a0 (iadd .i64 a2 z3)), .int .i64 (iconv .i64 (rdL (CI .u8) a0 (iadd .i64 a2 z3))), .int .i64 x8, .int .i64 z2, .bool false, .bool false, .int .i64 x8, .int .i64 a2, .bool false, .bool false, .int .i64 z2, (g 58), (g 59), (g 60), (g 61), (g 62), (g 63), (g 64), (g 65), (g 66), (g 67), (g 68), (g 69), (g 70), (g 71), (g 72), (g 73), (g 74), (g 75), (g 76), (g 77), (g 78), (g 79), (g 80), (g 81), (g 82), (g 83), (g 84), (g 85), (g 86), undef, undef, undef, undef, undef, undef], []⟩) K ⟨z2, z4, hy, hs.conv rfl, exg (by kernel_rfl)⟩ ?_
                        clear hs h hy
                        rintro n a w ⟨z9, z10, h, hs, g, rfl⟩ KL1 kl1
                        cases n with
                        | zero => exact nomatch (show none = some _ from h)
                        | succ n =>
                          refine xseq_k fun KS1209 ks1209 => ?_
                          refine xseq_k fun KS1210 ks1210 => ?_
                          refine wp_regS (l := [0, 1, 2]) (by kernel_rfl) (by kernel_rfl) fun KR1211 kr1211 => ?_
                          refine wpS.take 0 false (some 58) (.int .i64 z9) (by kernel_rfl) (yld fun _ => by kernel_rfl) ?_
                          refine wpS.take 1 false (some 59) (.int .i64 x8) (by kernel_rfl) (yld fun _ => by kernel_rfl) ?_
                          rcases of_if h with ⟨hc, h⟩ | ⟨hc, h⟩
                          · refine wpS.take 2 false (some 60) (.bool true) (by kernel_rfl) (yld_b (dt hc) (fun _ => by kernel_rfl)) ?_
                            refine wpS.fin rfl (kr1211 _ _ ?_)
                            refine then_n (ks1210 _ _ ?_)
                            refine wp_cond_t (by kernel_rfl) ?_
                            refine xskip ?_
                            refine then_n (ks1209 _ _ ?_)
                            refine xseq_k fun KS1241 ks1241 => ?_
                            refine xblock ?_
                            refine xseq_k fun KS1248 ks1248 => ?_
                            refine xseq_k fun KS1249 ks1249 => ?_
                            refine wp_regG [] (fun k => True) 15 (by kernel_rfl) (by kernel_rfl) (by kernel_rfl) fun KR1250 kr1250 => ?_
                            have hs := hs.drawn1
                            refine wpG.takeD 0 false (some 63) (.int .i64 z9) (by kernel_rfl) (by kernel_rfl) (yld fun _ => by kernel_rfl) ?_
                            refine wpG.takeD 1 false (some 64) (.int .i64 z2) (by kernel_rfl) (by kernel_rfl) (yld fun _ => by kernel_rfl) ?_
                            rcases of_if h with ⟨hc, h⟩ | ⟨hc, h⟩
                            · refine wpG.takeD 2 false (some 65) (.bool true) (by kernel_rfl) (by kernel_rfl) (yld_b (dt hc) (fun _ => by kernel_rfl)) ?_
                              refine wpG.takeD 3 false (some 66) (.bool true) (by kernel_rfl) (by kernel_rfl) (yld fun _ => by kernel_rfl) ?_
                              refine wpG.takeD 4 false (some 67) (.slice a0_A a0_n a0_c) (by kernel_rfl) (by kernel_rfl) (yld fun _ => by kernel_rfl) ?_
                              refine wpG.takeD 5 false (some 68) (.int .i64 z9) (by kernel_rfl) (by kernel_rfl) (yld fun _ => by kernel_rfl) ?_
                              obtain ⟨h0, h⟩ := of_chk h
                              obtain ⟨h1, h⟩ := of_chk h
                              have i0_1251 := h0
                              have i1_1251 := h1
                              refine wpG.takeD 6 false (some 69) (.pointer (adr a0_A ((z9 : Int).toNat * Cod.size (CI .u8)))) (by kernel_rfl) (by kernel_rfl) (yld_idxL (C := (CI .u8)) (t := 24) (e := 5) (k := .i64) (x := z9) (hs.rowR 0 rfl) (by kernel_rfl) (by kernel_rfl) (by kernel_rfl) h0 h1) ?_
                              refine wpG.takeD 7 true (some 70) (.int .u8 (rdL (CI .u8) a0 z9)) (by kernel_rfl) (by kernel_rfl) (yld_loadL (C := (CI .u8)) (e := 5) (x := z9) (hs.rowR 0 rfl) (by kernel_rfl) rfl (by kernel_rfl) i0_1251 i1_1251) ?_
                              refine wpG.takeD 8 false (some 71) (.slice a0_A a0_n a0_c) (by kernel_rfl) (by kernel_rfl) (yld fun _ => by kernel_rfl) ?_
                              refine wpG.takeD 9 false (some 72) (.int .i64 z9) (by kernel_rfl) (by kernel_rfl) (yld fun _ => by kernel_rfl) ?_
                              refine wpG.takeD 10 false (some 73) (.int .i64 (isub .i64 z9 1)) (by kernel_rfl) (by kernel_rfl) (yld fun _ => by kernel_rfl) ?_
                              obtain ⟨x13, hx, h⟩ := of_bind h
                              have hx := of_some hx
                              subst hx
                              obtain ⟨h0, h⟩ := of_chk h
                              obtain ⟨h1, h⟩ := of_chk h
                              have i0_1252 := h0
                              have i1_1252 := h1
                              refine wpG.takeD 11 false (some 74) (.pointer (adr a0_A (((isub .i64 z9 1) : Int).toNat * Cod.size (CI .u8)))) (by kernel_rfl) (by kernel_rfl) (yld_idxL (C := (CI .u8)) (t := 24) (e := 5) (k := .i64) (x := (isub .i64 z9 1)) (hs.rowR 0 rfl) (by kernel_rfl) (by kernel_rfl) (by kernel_rfl) h0 h1) ?_
                              refine wpG.takeD 12 true (some 75) (.int .u8 (rdL (CI .u8) a0 (isub .i64 z9 1))) (by kernel_rfl) (by kernel_rfl) (yld_loadL (C := (CI .u8)) (e := 5) (x := (isub .i64 z9 1)) (hs.rowR 0 rfl) (by kernel_rfl) rfl (by kernel_rfl) i0_1252 i1_1252) ?_
                              rcases of_if h with ⟨hc, h⟩ | ⟨hc, h⟩
                              · refine wpG.takeD 13 false (some 76) (.bool true) (by kernel_rfl) (by kernel_rfl) (yld_b (dt hc) (fun _ => by kernel_rfl)) ?_
                                refine wpG.takeD 14 false (some 77) (.bool true) (by kernel_rfl) (by kernel_rfl) (yld fun _ => by kernel_rfl) ?_
                                refine wpG.fin (by kernel_rfl) rfl (kr1250 _ _ ?_)
                                refine then_n (ks1249 _ _ ?_)
                                refine wp_cond_t (by kernel_rfl) ?_
                                refine xseq_k fun KS1253 ks1253 => ?_
                                refine wp_regS (l := [0, 1]) (by kernel_rfl) (by kernel_rfl) fun KR1254 kr1254 => ?_
                                refine wpS.take 0 false (some 6) (.slice none 0 0) (by kernel_rfl) (yld fun _ => by kernel_rfl) ?_
                                refine wpS.take 1 false (some 7) (.bool false) (by kernel_rfl) (yld fun _ => by kernel_rfl) ?_
                                refine wpS.fin rfl (kr1254 _ _ ?_)
                                refine then_n (ks1253 _ _ ?_)
                                refine xret ?_
                                refine then_r ?_
                                refine inBlock_r ?_
                                refine then_r ?_
                                refine then_r ?_
                                refine inBlock_r ?_
                                refine exq_r ?_
                                refine inBlock_r ?_
                                refine then_r ?_
                                refine then_r ?_
                                refine inBlock_r ?_
                                refine exq_r ?_
                                refine then_r ?_
                                have q0 := of_some h
                                subst q0
                                have q0 := of_some hk1
                                subst q0
                                obtain ⟨q0, qr0⟩ := Prod.mk.inj (of_some hk0)
                                have q1 := qr0
                                subst q0
                                subst q1
                                have hs := hs.addNilL (CA .i32 256 (by decide)) 40
                                exact qq _ _ (post_ret (by kernel_rfl) (run_results [.tmp 6, .tmp 7] [.slice none 0 0, .bool false] (by kernel_rfl) (.cons (res_tmp (by kernel_rfl)) (.cons (res_tmp (by kernel_rfl)) .nil))) ⟨⟨none, 0, 0⟩, congrArg Ending.returned (by kernel_rfl), (((hs.conv (L' := [.ownL (CA .i32 256 (by decide)) none 0 0 ([] : List (Arr 256)) 40, .ownL (CA .i32 256 (by decide)) s1_A s1_n s1_c z10 40]) rfl).drop (.cons_cons _ (.cons _ .slnil))).pickR pick_nil)⟩)
                              · refine wpG.takeD 13 false (some 76) (.bool false) (by kernel_rfl) (by kernel_rfl) (yld_b (df hc) (fun _ => by kernel_rfl)) ?_
                                refine wpG.takeD 14 false (some 77) (.bool false) (by kernel_rfl) (by kernel_rfl) (yld fun _ => by kernel_rfl) ?_
                                refine wpG.fin (by kernel_rfl) rfl (kr1250 _ _ ?_)
                                refine then_n (ks1249 _ _ ?_)
                                refine wp_cond_f (by kernel_rfl) ?_
                                refine xskip ?_
                                refine then_n (ks1248 _ _ ?_)
                                refine wp_regG [8] (fun k => True) 9 (by kernel_rfl) (by kernel_rfl) (by kernel_rfl) fun KR1255 kr1255 => ?_
                                have hs := hs.drawn1
                                refine wpG.takeD 0 false (some 78) (.slice s1_A s1_n s1_c) (by kernel_rfl) (by kernel_rfl) (yld fun _ => by kernel_rfl) ?_
                                refine wpG.takeD 1 false (some 79) (.int .i64 z3) (by kernel_rfl) (by kernel_rfl) (yld fun _ => by kernel_rfl) ?_
                                refine wpG.takeD 2 false (some 80) (.slice a0_A a0_n a0_c) (by kernel_rfl) (by kernel_rfl) (yld fun _ => by kernel_rfl) ?_
                                refine wpG.takeD 3 false (some 81) (.int .i64 z9) (by kernel_rfl) (by kernel_rfl) (yld fun _ => by kernel_rfl) ?_
                                obtain ⟨h0, h⟩ := of_chk h
                                obtain ⟨h1, h⟩ := of_chk h
                                have i0_1260 := h0
                                have i1_1260 := h1
                                refine wpG.takeD 4 false (some 82) (.pointer (adr a0_A ((z9 : Int).toNat * Cod.size (CI .u8)))) (by kernel_rfl) (by kernel_rfl) (yld_idxL (C := (CI .u8)) (t := 24) (e := 5) (k := .i64) (x := z9) (hs.rowR 0 rfl) (by kernel_rfl) (by kernel_rfl) (by kernel_rfl) h0 h1) ?_
                                refine wpG.takeD 5 true (some 83) (.int .u8 (rdL (CI .u8) a0 z9)) (by kernel_rfl) (by kernel_rfl) (yld_loadL (C := (CI .u8)) (e := 5) (x := z9) (hs.rowR 0 rfl) (by kernel_rfl) rfl (by kernel_rfl) i0_1260 i1_1260) ?_
                                obtain ⟨h0, h⟩ := of_chk h
                                obtain ⟨h1, h⟩ := of_chk h
                                have i0_1261 := h0
                                have i1_1261 := h1
                                refine wpG.takeD 6 false (some 84) (.pointer (adr s1_A ((z3 : Int).toNat * Cod.size (CA .i32 256 (by decide))))) (by kernel_rfl) (by kernel_rfl) (yld_idxL (C := (CA .i32 256 (by decide))) (t := 25) (e := 40) (k := .i64) (x := z3) (hs.rowL 0 rfl) (by kernel_rfl) (by kernel_rfl) (by kernel_rfl) h0 h1) ?_
                                obtain ⟨x14, hx, h⟩ := of_bind h
                                have hx := of_some hx
                                subst hx
                                obtain ⟨h0, h⟩ := of_chk h
                                obtain ⟨h1, h⟩ := of_chk h
                                have j0_1262 := h0
                                have j1_1262 := h1
                                refine wpG.takeD 7 false (some 85) (.pointer (adr s1_A ((z3 : Int).toNat * Cod.size (CA .i32 256 (by decide)) + ((rdL (CI .u8) a0 z9) : Int).toNat * 1))) (by kernel_rfl) (by kernel_rfl) (yld_idxLA (t := 40) (e := 21) (k' := .u8) (x := z3) (y := (rdL (CI .u8) a0 z9)) (hs.rowL 0 rfl) (by kernel_rfl) (by kernel_rfl) (by kernel_rfl) i0_1261 i1_1261 h0 h1) ?_
                                refine wpG.only 8 (by kernel_rfl) (op_storeLE (t := 21) (x := z3) (y := (rdL (CI .u8) a0 z9)) (v := 1) (d := none) (by kernel_rfl) hs 0 rfl (by kernel_rfl /-v-/) (by kernel_rfl) i0_1261 i1_1261 j0_1262 j1_1262 ?_)
                                intro w hs
                                refine ⟨⟨fun hf => absurd hf (by decide), .all _ _⟩, ?_⟩
                                refine wpG.fin (by kernel_rfl) rfl (kr1255 _ _ ?_)
                                refine inBlock_n ?_
                                refine then_n (ks1241 _ _ ?_)
                                refine wp_regS (l := [0, 1, 2]) (by kernel_rfl) (by kernel_rfl) fun KR1263 kr1263 => ?_
                                refine wpS.take 0 false (some 61) (.int .i64 z9) (by kernel_rfl) (yld fun _ => by kernel_rfl) ?_
                                refine wpS.take 1 false (some 62) (.int .i64 (iadd .i64 z9 1)) (by kernel_rfl) (yld fun _ => by kernel_rfl) ?_
                                obtain ⟨x15, hx, h⟩ := of_bind h
                                refine wpS.take 2 false (some 9) (.int .i64 x15) (by kernel_rfl) (yld_int hx (fun _ => by kernel_rfl)) ?_
                                refine wpS.fin rfl (kr1263 _ _ ?_)
                                exact then_n (kl1 _ _ ⟨n, Nat.lt_succ_self n, x15, (wrL z10 z3 (wr (rdL (CA .i32 256 (by decide)) z10 z3) (rdL (CI .u8) a0 z9) 1)), h, (hs.conv rfl), exg (by kernel_rfl)⟩)
                            · refine wpG.takeD 2 false (some 65) (.bool false) (by kernel_rfl) (by kernel_rfl) (yld_b (df hc) (fun _ => by kernel_rfl)) ?_
                              refine wpG.takeD 3 false (some 66) (.bool false) (by kernel_rfl) (by kernel_rfl) (yld fun _ => by kernel_rfl) ?_
                              refine wpG.takeD 4 false (some 67) (undef) (by kernel_rfl) (by kernel_rfl) (yld fun _ => by kernel_rfl) ?_
                              refine wpG.takeD 5 false (some 68) (undef) (by kernel_rfl) (by kernel_rfl) (yld fun _ => by kernel_rfl) ?_
                              refine wpG.takeD 6 false (some 69) (undef) (by kernel_rfl) (by kernel_rfl) (yld fun _ => by kernel_rfl) ?_
                              refine wpG.takeD 7 false (some 70) (undef) (by kernel_rfl) (by kernel_rfl) (yld fun _ => by kernel_rfl) ?_
                              refine wpG.takeD 8 false (some 71) (undef) (by kernel_rfl) (by kernel_rfl) (yld fun _ => by kernel_rfl) ?_
                              refine wpG.takeD 9 false (some 72) (undef) (by kernel_rfl) (by kernel_rfl) (yld fun _ => by kernel_rfl) ?_
                              refine wpG.takeD 10 false (some 73) (undef) (by kernel_rfl) (by kernel_rfl) (yld fun _ => by kernel_rfl) ?_
                              refine wpG.takeD 11 false (some 74) (undef) (by kernel_rfl) (by kernel_rfl) (yld fun _ => by kernel_rfl) ?_
                              refine wpG.takeD 12 false (some 75) (undef) (by kernel_rfl) (by kernel_rfl) (yld fun _ => by kernel_rfl) ?_
                              refine wpG.takeD 13 false (some 76) (undef) (by kernel_rfl) (by kernel_rfl) (yld fun _ => by kernel_rfl) ?_
                              refine wpG.takeD 14 false (some 77) (.bool false) (by kernel_rfl) (by kernel_rfl) (yld fun _ => by kernel_rfl) ?_
                              refine wpG.fin (by kernel_rfl) rfl (kr1250 _ _ ?_)
                              refine then_n (ks1249 _ _ ?_)
                              refine wp_cond_f (by kernel_rfl) ?_
                              refine xskip ?_
                              refine then_n (ks1248 _ _ ?_)
                              refine wp_regG [8] (fun k => True) 9 (by kernel_rfl) (by kernel_rfl) (by kernel_rfl) fun KR1264 kr1264 => ?_
                              have hs := hs.drawn1
                              refine wpG.takeD 0 false (some 78) (.slice s1_A s1_n s1_c) (by kernel_rfl) (by kernel_rfl) (yld fun _ => by kernel_rfl) ?_
                              refine wpG.takeD 1 false (some 79) (.int .i64 z3) (by kernel_rfl) (by kernel_rfl) (yld fun _ => by kernel_rfl) ?_
                              refine wpG.takeD 2 false (some 80) (.slice a0_A a0_n a0_c) (by kernel_rfl) (by kernel_rfl) (yld fun _ => by kernel_rfl) ?_
                              refine wpG.takeD 3 false (some 81) (.int .i64 z9) (by kernel_rfl) (by kernel_rfl) (yld fun _ => by kernel_rfl) ?_
                              obtain ⟨h0, h⟩ := of_chk h
                              obtain ⟨h1, h⟩ := of_chk h
                              have i0_1269 := h0
                              have i1_1269 := h1
                              refine wpG.takeD 4 false (some 82) (.pointer (adr a0_A ((z9 : Int).toNat * Cod.size (CI .u8)))) (by kernel_rfl) (by kernel_rfl) (yld_idxL (C := (CI .u8)) (t := 24) (e := 5) (k := .i64) (x := z9) (hs.rowR 0 rfl) (by kernel_rfl) (by kernel_rfl) (by kernel_rfl) h0 h1) ?_
                              refine wpG.takeD 5 true (some 83) (.int .u8 (rdL (CI .u8) a0 z9)) (by kernel_rfl) (by kernel_rfl) (yld_loadL (C := (CI .u8)) (e := 5) (x := z9) (hs.rowR 0 rfl) (by kernel_rfl) rfl (by kernel_rfl) i0_1269 i1_1269) ?_
                              obtain ⟨h0, h⟩ := of_chk h
                              obtain ⟨h1, h⟩ := of_chk h
                              have i0_1270 := h0
                              have i1_1270 := h1
                              refine wpG.takeD 6 false (some 84) (.pointer (adr s1_A ((z3 : Int).toNat * Cod.size (CA .i32 256 (by decide))))) (by kernel_rfl) (by kernel_rfl) (yld_idxL (C := (CA .i32 256 (by decide))) (t := 25) (e := 40) (k := .i64) (x := z3) (hs.rowL 0 rfl) (by kernel_rfl) (by kernel_rfl) (by kernel_rfl) h0 h1) ?_
                              obtain ⟨x16, hx, h⟩ := of_bind h
                              have hx := of_some hx
                              subst hx
                              obtain ⟨h0, h⟩ := of_chk h
                              obtain ⟨h1, h⟩ := of_chk h
                              have j0_1271 := h0
                              have j1_1271 := h1
                              refine wpG.takeD 7 false (some 85) (.pointer (adr s1_A ((z3 : Int).toNat * Cod.size (CA .i32 256 (by decide)) + ((rdL (CI .u8) a0 z9) : Int).toNat * 1))) (by kernel_rfl) (by kernel_rfl) (yld_idxLA (t := 40) (e := 21) (k' := .u8) (x := z3) (y := (rdL (CI .u8) a0 z9)) (hs.rowL 0 rfl) (by kernel_rfl) (by kernel_rfl) (by kernel_rfl) i0_1270 i1_1270 h0 h1) ?_
                              refine wpG.only 8 (by kernel_rfl) (op_storeLE (t := 21) (x := z3) (y := (rdL (CI .u8) a0 z9)) (v := 1) (d := none) (by kernel_rfl) hs 0 rfl (by kernel_rfl /-v-/) (by kernel_rfl) i0_1270 i1_1270 j0_1271 j1_1271 ?_)
                              intro w hs
                              refine ⟨⟨fun hf => absurd hf (by decide), .all _ _⟩, ?_⟩
                              refine wpG.fin (by kernel_rfl) rfl (kr1264 _ _ ?_)
                              refine inBlock_n ?_
                              refine then_n (ks1241 _ _ ?_)
                              refine wp_regS (l := [0, 1, 2]) (by kernel_rfl) (by kernel_rfl) fun KR1272 kr1272 => ?_
                              refine wpS.take 0 false (some 61) (.int .i64 z9) (by kernel_rfl) (yld fun _ => by kernel_rfl) ?_
                              refine wpS.take 1 false (some 62) (.int .i64 (iadd .i64 z9 1)) (by kernel_rfl) (yld fun _ => by kernel_rfl) ?_
                              obtain ⟨x17, hx, h⟩ := of_bind h
                              refine wpS.take 2 false (some 9) (.int .i64 x17) (by kernel_rfl) (yld_int hx (fun _ => by kernel_rfl)) ?_
                              refine wpS.fin rfl (kr1272 _ _ ?_)
                              exact then_n (kl1 _ _ ⟨n, Nat.lt_succ_self n, x17, (wrL z10 z3 (wr (rdL (CA .i32 256 (by decide)) z10 z3) (rdL (CI .u8) a0 z9) 1)), h, (hs.conv rfl), exg (by kernel_rfl)⟩)
                          · refine wpS.take 2 false (some 60) (.bool false) (by kernel_rfl) (yld_b (df hc) (fun _ => by kernel_rfl)) ?_
                            refine wpS.fin rfl (kr1211 _ _ ?_)
                            refine then_n (ks1210 _ _ ?_)
                            refine wp_cond_f (by kernel_rfl) ?_
                            refine xexit ?_
                            refine then_x ?_
                            refine then_x ?_
                            refine inBlock_hit ?_
                            have q0 := of_some h
                            subst q0
                            exact exq_n (nn1 _ _ ⟨z9, z10, rfl, (hs.conv rfl), exg (by kernel_rfl)⟩)
                      · clear hs h hy
                        rintro a w ⟨y11, y12, rfl, hs, g, rfl⟩
                        have h := hk1
                        refine inBlock_n ?_
                        refine then_n (ks1120 _ _ ?_)
                        refine wp_regS (l := [0, 1]) (by kernel_rfl) (by kernel_rfl) fun KR1273 kr1273 => ?_
                        refine wpS.take 0 false (some 86) (.int .i64 (iadd .i64 z3 1)) (by kernel_rfl) (yld fun _ => by kernel_rfl) ?_
                        refine wpS.take 1 false (some 39) (.int .i64 (iadd .i64 z3 1)) (by kernel_rfl) (yld fun _ => by kernel_rfl) ?_
                        refine wpS.fin rfl (kr1273 _ _ ?_)
                        exact then_n (kl0 _ _ ⟨n, Nat.lt_succ_self n, y11, (iadd .i64 z3 1), y12, h, (hs.conv rfl), exg (by kernel_rfl)⟩)
                · refine wpS.take 0 false (some 40) (.bool false) (by kernel_rfl) (yld_b (df hc) (fun _ => by kernel_rfl)) ?_
                  refine wpS.fin rfl (kr966 _ _ ?_)
                  refine then_n (ks965 _ _ ?_)
                  refine xseq_k fun KS1274 ks1274 => ?_
                  refine wp_cond_f (by kernel_rfl) ?_
                  refine xexit ?_
                  refine then_x ?_
                  refine then_x ?_
                  refine inBlock_hit ?_
                  have q0 := of_some h
                  subst q0
                  exact exq_n (nn0 _ _ ⟨z2, z4, rfl, (hs.conv rfl), exg (by kernel_rfl)⟩)
            · clear hs h hy
              rintro a w ⟨y5, y6, rfl, hs, g, rfl⟩
              have h := hk0
              refine then_n (ks652 _ _ ?_)
              refine xseq_k fun KS1934 ks1934 => ?_
              refine xseq_k fun KS1935 ks1935 => ?_
              refine wp_regS (l := [0, 1, 2, 3, 4]) (by kernel_rfl) (by kernel_rfl) fun KR1936 kr1936 => ?_
              refine wpS.take 0 false (some 87) (.slice a0_A a0_n a0_c) (by kernel_rfl) (yld fun _ => by kernel_rfl) ?_
              refine wpS.take 1 false (some 88) (.int .i64 y5) (by kernel_rfl) (yld fun _ => by kernel_rfl) ?_
              refine wpS.take 2 false (some 89) (.int .i64 a2) (by kernel_rfl) (yld fun _ => by kernel_rfl) ?_
              obtain ⟨h0, h⟩ := of_chk h
              obtain ⟨h1, h⟩ := of_chk h
              obtain ⟨h2, h⟩ := of_chk h
              obtain ⟨s18_A, hA⟩ : ∃ A, A = if a0_c = (y5 : Int).toNat then a0_A else adr a0_A ((y5 : Int).toNat * Cod.size (CI .u8)) := ⟨_, rfl⟩
              obtain ⟨s18_n, hn⟩ : ∃ n, n = (a2 : Int).toNat - (y5 : Int).toNat := ⟨_, rfl⟩
              obtain ⟨s18_c, hc⟩ : ∃ c, c = a0_c - (y5 : Int).toNat := ⟨_, rfl⟩
              refine wpS.take 3 false (some 90) (.slice s18_A s18_n s18_c) (by kernel_rfl) (yld_sub (C := (CI .u8)) (t := 24) (e := 5) (low := some (.int .i64 y5)) (high := some (.int .i64 a2)) (lo := y5) (hi := a2) (hs.rowR 0 rfl) (by kernel_rfl) (by kernel_rfl) (by kernel_rfl) (.inr ⟨_, rfl⟩) (.inr ⟨_, rfl⟩) h0 h1 h2 hA hn hc) ?_
              have hs := hs.addSub (C := (CI .u8)) 0 rfl h0 h1 h2 hA hn hc
              obtain ⟨y19, hj, h⟩ := of_bind h
              refine wpS.only 4 (op_inlineJ (d := (some 91)) (f := 54) (args := #[.slice s18_A s18_n s18_c, .func (.func 55) #[] #[]]) (by kernel_rfl) (fun _ => by kernel_rfl) (N := fun v w => v = .bool y19 ∧ St w0 [] [.ownL (CA .i32 256 (by decide)) s1_A s1_n s1_c y6 40] [.rowL (CI .u8) s18_A s18_n s18_c (subL a0 y5 a2), .rowL (CI .u8) a0_A a0_n a0_c a0] w) (fun R1937 kI1937 => ?_) ?_)
              · clear h
                have h := hj
                refine calls_k Try.func54 rfl fun Q1937 qq1937 => ?_
                refine wp_conv (a' := ⟨#[.slice s18_A s18_n s18_c, .func (.func 55) #[] #[], undef, undef, undef, undef, undef, undef, undef], []⟩) (by kernel_rfl) ?_
                refine xseq_k fun KS2265 ks2265 => ?_
                refine wp_regS (l := [0]) (by kernel_rfl) (by kernel_rfl) fun KR2266 kr2266 => ?_
                refine wpS.take 0 false (some 4) (.bool false) (by kernel_rfl) (yld fun _ => by kernel_rfl) ?_
                refine wpS.fin rfl (kr2266 _ _ ?_)
                refine then_n (ks2265 _ _ ?_)
                refine xseq_k fun KS2267 ks2267 => ?_
                refine wp_regS (l := [0, 1, 2, 3, 4]) (by kernel_rfl) (by kernel_rfl) fun KR2268 kr2268 => ?_
                refine wpS.take 0 false (some 5) (.slice s18_A s18_n s18_c) (by kernel_rfl) (yld fun _ => by kernel_rfl) ?_
                refine wpS.take 1 false (some 6) (.func (.func 55) #[] #[]) (by kernel_rfl) (yld fun _ => by kernel_rfl) ?_
                obtain ⟨y20, hj, h⟩ := of_bind h
                refine wpS.only 2 (op_inlineJ (d := (some 7)) (f := 69) (args := #[.slice s18_A s18_n s18_c, .func (.func 55) #[] #[]]) (by kernel_rfl) (fun _ => by kernel_rfl) (N := fun v w => v = .int .i64 y20 ∧ St w0 [] [.ownL (CA .i32 256 (by decide)) s1_A s1_n s1_c y6 40] [.rowL (CI .u8) s18_A s18_n s18_c (subL a0 y5 a2), .rowL (CI .u8) a0_A a0_n a0_c a0] w) (fun R2269 kI2269 => ?_) ?_)
                · clear h
                  have h := hj
                  refine calls_k Try.func69 rfl fun Q2269 qq2269 => ?_
                  refine wp_conv (a' := ⟨#[.slice s18_A s18_n s18_c, .func (.func 55) #[] #[], undef, undef, undef, undef, undef, undef, undef, undef, undef, undef, undef, undef, undef, undef, undef, undef, undef], []⟩) (by kernel_rfl) ?_
                  refine xseq_k fun KS2431 ks2431 => ?_
                  refine wp_regS (l := [0]) (by kernel_rfl) (by kernel_rfl) fun KR2432 kr2432 => ?_
                  refine wpS.take 0 false (some 4) (.int .i64 0) (by kernel_rfl) (yld fun _ => by kernel_rfl) ?_
                  refine wpS.fin rfl (kr2432 _ _ ?_)
                  refine then_n (ks2431 _ _ ?_)
                  refine xseq_k fun KS2511 ks2511 => ?_
                  refine xseq_k fun KS2512 ks2512 => ?_
                  refine wp_regS (l := [0, 1, 2]) (by kernel_rfl) (by kernel_rfl) fun KR2513 kr2513 => ?_
                  refine wpS.take 0 false (some 6) (.slice s18_A s18_n s18_c) (by kernel_rfl) (yld fun _ => by kernel_rfl) ?_
                  refine wpS.take 1 false (some 7) (.int .i64 ((subL a0 y5 a2).length : Int)) (by kernel_rfl) (yld_lenL (hs.rowR 0 rfl) (fun _ => by kernel_rfl)) ?_
                  refine wpS.take 2 false (some 8) (.int .i64 0) (by kernel_rfl) (yld fun _ => by kernel_rfl) ?_
                  refine wpS.fin rfl (kr2513 _ _ ?_)
                  refine then_n (ks2512 _ _ ?_)
                  obtain ⟨t2, hy, hk2⟩ := of_bind h
                  refine wp_exq (N := fun a w => t2 = .inl () ∧ St w0 [] [.ownL (CA .i32 256 (by decide)) s1_A s1_n s1_c y6 40] [.rowL (CI .u8) s18_A s18_n s18_c (subL a0 y5 a2), .rowL (CI .u8) a0_A a0_n a0_c a0] w ∧ ∃ g : Nat → Value, a = ⟨#[.slice s18_A s18_n s18_c, .func (.func 55) #[] #[], undef, undef, (g 4), (g 5), .slice s18_A s18_n s18_c, .int .i64 ((subL a0 y5 a2).length : Int), (g 8), (g 9), (g 10), (g 11), (g 12), (g 13), (g 14), (g 15), (g 16), (g 17), (g 18)], []⟩) (fun N2 nn2 => ?_) ?_
                  · refine xblock ?_
                    refine wp_loop_k (fun n a w => ∃ z21, dpack_Unhints.l2 K n a0 a2 y5 z21 = some t2 ∧ St w0 [] [.ownL (CA .i32 256 (by decide)) s1_A s1_n s1_c y6 40] [.rowL (CI .u8) s18_A s18_n s18_c (subL a0 y5 a2), .rowL (CI .u8) a0_A a0_n a0_c a0] w ∧ ∃ g : Nat → Value, a = ⟨#[.slice s18_A s18_n s18_c, .func (.func 55) #[] #[], undef, undef, (g 4), (g 5), .slice s18_A s18_n s18_c, .int .i64 ((subL a0 y5 a2).length : Int), .int .i64 z21, (g 9), (g 10), (g 11), (g 12), (g 13), (g 14), (g 15), (g 16), (g 17), (g 18)], []⟩) K ⟨0, hy, hs.conv rfl, exg (by kernel_rfl)⟩ ?_
                    clear hs h hy
                    rintro n a w ⟨z21, h, hs, g, rfl⟩ KL2 kl2
                    cases n with
                    | zero => exact nomatch (show none = some _ from h)
                    | succ n =>
                      refine xseq_k fun KS2552 ks2552 => ?_
                      refine wp_regS (l := [0]) (by kernel_rfl) (by kernel_rfl) fun KR2553 kr2553 => ?_
                      rcases of_if h with ⟨hc, h⟩ | ⟨hc, h⟩
                      · refine wpS.take 0 false (some 9) (.bool true) (by kernel_rfl) (yld_b (dt hc) (fun _ => by kernel_rfl)) ?_
                        refine wpS.fin rfl (kr2553 _ _ ?_)
                        refine then_n (ks2552 _ _ ?_)
                        refine xseq_k fun KS2554 ks2554 => ?_
                        refine wp_cond_t (by kernel_rfl) ?_
                        refine xskip ?_
                        refine then_n (ks2554 _ _ ?_)
                        refine xseq_k fun KS2571 ks2571 => ?_
                        refine xblock ?_
                        refine xseq_k fun KS2572 ks2572 => ?_
                        refine wp_regS (l := [0, 1]) (by kernel_rfl) (by kernel_rfl) fun KR2573 kr2573 => ?_
                        refine wpS.take 0 false (some 10) (.int .i64 z21) (by kernel_rfl) (yld fun _ => by kernel_rfl) ?_
                        refine wpS.take 1 false (some 5) (.int .i64 z21) (by kernel_rfl) (yld fun _ => by kernel_rfl) ?_
                        refine wpS.fin rfl (kr2573 _ _ ?_)
                        refine then_n (ks2572 _ _ ?_)
                        refine xseq_k fun KS2574 ks2574 => ?_
                        refine wp_regS (l := [0, 1, 2, 3, 4, 5]) (by kernel_rfl) (by kernel_rfl) fun KR2575 kr2575 => ?_
                        refine wpS.take 0 false (some 11) (.func (.func 55) #[] #[]) (by kernel_rfl) (yld fun _ => by kernel_rfl) ?_
                        refine wpS.take 1 false (some 12) (.slice s18_A s18_n s18_c) (by kernel_rfl) (yld fun _ => by kernel_rfl) ?_
                        refine wpS.take 2 false (some 13) (.int .i64 z21) (by kernel_rfl) (yld fun _ => by kernel_rfl) ?_
                        obtain ⟨h0, h⟩ := of_chk h
                        obtain ⟨h1, h⟩ := of_chk h
                        have i0_2576 := h0
                        have i1_2576 := h1
                        refine wpS.take 3 false (some 14) (.pointer (adr s18_A ((z21 : Int).toNat * Cod.size (CI .u8)))) (by kernel_rfl) (yld_idxL (C := (CI .u8)) (t := 24) (e := 5) (k := .i64) (x := z21) (hs.rowR 0 rfl) (by kernel_rfl) (by kernel_rfl) (by kernel_rfl) h0 h1) ?_
                        refine wpS.take 4 true (some 15) (.int .u8 (rdL (CI .u8) (subL a0 y5 a2) z21)) (by kernel_rfl) (yld_loadL (C := (CI .u8)) (e := 5) (x := z21) (hs.rowR 0 rfl) (by kernel_rfl) rfl (by kernel_rfl) i0_2576 i1_2576) ?_
                        obtain ⟨y22, hj, h⟩ := of_bind h
                        refine wpS.only 5 (op_inlineJ (d := (some 16)) (f := 55) (args := #[.int .u8 (rdL (CI .u8) (subL a0 y5 a2) z21)]) (by kernel_rfl) (fun _ => by kernel_rfl) (N := fun v w => v = .bool y22 ∧ St w0 [] [.ownL (CA .i32 256 (by decide)) s1_A s1_n s1_c y6 40] [.rowL (CI .u8) s18_A s18_n s18_c (subL a0 y5 a2), .rowL (CI .u8) a0_A a0_n a0_c a0] w) (fun R2577 kI2577 => ?_) ?_)
                        · clear h
                          have h := hj
                          refine calls_k Try.func55 rfl fun Q2577 qq2577 => ?_
                          refine wp_conv (a' := ⟨#[.int .u8 (rdL (CI .u8) (subL a0 y5 a2) z21), undef, undef, undef, undef], []⟩) (by kernel_rfl) ?_
                          refine xseq_k fun KS2582 ks2582 => ?_
                          refine wp_regS (l := [0]) (by kernel_rfl) (by kernel_rfl) fun KR2583 kr2583 => ?_
                          refine wpS.take 0 false (some 2) (.bool false) (by kernel_rfl) (yld fun _ => by kernel_rfl) ?_
                          refine wpS.fin rfl (kr2583 _ _ ?_)
                          refine then_n (ks2582 _ _ ?_)
                          refine xseq_k fun KS2584 ks2584 => ?_
                          refine wp_regS (l := [0, 1, 2]) (by kernel_rfl) (by kernel_rfl) fun KR2585 kr2585 => ?_
                          refine wpS.take 0 false (some 3) (.int .u8 (rdL (CI .u8) (subL a0 y5 a2) z21)) (by kernel_rfl) (yld fun _ => by kernel_rfl) ?_
                          refine wpS.take 1 false (some 4) (.bool ((rdL (CI .u8) (subL a0 y5 a2) z21) != 0)) (by kernel_rfl) (yld fun _ => by kernel_rfl) ?_
                          refine wpS.take 2 false (some 2) (.bool ((rdL (CI .u8) (subL a0 y5 a2) z21) != 0)) (by kernel_rfl) (yld fun _ => by kernel_rfl) ?_
                          refine wpS.fin rfl (kr2585 _ _ ?_)
                          refine then_n (ks2584 _ _ ?_)
                          refine xret ?_
                          have q0 := of_some h
                          subst q0
                          exact qq2577 _ _ (post_ret (by kernel_rfl) (run_results [.tmp 2] [.bool ((rdL (CI .u8) (subL a0 y5 a2) z21) != 0)] (by kernel_rfl) (.cons (res_tmp (by kernel_rfl)) .nil)) (kI2577 _ _ ⟨rfl, (hs.conv rfl)⟩))
                        · clear hj hs
                          rintro v w ⟨rfl, hs⟩
                          refine ⟨fun _ => trivial, ?_⟩
                          cases y22 with
                          | true =>
                            have h := of_if_t h
                            refine wpS.fin rfl (kr2575 _ _ ?_)
                            refine then_n (ks2574 _ _ ?_)
                            refine wp_cond_t (by kernel_rfl) ?_
                            refine xseq_k fun KS2586 ks2586 => ?_
                            refine wp_regS (l := [0, 1]) (by kernel_rfl) (by kernel_rfl) fun KR2587 kr2587 => ?_
                            refine wpS.take 0 false (some 17) (.int .i64 z21) (by kernel_rfl) (yld fun _ => by kernel_rfl) ?_
                            refine wpS.take 1 false (some 4) (.int .i64 z21) (by kernel_rfl) (yld fun _ => by kernel_rfl) ?_
                            refine wpS.fin rfl (kr2587 _ _ ?_)
                            refine then_n (ks2586 _ _ ?_)
                            refine xret ?_
                            refine inBlock_r ?_
                            refine then_r ?_
                            refine then_r ?_
                            refine inBlock_r ?_
                            refine exq_r ?_
                            refine then_r ?_
                            have q0 := of_some h
                            subst q0
                            have q0 := of_some hk2
                            subst q0
                            exact qq2269 _ _ (post_ret (by kernel_rfl) (run_results [.tmp 4] [.int .i64 z21] (by kernel_rfl) (.cons (res_tmp (by kernel_rfl)) .nil)) (kI2269 _ _ ⟨rfl, (hs.conv rfl)⟩))
                          | false =>
                            have h := of_if_f h
                            refine wpS.fin rfl (kr2575 _ _ ?_)
                            refine then_n (ks2574 _ _ ?_)
                            refine wp_cond_f (by kernel_rfl) ?_
                            refine xskip ?_
                            refine inBlock_n ?_
                            refine then_n (ks2571 _ _ ?_)
                            refine wp_regS (l := [0, 1]) (by kernel_rfl) (by kernel_rfl) fun KR2588 kr2588 => ?_
                            refine wpS.take 0 false (some 18) (.int .i64 (iadd .i64 z21 1)) (by kernel_rfl) (yld fun _ => by kernel_rfl) ?_
                            refine wpS.take 1 false (some 8) (.int .i64 (iadd .i64 z21 1)) (by kernel_rfl) (yld fun _ => by kernel_rfl) ?_
                            refine wpS.fin rfl (kr2588 _ _ ?_)
                            exact then_n (kl2 _ _ ⟨n, Nat.lt_succ_self n, (iadd .i64 z21 1), h, (hs.conv rfl), exg (by kernel_rfl)⟩)
                      · refine wpS.take 0 false (some 9) (.bool false) (by kernel_rfl) (yld_b (df hc) (fun _ => by kernel_rfl)) ?_
                        refine wpS.fin rfl (kr2553 _ _ ?_)
                        refine then_n (ks2552 _ _ ?_)
                        refine xseq_k fun KS2589 ks2589 => ?_
                        refine wp_cond_f (by kernel_rfl) ?_
                        refine xexit ?_
                        refine then_x ?_
                        refine then_x ?_
                        refine inBlock_hit ?_
                        have q0 := of_some h
                        subst q0
                        exact exq_n (nn2 _ _ ⟨rfl, (hs.conv rfl), exg (by kernel_rfl)⟩)
                  · clear hs h hy
                    rintro a w ⟨rfl, hs, g, rfl⟩
                    have h := hk2
                    refine then_n (ks2511 _ _ ?_)
                    refine xseq_k fun KS2590 ks2590 => ?_
                    refine wp_regS (l := [0]) (by kernel_rfl) (by kernel_rfl) fun KR2591 kr2591 => ?_
                    refine wpS.take 0 false (some 4) (.int .i64 (-1)) (by kernel_rfl) (yld fun _ => by kernel_rfl) ?_
                    refine wpS.fin rfl (kr2591 _ _ ?_)
                    refine then_n (ks2590 _ _ ?_)
                    refine xret ?_
                    have q0 := of_some h
                    subst q0
                    exact qq2269 _ _ (post_ret (by kernel_rfl) (run_results [.tmp 4] [.int .i64 (-1)] (by kernel_rfl) (.cons (res_tmp (by kernel_rfl)) .nil)) (kI2269 _ _ ⟨rfl, (hs.conv rfl)⟩))
                · clear hj hs
                  rintro v w ⟨rfl, hs⟩
                  refine ⟨fun _ => trivial, ?_⟩
                  refine wpS.take 3 false (some 8) (.bool (decide (y20 ≥ 0))) (by kernel_rfl) (yld fun _ => by kernel_rfl) ?_
                  refine wpS.take 4 false (some 4) (.bool (decide (y20 ≥ 0))) (by kernel_rfl) (yld fun _ => by kernel_rfl) ?_
                  refine wpS.fin rfl (kr2268 _ _ ?_)
                  refine then_n (ks2267 _ _ ?_)
                  refine xret ?_
                  have q0 := of_some h
                  subst q0
                  exact qq1937 _ _ (post_ret (by kernel_rfl) (run_results [.tmp 4] [.bool (decide (y20 ≥ 0))] (by kernel_rfl) (.cons (res_tmp (by kernel_rfl)) .nil)) (kI1937 _ _ ⟨rfl, (hs.conv rfl)⟩))
              · clear hj hs
                rintro v w ⟨rfl, hs⟩
                refine ⟨fun _ => trivial, ?_⟩
                cases y19 with
                | true =>
                  have h := of_if_t h
                  refine wpS.fin rfl (kr1936 _ _ ?_)
                  refine then_n (ks1935 _ _ ?_)
                  refine wp_cond_t (by kernel_rfl) ?_
                  refine xseq_k fun KS2592 ks2592 => ?_
                  refine wp_regS (l := [0, 1]) (by kernel_rfl) (by kernel_rfl) fun KR2593 kr2593 => ?_
                  refine wpS.take 0 false (some 6) (.slice none 0 0) (by kernel_rfl) (yld fun _ => by kernel_rfl) ?_
                  refine wpS.take 1 false (some 7) (.bool false) (by kernel_rfl) (yld fun _ => by kernel_rfl) ?_
                  refine wpS.fin rfl (kr2593 _ _ ?_)
                  refine then_n (ks2592 _ _ ?_)
                  refine xret ?_
                  refine then_r ?_
                  obtain ⟨q0, qr0⟩ := Prod.mk.inj (of_some h)
                  have q1 := qr0
                  subst q0
                  subst q1
                  have hs := hs.addNilL (CA .i32 256 (by decide)) 40
                  exact qq _ _ (post_ret (by kernel_rfl) (run_results [.tmp 6, .tmp 7] [.slice none 0 0, .bool false] (by kernel_rfl) (.cons (res_tmp (by kernel_rfl)) (.cons (res_tmp (by kernel_rfl)) .nil))) ⟨⟨none, 0, 0⟩, congrArg Ending.returned (by kernel_rfl), (((hs.conv (L' := [.ownL (CA .i32 256 (by decide)) none 0 0 ([] : List (Arr 256)) 40, .ownL (CA .i32 256 (by decide)) s1_A s1_n s1_c y6 40]) rfl).drop (.cons_cons _ (.cons _ .slnil))).pickR pick_nil)⟩)
                | false =>
                  have h := of_if_f h
                  refine wpS.fin rfl (kr1936 _ _ ?_)
                  refine then_n (ks1935 _ _ ?_)
                  refine wp_cond_f (by kernel_rfl) ?_
                  refine xskip ?_
                  refine then_n (ks1934 _ _ ?_)
                  refine xseq_k fun KS2594 ks2594 => ?_
                  refine wp_regS (l := [0, 1, 2]) (by kernel_rfl) (by kernel_rfl) fun KR2595 kr2595 => ?_
                  refine wpS.take 0 false (some 92) (.slice s1_A s1_n s1_c) (by kernel_rfl) (yld fun _ => by kernel_rfl) ?_
                  refine wpS.take 1 false (some 6) (.slice s1_A s1_n s1_c) (by kernel_rfl) (yld fun _ => by kernel_rfl) ?_
                  refine wpS.take 2 false (some 7) (.bool true) (by kernel_rfl) (yld fun _ => by kernel_rfl) ?_
                  refine wpS.fin rfl (kr2595 _ _ ?_)
                  refine then_n (ks2594 _ _ ?_)
                  refine xret ?_
                  obtain ⟨q0, qr0⟩ := Prod.mk.inj (of_some h)
                  have q1 := qr0
                  subst q0
                  subst q1
                  exact qq _ _ (post_ret (by kernel_rfl) (run_results [.tmp 6, .tmp 7] [.slice s1_A s1_n s1_c, .bool true] (by kernel_rfl) (.cons (res_tmp (by kernel_rfl)) (.cons (res_tmp (by kernel_rfl)) .nil))) ⟨⟨s1_A, s1_n, s1_c⟩, congrArg Ending.returned (by kernel_rfl), ((hs.conv (L' := [.ownL (CA .i32 256 (by decide)) s1_A s1_n s1_c y6 40]) rfl).pickR pick_nil)⟩)
          · refine wpS.take 20 false (some 33) (.bool true) (by kernel_rfl) (yld_b (nt hc) (fun _ => by kernel_rfl)) ?_
            refine wpS.take 21 false (some 34) (.bool true) (by kernel_rfl) (yld fun _ => by kernel_rfl) ?_
            refine wpS.fin rfl (kr17 _ _ ?_)
            refine then_n (ks16 _ _ ?_)
            refine wp_cond_t (by kernel_rfl) ?_
            refine xseq_k fun KS2596 ks2596 => ?_
            refine wp_regS (l := [0, 1]) (by kernel_rfl) (by kernel_rfl) fun KR2597 kr2597 => ?_
            refine wpS.take 0 false (some 6) (.slice none 0 0) (by kernel_rfl) (yld fun _ => by kernel_rfl) ?_
            refine wpS.take 1 false (some 7) (.bool false) (by kernel_rfl) (yld fun _ => by kernel_rfl) ?_
            refine wpS.fin rfl (kr2597 _ _ ?_)
            refine then_n (ks2596 _ _ ?_)
            refine xret ?_
            refine then_r ?_
            obtain ⟨q0, qr0⟩ := Prod.mk.inj (of_some h)
            have q1 := qr0
            subst q0
            subst q1
            have hs := hs.addNilL (CA .i32 256 (by decide)) 40
            exact qq _ _ (post_ret (by kernel_rfl) (run_results [.tmp 6, .tmp 7] [.slice none 0 0, .bool false] (by kernel_rfl) (.cons (res_tmp (by kernel_rfl)) (.cons (res_tmp (by kernel_rfl)) .nil))) ⟨⟨none, 0, 0⟩, congrArg Ending.returned (by kernel_rfl), ((hs.conv (L' := [.ownL (CA .i32 256 (by decide)) none 0 0 ([] : List (Arr 256)) 40]) rfl).pickR pick_nil)⟩)
end Go.Proofs.Ytblploekkjeolaa
