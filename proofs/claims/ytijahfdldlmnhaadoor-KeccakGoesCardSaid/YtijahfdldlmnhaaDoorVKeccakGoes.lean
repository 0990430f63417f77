/- Printed by this work's own program: the code of each function below comes to the answer that its plain form tells. -/
import Derived.Test.YtijahfdldlmnhaaDoorMr
import Derived.Test.YtijahfdldlmnhaaDoorProg
import Derived.Test.YtijahfdldlmnhaaDoorLKeccakGoes
import Derived.Test.YtijahfdldlmnhaaDoorSX0
import Derived.Test.YtijahfdldlmnhaaDoorSX1
import Derived.Test.YtijahfdldlmnhaaDoorSX2
import Derived.Test.YtijahfdldlmnhaaDoorSX3
import Derived.Test.YtijahfdldlmnhaaDoorSX4
set_option linter.unusedVariables false
set_option linter.unusedSimpArgs false
set_option maxRecDepth 100000
set_option maxHeartbeats 4000000
namespace Go.Proofs.YtijahfdldlmnhaaDoor
open Go.Mx
attribute [local irreducible] wpOp

theorem law08_KeccakGoes.ok {K : Nat} {a0_0 : Int} {a0_1 : Arr 25} {a0_2 : Int} {a0_3 : Bool} {a1 : List Int} {a2 : Int} {r0 : Bool} {a1_A : Option Addr} {a1_n : Nat} {a1_c : Nat} (h : law08_KeccakGoes.f K a0_0 a0_1 a0_2 a0_3 a1 a2 = some r0) (w0 : World) (hp1 : RowL (CI .u8) w0 a1_A a1_n a1_c a1) (hg0 : RowL (CA .u64 24 (by decide)) w0 (some ⟨0, 0, none⟩) 1 1 [tab_0]) (hg1 : RowL (CA .i64 24 (by decide)) w0 (some ⟨1, 0, none⟩) 1 1 [tab_1]) (hg2 : RowL (CA .i64 24 (by decide)) w0 (some ⟨2, 0, none⟩) 1 1 [tab_2]) : Ret Tryd.prog 3 #[.agg (([.int .i64 a0_0] : List Value) ++ enc .u64 a0_1 ++ ([.int .i64 a0_2, .bool a0_3] : List Value)).toArray, .slice a1_A a1_n a1_c, .int .i64 a2] w0 (.bool r0) := by
  refine calls_k Tryd.func3 rfl fun Q qq => ?_
  have hs := St.startR (all_cons (RowP.ent hp1) (all_cons (RowP.ent hg0) (all_cons (RowP.ent hg1) (all_cons (RowP.ent hg2) all_nil))))
  refine wp_conv (a' := ⟨#[.agg (([.int .i64 a0_0] : List Value) ++ enc .u64 a0_1 ++ ([.int .i64 a0_2, .bool a0_3] : List Value)).toArray, .slice a1_A a1_n a1_c, .int .i64 a2, undef, undef, undef, undef, undef, undef, undef, undef, undef, undef, undef, undef, undef, undef, undef, undef, undef, undef, undef, undef, undef, undef, undef, undef, undef, undef, undef, undef, undef, undef, undef, undef, undef, undef, undef, undef, undef, undef, undef, undef, undef, undef, undef, undef, undef, undef, undef, undef, undef, undef, undef, undef, undef, undef, undef, undef, undef, undef, undef, undef, undef, undef, undef, undef, undef], []⟩) (by kernel_rfl) ?_
  refine wp_seq_k fun KS1 ks1 => ?_
  refine wp_regS (l := [0, 1]) (by kernel_rfl) fun KR kr => ?_
  refine wpS.only 0 (op_box (t := 25) (v := .agg (([.int .i64 a0_0] : List Value) ++ enc .u64 a0_1 ++ ([.int .i64 a0_2, .bool a0_3] : List Value)).toArray) (d := (some 3)) (by kernel_rfl) hs (([.int .i64 a0_0] : List Value) ++ enc .u64 a0_1 ++ ([.int .i64 a0_2, .bool a0_3] : List Value)) (by kernel_rfl) (by kernel_rfl) ?_)
  intro b1 w gw hs
  refine ⟨fun _ => trivial, ?_⟩
  refine wpS.take 1 false (some 6) (.bool false) (by kernel_rfl) (yld fun _ => by kernel_rfl) ?_
  refine wpS.fin rfl (kr _ _ ?_)
  refine then_n (ks1 _ _ ?_)
  refine wp_seq_k fun KS6 ks6 => ?_
  refine wp_seq_k fun KS7 ks7 => ?_
  refine wp_regS (l := [0, 1, 2, 3, 4, 5, 6, 7, 8, 9, 10, 11]) (by kernel_rfl) fun KR kr => ?_
  refine wpS.take 0 true (some 13) (.agg (([.int .i64 a0_0] : List Value) ++ enc .u64 a0_1 ++ ([.int .i64 a0_2, .bool a0_3] : List Value)).toArray) (by kernel_rfl) (yld_loadW (e := 25) (n := 28) hs 0 rfl (by kernel_rfl) (by kernel_rfl) (by kernel_rfl) (by simp [enc_len]) .grow) ?_
  obtain ⟨r2, hg, h⟩ := of_bind h
  cases r2 with
  | true =>
    have h := of_if_t h
    refine wpS.only 1 (op_call (d := (some 14)) (by kernel_rfl) hs (fun _ => by kernel_rfl) (ref08_Fit.ok hg _) ?_)
    intro w gw hs
    refine ⟨fun _ => trivial, ?_⟩
    refine wpS.take 2 false (some 15) (.bool false) (by kernel_rfl) (yld fun _ => by kernel_rfl) ?_
    refine wpS.take 3 false (some 16) (.bool false) (by kernel_rfl) (yld fun _ => by kernel_rfl) ?_
    refine wpS.take 4 false (some 17) (.slice a1_A a1_n a1_c) (by kernel_rfl) (yld fun _ => by kernel_rfl) ?_
    refine wpS.take 5 false (some 18) (.int .i64 (a1.length : Int)) (by kernel_rfl) (yld_lenL (hs.rowR 0 rfl) (fun _ => by kernel_rfl)) ?_
    rcases of_if h with ⟨hc, h⟩ | ⟨hc, h⟩
    · refine wpS.take 6 false (some 19) (.bool true) (by kernel_rfl) (yld_b (dt hc) (fun _ => by kernel_rfl)) ?_
      refine wpS.take 7 false (some 20) (.bool true) (by kernel_rfl) (yld fun _ => by kernel_rfl) ?_
      refine wpS.take 8 false (some 21) (.bool true) (by kernel_rfl) (yld fun _ => by kernel_rfl) ?_
      refine wpS.take 9 false (some 22) (undef) (by kernel_rfl) (yld fun _ => by kernel_rfl) ?_
      refine wpS.take 10 false (some 23) (undef) (by kernel_rfl) (yld fun _ => by kernel_rfl) ?_
      refine wpS.take 11 false (some 24) (.bool true) (by kernel_rfl) (yld fun _ => by kernel_rfl) ?_
      refine wpS.fin rfl (kr _ _ ?_)
      refine then_n (ks7 _ _ ?_)
      refine wp_cond_t (by kernel_rfl) ?_
      refine wp_seq_k fun KS8 ks8 => ?_
      refine wp_regS (l := [0, 1]) (by kernel_rfl) fun KR kr => ?_
      obtain ⟨r3, hg, h⟩ := of_bind h
      refine wpS.only 0 (op_call (d := (some 25)) (by kernel_rfl) hs (fun _ => by kernel_rfl) (law08_awake.ok hg _ (hs.rowR 1 rfl) (hs.rowR 2 rfl) (hs.rowR 3 rfl)) ?_)
      intro w gw hs
      refine ⟨fun _ => trivial, ?_⟩
      refine wpS.take 1 false (some 6) (.bool r3) (by kernel_rfl) (yld fun _ => by kernel_rfl) ?_
      refine wpS.fin rfl (kr _ _ ?_)
      refine then_n (ks8 _ _ ?_)
      refine wp_ret ?_
      refine then_r ?_
      have q0 := of_some h
      subst q0
      exact qq _ _ (post_ret (by kernel_rfl) (run_results [.tmp 6] [.bool r3] (by kernel_rfl) (.cons (res_tmp (by kernel_rfl)) .nil)) ⟨congrArg Ending.returned (by kernel_rfl), hs.none⟩)
    · refine wpS.take 6 false (some 19) (.bool false) (by kernel_rfl) (yld_b (df hc) (fun _ => by kernel_rfl)) ?_
      refine wpS.take 7 false (some 20) (.bool false) (by kernel_rfl) (yld fun _ => by kernel_rfl) ?_
      refine wpS.take 8 false (some 21) (.bool false) (by kernel_rfl) (yld fun _ => by kernel_rfl) ?_
      refine wpS.take 9 false (some 22) (.int .i64 a2) (by kernel_rfl) (yld fun _ => by kernel_rfl) ?_
      rcases of_if h with ⟨hc, h⟩ | ⟨hc, h⟩
      · refine wpS.take 10 false (some 23) (.bool true) (by kernel_rfl) (yld_b (dt hc) (fun _ => by kernel_rfl)) ?_
        refine wpS.take 11 false (some 24) (.bool true) (by kernel_rfl) (yld fun _ => by kernel_rfl) ?_
        refine wpS.fin rfl (kr _ _ ?_)
        refine then_n (ks7 _ _ ?_)
        refine wp_cond_t (by kernel_rfl) ?_
        refine wp_seq_k fun KS9 ks9 => ?_
        refine wp_regS (l := [0, 1]) (by kernel_rfl) fun KR kr => ?_
        obtain ⟨r4, hg, h⟩ := of_bind h
        refine wpS.only 0 (op_call (d := (some 25)) (by kernel_rfl) hs (fun _ => by kernel_rfl) (law08_awake.ok hg _ (hs.rowR 1 rfl) (hs.rowR 2 rfl) (hs.rowR 3 rfl)) ?_)
        intro w gw hs
        refine ⟨fun _ => trivial, ?_⟩
        refine wpS.take 1 false (some 6) (.bool r4) (by kernel_rfl) (yld fun _ => by kernel_rfl) ?_
        refine wpS.fin rfl (kr _ _ ?_)
        refine then_n (ks9 _ _ ?_)
        refine wp_ret ?_
        refine then_r ?_
        have q0 := of_some h
        subst q0
        exact qq _ _ (post_ret (by kernel_rfl) (run_results [.tmp 6] [.bool r4] (by kernel_rfl) (.cons (res_tmp (by kernel_rfl)) .nil)) ⟨congrArg Ending.returned (by kernel_rfl), hs.none⟩)
      · refine wpS.take 10 false (some 23) (.bool false) (by kernel_rfl) (yld_b (df hc) (fun _ => by kernel_rfl)) ?_
        refine wpS.take 11 false (some 24) (.bool false) (by kernel_rfl) (yld fun _ => by kernel_rfl) ?_
        refine wpS.fin rfl (kr _ _ ?_)
        refine then_n (ks7 _ _ ?_)
        refine wp_cond_f (by kernel_rfl) ?_
        refine wp_skip ?_
        refine then_n (ks6 _ _ ?_)
        refine wp_seq_k fun KS10 ks10 => ?_
        obtain ⟨⟨y6_0, y6_1, y6_2, y6_3, y8_0, y8_1, y8_2, y8_3⟩, hj, h⟩ := of_bind h
        refine wp_join (N := fun a w => ∃ (b5 : Nat) (b7 : Nat), St w0 [] [.blk b7 (([.int .i64 y8_0] : List Value) ++ enc .u64 y8_1 ++ ([.int .i64 y8_2, .bool y8_3] : List Value)) 25, .blk b5 (([.int .i64 y6_0] : List Value) ++ enc .u64 y6_1 ++ ([.int .i64 y6_2, .bool y6_3] : List Value)) 25, .blk b1 (([.int .i64 a0_0] : List Value) ++ enc .u64 a0_1 ++ ([.int .i64 a0_2, .bool a0_3] : List Value)) 25] [.rowL (CI .u8) a1_A a1_n a1_c a1, .rowL (CA .u64 24 (by decide)) (some ⟨0, 0, none⟩) 1 1 ([tab_0]), .rowL (CA .i64 24 (by decide)) (some ⟨1, 0, none⟩) 1 1 ([tab_1]), .rowL (CA .i64 24 (by decide)) (some ⟨2, 0, none⟩) 1 1 ([tab_2])] w ∧ ∃ g : Nat → Value, a = ⟨#[.agg (([.int .i64 a0_0] : List Value) ++ enc .u64 a0_1 ++ ([.int .i64 a0_2, .bool a0_3] : List Value)).toArray, .slice a1_A a1_n a1_c, .int .i64 a2, .pointer (some ⟨b1, 0, none⟩), undef, undef, .bool false, .pointer (some ⟨b5, 0, none⟩), .pointer (some ⟨b7, 0, none⟩), undef, undef, undef, undef, .agg (([.int .i64 a0_0] : List Value) ++ enc .u64 a0_1 ++ ([.int .i64 a0_2, .bool a0_3] : List Value)).toArray, .bool true, .bool false, .bool false, .slice a1_A a1_n a1_c, .int .i64 (a1.length : Int), .bool false, .bool false, .bool false, .int .i64 a2, .bool false, .bool false, undef, (g 26), (g 27), (g 28), (g 29), (g 30), (g 31), undef, undef, undef, undef, undef, undef, undef, undef, undef, undef, undef, undef, undef, undef, undef, undef, undef, undef, undef, undef, undef, undef, undef, undef, undef, undef, undef, undef, undef, undef, undef, undef, undef, undef, undef, undef], []⟩) (fun N nj => ?_) ?_
        · clear h
          have h := hj
          refine wp_regG [8, 9] (fun k => True) 10 (by kernel_rfl) (by kernel_rfl) fun KR kr => ?_
          have hs := hs.drawn1
          refine wpG.takeD 0 true (some 26) (.agg (([.int .i64 a0_0] : List Value) ++ enc .u64 a0_1 ++ ([.int .i64 a0_2, .bool a0_3] : List Value)).toArray) (by kernel_rfl) (by kernel_rfl) (yld_loadW (e := 25) (n := 28) hs 0 rfl (by kernel_rfl) (by kernel_rfl) (by kernel_rfl) (by simp [enc_len]) .grow) ?_
          refine wpG.takeD 1 false (some 27) (.slice a1_A a1_n a1_c) (by kernel_rfl) (by kernel_rfl) (yld fun _ => by kernel_rfl) ?_
          refine wpG.take [3, 5, 8, 9] 3 true (some 29) (.agg (([.int .i64 a0_0] : List Value) ++ enc .u64 a0_1 ++ ([.int .i64 a0_2, .bool a0_3] : List Value)).toArray) (by kernel_rfl) (by kernel_rfl) (yld_loadW (e := 25) (n := 28) hs 0 rfl (by kernel_rfl) (by kernel_rfl) (by kernel_rfl) (by simp [enc_len]) .grow) ?_
          refine wpG.takeD 4 false (some 30) (.slice a1_A a1_n a1_c) (by kernel_rfl) (by kernel_rfl) (yld fun _ => by kernel_rfl) ?_
          refine wpG.many [2, 6, 7] (by kernel_rfl) (by decide) (forall_cons ?_ (forall_cons ?_ (forall_cons ?_ forall_nil)))
          · obtain ⟨⟨r9_0, r9_1, r9_2, r9_3⟩, hg, h⟩ := of_bind h
            refine (op_call (d := (some 28)) (by kernel_rfl) hs (fun _ => by kernel_rfl) (keccak_Absorb.ok hg _ (hs.rowR 0 rfl) (hs.rowR 1 rfl) (hs.rowR 2 rfl) (hs.rowR 3 rfl)) ?_)
            intro w gw hs
            refine ⟨.of gw, ?_⟩
            refine wpG.many [5, 6, 7] (by kernel_rfl) (by decide) (forall_cons ?_ (forall_cons ?_ (forall_cons ?_ forall_nil)))
            · obtain ⟨⟨r10_0, r10_1, r10_2, r10_3⟩, hg, h⟩ := of_bind h
              refine (op_call (d := (some 31)) (by kernel_rfl) hs (fun _ => by kernel_rfl) (ref08_Absorb.ok hg _ (hs.rowR 0 rfl)) ?_)
              intro w gw hs
              refine ⟨.of gw, ?_⟩
              refine wpG.many [6, 7] (by kernel_rfl) (by decide) (forall_cons ?_ (forall_cons ?_ forall_nil))
              · refine (op_alloc (t := 25) (d := (some 7)) (by kernel_rfl) hs (([.int .i64 0] : List Value) ++ enc .u64 (zeroA 25) ++ ([.int .i64 0, .bool false] : List Value)) (.agg (([.int .i64 0] : List Value) ++ enc .u64 (zeroA 25) ++ ([.int .i64 0, .bool false] : List Value)).toArray) (by kernel_rfl) (by kernel_rfl) (by kernel_rfl) ?_)
                intro b11 w gw hs
                refine ⟨.of gw, ?_⟩
                refine wpG.only 7 (by kernel_rfl) (op_alloc (t := 25) (d := (some 8)) (by kernel_rfl) hs (([.int .i64 0] : List Value) ++ enc .u64 (zeroA 25) ++ ([.int .i64 0, .bool false] : List Value)) (.agg (([.int .i64 0] : List Value) ++ enc .u64 (zeroA 25) ++ ([.int .i64 0, .bool false] : List Value)).toArray) (by kernel_rfl) (by kernel_rfl) (by kernel_rfl) ?_)
                intro b12 w gw hs
                refine ⟨.of gw, ?_⟩
                refine wpG.only 8 (by kernel_rfl) (op_storeW (t := 25) (v := .agg (([.int .i64 r9_0] : List Value) ++ enc .u64 r9_1 ++ ([.int .i64 r9_2, .bool r9_3] : List Value)).toArray) (d := none) (by kernel_rfl) hs 1 rfl (vs := ([.int .i64 r9_0] : List Value) ++ enc .u64 r9_1 ++ ([.int .i64 r9_2, .bool r9_3] : List Value)) (n := 28) (by kernel_rfl) (by kernel_rfl) (by kernel_rfl) (by simp [enc_len]) (by simp [enc_len]) (one_app (one_app (by simp [Value.oneCell']) (fun u hu => enc_one _ _ u hu)) (by simp [Value.oneCell'])) ?_)
                intro w kp hs
                refine ⟨⟨fun hf => absurd hf (by decide), .all _ _⟩, ?_⟩
                refine wpG.only 9 (by kernel_rfl) (op_storeW (t := 25) (v := .agg (([.int .i64 r10_0] : List Value) ++ enc .u64 r10_1 ++ ([.int .i64 r10_2, .bool r10_3] : List Value)).toArray) (d := none) (by kernel_rfl) hs 0 rfl (vs := ([.int .i64 r10_0] : List Value) ++ enc .u64 r10_1 ++ ([.int .i64 r10_2, .bool r10_3] : List Value)) (n := 28) (by kernel_rfl) (by kernel_rfl) (by kernel_rfl) (by simp [enc_len]) (by simp [enc_len]) (one_app (one_app (by simp [Value.oneCell']) (fun u hu => enc_one _ _ u hu)) (by simp [Value.oneCell'])) ?_)
                intro w kp hs
                refine ⟨⟨fun hf => absurd hf (by decide), .all _ _⟩, ?_⟩
                refine wpG.fin (by kernel_rfl) rfl (kr _ _ ?_)
                obtain ⟨q0, qr0⟩ := Prod.mk.inj (of_some h)
                obtain ⟨q1, qr1⟩ := Prod.mk.inj (qr0)
                obtain ⟨q2, qr2⟩ := Prod.mk.inj (qr1)
                obtain ⟨q3, qr3⟩ := Prod.mk.inj (qr2)
                obtain ⟨q4, qr4⟩ := Prod.mk.inj (qr3)
                obtain ⟨q5, qr5⟩ := Prod.mk.inj (qr4)
                obtain ⟨q6, qr6⟩ := Prod.mk.inj (qr5)
                have q7 := qr6
                subst q0
                subst q1
                subst q2
                subst q3
                subst q4
                subst q5
                subst q6
                subst q7
                exact nj _ _ ⟨b11, b12, (hs.conv rfl), exg (by kernel_rfl)⟩
              · refine (op_alloc (t := 25) (d := (some 8)) (by kernel_rfl) hs (([.int .i64 0] : List Value) ++ enc .u64 (zeroA 25) ++ ([.int .i64 0, .bool false] : List Value)) (.agg (([.int .i64 0] : List Value) ++ enc .u64 (zeroA 25) ++ ([.int .i64 0, .bool false] : List Value)).toArray) (by kernel_rfl) (by kernel_rfl) (by kernel_rfl) ?_)
                intro b13 w gw hs
                refine ⟨.of gw, ?_⟩
                refine wpG.only 6 (by kernel_rfl) (op_alloc (t := 25) (d := (some 7)) (by kernel_rfl) hs (([.int .i64 0] : List Value) ++ enc .u64 (zeroA 25) ++ ([.int .i64 0, .bool false] : List Value)) (.agg (([.int .i64 0] : List Value) ++ enc .u64 (zeroA 25) ++ ([.int .i64 0, .bool false] : List Value)).toArray) (by kernel_rfl) (by kernel_rfl) (by kernel_rfl) ?_)
                intro b14 w gw hs
                refine ⟨.of gw, ?_⟩
                refine wpG.only 8 (by kernel_rfl) (op_storeW (t := 25) (v := .agg (([.int .i64 r9_0] : List Value) ++ enc .u64 r9_1 ++ ([.int .i64 r9_2, .bool r9_3] : List Value)).toArray) (d := none) (by kernel_rfl) hs 0 rfl (vs := ([.int .i64 r9_0] : List Value) ++ enc .u64 r9_1 ++ ([.int .i64 r9_2, .bool r9_3] : List Value)) (n := 28) (by kernel_rfl) (by kernel_rfl) (by kernel_rfl) (by simp [enc_len]) (by simp [enc_len]) (one_app (one_app (by simp [Value.oneCell']) (fun u hu => enc_one _ _ u hu)) (by simp [Value.oneCell'])) ?_)
                intro w kp hs
                refine ⟨⟨fun hf => absurd hf (by decide), .all _ _⟩, ?_⟩
                refine wpG.only 9 (by kernel_rfl) (op_storeW (t := 25) (v := .agg (([.int .i64 r10_0] : List Value) ++ enc .u64 r10_1 ++ ([.int .i64 r10_2, .bool r10_3] : List Value)).toArray) (d := none) (by kernel_rfl) hs 1 rfl (vs := ([.int .i64 r10_0] : List Value) ++ enc .u64 r10_1 ++ ([.int .i64 r10_2, .bool r10_3] : List Value)) (n := 28) (by kernel_rfl) (by kernel_rfl) (by kernel_rfl) (by simp [enc_len]) (by simp [enc_len]) (one_app (one_app (by simp [Value.oneCell']) (fun u hu => enc_one _ _ u hu)) (by simp [Value.oneCell'])) ?_)
                intro w kp hs
                refine ⟨⟨fun hf => absurd hf (by decide), .all _ _⟩, ?_⟩
                refine wpG.fin (by kernel_rfl) rfl (kr _ _ ?_)
                obtain ⟨q0, qr0⟩ := Prod.mk.inj (of_some h)
                obtain ⟨q1, qr1⟩ := Prod.mk.inj (qr0)
                obtain ⟨q2, qr2⟩ := Prod.mk.inj (qr1)
                obtain ⟨q3, qr3⟩ := Prod.mk.inj (qr2)
                obtain ⟨q4, qr4⟩ := Prod.mk.inj (qr3)
                obtain ⟨q5, qr5⟩ := Prod.mk.inj (qr4)
                obtain ⟨q6, qr6⟩ := Prod.mk.inj (qr5)
                have q7 := qr6
                subst q0
                subst q1
                subst q2
                subst q3
                subst q4
                subst q5
                subst q6
                subst q7
                have hs := (hs.front 2 rfl).conv (L' := [.blk b1 (([.int .i64 a0_0] : List Value) ++ enc .u64 a0_1 ++ ([.int .i64 a0_2, .bool a0_3] : List Value)) 25, .blk b14 (([.int .i64 r9_0] : List Value) ++ enc .u64 r9_1 ++ ([.int .i64 r9_2, .bool r9_3] : List Value)) 25, .blk b13 (([.int .i64 r10_0] : List Value) ++ enc .u64 r10_1 ++ ([.int .i64 r10_2, .bool r10_3] : List Value)) 25]) rfl
                have hs := (hs.front 1 rfl).conv (L' := [.blk b14 (([.int .i64 r9_0] : List Value) ++ enc .u64 r9_1 ++ ([.int .i64 r9_2, .bool r9_3] : List Value)) 25, .blk b1 (([.int .i64 a0_0] : List Value) ++ enc .u64 a0_1 ++ ([.int .i64 a0_2, .bool a0_3] : List Value)) 25, .blk b13 (([.int .i64 r10_0] : List Value) ++ enc .u64 r10_1 ++ ([.int .i64 r10_2, .bool r10_3] : List Value)) 25]) rfl
                have hs := (hs.front 2 rfl).conv (L' := [.blk b13 (([.int .i64 r10_0] : List Value) ++ enc .u64 r10_1 ++ ([.int .i64 r10_2, .bool r10_3] : List Value)) 25, .blk b14 (([.int .i64 r9_0] : List Value) ++ enc .u64 r9_1 ++ ([.int .i64 r9_2, .bool r9_3] : List Value)) 25, .blk b1 (([.int .i64 a0_0] : List Value) ++ enc .u64 a0_1 ++ ([.int .i64 a0_2, .bool a0_3] : List Value)) 25]) rfl
                exact nj _ _ ⟨b14, b13, (hs.conv rfl), exg (by kernel_rfl)⟩
            · refine (op_alloc (t := 25) (d := (some 7)) (by kernel_rfl) hs (([.int .i64 0] : List Value) ++ enc .u64 (zeroA 25) ++ ([.int .i64 0, .bool false] : List Value)) (.agg (([.int .i64 0] : List Value) ++ enc .u64 (zeroA 25) ++ ([.int .i64 0, .bool false] : List Value)).toArray) (by kernel_rfl) (by kernel_rfl) (by kernel_rfl) ?_)
              intro b15 w gw hs
              refine ⟨.of gw, ?_⟩
              refine wpG.many [5, 7] (by kernel_rfl) (by decide) (forall_cons ?_ (forall_cons ?_ forall_nil))
              · obtain ⟨⟨r16_0, r16_1, r16_2, r16_3⟩, hg, h⟩ := of_bind h
                refine (op_call (d := (some 31)) (by kernel_rfl) hs (fun _ => by kernel_rfl) (ref08_Absorb.ok hg _ (hs.rowR 0 rfl)) ?_)
                intro w gw hs
                refine ⟨.of gw, ?_⟩
                refine wpG.only 7 (by kernel_rfl) (op_alloc (t := 25) (d := (some 8)) (by kernel_rfl) hs (([.int .i64 0] : List Value) ++ enc .u64 (zeroA 25) ++ ([.int .i64 0, .bool false] : List Value)) (.agg (([.int .i64 0] : List Value) ++ enc .u64 (zeroA 25) ++ ([.int .i64 0, .bool false] : List Value)).toArray) (by kernel_rfl) (by kernel_rfl) (by kernel_rfl) ?_)
                intro b17 w gw hs
                refine ⟨.of gw, ?_⟩
                refine wpG.only 8 (by kernel_rfl) (op_storeW (t := 25) (v := .agg (([.int .i64 r9_0] : List Value) ++ enc .u64 r9_1 ++ ([.int .i64 r9_2, .bool r9_3] : List Value)).toArray) (d := none) (by kernel_rfl) hs 1 rfl (vs := ([.int .i64 r9_0] : List Value) ++ enc .u64 r9_1 ++ ([.int .i64 r9_2, .bool r9_3] : List Value)) (n := 28) (by kernel_rfl) (by kernel_rfl) (by kernel_rfl) (by simp [enc_len]) (by simp [enc_len]) (one_app (one_app (by simp [Value.oneCell']) (fun u hu => enc_one _ _ u hu)) (by simp [Value.oneCell'])) ?_)
                intro w kp hs
                refine ⟨⟨fun hf => absurd hf (by decide), .all _ _⟩, ?_⟩
                refine wpG.only 9 (by kernel_rfl) (op_storeW (t := 25) (v := .agg (([.int .i64 r16_0] : List Value) ++ enc .u64 r16_1 ++ ([.int .i64 r16_2, .bool r16_3] : List Value)).toArray) (d := none) (by kernel_rfl) hs 0 rfl (vs := ([.int .i64 r16_0] : List Value) ++ enc .u64 r16_1 ++ ([.int .i64 r16_2, .bool r16_3] : List Value)) (n := 28) (by kernel_rfl) (by kernel_rfl) (by kernel_rfl) (by simp [enc_len]) (by simp [enc_len]) (one_app (one_app (by simp [Value.oneCell']) (fun u hu => enc_one _ _ u hu)) (by simp [Value.oneCell'])) ?_)
                intro w kp hs
                refine ⟨⟨fun hf => absurd hf (by decide), .all _ _⟩, ?_⟩
                refine wpG.fin (by kernel_rfl) rfl (kr _ _ ?_)
                obtain ⟨q0, qr0⟩ := Prod.mk.inj (of_some h)
                obtain ⟨q1, qr1⟩ := Prod.mk.inj (qr0)
                obtain ⟨q2, qr2⟩ := Prod.mk.inj (qr1)
                obtain ⟨q3, qr3⟩ := Prod.mk.inj (qr2)
                obtain ⟨q4, qr4⟩ := Prod.mk.inj (qr3)
                obtain ⟨q5, qr5⟩ := Prod.mk.inj (qr4)
                obtain ⟨q6, qr6⟩ := Prod.mk.inj (qr5)
                have q7 := qr6
                subst q0
                subst q1
                subst q2
                subst q3
                subst q4
                subst q5
                subst q6
                subst q7
                exact nj _ _ ⟨b15, b17, (hs.conv rfl), exg (by kernel_rfl)⟩
              · refine (op_alloc (t := 25) (d := (some 8)) (by kernel_rfl) hs (([.int .i64 0] : List Value) ++ enc .u64 (zeroA 25) ++ ([.int .i64 0, .bool false] : List Value)) (.agg (([.int .i64 0] : List Value) ++ enc .u64 (zeroA 25) ++ ([.int .i64 0, .bool false] : List Value)).toArray) (by kernel_rfl) (by kernel_rfl) (by kernel_rfl) ?_)
                intro b18 w gw hs
                refine ⟨.of gw, ?_⟩
                obtain ⟨⟨r19_0, r19_1, r19_2, r19_3⟩, hg, h⟩ := of_bind h
                refine wpG.only 5 (by kernel_rfl) (op_call (d := (some 31)) (by kernel_rfl) hs (fun _ => by kernel_rfl) (ref08_Absorb.ok hg _ (hs.rowR 0 rfl)) ?_)
                intro w gw hs
                refine ⟨.of gw, ?_⟩
                refine wpG.only 8 (by kernel_rfl) (op_storeW (t := 25) (v := .agg (([.int .i64 r9_0] : List Value) ++ enc .u64 r9_1 ++ ([.int .i64 r9_2, .bool r9_3] : List Value)).toArray) (d := none) (by kernel_rfl) hs 1 rfl (vs := ([.int .i64 r9_0] : List Value) ++ enc .u64 r9_1 ++ ([.int .i64 r9_2, .bool r9_3] : List Value)) (n := 28) (by kernel_rfl) (by kernel_rfl) (by kernel_rfl) (by simp [enc_len]) (by simp [enc_len]) (one_app (one_app (by simp [Value.oneCell']) (fun u hu => enc_one _ _ u hu)) (by simp [Value.oneCell'])) ?_)
                intro w kp hs
                refine ⟨⟨fun hf => absurd hf (by decide), .all _ _⟩, ?_⟩
                refine wpG.only 9 (by kernel_rfl) (op_storeW (t := 25) (v := .agg (([.int .i64 r19_0] : List Value) ++ enc .u64 r19_1 ++ ([.int .i64 r19_2, .bool r19_3] : List Value)).toArray) (d := none) (by kernel_rfl) hs 0 rfl (vs := ([.int .i64 r19_0] : List Value) ++ enc .u64 r19_1 ++ ([.int .i64 r19_2, .bool r19_3] : List Value)) (n := 28) (by kernel_rfl) (by kernel_rfl) (by kernel_rfl) (by simp [enc_len]) (by simp [enc_len]) (one_app (one_app (by simp [Value.oneCell']) (fun u hu => enc_one _ _ u hu)) (by simp [Value.oneCell'])) ?_)
                intro w kp hs
                refine ⟨⟨fun hf => absurd hf (by decide), .all _ _⟩, ?_⟩
                refine wpG.fin (by kernel_rfl) rfl (kr _ _ ?_)
                obtain ⟨q0, qr0⟩ := Prod.mk.inj (of_some h)
                obtain ⟨q1, qr1⟩ := Prod.mk.inj (qr0)
                obtain ⟨q2, qr2⟩ := Prod.mk.inj (qr1)
                obtain ⟨q3, qr3⟩ := Prod.mk.inj (qr2)
                obtain ⟨q4, qr4⟩ := Prod.mk.inj (qr3)
                obtain ⟨q5, qr5⟩ := Prod.mk.inj (qr4)
                obtain ⟨q6, qr6⟩ := Prod.mk.inj (qr5)
                have q7 := qr6
                subst q0
                subst q1
                subst q2
                subst q3
                subst q4
                subst q5
                subst q6
                subst q7
                exact nj _ _ ⟨b15, b18, (hs.conv rfl), exg (by kernel_rfl)⟩
            · refine (op_alloc (t := 25) (d := (some 8)) (by kernel_rfl) hs (([.int .i64 0] : List Value) ++ enc .u64 (zeroA 25) ++ ([.int .i64 0, .bool false] : List Value)) (.agg (([.int .i64 0] : List Value) ++ enc .u64 (zeroA 25) ++ ([.int .i64 0, .bool false] : List Value)).toArray) (by kernel_rfl) (by kernel_rfl) (by kernel_rfl) ?_)
              intro b20 w gw hs
              refine ⟨.of gw, ?_⟩
              refine wpG.many [5, 6] (by kernel_rfl) (by decide) (forall_cons ?_ (forall_cons ?_ forall_nil))
              · obtain ⟨⟨r21_0, r21_1, r21_2, r21_3⟩, hg, h⟩ := of_bind h
                refine (op_call (d := (some 31)) (by kernel_rfl) hs (fun _ => by kernel_rfl) (ref08_Absorb.ok hg _ (hs.rowR 0 rfl)) ?_)
                intro w gw hs
                refine ⟨.of gw, ?_⟩
                refine wpG.only 6 (by kernel_rfl) (op_alloc (t := 25) (d := (some 7)) (by kernel_rfl) hs (([.int .i64 0] : List Value) ++ enc .u64 (zeroA 25) ++ ([.int .i64 0, .bool false] : List Value)) (.agg (([.int .i64 0] : List Value) ++ enc .u64 (zeroA 25) ++ ([.int .i64 0, .bool false] : List Value)).toArray) (by kernel_rfl) (by kernel_rfl) (by kernel_rfl) ?_)
                intro b22 w gw hs
                refine ⟨.of gw, ?_⟩
                refine wpG.only 8 (by kernel_rfl) (op_storeW (t := 25) (v := .agg (([.int .i64 r9_0] : List Value) ++ enc .u64 r9_1 ++ ([.int .i64 r9_2, .bool r9_3] : List Value)).toArray) (d := none) (by kernel_rfl) hs 0 rfl (vs := ([.int .i64 r9_0] : List Value) ++ enc .u64 r9_1 ++ ([.int .i64 r9_2, .bool r9_3] : List Value)) (n := 28) (by kernel_rfl) (by kernel_rfl) (by kernel_rfl) (by simp [enc_len]) (by simp [enc_len]) (one_app (one_app (by simp [Value.oneCell']) (fun u hu => enc_one _ _ u hu)) (by simp [Value.oneCell'])) ?_)
                intro w kp hs
                refine ⟨⟨fun hf => absurd hf (by decide), .all _ _⟩, ?_⟩
                refine wpG.only 9 (by kernel_rfl) (op_storeW (t := 25) (v := .agg (([.int .i64 r21_0] : List Value) ++ enc .u64 r21_1 ++ ([.int .i64 r21_2, .bool r21_3] : List Value)).toArray) (d := none) (by kernel_rfl) hs 1 rfl (vs := ([.int .i64 r21_0] : List Value) ++ enc .u64 r21_1 ++ ([.int .i64 r21_2, .bool r21_3] : List Value)) (n := 28) (by kernel_rfl) (by kernel_rfl) (by kernel_rfl) (by simp [enc_len]) (by simp [enc_len]) (one_app (one_app (by simp [Value.oneCell']) (fun u hu => enc_one _ _ u hu)) (by simp [Value.oneCell'])) ?_)
                intro w kp hs
                refine ⟨⟨fun hf => absurd hf (by decide), .all _ _⟩, ?_⟩
                refine wpG.fin (by kernel_rfl) rfl (kr _ _ ?_)
                obtain ⟨q0, qr0⟩ := Prod.mk.inj (of_some h)
                obtain ⟨q1, qr1⟩ := Prod.mk.inj (qr0)
                obtain ⟨q2, qr2⟩ := Prod.mk.inj (qr1)
                obtain ⟨q3, qr3⟩ := Prod.mk.inj (qr2)
                obtain ⟨q4, qr4⟩ := Prod.mk.inj (qr3)
                obtain ⟨q5, qr5⟩ := Prod.mk.inj (qr4)
                obtain ⟨q6, qr6⟩ := Prod.mk.inj (qr5)
                have q7 := qr6
                subst q0
                subst q1
                subst q2
                subst q3
                subst q4
                subst q5
                subst q6
                subst q7
                have hs := (hs.front 2 rfl).conv (L' := [.blk b1 (([.int .i64 a0_0] : List Value) ++ enc .u64 a0_1 ++ ([.int .i64 a0_2, .bool a0_3] : List Value)) 25, .blk b22 (([.int .i64 r9_0] : List Value) ++ enc .u64 r9_1 ++ ([.int .i64 r9_2, .bool r9_3] : List Value)) 25, .blk b20 (([.int .i64 r21_0] : List Value) ++ enc .u64 r21_1 ++ ([.int .i64 r21_2, .bool r21_3] : List Value)) 25]) rfl
                have hs := (hs.front 1 rfl).conv (L' := [.blk b22 (([.int .i64 r9_0] : List Value) ++ enc .u64 r9_1 ++ ([.int .i64 r9_2, .bool r9_3] : List Value)) 25, .blk b1 (([.int .i64 a0_0] : List Value) ++ enc .u64 a0_1 ++ ([.int .i64 a0_2, .bool a0_3] : List Value)) 25, .blk b20 (([.int .i64 r21_0] : List Value) ++ enc .u64 r21_1 ++ ([.int .i64 r21_2, .bool r21_3] : List Value)) 25]) rfl
                have hs := (hs.front 2 rfl).conv (L' := [.blk b20 (([.int .i64 r21_0] : List Value) ++ enc .u64 r21_1 ++ ([.int .i64 r21_2, .bool r21_3] : List Value)) 25, .blk b22 (([.int .i64 r9_0] : List Value) ++ enc .u64 r9_1 ++ ([.int .i64 r9_2, .bool r9_3] : List Value)) 25, .blk b1 (([.int .i64 a0_0] : List Value) ++ enc .u64 a0_1 ++ ([.int .i64 a0_2, .bool a0_3] : List Value)) 25]) rfl
                exact nj _ _ ⟨b22, b20, (hs.conv rfl), exg (by kernel_rfl)⟩
              · refine (op_alloc (t := 25) (d := (some 7)) (by kernel_rfl) hs (([.int .i64 0] : List Value) ++ enc .u64 (zeroA 25) ++ ([.int .i64 0, .bool false] : List Value)) (.agg (([.int .i64 0] : List Value) ++ enc .u64 (zeroA 25) ++ ([.int .i64 0, .bool false] : List Value)).toArray) (by kernel_rfl) (by kernel_rfl) (by kernel_rfl) ?_)
                intro b23 w gw hs
                refine ⟨.of gw, ?_⟩
                obtain ⟨⟨r24_0, r24_1, r24_2, r24_3⟩, hg, h⟩ := of_bind h
                refine wpG.only 5 (by kernel_rfl) (op_call (d := (some 31)) (by kernel_rfl) hs (fun _ => by kernel_rfl) (ref08_Absorb.ok hg _ (hs.rowR 0 rfl)) ?_)
                intro w gw hs
                refine ⟨.of gw, ?_⟩
                refine wpG.only 8 (by kernel_rfl) (op_storeW (t := 25) (v := .agg (([.int .i64 r9_0] : List Value) ++ enc .u64 r9_1 ++ ([.int .i64 r9_2, .bool r9_3] : List Value)).toArray) (d := none) (by kernel_rfl) hs 0 rfl (vs := ([.int .i64 r9_0] : List Value) ++ enc .u64 r9_1 ++ ([.int .i64 r9_2, .bool r9_3] : List Value)) (n := 28) (by kernel_rfl) (by kernel_rfl) (by kernel_rfl) (by simp [enc_len]) (by simp [enc_len]) (one_app (one_app (by simp [Value.oneCell']) (fun u hu => enc_one _ _ u hu)) (by simp [Value.oneCell'])) ?_)
                intro w kp hs
                refine ⟨⟨fun hf => absurd hf (by decide), .all _ _⟩, ?_⟩
                refine wpG.only 9 (by kernel_rfl) (op_storeW (t := 25) (v := .agg (([.int .i64 r24_0] : List Value) ++ enc .u64 r24_1 ++ ([.int .i64 r24_2, .bool r24_3] : List Value)).toArray) (d := none) (by kernel_rfl) hs 1 rfl (vs := ([.int .i64 r24_0] : List Value) ++ enc .u64 r24_1 ++ ([.int .i64 r24_2, .bool r24_3] : List Value)) (n := 28) (by kernel_rfl) (by kernel_rfl) (by kernel_rfl) (by simp [enc_len]) (by simp [enc_len]) (one_app (one_app (by simp [Value.oneCell']) (fun u hu => enc_one _ _ u hu)) (by simp [Value.oneCell'])) ?_)
                intro w kp hs
                refine ⟨⟨fun hf => absurd hf (by decide), .all _ _⟩, ?_⟩
                refine wpG.fin (by kernel_rfl) rfl (kr _ _ ?_)
                obtain ⟨q0, qr0⟩ := Prod.mk.inj (of_some h)
                obtain ⟨q1, qr1⟩ := Prod.mk.inj (qr0)
                obtain ⟨q2, qr2⟩ := Prod.mk.inj (qr1)
                obtain ⟨q3, qr3⟩ := Prod.mk.inj (qr2)
                obtain ⟨q4, qr4⟩ := Prod.mk.inj (qr3)
                obtain ⟨q5, qr5⟩ := Prod.mk.inj (qr4)
                obtain ⟨q6, qr6⟩ := Prod.mk.inj (qr5)
                have q7 := qr6
                subst q0
                subst q1
                subst q2
                subst q3
                subst q4
                subst q5
                subst q6
                subst q7
                have hs := (hs.front 2 rfl).conv (L' := [.blk b1 (([.int .i64 a0_0] : List Value) ++ enc .u64 a0_1 ++ ([.int .i64 a0_2, .bool a0_3] : List Value)) 25, .blk b23 (([.int .i64 r9_0] : List Value) ++ enc .u64 r9_1 ++ ([.int .i64 r9_2, .bool r9_3] : List Value)) 25, .blk b20 (([.int .i64 r24_0] : List Value) ++ enc .u64 r24_1 ++ ([.int .i64 r24_2, .bool r24_3] : List Value)) 25]) rfl
                have hs := (hs.front 1 rfl).conv (L' := [.blk b23 (([.int .i64 r9_0] : List Value) ++ enc .u64 r9_1 ++ ([.int .i64 r9_2, .bool r9_3] : List Value)) 25, .blk b1 (([.int .i64 a0_0] : List Value) ++ enc .u64 a0_1 ++ ([.int .i64 a0_2, .bool a0_3] : List Value)) 25, .blk b20 (([.int .i64 r24_0] : List Value) ++ enc .u64 r24_1 ++ ([.int .i64 r24_2, .bool r24_3] : List Value)) 25]) rfl
                have hs := (hs.front 2 rfl).conv (L' := [.blk b20 (([.int .i64 r24_0] : List Value) ++ enc .u64 r24_1 ++ ([.int .i64 r24_2, .bool r24_3] : List Value)) 25, .blk b23 (([.int .i64 r9_0] : List Value) ++ enc .u64 r9_1 ++ ([.int .i64 r9_2, .bool r9_3] : List Value)) 25, .blk b1 (([.int .i64 a0_0] : List Value) ++ enc .u64 a0_1 ++ ([.int .i64 a0_2, .bool a0_3] : List Value)) 25]) rfl
                exact nj _ _ ⟨b23, b20, (hs.conv rfl), exg (by kernel_rfl)⟩
          · refine (op_alloc (t := 25) (d := (some 7)) (by kernel_rfl) hs (([.int .i64 0] : List Value) ++ enc .u64 (zeroA 25) ++ ([.int .i64 0, .bool false] : List Value)) (.agg (([.int .i64 0] : List Value) ++ enc .u64 (zeroA 25) ++ ([.int .i64 0, .bool false] : List Value)).toArray) (by kernel_rfl) (by kernel_rfl) (by kernel_rfl) ?_)
            intro b25 w gw hs
            refine ⟨.of gw, ?_⟩
            refine wpG.many [2, 7] (by kernel_rfl) (by decide) (forall_cons ?_ (forall_cons ?_ forall_nil))
            · obtain ⟨⟨r26_0, r26_1, r26_2, r26_3⟩, hg, h⟩ := of_bind h
              refine (op_call (d := (some 28)) (by kernel_rfl) hs (fun _ => by kernel_rfl) (keccak_Absorb.ok hg _ (hs.rowR 0 rfl) (hs.rowR 1 rfl) (hs.rowR 2 rfl) (hs.rowR 3 rfl)) ?_)
              intro w gw hs
              refine ⟨.of gw, ?_⟩
              refine wpG.many [5, 7] (by kernel_rfl) (by decide) (forall_cons ?_ (forall_cons ?_ forall_nil))
              · obtain ⟨⟨r27_0, r27_1, r27_2, r27_3⟩, hg, h⟩ := of_bind h
                refine (op_call (d := (some 31)) (by kernel_rfl) hs (fun _ => by kernel_rfl) (ref08_Absorb.ok hg _ (hs.rowR 0 rfl)) ?_)
                intro w gw hs
                refine ⟨.of gw, ?_⟩
                refine wpG.only 7 (by kernel_rfl) (op_alloc (t := 25) (d := (some 8)) (by kernel_rfl) hs (([.int .i64 0] : List Value) ++ enc .u64 (zeroA 25) ++ ([.int .i64 0, .bool false] : List Value)) (.agg (([.int .i64 0] : List Value) ++ enc .u64 (zeroA 25) ++ ([.int .i64 0, .bool false] : List Value)).toArray) (by kernel_rfl) (by kernel_rfl) (by kernel_rfl) ?_)
                intro b28 w gw hs
                refine ⟨.of gw, ?_⟩
                refine wpG.only 8 (by kernel_rfl) (op_storeW (t := 25) (v := .agg (([.int .i64 r26_0] : List Value) ++ enc .u64 r26_1 ++ ([.int .i64 r26_2, .bool r26_3] : List Value)).toArray) (d := none) (by kernel_rfl) hs 1 rfl (vs := ([.int .i64 r26_0] : List Value) ++ enc .u64 r26_1 ++ ([.int .i64 r26_2, .bool r26_3] : List Value)) (n := 28) (by kernel_rfl) (by kernel_rfl) (by kernel_rfl) (by simp [enc_len]) (by simp [enc_len]) (one_app (one_app (by simp [Value.oneCell']) (fun u hu => enc_one _ _ u hu)) (by simp [Value.oneCell'])) ?_)
                intro w kp hs
                refine ⟨⟨fun hf => absurd hf (by decide), .all _ _⟩, ?_⟩
                refine wpG.only 9 (by kernel_rfl) (op_storeW (t := 25) (v := .agg (([.int .i64 r27_0] : List Value) ++ enc .u64 r27_1 ++ ([.int .i64 r27_2, .bool r27_3] : List Value)).toArray) (d := none) (by kernel_rfl) hs 0 rfl (vs := ([.int .i64 r27_0] : List Value) ++ enc .u64 r27_1 ++ ([.int .i64 r27_2, .bool r27_3] : List Value)) (n := 28) (by kernel_rfl) (by kernel_rfl) (by kernel_rfl) (by simp [enc_len]) (by simp [enc_len]) (one_app (one_app (by simp [Value.oneCell']) (fun u hu => enc_one _ _ u hu)) (by simp [Value.oneCell'])) ?_)
                intro w kp hs
                refine ⟨⟨fun hf => absurd hf (by decide), .all _ _⟩, ?_⟩
                refine wpG.fin (by kernel_rfl) rfl (kr _ _ ?_)
                obtain ⟨q0, qr0⟩ := Prod.mk.inj (of_some h)
                obtain ⟨q1, qr1⟩ := Prod.mk.inj (qr0)
                obtain ⟨q2, qr2⟩ := Prod.mk.inj (qr1)
                obtain ⟨q3, qr3⟩ := Prod.mk.inj (qr2)
                obtain ⟨q4, qr4⟩ := Prod.mk.inj (qr3)
                obtain ⟨q5, qr5⟩ := Prod.mk.inj (qr4)
                obtain ⟨q6, qr6⟩ := Prod.mk.inj (qr5)
                have q7 := qr6
                subst q0
                subst q1
                subst q2
                subst q3
                subst q4
                subst q5
                subst q6
                subst q7
                exact nj _ _ ⟨b25, b28, (hs.conv rfl), exg (by kernel_rfl)⟩
              · refine (op_alloc (t := 25) (d := (some 8)) (by kernel_rfl) hs (([.int .i64 0] : List Value) ++ enc .u64 (zeroA 25) ++ ([.int .i64 0, .bool false] : List Value)) (.agg (([.int .i64 0] : List Value) ++ enc .u64 (zeroA 25) ++ ([.int .i64 0, .bool false] : List Value)).toArray) (by kernel_rfl) (by kernel_rfl) (by kernel_rfl) ?_)
                intro b29 w gw hs
                refine ⟨.of gw, ?_⟩
                obtain ⟨⟨r30_0, r30_1, r30_2, r30_3⟩, hg, h⟩ := of_bind h
                refine wpG.only 5 (by kernel_rfl) (op_call (d := (some 31)) (by kernel_rfl) hs (fun _ => by kernel_rfl) (ref08_Absorb.ok hg _ (hs.rowR 0 rfl)) ?_)
                intro w gw hs
                refine ⟨.of gw, ?_⟩
                refine wpG.only 8 (by kernel_rfl) (op_storeW (t := 25) (v := .agg (([.int .i64 r26_0] : List Value) ++ enc .u64 r26_1 ++ ([.int .i64 r26_2, .bool r26_3] : List Value)).toArray) (d := none) (by kernel_rfl) hs 1 rfl (vs := ([.int .i64 r26_0] : List Value) ++ enc .u64 r26_1 ++ ([.int .i64 r26_2, .bool r26_3] : List Value)) (n := 28) (by kernel_rfl) (by kernel_rfl) (by kernel_rfl) (by simp [enc_len]) (by simp [enc_len]) (one_app (one_app (by simp [Value.oneCell']) (fun u hu => enc_one _ _ u hu)) (by simp [Value.oneCell'])) ?_)
                intro w kp hs
                refine ⟨⟨fun hf => absurd hf (by decide), .all _ _⟩, ?_⟩
                refine wpG.only 9 (by kernel_rfl) (op_storeW (t := 25) (v := .agg (([.int .i64 r30_0] : List Value) ++ enc .u64 r30_1 ++ ([.int .i64 r30_2, .bool r30_3] : List Value)).toArray) (d := none) (by kernel_rfl) hs 0 rfl (vs := ([.int .i64 r30_0] : List Value) ++ enc .u64 r30_1 ++ ([.int .i64 r30_2, .bool r30_3] : List Value)) (n := 28) (by kernel_rfl) (by kernel_rfl) (by kernel_rfl) (by simp [enc_len]) (by simp [enc_len]) (one_app (one_app (by simp [Value.oneCell']) (fun u hu => enc_one _ _ u hu)) (by simp [Value.oneCell'])) ?_)
                intro w kp hs
                refine ⟨⟨fun hf => absurd hf (by decide), .all _ _⟩, ?_⟩
                refine wpG.fin (by kernel_rfl) rfl (kr _ _ ?_)
                obtain ⟨q0, qr0⟩ := Prod.mk.inj (of_some h)
                obtain ⟨q1, qr1⟩ := Prod.mk.inj (qr0)
                obtain ⟨q2, qr2⟩ := Prod.mk.inj (qr1)
                obtain ⟨q3, qr3⟩ := Prod.mk.inj (qr2)
                obtain ⟨q4, qr4⟩ := Prod.mk.inj (qr3)
                obtain ⟨q5, qr5⟩ := Prod.mk.inj (qr4)
                obtain ⟨q6, qr6⟩ := Prod.mk.inj (qr5)
                have q7 := qr6
                subst q0
                subst q1
                subst q2
                subst q3
                subst q4
                subst q5
                subst q6
                subst q7
                exact nj _ _ ⟨b25, b29, (hs.conv rfl), exg (by kernel_rfl)⟩
            · refine (op_alloc (t := 25) (d := (some 8)) (by kernel_rfl) hs (([.int .i64 0] : List Value) ++ enc .u64 (zeroA 25) ++ ([.int .i64 0, .bool false] : List Value)) (.agg (([.int .i64 0] : List Value) ++ enc .u64 (zeroA 25) ++ ([.int .i64 0, .bool false] : List Value)).toArray) (by kernel_rfl) (by kernel_rfl) (by kernel_rfl) ?_)
              intro b31 w gw hs
              refine ⟨.of gw, ?_⟩
              obtain ⟨⟨r32_0, r32_1, r32_2, r32_3⟩, hg, h⟩ := of_bind h
              refine wpG.only 2 (by kernel_rfl) (op_call (d := (some 28)) (by kernel_rfl) hs (fun _ => by kernel_rfl) (keccak_Absorb.ok hg _ (hs.rowR 0 rfl) (hs.rowR 1 rfl) (hs.rowR 2 rfl) (hs.rowR 3 rfl)) ?_)
              intro w gw hs
              refine ⟨.of gw, ?_⟩
              obtain ⟨⟨r33_0, r33_1, r33_2, r33_3⟩, hg, h⟩ := of_bind h
              refine wpG.only 5 (by kernel_rfl) (op_call (d := (some 31)) (by kernel_rfl) hs (fun _ => by kernel_rfl) (ref08_Absorb.ok hg _ (hs.rowR 0 rfl)) ?_)
              intro w gw hs
              refine ⟨.of gw, ?_⟩
              refine wpG.only 8 (by kernel_rfl) (op_storeW (t := 25) (v := .agg (([.int .i64 r32_0] : List Value) ++ enc .u64 r32_1 ++ ([.int .i64 r32_2, .bool r32_3] : List Value)).toArray) (d := none) (by kernel_rfl) hs 1 rfl (vs := ([.int .i64 r32_0] : List Value) ++ enc .u64 r32_1 ++ ([.int .i64 r32_2, .bool r32_3] : List Value)) (n := 28) (by kernel_rfl) (by kernel_rfl) (by kernel_rfl) (by simp [enc_len]) (by simp [enc_len]) (one_app (one_app (by simp [Value.oneCell']) (fun u hu => enc_one _ _ u hu)) (by simp [Value.oneCell'])) ?_)
              intro w kp hs
              refine ⟨⟨fun hf => absurd hf (by decide), .all _ _⟩, ?_⟩
              refine wpG.only 9 (by kernel_rfl) (op_storeW (t := 25) (v := .agg (([.int .i64 r33_0] : List Value) ++ enc .u64 r33_1 ++ ([.int .i64 r33_2, .bool r33_3] : List Value)).toArray) (d := none) (by kernel_rfl) hs 0 rfl (vs := ([.int .i64 r33_0] : List Value) ++ enc .u64 r33_1 ++ ([.int .i64 r33_2, .bool r33_3] : List Value)) (n := 28) (by kernel_rfl) (by kernel_rfl) (by kernel_rfl) (by simp [enc_len]) (by simp [enc_len]) (one_app (one_app (by simp [Value.oneCell']) (fun u hu => enc_one _ _ u hu)) (by simp [Value.oneCell'])) ?_)
              intro w kp hs
              refine ⟨⟨fun hf => absurd hf (by decide), .all _ _⟩, ?_⟩
              refine wpG.fin (by kernel_rfl) rfl (kr _ _ ?_)
              obtain ⟨q0, qr0⟩ := Prod.mk.inj (of_some h)
              obtain ⟨q1, qr1⟩ := Prod.mk.inj (qr0)
              obtain ⟨q2, qr2⟩ := Prod.mk.inj (qr1)
              obtain ⟨q3, qr3⟩ := Prod.mk.inj (qr2)
              obtain ⟨q4, qr4⟩ := Prod.mk.inj (qr3)
              obtain ⟨q5, qr5⟩ := Prod.mk.inj (qr4)
              obtain ⟨q6, qr6⟩ := Prod.mk.inj (qr5)
              have q7 := qr6
              subst q0
              subst q1
              subst q2
              subst q3
              subst q4
              subst q5
              subst q6
              subst q7
              exact nj _ _ ⟨b25, b31, (hs.conv rfl), exg (by kernel_rfl)⟩
          · refine (op_alloc (t := 25) (d := (some 8)) (by kernel_rfl) hs (([.int .i64 0] : List Value) ++ enc .u64 (zeroA 25) ++ ([.int .i64 0, .bool false] : List Value)) (.agg (([.int .i64 0] : List Value) ++ enc .u64 (zeroA 25) ++ ([.int .i64 0, .bool false] : List Value)).toArray) (by kernel_rfl) (by kernel_rfl) (by kernel_rfl) ?_)
            intro b34 w gw hs
            refine ⟨.of gw, ?_⟩
            refine wpG.many [2, 6] (by kernel_rfl) (by decide) (forall_cons ?_ (forall_cons ?_ forall_nil))
            · obtain ⟨⟨r35_0, r35_1, r35_2, r35_3⟩, hg, h⟩ := of_bind h
              refine (op_call (d := (some 28)) (by kernel_rfl) hs (fun _ => by kernel_rfl) (keccak_Absorb.ok hg _ (hs.rowR 0 rfl) (hs.rowR 1 rfl) (hs.rowR 2 rfl) (hs.rowR 3 rfl)) ?_)
              intro w gw hs
              refine ⟨.of gw, ?_⟩
              refine wpG.many [5, 6] (by kernel_rfl) (by decide) (forall_cons ?_ (forall_cons ?_ forall_nil))
              · obtain ⟨⟨r36_0, r36_1, r36_2, r36_3⟩, hg, h⟩ := of_bind h
                refine (op_call (d := (some 31)) (by kernel_rfl) hs (fun _ => by kernel_rfl) (ref08_Absorb.ok hg _ (hs.rowR 0 rfl)) ?_)
                intro w gw hs
                refine ⟨.of gw, ?_⟩
                refine wpG.only 6 (by kernel_rfl) (op_alloc (t := 25) (d := (some 7)) (by kernel_rfl) hs (([.int .i64 0] : List Value) ++ enc .u64 (zeroA 25) ++ ([.int .i64 0, .bool false] : List Value)) (.agg (([.int .i64 0] : List Value) ++ enc .u64 (zeroA 25) ++ ([.int .i64 0, .bool false] : List Value)).toArray) (by kernel_rfl) (by kernel_rfl) (by kernel_rfl) ?_)
                intro b37 w gw hs
                refine ⟨.of gw, ?_⟩
                refine wpG.only 8 (by kernel_rfl) (op_storeW (t := 25) (v := .agg (([.int .i64 r35_0] : List Value) ++ enc .u64 r35_1 ++ ([.int .i64 r35_2, .bool r35_3] : List Value)).toArray) (d := none) (by kernel_rfl) hs 0 rfl (vs := ([.int .i64 r35_0] : List Value) ++ enc .u64 r35_1 ++ ([.int .i64 r35_2, .bool r35_3] : List Value)) (n := 28) (by kernel_rfl) (by kernel_rfl) (by kernel_rfl) (by simp [enc_len]) (by simp [enc_len]) (one_app (one_app (by simp [Value.oneCell']) (fun u hu => enc_one _ _ u hu)) (by simp [Value.oneCell'])) ?_)
                intro w kp hs
                refine ⟨⟨fun hf => absurd hf (by decide), .all _ _⟩, ?_⟩
                refine wpG.only 9 (by kernel_rfl) (op_storeW (t := 25) (v := .agg (([.int .i64 r36_0] : List Value) ++ enc .u64 r36_1 ++ ([.int .i64 r36_2, .bool r36_3] : List Value)).toArray) (d := none) (by kernel_rfl) hs 1 rfl (vs := ([.int .i64 r36_0] : List Value) ++ enc .u64 r36_1 ++ ([.int .i64 r36_2, .bool r36_3] : List Value)) (n := 28) (by kernel_rfl) (by kernel_rfl) (by kernel_rfl) (by simp [enc_len]) (by simp [enc_len]) (one_app (one_app (by simp [Value.oneCell']) (fun u hu => enc_one _ _ u hu)) (by simp [Value.oneCell'])) ?_)
                intro w kp hs
                refine ⟨⟨fun hf => absurd hf (by decide), .all _ _⟩, ?_⟩
                refine wpG.fin (by kernel_rfl) rfl (kr _ _ ?_)
                obtain ⟨q0, qr0⟩ := Prod.mk.inj (of_some h)
                obtain ⟨q1, qr1⟩ := Prod.mk.inj (qr0)
                obtain ⟨q2, qr2⟩ := Prod.mk.inj (qr1)
                obtain ⟨q3, qr3⟩ := Prod.mk.inj (qr2)
                obtain ⟨q4, qr4⟩ := Prod.mk.inj (qr3)
                obtain ⟨q5, qr5⟩ := Prod.mk.inj (qr4)
                obtain ⟨q6, qr6⟩ := Prod.mk.inj (qr5)
                have q7 := qr6
                subst q0
                subst q1
                subst q2
                subst q3
                subst q4
                subst q5
                subst q6
                subst q7
                have hs := (hs.front 2 rfl).conv (L' := [.blk b1 (([.int .i64 a0_0] : List Value) ++ enc .u64 a0_1 ++ ([.int .i64 a0_2, .bool a0_3] : List Value)) 25, .blk b37 (([.int .i64 r35_0] : List Value) ++ enc .u64 r35_1 ++ ([.int .i64 r35_2, .bool r35_3] : List Value)) 25, .blk b34 (([.int .i64 r36_0] : List Value) ++ enc .u64 r36_1 ++ ([.int .i64 r36_2, .bool r36_3] : List Value)) 25]) rfl
                have hs := (hs.front 1 rfl).conv (L' := [.blk b37 (([.int .i64 r35_0] : List Value) ++ enc .u64 r35_1 ++ ([.int .i64 r35_2, .bool r35_3] : List Value)) 25, .blk b1 (([.int .i64 a0_0] : List Value) ++ enc .u64 a0_1 ++ ([.int .i64 a0_2, .bool a0_3] : List Value)) 25, .blk b34 (([.int .i64 r36_0] : List Value) ++ enc .u64 r36_1 ++ ([.int .i64 r36_2, .bool r36_3] : List Value)) 25]) rfl
                have hs := (hs.front 2 rfl).conv (L' := [.blk b34 (([.int .i64 r36_0] : List Value) ++ enc .u64 r36_1 ++ ([.int .i64 r36_2, .bool r36_3] : List Value)) 25, .blk b37 (([.int .i64 r35_0] : List Value) ++ enc .u64 r35_1 ++ ([.int .i64 r35_2, .bool r35_3] : List Value)) 25, .blk b1 (([.int .i64 a0_0] : List Value) ++ enc .u64 a0_1 ++ ([.int .i64 a0_2, .bool a0_3] : List Value)) 25]) rfl
                exact nj _ _ ⟨b37, b34, (hs.conv rfl), exg (by kernel_rfl)⟩
              · refine (op_alloc (t := 25) (d := (some 7)) (by kernel_rfl) hs (([.int .i64 0] : List Value) ++ enc .u64 (zeroA 25) ++ ([.int .i64 0, .bool false] : List Value)) (.agg (([.int .i64 0] : List Value) ++ enc .u64 (zeroA 25) ++ ([.int .i64 0, .bool false] : List Value)).toArray) (by kernel_rfl) (by kernel_rfl) (by kernel_rfl) ?_)
                intro b38 w gw hs
                refine ⟨.of gw, ?_⟩
                obtain ⟨⟨r39_0, r39_1, r39_2, r39_3⟩, hg, h⟩ := of_bind h
                refine wpG.only 5 (by kernel_rfl) (op_call (d := (some 31)) (by kernel_rfl) hs (fun _ => by kernel_rfl) (ref08_Absorb.ok hg _ (hs.rowR 0 rfl)) ?_)
                intro w gw hs
                refine ⟨.of gw, ?_⟩
                refine wpG.only 8 (by kernel_rfl) (op_storeW (t := 25) (v := .agg (([.int .i64 r35_0] : List Value) ++ enc .u64 r35_1 ++ ([.int .i64 r35_2, .bool r35_3] : List Value)).toArray) (d := none) (by kernel_rfl) hs 0 rfl (vs := ([.int .i64 r35_0] : List Value) ++ enc .u64 r35_1 ++ ([.int .i64 r35_2, .bool r35_3] : List Value)) (n := 28) (by kernel_rfl) (by kernel_rfl) (by kernel_rfl) (by simp [enc_len]) (by simp [enc_len]) (one_app (one_app (by simp [Value.oneCell']) (fun u hu => enc_one _ _ u hu)) (by simp [Value.oneCell'])) ?_)
                intro w kp hs
                refine ⟨⟨fun hf => absurd hf (by decide), .all _ _⟩, ?_⟩
                refine wpG.only 9 (by kernel_rfl) (op_storeW (t := 25) (v := .agg (([.int .i64 r39_0] : List Value) ++ enc .u64 r39_1 ++ ([.int .i64 r39_2, .bool r39_3] : List Value)).toArray) (d := none) (by kernel_rfl) hs 1 rfl (vs := ([.int .i64 r39_0] : List Value) ++ enc .u64 r39_1 ++ ([.int .i64 r39_2, .bool r39_3] : List Value)) (n := 28) (by kernel_rfl) (by kernel_rfl) (by kernel_rfl) (by simp [enc_len]) (by simp [enc_len]) (one_app (one_app (by simp [Value.oneCell']) (fun u hu => enc_one _ _ u hu)) (by simp [Value.oneCell'])) ?_)
                intro w kp hs
                refine ⟨⟨fun hf => absurd hf (by decide), .all _ _⟩, ?_⟩
                refine wpG.fin (by kernel_rfl) rfl (kr _ _ ?_)
                obtain ⟨q0, qr0⟩ := Prod.mk.inj (of_some h)
                obtain ⟨q1, qr1⟩ := Prod.mk.inj (qr0)
                obtain ⟨q2, qr2⟩ := Prod.mk.inj (qr1)
                obtain ⟨q3, qr3⟩ := Prod.mk.inj (qr2)
                obtain ⟨q4, qr4⟩ := Prod.mk.inj (qr3)
                obtain ⟨q5, qr5⟩ := Prod.mk.inj (qr4)
                obtain ⟨q6, qr6⟩ := Prod.mk.inj (qr5)
                have q7 := qr6
                subst q0
                subst q1
                subst q2
                subst q3
                subst q4
                subst q5
                subst q6
                subst q7
                have hs := (hs.front 2 rfl).conv (L' := [.blk b1 (([.int .i64 a0_0] : List Value) ++ enc .u64 a0_1 ++ ([.int .i64 a0_2, .bool a0_3] : List Value)) 25, .blk b38 (([.int .i64 r35_0] : List Value) ++ enc .u64 r35_1 ++ ([.int .i64 r35_2, .bool r35_3] : List Value)) 25, .blk b34 (([.int .i64 r39_0] : List Value) ++ enc .u64 r39_1 ++ ([.int .i64 r39_2, .bool r39_3] : List Value)) 25]) rfl
                have hs := (hs.front 1 rfl).conv (L' := [.blk b38 (([.int .i64 r35_0] : List Value) ++ enc .u64 r35_1 ++ ([.int .i64 r35_2, .bool r35_3] : List Value)) 25, .blk b1 (([.int .i64 a0_0] : List Value) ++ enc .u64 a0_1 ++ ([.int .i64 a0_2, .bool a0_3] : List Value)) 25, .blk b34 (([.int .i64 r39_0] : List Value) ++ enc .u64 r39_1 ++ ([.int .i64 r39_2, .bool r39_3] : List Value)) 25]) rfl
                have hs := (hs.front 2 rfl).conv (L' := [.blk b34 (([.int .i64 r39_0] : List Value) ++ enc .u64 r39_1 ++ ([.int .i64 r39_2, .bool r39_3] : List Value)) 25, .blk b38 (([.int .i64 r35_0] : List Value) ++ enc .u64 r35_1 ++ ([.int .i64 r35_2, .bool r35_3] : List Value)) 25, .blk b1 (([.int .i64 a0_0] : List Value) ++ enc .u64 a0_1 ++ ([.int .i64 a0_2, .bool a0_3] : List Value)) 25]) rfl
                exact nj _ _ ⟨b38, b34, (hs.conv rfl), exg (by kernel_rfl)⟩
            · refine (op_alloc (t := 25) (d := (some 7)) (by kernel_rfl) hs (([.int .i64 0] : List Value) ++ enc .u64 (zeroA 25) ++ ([.int .i64 0, .bool false] : List Value)) (.agg (([.int .i64 0] : List Value) ++ enc .u64 (zeroA 25) ++ ([.int .i64 0, .bool false] : List Value)).toArray) (by kernel_rfl) (by kernel_rfl) (by kernel_rfl) ?_)
              intro b40 w gw hs
              refine ⟨.of gw, ?_⟩
              obtain ⟨⟨r41_0, r41_1, r41_2, r41_3⟩, hg, h⟩ := of_bind h
              refine wpG.only 2 (by kernel_rfl) (op_call (d := (some 28)) (by kernel_rfl) hs (fun _ => by kernel_rfl) (keccak_Absorb.ok hg _ (hs.rowR 0 rfl) (hs.rowR 1 rfl) (hs.rowR 2 rfl) (hs.rowR 3 rfl)) ?_)
              intro w gw hs
              refine ⟨.of gw, ?_⟩
              obtain ⟨⟨r42_0, r42_1, r42_2, r42_3⟩, hg, h⟩ := of_bind h
              refine wpG.only 5 (by kernel_rfl) (op_call (d := (some 31)) (by kernel_rfl) hs (fun _ => by kernel_rfl) (ref08_Absorb.ok hg _ (hs.rowR 0 rfl)) ?_)
              intro w gw hs
              refine ⟨.of gw, ?_⟩
              refine wpG.only 8 (by kernel_rfl) (op_storeW (t := 25) (v := .agg (([.int .i64 r41_0] : List Value) ++ enc .u64 r41_1 ++ ([.int .i64 r41_2, .bool r41_3] : List Value)).toArray) (d := none) (by kernel_rfl) hs 0 rfl (vs := ([.int .i64 r41_0] : List Value) ++ enc .u64 r41_1 ++ ([.int .i64 r41_2, .bool r41_3] : List Value)) (n := 28) (by kernel_rfl) (by kernel_rfl) (by kernel_rfl) (by simp [enc_len]) (by simp [enc_len]) (one_app (one_app (by simp [Value.oneCell']) (fun u hu => enc_one _ _ u hu)) (by simp [Value.oneCell'])) ?_)
              intro w kp hs
              refine ⟨⟨fun hf => absurd hf (by decide), .all _ _⟩, ?_⟩
              refine wpG.only 9 (by kernel_rfl) (op_storeW (t := 25) (v := .agg (([.int .i64 r42_0] : List Value) ++ enc .u64 r42_1 ++ ([.int .i64 r42_2, .bool r42_3] : List Value)).toArray) (d := none) (by kernel_rfl) hs 1 rfl (vs := ([.int .i64 r42_0] : List Value) ++ enc .u64 r42_1 ++ ([.int .i64 r42_2, .bool r42_3] : List Value)) (n := 28) (by kernel_rfl) (by kernel_rfl) (by kernel_rfl) (by simp [enc_len]) (by simp [enc_len]) (one_app (one_app (by simp [Value.oneCell']) (fun u hu => enc_one _ _ u hu)) (by simp [Value.oneCell'])) ?_)
              intro w kp hs
              refine ⟨⟨fun hf => absurd hf (by decide), .all _ _⟩, ?_⟩
              refine wpG.fin (by kernel_rfl) rfl (kr _ _ ?_)
              obtain ⟨q0, qr0⟩ := Prod.mk.inj (of_some h)
              obtain ⟨q1, qr1⟩ := Prod.mk.inj (qr0)
              obtain ⟨q2, qr2⟩ := Prod.mk.inj (qr1)
              obtain ⟨q3, qr3⟩ := Prod.mk.inj (qr2)
              obtain ⟨q4, qr4⟩ := Prod.mk.inj (qr3)
              obtain ⟨q5, qr5⟩ := Prod.mk.inj (qr4)
              obtain ⟨q6, qr6⟩ := Prod.mk.inj (qr5)
              have q7 := qr6
              subst q0
              subst q1
              subst q2
              subst q3
              subst q4
              subst q5
              subst q6
              subst q7
              have hs := (hs.front 2 rfl).conv (L' := [.blk b1 (([.int .i64 a0_0] : List Value) ++ enc .u64 a0_1 ++ ([.int .i64 a0_2, .bool a0_3] : List Value)) 25, .blk b40 (([.int .i64 r41_0] : List Value) ++ enc .u64 r41_1 ++ ([.int .i64 r41_2, .bool r41_3] : List Value)) 25, .blk b34 (([.int .i64 r42_0] : List Value) ++ enc .u64 r42_1 ++ ([.int .i64 r42_2, .bool r42_3] : List Value)) 25]) rfl
              have hs := (hs.front 1 rfl).conv (L' := [.blk b40 (([.int .i64 r41_0] : List Value) ++ enc .u64 r41_1 ++ ([.int .i64 r41_2, .bool r41_3] : List Value)) 25, .blk b1 (([.int .i64 a0_0] : List Value) ++ enc .u64 a0_1 ++ ([.int .i64 a0_2, .bool a0_3] : List Value)) 25, .blk b34 (([.int .i64 r42_0] : List Value) ++ enc .u64 r42_1 ++ ([.int .i64 r42_2, .bool r42_3] : List Value)) 25]) rfl
              have hs := (hs.front 2 rfl).conv (L' := [.blk b34 (([.int .i64 r42_0] : List Value) ++ enc .u64 r42_1 ++ ([.int .i64 r42_2, .bool r42_3] : List Value)) 25, .blk b40 (([.int .i64 r41_0] : List Value) ++ enc .u64 r41_1 ++ ([.int .i64 r41_2, .bool r41_3] : List Value)) 25, .blk b1 (([.int .i64 a0_0] : List Value) ++ enc .u64 a0_1 ++ ([.int .i64 a0_2, .bool a0_3] : List Value)) 25]) rfl
              exact nj _ _ ⟨b40, b34, (hs.conv rfl), exg (by kernel_rfl)⟩
        · clear hj hs
          rintro a w ⟨b5, b7, hs, g, rfl⟩
          refine then_n (ks10 _ _ ?_)
          refine wp_seq_k fun KS11 ks11 => ?_
          refine wp_regS (l := [0, 1, 2, 3, 4, 5, 6, 7, 8]) (by kernel_rfl) fun KR kr => ?_
          refine wpS.take 0 true (some 33) (.agg (([.int .i64 a0_0] : List Value) ++ enc .u64 a0_1 ++ ([.int .i64 a0_2, .bool a0_3] : List Value)).toArray) (by kernel_rfl) (yld_loadW (e := 25) (n := 28) hs 2 rfl (by kernel_rfl) (by kernel_rfl) (by kernel_rfl) (by simp [enc_len]) .grow) ?_
          refine wpS.take 1 false (some 34) (.int .i64 a2) (by kernel_rfl) (yld fun _ => by kernel_rfl) ?_
          obtain ⟨⟨r43_0, r43_1, r43_2, r43_3, r44⟩, hg, h⟩ := of_bind h
          refine wpS.only 2 (op_callH (d := (some 35)) (by kernel_rfl) hs (fun _ => by kernel_rfl) (keccak_Squeeze.ok hg _ (hs.rowR 1 rfl) (hs.rowR 2 rfl) (hs.rowR 3 rfl)) ?_)
          rintro ⟨r44_A, r44_n, r44_c⟩ w gw hs
          have hs := hs.conv (L' := [.ownL (CI .u8) r44_A r44_n r44_c r44 5, .blk b7 (([.int .i64 y8_0] : List Value) ++ enc .u64 y8_1 ++ ([.int .i64 y8_2, .bool y8_3] : List Value)) 25, .blk b5 (([.int .i64 y6_0] : List Value) ++ enc .u64 y6_1 ++ ([.int .i64 y6_2, .bool y6_3] : List Value)) 25, .blk b1 (([.int .i64 a0_0] : List Value) ++ enc .u64 a0_1 ++ ([.int .i64 a0_2, .bool a0_3] : List Value)) 25]) rfl
          refine ⟨fun _ => trivial, ?_⟩
          refine wpS.take 3 false (some 32) (.tuple #[.agg (([.int .i64 r43_0] : List Value) ++ enc .u64 r43_1 ++ ([.int .i64 r43_2, .bool r43_3] : List Value)).toArray, .slice r44_A r44_n r44_c]) (by kernel_rfl) (yld fun _ => by kernel_rfl) ?_
          refine wpS.take 4 false (some 36) (.agg (([.int .i64 r43_0] : List Value) ++ enc .u64 r43_1 ++ ([.int .i64 r43_2, .bool r43_3] : List Value)).toArray) (by kernel_rfl) (yld fun _ => by kernel_rfl) ?_
          refine wpS.take 5 false (some 37) (.slice r44_A r44_n r44_c) (by kernel_rfl) (yld fun _ => by kernel_rfl) ?_
          refine wpS.only 6 (op_alloc (t := 25) (d := (some 9)) (by kernel_rfl) hs (([.int .i64 0] : List Value) ++ enc .u64 (zeroA 25) ++ ([.int .i64 0, .bool false] : List Value)) (.agg (([.int .i64 0] : List Value) ++ enc .u64 (zeroA 25) ++ ([.int .i64 0, .bool false] : List Value)).toArray) (by kernel_rfl) (by kernel_rfl) (by kernel_rfl) ?_)
          intro b45 w gw hs
          refine ⟨fun _ => trivial, ?_⟩
          refine wpS.only 7 (op_storeW (t := 25) (v := .agg (([.int .i64 r43_0] : List Value) ++ enc .u64 r43_1 ++ ([.int .i64 r43_2, .bool r43_3] : List Value)).toArray) (d := none) (by kernel_rfl) hs 0 rfl (vs := ([.int .i64 r43_0] : List Value) ++ enc .u64 r43_1 ++ ([.int .i64 r43_2, .bool r43_3] : List Value)) (n := 28) (by kernel_rfl) (by kernel_rfl) (by kernel_rfl) (by simp [enc_len]) (by simp [enc_len]) (one_app (one_app (by simp [Value.oneCell']) (fun u hu => enc_one _ _ u hu)) (by simp [Value.oneCell'])) ?_)
          intro w kp hs
          refine ⟨fun _ => trivial, ?_⟩
          refine wpS.take 8 false (some 10) (.slice r44_A r44_n r44_c) (by kernel_rfl) (yld fun _ => by kernel_rfl) ?_
          refine wpS.fin rfl (kr _ _ ?_)
          refine then_n (ks11 _ _ ?_)
          refine wp_seq_k fun KS12 ks12 => ?_
          refine wp_regS (l := [0, 1, 2, 3, 4, 5, 6, 7, 8]) (by kernel_rfl) fun KR kr => ?_
          refine wpS.take 0 true (some 39) (.agg (([.int .i64 a0_0] : List Value) ++ enc .u64 a0_1 ++ ([.int .i64 a0_2, .bool a0_3] : List Value)).toArray) (by kernel_rfl) (yld_loadW (e := 25) (n := 28) hs 4 rfl (by kernel_rfl) (by kernel_rfl) (by kernel_rfl) (by simp [enc_len]) .grow) ?_
          refine wpS.take 1 false (some 40) (.int .i64 a2) (by kernel_rfl) (yld fun _ => by kernel_rfl) ?_
          obtain ⟨⟨r46_0, r46_1, r46_2, r46_3, r47⟩, hg, h⟩ := of_bind h
          refine wpS.only 2 (op_callH (d := (some 41)) (by kernel_rfl) hs (fun _ => by kernel_rfl) (ref08_Squeeze.ok hg _) ?_)
          rintro ⟨r47_A, r47_n, r47_c⟩ w gw hs
          have hs := hs.conv (L' := [.ownL (CI .u8) r47_A r47_n r47_c r47 5, .blk b45 (([.int .i64 r43_0] : List Value) ++ enc .u64 r43_1 ++ ([.int .i64 r43_2, .bool r43_3] : List Value)) 25, .ownL (CI .u8) r44_A r44_n r44_c r44 5, .blk b7 (([.int .i64 y8_0] : List Value) ++ enc .u64 y8_1 ++ ([.int .i64 y8_2, .bool y8_3] : List Value)) 25, .blk b5 (([.int .i64 y6_0] : List Value) ++ enc .u64 y6_1 ++ ([.int .i64 y6_2, .bool y6_3] : List Value)) 25, .blk b1 (([.int .i64 a0_0] : List Value) ++ enc .u64 a0_1 ++ ([.int .i64 a0_2, .bool a0_3] : List Value)) 25]) rfl
          refine ⟨fun _ => trivial, ?_⟩
          refine wpS.take 3 false (some 38) (.tuple #[.agg (([.int .i64 r46_0] : List Value) ++ enc .u64 r46_1 ++ ([.int .i64 r46_2, .bool r46_3] : List Value)).toArray, .slice r47_A r47_n r47_c]) (by kernel_rfl) (yld fun _ => by kernel_rfl) ?_
          refine wpS.take 4 false (some 42) (.agg (([.int .i64 r46_0] : List Value) ++ enc .u64 r46_1 ++ ([.int .i64 r46_2, .bool r46_3] : List Value)).toArray) (by kernel_rfl) (yld fun _ => by kernel_rfl) ?_
          refine wpS.take 5 false (some 43) (.slice r47_A r47_n r47_c) (by kernel_rfl) (yld fun _ => by kernel_rfl) ?_
          refine wpS.only 6 (op_alloc (t := 25) (d := (some 11)) (by kernel_rfl) hs (([.int .i64 0] : List Value) ++ enc .u64 (zeroA 25) ++ ([.int .i64 0, .bool false] : List Value)) (.agg (([.int .i64 0] : List Value) ++ enc .u64 (zeroA 25) ++ ([.int .i64 0, .bool false] : List Value)).toArray) (by kernel_rfl) (by kernel_rfl) (by kernel_rfl) ?_)
          intro b48 w gw hs
          refine ⟨fun _ => trivial, ?_⟩
          refine wpS.only 7 (op_storeW (t := 25) (v := .agg (([.int .i64 r46_0] : List Value) ++ enc .u64 r46_1 ++ ([.int .i64 r46_2, .bool r46_3] : List Value)).toArray) (d := none) (by kernel_rfl) hs 0 rfl (vs := ([.int .i64 r46_0] : List Value) ++ enc .u64 r46_1 ++ ([.int .i64 r46_2, .bool r46_3] : List Value)) (n := 28) (by kernel_rfl) (by kernel_rfl) (by kernel_rfl) (by simp [enc_len]) (by simp [enc_len]) (one_app (one_app (by simp [Value.oneCell']) (fun u hu => enc_one _ _ u hu)) (by simp [Value.oneCell'])) ?_)
          intro w kp hs
          refine ⟨fun _ => trivial, ?_⟩
          refine wpS.take 8 false (some 12) (.slice r47_A r47_n r47_c) (by kernel_rfl) (yld fun _ => by kernel_rfl) ?_
          refine wpS.fin rfl (kr _ _ ?_)
          refine then_n (ks12 _ _ ?_)
          refine wp_seq_k fun KS13 ks13 => ?_
          refine wp_regS (l := [0, 1, 2, 3, 4, 5, 6, 7, 8, 9, 10, 11, 12, 13, 14, 15, 16, 17, 18, 19, 20, 21, 22, 23, 24]) (by kernel_rfl) fun KR kr => ?_
          refine wpS.take 0 true (some 44) (.agg (([.int .i64 y6_0] : List Value) ++ enc .u64 y6_1 ++ ([.int .i64 y6_2, .bool y6_3] : List Value)).toArray) (by kernel_rfl) (yld_loadW (e := 25) (n := 28) hs 5 rfl (by kernel_rfl) (by kernel_rfl) (by kernel_rfl) (by simp [enc_len]) .grow) ?_
          refine wpS.take 1 true (some 45) (.agg (([.int .i64 y8_0] : List Value) ++ enc .u64 y8_1 ++ ([.int .i64 y8_2, .bool y8_3] : List Value)).toArray) (by kernel_rfl) (yld_loadW (e := 25) (n := 28) hs 4 rfl (by kernel_rfl) (by kernel_rfl) (by kernel_rfl) (by simp [enc_len]) .grow) ?_
          rcases of_ifb h with ⟨hc, h⟩ | ⟨hc, h⟩
          · refine wpS.take 2 false (some 46) (.bool true) (by kernel_rfl) (yld_bb hc (yld_eqS (fs := [Field.mk "Kind" 3 0 false "" "" 0, Field.mk "Words" 23 1 false "" "" 8, Field.mk "At" 3 26 false "" "" 208, Field.mk "Out" 4 27 false "" "" 216]) (xs := ([.int .i64 y6_0] : List Value) ++ enc .u64 y6_1 ++ ([.int .i64 y6_2, .bool y6_3] : List Value)) (ys := ([.int .i64 y8_0] : List Value) ++ enc .u64 y8_1 ++ ([.int .i64 y8_2, .bool y8_3] : List Value)) (t := 25) (.tmp 44) (.tmp 45) (by kernel_rfl) (by kernel_rfl) (by kernel_rfl) (by kernel_rfl) (.cons rfl (fun w => Go.Mx.run_part1 (by kernel_rfl) (List.getElem?_toArray.trans (get_pre rfl))) (fun w => Go.Mx.run_part1 (by kernel_rfl) (List.getElem?_toArray.trans (get_pre rfl))) (fun w => Go.Mx.run_equalIn_int (by kernel_rfl)) (.cons rfl (fun w => Go.Mx.run_partN (by kernel_rfl) (by kernel_rfl) (mid_of rfl)) (fun w => Go.Mx.run_partN (by kernel_rfl) (by kernel_rfl) (mid_of rfl)) (fun w => Go.Mx.run_equalA (e := 22) (by kernel_rfl) (by kernel_rfl) (by kernel_rfl) (by kernel_rfl)) (.cons rfl (fun w => Go.Mx.run_part1 (by kernel_rfl) (List.getElem?_toArray.trans (get_post 0 rfl rfl))) (fun w => Go.Mx.run_part1 (by kernel_rfl) (List.getElem?_toArray.trans (get_post 0 rfl rfl))) (fun w => Go.Mx.run_equalIn_int (by kernel_rfl)) (.cons rfl (fun w => Go.Mx.run_part1 (by kernel_rfl) (List.getElem?_toArray.trans (get_post 1 rfl rfl))) (fun w => Go.Mx.run_part1 (by kernel_rfl) (List.getElem?_toArray.trans (get_post 1 rfl rfl))) (fun w => Go.Mx.run_equalIn_bool (by kernel_rfl)) .nil)))))) ?_
            refine wpS.take 3 false (some 47) (.bool true) (by kernel_rfl) (yld fun _ => by kernel_rfl) ?_
            refine wpS.take 4 true (some 48) (.agg (([.int .i64 r43_0] : List Value) ++ enc .u64 r43_1 ++ ([.int .i64 r43_2, .bool r43_3] : List Value)).toArray) (by kernel_rfl) (yld_loadW (e := 25) (n := 28) hs 2 rfl (by kernel_rfl) (by kernel_rfl) (by kernel_rfl) (by simp [enc_len]) .grow) ?_
            refine wpS.take 5 true (some 49) (.agg (([.int .i64 r46_0] : List Value) ++ enc .u64 r46_1 ++ ([.int .i64 r46_2, .bool r46_3] : List Value)).toArray) (by kernel_rfl) (yld_loadW (e := 25) (n := 28) hs 0 rfl (by kernel_rfl) (by kernel_rfl) (by kernel_rfl) (by simp [enc_len]) .grow) ?_
            rcases of_ifb h with ⟨hc, h⟩ | ⟨hc, h⟩
            · refine wpS.take 6 false (some 50) (.bool true) (by kernel_rfl) (yld_bb hc (yld_eqS (fs := [Field.mk "Kind" 3 0 false "" "" 0, Field.mk "Words" 23 1 false "" "" 8, Field.mk "At" 3 26 false "" "" 208, Field.mk "Out" 4 27 false "" "" 216]) (xs := ([.int .i64 r43_0] : List Value) ++ enc .u64 r43_1 ++ ([.int .i64 r43_2, .bool r43_3] : List Value)) (ys := ([.int .i64 r46_0] : List Value) ++ enc .u64 r46_1 ++ ([.int .i64 r46_2, .bool r46_3] : List Value)) (t := 25) (.tmp 48) (.tmp 49) (by kernel_rfl) (by kernel_rfl) (by kernel_rfl) (by kernel_rfl) (.cons rfl (fun w => Go.Mx.run_part1 (by kernel_rfl) (List.getElem?_toArray.trans (get_pre rfl))) (fun w => Go.Mx.run_part1 (by kernel_rfl) (List.getElem?_toArray.trans (get_pre rfl))) (fun w => Go.Mx.run_equalIn_int (by kernel_rfl)) (.cons rfl (fun w => Go.Mx.run_partN (by kernel_rfl) (by kernel_rfl) (mid_of rfl)) (fun w => Go.Mx.run_partN (by kernel_rfl) (by kernel_rfl) (mid_of rfl)) (fun w => Go.Mx.run_equalA (e := 22) (by kernel_rfl) (by kernel_rfl) (by kernel_rfl) (by kernel_rfl)) (.cons rfl (fun w => Go.Mx.run_part1 (by kernel_rfl) (List.getElem?_toArray.trans (get_post 0 rfl rfl))) (fun w => Go.Mx.run_part1 (by kernel_rfl) (List.getElem?_toArray.trans (get_post 0 rfl rfl))) (fun w => Go.Mx.run_equalIn_int (by kernel_rfl)) (.cons rfl (fun w => Go.Mx.run_part1 (by kernel_rfl) (List.getElem?_toArray.trans (get_post 1 rfl rfl))) (fun w => Go.Mx.run_part1 (by kernel_rfl) (List.getElem?_toArray.trans (get_post 1 rfl rfl))) (fun w => Go.Mx.run_equalIn_bool (by kernel_rfl)) .nil)))))) ?_
              refine wpS.take 7 false (some 51) (.bool true) (by kernel_rfl) (yld fun _ => by kernel_rfl) ?_
              refine wpS.take 8 false (some 52) (.bool true) (by kernel_rfl) (yld fun _ => by kernel_rfl) ?_
              refine wpS.take 9 false (some 53) (.slice r44_A r44_n r44_c) (by kernel_rfl) (yld fun _ => by kernel_rfl) ?_
              refine wpS.take 10 false (some 54) (.slice r47_A r47_n r47_c) (by kernel_rfl) (yld fun _ => by kernel_rfl) ?_
              obtain ⟨r49, hg, h⟩ := of_bind h
              cases r49 with
              | true =>
                have h := of_if_t h
                refine wpS.only 11 (op_call (d := (some 55)) (by kernel_rfl) hs (fun _ => by kernel_rfl) (ref01_Same.ok hg _ (hs.rowL 3 rfl) (hs.rowL 1 rfl)) ?_)
                intro w gw hs
                refine ⟨fun _ => trivial, ?_⟩
                refine wpS.take 12 false (some 56) (.bool true) (by kernel_rfl) (yld fun _ => by kernel_rfl) ?_
                refine wpS.take 13 false (some 57) (.bool true) (by kernel_rfl) (yld fun _ => by kernel_rfl) ?_
                refine wpS.take 14 true (some 58) (.agg (([.int .i64 y6_0] : List Value) ++ enc .u64 y6_1 ++ ([.int .i64 y6_2, .bool y6_3] : List Value)).toArray) (by kernel_rfl) (yld_loadW (e := 25) (n := 28) hs 5 rfl (by kernel_rfl) (by kernel_rfl) (by kernel_rfl) (by simp [enc_len]) .grow) ?_
                obtain ⟨r50, hg, h⟩ := of_bind h
                cases r50 with
                | true =>
                  have h := of_if_t h
                  refine wpS.only 15 (op_call (d := (some 59)) (by kernel_rfl) hs (fun _ => by kernel_rfl) (ref08_Fit.ok hg _) ?_)
                  intro w gw hs
                  refine ⟨fun _ => trivial, ?_⟩
                  refine wpS.take 16 false (some 60) (.bool true) (by kernel_rfl) (yld fun _ => by kernel_rfl) ?_
                  refine wpS.take 17 false (some 61) (.bool true) (by kernel_rfl) (yld fun _ => by kernel_rfl) ?_
                  refine wpS.take 18 true (some 62) (.agg (([.int .i64 r43_0] : List Value) ++ enc .u64 r43_1 ++ ([.int .i64 r43_2, .bool r43_3] : List Value)).toArray) (by kernel_rfl) (yld_loadW (e := 25) (n := 28) hs 2 rfl (by kernel_rfl) (by kernel_rfl) (by kernel_rfl) (by simp [enc_len]) .grow) ?_
                  obtain ⟨r51, hg, h⟩ := of_bind h
                  cases r51 with
                  | true =>
                    have h := of_if_t h
                    refine wpS.only 19 (op_call (d := (some 63)) (by kernel_rfl) hs (fun _ => by kernel_rfl) (ref08_Fit.ok hg _) ?_)
                    intro w gw hs
                    refine ⟨fun _ => trivial, ?_⟩
                    refine wpS.take 20 false (some 64) (.bool true) (by kernel_rfl) (yld fun _ => by kernel_rfl) ?_
                    refine wpS.take 21 false (some 65) (.bool true) (by kernel_rfl) (yld fun _ => by kernel_rfl) ?_
                    obtain ⟨r52, hg, h⟩ := of_bind h
                    refine wpS.only 22 (op_call (d := (some 66)) (by kernel_rfl) hs (fun _ => by kernel_rfl) (law08_awake.ok hg _ (hs.rowR 1 rfl) (hs.rowR 2 rfl) (hs.rowR 3 rfl)) ?_)
                    intro w gw hs
                    refine ⟨fun _ => trivial, ?_⟩
                    refine wpS.take 23 false (some 67) (.bool r52) (by kernel_rfl) (yld fun _ => by kernel_rfl) ?_
                    refine wpS.take 24 false (some 6) (.bool r52) (by kernel_rfl) (yld fun _ => by kernel_rfl) ?_
                    refine wpS.fin rfl (kr _ _ ?_)
                    refine then_n (ks13 _ _ ?_)
                    refine wp_ret ?_
                    have q0 := of_some h
                    subst q0
                    exact qq _ _ (post_ret (by kernel_rfl) (run_results [.tmp 6] [.bool r52] (by kernel_rfl) (.cons (res_tmp (by kernel_rfl)) .nil)) ⟨congrArg Ending.returned (by kernel_rfl), hs.none⟩)
                  | false =>
                    have h := of_if_f h
                    refine wpS.only 19 (op_call (d := (some 63)) (by kernel_rfl) hs (fun _ => by kernel_rfl) (ref08_Fit.ok hg _) ?_)
                    intro w gw hs
                    refine ⟨fun _ => trivial, ?_⟩
                    refine wpS.take 20 false (some 64) (.bool false) (by kernel_rfl) (yld fun _ => by kernel_rfl) ?_
                    refine wpS.take 21 false (some 65) (.bool false) (by kernel_rfl) (yld fun _ => by kernel_rfl) ?_
                    refine wpS.take 22 false (some 66) (undef) (by kernel_rfl) (yld fun _ => by kernel_rfl) ?_
                    refine wpS.take 23 false (some 67) (.bool false) (by kernel_rfl) (yld fun _ => by kernel_rfl) ?_
                    refine wpS.take 24 false (some 6) (.bool false) (by kernel_rfl) (yld fun _ => by kernel_rfl) ?_
                    refine wpS.fin rfl (kr _ _ ?_)
                    refine then_n (ks13 _ _ ?_)
                    refine wp_ret ?_
                    have q0 := of_some h
                    subst q0
                    exact qq _ _ (post_ret (by kernel_rfl) (run_results [.tmp 6] [.bool false] (by kernel_rfl) (.cons (res_tmp (by kernel_rfl)) .nil)) ⟨congrArg Ending.returned (by kernel_rfl), hs.none⟩)
                | false =>
                  have h := of_if_f h
                  refine wpS.only 15 (op_call (d := (some 59)) (by kernel_rfl) hs (fun _ => by kernel_rfl) (ref08_Fit.ok hg _) ?_)
                  intro w gw hs
                  refine ⟨fun _ => trivial, ?_⟩
                  refine wpS.take 16 false (some 60) (.bool false) (by kernel_rfl) (yld fun _ => by kernel_rfl) ?_
                  refine wpS.take 17 false (some 61) (.bool false) (by kernel_rfl) (yld fun _ => by kernel_rfl) ?_
                  refine wpS.take 18 false (some 62) (undef) (by kernel_rfl) (yld fun _ => by kernel_rfl) ?_
                  refine wpS.take 19 false (some 63) (undef) (by kernel_rfl) (yld fun _ => by kernel_rfl) ?_
                  refine wpS.take 20 false (some 64) (.bool false) (by kernel_rfl) (yld fun _ => by kernel_rfl) ?_
                  refine wpS.take 21 false (some 65) (.bool false) (by kernel_rfl) (yld fun _ => by kernel_rfl) ?_
                  refine wpS.take 22 false (some 66) (undef) (by kernel_rfl) (yld fun _ => by kernel_rfl) ?_
                  refine wpS.take 23 false (some 67) (.bool false) (by kernel_rfl) (yld fun _ => by kernel_rfl) ?_
                  refine wpS.take 24 false (some 6) (.bool false) (by kernel_rfl) (yld fun _ => by kernel_rfl) ?_
                  refine wpS.fin rfl (kr _ _ ?_)
                  refine then_n (ks13 _ _ ?_)
                  refine wp_ret ?_
                  have q0 := of_some h
                  subst q0
                  exact qq _ _ (post_ret (by kernel_rfl) (run_results [.tmp 6] [.bool false] (by kernel_rfl) (.cons (res_tmp (by kernel_rfl)) .nil)) ⟨congrArg Ending.returned (by kernel_rfl), hs.none⟩)
              | false =>
                have h := of_if_f h
                refine wpS.only 11 (op_call (d := (some 55)) (by kernel_rfl) hs (fun _ => by kernel_rfl) (ref01_Same.ok hg _ (hs.rowL 3 rfl) (hs.rowL 1 rfl)) ?_)
                intro w gw hs
                refine ⟨fun _ => trivial, ?_⟩
                refine wpS.take 12 false (some 56) (.bool false) (by kernel_rfl) (yld fun _ => by kernel_rfl) ?_
                refine wpS.take 13 false (some 57) (.bool false) (by kernel_rfl) (yld fun _ => by kernel_rfl) ?_
                refine wpS.take 14 false (some 58) (undef) (by kernel_rfl) (yld fun _ => by kernel_rfl) ?_
                refine wpS.take 15 false (some 59) (undef) (by kernel_rfl) (yld fun _ => by kernel_rfl) ?_
                refine wpS.take 16 false (some 60) (.bool false) (by kernel_rfl) (yld fun _ => by kernel_rfl) ?_
                refine wpS.take 17 false (some 61) (.bool false) (by kernel_rfl) (yld fun _ => by kernel_rfl) ?_
                refine wpS.take 18 false (some 62) (undef) (by kernel_rfl) (yld fun _ => by kernel_rfl) ?_
                refine wpS.take 19 false (some 63) (undef) (by kernel_rfl) (yld fun _ => by kernel_rfl) ?_
                refine wpS.take 20 false (some 64) (.bool false) (by kernel_rfl) (yld fun _ => by kernel_rfl) ?_
                refine wpS.take 21 false (some 65) (.bool false) (by kernel_rfl) (yld fun _ => by kernel_rfl) ?_
                refine wpS.take 22 false (some 66) (undef) (by kernel_rfl) (yld fun _ => by kernel_rfl) ?_
                refine wpS.take 23 false (some 67) (.bool false) (by kernel_rfl) (yld fun _ => by kernel_rfl) ?_
                refine wpS.take 24 false (some 6) (.bool false) (by kernel_rfl) (yld fun _ => by kernel_rfl) ?_
                refine wpS.fin rfl (kr _ _ ?_)
                refine then_n (ks13 _ _ ?_)
                refine wp_ret ?_
                have q0 := of_some h
                subst q0
                exact qq _ _ (post_ret (by kernel_rfl) (run_results [.tmp 6] [.bool false] (by kernel_rfl) (.cons (res_tmp (by kernel_rfl)) .nil)) ⟨congrArg Ending.returned (by kernel_rfl), hs.none⟩)
            · refine wpS.take 6 false (some 50) (.bool false) (by kernel_rfl) (yld_bb hc (yld_eqS (fs := [Field.mk "Kind" 3 0 false "" "" 0, Field.mk "Words" 23 1 false "" "" 8, Field.mk "At" 3 26 false "" "" 208, Field.mk "Out" 4 27 false "" "" 216]) (xs := ([.int .i64 r43_0] : List Value) ++ enc .u64 r43_1 ++ ([.int .i64 r43_2, .bool r43_3] : List Value)) (ys := ([.int .i64 r46_0] : List Value) ++ enc .u64 r46_1 ++ ([.int .i64 r46_2, .bool r46_3] : List Value)) (t := 25) (.tmp 48) (.tmp 49) (by kernel_rfl) (by kernel_rfl) (by kernel_rfl) (by kernel_rfl) (.cons rfl (fun w => Go.Mx.run_part1 (by kernel_rfl) (List.getElem?_toArray.trans (get_pre rfl))) (fun w => Go.Mx.run_part1 (by kernel_rfl) (List.getElem?_toArray.trans (get_pre rfl))) (fun w => Go.Mx.run_equalIn_int (by kernel_rfl)) (.cons rfl (fun w => Go.Mx.run_partN (by kernel_rfl) (by kernel_rfl) (mid_of rfl)) (fun w => Go.Mx.run_partN (by kernel_rfl) (by kernel_rfl) (mid_of rfl)) (fun w => Go.Mx.run_equalA (e := 22) (by kernel_rfl) (by kernel_rfl) (by kernel_rfl) (by kernel_rfl)) (.cons rfl (fun w => Go.Mx.run_part1 (by kernel_rfl) (List.getElem?_toArray.trans (get_post 0 rfl rfl))) (fun w => Go.Mx.run_part1 (by kernel_rfl) (List.getElem?_toArray.trans (get_post 0 rfl rfl))) (fun w => Go.Mx.run_equalIn_int (by kernel_rfl)) (.cons rfl (fun w => Go.Mx.run_part1 (by kernel_rfl) (List.getElem?_toArray.trans (get_post 1 rfl rfl))) (fun w => Go.Mx.run_part1 (by kernel_rfl) (List.getElem?_toArray.trans (get_post 1 rfl rfl))) (fun w => Go.Mx.run_equalIn_bool (by kernel_rfl)) .nil)))))) ?_
              refine wpS.take 7 false (some 51) (.bool false) (by kernel_rfl) (yld fun _ => by kernel_rfl) ?_
              refine wpS.take 8 false (some 52) (.bool false) (by kernel_rfl) (yld fun _ => by kernel_rfl) ?_
              refine wpS.take 9 false (some 53) (undef) (by kernel_rfl) (yld fun _ => by kernel_rfl) ?_
              refine wpS.take 10 false (some 54) (undef) (by kernel_rfl) (yld fun _ => by kernel_rfl) ?_
              refine wpS.take 11 false (some 55) (undef) (by kernel_rfl) (yld fun _ => by kernel_rfl) ?_
              refine wpS.take 12 false (some 56) (.bool false) (by kernel_rfl) (yld fun _ => by kernel_rfl) ?_
              refine wpS.take 13 false (some 57) (.bool false) (by kernel_rfl) (yld fun _ => by kernel_rfl) ?_
              refine wpS.take 14 false (some 58) (undef) (by kernel_rfl) (yld fun _ => by kernel_rfl) ?_
              refine wpS.take 15 false (some 59) (undef) (by kernel_rfl) (yld fun _ => by kernel_rfl) ?_
              refine wpS.take 16 false (some 60) (.bool false) (by kernel_rfl) (yld fun _ => by kernel_rfl) ?_
              refine wpS.take 17 false (some 61) (.bool false) (by kernel_rfl) (yld fun _ => by kernel_rfl) ?_
              refine wpS.take 18 false (some 62) (undef) (by kernel_rfl) (yld fun _ => by kernel_rfl) ?_
              refine wpS.take 19 false (some 63) (undef) (by kernel_rfl) (yld fun _ => by kernel_rfl) ?_
              refine wpS.take 20 false (some 64) (.bool false) (by kernel_rfl) (yld fun _ => by kernel_rfl) ?_
              refine wpS.take 21 false (some 65) (.bool false) (by kernel_rfl) (yld fun _ => by kernel_rfl) ?_
              refine wpS.take 22 false (some 66) (undef) (by kernel_rfl) (yld fun _ => by kernel_rfl) ?_
              refine wpS.take 23 false (some 67) (.bool false) (by kernel_rfl) (yld fun _ => by kernel_rfl) ?_
              refine wpS.take 24 false (some 6) (.bool false) (by kernel_rfl) (yld fun _ => by kernel_rfl) ?_
              refine wpS.fin rfl (kr _ _ ?_)
              refine then_n (ks13 _ _ ?_)
              refine wp_ret ?_
              have q0 := of_some h
              subst q0
              exact qq _ _ (post_ret (by kernel_rfl) (run_results [.tmp 6] [.bool false] (by kernel_rfl) (.cons (res_tmp (by kernel_rfl)) .nil)) ⟨congrArg Ending.returned (by kernel_rfl), hs.none⟩)
          · refine wpS.take 2 false (some 46) (.bool false) (by kernel_rfl) (yld_bb hc (yld_eqS (fs := [Field.mk "Kind" 3 0 false "" "" 0, Field.mk "Words" 23 1 false "" "" 8, Field.mk "At" 3 26 false "" "" 208, Field.mk "Out" 4 27 false "" "" 216]) (xs := ([.int .i64 y6_0] : List Value) ++ enc .u64 y6_1 ++ ([.int .i64 y6_2, .bool y6_3] : List Value)) (ys := ([.int .i64 y8_0] : List Value) ++ enc .u64 y8_1 ++ ([.int .i64 y8_2, .bool y8_3] : List Value)) (t := 25) (.tmp 44) (.tmp 45) (by kernel_rfl) (by kernel_rfl) (by kernel_rfl) (by kernel_rfl) (.cons rfl (fun w => Go.Mx.run_part1 (by kernel_rfl) (List.getElem?_toArray.trans (get_pre rfl))) (fun w => Go.Mx.run_part1 (by kernel_rfl) (List.getElem?_toArray.trans (get_pre rfl))) (fun w => Go.Mx.run_equalIn_int (by kernel_rfl)) (.cons rfl (fun w => Go.Mx.run_partN (by kernel_rfl) (by kernel_rfl) (mid_of rfl)) (fun w => Go.Mx.run_partN (by kernel_rfl) (by kernel_rfl) (mid_of rfl)) (fun w => Go.Mx.run_equalA (e := 22) (by kernel_rfl) (by kernel_rfl) (by kernel_rfl) (by kernel_rfl)) (.cons rfl (fun w => Go.Mx.run_part1 (by kernel_rfl) (List.getElem?_toArray.trans (get_post 0 rfl rfl))) (fun w => Go.Mx.run_part1 (by kernel_rfl) (List.getElem?_toArray.trans (get_post 0 rfl rfl))) (fun w => Go.Mx.run_equalIn_int (by kernel_rfl)) (.cons rfl (fun w => Go.Mx.run_part1 (by kernel_rfl) (List.getElem?_toArray.trans (get_post 1 rfl rfl))) (fun w => Go.Mx.run_part1 (by kernel_rfl) (List.getElem?_toArray.trans (get_post 1 rfl rfl))) (fun w => Go.Mx.run_equalIn_bool (by kernel_rfl)) .nil)))))) ?_
            refine wpS.take 3 false (some 47) (.bool false) (by kernel_rfl) (yld fun _ => by kernel_rfl) ?_
            refine wpS.take 4 false (some 48) (undef) (by kernel_rfl) (yld fun _ => by kernel_rfl) ?_
            refine wpS.take 5 false (some 49) (undef) (by kernel_rfl) (yld fun _ => by kernel_rfl) ?_
            refine wpS.take 6 false (some 50) (undef) (by kernel_rfl) (yld fun _ => by kernel_rfl) ?_
            refine wpS.take 7 false (some 51) (.bool false) (by kernel_rfl) (yld fun _ => by kernel_rfl) ?_
            refine wpS.take 8 false (some 52) (.bool false) (by kernel_rfl) (yld fun _ => by kernel_rfl) ?_
            refine wpS.take 9 false (some 53) (undef) (by kernel_rfl) (yld fun _ => by kernel_rfl) ?_
            refine wpS.take 10 false (some 54) (undef) (by kernel_rfl) (yld fun _ => by kernel_rfl) ?_
            refine wpS.take 11 false (some 55) (undef) (by kernel_rfl) (yld fun _ => by kernel_rfl) ?_
            refine wpS.take 12 false (some 56) (.bool false) (by kernel_rfl) (yld fun _ => by kernel_rfl) ?_
            refine wpS.take 13 false (some 57) (.bool false) (by kernel_rfl) (yld fun _ => by kernel_rfl) ?_
            refine wpS.take 14 false (some 58) (undef) (by kernel_rfl) (yld fun _ => by kernel_rfl) ?_
            refine wpS.take 15 false (some 59) (undef) (by kernel_rfl) (yld fun _ => by kernel_rfl) ?_
            refine wpS.take 16 false (some 60) (.bool false) (by kernel_rfl) (yld fun _ => by kernel_rfl) ?_
            refine wpS.take 17 false (some 61) (.bool false) (by kernel_rfl) (yld fun _ => by kernel_rfl) ?_
            refine wpS.take 18 false (some 62) (undef) (by kernel_rfl) (yld fun _ => by kernel_rfl) ?_
            refine wpS.take 19 false (some 63) (undef) (by kernel_rfl) (yld fun _ => by kernel_rfl) ?_
            refine wpS.take 20 false (some 64) (.bool false) (by kernel_rfl) (yld fun _ => by kernel_rfl) ?_
            refine wpS.take 21 false (some 65) (.bool false) (by kernel_rfl) (yld fun _ => by kernel_rfl) ?_
            refine wpS.take 22 false (some 66) (undef) (by kernel_rfl) (yld fun _ => by kernel_rfl) ?_
            refine wpS.take 23 false (some 67) (.bool false) (by kernel_rfl) (yld fun _ => by kernel_rfl) ?_
            refine wpS.take 24 false (some 6) (.bool false) (by kernel_rfl) (yld fun _ => by kernel_rfl) ?_
            refine wpS.fin rfl (kr _ _ ?_)
            refine then_n (ks13 _ _ ?_)
            refine wp_ret ?_
            have q0 := of_some h
            subst q0
            exact qq _ _ (post_ret (by kernel_rfl) (run_results [.tmp 6] [.bool false] (by kernel_rfl) (.cons (res_tmp (by kernel_rfl)) .nil)) ⟨congrArg Ending.returned (by kernel_rfl), hs.none⟩)
  | false =>
    have h := of_if_f h
    refine wpS.only 1 (op_call (d := (some 14)) (by kernel_rfl) hs (fun _ => by kernel_rfl) (ref08_Fit.ok hg _) ?_)
    intro w gw hs
    refine ⟨fun _ => trivial, ?_⟩
    refine wpS.take 2 false (some 15) (.bool true) (by kernel_rfl) (yld fun _ => by kernel_rfl) ?_
    refine wpS.take 3 false (some 16) (.bool true) (by kernel_rfl) (yld fun _ => by kernel_rfl) ?_
    refine wpS.take 4 false (some 17) (undef) (by kernel_rfl) (yld fun _ => by kernel_rfl) ?_
    refine wpS.take 5 false (some 18) (undef) (by kernel_rfl) (yld fun _ => by kernel_rfl) ?_
    refine wpS.take 6 false (some 19) (undef) (by kernel_rfl) (yld fun _ => by kernel_rfl) ?_
    refine wpS.take 7 false (some 20) (.bool true) (by kernel_rfl) (yld fun _ => by kernel_rfl) ?_
    refine wpS.take 8 false (some 21) (.bool true) (by kernel_rfl) (yld fun _ => by kernel_rfl) ?_
    refine wpS.take 9 false (some 22) (undef) (by kernel_rfl) (yld fun _ => by kernel_rfl) ?_
    refine wpS.take 10 false (some 23) (undef) (by kernel_rfl) (yld fun _ => by kernel_rfl) ?_
    refine wpS.take 11 false (some 24) (.bool true) (by kernel_rfl) (yld fun _ => by kernel_rfl) ?_
    refine wpS.fin rfl (kr _ _ ?_)
    refine then_n (ks7 _ _ ?_)
    refine wp_cond_t (by kernel_rfl) ?_
    refine wp_seq_k fun KS14 ks14 => ?_
    refine wp_regS (l := [0, 1]) (by kernel_rfl) fun KR kr => ?_
    obtain ⟨r53, hg, h⟩ := of_bind h
    refine wpS.only 0 (op_call (d := (some 25)) (by kernel_rfl) hs (fun _ => by kernel_rfl) (law08_awake.ok hg _ (hs.rowR 1 rfl) (hs.rowR 2 rfl) (hs.rowR 3 rfl)) ?_)
    intro w gw hs
    refine ⟨fun _ => trivial, ?_⟩
    refine wpS.take 1 false (some 6) (.bool r53) (by kernel_rfl) (yld fun _ => by kernel_rfl) ?_
    refine wpS.fin rfl (kr _ _ ?_)
    refine then_n (ks14 _ _ ?_)
    refine wp_ret ?_
    refine then_r ?_
    have q0 := of_some h
    subst q0
    exact qq _ _ (post_ret (by kernel_rfl) (run_results [.tmp 6] [.bool r53] (by kernel_rfl) (.cons (res_tmp (by kernel_rfl)) .nil)) ⟨congrArg Ending.returned (by kernel_rfl), hs.none⟩)
end Go.Proofs.YtijahfdldlmnhaaDoor
