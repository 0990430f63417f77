/- Printed by this work's own program: the code of each function below comes to the answer that its plain form tells. -/
import Derived.Test.YtemdbgmldljbpaaDoorMf
import Derived.Test.YtemdbgmldljbpaaDoorProg
import Derived.Test.YtemdbgmldljbpaaDoorZF0
import Derived.Test.YtemdbgmldljbpaaDoorZX1
import Derived.Test.YtemdbgmldljbpaaDoorZX2
set_option linter.unusedVariables false
set_option linter.unusedSimpArgs false
set_option maxRecDepth 100000
set_option maxHeartbeats 4000000
namespace Go.Proofs.YtemdbgmldljbpaaDoor
open Go.Mx
attribute [local irreducible] wpOp

theorem keccak_Squeeze.ok {K : Nat} {a0_0 : Int} {a0_1 : Arr 25} {a0_2 : Int} {a0_3 : Bool} {a1 : Int} {r0_0 : Int} {r0_1 : Arr 25} {r0_2 : Int} {r0_3 : Bool} {r1 : List Int} (h : keccak_Squeeze.f K a0_0 a0_1 a0_2 a0_3 a1 = some (r0_0, r0_1, r0_2, r0_3, r1)) (w0 : World) (hg0 : RowL (CA .u64 24 (by decide)) w0 (some ⟨0, 0, none⟩) 1 1 [tab_0]) (hg1 : RowL (CA .i64 24 (by decide)) w0 (some ⟨1, 0, none⟩) 1 1 [tab_1]) (hg2 : RowL (CA .i64 24 (by decide)) w0 (some ⟨2, 0, none⟩) 1 1 [tab_2]) : Calls Tryd.prog 79 #[.agg (([.int .i64 a0_0] : List Value) ++ enc .u64 a0_1 ++ ([.int .i64 a0_2, .bool a0_3] : List Value)).toArray, .int .i64 a1] w0 fun e w' => ∃ h : (Option Addr × Nat × Nat), e = .returned (.tuple #[.agg (([.int .i64 r0_0] : List Value) ++ enc .u64 r0_1 ++ ([.int .i64 r0_2, .bool r0_3] : List Value)).toArray, .slice h.1 h.2.1 h.2.2]) ∧ St w0 [] [.ownL (CI .u8) h.1 h.2.1 h.2.2 r1 5] [] w' := by
 refine calls_k Tryd.func79 rfl fun Q qq => ?_
 have hs := St.startR (all_cons (RowP.ent hg0) (all_cons (RowP.ent hg1) (all_cons (RowP.ent hg2) all_nil)))
 refine wp_conv (a' := ⟨#[.agg (([.int .i64 a0_0] : List Value) ++ enc .u64 a0_1 ++ ([.int .i64 a0_2, .bool a0_3] : List Value)).toArray, .int .i64 a1, undef, undef, undef, undef, undef, undef, undef, undef, undef, undef, undef, undef, undef, undef, undef, undef, undef, undef, undef, undef, undef, undef, undef, undef, undef, undef, undef, undef, undef, undef, undef, undef, undef, undef, undef, undef, undef, undef, undef, undef, undef, undef, undef, undef, undef, undef, undef, undef, undef, undef, undef, undef, undef, undef], []⟩) (by kernel_rfl) ?_
 refine xseq_k fun KS1 ks1 => ?_
 refine xregS [0, 1, 2] fun KR2 kr2 => ?_
 refine wpS.only 0 (op_box (t := 115) (v := .agg (([.int .i64 a0_0] : List Value) ++ enc .u64 a0_1 ++ ([.int .i64 a0_2, .bool a0_3] : List Value)).toArray) (d := (some 2)) (by kernel_rfl) hs (([.int .i64 a0_0] : List Value) ++ enc .u64 a0_1 ++ ([.int .i64 a0_2, .bool a0_3] : List Value)) (by kernel_rfl) (by kernel_rfl) ?_)
 intro b1 w gw hs
 refine ⟨fun _ => trivial, ?_⟩
 refine wpS.only 1 (op_alloc (t := 115) (d := (some 4)) (by kernel_rfl) hs (([.int .i64 0] : List Value) ++ enc .u64 (zeroA 25) ++ ([.int .i64 0, .bool false] : List Value)) (.agg (([.int .i64 0] : List Value) ++ enc .u64 (zeroA 25) ++ ([.int .i64 0, .bool false] : List Value)).toArray) (by kernel_rfl) (by kernel_rfl) (by kernel_rfl) ?_)
 intro b2 w gw hs
 refine ⟨fun _ => trivial, ?_⟩
 refine wpS.q 2 5 (.slice none 0 0) ?_
 refine wpS.fin rfl (kr2 _ _ (then_n (ks1 _ _ (xseq_k fun KS3 ks3 => (xseq_k fun KS4 ks4 => (xregS [0, 1] fun KR5 kr5 => ?_))))))
 refine wpS.q 0 8 (.int .i64 a1) ?_
 rcases of_if h with ⟨hc, h⟩ | ⟨hc, h⟩
 ·refine wpS.tk 1 false (some 9) (.bool true) (yld_b (dt hc) (fun _ => by kernel_rfl)) ?_
  refine wpS.fin rfl (kr5 _ _ (then_n (ks4 _ _ (wp_cond_t (by kernel_rfl) (xseq_k fun KS6 ks6 => (xregS [0, 1, 2] fun KR7 kr7 => ?_))))))
  refine wpS.tk 0 true (some 10) (.agg (([.int .i64 a0_0] : List Value) ++ enc .u64 a0_1 ++ ([.int .i64 a0_2, .bool a0_3] : List Value)).toArray) (yld_loadW (e := 115) (n := 28) hs 1 rfl (by kernel_rfl) (by kernel_rfl) (by kernel_rfl) (by simp [enc_len]) .grow) ?_
  refine wpS.only 1 (op_storeW (t := 115) (v := .agg (([.int .i64 a0_0] : List Value) ++ enc .u64 a0_1 ++ ([.int .i64 a0_2, .bool a0_3] : List Value)).toArray) (d := none) (by kernel_rfl) hs 0 rfl (vs := ([.int .i64 a0_0] : List Value) ++ enc .u64 a0_1 ++ ([.int .i64 a0_2, .bool a0_3] : List Value)) (n := 28) (by kernel_rfl) (by kernel_rfl) (by kernel_rfl) (by simp [enc_len]) (by simp [enc_len]) (one_app (one_app (by simp [Value.oneCell']) (fun u hu => enc_one _ _ u hu)) (by simp [Value.oneCell'])) ?_)
  intro w kp hs
  refine ⟨fun _ => trivial, ?_⟩
  refine wpS.q 2 5 (.slice none 0 0) ?_
  refine wpS.fin rfl (kr7 _ _ (then_n (ks6 _ _ (xret (then_r ?_)))))
  obtain ⟨q0, qr0⟩ := Prod.mk.inj (of_some h)
  obtain ⟨q1, qr1⟩ := Prod.mk.inj (qr0)
  obtain ⟨q2, qr2⟩ := Prod.mk.inj (qr1)
  obtain ⟨q3, qr3⟩ := Prod.mk.inj (qr2)
  have q4 := qr3
  subst q0
  subst q1
  subst q2
  subst q3
  subst q4
  have hs := hs.addNilL (CI .u8) 5
  exact qq _ _ (post_ret (by kernel_rfl) (run_results [.cell 4 115, .tmp 5] [.agg (([.int .i64 a0_0] : List Value) ++ enc .u64 a0_1 ++ ([.int .i64 a0_2, .bool a0_3] : List Value)).toArray, .slice none 0 0] (by kernel_rfl) (.cons (res_cellN (n := 28) hs 1 rfl (by kernel_rfl) (by kernel_rfl) (by kernel_rfl) (by simp [enc_len])) (.cons (res_tmp (by kernel_rfl)) .nil))) ⟨⟨none, 0, 0⟩, congrArg Ending.returned (by kernel_rfl), ((hs.drop (.cons_cons _ (.cons _ (.cons _ .slnil)))).pickR pick_nil)⟩)
 refine wpS.tk 1 false (some 9) (.bool false) (yld_b (df hc) (fun _ => by kernel_rfl)) ?_
 refine wpS.fin rfl (kr5 _ _ (then_n (ks4 _ _ (wp_cond_f (by kernel_rfl) (xskip (then_n (ks3 _ _ ?_)))))))
 obtain ⟨⟨y3_0, y3_1, y3_2, y3_3⟩, hj, h⟩ := of_bind h
 refine xseq_k fun KS9 ks9 => wp_join (N := fun a w => St w0 [] [.blk b2 (([.int .i64 0] : List Value) ++ enc .u64 (zeroA 25) ++ ([.int .i64 0, .bool false] : List Value)) 115, .blk b1 (([.int .i64 y3_0] : List Value) ++ enc .u64 y3_1 ++ ([.int .i64 y3_2, .bool y3_3] : List Value)) 115] [.rowL (CA .u64 24 (by decide)) (some ⟨0, 0, none⟩) 1 1 ([tab_0]), .rowL (CA .i64 24 (by decide)) (some ⟨1, 0, none⟩) 1 1 ([tab_1]), .rowL (CA .i64 24 (by decide)) (some ⟨2, 0, none⟩) 1 1 ([tab_2])] w ∧ ∃ g8 : Nat → Value, a = ⟨#[.agg (([.int .i64 a0_0] : List Value) ++ enc .u64 a0_1 ++ ([.int .i64 a0_2, .bool a0_3] : List Value)).toArray, .int .i64 a1, .pointer (some ⟨b1, 0, none⟩), undef, .pointer (some ⟨b2, 0, none⟩), .slice none 0 0, undef, undef, .int .i64 a1, .bool false, undef, (g8 11), (g8 12), (g8 13), (g8 14), (g8 15), undef, undef, undef, undef, undef, undef, undef, undef, undef, undef, undef, undef, undef, undef, undef, undef, undef, undef, undef, undef, undef, undef, undef, undef, undef, undef, undef, undef, undef, undef, undef, undef, undef, undef, undef, undef, undef, undef, undef, undef], []⟩) (fun N nj => ?_) ?_
 ·clear h
  have h := hj
  refine xseq_k fun KS10 ks10 => ?_
  refine xregS [0, 1, 2] fun KR11 kr11 => ?_
  refine wpS.q 0 11 (.pointer (some ⟨b1, 27, none⟩)) ?_
  cases a0_3 with
  | true =>
   have h := of_if_t h
   refine wpS.tk 1 true (some 12) (.bool true) (yld_load1 (e := 4) (o := 27) hs 1 rfl (by kernel_rfl) (by kernel_rfl) (get_post 1 rfl rfl) .grow) ?_
   refine wpS.q 2 13 (.bool false) ?_
   refine wpS.fin rfl (kr11 _ _ (then_n (ks10 _ _ (wp_cond_f (by kernel_rfl) (xskip ?_)))))
   obtain ⟨q0, qr0⟩ := Prod.mk.inj (of_some h)
   obtain ⟨q1, qr1⟩ := Prod.mk.inj (qr0)
   obtain ⟨q2, qr2⟩ := Prod.mk.inj (qr1)
   have q3 := qr2
   subst q0
   subst q1
   subst q2
   subst q3
   exact nj _ _ ⟨(hs.conv rfl), exg (by kernel_rfl)⟩
  | false =>
   have h := of_if_f h
   refine wpS.tk 1 true (some 12) (.bool false) (yld_load1 (e := 4) (o := 27) hs 1 rfl (by kernel_rfl) (by kernel_rfl) (get_post 1 rfl rfl) .grow) ?_
   refine wpS.q 2 13 (.bool true) ?_
   refine wpS.fin rfl (kr11 _ _ (then_n (ks10 _ _ (wp_cond_t (by kernel_rfl) (xregS [0, 1, 2] fun KR12 kr12 => ?_)))))
   refine wpS.tk 0 true (some 14) (.agg (([.int .i64 a0_0] : List Value) ++ enc .u64 a0_1 ++ ([.int .i64 a0_2, .bool false] : List Value)).toArray) (yld_loadW (e := 115) (n := 28) hs 1 rfl (by kernel_rfl) (by kernel_rfl) (by kernel_rfl) (by simp [enc_len]) .grow) ?_
   obtain ⟨⟨r4_0, r4_1, r4_2, r4_3⟩, hg, h⟩ := of_bind h
   refine wpS.only 1 (op_call (d := (some 15)) (by kernel_rfl) hs (fun _ => by kernel_rfl) (keccak_turned.ok hg _ (hs.rowR 0 rfl) (hs.rowR 1 rfl) (hs.rowR 2 rfl)) ?_)
   intro w gw hs
   refine ⟨fun _ => trivial, ?_⟩
   refine wpS.only 2 (op_storeW (t := 115) (v := .agg (([.int .i64 r4_0] : List Value) ++ enc .u64 r4_1 ++ ([.int .i64 r4_2, .bool r4_3] : List Value)).toArray) (d := none) (by kernel_rfl) hs 1 rfl (vs := ([.int .i64 r4_0] : List Value) ++ enc .u64 r4_1 ++ ([.int .i64 r4_2, .bool r4_3] : List Value)) (n := 28) (by kernel_rfl) (by kernel_rfl) (by kernel_rfl) (by simp [enc_len]) (by simp [enc_len]) (one_app (one_app (by simp [Value.oneCell']) (fun u hu => enc_one _ _ u hu)) (by simp [Value.oneCell'])) ?_)
   intro w kp hs
   refine ⟨fun _ => trivial, ?_⟩
   refine wpS.fin rfl (kr12 _ _ ?_)
   obtain ⟨q0, qr0⟩ := Prod.mk.inj (of_some h)
   obtain ⟨q1, qr1⟩ := Prod.mk.inj (qr0)
   obtain ⟨q2, qr2⟩ := Prod.mk.inj (qr1)
   have q3 := qr2
   subst q0
   subst q1
   subst q2
   subst q3
   exact nj _ _ ⟨(hs.conv rfl), exg (by kernel_rfl)⟩
 clear hj hs
 rintro a w ⟨hs, g8, rfl⟩
 refine then_n (ks9 _ _ (xseq_k fun KS13 ks13 => (xregS [0, 1, 2] fun KR14 kr14 => ?_)))
 refine wpS.q 0 16 (.int .i64 a1) ?_
 obtain ⟨h0, h⟩ := of_chk h
 obtain ⟨h1, h⟩ := of_chk h
 refine wpS.only 1 (op_makeT (C := (CI .u8)) (t := 24) (e := 5) (bytes := 1) (B := 140737488355328) (kl := .i64) (kc := .i64) (x := a1) (d := (some 17)) (by kernel_rfl) hs (by kernel_rfl) (by kernel_rfl) (by kernel_rfl) (by kernel_rfl) (by kernel_rfl) h0 h1 (by decide) (by decide) ?_)
 intro s5_A s5_n s5_c w gw hs
 refine ⟨fun _ => trivial, ?_⟩
 refine wpS.q 2 6 (.slice s5_A s5_n s5_c) ?_
 refine wpS.fin rfl (kr14 _ _ (then_n (ks13 _ _ (xseq_k fun KS15 ks15 => (xseq_k fun KS16 ks16 => (xregS [0, 1, 2] fun KR17 kr17 => ?_))))))
 refine wpS.q 0 18 (.slice s5_A s5_n s5_c) ?_
 refine wpS.tk 1 false (some 19) (.int .i64 ((List.replicate (a1 : Int).toNat (Cod.zero (CI .u8))).length : Int)) (yld_lenL (hs.rowL 0 rfl) (fun _ => by kernel_rfl)) ?_
 refine wpS.q 2 20 (.int .i64 0) ?_
 refine wpS.fin rfl (kr17 _ _ (then_n (ks16 _ _ ?_)))
 obtain ⟨⟨y9, y10_0, y10_1, y10_2, y10_3⟩, hy, hk0⟩ := of_bind h
 refine wp_exq (N := fun a w => St w0 [] [.ownL (CI .u8) s5_A s5_n s5_c y9 5, .blk b2 (([.int .i64 0] : List Value) ++ enc .u64 (zeroA 25) ++ ([.int .i64 0, .bool false] : List Value)) 115, .blk b1 (([.int .i64 y10_0] : List Value) ++ enc .u64 y10_1 ++ ([.int .i64 y10_2, .bool y10_3] : List Value)) 115] [.rowL (CA .u64 24 (by decide)) (some ⟨0, 0, none⟩) 1 1 ([tab_0]), .rowL (CA .i64 24 (by decide)) (some ⟨1, 0, none⟩) 1 1 ([tab_1]), .rowL (CA .i64 24 (by decide)) (some ⟨2, 0, none⟩) 1 1 ([tab_2])] w ∧ ∃ g19 : Nat → Value, a = ⟨#[.agg (([.int .i64 a0_0] : List Value) ++ enc .u64 a0_1 ++ ([.int .i64 a0_2, .bool a0_3] : List Value)).toArray, .int .i64 a1, .pointer (some ⟨b1, 0, none⟩), undef, .pointer (some ⟨b2, 0, none⟩), .slice none 0 0, .slice s5_A s5_n s5_c, (g19 7), .int .i64 a1, .bool false, undef, (g8 11), (g8 12), (g8 13), (g8 14), (g8 15), .int .i64 a1, .slice s5_A s5_n s5_c, .slice s5_A s5_n s5_c, .int .i64 ((List.replicate (a1 : Int).toNat (Cod.zero (CI .u8))).length : Int), (g19 20), (g19 21), (g19 22), (g19 23), (g19 24), (g19 25), (g19 26), (g19 27), (g19 28), (g19 29), (g19 30), (g19 31), (g19 32), (g19 33), (g19 34), (g19 35), (g19 36), (g19 37), (g19 38), (g19 39), (g19 40), (g19 41), (g19 42), (g19 43), (g19 44), (g19 45), (g19 46), (g19 47), (g19 48), (g19 49), (g19 50), (g19 51), (g19 52), (g19 53), undef, undef], []⟩) (fun N0 nn0 => ?_) ?_
 ·clear hk0
  refine xblock ?_
  refine wp_loop_k (fun n a w => ∃ z6 z7 z8_0 z8_1 z8_2 z8_3, keccak_Squeeze.l0 K n a1 z6 z7 z8_0 z8_1 z8_2 z8_3 = some (y9, y10_0, y10_1, y10_2, y10_3) ∧ St w0 [] [.ownL (CI .u8) s5_A s5_n s5_c z7 5, .blk b2 (([.int .i64 0] : List Value) ++ enc .u64 (zeroA 25) ++ ([.int .i64 0, .bool false] : List Value)) 115, .blk b1 (([.int .i64 z8_0] : List Value) ++ enc .u64 z8_1 ++ ([.int .i64 z8_2, .bool z8_3] : List Value)) 115] [.rowL (CA .u64 24 (by decide)) (some ⟨0, 0, none⟩) 1 1 ([tab_0]), .rowL (CA .i64 24 (by decide)) (some ⟨1, 0, none⟩) 1 1 ([tab_1]), .rowL (CA .i64 24 (by decide)) (some ⟨2, 0, none⟩) 1 1 ([tab_2])] w ∧ ∃ g18 : Nat → Value, a = ⟨#[.agg (([.int .i64 a0_0] : List Value) ++ enc .u64 a0_1 ++ ([.int .i64 a0_2, .bool a0_3] : List Value)).toArray, .int .i64 a1, .pointer (some ⟨b1, 0, none⟩), undef, .pointer (some ⟨b2, 0, none⟩), .slice none 0 0, .slice s5_A s5_n s5_c, (g18 7), .int .i64 a1, .bool false, undef, (g8 11), (g8 12), (g8 13), (g8 14), (g8 15), .int .i64 a1, .slice s5_A s5_n s5_c, .slice s5_A s5_n s5_c, .int .i64 ((List.replicate (a1 : Int).toNat (Cod.zero (CI .u8))).length : Int), .int .i64 z6, (g18 21), (g18 22), (g18 23), (g18 24), (g18 25), (g18 26), (g18 27), (g18 28), (g18 29), (g18 30), (g18 31), (g18 32), (g18 33), (g18 34), (g18 35), (g18 36), (g18 37), (g18 38), (g18 39), (g18 40), (g18 41), (g18 42), (g18 43), (g18 44), (g18 45), (g18 46), (g18 47), (g18 48), (g18 49), (g18 50), (g18 51), (g18 52), (g18 53), undef, undef], []⟩) K ⟨0, (List.replicate (a1 : Int).toNat (Cod.zero (CI .u8))), y3_0, y3_1, y3_2, y3_3, hy, hs.conv rfl, exg (by kernel_rfl)⟩ ?_
  clear hs h hy
  rintro n a w ⟨z6, z7, z8_0, z8_1, z8_2, z8_3, h, hs, g18, rfl⟩ KL0 kl0
  cases n with
  | zero => exact nomatch (show none = some _ from h)
  | succ n =>
   refine xseq_k fun KS20 ks20 => ?_
   refine xregS [0] fun KR21 kr21 => ?_
   rcases of_if h with ⟨hc, h⟩ | ⟨hc, h⟩
   ·refine wpS.tk 0 false (some 21) (.bool true) (yld_b (dt hc) (fun _ => by kernel_rfl)) ?_
    refine wpS.fin rfl (kr21 _ _ (then_n (ks20 _ _ (xseq_k fun KS22 ks22 => (wp_cond_t (by kernel_rfl) (xskip (then_n (ks22 _ _ (xseq_k fun KS23 ks23 => (xblock (xseq_k fun KS24 ks24 => (xregS [0, 1] fun KR25 kr25 => ?_))))))))))))
    refine wpS.qs [(0, 22, .int .i64 z6), (1, 7, .int .i64 z6)] ?_
    refine wpS.fin rfl (kr25 _ _ (then_n (ks24 _ _ ?_)))
    obtain ⟨⟨y11_0, y11_1, y11_2, y11_3⟩, hj, h⟩ := of_bind h
    refine xseq_k fun KS27 ks27 => wp_join (N := fun a w => St w0 [] [.ownL (CI .u8) s5_A s5_n s5_c z7 5, .blk b2 (([.int .i64 0] : List Value) ++ enc .u64 (zeroA 25) ++ ([.int .i64 0, .bool false] : List Value)) 115, .blk b1 (([.int .i64 y11_0] : List Value) ++ enc .u64 y11_1 ++ ([.int .i64 y11_2, .bool y11_3] : List Value)) 115] [.rowL (CA .u64 24 (by decide)) (some ⟨0, 0, none⟩) 1 1 ([tab_0]), .rowL (CA .i64 24 (by decide)) (some ⟨1, 0, none⟩) 1 1 ([tab_1]), .rowL (CA .i64 24 (by decide)) (some ⟨2, 0, none⟩) 1 1 ([tab_2])] w ∧ ∃ g26 : Nat → Value, a = ⟨#[.agg (([.int .i64 a0_0] : List Value) ++ enc .u64 a0_1 ++ ([.int .i64 a0_2, .bool a0_3] : List Value)).toArray, .int .i64 a1, .pointer (some ⟨b1, 0, none⟩), undef, .pointer (some ⟨b2, 0, none⟩), .slice none 0 0, .slice s5_A s5_n s5_c, .int .i64 z6, .int .i64 a1, .bool false, undef, (g8 11), (g8 12), (g8 13), (g8 14), (g8 15), .int .i64 a1, .slice s5_A s5_n s5_c, .slice s5_A s5_n s5_c, .int .i64 ((List.replicate (a1 : Int).toNat (Cod.zero (CI .u8))).length : Int), .int .i64 z6, .bool true, .int .i64 z6, (g26 23), (g26 24), (g26 25), (g26 26), (g26 27), (g26 28), (g26 29), (g26 30), (g26 31), (g26 32), (g26 33), (g18 34), (g18 35), (g18 36), (g18 37), (g18 38), (g18 39), (g18 40), (g18 41), (g18 42), (g18 43), (g18 44), (g18 45), (g18 46), (g18 47), (g18 48), (g18 49), (g18 50), (g18 51), (g18 52), (g18 53), undef, undef], []⟩) (fun N nj => ?_) ?_
    ·clear h
     have h := hj
     refine xseq_k fun KS28 ks28 => ?_
     refine wp_regG [] (fun k => True) 6 (by kernel_rfl) (by kernel_rfl) (by kernel_rfl) fun KR29 kr29 => ?_
     have hs := hs.drawn1
     refine wpG.q 0 23 (.pointer (some ⟨b1, 26, none⟩)) ?_
     refine wpG.tD 1 true (some 24) (.int .i64 z8_2) (yld_load1 (e := 3) (o := 26) hs 2 rfl (by kernel_rfl) (by kernel_rfl) (get_post 0 rfl rfl) .grow) ?_
     refine wpG.q 2 25 (.pointer (some ⟨b1, 0, none⟩)) ?_
     refine wpG.tD 3 true (some 26) (.int .i64 z8_0) (yld_load1 (e := 3) (o := 0) hs 2 rfl (by kernel_rfl) (by kernel_rfl) (get_pre rfl) .grow) ?_
     obtain ⟨r12, hg, h⟩ := of_bind h
     refine wpG.only 4 (by kernel_rfl) (op_call (d := (some 27)) (by kernel_rfl) hs (fun _ => by kernel_rfl) (keccak_rate.ok hg _) ?_)
     intro w gw hs
     refine ⟨.of gw, ?_⟩
     rcases of_if h with ⟨hc, h⟩ | ⟨hc, h⟩
     ·refine wpG.tD 5 false (some 28) (.bool true) (yld_b (et hc) (fun _ => by kernel_rfl)) ?_
      refine wpG.fin (by kernel_rfl) rfl (kr29 _ _ ?_)
      refine then_n (ks28 _ _ (wp_cond_t (by kernel_rfl) (xregS [0, 1, 2, 3, 4, 5, 6] fun KR30 kr30 => ?_)))
      refine wpS.q 0 29 (.pointer (some ⟨b1, 1, none⟩)) ?_
      refine wpS.tk 1 true (some 30) (.agg (enc .u64 z8_1).toArray) (yld_loadN (e := 113) (n := 25) (o := 1) hs 2 rfl (by kernel_rfl) (by kernel_rfl) (by kernel_rfl) (mid_of rfl) (enc_len _ _) .grow) ?_
      obtain ⟨r13, hg, h⟩ := of_bind h
      refine wpS.only 2 (op_call (d := (some 31)) (by kernel_rfl) hs (fun _ => by kernel_rfl) (keccak_Permute.ok hg _ (hs.rowR 0 rfl) (hs.rowR 1 rfl) (hs.rowR 2 rfl)) ?_)
      intro w gw hs
      refine ⟨fun _ => trivial, ?_⟩
      refine wpS.q 3 32 (.pointer (some ⟨b1, 1, none⟩)) ?_
      refine wpS.only 4 (op_storeM (t := 113) (o := 1) (m := 25) (v := .agg (enc .u64 r13).toArray) (vs := enc .u64 r13) (d := none) (by kernel_rfl) hs 2 rfl (by kernel_rfl) (by kernel_rfl) (by kernel_rfl) (enc_len _ _) (by simp [enc_len]) (by intro u hu; exact enc_one _ _ u hu) (splice_row rfl) ?_)
      intro w kp hs
      refine ⟨fun _ => trivial, ?_⟩
      refine wpS.q 5 33 (.pointer (some ⟨b1, 26, none⟩)) ?_
      refine wpS.only 6 (op_storeQ (t := 3) (o := 26) (v := .int .i64 0) (d := none) (by kernel_rfl) hs 2 rfl (by kernel_rfl) rfl (by kernel_rfl) (by simp [enc_len]) (set_post 0 rfl) ?_)
      intro w kp hs
      try dsimp only [List.set] at hs
      refine ⟨fun _ => trivial, ?_⟩
      refine wpS.fin rfl (kr30 _ _ ?_)
      obtain ⟨q0, qr0⟩ := Prod.mk.inj (of_some h)
      obtain ⟨q1, qr1⟩ := Prod.mk.inj (qr0)
      obtain ⟨q2, qr2⟩ := Prod.mk.inj (qr1)
      have q3 := qr2
      subst q0
      subst q1
      subst q2
      subst q3
      exact nj _ _ ⟨(hs.conv rfl), exg (by kernel_rfl)⟩
     refine wpG.tD 5 false (some 28) (.bool false) (yld_b (ef hc) (fun _ => by kernel_rfl)) ?_
     refine wpG.fin (by kernel_rfl) rfl (kr29 _ _ ?_)
     refine then_n (ks28 _ _ (wp_cond_f (by kernel_rfl) (xskip ?_)))
     obtain ⟨q0, qr0⟩ := Prod.mk.inj (of_some h)
     obtain ⟨q1, qr1⟩ := Prod.mk.inj (qr0)
     obtain ⟨q2, qr2⟩ := Prod.mk.inj (qr1)
     have q3 := qr2
     subst q0
     subst q1
     subst q2
     subst q3
     exact nj _ _ ⟨(hs.conv rfl), exg (by kernel_rfl)⟩
    clear hj hs
    rintro a w ⟨hs, g26, rfl⟩
    refine then_n (ks27 _ _ (xseq_k fun KS31 ks31 => ?_))
    refine wp_regG [15] (fun k => True) 16 (by kernel_rfl) (by kernel_rfl) (by kernel_rfl) fun KR32 kr32 => ?_
    have hs := hs.drawn1
    refine wpG.q 0 34 (.slice s5_A s5_n s5_c) ?_
    refine wpG.q 1 35 (.int .i64 z6) ?_
    refine wpG.q 2 36 (.pointer (some ⟨b1, 26, none⟩)) ?_
    refine wpG.tD 3 true (some 37) (.int .i64 y11_2) (yld_load1 (e := 3) (o := 26) hs 2 rfl (by kernel_rfl) (by kernel_rfl) (get_post 0 rfl rfl) .grow) ?_
    refine wpG.q 4 38 (.int .i64 (iquo .i64 y11_2 8)) ?_
    refine wpG.q 5 39 (.pointer (some ⟨b1, 1, none⟩)) ?_
    obtain ⟨x14, hx, h⟩ := of_bind h
    have hx := of_some hx
    subst hx
    obtain ⟨i0_33, h⟩ := of_chk h
    obtain ⟨i1_33, h⟩ := of_chk h
    refine wpG.tD 6 false (some 40) (.pointer (some ⟨b1, 1 + ((iquo .i64 y11_2 8) : Int).toNat * 1, none⟩)) (yld_idx (t := 113) (e := 112) (n := 25) (sz := 1) (k := .i64) (x := (iquo .i64 y11_2 8)) (by kernel_rfl) (by kernel_rfl) (by kernel_rfl) i0_33 i1_33) ?_
    refine wpG.tD 7 true (some 41) (.int .u64 (rd y11_1 (iquo .i64 y11_2 8))) (yld_loadP (m := 1) (e := 112) (x := (iquo .i64 y11_2 8)) hs 2 rfl (by kernel_rfl) (by kernel_rfl) i0_33 i1_33 (by simp [enc_len]) .grow) ?_
    refine wpG.q 8 42 (.pointer (some ⟨b1, 26, none⟩)) ?_
    refine wpG.tD 9 true (some 43) (.int .i64 y11_2) (yld_load1 (e := 3) (o := 26) hs 2 rfl (by kernel_rfl) (by kernel_rfl) (get_post 0 rfl rfl) .grow) ?_
    refine wpG.q 10 44 (.int .i64 (irem .i64 y11_2 8)) ?_
    refine wpG.q 11 45 (.int .i64 (imul .i64 8 (irem .i64 y11_2 8))) ?_
    obtain ⟨h0, h⟩ := of_chk h
    refine wpG.tD 12 false (some 46) (.int .u64 (ishr .u64 (rd y11_1 (iquo .i64 y11_2 8)) (imul .i64 8 (irem .i64 y11_2 8)))) (yld_shr (t := 112) (k' := .i64) (by kernel_rfl) h0) ?_
    refine wpG.q 13 47 (.int .u8 (iconv .u8 (ishr .u64 (rd y11_1 (iquo .i64 y11_2 8)) (imul .i64 8 (irem .i64 y11_2 8))))) ?_
    obtain ⟨h0, h⟩ := of_chk h
    obtain ⟨h1, h⟩ := of_chk h
    have i0_34 := h0
    have i1_34 := h1
    refine wpG.tD 14 false (some 48) (.pointer (adr s5_A ((z6 : Int).toNat * Cod.size (CI .u8)))) (yld_idxL (C := (CI .u8)) (t := 24) (e := 5) (k := .i64) (x := z6) (hs.rowL 0 rfl) (by kernel_rfl) (by kernel_rfl) (by kernel_rfl) h0 h1) ?_
    obtain ⟨x15, hx, h⟩ := of_bind h
    refine wpG.only 15 (by kernel_rfl) (op_storeL (C := (CI .u8)) (t := 5) (x := z6) (v := x15) (d := none) (by kernel_rfl) hs 0 rfl (by cases hx; kernel_rfl) (by kernel_rfl) i0_34 i1_34 ?_)
    intro w hs
    refine ⟨⟨fun hf => absurd hf (by decide), .all _ _⟩, ?_⟩
    refine wpG.fin (by kernel_rfl) rfl (kr32 _ _ ?_)
    refine then_n (ks31 _ _ (xregS [0, 1, 2, 3, 4] fun KR35 kr35 => ?_))
    refine wpS.q 0 49 (.pointer (some ⟨b1, 26, none⟩)) ?_
    refine wpS.tk 1 true (some 50) (.int .i64 y11_2) (yld_load1 (e := 3) (o := 26) hs 2 rfl (by kernel_rfl) (by kernel_rfl) (get_post 0 rfl rfl) .grow) ?_
    refine wpS.qs [(2, 51, .int .i64 (iadd .i64 y11_2 1)), (3, 52, .pointer (some ⟨b1, 26, none⟩))] ?_
    obtain ⟨x16, hx, h⟩ := of_bind h
    refine wpS.only 4 (op_storeQ (t := 3) (o := 26) (v := .int .i64 x16) (d := none) (by kernel_rfl) hs 2 rfl (by cases hx; kernel_rfl) rfl (by kernel_rfl) (by simp [enc_len]) (set_post 0 rfl) ?_)
    intro w kp hs
    try dsimp only [List.set] at hs
    refine ⟨fun _ => trivial, ?_⟩
    refine wpS.fin rfl (kr35 _ _ (inBlock_n (then_n (ks23 _ _ (xregS [0, 1] fun KR36 kr36 => ?_)))))
    refine wpS.qs [(0, 53, .int .i64 (iadd .i64 z6 1)), (1, 20, .int .i64 (iadd .i64 z6 1))] ?_
    refine wpS.fin rfl (kr36 _ _ ?_)
    exact then_n (kl0 _ _ ⟨n, Nat.lt_succ_self n, (iadd .i64 z6 1), (wrL z7 z6 x15), y11_0, y11_1, x16, y11_3, h, (hs.conv rfl), exg (by kernel_rfl)⟩)
   refine wpS.tk 0 false (some 21) (.bool false) (yld_b (df hc) (fun _ => by kernel_rfl)) ?_
   refine wpS.fin rfl (kr21 _ _ (then_n (ks20 _ _ (xseq_k fun KS37 ks37 => (wp_cond_f (by kernel_rfl) (xexit (then_x (then_x (inBlock_hit ?_)))))))))
   obtain ⟨q0, qr0⟩ := Prod.mk.inj (of_some h)
   obtain ⟨q1, qr1⟩ := Prod.mk.inj (qr0)
   obtain ⟨q2, qr2⟩ := Prod.mk.inj (qr1)
   obtain ⟨q3, qr3⟩ := Prod.mk.inj (qr2)
   have q4 := qr3
   subst q0
   subst q1
   subst q2
   subst q3
   subst q4
   exact exq_n (nn0 _ _ ⟨(hs.conv rfl), exg (by kernel_rfl)⟩)
 clear hs h hy
 rintro a w ⟨hs, g19, rfl⟩
 have h := hk0
 refine then_n (ks15 _ _ (xseq_k fun KS38 ks38 => (xregS [0, 1, 2, 3] fun KR39 kr39 => ?_)))
 refine wpS.tk 0 true (some 54) (.agg (([.int .i64 y10_0] : List Value) ++ enc .u64 y10_1 ++ ([.int .i64 y10_2, .bool y10_3] : List Value)).toArray) (yld_loadW (e := 115) (n := 28) hs 2 rfl (by kernel_rfl) (by kernel_rfl) (by kernel_rfl) (by simp [enc_len]) .grow) ?_
 refine wpS.q 1 55 (.slice s5_A s5_n s5_c) ?_
 refine wpS.only 2 (op_storeW (t := 115) (v := .agg (([.int .i64 y10_0] : List Value) ++ enc .u64 y10_1 ++ ([.int .i64 y10_2, .bool y10_3] : List Value)).toArray) (d := none) (by kernel_rfl) hs 1 rfl (vs := ([.int .i64 y10_0] : List Value) ++ enc .u64 y10_1 ++ ([.int .i64 y10_2, .bool y10_3] : List Value)) (n := 28) (by kernel_rfl) (by kernel_rfl) (by kernel_rfl) (by simp [enc_len]) (by simp [enc_len]) (one_app (one_app (by simp [Value.oneCell']) (fun u hu => enc_one _ _ u hu)) (by simp [Value.oneCell'])) ?_)
 intro w kp hs
 refine ⟨fun _ => trivial, ?_⟩
 refine wpS.q 3 5 (.slice s5_A s5_n s5_c) ?_
 refine wpS.fin rfl (kr39 _ _ (then_n (ks38 _ _ (xret ?_))))
 obtain ⟨q0, qr0⟩ := Prod.mk.inj (of_some h)
 obtain ⟨q1, qr1⟩ := Prod.mk.inj (qr0)
 obtain ⟨q2, qr2⟩ := Prod.mk.inj (qr1)
 obtain ⟨q3, qr3⟩ := Prod.mk.inj (qr2)
 have q4 := qr3
 subst q0
 subst q1
 subst q2
 subst q3
 subst q4
 exact qq _ _ (post_ret (by kernel_rfl) (run_results [.cell 4 115, .tmp 5] [.agg (([.int .i64 y10_0] : List Value) ++ enc .u64 y10_1 ++ ([.int .i64 y10_2, .bool y10_3] : List Value)).toArray, .slice s5_A s5_n s5_c] (by kernel_rfl) (.cons (res_cellN (n := 28) hs 1 rfl (by kernel_rfl) (by kernel_rfl) (by kernel_rfl) (by simp [enc_len])) (.cons (res_tmp (by kernel_rfl)) .nil))) ⟨⟨s5_A, s5_n, s5_c⟩, congrArg Ending.returned (by kernel_rfl), ((hs.drop (.cons_cons _ (.cons _ (.cons _ .slnil)))).pickR pick_nil)⟩)

theorem keccak_Sum.ok {K : Nat} {a0 : Int} {a1 : List Int} {a2 : Int} {r0 : List Int} {r1 : Int} {a1_A : Option Addr} {a1_n : Nat} {a1_c : Nat} (h : keccak_Sum.f K a0 a1 a2 = some (r0, r1)) (w0 : World) (hp1 : RowL (CI .u8) w0 a1_A a1_n a1_c a1) (hg0 : RowL (CA .u64 24 (by decide)) w0 (some ⟨0, 0, none⟩) 1 1 [tab_0]) (hg1 : RowL (CA .i64 24 (by decide)) w0 (some ⟨1, 0, none⟩) 1 1 [tab_1]) (hg2 : RowL (CA .i64 24 (by decide)) w0 (some ⟨2, 0, none⟩) 1 1 [tab_2]) : Calls Tryd.prog 39 #[.int .i64 a0, .slice a1_A a1_n a1_c, .int .i64 a2] w0 fun e w' => ∃ h : (Option Addr × Nat × Nat), e = .returned (.tuple #[.slice h.1 h.2.1 h.2.2, .int .i64 r1]) ∧ St w0 [] [.ownL (CI .u8) h.1 h.2.1 h.2.2 r0 5] [] w' := by
 refine calls_k Tryd.func39 rfl fun Q qq => ?_
 have hs := St.startR (all_cons (RowP.ent hp1) (all_cons (RowP.ent hg0) (all_cons (RowP.ent hg1) (all_cons (RowP.ent hg2) all_nil))))
 refine wp_conv (a' := ⟨#[.int .i64 a0, .slice a1_A a1_n a1_c, .int .i64 a2, undef, undef, undef, undef, undef, undef, undef, undef, undef, undef, undef, undef, undef, undef, undef, undef, undef, undef, undef, undef, undef, undef, undef, undef, undef, undef, undef, undef, undef, undef, undef, undef], []⟩) (by kernel_rfl) ?_
 refine xseq_k fun KS1 ks1 => ?_
 refine xregS [0, 1] fun KR2 kr2 => ?_
 refine wpS.qs [(0, 6, .slice none 0 0), (1, 7, .int .i64 0)] ?_
 refine wpS.fin rfl (kr2 _ _ (then_n (ks1 _ _ (xseq_k fun KS3 ks3 => (xregS [0, 1, 2, 3, 4, 5, 6, 7] fun KR4 kr4 => ?_)))))
 refine wpS.q 0 13 (.int .i64 a0) ?_
 obtain ⟨⟨r1_0, r1_1, r1_2, r1_3, r2⟩, hg, h⟩ := of_bind h
 refine wpS.only 1 (op_call (d := (some 14)) (by kernel_rfl) hs (fun _ => by kernel_rfl) (keccak_New.ok hg _) ?_)
 intro w gw hs
 refine ⟨fun _ => trivial, ?_⟩
 refine wpS.qs [(2, 12, .tuple #[.agg (([.int .i64 r1_0] : List Value) ++ enc .u64 r1_1 ++ ([.int .i64 r1_2, .bool r1_3] : List Value)).toArray, .int .i64 r2]), (3, 15, .agg (([.int .i64 r1_0] : List Value) ++ enc .u64 r1_1 ++ ([.int .i64 r1_2, .bool r1_3] : List Value)).toArray), (4, 16, .int .i64 r2)] ?_
 refine wpS.only 5 (op_alloc (t := 115) (d := (some 8)) (by kernel_rfl) hs (([.int .i64 0] : List Value) ++ enc .u64 (zeroA 25) ++ ([.int .i64 0, .bool false] : List Value)) (.agg (([.int .i64 0] : List Value) ++ enc .u64 (zeroA 25) ++ ([.int .i64 0, .bool false] : List Value)).toArray) (by kernel_rfl) (by kernel_rfl) (by kernel_rfl) ?_)
 intro b3 w gw hs
 refine ⟨fun _ => trivial, ?_⟩
 refine wpS.only 6 (op_storeW (t := 115) (v := .agg (([.int .i64 r1_0] : List Value) ++ enc .u64 r1_1 ++ ([.int .i64 r1_2, .bool r1_3] : List Value)).toArray) (d := none) (by kernel_rfl) hs 0 rfl (vs := ([.int .i64 r1_0] : List Value) ++ enc .u64 r1_1 ++ ([.int .i64 r1_2, .bool r1_3] : List Value)) (n := 28) (by kernel_rfl) (by kernel_rfl) (by kernel_rfl) (by simp [enc_len]) (by simp [enc_len]) (one_app (one_app (by simp [Value.oneCell']) (fun u hu => enc_one _ _ u hu)) (by simp [Value.oneCell'])) ?_)
 intro w kp hs
 refine ⟨fun _ => trivial, ?_⟩
 refine wpS.q 7 9 (.int .i64 r2) ?_
 refine wpS.fin rfl (kr4 _ _ (then_n (ks3 _ _ (xseq_k fun KS5 ks5 => (xseq_k fun KS6 ks6 => (xregS [0, 1] fun KR7 kr7 => ?_))))))
 refine wpS.q 0 17 (.int .i64 r2) ?_
 rcases of_if h with ⟨hc, h⟩ | ⟨hc, h⟩
 ·refine wpS.tk 1 false (some 18) (.bool false) (yld_b (nf hc) (fun _ => by kernel_rfl)) ?_
  refine wpS.fin rfl (kr7 _ _ (then_n (ks6 _ _ (wp_cond_f (by kernel_rfl) (xskip (then_n (ks5 _ _ (xseq_k fun KS8 ks8 => (xseq_k fun KS9 ks9 => (xregS [0, 1, 2, 3, 4, 5] fun KR10 kr10 => ?_))))))))))
  refine wpS.q 0 20 (.int .i64 a2) ?_
  rcases of_if h with ⟨hc, h⟩ | ⟨hc, h⟩
  ·refine wpS.tk 1 false (some 21) (.bool true) (yld_b (dt hc) (fun _ => by kernel_rfl)) ?_
   refine wpS.qs [(2, 22, .bool true), (3, 23, undef), (4, 24, undef), (5, 25, .bool true)] ?_
   refine wpS.fin rfl (kr10 _ _ (then_n (ks9 _ _ (wp_cond_t (by kernel_rfl) (xseq_k fun KS11 ks11 => (xregS [0, 1] fun KR12 kr12 => ?_))))))
   refine wpS.qs [(0, 6, .slice none 0 0), (1, 7, .int .i64 8)] ?_
   refine wpS.fin rfl (kr12 _ _ (then_n (ks11 _ _ (xret (then_r ?_)))))
   obtain ⟨q0, qr0⟩ := Prod.mk.inj (of_some h)
   have q1 := qr0
   subst q0
   subst q1
   have hs := hs.addNilL (CI .u8) 5
   exact qq _ _ (post_ret (by kernel_rfl) (run_results [.tmp 6, .tmp 7] [.slice none 0 0, .int .i64 8] (by kernel_rfl) (.cons (res_tmp (by kernel_rfl)) (.cons (res_tmp (by kernel_rfl)) .nil))) ⟨⟨none, 0, 0⟩, congrArg Ending.returned (by kernel_rfl), ((hs.drop (.cons_cons _ (.cons _ .slnil))).pickR pick_nil)⟩)
  refine wpS.tk 1 false (some 21) (.bool false) (yld_b (df hc) (fun _ => by kernel_rfl)) ?_
  refine wpS.qs [(2, 22, .bool false), (3, 23, .int .i64 a2)] ?_
  rcases of_if h with ⟨hc, h⟩ | ⟨hc, h⟩
  ·refine wpS.tk 4 false (some 24) (.bool true) (yld_b (dt hc) (fun _ => by kernel_rfl)) ?_
   refine wpS.q 5 25 (.bool true) ?_
   refine wpS.fin rfl (kr10 _ _ (then_n (ks9 _ _ (wp_cond_t (by kernel_rfl) (xseq_k fun KS13 ks13 => (xregS [0, 1] fun KR14 kr14 => ?_))))))
   refine wpS.qs [(0, 6, .slice none 0 0), (1, 7, .int .i64 8)] ?_
   refine wpS.fin rfl (kr14 _ _ (then_n (ks13 _ _ (xret (then_r ?_)))))
   obtain ⟨q0, qr0⟩ := Prod.mk.inj (of_some h)
   have q1 := qr0
   subst q0
   subst q1
   have hs := hs.addNilL (CI .u8) 5
   exact qq _ _ (post_ret (by kernel_rfl) (run_results [.tmp 6, .tmp 7] [.slice none 0 0, .int .i64 8] (by kernel_rfl) (.cons (res_tmp (by kernel_rfl)) (.cons (res_tmp (by kernel_rfl)) .nil))) ⟨⟨none, 0, 0⟩, congrArg Ending.returned (by kernel_rfl), ((hs.drop (.cons_cons _ (.cons _ .slnil))).pickR pick_nil)⟩)
  refine wpS.tk 4 false (some 24) (.bool false) (yld_b (df hc) (fun _ => by kernel_rfl)) ?_
  refine wpS.q 5 25 (.bool false) ?_
  refine wpS.fin rfl (kr10 _ _ (then_n (ks9 _ _ (wp_cond_f (by kernel_rfl) (xskip (then_n (ks8 _ _ (xseq_k fun KS15 ks15 => (xregS [0, 1, 2, 3, 4, 5, 6, 7, 8, 9, 10] fun KR16 kr16 => ?_)))))))))
  refine wpS.tk 0 true (some 27) (.agg (([.int .i64 r1_0] : List Value) ++ enc .u64 r1_1 ++ ([.int .i64 r1_2, .bool r1_3] : List Value)).toArray) (yld_loadW (e := 115) (n := 28) hs 0 rfl (by kernel_rfl) (by kernel_rfl) (by kernel_rfl) (by simp [enc_len]) .grow) ?_
  refine wpS.q 1 28 (.slice a1_A a1_n a1_c) ?_
  obtain ⟨⟨r4_0, r4_1, r4_2, r4_3⟩, hg, h⟩ := of_bind h
  refine wpS.only 2 (op_call (d := (some 29)) (by kernel_rfl) hs (fun _ => by kernel_rfl) (keccak_Absorb.ok hg _ (hs.rowR 0 rfl) (hs.rowR 1 rfl) (hs.rowR 2 rfl) (hs.rowR 3 rfl)) ?_)
  intro w gw hs
  refine ⟨fun _ => trivial, ?_⟩
  refine wpS.q 3 30 (.int .i64 a2) ?_
  obtain ⟨⟨r5_0, r5_1, r5_2, r5_3, r6⟩, hg, h⟩ := of_bind h
  refine wpS.only 4 (op_callH (d := (some 31)) (by kernel_rfl) hs (fun _ => by kernel_rfl) (keccak_Squeeze.ok hg _ (hs.rowR 1 rfl) (hs.rowR 2 rfl) (hs.rowR 3 rfl)) ?_)
  rintro ⟨r6_A, r6_n, r6_c⟩ w gw hs
  have hs := hs.conv (L' := [.ownL (CI .u8) r6_A r6_n r6_c r6 5, .blk b3 (([.int .i64 r1_0] : List Value) ++ enc .u64 r1_1 ++ ([.int .i64 r1_2, .bool r1_3] : List Value)) 115]) rfl
  refine ⟨fun _ => trivial, ?_⟩
  refine wpS.qs [(5, 26, .tuple #[.agg (([.int .i64 r5_0] : List Value) ++ enc .u64 r5_1 ++ ([.int .i64 r5_2, .bool r5_3] : List Value)).toArray, .slice r6_A r6_n r6_c]), (6, 32, .agg (([.int .i64 r5_0] : List Value) ++ enc .u64 r5_1 ++ ([.int .i64 r5_2, .bool r5_3] : List Value)).toArray), (7, 33, .slice r6_A r6_n r6_c)] ?_
  refine wpS.only 8 (op_alloc (t := 115) (d := (some 10)) (by kernel_rfl) hs (([.int .i64 0] : List Value) ++ enc .u64 (zeroA 25) ++ ([.int .i64 0, .bool false] : List Value)) (.agg (([.int .i64 0] : List Value) ++ enc .u64 (zeroA 25) ++ ([.int .i64 0, .bool false] : List Value)).toArray) (by kernel_rfl) (by kernel_rfl) (by kernel_rfl) ?_)
  intro b7 w gw hs
  refine ⟨fun _ => trivial, ?_⟩
  refine wpS.only 9 (op_storeW (t := 115) (v := .agg (([.int .i64 r5_0] : List Value) ++ enc .u64 r5_1 ++ ([.int .i64 r5_2, .bool r5_3] : List Value)).toArray) (d := none) (by kernel_rfl) hs 0 rfl (vs := ([.int .i64 r5_0] : List Value) ++ enc .u64 r5_1 ++ ([.int .i64 r5_2, .bool r5_3] : List Value)) (n := 28) (by kernel_rfl) (by kernel_rfl) (by kernel_rfl) (by simp [enc_len]) (by simp [enc_len]) (one_app (one_app (by simp [Value.oneCell']) (fun u hu => enc_one _ _ u hu)) (by simp [Value.oneCell'])) ?_)
  intro w kp hs
  refine ⟨fun _ => trivial, ?_⟩
  refine wpS.q 10 11 (.slice r6_A r6_n r6_c) ?_
  refine wpS.fin rfl (kr16 _ _ (then_n (ks15 _ _ (xseq_k fun KS17 ks17 => (xregS [0, 1, 2] fun KR18 kr18 => ?_)))))
  refine wpS.qs [(0, 34, .slice r6_A r6_n r6_c), (1, 6, .slice r6_A r6_n r6_c), (2, 7, .int .i64 0)] ?_
  refine wpS.fin rfl (kr18 _ _ (then_n (ks17 _ _ (xret ?_))))
  obtain ⟨q0, qr0⟩ := Prod.mk.inj (of_some h)
  have q1 := qr0
  subst q0
  subst q1
  exact qq _ _ (post_ret (by kernel_rfl) (run_results [.tmp 6, .tmp 7] [.slice r6_A r6_n r6_c, .int .i64 0] (by kernel_rfl) (.cons (res_tmp (by kernel_rfl)) (.cons (res_tmp (by kernel_rfl)) .nil))) ⟨⟨r6_A, r6_n, r6_c⟩, congrArg Ending.returned (by kernel_rfl), ((hs.drop (.cons _ (.cons_cons _ (.cons _ .slnil)))).pickR pick_nil)⟩)
 refine wpS.tk 1 false (some 18) (.bool true) (yld_b (nt hc) (fun _ => by kernel_rfl)) ?_
 refine wpS.fin rfl (kr7 _ _ (then_n (ks6 _ _ (wp_cond_t (by kernel_rfl) (xseq_k fun KS19 ks19 => (xregS [0, 1, 2] fun KR20 kr20 => ?_))))))
 refine wpS.qs [(0, 19, .int .i64 r2), (1, 6, .slice none 0 0), (2, 7, .int .i64 r2)] ?_
 refine wpS.fin rfl (kr20 _ _ (then_n (ks19 _ _ (xret (then_r ?_)))))
 obtain ⟨q0, qr0⟩ := Prod.mk.inj (of_some h)
 have q1 := qr0
 subst q0
 subst q1
 have hs := hs.addNilL (CI .u8) 5
 exact qq _ _ (post_ret (by kernel_rfl) (run_results [.tmp 6, .tmp 7] [.slice none 0 0, .int .i64 r2] (by kernel_rfl) (.cons (res_tmp (by kernel_rfl)) (.cons (res_tmp (by kernel_rfl)) .nil))) ⟨⟨none, 0, 0⟩, congrArg Ending.returned (by kernel_rfl), ((hs.drop (.cons_cons _ (.cons _ .slnil))).pickR pick_nil)⟩)

theorem bits_such.ok {K : Nat} {a0 : List Int} {a1 : Int} {a2 : Int} {r0 : Bool} {a0_A : Option Addr} {a0_n : Nat} {a0_c : Nat} (h : bits_such.f K a0 a1 a2 = some r0) (w0 : World) (hp0 : RowL (CI .u8) w0 a0_A a0_n a0_c a0) : Ret Tryd.prog 83 #[.slice a0_A a0_n a0_c, .int .i64 a1, .int .i64 a2] w0 (.bool r0) := by
 refine calls_k Tryd.func83 rfl fun Q qq => ?_
 have hs := St.startR (all_cons (RowP.ent hp0) all_nil)
 refine wp_conv (a' := ⟨#[.slice a0_A a0_n a0_c, .int .i64 a1, .int .i64 a2, undef, undef, undef, undef, undef, undef, undef, undef, undef, undef, undef, undef, undef, undef, undef, undef, undef, undef, undef, undef, undef, undef, undef], []⟩) (by kernel_rfl) ?_
 refine xseq_k fun KS1 ks1 => ?_
 refine xregS [0] fun KR2 kr2 => ?_
 refine wpS.q 0 6 (.bool false) ?_
 refine wpS.fin rfl (kr2 _ _ (then_n (ks1 _ _ (xseq_k fun KS3 ks3 => (xregS [0, 1, 2, 3, 4, 5, 6, 7, 8, 9, 10, 11, 12, 13, 14, 15, 16, 17, 18, 19] fun KR4 kr4 => ?_)))))
 refine wpS.q 0 7 (.int .i64 a1) ?_
 rcases of_if h with ⟨hc, h⟩ | ⟨hc, h⟩
 ·refine wpS.tk 1 false (some 8) (.bool true) (yld_b (dt hc) (fun _ => by kernel_rfl)) ?_
  refine wpS.qs [(2, 9, .bool true), (3, 10, .int .i64 a1)] ?_
  rcases of_if h with ⟨hc, h⟩ | ⟨hc, h⟩
  ·refine wpS.tk 4 false (some 11) (.bool true) (yld_b (dt hc) (fun _ => by kernel_rfl)) ?_
   refine wpS.qs [(5, 12, .bool true), (6, 13, .bool true), (7, 14, .int .i64 a2)] ?_
   rcases of_if h with ⟨hc, h⟩ | ⟨hc, h⟩
   ·refine wpS.tk 8 false (some 15) (.bool true) (yld_b (dt hc) (fun _ => by kernel_rfl)) ?_
    refine wpS.qs [(9, 16, .bool true), (10, 17, .bool true), (11, 18, .int .i64 a2), (12, 19, .slice a0_A a0_n a0_c)] ?_
    refine wpS.tk 13 false (some 20) (.int .i64 (a0.length : Int)) (yld_lenL (hs.rowR 0 rfl) (fun _ => by kernel_rfl)) ?_
    refine wpS.qs [(14, 21, .int .i64 (imul .i64 (a0.length : Int) 8)), (15, 22, .int .i64 a1)] ?_
    obtain ⟨h0, h⟩ := of_chk h
    refine wpS.tk 16 false (some 23) (.int .i64 (iquo .i64 (imul .i64 (a0.length : Int) 8) a1)) (yld_quo (t := 3) (by kernel_rfl) h0) ?_
    refine wpS.qs [(17, 24, .bool (decide (a2 ≤ (iquo .i64 (imul .i64 (a0.length : Int) 8) a1)))), (18, 25, .bool (decide (a2 ≤ (iquo .i64 (imul .i64 (a0.length : Int) 8) a1)))), (19, 6, .bool (decide (a2 ≤ (iquo .i64 (imul .i64 (a0.length : Int) 8) a1))))] ?_
    refine wpS.fin rfl (kr4 _ _ (then_n (ks3 _ _ (xret ?_))))
    have q0 := of_some h
    subst q0
    exact qq _ _ (post_ret (by kernel_rfl) (run_results [.tmp 6] [.bool (decide (a2 ≤ (iquo .i64 (imul .i64 (a0.length : Int) 8) a1)))] (by kernel_rfl) (.cons (res_tmp (by kernel_rfl)) .nil)) ⟨congrArg Ending.returned (by kernel_rfl), hs.none⟩)
   refine wpS.tk 8 false (some 15) (.bool false) (yld_b (df hc) (fun _ => by kernel_rfl)) ?_
   refine wpS.qs [(9, 16, .bool false), (10, 17, .bool false), (11, 18, undef), (12, 19, undef), (13, 20, undef), (14, 21, undef), (15, 22, undef), (16, 23, undef), (17, 24, undef), (18, 25, .bool false), (19, 6, .bool false)] ?_
   refine wpS.fin rfl (kr4 _ _ (then_n (ks3 _ _ (xret ?_))))
   have q0 := of_some h
   subst q0
   exact qq _ _ (post_ret (by kernel_rfl) (run_results [.tmp 6] [.bool false] (by kernel_rfl) (.cons (res_tmp (by kernel_rfl)) .nil)) ⟨congrArg Ending.returned (by kernel_rfl), hs.none⟩)
  refine wpS.tk 4 false (some 11) (.bool false) (yld_b (df hc) (fun _ => by kernel_rfl)) ?_
  refine wpS.qs [(5, 12, .bool false), (6, 13, .bool false), (7, 14, undef), (8, 15, undef), (9, 16, .bool false), (10, 17, .bool false), (11, 18, undef), (12, 19, undef), (13, 20, undef), (14, 21, undef), (15, 22, undef), (16, 23, undef), (17, 24, undef), (18, 25, .bool false), (19, 6, .bool false)] ?_
  refine wpS.fin rfl (kr4 _ _ (then_n (ks3 _ _ (xret ?_))))
  have q0 := of_some h
  subst q0
  exact qq _ _ (post_ret (by kernel_rfl) (run_results [.tmp 6] [.bool false] (by kernel_rfl) (.cons (res_tmp (by kernel_rfl)) .nil)) ⟨congrArg Ending.returned (by kernel_rfl), hs.none⟩)
 refine wpS.tk 1 false (some 8) (.bool false) (yld_b (df hc) (fun _ => by kernel_rfl)) ?_
 refine wpS.qs [(2, 9, .bool false), (3, 10, undef), (4, 11, undef), (5, 12, .bool false), (6, 13, .bool false), (7, 14, undef), (8, 15, undef), (9, 16, .bool false), (10, 17, .bool false), (11, 18, undef), (12, 19, undef), (13, 20, undef), (14, 21, undef), (15, 22, undef), (16, 23, undef), (17, 24, undef), (18, 25, .bool false), (19, 6, .bool false)] ?_
 refine wpS.fin rfl (kr4 _ _ (then_n (ks3 _ _ (xret ?_))))
 have q0 := of_some h
 subst q0
 exact qq _ _ (post_ret (by kernel_rfl) (run_results [.tmp 6] [.bool false] (by kernel_rfl) (.cons (res_tmp (by kernel_rfl)) .nil)) ⟨congrArg Ending.returned (by kernel_rfl), hs.none⟩)

theorem bits_Unpack.ok {K : Nat} {a0 : List Int} {a1 : Int} {a2 : Int} {r0 : List Int} {a0_A : Option Addr} {a0_n : Nat} {a0_c : Nat} (h : bits_Unpack.f K a0 a1 a2 = some r0) (w0 : World) (hp0 : RowL (CI .u8) w0 a0_A a0_n a0_c a0) : Calls Tryd.prog 40 #[.slice a0_A a0_n a0_c, .int .i64 a1, .int .i64 a2] w0 fun e w' => ∃ h : (Option Addr × Nat × Nat), e = .returned (.slice h.1 h.2.1 h.2.2) ∧ St w0 [] [.ownL (CI .u32) h.1 h.2.1 h.2.2 r0 70] [] w' := by
 refine calls_k Tryd.func40 rfl fun Q qq => ?_
 have hs := St.startR (all_cons (RowP.ent hp0) all_nil)
 refine wp_conv (a' := ⟨#[.slice a0_A a0_n a0_c, .int .i64 a1, .int .i64 a2, undef, undef, undef, undef, undef, undef, undef, undef, undef, undef, undef, undef, undef, undef, undef, undef, undef, undef, undef, undef, undef, undef, undef, undef, undef, undef, undef, undef, undef, undef, undef, undef, undef, undef, undef, undef, undef, undef, undef, undef, undef, undef, undef, undef, undef, undef, undef, undef, undef, undef, undef, undef], []⟩) (by kernel_rfl) ?_
 refine xseq_k fun KS1 ks1 => ?_
 refine xregS [0] fun KR2 kr2 => ?_
 refine wpS.q 0 6 (.slice none 0 0) ?_
 refine wpS.fin rfl (kr2 _ _ (then_n (ks1 _ _ (xseq_k fun KS3 ks3 => (xseq_k fun KS4 ks4 => (xregS [0, 1, 2, 3, 4] fun KR5 kr5 => ?_))))))
 refine wpS.qs [(0, 11, .slice a0_A a0_n a0_c), (1, 12, .int .i64 a1), (2, 13, .int .i64 a2)] ?_
 obtain ⟨r1, hg, h⟩ := of_bind h
 cases r1 with
 | true =>
  have h := of_if_t h
  refine wpS.only 3 (op_call (d := (some 14)) (by kernel_rfl) hs (fun _ => by kernel_rfl) (bits_such.ok hg _ (hs.rowR 0 rfl)) ?_)
  intro w gw hs
  refine ⟨fun _ => trivial, ?_⟩
  refine wpS.q 4 15 (.bool false) ?_
  refine wpS.fin rfl (kr5 _ _ (then_n (ks4 _ _ (wp_cond_f (by kernel_rfl) (xskip (then_n (ks3 _ _ (xseq_k fun KS6 ks6 => (xregS [0, 1, 2] fun KR7 kr7 => ?_)))))))))
  refine wpS.q 0 16 (.int .i64 a2) ?_
  obtain ⟨h0, h⟩ := of_chk h
  obtain ⟨h1, h⟩ := of_chk h
  refine wpS.only 1 (op_makeT (C := (CI .u32)) (t := 68) (e := 70) (bytes := 4) (B := 35184372088832) (kl := .i64) (kc := .i64) (x := a2) (d := (some 17)) (by kernel_rfl) hs (by kernel_rfl) (by kernel_rfl) (by kernel_rfl) (by kernel_rfl) (by kernel_rfl) h0 h1 (by decide) (by decide) ?_)
  intro s2_A s2_n s2_c w gw hs
  refine ⟨fun _ => trivial, ?_⟩
  refine wpS.q 2 7 (.slice s2_A s2_n s2_c) ?_
  refine wpS.fin rfl (kr7 _ _ (then_n (ks6 _ _ (xseq_k fun KS8 ks8 => (xregS [0, 1] fun KR9 kr9 => ?_)))))
  refine wpS.qs [(0, 8, .int .u64 0), (1, 9, .int .i64 0)] ?_
  refine wpS.fin rfl (kr9 _ _ (then_n (ks8 _ _ (xseq_k fun KS10 ks10 => (xseq_k fun KS11 ks11 => (xregS [0, 1, 2] fun KR12 kr12 => ?_))))))
  refine wpS.q 0 18 (.slice s2_A s2_n s2_c) ?_
  refine wpS.tk 1 false (some 19) (.int .i64 ((List.replicate (a2 : Int).toNat (Cod.zero (CI .u32))).length : Int)) (yld_lenL (hs.rowL 0 rfl) (fun _ => by kernel_rfl)) ?_
  refine wpS.q 2 20 (.int .i64 0) ?_
  refine wpS.fin rfl (kr12 _ _ (then_n (ks11 _ _ ?_)))
  obtain ⟨y8, hy, hk0⟩ := of_bind h
  refine wp_exq (N := fun a w => St w0 [] [.ownL (CI .u32) s2_A s2_n s2_c y8 70] [.rowL (CI .u8) a0_A a0_n a0_c a0] w ∧ ∃ g14 : Nat → Value, a = ⟨#[(g14 0), .int .i64 a1, .int .i64 a2, undef, undef, undef, .slice none 0 0, .slice s2_A s2_n s2_c, (g14 8), (g14 9), (g14 10), .slice a0_A a0_n a0_c, .int .i64 a1, .int .i64 a2, .bool true, .bool false, .int .i64 a2, .slice s2_A s2_n s2_c, .slice s2_A s2_n s2_c, .int .i64 ((List.replicate (a2 : Int).toNat (Cod.zero (CI .u32))).length : Int), (g14 20), (g14 21), (g14 22), (g14 23), (g14 24), (g14 25), (g14 26), (g14 27), (g14 28), (g14 29), (g14 30), (g14 31), (g14 32), (g14 33), (g14 34), (g14 35), (g14 36), (g14 37), (g14 38), (g14 39), (g14 40), (g14 41), (g14 42), (g14 43), (g14 44), (g14 45), (g14 46), (g14 47), (g14 48), (g14 49), (g14 50), (g14 51), (g14 52), (g14 53), undef], []⟩) (fun N0 nn0 => ?_) ?_
  ·clear hk0
   refine xblock ?_
   refine wp_loop_k (fun n a w => ∃ z3 z4 z5 z6 z7, ∃ (z7_A : Option Addr) (z7_n : Nat) (z7_c : Nat), bits_Unpack.l0 K n a1 a2 z3 z4 z5 z6 z7 = some y8 ∧ St w0 [] [.ownL (CI .u32) s2_A s2_n s2_c z6 70] [.rowL (CI .u8) z7_A z7_n z7_c z7, .rowL (CI .u8) a0_A a0_n a0_c a0] w ∧ ∃ g13 : Nat → Value, a = ⟨#[.slice z7_A z7_n z7_c, .int .i64 a1, .int .i64 a2, undef, undef, undef, .slice none 0 0, .slice s2_A s2_n s2_c, .int .u64 z3, .int .i64 z4, (g13 10), .slice a0_A a0_n a0_c, .int .i64 a1, .int .i64 a2, .bool true, .bool false, .int .i64 a2, .slice s2_A s2_n s2_c, .slice s2_A s2_n s2_c, .int .i64 ((List.replicate (a2 : Int).toNat (Cod.zero (CI .u32))).length : Int), .int .i64 z5, (g13 21), (g13 22), (g13 23), (g13 24), (g13 25), (g13 26), (g13 27), (g13 28), (g13 29), (g13 30), (g13 31), (g13 32), (g13 33), (g13 34), (g13 35), (g13 36), (g13 37), (g13 38), (g13 39), (g13 40), (g13 41), (g13 42), (g13 43), (g13 44), (g13 45), (g13 46), (g13 47), (g13 48), (g13 49), (g13 50), (g13 51), (g13 52), (g13 53), undef], []⟩) K ⟨0, 0, 0, (List.replicate (a2 : Int).toNat (Cod.zero (CI .u32))), a0, a0_A, a0_n, a0_c, hy, (hs.conv (L' := [.ownL (CI .u32) s2_A s2_n s2_c (List.replicate (a2 : Int).toNat (Cod.zero (CI .u32))) 70]) rfl).pickR (pick_cons 0 rfl (pick_cons 0 rfl pick_nil)), exg (by kernel_rfl)⟩ ?_
   clear hs h hy
   rintro n a w ⟨z3, z4, z5, z6, z7, z7_A, z7_n, z7_c, h, hs, g13, rfl⟩ KL0 kl0
   cases n with
   | zero => exact nomatch (show none = some _ from h)
   | succ n =>
    refine xseq_k fun KS15 ks15 => ?_
    refine xregS [0] fun KR16 kr16 => ?_
    rcases of_if h with ⟨hc, h⟩ | ⟨hc, h⟩
    ·refine wpS.tk 0 false (some 21) (.bool true) (yld_b (dt hc) (fun _ => by kernel_rfl)) ?_
     refine wpS.fin rfl (kr16 _ _ (then_n (ks15 _ _ (xseq_k fun KS17 ks17 => (wp_cond_t (by kernel_rfl) (xskip (then_n (ks17 _ _ (xseq_k fun KS18 ks18 => (xblock (xseq_k fun KS19 ks19 => (xregS [0, 1] fun KR20 kr20 => ?_))))))))))))
     refine wpS.qs [(0, 22, .int .i64 z5), (1, 10, .int .i64 z5)] ?_
     refine wpS.fin rfl (kr20 _ _ (then_n (ks19 _ _ (xseq_k fun KS21 ks21 => ?_))))
     obtain ⟨⟨y12, y13, y14⟩, hy, hk1⟩ := of_bind h
     refine wp_exq (N := fun a w => ∃ (y14_A : Option Addr) (y14_n : Nat) (y14_c : Nat), St w0 [] [.ownL (CI .u32) s2_A s2_n s2_c z6 70] [.rowL (CI .u8) y14_A y14_n y14_c y14, .rowL (CI .u8) z7_A z7_n z7_c z7, .rowL (CI .u8) a0_A a0_n a0_c a0] w ∧ ∃ g23 : Nat → Value, a = ⟨#[.slice y14_A y14_n y14_c, .int .i64 a1, .int .i64 a2, undef, undef, undef, .slice none 0 0, .slice s2_A s2_n s2_c, .int .u64 y12, .int .i64 y13, .int .i64 z5, .slice a0_A a0_n a0_c, .int .i64 a1, .int .i64 a2, .bool true, .bool false, .int .i64 a2, .slice s2_A s2_n s2_c, .slice s2_A s2_n s2_c, .int .i64 ((List.replicate (a2 : Int).toNat (Cod.zero (CI .u32))).length : Int), .int .i64 z5, .bool true, .int .i64 z5, (g23 23), (g23 24), (g23 25), (g23 26), (g23 27), (g23 28), (g23 29), (g23 30), (g23 31), (g23 32), (g23 33), (g23 34), (g23 35), (g23 36), (g23 37), (g13 38), (g13 39), (g13 40), (g13 41), (g13 42), (g13 43), (g13 44), (g13 45), (g13 46), (g13 47), (g13 48), (g13 49), (g13 50), (g13 51), (g13 52), (g13 53), undef], []⟩) (fun N1 nn1 => ?_) ?_
     ·clear hk1
      refine xblock ?_
      refine wp_loop_k (fun n a w => ∃ z9 z10 z11, ∃ (z11_A : Option Addr) (z11_n : Nat) (z11_c : Nat), bits_Unpack.l1 K n a1 z9 z10 z11 = some (y12, y13, y14) ∧ St w0 [] [.ownL (CI .u32) s2_A s2_n s2_c z6 70] [.rowL (CI .u8) z11_A z11_n z11_c z11, .rowL (CI .u8) z7_A z7_n z7_c z7, .rowL (CI .u8) a0_A a0_n a0_c a0] w ∧ ∃ g22 : Nat → Value, a = ⟨#[.slice z11_A z11_n z11_c, .int .i64 a1, .int .i64 a2, undef, undef, undef, .slice none 0 0, .slice s2_A s2_n s2_c, .int .u64 z9, .int .i64 z10, .int .i64 z5, .slice a0_A a0_n a0_c, .int .i64 a1, .int .i64 a2, .bool true, .bool false, .int .i64 a2, .slice s2_A s2_n s2_c, .slice s2_A s2_n s2_c, .int .i64 ((List.replicate (a2 : Int).toNat (Cod.zero (CI .u32))).length : Int), .int .i64 z5, .bool true, .int .i64 z5, (g22 23), (g22 24), (g22 25), (g22 26), (g22 27), (g22 28), (g22 29), (g22 30), (g22 31), (g22 32), (g22 33), (g22 34), (g22 35), (g22 36), (g22 37), (g13 38), (g13 39), (g13 40), (g13 41), (g13 42), (g13 43), (g13 44), (g13 45), (g13 46), (g13 47), (g13 48), (g13 49), (g13 50), (g13 51), (g13 52), (g13 53), undef], []⟩) K ⟨z3, z4, z7, z7_A, z7_n, z7_c, hy, (hs.conv (L' := [.ownL (CI .u32) s2_A s2_n s2_c z6 70]) rfl).pickR (pick_cons 0 rfl (pick_cons 0 rfl (pick_cons 1 rfl pick_nil))), exg (by kernel_rfl)⟩ ?_
      clear hs h hy
      rintro n a w ⟨z9, z10, z11, z11_A, z11_n, z11_c, h, hs, g22, rfl⟩ KL1 kl1
      cases n with
      | zero => exact nomatch (show none = some _ from h)
      | succ n =>
       refine xseq_k fun KS24 ks24 => ?_
       refine xseq_k fun KS25 ks25 => ?_
       refine xregS [0, 1, 2] fun KR26 kr26 => ?_
       refine wpS.qs [(0, 23, .int .i64 z10), (1, 24, .int .i64 a1)] ?_
       rcases of_if h with ⟨hc, h⟩ | ⟨hc, h⟩
       ·refine wpS.tk 2 false (some 25) (.bool true) (yld_b (dt hc) (fun _ => by kernel_rfl)) ?_
        refine wpS.fin rfl (kr26 _ _ (then_n (ks25 _ _ (wp_cond_t (by kernel_rfl) (xskip (then_n (ks24 _ _ (xblock ?_))))))))
        refine wp_regG [] (fun k => True) 15 (by kernel_rfl) (by kernel_rfl) (by kernel_rfl) fun KR27 kr27 => ?_
        have hs := hs.drawn1
        refine wpG.q 0 26 (.int .u64 z9) ?_
        refine wpG.q 1 27 (.slice z11_A z11_n z11_c) ?_
        obtain ⟨h0, h⟩ := of_chk h
        obtain ⟨h1, h⟩ := of_chk h
        have i0_28 := h0
        have i1_28 := h1
        refine wpG.tD 2 false (some 28) (.pointer (adr z11_A ((0 : Int).toNat * Cod.size (CI .u8)))) (yld_idxL (C := (CI .u8)) (t := 24) (e := 5) (k := .i64) (x := 0) (hs.rowR 0 rfl) (by kernel_rfl) (by kernel_rfl) (by kernel_rfl) h0 h1) ?_
        refine wpG.tD 3 true (some 29) (.int .u8 (rdL (CI .u8) z11 0)) (yld_loadL (C := (CI .u8)) (e := 5) (x := 0) (hs.rowR 0 rfl) (by kernel_rfl) rfl (by kernel_rfl) i0_28 i1_28) ?_
        refine wpG.q 4 30 (.int .u64 (iconv .u64 (rdL (CI .u8) z11 0))) ?_
        refine wpG.q 5 31 (.int .i64 z10) ?_
        obtain ⟨h0, h⟩ := of_chk h
        refine wpG.tD 6 false (some 32) (.int .u64 (ishl .u64 (iconv .u64 (rdL (CI .u8) z11 0)) z10)) (yld_shl (t := 112) (k' := .i64) (by kernel_rfl) h0) ?_
        refine wpG.q 7 33 (.int .u64 (ior .u64 z9 (ishl .u64 (iconv .u64 (rdL (CI .u8) z11 0)) z10))) ?_
        refine wpG.q 8 34 (.int .i64 z10) ?_
        refine wpG.q 9 35 (.int .i64 (iadd .i64 z10 8)) ?_
        refine wpG.q 10 36 (.slice z11_A z11_n z11_c) ?_
        obtain ⟨h0, h⟩ := of_chk h
        obtain ⟨h1, h⟩ := of_chk h
        obtain ⟨h2, h⟩ := of_chk h
        obtain ⟨s15_A, hA⟩ : ∃ A, A = if z11_c = (1 : Int).toNat then z11_A else adr z11_A ((1 : Int).toNat * Cod.size (CI .u8)) := ⟨_, rfl⟩
        obtain ⟨s15_n, hn⟩ : ∃ n, n = ((z11.length : Int) : Int).toNat - (1 : Int).toNat := ⟨_, rfl⟩
        obtain ⟨s15_c, hc⟩ : ∃ c, c = z11_c - (1 : Int).toNat := ⟨_, rfl⟩
        refine wpG.tD 11 false (some 37) (.slice s15_A s15_n s15_c) (yld_sub (C := (CI .u8)) (t := 24) (e := 5) (low := some (.int .i64 1)) (high := none) (lo := 1) (hi := (z11.length : Int)) (hs.rowR 0 rfl) (by kernel_rfl) (by kernel_rfl) (by kernel_rfl) (.inr ⟨_, rfl⟩) (.inl ⟨rfl, rfl⟩) h0 h1 h2 hA hn hc) ?_
        have hs := hs.addSub (C := (CI .u8)) 0 rfl h0 h1 h2 hA hn hc
        obtain ⟨x16, hx, h⟩ := of_bind h
        refine wpG.tD 12 false (some 8) (.int .u64 x16) (yld_int hx (fun _ => by kernel_rfl)) ?_
        obtain ⟨x17, hx, h⟩ := of_bind h
        refine wpG.tD 13 false (some 9) (.int .i64 x17) (yld_int hx (fun _ => by kernel_rfl)) ?_
        refine wpG.q 14 0 (.slice s15_A s15_n s15_c) ?_
        refine wpG.fin (by kernel_rfl) rfl (kr27 _ _ ?_)
        refine inBlock_n ?_
        exact then_n (kl1 _ _ ⟨n, Nat.lt_succ_self n, x16, x17, (subL z11 1 (z11.length : Int)), s15_A, s15_n, s15_c, h, (hs.pickR (pick_cons 0 rfl (pick_cons 2 rfl (pick_cons 3 rfl pick_nil)))), exg (by kernel_rfl)⟩)
       refine wpS.tk 2 false (some 25) (.bool false) (yld_b (df hc) (fun _ => by kernel_rfl)) ?_
       refine wpS.fin rfl (kr26 _ _ (then_n (ks25 _ _ (wp_cond_f (by kernel_rfl) (xexit (then_x (then_x (inBlock_hit ?_))))))))
       obtain ⟨q0, qr0⟩ := Prod.mk.inj (of_some h)
       obtain ⟨q1, qr1⟩ := Prod.mk.inj (qr0)
       have q2 := qr1
       subst q0
       subst q1
       subst q2
       exact exq_n (nn1 _ _ ⟨z11_A, z11_n, z11_c, (hs.conv rfl), exg (by kernel_rfl)⟩)
     clear hs h hy
     rintro a w ⟨y14_A, y14_n, y14_c, hs, g23, rfl⟩
     have h := hk1
     refine then_n (ks21 _ _ (xseq_k fun KS29 ks29 => (xregS [0, 1, 2, 3, 4, 5, 6, 7, 8, 9] fun KR30 kr30 => ?_)))
     refine wpS.qs [(0, 38, .slice s2_A s2_n s2_c), (1, 39, .int .i64 z5), (2, 40, .int .u64 y12), (3, 41, .int .i64 a1)] ?_
     obtain ⟨h0, h⟩ := of_chk h
     refine wpS.tk 4 false (some 42) (.int .u64 (ishl .u64 1 a1)) (yld_shl (t := 112) (k' := .i64) (by kernel_rfl) h0) ?_
     refine wpS.qs [(5, 43, .int .u64 (isub .u64 (ishl .u64 1 a1) 1)), (6, 44, .int .u64 (iand .u64 y12 (isub .u64 (ishl .u64 1 a1) 1))), (7, 45, .int .u32 (iconv .u32 (iand .u64 y12 (isub .u64 (ishl .u64 1 a1) 1))))] ?_
     obtain ⟨h0, h⟩ := of_chk h
     obtain ⟨h1, h⟩ := of_chk h
     have i0_31 := h0
     have i1_31 := h1
     refine wpS.tk 8 false (some 46) (.pointer (adr s2_A ((z5 : Int).toNat * Cod.size (CI .u32)))) (yld_idxL (C := (CI .u32)) (t := 68) (e := 70) (k := .i64) (x := z5) (hs.rowL 0 rfl) (by kernel_rfl) (by kernel_rfl) (by kernel_rfl) h0 h1) ?_
     obtain ⟨x18, hx, h⟩ := of_bind h
     refine wpS.only 9 (op_storeL (C := (CI .u32)) (t := 70) (x := z5) (v := x18) (d := none) (by kernel_rfl) hs 0 rfl (by cases hx; kernel_rfl) (by kernel_rfl) i0_31 i1_31 ?_)
     intro w hs
     refine ⟨fun _ => trivial, ?_⟩
     refine wpS.fin rfl (kr30 _ _ (then_n (ks29 _ _ (xseq_k fun KS32 ks32 => (xregS [0, 1, 2, 3] fun KR33 kr33 => ?_)))))
     refine wpS.qs [(0, 47, .int .u64 y12), (1, 48, .int .i64 a1)] ?_
     obtain ⟨h0, h⟩ := of_chk h
     refine wpS.tk 2 false (some 49) (.int .u64 (ishr .u64 y12 a1)) (yld_shr (t := 112) (k' := .i64) (by kernel_rfl) h0) ?_
     obtain ⟨x19, hx, h⟩ := of_bind h
     refine wpS.tk 3 false (some 8) (.int .u64 x19) (yld_int hx (fun _ => by kernel_rfl)) ?_
     refine wpS.fin rfl (kr33 _ _ (then_n (ks32 _ _ (xregS [0, 1, 2, 3] fun KR34 kr34 => ?_))))
     refine wpS.qs [(0, 50, .int .i64 y13), (1, 51, .int .i64 a1), (2, 52, .int .i64 (isub .i64 y13 a1))] ?_
     obtain ⟨x20, hx, h⟩ := of_bind h
     refine wpS.tk 3 false (some 9) (.int .i64 x20) (yld_int hx (fun _ => by kernel_rfl)) ?_
     refine wpS.fin rfl (kr34 _ _ (inBlock_n (then_n (ks18 _ _ (xregS [0, 1] fun KR35 kr35 => ?_)))))
     refine wpS.qs [(0, 53, .int .i64 (iadd .i64 z5 1)), (1, 20, .int .i64 (iadd .i64 z5 1))] ?_
     refine wpS.fin rfl (kr35 _ _ ?_)
     exact then_n (kl0 _ _ ⟨n, Nat.lt_succ_self n, x19, x20, (iadd .i64 z5 1), (wrL z6 z5 x18), y14, y14_A, y14_n, y14_c, h, (hs.pickR (pick_cons 0 rfl (pick_cons 2 rfl pick_nil))), exg (by kernel_rfl)⟩)
    refine wpS.tk 0 false (some 21) (.bool false) (yld_b (df hc) (fun _ => by kernel_rfl)) ?_
    refine wpS.fin rfl (kr16 _ _ (then_n (ks15 _ _ (xseq_k fun KS36 ks36 => (wp_cond_f (by kernel_rfl) (xexit (then_x (then_x (inBlock_hit ?_)))))))))
    have q0 := of_some h
    subst q0
    exact exq_n (nn0 _ _ ⟨(hs.pickR (pick_cons 1 rfl pick_nil)), exg (by kernel_rfl)⟩)
  clear hs h hy
  rintro a w ⟨hs, g14, rfl⟩
  have h := hk0
  refine then_n (ks10 _ _ (xseq_k fun KS37 ks37 => (xregS [0, 1] fun KR38 kr38 => ?_)))
  refine wpS.qs [(0, 54, .slice s2_A s2_n s2_c), (1, 6, .slice s2_A s2_n s2_c)] ?_
  refine wpS.fin rfl (kr38 _ _ (then_n (ks37 _ _ (xret ?_))))
  have q0 := of_some h
  subst q0
  exact qq _ _ (post_ret (by kernel_rfl) (run_results [.tmp 6] [.slice s2_A s2_n s2_c] (by kernel_rfl) (.cons (res_tmp (by kernel_rfl)) .nil)) ⟨⟨s2_A, s2_n, s2_c⟩, congrArg Ending.returned (by kernel_rfl), (hs.pickR pick_nil)⟩)
 | false =>
  have h := of_if_f h
  refine wpS.only 3 (op_call (d := (some 14)) (by kernel_rfl) hs (fun _ => by kernel_rfl) (bits_such.ok hg _ (hs.rowR 0 rfl)) ?_)
  intro w gw hs
  refine ⟨fun _ => trivial, ?_⟩
  refine wpS.q 4 15 (.bool true) ?_
  refine wpS.fin rfl (kr5 _ _ (then_n (ks4 _ _ (wp_cond_t (by kernel_rfl) (xseq_k fun KS39 ks39 => (xregS [0] fun KR40 kr40 => ?_))))))
  refine wpS.q 0 6 (.slice none 0 0) ?_
  refine wpS.fin rfl (kr40 _ _ (then_n (ks39 _ _ (xret (then_r ?_)))))
  have q0 := of_some h
  subst q0
  have hs := hs.addNilL (CI .u32) 70
  exact qq _ _ (post_ret (by kernel_rfl) (run_results [.tmp 6] [.slice none 0 0] (by kernel_rfl) (.cons (res_tmp (by kernel_rfl)) .nil)) ⟨⟨none, 0, 0⟩, congrArg Ending.returned (by kernel_rfl), (hs.pickR pick_nil)⟩)

theorem kpke_Noise.ok {K : Nat} {a0 : Int} {a1 : List Int} {a2 : Int} {r0 : Arr 256} {a1_A : Option Addr} {a1_n : Nat} {a1_c : Nat} (h : kpke_Noise.f K a0 a1 a2 = some r0) (w0 : World) (hp1 : RowL (CI .u8) w0 a1_A a1_n a1_c a1) (hg0 : RowL (CA .u64 24 (by decide)) w0 (some ⟨0, 0, none⟩) 1 1 [tab_0]) (hg1 : RowL (CA .i64 24 (by decide)) w0 (some ⟨1, 0, none⟩) 1 1 [tab_1]) (hg2 : RowL (CA .i64 24 (by decide)) w0 (some ⟨2, 0, none⟩) 1 1 [tab_2]) : Ret Tryd.prog 16 #[.int .i64 a0, .slice a1_A a1_n a1_c, .int .u8 a2] w0 (.agg (enc .i32 r0).toArray) := by
 refine calls_k Tryd.func16 rfl fun Q qq => ?_
 have hs := St.startR (all_cons (RowP.ent hp1) (all_cons (RowP.ent hg0) (all_cons (RowP.ent hg1) (all_cons (RowP.ent hg2) all_nil))))
 refine wp_conv (a' := ⟨#[.int .i64 a0, .slice a1_A a1_n a1_c, .int .u8 a2, undef, undef, undef, undef, undef, undef, undef, undef, undef, undef, undef, undef, undef, undef, undef, undef, undef, undef, undef, undef, undef, undef, undef, undef, undef, undef, undef, undef, undef, undef, undef, undef, undef, undef, undef, undef, undef, undef, undef, undef, undef, undef, undef, undef, undef, undef, undef, undef, undef, undef, undef, undef, undef, undef, undef, undef, undef, undef, undef, undef, undef, undef, undef, undef, undef, undef, undef, undef, undef, undef, undef], []⟩) (by kernel_rfl) ?_
 refine xseq_k fun KS1 ks1 => ?_
 refine xregS [0] fun KR2 kr2 => ?_
 refine wpS.only 0 (op_alloc (t := 32) (d := (some 6)) (by kernel_rfl) hs (enc .i32 (zeroA 256)) (.agg (enc .i32 (zeroA 256)).toArray) (by kernel_rfl) (by kernel_rfl) (by kernel_rfl) ?_)
 intro b1 w gw hs
 refine ⟨fun _ => trivial, ?_⟩
 refine wpS.fin rfl (kr2 _ _ (then_n (ks1 _ _ (xseq_k fun KS3 ks3 => (xregS [0] fun KR4 kr4 => ?_)))))
 refine wpS.only 0 (op_alloc (t := 32) (d := (some 7)) (by kernel_rfl) hs (enc .i32 (zeroA 256)) (.agg (enc .i32 (zeroA 256)).toArray) (by kernel_rfl) (by kernel_rfl) (by kernel_rfl) ?_)
 intro b2 w gw hs
 refine ⟨fun _ => trivial, ?_⟩
 refine wpS.fin rfl (kr4 _ _ (then_n (ks3 _ _ ?_)))
 obtain ⟨tv6, hj, hk_6⟩ := of_bind h
 refine xseq_k fun KS6 ks6 => wp_exj (N := fun a w => ∃ y3, tv6 = .inl y3 ∧ St w0 [] [.blk b2 (enc .i32 (zeroA 256)) 32, .blk b1 (enc .i32 y3) 32] [.rowL (CI .u8) a1_A a1_n a1_c a1, .rowL (CA .u64 24 (by decide)) (some ⟨0, 0, none⟩) 1 1 ([tab_0]), .rowL (CA .i64 24 (by decide)) (some ⟨1, 0, none⟩) 1 1 ([tab_1]), .rowL (CA .i64 24 (by decide)) (some ⟨2, 0, none⟩) 1 1 ([tab_2])] w ∧ ∃ g5 : Nat → Value, a = ⟨#[.int .i64 a0, .slice a1_A a1_n a1_c, .int .u8 a2, undef, undef, undef, .pointer (some ⟨b1, 0, none⟩), .pointer (some ⟨b2, 0, none⟩), undef, undef, undef, undef, undef, undef, (g5 14), (g5 15), (g5 16), (g5 17), (g5 18), (g5 19), (g5 20), undef, undef, undef, undef, undef, undef, undef, undef, undef, undef, undef, undef, undef, undef, undef, undef, undef, undef, undef, undef, undef, undef, undef, undef, undef, undef, undef, undef, undef, undef, undef, undef, undef, undef, undef, undef, undef, undef, undef, undef, undef, undef, undef, undef, undef, undef, undef, undef, undef, undef, undef, undef, undef], []⟩) (fun N nj => ?_) ?_
 ·clear h
  have h := hj
  refine xseq_k fun KS7 ks7 => ?_
  refine xregS [0, 1, 2, 3, 4, 5] fun KR8 kr8 => ?_
  refine wpS.q 0 14 (.int .i64 a0) ?_
  rcases of_if h with ⟨hc, h⟩ | ⟨hc, h⟩
  ·refine wpS.tk 1 false (some 15) (.bool false) (yld_b (nf hc) (fun _ => by kernel_rfl)) ?_
   refine wpS.qs [(2, 16, .bool false), (3, 17, undef), (4, 18, undef), (5, 19, .bool false)] ?_
   refine wpS.fin rfl (kr8 _ _ (then_n (ks7 _ _ (wp_cond_f (by kernel_rfl) (xskip ?_)))))
   have q0 := of_some h
   subst q0
   exact exj_n (nj _ _ ⟨(zeroA 256), rfl, (hs.conv rfl), exg (by kernel_rfl)⟩)
  refine wpS.tk 1 false (some 15) (.bool true) (yld_b (nt hc) (fun _ => by kernel_rfl)) ?_
  refine wpS.qs [(2, 16, .bool true), (3, 17, .int .i64 a0)] ?_
  rcases of_if h with ⟨hc, h⟩ | ⟨hc, h⟩
  ·refine wpS.tk 4 false (some 18) (.bool false) (yld_b (nf hc) (fun _ => by kernel_rfl)) ?_
   refine wpS.q 5 19 (.bool false) ?_
   refine wpS.fin rfl (kr8 _ _ (then_n (ks7 _ _ (wp_cond_f (by kernel_rfl) (xskip ?_)))))
   have q0 := of_some h
   subst q0
   exact exj_n (nj _ _ ⟨(zeroA 256), rfl, (hs.conv rfl), exg (by kernel_rfl)⟩)
  refine wpS.tk 4 false (some 18) (.bool true) (yld_b (nt hc) (fun _ => by kernel_rfl)) ?_
  refine wpS.q 5 19 (.bool true) ?_
  refine wpS.fin rfl (kr8 _ _ (then_n (ks7 _ _ (wp_cond_t (by kernel_rfl) (xseq_k fun KS9 ks9 => (xregS [0, 1] fun KR10 kr10 => ?_))))))
  refine wpS.tk 0 true (some 20) (.agg (enc .i32 (zeroA 256)).toArray) (yld_loadW (e := 32) (n := 256) hs 0 rfl (by kernel_rfl) (by kernel_rfl) (by kernel_rfl) (by exact enc_len _ _) .grow) ?_
  refine wpS.only 1 (op_storeW (t := 32) (v := .agg (enc .i32 (zeroA 256)).toArray) (d := none) (by kernel_rfl) hs 1 rfl (vs := enc .i32 (zeroA 256)) (n := 256) (by kernel_rfl) (by kernel_rfl) (by kernel_rfl) (by simp [enc_len]) (by simp [enc_len]) (by intro u hu; exact enc_one _ _ u hu) ?_)
  intro w kp hs
  refine ⟨fun _ => trivial, ?_⟩
  refine wpS.fin rfl (kr10 _ _ (then_n (ks9 _ _ (xret ?_))))
  have q0 := of_some h
  subst q0
  have h := hk_6
  refine exj_r ?_
  refine then_r ?_
  have q0 := of_some h
  subst q0
  exact qq _ _ (post_ret (by kernel_rfl) (run_results [.cell 6 32] [.agg (enc .i32 (zeroA 256)).toArray] (by kernel_rfl) (.cons (res_cellN (n := 256) hs 1 rfl (by kernel_rfl) (by kernel_rfl) (by kernel_rfl) (by exact enc_len _ _)) .nil)) ⟨congrArg Ending.returned (by kernel_rfl), hs.none⟩)
 clear hj hs
 rintro a w ⟨y3, rfl, hs, g5, rfl⟩
 have h := hk_6
 refine then_n (ks6 _ _ (xseq_k fun KS11 ks11 => (xregS [0, 1, 2, 3, 4, 5, 6, 7, 8, 9, 10, 11, 12] fun KR12 kr12 => ?_)))
 refine wpS.qs [(0, 22, .slice a1_A a1_n a1_c), (1, 23, .int .u8 a2)] ?_
 refine wpS.only 2 (op_lit (C := (CI .u8)) (t := 24) (e := 5) (len := 1) (parts := #[(0, .int .u8 a2)]) (l := [a2]) (d := (some 24)) (by kernel_rfl) hs (by kernel_rfl) (by kernel_rfl) (by kernel_rfl) (z := .int .u8 0) (by kernel_rfl) rfl (by decide) (by decide) (by kernel_rfl) ?_)
 intro s4_A s4_n s4_c w gw hs
 refine ⟨fun _ => trivial, ?_⟩
 refine wpS.only 3 (op_lit (C := CS) (t := 59) (e := 24) (len := 2) (parts := #[(0, .slice a1_A a1_n a1_c), (1, .slice s4_A s4_n s4_c)]) (l := ([(a1_A, a1_n, a1_c), (s4_A, s4_n, s4_c)] : List HS)) (d := (some 25)) (by kernel_rfl) hs (by kernel_rfl) (by kernel_rfl) (by kernel_rfl) (z := .slice none 0 0) (by kernel_rfl) rfl (by decide) (by decide) (by kernel_rfl) ?_)
 intro s5_A s5_n s5_c w gw hs
 refine ⟨fun _ => trivial, ?_⟩
 obtain ⟨r6, hg, h⟩ := of_bind h
 refine wpS.only 4 (op_callH (d := (some 26)) (by kernel_rfl) hs (fun _ => by kernel_rfl) (bits_Join.ok hg _ (LLP.mk (hs.rowL 0 rfl) (inn_cons (hs.rowR 0 rfl) (inn_cons (hs.rowL 1 rfl) inn_nil)))) ?_)
 rintro ⟨r6_A, r6_n, r6_c⟩ w gw hs
 have hs := hs.conv (L' := [.ownL (CI .u8) r6_A r6_n r6_c r6 5, .ownL CS s5_A s5_n s5_c ([(a1_A, a1_n, a1_c), (s4_A, s4_n, s4_c)] : List HS) 24, .ownL (CI .u8) s4_A s4_n s4_c ([a2] : List Int) 5, .blk b2 (enc .i32 (zeroA 256)) 32, .blk b1 (enc .i32 y3) 32]) rfl
 refine ⟨fun _ => trivial, ?_⟩
 refine wpS.qs [(5, 27, .int .i64 a0), (6, 28, .int .i64 (imul .i64 64 a0))] ?_
 obtain ⟨⟨r7, r8⟩, hg, h⟩ := of_bind h
 refine wpS.only 7 (op_callH (d := (some 29)) (by kernel_rfl) hs (fun _ => by kernel_rfl) (keccak_Sum.ok hg _ (hs.rowL 0 rfl) (hs.rowR 1 rfl) (hs.rowR 2 rfl) (hs.rowR 3 rfl)) ?_)
 rintro ⟨r7_A, r7_n, r7_c⟩ w gw hs
 have hs := hs.conv (L' := [.ownL (CI .u8) r7_A r7_n r7_c r7 5, .ownL (CI .u8) r6_A r6_n r6_c r6 5, .ownL CS s5_A s5_n s5_c ([(a1_A, a1_n, a1_c), (s4_A, s4_n, s4_c)] : List HS) 24, .ownL (CI .u8) s4_A s4_n s4_c ([a2] : List Int) 5, .blk b2 (enc .i32 (zeroA 256)) 32, .blk b1 (enc .i32 y3) 32]) rfl
 refine ⟨fun _ => trivial, ?_⟩
 refine wpS.qs [(8, 21, .tuple #[.slice r7_A r7_n r7_c, .int .i64 r8]), (9, 30, .slice r7_A r7_n r7_c), (10, 31, .int .i64 r8), (11, 8, .slice r7_A r7_n r7_c), (12, 9, .int .i64 r8)] ?_
 refine wpS.fin rfl (kr12 _ _ (then_n (ks11 _ _ (xseq_k fun KS13 ks13 => (xregS [0, 1, 2, 3, 4] fun KR14 kr14 => ?_)))))
 refine wpS.qs [(0, 32, .slice r7_A r7_n r7_c), (1, 33, .int .i64 a0), (2, 34, .int .i64 (imul .i64 512 a0))] ?_
 obtain ⟨r9, hg, h⟩ := of_bind h
 refine wpS.only 3 (op_callH (d := (some 35)) (by kernel_rfl) hs (fun _ => by kernel_rfl) (bits_Unpack.ok hg _ (hs.rowL 0 rfl)) ?_)
 rintro ⟨r9_A, r9_n, r9_c⟩ w gw hs
 have hs := hs.conv (L' := [.ownL (CI .u32) r9_A r9_n r9_c r9 70, .ownL (CI .u8) r7_A r7_n r7_c r7 5, .ownL (CI .u8) r6_A r6_n r6_c r6 5, .ownL CS s5_A s5_n s5_c ([(a1_A, a1_n, a1_c), (s4_A, s4_n, s4_c)] : List HS) 24, .ownL (CI .u8) s4_A s4_n s4_c ([a2] : List Int) 5, .blk b2 (enc .i32 (zeroA 256)) 32, .blk b1 (enc .i32 y3) 32]) rfl
 refine ⟨fun _ => trivial, ?_⟩
 refine wpS.q 4 10 (.slice r9_A r9_n r9_c) ?_
 refine wpS.fin rfl (kr14 _ _ (then_n (ks13 _ _ (xseq_k fun KS15 ks15 => (xseq_k fun KS16 ks16 => (xregS [0] fun KR17 kr17 => ?_))))))
 refine wpS.q 0 36 (.int .i64 0) ?_
 refine wpS.fin rfl (kr17 _ _ (then_n (ks16 _ _ ?_)))
 obtain ⟨y12, hy, hk0⟩ := of_bind h
 refine wp_exq (N := fun a w => St w0 [] [.ownL (CI .u32) r9_A r9_n r9_c r9 70, .ownL (CI .u8) r7_A r7_n r7_c r7 5, .ownL (CI .u8) r6_A r6_n r6_c r6 5, .ownL CS s5_A s5_n s5_c ([(a1_A, a1_n, a1_c), (s4_A, s4_n, s4_c)] : List HS) 24, .ownL (CI .u8) s4_A s4_n s4_c ([a2] : List Int) 5, .blk b2 (enc .i32 y12) 32, .blk b1 (enc .i32 y3) 32] [.rowL (CI .u8) a1_A a1_n a1_c a1, .rowL (CA .u64 24 (by decide)) (some ⟨0, 0, none⟩) 1 1 ([tab_0]), .rowL (CA .i64 24 (by decide)) (some ⟨1, 0, none⟩) 1 1 ([tab_1]), .rowL (CA .i64 24 (by decide)) (some ⟨2, 0, none⟩) 1 1 ([tab_2])] w ∧ ∃ g19 : Nat → Value, a = ⟨#[.int .i64 a0, .slice a1_A a1_n a1_c, .int .u8 a2, undef, undef, undef, .pointer (some ⟨b1, 0, none⟩), .pointer (some ⟨b2, 0, none⟩), .slice r7_A r7_n r7_c, .int .i64 r8, .slice r9_A r9_n r9_c, (g19 11), (g19 12), (g19 13), (g5 14), (g5 15), (g5 16), (g5 17), (g5 18), (g5 19), (g5 20), .tuple #[.slice r7_A r7_n r7_c, .int .i64 r8], .slice a1_A a1_n a1_c, .int .u8 a2, .slice s4_A s4_n s4_c, .slice s5_A s5_n s5_c, .slice r6_A r6_n r6_c, .int .i64 a0, .int .i64 (imul .i64 64 a0), .tuple #[.slice r7_A r7_n r7_c, .int .i64 r8], .slice r7_A r7_n r7_c, .int .i64 r8, .slice r7_A r7_n r7_c, .int .i64 a0, .int .i64 (imul .i64 512 a0), .slice r9_A r9_n r9_c, (g19 36), (g19 37), (g19 38), (g19 39), (g19 40), (g19 41), (g19 42), (g19 43), (g19 44), (g19 45), (g19 46), (g19 47), (g19 48), (g19 49), (g19 50), (g19 51), (g19 52), (g19 53), (g19 54), (g19 55), (g19 56), (g19 57), (g19 58), (g19 59), (g19 60), (g19 61), (g19 62), (g19 63), (g19 64), (g19 65), (g19 66), (g19 67), (g19 68), (g19 69), (g19 70), (g19 71), (g19 72), undef], []⟩) (fun N0 nn0 => ?_) ?_
 ·clear hk0
  refine xblock ?_
  refine wp_loop_k (fun n a w => ∃ z10 z11, kpke_Noise.l0 K n a0 r9 z10 z11 = some y12 ∧ St w0 [] [.ownL (CI .u32) r9_A r9_n r9_c r9 70, .ownL (CI .u8) r7_A r7_n r7_c r7 5, .ownL (CI .u8) r6_A r6_n r6_c r6 5, .ownL CS s5_A s5_n s5_c ([(a1_A, a1_n, a1_c), (s4_A, s4_n, s4_c)] : List HS) 24, .ownL (CI .u8) s4_A s4_n s4_c ([a2] : List Int) 5, .blk b2 (enc .i32 z11) 32, .blk b1 (enc .i32 y3) 32] [.rowL (CI .u8) a1_A a1_n a1_c a1, .rowL (CA .u64 24 (by decide)) (some ⟨0, 0, none⟩) 1 1 ([tab_0]), .rowL (CA .i64 24 (by decide)) (some ⟨1, 0, none⟩) 1 1 ([tab_1]), .rowL (CA .i64 24 (by decide)) (some ⟨2, 0, none⟩) 1 1 ([tab_2])] w ∧ ∃ g18 : Nat → Value, a = ⟨#[.int .i64 a0, .slice a1_A a1_n a1_c, .int .u8 a2, undef, undef, undef, .pointer (some ⟨b1, 0, none⟩), .pointer (some ⟨b2, 0, none⟩), .slice r7_A r7_n r7_c, .int .i64 r8, .slice r9_A r9_n r9_c, (g18 11), (g18 12), (g18 13), (g5 14), (g5 15), (g5 16), (g5 17), (g5 18), (g5 19), (g5 20), .tuple #[.slice r7_A r7_n r7_c, .int .i64 r8], .slice a1_A a1_n a1_c, .int .u8 a2, .slice s4_A s4_n s4_c, .slice s5_A s5_n s5_c, .slice r6_A r6_n r6_c, .int .i64 a0, .int .i64 (imul .i64 64 a0), .tuple #[.slice r7_A r7_n r7_c, .int .i64 r8], .slice r7_A r7_n r7_c, .int .i64 r8, .slice r7_A r7_n r7_c, .int .i64 a0, .int .i64 (imul .i64 512 a0), .slice r9_A r9_n r9_c, .int .i64 z10, (g18 37), (g18 38), (g18 39), (g18 40), (g18 41), (g18 42), (g18 43), (g18 44), (g18 45), (g18 46), (g18 47), (g18 48), (g18 49), (g18 50), (g18 51), (g18 52), (g18 53), (g18 54), (g18 55), (g18 56), (g18 57), (g18 58), (g18 59), (g18 60), (g18 61), (g18 62), (g18 63), (g18 64), (g18 65), (g18 66), (g18 67), (g18 68), (g18 69), (g18 70), (g18 71), (g18 72), undef], []⟩) K ⟨0, (zeroA 256), hy, hs.conv rfl, exg (by kernel_rfl)⟩ ?_
  clear hs h hy
  rintro n a w ⟨z10, z11, h, hs, g18, rfl⟩ KL0 kl0
  cases n with
  | zero => exact nomatch (show none = some _ from h)
  | succ n =>
   refine xseq_k fun KS20 ks20 => ?_
   refine xregS [0] fun KR21 kr21 => ?_
   rcases of_if h with ⟨hc, h⟩ | ⟨hc, h⟩
   ·refine wpS.tk 0 false (some 37) (.bool true) (yld_b (dt hc) (fun _ => by kernel_rfl)) ?_
    refine wpS.fin rfl (kr21 _ _ (then_n (ks20 _ _ (xseq_k fun KS22 ks22 => (wp_cond_t (by kernel_rfl) (xskip (then_n (ks22 _ _ (xseq_k fun KS23 ks23 => (xblock (xseq_k fun KS24 ks24 => (xregS [0, 1] fun KR25 kr25 => ?_))))))))))))
    refine wpS.qs [(0, 38, .int .i64 z10), (1, 11, .int .i64 z10)] ?_
    refine wpS.fin rfl (kr25 _ _ (then_n (ks24 _ _ (xseq_k fun KS26 ks26 => (xregS [0] fun KR27 kr27 => ?_)))))
    refine wpS.q 0 12 (.int .i32 3329) ?_
    refine wpS.fin rfl (kr27 _ _ (then_n (ks26 _ _ (xseq_k fun KS28 ks28 => (xseq_k fun KS29 ks29 => (xregS [0, 1] fun KR30 kr30 => ?_))))))
    refine wpS.qs [(0, 39, .int .i64 a0), (1, 40, .int .i64 0)] ?_
    refine wpS.fin rfl (kr30 _ _ (then_n (ks29 _ _ ?_)))
    obtain ⟨y15, hy, hk1⟩ := of_bind h
    refine wp_exq (N := fun a w => St w0 [] [.ownL (CI .u32) r9_A r9_n r9_c r9 70, .ownL (CI .u8) r7_A r7_n r7_c r7 5, .ownL (CI .u8) r6_A r6_n r6_c r6 5, .ownL CS s5_A s5_n s5_c ([(a1_A, a1_n, a1_c), (s4_A, s4_n, s4_c)] : List HS) 24, .ownL (CI .u8) s4_A s4_n s4_c ([a2] : List Int) 5, .blk b2 (enc .i32 z11) 32, .blk b1 (enc .i32 y3) 32] [.rowL (CI .u8) a1_A a1_n a1_c a1, .rowL (CA .u64 24 (by decide)) (some ⟨0, 0, none⟩) 1 1 ([tab_0]), .rowL (CA .i64 24 (by decide)) (some ⟨1, 0, none⟩) 1 1 ([tab_1]), .rowL (CA .i64 24 (by decide)) (some ⟨2, 0, none⟩) 1 1 ([tab_2])] w ∧ ∃ g32 : Nat → Value, a = ⟨#[.int .i64 a0, .slice a1_A a1_n a1_c, .int .u8 a2, undef, undef, undef, .pointer (some ⟨b1, 0, none⟩), .pointer (some ⟨b2, 0, none⟩), .slice r7_A r7_n r7_c, .int .i64 r8, .slice r9_A r9_n r9_c, .int .i64 z10, .int .i32 y15, (g32 13), (g5 14), (g5 15), (g5 16), (g5 17), (g5 18), (g5 19), (g5 20), .tuple #[.slice r7_A r7_n r7_c, .int .i64 r8], .slice a1_A a1_n a1_c, .int .u8 a2, .slice s4_A s4_n s4_c, .slice s5_A s5_n s5_c, .slice r6_A r6_n r6_c, .int .i64 a0, .int .i64 (imul .i64 64 a0), .tuple #[.slice r7_A r7_n r7_c, .int .i64 r8], .slice r7_A r7_n r7_c, .int .i64 r8, .slice r7_A r7_n r7_c, .int .i64 a0, .int .i64 (imul .i64 512 a0), .slice r9_A r9_n r9_c, .int .i64 z10, .bool true, .int .i64 z10, .int .i64 a0, (g32 40), (g32 41), (g32 42), (g32 43), (g32 44), (g32 45), (g32 46), (g32 47), (g32 48), (g32 49), (g32 50), (g32 51), (g32 52), (g32 53), (g32 54), (g32 55), (g32 56), (g32 57), (g32 58), (g32 59), (g32 60), (g32 61), (g32 62), (g32 63), (g32 64), (g32 65), (g32 66), (g32 67), (g18 68), (g18 69), (g18 70), (g18 71), (g18 72), undef], []⟩) (fun N1 nn1 => ?_) ?_
    ·clear hk1
     refine xblock ?_
     refine wp_loop_k (fun n a w => ∃ z13 z14, kpke_Noise.l1 K n a0 r9 z10 z13 z14 = some y15 ∧ St w0 [] [.ownL (CI .u32) r9_A r9_n r9_c r9 70, .ownL (CI .u8) r7_A r7_n r7_c r7 5, .ownL (CI .u8) r6_A r6_n r6_c r6 5, .ownL CS s5_A s5_n s5_c ([(a1_A, a1_n, a1_c), (s4_A, s4_n, s4_c)] : List HS) 24, .ownL (CI .u8) s4_A s4_n s4_c ([a2] : List Int) 5, .blk b2 (enc .i32 z11) 32, .blk b1 (enc .i32 y3) 32] [.rowL (CI .u8) a1_A a1_n a1_c a1, .rowL (CA .u64 24 (by decide)) (some ⟨0, 0, none⟩) 1 1 ([tab_0]), .rowL (CA .i64 24 (by decide)) (some ⟨1, 0, none⟩) 1 1 ([tab_1]), .rowL (CA .i64 24 (by decide)) (some ⟨2, 0, none⟩) 1 1 ([tab_2])] w ∧ ∃ g31 : Nat → Value, a = ⟨#[.int .i64 a0, .slice a1_A a1_n a1_c, .int .u8 a2, undef, undef, undef, .pointer (some ⟨b1, 0, none⟩), .pointer (some ⟨b2, 0, none⟩), .slice r7_A r7_n r7_c, .int .i64 r8, .slice r9_A r9_n r9_c, .int .i64 z10, .int .i32 z13, (g31 13), (g5 14), (g5 15), (g5 16), (g5 17), (g5 18), (g5 19), (g5 20), .tuple #[.slice r7_A r7_n r7_c, .int .i64 r8], .slice a1_A a1_n a1_c, .int .u8 a2, .slice s4_A s4_n s4_c, .slice s5_A s5_n s5_c, .slice r6_A r6_n r6_c, .int .i64 a0, .int .i64 (imul .i64 64 a0), .tuple #[.slice r7_A r7_n r7_c, .int .i64 r8], .slice r7_A r7_n r7_c, .int .i64 r8, .slice r7_A r7_n r7_c, .int .i64 a0, .int .i64 (imul .i64 512 a0), .slice r9_A r9_n r9_c, .int .i64 z10, .bool true, .int .i64 z10, .int .i64 a0, .int .i64 z14, (g31 41), (g31 42), (g31 43), (g31 44), (g31 45), (g31 46), (g31 47), (g31 48), (g31 49), (g31 50), (g31 51), (g31 52), (g31 53), (g31 54), (g31 55), (g31 56), (g31 57), (g31 58), (g31 59), (g31 60), (g31 61), (g31 62), (g31 63), (g31 64), (g31 65), (g31 66), (g31 67), (g18 68), (g18 69), (g18 70), (g18 71), (g18 72), undef], []⟩) K ⟨3329, 0, hy, hs.conv rfl, exg (by kernel_rfl)⟩ ?_
     clear hs h hy
     rintro n a w ⟨z13, z14, h, hs, g31, rfl⟩ KL1 kl1
     cases n with
     | zero => exact nomatch (show none = some _ from h)
     | succ n =>
      refine xseq_k fun KS33 ks33 => ?_
      refine xregS [0] fun KR34 kr34 => ?_
      rcases of_if h with ⟨hc, h⟩ | ⟨hc, h⟩
      ·refine wpS.tk 0 false (some 41) (.bool true) (yld_b (dt hc) (fun _ => by kernel_rfl)) ?_
       refine wpS.fin rfl (kr34 _ _ (then_n (ks33 _ _ (xseq_k fun KS35 ks35 => (wp_cond_t (by kernel_rfl) (xskip (then_n (ks35 _ _ (xseq_k fun KS36 ks36 => (xblock (xseq_k fun KS37 ks37 => (xregS [0, 1] fun KR38 kr38 => ?_))))))))))))
       refine wpS.qs [(0, 42, .int .i64 z14), (1, 13, .int .i64 z14)] ?_
       refine wpS.fin rfl (kr38 _ _ (then_n (ks37 _ _ ?_)))
       refine wp_regG [] (fun k => True) 25 (by kernel_rfl) (by kernel_rfl) (by kernel_rfl) fun KR39 kr39 => ?_
       have hs := hs.drawn1
       refine wpG.q 0 43 (.int .i32 z13) ?_
       refine wpG.q 1 44 (.slice r9_A r9_n r9_c) ?_
       refine wpG.q 2 45 (.int .i64 z10) ?_
       refine wpG.q 3 46 (.int .i64 (imul .i64 2 z10)) ?_
       refine wpG.q 4 47 (.int .i64 a0) ?_
       refine wpG.q 5 48 (.int .i64 (imul .i64 (imul .i64 2 z10) a0)) ?_
       refine wpG.q 6 49 (.int .i64 z14) ?_
       refine wpG.q 7 50 (.int .i64 (iadd .i64 (imul .i64 (imul .i64 2 z10) a0) z14)) ?_
       obtain ⟨x16, hx, h⟩ := of_bind h
       have hx := of_some hx
       subst hx
       obtain ⟨h0, h⟩ := of_chk h
       obtain ⟨h1, h⟩ := of_chk h
       have i0_40 := h0
       have i1_40 := h1
       refine wpG.tD 8 false (some 51) (.pointer (adr r9_A (((iadd .i64 (imul .i64 (imul .i64 2 z10) a0) z14) : Int).toNat * Cod.size (CI .u32)))) (yld_idxL (C := (CI .u32)) (t := 68) (e := 70) (k := .i64) (x := (iadd .i64 (imul .i64 (imul .i64 2 z10) a0) z14)) (hs.rowL 0 rfl) (by kernel_rfl) (by kernel_rfl) (by kernel_rfl) h0 h1) ?_
       refine wpG.tD 9 true (some 52) (.int .u32 (rdL (CI .u32) r9 (iadd .i64 (imul .i64 (imul .i64 2 z10) a0) z14))) (yld_loadL (C := (CI .u32)) (e := 70) (x := (iadd .i64 (imul .i64 (imul .i64 2 z10) a0) z14)) (hs.rowL 0 rfl) (by kernel_rfl) rfl (by kernel_rfl) i0_40 i1_40) ?_
       refine wpG.q 10 53 (.int .i32 (iconv .i32 (rdL (CI .u32) r9 (iadd .i64 (imul .i64 (imul .i64 2 z10) a0) z14)))) ?_
       refine wpG.q 11 54 (.slice r9_A r9_n r9_c) ?_
       refine wpG.q 12 55 (.int .i64 z10) ?_
       refine wpG.q 13 56 (.int .i64 (imul .i64 2 z10)) ?_
       refine wpG.q 14 57 (.int .i64 (iadd .i64 (imul .i64 2 z10) 1)) ?_
       refine wpG.q 15 58 (.int .i64 a0) ?_
       refine wpG.q 16 59 (.int .i64 (imul .i64 (iadd .i64 (imul .i64 2 z10) 1) a0)) ?_
       refine wpG.q 17 60 (.int .i64 z14) ?_
       refine wpG.q 18 61 (.int .i64 (iadd .i64 (imul .i64 (iadd .i64 (imul .i64 2 z10) 1) a0) z14)) ?_
       obtain ⟨x17, hx, h⟩ := of_bind h
       have hx := of_some hx
       subst hx
       obtain ⟨h0, h⟩ := of_chk h
       obtain ⟨h1, h⟩ := of_chk h
       have i0_41 := h0
       have i1_41 := h1
       refine wpG.tD 19 false (some 62) (.pointer (adr r9_A (((iadd .i64 (imul .i64 (iadd .i64 (imul .i64 2 z10) 1) a0) z14) : Int).toNat * Cod.size (CI .u32)))) (yld_idxL (C := (CI .u32)) (t := 68) (e := 70) (k := .i64) (x := (iadd .i64 (imul .i64 (iadd .i64 (imul .i64 2 z10) 1) a0) z14)) (hs.rowL 0 rfl) (by kernel_rfl) (by kernel_rfl) (by kernel_rfl) h0 h1) ?_
       refine wpG.tD 20 true (some 63) (.int .u32 (rdL (CI .u32) r9 (iadd .i64 (imul .i64 (iadd .i64 (imul .i64 2 z10) 1) a0) z14))) (yld_loadL (C := (CI .u32)) (e := 70) (x := (iadd .i64 (imul .i64 (iadd .i64 (imul .i64 2 z10) 1) a0) z14)) (hs.rowL 0 rfl) (by kernel_rfl) rfl (by kernel_rfl) i0_41 i1_41) ?_
       refine wpG.q 21 64 (.int .i32 (iconv .i32 (rdL (CI .u32) r9 (iadd .i64 (imul .i64 (iadd .i64 (imul .i64 2 z10) 1) a0) z14)))) ?_
       refine wpG.q 22 65 (.int .i32 (isub .i32 (iconv .i32 (rdL (CI .u32) r9 (iadd .i64 (imul .i64 (imul .i64 2 z10) a0) z14))) (iconv .i32 (rdL (CI .u32) r9 (iadd .i64 (imul .i64 (iadd .i64 (imul .i64 2 z10) 1) a0) z14))))) ?_
       refine wpG.q 23 66 (.int .i32 (iadd .i32 z13 (isub .i32 (iconv .i32 (rdL (CI .u32) r9 (iadd .i64 (imul .i64 (imul .i64 2 z10) a0) z14))) (iconv .i32 (rdL (CI .u32) r9 (iadd .i64 (imul .i64 (iadd .i64 (imul .i64 2 z10) 1) a0) z14)))))) ?_
       obtain ⟨x18, hx, h⟩ := of_bind h
       refine wpG.tD 24 false (some 12) (.int .i32 x18) (yld_int hx (fun _ => by kernel_rfl)) ?_
       refine wpG.fin (by kernel_rfl) rfl (kr39 _ _ ?_)
       refine inBlock_n (then_n (ks36 _ _ (xregS [0, 1] fun KR42 kr42 => ?_)))
       refine wpS.qs [(0, 67, .int .i64 (iadd .i64 z14 1)), (1, 40, .int .i64 (iadd .i64 z14 1))] ?_
       refine wpS.fin rfl (kr42 _ _ ?_)
       exact then_n (kl1 _ _ ⟨n, Nat.lt_succ_self n, x18, (iadd .i64 z14 1), h, (hs.conv rfl), exg (by kernel_rfl)⟩)
      refine wpS.tk 0 false (some 41) (.bool false) (yld_b (df hc) (fun _ => by kernel_rfl)) ?_
      refine wpS.fin rfl (kr34 _ _ (then_n (ks33 _ _ (xseq_k fun KS43 ks43 => (wp_cond_f (by kernel_rfl) (xexit (then_x (then_x (inBlock_hit ?_)))))))))
      have q0 := of_some h
      subst q0
      exact exq_n (nn1 _ _ ⟨(hs.conv rfl), exg (by kernel_rfl)⟩)
    clear hs h hy
    rintro a w ⟨hs, g32, rfl⟩
    have h := hk1
    refine then_n (ks28 _ _ (xregS [0, 1, 2, 3, 4] fun KR44 kr44 => ?_))
    refine wpS.qs [(0, 68, .int .i64 z10), (1, 69, .int .i32 y15), (2, 70, .int .i32 (irem .i32 y15 3329))] ?_
    obtain ⟨i0_45, h⟩ := of_chk h
    obtain ⟨i1_45, h⟩ := of_chk h
    refine wpS.tk 3 false (some 71) (.pointer (some ⟨b2, 0 + (z10 : Int).toNat * 1, none⟩)) (yld_idx (t := 32) (e := 21) (n := 256) (sz := 1) (k := .i64) (x := z10) (by kernel_rfl) (by kernel_rfl) (by kernel_rfl) i0_45 i1_45) ?_
    obtain ⟨x19, hx, h⟩ := of_bind h
    refine wpS.only 4 (op_storeA (t := 21) (x := z10) (v := x19) (d := none) (by kernel_rfl) hs 5 rfl (by cases hx; kernel_rfl) (by kernel_rfl) i0_45 i1_45 ?_)
    intro w kp hs
    refine ⟨fun _ => trivial, ?_⟩
    refine wpS.fin rfl (kr44 _ _ (inBlock_n (then_n (ks23 _ _ (xregS [0, 1] fun KR46 kr46 => ?_)))))
    refine wpS.qs [(0, 72, .int .i64 (iadd .i64 z10 1)), (1, 36, .int .i64 (iadd .i64 z10 1))] ?_
    refine wpS.fin rfl (kr46 _ _ ?_)
    exact then_n (kl0 _ _ ⟨n, Nat.lt_succ_self n, (iadd .i64 z10 1), (wr z11 z10 x19), h, (hs.conv rfl), exg (by kernel_rfl)⟩)
   refine wpS.tk 0 false (some 37) (.bool false) (yld_b (df hc) (fun _ => by kernel_rfl)) ?_
   refine wpS.fin rfl (kr21 _ _ (then_n (ks20 _ _ (xseq_k fun KS47 ks47 => (wp_cond_f (by kernel_rfl) (xexit (then_x (then_x (inBlock_hit ?_)))))))))
   have q0 := of_some h
   subst q0
   exact exq_n (nn0 _ _ ⟨(hs.conv rfl), exg (by kernel_rfl)⟩)
 clear hs h hy
 rintro a w ⟨hs, g19, rfl⟩
 have h := hk0
 refine then_n (ks15 _ _ (xseq_k fun KS48 ks48 => (xregS [0, 1] fun KR49 kr49 => ?_)))
 refine wpS.tk 0 true (some 73) (.agg (enc .i32 y12).toArray) (yld_loadW (e := 32) (n := 256) hs 5 rfl (by kernel_rfl) (by kernel_rfl) (by kernel_rfl) (by exact enc_len _ _) .grow) ?_
 refine wpS.only 1 (op_storeW (t := 32) (v := .agg (enc .i32 y12).toArray) (d := none) (by kernel_rfl) hs 6 rfl (vs := enc .i32 y12) (n := 256) (by kernel_rfl) (by kernel_rfl) (by kernel_rfl) (by simp [enc_len]) (by simp [enc_len]) (by intro u hu; exact enc_one _ _ u hu) ?_)
 intro w kp hs
 refine ⟨fun _ => trivial, ?_⟩
 refine wpS.fin rfl (kr49 _ _ (then_n (ks48 _ _ (xret ?_))))
 have q0 := of_some h
 subst q0
 exact qq _ _ (post_ret (by kernel_rfl) (run_results [.cell 6 32] [.agg (enc .i32 y12).toArray] (by kernel_rfl) (.cons (res_cellN (n := 256) hs 6 rfl (by kernel_rfl) (by kernel_rfl) (by kernel_rfl) (by exact enc_len _ _)) .nil)) ⟨congrArg Ending.returned (by kernel_rfl), hs.none⟩)

theorem bits_NumLe.ok {K : Nat} {a0 : List Int} {r0 : Int} {a0_A : Option Addr} {a0_n : Nat} {a0_c : Nat} (h : bits_NumLe.f K a0 = some r0) (w0 : World) (hp0 : RowL (CI .u8) w0 a0_A a0_n a0_c a0) : Ret Tryd.prog 80 #[.slice a0_A a0_n a0_c] w0 (.int .u64 r0) := by
 refine calls_k Tryd.func80 rfl fun Q qq => ?_
 have hs := St.startR (all_cons (RowP.ent hp0) all_nil)
 refine wp_conv (a' := ⟨#[.slice a0_A a0_n a0_c, undef, undef, undef, undef, undef, undef, undef, undef, undef, undef, undef, undef, undef, undef, undef, undef, undef, undef, undef, undef, undef, undef], []⟩) (by kernel_rfl) ?_
 refine xseq_k fun KS1 ks1 => ?_
 refine xregS [0] fun KR2 kr2 => ?_
 refine wpS.q 0 2 (.int .u64 0) ?_
 refine wpS.fin rfl (kr2 _ _ (then_n (ks1 _ _ (xseq_k fun KS3 ks3 => (xregS [0] fun KR4 kr4 => ?_)))))
 refine wpS.q 0 3 (.int .u64 0) ?_
 refine wpS.fin rfl (kr4 _ _ (then_n (ks3 _ _ (xseq_k fun KS5 ks5 => (xseq_k fun KS6 ks6 => (xregS [0, 1, 2, 3] fun KR7 kr7 => ?_))))))
 refine wpS.q 0 5 (.slice a0_A a0_n a0_c) ?_
 refine wpS.tk 1 false (some 6) (.int .i64 (a0.length : Int)) (yld_lenL (hs.rowR 0 rfl) (fun _ => by kernel_rfl)) ?_
 refine wpS.qs [(2, 7, .int .i64 (imin (a0.length : Int) 8)), (3, 8, .int .i64 0)] ?_
 refine wpS.fin rfl (kr7 _ _ (then_n (ks6 _ _ ?_)))
 obtain ⟨y3, hy, hk0⟩ := of_bind h
 refine wp_exq (N := fun a w => St w0 [] [] [.rowL (CI .u8) a0_A a0_n a0_c a0] w ∧ ∃ g9 : Nat → Value, a = ⟨#[.slice a0_A a0_n a0_c, undef, .int .u64 0, .int .u64 y3, (g9 4), .slice a0_A a0_n a0_c, .int .i64 (a0.length : Int), .int .i64 (imin (a0.length : Int) 8), (g9 8), (g9 9), (g9 10), (g9 11), (g9 12), (g9 13), (g9 14), (g9 15), (g9 16), (g9 17), (g9 18), (g9 19), (g9 20), (g9 21), undef], []⟩) (fun N0 nn0 => ?_) ?_
 ·clear hk0
  refine xblock ?_
  refine wp_loop_k (fun n a w => ∃ z1 z2, bits_NumLe.l0 K n a0 z1 z2 = some y3 ∧ St w0 [] [] [.rowL (CI .u8) a0_A a0_n a0_c a0] w ∧ ∃ g8 : Nat → Value, a = ⟨#[.slice a0_A a0_n a0_c, undef, .int .u64 0, .int .u64 z1, (g8 4), .slice a0_A a0_n a0_c, .int .i64 (a0.length : Int), .int .i64 (imin (a0.length : Int) 8), .int .i64 z2, (g8 9), (g8 10), (g8 11), (g8 12), (g8 13), (g8 14), (g8 15), (g8 16), (g8 17), (g8 18), (g8 19), (g8 20), (g8 21), undef], []⟩) K ⟨0, 0, hy, hs.conv rfl, exg (by kernel_rfl)⟩ ?_
  clear hs h hy
  rintro n a w ⟨z1, z2, h, hs, g8, rfl⟩ KL0 kl0
  cases n with
  | zero => exact nomatch (show none = some _ from h)
  | succ n =>
   refine xseq_k fun KS10 ks10 => ?_
   refine xregS [0] fun KR11 kr11 => ?_
   rcases of_if h with ⟨hc, h⟩ | ⟨hc, h⟩
   ·refine wpS.tk 0 false (some 9) (.bool true) (yld_b (dt hc) (fun _ => by kernel_rfl)) ?_
    refine wpS.fin rfl (kr11 _ _ (then_n (ks10 _ _ (xseq_k fun KS12 ks12 => (wp_cond_t (by kernel_rfl) (xskip (then_n (ks12 _ _ (xseq_k fun KS13 ks13 => (xblock (xseq_k fun KS14 ks14 => (xregS [0, 1] fun KR15 kr15 => ?_))))))))))))
    refine wpS.qs [(0, 10, .int .i64 z2), (1, 4, .int .i64 z2)] ?_
    refine wpS.fin rfl (kr15 _ _ (then_n (ks14 _ _ (xregS [0, 1, 2, 3, 4, 5, 6, 7, 8, 9, 10] fun KR16 kr16 => ?_))))
    refine wpS.qs [(0, 11, .int .u64 z1), (1, 12, .slice a0_A a0_n a0_c), (2, 13, .int .i64 z2)] ?_
    obtain ⟨h0, h⟩ := of_chk h
    obtain ⟨h1, h⟩ := of_chk h
    have i0_17 := h0
    have i1_17 := h1
    refine wpS.tk 3 false (some 14) (.pointer (adr a0_A ((z2 : Int).toNat * Cod.size (CI .u8)))) (yld_idxL (C := (CI .u8)) (t := 24) (e := 5) (k := .i64) (x := z2) (hs.rowR 0 rfl) (by kernel_rfl) (by kernel_rfl) (by kernel_rfl) h0 h1) ?_
    refine wpS.tk 4 true (some 15) (.int .u8 (rdL (CI .u8) a0 z2)) (yld_loadL (C := (CI .u8)) (e := 5) (x := z2) (hs.rowR 0 rfl) (by kernel_rfl) rfl (by kernel_rfl) i0_17 i1_17) ?_
    refine wpS.qs [(5, 16, .int .u64 (iconv .u64 (rdL (CI .u8) a0 z2))), (6, 17, .int .i64 z2), (7, 18, .int .i64 (imul .i64 8 z2))] ?_
    obtain ⟨h0, h⟩ := of_chk h
    refine wpS.tk 8 false (some 19) (.int .u64 (ishl .u64 (iconv .u64 (rdL (CI .u8) a0 z2)) (imul .i64 8 z2))) (yld_shl (t := 112) (k' := .i64) (by kernel_rfl) h0) ?_
    refine wpS.q 9 20 (.int .u64 (ior .u64 z1 (ishl .u64 (iconv .u64 (rdL (CI .u8) a0 z2)) (imul .i64 8 z2)))) ?_
    obtain ⟨x4, hx, h⟩ := of_bind h
    refine wpS.tk 10 false (some 3) (.int .u64 x4) (yld_int hx (fun _ => by kernel_rfl)) ?_
    refine wpS.fin rfl (kr16 _ _ (inBlock_n (then_n (ks13 _ _ (xregS [0, 1] fun KR18 kr18 => ?_)))))
    refine wpS.qs [(0, 21, .int .i64 (iadd .i64 z2 1)), (1, 8, .int .i64 (iadd .i64 z2 1))] ?_
    refine wpS.fin rfl (kr18 _ _ ?_)
    exact then_n (kl0 _ _ ⟨n, Nat.lt_succ_self n, x4, (iadd .i64 z2 1), h, (hs.conv rfl), exg (by kernel_rfl)⟩)
   refine wpS.tk 0 false (some 9) (.bool false) (yld_b (df hc) (fun _ => by kernel_rfl)) ?_
   refine wpS.fin rfl (kr11 _ _ (then_n (ks10 _ _ (xseq_k fun KS19 ks19 => (wp_cond_f (by kernel_rfl) (xexit (then_x (then_x (inBlock_hit ?_)))))))))
   have q0 := of_some h
   subst q0
   exact exq_n (nn0 _ _ ⟨(hs.conv rfl), exg (by kernel_rfl)⟩)
 clear hs h hy
 rintro a w ⟨hs, g9, rfl⟩
 have h := hk0
 refine then_n (ks5 _ _ (xseq_k fun KS20 ks20 => (xregS [0, 1] fun KR21 kr21 => ?_)))
 refine wpS.qs [(0, 22, .int .u64 y3), (1, 2, .int .u64 y3)] ?_
 refine wpS.fin rfl (kr21 _ _ (then_n (ks20 _ _ (xret ?_))))
 have q0 := of_some h
 subst q0
 exact qq _ _ (post_ret (by kernel_rfl) (run_results [.tmp 2] [.int .u64 y3] (by kernel_rfl) (.cons (res_tmp (by kernel_rfl)) .nil)) ⟨congrArg Ending.returned (by kernel_rfl), hs.none⟩)
end Go.Proofs.YtemdbgmldljbpaaDoor
