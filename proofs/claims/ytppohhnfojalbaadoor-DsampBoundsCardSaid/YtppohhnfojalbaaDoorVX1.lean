/- Printed by this work's own program: the code of each function below comes to the answer that its plain form tells. -/
import Derived.Test.YtppohhnfojalbaaDoorMd
import Derived.Test.YtppohhnfojalbaaDoorProg
import Derived.Test.YtppohhnfojalbaaDoorVF0
import Derived.Test.YtppohhnfojalbaaDoorVX0
set_option linter.unusedVariables false
set_option linter.unusedSimpArgs false
set_option maxRecDepth 100000
set_option maxHeartbeats 4000000
namespace Go.Proofs.YtppohhnfojalbaaDoor
open Go.Mx
attribute [local irreducible] wpOp

theorem keccak_Squeeze.ok {K : Nat} {a0_0 : Int} {a0_1 : Arr 25} {a0_2 : Int} {a0_3 : Bool} {a1 : Int} {r0_0 : Int} {r0_1 : Arr 25} {r0_2 : Int} {r0_3 : Bool} {r1 : List Int} (h : keccak_Squeeze.f K a0_0 a0_1 a0_2 a0_3 a1 = some (r0_0, r0_1, r0_2, r0_3, r1)) (w0 : World) (hg0 : RowL (CA .u64 24 (by decide)) w0 (some ⟨0, 0, none⟩) 1 1 [tab_0]) (hg1 : RowL (CA .i64 24 (by decide)) w0 (some ⟨1, 0, none⟩) 1 1 [tab_1]) (hg2 : RowL (CA .i64 24 (by decide)) w0 (some ⟨2, 0, none⟩) 1 1 [tab_2]) : Calls Tryd.prog 25 #[.agg (([.int .i64 a0_0] : List Value) ++ enc .u64 a0_1 ++ ([.int .i64 a0_2, .bool a0_3] : List Value)).toArray, .int .i64 a1] w0 fun e w' => ∃ h : (Option Addr × Nat × Nat), e = .returned (.tuple #[.agg (([.int .i64 r0_0] : List Value) ++ enc .u64 r0_1 ++ ([.int .i64 r0_2, .bool r0_3] : List Value)).toArray, .slice h.1 h.2.1 h.2.2]) ∧ St w0 [] [.ownL (CI .u8) h.1 h.2.1 h.2.2 r1 5] [] w' := by
 refine calls_k Tryd.func25 rfl fun Q qq => ?_
 have hs := St.startR (all_cons (RowP.ent hg0) (all_cons (RowP.ent hg1) (all_cons (RowP.ent hg2) all_nil)))
 refine wp_conv (a' := ⟨#[.agg (([.int .i64 a0_0] : List Value) ++ enc .u64 a0_1 ++ ([.int .i64 a0_2, .bool a0_3] : List Value)).toArray, .int .i64 a1, undef, undef, undef, undef, undef, undef, undef, undef, undef, undef, undef, undef, undef, undef, undef, undef, undef, undef, undef, undef, undef, undef, undef, undef, undef, undef, undef, undef, undef, undef, undef, undef, undef, undef, undef, undef, undef, undef, undef, undef, undef, undef, undef, undef, undef, undef, undef, undef, undef, undef, undef, undef, undef, undef], []⟩) (by kernel_rfl) ?_
 refine xseq_k fun KS1 ks1 => ?_
 refine xregS [0, 1, 2] fun KR2 kr2 => ?_
 refine wpS.only 0 (op_box (t := 50) (v := .agg (([.int .i64 a0_0] : List Value) ++ enc .u64 a0_1 ++ ([.int .i64 a0_2, .bool a0_3] : List Value)).toArray) (d := (some 2)) (by kernel_rfl) hs (([.int .i64 a0_0] : List Value) ++ enc .u64 a0_1 ++ ([.int .i64 a0_2, .bool a0_3] : List Value)) (by kernel_rfl) (by kernel_rfl) ?_)
 intro b1 w gw hs
 refine ⟨fun _ => trivial, ?_⟩
 refine wpS.only 1 (op_alloc (t := 50) (d := (some 4)) (by kernel_rfl) hs (([.int .i64 0] : List Value) ++ enc .u64 (zeroA 25) ++ ([.int .i64 0, .bool false] : List Value)) (.agg (([.int .i64 0] : List Value) ++ enc .u64 (zeroA 25) ++ ([.int .i64 0, .bool false] : List Value)).toArray) (by kernel_rfl) (by kernel_rfl) (by kernel_rfl) ?_)
 intro b2 w gw hs
 refine ⟨fun _ => trivial, ?_⟩
 refine wpS.q 2 5 (.slice none 0 0) ?_
 refine wpS.fin rfl (kr2 _ _ (then_n (ks1 _ _ (xseq_k fun KS3 ks3 => (xseq_k fun KS4 ks4 => (xregS [0, 1] fun KR5 kr5 => ?_))))))
 refine wpS.q 0 8 (.int .i64 a1) ?_
 rcases of_if h with ⟨hc, h⟩ | ⟨hc, h⟩
 ·refine wpS.tk 1 false (some 9) (.bool true) (yld_b (dt hc) (fun _ => by kernel_rfl)) ?_
  refine wpS.fin rfl (kr5 _ _ (then_n (ks4 _ _ (wp_cond_t (by kernel_rfl) (xseq_k fun KS6 ks6 => (xregS [0, 1, 2] fun KR7 kr7 => ?_))))))
  refine wpS.tk 0 true (some 10) (.agg (([.int .i64 a0_0] : List Value) ++ enc .u64 a0_1 ++ ([.int .i64 a0_2, .bool a0_3] : List Value)).toArray) (yld_loadW (e := 50) (n := 28) hs 1 rfl (by kernel_rfl) (by kernel_rfl) (by kernel_rfl) (by simp [enc_len]) .grow) ?_
  refine wpS.only 1 (op_storeW (t := 50) (v := .agg (([.int .i64 a0_0] : List Value) ++ enc .u64 a0_1 ++ ([.int .i64 a0_2, .bool a0_3] : List Value)).toArray) (d := none) (by kernel_rfl) hs 0 rfl (vs := ([.int .i64 a0_0] : List Value) ++ enc .u64 a0_1 ++ ([.int .i64 a0_2, .bool a0_3] : List Value)) (n := 28) (by kernel_rfl) (by kernel_rfl) (by kernel_rfl) (by simp [enc_len]) (by simp [enc_len]) (one_app (one_app (by simp [Value.oneCell']) (fun u hu => enc_one _ _ u hu)) (by simp [Value.oneCell'])) ?_)
  intro w kp hs
  refine ⟨fun _ => trivial, ?_⟩
  refine wpS.q 2 5 (.slice none 0 0) ?_
  refine wpS.fin rfl (kr7 _ _ (then_n (ks6 _ _ (xret (then_r ?_)))))
  obtain ⟨q0, qr0⟩ := Prod.mk.inj (of_some h)
  obtain ⟨q1, qr1⟩ := Prod.mk.inj (qr0)
  obtain ⟨q2, qr2⟩ := Prod.mk.inj (qr1)
  obtain ⟨q3, qr3⟩ := Prod.mk.inj (qr2)
  have q4 := qr3
  subst q0
  subst q1
  subst q2
  subst q3
  subst q4
  have hs := hs.addNilL (CI .u8) 5
  exact qq _ _ (post_ret (by kernel_rfl) (run_results [.cell 4 50, .tmp 5] [.agg (([.int .i64 a0_0] : List Value) ++ enc .u64 a0_1 ++ ([.int .i64 a0_2, .bool a0_3] : List Value)).toArray, .slice none 0 0] (by kernel_rfl) (.cons (res_cellN (n := 28) hs 1 rfl (by kernel_rfl) (by kernel_rfl) (by kernel_rfl) (by simp [enc_len])) (.cons (res_tmp (by kernel_rfl)) .nil))) ⟨⟨none, 0, 0⟩, congrArg Ending.returned (by kernel_rfl), ((hs.drop (.cons_cons _ (.cons _ (.cons _ .slnil)))).pickR pick_nil)⟩)
 refine wpS.tk 1 false (some 9) (.bool false) (yld_b (df hc) (fun _ => by kernel_rfl)) ?_
 refine wpS.fin rfl (kr5 _ _ (then_n (ks4 _ _ (wp_cond_f (by kernel_rfl) (xskip (then_n (ks3 _ _ ?_)))))))
 obtain ⟨⟨y3_0, y3_1, y3_2, y3_3⟩, hj, h⟩ := of_bind h
 refine xseq_k fun KS9 ks9 => wp_join (N := fun a w => St w0 [] [.blk b2 (([.int .i64 0] : List Value) ++ enc .u64 (zeroA 25) ++ ([.int .i64 0, .bool false] : List Value)) 50, .blk b1 (([.int .i64 y3_0] : List Value) ++ enc .u64 y3_1 ++ ([.int .i64 y3_2, .bool y3_3] : List Value)) 50] [.rowL (CA .u64 24 (by decide)) (some ⟨0, 0, none⟩) 1 1 ([tab_0]), .rowL (CA .i64 24 (by decide)) (some ⟨1, 0, none⟩) 1 1 ([tab_1]), .rowL (CA .i64 24 (by decide)) (some ⟨2, 0, none⟩) 1 1 ([tab_2])] w ∧ ∃ g8 : Nat → Value, a = ⟨#[.agg (([.int .i64 a0_0] : List Value) ++ enc .u64 a0_1 ++ ([.int .i64 a0_2, .bool a0_3] : List Value)).toArray, .int .i64 a1, .pointer (some ⟨b1, 0, none⟩), undef, .pointer (some ⟨b2, 0, none⟩), .slice none 0 0, undef, undef, .int .i64 a1, .bool false, undef, (g8 11), (g8 12), (g8 13), (g8 14), (g8 15), undef, undef, undef, undef, undef, undef, undef, undef, undef, undef, undef, undef, undef, undef, undef, undef, undef, undef, undef, undef, undef, undef, undef, undef, undef, undef, undef, undef, undef, undef, undef, undef, undef, undef, undef, undef, undef, undef, undef, undef], []⟩) (fun N nj => ?_) ?_
 ·clear h
  have h := hj
  refine xseq_k fun KS10 ks10 => ?_
  refine xregS [0, 1, 2] fun KR11 kr11 => ?_
  refine wpS.q 0 11 (.pointer (some ⟨b1, 27, none⟩)) ?_
  cases a0_3 with
  | true =>
   have h := of_if_t h
   refine wpS.tk 1 true (some 12) (.bool true) (yld_load1 (e := 4) (o := 27) hs 1 rfl (by kernel_rfl) (by kernel_rfl) (get_post 1 rfl rfl) .grow) ?_
   refine wpS.q 2 13 (.bool false) ?_
   refine wpS.fin rfl (kr11 _ _ (then_n (ks10 _ _ (wp_cond_f (by kernel_rfl) (xskip ?_)))))
   obtain ⟨q0, qr0⟩ := Prod.mk.inj (of_some h)
   obtain ⟨q1, qr1⟩ := Prod.mk.inj (qr0)
   obtain ⟨q2, qr2⟩ := Prod.mk.inj (qr1)
   have q3 := qr2
   subst q0
   subst q1
   subst q2
   subst q3
   exact nj _ _ ⟨(hs.conv rfl), exg (by kernel_rfl)⟩
  | false =>
   have h := of_if_f h
   refine wpS.tk 1 true (some 12) (.bool false) (yld_load1 (e := 4) (o := 27) hs 1 rfl (by kernel_rfl) (by kernel_rfl) (get_post 1 rfl rfl) .grow) ?_
   refine wpS.q 2 13 (.bool true) ?_
   refine wpS.fin rfl (kr11 _ _ (then_n (ks10 _ _ (wp_cond_t (by kernel_rfl) (xregS [0, 1, 2] fun KR12 kr12 => ?_)))))
   refine wpS.tk 0 true (some 14) (.agg (([.int .i64 a0_0] : List Value) ++ enc .u64 a0_1 ++ ([.int .i64 a0_2, .bool false] : List Value)).toArray) (yld_loadW (e := 50) (n := 28) hs 1 rfl (by kernel_rfl) (by kernel_rfl) (by kernel_rfl) (by simp [enc_len]) .grow) ?_
   obtain ⟨⟨r4_0, r4_1, r4_2, r4_3⟩, hg, h⟩ := of_bind h
   refine wpS.only 1 (op_call (d := (some 15)) (by kernel_rfl) hs (fun _ => by kernel_rfl) (keccak_turned.ok hg _ (hs.rowR 0 rfl) (hs.rowR 1 rfl) (hs.rowR 2 rfl)) ?_)
   intro w gw hs
   refine ⟨fun _ => trivial, ?_⟩
   refine wpS.only 2 (op_storeW (t := 50) (v := .agg (([.int .i64 r4_0] : List Value) ++ enc .u64 r4_1 ++ ([.int .i64 r4_2, .bool r4_3] : List Value)).toArray) (d := none) (by kernel_rfl) hs 1 rfl (vs := ([.int .i64 r4_0] : List Value) ++ enc .u64 r4_1 ++ ([.int .i64 r4_2, .bool r4_3] : List Value)) (n := 28) (by kernel_rfl) (by kernel_rfl) (by kernel_rfl) (by simp [enc_len]) (by simp [enc_len]) (one_app (one_app (by simp [Value.oneCell']) (fun u hu => enc_one _ _ u hu)) (by simp [Value.oneCell'])) ?_)
   intro w kp hs
   refine ⟨fun _ => trivial, ?_⟩
   refine wpS.fin rfl (kr12 _ _ ?_)
   obtain ⟨q0, qr0⟩ := Prod.mk.inj (of_some h)
   obtain ⟨q1, qr1⟩ := Prod.mk.inj (qr0)
   obtain ⟨q2, qr2⟩ := Prod.mk.inj (qr1)
   have q3 := qr2
   subst q0
   subst q1
   subst q2
   subst q3
   exact nj _ _ ⟨(hs.conv rfl), exg (by kernel_rfl)⟩
 clear hj hs
 rintro a w ⟨hs, g8, rfl⟩
 refine then_n (ks9 _ _ (xseq_k fun KS13 ks13 => (xregS [0, 1, 2] fun KR14 kr14 => ?_)))
 refine wpS.q 0 16 (.int .i64 a1) ?_
 obtain ⟨h0, h⟩ := of_chk h
 obtain ⟨h1, h⟩ := of_chk h
 refine wpS.only 1 (op_makeT (C := (CI .u8)) (t := 22) (e := 5) (bytes := 1) (B := 140737488355328) (kl := .i64) (kc := .i64) (x := a1) (d := (some 17)) (by kernel_rfl) hs (by kernel_rfl) (by kernel_rfl) (by kernel_rfl) (by kernel_rfl) (by kernel_rfl) h0 h1 (by decide) (by decide) ?_)
 intro s5_A s5_n s5_c w gw hs
 refine ⟨fun _ => trivial, ?_⟩
 refine wpS.q 2 6 (.slice s5_A s5_n s5_c) ?_
 refine wpS.fin rfl (kr14 _ _ (then_n (ks13 _ _ (xseq_k fun KS15 ks15 => (xseq_k fun KS16 ks16 => (xregS [0, 1, 2] fun KR17 kr17 => ?_))))))
 refine wpS.q 0 18 (.slice s5_A s5_n s5_c) ?_
 refine wpS.tk 1 false (some 19) (.int .i64 ((List.replicate (a1 : Int).toNat (Cod.zero (CI .u8))).length : Int)) (yld_lenL (hs.rowL 0 rfl) (fun _ => by kernel_rfl)) ?_
 refine wpS.q 2 20 (.int .i64 0) ?_
 refine wpS.fin rfl (kr17 _ _ (then_n (ks16 _ _ ?_)))
 obtain ⟨⟨y9, y10_0, y10_1, y10_2, y10_3⟩, hy, hk0⟩ := of_bind h
 refine wp_exq (N := fun a w => St w0 [] [.ownL (CI .u8) s5_A s5_n s5_c y9 5, .blk b2 (([.int .i64 0] : List Value) ++ enc .u64 (zeroA 25) ++ ([.int .i64 0, .bool false] : List Value)) 50, .blk b1 (([.int .i64 y10_0] : List Value) ++ enc .u64 y10_1 ++ ([.int .i64 y10_2, .bool y10_3] : List Value)) 50] [.rowL (CA .u64 24 (by decide)) (some ⟨0, 0, none⟩) 1 1 ([tab_0]), .rowL (CA .i64 24 (by decide)) (some ⟨1, 0, none⟩) 1 1 ([tab_1]), .rowL (CA .i64 24 (by decide)) (some ⟨2, 0, none⟩) 1 1 ([tab_2])] w ∧ ∃ g19 : Nat → Value, a = ⟨#[.agg (([.int .i64 a0_0] : List Value) ++ enc .u64 a0_1 ++ ([.int .i64 a0_2, .bool a0_3] : List Value)).toArray, .int .i64 a1, .pointer (some ⟨b1, 0, none⟩), undef, .pointer (some ⟨b2, 0, none⟩), .slice none 0 0, .slice s5_A s5_n s5_c, (g19 7), .int .i64 a1, .bool false, undef, (g8 11), (g8 12), (g8 13), (g8 14), (g8 15), .int .i64 a1, .slice s5_A s5_n s5_c, .slice s5_A s5_n s5_c, .int .i64 ((List.replicate (a1 : Int).toNat (Cod.zero (CI .u8))).length : Int), (g19 20), (g19 21), (g19 22), (g19 23), (g19 24), (g19 25), (g19 26), (g19 27), (g19 28), (g19 29), (g19 30), (g19 31), (g19 32), (g19 33), (g19 34), (g19 35), (g19 36), (g19 37), (g19 38), (g19 39), (g19 40), (g19 41), (g19 42), (g19 43), (g19 44), (g19 45), (g19 46), (g19 47), (g19 48), (g19 49), (g19 50), (g19 51), (g19 52), (g19 53), undef, undef], []⟩) (fun N0 nn0 => ?_) ?_
 ·clear hk0
  refine xblock ?_
  refine wp_loop_k (fun n a w => ∃ z6 z7 z8_0 z8_1 z8_2 z8_3, keccak_Squeeze.l0 K n a1 z6 z7 z8_0 z8_1 z8_2 z8_3 = some (y9, y10_0, y10_1, y10_2, y10_3) ∧ St w0 [] [.ownL (CI .u8) s5_A s5_n s5_c z7 5, .blk b2 (([.int .i64 0] : List Value) ++ enc .u64 (zeroA 25) ++ ([.int .i64 0, .bool false] : List Value)) 50, .blk b1 (([.int .i64 z8_0] : List Value) ++ enc .u64 z8_1 ++ ([.int .i64 z8_2, .bool z8_3] : List Value)) 50] [.rowL (CA .u64 24 (by decide)) (some ⟨0, 0, none⟩) 1 1 ([tab_0]), .rowL (CA .i64 24 (by decide)) (some ⟨1, 0, none⟩) 1 1 ([tab_1]), .rowL (CA .i64 24 (by decide)) (some ⟨2, 0, none⟩) 1 1 ([tab_2])] w ∧ ∃ g18 : Nat → Value, a = ⟨#[.agg (([.int .i64 a0_0] : List Value) ++ enc .u64 a0_1 ++ ([.int .i64 a0_2, .bool a0_3] : List Value)).toArray, .int .i64 a1, .pointer (some ⟨b1, 0, none⟩), undef, .pointer (some ⟨b2, 0, none⟩), .slice none 0 0, .slice s5_A s5_n s5_c, (g18 7), .int .i64 a1, .bool false, undef, (g8 11), (g8 12), (g8 13), (g8 14), (g8 15), .int .i64 a1, .slice s5_A s5_n s5_c, .slice s5_A s5_n s5_c, .int .i64 ((List.replicate (a1 : Int).toNat (Cod.zero (CI .u8))).length : Int), .int .i64 z6, (g18 21), (g18 22), (g18 23), (g18 24), (g18 25), (g18 26), (g18 27), (g18 28), (g18 29), (g18 30), (g18 31), (g18 32), (g18 33), (g18 34), (g18 35), (g18 36), (g18 37), (g18 38), (g18 39), (g18 40), (g18 41), (g18 42), (g18 43), (g18 44), (g18 45), (g18 46), (g18 47), (g18 48), (g18 49), (g18 50), (g18 51), (g18 52), (g18 53), undef, undef], []⟩) K ⟨0, (List.replicate (a1 : Int).toNat (Cod.zero (CI .u8))), y3_0, y3_1, y3_2, y3_3, hy, hs.conv rfl, exg (by kernel_rfl)⟩ ?_
  clear hs h hy
  rintro n a w ⟨z6, z7, z8_0, z8_1, z8_2, z8_3, h, hs, g18, rfl⟩ KL0 kl0
  cases n with
  | zero => exact nomatch (show none = some _ from h)
  | succ n =>
   refine xseq_k fun KS20 ks20 => ?_
   refine xregS [0] fun KR21 kr21 => ?_
   rcases of_if h with ⟨hc, h⟩ | ⟨hc, h⟩
   ·refine wpS.tk 0 false (some 21) (.bool true) (yld_b (dt hc) (fun _ => by kernel_rfl)) ?_
    refine wpS.fin rfl (kr21 _ _ (then_n (ks20 _ _ (xseq_k fun KS22 ks22 => (wp_cond_t (by kernel_rfl) (xskip (then_n (ks22 _ _ (xseq_k fun KS23 ks23 => (xblock (xseq_k fun KS24 ks24 => (xregS [0, 1] fun KR25 kr25 => ?_))))))))))))
    refine wpS.qs [(0, 22, .int .i64 z6), (1, 7, .int .i64 z6)] ?_
    refine wpS.fin rfl (kr25 _ _ (then_n (ks24 _ _ ?_)))
    obtain ⟨⟨y11_0, y11_1, y11_2, y11_3⟩, hj, h⟩ := of_bind h
    refine xseq_k fun KS27 ks27 => wp_join (N := fun a w => St w0 [] [.ownL (CI .u8) s5_A s5_n s5_c z7 5, .blk b2 (([.int .i64 0] : List Value) ++ enc .u64 (zeroA 25) ++ ([.int .i64 0, .bool false] : List Value)) 50, .blk b1 (([.int .i64 y11_0] : List Value) ++ enc .u64 y11_1 ++ ([.int .i64 y11_2, .bool y11_3] : List Value)) 50] [.rowL (CA .u64 24 (by decide)) (some ⟨0, 0, none⟩) 1 1 ([tab_0]), .rowL (CA .i64 24 (by decide)) (some ⟨1, 0, none⟩) 1 1 ([tab_1]), .rowL (CA .i64 24 (by decide)) (some ⟨2, 0, none⟩) 1 1 ([tab_2])] w ∧ ∃ g26 : Nat → Value, a = ⟨#[.agg (([.int .i64 a0_0] : List Value) ++ enc .u64 a0_1 ++ ([.int .i64 a0_2, .bool a0_3] : List Value)).toArray, .int .i64 a1, .pointer (some ⟨b1, 0, none⟩), undef, .pointer (some ⟨b2, 0, none⟩), .slice none 0 0, .slice s5_A s5_n s5_c, .int .i64 z6, .int .i64 a1, .bool false, undef, (g8 11), (g8 12), (g8 13), (g8 14), (g8 15), .int .i64 a1, .slice s5_A s5_n s5_c, .slice s5_A s5_n s5_c, .int .i64 ((List.replicate (a1 : Int).toNat (Cod.zero (CI .u8))).length : Int), .int .i64 z6, .bool true, .int .i64 z6, (g26 23), (g26 24), (g26 25), (g26 26), (g26 27), (g26 28), (g26 29), (g26 30), (g26 31), (g26 32), (g26 33), (g18 34), (g18 35), (g18 36), (g18 37), (g18 38), (g18 39), (g18 40), (g18 41), (g18 42), (g18 43), (g18 44), (g18 45), (g18 46), (g18 47), (g18 48), (g18 49), (g18 50), (g18 51), (g18 52), (g18 53), undef, undef], []⟩) (fun N nj => ?_) ?_
    ·clear h
     have h := hj
     refine xseq_k fun KS28 ks28 => ?_
     refine wp_regG [] (fun k => True) 6 (by kernel_rfl) (by kernel_rfl) (by kernel_rfl) fun KR29 kr29 => ?_
     have hs := hs.drawn1
     refine wpG.q 0 23 (.pointer (some ⟨b1, 26, none⟩)) ?_
     refine wpG.tD 1 true (some 24) (.int .i64 z8_2) (yld_load1 (e := 3) (o := 26) hs 2 rfl (by kernel_rfl) (by kernel_rfl) (get_post 0 rfl rfl) .grow) ?_
     refine wpG.q 2 25 (.pointer (some ⟨b1, 0, none⟩)) ?_
     refine wpG.tD 3 true (some 26) (.int .i64 z8_0) (yld_load1 (e := 3) (o := 0) hs 2 rfl (by kernel_rfl) (by kernel_rfl) (get_pre rfl) .grow) ?_
     obtain ⟨r12, hg, h⟩ := of_bind h
     refine wpG.only 4 (by kernel_rfl) (op_call (d := (some 27)) (by kernel_rfl) hs (fun _ => by kernel_rfl) (keccak_rate.ok hg _) ?_)
     intro w gw hs
     refine ⟨.of gw, ?_⟩
     rcases of_if h with ⟨hc, h⟩ | ⟨hc, h⟩
     ·refine wpG.tD 5 false (some 28) (.bool true) (yld_b (et hc) (fun _ => by kernel_rfl)) ?_
      refine wpG.fin (by kernel_rfl) rfl (kr29 _ _ ?_)
      refine then_n (ks28 _ _ (wp_cond_t (by kernel_rfl) (xregS [0, 1, 2, 3, 4, 5, 6] fun KR30 kr30 => ?_)))
      refine wpS.q 0 29 (.pointer (some ⟨b1, 1, none⟩)) ?_
      refine wpS.tk 1 true (some 30) (.agg (enc .u64 z8_1).toArray) (yld_loadN (e := 48) (n := 25) (o := 1) hs 2 rfl (by kernel_rfl) (by kernel_rfl) (by kernel_rfl) (mid_of rfl) (enc_len _ _) .grow) ?_
      obtain ⟨r13, hg, h⟩ := of_bind h
      refine wpS.only 2 (op_call (d := (some 31)) (by kernel_rfl) hs (fun _ => by kernel_rfl) (keccak_Permute.ok hg _ (hs.rowR 0 rfl) (hs.rowR 1 rfl) (hs.rowR 2 rfl)) ?_)
      intro w gw hs
      refine ⟨fun _ => trivial, ?_⟩
      refine wpS.q 3 32 (.pointer (some ⟨b1, 1, none⟩)) ?_
      refine wpS.only 4 (op_storeM (t := 48) (o := 1) (m := 25) (v := .agg (enc .u64 r13).toArray) (vs := enc .u64 r13) (d := none) (by kernel_rfl) hs 2 rfl (by kernel_rfl) (by kernel_rfl) (by kernel_rfl) (enc_len _ _) (by simp [enc_len]) (by intro u hu; exact enc_one _ _ u hu) (splice_row rfl) ?_)
      intro w kp hs
      refine ⟨fun _ => trivial, ?_⟩
      refine wpS.q 5 33 (.pointer (some ⟨b1, 26, none⟩)) ?_
      refine wpS.only 6 (op_storeQ (t := 3) (o := 26) (v := .int .i64 0) (d := none) (by kernel_rfl) hs 2 rfl (by kernel_rfl) rfl (by kernel_rfl) (by simp [enc_len]) (set_post 0 rfl) ?_)
      intro w kp hs
      try dsimp only [List.set] at hs
      refine ⟨fun _ => trivial, ?_⟩
      refine wpS.fin rfl (kr30 _ _ ?_)
      obtain ⟨q0, qr0⟩ := Prod.mk.inj (of_some h)
      obtain ⟨q1, qr1⟩ := Prod.mk.inj (qr0)
      obtain ⟨q2, qr2⟩ := Prod.mk.inj (qr1)
      have q3 := qr2
      subst q0
      subst q1
      subst q2
      subst q3
      exact nj _ _ ⟨(hs.conv rfl), exg (by kernel_rfl)⟩
     refine wpG.tD 5 false (some 28) (.bool false) (yld_b (ef hc) (fun _ => by kernel_rfl)) ?_
     refine wpG.fin (by kernel_rfl) rfl (kr29 _ _ ?_)
     refine then_n (ks28 _ _ (wp_cond_f (by kernel_rfl) (xskip ?_)))
     obtain ⟨q0, qr0⟩ := Prod.mk.inj (of_some h)
     obtain ⟨q1, qr1⟩ := Prod.mk.inj (qr0)
     obtain ⟨q2, qr2⟩ := Prod.mk.inj (qr1)
     have q3 := qr2
     subst q0
     subst q1
     subst q2
     subst q3
     exact nj _ _ ⟨(hs.conv rfl), exg (by kernel_rfl)⟩
    clear hj hs
    rintro a w ⟨hs, g26, rfl⟩
    refine then_n (ks27 _ _ (xseq_k fun KS31 ks31 => ?_))
    refine wp_regG [15] (fun k => True) 16 (by kernel_rfl) (by kernel_rfl) (by kernel_rfl) fun KR32 kr32 => ?_
    have hs := hs.drawn1
    refine wpG.q 0 34 (.slice s5_A s5_n s5_c) ?_
    refine wpG.q 1 35 (.int .i64 z6) ?_
    refine wpG.q 2 36 (.pointer (some ⟨b1, 26, none⟩)) ?_
    refine wpG.tD 3 true (some 37) (.int .i64 y11_2) (yld_load1 (e := 3) (o := 26) hs 2 rfl (by kernel_rfl) (by kernel_rfl) (get_post 0 rfl rfl) .grow) ?_
    refine wpG.q 4 38 (.int .i64 (iquo .i64 y11_2 8)) ?_
    refine wpG.q 5 39 (.pointer (some ⟨b1, 1, none⟩)) ?_
    obtain ⟨x14, hx, h⟩ := of_bind h
    have hx := of_some hx
    subst hx
    obtain ⟨i0_33, h⟩ := of_chk h
    obtain ⟨i1_33, h⟩ := of_chk h
    refine wpG.tD 6 false (some 40) (.pointer (some ⟨b1, 1 + ((iquo .i64 y11_2 8) : Int).toNat * 1, none⟩)) (yld_idx (t := 48) (e := 47) (n := 25) (sz := 1) (k := .i64) (x := (iquo .i64 y11_2 8)) (by kernel_rfl) (by kernel_rfl) (by kernel_rfl) i0_33 i1_33) ?_
    refine wpG.tD 7 true (some 41) (.int .u64 (rd y11_1 (iquo .i64 y11_2 8))) (yld_loadP (m := 1) (e := 47) (x := (iquo .i64 y11_2 8)) hs 2 rfl (by kernel_rfl) (by kernel_rfl) i0_33 i1_33 (by simp [enc_len]) .grow) ?_
    refine wpG.q 8 42 (.pointer (some ⟨b1, 26, none⟩)) ?_
    refine wpG.tD 9 true (some 43) (.int .i64 y11_2) (yld_load1 (e := 3) (o := 26) hs 2 rfl (by kernel_rfl) (by kernel_rfl) (get_post 0 rfl rfl) .grow) ?_
    refine wpG.q 10 44 (.int .i64 (irem .i64 y11_2 8)) ?_
    refine wpG.q 11 45 (.int .i64 (imul .i64 8 (irem .i64 y11_2 8))) ?_
    obtain ⟨h0, h⟩ := of_chk h
    refine wpG.tD 12 false (some 46) (.int .u64 (ishr .u64 (rd y11_1 (iquo .i64 y11_2 8)) (imul .i64 8 (irem .i64 y11_2 8)))) (yld_shr (t := 47) (k' := .i64) (by kernel_rfl) h0) ?_
    refine wpG.q 13 47 (.int .u8 (iconv .u8 (ishr .u64 (rd y11_1 (iquo .i64 y11_2 8)) (imul .i64 8 (irem .i64 y11_2 8))))) ?_
    obtain ⟨h0, h⟩ := of_chk h
    obtain ⟨h1, h⟩ := of_chk h
    have i0_34 := h0
    have i1_34 := h1
    refine wpG.tD 14 false (some 48) (.pointer (adr s5_A ((z6 : Int).toNat * Cod.size (CI .u8)))) (yld_idxL (C := (CI .u8)) (t := 22) (e := 5) (k := .i64) (x := z6) (hs.rowL 0 rfl) (by kernel_rfl) (by kernel_rfl) (by kernel_rfl) h0 h1) ?_
    obtain ⟨x15, hx, h⟩ := of_bind h
    refine wpG.only 15 (by kernel_rfl) (op_storeL (C := (CI .u8)) (t := 5) (x := z6) (v := x15) (d := none) (by kernel_rfl) hs 0 rfl (by cases hx; kernel_rfl) (by kernel_rfl) i0_34 i1_34 ?_)
    intro w hs
    refine ⟨⟨fun hf => absurd hf (by decide), .all _ _⟩, ?_⟩
    refine wpG.fin (by kernel_rfl) rfl (kr32 _ _ ?_)
    refine then_n (ks31 _ _ (xregS [0, 1, 2, 3, 4] fun KR35 kr35 => ?_))
    refine wpS.q 0 49 (.pointer (some ⟨b1, 26, none⟩)) ?_
    refine wpS.tk 1 true (some 50) (.int .i64 y11_2) (yld_load1 (e := 3) (o := 26) hs 2 rfl (by kernel_rfl) (by kernel_rfl) (get_post 0 rfl rfl) .grow) ?_
    refine wpS.qs [(2, 51, .int .i64 (iadd .i64 y11_2 1)), (3, 52, .pointer (some ⟨b1, 26, none⟩))] ?_
    obtain ⟨x16, hx, h⟩ := of_bind h
    refine wpS.only 4 (op_storeQ (t := 3) (o := 26) (v := .int .i64 x16) (d := none) (by kernel_rfl) hs 2 rfl (by cases hx; kernel_rfl) rfl (by kernel_rfl) (by simp [enc_len]) (set_post 0 rfl) ?_)
    intro w kp hs
    try dsimp only [List.set] at hs
    refine ⟨fun _ => trivial, ?_⟩
    refine wpS.fin rfl (kr35 _ _ (inBlock_n (then_n (ks23 _ _ (xregS [0, 1] fun KR36 kr36 => ?_)))))
    refine wpS.qs [(0, 53, .int .i64 (iadd .i64 z6 1)), (1, 20, .int .i64 (iadd .i64 z6 1))] ?_
    refine wpS.fin rfl (kr36 _ _ ?_)
    exact then_n (kl0 _ _ ⟨n, Nat.lt_succ_self n, (iadd .i64 z6 1), (wrL z7 z6 x15), y11_0, y11_1, x16, y11_3, h, (hs.conv rfl), exg (by kernel_rfl)⟩)
   refine wpS.tk 0 false (some 21) (.bool false) (yld_b (df hc) (fun _ => by kernel_rfl)) ?_
   refine wpS.fin rfl (kr21 _ _ (then_n (ks20 _ _ (xseq_k fun KS37 ks37 => (wp_cond_f (by kernel_rfl) (xexit (then_x (then_x (inBlock_hit ?_)))))))))
   obtain ⟨q0, qr0⟩ := Prod.mk.inj (of_some h)
   obtain ⟨q1, qr1⟩ := Prod.mk.inj (qr0)
   obtain ⟨q2, qr2⟩ := Prod.mk.inj (qr1)
   obtain ⟨q3, qr3⟩ := Prod.mk.inj (qr2)
   have q4 := qr3
   subst q0
   subst q1
   subst q2
   subst q3
   subst q4
   exact exq_n (nn0 _ _ ⟨(hs.conv rfl), exg (by kernel_rfl)⟩)
 clear hs h hy
 rintro a w ⟨hs, g19, rfl⟩
 have h := hk0
 refine then_n (ks15 _ _ (xseq_k fun KS38 ks38 => (xregS [0, 1, 2, 3] fun KR39 kr39 => ?_)))
 refine wpS.tk 0 true (some 54) (.agg (([.int .i64 y10_0] : List Value) ++ enc .u64 y10_1 ++ ([.int .i64 y10_2, .bool y10_3] : List Value)).toArray) (yld_loadW (e := 50) (n := 28) hs 2 rfl (by kernel_rfl) (by kernel_rfl) (by kernel_rfl) (by simp [enc_len]) .grow) ?_
 refine wpS.q 1 55 (.slice s5_A s5_n s5_c) ?_
 refine wpS.only 2 (op_storeW (t := 50) (v := .agg (([.int .i64 y10_0] : List Value) ++ enc .u64 y10_1 ++ ([.int .i64 y10_2, .bool y10_3] : List Value)).toArray) (d := none) (by kernel_rfl) hs 1 rfl (vs := ([.int .i64 y10_0] : List Value) ++ enc .u64 y10_1 ++ ([.int .i64 y10_2, .bool y10_3] : List Value)) (n := 28) (by kernel_rfl) (by kernel_rfl) (by kernel_rfl) (by simp [enc_len]) (by simp [enc_len]) (one_app (one_app (by simp [Value.oneCell']) (fun u hu => enc_one _ _ u hu)) (by simp [Value.oneCell'])) ?_)
 intro w kp hs
 refine ⟨fun _ => trivial, ?_⟩
 refine wpS.q 3 5 (.slice s5_A s5_n s5_c) ?_
 refine wpS.fin rfl (kr39 _ _ (then_n (ks38 _ _ (xret ?_))))
 obtain ⟨q0, qr0⟩ := Prod.mk.inj (of_some h)
 obtain ⟨q1, qr1⟩ := Prod.mk.inj (qr0)
 obtain ⟨q2, qr2⟩ := Prod.mk.inj (qr1)
 obtain ⟨q3, qr3⟩ := Prod.mk.inj (qr2)
 have q4 := qr3
 subst q0
 subst q1
 subst q2
 subst q3
 subst q4
 exact qq _ _ (post_ret (by kernel_rfl) (run_results [.cell 4 50, .tmp 5] [.agg (([.int .i64 y10_0] : List Value) ++ enc .u64 y10_1 ++ ([.int .i64 y10_2, .bool y10_3] : List Value)).toArray, .slice s5_A s5_n s5_c] (by kernel_rfl) (.cons (res_cellN (n := 28) hs 1 rfl (by kernel_rfl) (by kernel_rfl) (by kernel_rfl) (by simp [enc_len])) (.cons (res_tmp (by kernel_rfl)) .nil))) ⟨⟨s5_A, s5_n, s5_c⟩, congrArg Ending.returned (by kernel_rfl), ((hs.drop (.cons_cons _ (.cons _ (.cons _ .slnil)))).pickR pick_nil)⟩)

theorem keccak_New.ok {K : Nat} {a0 : Int} {r0_0 : Int} {r0_1 : Arr 25} {r0_2 : Int} {r0_3 : Bool} {r1 : Int} (h : keccak_New.f K a0 = some (r0_0, r0_1, r0_2, r0_3, r1)) (w0 : World) : Ret Tryd.prog 33 #[.int .i64 a0] w0 (.tuple #[.agg (([.int .i64 r0_0] : List Value) ++ enc .u64 r0_1 ++ ([.int .i64 r0_2, .bool r0_3] : List Value)).toArray, .int .i64 r1]) := by
 refine calls_k Tryd.func33 rfl fun Q qq => ?_
 have hs := St.start w0
 refine wp_conv (a' := ⟨#[.int .i64 a0, undef, undef, undef, undef, undef, undef, undef, undef, undef], []⟩) (by kernel_rfl) ?_
 refine xseq_k fun KS1 ks1 => ?_
 refine xregS [0, 1] fun KR2 kr2 => ?_
 refine wpS.only 0 (op_alloc (t := 50) (d := (some 2)) (by kernel_rfl) hs (([.int .i64 0] : List Value) ++ enc .u64 (zeroA 25) ++ ([.int .i64 0, .bool false] : List Value)) (.agg (([.int .i64 0] : List Value) ++ enc .u64 (zeroA 25) ++ ([.int .i64 0, .bool false] : List Value)).toArray) (by kernel_rfl) (by kernel_rfl) (by kernel_rfl) ?_)
 intro b1 w gw hs
 refine ⟨fun _ => trivial, ?_⟩
 refine wpS.q 1 3 (.int .i64 0) ?_
 refine wpS.fin rfl (kr2 _ _ (then_n (ks1 _ _ (xseq_k fun KS3 ks3 => (xseq_k fun KS4 ks4 => (xregS [0, 1, 2] fun KR5 kr5 => ?_))))))
 refine wpS.q 0 4 (.int .i64 a0) ?_
 obtain ⟨r2, hg, h⟩ := of_bind h
 refine wpS.only 1 (op_call (d := (some 5)) (by kernel_rfl) hs (fun _ => by kernel_rfl) (keccak_rate.ok hg _) ?_)
 intro w gw hs
 refine ⟨fun _ => trivial, ?_⟩
 rcases of_if h with ⟨hc, h⟩ | ⟨hc, h⟩
 ·refine wpS.tk 2 false (some 6) (.bool true) (yld_b (et hc) (fun _ => by kernel_rfl)) ?_
  refine wpS.fin rfl (kr5 _ _ (then_n (ks4 _ _ (wp_cond_t (by kernel_rfl) (xseq_k fun KS6 ks6 => (xregS [0, 1, 2] fun KR7 kr7 => ?_))))))
  refine wpS.q 0 7 (.agg (([.int .i64 0] : List Value) ++ enc .u64 (zeroA 25) ++ ([.int .i64 0, .bool false] : List Value)).toArray) ?_
  refine wpS.only 1 (op_storeW (t := 50) (v := .agg (([.int .i64 0] : List Value) ++ enc .u64 (zeroA 25) ++ ([.int .i64 0, .bool false] : List Value)).toArray) (d := none) (by kernel_rfl) hs 0 rfl (vs := ([.int .i64 0] : List Value) ++ enc .u64 (zeroA 25) ++ ([.int .i64 0, .bool false] : List Value)) (n := 28) (by kernel_rfl) (by kernel_rfl) (by kernel_rfl) (by simp [enc_len]) (by simp [enc_len]) (one_app (one_app (by simp [Value.oneCell']) (fun u hu => enc_one _ _ u hu)) (by simp [Value.oneCell'])) ?_)
  intro w kp hs
  refine ⟨fun _ => trivial, ?_⟩
  refine wpS.q 2 3 (.int .i64 9) ?_
  refine wpS.fin rfl (kr7 _ _ (then_n (ks6 _ _ (xret (then_r ?_)))))
  obtain ⟨q0, qr0⟩ := Prod.mk.inj (of_some h)
  obtain ⟨q1, qr1⟩ := Prod.mk.inj (qr0)
  obtain ⟨q2, qr2⟩ := Prod.mk.inj (qr1)
  obtain ⟨q3, qr3⟩ := Prod.mk.inj (qr2)
  have q4 := qr3
  subst q0
  subst q1
  subst q2
  subst q3
  subst q4
  exact qq _ _ (post_ret (by kernel_rfl) (run_results [.cell 2 50, .tmp 3] [.agg (([.int .i64 0] : List Value) ++ enc .u64 (zeroA 25) ++ ([.int .i64 0, .bool false] : List Value)).toArray, .int .i64 9] (by kernel_rfl) (.cons (res_cellN (n := 28) hs 0 rfl (by kernel_rfl) (by kernel_rfl) (by kernel_rfl) (by simp [enc_len])) (.cons (res_tmp (by kernel_rfl)) .nil))) ⟨congrArg Ending.returned (by kernel_rfl), hs.none⟩)
 refine wpS.tk 2 false (some 6) (.bool false) (yld_b (ef hc) (fun _ => by kernel_rfl)) ?_
 refine wpS.fin rfl (kr5 _ _ (then_n (ks4 _ _ (wp_cond_f (by kernel_rfl) (xskip (then_n (ks3 _ _ (xseq_k fun KS8 ks8 => (xregS [0, 1, 2, 3] fun KR9 kr9 => ?_)))))))))
 refine wpS.qs [(0, 8, .int .i64 a0), (1, 9, .agg (([.int .i64 a0] : List Value) ++ enc .u64 (zeroA 25) ++ ([.int .i64 0, .bool false] : List Value)).toArray)] ?_
 refine wpS.only 2 (op_storeW (t := 50) (v := .agg (([.int .i64 a0] : List Value) ++ enc .u64 (zeroA 25) ++ ([.int .i64 0, .bool false] : List Value)).toArray) (d := none) (by kernel_rfl) hs 0 rfl (vs := ([.int .i64 a0] : List Value) ++ enc .u64 (zeroA 25) ++ ([.int .i64 0, .bool false] : List Value)) (n := 28) (by kernel_rfl) (by kernel_rfl) (by kernel_rfl) (by simp [enc_len]) (by simp [enc_len]) (one_app (one_app (by simp [Value.oneCell']) (fun u hu => enc_one _ _ u hu)) (by simp [Value.oneCell'])) ?_)
 intro w kp hs
 refine ⟨fun _ => trivial, ?_⟩
 refine wpS.q 3 3 (.int .i64 0) ?_
 refine wpS.fin rfl (kr9 _ _ (then_n (ks8 _ _ (xret ?_))))
 obtain ⟨q0, qr0⟩ := Prod.mk.inj (of_some h)
 obtain ⟨q1, qr1⟩ := Prod.mk.inj (qr0)
 obtain ⟨q2, qr2⟩ := Prod.mk.inj (qr1)
 obtain ⟨q3, qr3⟩ := Prod.mk.inj (qr2)
 have q4 := qr3
 subst q0
 subst q1
 subst q2
 subst q3
 subst q4
 exact qq _ _ (post_ret (by kernel_rfl) (run_results [.cell 2 50, .tmp 3] [.agg (([.int .i64 a0] : List Value) ++ enc .u64 (zeroA 25) ++ ([.int .i64 0, .bool false] : List Value)).toArray, .int .i64 0] (by kernel_rfl) (.cons (res_cellN (n := 28) hs 0 rfl (by kernel_rfl) (by kernel_rfl) (by kernel_rfl) (by simp [enc_len])) (.cons (res_tmp (by kernel_rfl)) .nil))) ⟨congrArg Ending.returned (by kernel_rfl), hs.none⟩)

theorem keccak_Absorb.ok {K : Nat} {a0_0 : Int} {a0_1 : Arr 25} {a0_2 : Int} {a0_3 : Bool} {a1 : List Int} {r0_0 : Int} {r0_1 : Arr 25} {r0_2 : Int} {r0_3 : Bool} {a1_A : Option Addr} {a1_n : Nat} {a1_c : Nat} (h : keccak_Absorb.f K a0_0 a0_1 a0_2 a0_3 a1 = some (r0_0, r0_1, r0_2, r0_3)) (w0 : World) (hp1 : RowL (CI .u8) w0 a1_A a1_n a1_c a1) (hg0 : RowL (CA .u64 24 (by decide)) w0 (some ⟨0, 0, none⟩) 1 1 [tab_0]) (hg1 : RowL (CA .i64 24 (by decide)) w0 (some ⟨1, 0, none⟩) 1 1 [tab_1]) (hg2 : RowL (CA .i64 24 (by decide)) w0 (some ⟨2, 0, none⟩) 1 1 [tab_2]) : Ret Tryd.prog 34 #[.agg (([.int .i64 a0_0] : List Value) ++ enc .u64 a0_1 ++ ([.int .i64 a0_2, .bool a0_3] : List Value)).toArray, .slice a1_A a1_n a1_c] w0 (.agg (([.int .i64 r0_0] : List Value) ++ enc .u64 r0_1 ++ ([.int .i64 r0_2, .bool r0_3] : List Value)).toArray) := by
 refine calls_k Tryd.func34 rfl fun Q qq => ?_
 have hs := St.startR (all_cons (RowP.ent hp1) (all_cons (RowP.ent hg0) (all_cons (RowP.ent hg1) (all_cons (RowP.ent hg2) all_nil))))
 refine wp_conv (a' := ⟨#[.agg (([.int .i64 a0_0] : List Value) ++ enc .u64 a0_1 ++ ([.int .i64 a0_2, .bool a0_3] : List Value)).toArray, .slice a1_A a1_n a1_c, undef, undef, undef, undef, undef, undef, undef, undef, undef, undef, undef, undef, undef, undef, undef, undef, undef, undef, undef, undef, undef, undef, undef, undef, undef, undef, undef, undef, undef, undef, undef, undef, undef, undef, undef, undef, undef, undef], []⟩) (by kernel_rfl) ?_
 refine xseq_k fun KS1 ks1 => ?_
 refine xregS [0, 1] fun KR2 kr2 => ?_
 refine wpS.only 0 (op_box (t := 50) (v := .agg (([.int .i64 a0_0] : List Value) ++ enc .u64 a0_1 ++ ([.int .i64 a0_2, .bool a0_3] : List Value)).toArray) (d := (some 2)) (by kernel_rfl) hs (([.int .i64 a0_0] : List Value) ++ enc .u64 a0_1 ++ ([.int .i64 a0_2, .bool a0_3] : List Value)) (by kernel_rfl) (by kernel_rfl) ?_)
 intro b1 w gw hs
 refine ⟨fun _ => trivial, ?_⟩
 refine wpS.only 1 (op_alloc (t := 50) (d := (some 4)) (by kernel_rfl) hs (([.int .i64 0] : List Value) ++ enc .u64 (zeroA 25) ++ ([.int .i64 0, .bool false] : List Value)) (.agg (([.int .i64 0] : List Value) ++ enc .u64 (zeroA 25) ++ ([.int .i64 0, .bool false] : List Value)).toArray) (by kernel_rfl) (by kernel_rfl) (by kernel_rfl) ?_)
 intro b2 w gw hs
 refine ⟨fun _ => trivial, ?_⟩
 refine wpS.fin rfl (kr2 _ _ (then_n (ks1 _ _ (xseq_k fun KS3 ks3 => (xseq_k fun KS4 ks4 => (xregS [0, 1] fun KR5 kr5 => ?_))))))
 refine wpS.q 0 7 (.pointer (some ⟨b1, 27, none⟩)) ?_
 cases a0_3 with
 | true =>
  have h := of_if_t h
  refine wpS.tk 1 true (some 8) (.bool true) (yld_load1 (e := 4) (o := 27) hs 1 rfl (by kernel_rfl) (by kernel_rfl) (get_post 1 rfl rfl) .grow) ?_
  refine wpS.fin rfl (kr5 _ _ (then_n (ks4 _ _ (wp_cond_t (by kernel_rfl) (xseq_k fun KS6 ks6 => (xregS [0, 1] fun KR7 kr7 => ?_))))))
  refine wpS.tk 0 true (some 9) (.agg (([.int .i64 a0_0] : List Value) ++ enc .u64 a0_1 ++ ([.int .i64 a0_2, .bool true] : List Value)).toArray) (yld_loadW (e := 50) (n := 28) hs 1 rfl (by kernel_rfl) (by kernel_rfl) (by kernel_rfl) (by simp [enc_len]) .grow) ?_
  refine wpS.only 1 (op_storeW (t := 50) (v := .agg (([.int .i64 a0_0] : List Value) ++ enc .u64 a0_1 ++ ([.int .i64 a0_2, .bool true] : List Value)).toArray) (d := none) (by kernel_rfl) hs 0 rfl (vs := ([.int .i64 a0_0] : List Value) ++ enc .u64 a0_1 ++ ([.int .i64 a0_2, .bool true] : List Value)) (n := 28) (by kernel_rfl) (by kernel_rfl) (by kernel_rfl) (by simp [enc_len]) (by simp [enc_len]) (one_app (one_app (by simp [Value.oneCell']) (fun u hu => enc_one _ _ u hu)) (by simp [Value.oneCell'])) ?_)
  intro w kp hs
  refine ⟨fun _ => trivial, ?_⟩
  refine wpS.fin rfl (kr7 _ _ (then_n (ks6 _ _ (xret (then_r ?_)))))
  obtain ⟨q0, qr0⟩ := Prod.mk.inj (of_some h)
  obtain ⟨q1, qr1⟩ := Prod.mk.inj (qr0)
  obtain ⟨q2, qr2⟩ := Prod.mk.inj (qr1)
  have q3 := qr2
  subst q0
  subst q1
  subst q2
  subst q3
  exact qq _ _ (post_ret (by kernel_rfl) (run_results [.cell 4 50] [.agg (([.int .i64 a0_0] : List Value) ++ enc .u64 a0_1 ++ ([.int .i64 a0_2, .bool true] : List Value)).toArray] (by kernel_rfl) (.cons (res_cellN (n := 28) hs 0 rfl (by kernel_rfl) (by kernel_rfl) (by kernel_rfl) (by simp [enc_len])) .nil)) ⟨congrArg Ending.returned (by kernel_rfl), hs.none⟩)
 | false =>
  have h := of_if_f h
  refine wpS.tk 1 true (some 8) (.bool false) (yld_load1 (e := 4) (o := 27) hs 1 rfl (by kernel_rfl) (by kernel_rfl) (get_post 1 rfl rfl) .grow) ?_
  refine wpS.fin rfl (kr5 _ _ (then_n (ks4 _ _ (wp_cond_f (by kernel_rfl) (xskip (then_n (ks3 _ _ (xseq_k fun KS8 ks8 => (xregS [0, 1, 2, 3] fun KR9 kr9 => ?_)))))))))
  refine wpS.q 0 10 (.pointer (some ⟨b1, 0, none⟩)) ?_
  refine wpS.tk 1 true (some 11) (.int .i64 a0_0) (yld_load1 (e := 3) (o := 0) hs 1 rfl (by kernel_rfl) (by kernel_rfl) (get_pre rfl) .grow) ?_
  obtain ⟨r3, hg, h⟩ := of_bind h
  refine wpS.only 2 (op_call (d := (some 12)) (by kernel_rfl) hs (fun _ => by kernel_rfl) (keccak_rate.ok hg _) ?_)
  intro w gw hs
  refine ⟨fun _ => trivial, ?_⟩
  refine wpS.q 3 5 (.int .i64 r3) ?_
  refine wpS.fin rfl (kr9 _ _ (then_n (ks8 _ _ (xseq_k fun KS10 ks10 => (xseq_k fun KS11 ks11 => (xregS [0, 1, 2] fun KR12 kr12 => ?_))))))
  refine wpS.q 0 13 (.slice a1_A a1_n a1_c) ?_
  refine wpS.tk 1 false (some 14) (.int .i64 (a1.length : Int)) (yld_lenL (hs.rowR 0 rfl) (fun _ => by kernel_rfl)) ?_
  refine wpS.q 2 15 (.int .i64 0) ?_
  refine wpS.fin rfl (kr12 _ _ (then_n (ks11 _ _ ?_)))
  obtain ⟨⟨y6_0, y6_1, y6_2, y6_3⟩, hy, hk0⟩ := of_bind h
  refine wp_exq (N := fun a w => St w0 [] [.blk b2 (([.int .i64 0] : List Value) ++ enc .u64 (zeroA 25) ++ ([.int .i64 0, .bool false] : List Value)) 50, .blk b1 (([.int .i64 y6_0] : List Value) ++ enc .u64 y6_1 ++ ([.int .i64 y6_2, .bool y6_3] : List Value)) 50] [.rowL (CI .u8) a1_A a1_n a1_c a1, .rowL (CA .u64 24 (by decide)) (some ⟨0, 0, none⟩) 1 1 ([tab_0]), .rowL (CA .i64 24 (by decide)) (some ⟨1, 0, none⟩) 1 1 ([tab_1]), .rowL (CA .i64 24 (by decide)) (some ⟨2, 0, none⟩) 1 1 ([tab_2])] w ∧ ∃ g14 : Nat → Value, a = ⟨#[.agg (([.int .i64 a0_0] : List Value) ++ enc .u64 a0_1 ++ ([.int .i64 a0_2, .bool false] : List Value)).toArray, .slice a1_A a1_n a1_c, .pointer (some ⟨b1, 0, none⟩), undef, .pointer (some ⟨b2, 0, none⟩), .int .i64 r3, (g14 6), .pointer (some ⟨b1, 27, none⟩), .bool false, undef, .pointer (some ⟨b1, 0, none⟩), .int .i64 a0_0, .int .i64 r3, .slice a1_A a1_n a1_c, .int .i64 (a1.length : Int), (g14 15), (g14 16), (g14 17), (g14 18), (g14 19), (g14 20), (g14 21), (g14 22), (g14 23), (g14 24), (g14 25), (g14 26), (g14 27), (g14 28), (g14 29), (g14 30), (g14 31), (g14 32), (g14 33), (g14 34), (g14 35), (g14 36), (g14 37), (g14 38), undef], []⟩) (fun N0 nn0 => ?_) ?_
  ·clear hk0
   refine xblock ?_
   refine wp_loop_k (fun n a w => ∃ z4 z5_0 z5_1 z5_2 z5_3, keccak_Absorb.l0 K n a1 r3 z4 z5_0 z5_1 z5_2 z5_3 = some (y6_0, y6_1, y6_2, y6_3) ∧ St w0 [] [.blk b2 (([.int .i64 0] : List Value) ++ enc .u64 (zeroA 25) ++ ([.int .i64 0, .bool false] : List Value)) 50, .blk b1 (([.int .i64 z5_0] : List Value) ++ enc .u64 z5_1 ++ ([.int .i64 z5_2, .bool z5_3] : List Value)) 50] [.rowL (CI .u8) a1_A a1_n a1_c a1, .rowL (CA .u64 24 (by decide)) (some ⟨0, 0, none⟩) 1 1 ([tab_0]), .rowL (CA .i64 24 (by decide)) (some ⟨1, 0, none⟩) 1 1 ([tab_1]), .rowL (CA .i64 24 (by decide)) (some ⟨2, 0, none⟩) 1 1 ([tab_2])] w ∧ ∃ g13 : Nat → Value, a = ⟨#[.agg (([.int .i64 a0_0] : List Value) ++ enc .u64 a0_1 ++ ([.int .i64 a0_2, .bool false] : List Value)).toArray, .slice a1_A a1_n a1_c, .pointer (some ⟨b1, 0, none⟩), undef, .pointer (some ⟨b2, 0, none⟩), .int .i64 r3, (g13 6), .pointer (some ⟨b1, 27, none⟩), .bool false, undef, .pointer (some ⟨b1, 0, none⟩), .int .i64 a0_0, .int .i64 r3, .slice a1_A a1_n a1_c, .int .i64 (a1.length : Int), .int .i64 z4, (g13 16), (g13 17), (g13 18), (g13 19), (g13 20), (g13 21), (g13 22), (g13 23), (g13 24), (g13 25), (g13 26), (g13 27), (g13 28), (g13 29), (g13 30), (g13 31), (g13 32), (g13 33), (g13 34), (g13 35), (g13 36), (g13 37), (g13 38), undef], []⟩) K ⟨0, a0_0, a0_1, a0_2, false, hy, hs.conv rfl, exg (by kernel_rfl)⟩ ?_
   clear hs h hy
   rintro n a w ⟨z4, z5_0, z5_1, z5_2, z5_3, h, hs, g13, rfl⟩ KL0 kl0
   cases n with
   | zero => exact nomatch (show none = some _ from h)
   | succ n =>
    refine xseq_k fun KS15 ks15 => ?_
    refine xregS [0] fun KR16 kr16 => ?_
    rcases of_if h with ⟨hc, h⟩ | ⟨hc, h⟩
    ·refine wpS.tk 0 false (some 16) (.bool true) (yld_b (dt hc) (fun _ => by kernel_rfl)) ?_
     refine wpS.fin rfl (kr16 _ _ (then_n (ks15 _ _ (xseq_k fun KS17 ks17 => (wp_cond_t (by kernel_rfl) (xskip (then_n (ks17 _ _ ?_))))))))
     obtain ⟨⟨y7_0, y7_1, y7_2, y7_3⟩, hj, h⟩ := of_bind h
     refine xseq_k fun KS19 ks19 => wp_join (N := fun a w => St w0 [] [.blk b2 (([.int .i64 0] : List Value) ++ enc .u64 (zeroA 25) ++ ([.int .i64 0, .bool false] : List Value)) 50, .blk b1 (([.int .i64 y7_0] : List Value) ++ enc .u64 y7_1 ++ ([.int .i64 y7_2, .bool y7_3] : List Value)) 50] [.rowL (CI .u8) a1_A a1_n a1_c a1, .rowL (CA .u64 24 (by decide)) (some ⟨0, 0, none⟩) 1 1 ([tab_0]), .rowL (CA .i64 24 (by decide)) (some ⟨1, 0, none⟩) 1 1 ([tab_1]), .rowL (CA .i64 24 (by decide)) (some ⟨2, 0, none⟩) 1 1 ([tab_2])] w ∧ ∃ g18 : Nat → Value, a = ⟨#[.agg (([.int .i64 a0_0] : List Value) ++ enc .u64 a0_1 ++ ([.int .i64 a0_2, .bool false] : List Value)).toArray, .slice a1_A a1_n a1_c, .pointer (some ⟨b1, 0, none⟩), undef, .pointer (some ⟨b2, 0, none⟩), .int .i64 r3, (g18 6), .pointer (some ⟨b1, 27, none⟩), .bool false, undef, .pointer (some ⟨b1, 0, none⟩), .int .i64 a0_0, .int .i64 r3, .slice a1_A a1_n a1_c, .int .i64 (a1.length : Int), .int .i64 z4, .bool true, (g18 17), (g18 18), (g18 19), (g18 20), (g18 21), (g18 22), (g18 23), (g18 24), (g18 25), (g18 26), (g18 27), (g18 28), (g18 29), (g18 30), (g18 31), (g18 32), (g18 33), (g18 34), (g18 35), (g18 36), (g18 37), (g13 38), undef], []⟩) (fun N nj => ?_) ?_
     ·clear h
      have h := hj
      refine xblock (xseq_k fun KS20 ks20 => (xregS [0, 1] fun KR21 kr21 => ?_))
      refine wpS.qs [(0, 17, .int .i64 z4), (1, 6, .int .i64 z4)] ?_
      refine wpS.fin rfl (kr21 _ _ (then_n (ks20 _ _ (xseq_k fun KS22 ks22 => ?_))))
      refine wp_regG [6] (fun k => True) 7 (by kernel_rfl) (by kernel_rfl) (by kernel_rfl) fun KR23 kr23 => ?_
      have hs := hs.drawn1
      refine wpG.q 0 18 (.pointer (some ⟨b1, 26, none⟩)) ?_
      refine wpG.tD 1 true (some 19) (.int .i64 z5_2) (yld_load1 (e := 3) (o := 26) hs 1 rfl (by kernel_rfl) (by kernel_rfl) (get_post 0 rfl rfl) .grow) ?_
      refine wpG.q 2 20 (.slice a1_A a1_n a1_c) ?_
      refine wpG.q 3 21 (.int .i64 z4) ?_
      obtain ⟨h0, h⟩ := of_chk h
      obtain ⟨h1, h⟩ := of_chk h
      have i0_24 := h0
      have i1_24 := h1
      refine wpG.tD 4 false (some 22) (.pointer (adr a1_A ((z4 : Int).toNat * Cod.size (CI .u8)))) (yld_idxL (C := (CI .u8)) (t := 22) (e := 5) (k := .i64) (x := z4) (hs.rowR 0 rfl) (by kernel_rfl) (by kernel_rfl) (by kernel_rfl) h0 h1) ?_
      refine wpG.tD 5 true (some 23) (.int .u8 (rdL (CI .u8) a1 z4)) (yld_loadL (C := (CI .u8)) (e := 5) (x := z4) (hs.rowR 0 rfl) (by kernel_rfl) rfl (by kernel_rfl) i0_24 i1_24) ?_
      obtain ⟨⟨r8_0, r8_1, r8_2, r8_3⟩, hg, h⟩ := of_bind h
      refine wpG.only 6 (by kernel_rfl) (op_callX (d := (some 24)) (by kernel_rfl) hs 1 rfl (fun _ => by kernel_rfl) (keccak_xor.ok hg _ (hs.blkAt 1 rfl)) ?_)
      intro w kp hs
      have hs := hs.conv (L' := [.blk b2 (([.int .i64 0] : List Value) ++ enc .u64 (zeroA 25) ++ ([.int .i64 0, .bool false] : List Value)) 50, .blk b1 (([.int .i64 r8_0] : List Value) ++ enc .u64 r8_1 ++ ([.int .i64 r8_2, .bool r8_3] : List Value)) 50]) rfl
      refine ⟨⟨fun hf => absurd hf (by decide), .all _ _⟩, ?_⟩
      refine wpG.fin (by kernel_rfl) rfl (kr23 _ _ ?_)
      refine then_n (ks22 _ _ (xseq_k fun KS25 ks25 => (xregS [0, 1, 2, 3, 4] fun KR26 kr26 => ?_)))
      refine wpS.q 0 25 (.pointer (some ⟨b1, 26, none⟩)) ?_
      refine wpS.tk 1 true (some 26) (.int .i64 r8_2) (yld_load1 (e := 3) (o := 26) hs 1 rfl (by kernel_rfl) (by kernel_rfl) (get_post 0 rfl rfl) .grow) ?_
      refine wpS.qs [(2, 27, .int .i64 (iadd .i64 r8_2 1)), (3, 28, .pointer (some ⟨b1, 26, none⟩))] ?_
      obtain ⟨x9, hx, h⟩ := of_bind h
      refine wpS.only 4 (op_storeQ (t := 3) (o := 26) (v := .int .i64 x9) (d := none) (by kernel_rfl) hs 1 rfl (by cases hx; kernel_rfl) rfl (by kernel_rfl) (by simp [enc_len]) (set_post 0 rfl) ?_)
      intro w kp hs
      try dsimp only [List.set] at hs
      refine ⟨fun _ => trivial, ?_⟩
      refine wpS.fin rfl (kr26 _ _ (then_n (ks25 _ _ (xseq_k fun KS27 ks27 => (xregS [0, 1, 2, 3] fun KR28 kr28 => ?_)))))
      refine wpS.q 0 29 (.pointer (some ⟨b1, 26, none⟩)) ?_
      refine wpS.tk 1 true (some 30) (.int .i64 x9) (yld_load1 (e := 3) (o := 26) hs 1 rfl (by kernel_rfl) (by kernel_rfl) (get_post 0 rfl rfl) .grow) ?_
      refine wpS.q 2 31 (.int .i64 r3) ?_
      rcases of_if h with ⟨hc, h⟩ | ⟨hc, h⟩
      ·refine wpS.tk 3 false (some 32) (.bool true) (yld_b (et hc) (fun _ => by kernel_rfl)) ?_
       refine wpS.fin rfl (kr28 _ _ (then_n (ks27 _ _ (wp_cond_t (by kernel_rfl) (xregS [0, 1, 2, 3, 4, 5, 6] fun KR29 kr29 => ?_)))))
       refine wpS.q 0 33 (.pointer (some ⟨b1, 1, none⟩)) ?_
       refine wpS.tk 1 true (some 34) (.agg (enc .u64 r8_1).toArray) (yld_loadN (e := 48) (n := 25) (o := 1) hs 1 rfl (by kernel_rfl) (by kernel_rfl) (by kernel_rfl) (mid_of rfl) (enc_len _ _) .grow) ?_
       obtain ⟨r10, hg, h⟩ := of_bind h
       refine wpS.only 2 (op_call (d := (some 35)) (by kernel_rfl) hs (fun _ => by kernel_rfl) (keccak_Permute.ok hg _ (hs.rowR 1 rfl) (hs.rowR 2 rfl) (hs.rowR 3 rfl)) ?_)
       intro w gw hs
       refine ⟨fun _ => trivial, ?_⟩
       refine wpS.q 3 36 (.pointer (some ⟨b1, 1, none⟩)) ?_
       refine wpS.only 4 (op_storeM (t := 48) (o := 1) (m := 25) (v := .agg (enc .u64 r10).toArray) (vs := enc .u64 r10) (d := none) (by kernel_rfl) hs 1 rfl (by kernel_rfl) (by kernel_rfl) (by kernel_rfl) (enc_len _ _) (by simp [enc_len]) (by intro u hu; exact enc_one _ _ u hu) (splice_row rfl) ?_)
       intro w kp hs
       refine ⟨fun _ => trivial, ?_⟩
       refine wpS.q 5 37 (.pointer (some ⟨b1, 26, none⟩)) ?_
       refine wpS.only 6 (op_storeQ (t := 3) (o := 26) (v := .int .i64 0) (d := none) (by kernel_rfl) hs 1 rfl (by kernel_rfl) rfl (by kernel_rfl) (by simp [enc_len]) (set_post 0 rfl) ?_)
       intro w kp hs
       try dsimp only [List.set] at hs
       refine ⟨fun _ => trivial, ?_⟩
       refine wpS.fin rfl (kr29 _ _ (inBlock_n ?_))
       obtain ⟨q0, qr0⟩ := Prod.mk.inj (of_some h)
       obtain ⟨q1, qr1⟩ := Prod.mk.inj (qr0)
       obtain ⟨q2, qr2⟩ := Prod.mk.inj (qr1)
       have q3 := qr2
       subst q0
       subst q1
       subst q2
       subst q3
       exact nj _ _ ⟨(hs.conv rfl), exg (by kernel_rfl)⟩
      refine wpS.tk 3 false (some 32) (.bool false) (yld_b (ef hc) (fun _ => by kernel_rfl)) ?_
      refine wpS.fin rfl (kr28 _ _ (then_n (ks27 _ _ (wp_cond_f (by kernel_rfl) (xskip (inBlock_n ?_))))))
      obtain ⟨q0, qr0⟩ := Prod.mk.inj (of_some h)
      obtain ⟨q1, qr1⟩ := Prod.mk.inj (qr0)
      obtain ⟨q2, qr2⟩ := Prod.mk.inj (qr1)
      have q3 := qr2
      subst q0
      subst q1
      subst q2
      subst q3
      exact nj _ _ ⟨(hs.conv rfl), exg (by kernel_rfl)⟩
     clear hj hs
     rintro a w ⟨hs, g18, rfl⟩
     refine then_n (ks19 _ _ (xregS [0, 1] fun KR30 kr30 => ?_))
     refine wpS.qs [(0, 38, .int .i64 (iadd .i64 z4 1)), (1, 15, .int .i64 (iadd .i64 z4 1))] ?_
     refine wpS.fin rfl (kr30 _ _ ?_)
     exact then_n (kl0 _ _ ⟨n, Nat.lt_succ_self n, (iadd .i64 z4 1), y7_0, y7_1, y7_2, y7_3, h, (hs.conv rfl), exg (by kernel_rfl)⟩)
    refine wpS.tk 0 false (some 16) (.bool false) (yld_b (df hc) (fun _ => by kernel_rfl)) ?_
    refine wpS.fin rfl (kr16 _ _ (then_n (ks15 _ _ (xseq_k fun KS31 ks31 => (wp_cond_f (by kernel_rfl) (xexit (then_x (then_x (inBlock_hit ?_)))))))))
    obtain ⟨q0, qr0⟩ := Prod.mk.inj (of_some h)
    obtain ⟨q1, qr1⟩ := Prod.mk.inj (qr0)
    obtain ⟨q2, qr2⟩ := Prod.mk.inj (qr1)
    have q3 := qr2
    subst q0
    subst q1
    subst q2
    subst q3
    exact exq_n (nn0 _ _ ⟨(hs.conv rfl), exg (by kernel_rfl)⟩)
  clear hs h hy
  rintro a w ⟨hs, g14, rfl⟩
  have h := hk0
  refine then_n (ks10 _ _ (xseq_k fun KS32 ks32 => (xregS [0, 1] fun KR33 kr33 => ?_)))
  refine wpS.tk 0 true (some 39) (.agg (([.int .i64 y6_0] : List Value) ++ enc .u64 y6_1 ++ ([.int .i64 y6_2, .bool y6_3] : List Value)).toArray) (yld_loadW (e := 50) (n := 28) hs 1 rfl (by kernel_rfl) (by kernel_rfl) (by kernel_rfl) (by simp [enc_len]) .grow) ?_
  refine wpS.only 1 (op_storeW (t := 50) (v := .agg (([.int .i64 y6_0] : List Value) ++ enc .u64 y6_1 ++ ([.int .i64 y6_2, .bool y6_3] : List Value)).toArray) (d := none) (by kernel_rfl) hs 0 rfl (vs := ([.int .i64 y6_0] : List Value) ++ enc .u64 y6_1 ++ ([.int .i64 y6_2, .bool y6_3] : List Value)) (n := 28) (by kernel_rfl) (by kernel_rfl) (by kernel_rfl) (by simp [enc_len]) (by simp [enc_len]) (one_app (one_app (by simp [Value.oneCell']) (fun u hu => enc_one _ _ u hu)) (by simp [Value.oneCell'])) ?_)
  intro w kp hs
  refine ⟨fun _ => trivial, ?_⟩
  refine wpS.fin rfl (kr33 _ _ (then_n (ks32 _ _ (xret ?_))))
  obtain ⟨q0, qr0⟩ := Prod.mk.inj (of_some h)
  obtain ⟨q1, qr1⟩ := Prod.mk.inj (qr0)
  obtain ⟨q2, qr2⟩ := Prod.mk.inj (qr1)
  have q3 := qr2
  subst q0
  subst q1
  subst q2
  subst q3
  exact qq _ _ (post_ret (by kernel_rfl) (run_results [.cell 4 50] [.agg (([.int .i64 y6_0] : List Value) ++ enc .u64 y6_1 ++ ([.int .i64 y6_2, .bool y6_3] : List Value)).toArray] (by kernel_rfl) (.cons (res_cellN (n := 28) hs 0 rfl (by kernel_rfl) (by kernel_rfl) (by kernel_rfl) (by simp [enc_len])) .nil)) ⟨congrArg Ending.returned (by kernel_rfl), hs.none⟩)

theorem slices_Concat_byte_byte.ok {K : Nat} {a0 : List (List Int)} {r0 : List Int} {a0_A : Option Addr} {a0_n : Nat} {a0_c : Nat} {a0_H : List HS} (h : slices_Concat_byte_byte.f K a0 = some r0) (w0 : World) (hp0 : LLP (CI .u8) w0 a0_A a0_n a0_c a0_H a0) : Calls Tryd.prog 56 #[.slice a0_A a0_n a0_c] w0 fun e w' => ∃ h : (Option Addr × Nat × Nat), e = .returned (.slice h.1 h.2.1 h.2.2) ∧ St w0 [] [.ownL (CI .u8) h.1 h.2.1 h.2.2 r0 5] [] w' := by
 refine calls_k Tryd.func56 rfl fun Q qq => ?_
 have hs := St.startR (all_cons (LLP.ent hp0) all_nil)
 refine wp_conv (a' := ⟨#[.slice a0_A a0_n a0_c, undef, undef, undef, undef, undef, undef, undef, undef, undef, undef, undef, undef, undef, undef, undef, undef, undef, undef, undef, undef, undef, undef, undef, undef, undef, undef, undef, undef, undef, undef, undef, undef, undef, undef, undef], []⟩) (by kernel_rfl) ?_
 refine xseq_k fun KS1 ks1 => ?_
 refine xregS [0] fun KR2 kr2 => ?_
 refine wpS.q 0 2 (.slice none 0 0) ?_
 refine wpS.fin rfl (kr2 _ _ (then_n (ks1 _ _ (xseq_k fun KS3 ks3 => (xregS [0] fun KR4 kr4 => ?_)))))
 refine wpS.q 0 3 (.int .i64 0) ?_
 refine wpS.fin rfl (kr4 _ _ (then_n (ks3 _ _ (xseq_k fun KS5 ks5 => (xseq_k fun KS6 ks6 => (xregS [0, 1, 2] fun KR7 kr7 => ?_))))))
 refine wpS.q 0 9 (.slice a0_A a0_n a0_c) ?_
 refine wpS.tk 1 false (some 10) (.int .i64 (a0.length : Int)) (yld_lenLL (hs.rowLL 0 rfl) (fun _ => by kernel_rfl)) ?_
 refine wpS.q 2 11 (.int .i64 0) ?_
 refine wpS.fin rfl (kr7 _ _ (then_n (ks6 _ _ ?_)))
 obtain ⟨y3, hy, hk0⟩ := of_bind h
 refine wp_exq (N := fun a w => St w0 [] [] [.rowLL (CI .u8) a0_A a0_n a0_c a0_H a0] w ∧ ∃ g9 : Nat → Value, a = ⟨#[.slice a0_A a0_n a0_c, undef, .slice none 0 0, .int .i64 y3, undef, (g9 5), undef, undef, undef, .slice a0_A a0_n a0_c, .int .i64 (a0.length : Int), (g9 11), (g9 12), (g9 13), (g9 14), (g9 15), (g9 16), (g9 17), (g9 18), (g9 19), (g9 20), (g9 21), (g9 22), undef, undef, undef, undef, undef, undef, undef, undef, undef, undef, undef, undef, undef], []⟩) (fun N0 nn0 => ?_) ?_
 ·clear hk0
  refine xblock ?_
  refine wp_loop_k (fun n a w => ∃ z1 z2, slices_Concat_byte_byte.l0 K n a0 z1 z2 = some y3 ∧ St w0 [] [] [.rowLL (CI .u8) a0_A a0_n a0_c a0_H a0] w ∧ ∃ g8 : Nat → Value, a = ⟨#[.slice a0_A a0_n a0_c, undef, .slice none 0 0, .int .i64 z1, undef, (g8 5), undef, undef, undef, .slice a0_A a0_n a0_c, .int .i64 (a0.length : Int), .int .i64 z2, (g8 12), (g8 13), (g8 14), (g8 15), (g8 16), (g8 17), (g8 18), (g8 19), (g8 20), (g8 21), (g8 22), undef, undef, undef, undef, undef, undef, undef, undef, undef, undef, undef, undef, undef], []⟩) K ⟨0, 0, hy, hs.conv rfl, exg (by kernel_rfl)⟩ ?_
  clear hs h hy
  rintro n a w ⟨z1, z2, h, hs, g8, rfl⟩ KL0 kl0
  cases n with
  | zero => exact nomatch (show none = some _ from h)
  | succ n =>
   refine xseq_k fun KS10 ks10 => ?_
   refine xregS [0] fun KR11 kr11 => ?_
   rcases of_if h with ⟨hc, h⟩ | ⟨hc, h⟩
   ·refine wpS.tk 0 false (some 12) (.bool true) (yld_b (dt hc) (fun _ => by kernel_rfl)) ?_
    refine wpS.fin rfl (kr11 _ _ (then_n (ks10 _ _ (xseq_k fun KS12 ks12 => (wp_cond_t (by kernel_rfl) (xskip (then_n (ks12 _ _ (xseq_k fun KS13 ks13 => (xblock (xseq_k fun KS14 ks14 => (xregS [0, 1, 2] fun KR15 kr15 => ?_))))))))))))
    obtain ⟨h0, h⟩ := of_chk h
    obtain ⟨h1, h⟩ := of_chk h
    have i0_16 := h0
    have i1_16 := h1
    refine wpS.tk 0 false (some 13) (.pointer (adr a0_A ((z2 : Int).toNat * Cod.size (CI .u8)))) (yld_idxLL (C := (CI .u8)) (t := 55) (e := 22) (k := .i64) (x := z2) (hs.rowLL 0 rfl) (by kernel_rfl) (by kernel_rfl) (by kernel_rfl) h0 h1) ?_
    obtain ⟨s4_A, hA⟩ : ∃ A, A = (rdL CS a0_H z2).1 := ⟨_, rfl⟩
    obtain ⟨s4_n, hn⟩ : ∃ n, n = (rdL CS a0_H z2).2.1 := ⟨_, rfl⟩
    obtain ⟨s4_c, hc⟩ : ∃ c, c = (rdL CS a0_H z2).2.2 := ⟨_, rfl⟩
    refine wpS.tk 1 true (some 14) (.slice s4_A s4_n s4_c) (by subst hA hn hc; exact yld_loadLL (C := (CI .u8)) (e := 22) (x := z2) (hs.rowLL 0 rfl) (by kernel_rfl) (by kernel_rfl) i0_16 i1_16) ?_
    have hs := hs.addInn (C := (CI .u8)) 0 rfl i0_16 i1_16 hA hn hc
    refine wpS.q 2 5 (.slice s4_A s4_n s4_c) ?_
    refine wpS.fin rfl (kr15 _ _ (then_n (ks14 _ _ (xseq_k fun KS17 ks17 => (xregS [0, 1, 2, 3, 4] fun KR18 kr18 => ?_)))))
    refine wpS.qs [(0, 15, .int .i64 z1), (1, 16, .slice s4_A s4_n s4_c)] ?_
    refine wpS.tk 2 false (some 17) (.int .i64 ((rdLL a0 z2).length : Int)) (yld_lenL (hs.rowR 0 rfl) (fun _ => by kernel_rfl)) ?_
    refine wpS.q 3 18 (.int .i64 (iadd .i64 z1 ((rdLL a0 z2).length : Int))) ?_
    obtain ⟨x5, hx, h⟩ := of_bind h
    refine wpS.tk 4 false (some 3) (.int .i64 x5) (yld_int hx (fun _ => by kernel_rfl)) ?_
    refine wpS.fin rfl (kr18 _ _ (then_n (ks17 _ _ (xseq_k fun KS19 ks19 => (xregS [0, 1] fun KR20 kr20 => ?_)))))
    refine wpS.q 0 19 (.int .i64 x5) ?_
    rcases of_if h with ⟨hc, h⟩ | ⟨hc, h⟩
    ·refine wpS.tk 1 false (some 20) (.bool true) (yld_b (dt hc) (fun _ => by kernel_rfl)) ?_
     refine wpS.fin rfl (kr20 _ _ (then_n (ks19 _ _ (wp_cond_t (by kernel_rfl) (xregS [0, 1] fun KR21 kr21 => ?_)))))
     exact nomatch (show none = some _ from h)
    refine wpS.tk 1 false (some 20) (.bool false) (yld_b (df hc) (fun _ => by kernel_rfl)) ?_
    refine wpS.fin rfl (kr20 _ _ (then_n (ks19 _ _ (wp_cond_f (by kernel_rfl) (xskip (inBlock_n (then_n (ks13 _ _ (xregS [0, 1] fun KR22 kr22 => ?_)))))))))
    refine wpS.qs [(0, 22, .int .i64 (iadd .i64 z2 1)), (1, 11, .int .i64 (iadd .i64 z2 1))] ?_
    refine wpS.fin rfl (kr22 _ _ ?_)
    exact then_n (kl0 _ _ ⟨n, Nat.lt_succ_self n, x5, (iadd .i64 z2 1), h, (hs.pickR (pick_cons 1 rfl pick_nil)), exg (by kernel_rfl)⟩)
   refine wpS.tk 0 false (some 12) (.bool false) (yld_b (df hc) (fun _ => by kernel_rfl)) ?_
   refine wpS.fin rfl (kr11 _ _ (then_n (ks10 _ _ (xseq_k fun KS23 ks23 => (wp_cond_f (by kernel_rfl) (xexit (then_x (then_x (inBlock_hit ?_)))))))))
   have q0 := of_some h
   subst q0
   exact exq_n (nn0 _ _ ⟨(hs.conv rfl), exg (by kernel_rfl)⟩)
 clear hs h hy
 rintro a w ⟨hs, g9, rfl⟩
 have h := hk0
 refine then_n (ks5 _ _ (xseq_k fun KS24 ks24 => (xregS [0, 1, 2] fun KR25 kr25 => ?_)))
 refine wpS.q 0 23 (.int .i64 y3) ?_
 refine wpS.only 1 (op_inline (d := (some 24)) (f := 66) (args := #[.slice none 0 0, .int .i64 y3]) (by kernel_rfl) (fun _ => by kernel_rfl) fun R26 kI26 => ?_)
 refine calls_k Tryd.func66 rfl fun Q26 qq26 => ?_
 refine wp_conv (a' := ⟨#[.slice none 0 0, .int .i64 y3, undef, undef, undef, undef, undef, undef, undef, undef, undef, undef, undef, undef, undef, undef, undef, undef, undef, undef, undef, undef, undef, undef, undef, undef, undef], []⟩) (by kernel_rfl) ?_
 refine xseq_k fun KS27 ks27 => ?_
 refine xregS [0] fun KR28 kr28 => ?_
 refine wpS.q 0 4 (.slice none 0 0) ?_
 refine wpS.fin rfl (kr28 _ _ (then_n (ks27 _ _ (xseq_k fun KS29 ks29 => (xseq_k fun KS30 ks30 => (xregS [0, 1] fun KR31 kr31 => ?_))))))
 refine wpS.q 0 5 (.int .i64 y3) ?_
 rcases of_if h with ⟨hc, h⟩ | ⟨hc, h⟩
 ·refine wpS.tk 1 false (some 6) (.bool true) (yld_b (dt hc) (fun _ => by kernel_rfl)) ?_
  refine wpS.fin rfl (kr31 _ _ (then_n (ks30 _ _ (wp_cond_t (by kernel_rfl) (xregS [0, 1] fun KR32 kr32 => ?_)))))
  exact nomatch (show none = some _ from h)
 refine wpS.tk 1 false (some 6) (.bool false) (yld_b (df hc) (fun _ => by kernel_rfl)) ?_
 refine wpS.fin rfl (kr31 _ _ (then_n (ks30 _ _ (wp_cond_f (by kernel_rfl) (xskip (then_n (ks29 _ _ ?_)))))))
 obtain ⟨y6, hj, h⟩ := of_bind h
 refine xseq_k fun KS34 ks34 => wp_join (N := fun a w => ∃ (y6_A : Option Addr) (y6_n : Nat) (y6_c : Nat), St w0 [] [.ownL (CI .u8) y6_A y6_n y6_c y6 5] [.rowLL (CI .u8) a0_A a0_n a0_c a0_H a0] w ∧ ∃ g33 : Nat → Value, a = ⟨#[.slice y6_A y6_n y6_c, (g33 1), undef, undef, .slice none 0 0, .int .i64 y3, .bool false, undef, (g33 8), (g33 9), (g33 10), (g33 11), (g33 12), (g33 13), (g33 14), (g33 15), (g33 16), (g33 17), (g33 18), (g33 19), (g33 20), (g33 21), (g33 22), (g33 23), (g33 24), (g33 25), undef], []⟩) (fun N nj => ?_) ?_
 ·clear h
  have h := hj
  refine xseq_k fun KS35 ks35 => ?_
  refine xregS [0, 1, 2, 3, 4, 5, 6, 7] fun KR36 kr36 => ?_
  refine wpS.qs [(0, 8, .int .i64 y3), (1, 9, .slice none 0 0), (2, 10, .int .i64 0), (3, 11, .slice none 0 0), (4, 12, .int .i64 0), (5, 13, .int .i64 0), (6, 14, .int .i64 (isub .i64 y3 0))] ?_
  obtain ⟨x7, hx, h⟩ := of_bind h
  refine wpS.tk 7 false (some 1) (.int .i64 x7) (yld_int hx (fun _ => by kernel_rfl)) ?_
  refine wpS.fin rfl (kr36 _ _ (then_n (ks35 _ _ (xseq_k fun KS37 ks37 => (xregS [0, 1] fun KR38 kr38 => ?_)))))
  refine wpS.q 0 15 (.int .i64 x7) ?_
  rcases of_if h with ⟨hc, h⟩ | ⟨hc, h⟩
  ·refine wpS.tk 1 false (some 16) (.bool true) (yld_b (dt hc) (fun _ => by kernel_rfl)) ?_
   refine wpS.fin rfl (kr38 _ _ (then_n (ks37 _ _ (wp_cond_t (by kernel_rfl) (xregS [0, 1, 2, 3, 4, 5, 6, 7, 8, 9] fun KR39 kr39 => ?_)))))
   refine wpS.qs [(0, 17, .slice none 0 0), (1, 18, .slice none 0 0), (2, 19, .int .i64 0), (3, 20, .slice none 0 0), (4, 21, .int .i64 x7)] ?_
   obtain ⟨h0, h⟩ := of_chk h
   obtain ⟨h1, h⟩ := of_chk h
   refine wpS.only 5 (op_appendZ0 (C := (CI .u8)) (t := 22) (tn := 3) (ty := 22) (e := 5) (bytes := 1) (B := 140737488355328) (kn := .i64) (kq := .i64) (x := x7) (d := (some 22)) (by kernel_rfl) hs (by kernel_rfl) (by kernel_rfl) (by kernel_rfl) (by kernel_rfl) (by kernel_rfl) (by kernel_rfl) h0 h1 (by decide) (by decide) ?_)
   intro s8_A s8_n s8_c w gw hs
   refine ⟨fun _ => trivial, ?_⟩
   refine wpS.qs [(6, 23, .slice none 0 0), (7, 24, .int .i64 0)] ?_
   obtain ⟨h0, h⟩ := of_chk h
   obtain ⟨h1, h⟩ := of_chk h
   refine wpS.tk 8 false (some 25) (.slice s8_A (0 : Int).toNat s8_c) (yld_pre (C := (CI .u8)) (t := 22) (e := 5) (k := .i64) (hi := 0) (hs.rowL 0 rfl) (by kernel_rfl) (by kernel_rfl) (by kernel_rfl) h0 h1) ?_
   have hs := hs.preOwn 0 rfl h0 h1
   refine wpS.q 9 0 (.slice s8_A (0 : Int).toNat s8_c) ?_
   refine wpS.fin rfl (kr39 _ _ ?_)
   have q0 := of_some h
   subst q0
   exact nj _ _ ⟨s8_A, (0 : Int).toNat, s8_c, (hs.conv rfl), exg (by kernel_rfl)⟩
  refine wpS.tk 1 false (some 16) (.bool false) (yld_b (df hc) (fun _ => by kernel_rfl)) ?_
  refine wpS.fin rfl (kr38 _ _ (then_n (ks37 _ _ (wp_cond_f (by kernel_rfl) (xskip ?_)))))
  have q0 := of_some h
  subst q0
  have hs := hs.addNilL (CI .u8) 5
  exact nj _ _ ⟨none, 0, 0, (hs.conv rfl), exg (by kernel_rfl)⟩
 clear hj hs
 rintro a w ⟨y6_A, y6_n, y6_c, hs, g33, rfl⟩
 refine then_n (ks34 _ _ (xseq_k fun KS40 ks40 => (xregS [0, 1] fun KR41 kr41 => ?_)))
 refine wpS.qs [(0, 26, .slice y6_A y6_n y6_c), (1, 4, .slice y6_A y6_n y6_c)] ?_
 refine wpS.fin rfl (kr41 _ _ (then_n (ks40 _ _ (xret ?_))))
 refine qq26 _ _ (post_ret (by kernel_rfl) (run_results [.tmp 4] [.slice y6_A y6_n y6_c] (by kernel_rfl) (.cons (res_tmp (by kernel_rfl)) .nil)) ?_)
 refine kI26 _ _ ?_
 refine ⟨fun _ => trivial, ?_⟩
 refine wpS.q 2 6 (.slice y6_A y6_n y6_c) ?_
 refine wpS.fin rfl (kr25 _ _ (then_n (ks24 _ _ (xseq_k fun KS42 ks42 => (xseq_k fun KS43 ks43 => (xregS [0, 1, 2] fun KR44 kr44 => ?_))))))
 refine wpS.q 0 25 (.slice a0_A a0_n a0_c) ?_
 refine wpS.tk 1 false (some 26) (.int .i64 (a0.length : Int)) (yld_lenLL (hs.rowLL 0 rfl) (fun _ => by kernel_rfl)) ?_
 refine wpS.q 2 27 (.int .i64 0) ?_
 refine wpS.fin rfl (kr44 _ _ (then_n (ks43 _ _ ?_)))
 obtain ⟨y11, hy, hk1⟩ := of_bind h
 refine wp_exq (N := fun a w => ∃ (y11_A : Option Addr) (y11_n : Nat) (y11_c : Nat), St w0 [] [.ownL (CI .u8) y11_A y11_n y11_c y11 5] [.rowLL (CI .u8) a0_A a0_n a0_c a0_H a0] w ∧ ∃ g46 : Nat → Value, a = ⟨#[.slice a0_A a0_n a0_c, undef, .slice none 0 0, .int .i64 y3, undef, (g9 5), .slice y11_A y11_n y11_c, undef, (g46 8), .slice a0_A a0_n a0_c, .int .i64 (a0.length : Int), (g9 11), (g9 12), (g9 13), (g9 14), (g9 15), (g9 16), (g9 17), (g9 18), (g9 19), (g9 20), (g9 21), (g9 22), .int .i64 y3, .slice y6_A y6_n y6_c, .slice a0_A a0_n a0_c, .int .i64 (a0.length : Int), (g46 27), (g46 28), (g46 29), (g46 30), (g46 31), (g46 32), (g46 33), (g46 34), undef], []⟩) (fun N1 nn1 => ?_) ?_
 ·clear hk1
  refine xblock ?_
  refine wp_loop_k (fun n a w => ∃ z9 z10, ∃ (z10_A : Option Addr) (z10_n : Nat) (z10_c : Nat), slices_Concat_byte_byte.l1 K n a0 z9 z10 = some y11 ∧ St w0 [] [.ownL (CI .u8) z10_A z10_n z10_c z10 5] [.rowLL (CI .u8) a0_A a0_n a0_c a0_H a0] w ∧ ∃ g45 : Nat → Value, a = ⟨#[.slice a0_A a0_n a0_c, undef, .slice none 0 0, .int .i64 y3, undef, (g9 5), .slice z10_A z10_n z10_c, undef, (g45 8), .slice a0_A a0_n a0_c, .int .i64 (a0.length : Int), (g9 11), (g9 12), (g9 13), (g9 14), (g9 15), (g9 16), (g9 17), (g9 18), (g9 19), (g9 20), (g9 21), (g9 22), .int .i64 y3, .slice y6_A y6_n y6_c, .slice a0_A a0_n a0_c, .int .i64 (a0.length : Int), .int .i64 z9, (g45 28), (g45 29), (g45 30), (g45 31), (g45 32), (g45 33), (g45 34), undef], []⟩) K ⟨0, y6, y6_A, y6_n, y6_c, hy, hs.conv rfl, exg (by kernel_rfl)⟩ ?_
  clear hs h hy
  rintro n a w ⟨z9, z10, z10_A, z10_n, z10_c, h, hs, g45, rfl⟩ KL1 kl1
  cases n with
  | zero => exact nomatch (show none = some _ from h)
  | succ n =>
   refine xseq_k fun KS47 ks47 => ?_
   refine xregS [0] fun KR48 kr48 => ?_
   rcases of_if h with ⟨hc, h⟩ | ⟨hc, h⟩
   ·refine wpS.tk 0 false (some 28) (.bool true) (yld_b (dt hc) (fun _ => by kernel_rfl)) ?_
    refine wpS.fin rfl (kr48 _ _ (then_n (ks47 _ _ (xseq_k fun KS49 ks49 => (wp_cond_t (by kernel_rfl) (xskip (then_n (ks49 _ _ (xseq_k fun KS50 ks50 => (xblock (xseq_k fun KS51 ks51 => (xregS [0, 1, 2] fun KR52 kr52 => ?_))))))))))))
    obtain ⟨h0, h⟩ := of_chk h
    obtain ⟨h1, h⟩ := of_chk h
    have i0_53 := h0
    have i1_53 := h1
    refine wpS.tk 0 false (some 29) (.pointer (adr a0_A ((z9 : Int).toNat * Cod.size (CI .u8)))) (yld_idxLL (C := (CI .u8)) (t := 55) (e := 22) (k := .i64) (x := z9) (hs.rowLL 0 rfl) (by kernel_rfl) (by kernel_rfl) (by kernel_rfl) h0 h1) ?_
    obtain ⟨s12_A, hA⟩ : ∃ A, A = (rdL CS a0_H z9).1 := ⟨_, rfl⟩
    obtain ⟨s12_n, hn⟩ : ∃ n, n = (rdL CS a0_H z9).2.1 := ⟨_, rfl⟩
    obtain ⟨s12_c, hc⟩ : ∃ c, c = (rdL CS a0_H z9).2.2 := ⟨_, rfl⟩
    refine wpS.tk 1 true (some 30) (.slice s12_A s12_n s12_c) (by subst hA hn hc; exact yld_loadLL (C := (CI .u8)) (e := 22) (x := z9) (hs.rowLL 0 rfl) (by kernel_rfl) (by kernel_rfl) i0_53 i1_53) ?_
    have hs := hs.addInn (C := (CI .u8)) 0 rfl i0_53 i1_53 hA hn hc
    refine wpS.q 2 8 (.slice s12_A s12_n s12_c) ?_
    refine wpS.fin rfl (kr52 _ _ (then_n (ks51 _ _ (xregS [0, 1, 2, 3] fun KR54 kr54 => ?_))))
    refine wpS.qs [(0, 31, .slice z10_A z10_n z10_c), (1, 32, .slice s12_A s12_n s12_c)] ?_
    obtain ⟨h0, h⟩ := of_chk h
    refine wpS.only 2 (op_appendT (C := (CI .u8)) (t := 22) (ty := 22) (e := 5) (bytes := 1) (B := 140737488355328) (d := (some 33)) (by kernel_rfl) hs 0 rfl (hs.rowR 0 rfl) (by kernel_rfl) (by kernel_rfl) (by kernel_rfl) (by kernel_rfl) (by kernel_rfl) h0 (by decide) (by decide) ?_)
    intro s13_A s13_n s13_c w hs
    refine ⟨fun _ => trivial, ?_⟩
    refine wpS.q 3 6 (.slice s13_A s13_n s13_c) ?_
    refine wpS.fin rfl (kr54 _ _ (inBlock_n (then_n (ks50 _ _ (xregS [0, 1] fun KR55 kr55 => ?_)))))
    refine wpS.qs [(0, 34, .int .i64 (iadd .i64 z9 1)), (1, 27, .int .i64 (iadd .i64 z9 1))] ?_
    refine wpS.fin rfl (kr55 _ _ ?_)
    exact then_n (kl1 _ _ ⟨n, Nat.lt_succ_self n, (iadd .i64 z9 1), (z10 ++ (rdLL a0 z9)), s13_A, s13_n, s13_c, h, (hs.pickR (pick_cons 1 rfl pick_nil)), exg (by kernel_rfl)⟩)
   refine wpS.tk 0 false (some 28) (.bool false) (yld_b (df hc) (fun _ => by kernel_rfl)) ?_
   refine wpS.fin rfl (kr48 _ _ (then_n (ks47 _ _ (xseq_k fun KS56 ks56 => (wp_cond_f (by kernel_rfl) (xexit (then_x (then_x (inBlock_hit ?_)))))))))
   have q0 := of_some h
   subst q0
   exact exq_n (nn1 _ _ ⟨z10_A, z10_n, z10_c, (hs.conv rfl), exg (by kernel_rfl)⟩)
 clear hs h hy
 rintro a w ⟨y11_A, y11_n, y11_c, hs, g46, rfl⟩
 have h := hk1
 refine then_n (ks42 _ _ (xseq_k fun KS57 ks57 => (xregS [0, 1] fun KR58 kr58 => ?_)))
 refine wpS.qs [(0, 35, .slice y11_A y11_n y11_c), (1, 2, .slice y11_A y11_n y11_c)] ?_
 refine wpS.fin rfl (kr58 _ _ (then_n (ks57 _ _ (xret ?_))))
 have q0 := of_some h
 subst q0
 exact qq _ _ (post_ret (by kernel_rfl) (run_results [.tmp 2] [.slice y11_A y11_n y11_c] (by kernel_rfl) (.cons (res_tmp (by kernel_rfl)) .nil)) ⟨⟨y11_A, y11_n, y11_c⟩, congrArg Ending.returned (by kernel_rfl), (hs.pickR pick_nil)⟩)

theorem bits_Join.ok {K : Nat} {a0 : List (List Int)} {r0 : List Int} {a0_A : Option Addr} {a0_n : Nat} {a0_c : Nat} {a0_H : List HS} (h : bits_Join.f K a0 = some r0) (w0 : World) (hp0 : LLP (CI .u8) w0 a0_A a0_n a0_c a0_H a0) : Calls Tryd.prog 35 #[.slice a0_A a0_n a0_c] w0 fun e w' => ∃ h : (Option Addr × Nat × Nat), e = .returned (.slice h.1 h.2.1 h.2.2) ∧ St w0 [] [.ownL (CI .u8) h.1 h.2.1 h.2.2 r0 5] [] w' := by
 refine calls_k Tryd.func35 rfl fun Q qq => ?_
 have hs := St.startR (all_cons (LLP.ent hp0) all_nil)
 refine wp_conv (a' := ⟨#[.slice a0_A a0_n a0_c, undef, undef, undef, undef], []⟩) (by kernel_rfl) ?_
 refine xseq_k fun KS1 ks1 => ?_
 refine xregS [0] fun KR2 kr2 => ?_
 refine wpS.q 0 2 (.slice none 0 0) ?_
 refine wpS.fin rfl (kr2 _ _ (then_n (ks1 _ _ (xseq_k fun KS3 ks3 => (xregS [0, 1, 2] fun KR4 kr4 => ?_)))))
 refine wpS.q 0 3 (.slice a0_A a0_n a0_c) ?_
 obtain ⟨r1, hg, h⟩ := of_bind h
 refine wpS.only 1 (op_callH (d := (some 4)) (by kernel_rfl) hs (fun _ => by kernel_rfl) (slices_Concat_byte_byte.ok hg _ (hs.rowLL 0 rfl)) ?_)
 rintro ⟨r1_A, r1_n, r1_c⟩ w gw hs
 have hs := hs.conv (L' := [.ownL (CI .u8) r1_A r1_n r1_c r1 5]) rfl
 refine ⟨fun _ => trivial, ?_⟩
 refine wpS.q 2 2 (.slice r1_A r1_n r1_c) ?_
 refine wpS.fin rfl (kr4 _ _ (then_n (ks3 _ _ (xret ?_))))
 have q0 := of_some h
 subst q0
 exact qq _ _ (post_ret (by kernel_rfl) (run_results [.tmp 2] [.slice r1_A r1_n r1_c] (by kernel_rfl) (.cons (res_tmp (by kernel_rfl)) .nil)) ⟨⟨r1_A, r1_n, r1_c⟩, congrArg Ending.returned (by kernel_rfl), (hs.pickR pick_nil)⟩)

theorem dsamp_sponge.ok {K : Nat} {a0 : Int} {a1 : List (List Int)} {r0_0 : Int} {r0_1 : Arr 25} {r0_2 : Int} {r0_3 : Bool} {a1_A : Option Addr} {a1_n : Nat} {a1_c : Nat} {a1_H : List HS} (h : dsamp_sponge.f K a0 a1 = some (r0_0, r0_1, r0_2, r0_3)) (w0 : World) (hp1 : LLP (CI .u8) w0 a1_A a1_n a1_c a1_H a1) (hg0 : RowL (CA .u64 24 (by decide)) w0 (some ⟨0, 0, none⟩) 1 1 [tab_0]) (hg1 : RowL (CA .i64 24 (by decide)) w0 (some ⟨1, 0, none⟩) 1 1 [tab_1]) (hg2 : RowL (CA .i64 24 (by decide)) w0 (some ⟨2, 0, none⟩) 1 1 [tab_2]) : Ret Tryd.prog 17 #[.int .i64 a0, .slice a1_A a1_n a1_c] w0 (.agg (([.int .i64 r0_0] : List Value) ++ enc .u64 r0_1 ++ ([.int .i64 r0_2, .bool r0_3] : List Value)).toArray) := by
 refine calls_k Tryd.func17 rfl fun Q qq => ?_
 have hs := St.startR (all_cons (LLP.ent hp1) (all_cons (RowP.ent hg0) (all_cons (RowP.ent hg1) (all_cons (RowP.ent hg2) all_nil))))
 refine wp_conv (a' := ⟨#[.int .i64 a0, .slice a1_A a1_n a1_c, undef, undef, undef, undef, undef, undef, undef, undef, undef, undef, undef, undef, undef, undef], []⟩) (by kernel_rfl) ?_
 refine xseq_k fun KS1 ks1 => ?_
 refine xregS [0] fun KR2 kr2 => ?_
 refine wpS.only 0 (op_alloc (t := 50) (d := (some 4)) (by kernel_rfl) hs (([.int .i64 0] : List Value) ++ enc .u64 (zeroA 25) ++ ([.int .i64 0, .bool false] : List Value)) (.agg (([.int .i64 0] : List Value) ++ enc .u64 (zeroA 25) ++ ([.int .i64 0, .bool false] : List Value)).toArray) (by kernel_rfl) (by kernel_rfl) (by kernel_rfl) ?_)
 intro b1 w gw hs
 refine ⟨fun _ => trivial, ?_⟩
 refine wpS.fin rfl (kr2 _ _ (then_n (ks1 _ _ (xseq_k fun KS3 ks3 => (xregS [0, 1, 2, 3, 4, 5, 6, 7] fun KR4 kr4 => ?_)))))
 refine wpS.q 0 8 (.int .i64 a0) ?_
 obtain ⟨⟨r2_0, r2_1, r2_2, r2_3, r3⟩, hg, h⟩ := of_bind h
 refine wpS.only 1 (op_call (d := (some 9)) (by kernel_rfl) hs (fun _ => by kernel_rfl) (keccak_New.ok hg _) ?_)
 intro w gw hs
 refine ⟨fun _ => trivial, ?_⟩
 refine wpS.qs [(2, 7, .tuple #[.agg (([.int .i64 r2_0] : List Value) ++ enc .u64 r2_1 ++ ([.int .i64 r2_2, .bool r2_3] : List Value)).toArray, .int .i64 r3]), (3, 10, .agg (([.int .i64 r2_0] : List Value) ++ enc .u64 r2_1 ++ ([.int .i64 r2_2, .bool r2_3] : List Value)).toArray), (4, 11, .int .i64 r3)] ?_
 refine wpS.only 5 (op_alloc (t := 50) (d := (some 5)) (by kernel_rfl) hs (([.int .i64 0] : List Value) ++ enc .u64 (zeroA 25) ++ ([.int .i64 0, .bool false] : List Value)) (.agg (([.int .i64 0] : List Value) ++ enc .u64 (zeroA 25) ++ ([.int .i64 0, .bool false] : List Value)).toArray) (by kernel_rfl) (by kernel_rfl) (by kernel_rfl) ?_)
 intro b4 w gw hs
 refine ⟨fun _ => trivial, ?_⟩
 refine wpS.only 6 (op_storeW (t := 50) (v := .agg (([.int .i64 r2_0] : List Value) ++ enc .u64 r2_1 ++ ([.int .i64 r2_2, .bool r2_3] : List Value)).toArray) (d := none) (by kernel_rfl) hs 0 rfl (vs := ([.int .i64 r2_0] : List Value) ++ enc .u64 r2_1 ++ ([.int .i64 r2_2, .bool r2_3] : List Value)) (n := 28) (by kernel_rfl) (by kernel_rfl) (by kernel_rfl) (by simp [enc_len]) (by simp [enc_len]) (one_app (one_app (by simp [Value.oneCell']) (fun u hu => enc_one _ _ u hu)) (by simp [Value.oneCell'])) ?_)
 intro w kp hs
 refine ⟨fun _ => trivial, ?_⟩
 refine wpS.q 7 6 (.int .i64 r3) ?_
 refine wpS.fin rfl (kr4 _ _ (then_n (ks3 _ _ (xseq_k fun KS5 ks5 => ?_))))
 refine wp_regG [4] (fun k => True) 5 (by kernel_rfl) (by kernel_rfl) (by kernel_rfl) fun KR6 kr6 => ?_
 have hs := hs.drawn1
 refine wpG.tD 0 true (some 12) (.agg (([.int .i64 r2_0] : List Value) ++ enc .u64 r2_1 ++ ([.int .i64 r2_2, .bool r2_3] : List Value)).toArray) (yld_loadW (e := 50) (n := 28) hs 0 rfl (by kernel_rfl) (by kernel_rfl) (by kernel_rfl) (by simp [enc_len]) .grow) ?_
 refine wpG.q 1 13 (.slice a1_A a1_n a1_c) ?_
 obtain ⟨r5, hg, h⟩ := of_bind h
 refine wpG.only 2 (by kernel_rfl) (op_callH (d := (some 14)) (by kernel_rfl) hs (fun _ => by kernel_rfl) (bits_Join.ok hg _ (hs.rowLL 0 rfl)) ?_)
 rintro ⟨r5_A, r5_n, r5_c⟩ w gw hs
 have hs := hs.conv (L' := [.ownL (CI .u8) r5_A r5_n r5_c r5 5, .blk b4 (([.int .i64 r2_0] : List Value) ++ enc .u64 r2_1 ++ ([.int .i64 r2_2, .bool r2_3] : List Value)) 50, .blk b1 (([.int .i64 0] : List Value) ++ enc .u64 (zeroA 25) ++ ([.int .i64 0, .bool false] : List Value)) 50]) rfl
 refine ⟨.of gw, ?_⟩
 obtain ⟨⟨r6_0, r6_1, r6_2, r6_3⟩, hg, h⟩ := of_bind h
 refine wpG.only 3 (by kernel_rfl) (op_call (d := (some 15)) (by kernel_rfl) hs (fun _ => by kernel_rfl) (keccak_Absorb.ok hg _ (hs.rowL 0 rfl) (hs.rowR 1 rfl) (hs.rowR 2 rfl) (hs.rowR 3 rfl)) ?_)
 intro w gw hs
 refine ⟨.of gw, ?_⟩
 refine wpG.only 4 (by kernel_rfl) (op_storeW (t := 50) (v := .agg (([.int .i64 r6_0] : List Value) ++ enc .u64 r6_1 ++ ([.int .i64 r6_2, .bool r6_3] : List Value)).toArray) (d := none) (by kernel_rfl) hs 2 rfl (vs := ([.int .i64 r6_0] : List Value) ++ enc .u64 r6_1 ++ ([.int .i64 r6_2, .bool r6_3] : List Value)) (n := 28) (by kernel_rfl) (by kernel_rfl) (by kernel_rfl) (by simp [enc_len]) (by simp [enc_len]) (one_app (one_app (by simp [Value.oneCell']) (fun u hu => enc_one _ _ u hu)) (by simp [Value.oneCell'])) ?_)
 intro w kp hs
 refine ⟨⟨fun hf => absurd hf (by decide), .all _ _⟩, ?_⟩
 refine wpG.fin (by kernel_rfl) rfl (kr6 _ _ ?_)
 refine then_n (ks5 _ _ (xret ?_))
 obtain ⟨q0, qr0⟩ := Prod.mk.inj (of_some h)
 obtain ⟨q1, qr1⟩ := Prod.mk.inj (qr0)
 obtain ⟨q2, qr2⟩ := Prod.mk.inj (qr1)
 have q3 := qr2
 subst q0
 subst q1
 subst q2
 subst q3
 exact qq _ _ (post_ret (by kernel_rfl) (run_results [.cell 4 50] [.agg (([.int .i64 r6_0] : List Value) ++ enc .u64 r6_1 ++ ([.int .i64 r6_2, .bool r6_3] : List Value)).toArray] (by kernel_rfl) (.cons (res_cellN (n := 28) hs 2 rfl (by kernel_rfl) (by kernel_rfl) (by kernel_rfl) (by simp [enc_len])) .nil)) ⟨congrArg Ending.returned (by kernel_rfl), hs.none⟩)

theorem dsamp_filler_put.ok {K : Nat} {a0_0 : Arr 256} {a0_1 : Int} {a1 : Int} {r0 : Bool} {rp_0 : Arr 256} {rp_1 : Int} {p0 : Nat} (h : dsamp_filler_put.f K a0_0 a0_1 a1 = some (r0, rp_0, rp_1)) (w0 : World) (hb : w0.heap[p0]? = some (.cells (([] : List Value) ++ enc .i32 a0_0 ++ ([.int .i64 a0_1] : List Value)).toArray 43 (0, 0))) : Calls Tryd.prog 18 #[.pointer (some ⟨p0, 0, none⟩), .int .i32 a1] w0 fun e w' => e = .returned (.bool r0) ∧ St w0 [p0] [.blk p0 (([] : List Value) ++ enc .i32 rp_0 ++ ([.int .i64 rp_1] : List Value)) 43] [] w' := by
 refine calls_k Tryd.func18 rfl fun Q qq => ?_
 have hs := St.startX hb allX_nil
 refine wp_conv (a' := ⟨#[.pointer (some ⟨p0, 0, none⟩), .int .i32 a1, undef, undef, undef, undef, undef, undef, undef, undef, undef, undef, undef, undef, undef, undef, undef, undef, undef, undef, undef, undef, undef, undef, undef, undef, undef, undef], []⟩) (by kernel_rfl) ?_
 refine xseq_k fun KS1 ks1 => ?_
 refine xregS [0] fun KR2 kr2 => ?_
 refine wpS.q 0 4 (.bool false) ?_
 refine wpS.fin rfl (kr2 _ _ (then_n (ks1 _ _ (xseq_k fun KS3 ks3 => ?_))))
 refine wp_regG [11] (fun k => True) 12 (by kernel_rfl) (by kernel_rfl) (by kernel_rfl) fun KR4 kr4 => ?_
 have hs := hs.drawn1
 refine wpG.q 0 5 (.pointer (some ⟨p0, 0, none⟩)) ?_
 refine wpG.q 1 6 (.pointer (some ⟨p0, 0, none⟩)) ?_
 refine wpG.q 2 7 (.pointer (some ⟨p0, 0, none⟩)) ?_
 refine wpG.q 3 8 (.pointer (some ⟨p0, 256, none⟩)) ?_
 refine wpG.tD 4 true (some 9) (.int .i64 a0_1) (yld_load1 (e := 3) (o := 256) hs 0 rfl (by kernel_rfl) (by kernel_rfl) (get_post 0 rfl rfl) .grow) ?_
 refine wpG.q 5 10 (.int .i32 a1) ?_
 refine wpG.q 6 11 (.int .i32 (iadd .i32 a1 8380417)) ?_
 refine wpG.q 7 12 (.int .i32 (irem .i32 (iadd .i32 a1 8380417) 8380417)) ?_
 refine wpG.q 8 13 (.pointer (some ⟨p0, 0, none⟩)) ?_
 refine wpG.q 9 14 (.pointer (some ⟨p0, 0, none⟩)) ?_
 obtain ⟨i0_5, h⟩ := of_chk h
 obtain ⟨i1_5, h⟩ := of_chk h
 refine wpG.tD 10 false (some 15) (.pointer (some ⟨p0, 0 + (a0_1 : Int).toNat * 1, none⟩)) (yld_idx (t := 26) (e := 21) (n := 256) (sz := 1) (k := .i64) (x := a0_1) (by kernel_rfl) (by kernel_rfl) (by kernel_rfl) i0_5 i1_5) ?_
 obtain ⟨x1, hx, h⟩ := of_bind h
 refine wpG.only 11 (by kernel_rfl) (op_storeP (m := 0) (t := 21) (x := a0_1) (v := x1) (d := none) (by kernel_rfl) hs 0 rfl (by cases hx; kernel_rfl) (by kernel_rfl) i0_5 i1_5 (by simp [enc_len]) ?_)
 intro w kp hs
 refine ⟨⟨fun hf => absurd hf (by decide), .all _ _⟩, ?_⟩
 refine wpG.fin (by kernel_rfl) rfl (kr4 _ _ ?_)
 refine then_n (ks3 _ _ (xseq_k fun KS6 ks6 => (xregS [0, 1, 2, 3, 4, 5, 6, 7] fun KR7 kr7 => ?_)))
 refine wpS.qs [(0, 16, .pointer (some ⟨p0, 0, none⟩)), (1, 17, .pointer (some ⟨p0, 0, none⟩)), (2, 18, .pointer (some ⟨p0, 256, none⟩))] ?_
 refine wpS.tk 3 true (some 19) (.int .i64 a0_1) (yld_load1 (e := 3) (o := 256) hs 0 rfl (by kernel_rfl) (by kernel_rfl) (get_post 0 rfl rfl) .grow) ?_
 refine wpS.qs [(4, 20, .int .i64 (iadd .i64 a0_1 1)), (5, 21, .pointer (some ⟨p0, 0, none⟩)), (6, 22, .pointer (some ⟨p0, 256, none⟩))] ?_
 obtain ⟨x2, hx, h⟩ := of_bind h
 refine wpS.only 7 (op_storeQ (t := 3) (o := 256) (v := .int .i64 x2) (d := none) (by kernel_rfl) hs 0 rfl (by cases hx; kernel_rfl) rfl (by kernel_rfl) (by simp [enc_len]) (set_post 0 rfl) ?_)
 intro w kp hs
 try dsimp only [List.set] at hs
 refine ⟨fun _ => trivial, ?_⟩
 refine wpS.fin rfl (kr7 _ _ (then_n (ks6 _ _ (xseq_k fun KS8 ks8 => (xregS [0, 1, 2, 3, 4, 5] fun KR9 kr9 => ?_)))))
 refine wpS.qs [(0, 23, .pointer (some ⟨p0, 0, none⟩)), (1, 24, .pointer (some ⟨p0, 0, none⟩)), (2, 25, .pointer (some ⟨p0, 256, none⟩))] ?_
 refine wpS.tk 3 true (some 26) (.int .i64 x2) (yld_load1 (e := 3) (o := 256) hs 0 rfl (by kernel_rfl) (by kernel_rfl) (get_post 0 rfl rfl) .grow) ?_
 refine wpS.qs [(4, 27, .bool (decide (x2 < 256))), (5, 4, .bool (decide (x2 < 256)))] ?_
 refine wpS.fin rfl (kr9 _ _ (then_n (ks8 _ _ (xret ?_))))
 obtain ⟨q0, qr0⟩ := Prod.mk.inj (of_some h)
 obtain ⟨q1, qr1⟩ := Prod.mk.inj (qr0)
 have q2 := qr1
 subst q0
 subst q1
 subst q2
 exact qq _ _ (post_ret (by kernel_rfl) (run_results [.tmp 4] [.bool (decide (x2 < 256))] (by kernel_rfl) (.cons (res_tmp (by kernel_rfl)) .nil)) ⟨congrArg Ending.returned (by kernel_rfl), (hs.conv rfl)⟩)

theorem dsamp_filler_done.ok {K : Nat} {a0_0 : Arr 256} {a0_1 : Int} {r0 : Arr 256} {r1 : Int} {p0 : Nat} (h : dsamp_filler_done.f K a0_0 a0_1 = some (r0, r1)) (w0 : World) (hb : w0.heap[p0]? = some (.cells (([] : List Value) ++ enc .i32 a0_0 ++ ([.int .i64 a0_1] : List Value)).toArray 43 (0, 0))) : Calls Tryd.prog 19 #[.pointer (some ⟨p0, 0, none⟩)] w0 fun e w' => e = .returned (.tuple #[.agg (enc .i32 r0).toArray, .int .i64 r1]) ∧ St w0 [p0] [.blk p0 (([] : List Value) ++ enc .i32 a0_0 ++ ([.int .i64 a0_1] : List Value)) 43] [] w' := by
 refine calls_k Tryd.func19 rfl fun Q qq => ?_
 have hs := St.startX hb allX_nil
 refine wp_conv (a' := ⟨#[.pointer (some ⟨p0, 0, none⟩), undef, undef, undef, undef, undef, undef, undef, undef, undef, undef, undef, undef, undef], []⟩) (by kernel_rfl) ?_
 refine xseq_k fun KS1 ks1 => ?_
 refine xregS [0, 1] fun KR2 kr2 => ?_
 refine wpS.only 0 (op_alloc (t := 26) (d := (some 2)) (by kernel_rfl) hs (enc .i32 (zeroA 256)) (.agg (enc .i32 (zeroA 256)).toArray) (by kernel_rfl) (by kernel_rfl) (by kernel_rfl) ?_)
 intro b1 w gw hs
 refine ⟨fun _ => trivial, ?_⟩
 refine wpS.q 1 3 (.int .i64 0) ?_
 refine wpS.fin rfl (kr2 _ _ (then_n (ks1 _ _ (xseq_k fun KS3 ks3 => (xseq_k fun KS4 ks4 => (xregS [0, 1, 2, 3, 4] fun KR5 kr5 => ?_))))))
 refine wpS.qs [(0, 4, .pointer (some ⟨p0, 0, none⟩)), (1, 5, .pointer (some ⟨p0, 0, none⟩)), (2, 6, .pointer (some ⟨p0, 256, none⟩))] ?_
 refine wpS.tk 3 true (some 7) (.int .i64 a0_1) (yld_load1 (e := 3) (o := 256) hs 1 rfl (by kernel_rfl) (by kernel_rfl) (get_post 0 rfl rfl) .grow) ?_
 rcases of_if h with ⟨hc, h⟩ | ⟨hc, h⟩
 ·refine wpS.tk 4 false (some 8) (.bool true) (yld_b (dt hc) (fun _ => by kernel_rfl)) ?_
  refine wpS.fin rfl (kr5 _ _ (then_n (ks4 _ _ (wp_cond_t (by kernel_rfl) (xseq_k fun KS6 ks6 => (xregS [0, 1, 2] fun KR7 kr7 => ?_))))))
  refine wpS.q 0 9 (.agg (enc .i32 (zeroA 256)).toArray) ?_
  refine wpS.only 1 (op_storeW (t := 26) (v := .agg (enc .i32 (zeroA 256)).toArray) (d := none) (by kernel_rfl) hs 0 rfl (vs := enc .i32 (zeroA 256)) (n := 256) (by kernel_rfl) (by kernel_rfl) (by kernel_rfl) (by simp [enc_len]) (by simp [enc_len]) (by intro u hu; exact enc_one _ _ u hu) ?_)
  intro w kp hs
  refine ⟨fun _ => trivial, ?_⟩
  refine wpS.q 2 3 (.int .i64 12) ?_
  refine wpS.fin rfl (kr7 _ _ (then_n (ks6 _ _ (xret (then_r ?_)))))
  obtain ⟨q0, qr0⟩ := Prod.mk.inj (of_some h)
  have q1 := qr0
  subst q0
  subst q1
  exact qq _ _ (post_ret (by kernel_rfl) (run_results [.cell 2 26, .tmp 3] [.agg (enc .i32 (zeroA 256)).toArray, .int .i64 12] (by kernel_rfl) (.cons (res_cellN (n := 256) hs 0 rfl (by kernel_rfl) (by kernel_rfl) (by kernel_rfl) (by exact enc_len _ _)) (.cons (res_tmp (by kernel_rfl)) .nil))) ⟨congrArg Ending.returned (by kernel_rfl), (hs.drop (.cons _ (.cons_cons _ .slnil)))⟩)
 refine wpS.tk 4 false (some 8) (.bool false) (yld_b (df hc) (fun _ => by kernel_rfl)) ?_
 refine wpS.fin rfl (kr5 _ _ (then_n (ks4 _ _ (wp_cond_f (by kernel_rfl) (xskip (then_n (ks3 _ _ (xseq_k fun KS8 ks8 => (xregS [0, 1, 2, 3, 4, 5] fun KR9 kr9 => ?_)))))))))
 refine wpS.qs [(0, 10, .pointer (some ⟨p0, 0, none⟩)), (1, 11, .pointer (some ⟨p0, 0, none⟩)), (2, 12, .pointer (some ⟨p0, 0, none⟩))] ?_
 refine wpS.tk 3 true (some 13) (.agg (enc .i32 a0_0).toArray) (yld_loadN (e := 26) (n := 256) (o := 0) hs 1 rfl (by kernel_rfl) (by kernel_rfl) (by kernel_rfl) (mid_of rfl) (enc_len _ _) .grow) ?_
 refine wpS.only 4 (op_storeW (t := 26) (v := .agg (enc .i32 a0_0).toArray) (d := none) (by kernel_rfl) hs 0 rfl (vs := enc .i32 a0_0) (n := 256) (by kernel_rfl) (by kernel_rfl) (by kernel_rfl) (by simp [enc_len]) (by simp [enc_len]) (by intro u hu; exact enc_one _ _ u hu) ?_)
 intro w kp hs
 refine ⟨fun _ => trivial, ?_⟩
 refine wpS.q 5 3 (.int .i64 0) ?_
 refine wpS.fin rfl (kr9 _ _ (then_n (ks8 _ _ (xret ?_))))
 obtain ⟨q0, qr0⟩ := Prod.mk.inj (of_some h)
 have q1 := qr0
 subst q0
 subst q1
 exact qq _ _ (post_ret (by kernel_rfl) (run_results [.cell 2 26, .tmp 3] [.agg (enc .i32 a0_0).toArray, .int .i64 0] (by kernel_rfl) (.cons (res_cellN (n := 256) hs 0 rfl (by kernel_rfl) (by kernel_rfl) (by kernel_rfl) (by exact enc_len _ _)) (.cons (res_tmp (by kernel_rfl)) .nil))) ⟨congrArg Ending.returned (by kernel_rfl), (hs.drop (.cons _ (.cons_cons _ .slnil)))⟩)

theorem bits_Le.ok {K : Nat} {a0 : Int} {a1 : Int} {r0 : List Int} (h : bits_Le.f K a0 a1 = some r0) (w0 : World) : Calls Tryd.prog 22 #[.int .u64 a0, .int .i64 a1] w0 fun e w' => ∃ h : (Option Addr × Nat × Nat), e = .returned (.slice h.1 h.2.1 h.2.2) ∧ St w0 [] [.ownL (CI .u8) h.1 h.2.1 h.2.2 r0 5] [] w' := by
 refine calls_k Tryd.func22 rfl fun Q qq => ?_
 have hs := St.start w0
 refine wp_conv (a' := ⟨#[.int .u64 a0, .int .i64 a1, undef, undef, undef, undef, undef, undef, undef, undef, undef, undef, undef, undef, undef, undef, undef, undef, undef, undef, undef, undef, undef, undef, undef, undef, undef, undef, undef, undef], []⟩) (by kernel_rfl) ?_
 refine xseq_k fun KS1 ks1 => ?_
 refine xregS [0] fun KR2 kr2 => ?_
 refine wpS.q 0 4 (.slice none 0 0) ?_
 refine wpS.fin rfl (kr2 _ _ (then_n (ks1 _ _ (xseq_k fun KS3 ks3 => (xseq_k fun KS4 ks4 => (xregS [0, 1, 2, 3, 4, 5] fun KR5 kr5 => ?_))))))
 refine wpS.q 0 7 (.int .i64 a1) ?_
 rcases of_if h with ⟨hc, h⟩ | ⟨hc, h⟩
 ·refine wpS.tk 1 false (some 8) (.bool true) (yld_b (dt hc) (fun _ => by kernel_rfl)) ?_
  refine wpS.qs [(2, 9, .bool true), (3, 10, undef), (4, 11, undef), (5, 12, .bool true)] ?_
  refine wpS.fin rfl (kr5 _ _ (then_n (ks4 _ _ (wp_cond_t (by kernel_rfl) (xseq_k fun KS6 ks6 => (xregS [0] fun KR7 kr7 => ?_))))))
  refine wpS.q 0 4 (.slice none 0 0) ?_
  refine wpS.fin rfl (kr7 _ _ (then_n (ks6 _ _ (xret (then_r ?_)))))
  have q0 := of_some h
  subst q0
  have hs := hs.addNilL (CI .u8) 5
  exact qq _ _ (post_ret (by kernel_rfl) (run_results [.tmp 4] [.slice none 0 0] (by kernel_rfl) (.cons (res_tmp (by kernel_rfl)) .nil)) ⟨⟨none, 0, 0⟩, congrArg Ending.returned (by kernel_rfl), (hs.conv rfl)⟩)
 refine wpS.tk 1 false (some 8) (.bool false) (yld_b (df hc) (fun _ => by kernel_rfl)) ?_
 refine wpS.qs [(2, 9, .bool false), (3, 10, .int .i64 a1)] ?_
 rcases of_if h with ⟨hc, h⟩ | ⟨hc, h⟩
 ·refine wpS.tk 4 false (some 11) (.bool true) (yld_b (dt hc) (fun _ => by kernel_rfl)) ?_
  refine wpS.q 5 12 (.bool true) ?_
  refine wpS.fin rfl (kr5 _ _ (then_n (ks4 _ _ (wp_cond_t (by kernel_rfl) (xseq_k fun KS8 ks8 => (xregS [0] fun KR9 kr9 => ?_))))))
  refine wpS.q 0 4 (.slice none 0 0) ?_
  refine wpS.fin rfl (kr9 _ _ (then_n (ks8 _ _ (xret (then_r ?_)))))
  have q0 := of_some h
  subst q0
  have hs := hs.addNilL (CI .u8) 5
  exact qq _ _ (post_ret (by kernel_rfl) (run_results [.tmp 4] [.slice none 0 0] (by kernel_rfl) (.cons (res_tmp (by kernel_rfl)) .nil)) ⟨⟨none, 0, 0⟩, congrArg Ending.returned (by kernel_rfl), (hs.conv rfl)⟩)
 refine wpS.tk 4 false (some 11) (.bool false) (yld_b (df hc) (fun _ => by kernel_rfl)) ?_
 refine wpS.q 5 12 (.bool false) ?_
 refine wpS.fin rfl (kr5 _ _ (then_n (ks4 _ _ (wp_cond_f (by kernel_rfl) (xskip (then_n (ks3 _ _ (xseq_k fun KS10 ks10 => (xregS [0, 1, 2] fun KR11 kr11 => ?_)))))))))
 refine wpS.q 0 13 (.int .i64 a1) ?_
 obtain ⟨h0, h⟩ := of_chk h
 obtain ⟨h1, h⟩ := of_chk h
 refine wpS.only 1 (op_makeT (C := (CI .u8)) (t := 22) (e := 5) (bytes := 1) (B := 140737488355328) (kl := .i64) (kc := .i64) (x := a1) (d := (some 14)) (by kernel_rfl) hs (by kernel_rfl) (by kernel_rfl) (by kernel_rfl) (by kernel_rfl) (by kernel_rfl) h0 h1 (by decide) (by decide) ?_)
 intro s1_A s1_n s1_c w gw hs
 refine ⟨fun _ => trivial, ?_⟩
 refine wpS.q 2 5 (.slice s1_A s1_n s1_c) ?_
 refine wpS.fin rfl (kr11 _ _ (then_n (ks10 _ _ (xseq_k fun KS12 ks12 => (xseq_k fun KS13 ks13 => (xregS [0, 1, 2] fun KR14 kr14 => ?_))))))
 refine wpS.qs [(0, 15, .int .i64 a1), (1, 16, .int .i64 (imin a1 8)), (2, 17, .int .i64 0)] ?_
 refine wpS.fin rfl (kr14 _ _ (then_n (ks13 _ _ ?_)))
 obtain ⟨y4, hy, hk0⟩ := of_bind h
 refine wp_exq (N := fun a w => St w0 [] [.ownL (CI .u8) s1_A s1_n s1_c y4 5] [] w ∧ ∃ g16 : Nat → Value, a = ⟨#[.int .u64 a0, .int .i64 a1, undef, undef, .slice none 0 0, .slice s1_A s1_n s1_c, (g16 6), .int .i64 a1, .bool false, .bool false, .int .i64 a1, .bool false, .bool false, .int .i64 a1, .slice s1_A s1_n s1_c, .int .i64 a1, .int .i64 (imin a1 8), (g16 17), (g16 18), (g16 19), (g16 20), (g16 21), (g16 22), (g16 23), (g16 24), (g16 25), (g16 26), (g16 27), (g16 28), undef], []⟩) (fun N0 nn0 => ?_) ?_
 ·clear hk0
  refine xblock ?_
  refine wp_loop_k (fun n a w => ∃ z2 z3, bits_Le.l0 K n a0 a1 z2 z3 = some y4 ∧ St w0 [] [.ownL (CI .u8) s1_A s1_n s1_c z3 5] [] w ∧ ∃ g15 : Nat → Value, a = ⟨#[.int .u64 a0, .int .i64 a1, undef, undef, .slice none 0 0, .slice s1_A s1_n s1_c, (g15 6), .int .i64 a1, .bool false, .bool false, .int .i64 a1, .bool false, .bool false, .int .i64 a1, .slice s1_A s1_n s1_c, .int .i64 a1, .int .i64 (imin a1 8), .int .i64 z2, (g15 18), (g15 19), (g15 20), (g15 21), (g15 22), (g15 23), (g15 24), (g15 25), (g15 26), (g15 27), (g15 28), undef], []⟩) K ⟨0, (List.replicate (a1 : Int).toNat (Cod.zero (CI .u8))), hy, hs.conv rfl, exg (by kernel_rfl)⟩ ?_
  clear hs h hy
  rintro n a w ⟨z2, z3, h, hs, g15, rfl⟩ KL0 kl0
  cases n with
  | zero => exact nomatch (show none = some _ from h)
  | succ n =>
   refine xseq_k fun KS17 ks17 => ?_
   refine xregS [0] fun KR18 kr18 => ?_
   rcases of_if h with ⟨hc, h⟩ | ⟨hc, h⟩
   ·refine wpS.tk 0 false (some 18) (.bool true) (yld_b (dt hc) (fun _ => by kernel_rfl)) ?_
    refine wpS.fin rfl (kr18 _ _ (then_n (ks17 _ _ (xseq_k fun KS19 ks19 => (wp_cond_t (by kernel_rfl) (xskip (then_n (ks19 _ _ (xseq_k fun KS20 ks20 => (xblock (xseq_k fun KS21 ks21 => (xregS [0, 1] fun KR22 kr22 => ?_))))))))))))
    refine wpS.qs [(0, 19, .int .i64 z2), (1, 6, .int .i64 z2)] ?_
    refine wpS.fin rfl (kr22 _ _ (then_n (ks21 _ _ (xregS [0, 1, 2, 3, 4, 5, 6, 7, 8] fun KR23 kr23 => ?_))))
    refine wpS.qs [(0, 20, .slice s1_A s1_n s1_c), (1, 21, .int .i64 z2), (2, 22, .int .u64 a0), (3, 23, .int .i64 z2), (4, 24, .int .i64 (imul .i64 8 z2))] ?_
    obtain ⟨h0, h⟩ := of_chk h
    refine wpS.tk 5 false (some 25) (.int .u64 (ishr .u64 a0 (imul .i64 8 z2))) (yld_shr (t := 47) (k' := .i64) (by kernel_rfl) h0) ?_
    refine wpS.q 6 26 (.int .u8 (iconv .u8 (ishr .u64 a0 (imul .i64 8 z2)))) ?_
    obtain ⟨h0, h⟩ := of_chk h
    obtain ⟨h1, h⟩ := of_chk h
    have i0_24 := h0
    have i1_24 := h1
    refine wpS.tk 7 false (some 27) (.pointer (adr s1_A ((z2 : Int).toNat * Cod.size (CI .u8)))) (yld_idxL (C := (CI .u8)) (t := 22) (e := 5) (k := .i64) (x := z2) (hs.rowL 0 rfl) (by kernel_rfl) (by kernel_rfl) (by kernel_rfl) h0 h1) ?_
    obtain ⟨x5, hx, h⟩ := of_bind h
    refine wpS.only 8 (op_storeL (C := (CI .u8)) (t := 5) (x := z2) (v := x5) (d := none) (by kernel_rfl) hs 0 rfl (by cases hx; kernel_rfl) (by kernel_rfl) i0_24 i1_24 ?_)
    intro w hs
    refine ⟨fun _ => trivial, ?_⟩
    refine wpS.fin rfl (kr23 _ _ (inBlock_n (then_n (ks20 _ _ (xregS [0, 1] fun KR25 kr25 => ?_)))))
    refine wpS.qs [(0, 28, .int .i64 (iadd .i64 z2 1)), (1, 17, .int .i64 (iadd .i64 z2 1))] ?_
    refine wpS.fin rfl (kr25 _ _ ?_)
    exact then_n (kl0 _ _ ⟨n, Nat.lt_succ_self n, (iadd .i64 z2 1), (wrL z3 z2 x5), h, (hs.conv rfl), exg (by kernel_rfl)⟩)
   refine wpS.tk 0 false (some 18) (.bool false) (yld_b (df hc) (fun _ => by kernel_rfl)) ?_
   refine wpS.fin rfl (kr18 _ _ (then_n (ks17 _ _ (xseq_k fun KS26 ks26 => (wp_cond_f (by kernel_rfl) (xexit (then_x (then_x (inBlock_hit ?_)))))))))
   have q0 := of_some h
   subst q0
   exact exq_n (nn0 _ _ ⟨(hs.conv rfl), exg (by kernel_rfl)⟩)
 clear hs h hy
 rintro a w ⟨hs, g16, rfl⟩
 have h := hk0
 refine then_n (ks12 _ _ (xseq_k fun KS27 ks27 => (xregS [0, 1] fun KR28 kr28 => ?_)))
 refine wpS.qs [(0, 29, .slice s1_A s1_n s1_c), (1, 4, .slice s1_A s1_n s1_c)] ?_
 refine wpS.fin rfl (kr28 _ _ (then_n (ks27 _ _ (xret ?_))))
 have q0 := of_some h
 subst q0
 exact qq _ _ (post_ret (by kernel_rfl) (run_results [.tmp 4] [.slice s1_A s1_n s1_c] (by kernel_rfl) (.cons (res_tmp (by kernel_rfl)) .nil)) ⟨⟨s1_A, s1_n, s1_c⟩, congrArg Ending.returned (by kernel_rfl), (hs.conv rfl)⟩)
end Go.Proofs.YtppohhnfojalbaaDoor
