/- Printed by this work's own program: the code of each function below comes to the answer that its plain form tells. -/
import Derived.Test.YtppohhnfojalbaaDoorMd
import Derived.Test.YtppohhnfojalbaaDoorProg
import Derived.Test.YtppohhnfojalbaaDoorVFDsampDraws
import Derived.Test.YtppohhnfojalbaaDoorVX5
set_option linter.unusedVariables false
set_option linter.unusedSimpArgs false
set_option maxRecDepth 100000
set_option maxHeartbeats 4000000
namespace Go.Proofs.YtppohhnfojalbaaDoor
open Go.Mx
attribute [local irreducible] wpOp

theorem ref08_Squeeze.ok {K : Nat} {a0_0 : Int} {a0_1 : Arr 25} {a0_2 : Int} {a0_3 : Bool} {a1 : Int} {r0_0 : Int} {r0_1 : Arr 25} {r0_2 : Int} {r0_3 : Bool} {r1 : List Int} (h : ref08_Squeeze.f K a0_0 a0_1 a0_2 a0_3 a1 = some (r0_0, r0_1, r0_2, r0_3, r1)) (w0 : World) : Calls Tryd.prog 49 #[.agg (([.int .i64 a0_0] : List Value) ++ enc .u64 a0_1 ++ ([.int .i64 a0_2, .bool a0_3] : List Value)).toArray, .int .i64 a1] w0 fun e w' => ∃ h : (Option Addr × Nat × Nat), e = .returned (.tuple #[.agg (([.int .i64 r0_0] : List Value) ++ enc .u64 r0_1 ++ ([.int .i64 r0_2, .bool r0_3] : List Value)).toArray, .slice h.1 h.2.1 h.2.2]) ∧ St w0 [] [.ownL (CI .u8) h.1 h.2.1 h.2.2 r1 5] [] w' := by
 refine calls_k Tryd.func49 rfl fun Q qq => ?_
 have hs := St.start w0
 refine wp_conv (a' := ⟨#[.agg (([.int .i64 a0_0] : List Value) ++ enc .u64 a0_1 ++ ([.int .i64 a0_2, .bool a0_3] : List Value)).toArray, .int .i64 a1, undef, undef, undef, undef, undef, undef, undef, undef, undef, undef, undef, undef, undef, undef, undef, undef, undef, undef, undef, undef, undef, undef, undef, undef, undef, undef, undef, undef, undef, undef, undef, undef, undef, undef, undef, undef, undef, undef, undef, undef, undef, undef, undef, undef, undef, undef, undef, undef, undef, undef, undef, undef, undef, undef, undef, undef, undef, undef, undef, undef, undef, undef, undef, undef, undef, undef, undef, undef, undef, undef, undef], []⟩) (by kernel_rfl) ?_
 refine xseq_k fun KS1 ks1 => ?_
 refine xregS [0, 1, 2] fun KR2 kr2 => ?_
 refine wpS.only 0 (op_box (t := 50) (v := .agg (([.int .i64 a0_0] : List Value) ++ enc .u64 a0_1 ++ ([.int .i64 a0_2, .bool a0_3] : List Value)).toArray) (d := (some 2)) (by kernel_rfl) hs (([.int .i64 a0_0] : List Value) ++ enc .u64 a0_1 ++ ([.int .i64 a0_2, .bool a0_3] : List Value)) (by kernel_rfl) (by kernel_rfl) ?_)
 intro b1 w gw hs
 refine ⟨fun _ => trivial, ?_⟩
 refine wpS.only 1 (op_alloc (t := 50) (d := (some 4)) (by kernel_rfl) hs (([.int .i64 0] : List Value) ++ enc .u64 (zeroA 25) ++ ([.int .i64 0, .bool false] : List Value)) (.agg (([.int .i64 0] : List Value) ++ enc .u64 (zeroA 25) ++ ([.int .i64 0, .bool false] : List Value)).toArray) (by kernel_rfl) (by kernel_rfl) (by kernel_rfl) ?_)
 intro b2 w gw hs
 refine ⟨fun _ => trivial, ?_⟩
 refine wpS.q 2 5 (.slice none 0 0) ?_
 refine wpS.fin rfl (kr2 _ _ (then_n (ks1 _ _ (xseq_k fun KS3 ks3 => (xseq_k fun KS4 ks4 => (xregS [0, 1] fun KR5 kr5 => ?_))))))
 refine wpS.q 0 9 (.int .i64 a1) ?_
 rcases of_if h with ⟨hc, h⟩ | ⟨hc, h⟩
 ·refine wpS.tk 1 false (some 10) (.bool true) (yld_b (dt hc) (fun _ => by kernel_rfl)) ?_
  refine wpS.fin rfl (kr5 _ _ (then_n (ks4 _ _ (wp_cond_t (by kernel_rfl) (xseq_k fun KS6 ks6 => (xregS [0, 1, 2] fun KR7 kr7 => ?_))))))
  refine wpS.tk 0 true (some 11) (.agg (([.int .i64 a0_0] : List Value) ++ enc .u64 a0_1 ++ ([.int .i64 a0_2, .bool a0_3] : List Value)).toArray) (yld_loadW (e := 50) (n := 28) hs 1 rfl (by kernel_rfl) (by kernel_rfl) (by kernel_rfl) (by simp [enc_len]) .grow) ?_
  refine wpS.only 1 (op_storeW (t := 50) (v := .agg (([.int .i64 a0_0] : List Value) ++ enc .u64 a0_1 ++ ([.int .i64 a0_2, .bool a0_3] : List Value)).toArray) (d := none) (by kernel_rfl) hs 0 rfl (vs := ([.int .i64 a0_0] : List Value) ++ enc .u64 a0_1 ++ ([.int .i64 a0_2, .bool a0_3] : List Value)) (n := 28) (by kernel_rfl) (by kernel_rfl) (by kernel_rfl) (by simp [enc_len]) (by simp [enc_len]) (one_app (one_app (by simp [Value.oneCell']) (fun u hu => enc_one _ _ u hu)) (by simp [Value.oneCell'])) ?_)
  intro w kp hs
  refine ⟨fun _ => trivial, ?_⟩
  refine wpS.q 2 5 (.slice none 0 0) ?_
  refine wpS.fin rfl (kr7 _ _ (then_n (ks6 _ _ (xret (then_r ?_)))))
  obtain ⟨q0, qr0⟩ := Prod.mk.inj (of_some h)
  obtain ⟨q1, qr1⟩ := Prod.mk.inj (qr0)
  obtain ⟨q2, qr2⟩ := Prod.mk.inj (qr1)
  obtain ⟨q3, qr3⟩ := Prod.mk.inj (qr2)
  have q4 := qr3
  subst q0
  subst q1
  subst q2
  subst q3
  subst q4
  have hs := hs.addNilL (CI .u8) 5
  exact qq _ _ (post_ret (by kernel_rfl) (run_results [.cell 4 50, .tmp 5] [.agg (([.int .i64 a0_0] : List Value) ++ enc .u64 a0_1 ++ ([.int .i64 a0_2, .bool a0_3] : List Value)).toArray, .slice none 0 0] (by kernel_rfl) (.cons (res_cellN (n := 28) hs 1 rfl (by kernel_rfl) (by kernel_rfl) (by kernel_rfl) (by simp [enc_len])) (.cons (res_tmp (by kernel_rfl)) .nil))) ⟨⟨none, 0, 0⟩, congrArg Ending.returned (by kernel_rfl), (hs.drop (.cons_cons _ (.cons _ (.cons _ .slnil))))⟩)
 refine wpS.tk 1 false (some 10) (.bool false) (yld_b (df hc) (fun _ => by kernel_rfl)) ?_
 refine wpS.fin rfl (kr5 _ _ (then_n (ks4 _ _ (wp_cond_f (by kernel_rfl) (xskip (then_n (ks3 _ _ (xseq_k fun KS8 ks8 => (xregS [0, 1, 2, 3] fun KR9 kr9 => ?_)))))))))
 refine wpS.q 0 12 (.pointer (some ⟨b1, 0, none⟩)) ?_
 refine wpS.tk 1 true (some 13) (.int .i64 a0_0) (yld_load1 (e := 3) (o := 0) hs 1 rfl (by kernel_rfl) (by kernel_rfl) (get_pre rfl) .grow) ?_
 obtain ⟨r3, hg, h⟩ := of_bind h
 refine wpS.only 2 (op_call (d := (some 14)) (by kernel_rfl) hs (fun _ => by kernel_rfl) (ref08_Rate.ok hg _) ?_)
 intro w gw hs
 refine ⟨fun _ => trivial, ?_⟩
 refine wpS.q 3 6 (.int .i64 r3) ?_
 refine wpS.fin rfl (kr9 _ _ (then_n (ks8 _ _ ?_)))
 obtain ⟨⟨y4_0, y4_1, y4_2, y4_3⟩, hj, h⟩ := of_bind h
 refine xseq_k fun KS11 ks11 => wp_join (N := fun a w => St w0 [] [.blk b2 (([.int .i64 0] : List Value) ++ enc .u64 (zeroA 25) ++ ([.int .i64 0, .bool false] : List Value)) 50, .blk b1 (([.int .i64 y4_0] : List Value) ++ enc .u64 y4_1 ++ ([.int .i64 y4_2, .bool y4_3] : List Value)) 50] [] w ∧ ∃ g10 : Nat → Value, a = ⟨#[.agg (([.int .i64 a0_0] : List Value) ++ enc .u64 a0_1 ++ ([.int .i64 a0_2, .bool a0_3] : List Value)).toArray, .int .i64 a1, .pointer (some ⟨b1, 0, none⟩), undef, .pointer (some ⟨b2, 0, none⟩), .slice none 0 0, .int .i64 r3, (g10 7), undef, .int .i64 a1, .bool false, undef, .pointer (some ⟨b1, 0, none⟩), .int .i64 a0_0, .int .i64 r3, (g10 15), (g10 16), (g10 17), (g10 18), (g10 19), (g10 20), (g10 21), (g10 22), (g10 23), (g10 24), (g10 25), (g10 26), (g10 27), (g10 28), (g10 29), (g10 30), (g10 31), (g10 32), (g10 33), (g10 34), (g10 35), (g10 36), (g10 37), (g10 38), undef, undef, undef, undef, undef, undef, undef, undef, undef, undef, undef, undef, undef, undef, undef, undef, undef, undef, undef, undef, undef, undef, undef, undef, undef, undef, undef, undef, undef, undef, undef, undef, undef, undef], []⟩) (fun N nj => ?_) ?_
 ·clear h
  have h := hj
  refine xseq_k fun KS12 ks12 => ?_
  refine xregS [0, 1, 2] fun KR13 kr13 => ?_
  refine wpS.q 0 15 (.pointer (some ⟨b1, 27, none⟩)) ?_
  cases a0_3 with
  | true =>
   have h := of_if_t h
   refine wpS.tk 1 true (some 16) (.bool true) (yld_load1 (e := 4) (o := 27) hs 1 rfl (by kernel_rfl) (by kernel_rfl) (get_post 1 rfl rfl) .grow) ?_
   refine wpS.q 2 17 (.bool false) ?_
   refine wpS.fin rfl (kr13 _ _ (then_n (ks12 _ _ (wp_cond_f (by kernel_rfl) (xskip ?_)))))
   obtain ⟨q0, qr0⟩ := Prod.mk.inj (of_some h)
   obtain ⟨q1, qr1⟩ := Prod.mk.inj (qr0)
   obtain ⟨q2, qr2⟩ := Prod.mk.inj (qr1)
   have q3 := qr2
   subst q0
   subst q1
   subst q2
   subst q3
   exact nj _ _ ⟨(hs.conv rfl), exg (by kernel_rfl)⟩
  | false =>
   have h := of_if_f h
   refine wpS.tk 1 true (some 16) (.bool false) (yld_load1 (e := 4) (o := 27) hs 1 rfl (by kernel_rfl) (by kernel_rfl) (get_post 1 rfl rfl) .grow) ?_
   refine wpS.q 2 17 (.bool true) ?_
   refine wpS.fin rfl (kr13 _ _ (then_n (ks12 _ _ (wp_cond_t (by kernel_rfl) (xseq_k fun KS14 ks14 => (xregS [0] fun KR15 kr15 => ?_))))))
   refine wpS.q 0 7 (.int .u8 31) ?_
   refine wpS.fin rfl (kr15 _ _ (then_n (ks14 _ _ ?_)))
   obtain ⟨y5, hj, h⟩ := of_bind h
   refine xseq_k fun KS17 ks17 => wp_join (N := fun a w => St w0 [] [.blk b2 (([.int .i64 0] : List Value) ++ enc .u64 (zeroA 25) ++ ([.int .i64 0, .bool false] : List Value)) 50, .blk b1 (([.int .i64 a0_0] : List Value) ++ enc .u64 a0_1 ++ ([.int .i64 a0_2, .bool false] : List Value)) 50] [] w ∧ ∃ g16 : Nat → Value, a = ⟨#[.agg (([.int .i64 a0_0] : List Value) ++ enc .u64 a0_1 ++ ([.int .i64 a0_2, .bool false] : List Value)).toArray, .int .i64 a1, .pointer (some ⟨b1, 0, none⟩), undef, .pointer (some ⟨b2, 0, none⟩), .slice none 0 0, .int .i64 r3, .int .u8 y5, undef, .int .i64 a1, .bool false, undef, .pointer (some ⟨b1, 0, none⟩), .int .i64 a0_0, .int .i64 r3, .pointer (some ⟨b1, 27, none⟩), .bool false, .bool true, (g16 18), (g16 19), (g16 20), (g16 21), (g16 22), (g16 23), (g16 24), (g16 25), undef, undef, undef, undef, undef, undef, undef, undef, undef, undef, undef, undef, undef, undef, undef, undef, undef, undef, undef, undef, undef, undef, undef, undef, undef, undef, undef, undef, undef, undef, undef, undef, undef, undef, undef, undef, undef, undef, undef, undef, undef, undef, undef, undef, undef, undef, undef], []⟩) (fun N nj => ?_) ?_
   ·clear h
    have h := hj
    refine xseq_k fun KS18 ks18 => ?_
    refine xregS [0, 1, 2, 3, 4, 5, 6, 7] fun KR19 kr19 => ?_
    refine wpS.q 0 18 (.pointer (some ⟨b1, 0, none⟩)) ?_
    refine wpS.tk 1 true (some 19) (.int .i64 a0_0) (yld_load1 (e := 3) (o := 0) hs 1 rfl (by kernel_rfl) (by kernel_rfl) (get_pre rfl) .grow) ?_
    rcases of_if h with ⟨hc, h⟩ | ⟨hc, h⟩
    ·refine wpS.tk 2 false (some 20) (.bool true) (yld_b (et hc) (fun _ => by kernel_rfl)) ?_
     refine wpS.qs [(3, 21, .bool true), (4, 22, undef), (5, 23, undef), (6, 24, undef), (7, 25, .bool true)] ?_
     refine wpS.fin rfl (kr19 _ _ (then_n (ks18 _ _ (wp_cond_t (by kernel_rfl) (xregS [0] fun KR20 kr20 => ?_)))))
     refine wpS.q 0 7 (.int .u8 6) ?_
     refine wpS.fin rfl (kr20 _ _ ?_)
     have q0 := of_some h
     subst q0
     exact nj _ _ ⟨(hs.conv rfl), exg (by kernel_rfl)⟩
    refine wpS.tk 2 false (some 20) (.bool false) (yld_b (ef hc) (fun _ => by kernel_rfl)) ?_
    refine wpS.qs [(3, 21, .bool false), (4, 22, .pointer (some ⟨b1, 0, none⟩))] ?_
    refine wpS.tk 5 true (some 23) (.int .i64 a0_0) (yld_load1 (e := 3) (o := 0) hs 1 rfl (by kernel_rfl) (by kernel_rfl) (get_pre rfl) .grow) ?_
    rcases of_if h with ⟨hc, h⟩ | ⟨hc, h⟩
    ·refine wpS.tk 6 false (some 24) (.bool true) (yld_b (et hc) (fun _ => by kernel_rfl)) ?_
     refine wpS.q 7 25 (.bool true) ?_
     refine wpS.fin rfl (kr19 _ _ (then_n (ks18 _ _ (wp_cond_t (by kernel_rfl) (xregS [0] fun KR21 kr21 => ?_)))))
     refine wpS.q 0 7 (.int .u8 6) ?_
     refine wpS.fin rfl (kr21 _ _ ?_)
     have q0 := of_some h
     subst q0
     exact nj _ _ ⟨(hs.conv rfl), exg (by kernel_rfl)⟩
    refine wpS.tk 6 false (some 24) (.bool false) (yld_b (ef hc) (fun _ => by kernel_rfl)) ?_
    refine wpS.q 7 25 (.bool false) ?_
    refine wpS.fin rfl (kr19 _ _ (then_n (ks18 _ _ (wp_cond_f (by kernel_rfl) (xskip ?_)))))
    have q0 := of_some h
    subst q0
    exact nj _ _ ⟨(hs.conv rfl), exg (by kernel_rfl)⟩
   clear hj hs
   rintro a w ⟨hs, g16, rfl⟩
   refine then_n (ks17 _ _ (xseq_k fun KS22 ks22 => (xregS [0, 1, 2, 3, 4, 5, 6, 7, 8, 9, 10, 11] fun KR23 kr23 => ?_)))
   refine wpS.q 0 26 (.pointer (some ⟨b1, 1, none⟩)) ?_
   refine wpS.tk 1 true (some 27) (.agg (enc .u64 a0_1).toArray) (yld_loadN (e := 48) (n := 25) (o := 1) hs 1 rfl (by kernel_rfl) (by kernel_rfl) (by kernel_rfl) (mid_of rfl) (enc_len _ _) .grow) ?_
   refine wpS.q 2 28 (.pointer (some ⟨b1, 26, none⟩)) ?_
   refine wpS.tk 3 true (some 29) (.int .i64 a0_2) (yld_load1 (e := 3) (o := 26) hs 1 rfl (by kernel_rfl) (by kernel_rfl) (get_post 0 rfl rfl) .grow) ?_
   refine wpS.q 4 30 (.int .u8 y5) ?_
   obtain ⟨r6, hg, h⟩ := of_bind h
   refine wpS.only 5 (op_call (d := (some 31)) (by kernel_rfl) hs (fun _ => by kernel_rfl) (ref08_put.ok hg _) ?_)
   intro w gw hs
   refine ⟨fun _ => trivial, ?_⟩
   refine wpS.qs [(6, 32, .int .i64 r3), (7, 33, .int .i64 (isub .i64 r3 1))] ?_
   obtain ⟨r7, hg, h⟩ := of_bind h
   refine wpS.only 8 (op_call (d := (some 34)) (by kernel_rfl) hs (fun _ => by kernel_rfl) (ref08_put.ok hg _) ?_)
   intro w gw hs
   refine ⟨fun _ => trivial, ?_⟩
   obtain ⟨r8, hg, h⟩ := of_bind h
   refine wpS.only 9 (op_call (d := (some 35)) (by kernel_rfl) hs (fun _ => by kernel_rfl) (ref08_Permute.ok hg _) ?_)
   intro w gw hs
   refine ⟨fun _ => trivial, ?_⟩
   refine wpS.q 10 36 (.pointer (some ⟨b1, 1, none⟩)) ?_
   refine wpS.only 11 (op_storeM (t := 48) (o := 1) (m := 25) (v := .agg (enc .u64 r8).toArray) (vs := enc .u64 r8) (d := none) (by kernel_rfl) hs 1 rfl (by kernel_rfl) (by kernel_rfl) (by kernel_rfl) (enc_len _ _) (by simp [enc_len]) (by intro u hu; exact enc_one _ _ u hu) (splice_row rfl) ?_)
   intro w kp hs
   refine ⟨fun _ => trivial, ?_⟩
   refine wpS.fin rfl (kr23 _ _ (then_n (ks22 _ _ (xseq_k fun KS24 ks24 => (xregS [0, 1] fun KR25 kr25 => ?_)))))
   refine wpS.q 0 37 (.pointer (some ⟨b1, 26, none⟩)) ?_
   refine wpS.only 1 (op_storeQ (t := 3) (o := 26) (v := .int .i64 0) (d := none) (by kernel_rfl) hs 1 rfl (by kernel_rfl) rfl (by kernel_rfl) (by simp [enc_len]) (set_post 0 rfl) ?_)
   intro w kp hs
   try dsimp only [List.set] at hs
   refine ⟨fun _ => trivial, ?_⟩
   refine wpS.fin rfl (kr25 _ _ (then_n (ks24 _ _ (xregS [0, 1] fun KR26 kr26 => ?_))))
   refine wpS.q 0 38 (.pointer (some ⟨b1, 27, none⟩)) ?_
   refine wpS.only 1 (op_storeQ (t := 4) (o := 27) (v := .bool true) (d := none) (by kernel_rfl) hs 1 rfl (by kernel_rfl) rfl (by kernel_rfl) (by simp [enc_len]) (set_post 1 rfl) ?_)
   intro w kp hs
   try dsimp only [List.set] at hs
   refine ⟨fun _ => trivial, ?_⟩
   refine wpS.fin rfl (kr26 _ _ ?_)
   obtain ⟨q0, qr0⟩ := Prod.mk.inj (of_some h)
   obtain ⟨q1, qr1⟩ := Prod.mk.inj (qr0)
   obtain ⟨q2, qr2⟩ := Prod.mk.inj (qr1)
   have q3 := qr2
   subst q0
   subst q1
   subst q2
   subst q3
   exact nj _ _ ⟨(hs.conv rfl), exg (by kernel_rfl)⟩
 clear hj hs
 rintro a w ⟨hs, g10, rfl⟩
 refine then_n (ks11 _ _ (xseq_k fun KS27 ks27 => (xregS [0] fun KR28 kr28 => ?_)))
 refine wpS.q 0 8 (.slice none 0 0) ?_
 refine wpS.fin rfl (kr28 _ _ (then_n (ks27 _ _ (xseq_k fun KS29 ks29 => ?_))))
 have hs := hs.addNilL (CI .u8) 5
 obtain ⟨⟨y11, y12_0, y12_1, y12_2, y12_3⟩, hy, hk0⟩ := of_bind h
 refine wp_exq (N := fun a w => ∃ (y11_A : Option Addr) (y11_n : Nat) (y11_c : Nat), St w0 [] [.ownL (CI .u8) y11_A y11_n y11_c y11 5, .blk b2 (([.int .i64 0] : List Value) ++ enc .u64 (zeroA 25) ++ ([.int .i64 0, .bool false] : List Value)) 50, .blk b1 (([.int .i64 y12_0] : List Value) ++ enc .u64 y12_1 ++ ([.int .i64 y12_2, .bool y12_3] : List Value)) 50] [] w ∧ ∃ g31 : Nat → Value, a = ⟨#[.agg (([.int .i64 a0_0] : List Value) ++ enc .u64 a0_1 ++ ([.int .i64 a0_2, .bool a0_3] : List Value)).toArray, .int .i64 a1, .pointer (some ⟨b1, 0, none⟩), undef, .pointer (some ⟨b2, 0, none⟩), .slice none 0 0, .int .i64 r3, (g10 7), .slice y11_A y11_n y11_c, .int .i64 a1, .bool false, undef, .pointer (some ⟨b1, 0, none⟩), .int .i64 a0_0, .int .i64 r3, (g10 15), (g10 16), (g10 17), (g10 18), (g10 19), (g10 20), (g10 21), (g10 22), (g10 23), (g10 24), (g10 25), (g10 26), (g10 27), (g10 28), (g10 29), (g10 30), (g10 31), (g10 32), (g10 33), (g10 34), (g10 35), (g10 36), (g10 37), (g10 38), (g31 39), (g31 40), (g31 41), (g31 42), (g31 43), (g31 44), (g31 45), (g31 46), (g31 47), (g31 48), (g31 49), (g31 50), (g31 51), (g31 52), (g31 53), (g31 54), (g31 55), (g31 56), (g31 57), (g31 58), (g31 59), (g31 60), (g31 61), (g31 62), (g31 63), (g31 64), (g31 65), (g31 66), (g31 67), (g31 68), (g31 69), (g31 70), undef, undef], []⟩) (fun N0 nn0 => ?_) ?_
 ·clear hk0
  refine xblock ?_
  refine wp_loop_k (fun n a w => ∃ z9 z10_0 z10_1 z10_2 z10_3, ∃ (z9_A : Option Addr) (z9_n : Nat) (z9_c : Nat), ref08_Squeeze.l0 K n a1 r3 z9 z10_0 z10_1 z10_2 z10_3 = some (y11, y12_0, y12_1, y12_2, y12_3) ∧ St w0 [] [.ownL (CI .u8) z9_A z9_n z9_c z9 5, .blk b2 (([.int .i64 0] : List Value) ++ enc .u64 (zeroA 25) ++ ([.int .i64 0, .bool false] : List Value)) 50, .blk b1 (([.int .i64 z10_0] : List Value) ++ enc .u64 z10_1 ++ ([.int .i64 z10_2, .bool z10_3] : List Value)) 50] [] w ∧ ∃ g30 : Nat → Value, a = ⟨#[.agg (([.int .i64 a0_0] : List Value) ++ enc .u64 a0_1 ++ ([.int .i64 a0_2, .bool a0_3] : List Value)).toArray, .int .i64 a1, .pointer (some ⟨b1, 0, none⟩), undef, .pointer (some ⟨b2, 0, none⟩), .slice none 0 0, .int .i64 r3, (g10 7), .slice z9_A z9_n z9_c, .int .i64 a1, .bool false, undef, .pointer (some ⟨b1, 0, none⟩), .int .i64 a0_0, .int .i64 r3, (g10 15), (g10 16), (g10 17), (g10 18), (g10 19), (g10 20), (g10 21), (g10 22), (g10 23), (g10 24), (g10 25), (g10 26), (g10 27), (g10 28), (g10 29), (g10 30), (g10 31), (g10 32), (g10 33), (g10 34), (g10 35), (g10 36), (g10 37), (g10 38), (g30 39), (g30 40), (g30 41), (g30 42), (g30 43), (g30 44), (g30 45), (g30 46), (g30 47), (g30 48), (g30 49), (g30 50), (g30 51), (g30 52), (g30 53), (g30 54), (g30 55), (g30 56), (g30 57), (g30 58), (g30 59), (g30 60), (g30 61), (g30 62), (g30 63), (g30 64), (g30 65), (g30 66), (g30 67), (g30 68), (g30 69), (g30 70), undef, undef], []⟩) K ⟨([] : List Int), y4_0, y4_1, y4_2, y4_3, none, 0, 0, hy, hs.conv rfl, exg (by kernel_rfl)⟩ ?_
  clear hs h hy
  rintro n a w ⟨z9, z10_0, z10_1, z10_2, z10_3, z9_A, z9_n, z9_c, h, hs, g30, rfl⟩ KL0 kl0
  cases n with
  | zero => exact nomatch (show none = some _ from h)
  | succ n =>
   refine xseq_k fun KS32 ks32 => ?_
   refine xseq_k fun KS33 ks33 => ?_
   refine xregS [0, 1, 2, 3] fun KR34 kr34 => ?_
   refine wpS.q 0 39 (.slice z9_A z9_n z9_c) ?_
   refine wpS.tk 1 false (some 40) (.int .i64 (z9.length : Int)) (yld_lenL (hs.rowL 0 rfl) (fun _ => by kernel_rfl)) ?_
   refine wpS.q 2 41 (.int .i64 a1) ?_
   rcases of_if h with ⟨hc, h⟩ | ⟨hc, h⟩
   ·refine wpS.tk 3 false (some 42) (.bool true) (yld_b (dt hc) (fun _ => by kernel_rfl)) ?_
    refine wpS.fin rfl (kr34 _ _ (then_n (ks33 _ _ (wp_cond_t (by kernel_rfl) (xskip (then_n (ks32 _ _ (xblock ?_))))))))
    obtain ⟨⟨y13_0, y13_1, y13_2, y13_3⟩, hj, h⟩ := of_bind h
    refine xseq_k fun KS36 ks36 => wp_join (N := fun a w => St w0 [] [.ownL (CI .u8) z9_A z9_n z9_c z9 5, .blk b2 (([.int .i64 0] : List Value) ++ enc .u64 (zeroA 25) ++ ([.int .i64 0, .bool false] : List Value)) 50, .blk b1 (([.int .i64 y13_0] : List Value) ++ enc .u64 y13_1 ++ ([.int .i64 y13_2, .bool y13_3] : List Value)) 50] [] w ∧ ∃ g35 : Nat → Value, a = ⟨#[.agg (([.int .i64 a0_0] : List Value) ++ enc .u64 a0_1 ++ ([.int .i64 a0_2, .bool a0_3] : List Value)).toArray, .int .i64 a1, .pointer (some ⟨b1, 0, none⟩), undef, .pointer (some ⟨b2, 0, none⟩), .slice none 0 0, .int .i64 r3, (g10 7), .slice z9_A z9_n z9_c, .int .i64 a1, .bool false, undef, .pointer (some ⟨b1, 0, none⟩), .int .i64 a0_0, .int .i64 r3, (g10 15), (g10 16), (g10 17), (g10 18), (g10 19), (g10 20), (g10 21), (g10 22), (g10 23), (g10 24), (g10 25), (g10 26), (g10 27), (g10 28), (g10 29), (g10 30), (g10 31), (g10 32), (g10 33), (g10 34), (g10 35), (g10 36), (g10 37), (g10 38), .slice z9_A z9_n z9_c, .int .i64 (z9.length : Int), .int .i64 a1, .bool true, (g35 43), (g35 44), (g35 45), (g35 46), (g35 47), (g35 48), (g35 49), (g35 50), (g35 51), (g30 52), (g30 53), (g30 54), (g30 55), (g30 56), (g30 57), (g30 58), (g30 59), (g30 60), (g30 61), (g30 62), (g30 63), (g30 64), (g30 65), (g30 66), (g30 67), (g30 68), (g30 69), (g30 70), undef, undef], []⟩) (fun N nj => ?_) ?_
    ·clear h
     have h := hj
     refine xseq_k fun KS37 ks37 => ?_
     refine xregS [0, 1, 2, 3] fun KR38 kr38 => ?_
     refine wpS.q 0 43 (.pointer (some ⟨b1, 26, none⟩)) ?_
     refine wpS.tk 1 true (some 44) (.int .i64 z10_2) (yld_load1 (e := 3) (o := 26) hs 2 rfl (by kernel_rfl) (by kernel_rfl) (get_post 0 rfl rfl) .grow) ?_
     refine wpS.q 2 45 (.int .i64 r3) ?_
     rcases of_if h with ⟨hc, h⟩ | ⟨hc, h⟩
     ·refine wpS.tk 3 false (some 46) (.bool true) (yld_b (et hc) (fun _ => by kernel_rfl)) ?_
      refine wpS.fin rfl (kr38 _ _ (then_n (ks37 _ _ (wp_cond_t (by kernel_rfl) (xseq_k fun KS39 ks39 => (xregS [0, 1, 2, 3, 4] fun KR40 kr40 => ?_))))))
      refine wpS.q 0 47 (.pointer (some ⟨b1, 1, none⟩)) ?_
      refine wpS.tk 1 true (some 48) (.agg (enc .u64 z10_1).toArray) (yld_loadN (e := 48) (n := 25) (o := 1) hs 2 rfl (by kernel_rfl) (by kernel_rfl) (by kernel_rfl) (mid_of rfl) (enc_len _ _) .grow) ?_
      obtain ⟨r14, hg, h⟩ := of_bind h
      refine wpS.only 2 (op_call (d := (some 49)) (by kernel_rfl) hs (fun _ => by kernel_rfl) (ref08_Permute.ok hg _) ?_)
      intro w gw hs
      refine ⟨fun _ => trivial, ?_⟩
      refine wpS.q 3 50 (.pointer (some ⟨b1, 1, none⟩)) ?_
      refine wpS.only 4 (op_storeM (t := 48) (o := 1) (m := 25) (v := .agg (enc .u64 r14).toArray) (vs := enc .u64 r14) (d := none) (by kernel_rfl) hs 2 rfl (by kernel_rfl) (by kernel_rfl) (by kernel_rfl) (enc_len _ _) (by simp [enc_len]) (by intro u hu; exact enc_one _ _ u hu) (splice_row rfl) ?_)
      intro w kp hs
      refine ⟨fun _ => trivial, ?_⟩
      refine wpS.fin rfl (kr40 _ _ (then_n (ks39 _ _ (xregS [0, 1] fun KR41 kr41 => ?_))))
      refine wpS.q 0 51 (.pointer (some ⟨b1, 26, none⟩)) ?_
      refine wpS.only 1 (op_storeQ (t := 3) (o := 26) (v := .int .i64 0) (d := none) (by kernel_rfl) hs 2 rfl (by kernel_rfl) rfl (by kernel_rfl) (by simp [enc_len]) (set_post 0 rfl) ?_)
      intro w kp hs
      try dsimp only [List.set] at hs
      refine ⟨fun _ => trivial, ?_⟩
      refine wpS.fin rfl (kr41 _ _ ?_)
      obtain ⟨q0, qr0⟩ := Prod.mk.inj (of_some h)
      obtain ⟨q1, qr1⟩ := Prod.mk.inj (qr0)
      obtain ⟨q2, qr2⟩ := Prod.mk.inj (qr1)
      have q3 := qr2
      subst q0
      subst q1
      subst q2
      subst q3
      exact nj _ _ ⟨(hs.conv rfl), exg (by kernel_rfl)⟩
     refine wpS.tk 3 false (some 46) (.bool false) (yld_b (ef hc) (fun _ => by kernel_rfl)) ?_
     refine wpS.fin rfl (kr38 _ _ (then_n (ks37 _ _ (wp_cond_f (by kernel_rfl) (xskip ?_)))))
     obtain ⟨q0, qr0⟩ := Prod.mk.inj (of_some h)
     obtain ⟨q1, qr1⟩ := Prod.mk.inj (qr0)
     obtain ⟨q2, qr2⟩ := Prod.mk.inj (qr1)
     have q3 := qr2
     subst q0
     subst q1
     subst q2
     subst q3
     exact nj _ _ ⟨(hs.conv rfl), exg (by kernel_rfl)⟩
    clear hj hs
    rintro a w ⟨hs, g35, rfl⟩
    refine then_n (ks36 _ _ (xseq_k fun KS42 ks42 => ?_))
    refine wp_regG [14] (fun k => True) 16 (by kernel_rfl) (by kernel_rfl) (by kernel_rfl) fun KR43 kr43 => ?_
    have hs := hs.drawn1
    refine wpG.q 0 52 (.slice z9_A z9_n z9_c) ?_
    refine wpG.q 1 53 (.pointer (some ⟨b1, 26, none⟩)) ?_
    refine wpG.take [2, 3, 5, 6, 11, 12, 13, 14, 15] 2 true (some 54) (.int .i64 y13_2) (by kernel_rfl) (by kernel_rfl) (yld_load1 (e := 3) (o := 26) hs 2 rfl (by kernel_rfl) (by kernel_rfl) (get_post 0 rfl rfl) .grow) ?_
    refine wpG.q 3 55 (.int .i64 (iquo .i64 y13_2 8)) ?_
    refine wpG.q 4 56 (.pointer (some ⟨b1, 1, none⟩)) ?_
    obtain ⟨x15, hx, h⟩ := of_bind h
    have hx := of_some hx
    subst hx
    obtain ⟨i0_44, h⟩ := of_chk h
    obtain ⟨i1_44, h⟩ := of_chk h
    refine wpG.tD 5 false (some 57) (.pointer (some ⟨b1, 1 + ((iquo .i64 y13_2 8) : Int).toNat * 1, none⟩)) (yld_idx (t := 48) (e := 47) (n := 25) (sz := 1) (k := .i64) (x := (iquo .i64 y13_2 8)) (by kernel_rfl) (by kernel_rfl) (by kernel_rfl) i0_44 i1_44) ?_
    refine wpG.take [6, 11, 12, 13, 14, 15] 6 true (some 58) (.int .u64 (rd y13_1 (iquo .i64 y13_2 8))) (by kernel_rfl) (by kernel_rfl) (yld_loadP (m := 1) (e := 47) (x := (iquo .i64 y13_2 8)) hs 2 rfl (by kernel_rfl) (by kernel_rfl) i0_44 i1_44 (by simp [enc_len]) .grow) ?_
    refine wpG.q 7 59 (.pointer (some ⟨b1, 26, none⟩)) ?_
    refine wpG.take [8, 9, 10, 11, 12, 13, 14, 15] 8 true (some 60) (.int .i64 y13_2) (by kernel_rfl) (by kernel_rfl) (yld_load1 (e := 3) (o := 26) hs 2 rfl (by kernel_rfl) (by kernel_rfl) (get_post 0 rfl rfl) .grow) ?_
    refine wpG.q 9 61 (.int .i64 (irem .i64 y13_2 8)) ?_
    refine wpG.q 10 62 (.int .i64 (imul .i64 8 (irem .i64 y13_2 8))) ?_
    obtain ⟨h0, h⟩ := of_chk h
    refine wpG.tD 11 false (some 63) (.int .u64 (ishr .u64 (rd y13_1 (iquo .i64 y13_2 8)) (imul .i64 8 (irem .i64 y13_2 8)))) (yld_shr (t := 47) (k' := .i64) (by kernel_rfl) h0) ?_
    refine wpG.q 12 64 (.int .u8 (iconv .u8 (ishr .u64 (rd y13_1 (iquo .i64 y13_2 8)) (imul .i64 8 (irem .i64 y13_2 8))))) ?_
    refine wpG.only 13 (by kernel_rfl) (op_lit (C := (CI .u8)) (t := 22) (e := 5) (len := 1) (parts := #[(0, .int .u8 (iconv .u8 (ishr .u64 (rd y13_1 (iquo .i64 y13_2 8)) (imul .i64 8 (irem .i64 y13_2 8)))))]) (l := [(iconv .u8 (ishr .u64 (rd y13_1 (iquo .i64 y13_2 8)) (imul .i64 8 (irem .i64 y13_2 8))))]) (d := (some 65)) (by kernel_rfl) hs (by kernel_rfl) (by kernel_rfl) (by kernel_rfl) (z := .int .u8 0) (by kernel_rfl) rfl (by decide) (by decide) (by kernel_rfl) ?_)
    intro s16_A s16_n s16_c w gw hs
    refine ⟨.of gw, ?_⟩
    obtain ⟨h0, h⟩ := of_chk h
    refine wpG.only 14 (by kernel_rfl) (op_appendT (C := (CI .u8)) (t := 22) (ty := 22) (e := 5) (bytes := 1) (B := 140737488355328) (d := (some 66)) (by kernel_rfl) hs 1 rfl (hs.rowL 0 rfl) (by kernel_rfl) (by kernel_rfl) (by kernel_rfl) (by kernel_rfl) (by kernel_rfl) h0 (by decide) (by decide) ?_)
    intro s17_A s17_n s17_c w hs
    refine ⟨⟨fun hf => absurd hf (by decide), .all _ _⟩, ?_⟩
    refine wpG.q 15 8 (.slice s17_A s17_n s17_c) ?_
    refine wpG.fin (by kernel_rfl) rfl (kr43 _ _ ?_)
    refine then_n (ks42 _ _ (xregS [0, 1, 2, 3, 4] fun KR45 kr45 => ?_))
    refine wpS.q 0 67 (.pointer (some ⟨b1, 26, none⟩)) ?_
    refine wpS.tk 1 true (some 68) (.int .i64 y13_2) (yld_load1 (e := 3) (o := 26) hs 3 rfl (by kernel_rfl) (by kernel_rfl) (get_post 0 rfl rfl) .grow) ?_
    refine wpS.qs [(2, 69, .int .i64 (iadd .i64 y13_2 1)), (3, 70, .pointer (some ⟨b1, 26, none⟩))] ?_
    obtain ⟨x18, hx, h⟩ := of_bind h
    refine wpS.only 4 (op_storeQ (t := 3) (o := 26) (v := .int .i64 x18) (d := none) (by kernel_rfl) hs 3 rfl (by cases hx; kernel_rfl) rfl (by kernel_rfl) (by simp [enc_len]) (set_post 0 rfl) ?_)
    intro w kp hs
    try dsimp only [List.set] at hs
    refine ⟨fun _ => trivial, ?_⟩
    refine wpS.fin rfl (kr45 _ _ (inBlock_n ?_))
    exact then_n (kl0 _ _ ⟨n, Nat.lt_succ_self n, (z9 ++ ([(iconv .u8 (ishr .u64 (rd y13_1 (iquo .i64 y13_2 8)) (imul .i64 8 (irem .i64 y13_2 8))))] : List Int)), y13_0, y13_1, x18, y13_3, s17_A, s17_n, s17_c, h, (hs.drop (.cons _ (.cons_cons _ (.cons_cons _ (.cons_cons _ .slnil))))), exg (by kernel_rfl)⟩)
   refine wpS.tk 3 false (some 42) (.bool false) (yld_b (df hc) (fun _ => by kernel_rfl)) ?_
   refine wpS.fin rfl (kr34 _ _ (then_n (ks33 _ _ (wp_cond_f (by kernel_rfl) (xexit (then_x (then_x (inBlock_hit ?_))))))))
   obtain ⟨q0, qr0⟩ := Prod.mk.inj (of_some h)
   obtain ⟨q1, qr1⟩ := Prod.mk.inj (qr0)
   obtain ⟨q2, qr2⟩ := Prod.mk.inj (qr1)
   obtain ⟨q3, qr3⟩ := Prod.mk.inj (qr2)
   have q4 := qr3
   subst q0
   subst q1
   subst q2
   subst q3
   subst q4
   exact exq_n (nn0 _ _ ⟨z9_A, z9_n, z9_c, (hs.conv rfl), exg (by kernel_rfl)⟩)
 clear hs h hy
 rintro a w ⟨y11_A, y11_n, y11_c, hs, g31, rfl⟩
 have h := hk0
 refine then_n (ks29 _ _ (xseq_k fun KS46 ks46 => (xregS [0, 1, 2, 3] fun KR47 kr47 => ?_)))
 refine wpS.tk 0 true (some 71) (.agg (([.int .i64 y12_0] : List Value) ++ enc .u64 y12_1 ++ ([.int .i64 y12_2, .bool y12_3] : List Value)).toArray) (yld_loadW (e := 50) (n := 28) hs 2 rfl (by kernel_rfl) (by kernel_rfl) (by kernel_rfl) (by simp [enc_len]) .grow) ?_
 refine wpS.q 1 72 (.slice y11_A y11_n y11_c) ?_
 refine wpS.only 2 (op_storeW (t := 50) (v := .agg (([.int .i64 y12_0] : List Value) ++ enc .u64 y12_1 ++ ([.int .i64 y12_2, .bool y12_3] : List Value)).toArray) (d := none) (by kernel_rfl) hs 1 rfl (vs := ([.int .i64 y12_0] : List Value) ++ enc .u64 y12_1 ++ ([.int .i64 y12_2, .bool y12_3] : List Value)) (n := 28) (by kernel_rfl) (by kernel_rfl) (by kernel_rfl) (by simp [enc_len]) (by simp [enc_len]) (one_app (one_app (by simp [Value.oneCell']) (fun u hu => enc_one _ _ u hu)) (by simp [Value.oneCell'])) ?_)
 intro w kp hs
 refine ⟨fun _ => trivial, ?_⟩
 refine wpS.q 3 5 (.slice y11_A y11_n y11_c) ?_
 refine wpS.fin rfl (kr47 _ _ (then_n (ks46 _ _ (xret ?_))))
 obtain ⟨q0, qr0⟩ := Prod.mk.inj (of_some h)
 obtain ⟨q1, qr1⟩ := Prod.mk.inj (qr0)
 obtain ⟨q2, qr2⟩ := Prod.mk.inj (qr1)
 obtain ⟨q3, qr3⟩ := Prod.mk.inj (qr2)
 have q4 := qr3
 subst q0
 subst q1
 subst q2
 subst q3
 subst q4
 exact qq _ _ (post_ret (by kernel_rfl) (run_results [.cell 4 50, .tmp 5] [.agg (([.int .i64 y12_0] : List Value) ++ enc .u64 y12_1 ++ ([.int .i64 y12_2, .bool y12_3] : List Value)).toArray, .slice y11_A y11_n y11_c] (by kernel_rfl) (.cons (res_cellN (n := 28) hs 1 rfl (by kernel_rfl) (by kernel_rfl) (by kernel_rfl) (by simp [enc_len])) (.cons (res_tmp (by kernel_rfl)) .nil))) ⟨⟨y11_A, y11_n, y11_c⟩, congrArg Ending.returned (by kernel_rfl), (hs.drop (.cons_cons _ (.cons _ (.cons _ .slnil))))⟩)

theorem ref08_Absorb.ok {K : Nat} {a0_0 : Int} {a0_1 : Arr 25} {a0_2 : Int} {a0_3 : Bool} {a1 : List Int} {r0_0 : Int} {r0_1 : Arr 25} {r0_2 : Int} {r0_3 : Bool} {a1_A : Option Addr} {a1_n : Nat} {a1_c : Nat} (h : ref08_Absorb.f K a0_0 a0_1 a0_2 a0_3 a1 = some (r0_0, r0_1, r0_2, r0_3)) (w0 : World) (hp1 : RowL (CI .u8) w0 a1_A a1_n a1_c a1) : Ret Tryd.prog 50 #[.agg (([.int .i64 a0_0] : List Value) ++ enc .u64 a0_1 ++ ([.int .i64 a0_2, .bool a0_3] : List Value)).toArray, .slice a1_A a1_n a1_c] w0 (.agg (([.int .i64 r0_0] : List Value) ++ enc .u64 r0_1 ++ ([.int .i64 r0_2, .bool r0_3] : List Value)).toArray) := by
 refine calls_k Tryd.func50 rfl fun Q qq => ?_
 have hs := St.startR (all_cons (RowP.ent hp1) all_nil)
 refine wp_conv (a' := ⟨#[.agg (([.int .i64 a0_0] : List Value) ++ enc .u64 a0_1 ++ ([.int .i64 a0_2, .bool a0_3] : List Value)).toArray, .slice a1_A a1_n a1_c, undef, undef, undef, undef, undef, undef, undef, undef, undef, undef, undef, undef, undef, undef, undef, undef, undef, undef, undef, undef, undef, undef, undef, undef, undef, undef, undef, undef, undef, undef, undef, undef, undef, undef, undef, undef, undef, undef, undef], []⟩) (by kernel_rfl) ?_
 refine xseq_k fun KS1 ks1 => ?_
 refine xregS [0, 1] fun KR2 kr2 => ?_
 refine wpS.only 0 (op_box (t := 50) (v := .agg (([.int .i64 a0_0] : List Value) ++ enc .u64 a0_1 ++ ([.int .i64 a0_2, .bool a0_3] : List Value)).toArray) (d := (some 2)) (by kernel_rfl) hs (([.int .i64 a0_0] : List Value) ++ enc .u64 a0_1 ++ ([.int .i64 a0_2, .bool a0_3] : List Value)) (by kernel_rfl) (by kernel_rfl) ?_)
 intro b1 w gw hs
 refine ⟨fun _ => trivial, ?_⟩
 refine wpS.only 1 (op_alloc (t := 50) (d := (some 4)) (by kernel_rfl) hs (([.int .i64 0] : List Value) ++ enc .u64 (zeroA 25) ++ ([.int .i64 0, .bool false] : List Value)) (.agg (([.int .i64 0] : List Value) ++ enc .u64 (zeroA 25) ++ ([.int .i64 0, .bool false] : List Value)).toArray) (by kernel_rfl) (by kernel_rfl) (by kernel_rfl) ?_)
 intro b2 w gw hs
 refine ⟨fun _ => trivial, ?_⟩
 refine wpS.fin rfl (kr2 _ _ (then_n (ks1 _ _ (xseq_k fun KS3 ks3 => (xseq_k fun KS4 ks4 => (xregS [0, 1] fun KR5 kr5 => ?_))))))
 refine wpS.q 0 6 (.pointer (some ⟨b1, 27, none⟩)) ?_
 cases a0_3 with
 | true =>
  have h := of_if_t h
  refine wpS.tk 1 true (some 7) (.bool true) (yld_load1 (e := 4) (o := 27) hs 1 rfl (by kernel_rfl) (by kernel_rfl) (get_post 1 rfl rfl) .grow) ?_
  refine wpS.fin rfl (kr5 _ _ (then_n (ks4 _ _ (wp_cond_t (by kernel_rfl) (xseq_k fun KS6 ks6 => (xregS [0, 1] fun KR7 kr7 => ?_))))))
  refine wpS.tk 0 true (some 8) (.agg (([.int .i64 a0_0] : List Value) ++ enc .u64 a0_1 ++ ([.int .i64 a0_2, .bool true] : List Value)).toArray) (yld_loadW (e := 50) (n := 28) hs 1 rfl (by kernel_rfl) (by kernel_rfl) (by kernel_rfl) (by simp [enc_len]) .grow) ?_
  refine wpS.only 1 (op_storeW (t := 50) (v := .agg (([.int .i64 a0_0] : List Value) ++ enc .u64 a0_1 ++ ([.int .i64 a0_2, .bool true] : List Value)).toArray) (d := none) (by kernel_rfl) hs 0 rfl (vs := ([.int .i64 a0_0] : List Value) ++ enc .u64 a0_1 ++ ([.int .i64 a0_2, .bool true] : List Value)) (n := 28) (by kernel_rfl) (by kernel_rfl) (by kernel_rfl) (by simp [enc_len]) (by simp [enc_len]) (one_app (one_app (by simp [Value.oneCell']) (fun u hu => enc_one _ _ u hu)) (by simp [Value.oneCell'])) ?_)
  intro w kp hs
  refine ⟨fun _ => trivial, ?_⟩
  refine wpS.fin rfl (kr7 _ _ (then_n (ks6 _ _ (xret (then_r ?_)))))
  obtain ⟨q0, qr0⟩ := Prod.mk.inj (of_some h)
  obtain ⟨q1, qr1⟩ := Prod.mk.inj (qr0)
  obtain ⟨q2, qr2⟩ := Prod.mk.inj (qr1)
  have q3 := qr2
  subst q0
  subst q1
  subst q2
  subst q3
  exact qq _ _ (post_ret (by kernel_rfl) (run_results [.cell 4 50] [.agg (([.int .i64 a0_0] : List Value) ++ enc .u64 a0_1 ++ ([.int .i64 a0_2, .bool true] : List Value)).toArray] (by kernel_rfl) (.cons (res_cellN (n := 28) hs 0 rfl (by kernel_rfl) (by kernel_rfl) (by kernel_rfl) (by simp [enc_len])) .nil)) ⟨congrArg Ending.returned (by kernel_rfl), hs.none⟩)
 | false =>
  have h := of_if_f h
  refine wpS.tk 1 true (some 7) (.bool false) (yld_load1 (e := 4) (o := 27) hs 1 rfl (by kernel_rfl) (by kernel_rfl) (get_post 1 rfl rfl) .grow) ?_
  refine wpS.fin rfl (kr5 _ _ (then_n (ks4 _ _ (wp_cond_f (by kernel_rfl) (xskip (then_n (ks3 _ _ (xseq_k fun KS8 ks8 => (xseq_k fun KS9 ks9 => (xregS [0] fun KR10 kr10 => ?_))))))))))
  refine wpS.q 0 5 (.int .i64 0) ?_
  refine wpS.fin rfl (kr10 _ _ (then_n (ks9 _ _ ?_)))
  obtain ⟨⟨y5_0, y5_1, y5_2, y5_3⟩, hy, hk0⟩ := of_bind h
  refine wp_exq (N := fun a w => St w0 [] [.blk b2 (([.int .i64 0] : List Value) ++ enc .u64 (zeroA 25) ++ ([.int .i64 0, .bool false] : List Value)) 50, .blk b1 (([.int .i64 y5_0] : List Value) ++ enc .u64 y5_1 ++ ([.int .i64 y5_2, .bool y5_3] : List Value)) 50] [.rowL (CI .u8) a1_A a1_n a1_c a1] w ∧ ∃ g12 : Nat → Value, a = ⟨#[.agg (([.int .i64 a0_0] : List Value) ++ enc .u64 a0_1 ++ ([.int .i64 a0_2, .bool false] : List Value)).toArray, .slice a1_A a1_n a1_c, .pointer (some ⟨b1, 0, none⟩), undef, .pointer (some ⟨b2, 0, none⟩), (g12 5), .pointer (some ⟨b1, 27, none⟩), .bool false, undef, (g12 9), (g12 10), (g12 11), (g12 12), (g12 13), (g12 14), (g12 15), (g12 16), (g12 17), (g12 18), (g12 19), (g12 20), (g12 21), (g12 22), (g12 23), (g12 24), (g12 25), (g12 26), (g12 27), (g12 28), (g12 29), (g12 30), (g12 31), (g12 32), (g12 33), (g12 34), (g12 35), (g12 36), (g12 37), (g12 38), (g12 39), undef], []⟩) (fun N0 nn0 => ?_) ?_
  ·clear hk0
   refine xblock ?_
   refine wp_loop_k (fun n a w => ∃ z3 z4_0 z4_1 z4_2 z4_3, ref08_Absorb.l0 K n a1 z3 z4_0 z4_1 z4_2 z4_3 = some (y5_0, y5_1, y5_2, y5_3) ∧ St w0 [] [.blk b2 (([.int .i64 0] : List Value) ++ enc .u64 (zeroA 25) ++ ([.int .i64 0, .bool false] : List Value)) 50, .blk b1 (([.int .i64 z4_0] : List Value) ++ enc .u64 z4_1 ++ ([.int .i64 z4_2, .bool z4_3] : List Value)) 50] [.rowL (CI .u8) a1_A a1_n a1_c a1] w ∧ ∃ g11 : Nat → Value, a = ⟨#[.agg (([.int .i64 a0_0] : List Value) ++ enc .u64 a0_1 ++ ([.int .i64 a0_2, .bool false] : List Value)).toArray, .slice a1_A a1_n a1_c, .pointer (some ⟨b1, 0, none⟩), undef, .pointer (some ⟨b2, 0, none⟩), .int .i64 z3, .pointer (some ⟨b1, 27, none⟩), .bool false, undef, (g11 9), (g11 10), (g11 11), (g11 12), (g11 13), (g11 14), (g11 15), (g11 16), (g11 17), (g11 18), (g11 19), (g11 20), (g11 21), (g11 22), (g11 23), (g11 24), (g11 25), (g11 26), (g11 27), (g11 28), (g11 29), (g11 30), (g11 31), (g11 32), (g11 33), (g11 34), (g11 35), (g11 36), (g11 37), (g11 38), (g11 39), undef], []⟩) K ⟨0, a0_0, a0_1, a0_2, false, hy, hs.conv rfl, exg (by kernel_rfl)⟩ ?_
   clear hs h hy
   rintro n a w ⟨z3, z4_0, z4_1, z4_2, z4_3, h, hs, g11, rfl⟩ KL0 kl0
   cases n with
   | zero => exact nomatch (show none = some _ from h)
   | succ n =>
    refine xseq_k fun KS13 ks13 => ?_
    refine xseq_k fun KS14 ks14 => ?_
    refine xregS [0, 1, 2, 3] fun KR15 kr15 => ?_
    refine wpS.qs [(0, 9, .int .i64 z3), (1, 10, .slice a1_A a1_n a1_c)] ?_
    refine wpS.tk 2 false (some 11) (.int .i64 (a1.length : Int)) (yld_lenL (hs.rowR 0 rfl) (fun _ => by kernel_rfl)) ?_
    rcases of_if h with ⟨hc, h⟩ | ⟨hc, h⟩
    ·refine wpS.tk 3 false (some 12) (.bool true) (yld_b (dt hc) (fun _ => by kernel_rfl)) ?_
     refine wpS.fin rfl (kr15 _ _ (then_n (ks14 _ _ (wp_cond_t (by kernel_rfl) (xskip (then_n (ks13 _ _ ?_)))))))
     obtain ⟨⟨y6_0, y6_1, y6_2, y6_3⟩, hj, h⟩ := of_bind h
     refine xseq_k fun KS17 ks17 => wp_join (N := fun a w => St w0 [] [.blk b2 (([.int .i64 0] : List Value) ++ enc .u64 (zeroA 25) ++ ([.int .i64 0, .bool false] : List Value)) 50, .blk b1 (([.int .i64 y6_0] : List Value) ++ enc .u64 y6_1 ++ ([.int .i64 y6_2, .bool y6_3] : List Value)) 50] [.rowL (CI .u8) a1_A a1_n a1_c a1] w ∧ ∃ g16 : Nat → Value, a = ⟨#[.agg (([.int .i64 a0_0] : List Value) ++ enc .u64 a0_1 ++ ([.int .i64 a0_2, .bool false] : List Value)).toArray, .slice a1_A a1_n a1_c, .pointer (some ⟨b1, 0, none⟩), undef, .pointer (some ⟨b2, 0, none⟩), .int .i64 z3, .pointer (some ⟨b1, 27, none⟩), .bool false, undef, .int .i64 z3, .slice a1_A a1_n a1_c, .int .i64 (a1.length : Int), .bool true, (g11 13), (g11 14), (g16 15), (g16 16), (g16 17), (g16 18), (g16 19), (g16 20), (g16 21), (g16 22), (g16 23), (g16 24), (g16 25), (g16 26), (g16 27), (g16 28), (g16 29), (g16 30), (g16 31), (g16 32), (g16 33), (g16 34), (g16 35), (g16 36), (g16 37), (g16 38), (g16 39), undef], []⟩) (fun N nj => ?_) ?_
     ·clear h
      have h := hj
      refine xblock (xseq_k fun KS18 ks18 => ?_)
      refine wp_regG [10] (fun k => True) 11 (by kernel_rfl) (by kernel_rfl) (by kernel_rfl) fun KR19 kr19 => ?_
      have hs := hs.drawn1
      refine wpG.q 0 15 (.pointer (some ⟨b1, 1, none⟩)) ?_
      refine wpG.tD 1 true (some 16) (.agg (enc .u64 z4_1).toArray) (yld_loadN (e := 48) (n := 25) (o := 1) hs 1 rfl (by kernel_rfl) (by kernel_rfl) (by kernel_rfl) (mid_of rfl) (enc_len _ _) .grow) ?_
      refine wpG.q 2 17 (.pointer (some ⟨b1, 26, none⟩)) ?_
      refine wpG.tD 3 true (some 18) (.int .i64 z4_2) (yld_load1 (e := 3) (o := 26) hs 1 rfl (by kernel_rfl) (by kernel_rfl) (get_post 0 rfl rfl) .grow) ?_
      refine wpG.q 4 19 (.slice a1_A a1_n a1_c) ?_
      refine wpG.q 5 20 (.int .i64 z3) ?_
      obtain ⟨h0, h⟩ := of_chk h
      obtain ⟨h1, h⟩ := of_chk h
      have i0_20 := h0
      have i1_20 := h1
      refine wpG.tD 6 false (some 21) (.pointer (adr a1_A ((z3 : Int).toNat * Cod.size (CI .u8)))) (yld_idxL (C := (CI .u8)) (t := 22) (e := 5) (k := .i64) (x := z3) (hs.rowR 0 rfl) (by kernel_rfl) (by kernel_rfl) (by kernel_rfl) h0 h1) ?_
      refine wpG.tD 7 true (some 22) (.int .u8 (rdL (CI .u8) a1 z3)) (yld_loadL (C := (CI .u8)) (e := 5) (x := z3) (hs.rowR 0 rfl) (by kernel_rfl) rfl (by kernel_rfl) i0_20 i1_20) ?_
      obtain ⟨r7, hg, h⟩ := of_bind h
      refine wpG.only 8 (by kernel_rfl) (op_call (d := (some 23)) (by kernel_rfl) hs (fun _ => by kernel_rfl) (ref08_put.ok hg _) ?_)
      intro w gw hs
      refine ⟨.of gw, ?_⟩
      refine wpG.q 9 24 (.pointer (some ⟨b1, 1, none⟩)) ?_
      refine wpG.only 10 (by kernel_rfl) (op_storeM (t := 48) (o := 1) (m := 25) (v := .agg (enc .u64 r7).toArray) (vs := enc .u64 r7) (d := none) (by kernel_rfl) hs 1 rfl (by kernel_rfl) (by kernel_rfl) (by kernel_rfl) (enc_len _ _) (by simp [enc_len]) (by intro u hu; exact enc_one _ _ u hu) (splice_row rfl) ?_)
      intro w kp hs
      refine ⟨⟨fun hf => absurd hf (by decide), .all _ _⟩, ?_⟩
      refine wpG.fin (by kernel_rfl) rfl (kr19 _ _ ?_)
      refine then_n (ks18 _ _ (xseq_k fun KS21 ks21 => (xregS [0, 1, 2, 3, 4] fun KR22 kr22 => ?_)))
      refine wpS.q 0 25 (.pointer (some ⟨b1, 26, none⟩)) ?_
      refine wpS.tk 1 true (some 26) (.int .i64 z4_2) (yld_load1 (e := 3) (o := 26) hs 1 rfl (by kernel_rfl) (by kernel_rfl) (get_post 0 rfl rfl) .grow) ?_
      refine wpS.qs [(2, 27, .int .i64 (iadd .i64 z4_2 1)), (3, 28, .pointer (some ⟨b1, 26, none⟩))] ?_
      obtain ⟨x8, hx, h⟩ := of_bind h
      refine wpS.only 4 (op_storeQ (t := 3) (o := 26) (v := .int .i64 x8) (d := none) (by kernel_rfl) hs 1 rfl (by cases hx; kernel_rfl) rfl (by kernel_rfl) (by simp [enc_len]) (set_post 0 rfl) ?_)
      intro w kp hs
      try dsimp only [List.set] at hs
      refine ⟨fun _ => trivial, ?_⟩
      refine wpS.fin rfl (kr22 _ _ (then_n (ks21 _ _ (xseq_k fun KS23 ks23 => ?_))))
      refine wp_regG [] (fun k => True) 6 (by kernel_rfl) (by kernel_rfl) (by kernel_rfl) fun KR24 kr24 => ?_
      have hs := hs.drawn1
      refine wpG.q 0 29 (.pointer (some ⟨b1, 26, none⟩)) ?_
      refine wpG.tD 1 true (some 30) (.int .i64 x8) (yld_load1 (e := 3) (o := 26) hs 1 rfl (by kernel_rfl) (by kernel_rfl) (get_post 0 rfl rfl) .grow) ?_
      refine wpG.q 2 31 (.pointer (some ⟨b1, 0, none⟩)) ?_
      refine wpG.tD 3 true (some 32) (.int .i64 z4_0) (yld_load1 (e := 3) (o := 0) hs 1 rfl (by kernel_rfl) (by kernel_rfl) (get_pre rfl) .grow) ?_
      obtain ⟨r9, hg, h⟩ := of_bind h
      refine wpG.only 4 (by kernel_rfl) (op_call (d := (some 33)) (by kernel_rfl) hs (fun _ => by kernel_rfl) (ref08_Rate.ok hg _) ?_)
      intro w gw hs
      refine ⟨.of gw, ?_⟩
      rcases of_if h with ⟨hc, h⟩ | ⟨hc, h⟩
      ·refine wpG.tD 5 false (some 34) (.bool true) (yld_b (et hc) (fun _ => by kernel_rfl)) ?_
       refine wpG.fin (by kernel_rfl) rfl (kr24 _ _ ?_)
       refine then_n (ks23 _ _ (wp_cond_t (by kernel_rfl) (xseq_k fun KS25 ks25 => (xregS [0, 1, 2, 3, 4] fun KR26 kr26 => ?_))))
       refine wpS.q 0 35 (.pointer (some ⟨b1, 1, none⟩)) ?_
       refine wpS.tk 1 true (some 36) (.agg (enc .u64 r7).toArray) (yld_loadN (e := 48) (n := 25) (o := 1) hs 1 rfl (by kernel_rfl) (by kernel_rfl) (by kernel_rfl) (mid_of rfl) (enc_len _ _) .grow) ?_
       obtain ⟨r10, hg, h⟩ := of_bind h
       refine wpS.only 2 (op_call (d := (some 37)) (by kernel_rfl) hs (fun _ => by kernel_rfl) (ref08_Permute.ok hg _) ?_)
       intro w gw hs
       refine ⟨fun _ => trivial, ?_⟩
       refine wpS.q 3 38 (.pointer (some ⟨b1, 1, none⟩)) ?_
       refine wpS.only 4 (op_storeM (t := 48) (o := 1) (m := 25) (v := .agg (enc .u64 r10).toArray) (vs := enc .u64 r10) (d := none) (by kernel_rfl) hs 1 rfl (by kernel_rfl) (by kernel_rfl) (by kernel_rfl) (enc_len _ _) (by simp [enc_len]) (by intro u hu; exact enc_one _ _ u hu) (splice_row rfl) ?_)
       intro w kp hs
       refine ⟨fun _ => trivial, ?_⟩
       refine wpS.fin rfl (kr26 _ _ (then_n (ks25 _ _ (xregS [0, 1] fun KR27 kr27 => ?_))))
       refine wpS.q 0 39 (.pointer (some ⟨b1, 26, none⟩)) ?_
       refine wpS.only 1 (op_storeQ (t := 3) (o := 26) (v := .int .i64 0) (d := none) (by kernel_rfl) hs 1 rfl (by kernel_rfl) rfl (by kernel_rfl) (by simp [enc_len]) (set_post 0 rfl) ?_)
       intro w kp hs
       try dsimp only [List.set] at hs
       refine ⟨fun _ => trivial, ?_⟩
       refine wpS.fin rfl (kr27 _ _ (inBlock_n ?_))
       obtain ⟨q0, qr0⟩ := Prod.mk.inj (of_some h)
       obtain ⟨q1, qr1⟩ := Prod.mk.inj (qr0)
       obtain ⟨q2, qr2⟩ := Prod.mk.inj (qr1)
       have q3 := qr2
       subst q0
       subst q1
       subst q2
       subst q3
       exact nj _ _ ⟨(hs.conv rfl), exg (by kernel_rfl)⟩
      refine wpG.tD 5 false (some 34) (.bool false) (yld_b (ef hc) (fun _ => by kernel_rfl)) ?_
      refine wpG.fin (by kernel_rfl) rfl (kr24 _ _ ?_)
      refine then_n (ks23 _ _ (wp_cond_f (by kernel_rfl) (xskip (inBlock_n ?_))))
      obtain ⟨q0, qr0⟩ := Prod.mk.inj (of_some h)
      obtain ⟨q1, qr1⟩ := Prod.mk.inj (qr0)
      obtain ⟨q2, qr2⟩ := Prod.mk.inj (qr1)
      have q3 := qr2
      subst q0
      subst q1
      subst q2
      subst q3
      exact nj _ _ ⟨(hs.conv rfl), exg (by kernel_rfl)⟩
     clear hj hs
     rintro a w ⟨hs, g16, rfl⟩
     refine then_n (ks17 _ _ (xregS [0, 1, 2] fun KR28 kr28 => ?_))
     refine wpS.qs [(0, 13, .int .i64 z3), (1, 14, .int .i64 (iadd .i64 z3 1))] ?_
     obtain ⟨x11, hx, h⟩ := of_bind h
     refine wpS.tk 2 false (some 5) (.int .i64 x11) (yld_int hx (fun _ => by kernel_rfl)) ?_
     refine wpS.fin rfl (kr28 _ _ ?_)
     exact then_n (kl0 _ _ ⟨n, Nat.lt_succ_self n, x11, y6_0, y6_1, y6_2, y6_3, h, (hs.conv rfl), exg (by kernel_rfl)⟩)
    refine wpS.tk 3 false (some 12) (.bool false) (yld_b (df hc) (fun _ => by kernel_rfl)) ?_
    refine wpS.fin rfl (kr15 _ _ (then_n (ks14 _ _ (wp_cond_f (by kernel_rfl) (xexit (then_x (then_x (inBlock_hit ?_))))))))
    obtain ⟨q0, qr0⟩ := Prod.mk.inj (of_some h)
    obtain ⟨q1, qr1⟩ := Prod.mk.inj (qr0)
    obtain ⟨q2, qr2⟩ := Prod.mk.inj (qr1)
    have q3 := qr2
    subst q0
    subst q1
    subst q2
    subst q3
    exact exq_n (nn0 _ _ ⟨(hs.conv rfl), exg (by kernel_rfl)⟩)
  clear hs h hy
  rintro a w ⟨hs, g12, rfl⟩
  have h := hk0
  refine then_n (ks8 _ _ (xseq_k fun KS29 ks29 => (xregS [0, 1] fun KR30 kr30 => ?_)))
  refine wpS.tk 0 true (some 40) (.agg (([.int .i64 y5_0] : List Value) ++ enc .u64 y5_1 ++ ([.int .i64 y5_2, .bool y5_3] : List Value)).toArray) (yld_loadW (e := 50) (n := 28) hs 1 rfl (by kernel_rfl) (by kernel_rfl) (by kernel_rfl) (by simp [enc_len]) .grow) ?_
  refine wpS.only 1 (op_storeW (t := 50) (v := .agg (([.int .i64 y5_0] : List Value) ++ enc .u64 y5_1 ++ ([.int .i64 y5_2, .bool y5_3] : List Value)).toArray) (d := none) (by kernel_rfl) hs 0 rfl (vs := ([.int .i64 y5_0] : List Value) ++ enc .u64 y5_1 ++ ([.int .i64 y5_2, .bool y5_3] : List Value)) (n := 28) (by kernel_rfl) (by kernel_rfl) (by kernel_rfl) (by simp [enc_len]) (by simp [enc_len]) (one_app (one_app (by simp [Value.oneCell']) (fun u hu => enc_one _ _ u hu)) (by simp [Value.oneCell'])) ?_)
  intro w kp hs
  refine ⟨fun _ => trivial, ?_⟩
  refine wpS.fin rfl (kr30 _ _ (then_n (ks29 _ _ (xret ?_))))
  obtain ⟨q0, qr0⟩ := Prod.mk.inj (of_some h)
  obtain ⟨q1, qr1⟩ := Prod.mk.inj (qr0)
  obtain ⟨q2, qr2⟩ := Prod.mk.inj (qr1)
  have q3 := qr2
  subst q0
  subst q1
  subst q2
  subst q3
  exact qq _ _ (post_ret (by kernel_rfl) (run_results [.cell 4 50] [.agg (([.int .i64 y5_0] : List Value) ++ enc .u64 y5_1 ++ ([.int .i64 y5_2, .bool y5_3] : List Value)).toArray] (by kernel_rfl) (.cons (res_cellN (n := 28) hs 0 rfl (by kernel_rfl) (by kernel_rfl) (by kernel_rfl) (by simp [enc_len])) .nil)) ⟨congrArg Ending.returned (by kernel_rfl), hs.none⟩)

theorem ref08_Sum.ok {K : Nat} {a0 : Int} {a1 : List Int} {a2 : Int} {r0 : List Int} {r1 : Int} {a1_A : Option Addr} {a1_n : Nat} {a1_c : Nat} (h : ref08_Sum.f K a0 a1 a2 = some (r0, r1)) (w0 : World) (hp1 : RowL (CI .u8) w0 a1_A a1_n a1_c a1) : Calls Tryd.prog 27 #[.int .i64 a0, .slice a1_A a1_n a1_c, .int .i64 a2] w0 fun e w' => ∃ h : (Option Addr × Nat × Nat), e = .returned (.tuple #[.slice h.1 h.2.1 h.2.2, .int .i64 r1]) ∧ St w0 [] [.ownL (CI .u8) h.1 h.2.1 h.2.2 r0 5] [] w' := by
 refine calls_k Tryd.func27 rfl fun Q qq => ?_
 have hs := St.startR (all_cons (RowP.ent hp1) all_nil)
 refine wp_conv (a' := ⟨#[.int .i64 a0, .slice a1_A a1_n a1_c, .int .i64 a2, undef, undef, undef, undef, undef, undef, undef, undef, undef, undef, undef, undef, undef, undef, undef, undef, undef, undef, undef, undef, undef, undef, undef, undef, undef, undef, undef, undef, undef, undef, undef, undef], []⟩) (by kernel_rfl) ?_
 refine xseq_k fun KS1 ks1 => ?_
 refine xregS [0, 1] fun KR2 kr2 => ?_
 refine wpS.qs [(0, 6, .slice none 0 0), (1, 7, .int .i64 0)] ?_
 refine wpS.fin rfl (kr2 _ _ (then_n (ks1 _ _ (xseq_k fun KS3 ks3 => (xregS [0, 1, 2, 3, 4, 5, 6, 7] fun KR4 kr4 => ?_)))))
 refine wpS.q 0 13 (.int .i64 a0) ?_
 obtain ⟨⟨r1_0, r1_1, r1_2, r1_3, r2⟩, hg, h⟩ := of_bind h
 refine wpS.only 1 (op_call (d := (some 14)) (by kernel_rfl) hs (fun _ => by kernel_rfl) (ref08_New.ok hg _) ?_)
 intro w gw hs
 refine ⟨fun _ => trivial, ?_⟩
 refine wpS.qs [(2, 12, .tuple #[.agg (([.int .i64 r1_0] : List Value) ++ enc .u64 r1_1 ++ ([.int .i64 r1_2, .bool r1_3] : List Value)).toArray, .int .i64 r2]), (3, 15, .agg (([.int .i64 r1_0] : List Value) ++ enc .u64 r1_1 ++ ([.int .i64 r1_2, .bool r1_3] : List Value)).toArray), (4, 16, .int .i64 r2)] ?_
 refine wpS.only 5 (op_alloc (t := 50) (d := (some 8)) (by kernel_rfl) hs (([.int .i64 0] : List Value) ++ enc .u64 (zeroA 25) ++ ([.int .i64 0, .bool false] : List Value)) (.agg (([.int .i64 0] : List Value) ++ enc .u64 (zeroA 25) ++ ([.int .i64 0, .bool false] : List Value)).toArray) (by kernel_rfl) (by kernel_rfl) (by kernel_rfl) ?_)
 intro b3 w gw hs
 refine ⟨fun _ => trivial, ?_⟩
 refine wpS.only 6 (op_storeW (t := 50) (v := .agg (([.int .i64 r1_0] : List Value) ++ enc .u64 r1_1 ++ ([.int .i64 r1_2, .bool r1_3] : List Value)).toArray) (d := none) (by kernel_rfl) hs 0 rfl (vs := ([.int .i64 r1_0] : List Value) ++ enc .u64 r1_1 ++ ([.int .i64 r1_2, .bool r1_3] : List Value)) (n := 28) (by kernel_rfl) (by kernel_rfl) (by kernel_rfl) (by simp [enc_len]) (by simp [enc_len]) (one_app (one_app (by simp [Value.oneCell']) (fun u hu => enc_one _ _ u hu)) (by simp [Value.oneCell'])) ?_)
 intro w kp hs
 refine ⟨fun _ => trivial, ?_⟩
 refine wpS.q 7 9 (.int .i64 r2) ?_
 refine wpS.fin rfl (kr4 _ _ (then_n (ks3 _ _ (xseq_k fun KS5 ks5 => (xseq_k fun KS6 ks6 => (xregS [0, 1] fun KR7 kr7 => ?_))))))
 refine wpS.q 0 17 (.int .i64 r2) ?_
 rcases of_if h with ⟨hc, h⟩ | ⟨hc, h⟩
 ·refine wpS.tk 1 false (some 18) (.bool false) (yld_b (nf hc) (fun _ => by kernel_rfl)) ?_
  refine wpS.fin rfl (kr7 _ _ (then_n (ks6 _ _ (wp_cond_f (by kernel_rfl) (xskip (then_n (ks5 _ _ (xseq_k fun KS8 ks8 => (xseq_k fun KS9 ks9 => (xregS [0, 1, 2, 3, 4, 5] fun KR10 kr10 => ?_))))))))))
  refine wpS.q 0 20 (.int .i64 a2) ?_
  rcases of_if h with ⟨hc, h⟩ | ⟨hc, h⟩
  ·refine wpS.tk 1 false (some 21) (.bool true) (yld_b (dt hc) (fun _ => by kernel_rfl)) ?_
   refine wpS.qs [(2, 22, .bool true), (3, 23, undef), (4, 24, undef), (5, 25, .bool true)] ?_
   refine wpS.fin rfl (kr10 _ _ (then_n (ks9 _ _ (wp_cond_t (by kernel_rfl) (xseq_k fun KS11 ks11 => (xregS [0, 1] fun KR12 kr12 => ?_))))))
   refine wpS.qs [(0, 6, .slice none 0 0), (1, 7, .int .i64 8)] ?_
   refine wpS.fin rfl (kr12 _ _ (then_n (ks11 _ _ (xret (then_r ?_)))))
   obtain ⟨q0, qr0⟩ := Prod.mk.inj (of_some h)
   have q1 := qr0
   subst q0
   subst q1
   have hs := hs.addNilL (CI .u8) 5
   exact qq _ _ (post_ret (by kernel_rfl) (run_results [.tmp 6, .tmp 7] [.slice none 0 0, .int .i64 8] (by kernel_rfl) (.cons (res_tmp (by kernel_rfl)) (.cons (res_tmp (by kernel_rfl)) .nil))) ⟨⟨none, 0, 0⟩, congrArg Ending.returned (by kernel_rfl), ((hs.drop (.cons_cons _ (.cons _ .slnil))).pickR pick_nil)⟩)
  refine wpS.tk 1 false (some 21) (.bool false) (yld_b (df hc) (fun _ => by kernel_rfl)) ?_
  refine wpS.qs [(2, 22, .bool false), (3, 23, .int .i64 a2)] ?_
  rcases of_if h with ⟨hc, h⟩ | ⟨hc, h⟩
  ·refine wpS.tk 4 false (some 24) (.bool true) (yld_b (dt hc) (fun _ => by kernel_rfl)) ?_
   refine wpS.q 5 25 (.bool true) ?_
   refine wpS.fin rfl (kr10 _ _ (then_n (ks9 _ _ (wp_cond_t (by kernel_rfl) (xseq_k fun KS13 ks13 => (xregS [0, 1] fun KR14 kr14 => ?_))))))
   refine wpS.qs [(0, 6, .slice none 0 0), (1, 7, .int .i64 8)] ?_
   refine wpS.fin rfl (kr14 _ _ (then_n (ks13 _ _ (xret (then_r ?_)))))
   obtain ⟨q0, qr0⟩ := Prod.mk.inj (of_some h)
   have q1 := qr0
   subst q0
   subst q1
   have hs := hs.addNilL (CI .u8) 5
   exact qq _ _ (post_ret (by kernel_rfl) (run_results [.tmp 6, .tmp 7] [.slice none 0 0, .int .i64 8] (by kernel_rfl) (.cons (res_tmp (by kernel_rfl)) (.cons (res_tmp (by kernel_rfl)) .nil))) ⟨⟨none, 0, 0⟩, congrArg Ending.returned (by kernel_rfl), ((hs.drop (.cons_cons _ (.cons _ .slnil))).pickR pick_nil)⟩)
  refine wpS.tk 4 false (some 24) (.bool false) (yld_b (df hc) (fun _ => by kernel_rfl)) ?_
  refine wpS.q 5 25 (.bool false) ?_
  refine wpS.fin rfl (kr10 _ _ (then_n (ks9 _ _ (wp_cond_f (by kernel_rfl) (xskip (then_n (ks8 _ _ (xseq_k fun KS15 ks15 => (xregS [0, 1, 2, 3, 4, 5, 6, 7, 8, 9, 10] fun KR16 kr16 => ?_)))))))))
  refine wpS.tk 0 true (some 27) (.agg (([.int .i64 r1_0] : List Value) ++ enc .u64 r1_1 ++ ([.int .i64 r1_2, .bool r1_3] : List Value)).toArray) (yld_loadW (e := 50) (n := 28) hs 0 rfl (by kernel_rfl) (by kernel_rfl) (by kernel_rfl) (by simp [enc_len]) .grow) ?_
  refine wpS.q 1 28 (.slice a1_A a1_n a1_c) ?_
  obtain ⟨⟨r4_0, r4_1, r4_2, r4_3⟩, hg, h⟩ := of_bind h
  refine wpS.only 2 (op_call (d := (some 29)) (by kernel_rfl) hs (fun _ => by kernel_rfl) (ref08_Absorb.ok hg _ (hs.rowR 0 rfl)) ?_)
  intro w gw hs
  refine ⟨fun _ => trivial, ?_⟩
  refine wpS.q 3 30 (.int .i64 a2) ?_
  obtain ⟨⟨r5_0, r5_1, r5_2, r5_3, r6⟩, hg, h⟩ := of_bind h
  refine wpS.only 4 (op_callH (d := (some 31)) (by kernel_rfl) hs (fun _ => by kernel_rfl) (ref08_Squeeze.ok hg _) ?_)
  rintro ⟨r6_A, r6_n, r6_c⟩ w gw hs
  have hs := hs.conv (L' := [.ownL (CI .u8) r6_A r6_n r6_c r6 5, .blk b3 (([.int .i64 r1_0] : List Value) ++ enc .u64 r1_1 ++ ([.int .i64 r1_2, .bool r1_3] : List Value)) 50]) rfl
  refine ⟨fun _ => trivial, ?_⟩
  refine wpS.qs [(5, 26, .tuple #[.agg (([.int .i64 r5_0] : List Value) ++ enc .u64 r5_1 ++ ([.int .i64 r5_2, .bool r5_3] : List Value)).toArray, .slice r6_A r6_n r6_c]), (6, 32, .agg (([.int .i64 r5_0] : List Value) ++ enc .u64 r5_1 ++ ([.int .i64 r5_2, .bool r5_3] : List Value)).toArray), (7, 33, .slice r6_A r6_n r6_c)] ?_
  refine wpS.only 8 (op_alloc (t := 50) (d := (some 10)) (by kernel_rfl) hs (([.int .i64 0] : List Value) ++ enc .u64 (zeroA 25) ++ ([.int .i64 0, .bool false] : List Value)) (.agg (([.int .i64 0] : List Value) ++ enc .u64 (zeroA 25) ++ ([.int .i64 0, .bool false] : List Value)).toArray) (by kernel_rfl) (by kernel_rfl) (by kernel_rfl) ?_)
  intro b7 w gw hs
  refine ⟨fun _ => trivial, ?_⟩
  refine wpS.only 9 (op_storeW (t := 50) (v := .agg (([.int .i64 r5_0] : List Value) ++ enc .u64 r5_1 ++ ([.int .i64 r5_2, .bool r5_3] : List Value)).toArray) (d := none) (by kernel_rfl) hs 0 rfl (vs := ([.int .i64 r5_0] : List Value) ++ enc .u64 r5_1 ++ ([.int .i64 r5_2, .bool r5_3] : List Value)) (n := 28) (by kernel_rfl) (by kernel_rfl) (by kernel_rfl) (by simp [enc_len]) (by simp [enc_len]) (one_app (one_app (by simp [Value.oneCell']) (fun u hu => enc_one _ _ u hu)) (by simp [Value.oneCell'])) ?_)
  intro w kp hs
  refine ⟨fun _ => trivial, ?_⟩
  refine wpS.q 10 11 (.slice r6_A r6_n r6_c) ?_
  refine wpS.fin rfl (kr16 _ _ (then_n (ks15 _ _ (xseq_k fun KS17 ks17 => (xregS [0, 1, 2] fun KR18 kr18 => ?_)))))
  refine wpS.qs [(0, 34, .slice r6_A r6_n r6_c), (1, 6, .slice r6_A r6_n r6_c), (2, 7, .int .i64 0)] ?_
  refine wpS.fin rfl (kr18 _ _ (then_n (ks17 _ _ (xret ?_))))
  obtain ⟨q0, qr0⟩ := Prod.mk.inj (of_some h)
  have q1 := qr0
  subst q0
  subst q1
  exact qq _ _ (post_ret (by kernel_rfl) (run_results [.tmp 6, .tmp 7] [.slice r6_A r6_n r6_c, .int .i64 0] (by kernel_rfl) (.cons (res_tmp (by kernel_rfl)) (.cons (res_tmp (by kernel_rfl)) .nil))) ⟨⟨r6_A, r6_n, r6_c⟩, congrArg Ending.returned (by kernel_rfl), ((hs.drop (.cons _ (.cons_cons _ (.cons _ .slnil)))).pickR pick_nil)⟩)
 refine wpS.tk 1 false (some 18) (.bool true) (yld_b (nt hc) (fun _ => by kernel_rfl)) ?_
 refine wpS.fin rfl (kr7 _ _ (then_n (ks6 _ _ (wp_cond_t (by kernel_rfl) (xseq_k fun KS19 ks19 => (xregS [0, 1, 2] fun KR20 kr20 => ?_))))))
 refine wpS.qs [(0, 19, .int .i64 r2), (1, 6, .slice none 0 0), (2, 7, .int .i64 r2)] ?_
 refine wpS.fin rfl (kr20 _ _ (then_n (ks19 _ _ (xret (then_r ?_)))))
 obtain ⟨q0, qr0⟩ := Prod.mk.inj (of_some h)
 have q1 := qr0
 subst q0
 subst q1
 have hs := hs.addNilL (CI .u8) 5
 exact qq _ _ (post_ret (by kernel_rfl) (run_results [.tmp 6, .tmp 7] [.slice none 0 0, .int .i64 r2] (by kernel_rfl) (.cons (res_tmp (by kernel_rfl)) (.cons (res_tmp (by kernel_rfl)) .nil))) ⟨⟨none, 0, 0⟩, congrArg Ending.returned (by kernel_rfl), ((hs.drop (.cons_cons _ (.cons _ .slnil))).pickR pick_nil)⟩)

theorem ref23_values.ok {K : Nat} {a0 : List Int} {a1 : Int} {r0 : Arr 256} {r1 : Int} {a0_A : Option Addr} {a0_n : Nat} {a0_c : Nat} (h : ref23_values.f K a0 a1 = some (r0, r1)) (w0 : World) (hp0 : RowL (CI .u8) w0 a0_A a0_n a0_c a0) : Ret Tryd.prog 20 #[.slice a0_A a0_n a0_c, .int .i64 a1] w0 (.tuple #[.agg (enc .i32 r0).toArray, .int .i64 r1]) := by
 refine calls_k Tryd.func20 rfl fun Q qq => ?_
 have hs := St.startR (all_cons (RowP.ent hp0) all_nil)
 refine wp_conv (a' := ⟨#[.slice a0_A a0_n a0_c, .int .i64 a1, undef, undef, undef, undef, undef, undef, undef, undef, undef, undef, undef, undef, undef, undef, undef, undef, undef, undef, undef, undef, undef, undef, undef, undef, undef, undef, undef, undef, undef, undef, undef, undef, undef, undef, undef, undef, undef, undef, undef, undef, undef, undef, undef, undef, undef, undef, undef, undef, undef, undef, undef, undef, undef, undef, undef, undef], []⟩) (by kernel_rfl) ?_
 refine xseq_k fun KS1 ks1 => ?_
 refine xregS [0, 1] fun KR2 kr2 => ?_
 refine wpS.only 0 (op_alloc (t := 26) (d := (some 4)) (by kernel_rfl) hs (enc .i32 (zeroA 256)) (.agg (enc .i32 (zeroA 256)).toArray) (by kernel_rfl) (by kernel_rfl) (by kernel_rfl) ?_)
 intro b1 w gw hs
 refine ⟨fun _ => trivial, ?_⟩
 refine wpS.q 1 5 (.int .i64 0) ?_
 refine wpS.fin rfl (kr2 _ _ (then_n (ks1 _ _ (xseq_k fun KS3 ks3 => (xregS [0, 1, 2, 3, 4, 5, 6, 7] fun KR4 kr4 => ?_)))))
 refine wpS.qs [(0, 13, .slice a0_A a0_n a0_c), (1, 14, .int .i64 a1)] ?_
 obtain ⟨⟨r2, r3⟩, hg, h⟩ := of_bind h
 refine wpS.only 2 (op_callH (d := (some 15)) (by kernel_rfl) hs (fun _ => by kernel_rfl) (ref08_Sum.ok hg _ (hs.rowR 0 rfl)) ?_)
 rintro ⟨r2_A, r2_n, r2_c⟩ w gw hs
 have hs := hs.conv (L' := [.ownL (CI .u8) r2_A r2_n r2_c r2 5, .blk b1 (enc .i32 (zeroA 256)) 26]) rfl
 refine ⟨fun _ => trivial, ?_⟩
 refine wpS.qs [(3, 12, .tuple #[.slice r2_A r2_n r2_c, .int .i64 r3]), (4, 16, .slice r2_A r2_n r2_c), (5, 17, .int .i64 r3), (6, 6, .slice r2_A r2_n r2_c), (7, 7, .int .i64 r3)] ?_
 refine wpS.fin rfl (kr4 _ _ (then_n (ks3 _ _ (xseq_k fun KS5 ks5 => (xregS [0] fun KR6 kr6 => ?_)))))
 refine wpS.only 0 (op_alloc (t := 26) (d := (some 8)) (by kernel_rfl) hs (enc .i32 (zeroA 256)) (.agg (enc .i32 (zeroA 256)).toArray) (by kernel_rfl) (by kernel_rfl) (by kernel_rfl) ?_)
 intro b4 w gw hs
 refine ⟨fun _ => trivial, ?_⟩
 refine wpS.fin rfl (kr6 _ _ (then_n (ks5 _ _ (xseq_k fun KS7 ks7 => (xregS [0] fun KR8 kr8 => ?_)))))
 refine wpS.q 0 9 (.int .i64 0) ?_
 refine wpS.fin rfl (kr8 _ _ (then_n (ks7 _ _ (xseq_k fun KS9 ks9 => (xseq_k fun KS10 ks10 => (xregS [0] fun KR11 kr11 => ?_))))))
 refine wpS.q 0 10 (.int .i64 0) ?_
 refine wpS.fin rfl (kr11 _ _ (then_n (ks10 _ _ ?_)))
 obtain ⟨⟨y8, y9⟩, hy, hk0⟩ := of_bind h
 refine wp_exq (N := fun a w => St w0 [] [.blk b4 (enc .i32 y9) 26, .ownL (CI .u8) r2_A r2_n r2_c r2 5, .blk b1 (enc .i32 (zeroA 256)) 26] [.rowL (CI .u8) a0_A a0_n a0_c a0] w ∧ ∃ g13 : Nat → Value, a = ⟨#[.slice a0_A a0_n a0_c, .int .i64 a1, undef, undef, .pointer (some ⟨b1, 0, none⟩), .int .i64 0, .slice r2_A r2_n r2_c, .int .i64 r3, .pointer (some ⟨b4, 0, none⟩), .int .i64 y8, (g13 10), (g13 11), .tuple #[.slice r2_A r2_n r2_c, .int .i64 r3], .slice a0_A a0_n a0_c, .int .i64 a1, .tuple #[.slice r2_A r2_n r2_c, .int .i64 r3], .slice r2_A r2_n r2_c, .int .i64 r3, (g13 18), (g13 19), (g13 20), (g13 21), (g13 22), (g13 23), (g13 24), (g13 25), (g13 26), (g13 27), (g13 28), (g13 29), (g13 30), (g13 31), (g13 32), (g13 33), (g13 34), (g13 35), (g13 36), (g13 37), (g13 38), (g13 39), (g13 40), (g13 41), (g13 42), (g13 43), (g13 44), (g13 45), (g13 46), (g13 47), (g13 48), (g13 49), (g13 50), (g13 51), (g13 52), (g13 53), (g13 54), (g13 55), undef, undef], []⟩) (fun N0 nn0 => ?_) ?_
 ·clear hk0
  refine xblock ?_
  refine wp_loop_k (fun n a w => ∃ z5 z6 z7, ref23_values.l0 K n a1 r2 z5 z6 z7 = some (y8, y9) ∧ St w0 [] [.blk b4 (enc .i32 z7) 26, .ownL (CI .u8) r2_A r2_n r2_c r2 5, .blk b1 (enc .i32 (zeroA 256)) 26] [.rowL (CI .u8) a0_A a0_n a0_c a0] w ∧ ∃ g12 : Nat → Value, a = ⟨#[.slice a0_A a0_n a0_c, .int .i64 a1, undef, undef, .pointer (some ⟨b1, 0, none⟩), .int .i64 0, .slice r2_A r2_n r2_c, .int .i64 r3, .pointer (some ⟨b4, 0, none⟩), .int .i64 z5, .int .i64 z6, (g12 11), .tuple #[.slice r2_A r2_n r2_c, .int .i64 r3], .slice a0_A a0_n a0_c, .int .i64 a1, .tuple #[.slice r2_A r2_n r2_c, .int .i64 r3], .slice r2_A r2_n r2_c, .int .i64 r3, (g12 18), (g12 19), (g12 20), (g12 21), (g12 22), (g12 23), (g12 24), (g12 25), (g12 26), (g12 27), (g12 28), (g12 29), (g12 30), (g12 31), (g12 32), (g12 33), (g12 34), (g12 35), (g12 36), (g12 37), (g12 38), (g12 39), (g12 40), (g12 41), (g12 42), (g12 43), (g12 44), (g12 45), (g12 46), (g12 47), (g12 48), (g12 49), (g12 50), (g12 51), (g12 52), (g12 53), (g12 54), (g12 55), undef, undef], []⟩) K ⟨0, 0, (zeroA 256), hy, hs.conv rfl, exg (by kernel_rfl)⟩ ?_
  clear hs h hy
  rintro n a w ⟨z5, z6, z7, h, hs, g12, rfl⟩ KL0 kl0
  cases n with
  | zero => exact nomatch (show none = some _ from h)
  | succ n =>
   refine xseq_k fun KS14 ks14 => ?_
   refine xseq_k fun KS15 ks15 => ?_
   refine xregS [0, 1, 2, 3, 4, 5, 6] fun KR16 kr16 => ?_
   refine wpS.qs [(0, 18, .int .i64 z6), (1, 19, .int .i64 a1)] ?_
   rcases of_if h with ⟨hc, h⟩ | ⟨hc, h⟩
   ·refine wpS.tk 2 false (some 20) (.bool true) (yld_b (dt hc) (fun _ => by kernel_rfl)) ?_
    refine wpS.qs [(3, 21, .bool true), (4, 22, .int .i64 z5)] ?_
    rcases of_if h with ⟨hc, h⟩ | ⟨hc, h⟩
    ·refine wpS.tk 5 false (some 23) (.bool true) (yld_b (dt hc) (fun _ => by kernel_rfl)) ?_
     refine wpS.q 6 24 (.bool true) ?_
     refine wpS.fin rfl (kr16 _ _ (then_n (ks15 _ _ (wp_cond_t (by kernel_rfl) (xskip (then_n (ks14 _ _ ?_)))))))
     obtain ⟨⟨y10, y11⟩, hj, h⟩ := of_bind h
     refine xseq_k fun KS18 ks18 => wp_join (N := fun a w => St w0 [] [.blk b4 (enc .i32 y11) 26, .ownL (CI .u8) r2_A r2_n r2_c r2 5, .blk b1 (enc .i32 (zeroA 256)) 26] [.rowL (CI .u8) a0_A a0_n a0_c a0] w ∧ ∃ g17 : Nat → Value, a = ⟨#[.slice a0_A a0_n a0_c, .int .i64 a1, undef, undef, .pointer (some ⟨b1, 0, none⟩), .int .i64 0, .slice r2_A r2_n r2_c, .int .i64 r3, .pointer (some ⟨b4, 0, none⟩), .int .i64 y10, .int .i64 z6, (g17 11), .tuple #[.slice r2_A r2_n r2_c, .int .i64 r3], .slice a0_A a0_n a0_c, .int .i64 a1, .tuple #[.slice r2_A r2_n r2_c, .int .i64 r3], .slice r2_A r2_n r2_c, .int .i64 r3, .int .i64 z6, .int .i64 a1, .bool true, .bool true, .int .i64 z5, .bool true, .bool true, (g12 25), (g12 26), (g17 27), (g17 28), (g17 29), (g17 30), (g17 31), (g17 32), (g17 33), (g17 34), (g17 35), (g17 36), (g17 37), (g17 38), (g17 39), (g17 40), (g17 41), (g17 42), (g17 43), (g17 44), (g17 45), (g17 46), (g17 47), (g17 48), (g17 49), (g17 50), (g17 51), (g17 52), (g17 53), (g17 54), (g17 55), undef, undef], []⟩) (fun N nj => ?_) ?_
     ·clear h
      have h := hj
      refine xblock (xseq_k fun KS19 ks19 => ?_)
      refine wp_regG [] (fun k => True) 23 (by kernel_rfl) (by kernel_rfl) (by kernel_rfl) fun KR20 kr20 => ?_
      have hs := hs.drawn1
      refine wpG.q 0 27 (.slice r2_A r2_n r2_c) ?_
      refine wpG.q 1 28 (.int .i64 z6) ?_
      obtain ⟨h0, h⟩ := of_chk h
      obtain ⟨h1, h⟩ := of_chk h
      have i0_21 := h0
      have i1_21 := h1
      refine wpG.tD 2 false (some 29) (.pointer (adr r2_A ((z6 : Int).toNat * Cod.size (CI .u8)))) (yld_idxL (C := (CI .u8)) (t := 22) (e := 5) (k := .i64) (x := z6) (hs.rowL 1 rfl) (by kernel_rfl) (by kernel_rfl) (by kernel_rfl) h0 h1) ?_
      refine wpG.tD 3 true (some 30) (.int .u8 (rdL (CI .u8) r2 z6)) (yld_loadL (C := (CI .u8)) (e := 5) (x := z6) (hs.rowL 1 rfl) (by kernel_rfl) rfl (by kernel_rfl) i0_21 i1_21) ?_
      refine wpG.q 4 31 (.int .i32 (iconv .i32 (rdL (CI .u8) r2 z6))) ?_
      refine wpG.q 5 32 (.slice r2_A r2_n r2_c) ?_
      refine wpG.q 6 33 (.int .i64 z6) ?_
      refine wpG.q 7 34 (.int .i64 (iadd .i64 z6 1)) ?_
      obtain ⟨x12, hx, h⟩ := of_bind h
      have hx := of_some hx
      subst hx
      obtain ⟨h0, h⟩ := of_chk h
      obtain ⟨h1, h⟩ := of_chk h
      have i0_22 := h0
      have i1_22 := h1
      refine wpG.tD 8 false (some 35) (.pointer (adr r2_A (((iadd .i64 z6 1) : Int).toNat * Cod.size (CI .u8)))) (yld_idxL (C := (CI .u8)) (t := 22) (e := 5) (k := .i64) (x := (iadd .i64 z6 1)) (hs.rowL 1 rfl) (by kernel_rfl) (by kernel_rfl) (by kernel_rfl) h0 h1) ?_
      refine wpG.tD 9 true (some 36) (.int .u8 (rdL (CI .u8) r2 (iadd .i64 z6 1))) (yld_loadL (C := (CI .u8)) (e := 5) (x := (iadd .i64 z6 1)) (hs.rowL 1 rfl) (by kernel_rfl) rfl (by kernel_rfl) i0_22 i1_22) ?_
      refine wpG.q 10 37 (.int .i32 (iconv .i32 (rdL (CI .u8) r2 (iadd .i64 z6 1)))) ?_
      refine wpG.q 11 38 (.int .i32 (imul .i32 256 (iconv .i32 (rdL (CI .u8) r2 (iadd .i64 z6 1))))) ?_
      refine wpG.q 12 39 (.int .i32 (iadd .i32 (iconv .i32 (rdL (CI .u8) r2 z6)) (imul .i32 256 (iconv .i32 (rdL (CI .u8) r2 (iadd .i64 z6 1)))))) ?_
      refine wpG.q 13 40 (.slice r2_A r2_n r2_c) ?_
      refine wpG.q 14 41 (.int .i64 z6) ?_
      refine wpG.q 15 42 (.int .i64 (iadd .i64 z6 2)) ?_
      obtain ⟨x13, hx, h⟩ := of_bind h
      have hx := of_some hx
      subst hx
      obtain ⟨h0, h⟩ := of_chk h
      obtain ⟨h1, h⟩ := of_chk h
      have i0_23 := h0
      have i1_23 := h1
      refine wpG.tD 16 false (some 43) (.pointer (adr r2_A (((iadd .i64 z6 2) : Int).toNat * Cod.size (CI .u8)))) (yld_idxL (C := (CI .u8)) (t := 22) (e := 5) (k := .i64) (x := (iadd .i64 z6 2)) (hs.rowL 1 rfl) (by kernel_rfl) (by kernel_rfl) (by kernel_rfl) h0 h1) ?_
      refine wpG.tD 17 true (some 44) (.int .u8 (rdL (CI .u8) r2 (iadd .i64 z6 2))) (yld_loadL (C := (CI .u8)) (e := 5) (x := (iadd .i64 z6 2)) (hs.rowL 1 rfl) (by kernel_rfl) rfl (by kernel_rfl) i0_23 i1_23) ?_
      refine wpG.q 18 45 (.int .u8 (irem .u8 (rdL (CI .u8) r2 (iadd .i64 z6 2)) 128)) ?_
      refine wpG.q 19 46 (.int .i32 (iconv .i32 (irem .u8 (rdL (CI .u8) r2 (iadd .i64 z6 2)) 128))) ?_
      refine wpG.q 20 47 (.int .i32 (imul .i32 65536 (iconv .i32 (irem .u8 (rdL (CI .u8) r2 (iadd .i64 z6 2)) 128)))) ?_
      refine wpG.q 21 48 (.int .i32 (iadd .i32 (iadd .i32 (iconv .i32 (rdL (CI .u8) r2 z6)) (imul .i32 256 (iconv .i32 (rdL (CI .u8) r2 (iadd .i64 z6 1))))) (imul .i32 65536 (iconv .i32 (irem .u8 (rdL (CI .u8) r2 (iadd .i64 z6 2)) 128))))) ?_
      obtain ⟨x14, hx, h⟩ := of_bind h
      refine wpG.tD 22 false (some 11) (.int .i32 x14) (yld_int hx (fun _ => by kernel_rfl)) ?_
      refine wpG.fin (by kernel_rfl) rfl (kr20 _ _ ?_)
      refine then_n (ks19 _ _ (xseq_k fun KS24 ks24 => (xregS [0, 1] fun KR25 kr25 => ?_)))
      refine wpS.q 0 49 (.int .i32 x14) ?_
      rcases of_if h with ⟨hc, h⟩ | ⟨hc, h⟩
      ·refine wpS.tk 1 false (some 50) (.bool true) (yld_b (dt hc) (fun _ => by kernel_rfl)) ?_
       refine wpS.fin rfl (kr25 _ _ (then_n (ks24 _ _ (wp_cond_t (by kernel_rfl) (xseq_k fun KS26 ks26 => (xregS [0, 1, 2, 3] fun KR27 kr27 => ?_))))))
       refine wpS.qs [(0, 51, .int .i64 z5), (1, 52, .int .i32 x14)] ?_
       obtain ⟨i0_28, h⟩ := of_chk h
       obtain ⟨i1_28, h⟩ := of_chk h
       refine wpS.tk 2 false (some 53) (.pointer (some ⟨b4, 0 + (z5 : Int).toNat * 1, none⟩)) (yld_idx (t := 26) (e := 21) (n := 256) (sz := 1) (k := .i64) (x := z5) (by kernel_rfl) (by kernel_rfl) (by kernel_rfl) i0_28 i1_28) ?_
       refine wpS.only 3 (op_storeA (t := 21) (x := z5) (v := x14) (d := none) (by kernel_rfl) hs 0 rfl (by kernel_rfl) (by kernel_rfl) i0_28 i1_28 ?_)
       intro w kp hs
       refine ⟨fun _ => trivial, ?_⟩
       refine wpS.fin rfl (kr27 _ _ (then_n (ks26 _ _ (xregS [0, 1, 2] fun KR29 kr29 => ?_))))
       refine wpS.qs [(0, 54, .int .i64 z5), (1, 55, .int .i64 (iadd .i64 z5 1))] ?_
       obtain ⟨x15, hx, h⟩ := of_bind h
       refine wpS.tk 2 false (some 9) (.int .i64 x15) (yld_int hx (fun _ => by kernel_rfl)) ?_
       refine wpS.fin rfl (kr29 _ _ (inBlock_n ?_))
       obtain ⟨q0, qr0⟩ := Prod.mk.inj (of_some h)
       have q1 := qr0
       subst q0
       subst q1
       exact nj _ _ ⟨(hs.conv rfl), exg (by kernel_rfl)⟩
      refine wpS.tk 1 false (some 50) (.bool false) (yld_b (df hc) (fun _ => by kernel_rfl)) ?_
      refine wpS.fin rfl (kr25 _ _ (then_n (ks24 _ _ (wp_cond_f (by kernel_rfl) (xskip (inBlock_n ?_))))))
      obtain ⟨q0, qr0⟩ := Prod.mk.inj (of_some h)
      have q1 := qr0
      subst q0
      subst q1
      exact nj _ _ ⟨(hs.conv rfl), exg (by kernel_rfl)⟩
     clear hj hs
     rintro a w ⟨hs, g17, rfl⟩
     refine then_n (ks18 _ _ (xregS [0, 1, 2] fun KR30 kr30 => ?_))
     refine wpS.qs [(0, 25, .int .i64 z6), (1, 26, .int .i64 (iadd .i64 z6 3))] ?_
     obtain ⟨x16, hx, h⟩ := of_bind h
     refine wpS.tk 2 false (some 10) (.int .i64 x16) (yld_int hx (fun _ => by kernel_rfl)) ?_
     refine wpS.fin rfl (kr30 _ _ ?_)
     exact then_n (kl0 _ _ ⟨n, Nat.lt_succ_self n, y10, x16, y11, h, (hs.conv rfl), exg (by kernel_rfl)⟩)
    refine wpS.tk 5 false (some 23) (.bool false) (yld_b (df hc) (fun _ => by kernel_rfl)) ?_
    refine wpS.q 6 24 (.bool false) ?_
    refine wpS.fin rfl (kr16 _ _ (then_n (ks15 _ _ (wp_cond_f (by kernel_rfl) (xexit (then_x (then_x (inBlock_hit ?_))))))))
    obtain ⟨q0, qr0⟩ := Prod.mk.inj (of_some h)
    have q1 := qr0
    subst q0
    subst q1
    exact exq_n (nn0 _ _ ⟨(hs.conv rfl), exg (by kernel_rfl)⟩)
   refine wpS.tk 2 false (some 20) (.bool false) (yld_b (df hc) (fun _ => by kernel_rfl)) ?_
   refine wpS.qs [(3, 21, .bool false), (4, 22, undef), (5, 23, undef), (6, 24, .bool false)] ?_
   refine wpS.fin rfl (kr16 _ _ (then_n (ks15 _ _ (wp_cond_f (by kernel_rfl) (xexit (then_x (then_x (inBlock_hit ?_))))))))
   obtain ⟨q0, qr0⟩ := Prod.mk.inj (of_some h)
   have q1 := qr0
   subst q0
   subst q1
   exact exq_n (nn0 _ _ ⟨(hs.conv rfl), exg (by kernel_rfl)⟩)
 clear hs h hy
 rintro a w ⟨hs, g13, rfl⟩
 have h := hk0
 refine then_n (ks9 _ _ (xseq_k fun KS31 ks31 => (xregS [0, 1, 2, 3] fun KR32 kr32 => ?_)))
 refine wpS.tk 0 true (some 56) (.agg (enc .i32 y9).toArray) (yld_loadW (e := 26) (n := 256) hs 0 rfl (by kernel_rfl) (by kernel_rfl) (by kernel_rfl) (by exact enc_len _ _) .grow) ?_
 refine wpS.q 1 57 (.int .i64 y8) ?_
 refine wpS.only 2 (op_storeW (t := 26) (v := .agg (enc .i32 y9).toArray) (d := none) (by kernel_rfl) hs 2 rfl (vs := enc .i32 y9) (n := 256) (by kernel_rfl) (by kernel_rfl) (by kernel_rfl) (by simp [enc_len]) (by simp [enc_len]) (by intro u hu; exact enc_one _ _ u hu) ?_)
 intro w kp hs
 refine ⟨fun _ => trivial, ?_⟩
 refine wpS.q 3 5 (.int .i64 y8) ?_
 refine wpS.fin rfl (kr32 _ _ (then_n (ks31 _ _ (xret ?_))))
 obtain ⟨q0, qr0⟩ := Prod.mk.inj (of_some h)
 have q1 := qr0
 subst q0
 subst q1
 exact qq _ _ (post_ret (by kernel_rfl) (run_results [.cell 4 26, .tmp 5] [.agg (enc .i32 y9).toArray, .int .i64 y8] (by kernel_rfl) (.cons (res_cellN (n := 256) hs 2 rfl (by kernel_rfl) (by kernel_rfl) (by kernel_rfl) (by exact enc_len _ _)) (.cons (res_tmp (by kernel_rfl)) .nil))) ⟨congrArg Ending.returned (by kernel_rfl), hs.none⟩)

theorem ref01_Join.ok {K : Nat} {a0 : List (List Int)} {r0 : List Int} {a0_A : Option Addr} {a0_n : Nat} {a0_c : Nat} {a0_H : List HS} (h : ref01_Join.f K a0 = some r0) (w0 : World) (hp0 : LLP (CI .u8) w0 a0_A a0_n a0_c a0_H a0) : Calls Tryd.prog 21 #[.slice a0_A a0_n a0_c] w0 fun e w' => ∃ h : (Option Addr × Nat × Nat), e = .returned (.slice h.1 h.2.1 h.2.2) ∧ St w0 [] [.ownL (CI .u8) h.1 h.2.1 h.2.2 r0 5] [] w' := by
 refine calls_k Tryd.func21 rfl fun Q qq => ?_
 have hs := St.startR (all_cons (LLP.ent hp0) all_nil)
 refine wp_conv (a' := ⟨#[.slice a0_A a0_n a0_c, undef, undef, undef, undef, undef, undef, undef, undef, undef, undef, undef, undef, undef, undef, undef, undef, undef], []⟩) (by kernel_rfl) ?_
 refine xseq_k fun KS1 ks1 => ?_
 refine xregS [0] fun KR2 kr2 => ?_
 refine wpS.q 0 2 (.slice none 0 0) ?_
 refine wpS.fin rfl (kr2 _ _ (then_n (ks1 _ _ (xseq_k fun KS3 ks3 => (xregS [0] fun KR4 kr4 => ?_)))))
 refine wpS.q 0 3 (.slice none 0 0) ?_
 refine wpS.fin rfl (kr4 _ _ (then_n (ks3 _ _ (xseq_k fun KS5 ks5 => (xseq_k fun KS6 ks6 => (xregS [0] fun KR7 kr7 => ?_))))))
 refine wpS.q 0 4 (.int .i64 0) ?_
 refine wpS.fin rfl (kr7 _ _ (then_n (ks6 _ _ ?_)))
 have hs := hs.addNilL (CI .u8) 5
 obtain ⟨y3, hy, hk0⟩ := of_bind h
 refine wp_exq (N := fun a w => ∃ (y3_A : Option Addr) (y3_n : Nat) (y3_c : Nat), St w0 [] [.ownL (CI .u8) y3_A y3_n y3_c y3 5] [.rowLL (CI .u8) a0_A a0_n a0_c a0_H a0] w ∧ ∃ g9 : Nat → Value, a = ⟨#[.slice a0_A a0_n a0_c, undef, .slice none 0 0, .slice y3_A y3_n y3_c, (g9 4), (g9 5), (g9 6), (g9 7), (g9 8), (g9 9), (g9 10), (g9 11), (g9 12), (g9 13), (g9 14), (g9 15), (g9 16), undef], []⟩) (fun N0 nn0 => ?_) ?_
 ·clear hk0
  refine xblock ?_
  refine wp_loop_k (fun n a w => ∃ z1 z2, ∃ (z2_A : Option Addr) (z2_n : Nat) (z2_c : Nat), ref01_Join.l0 K n a0 z1 z2 = some y3 ∧ St w0 [] [.ownL (CI .u8) z2_A z2_n z2_c z2 5] [.rowLL (CI .u8) a0_A a0_n a0_c a0_H a0] w ∧ ∃ g8 : Nat → Value, a = ⟨#[.slice a0_A a0_n a0_c, undef, .slice none 0 0, .slice z2_A z2_n z2_c, .int .i64 z1, (g8 5), (g8 6), (g8 7), (g8 8), (g8 9), (g8 10), (g8 11), (g8 12), (g8 13), (g8 14), (g8 15), (g8 16), undef], []⟩) K ⟨0, ([] : List Int), none, 0, 0, hy, hs.conv rfl, exg (by kernel_rfl)⟩ ?_
  clear hs h hy
  rintro n a w ⟨z1, z2, z2_A, z2_n, z2_c, h, hs, g8, rfl⟩ KL0 kl0
  cases n with
  | zero => exact nomatch (show none = some _ from h)
  | succ n =>
   refine xseq_k fun KS10 ks10 => ?_
   refine xseq_k fun KS11 ks11 => ?_
   refine xregS [0, 1, 2, 3] fun KR12 kr12 => ?_
   refine wpS.qs [(0, 5, .int .i64 z1), (1, 6, .slice a0_A a0_n a0_c)] ?_
   refine wpS.tk 2 false (some 7) (.int .i64 (a0.length : Int)) (yld_lenLL (hs.rowLL 0 rfl) (fun _ => by kernel_rfl)) ?_
   rcases of_if h with ⟨hc, h⟩ | ⟨hc, h⟩
   ·refine wpS.tk 3 false (some 8) (.bool true) (yld_b (dt hc) (fun _ => by kernel_rfl)) ?_
    refine wpS.fin rfl (kr12 _ _ (then_n (ks11 _ _ (wp_cond_t (by kernel_rfl) (xskip (then_n (ks10 _ _ (xseq_k fun KS13 ks13 => (xblock (xregS [0, 1, 2, 3, 4, 5, 6] fun KR14 kr14 => ?_))))))))))
    refine wpS.qs [(0, 11, .slice z2_A z2_n z2_c), (1, 12, .slice a0_A a0_n a0_c), (2, 13, .int .i64 z1)] ?_
    obtain ⟨h0, h⟩ := of_chk h
    obtain ⟨h1, h⟩ := of_chk h
    have i0_15 := h0
    have i1_15 := h1
    refine wpS.tk 3 false (some 14) (.pointer (adr a0_A ((z1 : Int).toNat * Cod.size (CI .u8)))) (yld_idxLL (C := (CI .u8)) (t := 55) (e := 22) (k := .i64) (x := z1) (hs.rowLL 0 rfl) (by kernel_rfl) (by kernel_rfl) (by kernel_rfl) h0 h1) ?_
    obtain ⟨s4_A, hA⟩ : ∃ A, A = (rdL CS a0_H z1).1 := ⟨_, rfl⟩
    obtain ⟨s4_n, hn⟩ : ∃ n, n = (rdL CS a0_H z1).2.1 := ⟨_, rfl⟩
    obtain ⟨s4_c, hc⟩ : ∃ c, c = (rdL CS a0_H z1).2.2 := ⟨_, rfl⟩
    refine wpS.tk 4 true (some 15) (.slice s4_A s4_n s4_c) (by subst hA hn hc; exact yld_loadLL (C := (CI .u8)) (e := 22) (x := z1) (hs.rowLL 0 rfl) (by kernel_rfl) (by kernel_rfl) i0_15 i1_15) ?_
    have hs := hs.addInn (C := (CI .u8)) 0 rfl i0_15 i1_15 hA hn hc
    obtain ⟨h0, h⟩ := of_chk h
    refine wpS.only 5 (op_appendT (C := (CI .u8)) (t := 22) (ty := 22) (e := 5) (bytes := 1) (B := 140737488355328) (d := (some 16)) (by kernel_rfl) hs 0 rfl (hs.rowR 0 rfl) (by kernel_rfl) (by kernel_rfl) (by kernel_rfl) (by kernel_rfl) (by kernel_rfl) h0 (by decide) (by decide) ?_)
    intro s5_A s5_n s5_c w hs
    refine ⟨fun _ => trivial, ?_⟩
    refine wpS.q 6 3 (.slice s5_A s5_n s5_c) ?_
    refine wpS.fin rfl (kr14 _ _ (inBlock_n (then_n (ks13 _ _ (xregS [0, 1, 2] fun KR16 kr16 => ?_)))))
    refine wpS.qs [(0, 9, .int .i64 z1), (1, 10, .int .i64 (iadd .i64 z1 1))] ?_
    obtain ⟨x6, hx, h⟩ := of_bind h
    refine wpS.tk 2 false (some 4) (.int .i64 x6) (yld_int hx (fun _ => by kernel_rfl)) ?_
    refine wpS.fin rfl (kr16 _ _ ?_)
    exact then_n (kl0 _ _ ⟨n, Nat.lt_succ_self n, x6, (z2 ++ (rdLL a0 z1)), s5_A, s5_n, s5_c, h, (hs.pickR (pick_cons 1 rfl pick_nil)), exg (by kernel_rfl)⟩)
   refine wpS.tk 3 false (some 8) (.bool false) (yld_b (df hc) (fun _ => by kernel_rfl)) ?_
   refine wpS.fin rfl (kr12 _ _ (then_n (ks11 _ _ (wp_cond_f (by kernel_rfl) (xexit (then_x (then_x (inBlock_hit ?_))))))))
   have q0 := of_some h
   subst q0
   exact exq_n (nn0 _ _ ⟨z2_A, z2_n, z2_c, (hs.conv rfl), exg (by kernel_rfl)⟩)
 clear hs h hy
 rintro a w ⟨y3_A, y3_n, y3_c, hs, g9, rfl⟩
 have h := hk0
 refine then_n (ks5 _ _ (xseq_k fun KS17 ks17 => (xregS [0, 1] fun KR18 kr18 => ?_)))
 refine wpS.qs [(0, 17, .slice y3_A y3_n y3_c), (1, 2, .slice y3_A y3_n y3_c)] ?_
 refine wpS.fin rfl (kr18 _ _ (then_n (ks17 _ _ (xret ?_))))
 have q0 := of_some h
 subst q0
 exact qq _ _ (post_ret (by kernel_rfl) (run_results [.tmp 2] [.slice y3_A y3_n y3_c] (by kernel_rfl) (.cons (res_tmp (by kernel_rfl)) .nil)) ⟨⟨y3_A, y3_n, y3_c⟩, congrArg Ending.returned (by kernel_rfl), (hs.pickR pick_nil)⟩)

theorem ref23_Values.ok {K : Nat} {a0 : List Int} {a1 : Int} {a2 : Int} {r0 : Arr 256} {r1 : Int} {a0_A : Option Addr} {a0_n : Nat} {a0_c : Nat} (h : ref23_Values.f K a0 a1 a2 = some (r0, r1)) (w0 : World) (hp0 : RowL (CI .u8) w0 a0_A a0_n a0_c a0) : Ret Tryd.prog 7 #[.slice a0_A a0_n a0_c, .int .u8 a1, .int .u8 a2] w0 (.tuple #[.agg (enc .i32 r0).toArray, .int .i64 r1]) := by
 refine calls_k Tryd.func7 rfl fun Q qq => ?_
 have hs := St.startR (all_cons (RowP.ent hp0) all_nil)
 refine wp_conv (a' := ⟨#[.slice a0_A a0_n a0_c, .int .u8 a1, .int .u8 a2, undef, undef, undef, undef, undef, undef, undef, undef, undef, undef, undef, undef, undef, undef, undef, undef, undef, undef, undef, undef, undef, undef, undef, undef, undef, undef, undef, undef, undef, undef, undef, undef, undef], []⟩) (by kernel_rfl) ?_
 refine xseq_k fun KS1 ks1 => ?_
 refine xregS [0, 1] fun KR2 kr2 => ?_
 refine wpS.only 0 (op_alloc (t := 26) (d := (some 6)) (by kernel_rfl) hs (enc .i32 (zeroA 256)) (.agg (enc .i32 (zeroA 256)).toArray) (by kernel_rfl) (by kernel_rfl) (by kernel_rfl) ?_)
 intro b1 w gw hs
 refine ⟨fun _ => trivial, ?_⟩
 refine wpS.q 1 7 (.int .i64 0) ?_
 refine wpS.fin rfl (kr2 _ _ (then_n (ks1 _ _ (xseq_k fun KS3 ks3 => (xregS [0, 1, 2, 3, 4, 5, 6, 7, 8, 9, 10, 11, 12] fun KR4 kr4 => ?_)))))
 refine wpS.qs [(0, 11, .slice a0_A a0_n a0_c), (1, 12, .int .u8 a2), (2, 13, .int .u8 a1)] ?_
 refine wpS.only 3 (op_lit (C := (CI .u8)) (t := 22) (e := 5) (len := 2) (parts := #[(0, .int .u8 a2), (1, .int .u8 a1)]) (l := [a2, a1]) (d := (some 14)) (by kernel_rfl) hs (by kernel_rfl) (by kernel_rfl) (by kernel_rfl) (z := .int .u8 0) (by kernel_rfl) rfl (by decide) (by decide) (by kernel_rfl) ?_)
 intro s2_A s2_n s2_c w gw hs
 refine ⟨fun _ => trivial, ?_⟩
 refine wpS.only 4 (op_lit (C := CS) (t := 55) (e := 22) (len := 2) (parts := #[(0, .slice a0_A a0_n a0_c), (1, .slice s2_A s2_n s2_c)]) (l := ([(a0_A, a0_n, a0_c), (s2_A, s2_n, s2_c)] : List HS)) (d := (some 15)) (by kernel_rfl) hs (by kernel_rfl) (by kernel_rfl) (by kernel_rfl) (z := .slice none 0 0) (by kernel_rfl) rfl (by decide) (by decide) (by kernel_rfl) ?_)
 intro s3_A s3_n s3_c w gw hs
 refine ⟨fun _ => trivial, ?_⟩
 obtain ⟨r4, hg, h⟩ := of_bind h
 refine wpS.only 5 (op_callH (d := (some 16)) (by kernel_rfl) hs (fun _ => by kernel_rfl) (ref01_Join.ok hg _ (LLP.mk (hs.rowL 0 rfl) (inn_cons (hs.rowR 0 rfl) (inn_cons (hs.rowL 1 rfl) inn_nil)))) ?_)
 rintro ⟨r4_A, r4_n, r4_c⟩ w gw hs
 have hs := hs.conv (L' := [.ownL (CI .u8) r4_A r4_n r4_c r4 5, .ownL CS s3_A s3_n s3_c ([(a0_A, a0_n, a0_c), (s2_A, s2_n, s2_c)] : List HS) 22, .ownL (CI .u8) s2_A s2_n s2_c ([a2, a1] : List Int) 5, .blk b1 (enc .i32 (zeroA 256)) 26]) rfl
 refine ⟨fun _ => trivial, ?_⟩
 obtain ⟨⟨r5, r6⟩, hg, h⟩ := of_bind h
 refine wpS.only 6 (op_call (d := (some 17)) (by kernel_rfl) hs (fun _ => by kernel_rfl) (ref23_values.ok hg _ (hs.rowL 0 rfl)) ?_)
 intro w gw hs
 refine ⟨fun _ => trivial, ?_⟩
 refine wpS.qs [(7, 10, .tuple #[.agg (enc .i32 r5).toArray, .int .i64 r6]), (8, 18, .agg (enc .i32 r5).toArray), (9, 19, .int .i64 r6)] ?_
 refine wpS.only 10 (op_alloc (t := 26) (d := (some 8)) (by kernel_rfl) hs (enc .i32 (zeroA 256)) (.agg (enc .i32 (zeroA 256)).toArray) (by kernel_rfl) (by kernel_rfl) (by kernel_rfl) ?_)
 intro b7 w gw hs
 refine ⟨fun _ => trivial, ?_⟩
 refine wpS.only 11 (op_storeW (t := 26) (v := .agg (enc .i32 r5).toArray) (d := none) (by kernel_rfl) hs 0 rfl (vs := enc .i32 r5) (n := 256) (by kernel_rfl) (by kernel_rfl) (by kernel_rfl) (by simp [enc_len]) (by simp [enc_len]) (by intro u hu; exact enc_one _ _ u hu) ?_)
 intro w kp hs
 refine ⟨fun _ => trivial, ?_⟩
 refine wpS.q 12 9 (.int .i64 r6) ?_
 refine wpS.fin rfl (kr4 _ _ (then_n (ks3 _ _ ?_)))
 obtain ⟨⟨y8, y9⟩, hj, h⟩ := of_bind h
 refine xseq_k fun KS6 ks6 => wp_join (N := fun a w => St w0 [] [.blk b7 (enc .i32 y9) 26, .ownL (CI .u8) r4_A r4_n r4_c r4 5, .ownL CS s3_A s3_n s3_c ([(a0_A, a0_n, a0_c), (s2_A, s2_n, s2_c)] : List HS) 22, .ownL (CI .u8) s2_A s2_n s2_c ([a2, a1] : List Int) 5, .blk b1 (enc .i32 (zeroA 256)) 26] [.rowL (CI .u8) a0_A a0_n a0_c a0] w ∧ ∃ g5 : Nat → Value, a = ⟨#[.slice a0_A a0_n a0_c, .int .u8 a1, .int .u8 a2, undef, undef, undef, .pointer (some ⟨b1, 0, none⟩), .int .i64 0, .pointer (some ⟨b7, 0, none⟩), .int .i64 y8, .tuple #[.agg (enc .i32 r5).toArray, .int .i64 r6], .slice a0_A a0_n a0_c, .int .u8 a2, .int .u8 a1, .slice s2_A s2_n s2_c, .slice s3_A s3_n s3_c, .slice r4_A r4_n r4_c, .tuple #[.agg (enc .i32 r5).toArray, .int .i64 r6], .agg (enc .i32 r5).toArray, .int .i64 r6, (g5 20), (g5 21), (g5 22), (g5 23), (g5 24), (g5 25), (g5 26), (g5 27), (g5 28), (g5 29), (g5 30), (g5 31), undef, undef, undef, undef], []⟩) (fun N nj => ?_) ?_
 ·clear h
  have h := hj
  refine xseq_k fun KS7 ks7 => ?_
  refine xregS [0, 1] fun KR8 kr8 => ?_
  refine wpS.q 0 20 (.int .i64 r6) ?_
  rcases of_if h with ⟨hc, h⟩ | ⟨hc, h⟩
  ·refine wpS.tk 1 false (some 21) (.bool true) (yld_b (dt hc) (fun _ => by kernel_rfl)) ?_
   refine wpS.fin rfl (kr8 _ _ (then_n (ks7 _ _ (wp_cond_t (by kernel_rfl) (xregS [0, 1, 2, 3, 4, 5, 6, 7, 8, 9, 10, 11] fun KR9 kr9 => ?_)))))
   refine wpS.qs [(0, 23, .slice a0_A a0_n a0_c), (1, 24, .int .u8 a2), (2, 25, .int .u8 a1)] ?_
   refine wpS.only 3 (op_lit (C := (CI .u8)) (t := 22) (e := 5) (len := 2) (parts := #[(0, .int .u8 a2), (1, .int .u8 a1)]) (l := [a2, a1]) (d := (some 26)) (by kernel_rfl) hs (by kernel_rfl) (by kernel_rfl) (by kernel_rfl) (z := .int .u8 0) (by kernel_rfl) rfl (by decide) (by decide) (by kernel_rfl) ?_)
   intro s10_A s10_n s10_c w gw hs
   refine ⟨fun _ => trivial, ?_⟩
   refine wpS.only 4 (op_lit (C := CS) (t := 55) (e := 22) (len := 2) (parts := #[(0, .slice a0_A a0_n a0_c), (1, .slice s10_A s10_n s10_c)]) (l := ([(a0_A, a0_n, a0_c), (s10_A, s10_n, s10_c)] : List HS)) (d := (some 27)) (by kernel_rfl) hs (by kernel_rfl) (by kernel_rfl) (by kernel_rfl) (z := .slice none 0 0) (by kernel_rfl) rfl (by decide) (by decide) (by kernel_rfl) ?_)
   intro s11_A s11_n s11_c w gw hs
   refine ⟨fun _ => trivial, ?_⟩
   obtain ⟨r12, hg, h⟩ := of_bind h
   refine wpS.only 5 (op_callH (d := (some 28)) (by kernel_rfl) hs (fun _ => by kernel_rfl) (ref01_Join.ok hg _ (LLP.mk (hs.rowL 0 rfl) (inn_cons (hs.rowR 0 rfl) (inn_cons (hs.rowL 1 rfl) inn_nil)))) ?_)
   rintro ⟨r12_A, r12_n, r12_c⟩ w gw hs
   have hs := hs.conv (L' := [.ownL (CI .u8) r12_A r12_n r12_c r12 5, .ownL CS s11_A s11_n s11_c ([(a0_A, a0_n, a0_c), (s10_A, s10_n, s10_c)] : List HS) 22, .ownL (CI .u8) s10_A s10_n s10_c ([a2, a1] : List Int) 5, .blk b7 (enc .i32 r5) 26, .ownL (CI .u8) r4_A r4_n r4_c r4 5, .ownL CS s3_A s3_n s3_c ([(a0_A, a0_n, a0_c), (s2_A, s2_n, s2_c)] : List HS) 22, .ownL (CI .u8) s2_A s2_n s2_c ([a2, a1] : List Int) 5, .blk b1 (enc .i32 (zeroA 256)) 26]) rfl
   refine ⟨fun _ => trivial, ?_⟩
   obtain ⟨⟨r13, r14⟩, hg, h⟩ := of_bind h
   refine wpS.only 6 (op_call (d := (some 29)) (by kernel_rfl) hs (fun _ => by kernel_rfl) (ref23_values.ok hg _ (hs.rowL 0 rfl)) ?_)
   intro w gw hs
   refine ⟨fun _ => trivial, ?_⟩
   refine wpS.qs [(7, 22, .tuple #[.agg (enc .i32 r13).toArray, .int .i64 r14]), (8, 30, .agg (enc .i32 r13).toArray), (9, 31, .int .i64 r14)] ?_
   refine wpS.only 10 (op_storeW (t := 26) (v := .agg (enc .i32 r13).toArray) (d := none) (by kernel_rfl) hs 3 rfl (vs := enc .i32 r13) (n := 256) (by kernel_rfl) (by kernel_rfl) (by kernel_rfl) (by simp [enc_len]) (by simp [enc_len]) (by intro u hu; exact enc_one _ _ u hu) ?_)
   intro w kp hs
   refine ⟨fun _ => trivial, ?_⟩
   refine wpS.q 11 9 (.int .i64 r14) ?_
   refine wpS.fin rfl (kr9 _ _ ?_)
   obtain ⟨q0, qr0⟩ := Prod.mk.inj (of_some h)
   have q1 := qr0
   subst q0
   subst q1
   exact nj _ _ ⟨(hs.drop (.cons _ (.cons _ (.cons _ (.cons_cons _ (.cons_cons _ (.cons_cons _ (.cons_cons _ (.cons_cons _ .slnil))))))))), exg (by kernel_rfl)⟩
  refine wpS.tk 1 false (some 21) (.bool false) (yld_b (df hc) (fun _ => by kernel_rfl)) ?_
  refine wpS.fin rfl (kr8 _ _ (then_n (ks7 _ _ (wp_cond_f (by kernel_rfl) (xskip ?_)))))
  obtain ⟨q0, qr0⟩ := Prod.mk.inj (of_some h)
  have q1 := qr0
  subst q0
  subst q1
  exact nj _ _ ⟨(hs.conv rfl), exg (by kernel_rfl)⟩
 clear hj hs
 rintro a w ⟨hs, g5, rfl⟩
 refine then_n (ks6 _ _ (xseq_k fun KS10 ks10 => (xseq_k fun KS11 ks11 => (xregS [0, 1] fun KR12 kr12 => ?_))))
 refine wpS.q 0 32 (.int .i64 y8) ?_
 rcases of_if h with ⟨hc, h⟩ | ⟨hc, h⟩
 ·refine wpS.tk 1 false (some 33) (.bool true) (yld_b (dt hc) (fun _ => by kernel_rfl)) ?_
  refine wpS.fin rfl (kr12 _ _ (then_n (ks11 _ _ (wp_cond_t (by kernel_rfl) (xseq_k fun KS13 ks13 => (xregS [0, 1, 2] fun KR14 kr14 => ?_))))))
  refine wpS.q 0 34 (.agg (enc .i32 (zeroA 256)).toArray) ?_
  refine wpS.only 1 (op_storeW (t := 26) (v := .agg (enc .i32 (zeroA 256)).toArray) (d := none) (by kernel_rfl) hs 4 rfl (vs := enc .i32 (zeroA 256)) (n := 256) (by kernel_rfl) (by kernel_rfl) (by kernel_rfl) (by simp [enc_len]) (by simp [enc_len]) (by intro u hu; exact enc_one _ _ u hu) ?_)
  intro w kp hs
  refine ⟨fun _ => trivial, ?_⟩
  refine wpS.q 2 7 (.int .i64 12) ?_
  refine wpS.fin rfl (kr14 _ _ (then_n (ks13 _ _ (xret (then_r ?_)))))
  obtain ⟨q0, qr0⟩ := Prod.mk.inj (of_some h)
  have q1 := qr0
  subst q0
  subst q1
  exact qq _ _ (post_ret (by kernel_rfl) (run_results [.cell 6 26, .tmp 7] [.agg (enc .i32 (zeroA 256)).toArray, .int .i64 12] (by kernel_rfl) (.cons (res_cellN (n := 256) hs 4 rfl (by kernel_rfl) (by kernel_rfl) (by kernel_rfl) (by exact enc_len _ _)) (.cons (res_tmp (by kernel_rfl)) .nil))) ⟨congrArg Ending.returned (by kernel_rfl), hs.none⟩)
 refine wpS.tk 1 false (some 33) (.bool false) (yld_b (df hc) (fun _ => by kernel_rfl)) ?_
 refine wpS.fin rfl (kr12 _ _ (then_n (ks11 _ _ (wp_cond_f (by kernel_rfl) (xskip (then_n (ks10 _ _ (xseq_k fun KS15 ks15 => (xregS [0, 1, 2] fun KR16 kr16 => ?_)))))))))
 refine wpS.tk 0 true (some 35) (.agg (enc .i32 y9).toArray) (yld_loadW (e := 26) (n := 256) hs 0 rfl (by kernel_rfl) (by kernel_rfl) (by kernel_rfl) (by exact enc_len _ _) .grow) ?_
 refine wpS.only 1 (op_storeW (t := 26) (v := .agg (enc .i32 y9).toArray) (d := none) (by kernel_rfl) hs 4 rfl (vs := enc .i32 y9) (n := 256) (by kernel_rfl) (by kernel_rfl) (by kernel_rfl) (by simp [enc_len]) (by simp [enc_len]) (by intro u hu; exact enc_one _ _ u hu) ?_)
 intro w kp hs
 refine ⟨fun _ => trivial, ?_⟩
 refine wpS.q 2 7 (.int .i64 0) ?_
 refine wpS.fin rfl (kr16 _ _ (then_n (ks15 _ _ (xret ?_))))
 obtain ⟨q0, qr0⟩ := Prod.mk.inj (of_some h)
 have q1 := qr0
 subst q0
 subst q1
 exact qq _ _ (post_ret (by kernel_rfl) (run_results [.cell 6 26, .tmp 7] [.agg (enc .i32 y9).toArray, .int .i64 0] (by kernel_rfl) (.cons (res_cellN (n := 256) hs 4 rfl (by kernel_rfl) (by kernel_rfl) (by kernel_rfl) (by exact enc_len _ _)) (.cons (res_tmp (by kernel_rfl)) .nil))) ⟨congrArg Ending.returned (by kernel_rfl), hs.none⟩)
end Go.Proofs.YtppohhnfojalbaaDoor
