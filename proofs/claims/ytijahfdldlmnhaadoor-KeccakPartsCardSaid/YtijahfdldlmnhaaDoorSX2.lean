/- Printed by this work's own program: the code of each function below comes to the answer that its plain form tells. -/
import Derived.Test.YtijahfdldlmnhaaDoorMr
import Derived.Test.YtijahfdldlmnhaaDoorProg
import Derived.Test.YtijahfdldlmnhaaDoorSF0
import Derived.Test.YtijahfdldlmnhaaDoorSX0
import Derived.Test.YtijahfdldlmnhaaDoorSX1
set_option linter.unusedVariables false
set_option linter.unusedSimpArgs false
set_option maxRecDepth 100000
set_option maxHeartbeats 4000000
namespace Go.Proofs.YtijahfdldlmnhaaDoor
open Go.Mx
attribute [local irreducible] wpOp

theorem keccak_Absorb.ok {K : Nat} {a0_0 : Int} {a0_1 : Arr 25} {a0_2 : Int} {a0_3 : Bool} {a1 : List Int} {r0_0 : Int} {r0_1 : Arr 25} {r0_2 : Int} {r0_3 : Bool} {a1_A : Option Addr} {a1_n : Nat} {a1_c : Nat} (h : keccak_Absorb.f K a0_0 a0_1 a0_2 a0_3 a1 = some (r0_0, r0_1, r0_2, r0_3)) (w0 : World) (hp1 : RowL (CI .u8) w0 a1_A a1_n a1_c a1) (hg0 : RowL (CA .u64 24 (by decide)) w0 (some ⟨0, 0, none⟩) 1 1 [tab_0]) (hg1 : RowL (CA .i64 24 (by decide)) w0 (some ⟨1, 0, none⟩) 1 1 [tab_1]) (hg2 : RowL (CA .i64 24 (by decide)) w0 (some ⟨2, 0, none⟩) 1 1 [tab_2]) : Ret Tryd.prog 9 #[.agg (([.int .i64 a0_0] : List Value) ++ enc .u64 a0_1 ++ ([.int .i64 a0_2, .bool a0_3] : List Value)).toArray, .slice a1_A a1_n a1_c] w0 (.agg (([.int .i64 r0_0] : List Value) ++ enc .u64 r0_1 ++ ([.int .i64 r0_2, .bool r0_3] : List Value)).toArray) := by
  refine calls_k Tryd.func9 rfl fun Q qq => ?_
  have hs := St.startR (all_cons (RowP.ent hp1) (all_cons (RowP.ent hg0) (all_cons (RowP.ent hg1) (all_cons (RowP.ent hg2) all_nil))))
  refine wp_conv (a' := ⟨#[.agg (([.int .i64 a0_0] : List Value) ++ enc .u64 a0_1 ++ ([.int .i64 a0_2, .bool a0_3] : List Value)).toArray, .slice a1_A a1_n a1_c, undef, undef, undef, undef, undef, undef, undef, undef, undef, undef, undef, undef, undef, undef, undef, undef, undef, undef, undef, undef, undef, undef, undef, undef, undef, undef, undef, undef, undef, undef, undef, undef, undef, undef, undef, undef, undef, undef], []⟩) (by kernel_rfl) ?_
  refine wp_seq_k fun KS1 ks1 => ?_
  refine wp_regS (l := [0, 1]) (by kernel_rfl) fun KR kr => ?_
  refine wpS.only 0 (op_box (t := 25) (v := .agg (([.int .i64 a0_0] : List Value) ++ enc .u64 a0_1 ++ ([.int .i64 a0_2, .bool a0_3] : List Value)).toArray) (d := (some 2)) (by kernel_rfl) hs (([.int .i64 a0_0] : List Value) ++ enc .u64 a0_1 ++ ([.int .i64 a0_2, .bool a0_3] : List Value)) (by kernel_rfl) (by kernel_rfl) ?_)
  intro b1 w gw hs
  refine ⟨fun _ => trivial, ?_⟩
  refine wpS.only 1 (op_alloc (t := 25) (d := (some 4)) (by kernel_rfl) hs (([.int .i64 0] : List Value) ++ enc .u64 (zeroA 25) ++ ([.int .i64 0, .bool false] : List Value)) (.agg (([.int .i64 0] : List Value) ++ enc .u64 (zeroA 25) ++ ([.int .i64 0, .bool false] : List Value)).toArray) (by kernel_rfl) (by kernel_rfl) (by kernel_rfl) ?_)
  intro b2 w gw hs
  refine ⟨fun _ => trivial, ?_⟩
  refine wpS.fin rfl (kr _ _ ?_)
  refine then_n (ks1 _ _ ?_)
  refine wp_seq_k fun KS4 ks4 => ?_
  refine wp_seq_k fun KS5 ks5 => ?_
  refine wp_regS (l := [0, 1]) (by kernel_rfl) fun KR kr => ?_
  refine wpS.take 0 false (some 7) (.pointer (some ⟨b1, 27, none⟩)) (by kernel_rfl) (yld fun _ => by kernel_rfl) ?_
  cases a0_3 with
  | true =>
    have h := of_if_t h
    refine wpS.take 1 true (some 8) (.bool true) (by kernel_rfl) (yld_load1 (e := 4) (o := 27) hs 1 rfl (by kernel_rfl) (by kernel_rfl) (get_post 1 rfl rfl) .grow) ?_
    refine wpS.fin rfl (kr _ _ ?_)
    refine then_n (ks5 _ _ ?_)
    refine wp_cond_t (by kernel_rfl) ?_
    refine wp_seq_k fun KS6 ks6 => ?_
    refine wp_regS (l := [0, 1]) (by kernel_rfl) fun KR kr => ?_
    refine wpS.take 0 true (some 9) (.agg (([.int .i64 a0_0] : List Value) ++ enc .u64 a0_1 ++ ([.int .i64 a0_2, .bool true] : List Value)).toArray) (by kernel_rfl) (yld_loadW (e := 25) (n := 28) hs 1 rfl (by kernel_rfl) (by kernel_rfl) (by kernel_rfl) (by simp [enc_len]) .grow) ?_
    refine wpS.only 1 (op_storeW (t := 25) (v := .agg (([.int .i64 a0_0] : List Value) ++ enc .u64 a0_1 ++ ([.int .i64 a0_2, .bool true] : List Value)).toArray) (d := none) (by kernel_rfl) hs 0 rfl (vs := ([.int .i64 a0_0] : List Value) ++ enc .u64 a0_1 ++ ([.int .i64 a0_2, .bool true] : List Value)) (n := 28) (by kernel_rfl) (by kernel_rfl) (by kernel_rfl) (by simp [enc_len]) (by simp [enc_len]) (one_app (one_app (by simp [Value.oneCell']) (fun u hu => enc_one _ _ u hu)) (by simp [Value.oneCell'])) ?_)
    intro w kp hs
    refine ⟨fun _ => trivial, ?_⟩
    refine wpS.fin rfl (kr _ _ ?_)
    refine then_n (ks6 _ _ ?_)
    refine wp_ret ?_
    refine then_r ?_
    obtain ⟨q0, qr0⟩ := Prod.mk.inj (of_some h)
    obtain ⟨q1, qr1⟩ := Prod.mk.inj (qr0)
    obtain ⟨q2, qr2⟩ := Prod.mk.inj (qr1)
    have q3 := qr2
    subst q0
    subst q1
    subst q2
    subst q3
    exact qq _ _ (post_ret (by kernel_rfl) (run_results [.cell 4 25] [.agg (([.int .i64 a0_0] : List Value) ++ enc .u64 a0_1 ++ ([.int .i64 a0_2, .bool true] : List Value)).toArray] (by kernel_rfl) (.cons (res_cellN (n := 28) hs 0 rfl (by kernel_rfl) (by kernel_rfl) (by kernel_rfl) (by simp [enc_len])) .nil)) ⟨congrArg Ending.returned (by kernel_rfl), hs.none⟩)
  | false =>
    have h := of_if_f h
    refine wpS.take 1 true (some 8) (.bool false) (by kernel_rfl) (yld_load1 (e := 4) (o := 27) hs 1 rfl (by kernel_rfl) (by kernel_rfl) (get_post 1 rfl rfl) .grow) ?_
    refine wpS.fin rfl (kr _ _ ?_)
    refine then_n (ks5 _ _ ?_)
    refine wp_cond_f (by kernel_rfl) ?_
    refine wp_skip ?_
    refine then_n (ks4 _ _ ?_)
    refine wp_seq_k fun KS7 ks7 => ?_
    refine wp_regS (l := [0, 1, 2, 3]) (by kernel_rfl) fun KR kr => ?_
    refine wpS.take 0 false (some 10) (.pointer (some ⟨b1, 0, none⟩)) (by kernel_rfl) (yld fun _ => by kernel_rfl) ?_
    refine wpS.take 1 true (some 11) (.int .i64 a0_0) (by kernel_rfl) (yld_load1 (e := 3) (o := 0) hs 1 rfl (by kernel_rfl) (by kernel_rfl) (get_pre rfl) .grow) ?_
    obtain ⟨r3, hg, h⟩ := of_bind h
    refine wpS.only 2 (op_call (d := (some 12)) (by kernel_rfl) hs (fun _ => by kernel_rfl) (keccak_rate.ok hg _) ?_)
    intro w gw hs
    refine ⟨fun _ => trivial, ?_⟩
    refine wpS.take 3 false (some 5) (.int .i64 r3) (by kernel_rfl) (yld fun _ => by kernel_rfl) ?_
    refine wpS.fin rfl (kr _ _ ?_)
    refine then_n (ks7 _ _ ?_)
    refine wp_seq_k fun KS53 ks53 => ?_
    refine wp_seq_k fun KS54 ks54 => ?_
    refine wp_regS (l := [0, 1, 2]) (by kernel_rfl) fun KR kr => ?_
    refine wpS.take 0 false (some 13) (.slice a1_A a1_n a1_c) (by kernel_rfl) (yld fun _ => by kernel_rfl) ?_
    refine wpS.take 1 false (some 14) (.int .i64 (a1.length : Int)) (by kernel_rfl) (yld_lenL (hs.rowR 0 rfl) (fun _ => by kernel_rfl)) ?_
    refine wpS.take 2 false (some 15) (.int .i64 0) (by kernel_rfl) (yld fun _ => by kernel_rfl) ?_
    refine wpS.fin rfl (kr _ _ ?_)
    refine then_n (ks54 _ _ ?_)
    obtain ⟨⟨y6_0, y6_1, y6_2, y6_3⟩, hy, hk0⟩ := of_bind h
    refine wp_exq (N := fun a w => St w0 [] [.blk b2 (([.int .i64 0] : List Value) ++ enc .u64 (zeroA 25) ++ ([.int .i64 0, .bool false] : List Value)) 25, .blk b1 (([.int .i64 y6_0] : List Value) ++ enc .u64 y6_1 ++ ([.int .i64 y6_2, .bool y6_3] : List Value)) 25] [.rowL (CI .u8) a1_A a1_n a1_c a1, .rowL (CA .u64 24 (by decide)) (some ⟨0, 0, none⟩) 1 1 ([tab_0]), .rowL (CA .i64 24 (by decide)) (some ⟨1, 0, none⟩) 1 1 ([tab_1]), .rowL (CA .i64 24 (by decide)) (some ⟨2, 0, none⟩) 1 1 ([tab_2])] w ∧ ∃ g : Nat → Value, a = ⟨#[.agg (([.int .i64 a0_0] : List Value) ++ enc .u64 a0_1 ++ ([.int .i64 a0_2, .bool false] : List Value)).toArray, .slice a1_A a1_n a1_c, .pointer (some ⟨b1, 0, none⟩), undef, .pointer (some ⟨b2, 0, none⟩), .int .i64 r3, (g 6), .pointer (some ⟨b1, 27, none⟩), .bool false, undef, .pointer (some ⟨b1, 0, none⟩), .int .i64 a0_0, .int .i64 r3, .slice a1_A a1_n a1_c, .int .i64 (a1.length : Int), (g 15), (g 16), (g 17), (g 18), (g 19), (g 20), (g 21), (g 22), (g 23), (g 24), (g 25), (g 26), (g 27), (g 28), (g 29), (g 30), (g 31), (g 32), (g 33), (g 34), (g 35), (g 36), (g 37), (g 38), undef], []⟩) (fun N0 nn0 => ?_) ?_
    · clear hk0
      refine wp_block ?_
      refine wp_loop_k (fun n a w => ∃ z4 z5_0 z5_1 z5_2 z5_3, keccak_Absorb.l0 K n a1 r3 z4 z5_0 z5_1 z5_2 z5_3 = some (y6_0, y6_1, y6_2, y6_3) ∧ St w0 [] [.blk b2 (([.int .i64 0] : List Value) ++ enc .u64 (zeroA 25) ++ ([.int .i64 0, .bool false] : List Value)) 25, .blk b1 (([.int .i64 z5_0] : List Value) ++ enc .u64 z5_1 ++ ([.int .i64 z5_2, .bool z5_3] : List Value)) 25] [.rowL (CI .u8) a1_A a1_n a1_c a1, .rowL (CA .u64 24 (by decide)) (some ⟨0, 0, none⟩) 1 1 ([tab_0]), .rowL (CA .i64 24 (by decide)) (some ⟨1, 0, none⟩) 1 1 ([tab_1]), .rowL (CA .i64 24 (by decide)) (some ⟨2, 0, none⟩) 1 1 ([tab_2])] w ∧ ∃ g : Nat → Value, a = ⟨#[.agg (([.int .i64 a0_0] : List Value) ++ enc .u64 a0_1 ++ ([.int .i64 a0_2, .bool false] : List Value)).toArray, .slice a1_A a1_n a1_c, .pointer (some ⟨b1, 0, none⟩), undef, .pointer (some ⟨b2, 0, none⟩), .int .i64 r3, (g 6), .pointer (some ⟨b1, 27, none⟩), .bool false, undef, .pointer (some ⟨b1, 0, none⟩), .int .i64 a0_0, .int .i64 r3, .slice a1_A a1_n a1_c, .int .i64 (a1.length : Int), .int .i64 z4, (g 16), (g 17), (g 18), (g 19), (g 20), (g 21), (g 22), (g 23), (g 24), (g 25), (g 26), (g 27), (g 28), (g 29), (g 30), (g 31), (g 32), (g 33), (g 34), (g 35), (g 36), (g 37), (g 38), undef], []⟩) K ⟨0, a0_0, a0_1, a0_2, false, hy, hs.conv rfl, exg (by kernel_rfl)⟩ ?_
      clear hs h hy
      rintro n a w ⟨z4, z5_0, z5_1, z5_2, z5_3, h, hs, g, rfl⟩ KL0 kl0
      cases n with
      | zero => exact nomatch (show none = some _ from h)
      | succ n =>
        refine wp_seq_k fun KS77 ks77 => ?_
        refine wp_regS (l := [0]) (by kernel_rfl) fun KR kr => ?_
        rcases of_if h with ⟨hc, h⟩ | ⟨hc, h⟩
        · refine wpS.take 0 false (some 16) (.bool true) (by kernel_rfl) (yld_b (dt hc) (fun _ => by kernel_rfl)) ?_
          refine wpS.fin rfl (kr _ _ ?_)
          refine then_n (ks77 _ _ ?_)
          refine wp_seq_k fun KS78 ks78 => ?_
          refine wp_cond_t (by kernel_rfl) ?_
          refine wp_skip ?_
          refine then_n (ks78 _ _ ?_)
          obtain ⟨⟨y7_0, y7_1, y7_2, y7_3⟩, hj, h⟩ := of_bind h
          refine wp_seq_k fun KS97 ks97 => wp_join (N := fun a w => St w0 [] [.blk b2 (([.int .i64 0] : List Value) ++ enc .u64 (zeroA 25) ++ ([.int .i64 0, .bool false] : List Value)) 25, .blk b1 (([.int .i64 y7_0] : List Value) ++ enc .u64 y7_1 ++ ([.int .i64 y7_2, .bool y7_3] : List Value)) 25] [.rowL (CI .u8) a1_A a1_n a1_c a1, .rowL (CA .u64 24 (by decide)) (some ⟨0, 0, none⟩) 1 1 ([tab_0]), .rowL (CA .i64 24 (by decide)) (some ⟨1, 0, none⟩) 1 1 ([tab_1]), .rowL (CA .i64 24 (by decide)) (some ⟨2, 0, none⟩) 1 1 ([tab_2])] w ∧ ∃ g : Nat → Value, a = ⟨#[.agg (([.int .i64 a0_0] : List Value) ++ enc .u64 a0_1 ++ ([.int .i64 a0_2, .bool false] : List Value)).toArray, .slice a1_A a1_n a1_c, .pointer (some ⟨b1, 0, none⟩), undef, .pointer (some ⟨b2, 0, none⟩), .int .i64 r3, (g 6), .pointer (some ⟨b1, 27, none⟩), .bool false, undef, .pointer (some ⟨b1, 0, none⟩), .int .i64 a0_0, .int .i64 r3, .slice a1_A a1_n a1_c, .int .i64 (a1.length : Int), .int .i64 z4, .bool true, (g 17), (g 18), (g 19), (g 20), (g 21), (g 22), (g 23), (g 24), (g 25), (g 26), (g 27), (g 28), (g 29), (g 30), (g 31), (g 32), (g 33), (g 34), (g 35), (g 36), (g 37), (g 38), undef], []⟩) (fun N nj => ?_) ?_
          · clear h
            have h := hj
            refine wp_block ?_
            refine wp_seq_k fun KS91 ks91 => ?_
            refine wp_regS (l := [0, 1]) (by kernel_rfl) fun KR kr => ?_
            refine wpS.take 0 false (some 17) (.int .i64 z4) (by kernel_rfl) (yld fun _ => by kernel_rfl) ?_
            refine wpS.take 1 false (some 6) (.int .i64 z4) (by kernel_rfl) (yld fun _ => by kernel_rfl) ?_
            refine wpS.fin rfl (kr _ _ ?_)
            refine then_n (ks91 _ _ ?_)
            refine wp_seq_k fun KS92 ks92 => ?_
            refine wp_regG [6] (fun k => k = b1) 7 (by kernel_rfl) (by kernel_rfl) fun KR kr => ?_
            have hs := hs.drawn1
            refine wpG.takeD 0 false (some 18) (.pointer (some ⟨b1, 26, none⟩)) (by kernel_rfl) (by kernel_rfl) (yld fun _ => by kernel_rfl) ?_
            refine wpG.takeD 1 true (some 19) (.int .i64 z5_2) (by kernel_rfl) (by kernel_rfl) (yld_load1 (e := 3) (o := 26) hs 1 rfl (by kernel_rfl) (by kernel_rfl) (get_post 0 rfl rfl) .grow) ?_
            refine wpG.takeD 2 false (some 20) (.slice a1_A a1_n a1_c) (by kernel_rfl) (by kernel_rfl) (yld fun _ => by kernel_rfl) ?_
            refine wpG.takeD 3 false (some 21) (.int .i64 z4) (by kernel_rfl) (by kernel_rfl) (yld fun _ => by kernel_rfl) ?_
            obtain ⟨h0, h⟩ := of_chk h
            obtain ⟨h1, h⟩ := of_chk h
            have i0_94 := h0
            have i1_94 := h1
            refine wpG.takeD 4 false (some 22) (.pointer (adr a1_A ((z4 : Int).toNat * Cod.size (CI .u8)))) (by kernel_rfl) (by kernel_rfl) (yld_idxL (C := (CI .u8)) (t := 26) (e := 5) (k := .i64) (x := z4) (hs.rowR 0 rfl) (by kernel_rfl) (by kernel_rfl) (by kernel_rfl) h0 h1) ?_
            refine wpG.takeD 5 true (some 23) (.int .u8 (rdL (CI .u8) a1 z4)) (by kernel_rfl) (by kernel_rfl) (yld_loadL (C := (CI .u8)) (e := 5) (x := z4) (hs.rowR 0 rfl) (by kernel_rfl) rfl (by kernel_rfl) i0_94 i1_94) ?_
            obtain ⟨⟨r8_0, r8_1, r8_2, r8_3⟩, hg, h⟩ := of_bind h
            refine wpG.only 6 (by kernel_rfl) (op_callX (d := (some 24)) (by kernel_rfl) hs 1 rfl (fun _ => by kernel_rfl) (keccak_xor.ok hg _ (hs.blkAt 1 rfl)) ?_)
            intro w kp hs
            have hs := hs.conv (L' := [.blk b2 (([.int .i64 0] : List Value) ++ enc .u64 (zeroA 25) ++ ([.int .i64 0, .bool false] : List Value)) 25, .blk b1 (([.int .i64 r8_0] : List Value) ++ enc .u64 r8_1 ++ ([.int .i64 r8_2, .bool r8_3] : List Value)) 25]) rfl
            refine ⟨⟨fun hf => absurd hf (by decide), kp.mono fun _ h => h⟩, ?_⟩
            refine wpG.fin (by kernel_rfl) rfl (kr _ _ ?_)
            refine then_n (ks92 _ _ ?_)
            refine wp_seq_k fun KS95 ks95 => ?_
            refine wp_regS (l := [0, 1, 2, 3, 4]) (by kernel_rfl) fun KR kr => ?_
            refine wpS.take 0 false (some 25) (.pointer (some ⟨b1, 26, none⟩)) (by kernel_rfl) (yld fun _ => by kernel_rfl) ?_
            refine wpS.take 1 true (some 26) (.int .i64 r8_2) (by kernel_rfl) (yld_load1 (e := 3) (o := 26) hs 1 rfl (by kernel_rfl) (by kernel_rfl) (get_post 0 rfl rfl) .grow) ?_
            refine wpS.take 2 false (some 27) (.int .i64 (iadd .i64 r8_2 1)) (by kernel_rfl) (yld fun _ => by kernel_rfl) ?_
            refine wpS.take 3 false (some 28) (.pointer (some ⟨b1, 26, none⟩)) (by kernel_rfl) (yld fun _ => by kernel_rfl) ?_
            obtain ⟨x9, hx, h⟩ := of_bind h
            refine wpS.only 4 (op_storeQ (t := 3) (o := 26) (v := .int .i64 x9) (d := none) (by kernel_rfl) hs 1 rfl (by cases hx; kernel_rfl) rfl (by kernel_rfl) (by simp [enc_len]) (set_post 0 rfl) ?_)
            intro w kp hs
            have hs := hs.conv (L' := [.blk b2 (([.int .i64 0] : List Value) ++ enc .u64 (zeroA 25) ++ ([.int .i64 0, .bool false] : List Value)) 25, .blk b1 (([.int .i64 r8_0] : List Value) ++ enc .u64 r8_1 ++ ([.int .i64 x9, .bool r8_3] : List Value)) 25]) rfl
            refine ⟨fun _ => trivial, ?_⟩
            refine wpS.fin rfl (kr _ _ ?_)
            refine then_n (ks95 _ _ ?_)
            refine wp_seq_k fun KS96 ks96 => ?_
            refine wp_regS (l := [0, 1, 2, 3]) (by kernel_rfl) fun KR kr => ?_
            refine wpS.take 0 false (some 29) (.pointer (some ⟨b1, 26, none⟩)) (by kernel_rfl) (yld fun _ => by kernel_rfl) ?_
            refine wpS.take 1 true (some 30) (.int .i64 x9) (by kernel_rfl) (yld_load1 (e := 3) (o := 26) hs 1 rfl (by kernel_rfl) (by kernel_rfl) (get_post 0 rfl rfl) .grow) ?_
            refine wpS.take 2 false (some 31) (.int .i64 r3) (by kernel_rfl) (yld fun _ => by kernel_rfl) ?_
            rcases of_if h with ⟨hc, h⟩ | ⟨hc, h⟩
            · refine wpS.take 3 false (some 32) (.bool true) (by kernel_rfl) (yld_b (et hc) (fun _ => by kernel_rfl)) ?_
              refine wpS.fin rfl (kr _ _ ?_)
              refine then_n (ks96 _ _ ?_)
              refine wp_cond_t (by kernel_rfl) ?_
              refine wp_regS (l := [0, 1, 2, 3, 4, 5, 6]) (by kernel_rfl) fun KR kr => ?_
              refine wpS.take 0 false (some 33) (.pointer (some ⟨b1, 1, none⟩)) (by kernel_rfl) (yld fun _ => by kernel_rfl) ?_
              refine wpS.take 1 true (some 34) (.agg (enc .u64 r8_1).toArray) (by kernel_rfl) (yld_loadN (e := 23) (n := 25) (o := 1) hs 1 rfl (by kernel_rfl) (by kernel_rfl) (by kernel_rfl) (mid_of rfl) (enc_len _ _) .grow) ?_
              obtain ⟨r10, hg, h⟩ := of_bind h
              refine wpS.only 2 (op_call (d := (some 35)) (by kernel_rfl) hs (fun _ => by kernel_rfl) (keccak_Permute.ok hg _ (hs.rowR 1 rfl) (hs.rowR 2 rfl) (hs.rowR 3 rfl)) ?_)
              intro w gw hs
              refine ⟨fun _ => trivial, ?_⟩
              refine wpS.take 3 false (some 36) (.pointer (some ⟨b1, 1, none⟩)) (by kernel_rfl) (yld fun _ => by kernel_rfl) ?_
              refine wpS.only 4 (op_storeM (t := 23) (o := 1) (m := 25) (v := .agg (enc .u64 r10).toArray) (vs := enc .u64 r10) (d := none) (by kernel_rfl) hs 1 rfl (by kernel_rfl) (by kernel_rfl) (by kernel_rfl) (enc_len _ _) (by simp [enc_len]) (by intro u hu; exact enc_one _ _ u hu) (splice_row rfl) ?_)
              intro w kp hs
              refine ⟨fun _ => trivial, ?_⟩
              refine wpS.take 5 false (some 37) (.pointer (some ⟨b1, 26, none⟩)) (by kernel_rfl) (yld fun _ => by kernel_rfl) ?_
              refine wpS.only 6 (op_storeQ (t := 3) (o := 26) (v := .int .i64 0) (d := none) (by kernel_rfl) hs 1 rfl (by cases hx; kernel_rfl) rfl (by kernel_rfl) (by simp [enc_len]) (set_post 0 rfl) ?_)
              intro w kp hs
              have hs := hs.conv (L' := [.blk b2 (([.int .i64 0] : List Value) ++ enc .u64 (zeroA 25) ++ ([.int .i64 0, .bool false] : List Value)) 25, .blk b1 (([.int .i64 r8_0] : List Value) ++ enc .u64 r10 ++ ([.int .i64 0, .bool r8_3] : List Value)) 25]) rfl
              refine ⟨fun _ => trivial, ?_⟩
              refine wpS.fin rfl (kr _ _ ?_)
              refine inBlock_n ?_
              obtain ⟨q0, qr0⟩ := Prod.mk.inj (of_some h)
              obtain ⟨q1, qr1⟩ := Prod.mk.inj (qr0)
              obtain ⟨q2, qr2⟩ := Prod.mk.inj (qr1)
              have q3 := qr2
              subst q0
              subst q1
              subst q2
              subst q3
              exact nj _ _ ⟨(hs.conv rfl), exg (by kernel_rfl)⟩
            · refine wpS.take 3 false (some 32) (.bool false) (by kernel_rfl) (yld_b (ef hc) (fun _ => by kernel_rfl)) ?_
              refine wpS.fin rfl (kr _ _ ?_)
              refine then_n (ks96 _ _ ?_)
              refine wp_cond_f (by kernel_rfl) ?_
              refine wp_skip ?_
              refine inBlock_n ?_
              obtain ⟨q0, qr0⟩ := Prod.mk.inj (of_some h)
              obtain ⟨q1, qr1⟩ := Prod.mk.inj (qr0)
              obtain ⟨q2, qr2⟩ := Prod.mk.inj (qr1)
              have q3 := qr2
              subst q0
              subst q1
              subst q2
              subst q3
              exact nj _ _ ⟨(hs.conv rfl), exg (by kernel_rfl)⟩
          · clear hj hs
            rintro a w ⟨hs, g, rfl⟩
            refine then_n (ks97 _ _ ?_)
            refine wp_regS (l := [0, 1]) (by kernel_rfl) fun KR kr => ?_
            refine wpS.take 0 false (some 38) (.int .i64 (iadd .i64 z4 1)) (by kernel_rfl) (yld fun _ => by kernel_rfl) ?_
            refine wpS.take 1 false (some 15) (.int .i64 (iadd .i64 z4 1)) (by kernel_rfl) (yld fun _ => by kernel_rfl) ?_
            refine wpS.fin rfl (kr _ _ ?_)
            exact then_n (kl0 _ _ ⟨n, Nat.lt_succ_self n, (iadd .i64 z4 1), y7_0, y7_1, y7_2, y7_3, h, (hs.conv rfl), exg (by kernel_rfl)⟩)
        · refine wpS.take 0 false (some 16) (.bool false) (by kernel_rfl) (yld_b (df hc) (fun _ => by kernel_rfl)) ?_
          refine wpS.fin rfl (kr _ _ ?_)
          refine then_n (ks77 _ _ ?_)
          refine wp_seq_k fun KS98 ks98 => ?_
          refine wp_cond_f (by kernel_rfl) ?_
          refine wp_exit ?_
          refine then_x ?_
          refine then_x ?_
          refine inBlock_hit ?_
          obtain ⟨q0, qr0⟩ := Prod.mk.inj (of_some h)
          obtain ⟨q1, qr1⟩ := Prod.mk.inj (qr0)
          obtain ⟨q2, qr2⟩ := Prod.mk.inj (qr1)
          have q3 := qr2
          subst q0
          subst q1
          subst q2
          subst q3
          exact exq_n (nn0 _ _ ⟨(hs.conv rfl), exg (by kernel_rfl)⟩)
    · clear hs h hy
      rintro a w ⟨hs, g, rfl⟩
      have h := hk0
      refine then_n (ks53 _ _ ?_)
      refine wp_seq_k fun KS99 ks99 => ?_
      refine wp_regS (l := [0, 1]) (by kernel_rfl) fun KR kr => ?_
      refine wpS.take 0 true (some 39) (.agg (([.int .i64 y6_0] : List Value) ++ enc .u64 y6_1 ++ ([.int .i64 y6_2, .bool y6_3] : List Value)).toArray) (by kernel_rfl) (yld_loadW (e := 25) (n := 28) hs 1 rfl (by kernel_rfl) (by kernel_rfl) (by kernel_rfl) (by simp [enc_len]) .grow) ?_
      refine wpS.only 1 (op_storeW (t := 25) (v := .agg (([.int .i64 y6_0] : List Value) ++ enc .u64 y6_1 ++ ([.int .i64 y6_2, .bool y6_3] : List Value)).toArray) (d := none) (by kernel_rfl) hs 0 rfl (vs := ([.int .i64 y6_0] : List Value) ++ enc .u64 y6_1 ++ ([.int .i64 y6_2, .bool y6_3] : List Value)) (n := 28) (by kernel_rfl) (by kernel_rfl) (by kernel_rfl) (by simp [enc_len]) (by simp [enc_len]) (one_app (one_app (by simp [Value.oneCell']) (fun u hu => enc_one _ _ u hu)) (by simp [Value.oneCell'])) ?_)
      intro w kp hs
      refine ⟨fun _ => trivial, ?_⟩
      refine wpS.fin rfl (kr _ _ ?_)
      refine then_n (ks99 _ _ ?_)
      refine wp_ret ?_
      obtain ⟨q0, qr0⟩ := Prod.mk.inj (of_some h)
      obtain ⟨q1, qr1⟩ := Prod.mk.inj (qr0)
      obtain ⟨q2, qr2⟩ := Prod.mk.inj (qr1)
      have q3 := qr2
      subst q0
      subst q1
      subst q2
      subst q3
      exact qq _ _ (post_ret (by kernel_rfl) (run_results [.cell 4 25] [.agg (([.int .i64 y6_0] : List Value) ++ enc .u64 y6_1 ++ ([.int .i64 y6_2, .bool y6_3] : List Value)).toArray] (by kernel_rfl) (.cons (res_cellN (n := 28) hs 0 rfl (by kernel_rfl) (by kernel_rfl) (by kernel_rfl) (by simp [enc_len])) .nil)) ⟨congrArg Ending.returned (by kernel_rfl), hs.none⟩)

theorem keccak_turned.ok {K : Nat} {a0_0 : Int} {a0_1 : Arr 25} {a0_2 : Int} {a0_3 : Bool} {r0_0 : Int} {r0_1 : Arr 25} {r0_2 : Int} {r0_3 : Bool} (h : keccak_turned.f K a0_0 a0_1 a0_2 a0_3 = some (r0_0, r0_1, r0_2, r0_3)) (w0 : World) (hg0 : RowL (CA .u64 24 (by decide)) w0 (some ⟨0, 0, none⟩) 1 1 [tab_0]) (hg1 : RowL (CA .i64 24 (by decide)) w0 (some ⟨1, 0, none⟩) 1 1 [tab_1]) (hg2 : RowL (CA .i64 24 (by decide)) w0 (some ⟨2, 0, none⟩) 1 1 [tab_2]) : Ret Tryd.prog 26 #[.agg (([.int .i64 a0_0] : List Value) ++ enc .u64 a0_1 ++ ([.int .i64 a0_2, .bool a0_3] : List Value)).toArray] w0 (.agg (([.int .i64 r0_0] : List Value) ++ enc .u64 r0_1 ++ ([.int .i64 r0_2, .bool r0_3] : List Value)).toArray) := by
  refine calls_k Tryd.func26 rfl fun Q qq => ?_
  have hs := St.startR (all_cons (RowP.ent hg0) (all_cons (RowP.ent hg1) (all_cons (RowP.ent hg2) all_nil)))
  refine wp_conv (a' := ⟨#[.agg (([.int .i64 a0_0] : List Value) ++ enc .u64 a0_1 ++ ([.int .i64 a0_2, .bool a0_3] : List Value)).toArray, undef, undef, undef, undef, undef, undef, undef, undef, undef, undef, undef, undef, undef, undef, undef, undef, undef, undef, undef, undef, undef, undef, undef, undef, undef, undef, undef], []⟩) (by kernel_rfl) ?_
  refine wp_seq_k fun KS1 ks1 => ?_
  refine wp_regS (l := [0, 1]) (by kernel_rfl) fun KR kr => ?_
  refine wpS.only 0 (op_box (t := 25) (v := .agg (([.int .i64 a0_0] : List Value) ++ enc .u64 a0_1 ++ ([.int .i64 a0_2, .bool a0_3] : List Value)).toArray) (d := (some 1)) (by kernel_rfl) hs (([.int .i64 a0_0] : List Value) ++ enc .u64 a0_1 ++ ([.int .i64 a0_2, .bool a0_3] : List Value)) (by kernel_rfl) (by kernel_rfl) ?_)
  intro b1 w gw hs
  refine ⟨fun _ => trivial, ?_⟩
  refine wpS.only 1 (op_alloc (t := 25) (d := (some 2)) (by kernel_rfl) hs (([.int .i64 0] : List Value) ++ enc .u64 (zeroA 25) ++ ([.int .i64 0, .bool false] : List Value)) (.agg (([.int .i64 0] : List Value) ++ enc .u64 (zeroA 25) ++ ([.int .i64 0, .bool false] : List Value)).toArray) (by kernel_rfl) (by kernel_rfl) (by kernel_rfl) ?_)
  intro b2 w gw hs
  refine ⟨fun _ => trivial, ?_⟩
  refine wpS.fin rfl (kr _ _ ?_)
  refine then_n (ks1 _ _ ?_)
  refine wp_seq_k fun KS2 ks2 => ?_
  refine wp_regS (l := [0]) (by kernel_rfl) fun KR kr => ?_
  refine wpS.take 0 false (some 3) (.int .u8 31) (by kernel_rfl) (yld fun _ => by kernel_rfl) ?_
  refine wpS.fin rfl (kr _ _ ?_)
  refine then_n (ks2 _ _ ?_)
  obtain ⟨y3, hj, h⟩ := of_bind h
  refine wp_seq_k fun KS10 ks10 => wp_join (N := fun a w => St w0 [] [.blk b2 (([.int .i64 0] : List Value) ++ enc .u64 (zeroA 25) ++ ([.int .i64 0, .bool false] : List Value)) 25, .blk b1 (([.int .i64 a0_0] : List Value) ++ enc .u64 a0_1 ++ ([.int .i64 a0_2, .bool a0_3] : List Value)) 25] [.rowL (CA .u64 24 (by decide)) (some ⟨0, 0, none⟩) 1 1 ([tab_0]), .rowL (CA .i64 24 (by decide)) (some ⟨1, 0, none⟩) 1 1 ([tab_1]), .rowL (CA .i64 24 (by decide)) (some ⟨2, 0, none⟩) 1 1 ([tab_2])] w ∧ ∃ g : Nat → Value, a = ⟨#[.agg (([.int .i64 a0_0] : List Value) ++ enc .u64 a0_1 ++ ([.int .i64 a0_2, .bool a0_3] : List Value)).toArray, .pointer (some ⟨b1, 0, none⟩), .pointer (some ⟨b2, 0, none⟩), .int .u8 y3, (g 4), (g 5), (g 6), (g 7), (g 8), (g 9), (g 10), (g 11), undef, undef, undef, undef, undef, undef, undef, undef, undef, undef, undef, undef, undef, undef, undef, undef], []⟩) (fun N nj => ?_) ?_
  · clear h
    have h := hj
    refine wp_seq_k fun KS5 ks5 => ?_
    refine wp_regS (l := [0, 1, 2, 3, 4, 5, 6, 7]) (by kernel_rfl) fun KR kr => ?_
    refine wpS.take 0 false (some 4) (.pointer (some ⟨b1, 0, none⟩)) (by kernel_rfl) (yld fun _ => by kernel_rfl) ?_
    refine wpS.take 1 true (some 5) (.int .i64 a0_0) (by kernel_rfl) (yld_load1 (e := 3) (o := 0) hs 1 rfl (by kernel_rfl) (by kernel_rfl) (get_pre rfl) .grow) ?_
    rcases of_if h with ⟨hc, h⟩ | ⟨hc, h⟩
    · refine wpS.take 2 false (some 6) (.bool true) (by kernel_rfl) (yld_b (et hc) (fun _ => by kernel_rfl)) ?_
      refine wpS.take 3 false (some 7) (.bool true) (by kernel_rfl) (yld fun _ => by kernel_rfl) ?_
      refine wpS.take 4 false (some 8) (undef) (by kernel_rfl) (yld fun _ => by kernel_rfl) ?_
      refine wpS.take 5 false (some 9) (undef) (by kernel_rfl) (yld fun _ => by kernel_rfl) ?_
      refine wpS.take 6 false (some 10) (undef) (by kernel_rfl) (yld fun _ => by kernel_rfl) ?_
      refine wpS.take 7 false (some 11) (.bool true) (by kernel_rfl) (yld fun _ => by kernel_rfl) ?_
      refine wpS.fin rfl (kr _ _ ?_)
      refine then_n (ks5 _ _ ?_)
      refine wp_cond_t (by kernel_rfl) ?_
      refine wp_regS (l := [0]) (by kernel_rfl) fun KR kr => ?_
      refine wpS.take 0 false (some 3) (.int .u8 6) (by kernel_rfl) (yld fun _ => by kernel_rfl) ?_
      refine wpS.fin rfl (kr _ _ ?_)
      have q0 := of_some h
      subst q0
      exact nj _ _ ⟨(hs.conv rfl), exg (by kernel_rfl)⟩
    · refine wpS.take 2 false (some 6) (.bool false) (by kernel_rfl) (yld_b (ef hc) (fun _ => by kernel_rfl)) ?_
      refine wpS.take 3 false (some 7) (.bool false) (by kernel_rfl) (yld fun _ => by kernel_rfl) ?_
      refine wpS.take 4 false (some 8) (.pointer (some ⟨b1, 0, none⟩)) (by kernel_rfl) (yld fun _ => by kernel_rfl) ?_
      refine wpS.take 5 true (some 9) (.int .i64 a0_0) (by kernel_rfl) (yld_load1 (e := 3) (o := 0) hs 1 rfl (by kernel_rfl) (by kernel_rfl) (get_pre rfl) .grow) ?_
      rcases of_if h with ⟨hc, h⟩ | ⟨hc, h⟩
      · refine wpS.take 6 false (some 10) (.bool true) (by kernel_rfl) (yld_b (et hc) (fun _ => by kernel_rfl)) ?_
        refine wpS.take 7 false (some 11) (.bool true) (by kernel_rfl) (yld fun _ => by kernel_rfl) ?_
        refine wpS.fin rfl (kr _ _ ?_)
        refine then_n (ks5 _ _ ?_)
        refine wp_cond_t (by kernel_rfl) ?_
        refine wp_regS (l := [0]) (by kernel_rfl) fun KR kr => ?_
        refine wpS.take 0 false (some 3) (.int .u8 6) (by kernel_rfl) (yld fun _ => by kernel_rfl) ?_
        refine wpS.fin rfl (kr _ _ ?_)
        have q0 := of_some h
        subst q0
        exact nj _ _ ⟨(hs.conv rfl), exg (by kernel_rfl)⟩
      · refine wpS.take 6 false (some 10) (.bool false) (by kernel_rfl) (yld_b (ef hc) (fun _ => by kernel_rfl)) ?_
        refine wpS.take 7 false (some 11) (.bool false) (by kernel_rfl) (yld fun _ => by kernel_rfl) ?_
        refine wpS.fin rfl (kr _ _ ?_)
        refine then_n (ks5 _ _ ?_)
        refine wp_cond_f (by kernel_rfl) ?_
        refine wp_skip ?_
        have q0 := of_some h
        subst q0
        exact nj _ _ ⟨(hs.conv rfl), exg (by kernel_rfl)⟩
  · clear hj hs
    rintro a w ⟨hs, g, rfl⟩
    refine then_n (ks10 _ _ ?_)
    refine wp_seq_k fun KS6 ks6 => ?_
    refine wp_regS (l := [0, 1, 2, 3]) (by kernel_rfl) fun KR kr => ?_
    refine wpS.take 0 false (some 12) (.pointer (some ⟨b1, 26, none⟩)) (by kernel_rfl) (yld fun _ => by kernel_rfl) ?_
    refine wpS.take 1 true (some 13) (.int .i64 a0_2) (by kernel_rfl) (yld_load1 (e := 3) (o := 26) hs 1 rfl (by kernel_rfl) (by kernel_rfl) (get_post 0 rfl rfl) .grow) ?_
    refine wpS.take 2 false (some 14) (.int .u8 y3) (by kernel_rfl) (yld fun _ => by kernel_rfl) ?_
    obtain ⟨⟨r4_0, r4_1, r4_2, r4_3⟩, hg, h⟩ := of_bind h
    refine wpS.only 3 (op_callX (d := (some 15)) (by kernel_rfl) hs 1 rfl (fun _ => by kernel_rfl) (keccak_xor.ok hg _ (hs.blkAt 1 rfl)) ?_)
    intro w kp hs
    have hs := hs.conv (L' := [.blk b2 (([.int .i64 0] : List Value) ++ enc .u64 (zeroA 25) ++ ([.int .i64 0, .bool false] : List Value)) 25, .blk b1 (([.int .i64 r4_0] : List Value) ++ enc .u64 r4_1 ++ ([.int .i64 r4_2, .bool r4_3] : List Value)) 25]) rfl
    refine ⟨fun _ => trivial, ?_⟩
    refine wpS.fin rfl (kr _ _ ?_)
    refine then_n (ks6 _ _ ?_)
    refine wp_seq_k fun KS7 ks7 => ?_
    refine wp_regS (l := [0, 1, 2, 3, 4]) (by kernel_rfl) fun KR kr => ?_
    refine wpS.take 0 false (some 16) (.pointer (some ⟨b1, 0, none⟩)) (by kernel_rfl) (yld fun _ => by kernel_rfl) ?_
    refine wpS.take 1 true (some 17) (.int .i64 r4_0) (by kernel_rfl) (yld_load1 (e := 3) (o := 0) hs 1 rfl (by kernel_rfl) (by kernel_rfl) (get_pre rfl) .grow) ?_
    obtain ⟨r5, hg, h⟩ := of_bind h
    refine wpS.only 2 (op_call (d := (some 18)) (by kernel_rfl) hs (fun _ => by kernel_rfl) (keccak_rate.ok hg _) ?_)
    intro w gw hs
    refine ⟨fun _ => trivial, ?_⟩
    refine wpS.take 3 false (some 19) (.int .i64 (isub .i64 r5 1)) (by kernel_rfl) (yld fun _ => by kernel_rfl) ?_
    obtain ⟨⟨r6_0, r6_1, r6_2, r6_3⟩, hg, h⟩ := of_bind h
    refine wpS.only 4 (op_callX (d := (some 20)) (by kernel_rfl) hs 1 rfl (fun _ => by kernel_rfl) (keccak_xor.ok hg _ (hs.blkAt 1 rfl)) ?_)
    intro w kp hs
    have hs := hs.conv (L' := [.blk b2 (([.int .i64 0] : List Value) ++ enc .u64 (zeroA 25) ++ ([.int .i64 0, .bool false] : List Value)) 25, .blk b1 (([.int .i64 r6_0] : List Value) ++ enc .u64 r6_1 ++ ([.int .i64 r6_2, .bool r6_3] : List Value)) 25]) rfl
    refine ⟨fun _ => trivial, ?_⟩
    refine wpS.fin rfl (kr _ _ ?_)
    refine then_n (ks7 _ _ ?_)
    refine wp_seq_k fun KS8 ks8 => ?_
    refine wp_regS (l := [0, 1, 2, 3, 4, 5, 6, 7, 8]) (by kernel_rfl) fun KR kr => ?_
    refine wpS.take 0 false (some 21) (.pointer (some ⟨b1, 1, none⟩)) (by kernel_rfl) (yld fun _ => by kernel_rfl) ?_
    refine wpS.take 1 true (some 22) (.agg (enc .u64 r6_1).toArray) (by kernel_rfl) (yld_loadN (e := 23) (n := 25) (o := 1) hs 1 rfl (by kernel_rfl) (by kernel_rfl) (by kernel_rfl) (mid_of rfl) (enc_len _ _) .grow) ?_
    obtain ⟨r7, hg, h⟩ := of_bind h
    refine wpS.only 2 (op_call (d := (some 23)) (by kernel_rfl) hs (fun _ => by kernel_rfl) (keccak_Permute.ok hg _ (hs.rowR 0 rfl) (hs.rowR 1 rfl) (hs.rowR 2 rfl)) ?_)
    intro w gw hs
    refine ⟨fun _ => trivial, ?_⟩
    refine wpS.take 3 false (some 24) (.pointer (some ⟨b1, 1, none⟩)) (by kernel_rfl) (yld fun _ => by kernel_rfl) ?_
    refine wpS.only 4 (op_storeM (t := 23) (o := 1) (m := 25) (v := .agg (enc .u64 r7).toArray) (vs := enc .u64 r7) (d := none) (by kernel_rfl) hs 1 rfl (by kernel_rfl) (by kernel_rfl) (by kernel_rfl) (enc_len _ _) (by simp [enc_len]) (by intro u hu; exact enc_one _ _ u hu) (splice_row rfl) ?_)
    intro w kp hs
    refine ⟨fun _ => trivial, ?_⟩
    refine wpS.take 5 false (some 25) (.pointer (some ⟨b1, 26, none⟩)) (by kernel_rfl) (yld fun _ => by kernel_rfl) ?_
    refine wpS.only 6 (op_storeQ (t := 3) (o := 26) (v := .int .i64 0) (d := none) (by kernel_rfl) hs 1 rfl (by kernel_rfl /-v-/) rfl (by kernel_rfl) (by simp [enc_len]) (set_post 0 rfl) ?_)
    intro w kp hs
    have hs := hs.conv (L' := [.blk b2 (([.int .i64 0] : List Value) ++ enc .u64 (zeroA 25) ++ ([.int .i64 0, .bool false] : List Value)) 25, .blk b1 (([.int .i64 r6_0] : List Value) ++ enc .u64 r7 ++ ([.int .i64 0, .bool r6_3] : List Value)) 25]) rfl
    refine ⟨fun _ => trivial, ?_⟩
    refine wpS.take 7 false (some 26) (.pointer (some ⟨b1, 27, none⟩)) (by kernel_rfl) (yld fun _ => by kernel_rfl) ?_
    refine wpS.only 8 (op_storeQ (t := 4) (o := 27) (v := .bool true) (d := none) (by kernel_rfl) hs 1 rfl (by kernel_rfl /-v-/) rfl (by kernel_rfl) (by simp [enc_len]) (set_post 1 rfl) ?_)
    intro w kp hs
    have hs := hs.conv (L' := [.blk b2 (([.int .i64 0] : List Value) ++ enc .u64 (zeroA 25) ++ ([.int .i64 0, .bool false] : List Value)) 25, .blk b1 (([.int .i64 r6_0] : List Value) ++ enc .u64 r7 ++ ([.int .i64 0, .bool true] : List Value)) 25]) rfl
    refine ⟨fun _ => trivial, ?_⟩
    refine wpS.fin rfl (kr _ _ ?_)
    refine then_n (ks8 _ _ ?_)
    refine wp_seq_k fun KS9 ks9 => ?_
    refine wp_regS (l := [0, 1]) (by kernel_rfl) fun KR kr => ?_
    refine wpS.take 0 true (some 27) (.agg (([.int .i64 r6_0] : List Value) ++ enc .u64 r7 ++ ([.int .i64 0, .bool true] : List Value)).toArray) (by kernel_rfl) (yld_loadW (e := 25) (n := 28) hs 1 rfl (by kernel_rfl) (by kernel_rfl) (by kernel_rfl) (by simp [enc_len]) .grow) ?_
    refine wpS.only 1 (op_storeW (t := 25) (v := .agg (([.int .i64 r6_0] : List Value) ++ enc .u64 r7 ++ ([.int .i64 0, .bool true] : List Value)).toArray) (d := none) (by kernel_rfl) hs 0 rfl (vs := ([.int .i64 r6_0] : List Value) ++ enc .u64 r7 ++ ([.int .i64 0, .bool true] : List Value)) (n := 28) (by kernel_rfl) (by kernel_rfl) (by kernel_rfl) (by simp [enc_len]) (by simp [enc_len]) (one_app (one_app (by simp [Value.oneCell']) (fun u hu => enc_one _ _ u hu)) (by simp [Value.oneCell'])) ?_)
    intro w kp hs
    refine ⟨fun _ => trivial, ?_⟩
    refine wpS.fin rfl (kr _ _ ?_)
    refine then_n (ks9 _ _ ?_)
    refine wp_ret ?_
    obtain ⟨q0, qr0⟩ := Prod.mk.inj (of_some h)
    obtain ⟨q1, qr1⟩ := Prod.mk.inj (qr0)
    obtain ⟨q2, qr2⟩ := Prod.mk.inj (qr1)
    have q3 := qr2
    subst q0
    subst q1
    subst q2
    subst q3
    exact qq _ _ (post_ret (by kernel_rfl) (run_results [.cell 2 25] [.agg (([.int .i64 r6_0] : List Value) ++ enc .u64 r7 ++ ([.int .i64 0, .bool true] : List Value)).toArray] (by kernel_rfl) (.cons (res_cellN (n := 28) hs 0 rfl (by kernel_rfl) (by kernel_rfl) (by kernel_rfl) (by simp [enc_len])) .nil)) ⟨congrArg Ending.returned (by kernel_rfl), hs.none⟩)

theorem keccak_Squeeze.ok {K : Nat} {a0_0 : Int} {a0_1 : Arr 25} {a0_2 : Int} {a0_3 : Bool} {a1 : Int} {r0_0 : Int} {r0_1 : Arr 25} {r0_2 : Int} {r0_3 : Bool} {r1 : List Int} (h : keccak_Squeeze.f K a0_0 a0_1 a0_2 a0_3 a1 = some (r0_0, r0_1, r0_2, r0_3, r1)) (w0 : World) (hg0 : RowL (CA .u64 24 (by decide)) w0 (some ⟨0, 0, none⟩) 1 1 [tab_0]) (hg1 : RowL (CA .i64 24 (by decide)) w0 (some ⟨1, 0, none⟩) 1 1 [tab_1]) (hg2 : RowL (CA .i64 24 (by decide)) w0 (some ⟨2, 0, none⟩) 1 1 [tab_2]) : Calls Tryd.prog 11 #[.agg (([.int .i64 a0_0] : List Value) ++ enc .u64 a0_1 ++ ([.int .i64 a0_2, .bool a0_3] : List Value)).toArray, .int .i64 a1] w0 fun e w' => ∃ h : (Option Addr × Nat × Nat), e = .returned (.tuple #[.agg (([.int .i64 r0_0] : List Value) ++ enc .u64 r0_1 ++ ([.int .i64 r0_2, .bool r0_3] : List Value)).toArray, .slice h.1 h.2.1 h.2.2]) ∧ St w0 [] [.ownL (CI .u8) h.1 h.2.1 h.2.2 r1 5] [] w' := by
  refine calls_k Tryd.func11 rfl fun Q qq => ?_
  have hs := St.startR (all_cons (RowP.ent hg0) (all_cons (RowP.ent hg1) (all_cons (RowP.ent hg2) all_nil)))
  refine wp_conv (a' := ⟨#[.agg (([.int .i64 a0_0] : List Value) ++ enc .u64 a0_1 ++ ([.int .i64 a0_2, .bool a0_3] : List Value)).toArray, .int .i64 a1, undef, undef, undef, undef, undef, undef, undef, undef, undef, undef, undef, undef, undef, undef, undef, undef, undef, undef, undef, undef, undef, undef, undef, undef, undef, undef, undef, undef, undef, undef, undef, undef, undef, undef, undef, undef, undef, undef, undef, undef, undef, undef, undef, undef, undef, undef, undef, undef, undef, undef, undef, undef, undef, undef], []⟩) (by kernel_rfl) ?_
  refine wp_seq_k fun KS1 ks1 => ?_
  refine wp_regS (l := [0, 1, 2]) (by kernel_rfl) fun KR kr => ?_
  refine wpS.only 0 (op_box (t := 25) (v := .agg (([.int .i64 a0_0] : List Value) ++ enc .u64 a0_1 ++ ([.int .i64 a0_2, .bool a0_3] : List Value)).toArray) (d := (some 2)) (by kernel_rfl) hs (([.int .i64 a0_0] : List Value) ++ enc .u64 a0_1 ++ ([.int .i64 a0_2, .bool a0_3] : List Value)) (by kernel_rfl) (by kernel_rfl) ?_)
  intro b1 w gw hs
  refine ⟨fun _ => trivial, ?_⟩
  refine wpS.only 1 (op_alloc (t := 25) (d := (some 4)) (by kernel_rfl) hs (([.int .i64 0] : List Value) ++ enc .u64 (zeroA 25) ++ ([.int .i64 0, .bool false] : List Value)) (.agg (([.int .i64 0] : List Value) ++ enc .u64 (zeroA 25) ++ ([.int .i64 0, .bool false] : List Value)).toArray) (by kernel_rfl) (by kernel_rfl) (by kernel_rfl) ?_)
  intro b2 w gw hs
  refine ⟨fun _ => trivial, ?_⟩
  refine wpS.take 2 false (some 5) (.slice none 0 0) (by kernel_rfl) (yld fun _ => by kernel_rfl) ?_
  refine wpS.fin rfl (kr _ _ ?_)
  refine then_n (ks1 _ _ ?_)
  refine wp_seq_k fun KS4 ks4 => ?_
  refine wp_seq_k fun KS5 ks5 => ?_
  refine wp_regS (l := [0, 1]) (by kernel_rfl) fun KR kr => ?_
  refine wpS.take 0 false (some 8) (.int .i64 a1) (by kernel_rfl) (yld fun _ => by kernel_rfl) ?_
  rcases of_if h with ⟨hc, h⟩ | ⟨hc, h⟩
  · refine wpS.take 1 false (some 9) (.bool true) (by kernel_rfl) (yld_b (dt hc) (fun _ => by kernel_rfl)) ?_
    refine wpS.fin rfl (kr _ _ ?_)
    refine then_n (ks5 _ _ ?_)
    refine wp_cond_t (by kernel_rfl) ?_
    refine wp_seq_k fun KS6 ks6 => ?_
    refine wp_regS (l := [0, 1, 2]) (by kernel_rfl) fun KR kr => ?_
    refine wpS.take 0 true (some 10) (.agg (([.int .i64 a0_0] : List Value) ++ enc .u64 a0_1 ++ ([.int .i64 a0_2, .bool a0_3] : List Value)).toArray) (by kernel_rfl) (yld_loadW (e := 25) (n := 28) hs 1 rfl (by kernel_rfl) (by kernel_rfl) (by kernel_rfl) (by simp [enc_len]) .grow) ?_
    refine wpS.only 1 (op_storeW (t := 25) (v := .agg (([.int .i64 a0_0] : List Value) ++ enc .u64 a0_1 ++ ([.int .i64 a0_2, .bool a0_3] : List Value)).toArray) (d := none) (by kernel_rfl) hs 0 rfl (vs := ([.int .i64 a0_0] : List Value) ++ enc .u64 a0_1 ++ ([.int .i64 a0_2, .bool a0_3] : List Value)) (n := 28) (by kernel_rfl) (by kernel_rfl) (by kernel_rfl) (by simp [enc_len]) (by simp [enc_len]) (one_app (one_app (by simp [Value.oneCell']) (fun u hu => enc_one _ _ u hu)) (by simp [Value.oneCell'])) ?_)
    intro w kp hs
    refine ⟨fun _ => trivial, ?_⟩
    refine wpS.take 2 false (some 5) (.slice none 0 0) (by kernel_rfl) (yld fun _ => by kernel_rfl) ?_
    refine wpS.fin rfl (kr _ _ ?_)
    refine then_n (ks6 _ _ ?_)
    refine wp_ret ?_
    refine then_r ?_
    obtain ⟨q0, qr0⟩ := Prod.mk.inj (of_some h)
    obtain ⟨q1, qr1⟩ := Prod.mk.inj (qr0)
    obtain ⟨q2, qr2⟩ := Prod.mk.inj (qr1)
    obtain ⟨q3, qr3⟩ := Prod.mk.inj (qr2)
    have q4 := qr3
    subst q0
    subst q1
    subst q2
    subst q3
    subst q4
    have hs := hs.addNilL (CI .u8) 5
    exact qq _ _ (post_ret (by kernel_rfl) (run_results [.cell 4 25, .tmp 5] [.agg (([.int .i64 a0_0] : List Value) ++ enc .u64 a0_1 ++ ([.int .i64 a0_2, .bool a0_3] : List Value)).toArray, .slice none 0 0] (by kernel_rfl) (.cons (res_cellN (n := 28) hs 1 rfl (by kernel_rfl) (by kernel_rfl) (by kernel_rfl) (by simp [enc_len])) (.cons (res_tmp (by kernel_rfl)) .nil))) ⟨⟨none, 0, 0⟩, congrArg Ending.returned (by kernel_rfl), (((hs.conv (L' := [.ownL (CI .u8) none 0 0 ([] : List Int) 5, .blk b2 (([.int .i64 a0_0] : List Value) ++ enc .u64 a0_1 ++ ([.int .i64 a0_2, .bool a0_3] : List Value)) 25, .blk b1 (([.int .i64 a0_0] : List Value) ++ enc .u64 a0_1 ++ ([.int .i64 a0_2, .bool a0_3] : List Value)) 25]) rfl).drop (.cons_cons _ (.cons _ (.cons _ .slnil)))).pickR pick_nil)⟩)
  · refine wpS.take 1 false (some 9) (.bool false) (by kernel_rfl) (yld_b (df hc) (fun _ => by kernel_rfl)) ?_
    refine wpS.fin rfl (kr _ _ ?_)
    refine then_n (ks5 _ _ ?_)
    refine wp_cond_f (by kernel_rfl) ?_
    refine wp_skip ?_
    refine then_n (ks4 _ _ ?_)
    obtain ⟨⟨y3_0, y3_1, y3_2, y3_3⟩, hj, h⟩ := of_bind h
    refine wp_seq_k fun KS111 ks111 => wp_join (N := fun a w => St w0 [] [.blk b2 (([.int .i64 0] : List Value) ++ enc .u64 (zeroA 25) ++ ([.int .i64 0, .bool false] : List Value)) 25, .blk b1 (([.int .i64 y3_0] : List Value) ++ enc .u64 y3_1 ++ ([.int .i64 y3_2, .bool y3_3] : List Value)) 25] [.rowL (CA .u64 24 (by decide)) (some ⟨0, 0, none⟩) 1 1 ([tab_0]), .rowL (CA .i64 24 (by decide)) (some ⟨1, 0, none⟩) 1 1 ([tab_1]), .rowL (CA .i64 24 (by decide)) (some ⟨2, 0, none⟩) 1 1 ([tab_2])] w ∧ ∃ g : Nat → Value, a = ⟨#[.agg (([.int .i64 a0_0] : List Value) ++ enc .u64 a0_1 ++ ([.int .i64 a0_2, .bool a0_3] : List Value)).toArray, .int .i64 a1, .pointer (some ⟨b1, 0, none⟩), undef, .pointer (some ⟨b2, 0, none⟩), .slice none 0 0, undef, undef, .int .i64 a1, .bool false, undef, (g 11), (g 12), (g 13), (g 14), (g 15), undef, undef, undef, undef, undef, undef, undef, undef, undef, undef, undef, undef, undef, undef, undef, undef, undef, undef, undef, undef, undef, undef, undef, undef, undef, undef, undef, undef, undef, undef, undef, undef, undef, undef, undef, undef, undef, undef, undef, undef], []⟩) (fun N nj => ?_) ?_
    · clear h
      have h := hj
      refine wp_seq_k fun KS9 ks9 => ?_
      refine wp_regS (l := [0, 1, 2]) (by kernel_rfl) fun KR kr => ?_
      refine wpS.take 0 false (some 11) (.pointer (some ⟨b1, 27, none⟩)) (by kernel_rfl) (yld fun _ => by kernel_rfl) ?_
      cases a0_3 with
      | true =>
        have h := of_if_t h
        refine wpS.take 1 true (some 12) (.bool true) (by kernel_rfl) (yld_load1 (e := 4) (o := 27) hs 1 rfl (by kernel_rfl) (by kernel_rfl) (get_post 1 rfl rfl) .grow) ?_
        refine wpS.take 2 false (some 13) (.bool false) (by kernel_rfl) (yld fun _ => by kernel_rfl) ?_
        refine wpS.fin rfl (kr _ _ ?_)
        refine then_n (ks9 _ _ ?_)
        refine wp_cond_f (by kernel_rfl) ?_
        refine wp_skip ?_
        obtain ⟨q0, qr0⟩ := Prod.mk.inj (of_some h)
        obtain ⟨q1, qr1⟩ := Prod.mk.inj (qr0)
        obtain ⟨q2, qr2⟩ := Prod.mk.inj (qr1)
        have q3 := qr2
        subst q0
        subst q1
        subst q2
        subst q3
        exact nj _ _ ⟨(hs.conv rfl), exg (by kernel_rfl)⟩
      | false =>
        have h := of_if_f h
        refine wpS.take 1 true (some 12) (.bool false) (by kernel_rfl) (yld_load1 (e := 4) (o := 27) hs 1 rfl (by kernel_rfl) (by kernel_rfl) (get_post 1 rfl rfl) .grow) ?_
        refine wpS.take 2 false (some 13) (.bool true) (by kernel_rfl) (yld fun _ => by kernel_rfl) ?_
        refine wpS.fin rfl (kr _ _ ?_)
        refine then_n (ks9 _ _ ?_)
        refine wp_cond_t (by kernel_rfl) ?_
        refine wp_regS (l := [0, 1, 2]) (by kernel_rfl) fun KR kr => ?_
        refine wpS.take 0 true (some 14) (.agg (([.int .i64 a0_0] : List Value) ++ enc .u64 a0_1 ++ ([.int .i64 a0_2, .bool false] : List Value)).toArray) (by kernel_rfl) (yld_loadW (e := 25) (n := 28) hs 1 rfl (by kernel_rfl) (by kernel_rfl) (by kernel_rfl) (by simp [enc_len]) .grow) ?_
        obtain ⟨⟨r4_0, r4_1, r4_2, r4_3⟩, hg, h⟩ := of_bind h
        refine wpS.only 1 (op_call (d := (some 15)) (by kernel_rfl) hs (fun _ => by kernel_rfl) (keccak_turned.ok hg _ (hs.rowR 0 rfl) (hs.rowR 1 rfl) (hs.rowR 2 rfl)) ?_)
        intro w gw hs
        refine ⟨fun _ => trivial, ?_⟩
        refine wpS.only 2 (op_storeW (t := 25) (v := .agg (([.int .i64 r4_0] : List Value) ++ enc .u64 r4_1 ++ ([.int .i64 r4_2, .bool r4_3] : List Value)).toArray) (d := none) (by kernel_rfl) hs 1 rfl (vs := ([.int .i64 r4_0] : List Value) ++ enc .u64 r4_1 ++ ([.int .i64 r4_2, .bool r4_3] : List Value)) (n := 28) (by kernel_rfl) (by kernel_rfl) (by kernel_rfl) (by simp [enc_len]) (by simp [enc_len]) (one_app (one_app (by simp [Value.oneCell']) (fun u hu => enc_one _ _ u hu)) (by simp [Value.oneCell'])) ?_)
        intro w kp hs
        refine ⟨fun _ => trivial, ?_⟩
        refine wpS.fin rfl (kr _ _ ?_)
        obtain ⟨q0, qr0⟩ := Prod.mk.inj (of_some h)
        obtain ⟨q1, qr1⟩ := Prod.mk.inj (qr0)
        obtain ⟨q2, qr2⟩ := Prod.mk.inj (qr1)
        have q3 := qr2
        subst q0
        subst q1
        subst q2
        subst q3
        exact nj _ _ ⟨(hs.conv rfl), exg (by kernel_rfl)⟩
    · clear hj hs
      rintro a w ⟨hs, g, rfl⟩
      refine then_n (ks111 _ _ ?_)
      refine wp_seq_k fun KS10 ks10 => ?_
      refine wp_regS (l := [0, 1, 2]) (by kernel_rfl) fun KR kr => ?_
      refine wpS.take 0 false (some 16) (.int .i64 a1) (by kernel_rfl) (yld fun _ => by kernel_rfl) ?_
      obtain ⟨h0, h⟩ := of_chk h
      obtain ⟨h1, h⟩ := of_chk h
      refine wpS.only 1 (op_makeT (C := (CI .u8)) (t := 26) (e := 5) (bytes := 1) (B := 140737488355328) (kl := .i64) (kc := .i64) (x := a1) (d := (some 17)) (by kernel_rfl) hs (by kernel_rfl) (by kernel_rfl) (by kernel_rfl) (by kernel_rfl) (by kernel_rfl) h0 h1 (by decide) (by decide) ?_)
      intro s5_A s5_n s5_c w gw hs
      refine ⟨fun _ => trivial, ?_⟩
      refine wpS.take 2 false (some 6) (.slice s5_A s5_n s5_c) (by kernel_rfl) (yld fun _ => by kernel_rfl) ?_
      refine wpS.fin rfl (kr _ _ ?_)
      refine then_n (ks10 _ _ ?_)
      refine wp_seq_k fun KS60 ks60 => ?_
      refine wp_seq_k fun KS61 ks61 => ?_
      refine wp_regS (l := [0, 1, 2]) (by kernel_rfl) fun KR kr => ?_
      refine wpS.take 0 false (some 18) (.slice s5_A s5_n s5_c) (by kernel_rfl) (yld fun _ => by kernel_rfl) ?_
      refine wpS.take 1 false (some 19) (.int .i64 ((List.replicate (a1 : Int).toNat (Cod.zero (CI .u8))).length : Int)) (by kernel_rfl) (yld_lenL (hs.rowL 0 rfl) (fun _ => by kernel_rfl)) ?_
      refine wpS.take 2 false (some 20) (.int .i64 0) (by kernel_rfl) (yld fun _ => by kernel_rfl) ?_
      refine wpS.fin rfl (kr _ _ ?_)
      refine then_n (ks61 _ _ ?_)
      obtain ⟨⟨y9, y10_0, y10_1, y10_2, y10_3⟩, hy, hk0⟩ := of_bind h
      refine wp_exq (N := fun a w => St w0 [] [.ownL (CI .u8) s5_A s5_n s5_c y9 5, .blk b2 (([.int .i64 0] : List Value) ++ enc .u64 (zeroA 25) ++ ([.int .i64 0, .bool false] : List Value)) 25, .blk b1 (([.int .i64 y10_0] : List Value) ++ enc .u64 y10_1 ++ ([.int .i64 y10_2, .bool y10_3] : List Value)) 25] [.rowL (CA .u64 24 (by decide)) (some ⟨0, 0, none⟩) 1 1 ([tab_0]), .rowL (CA .i64 24 (by decide)) (some ⟨1, 0, none⟩) 1 1 ([tab_1]), .rowL (CA .i64 24 (by decide)) (some ⟨2, 0, none⟩) 1 1 ([tab_2])] w ∧ ∃ g : Nat → Value, a = ⟨#[.agg (([.int .i64 a0_0] : List Value) ++ enc .u64 a0_1 ++ ([.int .i64 a0_2, .bool a0_3] : List Value)).toArray, .int .i64 a1, .pointer (some ⟨b1, 0, none⟩), undef, .pointer (some ⟨b2, 0, none⟩), .slice none 0 0, .slice s5_A s5_n s5_c, (g 7), .int .i64 a1, .bool false, undef, (g 11), (g 12), (g 13), (g 14), (g 15), .int .i64 a1, .slice s5_A s5_n s5_c, .slice s5_A s5_n s5_c, .int .i64 ((List.replicate (a1 : Int).toNat (Cod.zero (CI .u8))).length : Int), (g 20), (g 21), (g 22), (g 23), (g 24), (g 25), (g 26), (g 27), (g 28), (g 29), (g 30), (g 31), (g 32), (g 33), (g 34), (g 35), (g 36), (g 37), (g 38), (g 39), (g 40), (g 41), (g 42), (g 43), (g 44), (g 45), (g 46), (g 47), (g 48), (g 49), (g 50), (g 51), (g 52), (g 53), undef, undef], []⟩) (fun N0 nn0 => ?_) ?_
      · clear hk0
        refine wp_block ?_
        refine wp_loop_k (fun n a w => ∃ z6 z7 z8_0 z8_1 z8_2 z8_3, keccak_Squeeze.l0 K n a1 z6 z7 z8_0 z8_1 z8_2 z8_3 = some (y9, y10_0, y10_1, y10_2, y10_3) ∧ St w0 [] [.ownL (CI .u8) s5_A s5_n s5_c z7 5, .blk b2 (([.int .i64 0] : List Value) ++ enc .u64 (zeroA 25) ++ ([.int .i64 0, .bool false] : List Value)) 25, .blk b1 (([.int .i64 z8_0] : List Value) ++ enc .u64 z8_1 ++ ([.int .i64 z8_2, .bool z8_3] : List Value)) 25] [.rowL (CA .u64 24 (by decide)) (some ⟨0, 0, none⟩) 1 1 ([tab_0]), .rowL (CA .i64 24 (by decide)) (some ⟨1, 0, none⟩) 1 1 ([tab_1]), .rowL (CA .i64 24 (by decide)) (some ⟨2, 0, none⟩) 1 1 ([tab_2])] w ∧ ∃ g : Nat → Value, a = ⟨#[.agg (([.int .i64 a0_0] : List Value) ++ enc .u64 a0_1 ++ ([.int .i64 a0_2, .bool a0_3] : List Value)).toArray, .int .i64 a1, .pointer (some ⟨b1, 0, none⟩), undef, .pointer (some ⟨b2, 0, none⟩), .slice none 0 0, .slice s5_A s5_n s5_c, (g 7), .int .i64 a1, .bool false, undef, (g 11), (g 12), (g 13), (g 14), (g 15), .int .i64 a1, .slice s5_A s5_n s5_c, .slice s5_A s5_n s5_c, .int .i64 ((List.replicate (a1 : Int).toNat (Cod.zero (CI .u8))).length : Int), .int .i64 z6, (g 21), (g 22), (g 23), (g 24), (g 25), (g 26), (g 27), (g 28), (g 29), (g 30), (g 31), (g 32), (g 33), (g 34), (g 35), (g 36), (g 37), (g 38), (g 39), (g 40), (g 41), (g 42), (g 43), (g 44), (g 45), (g 46), (g 47), (g 48), (g 49), (g 50), (g 51), (g 52), (g 53), undef, undef], []⟩) K ⟨0, (List.replicate (a1 : Int).toNat (Cod.zero (CI .u8))), y3_0, y3_1, y3_2, y3_3, hy, hs.conv rfl, exg (by kernel_rfl)⟩ ?_
        clear hs h hy
        rintro n a w ⟨z6, z7, z8_0, z8_1, z8_2, z8_3, h, hs, g, rfl⟩ KL0 kl0
        cases n with
        | zero => exact nomatch (show none = some _ from h)
        | succ n =>
          refine wp_seq_k fun KS86 ks86 => ?_
          refine wp_regS (l := [0]) (by kernel_rfl) fun KR kr => ?_
          rcases of_if h with ⟨hc, h⟩ | ⟨hc, h⟩
          · refine wpS.take 0 false (some 21) (.bool true) (by kernel_rfl) (yld_b (dt hc) (fun _ => by kernel_rfl)) ?_
            refine wpS.fin rfl (kr _ _ ?_)
            refine then_n (ks86 _ _ ?_)
            refine wp_seq_k fun KS87 ks87 => ?_
            refine wp_cond_t (by kernel_rfl) ?_
            refine wp_skip ?_
            refine then_n (ks87 _ _ ?_)
            refine wp_seq_k fun KS98 ks98 => ?_
            refine wp_block ?_
            refine wp_seq_k fun KS99 ks99 => ?_
            refine wp_regS (l := [0, 1]) (by kernel_rfl) fun KR kr => ?_
            refine wpS.take 0 false (some 22) (.int .i64 z6) (by kernel_rfl) (yld fun _ => by kernel_rfl) ?_
            refine wpS.take 1 false (some 7) (.int .i64 z6) (by kernel_rfl) (yld fun _ => by kernel_rfl) ?_
            refine wpS.fin rfl (kr _ _ ?_)
            refine then_n (ks99 _ _ ?_)
            obtain ⟨⟨y11_0, y11_1, y11_2, y11_3⟩, hj, h⟩ := of_bind h
            refine wp_seq_k fun KS108 ks108 => wp_join (N := fun a w => St w0 [] [.ownL (CI .u8) s5_A s5_n s5_c z7 5, .blk b2 (([.int .i64 0] : List Value) ++ enc .u64 (zeroA 25) ++ ([.int .i64 0, .bool false] : List Value)) 25, .blk b1 (([.int .i64 y11_0] : List Value) ++ enc .u64 y11_1 ++ ([.int .i64 y11_2, .bool y11_3] : List Value)) 25] [.rowL (CA .u64 24 (by decide)) (some ⟨0, 0, none⟩) 1 1 ([tab_0]), .rowL (CA .i64 24 (by decide)) (some ⟨1, 0, none⟩) 1 1 ([tab_1]), .rowL (CA .i64 24 (by decide)) (some ⟨2, 0, none⟩) 1 1 ([tab_2])] w ∧ ∃ g : Nat → Value, a = ⟨#[.agg (([.int .i64 a0_0] : List Value) ++ enc .u64 a0_1 ++ ([.int .i64 a0_2, .bool a0_3] : List Value)).toArray, .int .i64 a1, .pointer (some ⟨b1, 0, none⟩), undef, .pointer (some ⟨b2, 0, none⟩), .slice none 0 0, .slice s5_A s5_n s5_c, .int .i64 z6, .int .i64 a1, .bool false, undef, (g 11), (g 12), (g 13), (g 14), (g 15), .int .i64 a1, .slice s5_A s5_n s5_c, .slice s5_A s5_n s5_c, .int .i64 ((List.replicate (a1 : Int).toNat (Cod.zero (CI .u8))).length : Int), .int .i64 z6, .bool true, .int .i64 z6, (g 23), (g 24), (g 25), (g 26), (g 27), (g 28), (g 29), (g 30), (g 31), (g 32), (g 33), (g 34), (g 35), (g 36), (g 37), (g 38), (g 39), (g 40), (g 41), (g 42), (g 43), (g 44), (g 45), (g 46), (g 47), (g 48), (g 49), (g 50), (g 51), (g 52), (g 53), undef, undef], []⟩) (fun N nj => ?_) ?_
            · clear h
              have h := hj
              refine wp_seq_k fun KS102 ks102 => ?_
              refine wp_regG [] (fun k => True) 6 (by kernel_rfl) (by kernel_rfl) fun KR kr => ?_
              have hs := hs.drawn1
              refine wpG.takeD 0 false (some 23) (.pointer (some ⟨b1, 26, none⟩)) (by kernel_rfl) (by kernel_rfl) (yld fun _ => by kernel_rfl) ?_
              refine wpG.takeD 1 true (some 24) (.int .i64 z8_2) (by kernel_rfl) (by kernel_rfl) (yld_load1 (e := 3) (o := 26) hs 2 rfl (by kernel_rfl) (by kernel_rfl) (get_post 0 rfl rfl) .grow) ?_
              refine wpG.takeD 2 false (some 25) (.pointer (some ⟨b1, 0, none⟩)) (by kernel_rfl) (by kernel_rfl) (yld fun _ => by kernel_rfl) ?_
              refine wpG.takeD 3 true (some 26) (.int .i64 z8_0) (by kernel_rfl) (by kernel_rfl) (yld_load1 (e := 3) (o := 0) hs 2 rfl (by kernel_rfl) (by kernel_rfl) (get_pre rfl) .grow) ?_
              obtain ⟨r12, hg, h⟩ := of_bind h
              refine wpG.only 4 (by kernel_rfl) (op_call (d := (some 27)) (by kernel_rfl) hs (fun _ => by kernel_rfl) (keccak_rate.ok hg _) ?_)
              intro w gw hs
              refine ⟨.of gw, ?_⟩
              rcases of_if h with ⟨hc, h⟩ | ⟨hc, h⟩
              · refine wpG.takeD 5 false (some 28) (.bool true) (by kernel_rfl) (by kernel_rfl) (yld_b (et hc) (fun _ => by kernel_rfl)) ?_
                refine wpG.fin (by kernel_rfl) rfl (kr _ _ ?_)
                refine then_n (ks102 _ _ ?_)
                refine wp_cond_t (by kernel_rfl) ?_
                refine wp_regS (l := [0, 1, 2, 3, 4, 5, 6]) (by kernel_rfl) fun KR kr => ?_
                refine wpS.take 0 false (some 29) (.pointer (some ⟨b1, 1, none⟩)) (by kernel_rfl) (yld fun _ => by kernel_rfl) ?_
                refine wpS.take 1 true (some 30) (.agg (enc .u64 z8_1).toArray) (by kernel_rfl) (yld_loadN (e := 23) (n := 25) (o := 1) hs 2 rfl (by kernel_rfl) (by kernel_rfl) (by kernel_rfl) (mid_of rfl) (enc_len _ _) .grow) ?_
                obtain ⟨r13, hg, h⟩ := of_bind h
                refine wpS.only 2 (op_call (d := (some 31)) (by kernel_rfl) hs (fun _ => by kernel_rfl) (keccak_Permute.ok hg _ (hs.rowR 0 rfl) (hs.rowR 1 rfl) (hs.rowR 2 rfl)) ?_)
                intro w gw hs
                refine ⟨fun _ => trivial, ?_⟩
                refine wpS.take 3 false (some 32) (.pointer (some ⟨b1, 1, none⟩)) (by kernel_rfl) (yld fun _ => by kernel_rfl) ?_
                refine wpS.only 4 (op_storeM (t := 23) (o := 1) (m := 25) (v := .agg (enc .u64 r13).toArray) (vs := enc .u64 r13) (d := none) (by kernel_rfl) hs 2 rfl (by kernel_rfl) (by kernel_rfl) (by kernel_rfl) (enc_len _ _) (by simp [enc_len]) (by intro u hu; exact enc_one _ _ u hu) (splice_row rfl) ?_)
                intro w kp hs
                refine ⟨fun _ => trivial, ?_⟩
                refine wpS.take 5 false (some 33) (.pointer (some ⟨b1, 26, none⟩)) (by kernel_rfl) (yld fun _ => by kernel_rfl) ?_
                refine wpS.only 6 (op_storeQ (t := 3) (o := 26) (v := .int .i64 0) (d := none) (by kernel_rfl) hs 2 rfl (by kernel_rfl /-v-/) rfl (by kernel_rfl) (by simp [enc_len]) (set_post 0 rfl) ?_)
                intro w kp hs
                have hs := hs.conv (L' := [.ownL (CI .u8) s5_A s5_n s5_c z7 5, .blk b2 (([.int .i64 0] : List Value) ++ enc .u64 (zeroA 25) ++ ([.int .i64 0, .bool false] : List Value)) 25, .blk b1 (([.int .i64 z8_0] : List Value) ++ enc .u64 r13 ++ ([.int .i64 0, .bool z8_3] : List Value)) 25]) rfl
                refine ⟨fun _ => trivial, ?_⟩
                refine wpS.fin rfl (kr _ _ ?_)
                obtain ⟨q0, qr0⟩ := Prod.mk.inj (of_some h)
                obtain ⟨q1, qr1⟩ := Prod.mk.inj (qr0)
                obtain ⟨q2, qr2⟩ := Prod.mk.inj (qr1)
                have q3 := qr2
                subst q0
                subst q1
                subst q2
                subst q3
                exact nj _ _ ⟨(hs.conv rfl), exg (by kernel_rfl)⟩
              · refine wpG.takeD 5 false (some 28) (.bool false) (by kernel_rfl) (by kernel_rfl) (yld_b (ef hc) (fun _ => by kernel_rfl)) ?_
                refine wpG.fin (by kernel_rfl) rfl (kr _ _ ?_)
                refine then_n (ks102 _ _ ?_)
                refine wp_cond_f (by kernel_rfl) ?_
                refine wp_skip ?_
                obtain ⟨q0, qr0⟩ := Prod.mk.inj (of_some h)
                obtain ⟨q1, qr1⟩ := Prod.mk.inj (qr0)
                obtain ⟨q2, qr2⟩ := Prod.mk.inj (qr1)
                have q3 := qr2
                subst q0
                subst q1
                subst q2
                subst q3
                exact nj _ _ ⟨(hs.conv rfl), exg (by kernel_rfl)⟩
            · clear hj hs
              rintro a w ⟨hs, g, rfl⟩
              refine then_n (ks108 _ _ ?_)
              refine wp_seq_k fun KS103 ks103 => ?_
              refine wp_regG [15] (fun k => True) 16 (by kernel_rfl) (by kernel_rfl) fun KR kr => ?_
              have hs := hs.drawn1
              refine wpG.takeD 0 false (some 34) (.slice s5_A s5_n s5_c) (by kernel_rfl) (by kernel_rfl) (yld fun _ => by kernel_rfl) ?_
              refine wpG.takeD 1 false (some 35) (.int .i64 z6) (by kernel_rfl) (by kernel_rfl) (yld fun _ => by kernel_rfl) ?_
              refine wpG.takeD 2 false (some 36) (.pointer (some ⟨b1, 26, none⟩)) (by kernel_rfl) (by kernel_rfl) (yld fun _ => by kernel_rfl) ?_
              refine wpG.takeD 3 true (some 37) (.int .i64 y11_2) (by kernel_rfl) (by kernel_rfl) (yld_load1 (e := 3) (o := 26) hs 2 rfl (by kernel_rfl) (by kernel_rfl) (get_post 0 rfl rfl) .grow) ?_
              refine wpG.takeD 4 false (some 38) (.int .i64 (iquo .i64 y11_2 8)) (by kernel_rfl) (by kernel_rfl) (yld fun _ => by kernel_rfl) ?_
              refine wpG.takeD 5 false (some 39) (.pointer (some ⟨b1, 1, none⟩)) (by kernel_rfl) (by kernel_rfl) (yld fun _ => by kernel_rfl) ?_
              obtain ⟨x14, hx, h⟩ := of_bind h
              have hx := of_some hx
              subst hx
              obtain ⟨i0_106, h⟩ := of_chk h
              obtain ⟨i1_106, h⟩ := of_chk h
              refine wpG.takeD 6 false (some 40) (.pointer (some ⟨b1, 1 + ((iquo .i64 y11_2 8) : Int).toNat * 1, none⟩)) (by kernel_rfl) (by kernel_rfl) (yld_idx (t := 23) (e := 22) (n := 25) (sz := 1) (k := .i64) (x := (iquo .i64 y11_2 8)) (by kernel_rfl) (by kernel_rfl) (by kernel_rfl) i0_106 i1_106) ?_
              refine wpG.takeD 7 true (some 41) (.int .u64 (rd y11_1 (iquo .i64 y11_2 8))) (by kernel_rfl) (by kernel_rfl) (yld_loadP (m := 1) (e := 22) (x := (iquo .i64 y11_2 8)) hs 2 rfl (by kernel_rfl) (by kernel_rfl) i0_106 i1_106 (by simp [enc_len]) .grow) ?_
              refine wpG.takeD 8 false (some 42) (.pointer (some ⟨b1, 26, none⟩)) (by kernel_rfl) (by kernel_rfl) (yld fun _ => by kernel_rfl) ?_
              refine wpG.takeD 9 true (some 43) (.int .i64 y11_2) (by kernel_rfl) (by kernel_rfl) (yld_load1 (e := 3) (o := 26) hs 2 rfl (by kernel_rfl) (by kernel_rfl) (get_post 0 rfl rfl) .grow) ?_
              refine wpG.takeD 10 false (some 44) (.int .i64 (irem .i64 y11_2 8)) (by kernel_rfl) (by kernel_rfl) (yld fun _ => by kernel_rfl) ?_
              refine wpG.takeD 11 false (some 45) (.int .i64 (imul .i64 8 (irem .i64 y11_2 8))) (by kernel_rfl) (by kernel_rfl) (yld fun _ => by kernel_rfl) ?_
              obtain ⟨h0, h⟩ := of_chk h
              refine wpG.takeD 12 false (some 46) (.int .u64 (ishr .u64 (rd y11_1 (iquo .i64 y11_2 8)) (imul .i64 8 (irem .i64 y11_2 8)))) (by kernel_rfl) (by kernel_rfl) (yld_shr (t := 22) (k' := .i64) (by kernel_rfl) h0) ?_
              refine wpG.takeD 13 false (some 47) (.int .u8 (iconv .u8 (ishr .u64 (rd y11_1 (iquo .i64 y11_2 8)) (imul .i64 8 (irem .i64 y11_2 8))))) (by kernel_rfl) (by kernel_rfl) (yld fun _ => by kernel_rfl) ?_
              obtain ⟨h0, h⟩ := of_chk h
              obtain ⟨h1, h⟩ := of_chk h
              have i0_107 := h0
              have i1_107 := h1
              refine wpG.takeD 14 false (some 48) (.pointer (adr s5_A ((z6 : Int).toNat * Cod.size (CI .u8)))) (by kernel_rfl) (by kernel_rfl) (yld_idxL (C := (CI .u8)) (t := 26) (e := 5) (k := .i64) (x := z6) (hs.rowL 0 rfl) (by kernel_rfl) (by kernel_rfl) (by kernel_rfl) h0 h1) ?_
              obtain ⟨x15, hx, h⟩ := of_bind h
              refine wpG.only 15 (by kernel_rfl) (op_storeL (C := (CI .u8)) (t := 5) (x := z6) (v := x15) (d := none) (by kernel_rfl) hs 0 rfl (by cases hx; kernel_rfl) (by kernel_rfl) i0_107 i1_107 ?_)
              intro w hs
              refine ⟨⟨fun hf => absurd hf (by decide), .all _ _⟩, ?_⟩
              refine wpG.fin (by kernel_rfl) rfl (kr _ _ ?_)
              refine then_n (ks103 _ _ ?_)
              refine wp_regS (l := [0, 1, 2, 3, 4]) (by kernel_rfl) fun KR kr => ?_
              refine wpS.take 0 false (some 49) (.pointer (some ⟨b1, 26, none⟩)) (by kernel_rfl) (yld fun _ => by kernel_rfl) ?_
              refine wpS.take 1 true (some 50) (.int .i64 y11_2) (by kernel_rfl) (yld_load1 (e := 3) (o := 26) hs 2 rfl (by kernel_rfl) (by kernel_rfl) (get_post 0 rfl rfl) .grow) ?_
              refine wpS.take 2 false (some 51) (.int .i64 (iadd .i64 y11_2 1)) (by kernel_rfl) (yld fun _ => by kernel_rfl) ?_
              refine wpS.take 3 false (some 52) (.pointer (some ⟨b1, 26, none⟩)) (by kernel_rfl) (yld fun _ => by kernel_rfl) ?_
              obtain ⟨x16, hx, h⟩ := of_bind h
              refine wpS.only 4 (op_storeQ (t := 3) (o := 26) (v := .int .i64 x16) (d := none) (by kernel_rfl) hs 2 rfl (by cases hx; kernel_rfl) rfl (by kernel_rfl) (by simp [enc_len]) (set_post 0 rfl) ?_)
              intro w kp hs
              have hs := hs.conv (L' := [.ownL (CI .u8) s5_A s5_n s5_c (wrL z7 z6 x15) 5, .blk b2 (([.int .i64 0] : List Value) ++ enc .u64 (zeroA 25) ++ ([.int .i64 0, .bool false] : List Value)) 25, .blk b1 (([.int .i64 y11_0] : List Value) ++ enc .u64 y11_1 ++ ([.int .i64 x16, .bool y11_3] : List Value)) 25]) rfl
              refine ⟨fun _ => trivial, ?_⟩
              refine wpS.fin rfl (kr _ _ ?_)
              refine inBlock_n ?_
              refine then_n (ks98 _ _ ?_)
              refine wp_regS (l := [0, 1]) (by kernel_rfl) fun KR kr => ?_
              refine wpS.take 0 false (some 53) (.int .i64 (iadd .i64 z6 1)) (by kernel_rfl) (yld fun _ => by kernel_rfl) ?_
              refine wpS.take 1 false (some 20) (.int .i64 (iadd .i64 z6 1)) (by kernel_rfl) (yld fun _ => by kernel_rfl) ?_
              refine wpS.fin rfl (kr _ _ ?_)
              exact then_n (kl0 _ _ ⟨n, Nat.lt_succ_self n, (iadd .i64 z6 1), (wrL z7 z6 x15), y11_0, y11_1, x16, y11_3, h, (hs.conv rfl), exg (by kernel_rfl)⟩)
          · refine wpS.take 0 false (some 21) (.bool false) (by kernel_rfl) (yld_b (df hc) (fun _ => by kernel_rfl)) ?_
            refine wpS.fin rfl (kr _ _ ?_)
            refine then_n (ks86 _ _ ?_)
            refine wp_seq_k fun KS109 ks109 => ?_
            refine wp_cond_f (by kernel_rfl) ?_
            refine wp_exit ?_
            refine then_x ?_
            refine then_x ?_
            refine inBlock_hit ?_
            obtain ⟨q0, qr0⟩ := Prod.mk.inj (of_some h)
            obtain ⟨q1, qr1⟩ := Prod.mk.inj (qr0)
            obtain ⟨q2, qr2⟩ := Prod.mk.inj (qr1)
            obtain ⟨q3, qr3⟩ := Prod.mk.inj (qr2)
            have q4 := qr3
            subst q0
            subst q1
            subst q2
            subst q3
            subst q4
            exact exq_n (nn0 _ _ ⟨(hs.conv rfl), exg (by kernel_rfl)⟩)
      · clear hs h hy
        rintro a w ⟨hs, g, rfl⟩
        have h := hk0
        refine then_n (ks60 _ _ ?_)
        refine wp_seq_k fun KS110 ks110 => ?_
        refine wp_regS (l := [0, 1, 2, 3]) (by kernel_rfl) fun KR kr => ?_
        refine wpS.take 0 true (some 54) (.agg (([.int .i64 y10_0] : List Value) ++ enc .u64 y10_1 ++ ([.int .i64 y10_2, .bool y10_3] : List Value)).toArray) (by kernel_rfl) (yld_loadW (e := 25) (n := 28) hs 2 rfl (by kernel_rfl) (by kernel_rfl) (by kernel_rfl) (by simp [enc_len]) .grow) ?_
        refine wpS.take 1 false (some 55) (.slice s5_A s5_n s5_c) (by kernel_rfl) (yld fun _ => by kernel_rfl) ?_
        refine wpS.only 2 (op_storeW (t := 25) (v := .agg (([.int .i64 y10_0] : List Value) ++ enc .u64 y10_1 ++ ([.int .i64 y10_2, .bool y10_3] : List Value)).toArray) (d := none) (by kernel_rfl) hs 1 rfl (vs := ([.int .i64 y10_0] : List Value) ++ enc .u64 y10_1 ++ ([.int .i64 y10_2, .bool y10_3] : List Value)) (n := 28) (by kernel_rfl) (by kernel_rfl) (by kernel_rfl) (by simp [enc_len]) (by simp [enc_len]) (one_app (one_app (by simp [Value.oneCell']) (fun u hu => enc_one _ _ u hu)) (by simp [Value.oneCell'])) ?_)
        intro w kp hs
        refine ⟨fun _ => trivial, ?_⟩
        refine wpS.take 3 false (some 5) (.slice s5_A s5_n s5_c) (by kernel_rfl) (yld fun _ => by kernel_rfl) ?_
        refine wpS.fin rfl (kr _ _ ?_)
        refine then_n (ks110 _ _ ?_)
        refine wp_ret ?_
        obtain ⟨q0, qr0⟩ := Prod.mk.inj (of_some h)
        obtain ⟨q1, qr1⟩ := Prod.mk.inj (qr0)
        obtain ⟨q2, qr2⟩ := Prod.mk.inj (qr1)
        obtain ⟨q3, qr3⟩ := Prod.mk.inj (qr2)
        have q4 := qr3
        subst q0
        subst q1
        subst q2
        subst q3
        subst q4
        exact qq _ _ (post_ret (by kernel_rfl) (run_results [.cell 4 25, .tmp 5] [.agg (([.int .i64 y10_0] : List Value) ++ enc .u64 y10_1 ++ ([.int .i64 y10_2, .bool y10_3] : List Value)).toArray, .slice s5_A s5_n s5_c] (by kernel_rfl) (.cons (res_cellN (n := 28) hs 1 rfl (by kernel_rfl) (by kernel_rfl) (by kernel_rfl) (by simp [enc_len])) (.cons (res_tmp (by kernel_rfl)) .nil))) ⟨⟨s5_A, s5_n, s5_c⟩, congrArg Ending.returned (by kernel_rfl), (((hs.conv (L' := [.ownL (CI .u8) s5_A s5_n s5_c y9 5, .blk b2 (([.int .i64 y10_0] : List Value) ++ enc .u64 y10_1 ++ ([.int .i64 y10_2, .bool y10_3] : List Value)) 25, .blk b1 (([.int .i64 y10_0] : List Value) ++ enc .u64 y10_1 ++ ([.int .i64 y10_2, .bool y10_3] : List Value)) 25]) rfl).drop (.cons_cons _ (.cons _ (.cons _ .slnil)))).pickR pick_nil)⟩)

theorem keccak_New.ok {K : Nat} {a0 : Int} {r0_0 : Int} {r0_1 : Arr 25} {r0_2 : Int} {r0_3 : Bool} {r1 : Int} (h : keccak_New.f K a0 = some (r0_0, r0_1, r0_2, r0_3, r1)) (w0 : World) : Ret Tryd.prog 16 #[.int .i64 a0] w0 (.tuple #[.agg (([.int .i64 r0_0] : List Value) ++ enc .u64 r0_1 ++ ([.int .i64 r0_2, .bool r0_3] : List Value)).toArray, .int .i64 r1]) := by
  refine calls_k Tryd.func16 rfl fun Q qq => ?_
  have hs := St.start w0
  refine wp_conv (a' := ⟨#[.int .i64 a0, undef, undef, undef, undef, undef, undef, undef, undef, undef], []⟩) (by kernel_rfl) ?_
  refine wp_seq_k fun KS1 ks1 => ?_
  refine wp_regS (l := [0, 1]) (by kernel_rfl) fun KR kr => ?_
  refine wpS.only 0 (op_alloc (t := 25) (d := (some 2)) (by kernel_rfl) hs (([.int .i64 0] : List Value) ++ enc .u64 (zeroA 25) ++ ([.int .i64 0, .bool false] : List Value)) (.agg (([.int .i64 0] : List Value) ++ enc .u64 (zeroA 25) ++ ([.int .i64 0, .bool false] : List Value)).toArray) (by kernel_rfl) (by kernel_rfl) (by kernel_rfl) ?_)
  intro b1 w gw hs
  refine ⟨fun _ => trivial, ?_⟩
  refine wpS.take 1 false (some 3) (.int .i64 0) (by kernel_rfl) (yld fun _ => by kernel_rfl) ?_
  refine wpS.fin rfl (kr _ _ ?_)
  refine then_n (ks1 _ _ ?_)
  refine wp_seq_k fun KS4 ks4 => ?_
  refine wp_seq_k fun KS5 ks5 => ?_
  refine wp_regS (l := [0, 1, 2]) (by kernel_rfl) fun KR kr => ?_
  refine wpS.take 0 false (some 4) (.int .i64 a0) (by kernel_rfl) (yld fun _ => by kernel_rfl) ?_
  obtain ⟨r2, hg, h⟩ := of_bind h
  refine wpS.only 1 (op_call (d := (some 5)) (by kernel_rfl) hs (fun _ => by kernel_rfl) (keccak_rate.ok hg _) ?_)
  intro w gw hs
  refine ⟨fun _ => trivial, ?_⟩
  rcases of_if h with ⟨hc, h⟩ | ⟨hc, h⟩
  · refine wpS.take 2 false (some 6) (.bool true) (by kernel_rfl) (yld_b (et hc) (fun _ => by kernel_rfl)) ?_
    refine wpS.fin rfl (kr _ _ ?_)
    refine then_n (ks5 _ _ ?_)
    refine wp_cond_t (by kernel_rfl) ?_
    refine wp_seq_k fun KS6 ks6 => ?_
    refine wp_regS (l := [0, 1, 2]) (by kernel_rfl) fun KR kr => ?_
    refine wpS.take 0 false (some 7) (.agg (([.int .i64 0] : List Value) ++ enc .u64 (zeroA 25) ++ ([.int .i64 0, .bool false] : List Value)).toArray) (by kernel_rfl) (yld fun _ => by kernel_rfl) ?_
    refine wpS.only 1 (op_storeW (t := 25) (v := .agg (([.int .i64 0] : List Value) ++ enc .u64 (zeroA 25) ++ ([.int .i64 0, .bool false] : List Value)).toArray) (d := none) (by kernel_rfl) hs 0 rfl (vs := ([.int .i64 0] : List Value) ++ enc .u64 (zeroA 25) ++ ([.int .i64 0, .bool false] : List Value)) (n := 28) (by kernel_rfl) (by kernel_rfl) (by kernel_rfl) (by simp [enc_len]) (by simp [enc_len]) (one_app (one_app (by simp [Value.oneCell']) (fun u hu => enc_one _ _ u hu)) (by simp [Value.oneCell'])) ?_)
    intro w kp hs
    refine ⟨fun _ => trivial, ?_⟩
    refine wpS.take 2 false (some 3) (.int .i64 9) (by kernel_rfl) (yld fun _ => by kernel_rfl) ?_
    refine wpS.fin rfl (kr _ _ ?_)
    refine then_n (ks6 _ _ ?_)
    refine wp_ret ?_
    refine then_r ?_
    obtain ⟨q0, qr0⟩ := Prod.mk.inj (of_some h)
    obtain ⟨q1, qr1⟩ := Prod.mk.inj (qr0)
    obtain ⟨q2, qr2⟩ := Prod.mk.inj (qr1)
    obtain ⟨q3, qr3⟩ := Prod.mk.inj (qr2)
    have q4 := qr3
    subst q0
    subst q1
    subst q2
    subst q3
    subst q4
    exact qq _ _ (post_ret (by kernel_rfl) (run_results [.cell 2 25, .tmp 3] [.agg (([.int .i64 0] : List Value) ++ enc .u64 (zeroA 25) ++ ([.int .i64 0, .bool false] : List Value)).toArray, .int .i64 9] (by kernel_rfl) (.cons (res_cellN (n := 28) hs 0 rfl (by kernel_rfl) (by kernel_rfl) (by kernel_rfl) (by simp [enc_len])) (.cons (res_tmp (by kernel_rfl)) .nil))) ⟨congrArg Ending.returned (by kernel_rfl), hs.none⟩)
  · refine wpS.take 2 false (some 6) (.bool false) (by kernel_rfl) (yld_b (ef hc) (fun _ => by kernel_rfl)) ?_
    refine wpS.fin rfl (kr _ _ ?_)
    refine then_n (ks5 _ _ ?_)
    refine wp_cond_f (by kernel_rfl) ?_
    refine wp_skip ?_
    refine then_n (ks4 _ _ ?_)
    refine wp_seq_k fun KS7 ks7 => ?_
    refine wp_regS (l := [0, 1, 2, 3]) (by kernel_rfl) fun KR kr => ?_
    refine wpS.take 0 false (some 8) (.int .i64 a0) (by kernel_rfl) (yld fun _ => by kernel_rfl) ?_
    refine wpS.take 1 false (some 9) (.agg (([.int .i64 a0] : List Value) ++ enc .u64 (zeroA 25) ++ ([.int .i64 0, .bool false] : List Value)).toArray) (by kernel_rfl) (yld fun _ => by kernel_rfl) ?_
    refine wpS.only 2 (op_storeW (t := 25) (v := .agg (([.int .i64 a0] : List Value) ++ enc .u64 (zeroA 25) ++ ([.int .i64 0, .bool false] : List Value)).toArray) (d := none) (by kernel_rfl) hs 0 rfl (vs := ([.int .i64 a0] : List Value) ++ enc .u64 (zeroA 25) ++ ([.int .i64 0, .bool false] : List Value)) (n := 28) (by kernel_rfl) (by kernel_rfl) (by kernel_rfl) (by simp [enc_len]) (by simp [enc_len]) (one_app (one_app (by simp [Value.oneCell']) (fun u hu => enc_one _ _ u hu)) (by simp [Value.oneCell'])) ?_)
    intro w kp hs
    refine ⟨fun _ => trivial, ?_⟩
    refine wpS.take 3 false (some 3) (.int .i64 0) (by kernel_rfl) (yld fun _ => by kernel_rfl) ?_
    refine wpS.fin rfl (kr _ _ ?_)
    refine then_n (ks7 _ _ ?_)
    refine wp_ret ?_
    obtain ⟨q0, qr0⟩ := Prod.mk.inj (of_some h)
    obtain ⟨q1, qr1⟩ := Prod.mk.inj (qr0)
    obtain ⟨q2, qr2⟩ := Prod.mk.inj (qr1)
    obtain ⟨q3, qr3⟩ := Prod.mk.inj (qr2)
    have q4 := qr3
    subst q0
    subst q1
    subst q2
    subst q3
    subst q4
    exact qq _ _ (post_ret (by kernel_rfl) (run_results [.cell 2 25, .tmp 3] [.agg (([.int .i64 a0] : List Value) ++ enc .u64 (zeroA 25) ++ ([.int .i64 0, .bool false] : List Value)).toArray, .int .i64 0] (by kernel_rfl) (.cons (res_cellN (n := 28) hs 0 rfl (by kernel_rfl) (by kernel_rfl) (by kernel_rfl) (by simp [enc_len])) (.cons (res_tmp (by kernel_rfl)) .nil))) ⟨congrArg Ending.returned (by kernel_rfl), hs.none⟩)

theorem keccak_Sum.ok {K : Nat} {a0 : Int} {a1 : List Int} {a2 : Int} {r0 : List Int} {r1 : Int} {a1_A : Option Addr} {a1_n : Nat} {a1_c : Nat} (h : keccak_Sum.f K a0 a1 a2 = some (r0, r1)) (w0 : World) (hp1 : RowL (CI .u8) w0 a1_A a1_n a1_c a1) (hg0 : RowL (CA .u64 24 (by decide)) w0 (some ⟨0, 0, none⟩) 1 1 [tab_0]) (hg1 : RowL (CA .i64 24 (by decide)) w0 (some ⟨1, 0, none⟩) 1 1 [tab_1]) (hg2 : RowL (CA .i64 24 (by decide)) w0 (some ⟨2, 0, none⟩) 1 1 [tab_2]) : Calls Tryd.prog 15 #[.int .i64 a0, .slice a1_A a1_n a1_c, .int .i64 a2] w0 fun e w' => ∃ h : (Option Addr × Nat × Nat), e = .returned (.tuple #[.slice h.1 h.2.1 h.2.2, .int .i64 r1]) ∧ St w0 [] [.ownL (CI .u8) h.1 h.2.1 h.2.2 r0 5] [] w' := by
  refine calls_k Tryd.func15 rfl fun Q qq => ?_
  have hs := St.startR (all_cons (RowP.ent hp1) (all_cons (RowP.ent hg0) (all_cons (RowP.ent hg1) (all_cons (RowP.ent hg2) all_nil))))
  refine wp_conv (a' := ⟨#[.int .i64 a0, .slice a1_A a1_n a1_c, .int .i64 a2, undef, undef, undef, undef, undef, undef, undef, undef, undef, undef, undef, undef, undef, undef, undef, undef, undef, undef, undef, undef, undef, undef, undef, undef, undef, undef, undef, undef, undef, undef, undef, undef], []⟩) (by kernel_rfl) ?_
  refine wp_seq_k fun KS1 ks1 => ?_
  refine wp_regS (l := [0, 1]) (by kernel_rfl) fun KR kr => ?_
  refine wpS.take 0 false (some 6) (.slice none 0 0) (by kernel_rfl) (yld fun _ => by kernel_rfl) ?_
  refine wpS.take 1 false (some 7) (.int .i64 0) (by kernel_rfl) (yld fun _ => by kernel_rfl) ?_
  refine wpS.fin rfl (kr _ _ ?_)
  refine then_n (ks1 _ _ ?_)
  refine wp_seq_k fun KS2 ks2 => ?_
  refine wp_regS (l := [0, 1, 2, 3, 4, 5, 6, 7]) (by kernel_rfl) fun KR kr => ?_
  refine wpS.take 0 false (some 13) (.int .i64 a0) (by kernel_rfl) (yld fun _ => by kernel_rfl) ?_
  obtain ⟨⟨r1_0, r1_1, r1_2, r1_3, r2⟩, hg, h⟩ := of_bind h
  refine wpS.only 1 (op_call (d := (some 14)) (by kernel_rfl) hs (fun _ => by kernel_rfl) (keccak_New.ok hg _) ?_)
  intro w gw hs
  refine ⟨fun _ => trivial, ?_⟩
  refine wpS.take 2 false (some 12) (.tuple #[.agg (([.int .i64 r1_0] : List Value) ++ enc .u64 r1_1 ++ ([.int .i64 r1_2, .bool r1_3] : List Value)).toArray, .int .i64 r2]) (by kernel_rfl) (yld fun _ => by kernel_rfl) ?_
  refine wpS.take 3 false (some 15) (.agg (([.int .i64 r1_0] : List Value) ++ enc .u64 r1_1 ++ ([.int .i64 r1_2, .bool r1_3] : List Value)).toArray) (by kernel_rfl) (yld fun _ => by kernel_rfl) ?_
  refine wpS.take 4 false (some 16) (.int .i64 r2) (by kernel_rfl) (yld fun _ => by kernel_rfl) ?_
  refine wpS.only 5 (op_alloc (t := 25) (d := (some 8)) (by kernel_rfl) hs (([.int .i64 0] : List Value) ++ enc .u64 (zeroA 25) ++ ([.int .i64 0, .bool false] : List Value)) (.agg (([.int .i64 0] : List Value) ++ enc .u64 (zeroA 25) ++ ([.int .i64 0, .bool false] : List Value)).toArray) (by kernel_rfl) (by kernel_rfl) (by kernel_rfl) ?_)
  intro b3 w gw hs
  refine ⟨fun _ => trivial, ?_⟩
  refine wpS.only 6 (op_storeW (t := 25) (v := .agg (([.int .i64 r1_0] : List Value) ++ enc .u64 r1_1 ++ ([.int .i64 r1_2, .bool r1_3] : List Value)).toArray) (d := none) (by kernel_rfl) hs 0 rfl (vs := ([.int .i64 r1_0] : List Value) ++ enc .u64 r1_1 ++ ([.int .i64 r1_2, .bool r1_3] : List Value)) (n := 28) (by kernel_rfl) (by kernel_rfl) (by kernel_rfl) (by simp [enc_len]) (by simp [enc_len]) (one_app (one_app (by simp [Value.oneCell']) (fun u hu => enc_one _ _ u hu)) (by simp [Value.oneCell'])) ?_)
  intro w kp hs
  refine ⟨fun _ => trivial, ?_⟩
  refine wpS.take 7 false (some 9) (.int .i64 r2) (by kernel_rfl) (yld fun _ => by kernel_rfl) ?_
  refine wpS.fin rfl (kr _ _ ?_)
  refine then_n (ks2 _ _ ?_)
  refine wp_seq_k fun KS5 ks5 => ?_
  refine wp_seq_k fun KS6 ks6 => ?_
  refine wp_regS (l := [0, 1]) (by kernel_rfl) fun KR kr => ?_
  refine wpS.take 0 false (some 17) (.int .i64 r2) (by kernel_rfl) (yld fun _ => by kernel_rfl) ?_
  rcases of_if h with ⟨hc, h⟩ | ⟨hc, h⟩
  · refine wpS.take 1 false (some 18) (.bool false) (by kernel_rfl) (yld_b (nf hc) (fun _ => by kernel_rfl)) ?_
    refine wpS.fin rfl (kr _ _ ?_)
    refine then_n (ks6 _ _ ?_)
    refine wp_cond_f (by kernel_rfl) ?_
    refine wp_skip ?_
    refine then_n (ks5 _ _ ?_)
    refine wp_seq_k fun KS10 ks10 => ?_
    refine wp_seq_k fun KS11 ks11 => ?_
    refine wp_regS (l := [0, 1, 2, 3, 4, 5]) (by kernel_rfl) fun KR kr => ?_
    refine wpS.take 0 false (some 20) (.int .i64 a2) (by kernel_rfl) (yld fun _ => by kernel_rfl) ?_
    rcases of_if h with ⟨hc, h⟩ | ⟨hc, h⟩
    · refine wpS.take 1 false (some 21) (.bool true) (by kernel_rfl) (yld_b (dt hc) (fun _ => by kernel_rfl)) ?_
      refine wpS.take 2 false (some 22) (.bool true) (by kernel_rfl) (yld fun _ => by kernel_rfl) ?_
      refine wpS.take 3 false (some 23) (undef) (by kernel_rfl) (yld fun _ => by kernel_rfl) ?_
      refine wpS.take 4 false (some 24) (undef) (by kernel_rfl) (yld fun _ => by kernel_rfl) ?_
      refine wpS.take 5 false (some 25) (.bool true) (by kernel_rfl) (yld fun _ => by kernel_rfl) ?_
      refine wpS.fin rfl (kr _ _ ?_)
      refine then_n (ks11 _ _ ?_)
      refine wp_cond_t (by kernel_rfl) ?_
      refine wp_seq_k fun KS12 ks12 => ?_
      refine wp_regS (l := [0, 1]) (by kernel_rfl) fun KR kr => ?_
      refine wpS.take 0 false (some 6) (.slice none 0 0) (by kernel_rfl) (yld fun _ => by kernel_rfl) ?_
      refine wpS.take 1 false (some 7) (.int .i64 8) (by kernel_rfl) (yld fun _ => by kernel_rfl) ?_
      refine wpS.fin rfl (kr _ _ ?_)
      refine then_n (ks12 _ _ ?_)
      refine wp_ret ?_
      refine then_r ?_
      obtain ⟨q0, qr0⟩ := Prod.mk.inj (of_some h)
      have q1 := qr0
      subst q0
      subst q1
      have hs := hs.addNilL (CI .u8) 5
      exact qq _ _ (post_ret (by kernel_rfl) (run_results [.tmp 6, .tmp 7] [.slice none 0 0, .int .i64 8] (by kernel_rfl) (.cons (res_tmp (by kernel_rfl)) (.cons (res_tmp (by kernel_rfl)) .nil))) ⟨⟨none, 0, 0⟩, congrArg Ending.returned (by kernel_rfl), (((hs.conv (L' := [.ownL (CI .u8) none 0 0 ([] : List Int) 5, .blk b3 (([.int .i64 r1_0] : List Value) ++ enc .u64 r1_1 ++ ([.int .i64 r1_2, .bool r1_3] : List Value)) 25]) rfl).drop (.cons_cons _ (.cons _ .slnil))).pickR pick_nil)⟩)
    · refine wpS.take 1 false (some 21) (.bool false) (by kernel_rfl) (yld_b (df hc) (fun _ => by kernel_rfl)) ?_
      refine wpS.take 2 false (some 22) (.bool false) (by kernel_rfl) (yld fun _ => by kernel_rfl) ?_
      refine wpS.take 3 false (some 23) (.int .i64 a2) (by kernel_rfl) (yld fun _ => by kernel_rfl) ?_
      rcases of_if h with ⟨hc, h⟩ | ⟨hc, h⟩
      · refine wpS.take 4 false (some 24) (.bool true) (by kernel_rfl) (yld_b (dt hc) (fun _ => by kernel_rfl)) ?_
        refine wpS.take 5 false (some 25) (.bool true) (by kernel_rfl) (yld fun _ => by kernel_rfl) ?_
        refine wpS.fin rfl (kr _ _ ?_)
        refine then_n (ks11 _ _ ?_)
        refine wp_cond_t (by kernel_rfl) ?_
        refine wp_seq_k fun KS13 ks13 => ?_
        refine wp_regS (l := [0, 1]) (by kernel_rfl) fun KR kr => ?_
        refine wpS.take 0 false (some 6) (.slice none 0 0) (by kernel_rfl) (yld fun _ => by kernel_rfl) ?_
        refine wpS.take 1 false (some 7) (.int .i64 8) (by kernel_rfl) (yld fun _ => by kernel_rfl) ?_
        refine wpS.fin rfl (kr _ _ ?_)
        refine then_n (ks13 _ _ ?_)
        refine wp_ret ?_
        refine then_r ?_
        obtain ⟨q0, qr0⟩ := Prod.mk.inj (of_some h)
        have q1 := qr0
        subst q0
        subst q1
        have hs := hs.addNilL (CI .u8) 5
        exact qq _ _ (post_ret (by kernel_rfl) (run_results [.tmp 6, .tmp 7] [.slice none 0 0, .int .i64 8] (by kernel_rfl) (.cons (res_tmp (by kernel_rfl)) (.cons (res_tmp (by kernel_rfl)) .nil))) ⟨⟨none, 0, 0⟩, congrArg Ending.returned (by kernel_rfl), (((hs.conv (L' := [.ownL (CI .u8) none 0 0 ([] : List Int) 5, .blk b3 (([.int .i64 r1_0] : List Value) ++ enc .u64 r1_1 ++ ([.int .i64 r1_2, .bool r1_3] : List Value)) 25]) rfl).drop (.cons_cons _ (.cons _ .slnil))).pickR pick_nil)⟩)
      · refine wpS.take 4 false (some 24) (.bool false) (by kernel_rfl) (yld_b (df hc) (fun _ => by kernel_rfl)) ?_
        refine wpS.take 5 false (some 25) (.bool false) (by kernel_rfl) (yld fun _ => by kernel_rfl) ?_
        refine wpS.fin rfl (kr _ _ ?_)
        refine then_n (ks11 _ _ ?_)
        refine wp_cond_f (by kernel_rfl) ?_
        refine wp_skip ?_
        refine then_n (ks10 _ _ ?_)
        refine wp_seq_k fun KS14 ks14 => ?_
        refine wp_regS (l := [0, 1, 2, 3, 4, 5, 6, 7, 8, 9, 10]) (by kernel_rfl) fun KR kr => ?_
        refine wpS.take 0 true (some 27) (.agg (([.int .i64 r1_0] : List Value) ++ enc .u64 r1_1 ++ ([.int .i64 r1_2, .bool r1_3] : List Value)).toArray) (by kernel_rfl) (yld_loadW (e := 25) (n := 28) hs 0 rfl (by kernel_rfl) (by kernel_rfl) (by kernel_rfl) (by simp [enc_len]) .grow) ?_
        refine wpS.take 1 false (some 28) (.slice a1_A a1_n a1_c) (by kernel_rfl) (yld fun _ => by kernel_rfl) ?_
        obtain ⟨⟨r4_0, r4_1, r4_2, r4_3⟩, hg, h⟩ := of_bind h
        refine wpS.only 2 (op_call (d := (some 29)) (by kernel_rfl) hs (fun _ => by kernel_rfl) (keccak_Absorb.ok hg _ (hs.rowR 0 rfl) (hs.rowR 1 rfl) (hs.rowR 2 rfl) (hs.rowR 3 rfl)) ?_)
        intro w gw hs
        refine ⟨fun _ => trivial, ?_⟩
        refine wpS.take 3 false (some 30) (.int .i64 a2) (by kernel_rfl) (yld fun _ => by kernel_rfl) ?_
        obtain ⟨⟨r5_0, r5_1, r5_2, r5_3, r6⟩, hg, h⟩ := of_bind h
        refine wpS.only 4 (op_callH (d := (some 31)) (by kernel_rfl) hs (fun _ => by kernel_rfl) (keccak_Squeeze.ok hg _ (hs.rowR 1 rfl) (hs.rowR 2 rfl) (hs.rowR 3 rfl)) ?_)
        rintro ⟨r6_A, r6_n, r6_c⟩ w gw hs
        have hs := hs.conv (L' := [.ownL (CI .u8) r6_A r6_n r6_c r6 5, .blk b3 (([.int .i64 r1_0] : List Value) ++ enc .u64 r1_1 ++ ([.int .i64 r1_2, .bool r1_3] : List Value)) 25]) rfl
        refine ⟨fun _ => trivial, ?_⟩
        refine wpS.take 5 false (some 26) (.tuple #[.agg (([.int .i64 r5_0] : List Value) ++ enc .u64 r5_1 ++ ([.int .i64 r5_2, .bool r5_3] : List Value)).toArray, .slice r6_A r6_n r6_c]) (by kernel_rfl) (yld fun _ => by kernel_rfl) ?_
        refine wpS.take 6 false (some 32) (.agg (([.int .i64 r5_0] : List Value) ++ enc .u64 r5_1 ++ ([.int .i64 r5_2, .bool r5_3] : List Value)).toArray) (by kernel_rfl) (yld fun _ => by kernel_rfl) ?_
        refine wpS.take 7 false (some 33) (.slice r6_A r6_n r6_c) (by kernel_rfl) (yld fun _ => by kernel_rfl) ?_
        refine wpS.only 8 (op_alloc (t := 25) (d := (some 10)) (by kernel_rfl) hs (([.int .i64 0] : List Value) ++ enc .u64 (zeroA 25) ++ ([.int .i64 0, .bool false] : List Value)) (.agg (([.int .i64 0] : List Value) ++ enc .u64 (zeroA 25) ++ ([.int .i64 0, .bool false] : List Value)).toArray) (by kernel_rfl) (by kernel_rfl) (by kernel_rfl) ?_)
        intro b7 w gw hs
        refine ⟨fun _ => trivial, ?_⟩
        refine wpS.only 9 (op_storeW (t := 25) (v := .agg (([.int .i64 r5_0] : List Value) ++ enc .u64 r5_1 ++ ([.int .i64 r5_2, .bool r5_3] : List Value)).toArray) (d := none) (by kernel_rfl) hs 0 rfl (vs := ([.int .i64 r5_0] : List Value) ++ enc .u64 r5_1 ++ ([.int .i64 r5_2, .bool r5_3] : List Value)) (n := 28) (by kernel_rfl) (by kernel_rfl) (by kernel_rfl) (by simp [enc_len]) (by simp [enc_len]) (one_app (one_app (by simp [Value.oneCell']) (fun u hu => enc_one _ _ u hu)) (by simp [Value.oneCell'])) ?_)
        intro w kp hs
        refine ⟨fun _ => trivial, ?_⟩
        refine wpS.take 10 false (some 11) (.slice r6_A r6_n r6_c) (by kernel_rfl) (yld fun _ => by kernel_rfl) ?_
        refine wpS.fin rfl (kr _ _ ?_)
        refine then_n (ks14 _ _ ?_)
        refine wp_seq_k fun KS15 ks15 => ?_
        refine wp_regS (l := [0, 1, 2]) (by kernel_rfl) fun KR kr => ?_
        refine wpS.take 0 false (some 34) (.slice r6_A r6_n r6_c) (by kernel_rfl) (yld fun _ => by kernel_rfl) ?_
        refine wpS.take 1 false (some 6) (.slice r6_A r6_n r6_c) (by kernel_rfl) (yld fun _ => by kernel_rfl) ?_
        refine wpS.take 2 false (some 7) (.int .i64 0) (by kernel_rfl) (yld fun _ => by kernel_rfl) ?_
        refine wpS.fin rfl (kr _ _ ?_)
        refine then_n (ks15 _ _ ?_)
        refine wp_ret ?_
        obtain ⟨q0, qr0⟩ := Prod.mk.inj (of_some h)
        have q1 := qr0
        subst q0
        subst q1
        exact qq _ _ (post_ret (by kernel_rfl) (run_results [.tmp 6, .tmp 7] [.slice r6_A r6_n r6_c, .int .i64 0] (by kernel_rfl) (.cons (res_tmp (by kernel_rfl)) (.cons (res_tmp (by kernel_rfl)) .nil))) ⟨⟨r6_A, r6_n, r6_c⟩, congrArg Ending.returned (by kernel_rfl), (((hs.conv (L' := [.blk b7 (([.int .i64 r5_0] : List Value) ++ enc .u64 r5_1 ++ ([.int .i64 r5_2, .bool r5_3] : List Value)) 25, .ownL (CI .u8) r6_A r6_n r6_c r6 5, .blk b3 (([.int .i64 r1_0] : List Value) ++ enc .u64 r1_1 ++ ([.int .i64 r1_2, .bool r1_3] : List Value)) 25]) rfl).drop (.cons _ (.cons_cons _ (.cons _ .slnil)))).pickR pick_nil)⟩)
  · refine wpS.take 1 false (some 18) (.bool true) (by kernel_rfl) (yld_b (nt hc) (fun _ => by kernel_rfl)) ?_
    refine wpS.fin rfl (kr _ _ ?_)
    refine then_n (ks6 _ _ ?_)
    refine wp_cond_t (by kernel_rfl) ?_
    refine wp_seq_k fun KS16 ks16 => ?_
    refine wp_regS (l := [0, 1, 2]) (by kernel_rfl) fun KR kr => ?_
    refine wpS.take 0 false (some 19) (.int .i64 r2) (by kernel_rfl) (yld fun _ => by kernel_rfl) ?_
    refine wpS.take 1 false (some 6) (.slice none 0 0) (by kernel_rfl) (yld fun _ => by kernel_rfl) ?_
    refine wpS.take 2 false (some 7) (.int .i64 r2) (by kernel_rfl) (yld fun _ => by kernel_rfl) ?_
    refine wpS.fin rfl (kr _ _ ?_)
    refine then_n (ks16 _ _ ?_)
    refine wp_ret ?_
    refine then_r ?_
    obtain ⟨q0, qr0⟩ := Prod.mk.inj (of_some h)
    have q1 := qr0
    subst q0
    subst q1
    have hs := hs.addNilL (CI .u8) 5
    exact qq _ _ (post_ret (by kernel_rfl) (run_results [.tmp 6, .tmp 7] [.slice none 0 0, .int .i64 r2] (by kernel_rfl) (.cons (res_tmp (by kernel_rfl)) (.cons (res_tmp (by kernel_rfl)) .nil))) ⟨⟨none, 0, 0⟩, congrArg Ending.returned (by kernel_rfl), (((hs.conv (L' := [.ownL (CI .u8) none 0 0 ([] : List Int) 5, .blk b3 (([.int .i64 r1_0] : List Value) ++ enc .u64 r1_1 ++ ([.int .i64 r1_2, .bool r1_3] : List Value)) 25]) rfl).drop (.cons_cons _ (.cons _ .slnil))).pickR pick_nil)⟩)

theorem law08_awake.ok {K : Nat} {r0 : Bool} (h : law08_awake.f K = some r0) (w0 : World) (hg0 : RowL (CA .u64 24 (by decide)) w0 (some ⟨0, 0, none⟩) 1 1 [tab_0]) (hg1 : RowL (CA .i64 24 (by decide)) w0 (some ⟨1, 0, none⟩) 1 1 [tab_1]) (hg2 : RowL (CA .i64 24 (by decide)) w0 (some ⟨2, 0, none⟩) 1 1 [tab_2]) : Ret Tryd.prog 8 #[] w0 (.bool r0) := by
  refine calls_k Tryd.func8 rfl fun Q qq => ?_
  have hs := St.startR (all_cons (RowP.ent hg0) (all_cons (RowP.ent hg1) (all_cons (RowP.ent hg2) all_nil)))
  refine wp_conv (a' := ⟨#[undef, undef, undef, undef, undef, undef, undef, undef, undef, undef, undef, undef, undef, undef, undef, undef, undef, undef, undef, undef, undef], []⟩) (by kernel_rfl) ?_
  refine wp_seq_k fun KS1 ks1 => ?_
  refine wp_regS (l := [0]) (by kernel_rfl) fun KR kr => ?_
  refine wpS.take 0 false (some 0) (.bool false) (by kernel_rfl) (yld fun _ => by kernel_rfl) ?_
  refine wpS.fin rfl (kr _ _ ?_)
  refine then_n (ks1 _ _ ?_)
  refine wp_seq_k fun KS2 ks2 => ?_
  refine wp_regS (l := [0, 1, 2, 3, 4, 5]) (by kernel_rfl) fun KR kr => ?_
  obtain ⟨⟨r1, r2⟩, hg, h⟩ := of_bind h
  refine wpS.only 0 (op_callH (d := (some 6)) (by kernel_rfl) hs (fun _ => by kernel_rfl) (keccak_Sum.ok hg _ (RowL.nil _) (hs.rowR 0 rfl) (hs.rowR 1 rfl) (hs.rowR 2 rfl)) ?_)
  rintro ⟨r1_A, r1_n, r1_c⟩ w gw hs
  have hs := hs.conv (L' := [.ownL (CI .u8) r1_A r1_n r1_c r1 5]) rfl
  refine ⟨fun _ => trivial, ?_⟩
  refine wpS.take 1 false (some 5) (.tuple #[.slice r1_A r1_n r1_c, .int .i64 r2]) (by kernel_rfl) (yld fun _ => by kernel_rfl) ?_
  refine wpS.take 2 false (some 7) (.slice r1_A r1_n r1_c) (by kernel_rfl) (yld fun _ => by kernel_rfl) ?_
  refine wpS.take 3 false (some 8) (.int .i64 r2) (by kernel_rfl) (yld fun _ => by kernel_rfl) ?_
  refine wpS.take 4 false (some 1) (.slice r1_A r1_n r1_c) (by kernel_rfl) (yld fun _ => by kernel_rfl) ?_
  refine wpS.take 5 false (some 2) (.int .i64 r2) (by kernel_rfl) (yld fun _ => by kernel_rfl) ?_
  refine wpS.fin rfl (kr _ _ ?_)
  refine then_n (ks2 _ _ ?_)
  refine wp_seq_k fun KS3 ks3 => ?_
  refine wp_regS (l := [0, 1, 2, 3, 4, 5]) (by kernel_rfl) fun KR kr => ?_
  obtain ⟨⟨r3, r4⟩, hg, h⟩ := of_bind h
  refine wpS.only 0 (op_callH (d := (some 10)) (by kernel_rfl) hs (fun _ => by kernel_rfl) (keccak_Sum.ok hg _ (RowL.nil _) (hs.rowR 0 rfl) (hs.rowR 1 rfl) (hs.rowR 2 rfl)) ?_)
  rintro ⟨r3_A, r3_n, r3_c⟩ w gw hs
  have hs := hs.conv (L' := [.ownL (CI .u8) r3_A r3_n r3_c r3 5, .ownL (CI .u8) r1_A r1_n r1_c r1 5]) rfl
  refine ⟨fun _ => trivial, ?_⟩
  refine wpS.take 1 false (some 9) (.tuple #[.slice r3_A r3_n r3_c, .int .i64 r4]) (by kernel_rfl) (yld fun _ => by kernel_rfl) ?_
  refine wpS.take 2 false (some 11) (.slice r3_A r3_n r3_c) (by kernel_rfl) (yld fun _ => by kernel_rfl) ?_
  refine wpS.take 3 false (some 12) (.int .i64 r4) (by kernel_rfl) (yld fun _ => by kernel_rfl) ?_
  refine wpS.take 4 false (some 3) (.slice r3_A r3_n r3_c) (by kernel_rfl) (yld fun _ => by kernel_rfl) ?_
  refine wpS.take 5 false (some 4) (.int .i64 r4) (by kernel_rfl) (yld fun _ => by kernel_rfl) ?_
  refine wpS.fin rfl (kr _ _ ?_)
  refine then_n (ks3 _ _ ?_)
  refine wp_seq_k fun KS4 ks4 => ?_
  refine wp_regS (l := [0, 1, 2, 3, 4, 5, 6, 7, 8]) (by kernel_rfl) fun KR kr => ?_
  refine wpS.take 0 false (some 13) (.slice r1_A r1_n r1_c) (by kernel_rfl) (yld fun _ => by kernel_rfl) ?_
  refine wpS.only 1 (op_lit (C := (CI .u8)) (t := 26) (e := 5) (len := 4) (parts := #[(0, .int .u8 167), (1, .int .u8 255), (2, .int .u8 198), (3, .int .u8 248)]) (l := [167, 255, 198, 248]) (d := (some 14)) (by kernel_rfl) hs (by kernel_rfl) (by kernel_rfl) (by kernel_rfl) (z := .int .u8 0) (by kernel_rfl) rfl (by decide) (by decide) (by kernel_rfl) ?_)
  intro s5_A s5_n s5_c w gw hs
  refine ⟨fun _ => trivial, ?_⟩
  obtain ⟨r6, hg, h⟩ := of_bind h
  cases r6 with
  | true =>
    have h := of_if_t h
    refine wpS.only 2 (op_call (d := (some 15)) (by kernel_rfl) hs (fun _ => by kernel_rfl) (ref01_Same.ok hg _ (hs.rowL 2 rfl) (hs.rowL 0 rfl)) ?_)
    intro w gw hs
    refine ⟨fun _ => trivial, ?_⟩
    refine wpS.take 3 false (some 16) (.bool true) (by kernel_rfl) (yld fun _ => by kernel_rfl) ?_
    refine wpS.take 4 false (some 17) (.slice r3_A r3_n r3_c) (by kernel_rfl) (yld fun _ => by kernel_rfl) ?_
    refine wpS.only 5 (op_lit (C := (CI .u8)) (t := 26) (e := 5) (len := 4) (parts := #[(0, .int .u8 127), (1, .int .u8 156), (2, .int .u8 43), (3, .int .u8 164)]) (l := [127, 156, 43, 164]) (d := (some 18)) (by kernel_rfl) hs (by kernel_rfl) (by kernel_rfl) (by kernel_rfl) (z := .int .u8 0) (by kernel_rfl) rfl (by decide) (by decide) (by kernel_rfl) ?_)
    intro s7_A s7_n s7_c w gw hs
    refine ⟨fun _ => trivial, ?_⟩
    obtain ⟨r8, hg, h⟩ := of_bind h
    refine wpS.only 6 (op_call (d := (some 19)) (by kernel_rfl) hs (fun _ => by kernel_rfl) (ref01_Same.ok hg _ (hs.rowL 2 rfl) (hs.rowL 0 rfl)) ?_)
    intro w gw hs
    refine ⟨fun _ => trivial, ?_⟩
    refine wpS.take 7 false (some 20) (.bool r8) (by kernel_rfl) (yld fun _ => by kernel_rfl) ?_
    refine wpS.take 8 false (some 0) (.bool r8) (by kernel_rfl) (yld fun _ => by kernel_rfl) ?_
    refine wpS.fin rfl (kr _ _ ?_)
    refine then_n (ks4 _ _ ?_)
    refine wp_ret ?_
    have q0 := of_some h
    subst q0
    exact qq _ _ (post_ret (by kernel_rfl) (run_results [.tmp 0] [.bool r8] (by kernel_rfl) (.cons (res_tmp (by kernel_rfl)) .nil)) ⟨congrArg Ending.returned (by kernel_rfl), hs.none⟩)
  | false =>
    have h := of_if_f h
    refine wpS.only 2 (op_call (d := (some 15)) (by kernel_rfl) hs (fun _ => by kernel_rfl) (ref01_Same.ok hg _ (hs.rowL 2 rfl) (hs.rowL 0 rfl)) ?_)
    intro w gw hs
    refine ⟨fun _ => trivial, ?_⟩
    refine wpS.take 3 false (some 16) (.bool false) (by kernel_rfl) (yld fun _ => by kernel_rfl) ?_
    refine wpS.take 4 false (some 17) (undef) (by kernel_rfl) (yld fun _ => by kernel_rfl) ?_
    refine wpS.take 5 false (some 18) (undef) (by kernel_rfl) (yld fun _ => by kernel_rfl) ?_
    refine wpS.take 6 false (some 19) (undef) (by kernel_rfl) (yld fun _ => by kernel_rfl) ?_
    refine wpS.take 7 false (some 20) (.bool false) (by kernel_rfl) (yld fun _ => by kernel_rfl) ?_
    refine wpS.take 8 false (some 0) (.bool false) (by kernel_rfl) (yld fun _ => by kernel_rfl) ?_
    refine wpS.fin rfl (kr _ _ ?_)
    refine then_n (ks4 _ _ ?_)
    refine wp_ret ?_
    have q0 := of_some h
    subst q0
    exact qq _ _ (post_ret (by kernel_rfl) (run_results [.tmp 0] [.bool false] (by kernel_rfl) (.cons (res_tmp (by kernel_rfl)) .nil)) ⟨congrArg Ending.returned (by kernel_rfl), hs.none⟩)
end Go.Proofs.YtijahfdldlmnhaaDoor
