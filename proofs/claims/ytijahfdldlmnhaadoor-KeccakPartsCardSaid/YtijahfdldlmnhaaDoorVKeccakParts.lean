/- Printed by this work's own program: the code of each function below comes to the answer that its plain form tells. -/
import Derived.Test.YtijahfdldlmnhaaDoorMr
import Derived.Test.YtijahfdldlmnhaaDoorProg
import Derived.Test.YtijahfdldlmnhaaDoorLKeccakParts
import Derived.Test.YtijahfdldlmnhaaDoorSX0
import Derived.Test.YtijahfdldlmnhaaDoorSX1
import Derived.Test.YtijahfdldlmnhaaDoorSX2
import Derived.Test.YtijahfdldlmnhaaDoorSX5
set_option linter.unusedVariables false
set_option linter.unusedSimpArgs false
set_option maxRecDepth 100000
set_option maxHeartbeats 4000000
namespace Go.Proofs.YtijahfdldlmnhaaDoor
open Go.Mx
attribute [local irreducible] wpOp

theorem law08_KeccakParts.ok {K : Nat} {a0_0 : Int} {a0_1 : Arr 25} {a0_2 : Int} {a0_3 : Bool} {a1 : List Int} {a2 : List Int} {a3 : Int} {a4 : Int} {r0 : Bool} {a1_A : Option Addr} {a1_n : Nat} {a1_c : Nat} {a2_A : Option Addr} {a2_n : Nat} {a2_c : Nat} (h : law08_KeccakParts.f K a0_0 a0_1 a0_2 a0_3 a1 a2 a3 a4 = some r0) (w0 : World) (hp1 : RowL (CI .u8) w0 a1_A a1_n a1_c a1) (hp2 : RowL (CI .u8) w0 a2_A a2_n a2_c a2) (hg0 : RowL (CA .u64 24 (by decide)) w0 (some ⟨0, 0, none⟩) 1 1 [tab_0]) (hg1 : RowL (CA .i64 24 (by decide)) w0 (some ⟨1, 0, none⟩) 1 1 [tab_1]) (hg2 : RowL (CA .i64 24 (by decide)) w0 (some ⟨2, 0, none⟩) 1 1 [tab_2]) : Ret Tryd.prog 4 #[.agg (([.int .i64 a0_0] : List Value) ++ enc .u64 a0_1 ++ ([.int .i64 a0_2, .bool a0_3] : List Value)).toArray, .slice a1_A a1_n a1_c, .slice a2_A a2_n a2_c, .int .u8 a3, .int .u8 a4] w0 (.bool r0) := by
  refine calls_k Tryd.func4 rfl fun Q qq => ?_
  have hs := St.startR (all_cons (RowP.ent hp1) (all_cons (RowP.ent hp2) (all_cons (RowP.ent hg0) (all_cons (RowP.ent hg1) (all_cons (RowP.ent hg2) all_nil)))))
  refine wp_conv (a' := ⟨#[.agg (([.int .i64 a0_0] : List Value) ++ enc .u64 a0_1 ++ ([.int .i64 a0_2, .bool a0_3] : List Value)).toArray, .slice a1_A a1_n a1_c, .slice a2_A a2_n a2_c, .int .u8 a3, .int .u8 a4, undef, undef, undef, undef, undef, undef, undef, undef, undef, undef, undef, undef, undef, undef, undef, undef, undef, undef, undef, undef, undef, undef, undef, undef, undef, undef, undef, undef, undef, undef, undef, undef, undef, undef, undef, undef, undef, undef, undef, undef, undef, undef, undef, undef, undef, undef, undef, undef, undef, undef, undef, undef, undef, undef, undef, undef, undef, undef, undef, undef, undef, undef, undef, undef, undef, undef, undef, undef, undef, undef, undef, undef, undef, undef, undef, undef, undef, undef, undef, undef, undef, undef, undef, undef, undef, undef, undef, undef, undef, undef, undef, undef, undef, undef, undef, undef, undef], []⟩) (by kernel_rfl) ?_
  refine wp_seq_k fun KS1 ks1 => ?_
  refine wp_regS (l := [0, 1]) (by kernel_rfl) fun KR kr => ?_
  refine wpS.only 0 (op_box (t := 25) (v := .agg (([.int .i64 a0_0] : List Value) ++ enc .u64 a0_1 ++ ([.int .i64 a0_2, .bool a0_3] : List Value)).toArray) (d := (some 5)) (by kernel_rfl) hs (([.int .i64 a0_0] : List Value) ++ enc .u64 a0_1 ++ ([.int .i64 a0_2, .bool a0_3] : List Value)) (by kernel_rfl) (by kernel_rfl) ?_)
  intro b1 w gw hs
  refine ⟨fun _ => trivial, ?_⟩
  refine wpS.take 1 false (some 10) (.bool false) (by kernel_rfl) (yld fun _ => by kernel_rfl) ?_
  refine wpS.fin rfl (kr _ _ ?_)
  refine then_n (ks1 _ _ ?_)
  refine wp_seq_k fun KS5 ks5 => ?_
  refine wp_seq_k fun KS6 ks6 => ?_
  refine wp_regS (l := [0, 1, 2, 3, 4, 5, 6, 7, 8, 9, 10]) (by kernel_rfl) fun KR kr => ?_
  refine wpS.take 0 true (some 17) (.agg (([.int .i64 a0_0] : List Value) ++ enc .u64 a0_1 ++ ([.int .i64 a0_2, .bool a0_3] : List Value)).toArray) (by kernel_rfl) (yld_loadW (e := 25) (n := 28) hs 0 rfl (by kernel_rfl) (by kernel_rfl) (by kernel_rfl) (by simp [enc_len]) .grow) ?_
  obtain ⟨r2, hg, h⟩ := of_bind h
  cases r2 with
  | true =>
    have h := of_if_t h
    refine wpS.only 1 (op_call (d := (some 18)) (by kernel_rfl) hs (fun _ => by kernel_rfl) (ref08_Fit.ok hg _) ?_)
    intro w gw hs
    refine ⟨fun _ => trivial, ?_⟩
    refine wpS.take 2 false (some 19) (.bool false) (by kernel_rfl) (yld fun _ => by kernel_rfl) ?_
    refine wpS.take 3 false (some 20) (.bool false) (by kernel_rfl) (yld fun _ => by kernel_rfl) ?_
    refine wpS.take 4 false (some 21) (.slice a1_A a1_n a1_c) (by kernel_rfl) (yld fun _ => by kernel_rfl) ?_
    refine wpS.take 5 false (some 22) (.int .i64 (a1.length : Int)) (by kernel_rfl) (yld_lenL (hs.rowR 0 rfl) (fun _ => by kernel_rfl)) ?_
    refine wpS.take 6 false (some 23) (.slice a2_A a2_n a2_c) (by kernel_rfl) (yld fun _ => by kernel_rfl) ?_
    refine wpS.take 7 false (some 24) (.int .i64 (a2.length : Int)) (by kernel_rfl) (yld_lenL (hs.rowR 1 rfl) (fun _ => by kernel_rfl)) ?_
    refine wpS.take 8 false (some 25) (.int .i64 (iadd .i64 (a1.length : Int) (a2.length : Int))) (by kernel_rfl) (yld fun _ => by kernel_rfl) ?_
    rcases of_if h with ⟨hc, h⟩ | ⟨hc, h⟩
    · refine wpS.take 9 false (some 26) (.bool true) (by kernel_rfl) (yld_b (dt hc) (fun _ => by kernel_rfl)) ?_
      refine wpS.take 10 false (some 27) (.bool true) (by kernel_rfl) (yld fun _ => by kernel_rfl) ?_
      refine wpS.fin rfl (kr _ _ ?_)
      refine then_n (ks6 _ _ ?_)
      refine wp_cond_t (by kernel_rfl) ?_
      refine wp_seq_k fun KS7 ks7 => ?_
      refine wp_regS (l := [0, 1]) (by kernel_rfl) fun KR kr => ?_
      obtain ⟨r3, hg, h⟩ := of_bind h
      refine wpS.only 0 (op_call (d := (some 28)) (by kernel_rfl) hs (fun _ => by kernel_rfl) (law08_awake.ok hg _ (hs.rowR 2 rfl) (hs.rowR 3 rfl) (hs.rowR 4 rfl)) ?_)
      intro w gw hs
      refine ⟨fun _ => trivial, ?_⟩
      refine wpS.take 1 false (some 10) (.bool r3) (by kernel_rfl) (yld fun _ => by kernel_rfl) ?_
      refine wpS.fin rfl (kr _ _ ?_)
      refine then_n (ks7 _ _ ?_)
      refine wp_ret ?_
      refine then_r ?_
      have q0 := of_some h
      subst q0
      exact qq _ _ (post_ret (by kernel_rfl) (run_results [.tmp 10] [.bool r3] (by kernel_rfl) (.cons (res_tmp (by kernel_rfl)) .nil)) ⟨congrArg Ending.returned (by kernel_rfl), hs.none⟩)
    · refine wpS.take 9 false (some 26) (.bool false) (by kernel_rfl) (yld_b (df hc) (fun _ => by kernel_rfl)) ?_
      refine wpS.take 10 false (some 27) (.bool false) (by kernel_rfl) (yld fun _ => by kernel_rfl) ?_
      refine wpS.fin rfl (kr _ _ ?_)
      refine then_n (ks6 _ _ ?_)
      refine wp_cond_f (by kernel_rfl) ?_
      refine wp_skip ?_
      refine then_n (ks5 _ _ ?_)
      refine wp_seq_k fun KS10 ks10 => ?_
      refine wp_seq_k fun KS11 ks11 => ?_
      obtain ⟨y4, hj, h⟩ := of_bind h
      refine wp_join (N := fun a w => St w0 [] [.blk b1 (([.int .i64 a0_0] : List Value) ++ enc .u64 a0_1 ++ ([.int .i64 a0_2, .bool a0_3] : List Value)) 25] [.rowL (CI .u8) a1_A a1_n a1_c a1, .rowL (CI .u8) a2_A a2_n a2_c a2, .rowL (CA .u64 24 (by decide)) (some ⟨0, 0, none⟩) 1 1 ([tab_0]), .rowL (CA .i64 24 (by decide)) (some ⟨1, 0, none⟩) 1 1 ([tab_1]), .rowL (CA .i64 24 (by decide)) (some ⟨2, 0, none⟩) 1 1 ([tab_2])] w ∧ ∃ g : Nat → Value, a = ⟨#[.agg (([.int .i64 a0_0] : List Value) ++ enc .u64 a0_1 ++ ([.int .i64 a0_2, .bool a0_3] : List Value)).toArray, .slice a1_A a1_n a1_c, .slice a2_A a2_n a2_c, .int .u8 a3, .int .u8 a4, .pointer (some ⟨b1, 0, none⟩), undef, undef, undef, undef, .bool false, undef, undef, undef, undef, undef, undef, .agg (([.int .i64 a0_0] : List Value) ++ enc .u64 a0_1 ++ ([.int .i64 a0_2, .bool a0_3] : List Value)).toArray, .bool true, .bool false, .bool false, .slice a1_A a1_n a1_c, .int .i64 (a1.length : Int), .slice a2_A a2_n a2_c, .int .i64 (a2.length : Int), .int .i64 (iadd .i64 (a1.length : Int) (a2.length : Int)), .bool false, .bool false, undef, (g 29), (g 30), (g 31), (g 32), (g 33), (g 34), (g 35), (g 36), (g 37), (g 38), (g 39), (g 40), (g 41), (g 42), (g 43), (g 44), (g 45), .bool y4, undef, undef, undef, undef, undef, undef, undef, undef, undef, undef, undef, undef, undef, undef, undef, undef, undef, undef, undef, undef, undef, undef, undef, undef, undef, undef, undef, undef, undef, undef, undef, undef, undef, undef, undef, undef, undef, undef, undef, undef, undef, undef, undef, undef, undef, undef, undef, undef, undef, undef, undef, undef, undef, undef, undef], []⟩) (fun N nj => ?_) ?_
      · clear h
        have h := hj
        refine wp_regG [] (fun k => True) 18 (by kernel_rfl) (by kernel_rfl) fun KR kr => ?_
        have hs := hs.drawn1
        refine wpG.takeD 0 true (some 29) (.agg (([.int .i64 a0_0] : List Value) ++ enc .u64 a0_1 ++ ([.int .i64 a0_2, .bool a0_3] : List Value)).toArray) (by kernel_rfl) (by kernel_rfl) (yld_loadW (e := 25) (n := 28) hs 0 rfl (by kernel_rfl) (by kernel_rfl) (by kernel_rfl) (by simp [enc_len]) .grow) ?_
        refine wpG.takeD 1 false (some 30) (.slice a1_A a1_n a1_c) (by kernel_rfl) (by kernel_rfl) (yld fun _ => by kernel_rfl) ?_
        refine wpG.takeD 3 false (some 32) (.slice a2_A a2_n a2_c) (by kernel_rfl) (by kernel_rfl) (yld fun _ => by kernel_rfl) ?_
        refine wpG.takeD 5 true (some 34) (.agg (([.int .i64 a0_0] : List Value) ++ enc .u64 a0_1 ++ ([.int .i64 a0_2, .bool a0_3] : List Value)).toArray) (by kernel_rfl) (by kernel_rfl) (yld_loadW (e := 25) (n := 28) hs 0 rfl (by kernel_rfl) (by kernel_rfl) (by kernel_rfl) (by simp [enc_len]) .grow) ?_
        refine wpG.takeD 6 false (some 35) (.slice a1_A a1_n a1_c) (by kernel_rfl) (by kernel_rfl) (yld fun _ => by kernel_rfl) ?_
        refine wpG.takeD 7 false (some 36) (.slice a2_A a2_n a2_c) (by kernel_rfl) (by kernel_rfl) (yld fun _ => by kernel_rfl) ?_
        refine wpG.many [2, 8] (by kernel_rfl) (by decide) (forall_cons ?_ (forall_cons ?_ forall_nil))
        · obtain ⟨⟨r5_0, r5_1, r5_2, r5_3⟩, hg, h⟩ := of_bind h
          refine (op_call (d := (some 31)) (by kernel_rfl) hs (fun _ => by kernel_rfl) (keccak_Absorb.ok hg _ (hs.rowR 0 rfl) (hs.rowR 2 rfl) (hs.rowR 3 rfl) (hs.rowR 4 rfl)) ?_)
          intro w gw hs
          refine ⟨.of gw, ?_⟩
          refine wpG.many [4, 8] (by kernel_rfl) (by decide) (forall_cons ?_ (forall_cons ?_ forall_nil))
          · obtain ⟨⟨r6_0, r6_1, r6_2, r6_3⟩, hg, h⟩ := of_bind h
            refine (op_call (d := (some 33)) (by kernel_rfl) hs (fun _ => by kernel_rfl) (keccak_Absorb.ok hg _ (hs.rowR 1 rfl) (hs.rowR 2 rfl) (hs.rowR 3 rfl) (hs.rowR 4 rfl)) ?_)
            intro w gw hs
            refine ⟨.of gw, ?_⟩
            refine wpG.only 8 (by kernel_rfl) (op_lit (C := CS) (t := 35) (e := 26) (len := 2) (parts := #[(0, .slice a1_A a1_n a1_c), (1, .slice a2_A a2_n a2_c)]) (l := ([(a1_A, a1_n, a1_c), (a2_A, a2_n, a2_c)] : List HS)) (d := (some 37)) (by kernel_rfl) hs (by kernel_rfl) (by kernel_rfl) (by kernel_rfl) (z := .slice none 0 0) (by kernel_rfl) rfl (by decide) (by decide) (by kernel_rfl) ?_)
            intro s7_A s7_n s7_c w gw hs
            refine ⟨.of gw, ?_⟩
            obtain ⟨r8, hg, h⟩ := of_bind h
            refine wpG.only 9 (by kernel_rfl) (op_callH (d := (some 38)) (by kernel_rfl) hs (fun _ => by kernel_rfl) (ref01_Join.ok hg _ (LLP.mk (hs.rowL 0 rfl) (inn_cons (hs.rowR 0 rfl) (inn_cons (hs.rowR 1 rfl) inn_nil)))) ?_)
            rintro ⟨r8_A, r8_n, r8_c⟩ w gw hs
            have hs := hs.conv (L' := [.ownL (CI .u8) r8_A r8_n r8_c r8 5, .ownL CS s7_A s7_n s7_c ([(a1_A, a1_n, a1_c), (a2_A, a2_n, a2_c)] : List HS) 26, .blk b1 (([.int .i64 a0_0] : List Value) ++ enc .u64 a0_1 ++ ([.int .i64 a0_2, .bool a0_3] : List Value)) 25]) rfl
            refine ⟨.of gw, ?_⟩
            obtain ⟨⟨r9_0, r9_1, r9_2, r9_3⟩, hg, h⟩ := of_bind h
            refine wpG.only 10 (by kernel_rfl) (op_call (d := (some 39)) (by kernel_rfl) hs (fun _ => by kernel_rfl) (keccak_Absorb.ok hg _ (hs.rowL 0 rfl) (hs.rowR 2 rfl) (hs.rowR 3 rfl) (hs.rowR 4 rfl)) ?_)
            intro w gw hs
            refine ⟨.of gw, ?_⟩
            rcases of_ifb h with ⟨hc, h⟩ | ⟨hc, h⟩
            · refine wpG.takeD 11 false (some 40) (.bool true) (by kernel_rfl) (by kernel_rfl) (yld_bb hc (yld_eqSn (fs := [Field.mk "Kind" 3 0 false "" "" 0, Field.mk "Words" 23 1 false "" "" 8, Field.mk "At" 3 26 false "" "" 208, Field.mk "Out" 4 27 false "" "" 216]) (xs := ([.int .i64 r6_0] : List Value) ++ enc .u64 r6_1 ++ ([.int .i64 r6_2, .bool r6_3] : List Value)) (ys := ([.int .i64 r9_0] : List Value) ++ enc .u64 r9_1 ++ ([.int .i64 r9_2, .bool r9_3] : List Value)) (t := 25) (.tmp 33) (.tmp 39) (by kernel_rfl) (by kernel_rfl) (by kernel_rfl) (by kernel_rfl) (.cons rfl (fun w => Go.Mx.run_part1 (by kernel_rfl) (List.getElem?_toArray.trans (get_pre rfl))) (fun w => Go.Mx.run_part1 (by kernel_rfl) (List.getElem?_toArray.trans (get_pre rfl))) (fun w => Go.Mx.run_equalIn_int (by kernel_rfl)) (.cons rfl (fun w => Go.Mx.run_partN (by kernel_rfl) (by kernel_rfl) (mid_of rfl)) (fun w => Go.Mx.run_partN (by kernel_rfl) (by kernel_rfl) (mid_of rfl)) (fun w => Go.Mx.run_equalA (e := 22) (by kernel_rfl) (by kernel_rfl) (by kernel_rfl) (by kernel_rfl)) (.cons rfl (fun w => Go.Mx.run_part1 (by kernel_rfl) (List.getElem?_toArray.trans (get_post 0 rfl rfl))) (fun w => Go.Mx.run_part1 (by kernel_rfl) (List.getElem?_toArray.trans (get_post 0 rfl rfl))) (fun w => Go.Mx.run_equalIn_int (by kernel_rfl)) (.cons rfl (fun w => Go.Mx.run_part1 (by kernel_rfl) (List.getElem?_toArray.trans (get_post 1 rfl rfl))) (fun w => Go.Mx.run_part1 (by kernel_rfl) (List.getElem?_toArray.trans (get_post 1 rfl rfl))) (fun w => Go.Mx.run_equalIn_bool (by kernel_rfl)) .nil)))))) ?_
              refine wpG.takeD 12 false (some 41) (.bool true) (by kernel_rfl) (by kernel_rfl) (yld fun _ => by kernel_rfl) ?_
              refine wpG.takeD 13 false (some 42) (undef) (by kernel_rfl) (by kernel_rfl) (yld fun _ => by kernel_rfl) ?_
              refine wpG.takeD 15 false (some 44) (undef) (by kernel_rfl) (by kernel_rfl) (yld fun _ => by kernel_rfl) ?_
              refine wpG.takeD 14 false (some 43) (undef) (by kernel_rfl) (by kernel_rfl) (yld fun _ => by kernel_rfl) ?_
              refine wpG.takeD 16 false (some 45) (undef) (by kernel_rfl) (by kernel_rfl) (yld fun _ => by kernel_rfl) ?_
              refine wpG.takeD 17 false (some 46) (.bool true) (by kernel_rfl) (by kernel_rfl) (yld fun _ => by kernel_rfl) ?_
              refine wpG.fin (by kernel_rfl) rfl (kr _ _ ?_)
              have q0 := of_some h
              subst q0
              exact nj _ _ ⟨((hs.conv (L' := [.ownL (CI .u8) r8_A r8_n r8_c r8 5, .ownL CS s7_A s7_n s7_c ([(a1_A, a1_n, a1_c), (a2_A, a2_n, a2_c)] : List HS) 26, .blk b1 (([.int .i64 a0_0] : List Value) ++ enc .u64 a0_1 ++ ([.int .i64 a0_2, .bool a0_3] : List Value)) 25]) rfl).drop (.cons _ (.cons _ (.cons_cons _ .slnil)))), exg (by kernel_rfl)⟩
            · refine wpG.takeD 11 false (some 40) (.bool false) (by kernel_rfl) (by kernel_rfl) (yld_bb hc (yld_eqSn (fs := [Field.mk "Kind" 3 0 false "" "" 0, Field.mk "Words" 23 1 false "" "" 8, Field.mk "At" 3 26 false "" "" 208, Field.mk "Out" 4 27 false "" "" 216]) (xs := ([.int .i64 r6_0] : List Value) ++ enc .u64 r6_1 ++ ([.int .i64 r6_2, .bool r6_3] : List Value)) (ys := ([.int .i64 r9_0] : List Value) ++ enc .u64 r9_1 ++ ([.int .i64 r9_2, .bool r9_3] : List Value)) (t := 25) (.tmp 33) (.tmp 39) (by kernel_rfl) (by kernel_rfl) (by kernel_rfl) (by kernel_rfl) (.cons rfl (fun w => Go.Mx.run_part1 (by kernel_rfl) (List.getElem?_toArray.trans (get_pre rfl))) (fun w => Go.Mx.run_part1 (by kernel_rfl) (List.getElem?_toArray.trans (get_pre rfl))) (fun w => Go.Mx.run_equalIn_int (by kernel_rfl)) (.cons rfl (fun w => Go.Mx.run_partN (by kernel_rfl) (by kernel_rfl) (mid_of rfl)) (fun w => Go.Mx.run_partN (by kernel_rfl) (by kernel_rfl) (mid_of rfl)) (fun w => Go.Mx.run_equalA (e := 22) (by kernel_rfl) (by kernel_rfl) (by kernel_rfl) (by kernel_rfl)) (.cons rfl (fun w => Go.Mx.run_part1 (by kernel_rfl) (List.getElem?_toArray.trans (get_post 0 rfl rfl))) (fun w => Go.Mx.run_part1 (by kernel_rfl) (List.getElem?_toArray.trans (get_post 0 rfl rfl))) (fun w => Go.Mx.run_equalIn_int (by kernel_rfl)) (.cons rfl (fun w => Go.Mx.run_part1 (by kernel_rfl) (List.getElem?_toArray.trans (get_post 1 rfl rfl))) (fun w => Go.Mx.run_part1 (by kernel_rfl) (List.getElem?_toArray.trans (get_post 1 rfl rfl))) (fun w => Go.Mx.run_equalIn_bool (by kernel_rfl)) .nil)))))) ?_
              refine wpG.takeD 12 false (some 41) (.bool false) (by kernel_rfl) (by kernel_rfl) (yld fun _ => by kernel_rfl) ?_
              refine wpG.takeD 13 true (some 42) (.agg (([.int .i64 a0_0] : List Value) ++ enc .u64 a0_1 ++ ([.int .i64 a0_2, .bool a0_3] : List Value)).toArray) (by kernel_rfl) (by kernel_rfl) (yld_loadW (e := 25) (n := 28) hs 2 rfl (by kernel_rfl) (by kernel_rfl) (by kernel_rfl) (by simp [enc_len]) .grow) ?_
              refine wpG.takeD 15 true (some 44) (.agg (([.int .i64 a0_0] : List Value) ++ enc .u64 a0_1 ++ ([.int .i64 a0_2, .bool a0_3] : List Value)).toArray) (by kernel_rfl) (by kernel_rfl) (yld_loadW (e := 25) (n := 28) hs 2 rfl (by kernel_rfl) (by kernel_rfl) (by kernel_rfl) (by simp [enc_len]) .grow) ?_
              obtain ⟨⟨r10_0, r10_1, r10_2, r10_3⟩, hg, h⟩ := of_bind h
              refine wpG.only 14 (by kernel_rfl) (op_call (d := (some 43)) (by kernel_rfl) hs (fun _ => by kernel_rfl) (keccak_Absorb.ok hg _ (RowL.nil _) (hs.rowR 2 rfl) (hs.rowR 3 rfl) (hs.rowR 4 rfl)) ?_)
              intro w gw hs
              refine ⟨.of gw, ?_⟩
              rcases of_ifb h with ⟨hc, h⟩ | ⟨hc, h⟩
              · refine wpG.takeD 16 false (some 45) (.bool true) (by kernel_rfl) (by kernel_rfl) (yld_bb hc (yld_eqSn (fs := [Field.mk "Kind" 3 0 false "" "" 0, Field.mk "Words" 23 1 false "" "" 8, Field.mk "At" 3 26 false "" "" 208, Field.mk "Out" 4 27 false "" "" 216]) (xs := ([.int .i64 r10_0] : List Value) ++ enc .u64 r10_1 ++ ([.int .i64 r10_2, .bool r10_3] : List Value)) (ys := ([.int .i64 a0_0] : List Value) ++ enc .u64 a0_1 ++ ([.int .i64 a0_2, .bool a0_3] : List Value)) (t := 25) (.tmp 43) (.tmp 44) (by kernel_rfl) (by kernel_rfl) (by kernel_rfl) (by kernel_rfl) (.cons rfl (fun w => Go.Mx.run_part1 (by kernel_rfl) (List.getElem?_toArray.trans (get_pre rfl))) (fun w => Go.Mx.run_part1 (by kernel_rfl) (List.getElem?_toArray.trans (get_pre rfl))) (fun w => Go.Mx.run_equalIn_int (by kernel_rfl)) (.cons rfl (fun w => Go.Mx.run_partN (by kernel_rfl) (by kernel_rfl) (mid_of rfl)) (fun w => Go.Mx.run_partN (by kernel_rfl) (by kernel_rfl) (mid_of rfl)) (fun w => Go.Mx.run_equalA (e := 22) (by kernel_rfl) (by kernel_rfl) (by kernel_rfl) (by kernel_rfl)) (.cons rfl (fun w => Go.Mx.run_part1 (by kernel_rfl) (List.getElem?_toArray.trans (get_post 0 rfl rfl))) (fun w => Go.Mx.run_part1 (by kernel_rfl) (List.getElem?_toArray.trans (get_post 0 rfl rfl))) (fun w => Go.Mx.run_equalIn_int (by kernel_rfl)) (.cons rfl (fun w => Go.Mx.run_part1 (by kernel_rfl) (List.getElem?_toArray.trans (get_post 1 rfl rfl))) (fun w => Go.Mx.run_part1 (by kernel_rfl) (List.getElem?_toArray.trans (get_post 1 rfl rfl))) (fun w => Go.Mx.run_equalIn_bool (by kernel_rfl)) .nil)))))) ?_
                refine wpG.takeD 17 false (some 46) (.bool true) (by kernel_rfl) (by kernel_rfl) (yld fun _ => by kernel_rfl) ?_
                refine wpG.fin (by kernel_rfl) rfl (kr _ _ ?_)
                have q0 := of_some h
                subst q0
                exact nj _ _ ⟨((hs.conv (L' := [.ownL (CI .u8) r8_A r8_n r8_c r8 5, .ownL CS s7_A s7_n s7_c ([(a1_A, a1_n, a1_c), (a2_A, a2_n, a2_c)] : List HS) 26, .blk b1 (([.int .i64 a0_0] : List Value) ++ enc .u64 a0_1 ++ ([.int .i64 a0_2, .bool a0_3] : List Value)) 25]) rfl).drop (.cons _ (.cons _ (.cons_cons _ .slnil)))), exg (by kernel_rfl)⟩
              · refine wpG.takeD 16 false (some 45) (.bool false) (by kernel_rfl) (by kernel_rfl) (yld_bb hc (yld_eqSn (fs := [Field.mk "Kind" 3 0 false "" "" 0, Field.mk "Words" 23 1 false "" "" 8, Field.mk "At" 3 26 false "" "" 208, Field.mk "Out" 4 27 false "" "" 216]) (xs := ([.int .i64 r10_0] : List Value) ++ enc .u64 r10_1 ++ ([.int .i64 r10_2, .bool r10_3] : List Value)) (ys := ([.int .i64 a0_0] : List Value) ++ enc .u64 a0_1 ++ ([.int .i64 a0_2, .bool a0_3] : List Value)) (t := 25) (.tmp 43) (.tmp 44) (by kernel_rfl) (by kernel_rfl) (by kernel_rfl) (by kernel_rfl) (.cons rfl (fun w => Go.Mx.run_part1 (by kernel_rfl) (List.getElem?_toArray.trans (get_pre rfl))) (fun w => Go.Mx.run_part1 (by kernel_rfl) (List.getElem?_toArray.trans (get_pre rfl))) (fun w => Go.Mx.run_equalIn_int (by kernel_rfl)) (.cons rfl (fun w => Go.Mx.run_partN (by kernel_rfl) (by kernel_rfl) (mid_of rfl)) (fun w => Go.Mx.run_partN (by kernel_rfl) (by kernel_rfl) (mid_of rfl)) (fun w => Go.Mx.run_equalA (e := 22) (by kernel_rfl) (by kernel_rfl) (by kernel_rfl) (by kernel_rfl)) (.cons rfl (fun w => Go.Mx.run_part1 (by kernel_rfl) (List.getElem?_toArray.trans (get_post 0 rfl rfl))) (fun w => Go.Mx.run_part1 (by kernel_rfl) (List.getElem?_toArray.trans (get_post 0 rfl rfl))) (fun w => Go.Mx.run_equalIn_int (by kernel_rfl)) (.cons rfl (fun w => Go.Mx.run_part1 (by kernel_rfl) (List.getElem?_toArray.trans (get_post 1 rfl rfl))) (fun w => Go.Mx.run_part1 (by kernel_rfl) (List.getElem?_toArray.trans (get_post 1 rfl rfl))) (fun w => Go.Mx.run_equalIn_bool (by kernel_rfl)) .nil)))))) ?_
                refine wpG.takeD 17 false (some 46) (.bool false) (by kernel_rfl) (by kernel_rfl) (yld fun _ => by kernel_rfl) ?_
                refine wpG.fin (by kernel_rfl) rfl (kr _ _ ?_)
                have q0 := of_some h
                subst q0
                exact nj _ _ ⟨((hs.conv (L' := [.ownL (CI .u8) r8_A r8_n r8_c r8 5, .ownL CS s7_A s7_n s7_c ([(a1_A, a1_n, a1_c), (a2_A, a2_n, a2_c)] : List HS) 26, .blk b1 (([.int .i64 a0_0] : List Value) ++ enc .u64 a0_1 ++ ([.int .i64 a0_2, .bool a0_3] : List Value)) 25]) rfl).drop (.cons _ (.cons _ (.cons_cons _ .slnil)))), exg (by kernel_rfl)⟩
          · refine (op_lit (C := CS) (t := 35) (e := 26) (len := 2) (parts := #[(0, .slice a1_A a1_n a1_c), (1, .slice a2_A a2_n a2_c)]) (l := ([(a1_A, a1_n, a1_c), (a2_A, a2_n, a2_c)] : List HS)) (d := (some 37)) (by kernel_rfl) hs (by kernel_rfl) (by kernel_rfl) (by kernel_rfl) (z := .slice none 0 0) (by kernel_rfl) rfl (by decide) (by decide) (by kernel_rfl) ?_)
            intro s11_A s11_n s11_c w gw hs
            refine ⟨.of gw, ?_⟩
            obtain ⟨⟨r12_0, r12_1, r12_2, r12_3⟩, hg, h⟩ := of_bind h
            refine wpG.only 4 (by kernel_rfl) (op_call (d := (some 33)) (by kernel_rfl) hs (fun _ => by kernel_rfl) (keccak_Absorb.ok hg _ (hs.rowR 1 rfl) (hs.rowR 2 rfl) (hs.rowR 3 rfl) (hs.rowR 4 rfl)) ?_)
            intro w gw hs
            refine ⟨.of gw, ?_⟩
            obtain ⟨r13, hg, h⟩ := of_bind h
            refine wpG.only 9 (by kernel_rfl) (op_callH (d := (some 38)) (by kernel_rfl) hs (fun _ => by kernel_rfl) (ref01_Join.ok hg _ (LLP.mk (hs.rowL 0 rfl) (inn_cons (hs.rowR 0 rfl) (inn_cons (hs.rowR 1 rfl) inn_nil)))) ?_)
            rintro ⟨r13_A, r13_n, r13_c⟩ w gw hs
            have hs := hs.conv (L' := [.ownL (CI .u8) r13_A r13_n r13_c r13 5, .ownL CS s11_A s11_n s11_c ([(a1_A, a1_n, a1_c), (a2_A, a2_n, a2_c)] : List HS) 26, .blk b1 (([.int .i64 a0_0] : List Value) ++ enc .u64 a0_1 ++ ([.int .i64 a0_2, .bool a0_3] : List Value)) 25]) rfl
            refine ⟨.of gw, ?_⟩
            obtain ⟨⟨r14_0, r14_1, r14_2, r14_3⟩, hg, h⟩ := of_bind h
            refine wpG.only 10 (by kernel_rfl) (op_call (d := (some 39)) (by kernel_rfl) hs (fun _ => by kernel_rfl) (keccak_Absorb.ok hg _ (hs.rowL 0 rfl) (hs.rowR 2 rfl) (hs.rowR 3 rfl) (hs.rowR 4 rfl)) ?_)
            intro w gw hs
            refine ⟨.of gw, ?_⟩
            rcases of_ifb h with ⟨hc, h⟩ | ⟨hc, h⟩
            · refine wpG.takeD 11 false (some 40) (.bool true) (by kernel_rfl) (by kernel_rfl) (yld_bb hc (yld_eqSn (fs := [Field.mk "Kind" 3 0 false "" "" 0, Field.mk "Words" 23 1 false "" "" 8, Field.mk "At" 3 26 false "" "" 208, Field.mk "Out" 4 27 false "" "" 216]) (xs := ([.int .i64 r12_0] : List Value) ++ enc .u64 r12_1 ++ ([.int .i64 r12_2, .bool r12_3] : List Value)) (ys := ([.int .i64 r14_0] : List Value) ++ enc .u64 r14_1 ++ ([.int .i64 r14_2, .bool r14_3] : List Value)) (t := 25) (.tmp 33) (.tmp 39) (by kernel_rfl) (by kernel_rfl) (by kernel_rfl) (by kernel_rfl) (.cons rfl (fun w => Go.Mx.run_part1 (by kernel_rfl) (List.getElem?_toArray.trans (get_pre rfl))) (fun w => Go.Mx.run_part1 (by kernel_rfl) (List.getElem?_toArray.trans (get_pre rfl))) (fun w => Go.Mx.run_equalIn_int (by kernel_rfl)) (.cons rfl (fun w => Go.Mx.run_partN (by kernel_rfl) (by kernel_rfl) (mid_of rfl)) (fun w => Go.Mx.run_partN (by kernel_rfl) (by kernel_rfl) (mid_of rfl)) (fun w => Go.Mx.run_equalA (e := 22) (by kernel_rfl) (by kernel_rfl) (by kernel_rfl) (by kernel_rfl)) (.cons rfl (fun w => Go.Mx.run_part1 (by kernel_rfl) (List.getElem?_toArray.trans (get_post 0 rfl rfl))) (fun w => Go.Mx.run_part1 (by kernel_rfl) (List.getElem?_toArray.trans (get_post 0 rfl rfl))) (fun w => Go.Mx.run_equalIn_int (by kernel_rfl)) (.cons rfl (fun w => Go.Mx.run_part1 (by kernel_rfl) (List.getElem?_toArray.trans (get_post 1 rfl rfl))) (fun w => Go.Mx.run_part1 (by kernel_rfl) (List.getElem?_toArray.trans (get_post 1 rfl rfl))) (fun w => Go.Mx.run_equalIn_bool (by kernel_rfl)) .nil)))))) ?_
              refine wpG.takeD 12 false (some 41) (.bool true) (by kernel_rfl) (by kernel_rfl) (yld fun _ => by kernel_rfl) ?_
              refine wpG.takeD 13 false (some 42) (undef) (by kernel_rfl) (by kernel_rfl) (yld fun _ => by kernel_rfl) ?_
              refine wpG.takeD 15 false (some 44) (undef) (by kernel_rfl) (by kernel_rfl) (yld fun _ => by kernel_rfl) ?_
              refine wpG.takeD 14 false (some 43) (undef) (by kernel_rfl) (by kernel_rfl) (yld fun _ => by kernel_rfl) ?_
              refine wpG.takeD 16 false (some 45) (undef) (by kernel_rfl) (by kernel_rfl) (yld fun _ => by kernel_rfl) ?_
              refine wpG.takeD 17 false (some 46) (.bool true) (by kernel_rfl) (by kernel_rfl) (yld fun _ => by kernel_rfl) ?_
              refine wpG.fin (by kernel_rfl) rfl (kr _ _ ?_)
              have q0 := of_some h
              subst q0
              exact nj _ _ ⟨((hs.conv (L' := [.ownL (CI .u8) r13_A r13_n r13_c r13 5, .ownL CS s11_A s11_n s11_c ([(a1_A, a1_n, a1_c), (a2_A, a2_n, a2_c)] : List HS) 26, .blk b1 (([.int .i64 a0_0] : List Value) ++ enc .u64 a0_1 ++ ([.int .i64 a0_2, .bool a0_3] : List Value)) 25]) rfl).drop (.cons _ (.cons _ (.cons_cons _ .slnil)))), exg (by kernel_rfl)⟩
            · refine wpG.takeD 11 false (some 40) (.bool false) (by kernel_rfl) (by kernel_rfl) (yld_bb hc (yld_eqSn (fs := [Field.mk "Kind" 3 0 false "" "" 0, Field.mk "Words" 23 1 false "" "" 8, Field.mk "At" 3 26 false "" "" 208, Field.mk "Out" 4 27 false "" "" 216]) (xs := ([.int .i64 r12_0] : List Value) ++ enc .u64 r12_1 ++ ([.int .i64 r12_2, .bool r12_3] : List Value)) (ys := ([.int .i64 r14_0] : List Value) ++ enc .u64 r14_1 ++ ([.int .i64 r14_2, .bool r14_3] : List Value)) (t := 25) (.tmp 33) (.tmp 39) (by kernel_rfl) (by kernel_rfl) (by kernel_rfl) (by kernel_rfl) (.cons rfl (fun w => Go.Mx.run_part1 (by kernel_rfl) (List.getElem?_toArray.trans (get_pre rfl))) (fun w => Go.Mx.run_part1 (by kernel_rfl) (List.getElem?_toArray.trans (get_pre rfl))) (fun w => Go.Mx.run_equalIn_int (by kernel_rfl)) (.cons rfl (fun w => Go.Mx.run_partN (by kernel_rfl) (by kernel_rfl) (mid_of rfl)) (fun w => Go.Mx.run_partN (by kernel_rfl) (by kernel_rfl) (mid_of rfl)) (fun w => Go.Mx.run_equalA (e := 22) (by kernel_rfl) (by kernel_rfl) (by kernel_rfl) (by kernel_rfl)) (.cons rfl (fun w => Go.Mx.run_part1 (by kernel_rfl) (List.getElem?_toArray.trans (get_post 0 rfl rfl))) (fun w => Go.Mx.run_part1 (by kernel_rfl) (List.getElem?_toArray.trans (get_post 0 rfl rfl))) (fun w => Go.Mx.run_equalIn_int (by kernel_rfl)) (.cons rfl (fun w => Go.Mx.run_part1 (by kernel_rfl) (List.getElem?_toArray.trans (get_post 1 rfl rfl))) (fun w => Go.Mx.run_part1 (by kernel_rfl) (List.getElem?_toArray.trans (get_post 1 rfl rfl))) (fun w => Go.Mx.run_equalIn_bool (by kernel_rfl)) .nil)))))) ?_
              refine wpG.takeD 12 false (some 41) (.bool false) (by kernel_rfl) (by kernel_rfl) (yld fun _ => by kernel_rfl) ?_
              refine wpG.takeD 13 true (some 42) (.agg (([.int .i64 a0_0] : List Value) ++ enc .u64 a0_1 ++ ([.int .i64 a0_2, .bool a0_3] : List Value)).toArray) (by kernel_rfl) (by kernel_rfl) (yld_loadW (e := 25) (n := 28) hs 2 rfl (by kernel_rfl) (by kernel_rfl) (by kernel_rfl) (by simp [enc_len]) .grow) ?_
              refine wpG.takeD 15 true (some 44) (.agg (([.int .i64 a0_0] : List Value) ++ enc .u64 a0_1 ++ ([.int .i64 a0_2, .bool a0_3] : List Value)).toArray) (by kernel_rfl) (by kernel_rfl) (yld_loadW (e := 25) (n := 28) hs 2 rfl (by kernel_rfl) (by kernel_rfl) (by kernel_rfl) (by simp [enc_len]) .grow) ?_
              obtain ⟨⟨r15_0, r15_1, r15_2, r15_3⟩, hg, h⟩ := of_bind h
              refine wpG.only 14 (by kernel_rfl) (op_call (d := (some 43)) (by kernel_rfl) hs (fun _ => by kernel_rfl) (keccak_Absorb.ok hg _ (RowL.nil _) (hs.rowR 2 rfl) (hs.rowR 3 rfl) (hs.rowR 4 rfl)) ?_)
              intro w gw hs
              refine ⟨.of gw, ?_⟩
              rcases of_ifb h with ⟨hc, h⟩ | ⟨hc, h⟩
              · refine wpG.takeD 16 false (some 45) (.bool true) (by kernel_rfl) (by kernel_rfl) (yld_bb hc (yld_eqSn (fs := [Field.mk "Kind" 3 0 false "" "" 0, Field.mk "Words" 23 1 false "" "" 8, Field.mk "At" 3 26 false "" "" 208, Field.mk "Out" 4 27 false "" "" 216]) (xs := ([.int .i64 r15_0] : List Value) ++ enc .u64 r15_1 ++ ([.int .i64 r15_2, .bool r15_3] : List Value)) (ys := ([.int .i64 a0_0] : List Value) ++ enc .u64 a0_1 ++ ([.int .i64 a0_2, .bool a0_3] : List Value)) (t := 25) (.tmp 43) (.tmp 44) (by kernel_rfl) (by kernel_rfl) (by kernel_rfl) (by kernel_rfl) (.cons rfl (fun w => Go.Mx.run_part1 (by kernel_rfl) (List.getElem?_toArray.trans (get_pre rfl))) (fun w => Go.Mx.run_part1 (by kernel_rfl) (List.getElem?_toArray.trans (get_pre rfl))) (fun w => Go.Mx.run_equalIn_int (by kernel_rfl)) (.cons rfl (fun w => Go.Mx.run_partN (by kernel_rfl) (by kernel_rfl) (mid_of rfl)) (fun w => Go.Mx.run_partN (by kernel_rfl) (by kernel_rfl) (mid_of rfl)) (fun w => Go.Mx.run_equalA (e := 22) (by kernel_rfl) (by kernel_rfl) (by kernel_rfl) (by kernel_rfl)) (.cons rfl (fun w => Go.Mx.run_part1 (by kernel_rfl) (List.getElem?_toArray.trans (get_post 0 rfl rfl))) (fun w => Go.Mx.run_part1 (by kernel_rfl) (List.getElem?_toArray.trans (get_post 0 rfl rfl))) (fun w => Go.Mx.run_equalIn_int (by kernel_rfl)) (.cons rfl (fun w => Go.Mx.run_part1 (by kernel_rfl) (List.getElem?_toArray.trans (get_post 1 rfl rfl))) (fun w => Go.Mx.run_part1 (by kernel_rfl) (List.getElem?_toArray.trans (get_post 1 rfl rfl))) (fun w => Go.Mx.run_equalIn_bool (by kernel_rfl)) .nil)))))) ?_
                refine wpG.takeD 17 false (some 46) (.bool true) (by kernel_rfl) (by kernel_rfl) (yld fun _ => by kernel_rfl) ?_
                refine wpG.fin (by kernel_rfl) rfl (kr _ _ ?_)
                have q0 := of_some h
                subst q0
                exact nj _ _ ⟨((hs.conv (L' := [.ownL (CI .u8) r13_A r13_n r13_c r13 5, .ownL CS s11_A s11_n s11_c ([(a1_A, a1_n, a1_c), (a2_A, a2_n, a2_c)] : List HS) 26, .blk b1 (([.int .i64 a0_0] : List Value) ++ enc .u64 a0_1 ++ ([.int .i64 a0_2, .bool a0_3] : List Value)) 25]) rfl).drop (.cons _ (.cons _ (.cons_cons _ .slnil)))), exg (by kernel_rfl)⟩
              · refine wpG.takeD 16 false (some 45) (.bool false) (by kernel_rfl) (by kernel_rfl) (yld_bb hc (yld_eqSn (fs := [Field.mk "Kind" 3 0 false "" "" 0, Field.mk "Words" 23 1 false "" "" 8, Field.mk "At" 3 26 false "" "" 208, Field.mk "Out" 4 27 false "" "" 216]) (xs := ([.int .i64 r15_0] : List Value) ++ enc .u64 r15_1 ++ ([.int .i64 r15_2, .bool r15_3] : List Value)) (ys := ([.int .i64 a0_0] : List Value) ++ enc .u64 a0_1 ++ ([.int .i64 a0_2, .bool a0_3] : List Value)) (t := 25) (.tmp 43) (.tmp 44) (by kernel_rfl) (by kernel_rfl) (by kernel_rfl) (by kernel_rfl) (.cons rfl (fun w => Go.Mx.run_part1 (by kernel_rfl) (List.getElem?_toArray.trans (get_pre rfl))) (fun w => Go.Mx.run_part1 (by kernel_rfl) (List.getElem?_toArray.trans (get_pre rfl))) (fun w => Go.Mx.run_equalIn_int (by kernel_rfl)) (.cons rfl (fun w => Go.Mx.run_partN (by kernel_rfl) (by kernel_rfl) (mid_of rfl)) (fun w => Go.Mx.run_partN (by kernel_rfl) (by kernel_rfl) (mid_of rfl)) (fun w => Go.Mx.run_equalA (e := 22) (by kernel_rfl) (by kernel_rfl) (by kernel_rfl) (by kernel_rfl)) (.cons rfl (fun w => Go.Mx.run_part1 (by kernel_rfl) (List.getElem?_toArray.trans (get_post 0 rfl rfl))) (fun w => Go.Mx.run_part1 (by kernel_rfl) (List.getElem?_toArray.trans (get_post 0 rfl rfl))) (fun w => Go.Mx.run_equalIn_int (by kernel_rfl)) (.cons rfl (fun w => Go.Mx.run_part1 (by kernel_rfl) (List.getElem?_toArray.trans (get_post 1 rfl rfl))) (fun w => Go.Mx.run_part1 (by kernel_rfl) (List.getElem?_toArray.trans (get_post 1 rfl rfl))) (fun w => Go.Mx.run_equalIn_bool (by kernel_rfl)) .nil)))))) ?_
                refine wpG.takeD 17 false (some 46) (.bool false) (by kernel_rfl) (by kernel_rfl) (yld fun _ => by kernel_rfl) ?_
                refine wpG.fin (by kernel_rfl) rfl (kr _ _ ?_)
                have q0 := of_some h
                subst q0
                exact nj _ _ ⟨((hs.conv (L' := [.ownL (CI .u8) r13_A r13_n r13_c r13 5, .ownL CS s11_A s11_n s11_c ([(a1_A, a1_n, a1_c), (a2_A, a2_n, a2_c)] : List HS) 26, .blk b1 (([.int .i64 a0_0] : List Value) ++ enc .u64 a0_1 ++ ([.int .i64 a0_2, .bool a0_3] : List Value)) 25]) rfl).drop (.cons _ (.cons _ (.cons_cons _ .slnil)))), exg (by kernel_rfl)⟩
        · refine (op_lit (C := CS) (t := 35) (e := 26) (len := 2) (parts := #[(0, .slice a1_A a1_n a1_c), (1, .slice a2_A a2_n a2_c)]) (l := ([(a1_A, a1_n, a1_c), (a2_A, a2_n, a2_c)] : List HS)) (d := (some 37)) (by kernel_rfl) hs (by kernel_rfl) (by kernel_rfl) (by kernel_rfl) (z := .slice none 0 0) (by kernel_rfl) rfl (by decide) (by decide) (by kernel_rfl) ?_)
          intro s16_A s16_n s16_c w gw hs
          refine ⟨.of gw, ?_⟩
          obtain ⟨⟨r17_0, r17_1, r17_2, r17_3⟩, hg, h⟩ := of_bind h
          refine wpG.only 2 (by kernel_rfl) (op_call (d := (some 31)) (by kernel_rfl) hs (fun _ => by kernel_rfl) (keccak_Absorb.ok hg _ (hs.rowR 0 rfl) (hs.rowR 2 rfl) (hs.rowR 3 rfl) (hs.rowR 4 rfl)) ?_)
          intro w gw hs
          refine ⟨.of gw, ?_⟩
          obtain ⟨⟨r18_0, r18_1, r18_2, r18_3⟩, hg, h⟩ := of_bind h
          refine wpG.only 4 (by kernel_rfl) (op_call (d := (some 33)) (by kernel_rfl) hs (fun _ => by kernel_rfl) (keccak_Absorb.ok hg _ (hs.rowR 1 rfl) (hs.rowR 2 rfl) (hs.rowR 3 rfl) (hs.rowR 4 rfl)) ?_)
          intro w gw hs
          refine ⟨.of gw, ?_⟩
          obtain ⟨r19, hg, h⟩ := of_bind h
          refine wpG.only 9 (by kernel_rfl) (op_callH (d := (some 38)) (by kernel_rfl) hs (fun _ => by kernel_rfl) (ref01_Join.ok hg _ (LLP.mk (hs.rowL 0 rfl) (inn_cons (hs.rowR 0 rfl) (inn_cons (hs.rowR 1 rfl) inn_nil)))) ?_)
          rintro ⟨r19_A, r19_n, r19_c⟩ w gw hs
          have hs := hs.conv (L' := [.ownL (CI .u8) r19_A r19_n r19_c r19 5, .ownL CS s16_A s16_n s16_c ([(a1_A, a1_n, a1_c), (a2_A, a2_n, a2_c)] : List HS) 26, .blk b1 (([.int .i64 a0_0] : List Value) ++ enc .u64 a0_1 ++ ([.int .i64 a0_2, .bool a0_3] : List Value)) 25]) rfl
          refine ⟨.of gw, ?_⟩
          obtain ⟨⟨r20_0, r20_1, r20_2, r20_3⟩, hg, h⟩ := of_bind h
          refine wpG.only 10 (by kernel_rfl) (op_call (d := (some 39)) (by kernel_rfl) hs (fun _ => by kernel_rfl) (keccak_Absorb.ok hg _ (hs.rowL 0 rfl) (hs.rowR 2 rfl) (hs.rowR 3 rfl) (hs.rowR 4 rfl)) ?_)
          intro w gw hs
          refine ⟨.of gw, ?_⟩
          rcases of_ifb h with ⟨hc, h⟩ | ⟨hc, h⟩
          · refine wpG.takeD 11 false (some 40) (.bool true) (by kernel_rfl) (by kernel_rfl) (yld_bb hc (yld_eqSn (fs := [Field.mk "Kind" 3 0 false "" "" 0, Field.mk "Words" 23 1 false "" "" 8, Field.mk "At" 3 26 false "" "" 208, Field.mk "Out" 4 27 false "" "" 216]) (xs := ([.int .i64 r18_0] : List Value) ++ enc .u64 r18_1 ++ ([.int .i64 r18_2, .bool r18_3] : List Value)) (ys := ([.int .i64 r20_0] : List Value) ++ enc .u64 r20_1 ++ ([.int .i64 r20_2, .bool r20_3] : List Value)) (t := 25) (.tmp 33) (.tmp 39) (by kernel_rfl) (by kernel_rfl) (by kernel_rfl) (by kernel_rfl) (.cons rfl (fun w => Go.Mx.run_part1 (by kernel_rfl) (List.getElem?_toArray.trans (get_pre rfl))) (fun w => Go.Mx.run_part1 (by kernel_rfl) (List.getElem?_toArray.trans (get_pre rfl))) (fun w => Go.Mx.run_equalIn_int (by kernel_rfl)) (.cons rfl (fun w => Go.Mx.run_partN (by kernel_rfl) (by kernel_rfl) (mid_of rfl)) (fun w => Go.Mx.run_partN (by kernel_rfl) (by kernel_rfl) (mid_of rfl)) (fun w => Go.Mx.run_equalA (e := 22) (by kernel_rfl) (by kernel_rfl) (by kernel_rfl) (by kernel_rfl)) (.cons rfl (fun w => Go.Mx.run_part1 (by kernel_rfl) (List.getElem?_toArray.trans (get_post 0 rfl rfl))) (fun w => Go.Mx.run_part1 (by kernel_rfl) (List.getElem?_toArray.trans (get_post 0 rfl rfl))) (fun w => Go.Mx.run_equalIn_int (by kernel_rfl)) (.cons rfl (fun w => Go.Mx.run_part1 (by kernel_rfl) (List.getElem?_toArray.trans (get_post 1 rfl rfl))) (fun w => Go.Mx.run_part1 (by kernel_rfl) (List.getElem?_toArray.trans (get_post 1 rfl rfl))) (fun w => Go.Mx.run_equalIn_bool (by kernel_rfl)) .nil)))))) ?_
            refine wpG.takeD 12 false (some 41) (.bool true) (by kernel_rfl) (by kernel_rfl) (yld fun _ => by kernel_rfl) ?_
            refine wpG.takeD 13 false (some 42) (undef) (by kernel_rfl) (by kernel_rfl) (yld fun _ => by kernel_rfl) ?_
            refine wpG.takeD 15 false (some 44) (undef) (by kernel_rfl) (by kernel_rfl) (yld fun _ => by kernel_rfl) ?_
            refine wpG.takeD 14 false (some 43) (undef) (by kernel_rfl) (by kernel_rfl) (yld fun _ => by kernel_rfl) ?_
            refine wpG.takeD 16 false (some 45) (undef) (by kernel_rfl) (by kernel_rfl) (yld fun _ => by kernel_rfl) ?_
            refine wpG.takeD 17 false (some 46) (.bool true) (by kernel_rfl) (by kernel_rfl) (yld fun _ => by kernel_rfl) ?_
            refine wpG.fin (by kernel_rfl) rfl (kr _ _ ?_)
            have q0 := of_some h
            subst q0
            exact nj _ _ ⟨((hs.conv (L' := [.ownL (CI .u8) r19_A r19_n r19_c r19 5, .ownL CS s16_A s16_n s16_c ([(a1_A, a1_n, a1_c), (a2_A, a2_n, a2_c)] : List HS) 26, .blk b1 (([.int .i64 a0_0] : List Value) ++ enc .u64 a0_1 ++ ([.int .i64 a0_2, .bool a0_3] : List Value)) 25]) rfl).drop (.cons _ (.cons _ (.cons_cons _ .slnil)))), exg (by kernel_rfl)⟩
          · refine wpG.takeD 11 false (some 40) (.bool false) (by kernel_rfl) (by kernel_rfl) (yld_bb hc (yld_eqSn (fs := [Field.mk "Kind" 3 0 false "" "" 0, Field.mk "Words" 23 1 false "" "" 8, Field.mk "At" 3 26 false "" "" 208, Field.mk "Out" 4 27 false "" "" 216]) (xs := ([.int .i64 r18_0] : List Value) ++ enc .u64 r18_1 ++ ([.int .i64 r18_2, .bool r18_3] : List Value)) (ys := ([.int .i64 r20_0] : List Value) ++ enc .u64 r20_1 ++ ([.int .i64 r20_2, .bool r20_3] : List Value)) (t := 25) (.tmp 33) (.tmp 39) (by kernel_rfl) (by kernel_rfl) (by kernel_rfl) (by kernel_rfl) (.cons rfl (fun w => Go.Mx.run_part1 (by kernel_rfl) (List.getElem?_toArray.trans (get_pre rfl))) (fun w => Go.Mx.run_part1 (by kernel_rfl) (List.getElem?_toArray.trans (get_pre rfl))) (fun w => Go.Mx.run_equalIn_int (by kernel_rfl)) (.cons rfl (fun w => Go.Mx.run_partN (by kernel_rfl) (by kernel_rfl) (mid_of rfl)) (fun w => Go.Mx.run_partN (by kernel_rfl) (by kernel_rfl) (mid_of rfl)) (fun w => Go.Mx.run_equalA (e := 22) (by kernel_rfl) (by kernel_rfl) (by kernel_rfl) (by kernel_rfl)) (.cons rfl (fun w => Go.Mx.run_part1 (by kernel_rfl) (List.getElem?_toArray.trans (get_post 0 rfl rfl))) (fun w => Go.Mx.run_part1 (by kernel_rfl) (List.getElem?_toArray.trans (get_post 0 rfl rfl))) (fun w => Go.Mx.run_equalIn_int (by kernel_rfl)) (.cons rfl (fun w => Go.Mx.run_part1 (by kernel_rfl) (List.getElem?_toArray.trans (get_post 1 rfl rfl))) (fun w => Go.Mx.run_part1 (by kernel_rfl) (List.getElem?_toArray.trans (get_post 1 rfl rfl))) (fun w => Go.Mx.run_equalIn_bool (by kernel_rfl)) .nil)))))) ?_
            refine wpG.takeD 12 false (some 41) (.bool false) (by kernel_rfl) (by kernel_rfl) (yld fun _ => by kernel_rfl) ?_
            refine wpG.takeD 13 true (some 42) (.agg (([.int .i64 a0_0] : List Value) ++ enc .u64 a0_1 ++ ([.int .i64 a0_2, .bool a0_3] : List Value)).toArray) (by kernel_rfl) (by kernel_rfl) (yld_loadW (e := 25) (n := 28) hs 2 rfl (by kernel_rfl) (by kernel_rfl) (by kernel_rfl) (by simp [enc_len]) .grow) ?_
            refine wpG.takeD 15 true (some 44) (.agg (([.int .i64 a0_0] : List Value) ++ enc .u64 a0_1 ++ ([.int .i64 a0_2, .bool a0_3] : List Value)).toArray) (by kernel_rfl) (by kernel_rfl) (yld_loadW (e := 25) (n := 28) hs 2 rfl (by kernel_rfl) (by kernel_rfl) (by kernel_rfl) (by simp [enc_len]) .grow) ?_
            obtain ⟨⟨r21_0, r21_1, r21_2, r21_3⟩, hg, h⟩ := of_bind h
            refine wpG.only 14 (by kernel_rfl) (op_call (d := (some 43)) (by kernel_rfl) hs (fun _ => by kernel_rfl) (keccak_Absorb.ok hg _ (RowL.nil _) (hs.rowR 2 rfl) (hs.rowR 3 rfl) (hs.rowR 4 rfl)) ?_)
            intro w gw hs
            refine ⟨.of gw, ?_⟩
            rcases of_ifb h with ⟨hc, h⟩ | ⟨hc, h⟩
            · refine wpG.takeD 16 false (some 45) (.bool true) (by kernel_rfl) (by kernel_rfl) (yld_bb hc (yld_eqSn (fs := [Field.mk "Kind" 3 0 false "" "" 0, Field.mk "Words" 23 1 false "" "" 8, Field.mk "At" 3 26 false "" "" 208, Field.mk "Out" 4 27 false "" "" 216]) (xs := ([.int .i64 r21_0] : List Value) ++ enc .u64 r21_1 ++ ([.int .i64 r21_2, .bool r21_3] : List Value)) (ys := ([.int .i64 a0_0] : List Value) ++ enc .u64 a0_1 ++ ([.int .i64 a0_2, .bool a0_3] : List Value)) (t := 25) (.tmp 43) (.tmp 44) (by kernel_rfl) (by kernel_rfl) (by kernel_rfl) (by kernel_rfl) (.cons rfl (fun w => Go.Mx.run_part1 (by kernel_rfl) (List.getElem?_toArray.trans (get_pre rfl))) (fun w => Go.Mx.run_part1 (by kernel_rfl) (List.getElem?_toArray.trans (get_pre rfl))) (fun w => Go.Mx.run_equalIn_int (by kernel_rfl)) (.cons rfl (fun w => Go.Mx.run_partN (by kernel_rfl) (by kernel_rfl) (mid_of rfl)) (fun w => Go.Mx.run_partN (by kernel_rfl) (by kernel_rfl) (mid_of rfl)) (fun w => Go.Mx.run_equalA (e := 22) (by kernel_rfl) (by kernel_rfl) (by kernel_rfl) (by kernel_rfl)) (.cons rfl (fun w => Go.Mx.run_part1 (by kernel_rfl) (List.getElem?_toArray.trans (get_post 0 rfl rfl))) (fun w => Go.Mx.run_part1 (by kernel_rfl) (List.getElem?_toArray.trans (get_post 0 rfl rfl))) (fun w => Go.Mx.run_equalIn_int (by kernel_rfl)) (.cons rfl (fun w => Go.Mx.run_part1 (by kernel_rfl) (List.getElem?_toArray.trans (get_post 1 rfl rfl))) (fun w => Go.Mx.run_part1 (by kernel_rfl) (List.getElem?_toArray.trans (get_post 1 rfl rfl))) (fun w => Go.Mx.run_equalIn_bool (by kernel_rfl)) .nil)))))) ?_
              refine wpG.takeD 17 false (some 46) (.bool true) (by kernel_rfl) (by kernel_rfl) (yld fun _ => by kernel_rfl) ?_
              refine wpG.fin (by kernel_rfl) rfl (kr _ _ ?_)
              have q0 := of_some h
              subst q0
              exact nj _ _ ⟨((hs.conv (L' := [.ownL (CI .u8) r19_A r19_n r19_c r19 5, .ownL CS s16_A s16_n s16_c ([(a1_A, a1_n, a1_c), (a2_A, a2_n, a2_c)] : List HS) 26, .blk b1 (([.int .i64 a0_0] : List Value) ++ enc .u64 a0_1 ++ ([.int .i64 a0_2, .bool a0_3] : List Value)) 25]) rfl).drop (.cons _ (.cons _ (.cons_cons _ .slnil)))), exg (by kernel_rfl)⟩
            · refine wpG.takeD 16 false (some 45) (.bool false) (by kernel_rfl) (by kernel_rfl) (yld_bb hc (yld_eqSn (fs := [Field.mk "Kind" 3 0 false "" "" 0, Field.mk "Words" 23 1 false "" "" 8, Field.mk "At" 3 26 false "" "" 208, Field.mk "Out" 4 27 false "" "" 216]) (xs := ([.int .i64 r21_0] : List Value) ++ enc .u64 r21_1 ++ ([.int .i64 r21_2, .bool r21_3] : List Value)) (ys := ([.int .i64 a0_0] : List Value) ++ enc .u64 a0_1 ++ ([.int .i64 a0_2, .bool a0_3] : List Value)) (t := 25) (.tmp 43) (.tmp 44) (by kernel_rfl) (by kernel_rfl) (by kernel_rfl) (by kernel_rfl) (.cons rfl (fun w => Go.Mx.run_part1 (by kernel_rfl) (List.getElem?_toArray.trans (get_pre rfl))) (fun w => Go.Mx.run_part1 (by kernel_rfl) (List.getElem?_toArray.trans (get_pre rfl))) (fun w => Go.Mx.run_equalIn_int (by kernel_rfl)) (.cons rfl (fun w => Go.Mx.run_partN (by kernel_rfl) (by kernel_rfl) (mid_of rfl)) (fun w => Go.Mx.run_partN (by kernel_rfl) (by kernel_rfl) (mid_of rfl)) (fun w => Go.Mx.run_equalA (e := 22) (by kernel_rfl) (by kernel_rfl) (by kernel_rfl) (by kernel_rfl)) (.cons rfl (fun w => Go.Mx.run_part1 (by kernel_rfl) (List.getElem?_toArray.trans (get_post 0 rfl rfl))) (fun w => Go.Mx.run_part1 (by kernel_rfl) (List.getElem?_toArray.trans (get_post 0 rfl rfl))) (fun w => Go.Mx.run_equalIn_int (by kernel_rfl)) (.cons rfl (fun w => Go.Mx.run_part1 (by kernel_rfl) (List.getElem?_toArray.trans (get_post 1 rfl rfl))) (fun w => Go.Mx.run_part1 (by kernel_rfl) (List.getElem?_toArray.trans (get_post 1 rfl rfl))) (fun w => Go.Mx.run_equalIn_bool (by kernel_rfl)) .nil)))))) ?_
              refine wpG.takeD 17 false (some 46) (.bool false) (by kernel_rfl) (by kernel_rfl) (yld fun _ => by kernel_rfl) ?_
              refine wpG.fin (by kernel_rfl) rfl (kr _ _ ?_)
              have q0 := of_some h
              subst q0
              exact nj _ _ ⟨((hs.conv (L' := [.ownL (CI .u8) r19_A r19_n r19_c r19 5, .ownL CS s16_A s16_n s16_c ([(a1_A, a1_n, a1_c), (a2_A, a2_n, a2_c)] : List HS) 26, .blk b1 (([.int .i64 a0_0] : List Value) ++ enc .u64 a0_1 ++ ([.int .i64 a0_2, .bool a0_3] : List Value)) 25]) rfl).drop (.cons _ (.cons _ (.cons_cons _ .slnil)))), exg (by kernel_rfl)⟩
      · clear hj hs
        rintro a w ⟨hs, g, rfl⟩
        refine then_n (ks11 _ _ ?_)
        cases y4 with
        | true =>
          have h := of_if_t h
          refine wp_cond_t (by kernel_rfl) ?_
          refine wp_seq_k fun KS12 ks12 => ?_
          refine wp_regS (l := [0]) (by kernel_rfl) fun KR kr => ?_
          refine wpS.take 0 false (some 10) (.bool false) (by kernel_rfl) (yld fun _ => by kernel_rfl) ?_
          refine wpS.fin rfl (kr _ _ ?_)
          refine then_n (ks12 _ _ ?_)
          refine wp_ret ?_
          refine then_r ?_
          have q0 := of_some h
          subst q0
          exact qq _ _ (post_ret (by kernel_rfl) (run_results [.tmp 10] [.bool false] (by kernel_rfl) (.cons (res_tmp (by kernel_rfl)) .nil)) ⟨congrArg Ending.returned (by kernel_rfl), hs.none⟩)
        | false =>
          have h := of_if_f h
          refine wp_cond_f (by kernel_rfl) ?_
          refine wp_skip ?_
          refine then_n (ks10 _ _ ?_)
          refine wp_seq_k fun KS13 ks13 => ?_
          refine wp_regS (l := [0, 1, 2, 3, 4, 5, 6, 7, 8, 9]) (by kernel_rfl) fun KR kr => ?_
          refine wpS.take 0 true (some 48) (.agg (([.int .i64 a0_0] : List Value) ++ enc .u64 a0_1 ++ ([.int .i64 a0_2, .bool a0_3] : List Value)).toArray) (by kernel_rfl) (yld_loadW (e := 25) (n := 28) hs 0 rfl (by kernel_rfl) (by kernel_rfl) (by kernel_rfl) (by simp [enc_len]) .grow) ?_
          refine wpS.take 1 false (some 49) (.int .u8 a3) (by kernel_rfl) (yld fun _ => by kernel_rfl) ?_
          refine wpS.take 2 false (some 50) (.int .i64 (iconv .i64 a3)) (by kernel_rfl) (yld fun _ => by kernel_rfl) ?_
          obtain ⟨⟨r22_0, r22_1, r22_2, r22_3, r23⟩, hg, h⟩ := of_bind h
          refine wpS.only 3 (op_callH (d := (some 51)) (by kernel_rfl) hs (fun _ => by kernel_rfl) (keccak_Squeeze.ok hg _ (hs.rowR 2 rfl) (hs.rowR 3 rfl) (hs.rowR 4 rfl)) ?_)
          rintro ⟨r23_A, r23_n, r23_c⟩ w gw hs
          have hs := hs.conv (L' := [.ownL (CI .u8) r23_A r23_n r23_c r23 5, .blk b1 (([.int .i64 a0_0] : List Value) ++ enc .u64 a0_1 ++ ([.int .i64 a0_2, .bool a0_3] : List Value)) 25]) rfl
          refine ⟨fun _ => trivial, ?_⟩
          refine wpS.take 4 false (some 47) (.tuple #[.agg (([.int .i64 r22_0] : List Value) ++ enc .u64 r22_1 ++ ([.int .i64 r22_2, .bool r22_3] : List Value)).toArray, .slice r23_A r23_n r23_c]) (by kernel_rfl) (yld fun _ => by kernel_rfl) ?_
          refine wpS.take 5 false (some 52) (.agg (([.int .i64 r22_0] : List Value) ++ enc .u64 r22_1 ++ ([.int .i64 r22_2, .bool r22_3] : List Value)).toArray) (by kernel_rfl) (yld fun _ => by kernel_rfl) ?_
          refine wpS.take 6 false (some 53) (.slice r23_A r23_n r23_c) (by kernel_rfl) (yld fun _ => by kernel_rfl) ?_
          refine wpS.only 7 (op_alloc (t := 25) (d := (some 11)) (by kernel_rfl) hs (([.int .i64 0] : List Value) ++ enc .u64 (zeroA 25) ++ ([.int .i64 0, .bool false] : List Value)) (.agg (([.int .i64 0] : List Value) ++ enc .u64 (zeroA 25) ++ ([.int .i64 0, .bool false] : List Value)).toArray) (by kernel_rfl) (by kernel_rfl) (by kernel_rfl) ?_)
          intro b24 w gw hs
          refine ⟨fun _ => trivial, ?_⟩
          refine wpS.only 8 (op_storeW (t := 25) (v := .agg (([.int .i64 r22_0] : List Value) ++ enc .u64 r22_1 ++ ([.int .i64 r22_2, .bool r22_3] : List Value)).toArray) (d := none) (by kernel_rfl) hs 0 rfl (vs := ([.int .i64 r22_0] : List Value) ++ enc .u64 r22_1 ++ ([.int .i64 r22_2, .bool r22_3] : List Value)) (n := 28) (by kernel_rfl) (by kernel_rfl) (by kernel_rfl) (by simp [enc_len]) (by simp [enc_len]) (one_app (one_app (by simp [Value.oneCell']) (fun u hu => enc_one _ _ u hu)) (by simp [Value.oneCell'])) ?_)
          intro w kp hs
          refine ⟨fun _ => trivial, ?_⟩
          refine wpS.take 9 false (some 12) (.slice r23_A r23_n r23_c) (by kernel_rfl) (yld fun _ => by kernel_rfl) ?_
          refine wpS.fin rfl (kr _ _ ?_)
          refine then_n (ks13 _ _ ?_)
          refine wp_seq_k fun KS14 ks14 => ?_
          refine wp_regS (l := [0, 1, 2, 3, 4, 5, 6, 7, 8, 9]) (by kernel_rfl) fun KR kr => ?_
          refine wpS.take 0 true (some 55) (.agg (([.int .i64 r22_0] : List Value) ++ enc .u64 r22_1 ++ ([.int .i64 r22_2, .bool r22_3] : List Value)).toArray) (by kernel_rfl) (yld_loadW (e := 25) (n := 28) hs 0 rfl (by kernel_rfl) (by kernel_rfl) (by kernel_rfl) (by simp [enc_len]) .grow) ?_
          refine wpS.take 1 false (some 56) (.int .u8 a4) (by kernel_rfl) (yld fun _ => by kernel_rfl) ?_
          refine wpS.take 2 false (some 57) (.int .i64 (iconv .i64 a4)) (by kernel_rfl) (yld fun _ => by kernel_rfl) ?_
          obtain ⟨⟨r25_0, r25_1, r25_2, r25_3, r26⟩, hg, h⟩ := of_bind h
          refine wpS.only 3 (op_callH (d := (some 58)) (by kernel_rfl) hs (fun _ => by kernel_rfl) (keccak_Squeeze.ok hg _ (hs.rowR 2 rfl) (hs.rowR 3 rfl) (hs.rowR 4 rfl)) ?_)
          rintro ⟨r26_A, r26_n, r26_c⟩ w gw hs
          have hs := hs.conv (L' := [.ownL (CI .u8) r26_A r26_n r26_c r26 5, .blk b24 (([.int .i64 r22_0] : List Value) ++ enc .u64 r22_1 ++ ([.int .i64 r22_2, .bool r22_3] : List Value)) 25, .ownL (CI .u8) r23_A r23_n r23_c r23 5, .blk b1 (([.int .i64 a0_0] : List Value) ++ enc .u64 a0_1 ++ ([.int .i64 a0_2, .bool a0_3] : List Value)) 25]) rfl
          refine ⟨fun _ => trivial, ?_⟩
          refine wpS.take 4 false (some 54) (.tuple #[.agg (([.int .i64 r25_0] : List Value) ++ enc .u64 r25_1 ++ ([.int .i64 r25_2, .bool r25_3] : List Value)).toArray, .slice r26_A r26_n r26_c]) (by kernel_rfl) (yld fun _ => by kernel_rfl) ?_
          refine wpS.take 5 false (some 59) (.agg (([.int .i64 r25_0] : List Value) ++ enc .u64 r25_1 ++ ([.int .i64 r25_2, .bool r25_3] : List Value)).toArray) (by kernel_rfl) (yld fun _ => by kernel_rfl) ?_
          refine wpS.take 6 false (some 60) (.slice r26_A r26_n r26_c) (by kernel_rfl) (yld fun _ => by kernel_rfl) ?_
          refine wpS.only 7 (op_alloc (t := 25) (d := (some 13)) (by kernel_rfl) hs (([.int .i64 0] : List Value) ++ enc .u64 (zeroA 25) ++ ([.int .i64 0, .bool false] : List Value)) (.agg (([.int .i64 0] : List Value) ++ enc .u64 (zeroA 25) ++ ([.int .i64 0, .bool false] : List Value)).toArray) (by kernel_rfl) (by kernel_rfl) (by kernel_rfl) ?_)
          intro b27 w gw hs
          refine ⟨fun _ => trivial, ?_⟩
          refine wpS.only 8 (op_storeW (t := 25) (v := .agg (([.int .i64 r25_0] : List Value) ++ enc .u64 r25_1 ++ ([.int .i64 r25_2, .bool r25_3] : List Value)).toArray) (d := none) (by kernel_rfl) hs 0 rfl (vs := ([.int .i64 r25_0] : List Value) ++ enc .u64 r25_1 ++ ([.int .i64 r25_2, .bool r25_3] : List Value)) (n := 28) (by kernel_rfl) (by kernel_rfl) (by kernel_rfl) (by simp [enc_len]) (by simp [enc_len]) (one_app (one_app (by simp [Value.oneCell']) (fun u hu => enc_one _ _ u hu)) (by simp [Value.oneCell'])) ?_)
          intro w kp hs
          refine ⟨fun _ => trivial, ?_⟩
          refine wpS.take 9 false (some 14) (.slice r26_A r26_n r26_c) (by kernel_rfl) (yld fun _ => by kernel_rfl) ?_
          refine wpS.fin rfl (kr _ _ ?_)
          refine then_n (ks14 _ _ ?_)
          refine wp_seq_k fun KS15 ks15 => ?_
          refine wp_regS (l := [0, 1, 2, 3, 4, 5, 6, 7, 8, 9, 10, 11, 12]) (by kernel_rfl) fun KR kr => ?_
          refine wpS.take 0 true (some 62) (.agg (([.int .i64 a0_0] : List Value) ++ enc .u64 a0_1 ++ ([.int .i64 a0_2, .bool a0_3] : List Value)).toArray) (by kernel_rfl) (yld_loadW (e := 25) (n := 28) hs 4 rfl (by kernel_rfl) (by kernel_rfl) (by kernel_rfl) (by simp [enc_len]) .grow) ?_
          refine wpS.take 1 false (some 63) (.int .u8 a3) (by kernel_rfl) (yld fun _ => by kernel_rfl) ?_
          refine wpS.take 2 false (some 64) (.int .i64 (iconv .i64 a3)) (by kernel_rfl) (yld fun _ => by kernel_rfl) ?_
          refine wpS.take 3 false (some 65) (.int .u8 a4) (by kernel_rfl) (yld fun _ => by kernel_rfl) ?_
          refine wpS.take 4 false (some 66) (.int .i64 (iconv .i64 a4)) (by kernel_rfl) (yld fun _ => by kernel_rfl) ?_
          refine wpS.take 5 false (some 67) (.int .i64 (iadd .i64 (iconv .i64 a3) (iconv .i64 a4))) (by kernel_rfl) (yld fun _ => by kernel_rfl) ?_
          obtain ⟨⟨r28_0, r28_1, r28_2, r28_3, r29⟩, hg, h⟩ := of_bind h
          refine wpS.only 6 (op_callH (d := (some 68)) (by kernel_rfl) hs (fun _ => by kernel_rfl) (keccak_Squeeze.ok hg _ (hs.rowR 2 rfl) (hs.rowR 3 rfl) (hs.rowR 4 rfl)) ?_)
          rintro ⟨r29_A, r29_n, r29_c⟩ w gw hs
          have hs := hs.conv (L' := [.ownL (CI .u8) r29_A r29_n r29_c r29 5, .blk b27 (([.int .i64 r25_0] : List Value) ++ enc .u64 r25_1 ++ ([.int .i64 r25_2, .bool r25_3] : List Value)) 25, .ownL (CI .u8) r26_A r26_n r26_c r26 5, .blk b24 (([.int .i64 r22_0] : List Value) ++ enc .u64 r22_1 ++ ([.int .i64 r22_2, .bool r22_3] : List Value)) 25, .ownL (CI .u8) r23_A r23_n r23_c r23 5, .blk b1 (([.int .i64 a0_0] : List Value) ++ enc .u64 a0_1 ++ ([.int .i64 a0_2, .bool a0_3] : List Value)) 25]) rfl
          refine ⟨fun _ => trivial, ?_⟩
          refine wpS.take 7 false (some 61) (.tuple #[.agg (([.int .i64 r28_0] : List Value) ++ enc .u64 r28_1 ++ ([.int .i64 r28_2, .bool r28_3] : List Value)).toArray, .slice r29_A r29_n r29_c]) (by kernel_rfl) (yld fun _ => by kernel_rfl) ?_
          refine wpS.take 8 false (some 69) (.agg (([.int .i64 r28_0] : List Value) ++ enc .u64 r28_1 ++ ([.int .i64 r28_2, .bool r28_3] : List Value)).toArray) (by kernel_rfl) (yld fun _ => by kernel_rfl) ?_
          refine wpS.take 9 false (some 70) (.slice r29_A r29_n r29_c) (by kernel_rfl) (yld fun _ => by kernel_rfl) ?_
          refine wpS.only 10 (op_alloc (t := 25) (d := (some 15)) (by kernel_rfl) hs (([.int .i64 0] : List Value) ++ enc .u64 (zeroA 25) ++ ([.int .i64 0, .bool false] : List Value)) (.agg (([.int .i64 0] : List Value) ++ enc .u64 (zeroA 25) ++ ([.int .i64 0, .bool false] : List Value)).toArray) (by kernel_rfl) (by kernel_rfl) (by kernel_rfl) ?_)
          intro b30 w gw hs
          refine ⟨fun _ => trivial, ?_⟩
          refine wpS.only 11 (op_storeW (t := 25) (v := .agg (([.int .i64 r28_0] : List Value) ++ enc .u64 r28_1 ++ ([.int .i64 r28_2, .bool r28_3] : List Value)).toArray) (d := none) (by kernel_rfl) hs 0 rfl (vs := ([.int .i64 r28_0] : List Value) ++ enc .u64 r28_1 ++ ([.int .i64 r28_2, .bool r28_3] : List Value)) (n := 28) (by kernel_rfl) (by kernel_rfl) (by kernel_rfl) (by simp [enc_len]) (by simp [enc_len]) (one_app (one_app (by simp [Value.oneCell']) (fun u hu => enc_one _ _ u hu)) (by simp [Value.oneCell'])) ?_)
          intro w kp hs
          refine ⟨fun _ => trivial, ?_⟩
          refine wpS.take 12 false (some 16) (.slice r29_A r29_n r29_c) (by kernel_rfl) (yld fun _ => by kernel_rfl) ?_
          refine wpS.fin rfl (kr _ _ ?_)
          refine then_n (ks15 _ _ ?_)
          refine wp_seq_k fun KS16 ks16 => ?_
          refine wp_regG [] (fun k => True) 32 (by kernel_rfl) (by kernel_rfl) fun KR kr => ?_
          have hs := hs.drawn1
          refine wpG.takeD 0 true (some 71) (.agg (([.int .i64 r25_0] : List Value) ++ enc .u64 r25_1 ++ ([.int .i64 r25_2, .bool r25_3] : List Value)).toArray) (by kernel_rfl) (by kernel_rfl) (yld_loadW (e := 25) (n := 28) hs 2 rfl (by kernel_rfl) (by kernel_rfl) (by kernel_rfl) (by simp [enc_len]) .grow) ?_
          refine wpG.takeD 1 true (some 72) (.agg (([.int .i64 r28_0] : List Value) ++ enc .u64 r28_1 ++ ([.int .i64 r28_2, .bool r28_3] : List Value)).toArray) (by kernel_rfl) (by kernel_rfl) (yld_loadW (e := 25) (n := 28) hs 0 rfl (by kernel_rfl) (by kernel_rfl) (by kernel_rfl) (by simp [enc_len]) .grow) ?_
          rcases of_ifb h with ⟨hc, h⟩ | ⟨hc, h⟩
          · refine wpG.takeD 2 false (some 73) (.bool true) (by kernel_rfl) (by kernel_rfl) (yld_bb hc (yld_eqS (fs := [Field.mk "Kind" 3 0 false "" "" 0, Field.mk "Words" 23 1 false "" "" 8, Field.mk "At" 3 26 false "" "" 208, Field.mk "Out" 4 27 false "" "" 216]) (xs := ([.int .i64 r25_0] : List Value) ++ enc .u64 r25_1 ++ ([.int .i64 r25_2, .bool r25_3] : List Value)) (ys := ([.int .i64 r28_0] : List Value) ++ enc .u64 r28_1 ++ ([.int .i64 r28_2, .bool r28_3] : List Value)) (t := 25) (.tmp 71) (.tmp 72) (by kernel_rfl) (by kernel_rfl) (by kernel_rfl) (by kernel_rfl) (.cons rfl (fun w => Go.Mx.run_part1 (by kernel_rfl) (List.getElem?_toArray.trans (get_pre rfl))) (fun w => Go.Mx.run_part1 (by kernel_rfl) (List.getElem?_toArray.trans (get_pre rfl))) (fun w => Go.Mx.run_equalIn_int (by kernel_rfl)) (.cons rfl (fun w => Go.Mx.run_partN (by kernel_rfl) (by kernel_rfl) (mid_of rfl)) (fun w => Go.Mx.run_partN (by kernel_rfl) (by kernel_rfl) (mid_of rfl)) (fun w => Go.Mx.run_equalA (e := 22) (by kernel_rfl) (by kernel_rfl) (by kernel_rfl) (by kernel_rfl)) (.cons rfl (fun w => Go.Mx.run_part1 (by kernel_rfl) (List.getElem?_toArray.trans (get_post 0 rfl rfl))) (fun w => Go.Mx.run_part1 (by kernel_rfl) (List.getElem?_toArray.trans (get_post 0 rfl rfl))) (fun w => Go.Mx.run_equalIn_int (by kernel_rfl)) (.cons rfl (fun w => Go.Mx.run_part1 (by kernel_rfl) (List.getElem?_toArray.trans (get_post 1 rfl rfl))) (fun w => Go.Mx.run_part1 (by kernel_rfl) (List.getElem?_toArray.trans (get_post 1 rfl rfl))) (fun w => Go.Mx.run_equalIn_bool (by kernel_rfl)) .nil)))))) ?_
            refine wpG.takeD 3 false (some 74) (.bool true) (by kernel_rfl) (by kernel_rfl) (yld fun _ => by kernel_rfl) ?_
            refine wpG.takeD 4 false (some 75) (.slice r23_A r23_n r23_c) (by kernel_rfl) (by kernel_rfl) (yld fun _ => by kernel_rfl) ?_
            refine wpG.takeD 5 false (some 76) (.slice r26_A r26_n r26_c) (by kernel_rfl) (by kernel_rfl) (yld fun _ => by kernel_rfl) ?_
            refine wpG.takeD 8 false (some 79) (.slice r29_A r29_n r29_c) (by kernel_rfl) (by kernel_rfl) (yld fun _ => by kernel_rfl) ?_
            refine wpG.only 6 (by kernel_rfl) (op_lit (C := CS) (t := 35) (e := 26) (len := 2) (parts := #[(0, .slice r23_A r23_n r23_c), (1, .slice r26_A r26_n r26_c)]) (l := ([(r23_A, r23_n, r23_c), (r26_A, r26_n, r26_c)] : List HS)) (d := (some 77)) (by kernel_rfl) hs (by kernel_rfl) (by kernel_rfl) (by kernel_rfl) (z := .slice none 0 0) (by kernel_rfl) rfl (by decide) (by decide) (by kernel_rfl) ?_)
            intro s31_A s31_n s31_c w gw hs
            refine ⟨.of gw, ?_⟩
            obtain ⟨r32, hg, h⟩ := of_bind h
            refine wpG.only 7 (by kernel_rfl) (op_callH (d := (some 78)) (by kernel_rfl) hs (fun _ => by kernel_rfl) (ref01_Join.ok hg _ (LLP.mk (hs.rowL 0 rfl) (inn_cons (hs.rowL 6 rfl) (inn_cons (hs.rowL 4 rfl) inn_nil)))) ?_)
            rintro ⟨r32_A, r32_n, r32_c⟩ w gw hs
            have hs := hs.conv (L' := [.ownL (CI .u8) r32_A r32_n r32_c r32 5, .ownL CS s31_A s31_n s31_c ([(r23_A, r23_n, r23_c), (r26_A, r26_n, r26_c)] : List HS) 26, .blk b30 (([.int .i64 r28_0] : List Value) ++ enc .u64 r28_1 ++ ([.int .i64 r28_2, .bool r28_3] : List Value)) 25, .ownL (CI .u8) r29_A r29_n r29_c r29 5, .blk b27 (([.int .i64 r25_0] : List Value) ++ enc .u64 r25_1 ++ ([.int .i64 r25_2, .bool r25_3] : List Value)) 25, .ownL (CI .u8) r26_A r26_n r26_c r26 5, .blk b24 (([.int .i64 r22_0] : List Value) ++ enc .u64 r22_1 ++ ([.int .i64 r22_2, .bool r22_3] : List Value)) 25, .ownL (CI .u8) r23_A r23_n r23_c r23 5, .blk b1 (([.int .i64 a0_0] : List Value) ++ enc .u64 a0_1 ++ ([.int .i64 a0_2, .bool a0_3] : List Value)) 25]) rfl
            refine ⟨.of gw, ?_⟩
            obtain ⟨r33, hg, h⟩ := of_bind h
            cases r33 with
            | true =>
              have h := of_if_t h
              refine wpG.only 9 (by kernel_rfl) (op_call (d := (some 80)) (by kernel_rfl) hs (fun _ => by kernel_rfl) (ref01_Same.ok hg _ (hs.rowL 0 rfl) (hs.rowL 3 rfl)) ?_)
              intro w gw hs
              refine ⟨.of gw, ?_⟩
              refine wpG.takeD 10 false (some 81) (.bool true) (by kernel_rfl) (by kernel_rfl) (yld fun _ => by kernel_rfl) ?_
              refine wpG.takeD 11 false (some 82) (.bool true) (by kernel_rfl) (by kernel_rfl) (yld fun _ => by kernel_rfl) ?_
              refine wpG.takeD 12 true (some 83) (.agg (([.int .i64 r22_0] : List Value) ++ enc .u64 r22_1 ++ ([.int .i64 r22_2, .bool r22_3] : List Value)).toArray) (by kernel_rfl) (by kernel_rfl) (yld_loadW (e := 25) (n := 28) hs 6 rfl (by kernel_rfl) (by kernel_rfl) (by kernel_rfl) (by simp [enc_len]) .grow) ?_
              refine wpG.takeD 13 false (some 84) (.slice a1_A a1_n a1_c) (by kernel_rfl) (by kernel_rfl) (yld fun _ => by kernel_rfl) ?_
              refine wpG.takeD 15 true (some 86) (.agg (([.int .i64 r22_0] : List Value) ++ enc .u64 r22_1 ++ ([.int .i64 r22_2, .bool r22_3] : List Value)).toArray) (by kernel_rfl) (by kernel_rfl) (yld_loadW (e := 25) (n := 28) hs 6 rfl (by kernel_rfl) (by kernel_rfl) (by kernel_rfl) (by simp [enc_len]) .grow) ?_
              obtain ⟨⟨r34_0, r34_1, r34_2, r34_3⟩, hg, h⟩ := of_bind h
              refine wpG.only 14 (by kernel_rfl) (op_call (d := (some 85)) (by kernel_rfl) hs (fun _ => by kernel_rfl) (keccak_Absorb.ok hg _ (hs.rowR 0 rfl) (hs.rowR 2 rfl) (hs.rowR 3 rfl) (hs.rowR 4 rfl)) ?_)
              intro w gw hs
              refine ⟨.of gw, ?_⟩
              rcases of_ifb h with ⟨hc, h⟩ | ⟨hc, h⟩
              · refine wpG.takeD 16 false (some 87) (.bool true) (by kernel_rfl) (by kernel_rfl) (yld_bb hc (yld_eqS (fs := [Field.mk "Kind" 3 0 false "" "" 0, Field.mk "Words" 23 1 false "" "" 8, Field.mk "At" 3 26 false "" "" 208, Field.mk "Out" 4 27 false "" "" 216]) (xs := ([.int .i64 r34_0] : List Value) ++ enc .u64 r34_1 ++ ([.int .i64 r34_2, .bool r34_3] : List Value)) (ys := ([.int .i64 r22_0] : List Value) ++ enc .u64 r22_1 ++ ([.int .i64 r22_2, .bool r22_3] : List Value)) (t := 25) (.tmp 85) (.tmp 86) (by kernel_rfl) (by kernel_rfl) (by kernel_rfl) (by kernel_rfl) (.cons rfl (fun w => Go.Mx.run_part1 (by kernel_rfl) (List.getElem?_toArray.trans (get_pre rfl))) (fun w => Go.Mx.run_part1 (by kernel_rfl) (List.getElem?_toArray.trans (get_pre rfl))) (fun w => Go.Mx.run_equalIn_int (by kernel_rfl)) (.cons rfl (fun w => Go.Mx.run_partN (by kernel_rfl) (by kernel_rfl) (mid_of rfl)) (fun w => Go.Mx.run_partN (by kernel_rfl) (by kernel_rfl) (mid_of rfl)) (fun w => Go.Mx.run_equalA (e := 22) (by kernel_rfl) (by kernel_rfl) (by kernel_rfl) (by kernel_rfl)) (.cons rfl (fun w => Go.Mx.run_part1 (by kernel_rfl) (List.getElem?_toArray.trans (get_post 0 rfl rfl))) (fun w => Go.Mx.run_part1 (by kernel_rfl) (List.getElem?_toArray.trans (get_post 0 rfl rfl))) (fun w => Go.Mx.run_equalIn_int (by kernel_rfl)) (.cons rfl (fun w => Go.Mx.run_part1 (by kernel_rfl) (List.getElem?_toArray.trans (get_post 1 rfl rfl))) (fun w => Go.Mx.run_part1 (by kernel_rfl) (List.getElem?_toArray.trans (get_post 1 rfl rfl))) (fun w => Go.Mx.run_equalIn_bool (by kernel_rfl)) .nil)))))) ?_
                refine wpG.takeD 17 false (some 88) (.bool true) (by kernel_rfl) (by kernel_rfl) (yld fun _ => by kernel_rfl) ?_
                refine wpG.takeD 18 false (some 89) (.bool true) (by kernel_rfl) (by kernel_rfl) (yld fun _ => by kernel_rfl) ?_
                refine wpG.takeD 19 false (some 90) (.slice r29_A r29_n r29_c) (by kernel_rfl) (by kernel_rfl) (yld fun _ => by kernel_rfl) ?_
                refine wpG.takeD 20 false (some 91) (.int .i64 (r29.length : Int)) (by kernel_rfl) (by kernel_rfl) (yld_lenL (hs.rowL 3 rfl) (fun _ => by kernel_rfl)) ?_
                refine wpG.takeD 21 false (some 92) (.int .u8 a3) (by kernel_rfl) (by kernel_rfl) (yld fun _ => by kernel_rfl) ?_
                refine wpG.takeD 22 false (some 93) (.int .i64 (iconv .i64 a3)) (by kernel_rfl) (by kernel_rfl) (yld fun _ => by kernel_rfl) ?_
                refine wpG.takeD 23 false (some 94) (.int .u8 a4) (by kernel_rfl) (by kernel_rfl) (yld fun _ => by kernel_rfl) ?_
                refine wpG.takeD 24 false (some 95) (.int .i64 (iconv .i64 a4)) (by kernel_rfl) (by kernel_rfl) (yld fun _ => by kernel_rfl) ?_
                refine wpG.takeD 25 false (some 96) (.int .i64 (iadd .i64 (iconv .i64 a3) (iconv .i64 a4))) (by kernel_rfl) (by kernel_rfl) (yld fun _ => by kernel_rfl) ?_
                rcases of_if h with ⟨hc, h⟩ | ⟨hc, h⟩
                · refine wpG.takeD 26 false (some 97) (.bool true) (by kernel_rfl) (by kernel_rfl) (yld_b (et hc) (fun _ => by kernel_rfl)) ?_
                  refine wpG.takeD 27 false (some 98) (.bool true) (by kernel_rfl) (by kernel_rfl) (yld fun _ => by kernel_rfl) ?_
                  refine wpG.takeD 28 false (some 99) (.bool true) (by kernel_rfl) (by kernel_rfl) (yld fun _ => by kernel_rfl) ?_
                  obtain ⟨r35, hg, h⟩ := of_bind h
                  refine wpG.only 29 (by kernel_rfl) (op_call (d := (some 100)) (by kernel_rfl) hs (fun _ => by kernel_rfl) (law08_awake.ok hg _ (hs.rowR 2 rfl) (hs.rowR 3 rfl) (hs.rowR 4 rfl)) ?_)
                  intro w gw hs
                  refine ⟨.of gw, ?_⟩
                  refine wpG.takeD 30 false (some 101) (.bool r35) (by kernel_rfl) (by kernel_rfl) (yld fun _ => by kernel_rfl) ?_
                  refine wpG.takeD 31 false (some 10) (.bool r35) (by kernel_rfl) (by kernel_rfl) (yld fun _ => by kernel_rfl) ?_
                  refine wpG.fin (by kernel_rfl) rfl (kr _ _ ?_)
                  refine then_n (ks16 _ _ ?_)
                  refine wp_ret ?_
                  have q0 := of_some h
                  subst q0
                  exact qq _ _ (post_ret (by kernel_rfl) (run_results [.tmp 10] [.bool r35] (by kernel_rfl) (.cons (res_tmp (by kernel_rfl)) .nil)) ⟨congrArg Ending.returned (by kernel_rfl), hs.none⟩)
                · refine wpG.takeD 26 false (some 97) (.bool false) (by kernel_rfl) (by kernel_rfl) (yld_b (ef hc) (fun _ => by kernel_rfl)) ?_
                  refine wpG.takeD 27 false (some 98) (.bool false) (by kernel_rfl) (by kernel_rfl) (yld fun _ => by kernel_rfl) ?_
                  refine wpG.takeD 28 false (some 99) (.bool false) (by kernel_rfl) (by kernel_rfl) (yld fun _ => by kernel_rfl) ?_
                  refine wpG.takeD 29 false (some 100) (undef) (by kernel_rfl) (by kernel_rfl) (yld fun _ => by kernel_rfl) ?_
                  refine wpG.takeD 30 false (some 101) (.bool false) (by kernel_rfl) (by kernel_rfl) (yld fun _ => by kernel_rfl) ?_
                  refine wpG.takeD 31 false (some 10) (.bool false) (by kernel_rfl) (by kernel_rfl) (yld fun _ => by kernel_rfl) ?_
                  refine wpG.fin (by kernel_rfl) rfl (kr _ _ ?_)
                  refine then_n (ks16 _ _ ?_)
                  refine wp_ret ?_
                  have q0 := of_some h
                  subst q0
                  exact qq _ _ (post_ret (by kernel_rfl) (run_results [.tmp 10] [.bool false] (by kernel_rfl) (.cons (res_tmp (by kernel_rfl)) .nil)) ⟨congrArg Ending.returned (by kernel_rfl), hs.none⟩)
              · refine wpG.takeD 16 false (some 87) (.bool false) (by kernel_rfl) (by kernel_rfl) (yld_bb hc (yld_eqS (fs := [Field.mk "Kind" 3 0 false "" "" 0, Field.mk "Words" 23 1 false "" "" 8, Field.mk "At" 3 26 false "" "" 208, Field.mk "Out" 4 27 false "" "" 216]) (xs := ([.int .i64 r34_0] : List Value) ++ enc .u64 r34_1 ++ ([.int .i64 r34_2, .bool r34_3] : List Value)) (ys := ([.int .i64 r22_0] : List Value) ++ enc .u64 r22_1 ++ ([.int .i64 r22_2, .bool r22_3] : List Value)) (t := 25) (.tmp 85) (.tmp 86) (by kernel_rfl) (by kernel_rfl) (by kernel_rfl) (by kernel_rfl) (.cons rfl (fun w => Go.Mx.run_part1 (by kernel_rfl) (List.getElem?_toArray.trans (get_pre rfl))) (fun w => Go.Mx.run_part1 (by kernel_rfl) (List.getElem?_toArray.trans (get_pre rfl))) (fun w => Go.Mx.run_equalIn_int (by kernel_rfl)) (.cons rfl (fun w => Go.Mx.run_partN (by kernel_rfl) (by kernel_rfl) (mid_of rfl)) (fun w => Go.Mx.run_partN (by kernel_rfl) (by kernel_rfl) (mid_of rfl)) (fun w => Go.Mx.run_equalA (e := 22) (by kernel_rfl) (by kernel_rfl) (by kernel_rfl) (by kernel_rfl)) (.cons rfl (fun w => Go.Mx.run_part1 (by kernel_rfl) (List.getElem?_toArray.trans (get_post 0 rfl rfl))) (fun w => Go.Mx.run_part1 (by kernel_rfl) (List.getElem?_toArray.trans (get_post 0 rfl rfl))) (fun w => Go.Mx.run_equalIn_int (by kernel_rfl)) (.cons rfl (fun w => Go.Mx.run_part1 (by kernel_rfl) (List.getElem?_toArray.trans (get_post 1 rfl rfl))) (fun w => Go.Mx.run_part1 (by kernel_rfl) (List.getElem?_toArray.trans (get_post 1 rfl rfl))) (fun w => Go.Mx.run_equalIn_bool (by kernel_rfl)) .nil)))))) ?_
                refine wpG.takeD 17 false (some 88) (.bool false) (by kernel_rfl) (by kernel_rfl) (yld fun _ => by kernel_rfl) ?_
                refine wpG.takeD 18 false (some 89) (.bool false) (by kernel_rfl) (by kernel_rfl) (yld fun _ => by kernel_rfl) ?_
                refine wpG.takeD 19 false (some 90) (undef) (by kernel_rfl) (by kernel_rfl) (yld fun _ => by kernel_rfl) ?_
                refine wpG.takeD 20 false (some 91) (undef) (by kernel_rfl) (by kernel_rfl) (yld fun _ => by kernel_rfl) ?_
                refine wpG.takeD 21 false (some 92) (undef) (by kernel_rfl) (by kernel_rfl) (yld fun _ => by kernel_rfl) ?_
                refine wpG.takeD 22 false (some 93) (undef) (by kernel_rfl) (by kernel_rfl) (yld fun _ => by kernel_rfl) ?_
                refine wpG.takeD 23 false (some 94) (undef) (by kernel_rfl) (by kernel_rfl) (yld fun _ => by kernel_rfl) ?_
                refine wpG.takeD 24 false (some 95) (undef) (by kernel_rfl) (by kernel_rfl) (yld fun _ => by kernel_rfl) ?_
                refine wpG.takeD 25 false (some 96) (undef) (by kernel_rfl) (by kernel_rfl) (yld fun _ => by kernel_rfl) ?_
                refine wpG.takeD 26 false (some 97) (undef) (by kernel_rfl) (by kernel_rfl) (yld fun _ => by kernel_rfl) ?_
                refine wpG.takeD 27 false (some 98) (.bool false) (by kernel_rfl) (by kernel_rfl) (yld fun _ => by kernel_rfl) ?_
                refine wpG.takeD 28 false (some 99) (.bool false) (by kernel_rfl) (by kernel_rfl) (yld fun _ => by kernel_rfl) ?_
                refine wpG.takeD 29 false (some 100) (undef) (by kernel_rfl) (by kernel_rfl) (yld fun _ => by kernel_rfl) ?_
                refine wpG.takeD 30 false (some 101) (.bool false) (by kernel_rfl) (by kernel_rfl) (yld fun _ => by kernel_rfl) ?_
                refine wpG.takeD 31 false (some 10) (.bool false) (by kernel_rfl) (by kernel_rfl) (yld fun _ => by kernel_rfl) ?_
                refine wpG.fin (by kernel_rfl) rfl (kr _ _ ?_)
                refine then_n (ks16 _ _ ?_)
                refine wp_ret ?_
                have q0 := of_some h
                subst q0
                exact qq _ _ (post_ret (by kernel_rfl) (run_results [.tmp 10] [.bool false] (by kernel_rfl) (.cons (res_tmp (by kernel_rfl)) .nil)) ⟨congrArg Ending.returned (by kernel_rfl), hs.none⟩)
            | false =>
              have h := of_if_f h
              refine wpG.only 9 (by kernel_rfl) (op_call (d := (some 80)) (by kernel_rfl) hs (fun _ => by kernel_rfl) (ref01_Same.ok hg _ (hs.rowL 0 rfl) (hs.rowL 3 rfl)) ?_)
              intro w gw hs
              refine ⟨.of gw, ?_⟩
              refine wpG.takeD 10 false (some 81) (.bool false) (by kernel_rfl) (by kernel_rfl) (yld fun _ => by kernel_rfl) ?_
              refine wpG.takeD 11 false (some 82) (.bool false) (by kernel_rfl) (by kernel_rfl) (yld fun _ => by kernel_rfl) ?_
              refine wpG.takeD 12 false (some 83) (undef) (by kernel_rfl) (by kernel_rfl) (yld fun _ => by kernel_rfl) ?_
              refine wpG.takeD 13 false (some 84) (undef) (by kernel_rfl) (by kernel_rfl) (yld fun _ => by kernel_rfl) ?_
              refine wpG.takeD 15 false (some 86) (undef) (by kernel_rfl) (by kernel_rfl) (yld fun _ => by kernel_rfl) ?_
              refine wpG.takeD 14 false (some 85) (undef) (by kernel_rfl) (by kernel_rfl) (yld fun _ => by kernel_rfl) ?_
              refine wpG.takeD 16 false (some 87) (undef) (by kernel_rfl) (by kernel_rfl) (yld fun _ => by kernel_rfl) ?_
              refine wpG.takeD 17 false (some 88) (.bool false) (by kernel_rfl) (by kernel_rfl) (yld fun _ => by kernel_rfl) ?_
              refine wpG.takeD 18 false (some 89) (.bool false) (by kernel_rfl) (by kernel_rfl) (yld fun _ => by kernel_rfl) ?_
              refine wpG.takeD 19 false (some 90) (undef) (by kernel_rfl) (by kernel_rfl) (yld fun _ => by kernel_rfl) ?_
              refine wpG.takeD 20 false (some 91) (undef) (by kernel_rfl) (by kernel_rfl) (yld fun _ => by kernel_rfl) ?_
              refine wpG.takeD 21 false (some 92) (undef) (by kernel_rfl) (by kernel_rfl) (yld fun _ => by kernel_rfl) ?_
              refine wpG.takeD 22 false (some 93) (undef) (by kernel_rfl) (by kernel_rfl) (yld fun _ => by kernel_rfl) ?_
              refine wpG.takeD 23 false (some 94) (undef) (by kernel_rfl) (by kernel_rfl) (yld fun _ => by kernel_rfl) ?_
              refine wpG.takeD 24 false (some 95) (undef) (by kernel_rfl) (by kernel_rfl) (yld fun _ => by kernel_rfl) ?_
              refine wpG.takeD 25 false (some 96) (undef) (by kernel_rfl) (by kernel_rfl) (yld fun _ => by kernel_rfl) ?_
              refine wpG.takeD 26 false (some 97) (undef) (by kernel_rfl) (by kernel_rfl) (yld fun _ => by kernel_rfl) ?_
              refine wpG.takeD 27 false (some 98) (.bool false) (by kernel_rfl) (by kernel_rfl) (yld fun _ => by kernel_rfl) ?_
              refine wpG.takeD 28 false (some 99) (.bool false) (by kernel_rfl) (by kernel_rfl) (yld fun _ => by kernel_rfl) ?_
              refine wpG.takeD 29 false (some 100) (undef) (by kernel_rfl) (by kernel_rfl) (yld fun _ => by kernel_rfl) ?_
              refine wpG.takeD 30 false (some 101) (.bool false) (by kernel_rfl) (by kernel_rfl) (yld fun _ => by kernel_rfl) ?_
              refine wpG.takeD 31 false (some 10) (.bool false) (by kernel_rfl) (by kernel_rfl) (yld fun _ => by kernel_rfl) ?_
              refine wpG.fin (by kernel_rfl) rfl (kr _ _ ?_)
              refine then_n (ks16 _ _ ?_)
              refine wp_ret ?_
              have q0 := of_some h
              subst q0
              exact qq _ _ (post_ret (by kernel_rfl) (run_results [.tmp 10] [.bool false] (by kernel_rfl) (.cons (res_tmp (by kernel_rfl)) .nil)) ⟨congrArg Ending.returned (by kernel_rfl), hs.none⟩)
          · refine wpG.takeD 2 false (some 73) (.bool false) (by kernel_rfl) (by kernel_rfl) (yld_bb hc (yld_eqS (fs := [Field.mk "Kind" 3 0 false "" "" 0, Field.mk "Words" 23 1 false "" "" 8, Field.mk "At" 3 26 false "" "" 208, Field.mk "Out" 4 27 false "" "" 216]) (xs := ([.int .i64 r25_0] : List Value) ++ enc .u64 r25_1 ++ ([.int .i64 r25_2, .bool r25_3] : List Value)) (ys := ([.int .i64 r28_0] : List Value) ++ enc .u64 r28_1 ++ ([.int .i64 r28_2, .bool r28_3] : List Value)) (t := 25) (.tmp 71) (.tmp 72) (by kernel_rfl) (by kernel_rfl) (by kernel_rfl) (by kernel_rfl) (.cons rfl (fun w => Go.Mx.run_part1 (by kernel_rfl) (List.getElem?_toArray.trans (get_pre rfl))) (fun w => Go.Mx.run_part1 (by kernel_rfl) (List.getElem?_toArray.trans (get_pre rfl))) (fun w => Go.Mx.run_equalIn_int (by kernel_rfl)) (.cons rfl (fun w => Go.Mx.run_partN (by kernel_rfl) (by kernel_rfl) (mid_of rfl)) (fun w => Go.Mx.run_partN (by kernel_rfl) (by kernel_rfl) (mid_of rfl)) (fun w => Go.Mx.run_equalA (e := 22) (by kernel_rfl) (by kernel_rfl) (by kernel_rfl) (by kernel_rfl)) (.cons rfl (fun w => Go.Mx.run_part1 (by kernel_rfl) (List.getElem?_toArray.trans (get_post 0 rfl rfl))) (fun w => Go.Mx.run_part1 (by kernel_rfl) (List.getElem?_toArray.trans (get_post 0 rfl rfl))) (fun w => Go.Mx.run_equalIn_int (by kernel_rfl)) (.cons rfl (fun w => Go.Mx.run_part1 (by kernel_rfl) (List.getElem?_toArray.trans (get_post 1 rfl rfl))) (fun w => Go.Mx.run_part1 (by kernel_rfl) (List.getElem?_toArray.trans (get_post 1 rfl rfl))) (fun w => Go.Mx.run_equalIn_bool (by kernel_rfl)) .nil)))))) ?_
            refine wpG.takeD 3 false (some 74) (.bool false) (by kernel_rfl) (by kernel_rfl) (yld fun _ => by kernel_rfl) ?_
            refine wpG.takeD 4 false (some 75) (undef) (by kernel_rfl) (by kernel_rfl) (yld fun _ => by kernel_rfl) ?_
            refine wpG.takeD 5 false (some 76) (undef) (by kernel_rfl) (by kernel_rfl) (yld fun _ => by kernel_rfl) ?_
            refine wpG.takeD 8 false (some 79) (undef) (by kernel_rfl) (by kernel_rfl) (yld fun _ => by kernel_rfl) ?_
            refine wpG.takeD 6 false (some 77) (undef) (by kernel_rfl) (by kernel_rfl) (yld fun _ => by kernel_rfl) ?_
            refine wpG.takeD 7 false (some 78) (undef) (by kernel_rfl) (by kernel_rfl) (yld fun _ => by kernel_rfl) ?_
            refine wpG.takeD 9 false (some 80) (undef) (by kernel_rfl) (by kernel_rfl) (yld fun _ => by kernel_rfl) ?_
            refine wpG.takeD 10 false (some 81) (.bool false) (by kernel_rfl) (by kernel_rfl) (yld fun _ => by kernel_rfl) ?_
            refine wpG.takeD 11 false (some 82) (.bool false) (by kernel_rfl) (by kernel_rfl) (yld fun _ => by kernel_rfl) ?_
            refine wpG.takeD 12 false (some 83) (undef) (by kernel_rfl) (by kernel_rfl) (yld fun _ => by kernel_rfl) ?_
            refine wpG.takeD 13 false (some 84) (undef) (by kernel_rfl) (by kernel_rfl) (yld fun _ => by kernel_rfl) ?_
            refine wpG.takeD 15 false (some 86) (undef) (by kernel_rfl) (by kernel_rfl) (yld fun _ => by kernel_rfl) ?_
            refine wpG.takeD 14 false (some 85) (undef) (by kernel_rfl) (by kernel_rfl) (yld fun _ => by kernel_rfl) ?_
            refine wpG.takeD 16 false (some 87) (undef) (by kernel_rfl) (by kernel_rfl) (yld fun _ => by kernel_rfl) ?_
            refine wpG.takeD 17 false (some 88) (.bool false) (by kernel_rfl) (by kernel_rfl) (yld fun _ => by kernel_rfl) ?_
            refine wpG.takeD 18 false (some 89) (.bool false) (by kernel_rfl) (by kernel_rfl) (yld fun _ => by kernel_rfl) ?_
            refine wpG.takeD 19 false (some 90) (undef) (by kernel_rfl) (by kernel_rfl) (yld fun _ => by kernel_rfl) ?_
            refine wpG.takeD 20 false (some 91) (undef) (by kernel_rfl) (by kernel_rfl) (yld fun _ => by kernel_rfl) ?_
            refine wpG.takeD 21 false (some 92) (undef) (by kernel_rfl) (by kernel_rfl) (yld fun _ => by kernel_rfl) ?_
            refine wpG.takeD 22 false (some 93) (undef) (by kernel_rfl) (by kernel_rfl) (yld fun _ => by kernel_rfl) ?_
            refine wpG.takeD 23 false (some 94) (undef) (by kernel_rfl) (by kernel_rfl) (yld fun _ => by kernel_rfl) ?_
            refine wpG.takeD 24 false (some 95) (undef) (by kernel_rfl) (by kernel_rfl) (yld fun _ => by kernel_rfl) ?_
            refine wpG.takeD 25 false (some 96) (undef) (by kernel_rfl) (by kernel_rfl) (yld fun _ => by kernel_rfl) ?_
            refine wpG.takeD 26 false (some 97) (undef) (by kernel_rfl) (by kernel_rfl) (yld fun _ => by kernel_rfl) ?_
            refine wpG.takeD 27 false (some 98) (.bool false) (by kernel_rfl) (by kernel_rfl) (yld fun _ => by kernel_rfl) ?_
            refine wpG.takeD 28 false (some 99) (.bool false) (by kernel_rfl) (by kernel_rfl) (yld fun _ => by kernel_rfl) ?_
            refine wpG.takeD 29 false (some 100) (undef) (by kernel_rfl) (by kernel_rfl) (yld fun _ => by kernel_rfl) ?_
            refine wpG.takeD 30 false (some 101) (.bool false) (by kernel_rfl) (by kernel_rfl) (yld fun _ => by kernel_rfl) ?_
            refine wpG.takeD 31 false (some 10) (.bool false) (by kernel_rfl) (by kernel_rfl) (yld fun _ => by kernel_rfl) ?_
            refine wpG.fin (by kernel_rfl) rfl (kr _ _ ?_)
            refine then_n (ks16 _ _ ?_)
            refine wp_ret ?_
            have q0 := of_some h
            subst q0
            exact qq _ _ (post_ret (by kernel_rfl) (run_results [.tmp 10] [.bool false] (by kernel_rfl) (.cons (res_tmp (by kernel_rfl)) .nil)) ⟨congrArg Ending.returned (by kernel_rfl), hs.none⟩)
  | false =>
    have h := of_if_f h
    refine wpS.only 1 (op_call (d := (some 18)) (by kernel_rfl) hs (fun _ => by kernel_rfl) (ref08_Fit.ok hg _) ?_)
    intro w gw hs
    refine ⟨fun _ => trivial, ?_⟩
    refine wpS.take 2 false (some 19) (.bool true) (by kernel_rfl) (yld fun _ => by kernel_rfl) ?_
    refine wpS.take 3 false (some 20) (.bool true) (by kernel_rfl) (yld fun _ => by kernel_rfl) ?_
    refine wpS.take 4 false (some 21) (undef) (by kernel_rfl) (yld fun _ => by kernel_rfl) ?_
    refine wpS.take 5 false (some 22) (undef) (by kernel_rfl) (yld fun _ => by kernel_rfl) ?_
    refine wpS.take 6 false (some 23) (undef) (by kernel_rfl) (yld fun _ => by kernel_rfl) ?_
    refine wpS.take 7 false (some 24) (undef) (by kernel_rfl) (yld fun _ => by kernel_rfl) ?_
    refine wpS.take 8 false (some 25) (undef) (by kernel_rfl) (yld fun _ => by kernel_rfl) ?_
    refine wpS.take 9 false (some 26) (undef) (by kernel_rfl) (yld fun _ => by kernel_rfl) ?_
    refine wpS.take 10 false (some 27) (.bool true) (by kernel_rfl) (yld fun _ => by kernel_rfl) ?_
    refine wpS.fin rfl (kr _ _ ?_)
    refine then_n (ks6 _ _ ?_)
    refine wp_cond_t (by kernel_rfl) ?_
    refine wp_seq_k fun KS17 ks17 => ?_
    refine wp_regS (l := [0, 1]) (by kernel_rfl) fun KR kr => ?_
    obtain ⟨r36, hg, h⟩ := of_bind h
    refine wpS.only 0 (op_call (d := (some 28)) (by kernel_rfl) hs (fun _ => by kernel_rfl) (law08_awake.ok hg _ (hs.rowR 2 rfl) (hs.rowR 3 rfl) (hs.rowR 4 rfl)) ?_)
    intro w gw hs
    refine ⟨fun _ => trivial, ?_⟩
    refine wpS.take 1 false (some 10) (.bool r36) (by kernel_rfl) (yld fun _ => by kernel_rfl) ?_
    refine wpS.fin rfl (kr _ _ ?_)
    refine then_n (ks17 _ _ ?_)
    refine wp_ret ?_
    refine then_r ?_
    have q0 := of_some h
    subst q0
    exact qq _ _ (post_ret (by kernel_rfl) (run_results [.tmp 10] [.bool r36] (by kernel_rfl) (.cons (res_tmp (by kernel_rfl)) .nil)) ⟨congrArg Ending.returned (by kernel_rfl), hs.none⟩)
end Go.Proofs.YtijahfdldlmnhaaDoor
