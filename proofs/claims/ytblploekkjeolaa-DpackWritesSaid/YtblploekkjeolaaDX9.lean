/- Printed by this work's own program: the code of each function below comes to the answer that its plain form tells. -/
import Derived.Test.YtblploekkjeolaaMj
import Derived.Test.YtblploekkjeolaaProg
import Derived.Test.YtblploekkjeolaaDF0
import Derived.Test.YtblploekkjeolaaDX1
import Derived.Test.YtblploekkjeolaaDX2
import Derived.Test.YtblploekkjeolaaDX3
import Derived.Test.YtblploekkjeolaaDX7
import Derived.Test.YtblploekkjeolaaDX8
set_option linter.unusedVariables false
set_option linter.unusedSimpArgs false
set_option maxRecDepth 100000
set_option maxHeartbeats 4000000
namespace Go.Proofs.Ytblploekkjeolaa
open Go.Mx
attribute [local irreducible] wpOp

theorem ref22_row.ok {K : Nat} {a0 : List (Arr 256)} {a1 : Int} {a2 : Int} {a3 : Int} {r0 : List Int} {r1 : Bool} {a0_A : Option Addr} {a0_n : Nat} {a0_c : Nat} (h : ref22_row.f K a0 a1 a2 a3 = some (r0, r1)) (w0 : World) (hp0 : RowL (CA .i32 256 (by decide)) w0 a0_A a0_n a0_c a0) : Calls Try.prog 41 #[.slice a0_A a0_n a0_c, .int .i64 a1, .int .i32 a2, .int .i32 a3] w0 fun e w' => ∃ h : (Option Addr × Nat × Nat), e = .returned (.tuple #[.slice h.1 h.2.1 h.2.2, .bool r1]) ∧ St w0 [] [.ownL (CI .u8) h.1 h.2.1 h.2.2 r0 5] [] w' := by
  refine calls_k Try.func41 rfl fun Q qq => ?_
  have hs := St.startR (all_cons (RowP.ent hp0) all_nil)
  refine wp_conv (a' := ⟨#[.slice a0_A a0_n a0_c, .int .i64 a1, .int .i32 a2, .int .i32 a3, undef, undef, undef, undef, undef, undef, undef, undef, undef, undef, undef, undef, undef, undef, undef, undef, undef, undef, undef, undef, undef, undef, undef, undef, undef, undef, undef, undef, undef, undef, undef, undef, undef], []⟩) (by kernel_rfl) ?_
  refine xseq_k fun KS1 ks1 => ?_
  refine wp_regS (l := [0, 1]) (by kernel_rfl) (by kernel_rfl) fun KR2 kr2 => ?_
  refine wpS.take 0 false (some 8) (.slice none 0 0) (by kernel_rfl) (yld fun _ => by kernel_rfl) ?_
  refine wpS.take 1 false (some 9) (.bool false) (by kernel_rfl) (yld fun _ => by kernel_rfl) ?_
  refine wpS.fin rfl (kr2 _ _ ?_)
  refine then_n (ks1 _ _ ?_)
  refine xseq_k fun KS3 ks3 => ?_
  refine wp_regS (l := [0]) (by kernel_rfl) (by kernel_rfl) fun KR4 kr4 => ?_
  refine wpS.take 0 false (some 10) (.slice none 0 0) (by kernel_rfl) (yld fun _ => by kernel_rfl) ?_
  refine wpS.fin rfl (kr4 _ _ ?_)
  refine then_n (ks3 _ _ ?_)
  refine xseq_k fun KS106 ks106 => ?_
  refine xseq_k fun KS107 ks107 => ?_
  refine wp_regS (l := [0]) (by kernel_rfl) (by kernel_rfl) fun KR108 kr108 => ?_
  refine wpS.take 0 false (some 11) (.int .i64 0) (by kernel_rfl) (yld fun _ => by kernel_rfl) ?_
  refine wpS.fin rfl (kr108 _ _ ?_)
  refine then_n (ks107 _ _ ?_)
  have hs := hs.addNilL (CI .u8) 5
  obtain ⟨t0, hy, hk0⟩ := of_bind h
  refine wp_exq (N := fun a w => ∃ y3, ∃ (y3_A : Option Addr) (y3_n : Nat) (y3_c : Nat), t0 = .inl y3 ∧ St w0 [] [.ownL (CI .u8) y3_A y3_n y3_c y3 5] [.rowL (CA .i32 256 (by decide)) a0_A a0_n a0_c a0] w ∧ ∃ g : Nat → Value, a = ⟨#[.slice a0_A a0_n a0_c, .int .i64 a1, .int .i32 a2, .int .i32 a3, undef, undef, undef, undef, (g 8), (g 9), .slice y3_A y3_n y3_c, (g 11), (g 12), (g 13), (g 14), (g 15), (g 16), (g 17), (g 18), (g 19), (g 20), (g 21), (g 22), (g 23), (g 24), (g 25), (g 26), (g 27), (g 28), (g 29), (g 30), (g 31), undef, undef, undef, undef, undef], []⟩) (fun N0 nn0 => ?_) ?_
  · refine xblock ?_
    refine wp_loop_k (fun n a w => ∃ z1 z2, ∃ (z2_A : Option Addr) (z2_n : Nat) (z2_c : Nat), ref22_row.l0 K n a0 a2 a3 z1 z2 = some t0 ∧ St w0 [] [.ownL (CI .u8) z2_A z2_n z2_c z2 5] [.rowL (CA .i32 256 (by decide)) a0_A a0_n a0_c a0] w ∧ ∃ g : Nat → Value, a = ⟨#[.slice a0_A a0_n a0_c, .int .i64 a1, .int .i32 a2, .int .i32 a3, undef, undef, undef, undef, (g 8), (g 9), .slice z2_A z2_n z2_c, .int .i64 z1, (g 12), (g 13), (g 14), (g 15), (g 16), (g 17), (g 18), (g 19), (g 20), (g 21), (g 22), (g 23), (g 24), (g 25), (g 26), (g 27), (g 28), (g 29), (g 30), (g 31), undef, undef, undef, undef, undef], []⟩) K ⟨0, ([] : List Int), none, 0, 0, hy, hs.conv rfl, exg (by kernel_rfl)⟩ ?_
    clear hs h hy
    rintro n a w ⟨z1, z2, z2_A, z2_n, z2_c, h, hs, g, rfl⟩ KL0 kl0
    cases n with
    | zero => exact nomatch (show none = some _ from h)
    | succ n =>
      refine xseq_k fun KS177 ks177 => ?_
      refine xseq_k fun KS178 ks178 => ?_
      refine wp_regS (l := [0, 1, 2, 3]) (by kernel_rfl) (by kernel_rfl) fun KR179 kr179 => ?_
      refine wpS.take 0 false (some 13) (.int .i64 z1) (by kernel_rfl) (yld fun _ => by kernel_rfl) ?_
      refine wpS.take 1 false (some 14) (.slice a0_A a0_n a0_c) (by kernel_rfl) (yld fun _ => by kernel_rfl) ?_
      refine wpS.take 2 false (some 15) (.int .i64 (a0.length : Int)) (by kernel_rfl) (yld_lenL (hs.rowR 0 rfl) (fun _ => by kernel_rfl)) ?_
      rcases of_if h with ⟨hc, h⟩ | ⟨hc, h⟩
      · refine wpS.take 3 false (some 16) (.bool true) (by kernel_rfl) (yld_b (dt hc) (fun _ => by kernel_rfl)) ?_
        refine wpS.fin rfl (kr179 _ _ ?_)
        refine then_n (ks178 _ _ ?_)
        refine wp_cond_t (by kernel_rfl) ?_
        refine xskip ?_
        refine then_n (ks177 _ _ ?_)
        refine xseq_k fun KS193 ks193 => ?_
        refine xblock ?_
        refine xseq_k fun KS194 ks194 => ?_
        refine wp_regS (l := [0, 1, 2, 3, 4, 5, 6, 7]) (by kernel_rfl) (by kernel_rfl) fun KR195 kr195 => ?_
        refine wpS.take 0 false (some 19) (.slice a0_A a0_n a0_c) (by kernel_rfl) (yld fun _ => by kernel_rfl) ?_
        refine wpS.take 1 false (some 20) (.int .i64 z1) (by kernel_rfl) (yld fun _ => by kernel_rfl) ?_
        obtain ⟨h0, h⟩ := of_chk h
        obtain ⟨h1, h⟩ := of_chk h
        have i0_196 := h0
        have i1_196 := h1
        refine wpS.take 2 false (some 21) (.pointer (adr a0_A ((z1 : Int).toNat * Cod.size (CA .i32 256 (by decide))))) (by kernel_rfl) (yld_idxL (C := (CA .i32 256 (by decide))) (t := 25) (e := 40) (k := .i64) (x := z1) (hs.rowR 0 rfl) (by kernel_rfl) (by kernel_rfl) (by kernel_rfl) h0 h1) ?_
        refine wpS.take 3 true (some 22) (.agg (enc .i32 (rdL (CA .i32 256 (by decide)) a0 z1)).toArray) (by kernel_rfl) (yld_loadLA (C := (CA .i32 256 (by decide))) (e := 40) (x := z1) (hs.rowR 0 rfl) (by kernel_rfl) rfl (by kernel_rfl) (by kernel_rfl) i0_196 i1_196) ?_
        refine wpS.take 4 false (some 23) (.int .i32 a2) (by kernel_rfl) (yld fun _ => by kernel_rfl) ?_
        refine wpS.take 5 false (some 24) (.int .i32 a3) (by kernel_rfl) (yld fun _ => by kernel_rfl) ?_
        obtain ⟨r4, hg, h⟩ := of_bind h
        refine wpS.only 6 (op_callH (d := (some 25)) (by kernel_rfl) hs (fun _ => by kernel_rfl) (ref22_Pack.ok hg _) ?_)
        rintro ⟨r4_A, r4_n, r4_c⟩ w gw hs
        have hs := hs.conv (L' := [.ownL (CI .u8) r4_A r4_n r4_c r4 5, .ownL (CI .u8) z2_A z2_n z2_c z2 5]) rfl
        refine ⟨fun _ => trivial, ?_⟩
        refine wpS.take 7 false (some 12) (.slice r4_A r4_n r4_c) (by kernel_rfl) (yld fun _ => by kernel_rfl) ?_
        refine wpS.fin rfl (kr195 _ _ ?_)
        refine then_n (ks194 _ _ ?_)
        refine xseq_k fun KS201 ks201 => ?_
        refine xseq_k fun KS202 ks202 => ?_
        refine wp_regS (l := [0, 1, 2]) (by kernel_rfl) (by kernel_rfl) fun KR203 kr203 => ?_
        refine wpS.take 0 false (some 26) (.slice r4_A r4_n r4_c) (by kernel_rfl) (yld fun _ => by kernel_rfl) ?_
        refine wpS.take 1 false (some 27) (.int .i64 (r4.length : Int)) (by kernel_rfl) (yld_lenL (hs.rowL 0 rfl) (fun _ => by kernel_rfl)) ?_
        rcases of_if h with ⟨hc, h⟩ | ⟨hc, h⟩
        · refine wpS.take 2 false (some 28) (.bool true) (by kernel_rfl) (yld_b (et hc) (fun _ => by kernel_rfl)) ?_
          refine wpS.fin rfl (kr203 _ _ ?_)
          refine then_n (ks202 _ _ ?_)
          refine wp_cond_t (by kernel_rfl) ?_
          refine xseq_k fun KS204 ks204 => ?_
          refine wp_regS (l := [0, 1]) (by kernel_rfl) (by kernel_rfl) fun KR205 kr205 => ?_
          refine wpS.take 0 false (some 8) (.slice none 0 0) (by kernel_rfl) (yld fun _ => by kernel_rfl) ?_
          refine wpS.take 1 false (some 9) (.bool false) (by kernel_rfl) (yld fun _ => by kernel_rfl) ?_
          refine wpS.fin rfl (kr205 _ _ ?_)
          refine then_n (ks204 _ _ ?_)
          refine xret ?_
          refine then_r ?_
          refine inBlock_r ?_
          refine then_r ?_
          refine then_r ?_
          refine inBlock_r ?_
          refine exq_r ?_
          refine then_r ?_
          have q0 := of_some h
          subst q0
          obtain ⟨q0, qr0⟩ := Prod.mk.inj (of_some hk0)
          have q1 := qr0
          subst q0
          subst q1
          have hs := hs.addNilL (CI .u8) 5
          exact qq _ _ (post_ret (by kernel_rfl) (run_results [.tmp 8, .tmp 9] [.slice none 0 0, .bool false] (by kernel_rfl) (.cons (res_tmp (by kernel_rfl)) (.cons (res_tmp (by kernel_rfl)) .nil))) ⟨⟨none, 0, 0⟩, congrArg Ending.returned (by kernel_rfl), (((hs.conv (L' := [.ownL (CI .u8) none 0 0 ([] : List Int) 5, .ownL (CI .u8) r4_A r4_n r4_c r4 5, .ownL (CI .u8) z2_A z2_n z2_c z2 5]) rfl).drop (.cons_cons _ (.cons _ (.cons _ .slnil)))).pickR pick_nil)⟩)
        · refine wpS.take 2 false (some 28) (.bool false) (by kernel_rfl) (yld_b (ef hc) (fun _ => by kernel_rfl)) ?_
          refine wpS.fin rfl (kr203 _ _ ?_)
          refine then_n (ks202 _ _ ?_)
          refine wp_cond_f (by kernel_rfl) ?_
          refine xskip ?_
          refine then_n (ks201 _ _ ?_)
          refine wp_regS (l := [0, 1, 2, 3]) (by kernel_rfl) (by kernel_rfl) fun KR206 kr206 => ?_
          refine wpS.take 0 false (some 29) (.slice z2_A z2_n z2_c) (by kernel_rfl) (yld fun _ => by kernel_rfl) ?_
          refine wpS.take 1 false (some 30) (.slice r4_A r4_n r4_c) (by kernel_rfl) (yld fun _ => by kernel_rfl) ?_
          obtain ⟨h0, h⟩ := of_chk h
          refine wpS.only 2 (op_appendT (C := (CI .u8)) (t := 24) (ty := 24) (e := 5) (bytes := 1) (B := 140737488355328) (d := (some 31)) (by kernel_rfl) hs 1 rfl (hs.rowL 0 rfl) (by kernel_rfl) (by kernel_rfl) (by kernel_rfl) (by kernel_rfl) (by kernel_rfl) h0 (by decide) (by decide) ?_)
          intro s5_A s5_n s5_c w hs
          refine ⟨fun _ => trivial, ?_⟩
          refine wpS.take 3 false (some 10) (.slice s5_A s5_n s5_c) (by kernel_rfl) (yld fun _ => by kernel_rfl) ?_
          refine wpS.fin rfl (kr206 _ _ ?_)
          refine inBlock_n ?_
          refine then_n (ks193 _ _ ?_)
          refine wp_regS (l := [0, 1, 2]) (by kernel_rfl) (by kernel_rfl) fun KR207 kr207 => ?_
          refine wpS.take 0 false (some 17) (.int .i64 z1) (by kernel_rfl) (yld fun _ => by kernel_rfl) ?_
          refine wpS.take 1 false (some 18) (.int .i64 (iadd .i64 z1 1)) (by kernel_rfl) (yld fun _ => by kernel_rfl) ?_
          obtain ⟨x6, hx, h⟩ := of_bind h
          refine wpS.take 2 false (some 11) (.int .i64 x6) (by kernel_rfl) (yld_int hx (fun _ => by kernel_rfl)) ?_
          refine wpS.fin rfl (kr207 _ _ ?_)
          exact then_n (kl0 _ _ ⟨n, Nat.lt_succ_self n, x6, (z2 ++ r4), s5_A, s5_n, s5_c, h, ((hs.conv (L' := [.ownL (CI .u8) r4_A r4_n r4_c r4 5, .ownL (CI .u8) s5_A s5_n s5_c (z2 ++ r4) 5]) rfl).drop (.cons _ (.cons_cons _ .slnil))), exg (by kernel_rfl)⟩)
      · refine wpS.take 3 false (some 16) (.bool false) (by kernel_rfl) (yld_b (df hc) (fun _ => by kernel_rfl)) ?_
        refine wpS.fin rfl (kr179 _ _ ?_)
        refine then_n (ks178 _ _ ?_)
        refine wp_cond_f (by kernel_rfl) ?_
        refine xexit ?_
        refine then_x ?_
        refine then_x ?_
        refine inBlock_hit ?_
        have q0 := of_some h
        subst q0
        exact exq_n (nn0 _ _ ⟨z2, z2_A, z2_n, z2_c, rfl, (hs.conv rfl), exg (by kernel_rfl)⟩)
  · clear hs h hy
    rintro a w ⟨y3, y3_A, y3_n, y3_c, rfl, hs, g, rfl⟩
    have h := hk0
    refine then_n (ks106 _ _ ?_)
    refine xseq_k fun KS208 ks208 => ?_
    refine wp_regS (l := [0, 1, 2, 3, 4, 5, 6]) (by kernel_rfl) (by kernel_rfl) fun KR209 kr209 => ?_
    refine wpS.take 0 false (some 32) (.slice y3_A y3_n y3_c) (by kernel_rfl) (yld fun _ => by kernel_rfl) ?_
    refine wpS.take 1 false (some 33) (.slice a0_A a0_n a0_c) (by kernel_rfl) (yld fun _ => by kernel_rfl) ?_
    refine wpS.take 2 false (some 34) (.int .i64 (a0.length : Int)) (by kernel_rfl) (yld_lenL (hs.rowR 0 rfl) (fun _ => by kernel_rfl)) ?_
    refine wpS.take 3 false (some 35) (.int .i64 a1) (by kernel_rfl) (yld fun _ => by kernel_rfl) ?_
    refine wpS.take 4 false (some 36) (.bool ((a0.length : Int) == a1)) (by kernel_rfl) (yld fun _ => by kernel_rfl) ?_
    refine wpS.take 5 false (some 8) (.slice y3_A y3_n y3_c) (by kernel_rfl) (yld fun _ => by kernel_rfl) ?_
    refine wpS.take 6 false (some 9) (.bool ((a0.length : Int) == a1)) (by kernel_rfl) (yld fun _ => by kernel_rfl) ?_
    refine wpS.fin rfl (kr209 _ _ ?_)
    refine then_n (ks208 _ _ ?_)
    refine xret ?_
    obtain ⟨q0, qr0⟩ := Prod.mk.inj (of_some h)
    have q1 := qr0
    subst q0
    subst q1
    exact qq _ _ (post_ret (by kernel_rfl) (run_results [.tmp 8, .tmp 9] [.slice y3_A y3_n y3_c, .bool ((a0.length : Int) == a1)] (by kernel_rfl) (.cons (res_tmp (by kernel_rfl)) (.cons (res_tmp (by kernel_rfl)) .nil))) ⟨⟨y3_A, y3_n, y3_c⟩, congrArg Ending.returned (by kernel_rfl), ((hs.conv (L' := [.ownL (CI .u8) y3_A y3_n y3_c y3 5]) rfl).pickR pick_nil)⟩)

theorem ref01_Join.ok {K : Nat} {a0 : List (List Int)} {r0 : List Int} {a0_A : Option Addr} {a0_n : Nat} {a0_c : Nat} {a0_H : List HS} (h : ref01_Join.f K a0 = some r0) (w0 : World) (hp0 : LLP (CI .u8) w0 a0_A a0_n a0_c a0_H a0) : Calls Try.prog 43 #[.slice a0_A a0_n a0_c] w0 fun e w' => ∃ h : (Option Addr × Nat × Nat), e = .returned (.slice h.1 h.2.1 h.2.2) ∧ St w0 [] [.ownL (CI .u8) h.1 h.2.1 h.2.2 r0 5] [] w' := by
  refine calls_k Try.func43 rfl fun Q qq => ?_
  have hs := St.startR (all_cons (LLP.ent hp0) all_nil)
  refine wp_conv (a' := ⟨#[.slice a0_A a0_n a0_c, undef, undef, undef, undef, undef, undef, undef, undef, undef, undef, undef, undef, undef, undef, undef, undef, undef], []⟩) (by kernel_rfl) ?_
  refine xseq_k fun KS1 ks1 => ?_
  refine wp_regS (l := [0]) (by kernel_rfl) (by kernel_rfl) fun KR2 kr2 => ?_
  refine wpS.take 0 false (some 2) (.slice none 0 0) (by kernel_rfl) (yld fun _ => by kernel_rfl) ?_
  refine wpS.fin rfl (kr2 _ _ ?_)
  refine then_n (ks1 _ _ ?_)
  refine xseq_k fun KS3 ks3 => ?_
  refine wp_regS (l := [0]) (by kernel_rfl) (by kernel_rfl) fun KR4 kr4 => ?_
  refine wpS.take 0 false (some 3) (.slice none 0 0) (by kernel_rfl) (yld fun _ => by kernel_rfl) ?_
  refine wpS.fin rfl (kr4 _ _ ?_)
  refine then_n (ks3 _ _ ?_)
  refine xseq_k fun KS34 ks34 => ?_
  refine xseq_k fun KS35 ks35 => ?_
  refine wp_regS (l := [0]) (by kernel_rfl) (by kernel_rfl) fun KR36 kr36 => ?_
  refine wpS.take 0 false (some 4) (.int .i64 0) (by kernel_rfl) (yld fun _ => by kernel_rfl) ?_
  refine wpS.fin rfl (kr36 _ _ ?_)
  refine then_n (ks35 _ _ ?_)
  have hs := hs.addNilL (CI .u8) 5
  obtain ⟨y3, hy, hk0⟩ := of_bind h
  refine wp_exq (N := fun a w => ∃ (y3_A : Option Addr) (y3_n : Nat) (y3_c : Nat), St w0 [] [.ownL (CI .u8) y3_A y3_n y3_c y3 5] [.rowLL (CI .u8) a0_A a0_n a0_c a0_H a0] w ∧ ∃ g : Nat → Value, a = ⟨#[.slice a0_A a0_n a0_c, undef, .slice none 0 0, .slice y3_A y3_n y3_c, (g 4), (g 5), (g 6), (g 7), (g 8), (g 9), (g 10), (g 11), (g 12), (g 13), (g 14), (g 15), (g 16), undef], []⟩) (fun N0 nn0 => ?_) ?_
  · clear hk0
    refine xblock ?_
    refine wp_loop_k (fun n a w => ∃ z1 z2, ∃ (z2_A : Option Addr) (z2_n : Nat) (z2_c : Nat), ref01_Join.l0 K n a0 z1 z2 = some y3 ∧ St w0 [] [.ownL (CI .u8) z2_A z2_n z2_c z2 5] [.rowLL (CI .u8) a0_A a0_n a0_c a0_H a0] w ∧ ∃ g : Nat → Value, a = ⟨#[.slice a0_A a0_n a0_c, undef, .slice none 0 0, .slice z2_A z2_n z2_c, .int .i64 z1, (g 5), (g 6), (g 7), (g 8), (g 9), (g 10), (g 11), (g 12), (g 13), (g 14), (g 15), (g 16), undef], []⟩) K ⟨0, ([] : List Int), none, 0, 0, hy, hs.conv rfl, exg (by kernel_rfl)⟩ ?_
    clear hs h hy
    rintro n a w ⟨z1, z2, z2_A, z2_n, z2_c, h, hs, g, rfl⟩ KL0 kl0
    cases n with
    | zero => exact nomatch (show none = some _ from h)
    | succ n =>
      refine xseq_k fun KS57 ks57 => ?_
      refine xseq_k fun KS58 ks58 => ?_
      refine wp_regS (l := [0, 1, 2, 3]) (by kernel_rfl) (by kernel_rfl) fun KR59 kr59 => ?_
      refine wpS.take 0 false (some 5) (.int .i64 z1) (by kernel_rfl) (yld fun _ => by kernel_rfl) ?_
      refine wpS.take 1 false (some 6) (.slice a0_A a0_n a0_c) (by kernel_rfl) (yld fun _ => by kernel_rfl) ?_
      refine wpS.take 2 false (some 7) (.int .i64 (a0.length : Int)) (by kernel_rfl) (yld_lenLL (hs.rowLL 0 rfl) (fun _ => by kernel_rfl)) ?_
      rcases of_if h with ⟨hc, h⟩ | ⟨hc, h⟩
      · refine wpS.take 3 false (some 8) (.bool true) (by kernel_rfl) (yld_b (dt hc) (fun _ => by kernel_rfl)) ?_
        refine wpS.fin rfl (kr59 _ _ ?_)
        refine then_n (ks58 _ _ ?_)
        refine wp_cond_t (by kernel_rfl) ?_
        refine xskip ?_
        refine then_n (ks57 _ _ ?_)
        refine xseq_k fun KS60 ks60 => ?_
        refine xblock ?_
        refine wp_regS (l := [0, 1, 2, 3, 4, 5, 6]) (by kernel_rfl) (by kernel_rfl) fun KR61 kr61 => ?_
        refine wpS.take 0 false (some 11) (.slice z2_A z2_n z2_c) (by kernel_rfl) (yld fun _ => by kernel_rfl) ?_
        refine wpS.take 1 false (some 12) (.slice a0_A a0_n a0_c) (by kernel_rfl) (yld fun _ => by kernel_rfl) ?_
        refine wpS.take 2 false (some 13) (.int .i64 z1) (by kernel_rfl) (yld fun _ => by kernel_rfl) ?_
        obtain ⟨h0, h⟩ := of_chk h
        obtain ⟨h1, h⟩ := of_chk h
        have i0_62 := h0
        have i1_62 := h1
        refine wpS.take 3 false (some 14) (.pointer (adr a0_A ((z1 : Int).toNat * Cod.size (CI .u8)))) (by kernel_rfl) (yld_idxLL (C := (CI .u8)) (t := 79) (e := 24) (k := .i64) (x := z1) (hs.rowLL 0 rfl) (by kernel_rfl) (by kernel_rfl) (by kernel_rfl) h0 h1) ?_
        obtain ⟨s4_A, hA⟩ : ∃ A, A = (rdL CS a0_H z1).1 := ⟨_, rfl⟩
        obtain ⟨s4_n, hn⟩ : ∃ n, n = (rdL CS a0_H z1).2.1 := ⟨_, rfl⟩
        obtain ⟨s4_c, hc⟩ : ∃ c, c = (rdL CS a0_H z1).2.2 := ⟨_, rfl⟩
        refine wpS.take 4 true (some 15) (.slice s4_A s4_n s4_c) (by kernel_rfl) (by subst hA hn hc; exact yld_loadLL (C := (CI .u8)) (e := 24) (x := z1) (hs.rowLL 0 rfl) (by kernel_rfl) (by kernel_rfl) i0_62 i1_62) ?_
        have hs := hs.addInn (C := (CI .u8)) 0 rfl i0_62 i1_62 hA hn hc
        obtain ⟨h0, h⟩ := of_chk h
        refine wpS.only 5 (op_appendT (C := (CI .u8)) (t := 24) (ty := 24) (e := 5) (bytes := 1) (B := 140737488355328) (d := (some 16)) (by kernel_rfl) hs 0 rfl (hs.rowR 0 rfl) (by kernel_rfl) (by kernel_rfl) (by kernel_rfl) (by kernel_rfl) (by kernel_rfl) h0 (by decide) (by decide) ?_)
        intro s5_A s5_n s5_c w hs
        refine ⟨fun _ => trivial, ?_⟩
        refine wpS.take 6 false (some 3) (.slice s5_A s5_n s5_c) (by kernel_rfl) (yld fun _ => by kernel_rfl) ?_
        refine wpS.fin rfl (kr61 _ _ ?_)
        refine inBlock_n ?_
        refine then_n (ks60 _ _ ?_)
        refine wp_regS (l := [0, 1, 2]) (by kernel_rfl) (by kernel_rfl) fun KR63 kr63 => ?_
        refine wpS.take 0 false (some 9) (.int .i64 z1) (by kernel_rfl) (yld fun _ => by kernel_rfl) ?_
        refine wpS.take 1 false (some 10) (.int .i64 (iadd .i64 z1 1)) (by kernel_rfl) (yld fun _ => by kernel_rfl) ?_
        obtain ⟨x6, hx, h⟩ := of_bind h
        refine wpS.take 2 false (some 4) (.int .i64 x6) (by kernel_rfl) (yld_int hx (fun _ => by kernel_rfl)) ?_
        refine wpS.fin rfl (kr63 _ _ ?_)
        exact then_n (kl0 _ _ ⟨n, Nat.lt_succ_self n, x6, (z2 ++ (rdLL a0 z1)), s5_A, s5_n, s5_c, h, ((hs.conv (L' := [.ownL (CI .u8) s5_A s5_n s5_c (z2 ++ (rdLL a0 z1)) 5]) rfl).pickR (pick_cons 1 rfl pick_nil)), exg (by kernel_rfl)⟩)
      · refine wpS.take 3 false (some 8) (.bool false) (by kernel_rfl) (yld_b (df hc) (fun _ => by kernel_rfl)) ?_
        refine wpS.fin rfl (kr59 _ _ ?_)
        refine then_n (ks58 _ _ ?_)
        refine wp_cond_f (by kernel_rfl) ?_
        refine xexit ?_
        refine then_x ?_
        refine then_x ?_
        refine inBlock_hit ?_
        have q0 := of_some h
        subst q0
        exact exq_n (nn0 _ _ ⟨z2_A, z2_n, z2_c, (hs.conv rfl), exg (by kernel_rfl)⟩)
  · clear hs h hy
    rintro a w ⟨y3_A, y3_n, y3_c, hs, g, rfl⟩
    have h := hk0
    refine then_n (ks34 _ _ ?_)
    refine xseq_k fun KS64 ks64 => ?_
    refine wp_regS (l := [0, 1]) (by kernel_rfl) (by kernel_rfl) fun KR65 kr65 => ?_
    refine wpS.take 0 false (some 17) (.slice y3_A y3_n y3_c) (by kernel_rfl) (yld fun _ => by kernel_rfl) ?_
    refine wpS.take 1 false (some 2) (.slice y3_A y3_n y3_c) (by kernel_rfl) (yld fun _ => by kernel_rfl) ?_
    refine wpS.fin rfl (kr65 _ _ ?_)
    refine then_n (ks64 _ _ ?_)
    refine xret ?_
    have q0 := of_some h
    subst q0
    exact qq _ _ (post_ret (by kernel_rfl) (run_results [.tmp 2] [.slice y3_A y3_n y3_c] (by kernel_rfl) (.cons (res_tmp (by kernel_rfl)) .nil)) ⟨⟨y3_A, y3_n, y3_c⟩, congrArg Ending.returned (by kernel_rfl), ((hs.conv (L' := [.ownL (CI .u8) y3_A y3_n y3_c y3 5]) rfl).pickR pick_nil)⟩)

theorem ref22_Public.ok {K : Nat} {a0_0 : Int} {a0_1 : Int} {a0_2 : Int} {a0_3 : Int} {a0_4 : Int} {a0_5 : Int} {a0_6 : Int} {a0_7 : Int} {a1_0 : List Int} {a1_1 : List (Arr 256)} {r0 : List Int} {a1_0_A : Option Addr} {a1_0_n : Nat} {a1_0_c : Nat} {a1_1_A : Option Addr} {a1_1_n : Nat} {a1_1_c : Nat} (h : ref22_Public.f K a0_0 a0_1 a0_2 a0_3 a0_4 a0_5 a0_6 a0_7 a1_0 a1_1 = some r0) (w0 : World) (hp1_0 : RowL (CI .u8) w0 a1_0_A a1_0_n a1_0_c a1_0) (hp1_1 : RowL (CA .i32 256 (by decide)) w0 a1_1_A a1_1_n a1_1_c a1_1) : Calls Try.prog 11 #[.agg #[.int .i64 a0_0, .int .i64 a0_1, .int .i32 a0_2, .int .i64 a0_3, .int .i32 a0_4, .int .i32 a0_5, .int .i64 a0_6, .int .i64 a0_7], .agg #[.slice a1_0_A a1_0_n a1_0_c, .slice a1_1_A a1_1_n a1_1_c]] w0 fun e w' => ∃ h : (Option Addr × Nat × Nat), e = .returned (.slice h.1 h.2.1 h.2.2) ∧ St w0 [] [.ownL (CI .u8) h.1 h.2.1 h.2.2 r0 5] [] w' := by
  refine calls_k Try.func11 rfl fun Q qq => ?_
  have hs := St.startR (all_cons (RowP.ent hp1_0) (all_cons (RowP.ent hp1_1) all_nil))
  refine wp_conv (a' := ⟨#[.agg #[.int .i64 a0_0, .int .i64 a0_1, .int .i32 a0_2, .int .i64 a0_3, .int .i32 a0_4, .int .i32 a0_5, .int .i64 a0_6, .int .i64 a0_7], .agg #[.slice a1_0_A a1_0_n a1_0_c, .slice a1_1_A a1_1_n a1_1_c], undef, undef, undef, undef, undef, undef, undef, undef, undef, undef, undef, undef, undef, undef, undef, undef, undef, undef, undef, undef, undef, undef, undef, undef, undef, undef, undef, undef, undef, undef, undef], []⟩) (by kernel_rfl) ?_
  refine xseq_k fun KS1 ks1 => ?_
  refine wp_regS (l := [0, 1, 2]) (by kernel_rfl) (by kernel_rfl) fun KR2 kr2 => ?_
  refine wpS.only 0 (op_box (t := 23) (v := .agg #[.int .i64 a0_0, .int .i64 a0_1, .int .i32 a0_2, .int .i64 a0_3, .int .i32 a0_4, .int .i32 a0_5, .int .i64 a0_6, .int .i64 a0_7]) (d := (some 2)) (by kernel_rfl) hs ([.int .i64 a0_0, .int .i64 a0_1, .int .i32 a0_2, .int .i64 a0_3, .int .i32 a0_4, .int .i32 a0_5, .int .i64 a0_6, .int .i64 a0_7]) (by kernel_rfl) (by kernel_rfl) ?_)
  intro b1 w gw hs
  refine ⟨fun _ => trivial, ?_⟩
  refine wpS.only 1 (op_box (t := 27) (v := .agg #[.slice a1_0_A a1_0_n a1_0_c, .slice a1_1_A a1_1_n a1_1_c]) (d := (some 3)) (by kernel_rfl) hs ([.slice a1_0_A a1_0_n a1_0_c, .slice a1_1_A a1_1_n a1_1_c]) (by kernel_rfl) (by kernel_rfl) ?_)
  intro b2 w gw hs
  refine ⟨fun _ => trivial, ?_⟩
  refine wpS.take 2 false (some 4) (.slice none 0 0) (by kernel_rfl) (yld fun _ => by kernel_rfl) ?_
  refine wpS.fin rfl (kr2 _ _ ?_)
  refine then_n (ks1 _ _ ?_)
  refine xseq_k fun KS3 ks3 => ?_
  refine wp_regS (l := [0, 1, 2, 3, 4, 5, 6, 7, 8, 9]) (by kernel_rfl) (by kernel_rfl) fun KR4 kr4 => ?_
  refine wpS.take 0 false (some 8) (.pointer (some ⟨b2, 1, none⟩)) (by kernel_rfl) (yld fun _ => by kernel_rfl) ?_
  refine wpS.take 1 true (some 9) (.slice a1_1_A a1_1_n a1_1_c) (by kernel_rfl) (yld_load1 (e := 25) (o := 1) hs 0 rfl (by kernel_rfl) (by kernel_rfl) (by rfl) .grow) ?_
  refine wpS.take 2 false (some 10) (.pointer (some ⟨b1, 0, none⟩)) (by kernel_rfl) (yld fun _ => by kernel_rfl) ?_
  refine wpS.take 3 true (some 11) (.int .i64 a0_0) (by kernel_rfl) (yld_load1 (e := 3) (o := 0) hs 1 rfl (by kernel_rfl) (by kernel_rfl) (by rfl) .grow) ?_
  obtain ⟨⟨r3, r4⟩, hg, h⟩ := of_bind h
  refine wpS.only 4 (op_callH (d := (some 12)) (by kernel_rfl) hs (fun _ => by kernel_rfl) (ref22_row.ok hg _ (hs.rowR 1 rfl)) ?_)
  rintro ⟨r3_A, r3_n, r3_c⟩ w gw hs
  have hs := hs.conv (L' := [.ownL (CI .u8) r3_A r3_n r3_c r3 5, .blk b2 ([.slice a1_0_A a1_0_n a1_0_c, .slice a1_1_A a1_1_n a1_1_c]) 27, .blk b1 ([.int .i64 a0_0, .int .i64 a0_1, .int .i32 a0_2, .int .i64 a0_3, .int .i32 a0_4, .int .i32 a0_5, .int .i64 a0_6, .int .i64 a0_7]) 23]) rfl
  refine ⟨fun _ => trivial, ?_⟩
  refine wpS.take 5 false (some 7) (.tuple #[.slice r3_A r3_n r3_c, .bool r4]) (by kernel_rfl) (yld fun _ => by kernel_rfl) ?_
  refine wpS.take 6 false (some 13) (.slice r3_A r3_n r3_c) (by kernel_rfl) (yld fun _ => by kernel_rfl) ?_
  cases r4 with
  | true =>
    have h := of_if_t h
    refine wpS.take 7 false (some 14) (.bool true) (by kernel_rfl) (yld fun _ => by kernel_rfl) ?_
    refine wpS.take 8 false (some 5) (.slice r3_A r3_n r3_c) (by kernel_rfl) (yld fun _ => by kernel_rfl) ?_
    refine wpS.take 9 false (some 6) (.bool true) (by kernel_rfl) (yld fun _ => by kernel_rfl) ?_
    refine wpS.fin rfl (kr4 _ _ ?_)
    refine then_n (ks3 _ _ ?_)
    refine xseq_k fun KS11 ks11 => ?_
    refine xseq_k fun KS12 ks12 => ?_
    refine wp_regS (l := [0, 1, 2, 3, 4, 5, 6, 7, 8, 9, 10, 11, 12]) (by kernel_rfl) (by kernel_rfl) fun KR13 kr13 => ?_
    refine wpS.take 0 true (some 15) (.agg #[.int .i64 a0_0, .int .i64 a0_1, .int .i32 a0_2, .int .i64 a0_3, .int .i32 a0_4, .int .i32 a0_5, .int .i64 a0_6, .int .i64 a0_7]) (by kernel_rfl) (yld_loadW (e := 23) (n := 8) hs 2 rfl (by kernel_rfl) (by kernel_rfl) (by kernel_rfl) (by simp [enc_len]) .grow) ?_
    obtain ⟨r5, hg, h⟩ := of_bind h
    cases r5 with
    | true =>
      have h := of_if_t h
      refine wpS.only 1 (op_call (d := (some 16)) (by kernel_rfl) hs (fun _ => by kernel_rfl) (ref22_Known.ok hg _) ?_)
      intro w gw hs
      refine ⟨fun _ => trivial, ?_⟩
      refine wpS.take 2 false (some 17) (.bool false) (by kernel_rfl) (yld fun _ => by kernel_rfl) ?_
      refine wpS.take 3 false (some 18) (.bool false) (by kernel_rfl) (yld fun _ => by kernel_rfl) ?_
      refine wpS.take 4 false (some 19) (.bool true) (by kernel_rfl) (yld fun _ => by kernel_rfl) ?_
      refine wpS.take 5 false (some 20) (.bool false) (by kernel_rfl) (yld fun _ => by kernel_rfl) ?_
      refine wpS.take 6 false (some 21) (.bool false) (by kernel_rfl) (yld fun _ => by kernel_rfl) ?_
      refine wpS.take 7 false (some 22) (.bool false) (by kernel_rfl) (yld fun _ => by kernel_rfl) ?_
      refine wpS.take 8 false (some 23) (.pointer (some ⟨b2, 0, none⟩)) (by kernel_rfl) (yld fun _ => by kernel_rfl) ?_
      refine wpS.take 9 true (some 24) (.slice a1_0_A a1_0_n a1_0_c) (by kernel_rfl) (yld_load1 (e := 24) (o := 0) hs 1 rfl (by kernel_rfl) (by kernel_rfl) (by rfl) .grow) ?_
      refine wpS.take 10 false (some 25) (.int .i64 (a1_0.length : Int)) (by kernel_rfl) (yld_lenL (hs.rowR 0 rfl) (fun _ => by kernel_rfl)) ?_
      rcases of_if h with ⟨hc, h⟩ | ⟨hc, h⟩
      · refine wpS.take 11 false (some 26) (.bool false) (by kernel_rfl) (yld_b (nf hc) (fun _ => by kernel_rfl)) ?_
        refine wpS.take 12 false (some 27) (.bool false) (by kernel_rfl) (yld fun _ => by kernel_rfl) ?_
        refine wpS.fin rfl (kr13 _ _ ?_)
        refine then_n (ks12 _ _ ?_)
        refine wp_cond_f (by kernel_rfl) ?_
        refine xskip ?_
        refine then_n (ks11 _ _ ?_)
        refine xseq_k fun KS14 ks14 => ?_
        refine wp_regS (l := [0, 1, 2, 3, 4, 5]) (by kernel_rfl) (by kernel_rfl) fun KR15 kr15 => ?_
        refine wpS.take 0 false (some 28) (.pointer (some ⟨b2, 0, none⟩)) (by kernel_rfl) (yld fun _ => by kernel_rfl) ?_
        refine wpS.take 1 true (some 29) (.slice a1_0_A a1_0_n a1_0_c) (by kernel_rfl) (yld_load1 (e := 24) (o := 0) hs 1 rfl (by kernel_rfl) (by kernel_rfl) (by rfl) .grow) ?_
        refine wpS.take 2 false (some 30) (.slice r3_A r3_n r3_c) (by kernel_rfl) (yld fun _ => by kernel_rfl) ?_
        refine wpS.only 3 (op_lit (C := CS) (t := 79) (e := 24) (len := 2) (parts := #[(0, .slice a1_0_A a1_0_n a1_0_c), (1, .slice r3_A r3_n r3_c)]) (l := ([(a1_0_A, a1_0_n, a1_0_c), (r3_A, r3_n, r3_c)] : List HS)) (d := (some 31)) (by kernel_rfl) hs (by kernel_rfl) (by kernel_rfl) (by kernel_rfl) (z := .slice none 0 0) (by kernel_rfl) rfl (by decide) (by decide) (by kernel_rfl) ?_)
        intro s6_A s6_n s6_c w gw hs
        refine ⟨fun _ => trivial, ?_⟩
        obtain ⟨r7, hg, h⟩ := of_bind h
        refine wpS.only 4 (op_callH (d := (some 32)) (by kernel_rfl) hs (fun _ => by kernel_rfl) (ref01_Join.ok hg _ (LLP.mk (hs.rowL 0 rfl) (inn_cons (hs.rowR 0 rfl) (inn_cons (hs.rowL 1 rfl) inn_nil)))) ?_)
        rintro ⟨r7_A, r7_n, r7_c⟩ w gw hs
        have hs := hs.conv (L' := [.ownL (CI .u8) r7_A r7_n r7_c r7 5, .ownL CS s6_A s6_n s6_c ([(a1_0_A, a1_0_n, a1_0_c), (r3_A, r3_n, r3_c)] : List HS) 24, .ownL (CI .u8) r3_A r3_n r3_c r3 5, .blk b2 ([.slice a1_0_A a1_0_n a1_0_c, .slice a1_1_A a1_1_n a1_1_c]) 27, .blk b1 ([.int .i64 a0_0, .int .i64 a0_1, .int .i32 a0_2, .int .i64 a0_3, .int .i32 a0_4, .int .i32 a0_5, .int .i64 a0_6, .int .i64 a0_7]) 23]) rfl
        refine ⟨fun _ => trivial, ?_⟩
        refine wpS.take 5 false (some 4) (.slice r7_A r7_n r7_c) (by kernel_rfl) (yld fun _ => by kernel_rfl) ?_
        refine wpS.fin rfl (kr15 _ _ ?_)
        refine then_n (ks14 _ _ ?_)
        refine xret ?_
        have q0 := of_some h
        subst q0
        exact qq _ _ (post_ret (by kernel_rfl) (run_results [.tmp 4] [.slice r7_A r7_n r7_c] (by kernel_rfl) (.cons (res_tmp (by kernel_rfl)) .nil)) ⟨⟨r7_A, r7_n, r7_c⟩, congrArg Ending.returned (by kernel_rfl), (((hs.conv (L' := [.ownL (CI .u8) r7_A r7_n r7_c r7 5, .ownL CS s6_A s6_n s6_c ([(a1_0_A, a1_0_n, a1_0_c), (r3_A, r3_n, r3_c)] : List HS) 24, .ownL (CI .u8) r3_A r3_n r3_c r3 5, .blk b2 ([.slice a1_0_A a1_0_n a1_0_c, .slice a1_1_A a1_1_n a1_1_c]) 27, .blk b1 ([.int .i64 a0_0, .int .i64 a0_1, .int .i32 a0_2, .int .i64 a0_3, .int .i32 a0_4, .int .i32 a0_5, .int .i64 a0_6, .int .i64 a0_7]) 23]) rfl).drop (.cons_cons _ (.cons _ (.cons _ (.cons _ (.cons _ .slnil)))))).pickR pick_nil)⟩)
      · refine wpS.take 11 false (some 26) (.bool true) (by kernel_rfl) (yld_b (nt hc) (fun _ => by kernel_rfl)) ?_
        refine wpS.take 12 false (some 27) (.bool true) (by kernel_rfl) (yld fun _ => by kernel_rfl) ?_
        refine wpS.fin rfl (kr13 _ _ ?_)
        refine then_n (ks12 _ _ ?_)
        refine wp_cond_t (by kernel_rfl) ?_
        refine xseq_k fun KS16 ks16 => ?_
        refine wp_regS (l := [0]) (by kernel_rfl) (by kernel_rfl) fun KR17 kr17 => ?_
        refine wpS.take 0 false (some 4) (.slice none 0 0) (by kernel_rfl) (yld fun _ => by kernel_rfl) ?_
        refine wpS.fin rfl (kr17 _ _ ?_)
        refine then_n (ks16 _ _ ?_)
        refine xret ?_
        refine then_r ?_
        have q0 := of_some h
        subst q0
        have hs := hs.addNilL (CI .u8) 5
        exact qq _ _ (post_ret (by kernel_rfl) (run_results [.tmp 4] [.slice none 0 0] (by kernel_rfl) (.cons (res_tmp (by kernel_rfl)) .nil)) ⟨⟨none, 0, 0⟩, congrArg Ending.returned (by kernel_rfl), (((hs.conv (L' := [.ownL (CI .u8) none 0 0 ([] : List Int) 5, .ownL (CI .u8) r3_A r3_n r3_c r3 5, .blk b2 ([.slice a1_0_A a1_0_n a1_0_c, .slice a1_1_A a1_1_n a1_1_c]) 27, .blk b1 ([.int .i64 a0_0, .int .i64 a0_1, .int .i32 a0_2, .int .i64 a0_3, .int .i32 a0_4, .int .i32 a0_5, .int .i64 a0_6, .int .i64 a0_7]) 23]) rfl).drop (.cons_cons _ (.cons _ (.cons _ (.cons _ .slnil))))).pickR pick_nil)⟩)
    | false =>
      have h := of_if_f h
      refine wpS.only 1 (op_call (d := (some 16)) (by kernel_rfl) hs (fun _ => by kernel_rfl) (ref22_Known.ok hg _) ?_)
      intro w gw hs
      refine ⟨fun _ => trivial, ?_⟩
      refine wpS.take 2 false (some 17) (.bool true) (by kernel_rfl) (yld fun _ => by kernel_rfl) ?_
      refine wpS.take 3 false (some 18) (.bool true) (by kernel_rfl) (yld fun _ => by kernel_rfl) ?_
      refine wpS.take 4 false (some 19) (undef) (by kernel_rfl) (yld fun _ => by kernel_rfl) ?_
      refine wpS.take 5 false (some 20) (undef) (by kernel_rfl) (yld fun _ => by kernel_rfl) ?_
      refine wpS.take 6 false (some 21) (.bool true) (by kernel_rfl) (yld fun _ => by kernel_rfl) ?_
      refine wpS.take 7 false (some 22) (.bool true) (by kernel_rfl) (yld fun _ => by kernel_rfl) ?_
      refine wpS.take 8 false (some 23) (undef) (by kernel_rfl) (yld fun _ => by kernel_rfl) ?_
      refine wpS.take 9 false (some 24) (undef) (by kernel_rfl) (yld fun _ => by kernel_rfl) ?_
      refine wpS.take 10 false (some 25) (undef) (by kernel_rfl) (yld fun _ => by kernel_rfl) ?_
      refine wpS.take 11 false (some 26) (undef) (by kernel_rfl) (yld fun _ => by kernel_rfl) ?_
      refine wpS.take 12 false (some 27) (.bool true) (by kernel_rfl) (yld fun _ => by kernel_rfl) ?_
      refine wpS.fin rfl (kr13 _ _ ?_)
      refine then_n (ks12 _ _ ?_)
      refine wp_cond_t (by kernel_rfl) ?_
      refine xseq_k fun KS18 ks18 => ?_
      refine wp_regS (l := [0]) (by kernel_rfl) (by kernel_rfl) fun KR19 kr19 => ?_
      refine wpS.take 0 false (some 4) (.slice none 0 0) (by kernel_rfl) (yld fun _ => by kernel_rfl) ?_
      refine wpS.fin rfl (kr19 _ _ ?_)
      refine then_n (ks18 _ _ ?_)
      refine xret ?_
      refine then_r ?_
      have q0 := of_some h
      subst q0
      have hs := hs.addNilL (CI .u8) 5
      exact qq _ _ (post_ret (by kernel_rfl) (run_results [.tmp 4] [.slice none 0 0] (by kernel_rfl) (.cons (res_tmp (by kernel_rfl)) .nil)) ⟨⟨none, 0, 0⟩, congrArg Ending.returned (by kernel_rfl), (((hs.conv (L' := [.ownL (CI .u8) none 0 0 ([] : List Int) 5, .ownL (CI .u8) r3_A r3_n r3_c r3 5, .blk b2 ([.slice a1_0_A a1_0_n a1_0_c, .slice a1_1_A a1_1_n a1_1_c]) 27, .blk b1 ([.int .i64 a0_0, .int .i64 a0_1, .int .i32 a0_2, .int .i64 a0_3, .int .i32 a0_4, .int .i32 a0_5, .int .i64 a0_6, .int .i64 a0_7]) 23]) rfl).drop (.cons_cons _ (.cons _ (.cons _ (.cons _ .slnil))))).pickR pick_nil)⟩)
  | false =>
    have h := of_if_f h
    refine wpS.take 7 false (some 14) (.bool false) (by kernel_rfl) (yld fun _ => by kernel_rfl) ?_
    refine wpS.take 8 false (some 5) (.slice r3_A r3_n r3_c) (by kernel_rfl) (yld fun _ => by kernel_rfl) ?_
    refine wpS.take 9 false (some 6) (.bool false) (by kernel_rfl) (yld fun _ => by kernel_rfl) ?_
    refine wpS.fin rfl (kr4 _ _ ?_)
    refine then_n (ks3 _ _ ?_)
    refine xseq_k fun KS26 ks26 => ?_
    refine xseq_k fun KS27 ks27 => ?_
    refine wp_regS (l := [0, 1, 2, 3, 4, 5, 6, 7, 8, 9, 10, 11, 12]) (by kernel_rfl) (by kernel_rfl) fun KR28 kr28 => ?_
    refine wpS.take 0 true (some 15) (.agg #[.int .i64 a0_0, .int .i64 a0_1, .int .i32 a0_2, .int .i64 a0_3, .int .i32 a0_4, .int .i32 a0_5, .int .i64 a0_6, .int .i64 a0_7]) (by kernel_rfl) (yld_loadW (e := 23) (n := 8) hs 2 rfl (by kernel_rfl) (by kernel_rfl) (by kernel_rfl) (by simp [enc_len]) .grow) ?_
    obtain ⟨r8, hg, h⟩ := of_bind h
    cases r8 with
    | true =>
      have h := of_if_t h
      refine wpS.only 1 (op_call (d := (some 16)) (by kernel_rfl) hs (fun _ => by kernel_rfl) (ref22_Known.ok hg _) ?_)
      intro w gw hs
      refine ⟨fun _ => trivial, ?_⟩
      refine wpS.take 2 false (some 17) (.bool false) (by kernel_rfl) (yld fun _ => by kernel_rfl) ?_
      refine wpS.take 3 false (some 18) (.bool false) (by kernel_rfl) (yld fun _ => by kernel_rfl) ?_
      refine wpS.take 4 false (some 19) (.bool false) (by kernel_rfl) (yld fun _ => by kernel_rfl) ?_
      refine wpS.take 5 false (some 20) (.bool true) (by kernel_rfl) (yld fun _ => by kernel_rfl) ?_
      refine wpS.take 6 false (some 21) (.bool true) (by kernel_rfl) (yld fun _ => by kernel_rfl) ?_
      refine wpS.take 7 false (some 22) (.bool true) (by kernel_rfl) (yld fun _ => by kernel_rfl) ?_
      refine wpS.take 8 false (some 23) (undef) (by kernel_rfl) (yld fun _ => by kernel_rfl) ?_
      refine wpS.take 9 false (some 24) (undef) (by kernel_rfl) (yld fun _ => by kernel_rfl) ?_
      refine wpS.take 10 false (some 25) (undef) (by kernel_rfl) (yld fun _ => by kernel_rfl) ?_
      refine wpS.take 11 false (some 26) (undef) (by kernel_rfl) (yld fun _ => by kernel_rfl) ?_
      refine wpS.take 12 false (some 27) (.bool true) (by kernel_rfl) (yld fun _ => by kernel_rfl) ?_
      refine wpS.fin rfl (kr28 _ _ ?_)
      refine then_n (ks27 _ _ ?_)
      refine wp_cond_t (by kernel_rfl) ?_
      refine xseq_k fun KS29 ks29 => ?_
      refine wp_regS (l := [0]) (by kernel_rfl) (by kernel_rfl) fun KR30 kr30 => ?_
      refine wpS.take 0 false (some 4) (.slice none 0 0) (by kernel_rfl) (yld fun _ => by kernel_rfl) ?_
      refine wpS.fin rfl (kr30 _ _ ?_)
      refine then_n (ks29 _ _ ?_)
      refine xret ?_
      refine then_r ?_
      have q0 := of_some h
      subst q0
      have hs := hs.addNilL (CI .u8) 5
      exact qq _ _ (post_ret (by kernel_rfl) (run_results [.tmp 4] [.slice none 0 0] (by kernel_rfl) (.cons (res_tmp (by kernel_rfl)) .nil)) ⟨⟨none, 0, 0⟩, congrArg Ending.returned (by kernel_rfl), (((hs.conv (L' := [.ownL (CI .u8) none 0 0 ([] : List Int) 5, .ownL (CI .u8) r3_A r3_n r3_c r3 5, .blk b2 ([.slice a1_0_A a1_0_n a1_0_c, .slice a1_1_A a1_1_n a1_1_c]) 27, .blk b1 ([.int .i64 a0_0, .int .i64 a0_1, .int .i32 a0_2, .int .i64 a0_3, .int .i32 a0_4, .int .i32 a0_5, .int .i64 a0_6, .int .i64 a0_7]) 23]) rfl).drop (.cons_cons _ (.cons _ (.cons _ (.cons _ .slnil))))).pickR pick_nil)⟩)
    | false =>
      have h := of_if_f h
      refine wpS.only 1 (op_call (d := (some 16)) (by kernel_rfl) hs (fun _ => by kernel_rfl) (ref22_Known.ok hg _) ?_)
      intro w gw hs
      refine ⟨fun _ => trivial, ?_⟩
      refine wpS.take 2 false (some 17) (.bool true) (by kernel_rfl) (yld fun _ => by kernel_rfl) ?_
      refine wpS.take 3 false (some 18) (.bool true) (by kernel_rfl) (yld fun _ => by kernel_rfl) ?_
      refine wpS.take 4 false (some 19) (undef) (by kernel_rfl) (yld fun _ => by kernel_rfl) ?_
      refine wpS.take 5 false (some 20) (undef) (by kernel_rfl) (yld fun _ => by kernel_rfl) ?_
      refine wpS.take 6 false (some 21) (.bool true) (by kernel_rfl) (yld fun _ => by kernel_rfl) ?_
      refine wpS.take 7 false (some 22) (.bool true) (by kernel_rfl) (yld fun _ => by kernel_rfl) ?_
      refine wpS.take 8 false (some 23) (undef) (by kernel_rfl) (yld fun _ => by kernel_rfl) ?_
      refine wpS.take 9 false (some 24) (undef) (by kernel_rfl) (yld fun _ => by kernel_rfl) ?_
      refine wpS.take 10 false (some 25) (undef) (by kernel_rfl) (yld fun _ => by kernel_rfl) ?_
      refine wpS.take 11 false (some 26) (undef) (by kernel_rfl) (yld fun _ => by kernel_rfl) ?_
      refine wpS.take 12 false (some 27) (.bool true) (by kernel_rfl) (yld fun _ => by kernel_rfl) ?_
      refine wpS.fin rfl (kr28 _ _ ?_)
      refine then_n (ks27 _ _ ?_)
      refine wp_cond_t (by kernel_rfl) ?_
      refine xseq_k fun KS31 ks31 => ?_
      refine wp_regS (l := [0]) (by kernel_rfl) (by kernel_rfl) fun KR32 kr32 => ?_
      refine wpS.take 0 false (some 4) (.slice none 0 0) (by kernel_rfl) (yld fun _ => by kernel_rfl) ?_
      refine wpS.fin rfl (kr32 _ _ ?_)
      refine then_n (ks31 _ _ ?_)
      refine xret ?_
      refine then_r ?_
      have q0 := of_some h
      subst q0
      have hs := hs.addNilL (CI .u8) 5
      exact qq _ _ (post_ret (by kernel_rfl) (run_results [.tmp 4] [.slice none 0 0] (by kernel_rfl) (.cons (res_tmp (by kernel_rfl)) .nil)) ⟨⟨none, 0, 0⟩, congrArg Ending.returned (by kernel_rfl), (((hs.conv (L' := [.ownL (CI .u8) none 0 0 ([] : List Int) 5, .ownL (CI .u8) r3_A r3_n r3_c r3 5, .blk b2 ([.slice a1_0_A a1_0_n a1_0_c, .slice a1_1_A a1_1_n a1_1_c]) 27, .blk b1 ([.int .i64 a0_0, .int .i64 a0_1, .int .i32 a0_2, .int .i64 a0_3, .int .i32 a0_4, .int .i32 a0_5, .int .i64 a0_6, .int .i64 a0_7]) 23]) rfl).drop (.cons_cons _ (.cons _ (.cons _ (.cons _ .slnil))))).pickR pick_nil)⟩)
end Go.Proofs.Ytblploekkjeolaa
