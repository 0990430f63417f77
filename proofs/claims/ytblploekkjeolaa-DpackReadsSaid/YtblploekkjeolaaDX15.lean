/- Printed by this work's own program: the code of each function below comes to the answer that its plain form tells. -/
import Derived.Test.YtblploekkjeolaaMv
import Derived.Test.YtblploekkjeolaaProg
import Derived.Test.YtblploekkjeolaaDFDpackReads
import Derived.Test.YtblploekkjeolaaDX1
import Derived.Test.YtblploekkjeolaaDX2
import Derived.Test.YtblploekkjeolaaDX3
set_option linter.unusedVariables false
set_option linter.unusedSimpArgs false
set_option maxRecDepth 100000
set_option maxHeartbeats 4000000
namespace Go.Proofs.Ytblploekkjeolaa
open Go.Mx
attribute [local irreducible] wpOp

theorem ref22_unrow.ok {K : Nat} {a0 : List Int} {a1 : Int} {a2 : Int} {a3 : Int} {r0 : List (Arr 256)} {r1 : List Int} {r2 : Bool} {a0_A : Option Addr} {a0_n : Nat} {a0_c : Nat} (h : ref22_unrow.f K a0 a1 a2 a3 = some (r0, r1, r2)) (w0 : World) (hp0 : RowL (CI .u8) w0 a0_A a0_n a0_c a0) : Calls Try.prog 63 #[.slice a0_A a0_n a0_c, .int .i64 a1, .int .i32 a2, .int .i32 a3] w0 fun e w' => ∃ h : (Option Addr × Nat × Nat) × (Option Addr × Nat × Nat), e = .returned (.tuple #[.slice h.1.1 h.1.2.1 h.1.2.2, .slice h.2.1 h.2.2.1 h.2.2.2, .bool r2]) ∧ St w0 [] [.ownL (CA .i32 256 (by decide)) h.1.1 h.1.2.1 h.1.2.2 r0 40] [.rowF (Ent.rowL (CI .u8) a0_A a0_n a0_c a0).foot (CI .u8) h.2.1 h.2.2.1 h.2.2.2 r1] w' := by
 refine calls_k Try.func63 rfl fun Q qq => ?_
 have hs := St.startR (all_cons (RowP.entF hp0) all_nil)
 refine wp_conv (a' := ⟨#[.slice a0_A a0_n a0_c, .int .i64 a1, .int .i32 a2, .int .i32 a3, undef, undef, undef, undef, undef, undef, undef, undef, undef, undef, undef, undef, undef, undef, undef, undef, undef, undef, undef, undef, undef, undef, undef, undef, undef, undef, undef, undef, undef, undef, undef, undef, undef, undef, undef, undef, undef, undef, undef, undef, undef], []⟩) (by kernel_rfl) ?_
 refine xseq_k fun KS1 ks1 => ?_
 refine wp_regS (l := [0, 1, 2]) (by kernel_rfl) (by kernel_rfl) fun KR2 kr2 => ?_
 refine wpS.ps [(0, 8, .slice none 0 0), (1, 9, .slice none 0 0), (2, 10, .bool false)] (by kernel_rfl) ?_
 refine wpS.fin rfl (kr2 _ _ ?_)
 refine then_n (ks1 _ _ ?_)
 refine xseq_k fun KS3 ks3 => ?_
 refine wp_regS (l := [0, 1, 2, 3, 4]) (by kernel_rfl) (by kernel_rfl) fun KR4 kr4 => ?_
 refine wpS.ps [(0, 16, .int .i32 a2), (1, 17, .int .i32 a3)] (by kernel_rfl) ?_
 obtain ⟨r1, hg, h⟩ := of_bind h
 refine wpS.only 2 (op_call (d := (some 18)) (by kernel_rfl) hs (fun _ => by kernel_rfl) (ref22_bitsOf.ok hg _) ?_)
 intro w gw hs
 refine ⟨fun _ => trivial, ?_⟩
 refine wpS.p 3 19 (.int .i64 (imul .i64 32 r1)) (by kernel_rfl) ?_
 obtain ⟨x2, hx, h⟩ := of_bind h
 refine wpS.take 4 false (some 11) (.int .i64 x2) (by kernel_rfl) (yld_int hx (fun _ => by kernel_rfl)) ?_
 refine wpS.fin rfl (kr4 _ _ ?_)
 refine then_n (ks3 _ _ ?_)
 refine xseq_k fun KS5 ks5 => ?_
 refine wp_regS (l := [0]) (by kernel_rfl) (by kernel_rfl) fun KR6 kr6 => ?_
 refine wpS.p 0 12 (.slice none 0 0) (by kernel_rfl) ?_
 refine wpS.fin rfl (kr6 _ _ ?_)
 refine then_n (ks5 _ _ ?_)
 refine xseq_k fun KS7 ks7 => ?_
 refine xseq_k fun KS8 ks8 => ?_
 refine wp_regS (l := [0]) (by kernel_rfl) (by kernel_rfl) fun KR9 kr9 => ?_
 refine wpS.p 0 13 (.int .i64 0) (by kernel_rfl) ?_
 refine wpS.fin rfl (kr9 _ _ ?_)
 refine then_n (ks8 _ _ ?_)
 have hs := hs.addNilL (CA .i32 256 (by decide)) 40
 obtain ⟨t0, hy, hk0⟩ := of_bind h
 refine wp_exq (N := fun a w => ∃ y6 y7, ∃ (y6_A : Option Addr) (y6_n : Nat) (y6_c : Nat) (y7_A : Option Addr) (y7_n : Nat) (y7_c : Nat), t0 = .inl (y6, y7) ∧ St w0 [] [.ownL (CA .i32 256 (by decide)) y6_A y6_n y6_c y6 40] [.rowF (Ent.rowL (CI .u8) a0_A a0_n a0_c a0).foot (CI .u8) y7_A y7_n y7_c y7, .rowF (Ent.rowL (CI .u8) a0_A a0_n a0_c a0).foot (CI .u8) a0_A a0_n a0_c a0] w ∧ ∃ g : Nat → Value, a = ⟨#[.slice y7_A y7_n y7_c, .int .i64 a1, .int .i32 a2, .int .i32 a3, undef, undef, undef, undef, (g 8), (g 9), (g 10), .int .i64 x2, .slice y6_A y6_n y6_c, (g 13), (g 14), (g 15), .int .i32 a2, .int .i32 a3, .int .i64 r1, .int .i64 (imul .i64 32 r1), (g 20), (g 21), (g 22), (g 23), (g 24), (g 25), (g 26), (g 27), (g 28), (g 29), (g 30), (g 31), (g 32), (g 33), (g 34), (g 35), (g 36), (g 37), (g 38), (g 39), (g 40), (g 41), (g 42), undef, undef], []⟩) (fun N0 nn0 => ?_) ?_
 ·refine xblock ?_
  refine wp_loop_k (fun n a w => ∃ z3 z4 z5, ∃ (z4_A : Option Addr) (z4_n : Nat) (z4_c : Nat) (z5_A : Option Addr) (z5_n : Nat) (z5_c : Nat), ref22_unrow.l0 K n a1 a2 a3 x2 z3 z4 z5 = some t0 ∧ St w0 [] [.ownL (CA .i32 256 (by decide)) z4_A z4_n z4_c z4 40] [.rowF (Ent.rowL (CI .u8) a0_A a0_n a0_c a0).foot (CI .u8) z5_A z5_n z5_c z5, .rowF (Ent.rowL (CI .u8) a0_A a0_n a0_c a0).foot (CI .u8) a0_A a0_n a0_c a0] w ∧ ∃ g : Nat → Value, a = ⟨#[.slice z5_A z5_n z5_c, .int .i64 a1, .int .i32 a2, .int .i32 a3, undef, undef, undef, undef, (g 8), (g 9), (g 10), .int .i64 x2, .slice z4_A z4_n z4_c, .int .i64 z3, (g 14), (g 15), .int .i32 a2, .int .i32 a3, .int .i64 r1, .int .i64 (imul .i64 32 r1), (g 20), (g 21), (g 22), (g 23), (g 24), (g 25), (g 26), (g 27), (g 28), (g 29), (g 30), (g 31), (g 32), (g 33), (g 34), (g 35), (g 36), (g 37), (g 38), (g 39), (g 40), (g 41), (g 42), undef, undef], []⟩) K ⟨0, ([] : List (Arr 256)), a0, none, 0, 0, a0_A, a0_n, a0_c, hy, (hs.conv (L' := [.ownL (CA .i32 256 (by decide)) none 0 0 ([] : List (Arr 256)) 40]) rfl).pickR (pick_cons 0 rfl (pick_cons 0 rfl pick_nil)), exg (by kernel_rfl)⟩ ?_
  clear hs h hy
  rintro n a w ⟨z3, z4, z5, z4_A, z4_n, z4_c, z5_A, z5_n, z5_c, h, hs, g, rfl⟩ KL0 kl0
  cases n with
  | zero => exact nomatch (show none = some _ from h)
  | succ n =>
   refine xseq_k fun KS10 ks10 => ?_
   refine xseq_k fun KS11 ks11 => ?_
   refine wp_regS (l := [0, 1, 2]) (by kernel_rfl) (by kernel_rfl) fun KR12 kr12 => ?_
   refine wpS.ps [(0, 20, .int .i64 z3), (1, 21, .int .i64 a1)] (by kernel_rfl) ?_
   rcases of_if h with ⟨hc, h⟩ | ⟨hc, h⟩
   ·refine wpS.take 2 false (some 22) (.bool true) (by kernel_rfl) (yld_b (dt hc) (fun _ => by kernel_rfl)) ?_
    refine wpS.fin rfl (kr12 _ _ ?_)
    refine then_n (ks11 _ _ ?_)
    refine wp_cond_t (by kernel_rfl) ?_
    refine xskip ?_
    refine then_n (ks10 _ _ ?_)
    refine xseq_k fun KS13 ks13 => ?_
    refine xblock ?_
    refine xseq_k fun KS14 ks14 => ?_
    refine wp_regS (l := [0, 1, 2, 3, 4, 5, 6, 7, 8, 9, 10, 11]) (by kernel_rfl) (by kernel_rfl) fun KR15 kr15 => ?_
    refine wpS.ps [(0, 26, .slice z5_A z5_n z5_c), (1, 27, .int .i64 x2)] (by kernel_rfl) ?_
    obtain ⟨h0, h⟩ := of_chk h
    obtain ⟨h1, h⟩ := of_chk h
    obtain ⟨h2, h⟩ := of_chk h
    obtain ⟨s8_A, hA⟩ : ∃ A, A = if z5_c = (0 : Int).toNat then z5_A else adr z5_A ((0 : Int).toNat * Cod.size (CI .u8)) := ⟨_, rfl⟩
    obtain ⟨s8_n, hn⟩ : ∃ n, n = (x2 : Int).toNat - (0 : Int).toNat := ⟨_, rfl⟩
    obtain ⟨s8_c, hc⟩ : ∃ c, c = z5_c - (0 : Int).toNat := ⟨_, rfl⟩
    refine wpS.take 2 false (some 28) (.slice s8_A s8_n s8_c) (by kernel_rfl) (yld_sub (C := (CI .u8)) (t := 24) (e := 5) (low := none) (high := some (.int .i64 x2)) (lo := 0) (hi := x2) (hs.rowF 0 rfl) (by kernel_rfl) (by kernel_rfl) (by kernel_rfl) (.inl ⟨rfl, rfl⟩) (.inr ⟨_, rfl⟩) h0 h1 h2 hA hn hc) ?_
    have hs := hs.addSubF (C := (CI .u8)) 0 rfl h0 h1 h2 hA hn hc
    refine wpS.ps [(3, 29, .int .i32 a2), (4, 30, .int .i32 a3)] (by kernel_rfl) ?_
    obtain ⟨⟨r9, r10⟩, hg, h⟩ := of_bind h
    refine wpS.only 5 (op_call (d := (some 31)) (by kernel_rfl) hs (fun _ => by kernel_rfl) (ref22_Unpack.ok hg _ (hs.rowF 0 rfl)) ?_)
    intro w gw hs
    refine ⟨fun _ => trivial, ?_⟩
    refine wpS.ps [(6, 25, .tuple #[.agg (enc .i32 r9).toArray, .bool r10]), (7, 32, .agg (enc .i32 r9).toArray)] (by kernel_rfl) ?_
    cases r10 with
    | true =>
     have h := of_if_t h
     refine wpS.p 8 33 (.bool true) (by kernel_rfl) ?_
     refine wpS.only 9 (op_alloc (t := 40) (d := (some 14)) (by kernel_rfl) hs (enc .i32 (zeroA 256)) (.agg (enc .i32 (zeroA 256)).toArray) (by kernel_rfl) (by kernel_rfl) (by kernel_rfl) ?_)
     intro b11 w gw hs
     refine ⟨fun _ => trivial, ?_⟩
     refine wpS.only 10 (op_storeW (t := 40) (v := .agg (enc .i32 r9).toArray) (d := none) (by kernel_rfl) hs 0 rfl (vs := enc .i32 r9) (n := 256) (by kernel_rfl) (by kernel_rfl) (by kernel_rfl) (by simp [enc_len]) (by simp [enc_len]) (by intro u hu; exact enc_one _ _ u hu) ?_)
     intro w kp hs
     refine ⟨fun _ => trivial, ?_⟩
     refine wpS.p 11 15 (.bool true) (by kernel_rfl) ?_
     refine wpS.fin rfl (kr15 _ _ ?_)
     refine then_n (ks14 _ _ ?_)
     refine xseq_k fun KS16 ks16 => ?_
     refine xseq_k fun KS17 ks17 => ?_
     refine wp_regS (l := [0, 1]) (by kernel_rfl) (by kernel_rfl) fun KR18 kr18 => ?_
     refine wpS.ps [(0, 34, .bool true), (1, 35, .bool false)] (by kernel_rfl) ?_
     refine wpS.fin rfl (kr18 _ _ ?_)
     refine then_n (ks17 _ _ ?_)
     refine wp_cond_f (by kernel_rfl) ?_
     refine xskip ?_
     refine then_n (ks16 _ _ ?_)
     refine xseq_k fun KS19 ks19 => ?_
     refine wp_regS (l := [0, 1, 2, 3, 4]) (by kernel_rfl) (by kernel_rfl) fun KR20 kr20 => ?_
     refine wpS.p 0 36 (.slice z4_A z4_n z4_c) (by kernel_rfl) ?_
     refine wpS.take 1 true (some 37) (.agg (enc .i32 r9).toArray) (by kernel_rfl) (yld_loadW (e := 40) (n := 256) hs 0 rfl (by kernel_rfl) (by kernel_rfl) (by kernel_rfl) (by exact enc_len _ _) .grow) ?_
     refine wpS.only 2 (op_litL (C := (CA .i32 256 (by decide))) (t := 25) (e := 40) (len := 1) (parts := #[(0, .agg (enc .i32 r9).toArray)]) (l := [r9]) (d := (some 38)) (by kernel_rfl) hs (by kernel_rfl) rfl (by kernel_rfl) (by kernel_rfl) (z := .agg (enc .i32 (zeroA 256)).toArray) (by kernel_rfl) rfl (by decide) (by decide) ?_)
     intro s12_A s12_n s12_c w gw hs
     refine ⟨fun _ => trivial, ?_⟩
     obtain ⟨h0, h⟩ := of_chk h
     refine wpS.only 3 (op_appendT (C := (CA .i32 256 (by decide))) (t := 25) (ty := 25) (e := 40) (bytes := 1024) (B := 137438953472) (d := (some 39)) (by kernel_rfl) hs 2 rfl (hs.rowL 0 rfl) (by kernel_rfl) (by kernel_rfl) (by kernel_rfl) (by kernel_rfl) (by kernel_rfl) h0 (by decide) (by decide) ?_)
     intro s13_A s13_n s13_c w hs
     refine ⟨fun _ => trivial, ?_⟩
     refine wpS.p 4 12 (.slice s13_A s13_n s13_c) (by kernel_rfl) ?_
     refine wpS.fin rfl (kr20 _ _ ?_)
     refine then_n (ks19 _ _ ?_)
     refine wp_regS (l := [0, 1, 2, 3]) (by kernel_rfl) (by kernel_rfl) fun KR21 kr21 => ?_
     refine wpS.ps [(0, 40, .slice z5_A z5_n z5_c), (1, 41, .int .i64 x2)] (by kernel_rfl) ?_
     obtain ⟨h0, h⟩ := of_chk h
     obtain ⟨h1, h⟩ := of_chk h
     obtain ⟨h2, h⟩ := of_chk h
     obtain ⟨s14_A, hA⟩ : ∃ A, A = if z5_c = (x2 : Int).toNat then z5_A else adr z5_A ((x2 : Int).toNat * Cod.size (CI .u8)) := ⟨_, rfl⟩
     obtain ⟨s14_n, hn⟩ : ∃ n, n = ((z5.length : Int) : Int).toNat - (x2 : Int).toNat := ⟨_, rfl⟩
     obtain ⟨s14_c, hc⟩ : ∃ c, c = z5_c - (x2 : Int).toNat := ⟨_, rfl⟩
     refine wpS.take 2 false (some 42) (.slice s14_A s14_n s14_c) (by kernel_rfl) (yld_sub (C := (CI .u8)) (t := 24) (e := 5) (low := some (.int .i64 x2)) (high := none) (lo := x2) (hi := (z5.length : Int)) (hs.rowF 1 rfl) (by kernel_rfl) (by kernel_rfl) (by kernel_rfl) (.inr ⟨_, rfl⟩) (.inl ⟨rfl, rfl⟩) h0 h1 h2 hA hn hc) ?_
     have hs := hs.addSubF (C := (CI .u8)) 1 rfl h0 h1 h2 hA hn hc
     refine wpS.p 3 0 (.slice s14_A s14_n s14_c) (by kernel_rfl) ?_
     refine wpS.fin rfl (kr21 _ _ ?_)
     refine inBlock_n ?_
     refine then_n (ks13 _ _ ?_)
     refine wp_regS (l := [0, 1, 2]) (by kernel_rfl) (by kernel_rfl) fun KR22 kr22 => ?_
     refine wpS.ps [(0, 23, .int .i64 z3), (1, 24, .int .i64 (iadd .i64 z3 1))] (by kernel_rfl) ?_
     obtain ⟨x15, hx, h⟩ := of_bind h
     refine wpS.take 2 false (some 13) (.int .i64 x15) (by kernel_rfl) (yld_int hx (fun _ => by kernel_rfl)) ?_
     refine wpS.fin rfl (kr22 _ _ ?_)
     exact then_n (kl0 _ _ ⟨n, Nat.lt_succ_self n, x15, (z4 ++ ([r9] : List (Arr 256))), (subL z5 x2 (z5.length : Int)), s13_A, s13_n, s13_c, s14_A, s14_n, s14_c, h, ((hs.drop (.cons _ (.cons _ (.cons_cons _ .slnil)))).pickR (pick_cons 0 rfl (pick_cons 3 rfl pick_nil))), exg (by kernel_rfl)⟩)
    | false =>
     have h := of_if_f h
     refine wpS.p 8 33 (.bool false) (by kernel_rfl) ?_
     refine wpS.only 9 (op_alloc (t := 40) (d := (some 14)) (by kernel_rfl) hs (enc .i32 (zeroA 256)) (.agg (enc .i32 (zeroA 256)).toArray) (by kernel_rfl) (by kernel_rfl) (by kernel_rfl) ?_)
     intro b16 w gw hs
     refine ⟨fun _ => trivial, ?_⟩
     refine wpS.only 10 (op_storeW (t := 40) (v := .agg (enc .i32 r9).toArray) (d := none) (by kernel_rfl) hs 0 rfl (vs := enc .i32 r9) (n := 256) (by kernel_rfl) (by kernel_rfl) (by kernel_rfl) (by simp [enc_len]) (by simp [enc_len]) (by intro u hu; exact enc_one _ _ u hu) ?_)
     intro w kp hs
     refine ⟨fun _ => trivial, ?_⟩
     refine wpS.p 11 15 (.bool false) (by kernel_rfl) ?_
     refine wpS.fin rfl (kr15 _ _ ?_)
     refine then_n (ks14 _ _ ?_)
     refine xseq_k fun KS23 ks23 => ?_
     refine xseq_k fun KS24 ks24 => ?_
     refine wp_regS (l := [0, 1]) (by kernel_rfl) (by kernel_rfl) fun KR25 kr25 => ?_
     refine wpS.ps [(0, 34, .bool false), (1, 35, .bool true)] (by kernel_rfl) ?_
     refine wpS.fin rfl (kr25 _ _ ?_)
     refine then_n (ks24 _ _ ?_)
     refine wp_cond_t (by kernel_rfl) ?_
     refine xseq_k fun KS26 ks26 => ?_
     refine wp_regS (l := [0, 1, 2]) (by kernel_rfl) (by kernel_rfl) fun KR27 kr27 => ?_
     refine wpS.ps [(0, 8, .slice none 0 0), (1, 9, .slice none 0 0), (2, 10, .bool false)] (by kernel_rfl) ?_
     refine wpS.fin rfl (kr27 _ _ ?_)
     refine then_n (ks26 _ _ ?_)
     refine xret ?_
     refine then_r ?_
     refine inBlock_r ?_
     refine then_r ?_
     refine then_r ?_
     refine inBlock_r ?_
     refine exq_r ?_
     refine then_r ?_
     have q0 := of_some h
     subst q0
     obtain ⟨q0, qr0⟩ := Prod.mk.inj (of_some hk0)
     obtain ⟨q1, qr1⟩ := Prod.mk.inj (qr0)
     have q2 := qr1
     subst q0
     subst q1
     subst q2
     have hs := hs.addNilF 0 (CI .u8) rfl
     have hs := hs.addNilL (CA .i32 256 (by decide)) 40
     exact qq _ _ (post_ret (by kernel_rfl) (run_results [.tmp 8, .tmp 9, .tmp 10] [.slice none 0 0, .slice none 0 0, .bool false] (by kernel_rfl) (.cons (res_tmp (by kernel_rfl)) (.cons (res_tmp (by kernel_rfl)) (.cons (res_tmp (by kernel_rfl)) .nil)))) ⟨⟨⟨none, 0, 0⟩, ⟨none, 0, 0⟩⟩, congrArg Ending.returned (by kernel_rfl), ((hs.drop (.cons_cons _ (.cons _ (.cons _ .slnil)))).pickR (pick_cons 0 rfl pick_nil))⟩)
   ·refine wpS.take 2 false (some 22) (.bool false) (by kernel_rfl) (yld_b (df hc) (fun _ => by kernel_rfl)) ?_
    refine wpS.fin rfl (kr12 _ _ ?_)
    refine then_n (ks11 _ _ ?_)
    refine wp_cond_f (by kernel_rfl) ?_
    refine xexit ?_
    refine then_x ?_
    refine then_x ?_
    refine inBlock_hit ?_
    have q0 := of_some h
    subst q0
    exact exq_n (nn0 _ _ ⟨z4, z5, z4_A, z4_n, z4_c, z5_A, z5_n, z5_c, rfl, (hs.conv rfl), exg (by kernel_rfl)⟩)
 ·clear hs h hy
  rintro a w ⟨y6, y7, y6_A, y6_n, y6_c, y7_A, y7_n, y7_c, rfl, hs, g, rfl⟩
  have h := hk0
  refine then_n (ks7 _ _ ?_)
  refine xseq_k fun KS28 ks28 => ?_
  refine wp_regS (l := [0, 1, 2, 3, 4]) (by kernel_rfl) (by kernel_rfl) fun KR29 kr29 => ?_
  refine wpS.ps [(0, 43, .slice y6_A y6_n y6_c), (1, 44, .slice y7_A y7_n y7_c), (2, 8, .slice y6_A y6_n y6_c), (3, 9, .slice y7_A y7_n y7_c), (4, 10, .bool true)] (by kernel_rfl) ?_
  refine wpS.fin rfl (kr29 _ _ ?_)
  refine then_n (ks28 _ _ ?_)
  refine xret ?_
  obtain ⟨q0, qr0⟩ := Prod.mk.inj (of_some h)
  obtain ⟨q1, qr1⟩ := Prod.mk.inj (qr0)
  have q2 := qr1
  subst q0
  subst q1
  subst q2
  exact qq _ _ (post_ret (by kernel_rfl) (run_results [.tmp 8, .tmp 9, .tmp 10] [.slice y6_A y6_n y6_c, .slice y7_A y7_n y7_c, .bool true] (by kernel_rfl) (.cons (res_tmp (by kernel_rfl)) (.cons (res_tmp (by kernel_rfl)) (.cons (res_tmp (by kernel_rfl)) .nil)))) ⟨⟨⟨y6_A, y6_n, y6_c⟩, ⟨y7_A, y7_n, y7_c⟩⟩, congrArg Ending.returned (by kernel_rfl), (hs.pickR (pick_cons 0 rfl pick_nil))⟩)

theorem ref22_UnPublic.ok {K : Nat} {a0_0 : Int} {a0_1 : Int} {a0_2 : Int} {a0_3 : Int} {a0_4 : Int} {a0_5 : Int} {a0_6 : Int} {a0_7 : Int} {a1 : List Int} {r0_0 : List Int} {r0_1 : List (Arr 256)} {r1 : Bool} {a1_A : Option Addr} {a1_n : Nat} {a1_c : Nat} (h : ref22_UnPublic.f K a0_0 a0_1 a0_2 a0_3 a0_4 a0_5 a0_6 a0_7 a1 = some (r0_0, r0_1, r1)) (w0 : World) (hp1 : RowL (CI .u8) w0 a1_A a1_n a1_c a1) : Calls Try.prog 30 #[.agg #[.int .i64 a0_0, .int .i64 a0_1, .int .i32 a0_2, .int .i64 a0_3, .int .i32 a0_4, .int .i32 a0_5, .int .i64 a0_6, .int .i64 a0_7], .slice a1_A a1_n a1_c] w0 fun e w' => ∃ h : (Option Addr × Nat × Nat) × (Option Addr × Nat × Nat), e = .returned (.tuple #[.agg #[.slice h.1.1 h.1.2.1 h.1.2.2, .slice h.2.1 h.2.2.1 h.2.2.2], .bool r1]) ∧ St w0 [] [.ownL (CA .i32 256 (by decide)) h.2.1 h.2.2.1 h.2.2.2 r0_1 40] [.rowF (Ent.rowL (CI .u8) a1_A a1_n a1_c a1).foot (CI .u8) h.1.1 h.1.2.1 h.1.2.2 r0_0] w' := by
 refine calls_k Try.func30 rfl fun Q qq => ?_
 have hs := St.startR (all_cons (RowP.entF hp1) all_nil)
 refine wp_conv (a' := ⟨#[.agg #[.int .i64 a0_0, .int .i64 a0_1, .int .i32 a0_2, .int .i64 a0_3, .int .i32 a0_4, .int .i32 a0_5, .int .i64 a0_6, .int .i64 a0_7], .slice a1_A a1_n a1_c, undef, undef, undef, undef, undef, undef, undef, undef, undef, undef, undef, undef, undef, undef, undef, undef, undef, undef, undef, undef, undef, undef, undef, undef, undef, undef, undef, undef, undef, undef, undef, undef, undef, undef, undef, undef, undef, undef, undef, undef], []⟩) (by kernel_rfl) ?_
 refine xseq_k fun KS1 ks1 => ?_
 refine wp_regS (l := [0, 1, 2]) (by kernel_rfl) (by kernel_rfl) fun KR2 kr2 => ?_
 refine wpS.only 0 (op_box (t := 23) (v := .agg #[.int .i64 a0_0, .int .i64 a0_1, .int .i32 a0_2, .int .i64 a0_3, .int .i32 a0_4, .int .i32 a0_5, .int .i64 a0_6, .int .i64 a0_7]) (d := (some 2)) (by kernel_rfl) hs ([.int .i64 a0_0, .int .i64 a0_1, .int .i32 a0_2, .int .i64 a0_3, .int .i32 a0_4, .int .i32 a0_5, .int .i64 a0_6, .int .i64 a0_7]) (by kernel_rfl) (by kernel_rfl) ?_)
 intro b1 w gw hs
 refine ⟨fun _ => trivial, ?_⟩
 refine wpS.only 1 (op_alloc (t := 27) (d := (some 4)) (by kernel_rfl) hs ([.slice none 0 0, .slice none 0 0]) (.agg #[.slice none 0 0, .slice none 0 0]) (by kernel_rfl) (by kernel_rfl) (by kernel_rfl) ?_)
 intro b2 w gw hs
 refine ⟨fun _ => trivial, ?_⟩
 refine wpS.p 2 5 (.bool false) (by kernel_rfl) ?_
 refine wpS.fin rfl (kr2 _ _ ?_)
 refine then_n (ks1 _ _ ?_)
 refine xseq_k fun KS3 ks3 => ?_
 refine wp_regS (l := [0, 1, 2, 3, 4, 5, 6, 7, 8]) (by kernel_rfl) (by kernel_rfl) fun KR4 kr4 => ?_
 refine wpS.take 0 true (some 13) (.agg #[.int .i64 a0_0, .int .i64 a0_1, .int .i32 a0_2, .int .i64 a0_3, .int .i32 a0_4, .int .i32 a0_5, .int .i64 a0_6, .int .i64 a0_7]) (by kernel_rfl) (yld_loadW (e := 23) (n := 8) hs 1 rfl (by kernel_rfl) (by kernel_rfl) (by kernel_rfl) (by simp [enc_len]) .grow) ?_
 obtain ⟨⟨r3, r4, r5⟩, hg, h⟩ := of_bind h
 refine wpS.only 1 (op_call (d := (some 14)) (by kernel_rfl) hs (fun _ => by kernel_rfl) (ref22_Sizes.ok hg _) ?_)
 intro w gw hs
 refine ⟨fun _ => trivial, ?_⟩
 refine wpS.ps [(2, 12, .tuple #[.int .i64 r3, .int .i64 r4, .int .i64 r5]), (3, 15, .int .i64 r3), (4, 16, .int .i64 r4), (5, 17, .int .i64 r5), (6, 6, .int .i64 r3), (7, 7, .int .i64 r4), (8, 8, .int .i64 r5)] (by kernel_rfl) ?_
 refine wpS.fin rfl (kr4 _ _ ?_)
 refine then_n (ks3 _ _ ?_)
 refine xseq_k fun KS5 ks5 => ?_
 refine xseq_k fun KS6 ks6 => ?_
 refine wp_regS (l := [0, 1, 2, 3, 4, 5, 6, 7, 8]) (by kernel_rfl) (by kernel_rfl) fun KR7 kr7 => ?_
 refine wpS.take 0 true (some 18) (.agg #[.int .i64 a0_0, .int .i64 a0_1, .int .i32 a0_2, .int .i64 a0_3, .int .i32 a0_4, .int .i32 a0_5, .int .i64 a0_6, .int .i64 a0_7]) (by kernel_rfl) (yld_loadW (e := 23) (n := 8) hs 1 rfl (by kernel_rfl) (by kernel_rfl) (by kernel_rfl) (by simp [enc_len]) .grow) ?_
 obtain ⟨r6, hg, h⟩ := of_bind h
 cases r6 with
 | true =>
  have h := of_if_t h
  refine wpS.only 1 (op_call (d := (some 19)) (by kernel_rfl) hs (fun _ => by kernel_rfl) (ref22_Known.ok hg _) ?_)
  intro w gw hs
  refine ⟨fun _ => trivial, ?_⟩
  refine wpS.ps [(2, 20, .bool false), (3, 21, .bool false), (4, 22, .slice a1_A a1_n a1_c)] (by kernel_rfl) ?_
  refine wpS.take 5 false (some 23) (.int .i64 (a1.length : Int)) (by kernel_rfl) (yld_lenL (hs.rowF 0 rfl) (fun _ => by kernel_rfl)) ?_
  refine wpS.p 6 24 (.int .i64 r3) (by kernel_rfl) ?_
  rcases of_if h with ⟨hc, h⟩ | ⟨hc, h⟩
  ·refine wpS.take 7 false (some 25) (.bool false) (by kernel_rfl) (yld_b (nf hc) (fun _ => by kernel_rfl)) ?_
   refine wpS.p 8 26 (.bool false) (by kernel_rfl) ?_
   refine wpS.fin rfl (kr7 _ _ ?_)
   refine then_n (ks6 _ _ ?_)
   refine wp_cond_f (by kernel_rfl) ?_
   refine xskip ?_
   refine then_n (ks5 _ _ ?_)
   refine xseq_k fun KS8 ks8 => ?_
   refine wp_regG [] (fun k => True) 12 (by kernel_rfl) (by kernel_rfl) (by kernel_rfl) fun KR9 kr9 => ?_
   have hs := hs.drawn1
   refine wpG.takeD 0 false (some 29) (.slice a1_A a1_n a1_c) (by kernel_rfl) (by kernel_rfl) (yld fun _ => by kernel_rfl) ?_
   obtain ⟨h0, h⟩ := of_chk h
   obtain ⟨h1, h⟩ := of_chk h
   obtain ⟨h2, h⟩ := of_chk h
   obtain ⟨s7_A, hA⟩ : ∃ A, A = if a1_c = (32 : Int).toNat then a1_A else adr a1_A ((32 : Int).toNat * Cod.size (CI .u8)) := ⟨_, rfl⟩
   obtain ⟨s7_n, hn⟩ : ∃ n, n = ((a1.length : Int) : Int).toNat - (32 : Int).toNat := ⟨_, rfl⟩
   obtain ⟨s7_c, hc⟩ : ∃ c, c = a1_c - (32 : Int).toNat := ⟨_, rfl⟩
   refine wpG.takeD 1 false (some 30) (.slice s7_A s7_n s7_c) (by kernel_rfl) (by kernel_rfl) (yld_sub (C := (CI .u8)) (t := 24) (e := 5) (low := some (.int .i64 32)) (high := none) (lo := 32) (hi := (a1.length : Int)) (hs.rowF 0 rfl) (by kernel_rfl) (by kernel_rfl) (by kernel_rfl) (.inr ⟨_, rfl⟩) (.inl ⟨rfl, rfl⟩) h0 h1 h2 hA hn hc) ?_
   have hs := hs.addSubF (C := (CI .u8)) 0 rfl h0 h1 h2 hA hn hc
   refine wpG.takeD 2 false (some 31) (.pointer (some ⟨b1, 0, none⟩)) (by kernel_rfl) (by kernel_rfl) (yld fun _ => by kernel_rfl) ?_
   refine wpG.takeD 3 true (some 32) (.int .i64 a0_0) (by kernel_rfl) (by kernel_rfl) (yld_load1 (e := 3) (o := 0) hs 1 rfl (by kernel_rfl) (by kernel_rfl) (by rfl) .grow) ?_
   obtain ⟨⟨r8, r9, r10⟩, hg, h⟩ := of_bind h
   refine wpG.only 4 (by kernel_rfl) (op_callHR (d := (some 33)) (by kernel_rfl) hs (fun _ => by kernel_rfl) (ref22_unrow.ok hg _ (hs.rowF 0 rfl)) (fun _ => (far_cons 0 rfl (hs.inF 0 rfl) far_nil)) ?_)
   rintro ⟨⟨r8_A, r8_n, r8_c⟩, ⟨r9_A, r9_n, r9_c⟩⟩ w gw hs
   have hs := (hs.conv (L' := [.ownL (CA .i32 256 (by decide)) r8_A r8_n r8_c r8 40, .blk b2 ([.slice none 0 0, .slice none 0 0]) 27, .blk b1 ([.int .i64 a0_0, .int .i64 a0_1, .int .i32 a0_2, .int .i64 a0_3, .int .i32 a0_4, .int .i32 a0_5, .int .i64 a0_6, .int .i64 a0_7]) 23]) rfl).convR (R' := [.rowF (Ent.rowL (CI .u8) s7_A s7_n s7_c (subL a1 32 (a1.length : Int))).foot (CI .u8) r9_A r9_n r9_c r9, .rowF (Ent.rowL (CI .u8) a1_A a1_n a1_c a1).foot (CI .u8) s7_A s7_n s7_c (subL a1 32 (a1.length : Int)), .rowF (Ent.rowL (CI .u8) a1_A a1_n a1_c a1).foot (CI .u8) a1_A a1_n a1_c a1]) rfl
   have hs := hs.asF (F := (Ent.rowL (CI .u8) a1_A a1_n a1_c a1).foot) 0 1 rfl rfl (hs.inF 1 rfl)
   refine ⟨.of gw, ?_⟩
   refine wpG.p 5 28 (.tuple #[.slice r8_A r8_n r8_c, .slice r9_A r9_n r9_c, .bool r10]) (by kernel_rfl) (by kernel_rfl) ?_
   refine wpG.p 6 34 (.slice r8_A r8_n r8_c) (by kernel_rfl) (by kernel_rfl) ?_
   refine wpG.p 7 35 (.slice r9_A r9_n r9_c) (by kernel_rfl) (by kernel_rfl) ?_
   refine wpG.p 8 36 (.bool r10) (by kernel_rfl) (by kernel_rfl) ?_
   refine wpG.p 9 9 (.slice r8_A r8_n r8_c) (by kernel_rfl) (by kernel_rfl) ?_
   refine wpG.p 10 10 (.slice r9_A r9_n r9_c) (by kernel_rfl) (by kernel_rfl) ?_
   refine wpG.p 11 11 (.bool r10) (by kernel_rfl) (by kernel_rfl) ?_
   refine wpG.fin (by kernel_rfl) rfl (kr9 _ _ ?_)
   refine then_n (ks8 _ _ ?_)
   refine xseq_k fun KS10 ks10 => ?_
   refine wp_regS (l := [0, 1, 2, 3, 4, 5, 6]) (by kernel_rfl) (by kernel_rfl) fun KR11 kr11 => ?_
   refine wpS.p 0 37 (.slice a1_A a1_n a1_c) (by kernel_rfl) ?_
   obtain ⟨h0, h⟩ := of_chk h
   obtain ⟨h1, h⟩ := of_chk h
   obtain ⟨h2, h⟩ := of_chk h
   obtain ⟨s11_A, hA⟩ : ∃ A, A = if a1_c = (0 : Int).toNat then a1_A else adr a1_A ((0 : Int).toNat * Cod.size (CI .u8)) := ⟨_, rfl⟩
   obtain ⟨s11_n, hn⟩ : ∃ n, n = (32 : Int).toNat - (0 : Int).toNat := ⟨_, rfl⟩
   obtain ⟨s11_c, hc⟩ : ∃ c, c = a1_c - (0 : Int).toNat := ⟨_, rfl⟩
   refine wpS.take 1 false (some 38) (.slice s11_A s11_n s11_c) (by kernel_rfl) (yld_sub (C := (CI .u8)) (t := 24) (e := 5) (low := none) (high := some (.int .i64 32)) (lo := 0) (hi := 32) (hs.rowF 3 rfl) (by kernel_rfl) (by kernel_rfl) (by kernel_rfl) (.inl ⟨rfl, rfl⟩) (.inr ⟨_, rfl⟩) h0 h1 h2 hA hn hc) ?_
   have hs := hs.addSubF (C := (CI .u8)) 3 rfl h0 h1 h2 hA hn hc
   refine wpS.ps [(2, 39, .slice r8_A r8_n r8_c), (3, 40, .agg #[.slice s11_A s11_n s11_c, .slice r8_A r8_n r8_c]), (4, 41, .bool r10)] (by kernel_rfl) ?_
   refine wpS.only 5 (op_storeW (t := 27) (v := .agg #[.slice s11_A s11_n s11_c, .slice r8_A r8_n r8_c]) (d := none) (by kernel_rfl) hs 1 rfl (vs := [.slice s11_A s11_n s11_c, .slice r8_A r8_n r8_c]) (n := 2) (by kernel_rfl) (by kernel_rfl) (by kernel_rfl) (by simp [enc_len]) (by simp [enc_len]) (by simp [Value.oneCell']) ?_)
   intro w kp hs
   refine ⟨fun _ => trivial, ?_⟩
   refine wpS.p 6 5 (.bool r10) (by kernel_rfl) ?_
   refine wpS.fin rfl (kr11 _ _ ?_)
   refine then_n (ks10 _ _ ?_)
   refine xret ?_
   obtain ⟨q0, qr0⟩ := Prod.mk.inj (of_some h)
   obtain ⟨q1, qr1⟩ := Prod.mk.inj (qr0)
   have q2 := qr1
   subst q0
   subst q1
   subst q2
   exact qq _ _ (post_ret (by kernel_rfl) (run_results [.cell 4 27, .tmp 5] [.agg #[.slice s11_A s11_n s11_c, .slice r8_A r8_n r8_c], .bool r10] (by kernel_rfl) (.cons (res_cellN (n := 2) hs 1 rfl (by kernel_rfl) (by kernel_rfl) (by kernel_rfl) (by simp [enc_len])) (.cons (res_tmp (by kernel_rfl)) .nil))) ⟨⟨⟨s11_A, s11_n, s11_c⟩, ⟨r8_A, r8_n, r8_c⟩⟩, congrArg Ending.returned (by kernel_rfl), ((hs.drop (.cons_cons _ (.cons _ (.cons _ .slnil)))).pickR (pick_cons 0 rfl pick_nil))⟩)
  ·refine wpS.take 7 false (some 25) (.bool true) (by kernel_rfl) (yld_b (nt hc) (fun _ => by kernel_rfl)) ?_
   refine wpS.p 8 26 (.bool true) (by kernel_rfl) ?_
   refine wpS.fin rfl (kr7 _ _ ?_)
   refine then_n (ks6 _ _ ?_)
   refine wp_cond_t (by kernel_rfl) ?_
   refine xseq_k fun KS12 ks12 => ?_
   refine wp_regS (l := [0, 1, 2]) (by kernel_rfl) (by kernel_rfl) fun KR13 kr13 => ?_
   refine wpS.p 0 27 (.agg #[.slice none 0 0, .slice none 0 0]) (by kernel_rfl) ?_
   refine wpS.only 1 (op_storeW (t := 27) (v := .agg #[.slice none 0 0, .slice none 0 0]) (d := none) (by kernel_rfl) hs 0 rfl (vs := [.slice none 0 0, .slice none 0 0]) (n := 2) (by kernel_rfl) (by kernel_rfl) (by kernel_rfl) (by simp [enc_len]) (by simp [enc_len]) (by simp [Value.oneCell']) ?_)
   intro w kp hs
   refine ⟨fun _ => trivial, ?_⟩
   refine wpS.p 2 5 (.bool false) (by kernel_rfl) ?_
   refine wpS.fin rfl (kr13 _ _ ?_)
   refine then_n (ks12 _ _ ?_)
   refine xret ?_
   refine then_r ?_
   obtain ⟨q0, qr0⟩ := Prod.mk.inj (of_some h)
   obtain ⟨q1, qr1⟩ := Prod.mk.inj (qr0)
   have q2 := qr1
   subst q0
   subst q1
   subst q2
   have hs := hs.addNilL (CA .i32 256 (by decide)) 40
   have hs := hs.addNilF 0 (CI .u8) rfl
   exact qq _ _ (post_ret (by kernel_rfl) (run_results [.cell 4 27, .tmp 5] [.agg #[.slice none 0 0, .slice none 0 0], .bool false] (by kernel_rfl) (.cons (res_cellN (n := 2) hs 1 rfl (by kernel_rfl) (by kernel_rfl) (by kernel_rfl) (by simp [enc_len])) (.cons (res_tmp (by kernel_rfl)) .nil))) ⟨⟨⟨none, 0, 0⟩, ⟨none, 0, 0⟩⟩, congrArg Ending.returned (by kernel_rfl), ((hs.drop (.cons_cons _ (.cons _ (.cons _ .slnil)))).pickR (pick_cons 0 rfl pick_nil))⟩)
 | false =>
  have h := of_if_f h
  refine wpS.only 1 (op_call (d := (some 19)) (by kernel_rfl) hs (fun _ => by kernel_rfl) (ref22_Known.ok hg _) ?_)
  intro w gw hs
  refine ⟨fun _ => trivial, ?_⟩
  refine wpS.ps [(2, 20, .bool true), (3, 21, .bool true), (4, 22, undef), (5, 23, undef), (6, 24, undef), (7, 25, undef), (8, 26, .bool true)] (by kernel_rfl) ?_
  refine wpS.fin rfl (kr7 _ _ ?_)
  refine then_n (ks6 _ _ ?_)
  refine wp_cond_t (by kernel_rfl) ?_
  refine xseq_k fun KS14 ks14 => ?_
  refine wp_regS (l := [0, 1, 2]) (by kernel_rfl) (by kernel_rfl) fun KR15 kr15 => ?_
  refine wpS.p 0 27 (.agg #[.slice none 0 0, .slice none 0 0]) (by kernel_rfl) ?_
  refine wpS.only 1 (op_storeW (t := 27) (v := .agg #[.slice none 0 0, .slice none 0 0]) (d := none) (by kernel_rfl) hs 0 rfl (vs := [.slice none 0 0, .slice none 0 0]) (n := 2) (by kernel_rfl) (by kernel_rfl) (by kernel_rfl) (by simp [enc_len]) (by simp [enc_len]) (by simp [Value.oneCell']) ?_)
  intro w kp hs
  refine ⟨fun _ => trivial, ?_⟩
  refine wpS.p 2 5 (.bool false) (by kernel_rfl) ?_
  refine wpS.fin rfl (kr15 _ _ ?_)
  refine then_n (ks14 _ _ ?_)
  refine xret ?_
  refine then_r ?_
  obtain ⟨q0, qr0⟩ := Prod.mk.inj (of_some h)
  obtain ⟨q1, qr1⟩ := Prod.mk.inj (qr0)
  have q2 := qr1
  subst q0
  subst q1
  subst q2
  have hs := hs.addNilL (CA .i32 256 (by decide)) 40
  have hs := hs.addNilF 0 (CI .u8) rfl
  exact qq _ _ (post_ret (by kernel_rfl) (run_results [.cell 4 27, .tmp 5] [.agg #[.slice none 0 0, .slice none 0 0], .bool false] (by kernel_rfl) (.cons (res_cellN (n := 2) hs 1 rfl (by kernel_rfl) (by kernel_rfl) (by kernel_rfl) (by simp [enc_len])) (.cons (res_tmp (by kernel_rfl)) .nil))) ⟨⟨⟨none, 0, 0⟩, ⟨none, 0, 0⟩⟩, congrArg Ending.returned (by kernel_rfl), ((hs.drop (.cons_cons _ (.cons _ (.cons _ .slnil)))).pickR (pick_cons 0 rfl pick_nil))⟩)
end Go.Proofs.Ytblploekkjeolaa
