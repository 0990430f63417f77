/- Printed by this work's own program: the code of each function below comes to the answer that its plain form tells. -/
import Derived.Test.YtmpagpbnpgcecaaMd
import Derived.Test.YtmpagpbnpgcecaaProg
import Derived.Test.YtmpagpbnpgcecaaGF0
import Derived.Test.YtmpagpbnpgcecaaGX0
import Derived.Test.YtmpagpbnpgcecaaGX2
import Derived.Test.YtmpagpbnpgcecaaGX3
import Derived.Test.YtmpagpbnpgcecaaGX7
import Derived.Test.YtmpagpbnpgcecaaGX8
set_option linter.unusedVariables false
set_option linter.unusedSimpArgs false
set_option maxRecDepth 100000
set_option maxHeartbeats 4000000
namespace Go.Proofs.Ytmpagpbnpgcecaa
open Go.Mx
attribute [local irreducible] wpOp

theorem gcm_summer_add_s.ok {K : Nat} {ca0 : Int} {ca1 : Int} {ca2 : Int} {ca3 : Int} {ca4 : List Int} {y1_0_0 : Int} {y1_0_1 : Int} {y1_1_0 : Int} {y1_1_1 : Int} {cb0 : Nat} {ca4_A : Option Addr} {ca4_n : Nat} {ca4_c : Nat} (h : gcm_summer_add_s.f K ca0 ca1 ca2 ca3 ca4 = some (y1_0_0, y1_0_1, y1_1_0, y1_1_1)) {w0 w : World} {X : List Nat} {Lt Rt : List Ent} (hs : St w0 X (.blk cb0 ([.int .u64 ca0, .int .u64 ca1, .int .u64 ca2, .int .u64 ca3]) 91 :: Lt) (.rowL (CI .u8) ca4_A ca4_n ca4_c ca4 :: Rt) w) : Calls Try.prog 79 #[.pointer (some ⟨cb0, 0, none⟩), .slice ca4_A ca4_n ca4_c] w fun e w' => e = .returned (.tuple #[]) ∧ St w0 X (.blk cb0 ([.int .u64 y1_0_0, .int .u64 y1_0_1, .int .u64 y1_1_0, .int .u64 y1_1_1]) 91 :: Lt) (.rowL (CI .u8) ca4_A ca4_n ca4_c ca4 :: Rt) w' := by
 refine calls_kn Try.func79 rfl fun Q qq qn => ?_
 refine wp_conv (a' := ⟨#[.pointer (some ⟨cb0, 0, none⟩), .slice ca4_A ca4_n ca4_c, undef, undef, undef, undef, undef, undef, undef, undef, undef, undef, undef, undef, undef, undef, undef, undef, undef, undef, undef, undef, undef, undef, undef, undef, undef, undef, undef, undef], []⟩) (by kernel_rfl) ?_
 obtain ⟨⟨y4_0_0, y4_0_1, y4_1_0, y4_1_1⟩, hy, hk0⟩ := of_bind h
 refine wp_exq (N := fun a w => St w0 X (.blk cb0 ([.int .u64 y4_0_0, .int .u64 y4_0_1, .int .u64 y4_1_0, .int .u64 y4_1_1]) 91 :: Lt) (.rowL (CI .u8) ca4_A ca4_n ca4_c ca4 :: Rt) w ∧ ∃ g2 : Nat → Value, a = ⟨#[.pointer (some ⟨cb0, 0, none⟩), (g2 1), undef, undef, (g2 4), (g2 5), (g2 6), (g2 7), (g2 8), (g2 9), (g2 10), (g2 11), (g2 12), (g2 13), (g2 14), (g2 15), (g2 16), (g2 17), (g2 18), (g2 19), (g2 20), (g2 21), (g2 22), (g2 23), (g2 24), (g2 25), (g2 26), (g2 27), (g2 28), (g2 29)], []⟩) (fun N0 nn0 => ?_) ?_
 ·clear hk0
  refine xblock ?_
  refine wp_loop_k (fun n a w => ∃ z2_0_0 z2_0_1 z2_1_0 z2_1_1 z3, ∃ (z3_A : Option Addr) (z3_n : Nat) (z3_c : Nat), gcm_summer_add_s.l0 K n z2_0_0 z2_0_1 z2_1_0 z2_1_1 z3 = some (y4_0_0, y4_0_1, y4_1_0, y4_1_1) ∧ St w0 X (.blk cb0 ([.int .u64 z2_0_0, .int .u64 z2_0_1, .int .u64 z2_1_0, .int .u64 z2_1_1]) 91 :: Lt) (.rowL (CI .u8) z3_A z3_n z3_c z3 :: .rowL (CI .u8) ca4_A ca4_n ca4_c ca4 :: Rt) w ∧ ∃ g1 : Nat → Value, a = ⟨#[.pointer (some ⟨cb0, 0, none⟩), .slice z3_A z3_n z3_c, undef, undef, (g1 4), (g1 5), (g1 6), (g1 7), (g1 8), (g1 9), (g1 10), (g1 11), (g1 12), (g1 13), (g1 14), (g1 15), (g1 16), (g1 17), (g1 18), (g1 19), (g1 20), (g1 21), (g1 22), (g1 23), (g1 24), (g1 25), (g1 26), (g1 27), (g1 28), (g1 29)], []⟩) K ⟨ca0, ca1, ca2, ca3, ca4, ca4_A, ca4_n, ca4_c, hy, (hs.conv (L' := (.blk cb0 ([.int .u64 ca0, .int .u64 ca1, .int .u64 ca2, .int .u64 ca3]) 91 :: Lt)) rfl).pickR (pick_cons 0 rfl (pick_cons 0 rfl (fun _ he => .tail _ (he)))), exg (by kernel_rfl)⟩ ?_
  clear hs h hy
  rintro n a w ⟨z2_0_0, z2_0_1, z2_1_0, z2_1_1, z3, z3_A, z3_n, z3_c, h, hs, g1, rfl⟩ KL0 kl0
  cases n with
  | zero => exact nomatch (show none = some _ from h)
  | succ n =>
   refine xseq_k fun KS3 ks3 => ?_
   refine xseq_k fun KS4 ks4 => ?_
   refine xregS [0, 1, 2] fun KR5 kr5 => ?_
   refine wpS.q 0 6 (.slice z3_A z3_n z3_c) ?_
   refine wpS.tk 1 false (some 7) (.int .i64 (z3.length : Int)) (yld_lenL (hs.rowR 0 rfl) (fun _ => by kernel_rfl)) ?_
   rcases of_if h with ⟨hc, h⟩ | ⟨hc, h⟩
   ·refine wpS.tk 2 false (some 8) (.bool true) (yld_b (dt hc) (fun _ => by kernel_rfl)) ?_
    refine wpS.fin rfl (kr5 _ _ (then_n (ks4 _ _ (wp_cond_t (by kernel_rfl) (xskip (then_n (ks3 _ _ (xblock (xseq_k fun KS6 ks6 => (xregS [0] fun KR7 kr7 => ?_))))))))))
    refine wpS.only 0 (op_alloc (t := 42) (d := (some 4)) (by kernel_rfl) hs (enc .u8 (zeroA 16)) (.agg (enc .u8 (zeroA 16)).toArray) (by kernel_rfl) (by kernel_rfl) (by kernel_rfl) ?_)
    intro b5 w gw hs
    refine ⟨fun _ => trivial, ?_⟩
    refine wpS.fin rfl (kr7 _ _ (then_n (ks6 _ _ (xseq_k fun KS8 ks8 => (xregS [0, 1, 2, 3] fun KR9 kr9 => ?_)))))
    refine wpS.tk 0 false (some 9) (.slice (some ⟨b5, 0 + (0 : Int).toNat * 1, none⟩) ((16 : Int).toNat - (0 : Int).toNat) (16 - (0 : Int).toNat)) (yld_slA2 (t := 42) (e := 5) (n := 16) (low := Option.none) (high := Option.none) (lo := 0) (hi := 16) (by kernel_rfl) (by kernel_rfl) (by kernel_rfl) (.inl ⟨rfl, rfl⟩) (.inl ⟨rfl, rfl⟩) (by decide) (by decide) (by decide) (by decide)) ?_
    refine wpS.q 1 10 (.slice z3_A z3_n z3_c) ?_
    refine wpS.only 2 (op_copyA (td := 26) (ts := 26) (ty := 3) (e := 5) (n := 16) (k := .u8) (c := (zeroA 16)) (lo := 0) (hi := 16) (d := (some 11)) (by kernel_rfl) hs 0 rfl (hs.rowR 0 rfl) (by kernel_rfl) (by kernel_rfl) (by kernel_rfl) (by decide) (by decide) (by decide) ?_)
    intro w kp hs
    refine ⟨fun _ => trivial, ?_⟩
    obtain ⟨x6, hx, h⟩ := of_bind h
    refine wpS.tk 3 false (some 5) (.int .i64 x6) (yld_int hx (fun _ => by kernel_rfl)) ?_
    refine wpS.fin rfl (kr9 _ _ (then_n (ks8 _ _ (xseq_k fun KS11 ks11 => ?_))))
    refine wp_regG [15] (fun k => True) 16 (by kernel_rfl) (by kernel_rfl) (by kernel_rfl) fun KR12 kr12 => ?_
    have hs := hs.drawn1
    refine wpG.q 0 12 (.pointer (some ⟨cb0, 0, none⟩)) ?_
    refine wpG.q 1 13 (.pointer (some ⟨cb0, 0, none⟩)) ?_
    refine wpG.q 2 14 (.pointer (some ⟨cb0, 0, none⟩)) ?_
    refine wpG.q 3 15 (.pointer (some ⟨cb0, 2, none⟩)) ?_
    refine wpG.tD 4 true (some 16) (.agg #[.int .u64 z2_1_0, .int .u64 z2_1_1]) (yld_loadN (e := 84) (n := 2) (o := 2) hs 1 rfl (by kernel_rfl) (by kernel_rfl) (by kernel_rfl) (by simp [enc_len]) (by simp [enc_len]) .grow) ?_
    refine wpG.tD 5 false (some 17) (.slice (some ⟨b5, 0 + (0 : Int).toNat * 1, none⟩) ((16 : Int).toNat - (0 : Int).toNat) (16 - (0 : Int).toNat)) (yld_slA2 (t := 42) (e := 5) (n := 16) (low := Option.none) (high := Option.none) (lo := 0) (hi := 16) (by kernel_rfl) (by kernel_rfl) (by kernel_rfl) (.inl ⟨rfl, rfl⟩) (.inl ⟨rfl, rfl⟩) (by decide) (by decide) (by decide) (by decide)) ?_
    refine wpG.q 8 20 (.pointer (some ⟨cb0, 0, none⟩)) ?_
    refine wpG.q 9 21 (.pointer (some ⟨cb0, 0, none⟩)) ?_
    refine wpG.q 10 22 (.pointer (some ⟨cb0, 0, none⟩)) ?_
    refine wpG.tD 11 true (some 23) (.agg #[.int .u64 z2_0_0, .int .u64 z2_0_1]) (yld_loadN (e := 84) (n := 2) (o := 0) hs 1 rfl (by kernel_rfl) (by kernel_rfl) (by kernel_rfl) (by simp [enc_len]) (by simp [enc_len]) .grow) ?_
    obtain ⟨⟨r7_0, r7_1⟩, hg, h⟩ := of_bind h
    refine wpG.only 6 (by kernel_rfl) (op_call (d := (some 18)) (by kernel_rfl) hs (fun _ => by kernel_rfl) (gcm_read.ok hg _ (hs.rowB (lo := 0) (hi := 16) 0 rfl (by decide) (by decide) (by decide))) ?_)
    intro w gw hs
    refine ⟨.of gw, ?_⟩
    obtain ⟨⟨r8_0, r8_1⟩, hg, h⟩ := of_bind h
    refine wpG.only 7 (by kernel_rfl) (op_call (d := (some 19)) (by kernel_rfl) hs (fun _ => by kernel_rfl) (gcm_element_xor.ok hg _) ?_)
    intro w gw hs
    refine ⟨.of gw, ?_⟩
    obtain ⟨⟨r9_0, r9_1⟩, hg, h⟩ := of_bind h
    refine wpG.only 12 (by kernel_rfl) (op_call (d := (some 24)) (by kernel_rfl) hs (fun _ => by kernel_rfl) (gcm_element_times.ok hg _) ?_)
    intro w gw hs
    refine ⟨.of gw, ?_⟩
    refine wpG.q 13 25 (.pointer (some ⟨cb0, 0, none⟩)) ?_
    refine wpG.q 14 26 (.pointer (some ⟨cb0, 2, none⟩)) ?_
    refine wpG.only 15 (by kernel_rfl) (op_storeM (t := 84) (o := 2) (m := 2) (v := .agg #[.int .u64 r9_0, .int .u64 r9_1]) (vs := [.int .u64 r9_0, .int .u64 r9_1]) (c' := [.int .u64 z2_0_0, .int .u64 z2_0_1, .int .u64 r9_0, .int .u64 r9_1]) (d := none) (by kernel_rfl) hs 1 rfl (by kernel_rfl) (by kernel_rfl) (by kernel_rfl) rfl (by simp) (by simp [Value.oneCell']) (by kernel_rfl) ?_)
    intro w kp hs
    refine ⟨⟨fun hf => absurd hf (by decide), .all _ _⟩, ?_⟩
    refine wpG.fin (by kernel_rfl) rfl (kr12 _ _ ?_)
    refine then_n (ks11 _ _ (xregS [0, 1, 2, 3] fun KR14 kr14 => ?_))
    refine wpS.qs [(0, 27, .slice z3_A z3_n z3_c), (1, 28, .int .i64 x6)] ?_
    obtain ⟨h0, h⟩ := of_chk h
    obtain ⟨h1, h⟩ := of_chk h
    obtain ⟨h2, h⟩ := of_chk h
    obtain ⟨s10_A, hA⟩ : ∃ A, A = if z3_c = (x6 : Int).toNat then z3_A else adr z3_A ((x6 : Int).toNat * Cod.size (CI .u8)) := ⟨_, rfl⟩
    obtain ⟨s10_n, hn⟩ : ∃ n, n = ((z3.length : Int) : Int).toNat - (x6 : Int).toNat := ⟨_, rfl⟩
    obtain ⟨s10_c, hc⟩ : ∃ c, c = z3_c - (x6 : Int).toNat := ⟨_, rfl⟩
    refine wpS.tk 2 false (some 29) (.slice s10_A s10_n s10_c) (yld_sub (C := (CI .u8)) (t := 26) (e := 5) (low := some (.int .i64 x6)) (high := none) (lo := x6) (hi := (z3.length : Int)) (hs.rowR 0 rfl) (by kernel_rfl) (by kernel_rfl) (by kernel_rfl) (.inr ⟨_, rfl⟩) (.inl ⟨rfl, rfl⟩) h0 h1 h2 hA hn hc) ?_
    have hs := hs.addSub (C := (CI .u8)) 0 rfl h0 h1 h2 hA hn hc
    refine wpS.q 3 1 (.slice s10_A s10_n s10_c) ?_
    refine wpS.fin rfl (kr14 _ _ (inBlock_n ?_))
    exact then_n (kl0 _ _ ⟨n, Nat.lt_succ_self n, z2_0_0, z2_0_1, r9_0, r9_1, (subL z3 x6 (z3.length : Int)), s10_A, s10_n, s10_c, h, ((hs.drop (.cons _ (.cons_cons _ (.refl _)))).pickR (pick_cons 0 rfl (pick_cons 2 rfl (fun _ he => .tail _ (.tail _ (.tail _ (he))))))), exg (by kernel_rfl)⟩)
   refine wpS.tk 2 false (some 8) (.bool false) (yld_b (df hc) (fun _ => by kernel_rfl)) ?_
   refine wpS.fin rfl (kr5 _ _ (then_n (ks4 _ _ (wp_cond_f (by kernel_rfl) (xexit (then_x (then_x (inBlock_hit ?_))))))))
   obtain ⟨q0, qr0⟩ := Prod.mk.inj (of_some h)
   obtain ⟨q1, qr1⟩ := Prod.mk.inj (qr0)
   obtain ⟨q2, qr2⟩ := Prod.mk.inj (qr1)
   have q3 := qr2
   subst q0
   subst q1
   subst q2
   subst q3
   exact exq_n (nn0 _ _ ⟨(hs.pickR (pick_cons 1 rfl (fun _ he => .tail _ (.tail _ (he))))), exg (by kernel_rfl)⟩)
 clear hs h hy
 rintro a w ⟨hs, g2, rfl⟩
 have h := hk0
 obtain ⟨q0, qr0⟩ := Prod.mk.inj (of_some h)
 obtain ⟨q1, qr1⟩ := Prod.mk.inj (qr0)
 obtain ⟨q2, qr2⟩ := Prod.mk.inj (qr1)
 have q3 := qr2
 subst q0
 subst q1
 subst q2
 subst q3
 exact qn _ _ (post_nrm (by kernel_rfl) (run_results [] [] (by kernel_rfl) .nil) ⟨rfl, (hs.conv rfl)⟩)

theorem gcm_tag.ok {K : Nat} {a0 : List Int} {a1 : List Int} {a2 : List Int} {a3 : List Int} {r0 : List Int} {a0_A : Option Addr} {a0_n : Nat} {a0_c : Nat} {a1_A : Option Addr} {a1_n : Nat} {a1_c : Nat} {a2_A : Option Addr} {a2_n : Nat} {a2_c : Nat} {a3_A : Option Addr} {a3_n : Nat} {a3_c : Nat} (h : gcm_tag.f K a0 a1 a2 a3 = some r0) (w0 : World) (hp0 : RowL (CI .u8) w0 a0_A a0_n a0_c a0) (hp1 : RowL (CI .u8) w0 a1_A a1_n a1_c a1) (hp2 : RowL (CI .u8) w0 a2_A a2_n a2_c a2) (hp3 : RowL (CI .u8) w0 a3_A a3_n a3_c a3) : Calls Try.prog 67 #[.slice a0_A a0_n a0_c, .slice a1_A a1_n a1_c, .slice a2_A a2_n a2_c, .slice a3_A a3_n a3_c] w0 fun e w' => ∃ h : (Option Addr × Nat × Nat), e = .returned (.slice h.1 h.2.1 h.2.2) ∧ St w0 [] [.ownL (CI .u8) h.1 h.2.1 h.2.2 r0 5] [] w' := by
 refine calls_k Try.func67 rfl fun Q qq => ?_
 have hs := St.startR (all_cons (RowP.ent hp0) (all_cons (RowP.ent hp1) (all_cons (RowP.ent hp2) (all_cons (RowP.ent hp3) all_nil))))
 refine wp_conv (a' := ⟨#[.slice a0_A a0_n a0_c, .slice a1_A a1_n a1_c, .slice a2_A a2_n a2_c, .slice a3_A a3_n a3_c, undef, undef, undef, undef, undef, undef, undef, undef, undef, undef, undef, undef, undef, undef, undef, undef, undef, undef, undef, undef, undef, undef, undef, undef, undef, undef, undef, undef, undef, undef, undef, undef, undef, undef, undef, undef, undef, undef, undef, undef, undef, undef, undef, undef, undef, undef, undef, undef], []⟩) (by kernel_rfl) ?_
 refine xseq_k fun KS1 ks1 => ?_
 refine xregS [0] fun KR2 kr2 => ?_
 refine wpS.q 0 8 (.slice none 0 0) ?_
 refine wpS.fin rfl (kr2 _ _ (then_n (ks1 _ _ (xseq_k fun KS3 ks3 => (xregS [0, 1, 2, 3, 4, 5, 6, 7] fun KR4 kr4 => ?_)))))
 refine wpS.q 0 14 (.slice a0_A a0_n a0_c) ?_
 refine wpS.only 1 (op_makeT (C := (CI .u8)) (t := 26) (e := 5) (bytes := 1) (B := 140737488355328) (kl := .i64) (kc := .i64) (x := 16) (d := (some 15)) (by kernel_rfl) hs (by kernel_rfl) (by kernel_rfl) (by kernel_rfl) (by kernel_rfl) (by kernel_rfl) (by decide) (by decide) (by decide) (by decide) ?_)
 intro s1_A s1_n s1_c w gw hs
 refine ⟨fun _ => trivial, ?_⟩
 obtain ⟨⟨r2, r3⟩, hg, h⟩ := of_bind h
 refine wpS.only 2 (op_callH (d := (some 16)) (by kernel_rfl) hs (fun _ => by kernel_rfl) (aes_Block.ok hg _ (hs.rowR 0 rfl) (hs.rowL 0 rfl)) ?_)
 rintro ⟨r2_A, r2_n, r2_c⟩ w gw hs
 have hs := hs.conv (L' := [.rowL (CI .u8) r2_A r2_n r2_c r2, .ownL (CI .u8) s1_A s1_n s1_c (List.replicate (16 : Int).toNat (Cod.zero (CI .u8))) 5]) rfl
 have hs := hs.toR 0 rfl
 refine ⟨fun _ => trivial, ?_⟩
 refine wpS.qs [(3, 13, .tuple #[.slice r2_A r2_n r2_c, .int .i64 r3]), (4, 17, .slice r2_A r2_n r2_c), (5, 18, .int .i64 r3), (6, 9, .slice r2_A r2_n r2_c), (7, 10, .int .i64 r3)] ?_
 refine wpS.fin rfl (kr4 _ _ (then_n (ks3 _ _ (xseq_k fun KS5 ks5 => (xregS [0, 1, 2, 3, 4] fun KR6 kr6 => ?_)))))
 refine wpS.q 0 19 (.slice r2_A r2_n r2_c) ?_
 obtain ⟨⟨r4_0, r4_1⟩, hg, h⟩ := of_bind h
 refine wpS.only 1 (op_call (d := (some 20)) (by kernel_rfl) hs (fun _ => by kernel_rfl) (gcm_read.ok hg _ (hs.rowR 0 rfl)) ?_)
 intro w gw hs
 refine ⟨fun _ => trivial, ?_⟩
 refine wpS.q 2 21 (.agg #[.int .u64 r4_0, .int .u64 r4_1, .int .u64 0, .int .u64 0]) ?_
 refine wpS.only 3 (op_box (t := 91) (v := .agg #[.int .u64 r4_0, .int .u64 r4_1, .int .u64 0, .int .u64 0]) (d := (some 22)) (by kernel_rfl) hs ([.int .u64 r4_0, .int .u64 r4_1, .int .u64 0, .int .u64 0]) (by kernel_rfl) (by kernel_rfl) ?_)
 intro b5 w gw hs
 refine ⟨fun _ => trivial, ?_⟩
 refine wpS.q 4 11 (.pointer (some ⟨b5, 0, none⟩)) ?_
 refine wpS.fin rfl (kr6 _ _ (then_n (ks5 _ _ (xseq_k fun KS7 ks7 => (xregS [0, 1, 2] fun KR8 kr8 => ?_)))))
 refine wpS.qs [(0, 23, .pointer (some ⟨b5, 0, none⟩)), (1, 24, .func (.func 79) #[.pointer (some ⟨b5, 0, none⟩)] #[]), (2, 12, .func (.func 79) #[.pointer (some ⟨b5, 0, none⟩)] #[])] ?_
 refine wpS.fin rfl (kr8 _ _ (then_n (ks7 _ _ (xseq_k fun KS9 ks9 => (xregS [0, 1, 2] fun KR10 kr10 => ?_)))))
 refine wpS.qs [(0, 25, .func (.func 79) #[.pointer (some ⟨b5, 0, none⟩)] #[]), (1, 26, .slice a2_A a2_n a2_c)] ?_
 have hs := hs.pickR (pick_cons 3 rfl (pick_cons 0 rfl (pick_cons 1 rfl (pick_cons 2 rfl (pick_cons 4 rfl pick_nil)))))
 obtain ⟨⟨r6, r7, r8, r9⟩, hg, h⟩ := of_bind h
 refine wpS.only 2 (wpOp_call (d := (some 27)) (by kernel_rfl) (fun _ => by kernel_rfl) (gcm_summer_add_s.ok hg hs) ?_)
 rintro e w ⟨rfl, hs⟩
 refine ⟨_, rfl, ?_⟩
 refine ⟨fun _ => trivial, ?_⟩
 refine wpS.fin rfl (kr10 _ _ (then_n (ks9 _ _ (xseq_k fun KS11 ks11 => (xregS [0, 1, 2] fun KR12 kr12 => ?_)))))
 refine wpS.qs [(0, 28, .func (.func 79) #[.pointer (some ⟨b5, 0, none⟩)] #[]), (1, 29, .slice a3_A a3_n a3_c)] ?_
 have hs := hs.pickR (pick_cons 4 rfl (pick_cons 0 rfl (pick_cons 1 rfl (pick_cons 2 rfl (pick_cons 3 rfl pick_nil)))))
 obtain ⟨⟨r10, r11, r12, r13⟩, hg, h⟩ := of_bind h
 refine wpS.only 2 (wpOp_call (d := (some 30)) (by kernel_rfl) (fun _ => by kernel_rfl) (gcm_summer_add_s.ok hg hs) ?_)
 rintro e w ⟨rfl, hs⟩
 refine ⟨_, rfl, ?_⟩
 refine ⟨fun _ => trivial, ?_⟩
 refine wpS.fin rfl (kr12 _ _ (then_n (ks11 _ _ (xseq_k fun KS13 ks13 => (xregS [0, 1, 2, 3, 4, 5, 6, 7, 8, 9, 10, 11, 12, 13] fun KR14 kr14 => ?_)))))
 refine wpS.qs [(0, 31, .func (.func 79) #[.pointer (some ⟨b5, 0, none⟩)] #[]), (1, 32, .slice a2_A a2_n a2_c)] ?_
 refine wpS.tk 2 false (some 33) (.int .i64 (a2.length : Int)) (yld_lenL (hs.rowR 1 rfl) (fun _ => by kernel_rfl)) ?_
 refine wpS.qs [(3, 34, .int .u64 (iconv .u64 (a2.length : Int))), (4, 35, .int .u64 (imul .u64 8 (iconv .u64 (a2.length : Int))))] ?_
 obtain ⟨r14, hg, h⟩ := of_bind h
 refine wpS.only 5 (op_callH (d := (some 36)) (by kernel_rfl) hs (fun _ => by kernel_rfl) (bits_Be.ok hg _) ?_)
 rintro ⟨r14_A, r14_n, r14_c⟩ w gw hs
 have hs := hs.conv (L' := [.ownL (CI .u8) r14_A r14_n r14_c r14 5, .blk b5 ([.int .u64 r10, .int .u64 r11, .int .u64 r12, .int .u64 r13]) 91, .ownL (CI .u8) s1_A s1_n s1_c (List.replicate (16 : Int).toNat (Cod.zero (CI .u8))) 5]) rfl
 refine ⟨fun _ => trivial, ?_⟩
 refine wpS.q 6 37 (.slice a3_A a3_n a3_c) ?_
 refine wpS.tk 7 false (some 38) (.int .i64 (a3.length : Int)) (yld_lenL (hs.rowR 0 rfl) (fun _ => by kernel_rfl)) ?_
 refine wpS.qs [(8, 39, .int .u64 (iconv .u64 (a3.length : Int))), (9, 40, .int .u64 (imul .u64 8 (iconv .u64 (a3.length : Int))))] ?_
 obtain ⟨r15, hg, h⟩ := of_bind h
 refine wpS.only 10 (op_callH (d := (some 41)) (by kernel_rfl) hs (fun _ => by kernel_rfl) (bits_Be.ok hg _) ?_)
 rintro ⟨r15_A, r15_n, r15_c⟩ w gw hs
 have hs := hs.conv (L' := [.ownL (CI .u8) r15_A r15_n r15_c r15 5, .ownL (CI .u8) r14_A r14_n r14_c r14 5, .blk b5 ([.int .u64 r10, .int .u64 r11, .int .u64 r12, .int .u64 r13]) 91, .ownL (CI .u8) s1_A s1_n s1_c (List.replicate (16 : Int).toNat (Cod.zero (CI .u8))) 5]) rfl
 refine ⟨fun _ => trivial, ?_⟩
 refine wpS.only 11 (op_lit (C := CS) (t := 44) (e := 26) (len := 2) (parts := #[(0, .slice r14_A r14_n r14_c), (1, .slice r15_A r15_n r15_c)]) (l := ([(r14_A, r14_n, r14_c), (r15_A, r15_n, r15_c)] : List HS)) (d := (some 42)) (by kernel_rfl) hs (by kernel_rfl) (by kernel_rfl) (by kernel_rfl) (z := .slice none 0 0) (by kernel_rfl) rfl (by decide) (by decide) (by kernel_rfl) ?_)
 intro s16_A s16_n s16_c w gw hs
 refine ⟨fun _ => trivial, ?_⟩
 obtain ⟨r17, hg, h⟩ := of_bind h
 refine wpS.only 12 (op_callH (d := (some 43)) (by kernel_rfl) hs (fun _ => by kernel_rfl) (bits_Join.ok hg _ (LLP.mk (hs.rowL 0 rfl) (inn_cons (hs.rowL 2 rfl) (inn_cons (hs.rowL 1 rfl) inn_nil)))) ?_)
 rintro ⟨r17_A, r17_n, r17_c⟩ w gw hs
 have hs := hs.conv (L' := [.ownL (CI .u8) r17_A r17_n r17_c r17 5, .ownL CS s16_A s16_n s16_c ([(r14_A, r14_n, r14_c), (r15_A, r15_n, r15_c)] : List HS) 26, .ownL (CI .u8) r15_A r15_n r15_c r15 5, .ownL (CI .u8) r14_A r14_n r14_c r14 5, .blk b5 ([.int .u64 r10, .int .u64 r11, .int .u64 r12, .int .u64 r13]) 91, .ownL (CI .u8) s1_A s1_n s1_c (List.replicate (16 : Int).toNat (Cod.zero (CI .u8))) 5]) rfl
 refine ⟨fun _ => trivial, ?_⟩
 refine wpS.only 13 (op_inline (d := (some 44)) (f := 79) (args := #[.pointer (some ⟨b5, 0, none⟩), .slice r17_A r17_n r17_c]) (by kernel_rfl) (fun _ => by kernel_rfl) fun R15 kI15 => ?_)
 refine calls_kn Try.func79 rfl fun Q15 qq15 qn15 => ?_
 refine wp_conv (a' := ⟨#[.pointer (some ⟨b5, 0, none⟩), .slice r17_A r17_n r17_c, undef, undef, undef, undef, undef, undef, undef, undef, undef, undef, undef, undef, undef, undef, undef, undef, undef, undef, undef, undef, undef, undef, undef, undef, undef, undef, undef, undef], []⟩) (by kernel_rfl) ?_
 have hs := hs.freeze 0 rfl
 obtain ⟨⟨y20_0_0, y20_0_1, y20_1_0, y20_1_1⟩, hy, hk0⟩ := of_bind h
 refine wp_exq (N := fun a w => St w0 [] [.ownL CS s16_A s16_n s16_c ([(r14_A, r14_n, r14_c), (r15_A, r15_n, r15_c)] : List HS) 26, .ownL (CI .u8) r15_A r15_n r15_c r15 5, .ownL (CI .u8) r14_A r14_n r14_c r14 5, .blk b5 ([.int .u64 y20_0_0, .int .u64 y20_0_1, .int .u64 y20_1_0, .int .u64 y20_1_1]) 91, .ownL (CI .u8) s1_A s1_n s1_c (List.replicate (16 : Int).toNat (Cod.zero (CI .u8))) 5] [.rowL (CI .u8) r17_A r17_n r17_c r17, .rowL (CI .u8) a3_A a3_n a3_c a3, .rowL (CI .u8) a2_A a2_n a2_c a2, .rowL (CI .u8) r2_A r2_n r2_c r2, .rowL (CI .u8) a0_A a0_n a0_c a0, .rowL (CI .u8) a1_A a1_n a1_c a1] w ∧ ∃ g17 : Nat → Value, a = ⟨#[.pointer (some ⟨b5, 0, none⟩), (g17 1), undef, undef, (g17 4), (g17 5), (g17 6), (g17 7), (g17 8), (g17 9), (g17 10), (g17 11), (g17 12), (g17 13), (g17 14), (g17 15), (g17 16), (g17 17), (g17 18), (g17 19), (g17 20), (g17 21), (g17 22), (g17 23), (g17 24), (g17 25), (g17 26), (g17 27), (g17 28), (g17 29)], []⟩) (fun N0 nn0 => ?_) ?_
 ·clear hk0
  refine xblock ?_
  refine wp_loop_k (fun n a w => ∃ z18_0_0 z18_0_1 z18_1_0 z18_1_1 z19, ∃ (z19_A : Option Addr) (z19_n : Nat) (z19_c : Nat), gcm_tag.l0 K n z18_0_0 z18_0_1 z18_1_0 z18_1_1 z19 = some (y20_0_0, y20_0_1, y20_1_0, y20_1_1) ∧ St w0 [] [.ownL CS s16_A s16_n s16_c ([(r14_A, r14_n, r14_c), (r15_A, r15_n, r15_c)] : List HS) 26, .ownL (CI .u8) r15_A r15_n r15_c r15 5, .ownL (CI .u8) r14_A r14_n r14_c r14 5, .blk b5 ([.int .u64 z18_0_0, .int .u64 z18_0_1, .int .u64 z18_1_0, .int .u64 z18_1_1]) 91, .ownL (CI .u8) s1_A s1_n s1_c (List.replicate (16 : Int).toNat (Cod.zero (CI .u8))) 5] [.rowL (CI .u8) z19_A z19_n z19_c z19, .rowL (CI .u8) r17_A r17_n r17_c r17, .rowL (CI .u8) a3_A a3_n a3_c a3, .rowL (CI .u8) a2_A a2_n a2_c a2, .rowL (CI .u8) r2_A r2_n r2_c r2, .rowL (CI .u8) a0_A a0_n a0_c a0, .rowL (CI .u8) a1_A a1_n a1_c a1] w ∧ ∃ g16 : Nat → Value, a = ⟨#[.pointer (some ⟨b5, 0, none⟩), .slice z19_A z19_n z19_c, undef, undef, (g16 4), (g16 5), (g16 6), (g16 7), (g16 8), (g16 9), (g16 10), (g16 11), (g16 12), (g16 13), (g16 14), (g16 15), (g16 16), (g16 17), (g16 18), (g16 19), (g16 20), (g16 21), (g16 22), (g16 23), (g16 24), (g16 25), (g16 26), (g16 27), (g16 28), (g16 29)], []⟩) K ⟨r10, r11, r12, r13, r17, r17_A, r17_n, r17_c, hy, (hs.conv (L' := [.ownL CS s16_A s16_n s16_c ([(r14_A, r14_n, r14_c), (r15_A, r15_n, r15_c)] : List HS) 26, .ownL (CI .u8) r15_A r15_n r15_c r15 5, .ownL (CI .u8) r14_A r14_n r14_c r14 5, .blk b5 ([.int .u64 r10, .int .u64 r11, .int .u64 r12, .int .u64 r13]) 91, .ownL (CI .u8) s1_A s1_n s1_c (List.replicate (16 : Int).toNat (Cod.zero (CI .u8))) 5]) rfl).pickR (pick_cons 0 rfl (pick_cons 0 rfl (pick_cons 1 rfl (pick_cons 2 rfl (pick_cons 3 rfl (pick_cons 4 rfl (pick_cons 5 rfl pick_nil))))))), exg (by kernel_rfl)⟩ ?_
  clear hs h hy
  rintro n a w ⟨z18_0_0, z18_0_1, z18_1_0, z18_1_1, z19, z19_A, z19_n, z19_c, h, hs, g16, rfl⟩ KL0 kl0
  cases n with
  | zero => exact nomatch (show none = some _ from h)
  | succ n =>
   refine xseq_k fun KS18 ks18 => ?_
   refine xseq_k fun KS19 ks19 => ?_
   refine xregS [0, 1, 2] fun KR20 kr20 => ?_
   refine wpS.q 0 6 (.slice z19_A z19_n z19_c) ?_
   refine wpS.tk 1 false (some 7) (.int .i64 (z19.length : Int)) (yld_lenL (hs.rowR 0 rfl) (fun _ => by kernel_rfl)) ?_
   rcases of_if h with ⟨hc, h⟩ | ⟨hc, h⟩
   ·refine wpS.tk 2 false (some 8) (.bool true) (yld_b (dt hc) (fun _ => by kernel_rfl)) ?_
    refine wpS.fin rfl (kr20 _ _ (then_n (ks19 _ _ (wp_cond_t (by kernel_rfl) (xskip (then_n (ks18 _ _ (xblock (xseq_k fun KS21 ks21 => (xregS [0] fun KR22 kr22 => ?_))))))))))
    refine wpS.only 0 (op_alloc (t := 42) (d := (some 4)) (by kernel_rfl) hs (enc .u8 (zeroA 16)) (.agg (enc .u8 (zeroA 16)).toArray) (by kernel_rfl) (by kernel_rfl) (by kernel_rfl) ?_)
    intro b21 w gw hs
    refine ⟨fun _ => trivial, ?_⟩
    refine wpS.fin rfl (kr22 _ _ (then_n (ks21 _ _ (xseq_k fun KS23 ks23 => (xregS [0, 1, 2, 3] fun KR24 kr24 => ?_)))))
    refine wpS.tk 0 false (some 9) (.slice (some ⟨b21, 0 + (0 : Int).toNat * 1, none⟩) ((16 : Int).toNat - (0 : Int).toNat) (16 - (0 : Int).toNat)) (yld_slA2 (t := 42) (e := 5) (n := 16) (low := Option.none) (high := Option.none) (lo := 0) (hi := 16) (by kernel_rfl) (by kernel_rfl) (by kernel_rfl) (.inl ⟨rfl, rfl⟩) (.inl ⟨rfl, rfl⟩) (by decide) (by decide) (by decide) (by decide)) ?_
    refine wpS.q 1 10 (.slice z19_A z19_n z19_c) ?_
    refine wpS.only 2 (op_copyA (td := 26) (ts := 26) (ty := 3) (e := 5) (n := 16) (k := .u8) (c := (zeroA 16)) (lo := 0) (hi := 16) (d := (some 11)) (by kernel_rfl) hs 0 rfl (hs.rowR 0 rfl) (by kernel_rfl) (by kernel_rfl) (by kernel_rfl) (by decide) (by decide) (by decide) ?_)
    intro w kp hs
    refine ⟨fun _ => trivial, ?_⟩
    obtain ⟨x22, hx, h⟩ := of_bind h
    refine wpS.tk 3 false (some 5) (.int .i64 x22) (yld_int hx (fun _ => by kernel_rfl)) ?_
    refine wpS.fin rfl (kr24 _ _ (then_n (ks23 _ _ (xseq_k fun KS26 ks26 => ?_))))
    refine wp_regG [15] (fun k => True) 16 (by kernel_rfl) (by kernel_rfl) (by kernel_rfl) fun KR27 kr27 => ?_
    have hs := hs.drawn1
    refine wpG.q 0 12 (.pointer (some ⟨b5, 0, none⟩)) ?_
    refine wpG.q 1 13 (.pointer (some ⟨b5, 0, none⟩)) ?_
    refine wpG.q 2 14 (.pointer (some ⟨b5, 0, none⟩)) ?_
    refine wpG.q 3 15 (.pointer (some ⟨b5, 2, none⟩)) ?_
    refine wpG.tD 4 true (some 16) (.agg #[.int .u64 z18_1_0, .int .u64 z18_1_1]) (yld_loadN (e := 84) (n := 2) (o := 2) hs 4 rfl (by kernel_rfl) (by kernel_rfl) (by kernel_rfl) (by simp [enc_len]) (by simp [enc_len]) .grow) ?_
    refine wpG.tD 5 false (some 17) (.slice (some ⟨b21, 0 + (0 : Int).toNat * 1, none⟩) ((16 : Int).toNat - (0 : Int).toNat) (16 - (0 : Int).toNat)) (yld_slA2 (t := 42) (e := 5) (n := 16) (low := Option.none) (high := Option.none) (lo := 0) (hi := 16) (by kernel_rfl) (by kernel_rfl) (by kernel_rfl) (.inl ⟨rfl, rfl⟩) (.inl ⟨rfl, rfl⟩) (by decide) (by decide) (by decide) (by decide)) ?_
    refine wpG.q 8 20 (.pointer (some ⟨b5, 0, none⟩)) ?_
    refine wpG.q 9 21 (.pointer (some ⟨b5, 0, none⟩)) ?_
    refine wpG.q 10 22 (.pointer (some ⟨b5, 0, none⟩)) ?_
    refine wpG.tD 11 true (some 23) (.agg #[.int .u64 z18_0_0, .int .u64 z18_0_1]) (yld_loadN (e := 84) (n := 2) (o := 0) hs 4 rfl (by kernel_rfl) (by kernel_rfl) (by kernel_rfl) (by simp [enc_len]) (by simp [enc_len]) .grow) ?_
    obtain ⟨⟨r23_0, r23_1⟩, hg, h⟩ := of_bind h
    refine wpG.only 6 (by kernel_rfl) (op_call (d := (some 18)) (by kernel_rfl) hs (fun _ => by kernel_rfl) (gcm_read.ok hg _ (hs.rowB (lo := 0) (hi := 16) 0 rfl (by decide) (by decide) (by decide))) ?_)
    intro w gw hs
    refine ⟨.of gw, ?_⟩
    obtain ⟨⟨r24_0, r24_1⟩, hg, h⟩ := of_bind h
    refine wpG.only 7 (by kernel_rfl) (op_call (d := (some 19)) (by kernel_rfl) hs (fun _ => by kernel_rfl) (gcm_element_xor.ok hg _) ?_)
    intro w gw hs
    refine ⟨.of gw, ?_⟩
    obtain ⟨⟨r25_0, r25_1⟩, hg, h⟩ := of_bind h
    refine wpG.only 12 (by kernel_rfl) (op_call (d := (some 24)) (by kernel_rfl) hs (fun _ => by kernel_rfl) (gcm_element_times.ok hg _) ?_)
    intro w gw hs
    refine ⟨.of gw, ?_⟩
    refine wpG.q 13 25 (.pointer (some ⟨b5, 0, none⟩)) ?_
    refine wpG.q 14 26 (.pointer (some ⟨b5, 2, none⟩)) ?_
    refine wpG.only 15 (by kernel_rfl) (op_storeM (t := 84) (o := 2) (m := 2) (v := .agg #[.int .u64 r25_0, .int .u64 r25_1]) (vs := [.int .u64 r25_0, .int .u64 r25_1]) (c' := [.int .u64 z18_0_0, .int .u64 z18_0_1, .int .u64 r25_0, .int .u64 r25_1]) (d := none) (by kernel_rfl) hs 4 rfl (by kernel_rfl) (by kernel_rfl) (by kernel_rfl) rfl (by simp) (by simp [Value.oneCell']) (by kernel_rfl) ?_)
    intro w kp hs
    refine ⟨⟨fun hf => absurd hf (by decide), .all _ _⟩, ?_⟩
    refine wpG.fin (by kernel_rfl) rfl (kr27 _ _ ?_)
    refine then_n (ks26 _ _ (xregS [0, 1, 2, 3] fun KR29 kr29 => ?_))
    refine wpS.qs [(0, 27, .slice z19_A z19_n z19_c), (1, 28, .int .i64 x22)] ?_
    obtain ⟨h0, h⟩ := of_chk h
    obtain ⟨h1, h⟩ := of_chk h
    obtain ⟨h2, h⟩ := of_chk h
    obtain ⟨s26_A, hA⟩ : ∃ A, A = if z19_c = (x22 : Int).toNat then z19_A else adr z19_A ((x22 : Int).toNat * Cod.size (CI .u8)) := ⟨_, rfl⟩
    obtain ⟨s26_n, hn⟩ : ∃ n, n = ((z19.length : Int) : Int).toNat - (x22 : Int).toNat := ⟨_, rfl⟩
    obtain ⟨s26_c, hc⟩ : ∃ c, c = z19_c - (x22 : Int).toNat := ⟨_, rfl⟩
    refine wpS.tk 2 false (some 29) (.slice s26_A s26_n s26_c) (yld_sub (C := (CI .u8)) (t := 26) (e := 5) (low := some (.int .i64 x22)) (high := none) (lo := x22) (hi := (z19.length : Int)) (hs.rowR 0 rfl) (by kernel_rfl) (by kernel_rfl) (by kernel_rfl) (.inr ⟨_, rfl⟩) (.inl ⟨rfl, rfl⟩) h0 h1 h2 hA hn hc) ?_
    have hs := hs.addSub (C := (CI .u8)) 0 rfl h0 h1 h2 hA hn hc
    refine wpS.q 3 1 (.slice s26_A s26_n s26_c) ?_
    refine wpS.fin rfl (kr29 _ _ (inBlock_n ?_))
    exact then_n (kl0 _ _ ⟨n, Nat.lt_succ_self n, z18_0_0, z18_0_1, r25_0, r25_1, (subL z19 x22 (z19.length : Int)), s26_A, s26_n, s26_c, h, ((hs.drop (.cons _ (.cons_cons _ (.cons_cons _ (.cons_cons _ (.cons_cons _ (.cons_cons _ .slnil))))))).pickR (pick_cons 0 rfl (pick_cons 2 rfl (pick_cons 3 rfl (pick_cons 4 rfl (pick_cons 5 rfl (pick_cons 6 rfl (pick_cons 7 rfl pick_nil)))))))), exg (by kernel_rfl)⟩)
   refine wpS.tk 2 false (some 8) (.bool false) (yld_b (df hc) (fun _ => by kernel_rfl)) ?_
   refine wpS.fin rfl (kr20 _ _ (then_n (ks19 _ _ (wp_cond_f (by kernel_rfl) (xexit (then_x (then_x (inBlock_hit ?_))))))))
   obtain ⟨q0, qr0⟩ := Prod.mk.inj (of_some h)
   obtain ⟨q1, qr1⟩ := Prod.mk.inj (qr0)
   obtain ⟨q2, qr2⟩ := Prod.mk.inj (qr1)
   have q3 := qr2
   subst q0
   subst q1
   subst q2
   subst q3
   exact exq_n (nn0 _ _ ⟨(hs.pickR (pick_cons 1 rfl (pick_cons 2 rfl (pick_cons 3 rfl (pick_cons 4 rfl (pick_cons 5 rfl (pick_cons 6 rfl pick_nil))))))), exg (by kernel_rfl)⟩)
 clear hs h hy
 rintro a w ⟨hs, g17, rfl⟩
 have h := hk0
 refine qn15 _ _ (post_nrm (by kernel_rfl) (run_results [] [] (by kernel_rfl) .nil) ?_)
 refine kI15 _ _ ?_
 refine ⟨fun _ => trivial, ?_⟩
 refine wpS.fin rfl (kr14 _ _ (then_n (ks13 _ _ (xseq_k fun KS30 ks30 => (xregS [0, 1, 2, 3, 4, 5, 6, 7] fun KR31 kr31 => ?_)))))
 refine wpS.qs [(0, 45, .pointer (some ⟨b5, 0, none⟩)), (1, 46, .pointer (some ⟨b5, 0, none⟩)), (2, 47, .pointer (some ⟨b5, 2, none⟩))] ?_
 refine wpS.tk 3 true (some 48) (.agg #[.int .u64 y20_1_0, .int .u64 y20_1_1]) (yld_loadN (e := 84) (n := 2) (o := 2) hs 3 rfl (by kernel_rfl) (by kernel_rfl) (by kernel_rfl) (by simp [enc_len]) (by simp [enc_len]) .grow) ?_
 obtain ⟨r27, hg, h⟩ := of_bind h
 refine wpS.only 4 (op_callH (d := (some 49)) (by kernel_rfl) hs (fun _ => by kernel_rfl) (gcm_element_bytes.ok hg _) ?_)
 rintro ⟨r27_A, r27_n, r27_c⟩ w gw hs
 have hs := hs.conv (L' := [.ownL (CI .u8) r27_A r27_n r27_c r27 5, .ownL CS s16_A s16_n s16_c ([(r14_A, r14_n, r14_c), (r15_A, r15_n, r15_c)] : List HS) 26, .ownL (CI .u8) r15_A r15_n r15_c r15 5, .ownL (CI .u8) r14_A r14_n r14_c r14 5, .blk b5 ([.int .u64 y20_0_0, .int .u64 y20_0_1, .int .u64 y20_1_0, .int .u64 y20_1_1]) 91, .ownL (CI .u8) s1_A s1_n s1_c (List.replicate (16 : Int).toNat (Cod.zero (CI .u8))) 5]) rfl
 refine ⟨fun _ => trivial, ?_⟩
 refine wpS.q 5 50 (.slice a1_A a1_n a1_c) ?_
 obtain ⟨r28, hg, h⟩ := of_bind h
 refine wpS.only 6 (op_callH (d := (some 51)) (by kernel_rfl) hs (fun _ => by kernel_rfl) (bits_Xor.ok hg _ (hs.rowL 0 rfl) (hs.rowR 5 rfl)) ?_)
 rintro ⟨r28_A, r28_n, r28_c⟩ w gw hs
 have hs := hs.conv (L' := [.ownL (CI .u8) r28_A r28_n r28_c r28 5, .ownL (CI .u8) r27_A r27_n r27_c r27 5, .ownL CS s16_A s16_n s16_c ([(r14_A, r14_n, r14_c), (r15_A, r15_n, r15_c)] : List HS) 26, .ownL (CI .u8) r15_A r15_n r15_c r15 5, .ownL (CI .u8) r14_A r14_n r14_c r14 5, .blk b5 ([.int .u64 y20_0_0, .int .u64 y20_0_1, .int .u64 y20_1_0, .int .u64 y20_1_1]) 91, .ownL (CI .u8) s1_A s1_n s1_c (List.replicate (16 : Int).toNat (Cod.zero (CI .u8))) 5]) rfl
 refine ⟨fun _ => trivial, ?_⟩
 refine wpS.q 7 8 (.slice r28_A r28_n r28_c) ?_
 refine wpS.fin rfl (kr31 _ _ (then_n (ks30 _ _ (xret ?_))))
 have q0 := of_some h
 subst q0
 exact qq _ _ (post_ret (by kernel_rfl) (run_results [.tmp 8] [.slice r28_A r28_n r28_c] (by kernel_rfl) (.cons (res_tmp (by kernel_rfl)) .nil)) ⟨⟨r28_A, r28_n, r28_c⟩, congrArg Ending.returned (by kernel_rfl), ((hs.drop (.cons_cons _ (.cons _ (.cons _ (.cons _ (.cons _ (.cons _ (.cons _ .slnil)))))))).pickR pick_nil)⟩)

theorem gcm_Seal.ok {K : Nat} {a0 : List Int} {a1 : List Int} {a2 : List Int} {a3 : List Int} {r0 : List Int} {r1 : Int} {a0_A : Option Addr} {a0_n : Nat} {a0_c : Nat} {a1_A : Option Addr} {a1_n : Nat} {a1_c : Nat} {a2_A : Option Addr} {a2_n : Nat} {a2_c : Nat} {a3_A : Option Addr} {a3_n : Nat} {a3_c : Nat} (h : gcm_Seal.f K a0 a1 a2 a3 = some (r0, r1)) (w0 : World) (hp0 : RowL (CI .u8) w0 a0_A a0_n a0_c a0) (hp1 : RowL (CI .u8) w0 a1_A a1_n a1_c a1) (hp2 : RowL (CI .u8) w0 a2_A a2_n a2_c a2) (hp3 : RowL (CI .u8) w0 a3_A a3_n a3_c a3) : Calls Try.prog 30 #[.slice a0_A a0_n a0_c, .slice a1_A a1_n a1_c, .slice a2_A a2_n a2_c, .slice a3_A a3_n a3_c] w0 fun e w' => ∃ h : (Option Addr × Nat × Nat), e = .returned (.tuple #[.slice h.1 h.2.1 h.2.2, .int .i64 r1]) ∧ St w0 [] [.ownL (CI .u8) h.1 h.2.1 h.2.2 r0 5] [] w' := by
 refine calls_k Try.func30 rfl fun Q qq => ?_
 have hs := St.startR (all_cons (RowP.ent hp0) (all_cons (RowP.ent hp1) (all_cons (RowP.ent hp2) (all_cons (RowP.ent hp3) all_nil))))
 refine wp_conv (a' := ⟨#[.slice a0_A a0_n a0_c, .slice a1_A a1_n a1_c, .slice a2_A a2_n a2_c, .slice a3_A a3_n a3_c, undef, undef, undef, undef, undef, undef, undef, undef, undef, undef, undef, undef, undef, undef, undef, undef, undef, undef, undef, undef, undef, undef, undef, undef, undef, undef, undef, undef, undef, undef, undef, undef, undef, undef, undef, undef, undef, undef, undef], []⟩) (by kernel_rfl) ?_
 refine xseq_k fun KS1 ks1 => ?_
 refine xregS [0, 1] fun KR2 kr2 => ?_
 refine wpS.qs [(0, 8, .slice none 0 0), (1, 9, .int .i64 0)] ?_
 refine wpS.fin rfl (kr2 _ _ (then_n (ks1 _ _ (xseq_k fun KS3 ks3 => (xblock (xseq_k fun KS4 ks4 => (xregS [0, 1, 2, 3] fun KR5 kr5 => ?_)))))))
 refine wpS.q 0 13 (.slice a0_A a0_n a0_c) ?_
 obtain ⟨r1, hg, h⟩ := of_bind h
 cases r1 with
 | true =>
  have h := of_if_t h
  refine wpS.only 1 (op_call (d := (some 14)) (by kernel_rfl) hs (fun _ => by kernel_rfl) (gcm_sized.ok hg _ (hs.rowR 0 rfl)) ?_)
  intro w gw hs
  refine ⟨fun _ => trivial, ?_⟩
  refine wpS.qs [(2, 15, .bool false), (3, 12, .bool false)] ?_
  refine wpS.fin rfl (kr5 _ _ (then_n (ks4 _ _ (wp_cond_f (by kernel_rfl) (xseq_k fun KS6 ks6 => (xregS [0, 1, 2, 3] fun KR7 kr7 => ?_))))))
  refine wpS.q 0 17 (.slice a1_A a1_n a1_c) ?_
  refine wpS.tk 1 false (some 18) (.int .i64 (a1.length : Int)) (yld_lenL (hs.rowR 1 rfl) (fun _ => by kernel_rfl)) ?_
  rcases of_if h with ⟨hc, h⟩ | ⟨hc, h⟩
  ·refine wpS.tk 2 false (some 19) (.bool false) (yld_b (nf hc) (fun _ => by kernel_rfl)) ?_
   refine wpS.q 3 16 (.bool false) ?_
   refine wpS.fin rfl (kr7 _ _ (then_n (ks6 _ _ (wp_cond_f (by kernel_rfl) (xseq_k fun KS8 ks8 => (xregS [0, 1, 2, 3, 4, 5, 6, 7, 8] fun KR9 kr9 => ?_))))))
   refine wpS.q 0 21 (.slice a2_A a2_n a2_c) ?_
   refine wpS.tk 1 false (some 22) (.int .i64 (a2.length : Int)) (yld_lenL (hs.rowR 2 rfl) (fun _ => by kernel_rfl)) ?_
   rcases of_if h with ⟨hc, h⟩ | ⟨hc, h⟩
   ·refine wpS.tk 2 false (some 23) (.bool true) (yld_b (dt hc) (fun _ => by kernel_rfl)) ?_
    refine wpS.qs [(3, 24, .bool true), (4, 25, undef), (5, 26, undef), (6, 27, undef), (7, 28, .bool true), (8, 20, .bool true)] ?_
    refine wpS.fin rfl (kr9 _ _ (then_n (ks8 _ _ (wp_cond_t (by kernel_rfl) (xseq_k fun KS10 ks10 => (xregS [0, 1] fun KR11 kr11 => ?_))))))
    refine wpS.qs [(0, 8, .slice none 0 0), (1, 9, .int .i64 2)] ?_
    refine wpS.fin rfl (kr11 _ _ (then_n (ks10 _ _ (xret (inBlock_r (then_r ?_))))))
    obtain ⟨q0, qr0⟩ := Prod.mk.inj (of_some h)
    have q1 := qr0
    subst q0
    subst q1
    have hs := hs.addNilL (CI .u8) 5
    exact qq _ _ (post_ret (by kernel_rfl) (run_results [.tmp 8, .tmp 9] [.slice none 0 0, .int .i64 2] (by kernel_rfl) (.cons (res_tmp (by kernel_rfl)) (.cons (res_tmp (by kernel_rfl)) .nil))) ⟨⟨none, 0, 0⟩, congrArg Ending.returned (by kernel_rfl), (hs.pickR pick_nil)⟩)
   refine wpS.tk 2 false (some 23) (.bool false) (yld_b (df hc) (fun _ => by kernel_rfl)) ?_
   refine wpS.qs [(3, 24, .bool false), (4, 25, .slice a3_A a3_n a3_c)] ?_
   refine wpS.tk 5 false (some 26) (.int .i64 (a3.length : Int)) (yld_lenL (hs.rowR 3 rfl) (fun _ => by kernel_rfl)) ?_
   rcases of_if h with ⟨hc, h⟩ | ⟨hc, h⟩
   ·refine wpS.tk 6 false (some 27) (.bool true) (yld_b (dt hc) (fun _ => by kernel_rfl)) ?_
    refine wpS.qs [(7, 28, .bool true), (8, 20, .bool true)] ?_
    refine wpS.fin rfl (kr9 _ _ (then_n (ks8 _ _ (wp_cond_t (by kernel_rfl) (xseq_k fun KS12 ks12 => (xregS [0, 1] fun KR13 kr13 => ?_))))))
    refine wpS.qs [(0, 8, .slice none 0 0), (1, 9, .int .i64 2)] ?_
    refine wpS.fin rfl (kr13 _ _ (then_n (ks12 _ _ (xret (inBlock_r (then_r ?_))))))
    obtain ⟨q0, qr0⟩ := Prod.mk.inj (of_some h)
    have q1 := qr0
    subst q0
    subst q1
    have hs := hs.addNilL (CI .u8) 5
    exact qq _ _ (post_ret (by kernel_rfl) (run_results [.tmp 8, .tmp 9] [.slice none 0 0, .int .i64 2] (by kernel_rfl) (.cons (res_tmp (by kernel_rfl)) (.cons (res_tmp (by kernel_rfl)) .nil))) ⟨⟨none, 0, 0⟩, congrArg Ending.returned (by kernel_rfl), (hs.pickR pick_nil)⟩)
   refine wpS.tk 6 false (some 27) (.bool false) (yld_b (df hc) (fun _ => by kernel_rfl)) ?_
   refine wpS.qs [(7, 28, .bool false), (8, 20, .bool false)] ?_
   refine wpS.fin rfl (kr9 _ _ (then_n (ks8 _ _ (wp_cond_f (by kernel_rfl) (xskip (inBlock_n (then_n (ks3 _ _ (xseq_k fun KS14 ks14 => (xregS [0, 1, 2, 3, 4, 5, 6, 7, 8] fun KR15 kr15 => ?_))))))))))
   refine wpS.qs [(0, 30, .slice a0_A a0_n a0_c), (1, 31, .slice a1_A a1_n a1_c), (2, 32, .slice a3_A a3_n a3_c)] ?_
   obtain ⟨⟨r2, r3⟩, hg, h⟩ := of_bind h
   refine wpS.only 3 (op_callH (d := (some 33)) (by kernel_rfl) hs (fun _ => by kernel_rfl) (gcm_stream.ok hg _ (hs.rowR 0 rfl) (hs.rowR 1 rfl) (hs.rowR 3 rfl)) ?_)
   rintro ⟨⟨r2_A, r2_n, r2_c⟩, ⟨r3_A, r3_n, r3_c⟩⟩ w gw hs
   have hs := hs.conv (L' := [.ownL (CI .u8) r2_A r2_n r2_c r2 5, .rowL (CI .u8) r3_A r3_n r3_c r3]) rfl
   have hs := hs.toR 1 rfl
   refine ⟨fun _ => trivial, ?_⟩
   refine wpS.qs [(4, 29, .tuple #[.slice r2_A r2_n r2_c, .slice r3_A r3_n r3_c]), (5, 34, .slice r2_A r2_n r2_c), (6, 35, .slice r3_A r3_n r3_c), (7, 10, .slice r2_A r2_n r2_c), (8, 11, .slice r3_A r3_n r3_c)] ?_
   refine wpS.fin rfl (kr15 _ _ (then_n (ks14 _ _ (xseq_k fun KS16 ks16 => (xregS [0, 1, 2, 3, 4, 5, 6, 7, 8] fun KR17 kr17 => ?_)))))
   refine wpS.qs [(0, 36, .slice r2_A r2_n r2_c), (1, 37, .slice a0_A a0_n a0_c), (2, 38, .slice r3_A r3_n r3_c), (3, 39, .slice a2_A a2_n a2_c), (4, 40, .slice r2_A r2_n r2_c)] ?_
   obtain ⟨r4, hg, h⟩ := of_bind h
   refine wpS.only 5 (op_callH (d := (some 41)) (by kernel_rfl) hs (fun _ => by kernel_rfl) (gcm_tag.ok hg _ (hs.rowR 1 rfl) (hs.rowR 0 rfl) (hs.rowR 3 rfl) (hs.rowL 0 rfl)) ?_)
   rintro ⟨r4_A, r4_n, r4_c⟩ w gw hs
   have hs := hs.conv (L' := [.ownL (CI .u8) r4_A r4_n r4_c r4 5, .ownL (CI .u8) r2_A r2_n r2_c r2 5]) rfl
   refine ⟨fun _ => trivial, ?_⟩
   obtain ⟨h0, h⟩ := of_chk h
   refine wpS.only 6 (op_appendT (C := (CI .u8)) (t := 26) (ty := 26) (e := 5) (bytes := 1) (B := 140737488355328) (d := (some 42)) (by kernel_rfl) hs 1 rfl (hs.rowL 0 rfl) (by kernel_rfl) (by kernel_rfl) (by kernel_rfl) (by kernel_rfl) (by kernel_rfl) h0 (by decide) (by decide) ?_)
   intro s5_A s5_n s5_c w hs
   refine ⟨fun _ => trivial, ?_⟩
   refine wpS.qs [(7, 8, .slice s5_A s5_n s5_c), (8, 9, .int .i64 0)] ?_
   refine wpS.fin rfl (kr17 _ _ (then_n (ks16 _ _ (xret ?_))))
   obtain ⟨q0, qr0⟩ := Prod.mk.inj (of_some h)
   have q1 := qr0
   subst q0
   subst q1
   exact qq _ _ (post_ret (by kernel_rfl) (run_results [.tmp 8, .tmp 9] [.slice s5_A s5_n s5_c, .int .i64 0] (by kernel_rfl) (.cons (res_tmp (by kernel_rfl)) (.cons (res_tmp (by kernel_rfl)) .nil))) ⟨⟨s5_A, s5_n, s5_c⟩, congrArg Ending.returned (by kernel_rfl), ((hs.drop (.cons _ (.cons_cons _ .slnil))).pickR pick_nil)⟩)
  refine wpS.tk 2 false (some 19) (.bool true) (yld_b (nt hc) (fun _ => by kernel_rfl)) ?_
  refine wpS.q 3 16 (.bool true) ?_
  refine wpS.fin rfl (kr7 _ _ (then_n (ks6 _ _ (wp_cond_t (by kernel_rfl) (xseq_k fun KS18 ks18 => (xregS [0, 1] fun KR19 kr19 => ?_))))))
  refine wpS.qs [(0, 8, .slice none 0 0), (1, 9, .int .i64 14)] ?_
  refine wpS.fin rfl (kr19 _ _ (then_n (ks18 _ _ (xret (inBlock_r (then_r ?_))))))
  obtain ⟨q0, qr0⟩ := Prod.mk.inj (of_some h)
  have q1 := qr0
  subst q0
  subst q1
  have hs := hs.addNilL (CI .u8) 5
  exact qq _ _ (post_ret (by kernel_rfl) (run_results [.tmp 8, .tmp 9] [.slice none 0 0, .int .i64 14] (by kernel_rfl) (.cons (res_tmp (by kernel_rfl)) (.cons (res_tmp (by kernel_rfl)) .nil))) ⟨⟨none, 0, 0⟩, congrArg Ending.returned (by kernel_rfl), (hs.pickR pick_nil)⟩)
 | false =>
  have h := of_if_f h
  refine wpS.only 1 (op_call (d := (some 14)) (by kernel_rfl) hs (fun _ => by kernel_rfl) (gcm_sized.ok hg _ (hs.rowR 0 rfl)) ?_)
  intro w gw hs
  refine ⟨fun _ => trivial, ?_⟩
  refine wpS.qs [(2, 15, .bool true), (3, 12, .bool true)] ?_
  refine wpS.fin rfl (kr5 _ _ (then_n (ks4 _ _ (wp_cond_t (by kernel_rfl) (xseq_k fun KS20 ks20 => (xregS [0, 1] fun KR21 kr21 => ?_))))))
  refine wpS.qs [(0, 8, .slice none 0 0), (1, 9, .int .i64 10)] ?_
  refine wpS.fin rfl (kr21 _ _ (then_n (ks20 _ _ (xret (inBlock_r (then_r ?_))))))
  obtain ⟨q0, qr0⟩ := Prod.mk.inj (of_some h)
  have q1 := qr0
  subst q0
  subst q1
  have hs := hs.addNilL (CI .u8) 5
  exact qq _ _ (post_ret (by kernel_rfl) (run_results [.tmp 8, .tmp 9] [.slice none 0 0, .int .i64 10] (by kernel_rfl) (.cons (res_tmp (by kernel_rfl)) (.cons (res_tmp (by kernel_rfl)) .nil))) ⟨⟨none, 0, 0⟩, congrArg Ending.returned (by kernel_rfl), (hs.pickR pick_nil)⟩)

theorem bits_Same.ok {K : Nat} {a0 : List Int} {a1 : List Int} {r0 : Bool} {a0_A : Option Addr} {a0_n : Nat} {a0_c : Nat} {a1_A : Option Addr} {a1_n : Nat} {a1_c : Nat} (h : bits_Same.f K a0 a1 = some r0) (w0 : World) (hp0 : RowL (CI .u8) w0 a0_A a0_n a0_c a0) (hp1 : RowL (CI .u8) w0 a1_A a1_n a1_c a1) : Ret Try.prog 70 #[.slice a0_A a0_n a0_c, .slice a1_A a1_n a1_c] w0 (.bool r0) := by
 refine calls_k Try.func70 rfl fun Q qq => ?_
 have hs := St.startR (all_cons (RowP.ent hp0) (all_cons (RowP.ent hp1) all_nil))
 refine wp_conv (a' := ⟨#[.slice a0_A a0_n a0_c, .slice a1_A a1_n a1_c, undef, undef, undef, undef, undef, undef, undef, undef, undef, undef, undef, undef, undef, undef, undef, undef, undef, undef, undef, undef, undef, undef, undef, undef, undef, undef, undef, undef, undef], []⟩) (by kernel_rfl) ?_
 refine xseq_k fun KS1 ks1 => ?_
 refine xregS [0] fun KR2 kr2 => ?_
 refine wpS.q 0 4 (.bool false) ?_
 refine wpS.fin rfl (kr2 _ _ (then_n (ks1 _ _ (xseq_k fun KS3 ks3 => (xseq_k fun KS4 ks4 => (xregS [0, 1, 2, 3, 4] fun KR5 kr5 => ?_))))))
 refine wpS.q 0 7 (.slice a0_A a0_n a0_c) ?_
 refine wpS.tk 1 false (some 8) (.int .i64 (a0.length : Int)) (yld_lenL (hs.rowR 0 rfl) (fun _ => by kernel_rfl)) ?_
 refine wpS.q 2 9 (.slice a1_A a1_n a1_c) ?_
 refine wpS.tk 3 false (some 10) (.int .i64 (a1.length : Int)) (yld_lenL (hs.rowR 1 rfl) (fun _ => by kernel_rfl)) ?_
 rcases of_if h with ⟨hc, h⟩ | ⟨hc, h⟩
 ·refine wpS.tk 4 false (some 11) (.bool false) (yld_b (nf hc) (fun _ => by kernel_rfl)) ?_
  refine wpS.fin rfl (kr5 _ _ (then_n (ks4 _ _ (wp_cond_f (by kernel_rfl) (xskip (then_n (ks3 _ _ (xseq_k fun KS6 ks6 => (xregS [0] fun KR7 kr7 => ?_)))))))))
  refine wpS.q 0 5 (.int .u8 0) ?_
  refine wpS.fin rfl (kr7 _ _ (then_n (ks6 _ _ (xseq_k fun KS8 ks8 => (xseq_k fun KS9 ks9 => (xregS [0, 1, 2] fun KR10 kr10 => ?_))))))
  refine wpS.q 0 12 (.slice a0_A a0_n a0_c) ?_
  refine wpS.tk 1 false (some 13) (.int .i64 (a0.length : Int)) (yld_lenL (hs.rowR 0 rfl) (fun _ => by kernel_rfl)) ?_
  refine wpS.q 2 14 (.int .i64 0) ?_
  refine wpS.fin rfl (kr10 _ _ (then_n (ks9 _ _ ?_)))
  obtain ⟨y3, hy, hk0⟩ := of_bind h
  refine wp_exq (N := fun a w => St w0 [] [] [.rowL (CI .u8) a0_A a0_n a0_c a0, .rowL (CI .u8) a1_A a1_n a1_c a1] w ∧ ∃ g12 : Nat → Value, a = ⟨#[.slice a0_A a0_n a0_c, .slice a1_A a1_n a1_c, undef, undef, .bool false, .int .u8 y3, (g12 6), .slice a0_A a0_n a0_c, .int .i64 (a0.length : Int), .slice a1_A a1_n a1_c, .int .i64 (a1.length : Int), .bool false, .slice a0_A a0_n a0_c, .int .i64 (a0.length : Int), (g12 14), (g12 15), (g12 16), (g12 17), (g12 18), (g12 19), (g12 20), (g12 21), (g12 22), (g12 23), (g12 24), (g12 25), (g12 26), (g12 27), (g12 28), undef, undef], []⟩) (fun N0 nn0 => ?_) ?_
  ·clear hk0
   refine xblock ?_
   refine wp_loop_k (fun n a w => ∃ z1 z2, bits_Same.l0 K n a0 a1 z1 z2 = some y3 ∧ St w0 [] [] [.rowL (CI .u8) a0_A a0_n a0_c a0, .rowL (CI .u8) a1_A a1_n a1_c a1] w ∧ ∃ g11 : Nat → Value, a = ⟨#[.slice a0_A a0_n a0_c, .slice a1_A a1_n a1_c, undef, undef, .bool false, .int .u8 z1, (g11 6), .slice a0_A a0_n a0_c, .int .i64 (a0.length : Int), .slice a1_A a1_n a1_c, .int .i64 (a1.length : Int), .bool false, .slice a0_A a0_n a0_c, .int .i64 (a0.length : Int), .int .i64 z2, (g11 15), (g11 16), (g11 17), (g11 18), (g11 19), (g11 20), (g11 21), (g11 22), (g11 23), (g11 24), (g11 25), (g11 26), (g11 27), (g11 28), undef, undef], []⟩) K ⟨0, 0, hy, hs.conv rfl, exg (by kernel_rfl)⟩ ?_
   clear hs h hy
   rintro n a w ⟨z1, z2, h, hs, g11, rfl⟩ KL0 kl0
   cases n with
   | zero => exact nomatch (show none = some _ from h)
   | succ n =>
    refine xseq_k fun KS13 ks13 => ?_
    refine xregS [0] fun KR14 kr14 => ?_
    rcases of_if h with ⟨hc, h⟩ | ⟨hc, h⟩
    ·refine wpS.tk 0 false (some 15) (.bool true) (yld_b (dt hc) (fun _ => by kernel_rfl)) ?_
     refine wpS.fin rfl (kr14 _ _ (then_n (ks13 _ _ (xseq_k fun KS15 ks15 => (wp_cond_t (by kernel_rfl) (xskip (then_n (ks15 _ _ (xseq_k fun KS16 ks16 => (xblock (xseq_k fun KS17 ks17 => (xregS [0, 1] fun KR18 kr18 => ?_))))))))))))
     refine wpS.qs [(0, 16, .int .i64 z2), (1, 6, .int .i64 z2)] ?_
     refine wpS.fin rfl (kr18 _ _ (then_n (ks17 _ _ ?_)))
     refine wp_regG [] (fun k => True) 12 (by kernel_rfl) (by kernel_rfl) (by kernel_rfl) fun KR19 kr19 => ?_
     have hs := hs.drawn1
     refine wpG.q 0 17 (.int .u8 z1) ?_
     refine wpG.q 1 18 (.slice a0_A a0_n a0_c) ?_
     refine wpG.q 2 19 (.int .i64 z2) ?_
     obtain ⟨h0, h⟩ := of_chk h
     obtain ⟨h1, h⟩ := of_chk h
     have i0_20 := h0
     have i1_20 := h1
     refine wpG.tD 3 false (some 20) (.pointer (adr a0_A ((z2 : Int).toNat * Cod.size (CI .u8)))) (yld_idxL (C := (CI .u8)) (t := 26) (e := 5) (k := .i64) (x := z2) (hs.rowR 0 rfl) (by kernel_rfl) (by kernel_rfl) (by kernel_rfl) h0 h1) ?_
     refine wpG.tD 4 true (some 21) (.int .u8 (rdL (CI .u8) a0 z2)) (yld_loadL (C := (CI .u8)) (e := 5) (x := z2) (hs.rowR 0 rfl) (by kernel_rfl) rfl (by kernel_rfl) i0_20 i1_20) ?_
     refine wpG.q 5 22 (.slice a1_A a1_n a1_c) ?_
     refine wpG.q 6 23 (.int .i64 z2) ?_
     obtain ⟨h0, h⟩ := of_chk h
     obtain ⟨h1, h⟩ := of_chk h
     have i0_21 := h0
     have i1_21 := h1
     refine wpG.tD 7 false (some 24) (.pointer (adr a1_A ((z2 : Int).toNat * Cod.size (CI .u8)))) (yld_idxL (C := (CI .u8)) (t := 26) (e := 5) (k := .i64) (x := z2) (hs.rowR 1 rfl) (by kernel_rfl) (by kernel_rfl) (by kernel_rfl) h0 h1) ?_
     refine wpG.tD 8 true (some 25) (.int .u8 (rdL (CI .u8) a1 z2)) (yld_loadL (C := (CI .u8)) (e := 5) (x := z2) (hs.rowR 1 rfl) (by kernel_rfl) rfl (by kernel_rfl) i0_21 i1_21) ?_
     refine wpG.q 9 26 (.int .u8 (ixor .u8 (rdL (CI .u8) a0 z2) (rdL (CI .u8) a1 z2))) ?_
     refine wpG.q 10 27 (.int .u8 (ior .u8 z1 (ixor .u8 (rdL (CI .u8) a0 z2) (rdL (CI .u8) a1 z2)))) ?_
     obtain ⟨x4, hx, h⟩ := of_bind h
     refine wpG.tD 11 false (some 5) (.int .u8 x4) (yld_int hx (fun _ => by kernel_rfl)) ?_
     refine wpG.fin (by kernel_rfl) rfl (kr19 _ _ ?_)
     refine inBlock_n (then_n (ks16 _ _ (xregS [0, 1] fun KR22 kr22 => ?_)))
     refine wpS.qs [(0, 28, .int .i64 (iadd .i64 z2 1)), (1, 14, .int .i64 (iadd .i64 z2 1))] ?_
     refine wpS.fin rfl (kr22 _ _ ?_)
     exact then_n (kl0 _ _ ⟨n, Nat.lt_succ_self n, x4, (iadd .i64 z2 1), h, (hs.conv rfl), exg (by kernel_rfl)⟩)
    refine wpS.tk 0 false (some 15) (.bool false) (yld_b (df hc) (fun _ => by kernel_rfl)) ?_
    refine wpS.fin rfl (kr14 _ _ (then_n (ks13 _ _ (xseq_k fun KS23 ks23 => (wp_cond_f (by kernel_rfl) (xexit (then_x (then_x (inBlock_hit ?_)))))))))
    have q0 := of_some h
    subst q0
    exact exq_n (nn0 _ _ ⟨(hs.conv rfl), exg (by kernel_rfl)⟩)
  clear hs h hy
  rintro a w ⟨hs, g12, rfl⟩
  have h := hk0
  refine then_n (ks8 _ _ (xseq_k fun KS24 ks24 => (xregS [0, 1, 2] fun KR25 kr25 => ?_)))
  refine wpS.qs [(0, 29, .int .u8 y3), (1, 30, .bool (y3 == 0)), (2, 4, .bool (y3 == 0))] ?_
  refine wpS.fin rfl (kr25 _ _ (then_n (ks24 _ _ (xret ?_))))
  have q0 := of_some h
  subst q0
  exact qq _ _ (post_ret (by kernel_rfl) (run_results [.tmp 4] [.bool (y3 == 0)] (by kernel_rfl) (.cons (res_tmp (by kernel_rfl)) .nil)) ⟨congrArg Ending.returned (by kernel_rfl), hs.none⟩)
 refine wpS.tk 4 false (some 11) (.bool true) (yld_b (nt hc) (fun _ => by kernel_rfl)) ?_
 refine wpS.fin rfl (kr5 _ _ (then_n (ks4 _ _ (wp_cond_t (by kernel_rfl) (xseq_k fun KS26 ks26 => (xregS [0] fun KR27 kr27 => ?_))))))
 refine wpS.q 0 4 (.bool false) ?_
 refine wpS.fin rfl (kr27 _ _ (then_n (ks26 _ _ (xret (then_r ?_)))))
 have q0 := of_some h
 subst q0
 exact qq _ _ (post_ret (by kernel_rfl) (run_results [.tmp 4] [.bool false] (by kernel_rfl) (.cons (res_tmp (by kernel_rfl)) .nil)) ⟨congrArg Ending.returned (by kernel_rfl), hs.none⟩)

theorem gcm_Open.ok {K : Nat} {a0 : List Int} {a1 : List Int} {a2 : List Int} {a3 : List Int} {r0 : List Int} {r1 : Int} {a0_A : Option Addr} {a0_n : Nat} {a0_c : Nat} {a1_A : Option Addr} {a1_n : Nat} {a1_c : Nat} {a2_A : Option Addr} {a2_n : Nat} {a2_c : Nat} {a3_A : Option Addr} {a3_n : Nat} {a3_c : Nat} (h : gcm_Open.f K a0 a1 a2 a3 = some (r0, r1)) (w0 : World) (hp0 : RowL (CI .u8) w0 a0_A a0_n a0_c a0) (hp1 : RowL (CI .u8) w0 a1_A a1_n a1_c a1) (hp2 : RowL (CI .u8) w0 a2_A a2_n a2_c a2) (hp3 : RowL (CI .u8) w0 a3_A a3_n a3_c a3) : Calls Try.prog 32 #[.slice a0_A a0_n a0_c, .slice a1_A a1_n a1_c, .slice a2_A a2_n a2_c, .slice a3_A a3_n a3_c] w0 fun e w' => ∃ h : (Option Addr × Nat × Nat), e = .returned (.tuple #[.slice h.1 h.2.1 h.2.2, .int .i64 r1]) ∧ St w0 [] [.ownL (CI .u8) h.1 h.2.1 h.2.2 r0 5] [] w' := by
 refine calls_k Try.func32 rfl fun Q qq => ?_
 have hs := St.startR (all_cons (RowP.ent hp0) (all_cons (RowP.ent hp1) (all_cons (RowP.ent hp2) (all_cons (RowP.ent hp3) all_nil))))
 refine wp_conv (a' := ⟨#[.slice a0_A a0_n a0_c, .slice a1_A a1_n a1_c, .slice a2_A a2_n a2_c, .slice a3_A a3_n a3_c, undef, undef, undef, undef, undef, undef, undef, undef, undef, undef, undef, undef, undef, undef, undef, undef, undef, undef, undef, undef, undef, undef, undef, undef, undef, undef, undef, undef, undef, undef, undef, undef, undef, undef, undef, undef, undef, undef, undef, undef, undef, undef, undef, undef, undef, undef, undef, undef, undef, undef, undef, undef, undef, undef, undef, undef, undef, undef], []⟩) (by kernel_rfl) ?_
 refine xseq_k fun KS1 ks1 => ?_
 refine xregS [0, 1] fun KR2 kr2 => ?_
 refine wpS.qs [(0, 8, .slice none 0 0), (1, 9, .int .i64 0)] ?_
 refine wpS.fin rfl (kr2 _ _ (then_n (ks1 _ _ (xseq_k fun KS3 ks3 => (xblock (xseq_k fun KS4 ks4 => (xregS [0, 1, 2, 3] fun KR5 kr5 => ?_)))))))
 refine wpS.q 0 15 (.slice a0_A a0_n a0_c) ?_
 obtain ⟨r1, hg, h⟩ := of_bind h
 cases r1 with
 | true =>
  have h := of_if_t h
  refine wpS.only 1 (op_call (d := (some 16)) (by kernel_rfl) hs (fun _ => by kernel_rfl) (gcm_sized.ok hg _ (hs.rowR 0 rfl)) ?_)
  intro w gw hs
  refine ⟨fun _ => trivial, ?_⟩
  refine wpS.qs [(2, 17, .bool false), (3, 14, .bool false)] ?_
  refine wpS.fin rfl (kr5 _ _ (then_n (ks4 _ _ (wp_cond_f (by kernel_rfl) (xseq_k fun KS6 ks6 => (xregS [0, 1, 2, 3, 4, 5, 6, 7, 8] fun KR7 kr7 => ?_))))))
  refine wpS.q 0 19 (.slice a1_A a1_n a1_c) ?_
  refine wpS.tk 1 false (some 20) (.int .i64 (a1.length : Int)) (yld_lenL (hs.rowR 1 rfl) (fun _ => by kernel_rfl)) ?_
  rcases of_if h with ⟨hc, h⟩ | ⟨hc, h⟩
  ·refine wpS.tk 2 false (some 21) (.bool false) (yld_b (nf hc) (fun _ => by kernel_rfl)) ?_
   refine wpS.qs [(3, 22, .bool false), (4, 23, .slice a3_A a3_n a3_c)] ?_
   refine wpS.tk 5 false (some 24) (.int .i64 (a3.length : Int)) (yld_lenL (hs.rowR 3 rfl) (fun _ => by kernel_rfl)) ?_
   rcases of_if h with ⟨hc, h⟩ | ⟨hc, h⟩
   ·refine wpS.tk 6 false (some 25) (.bool true) (yld_b (dt hc) (fun _ => by kernel_rfl)) ?_
    refine wpS.qs [(7, 26, .bool true), (8, 18, .bool true)] ?_
    refine wpS.fin rfl (kr7 _ _ (then_n (ks6 _ _ (wp_cond_t (by kernel_rfl) (xseq_k fun KS8 ks8 => (xregS [0, 1] fun KR9 kr9 => ?_))))))
    refine wpS.qs [(0, 8, .slice none 0 0), (1, 9, .int .i64 14)] ?_
    refine wpS.fin rfl (kr9 _ _ (then_n (ks8 _ _ (xret (inBlock_r (then_r ?_))))))
    obtain ⟨q0, qr0⟩ := Prod.mk.inj (of_some h)
    have q1 := qr0
    subst q0
    subst q1
    have hs := hs.addNilL (CI .u8) 5
    exact qq _ _ (post_ret (by kernel_rfl) (run_results [.tmp 8, .tmp 9] [.slice none 0 0, .int .i64 14] (by kernel_rfl) (.cons (res_tmp (by kernel_rfl)) (.cons (res_tmp (by kernel_rfl)) .nil))) ⟨⟨none, 0, 0⟩, congrArg Ending.returned (by kernel_rfl), (hs.pickR pick_nil)⟩)
   refine wpS.tk 6 false (some 25) (.bool false) (yld_b (df hc) (fun _ => by kernel_rfl)) ?_
   refine wpS.qs [(7, 26, .bool false), (8, 18, .bool false)] ?_
   refine wpS.fin rfl (kr7 _ _ (then_n (ks6 _ _ (wp_cond_f (by kernel_rfl) (xseq_k fun KS10 ks10 => (xregS [0, 1, 2, 3, 4, 5, 6, 7, 8] fun KR11 kr11 => ?_))))))
   refine wpS.q 0 28 (.slice a2_A a2_n a2_c) ?_
   refine wpS.tk 1 false (some 29) (.int .i64 (a2.length : Int)) (yld_lenL (hs.rowR 2 rfl) (fun _ => by kernel_rfl)) ?_
   rcases of_if h with ⟨hc, h⟩ | ⟨hc, h⟩
   ·refine wpS.tk 2 false (some 30) (.bool true) (yld_b (dt hc) (fun _ => by kernel_rfl)) ?_
    refine wpS.qs [(3, 31, .bool true), (4, 32, undef), (5, 33, undef), (6, 34, undef), (7, 35, .bool true), (8, 27, .bool true)] ?_
    refine wpS.fin rfl (kr11 _ _ (then_n (ks10 _ _ (wp_cond_t (by kernel_rfl) (xseq_k fun KS12 ks12 => (xregS [0, 1] fun KR13 kr13 => ?_))))))
    refine wpS.qs [(0, 8, .slice none 0 0), (1, 9, .int .i64 2)] ?_
    refine wpS.fin rfl (kr13 _ _ (then_n (ks12 _ _ (xret (inBlock_r (then_r ?_))))))
    obtain ⟨q0, qr0⟩ := Prod.mk.inj (of_some h)
    have q1 := qr0
    subst q0
    subst q1
    have hs := hs.addNilL (CI .u8) 5
    exact qq _ _ (post_ret (by kernel_rfl) (run_results [.tmp 8, .tmp 9] [.slice none 0 0, .int .i64 2] (by kernel_rfl) (.cons (res_tmp (by kernel_rfl)) (.cons (res_tmp (by kernel_rfl)) .nil))) ⟨⟨none, 0, 0⟩, congrArg Ending.returned (by kernel_rfl), (hs.pickR pick_nil)⟩)
   refine wpS.tk 2 false (some 30) (.bool false) (yld_b (df hc) (fun _ => by kernel_rfl)) ?_
   refine wpS.qs [(3, 31, .bool false), (4, 32, .slice a3_A a3_n a3_c)] ?_
   refine wpS.tk 5 false (some 33) (.int .i64 (a3.length : Int)) (yld_lenL (hs.rowR 3 rfl) (fun _ => by kernel_rfl)) ?_
   rcases of_if h with ⟨hc, h⟩ | ⟨hc, h⟩
   ·refine wpS.tk 6 false (some 34) (.bool true) (yld_b (dt hc) (fun _ => by kernel_rfl)) ?_
    refine wpS.qs [(7, 35, .bool true), (8, 27, .bool true)] ?_
    refine wpS.fin rfl (kr11 _ _ (then_n (ks10 _ _ (wp_cond_t (by kernel_rfl) (xseq_k fun KS14 ks14 => (xregS [0, 1] fun KR15 kr15 => ?_))))))
    refine wpS.qs [(0, 8, .slice none 0 0), (1, 9, .int .i64 2)] ?_
    refine wpS.fin rfl (kr15 _ _ (then_n (ks14 _ _ (xret (inBlock_r (then_r ?_))))))
    obtain ⟨q0, qr0⟩ := Prod.mk.inj (of_some h)
    have q1 := qr0
    subst q0
    subst q1
    have hs := hs.addNilL (CI .u8) 5
    exact qq _ _ (post_ret (by kernel_rfl) (run_results [.tmp 8, .tmp 9] [.slice none 0 0, .int .i64 2] (by kernel_rfl) (.cons (res_tmp (by kernel_rfl)) (.cons (res_tmp (by kernel_rfl)) .nil))) ⟨⟨none, 0, 0⟩, congrArg Ending.returned (by kernel_rfl), (hs.pickR pick_nil)⟩)
   refine wpS.tk 6 false (some 34) (.bool false) (yld_b (df hc) (fun _ => by kernel_rfl)) ?_
   refine wpS.qs [(7, 35, .bool false), (8, 27, .bool false)] ?_
   refine wpS.fin rfl (kr11 _ _ (then_n (ks10 _ _ (wp_cond_f (by kernel_rfl) (xskip (inBlock_n (then_n (ks3 _ _ (xseq_k fun KS16 ks16 => ?_)))))))))
   refine wp_regG [] (fun k => True) 12 (by kernel_rfl) (by kernel_rfl) (by kernel_rfl) fun KR17 kr17 => ?_
   have hs := hs.drawn1
   refine wpG.q 0 36 (.slice a3_A a3_n a3_c) ?_
   refine wpG.q 1 37 (.slice a3_A a3_n a3_c) ?_
   refine wpG.tD 2 false (some 38) (.int .i64 (a3.length : Int)) (yld_lenL (hs.rowR 3 rfl) (fun _ => by kernel_rfl)) ?_
   refine wpG.q 3 39 (.int .i64 (isub .i64 (a3.length : Int) 16)) ?_
   obtain ⟨h0, h⟩ := of_chk h
   obtain ⟨h1, h⟩ := of_chk h
   obtain ⟨h2, h⟩ := of_chk h
   obtain ⟨s2_A, hA⟩ : ∃ A, A = if a3_c = (0 : Int).toNat then a3_A else adr a3_A ((0 : Int).toNat * Cod.size (CI .u8)) := ⟨_, rfl⟩
   obtain ⟨s2_n, hn⟩ : ∃ n, n = ((isub .i64 (a3.length : Int) 16) : Int).toNat - (0 : Int).toNat := ⟨_, rfl⟩
   obtain ⟨s2_c, hc⟩ : ∃ c, c = a3_c - (0 : Int).toNat := ⟨_, rfl⟩
   refine wpG.tD 4 false (some 40) (.slice s2_A s2_n s2_c) (yld_sub (C := (CI .u8)) (t := 26) (e := 5) (low := none) (high := some (.int .i64 (isub .i64 (a3.length : Int) 16))) (lo := 0) (hi := (isub .i64 (a3.length : Int) 16)) (hs.rowR 3 rfl) (by kernel_rfl) (by kernel_rfl) (by kernel_rfl) (.inl ⟨rfl, rfl⟩) (.inr ⟨_, rfl⟩) h0 h1 h2 hA hn hc) ?_
   have hs := hs.addSub (C := (CI .u8)) 3 rfl h0 h1 h2 hA hn hc
   refine wpG.q 5 41 (.slice a3_A a3_n a3_c) ?_
   refine wpG.q 6 42 (.slice a3_A a3_n a3_c) ?_
   refine wpG.tD 7 false (some 43) (.int .i64 (a3.length : Int)) (yld_lenL (hs.rowR 4 rfl) (fun _ => by kernel_rfl)) ?_
   refine wpG.q 8 44 (.int .i64 (isub .i64 (a3.length : Int) 16)) ?_
   obtain ⟨h0, h⟩ := of_chk h
   obtain ⟨h1, h⟩ := of_chk h
   obtain ⟨h2, h⟩ := of_chk h
   obtain ⟨s3_A, hA⟩ : ∃ A, A = if a3_c = ((isub .i64 (a3.length : Int) 16) : Int).toNat then a3_A else adr a3_A (((isub .i64 (a3.length : Int) 16) : Int).toNat * Cod.size (CI .u8)) := ⟨_, rfl⟩
   obtain ⟨s3_n, hn⟩ : ∃ n, n = ((a3.length : Int) : Int).toNat - ((isub .i64 (a3.length : Int) 16) : Int).toNat := ⟨_, rfl⟩
   obtain ⟨s3_c, hc⟩ : ∃ c, c = a3_c - ((isub .i64 (a3.length : Int) 16) : Int).toNat := ⟨_, rfl⟩
   refine wpG.tD 9 false (some 45) (.slice s3_A s3_n s3_c) (yld_sub (C := (CI .u8)) (t := 26) (e := 5) (low := some (.int .i64 (isub .i64 (a3.length : Int) 16))) (high := none) (lo := (isub .i64 (a3.length : Int) 16)) (hi := (a3.length : Int)) (hs.rowR 4 rfl) (by kernel_rfl) (by kernel_rfl) (by kernel_rfl) (.inr ⟨_, rfl⟩) (.inl ⟨rfl, rfl⟩) h0 h1 h2 hA hn hc) ?_
   have hs := hs.addSub (C := (CI .u8)) 4 rfl h0 h1 h2 hA hn hc
   refine wpG.q 10 10 (.slice s2_A s2_n s2_c) ?_
   refine wpG.q 11 11 (.slice s3_A s3_n s3_c) ?_
   refine wpG.fin (by kernel_rfl) rfl (kr17 _ _ ?_)
   refine then_n (ks16 _ _ (xseq_k fun KS18 ks18 => (xregS [0, 1, 2, 3, 4, 5, 6, 7, 8] fun KR19 kr19 => ?_)))
   refine wpS.qs [(0, 47, .slice a0_A a0_n a0_c), (1, 48, .slice a1_A a1_n a1_c), (2, 49, .slice s2_A s2_n s2_c)] ?_
   obtain ⟨⟨r4, r5⟩, hg, h⟩ := of_bind h
   refine wpS.only 3 (op_callH (d := (some 50)) (by kernel_rfl) hs (fun _ => by kernel_rfl) (gcm_stream.ok hg _ (hs.rowR 2 rfl) (hs.rowR 3 rfl) (hs.rowR 1 rfl)) ?_)
   rintro ⟨⟨r4_A, r4_n, r4_c⟩, ⟨r5_A, r5_n, r5_c⟩⟩ w gw hs
   have hs := hs.conv (L' := [.ownL (CI .u8) r4_A r4_n r4_c r4 5, .rowL (CI .u8) r5_A r5_n r5_c r5]) rfl
   have hs := hs.toR 1 rfl
   refine ⟨fun _ => trivial, ?_⟩
   refine wpS.qs [(4, 46, .tuple #[.slice r4_A r4_n r4_c, .slice r5_A r5_n r5_c]), (5, 51, .slice r4_A r4_n r4_c), (6, 52, .slice r5_A r5_n r5_c), (7, 12, .slice r4_A r4_n r4_c), (8, 13, .slice r5_A r5_n r5_c)] ?_
   refine wpS.fin rfl (kr19 _ _ (then_n (ks18 _ _ (xseq_k fun KS20 ks20 => (xseq_k fun KS21 ks21 => (xregS [0, 1, 2, 3, 4, 5, 6, 7] fun KR22 kr22 => ?_))))))
   refine wpS.qs [(0, 53, .slice a0_A a0_n a0_c), (1, 54, .slice r5_A r5_n r5_c), (2, 55, .slice a2_A a2_n a2_c), (3, 56, .slice s2_A s2_n s2_c)] ?_
   obtain ⟨r6, hg, h⟩ := of_bind h
   refine wpS.only 4 (op_callH (d := (some 57)) (by kernel_rfl) hs (fun _ => by kernel_rfl) (gcm_tag.ok hg _ (hs.rowR 3 rfl) (hs.rowR 0 rfl) (hs.rowR 5 rfl) (hs.rowR 2 rfl)) ?_)
   rintro ⟨r6_A, r6_n, r6_c⟩ w gw hs
   have hs := hs.conv (L' := [.ownL (CI .u8) r6_A r6_n r6_c r6 5, .ownL (CI .u8) r4_A r4_n r4_c r4 5]) rfl
   refine ⟨fun _ => trivial, ?_⟩
   refine wpS.q 5 58 (.slice s3_A s3_n s3_c) ?_
   obtain ⟨r7, hg, h⟩ := of_bind h
   cases r7 with
   | true =>
    have h := of_if_t h
    refine wpS.only 6 (op_call (d := (some 59)) (by kernel_rfl) hs (fun _ => by kernel_rfl) (bits_Same.ok hg _ (hs.rowL 0 rfl) (hs.rowR 1 rfl)) ?_)
    intro w gw hs
    refine ⟨fun _ => trivial, ?_⟩
    refine wpS.q 7 60 (.bool false) ?_
    refine wpS.fin rfl (kr22 _ _ (then_n (ks21 _ _ (wp_cond_f (by kernel_rfl) (xskip (then_n (ks20 _ _ (xseq_k fun KS23 ks23 => (xregS [0, 1, 2] fun KR24 kr24 => ?_)))))))))
    refine wpS.qs [(0, 61, .slice r4_A r4_n r4_c), (1, 8, .slice r4_A r4_n r4_c), (2, 9, .int .i64 0)] ?_
    refine wpS.fin rfl (kr24 _ _ (then_n (ks23 _ _ (xret ?_))))
    obtain ⟨q0, qr0⟩ := Prod.mk.inj (of_some h)
    have q1 := qr0
    subst q0
    subst q1
    exact qq _ _ (post_ret (by kernel_rfl) (run_results [.tmp 8, .tmp 9] [.slice r4_A r4_n r4_c, .int .i64 0] (by kernel_rfl) (.cons (res_tmp (by kernel_rfl)) (.cons (res_tmp (by kernel_rfl)) .nil))) ⟨⟨r4_A, r4_n, r4_c⟩, congrArg Ending.returned (by kernel_rfl), ((hs.drop (.cons _ (.cons_cons _ .slnil))).pickR pick_nil)⟩)
   | false =>
    have h := of_if_f h
    refine wpS.only 6 (op_call (d := (some 59)) (by kernel_rfl) hs (fun _ => by kernel_rfl) (bits_Same.ok hg _ (hs.rowL 0 rfl) (hs.rowR 1 rfl)) ?_)
    intro w gw hs
    refine ⟨fun _ => trivial, ?_⟩
    refine wpS.q 7 60 (.bool true) ?_
    refine wpS.fin rfl (kr22 _ _ (then_n (ks21 _ _ (wp_cond_t (by kernel_rfl) (xseq_k fun KS25 ks25 => (xregS [0, 1] fun KR26 kr26 => ?_))))))
    refine wpS.qs [(0, 8, .slice none 0 0), (1, 9, .int .i64 17)] ?_
    refine wpS.fin rfl (kr26 _ _ (then_n (ks25 _ _ (xret (then_r ?_)))))
    obtain ⟨q0, qr0⟩ := Prod.mk.inj (of_some h)
    have q1 := qr0
    subst q0
    subst q1
    have hs := hs.addNilL (CI .u8) 5
    exact qq _ _ (post_ret (by kernel_rfl) (run_results [.tmp 8, .tmp 9] [.slice none 0 0, .int .i64 17] (by kernel_rfl) (.cons (res_tmp (by kernel_rfl)) (.cons (res_tmp (by kernel_rfl)) .nil))) ⟨⟨none, 0, 0⟩, congrArg Ending.returned (by kernel_rfl), ((hs.drop (.cons_cons _ (.cons _ (.cons _ .slnil)))).pickR pick_nil)⟩)
  refine wpS.tk 2 false (some 21) (.bool true) (yld_b (nt hc) (fun _ => by kernel_rfl)) ?_
  refine wpS.qs [(3, 22, .bool true), (4, 23, undef), (5, 24, undef), (6, 25, undef), (7, 26, .bool true), (8, 18, .bool true)] ?_
  refine wpS.fin rfl (kr7 _ _ (then_n (ks6 _ _ (wp_cond_t (by kernel_rfl) (xseq_k fun KS27 ks27 => (xregS [0, 1] fun KR28 kr28 => ?_))))))
  refine wpS.qs [(0, 8, .slice none 0 0), (1, 9, .int .i64 14)] ?_
  refine wpS.fin rfl (kr28 _ _ (then_n (ks27 _ _ (xret (inBlock_r (then_r ?_))))))
  obtain ⟨q0, qr0⟩ := Prod.mk.inj (of_some h)
  have q1 := qr0
  subst q0
  subst q1
  have hs := hs.addNilL (CI .u8) 5
  exact qq _ _ (post_ret (by kernel_rfl) (run_results [.tmp 8, .tmp 9] [.slice none 0 0, .int .i64 14] (by kernel_rfl) (.cons (res_tmp (by kernel_rfl)) (.cons (res_tmp (by kernel_rfl)) .nil))) ⟨⟨none, 0, 0⟩, congrArg Ending.returned (by kernel_rfl), (hs.pickR pick_nil)⟩)
 | false =>
  have h := of_if_f h
  refine wpS.only 1 (op_call (d := (some 16)) (by kernel_rfl) hs (fun _ => by kernel_rfl) (gcm_sized.ok hg _ (hs.rowR 0 rfl)) ?_)
  intro w gw hs
  refine ⟨fun _ => trivial, ?_⟩
  refine wpS.qs [(2, 17, .bool true), (3, 14, .bool true)] ?_
  refine wpS.fin rfl (kr5 _ _ (then_n (ks4 _ _ (wp_cond_t (by kernel_rfl) (xseq_k fun KS29 ks29 => (xregS [0, 1] fun KR30 kr30 => ?_))))))
  refine wpS.qs [(0, 8, .slice none 0 0), (1, 9, .int .i64 10)] ?_
  refine wpS.fin rfl (kr30 _ _ (then_n (ks29 _ _ (xret (inBlock_r (then_r ?_))))))
  obtain ⟨q0, qr0⟩ := Prod.mk.inj (of_some h)
  have q1 := qr0
  subst q0
  subst q1
  have hs := hs.addNilL (CI .u8) 5
  exact qq _ _ (post_ret (by kernel_rfl) (run_results [.tmp 8, .tmp 9] [.slice none 0 0, .int .i64 10] (by kernel_rfl) (.cons (res_tmp (by kernel_rfl)) (.cons (res_tmp (by kernel_rfl)) .nil))) ⟨⟨none, 0, 0⟩, congrArg Ending.returned (by kernel_rfl), (hs.pickR pick_nil)⟩)

theorem law12_awake.ok {K : Nat} {r0 : Bool} (h : law12_awake.f K = some r0) (w0 : World) : Ret Try.prog 29 #[] w0 (.bool r0) := by
 refine calls_k Try.func29 rfl fun Q qq => ?_
 have hs := St.start w0
 refine wp_conv (a' := ⟨#[undef, undef, undef, undef, undef, undef, undef, undef, undef, undef, undef, undef, undef, undef, undef, undef, undef, undef, undef, undef, undef, undef, undef, undef, undef, undef, undef, undef, undef, undef, undef, undef, undef, undef, undef], []⟩) (by kernel_rfl) ?_
 refine xseq_k fun KS1 ks1 => ?_
 refine xregS [0] fun KR2 kr2 => ?_
 refine wpS.q 0 0 (.bool false) ?_
 refine wpS.fin rfl (kr2 _ _ (then_n (ks1 _ _ (xseq_k fun KS3 ks3 => ?_))))
 obtain ⟨⟨y1, y2⟩, hj, h⟩ := of_bind h
 refine wp_join (N := fun a w => ∃ (y1_A : Option Addr) (y1_n : Nat) (y1_c : Nat), St w0 [] [.ownL (CI .u8) y1_A y1_n y1_c y1 5] [] w ∧ ∃ g4 : Nat → Value, a = ⟨#[.bool false, .slice y1_A y1_n y1_c, .int .i64 y2, undef, undef, (g4 5), (g4 6), (g4 7), (g4 8), (g4 9), (g4 10), undef, undef, undef, undef, undef, undef, undef, undef, undef, undef, undef, undef, undef, undef, undef, undef, undef, undef, undef, undef, undef, undef, undef, undef], []⟩) (fun N nj => ?_) ?_
 ·clear h
  have h := hj
  refine wp_regG [] (fun k => True) 8 (by kernel_rfl) (by kernel_rfl) (by kernel_rfl) fun KR5 kr5 => ?_
  have hs := hs.drawn1
  refine wpG.many [0, 1] (by kernel_rfl) (by decide) (forall_cons ?_ (forall_cons ?_ forall_nil))
  ·refine (op_makeT (C := (CI .u8)) (t := 26) (e := 5) (bytes := 1) (B := 140737488355328) (kl := .i64) (kc := .i64) (x := 16) (d := (some 6)) (by kernel_rfl) hs (by kernel_rfl) (by kernel_rfl) (by kernel_rfl) (by kernel_rfl) (by kernel_rfl) (by decide) (by decide) (by decide) (by decide) ?_)
   intro s3_A s3_n s3_c w gw hs
   refine ⟨.of gw, ?_⟩
   refine wpG.only 1 (by kernel_rfl) (op_makeT (C := (CI .u8)) (t := 26) (e := 5) (bytes := 1) (B := 140737488355328) (kl := .i64) (kc := .i64) (x := 12) (d := (some 7)) (by kernel_rfl) hs (by kernel_rfl) (by kernel_rfl) (by kernel_rfl) (by kernel_rfl) (by kernel_rfl) (by decide) (by decide) (by decide) (by decide) ?_)
   intro s4_A s4_n s4_c w gw hs
   refine ⟨.of gw, ?_⟩
   obtain ⟨⟨r5, r6⟩, hg, h⟩ := of_bind h
   refine wpG.only 2 (by kernel_rfl) (op_callH (d := (some 8)) (by kernel_rfl) hs (fun _ => by kernel_rfl) (gcm_Seal.ok hg _ (hs.rowL 1 rfl) (hs.rowL 0 rfl) (RowL.nil _) (RowL.nil _)) ?_)
   rintro ⟨r5_A, r5_n, r5_c⟩ w gw hs
   have hs := hs.conv (L' := [.ownL (CI .u8) r5_A r5_n r5_c r5 5, .ownL (CI .u8) s4_A s4_n s4_c (List.replicate (12 : Int).toNat (Cod.zero (CI .u8))) 5, .ownL (CI .u8) s3_A s3_n s3_c (List.replicate (16 : Int).toNat (Cod.zero (CI .u8))) 5]) rfl
   refine ⟨.of gw, ?_⟩
   refine wpG.q 3 5 (.tuple #[.slice r5_A r5_n r5_c, .int .i64 r6]) ?_
   refine wpG.q 4 9 (.slice r5_A r5_n r5_c) ?_
   refine wpG.q 5 10 (.int .i64 r6) ?_
   refine wpG.q 6 1 (.slice r5_A r5_n r5_c) ?_
   refine wpG.q 7 2 (.int .i64 r6) ?_
   refine wpG.fin (by kernel_rfl) rfl (kr5 _ _ ?_)
   obtain ⟨q0, qr0⟩ := Prod.mk.inj (of_some h)
   have q1 := qr0
   subst q0
   subst q1
   exact nj _ _ ⟨r5_A, r5_n, r5_c, (hs.drop (.cons_cons _ (.cons _ (.cons _ .slnil)))), exg (by kernel_rfl)⟩
  refine (op_makeT (C := (CI .u8)) (t := 26) (e := 5) (bytes := 1) (B := 140737488355328) (kl := .i64) (kc := .i64) (x := 12) (d := (some 7)) (by kernel_rfl) hs (by kernel_rfl) (by kernel_rfl) (by kernel_rfl) (by kernel_rfl) (by kernel_rfl) (by decide) (by decide) (by decide) (by decide) ?_)
  intro s7_A s7_n s7_c w gw hs
  refine ⟨.of gw, ?_⟩
  refine wpG.only 0 (by kernel_rfl) (op_makeT (C := (CI .u8)) (t := 26) (e := 5) (bytes := 1) (B := 140737488355328) (kl := .i64) (kc := .i64) (x := 16) (d := (some 6)) (by kernel_rfl) hs (by kernel_rfl) (by kernel_rfl) (by kernel_rfl) (by kernel_rfl) (by kernel_rfl) (by decide) (by decide) (by decide) (by decide) ?_)
  intro s8_A s8_n s8_c w gw hs
  refine ⟨.of gw, ?_⟩
  obtain ⟨⟨r9, r10⟩, hg, h⟩ := of_bind h
  refine wpG.only 2 (by kernel_rfl) (op_callH (d := (some 8)) (by kernel_rfl) hs (fun _ => by kernel_rfl) (gcm_Seal.ok hg _ (hs.rowL 0 rfl) (hs.rowL 1 rfl) (RowL.nil _) (RowL.nil _)) ?_)
  rintro ⟨r9_A, r9_n, r9_c⟩ w gw hs
  have hs := hs.conv (L' := [.ownL (CI .u8) r9_A r9_n r9_c r9 5, .ownL (CI .u8) s8_A s8_n s8_c (List.replicate (16 : Int).toNat (Cod.zero (CI .u8))) 5, .ownL (CI .u8) s7_A s7_n s7_c (List.replicate (12 : Int).toNat (Cod.zero (CI .u8))) 5]) rfl
  refine ⟨.of gw, ?_⟩
  refine wpG.q 3 5 (.tuple #[.slice r9_A r9_n r9_c, .int .i64 r10]) ?_
  refine wpG.q 4 9 (.slice r9_A r9_n r9_c) ?_
  refine wpG.q 5 10 (.int .i64 r10) ?_
  refine wpG.q 6 1 (.slice r9_A r9_n r9_c) ?_
  refine wpG.q 7 2 (.int .i64 r10) ?_
  refine wpG.fin (by kernel_rfl) rfl (kr5 _ _ ?_)
  obtain ⟨q0, qr0⟩ := Prod.mk.inj (of_some h)
  have q1 := qr0
  subst q0
  subst q1
  exact nj _ _ ⟨r9_A, r9_n, r9_c, (hs.drop (.cons_cons _ (.cons _ (.cons _ .slnil)))), exg (by kernel_rfl)⟩
 clear hj hs
 rintro a w ⟨y1_A, y1_n, y1_c, hs, g4, rfl⟩
 refine then_n (ks3 _ _ (xseq_k fun KS6 ks6 => ?_))
 obtain ⟨y11, hj, h⟩ := of_bind h
 refine wp_join (N := fun a w => St w0 [] [.ownL (CI .u8) y1_A y1_n y1_c y1 5] [] w ∧ ∃ g7 : Nat → Value, a = ⟨#[.bool false, .slice y1_A y1_n y1_c, .int .i64 y2, (g7 3), .int .i64 y11, (g4 5), (g4 6), (g4 7), (g4 8), (g4 9), (g4 10), (g7 11), (g7 12), (g7 13), (g7 14), (g7 15), (g7 16), (g7 17), undef, undef, undef, undef, undef, undef, undef, undef, undef, undef, undef, undef, undef, undef, undef, undef, undef], []⟩) (fun N nj => ?_) ?_
 ·clear h
  have h := hj
  refine wp_regG [] (fun k => True) 9 (by kernel_rfl) (by kernel_rfl) (by kernel_rfl) fun KR8 kr8 => ?_
  have hs := hs.drawn1
  refine wpG.many [0, 1, 2] (by kernel_rfl) (by decide) (forall_cons ?_ (forall_cons ?_ (forall_cons ?_ forall_nil)))
  ·refine (op_makeT (C := (CI .u8)) (t := 26) (e := 5) (bytes := 1) (B := 140737488355328) (kl := .i64) (kc := .i64) (x := 16) (d := (some 12)) (by kernel_rfl) hs (by kernel_rfl) (by kernel_rfl) (by kernel_rfl) (by kernel_rfl) (by kernel_rfl) (by decide) (by decide) (by decide) (by decide) ?_)
   intro s12_A s12_n s12_c w gw hs
   refine ⟨.of gw, ?_⟩
   refine wpG.many [1, 2] (by kernel_rfl) (by decide) (forall_cons ?_ (forall_cons ?_ forall_nil))
   ·refine (op_makeT (C := (CI .u8)) (t := 26) (e := 5) (bytes := 1) (B := 140737488355328) (kl := .i64) (kc := .i64) (x := 12) (d := (some 13)) (by kernel_rfl) hs (by kernel_rfl) (by kernel_rfl) (by kernel_rfl) (by kernel_rfl) (by kernel_rfl) (by decide) (by decide) (by decide) (by decide) ?_)
    intro s13_A s13_n s13_c w gw hs
    refine ⟨.of gw, ?_⟩
    refine wpG.only 2 (by kernel_rfl) (op_makeT (C := (CI .u8)) (t := 26) (e := 5) (bytes := 1) (B := 140737488355328) (kl := .i64) (kc := .i64) (x := 16) (d := (some 14)) (by kernel_rfl) hs (by kernel_rfl) (by kernel_rfl) (by kernel_rfl) (by kernel_rfl) (by kernel_rfl) (by decide) (by decide) (by decide) (by decide) ?_)
    intro s14_A s14_n s14_c w gw hs
    refine ⟨.of gw, ?_⟩
    obtain ⟨⟨r15, r16⟩, hg, h⟩ := of_bind h
    refine wpG.only 3 (by kernel_rfl) (op_callH (d := (some 15)) (by kernel_rfl) hs (fun _ => by kernel_rfl) (gcm_Open.ok hg _ (hs.rowL 2 rfl) (hs.rowL 1 rfl) (RowL.nil _) (hs.rowL 0 rfl)) ?_)
    rintro ⟨r15_A, r15_n, r15_c⟩ w gw hs
    have hs := hs.conv (L' := [.ownL (CI .u8) r15_A r15_n r15_c r15 5, .ownL (CI .u8) s14_A s14_n s14_c (List.replicate (16 : Int).toNat (Cod.zero (CI .u8))) 5, .ownL (CI .u8) s13_A s13_n s13_c (List.replicate (12 : Int).toNat (Cod.zero (CI .u8))) 5, .ownL (CI .u8) s12_A s12_n s12_c (List.replicate (16 : Int).toNat (Cod.zero (CI .u8))) 5, .ownL (CI .u8) y1_A y1_n y1_c y1 5]) rfl
    refine ⟨.of gw, ?_⟩
    refine wpG.q 4 11 (.tuple #[.slice r15_A r15_n r15_c, .int .i64 r16]) ?_
    refine wpG.q 5 16 (.slice r15_A r15_n r15_c) ?_
    refine wpG.q 6 17 (.int .i64 r16) ?_
    refine wpG.q 7 3 (.slice r15_A r15_n r15_c) ?_
    refine wpG.q 8 4 (.int .i64 r16) ?_
    refine wpG.fin (by kernel_rfl) rfl (kr8 _ _ ?_)
    have q0 := of_some h
    subst q0
    exact nj _ _ ⟨(hs.drop (.cons _ (.cons _ (.cons _ (.cons _ (.cons_cons _ .slnil)))))), exg (by kernel_rfl)⟩
   refine (op_makeT (C := (CI .u8)) (t := 26) (e := 5) (bytes := 1) (B := 140737488355328) (kl := .i64) (kc := .i64) (x := 16) (d := (some 14)) (by kernel_rfl) hs (by kernel_rfl) (by kernel_rfl) (by kernel_rfl) (by kernel_rfl) (by kernel_rfl) (by decide) (by decide) (by decide) (by decide) ?_)
   intro s17_A s17_n s17_c w gw hs
   refine ⟨.of gw, ?_⟩
   refine wpG.only 1 (by kernel_rfl) (op_makeT (C := (CI .u8)) (t := 26) (e := 5) (bytes := 1) (B := 140737488355328) (kl := .i64) (kc := .i64) (x := 12) (d := (some 13)) (by kernel_rfl) hs (by kernel_rfl) (by kernel_rfl) (by kernel_rfl) (by kernel_rfl) (by kernel_rfl) (by decide) (by decide) (by decide) (by decide) ?_)
   intro s18_A s18_n s18_c w gw hs
   refine ⟨.of gw, ?_⟩
   obtain ⟨⟨r19, r20⟩, hg, h⟩ := of_bind h
   refine wpG.only 3 (by kernel_rfl) (op_callH (d := (some 15)) (by kernel_rfl) hs (fun _ => by kernel_rfl) (gcm_Open.ok hg _ (hs.rowL 2 rfl) (hs.rowL 0 rfl) (RowL.nil _) (hs.rowL 1 rfl)) ?_)
   rintro ⟨r19_A, r19_n, r19_c⟩ w gw hs
   have hs := hs.conv (L' := [.ownL (CI .u8) r19_A r19_n r19_c r19 5, .ownL (CI .u8) s18_A s18_n s18_c (List.replicate (12 : Int).toNat (Cod.zero (CI .u8))) 5, .ownL (CI .u8) s17_A s17_n s17_c (List.replicate (16 : Int).toNat (Cod.zero (CI .u8))) 5, .ownL (CI .u8) s12_A s12_n s12_c (List.replicate (16 : Int).toNat (Cod.zero (CI .u8))) 5, .ownL (CI .u8) y1_A y1_n y1_c y1 5]) rfl
   refine ⟨.of gw, ?_⟩
   refine wpG.q 4 11 (.tuple #[.slice r19_A r19_n r19_c, .int .i64 r20]) ?_
   refine wpG.q 5 16 (.slice r19_A r19_n r19_c) ?_
   refine wpG.q 6 17 (.int .i64 r20) ?_
   refine wpG.q 7 3 (.slice r19_A r19_n r19_c) ?_
   refine wpG.q 8 4 (.int .i64 r20) ?_
   refine wpG.fin (by kernel_rfl) rfl (kr8 _ _ ?_)
   have q0 := of_some h
   subst q0
   exact nj _ _ ⟨(hs.drop (.cons _ (.cons _ (.cons _ (.cons _ (.cons_cons _ .slnil)))))), exg (by kernel_rfl)⟩
  ·refine (op_makeT (C := (CI .u8)) (t := 26) (e := 5) (bytes := 1) (B := 140737488355328) (kl := .i64) (kc := .i64) (x := 12) (d := (some 13)) (by kernel_rfl) hs (by kernel_rfl) (by kernel_rfl) (by kernel_rfl) (by kernel_rfl) (by kernel_rfl) (by decide) (by decide) (by decide) (by decide) ?_)
   intro s21_A s21_n s21_c w gw hs
   refine ⟨.of gw, ?_⟩
   refine wpG.many [0, 2] (by kernel_rfl) (by decide) (forall_cons ?_ (forall_cons ?_ forall_nil))
   ·refine (op_makeT (C := (CI .u8)) (t := 26) (e := 5) (bytes := 1) (B := 140737488355328) (kl := .i64) (kc := .i64) (x := 16) (d := (some 12)) (by kernel_rfl) hs (by kernel_rfl) (by kernel_rfl) (by kernel_rfl) (by kernel_rfl) (by kernel_rfl) (by decide) (by decide) (by decide) (by decide) ?_)
    intro s22_A s22_n s22_c w gw hs
    refine ⟨.of gw, ?_⟩
    refine wpG.only 2 (by kernel_rfl) (op_makeT (C := (CI .u8)) (t := 26) (e := 5) (bytes := 1) (B := 140737488355328) (kl := .i64) (kc := .i64) (x := 16) (d := (some 14)) (by kernel_rfl) hs (by kernel_rfl) (by kernel_rfl) (by kernel_rfl) (by kernel_rfl) (by kernel_rfl) (by decide) (by decide) (by decide) (by decide) ?_)
    intro s23_A s23_n s23_c w gw hs
    refine ⟨.of gw, ?_⟩
    obtain ⟨⟨r24, r25⟩, hg, h⟩ := of_bind h
    refine wpG.only 3 (by kernel_rfl) (op_callH (d := (some 15)) (by kernel_rfl) hs (fun _ => by kernel_rfl) (gcm_Open.ok hg _ (hs.rowL 1 rfl) (hs.rowL 2 rfl) (RowL.nil _) (hs.rowL 0 rfl)) ?_)
    rintro ⟨r24_A, r24_n, r24_c⟩ w gw hs
    have hs := hs.conv (L' := [.ownL (CI .u8) r24_A r24_n r24_c r24 5, .ownL (CI .u8) s23_A s23_n s23_c (List.replicate (16 : Int).toNat (Cod.zero (CI .u8))) 5, .ownL (CI .u8) s22_A s22_n s22_c (List.replicate (16 : Int).toNat (Cod.zero (CI .u8))) 5, .ownL (CI .u8) s21_A s21_n s21_c (List.replicate (12 : Int).toNat (Cod.zero (CI .u8))) 5, .ownL (CI .u8) y1_A y1_n y1_c y1 5]) rfl
    refine ⟨.of gw, ?_⟩
    refine wpG.q 4 11 (.tuple #[.slice r24_A r24_n r24_c, .int .i64 r25]) ?_
    refine wpG.q 5 16 (.slice r24_A r24_n r24_c) ?_
    refine wpG.q 6 17 (.int .i64 r25) ?_
    refine wpG.q 7 3 (.slice r24_A r24_n r24_c) ?_
    refine wpG.q 8 4 (.int .i64 r25) ?_
    refine wpG.fin (by kernel_rfl) rfl (kr8 _ _ ?_)
    have q0 := of_some h
    subst q0
    exact nj _ _ ⟨(hs.drop (.cons _ (.cons _ (.cons _ (.cons _ (.cons_cons _ .slnil)))))), exg (by kernel_rfl)⟩
   refine (op_makeT (C := (CI .u8)) (t := 26) (e := 5) (bytes := 1) (B := 140737488355328) (kl := .i64) (kc := .i64) (x := 16) (d := (some 14)) (by kernel_rfl) hs (by kernel_rfl) (by kernel_rfl) (by kernel_rfl) (by kernel_rfl) (by kernel_rfl) (by decide) (by decide) (by decide) (by decide) ?_)
   intro s26_A s26_n s26_c w gw hs
   refine ⟨.of gw, ?_⟩
   refine wpG.only 0 (by kernel_rfl) (op_makeT (C := (CI .u8)) (t := 26) (e := 5) (bytes := 1) (B := 140737488355328) (kl := .i64) (kc := .i64) (x := 16) (d := (some 12)) (by kernel_rfl) hs (by kernel_rfl) (by kernel_rfl) (by kernel_rfl) (by kernel_rfl) (by kernel_rfl) (by decide) (by decide) (by decide) (by decide) ?_)
   intro s27_A s27_n s27_c w gw hs
   refine ⟨.of gw, ?_⟩
   obtain ⟨⟨r28, r29⟩, hg, h⟩ := of_bind h
   refine wpG.only 3 (by kernel_rfl) (op_callH (d := (some 15)) (by kernel_rfl) hs (fun _ => by kernel_rfl) (gcm_Open.ok hg _ (hs.rowL 0 rfl) (hs.rowL 2 rfl) (RowL.nil _) (hs.rowL 1 rfl)) ?_)
   rintro ⟨r28_A, r28_n, r28_c⟩ w gw hs
   have hs := hs.conv (L' := [.ownL (CI .u8) r28_A r28_n r28_c r28 5, .ownL (CI .u8) s27_A s27_n s27_c (List.replicate (16 : Int).toNat (Cod.zero (CI .u8))) 5, .ownL (CI .u8) s26_A s26_n s26_c (List.replicate (16 : Int).toNat (Cod.zero (CI .u8))) 5, .ownL (CI .u8) s21_A s21_n s21_c (List.replicate (12 : Int).toNat (Cod.zero (CI .u8))) 5, .ownL (CI .u8) y1_A y1_n y1_c y1 5]) rfl
   refine ⟨.of gw, ?_⟩
   refine wpG.q 4 11 (.tuple #[.slice r28_A r28_n r28_c, .int .i64 r29]) ?_
   refine wpG.q 5 16 (.slice r28_A r28_n r28_c) ?_
   refine wpG.q 6 17 (.int .i64 r29) ?_
   refine wpG.q 7 3 (.slice r28_A r28_n r28_c) ?_
   refine wpG.q 8 4 (.int .i64 r29) ?_
   refine wpG.fin (by kernel_rfl) rfl (kr8 _ _ ?_)
   have q0 := of_some h
   subst q0
   exact nj _ _ ⟨(hs.drop (.cons _ (.cons _ (.cons _ (.cons _ (.cons_cons _ .slnil)))))), exg (by kernel_rfl)⟩
  refine (op_makeT (C := (CI .u8)) (t := 26) (e := 5) (bytes := 1) (B := 140737488355328) (kl := .i64) (kc := .i64) (x := 16) (d := (some 14)) (by kernel_rfl) hs (by kernel_rfl) (by kernel_rfl) (by kernel_rfl) (by kernel_rfl) (by kernel_rfl) (by decide) (by decide) (by decide) (by decide) ?_)
  intro s30_A s30_n s30_c w gw hs
  refine ⟨.of gw, ?_⟩
  refine wpG.many [0, 1] (by kernel_rfl) (by decide) (forall_cons ?_ (forall_cons ?_ forall_nil))
  ·refine (op_makeT (C := (CI .u8)) (t := 26) (e := 5) (bytes := 1) (B := 140737488355328) (kl := .i64) (kc := .i64) (x := 16) (d := (some 12)) (by kernel_rfl) hs (by kernel_rfl) (by kernel_rfl) (by kernel_rfl) (by kernel_rfl) (by kernel_rfl) (by decide) (by decide) (by decide) (by decide) ?_)
   intro s31_A s31_n s31_c w gw hs
   refine ⟨.of gw, ?_⟩
   refine wpG.only 1 (by kernel_rfl) (op_makeT (C := (CI .u8)) (t := 26) (e := 5) (bytes := 1) (B := 140737488355328) (kl := .i64) (kc := .i64) (x := 12) (d := (some 13)) (by kernel_rfl) hs (by kernel_rfl) (by kernel_rfl) (by kernel_rfl) (by kernel_rfl) (by kernel_rfl) (by decide) (by decide) (by decide) (by decide) ?_)
   intro s32_A s32_n s32_c w gw hs
   refine ⟨.of gw, ?_⟩
   obtain ⟨⟨r33, r34⟩, hg, h⟩ := of_bind h
   refine wpG.only 3 (by kernel_rfl) (op_callH (d := (some 15)) (by kernel_rfl) hs (fun _ => by kernel_rfl) (gcm_Open.ok hg _ (hs.rowL 1 rfl) (hs.rowL 0 rfl) (RowL.nil _) (hs.rowL 2 rfl)) ?_)
   rintro ⟨r33_A, r33_n, r33_c⟩ w gw hs
   have hs := hs.conv (L' := [.ownL (CI .u8) r33_A r33_n r33_c r33 5, .ownL (CI .u8) s32_A s32_n s32_c (List.replicate (12 : Int).toNat (Cod.zero (CI .u8))) 5, .ownL (CI .u8) s31_A s31_n s31_c (List.replicate (16 : Int).toNat (Cod.zero (CI .u8))) 5, .ownL (CI .u8) s30_A s30_n s30_c (List.replicate (16 : Int).toNat (Cod.zero (CI .u8))) 5, .ownL (CI .u8) y1_A y1_n y1_c y1 5]) rfl
   refine ⟨.of gw, ?_⟩
   refine wpG.q 4 11 (.tuple #[.slice r33_A r33_n r33_c, .int .i64 r34]) ?_
   refine wpG.q 5 16 (.slice r33_A r33_n r33_c) ?_
   refine wpG.q 6 17 (.int .i64 r34) ?_
   refine wpG.q 7 3 (.slice r33_A r33_n r33_c) ?_
   refine wpG.q 8 4 (.int .i64 r34) ?_
   refine wpG.fin (by kernel_rfl) rfl (kr8 _ _ ?_)
   have q0 := of_some h
   subst q0
   exact nj _ _ ⟨(hs.drop (.cons _ (.cons _ (.cons _ (.cons _ (.cons_cons _ .slnil)))))), exg (by kernel_rfl)⟩
  refine (op_makeT (C := (CI .u8)) (t := 26) (e := 5) (bytes := 1) (B := 140737488355328) (kl := .i64) (kc := .i64) (x := 12) (d := (some 13)) (by kernel_rfl) hs (by kernel_rfl) (by kernel_rfl) (by kernel_rfl) (by kernel_rfl) (by kernel_rfl) (by decide) (by decide) (by decide) (by decide) ?_)
  intro s35_A s35_n s35_c w gw hs
  refine ⟨.of gw, ?_⟩
  refine wpG.only 0 (by kernel_rfl) (op_makeT (C := (CI .u8)) (t := 26) (e := 5) (bytes := 1) (B := 140737488355328) (kl := .i64) (kc := .i64) (x := 16) (d := (some 12)) (by kernel_rfl) hs (by kernel_rfl) (by kernel_rfl) (by kernel_rfl) (by kernel_rfl) (by kernel_rfl) (by decide) (by decide) (by decide) (by decide) ?_)
  intro s36_A s36_n s36_c w gw hs
  refine ⟨.of gw, ?_⟩
  obtain ⟨⟨r37, r38⟩, hg, h⟩ := of_bind h
  refine wpG.only 3 (by kernel_rfl) (op_callH (d := (some 15)) (by kernel_rfl) hs (fun _ => by kernel_rfl) (gcm_Open.ok hg _ (hs.rowL 0 rfl) (hs.rowL 1 rfl) (RowL.nil _) (hs.rowL 2 rfl)) ?_)
  rintro ⟨r37_A, r37_n, r37_c⟩ w gw hs
  have hs := hs.conv (L' := [.ownL (CI .u8) r37_A r37_n r37_c r37 5, .ownL (CI .u8) s36_A s36_n s36_c (List.replicate (16 : Int).toNat (Cod.zero (CI .u8))) 5, .ownL (CI .u8) s35_A s35_n s35_c (List.replicate (12 : Int).toNat (Cod.zero (CI .u8))) 5, .ownL (CI .u8) s30_A s30_n s30_c (List.replicate (16 : Int).toNat (Cod.zero (CI .u8))) 5, .ownL (CI .u8) y1_A y1_n y1_c y1 5]) rfl
  refine ⟨.of gw, ?_⟩
  refine wpG.q 4 11 (.tuple #[.slice r37_A r37_n r37_c, .int .i64 r38]) ?_
  refine wpG.q 5 16 (.slice r37_A r37_n r37_c) ?_
  refine wpG.q 6 17 (.int .i64 r38) ?_
  refine wpG.q 7 3 (.slice r37_A r37_n r37_c) ?_
  refine wpG.q 8 4 (.int .i64 r38) ?_
  refine wpG.fin (by kernel_rfl) rfl (kr8 _ _ ?_)
  have q0 := of_some h
  subst q0
  exact nj _ _ ⟨(hs.drop (.cons _ (.cons _ (.cons _ (.cons _ (.cons_cons _ .slnil)))))), exg (by kernel_rfl)⟩
 clear hj hs
 rintro a w ⟨hs, g7, rfl⟩
 refine then_n (ks6 _ _ (xseq_k fun KS9 ks9 => (xregS [0, 1, 2, 3, 4, 5, 6, 7, 8, 9, 10, 11, 12, 13, 14, 15, 16, 17] fun KR10 kr10 => ?_)))
 refine wpS.q 0 18 (.int .i64 y2) ?_
 rcases of_if h with ⟨hc, h⟩ | ⟨hc, h⟩
 ·refine wpS.tk 1 false (some 19) (.bool true) (yld_b (et hc) (fun _ => by kernel_rfl)) ?_
  refine wpS.qs [(2, 20, .bool true), (3, 21, .slice y1_A y1_n y1_c)] ?_
  refine wpS.tk 4 false (some 22) (.int .i64 (y1.length : Int)) (yld_lenL (hs.rowL 0 rfl) (fun _ => by kernel_rfl)) ?_
  rcases of_if h with ⟨hc, h⟩ | ⟨hc, h⟩
  ·refine wpS.tk 5 false (some 23) (.bool true) (yld_b (et hc) (fun _ => by kernel_rfl)) ?_
   refine wpS.qs [(6, 24, .bool true), (7, 25, .bool true), (8, 26, .slice y1_A y1_n y1_c)] ?_
   obtain ⟨h0, h⟩ := of_chk h
   obtain ⟨h1, h⟩ := of_chk h
   refine wpS.tk 9 false (some 27) (.slice y1_A (4 : Int).toNat y1_c) (yld_pre (C := (CI .u8)) (t := 26) (e := 5) (k := .i64) (hi := 4) (hs.rowL 0 rfl) (by kernel_rfl) (by kernel_rfl) (by kernel_rfl) h0 h1) ?_
   have hs := hs.preOwn 0 rfl h0 h1
   refine wpS.only 10 (op_lit (C := (CI .u8)) (t := 26) (e := 5) (len := 4) (parts := #[(0, .int .u8 88), (1, .int .u8 226), (2, .int .u8 252), (3, .int .u8 206)]) (l := [88, 226, 252, 206]) (d := (some 28)) (by kernel_rfl) hs (by kernel_rfl) (by kernel_rfl) (by kernel_rfl) (z := .int .u8 0) (by kernel_rfl) rfl (by decide) (by decide) (by kernel_rfl) ?_)
   intro s39_A s39_n s39_c w gw hs
   refine ⟨fun _ => trivial, ?_⟩
   obtain ⟨r40, hg, h⟩ := of_bind h
   cases r40 with
   | true =>
    have h := of_if_t h
    refine wpS.only 11 (op_call (d := (some 29)) (by kernel_rfl) hs (fun _ => by kernel_rfl) (ref01_Same.ok hg _ (hs.rowL 1 rfl) (hs.rowL 0 rfl)) ?_)
    intro w gw hs
    refine ⟨fun _ => trivial, ?_⟩
    refine wpS.qs [(12, 30, .bool true), (13, 31, .bool true), (14, 32, .int .i64 y11), (15, 33, .bool (y11 == 17)), (16, 34, .bool (y11 == 17)), (17, 0, .bool (y11 == 17))] ?_
    refine wpS.fin rfl (kr10 _ _ (then_n (ks9 _ _ (xret ?_))))
    have q0 := of_some h
    subst q0
    exact qq _ _ (post_ret (by kernel_rfl) (run_results [.tmp 0] [.bool (y11 == 17)] (by kernel_rfl) (.cons (res_tmp (by kernel_rfl)) .nil)) ⟨congrArg Ending.returned (by kernel_rfl), hs.none⟩)
   | false =>
    have h := of_if_f h
    refine wpS.only 11 (op_call (d := (some 29)) (by kernel_rfl) hs (fun _ => by kernel_rfl) (ref01_Same.ok hg _ (hs.rowL 1 rfl) (hs.rowL 0 rfl)) ?_)
    intro w gw hs
    refine ⟨fun _ => trivial, ?_⟩
    refine wpS.qs [(12, 30, .bool false), (13, 31, .bool false), (14, 32, undef), (15, 33, undef), (16, 34, .bool false), (17, 0, .bool false)] ?_
    refine wpS.fin rfl (kr10 _ _ (then_n (ks9 _ _ (xret ?_))))
    have q0 := of_some h
    subst q0
    exact qq _ _ (post_ret (by kernel_rfl) (run_results [.tmp 0] [.bool false] (by kernel_rfl) (.cons (res_tmp (by kernel_rfl)) .nil)) ⟨congrArg Ending.returned (by kernel_rfl), hs.none⟩)
  refine wpS.tk 5 false (some 23) (.bool false) (yld_b (ef hc) (fun _ => by kernel_rfl)) ?_
  refine wpS.qs [(6, 24, .bool false), (7, 25, .bool false), (8, 26, undef), (9, 27, undef), (10, 28, undef), (11, 29, undef), (12, 30, .bool false), (13, 31, .bool false), (14, 32, undef), (15, 33, undef), (16, 34, .bool false), (17, 0, .bool false)] ?_
  refine wpS.fin rfl (kr10 _ _ (then_n (ks9 _ _ (xret ?_))))
  have q0 := of_some h
  subst q0
  exact qq _ _ (post_ret (by kernel_rfl) (run_results [.tmp 0] [.bool false] (by kernel_rfl) (.cons (res_tmp (by kernel_rfl)) .nil)) ⟨congrArg Ending.returned (by kernel_rfl), hs.none⟩)
 refine wpS.tk 1 false (some 19) (.bool false) (yld_b (ef hc) (fun _ => by kernel_rfl)) ?_
 refine wpS.qs [(2, 20, .bool false), (3, 21, undef), (4, 22, undef), (5, 23, undef), (6, 24, .bool false), (7, 25, .bool false), (8, 26, undef), (9, 27, undef), (10, 28, undef), (11, 29, undef), (12, 30, .bool false), (13, 31, .bool false), (14, 32, undef), (15, 33, undef), (16, 34, .bool false), (17, 0, .bool false)] ?_
 refine wpS.fin rfl (kr10 _ _ (then_n (ks9 _ _ (xret ?_))))
 have q0 := of_some h
 subst q0
 exact qq _ _ (post_ret (by kernel_rfl) (run_results [.tmp 0] [.bool false] (by kernel_rfl) (.cons (res_tmp (by kernel_rfl)) .nil)) ⟨congrArg Ending.returned (by kernel_rfl), hs.none⟩)
end Go.Proofs.Ytmpagpbnpgcecaa
