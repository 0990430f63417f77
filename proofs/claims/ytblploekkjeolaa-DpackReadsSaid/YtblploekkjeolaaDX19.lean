/- Printed by this work's own program: the code of each function below comes to the answer that its plain form tells. -/
import Derived.Test.YtblploekkjeolaaMv
import Derived.Test.YtblploekkjeolaaProg
import Derived.Test.YtblploekkjeolaaDFDpackReads
import Derived.Test.YtblploekkjeolaaDX0
import Derived.Test.YtblploekkjeolaaDX1
import Derived.Test.YtblploekkjeolaaDX15
import Derived.Test.YtblploekkjeolaaDX2
import Derived.Test.YtblploekkjeolaaDX3
import Derived.Test.YtblploekkjeolaaDX4
import Derived.Test.YtblploekkjeolaaDX5
set_option linter.unusedVariables false
set_option linter.unusedSimpArgs false
set_option maxRecDepth 100000
set_option maxHeartbeats 4000000
namespace Go.Proofs.Ytblploekkjeolaa
open Go.Mx
attribute [local irreducible] wpOp

theorem ref22_UnSig.ok {K : Nat} {a0_0 : Int} {a0_1 : Int} {a0_2 : Int} {a0_3 : Int} {a0_4 : Int} {a0_5 : Int} {a0_6 : Int} {a0_7 : Int} {a1 : List Int} {r0_0 : List Int} {r0_1 : List (Arr 256)} {r0_2 : List (Arr 256)} {r1 : Bool} {a1_A : Option Addr} {a1_n : Nat} {a1_c : Nat} (h : ref22_UnSig.f K a0_0 a0_1 a0_2 a0_3 a0_4 a0_5 a0_6 a0_7 a1 = some (r0_0, r0_1, r0_2, r1)) (w0 : World) (hp1 : RowL (CI .u8) w0 a1_A a1_n a1_c a1) : Calls Try.prog 34 #[.agg #[.int .i64 a0_0, .int .i64 a0_1, .int .i32 a0_2, .int .i64 a0_3, .int .i32 a0_4, .int .i32 a0_5, .int .i64 a0_6, .int .i64 a0_7], .slice a1_A a1_n a1_c] w0 fun e w' => ∃ h : (Option Addr × Nat × Nat) × (Option Addr × Nat × Nat) × (Option Addr × Nat × Nat), e = .returned (.tuple #[.agg #[.slice h.1.1 h.1.2.1 h.1.2.2, .slice h.2.1.1 h.2.1.2.1 h.2.1.2.2, .slice h.2.2.1 h.2.2.2.1 h.2.2.2.2], .bool r1]) ∧ St w0 [] [.ownL (CA .i32 256 (by decide)) h.2.1.1 h.2.1.2.1 h.2.1.2.2 r0_1 40, .ownL (CA .i32 256 (by decide)) h.2.2.1 h.2.2.2.1 h.2.2.2.2 r0_2 40] [.rowF (Ent.rowL (CI .u8) a1_A a1_n a1_c a1).foot (CI .u8) h.1.1 h.1.2.1 h.1.2.2 r0_0] w' := by
 refine calls_k Try.func34 rfl fun Q qq => ?_
 have hs := St.startR (all_cons (RowP.entF hp1) all_nil)
 refine wp_conv (a' := ⟨#[.agg #[.int .i64 a0_0, .int .i64 a0_1, .int .i32 a0_2, .int .i64 a0_3, .int .i32 a0_4, .int .i32 a0_5, .int .i64 a0_6, .int .i64 a0_7], .slice a1_A a1_n a1_c, undef, undef, undef, undef, undef, undef, undef, undef, undef, undef, undef, undef, undef, undef, undef, undef, undef, undef, undef, undef, undef, undef, undef, undef, undef, undef, undef, undef, undef, undef, undef, undef, undef, undef, undef, undef, undef, undef, undef, undef, undef, undef, undef, undef, undef, undef, undef, undef, undef, undef, undef, undef, undef, undef, undef, undef, undef, undef, undef, undef, undef, undef, undef], []⟩) (by kernel_rfl) ?_
 refine xseq_k fun KS1 ks1 => ?_
 refine wp_regS (l := [0, 1, 2]) (by kernel_rfl) (by kernel_rfl) fun KR2 kr2 => ?_
 refine wpS.only 0 (op_box (t := 23) (v := .agg #[.int .i64 a0_0, .int .i64 a0_1, .int .i32 a0_2, .int .i64 a0_3, .int .i32 a0_4, .int .i32 a0_5, .int .i64 a0_6, .int .i64 a0_7]) (d := (some 2)) (by kernel_rfl) hs ([.int .i64 a0_0, .int .i64 a0_1, .int .i32 a0_2, .int .i64 a0_3, .int .i32 a0_4, .int .i32 a0_5, .int .i64 a0_6, .int .i64 a0_7]) (by kernel_rfl) (by kernel_rfl) ?_)
 intro b1 w gw hs
 refine ⟨fun _ => trivial, ?_⟩
 refine wpS.only 1 (op_alloc (t := 31) (d := (some 4)) (by kernel_rfl) hs ([.slice none 0 0, .slice none 0 0, .slice none 0 0]) (.agg #[.slice none 0 0, .slice none 0 0, .slice none 0 0]) (by kernel_rfl) (by kernel_rfl) (by kernel_rfl) ?_)
 intro b2 w gw hs
 refine ⟨fun _ => trivial, ?_⟩
 refine wpS.p 2 5 (.bool false) (by kernel_rfl) ?_
 refine wpS.fin rfl (kr2 _ _ ?_)
 refine then_n (ks1 _ _ ?_)
 refine xseq_k fun KS3 ks3 => ?_
 refine wp_regS (l := [0, 1, 2, 3, 4, 5, 6, 7, 8]) (by kernel_rfl) (by kernel_rfl) fun KR4 kr4 => ?_
 refine wpS.take 0 true (some 15) (.agg #[.int .i64 a0_0, .int .i64 a0_1, .int .i32 a0_2, .int .i64 a0_3, .int .i32 a0_4, .int .i32 a0_5, .int .i64 a0_6, .int .i64 a0_7]) (by kernel_rfl) (yld_loadW (e := 23) (n := 8) hs 1 rfl (by kernel_rfl) (by kernel_rfl) (by kernel_rfl) (by simp [enc_len]) .grow) ?_
 obtain ⟨⟨r3, r4, r5⟩, hg, h⟩ := of_bind h
 refine wpS.only 1 (op_call (d := (some 16)) (by kernel_rfl) hs (fun _ => by kernel_rfl) (ref22_Sizes.ok hg _) ?_)
 intro w gw hs
 refine ⟨fun _ => trivial, ?_⟩
 refine wpS.ps [(2, 14, .tuple #[.int .i64 r3, .int .i64 r4, .int .i64 r5]), (3, 17, .int .i64 r3), (4, 18, .int .i64 r4), (5, 19, .int .i64 r5), (6, 6, .int .i64 r3), (7, 7, .int .i64 r4), (8, 8, .int .i64 r5)] (by kernel_rfl) ?_
 refine wpS.fin rfl (kr4 _ _ ?_)
 refine then_n (ks3 _ _ ?_)
 refine xseq_k fun KS5 ks5 => ?_
 refine xseq_k fun KS6 ks6 => ?_
 refine wp_regS (l := [0, 1, 2, 3, 4, 5, 6, 7, 8]) (by kernel_rfl) (by kernel_rfl) fun KR7 kr7 => ?_
 refine wpS.take 0 true (some 20) (.agg #[.int .i64 a0_0, .int .i64 a0_1, .int .i32 a0_2, .int .i64 a0_3, .int .i32 a0_4, .int .i32 a0_5, .int .i64 a0_6, .int .i64 a0_7]) (by kernel_rfl) (yld_loadW (e := 23) (n := 8) hs 1 rfl (by kernel_rfl) (by kernel_rfl) (by kernel_rfl) (by simp [enc_len]) .grow) ?_
 obtain ⟨r6, hg, h⟩ := of_bind h
 cases r6 with
 | true =>
  have h := of_if_t h
  refine wpS.only 1 (op_call (d := (some 21)) (by kernel_rfl) hs (fun _ => by kernel_rfl) (ref22_Known.ok hg _) ?_)
  intro w gw hs
  refine ⟨fun _ => trivial, ?_⟩
  refine wpS.ps [(2, 22, .bool false), (3, 23, .bool false), (4, 24, .slice a1_A a1_n a1_c)] (by kernel_rfl) ?_
  refine wpS.take 5 false (some 25) (.int .i64 (a1.length : Int)) (by kernel_rfl) (yld_lenL (hs.rowF 0 rfl) (fun _ => by kernel_rfl)) ?_
  refine wpS.p 6 26 (.int .i64 r5) (by kernel_rfl) ?_
  rcases of_if h with ⟨hc, h⟩ | ⟨hc, h⟩
  ·refine wpS.take 7 false (some 27) (.bool false) (by kernel_rfl) (yld_b (nf hc) (fun _ => by kernel_rfl)) ?_
   refine wpS.p 8 28 (.bool false) (by kernel_rfl) ?_
   refine wpS.fin rfl (kr7 _ _ ?_)
   refine then_n (ks6 _ _ ?_)
   refine wp_cond_f (by kernel_rfl) ?_
   refine xskip ?_
   refine then_n (ks5 _ _ ?_)
   refine xseq_k fun KS8 ks8 => ?_
   refine wp_regG [] (fun k => True) 19 (by kernel_rfl) (by kernel_rfl) (by kernel_rfl) fun KR9 kr9 => ?_
   have hs := hs.drawn1
   refine wpG.takeD 0 false (some 31) (.slice a1_A a1_n a1_c) (by kernel_rfl) (by kernel_rfl) (yld fun _ => by kernel_rfl) ?_
   refine wpG.takeD 1 false (some 32) (.pointer (some ⟨b1, 7, none⟩)) (by kernel_rfl) (by kernel_rfl) (yld fun _ => by kernel_rfl) ?_
   refine wpG.takeD 2 true (some 33) (.int .i64 a0_7) (by kernel_rfl) (by kernel_rfl) (yld_load1 (e := 3) (o := 7) hs 1 rfl (by kernel_rfl) (by kernel_rfl) (by rfl) .grow) ?_
   obtain ⟨h0, h⟩ := of_chk h
   obtain ⟨h1, h⟩ := of_chk h
   obtain ⟨h2, h⟩ := of_chk h
   obtain ⟨s7_A, hA⟩ : ∃ A, A = if a1_c = (a0_7 : Int).toNat then a1_A else adr a1_A ((a0_7 : Int).toNat * Cod.size (CI .u8)) := ⟨_, rfl⟩
   obtain ⟨s7_n, hn⟩ : ∃ n, n = ((a1.length : Int) : Int).toNat - (a0_7 : Int).toNat := ⟨_, rfl⟩
   obtain ⟨s7_c, hc⟩ : ∃ c, c = a1_c - (a0_7 : Int).toNat := ⟨_, rfl⟩
   refine wpG.takeD 3 false (some 34) (.slice s7_A s7_n s7_c) (by kernel_rfl) (by kernel_rfl) (yld_sub (C := (CI .u8)) (t := 24) (e := 5) (low := some (.int .i64 a0_7)) (high := none) (lo := a0_7) (hi := (a1.length : Int)) (hs.rowF 0 rfl) (by kernel_rfl) (by kernel_rfl) (by kernel_rfl) (.inr ⟨_, rfl⟩) (.inl ⟨rfl, rfl⟩) h0 h1 h2 hA hn hc) ?_
   have hs := hs.addSubF (C := (CI .u8)) 0 rfl h0 h1 h2 hA hn hc
   refine wpG.takeD 4 false (some 35) (.pointer (some ⟨b1, 1, none⟩)) (by kernel_rfl) (by kernel_rfl) (yld fun _ => by kernel_rfl) ?_
   refine wpG.takeD 5 true (some 36) (.int .i64 a0_1) (by kernel_rfl) (by kernel_rfl) (yld_load1 (e := 3) (o := 1) hs 1 rfl (by kernel_rfl) (by kernel_rfl) (by rfl) .grow) ?_
   refine wpG.takeD 6 false (some 37) (.pointer (some ⟨b1, 4, none⟩)) (by kernel_rfl) (by kernel_rfl) (yld fun _ => by kernel_rfl) ?_
   refine wpG.takeD 7 true (some 38) (.int .i32 a0_4) (by kernel_rfl) (by kernel_rfl) (yld_load1 (e := 21) (o := 4) hs 1 rfl (by kernel_rfl) (by kernel_rfl) (by rfl) .grow) ?_
   refine wpG.takeD 8 false (some 39) (.int .i32 (isub .i32 a0_4 1)) (by kernel_rfl) (by kernel_rfl) (yld fun _ => by kernel_rfl) ?_
   refine wpG.takeD 9 false (some 40) (.pointer (some ⟨b1, 4, none⟩)) (by kernel_rfl) (by kernel_rfl) (yld fun _ => by kernel_rfl) ?_
   refine wpG.takeD 10 true (some 41) (.int .i32 a0_4) (by kernel_rfl) (by kernel_rfl) (yld_load1 (e := 21) (o := 4) hs 1 rfl (by kernel_rfl) (by kernel_rfl) (by rfl) .grow) ?_
   obtain ⟨⟨r8, r9, r10⟩, hg, h⟩ := of_bind h
   refine wpG.only 11 (by kernel_rfl) (op_callHR (d := (some 42)) (by kernel_rfl) hs (fun _ => by kernel_rfl) (ref22_unrow.ok hg _ (hs.rowF 0 rfl)) (fun _ => (far_cons 0 rfl (hs.inF 0 rfl) far_nil)) ?_)
   rintro ⟨⟨r8_A, r8_n, r8_c⟩, ⟨r9_A, r9_n, r9_c⟩⟩ w gw hs
   have hs := (hs.conv (L' := [.ownL (CA .i32 256 (by decide)) r8_A r8_n r8_c r8 40, .blk b2 ([.slice none 0 0, .slice none 0 0, .slice none 0 0]) 31, .blk b1 ([.int .i64 a0_0, .int .i64 a0_1, .int .i32 a0_2, .int .i64 a0_3, .int .i32 a0_4, .int .i32 a0_5, .int .i64 a0_6, .int .i64 a0_7]) 23]) rfl).convR (R' := [.rowF (Ent.rowL (CI .u8) s7_A s7_n s7_c (subL a1 a0_7 (a1.length : Int))).foot (CI .u8) r9_A r9_n r9_c r9, .rowF (Ent.rowL (CI .u8) a1_A a1_n a1_c a1).foot (CI .u8) s7_A s7_n s7_c (subL a1 a0_7 (a1.length : Int)), .rowF (Ent.rowL (CI .u8) a1_A a1_n a1_c a1).foot (CI .u8) a1_A a1_n a1_c a1]) rfl
   have hs := hs.asF (F := (Ent.rowL (CI .u8) a1_A a1_n a1_c a1).foot) 0 1 rfl rfl (hs.inF 1 rfl)
   refine ⟨.of gw, ?_⟩
   refine wpG.p 12 30 (.tuple #[.slice r8_A r8_n r8_c, .slice r9_A r9_n r9_c, .bool r10]) (by kernel_rfl) (by kernel_rfl) ?_
   refine wpG.p 13 43 (.slice r8_A r8_n r8_c) (by kernel_rfl) (by kernel_rfl) ?_
   refine wpG.p 14 44 (.slice r9_A r9_n r9_c) (by kernel_rfl) (by kernel_rfl) ?_
   refine wpG.p 15 45 (.bool r10) (by kernel_rfl) (by kernel_rfl) ?_
   refine wpG.p 16 9 (.slice r8_A r8_n r8_c) (by kernel_rfl) (by kernel_rfl) ?_
   refine wpG.p 17 10 (.slice r9_A r9_n r9_c) (by kernel_rfl) (by kernel_rfl) ?_
   refine wpG.p 18 11 (.bool r10) (by kernel_rfl) (by kernel_rfl) ?_
   refine wpG.fin (by kernel_rfl) rfl (kr9 _ _ ?_)
   refine then_n (ks8 _ _ ?_)
   refine xseq_k fun KS10 ks10 => ?_
   refine wp_regS (l := [0, 1, 2, 3, 4, 5, 6, 7, 8, 9, 10]) (by kernel_rfl) (by kernel_rfl) fun KR11 kr11 => ?_
   refine wpS.ps [(0, 47, .slice r9_A r9_n r9_c), (1, 48, .pointer (some ⟨b1, 0, none⟩))] (by kernel_rfl) ?_
   refine wpS.take 2 true (some 49) (.int .i64 a0_0) (by kernel_rfl) (yld_load1 (e := 3) (o := 0) hs 2 rfl (by kernel_rfl) (by kernel_rfl) (by rfl) .grow) ?_
   refine wpS.p 3 50 (.pointer (some ⟨b1, 6, none⟩)) (by kernel_rfl) ?_
   refine wpS.take 4 true (some 51) (.int .i64 a0_6) (by kernel_rfl) (yld_load1 (e := 3) (o := 6) hs 2 rfl (by kernel_rfl) (by kernel_rfl) (by rfl) .grow) ?_
   obtain ⟨⟨r11, r12⟩, hg, h⟩ := of_bind h
   refine wpS.only 5 (op_callH (d := (some 52)) (by kernel_rfl) hs (fun _ => by kernel_rfl) (ref22_Unhints.ok hg _ (hs.rowF 0 rfl)) ?_)
   rintro ⟨r11_A, r11_n, r11_c⟩ w gw hs
   have hs := hs.conv (L' := [.ownL (CA .i32 256 (by decide)) r11_A r11_n r11_c r11 40, .ownL (CA .i32 256 (by decide)) r8_A r8_n r8_c r8 40, .blk b2 ([.slice none 0 0, .slice none 0 0, .slice none 0 0]) 31, .blk b1 ([.int .i64 a0_0, .int .i64 a0_1, .int .i32 a0_2, .int .i64 a0_3, .int .i32 a0_4, .int .i32 a0_5, .int .i64 a0_6, .int .i64 a0_7]) 23]) rfl
   refine ⟨fun _ => trivial, ?_⟩
   refine wpS.ps [(6, 46, .tuple #[.slice r11_A r11_n r11_c, .bool r12]), (7, 53, .slice r11_A r11_n r11_c)] (by kernel_rfl) ?_
   cases r12 with
   | true =>
    have h := of_if_t h
    refine wpS.ps [(8, 54, .bool true), (9, 12, .slice r11_A r11_n r11_c), (10, 13, .bool true)] (by kernel_rfl) ?_
    refine wpS.fin rfl (kr11 _ _ ?_)
    refine then_n (ks10 _ _ ?_)
    refine xseq_k fun KS12 ks12 => ?_
    refine xseq_k fun KS13 ks13 => ?_
    refine wp_regS (l := [0, 1]) (by kernel_rfl) (by kernel_rfl) fun KR14 kr14 => ?_
    refine wpS.ps [(0, 55, .bool true), (1, 56, .bool false)] (by kernel_rfl) ?_
    refine wpS.fin rfl (kr14 _ _ ?_)
    refine then_n (ks13 _ _ ?_)
    refine wp_cond_f (by kernel_rfl) ?_
    refine xskip ?_
    refine then_n (ks12 _ _ ?_)
    refine xseq_k fun KS15 ks15 => ?_
    refine wp_regS (l := [0, 1, 2, 3, 4, 5, 6, 7, 8]) (by kernel_rfl) (by kernel_rfl) fun KR16 kr16 => ?_
    refine wpS.ps [(0, 58, .slice a1_A a1_n a1_c), (1, 59, .pointer (some ⟨b1, 7, none⟩))] (by kernel_rfl) ?_
    refine wpS.take 2 true (some 60) (.int .i64 a0_7) (by kernel_rfl) (yld_load1 (e := 3) (o := 7) hs 3 rfl (by kernel_rfl) (by kernel_rfl) (by rfl) .grow) ?_
    obtain ⟨h0, h⟩ := of_chk h
    obtain ⟨h1, h⟩ := of_chk h
    obtain ⟨h2, h⟩ := of_chk h
    obtain ⟨s13_A, hA⟩ : ∃ A, A = if a1_c = (0 : Int).toNat then a1_A else adr a1_A ((0 : Int).toNat * Cod.size (CI .u8)) := ⟨_, rfl⟩
    obtain ⟨s13_n, hn⟩ : ∃ n, n = (a0_7 : Int).toNat - (0 : Int).toNat := ⟨_, rfl⟩
    obtain ⟨s13_c, hc⟩ : ∃ c, c = a1_c - (0 : Int).toNat := ⟨_, rfl⟩
    refine wpS.take 3 false (some 61) (.slice s13_A s13_n s13_c) (by kernel_rfl) (yld_sub (C := (CI .u8)) (t := 24) (e := 5) (low := none) (high := some (.int .i64 a0_7)) (lo := 0) (hi := a0_7) (hs.rowF 3 rfl) (by kernel_rfl) (by kernel_rfl) (by kernel_rfl) (.inl ⟨rfl, rfl⟩) (.inr ⟨_, rfl⟩) h0 h1 h2 hA hn hc) ?_
    have hs := hs.addSubF (C := (CI .u8)) 3 rfl h0 h1 h2 hA hn hc
    refine wpS.ps [(4, 62, .slice r8_A r8_n r8_c), (5, 63, .slice r11_A r11_n r11_c), (6, 64, .agg #[.slice s13_A s13_n s13_c, .slice r8_A r8_n r8_c, .slice r11_A r11_n r11_c])] (by kernel_rfl) ?_
    refine wpS.only 7 (op_storeW (t := 31) (v := .agg #[.slice s13_A s13_n s13_c, .slice r8_A r8_n r8_c, .slice r11_A r11_n r11_c]) (d := none) (by kernel_rfl) hs 2 rfl (vs := [.slice s13_A s13_n s13_c, .slice r8_A r8_n r8_c, .slice r11_A r11_n r11_c]) (n := 3) (by kernel_rfl) (by kernel_rfl) (by kernel_rfl) (by simp [enc_len]) (by simp [enc_len]) (by simp [Value.oneCell']) ?_)
    intro w kp hs
    refine ⟨fun _ => trivial, ?_⟩
    refine wpS.p 8 5 (.bool true) (by kernel_rfl) ?_
    refine wpS.fin rfl (kr16 _ _ ?_)
    refine then_n (ks15 _ _ ?_)
    refine xret ?_
    obtain ⟨q0, qr0⟩ := Prod.mk.inj (of_some h)
    obtain ⟨q1, qr1⟩ := Prod.mk.inj (qr0)
    obtain ⟨q2, qr2⟩ := Prod.mk.inj (qr1)
    have q3 := qr2
    subst q0
    subst q1
    subst q2
    subst q3
    have hs := (hs.front 0 rfl).conv (L' := [.ownL (CA .i32 256 (by decide)) r11_A r11_n r11_c r11 40, .ownL (CA .i32 256 (by decide)) r8_A r8_n r8_c r8 40, .blk b2 ([.slice s13_A s13_n s13_c, .slice r8_A r8_n r8_c, .slice r11_A r11_n r11_c]) 31, .blk b1 ([.int .i64 a0_0, .int .i64 a0_1, .int .i32 a0_2, .int .i64 a0_3, .int .i32 a0_4, .int .i32 a0_5, .int .i64 a0_6, .int .i64 a0_7]) 23]) rfl
    have hs := (hs.front 1 rfl).conv (L' := [.ownL (CA .i32 256 (by decide)) r8_A r8_n r8_c r8 40, .ownL (CA .i32 256 (by decide)) r11_A r11_n r11_c r11 40, .blk b2 ([.slice s13_A s13_n s13_c, .slice r8_A r8_n r8_c, .slice r11_A r11_n r11_c]) 31, .blk b1 ([.int .i64 a0_0, .int .i64 a0_1, .int .i32 a0_2, .int .i64 a0_3, .int .i32 a0_4, .int .i32 a0_5, .int .i64 a0_6, .int .i64 a0_7]) 23]) rfl
    exact qq _ _ (post_ret (by kernel_rfl) (run_results [.cell 4 31, .tmp 5] [.agg #[.slice s13_A s13_n s13_c, .slice r8_A r8_n r8_c, .slice r11_A r11_n r11_c], .bool true] (by kernel_rfl) (.cons (res_cellN (n := 3) hs 2 rfl (by kernel_rfl) (by kernel_rfl) (by kernel_rfl) (by simp [enc_len])) (.cons (res_tmp (by kernel_rfl)) .nil))) ⟨⟨⟨s13_A, s13_n, s13_c⟩, ⟨r8_A, r8_n, r8_c⟩, ⟨r11_A, r11_n, r11_c⟩⟩, congrArg Ending.returned (by kernel_rfl), ((hs.drop (.cons_cons _ (.cons_cons _ (.cons _ (.cons _ .slnil))))).pickR (pick_cons 0 rfl pick_nil))⟩)
   | false =>
    have h := of_if_f h
    refine wpS.ps [(8, 54, .bool false), (9, 12, .slice r11_A r11_n r11_c), (10, 13, .bool false)] (by kernel_rfl) ?_
    refine wpS.fin rfl (kr11 _ _ ?_)
    refine then_n (ks10 _ _ ?_)
    refine xseq_k fun KS17 ks17 => ?_
    refine xseq_k fun KS18 ks18 => ?_
    refine wp_regS (l := [0, 1]) (by kernel_rfl) (by kernel_rfl) fun KR19 kr19 => ?_
    refine wpS.ps [(0, 55, .bool false), (1, 56, .bool true)] (by kernel_rfl) ?_
    refine wpS.fin rfl (kr19 _ _ ?_)
    refine then_n (ks18 _ _ ?_)
    refine wp_cond_t (by kernel_rfl) ?_
    refine xseq_k fun KS20 ks20 => ?_
    refine wp_regS (l := [0, 1, 2]) (by kernel_rfl) (by kernel_rfl) fun KR21 kr21 => ?_
    refine wpS.p 0 57 (.agg #[.slice none 0 0, .slice none 0 0, .slice none 0 0]) (by kernel_rfl) ?_
    refine wpS.only 1 (op_storeW (t := 31) (v := .agg #[.slice none 0 0, .slice none 0 0, .slice none 0 0]) (d := none) (by kernel_rfl) hs 2 rfl (vs := [.slice none 0 0, .slice none 0 0, .slice none 0 0]) (n := 3) (by kernel_rfl) (by kernel_rfl) (by kernel_rfl) (by simp [enc_len]) (by simp [enc_len]) (by simp [Value.oneCell']) ?_)
    intro w kp hs
    refine ⟨fun _ => trivial, ?_⟩
    refine wpS.p 2 5 (.bool false) (by kernel_rfl) ?_
    refine wpS.fin rfl (kr21 _ _ ?_)
    refine then_n (ks20 _ _ ?_)
    refine xret ?_
    refine then_r ?_
    obtain ⟨q0, qr0⟩ := Prod.mk.inj (of_some h)
    obtain ⟨q1, qr1⟩ := Prod.mk.inj (qr0)
    obtain ⟨q2, qr2⟩ := Prod.mk.inj (qr1)
    have q3 := qr2
    subst q0
    subst q1
    subst q2
    subst q3
    have hs := hs.addNilL (CA .i32 256 (by decide)) 40
    have hs := hs.addNilL (CA .i32 256 (by decide)) 40
    have hs := hs.addNilF 0 (CI .u8) rfl
    exact qq _ _ (post_ret (by kernel_rfl) (run_results [.cell 4 31, .tmp 5] [.agg #[.slice none 0 0, .slice none 0 0, .slice none 0 0], .bool false] (by kernel_rfl) (.cons (res_cellN (n := 3) hs 4 rfl (by kernel_rfl) (by kernel_rfl) (by kernel_rfl) (by simp [enc_len])) (.cons (res_tmp (by kernel_rfl)) .nil))) ⟨⟨⟨none, 0, 0⟩, ⟨none, 0, 0⟩, ⟨none, 0, 0⟩⟩, congrArg Ending.returned (by kernel_rfl), ((hs.drop (.cons_cons _ (.cons_cons _ (.cons _ (.cons _ (.cons _ (.cons _ .slnil))))))).pickR (pick_cons 0 rfl pick_nil))⟩)
  ·refine wpS.take 7 false (some 27) (.bool true) (by kernel_rfl) (yld_b (nt hc) (fun _ => by kernel_rfl)) ?_
   refine wpS.p 8 28 (.bool true) (by kernel_rfl) ?_
   refine wpS.fin rfl (kr7 _ _ ?_)
   refine then_n (ks6 _ _ ?_)
   refine wp_cond_t (by kernel_rfl) ?_
   refine xseq_k fun KS22 ks22 => ?_
   refine wp_regS (l := [0, 1, 2]) (by kernel_rfl) (by kernel_rfl) fun KR23 kr23 => ?_
   refine wpS.p 0 29 (.agg #[.slice none 0 0, .slice none 0 0, .slice none 0 0]) (by kernel_rfl) ?_
   refine wpS.only 1 (op_storeW (t := 31) (v := .agg #[.slice none 0 0, .slice none 0 0, .slice none 0 0]) (d := none) (by kernel_rfl) hs 0 rfl (vs := [.slice none 0 0, .slice none 0 0, .slice none 0 0]) (n := 3) (by kernel_rfl) (by kernel_rfl) (by kernel_rfl) (by simp [enc_len]) (by simp [enc_len]) (by simp [Value.oneCell']) ?_)
   intro w kp hs
   refine ⟨fun _ => trivial, ?_⟩
   refine wpS.p 2 5 (.bool false) (by kernel_rfl) ?_
   refine wpS.fin rfl (kr23 _ _ ?_)
   refine then_n (ks22 _ _ ?_)
   refine xret ?_
   refine then_r ?_
   obtain ⟨q0, qr0⟩ := Prod.mk.inj (of_some h)
   obtain ⟨q1, qr1⟩ := Prod.mk.inj (qr0)
   obtain ⟨q2, qr2⟩ := Prod.mk.inj (qr1)
   have q3 := qr2
   subst q0
   subst q1
   subst q2
   subst q3
   have hs := hs.addNilL (CA .i32 256 (by decide)) 40
   have hs := hs.addNilL (CA .i32 256 (by decide)) 40
   have hs := hs.addNilF 0 (CI .u8) rfl
   exact qq _ _ (post_ret (by kernel_rfl) (run_results [.cell 4 31, .tmp 5] [.agg #[.slice none 0 0, .slice none 0 0, .slice none 0 0], .bool false] (by kernel_rfl) (.cons (res_cellN (n := 3) hs 2 rfl (by kernel_rfl) (by kernel_rfl) (by kernel_rfl) (by simp [enc_len])) (.cons (res_tmp (by kernel_rfl)) .nil))) ⟨⟨⟨none, 0, 0⟩, ⟨none, 0, 0⟩, ⟨none, 0, 0⟩⟩, congrArg Ending.returned (by kernel_rfl), ((hs.drop (.cons_cons _ (.cons_cons _ (.cons _ (.cons _ .slnil))))).pickR (pick_cons 0 rfl pick_nil))⟩)
 | false =>
  have h := of_if_f h
  refine wpS.only 1 (op_call (d := (some 21)) (by kernel_rfl) hs (fun _ => by kernel_rfl) (ref22_Known.ok hg _) ?_)
  intro w gw hs
  refine ⟨fun _ => trivial, ?_⟩
  refine wpS.ps [(2, 22, .bool true), (3, 23, .bool true), (4, 24, undef), (5, 25, undef), (6, 26, undef), (7, 27, undef), (8, 28, .bool true)] (by kernel_rfl) ?_
  refine wpS.fin rfl (kr7 _ _ ?_)
  refine then_n (ks6 _ _ ?_)
  refine wp_cond_t (by kernel_rfl) ?_
  refine xseq_k fun KS24 ks24 => ?_
  refine wp_regS (l := [0, 1, 2]) (by kernel_rfl) (by kernel_rfl) fun KR25 kr25 => ?_
  refine wpS.p 0 29 (.agg #[.slice none 0 0, .slice none 0 0, .slice none 0 0]) (by kernel_rfl) ?_
  refine wpS.only 1 (op_storeW (t := 31) (v := .agg #[.slice none 0 0, .slice none 0 0, .slice none 0 0]) (d := none) (by kernel_rfl) hs 0 rfl (vs := [.slice none 0 0, .slice none 0 0, .slice none 0 0]) (n := 3) (by kernel_rfl) (by kernel_rfl) (by kernel_rfl) (by simp [enc_len]) (by simp [enc_len]) (by simp [Value.oneCell']) ?_)
  intro w kp hs
  refine ⟨fun _ => trivial, ?_⟩
  refine wpS.p 2 5 (.bool false) (by kernel_rfl) ?_
  refine wpS.fin rfl (kr25 _ _ ?_)
  refine then_n (ks24 _ _ ?_)
  refine xret ?_
  refine then_r ?_
  obtain ⟨q0, qr0⟩ := Prod.mk.inj (of_some h)
  obtain ⟨q1, qr1⟩ := Prod.mk.inj (qr0)
  obtain ⟨q2, qr2⟩ := Prod.mk.inj (qr1)
  have q3 := qr2
  subst q0
  subst q1
  subst q2
  subst q3
  have hs := hs.addNilL (CA .i32 256 (by decide)) 40
  have hs := hs.addNilL (CA .i32 256 (by decide)) 40
  have hs := hs.addNilF 0 (CI .u8) rfl
  exact qq _ _ (post_ret (by kernel_rfl) (run_results [.cell 4 31, .tmp 5] [.agg #[.slice none 0 0, .slice none 0 0, .slice none 0 0], .bool false] (by kernel_rfl) (.cons (res_cellN (n := 3) hs 2 rfl (by kernel_rfl) (by kernel_rfl) (by kernel_rfl) (by simp [enc_len])) (.cons (res_tmp (by kernel_rfl)) .nil))) ⟨⟨⟨none, 0, 0⟩, ⟨none, 0, 0⟩, ⟨none, 0, 0⟩⟩, congrArg Ending.returned (by kernel_rfl), ((hs.drop (.cons_cons _ (.cons_cons _ (.cons _ (.cons _ .slnil))))).pickR (pick_cons 0 rfl pick_nil))⟩)

theorem ref22_SamePublic.ok {K : Nat} {a0_0 : List Int} {a0_1 : List (Arr 256)} {a1_0 : List Int} {a1_1 : List (Arr 256)} {r0 : Bool} {a0_0_A : Option Addr} {a0_0_n : Nat} {a0_0_c : Nat} {a0_1_A : Option Addr} {a0_1_n : Nat} {a0_1_c : Nat} {a1_0_A : Option Addr} {a1_0_n : Nat} {a1_0_c : Nat} {a1_1_A : Option Addr} {a1_1_n : Nat} {a1_1_c : Nat} (h : ref22_SamePublic.f K a0_0 a0_1 a1_0 a1_1 = some r0) (w0 : World) (hp0_0 : RowL (CI .u8) w0 a0_0_A a0_0_n a0_0_c a0_0) (hp0_1 : RowL (CA .i32 256 (by decide)) w0 a0_1_A a0_1_n a0_1_c a0_1) (hp1_0 : RowL (CI .u8) w0 a1_0_A a1_0_n a1_0_c a1_0) (hp1_1 : RowL (CA .i32 256 (by decide)) w0 a1_1_A a1_1_n a1_1_c a1_1) : Ret Try.prog 35 #[.agg #[.slice a0_0_A a0_0_n a0_0_c, .slice a0_1_A a0_1_n a0_1_c], .agg #[.slice a1_0_A a1_0_n a1_0_c, .slice a1_1_A a1_1_n a1_1_c]] w0 (.bool r0) := by
 refine calls_k Try.func35 rfl fun Q qq => ?_
 have hs := St.startR (all_cons (RowP.ent hp0_0) (all_cons (RowP.ent hp0_1) (all_cons (RowP.ent hp1_0) (all_cons (RowP.ent hp1_1) all_nil))))
 refine wp_conv (a' := ⟨#[.agg #[.slice a0_0_A a0_0_n a0_0_c, .slice a0_1_A a0_1_n a0_1_c], .agg #[.slice a1_0_A a1_0_n a1_0_c, .slice a1_1_A a1_1_n a1_1_c], undef, undef, undef, undef, undef, undef, undef, undef, undef, undef, undef, undef, undef, undef, undef], []⟩) (by kernel_rfl) ?_
 refine xseq_k fun KS1 ks1 => ?_
 refine wp_regS (l := [0, 1, 2]) (by kernel_rfl) (by kernel_rfl) fun KR2 kr2 => ?_
 refine wpS.only 0 (op_box (t := 27) (v := .agg #[.slice a0_0_A a0_0_n a0_0_c, .slice a0_1_A a0_1_n a0_1_c]) (d := (some 2)) (by kernel_rfl) hs ([.slice a0_0_A a0_0_n a0_0_c, .slice a0_1_A a0_1_n a0_1_c]) (by kernel_rfl) (by kernel_rfl) ?_)
 intro b1 w gw hs
 refine ⟨fun _ => trivial, ?_⟩
 refine wpS.only 1 (op_box (t := 27) (v := .agg #[.slice a1_0_A a1_0_n a1_0_c, .slice a1_1_A a1_1_n a1_1_c]) (d := (some 3)) (by kernel_rfl) hs ([.slice a1_0_A a1_0_n a1_0_c, .slice a1_1_A a1_1_n a1_1_c]) (by kernel_rfl) (by kernel_rfl) ?_)
 intro b2 w gw hs
 refine ⟨fun _ => trivial, ?_⟩
 refine wpS.p 2 4 (.bool false) (by kernel_rfl) ?_
 refine wpS.fin rfl (kr2 _ _ ?_)
 refine then_n (ks1 _ _ ?_)
 refine xseq_k fun KS3 ks3 => ?_
 refine wp_regS (l := [0, 1, 2, 3, 4, 5, 6, 7, 8, 9, 10, 11, 12]) (by kernel_rfl) (by kernel_rfl) fun KR4 kr4 => ?_
 refine wpS.p 0 5 (.pointer (some ⟨b1, 0, none⟩)) (by kernel_rfl) ?_
 refine wpS.take 1 true (some 6) (.slice a0_0_A a0_0_n a0_0_c) (by kernel_rfl) (yld_load1 (e := 24) (o := 0) hs 1 rfl (by kernel_rfl) (by kernel_rfl) (by rfl) .grow) ?_
 refine wpS.p 2 7 (.pointer (some ⟨b2, 0, none⟩)) (by kernel_rfl) ?_
 refine wpS.take 3 true (some 8) (.slice a1_0_A a1_0_n a1_0_c) (by kernel_rfl) (yld_load1 (e := 24) (o := 0) hs 0 rfl (by kernel_rfl) (by kernel_rfl) (by rfl) .grow) ?_
 obtain ⟨r3, hg, h⟩ := of_bind h
 cases r3 with
 | true =>
  have h := of_if_t h
  refine wpS.only 4 (op_call (d := (some 9)) (by kernel_rfl) hs (fun _ => by kernel_rfl) (ref01_Same.ok hg _ (hs.rowR 0 rfl) (hs.rowR 2 rfl)) ?_)
  intro w gw hs
  refine ⟨fun _ => trivial, ?_⟩
  refine wpS.ps [(5, 10, .bool true), (6, 11, .pointer (some ⟨b1, 1, none⟩))] (by kernel_rfl) ?_
  refine wpS.take 7 true (some 12) (.slice a0_1_A a0_1_n a0_1_c) (by kernel_rfl) (yld_load1 (e := 25) (o := 1) hs 1 rfl (by kernel_rfl) (by kernel_rfl) (by rfl) .grow) ?_
  refine wpS.p 8 13 (.pointer (some ⟨b2, 1, none⟩)) (by kernel_rfl) ?_
  refine wpS.take 9 true (some 14) (.slice a1_1_A a1_1_n a1_1_c) (by kernel_rfl) (yld_load1 (e := 25) (o := 1) hs 0 rfl (by kernel_rfl) (by kernel_rfl) (by rfl) .grow) ?_
  obtain ⟨r4, hg, h⟩ := of_bind h
  refine wpS.only 10 (op_call (d := (some 15)) (by kernel_rfl) hs (fun _ => by kernel_rfl) (ref22_Same.ok hg _ (hs.rowR 1 rfl) (hs.rowR 3 rfl)) ?_)
  intro w gw hs
  refine ⟨fun _ => trivial, ?_⟩
  refine wpS.ps [(11, 16, .bool r4), (12, 4, .bool r4)] (by kernel_rfl) ?_
  refine wpS.fin rfl (kr4 _ _ ?_)
  refine then_n (ks3 _ _ ?_)
  refine xret ?_
  have q0 := of_some h
  subst q0
  exact qq _ _ (post_ret (by kernel_rfl) (run_results [.tmp 4] [.bool r4] (by kernel_rfl) (.cons (res_tmp (by kernel_rfl)) .nil)) ⟨congrArg Ending.returned (by kernel_rfl), hs.none⟩)
 | false =>
  have h := of_if_f h
  refine wpS.only 4 (op_call (d := (some 9)) (by kernel_rfl) hs (fun _ => by kernel_rfl) (ref01_Same.ok hg _ (hs.rowR 0 rfl) (hs.rowR 2 rfl)) ?_)
  intro w gw hs
  refine ⟨fun _ => trivial, ?_⟩
  refine wpS.ps [(5, 10, .bool false), (6, 11, undef), (7, 12, undef), (8, 13, undef), (9, 14, undef), (10, 15, undef), (11, 16, .bool false), (12, 4, .bool false)] (by kernel_rfl) ?_
  refine wpS.fin rfl (kr4 _ _ ?_)
  refine then_n (ks3 _ _ ?_)
  refine xret ?_
  have q0 := of_some h
  subst q0
  exact qq _ _ (post_ret (by kernel_rfl) (run_results [.tmp 4] [.bool false] (by kernel_rfl) (.cons (res_tmp (by kernel_rfl)) .nil)) ⟨congrArg Ending.returned (by kernel_rfl), hs.none⟩)

theorem ref22_SamePrivate.ok {K : Nat} {a0_0 : List Int} {a0_1 : List Int} {a0_2 : List Int} {a0_3 : List (Arr 256)} {a0_4 : List (Arr 256)} {a0_5 : List (Arr 256)} {a1_0 : List Int} {a1_1 : List Int} {a1_2 : List Int} {a1_3 : List (Arr 256)} {a1_4 : List (Arr 256)} {a1_5 : List (Arr 256)} {r0 : Bool} {a0_0_A : Option Addr} {a0_0_n : Nat} {a0_0_c : Nat} {a0_1_A : Option Addr} {a0_1_n : Nat} {a0_1_c : Nat} {a0_2_A : Option Addr} {a0_2_n : Nat} {a0_2_c : Nat} {a0_3_A : Option Addr} {a0_3_n : Nat} {a0_3_c : Nat} {a0_4_A : Option Addr} {a0_4_n : Nat} {a0_4_c : Nat} {a0_5_A : Option Addr} {a0_5_n : Nat} {a0_5_c : Nat} {a1_0_A : Option Addr} {a1_0_n : Nat} {a1_0_c : Nat} {a1_1_A : Option Addr} {a1_1_n : Nat} {a1_1_c : Nat} {a1_2_A : Option Addr} {a1_2_n : Nat} {a1_2_c : Nat} {a1_3_A : Option Addr} {a1_3_n : Nat} {a1_3_c : Nat} {a1_4_A : Option Addr} {a1_4_n : Nat} {a1_4_c : Nat} {a1_5_A : Option Addr} {a1_5_n : Nat} {a1_5_c : Nat} (h : ref22_SamePrivate.f K a0_0 a0_1 a0_2 a0_3 a0_4 a0_5 a1_0 a1_1 a1_2 a1_3 a1_4 a1_5 = some r0) (w0 : World) (hp0_0 : RowL (CI .u8) w0 a0_0_A a0_0_n a0_0_c a0_0) (hp0_1 : RowL (CI .u8) w0 a0_1_A a0_1_n a0_1_c a0_1) (hp0_2 : RowL (CI .u8) w0 a0_2_A a0_2_n a0_2_c a0_2) (hp0_3 : RowL (CA .i32 256 (by decide)) w0 a0_3_A a0_3_n a0_3_c a0_3) (hp0_4 : RowL (CA .i32 256 (by decide)) w0 a0_4_A a0_4_n a0_4_c a0_4) (hp0_5 : RowL (CA .i32 256 (by decide)) w0 a0_5_A a0_5_n a0_5_c a0_5) (hp1_0 : RowL (CI .u8) w0 a1_0_A a1_0_n a1_0_c a1_0) (hp1_1 : RowL (CI .u8) w0 a1_1_A a1_1_n a1_1_c a1_1) (hp1_2 : RowL (CI .u8) w0 a1_2_A a1_2_n a1_2_c a1_2) (hp1_3 : RowL (CA .i32 256 (by decide)) w0 a1_3_A a1_3_n a1_3_c a1_3) (hp1_4 : RowL (CA .i32 256 (by decide)) w0 a1_4_A a1_4_n a1_4_c a1_4) (hp1_5 : RowL (CA .i32 256 (by decide)) w0 a1_5_A a1_5_n a1_5_c a1_5) : Ret Try.prog 36 #[.agg #[.slice a0_0_A a0_0_n a0_0_c, .slice a0_1_A a0_1_n a0_1_c, .slice a0_2_A a0_2_n a0_2_c, .slice a0_3_A a0_3_n a0_3_c, .slice a0_4_A a0_4_n a0_4_c, .slice a0_5_A a0_5_n a0_5_c], .agg #[.slice a1_0_A a1_0_n a1_0_c, .slice a1_1_A a1_1_n a1_1_c, .slice a1_2_A a1_2_n a1_2_c, .slice a1_3_A a1_3_n a1_3_c, .slice a1_4_A a1_4_n a1_4_c, .slice a1_5_A a1_5_n a1_5_c]] w0 (.bool r0) := by
 refine calls_k Try.func36 rfl fun Q qq => ?_
 have hs := St.startR (all_cons (RowP.ent hp0_0) (all_cons (RowP.ent hp0_1) (all_cons (RowP.ent hp0_2) (all_cons (RowP.ent hp0_3) (all_cons (RowP.ent hp0_4) (all_cons (RowP.ent hp0_5) (all_cons (RowP.ent hp1_0) (all_cons (RowP.ent hp1_1) (all_cons (RowP.ent hp1_2) (all_cons (RowP.ent hp1_3) (all_cons (RowP.ent hp1_4) (all_cons (RowP.ent hp1_5) all_nil))))))))))))
 refine wp_conv (a' := ⟨#[.agg #[.slice a0_0_A a0_0_n a0_0_c, .slice a0_1_A a0_1_n a0_1_c, .slice a0_2_A a0_2_n a0_2_c, .slice a0_3_A a0_3_n a0_3_c, .slice a0_4_A a0_4_n a0_4_c, .slice a0_5_A a0_5_n a0_5_c], .agg #[.slice a1_0_A a1_0_n a1_0_c, .slice a1_1_A a1_1_n a1_1_c, .slice a1_2_A a1_2_n a1_2_c, .slice a1_3_A a1_3_n a1_3_c, .slice a1_4_A a1_4_n a1_4_c, .slice a1_5_A a1_5_n a1_5_c], undef, undef, undef, undef, undef, undef, undef, undef, undef, undef, undef, undef, undef, undef, undef, undef, undef, undef, undef, undef, undef, undef, undef, undef, undef, undef, undef, undef, undef, undef, undef, undef, undef, undef, undef, undef, undef, undef, undef, undef, undef, undef, undef], []⟩) (by kernel_rfl) ?_
 refine xseq_k fun KS1 ks1 => ?_
 refine wp_regS (l := [0, 1, 2]) (by kernel_rfl) (by kernel_rfl) fun KR2 kr2 => ?_
 refine wpS.only 0 (op_box (t := 29) (v := .agg #[.slice a0_0_A a0_0_n a0_0_c, .slice a0_1_A a0_1_n a0_1_c, .slice a0_2_A a0_2_n a0_2_c, .slice a0_3_A a0_3_n a0_3_c, .slice a0_4_A a0_4_n a0_4_c, .slice a0_5_A a0_5_n a0_5_c]) (d := (some 2)) (by kernel_rfl) hs ([.slice a0_0_A a0_0_n a0_0_c, .slice a0_1_A a0_1_n a0_1_c, .slice a0_2_A a0_2_n a0_2_c, .slice a0_3_A a0_3_n a0_3_c, .slice a0_4_A a0_4_n a0_4_c, .slice a0_5_A a0_5_n a0_5_c]) (by kernel_rfl) (by kernel_rfl) ?_)
 intro b1 w gw hs
 refine ⟨fun _ => trivial, ?_⟩
 refine wpS.only 1 (op_box (t := 29) (v := .agg #[.slice a1_0_A a1_0_n a1_0_c, .slice a1_1_A a1_1_n a1_1_c, .slice a1_2_A a1_2_n a1_2_c, .slice a1_3_A a1_3_n a1_3_c, .slice a1_4_A a1_4_n a1_4_c, .slice a1_5_A a1_5_n a1_5_c]) (d := (some 3)) (by kernel_rfl) hs ([.slice a1_0_A a1_0_n a1_0_c, .slice a1_1_A a1_1_n a1_1_c, .slice a1_2_A a1_2_n a1_2_c, .slice a1_3_A a1_3_n a1_3_c, .slice a1_4_A a1_4_n a1_4_c, .slice a1_5_A a1_5_n a1_5_c]) (by kernel_rfl) (by kernel_rfl) ?_)
 intro b2 w gw hs
 refine ⟨fun _ => trivial, ?_⟩
 refine wpS.p 2 4 (.bool false) (by kernel_rfl) ?_
 refine wpS.fin rfl (kr2 _ _ ?_)
 refine then_n (ks1 _ _ ?_)
 refine xseq_k fun KS3 ks3 => ?_
 refine wp_regS (l := [0, 1, 2, 3, 4, 5, 6, 7, 8, 9, 10, 11, 12, 13, 14, 15, 16, 17, 18, 19, 20, 21, 22, 23, 24, 25, 26, 27, 28, 29, 30, 31, 32, 33, 34, 35, 36, 37, 38, 39, 40]) (by kernel_rfl) (by kernel_rfl) fun KR4 kr4 => ?_
 refine wpS.p 0 5 (.pointer (some ⟨b1, 0, none⟩)) (by kernel_rfl) ?_
 refine wpS.take 1 true (some 6) (.slice a0_0_A a0_0_n a0_0_c) (by kernel_rfl) (yld_load1 (e := 24) (o := 0) hs 1 rfl (by kernel_rfl) (by kernel_rfl) (by rfl) .grow) ?_
 refine wpS.p 2 7 (.pointer (some ⟨b2, 0, none⟩)) (by kernel_rfl) ?_
 refine wpS.take 3 true (some 8) (.slice a1_0_A a1_0_n a1_0_c) (by kernel_rfl) (yld_load1 (e := 24) (o := 0) hs 0 rfl (by kernel_rfl) (by kernel_rfl) (by rfl) .grow) ?_
 obtain ⟨r3, hg, h⟩ := of_bind h
 cases r3 with
 | true =>
  have h := of_if_t h
  refine wpS.only 4 (op_call (d := (some 9)) (by kernel_rfl) hs (fun _ => by kernel_rfl) (ref01_Same.ok hg _ (hs.rowR 0 rfl) (hs.rowR 6 rfl)) ?_)
  intro w gw hs
  refine ⟨fun _ => trivial, ?_⟩
  refine wpS.ps [(5, 10, .bool true), (6, 11, .pointer (some ⟨b1, 1, none⟩))] (by kernel_rfl) ?_
  refine wpS.take 7 true (some 12) (.slice a0_1_A a0_1_n a0_1_c) (by kernel_rfl) (yld_load1 (e := 24) (o := 1) hs 1 rfl (by kernel_rfl) (by kernel_rfl) (by rfl) .grow) ?_
  refine wpS.p 8 13 (.pointer (some ⟨b2, 1, none⟩)) (by kernel_rfl) ?_
  refine wpS.take 9 true (some 14) (.slice a1_1_A a1_1_n a1_1_c) (by kernel_rfl) (yld_load1 (e := 24) (o := 1) hs 0 rfl (by kernel_rfl) (by kernel_rfl) (by rfl) .grow) ?_
  obtain ⟨r4, hg, h⟩ := of_bind h
  cases r4 with
  | true =>
   have h := of_if_t h
   refine wpS.only 10 (op_call (d := (some 15)) (by kernel_rfl) hs (fun _ => by kernel_rfl) (ref01_Same.ok hg _ (hs.rowR 1 rfl) (hs.rowR 7 rfl)) ?_)
   intro w gw hs
   refine ⟨fun _ => trivial, ?_⟩
   refine wpS.ps [(11, 16, .bool true), (12, 17, .bool true), (13, 18, .pointer (some ⟨b1, 2, none⟩))] (by kernel_rfl) ?_
   refine wpS.take 14 true (some 19) (.slice a0_2_A a0_2_n a0_2_c) (by kernel_rfl) (yld_load1 (e := 24) (o := 2) hs 1 rfl (by kernel_rfl) (by kernel_rfl) (by rfl) .grow) ?_
   refine wpS.p 15 20 (.pointer (some ⟨b2, 2, none⟩)) (by kernel_rfl) ?_
   refine wpS.take 16 true (some 21) (.slice a1_2_A a1_2_n a1_2_c) (by kernel_rfl) (yld_load1 (e := 24) (o := 2) hs 0 rfl (by kernel_rfl) (by kernel_rfl) (by rfl) .grow) ?_
   obtain ⟨r5, hg, h⟩ := of_bind h
   cases r5 with
   | true =>
    have h := of_if_t h
    refine wpS.only 17 (op_call (d := (some 22)) (by kernel_rfl) hs (fun _ => by kernel_rfl) (ref01_Same.ok hg _ (hs.rowR 2 rfl) (hs.rowR 8 rfl)) ?_)
    intro w gw hs
    refine ⟨fun _ => trivial, ?_⟩
    refine wpS.ps [(18, 23, .bool true), (19, 24, .bool true), (20, 25, .pointer (some ⟨b1, 3, none⟩))] (by kernel_rfl) ?_
    refine wpS.take 21 true (some 26) (.slice a0_3_A a0_3_n a0_3_c) (by kernel_rfl) (yld_load1 (e := 25) (o := 3) hs 1 rfl (by kernel_rfl) (by kernel_rfl) (by rfl) .grow) ?_
    refine wpS.p 22 27 (.pointer (some ⟨b2, 3, none⟩)) (by kernel_rfl) ?_
    refine wpS.take 23 true (some 28) (.slice a1_3_A a1_3_n a1_3_c) (by kernel_rfl) (yld_load1 (e := 25) (o := 3) hs 0 rfl (by kernel_rfl) (by kernel_rfl) (by rfl) .grow) ?_
    obtain ⟨r6, hg, h⟩ := of_bind h
    cases r6 with
    | true =>
     have h := of_if_t h
     refine wpS.only 24 (op_call (d := (some 29)) (by kernel_rfl) hs (fun _ => by kernel_rfl) (ref22_Same.ok hg _ (hs.rowR 3 rfl) (hs.rowR 9 rfl)) ?_)
     intro w gw hs
     refine ⟨fun _ => trivial, ?_⟩
     refine wpS.ps [(25, 30, .bool true), (26, 31, .bool true), (27, 32, .pointer (some ⟨b1, 4, none⟩))] (by kernel_rfl) ?_
     refine wpS.take 28 true (some 33) (.slice a0_4_A a0_4_n a0_4_c) (by kernel_rfl) (yld_load1 (e := 25) (o := 4) hs 1 rfl (by kernel_rfl) (by kernel_rfl) (by rfl) .grow) ?_
     refine wpS.p 29 34 (.pointer (some ⟨b2, 4, none⟩)) (by kernel_rfl) ?_
     refine wpS.take 30 true (some 35) (.slice a1_4_A a1_4_n a1_4_c) (by kernel_rfl) (yld_load1 (e := 25) (o := 4) hs 0 rfl (by kernel_rfl) (by kernel_rfl) (by rfl) .grow) ?_
     obtain ⟨r7, hg, h⟩ := of_bind h
     cases r7 with
     | true =>
      have h := of_if_t h
      refine wpS.only 31 (op_call (d := (some 36)) (by kernel_rfl) hs (fun _ => by kernel_rfl) (ref22_Same.ok hg _ (hs.rowR 4 rfl) (hs.rowR 10 rfl)) ?_)
      intro w gw hs
      refine ⟨fun _ => trivial, ?_⟩
      refine wpS.ps [(32, 37, .bool true), (33, 38, .bool true), (34, 39, .pointer (some ⟨b1, 5, none⟩))] (by kernel_rfl) ?_
      refine wpS.take 35 true (some 40) (.slice a0_5_A a0_5_n a0_5_c) (by kernel_rfl) (yld_load1 (e := 25) (o := 5) hs 1 rfl (by kernel_rfl) (by kernel_rfl) (by rfl) .grow) ?_
      refine wpS.p 36 41 (.pointer (some ⟨b2, 5, none⟩)) (by kernel_rfl) ?_
      refine wpS.take 37 true (some 42) (.slice a1_5_A a1_5_n a1_5_c) (by kernel_rfl) (yld_load1 (e := 25) (o := 5) hs 0 rfl (by kernel_rfl) (by kernel_rfl) (by rfl) .grow) ?_
      obtain ⟨r8, hg, h⟩ := of_bind h
      refine wpS.only 38 (op_call (d := (some 43)) (by kernel_rfl) hs (fun _ => by kernel_rfl) (ref22_Same.ok hg _ (hs.rowR 5 rfl) (hs.rowR 11 rfl)) ?_)
      intro w gw hs
      refine ⟨fun _ => trivial, ?_⟩
      refine wpS.ps [(39, 44, .bool r8), (40, 4, .bool r8)] (by kernel_rfl) ?_
      refine wpS.fin rfl (kr4 _ _ ?_)
      refine then_n (ks3 _ _ ?_)
      refine xret ?_
      have q0 := of_some h
      subst q0
      exact qq _ _ (post_ret (by kernel_rfl) (run_results [.tmp 4] [.bool r8] (by kernel_rfl) (.cons (res_tmp (by kernel_rfl)) .nil)) ⟨congrArg Ending.returned (by kernel_rfl), hs.none⟩)
     | false =>
      have h := of_if_f h
      refine wpS.only 31 (op_call (d := (some 36)) (by kernel_rfl) hs (fun _ => by kernel_rfl) (ref22_Same.ok hg _ (hs.rowR 4 rfl) (hs.rowR 10 rfl)) ?_)
      intro w gw hs
      refine ⟨fun _ => trivial, ?_⟩
      refine wpS.ps [(32, 37, .bool false), (33, 38, .bool false), (34, 39, undef), (35, 40, undef), (36, 41, undef), (37, 42, undef), (38, 43, undef), (39, 44, .bool false), (40, 4, .bool false)] (by kernel_rfl) ?_
      refine wpS.fin rfl (kr4 _ _ ?_)
      refine then_n (ks3 _ _ ?_)
      refine xret ?_
      have q0 := of_some h
      subst q0
      exact qq _ _ (post_ret (by kernel_rfl) (run_results [.tmp 4] [.bool false] (by kernel_rfl) (.cons (res_tmp (by kernel_rfl)) .nil)) ⟨congrArg Ending.returned (by kernel_rfl), hs.none⟩)
    | false =>
     have h := of_if_f h
     refine wpS.only 24 (op_call (d := (some 29)) (by kernel_rfl) hs (fun _ => by kernel_rfl) (ref22_Same.ok hg _ (hs.rowR 3 rfl) (hs.rowR 9 rfl)) ?_)
     intro w gw hs
     refine ⟨fun _ => trivial, ?_⟩
     refine wpS.ps [(25, 30, .bool false), (26, 31, .bool false), (27, 32, undef), (28, 33, undef), (29, 34, undef), (30, 35, undef), (31, 36, undef), (32, 37, .bool false), (33, 38, .bool false), (34, 39, undef), (35, 40, undef), (36, 41, undef), (37, 42, undef), (38, 43, undef), (39, 44, .bool false), (40, 4, .bool false)] (by kernel_rfl) ?_
     refine wpS.fin rfl (kr4 _ _ ?_)
     refine then_n (ks3 _ _ ?_)
     refine xret ?_
     have q0 := of_some h
     subst q0
     exact qq _ _ (post_ret (by kernel_rfl) (run_results [.tmp 4] [.bool false] (by kernel_rfl) (.cons (res_tmp (by kernel_rfl)) .nil)) ⟨congrArg Ending.returned (by kernel_rfl), hs.none⟩)
   | false =>
    have h := of_if_f h
    refine wpS.only 17 (op_call (d := (some 22)) (by kernel_rfl) hs (fun _ => by kernel_rfl) (ref01_Same.ok hg _ (hs.rowR 2 rfl) (hs.rowR 8 rfl)) ?_)
    intro w gw hs
    refine ⟨fun _ => trivial, ?_⟩
    refine wpS.ps [(18, 23, .bool false), (19, 24, .bool false), (20, 25, undef), (21, 26, undef), (22, 27, undef), (23, 28, undef), (24, 29, undef), (25, 30, .bool false), (26, 31, .bool false), (27, 32, undef), (28, 33, undef), (29, 34, undef), (30, 35, undef), (31, 36, undef), (32, 37, .bool false), (33, 38, .bool false), (34, 39, undef), (35, 40, undef), (36, 41, undef), (37, 42, undef), (38, 43, undef), (39, 44, .bool false), (40, 4, .bool false)] (by kernel_rfl) ?_
    refine wpS.fin rfl (kr4 _ _ ?_)
    refine then_n (ks3 _ _ ?_)
    refine xret ?_
    have q0 := of_some h
    subst q0
    exact qq _ _ (post_ret (by kernel_rfl) (run_results [.tmp 4] [.bool false] (by kernel_rfl) (.cons (res_tmp (by kernel_rfl)) .nil)) ⟨congrArg Ending.returned (by kernel_rfl), hs.none⟩)
  | false =>
   have h := of_if_f h
   refine wpS.only 10 (op_call (d := (some 15)) (by kernel_rfl) hs (fun _ => by kernel_rfl) (ref01_Same.ok hg _ (hs.rowR 1 rfl) (hs.rowR 7 rfl)) ?_)
   intro w gw hs
   refine ⟨fun _ => trivial, ?_⟩
   refine wpS.ps [(11, 16, .bool false), (12, 17, .bool false), (13, 18, undef), (14, 19, undef), (15, 20, undef), (16, 21, undef), (17, 22, undef), (18, 23, .bool false), (19, 24, .bool false), (20, 25, undef), (21, 26, undef), (22, 27, undef), (23, 28, undef), (24, 29, undef), (25, 30, .bool false), (26, 31, .bool false), (27, 32, undef), (28, 33, undef), (29, 34, undef), (30, 35, undef), (31, 36, undef), (32, 37, .bool false), (33, 38, .bool false), (34, 39, undef), (35, 40, undef), (36, 41, undef), (37, 42, undef), (38, 43, undef), (39, 44, .bool false), (40, 4, .bool false)] (by kernel_rfl) ?_
   refine wpS.fin rfl (kr4 _ _ ?_)
   refine then_n (ks3 _ _ ?_)
   refine xret ?_
   have q0 := of_some h
   subst q0
   exact qq _ _ (post_ret (by kernel_rfl) (run_results [.tmp 4] [.bool false] (by kernel_rfl) (.cons (res_tmp (by kernel_rfl)) .nil)) ⟨congrArg Ending.returned (by kernel_rfl), hs.none⟩)
 | false =>
  have h := of_if_f h
  refine wpS.only 4 (op_call (d := (some 9)) (by kernel_rfl) hs (fun _ => by kernel_rfl) (ref01_Same.ok hg _ (hs.rowR 0 rfl) (hs.rowR 6 rfl)) ?_)
  intro w gw hs
  refine ⟨fun _ => trivial, ?_⟩
  refine wpS.ps [(5, 10, .bool false), (6, 11, undef), (7, 12, undef), (8, 13, undef), (9, 14, undef), (10, 15, undef), (11, 16, .bool false), (12, 17, .bool false), (13, 18, undef), (14, 19, undef), (15, 20, undef), (16, 21, undef), (17, 22, undef), (18, 23, .bool false), (19, 24, .bool false), (20, 25, undef), (21, 26, undef), (22, 27, undef), (23, 28, undef), (24, 29, undef), (25, 30, .bool false), (26, 31, .bool false), (27, 32, undef), (28, 33, undef), (29, 34, undef), (30, 35, undef), (31, 36, undef), (32, 37, .bool false), (33, 38, .bool false), (34, 39, undef), (35, 40, undef), (36, 41, undef), (37, 42, undef), (38, 43, undef), (39, 44, .bool false), (40, 4, .bool false)] (by kernel_rfl) ?_
  refine wpS.fin rfl (kr4 _ _ ?_)
  refine then_n (ks3 _ _ ?_)
  refine xret ?_
  have q0 := of_some h
  subst q0
  exact qq _ _ (post_ret (by kernel_rfl) (run_results [.tmp 4] [.bool false] (by kernel_rfl) (.cons (res_tmp (by kernel_rfl)) .nil)) ⟨congrArg Ending.returned (by kernel_rfl), hs.none⟩)

theorem ref22_SameSig.ok {K : Nat} {a0_0 : List Int} {a0_1 : List (Arr 256)} {a0_2 : List (Arr 256)} {a1_0 : List Int} {a1_1 : List (Arr 256)} {a1_2 : List (Arr 256)} {r0 : Bool} {a0_0_A : Option Addr} {a0_0_n : Nat} {a0_0_c : Nat} {a0_1_A : Option Addr} {a0_1_n : Nat} {a0_1_c : Nat} {a0_2_A : Option Addr} {a0_2_n : Nat} {a0_2_c : Nat} {a1_0_A : Option Addr} {a1_0_n : Nat} {a1_0_c : Nat} {a1_1_A : Option Addr} {a1_1_n : Nat} {a1_1_c : Nat} {a1_2_A : Option Addr} {a1_2_n : Nat} {a1_2_c : Nat} (h : ref22_SameSig.f K a0_0 a0_1 a0_2 a1_0 a1_1 a1_2 = some r0) (w0 : World) (hp0_0 : RowL (CI .u8) w0 a0_0_A a0_0_n a0_0_c a0_0) (hp0_1 : RowL (CA .i32 256 (by decide)) w0 a0_1_A a0_1_n a0_1_c a0_1) (hp0_2 : RowL (CA .i32 256 (by decide)) w0 a0_2_A a0_2_n a0_2_c a0_2) (hp1_0 : RowL (CI .u8) w0 a1_0_A a1_0_n a1_0_c a1_0) (hp1_1 : RowL (CA .i32 256 (by decide)) w0 a1_1_A a1_1_n a1_1_c a1_1) (hp1_2 : RowL (CA .i32 256 (by decide)) w0 a1_2_A a1_2_n a1_2_c a1_2) : Ret Try.prog 37 #[.agg #[.slice a0_0_A a0_0_n a0_0_c, .slice a0_1_A a0_1_n a0_1_c, .slice a0_2_A a0_2_n a0_2_c], .agg #[.slice a1_0_A a1_0_n a1_0_c, .slice a1_1_A a1_1_n a1_1_c, .slice a1_2_A a1_2_n a1_2_c]] w0 (.bool r0) := by
 refine calls_k Try.func37 rfl fun Q qq => ?_
 have hs := St.startR (all_cons (RowP.ent hp0_0) (all_cons (RowP.ent hp0_1) (all_cons (RowP.ent hp0_2) (all_cons (RowP.ent hp1_0) (all_cons (RowP.ent hp1_1) (all_cons (RowP.ent hp1_2) all_nil))))))
 refine wp_conv (a' := ⟨#[.agg #[.slice a0_0_A a0_0_n a0_0_c, .slice a0_1_A a0_1_n a0_1_c, .slice a0_2_A a0_2_n a0_2_c], .agg #[.slice a1_0_A a1_0_n a1_0_c, .slice a1_1_A a1_1_n a1_1_c, .slice a1_2_A a1_2_n a1_2_c], undef, undef, undef, undef, undef, undef, undef, undef, undef, undef, undef, undef, undef, undef, undef, undef, undef, undef, undef, undef, undef, undef], []⟩) (by kernel_rfl) ?_
 refine xseq_k fun KS1 ks1 => ?_
 refine wp_regS (l := [0, 1, 2]) (by kernel_rfl) (by kernel_rfl) fun KR2 kr2 => ?_
 refine wpS.only 0 (op_box (t := 31) (v := .agg #[.slice a0_0_A a0_0_n a0_0_c, .slice a0_1_A a0_1_n a0_1_c, .slice a0_2_A a0_2_n a0_2_c]) (d := (some 2)) (by kernel_rfl) hs ([.slice a0_0_A a0_0_n a0_0_c, .slice a0_1_A a0_1_n a0_1_c, .slice a0_2_A a0_2_n a0_2_c]) (by kernel_rfl) (by kernel_rfl) ?_)
 intro b1 w gw hs
 refine ⟨fun _ => trivial, ?_⟩
 refine wpS.only 1 (op_box (t := 31) (v := .agg #[.slice a1_0_A a1_0_n a1_0_c, .slice a1_1_A a1_1_n a1_1_c, .slice a1_2_A a1_2_n a1_2_c]) (d := (some 3)) (by kernel_rfl) hs ([.slice a1_0_A a1_0_n a1_0_c, .slice a1_1_A a1_1_n a1_1_c, .slice a1_2_A a1_2_n a1_2_c]) (by kernel_rfl) (by kernel_rfl) ?_)
 intro b2 w gw hs
 refine ⟨fun _ => trivial, ?_⟩
 refine wpS.p 2 4 (.bool false) (by kernel_rfl) ?_
 refine wpS.fin rfl (kr2 _ _ ?_)
 refine then_n (ks1 _ _ ?_)
 refine xseq_k fun KS3 ks3 => ?_
 refine wp_regS (l := [0, 1, 2, 3, 4, 5, 6, 7, 8, 9, 10, 11, 12, 13, 14, 15, 16, 17, 18, 19]) (by kernel_rfl) (by kernel_rfl) fun KR4 kr4 => ?_
 refine wpS.p 0 5 (.pointer (some ⟨b1, 0, none⟩)) (by kernel_rfl) ?_
 refine wpS.take 1 true (some 6) (.slice a0_0_A a0_0_n a0_0_c) (by kernel_rfl) (yld_load1 (e := 24) (o := 0) hs 1 rfl (by kernel_rfl) (by kernel_rfl) (by rfl) .grow) ?_
 refine wpS.p 2 7 (.pointer (some ⟨b2, 0, none⟩)) (by kernel_rfl) ?_
 refine wpS.take 3 true (some 8) (.slice a1_0_A a1_0_n a1_0_c) (by kernel_rfl) (yld_load1 (e := 24) (o := 0) hs 0 rfl (by kernel_rfl) (by kernel_rfl) (by rfl) .grow) ?_
 obtain ⟨r3, hg, h⟩ := of_bind h
 cases r3 with
 | true =>
  have h := of_if_t h
  refine wpS.only 4 (op_call (d := (some 9)) (by kernel_rfl) hs (fun _ => by kernel_rfl) (ref01_Same.ok hg _ (hs.rowR 0 rfl) (hs.rowR 3 rfl)) ?_)
  intro w gw hs
  refine ⟨fun _ => trivial, ?_⟩
  refine wpS.ps [(5, 10, .bool true), (6, 11, .pointer (some ⟨b1, 1, none⟩))] (by kernel_rfl) ?_
  refine wpS.take 7 true (some 12) (.slice a0_1_A a0_1_n a0_1_c) (by kernel_rfl) (yld_load1 (e := 25) (o := 1) hs 1 rfl (by kernel_rfl) (by kernel_rfl) (by rfl) .grow) ?_
  refine wpS.p 8 13 (.pointer (some ⟨b2, 1, none⟩)) (by kernel_rfl) ?_
  refine wpS.take 9 true (some 14) (.slice a1_1_A a1_1_n a1_1_c) (by kernel_rfl) (yld_load1 (e := 25) (o := 1) hs 0 rfl (by kernel_rfl) (by kernel_rfl) (by rfl) .grow) ?_
  obtain ⟨r4, hg, h⟩ := of_bind h
  cases r4 with
  | true =>
   have h := of_if_t h
   refine wpS.only 10 (op_call (d := (some 15)) (by kernel_rfl) hs (fun _ => by kernel_rfl) (ref22_Same.ok hg _ (hs.rowR 1 rfl) (hs.rowR 4 rfl)) ?_)
   intro w gw hs
   refine ⟨fun _ => trivial, ?_⟩
   refine wpS.ps [(11, 16, .bool true), (12, 17, .bool true), (13, 18, .pointer (some ⟨b1, 2, none⟩))] (by kernel_rfl) ?_
   refine wpS.take 14 true (some 19) (.slice a0_2_A a0_2_n a0_2_c) (by kernel_rfl) (yld_load1 (e := 25) (o := 2) hs 1 rfl (by kernel_rfl) (by kernel_rfl) (by rfl) .grow) ?_
   refine wpS.p 15 20 (.pointer (some ⟨b2, 2, none⟩)) (by kernel_rfl) ?_
   refine wpS.take 16 true (some 21) (.slice a1_2_A a1_2_n a1_2_c) (by kernel_rfl) (yld_load1 (e := 25) (o := 2) hs 0 rfl (by kernel_rfl) (by kernel_rfl) (by rfl) .grow) ?_
   obtain ⟨r5, hg, h⟩ := of_bind h
   refine wpS.only 17 (op_call (d := (some 22)) (by kernel_rfl) hs (fun _ => by kernel_rfl) (ref22_Same.ok hg _ (hs.rowR 2 rfl) (hs.rowR 5 rfl)) ?_)
   intro w gw hs
   refine ⟨fun _ => trivial, ?_⟩
   refine wpS.ps [(18, 23, .bool r5), (19, 4, .bool r5)] (by kernel_rfl) ?_
   refine wpS.fin rfl (kr4 _ _ ?_)
   refine then_n (ks3 _ _ ?_)
   refine xret ?_
   have q0 := of_some h
   subst q0
   exact qq _ _ (post_ret (by kernel_rfl) (run_results [.tmp 4] [.bool r5] (by kernel_rfl) (.cons (res_tmp (by kernel_rfl)) .nil)) ⟨congrArg Ending.returned (by kernel_rfl), hs.none⟩)
  | false =>
   have h := of_if_f h
   refine wpS.only 10 (op_call (d := (some 15)) (by kernel_rfl) hs (fun _ => by kernel_rfl) (ref22_Same.ok hg _ (hs.rowR 1 rfl) (hs.rowR 4 rfl)) ?_)
   intro w gw hs
   refine ⟨fun _ => trivial, ?_⟩
   refine wpS.ps [(11, 16, .bool false), (12, 17, .bool false), (13, 18, undef), (14, 19, undef), (15, 20, undef), (16, 21, undef), (17, 22, undef), (18, 23, .bool false), (19, 4, .bool false)] (by kernel_rfl) ?_
   refine wpS.fin rfl (kr4 _ _ ?_)
   refine then_n (ks3 _ _ ?_)
   refine xret ?_
   have q0 := of_some h
   subst q0
   exact qq _ _ (post_ret (by kernel_rfl) (run_results [.tmp 4] [.bool false] (by kernel_rfl) (.cons (res_tmp (by kernel_rfl)) .nil)) ⟨congrArg Ending.returned (by kernel_rfl), hs.none⟩)
 | false =>
  have h := of_if_f h
  refine wpS.only 4 (op_call (d := (some 9)) (by kernel_rfl) hs (fun _ => by kernel_rfl) (ref01_Same.ok hg _ (hs.rowR 0 rfl) (hs.rowR 3 rfl)) ?_)
  intro w gw hs
  refine ⟨fun _ => trivial, ?_⟩
  refine wpS.ps [(5, 10, .bool false), (6, 11, undef), (7, 12, undef), (8, 13, undef), (9, 14, undef), (10, 15, undef), (11, 16, .bool false), (12, 17, .bool false), (13, 18, undef), (14, 19, undef), (15, 20, undef), (16, 21, undef), (17, 22, undef), (18, 23, .bool false), (19, 4, .bool false)] (by kernel_rfl) ?_
  refine wpS.fin rfl (kr4 _ _ ?_)
  refine then_n (ks3 _ _ ?_)
  refine xret ?_
  have q0 := of_some h
  subst q0
  exact qq _ _ (post_ret (by kernel_rfl) (run_results [.tmp 4] [.bool false] (by kernel_rfl) (.cons (res_tmp (by kernel_rfl)) .nil)) ⟨congrArg Ending.returned (by kernel_rfl), hs.none⟩)
end Go.Proofs.Ytblploekkjeolaa
