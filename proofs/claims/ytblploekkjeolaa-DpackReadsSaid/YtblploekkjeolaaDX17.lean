/- Printed by this work's own program: the code of each function below comes to the answer that its plain form tells. -/
import Derived.Test.YtblploekkjeolaaMv
import Derived.Test.YtblploekkjeolaaProg
import Derived.Test.YtblploekkjeolaaDFDpackReads
import Derived.Test.YtblploekkjeolaaDX1
import Derived.Test.YtblploekkjeolaaDX15
import Derived.Test.YtblploekkjeolaaDX2
import Derived.Test.YtblploekkjeolaaDX3
set_option linter.unusedVariables false
set_option linter.unusedSimpArgs false
set_option maxRecDepth 100000
set_option maxHeartbeats 4000000
namespace Go.Proofs.Ytblploekkjeolaa
open Go.Mx
attribute [local irreducible] wpOp

theorem ref22_UnPrivate.ok {K : Nat} {a0_0 : Int} {a0_1 : Int} {a0_2 : Int} {a0_3 : Int} {a0_4 : Int} {a0_5 : Int} {a0_6 : Int} {a0_7 : Int} {a1 : List Int} {r0_0 : List Int} {r0_1 : List Int} {r0_2 : List Int} {r0_3 : List (Arr 256)} {r0_4 : List (Arr 256)} {r0_5 : List (Arr 256)} {r1 : Bool} {a1_A : Option Addr} {a1_n : Nat} {a1_c : Nat} (h : ref22_UnPrivate.f K a0_0 a0_1 a0_2 a0_3 a0_4 a0_5 a0_6 a0_7 a1 = some (r0_0, r0_1, r0_2, r0_3, r0_4, r0_5, r1)) (w0 : World) (hp1 : RowL (CI .u8) w0 a1_A a1_n a1_c a1) : Calls Try.prog 32 #[.agg #[.int .i64 a0_0, .int .i64 a0_1, .int .i32 a0_2, .int .i64 a0_3, .int .i32 a0_4, .int .i32 a0_5, .int .i64 a0_6, .int .i64 a0_7], .slice a1_A a1_n a1_c] w0 fun e w' => ∃ h : (Option Addr × Nat × Nat) × (Option Addr × Nat × Nat) × (Option Addr × Nat × Nat) × (Option Addr × Nat × Nat) × (Option Addr × Nat × Nat) × (Option Addr × Nat × Nat), e = .returned (.tuple #[.agg #[.slice h.1.1 h.1.2.1 h.1.2.2, .slice h.2.1.1 h.2.1.2.1 h.2.1.2.2, .slice h.2.2.1.1 h.2.2.1.2.1 h.2.2.1.2.2, .slice h.2.2.2.1.1 h.2.2.2.1.2.1 h.2.2.2.1.2.2, .slice h.2.2.2.2.1.1 h.2.2.2.2.1.2.1 h.2.2.2.2.1.2.2, .slice h.2.2.2.2.2.1 h.2.2.2.2.2.2.1 h.2.2.2.2.2.2.2], .bool r1]) ∧ St w0 [] [.ownL (CA .i32 256 (by decide)) h.2.2.2.1.1 h.2.2.2.1.2.1 h.2.2.2.1.2.2 r0_3 40, .ownL (CA .i32 256 (by decide)) h.2.2.2.2.1.1 h.2.2.2.2.1.2.1 h.2.2.2.2.1.2.2 r0_4 40, .ownL (CA .i32 256 (by decide)) h.2.2.2.2.2.1 h.2.2.2.2.2.2.1 h.2.2.2.2.2.2.2 r0_5 40] [.rowF (Ent.rowL (CI .u8) a1_A a1_n a1_c a1).foot (CI .u8) h.1.1 h.1.2.1 h.1.2.2 r0_0, .rowF (Ent.rowL (CI .u8) a1_A a1_n a1_c a1).foot (CI .u8) h.2.1.1 h.2.1.2.1 h.2.1.2.2 r0_1, .rowF (Ent.rowL (CI .u8) a1_A a1_n a1_c a1).foot (CI .u8) h.2.2.1.1 h.2.2.1.2.1 h.2.2.1.2.2 r0_2] w' := by
 refine calls_k Try.func32 rfl fun Q qq => ?_
 have hs := St.startR (all_cons (RowP.entF hp1) all_nil)
 refine wp_conv (a' := ⟨#[.agg #[.int .i64 a0_0, .int .i64 a0_1, .int .i32 a0_2, .int .i64 a0_3, .int .i32 a0_4, .int .i32 a0_5, .int .i64 a0_6, .int .i64 a0_7], .slice a1_A a1_n a1_c, undef, undef, undef, undef, undef, undef, undef, undef, undef, undef, undef, undef, undef, undef, undef, undef, undef, undef, undef, undef, undef, undef, undef, undef, undef, undef, undef, undef, undef, undef, undef, undef, undef, undef, undef, undef, undef, undef, undef, undef, undef, undef, undef, undef, undef, undef, undef, undef, undef, undef, undef, undef, undef, undef, undef, undef, undef, undef, undef, undef, undef, undef, undef, undef, undef, undef, undef, undef, undef, undef, undef, undef, undef, undef, undef, undef, undef, undef, undef], []⟩) (by kernel_rfl) ?_
 refine xseq_k fun KS1 ks1 => ?_
 refine wp_regS (l := [0, 1, 2]) (by kernel_rfl) (by kernel_rfl) fun KR2 kr2 => ?_
 refine wpS.only 0 (op_box (t := 23) (v := .agg #[.int .i64 a0_0, .int .i64 a0_1, .int .i32 a0_2, .int .i64 a0_3, .int .i32 a0_4, .int .i32 a0_5, .int .i64 a0_6, .int .i64 a0_7]) (d := (some 2)) (by kernel_rfl) hs ([.int .i64 a0_0, .int .i64 a0_1, .int .i32 a0_2, .int .i64 a0_3, .int .i32 a0_4, .int .i32 a0_5, .int .i64 a0_6, .int .i64 a0_7]) (by kernel_rfl) (by kernel_rfl) ?_)
 intro b1 w gw hs
 refine ⟨fun _ => trivial, ?_⟩
 refine wpS.only 1 (op_alloc (t := 29) (d := (some 4)) (by kernel_rfl) hs ([.slice none 0 0, .slice none 0 0, .slice none 0 0, .slice none 0 0, .slice none 0 0, .slice none 0 0]) (.agg #[.slice none 0 0, .slice none 0 0, .slice none 0 0, .slice none 0 0, .slice none 0 0, .slice none 0 0]) (by kernel_rfl) (by kernel_rfl) (by kernel_rfl) ?_)
 intro b2 w gw hs
 refine ⟨fun _ => trivial, ?_⟩
 refine wpS.p 2 5 (.bool false) (by kernel_rfl) ?_
 refine wpS.fin rfl (kr2 _ _ ?_)
 refine then_n (ks1 _ _ ?_)
 refine xseq_k fun KS3 ks3 => ?_
 refine wp_regS (l := [0, 1, 2, 3, 4, 5, 6, 7, 8]) (by kernel_rfl) (by kernel_rfl) fun KR4 kr4 => ?_
 refine wpS.take 0 true (some 17) (.agg #[.int .i64 a0_0, .int .i64 a0_1, .int .i32 a0_2, .int .i64 a0_3, .int .i32 a0_4, .int .i32 a0_5, .int .i64 a0_6, .int .i64 a0_7]) (by kernel_rfl) (yld_loadW (e := 23) (n := 8) hs 1 rfl (by kernel_rfl) (by kernel_rfl) (by kernel_rfl) (by simp [enc_len]) .grow) ?_
 obtain ⟨⟨r3, r4, r5⟩, hg, h⟩ := of_bind h
 refine wpS.only 1 (op_call (d := (some 18)) (by kernel_rfl) hs (fun _ => by kernel_rfl) (ref22_Sizes.ok hg _) ?_)
 intro w gw hs
 refine ⟨fun _ => trivial, ?_⟩
 refine wpS.ps [(2, 16, .tuple #[.int .i64 r3, .int .i64 r4, .int .i64 r5]), (3, 19, .int .i64 r3), (4, 20, .int .i64 r4), (5, 21, .int .i64 r5), (6, 6, .int .i64 r3), (7, 7, .int .i64 r4), (8, 8, .int .i64 r5)] (by kernel_rfl) ?_
 refine wpS.fin rfl (kr4 _ _ ?_)
 refine then_n (ks3 _ _ ?_)
 refine xseq_k fun KS5 ks5 => ?_
 refine xseq_k fun KS6 ks6 => ?_
 refine wp_regS (l := [0, 1, 2, 3, 4, 5, 6, 7, 8]) (by kernel_rfl) (by kernel_rfl) fun KR7 kr7 => ?_
 refine wpS.take 0 true (some 22) (.agg #[.int .i64 a0_0, .int .i64 a0_1, .int .i32 a0_2, .int .i64 a0_3, .int .i32 a0_4, .int .i32 a0_5, .int .i64 a0_6, .int .i64 a0_7]) (by kernel_rfl) (yld_loadW (e := 23) (n := 8) hs 1 rfl (by kernel_rfl) (by kernel_rfl) (by kernel_rfl) (by simp [enc_len]) .grow) ?_
 obtain ⟨r6, hg, h⟩ := of_bind h
 cases r6 with
 | true =>
  have h := of_if_t h
  refine wpS.only 1 (op_call (d := (some 23)) (by kernel_rfl) hs (fun _ => by kernel_rfl) (ref22_Known.ok hg _) ?_)
  intro w gw hs
  refine ⟨fun _ => trivial, ?_⟩
  refine wpS.ps [(2, 24, .bool false), (3, 25, .bool false), (4, 26, .slice a1_A a1_n a1_c)] (by kernel_rfl) ?_
  refine wpS.take 5 false (some 27) (.int .i64 (a1.length : Int)) (by kernel_rfl) (yld_lenL (hs.rowF 0 rfl) (fun _ => by kernel_rfl)) ?_
  refine wpS.p 6 28 (.int .i64 r4) (by kernel_rfl) ?_
  rcases of_if h with ⟨hc, h⟩ | ⟨hc, h⟩
  ·refine wpS.take 7 false (some 29) (.bool false) (by kernel_rfl) (yld_b (nf hc) (fun _ => by kernel_rfl)) ?_
   refine wpS.p 8 30 (.bool false) (by kernel_rfl) ?_
   refine wpS.fin rfl (kr7 _ _ ?_)
   refine then_n (ks6 _ _ ?_)
   refine wp_cond_f (by kernel_rfl) ?_
   refine xskip ?_
   refine then_n (ks5 _ _ ?_)
   refine xseq_k fun KS8 ks8 => ?_
   refine wp_regG [] (fun k => True) 16 (by kernel_rfl) (by kernel_rfl) (by kernel_rfl) fun KR9 kr9 => ?_
   have hs := hs.drawn1
   refine wpG.takeD 0 false (some 33) (.slice a1_A a1_n a1_c) (by kernel_rfl) (by kernel_rfl) (yld fun _ => by kernel_rfl) ?_
   obtain ⟨h0, h⟩ := of_chk h
   obtain ⟨h1, h⟩ := of_chk h
   obtain ⟨h2, h⟩ := of_chk h
   obtain ⟨s7_A, hA⟩ : ∃ A, A = if a1_c = (128 : Int).toNat then a1_A else adr a1_A ((128 : Int).toNat * Cod.size (CI .u8)) := ⟨_, rfl⟩
   obtain ⟨s7_n, hn⟩ : ∃ n, n = ((a1.length : Int) : Int).toNat - (128 : Int).toNat := ⟨_, rfl⟩
   obtain ⟨s7_c, hc⟩ : ∃ c, c = a1_c - (128 : Int).toNat := ⟨_, rfl⟩
   refine wpG.takeD 1 false (some 34) (.slice s7_A s7_n s7_c) (by kernel_rfl) (by kernel_rfl) (yld_sub (C := (CI .u8)) (t := 24) (e := 5) (low := some (.int .i64 128)) (high := none) (lo := 128) (hi := (a1.length : Int)) (hs.rowF 0 rfl) (by kernel_rfl) (by kernel_rfl) (by kernel_rfl) (.inr ⟨_, rfl⟩) (.inl ⟨rfl, rfl⟩) h0 h1 h2 hA hn hc) ?_
   have hs := hs.addSubF (C := (CI .u8)) 0 rfl h0 h1 h2 hA hn hc
   refine wpG.takeD 2 false (some 35) (.pointer (some ⟨b1, 1, none⟩)) (by kernel_rfl) (by kernel_rfl) (yld fun _ => by kernel_rfl) ?_
   refine wpG.takeD 3 true (some 36) (.int .i64 a0_1) (by kernel_rfl) (by kernel_rfl) (yld_load1 (e := 3) (o := 1) hs 1 rfl (by kernel_rfl) (by kernel_rfl) (by rfl) .grow) ?_
   refine wpG.takeD 4 false (some 37) (.pointer (some ⟨b1, 2, none⟩)) (by kernel_rfl) (by kernel_rfl) (yld fun _ => by kernel_rfl) ?_
   refine wpG.takeD 5 true (some 38) (.int .i32 a0_2) (by kernel_rfl) (by kernel_rfl) (yld_load1 (e := 21) (o := 2) hs 1 rfl (by kernel_rfl) (by kernel_rfl) (by rfl) .grow) ?_
   refine wpG.takeD 6 false (some 39) (.pointer (some ⟨b1, 2, none⟩)) (by kernel_rfl) (by kernel_rfl) (yld fun _ => by kernel_rfl) ?_
   refine wpG.takeD 7 true (some 40) (.int .i32 a0_2) (by kernel_rfl) (by kernel_rfl) (yld_load1 (e := 21) (o := 2) hs 1 rfl (by kernel_rfl) (by kernel_rfl) (by rfl) .grow) ?_
   obtain ⟨⟨r8, r9, r10⟩, hg, h⟩ := of_bind h
   refine wpG.only 8 (by kernel_rfl) (op_callHR (d := (some 41)) (by kernel_rfl) hs (fun _ => by kernel_rfl) (ref22_unrow.ok hg _ (hs.rowF 0 rfl)) (fun _ => (far_cons 0 rfl (hs.inF 0 rfl) far_nil)) ?_)
   rintro ⟨⟨r8_A, r8_n, r8_c⟩, ⟨r9_A, r9_n, r9_c⟩⟩ w gw hs
   have hs := (hs.conv (L' := [.ownL (CA .i32 256 (by decide)) r8_A r8_n r8_c r8 40, .blk b2 ([.slice none 0 0, .slice none 0 0, .slice none 0 0, .slice none 0 0, .slice none 0 0, .slice none 0 0]) 29, .blk b1 ([.int .i64 a0_0, .int .i64 a0_1, .int .i32 a0_2, .int .i64 a0_3, .int .i32 a0_4, .int .i32 a0_5, .int .i64 a0_6, .int .i64 a0_7]) 23]) rfl).convR (R' := [.rowF (Ent.rowL (CI .u8) s7_A s7_n s7_c (subL a1 128 (a1.length : Int))).foot (CI .u8) r9_A r9_n r9_c r9, .rowF (Ent.rowL (CI .u8) a1_A a1_n a1_c a1).foot (CI .u8) s7_A s7_n s7_c (subL a1 128 (a1.length : Int)), .rowF (Ent.rowL (CI .u8) a1_A a1_n a1_c a1).foot (CI .u8) a1_A a1_n a1_c a1]) rfl
   have hs := hs.asF (F := (Ent.rowL (CI .u8) a1_A a1_n a1_c a1).foot) 0 1 rfl rfl (hs.inF 1 rfl)
   refine ⟨.of gw, ?_⟩
   refine wpG.p 9 32 (.tuple #[.slice r8_A r8_n r8_c, .slice r9_A r9_n r9_c, .bool r10]) (by kernel_rfl) (by kernel_rfl) ?_
   refine wpG.p 10 42 (.slice r8_A r8_n r8_c) (by kernel_rfl) (by kernel_rfl) ?_
   refine wpG.p 11 43 (.slice r9_A r9_n r9_c) (by kernel_rfl) (by kernel_rfl) ?_
   cases r10 with
   | true =>
    have h := of_if_t h
    refine wpG.p 12 44 (.bool true) (by kernel_rfl) (by kernel_rfl) ?_
    refine wpG.p 13 9 (.slice r8_A r8_n r8_c) (by kernel_rfl) (by kernel_rfl) ?_
    refine wpG.p 14 10 (.slice r9_A r9_n r9_c) (by kernel_rfl) (by kernel_rfl) ?_
    refine wpG.p 15 11 (.bool true) (by kernel_rfl) (by kernel_rfl) ?_
    refine wpG.fin (by kernel_rfl) rfl (kr9 _ _ ?_)
    refine then_n (ks8 _ _ ?_)
    refine xseq_k fun KS10 ks10 => ?_
    refine xseq_k fun KS11 ks11 => ?_
    refine wp_regS (l := [0, 1]) (by kernel_rfl) (by kernel_rfl) fun KR12 kr12 => ?_
    refine wpS.ps [(0, 45, .bool true), (1, 46, .bool false)] (by kernel_rfl) ?_
    refine wpS.fin rfl (kr12 _ _ ?_)
    refine then_n (ks11 _ _ ?_)
    refine wp_cond_f (by kernel_rfl) ?_
    refine xskip ?_
    refine then_n (ks10 _ _ ?_)
    refine xseq_k fun KS13 ks13 => ?_
    refine wp_regS (l := [0, 1, 2, 3, 4, 5, 6, 7, 8, 9, 10, 11, 12, 13, 14]) (by kernel_rfl) (by kernel_rfl) fun KR14 kr14 => ?_
    refine wpS.ps [(0, 49, .slice r9_A r9_n r9_c), (1, 50, .pointer (some ⟨b1, 0, none⟩))] (by kernel_rfl) ?_
    refine wpS.take 2 true (some 51) (.int .i64 a0_0) (by kernel_rfl) (yld_load1 (e := 3) (o := 0) hs 2 rfl (by kernel_rfl) (by kernel_rfl) (by rfl) .grow) ?_
    refine wpS.p 3 52 (.pointer (some ⟨b1, 2, none⟩)) (by kernel_rfl) ?_
    refine wpS.take 4 true (some 53) (.int .i32 a0_2) (by kernel_rfl) (yld_load1 (e := 21) (o := 2) hs 2 rfl (by kernel_rfl) (by kernel_rfl) (by rfl) .grow) ?_
    refine wpS.p 5 54 (.pointer (some ⟨b1, 2, none⟩)) (by kernel_rfl) ?_
    refine wpS.take 6 true (some 55) (.int .i32 a0_2) (by kernel_rfl) (yld_load1 (e := 21) (o := 2) hs 2 rfl (by kernel_rfl) (by kernel_rfl) (by rfl) .grow) ?_
    obtain ⟨⟨r11, r12, r13⟩, hg, h⟩ := of_bind h
    refine wpS.only 7 (op_callHR (d := (some 56)) (by kernel_rfl) hs (fun _ => by kernel_rfl) (ref22_unrow.ok hg _ (hs.rowF 0 rfl)) (fun _ => (far_cons 0 rfl (hs.inF 0 rfl) far_nil)) ?_)
    rintro ⟨⟨r11_A, r11_n, r11_c⟩, ⟨r12_A, r12_n, r12_c⟩⟩ w gw hs
    have hs := (hs.conv (L' := [.ownL (CA .i32 256 (by decide)) r11_A r11_n r11_c r11 40, .ownL (CA .i32 256 (by decide)) r8_A r8_n r8_c r8 40, .blk b2 ([.slice none 0 0, .slice none 0 0, .slice none 0 0, .slice none 0 0, .slice none 0 0, .slice none 0 0]) 29, .blk b1 ([.int .i64 a0_0, .int .i64 a0_1, .int .i32 a0_2, .int .i64 a0_3, .int .i32 a0_4, .int .i32 a0_5, .int .i64 a0_6, .int .i64 a0_7]) 23]) rfl).convR (R' := [.rowF (Ent.rowL (CI .u8) r9_A r9_n r9_c r9).foot (CI .u8) r12_A r12_n r12_c r12, .rowF (Ent.rowL (CI .u8) a1_A a1_n a1_c a1).foot (CI .u8) r9_A r9_n r9_c r9, .rowF (Ent.rowL (CI .u8) s7_A s7_n s7_c (subL a1 128 (a1.length : Int))).foot (CI .u8) r9_A r9_n r9_c r9, .rowF (Ent.rowL (CI .u8) a1_A a1_n a1_c a1).foot (CI .u8) s7_A s7_n s7_c (subL a1 128 (a1.length : Int)), .rowF (Ent.rowL (CI .u8) a1_A a1_n a1_c a1).foot (CI .u8) a1_A a1_n a1_c a1]) rfl
    have hs := hs.asF (F := (Ent.rowL (CI .u8) a1_A a1_n a1_c a1).foot) 0 1 rfl rfl (hs.inF 1 rfl)
    refine ⟨fun _ => trivial, ?_⟩
    refine wpS.ps [(8, 48, .tuple #[.slice r11_A r11_n r11_c, .slice r12_A r12_n r12_c, .bool r13]), (9, 57, .slice r11_A r11_n r11_c), (10, 58, .slice r12_A r12_n r12_c)] (by kernel_rfl) ?_
    cases r13 with
    | true =>
     have h := of_if_t h
     refine wpS.ps [(11, 59, .bool true), (12, 12, .slice r11_A r11_n r11_c), (13, 10, .slice r12_A r12_n r12_c), (14, 11, .bool true)] (by kernel_rfl) ?_
     refine wpS.fin rfl (kr14 _ _ ?_)
     refine then_n (ks13 _ _ ?_)
     refine xseq_k fun KS15 ks15 => ?_
     refine xseq_k fun KS16 ks16 => ?_
     refine wp_regS (l := [0, 1]) (by kernel_rfl) (by kernel_rfl) fun KR17 kr17 => ?_
     refine wpS.ps [(0, 60, .bool true), (1, 61, .bool false)] (by kernel_rfl) ?_
     refine wpS.fin rfl (kr17 _ _ ?_)
     refine then_n (ks16 _ _ ?_)
     refine wp_cond_f (by kernel_rfl) ?_
     refine xskip ?_
     refine then_n (ks15 _ _ ?_)
     refine xseq_k fun KS18 ks18 => ?_
     refine wp_regS (l := [0, 1, 2, 3, 4, 5, 6, 7, 8, 9, 10]) (by kernel_rfl) (by kernel_rfl) fun KR19 kr19 => ?_
     refine wpS.ps [(0, 64, .slice r12_A r12_n r12_c), (1, 65, .pointer (some ⟨b1, 0, none⟩))] (by kernel_rfl) ?_
     refine wpS.take 2 true (some 66) (.int .i64 a0_0) (by kernel_rfl) (yld_load1 (e := 3) (o := 0) hs 3 rfl (by kernel_rfl) (by kernel_rfl) (by rfl) .grow) ?_
     obtain ⟨⟨r14, r15, r16⟩, hg, h⟩ := of_bind h
     refine wpS.only 3 (op_callHR (d := (some 67)) (by kernel_rfl) hs (fun _ => by kernel_rfl) (ref22_unrow.ok hg _ (hs.rowF 0 rfl)) (fun _ => (far_cons 0 rfl (hs.inF 0 rfl) far_nil)) ?_)
     rintro ⟨⟨r14_A, r14_n, r14_c⟩, ⟨r15_A, r15_n, r15_c⟩⟩ w gw hs
     have hs := (hs.conv (L' := [.ownL (CA .i32 256 (by decide)) r14_A r14_n r14_c r14 40, .ownL (CA .i32 256 (by decide)) r11_A r11_n r11_c r11 40, .ownL (CA .i32 256 (by decide)) r8_A r8_n r8_c r8 40, .blk b2 ([.slice none 0 0, .slice none 0 0, .slice none 0 0, .slice none 0 0, .slice none 0 0, .slice none 0 0]) 29, .blk b1 ([.int .i64 a0_0, .int .i64 a0_1, .int .i32 a0_2, .int .i64 a0_3, .int .i32 a0_4, .int .i32 a0_5, .int .i64 a0_6, .int .i64 a0_7]) 23]) rfl).convR (R' := [.rowF (Ent.rowL (CI .u8) r12_A r12_n r12_c r12).foot (CI .u8) r15_A r15_n r15_c r15, .rowF (Ent.rowL (CI .u8) a1_A a1_n a1_c a1).foot (CI .u8) r12_A r12_n r12_c r12, .rowF (Ent.rowL (CI .u8) r9_A r9_n r9_c r9).foot (CI .u8) r12_A r12_n r12_c r12, .rowF (Ent.rowL (CI .u8) a1_A a1_n a1_c a1).foot (CI .u8) r9_A r9_n r9_c r9, .rowF (Ent.rowL (CI .u8) s7_A s7_n s7_c (subL a1 128 (a1.length : Int))).foot (CI .u8) r9_A r9_n r9_c r9, .rowF (Ent.rowL (CI .u8) a1_A a1_n a1_c a1).foot (CI .u8) s7_A s7_n s7_c (subL a1 128 (a1.length : Int)), .rowF (Ent.rowL (CI .u8) a1_A a1_n a1_c a1).foot (CI .u8) a1_A a1_n a1_c a1]) rfl
     have hs := hs.asF (F := (Ent.rowL (CI .u8) a1_A a1_n a1_c a1).foot) 0 1 rfl rfl (hs.inF 1 rfl)
     refine ⟨fun _ => trivial, ?_⟩
     refine wpS.ps [(4, 63, .tuple #[.slice r14_A r14_n r14_c, .slice r15_A r15_n r15_c, .bool r16]), (5, 68, .slice r14_A r14_n r14_c), (6, 69, .slice r15_A r15_n r15_c), (7, 70, .bool r16), (8, 13, .slice r14_A r14_n r14_c), (9, 14, .slice r15_A r15_n r15_c), (10, 15, .bool r16)] (by kernel_rfl) ?_
     refine wpS.fin rfl (kr19 _ _ ?_)
     refine then_n (ks18 _ _ ?_)
     refine xseq_k fun KS20 ks20 => ?_
     refine wp_regG [10] (fun k => True) 12 (by kernel_rfl) (by kernel_rfl) (by kernel_rfl) fun KR21 kr21 => ?_
     have hs := hs.drawn1
     refine wpG.takeD 0 false (some 71) (.slice a1_A a1_n a1_c) (by kernel_rfl) (by kernel_rfl) (yld fun _ => by kernel_rfl) ?_
     obtain ⟨h0, h⟩ := of_chk h
     obtain ⟨h1, h⟩ := of_chk h
     obtain ⟨h2, h⟩ := of_chk h
     obtain ⟨s17_A, hA⟩ : ∃ A, A = if a1_c = (0 : Int).toNat then a1_A else adr a1_A ((0 : Int).toNat * Cod.size (CI .u8)) := ⟨_, rfl⟩
     obtain ⟨s17_n, hn⟩ : ∃ n, n = (32 : Int).toNat - (0 : Int).toNat := ⟨_, rfl⟩
     obtain ⟨s17_c, hc⟩ : ∃ c, c = a1_c - (0 : Int).toNat := ⟨_, rfl⟩
     refine wpG.takeD 1 false (some 72) (.slice s17_A s17_n s17_c) (by kernel_rfl) (by kernel_rfl) (yld_sub (C := (CI .u8)) (t := 24) (e := 5) (low := none) (high := some (.int .i64 32)) (lo := 0) (hi := 32) (hs.rowF 7 rfl) (by kernel_rfl) (by kernel_rfl) (by kernel_rfl) (.inl ⟨rfl, rfl⟩) (.inr ⟨_, rfl⟩) h0 h1 h2 hA hn hc) ?_
     have hs := hs.addSubF (C := (CI .u8)) 7 rfl h0 h1 h2 hA hn hc
     refine wpG.takeD 2 false (some 73) (.slice a1_A a1_n a1_c) (by kernel_rfl) (by kernel_rfl) (yld fun _ => by kernel_rfl) ?_
     obtain ⟨h0, h⟩ := of_chk h
     obtain ⟨h1, h⟩ := of_chk h
     obtain ⟨h2, h⟩ := of_chk h
     obtain ⟨s18_A, hA⟩ : ∃ A, A = if a1_c = (32 : Int).toNat then a1_A else adr a1_A ((32 : Int).toNat * Cod.size (CI .u8)) := ⟨_, rfl⟩
     obtain ⟨s18_n, hn⟩ : ∃ n, n = (64 : Int).toNat - (32 : Int).toNat := ⟨_, rfl⟩
     obtain ⟨s18_c, hc⟩ : ∃ c, c = a1_c - (32 : Int).toNat := ⟨_, rfl⟩
     refine wpG.takeD 3 false (some 74) (.slice s18_A s18_n s18_c) (by kernel_rfl) (by kernel_rfl) (yld_sub (C := (CI .u8)) (t := 24) (e := 5) (low := some (.int .i64 32)) (high := some (.int .i64 64)) (lo := 32) (hi := 64) (hs.rowF 8 rfl) (by kernel_rfl) (by kernel_rfl) (by kernel_rfl) (.inr ⟨_, rfl⟩) (.inr ⟨_, rfl⟩) h0 h1 h2 hA hn hc) ?_
     have hs := hs.addSubF (C := (CI .u8)) 8 rfl h0 h1 h2 hA hn hc
     refine wpG.takeD 4 false (some 75) (.slice a1_A a1_n a1_c) (by kernel_rfl) (by kernel_rfl) (yld fun _ => by kernel_rfl) ?_
     obtain ⟨h0, h⟩ := of_chk h
     obtain ⟨h1, h⟩ := of_chk h
     obtain ⟨h2, h⟩ := of_chk h
     obtain ⟨s19_A, hA⟩ : ∃ A, A = if a1_c = (64 : Int).toNat then a1_A else adr a1_A ((64 : Int).toNat * Cod.size (CI .u8)) := ⟨_, rfl⟩
     obtain ⟨s19_n, hn⟩ : ∃ n, n = (128 : Int).toNat - (64 : Int).toNat := ⟨_, rfl⟩
     obtain ⟨s19_c, hc⟩ : ∃ c, c = a1_c - (64 : Int).toNat := ⟨_, rfl⟩
     refine wpG.takeD 5 false (some 76) (.slice s19_A s19_n s19_c) (by kernel_rfl) (by kernel_rfl) (yld_sub (C := (CI .u8)) (t := 24) (e := 5) (low := some (.int .i64 64)) (high := some (.int .i64 128)) (lo := 64) (hi := 128) (hs.rowF 9 rfl) (by kernel_rfl) (by kernel_rfl) (by kernel_rfl) (.inr ⟨_, rfl⟩) (.inr ⟨_, rfl⟩) h0 h1 h2 hA hn hc) ?_
     have hs := hs.addSubF (C := (CI .u8)) 9 rfl h0 h1 h2 hA hn hc
     refine wpG.p 6 77 (.slice r8_A r8_n r8_c) (by kernel_rfl) (by kernel_rfl) ?_
     refine wpG.p 7 78 (.slice r11_A r11_n r11_c) (by kernel_rfl) (by kernel_rfl) ?_
     refine wpG.p 8 79 (.slice r14_A r14_n r14_c) (by kernel_rfl) (by kernel_rfl) ?_
     refine wpG.p 9 80 (.agg #[.slice s17_A s17_n s17_c, .slice s18_A s18_n s18_c, .slice s19_A s19_n s19_c, .slice r8_A r8_n r8_c, .slice r11_A r11_n r11_c, .slice r14_A r14_n r14_c]) (by kernel_rfl) (by kernel_rfl) ?_
     refine wpG.only 10 (by kernel_rfl) (op_storeW (t := 29) (v := .agg #[.slice s17_A s17_n s17_c, .slice s18_A s18_n s18_c, .slice s19_A s19_n s19_c, .slice r8_A r8_n r8_c, .slice r11_A r11_n r11_c, .slice r14_A r14_n r14_c]) (d := none) (by kernel_rfl) hs 3 rfl (vs := [.slice s17_A s17_n s17_c, .slice s18_A s18_n s18_c, .slice s19_A s19_n s19_c, .slice r8_A r8_n r8_c, .slice r11_A r11_n r11_c, .slice r14_A r14_n r14_c]) (n := 6) (by kernel_rfl) (by kernel_rfl) (by kernel_rfl) (by simp [enc_len]) (by simp [enc_len]) (by simp [Value.oneCell']) ?_)
     intro w kp hs
     refine ⟨⟨fun hf => absurd hf (by decide), .all _ _⟩, ?_⟩
     refine wpG.p 11 5 (.bool true) (by kernel_rfl) (by kernel_rfl) ?_
     refine wpG.fin (by kernel_rfl) rfl (kr21 _ _ ?_)
     refine then_n (ks20 _ _ ?_)
     refine xret ?_
     obtain ⟨q0, qr0⟩ := Prod.mk.inj (of_some h)
     obtain ⟨q1, qr1⟩ := Prod.mk.inj (qr0)
     obtain ⟨q2, qr2⟩ := Prod.mk.inj (qr1)
     obtain ⟨q3, qr3⟩ := Prod.mk.inj (qr2)
     obtain ⟨q4, qr4⟩ := Prod.mk.inj (qr3)
     obtain ⟨q5, qr5⟩ := Prod.mk.inj (qr4)
     have q6 := qr5
     subst q0
     subst q1
     subst q2
     subst q3
     subst q4
     subst q5
     subst q6
     have hs := (hs.front 0 rfl).conv (L' := [.ownL (CA .i32 256 (by decide)) r14_A r14_n r14_c r14 40, .ownL (CA .i32 256 (by decide)) r11_A r11_n r11_c r11 40, .ownL (CA .i32 256 (by decide)) r8_A r8_n r8_c r8 40, .blk b2 ([.slice s17_A s17_n s17_c, .slice s18_A s18_n s18_c, .slice s19_A s19_n s19_c, .slice r8_A r8_n r8_c, .slice r11_A r11_n r11_c, .slice r14_A r14_n r14_c]) 29, .blk b1 ([.int .i64 a0_0, .int .i64 a0_1, .int .i32 a0_2, .int .i64 a0_3, .int .i32 a0_4, .int .i32 a0_5, .int .i64 a0_6, .int .i64 a0_7]) 23]) rfl
     have hs := (hs.front 1 rfl).conv (L' := [.ownL (CA .i32 256 (by decide)) r11_A r11_n r11_c r11 40, .ownL (CA .i32 256 (by decide)) r14_A r14_n r14_c r14 40, .ownL (CA .i32 256 (by decide)) r8_A r8_n r8_c r8 40, .blk b2 ([.slice s17_A s17_n s17_c, .slice s18_A s18_n s18_c, .slice s19_A s19_n s19_c, .slice r8_A r8_n r8_c, .slice r11_A r11_n r11_c, .slice r14_A r14_n r14_c]) 29, .blk b1 ([.int .i64 a0_0, .int .i64 a0_1, .int .i32 a0_2, .int .i64 a0_3, .int .i32 a0_4, .int .i32 a0_5, .int .i64 a0_6, .int .i64 a0_7]) 23]) rfl
     have hs := (hs.front 2 rfl).conv (L' := [.ownL (CA .i32 256 (by decide)) r8_A r8_n r8_c r8 40, .ownL (CA .i32 256 (by decide)) r11_A r11_n r11_c r11 40, .ownL (CA .i32 256 (by decide)) r14_A r14_n r14_c r14 40, .blk b2 ([.slice s17_A s17_n s17_c, .slice s18_A s18_n s18_c, .slice s19_A s19_n s19_c, .slice r8_A r8_n r8_c, .slice r11_A r11_n r11_c, .slice r14_A r14_n r14_c]) 29, .blk b1 ([.int .i64 a0_0, .int .i64 a0_1, .int .i32 a0_2, .int .i64 a0_3, .int .i32 a0_4, .int .i32 a0_5, .int .i64 a0_6, .int .i64 a0_7]) 23]) rfl
     exact qq _ _ (post_ret (by kernel_rfl) (run_results [.cell 4 29, .tmp 5] [.agg #[.slice s17_A s17_n s17_c, .slice s18_A s18_n s18_c, .slice s19_A s19_n s19_c, .slice r8_A r8_n r8_c, .slice r11_A r11_n r11_c, .slice r14_A r14_n r14_c], .bool true] (by kernel_rfl) (.cons (res_cellN (n := 6) hs 3 rfl (by kernel_rfl) (by kernel_rfl) (by kernel_rfl) (by simp [enc_len])) (.cons (res_tmp (by kernel_rfl)) .nil))) ⟨⟨⟨s17_A, s17_n, s17_c⟩, ⟨s18_A, s18_n, s18_c⟩, ⟨s19_A, s19_n, s19_c⟩, ⟨r8_A, r8_n, r8_c⟩, ⟨r11_A, r11_n, r11_c⟩, ⟨r14_A, r14_n, r14_c⟩⟩, congrArg Ending.returned (by kernel_rfl), ((hs.drop (.cons_cons _ (.cons_cons _ (.cons_cons _ (.cons _ (.cons _ .slnil)))))).pickR (pick_cons 2 rfl (pick_cons 1 rfl (pick_cons 0 rfl pick_nil))))⟩)
    | false =>
     have h := of_if_f h
     refine wpS.ps [(11, 59, .bool false), (12, 12, .slice r11_A r11_n r11_c), (13, 10, .slice r12_A r12_n r12_c), (14, 11, .bool false)] (by kernel_rfl) ?_
     refine wpS.fin rfl (kr14 _ _ ?_)
     refine then_n (ks13 _ _ ?_)
     refine xseq_k fun KS22 ks22 => ?_
     refine xseq_k fun KS23 ks23 => ?_
     refine wp_regS (l := [0, 1]) (by kernel_rfl) (by kernel_rfl) fun KR24 kr24 => ?_
     refine wpS.ps [(0, 60, .bool false), (1, 61, .bool true)] (by kernel_rfl) ?_
     refine wpS.fin rfl (kr24 _ _ ?_)
     refine then_n (ks23 _ _ ?_)
     refine wp_cond_t (by kernel_rfl) ?_
     refine xseq_k fun KS25 ks25 => ?_
     refine wp_regS (l := [0, 1, 2]) (by kernel_rfl) (by kernel_rfl) fun KR26 kr26 => ?_
     refine wpS.p 0 62 (.agg #[.slice none 0 0, .slice none 0 0, .slice none 0 0, .slice none 0 0, .slice none 0 0, .slice none 0 0]) (by kernel_rfl) ?_
     refine wpS.only 1 (op_storeW (t := 29) (v := .agg #[.slice none 0 0, .slice none 0 0, .slice none 0 0, .slice none 0 0, .slice none 0 0, .slice none 0 0]) (d := none) (by kernel_rfl) hs 2 rfl (vs := [.slice none 0 0, .slice none 0 0, .slice none 0 0, .slice none 0 0, .slice none 0 0, .slice none 0 0]) (n := 6) (by kernel_rfl) (by kernel_rfl) (by kernel_rfl) (by simp [enc_len]) (by simp [enc_len]) (by simp [Value.oneCell']) ?_)
     intro w kp hs
     refine ⟨fun _ => trivial, ?_⟩
     refine wpS.p 2 5 (.bool false) (by kernel_rfl) ?_
     refine wpS.fin rfl (kr26 _ _ ?_)
     refine then_n (ks25 _ _ ?_)
     refine xret ?_
     refine then_r ?_
     obtain ⟨q0, qr0⟩ := Prod.mk.inj (of_some h)
     obtain ⟨q1, qr1⟩ := Prod.mk.inj (qr0)
     obtain ⟨q2, qr2⟩ := Prod.mk.inj (qr1)
     obtain ⟨q3, qr3⟩ := Prod.mk.inj (qr2)
     obtain ⟨q4, qr4⟩ := Prod.mk.inj (qr3)
     obtain ⟨q5, qr5⟩ := Prod.mk.inj (qr4)
     have q6 := qr5
     subst q0
     subst q1
     subst q2
     subst q3
     subst q4
     subst q5
     subst q6
     have hs := hs.addNilL (CA .i32 256 (by decide)) 40
     have hs := hs.addNilL (CA .i32 256 (by decide)) 40
     have hs := hs.addNilL (CA .i32 256 (by decide)) 40
     have hs := hs.addNilF 0 (CI .u8) rfl
     have hs := hs.addNilF 0 (CI .u8) rfl
     have hs := hs.addNilF 0 (CI .u8) rfl
     exact qq _ _ (post_ret (by kernel_rfl) (run_results [.cell 4 29, .tmp 5] [.agg #[.slice none 0 0, .slice none 0 0, .slice none 0 0, .slice none 0 0, .slice none 0 0, .slice none 0 0], .bool false] (by kernel_rfl) (.cons (res_cellN (n := 6) hs 5 rfl (by kernel_rfl) (by kernel_rfl) (by kernel_rfl) (by simp [enc_len])) (.cons (res_tmp (by kernel_rfl)) .nil))) ⟨⟨⟨none, 0, 0⟩, ⟨none, 0, 0⟩, ⟨none, 0, 0⟩, ⟨none, 0, 0⟩, ⟨none, 0, 0⟩, ⟨none, 0, 0⟩⟩, congrArg Ending.returned (by kernel_rfl), ((hs.drop (.cons_cons _ (.cons_cons _ (.cons_cons _ (.cons _ (.cons _ (.cons _ (.cons _ .slnil)))))))).pickR (pick_cons 0 rfl (pick_cons 1 rfl (pick_cons 2 rfl pick_nil))))⟩)
   | false =>
    have h := of_if_f h
    refine wpG.p 12 44 (.bool false) (by kernel_rfl) (by kernel_rfl) ?_
    refine wpG.p 13 9 (.slice r8_A r8_n r8_c) (by kernel_rfl) (by kernel_rfl) ?_
    refine wpG.p 14 10 (.slice r9_A r9_n r9_c) (by kernel_rfl) (by kernel_rfl) ?_
    refine wpG.p 15 11 (.bool false) (by kernel_rfl) (by kernel_rfl) ?_
    refine wpG.fin (by kernel_rfl) rfl (kr9 _ _ ?_)
    refine then_n (ks8 _ _ ?_)
    refine xseq_k fun KS27 ks27 => ?_
    refine xseq_k fun KS28 ks28 => ?_
    refine wp_regS (l := [0, 1]) (by kernel_rfl) (by kernel_rfl) fun KR29 kr29 => ?_
    refine wpS.ps [(0, 45, .bool false), (1, 46, .bool true)] (by kernel_rfl) ?_
    refine wpS.fin rfl (kr29 _ _ ?_)
    refine then_n (ks28 _ _ ?_)
    refine wp_cond_t (by kernel_rfl) ?_
    refine xseq_k fun KS30 ks30 => ?_
    refine wp_regS (l := [0, 1, 2]) (by kernel_rfl) (by kernel_rfl) fun KR31 kr31 => ?_
    refine wpS.p 0 47 (.agg #[.slice none 0 0, .slice none 0 0, .slice none 0 0, .slice none 0 0, .slice none 0 0, .slice none 0 0]) (by kernel_rfl) ?_
    refine wpS.only 1 (op_storeW (t := 29) (v := .agg #[.slice none 0 0, .slice none 0 0, .slice none 0 0, .slice none 0 0, .slice none 0 0, .slice none 0 0]) (d := none) (by kernel_rfl) hs 1 rfl (vs := [.slice none 0 0, .slice none 0 0, .slice none 0 0, .slice none 0 0, .slice none 0 0, .slice none 0 0]) (n := 6) (by kernel_rfl) (by kernel_rfl) (by kernel_rfl) (by simp [enc_len]) (by simp [enc_len]) (by simp [Value.oneCell']) ?_)
    intro w kp hs
    refine ⟨fun _ => trivial, ?_⟩
    refine wpS.p 2 5 (.bool false) (by kernel_rfl) ?_
    refine wpS.fin rfl (kr31 _ _ ?_)
    refine then_n (ks30 _ _ ?_)
    refine xret ?_
    refine then_r ?_
    obtain ⟨q0, qr0⟩ := Prod.mk.inj (of_some h)
    obtain ⟨q1, qr1⟩ := Prod.mk.inj (qr0)
    obtain ⟨q2, qr2⟩ := Prod.mk.inj (qr1)
    obtain ⟨q3, qr3⟩ := Prod.mk.inj (qr2)
    obtain ⟨q4, qr4⟩ := Prod.mk.inj (qr3)
    obtain ⟨q5, qr5⟩ := Prod.mk.inj (qr4)
    have q6 := qr5
    subst q0
    subst q1
    subst q2
    subst q3
    subst q4
    subst q5
    subst q6
    have hs := hs.addNilL (CA .i32 256 (by decide)) 40
    have hs := hs.addNilL (CA .i32 256 (by decide)) 40
    have hs := hs.addNilL (CA .i32 256 (by decide)) 40
    have hs := hs.addNilF 0 (CI .u8) rfl
    have hs := hs.addNilF 0 (CI .u8) rfl
    have hs := hs.addNilF 0 (CI .u8) rfl
    exact qq _ _ (post_ret (by kernel_rfl) (run_results [.cell 4 29, .tmp 5] [.agg #[.slice none 0 0, .slice none 0 0, .slice none 0 0, .slice none 0 0, .slice none 0 0, .slice none 0 0], .bool false] (by kernel_rfl) (.cons (res_cellN (n := 6) hs 4 rfl (by kernel_rfl) (by kernel_rfl) (by kernel_rfl) (by simp [enc_len])) (.cons (res_tmp (by kernel_rfl)) .nil))) ⟨⟨⟨none, 0, 0⟩, ⟨none, 0, 0⟩, ⟨none, 0, 0⟩, ⟨none, 0, 0⟩, ⟨none, 0, 0⟩, ⟨none, 0, 0⟩⟩, congrArg Ending.returned (by kernel_rfl), ((hs.drop (.cons_cons _ (.cons_cons _ (.cons_cons _ (.cons _ (.cons _ (.cons _ .slnil))))))).pickR (pick_cons 0 rfl (pick_cons 1 rfl (pick_cons 2 rfl pick_nil))))⟩)
  ·refine wpS.take 7 false (some 29) (.bool true) (by kernel_rfl) (yld_b (nt hc) (fun _ => by kernel_rfl)) ?_
   refine wpS.p 8 30 (.bool true) (by kernel_rfl) ?_
   refine wpS.fin rfl (kr7 _ _ ?_)
   refine then_n (ks6 _ _ ?_)
   refine wp_cond_t (by kernel_rfl) ?_
   refine xseq_k fun KS32 ks32 => ?_
   refine wp_regS (l := [0, 1, 2]) (by kernel_rfl) (by kernel_rfl) fun KR33 kr33 => ?_
   refine wpS.p 0 31 (.agg #[.slice none 0 0, .slice none 0 0, .slice none 0 0, .slice none 0 0, .slice none 0 0, .slice none 0 0]) (by kernel_rfl) ?_
   refine wpS.only 1 (op_storeW (t := 29) (v := .agg #[.slice none 0 0, .slice none 0 0, .slice none 0 0, .slice none 0 0, .slice none 0 0, .slice none 0 0]) (d := none) (by kernel_rfl) hs 0 rfl (vs := [.slice none 0 0, .slice none 0 0, .slice none 0 0, .slice none 0 0, .slice none 0 0, .slice none 0 0]) (n := 6) (by kernel_rfl) (by kernel_rfl) (by kernel_rfl) (by simp [enc_len]) (by simp [enc_len]) (by simp [Value.oneCell']) ?_)
   intro w kp hs
   refine ⟨fun _ => trivial, ?_⟩
   refine wpS.p 2 5 (.bool false) (by kernel_rfl) ?_
   refine wpS.fin rfl (kr33 _ _ ?_)
   refine then_n (ks32 _ _ ?_)
   refine xret ?_
   refine then_r ?_
   obtain ⟨q0, qr0⟩ := Prod.mk.inj (of_some h)
   obtain ⟨q1, qr1⟩ := Prod.mk.inj (qr0)
   obtain ⟨q2, qr2⟩ := Prod.mk.inj (qr1)
   obtain ⟨q3, qr3⟩ := Prod.mk.inj (qr2)
   obtain ⟨q4, qr4⟩ := Prod.mk.inj (qr3)
   obtain ⟨q5, qr5⟩ := Prod.mk.inj (qr4)
   have q6 := qr5
   subst q0
   subst q1
   subst q2
   subst q3
   subst q4
   subst q5
   subst q6
   have hs := hs.addNilL (CA .i32 256 (by decide)) 40
   have hs := hs.addNilL (CA .i32 256 (by decide)) 40
   have hs := hs.addNilL (CA .i32 256 (by decide)) 40
   have hs := hs.addNilF 0 (CI .u8) rfl
   have hs := hs.addNilF 0 (CI .u8) rfl
   have hs := hs.addNilF 0 (CI .u8) rfl
   exact qq _ _ (post_ret (by kernel_rfl) (run_results [.cell 4 29, .tmp 5] [.agg #[.slice none 0 0, .slice none 0 0, .slice none 0 0, .slice none 0 0, .slice none 0 0, .slice none 0 0], .bool false] (by kernel_rfl) (.cons (res_cellN (n := 6) hs 3 rfl (by kernel_rfl) (by kernel_rfl) (by kernel_rfl) (by simp [enc_len])) (.cons (res_tmp (by kernel_rfl)) .nil))) ⟨⟨⟨none, 0, 0⟩, ⟨none, 0, 0⟩, ⟨none, 0, 0⟩, ⟨none, 0, 0⟩, ⟨none, 0, 0⟩, ⟨none, 0, 0⟩⟩, congrArg Ending.returned (by kernel_rfl), ((hs.drop (.cons_cons _ (.cons_cons _ (.cons_cons _ (.cons _ (.cons _ .slnil)))))).pickR (pick_cons 0 rfl (pick_cons 1 rfl (pick_cons 2 rfl pick_nil))))⟩)
 | false =>
  have h := of_if_f h
  refine wpS.only 1 (op_call (d := (some 23)) (by kernel_rfl) hs (fun _ => by kernel_rfl) (ref22_Known.ok hg _) ?_)
  intro w gw hs
  refine ⟨fun _ => trivial, ?_⟩
  refine wpS.ps [(2, 24, .bool true), (3, 25, .bool true), (4, 26, undef), (5, 27, undef), (6, 28, undef), (7, 29, undef), (8, 30, .bool true)] (by kernel_rfl) ?_
  refine wpS.fin rfl (kr7 _ _ ?_)
  refine then_n (ks6 _ _ ?_)
  refine wp_cond_t (by kernel_rfl) ?_
  refine xseq_k fun KS34 ks34 => ?_
  refine wp_regS (l := [0, 1, 2]) (by kernel_rfl) (by kernel_rfl) fun KR35 kr35 => ?_
  refine wpS.p 0 31 (.agg #[.slice none 0 0, .slice none 0 0, .slice none 0 0, .slice none 0 0, .slice none 0 0, .slice none 0 0]) (by kernel_rfl) ?_
  refine wpS.only 1 (op_storeW (t := 29) (v := .agg #[.slice none 0 0, .slice none 0 0, .slice none 0 0, .slice none 0 0, .slice none 0 0, .slice none 0 0]) (d := none) (by kernel_rfl) hs 0 rfl (vs := [.slice none 0 0, .slice none 0 0, .slice none 0 0, .slice none 0 0, .slice none 0 0, .slice none 0 0]) (n := 6) (by kernel_rfl) (by kernel_rfl) (by kernel_rfl) (by simp [enc_len]) (by simp [enc_len]) (by simp [Value.oneCell']) ?_)
  intro w kp hs
  refine ⟨fun _ => trivial, ?_⟩
  refine wpS.p 2 5 (.bool false) (by kernel_rfl) ?_
  refine wpS.fin rfl (kr35 _ _ ?_)
  refine then_n (ks34 _ _ ?_)
  refine xret ?_
  refine then_r ?_
  obtain ⟨q0, qr0⟩ := Prod.mk.inj (of_some h)
  obtain ⟨q1, qr1⟩ := Prod.mk.inj (qr0)
  obtain ⟨q2, qr2⟩ := Prod.mk.inj (qr1)
  obtain ⟨q3, qr3⟩ := Prod.mk.inj (qr2)
  obtain ⟨q4, qr4⟩ := Prod.mk.inj (qr3)
  obtain ⟨q5, qr5⟩ := Prod.mk.inj (qr4)
  have q6 := qr5
  subst q0
  subst q1
  subst q2
  subst q3
  subst q4
  subst q5
  subst q6
  have hs := hs.addNilL (CA .i32 256 (by decide)) 40
  have hs := hs.addNilL (CA .i32 256 (by decide)) 40
  have hs := hs.addNilL (CA .i32 256 (by decide)) 40
  have hs := hs.addNilF 0 (CI .u8) rfl
  have hs := hs.addNilF 0 (CI .u8) rfl
  have hs := hs.addNilF 0 (CI .u8) rfl
  exact qq _ _ (post_ret (by kernel_rfl) (run_results [.cell 4 29, .tmp 5] [.agg #[.slice none 0 0, .slice none 0 0, .slice none 0 0, .slice none 0 0, .slice none 0 0, .slice none 0 0], .bool false] (by kernel_rfl) (.cons (res_cellN (n := 6) hs 3 rfl (by kernel_rfl) (by kernel_rfl) (by kernel_rfl) (by simp [enc_len])) (.cons (res_tmp (by kernel_rfl)) .nil))) ⟨⟨⟨none, 0, 0⟩, ⟨none, 0, 0⟩, ⟨none, 0, 0⟩, ⟨none, 0, 0⟩, ⟨none, 0, 0⟩, ⟨none, 0, 0⟩⟩, congrArg Ending.returned (by kernel_rfl), ((hs.drop (.cons_cons _ (.cons_cons _ (.cons_cons _ (.cons _ (.cons _ .slnil)))))).pickR (pick_cons 0 rfl (pick_cons 1 rfl (pick_cons 2 rfl pick_nil))))⟩)
end Go.Proofs.Ytblploekkjeolaa
