/- Printed by this work's own program: the code of each function below comes to the answer that its plain form tells. -/
import Derived.Test.YtblploekkjeolaaMv
import Derived.Test.YtblploekkjeolaaProg
import Derived.Test.YtblploekkjeolaaDF0
import Derived.Test.YtblploekkjeolaaDX0
import Derived.Test.YtblploekkjeolaaDX1
import Derived.Test.YtblploekkjeolaaDX4
import Derived.Test.YtblploekkjeolaaDX5
set_option linter.unusedVariables false
set_option linter.unusedSimpArgs false
set_option maxRecDepth 100000
set_option maxHeartbeats 4000000
namespace Go.Proofs.Ytblploekkjeolaa
open Go.Mx
attribute [local irreducible] wpOp

theorem dpack_UnSig.ok {K : Nat} {a0_0 : Int} {a0_1 : Int} {a0_2 : Int} {a0_3 : Int} {a0_4 : Int} {a0_5 : Int} {a0_6 : Int} {a0_7 : Int} {a1 : List Int} {r0_0 : List Int} {r0_1 : List (Arr 256)} {r0_2 : List (Arr 256)} {r1 : Bool} {a1_A : Option Addr} {a1_n : Nat} {a1_c : Nat} (h : dpack_UnSig.f K a0_0 a0_1 a0_2 a0_3 a0_4 a0_5 a0_6 a0_7 a1 = some (r0_0, r0_1, r0_2, r1)) (w0 : World) (hp1 : RowL (CI .u8) w0 a1_A a1_n a1_c a1) : Calls Try.prog 33 #[.agg #[.int .i64 a0_0, .int .i64 a0_1, .int .i32 a0_2, .int .i64 a0_3, .int .i32 a0_4, .int .i32 a0_5, .int .i64 a0_6, .int .i64 a0_7], .slice a1_A a1_n a1_c] w0 fun e w' => ∃ h : (Option Addr × Nat × Nat) × (Option Addr × Nat × Nat) × (Option Addr × Nat × Nat), e = .returned (.tuple #[.agg #[.slice h.1.1 h.1.2.1 h.1.2.2, .slice h.2.1.1 h.2.1.2.1 h.2.1.2.2, .slice h.2.2.1 h.2.2.2.1 h.2.2.2.2], .bool r1]) ∧ St w0 [] [.ownL (CI .u8) h.1.1 h.1.2.1 h.1.2.2 r0_0 5, .ownL (CA .i32 256 (by decide)) h.2.1.1 h.2.1.2.1 h.2.1.2.2 r0_1 40, .ownL (CA .i32 256 (by decide)) h.2.2.1 h.2.2.2.1 h.2.2.2.2 r0_2 40] [] w' := by
 refine calls_k Try.func33 rfl fun Q qq => ?_
 have hs := St.startR (all_cons (RowP.ent hp1) all_nil)
 refine wp_conv (a' := ⟨#[.agg #[.int .i64 a0_0, .int .i64 a0_1, .int .i32 a0_2, .int .i64 a0_3, .int .i32 a0_4, .int .i32 a0_5, .int .i64 a0_6, .int .i64 a0_7], .slice a1_A a1_n a1_c, undef, undef, undef, undef, undef, undef, undef, undef, undef, undef, undef, undef, undef, undef, undef, undef, undef, undef, undef, undef, undef, undef, undef, undef, undef, undef, undef, undef, undef, undef, undef, undef, undef, undef, undef, undef, undef, undef, undef, undef, undef, undef, undef, undef, undef, undef, undef, undef, undef, undef, undef, undef, undef, undef, undef, undef, undef, undef, undef, undef, undef, undef, undef, undef, undef, undef, undef, undef, undef, undef, undef, undef, undef, undef, undef, undef, undef, undef, undef, undef, undef, undef], []⟩) (by kernel_rfl) ?_
 refine xseq_k fun KS1 ks1 => ?_
 refine wp_regS (l := [0, 1, 2]) (by kernel_rfl) (by kernel_rfl) fun KR2 kr2 => ?_
 refine wpS.only 0 (op_box (t := 23) (v := .agg #[.int .i64 a0_0, .int .i64 a0_1, .int .i32 a0_2, .int .i64 a0_3, .int .i32 a0_4, .int .i32 a0_5, .int .i64 a0_6, .int .i64 a0_7]) (d := (some 2)) (by kernel_rfl) hs ([.int .i64 a0_0, .int .i64 a0_1, .int .i32 a0_2, .int .i64 a0_3, .int .i32 a0_4, .int .i32 a0_5, .int .i64 a0_6, .int .i64 a0_7]) (by kernel_rfl) (by kernel_rfl) ?_)
 intro b1 w gw hs
 refine ⟨fun _ => trivial, ?_⟩
 refine wpS.only 1 (op_alloc (t := 31) (d := (some 4)) (by kernel_rfl) hs ([.slice none 0 0, .slice none 0 0, .slice none 0 0]) (.agg #[.slice none 0 0, .slice none 0 0, .slice none 0 0]) (by kernel_rfl) (by kernel_rfl) (by kernel_rfl) ?_)
 intro b2 w gw hs
 refine ⟨fun _ => trivial, ?_⟩
 refine wpS.p 2 5 (.bool false) (by kernel_rfl) ?_
 refine wpS.fin rfl (kr2 _ _ ?_)
 refine then_n (ks1 _ _ ?_)
 refine xseq_k fun KS3 ks3 => ?_
 refine xseq_k fun KS4 ks4 => ?_
 refine wp_regS (l := [0, 1, 2, 3, 4, 5, 6, 7, 8]) (by kernel_rfl) (by kernel_rfl) fun KR5 kr5 => ?_
 refine wpS.take 0 true (some 14) (.agg #[.int .i64 a0_0, .int .i64 a0_1, .int .i32 a0_2, .int .i64 a0_3, .int .i32 a0_4, .int .i32 a0_5, .int .i64 a0_6, .int .i64 a0_7]) (by kernel_rfl) (yld_loadW (e := 23) (n := 8) hs 1 rfl (by kernel_rfl) (by kernel_rfl) (by kernel_rfl) (by simp [enc_len]) .grow) ?_
 obtain ⟨⟨r3, r4, r5⟩, hg, h⟩ := of_bind h
 refine wpS.only 1 (op_call (d := (some 15)) (by kernel_rfl) hs (fun _ => by kernel_rfl) (dpack_Sizes.ok hg _) ?_)
 intro w gw hs
 refine ⟨fun _ => trivial, ?_⟩
 refine wpS.ps [(2, 13, .tuple #[.int .i64 r3, .int .i64 r4, .int .i64 r5]), (3, 16, .int .i64 r3), (4, 17, .int .i64 r4), (5, 18, .int .i64 r5), (6, 6, .int .i64 r3), (7, 7, .int .i64 r4), (8, 8, .int .i64 r5)] (by kernel_rfl) ?_
 refine wpS.fin rfl (kr5 _ _ ?_)
 refine then_n (ks4 _ _ ?_)
 refine xseq_k fun KS6 ks6 => ?_
 refine wp_regS (l := [0, 1, 2, 3, 4, 5, 6, 7]) (by kernel_rfl) (by kernel_rfl) fun KR7 kr7 => ?_
 refine wpS.p 0 19 (.int .i64 r5) (by kernel_rfl) ?_
 rcases of_if h with ⟨hc, h⟩ | ⟨hc, h⟩
 ·refine wpS.take 1 false (some 20) (.bool true) (by kernel_rfl) (yld_b (et hc) (fun _ => by kernel_rfl)) ?_
  refine wpS.ps [(2, 21, .bool true), (3, 22, undef), (4, 23, undef), (5, 24, undef), (6, 25, undef), (7, 26, .bool true)] (by kernel_rfl) ?_
  refine wpS.fin rfl (kr7 _ _ ?_)
  refine then_n (ks6 _ _ ?_)
  refine wp_cond_t (by kernel_rfl) ?_
  refine xseq_k fun KS8 ks8 => ?_
  refine wp_regS (l := [0, 1, 2]) (by kernel_rfl) (by kernel_rfl) fun KR9 kr9 => ?_
  refine wpS.p 0 27 (.agg #[.slice none 0 0, .slice none 0 0, .slice none 0 0]) (by kernel_rfl) ?_
  refine wpS.only 1 (op_storeW (t := 31) (v := .agg #[.slice none 0 0, .slice none 0 0, .slice none 0 0]) (d := none) (by kernel_rfl) hs 0 rfl (vs := [.slice none 0 0, .slice none 0 0, .slice none 0 0]) (n := 3) (by kernel_rfl) (by kernel_rfl) (by kernel_rfl) (by simp [enc_len]) (by simp [enc_len]) (by simp [Value.oneCell']) ?_)
  intro w kp hs
  refine ⟨fun _ => trivial, ?_⟩
  refine wpS.p 2 5 (.bool false) (by kernel_rfl) ?_
  refine wpS.fin rfl (kr9 _ _ ?_)
  refine then_n (ks8 _ _ ?_)
  refine xret ?_
  refine then_r ?_
  obtain ⟨q0, qr0⟩ := Prod.mk.inj (of_some h)
  obtain ⟨q1, qr1⟩ := Prod.mk.inj (qr0)
  obtain ⟨q2, qr2⟩ := Prod.mk.inj (qr1)
  have q3 := qr2
  subst q0
  subst q1
  subst q2
  subst q3
  have hs := hs.addNilL (CA .i32 256 (by decide)) 40
  have hs := hs.addNilL (CA .i32 256 (by decide)) 40
  have hs := hs.addNilL (CI .u8) 5
  exact qq _ _ (post_ret (by kernel_rfl) (run_results [.cell 4 31, .tmp 5] [.agg #[.slice none 0 0, .slice none 0 0, .slice none 0 0], .bool false] (by kernel_rfl) (.cons (res_cellN (n := 3) hs 3 rfl (by kernel_rfl) (by kernel_rfl) (by kernel_rfl) (by simp [enc_len])) (.cons (res_tmp (by kernel_rfl)) .nil))) ⟨⟨⟨none, 0, 0⟩, ⟨none, 0, 0⟩, ⟨none, 0, 0⟩⟩, congrArg Ending.returned (by kernel_rfl), ((hs.drop (.cons_cons _ (.cons_cons _ (.cons_cons _ (.cons _ (.cons _ .slnil)))))).pickR pick_nil)⟩)
 ·refine wpS.take 1 false (some 20) (.bool false) (by kernel_rfl) (yld_b (ef hc) (fun _ => by kernel_rfl)) ?_
  refine wpS.ps [(2, 21, .bool false), (3, 22, .slice a1_A a1_n a1_c)] (by kernel_rfl) ?_
  refine wpS.take 4 false (some 23) (.int .i64 (a1.length : Int)) (by kernel_rfl) (yld_lenL (hs.rowR 0 rfl) (fun _ => by kernel_rfl)) ?_
  refine wpS.p 5 24 (.int .i64 r5) (by kernel_rfl) ?_
  rcases of_if h with ⟨hc, h⟩ | ⟨hc, h⟩
  ·refine wpS.take 6 false (some 25) (.bool false) (by kernel_rfl) (yld_b (nf hc) (fun _ => by kernel_rfl)) ?_
   refine wpS.p 7 26 (.bool false) (by kernel_rfl) ?_
   refine wpS.fin rfl (kr7 _ _ ?_)
   refine then_n (ks6 _ _ ?_)
   refine wp_cond_f (by kernel_rfl) ?_
   refine xskip ?_
   refine then_n (ks3 _ _ ?_)
   refine xseq_k fun KS10 ks10 => ?_
   refine wp_regS (l := [0, 1, 2, 3, 4]) (by kernel_rfl) (by kernel_rfl) fun KR11 kr11 => ?_
   refine wpS.take 0 true (some 28) (.agg #[.int .i64 a0_0, .int .i64 a0_1, .int .i32 a0_2, .int .i64 a0_3, .int .i32 a0_4, .int .i32 a0_5, .int .i64 a0_6, .int .i64 a0_7]) (by kernel_rfl) (yld_loadW (e := 23) (n := 8) hs 1 rfl (by kernel_rfl) (by kernel_rfl) (by kernel_rfl) (by simp [enc_len]) .grow) ?_
   refine wpS.ps [(1, 29, .slice a1_A a1_n a1_c), (2, 30, .agg #[.int .i64 a0_0, .int .i64 a0_1, .int .i32 a0_2, .int .i64 a0_3, .int .i32 a0_4, .int .i32 a0_5, .int .i64 a0_6, .int .i64 a0_7, .slice a1_A a1_n a1_c, .bool false])] (by kernel_rfl) ?_
   refine wpS.only 3 (op_box (t := 96) (v := .agg #[.int .i64 a0_0, .int .i64 a0_1, .int .i32 a0_2, .int .i64 a0_3, .int .i32 a0_4, .int .i32 a0_5, .int .i64 a0_6, .int .i64 a0_7, .slice a1_A a1_n a1_c, .bool false]) (d := (some 31)) (by kernel_rfl) hs ([.int .i64 a0_0, .int .i64 a0_1, .int .i32 a0_2, .int .i64 a0_3, .int .i32 a0_4, .int .i32 a0_5, .int .i64 a0_6, .int .i64 a0_7, .slice a1_A a1_n a1_c, .bool false]) (by kernel_rfl) (by kernel_rfl) ?_)
   intro b6 w gw hs
   refine ⟨fun _ => trivial, ?_⟩
   refine wpS.p 4 9 (.pointer (some ⟨b6, 0, none⟩)) (by kernel_rfl) ?_
   refine wpS.fin rfl (kr11 _ _ ?_)
   refine then_n (ks10 _ _ ?_)
   refine xseq_k fun KS12 ks12 => ?_
   refine wp_regS (l := [0]) (by kernel_rfl) (by kernel_rfl) fun KR13 kr13 => ?_
   refine wpS.only 0 (op_alloc (t := 31) (d := (some 10)) (by kernel_rfl) hs ([.slice none 0 0, .slice none 0 0, .slice none 0 0]) (.agg #[.slice none 0 0, .slice none 0 0, .slice none 0 0]) (by kernel_rfl) (by kernel_rfl) (by kernel_rfl) ?_)
   intro b7 w gw hs
   refine ⟨fun _ => trivial, ?_⟩
   refine wpS.fin rfl (kr13 _ _ ?_)
   refine then_n (ks12 _ _ ?_)
   refine xseq_k fun KS14 ks14 => ?_
   refine wp_regS (l := [0, 1, 2, 3, 4, 5, 6, 7, 8]) (by kernel_rfl) (by kernel_rfl) fun KR15 kr15 => ?_
   refine wpS.ps [(0, 32, .pointer (some ⟨b6, 0, none⟩)), (1, 33, .pointer (some ⟨b6, 0, none⟩)), (2, 34, .pointer (some ⟨b6, 0, none⟩)), (3, 35, .pointer (some ⟨b6, 0, none⟩)), (4, 36, .pointer (some ⟨b6, 7, none⟩))] (by kernel_rfl) ?_
   refine wpS.take 5 true (some 37) (.int .i64 a0_7) (by kernel_rfl) (yld_load1 (e := 3) (o := 7) hs 1 rfl (by kernel_rfl) (by kernel_rfl) (by rfl) .grow) ?_
   refine wpS.only 6 (op_inline (d := (some 38)) (f := 61) (args := #[.pointer (some ⟨b6, 0, none⟩), .int .i64 a0_7]) (by kernel_rfl) (fun _ => by kernel_rfl) fun R16 kI16 => ?_)
   refine calls_k Try.func61 rfl fun Q16 qq16 => ?_
   refine wp_conv (a' := ⟨#[.pointer (some ⟨b6, 0, none⟩), .int .i64 a0_7, undef, undef, undef, undef, undef, undef, undef, undef, undef, undef, undef, undef, undef, undef, undef, undef, undef, undef, undef, undef, undef], []⟩) (by kernel_rfl) ?_
   refine xseq_k fun KS17 ks17 => ?_
   refine wp_regS (l := [0]) (by kernel_rfl) (by kernel_rfl) fun KR18 kr18 => ?_
   refine wpS.p 0 4 (.slice none 0 0) (by kernel_rfl) ?_
   refine wpS.fin rfl (kr18 _ _ ?_)
   refine then_n (ks17 _ _ ?_)
   refine xseq_k fun KS19 ks19 => ?_
   refine wp_regS (l := [0, 1, 2, 3, 4, 5, 6]) (by kernel_rfl) (by kernel_rfl) fun KR20 kr20 => ?_
   refine wpS.ps [(0, 6, .pointer (some ⟨b6, 0, none⟩)), (1, 7, .pointer (some ⟨b6, 0, none⟩)), (2, 8, .pointer (some ⟨b6, 8, none⟩))] (by kernel_rfl) ?_
   refine wpS.take 3 true (some 9) (.slice a1_A a1_n a1_c) (by kernel_rfl) (yld_load1 (e := 24) (o := 8) hs 1 rfl (by kernel_rfl) (by kernel_rfl) (by rfl) .grow) ?_
   refine wpS.p 4 10 (.int .i64 a0_7) (by kernel_rfl) ?_
   obtain ⟨h0, h⟩ := of_chk h
   obtain ⟨h1, h⟩ := of_chk h
   obtain ⟨h2, h⟩ := of_chk h
   obtain ⟨s8_A, hA⟩ : ∃ A, A = if a1_c = (0 : Int).toNat then a1_A else adr a1_A ((0 : Int).toNat * Cod.size (CI .u8)) := ⟨_, rfl⟩
   obtain ⟨s8_n, hn⟩ : ∃ n, n = (a0_7 : Int).toNat - (0 : Int).toNat := ⟨_, rfl⟩
   obtain ⟨s8_c, hc⟩ : ∃ c, c = a1_c - (0 : Int).toNat := ⟨_, rfl⟩
   refine wpS.take 5 false (some 11) (.slice s8_A s8_n s8_c) (by kernel_rfl) (yld_sub (C := (CI .u8)) (t := 24) (e := 5) (low := none) (high := some (.int .i64 a0_7)) (lo := 0) (hi := a0_7) (hs.rowR 0 rfl) (by kernel_rfl) (by kernel_rfl) (by kernel_rfl) (.inl ⟨rfl, rfl⟩) (.inr ⟨_, rfl⟩) h0 h1 h2 hA hn hc) ?_
   have hs := hs.addSub (C := (CI .u8)) 0 rfl h0 h1 h2 hA hn hc
   refine wpS.p 6 5 (.slice s8_A s8_n s8_c) (by kernel_rfl) ?_
   refine wpS.fin rfl (kr20 _ _ ?_)
   refine then_n (ks19 _ _ ?_)
   refine xseq_k fun KS21 ks21 => ?_
   refine wp_regS (l := [0, 1, 2, 3, 4, 5, 6, 7, 8, 9]) (by kernel_rfl) (by kernel_rfl) fun KR22 kr22 => ?_
   refine wpS.ps [(0, 12, .pointer (some ⟨b6, 0, none⟩)), (1, 13, .pointer (some ⟨b6, 0, none⟩)), (2, 14, .pointer (some ⟨b6, 0, none⟩)), (3, 15, .pointer (some ⟨b6, 8, none⟩))] (by kernel_rfl) ?_
   refine wpS.take 4 true (some 16) (.slice a1_A a1_n a1_c) (by kernel_rfl) (yld_load1 (e := 24) (o := 8) hs 1 rfl (by kernel_rfl) (by kernel_rfl) (by rfl) .grow) ?_
   refine wpS.p 5 17 (.int .i64 a0_7) (by kernel_rfl) ?_
   obtain ⟨h0, h⟩ := of_chk h
   obtain ⟨h1, h⟩ := of_chk h
   obtain ⟨h2, h⟩ := of_chk h
   obtain ⟨s9_A, hA⟩ : ∃ A, A = if a1_c = (a0_7 : Int).toNat then a1_A else adr a1_A ((a0_7 : Int).toNat * Cod.size (CI .u8)) := ⟨_, rfl⟩
   obtain ⟨s9_n, hn⟩ : ∃ n, n = ((a1.length : Int) : Int).toNat - (a0_7 : Int).toNat := ⟨_, rfl⟩
   obtain ⟨s9_c, hc⟩ : ∃ c, c = a1_c - (a0_7 : Int).toNat := ⟨_, rfl⟩
   refine wpS.take 6 false (some 18) (.slice s9_A s9_n s9_c) (by kernel_rfl) (yld_sub (C := (CI .u8)) (t := 24) (e := 5) (low := some (.int .i64 a0_7)) (high := none) (lo := a0_7) (hi := (a1.length : Int)) (hs.rowR 1 rfl) (by kernel_rfl) (by kernel_rfl) (by kernel_rfl) (.inr ⟨_, rfl⟩) (.inl ⟨rfl, rfl⟩) h0 h1 h2 hA hn hc) ?_
   have hs := hs.addSub (C := (CI .u8)) 1 rfl h0 h1 h2 hA hn hc
   refine wpS.ps [(7, 19, .pointer (some ⟨b6, 0, none⟩)), (8, 20, .pointer (some ⟨b6, 8, none⟩))] (by kernel_rfl) ?_
   refine wpS.only 9 (op_store1 (t := 24) (o := 8) (v := .slice s9_A s9_n s9_c) (d := none) (by kernel_rfl) hs 1 rfl (by kernel_rfl) rfl (by kernel_rfl) (by simp) ?_)
   intro w kp hs
   refine ⟨fun _ => trivial, ?_⟩
   refine wpS.fin rfl (kr22 _ _ ?_)
   refine then_n (ks21 _ _ ?_)
   refine xseq_k fun KS23 ks23 => ?_
   refine wp_regS (l := [0, 1, 2]) (by kernel_rfl) (by kernel_rfl) fun KR24 kr24 => ?_
   refine wpS.p 0 21 (.slice s8_A s8_n s8_c) (by kernel_rfl) ?_
   obtain ⟨r10, hg, h⟩ := of_bind h
   refine wpS.only 1 (op_callH (d := (some 22)) (by kernel_rfl) hs (fun _ => by kernel_rfl) (slices_Clone_byte_byte.ok hg _ (hs.rowR 1 rfl)) ?_)
   rintro ⟨r10_A, r10_n, r10_c⟩ w gw hs
   have hs := hs.conv (L' := [.ownL (CI .u8) r10_A r10_n r10_c r10 5, .blk b7 ([.slice none 0 0, .slice none 0 0, .slice none 0 0]) 31, .blk b6 ([.int .i64 a0_0, .int .i64 a0_1, .int .i32 a0_2, .int .i64 a0_3, .int .i32 a0_4, .int .i32 a0_5, .int .i64 a0_6, .int .i64 a0_7, .slice s9_A s9_n s9_c, .bool false]) 96, .blk b2 ([.slice none 0 0, .slice none 0 0, .slice none 0 0]) 31, .blk b1 ([.int .i64 a0_0, .int .i64 a0_1, .int .i32 a0_2, .int .i64 a0_3, .int .i32 a0_4, .int .i32 a0_5, .int .i64 a0_6, .int .i64 a0_7]) 23]) rfl
   refine ⟨fun _ => trivial, ?_⟩
   refine wpS.p 2 4 (.slice r10_A r10_n r10_c) (by kernel_rfl) ?_
   refine wpS.fin rfl (kr24 _ _ ?_)
   refine then_n (ks23 _ _ ?_)
   refine xret ?_
   refine qq16 _ _ (post_ret (by kernel_rfl) (run_results [.tmp 4] [.slice r10_A r10_n r10_c] (by kernel_rfl) (.cons (res_tmp (by kernel_rfl)) .nil)) ?_)
   refine kI16 _ _ ?_
   refine ⟨fun _ => trivial, ?_⟩
   refine wpS.p 7 39 (.pointer (some ⟨b7, 0, none⟩)) (by kernel_rfl) ?_
   refine wpS.only 8 (op_store1 (t := 24) (o := 0) (v := .slice r10_A r10_n r10_c) (d := none) (by kernel_rfl) hs 1 rfl (by kernel_rfl) rfl (by kernel_rfl) (by simp) ?_)
   intro w kp hs
   refine ⟨fun _ => trivial, ?_⟩
   refine wpS.fin rfl (kr15 _ _ ?_)
   refine then_n (ks14 _ _ ?_)
   refine xseq_k fun KS25 ks25 => ?_
   refine wp_regG [18, 20] (fun k => True) 21 (by kernel_rfl) (by kernel_rfl) (by kernel_rfl) fun KR26 kr26 => ?_
   have hs := hs.drawn1
   refine wpG.p 0 40 (.pointer (some ⟨b6, 0, none⟩)) (by kernel_rfl) (by kernel_rfl) ?_
   refine wpG.takeD 1 false (some 41) (.pointer (some ⟨b6, 0, none⟩)) (by kernel_rfl) (by kernel_rfl) (yld fun _ => by kernel_rfl) ?_
   refine wpG.takeD 2 false (some 42) (.pointer (some ⟨b6, 0, none⟩)) (by kernel_rfl) (by kernel_rfl) (yld fun _ => by kernel_rfl) ?_
   refine wpG.takeD 3 false (some 43) (.pointer (some ⟨b6, 0, none⟩)) (by kernel_rfl) (by kernel_rfl) (yld fun _ => by kernel_rfl) ?_
   refine wpG.takeD 4 false (some 44) (.pointer (some ⟨b6, 1, none⟩)) (by kernel_rfl) (by kernel_rfl) (yld fun _ => by kernel_rfl) ?_
   refine wpG.takeD 5 true (some 45) (.int .i64 a0_1) (by kernel_rfl) (by kernel_rfl) (yld_load1 (e := 3) (o := 1) hs 2 rfl (by kernel_rfl) (by kernel_rfl) (by rfl) .grow) ?_
   refine wpG.takeD 6 false (some 46) (.pointer (some ⟨b6, 0, none⟩)) (by kernel_rfl) (by kernel_rfl) (yld fun _ => by kernel_rfl) ?_
   refine wpG.takeD 7 false (some 47) (.pointer (some ⟨b6, 0, none⟩)) (by kernel_rfl) (by kernel_rfl) (yld fun _ => by kernel_rfl) ?_
   refine wpG.takeD 8 false (some 48) (.pointer (some ⟨b6, 0, none⟩)) (by kernel_rfl) (by kernel_rfl) (yld fun _ => by kernel_rfl) ?_
   refine wpG.takeD 9 false (some 49) (.pointer (some ⟨b6, 4, none⟩)) (by kernel_rfl) (by kernel_rfl) (yld fun _ => by kernel_rfl) ?_
   refine wpG.take [10, 11, 17, 18, 19, 20] 10 true (some 50) (.int .i32 a0_4) (by kernel_rfl) (by kernel_rfl) (yld_load1 (e := 21) (o := 4) hs 2 rfl (by kernel_rfl) (by kernel_rfl) (by rfl) .grow) ?_
   refine wpG.takeD 11 false (some 51) (.int .i32 (isub .i32 a0_4 1)) (by kernel_rfl) (by kernel_rfl) (yld fun _ => by kernel_rfl) ?_
   refine wpG.takeD 12 false (some 52) (.pointer (some ⟨b6, 0, none⟩)) (by kernel_rfl) (by kernel_rfl) (yld fun _ => by kernel_rfl) ?_
   refine wpG.takeD 13 false (some 53) (.pointer (some ⟨b6, 0, none⟩)) (by kernel_rfl) (by kernel_rfl) (yld fun _ => by kernel_rfl) ?_
   refine wpG.takeD 14 false (some 54) (.pointer (some ⟨b6, 0, none⟩)) (by kernel_rfl) (by kernel_rfl) (yld fun _ => by kernel_rfl) ?_
   refine wpG.takeD 15 false (some 55) (.pointer (some ⟨b6, 4, none⟩)) (by kernel_rfl) (by kernel_rfl) (yld fun _ => by kernel_rfl) ?_
   refine wpG.take [16, 17, 18, 19, 20] 16 true (some 56) (.int .i32 a0_4) (by kernel_rfl) (by kernel_rfl) (yld_load1 (e := 21) (o := 4) hs 2 rfl (by kernel_rfl) (by kernel_rfl) (by rfl) .grow) ?_
   refine wpG.p 17 57 (.agg #[.int .i32 (isub .i32 a0_4 1), .int .i32 a0_4]) (by kernel_rfl) (by kernel_rfl) ?_
   refine wpG.only 18 (by kernel_rfl) (op_inline (d := (some 58)) (f := 62) (args := #[.pointer (some ⟨b6, 0, none⟩), .int .i64 a0_1, .agg #[.int .i32 (isub .i32 a0_4 1), .int .i32 a0_4]]) (by kernel_rfl) (fun _ => by kernel_rfl) fun R27 kI27 => ?_)
   refine calls_k Try.func62 rfl fun Q27 qq27 => ?_
   refine wp_conv (a' := ⟨#[.pointer (some ⟨b6, 0, none⟩), .int .i64 a0_1, .agg #[.int .i32 (isub .i32 a0_4 1), .int .i32 a0_4], undef, undef, undef, undef, undef, undef, undef, undef, undef, undef, undef, undef, undef, undef, undef, undef, undef, undef, undef, undef, undef, undef, undef, undef, undef, undef, undef, undef, undef, undef, undef, undef, undef, undef, undef, undef, undef, undef, undef], []⟩) (by kernel_rfl) ?_
   refine xseq_k fun KS28 ks28 => ?_
   refine wp_regS (l := [0, 1]) (by kernel_rfl) (by kernel_rfl) fun KR29 kr29 => ?_
   refine wpS.only 0 (op_box (t := 73) (v := .agg #[.int .i32 (isub .i32 a0_4 1), .int .i32 a0_4]) (d := (some 5)) (by kernel_rfl) hs ([.int .i32 (isub .i32 a0_4 1), .int .i32 a0_4]) (by kernel_rfl) (by kernel_rfl) ?_)
   intro b11 w gw hs
   refine ⟨fun _ => trivial, ?_⟩
   refine wpS.p 1 6 (.slice none 0 0) (by kernel_rfl) ?_
   refine wpS.fin rfl (kr29 _ _ ?_)
   refine then_n (ks28 _ _ ?_)
   refine xseq_k fun KS30 ks30 => ?_
   refine wp_regS (l := [0]) (by kernel_rfl) (by kernel_rfl) fun KR31 kr31 => ?_
   refine wpS.p 0 7 (.slice none 0 0) (by kernel_rfl) ?_
   refine wpS.fin rfl (kr31 _ _ ?_)
   refine then_n (ks30 _ _ ?_)
   refine xseq_k fun KS32 ks32 => ?_
   refine xseq_k fun KS33 ks33 => ?_
   refine wp_regS (l := [0, 1]) (by kernel_rfl) (by kernel_rfl) fun KR34 kr34 => ?_
   refine wpS.ps [(0, 10, .int .i64 a0_1), (1, 11, .int .i64 0)] (by kernel_rfl) ?_
   refine wpS.fin rfl (kr34 _ _ ?_)
   refine then_n (ks33 _ _ ?_)
   have hs := hs.addNilL (CA .i32 256 (by decide)) 40
   obtain ⟨⟨y16, y17_0_0, y17_0_1, y17_0_2, y17_0_3, y17_0_4, y17_0_5, y17_0_6, y17_0_7, y17_2, y18⟩, hy, hk0⟩ := of_bind h
   refine wp_exq (N := fun a w => ∃ (y16_A : Option Addr) (y16_n : Nat) (y16_c : Nat) (y18_A : Option Addr) (y18_n : Nat) (y18_c : Nat), St w0 [] [.ownL (CA .i32 256 (by decide)) y16_A y16_n y16_c y16 40, .blk b11 ([.int .i32 (isub .i32 a0_4 1), .int .i32 a0_4]) 73, .ownL (CI .u8) r10_A r10_n r10_c r10 5, .blk b7 ([.slice r10_A r10_n r10_c, .slice none 0 0, .slice none 0 0]) 31, .blk b6 ([.int .i64 y17_0_0, .int .i64 y17_0_1, .int .i32 y17_0_2, .int .i64 y17_0_3, .int .i32 y17_0_4, .int .i32 y17_0_5, .int .i64 y17_0_6, .int .i64 y17_0_7, .slice y18_A y18_n y18_c, .bool y17_2]) 96, .blk b2 ([.slice none 0 0, .slice none 0 0, .slice none 0 0]) 31, .blk b1 ([.int .i64 a0_0, .int .i64 a0_1, .int .i32 a0_2, .int .i64 a0_3, .int .i32 a0_4, .int .i32 a0_5, .int .i64 a0_6, .int .i64 a0_7]) 23] [.rowL (CI .u8) y18_A y18_n y18_c y18, .rowL (CI .u8) s9_A s9_n s9_c (subL a1 a0_7 (a1.length : Int)), .rowL (CI .u8) s8_A s8_n s8_c (subL a1 0 a0_7), .rowL (CI .u8) a1_A a1_n a1_c a1] w ∧ ∃ g : Nat → Value, a = ⟨#[.pointer (some ⟨b6, 0, none⟩), .int .i64 a0_1, .agg #[.int .i32 (isub .i32 a0_4 1), .int .i32 a0_4], undef, undef, .pointer (some ⟨b11, 0, none⟩), .slice none 0 0, .slice y16_A y16_n y16_c, (g 8), (g 9), .int .i64 a0_1, (g 11), (g 12), (g 13), (g 14), (g 15), (g 16), (g 17), (g 18), (g 19), (g 20), (g 21), (g 22), (g 23), (g 24), (g 25), (g 26), (g 27), (g 28), (g 29), (g 30), (g 31), (g 32), (g 33), (g 34), (g 35), (g 36), (g 37), (g 38), (g 39), (g 40), undef], []⟩) (fun N0 nn0 => ?_) ?_
   ·clear hk0
    refine xblock ?_
    refine wp_loop_k (fun n a w => ∃ z12 z13 z14_0_0 z14_0_1 z14_0_2 z14_0_3 z14_0_4 z14_0_5 z14_0_6 z14_0_7 z14_2 z15, ∃ (z13_A : Option Addr) (z13_n : Nat) (z13_c : Nat) (z15_A : Option Addr) (z15_n : Nat) (z15_c : Nat), dpack_UnSig.l0 K n a0_1 a0_4 z12 z13 z14_0_0 z14_0_1 z14_0_2 z14_0_3 z14_0_4 z14_0_5 z14_0_6 z14_0_7 z14_2 z15 = some (y16, y17_0_0, y17_0_1, y17_0_2, y17_0_3, y17_0_4, y17_0_5, y17_0_6, y17_0_7, y17_2, y18) ∧ St w0 [] [.ownL (CA .i32 256 (by decide)) z13_A z13_n z13_c z13 40, .blk b11 ([.int .i32 (isub .i32 a0_4 1), .int .i32 a0_4]) 73, .ownL (CI .u8) r10_A r10_n r10_c r10 5, .blk b7 ([.slice r10_A r10_n r10_c, .slice none 0 0, .slice none 0 0]) 31, .blk b6 ([.int .i64 z14_0_0, .int .i64 z14_0_1, .int .i32 z14_0_2, .int .i64 z14_0_3, .int .i32 z14_0_4, .int .i32 z14_0_5, .int .i64 z14_0_6, .int .i64 z14_0_7, .slice z15_A z15_n z15_c, .bool z14_2]) 96, .blk b2 ([.slice none 0 0, .slice none 0 0, .slice none 0 0]) 31, .blk b1 ([.int .i64 a0_0, .int .i64 a0_1, .int .i32 a0_2, .int .i64 a0_3, .int .i32 a0_4, .int .i32 a0_5, .int .i64 a0_6, .int .i64 a0_7]) 23] [.rowL (CI .u8) z15_A z15_n z15_c z15, .rowL (CI .u8) s9_A s9_n s9_c (subL a1 a0_7 (a1.length : Int)), .rowL (CI .u8) s8_A s8_n s8_c (subL a1 0 a0_7), .rowL (CI .u8) a1_A a1_n a1_c a1] w ∧ ∃ g : Nat → Value, a = ⟨#[.pointer (some ⟨b6, 0, none⟩), .int .i64 a0_1, .agg #[.int .i32 (isub .i32 a0_4 1), .int .i32 a0_4], undef, undef, .pointer (some ⟨b11, 0, none⟩), .slice none 0 0, .slice z13_A z13_n z13_c, (g 8), (g 9), .int .i64 a0_1, .int .i64 z12, (g 12), (g 13), (g 14), (g 15), (g 16), (g 17), (g 18), (g 19), (g 20), (g 21), (g 22), (g 23), (g 24), (g 25), (g 26), (g 27), (g 28), (g 29), (g 30), (g 31), (g 32), (g 33), (g 34), (g 35), (g 36), (g 37), (g 38), (g 39), (g 40), undef], []⟩) K ⟨0, ([] : List (Arr 256)), a0_0, a0_1, a0_2, a0_3, a0_4, a0_5, a0_6, a0_7, false, (subL a1 a0_7 (a1.length : Int)), none, 0, 0, s9_A, s9_n, s9_c, hy, (hs.conv (L' := [.ownL (CA .i32 256 (by decide)) none 0 0 ([] : List (Arr 256)) 40, .blk b11 ([.int .i32 (isub .i32 a0_4 1), .int .i32 a0_4]) 73, .ownL (CI .u8) r10_A r10_n r10_c r10 5, .blk b7 ([.slice r10_A r10_n r10_c, .slice none 0 0, .slice none 0 0]) 31, .blk b6 ([.int .i64 a0_0, .int .i64 a0_1, .int .i32 a0_2, .int .i64 a0_3, .int .i32 a0_4, .int .i32 a0_5, .int .i64 a0_6, .int .i64 a0_7, .slice s9_A s9_n s9_c, .bool false]) 96, .blk b2 ([.slice none 0 0, .slice none 0 0, .slice none 0 0]) 31, .blk b1 ([.int .i64 a0_0, .int .i64 a0_1, .int .i32 a0_2, .int .i64 a0_3, .int .i32 a0_4, .int .i32 a0_5, .int .i64 a0_6, .int .i64 a0_7]) 23]) rfl).pickR (pick_cons 0 rfl (pick_cons 0 rfl (pick_cons 1 rfl (pick_cons 2 rfl pick_nil)))), exg (by kernel_rfl)⟩ ?_
    clear hs h hy
    rintro n a w ⟨z12, z13, z14_0_0, z14_0_1, z14_0_2, z14_0_3, z14_0_4, z14_0_5, z14_0_6, z14_0_7, z14_2, z15, z13_A, z13_n, z13_c, z15_A, z15_n, z15_c, h, hs, g, rfl⟩ KL0 kl0
    cases n with
    | zero => exact nomatch (show none = some _ from h)
    | succ n =>
     refine xseq_k fun KS35 ks35 => ?_
     refine wp_regS (l := [0]) (by kernel_rfl) (by kernel_rfl) fun KR36 kr36 => ?_
     rcases of_if h with ⟨hc, h⟩ | ⟨hc, h⟩
     ·refine wpS.take 0 false (some 12) (.bool true) (by kernel_rfl) (yld_b (dt hc) (fun _ => by kernel_rfl)) ?_
      refine wpS.fin rfl (kr36 _ _ ?_)
      refine then_n (ks35 _ _ ?_)
      refine xseq_k fun KS37 ks37 => ?_
      refine wp_cond_t (by kernel_rfl) ?_
      refine xskip ?_
      refine then_n (ks37 _ _ ?_)
      refine xseq_k fun KS38 ks38 => ?_
      refine xblock ?_
      refine xseq_k fun KS39 ks39 => ?_
      obtain ⟨⟨y20, y21, y22_0_0, y22_0_1, y22_0_2, y22_0_3, y22_0_4, y22_0_5, y22_0_6, y22_0_7, y22_2, y23⟩, hj, h⟩ := of_bind h
      refine wp_join (N := fun a w => ∃ (b19 : Nat) (y23_A : Option Addr) (y23_n : Nat) (y23_c : Nat), St w0 [] [.blk b19 (enc .i32 y20) 40, .ownL (CA .i32 256 (by decide)) z13_A z13_n z13_c z13 40, .blk b11 ([.int .i32 (isub .i32 a0_4 1), .int .i32 a0_4]) 73, .ownL (CI .u8) r10_A r10_n r10_c r10 5, .blk b7 ([.slice r10_A r10_n r10_c, .slice none 0 0, .slice none 0 0]) 31, .blk b6 ([.int .i64 y22_0_0, .int .i64 y22_0_1, .int .i32 y22_0_2, .int .i64 y22_0_3, .int .i32 y22_0_4, .int .i32 y22_0_5, .int .i64 y22_0_6, .int .i64 y22_0_7, .slice y23_A y23_n y23_c, .bool y22_2]) 96, .blk b2 ([.slice none 0 0, .slice none 0 0, .slice none 0 0]) 31, .blk b1 ([.int .i64 a0_0, .int .i64 a0_1, .int .i32 a0_2, .int .i64 a0_3, .int .i32 a0_4, .int .i32 a0_5, .int .i64 a0_6, .int .i64 a0_7]) 23] [.rowL (CI .u8) y23_A y23_n y23_c y23, .rowL (CI .u8) z15_A z15_n z15_c z15, .rowL (CI .u8) s9_A s9_n s9_c (subL a1 a0_7 (a1.length : Int)), .rowL (CI .u8) s8_A s8_n s8_c (subL a1 0 a0_7), .rowL (CI .u8) a1_A a1_n a1_c a1] w ∧ ∃ g : Nat → Value, a = ⟨#[.pointer (some ⟨b6, 0, none⟩), .int .i64 a0_1, .agg #[.int .i32 (isub .i32 a0_4 1), .int .i32 a0_4], undef, undef, .pointer (some ⟨b11, 0, none⟩), .slice none 0 0, .slice z13_A z13_n z13_c, .pointer (some ⟨b19, 0, none⟩), .bool y21, .int .i64 a0_1, .int .i64 z12, .bool true, (g 13), (g 14), (g 15), (g 16), (g 17), (g 18), (g 19), (g 20), (g 21), (g 22), (g 23), (g 24), (g 25), (g 26), (g 27), (g 28), (g 29), (g 30), (g 31), (g 32), (g 33), (g 34), (g 35), (g 36), (g 37), (g 38), (g 39), (g 40), undef], []⟩) (fun N nj => ?_) ?_
      ·clear h
       have h := hj
       refine wp_regG [3, 13] (fun k => ¬ k = b11) 15 (by kernel_rfl) (by kernel_rfl) (by kernel_rfl) fun KR40 kr40 => ?_
       have hs := hs.drawn1
       refine wpG.takeD 0 false (some 14) (.pointer (some ⟨b6, 0, none⟩)) (by kernel_rfl) (by kernel_rfl) (yld fun _ => by kernel_rfl) ?_
       refine wpG.take [1, 2, 3, 8, 9, 10, 11, 13, 14] 1 true (some 15) (.agg #[.int .i32 (isub .i32 a0_4 1), .int .i32 a0_4]) (by kernel_rfl) (by kernel_rfl) (yld_loadW (e := 73) (n := 2) hs 1 rfl (by kernel_rfl) (by kernel_rfl) (by kernel_rfl) (by simp [enc_len]) .grow) ?_
       refine wpG.takeD 4 false (some 18) (.pointer (some ⟨b11, 0, none⟩)) (by kernel_rfl) (by kernel_rfl) (yld fun _ => by kernel_rfl) ?_
       refine wpG.takeK [5, 8, 9, 10, 11, 13, 14] 5 (some 19) (.int .i32 (isub .i32 a0_4 1)) (by kernel_rfl) (by kernel_rfl) (yld_load1 (e := 21) (o := 0) hs 1 rfl (by kernel_rfl) (by kernel_rfl) (by rfl) (.keep (fun hn => hn rfl))) ?_
       refine wpG.takeD 6 false (some 20) (.pointer (some ⟨b11, 1, none⟩)) (by kernel_rfl) (by kernel_rfl) (yld fun _ => by kernel_rfl) ?_
       refine wpG.takeK [7, 8, 9, 10, 11, 13, 14] 7 (some 21) (.int .i32 a0_4) (by kernel_rfl) (by kernel_rfl) (yld_load1 (e := 21) (o := 1) hs 1 rfl (by kernel_rfl) (by kernel_rfl) (by rfl) (.keep (fun hn => hn rfl))) ?_
       refine wpG.many [2, 12] (by kernel_rfl) (by decide) (forall_cons ?_ (forall_cons ?_ forall_nil))
       ·obtain ⟨r24, hg, h⟩ := of_bind h
        refine (op_call (d := (some 16)) (by kernel_rfl) hs (fun _ => by kernel_rfl) (dpack_span_size.ok hg _) ?_)
        intro w gw hs
        refine ⟨.of gw, ?_⟩
        refine wpG.many [3, 12] (by kernel_rfl) (by decide) (forall_cons ?_ (forall_cons ?_ forall_nil))
        ·have hsB42 := hs
         refine (op_inline (d := (some 17)) (f := 61) (args := #[.pointer (some ⟨b6, 0, none⟩), .int .i64 r24]) (by kernel_rfl) (fun _ => by kernel_rfl) fun R41 kI41 => ?_)
         refine calls_k Try.func61 rfl fun Q41 qq41 => ?_
         refine wp_conv (a' := ⟨#[.pointer (some ⟨b6, 0, none⟩), .int .i64 r24, undef, undef, undef, undef, undef, undef, undef, undef, undef, undef, undef, undef, undef, undef, undef, undef, undef, undef, undef, undef, undef], []⟩) (by kernel_rfl) ?_
         refine xseq_k fun KS43 ks43 => ?_
         refine wp_regS (l := [0]) (by kernel_rfl) (by kernel_rfl) fun KR44 kr44 => ?_
         refine wpS.p 0 4 (.slice none 0 0) (by kernel_rfl) ?_
         refine wpS.fin rfl (kr44 _ _ ?_)
         refine then_n (ks43 _ _ ?_)
         refine xseq_k fun KS45 ks45 => ?_
         refine wp_regS (l := [0, 1, 2, 3, 4, 5, 6]) (by kernel_rfl) (by kernel_rfl) fun KR46 kr46 => ?_
         refine wpS.ps [(0, 6, .pointer (some ⟨b6, 0, none⟩)), (1, 7, .pointer (some ⟨b6, 0, none⟩)), (2, 8, .pointer (some ⟨b6, 8, none⟩))] (by kernel_rfl) ?_
         refine wpS.take 3 true (some 9) (.slice z15_A z15_n z15_c) (by kernel_rfl) (yld_load1 (e := 24) (o := 8) hs 4 rfl (by kernel_rfl) (by kernel_rfl) (by rfl) .grow) ?_
         refine wpS.p 4 10 (.int .i64 r24) (by kernel_rfl) ?_
         obtain ⟨h0, h⟩ := of_chk h
         obtain ⟨h1, h⟩ := of_chk h
         obtain ⟨h2, h⟩ := of_chk h
         obtain ⟨s25_A, hA⟩ : ∃ A, A = if z15_c = (0 : Int).toNat then z15_A else adr z15_A ((0 : Int).toNat * Cod.size (CI .u8)) := ⟨_, rfl⟩
         obtain ⟨s25_n, hn⟩ : ∃ n, n = (r24 : Int).toNat - (0 : Int).toNat := ⟨_, rfl⟩
         obtain ⟨s25_c, hc⟩ : ∃ c, c = z15_c - (0 : Int).toNat := ⟨_, rfl⟩
         refine wpS.take 5 false (some 11) (.slice s25_A s25_n s25_c) (by kernel_rfl) (yld_sub (C := (CI .u8)) (t := 24) (e := 5) (low := none) (high := some (.int .i64 r24)) (lo := 0) (hi := r24) (hs.rowR 0 rfl) (by kernel_rfl) (by kernel_rfl) (by kernel_rfl) (.inl ⟨rfl, rfl⟩) (.inr ⟨_, rfl⟩) h0 h1 h2 hA hn hc) ?_
         have hs := hs.addSub (C := (CI .u8)) 0 rfl h0 h1 h2 hA hn hc
         refine wpS.p 6 5 (.slice s25_A s25_n s25_c) (by kernel_rfl) ?_
         refine wpS.fin rfl (kr46 _ _ ?_)
         refine then_n (ks45 _ _ ?_)
         refine xseq_k fun KS47 ks47 => ?_
         refine wp_regS (l := [0, 1, 2, 3, 4, 5, 6, 7, 8, 9]) (by kernel_rfl) (by kernel_rfl) fun KR48 kr48 => ?_
         refine wpS.ps [(0, 12, .pointer (some ⟨b6, 0, none⟩)), (1, 13, .pointer (some ⟨b6, 0, none⟩)), (2, 14, .pointer (some ⟨b6, 0, none⟩)), (3, 15, .pointer (some ⟨b6, 8, none⟩))] (by kernel_rfl) ?_
         refine wpS.take 4 true (some 16) (.slice z15_A z15_n z15_c) (by kernel_rfl) (yld_load1 (e := 24) (o := 8) hs 4 rfl (by kernel_rfl) (by kernel_rfl) (by rfl) .grow) ?_
         refine wpS.p 5 17 (.int .i64 r24) (by kernel_rfl) ?_
         obtain ⟨h0, h⟩ := of_chk h
         obtain ⟨h1, h⟩ := of_chk h
         obtain ⟨h2, h⟩ := of_chk h
         obtain ⟨s26_A, hA⟩ : ∃ A, A = if z15_c = (r24 : Int).toNat then z15_A else adr z15_A ((r24 : Int).toNat * Cod.size (CI .u8)) := ⟨_, rfl⟩
         obtain ⟨s26_n, hn⟩ : ∃ n, n = ((z15.length : Int) : Int).toNat - (r24 : Int).toNat := ⟨_, rfl⟩
         obtain ⟨s26_c, hc⟩ : ∃ c, c = z15_c - (r24 : Int).toNat := ⟨_, rfl⟩
         refine wpS.take 6 false (some 18) (.slice s26_A s26_n s26_c) (by kernel_rfl) (yld_sub (C := (CI .u8)) (t := 24) (e := 5) (low := some (.int .i64 r24)) (high := none) (lo := r24) (hi := (z15.length : Int)) (hs.rowR 1 rfl) (by kernel_rfl) (by kernel_rfl) (by kernel_rfl) (.inr ⟨_, rfl⟩) (.inl ⟨rfl, rfl⟩) h0 h1 h2 hA hn hc) ?_
         have hs := hs.addSub (C := (CI .u8)) 1 rfl h0 h1 h2 hA hn hc
         refine wpS.ps [(7, 19, .pointer (some ⟨b6, 0, none⟩)), (8, 20, .pointer (some ⟨b6, 8, none⟩))] (by kernel_rfl) ?_
         refine wpS.only 9 (op_store1 (t := 24) (o := 8) (v := .slice s26_A s26_n s26_c) (d := none) (by kernel_rfl) hs 4 rfl (by kernel_rfl) rfl (by kernel_rfl) (by simp) ?_)
         intro w kp hs
         refine ⟨fun _ => trivial, ?_⟩
         refine wpS.fin rfl (kr48 _ _ ?_)
         refine then_n (ks47 _ _ ?_)
         refine xseq_k fun KS49 ks49 => ?_
         refine wp_regS (l := [0, 1, 2]) (by kernel_rfl) (by kernel_rfl) fun KR50 kr50 => ?_
         refine wpS.p 0 21 (.slice s25_A s25_n s25_c) (by kernel_rfl) ?_
         obtain ⟨r27, hg, h⟩ := of_bind h
         refine wpS.only 1 (op_callH (d := (some 22)) (by kernel_rfl) hs (fun _ => by kernel_rfl) (slices_Clone_byte_byte.ok hg _ (hs.rowR 1 rfl)) ?_)
         rintro ⟨r27_A, r27_n, r27_c⟩ w gw hs
         have hs := hs.conv (L' := [.ownL (CI .u8) r27_A r27_n r27_c r27 5, .ownL (CA .i32 256 (by decide)) z13_A z13_n z13_c z13 40, .blk b11 ([.int .i32 (isub .i32 a0_4 1), .int .i32 a0_4]) 73, .ownL (CI .u8) r10_A r10_n r10_c r10 5, .blk b7 ([.slice r10_A r10_n r10_c, .slice none 0 0, .slice none 0 0]) 31, .blk b6 ([.int .i64 z14_0_0, .int .i64 z14_0_1, .int .i32 z14_0_2, .int .i64 z14_0_3, .int .i32 z14_0_4, .int .i32 z14_0_5, .int .i64 z14_0_6, .int .i64 z14_0_7, .slice s26_A s26_n s26_c, .bool z14_2]) 96, .blk b2 ([.slice none 0 0, .slice none 0 0, .slice none 0 0]) 31, .blk b1 ([.int .i64 a0_0, .int .i64 a0_1, .int .i32 a0_2, .int .i64 a0_3, .int .i32 a0_4, .int .i32 a0_5, .int .i64 a0_6, .int .i64 a0_7]) 23]) rfl
         refine ⟨fun _ => trivial, ?_⟩
         refine wpS.p 2 4 (.slice r27_A r27_n r27_c) (by kernel_rfl) ?_
         refine wpS.fin rfl (kr50 _ _ ?_)
         refine then_n (ks49 _ _ ?_)
         refine xret ?_
         refine qq41 _ _ (post_ret (by kernel_rfl) (run_results [.tmp 4] [.slice r27_A r27_n r27_c] (by kernel_rfl) (.cons (res_tmp (by kernel_rfl)) .nil)) ?_)
         refine kI41 _ _ ?_
         refine ⟨⟨fun hf => absurd hf (by decide), (keepB1 (hsB42.blkAt 1 rfl) (hs.blkAt 2 rfl))⟩, ?_⟩
         refine wpG.many [8, 12] (by kernel_rfl) (by decide) (forall_cons ?_ (forall_cons ?_ forall_nil))
         ·obtain ⟨⟨r28, r29⟩, hg, h⟩ := of_bind h
          refine (op_call (d := (some 22)) (by kernel_rfl) hs (fun _ => by kernel_rfl) (dpack_Unpack.ok hg _ (hs.rowL 0 rfl)) ?_)
          intro w gw hs
          refine ⟨.of gw, ?_⟩
          refine wpG.p 9 13 (.tuple #[.agg (enc .i32 r28).toArray, .bool r29]) (by kernel_rfl) (by kernel_rfl) ?_
          refine wpG.p 10 23 (.agg (enc .i32 r28).toArray) (by kernel_rfl) (by kernel_rfl) ?_
          refine wpG.p 11 24 (.bool r29) (by kernel_rfl) (by kernel_rfl) ?_
          refine wpG.only 12 (by kernel_rfl) (op_alloc (t := 40) (d := (some 8)) (by kernel_rfl) hs (enc .i32 (zeroA 256)) (.agg (enc .i32 (zeroA 256)).toArray) (by kernel_rfl) (by kernel_rfl) (by kernel_rfl) ?_)
          intro b30 w gw hs
          refine ⟨.of gw, ?_⟩
          have hsB51 := hs
          refine wpG.only 13 (by kernel_rfl) (op_storeW (t := 40) (v := .agg (enc .i32 r28).toArray) (d := none) (by kernel_rfl) hs 0 rfl (vs := enc .i32 r28) (n := 256) (by kernel_rfl) (by kernel_rfl) (by kernel_rfl) (by simp [enc_len]) (by simp [enc_len]) (by intro u hu; exact enc_one _ _ u hu) ?_)
          intro w kp hs
          refine ⟨⟨fun hf => absurd hf (by decide), (keepB1 (hsB51.blkAt 3 rfl) (hs.blkAt 3 rfl))⟩, ?_⟩
          refine wpG.p 14 9 (.bool r29) (by kernel_rfl) (by kernel_rfl) ?_
          refine wpG.fin (by kernel_rfl) rfl (kr40 _ _ ?_)
          obtain ⟨q0, qr0⟩ := Prod.mk.inj (of_some h)
          obtain ⟨q1, qr1⟩ := Prod.mk.inj (qr0)
          obtain ⟨q2, qr2⟩ := Prod.mk.inj (qr1)
          obtain ⟨q3, qr3⟩ := Prod.mk.inj (qr2)
          obtain ⟨q4, qr4⟩ := Prod.mk.inj (qr3)
          obtain ⟨q5, qr5⟩ := Prod.mk.inj (qr4)
          obtain ⟨q6, qr6⟩ := Prod.mk.inj (qr5)
          obtain ⟨q7, qr7⟩ := Prod.mk.inj (qr6)
          obtain ⟨q8, qr8⟩ := Prod.mk.inj (qr7)
          obtain ⟨q9, qr9⟩ := Prod.mk.inj (qr8)
          obtain ⟨q10, qr10⟩ := Prod.mk.inj (qr9)
          have q11 := qr10
          subst q0
          subst q1
          subst q2
          subst q3
          subst q4
          subst q5
          subst q6
          subst q7
          subst q8
          subst q9
          subst q10
          subst q11
          exact nj _ _ ⟨b30, s26_A, s26_n, s26_c, ((hs.drop (.cons_cons _ (.cons _ (.cons_cons _ (.cons_cons _ (.cons_cons _ (.cons_cons _ (.cons_cons _ (.cons_cons _ (.cons_cons _ .slnil)))))))))).pickR (pick_cons 0 rfl (pick_cons 2 rfl (pick_cons 3 rfl (pick_cons 4 rfl (pick_cons 5 rfl pick_nil)))))), exg (by kernel_rfl)⟩
         ·refine (op_alloc (t := 40) (d := (some 8)) (by kernel_rfl) hs (enc .i32 (zeroA 256)) (.agg (enc .i32 (zeroA 256)).toArray) (by kernel_rfl) (by kernel_rfl) (by kernel_rfl) ?_)
          intro b31 w gw hs
          refine ⟨.of gw, ?_⟩
          obtain ⟨⟨r32, r33⟩, hg, h⟩ := of_bind h
          refine wpG.only 8 (by kernel_rfl) (op_call (d := (some 22)) (by kernel_rfl) hs (fun _ => by kernel_rfl) (dpack_Unpack.ok hg _ (hs.rowL 1 rfl)) ?_)
          intro w gw hs
          refine ⟨.of gw, ?_⟩
          refine wpG.p 9 13 (.tuple #[.agg (enc .i32 r32).toArray, .bool r33]) (by kernel_rfl) (by kernel_rfl) ?_
          refine wpG.p 10 23 (.agg (enc .i32 r32).toArray) (by kernel_rfl) (by kernel_rfl) ?_
          refine wpG.p 11 24 (.bool r33) (by kernel_rfl) (by kernel_rfl) ?_
          have hsB52 := hs
          refine wpG.only 13 (by kernel_rfl) (op_storeW (t := 40) (v := .agg (enc .i32 r32).toArray) (d := none) (by kernel_rfl) hs 0 rfl (vs := enc .i32 r32) (n := 256) (by kernel_rfl) (by kernel_rfl) (by kernel_rfl) (by simp [enc_len]) (by simp [enc_len]) (by intro u hu; exact enc_one _ _ u hu) ?_)
          intro w kp hs
          refine ⟨⟨fun hf => absurd hf (by decide), (keepB1 (hsB52.blkAt 3 rfl) (hs.blkAt 3 rfl))⟩, ?_⟩
          refine wpG.p 14 9 (.bool r33) (by kernel_rfl) (by kernel_rfl) ?_
          refine wpG.fin (by kernel_rfl) rfl (kr40 _ _ ?_)
          obtain ⟨q0, qr0⟩ := Prod.mk.inj (of_some h)
          obtain ⟨q1, qr1⟩ := Prod.mk.inj (qr0)
          obtain ⟨q2, qr2⟩ := Prod.mk.inj (qr1)
          obtain ⟨q3, qr3⟩ := Prod.mk.inj (qr2)
          obtain ⟨q4, qr4⟩ := Prod.mk.inj (qr3)
          obtain ⟨q5, qr5⟩ := Prod.mk.inj (qr4)
          obtain ⟨q6, qr6⟩ := Prod.mk.inj (qr5)
          obtain ⟨q7, qr7⟩ := Prod.mk.inj (qr6)
          obtain ⟨q8, qr8⟩ := Prod.mk.inj (qr7)
          obtain ⟨q9, qr9⟩ := Prod.mk.inj (qr8)
          obtain ⟨q10, qr10⟩ := Prod.mk.inj (qr9)
          have q11 := qr10
          subst q0
          subst q1
          subst q2
          subst q3
          subst q4
          subst q5
          subst q6
          subst q7
          subst q8
          subst q9
          subst q10
          subst q11
          exact nj _ _ ⟨b31, s26_A, s26_n, s26_c, ((hs.drop (.cons_cons _ (.cons _ (.cons_cons _ (.cons_cons _ (.cons_cons _ (.cons_cons _ (.cons_cons _ (.cons_cons _ (.cons_cons _ .slnil)))))))))).pickR (pick_cons 0 rfl (pick_cons 2 rfl (pick_cons 3 rfl (pick_cons 4 rfl (pick_cons 5 rfl pick_nil)))))), exg (by kernel_rfl)⟩
        ·refine (op_alloc (t := 40) (d := (some 8)) (by kernel_rfl) hs (enc .i32 (zeroA 256)) (.agg (enc .i32 (zeroA 256)).toArray) (by kernel_rfl) (by kernel_rfl) (by kernel_rfl) ?_)
         intro b34 w gw hs
         refine ⟨.of gw, ?_⟩
         have hsB54 := hs
         refine wpG.only 3 (by kernel_rfl) (op_inline (d := (some 17)) (f := 61) (args := #[.pointer (some ⟨b6, 0, none⟩), .int .i64 r24]) (by kernel_rfl) (fun _ => by kernel_rfl) fun R53 kI53 => ?_)
         refine calls_k Try.func61 rfl fun Q53 qq53 => ?_
         refine wp_conv (a' := ⟨#[.pointer (some ⟨b6, 0, none⟩), .int .i64 r24, undef, undef, undef, undef, undef, undef, undef, undef, undef, undef, undef, undef, undef, undef, undef, undef, undef, undef, undef, undef, undef], []⟩) (by kernel_rfl) ?_
         refine xseq_k fun KS55 ks55 => ?_
         refine wp_regS (l := [0]) (by kernel_rfl) (by kernel_rfl) fun KR56 kr56 => ?_
         refine wpS.p 0 4 (.slice none 0 0) (by kernel_rfl) ?_
         refine wpS.fin rfl (kr56 _ _ ?_)
         refine then_n (ks55 _ _ ?_)
         refine xseq_k fun KS57 ks57 => ?_
         refine wp_regS (l := [0, 1, 2, 3, 4, 5, 6]) (by kernel_rfl) (by kernel_rfl) fun KR58 kr58 => ?_
         refine wpS.ps [(0, 6, .pointer (some ⟨b6, 0, none⟩)), (1, 7, .pointer (some ⟨b6, 0, none⟩)), (2, 8, .pointer (some ⟨b6, 8, none⟩))] (by kernel_rfl) ?_
         refine wpS.take 3 true (some 9) (.slice z15_A z15_n z15_c) (by kernel_rfl) (yld_load1 (e := 24) (o := 8) hs 5 rfl (by kernel_rfl) (by kernel_rfl) (by rfl) .grow) ?_
         refine wpS.p 4 10 (.int .i64 r24) (by kernel_rfl) ?_
         obtain ⟨h0, h⟩ := of_chk h
         obtain ⟨h1, h⟩ := of_chk h
         obtain ⟨h2, h⟩ := of_chk h
         obtain ⟨s35_A, hA⟩ : ∃ A, A = if z15_c = (0 : Int).toNat then z15_A else adr z15_A ((0 : Int).toNat * Cod.size (CI .u8)) := ⟨_, rfl⟩
         obtain ⟨s35_n, hn⟩ : ∃ n, n = (r24 : Int).toNat - (0 : Int).toNat := ⟨_, rfl⟩
         obtain ⟨s35_c, hc⟩ : ∃ c, c = z15_c - (0 : Int).toNat := ⟨_, rfl⟩
         refine wpS.take 5 false (some 11) (.slice s35_A s35_n s35_c) (by kernel_rfl) (yld_sub (C := (CI .u8)) (t := 24) (e := 5) (low := none) (high := some (.int .i64 r24)) (lo := 0) (hi := r24) (hs.rowR 0 rfl) (by kernel_rfl) (by kernel_rfl) (by kernel_rfl) (.inl ⟨rfl, rfl⟩) (.inr ⟨_, rfl⟩) h0 h1 h2 hA hn hc) ?_
         have hs := hs.addSub (C := (CI .u8)) 0 rfl h0 h1 h2 hA hn hc
         refine wpS.p 6 5 (.slice s35_A s35_n s35_c) (by kernel_rfl) ?_
         refine wpS.fin rfl (kr58 _ _ ?_)
         refine then_n (ks57 _ _ ?_)
         refine xseq_k fun KS59 ks59 => ?_
         refine wp_regS (l := [0, 1, 2, 3, 4, 5, 6, 7, 8, 9]) (by kernel_rfl) (by kernel_rfl) fun KR60 kr60 => ?_
         refine wpS.ps [(0, 12, .pointer (some ⟨b6, 0, none⟩)), (1, 13, .pointer (some ⟨b6, 0, none⟩)), (2, 14, .pointer (some ⟨b6, 0, none⟩)), (3, 15, .pointer (some ⟨b6, 8, none⟩))] (by kernel_rfl) ?_
         refine wpS.take 4 true (some 16) (.slice z15_A z15_n z15_c) (by kernel_rfl) (yld_load1 (e := 24) (o := 8) hs 5 rfl (by kernel_rfl) (by kernel_rfl) (by rfl) .grow) ?_
         refine wpS.p 5 17 (.int .i64 r24) (by kernel_rfl) ?_
         obtain ⟨h0, h⟩ := of_chk h
         obtain ⟨h1, h⟩ := of_chk h
         obtain ⟨h2, h⟩ := of_chk h
         obtain ⟨s36_A, hA⟩ : ∃ A, A = if z15_c = (r24 : Int).toNat then z15_A else adr z15_A ((r24 : Int).toNat * Cod.size (CI .u8)) := ⟨_, rfl⟩
         obtain ⟨s36_n, hn⟩ : ∃ n, n = ((z15.length : Int) : Int).toNat - (r24 : Int).toNat := ⟨_, rfl⟩
         obtain ⟨s36_c, hc⟩ : ∃ c, c = z15_c - (r24 : Int).toNat := ⟨_, rfl⟩
         refine wpS.take 6 false (some 18) (.slice s36_A s36_n s36_c) (by kernel_rfl) (yld_sub (C := (CI .u8)) (t := 24) (e := 5) (low := some (.int .i64 r24)) (high := none) (lo := r24) (hi := (z15.length : Int)) (hs.rowR 1 rfl) (by kernel_rfl) (by kernel_rfl) (by kernel_rfl) (.inr ⟨_, rfl⟩) (.inl ⟨rfl, rfl⟩) h0 h1 h2 hA hn hc) ?_
         have hs := hs.addSub (C := (CI .u8)) 1 rfl h0 h1 h2 hA hn hc
         refine wpS.ps [(7, 19, .pointer (some ⟨b6, 0, none⟩)), (8, 20, .pointer (some ⟨b6, 8, none⟩))] (by kernel_rfl) ?_
         refine wpS.only 9 (op_store1 (t := 24) (o := 8) (v := .slice s36_A s36_n s36_c) (d := none) (by kernel_rfl) hs 5 rfl (by kernel_rfl) rfl (by kernel_rfl) (by simp) ?_)
         intro w kp hs
         refine ⟨fun _ => trivial, ?_⟩
         refine wpS.fin rfl (kr60 _ _ ?_)
         refine then_n (ks59 _ _ ?_)
         refine xseq_k fun KS61 ks61 => ?_
         refine wp_regS (l := [0, 1, 2]) (by kernel_rfl) (by kernel_rfl) fun KR62 kr62 => ?_
         refine wpS.p 0 21 (.slice s35_A s35_n s35_c) (by kernel_rfl) ?_
         obtain ⟨r37, hg, h⟩ := of_bind h
         refine wpS.only 1 (op_callH (d := (some 22)) (by kernel_rfl) hs (fun _ => by kernel_rfl) (slices_Clone_byte_byte.ok hg _ (hs.rowR 1 rfl)) ?_)
         rintro ⟨r37_A, r37_n, r37_c⟩ w gw hs
         have hs := hs.conv (L' := [.ownL (CI .u8) r37_A r37_n r37_c r37 5, .blk b34 (enc .i32 (zeroA 256)) 40, .ownL (CA .i32 256 (by decide)) z13_A z13_n z13_c z13 40, .blk b11 ([.int .i32 (isub .i32 a0_4 1), .int .i32 a0_4]) 73, .ownL (CI .u8) r10_A r10_n r10_c r10 5, .blk b7 ([.slice r10_A r10_n r10_c, .slice none 0 0, .slice none 0 0]) 31, .blk b6 ([.int .i64 z14_0_0, .int .i64 z14_0_1, .int .i32 z14_0_2, .int .i64 z14_0_3, .int .i32 z14_0_4, .int .i32 z14_0_5, .int .i64 z14_0_6, .int .i64 z14_0_7, .slice s36_A s36_n s36_c, .bool z14_2]) 96, .blk b2 ([.slice none 0 0, .slice none 0 0, .slice none 0 0]) 31, .blk b1 ([.int .i64 a0_0, .int .i64 a0_1, .int .i32 a0_2, .int .i64 a0_3, .int .i32 a0_4, .int .i32 a0_5, .int .i64 a0_6, .int .i64 a0_7]) 23]) rfl
         refine ⟨fun _ => trivial, ?_⟩
         refine wpS.p 2 4 (.slice r37_A r37_n r37_c) (by kernel_rfl) ?_
         refine wpS.fin rfl (kr62 _ _ ?_)
         refine then_n (ks61 _ _ ?_)
         refine xret ?_
         refine qq53 _ _ (post_ret (by kernel_rfl) (run_results [.tmp 4] [.slice r37_A r37_n r37_c] (by kernel_rfl) (.cons (res_tmp (by kernel_rfl)) .nil)) ?_)
         refine kI53 _ _ ?_
         refine ⟨⟨fun hf => absurd hf (by decide), (keepB1 (hsB54.blkAt 2 rfl) (hs.blkAt 3 rfl))⟩, ?_⟩
         obtain ⟨⟨r38, r39⟩, hg, h⟩ := of_bind h
         refine wpG.only 8 (by kernel_rfl) (op_call (d := (some 22)) (by kernel_rfl) hs (fun _ => by kernel_rfl) (dpack_Unpack.ok hg _ (hs.rowL 0 rfl)) ?_)
         intro w gw hs
         refine ⟨.of gw, ?_⟩
         refine wpG.p 9 13 (.tuple #[.agg (enc .i32 r38).toArray, .bool r39]) (by kernel_rfl) (by kernel_rfl) ?_
         refine wpG.p 10 23 (.agg (enc .i32 r38).toArray) (by kernel_rfl) (by kernel_rfl) ?_
         refine wpG.p 11 24 (.bool r39) (by kernel_rfl) (by kernel_rfl) ?_
         have hsB63 := hs
         refine wpG.only 13 (by kernel_rfl) (op_storeW (t := 40) (v := .agg (enc .i32 r38).toArray) (d := none) (by kernel_rfl) hs 1 rfl (vs := enc .i32 r38) (n := 256) (by kernel_rfl) (by kernel_rfl) (by kernel_rfl) (by simp [enc_len]) (by simp [enc_len]) (by intro u hu; exact enc_one _ _ u hu) ?_)
         intro w kp hs
         refine ⟨⟨fun hf => absurd hf (by decide), (keepB1 (hsB63.blkAt 3 rfl) (hs.blkAt 3 rfl))⟩, ?_⟩
         refine wpG.p 14 9 (.bool r39) (by kernel_rfl) (by kernel_rfl) ?_
         refine wpG.fin (by kernel_rfl) rfl (kr40 _ _ ?_)
         obtain ⟨q0, qr0⟩ := Prod.mk.inj (of_some h)
         obtain ⟨q1, qr1⟩ := Prod.mk.inj (qr0)
         obtain ⟨q2, qr2⟩ := Prod.mk.inj (qr1)
         obtain ⟨q3, qr3⟩ := Prod.mk.inj (qr2)
         obtain ⟨q4, qr4⟩ := Prod.mk.inj (qr3)
         obtain ⟨q5, qr5⟩ := Prod.mk.inj (qr4)
         obtain ⟨q6, qr6⟩ := Prod.mk.inj (qr5)
         obtain ⟨q7, qr7⟩ := Prod.mk.inj (qr6)
         obtain ⟨q8, qr8⟩ := Prod.mk.inj (qr7)
         obtain ⟨q9, qr9⟩ := Prod.mk.inj (qr8)
         obtain ⟨q10, qr10⟩ := Prod.mk.inj (qr9)
         have q11 := qr10
         subst q0
         subst q1
         subst q2
         subst q3
         subst q4
         subst q5
         subst q6
         subst q7
         subst q8
         subst q9
         subst q10
         subst q11
         exact nj _ _ ⟨b34, s36_A, s36_n, s36_c, ((hs.drop (.cons _ (.cons_cons _ (.cons_cons _ (.cons_cons _ (.cons_cons _ (.cons_cons _ (.cons_cons _ (.cons_cons _ (.cons_cons _ .slnil)))))))))).pickR (pick_cons 0 rfl (pick_cons 2 rfl (pick_cons 3 rfl (pick_cons 4 rfl (pick_cons 5 rfl pick_nil)))))), exg (by kernel_rfl)⟩
       ·refine (op_alloc (t := 40) (d := (some 8)) (by kernel_rfl) hs (enc .i32 (zeroA 256)) (.agg (enc .i32 (zeroA 256)).toArray) (by kernel_rfl) (by kernel_rfl) (by kernel_rfl) ?_)
        intro b40 w gw hs
        refine ⟨.of gw, ?_⟩
        obtain ⟨r41, hg, h⟩ := of_bind h
        refine wpG.only 2 (by kernel_rfl) (op_call (d := (some 16)) (by kernel_rfl) hs (fun _ => by kernel_rfl) (dpack_span_size.ok hg _) ?_)
        intro w gw hs
        refine ⟨.of gw, ?_⟩
        have hsB65 := hs
        refine wpG.only 3 (by kernel_rfl) (op_inline (d := (some 17)) (f := 61) (args := #[.pointer (some ⟨b6, 0, none⟩), .int .i64 r41]) (by kernel_rfl) (fun _ => by kernel_rfl) fun R64 kI64 => ?_)
        refine calls_k Try.func61 rfl fun Q64 qq64 => ?_
        refine wp_conv (a' := ⟨#[.pointer (some ⟨b6, 0, none⟩), .int .i64 r41, undef, undef, undef, undef, undef, undef, undef, undef, undef, undef, undef, undef, undef, undef, undef, undef, undef, undef, undef, undef, undef], []⟩) (by kernel_rfl) ?_
        refine xseq_k fun KS66 ks66 => ?_
        refine wp_regS (l := [0]) (by kernel_rfl) (by kernel_rfl) fun KR67 kr67 => ?_
        refine wpS.p 0 4 (.slice none 0 0) (by kernel_rfl) ?_
        refine wpS.fin rfl (kr67 _ _ ?_)
        refine then_n (ks66 _ _ ?_)
        refine xseq_k fun KS68 ks68 => ?_
        refine wp_regS (l := [0, 1, 2, 3, 4, 5, 6]) (by kernel_rfl) (by kernel_rfl) fun KR69 kr69 => ?_
        refine wpS.ps [(0, 6, .pointer (some ⟨b6, 0, none⟩)), (1, 7, .pointer (some ⟨b6, 0, none⟩)), (2, 8, .pointer (some ⟨b6, 8, none⟩))] (by kernel_rfl) ?_
        refine wpS.take 3 true (some 9) (.slice z15_A z15_n z15_c) (by kernel_rfl) (yld_load1 (e := 24) (o := 8) hs 5 rfl (by kernel_rfl) (by kernel_rfl) (by rfl) .grow) ?_
        refine wpS.p 4 10 (.int .i64 r41) (by kernel_rfl) ?_
        obtain ⟨h0, h⟩ := of_chk h
        obtain ⟨h1, h⟩ := of_chk h
        obtain ⟨h2, h⟩ := of_chk h
        obtain ⟨s42_A, hA⟩ : ∃ A, A = if z15_c = (0 : Int).toNat then z15_A else adr z15_A ((0 : Int).toNat * Cod.size (CI .u8)) := ⟨_, rfl⟩
        obtain ⟨s42_n, hn⟩ : ∃ n, n = (r41 : Int).toNat - (0 : Int).toNat := ⟨_, rfl⟩
        obtain ⟨s42_c, hc⟩ : ∃ c, c = z15_c - (0 : Int).toNat := ⟨_, rfl⟩
        refine wpS.take 5 false (some 11) (.slice s42_A s42_n s42_c) (by kernel_rfl) (yld_sub (C := (CI .u8)) (t := 24) (e := 5) (low := none) (high := some (.int .i64 r41)) (lo := 0) (hi := r41) (hs.rowR 0 rfl) (by kernel_rfl) (by kernel_rfl) (by kernel_rfl) (.inl ⟨rfl, rfl⟩) (.inr ⟨_, rfl⟩) h0 h1 h2 hA hn hc) ?_
        have hs := hs.addSub (C := (CI .u8)) 0 rfl h0 h1 h2 hA hn hc
        refine wpS.p 6 5 (.slice s42_A s42_n s42_c) (by kernel_rfl) ?_
        refine wpS.fin rfl (kr69 _ _ ?_)
        refine then_n (ks68 _ _ ?_)
        refine xseq_k fun KS70 ks70 => ?_
        refine wp_regS (l := [0, 1, 2, 3, 4, 5, 6, 7, 8, 9]) (by kernel_rfl) (by kernel_rfl) fun KR71 kr71 => ?_
        refine wpS.ps [(0, 12, .pointer (some ⟨b6, 0, none⟩)), (1, 13, .pointer (some ⟨b6, 0, none⟩)), (2, 14, .pointer (some ⟨b6, 0, none⟩)), (3, 15, .pointer (some ⟨b6, 8, none⟩))] (by kernel_rfl) ?_
        refine wpS.take 4 true (some 16) (.slice z15_A z15_n z15_c) (by kernel_rfl) (yld_load1 (e := 24) (o := 8) hs 5 rfl (by kernel_rfl) (by kernel_rfl) (by rfl) .grow) ?_
        refine wpS.p 5 17 (.int .i64 r41) (by kernel_rfl) ?_
        obtain ⟨h0, h⟩ := of_chk h
        obtain ⟨h1, h⟩ := of_chk h
        obtain ⟨h2, h⟩ := of_chk h
        obtain ⟨s43_A, hA⟩ : ∃ A, A = if z15_c = (r41 : Int).toNat then z15_A else adr z15_A ((r41 : Int).toNat * Cod.size (CI .u8)) := ⟨_, rfl⟩
        obtain ⟨s43_n, hn⟩ : ∃ n, n = ((z15.length : Int) : Int).toNat - (r41 : Int).toNat := ⟨_, rfl⟩
        obtain ⟨s43_c, hc⟩ : ∃ c, c = z15_c - (r41 : Int).toNat := ⟨_, rfl⟩
        refine wpS.take 6 false (some 18) (.slice s43_A s43_n s43_c) (by kernel_rfl) (yld_sub (C := (CI .u8)) (t := 24) (e := 5) (low := some (.int .i64 r41)) (high := none) (lo := r41) (hi := (z15.length : Int)) (hs.rowR 1 rfl) (by kernel_rfl) (by kernel_rfl) (by kernel_rfl) (.inr ⟨_, rfl⟩) (.inl ⟨rfl, rfl⟩) h0 h1 h2 hA hn hc) ?_
        have hs := hs.addSub (C := (CI .u8)) 1 rfl h0 h1 h2 hA hn hc
        refine wpS.ps [(7, 19, .pointer (some ⟨b6, 0, none⟩)), (8, 20, .pointer (some ⟨b6, 8, none⟩))] (by kernel_rfl) ?_
        refine wpS.only 9 (op_store1 (t := 24) (o := 8) (v := .slice s43_A s43_n s43_c) (d := none) (by kernel_rfl) hs 5 rfl (by kernel_rfl) rfl (by kernel_rfl) (by simp) ?_)
        intro w kp hs
        refine ⟨fun _ => trivial, ?_⟩
        refine wpS.fin rfl (kr71 _ _ ?_)
        refine then_n (ks70 _ _ ?_)
        refine xseq_k fun KS72 ks72 => ?_
        refine wp_regS (l := [0, 1, 2]) (by kernel_rfl) (by kernel_rfl) fun KR73 kr73 => ?_
        refine wpS.p 0 21 (.slice s42_A s42_n s42_c) (by kernel_rfl) ?_
        obtain ⟨r44, hg, h⟩ := of_bind h
        refine wpS.only 1 (op_callH (d := (some 22)) (by kernel_rfl) hs (fun _ => by kernel_rfl) (slices_Clone_byte_byte.ok hg _ (hs.rowR 1 rfl)) ?_)
        rintro ⟨r44_A, r44_n, r44_c⟩ w gw hs
        have hs := hs.conv (L' := [.ownL (CI .u8) r44_A r44_n r44_c r44 5, .blk b40 (enc .i32 (zeroA 256)) 40, .ownL (CA .i32 256 (by decide)) z13_A z13_n z13_c z13 40, .blk b11 ([.int .i32 (isub .i32 a0_4 1), .int .i32 a0_4]) 73, .ownL (CI .u8) r10_A r10_n r10_c r10 5, .blk b7 ([.slice r10_A r10_n r10_c, .slice none 0 0, .slice none 0 0]) 31, .blk b6 ([.int .i64 z14_0_0, .int .i64 z14_0_1, .int .i32 z14_0_2, .int .i64 z14_0_3, .int .i32 z14_0_4, .int .i32 z14_0_5, .int .i64 z14_0_6, .int .i64 z14_0_7, .slice s43_A s43_n s43_c, .bool z14_2]) 96, .blk b2 ([.slice none 0 0, .slice none 0 0, .slice none 0 0]) 31, .blk b1 ([.int .i64 a0_0, .int .i64 a0_1, .int .i32 a0_2, .int .i64 a0_3, .int .i32 a0_4, .int .i32 a0_5, .int .i64 a0_6, .int .i64 a0_7]) 23]) rfl
        refine ⟨fun _ => trivial, ?_⟩
        refine wpS.p 2 4 (.slice r44_A r44_n r44_c) (by kernel_rfl) ?_
        refine wpS.fin rfl (kr73 _ _ ?_)
        refine then_n (ks72 _ _ ?_)
        refine xret ?_
        refine qq64 _ _ (post_ret (by kernel_rfl) (run_results [.tmp 4] [.slice r44_A r44_n r44_c] (by kernel_rfl) (.cons (res_tmp (by kernel_rfl)) .nil)) ?_)
        refine kI64 _ _ ?_
        refine ⟨⟨fun hf => absurd hf (by decide), (keepB1 (hsB65.blkAt 2 rfl) (hs.blkAt 3 rfl))⟩, ?_⟩
        obtain ⟨⟨r45, r46⟩, hg, h⟩ := of_bind h
        refine wpG.only 8 (by kernel_rfl) (op_call (d := (some 22)) (by kernel_rfl) hs (fun _ => by kernel_rfl) (dpack_Unpack.ok hg _ (hs.rowL 0 rfl)) ?_)
        intro w gw hs
        refine ⟨.of gw, ?_⟩
        refine wpG.p 9 13 (.tuple #[.agg (enc .i32 r45).toArray, .bool r46]) (by kernel_rfl) (by kernel_rfl) ?_
        refine wpG.p 10 23 (.agg (enc .i32 r45).toArray) (by kernel_rfl) (by kernel_rfl) ?_
        refine wpG.p 11 24 (.bool r46) (by kernel_rfl) (by kernel_rfl) ?_
        have hsB74 := hs
        refine wpG.only 13 (by kernel_rfl) (op_storeW (t := 40) (v := .agg (enc .i32 r45).toArray) (d := none) (by kernel_rfl) hs 1 rfl (vs := enc .i32 r45) (n := 256) (by kernel_rfl) (by kernel_rfl) (by kernel_rfl) (by simp [enc_len]) (by simp [enc_len]) (by intro u hu; exact enc_one _ _ u hu) ?_)
        intro w kp hs
        refine ⟨⟨fun hf => absurd hf (by decide), (keepB1 (hsB74.blkAt 3 rfl) (hs.blkAt 3 rfl))⟩, ?_⟩
        refine wpG.p 14 9 (.bool r46) (by kernel_rfl) (by kernel_rfl) ?_
        refine wpG.fin (by kernel_rfl) rfl (kr40 _ _ ?_)
        obtain ⟨q0, qr0⟩ := Prod.mk.inj (of_some h)
        obtain ⟨q1, qr1⟩ := Prod.mk.inj (qr0)
        obtain ⟨q2, qr2⟩ := Prod.mk.inj (qr1)
        obtain ⟨q3, qr3⟩ := Prod.mk.inj (qr2)
        obtain ⟨q4, qr4⟩ := Prod.mk.inj (qr3)
        obtain ⟨q5, qr5⟩ := Prod.mk.inj (qr4)
        obtain ⟨q6, qr6⟩ := Prod.mk.inj (qr5)
        obtain ⟨q7, qr7⟩ := Prod.mk.inj (qr6)
        obtain ⟨q8, qr8⟩ := Prod.mk.inj (qr7)
        obtain ⟨q9, qr9⟩ := Prod.mk.inj (qr8)
        obtain ⟨q10, qr10⟩ := Prod.mk.inj (qr9)
        have q11 := qr10
        subst q0
        subst q1
        subst q2
        subst q3
        subst q4
        subst q5
        subst q6
        subst q7
        subst q8
        subst q9
        subst q10
        subst q11
        exact nj _ _ ⟨b40, s43_A, s43_n, s43_c, ((hs.drop (.cons _ (.cons_cons _ (.cons_cons _ (.cons_cons _ (.cons_cons _ (.cons_cons _ (.cons_cons _ (.cons_cons _ (.cons_cons _ .slnil)))))))))).pickR (pick_cons 0 rfl (pick_cons 2 rfl (pick_cons 3 rfl (pick_cons 4 rfl (pick_cons 5 rfl pick_nil)))))), exg (by kernel_rfl)⟩
      ·clear hj hs
       rintro a w ⟨b19, y23_A, y23_n, y23_c, hs, g, rfl⟩
       refine then_n (ks39 _ _ ?_)
       obtain ⟨⟨y47_0_0, y47_0_1, y47_0_2, y47_0_3, y47_0_4, y47_0_5, y47_0_6, y47_0_7, y47_2⟩, hj, h⟩ := of_bind h
       refine xseq_k fun KS75 ks75 => wp_join (N := fun a w => St w0 [] [.blk b19 (enc .i32 y20) 40, .ownL (CA .i32 256 (by decide)) z13_A z13_n z13_c z13 40, .blk b11 ([.int .i32 (isub .i32 a0_4 1), .int .i32 a0_4]) 73, .ownL (CI .u8) r10_A r10_n r10_c r10 5, .blk b7 ([.slice r10_A r10_n r10_c, .slice none 0 0, .slice none 0 0]) 31, .blk b6 ([.int .i64 y47_0_0, .int .i64 y47_0_1, .int .i32 y47_0_2, .int .i64 y47_0_3, .int .i32 y47_0_4, .int .i32 y47_0_5, .int .i64 y47_0_6, .int .i64 y47_0_7, .slice y23_A y23_n y23_c, .bool y47_2]) 96, .blk b2 ([.slice none 0 0, .slice none 0 0, .slice none 0 0]) 31, .blk b1 ([.int .i64 a0_0, .int .i64 a0_1, .int .i32 a0_2, .int .i64 a0_3, .int .i32 a0_4, .int .i32 a0_5, .int .i64 a0_6, .int .i64 a0_7]) 23] [.rowL (CI .u8) y23_A y23_n y23_c y23, .rowL (CI .u8) z15_A z15_n z15_c z15, .rowL (CI .u8) s9_A s9_n s9_c (subL a1 a0_7 (a1.length : Int)), .rowL (CI .u8) s8_A s8_n s8_c (subL a1 0 a0_7), .rowL (CI .u8) a1_A a1_n a1_c a1] w ∧ ∃ g : Nat → Value, a = ⟨#[.pointer (some ⟨b6, 0, none⟩), .int .i64 a0_1, .agg #[.int .i32 (isub .i32 a0_4 1), .int .i32 a0_4], undef, undef, .pointer (some ⟨b11, 0, none⟩), .slice none 0 0, .slice z13_A z13_n z13_c, .pointer (some ⟨b19, 0, none⟩), .bool y21, .int .i64 a0_1, .int .i64 z12, .bool true, (g 13), (g 14), (g 15), (g 16), (g 17), (g 18), (g 19), (g 20), (g 21), (g 22), (g 23), (g 24), (g 25), (g 26), (g 27), (g 28), (g 29), (g 30), (g 31), (g 32), (g 33), (g 34), (g 35), (g 36), (g 37), (g 38), (g 39), (g 40), undef], []⟩) (fun N nj => ?_) ?_
       ·clear h
        have h := hj
        refine wp_regS (l := [0, 1, 2, 3, 4, 5, 6, 7, 8, 9, 10, 11]) (by kernel_rfl) (by kernel_rfl) fun KR76 kr76 => ?_
        refine wpS.ps [(0, 25, .pointer (some ⟨b6, 0, none⟩)), (1, 26, .pointer (some ⟨b6, 0, none⟩)), (2, 27, .pointer (some ⟨b6, 0, none⟩)), (3, 28, .pointer (some ⟨b6, 9, none⟩))] (by kernel_rfl) ?_
        cases y22_2 with
        | true =>
         have h := of_if_t h
         refine wpS.take 4 true (some 29) (.bool true) (by kernel_rfl) (yld_load1 (e := 4) (o := 9) hs 5 rfl (by kernel_rfl) (by kernel_rfl) (by rfl) .grow) ?_
         refine wpS.ps [(5, 30, .bool true), (6, 31, undef), (7, 32, undef), (8, 33, .bool true), (9, 34, .pointer (some ⟨b6, 0, none⟩)), (10, 35, .pointer (some ⟨b6, 9, none⟩))] (by kernel_rfl) ?_
         refine wpS.only 11 (op_store1 (t := 4) (o := 9) (v := .bool true) (d := none) (by kernel_rfl) hs 5 rfl (by kernel_rfl) rfl (by kernel_rfl) (by simp) ?_)
         intro w kp hs
         refine ⟨fun _ => trivial, ?_⟩
         refine wpS.fin rfl (kr76 _ _ ?_)
         obtain ⟨q0, qr0⟩ := Prod.mk.inj (of_some h)
         obtain ⟨q1, qr1⟩ := Prod.mk.inj (qr0)
         obtain ⟨q2, qr2⟩ := Prod.mk.inj (qr1)
         obtain ⟨q3, qr3⟩ := Prod.mk.inj (qr2)
         obtain ⟨q4, qr4⟩ := Prod.mk.inj (qr3)
         obtain ⟨q5, qr5⟩ := Prod.mk.inj (qr4)
         obtain ⟨q6, qr6⟩ := Prod.mk.inj (qr5)
         obtain ⟨q7, qr7⟩ := Prod.mk.inj (qr6)
         have q8 := qr7
         subst q0
         subst q1
         subst q2
         subst q3
         subst q4
         subst q5
         subst q6
         subst q7
         subst q8
         exact nj _ _ ⟨(hs.conv rfl), exg (by kernel_rfl)⟩
        | false =>
         have h := of_if_f h
         refine wpS.take 4 true (some 29) (.bool false) (by kernel_rfl) (yld_load1 (e := 4) (o := 9) hs 5 rfl (by kernel_rfl) (by kernel_rfl) (by rfl) .grow) ?_
         refine wpS.ps [(5, 30, .bool false), (6, 31, .bool y21), (7, 32, .bool (!y21)), (8, 33, .bool (!y21)), (9, 34, .pointer (some ⟨b6, 0, none⟩)), (10, 35, .pointer (some ⟨b6, 9, none⟩))] (by kernel_rfl) ?_
         obtain ⟨x48, hx, h⟩ := of_bind h
         refine wpS.only 11 (op_store1 (t := 4) (o := 9) (v := .bool x48) (d := none) (by kernel_rfl) hs 5 rfl (by cases hx; kernel_rfl) rfl (by kernel_rfl) (by simp) ?_)
         intro w kp hs
         refine ⟨fun _ => trivial, ?_⟩
         refine wpS.fin rfl (kr76 _ _ ?_)
         obtain ⟨q0, qr0⟩ := Prod.mk.inj (of_some h)
         obtain ⟨q1, qr1⟩ := Prod.mk.inj (qr0)
         obtain ⟨q2, qr2⟩ := Prod.mk.inj (qr1)
         obtain ⟨q3, qr3⟩ := Prod.mk.inj (qr2)
         obtain ⟨q4, qr4⟩ := Prod.mk.inj (qr3)
         obtain ⟨q5, qr5⟩ := Prod.mk.inj (qr4)
         obtain ⟨q6, qr6⟩ := Prod.mk.inj (qr5)
         obtain ⟨q7, qr7⟩ := Prod.mk.inj (qr6)
         have q8 := qr7
         subst q0
         subst q1
         subst q2
         subst q3
         subst q4
         subst q5
         subst q6
         subst q7
         subst q8
         exact nj _ _ ⟨(hs.conv rfl), exg (by kernel_rfl)⟩
       ·clear hj hs
        rintro a w ⟨hs, g, rfl⟩
        refine then_n (ks75 _ _ ?_)
        refine wp_regS (l := [0, 1, 2, 3, 4]) (by kernel_rfl) (by kernel_rfl) fun KR77 kr77 => ?_
        refine wpS.p 0 36 (.slice z13_A z13_n z13_c) (by kernel_rfl) ?_
        refine wpS.take 1 true (some 37) (.agg (enc .i32 y20).toArray) (by kernel_rfl) (yld_loadW (e := 40) (n := 256) hs 0 rfl (by kernel_rfl) (by kernel_rfl) (by kernel_rfl) (by exact enc_len _ _) .grow) ?_
        refine wpS.only 2 (op_litL (C := (CA .i32 256 (by decide))) (t := 25) (e := 40) (len := 1) (parts := #[(0, .agg (enc .i32 y20).toArray)]) (l := [y20]) (d := (some 38)) (by kernel_rfl) hs (by kernel_rfl) rfl (by kernel_rfl) (by kernel_rfl) (z := .agg (enc .i32 (zeroA 256)).toArray) (by kernel_rfl) rfl (by decide) (by decide) ?_)
        intro s49_A s49_n s49_c w gw hs
        refine ⟨fun _ => trivial, ?_⟩
        obtain ⟨h0, h⟩ := of_chk h
        refine wpS.only 3 (op_appendT (C := (CA .i32 256 (by decide))) (t := 25) (ty := 25) (e := 40) (bytes := 1024) (B := 137438953472) (d := (some 39)) (by kernel_rfl) hs 2 rfl (hs.rowL 0 rfl) (by kernel_rfl) (by kernel_rfl) (by kernel_rfl) (by kernel_rfl) (by kernel_rfl) h0 (by decide) (by decide) ?_)
        intro s50_A s50_n s50_c w hs
        refine ⟨fun _ => trivial, ?_⟩
        refine wpS.p 4 7 (.slice s50_A s50_n s50_c) (by kernel_rfl) ?_
        refine wpS.fin rfl (kr77 _ _ ?_)
        refine inBlock_n ?_
        refine then_n (ks38 _ _ ?_)
        refine wp_regS (l := [0, 1]) (by kernel_rfl) (by kernel_rfl) fun KR78 kr78 => ?_
        refine wpS.ps [(0, 40, .int .i64 (iadd .i64 z12 1)), (1, 11, .int .i64 (iadd .i64 z12 1))] (by kernel_rfl) ?_
        refine wpS.fin rfl (kr78 _ _ ?_)
        exact then_n (kl0 _ _ ⟨n, Nat.lt_succ_self n, (iadd .i64 z12 1), (z13 ++ ([y20] : List (Arr 256))), y47_0_0, y47_0_1, y47_0_2, y47_0_3, y47_0_4, y47_0_5, y47_0_6, y47_0_7, y47_2, y23, s50_A, s50_n, s50_c, y23_A, y23_n, y23_c, h, ((hs.drop (.cons _ (.cons _ (.cons_cons _ (.cons_cons _ (.cons_cons _ (.cons_cons _ (.cons_cons _ (.cons_cons _ (.cons_cons _ .slnil)))))))))).pickR (pick_cons 0 rfl (pick_cons 2 rfl (pick_cons 3 rfl (pick_cons 4 rfl pick_nil))))), exg (by kernel_rfl)⟩)
     ·refine wpS.take 0 false (some 12) (.bool false) (by kernel_rfl) (yld_b (df hc) (fun _ => by kernel_rfl)) ?_
      refine wpS.fin rfl (kr36 _ _ ?_)
      refine then_n (ks35 _ _ ?_)
      refine xseq_k fun KS79 ks79 => ?_
      refine wp_cond_f (by kernel_rfl) ?_
      refine xexit ?_
      refine then_x ?_
      refine then_x ?_
      refine inBlock_hit ?_
      obtain ⟨q0, qr0⟩ := Prod.mk.inj (of_some h)
      obtain ⟨q1, qr1⟩ := Prod.mk.inj (qr0)
      obtain ⟨q2, qr2⟩ := Prod.mk.inj (qr1)
      obtain ⟨q3, qr3⟩ := Prod.mk.inj (qr2)
      obtain ⟨q4, qr4⟩ := Prod.mk.inj (qr3)
      obtain ⟨q5, qr5⟩ := Prod.mk.inj (qr4)
      obtain ⟨q6, qr6⟩ := Prod.mk.inj (qr5)
      obtain ⟨q7, qr7⟩ := Prod.mk.inj (qr6)
      obtain ⟨q8, qr8⟩ := Prod.mk.inj (qr7)
      obtain ⟨q9, qr9⟩ := Prod.mk.inj (qr8)
      have q10 := qr9
      subst q0
      subst q1
      subst q2
      subst q3
      subst q4
      subst q5
      subst q6
      subst q7
      subst q8
      subst q9
      subst q10
      exact exq_n (nn0 _ _ ⟨z13_A, z13_n, z13_c, z15_A, z15_n, z15_c, (hs.conv rfl), exg (by kernel_rfl)⟩)
   ·clear hs h hy
    rintro a w ⟨y16_A, y16_n, y16_c, y18_A, y18_n, y18_c, hs, g, rfl⟩
    have h := hk0
    refine then_n (ks32 _ _ ?_)
    refine xseq_k fun KS80 ks80 => ?_
    refine wp_regS (l := [0, 1]) (by kernel_rfl) (by kernel_rfl) fun KR81 kr81 => ?_
    refine wpS.ps [(0, 41, .slice y16_A y16_n y16_c), (1, 6, .slice y16_A y16_n y16_c)] (by kernel_rfl) ?_
    refine wpS.fin rfl (kr81 _ _ ?_)
    refine then_n (ks80 _ _ ?_)
    refine xret ?_
    refine qq27 _ _ (post_ret (by kernel_rfl) (run_results [.tmp 6] [.slice y16_A y16_n y16_c] (by kernel_rfl) (.cons (res_tmp (by kernel_rfl)) .nil)) ?_)
    refine kI27 _ _ ?_
    refine ⟨⟨fun hf => absurd hf (by decide), .all _ _⟩, ?_⟩
    refine wpG.p 19 59 (.pointer (some ⟨b7, 1, none⟩)) (by kernel_rfl) (by kernel_rfl) ?_
    refine wpG.only 20 (by kernel_rfl) (op_store1 (t := 25) (o := 1) (v := .slice y16_A y16_n y16_c) (d := none) (by kernel_rfl) hs 3 rfl (by kernel_rfl) rfl (by kernel_rfl) (by simp) ?_)
    intro w kp hs
    refine ⟨⟨fun hf => absurd hf (by decide), .all _ _⟩, ?_⟩
    refine wpG.fin (by kernel_rfl) rfl (kr26 _ _ ?_)
    refine then_n (ks25 _ _ ?_)
    refine xseq_k fun KS82 ks82 => ?_
    refine wp_regG [] (fun k => True) 20 (by kernel_rfl) (by kernel_rfl) (by kernel_rfl) fun KR83 kr83 => ?_
    have hs := hs.drawn1
    refine wpG.takeD 0 false (some 61) (.pointer (some ⟨b6, 0, none⟩)) (by kernel_rfl) (by kernel_rfl) (yld fun _ => by kernel_rfl) ?_
    refine wpG.takeD 1 false (some 62) (.pointer (some ⟨b6, 0, none⟩)) (by kernel_rfl) (by kernel_rfl) (yld fun _ => by kernel_rfl) ?_
    refine wpG.takeD 2 false (some 63) (.pointer (some ⟨b6, 8, none⟩)) (by kernel_rfl) (by kernel_rfl) (yld fun _ => by kernel_rfl) ?_
    refine wpG.takeD 3 true (some 64) (.slice y18_A y18_n y18_c) (by kernel_rfl) (by kernel_rfl) (yld_load1 (e := 24) (o := 8) hs 4 rfl (by kernel_rfl) (by kernel_rfl) (by rfl) .grow) ?_
    refine wpG.takeD 4 false (some 65) (.pointer (some ⟨b6, 0, none⟩)) (by kernel_rfl) (by kernel_rfl) (yld fun _ => by kernel_rfl) ?_
    refine wpG.takeD 5 false (some 66) (.pointer (some ⟨b6, 0, none⟩)) (by kernel_rfl) (by kernel_rfl) (yld fun _ => by kernel_rfl) ?_
    refine wpG.takeD 6 false (some 67) (.pointer (some ⟨b6, 0, none⟩)) (by kernel_rfl) (by kernel_rfl) (yld fun _ => by kernel_rfl) ?_
    refine wpG.takeD 7 false (some 68) (.pointer (some ⟨b6, 0, none⟩)) (by kernel_rfl) (by kernel_rfl) (yld fun _ => by kernel_rfl) ?_
    refine wpG.takeD 8 true (some 69) (.int .i64 y17_0_0) (by kernel_rfl) (by kernel_rfl) (yld_load1 (e := 3) (o := 0) hs 4 rfl (by kernel_rfl) (by kernel_rfl) (by rfl) .grow) ?_
    refine wpG.takeD 9 false (some 70) (.pointer (some ⟨b6, 0, none⟩)) (by kernel_rfl) (by kernel_rfl) (yld fun _ => by kernel_rfl) ?_
    refine wpG.takeD 10 false (some 71) (.pointer (some ⟨b6, 0, none⟩)) (by kernel_rfl) (by kernel_rfl) (yld fun _ => by kernel_rfl) ?_
    refine wpG.takeD 11 false (some 72) (.pointer (some ⟨b6, 0, none⟩)) (by kernel_rfl) (by kernel_rfl) (yld fun _ => by kernel_rfl) ?_
    refine wpG.takeD 12 false (some 73) (.pointer (some ⟨b6, 6, none⟩)) (by kernel_rfl) (by kernel_rfl) (yld fun _ => by kernel_rfl) ?_
    refine wpG.takeD 13 true (some 74) (.int .i64 y17_0_6) (by kernel_rfl) (by kernel_rfl) (yld_load1 (e := 3) (o := 6) hs 4 rfl (by kernel_rfl) (by kernel_rfl) (by rfl) .grow) ?_
    obtain ⟨⟨r51, r52⟩, hg, h⟩ := of_bind h
    refine wpG.only 14 (by kernel_rfl) (op_callH (d := (some 75)) (by kernel_rfl) hs (fun _ => by kernel_rfl) (dpack_Unhints.ok hg _ (hs.rowR 0 rfl)) ?_)
    rintro ⟨r51_A, r51_n, r51_c⟩ w gw hs
    have hs := hs.conv (L' := [.ownL (CA .i32 256 (by decide)) r51_A r51_n r51_c r51 40, .ownL (CA .i32 256 (by decide)) y16_A y16_n y16_c y16 40, .blk b11 ([.int .i32 (isub .i32 a0_4 1), .int .i32 a0_4]) 73, .ownL (CI .u8) r10_A r10_n r10_c r10 5, .blk b7 ([.slice r10_A r10_n r10_c, .slice y16_A y16_n y16_c, .slice none 0 0]) 31, .blk b6 ([.int .i64 y17_0_0, .int .i64 y17_0_1, .int .i32 y17_0_2, .int .i64 y17_0_3, .int .i32 y17_0_4, .int .i32 y17_0_5, .int .i64 y17_0_6, .int .i64 y17_0_7, .slice y18_A y18_n y18_c, .bool y17_2]) 96, .blk b2 ([.slice none 0 0, .slice none 0 0, .slice none 0 0]) 31, .blk b1 ([.int .i64 a0_0, .int .i64 a0_1, .int .i32 a0_2, .int .i64 a0_3, .int .i32 a0_4, .int .i32 a0_5, .int .i64 a0_6, .int .i64 a0_7]) 23]) rfl
    refine ⟨.of gw, ?_⟩
    refine wpG.p 15 60 (.tuple #[.slice r51_A r51_n r51_c, .bool r52]) (by kernel_rfl) (by kernel_rfl) ?_
    refine wpG.p 16 76 (.slice r51_A r51_n r51_c) (by kernel_rfl) (by kernel_rfl) ?_
    cases r52 with
    | true =>
     have h := of_if_t h
     refine wpG.p 17 77 (.bool true) (by kernel_rfl) (by kernel_rfl) ?_
     refine wpG.p 18 11 (.slice r51_A r51_n r51_c) (by kernel_rfl) (by kernel_rfl) ?_
     refine wpG.p 19 12 (.bool true) (by kernel_rfl) (by kernel_rfl) ?_
     refine wpG.fin (by kernel_rfl) rfl (kr83 _ _ ?_)
     refine then_n (ks82 _ _ ?_)
     refine xseq_k fun KS84 ks84 => ?_
     refine xseq_k fun KS85 ks85 => ?_
     refine wp_regS (l := [0, 1]) (by kernel_rfl) (by kernel_rfl) fun KR86 kr86 => ?_
     refine wpS.ps [(0, 78, .bool true), (1, 79, .bool false)] (by kernel_rfl) ?_
     refine wpS.fin rfl (kr86 _ _ ?_)
     refine then_n (ks85 _ _ ?_)
     refine wp_cond_f (by kernel_rfl) ?_
     refine xskip ?_
     refine then_n (ks84 _ _ ?_)
     refine xseq_k fun KS87 ks87 => ?_
     refine wp_regS (l := [0, 1, 2]) (by kernel_rfl) (by kernel_rfl) fun KR88 kr88 => ?_
     refine wpS.ps [(0, 81, .slice r51_A r51_n r51_c), (1, 82, .pointer (some ⟨b7, 2, none⟩))] (by kernel_rfl) ?_
     refine wpS.only 2 (op_store1 (t := 25) (o := 2) (v := .slice r51_A r51_n r51_c) (d := none) (by kernel_rfl) hs 4 rfl (by kernel_rfl) rfl (by kernel_rfl) (by simp) ?_)
     intro w kp hs
     refine ⟨fun _ => trivial, ?_⟩
     refine wpS.fin rfl (kr88 _ _ ?_)
     refine then_n (ks87 _ _ ?_)
     refine xseq_k fun KS89 ks89 => ?_
     refine wp_regS (l := [0, 1, 2]) (by kernel_rfl) (by kernel_rfl) fun KR90 kr90 => ?_
     refine wpS.take 0 true (some 83) (.agg #[.slice r10_A r10_n r10_c, .slice y16_A y16_n y16_c, .slice r51_A r51_n r51_c]) (by kernel_rfl) (yld_loadW (e := 31) (n := 3) hs 4 rfl (by kernel_rfl) (by kernel_rfl) (by kernel_rfl) (by simp [enc_len]) .grow) ?_
     refine wpS.only 1 (op_storeW (t := 31) (v := .agg #[.slice r10_A r10_n r10_c, .slice y16_A y16_n y16_c, .slice r51_A r51_n r51_c]) (d := none) (by kernel_rfl) hs 6 rfl (vs := [.slice r10_A r10_n r10_c, .slice y16_A y16_n y16_c, .slice r51_A r51_n r51_c]) (n := 3) (by kernel_rfl) (by kernel_rfl) (by kernel_rfl) (by simp [enc_len]) (by simp [enc_len]) (by simp [Value.oneCell']) ?_)
     intro w kp hs
     refine ⟨fun _ => trivial, ?_⟩
     refine wpS.p 2 5 (.bool true) (by kernel_rfl) ?_
     refine wpS.fin rfl (kr90 _ _ ?_)
     refine then_n (ks89 _ _ ?_)
     refine xret ?_
     obtain ⟨q0, qr0⟩ := Prod.mk.inj (of_some h)
     obtain ⟨q1, qr1⟩ := Prod.mk.inj (qr0)
     obtain ⟨q2, qr2⟩ := Prod.mk.inj (qr1)
     have q3 := qr2
     subst q0
     subst q1
     subst q2
     subst q3
     have hs := (hs.front 0 rfl).conv (L' := [.ownL (CA .i32 256 (by decide)) r51_A r51_n r51_c r51 40, .ownL (CA .i32 256 (by decide)) y16_A y16_n y16_c y16 40, .blk b11 ([.int .i32 (isub .i32 a0_4 1), .int .i32 a0_4]) 73, .ownL (CI .u8) r10_A r10_n r10_c r10 5, .blk b7 ([.slice r10_A r10_n r10_c, .slice y16_A y16_n y16_c, .slice r51_A r51_n r51_c]) 31, .blk b6 ([.int .i64 y17_0_0, .int .i64 y17_0_1, .int .i32 y17_0_2, .int .i64 y17_0_3, .int .i32 y17_0_4, .int .i32 y17_0_5, .int .i64 y17_0_6, .int .i64 y17_0_7, .slice y18_A y18_n y18_c, .bool y17_2]) 96, .blk b2 ([.slice r10_A r10_n r10_c, .slice y16_A y16_n y16_c, .slice r51_A r51_n r51_c]) 31, .blk b1 ([.int .i64 a0_0, .int .i64 a0_1, .int .i32 a0_2, .int .i64 a0_3, .int .i32 a0_4, .int .i32 a0_5, .int .i64 a0_6, .int .i64 a0_7]) 23]) rfl
     have hs := (hs.front 1 rfl).conv (L' := [.ownL (CA .i32 256 (by decide)) y16_A y16_n y16_c y16 40, .ownL (CA .i32 256 (by decide)) r51_A r51_n r51_c r51 40, .blk b11 ([.int .i32 (isub .i32 a0_4 1), .int .i32 a0_4]) 73, .ownL (CI .u8) r10_A r10_n r10_c r10 5, .blk b7 ([.slice r10_A r10_n r10_c, .slice y16_A y16_n y16_c, .slice r51_A r51_n r51_c]) 31, .blk b6 ([.int .i64 y17_0_0, .int .i64 y17_0_1, .int .i32 y17_0_2, .int .i64 y17_0_3, .int .i32 y17_0_4, .int .i32 y17_0_5, .int .i64 y17_0_6, .int .i64 y17_0_7, .slice y18_A y18_n y18_c, .bool y17_2]) 96, .blk b2 ([.slice r10_A r10_n r10_c, .slice y16_A y16_n y16_c, .slice r51_A r51_n r51_c]) 31, .blk b1 ([.int .i64 a0_0, .int .i64 a0_1, .int .i32 a0_2, .int .i64 a0_3, .int .i32 a0_4, .int .i32 a0_5, .int .i64 a0_6, .int .i64 a0_7]) 23]) rfl
     have hs := (hs.front 3 rfl).conv (L' := [.ownL (CI .u8) r10_A r10_n r10_c r10 5, .ownL (CA .i32 256 (by decide)) y16_A y16_n y16_c y16 40, .ownL (CA .i32 256 (by decide)) r51_A r51_n r51_c r51 40, .blk b11 ([.int .i32 (isub .i32 a0_4 1), .int .i32 a0_4]) 73, .blk b7 ([.slice r10_A r10_n r10_c, .slice y16_A y16_n y16_c, .slice r51_A r51_n r51_c]) 31, .blk b6 ([.int .i64 y17_0_0, .int .i64 y17_0_1, .int .i32 y17_0_2, .int .i64 y17_0_3, .int .i32 y17_0_4, .int .i32 y17_0_5, .int .i64 y17_0_6, .int .i64 y17_0_7, .slice y18_A y18_n y18_c, .bool y17_2]) 96, .blk b2 ([.slice r10_A r10_n r10_c, .slice y16_A y16_n y16_c, .slice r51_A r51_n r51_c]) 31, .blk b1 ([.int .i64 a0_0, .int .i64 a0_1, .int .i32 a0_2, .int .i64 a0_3, .int .i32 a0_4, .int .i32 a0_5, .int .i64 a0_6, .int .i64 a0_7]) 23]) rfl
     exact qq _ _ (post_ret (by kernel_rfl) (run_results [.cell 4 31, .tmp 5] [.agg #[.slice r10_A r10_n r10_c, .slice y16_A y16_n y16_c, .slice r51_A r51_n r51_c], .bool true] (by kernel_rfl) (.cons (res_cellN (n := 3) hs 6 rfl (by kernel_rfl) (by kernel_rfl) (by kernel_rfl) (by simp [enc_len])) (.cons (res_tmp (by kernel_rfl)) .nil))) ⟨⟨⟨r10_A, r10_n, r10_c⟩, ⟨y16_A, y16_n, y16_c⟩, ⟨r51_A, r51_n, r51_c⟩⟩, congrArg Ending.returned (by kernel_rfl), ((hs.drop (.cons_cons _ (.cons_cons _ (.cons_cons _ (.cons _ (.cons _ (.cons _ (.cons _ (.cons _ .slnil))))))))).pickR pick_nil)⟩)
    | false =>
     have h := of_if_f h
     refine wpG.p 17 77 (.bool false) (by kernel_rfl) (by kernel_rfl) ?_
     refine wpG.p 18 11 (.slice r51_A r51_n r51_c) (by kernel_rfl) (by kernel_rfl) ?_
     refine wpG.p 19 12 (.bool false) (by kernel_rfl) (by kernel_rfl) ?_
     refine wpG.fin (by kernel_rfl) rfl (kr83 _ _ ?_)
     refine then_n (ks82 _ _ ?_)
     refine xseq_k fun KS91 ks91 => ?_
     refine xseq_k fun KS92 ks92 => ?_
     refine wp_regS (l := [0, 1]) (by kernel_rfl) (by kernel_rfl) fun KR93 kr93 => ?_
     refine wpS.ps [(0, 78, .bool false), (1, 79, .bool true)] (by kernel_rfl) ?_
     refine wpS.fin rfl (kr93 _ _ ?_)
     refine then_n (ks92 _ _ ?_)
     refine wp_cond_t (by kernel_rfl) ?_
     refine xseq_k fun KS94 ks94 => ?_
     refine wp_regS (l := [0, 1, 2]) (by kernel_rfl) (by kernel_rfl) fun KR95 kr95 => ?_
     refine wpS.p 0 80 (.agg #[.slice none 0 0, .slice none 0 0, .slice none 0 0]) (by kernel_rfl) ?_
     refine wpS.only 1 (op_storeW (t := 31) (v := .agg #[.slice none 0 0, .slice none 0 0, .slice none 0 0]) (d := none) (by kernel_rfl) hs 6 rfl (vs := [.slice none 0 0, .slice none 0 0, .slice none 0 0]) (n := 3) (by kernel_rfl) (by kernel_rfl) (by kernel_rfl) (by simp [enc_len]) (by simp [enc_len]) (by simp [Value.oneCell']) ?_)
     intro w kp hs
     refine ⟨fun _ => trivial, ?_⟩
     refine wpS.p 2 5 (.bool false) (by kernel_rfl) ?_
     refine wpS.fin rfl (kr95 _ _ ?_)
     refine then_n (ks94 _ _ ?_)
     refine xret ?_
     refine then_r ?_
     obtain ⟨q0, qr0⟩ := Prod.mk.inj (of_some h)
     obtain ⟨q1, qr1⟩ := Prod.mk.inj (qr0)
     obtain ⟨q2, qr2⟩ := Prod.mk.inj (qr1)
     have q3 := qr2
     subst q0
     subst q1
     subst q2
     subst q3
     have hs := hs.addNilL (CA .i32 256 (by decide)) 40
     have hs := hs.addNilL (CA .i32 256 (by decide)) 40
     have hs := hs.addNilL (CI .u8) 5
     exact qq _ _ (post_ret (by kernel_rfl) (run_results [.cell 4 31, .tmp 5] [.agg #[.slice none 0 0, .slice none 0 0, .slice none 0 0], .bool false] (by kernel_rfl) (.cons (res_cellN (n := 3) hs 9 rfl (by kernel_rfl) (by kernel_rfl) (by kernel_rfl) (by simp [enc_len])) (.cons (res_tmp (by kernel_rfl)) .nil))) ⟨⟨⟨none, 0, 0⟩, ⟨none, 0, 0⟩, ⟨none, 0, 0⟩⟩, congrArg Ending.returned (by kernel_rfl), ((hs.drop (.cons_cons _ (.cons_cons _ (.cons_cons _ (.cons _ (.cons _ (.cons _ (.cons _ (.cons _ (.cons _ (.cons _ (.cons _ .slnil)))))))))))).pickR pick_nil)⟩)
  ·refine wpS.take 6 false (some 25) (.bool true) (by kernel_rfl) (yld_b (nt hc) (fun _ => by kernel_rfl)) ?_
   refine wpS.p 7 26 (.bool true) (by kernel_rfl) ?_
   refine wpS.fin rfl (kr7 _ _ ?_)
   refine then_n (ks6 _ _ ?_)
   refine wp_cond_t (by kernel_rfl) ?_
   refine xseq_k fun KS96 ks96 => ?_
   refine wp_regS (l := [0, 1, 2]) (by kernel_rfl) (by kernel_rfl) fun KR97 kr97 => ?_
   refine wpS.p 0 27 (.agg #[.slice none 0 0, .slice none 0 0, .slice none 0 0]) (by kernel_rfl) ?_
   refine wpS.only 1 (op_storeW (t := 31) (v := .agg #[.slice none 0 0, .slice none 0 0, .slice none 0 0]) (d := none) (by kernel_rfl) hs 0 rfl (vs := [.slice none 0 0, .slice none 0 0, .slice none 0 0]) (n := 3) (by kernel_rfl) (by kernel_rfl) (by kernel_rfl) (by simp [enc_len]) (by simp [enc_len]) (by simp [Value.oneCell']) ?_)
   intro w kp hs
   refine ⟨fun _ => trivial, ?_⟩
   refine wpS.p 2 5 (.bool false) (by kernel_rfl) ?_
   refine wpS.fin rfl (kr97 _ _ ?_)
   refine then_n (ks96 _ _ ?_)
   refine xret ?_
   refine then_r ?_
   obtain ⟨q0, qr0⟩ := Prod.mk.inj (of_some h)
   obtain ⟨q1, qr1⟩ := Prod.mk.inj (qr0)
   obtain ⟨q2, qr2⟩ := Prod.mk.inj (qr1)
   have q3 := qr2
   subst q0
   subst q1
   subst q2
   subst q3
   have hs := hs.addNilL (CA .i32 256 (by decide)) 40
   have hs := hs.addNilL (CA .i32 256 (by decide)) 40
   have hs := hs.addNilL (CI .u8) 5
   exact qq _ _ (post_ret (by kernel_rfl) (run_results [.cell 4 31, .tmp 5] [.agg #[.slice none 0 0, .slice none 0 0, .slice none 0 0], .bool false] (by kernel_rfl) (.cons (res_cellN (n := 3) hs 3 rfl (by kernel_rfl) (by kernel_rfl) (by kernel_rfl) (by simp [enc_len])) (.cons (res_tmp (by kernel_rfl)) .nil))) ⟨⟨⟨none, 0, 0⟩, ⟨none, 0, 0⟩, ⟨none, 0, 0⟩⟩, congrArg Ending.returned (by kernel_rfl), ((hs.drop (.cons_cons _ (.cons_cons _ (.cons_cons _ (.cons _ (.cons _ .slnil)))))).pickR pick_nil)⟩)
end Go.Proofs.Ytblploekkjeolaa
