/- Printed by this work's own program: the code of each function below comes to the answer that its plain form tells. -/
import Derived.Test.YtblploekkjeolaaMv
import Derived.Test.YtblploekkjeolaaProg
import Derived.Test.YtblploekkjeolaaDF0
import Derived.Test.YtblploekkjeolaaDX0
import Derived.Test.YtblploekkjeolaaDX1
import Derived.Test.YtblploekkjeolaaDX4
import Derived.Test.YtblploekkjeolaaDX5
set_option linter.unusedVariables false
set_option linter.unusedSimpArgs false
set_option maxRecDepth 100000
set_option maxHeartbeats 4000000
namespace Go.Proofs.Ytblploekkjeolaa
open Go.Mx
attribute [local irreducible] wpOp

theorem dpack_UnPrivate.ok {K : Nat} {a0_0 : Int} {a0_1 : Int} {a0_2 : Int} {a0_3 : Int} {a0_4 : Int} {a0_5 : Int} {a0_6 : Int} {a0_7 : Int} {a1 : List Int} {r0_0 : List Int} {r0_1 : List Int} {r0_2 : List Int} {r0_3 : List (Arr 256)} {r0_4 : List (Arr 256)} {r0_5 : List (Arr 256)} {r1 : Bool} {a1_A : Option Addr} {a1_n : Nat} {a1_c : Nat} (h : dpack_UnPrivate.f K a0_0 a0_1 a0_2 a0_3 a0_4 a0_5 a0_6 a0_7 a1 = some (r0_0, r0_1, r0_2, r0_3, r0_4, r0_5, r1)) (w0 : World) (hp1 : RowL (CI .u8) w0 a1_A a1_n a1_c a1) : Calls Try.prog 31 #[.agg #[.int .i64 a0_0, .int .i64 a0_1, .int .i32 a0_2, .int .i64 a0_3, .int .i32 a0_4, .int .i32 a0_5, .int .i64 a0_6, .int .i64 a0_7], .slice a1_A a1_n a1_c] w0 fun e w' => ∃ h : (Option Addr × Nat × Nat) × (Option Addr × Nat × Nat) × (Option Addr × Nat × Nat) × (Option Addr × Nat × Nat) × (Option Addr × Nat × Nat) × (Option Addr × Nat × Nat), e = .returned (.tuple #[.agg #[.slice h.1.1 h.1.2.1 h.1.2.2, .slice h.2.1.1 h.2.1.2.1 h.2.1.2.2, .slice h.2.2.1.1 h.2.2.1.2.1 h.2.2.1.2.2, .slice h.2.2.2.1.1 h.2.2.2.1.2.1 h.2.2.2.1.2.2, .slice h.2.2.2.2.1.1 h.2.2.2.2.1.2.1 h.2.2.2.2.1.2.2, .slice h.2.2.2.2.2.1 h.2.2.2.2.2.2.1 h.2.2.2.2.2.2.2], .bool r1]) ∧ St w0 [] [.ownL (CI .u8) h.1.1 h.1.2.1 h.1.2.2 r0_0 5, .ownL (CI .u8) h.2.1.1 h.2.1.2.1 h.2.1.2.2 r0_1 5, .ownL (CI .u8) h.2.2.1.1 h.2.2.1.2.1 h.2.2.1.2.2 r0_2 5, .ownL (CA .i32 256 (by decide)) h.2.2.2.1.1 h.2.2.2.1.2.1 h.2.2.2.1.2.2 r0_3 40, .ownL (CA .i32 256 (by decide)) h.2.2.2.2.1.1 h.2.2.2.2.1.2.1 h.2.2.2.2.1.2.2 r0_4 40, .ownL (CA .i32 256 (by decide)) h.2.2.2.2.2.1 h.2.2.2.2.2.2.1 h.2.2.2.2.2.2.2 r0_5 40] [] w' := by
 refine calls_k Try.func31 rfl fun Q qq => ?_
 have hs := St.startR (all_cons (RowP.ent hp1) all_nil)
 refine wp_conv (a' := ⟨#[.agg #[.int .i64 a0_0, .int .i64 a0_1, .int .i32 a0_2, .int .i64 a0_3, .int .i32 a0_4, .int .i32 a0_5, .int .i64 a0_6, .int .i64 a0_7], .slice a1_A a1_n a1_c, undef, undef, undef, undef, undef, undef, undef, undef, undef, undef, undef, undef, undef, undef, undef, undef, undef, undef, undef, undef, undef, undef, undef, undef, undef, undef, undef, undef, undef, undef, undef, undef, undef, undef, undef, undef, undef, undef, undef, undef, undef, undef, undef, undef, undef, undef, undef, undef, undef, undef, undef, undef, undef, undef, undef, undef, undef, undef, undef, undef, undef, undef, undef, undef, undef, undef, undef, undef], []⟩) (by kernel_rfl) ?_
 refine xseq_k fun KS1 ks1 => ?_
 refine wp_regS (l := [0, 1, 2]) (by kernel_rfl) (by kernel_rfl) fun KR2 kr2 => ?_
 refine wpS.only 0 (op_box (t := 23) (v := .agg #[.int .i64 a0_0, .int .i64 a0_1, .int .i32 a0_2, .int .i64 a0_3, .int .i32 a0_4, .int .i32 a0_5, .int .i64 a0_6, .int .i64 a0_7]) (d := (some 2)) (by kernel_rfl) hs ([.int .i64 a0_0, .int .i64 a0_1, .int .i32 a0_2, .int .i64 a0_3, .int .i32 a0_4, .int .i32 a0_5, .int .i64 a0_6, .int .i64 a0_7]) (by kernel_rfl) (by kernel_rfl) ?_)
 intro b1 w gw hs
 refine ⟨fun _ => trivial, ?_⟩
 refine wpS.only 1 (op_alloc (t := 29) (d := (some 4)) (by kernel_rfl) hs ([.slice none 0 0, .slice none 0 0, .slice none 0 0, .slice none 0 0, .slice none 0 0, .slice none 0 0]) (.agg #[.slice none 0 0, .slice none 0 0, .slice none 0 0, .slice none 0 0, .slice none 0 0, .slice none 0 0]) (by kernel_rfl) (by kernel_rfl) (by kernel_rfl) ?_)
 intro b2 w gw hs
 refine ⟨fun _ => trivial, ?_⟩
 refine wpS.p 2 5 (.bool false) (by kernel_rfl) ?_
 refine wpS.fin rfl (kr2 _ _ ?_)
 refine then_n (ks1 _ _ ?_)
 refine xseq_k fun KS3 ks3 => ?_
 refine xseq_k fun KS4 ks4 => ?_
 refine wp_regS (l := [0, 1, 2, 3, 4, 5, 6, 7, 8]) (by kernel_rfl) (by kernel_rfl) fun KR5 kr5 => ?_
 refine wpS.take 0 true (some 12) (.agg #[.int .i64 a0_0, .int .i64 a0_1, .int .i32 a0_2, .int .i64 a0_3, .int .i32 a0_4, .int .i32 a0_5, .int .i64 a0_6, .int .i64 a0_7]) (by kernel_rfl) (yld_loadW (e := 23) (n := 8) hs 1 rfl (by kernel_rfl) (by kernel_rfl) (by kernel_rfl) (by simp [enc_len]) .grow) ?_
 obtain ⟨⟨r3, r4, r5⟩, hg, h⟩ := of_bind h
 refine wpS.only 1 (op_call (d := (some 13)) (by kernel_rfl) hs (fun _ => by kernel_rfl) (dpack_Sizes.ok hg _) ?_)
 intro w gw hs
 refine ⟨fun _ => trivial, ?_⟩
 refine wpS.ps [(2, 11, .tuple #[.int .i64 r3, .int .i64 r4, .int .i64 r5]), (3, 14, .int .i64 r3), (4, 15, .int .i64 r4), (5, 16, .int .i64 r5), (6, 6, .int .i64 r3), (7, 7, .int .i64 r4), (8, 8, .int .i64 r5)] (by kernel_rfl) ?_
 refine wpS.fin rfl (kr5 _ _ ?_)
 refine then_n (ks4 _ _ ?_)
 refine xseq_k fun KS6 ks6 => ?_
 refine wp_regS (l := [0, 1, 2, 3, 4, 5, 6, 7]) (by kernel_rfl) (by kernel_rfl) fun KR7 kr7 => ?_
 refine wpS.p 0 17 (.int .i64 r4) (by kernel_rfl) ?_
 rcases of_if h with ⟨hc, h⟩ | ⟨hc, h⟩
 ·refine wpS.take 1 false (some 18) (.bool true) (by kernel_rfl) (yld_b (et hc) (fun _ => by kernel_rfl)) ?_
  refine wpS.ps [(2, 19, .bool true), (3, 20, undef), (4, 21, undef), (5, 22, undef), (6, 23, undef), (7, 24, .bool true)] (by kernel_rfl) ?_
  refine wpS.fin rfl (kr7 _ _ ?_)
  refine then_n (ks6 _ _ ?_)
  refine wp_cond_t (by kernel_rfl) ?_
  refine xseq_k fun KS8 ks8 => ?_
  refine wp_regS (l := [0, 1, 2]) (by kernel_rfl) (by kernel_rfl) fun KR9 kr9 => ?_
  refine wpS.p 0 25 (.agg #[.slice none 0 0, .slice none 0 0, .slice none 0 0, .slice none 0 0, .slice none 0 0, .slice none 0 0]) (by kernel_rfl) ?_
  refine wpS.only 1 (op_storeW (t := 29) (v := .agg #[.slice none 0 0, .slice none 0 0, .slice none 0 0, .slice none 0 0, .slice none 0 0, .slice none 0 0]) (d := none) (by kernel_rfl) hs 0 rfl (vs := [.slice none 0 0, .slice none 0 0, .slice none 0 0, .slice none 0 0, .slice none 0 0, .slice none 0 0]) (n := 6) (by kernel_rfl) (by kernel_rfl) (by kernel_rfl) (by simp [enc_len]) (by simp [enc_len]) (by simp [Value.oneCell']) ?_)
  intro w kp hs
  refine ⟨fun _ => trivial, ?_⟩
  refine wpS.p 2 5 (.bool false) (by kernel_rfl) ?_
  refine wpS.fin rfl (kr9 _ _ ?_)
  refine then_n (ks8 _ _ ?_)
  refine xret ?_
  refine then_r ?_
  obtain ⟨q0, qr0⟩ := Prod.mk.inj (of_some h)
  obtain ⟨q1, qr1⟩ := Prod.mk.inj (qr0)
  obtain ⟨q2, qr2⟩ := Prod.mk.inj (qr1)
  obtain ⟨q3, qr3⟩ := Prod.mk.inj (qr2)
  obtain ⟨q4, qr4⟩ := Prod.mk.inj (qr3)
  obtain ⟨q5, qr5⟩ := Prod.mk.inj (qr4)
  have q6 := qr5
  subst q0
  subst q1
  subst q2
  subst q3
  subst q4
  subst q5
  subst q6
  have hs := hs.addNilL (CA .i32 256 (by decide)) 40
  have hs := hs.addNilL (CA .i32 256 (by decide)) 40
  have hs := hs.addNilL (CA .i32 256 (by decide)) 40
  have hs := hs.addNilL (CI .u8) 5
  have hs := hs.addNilL (CI .u8) 5
  have hs := hs.addNilL (CI .u8) 5
  exact qq _ _ (post_ret (by kernel_rfl) (run_results [.cell 4 29, .tmp 5] [.agg #[.slice none 0 0, .slice none 0 0, .slice none 0 0, .slice none 0 0, .slice none 0 0, .slice none 0 0], .bool false] (by kernel_rfl) (.cons (res_cellN (n := 6) hs 6 rfl (by kernel_rfl) (by kernel_rfl) (by kernel_rfl) (by simp [enc_len])) (.cons (res_tmp (by kernel_rfl)) .nil))) ⟨⟨⟨none, 0, 0⟩, ⟨none, 0, 0⟩, ⟨none, 0, 0⟩, ⟨none, 0, 0⟩, ⟨none, 0, 0⟩, ⟨none, 0, 0⟩⟩, congrArg Ending.returned (by kernel_rfl), ((hs.drop (.cons_cons _ (.cons_cons _ (.cons_cons _ (.cons_cons _ (.cons_cons _ (.cons_cons _ (.cons _ (.cons _ .slnil))))))))).pickR pick_nil)⟩)
 ·refine wpS.take 1 false (some 18) (.bool false) (by kernel_rfl) (yld_b (ef hc) (fun _ => by kernel_rfl)) ?_
  refine wpS.ps [(2, 19, .bool false), (3, 20, .slice a1_A a1_n a1_c)] (by kernel_rfl) ?_
  refine wpS.take 4 false (some 21) (.int .i64 (a1.length : Int)) (by kernel_rfl) (yld_lenL (hs.rowR 0 rfl) (fun _ => by kernel_rfl)) ?_
  refine wpS.p 5 22 (.int .i64 r4) (by kernel_rfl) ?_
  rcases of_if h with ⟨hc, h⟩ | ⟨hc, h⟩
  ·refine wpS.take 6 false (some 23) (.bool false) (by kernel_rfl) (yld_b (nf hc) (fun _ => by kernel_rfl)) ?_
   refine wpS.p 7 24 (.bool false) (by kernel_rfl) ?_
   refine wpS.fin rfl (kr7 _ _ ?_)
   refine then_n (ks6 _ _ ?_)
   refine wp_cond_f (by kernel_rfl) ?_
   refine xskip ?_
   refine then_n (ks3 _ _ ?_)
   refine xseq_k fun KS10 ks10 => ?_
   refine wp_regS (l := [0, 1, 2, 3, 4]) (by kernel_rfl) (by kernel_rfl) fun KR11 kr11 => ?_
   refine wpS.take 0 true (some 26) (.agg #[.int .i64 a0_0, .int .i64 a0_1, .int .i32 a0_2, .int .i64 a0_3, .int .i32 a0_4, .int .i32 a0_5, .int .i64 a0_6, .int .i64 a0_7]) (by kernel_rfl) (yld_loadW (e := 23) (n := 8) hs 1 rfl (by kernel_rfl) (by kernel_rfl) (by kernel_rfl) (by simp [enc_len]) .grow) ?_
   refine wpS.ps [(1, 27, .slice a1_A a1_n a1_c), (2, 28, .agg #[.int .i64 a0_0, .int .i64 a0_1, .int .i32 a0_2, .int .i64 a0_3, .int .i32 a0_4, .int .i32 a0_5, .int .i64 a0_6, .int .i64 a0_7, .slice a1_A a1_n a1_c, .bool false])] (by kernel_rfl) ?_
   refine wpS.only 3 (op_box (t := 96) (v := .agg #[.int .i64 a0_0, .int .i64 a0_1, .int .i32 a0_2, .int .i64 a0_3, .int .i32 a0_4, .int .i32 a0_5, .int .i64 a0_6, .int .i64 a0_7, .slice a1_A a1_n a1_c, .bool false]) (d := (some 29)) (by kernel_rfl) hs ([.int .i64 a0_0, .int .i64 a0_1, .int .i32 a0_2, .int .i64 a0_3, .int .i32 a0_4, .int .i32 a0_5, .int .i64 a0_6, .int .i64 a0_7, .slice a1_A a1_n a1_c, .bool false]) (by kernel_rfl) (by kernel_rfl) ?_)
   intro b6 w gw hs
   refine ⟨fun _ => trivial, ?_⟩
   refine wpS.p 4 9 (.pointer (some ⟨b6, 0, none⟩)) (by kernel_rfl) ?_
   refine wpS.fin rfl (kr11 _ _ ?_)
   refine then_n (ks10 _ _ ?_)
   refine xseq_k fun KS12 ks12 => ?_
   refine wp_regS (l := [0]) (by kernel_rfl) (by kernel_rfl) fun KR13 kr13 => ?_
   refine wpS.only 0 (op_alloc (t := 29) (d := (some 10)) (by kernel_rfl) hs ([.slice none 0 0, .slice none 0 0, .slice none 0 0, .slice none 0 0, .slice none 0 0, .slice none 0 0]) (.agg #[.slice none 0 0, .slice none 0 0, .slice none 0 0, .slice none 0 0, .slice none 0 0, .slice none 0 0]) (by kernel_rfl) (by kernel_rfl) (by kernel_rfl) ?_)
   intro b7 w gw hs
   refine ⟨fun _ => trivial, ?_⟩
   refine wpS.fin rfl (kr13 _ _ ?_)
   refine then_n (ks12 _ _ ?_)
   refine xseq_k fun KS14 ks14 => ?_
   refine wp_regS (l := [0, 1, 2, 3]) (by kernel_rfl) (by kernel_rfl) fun KR15 kr15 => ?_
   refine wpS.p 0 30 (.pointer (some ⟨b6, 0, none⟩)) (by kernel_rfl) ?_
   refine wpS.only 1 (op_inline (d := (some 31)) (f := 61) (args := #[.pointer (some ⟨b6, 0, none⟩), .int .i64 32]) (by kernel_rfl) (fun _ => by kernel_rfl) fun R16 kI16 => ?_)
   refine calls_k Try.func61 rfl fun Q16 qq16 => ?_
   refine wp_conv (a' := ⟨#[.pointer (some ⟨b6, 0, none⟩), .int .i64 32, undef, undef, undef, undef, undef, undef, undef, undef, undef, undef, undef, undef, undef, undef, undef, undef, undef, undef, undef, undef, undef], []⟩) (by kernel_rfl) ?_
   refine xseq_k fun KS17 ks17 => ?_
   refine wp_regS (l := [0]) (by kernel_rfl) (by kernel_rfl) fun KR18 kr18 => ?_
   refine wpS.p 0 4 (.slice none 0 0) (by kernel_rfl) ?_
   refine wpS.fin rfl (kr18 _ _ ?_)
   refine then_n (ks17 _ _ ?_)
   refine xseq_k fun KS19 ks19 => ?_
   refine wp_regS (l := [0, 1, 2, 3, 4, 5, 6]) (by kernel_rfl) (by kernel_rfl) fun KR20 kr20 => ?_
   refine wpS.ps [(0, 6, .pointer (some ⟨b6, 0, none⟩)), (1, 7, .pointer (some ⟨b6, 0, none⟩)), (2, 8, .pointer (some ⟨b6, 8, none⟩))] (by kernel_rfl) ?_
   refine wpS.take 3 true (some 9) (.slice a1_A a1_n a1_c) (by kernel_rfl) (yld_load1 (e := 24) (o := 8) hs 1 rfl (by kernel_rfl) (by kernel_rfl) (by rfl) .grow) ?_
   refine wpS.p 4 10 (.int .i64 32) (by kernel_rfl) ?_
   obtain ⟨h0, h⟩ := of_chk h
   obtain ⟨h1, h⟩ := of_chk h
   obtain ⟨h2, h⟩ := of_chk h
   obtain ⟨s8_A, hA⟩ : ∃ A, A = if a1_c = (0 : Int).toNat then a1_A else adr a1_A ((0 : Int).toNat * Cod.size (CI .u8)) := ⟨_, rfl⟩
   obtain ⟨s8_n, hn⟩ : ∃ n, n = (32 : Int).toNat - (0 : Int).toNat := ⟨_, rfl⟩
   obtain ⟨s8_c, hc⟩ : ∃ c, c = a1_c - (0 : Int).toNat := ⟨_, rfl⟩
   refine wpS.take 5 false (some 11) (.slice s8_A s8_n s8_c) (by kernel_rfl) (yld_sub (C := (CI .u8)) (t := 24) (e := 5) (low := none) (high := some (.int .i64 32)) (lo := 0) (hi := 32) (hs.rowR 0 rfl) (by kernel_rfl) (by kernel_rfl) (by kernel_rfl) (.inl ⟨rfl, rfl⟩) (.inr ⟨_, rfl⟩) h0 h1 h2 hA hn hc) ?_
   have hs := hs.addSub (C := (CI .u8)) 0 rfl h0 h1 h2 hA hn hc
   refine wpS.p 6 5 (.slice s8_A s8_n s8_c) (by kernel_rfl) ?_
   refine wpS.fin rfl (kr20 _ _ ?_)
   refine then_n (ks19 _ _ ?_)
   refine xseq_k fun KS21 ks21 => ?_
   refine wp_regS (l := [0, 1, 2, 3, 4, 5, 6, 7, 8, 9]) (by kernel_rfl) (by kernel_rfl) fun KR22 kr22 => ?_
   refine wpS.ps [(0, 12, .pointer (some ⟨b6, 0, none⟩)), (1, 13, .pointer (some ⟨b6, 0, none⟩)), (2, 14, .pointer (some ⟨b6, 0, none⟩)), (3, 15, .pointer (some ⟨b6, 8, none⟩))] (by kernel_rfl) ?_
   refine wpS.take 4 true (some 16) (.slice a1_A a1_n a1_c) (by kernel_rfl) (yld_load1 (e := 24) (o := 8) hs 1 rfl (by kernel_rfl) (by kernel_rfl) (by rfl) .grow) ?_
   refine wpS.p 5 17 (.int .i64 32) (by kernel_rfl) ?_
   obtain ⟨h0, h⟩ := of_chk h
   obtain ⟨h1, h⟩ := of_chk h
   obtain ⟨h2, h⟩ := of_chk h
   obtain ⟨s9_A, hA⟩ : ∃ A, A = if a1_c = (32 : Int).toNat then a1_A else adr a1_A ((32 : Int).toNat * Cod.size (CI .u8)) := ⟨_, rfl⟩
   obtain ⟨s9_n, hn⟩ : ∃ n, n = ((a1.length : Int) : Int).toNat - (32 : Int).toNat := ⟨_, rfl⟩
   obtain ⟨s9_c, hc⟩ : ∃ c, c = a1_c - (32 : Int).toNat := ⟨_, rfl⟩
   refine wpS.take 6 false (some 18) (.slice s9_A s9_n s9_c) (by kernel_rfl) (yld_sub (C := (CI .u8)) (t := 24) (e := 5) (low := some (.int .i64 32)) (high := none) (lo := 32) (hi := (a1.length : Int)) (hs.rowR 1 rfl) (by kernel_rfl) (by kernel_rfl) (by kernel_rfl) (.inr ⟨_, rfl⟩) (.inl ⟨rfl, rfl⟩) h0 h1 h2 hA hn hc) ?_
   have hs := hs.addSub (C := (CI .u8)) 1 rfl h0 h1 h2 hA hn hc
   refine wpS.ps [(7, 19, .pointer (some ⟨b6, 0, none⟩)), (8, 20, .pointer (some ⟨b6, 8, none⟩))] (by kernel_rfl) ?_
   refine wpS.only 9 (op_store1 (t := 24) (o := 8) (v := .slice s9_A s9_n s9_c) (d := none) (by kernel_rfl) hs 1 rfl (by kernel_rfl) rfl (by kernel_rfl) (by simp) ?_)
   intro w kp hs
   refine ⟨fun _ => trivial, ?_⟩
   refine wpS.fin rfl (kr22 _ _ ?_)
   refine then_n (ks21 _ _ ?_)
   refine xseq_k fun KS23 ks23 => ?_
   refine wp_regS (l := [0, 1, 2]) (by kernel_rfl) (by kernel_rfl) fun KR24 kr24 => ?_
   refine wpS.p 0 21 (.slice s8_A s8_n s8_c) (by kernel_rfl) ?_
   obtain ⟨r10, hg, h⟩ := of_bind h
   refine wpS.only 1 (op_callH (d := (some 22)) (by kernel_rfl) hs (fun _ => by kernel_rfl) (slices_Clone_byte_byte.ok hg _ (hs.rowR 1 rfl)) ?_)
   rintro ⟨r10_A, r10_n, r10_c⟩ w gw hs
   have hs := hs.conv (L' := [.ownL (CI .u8) r10_A r10_n r10_c r10 5, .blk b7 ([.slice none 0 0, .slice none 0 0, .slice none 0 0, .slice none 0 0, .slice none 0 0, .slice none 0 0]) 29, .blk b6 ([.int .i64 a0_0, .int .i64 a0_1, .int .i32 a0_2, .int .i64 a0_3, .int .i32 a0_4, .int .i32 a0_5, .int .i64 a0_6, .int .i64 a0_7, .slice s9_A s9_n s9_c, .bool false]) 96, .blk b2 ([.slice none 0 0, .slice none 0 0, .slice none 0 0, .slice none 0 0, .slice none 0 0, .slice none 0 0]) 29, .blk b1 ([.int .i64 a0_0, .int .i64 a0_1, .int .i32 a0_2, .int .i64 a0_3, .int .i32 a0_4, .int .i32 a0_5, .int .i64 a0_6, .int .i64 a0_7]) 23]) rfl
   refine ⟨fun _ => trivial, ?_⟩
   refine wpS.p 2 4 (.slice r10_A r10_n r10_c) (by kernel_rfl) ?_
   refine wpS.fin rfl (kr24 _ _ ?_)
   refine then_n (ks23 _ _ ?_)
   refine xret ?_
   refine qq16 _ _ (post_ret (by kernel_rfl) (run_results [.tmp 4] [.slice r10_A r10_n r10_c] (by kernel_rfl) (.cons (res_tmp (by kernel_rfl)) .nil)) ?_)
   refine kI16 _ _ ?_
   refine ⟨fun _ => trivial, ?_⟩
   refine wpS.p 2 32 (.pointer (some ⟨b7, 0, none⟩)) (by kernel_rfl) ?_
   refine wpS.only 3 (op_store1 (t := 24) (o := 0) (v := .slice r10_A r10_n r10_c) (d := none) (by kernel_rfl) hs 1 rfl (by kernel_rfl) rfl (by kernel_rfl) (by simp) ?_)
   intro w kp hs
   refine ⟨fun _ => trivial, ?_⟩
   refine wpS.fin rfl (kr15 _ _ ?_)
   refine then_n (ks14 _ _ ?_)
   refine xseq_k fun KS25 ks25 => ?_
   refine wp_regS (l := [0, 1, 2, 3]) (by kernel_rfl) (by kernel_rfl) fun KR26 kr26 => ?_
   refine wpS.p 0 33 (.pointer (some ⟨b6, 0, none⟩)) (by kernel_rfl) ?_
   refine wpS.only 1 (op_inline (d := (some 34)) (f := 61) (args := #[.pointer (some ⟨b6, 0, none⟩), .int .i64 32]) (by kernel_rfl) (fun _ => by kernel_rfl) fun R27 kI27 => ?_)
   refine calls_k Try.func61 rfl fun Q27 qq27 => ?_
   refine wp_conv (a' := ⟨#[.pointer (some ⟨b6, 0, none⟩), .int .i64 32, undef, undef, undef, undef, undef, undef, undef, undef, undef, undef, undef, undef, undef, undef, undef, undef, undef, undef, undef, undef, undef], []⟩) (by kernel_rfl) ?_
   refine xseq_k fun KS28 ks28 => ?_
   refine wp_regS (l := [0]) (by kernel_rfl) (by kernel_rfl) fun KR29 kr29 => ?_
   refine wpS.p 0 4 (.slice none 0 0) (by kernel_rfl) ?_
   refine wpS.fin rfl (kr29 _ _ ?_)
   refine then_n (ks28 _ _ ?_)
   refine xseq_k fun KS30 ks30 => ?_
   refine wp_regS (l := [0, 1, 2, 3, 4, 5, 6]) (by kernel_rfl) (by kernel_rfl) fun KR31 kr31 => ?_
   refine wpS.ps [(0, 6, .pointer (some ⟨b6, 0, none⟩)), (1, 7, .pointer (some ⟨b6, 0, none⟩)), (2, 8, .pointer (some ⟨b6, 8, none⟩))] (by kernel_rfl) ?_
   refine wpS.take 3 true (some 9) (.slice s9_A s9_n s9_c) (by kernel_rfl) (yld_load1 (e := 24) (o := 8) hs 2 rfl (by kernel_rfl) (by kernel_rfl) (by rfl) .grow) ?_
   refine wpS.p 4 10 (.int .i64 32) (by kernel_rfl) ?_
   obtain ⟨h0, h⟩ := of_chk h
   obtain ⟨h1, h⟩ := of_chk h
   obtain ⟨h2, h⟩ := of_chk h
   obtain ⟨s11_A, hA⟩ : ∃ A, A = if s9_c = (0 : Int).toNat then s9_A else adr s9_A ((0 : Int).toNat * Cod.size (CI .u8)) := ⟨_, rfl⟩
   obtain ⟨s11_n, hn⟩ : ∃ n, n = (32 : Int).toNat - (0 : Int).toNat := ⟨_, rfl⟩
   obtain ⟨s11_c, hc⟩ : ∃ c, c = s9_c - (0 : Int).toNat := ⟨_, rfl⟩
   refine wpS.take 5 false (some 11) (.slice s11_A s11_n s11_c) (by kernel_rfl) (yld_sub (C := (CI .u8)) (t := 24) (e := 5) (low := none) (high := some (.int .i64 32)) (lo := 0) (hi := 32) (hs.rowR 0 rfl) (by kernel_rfl) (by kernel_rfl) (by kernel_rfl) (.inl ⟨rfl, rfl⟩) (.inr ⟨_, rfl⟩) h0 h1 h2 hA hn hc) ?_
   have hs := hs.addSub (C := (CI .u8)) 0 rfl h0 h1 h2 hA hn hc
   refine wpS.p 6 5 (.slice s11_A s11_n s11_c) (by kernel_rfl) ?_
   refine wpS.fin rfl (kr31 _ _ ?_)
   refine then_n (ks30 _ _ ?_)
   refine xseq_k fun KS32 ks32 => ?_
   refine wp_regS (l := [0, 1, 2, 3, 4, 5, 6, 7, 8, 9]) (by kernel_rfl) (by kernel_rfl) fun KR33 kr33 => ?_
   refine wpS.ps [(0, 12, .pointer (some ⟨b6, 0, none⟩)), (1, 13, .pointer (some ⟨b6, 0, none⟩)), (2, 14, .pointer (some ⟨b6, 0, none⟩)), (3, 15, .pointer (some ⟨b6, 8, none⟩))] (by kernel_rfl) ?_
   refine wpS.take 4 true (some 16) (.slice s9_A s9_n s9_c) (by kernel_rfl) (yld_load1 (e := 24) (o := 8) hs 2 rfl (by kernel_rfl) (by kernel_rfl) (by rfl) .grow) ?_
   refine wpS.p 5 17 (.int .i64 32) (by kernel_rfl) ?_
   obtain ⟨h0, h⟩ := of_chk h
   obtain ⟨h1, h⟩ := of_chk h
   obtain ⟨h2, h⟩ := of_chk h
   obtain ⟨s12_A, hA⟩ : ∃ A, A = if s9_c = (32 : Int).toNat then s9_A else adr s9_A ((32 : Int).toNat * Cod.size (CI .u8)) := ⟨_, rfl⟩
   obtain ⟨s12_n, hn⟩ : ∃ n, n = (((subL a1 32 (a1.length : Int)).length : Int) : Int).toNat - (32 : Int).toNat := ⟨_, rfl⟩
   obtain ⟨s12_c, hc⟩ : ∃ c, c = s9_c - (32 : Int).toNat := ⟨_, rfl⟩
   refine wpS.take 6 false (some 18) (.slice s12_A s12_n s12_c) (by kernel_rfl) (yld_sub (C := (CI .u8)) (t := 24) (e := 5) (low := some (.int .i64 32)) (high := none) (lo := 32) (hi := ((subL a1 32 (a1.length : Int)).length : Int)) (hs.rowR 1 rfl) (by kernel_rfl) (by kernel_rfl) (by kernel_rfl) (.inr ⟨_, rfl⟩) (.inl ⟨rfl, rfl⟩) h0 h1 h2 hA hn hc) ?_
   have hs := hs.addSub (C := (CI .u8)) 1 rfl h0 h1 h2 hA hn hc
   refine wpS.ps [(7, 19, .pointer (some ⟨b6, 0, none⟩)), (8, 20, .pointer (some ⟨b6, 8, none⟩))] (by kernel_rfl) ?_
   refine wpS.only 9 (op_store1 (t := 24) (o := 8) (v := .slice s12_A s12_n s12_c) (d := none) (by kernel_rfl) hs 2 rfl (by kernel_rfl) rfl (by kernel_rfl) (by simp) ?_)
   intro w kp hs
   refine ⟨fun _ => trivial, ?_⟩
   refine wpS.fin rfl (kr33 _ _ ?_)
   refine then_n (ks32 _ _ ?_)
   refine xseq_k fun KS34 ks34 => ?_
   refine wp_regS (l := [0, 1, 2]) (by kernel_rfl) (by kernel_rfl) fun KR35 kr35 => ?_
   refine wpS.p 0 21 (.slice s11_A s11_n s11_c) (by kernel_rfl) ?_
   obtain ⟨r13, hg, h⟩ := of_bind h
   refine wpS.only 1 (op_callH (d := (some 22)) (by kernel_rfl) hs (fun _ => by kernel_rfl) (slices_Clone_byte_byte.ok hg _ (hs.rowR 1 rfl)) ?_)
   rintro ⟨r13_A, r13_n, r13_c⟩ w gw hs
   have hs := hs.conv (L' := [.ownL (CI .u8) r13_A r13_n r13_c r13 5, .ownL (CI .u8) r10_A r10_n r10_c r10 5, .blk b7 ([.slice r10_A r10_n r10_c, .slice none 0 0, .slice none 0 0, .slice none 0 0, .slice none 0 0, .slice none 0 0]) 29, .blk b6 ([.int .i64 a0_0, .int .i64 a0_1, .int .i32 a0_2, .int .i64 a0_3, .int .i32 a0_4, .int .i32 a0_5, .int .i64 a0_6, .int .i64 a0_7, .slice s12_A s12_n s12_c, .bool false]) 96, .blk b2 ([.slice none 0 0, .slice none 0 0, .slice none 0 0, .slice none 0 0, .slice none 0 0, .slice none 0 0]) 29, .blk b1 ([.int .i64 a0_0, .int .i64 a0_1, .int .i32 a0_2, .int .i64 a0_3, .int .i32 a0_4, .int .i32 a0_5, .int .i64 a0_6, .int .i64 a0_7]) 23]) rfl
   refine ⟨fun _ => trivial, ?_⟩
   refine wpS.p 2 4 (.slice r13_A r13_n r13_c) (by kernel_rfl) ?_
   refine wpS.fin rfl (kr35 _ _ ?_)
   refine then_n (ks34 _ _ ?_)
   refine xret ?_
   refine qq27 _ _ (post_ret (by kernel_rfl) (run_results [.tmp 4] [.slice r13_A r13_n r13_c] (by kernel_rfl) (.cons (res_tmp (by kernel_rfl)) .nil)) ?_)
   refine kI27 _ _ ?_
   refine ⟨fun _ => trivial, ?_⟩
   refine wpS.p 2 35 (.pointer (some ⟨b7, 1, none⟩)) (by kernel_rfl) ?_
   refine wpS.only 3 (op_store1 (t := 24) (o := 1) (v := .slice r13_A r13_n r13_c) (d := none) (by kernel_rfl) hs 2 rfl (by kernel_rfl) rfl (by kernel_rfl) (by simp) ?_)
   intro w kp hs
   refine ⟨fun _ => trivial, ?_⟩
   refine wpS.fin rfl (kr26 _ _ ?_)
   refine then_n (ks25 _ _ ?_)
   refine xseq_k fun KS36 ks36 => ?_
   refine wp_regS (l := [0, 1, 2, 3]) (by kernel_rfl) (by kernel_rfl) fun KR37 kr37 => ?_
   refine wpS.p 0 36 (.pointer (some ⟨b6, 0, none⟩)) (by kernel_rfl) ?_
   refine wpS.only 1 (op_inline (d := (some 37)) (f := 61) (args := #[.pointer (some ⟨b6, 0, none⟩), .int .i64 64]) (by kernel_rfl) (fun _ => by kernel_rfl) fun R38 kI38 => ?_)
   refine calls_k Try.func61 rfl fun Q38 qq38 => ?_
   refine wp_conv (a' := ⟨#[.pointer (some ⟨b6, 0, none⟩), .int .i64 64, undef, undef, undef, undef, undef, undef, undef, undef, undef, undef, undef, undef, undef, undef, undef, undef, undef, undef, undef, undef, undef], []⟩) (by kernel_rfl) ?_
   refine xseq_k fun KS39 ks39 => ?_
   refine wp_regS (l := [0]) (by kernel_rfl) (by kernel_rfl) fun KR40 kr40 => ?_
   refine wpS.p 0 4 (.slice none 0 0) (by kernel_rfl) ?_
   refine wpS.fin rfl (kr40 _ _ ?_)
   refine then_n (ks39 _ _ ?_)
   refine xseq_k fun KS41 ks41 => ?_
   refine wp_regS (l := [0, 1, 2, 3, 4, 5, 6]) (by kernel_rfl) (by kernel_rfl) fun KR42 kr42 => ?_
   refine wpS.ps [(0, 6, .pointer (some ⟨b6, 0, none⟩)), (1, 7, .pointer (some ⟨b6, 0, none⟩)), (2, 8, .pointer (some ⟨b6, 8, none⟩))] (by kernel_rfl) ?_
   refine wpS.take 3 true (some 9) (.slice s12_A s12_n s12_c) (by kernel_rfl) (yld_load1 (e := 24) (o := 8) hs 3 rfl (by kernel_rfl) (by kernel_rfl) (by rfl) .grow) ?_
   refine wpS.p 4 10 (.int .i64 64) (by kernel_rfl) ?_
   obtain ⟨h0, h⟩ := of_chk h
   obtain ⟨h1, h⟩ := of_chk h
   obtain ⟨h2, h⟩ := of_chk h
   obtain ⟨s14_A, hA⟩ : ∃ A, A = if s12_c = (0 : Int).toNat then s12_A else adr s12_A ((0 : Int).toNat * Cod.size (CI .u8)) := ⟨_, rfl⟩
   obtain ⟨s14_n, hn⟩ : ∃ n, n = (64 : Int).toNat - (0 : Int).toNat := ⟨_, rfl⟩
   obtain ⟨s14_c, hc⟩ : ∃ c, c = s12_c - (0 : Int).toNat := ⟨_, rfl⟩
   refine wpS.take 5 false (some 11) (.slice s14_A s14_n s14_c) (by kernel_rfl) (yld_sub (C := (CI .u8)) (t := 24) (e := 5) (low := none) (high := some (.int .i64 64)) (lo := 0) (hi := 64) (hs.rowR 0 rfl) (by kernel_rfl) (by kernel_rfl) (by kernel_rfl) (.inl ⟨rfl, rfl⟩) (.inr ⟨_, rfl⟩) h0 h1 h2 hA hn hc) ?_
   have hs := hs.addSub (C := (CI .u8)) 0 rfl h0 h1 h2 hA hn hc
   refine wpS.p 6 5 (.slice s14_A s14_n s14_c) (by kernel_rfl) ?_
   refine wpS.fin rfl (kr42 _ _ ?_)
   refine then_n (ks41 _ _ ?_)
   refine xseq_k fun KS43 ks43 => ?_
   refine wp_regS (l := [0, 1, 2, 3, 4, 5, 6, 7, 8, 9]) (by kernel_rfl) (by kernel_rfl) fun KR44 kr44 => ?_
   refine wpS.ps [(0, 12, .pointer (some ⟨b6, 0, none⟩)), (1, 13, .pointer (some ⟨b6, 0, none⟩)), (2, 14, .pointer (some ⟨b6, 0, none⟩)), (3, 15, .pointer (some ⟨b6, 8, none⟩))] (by kernel_rfl) ?_
   refine wpS.take 4 true (some 16) (.slice s12_A s12_n s12_c) (by kernel_rfl) (yld_load1 (e := 24) (o := 8) hs 3 rfl (by kernel_rfl) (by kernel_rfl) (by rfl) .grow) ?_
   refine wpS.p 5 17 (.int .i64 64) (by kernel_rfl) ?_
   obtain ⟨h0, h⟩ := of_chk h
   obtain ⟨h1, h⟩ := of_chk h
   obtain ⟨h2, h⟩ := of_chk h
   obtain ⟨s15_A, hA⟩ : ∃ A, A = if s12_c = (64 : Int).toNat then s12_A else adr s12_A ((64 : Int).toNat * Cod.size (CI .u8)) := ⟨_, rfl⟩
   obtain ⟨s15_n, hn⟩ : ∃ n, n = (((subL (subL a1 32 (a1.length : Int)) 32 ((subL a1 32 (a1.length : Int)).length : Int)).length : Int) : Int).toNat - (64 : Int).toNat := ⟨_, rfl⟩
   obtain ⟨s15_c, hc⟩ : ∃ c, c = s12_c - (64 : Int).toNat := ⟨_, rfl⟩
   refine wpS.take 6 false (some 18) (.slice s15_A s15_n s15_c) (by kernel_rfl) (yld_sub (C := (CI .u8)) (t := 24) (e := 5) (low := some (.int .i64 64)) (high := none) (lo := 64) (hi := ((subL (subL a1 32 (a1.length : Int)) 32 ((subL a1 32 (a1.length : Int)).length : Int)).length : Int)) (hs.rowR 1 rfl) (by kernel_rfl) (by kernel_rfl) (by kernel_rfl) (.inr ⟨_, rfl⟩) (.inl ⟨rfl, rfl⟩) h0 h1 h2 hA hn hc) ?_
   have hs := hs.addSub (C := (CI .u8)) 1 rfl h0 h1 h2 hA hn hc
   refine wpS.ps [(7, 19, .pointer (some ⟨b6, 0, none⟩)), (8, 20, .pointer (some ⟨b6, 8, none⟩))] (by kernel_rfl) ?_
   refine wpS.only 9 (op_store1 (t := 24) (o := 8) (v := .slice s15_A s15_n s15_c) (d := none) (by kernel_rfl) hs 3 rfl (by kernel_rfl) rfl (by kernel_rfl) (by simp) ?_)
   intro w kp hs
   refine ⟨fun _ => trivial, ?_⟩
   refine wpS.fin rfl (kr44 _ _ ?_)
   refine then_n (ks43 _ _ ?_)
   refine xseq_k fun KS45 ks45 => ?_
   refine wp_regS (l := [0, 1, 2]) (by kernel_rfl) (by kernel_rfl) fun KR46 kr46 => ?_
   refine wpS.p 0 21 (.slice s14_A s14_n s14_c) (by kernel_rfl) ?_
   obtain ⟨r16, hg, h⟩ := of_bind h
   refine wpS.only 1 (op_callH (d := (some 22)) (by kernel_rfl) hs (fun _ => by kernel_rfl) (slices_Clone_byte_byte.ok hg _ (hs.rowR 1 rfl)) ?_)
   rintro ⟨r16_A, r16_n, r16_c⟩ w gw hs
   have hs := hs.conv (L' := [.ownL (CI .u8) r16_A r16_n r16_c r16 5, .ownL (CI .u8) r13_A r13_n r13_c r13 5, .ownL (CI .u8) r10_A r10_n r10_c r10 5, .blk b7 ([.slice r10_A r10_n r10_c, .slice r13_A r13_n r13_c, .slice none 0 0, .slice none 0 0, .slice none 0 0, .slice none 0 0]) 29, .blk b6 ([.int .i64 a0_0, .int .i64 a0_1, .int .i32 a0_2, .int .i64 a0_3, .int .i32 a0_4, .int .i32 a0_5, .int .i64 a0_6, .int .i64 a0_7, .slice s15_A s15_n s15_c, .bool false]) 96, .blk b2 ([.slice none 0 0, .slice none 0 0, .slice none 0 0, .slice none 0 0, .slice none 0 0, .slice none 0 0]) 29, .blk b1 ([.int .i64 a0_0, .int .i64 a0_1, .int .i32 a0_2, .int .i64 a0_3, .int .i32 a0_4, .int .i32 a0_5, .int .i64 a0_6, .int .i64 a0_7]) 23]) rfl
   refine ⟨fun _ => trivial, ?_⟩
   refine wpS.p 2 4 (.slice r16_A r16_n r16_c) (by kernel_rfl) ?_
   refine wpS.fin rfl (kr46 _ _ ?_)
   refine then_n (ks45 _ _ ?_)
   refine xret ?_
   refine qq38 _ _ (post_ret (by kernel_rfl) (run_results [.tmp 4] [.slice r16_A r16_n r16_c] (by kernel_rfl) (.cons (res_tmp (by kernel_rfl)) .nil)) ?_)
   refine kI38 _ _ ?_
   refine ⟨fun _ => trivial, ?_⟩
   refine wpS.p 2 38 (.pointer (some ⟨b7, 2, none⟩)) (by kernel_rfl) ?_
   refine wpS.only 3 (op_store1 (t := 24) (o := 2) (v := .slice r16_A r16_n r16_c) (d := none) (by kernel_rfl) hs 3 rfl (by kernel_rfl) rfl (by kernel_rfl) (by simp) ?_)
   intro w kp hs
   refine ⟨fun _ => trivial, ?_⟩
   refine wpS.fin rfl (kr37 _ _ ?_)
   refine then_n (ks36 _ _ ?_)
   refine xseq_k fun KS47 ks47 => ?_
   refine wp_regS (l := [0, 1, 2, 3, 4, 5, 6, 7, 8]) (by kernel_rfl) (by kernel_rfl) fun KR48 kr48 => ?_
   refine wpS.ps [(0, 39, .pointer (some ⟨b6, 0, none⟩)), (1, 40, .pointer (some ⟨b6, 0, none⟩)), (2, 41, .pointer (some ⟨b6, 0, none⟩)), (3, 42, .pointer (some ⟨b6, 0, none⟩)), (4, 43, .pointer (some ⟨b6, 1, none⟩))] (by kernel_rfl) ?_
   refine wpS.take 5 true (some 44) (.int .i64 a0_1) (by kernel_rfl) (yld_load1 (e := 3) (o := 1) hs 4 rfl (by kernel_rfl) (by kernel_rfl) (by rfl) .grow) ?_
   refine wpS.only 6 (op_inline (d := (some 45)) (f := 64) (args := #[.pointer (some ⟨b6, 0, none⟩), .int .i64 a0_1]) (by kernel_rfl) (fun _ => by kernel_rfl) fun R49 kI49 => ?_)
   refine calls_k Try.func64 rfl fun Q49 qq49 => ?_
   refine wp_conv (a' := ⟨#[.pointer (some ⟨b6, 0, none⟩), .int .i64 a0_1, undef, undef, undef, undef, undef, undef, undef, undef, undef, undef, undef, undef, undef, undef, undef, undef, undef], []⟩) (by kernel_rfl) ?_
   refine xseq_k fun KS50 ks50 => ?_
   refine wp_regS (l := [0]) (by kernel_rfl) (by kernel_rfl) fun KR51 kr51 => ?_
   refine wpS.p 0 4 (.slice none 0 0) (by kernel_rfl) ?_
   refine wpS.fin rfl (kr51 _ _ ?_)
   refine then_n (ks50 _ _ ?_)
   refine xseq_k fun KS52 ks52 => ?_
   refine wp_regG [13] (fun k => True) 15 (by kernel_rfl) (by kernel_rfl) (by kernel_rfl) fun KR53 kr53 => ?_
   have hs := hs.drawn1
   refine wpG.p 0 5 (.pointer (some ⟨b6, 0, none⟩)) (by kernel_rfl) (by kernel_rfl) ?_
   refine wpG.p 1 6 (.int .i64 a0_1) (by kernel_rfl) (by kernel_rfl) ?_
   refine wpG.takeD 2 false (some 7) (.pointer (some ⟨b6, 0, none⟩)) (by kernel_rfl) (by kernel_rfl) (yld fun _ => by kernel_rfl) ?_
   refine wpG.takeD 3 false (some 8) (.pointer (some ⟨b6, 0, none⟩)) (by kernel_rfl) (by kernel_rfl) (yld fun _ => by kernel_rfl) ?_
   refine wpG.takeD 4 false (some 9) (.pointer (some ⟨b6, 0, none⟩)) (by kernel_rfl) (by kernel_rfl) (yld fun _ => by kernel_rfl) ?_
   refine wpG.takeD 5 false (some 10) (.pointer (some ⟨b6, 2, none⟩)) (by kernel_rfl) (by kernel_rfl) (yld fun _ => by kernel_rfl) ?_
   refine wpG.take [6, 12, 13, 14] 6 true (some 11) (.int .i32 a0_2) (by kernel_rfl) (by kernel_rfl) (yld_load1 (e := 21) (o := 2) hs 4 rfl (by kernel_rfl) (by kernel_rfl) (by rfl) .grow) ?_
   refine wpG.takeD 7 false (some 12) (.pointer (some ⟨b6, 0, none⟩)) (by kernel_rfl) (by kernel_rfl) (yld fun _ => by kernel_rfl) ?_
   refine wpG.takeD 8 false (some 13) (.pointer (some ⟨b6, 0, none⟩)) (by kernel_rfl) (by kernel_rfl) (yld fun _ => by kernel_rfl) ?_
   refine wpG.takeD 9 false (some 14) (.pointer (some ⟨b6, 0, none⟩)) (by kernel_rfl) (by kernel_rfl) (yld fun _ => by kernel_rfl) ?_
   refine wpG.takeD 10 false (some 15) (.pointer (some ⟨b6, 2, none⟩)) (by kernel_rfl) (by kernel_rfl) (yld fun _ => by kernel_rfl) ?_
   refine wpG.take [11, 12, 13, 14] 11 true (some 16) (.int .i32 a0_2) (by kernel_rfl) (by kernel_rfl) (yld_load1 (e := 21) (o := 2) hs 4 rfl (by kernel_rfl) (by kernel_rfl) (by rfl) .grow) ?_
   refine wpG.p 12 17 (.agg #[.int .i32 a0_2, .int .i32 a0_2]) (by kernel_rfl) (by kernel_rfl) ?_
   refine wpG.only 13 (by kernel_rfl) (op_inline (d := (some 18)) (f := 62) (args := #[.pointer (some ⟨b6, 0, none⟩), .int .i64 a0_1, .agg #[.int .i32 a0_2, .int .i32 a0_2]]) (by kernel_rfl) (fun _ => by kernel_rfl) fun R54 kI54 => ?_)
   refine calls_k Try.func62 rfl fun Q54 qq54 => ?_
   refine wp_conv (a' := ⟨#[.pointer (some ⟨b6, 0, none⟩), .int .i64 a0_1, .agg #[.int .i32 a0_2, .int .i32 a0_2], undef, undef, undef, undef, undef, undef, undef, undef, undef, undef, undef, undef, undef, undef, undef, undef, undef, undef, undef, undef, undef, undef, undef, undef, undef, undef, undef, undef, undef, undef, undef, undef, undef, undef, undef, undef, undef, undef, undef], []⟩) (by kernel_rfl) ?_
   refine xseq_k fun KS55 ks55 => ?_
   refine wp_regS (l := [0, 1]) (by kernel_rfl) (by kernel_rfl) fun KR56 kr56 => ?_
   refine wpS.only 0 (op_box (t := 73) (v := .agg #[.int .i32 a0_2, .int .i32 a0_2]) (d := (some 5)) (by kernel_rfl) hs ([.int .i32 a0_2, .int .i32 a0_2]) (by kernel_rfl) (by kernel_rfl) ?_)
   intro b17 w gw hs
   refine ⟨fun _ => trivial, ?_⟩
   refine wpS.p 1 6 (.slice none 0 0) (by kernel_rfl) ?_
   refine wpS.fin rfl (kr56 _ _ ?_)
   refine then_n (ks55 _ _ ?_)
   refine xseq_k fun KS57 ks57 => ?_
   refine wp_regS (l := [0]) (by kernel_rfl) (by kernel_rfl) fun KR58 kr58 => ?_
   refine wpS.p 0 7 (.slice none 0 0) (by kernel_rfl) ?_
   refine wpS.fin rfl (kr58 _ _ ?_)
   refine then_n (ks57 _ _ ?_)
   refine xseq_k fun KS59 ks59 => ?_
   refine xseq_k fun KS60 ks60 => ?_
   refine wp_regS (l := [0, 1]) (by kernel_rfl) (by kernel_rfl) fun KR61 kr61 => ?_
   refine wpS.ps [(0, 10, .int .i64 a0_1), (1, 11, .int .i64 0)] (by kernel_rfl) ?_
   refine wpS.fin rfl (kr61 _ _ ?_)
   refine then_n (ks60 _ _ ?_)
   have hs := hs.addNilL (CA .i32 256 (by decide)) 40
   obtain ⟨⟨y22, y23_0_0, y23_0_1, y23_0_2, y23_0_3, y23_0_4, y23_0_5, y23_0_6, y23_0_7, y23_2, y24⟩, hy, hk0⟩ := of_bind h
   refine wp_exq (N := fun a w => ∃ (y22_A : Option Addr) (y22_n : Nat) (y22_c : Nat) (y24_A : Option Addr) (y24_n : Nat) (y24_c : Nat), St w0 [] [.ownL (CA .i32 256 (by decide)) y22_A y22_n y22_c y22 40, .blk b17 ([.int .i32 a0_2, .int .i32 a0_2]) 73, .ownL (CI .u8) r16_A r16_n r16_c r16 5, .ownL (CI .u8) r13_A r13_n r13_c r13 5, .ownL (CI .u8) r10_A r10_n r10_c r10 5, .blk b7 ([.slice r10_A r10_n r10_c, .slice r13_A r13_n r13_c, .slice r16_A r16_n r16_c, .slice none 0 0, .slice none 0 0, .slice none 0 0]) 29, .blk b6 ([.int .i64 y23_0_0, .int .i64 y23_0_1, .int .i32 y23_0_2, .int .i64 y23_0_3, .int .i32 y23_0_4, .int .i32 y23_0_5, .int .i64 y23_0_6, .int .i64 y23_0_7, .slice y24_A y24_n y24_c, .bool y23_2]) 96, .blk b2 ([.slice none 0 0, .slice none 0 0, .slice none 0 0, .slice none 0 0, .slice none 0 0, .slice none 0 0]) 29, .blk b1 ([.int .i64 a0_0, .int .i64 a0_1, .int .i32 a0_2, .int .i64 a0_3, .int .i32 a0_4, .int .i32 a0_5, .int .i64 a0_6, .int .i64 a0_7]) 23] [.rowL (CI .u8) y24_A y24_n y24_c y24, .rowL (CI .u8) s15_A s15_n s15_c (subL (subL (subL a1 32 (a1.length : Int)) 32 ((subL a1 32 (a1.length : Int)).length : Int)) 64 ((subL (subL a1 32 (a1.length : Int)) 32 ((subL a1 32 (a1.length : Int)).length : Int)).length : Int)), .rowL (CI .u8) s14_A s14_n s14_c (subL (subL (subL a1 32 (a1.length : Int)) 32 ((subL a1 32 (a1.length : Int)).length : Int)) 0 64), .rowL (CI .u8) s12_A s12_n s12_c (subL (subL a1 32 (a1.length : Int)) 32 ((subL a1 32 (a1.length : Int)).length : Int)), .rowL (CI .u8) s11_A s11_n s11_c (subL (subL a1 32 (a1.length : Int)) 0 32), .rowL (CI .u8) s9_A s9_n s9_c (subL a1 32 (a1.length : Int)), .rowL (CI .u8) s8_A s8_n s8_c (subL a1 0 32), .rowL (CI .u8) a1_A a1_n a1_c a1] w ∧ ∃ g : Nat → Value, a = ⟨#[.pointer (some ⟨b6, 0, none⟩), .int .i64 a0_1, .agg #[.int .i32 a0_2, .int .i32 a0_2], undef, undef, .pointer (some ⟨b17, 0, none⟩), .slice none 0 0, .slice y22_A y22_n y22_c, (g 8), (g 9), .int .i64 a0_1, (g 11), (g 12), (g 13), (g 14), (g 15), (g 16), (g 17), (g 18), (g 19), (g 20), (g 21), (g 22), (g 23), (g 24), (g 25), (g 26), (g 27), (g 28), (g 29), (g 30), (g 31), (g 32), (g 33), (g 34), (g 35), (g 36), (g 37), (g 38), (g 39), (g 40), undef], []⟩) (fun N0 nn0 => ?_) ?_
   ·clear hk0
    refine xblock ?_
    refine wp_loop_k (fun n a w => ∃ z18 z19 z20_0_0 z20_0_1 z20_0_2 z20_0_3 z20_0_4 z20_0_5 z20_0_6 z20_0_7 z20_2 z21, ∃ (z19_A : Option Addr) (z19_n : Nat) (z19_c : Nat) (z21_A : Option Addr) (z21_n : Nat) (z21_c : Nat), dpack_UnPrivate.l0 K n a0_1 a0_2 z18 z19 z20_0_0 z20_0_1 z20_0_2 z20_0_3 z20_0_4 z20_0_5 z20_0_6 z20_0_7 z20_2 z21 = some (y22, y23_0_0, y23_0_1, y23_0_2, y23_0_3, y23_0_4, y23_0_5, y23_0_6, y23_0_7, y23_2, y24) ∧ St w0 [] [.ownL (CA .i32 256 (by decide)) z19_A z19_n z19_c z19 40, .blk b17 ([.int .i32 a0_2, .int .i32 a0_2]) 73, .ownL (CI .u8) r16_A r16_n r16_c r16 5, .ownL (CI .u8) r13_A r13_n r13_c r13 5, .ownL (CI .u8) r10_A r10_n r10_c r10 5, .blk b7 ([.slice r10_A r10_n r10_c, .slice r13_A r13_n r13_c, .slice r16_A r16_n r16_c, .slice none 0 0, .slice none 0 0, .slice none 0 0]) 29, .blk b6 ([.int .i64 z20_0_0, .int .i64 z20_0_1, .int .i32 z20_0_2, .int .i64 z20_0_3, .int .i32 z20_0_4, .int .i32 z20_0_5, .int .i64 z20_0_6, .int .i64 z20_0_7, .slice z21_A z21_n z21_c, .bool z20_2]) 96, .blk b2 ([.slice none 0 0, .slice none 0 0, .slice none 0 0, .slice none 0 0, .slice none 0 0, .slice none 0 0]) 29, .blk b1 ([.int .i64 a0_0, .int .i64 a0_1, .int .i32 a0_2, .int .i64 a0_3, .int .i32 a0_4, .int .i32 a0_5, .int .i64 a0_6, .int .i64 a0_7]) 23] [.rowL (CI .u8) z21_A z21_n z21_c z21, .rowL (CI .u8) s15_A s15_n s15_c (subL (subL (subL a1 32 (a1.length : Int)) 32 ((subL a1 32 (a1.length : Int)).length : Int)) 64 ((subL (subL a1 32 (a1.length : Int)) 32 ((subL a1 32 (a1.length : Int)).length : Int)).length : Int)), .rowL (CI .u8) s14_A s14_n s14_c (subL (subL (subL a1 32 (a1.length : Int)) 32 ((subL a1 32 (a1.length : Int)).length : Int)) 0 64), .rowL (CI .u8) s12_A s12_n s12_c (subL (subL a1 32 (a1.length : Int)) 32 ((subL a1 32 (a1.length : Int)).length : Int)), .rowL (CI .u8) s11_A s11_n s11_c (subL (subL a1 32 (a1.length : Int)) 0 32), .rowL (CI .u8) s9_A s9_n s9_c (subL a1 32 (a1.length : Int)), .rowL (CI .u8) s8_A s8_n s8_c (subL a1 0 32), .rowL (CI .u8) a1_A a1_n a1_c a1] w ∧ ∃ g : Nat → Value, a = ⟨#[.pointer (some ⟨b6, 0, none⟩), .int .i64 a0_1, .agg #[.int .i32 a0_2, .int .i32 a0_2], undef, undef, .pointer (some ⟨b17, 0, none⟩), .slice none 0 0, .slice z19_A z19_n z19_c, (g 8), (g 9), .int .i64 a0_1, .int .i64 z18, (g 12), (g 13), (g 14), (g 15), (g 16), (g 17), (g 18), (g 19), (g 20), (g 21), (g 22), (g 23), (g 24), (g 25), (g 26), (g 27), (g 28), (g 29), (g 30), (g 31), (g 32), (g 33), (g 34), (g 35), (g 36), (g 37), (g 38), (g 39), (g 40), undef], []⟩) K ⟨0, ([] : List (Arr 256)), a0_0, a0_1, a0_2, a0_3, a0_4, a0_5, a0_6, a0_7, false, (subL (subL (subL a1 32 (a1.length : Int)) 32 ((subL a1 32 (a1.length : Int)).length : Int)) 64 ((subL (subL a1 32 (a1.length : Int)) 32 ((subL a1 32 (a1.length : Int)).length : Int)).length : Int)), none, 0, 0, s15_A, s15_n, s15_c, hy, (hs.conv (L' := [.ownL (CA .i32 256 (by decide)) none 0 0 ([] : List (Arr 256)) 40, .blk b17 ([.int .i32 a0_2, .int .i32 a0_2]) 73, .ownL (CI .u8) r16_A r16_n r16_c r16 5, .ownL (CI .u8) r13_A r13_n r13_c r13 5, .ownL (CI .u8) r10_A r10_n r10_c r10 5, .blk b7 ([.slice r10_A r10_n r10_c, .slice r13_A r13_n r13_c, .slice r16_A r16_n r16_c, .slice none 0 0, .slice none 0 0, .slice none 0 0]) 29, .blk b6 ([.int .i64 a0_0, .int .i64 a0_1, .int .i32 a0_2, .int .i64 a0_3, .int .i32 a0_4, .int .i32 a0_5, .int .i64 a0_6, .int .i64 a0_7, .slice s15_A s15_n s15_c, .bool false]) 96, .blk b2 ([.slice none 0 0, .slice none 0 0, .slice none 0 0, .slice none 0 0, .slice none 0 0, .slice none 0 0]) 29, .blk b1 ([.int .i64 a0_0, .int .i64 a0_1, .int .i32 a0_2, .int .i64 a0_3, .int .i32 a0_4, .int .i32 a0_5, .int .i64 a0_6, .int .i64 a0_7]) 23]) rfl).pickR (pick_cons 0 rfl (pick_cons 0 rfl (pick_cons 1 rfl (pick_cons 2 rfl (pick_cons 3 rfl (pick_cons 4 rfl (pick_cons 5 rfl (pick_cons 6 rfl pick_nil)))))))), exg (by kernel_rfl)⟩ ?_
    clear hs h hy
    rintro n a w ⟨z18, z19, z20_0_0, z20_0_1, z20_0_2, z20_0_3, z20_0_4, z20_0_5, z20_0_6, z20_0_7, z20_2, z21, z19_A, z19_n, z19_c, z21_A, z21_n, z21_c, h, hs, g, rfl⟩ KL0 kl0
    cases n with
    | zero => exact nomatch (show none = some _ from h)
    | succ n =>
     refine xseq_k fun KS62 ks62 => ?_
     refine wp_regS (l := [0]) (by kernel_rfl) (by kernel_rfl) fun KR63 kr63 => ?_
     rcases of_if h with ⟨hc, h⟩ | ⟨hc, h⟩
     ·refine wpS.take 0 false (some 12) (.bool true) (by kernel_rfl) (yld_b (dt hc) (fun _ => by kernel_rfl)) ?_
      refine wpS.fin rfl (kr63 _ _ ?_)
      refine then_n (ks62 _ _ ?_)
      refine xseq_k fun KS64 ks64 => ?_
      refine wp_cond_t (by kernel_rfl) ?_
      refine xskip ?_
      refine then_n (ks64 _ _ ?_)
      refine xseq_k fun KS65 ks65 => ?_
      refine xblock ?_
      refine xseq_k fun KS66 ks66 => ?_
      obtain ⟨⟨y26, y27, y28_0_0, y28_0_1, y28_0_2, y28_0_3, y28_0_4, y28_0_5, y28_0_6, y28_0_7, y28_2, y29⟩, hj, h⟩ := of_bind h
      refine wp_join (N := fun a w => ∃ (b25 : Nat) (y29_A : Option Addr) (y29_n : Nat) (y29_c : Nat), St w0 [] [.blk b25 (enc .i32 y26) 40, .ownL (CA .i32 256 (by decide)) z19_A z19_n z19_c z19 40, .blk b17 ([.int .i32 a0_2, .int .i32 a0_2]) 73, .ownL (CI .u8) r16_A r16_n r16_c r16 5, .ownL (CI .u8) r13_A r13_n r13_c r13 5, .ownL (CI .u8) r10_A r10_n r10_c r10 5, .blk b7 ([.slice r10_A r10_n r10_c, .slice r13_A r13_n r13_c, .slice r16_A r16_n r16_c, .slice none 0 0, .slice none 0 0, .slice none 0 0]) 29, .blk b6 ([.int .i64 y28_0_0, .int .i64 y28_0_1, .int .i32 y28_0_2, .int .i64 y28_0_3, .int .i32 y28_0_4, .int .i32 y28_0_5, .int .i64 y28_0_6, .int .i64 y28_0_7, .slice y29_A y29_n y29_c, .bool y28_2]) 96, .blk b2 ([.slice none 0 0, .slice none 0 0, .slice none 0 0, .slice none 0 0, .slice none 0 0, .slice none 0 0]) 29, .blk b1 ([.int .i64 a0_0, .int .i64 a0_1, .int .i32 a0_2, .int .i64 a0_3, .int .i32 a0_4, .int .i32 a0_5, .int .i64 a0_6, .int .i64 a0_7]) 23] [.rowL (CI .u8) y29_A y29_n y29_c y29, .rowL (CI .u8) z21_A z21_n z21_c z21, .rowL (CI .u8) s15_A s15_n s15_c (subL (subL (subL a1 32 (a1.length : Int)) 32 ((subL a1 32 (a1.length : Int)).length : Int)) 64 ((subL (subL a1 32 (a1.length : Int)) 32 ((subL a1 32 (a1.length : Int)).length : Int)).length : Int)), .rowL (CI .u8) s14_A s14_n s14_c (subL (subL (subL a1 32 (a1.length : Int)) 32 ((subL a1 32 (a1.length : Int)).length : Int)) 0 64), .rowL (CI .u8) s12_A s12_n s12_c (subL (subL a1 32 (a1.length : Int)) 32 ((subL a1 32 (a1.length : Int)).length : Int)), .rowL (CI .u8) s11_A s11_n s11_c (subL (subL a1 32 (a1.length : Int)) 0 32), .rowL (CI .u8) s9_A s9_n s9_c (subL a1 32 (a1.length : Int)), .rowL (CI .u8) s8_A s8_n s8_c (subL a1 0 32), .rowL (CI .u8) a1_A a1_n a1_c a1] w ∧ ∃ g : Nat → Value, a = ⟨#[.pointer (some ⟨b6, 0, none⟩), .int .i64 a0_1, .agg #[.int .i32 a0_2, .int .i32 a0_2], undef, undef, .pointer (some ⟨b17, 0, none⟩), .slice none 0 0, .slice z19_A z19_n z19_c, .pointer (some ⟨b25, 0, none⟩), .bool y27, .int .i64 a0_1, .int .i64 z18, .bool true, (g 13), (g 14), (g 15), (g 16), (g 17), (g 18), (g 19), (g 20), (g 21), (g 22), (g 23), (g 24), (g 25), (g 26), (g 27), (g 28), (g 29), (g 30), (g 31), (g 32), (g 33), (g 34), (g 35), (g 36), (g 37), (g 38), (g 39), (g 40), undef], []⟩) (fun N nj => ?_) ?_
      ·clear h
       have h := hj
       refine wp_regG [3, 13] (fun k => ¬ k = b17) 15 (by kernel_rfl) (by kernel_rfl) (by kernel_rfl) fun KR67 kr67 => ?_
       have hs := hs.drawn1
       refine wpG.takeD 0 false (some 14) (.pointer (some ⟨b6, 0, none⟩)) (by kernel_rfl) (by kernel_rfl) (yld fun _ => by kernel_rfl) ?_
       refine wpG.take [1, 2, 3, 8, 9, 10, 11, 13, 14] 1 true (some 15) (.agg #[.int .i32 a0_2, .int .i32 a0_2]) (by kernel_rfl) (by kernel_rfl) (yld_loadW (e := 73) (n := 2) hs 1 rfl (by kernel_rfl) (by kernel_rfl) (by kernel_rfl) (by simp [enc_len]) .grow) ?_
       refine wpG.takeD 4 false (some 18) (.pointer (some ⟨b17, 0, none⟩)) (by kernel_rfl) (by kernel_rfl) (yld fun _ => by kernel_rfl) ?_
       refine wpG.takeK [5, 8, 9, 10, 11, 13, 14] 5 (some 19) (.int .i32 a0_2) (by kernel_rfl) (by kernel_rfl) (yld_load1 (e := 21) (o := 0) hs 1 rfl (by kernel_rfl) (by kernel_rfl) (by rfl) (.keep (fun hn => hn rfl))) ?_
       refine wpG.takeD 6 false (some 20) (.pointer (some ⟨b17, 1, none⟩)) (by kernel_rfl) (by kernel_rfl) (yld fun _ => by kernel_rfl) ?_
       refine wpG.takeK [7, 8, 9, 10, 11, 13, 14] 7 (some 21) (.int .i32 a0_2) (by kernel_rfl) (by kernel_rfl) (yld_load1 (e := 21) (o := 1) hs 1 rfl (by kernel_rfl) (by kernel_rfl) (by rfl) (.keep (fun hn => hn rfl))) ?_
       refine wpG.many [2, 12] (by kernel_rfl) (by decide) (forall_cons ?_ (forall_cons ?_ forall_nil))
       ·obtain ⟨r30, hg, h⟩ := of_bind h
        refine (op_call (d := (some 16)) (by kernel_rfl) hs (fun _ => by kernel_rfl) (dpack_span_size.ok hg _) ?_)
        intro w gw hs
        refine ⟨.of gw, ?_⟩
        refine wpG.many [3, 12] (by kernel_rfl) (by decide) (forall_cons ?_ (forall_cons ?_ forall_nil))
        ·have hsB69 := hs
         refine (op_inline (d := (some 17)) (f := 61) (args := #[.pointer (some ⟨b6, 0, none⟩), .int .i64 r30]) (by kernel_rfl) (fun _ => by kernel_rfl) fun R68 kI68 => ?_)
         refine calls_k Try.func61 rfl fun Q68 qq68 => ?_
         refine wp_conv (a' := ⟨#[.pointer (some ⟨b6, 0, none⟩), .int .i64 r30, undef, undef, undef, undef, undef, undef, undef, undef, undef, undef, undef, undef, undef, undef, undef, undef, undef, undef, undef, undef, undef], []⟩) (by kernel_rfl) ?_
         refine xseq_k fun KS70 ks70 => ?_
         refine wp_regS (l := [0]) (by kernel_rfl) (by kernel_rfl) fun KR71 kr71 => ?_
         refine wpS.p 0 4 (.slice none 0 0) (by kernel_rfl) ?_
         refine wpS.fin rfl (kr71 _ _ ?_)
         refine then_n (ks70 _ _ ?_)
         refine xseq_k fun KS72 ks72 => ?_
         refine wp_regS (l := [0, 1, 2, 3, 4, 5, 6]) (by kernel_rfl) (by kernel_rfl) fun KR73 kr73 => ?_
         refine wpS.ps [(0, 6, .pointer (some ⟨b6, 0, none⟩)), (1, 7, .pointer (some ⟨b6, 0, none⟩)), (2, 8, .pointer (some ⟨b6, 8, none⟩))] (by kernel_rfl) ?_
         refine wpS.take 3 true (some 9) (.slice z21_A z21_n z21_c) (by kernel_rfl) (yld_load1 (e := 24) (o := 8) hs 6 rfl (by kernel_rfl) (by kernel_rfl) (by rfl) .grow) ?_
         refine wpS.p 4 10 (.int .i64 r30) (by kernel_rfl) ?_
         obtain ⟨h0, h⟩ := of_chk h
         obtain ⟨h1, h⟩ := of_chk h
         obtain ⟨h2, h⟩ := of_chk h
         obtain ⟨s31_A, hA⟩ : ∃ A, A = if z21_c = (0 : Int).toNat then z21_A else adr z21_A ((0 : Int).toNat * Cod.size (CI .u8)) := ⟨_, rfl⟩
         obtain ⟨s31_n, hn⟩ : ∃ n, n = (r30 : Int).toNat - (0 : Int).toNat := ⟨_, rfl⟩
         obtain ⟨s31_c, hc⟩ : ∃ c, c = z21_c - (0 : Int).toNat := ⟨_, rfl⟩
         refine wpS.take 5 false (some 11) (.slice s31_A s31_n s31_c) (by kernel_rfl) (yld_sub (C := (CI .u8)) (t := 24) (e := 5) (low := none) (high := some (.int .i64 r30)) (lo := 0) (hi := r30) (hs.rowR 0 rfl) (by kernel_rfl) (by kernel_rfl) (by kernel_rfl) (.inl ⟨rfl, rfl⟩) (.inr ⟨_, rfl⟩) h0 h1 h2 hA hn hc) ?_
         have hs := hs.addSub (C := (CI .u8)) 0 rfl h0 h1 h2 hA hn hc
         refine wpS.p 6 5 (.slice s31_A s31_n s31_c) (by kernel_rfl) ?_
         refine wpS.fin rfl (kr73 _ _ ?_)
         refine then_n (ks72 _ _ ?_)
         refine xseq_k fun KS74 ks74 => ?_
         refine wp_regS (l := [0, 1, 2, 3, 4, 5, 6, 7, 8, 9]) (by kernel_rfl) (by kernel_rfl) fun KR75 kr75 => ?_
         refine wpS.ps [(0, 12, .pointer (some ⟨b6, 0, none⟩)), (1, 13, .pointer (some ⟨b6, 0, none⟩)), (2, 14, .pointer (some ⟨b6, 0, none⟩)), (3, 15, .pointer (some ⟨b6, 8, none⟩))] (by kernel_rfl) ?_
         refine wpS.take 4 true (some 16) (.slice z21_A z21_n z21_c) (by kernel_rfl) (yld_load1 (e := 24) (o := 8) hs 6 rfl (by kernel_rfl) (by kernel_rfl) (by rfl) .grow) ?_
         refine wpS.p 5 17 (.int .i64 r30) (by kernel_rfl) ?_
         obtain ⟨h0, h⟩ := of_chk h
         obtain ⟨h1, h⟩ := of_chk h
         obtain ⟨h2, h⟩ := of_chk h
         obtain ⟨s32_A, hA⟩ : ∃ A, A = if z21_c = (r30 : Int).toNat then z21_A else adr z21_A ((r30 : Int).toNat * Cod.size (CI .u8)) := ⟨_, rfl⟩
         obtain ⟨s32_n, hn⟩ : ∃ n, n = ((z21.length : Int) : Int).toNat - (r30 : Int).toNat := ⟨_, rfl⟩
         obtain ⟨s32_c, hc⟩ : ∃ c, c = z21_c - (r30 : Int).toNat := ⟨_, rfl⟩
         refine wpS.take 6 false (some 18) (.slice s32_A s32_n s32_c) (by kernel_rfl) (yld_sub (C := (CI .u8)) (t := 24) (e := 5) (low := some (.int .i64 r30)) (high := none) (lo := r30) (hi := (z21.length : Int)) (hs.rowR 1 rfl) (by kernel_rfl) (by kernel_rfl) (by kernel_rfl) (.inr ⟨_, rfl⟩) (.inl ⟨rfl, rfl⟩) h0 h1 h2 hA hn hc) ?_
         have hs := hs.addSub (C := (CI .u8)) 1 rfl h0 h1 h2 hA hn hc
         refine wpS.ps [(7, 19, .pointer (some ⟨b6, 0, none⟩)), (8, 20, .pointer (some ⟨b6, 8, none⟩))] (by kernel_rfl) ?_
         refine wpS.only 9 (op_store1 (t := 24) (o := 8) (v := .slice s32_A s32_n s32_c) (d := none) (by kernel_rfl) hs 6 rfl (by kernel_rfl) rfl (by kernel_rfl) (by simp) ?_)
         intro w kp hs
         refine ⟨fun _ => trivial, ?_⟩
         refine wpS.fin rfl (kr75 _ _ ?_)
         refine then_n (ks74 _ _ ?_)
         refine xseq_k fun KS76 ks76 => ?_
         refine wp_regS (l := [0, 1, 2]) (by kernel_rfl) (by kernel_rfl) fun KR77 kr77 => ?_
         refine wpS.p 0 21 (.slice s31_A s31_n s31_c) (by kernel_rfl) ?_
         obtain ⟨r33, hg, h⟩ := of_bind h
         refine wpS.only 1 (op_callH (d := (some 22)) (by kernel_rfl) hs (fun _ => by kernel_rfl) (slices_Clone_byte_byte.ok hg _ (hs.rowR 1 rfl)) ?_)
         rintro ⟨r33_A, r33_n, r33_c⟩ w gw hs
         have hs := hs.conv (L' := [.ownL (CI .u8) r33_A r33_n r33_c r33 5, .ownL (CA .i32 256 (by decide)) z19_A z19_n z19_c z19 40, .blk b17 ([.int .i32 a0_2, .int .i32 a0_2]) 73, .ownL (CI .u8) r16_A r16_n r16_c r16 5, .ownL (CI .u8) r13_A r13_n r13_c r13 5, .ownL (CI .u8) r10_A r10_n r10_c r10 5, .blk b7 ([.slice r10_A r10_n r10_c, .slice r13_A r13_n r13_c, .slice r16_A r16_n r16_c, .slice none 0 0, .slice none 0 0, .slice none 0 0]) 29, .blk b6 ([.int .i64 z20_0_0, .int .i64 z20_0_1, .int .i32 z20_0_2, .int .i64 z20_0_3, .int .i32 z20_0_4, .int .i32 z20_0_5, .int .i64 z20_0_6, .int .i64 z20_0_7, .slice s32_A s32_n s32_c, .bool z20_2]) 96, .blk b2 ([.slice none 0 0, .slice none 0 0, .slice none 0 0, .slice none 0 0, .slice none 0 0, .slice none 0 0]) 29, .blk b1 ([.int .i64 a0_0, .int .i64 a0_1, .int .i32 a0_2, .int .i64 a0_3, .int .i32 a0_4, .int .i32 a0_5, .int .i64 a0_6, .int .i64 a0_7]) 23]) rfl
         refine ⟨fun _ => trivial, ?_⟩
         refine wpS.p 2 4 (.slice r33_A r33_n r33_c) (by kernel_rfl) ?_
         refine wpS.fin rfl (kr77 _ _ ?_)
         refine then_n (ks76 _ _ ?_)
         refine xret ?_
         refine qq68 _ _ (post_ret (by kernel_rfl) (run_results [.tmp 4] [.slice r33_A r33_n r33_c] (by kernel_rfl) (.cons (res_tmp (by kernel_rfl)) .nil)) ?_)
         refine kI68 _ _ ?_
         refine ⟨⟨fun hf => absurd hf (by decide), (keepB1 (hsB69.blkAt 1 rfl) (hs.blkAt 2 rfl))⟩, ?_⟩
         refine wpG.many [8, 12] (by kernel_rfl) (by decide) (forall_cons ?_ (forall_cons ?_ forall_nil))
         ·obtain ⟨⟨r34, r35⟩, hg, h⟩ := of_bind h
          refine (op_call (d := (some 22)) (by kernel_rfl) hs (fun _ => by kernel_rfl) (dpack_Unpack.ok hg _ (hs.rowL 0 rfl)) ?_)
          intro w gw hs
          refine ⟨.of gw, ?_⟩
          refine wpG.p 9 13 (.tuple #[.agg (enc .i32 r34).toArray, .bool r35]) (by kernel_rfl) (by kernel_rfl) ?_
          refine wpG.p 10 23 (.agg (enc .i32 r34).toArray) (by kernel_rfl) (by kernel_rfl) ?_
          refine wpG.p 11 24 (.bool r35) (by kernel_rfl) (by kernel_rfl) ?_
          refine wpG.only 12 (by kernel_rfl) (op_alloc (t := 40) (d := (some 8)) (by kernel_rfl) hs (enc .i32 (zeroA 256)) (.agg (enc .i32 (zeroA 256)).toArray) (by kernel_rfl) (by kernel_rfl) (by kernel_rfl) ?_)
          intro b36 w gw hs
          refine ⟨.of gw, ?_⟩
          have hsB78 := hs
          refine wpG.only 13 (by kernel_rfl) (op_storeW (t := 40) (v := .agg (enc .i32 r34).toArray) (d := none) (by kernel_rfl) hs 0 rfl (vs := enc .i32 r34) (n := 256) (by kernel_rfl) (by kernel_rfl) (by kernel_rfl) (by simp [enc_len]) (by simp [enc_len]) (by intro u hu; exact enc_one _ _ u hu) ?_)
          intro w kp hs
          refine ⟨⟨fun hf => absurd hf (by decide), (keepB1 (hsB78.blkAt 3 rfl) (hs.blkAt 3 rfl))⟩, ?_⟩
          refine wpG.p 14 9 (.bool r35) (by kernel_rfl) (by kernel_rfl) ?_
          refine wpG.fin (by kernel_rfl) rfl (kr67 _ _ ?_)
          obtain ⟨q0, qr0⟩ := Prod.mk.inj (of_some h)
          obtain ⟨q1, qr1⟩ := Prod.mk.inj (qr0)
          obtain ⟨q2, qr2⟩ := Prod.mk.inj (qr1)
          obtain ⟨q3, qr3⟩ := Prod.mk.inj (qr2)
          obtain ⟨q4, qr4⟩ := Prod.mk.inj (qr3)
          obtain ⟨q5, qr5⟩ := Prod.mk.inj (qr4)
          obtain ⟨q6, qr6⟩ := Prod.mk.inj (qr5)
          obtain ⟨q7, qr7⟩ := Prod.mk.inj (qr6)
          obtain ⟨q8, qr8⟩ := Prod.mk.inj (qr7)
          obtain ⟨q9, qr9⟩ := Prod.mk.inj (qr8)
          obtain ⟨q10, qr10⟩ := Prod.mk.inj (qr9)
          have q11 := qr10
          subst q0
          subst q1
          subst q2
          subst q3
          subst q4
          subst q5
          subst q6
          subst q7
          subst q8
          subst q9
          subst q10
          subst q11
          exact nj _ _ ⟨b36, s32_A, s32_n, s32_c, ((hs.drop (.cons_cons _ (.cons _ (.cons_cons _ (.cons_cons _ (.cons_cons _ (.cons_cons _ (.cons_cons _ (.cons_cons _ (.cons_cons _ (.cons_cons _ (.cons_cons _ .slnil)))))))))))).pickR (pick_cons 0 rfl (pick_cons 2 rfl (pick_cons 3 rfl (pick_cons 4 rfl (pick_cons 5 rfl (pick_cons 6 rfl (pick_cons 7 rfl (pick_cons 8 rfl (pick_cons 9 rfl pick_nil)))))))))), exg (by kernel_rfl)⟩
         ·refine (op_alloc (t := 40) (d := (some 8)) (by kernel_rfl) hs (enc .i32 (zeroA 256)) (.agg (enc .i32 (zeroA 256)).toArray) (by kernel_rfl) (by kernel_rfl) (by kernel_rfl) ?_)
          intro b37 w gw hs
          refine ⟨.of gw, ?_⟩
          obtain ⟨⟨r38, r39⟩, hg, h⟩ := of_bind h
          refine wpG.only 8 (by kernel_rfl) (op_call (d := (some 22)) (by kernel_rfl) hs (fun _ => by kernel_rfl) (dpack_Unpack.ok hg _ (hs.rowL 1 rfl)) ?_)
          intro w gw hs
          refine ⟨.of gw, ?_⟩
          refine wpG.p 9 13 (.tuple #[.agg (enc .i32 r38).toArray, .bool r39]) (by kernel_rfl) (by kernel_rfl) ?_
          refine wpG.p 10 23 (.agg (enc .i32 r38).toArray) (by kernel_rfl) (by kernel_rfl) ?_
          refine wpG.p 11 24 (.bool r39) (by kernel_rfl) (by kernel_rfl) ?_
          have hsB79 := hs
          refine wpG.only 13 (by kernel_rfl) (op_storeW (t := 40) (v := .agg (enc .i32 r38).toArray) (d := none) (by kernel_rfl) hs 0 rfl (vs := enc .i32 r38) (n := 256) (by kernel_rfl) (by kernel_rfl) (by kernel_rfl) (by simp [enc_len]) (by simp [enc_len]) (by intro u hu; exact enc_one _ _ u hu) ?_)
          intro w kp hs
          refine ⟨⟨fun hf => absurd hf (by decide), (keepB1 (hsB79.blkAt 3 rfl) (hs.blkAt 3 rfl))⟩, ?_⟩
          refine wpG.p 14 9 (.bool r39) (by kernel_rfl) (by kernel_rfl) ?_
          refine wpG.fin (by kernel_rfl) rfl (kr67 _ _ ?_)
          obtain ⟨q0, qr0⟩ := Prod.mk.inj (of_some h)
          obtain ⟨q1, qr1⟩ := Prod.mk.inj (qr0)
          obtain ⟨q2, qr2⟩ := Prod.mk.inj (qr1)
          obtain ⟨q3, qr3⟩ := Prod.mk.inj (qr2)
          obtain ⟨q4, qr4⟩ := Prod.mk.inj (qr3)
          obtain ⟨q5, qr5⟩ := Prod.mk.inj (qr4)
          obtain ⟨q6, qr6⟩ := Prod.mk.inj (qr5)
          obtain ⟨q7, qr7⟩ := Prod.mk.inj (qr6)
          obtain ⟨q8, qr8⟩ := Prod.mk.inj (qr7)
          obtain ⟨q9, qr9⟩ := Prod.mk.inj (qr8)
          obtain ⟨q10, qr10⟩ := Prod.mk.inj (qr9)
          have q11 := qr10
          subst q0
          subst q1
          subst q2
          subst q3
          subst q4
          subst q5
          subst q6
          subst q7
          subst q8
          subst q9
          subst q10
          subst q11
          exact nj _ _ ⟨b37, s32_A, s32_n, s32_c, ((hs.drop (.cons_cons _ (.cons _ (.cons_cons _ (.cons_cons _ (.cons_cons _ (.cons_cons _ (.cons_cons _ (.cons_cons _ (.cons_cons _ (.cons_cons _ (.cons_cons _ .slnil)))))))))))).pickR (pick_cons 0 rfl (pick_cons 2 rfl (pick_cons 3 rfl (pick_cons 4 rfl (pick_cons 5 rfl (pick_cons 6 rfl (pick_cons 7 rfl (pick_cons 8 rfl (pick_cons 9 rfl pick_nil)))))))))), exg (by kernel_rfl)⟩
        ·refine (op_alloc (t := 40) (d := (some 8)) (by kernel_rfl) hs (enc .i32 (zeroA 256)) (.agg (enc .i32 (zeroA 256)).toArray) (by kernel_rfl) (by kernel_rfl) (by kernel_rfl) ?_)
         intro b40 w gw hs
         refine ⟨.of gw, ?_⟩
         have hsB81 := hs
         refine wpG.only 3 (by kernel_rfl) (op_inline (d := (some 17)) (f := 61) (args := #[.pointer (some ⟨b6, 0, none⟩), .int .i64 r30]) (by kernel_rfl) (fun _ => by kernel_rfl) fun R80 kI80 => ?_)
         refine calls_k Try.func61 rfl fun Q80 qq80 => ?_
         refine wp_conv (a' := ⟨#[.pointer (some ⟨b6, 0, none⟩), .int .i64 r30, undef, undef, undef, undef, undef, undef, undef, undef, undef, undef, undef, undef, undef, undef, undef, undef, undef, undef, undef, undef, undef], []⟩) (by kernel_rfl) ?_
         refine xseq_k fun KS82 ks82 => ?_
         refine wp_regS (l := [0]) (by kernel_rfl) (by kernel_rfl) fun KR83 kr83 => ?_
         refine wpS.p 0 4 (.slice none 0 0) (by kernel_rfl) ?_
         refine wpS.fin rfl (kr83 _ _ ?_)
         refine then_n (ks82 _ _ ?_)
         refine xseq_k fun KS84 ks84 => ?_
         refine wp_regS (l := [0, 1, 2, 3, 4, 5, 6]) (by kernel_rfl) (by kernel_rfl) fun KR85 kr85 => ?_
         refine wpS.ps [(0, 6, .pointer (some ⟨b6, 0, none⟩)), (1, 7, .pointer (some ⟨b6, 0, none⟩)), (2, 8, .pointer (some ⟨b6, 8, none⟩))] (by kernel_rfl) ?_
         refine wpS.take 3 true (some 9) (.slice z21_A z21_n z21_c) (by kernel_rfl) (yld_load1 (e := 24) (o := 8) hs 7 rfl (by kernel_rfl) (by kernel_rfl) (by rfl) .grow) ?_
         refine wpS.p 4 10 (.int .i64 r30) (by kernel_rfl) ?_
         obtain ⟨h0, h⟩ := of_chk h
         obtain ⟨h1, h⟩ := of_chk h
         obtain ⟨h2, h⟩ := of_chk h
         obtain ⟨s41_A, hA⟩ : ∃ A, A = if z21_c = (0 : Int).toNat then z21_A else adr z21_A ((0 : Int).toNat * Cod.size (CI .u8)) := ⟨_, rfl⟩
         obtain ⟨s41_n, hn⟩ : ∃ n, n = (r30 : Int).toNat - (0 : Int).toNat := ⟨_, rfl⟩
         obtain ⟨s41_c, hc⟩ : ∃ c, c = z21_c - (0 : Int).toNat := ⟨_, rfl⟩
         refine wpS.take 5 false (some 11) (.slice s41_A s41_n s41_c) (by kernel_rfl) (yld_sub (C := (CI .u8)) (t := 24) (e := 5) (low := none) (high := some (.int .i64 r30)) (lo := 0) (hi := r30) (hs.rowR 0 rfl) (by kernel_rfl) (by kernel_rfl) (by kernel_rfl) (.inl ⟨rfl, rfl⟩) (.inr ⟨_, rfl⟩) h0 h1 h2 hA hn hc) ?_
         have hs := hs.addSub (C := (CI .u8)) 0 rfl h0 h1 h2 hA hn hc
         refine wpS.p 6 5 (.slice s41_A s41_n s41_c) (by kernel_rfl) ?_
         refine wpS.fin rfl (kr85 _ _ ?_)
         refine then_n (ks84 _ _ ?_)
         refine xseq_k fun KS86 ks86 => ?_
         refine wp_regS (l := [0, 1, 2, 3, 4, 5, 6, 7, 8, 9]) (by kernel_rfl) (by kernel_rfl) fun KR87 kr87 => ?_
         refine wpS.ps [(0, 12, .pointer (some ⟨b6, 0, none⟩)), (1, 13, .pointer (some ⟨b6, 0, none⟩)), (2, 14, .pointer (some ⟨b6, 0, none⟩)), (3, 15, .pointer (some ⟨b6, 8, none⟩))] (by kernel_rfl) ?_
         refine wpS.take 4 true (some 16) (.slice z21_A z21_n z21_c) (by kernel_rfl) (yld_load1 (e := 24) (o := 8) hs 7 rfl (by kernel_rfl) (by kernel_rfl) (by rfl) .grow) ?_
         refine wpS.p 5 17 (.int .i64 r30) (by kernel_rfl) ?_
         obtain ⟨h0, h⟩ := of_chk h
         obtain ⟨h1, h⟩ := of_chk h
         obtain ⟨h2, h⟩ := of_chk h
         obtain ⟨s42_A, hA⟩ : ∃ A, A = if z21_c = (r30 : Int).toNat then z21_A else adr z21_A ((r30 : Int).toNat * Cod.size (CI .u8)) := ⟨_, rfl⟩
         obtain ⟨s42_n, hn⟩ : ∃ n, n = ((z21.length : Int) : Int).toNat - (r30 : Int).toNat := ⟨_, rfl⟩
         obtain ⟨s42_c, hc⟩ : ∃ c, c = z21_c - (r30 : Int).toNat := ⟨_, rfl⟩
         refine wpS.take 6 false (some 18) (.slice s42_A s42_n s42_c) (by kernel_rfl) (yld_sub (C := (CI .u8)) (t := 24) (e := 5) (low := some (.int .i64 r30)) (high := none) (lo := r30) (hi := (z21.length : Int)) (hs.rowR 1 rfl) (by kernel_rfl) (by kernel_rfl) (by kernel_rfl) (.inr ⟨_, rfl⟩) (.inl ⟨rfl, rfl⟩) h0 h1 h2 hA hn hc) ?_
         have hs := hs.addSub (C := (CI .u8)) 1 rfl h0 h1 h2 hA hn hc
         refine wpS.ps [(7, 19, .pointer (some ⟨b6, 0, none⟩)), (8, 20, .pointer (some ⟨b6, 8, none⟩))] (by kernel_rfl) ?_
         refine wpS.only 9 (op_store1 (t := 24) (o := 8) (v := .slice s42_A s42_n s42_c) (d := none) (by kernel_rfl) hs 7 rfl (by kernel_rfl) rfl (by kernel_rfl) (by simp) ?_)
         intro w kp hs
         refine ⟨fun _ => trivial, ?_⟩
         refine wpS.fin rfl (kr87 _ _ ?_)
         refine then_n (ks86 _ _ ?_)
         refine xseq_k fun KS88 ks88 => ?_
         refine wp_regS (l := [0, 1, 2]) (by kernel_rfl) (by kernel_rfl) fun KR89 kr89 => ?_
         refine wpS.p 0 21 (.slice s41_A s41_n s41_c) (by kernel_rfl) ?_
         obtain ⟨r43, hg, h⟩ := of_bind h
         refine wpS.only 1 (op_callH (d := (some 22)) (by kernel_rfl) hs (fun _ => by kernel_rfl) (slices_Clone_byte_byte.ok hg _ (hs.rowR 1 rfl)) ?_)
         rintro ⟨r43_A, r43_n, r43_c⟩ w gw hs
         have hs := hs.conv (L' := [.ownL (CI .u8) r43_A r43_n r43_c r43 5, .blk b40 (enc .i32 (zeroA 256)) 40, .ownL (CA .i32 256 (by decide)) z19_A z19_n z19_c z19 40, .blk b17 ([.int .i32 a0_2, .int .i32 a0_2]) 73, .ownL (CI .u8) r16_A r16_n r16_c r16 5, .ownL (CI .u8) r13_A r13_n r13_c r13 5, .ownL (CI .u8) r10_A r10_n r10_c r10 5, .blk b7 ([.slice r10_A r10_n r10_c, .slice r13_A r13_n r13_c, .slice r16_A r16_n r16_c, .slice none 0 0, .slice none 0 0, .slice none 0 0]) 29, .blk b6 ([.int .i64 z20_0_0, .int .i64 z20_0_1, .int .i32 z20_0_2, .int .i64 z20_0_3, .int .i32 z20_0_4, .int .i32 z20_0_5, .int .i64 z20_0_6, .int .i64 z20_0_7, .slice s42_A s42_n s42_c, .bool z20_2]) 96, .blk b2 ([.slice none 0 0, .slice none 0 0, .slice none 0 0, .slice none 0 0, .slice none 0 0, .slice none 0 0]) 29, .blk b1 ([.int .i64 a0_0, .int .i64 a0_1, .int .i32 a0_2, .int .i64 a0_3, .int .i32 a0_4, .int .i32 a0_5, .int .i64 a0_6, .int .i64 a0_7]) 23]) rfl
         refine ⟨fun _ => trivial, ?_⟩
         refine wpS.p 2 4 (.slice r43_A r43_n r43_c) (by kernel_rfl) ?_
         refine wpS.fin rfl (kr89 _ _ ?_)
         refine then_n (ks88 _ _ ?_)
         refine xret ?_
         refine qq80 _ _ (post_ret (by kernel_rfl) (run_results [.tmp 4] [.slice r43_A r43_n r43_c] (by kernel_rfl) (.cons (res_tmp (by kernel_rfl)) .nil)) ?_)
         refine kI80 _ _ ?_
         refine ⟨⟨fun hf => absurd hf (by decide), (keepB1 (hsB81.blkAt 2 rfl) (hs.blkAt 3 rfl))⟩, ?_⟩
         obtain ⟨⟨r44, r45⟩, hg, h⟩ := of_bind h
         refine wpG.only 8 (by kernel_rfl) (op_call (d := (some 22)) (by kernel_rfl) hs (fun _ => by kernel_rfl) (dpack_Unpack.ok hg _ (hs.rowL 0 rfl)) ?_)
         intro w gw hs
         refine ⟨.of gw, ?_⟩
         refine wpG.p 9 13 (.tuple #[.agg (enc .i32 r44).toArray, .bool r45]) (by kernel_rfl) (by kernel_rfl) ?_
         refine wpG.p 10 23 (.agg (enc .i32 r44).toArray) (by kernel_rfl) (by kernel_rfl) ?_
         refine wpG.p 11 24 (.bool r45) (by kernel_rfl) (by kernel_rfl) ?_
         have hsB90 := hs
         refine wpG.only 13 (by kernel_rfl) (op_storeW (t := 40) (v := .agg (enc .i32 r44).toArray) (d := none) (by kernel_rfl) hs 1 rfl (vs := enc .i32 r44) (n := 256) (by kernel_rfl) (by kernel_rfl) (by kernel_rfl) (by simp [enc_len]) (by simp [enc_len]) (by intro u hu; exact enc_one _ _ u hu) ?_)
         intro w kp hs
         refine ⟨⟨fun hf => absurd hf (by decide), (keepB1 (hsB90.blkAt 3 rfl) (hs.blkAt 3 rfl))⟩, ?_⟩
         refine wpG.p 14 9 (.bool r45) (by kernel_rfl) (by kernel_rfl) ?_
         refine wpG.fin (by kernel_rfl) rfl (kr67 _ _ ?_)
         obtain ⟨q0, qr0⟩ := Prod.mk.inj (of_some h)
         obtain ⟨q1, qr1⟩ := Prod.mk.inj (qr0)
         obtain ⟨q2, qr2⟩ := Prod.mk.inj (qr1)
         obtain ⟨q3, qr3⟩ := Prod.mk.inj (qr2)
         obtain ⟨q4, qr4⟩ := Prod.mk.inj (qr3)
         obtain ⟨q5, qr5⟩ := Prod.mk.inj (qr4)
         obtain ⟨q6, qr6⟩ := Prod.mk.inj (qr5)
         obtain ⟨q7, qr7⟩ := Prod.mk.inj (qr6)
         obtain ⟨q8, qr8⟩ := Prod.mk.inj (qr7)
         obtain ⟨q9, qr9⟩ := Prod.mk.inj (qr8)
         obtain ⟨q10, qr10⟩ := Prod.mk.inj (qr9)
         have q11 := qr10
         subst q0
         subst q1
         subst q2
         subst q3
         subst q4
         subst q5
         subst q6
         subst q7
         subst q8
         subst q9
         subst q10
         subst q11
         exact nj _ _ ⟨b40, s42_A, s42_n, s42_c, ((hs.drop (.cons _ (.cons_cons _ (.cons_cons _ (.cons_cons _ (.cons_cons _ (.cons_cons _ (.cons_cons _ (.cons_cons _ (.cons_cons _ (.cons_cons _ (.cons_cons _ .slnil)))))))))))).pickR (pick_cons 0 rfl (pick_cons 2 rfl (pick_cons 3 rfl (pick_cons 4 rfl (pick_cons 5 rfl (pick_cons 6 rfl (pick_cons 7 rfl (pick_cons 8 rfl (pick_cons 9 rfl pick_nil)))))))))), exg (by kernel_rfl)⟩
       ·refine (op_alloc (t := 40) (d := (some 8)) (by kernel_rfl) hs (enc .i32 (zeroA 256)) (.agg (enc .i32 (zeroA 256)).toArray) (by kernel_rfl) (by kernel_rfl) (by kernel_rfl) ?_)
        intro b46 w gw hs
        refine ⟨.of gw, ?_⟩
        obtain ⟨r47, hg, h⟩ := of_bind h
        refine wpG.only 2 (by kernel_rfl) (op_call (d := (some 16)) (by kernel_rfl) hs (fun _ => by kernel_rfl) (dpack_span_size.ok hg _) ?_)
        intro w gw hs
        refine ⟨.of gw, ?_⟩
        have hsB92 := hs
        refine wpG.only 3 (by kernel_rfl) (op_inline (d := (some 17)) (f := 61) (args := #[.pointer (some ⟨b6, 0, none⟩), .int .i64 r47]) (by kernel_rfl) (fun _ => by kernel_rfl) fun R91 kI91 => ?_)
        refine calls_k Try.func61 rfl fun Q91 qq91 => ?_
        refine wp_conv (a' := ⟨#[.pointer (some ⟨b6, 0, none⟩), .int .i64 r47, undef, undef, undef, undef, undef, undef, undef, undef, undef, undef, undef, undef, undef, undef, undef, undef, undef, undef, undef, undef, undef], []⟩) (by kernel_rfl) ?_
        refine xseq_k fun KS93 ks93 => ?_
        refine wp_regS (l := [0]) (by kernel_rfl) (by kernel_rfl) fun KR94 kr94 => ?_
        refine wpS.p 0 4 (.slice none 0 0) (by kernel_rfl) ?_
        refine wpS.fin rfl (kr94 _ _ ?_)
        refine then_n (ks93 _ _ ?_)
        refine xseq_k fun KS95 ks95 => ?_
        refine wp_regS (l := [0, 1, 2, 3, 4, 5, 6]) (by kernel_rfl) (by kernel_rfl) fun KR96 kr96 => ?_
        refine wpS.ps [(0, 6, .pointer (some ⟨b6, 0, none⟩)), (1, 7, .pointer (some ⟨b6, 0, none⟩)), (2, 8, .pointer (some ⟨b6, 8, none⟩))] (by kernel_rfl) ?_
        refine wpS.take 3 true (some 9) (.slice z21_A z21_n z21_c) (by kernel_rfl) (yld_load1 (e := 24) (o := 8) hs 7 rfl (by kernel_rfl) (by kernel_rfl) (by rfl) .grow) ?_
        refine wpS.p 4 10 (.int .i64 r47) (by kernel_rfl) ?_
        obtain ⟨h0, h⟩ := of_chk h
        obtain ⟨h1, h⟩ := of_chk h
        obtain ⟨h2, h⟩ := of_chk h
        obtain ⟨s48_A, hA⟩ : ∃ A, A = if z21_c = (0 : Int).toNat then z21_A else adr z21_A ((0 : Int).toNat * Cod.size (CI .u8)) := ⟨_, rfl⟩
        obtain ⟨s48_n, hn⟩ : ∃ n, n = (r47 : Int).toNat - (0 : Int).toNat := ⟨_, rfl⟩
        obtain ⟨s48_c, hc⟩ : ∃ c, c = z21_c - (0 : Int).toNat := ⟨_, rfl⟩
        refine wpS.take 5 false (some 11) (.slice s48_A s48_n s48_c) (by kernel_rfl) (yld_sub (C := (CI .u8)) (t := 24) (e := 5) (low := none) (high := some (.int .i64 r47)) (lo := 0) (hi := r47) (hs.rowR 0 rfl) (by kernel_rfl) (by kernel_rfl) (by kernel_rfl) (.inl ⟨rfl, rfl⟩) (.inr ⟨_, rfl⟩) h0 h1 h2 hA hn hc) ?_
        have hs := hs.addSub (C := (CI .u8)) 0 rfl h0 h1 h2 hA hn hc
        refine wpS.p 6 5 (.slice s48_A s48_n s48_c) (by kernel_rfl) ?_
        refine wpS.fin rfl (kr96 _ _ ?_)
        refine then_n (ks95 _ _ ?_)
        refine xseq_k fun KS97 ks97 => ?_
        refine wp_regS (l := [0, 1, 2, 3, 4, 5, 6, 7, 8, 9]) (by kernel_rfl) (by kernel_rfl) fun KR98 kr98 => ?_
        refine wpS.ps [(0, 12, .pointer (some ⟨b6, 0, none⟩)), (1, 13, .pointer (some ⟨b6, 0, none⟩)), (2, 14, .pointer (some ⟨b6, 0, none⟩)), (3, 15, .pointer (some ⟨b6, 8, none⟩))] (by kernel_rfl) ?_
        refine wpS.take 4 true (some 16) (.slice z21_A z21_n z21_c) (by kernel_rfl) (yld_load1 (e := 24) (o := 8) hs 7 rfl (by kernel_rfl) (by kernel_rfl) (by rfl) .grow) ?_
        refine wpS.p 5 17 (.int .i64 r47) (by kernel_rfl) ?_
        obtain ⟨h0, h⟩ := of_chk h
        obtain ⟨h1, h⟩ := of_chk h
        obtain ⟨h2, h⟩ := of_chk h
        obtain ⟨s49_A, hA⟩ : ∃ A, A = if z21_c = (r47 : Int).toNat then z21_A else adr z21_A ((r47 : Int).toNat * Cod.size (CI .u8)) := ⟨_, rfl⟩
        obtain ⟨s49_n, hn⟩ : ∃ n, n = ((z21.length : Int) : Int).toNat - (r47 : Int).toNat := ⟨_, rfl⟩
        obtain ⟨s49_c, hc⟩ : ∃ c, c = z21_c - (r47 : Int).toNat := ⟨_, rfl⟩
        refine wpS.take 6 false (some 18) (.slice s49_A s49_n s49_c) (by kernel_rfl) (yld_sub (C := (CI .u8)) (t := 24) (e := 5) (low := some (.int .i64 r47)) (high := none) (lo := r47) (hi := (z21.length : Int)) (hs.rowR 1 rfl) (by kernel_rfl) (by kernel_rfl) (by kernel_rfl) (.inr ⟨_, rfl⟩) (.inl ⟨rfl, rfl⟩) h0 h1 h2 hA hn hc) ?_
        have hs := hs.addSub (C := (CI .u8)) 1 rfl h0 h1 h2 hA hn hc
        refine wpS.ps [(7, 19, .pointer (some ⟨b6, 0, none⟩)), (8, 20, .pointer (some ⟨b6, 8, none⟩))] (by kernel_rfl) ?_
        refine wpS.only 9 (op_store1 (t := 24) (o := 8) (v := .slice s49_A s49_n s49_c) (d := none) (by kernel_rfl) hs 7 rfl (by kernel_rfl) rfl (by kernel_rfl) (by simp) ?_)
        intro w kp hs
        refine ⟨fun _ => trivial, ?_⟩
        refine wpS.fin rfl (kr98 _ _ ?_)
        refine then_n (ks97 _ _ ?_)
        refine xseq_k fun KS99 ks99 => ?_
        refine wp_regS (l := [0, 1, 2]) (by kernel_rfl) (by kernel_rfl) fun KR100 kr100 => ?_
        refine wpS.p 0 21 (.slice s48_A s48_n s48_c) (by kernel_rfl) ?_
        obtain ⟨r50, hg, h⟩ := of_bind h
        refine wpS.only 1 (op_callH (d := (some 22)) (by kernel_rfl) hs (fun _ => by kernel_rfl) (slices_Clone_byte_byte.ok hg _ (hs.rowR 1 rfl)) ?_)
        rintro ⟨r50_A, r50_n, r50_c⟩ w gw hs
        have hs := hs.conv (L' := [.ownL (CI .u8) r50_A r50_n r50_c r50 5, .blk b46 (enc .i32 (zeroA 256)) 40, .ownL (CA .i32 256 (by decide)) z19_A z19_n z19_c z19 40, .blk b17 ([.int .i32 a0_2, .int .i32 a0_2]) 73, .ownL (CI .u8) r16_A r16_n r16_c r16 5, .ownL (CI .u8) r13_A r13_n r13_c r13 5, .ownL (CI .u8) r10_A r10_n r10_c r10 5, .blk b7 ([.slice r10_A r10_n r10_c, .slice r13_A r13_n r13_c, .slice r16_A r16_n r16_c, .slice none 0 0, .slice none 0 0, .slice none 0 0]) 29, .blk b6 ([.int .i64 z20_0_0, .int .i64 z20_0_1, .int .i32 z20_0_2, .int .i64 z20_0_3, .int .i32 z20_0_4, .int .i32 z20_0_5, .int .i64 z20_0_6, .int .i64 z20_0_7, .slice s49_A s49_n s49_c, .bool z20_2]) 96, .blk b2 ([.slice none 0 0, .slice none 0 0, .slice none 0 0, .slice none 0 0, .slice none 0 0, .slice none 0 0]) 29, .blk b1 ([.int .i64 a0_0, .int .i64 a0_1, .int .i32 a0_2, .int .i64 a0_3, .int .i32 a0_4, .int .i32 a0_5, .int .i64 a0_6, .int .i64 a0_7]) 23]) rfl
        refine ⟨fun _ => trivial, ?_⟩
        refine wpS.p 2 4 (.slice r50_A r50_n r50_c) (by kernel_rfl) ?_
        refine wpS.fin rfl (kr100 _ _ ?_)
        refine then_n (ks99 _ _ ?_)
        refine xret ?_
        refine qq91 _ _ (post_ret (by kernel_rfl) (run_results [.tmp 4] [.slice r50_A r50_n r50_c] (by kernel_rfl) (.cons (res_tmp (by kernel_rfl)) .nil)) ?_)
        refine kI91 _ _ ?_
        refine ⟨⟨fun hf => absurd hf (by decide), (keepB1 (hsB92.blkAt 2 rfl) (hs.blkAt 3 rfl))⟩, ?_⟩
        obtain ⟨⟨r51, r52⟩, hg, h⟩ := of_bind h
        refine wpG.only 8 (by kernel_rfl) (op_call (d := (some 22)) (by kernel_rfl) hs (fun _ => by kernel_rfl) (dpack_Unpack.ok hg _ (hs.rowL 0 rfl)) ?_)
        intro w gw hs
        refine ⟨.of gw, ?_⟩
        refine wpG.p 9 13 (.tuple #[.agg (enc .i32 r51).toArray, .bool r52]) (by kernel_rfl) (by kernel_rfl) ?_
        refine wpG.p 10 23 (.agg (enc .i32 r51).toArray) (by kernel_rfl) (by kernel_rfl) ?_
        refine wpG.p 11 24 (.bool r52) (by kernel_rfl) (by kernel_rfl) ?_
        have hsB101 := hs
        refine wpG.only 13 (by kernel_rfl) (op_storeW (t := 40) (v := .agg (enc .i32 r51).toArray) (d := none) (by kernel_rfl) hs 1 rfl (vs := enc .i32 r51) (n := 256) (by kernel_rfl) (by kernel_rfl) (by kernel_rfl) (by simp [enc_len]) (by simp [enc_len]) (by intro u hu; exact enc_one _ _ u hu) ?_)
        intro w kp hs
        refine ⟨⟨fun hf => absurd hf (by decide), (keepB1 (hsB101.blkAt 3 rfl) (hs.blkAt 3 rfl))⟩, ?_⟩
        refine wpG.p 14 9 (.bool r52) (by kernel_rfl) (by kernel_rfl) ?_
        refine wpG.fin (by kernel_rfl) rfl (kr67 _ _ ?_)
        obtain ⟨q0, qr0⟩ := Prod.mk.inj (of_some h)
        obtain ⟨q1, qr1⟩ := Prod.mk.inj (qr0)
        obtain ⟨q2, qr2⟩ := Prod.mk.inj (qr1)
        obtain ⟨q3, qr3⟩ := Prod.mk.inj (qr2)
        obtain ⟨q4, qr4⟩ := Prod.mk.inj (qr3)
        obtain ⟨q5, qr5⟩ := Prod.mk.inj (qr4)
        obtain ⟨q6, qr6⟩ := Prod.mk.inj (qr5)
        obtain ⟨q7, qr7⟩ := Prod.mk.inj (qr6)
        obtain ⟨q8, qr8⟩ := Prod.mk.inj (qr7)
        obtain ⟨q9, qr9⟩ := Prod.mk.inj (qr8)
        obtain ⟨q10, qr10⟩ := Prod.mk.inj (qr9)
        have q11 := qr10
        subst q0
        subst q1
        subst q2
        subst q3
        subst q4
        subst q5
        subst q6
        subst q7
        subst q8
        subst q9
        subst q10
        subst q11
        exact nj _ _ ⟨b46, s49_A, s49_n, s49_c, ((hs.drop (.cons _ (.cons_cons _ (.cons_cons _ (.cons_cons _ (.cons_cons _ (.cons_cons _ (.cons_cons _ (.cons_cons _ (.cons_cons _ (.cons_cons _ (.cons_cons _ .slnil)))))))))))).pickR (pick_cons 0 rfl (pick_cons 2 rfl (pick_cons 3 rfl (pick_cons 4 rfl (pick_cons 5 rfl (pick_cons 6 rfl (pick_cons 7 rfl (pick_cons 8 rfl (pick_cons 9 rfl pick_nil)))))))))), exg (by kernel_rfl)⟩
      ·clear hj hs
       rintro a w ⟨b25, y29_A, y29_n, y29_c, hs, g, rfl⟩
       refine then_n (ks66 _ _ ?_)
       obtain ⟨⟨y53_0_0, y53_0_1, y53_0_2, y53_0_3, y53_0_4, y53_0_5, y53_0_6, y53_0_7, y53_2⟩, hj, h⟩ := of_bind h
       refine xseq_k fun KS102 ks102 => wp_join (N := fun a w => St w0 [] [.blk b25 (enc .i32 y26) 40, .ownL (CA .i32 256 (by decide)) z19_A z19_n z19_c z19 40, .blk b17 ([.int .i32 a0_2, .int .i32 a0_2]) 73, .ownL (CI .u8) r16_A r16_n r16_c r16 5, .ownL (CI .u8) r13_A r13_n r13_c r13 5, .ownL (CI .u8) r10_A r10_n r10_c r10 5, .blk b7 ([.slice r10_A r10_n r10_c, .slice r13_A r13_n r13_c, .slice r16_A r16_n r16_c, .slice none 0 0, .slice none 0 0, .slice none 0 0]) 29, .blk b6 ([.int .i64 y53_0_0, .int .i64 y53_0_1, .int .i32 y53_0_2, .int .i64 y53_0_3, .int .i32 y53_0_4, .int .i32 y53_0_5, .int .i64 y53_0_6, .int .i64 y53_0_7, .slice y29_A y29_n y29_c, .bool y53_2]) 96, .blk b2 ([.slice none 0 0, .slice none 0 0, .slice none 0 0, .slice none 0 0, .slice none 0 0, .slice none 0 0]) 29, .blk b1 ([.int .i64 a0_0, .int .i64 a0_1, .int .i32 a0_2, .int .i64 a0_3, .int .i32 a0_4, .int .i32 a0_5, .int .i64 a0_6, .int .i64 a0_7]) 23] [.rowL (CI .u8) y29_A y29_n y29_c y29, .rowL (CI .u8) z21_A z21_n z21_c z21, .rowL (CI .u8) s15_A s15_n s15_c (subL (subL (subL a1 32 (a1.length : Int)) 32 ((subL a1 32 (a1.length : Int)).length : Int)) 64 ((subL (subL a1 32 (a1.length : Int)) 32 ((subL a1 32 (a1.length : Int)).length : Int)).length : Int)), .rowL (CI .u8) s14_A s14_n s14_c (subL (subL (subL a1 32 (a1.length : Int)) 32 ((subL a1 32 (a1.length : Int)).length : Int)) 0 64), .rowL (CI .u8) s12_A s12_n s12_c (subL (subL a1 32 (a1.length : Int)) 32 ((subL a1 32 (a1.length : Int)).length : Int)), .rowL (CI .u8) s11_A s11_n s11_c (subL (subL a1 32 (a1.length : Int)) 0 32), .rowL (CI .u8) s9_A s9_n s9_c (subL a1 32 (a1.length : Int)), .rowL (CI .u8) s8_A s8_n s8_c (subL a1 0 32), .rowL (CI .u8) a1_A a1_n a1_c a1] w ∧ ∃ g : Nat → Value, a = ⟨#[.pointer (some ⟨b6, 0, none⟩), .int .i64 a0_1, .agg #[.int .i32 a0_2, .int .i32 a0_2], undef, undef, .pointer (some ⟨b17, 0, none⟩), .slice none 0 0, .slice z19_A z19_n z19_c, .pointer (some ⟨b25, 0, none⟩), .bool y27, .int .i64 a0_1, .int .i64 z18, .bool true, (g 13), (g 14), (g 15), (g 16), (g 17), (g 18), (g 19), (g 20), (g 21), (g 22), (g 23), (g 24), (g 25), (g 26), (g 27), (g 28), (g 29), (g 30), (g 31), (g 32), (g 33), (g 34), (g 35), (g 36), (g 37), (g 38), (g 39), (g 40), undef], []⟩) (fun N nj => ?_) ?_
       ·clear h
        have h := hj
        refine wp_regS (l := [0, 1, 2, 3, 4, 5, 6, 7, 8, 9, 10, 11]) (by kernel_rfl) (by kernel_rfl) fun KR103 kr103 => ?_
        refine wpS.ps [(0, 25, .pointer (some ⟨b6, 0, none⟩)), (1, 26, .pointer (some ⟨b6, 0, none⟩)), (2, 27, .pointer (some ⟨b6, 0, none⟩)), (3, 28, .pointer (some ⟨b6, 9, none⟩))] (by kernel_rfl) ?_
        cases y28_2 with
        | true =>
         have h := of_if_t h
         refine wpS.take 4 true (some 29) (.bool true) (by kernel_rfl) (yld_load1 (e := 4) (o := 9) hs 7 rfl (by kernel_rfl) (by kernel_rfl) (by rfl) .grow) ?_
         refine wpS.ps [(5, 30, .bool true), (6, 31, undef), (7, 32, undef), (8, 33, .bool true), (9, 34, .pointer (some ⟨b6, 0, none⟩)), (10, 35, .pointer (some ⟨b6, 9, none⟩))] (by kernel_rfl) ?_
         refine wpS.only 11 (op_store1 (t := 4) (o := 9) (v := .bool true) (d := none) (by kernel_rfl) hs 7 rfl (by kernel_rfl) rfl (by kernel_rfl) (by simp) ?_)
         intro w kp hs
         refine ⟨fun _ => trivial, ?_⟩
         refine wpS.fin rfl (kr103 _ _ ?_)
         obtain ⟨q0, qr0⟩ := Prod.mk.inj (of_some h)
         obtain ⟨q1, qr1⟩ := Prod.mk.inj (qr0)
         obtain ⟨q2, qr2⟩ := Prod.mk.inj (qr1)
         obtain ⟨q3, qr3⟩ := Prod.mk.inj (qr2)
         obtain ⟨q4, qr4⟩ := Prod.mk.inj (qr3)
         obtain ⟨q5, qr5⟩ := Prod.mk.inj (qr4)
         obtain ⟨q6, qr6⟩ := Prod.mk.inj (qr5)
         obtain ⟨q7, qr7⟩ := Prod.mk.inj (qr6)
         have q8 := qr7
         subst q0
         subst q1
         subst q2
         subst q3
         subst q4
         subst q5
         subst q6
         subst q7
         subst q8
         exact nj _ _ ⟨(hs.conv rfl), exg (by kernel_rfl)⟩
        | false =>
         have h := of_if_f h
         refine wpS.take 4 true (some 29) (.bool false) (by kernel_rfl) (yld_load1 (e := 4) (o := 9) hs 7 rfl (by kernel_rfl) (by kernel_rfl) (by rfl) .grow) ?_
         refine wpS.ps [(5, 30, .bool false), (6, 31, .bool y27), (7, 32, .bool (!y27)), (8, 33, .bool (!y27)), (9, 34, .pointer (some ⟨b6, 0, none⟩)), (10, 35, .pointer (some ⟨b6, 9, none⟩))] (by kernel_rfl) ?_
         obtain ⟨x54, hx, h⟩ := of_bind h
         refine wpS.only 11 (op_store1 (t := 4) (o := 9) (v := .bool x54) (d := none) (by kernel_rfl) hs 7 rfl (by cases hx; kernel_rfl) rfl (by kernel_rfl) (by simp) ?_)
         intro w kp hs
         refine ⟨fun _ => trivial, ?_⟩
         refine wpS.fin rfl (kr103 _ _ ?_)
         obtain ⟨q0, qr0⟩ := Prod.mk.inj (of_some h)
         obtain ⟨q1, qr1⟩ := Prod.mk.inj (qr0)
         obtain ⟨q2, qr2⟩ := Prod.mk.inj (qr1)
         obtain ⟨q3, qr3⟩ := Prod.mk.inj (qr2)
         obtain ⟨q4, qr4⟩ := Prod.mk.inj (qr3)
         obtain ⟨q5, qr5⟩ := Prod.mk.inj (qr4)
         obtain ⟨q6, qr6⟩ := Prod.mk.inj (qr5)
         obtain ⟨q7, qr7⟩ := Prod.mk.inj (qr6)
         have q8 := qr7
         subst q0
         subst q1
         subst q2
         subst q3
         subst q4
         subst q5
         subst q6
         subst q7
         subst q8
         exact nj _ _ ⟨(hs.conv rfl), exg (by kernel_rfl)⟩
       ·clear hj hs
        rintro a w ⟨hs, g, rfl⟩
        refine then_n (ks102 _ _ ?_)
        refine wp_regS (l := [0, 1, 2, 3, 4]) (by kernel_rfl) (by kernel_rfl) fun KR104 kr104 => ?_
        refine wpS.p 0 36 (.slice z19_A z19_n z19_c) (by kernel_rfl) ?_
        refine wpS.take 1 true (some 37) (.agg (enc .i32 y26).toArray) (by kernel_rfl) (yld_loadW (e := 40) (n := 256) hs 0 rfl (by kernel_rfl) (by kernel_rfl) (by kernel_rfl) (by exact enc_len _ _) .grow) ?_
        refine wpS.only 2 (op_litL (C := (CA .i32 256 (by decide))) (t := 25) (e := 40) (len := 1) (parts := #[(0, .agg (enc .i32 y26).toArray)]) (l := [y26]) (d := (some 38)) (by kernel_rfl) hs (by kernel_rfl) rfl (by kernel_rfl) (by kernel_rfl) (z := .agg (enc .i32 (zeroA 256)).toArray) (by kernel_rfl) rfl (by decide) (by decide) ?_)
        intro s55_A s55_n s55_c w gw hs
        refine ⟨fun _ => trivial, ?_⟩
        obtain ⟨h0, h⟩ := of_chk h
        refine wpS.only 3 (op_appendT (C := (CA .i32 256 (by decide))) (t := 25) (ty := 25) (e := 40) (bytes := 1024) (B := 137438953472) (d := (some 39)) (by kernel_rfl) hs 2 rfl (hs.rowL 0 rfl) (by kernel_rfl) (by kernel_rfl) (by kernel_rfl) (by kernel_rfl) (by kernel_rfl) h0 (by decide) (by decide) ?_)
        intro s56_A s56_n s56_c w hs
        refine ⟨fun _ => trivial, ?_⟩
        refine wpS.p 4 7 (.slice s56_A s56_n s56_c) (by kernel_rfl) ?_
        refine wpS.fin rfl (kr104 _ _ ?_)
        refine inBlock_n ?_
        refine then_n (ks65 _ _ ?_)
        refine wp_regS (l := [0, 1]) (by kernel_rfl) (by kernel_rfl) fun KR105 kr105 => ?_
        refine wpS.ps [(0, 40, .int .i64 (iadd .i64 z18 1)), (1, 11, .int .i64 (iadd .i64 z18 1))] (by kernel_rfl) ?_
        refine wpS.fin rfl (kr105 _ _ ?_)
        exact then_n (kl0 _ _ ⟨n, Nat.lt_succ_self n, (iadd .i64 z18 1), (z19 ++ ([y26] : List (Arr 256))), y53_0_0, y53_0_1, y53_0_2, y53_0_3, y53_0_4, y53_0_5, y53_0_6, y53_0_7, y53_2, y29, s56_A, s56_n, s56_c, y29_A, y29_n, y29_c, h, ((hs.drop (.cons _ (.cons _ (.cons_cons _ (.cons_cons _ (.cons_cons _ (.cons_cons _ (.cons_cons _ (.cons_cons _ (.cons_cons _ (.cons_cons _ (.cons_cons _ .slnil)))))))))))).pickR (pick_cons 0 rfl (pick_cons 2 rfl (pick_cons 3 rfl (pick_cons 4 rfl (pick_cons 5 rfl (pick_cons 6 rfl (pick_cons 7 rfl (pick_cons 8 rfl pick_nil))))))))), exg (by kernel_rfl)⟩)
     ·refine wpS.take 0 false (some 12) (.bool false) (by kernel_rfl) (yld_b (df hc) (fun _ => by kernel_rfl)) ?_
      refine wpS.fin rfl (kr63 _ _ ?_)
      refine then_n (ks62 _ _ ?_)
      refine xseq_k fun KS106 ks106 => ?_
      refine wp_cond_f (by kernel_rfl) ?_
      refine xexit ?_
      refine then_x ?_
      refine then_x ?_
      refine inBlock_hit ?_
      obtain ⟨q0, qr0⟩ := Prod.mk.inj (of_some h)
      obtain ⟨q1, qr1⟩ := Prod.mk.inj (qr0)
      obtain ⟨q2, qr2⟩ := Prod.mk.inj (qr1)
      obtain ⟨q3, qr3⟩ := Prod.mk.inj (qr2)
      obtain ⟨q4, qr4⟩ := Prod.mk.inj (qr3)
      obtain ⟨q5, qr5⟩ := Prod.mk.inj (qr4)
      obtain ⟨q6, qr6⟩ := Prod.mk.inj (qr5)
      obtain ⟨q7, qr7⟩ := Prod.mk.inj (qr6)
      obtain ⟨q8, qr8⟩ := Prod.mk.inj (qr7)
      obtain ⟨q9, qr9⟩ := Prod.mk.inj (qr8)
      have q10 := qr9
      subst q0
      subst q1
      subst q2
      subst q3
      subst q4
      subst q5
      subst q6
      subst q7
      subst q8
      subst q9
      subst q10
      exact exq_n (nn0 _ _ ⟨z19_A, z19_n, z19_c, z21_A, z21_n, z21_c, (hs.conv rfl), exg (by kernel_rfl)⟩)
   ·clear hs h hy
    rintro a w ⟨y22_A, y22_n, y22_c, y24_A, y24_n, y24_c, hs, g, rfl⟩
    have h := hk0
    refine then_n (ks59 _ _ ?_)
    refine xseq_k fun KS107 ks107 => ?_
    refine wp_regS (l := [0, 1]) (by kernel_rfl) (by kernel_rfl) fun KR108 kr108 => ?_
    refine wpS.ps [(0, 41, .slice y22_A y22_n y22_c), (1, 6, .slice y22_A y22_n y22_c)] (by kernel_rfl) ?_
    refine wpS.fin rfl (kr108 _ _ ?_)
    refine then_n (ks107 _ _ ?_)
    refine xret ?_
    refine qq54 _ _ (post_ret (by kernel_rfl) (run_results [.tmp 6] [.slice y22_A y22_n y22_c] (by kernel_rfl) (.cons (res_tmp (by kernel_rfl)) .nil)) ?_)
    refine kI54 _ _ ?_
    refine ⟨⟨fun hf => absurd hf (by decide), .all _ _⟩, ?_⟩
    refine wpG.p 14 4 (.slice y22_A y22_n y22_c) (by kernel_rfl) (by kernel_rfl) ?_
    refine wpG.fin (by kernel_rfl) rfl (kr53 _ _ ?_)
    refine then_n (ks52 _ _ ?_)
    refine xret ?_
    refine qq49 _ _ (post_ret (by kernel_rfl) (run_results [.tmp 4] [.slice y22_A y22_n y22_c] (by kernel_rfl) (.cons (res_tmp (by kernel_rfl)) .nil)) ?_)
    refine kI49 _ _ ?_
    refine ⟨fun _ => trivial, ?_⟩
    refine wpS.p 7 46 (.pointer (some ⟨b7, 3, none⟩)) (by kernel_rfl) ?_
    refine wpS.only 8 (op_store1 (t := 25) (o := 3) (v := .slice y22_A y22_n y22_c) (d := none) (by kernel_rfl) hs 5 rfl (by kernel_rfl) rfl (by kernel_rfl) (by simp) ?_)
    intro w kp hs
    refine ⟨fun _ => trivial, ?_⟩
    refine wpS.fin rfl (kr48 _ _ ?_)
    refine then_n (ks47 _ _ ?_)
    refine xseq_k fun KS109 ks109 => ?_
    refine wp_regS (l := [0, 1, 2, 3, 4, 5, 6, 7, 8]) (by kernel_rfl) (by kernel_rfl) fun KR110 kr110 => ?_
    refine wpS.ps [(0, 47, .pointer (some ⟨b6, 0, none⟩)), (1, 48, .pointer (some ⟨b6, 0, none⟩)), (2, 49, .pointer (some ⟨b6, 0, none⟩)), (3, 50, .pointer (some ⟨b6, 0, none⟩)), (4, 51, .pointer (some ⟨b6, 0, none⟩))] (by kernel_rfl) ?_
    refine wpS.take 5 true (some 52) (.int .i64 y23_0_0) (by kernel_rfl) (yld_load1 (e := 3) (o := 0) hs 6 rfl (by kernel_rfl) (by kernel_rfl) (by rfl) .grow) ?_
    refine wpS.only 6 (op_inline (d := (some 53)) (f := 64) (args := #[.pointer (some ⟨b6, 0, none⟩), .int .i64 y23_0_0]) (by kernel_rfl) (fun _ => by kernel_rfl) fun R111 kI111 => ?_)
    refine calls_k Try.func64 rfl fun Q111 qq111 => ?_
    refine wp_conv (a' := ⟨#[.pointer (some ⟨b6, 0, none⟩), .int .i64 y23_0_0, undef, undef, undef, undef, undef, undef, undef, undef, undef, undef, undef, undef, undef, undef, undef, undef, undef], []⟩) (by kernel_rfl) ?_
    refine xseq_k fun KS112 ks112 => ?_
    refine wp_regS (l := [0]) (by kernel_rfl) (by kernel_rfl) fun KR113 kr113 => ?_
    refine wpS.p 0 4 (.slice none 0 0) (by kernel_rfl) ?_
    refine wpS.fin rfl (kr113 _ _ ?_)
    refine then_n (ks112 _ _ ?_)
    refine xseq_k fun KS114 ks114 => ?_
    refine wp_regG [13] (fun k => True) 15 (by kernel_rfl) (by kernel_rfl) (by kernel_rfl) fun KR115 kr115 => ?_
    have hs := hs.drawn1
    refine wpG.p 0 5 (.pointer (some ⟨b6, 0, none⟩)) (by kernel_rfl) (by kernel_rfl) ?_
    refine wpG.p 1 6 (.int .i64 y23_0_0) (by kernel_rfl) (by kernel_rfl) ?_
    refine wpG.takeD 2 false (some 7) (.pointer (some ⟨b6, 0, none⟩)) (by kernel_rfl) (by kernel_rfl) (yld fun _ => by kernel_rfl) ?_
    refine wpG.takeD 3 false (some 8) (.pointer (some ⟨b6, 0, none⟩)) (by kernel_rfl) (by kernel_rfl) (yld fun _ => by kernel_rfl) ?_
    refine wpG.takeD 4 false (some 9) (.pointer (some ⟨b6, 0, none⟩)) (by kernel_rfl) (by kernel_rfl) (yld fun _ => by kernel_rfl) ?_
    refine wpG.takeD 5 false (some 10) (.pointer (some ⟨b6, 2, none⟩)) (by kernel_rfl) (by kernel_rfl) (yld fun _ => by kernel_rfl) ?_
    refine wpG.take [6, 12, 13, 14] 6 true (some 11) (.int .i32 y23_0_2) (by kernel_rfl) (by kernel_rfl) (yld_load1 (e := 21) (o := 2) hs 6 rfl (by kernel_rfl) (by kernel_rfl) (by rfl) .grow) ?_
    refine wpG.takeD 7 false (some 12) (.pointer (some ⟨b6, 0, none⟩)) (by kernel_rfl) (by kernel_rfl) (yld fun _ => by kernel_rfl) ?_
    refine wpG.takeD 8 false (some 13) (.pointer (some ⟨b6, 0, none⟩)) (by kernel_rfl) (by kernel_rfl) (yld fun _ => by kernel_rfl) ?_
    refine wpG.takeD 9 false (some 14) (.pointer (some ⟨b6, 0, none⟩)) (by kernel_rfl) (by kernel_rfl) (yld fun _ => by kernel_rfl) ?_
    refine wpG.takeD 10 false (some 15) (.pointer (some ⟨b6, 2, none⟩)) (by kernel_rfl) (by kernel_rfl) (yld fun _ => by kernel_rfl) ?_
    refine wpG.take [11, 12, 13, 14] 11 true (some 16) (.int .i32 y23_0_2) (by kernel_rfl) (by kernel_rfl) (yld_load1 (e := 21) (o := 2) hs 6 rfl (by kernel_rfl) (by kernel_rfl) (by rfl) .grow) ?_
    refine wpG.p 12 17 (.agg #[.int .i32 y23_0_2, .int .i32 y23_0_2]) (by kernel_rfl) (by kernel_rfl) ?_
    refine wpG.only 13 (by kernel_rfl) (op_inline (d := (some 18)) (f := 62) (args := #[.pointer (some ⟨b6, 0, none⟩), .int .i64 y23_0_0, .agg #[.int .i32 y23_0_2, .int .i32 y23_0_2]]) (by kernel_rfl) (fun _ => by kernel_rfl) fun R116 kI116 => ?_)
    refine calls_k Try.func62 rfl fun Q116 qq116 => ?_
    refine wp_conv (a' := ⟨#[.pointer (some ⟨b6, 0, none⟩), .int .i64 y23_0_0, .agg #[.int .i32 y23_0_2, .int .i32 y23_0_2], undef, undef, undef, undef, undef, undef, undef, undef, undef, undef, undef, undef, undef, undef, undef, undef, undef, undef, undef, undef, undef, undef, undef, undef, undef, undef, undef, undef, undef, undef, undef, undef, undef, undef, undef, undef, undef, undef, undef], []⟩) (by kernel_rfl) ?_
    refine xseq_k fun KS117 ks117 => ?_
    refine wp_regS (l := [0, 1]) (by kernel_rfl) (by kernel_rfl) fun KR118 kr118 => ?_
    refine wpS.only 0 (op_box (t := 73) (v := .agg #[.int .i32 y23_0_2, .int .i32 y23_0_2]) (d := (some 5)) (by kernel_rfl) hs ([.int .i32 y23_0_2, .int .i32 y23_0_2]) (by kernel_rfl) (by kernel_rfl) ?_)
    intro b57 w gw hs
    refine ⟨fun _ => trivial, ?_⟩
    refine wpS.p 1 6 (.slice none 0 0) (by kernel_rfl) ?_
    refine wpS.fin rfl (kr118 _ _ ?_)
    refine then_n (ks117 _ _ ?_)
    refine xseq_k fun KS119 ks119 => ?_
    refine wp_regS (l := [0]) (by kernel_rfl) (by kernel_rfl) fun KR120 kr120 => ?_
    refine wpS.p 0 7 (.slice none 0 0) (by kernel_rfl) ?_
    refine wpS.fin rfl (kr120 _ _ ?_)
    refine then_n (ks119 _ _ ?_)
    refine xseq_k fun KS121 ks121 => ?_
    refine xseq_k fun KS122 ks122 => ?_
    refine wp_regS (l := [0, 1]) (by kernel_rfl) (by kernel_rfl) fun KR123 kr123 => ?_
    refine wpS.ps [(0, 10, .int .i64 y23_0_0), (1, 11, .int .i64 0)] (by kernel_rfl) ?_
    refine wpS.fin rfl (kr123 _ _ ?_)
    refine then_n (ks122 _ _ ?_)
    have hs := hs.addNilL (CA .i32 256 (by decide)) 40
    obtain ⟨⟨y62, y63_0_0, y63_0_1, y63_0_2, y63_0_3, y63_0_4, y63_0_5, y63_0_6, y63_0_7, y63_2, y64⟩, hy, hk1⟩ := of_bind h
    refine wp_exq (N := fun a w => ∃ (y62_A : Option Addr) (y62_n : Nat) (y62_c : Nat) (y64_A : Option Addr) (y64_n : Nat) (y64_c : Nat), St w0 [] [.ownL (CA .i32 256 (by decide)) y62_A y62_n y62_c y62 40, .blk b57 ([.int .i32 y23_0_2, .int .i32 y23_0_2]) 73, .ownL (CA .i32 256 (by decide)) y22_A y22_n y22_c y22 40, .blk b17 ([.int .i32 a0_2, .int .i32 a0_2]) 73, .ownL (CI .u8) r16_A r16_n r16_c r16 5, .ownL (CI .u8) r13_A r13_n r13_c r13 5, .ownL (CI .u8) r10_A r10_n r10_c r10 5, .blk b7 ([.slice r10_A r10_n r10_c, .slice r13_A r13_n r13_c, .slice r16_A r16_n r16_c, .slice y22_A y22_n y22_c, .slice none 0 0, .slice none 0 0]) 29, .blk b6 ([.int .i64 y63_0_0, .int .i64 y63_0_1, .int .i32 y63_0_2, .int .i64 y63_0_3, .int .i32 y63_0_4, .int .i32 y63_0_5, .int .i64 y63_0_6, .int .i64 y63_0_7, .slice y64_A y64_n y64_c, .bool y63_2]) 96, .blk b2 ([.slice none 0 0, .slice none 0 0, .slice none 0 0, .slice none 0 0, .slice none 0 0, .slice none 0 0]) 29, .blk b1 ([.int .i64 a0_0, .int .i64 a0_1, .int .i32 a0_2, .int .i64 a0_3, .int .i32 a0_4, .int .i32 a0_5, .int .i64 a0_6, .int .i64 a0_7]) 23] [.rowL (CI .u8) y64_A y64_n y64_c y64, .rowL (CI .u8) y24_A y24_n y24_c y24, .rowL (CI .u8) s15_A s15_n s15_c (subL (subL (subL a1 32 (a1.length : Int)) 32 ((subL a1 32 (a1.length : Int)).length : Int)) 64 ((subL (subL a1 32 (a1.length : Int)) 32 ((subL a1 32 (a1.length : Int)).length : Int)).length : Int)), .rowL (CI .u8) s14_A s14_n s14_c (subL (subL (subL a1 32 (a1.length : Int)) 32 ((subL a1 32 (a1.length : Int)).length : Int)) 0 64), .rowL (CI .u8) s12_A s12_n s12_c (subL (subL a1 32 (a1.length : Int)) 32 ((subL a1 32 (a1.length : Int)).length : Int)), .rowL (CI .u8) s11_A s11_n s11_c (subL (subL a1 32 (a1.length : Int)) 0 32), .rowL (CI .u8) s9_A s9_n s9_c (subL a1 32 (a1.length : Int)), .rowL (CI .u8) s8_A s8_n s8_c (subL a1 0 32), .rowL (CI .u8) a1_A a1_n a1_c a1] w ∧ ∃ g : Nat → Value, a = ⟨#[.pointer (some ⟨b6, 0, none⟩), .int .i64 y23_0_0, .agg #[.int .i32 y23_0_2, .int .i32 y23_0_2], undef, undef, .pointer (some ⟨b57, 0, none⟩), .slice none 0 0, .slice y62_A y62_n y62_c, (g 8), (g 9), .int .i64 y23_0_0, (g 11), (g 12), (g 13), (g 14), (g 15), (g 16), (g 17), (g 18), (g 19), (g 20), (g 21), (g 22), (g 23), (g 24), (g 25), (g 26), (g 27), (g 28), (g 29), (g 30), (g 31), (g 32), (g 33), (g 34), (g 35), (g 36), (g 37), (g 38), (g 39), (g 40), undef], []⟩) (fun N1 nn1 => ?_) ?_
    ·clear hk1
     refine xblock ?_
     refine wp_loop_k (fun n a w => ∃ z58 z59 z60_0_0 z60_0_1 z60_0_2 z60_0_3 z60_0_4 z60_0_5 z60_0_6 z60_0_7 z60_2 z61, ∃ (z59_A : Option Addr) (z59_n : Nat) (z59_c : Nat) (z61_A : Option Addr) (z61_n : Nat) (z61_c : Nat), dpack_UnPrivate.l1 K n y23_0_0 y23_0_2 z58 z59 z60_0_0 z60_0_1 z60_0_2 z60_0_3 z60_0_4 z60_0_5 z60_0_6 z60_0_7 z60_2 z61 = some (y62, y63_0_0, y63_0_1, y63_0_2, y63_0_3, y63_0_4, y63_0_5, y63_0_6, y63_0_7, y63_2, y64) ∧ St w0 [] [.ownL (CA .i32 256 (by decide)) z59_A z59_n z59_c z59 40, .blk b57 ([.int .i32 y23_0_2, .int .i32 y23_0_2]) 73, .ownL (CA .i32 256 (by decide)) y22_A y22_n y22_c y22 40, .blk b17 ([.int .i32 a0_2, .int .i32 a0_2]) 73, .ownL (CI .u8) r16_A r16_n r16_c r16 5, .ownL (CI .u8) r13_A r13_n r13_c r13 5, .ownL (CI .u8) r10_A r10_n r10_c r10 5, .blk b7 ([.slice r10_A r10_n r10_c, .slice r13_A r13_n r13_c, .slice r16_A r16_n r16_c, .slice y22_A y22_n y22_c, .slice none 0 0, .slice none 0 0]) 29, .blk b6 ([.int .i64 z60_0_0, .int .i64 z60_0_1, .int .i32 z60_0_2, .int .i64 z60_0_3, .int .i32 z60_0_4, .int .i32 z60_0_5, .int .i64 z60_0_6, .int .i64 z60_0_7, .slice z61_A z61_n z61_c, .bool z60_2]) 96, .blk b2 ([.slice none 0 0, .slice none 0 0, .slice none 0 0, .slice none 0 0, .slice none 0 0, .slice none 0 0]) 29, .blk b1 ([.int .i64 a0_0, .int .i64 a0_1, .int .i32 a0_2, .int .i64 a0_3, .int .i32 a0_4, .int .i32 a0_5, .int .i64 a0_6, .int .i64 a0_7]) 23] [.rowL (CI .u8) z61_A z61_n z61_c z61, .rowL (CI .u8) y24_A y24_n y24_c y24, .rowL (CI .u8) s15_A s15_n s15_c (subL (subL (subL a1 32 (a1.length : Int)) 32 ((subL a1 32 (a1.length : Int)).length : Int)) 64 ((subL (subL a1 32 (a1.length : Int)) 32 ((subL a1 32 (a1.length : Int)).length : Int)).length : Int)), .rowL (CI .u8) s14_A s14_n s14_c (subL (subL (subL a1 32 (a1.length : Int)) 32 ((subL a1 32 (a1.length : Int)).length : Int)) 0 64), .rowL (CI .u8) s12_A s12_n s12_c (subL (subL a1 32 (a1.length : Int)) 32 ((subL a1 32 (a1.length : Int)).length : Int)), .rowL (CI .u8) s11_A s11_n s11_c (subL (subL a1 32 (a1.length : Int)) 0 32), .rowL (CI .u8) s9_A s9_n s9_c (subL a1 32 (a1.length : Int)), .rowL (CI .u8) s8_A s8_n s8_c (subL a1 0 32), .rowL (CI .u8) a1_A a1_n a1_c a1] w ∧ ∃ g : Nat → Value, a = ⟨#[.pointer (some ⟨b6, 0, none⟩), .int .i64 y23_0_0, .agg #[.int .i32 y23_0_2, .int .i32 y23_0_2], undef, undef, .pointer (some ⟨b57, 0, none⟩), .slice none 0 0, .slice z59_A z59_n z59_c, (g 8), (g 9), .int .i64 y23_0_0, .int .i64 z58, (g 12), (g 13), (g 14), (g 15), (g 16), (g 17), (g 18), (g 19), (g 20), (g 21), (g 22), (g 23), (g 24), (g 25), (g 26), (g 27), (g 28), (g 29), (g 30), (g 31), (g 32), (g 33), (g 34), (g 35), (g 36), (g 37), (g 38), (g 39), (g 40), undef], []⟩) K ⟨0, ([] : List (Arr 256)), y23_0_0, y23_0_1, y23_0_2, y23_0_3, y23_0_4, y23_0_5, y23_0_6, y23_0_7, y23_2, y24, none, 0, 0, y24_A, y24_n, y24_c, hy, (hs.conv (L' := [.ownL (CA .i32 256 (by decide)) none 0 0 ([] : List (Arr 256)) 40, .blk b57 ([.int .i32 y23_0_2, .int .i32 y23_0_2]) 73, .ownL (CA .i32 256 (by decide)) y22_A y22_n y22_c y22 40, .blk b17 ([.int .i32 a0_2, .int .i32 a0_2]) 73, .ownL (CI .u8) r16_A r16_n r16_c r16 5, .ownL (CI .u8) r13_A r13_n r13_c r13 5, .ownL (CI .u8) r10_A r10_n r10_c r10 5, .blk b7 ([.slice r10_A r10_n r10_c, .slice r13_A r13_n r13_c, .slice r16_A r16_n r16_c, .slice y22_A y22_n y22_c, .slice none 0 0, .slice none 0 0]) 29, .blk b6 ([.int .i64 y23_0_0, .int .i64 y23_0_1, .int .i32 y23_0_2, .int .i64 y23_0_3, .int .i32 y23_0_4, .int .i32 y23_0_5, .int .i64 y23_0_6, .int .i64 y23_0_7, .slice y24_A y24_n y24_c, .bool y23_2]) 96, .blk b2 ([.slice none 0 0, .slice none 0 0, .slice none 0 0, .slice none 0 0, .slice none 0 0, .slice none 0 0]) 29, .blk b1 ([.int .i64 a0_0, .int .i64 a0_1, .int .i32 a0_2, .int .i64 a0_3, .int .i32 a0_4, .int .i32 a0_5, .int .i64 a0_6, .int .i64 a0_7]) 23]) rfl).pickR (pick_cons 0 rfl (pick_cons 0 rfl (pick_cons 1 rfl (pick_cons 2 rfl (pick_cons 3 rfl (pick_cons 4 rfl (pick_cons 5 rfl (pick_cons 6 rfl (pick_cons 7 rfl pick_nil))))))))), exg (by kernel_rfl)⟩ ?_
     clear hs h hy
     rintro n a w ⟨z58, z59, z60_0_0, z60_0_1, z60_0_2, z60_0_3, z60_0_4, z60_0_5, z60_0_6, z60_0_7, z60_2, z61, z59_A, z59_n, z59_c, z61_A, z61_n, z61_c, h, hs, g, rfl⟩ KL1 kl1
     cases n with
     | zero => exact nomatch (show none = some _ from h)
     | succ n =>
      refine xseq_k fun KS124 ks124 => ?_
      refine wp_regS (l := [0]) (by kernel_rfl) (by kernel_rfl) fun KR125 kr125 => ?_
      rcases of_if h with ⟨hc, h⟩ | ⟨hc, h⟩
      ·refine wpS.take 0 false (some 12) (.bool true) (by kernel_rfl) (yld_b (dt hc) (fun _ => by kernel_rfl)) ?_
       refine wpS.fin rfl (kr125 _ _ ?_)
       refine then_n (ks124 _ _ ?_)
       refine xseq_k fun KS126 ks126 => ?_
       refine wp_cond_t (by kernel_rfl) ?_
       refine xskip ?_
       refine then_n (ks126 _ _ ?_)
       refine xseq_k fun KS127 ks127 => ?_
       refine xblock ?_
       refine xseq_k fun KS128 ks128 => ?_
       obtain ⟨⟨y66, y67, y68_0_0, y68_0_1, y68_0_2, y68_0_3, y68_0_4, y68_0_5, y68_0_6, y68_0_7, y68_2, y69⟩, hj, h⟩ := of_bind h
       refine wp_join (N := fun a w => ∃ (b65 : Nat) (y69_A : Option Addr) (y69_n : Nat) (y69_c : Nat), St w0 [] [.blk b65 (enc .i32 y66) 40, .ownL (CA .i32 256 (by decide)) z59_A z59_n z59_c z59 40, .blk b57 ([.int .i32 y23_0_2, .int .i32 y23_0_2]) 73, .ownL (CA .i32 256 (by decide)) y22_A y22_n y22_c y22 40, .blk b17 ([.int .i32 a0_2, .int .i32 a0_2]) 73, .ownL (CI .u8) r16_A r16_n r16_c r16 5, .ownL (CI .u8) r13_A r13_n r13_c r13 5, .ownL (CI .u8) r10_A r10_n r10_c r10 5, .blk b7 ([.slice r10_A r10_n r10_c, .slice r13_A r13_n r13_c, .slice r16_A r16_n r16_c, .slice y22_A y22_n y22_c, .slice none 0 0, .slice none 0 0]) 29, .blk b6 ([.int .i64 y68_0_0, .int .i64 y68_0_1, .int .i32 y68_0_2, .int .i64 y68_0_3, .int .i32 y68_0_4, .int .i32 y68_0_5, .int .i64 y68_0_6, .int .i64 y68_0_7, .slice y69_A y69_n y69_c, .bool y68_2]) 96, .blk b2 ([.slice none 0 0, .slice none 0 0, .slice none 0 0, .slice none 0 0, .slice none 0 0, .slice none 0 0]) 29, .blk b1 ([.int .i64 a0_0, .int .i64 a0_1, .int .i32 a0_2, .int .i64 a0_3, .int .i32 a0_4, .int .i32 a0_5, .int .i64 a0_6, .int .i64 a0_7]) 23] [.rowL (CI .u8) y69_A y69_n y69_c y69, .rowL (CI .u8) z61_A z61_n z61_c z61, .rowL (CI .u8) y24_A y24_n y24_c y24, .rowL (CI .u8) s15_A s15_n s15_c (subL (subL (subL a1 32 (a1.length : Int)) 32 ((subL a1 32 (a1.length : Int)).length : Int)) 64 ((subL (subL a1 32 (a1.length : Int)) 32 ((subL a1 32 (a1.length : Int)).length : Int)).length : Int)), .rowL (CI .u8) s14_A s14_n s14_c (subL (subL (subL a1 32 (a1.length : Int)) 32 ((subL a1 32 (a1.length : Int)).length : Int)) 0 64), .rowL (CI .u8) s12_A s12_n s12_c (subL (subL a1 32 (a1.length : Int)) 32 ((subL a1 32 (a1.length : Int)).length : Int)), .rowL (CI .u8) s11_A s11_n s11_c (subL (subL a1 32 (a1.length : Int)) 0 32), .rowL (CI .u8) s9_A s9_n s9_c (subL a1 32 (a1.length : Int)), .rowL (CI .u8) s8_A s8_n s8_c (subL a1 0 32), .rowL (CI .u8) a1_A a1_n a1_c a1] w ∧ ∃ g : Nat → Value, a = ⟨#[.pointer (some ⟨b6, 0, none⟩), .int .i64 y23_0_0, .agg #[.int .i32 y23_0_2, .int .i32 y23_0_2], undef, undef, .pointer (some ⟨b57, 0, none⟩), .slice none 0 0, .slice z59_A z59_n z59_c, .pointer (some ⟨b65, 0, none⟩), .bool y67, .int .i64 y23_0_0, .int .i64 z58, .bool true, (g 13), (g 14), (g 15), (g 16), (g 17), (g 18), (g 19), (g 20), (g 21), (g 22), (g 23), (g 24), (g 25), (g 26), (g 27), (g 28), (g 29), (g 30), (g 31), (g 32), (g 33), (g 34), (g 35), (g 36), (g 37), (g 38), (g 39), (g 40), undef], []⟩) (fun N nj => ?_) ?_
       ·clear h
        have h := hj
        refine wp_regG [3, 13] (fun k => ¬ k = b57) 15 (by kernel_rfl) (by kernel_rfl) (by kernel_rfl) fun KR129 kr129 => ?_
        have hs := hs.drawn1
        refine wpG.takeD 0 false (some 14) (.pointer (some ⟨b6, 0, none⟩)) (by kernel_rfl) (by kernel_rfl) (yld fun _ => by kernel_rfl) ?_
        refine wpG.take [1, 2, 3, 8, 9, 10, 11, 13, 14] 1 true (some 15) (.agg #[.int .i32 y23_0_2, .int .i32 y23_0_2]) (by kernel_rfl) (by kernel_rfl) (yld_loadW (e := 73) (n := 2) hs 1 rfl (by kernel_rfl) (by kernel_rfl) (by kernel_rfl) (by simp [enc_len]) .grow) ?_
        refine wpG.takeD 4 false (some 18) (.pointer (some ⟨b57, 0, none⟩)) (by kernel_rfl) (by kernel_rfl) (yld fun _ => by kernel_rfl) ?_
        refine wpG.takeK [5, 8, 9, 10, 11, 13, 14] 5 (some 19) (.int .i32 y23_0_2) (by kernel_rfl) (by kernel_rfl) (yld_load1 (e := 21) (o := 0) hs 1 rfl (by kernel_rfl) (by kernel_rfl) (by rfl) (.keep (fun hn => hn rfl))) ?_
        refine wpG.takeD 6 false (some 20) (.pointer (some ⟨b57, 1, none⟩)) (by kernel_rfl) (by kernel_rfl) (yld fun _ => by kernel_rfl) ?_
        refine wpG.takeK [7, 8, 9, 10, 11, 13, 14] 7 (some 21) (.int .i32 y23_0_2) (by kernel_rfl) (by kernel_rfl) (yld_load1 (e := 21) (o := 1) hs 1 rfl (by kernel_rfl) (by kernel_rfl) (by rfl) (.keep (fun hn => hn rfl))) ?_
        refine wpG.many [2, 12] (by kernel_rfl) (by decide) (forall_cons ?_ (forall_cons ?_ forall_nil))
        ·obtain ⟨r70, hg, h⟩ := of_bind h
         refine (op_call (d := (some 16)) (by kernel_rfl) hs (fun _ => by kernel_rfl) (dpack_span_size.ok hg _) ?_)
         intro w gw hs
         refine ⟨.of gw, ?_⟩
         refine wpG.many [3, 12] (by kernel_rfl) (by decide) (forall_cons ?_ (forall_cons ?_ forall_nil))
         ·have hsB131 := hs
          refine (op_inline (d := (some 17)) (f := 61) (args := #[.pointer (some ⟨b6, 0, none⟩), .int .i64 r70]) (by kernel_rfl) (fun _ => by kernel_rfl) fun R130 kI130 => ?_)
          refine calls_k Try.func61 rfl fun Q130 qq130 => ?_
          refine wp_conv (a' := ⟨#[.pointer (some ⟨b6, 0, none⟩), .int .i64 r70, undef, undef, undef, undef, undef, undef, undef, undef, undef, undef, undef, undef, undef, undef, undef, undef, undef, undef, undef, undef, undef], []⟩) (by kernel_rfl) ?_
          refine xseq_k fun KS132 ks132 => ?_
          refine wp_regS (l := [0]) (by kernel_rfl) (by kernel_rfl) fun KR133 kr133 => ?_
          refine wpS.p 0 4 (.slice none 0 0) (by kernel_rfl) ?_
          refine wpS.fin rfl (kr133 _ _ ?_)
          refine then_n (ks132 _ _ ?_)
          refine xseq_k fun KS134 ks134 => ?_
          refine wp_regS (l := [0, 1, 2, 3, 4, 5, 6]) (by kernel_rfl) (by kernel_rfl) fun KR135 kr135 => ?_
          refine wpS.ps [(0, 6, .pointer (some ⟨b6, 0, none⟩)), (1, 7, .pointer (some ⟨b6, 0, none⟩)), (2, 8, .pointer (some ⟨b6, 8, none⟩))] (by kernel_rfl) ?_
          refine wpS.take 3 true (some 9) (.slice z61_A z61_n z61_c) (by kernel_rfl) (yld_load1 (e := 24) (o := 8) hs 8 rfl (by kernel_rfl) (by kernel_rfl) (by rfl) .grow) ?_
          refine wpS.p 4 10 (.int .i64 r70) (by kernel_rfl) ?_
          obtain ⟨h0, h⟩ := of_chk h
          obtain ⟨h1, h⟩ := of_chk h
          obtain ⟨h2, h⟩ := of_chk h
          obtain ⟨s71_A, hA⟩ : ∃ A, A = if z61_c = (0 : Int).toNat then z61_A else adr z61_A ((0 : Int).toNat * Cod.size (CI .u8)) := ⟨_, rfl⟩
          obtain ⟨s71_n, hn⟩ : ∃ n, n = (r70 : Int).toNat - (0 : Int).toNat := ⟨_, rfl⟩
          obtain ⟨s71_c, hc⟩ : ∃ c, c = z61_c - (0 : Int).toNat := ⟨_, rfl⟩
          refine wpS.take 5 false (some 11) (.slice s71_A s71_n s71_c) (by kernel_rfl) (yld_sub (C := (CI .u8)) (t := 24) (e := 5) (low := none) (high := some (.int .i64 r70)) (lo := 0) (hi := r70) (hs.rowR 0 rfl) (by kernel_rfl) (by kernel_rfl) (by kernel_rfl) (.inl ⟨rfl, rfl⟩) (.inr ⟨_, rfl⟩) h0 h1 h2 hA hn hc) ?_
          have hs := hs.addSub (C := (CI .u8)) 0 rfl h0 h1 h2 hA hn hc
          refine wpS.p 6 5 (.slice s71_A s71_n s71_c) (by kernel_rfl) ?_
          refine wpS.fin rfl (kr135 _ _ ?_)
          refine then_n (ks134 _ _ ?_)
          refine xseq_k fun KS136 ks136 => ?_
          refine wp_regS (l := [0, 1, 2, 3, 4, 5, 6, 7, 8, 9]) (by kernel_rfl) (by kernel_rfl) fun KR137 kr137 => ?_
          refine wpS.ps [(0, 12, .pointer (some ⟨b6, 0, none⟩)), (1, 13, .pointer (some ⟨b6, 0, none⟩)), (2, 14, .pointer (some ⟨b6, 0, none⟩)), (3, 15, .pointer (some ⟨b6, 8, none⟩))] (by kernel_rfl) ?_
          refine wpS.take 4 true (some 16) (.slice z61_A z61_n z61_c) (by kernel_rfl) (yld_load1 (e := 24) (o := 8) hs 8 rfl (by kernel_rfl) (by kernel_rfl) (by rfl) .grow) ?_
          refine wpS.p 5 17 (.int .i64 r70) (by kernel_rfl) ?_
          obtain ⟨h0, h⟩ := of_chk h
          obtain ⟨h1, h⟩ := of_chk h
          obtain ⟨h2, h⟩ := of_chk h
          obtain ⟨s72_A, hA⟩ : ∃ A, A = if z61_c = (r70 : Int).toNat then z61_A else adr z61_A ((r70 : Int).toNat * Cod.size (CI .u8)) := ⟨_, rfl⟩
          obtain ⟨s72_n, hn⟩ : ∃ n, n = ((z61.length : Int) : Int).toNat - (r70 : Int).toNat := ⟨_, rfl⟩
          obtain ⟨s72_c, hc⟩ : ∃ c, c = z61_c - (r70 : Int).toNat := ⟨_, rfl⟩
          refine wpS.take 6 false (some 18) (.slice s72_A s72_n s72_c) (by kernel_rfl) (yld_sub (C := (CI .u8)) (t := 24) (e := 5) (low := some (.int .i64 r70)) (high := none) (lo := r70) (hi := (z61.length : Int)) (hs.rowR 1 rfl) (by kernel_rfl) (by kernel_rfl) (by kernel_rfl) (.inr ⟨_, rfl⟩) (.inl ⟨rfl, rfl⟩) h0 h1 h2 hA hn hc) ?_
          have hs := hs.addSub (C := (CI .u8)) 1 rfl h0 h1 h2 hA hn hc
          refine wpS.ps [(7, 19, .pointer (some ⟨b6, 0, none⟩)), (8, 20, .pointer (some ⟨b6, 8, none⟩))] (by kernel_rfl) ?_
          refine wpS.only 9 (op_store1 (t := 24) (o := 8) (v := .slice s72_A s72_n s72_c) (d := none) (by kernel_rfl) hs 8 rfl (by kernel_rfl) rfl (by kernel_rfl) (by simp) ?_)
          intro w kp hs
          refine ⟨fun _ => trivial, ?_⟩
          refine wpS.fin rfl (kr137 _ _ ?_)
          refine then_n (ks136 _ _ ?_)
          refine xseq_k fun KS138 ks138 => ?_
          refine wp_regS (l := [0, 1, 2]) (by kernel_rfl) (by kernel_rfl) fun KR139 kr139 => ?_
          refine wpS.p 0 21 (.slice s71_A s71_n s71_c) (by kernel_rfl) ?_
          obtain ⟨r73, hg, h⟩ := of_bind h
          refine wpS.only 1 (op_callH (d := (some 22)) (by kernel_rfl) hs (fun _ => by kernel_rfl) (slices_Clone_byte_byte.ok hg _ (hs.rowR 1 rfl)) ?_)
          rintro ⟨r73_A, r73_n, r73_c⟩ w gw hs
          have hs := hs.conv (L' := [.ownL (CI .u8) r73_A r73_n r73_c r73 5, .ownL (CA .i32 256 (by decide)) z59_A z59_n z59_c z59 40, .blk b57 ([.int .i32 y23_0_2, .int .i32 y23_0_2]) 73, .ownL (CA .i32 256 (by decide)) y22_A y22_n y22_c y22 40, .blk b17 ([.int .i32 a0_2, .int .i32 a0_2]) 73, .ownL (CI .u8) r16_A r16_n r16_c r16 5, .ownL (CI .u8) r13_A r13_n r13_c r13 5, .ownL (CI .u8) r10_A r10_n r10_c r10 5, .blk b7 ([.slice r10_A r10_n r10_c, .slice r13_A r13_n r13_c, .slice r16_A r16_n r16_c, .slice y22_A y22_n y22_c, .slice none 0 0, .slice none 0 0]) 29, .blk b6 ([.int .i64 z60_0_0, .int .i64 z60_0_1, .int .i32 z60_0_2, .int .i64 z60_0_3, .int .i32 z60_0_4, .int .i32 z60_0_5, .int .i64 z60_0_6, .int .i64 z60_0_7, .slice s72_A s72_n s72_c, .bool z60_2]) 96, .blk b2 ([.slice none 0 0, .slice none 0 0, .slice none 0 0, .slice none 0 0, .slice none 0 0, .slice none 0 0]) 29, .blk b1 ([.int .i64 a0_0, .int .i64 a0_1, .int .i32 a0_2, .int .i64 a0_3, .int .i32 a0_4, .int .i32 a0_5, .int .i64 a0_6, .int .i64 a0_7]) 23]) rfl
          refine ⟨fun _ => trivial, ?_⟩
          refine wpS.p 2 4 (.slice r73_A r73_n r73_c) (by kernel_rfl) ?_
          refine wpS.fin rfl (kr139 _ _ ?_)
          refine then_n (ks138 _ _ ?_)
          refine xret ?_
          refine qq130 _ _ (post_ret (by kernel_rfl) (run_results [.tmp 4] [.slice r73_A r73_n r73_c] (by kernel_rfl) (.cons (res_tmp (by kernel_rfl)) .nil)) ?_)
          refine kI130 _ _ ?_
          refine ⟨⟨fun hf => absurd hf (by decide), (keepB1 (hsB131.blkAt 1 rfl) (hs.blkAt 2 rfl))⟩, ?_⟩
          refine wpG.many [8, 12] (by kernel_rfl) (by decide) (forall_cons ?_ (forall_cons ?_ forall_nil))
          ·obtain ⟨⟨r74, r75⟩, hg, h⟩ := of_bind h
           refine (op_call (d := (some 22)) (by kernel_rfl) hs (fun _ => by kernel_rfl) (dpack_Unpack.ok hg _ (hs.rowL 0 rfl)) ?_)
           intro w gw hs
           refine ⟨.of gw, ?_⟩
           refine wpG.p 9 13 (.tuple #[.agg (enc .i32 r74).toArray, .bool r75]) (by kernel_rfl) (by kernel_rfl) ?_
           refine wpG.p 10 23 (.agg (enc .i32 r74).toArray) (by kernel_rfl) (by kernel_rfl) ?_
           refine wpG.p 11 24 (.bool r75) (by kernel_rfl) (by kernel_rfl) ?_
           refine wpG.only 12 (by kernel_rfl) (op_alloc (t := 40) (d := (some 8)) (by kernel_rfl) hs (enc .i32 (zeroA 256)) (.agg (enc .i32 (zeroA 256)).toArray) (by kernel_rfl) (by kernel_rfl) (by kernel_rfl) ?_)
           intro b76 w gw hs
           refine ⟨.of gw, ?_⟩
           have hsB140 := hs
           refine wpG.only 13 (by kernel_rfl) (op_storeW (t := 40) (v := .agg (enc .i32 r74).toArray) (d := none) (by kernel_rfl) hs 0 rfl (vs := enc .i32 r74) (n := 256) (by kernel_rfl) (by kernel_rfl) (by kernel_rfl) (by simp [enc_len]) (by simp [enc_len]) (by intro u hu; exact enc_one _ _ u hu) ?_)
           intro w kp hs
           refine ⟨⟨fun hf => absurd hf (by decide), (keepB1 (hsB140.blkAt 3 rfl) (hs.blkAt 3 rfl))⟩, ?_⟩
           refine wpG.p 14 9 (.bool r75) (by kernel_rfl) (by kernel_rfl) ?_
           refine wpG.fin (by kernel_rfl) rfl (kr129 _ _ ?_)
           obtain ⟨q0, qr0⟩ := Prod.mk.inj (of_some h)
           obtain ⟨q1, qr1⟩ := Prod.mk.inj (qr0)
           obtain ⟨q2, qr2⟩ := Prod.mk.inj (qr1)
           obtain ⟨q3, qr3⟩ := Prod.mk.inj (qr2)
           obtain ⟨q4, qr4⟩ := Prod.mk.inj (qr3)
           obtain ⟨q5, qr5⟩ := Prod.mk.inj (qr4)
           obtain ⟨q6, qr6⟩ := Prod.mk.inj (qr5)
           obtain ⟨q7, qr7⟩ := Prod.mk.inj (qr6)
           obtain ⟨q8, qr8⟩ := Prod.mk.inj (qr7)
           obtain ⟨q9, qr9⟩ := Prod.mk.inj (qr8)
           obtain ⟨q10, qr10⟩ := Prod.mk.inj (qr9)
           have q11 := qr10
           subst q0
           subst q1
           subst q2
           subst q3
           subst q4
           subst q5
           subst q6
           subst q7
           subst q8
           subst q9
           subst q10
           subst q11
           exact nj _ _ ⟨b76, s72_A, s72_n, s72_c, ((hs.drop (.cons_cons _ (.cons _ (.cons_cons _ (.cons_cons _ (.cons_cons _ (.cons_cons _ (.cons_cons _ (.cons_cons _ (.cons_cons _ (.cons_cons _ (.cons_cons _ (.cons_cons _ (.cons_cons _ .slnil)))))))))))))).pickR (pick_cons 0 rfl (pick_cons 2 rfl (pick_cons 3 rfl (pick_cons 4 rfl (pick_cons 5 rfl (pick_cons 6 rfl (pick_cons 7 rfl (pick_cons 8 rfl (pick_cons 9 rfl (pick_cons 10 rfl pick_nil))))))))))), exg (by kernel_rfl)⟩
          ·refine (op_alloc (t := 40) (d := (some 8)) (by kernel_rfl) hs (enc .i32 (zeroA 256)) (.agg (enc .i32 (zeroA 256)).toArray) (by kernel_rfl) (by kernel_rfl) (by kernel_rfl) ?_)
           intro b77 w gw hs
           refine ⟨.of gw, ?_⟩
           obtain ⟨⟨r78, r79⟩, hg, h⟩ := of_bind h
           refine wpG.only 8 (by kernel_rfl) (op_call (d := (some 22)) (by kernel_rfl) hs (fun _ => by kernel_rfl) (dpack_Unpack.ok hg _ (hs.rowL 1 rfl)) ?_)
           intro w gw hs
           refine ⟨.of gw, ?_⟩
           refine wpG.p 9 13 (.tuple #[.agg (enc .i32 r78).toArray, .bool r79]) (by kernel_rfl) (by kernel_rfl) ?_
           refine wpG.p 10 23 (.agg (enc .i32 r78).toArray) (by kernel_rfl) (by kernel_rfl) ?_
           refine wpG.p 11 24 (.bool r79) (by kernel_rfl) (by kernel_rfl) ?_
           have hsB141 := hs
           refine wpG.only 13 (by kernel_rfl) (op_storeW (t := 40) (v := .agg (enc .i32 r78).toArray) (d := none) (by kernel_rfl) hs 0 rfl (vs := enc .i32 r78) (n := 256) (by kernel_rfl) (by kernel_rfl) (by kernel_rfl) (by simp [enc_len]) (by simp [enc_len]) (by intro u hu; exact enc_one _ _ u hu) ?_)
           intro w kp hs
           refine ⟨⟨fun hf => absurd hf (by decide), (keepB1 (hsB141.blkAt 3 rfl) (hs.blkAt 3 rfl))⟩, ?_⟩
           refine wpG.p 14 9 (.bool r79) (by kernel_rfl) (by kernel_rfl) ?_
           refine wpG.fin (by kernel_rfl) rfl (kr129 _ _ ?_)
           obtain ⟨q0, qr0⟩ := Prod.mk.inj (of_some h)
           obtain ⟨q1, qr1⟩ := Prod.mk.inj (qr0)
           obtain ⟨q2, qr2⟩ := Prod.mk.inj (qr1)
           obtain ⟨q3, qr3⟩ := Prod.mk.inj (qr2)
           obtain ⟨q4, qr4⟩ := Prod.mk.inj (qr3)
           obtain ⟨q5, qr5⟩ := Prod.mk.inj (qr4)
           obtain ⟨q6, qr6⟩ := Prod.mk.inj (qr5)
           obtain ⟨q7, qr7⟩ := Prod.mk.inj (qr6)
           obtain ⟨q8, qr8⟩ := Prod.mk.inj (qr7)
           obtain ⟨q9, qr9⟩ := Prod.mk.inj (qr8)
           obtain ⟨q10, qr10⟩ := Prod.mk.inj (qr9)
           have q11 := qr10
           subst q0
           subst q1
           subst q2
           subst q3
           subst q4
           subst q5
           subst q6
           subst q7
           subst q8
           subst q9
           subst q10
           subst q11
           exact nj _ _ ⟨b77, s72_A, s72_n, s72_c, ((hs.drop (.cons_cons _ (.cons _ (.cons_cons _ (.cons_cons _ (.cons_cons _ (.cons_cons _ (.cons_cons _ (.cons_cons _ (.cons_cons _ (.cons_cons _ (.cons_cons _ (.cons_cons _ (.cons_cons _ .slnil)))))))))))))).pickR (pick_cons 0 rfl (pick_cons 2 rfl (pick_cons 3 rfl (pick_cons 4 rfl (pick_cons 5 rfl (pick_cons 6 rfl (pick_cons 7 rfl (pick_cons 8 rfl (pick_cons 9 rfl (pick_cons 10 rfl pick_nil))))))))))), exg (by kernel_rfl)⟩
         ·refine (op_alloc (t := 40) (d := (some 8)) (by kernel_rfl) hs (enc .i32 (zeroA 256)) (.agg (enc .i32 (zeroA 256)).toArray) (by kernel_rfl) (by kernel_rfl) (by kernel_rfl) ?_)
          intro b80 w gw hs
          refine ⟨.of gw, ?_⟩
          have hsB143 := hs
          refine wpG.only 3 (by kernel_rfl) (op_inline (d := (some 17)) (f := 61) (args := #[.pointer (some ⟨b6, 0, none⟩), .int .i64 r70]) (by kernel_rfl) (fun _ => by kernel_rfl) fun R142 kI142 => ?_)
          refine calls_k Try.func61 rfl fun Q142 qq142 => ?_
          refine wp_conv (a' := ⟨#[.pointer (some ⟨b6, 0, none⟩), .int .i64 r70, undef, undef, undef, undef, undef, undef, undef, undef, undef, undef, undef, undef, undef, undef, undef, undef, undef, undef, undef, undef, undef], []⟩) (by kernel_rfl) ?_
          refine xseq_k fun KS144 ks144 => ?_
          refine wp_regS (l := [0]) (by kernel_rfl) (by kernel_rfl) fun KR145 kr145 => ?_
          refine wpS.p 0 4 (.slice none 0 0) (by kernel_rfl) ?_
          refine wpS.fin rfl (kr145 _ _ ?_)
          refine then_n (ks144 _ _ ?_)
          refine xseq_k fun KS146 ks146 => ?_
          refine wp_regS (l := [0, 1, 2, 3, 4, 5, 6]) (by kernel_rfl) (by kernel_rfl) fun KR147 kr147 => ?_
          refine wpS.ps [(0, 6, .pointer (some ⟨b6, 0, none⟩)), (1, 7, .pointer (some ⟨b6, 0, none⟩)), (2, 8, .pointer (some ⟨b6, 8, none⟩))] (by kernel_rfl) ?_
          refine wpS.take 3 true (some 9) (.slice z61_A z61_n z61_c) (by kernel_rfl) (yld_load1 (e := 24) (o := 8) hs 9 rfl (by kernel_rfl) (by kernel_rfl) (by rfl) .grow) ?_
          refine wpS.p 4 10 (.int .i64 r70) (by kernel_rfl) ?_
          obtain ⟨h0, h⟩ := of_chk h
          obtain ⟨h1, h⟩ := of_chk h
          obtain ⟨h2, h⟩ := of_chk h
          obtain ⟨s81_A, hA⟩ : ∃ A, A = if z61_c = (0 : Int).toNat then z61_A else adr z61_A ((0 : Int).toNat * Cod.size (CI .u8)) := ⟨_, rfl⟩
          obtain ⟨s81_n, hn⟩ : ∃ n, n = (r70 : Int).toNat - (0 : Int).toNat := ⟨_, rfl⟩
          obtain ⟨s81_c, hc⟩ : ∃ c, c = z61_c - (0 : Int).toNat := ⟨_, rfl⟩
          refine wpS.take 5 false (some 11) (.slice s81_A s81_n s81_c) (by kernel_rfl) (yld_sub (C := (CI .u8)) (t := 24) (e := 5) (low := none) (high := some (.int .i64 r70)) (lo := 0) (hi := r70) (hs.rowR 0 rfl) (by kernel_rfl) (by kernel_rfl) (by kernel_rfl) (.inl ⟨rfl, rfl⟩) (.inr ⟨_, rfl⟩) h0 h1 h2 hA hn hc) ?_
          have hs := hs.addSub (C := (CI .u8)) 0 rfl h0 h1 h2 hA hn hc
          refine wpS.p 6 5 (.slice s81_A s81_n s81_c) (by kernel_rfl) ?_
          refine wpS.fin rfl (kr147 _ _ ?_)
          refine then_n (ks146 _ _ ?_)
          refine xseq_k fun KS148 ks148 => ?_
          refine wp_regS (l := [0, 1, 2, 3, 4, 5, 6, 7, 8, 9]) (by kernel_rfl) (by kernel_rfl) fun KR149 kr149 => ?_
          refine wpS.ps [(0, 12, .pointer (some ⟨b6, 0, none⟩)), (1, 13, .pointer (some ⟨b6, 0, none⟩)), (2, 14, .pointer (some ⟨b6, 0, none⟩)), (3, 15, .pointer (some ⟨b6, 8, none⟩))] (by kernel_rfl) ?_
          refine wpS.take 4 true (some 16) (.slice z61_A z61_n z61_c) (by kernel_rfl) (yld_load1 (e := 24) (o := 8) hs 9 rfl (by kernel_rfl) (by kernel_rfl) (by rfl) .grow) ?_
          refine wpS.p 5 17 (.int .i64 r70) (by kernel_rfl) ?_
          obtain ⟨h0, h⟩ := of_chk h
          obtain ⟨h1, h⟩ := of_chk h
          obtain ⟨h2, h⟩ := of_chk h
          obtain ⟨s82_A, hA⟩ : ∃ A, A = if z61_c = (r70 : Int).toNat then z61_A else adr z61_A ((r70 : Int).toNat * Cod.size (CI .u8)) := ⟨_, rfl⟩
          obtain ⟨s82_n, hn⟩ : ∃ n, n = ((z61.length : Int) : Int).toNat - (r70 : Int).toNat := ⟨_, rfl⟩
          obtain ⟨s82_c, hc⟩ : ∃ c, c = z61_c - (r70 : Int).toNat := ⟨_, rfl⟩
          refine wpS.take 6 false (some 18) (.slice s82_A s82_n s82_c) (by kernel_rfl) (yld_sub (C := (CI .u8)) (t := 24) (e := 5) (low := some (.int .i64 r70)) (high := none) (lo := r70) (hi := (z61.length : Int)) (hs.rowR 1 rfl) (by kernel_rfl) (by kernel_rfl) (by kernel_rfl) (.inr ⟨_, rfl⟩) (.inl ⟨rfl, rfl⟩) h0 h1 h2 hA hn hc) ?_
          have hs := hs.addSub (C := (CI .u8)) 1 rfl h0 h1 h2 hA hn hc
          refine wpS.ps [(7, 19, .pointer (some ⟨b6, 0, none⟩)), (8, 20, .pointer (some ⟨b6, 8, none⟩))] (by kernel_rfl) ?_
          refine wpS.only 9 (op_store1 (t := 24) (o := 8) (v := .slice s82_A s82_n s82_c) (d := none) (by kernel_rfl) hs 9 rfl (by kernel_rfl) rfl (by kernel_rfl) (by simp) ?_)
          intro w kp hs
          refine ⟨fun _ => trivial, ?_⟩
          refine wpS.fin rfl (kr149 _ _ ?_)
          refine then_n (ks148 _ _ ?_)
          refine xseq_k fun KS150 ks150 => ?_
          refine wp_regS (l := [0, 1, 2]) (by kernel_rfl) (by kernel_rfl) fun KR151 kr151 => ?_
          refine wpS.p 0 21 (.slice s81_A s81_n s81_c) (by kernel_rfl) ?_
          obtain ⟨r83, hg, h⟩ := of_bind h
          refine wpS.only 1 (op_callH (d := (some 22)) (by kernel_rfl) hs (fun _ => by kernel_rfl) (slices_Clone_byte_byte.ok hg _ (hs.rowR 1 rfl)) ?_)
          rintro ⟨r83_A, r83_n, r83_c⟩ w gw hs
          have hs := hs.conv (L' := [.ownL (CI .u8) r83_A r83_n r83_c r83 5, .blk b80 (enc .i32 (zeroA 256)) 40, .ownL (CA .i32 256 (by decide)) z59_A z59_n z59_c z59 40, .blk b57 ([.int .i32 y23_0_2, .int .i32 y23_0_2]) 73, .ownL (CA .i32 256 (by decide)) y22_A y22_n y22_c y22 40, .blk b17 ([.int .i32 a0_2, .int .i32 a0_2]) 73, .ownL (CI .u8) r16_A r16_n r16_c r16 5, .ownL (CI .u8) r13_A r13_n r13_c r13 5, .ownL (CI .u8) r10_A r10_n r10_c r10 5, .blk b7 ([.slice r10_A r10_n r10_c, .slice r13_A r13_n r13_c, .slice r16_A r16_n r16_c, .slice y22_A y22_n y22_c, .slice none 0 0, .slice none 0 0]) 29, .blk b6 ([.int .i64 z60_0_0, .int .i64 z60_0_1, .int .i32 z60_0_2, .int .i64 z60_0_3, .int .i32 z60_0_4, .int .i32 z60_0_5, .int .i64 z60_0_6, .int .i64 z60_0_7, .slice s82_A s82_n s82_c, .bool z60_2]) 96, .blk b2 ([.slice none 0 0, .slice none 0 0, .slice none 0 0, .slice none 0 0, .slice none 0 0, .slice none 0 0]) 29, .blk b1 ([.int .i64 a0_0, .int .i64 a0_1, .int .i32 a0_2, .int .i64 a0_3, .int .i32 a0_4, .int .i32 a0_5, .int .i64 a0_6, .int .i64 a0_7]) 23]) rfl
          refine ⟨fun _ => trivial, ?_⟩
          refine wpS.p 2 4 (.slice r83_A r83_n r83_c) (by kernel_rfl) ?_
          refine wpS.fin rfl (kr151 _ _ ?_)
          refine then_n (ks150 _ _ ?_)
          refine xret ?_
          refine qq142 _ _ (post_ret (by kernel_rfl) (run_results [.tmp 4] [.slice r83_A r83_n r83_c] (by kernel_rfl) (.cons (res_tmp (by kernel_rfl)) .nil)) ?_)
          refine kI142 _ _ ?_
          refine ⟨⟨fun hf => absurd hf (by decide), (keepB1 (hsB143.blkAt 2 rfl) (hs.blkAt 3 rfl))⟩, ?_⟩
          obtain ⟨⟨r84, r85⟩, hg, h⟩ := of_bind h
          refine wpG.only 8 (by kernel_rfl) (op_call (d := (some 22)) (by kernel_rfl) hs (fun _ => by kernel_rfl) (dpack_Unpack.ok hg _ (hs.rowL 0 rfl)) ?_)
          intro w gw hs
          refine ⟨.of gw, ?_⟩
          refine wpG.p 9 13 (.tuple #[.agg (enc .i32 r84).toArray, .bool r85]) (by kernel_rfl) (by kernel_rfl) ?_
          refine wpG.p 10 23 (.agg (enc .i32 r84).toArray) (by kernel_rfl) (by kernel_rfl) ?_
          refine wpG.p 11 24 (.bool r85) (by kernel_rfl) (by kernel_rfl) ?_
          have hsB152 := hs
          refine wpG.only 13 (by kernel_rfl) (op_storeW (t := 40) (v := .agg (enc .i32 r84).toArray) (d := none) (by kernel_rfl) hs 1 rfl (vs := enc .i32 r84) (n := 256) (by kernel_rfl) (by kernel_rfl) (by kernel_rfl) (by simp [enc_len]) (by simp [enc_len]) (by intro u hu; exact enc_one _ _ u hu) ?_)
          intro w kp hs
          refine ⟨⟨fun hf => absurd hf (by decide), (keepB1 (hsB152.blkAt 3 rfl) (hs.blkAt 3 rfl))⟩, ?_⟩
          refine wpG.p 14 9 (.bool r85) (by kernel_rfl) (by kernel_rfl) ?_
          refine wpG.fin (by kernel_rfl) rfl (kr129 _ _ ?_)
          obtain ⟨q0, qr0⟩ := Prod.mk.inj (of_some h)
          obtain ⟨q1, qr1⟩ := Prod.mk.inj (qr0)
          obtain ⟨q2, qr2⟩ := Prod.mk.inj (qr1)
          obtain ⟨q3, qr3⟩ := Prod.mk.inj (qr2)
          obtain ⟨q4, qr4⟩ := Prod.mk.inj (qr3)
          obtain ⟨q5, qr5⟩ := Prod.mk.inj (qr4)
          obtain ⟨q6, qr6⟩ := Prod.mk.inj (qr5)
          obtain ⟨q7, qr7⟩ := Prod.mk.inj (qr6)
          obtain ⟨q8, qr8⟩ := Prod.mk.inj (qr7)
          obtain ⟨q9, qr9⟩ := Prod.mk.inj (qr8)
          obtain ⟨q10, qr10⟩ := Prod.mk.inj (qr9)
          have q11 := qr10
          subst q0
          subst q1
          subst q2
          subst q3
          subst q4
          subst q5
          subst q6
          subst q7
          subst q8
          subst q9
          subst q10
          subst q11
          exact nj _ _ ⟨b80, s82_A, s82_n, s82_c, ((hs.drop (.cons _ (.cons_cons _ (.cons_cons _ (.cons_cons _ (.cons_cons _ (.cons_cons _ (.cons_cons _ (.cons_cons _ (.cons_cons _ (.cons_cons _ (.cons_cons _ (.cons_cons _ (.cons_cons _ .slnil)))))))))))))).pickR (pick_cons 0 rfl (pick_cons 2 rfl (pick_cons 3 rfl (pick_cons 4 rfl (pick_cons 5 rfl (pick_cons 6 rfl (pick_cons 7 rfl (pick_cons 8 rfl (pick_cons 9 rfl (pick_cons 10 rfl pick_nil))))))))))), exg (by kernel_rfl)⟩
        ·refine (op_alloc (t := 40) (d := (some 8)) (by kernel_rfl) hs (enc .i32 (zeroA 256)) (.agg (enc .i32 (zeroA 256)).toArray) (by kernel_rfl) (by kernel_rfl) (by kernel_rfl) ?_)
         intro b86 w gw hs
         refine ⟨.of gw, ?_⟩
         obtain ⟨r87, hg, h⟩ := of_bind h
         refine wpG.only 2 (by kernel_rfl) (op_call (d := (some 16)) (by kernel_rfl) hs (fun _ => by kernel_rfl) (dpack_span_size.ok hg _) ?_)
         intro w gw hs
         refine ⟨.of gw, ?_⟩
         have hsB154 := hs
         refine wpG.only 3 (by kernel_rfl) (op_inline (d := (some 17)) (f := 61) (args := #[.pointer (some ⟨b6, 0, none⟩), .int .i64 r87]) (by kernel_rfl) (fun _ => by kernel_rfl) fun R153 kI153 => ?_)
         refine calls_k Try.func61 rfl fun Q153 qq153 => ?_
         refine wp_conv (a' := ⟨#[.pointer (some ⟨b6, 0, none⟩), .int .i64 r87, undef, undef, undef, undef, undef, undef, undef, undef, undef, undef, undef, undef, undef, undef, undef, undef, undef, undef, undef, undef, undef], []⟩) (by kernel_rfl) ?_
         refine xseq_k fun KS155 ks155 => ?_
         refine wp_regS (l := [0]) (by kernel_rfl) (by kernel_rfl) fun KR156 kr156 => ?_
         refine wpS.p 0 4 (.slice none 0 0) (by kernel_rfl) ?_
         refine wpS.fin rfl (kr156 _ _ ?_)
         refine then_n (ks155 _ _ ?_)
         refine xseq_k fun KS157 ks157 => ?_
         refine wp_regS (l := [0, 1, 2, 3, 4, 5, 6]) (by kernel_rfl) (by kernel_rfl) fun KR158 kr158 => ?_
         refine wpS.ps [(0, 6, .pointer (some ⟨b6, 0, none⟩)), (1, 7, .pointer (some ⟨b6, 0, none⟩)), (2, 8, .pointer (some ⟨b6, 8, none⟩))] (by kernel_rfl) ?_
         refine wpS.take 3 true (some 9) (.slice z61_A z61_n z61_c) (by kernel_rfl) (yld_load1 (e := 24) (o := 8) hs 9 rfl (by kernel_rfl) (by kernel_rfl) (by rfl) .grow) ?_
         refine wpS.p 4 10 (.int .i64 r87) (by kernel_rfl) ?_
         obtain ⟨h0, h⟩ := of_chk h
         obtain ⟨h1, h⟩ := of_chk h
         obtain ⟨h2, h⟩ := of_chk h
         obtain ⟨s88_A, hA⟩ : ∃ A, A = if z61_c = (0 : Int).toNat then z61_A else adr z61_A ((0 : Int).toNat * Cod.size (CI .u8)) := ⟨_, rfl⟩
         obtain ⟨s88_n, hn⟩ : ∃ n, n = (r87 : Int).toNat - (0 : Int).toNat := ⟨_, rfl⟩
         obtain ⟨s88_c, hc⟩ : ∃ c, c = z61_c - (0 : Int).toNat := ⟨_, rfl⟩
         refine wpS.take 5 false (some 11) (.slice s88_A s88_n s88_c) (by kernel_rfl) (yld_sub (C := (CI .u8)) (t := 24) (e := 5) (low := none) (high := some (.int .i64 r87)) (lo := 0) (hi := r87) (hs.rowR 0 rfl) (by kernel_rfl) (by kernel_rfl) (by kernel_rfl) (.inl ⟨rfl, rfl⟩) (.inr ⟨_, rfl⟩) h0 h1 h2 hA hn hc) ?_
         have hs := hs.addSub (C := (CI .u8)) 0 rfl h0 h1 h2 hA hn hc
         refine wpS.p 6 5 (.slice s88_A s88_n s88_c) (by kernel_rfl) ?_
         refine wpS.fin rfl (kr158 _ _ ?_)
         refine then_n (ks157 _ _ ?_)
         refine xseq_k fun KS159 ks159 => ?_
         refine wp_regS (l := [0, 1, 2, 3, 4, 5, 6, 7, 8, 9]) (by kernel_rfl) (by kernel_rfl) fun KR160 kr160 => ?_
         refine wpS.ps [(0, 12, .pointer (some ⟨b6, 0, none⟩)), (1, 13, .pointer (some ⟨b6, 0, none⟩)), (2, 14, .pointer (some ⟨b6, 0, none⟩)), (3, 15, .pointer (some ⟨b6, 8, none⟩))] (by kernel_rfl) ?_
         refine wpS.take 4 true (some 16) (.slice z61_A z61_n z61_c) (by kernel_rfl) (yld_load1 (e := 24) (o := 8) hs 9 rfl (by kernel_rfl) (by kernel_rfl) (by rfl) .grow) ?_
         refine wpS.p 5 17 (.int .i64 r87) (by kernel_rfl) ?_
         obtain ⟨h0, h⟩ := of_chk h
         obtain ⟨h1, h⟩ := of_chk h
         obtain ⟨h2, h⟩ := of_chk h
         obtain ⟨s89_A, hA⟩ : ∃ A, A = if z61_c = (r87 : Int).toNat then z61_A else adr z61_A ((r87 : Int).toNat * Cod.size (CI .u8)) := ⟨_, rfl⟩
         obtain ⟨s89_n, hn⟩ : ∃ n, n = ((z61.length : Int) : Int).toNat - (r87 : Int).toNat := ⟨_, rfl⟩
         obtain ⟨s89_c, hc⟩ : ∃ c, c = z61_c - (r87 : Int).toNat := ⟨_, rfl⟩
         refine wpS.take 6 false (some 18) (.slice s89_A s89_n s89_c) (by kernel_rfl) (yld_sub (C := (CI .u8)) (t := 24) (e := 5) (low := some (.int .i64 r87)) (high := none) (lo := r87) (hi := (z61.length : Int)) (hs.rowR 1 rfl) (by kernel_rfl) (by kernel_rfl) (by kernel_rfl) (.inr ⟨_, rfl⟩) (.inl ⟨rfl, rfl⟩) h0 h1 h2 hA hn hc) ?_
         have hs := hs.addSub (C := (CI .u8)) 1 rfl h0 h1 h2 hA hn hc
         refine wpS.ps [(7, 19, .pointer (some ⟨b6, 0, none⟩)), (8, 20, .pointer (some ⟨b6, 8, none⟩))] (by kernel_rfl) ?_
         refine wpS.only 9 (op_store1 (t := 24) (o := 8) (v := .slice s89_A s89_n s89_c) (d := none) (by kernel_rfl) hs 9 rfl (by kernel_rfl) rfl (by kernel_rfl) (by simp) ?_)
         intro w kp hs
         refine ⟨fun _ => trivial, ?_⟩
         refine wpS.fin rfl (kr160 _ _ ?_)
         refine then_n (ks159 _ _ ?_)
         refine xseq_k fun KS161 ks161 => ?_
         refine wp_regS (l := [0, 1, 2]) (by kernel_rfl) (by kernel_rfl) fun KR162 kr162 => ?_
         refine wpS.p 0 21 (.slice s88_A s88_n s88_c) (by kernel_rfl) ?_
         obtain ⟨r90, hg, h⟩ := of_bind h
         refine wpS.only 1 (op_callH (d := (some 22)) (by kernel_rfl) hs (fun _ => by kernel_rfl) (slices_Clone_byte_byte.ok hg _ (hs.rowR 1 rfl)) ?_)
         rintro ⟨r90_A, r90_n, r90_c⟩ w gw hs
         have hs := hs.conv (L' := [.ownL (CI .u8) r90_A r90_n r90_c r90 5, .blk b86 (enc .i32 (zeroA 256)) 40, .ownL (CA .i32 256 (by decide)) z59_A z59_n z59_c z59 40, .blk b57 ([.int .i32 y23_0_2, .int .i32 y23_0_2]) 73, .ownL (CA .i32 256 (by decide)) y22_A y22_n y22_c y22 40, .blk b17 ([.int .i32 a0_2, .int .i32 a0_2]) 73, .ownL (CI .u8) r16_A r16_n r16_c r16 5, .ownL (CI .u8) r13_A r13_n r13_c r13 5, .ownL (CI .u8) r10_A r10_n r10_c r10 5, .blk b7 ([.slice r10_A r10_n r10_c, .slice r13_A r13_n r13_c, .slice r16_A r16_n r16_c, .slice y22_A y22_n y22_c, .slice none 0 0, .slice none 0 0]) 29, .blk b6 ([.int .i64 z60_0_0, .int .i64 z60_0_1, .int .i32 z60_0_2, .int .i64 z60_0_3, .int .i32 z60_0_4, .int .i32 z60_0_5, .int .i64 z60_0_6, .int .i64 z60_0_7, .slice s89_A s89_n s89_c, .bool z60_2]) 96, .blk b2 ([.slice none 0 0, .slice none 0 0, .slice none 0 0, .slice none 0 0, .slice none 0 0, .slice none 0 0]) 29, .blk b1 ([.int .i64 a0_0, .int .i64 a0_1, .int .i32 a0_2, .int .i64 a0_3, .int .i32 a0_4, .int .i32 a0_5, .int .i64 a0_6, .int .i64 a0_7]) 23]) rfl
         refine ⟨fun _ => trivial, ?_⟩
         refine wpS.p 2 4 (.slice r90_A r90_n r90_c) (by kernel_rfl) ?_
         refine wpS.fin rfl (kr162 _ _ ?_)
         refine then_n (ks161 _ _ ?_)
         refine xret ?_
         refine qq153 _ _ (post_ret (by kernel_rfl) (run_results [.tmp 4] [.slice r90_A r90_n r90_c] (by kernel_rfl) (.cons (res_tmp (by kernel_rfl)) .nil)) ?_)
         refine kI153 _ _ ?_
         refine ⟨⟨fun hf => absurd hf (by decide), (keepB1 (hsB154.blkAt 2 rfl) (hs.blkAt 3 rfl))⟩, ?_⟩
         obtain ⟨⟨r91, r92⟩, hg, h⟩ := of_bind h
         refine wpG.only 8 (by kernel_rfl) (op_call (d := (some 22)) (by kernel_rfl) hs (fun _ => by kernel_rfl) (dpack_Unpack.ok hg _ (hs.rowL 0 rfl)) ?_)
         intro w gw hs
         refine ⟨.of gw, ?_⟩
         refine wpG.p 9 13 (.tuple #[.agg (enc .i32 r91).toArray, .bool r92]) (by kernel_rfl) (by kernel_rfl) ?_
         refine wpG.p 10 23 (.agg (enc .i32 r91).toArray) (by kernel_rfl) (by kernel_rfl) ?_
         refine wpG.p 11 24 (.bool r92) (by kernel_rfl) (by kernel_rfl) ?_
         have hsB163 := hs
         refine wpG.only 13 (by kernel_rfl) (op_storeW (t := 40) (v := .agg (enc .i32 r91).toArray) (d := none) (by kernel_rfl) hs 1 rfl (vs := enc .i32 r91) (n := 256) (by kernel_rfl) (by kernel_rfl) (by kernel_rfl) (by simp [enc_len]) (by simp [enc_len]) (by intro u hu; exact enc_one _ _ u hu) ?_)
         intro w kp hs
         refine ⟨⟨fun hf => absurd hf (by decide), (keepB1 (hsB163.blkAt 3 rfl) (hs.blkAt 3 rfl))⟩, ?_⟩
         refine wpG.p 14 9 (.bool r92) (by kernel_rfl) (by kernel_rfl) ?_
         refine wpG.fin (by kernel_rfl) rfl (kr129 _ _ ?_)
         obtain ⟨q0, qr0⟩ := Prod.mk.inj (of_some h)
         obtain ⟨q1, qr1⟩ := Prod.mk.inj (qr0)
         obtain ⟨q2, qr2⟩ := Prod.mk.inj (qr1)
         obtain ⟨q3, qr3⟩ := Prod.mk.inj (qr2)
         obtain ⟨q4, qr4⟩ := Prod.mk.inj (qr3)
         obtain ⟨q5, qr5⟩ := Prod.mk.inj (qr4)
         obtain ⟨q6, qr6⟩ := Prod.mk.inj (qr5)
         obtain ⟨q7, qr7⟩ := Prod.mk.inj (qr6)
         obtain ⟨q8, qr8⟩ := Prod.mk.inj (qr7)
         obtain ⟨q9, qr9⟩ := Prod.mk.inj (qr8)
         obtain ⟨q10, qr10⟩ := Prod.mk.inj (qr9)
         have q11 := qr10
         subst q0
         subst q1
         subst q2
         subst q3
         subst q4
         subst q5
         subst q6
         subst q7
         subst q8
         subst q9
         subst q10
         subst q11
         exact nj _ _ ⟨b86, s89_A, s89_n, s89_c, ((hs.drop (.cons _ (.cons_cons _ (.cons_cons _ (.cons_cons _ (.cons_cons _ (.cons_cons _ (.cons_cons _ (.cons_cons _ (.cons_cons _ (.cons_cons _ (.cons_cons _ (.cons_cons _ (.cons_cons _ .slnil)))))))))))))).pickR (pick_cons 0 rfl (pick_cons 2 rfl (pick_cons 3 rfl (pick_cons 4 rfl (pick_cons 5 rfl (pick_cons 6 rfl (pick_cons 7 rfl (pick_cons 8 rfl (pick_cons 9 rfl (pick_cons 10 rfl pick_nil))))))))))), exg (by kernel_rfl)⟩
       ·clear hj hs
        rintro a w ⟨b65, y69_A, y69_n, y69_c, hs, g, rfl⟩
        refine then_n (ks128 _ _ ?_)
        obtain ⟨⟨y93_0_0, y93_0_1, y93_0_2, y93_0_3, y93_0_4, y93_0_5, y93_0_6, y93_0_7, y93_2⟩, hj, h⟩ := of_bind h
        refine xseq_k fun KS164 ks164 => wp_join (N := fun a w => St w0 [] [.blk b65 (enc .i32 y66) 40, .ownL (CA .i32 256 (by decide)) z59_A z59_n z59_c z59 40, .blk b57 ([.int .i32 y23_0_2, .int .i32 y23_0_2]) 73, .ownL (CA .i32 256 (by decide)) y22_A y22_n y22_c y22 40, .blk b17 ([.int .i32 a0_2, .int .i32 a0_2]) 73, .ownL (CI .u8) r16_A r16_n r16_c r16 5, .ownL (CI .u8) r13_A r13_n r13_c r13 5, .ownL (CI .u8) r10_A r10_n r10_c r10 5, .blk b7 ([.slice r10_A r10_n r10_c, .slice r13_A r13_n r13_c, .slice r16_A r16_n r16_c, .slice y22_A y22_n y22_c, .slice none 0 0, .slice none 0 0]) 29, .blk b6 ([.int .i64 y93_0_0, .int .i64 y93_0_1, .int .i32 y93_0_2, .int .i64 y93_0_3, .int .i32 y93_0_4, .int .i32 y93_0_5, .int .i64 y93_0_6, .int .i64 y93_0_7, .slice y69_A y69_n y69_c, .bool y93_2]) 96, .blk b2 ([.slice none 0 0, .slice none 0 0, .slice none 0 0, .slice none 0 0, .slice none 0 0, .slice none 0 0]) 29, .blk b1 ([.int .i64 a0_0, .int .i64 a0_1, .int .i32 a0_2, .int .i64 a0_3, .int .i32 a0_4, .int .i32 a0_5, .int .i64 a0_6, .int .i64 a0_7]) 23] [.rowL (CI .u8) y69_A y69_n y69_c y69, .rowL (CI .u8) z61_A z61_n z61_c z61, .rowL (CI .u8) y24_A y24_n y24_c y24, .rowL (CI .u8) s15_A s15_n s15_c (subL (subL (subL a1 32 (a1.length : Int)) 32 ((subL a1 32 (a1.length : Int)).length : Int)) 64 ((subL (subL a1 32 (a1.length : Int)) 32 ((subL a1 32 (a1.length : Int)).length : Int)).length : Int)), .rowL (CI .u8) s14_A s14_n s14_c (subL (subL (subL a1 32 (a1.length : Int)) 32 ((subL a1 32 (a1.length : Int)).length : Int)) 0 64), .rowL (CI .u8) s12_A s12_n s12_c (subL (subL a1 32 (a1.length : Int)) 32 ((subL a1 32 (a1.length : Int)).length : Int)), .rowL (CI .u8) s11_A s11_n s11_c (subL (subL a1 32 (a1.length : Int)) 0 32), .rowL (CI .u8) s9_A s9_n s9_c (subL a1 32 (a1.length : Int)), .rowL (CI .u8) s8_A s8_n s8_c (subL a1 0 32), .rowL (CI .u8) a1_A a1_n a1_c a1] w ∧ ∃ g : Nat → Value, a = ⟨#[.pointer (some ⟨b6, 0, none⟩), .int .i64 y23_0_0, .agg #[.int .i32 y23_0_2, .int .i32 y23_0_2], undef, undef, .pointer (some ⟨b57, 0, none⟩), .slice none 0 0, .slice z59_A z59_n z59_c, .pointer (some ⟨b65, 0, none⟩), .bool y67, .int .i64 y23_0_0, .int .i64 z58, .bool true, (g 13), (g 14), (g 15), (g 16), (g 17), (g 18), (g 19), (g 20), (g 21), (g 22), (g 23), (g 24), (g 25), (g 26), (g 27), (g 28), (g 29), (g 30), (g 31), (g 32), (g 33), (g 34), (g 35), (g 36), (g 37), (g 38), (g 39), (g 40), undef], []⟩) (fun N nj => ?_) ?_
        ·clear h
         have h := hj
         refine wp_regS (l := [0, 1, 2, 3, 4, 5, 6, 7, 8, 9, 10, 11]) (by kernel_rfl) (by kernel_rfl) fun KR165 kr165 => ?_
         refine wpS.ps [(0, 25, .pointer (some ⟨b6, 0, none⟩)), (1, 26, .pointer (some ⟨b6, 0, none⟩)), (2, 27, .pointer (some ⟨b6, 0, none⟩)), (3, 28, .pointer (some ⟨b6, 9, none⟩))] (by kernel_rfl) ?_
         cases y68_2 with
         | true =>
          have h := of_if_t h
          refine wpS.take 4 true (some 29) (.bool true) (by kernel_rfl) (yld_load1 (e := 4) (o := 9) hs 9 rfl (by kernel_rfl) (by kernel_rfl) (by rfl) .grow) ?_
          refine wpS.ps [(5, 30, .bool true), (6, 31, undef), (7, 32, undef), (8, 33, .bool true), (9, 34, .pointer (some ⟨b6, 0, none⟩)), (10, 35, .pointer (some ⟨b6, 9, none⟩))] (by kernel_rfl) ?_
          refine wpS.only 11 (op_store1 (t := 4) (o := 9) (v := .bool true) (d := none) (by kernel_rfl) hs 9 rfl (by kernel_rfl) rfl (by kernel_rfl) (by simp) ?_)
          intro w kp hs
          refine ⟨fun _ => trivial, ?_⟩
          refine wpS.fin rfl (kr165 _ _ ?_)
          obtain ⟨q0, qr0⟩ := Prod.mk.inj (of_some h)
          obtain ⟨q1, qr1⟩ := Prod.mk.inj (qr0)
          obtain ⟨q2, qr2⟩ := Prod.mk.inj (qr1)
          obtain ⟨q3, qr3⟩ := Prod.mk.inj (qr2)
          obtain ⟨q4, qr4⟩ := Prod.mk.inj (qr3)
          obtain ⟨q5, qr5⟩ := Prod.mk.inj (qr4)
          obtain ⟨q6, qr6⟩ := Prod.mk.inj (qr5)
          obtain ⟨q7, qr7⟩ := Prod.mk.inj (qr6)
          have q8 := qr7
          subst q0
          subst q1
          subst q2
          subst q3
          subst q4
          subst q5
          subst q6
          subst q7
          subst q8
          exact nj _ _ ⟨(hs.conv rfl), exg (by kernel_rfl)⟩
         | false =>
          have h := of_if_f h
          refine wpS.take 4 true (some 29) (.bool false) (by kernel_rfl) (yld_load1 (e := 4) (o := 9) hs 9 rfl (by kernel_rfl) (by kernel_rfl) (by rfl) .grow) ?_
          refine wpS.ps [(5, 30, .bool false), (6, 31, .bool y67), (7, 32, .bool (!y67)), (8, 33, .bool (!y67)), (9, 34, .pointer (some ⟨b6, 0, none⟩)), (10, 35, .pointer (some ⟨b6, 9, none⟩))] (by kernel_rfl) ?_
          obtain ⟨x94, hx, h⟩ := of_bind h
          refine wpS.only 11 (op_store1 (t := 4) (o := 9) (v := .bool x94) (d := none) (by kernel_rfl) hs 9 rfl (by cases hx; kernel_rfl) rfl (by kernel_rfl) (by simp) ?_)
          intro w kp hs
          refine ⟨fun _ => trivial, ?_⟩
          refine wpS.fin rfl (kr165 _ _ ?_)
          obtain ⟨q0, qr0⟩ := Prod.mk.inj (of_some h)
          obtain ⟨q1, qr1⟩ := Prod.mk.inj (qr0)
          obtain ⟨q2, qr2⟩ := Prod.mk.inj (qr1)
          obtain ⟨q3, qr3⟩ := Prod.mk.inj (qr2)
          obtain ⟨q4, qr4⟩ := Prod.mk.inj (qr3)
          obtain ⟨q5, qr5⟩ := Prod.mk.inj (qr4)
          obtain ⟨q6, qr6⟩ := Prod.mk.inj (qr5)
          obtain ⟨q7, qr7⟩ := Prod.mk.inj (qr6)
          have q8 := qr7
          subst q0
          subst q1
          subst q2
          subst q3
          subst q4
          subst q5
          subst q6
          subst q7
          subst q8
          exact nj _ _ ⟨(hs.conv rfl), exg (by kernel_rfl)⟩
        ·clear hj hs
         rintro a w ⟨hs, g, rfl⟩
         refine then_n (ks164 _ _ ?_)
         refine wp_regS (l := [0, 1, 2, 3, 4]) (by kernel_rfl) (by kernel_rfl) fun KR166 kr166 => ?_
         refine wpS.p 0 36 (.slice z59_A z59_n z59_c) (by kernel_rfl) ?_
         refine wpS.take 1 true (some 37) (.agg (enc .i32 y66).toArray) (by kernel_rfl) (yld_loadW (e := 40) (n := 256) hs 0 rfl (by kernel_rfl) (by kernel_rfl) (by kernel_rfl) (by exact enc_len _ _) .grow) ?_
         refine wpS.only 2 (op_litL (C := (CA .i32 256 (by decide))) (t := 25) (e := 40) (len := 1) (parts := #[(0, .agg (enc .i32 y66).toArray)]) (l := [y66]) (d := (some 38)) (by kernel_rfl) hs (by kernel_rfl) rfl (by kernel_rfl) (by kernel_rfl) (z := .agg (enc .i32 (zeroA 256)).toArray) (by kernel_rfl) rfl (by decide) (by decide) ?_)
         intro s95_A s95_n s95_c w gw hs
         refine ⟨fun _ => trivial, ?_⟩
         obtain ⟨h0, h⟩ := of_chk h
         refine wpS.only 3 (op_appendT (C := (CA .i32 256 (by decide))) (t := 25) (ty := 25) (e := 40) (bytes := 1024) (B := 137438953472) (d := (some 39)) (by kernel_rfl) hs 2 rfl (hs.rowL 0 rfl) (by kernel_rfl) (by kernel_rfl) (by kernel_rfl) (by kernel_rfl) (by kernel_rfl) h0 (by decide) (by decide) ?_)
         intro s96_A s96_n s96_c w hs
         refine ⟨fun _ => trivial, ?_⟩
         refine wpS.p 4 7 (.slice s96_A s96_n s96_c) (by kernel_rfl) ?_
         refine wpS.fin rfl (kr166 _ _ ?_)
         refine inBlock_n ?_
         refine then_n (ks127 _ _ ?_)
         refine wp_regS (l := [0, 1]) (by kernel_rfl) (by kernel_rfl) fun KR167 kr167 => ?_
         refine wpS.ps [(0, 40, .int .i64 (iadd .i64 z58 1)), (1, 11, .int .i64 (iadd .i64 z58 1))] (by kernel_rfl) ?_
         refine wpS.fin rfl (kr167 _ _ ?_)
         exact then_n (kl1 _ _ ⟨n, Nat.lt_succ_self n, (iadd .i64 z58 1), (z59 ++ ([y66] : List (Arr 256))), y93_0_0, y93_0_1, y93_0_2, y93_0_3, y93_0_4, y93_0_5, y93_0_6, y93_0_7, y93_2, y69, s96_A, s96_n, s96_c, y69_A, y69_n, y69_c, h, ((hs.drop (.cons _ (.cons _ (.cons_cons _ (.cons_cons _ (.cons_cons _ (.cons_cons _ (.cons_cons _ (.cons_cons _ (.cons_cons _ (.cons_cons _ (.cons_cons _ (.cons_cons _ (.cons_cons _ .slnil)))))))))))))).pickR (pick_cons 0 rfl (pick_cons 2 rfl (pick_cons 3 rfl (pick_cons 4 rfl (pick_cons 5 rfl (pick_cons 6 rfl (pick_cons 7 rfl (pick_cons 8 rfl (pick_cons 9 rfl pick_nil)))))))))), exg (by kernel_rfl)⟩)
      ·refine wpS.take 0 false (some 12) (.bool false) (by kernel_rfl) (yld_b (df hc) (fun _ => by kernel_rfl)) ?_
       refine wpS.fin rfl (kr125 _ _ ?_)
       refine then_n (ks124 _ _ ?_)
       refine xseq_k fun KS168 ks168 => ?_
       refine wp_cond_f (by kernel_rfl) ?_
       refine xexit ?_
       refine then_x ?_
       refine then_x ?_
       refine inBlock_hit ?_
       obtain ⟨q0, qr0⟩ := Prod.mk.inj (of_some h)
       obtain ⟨q1, qr1⟩ := Prod.mk.inj (qr0)
       obtain ⟨q2, qr2⟩ := Prod.mk.inj (qr1)
       obtain ⟨q3, qr3⟩ := Prod.mk.inj (qr2)
       obtain ⟨q4, qr4⟩ := Prod.mk.inj (qr3)
       obtain ⟨q5, qr5⟩ := Prod.mk.inj (qr4)
       obtain ⟨q6, qr6⟩ := Prod.mk.inj (qr5)
       obtain ⟨q7, qr7⟩ := Prod.mk.inj (qr6)
       obtain ⟨q8, qr8⟩ := Prod.mk.inj (qr7)
       obtain ⟨q9, qr9⟩ := Prod.mk.inj (qr8)
       have q10 := qr9
       subst q0
       subst q1
       subst q2
       subst q3
       subst q4
       subst q5
       subst q6
       subst q7
       subst q8
       subst q9
       subst q10
       exact exq_n (nn1 _ _ ⟨z59_A, z59_n, z59_c, z61_A, z61_n, z61_c, (hs.conv rfl), exg (by kernel_rfl)⟩)
    ·clear hs h hy
     rintro a w ⟨y62_A, y62_n, y62_c, y64_A, y64_n, y64_c, hs, g, rfl⟩
     have h := hk1
     refine then_n (ks121 _ _ ?_)
     refine xseq_k fun KS169 ks169 => ?_
     refine wp_regS (l := [0, 1]) (by kernel_rfl) (by kernel_rfl) fun KR170 kr170 => ?_
     refine wpS.ps [(0, 41, .slice y62_A y62_n y62_c), (1, 6, .slice y62_A y62_n y62_c)] (by kernel_rfl) ?_
     refine wpS.fin rfl (kr170 _ _ ?_)
     refine then_n (ks169 _ _ ?_)
     refine xret ?_
     refine qq116 _ _ (post_ret (by kernel_rfl) (run_results [.tmp 6] [.slice y62_A y62_n y62_c] (by kernel_rfl) (.cons (res_tmp (by kernel_rfl)) .nil)) ?_)
     refine kI116 _ _ ?_
     refine ⟨⟨fun hf => absurd hf (by decide), .all _ _⟩, ?_⟩
     refine wpG.p 14 4 (.slice y62_A y62_n y62_c) (by kernel_rfl) (by kernel_rfl) ?_
     refine wpG.fin (by kernel_rfl) rfl (kr115 _ _ ?_)
     refine then_n (ks114 _ _ ?_)
     refine xret ?_
     refine qq111 _ _ (post_ret (by kernel_rfl) (run_results [.tmp 4] [.slice y62_A y62_n y62_c] (by kernel_rfl) (.cons (res_tmp (by kernel_rfl)) .nil)) ?_)
     refine kI111 _ _ ?_
     refine ⟨fun _ => trivial, ?_⟩
     refine wpS.p 7 54 (.pointer (some ⟨b7, 4, none⟩)) (by kernel_rfl) ?_
     refine wpS.only 8 (op_store1 (t := 25) (o := 4) (v := .slice y62_A y62_n y62_c) (d := none) (by kernel_rfl) hs 7 rfl (by kernel_rfl) rfl (by kernel_rfl) (by simp) ?_)
     intro w kp hs
     refine ⟨fun _ => trivial, ?_⟩
     refine wpS.fin rfl (kr110 _ _ ?_)
     refine then_n (ks109 _ _ ?_)
     refine xseq_k fun KS171 ks171 => ?_
     refine wp_regS (l := [0, 1, 2, 3, 4, 5, 6, 7, 8, 9]) (by kernel_rfl) (by kernel_rfl) fun KR172 kr172 => ?_
     refine wpS.ps [(0, 55, .pointer (some ⟨b6, 0, none⟩)), (1, 56, .pointer (some ⟨b6, 0, none⟩)), (2, 57, .pointer (some ⟨b6, 0, none⟩)), (3, 58, .pointer (some ⟨b6, 0, none⟩)), (4, 59, .pointer (some ⟨b6, 0, none⟩))] (by kernel_rfl) ?_
     refine wpS.take 5 true (some 60) (.int .i64 y63_0_0) (by kernel_rfl) (yld_load1 (e := 3) (o := 0) hs 8 rfl (by kernel_rfl) (by kernel_rfl) (by rfl) .grow) ?_
     refine wpS.p 6 61 (.agg #[.int .i32 4095, .int .i32 4096]) (by kernel_rfl) ?_
     refine wpS.only 7 (op_inline (d := (some 62)) (f := 62) (args := #[.pointer (some ⟨b6, 0, none⟩), .int .i64 y63_0_0, .agg #[.int .i32 4095, .int .i32 4096]]) (by kernel_rfl) (fun _ => by kernel_rfl) fun R173 kI173 => ?_)
     refine calls_k Try.func62 rfl fun Q173 qq173 => ?_
     refine wp_conv (a' := ⟨#[.pointer (some ⟨b6, 0, none⟩), .int .i64 y63_0_0, .agg #[.int .i32 4095, .int .i32 4096], undef, undef, undef, undef, undef, undef, undef, undef, undef, undef, undef, undef, undef, undef, undef, undef, undef, undef, undef, undef, undef, undef, undef, undef, undef, undef, undef, undef, undef, undef, undef, undef, undef, undef, undef, undef, undef, undef, undef], []⟩) (by kernel_rfl) ?_
     refine xseq_k fun KS174 ks174 => ?_
     refine wp_regS (l := [0, 1]) (by kernel_rfl) (by kernel_rfl) fun KR175 kr175 => ?_
     refine wpS.only 0 (op_box (t := 73) (v := .agg #[.int .i32 4095, .int .i32 4096]) (d := (some 5)) (by kernel_rfl) hs ([.int .i32 4095, .int .i32 4096]) (by kernel_rfl) (by kernel_rfl) ?_)
     intro b97 w gw hs
     refine ⟨fun _ => trivial, ?_⟩
     refine wpS.p 1 6 (.slice none 0 0) (by kernel_rfl) ?_
     refine wpS.fin rfl (kr175 _ _ ?_)
     refine then_n (ks174 _ _ ?_)
     refine xseq_k fun KS176 ks176 => ?_
     refine wp_regS (l := [0]) (by kernel_rfl) (by kernel_rfl) fun KR177 kr177 => ?_
     refine wpS.p 0 7 (.slice none 0 0) (by kernel_rfl) ?_
     refine wpS.fin rfl (kr177 _ _ ?_)
     refine then_n (ks176 _ _ ?_)
     refine xseq_k fun KS178 ks178 => ?_
     refine xseq_k fun KS179 ks179 => ?_
     refine wp_regS (l := [0, 1]) (by kernel_rfl) (by kernel_rfl) fun KR180 kr180 => ?_
     refine wpS.ps [(0, 10, .int .i64 y63_0_0), (1, 11, .int .i64 0)] (by kernel_rfl) ?_
     refine wpS.fin rfl (kr180 _ _ ?_)
     refine then_n (ks179 _ _ ?_)
     have hs := hs.addNilL (CA .i32 256 (by decide)) 40
     obtain ⟨⟨y102, y103_0_0, y103_0_1, y103_0_2, y103_0_3, y103_0_4, y103_0_5, y103_0_6, y103_0_7, y103_2, y104⟩, hy, hk2⟩ := of_bind h
     refine wp_exq (N := fun a w => ∃ (y102_A : Option Addr) (y102_n : Nat) (y102_c : Nat) (y104_A : Option Addr) (y104_n : Nat) (y104_c : Nat), St w0 [] [.ownL (CA .i32 256 (by decide)) y102_A y102_n y102_c y102 40, .blk b97 ([.int .i32 4095, .int .i32 4096]) 73, .ownL (CA .i32 256 (by decide)) y62_A y62_n y62_c y62 40, .blk b57 ([.int .i32 y23_0_2, .int .i32 y23_0_2]) 73, .ownL (CA .i32 256 (by decide)) y22_A y22_n y22_c y22 40, .blk b17 ([.int .i32 a0_2, .int .i32 a0_2]) 73, .ownL (CI .u8) r16_A r16_n r16_c r16 5, .ownL (CI .u8) r13_A r13_n r13_c r13 5, .ownL (CI .u8) r10_A r10_n r10_c r10 5, .blk b7 ([.slice r10_A r10_n r10_c, .slice r13_A r13_n r13_c, .slice r16_A r16_n r16_c, .slice y22_A y22_n y22_c, .slice y62_A y62_n y62_c, .slice none 0 0]) 29, .blk b6 ([.int .i64 y103_0_0, .int .i64 y103_0_1, .int .i32 y103_0_2, .int .i64 y103_0_3, .int .i32 y103_0_4, .int .i32 y103_0_5, .int .i64 y103_0_6, .int .i64 y103_0_7, .slice y104_A y104_n y104_c, .bool y103_2]) 96, .blk b2 ([.slice none 0 0, .slice none 0 0, .slice none 0 0, .slice none 0 0, .slice none 0 0, .slice none 0 0]) 29, .blk b1 ([.int .i64 a0_0, .int .i64 a0_1, .int .i32 a0_2, .int .i64 a0_3, .int .i32 a0_4, .int .i32 a0_5, .int .i64 a0_6, .int .i64 a0_7]) 23] [.rowL (CI .u8) y104_A y104_n y104_c y104, .rowL (CI .u8) y64_A y64_n y64_c y64, .rowL (CI .u8) y24_A y24_n y24_c y24, .rowL (CI .u8) s15_A s15_n s15_c (subL (subL (subL a1 32 (a1.length : Int)) 32 ((subL a1 32 (a1.length : Int)).length : Int)) 64 ((subL (subL a1 32 (a1.length : Int)) 32 ((subL a1 32 (a1.length : Int)).length : Int)).length : Int)), .rowL (CI .u8) s14_A s14_n s14_c (subL (subL (subL a1 32 (a1.length : Int)) 32 ((subL a1 32 (a1.length : Int)).length : Int)) 0 64), .rowL (CI .u8) s12_A s12_n s12_c (subL (subL a1 32 (a1.length : Int)) 32 ((subL a1 32 (a1.length : Int)).length : Int)), .rowL (CI .u8) s11_A s11_n s11_c (subL (subL a1 32 (a1.length : Int)) 0 32), .rowL (CI .u8) s9_A s9_n s9_c (subL a1 32 (a1.length : Int)), .rowL (CI .u8) s8_A s8_n s8_c (subL a1 0 32), .rowL (CI .u8) a1_A a1_n a1_c a1] w ∧ ∃ g : Nat → Value, a = ⟨#[.pointer (some ⟨b6, 0, none⟩), .int .i64 y63_0_0, .agg #[.int .i32 4095, .int .i32 4096], undef, undef, .pointer (some ⟨b97, 0, none⟩), .slice none 0 0, .slice y102_A y102_n y102_c, (g 8), (g 9), .int .i64 y63_0_0, (g 11), (g 12), (g 13), (g 14), (g 15), (g 16), (g 17), (g 18), (g 19), (g 20), (g 21), (g 22), (g 23), (g 24), (g 25), (g 26), (g 27), (g 28), (g 29), (g 30), (g 31), (g 32), (g 33), (g 34), (g 35), (g 36), (g 37), (g 38), (g 39), (g 40), undef], []⟩) (fun N2 nn2 => ?_) ?_
     ·clear hk2
      refine xblock ?_
      refine wp_loop_k (fun n a w => ∃ z98 z99 z100_0_0 z100_0_1 z100_0_2 z100_0_3 z100_0_4 z100_0_5 z100_0_6 z100_0_7 z100_2 z101, ∃ (z99_A : Option Addr) (z99_n : Nat) (z99_c : Nat) (z101_A : Option Addr) (z101_n : Nat) (z101_c : Nat), dpack_UnPrivate.l2 K n y63_0_0 z98 z99 z100_0_0 z100_0_1 z100_0_2 z100_0_3 z100_0_4 z100_0_5 z100_0_6 z100_0_7 z100_2 z101 = some (y102, y103_0_0, y103_0_1, y103_0_2, y103_0_3, y103_0_4, y103_0_5, y103_0_6, y103_0_7, y103_2, y104) ∧ St w0 [] [.ownL (CA .i32 256 (by decide)) z99_A z99_n z99_c z99 40, .blk b97 ([.int .i32 4095, .int .i32 4096]) 73, .ownL (CA .i32 256 (by decide)) y62_A y62_n y62_c y62 40, .blk b57 ([.int .i32 y23_0_2, .int .i32 y23_0_2]) 73, .ownL (CA .i32 256 (by decide)) y22_A y22_n y22_c y22 40, .blk b17 ([.int .i32 a0_2, .int .i32 a0_2]) 73, .ownL (CI .u8) r16_A r16_n r16_c r16 5, .ownL (CI .u8) r13_A r13_n r13_c r13 5, .ownL (CI .u8) r10_A r10_n r10_c r10 5, .blk b7 ([.slice r10_A r10_n r10_c, .slice r13_A r13_n r13_c, .slice r16_A r16_n r16_c, .slice y22_A y22_n y22_c, .slice y62_A y62_n y62_c, .slice none 0 0]) 29, .blk b6 ([.int .i64 z100_0_0, .int .i64 z100_0_1, .int .i32 z100_0_2, .int .i64 z100_0_3, .int .i32 z100_0_4, .int .i32 z100_0_5, .int .i64 z100_0_6, .int .i64 z100_0_7, .slice z101_A z101_n z101_c, .bool z100_2]) 96, .blk b2 ([.slice none 0 0, .slice none 0 0, .slice none 0 0, .slice none 0 0, .slice none 0 0, .slice none 0 0]) 29, .blk b1 ([.int .i64 a0_0, .int .i64 a0_1, .int .i32 a0_2, .int .i64 a0_3, .int .i32 a0_4, .int .i32 a0_5, .int .i64 a0_6, .int .i64 a0_7]) 23] [.rowL (CI .u8) z101_A z101_n z101_c z101, .rowL (CI .u8) y64_A y64_n y64_c y64, .rowL (CI .u8) y24_A y24_n y24_c y24, .rowL (CI .u8) s15_A s15_n s15_c (subL (subL (subL a1 32 (a1.length : Int)) 32 ((subL a1 32 (a1.length : Int)).length : Int)) 64 ((subL (subL a1 32 (a1.length : Int)) 32 ((subL a1 32 (a1.length : Int)).length : Int)).length : Int)), .rowL (CI .u8) s14_A s14_n s14_c (subL (subL (subL a1 32 (a1.length : Int)) 32 ((subL a1 32 (a1.length : Int)).length : Int)) 0 64), .rowL (CI .u8) s12_A s12_n s12_c (subL (subL a1 32 (a1.length : Int)) 32 ((subL a1 32 (a1.length : Int)).length : Int)), .rowL (CI .u8) s11_A s11_n s11_c (subL (subL a1 32 (a1.length : Int)) 0 32), .rowL (CI .u8) s9_A s9_n s9_c (subL a1 32 (a1.length : Int)), .rowL (CI .u8) s8_A s8_n s8_c (subL a1 0 32), .rowL (CI .u8) a1_A a1_n a1_c a1] w ∧ ∃ g : Nat → Value, a = ⟨#[.pointer (some ⟨b6, 0, none⟩), .int .i64 y63_0_0, .agg #[.int .i32 4095, .int .i32 4096], undef, undef, .pointer (some ⟨b97, 0, none⟩), .slice none 0 0, .slice z99_A z99_n z99_c, (g 8), (g 9), .int .i64 y63_0_0, .int .i64 z98, (g 12), (g 13), (g 14), (g 15), (g 16), (g 17), (g 18), (g 19), (g 20), (g 21), (g 22), (g 23), (g 24), (g 25), (g 26), (g 27), (g 28), (g 29), (g 30), (g 31), (g 32), (g 33), (g 34), (g 35), (g 36), (g 37), (g 38), (g 39), (g 40), undef], []⟩) K ⟨0, ([] : List (Arr 256)), y63_0_0, y63_0_1, y63_0_2, y63_0_3, y63_0_4, y63_0_5, y63_0_6, y63_0_7, y63_2, y64, none, 0, 0, y64_A, y64_n, y64_c, hy, (hs.conv (L' := [.ownL (CA .i32 256 (by decide)) none 0 0 ([] : List (Arr 256)) 40, .blk b97 ([.int .i32 4095, .int .i32 4096]) 73, .ownL (CA .i32 256 (by decide)) y62_A y62_n y62_c y62 40, .blk b57 ([.int .i32 y23_0_2, .int .i32 y23_0_2]) 73, .ownL (CA .i32 256 (by decide)) y22_A y22_n y22_c y22 40, .blk b17 ([.int .i32 a0_2, .int .i32 a0_2]) 73, .ownL (CI .u8) r16_A r16_n r16_c r16 5, .ownL (CI .u8) r13_A r13_n r13_c r13 5, .ownL (CI .u8) r10_A r10_n r10_c r10 5, .blk b7 ([.slice r10_A r10_n r10_c, .slice r13_A r13_n r13_c, .slice r16_A r16_n r16_c, .slice y22_A y22_n y22_c, .slice y62_A y62_n y62_c, .slice none 0 0]) 29, .blk b6 ([.int .i64 y63_0_0, .int .i64 y63_0_1, .int .i32 y63_0_2, .int .i64 y63_0_3, .int .i32 y63_0_4, .int .i32 y63_0_5, .int .i64 y63_0_6, .int .i64 y63_0_7, .slice y64_A y64_n y64_c, .bool y63_2]) 96, .blk b2 ([.slice none 0 0, .slice none 0 0, .slice none 0 0, .slice none 0 0, .slice none 0 0, .slice none 0 0]) 29, .blk b1 ([.int .i64 a0_0, .int .i64 a0_1, .int .i32 a0_2, .int .i64 a0_3, .int .i32 a0_4, .int .i32 a0_5, .int .i64 a0_6, .int .i64 a0_7]) 23]) rfl).pickR (pick_cons 0 rfl (pick_cons 0 rfl (pick_cons 1 rfl (pick_cons 2 rfl (pick_cons 3 rfl (pick_cons 4 rfl (pick_cons 5 rfl (pick_cons 6 rfl (pick_cons 7 rfl (pick_cons 8 rfl pick_nil)))))))))), exg (by kernel_rfl)⟩ ?_
      clear hs h hy
      rintro n a w ⟨z98, z99, z100_0_0, z100_0_1, z100_0_2, z100_0_3, z100_0_4, z100_0_5, z100_0_6, z100_0_7, z100_2, z101, z99_A, z99_n, z99_c, z101_A, z101_n, z101_c, h, hs, g, rfl⟩ KL2 kl2
      cases n with
      | zero => exact nomatch (show none = some _ from h)
      | succ n =>
       refine xseq_k fun KS181 ks181 => ?_
       refine wp_regS (l := [0]) (by kernel_rfl) (by kernel_rfl) fun KR182 kr182 => ?_
       rcases of_if h with ⟨hc, h⟩ | ⟨hc, h⟩
       ·refine wpS.take 0 false (some 12) (.bool true) (by kernel_rfl) (yld_b (dt hc) (fun _ => by kernel_rfl)) ?_
        refine wpS.fin rfl (kr182 _ _ ?_)
        refine then_n (ks181 _ _ ?_)
        refine xseq_k fun KS183 ks183 => ?_
        refine wp_cond_t (by kernel_rfl) ?_
        refine xskip ?_
        refine then_n (ks183 _ _ ?_)
        refine xseq_k fun KS184 ks184 => ?_
        refine xblock ?_
        refine xseq_k fun KS185 ks185 => ?_
        obtain ⟨⟨y106, y107, y108_0_0, y108_0_1, y108_0_2, y108_0_3, y108_0_4, y108_0_5, y108_0_6, y108_0_7, y108_2, y109⟩, hj, h⟩ := of_bind h
        refine wp_join (N := fun a w => ∃ (b105 : Nat) (y109_A : Option Addr) (y109_n : Nat) (y109_c : Nat), St w0 [] [.blk b105 (enc .i32 y106) 40, .ownL (CA .i32 256 (by decide)) z99_A z99_n z99_c z99 40, .blk b97 ([.int .i32 4095, .int .i32 4096]) 73, .ownL (CA .i32 256 (by decide)) y62_A y62_n y62_c y62 40, .blk b57 ([.int .i32 y23_0_2, .int .i32 y23_0_2]) 73, .ownL (CA .i32 256 (by decide)) y22_A y22_n y22_c y22 40, .blk b17 ([.int .i32 a0_2, .int .i32 a0_2]) 73, .ownL (CI .u8) r16_A r16_n r16_c r16 5, .ownL (CI .u8) r13_A r13_n r13_c r13 5, .ownL (CI .u8) r10_A r10_n r10_c r10 5, .blk b7 ([.slice r10_A r10_n r10_c, .slice r13_A r13_n r13_c, .slice r16_A r16_n r16_c, .slice y22_A y22_n y22_c, .slice y62_A y62_n y62_c, .slice none 0 0]) 29, .blk b6 ([.int .i64 y108_0_0, .int .i64 y108_0_1, .int .i32 y108_0_2, .int .i64 y108_0_3, .int .i32 y108_0_4, .int .i32 y108_0_5, .int .i64 y108_0_6, .int .i64 y108_0_7, .slice y109_A y109_n y109_c, .bool y108_2]) 96, .blk b2 ([.slice none 0 0, .slice none 0 0, .slice none 0 0, .slice none 0 0, .slice none 0 0, .slice none 0 0]) 29, .blk b1 ([.int .i64 a0_0, .int .i64 a0_1, .int .i32 a0_2, .int .i64 a0_3, .int .i32 a0_4, .int .i32 a0_5, .int .i64 a0_6, .int .i64 a0_7]) 23] [.rowL (CI .u8) y109_A y109_n y109_c y109, .rowL (CI .u8) z101_A z101_n z101_c z101, .rowL (CI .u8) y64_A y64_n y64_c y64, .rowL (CI .u8) y24_A y24_n y24_c y24, .rowL (CI .u8) s15_A s15_n s15_c (subL (subL (subL a1 32 (a1.length : Int)) 32 ((subL a1 32 (a1.length : Int)).length : Int)) 64 ((subL (subL a1 32 (a1.length : Int)) 32 ((subL a1 32 (a1.length : Int)).length : Int)).length : Int)), .rowL (CI .u8) s14_A s14_n s14_c (subL (subL (subL a1 32 (a1.length : Int)) 32 ((subL a1 32 (a1.length : Int)).length : Int)) 0 64), .rowL (CI .u8) s12_A s12_n s12_c (subL (subL a1 32 (a1.length : Int)) 32 ((subL a1 32 (a1.length : Int)).length : Int)), .rowL (CI .u8) s11_A s11_n s11_c (subL (subL a1 32 (a1.length : Int)) 0 32), .rowL (CI .u8) s9_A s9_n s9_c (subL a1 32 (a1.length : Int)), .rowL (CI .u8) s8_A s8_n s8_c (subL a1 0 32), .rowL (CI .u8) a1_A a1_n a1_c a1] w ∧ ∃ g : Nat → Value, a = ⟨#[.pointer (some ⟨b6, 0, none⟩), .int .i64 y63_0_0, .agg #[.int .i32 4095, .int .i32 4096], undef, undef, .pointer (some ⟨b97, 0, none⟩), .slice none 0 0, .slice z99_A z99_n z99_c, .pointer (some ⟨b105, 0, none⟩), .bool y107, .int .i64 y63_0_0, .int .i64 z98, .bool true, (g 13), (g 14), (g 15), (g 16), (g 17), (g 18), (g 19), (g 20), (g 21), (g 22), (g 23), (g 24), (g 25), (g 26), (g 27), (g 28), (g 29), (g 30), (g 31), (g 32), (g 33), (g 34), (g 35), (g 36), (g 37), (g 38), (g 39), (g 40), undef], []⟩) (fun N nj => ?_) ?_
        ·clear h
         have h := hj
         refine wp_regG [3, 13] (fun k => ¬ k = b97) 15 (by kernel_rfl) (by kernel_rfl) (by kernel_rfl) fun KR186 kr186 => ?_
         have hs := hs.drawn1
         refine wpG.takeD 0 false (some 14) (.pointer (some ⟨b6, 0, none⟩)) (by kernel_rfl) (by kernel_rfl) (yld fun _ => by kernel_rfl) ?_
         refine wpG.take [1, 2, 3, 8, 9, 10, 11, 13, 14] 1 true (some 15) (.agg #[.int .i32 4095, .int .i32 4096]) (by kernel_rfl) (by kernel_rfl) (yld_loadW (e := 73) (n := 2) hs 1 rfl (by kernel_rfl) (by kernel_rfl) (by kernel_rfl) (by simp [enc_len]) .grow) ?_
         refine wpG.takeD 4 false (some 18) (.pointer (some ⟨b97, 0, none⟩)) (by kernel_rfl) (by kernel_rfl) (yld fun _ => by kernel_rfl) ?_
         refine wpG.takeK [5, 8, 9, 10, 11, 13, 14] 5 (some 19) (.int .i32 4095) (by kernel_rfl) (by kernel_rfl) (yld_load1 (e := 21) (o := 0) hs 1 rfl (by kernel_rfl) (by kernel_rfl) (by rfl) (.keep (fun hn => hn rfl))) ?_
         refine wpG.takeD 6 false (some 20) (.pointer (some ⟨b97, 1, none⟩)) (by kernel_rfl) (by kernel_rfl) (yld fun _ => by kernel_rfl) ?_
         refine wpG.takeK [7, 8, 9, 10, 11, 13, 14] 7 (some 21) (.int .i32 4096) (by kernel_rfl) (by kernel_rfl) (yld_load1 (e := 21) (o := 1) hs 1 rfl (by kernel_rfl) (by kernel_rfl) (by rfl) (.keep (fun hn => hn rfl))) ?_
         refine wpG.many [2, 12] (by kernel_rfl) (by decide) (forall_cons ?_ (forall_cons ?_ forall_nil))
         ·obtain ⟨r110, hg, h⟩ := of_bind h
          refine (op_call (d := (some 16)) (by kernel_rfl) hs (fun _ => by kernel_rfl) (dpack_span_size.ok hg _) ?_)
          intro w gw hs
          refine ⟨.of gw, ?_⟩
          refine wpG.many [3, 12] (by kernel_rfl) (by decide) (forall_cons ?_ (forall_cons ?_ forall_nil))
          ·have hsB188 := hs
           refine (op_inline (d := (some 17)) (f := 61) (args := #[.pointer (some ⟨b6, 0, none⟩), .int .i64 r110]) (by kernel_rfl) (fun _ => by kernel_rfl) fun R187 kI187 => ?_)
           refine calls_k Try.func61 rfl fun Q187 qq187 => ?_
           refine wp_conv (a' := ⟨#[.pointer (some ⟨b6, 0, none⟩), .int .i64 r110, undef, undef, undef, undef, undef, undef, undef, undef, undef, undef, undef, undef, undef, undef, undef, undef, undef, undef, undef, undef, undef], []⟩) (by kernel_rfl) ?_
           refine xseq_k fun KS189 ks189 => ?_
           refine wp_regS (l := [0]) (by kernel_rfl) (by kernel_rfl) fun KR190 kr190 => ?_
           refine wpS.p 0 4 (.slice none 0 0) (by kernel_rfl) ?_
           refine wpS.fin rfl (kr190 _ _ ?_)
           refine then_n (ks189 _ _ ?_)
           refine xseq_k fun KS191 ks191 => ?_
           refine wp_regS (l := [0, 1, 2, 3, 4, 5, 6]) (by kernel_rfl) (by kernel_rfl) fun KR192 kr192 => ?_
           refine wpS.ps [(0, 6, .pointer (some ⟨b6, 0, none⟩)), (1, 7, .pointer (some ⟨b6, 0, none⟩)), (2, 8, .pointer (some ⟨b6, 8, none⟩))] (by kernel_rfl) ?_
           refine wpS.take 3 true (some 9) (.slice z101_A z101_n z101_c) (by kernel_rfl) (yld_load1 (e := 24) (o := 8) hs 10 rfl (by kernel_rfl) (by kernel_rfl) (by rfl) .grow) ?_
           refine wpS.p 4 10 (.int .i64 r110) (by kernel_rfl) ?_
           obtain ⟨h0, h⟩ := of_chk h
           obtain ⟨h1, h⟩ := of_chk h
           obtain ⟨h2, h⟩ := of_chk h
           obtain ⟨s111_A, hA⟩ : ∃ A, A = if z101_c = (0 : Int).toNat then z101_A else adr z101_A ((0 : Int).toNat * Cod.size (CI .u8)) := ⟨_, rfl⟩
           obtain ⟨s111_n, hn⟩ : ∃ n, n = (r110 : Int).toNat - (0 : Int).toNat := ⟨_, rfl⟩
           obtain ⟨s111_c, hc⟩ : ∃ c, c = z101_c - (0 : Int).toNat := ⟨_, rfl⟩
           refine wpS.take 5 false (some 11) (.slice s111_A s111_n s111_c) (by kernel_rfl) (yld_sub (C := (CI .u8)) (t := 24) (e := 5) (low := none) (high := some (.int .i64 r110)) (lo := 0) (hi := r110) (hs.rowR 0 rfl) (by kernel_rfl) (by kernel_rfl) (by kernel_rfl) (.inl ⟨rfl, rfl⟩) (.inr ⟨_, rfl⟩) h0 h1 h2 hA hn hc) ?_
           have hs := hs.addSub (C := (CI .u8)) 0 rfl h0 h1 h2 hA hn hc
           refine wpS.p 6 5 (.slice s111_A s111_n s111_c) (by kernel_rfl) ?_
           refine wpS.fin rfl (kr192 _ _ ?_)
           refine then_n (ks191 _ _ ?_)
           refine xseq_k fun KS193 ks193 => ?_
           refine wp_regS (l := [0, 1, 2, 3, 4, 5, 6, 7, 8, 9]) (by kernel_rfl) (by kernel_rfl) fun KR194 kr194 => ?_
           refine wpS.ps [(0, 12, .pointer (some ⟨b6, 0, none⟩)), (1, 13, .pointer (some ⟨b6, 0, none⟩)), (2, 14, .pointer (some ⟨b6, 0, none⟩)), (3, 15, .pointer (some ⟨b6, 8, none⟩))] (by kernel_rfl) ?_
           refine wpS.take 4 true (some 16) (.slice z101_A z101_n z101_c) (by kernel_rfl) (yld_load1 (e := 24) (o := 8) hs 10 rfl (by kernel_rfl) (by kernel_rfl) (by rfl) .grow) ?_
           refine wpS.p 5 17 (.int .i64 r110) (by kernel_rfl) ?_
           obtain ⟨h0, h⟩ := of_chk h
           obtain ⟨h1, h⟩ := of_chk h
           obtain ⟨h2, h⟩ := of_chk h
           obtain ⟨s112_A, hA⟩ : ∃ A, A = if z101_c = (r110 : Int).toNat then z101_A else adr z101_A ((r110 : Int).toNat * Cod.size (CI .u8)) := ⟨_, rfl⟩
           obtain ⟨s112_n, hn⟩ : ∃ n, n = ((z101.length : Int) : Int).toNat - (r110 : Int).toNat := ⟨_, rfl⟩
           obtain ⟨s112_c, hc⟩ : ∃ c, c = z101_c - (r110 : Int).toNat := ⟨_, rfl⟩
           refine wpS.take 6 false (some 18) (.slice s112_A s112_n s112_c) (by kernel_rfl) (yld_sub (C := (CI .u8)) (t := 24) (e := 5) (low := some (.int .i64 r110)) (high := none) (lo := r110) (hi := (z101.length : Int)) (hs.rowR 1 rfl) (by kernel_rfl) (by kernel_rfl) (by kernel_rfl) (.inr ⟨_, rfl⟩) (.inl ⟨rfl, rfl⟩) h0 h1 h2 hA hn hc) ?_
           have hs := hs.addSub (C := (CI .u8)) 1 rfl h0 h1 h2 hA hn hc
           refine wpS.ps [(7, 19, .pointer (some ⟨b6, 0, none⟩)), (8, 20, .pointer (some ⟨b6, 8, none⟩))] (by kernel_rfl) ?_
           refine wpS.only 9 (op_store1 (t := 24) (o := 8) (v := .slice s112_A s112_n s112_c) (d := none) (by kernel_rfl) hs 10 rfl (by kernel_rfl) rfl (by kernel_rfl) (by simp) ?_)
           intro w kp hs
           refine ⟨fun _ => trivial, ?_⟩
           refine wpS.fin rfl (kr194 _ _ ?_)
           refine then_n (ks193 _ _ ?_)
           refine xseq_k fun KS195 ks195 => ?_
           refine wp_regS (l := [0, 1, 2]) (by kernel_rfl) (by kernel_rfl) fun KR196 kr196 => ?_
           refine wpS.p 0 21 (.slice s111_A s111_n s111_c) (by kernel_rfl) ?_
           obtain ⟨r113, hg, h⟩ := of_bind h
           refine wpS.only 1 (op_callH (d := (some 22)) (by kernel_rfl) hs (fun _ => by kernel_rfl) (slices_Clone_byte_byte.ok hg _ (hs.rowR 1 rfl)) ?_)
           rintro ⟨r113_A, r113_n, r113_c⟩ w gw hs
           have hs := hs.conv (L' := [.ownL (CI .u8) r113_A r113_n r113_c r113 5, .ownL (CA .i32 256 (by decide)) z99_A z99_n z99_c z99 40, .blk b97 ([.int .i32 4095, .int .i32 4096]) 73, .ownL (CA .i32 256 (by decide)) y62_A y62_n y62_c y62 40, .blk b57 ([.int .i32 y23_0_2, .int .i32 y23_0_2]) 73, .ownL (CA .i32 256 (by decide)) y22_A y22_n y22_c y22 40, .blk b17 ([.int .i32 a0_2, .int .i32 a0_2]) 73, .ownL (CI .u8) r16_A r16_n r16_c r16 5, .ownL (CI .u8) r13_A r13_n r13_c r13 5, .ownL (CI .u8) r10_A r10_n r10_c r10 5, .blk b7 ([.slice r10_A r10_n r10_c, .slice r13_A r13_n r13_c, .slice r16_A r16_n r16_c, .slice y22_A y22_n y22_c, .slice y62_A y62_n y62_c, .slice none 0 0]) 29, .blk b6 ([.int .i64 z100_0_0, .int .i64 z100_0_1, .int .i32 z100_0_2, .int .i64 z100_0_3, .int .i32 z100_0_4, .int .i32 z100_0_5, .int .i64 z100_0_6, .int .i64 z100_0_7, .slice s112_A s112_n s112_c, .bool z100_2]) 96, .blk b2 ([.slice none 0 0, .slice none 0 0, .slice none 0 0, .slice none 0 0, .slice none 0 0, .slice none 0 0]) 29, .blk b1 ([.int .i64 a0_0, .int .i64 a0_1, .int .i32 a0_2, .int .i64 a0_3, .int .i32 a0_4, .int .i32 a0_5, .int .i64 a0_6, .int .i64 a0_7]) 23]) rfl
           refine ⟨fun _ => trivial, ?_⟩
           refine wpS.p 2 4 (.slice r113_A r113_n r113_c) (by kernel_rfl) ?_
           refine wpS.fin rfl (kr196 _ _ ?_)
           refine then_n (ks195 _ _ ?_)
           refine xret ?_
           refine qq187 _ _ (post_ret (by kernel_rfl) (run_results [.tmp 4] [.slice r113_A r113_n r113_c] (by kernel_rfl) (.cons (res_tmp (by kernel_rfl)) .nil)) ?_)
           refine kI187 _ _ ?_
           refine ⟨⟨fun hf => absurd hf (by decide), (keepB1 (hsB188.blkAt 1 rfl) (hs.blkAt 2 rfl))⟩, ?_⟩
           refine wpG.many [8, 12] (by kernel_rfl) (by decide) (forall_cons ?_ (forall_cons ?_ forall_nil))
           ·obtain ⟨⟨r114, r115⟩, hg, h⟩ := of_bind h
            refine (op_call (d := (some 22)) (by kernel_rfl) hs (fun _ => by kernel_rfl) (dpack_Unpack.ok hg _ (hs.rowL 0 rfl)) ?_)
            intro w gw hs
            refine ⟨.of gw, ?_⟩
            refine wpG.p 9 13 (.tuple #[.agg (enc .i32 r114).toArray, .bool r115]) (by kernel_rfl) (by kernel_rfl) ?_
            refine wpG.p 10 23 (.agg (enc .i32 r114).toArray) (by kernel_rfl) (by kernel_rfl) ?_
            refine wpG.p 11 24 (.bool r115) (by kernel_rfl) (by kernel_rfl) ?_
            refine wpG.only 12 (by kernel_rfl) (op_alloc (t := 40) (d := (some 8)) (by kernel_rfl) hs (enc .i32 (zeroA 256)) (.agg (enc .i32 (zeroA 256)).toArray) (by kernel_rfl) (by kernel_rfl) (by kernel_rfl) ?_)
            intro b116 w gw hs
            refine ⟨.of gw, ?_⟩
            have hsB197 := hs
            refine wpG.only 13 (by kernel_rfl) (op_storeW (t := 40) (v := .agg (enc .i32 r114).toArray) (d := none) (by kernel_rfl) hs 0 rfl (vs := enc .i32 r114) (n := 256) (by kernel_rfl) (by kernel_rfl) (by kernel_rfl) (by simp [enc_len]) (by simp [enc_len]) (by intro u hu; exact enc_one _ _ u hu) ?_)
            intro w kp hs
            refine ⟨⟨fun hf => absurd hf (by decide), (keepB1 (hsB197.blkAt 3 rfl) (hs.blkAt 3 rfl))⟩, ?_⟩
            refine wpG.p 14 9 (.bool r115) (by kernel_rfl) (by kernel_rfl) ?_
            refine wpG.fin (by kernel_rfl) rfl (kr186 _ _ ?_)
            obtain ⟨q0, qr0⟩ := Prod.mk.inj (of_some h)
            obtain ⟨q1, qr1⟩ := Prod.mk.inj (qr0)
            obtain ⟨q2, qr2⟩ := Prod.mk.inj (qr1)
            obtain ⟨q3, qr3⟩ := Prod.mk.inj (qr2)
            obtain ⟨q4, qr4⟩ := Prod.mk.inj (qr3)
            obtain ⟨q5, qr5⟩ := Prod.mk.inj (qr4)
            obtain ⟨q6, qr6⟩ := Prod.mk.inj (qr5)
            obtain ⟨q7, qr7⟩ := Prod.mk.inj (qr6)
            obtain ⟨q8, qr8⟩ := Prod.mk.inj (qr7)
            obtain ⟨q9, qr9⟩ := Prod.mk.inj (qr8)
            obtain ⟨q10, qr10⟩ := Prod.mk.inj (qr9)
            have q11 := qr10
            subst q0
            subst q1
            subst q2
            subst q3
            subst q4
            subst q5
            subst q6
            subst q7
            subst q8
            subst q9
            subst q10
            subst q11
            exact nj _ _ ⟨b116, s112_A, s112_n, s112_c, ((hs.drop (.cons_cons _ (.cons _ (.cons_cons _ (.cons_cons _ (.cons_cons _ (.cons_cons _ (.cons_cons _ (.cons_cons _ (.cons_cons _ (.cons_cons _ (.cons_cons _ (.cons_cons _ (.cons_cons _ (.cons_cons _ (.cons_cons _ .slnil)))))))))))))))).pickR (pick_cons 0 rfl (pick_cons 2 rfl (pick_cons 3 rfl (pick_cons 4 rfl (pick_cons 5 rfl (pick_cons 6 rfl (pick_cons 7 rfl (pick_cons 8 rfl (pick_cons 9 rfl (pick_cons 10 rfl (pick_cons 11 rfl pick_nil)))))))))))), exg (by kernel_rfl)⟩
           ·refine (op_alloc (t := 40) (d := (some 8)) (by kernel_rfl) hs (enc .i32 (zeroA 256)) (.agg (enc .i32 (zeroA 256)).toArray) (by kernel_rfl) (by kernel_rfl) (by kernel_rfl) ?_)
            intro b117 w gw hs
            refine ⟨.of gw, ?_⟩
            obtain ⟨⟨r118, r119⟩, hg, h⟩ := of_bind h
            refine wpG.only 8 (by kernel_rfl) (op_call (d := (some 22)) (by kernel_rfl) hs (fun _ => by kernel_rfl) (dpack_Unpack.ok hg _ (hs.rowL 1 rfl)) ?_)
            intro w gw hs
            refine ⟨.of gw, ?_⟩
            refine wpG.p 9 13 (.tuple #[.agg (enc .i32 r118).toArray, .bool r119]) (by kernel_rfl) (by kernel_rfl) ?_
            refine wpG.p 10 23 (.agg (enc .i32 r118).toArray) (by kernel_rfl) (by kernel_rfl) ?_
            refine wpG.p 11 24 (.bool r119) (by kernel_rfl) (by kernel_rfl) ?_
            have hsB198 := hs
            refine wpG.only 13 (by kernel_rfl) (op_storeW (t := 40) (v := .agg (enc .i32 r118).toArray) (d := none) (by kernel_rfl) hs 0 rfl (vs := enc .i32 r118) (n := 256) (by kernel_rfl) (by kernel_rfl) (by kernel_rfl) (by simp [enc_len]) (by simp [enc_len]) (by intro u hu; exact enc_one _ _ u hu) ?_)
            intro w kp hs
            refine ⟨⟨fun hf => absurd hf (by decide), (keepB1 (hsB198.blkAt 3 rfl) (hs.blkAt 3 rfl))⟩, ?_⟩
            refine wpG.p 14 9 (.bool r119) (by kernel_rfl) (by kernel_rfl) ?_
            refine wpG.fin (by kernel_rfl) rfl (kr186 _ _ ?_)
            obtain ⟨q0, qr0⟩ := Prod.mk.inj (of_some h)
            obtain ⟨q1, qr1⟩ := Prod.mk.inj (qr0)
            obtain ⟨q2, qr2⟩ := Prod.mk.inj (qr1)
            obtain ⟨q3, qr3⟩ := Prod.mk.inj (qr2)
            obtain ⟨q4, qr4⟩ := Prod.mk.inj (qr3)
            obtain ⟨q5, qr5⟩ := Prod.mk.inj (qr4)
            obtain ⟨q6, qr6⟩ := Prod.mk.inj (qr5)
            obtain ⟨q7, qr7⟩ := Prod.mk.inj (qr6)
            obtain ⟨q8, qr8⟩ := Prod.mk.inj (qr7)
            obtain ⟨q9, qr9⟩ := Prod.mk.inj (qr8)
            obtain ⟨q10, qr10⟩ := Prod.mk.inj (qr9)
            have q11 := qr10
            subst q0
            subst q1
            subst q2
            subst q3
            subst q4
            subst q5
            subst q6
            subst q7
            subst q8
            subst q9
            subst q10
            subst q11
            exact nj _ _ ⟨b117, s112_A, s112_n, s112_c, ((hs.drop (.cons_cons _ (.cons _ (.cons_cons _ (.cons_cons _ (.cons_cons _ (.cons_cons _ (.cons_cons _ (.cons_cons _ (.cons_cons _ (.cons_cons _ (.cons_cons _ (.cons_cons _ (.cons_cons _ (.cons_cons _ (.cons_cons _ .slnil)))))))))))))))).pickR (pick_cons 0 rfl (pick_cons 2 rfl (pick_cons 3 rfl (pick_cons 4 rfl (pick_cons 5 rfl (pick_cons 6 rfl (pick_cons 7 rfl (pick_cons 8 rfl (pick_cons 9 rfl (pick_cons 10 rfl (pick_cons 11 rfl pick_nil)))))))))))), exg (by kernel_rfl)⟩
          ·refine (op_alloc (t := 40) (d := (some 8)) (by kernel_rfl) hs (enc .i32 (zeroA 256)) (.agg (enc .i32 (zeroA 256)).toArray) (by kernel_rfl) (by kernel_rfl) (by kernel_rfl) ?_)
           intro b120 w gw hs
           refine ⟨.of gw, ?_⟩
           have hsB200 := hs
           refine wpG.only 3 (by kernel_rfl) (op_inline (d := (some 17)) (f := 61) (args := #[.pointer (some ⟨b6, 0, none⟩), .int .i64 r110]) (by kernel_rfl) (fun _ => by kernel_rfl) fun R199 kI199 => ?_)
           refine calls_k Try.func61 rfl fun Q199 qq199 => ?_
           refine wp_conv (a' := ⟨#[.pointer (some ⟨b6, 0, none⟩), .int .i64 r110, undef, undef, undef, undef, undef, undef, undef, undef, undef, undef, undef, undef, undef, undef, undef, undef, undef, undef, undef, undef, undef], []⟩) (by kernel_rfl) ?_
           refine xseq_k fun KS201 ks201 => ?_
           refine wp_regS (l := [0]) (by kernel_rfl) (by kernel_rfl) fun KR202 kr202 => ?_
           refine wpS.p 0 4 (.slice none 0 0) (by kernel_rfl) ?_
           refine wpS.fin rfl (kr202 _ _ ?_)
           refine then_n (ks201 _ _ ?_)
           refine xseq_k fun KS203 ks203 => ?_
           refine wp_regS (l := [0, 1, 2, 3, 4, 5, 6]) (by kernel_rfl) (by kernel_rfl) fun KR204 kr204 => ?_
           refine wpS.ps [(0, 6, .pointer (some ⟨b6, 0, none⟩)), (1, 7, .pointer (some ⟨b6, 0, none⟩)), (2, 8, .pointer (some ⟨b6, 8, none⟩))] (by kernel_rfl) ?_
           refine wpS.take 3 true (some 9) (.slice z101_A z101_n z101_c) (by kernel_rfl) (yld_load1 (e := 24) (o := 8) hs 11 rfl (by kernel_rfl) (by kernel_rfl) (by rfl) .grow) ?_
           refine wpS.p 4 10 (.int .i64 r110) (by kernel_rfl) ?_
           obtain ⟨h0, h⟩ := of_chk h
           obtain ⟨h1, h⟩ := of_chk h
           obtain ⟨h2, h⟩ := of_chk h
           obtain ⟨s121_A, hA⟩ : ∃ A, A = if z101_c = (0 : Int).toNat then z101_A else adr z101_A ((0 : Int).toNat * Cod.size (CI .u8)) := ⟨_, rfl⟩
           obtain ⟨s121_n, hn⟩ : ∃ n, n = (r110 : Int).toNat - (0 : Int).toNat := ⟨_, rfl⟩
           obtain ⟨s121_c, hc⟩ : ∃ c, c = z101_c - (0 : Int).toNat := ⟨_, rfl⟩
           refine wpS.take 5 false (some 11) (.slice s121_A s121_n s121_c) (by kernel_rfl) (yld_sub (C := (CI .u8)) (t := 24) (e := 5) (low := none) (high := some (.int .i64 r110)) (lo := 0) (hi := r110) (hs.rowR 0 rfl) (by kernel_rfl) (by kernel_rfl) (by kernel_rfl) (.inl ⟨rfl, rfl⟩) (.inr ⟨_, rfl⟩) h0 h1 h2 hA hn hc) ?_
           have hs := hs.addSub (C := (CI .u8)) 0 rfl h0 h1 h2 hA hn hc
           refine wpS.p 6 5 (.slice s121_A s121_n s121_c) (by kernel_rfl) ?_
           refine wpS.fin rfl (kr204 _ _ ?_)
           refine then_n (ks203 _ _ ?_)
           refine xseq_k fun KS205 ks205 => ?_
           refine wp_regS (l := [0, 1, 2, 3, 4, 5, 6, 7, 8, 9]) (by kernel_rfl) (by kernel_rfl) fun KR206 kr206 => ?_
           refine wpS.ps [(0, 12, .pointer (some ⟨b6, 0, none⟩)), (1, 13, .pointer (some ⟨b6, 0, none⟩)), (2, 14, .pointer (some ⟨b6, 0, none⟩)), (3, 15, .pointer (some ⟨b6, 8, none⟩))] (by kernel_rfl) ?_
           refine wpS.take 4 true (some 16) (.slice z101_A z101_n z101_c) (by kernel_rfl) (yld_load1 (e := 24) (o := 8) hs 11 rfl (by kernel_rfl) (by kernel_rfl) (by rfl) .grow) ?_
           refine wpS.p 5 17 (.int .i64 r110) (by kernel_rfl) ?_
           obtain ⟨h0, h⟩ := of_chk h
           obtain ⟨h1, h⟩ := of_chk h
           obtain ⟨h2, h⟩ := of_chk h
           obtain ⟨s122_A, hA⟩ : ∃ A, A = if z101_c = (r110 : Int).toNat then z101_A else adr z101_A ((r110 : Int).toNat * Cod.size (CI .u8)) := ⟨_, rfl⟩
           obtain ⟨s122_n, hn⟩ : ∃ n, n = ((z101.length : Int) : Int).toNat - (r110 : Int).toNat := ⟨_, rfl⟩
           obtain ⟨s122_c, hc⟩ : ∃ c, c = z101_c - (r110 : Int).toNat := ⟨_, rfl⟩
           refine wpS.take 6 false (some 18) (.slice s122_A s122_n s122_c) (by kernel_rfl) (yld_sub (C := (CI .u8)) (t := 24) (e := 5) (low := some (.int .i64 r110)) (high := none) (lo := r110) (hi := (z101.length : Int)) (hs.rowR 1 rfl) (by kernel_rfl) (by kernel_rfl) (by kernel_rfl) (.inr ⟨_, rfl⟩) (.inl ⟨rfl, rfl⟩) h0 h1 h2 hA hn hc) ?_
           have hs := hs.addSub (C := (CI .u8)) 1 rfl h0 h1 h2 hA hn hc
           refine wpS.ps [(7, 19, .pointer (some ⟨b6, 0, none⟩)), (8, 20, .pointer (some ⟨b6, 8, none⟩))] (by kernel_rfl) ?_
           refine wpS.only 9 (op_store1 (t := 24) (o := 8) (v := .slice s122_A s122_n s122_c) (d := none) (by kernel_rfl) hs 11 rfl (by kernel_rfl) rfl (by kernel_rfl) (by simp) ?_)
           intro w kp hs
           refine ⟨fun _ => trivial, ?_⟩
           refine wpS.fin rfl (kr206 _ _ ?_)
           refine then_n (ks205 _ _ ?_)
           refine xseq_k fun KS207 ks207 => ?_
           refine wp_regS (l := [0, 1, 2]) (by kernel_rfl) (by kernel_rfl) fun KR208 kr208 => ?_
           refine wpS.p 0 21 (.slice s121_A s121_n s121_c) (by kernel_rfl) ?_
           obtain ⟨r123, hg, h⟩ := of_bind h
           refine wpS.only 1 (op_callH (d := (some 22)) (by kernel_rfl) hs (fun _ => by kernel_rfl) (slices_Clone_byte_byte.ok hg _ (hs.rowR 1 rfl)) ?_)
           rintro ⟨r123_A, r123_n, r123_c⟩ w gw hs
           have hs := hs.conv (L' := [.ownL (CI .u8) r123_A r123_n r123_c r123 5, .blk b120 (enc .i32 (zeroA 256)) 40, .ownL (CA .i32 256 (by decide)) z99_A z99_n z99_c z99 40, .blk b97 ([.int .i32 4095, .int .i32 4096]) 73, .ownL (CA .i32 256 (by decide)) y62_A y62_n y62_c y62 40, .blk b57 ([.int .i32 y23_0_2, .int .i32 y23_0_2]) 73, .ownL (CA .i32 256 (by decide)) y22_A y22_n y22_c y22 40, .blk b17 ([.int .i32 a0_2, .int .i32 a0_2]) 73, .ownL (CI .u8) r16_A r16_n r16_c r16 5, .ownL (CI .u8) r13_A r13_n r13_c r13 5, .ownL (CI .u8) r10_A r10_n r10_c r10 5, .blk b7 ([.slice r10_A r10_n r10_c, .slice r13_A r13_n r13_c, .slice r16_A r16_n r16_c, .slice y22_A y22_n y22_c, .slice y62_A y62_n y62_c, .slice none 0 0]) 29, .blk b6 ([.int .i64 z100_0_0, .int .i64 z100_0_1, .int .i32 z100_0_2, .int .i64 z100_0_3, .int .i32 z100_0_4, .int .i32 z100_0_5, .int .i64 z100_0_6, .int .i64 z100_0_7, .slice s122_A s122_n s122_c, .bool z100_2]) 96, .blk b2 ([.slice none 0 0, .slice none 0 0, .slice none 0 0, .slice none 0 0, .slice none 0 0, .slice none 0 0]) 29, .blk b1 ([.int .i64 a0_0, .int .i64 a0_1, .int .i32 a0_2, .int .i64 a0_3, .int .i32 a0_4, .int .i32 a0_5, .int .i64 a0_6, .int .i64 a0_7]) 23]) rfl
           refine ⟨fun _ => trivial, ?_⟩
           refine wpS.p 2 4 (.slice r123_A r123_n r123_c) (by kernel_rfl) ?_
           refine wpS.fin rfl (kr208 _ _ ?_)
           refine then_n (ks207 _ _ ?_)
           refine xret ?_
           refine qq199 _ _ (post_ret (by kernel_rfl) (run_results [.tmp 4] [.slice r123_A r123_n r123_c] (by kernel_rfl) (.cons (res_tmp (by kernel_rfl)) .nil)) ?_)
           refine kI199 _ _ ?_
           refine ⟨⟨fun hf => absurd hf (by decide), (keepB1 (hsB200.blkAt 2 rfl) (hs.blkAt 3 rfl))⟩, ?_⟩
           obtain ⟨⟨r124, r125⟩, hg, h⟩ := of_bind h
           refine wpG.only 8 (by kernel_rfl) (op_call (d := (some 22)) (by kernel_rfl) hs (fun _ => by kernel_rfl) (dpack_Unpack.ok hg _ (hs.rowL 0 rfl)) ?_)
           intro w gw hs
           refine ⟨.of gw, ?_⟩
           refine wpG.p 9 13 (.tuple #[.agg (enc .i32 r124).toArray, .bool r125]) (by kernel_rfl) (by kernel_rfl) ?_
           refine wpG.p 10 23 (.agg (enc .i32 r124).toArray) (by kernel_rfl) (by kernel_rfl) ?_
           refine wpG.p 11 24 (.bool r125) (by kernel_rfl) (by kernel_rfl) ?_
           have hsB209 := hs
           refine wpG.only 13 (by kernel_rfl) (op_storeW (t := 40) (v := .agg (enc .i32 r124).toArray) (d := none) (by kernel_rfl) hs 1 rfl (vs := enc .i32 r124) (n := 256) (by kernel_rfl) (by kernel_rfl) (by kernel_rfl) (by simp [enc_len]) (by simp [enc_len]) (by intro u hu; exact enc_one _ _ u hu) ?_)
           intro w kp hs
           refine ⟨⟨fun hf => absurd hf (by decide), (keepB1 (hsB209.blkAt 3 rfl) (hs.blkAt 3 rfl))⟩, ?_⟩
           refine wpG.p 14 9 (.bool r125) (by kernel_rfl) (by kernel_rfl) ?_
           refine wpG.fin (by kernel_rfl) rfl (kr186 _ _ ?_)
           obtain ⟨q0, qr0⟩ := Prod.mk.inj (of_some h)
           obtain ⟨q1, qr1⟩ := Prod.mk.inj (qr0)
           obtain ⟨q2, qr2⟩ := Prod.mk.inj (qr1)
           obtain ⟨q3, qr3⟩ := Prod.mk.inj (qr2)
           obtain ⟨q4, qr4⟩ := Prod.mk.inj (qr3)
           obtain ⟨q5, qr5⟩ := Prod.mk.inj (qr4)
           obtain ⟨q6, qr6⟩ := Prod.mk.inj (qr5)
           obtain ⟨q7, qr7⟩ := Prod.mk.inj (qr6)
           obtain ⟨q8, qr8⟩ := Prod.mk.inj (qr7)
           obtain ⟨q9, qr9⟩ := Prod.mk.inj (qr8)
           obtain ⟨q10, qr10⟩ := Prod.mk.inj (qr9)
           have q11 := qr10
           subst q0
           subst q1
           subst q2
           subst q3
           subst q4
           subst q5
           subst q6
           subst q7
           subst q8
           subst q9
           subst q10
           subst q11
           exact nj _ _ ⟨b120, s122_A, s122_n, s122_c, ((hs.drop (.cons _ (.cons_cons _ (.cons_cons _ (.cons_cons _ (.cons_cons _ (.cons_cons _ (.cons_cons _ (.cons_cons _ (.cons_cons _ (.cons_cons _ (.cons_cons _ (.cons_cons _ (.cons_cons _ (.cons_cons _ (.cons_cons _ .slnil)))))))))))))))).pickR (pick_cons 0 rfl (pick_cons 2 rfl (pick_cons 3 rfl (pick_cons 4 rfl (pick_cons 5 rfl (pick_cons 6 rfl (pick_cons 7 rfl (pick_cons 8 rfl (pick_cons 9 rfl (pick_cons 10 rfl (pick_cons 11 rfl pick_nil)))))))))))), exg (by kernel_rfl)⟩
         ·refine (op_alloc (t := 40) (d := (some 8)) (by kernel_rfl) hs (enc .i32 (zeroA 256)) (.agg (enc .i32 (zeroA 256)).toArray) (by kernel_rfl) (by kernel_rfl) (by kernel_rfl) ?_)
          intro b126 w gw hs
          refine ⟨.of gw, ?_⟩
          obtain ⟨r127, hg, h⟩ := of_bind h
          refine wpG.only 2 (by kernel_rfl) (op_call (d := (some 16)) (by kernel_rfl) hs (fun _ => by kernel_rfl) (dpack_span_size.ok hg _) ?_)
          intro w gw hs
          refine ⟨.of gw, ?_⟩
          have hsB211 := hs
          refine wpG.only 3 (by kernel_rfl) (op_inline (d := (some 17)) (f := 61) (args := #[.pointer (some ⟨b6, 0, none⟩), .int .i64 r127]) (by kernel_rfl) (fun _ => by kernel_rfl) fun R210 kI210 => ?_)
          refine calls_k Try.func61 rfl fun Q210 qq210 => ?_
          refine wp_conv (a' := ⟨#[.pointer (some ⟨b6, 0, none⟩), .int .i64 r127, undef, undef, undef, undef, undef, undef, undef, undef, undef, undef, undef, undef, undef, undef, undef, undef, undef, undef, undef, undef, undef], []⟩) (by kernel_rfl) ?_
          refine xseq_k fun KS212 ks212 => ?_
          refine wp_regS (l := [0]) (by kernel_rfl) (by kernel_rfl) fun KR213 kr213 => ?_
          refine wpS.p 0 4 (.slice none 0 0) (by kernel_rfl) ?_
          refine wpS.fin rfl (kr213 _ _ ?_)
          refine then_n (ks212 _ _ ?_)
          refine xseq_k fun KS214 ks214 => ?_
          refine wp_regS (l := [0, 1, 2, 3, 4, 5, 6]) (by kernel_rfl) (by kernel_rfl) fun KR215 kr215 => ?_
          refine wpS.ps [(0, 6, .pointer (some ⟨b6, 0, none⟩)), (1, 7, .pointer (some ⟨b6, 0, none⟩)), (2, 8, .pointer (some ⟨b6, 8, none⟩))] (by kernel_rfl) ?_
          refine wpS.take 3 true (some 9) (.slice z101_A z101_n z101_c) (by kernel_rfl) (yld_load1 (e := 24) (o := 8) hs 11 rfl (by kernel_rfl) (by kernel_rfl) (by rfl) .grow) ?_
          refine wpS.p 4 10 (.int .i64 r127) (by kernel_rfl) ?_
          obtain ⟨h0, h⟩ := of_chk h
          obtain ⟨h1, h⟩ := of_chk h
          obtain ⟨h2, h⟩ := of_chk h
          obtain ⟨s128_A, hA⟩ : ∃ A, A = if z101_c = (0 : Int).toNat then z101_A else adr z101_A ((0 : Int).toNat * Cod.size (CI .u8)) := ⟨_, rfl⟩
          obtain ⟨s128_n, hn⟩ : ∃ n, n = (r127 : Int).toNat - (0 : Int).toNat := ⟨_, rfl⟩
          obtain ⟨s128_c, hc⟩ : ∃ c, c = z101_c - (0 : Int).toNat := ⟨_, rfl⟩
          refine wpS.take 5 false (some 11) (.slice s128_A s128_n s128_c) (by kernel_rfl) (yld_sub (C := (CI .u8)) (t := 24) (e := 5) (low := none) (high := some (.int .i64 r127)) (lo := 0) (hi := r127) (hs.rowR 0 rfl) (by kernel_rfl) (by kernel_rfl) (by kernel_rfl) (.inl ⟨rfl, rfl⟩) (.inr ⟨_, rfl⟩) h0 h1 h2 hA hn hc) ?_
          have hs := hs.addSub (C := (CI .u8)) 0 rfl h0 h1 h2 hA hn hc
          refine wpS.p 6 5 (.slice s128_A s128_n s128_c) (by kernel_rfl) ?_
          refine wpS.fin rfl (kr215 _ _ ?_)
          refine then_n (ks214 _ _ ?_)
          refine xseq_k fun KS216 ks216 => ?_
          refine wp_regS (l := [0, 1, 2, 3, 4, 5, 6, 7, 8, 9]) (by kernel_rfl) (by kernel_rfl) fun KR217 kr217 => ?_
          refine wpS.ps [(0, 12, .pointer (some ⟨b6, 0, none⟩)), (1, 13, .pointer (some ⟨b6, 0, none⟩)), (2, 14, .pointer (some ⟨b6, 0, none⟩)), (3, 15, .pointer (some ⟨b6, 8, none⟩))] (by kernel_rfl) ?_
          refine wpS.take 4 true (some 16) (.slice z101_A z101_n z101_c) (by kernel_rfl) (yld_load1 (e := 24) (o := 8) hs 11 rfl (by kernel_rfl) (by kernel_rfl) (by rfl) .grow) ?_
          refine wpS.p 5 17 (.int .i64 r127) (by kernel_rfl) ?_
          obtain ⟨h0, h⟩ := of_chk h
          obtain ⟨h1, h⟩ := of_chk h
          obtain ⟨h2, h⟩ := of_chk h
          obtain ⟨s129_A, hA⟩ : ∃ A, A = if z101_c = (r127 : Int).toNat then z101_A else adr z101_A ((r127 : Int).toNat * Cod.size (CI .u8)) := ⟨_, rfl⟩
          obtain ⟨s129_n, hn⟩ : ∃ n, n = ((z101.length : Int) : Int).toNat - (r127 : Int).toNat := ⟨_, rfl⟩
          obtain ⟨s129_c, hc⟩ : ∃ c, c = z101_c - (r127 : Int).toNat := ⟨_, rfl⟩
          refine wpS.take 6 false (some 18) (.slice s129_A s129_n s129_c) (by kernel_rfl) (yld_sub (C := (CI .u8)) (t := 24) (e := 5) (low := some (.int .i64 r127)) (high := none) (lo := r127) (hi := (z101.length : Int)) (hs.rowR 1 rfl) (by kernel_rfl) (by kernel_rfl) (by kernel_rfl) (.inr ⟨_, rfl⟩) (.inl ⟨rfl, rfl⟩) h0 h1 h2 hA hn hc) ?_
          have hs := hs.addSub (C := (CI .u8)) 1 rfl h0 h1 h2 hA hn hc
          refine wpS.ps [(7, 19, .pointer (some ⟨b6, 0, none⟩)), (8, 20, .pointer (some ⟨b6, 8, none⟩))] (by kernel_rfl) ?_
          refine wpS.only 9 (op_store1 (t := 24) (o := 8) (v := .slice s129_A s129_n s129_c) (d := none) (by kernel_rfl) hs 11 rfl (by kernel_rfl) rfl (by kernel_rfl) (by simp) ?_)
          intro w kp hs
          refine ⟨fun _ => trivial, ?_⟩
          refine wpS.fin rfl (kr217 _ _ ?_)
          refine then_n (ks216 _ _ ?_)
          refine xseq_k fun KS218 ks218 => ?_
          refine wp_regS (l := [0, 1, 2]) (by kernel_rfl) (by kernel_rfl) fun KR219 kr219 => ?_
          refine wpS.p 0 21 (.slice s128_A s128_n s128_c) (by kernel_rfl) ?_
          obtain ⟨r130, hg, h⟩ := of_bind h
          refine wpS.only 1 (op_callH (d := (some 22)) (by kernel_rfl) hs (fun _ => by kernel_rfl) (slices_Clone_byte_byte.ok hg _ (hs.rowR 1 rfl)) ?_)
          rintro ⟨r130_A, r130_n, r130_c⟩ w gw hs
          have hs := hs.conv (L' := [.ownL (CI .u8) r130_A r130_n r130_c r130 5, .blk b126 (enc .i32 (zeroA 256)) 40, .ownL (CA .i32 256 (by decide)) z99_A z99_n z99_c z99 40, .blk b97 ([.int .i32 4095, .int .i32 4096]) 73, .ownL (CA .i32 256 (by decide)) y62_A y62_n y62_c y62 40, .blk b57 ([.int .i32 y23_0_2, .int .i32 y23_0_2]) 73, .ownL (CA .i32 256 (by decide)) y22_A y22_n y22_c y22 40, .blk b17 ([.int .i32 a0_2, .int .i32 a0_2]) 73, .ownL (CI .u8) r16_A r16_n r16_c r16 5, .ownL (CI .u8) r13_A r13_n r13_c r13 5, .ownL (CI .u8) r10_A r10_n r10_c r10 5, .blk b7 ([.slice r10_A r10_n r10_c, .slice r13_A r13_n r13_c, .slice r16_A r16_n r16_c, .slice y22_A y22_n y22_c, .slice y62_A y62_n y62_c, .slice none 0 0]) 29, .blk b6 ([.int .i64 z100_0_0, .int .i64 z100_0_1, .int .i32 z100_0_2, .int .i64 z100_0_3, .int .i32 z100_0_4, .int .i32 z100_0_5, .int .i64 z100_0_6, .int .i64 z100_0_7, .slice s129_A s129_n s129_c, .bool z100_2]) 96, .blk b2 ([.slice none 0 0, .slice none 0 0, .slice none 0 0, .slice none 0 0, .slice none 0 0, .slice none 0 0]) 29, .blk b1 ([.int .i64 a0_0, .int .i64 a0_1, .int .i32 a0_2, .int .i64 a0_3, .int .i32 a0_4, .int .i32 a0_5, .int .i64 a0_6, .int .i64 a0_7]) 23]) rfl
          refine ⟨fun _ => trivial, ?_⟩
          refine wpS.p 2 4 (.slice r130_A r130_n r130_c) (by kernel_rfl) ?_
          refine wpS.fin rfl (kr219 _ _ ?_)
          refine then_n (ks218 _ _ ?_)
          refine xret ?_
          refine qq210 _ _ (post_ret (by kernel_rfl) (run_results [.tmp 4] [.slice r130_A r130_n r130_c] (by kernel_rfl) (.cons (res_tmp (by kernel_rfl)) .nil)) ?_)
          refine kI210 _ _ ?_
          refine ⟨⟨fun hf => absurd hf (by decide), (keepB1 (hsB211.blkAt 2 rfl) (hs.blkAt 3 rfl))⟩, ?_⟩
          obtain ⟨⟨r131, r132⟩, hg, h⟩ := of_bind h
          refine wpG.only 8 (by kernel_rfl) (op_call (d := (some 22)) (by kernel_rfl) hs (fun _ => by kernel_rfl) (dpack_Unpack.ok hg _ (hs.rowL 0 rfl)) ?_)
          intro w gw hs
          refine ⟨.of gw, ?_⟩
          refine wpG.p 9 13 (.tuple #[.agg (enc .i32 r131).toArray, .bool r132]) (by kernel_rfl) (by kernel_rfl) ?_
          refine wpG.p 10 23 (.agg (enc .i32 r131).toArray) (by kernel_rfl) (by kernel_rfl) ?_
          refine wpG.p 11 24 (.bool r132) (by kernel_rfl) (by kernel_rfl) ?_
          have hsB220 := hs
          refine wpG.only 13 (by kernel_rfl) (op_storeW (t := 40) (v := .agg (enc .i32 r131).toArray) (d := none) (by kernel_rfl) hs 1 rfl (vs := enc .i32 r131) (n := 256) (by kernel_rfl) (by kernel_rfl) (by kernel_rfl) (by simp [enc_len]) (by simp [enc_len]) (by intro u hu; exact enc_one _ _ u hu) ?_)
          intro w kp hs
          refine ⟨⟨fun hf => absurd hf (by decide), (keepB1 (hsB220.blkAt 3 rfl) (hs.blkAt 3 rfl))⟩, ?_⟩
          refine wpG.p 14 9 (.bool r132) (by kernel_rfl) (by kernel_rfl) ?_
          refine wpG.fin (by kernel_rfl) rfl (kr186 _ _ ?_)
          obtain ⟨q0, qr0⟩ := Prod.mk.inj (of_some h)
          obtain ⟨q1, qr1⟩ := Prod.mk.inj (qr0)
          obtain ⟨q2, qr2⟩ := Prod.mk.inj (qr1)
          obtain ⟨q3, qr3⟩ := Prod.mk.inj (qr2)
          obtain ⟨q4, qr4⟩ := Prod.mk.inj (qr3)
          obtain ⟨q5, qr5⟩ := Prod.mk.inj (qr4)
          obtain ⟨q6, qr6⟩ := Prod.mk.inj (qr5)
          obtain ⟨q7, qr7⟩ := Prod.mk.inj (qr6)
          obtain ⟨q8, qr8⟩ := Prod.mk.inj (qr7)
          obtain ⟨q9, qr9⟩ := Prod.mk.inj (qr8)
          obtain ⟨q10, qr10⟩ := Prod.mk.inj (qr9)
          have q11 := qr10
          subst q0
          subst q1
          subst q2
          subst q3
          subst q4
          subst q5
          subst q6
          subst q7
          subst q8
          subst q9
          subst q10
          subst q11
          exact nj _ _ ⟨b126, s129_A, s129_n, s129_c, ((hs.drop (.cons _ (.cons_cons _ (.cons_cons _ (.cons_cons _ (.cons_cons _ (.cons_cons _ (.cons_cons _ (.cons_cons _ (.cons_cons _ (.cons_cons _ (.cons_cons _ (.cons_cons _ (.cons_cons _ (.cons_cons _ (.cons_cons _ .slnil)))))))))))))))).pickR (pick_cons 0 rfl (pick_cons 2 rfl (pick_cons 3 rfl (pick_cons 4 rfl (pick_cons 5 rfl (pick_cons 6 rfl (pick_cons 7 rfl (pick_cons 8 rfl (pick_cons 9 rfl (pick_cons 10 rfl (pick_cons 11 rfl pick_nil)))))))))))), exg (by kernel_rfl)⟩
        ·clear hj hs
         rintro a w ⟨b105, y109_A, y109_n, y109_c, hs, g, rfl⟩
         refine then_n (ks185 _ _ ?_)
         obtain ⟨⟨y133_0_0, y133_0_1, y133_0_2, y133_0_3, y133_0_4, y133_0_5, y133_0_6, y133_0_7, y133_2⟩, hj, h⟩ := of_bind h
         refine xseq_k fun KS221 ks221 => wp_join (N := fun a w => St w0 [] [.blk b105 (enc .i32 y106) 40, .ownL (CA .i32 256 (by decide)) z99_A z99_n z99_c z99 40, .blk b97 ([.int .i32 4095, .int .i32 4096]) 73, .ownL (CA .i32 256 (by decide)) y62_A y62_n y62_c y62 40, .blk b57 ([.int .i32 y23_0_2, .int .i32 y23_0_2]) 73, .ownL (CA .i32 256 (by decide)) y22_A y22_n y22_c y22 40, .blk b17 ([.int .i32 a0_2, .int .i32 a0_2]) 73, .ownL (CI .u8) r16_A r16_n r16_c r16 5, .ownL (CI .u8) r13_A r13_n r13_c r13 5, .ownL (CI .u8) r10_A r10_n r10_c r10 5, .blk b7 ([.slice r10_A r10_n r10_c, .slice r13_A r13_n r13_c, .slice r16_A r16_n r16_c, .slice y22_A y22_n y22_c, .slice y62_A y62_n y62_c, .slice none 0 0]) 29, .blk b6 ([.int .i64 y133_0_0, .int .i64 y133_0_1, .int .i32 y133_0_2, .int .i64 y133_0_3, .int .i32 y133_0_4, .int .i32 y133_0_5, .int .i64 y133_0_6, .int .i64 y133_0_7, .slice y109_A y109_n y109_c, .bool y133_2]) 96, .blk b2 ([.slice none 0 0, .slice none 0 0, .slice none 0 0, .slice none 0 0, .slice none 0 0, .slice none 0 0]) 29, .blk b1 ([.int .i64 a0_0, .int .i64 a0_1, .int .i32 a0_2, .int .i64 a0_3, .int .i32 a0_4, .int .i32 a0_5, .int .i64 a0_6, .int .i64 a0_7]) 23] [.rowL (CI .u8) y109_A y109_n y109_c y109, .rowL (CI .u8) z101_A z101_n z101_c z101, .rowL (CI .u8) y64_A y64_n y64_c y64, .rowL (CI .u8) y24_A y24_n y24_c y24, .rowL (CI .u8) s15_A s15_n s15_c (subL (subL (subL a1 32 (a1.length : Int)) 32 ((subL a1 32 (a1.length : Int)).length : Int)) 64 ((subL (subL a1 32 (a1.length : Int)) 32 ((subL a1 32 (a1.length : Int)).length : Int)).length : Int)), .rowL (CI .u8) s14_A s14_n s14_c (subL (subL (subL a1 32 (a1.length : Int)) 32 ((subL a1 32 (a1.length : Int)).length : Int)) 0 64), .rowL (CI .u8) s12_A s12_n s12_c (subL (subL a1 32 (a1.length : Int)) 32 ((subL a1 32 (a1.length : Int)).length : Int)), .rowL (CI .u8) s11_A s11_n s11_c (subL (subL a1 32 (a1.length : Int)) 0 32), .rowL (CI .u8) s9_A s9_n s9_c (subL a1 32 (a1.length : Int)), .rowL (CI .u8) s8_A s8_n s8_c (subL a1 0 32), .rowL (CI .u8) a1_A a1_n a1_c a1] w ∧ ∃ g : Nat → Value, a = ⟨#[.pointer (some ⟨b6, 0, none⟩), .int .i64 y63_0_0, .agg #[.int .i32 4095, .int .i32 4096], undef, undef, .pointer (some ⟨b97, 0, none⟩), .slice none 0 0, .slice z99_A z99_n z99_c, .pointer (some ⟨b105, 0, none⟩), .bool y107, .int .i64 y63_0_0, .int .i64 z98, .bool true, (g 13), (g 14), (g 15), (g 16), (g 17), (g 18), (g 19), (g 20), (g 21), (g 22), (g 23), (g 24), (g 25), (g 26), (g 27), (g 28), (g 29), (g 30), (g 31), (g 32), (g 33), (g 34), (g 35), (g 36), (g 37), (g 38), (g 39), (g 40), undef], []⟩) (fun N nj => ?_) ?_
         ·clear h
          have h := hj
          refine wp_regS (l := [0, 1, 2, 3, 4, 5, 6, 7, 8, 9, 10, 11]) (by kernel_rfl) (by kernel_rfl) fun KR222 kr222 => ?_
          refine wpS.ps [(0, 25, .pointer (some ⟨b6, 0, none⟩)), (1, 26, .pointer (some ⟨b6, 0, none⟩)), (2, 27, .pointer (some ⟨b6, 0, none⟩)), (3, 28, .pointer (some ⟨b6, 9, none⟩))] (by kernel_rfl) ?_
          cases y108_2 with
          | true =>
           have h := of_if_t h
           refine wpS.take 4 true (some 29) (.bool true) (by kernel_rfl) (yld_load1 (e := 4) (o := 9) hs 11 rfl (by kernel_rfl) (by kernel_rfl) (by rfl) .grow) ?_
           refine wpS.ps [(5, 30, .bool true), (6, 31, undef), (7, 32, undef), (8, 33, .bool true), (9, 34, .pointer (some ⟨b6, 0, none⟩)), (10, 35, .pointer (some ⟨b6, 9, none⟩))] (by kernel_rfl) ?_
           refine wpS.only 11 (op_store1 (t := 4) (o := 9) (v := .bool true) (d := none) (by kernel_rfl) hs 11 rfl (by kernel_rfl) rfl (by kernel_rfl) (by simp) ?_)
           intro w kp hs
           refine ⟨fun _ => trivial, ?_⟩
           refine wpS.fin rfl (kr222 _ _ ?_)
           obtain ⟨q0, qr0⟩ := Prod.mk.inj (of_some h)
           obtain ⟨q1, qr1⟩ := Prod.mk.inj (qr0)
           obtain ⟨q2, qr2⟩ := Prod.mk.inj (qr1)
           obtain ⟨q3, qr3⟩ := Prod.mk.inj (qr2)
           obtain ⟨q4, qr4⟩ := Prod.mk.inj (qr3)
           obtain ⟨q5, qr5⟩ := Prod.mk.inj (qr4)
           obtain ⟨q6, qr6⟩ := Prod.mk.inj (qr5)
           obtain ⟨q7, qr7⟩ := Prod.mk.inj (qr6)
           have q8 := qr7
           subst q0
           subst q1
           subst q2
           subst q3
           subst q4
           subst q5
           subst q6
           subst q7
           subst q8
           exact nj _ _ ⟨(hs.conv rfl), exg (by kernel_rfl)⟩
          | false =>
           have h := of_if_f h
           refine wpS.take 4 true (some 29) (.bool false) (by kernel_rfl) (yld_load1 (e := 4) (o := 9) hs 11 rfl (by kernel_rfl) (by kernel_rfl) (by rfl) .grow) ?_
           refine wpS.ps [(5, 30, .bool false), (6, 31, .bool y107), (7, 32, .bool (!y107)), (8, 33, .bool (!y107)), (9, 34, .pointer (some ⟨b6, 0, none⟩)), (10, 35, .pointer (some ⟨b6, 9, none⟩))] (by kernel_rfl) ?_
           obtain ⟨x134, hx, h⟩ := of_bind h
           refine wpS.only 11 (op_store1 (t := 4) (o := 9) (v := .bool x134) (d := none) (by kernel_rfl) hs 11 rfl (by cases hx; kernel_rfl) rfl (by kernel_rfl) (by simp) ?_)
           intro w kp hs
           refine ⟨fun _ => trivial, ?_⟩
           refine wpS.fin rfl (kr222 _ _ ?_)
           obtain ⟨q0, qr0⟩ := Prod.mk.inj (of_some h)
           obtain ⟨q1, qr1⟩ := Prod.mk.inj (qr0)
           obtain ⟨q2, qr2⟩ := Prod.mk.inj (qr1)
           obtain ⟨q3, qr3⟩ := Prod.mk.inj (qr2)
           obtain ⟨q4, qr4⟩ := Prod.mk.inj (qr3)
           obtain ⟨q5, qr5⟩ := Prod.mk.inj (qr4)
           obtain ⟨q6, qr6⟩ := Prod.mk.inj (qr5)
           obtain ⟨q7, qr7⟩ := Prod.mk.inj (qr6)
           have q8 := qr7
           subst q0
           subst q1
           subst q2
           subst q3
           subst q4
           subst q5
           subst q6
           subst q7
           subst q8
           exact nj _ _ ⟨(hs.conv rfl), exg (by kernel_rfl)⟩
         ·clear hj hs
          rintro a w ⟨hs, g, rfl⟩
          refine then_n (ks221 _ _ ?_)
          refine wp_regS (l := [0, 1, 2, 3, 4]) (by kernel_rfl) (by kernel_rfl) fun KR223 kr223 => ?_
          refine wpS.p 0 36 (.slice z99_A z99_n z99_c) (by kernel_rfl) ?_
          refine wpS.take 1 true (some 37) (.agg (enc .i32 y106).toArray) (by kernel_rfl) (yld_loadW (e := 40) (n := 256) hs 0 rfl (by kernel_rfl) (by kernel_rfl) (by kernel_rfl) (by exact enc_len _ _) .grow) ?_
          refine wpS.only 2 (op_litL (C := (CA .i32 256 (by decide))) (t := 25) (e := 40) (len := 1) (parts := #[(0, .agg (enc .i32 y106).toArray)]) (l := [y106]) (d := (some 38)) (by kernel_rfl) hs (by kernel_rfl) rfl (by kernel_rfl) (by kernel_rfl) (z := .agg (enc .i32 (zeroA 256)).toArray) (by kernel_rfl) rfl (by decide) (by decide) ?_)
          intro s135_A s135_n s135_c w gw hs
          refine ⟨fun _ => trivial, ?_⟩
          obtain ⟨h0, h⟩ := of_chk h
          refine wpS.only 3 (op_appendT (C := (CA .i32 256 (by decide))) (t := 25) (ty := 25) (e := 40) (bytes := 1024) (B := 137438953472) (d := (some 39)) (by kernel_rfl) hs 2 rfl (hs.rowL 0 rfl) (by kernel_rfl) (by kernel_rfl) (by kernel_rfl) (by kernel_rfl) (by kernel_rfl) h0 (by decide) (by decide) ?_)
          intro s136_A s136_n s136_c w hs
          refine ⟨fun _ => trivial, ?_⟩
          refine wpS.p 4 7 (.slice s136_A s136_n s136_c) (by kernel_rfl) ?_
          refine wpS.fin rfl (kr223 _ _ ?_)
          refine inBlock_n ?_
          refine then_n (ks184 _ _ ?_)
          refine wp_regS (l := [0, 1]) (by kernel_rfl) (by kernel_rfl) fun KR224 kr224 => ?_
          refine wpS.ps [(0, 40, .int .i64 (iadd .i64 z98 1)), (1, 11, .int .i64 (iadd .i64 z98 1))] (by kernel_rfl) ?_
          refine wpS.fin rfl (kr224 _ _ ?_)
          exact then_n (kl2 _ _ ⟨n, Nat.lt_succ_self n, (iadd .i64 z98 1), (z99 ++ ([y106] : List (Arr 256))), y133_0_0, y133_0_1, y133_0_2, y133_0_3, y133_0_4, y133_0_5, y133_0_6, y133_0_7, y133_2, y109, s136_A, s136_n, s136_c, y109_A, y109_n, y109_c, h, ((hs.drop (.cons _ (.cons _ (.cons_cons _ (.cons_cons _ (.cons_cons _ (.cons_cons _ (.cons_cons _ (.cons_cons _ (.cons_cons _ (.cons_cons _ (.cons_cons _ (.cons_cons _ (.cons_cons _ (.cons_cons _ (.cons_cons _ .slnil)))))))))))))))).pickR (pick_cons 0 rfl (pick_cons 2 rfl (pick_cons 3 rfl (pick_cons 4 rfl (pick_cons 5 rfl (pick_cons 6 rfl (pick_cons 7 rfl (pick_cons 8 rfl (pick_cons 9 rfl (pick_cons 10 rfl pick_nil))))))))))), exg (by kernel_rfl)⟩)
       ·refine wpS.take 0 false (some 12) (.bool false) (by kernel_rfl) (yld_b (df hc) (fun _ => by kernel_rfl)) ?_
        refine wpS.fin rfl (kr182 _ _ ?_)
        refine then_n (ks181 _ _ ?_)
        refine xseq_k fun KS225 ks225 => ?_
        refine wp_cond_f (by kernel_rfl) ?_
        refine xexit ?_
        refine then_x ?_
        refine then_x ?_
        refine inBlock_hit ?_
        obtain ⟨q0, qr0⟩ := Prod.mk.inj (of_some h)
        obtain ⟨q1, qr1⟩ := Prod.mk.inj (qr0)
        obtain ⟨q2, qr2⟩ := Prod.mk.inj (qr1)
        obtain ⟨q3, qr3⟩ := Prod.mk.inj (qr2)
        obtain ⟨q4, qr4⟩ := Prod.mk.inj (qr3)
        obtain ⟨q5, qr5⟩ := Prod.mk.inj (qr4)
        obtain ⟨q6, qr6⟩ := Prod.mk.inj (qr5)
        obtain ⟨q7, qr7⟩ := Prod.mk.inj (qr6)
        obtain ⟨q8, qr8⟩ := Prod.mk.inj (qr7)
        obtain ⟨q9, qr9⟩ := Prod.mk.inj (qr8)
        have q10 := qr9
        subst q0
        subst q1
        subst q2
        subst q3
        subst q4
        subst q5
        subst q6
        subst q7
        subst q8
        subst q9
        subst q10
        exact exq_n (nn2 _ _ ⟨z99_A, z99_n, z99_c, z101_A, z101_n, z101_c, (hs.conv rfl), exg (by kernel_rfl)⟩)
     ·clear hs h hy
      rintro a w ⟨y102_A, y102_n, y102_c, y104_A, y104_n, y104_c, hs, g, rfl⟩
      have h := hk2
      refine then_n (ks178 _ _ ?_)
      refine xseq_k fun KS226 ks226 => ?_
      refine wp_regS (l := [0, 1]) (by kernel_rfl) (by kernel_rfl) fun KR227 kr227 => ?_
      refine wpS.ps [(0, 41, .slice y102_A y102_n y102_c), (1, 6, .slice y102_A y102_n y102_c)] (by kernel_rfl) ?_
      refine wpS.fin rfl (kr227 _ _ ?_)
      refine then_n (ks226 _ _ ?_)
      refine xret ?_
      refine qq173 _ _ (post_ret (by kernel_rfl) (run_results [.tmp 6] [.slice y102_A y102_n y102_c] (by kernel_rfl) (.cons (res_tmp (by kernel_rfl)) .nil)) ?_)
      refine kI173 _ _ ?_
      refine ⟨fun _ => trivial, ?_⟩
      refine wpS.p 8 63 (.pointer (some ⟨b7, 5, none⟩)) (by kernel_rfl) ?_
      refine wpS.only 9 (op_store1 (t := 25) (o := 5) (v := .slice y102_A y102_n y102_c) (d := none) (by kernel_rfl) hs 9 rfl (by kernel_rfl) rfl (by kernel_rfl) (by simp) ?_)
      intro w kp hs
      refine ⟨fun _ => trivial, ?_⟩
      refine wpS.fin rfl (kr172 _ _ ?_)
      refine then_n (ks171 _ _ ?_)
      refine xseq_k fun KS228 ks228 => ?_
      refine xseq_k fun KS229 ks229 => ?_
      refine wp_regS (l := [0, 1, 2, 3]) (by kernel_rfl) (by kernel_rfl) fun KR230 kr230 => ?_
      refine wpS.ps [(0, 64, .pointer (some ⟨b6, 0, none⟩)), (1, 65, .pointer (some ⟨b6, 0, none⟩)), (2, 66, .pointer (some ⟨b6, 9, none⟩))] (by kernel_rfl) ?_
      cases y103_2 with
      | true =>
       have h := of_if_t h
       refine wpS.take 3 true (some 67) (.bool true) (by kernel_rfl) (yld_load1 (e := 4) (o := 9) hs 10 rfl (by kernel_rfl) (by kernel_rfl) (by rfl) .grow) ?_
       refine wpS.fin rfl (kr230 _ _ ?_)
       refine then_n (ks229 _ _ ?_)
       refine wp_cond_t (by kernel_rfl) ?_
       refine xseq_k fun KS231 ks231 => ?_
       refine wp_regS (l := [0, 1, 2]) (by kernel_rfl) (by kernel_rfl) fun KR232 kr232 => ?_
       refine wpS.p 0 68 (.agg #[.slice none 0 0, .slice none 0 0, .slice none 0 0, .slice none 0 0, .slice none 0 0, .slice none 0 0]) (by kernel_rfl) ?_
       refine wpS.only 1 (op_storeW (t := 29) (v := .agg #[.slice none 0 0, .slice none 0 0, .slice none 0 0, .slice none 0 0, .slice none 0 0, .slice none 0 0]) (d := none) (by kernel_rfl) hs 11 rfl (vs := [.slice none 0 0, .slice none 0 0, .slice none 0 0, .slice none 0 0, .slice none 0 0, .slice none 0 0]) (n := 6) (by kernel_rfl) (by kernel_rfl) (by kernel_rfl) (by simp [enc_len]) (by simp [enc_len]) (by simp [Value.oneCell']) ?_)
       intro w kp hs
       refine ⟨fun _ => trivial, ?_⟩
       refine wpS.p 2 5 (.bool false) (by kernel_rfl) ?_
       refine wpS.fin rfl (kr232 _ _ ?_)
       refine then_n (ks231 _ _ ?_)
       refine xret ?_
       refine then_r ?_
       obtain ⟨q0, qr0⟩ := Prod.mk.inj (of_some h)
       obtain ⟨q1, qr1⟩ := Prod.mk.inj (qr0)
       obtain ⟨q2, qr2⟩ := Prod.mk.inj (qr1)
       obtain ⟨q3, qr3⟩ := Prod.mk.inj (qr2)
       obtain ⟨q4, qr4⟩ := Prod.mk.inj (qr3)
       obtain ⟨q5, qr5⟩ := Prod.mk.inj (qr4)
       have q6 := qr5
       subst q0
       subst q1
       subst q2
       subst q3
       subst q4
       subst q5
       subst q6
       have hs := hs.addNilL (CA .i32 256 (by decide)) 40
       have hs := hs.addNilL (CA .i32 256 (by decide)) 40
       have hs := hs.addNilL (CA .i32 256 (by decide)) 40
       have hs := hs.addNilL (CI .u8) 5
       have hs := hs.addNilL (CI .u8) 5
       have hs := hs.addNilL (CI .u8) 5
       exact qq _ _ (post_ret (by kernel_rfl) (run_results [.cell 4 29, .tmp 5] [.agg #[.slice none 0 0, .slice none 0 0, .slice none 0 0, .slice none 0 0, .slice none 0 0, .slice none 0 0], .bool false] (by kernel_rfl) (.cons (res_cellN (n := 6) hs 17 rfl (by kernel_rfl) (by kernel_rfl) (by kernel_rfl) (by simp [enc_len])) (.cons (res_tmp (by kernel_rfl)) .nil))) ⟨⟨⟨none, 0, 0⟩, ⟨none, 0, 0⟩, ⟨none, 0, 0⟩, ⟨none, 0, 0⟩, ⟨none, 0, 0⟩, ⟨none, 0, 0⟩⟩, congrArg Ending.returned (by kernel_rfl), ((hs.drop (.cons_cons _ (.cons_cons _ (.cons_cons _ (.cons_cons _ (.cons_cons _ (.cons_cons _ (.cons _ (.cons _ (.cons _ (.cons _ (.cons _ (.cons _ (.cons _ (.cons _ (.cons _ (.cons _ (.cons _ (.cons _ (.cons _ .slnil)))))))))))))))))))).pickR pick_nil)⟩)
      | false =>
       have h := of_if_f h
       refine wpS.take 3 true (some 67) (.bool false) (by kernel_rfl) (yld_load1 (e := 4) (o := 9) hs 10 rfl (by kernel_rfl) (by kernel_rfl) (by rfl) .grow) ?_
       refine wpS.fin rfl (kr230 _ _ ?_)
       refine then_n (ks229 _ _ ?_)
       refine wp_cond_f (by kernel_rfl) ?_
       refine xskip ?_
       refine then_n (ks228 _ _ ?_)
       refine xseq_k fun KS233 ks233 => ?_
       refine wp_regS (l := [0, 1, 2]) (by kernel_rfl) (by kernel_rfl) fun KR234 kr234 => ?_
       refine wpS.take 0 true (some 69) (.agg #[.slice r10_A r10_n r10_c, .slice r13_A r13_n r13_c, .slice r16_A r16_n r16_c, .slice y22_A y22_n y22_c, .slice y62_A y62_n y62_c, .slice y102_A y102_n y102_c]) (by kernel_rfl) (yld_loadW (e := 29) (n := 6) hs 9 rfl (by kernel_rfl) (by kernel_rfl) (by kernel_rfl) (by simp [enc_len]) .grow) ?_
       refine wpS.only 1 (op_storeW (t := 29) (v := .agg #[.slice r10_A r10_n r10_c, .slice r13_A r13_n r13_c, .slice r16_A r16_n r16_c, .slice y22_A y22_n y22_c, .slice y62_A y62_n y62_c, .slice y102_A y102_n y102_c]) (d := none) (by kernel_rfl) hs 11 rfl (vs := [.slice r10_A r10_n r10_c, .slice r13_A r13_n r13_c, .slice r16_A r16_n r16_c, .slice y22_A y22_n y22_c, .slice y62_A y62_n y62_c, .slice y102_A y102_n y102_c]) (n := 6) (by kernel_rfl) (by kernel_rfl) (by kernel_rfl) (by simp [enc_len]) (by simp [enc_len]) (by simp [Value.oneCell']) ?_)
       intro w kp hs
       refine ⟨fun _ => trivial, ?_⟩
       refine wpS.p 2 5 (.bool true) (by kernel_rfl) ?_
       refine wpS.fin rfl (kr234 _ _ ?_)
       refine then_n (ks233 _ _ ?_)
       refine xret ?_
       obtain ⟨q0, qr0⟩ := Prod.mk.inj (of_some h)
       obtain ⟨q1, qr1⟩ := Prod.mk.inj (qr0)
       obtain ⟨q2, qr2⟩ := Prod.mk.inj (qr1)
       obtain ⟨q3, qr3⟩ := Prod.mk.inj (qr2)
       obtain ⟨q4, qr4⟩ := Prod.mk.inj (qr3)
       obtain ⟨q5, qr5⟩ := Prod.mk.inj (qr4)
       have q6 := qr5
       subst q0
       subst q1
       subst q2
       subst q3
       subst q4
       subst q5
       subst q6
       have hs := (hs.front 0 rfl).conv (L' := [.ownL (CA .i32 256 (by decide)) y102_A y102_n y102_c y102 40, .blk b97 ([.int .i32 4095, .int .i32 4096]) 73, .ownL (CA .i32 256 (by decide)) y62_A y62_n y62_c y62 40, .blk b57 ([.int .i32 y23_0_2, .int .i32 y23_0_2]) 73, .ownL (CA .i32 256 (by decide)) y22_A y22_n y22_c y22 40, .blk b17 ([.int .i32 a0_2, .int .i32 a0_2]) 73, .ownL (CI .u8) r16_A r16_n r16_c r16 5, .ownL (CI .u8) r13_A r13_n r13_c r13 5, .ownL (CI .u8) r10_A r10_n r10_c r10 5, .blk b7 ([.slice r10_A r10_n r10_c, .slice r13_A r13_n r13_c, .slice r16_A r16_n r16_c, .slice y22_A y22_n y22_c, .slice y62_A y62_n y62_c, .slice y102_A y102_n y102_c]) 29, .blk b6 ([.int .i64 y103_0_0, .int .i64 y103_0_1, .int .i32 y103_0_2, .int .i64 y103_0_3, .int .i32 y103_0_4, .int .i32 y103_0_5, .int .i64 y103_0_6, .int .i64 y103_0_7, .slice y104_A y104_n y104_c, .bool false]) 96, .blk b2 ([.slice r10_A r10_n r10_c, .slice r13_A r13_n r13_c, .slice r16_A r16_n r16_c, .slice y22_A y22_n y22_c, .slice y62_A y62_n y62_c, .slice y102_A y102_n y102_c]) 29, .blk b1 ([.int .i64 a0_0, .int .i64 a0_1, .int .i32 a0_2, .int .i64 a0_3, .int .i32 a0_4, .int .i32 a0_5, .int .i64 a0_6, .int .i64 a0_7]) 23]) rfl
       have hs := (hs.front 2 rfl).conv (L' := [.ownL (CA .i32 256 (by decide)) y62_A y62_n y62_c y62 40, .ownL (CA .i32 256 (by decide)) y102_A y102_n y102_c y102 40, .blk b97 ([.int .i32 4095, .int .i32 4096]) 73, .blk b57 ([.int .i32 y23_0_2, .int .i32 y23_0_2]) 73, .ownL (CA .i32 256 (by decide)) y22_A y22_n y22_c y22 40, .blk b17 ([.int .i32 a0_2, .int .i32 a0_2]) 73, .ownL (CI .u8) r16_A r16_n r16_c r16 5, .ownL (CI .u8) r13_A r13_n r13_c r13 5, .ownL (CI .u8) r10_A r10_n r10_c r10 5, .blk b7 ([.slice r10_A r10_n r10_c, .slice r13_A r13_n r13_c, .slice r16_A r16_n r16_c, .slice y22_A y22_n y22_c, .slice y62_A y62_n y62_c, .slice y102_A y102_n y102_c]) 29, .blk b6 ([.int .i64 y103_0_0, .int .i64 y103_0_1, .int .i32 y103_0_2, .int .i64 y103_0_3, .int .i32 y103_0_4, .int .i32 y103_0_5, .int .i64 y103_0_6, .int .i64 y103_0_7, .slice y104_A y104_n y104_c, .bool false]) 96, .blk b2 ([.slice r10_A r10_n r10_c, .slice r13_A r13_n r13_c, .slice r16_A r16_n r16_c, .slice y22_A y22_n y22_c, .slice y62_A y62_n y62_c, .slice y102_A y102_n y102_c]) 29, .blk b1 ([.int .i64 a0_0, .int .i64 a0_1, .int .i32 a0_2, .int .i64 a0_3, .int .i32 a0_4, .int .i32 a0_5, .int .i64 a0_6, .int .i64 a0_7]) 23]) rfl
       have hs := (hs.front 4 rfl).conv (L' := [.ownL (CA .i32 256 (by decide)) y22_A y22_n y22_c y22 40, .ownL (CA .i32 256 (by decide)) y62_A y62_n y62_c y62 40, .ownL (CA .i32 256 (by decide)) y102_A y102_n y102_c y102 40, .blk b97 ([.int .i32 4095, .int .i32 4096]) 73, .blk b57 ([.int .i32 y23_0_2, .int .i32 y23_0_2]) 73, .blk b17 ([.int .i32 a0_2, .int .i32 a0_2]) 73, .ownL (CI .u8) r16_A r16_n r16_c r16 5, .ownL (CI .u8) r13_A r13_n r13_c r13 5, .ownL (CI .u8) r10_A r10_n r10_c r10 5, .blk b7 ([.slice r10_A r10_n r10_c, .slice r13_A r13_n r13_c, .slice r16_A r16_n r16_c, .slice y22_A y22_n y22_c, .slice y62_A y62_n y62_c, .slice y102_A y102_n y102_c]) 29, .blk b6 ([.int .i64 y103_0_0, .int .i64 y103_0_1, .int .i32 y103_0_2, .int .i64 y103_0_3, .int .i32 y103_0_4, .int .i32 y103_0_5, .int .i64 y103_0_6, .int .i64 y103_0_7, .slice y104_A y104_n y104_c, .bool false]) 96, .blk b2 ([.slice r10_A r10_n r10_c, .slice r13_A r13_n r13_c, .slice r16_A r16_n r16_c, .slice y22_A y22_n y22_c, .slice y62_A y62_n y62_c, .slice y102_A y102_n y102_c]) 29, .blk b1 ([.int .i64 a0_0, .int .i64 a0_1, .int .i32 a0_2, .int .i64 a0_3, .int .i32 a0_4, .int .i32 a0_5, .int .i64 a0_6, .int .i64 a0_7]) 23]) rfl
       have hs := (hs.front 6 rfl).conv (L' := [.ownL (CI .u8) r16_A r16_n r16_c r16 5, .ownL (CA .i32 256 (by decide)) y22_A y22_n y22_c y22 40, .ownL (CA .i32 256 (by decide)) y62_A y62_n y62_c y62 40, .ownL (CA .i32 256 (by decide)) y102_A y102_n y102_c y102 40, .blk b97 ([.int .i32 4095, .int .i32 4096]) 73, .blk b57 ([.int .i32 y23_0_2, .int .i32 y23_0_2]) 73, .blk b17 ([.int .i32 a0_2, .int .i32 a0_2]) 73, .ownL (CI .u8) r13_A r13_n r13_c r13 5, .ownL (CI .u8) r10_A r10_n r10_c r10 5, .blk b7 ([.slice r10_A r10_n r10_c, .slice r13_A r13_n r13_c, .slice r16_A r16_n r16_c, .slice y22_A y22_n y22_c, .slice y62_A y62_n y62_c, .slice y102_A y102_n y102_c]) 29, .blk b6 ([.int .i64 y103_0_0, .int .i64 y103_0_1, .int .i32 y103_0_2, .int .i64 y103_0_3, .int .i32 y103_0_4, .int .i32 y103_0_5, .int .i64 y103_0_6, .int .i64 y103_0_7, .slice y104_A y104_n y104_c, .bool false]) 96, .blk b2 ([.slice r10_A r10_n r10_c, .slice r13_A r13_n r13_c, .slice r16_A r16_n r16_c, .slice y22_A y22_n y22_c, .slice y62_A y62_n y62_c, .slice y102_A y102_n y102_c]) 29, .blk b1 ([.int .i64 a0_0, .int .i64 a0_1, .int .i32 a0_2, .int .i64 a0_3, .int .i32 a0_4, .int .i32 a0_5, .int .i64 a0_6, .int .i64 a0_7]) 23]) rfl
       have hs := (hs.front 7 rfl).conv (L' := [.ownL (CI .u8) r13_A r13_n r13_c r13 5, .ownL (CI .u8) r16_A r16_n r16_c r16 5, .ownL (CA .i32 256 (by decide)) y22_A y22_n y22_c y22 40, .ownL (CA .i32 256 (by decide)) y62_A y62_n y62_c y62 40, .ownL (CA .i32 256 (by decide)) y102_A y102_n y102_c y102 40, .blk b97 ([.int .i32 4095, .int .i32 4096]) 73, .blk b57 ([.int .i32 y23_0_2, .int .i32 y23_0_2]) 73, .blk b17 ([.int .i32 a0_2, .int .i32 a0_2]) 73, .ownL (CI .u8) r10_A r10_n r10_c r10 5, .blk b7 ([.slice r10_A r10_n r10_c, .slice r13_A r13_n r13_c, .slice r16_A r16_n r16_c, .slice y22_A y22_n y22_c, .slice y62_A y62_n y62_c, .slice y102_A y102_n y102_c]) 29, .blk b6 ([.int .i64 y103_0_0, .int .i64 y103_0_1, .int .i32 y103_0_2, .int .i64 y103_0_3, .int .i32 y103_0_4, .int .i32 y103_0_5, .int .i64 y103_0_6, .int .i64 y103_0_7, .slice y104_A y104_n y104_c, .bool false]) 96, .blk b2 ([.slice r10_A r10_n r10_c, .slice r13_A r13_n r13_c, .slice r16_A r16_n r16_c, .slice y22_A y22_n y22_c, .slice y62_A y62_n y62_c, .slice y102_A y102_n y102_c]) 29, .blk b1 ([.int .i64 a0_0, .int .i64 a0_1, .int .i32 a0_2, .int .i64 a0_3, .int .i32 a0_4, .int .i32 a0_5, .int .i64 a0_6, .int .i64 a0_7]) 23]) rfl
       have hs := (hs.front 8 rfl).conv (L' := [.ownL (CI .u8) r10_A r10_n r10_c r10 5, .ownL (CI .u8) r13_A r13_n r13_c r13 5, .ownL (CI .u8) r16_A r16_n r16_c r16 5, .ownL (CA .i32 256 (by decide)) y22_A y22_n y22_c y22 40, .ownL (CA .i32 256 (by decide)) y62_A y62_n y62_c y62 40, .ownL (CA .i32 256 (by decide)) y102_A y102_n y102_c y102 40, .blk b97 ([.int .i32 4095, .int .i32 4096]) 73, .blk b57 ([.int .i32 y23_0_2, .int .i32 y23_0_2]) 73, .blk b17 ([.int .i32 a0_2, .int .i32 a0_2]) 73, .blk b7 ([.slice r10_A r10_n r10_c, .slice r13_A r13_n r13_c, .slice r16_A r16_n r16_c, .slice y22_A y22_n y22_c, .slice y62_A y62_n y62_c, .slice y102_A y102_n y102_c]) 29, .blk b6 ([.int .i64 y103_0_0, .int .i64 y103_0_1, .int .i32 y103_0_2, .int .i64 y103_0_3, .int .i32 y103_0_4, .int .i32 y103_0_5, .int .i64 y103_0_6, .int .i64 y103_0_7, .slice y104_A y104_n y104_c, .bool false]) 96, .blk b2 ([.slice r10_A r10_n r10_c, .slice r13_A r13_n r13_c, .slice r16_A r16_n r16_c, .slice y22_A y22_n y22_c, .slice y62_A y62_n y62_c, .slice y102_A y102_n y102_c]) 29, .blk b1 ([.int .i64 a0_0, .int .i64 a0_1, .int .i32 a0_2, .int .i64 a0_3, .int .i32 a0_4, .int .i32 a0_5, .int .i64 a0_6, .int .i64 a0_7]) 23]) rfl
       exact qq _ _ (post_ret (by kernel_rfl) (run_results [.cell 4 29, .tmp 5] [.agg #[.slice r10_A r10_n r10_c, .slice r13_A r13_n r13_c, .slice r16_A r16_n r16_c, .slice y22_A y22_n y22_c, .slice y62_A y62_n y62_c, .slice y102_A y102_n y102_c], .bool true] (by kernel_rfl) (.cons (res_cellN (n := 6) hs 11 rfl (by kernel_rfl) (by kernel_rfl) (by kernel_rfl) (by simp [enc_len])) (.cons (res_tmp (by kernel_rfl)) .nil))) ⟨⟨⟨r10_A, r10_n, r10_c⟩, ⟨r13_A, r13_n, r13_c⟩, ⟨r16_A, r16_n, r16_c⟩, ⟨y22_A, y22_n, y22_c⟩, ⟨y62_A, y62_n, y62_c⟩, ⟨y102_A, y102_n, y102_c⟩⟩, congrArg Ending.returned (by kernel_rfl), ((hs.drop (.cons_cons _ (.cons_cons _ (.cons_cons _ (.cons_cons _ (.cons_cons _ (.cons_cons _ (.cons _ (.cons _ (.cons _ (.cons _ (.cons _ (.cons _ (.cons _ .slnil)))))))))))))).pickR pick_nil)⟩)
  ·refine wpS.take 6 false (some 23) (.bool true) (by kernel_rfl) (yld_b (nt hc) (fun _ => by kernel_rfl)) ?_
   refine wpS.p 7 24 (.bool true) (by kernel_rfl) ?_
   refine wpS.fin rfl (kr7 _ _ ?_)
   refine then_n (ks6 _ _ ?_)
   refine wp_cond_t (by kernel_rfl) ?_
   refine xseq_k fun KS235 ks235 => ?_
   refine wp_regS (l := [0, 1, 2]) (by kernel_rfl) (by kernel_rfl) fun KR236 kr236 => ?_
   refine wpS.p 0 25 (.agg #[.slice none 0 0, .slice none 0 0, .slice none 0 0, .slice none 0 0, .slice none 0 0, .slice none 0 0]) (by kernel_rfl) ?_
   refine wpS.only 1 (op_storeW (t := 29) (v := .agg #[.slice none 0 0, .slice none 0 0, .slice none 0 0, .slice none 0 0, .slice none 0 0, .slice none 0 0]) (d := none) (by kernel_rfl) hs 0 rfl (vs := [.slice none 0 0, .slice none 0 0, .slice none 0 0, .slice none 0 0, .slice none 0 0, .slice none 0 0]) (n := 6) (by kernel_rfl) (by kernel_rfl) (by kernel_rfl) (by simp [enc_len]) (by simp [enc_len]) (by simp [Value.oneCell']) ?_)
   intro w kp hs
   refine ⟨fun _ => trivial, ?_⟩
   refine wpS.p 2 5 (.bool false) (by kernel_rfl) ?_
   refine wpS.fin rfl (kr236 _ _ ?_)
   refine then_n (ks235 _ _ ?_)
   refine xret ?_
   refine then_r ?_
   obtain ⟨q0, qr0⟩ := Prod.mk.inj (of_some h)
   obtain ⟨q1, qr1⟩ := Prod.mk.inj (qr0)
   obtain ⟨q2, qr2⟩ := Prod.mk.inj (qr1)
   obtain ⟨q3, qr3⟩ := Prod.mk.inj (qr2)
   obtain ⟨q4, qr4⟩ := Prod.mk.inj (qr3)
   obtain ⟨q5, qr5⟩ := Prod.mk.inj (qr4)
   have q6 := qr5
   subst q0
   subst q1
   subst q2
   subst q3
   subst q4
   subst q5
   subst q6
   have hs := hs.addNilL (CA .i32 256 (by decide)) 40
   have hs := hs.addNilL (CA .i32 256 (by decide)) 40
   have hs := hs.addNilL (CA .i32 256 (by decide)) 40
   have hs := hs.addNilL (CI .u8) 5
   have hs := hs.addNilL (CI .u8) 5
   have hs := hs.addNilL (CI .u8) 5
   exact qq _ _ (post_ret (by kernel_rfl) (run_results [.cell 4 29, .tmp 5] [.agg #[.slice none 0 0, .slice none 0 0, .slice none 0 0, .slice none 0 0, .slice none 0 0, .slice none 0 0], .bool false] (by kernel_rfl) (.cons (res_cellN (n := 6) hs 6 rfl (by kernel_rfl) (by kernel_rfl) (by kernel_rfl) (by simp [enc_len])) (.cons (res_tmp (by kernel_rfl)) .nil))) ⟨⟨⟨none, 0, 0⟩, ⟨none, 0, 0⟩, ⟨none, 0, 0⟩, ⟨none, 0, 0⟩, ⟨none, 0, 0⟩, ⟨none, 0, 0⟩⟩, congrArg Ending.returned (by kernel_rfl), ((hs.drop (.cons_cons _ (.cons_cons _ (.cons_cons _ (.cons_cons _ (.cons_cons _ (.cons_cons _ (.cons _ (.cons _ .slnil))))))))).pickR pick_nil)⟩)
end Go.Proofs.Ytblploekkjeolaa
