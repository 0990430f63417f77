/- Printed by this work's own program: the code of each function below comes to the answer that its plain form tells. -/
import Derived.Test.YtblploekkjeolaaMv
import Derived.Test.YtblploekkjeolaaProg
import Derived.Test.YtblploekkjeolaaDF0
import Derived.Test.YtblploekkjeolaaDX0
import Derived.Test.YtblploekkjeolaaDX1
import Derived.Test.YtblploekkjeolaaDX4
import Derived.Test.YtblploekkjeolaaDX5
set_option linter.unusedVariables false
set_option linter.unusedSimpArgs false
set_option maxRecDepth 100000
set_option maxHeartbeats 4000000
namespace Go.Proofs.Ytblploekkjeolaa
open Go.Mx
attribute [local irreducible] wpOp

theorem dpack_UnPublic.ok {K : Nat} {a0_0 : Int} {a0_1 : Int} {a0_2 : Int} {a0_3 : Int} {a0_4 : Int} {a0_5 : Int} {a0_6 : Int} {a0_7 : Int} {a1 : List Int} {r0_0 : List Int} {r0_1 : List (Arr 256)} {r1 : Bool} {a1_A : Option Addr} {a1_n : Nat} {a1_c : Nat} (h : dpack_UnPublic.f K a0_0 a0_1 a0_2 a0_3 a0_4 a0_5 a0_6 a0_7 a1 = some (r0_0, r0_1, r1)) (w0 : World) (hp1 : RowL (CI .u8) w0 a1_A a1_n a1_c a1) : Calls Try.prog 29 #[.agg #[.int .i64 a0_0, .int .i64 a0_1, .int .i32 a0_2, .int .i64 a0_3, .int .i32 a0_4, .int .i32 a0_5, .int .i64 a0_6, .int .i64 a0_7], .slice a1_A a1_n a1_c] w0 fun e w' => ∃ h : (Option Addr × Nat × Nat) × (Option Addr × Nat × Nat), e = .returned (.tuple #[.agg #[.slice h.1.1 h.1.2.1 h.1.2.2, .slice h.2.1 h.2.2.1 h.2.2.2], .bool r1]) ∧ St w0 [] [.ownL (CI .u8) h.1.1 h.1.2.1 h.1.2.2 r0_0 5, .ownL (CA .i32 256 (by decide)) h.2.1 h.2.2.1 h.2.2.2 r0_1 40] [] w' := by
 refine calls_k Try.func29 rfl fun Q qq => ?_
 have hs := St.startR (all_cons (RowP.ent hp1) all_nil)
 refine wp_conv (a' := ⟨#[.agg #[.int .i64 a0_0, .int .i64 a0_1, .int .i32 a0_2, .int .i64 a0_3, .int .i32 a0_4, .int .i32 a0_5, .int .i64 a0_6, .int .i64 a0_7], .slice a1_A a1_n a1_c, undef, undef, undef, undef, undef, undef, undef, undef, undef, undef, undef, undef, undef, undef, undef, undef, undef, undef, undef, undef, undef, undef, undef, undef, undef, undef, undef, undef, undef, undef, undef, undef, undef, undef, undef, undef, undef, undef], []⟩) (by kernel_rfl) ?_
 refine xseq_k fun KS1 ks1 => ?_
 refine wp_regS (l := [0, 1, 2]) (by kernel_rfl) (by kernel_rfl) fun KR2 kr2 => ?_
 refine wpS.only 0 (op_box (t := 23) (v := .agg #[.int .i64 a0_0, .int .i64 a0_1, .int .i32 a0_2, .int .i64 a0_3, .int .i32 a0_4, .int .i32 a0_5, .int .i64 a0_6, .int .i64 a0_7]) (d := (some 2)) (by kernel_rfl) hs ([.int .i64 a0_0, .int .i64 a0_1, .int .i32 a0_2, .int .i64 a0_3, .int .i32 a0_4, .int .i32 a0_5, .int .i64 a0_6, .int .i64 a0_7]) (by kernel_rfl) (by kernel_rfl) ?_)
 intro b1 w gw hs
 refine ⟨fun _ => trivial, ?_⟩
 refine wpS.only 1 (op_alloc (t := 27) (d := (some 4)) (by kernel_rfl) hs ([.slice none 0 0, .slice none 0 0]) (.agg #[.slice none 0 0, .slice none 0 0]) (by kernel_rfl) (by kernel_rfl) (by kernel_rfl) ?_)
 intro b2 w gw hs
 refine ⟨fun _ => trivial, ?_⟩
 refine wpS.p 2 5 (.bool false) (by kernel_rfl) ?_
 refine wpS.fin rfl (kr2 _ _ ?_)
 refine then_n (ks1 _ _ ?_)
 refine xseq_k fun KS3 ks3 => ?_
 refine xseq_k fun KS4 ks4 => ?_
 refine wp_regS (l := [0, 1, 2, 3, 4, 5, 6, 7, 8]) (by kernel_rfl) (by kernel_rfl) fun KR5 kr5 => ?_
 refine wpS.take 0 true (some 11) (.agg #[.int .i64 a0_0, .int .i64 a0_1, .int .i32 a0_2, .int .i64 a0_3, .int .i32 a0_4, .int .i32 a0_5, .int .i64 a0_6, .int .i64 a0_7]) (by kernel_rfl) (yld_loadW (e := 23) (n := 8) hs 1 rfl (by kernel_rfl) (by kernel_rfl) (by kernel_rfl) (by simp [enc_len]) .grow) ?_
 obtain ⟨⟨r3, r4, r5⟩, hg, h⟩ := of_bind h
 refine wpS.only 1 (op_call (d := (some 12)) (by kernel_rfl) hs (fun _ => by kernel_rfl) (dpack_Sizes.ok hg _) ?_)
 intro w gw hs
 refine ⟨fun _ => trivial, ?_⟩
 refine wpS.ps [(2, 10, .tuple #[.int .i64 r3, .int .i64 r4, .int .i64 r5]), (3, 13, .int .i64 r3), (4, 14, .int .i64 r4), (5, 15, .int .i64 r5), (6, 6, .int .i64 r3), (7, 7, .int .i64 r4), (8, 8, .int .i64 r5)] (by kernel_rfl) ?_
 refine wpS.fin rfl (kr5 _ _ ?_)
 refine then_n (ks4 _ _ ?_)
 refine xseq_k fun KS6 ks6 => ?_
 refine wp_regS (l := [0, 1, 2, 3, 4, 5, 6, 7]) (by kernel_rfl) (by kernel_rfl) fun KR7 kr7 => ?_
 refine wpS.p 0 16 (.int .i64 r3) (by kernel_rfl) ?_
 rcases of_if h with ⟨hc, h⟩ | ⟨hc, h⟩
 ·refine wpS.take 1 false (some 17) (.bool true) (by kernel_rfl) (yld_b (et hc) (fun _ => by kernel_rfl)) ?_
  refine wpS.ps [(2, 18, .bool true), (3, 19, undef), (4, 20, undef), (5, 21, undef), (6, 22, undef), (7, 23, .bool true)] (by kernel_rfl) ?_
  refine wpS.fin rfl (kr7 _ _ ?_)
  refine then_n (ks6 _ _ ?_)
  refine wp_cond_t (by kernel_rfl) ?_
  refine xseq_k fun KS8 ks8 => ?_
  refine wp_regS (l := [0, 1, 2]) (by kernel_rfl) (by kernel_rfl) fun KR9 kr9 => ?_
  refine wpS.p 0 24 (.agg #[.slice none 0 0, .slice none 0 0]) (by kernel_rfl) ?_
  refine wpS.only 1 (op_storeW (t := 27) (v := .agg #[.slice none 0 0, .slice none 0 0]) (d := none) (by kernel_rfl) hs 0 rfl (vs := [.slice none 0 0, .slice none 0 0]) (n := 2) (by kernel_rfl) (by kernel_rfl) (by kernel_rfl) (by simp [enc_len]) (by simp [enc_len]) (by simp [Value.oneCell']) ?_)
  intro w kp hs
  refine ⟨fun _ => trivial, ?_⟩
  refine wpS.p 2 5 (.bool false) (by kernel_rfl) ?_
  refine wpS.fin rfl (kr9 _ _ ?_)
  refine then_n (ks8 _ _ ?_)
  refine xret ?_
  refine then_r ?_
  obtain ⟨q0, qr0⟩ := Prod.mk.inj (of_some h)
  obtain ⟨q1, qr1⟩ := Prod.mk.inj (qr0)
  have q2 := qr1
  subst q0
  subst q1
  subst q2
  have hs := hs.addNilL (CA .i32 256 (by decide)) 40
  have hs := hs.addNilL (CI .u8) 5
  exact qq _ _ (post_ret (by kernel_rfl) (run_results [.cell 4 27, .tmp 5] [.agg #[.slice none 0 0, .slice none 0 0], .bool false] (by kernel_rfl) (.cons (res_cellN (n := 2) hs 2 rfl (by kernel_rfl) (by kernel_rfl) (by kernel_rfl) (by simp [enc_len])) (.cons (res_tmp (by kernel_rfl)) .nil))) ⟨⟨⟨none, 0, 0⟩, ⟨none, 0, 0⟩⟩, congrArg Ending.returned (by kernel_rfl), ((hs.drop (.cons_cons _ (.cons_cons _ (.cons _ (.cons _ .slnil))))).pickR pick_nil)⟩)
 ·refine wpS.take 1 false (some 17) (.bool false) (by kernel_rfl) (yld_b (ef hc) (fun _ => by kernel_rfl)) ?_
  refine wpS.ps [(2, 18, .bool false), (3, 19, .slice a1_A a1_n a1_c)] (by kernel_rfl) ?_
  refine wpS.take 4 false (some 20) (.int .i64 (a1.length : Int)) (by kernel_rfl) (yld_lenL (hs.rowR 0 rfl) (fun _ => by kernel_rfl)) ?_
  refine wpS.p 5 21 (.int .i64 r3) (by kernel_rfl) ?_
  rcases of_if h with ⟨hc, h⟩ | ⟨hc, h⟩
  ·refine wpS.take 6 false (some 22) (.bool false) (by kernel_rfl) (yld_b (nf hc) (fun _ => by kernel_rfl)) ?_
   refine wpS.p 7 23 (.bool false) (by kernel_rfl) ?_
   refine wpS.fin rfl (kr7 _ _ ?_)
   refine then_n (ks6 _ _ ?_)
   refine wp_cond_f (by kernel_rfl) ?_
   refine xskip ?_
   refine then_n (ks3 _ _ ?_)
   refine xseq_k fun KS10 ks10 => ?_
   refine wp_regS (l := [0, 1, 2, 3, 4]) (by kernel_rfl) (by kernel_rfl) fun KR11 kr11 => ?_
   refine wpS.take 0 true (some 25) (.agg #[.int .i64 a0_0, .int .i64 a0_1, .int .i32 a0_2, .int .i64 a0_3, .int .i32 a0_4, .int .i32 a0_5, .int .i64 a0_6, .int .i64 a0_7]) (by kernel_rfl) (yld_loadW (e := 23) (n := 8) hs 1 rfl (by kernel_rfl) (by kernel_rfl) (by kernel_rfl) (by simp [enc_len]) .grow) ?_
   refine wpS.ps [(1, 26, .slice a1_A a1_n a1_c), (2, 27, .agg #[.int .i64 a0_0, .int .i64 a0_1, .int .i32 a0_2, .int .i64 a0_3, .int .i32 a0_4, .int .i32 a0_5, .int .i64 a0_6, .int .i64 a0_7, .slice a1_A a1_n a1_c, .bool false])] (by kernel_rfl) ?_
   refine wpS.only 3 (op_box (t := 96) (v := .agg #[.int .i64 a0_0, .int .i64 a0_1, .int .i32 a0_2, .int .i64 a0_3, .int .i32 a0_4, .int .i32 a0_5, .int .i64 a0_6, .int .i64 a0_7, .slice a1_A a1_n a1_c, .bool false]) (d := (some 28)) (by kernel_rfl) hs ([.int .i64 a0_0, .int .i64 a0_1, .int .i32 a0_2, .int .i64 a0_3, .int .i32 a0_4, .int .i32 a0_5, .int .i64 a0_6, .int .i64 a0_7, .slice a1_A a1_n a1_c, .bool false]) (by kernel_rfl) (by kernel_rfl) ?_)
   intro b6 w gw hs
   refine ⟨fun _ => trivial, ?_⟩
   refine wpS.p 4 9 (.pointer (some ⟨b6, 0, none⟩)) (by kernel_rfl) ?_
   refine wpS.fin rfl (kr11 _ _ ?_)
   refine then_n (ks10 _ _ ?_)
   refine xseq_k fun KS12 ks12 => ?_
   obtain ⟨⟨y7_0_0, y7_0_1, y7_0_2, y7_0_3, y7_0_4, y7_0_5, y7_0_6, y7_0_7, y7_2, y9, y10, y11⟩, hj, h⟩ := of_bind h
   refine wp_join (N := fun a w => ∃ (y9_A : Option Addr) (y9_n : Nat) (y9_c : Nat) (y10_A : Option Addr) (y10_n : Nat) (y10_c : Nat) (y11_A : Option Addr) (y11_n : Nat) (y11_c : Nat), St w0 [] [.ownL (CA .i32 256 (by decide)) y10_A y10_n y10_c y10 40, .ownL (CI .u8) y9_A y9_n y9_c y9 5, .blk b6 ([.int .i64 y7_0_0, .int .i64 y7_0_1, .int .i32 y7_0_2, .int .i64 y7_0_3, .int .i32 y7_0_4, .int .i32 y7_0_5, .int .i64 y7_0_6, .int .i64 y7_0_7, .slice y11_A y11_n y11_c, .bool y7_2]) 96, .blk b2 ([.slice y9_A y9_n y9_c, .slice y10_A y10_n y10_c]) 27, .blk b1 ([.int .i64 a0_0, .int .i64 a0_1, .int .i32 a0_2, .int .i64 a0_3, .int .i32 a0_4, .int .i32 a0_5, .int .i64 a0_6, .int .i64 a0_7]) 23] [.rowL (CI .u8) y11_A y11_n y11_c y11, .rowL (CI .u8) a1_A a1_n a1_c a1] w ∧ ∃ g : Nat → Value, a = ⟨#[.agg #[.int .i64 a0_0, .int .i64 a0_1, .int .i32 a0_2, .int .i64 a0_3, .int .i32 a0_4, .int .i32 a0_5, .int .i64 a0_6, .int .i64 a0_7], .slice a1_A a1_n a1_c, .pointer (some ⟨b1, 0, none⟩), undef, .pointer (some ⟨b2, 0, none⟩), .bool true, .int .i64 r3, .int .i64 r4, .int .i64 r5, .pointer (some ⟨b6, 0, none⟩), .tuple #[.int .i64 r3, .int .i64 r4, .int .i64 r5], .agg #[.int .i64 a0_0, .int .i64 a0_1, .int .i32 a0_2, .int .i64 a0_3, .int .i32 a0_4, .int .i32 a0_5, .int .i64 a0_6, .int .i64 a0_7], .tuple #[.int .i64 r3, .int .i64 r4, .int .i64 r5], .int .i64 r3, .int .i64 r4, .int .i64 r5, .int .i64 r3, .bool false, .bool false, .slice a1_A a1_n a1_c, .int .i64 (a1.length : Int), .int .i64 r3, .bool false, .bool false, undef, .agg #[.int .i64 a0_0, .int .i64 a0_1, .int .i32 a0_2, .int .i64 a0_3, .int .i32 a0_4, .int .i32 a0_5, .int .i64 a0_6, .int .i64 a0_7], .slice a1_A a1_n a1_c, .agg #[.int .i64 a0_0, .int .i64 a0_1, .int .i32 a0_2, .int .i64 a0_3, .int .i32 a0_4, .int .i32 a0_5, .int .i64 a0_6, .int .i64 a0_7, .slice a1_A a1_n a1_c, .bool false], .pointer (some ⟨b6, 0, none⟩), (g 29), (g 30), (g 31), (g 32), (g 33), (g 34), (g 35), (g 36), (g 37), (g 38), (g 39)], []⟩) (fun N nj => ?_) ?_
   ·clear h
    have h := hj
    refine wp_regG [1, 9, 11] (fun k => True) 13 (by kernel_rfl) (by kernel_rfl) (by kernel_rfl) fun KR13 kr13 => ?_
    have hs := hs.drawn1
    refine wpG.takeD 0 false (some 29) (.pointer (some ⟨b6, 0, none⟩)) (by kernel_rfl) (by kernel_rfl) (yld fun _ => by kernel_rfl) ?_
    refine wpG.takeD 2 false (some 31) (.pointer (some ⟨b6, 0, none⟩)) (by kernel_rfl) (by kernel_rfl) (yld fun _ => by kernel_rfl) ?_
    refine wpG.takeD 3 false (some 32) (.pointer (some ⟨b6, 0, none⟩)) (by kernel_rfl) (by kernel_rfl) (yld fun _ => by kernel_rfl) ?_
    refine wpG.takeD 4 false (some 33) (.pointer (some ⟨b6, 0, none⟩)) (by kernel_rfl) (by kernel_rfl) (yld fun _ => by kernel_rfl) ?_
    refine wpG.takeD 5 false (some 34) (.pointer (some ⟨b6, 0, none⟩)) (by kernel_rfl) (by kernel_rfl) (yld fun _ => by kernel_rfl) ?_
    refine wpG.takeD 6 false (some 35) (.pointer (some ⟨b6, 0, none⟩)) (by kernel_rfl) (by kernel_rfl) (yld fun _ => by kernel_rfl) ?_
    refine wpG.takeD 8 false (some 37) (.agg #[.int .i32 (-1), .int .i32 1023]) (by kernel_rfl) (by kernel_rfl) (yld fun _ => by kernel_rfl) ?_
    refine wpG.many [1, 7] (by kernel_rfl) (by decide) (forall_cons ?_ (forall_cons ?_ forall_nil))
    ·refine (op_inline (d := (some 30)) (f := 61) (args := #[.pointer (some ⟨b6, 0, none⟩), .int .i64 32]) (by kernel_rfl) (fun _ => by kernel_rfl) fun R14 kI14 => ?_)
     refine calls_k Try.func61 rfl fun Q14 qq14 => ?_
     refine wp_conv (a' := ⟨#[.pointer (some ⟨b6, 0, none⟩), .int .i64 32, undef, undef, undef, undef, undef, undef, undef, undef, undef, undef, undef, undef, undef, undef, undef, undef, undef, undef, undef, undef, undef], []⟩) (by kernel_rfl) ?_
     refine xseq_k fun KS15 ks15 => ?_
     refine wp_regS (l := [0]) (by kernel_rfl) (by kernel_rfl) fun KR16 kr16 => ?_
     refine wpS.p 0 4 (.slice none 0 0) (by kernel_rfl) ?_
     refine wpS.fin rfl (kr16 _ _ ?_)
     refine then_n (ks15 _ _ ?_)
     refine xseq_k fun KS17 ks17 => ?_
     refine wp_regS (l := [0, 1, 2, 3, 4, 5, 6]) (by kernel_rfl) (by kernel_rfl) fun KR18 kr18 => ?_
     refine wpS.ps [(0, 6, .pointer (some ⟨b6, 0, none⟩)), (1, 7, .pointer (some ⟨b6, 0, none⟩)), (2, 8, .pointer (some ⟨b6, 8, none⟩))] (by kernel_rfl) ?_
     refine wpS.take 3 true (some 9) (.slice a1_A a1_n a1_c) (by kernel_rfl) (yld_load1 (e := 24) (o := 8) hs 0 rfl (by kernel_rfl) (by kernel_rfl) (by rfl) .grow) ?_
     refine wpS.p 4 10 (.int .i64 32) (by kernel_rfl) ?_
     obtain ⟨h0, h⟩ := of_chk h
     obtain ⟨h1, h⟩ := of_chk h
     obtain ⟨h2, h⟩ := of_chk h
     obtain ⟨s12_A, hA⟩ : ∃ A, A = if a1_c = (0 : Int).toNat then a1_A else adr a1_A ((0 : Int).toNat * Cod.size (CI .u8)) := ⟨_, rfl⟩
     obtain ⟨s12_n, hn⟩ : ∃ n, n = (32 : Int).toNat - (0 : Int).toNat := ⟨_, rfl⟩
     obtain ⟨s12_c, hc⟩ : ∃ c, c = a1_c - (0 : Int).toNat := ⟨_, rfl⟩
     refine wpS.take 5 false (some 11) (.slice s12_A s12_n s12_c) (by kernel_rfl) (yld_sub (C := (CI .u8)) (t := 24) (e := 5) (low := none) (high := some (.int .i64 32)) (lo := 0) (hi := 32) (hs.rowR 0 rfl) (by kernel_rfl) (by kernel_rfl) (by kernel_rfl) (.inl ⟨rfl, rfl⟩) (.inr ⟨_, rfl⟩) h0 h1 h2 hA hn hc) ?_
     have hs := hs.addSub (C := (CI .u8)) 0 rfl h0 h1 h2 hA hn hc
     refine wpS.p 6 5 (.slice s12_A s12_n s12_c) (by kernel_rfl) ?_
     refine wpS.fin rfl (kr18 _ _ ?_)
     refine then_n (ks17 _ _ ?_)
     refine xseq_k fun KS19 ks19 => ?_
     refine wp_regS (l := [0, 1, 2, 3, 4, 5, 6, 7, 8, 9]) (by kernel_rfl) (by kernel_rfl) fun KR20 kr20 => ?_
     refine wpS.ps [(0, 12, .pointer (some ⟨b6, 0, none⟩)), (1, 13, .pointer (some ⟨b6, 0, none⟩)), (2, 14, .pointer (some ⟨b6, 0, none⟩)), (3, 15, .pointer (some ⟨b6, 8, none⟩))] (by kernel_rfl) ?_
     refine wpS.take 4 true (some 16) (.slice a1_A a1_n a1_c) (by kernel_rfl) (yld_load1 (e := 24) (o := 8) hs 0 rfl (by kernel_rfl) (by kernel_rfl) (by rfl) .grow) ?_
     refine wpS.p 5 17 (.int .i64 32) (by kernel_rfl) ?_
     obtain ⟨h0, h⟩ := of_chk h
     obtain ⟨h1, h⟩ := of_chk h
     obtain ⟨h2, h⟩ := of_chk h
     obtain ⟨s13_A, hA⟩ : ∃ A, A = if a1_c = (32 : Int).toNat then a1_A else adr a1_A ((32 : Int).toNat * Cod.size (CI .u8)) := ⟨_, rfl⟩
     obtain ⟨s13_n, hn⟩ : ∃ n, n = ((a1.length : Int) : Int).toNat - (32 : Int).toNat := ⟨_, rfl⟩
     obtain ⟨s13_c, hc⟩ : ∃ c, c = a1_c - (32 : Int).toNat := ⟨_, rfl⟩
     refine wpS.take 6 false (some 18) (.slice s13_A s13_n s13_c) (by kernel_rfl) (yld_sub (C := (CI .u8)) (t := 24) (e := 5) (low := some (.int .i64 32)) (high := none) (lo := 32) (hi := (a1.length : Int)) (hs.rowR 1 rfl) (by kernel_rfl) (by kernel_rfl) (by kernel_rfl) (.inr ⟨_, rfl⟩) (.inl ⟨rfl, rfl⟩) h0 h1 h2 hA hn hc) ?_
     have hs := hs.addSub (C := (CI .u8)) 1 rfl h0 h1 h2 hA hn hc
     refine wpS.ps [(7, 19, .pointer (some ⟨b6, 0, none⟩)), (8, 20, .pointer (some ⟨b6, 8, none⟩))] (by kernel_rfl) ?_
     refine wpS.only 9 (op_store1 (t := 24) (o := 8) (v := .slice s13_A s13_n s13_c) (d := none) (by kernel_rfl) hs 0 rfl (by kernel_rfl) rfl (by kernel_rfl) (by simp) ?_)
     intro w kp hs
     refine ⟨fun _ => trivial, ?_⟩
     refine wpS.fin rfl (kr20 _ _ ?_)
     refine then_n (ks19 _ _ ?_)
     refine xseq_k fun KS21 ks21 => ?_
     refine wp_regS (l := [0, 1, 2]) (by kernel_rfl) (by kernel_rfl) fun KR22 kr22 => ?_
     refine wpS.p 0 21 (.slice s12_A s12_n s12_c) (by kernel_rfl) ?_
     obtain ⟨r14, hg, h⟩ := of_bind h
     refine wpS.only 1 (op_callH (d := (some 22)) (by kernel_rfl) hs (fun _ => by kernel_rfl) (slices_Clone_byte_byte.ok hg _ (hs.rowR 1 rfl)) ?_)
     rintro ⟨r14_A, r14_n, r14_c⟩ w gw hs
     have hs := hs.conv (L' := [.ownL (CI .u8) r14_A r14_n r14_c r14 5, .blk b6 ([.int .i64 a0_0, .int .i64 a0_1, .int .i32 a0_2, .int .i64 a0_3, .int .i32 a0_4, .int .i32 a0_5, .int .i64 a0_6, .int .i64 a0_7, .slice s13_A s13_n s13_c, .bool false]) 96, .blk b2 ([.slice none 0 0, .slice none 0 0]) 27, .blk b1 ([.int .i64 a0_0, .int .i64 a0_1, .int .i32 a0_2, .int .i64 a0_3, .int .i32 a0_4, .int .i32 a0_5, .int .i64 a0_6, .int .i64 a0_7]) 23]) rfl
     refine ⟨fun _ => trivial, ?_⟩
     refine wpS.p 2 4 (.slice r14_A r14_n r14_c) (by kernel_rfl) ?_
     refine wpS.fin rfl (kr22 _ _ ?_)
     refine then_n (ks21 _ _ ?_)
     refine xret ?_
     refine qq14 _ _ (post_ret (by kernel_rfl) (run_results [.tmp 4] [.slice r14_A r14_n r14_c] (by kernel_rfl) (.cons (res_tmp (by kernel_rfl)) .nil)) ?_)
     refine kI14 _ _ ?_
     refine ⟨⟨fun hf => absurd hf (by decide), .all _ _⟩, ?_⟩
     refine wpG.only 7 (by kernel_rfl) (op_val (d := (some 36)) (v := .int .i64 a0_0) (by kernel_rfl) (yld_load1 (e := 3) (o := 0) hs 1 rfl (by kernel_rfl) (by kernel_rfl) (by rfl) .grow) ⟨Cl.refl _, ?_⟩)
     refine wpG.only 9 (by kernel_rfl) (op_inline (d := (some 38)) (f := 62) (args := #[.pointer (some ⟨b6, 0, none⟩), .int .i64 a0_0, .agg #[.int .i32 (-1), .int .i32 1023]]) (by kernel_rfl) (fun _ => by kernel_rfl) fun R23 kI23 => ?_)
     refine calls_k Try.func62 rfl fun Q23 qq23 => ?_
     refine wp_conv (a' := ⟨#[.pointer (some ⟨b6, 0, none⟩), .int .i64 a0_0, .agg #[.int .i32 (-1), .int .i32 1023], undef, undef, undef, undef, undef, undef, undef, undef, undef, undef, undef, undef, undef, undef, undef, undef, undef, undef, undef, undef, undef, undef, undef, undef, undef, undef, undef, undef, undef, undef, undef, undef, undef, undef, undef, undef, undef, undef, undef], []⟩) (by kernel_rfl) ?_
     refine xseq_k fun KS24 ks24 => ?_
     refine wp_regS (l := [0, 1]) (by kernel_rfl) (by kernel_rfl) fun KR25 kr25 => ?_
     refine wpS.only 0 (op_box (t := 73) (v := .agg #[.int .i32 (-1), .int .i32 1023]) (d := (some 5)) (by kernel_rfl) hs ([.int .i32 (-1), .int .i32 1023]) (by kernel_rfl) (by kernel_rfl) ?_)
     intro b15 w gw hs
     refine ⟨fun _ => trivial, ?_⟩
     refine wpS.p 1 6 (.slice none 0 0) (by kernel_rfl) ?_
     refine wpS.fin rfl (kr25 _ _ ?_)
     refine then_n (ks24 _ _ ?_)
     refine xseq_k fun KS26 ks26 => ?_
     refine wp_regS (l := [0]) (by kernel_rfl) (by kernel_rfl) fun KR27 kr27 => ?_
     refine wpS.p 0 7 (.slice none 0 0) (by kernel_rfl) ?_
     refine wpS.fin rfl (kr27 _ _ ?_)
     refine then_n (ks26 _ _ ?_)
     refine xseq_k fun KS28 ks28 => ?_
     refine xseq_k fun KS29 ks29 => ?_
     refine wp_regS (l := [0, 1]) (by kernel_rfl) (by kernel_rfl) fun KR30 kr30 => ?_
     refine wpS.ps [(0, 10, .int .i64 a0_0), (1, 11, .int .i64 0)] (by kernel_rfl) ?_
     refine wpS.fin rfl (kr30 _ _ ?_)
     refine then_n (ks29 _ _ ?_)
     have hs := hs.addNilL (CA .i32 256 (by decide)) 40
     obtain ⟨⟨y20, y21_0_0, y21_0_1, y21_0_2, y21_0_3, y21_0_4, y21_0_5, y21_0_6, y21_0_7, y21_2, y22⟩, hy, hk0⟩ := of_bind h
     refine wp_exq (N := fun a w => ∃ (y20_A : Option Addr) (y20_n : Nat) (y20_c : Nat) (y22_A : Option Addr) (y22_n : Nat) (y22_c : Nat), St w0 [] [.ownL (CA .i32 256 (by decide)) y20_A y20_n y20_c y20 40, .blk b15 ([.int .i32 (-1), .int .i32 1023]) 73, .ownL (CI .u8) r14_A r14_n r14_c r14 5, .blk b6 ([.int .i64 y21_0_0, .int .i64 y21_0_1, .int .i32 y21_0_2, .int .i64 y21_0_3, .int .i32 y21_0_4, .int .i32 y21_0_5, .int .i64 y21_0_6, .int .i64 y21_0_7, .slice y22_A y22_n y22_c, .bool y21_2]) 96, .blk b2 ([.slice none 0 0, .slice none 0 0]) 27, .blk b1 ([.int .i64 a0_0, .int .i64 a0_1, .int .i32 a0_2, .int .i64 a0_3, .int .i32 a0_4, .int .i32 a0_5, .int .i64 a0_6, .int .i64 a0_7]) 23] [.rowL (CI .u8) y22_A y22_n y22_c y22, .rowL (CI .u8) s13_A s13_n s13_c (subL a1 32 (a1.length : Int)), .rowL (CI .u8) s12_A s12_n s12_c (subL a1 0 32), .rowL (CI .u8) a1_A a1_n a1_c a1] w ∧ ∃ g : Nat → Value, a = ⟨#[.pointer (some ⟨b6, 0, none⟩), .int .i64 a0_0, .agg #[.int .i32 (-1), .int .i32 1023], undef, undef, .pointer (some ⟨b15, 0, none⟩), .slice none 0 0, .slice y20_A y20_n y20_c, (g 8), (g 9), .int .i64 a0_0, (g 11), (g 12), (g 13), (g 14), (g 15), (g 16), (g 17), (g 18), (g 19), (g 20), (g 21), (g 22), (g 23), (g 24), (g 25), (g 26), (g 27), (g 28), (g 29), (g 30), (g 31), (g 32), (g 33), (g 34), (g 35), (g 36), (g 37), (g 38), (g 39), (g 40), undef], []⟩) (fun N0 nn0 => ?_) ?_
     ·clear hk0
      refine xblock ?_
      refine wp_loop_k (fun n a w => ∃ z16 z17 z18_0_0 z18_0_1 z18_0_2 z18_0_3 z18_0_4 z18_0_5 z18_0_6 z18_0_7 z18_2 z19, ∃ (z17_A : Option Addr) (z17_n : Nat) (z17_c : Nat) (z19_A : Option Addr) (z19_n : Nat) (z19_c : Nat), dpack_UnPublic.l0 K n a0_0 z16 z17 z18_0_0 z18_0_1 z18_0_2 z18_0_3 z18_0_4 z18_0_5 z18_0_6 z18_0_7 z18_2 z19 = some (y20, y21_0_0, y21_0_1, y21_0_2, y21_0_3, y21_0_4, y21_0_5, y21_0_6, y21_0_7, y21_2, y22) ∧ St w0 [] [.ownL (CA .i32 256 (by decide)) z17_A z17_n z17_c z17 40, .blk b15 ([.int .i32 (-1), .int .i32 1023]) 73, .ownL (CI .u8) r14_A r14_n r14_c r14 5, .blk b6 ([.int .i64 z18_0_0, .int .i64 z18_0_1, .int .i32 z18_0_2, .int .i64 z18_0_3, .int .i32 z18_0_4, .int .i32 z18_0_5, .int .i64 z18_0_6, .int .i64 z18_0_7, .slice z19_A z19_n z19_c, .bool z18_2]) 96, .blk b2 ([.slice none 0 0, .slice none 0 0]) 27, .blk b1 ([.int .i64 a0_0, .int .i64 a0_1, .int .i32 a0_2, .int .i64 a0_3, .int .i32 a0_4, .int .i32 a0_5, .int .i64 a0_6, .int .i64 a0_7]) 23] [.rowL (CI .u8) z19_A z19_n z19_c z19, .rowL (CI .u8) s13_A s13_n s13_c (subL a1 32 (a1.length : Int)), .rowL (CI .u8) s12_A s12_n s12_c (subL a1 0 32), .rowL (CI .u8) a1_A a1_n a1_c a1] w ∧ ∃ g : Nat → Value, a = ⟨#[.pointer (some ⟨b6, 0, none⟩), .int .i64 a0_0, .agg #[.int .i32 (-1), .int .i32 1023], undef, undef, .pointer (some ⟨b15, 0, none⟩), .slice none 0 0, .slice z17_A z17_n z17_c, (g 8), (g 9), .int .i64 a0_0, .int .i64 z16, (g 12), (g 13), (g 14), (g 15), (g 16), (g 17), (g 18), (g 19), (g 20), (g 21), (g 22), (g 23), (g 24), (g 25), (g 26), (g 27), (g 28), (g 29), (g 30), (g 31), (g 32), (g 33), (g 34), (g 35), (g 36), (g 37), (g 38), (g 39), (g 40), undef], []⟩) K ⟨0, ([] : List (Arr 256)), a0_0, a0_1, a0_2, a0_3, a0_4, a0_5, a0_6, a0_7, false, (subL a1 32 (a1.length : Int)), none, 0, 0, s13_A, s13_n, s13_c, hy, (hs.conv (L' := [.ownL (CA .i32 256 (by decide)) none 0 0 ([] : List (Arr 256)) 40, .blk b15 ([.int .i32 (-1), .int .i32 1023]) 73, .ownL (CI .u8) r14_A r14_n r14_c r14 5, .blk b6 ([.int .i64 a0_0, .int .i64 a0_1, .int .i32 a0_2, .int .i64 a0_3, .int .i32 a0_4, .int .i32 a0_5, .int .i64 a0_6, .int .i64 a0_7, .slice s13_A s13_n s13_c, .bool false]) 96, .blk b2 ([.slice none 0 0, .slice none 0 0]) 27, .blk b1 ([.int .i64 a0_0, .int .i64 a0_1, .int .i32 a0_2, .int .i64 a0_3, .int .i32 a0_4, .int .i32 a0_5, .int .i64 a0_6, .int .i64 a0_7]) 23]) rfl).pickR (pick_cons 0 rfl (pick_cons 0 rfl (pick_cons 1 rfl (pick_cons 2 rfl pick_nil)))), exg (by kernel_rfl)⟩ ?_
      clear hs h hy
      rintro n a w ⟨z16, z17, z18_0_0, z18_0_1, z18_0_2, z18_0_3, z18_0_4, z18_0_5, z18_0_6, z18_0_7, z18_2, z19, z17_A, z17_n, z17_c, z19_A, z19_n, z19_c, h, hs, g, rfl⟩ KL0 kl0
      cases n with
      | zero => exact nomatch (show none = some _ from h)
      | succ n =>
       refine xseq_k fun KS31 ks31 => ?_
       refine wp_regS (l := [0]) (by kernel_rfl) (by kernel_rfl) fun KR32 kr32 => ?_
       rcases of_if h with ⟨hc, h⟩ | ⟨hc, h⟩
       ·refine wpS.take 0 false (some 12) (.bool true) (by kernel_rfl) (yld_b (dt hc) (fun _ => by kernel_rfl)) ?_
        refine wpS.fin rfl (kr32 _ _ ?_)
        refine then_n (ks31 _ _ ?_)
        refine xseq_k fun KS33 ks33 => ?_
        refine wp_cond_t (by kernel_rfl) ?_
        refine xskip ?_
        refine then_n (ks33 _ _ ?_)
        refine xseq_k fun KS34 ks34 => ?_
        refine xblock ?_
        refine xseq_k fun KS35 ks35 => ?_
        obtain ⟨⟨y24, y25, y26_0_0, y26_0_1, y26_0_2, y26_0_3, y26_0_4, y26_0_5, y26_0_6, y26_0_7, y26_2, y27⟩, hj, h⟩ := of_bind h
        refine wp_join (N := fun a w => ∃ (b23 : Nat) (y27_A : Option Addr) (y27_n : Nat) (y27_c : Nat), St w0 [] [.blk b23 (enc .i32 y24) 40, .ownL (CA .i32 256 (by decide)) z17_A z17_n z17_c z17 40, .blk b15 ([.int .i32 (-1), .int .i32 1023]) 73, .ownL (CI .u8) r14_A r14_n r14_c r14 5, .blk b6 ([.int .i64 y26_0_0, .int .i64 y26_0_1, .int .i32 y26_0_2, .int .i64 y26_0_3, .int .i32 y26_0_4, .int .i32 y26_0_5, .int .i64 y26_0_6, .int .i64 y26_0_7, .slice y27_A y27_n y27_c, .bool y26_2]) 96, .blk b2 ([.slice none 0 0, .slice none 0 0]) 27, .blk b1 ([.int .i64 a0_0, .int .i64 a0_1, .int .i32 a0_2, .int .i64 a0_3, .int .i32 a0_4, .int .i32 a0_5, .int .i64 a0_6, .int .i64 a0_7]) 23] [.rowL (CI .u8) y27_A y27_n y27_c y27, .rowL (CI .u8) z19_A z19_n z19_c z19, .rowL (CI .u8) s13_A s13_n s13_c (subL a1 32 (a1.length : Int)), .rowL (CI .u8) s12_A s12_n s12_c (subL a1 0 32), .rowL (CI .u8) a1_A a1_n a1_c a1] w ∧ ∃ g : Nat → Value, a = ⟨#[.pointer (some ⟨b6, 0, none⟩), .int .i64 a0_0, .agg #[.int .i32 (-1), .int .i32 1023], undef, undef, .pointer (some ⟨b15, 0, none⟩), .slice none 0 0, .slice z17_A z17_n z17_c, .pointer (some ⟨b23, 0, none⟩), .bool y25, .int .i64 a0_0, .int .i64 z16, .bool true, (g 13), (g 14), (g 15), (g 16), (g 17), (g 18), (g 19), (g 20), (g 21), (g 22), (g 23), (g 24), (g 25), (g 26), (g 27), (g 28), (g 29), (g 30), (g 31), (g 32), (g 33), (g 34), (g 35), (g 36), (g 37), (g 38), (g 39), (g 40), undef], []⟩) (fun N nj => ?_) ?_
        ·clear h
         have h := hj
         refine wp_regG [3, 13] (fun k => ¬ k = b15) 15 (by kernel_rfl) (by kernel_rfl) (by kernel_rfl) fun KR36 kr36 => ?_
         have hs := hs.drawn1
         refine wpG.takeD 0 false (some 14) (.pointer (some ⟨b6, 0, none⟩)) (by kernel_rfl) (by kernel_rfl) (yld fun _ => by kernel_rfl) ?_
         refine wpG.take [1, 2, 3, 8, 9, 10, 11, 13, 14] 1 true (some 15) (.agg #[.int .i32 (-1), .int .i32 1023]) (by kernel_rfl) (by kernel_rfl) (yld_loadW (e := 73) (n := 2) hs 1 rfl (by kernel_rfl) (by kernel_rfl) (by kernel_rfl) (by simp [enc_len]) .grow) ?_
         refine wpG.takeD 4 false (some 18) (.pointer (some ⟨b15, 0, none⟩)) (by kernel_rfl) (by kernel_rfl) (yld fun _ => by kernel_rfl) ?_
         refine wpG.takeK [5, 8, 9, 10, 11, 13, 14] 5 (some 19) (.int .i32 (-1)) (by kernel_rfl) (by kernel_rfl) (yld_load1 (e := 21) (o := 0) hs 1 rfl (by kernel_rfl) (by kernel_rfl) (by rfl) (.keep (fun hn => hn rfl))) ?_
         refine wpG.takeD 6 false (some 20) (.pointer (some ⟨b15, 1, none⟩)) (by kernel_rfl) (by kernel_rfl) (yld fun _ => by kernel_rfl) ?_
         refine wpG.takeK [7, 8, 9, 10, 11, 13, 14] 7 (some 21) (.int .i32 1023) (by kernel_rfl) (by kernel_rfl) (yld_load1 (e := 21) (o := 1) hs 1 rfl (by kernel_rfl) (by kernel_rfl) (by rfl) (.keep (fun hn => hn rfl))) ?_
         refine wpG.many [2, 12] (by kernel_rfl) (by decide) (forall_cons ?_ (forall_cons ?_ forall_nil))
         ·obtain ⟨r28, hg, h⟩ := of_bind h
          refine (op_call (d := (some 16)) (by kernel_rfl) hs (fun _ => by kernel_rfl) (dpack_span_size.ok hg _) ?_)
          intro w gw hs
          refine ⟨.of gw, ?_⟩
          refine wpG.many [3, 12] (by kernel_rfl) (by decide) (forall_cons ?_ (forall_cons ?_ forall_nil))
          ·have hsB38 := hs
           refine (op_inline (d := (some 17)) (f := 61) (args := #[.pointer (some ⟨b6, 0, none⟩), .int .i64 r28]) (by kernel_rfl) (fun _ => by kernel_rfl) fun R37 kI37 => ?_)
           refine calls_k Try.func61 rfl fun Q37 qq37 => ?_
           refine wp_conv (a' := ⟨#[.pointer (some ⟨b6, 0, none⟩), .int .i64 r28, undef, undef, undef, undef, undef, undef, undef, undef, undef, undef, undef, undef, undef, undef, undef, undef, undef, undef, undef, undef, undef], []⟩) (by kernel_rfl) ?_
           refine xseq_k fun KS39 ks39 => ?_
           refine wp_regS (l := [0]) (by kernel_rfl) (by kernel_rfl) fun KR40 kr40 => ?_
           refine wpS.p 0 4 (.slice none 0 0) (by kernel_rfl) ?_
           refine wpS.fin rfl (kr40 _ _ ?_)
           refine then_n (ks39 _ _ ?_)
           refine xseq_k fun KS41 ks41 => ?_
           refine wp_regS (l := [0, 1, 2, 3, 4, 5, 6]) (by kernel_rfl) (by kernel_rfl) fun KR42 kr42 => ?_
           refine wpS.ps [(0, 6, .pointer (some ⟨b6, 0, none⟩)), (1, 7, .pointer (some ⟨b6, 0, none⟩)), (2, 8, .pointer (some ⟨b6, 8, none⟩))] (by kernel_rfl) ?_
           refine wpS.take 3 true (some 9) (.slice z19_A z19_n z19_c) (by kernel_rfl) (yld_load1 (e := 24) (o := 8) hs 3 rfl (by kernel_rfl) (by kernel_rfl) (by rfl) .grow) ?_
           refine wpS.p 4 10 (.int .i64 r28) (by kernel_rfl) ?_
           obtain ⟨h0, h⟩ := of_chk h
           obtain ⟨h1, h⟩ := of_chk h
           obtain ⟨h2, h⟩ := of_chk h
           obtain ⟨s29_A, hA⟩ : ∃ A, A = if z19_c = (0 : Int).toNat then z19_A else adr z19_A ((0 : Int).toNat * Cod.size (CI .u8)) := ⟨_, rfl⟩
           obtain ⟨s29_n, hn⟩ : ∃ n, n = (r28 : Int).toNat - (0 : Int).toNat := ⟨_, rfl⟩
           obtain ⟨s29_c, hc⟩ : ∃ c, c = z19_c - (0 : Int).toNat := ⟨_, rfl⟩
           refine wpS.take 5 false (some 11) (.slice s29_A s29_n s29_c) (by kernel_rfl) (yld_sub (C := (CI .u8)) (t := 24) (e := 5) (low := none) (high := some (.int .i64 r28)) (lo := 0) (hi := r28) (hs.rowR 0 rfl) (by kernel_rfl) (by kernel_rfl) (by kernel_rfl) (.inl ⟨rfl, rfl⟩) (.inr ⟨_, rfl⟩) h0 h1 h2 hA hn hc) ?_
           have hs := hs.addSub (C := (CI .u8)) 0 rfl h0 h1 h2 hA hn hc
           refine wpS.p 6 5 (.slice s29_A s29_n s29_c) (by kernel_rfl) ?_
           refine wpS.fin rfl (kr42 _ _ ?_)
           refine then_n (ks41 _ _ ?_)
           refine xseq_k fun KS43 ks43 => ?_
           refine wp_regS (l := [0, 1, 2, 3, 4, 5, 6, 7, 8, 9]) (by kernel_rfl) (by kernel_rfl) fun KR44 kr44 => ?_
           refine wpS.ps [(0, 12, .pointer (some ⟨b6, 0, none⟩)), (1, 13, .pointer (some ⟨b6, 0, none⟩)), (2, 14, .pointer (some ⟨b6, 0, none⟩)), (3, 15, .pointer (some ⟨b6, 8, none⟩))] (by kernel_rfl) ?_
           refine wpS.take 4 true (some 16) (.slice z19_A z19_n z19_c) (by kernel_rfl) (yld_load1 (e := 24) (o := 8) hs 3 rfl (by kernel_rfl) (by kernel_rfl) (by rfl) .grow) ?_
           refine wpS.p 5 17 (.int .i64 r28) (by kernel_rfl) ?_
           obtain ⟨h0, h⟩ := of_chk h
           obtain ⟨h1, h⟩ := of_chk h
           obtain ⟨h2, h⟩ := of_chk h
           obtain ⟨s30_A, hA⟩ : ∃ A, A = if z19_c = (r28 : Int).toNat then z19_A else adr z19_A ((r28 : Int).toNat * Cod.size (CI .u8)) := ⟨_, rfl⟩
           obtain ⟨s30_n, hn⟩ : ∃ n, n = ((z19.length : Int) : Int).toNat - (r28 : Int).toNat := ⟨_, rfl⟩
           obtain ⟨s30_c, hc⟩ : ∃ c, c = z19_c - (r28 : Int).toNat := ⟨_, rfl⟩
           refine wpS.take 6 false (some 18) (.slice s30_A s30_n s30_c) (by kernel_rfl) (yld_sub (C := (CI .u8)) (t := 24) (e := 5) (low := some (.int .i64 r28)) (high := none) (lo := r28) (hi := (z19.length : Int)) (hs.rowR 1 rfl) (by kernel_rfl) (by kernel_rfl) (by kernel_rfl) (.inr ⟨_, rfl⟩) (.inl ⟨rfl, rfl⟩) h0 h1 h2 hA hn hc) ?_
           have hs := hs.addSub (C := (CI .u8)) 1 rfl h0 h1 h2 hA hn hc
           refine wpS.ps [(7, 19, .pointer (some ⟨b6, 0, none⟩)), (8, 20, .pointer (some ⟨b6, 8, none⟩))] (by kernel_rfl) ?_
           refine wpS.only 9 (op_store1 (t := 24) (o := 8) (v := .slice s30_A s30_n s30_c) (d := none) (by kernel_rfl) hs 3 rfl (by kernel_rfl) rfl (by kernel_rfl) (by simp) ?_)
           intro w kp hs
           refine ⟨fun _ => trivial, ?_⟩
           refine wpS.fin rfl (kr44 _ _ ?_)
           refine then_n (ks43 _ _ ?_)
           refine xseq_k fun KS45 ks45 => ?_
           refine wp_regS (l := [0, 1, 2]) (by kernel_rfl) (by kernel_rfl) fun KR46 kr46 => ?_
           refine wpS.p 0 21 (.slice s29_A s29_n s29_c) (by kernel_rfl) ?_
           obtain ⟨r31, hg, h⟩ := of_bind h
           refine wpS.only 1 (op_callH (d := (some 22)) (by kernel_rfl) hs (fun _ => by kernel_rfl) (slices_Clone_byte_byte.ok hg _ (hs.rowR 1 rfl)) ?_)
           rintro ⟨r31_A, r31_n, r31_c⟩ w gw hs
           have hs := hs.conv (L' := [.ownL (CI .u8) r31_A r31_n r31_c r31 5, .ownL (CA .i32 256 (by decide)) z17_A z17_n z17_c z17 40, .blk b15 ([.int .i32 (-1), .int .i32 1023]) 73, .ownL (CI .u8) r14_A r14_n r14_c r14 5, .blk b6 ([.int .i64 z18_0_0, .int .i64 z18_0_1, .int .i32 z18_0_2, .int .i64 z18_0_3, .int .i32 z18_0_4, .int .i32 z18_0_5, .int .i64 z18_0_6, .int .i64 z18_0_7, .slice s30_A s30_n s30_c, .bool z18_2]) 96, .blk b2 ([.slice none 0 0, .slice none 0 0]) 27, .blk b1 ([.int .i64 a0_0, .int .i64 a0_1, .int .i32 a0_2, .int .i64 a0_3, .int .i32 a0_4, .int .i32 a0_5, .int .i64 a0_6, .int .i64 a0_7]) 23]) rfl
           refine ⟨fun _ => trivial, ?_⟩
           refine wpS.p 2 4 (.slice r31_A r31_n r31_c) (by kernel_rfl) ?_
           refine wpS.fin rfl (kr46 _ _ ?_)
           refine then_n (ks45 _ _ ?_)
           refine xret ?_
           refine qq37 _ _ (post_ret (by kernel_rfl) (run_results [.tmp 4] [.slice r31_A r31_n r31_c] (by kernel_rfl) (.cons (res_tmp (by kernel_rfl)) .nil)) ?_)
           refine kI37 _ _ ?_
           refine ⟨⟨fun hf => absurd hf (by decide), (keepB1 (hsB38.blkAt 1 rfl) (hs.blkAt 2 rfl))⟩, ?_⟩
           refine wpG.many [8, 12] (by kernel_rfl) (by decide) (forall_cons ?_ (forall_cons ?_ forall_nil))
           ·obtain ⟨⟨r32, r33⟩, hg, h⟩ := of_bind h
            refine (op_call (d := (some 22)) (by kernel_rfl) hs (fun _ => by kernel_rfl) (dpack_Unpack.ok hg _ (hs.rowL 0 rfl)) ?_)
            intro w gw hs
            refine ⟨.of gw, ?_⟩
            refine wpG.p 9 13 (.tuple #[.agg (enc .i32 r32).toArray, .bool r33]) (by kernel_rfl) (by kernel_rfl) ?_
            refine wpG.p 10 23 (.agg (enc .i32 r32).toArray) (by kernel_rfl) (by kernel_rfl) ?_
            refine wpG.p 11 24 (.bool r33) (by kernel_rfl) (by kernel_rfl) ?_
            refine wpG.only 12 (by kernel_rfl) (op_alloc (t := 40) (d := (some 8)) (by kernel_rfl) hs (enc .i32 (zeroA 256)) (.agg (enc .i32 (zeroA 256)).toArray) (by kernel_rfl) (by kernel_rfl) (by kernel_rfl) ?_)
            intro b34 w gw hs
            refine ⟨.of gw, ?_⟩
            have hsB47 := hs
            refine wpG.only 13 (by kernel_rfl) (op_storeW (t := 40) (v := .agg (enc .i32 r32).toArray) (d := none) (by kernel_rfl) hs 0 rfl (vs := enc .i32 r32) (n := 256) (by kernel_rfl) (by kernel_rfl) (by kernel_rfl) (by simp [enc_len]) (by simp [enc_len]) (by intro u hu; exact enc_one _ _ u hu) ?_)
            intro w kp hs
            refine ⟨⟨fun hf => absurd hf (by decide), (keepB1 (hsB47.blkAt 3 rfl) (hs.blkAt 3 rfl))⟩, ?_⟩
            refine wpG.p 14 9 (.bool r33) (by kernel_rfl) (by kernel_rfl) ?_
            refine wpG.fin (by kernel_rfl) rfl (kr36 _ _ ?_)
            obtain ⟨q0, qr0⟩ := Prod.mk.inj (of_some h)
            obtain ⟨q1, qr1⟩ := Prod.mk.inj (qr0)
            obtain ⟨q2, qr2⟩ := Prod.mk.inj (qr1)
            obtain ⟨q3, qr3⟩ := Prod.mk.inj (qr2)
            obtain ⟨q4, qr4⟩ := Prod.mk.inj (qr3)
            obtain ⟨q5, qr5⟩ := Prod.mk.inj (qr4)
            obtain ⟨q6, qr6⟩ := Prod.mk.inj (qr5)
            obtain ⟨q7, qr7⟩ := Prod.mk.inj (qr6)
            obtain ⟨q8, qr8⟩ := Prod.mk.inj (qr7)
            obtain ⟨q9, qr9⟩ := Prod.mk.inj (qr8)
            obtain ⟨q10, qr10⟩ := Prod.mk.inj (qr9)
            have q11 := qr10
            subst q0
            subst q1
            subst q2
            subst q3
            subst q4
            subst q5
            subst q6
            subst q7
            subst q8
            subst q9
            subst q10
            subst q11
            exact nj _ _ ⟨b34, s30_A, s30_n, s30_c, ((hs.drop (.cons_cons _ (.cons _ (.cons_cons _ (.cons_cons _ (.cons_cons _ (.cons_cons _ (.cons_cons _ (.cons_cons _ .slnil))))))))).pickR (pick_cons 0 rfl (pick_cons 2 rfl (pick_cons 3 rfl (pick_cons 4 rfl (pick_cons 5 rfl pick_nil)))))), exg (by kernel_rfl)⟩
           ·refine (op_alloc (t := 40) (d := (some 8)) (by kernel_rfl) hs (enc .i32 (zeroA 256)) (.agg (enc .i32 (zeroA 256)).toArray) (by kernel_rfl) (by kernel_rfl) (by kernel_rfl) ?_)
            intro b35 w gw hs
            refine ⟨.of gw, ?_⟩
            obtain ⟨⟨r36, r37⟩, hg, h⟩ := of_bind h
            refine wpG.only 8 (by kernel_rfl) (op_call (d := (some 22)) (by kernel_rfl) hs (fun _ => by kernel_rfl) (dpack_Unpack.ok hg _ (hs.rowL 1 rfl)) ?_)
            intro w gw hs
            refine ⟨.of gw, ?_⟩
            refine wpG.p 9 13 (.tuple #[.agg (enc .i32 r36).toArray, .bool r37]) (by kernel_rfl) (by kernel_rfl) ?_
            refine wpG.p 10 23 (.agg (enc .i32 r36).toArray) (by kernel_rfl) (by kernel_rfl) ?_
            refine wpG.p 11 24 (.bool r37) (by kernel_rfl) (by kernel_rfl) ?_
            have hsB48 := hs
            refine wpG.only 13 (by kernel_rfl) (op_storeW (t := 40) (v := .agg (enc .i32 r36).toArray) (d := none) (by kernel_rfl) hs 0 rfl (vs := enc .i32 r36) (n := 256) (by kernel_rfl) (by kernel_rfl) (by kernel_rfl) (by simp [enc_len]) (by simp [enc_len]) (by intro u hu; exact enc_one _ _ u hu) ?_)
            intro w kp hs
            refine ⟨⟨fun hf => absurd hf (by decide), (keepB1 (hsB48.blkAt 3 rfl) (hs.blkAt 3 rfl))⟩, ?_⟩
            refine wpG.p 14 9 (.bool r37) (by kernel_rfl) (by kernel_rfl) ?_
            refine wpG.fin (by kernel_rfl) rfl (kr36 _ _ ?_)
            obtain ⟨q0, qr0⟩ := Prod.mk.inj (of_some h)
            obtain ⟨q1, qr1⟩ := Prod.mk.inj (qr0)
            obtain ⟨q2, qr2⟩ := Prod.mk.inj (qr1)
            obtain ⟨q3, qr3⟩ := Prod.mk.inj (qr2)
            obtain ⟨q4, qr4⟩ := Prod.mk.inj (qr3)
            obtain ⟨q5, qr5⟩ := Prod.mk.inj (qr4)
            obtain ⟨q6, qr6⟩ := Prod.mk.inj (qr5)
            obtain ⟨q7, qr7⟩ := Prod.mk.inj (qr6)
            obtain ⟨q8, qr8⟩ := Prod.mk.inj (qr7)
            obtain ⟨q9, qr9⟩ := Prod.mk.inj (qr8)
            obtain ⟨q10, qr10⟩ := Prod.mk.inj (qr9)
            have q11 := qr10
            subst q0
            subst q1
            subst q2
            subst q3
            subst q4
            subst q5
            subst q6
            subst q7
            subst q8
            subst q9
            subst q10
            subst q11
            exact nj _ _ ⟨b35, s30_A, s30_n, s30_c, ((hs.drop (.cons_cons _ (.cons _ (.cons_cons _ (.cons_cons _ (.cons_cons _ (.cons_cons _ (.cons_cons _ (.cons_cons _ .slnil))))))))).pickR (pick_cons 0 rfl (pick_cons 2 rfl (pick_cons 3 rfl (pick_cons 4 rfl (pick_cons 5 rfl pick_nil)))))), exg (by kernel_rfl)⟩
          ·refine (op_alloc (t := 40) (d := (some 8)) (by kernel_rfl) hs (enc .i32 (zeroA 256)) (.agg (enc .i32 (zeroA 256)).toArray) (by kernel_rfl) (by kernel_rfl) (by kernel_rfl) ?_)
           intro b38 w gw hs
           refine ⟨.of gw, ?_⟩
           have hsB50 := hs
           refine wpG.only 3 (by kernel_rfl) (op_inline (d := (some 17)) (f := 61) (args := #[.pointer (some ⟨b6, 0, none⟩), .int .i64 r28]) (by kernel_rfl) (fun _ => by kernel_rfl) fun R49 kI49 => ?_)
           refine calls_k Try.func61 rfl fun Q49 qq49 => ?_
           refine wp_conv (a' := ⟨#[.pointer (some ⟨b6, 0, none⟩), .int .i64 r28, undef, undef, undef, undef, undef, undef, undef, undef, undef, undef, undef, undef, undef, undef, undef, undef, undef, undef, undef, undef, undef], []⟩) (by kernel_rfl) ?_
           refine xseq_k fun KS51 ks51 => ?_
           refine wp_regS (l := [0]) (by kernel_rfl) (by kernel_rfl) fun KR52 kr52 => ?_
           refine wpS.p 0 4 (.slice none 0 0) (by kernel_rfl) ?_
           refine wpS.fin rfl (kr52 _ _ ?_)
           refine then_n (ks51 _ _ ?_)
           refine xseq_k fun KS53 ks53 => ?_
           refine wp_regS (l := [0, 1, 2, 3, 4, 5, 6]) (by kernel_rfl) (by kernel_rfl) fun KR54 kr54 => ?_
           refine wpS.ps [(0, 6, .pointer (some ⟨b6, 0, none⟩)), (1, 7, .pointer (some ⟨b6, 0, none⟩)), (2, 8, .pointer (some ⟨b6, 8, none⟩))] (by kernel_rfl) ?_
           refine wpS.take 3 true (some 9) (.slice z19_A z19_n z19_c) (by kernel_rfl) (yld_load1 (e := 24) (o := 8) hs 4 rfl (by kernel_rfl) (by kernel_rfl) (by rfl) .grow) ?_
           refine wpS.p 4 10 (.int .i64 r28) (by kernel_rfl) ?_
           obtain ⟨h0, h⟩ := of_chk h
           obtain ⟨h1, h⟩ := of_chk h
           obtain ⟨h2, h⟩ := of_chk h
           obtain ⟨s39_A, hA⟩ : ∃ A, A = if z19_c = (0 : Int).toNat then z19_A else adr z19_A ((0 : Int).toNat * Cod.size (CI .u8)) := ⟨_, rfl⟩
           obtain ⟨s39_n, hn⟩ : ∃ n, n = (r28 : Int).toNat - (0 : Int).toNat := ⟨_, rfl⟩
           obtain ⟨s39_c, hc⟩ : ∃ c, c = z19_c - (0 : Int).toNat := ⟨_, rfl⟩
           refine wpS.take 5 false (some 11) (.slice s39_A s39_n s39_c) (by kernel_rfl) (yld_sub (C := (CI .u8)) (t := 24) (e := 5) (low := none) (high := some (.int .i64 r28)) (lo := 0) (hi := r28) (hs.rowR 0 rfl) (by kernel_rfl) (by kernel_rfl) (by kernel_rfl) (.inl ⟨rfl, rfl⟩) (.inr ⟨_, rfl⟩) h0 h1 h2 hA hn hc) ?_
           have hs := hs.addSub (C := (CI .u8)) 0 rfl h0 h1 h2 hA hn hc
           refine wpS.p 6 5 (.slice s39_A s39_n s39_c) (by kernel_rfl) ?_
           refine wpS.fin rfl (kr54 _ _ ?_)
           refine then_n (ks53 _ _ ?_)
           refine xseq_k fun KS55 ks55 => ?_
           refine wp_regS (l := [0, 1, 2, 3, 4, 5, 6, 7, 8, 9]) (by kernel_rfl) (by kernel_rfl) fun KR56 kr56 => ?_
           refine wpS.ps [(0, 12, .pointer (some ⟨b6, 0, none⟩)), (1, 13, .pointer (some ⟨b6, 0, none⟩)), (2, 14, .pointer (some ⟨b6, 0, none⟩)), (3, 15, .pointer (some ⟨b6, 8, none⟩))] (by kernel_rfl) ?_
           refine wpS.take 4 true (some 16) (.slice z19_A z19_n z19_c) (by kernel_rfl) (yld_load1 (e := 24) (o := 8) hs 4 rfl (by kernel_rfl) (by kernel_rfl) (by rfl) .grow) ?_
           refine wpS.p 5 17 (.int .i64 r28) (by kernel_rfl) ?_
           obtain ⟨h0, h⟩ := of_chk h
           obtain ⟨h1, h⟩ := of_chk h
           obtain ⟨h2, h⟩ := of_chk h
           obtain ⟨s40_A, hA⟩ : ∃ A, A = if z19_c = (r28 : Int).toNat then z19_A else adr z19_A ((r28 : Int).toNat * Cod.size (CI .u8)) := ⟨_, rfl⟩
           obtain ⟨s40_n, hn⟩ : ∃ n, n = ((z19.length : Int) : Int).toNat - (r28 : Int).toNat := ⟨_, rfl⟩
           obtain ⟨s40_c, hc⟩ : ∃ c, c = z19_c - (r28 : Int).toNat := ⟨_, rfl⟩
           refine wpS.take 6 false (some 18) (.slice s40_A s40_n s40_c) (by kernel_rfl) (yld_sub (C := (CI .u8)) (t := 24) (e := 5) (low := some (.int .i64 r28)) (high := none) (lo := r28) (hi := (z19.length : Int)) (hs.rowR 1 rfl) (by kernel_rfl) (by kernel_rfl) (by kernel_rfl) (.inr ⟨_, rfl⟩) (.inl ⟨rfl, rfl⟩) h0 h1 h2 hA hn hc) ?_
           have hs := hs.addSub (C := (CI .u8)) 1 rfl h0 h1 h2 hA hn hc
           refine wpS.ps [(7, 19, .pointer (some ⟨b6, 0, none⟩)), (8, 20, .pointer (some ⟨b6, 8, none⟩))] (by kernel_rfl) ?_
           refine wpS.only 9 (op_store1 (t := 24) (o := 8) (v := .slice s40_A s40_n s40_c) (d := none) (by kernel_rfl) hs 4 rfl (by kernel_rfl) rfl (by kernel_rfl) (by simp) ?_)
           intro w kp hs
           refine ⟨fun _ => trivial, ?_⟩
           refine wpS.fin rfl (kr56 _ _ ?_)
           refine then_n (ks55 _ _ ?_)
           refine xseq_k fun KS57 ks57 => ?_
           refine wp_regS (l := [0, 1, 2]) (by kernel_rfl) (by kernel_rfl) fun KR58 kr58 => ?_
           refine wpS.p 0 21 (.slice s39_A s39_n s39_c) (by kernel_rfl) ?_
           obtain ⟨r41, hg, h⟩ := of_bind h
           refine wpS.only 1 (op_callH (d := (some 22)) (by kernel_rfl) hs (fun _ => by kernel_rfl) (slices_Clone_byte_byte.ok hg _ (hs.rowR 1 rfl)) ?_)
           rintro ⟨r41_A, r41_n, r41_c⟩ w gw hs
           have hs := hs.conv (L' := [.ownL (CI .u8) r41_A r41_n r41_c r41 5, .blk b38 (enc .i32 (zeroA 256)) 40, .ownL (CA .i32 256 (by decide)) z17_A z17_n z17_c z17 40, .blk b15 ([.int .i32 (-1), .int .i32 1023]) 73, .ownL (CI .u8) r14_A r14_n r14_c r14 5, .blk b6 ([.int .i64 z18_0_0, .int .i64 z18_0_1, .int .i32 z18_0_2, .int .i64 z18_0_3, .int .i32 z18_0_4, .int .i32 z18_0_5, .int .i64 z18_0_6, .int .i64 z18_0_7, .slice s40_A s40_n s40_c, .bool z18_2]) 96, .blk b2 ([.slice none 0 0, .slice none 0 0]) 27, .blk b1 ([.int .i64 a0_0, .int .i64 a0_1, .int .i32 a0_2, .int .i64 a0_3, .int .i32 a0_4, .int .i32 a0_5, .int .i64 a0_6, .int .i64 a0_7]) 23]) rfl
           refine ⟨fun _ => trivial, ?_⟩
           refine wpS.p 2 4 (.slice r41_A r41_n r41_c) (by kernel_rfl) ?_
           refine wpS.fin rfl (kr58 _ _ ?_)
           refine then_n (ks57 _ _ ?_)
           refine xret ?_
           refine qq49 _ _ (post_ret (by kernel_rfl) (run_results [.tmp 4] [.slice r41_A r41_n r41_c] (by kernel_rfl) (.cons (res_tmp (by kernel_rfl)) .nil)) ?_)
           refine kI49 _ _ ?_
           refine ⟨⟨fun hf => absurd hf (by decide), (keepB1 (hsB50.blkAt 2 rfl) (hs.blkAt 3 rfl))⟩, ?_⟩
           obtain ⟨⟨r42, r43⟩, hg, h⟩ := of_bind h
           refine wpG.only 8 (by kernel_rfl) (op_call (d := (some 22)) (by kernel_rfl) hs (fun _ => by kernel_rfl) (dpack_Unpack.ok hg _ (hs.rowL 0 rfl)) ?_)
           intro w gw hs
           refine ⟨.of gw, ?_⟩
           refine wpG.p 9 13 (.tuple #[.agg (enc .i32 r42).toArray, .bool r43]) (by kernel_rfl) (by kernel_rfl) ?_
           refine wpG.p 10 23 (.agg (enc .i32 r42).toArray) (by kernel_rfl) (by kernel_rfl) ?_
           refine wpG.p 11 24 (.bool r43) (by kernel_rfl) (by kernel_rfl) ?_
           have hsB59 := hs
           refine wpG.only 13 (by kernel_rfl) (op_storeW (t := 40) (v := .agg (enc .i32 r42).toArray) (d := none) (by kernel_rfl) hs 1 rfl (vs := enc .i32 r42) (n := 256) (by kernel_rfl) (by kernel_rfl) (by kernel_rfl) (by simp [enc_len]) (by simp [enc_len]) (by intro u hu; exact enc_one _ _ u hu) ?_)
           intro w kp hs
           refine ⟨⟨fun hf => absurd hf (by decide), (keepB1 (hsB59.blkAt 3 rfl) (hs.blkAt 3 rfl))⟩, ?_⟩
           refine wpG.p 14 9 (.bool r43) (by kernel_rfl) (by kernel_rfl) ?_
           refine wpG.fin (by kernel_rfl) rfl (kr36 _ _ ?_)
           obtain ⟨q0, qr0⟩ := Prod.mk.inj (of_some h)
           obtain ⟨q1, qr1⟩ := Prod.mk.inj (qr0)
           obtain ⟨q2, qr2⟩ := Prod.mk.inj (qr1)
           obtain ⟨q3, qr3⟩ := Prod.mk.inj (qr2)
           obtain ⟨q4, qr4⟩ := Prod.mk.inj (qr3)
           obtain ⟨q5, qr5⟩ := Prod.mk.inj (qr4)
           obtain ⟨q6, qr6⟩ := Prod.mk.inj (qr5)
           obtain ⟨q7, qr7⟩ := Prod.mk.inj (qr6)
           obtain ⟨q8, qr8⟩ := Prod.mk.inj (qr7)
           obtain ⟨q9, qr9⟩ := Prod.mk.inj (qr8)
           obtain ⟨q10, qr10⟩ := Prod.mk.inj (qr9)
           have q11 := qr10
           subst q0
           subst q1
           subst q2
           subst q3
           subst q4
           subst q5
           subst q6
           subst q7
           subst q8
           subst q9
           subst q10
           subst q11
           exact nj _ _ ⟨b38, s40_A, s40_n, s40_c, ((hs.drop (.cons _ (.cons_cons _ (.cons_cons _ (.cons_cons _ (.cons_cons _ (.cons_cons _ (.cons_cons _ (.cons_cons _ .slnil))))))))).pickR (pick_cons 0 rfl (pick_cons 2 rfl (pick_cons 3 rfl (pick_cons 4 rfl (pick_cons 5 rfl pick_nil)))))), exg (by kernel_rfl)⟩
         ·refine (op_alloc (t := 40) (d := (some 8)) (by kernel_rfl) hs (enc .i32 (zeroA 256)) (.agg (enc .i32 (zeroA 256)).toArray) (by kernel_rfl) (by kernel_rfl) (by kernel_rfl) ?_)
          intro b44 w gw hs
          refine ⟨.of gw, ?_⟩
          obtain ⟨r45, hg, h⟩ := of_bind h
          refine wpG.only 2 (by kernel_rfl) (op_call (d := (some 16)) (by kernel_rfl) hs (fun _ => by kernel_rfl) (dpack_span_size.ok hg _) ?_)
          intro w gw hs
          refine ⟨.of gw, ?_⟩
          have hsB61 := hs
          refine wpG.only 3 (by kernel_rfl) (op_inline (d := (some 17)) (f := 61) (args := #[.pointer (some ⟨b6, 0, none⟩), .int .i64 r45]) (by kernel_rfl) (fun _ => by kernel_rfl) fun R60 kI60 => ?_)
          refine calls_k Try.func61 rfl fun Q60 qq60 => ?_
          refine wp_conv (a' := ⟨#[.pointer (some ⟨b6, 0, none⟩), .int .i64 r45, undef, undef, undef, undef, undef, undef, undef, undef, undef, undef, undef, undef, undef, undef, undef, undef, undef, undef, undef, undef, undef], []⟩) (by kernel_rfl) ?_
          refine xseq_k fun KS62 ks62 => ?_
          refine wp_regS (l := [0]) (by kernel_rfl) (by kernel_rfl) fun KR63 kr63 => ?_
          refine wpS.p 0 4 (.slice none 0 0) (by kernel_rfl) ?_
          refine wpS.fin rfl (kr63 _ _ ?_)
          refine then_n (ks62 _ _ ?_)
          refine xseq_k fun KS64 ks64 => ?_
          refine wp_regS (l := [0, 1, 2, 3, 4, 5, 6]) (by kernel_rfl) (by kernel_rfl) fun KR65 kr65 => ?_
          refine wpS.ps [(0, 6, .pointer (some ⟨b6, 0, none⟩)), (1, 7, .pointer (some ⟨b6, 0, none⟩)), (2, 8, .pointer (some ⟨b6, 8, none⟩))] (by kernel_rfl) ?_
          refine wpS.take 3 true (some 9) (.slice z19_A z19_n z19_c) (by kernel_rfl) (yld_load1 (e := 24) (o := 8) hs 4 rfl (by kernel_rfl) (by kernel_rfl) (by rfl) .grow) ?_
          refine wpS.p 4 10 (.int .i64 r45) (by kernel_rfl) ?_
          obtain ⟨h0, h⟩ := of_chk h
          obtain ⟨h1, h⟩ := of_chk h
          obtain ⟨h2, h⟩ := of_chk h
          obtain ⟨s46_A, hA⟩ : ∃ A, A = if z19_c = (0 : Int).toNat then z19_A else adr z19_A ((0 : Int).toNat * Cod.size (CI .u8)) := ⟨_, rfl⟩
          obtain ⟨s46_n, hn⟩ : ∃ n, n = (r45 : Int).toNat - (0 : Int).toNat := ⟨_, rfl⟩
          obtain ⟨s46_c, hc⟩ : ∃ c, c = z19_c - (0 : Int).toNat := ⟨_, rfl⟩
          refine wpS.take 5 false (some 11) (.slice s46_A s46_n s46_c) (by kernel_rfl) (yld_sub (C := (CI .u8)) (t := 24) (e := 5) (low := none) (high := some (.int .i64 r45)) (lo := 0) (hi := r45) (hs.rowR 0 rfl) (by kernel_rfl) (by kernel_rfl) (by kernel_rfl) (.inl ⟨rfl, rfl⟩) (.inr ⟨_, rfl⟩) h0 h1 h2 hA hn hc) ?_
          have hs := hs.addSub (C := (CI .u8)) 0 rfl h0 h1 h2 hA hn hc
          refine wpS.p 6 5 (.slice s46_A s46_n s46_c) (by kernel_rfl) ?_
          refine wpS.fin rfl (kr65 _ _ ?_)
          refine then_n (ks64 _ _ ?_)
          refine xseq_k fun KS66 ks66 => ?_
          refine wp_regS (l := [0, 1, 2, 3, 4, 5, 6, 7, 8, 9]) (by kernel_rfl) (by kernel_rfl) fun KR67 kr67 => ?_
          refine wpS.ps [(0, 12, .pointer (some ⟨b6, 0, none⟩)), (1, 13, .pointer (some ⟨b6, 0, none⟩)), (2, 14, .pointer (some ⟨b6, 0, none⟩)), (3, 15, .pointer (some ⟨b6, 8, none⟩))] (by kernel_rfl) ?_
          refine wpS.take 4 true (some 16) (.slice z19_A z19_n z19_c) (by kernel_rfl) (yld_load1 (e := 24) (o := 8) hs 4 rfl (by kernel_rfl) (by kernel_rfl) (by rfl) .grow) ?_
          refine wpS.p 5 17 (.int .i64 r45) (by kernel_rfl) ?_
          obtain ⟨h0, h⟩ := of_chk h
          obtain ⟨h1, h⟩ := of_chk h
          obtain ⟨h2, h⟩ := of_chk h
          obtain ⟨s47_A, hA⟩ : ∃ A, A = if z19_c = (r45 : Int).toNat then z19_A else adr z19_A ((r45 : Int).toNat * Cod.size (CI .u8)) := ⟨_, rfl⟩
          obtain ⟨s47_n, hn⟩ : ∃ n, n = ((z19.length : Int) : Int).toNat - (r45 : Int).toNat := ⟨_, rfl⟩
          obtain ⟨s47_c, hc⟩ : ∃ c, c = z19_c - (r45 : Int).toNat := ⟨_, rfl⟩
          refine wpS.take 6 false (some 18) (.slice s47_A s47_n s47_c) (by kernel_rfl) (yld_sub (C := (CI .u8)) (t := 24) (e := 5) (low := some (.int .i64 r45)) (high := none) (lo := r45) (hi := (z19.length : Int)) (hs.rowR 1 rfl) (by kernel_rfl) (by kernel_rfl) (by kernel_rfl) (.inr ⟨_, rfl⟩) (.inl ⟨rfl, rfl⟩) h0 h1 h2 hA hn hc) ?_
          have hs := hs.addSub (C := (CI .u8)) 1 rfl h0 h1 h2 hA hn hc
          refine wpS.ps [(7, 19, .pointer (some ⟨b6, 0, none⟩)), (8, 20, .pointer (some ⟨b6, 8, none⟩))] (by kernel_rfl) ?_
          refine wpS.only 9 (op_store1 (t := 24) (o := 8) (v := .slice s47_A s47_n s47_c) (d := none) (by kernel_rfl) hs 4 rfl (by kernel_rfl) rfl (by kernel_rfl) (by simp) ?_)
          intro w kp hs
          refine ⟨fun _ => trivial, ?_⟩
          refine wpS.fin rfl (kr67 _ _ ?_)
          refine then_n (ks66 _ _ ?_)
          refine xseq_k fun KS68 ks68 => ?_
          refine wp_regS (l := [0, 1, 2]) (by kernel_rfl) (by kernel_rfl) fun KR69 kr69 => ?_
          refine wpS.p 0 21 (.slice s46_A s46_n s46_c) (by kernel_rfl) ?_
          obtain ⟨r48, hg, h⟩ := of_bind h
          refine wpS.only 1 (op_callH (d := (some 22)) (by kernel_rfl) hs (fun _ => by kernel_rfl) (slices_Clone_byte_byte.ok hg _ (hs.rowR 1 rfl)) ?_)
          rintro ⟨r48_A, r48_n, r48_c⟩ w gw hs
          have hs := hs.conv (L' := [.ownL (CI .u8) r48_A r48_n r48_c r48 5, .blk b44 (enc .i32 (zeroA 256)) 40, .ownL (CA .i32 256 (by decide)) z17_A z17_n z17_c z17 40, .blk b15 ([.int .i32 (-1), .int .i32 1023]) 73, .ownL (CI .u8) r14_A r14_n r14_c r14 5, .blk b6 ([.int .i64 z18_0_0, .int .i64 z18_0_1, .int .i32 z18_0_2, .int .i64 z18_0_3, .int .i32 z18_0_4, .int .i32 z18_0_5, .int .i64 z18_0_6, .int .i64 z18_0_7, .slice s47_A s47_n s47_c, .bool z18_2]) 96, .blk b2 ([.slice none 0 0, .slice none 0 0]) 27, .blk b1 ([.int .i64 a0_0, .int .i64 a0_1, .int .i32 a0_2, .int .i64 a0_3, .int .i32 a0_4, .int .i32 a0_5, .int .i64 a0_6, .int .i64 a0_7]) 23]) rfl
          refine ⟨fun _ => trivial, ?_⟩
          refine wpS.p 2 4 (.slice r48_A r48_n r48_c) (by kernel_rfl) ?_
          refine wpS.fin rfl (kr69 _ _ ?_)
          refine then_n (ks68 _ _ ?_)
          refine xret ?_
          refine qq60 _ _ (post_ret (by kernel_rfl) (run_results [.tmp 4] [.slice r48_A r48_n r48_c] (by kernel_rfl) (.cons (res_tmp (by kernel_rfl)) .nil)) ?_)
          refine kI60 _ _ ?_
          refine ⟨⟨fun hf => absurd hf (by decide), (keepB1 (hsB61.blkAt 2 rfl) (hs.blkAt 3 rfl))⟩, ?_⟩
          obtain ⟨⟨r49, r50⟩, hg, h⟩ := of_bind h
          refine wpG.only 8 (by kernel_rfl) (op_call (d := (some 22)) (by kernel_rfl) hs (fun _ => by kernel_rfl) (dpack_Unpack.ok hg _ (hs.rowL 0 rfl)) ?_)
          intro w gw hs
          refine ⟨.of gw, ?_⟩
          refine wpG.p 9 13 (.tuple #[.agg (enc .i32 r49).toArray, .bool r50]) (by kernel_rfl) (by kernel_rfl) ?_
          refine wpG.p 10 23 (.agg (enc .i32 r49).toArray) (by kernel_rfl) (by kernel_rfl) ?_
          refine wpG.p 11 24 (.bool r50) (by kernel_rfl) (by kernel_rfl) ?_
          have hsB70 := hs
          refine wpG.only 13 (by kernel_rfl) (op_storeW (t := 40) (v := .agg (enc .i32 r49).toArray) (d := none) (by kernel_rfl) hs 1 rfl (vs := enc .i32 r49) (n := 256) (by kernel_rfl) (by kernel_rfl) (by kernel_rfl) (by simp [enc_len]) (by simp [enc_len]) (by intro u hu; exact enc_one _ _ u hu) ?_)
          intro w kp hs
          refine ⟨⟨fun hf => absurd hf (by decide), (keepB1 (hsB70.blkAt 3 rfl) (hs.blkAt 3 rfl))⟩, ?_⟩
          refine wpG.p 14 9 (.bool r50) (by kernel_rfl) (by kernel_rfl) ?_
          refine wpG.fin (by kernel_rfl) rfl (kr36 _ _ ?_)
          obtain ⟨q0, qr0⟩ := Prod.mk.inj (of_some h)
          obtain ⟨q1, qr1⟩ := Prod.mk.inj (qr0)
          obtain ⟨q2, qr2⟩ := Prod.mk.inj (qr1)
          obtain ⟨q3, qr3⟩ := Prod.mk.inj (qr2)
          obtain ⟨q4, qr4⟩ := Prod.mk.inj (qr3)
          obtain ⟨q5, qr5⟩ := Prod.mk.inj (qr4)
          obtain ⟨q6, qr6⟩ := Prod.mk.inj (qr5)
          obtain ⟨q7, qr7⟩ := Prod.mk.inj (qr6)
          obtain ⟨q8, qr8⟩ := Prod.mk.inj (qr7)
          obtain ⟨q9, qr9⟩ := Prod.mk.inj (qr8)
          obtain ⟨q10, qr10⟩ := Prod.mk.inj (qr9)
          have q11 := qr10
          subst q0
          subst q1
          subst q2
          subst q3
          subst q4
          subst q5
          subst q6
          subst q7
          subst q8
          subst q9
          subst q10
          subst q11
          exact nj _ _ ⟨b44, s47_A, s47_n, s47_c, ((hs.drop (.cons _ (.cons_cons _ (.cons_cons _ (.cons_cons _ (.cons_cons _ (.cons_cons _ (.cons_cons _ (.cons_cons _ .slnil))))))))).pickR (pick_cons 0 rfl (pick_cons 2 rfl (pick_cons 3 rfl (pick_cons 4 rfl (pick_cons 5 rfl pick_nil)))))), exg (by kernel_rfl)⟩
        ·clear hj hs
         rintro a w ⟨b23, y27_A, y27_n, y27_c, hs, g, rfl⟩
         refine then_n (ks35 _ _ ?_)
         obtain ⟨⟨y51_0_0, y51_0_1, y51_0_2, y51_0_3, y51_0_4, y51_0_5, y51_0_6, y51_0_7, y51_2⟩, hj, h⟩ := of_bind h
         refine xseq_k fun KS71 ks71 => wp_join (N := fun a w => St w0 [] [.blk b23 (enc .i32 y24) 40, .ownL (CA .i32 256 (by decide)) z17_A z17_n z17_c z17 40, .blk b15 ([.int .i32 (-1), .int .i32 1023]) 73, .ownL (CI .u8) r14_A r14_n r14_c r14 5, .blk b6 ([.int .i64 y51_0_0, .int .i64 y51_0_1, .int .i32 y51_0_2, .int .i64 y51_0_3, .int .i32 y51_0_4, .int .i32 y51_0_5, .int .i64 y51_0_6, .int .i64 y51_0_7, .slice y27_A y27_n y27_c, .bool y51_2]) 96, .blk b2 ([.slice none 0 0, .slice none 0 0]) 27, .blk b1 ([.int .i64 a0_0, .int .i64 a0_1, .int .i32 a0_2, .int .i64 a0_3, .int .i32 a0_4, .int .i32 a0_5, .int .i64 a0_6, .int .i64 a0_7]) 23] [.rowL (CI .u8) y27_A y27_n y27_c y27, .rowL (CI .u8) z19_A z19_n z19_c z19, .rowL (CI .u8) s13_A s13_n s13_c (subL a1 32 (a1.length : Int)), .rowL (CI .u8) s12_A s12_n s12_c (subL a1 0 32), .rowL (CI .u8) a1_A a1_n a1_c a1] w ∧ ∃ g : Nat → Value, a = ⟨#[.pointer (some ⟨b6, 0, none⟩), .int .i64 a0_0, .agg #[.int .i32 (-1), .int .i32 1023], undef, undef, .pointer (some ⟨b15, 0, none⟩), .slice none 0 0, .slice z17_A z17_n z17_c, .pointer (some ⟨b23, 0, none⟩), .bool y25, .int .i64 a0_0, .int .i64 z16, .bool true, (g 13), (g 14), (g 15), (g 16), (g 17), (g 18), (g 19), (g 20), (g 21), (g 22), (g 23), (g 24), (g 25), (g 26), (g 27), (g 28), (g 29), (g 30), (g 31), (g 32), (g 33), (g 34), (g 35), (g 36), (g 37), (g 38), (g 39), (g 40), undef], []⟩) (fun N nj => ?_) ?_
         ·clear h
          have h := hj
          refine wp_regS (l := [0, 1, 2, 3, 4, 5, 6, 7, 8, 9, 10, 11]) (by kernel_rfl) (by kernel_rfl) fun KR72 kr72 => ?_
          refine wpS.ps [(0, 25, .pointer (some ⟨b6, 0, none⟩)), (1, 26, .pointer (some ⟨b6, 0, none⟩)), (2, 27, .pointer (some ⟨b6, 0, none⟩)), (3, 28, .pointer (some ⟨b6, 9, none⟩))] (by kernel_rfl) ?_
          cases y26_2 with
          | true =>
           have h := of_if_t h
           refine wpS.take 4 true (some 29) (.bool true) (by kernel_rfl) (yld_load1 (e := 4) (o := 9) hs 4 rfl (by kernel_rfl) (by kernel_rfl) (by rfl) .grow) ?_
           refine wpS.ps [(5, 30, .bool true), (6, 31, undef), (7, 32, undef), (8, 33, .bool true), (9, 34, .pointer (some ⟨b6, 0, none⟩)), (10, 35, .pointer (some ⟨b6, 9, none⟩))] (by kernel_rfl) ?_
           refine wpS.only 11 (op_store1 (t := 4) (o := 9) (v := .bool true) (d := none) (by kernel_rfl) hs 4 rfl (by kernel_rfl) rfl (by kernel_rfl) (by simp) ?_)
           intro w kp hs
           refine ⟨fun _ => trivial, ?_⟩
           refine wpS.fin rfl (kr72 _ _ ?_)
           obtain ⟨q0, qr0⟩ := Prod.mk.inj (of_some h)
           obtain ⟨q1, qr1⟩ := Prod.mk.inj (qr0)
           obtain ⟨q2, qr2⟩ := Prod.mk.inj (qr1)
           obtain ⟨q3, qr3⟩ := Prod.mk.inj (qr2)
           obtain ⟨q4, qr4⟩ := Prod.mk.inj (qr3)
           obtain ⟨q5, qr5⟩ := Prod.mk.inj (qr4)
           obtain ⟨q6, qr6⟩ := Prod.mk.inj (qr5)
           obtain ⟨q7, qr7⟩ := Prod.mk.inj (qr6)
           have q8 := qr7
           subst q0
           subst q1
           subst q2
           subst q3
           subst q4
           subst q5
           subst q6
           subst q7
           subst q8
           exact nj _ _ ⟨(hs.conv rfl), exg (by kernel_rfl)⟩
          | false =>
           have h := of_if_f h
           refine wpS.take 4 true (some 29) (.bool false) (by kernel_rfl) (yld_load1 (e := 4) (o := 9) hs 4 rfl (by kernel_rfl) (by kernel_rfl) (by rfl) .grow) ?_
           refine wpS.ps [(5, 30, .bool false), (6, 31, .bool y25), (7, 32, .bool (!y25)), (8, 33, .bool (!y25)), (9, 34, .pointer (some ⟨b6, 0, none⟩)), (10, 35, .pointer (some ⟨b6, 9, none⟩))] (by kernel_rfl) ?_
           obtain ⟨x52, hx, h⟩ := of_bind h
           refine wpS.only 11 (op_store1 (t := 4) (o := 9) (v := .bool x52) (d := none) (by kernel_rfl) hs 4 rfl (by cases hx; kernel_rfl) rfl (by kernel_rfl) (by simp) ?_)
           intro w kp hs
           refine ⟨fun _ => trivial, ?_⟩
           refine wpS.fin rfl (kr72 _ _ ?_)
           obtain ⟨q0, qr0⟩ := Prod.mk.inj (of_some h)
           obtain ⟨q1, qr1⟩ := Prod.mk.inj (qr0)
           obtain ⟨q2, qr2⟩ := Prod.mk.inj (qr1)
           obtain ⟨q3, qr3⟩ := Prod.mk.inj (qr2)
           obtain ⟨q4, qr4⟩ := Prod.mk.inj (qr3)
           obtain ⟨q5, qr5⟩ := Prod.mk.inj (qr4)
           obtain ⟨q6, qr6⟩ := Prod.mk.inj (qr5)
           obtain ⟨q7, qr7⟩ := Prod.mk.inj (qr6)
           have q8 := qr7
           subst q0
           subst q1
           subst q2
           subst q3
           subst q4
           subst q5
           subst q6
           subst q7
           subst q8
           exact nj _ _ ⟨(hs.conv rfl), exg (by kernel_rfl)⟩
         ·clear hj hs
          rintro a w ⟨hs, g, rfl⟩
          refine then_n (ks71 _ _ ?_)
          refine wp_regS (l := [0, 1, 2, 3, 4]) (by kernel_rfl) (by kernel_rfl) fun KR73 kr73 => ?_
          refine wpS.p 0 36 (.slice z17_A z17_n z17_c) (by kernel_rfl) ?_
          refine wpS.take 1 true (some 37) (.agg (enc .i32 y24).toArray) (by kernel_rfl) (yld_loadW (e := 40) (n := 256) hs 0 rfl (by kernel_rfl) (by kernel_rfl) (by kernel_rfl) (by exact enc_len _ _) .grow) ?_
          refine wpS.only 2 (op_litL (C := (CA .i32 256 (by decide))) (t := 25) (e := 40) (len := 1) (parts := #[(0, .agg (enc .i32 y24).toArray)]) (l := [y24]) (d := (some 38)) (by kernel_rfl) hs (by kernel_rfl) rfl (by kernel_rfl) (by kernel_rfl) (z := .agg (enc .i32 (zeroA 256)).toArray) (by kernel_rfl) rfl (by decide) (by decide) ?_)
          intro s53_A s53_n s53_c w gw hs
          refine ⟨fun _ => trivial, ?_⟩
          obtain ⟨h0, h⟩ := of_chk h
          refine wpS.only 3 (op_appendT (C := (CA .i32 256 (by decide))) (t := 25) (ty := 25) (e := 40) (bytes := 1024) (B := 137438953472) (d := (some 39)) (by kernel_rfl) hs 2 rfl (hs.rowL 0 rfl) (by kernel_rfl) (by kernel_rfl) (by kernel_rfl) (by kernel_rfl) (by kernel_rfl) h0 (by decide) (by decide) ?_)
          intro s54_A s54_n s54_c w hs
          refine ⟨fun _ => trivial, ?_⟩
          refine wpS.p 4 7 (.slice s54_A s54_n s54_c) (by kernel_rfl) ?_
          refine wpS.fin rfl (kr73 _ _ ?_)
          refine inBlock_n ?_
          refine then_n (ks34 _ _ ?_)
          refine wp_regS (l := [0, 1]) (by kernel_rfl) (by kernel_rfl) fun KR74 kr74 => ?_
          refine wpS.ps [(0, 40, .int .i64 (iadd .i64 z16 1)), (1, 11, .int .i64 (iadd .i64 z16 1))] (by kernel_rfl) ?_
          refine wpS.fin rfl (kr74 _ _ ?_)
          exact then_n (kl0 _ _ ⟨n, Nat.lt_succ_self n, (iadd .i64 z16 1), (z17 ++ ([y24] : List (Arr 256))), y51_0_0, y51_0_1, y51_0_2, y51_0_3, y51_0_4, y51_0_5, y51_0_6, y51_0_7, y51_2, y27, s54_A, s54_n, s54_c, y27_A, y27_n, y27_c, h, ((hs.drop (.cons _ (.cons _ (.cons_cons _ (.cons_cons _ (.cons_cons _ (.cons_cons _ (.cons_cons _ (.cons_cons _ .slnil))))))))).pickR (pick_cons 0 rfl (pick_cons 2 rfl (pick_cons 3 rfl (pick_cons 4 rfl pick_nil))))), exg (by kernel_rfl)⟩)
       ·refine wpS.take 0 false (some 12) (.bool false) (by kernel_rfl) (yld_b (df hc) (fun _ => by kernel_rfl)) ?_
        refine wpS.fin rfl (kr32 _ _ ?_)
        refine then_n (ks31 _ _ ?_)
        refine xseq_k fun KS75 ks75 => ?_
        refine wp_cond_f (by kernel_rfl) ?_
        refine xexit ?_
        refine then_x ?_
        refine then_x ?_
        refine inBlock_hit ?_
        obtain ⟨q0, qr0⟩ := Prod.mk.inj (of_some h)
        obtain ⟨q1, qr1⟩ := Prod.mk.inj (qr0)
        obtain ⟨q2, qr2⟩ := Prod.mk.inj (qr1)
        obtain ⟨q3, qr3⟩ := Prod.mk.inj (qr2)
        obtain ⟨q4, qr4⟩ := Prod.mk.inj (qr3)
        obtain ⟨q5, qr5⟩ := Prod.mk.inj (qr4)
        obtain ⟨q6, qr6⟩ := Prod.mk.inj (qr5)
        obtain ⟨q7, qr7⟩ := Prod.mk.inj (qr6)
        obtain ⟨q8, qr8⟩ := Prod.mk.inj (qr7)
        obtain ⟨q9, qr9⟩ := Prod.mk.inj (qr8)
        have q10 := qr9
        subst q0
        subst q1
        subst q2
        subst q3
        subst q4
        subst q5
        subst q6
        subst q7
        subst q8
        subst q9
        subst q10
        exact exq_n (nn0 _ _ ⟨z17_A, z17_n, z17_c, z19_A, z19_n, z19_c, (hs.conv rfl), exg (by kernel_rfl)⟩)
     ·clear hs h hy
      rintro a w ⟨y20_A, y20_n, y20_c, y22_A, y22_n, y22_c, hs, g, rfl⟩
      have h := hk0
      refine then_n (ks28 _ _ ?_)
      refine xseq_k fun KS76 ks76 => ?_
      refine wp_regS (l := [0, 1]) (by kernel_rfl) (by kernel_rfl) fun KR77 kr77 => ?_
      refine wpS.ps [(0, 41, .slice y20_A y20_n y20_c), (1, 6, .slice y20_A y20_n y20_c)] (by kernel_rfl) ?_
      refine wpS.fin rfl (kr77 _ _ ?_)
      refine then_n (ks76 _ _ ?_)
      refine xret ?_
      refine qq23 _ _ (post_ret (by kernel_rfl) (run_results [.tmp 6] [.slice y20_A y20_n y20_c] (by kernel_rfl) (.cons (res_tmp (by kernel_rfl)) .nil)) ?_)
      refine kI23 _ _ ?_
      refine ⟨⟨fun hf => absurd hf (by decide), .all _ _⟩, ?_⟩
      refine wpG.p 10 39 (.agg #[.slice r14_A r14_n r14_c, .slice y20_A y20_n y20_c]) (by kernel_rfl) (by kernel_rfl) ?_
      refine wpG.only 11 (by kernel_rfl) (op_storeW (t := 27) (v := .agg #[.slice r14_A r14_n r14_c, .slice y20_A y20_n y20_c]) (d := none) (by kernel_rfl) hs 4 rfl (vs := [.slice r14_A r14_n r14_c, .slice y20_A y20_n y20_c]) (n := 2) (by kernel_rfl) (by kernel_rfl) (by kernel_rfl) (by simp [enc_len]) (by simp [enc_len]) (by simp [Value.oneCell']) ?_)
      intro w kp hs
      refine ⟨⟨fun hf => absurd hf (by decide), .all _ _⟩, ?_⟩
      refine wpG.p 12 5 (.bool true) (by kernel_rfl) (by kernel_rfl) ?_
      refine wpG.fin (by kernel_rfl) rfl (kr13 _ _ ?_)
      obtain ⟨q0, qr0⟩ := Prod.mk.inj (of_some h)
      obtain ⟨q1, qr1⟩ := Prod.mk.inj (qr0)
      obtain ⟨q2, qr2⟩ := Prod.mk.inj (qr1)
      obtain ⟨q3, qr3⟩ := Prod.mk.inj (qr2)
      obtain ⟨q4, qr4⟩ := Prod.mk.inj (qr3)
      obtain ⟨q5, qr5⟩ := Prod.mk.inj (qr4)
      obtain ⟨q6, qr6⟩ := Prod.mk.inj (qr5)
      obtain ⟨q7, qr7⟩ := Prod.mk.inj (qr6)
      obtain ⟨q8, qr8⟩ := Prod.mk.inj (qr7)
      obtain ⟨q9, qr9⟩ := Prod.mk.inj (qr8)
      obtain ⟨q10, qr10⟩ := Prod.mk.inj (qr9)
      have q11 := qr10
      subst q0
      subst q1
      subst q2
      subst q3
      subst q4
      subst q5
      subst q6
      subst q7
      subst q8
      subst q9
      subst q10
      subst q11
      exact nj _ _ ⟨r14_A, r14_n, r14_c, y20_A, y20_n, y20_c, y22_A, y22_n, y22_c, ((hs.drop (.cons_cons _ (.cons _ (.cons_cons _ (.cons_cons _ (.cons_cons _ (.cons_cons _ .slnil))))))).pickR (pick_cons 0 rfl (pick_cons 3 rfl pick_nil))), exg (by kernel_rfl)⟩
    ·refine (op_val (d := (some 36)) (v := .int .i64 a0_0) (by kernel_rfl) (yld_load1 (e := 3) (o := 0) hs 0 rfl (by kernel_rfl) (by kernel_rfl) (by rfl) .grow) ⟨Cl.refl _, ?_⟩)
     refine wpG.only 1 (by kernel_rfl) (op_inline (d := (some 30)) (f := 61) (args := #[.pointer (some ⟨b6, 0, none⟩), .int .i64 32]) (by kernel_rfl) (fun _ => by kernel_rfl) fun R78 kI78 => ?_)
     refine calls_k Try.func61 rfl fun Q78 qq78 => ?_
     refine wp_conv (a' := ⟨#[.pointer (some ⟨b6, 0, none⟩), .int .i64 32, undef, undef, undef, undef, undef, undef, undef, undef, undef, undef, undef, undef, undef, undef, undef, undef, undef, undef, undef, undef, undef], []⟩) (by kernel_rfl) ?_
     refine xseq_k fun KS79 ks79 => ?_
     refine wp_regS (l := [0]) (by kernel_rfl) (by kernel_rfl) fun KR80 kr80 => ?_
     refine wpS.p 0 4 (.slice none 0 0) (by kernel_rfl) ?_
     refine wpS.fin rfl (kr80 _ _ ?_)
     refine then_n (ks79 _ _ ?_)
     refine xseq_k fun KS81 ks81 => ?_
     refine wp_regS (l := [0, 1, 2, 3, 4, 5, 6]) (by kernel_rfl) (by kernel_rfl) fun KR82 kr82 => ?_
     refine wpS.ps [(0, 6, .pointer (some ⟨b6, 0, none⟩)), (1, 7, .pointer (some ⟨b6, 0, none⟩)), (2, 8, .pointer (some ⟨b6, 8, none⟩))] (by kernel_rfl) ?_
     refine wpS.take 3 true (some 9) (.slice a1_A a1_n a1_c) (by kernel_rfl) (yld_load1 (e := 24) (o := 8) hs 0 rfl (by kernel_rfl) (by kernel_rfl) (by rfl) .grow) ?_
     refine wpS.p 4 10 (.int .i64 32) (by kernel_rfl) ?_
     obtain ⟨h0, h⟩ := of_chk h
     obtain ⟨h1, h⟩ := of_chk h
     obtain ⟨h2, h⟩ := of_chk h
     obtain ⟨s55_A, hA⟩ : ∃ A, A = if a1_c = (0 : Int).toNat then a1_A else adr a1_A ((0 : Int).toNat * Cod.size (CI .u8)) := ⟨_, rfl⟩
     obtain ⟨s55_n, hn⟩ : ∃ n, n = (32 : Int).toNat - (0 : Int).toNat := ⟨_, rfl⟩
     obtain ⟨s55_c, hc⟩ : ∃ c, c = a1_c - (0 : Int).toNat := ⟨_, rfl⟩
     refine wpS.take 5 false (some 11) (.slice s55_A s55_n s55_c) (by kernel_rfl) (yld_sub (C := (CI .u8)) (t := 24) (e := 5) (low := none) (high := some (.int .i64 32)) (lo := 0) (hi := 32) (hs.rowR 0 rfl) (by kernel_rfl) (by kernel_rfl) (by kernel_rfl) (.inl ⟨rfl, rfl⟩) (.inr ⟨_, rfl⟩) h0 h1 h2 hA hn hc) ?_
     have hs := hs.addSub (C := (CI .u8)) 0 rfl h0 h1 h2 hA hn hc
     refine wpS.p 6 5 (.slice s55_A s55_n s55_c) (by kernel_rfl) ?_
     refine wpS.fin rfl (kr82 _ _ ?_)
     refine then_n (ks81 _ _ ?_)
     refine xseq_k fun KS83 ks83 => ?_
     refine wp_regS (l := [0, 1, 2, 3, 4, 5, 6, 7, 8, 9]) (by kernel_rfl) (by kernel_rfl) fun KR84 kr84 => ?_
     refine wpS.ps [(0, 12, .pointer (some ⟨b6, 0, none⟩)), (1, 13, .pointer (some ⟨b6, 0, none⟩)), (2, 14, .pointer (some ⟨b6, 0, none⟩)), (3, 15, .pointer (some ⟨b6, 8, none⟩))] (by kernel_rfl) ?_
     refine wpS.take 4 true (some 16) (.slice a1_A a1_n a1_c) (by kernel_rfl) (yld_load1 (e := 24) (o := 8) hs 0 rfl (by kernel_rfl) (by kernel_rfl) (by rfl) .grow) ?_
     refine wpS.p 5 17 (.int .i64 32) (by kernel_rfl) ?_
     obtain ⟨h0, h⟩ := of_chk h
     obtain ⟨h1, h⟩ := of_chk h
     obtain ⟨h2, h⟩ := of_chk h
     obtain ⟨s56_A, hA⟩ : ∃ A, A = if a1_c = (32 : Int).toNat then a1_A else adr a1_A ((32 : Int).toNat * Cod.size (CI .u8)) := ⟨_, rfl⟩
     obtain ⟨s56_n, hn⟩ : ∃ n, n = ((a1.length : Int) : Int).toNat - (32 : Int).toNat := ⟨_, rfl⟩
     obtain ⟨s56_c, hc⟩ : ∃ c, c = a1_c - (32 : Int).toNat := ⟨_, rfl⟩
     refine wpS.take 6 false (some 18) (.slice s56_A s56_n s56_c) (by kernel_rfl) (yld_sub (C := (CI .u8)) (t := 24) (e := 5) (low := some (.int .i64 32)) (high := none) (lo := 32) (hi := (a1.length : Int)) (hs.rowR 1 rfl) (by kernel_rfl) (by kernel_rfl) (by kernel_rfl) (.inr ⟨_, rfl⟩) (.inl ⟨rfl, rfl⟩) h0 h1 h2 hA hn hc) ?_
     have hs := hs.addSub (C := (CI .u8)) 1 rfl h0 h1 h2 hA hn hc
     refine wpS.ps [(7, 19, .pointer (some ⟨b6, 0, none⟩)), (8, 20, .pointer (some ⟨b6, 8, none⟩))] (by kernel_rfl) ?_
     refine wpS.only 9 (op_store1 (t := 24) (o := 8) (v := .slice s56_A s56_n s56_c) (d := none) (by kernel_rfl) hs 0 rfl (by kernel_rfl) rfl (by kernel_rfl) (by simp) ?_)
     intro w kp hs
     refine ⟨fun _ => trivial, ?_⟩
     refine wpS.fin rfl (kr84 _ _ ?_)
     refine then_n (ks83 _ _ ?_)
     refine xseq_k fun KS85 ks85 => ?_
     refine wp_regS (l := [0, 1, 2]) (by kernel_rfl) (by kernel_rfl) fun KR86 kr86 => ?_
     refine wpS.p 0 21 (.slice s55_A s55_n s55_c) (by kernel_rfl) ?_
     obtain ⟨r57, hg, h⟩ := of_bind h
     refine wpS.only 1 (op_callH (d := (some 22)) (by kernel_rfl) hs (fun _ => by kernel_rfl) (slices_Clone_byte_byte.ok hg _ (hs.rowR 1 rfl)) ?_)
     rintro ⟨r57_A, r57_n, r57_c⟩ w gw hs
     have hs := hs.conv (L' := [.ownL (CI .u8) r57_A r57_n r57_c r57 5, .blk b6 ([.int .i64 a0_0, .int .i64 a0_1, .int .i32 a0_2, .int .i64 a0_3, .int .i32 a0_4, .int .i32 a0_5, .int .i64 a0_6, .int .i64 a0_7, .slice s56_A s56_n s56_c, .bool false]) 96, .blk b2 ([.slice none 0 0, .slice none 0 0]) 27, .blk b1 ([.int .i64 a0_0, .int .i64 a0_1, .int .i32 a0_2, .int .i64 a0_3, .int .i32 a0_4, .int .i32 a0_5, .int .i64 a0_6, .int .i64 a0_7]) 23]) rfl
     refine ⟨fun _ => trivial, ?_⟩
     refine wpS.p 2 4 (.slice r57_A r57_n r57_c) (by kernel_rfl) ?_
     refine wpS.fin rfl (kr86 _ _ ?_)
     refine then_n (ks85 _ _ ?_)
     refine xret ?_
     refine qq78 _ _ (post_ret (by kernel_rfl) (run_results [.tmp 4] [.slice r57_A r57_n r57_c] (by kernel_rfl) (.cons (res_tmp (by kernel_rfl)) .nil)) ?_)
     refine kI78 _ _ ?_
     refine ⟨⟨fun hf => absurd hf (by decide), .all _ _⟩, ?_⟩
     refine wpG.only 9 (by kernel_rfl) (op_inline (d := (some 38)) (f := 62) (args := #[.pointer (some ⟨b6, 0, none⟩), .int .i64 a0_0, .agg #[.int .i32 (-1), .int .i32 1023]]) (by kernel_rfl) (fun _ => by kernel_rfl) fun R87 kI87 => ?_)
     refine calls_k Try.func62 rfl fun Q87 qq87 => ?_
     refine wp_conv (a' := ⟨#[.pointer (some ⟨b6, 0, none⟩), .int .i64 a0_0, .agg #[.int .i32 (-1), .int .i32 1023], undef, undef, undef, undef, undef, undef, undef, undef, undef, undef, undef, undef, undef, undef, undef, undef, undef, undef, undef, undef, undef, undef, undef, undef, undef, undef, undef, undef, undef, undef, undef, undef, undef, undef, undef, undef, undef, undef, undef], []⟩) (by kernel_rfl) ?_
     refine xseq_k fun KS88 ks88 => ?_
     refine wp_regS (l := [0, 1]) (by kernel_rfl) (by kernel_rfl) fun KR89 kr89 => ?_
     refine wpS.only 0 (op_box (t := 73) (v := .agg #[.int .i32 (-1), .int .i32 1023]) (d := (some 5)) (by kernel_rfl) hs ([.int .i32 (-1), .int .i32 1023]) (by kernel_rfl) (by kernel_rfl) ?_)
     intro b58 w gw hs
     refine ⟨fun _ => trivial, ?_⟩
     refine wpS.p 1 6 (.slice none 0 0) (by kernel_rfl) ?_
     refine wpS.fin rfl (kr89 _ _ ?_)
     refine then_n (ks88 _ _ ?_)
     refine xseq_k fun KS90 ks90 => ?_
     refine wp_regS (l := [0]) (by kernel_rfl) (by kernel_rfl) fun KR91 kr91 => ?_
     refine wpS.p 0 7 (.slice none 0 0) (by kernel_rfl) ?_
     refine wpS.fin rfl (kr91 _ _ ?_)
     refine then_n (ks90 _ _ ?_)
     refine xseq_k fun KS92 ks92 => ?_
     refine xseq_k fun KS93 ks93 => ?_
     refine wp_regS (l := [0, 1]) (by kernel_rfl) (by kernel_rfl) fun KR94 kr94 => ?_
     refine wpS.ps [(0, 10, .int .i64 a0_0), (1, 11, .int .i64 0)] (by kernel_rfl) ?_
     refine wpS.fin rfl (kr94 _ _ ?_)
     refine then_n (ks93 _ _ ?_)
     have hs := hs.addNilL (CA .i32 256 (by decide)) 40
     obtain ⟨⟨y63, y64_0_0, y64_0_1, y64_0_2, y64_0_3, y64_0_4, y64_0_5, y64_0_6, y64_0_7, y64_2, y65⟩, hy, hk0⟩ := of_bind h
     refine wp_exq (N := fun a w => ∃ (y63_A : Option Addr) (y63_n : Nat) (y63_c : Nat) (y65_A : Option Addr) (y65_n : Nat) (y65_c : Nat), St w0 [] [.ownL (CA .i32 256 (by decide)) y63_A y63_n y63_c y63 40, .blk b58 ([.int .i32 (-1), .int .i32 1023]) 73, .ownL (CI .u8) r57_A r57_n r57_c r57 5, .blk b6 ([.int .i64 y64_0_0, .int .i64 y64_0_1, .int .i32 y64_0_2, .int .i64 y64_0_3, .int .i32 y64_0_4, .int .i32 y64_0_5, .int .i64 y64_0_6, .int .i64 y64_0_7, .slice y65_A y65_n y65_c, .bool y64_2]) 96, .blk b2 ([.slice none 0 0, .slice none 0 0]) 27, .blk b1 ([.int .i64 a0_0, .int .i64 a0_1, .int .i32 a0_2, .int .i64 a0_3, .int .i32 a0_4, .int .i32 a0_5, .int .i64 a0_6, .int .i64 a0_7]) 23] [.rowL (CI .u8) y65_A y65_n y65_c y65, .rowL (CI .u8) s56_A s56_n s56_c (subL a1 32 (a1.length : Int)), .rowL (CI .u8) s55_A s55_n s55_c (subL a1 0 32), .rowL (CI .u8) a1_A a1_n a1_c a1] w ∧ ∃ g : Nat → Value, a = ⟨#[.pointer (some ⟨b6, 0, none⟩), .int .i64 a0_0, .agg #[.int .i32 (-1), .int .i32 1023], undef, undef, .pointer (some ⟨b58, 0, none⟩), .slice none 0 0, .slice y63_A y63_n y63_c, (g 8), (g 9), .int .i64 a0_0, (g 11), (g 12), (g 13), (g 14), (g 15), (g 16), (g 17), (g 18), (g 19), (g 20), (g 21), (g 22), (g 23), (g 24), (g 25), (g 26), (g 27), (g 28), (g 29), (g 30), (g 31), (g 32), (g 33), (g 34), (g 35), (g 36), (g 37), (g 38), (g 39), (g 40), undef], []⟩) (fun N0 nn0 => ?_) ?_
     ·clear hk0
      refine xblock ?_
      refine wp_loop_k (fun n a w => ∃ z59 z60 z61_0_0 z61_0_1 z61_0_2 z61_0_3 z61_0_4 z61_0_5 z61_0_6 z61_0_7 z61_2 z62, ∃ (z60_A : Option Addr) (z60_n : Nat) (z60_c : Nat) (z62_A : Option Addr) (z62_n : Nat) (z62_c : Nat), dpack_UnPublic.l0 K n a0_0 z59 z60 z61_0_0 z61_0_1 z61_0_2 z61_0_3 z61_0_4 z61_0_5 z61_0_6 z61_0_7 z61_2 z62 = some (y63, y64_0_0, y64_0_1, y64_0_2, y64_0_3, y64_0_4, y64_0_5, y64_0_6, y64_0_7, y64_2, y65) ∧ St w0 [] [.ownL (CA .i32 256 (by decide)) z60_A z60_n z60_c z60 40, .blk b58 ([.int .i32 (-1), .int .i32 1023]) 73, .ownL (CI .u8) r57_A r57_n r57_c r57 5, .blk b6 ([.int .i64 z61_0_0, .int .i64 z61_0_1, .int .i32 z61_0_2, .int .i64 z61_0_3, .int .i32 z61_0_4, .int .i32 z61_0_5, .int .i64 z61_0_6, .int .i64 z61_0_7, .slice z62_A z62_n z62_c, .bool z61_2]) 96, .blk b2 ([.slice none 0 0, .slice none 0 0]) 27, .blk b1 ([.int .i64 a0_0, .int .i64 a0_1, .int .i32 a0_2, .int .i64 a0_3, .int .i32 a0_4, .int .i32 a0_5, .int .i64 a0_6, .int .i64 a0_7]) 23] [.rowL (CI .u8) z62_A z62_n z62_c z62, .rowL (CI .u8) s56_A s56_n s56_c (subL a1 32 (a1.length : Int)), .rowL (CI .u8) s55_A s55_n s55_c (subL a1 0 32), .rowL (CI .u8) a1_A a1_n a1_c a1] w ∧ ∃ g : Nat → Value, a = ⟨#[.pointer (some ⟨b6, 0, none⟩), .int .i64 a0_0, .agg #[.int .i32 (-1), .int .i32 1023], undef, undef, .pointer (some ⟨b58, 0, none⟩), .slice none 0 0, .slice z60_A z60_n z60_c, (g 8), (g 9), .int .i64 a0_0, .int .i64 z59, (g 12), (g 13), (g 14), (g 15), (g 16), (g 17), (g 18), (g 19), (g 20), (g 21), (g 22), (g 23), (g 24), (g 25), (g 26), (g 27), (g 28), (g 29), (g 30), (g 31), (g 32), (g 33), (g 34), (g 35), (g 36), (g 37), (g 38), (g 39), (g 40), undef], []⟩) K ⟨0, ([] : List (Arr 256)), a0_0, a0_1, a0_2, a0_3, a0_4, a0_5, a0_6, a0_7, false, (subL a1 32 (a1.length : Int)), none, 0, 0, s56_A, s56_n, s56_c, hy, (hs.conv (L' := [.ownL (CA .i32 256 (by decide)) none 0 0 ([] : List (Arr 256)) 40, .blk b58 ([.int .i32 (-1), .int .i32 1023]) 73, .ownL (CI .u8) r57_A r57_n r57_c r57 5, .blk b6 ([.int .i64 a0_0, .int .i64 a0_1, .int .i32 a0_2, .int .i64 a0_3, .int .i32 a0_4, .int .i32 a0_5, .int .i64 a0_6, .int .i64 a0_7, .slice s56_A s56_n s56_c, .bool false]) 96, .blk b2 ([.slice none 0 0, .slice none 0 0]) 27, .blk b1 ([.int .i64 a0_0, .int .i64 a0_1, .int .i32 a0_2, .int .i64 a0_3, .int .i32 a0_4, .int .i32 a0_5, .int .i64 a0_6, .int .i64 a0_7]) 23]) rfl).pickR (pick_cons 0 rfl (pick_cons 0 rfl (pick_cons 1 rfl (pick_cons 2 rfl pick_nil)))), exg (by kernel_rfl)⟩ ?_
      clear hs h hy
      rintro n a w ⟨z59, z60, z61_0_0, z61_0_1, z61_0_2, z61_0_3, z61_0_4, z61_0_5, z61_0_6, z61_0_7, z61_2, z62, z60_A, z60_n, z60_c, z62_A, z62_n, z62_c, h, hs, g, rfl⟩ KL0 kl0
      cases n with
      | zero => exact nomatch (show none = some _ from h)
      | succ n =>
       refine xseq_k fun KS95 ks95 => ?_
       refine wp_regS (l := [0]) (by kernel_rfl) (by kernel_rfl) fun KR96 kr96 => ?_
       rcases of_if h with ⟨hc, h⟩ | ⟨hc, h⟩
       ·refine wpS.take 0 false (some 12) (.bool true) (by kernel_rfl) (yld_b (dt hc) (fun _ => by kernel_rfl)) ?_
        refine wpS.fin rfl (kr96 _ _ ?_)
        refine then_n (ks95 _ _ ?_)
        refine xseq_k fun KS97 ks97 => ?_
        refine wp_cond_t (by kernel_rfl) ?_
        refine xskip ?_
        refine then_n (ks97 _ _ ?_)
        refine xseq_k fun KS98 ks98 => ?_
        refine xblock ?_
        refine xseq_k fun KS99 ks99 => ?_
        obtain ⟨⟨y67, y68, y69_0_0, y69_0_1, y69_0_2, y69_0_3, y69_0_4, y69_0_5, y69_0_6, y69_0_7, y69_2, y70⟩, hj, h⟩ := of_bind h
        refine wp_join (N := fun a w => ∃ (b66 : Nat) (y70_A : Option Addr) (y70_n : Nat) (y70_c : Nat), St w0 [] [.blk b66 (enc .i32 y67) 40, .ownL (CA .i32 256 (by decide)) z60_A z60_n z60_c z60 40, .blk b58 ([.int .i32 (-1), .int .i32 1023]) 73, .ownL (CI .u8) r57_A r57_n r57_c r57 5, .blk b6 ([.int .i64 y69_0_0, .int .i64 y69_0_1, .int .i32 y69_0_2, .int .i64 y69_0_3, .int .i32 y69_0_4, .int .i32 y69_0_5, .int .i64 y69_0_6, .int .i64 y69_0_7, .slice y70_A y70_n y70_c, .bool y69_2]) 96, .blk b2 ([.slice none 0 0, .slice none 0 0]) 27, .blk b1 ([.int .i64 a0_0, .int .i64 a0_1, .int .i32 a0_2, .int .i64 a0_3, .int .i32 a0_4, .int .i32 a0_5, .int .i64 a0_6, .int .i64 a0_7]) 23] [.rowL (CI .u8) y70_A y70_n y70_c y70, .rowL (CI .u8) z62_A z62_n z62_c z62, .rowL (CI .u8) s56_A s56_n s56_c (subL a1 32 (a1.length : Int)), .rowL (CI .u8) s55_A s55_n s55_c (subL a1 0 32), .rowL (CI .u8) a1_A a1_n a1_c a1] w ∧ ∃ g : Nat → Value, a = ⟨#[.pointer (some ⟨b6, 0, none⟩), .int .i64 a0_0, .agg #[.int .i32 (-1), .int .i32 1023], undef, undef, .pointer (some ⟨b58, 0, none⟩), .slice none 0 0, .slice z60_A z60_n z60_c, .pointer (some ⟨b66, 0, none⟩), .bool y68, .int .i64 a0_0, .int .i64 z59, .bool true, (g 13), (g 14), (g 15), (g 16), (g 17), (g 18), (g 19), (g 20), (g 21), (g 22), (g 23), (g 24), (g 25), (g 26), (g 27), (g 28), (g 29), (g 30), (g 31), (g 32), (g 33), (g 34), (g 35), (g 36), (g 37), (g 38), (g 39), (g 40), undef], []⟩) (fun N nj => ?_) ?_
        ·clear h
         have h := hj
         refine wp_regG [3, 13] (fun k => ¬ k = b58) 15 (by kernel_rfl) (by kernel_rfl) (by kernel_rfl) fun KR100 kr100 => ?_
         have hs := hs.drawn1
         refine wpG.takeD 0 false (some 14) (.pointer (some ⟨b6, 0, none⟩)) (by kernel_rfl) (by kernel_rfl) (yld fun _ => by kernel_rfl) ?_
         refine wpG.take [1, 2, 3, 8, 9, 10, 11, 13, 14] 1 true (some 15) (.agg #[.int .i32 (-1), .int .i32 1023]) (by kernel_rfl) (by kernel_rfl) (yld_loadW (e := 73) (n := 2) hs 1 rfl (by kernel_rfl) (by kernel_rfl) (by kernel_rfl) (by simp [enc_len]) .grow) ?_
         refine wpG.takeD 4 false (some 18) (.pointer (some ⟨b58, 0, none⟩)) (by kernel_rfl) (by kernel_rfl) (yld fun _ => by kernel_rfl) ?_
         refine wpG.takeK [5, 8, 9, 10, 11, 13, 14] 5 (some 19) (.int .i32 (-1)) (by kernel_rfl) (by kernel_rfl) (yld_load1 (e := 21) (o := 0) hs 1 rfl (by kernel_rfl) (by kernel_rfl) (by rfl) (.keep (fun hn => hn rfl))) ?_
         refine wpG.takeD 6 false (some 20) (.pointer (some ⟨b58, 1, none⟩)) (by kernel_rfl) (by kernel_rfl) (yld fun _ => by kernel_rfl) ?_
         refine wpG.takeK [7, 8, 9, 10, 11, 13, 14] 7 (some 21) (.int .i32 1023) (by kernel_rfl) (by kernel_rfl) (yld_load1 (e := 21) (o := 1) hs 1 rfl (by kernel_rfl) (by kernel_rfl) (by rfl) (.keep (fun hn => hn rfl))) ?_
         refine wpG.many [2, 12] (by kernel_rfl) (by decide) (forall_cons ?_ (forall_cons ?_ forall_nil))
         ·obtain ⟨r71, hg, h⟩ := of_bind h
          refine (op_call (d := (some 16)) (by kernel_rfl) hs (fun _ => by kernel_rfl) (dpack_span_size.ok hg _) ?_)
          intro w gw hs
          refine ⟨.of gw, ?_⟩
          refine wpG.many [3, 12] (by kernel_rfl) (by decide) (forall_cons ?_ (forall_cons ?_ forall_nil))
          ·have hsB102 := hs
           refine (op_inline (d := (some 17)) (f := 61) (args := #[.pointer (some ⟨b6, 0, none⟩), .int .i64 r71]) (by kernel_rfl) (fun _ => by kernel_rfl) fun R101 kI101 => ?_)
           refine calls_k Try.func61 rfl fun Q101 qq101 => ?_
           refine wp_conv (a' := ⟨#[.pointer (some ⟨b6, 0, none⟩), .int .i64 r71, undef, undef, undef, undef, undef, undef, undef, undef, undef, undef, undef, undef, undef, undef, undef, undef, undef, undef, undef, undef, undef], []⟩) (by kernel_rfl) ?_
           refine xseq_k fun KS103 ks103 => ?_
           refine wp_regS (l := [0]) (by kernel_rfl) (by kernel_rfl) fun KR104 kr104 => ?_
           refine wpS.p 0 4 (.slice none 0 0) (by kernel_rfl) ?_
           refine wpS.fin rfl (kr104 _ _ ?_)
           refine then_n (ks103 _ _ ?_)
           refine xseq_k fun KS105 ks105 => ?_
           refine wp_regS (l := [0, 1, 2, 3, 4, 5, 6]) (by kernel_rfl) (by kernel_rfl) fun KR106 kr106 => ?_
           refine wpS.ps [(0, 6, .pointer (some ⟨b6, 0, none⟩)), (1, 7, .pointer (some ⟨b6, 0, none⟩)), (2, 8, .pointer (some ⟨b6, 8, none⟩))] (by kernel_rfl) ?_
           refine wpS.take 3 true (some 9) (.slice z62_A z62_n z62_c) (by kernel_rfl) (yld_load1 (e := 24) (o := 8) hs 3 rfl (by kernel_rfl) (by kernel_rfl) (by rfl) .grow) ?_
           refine wpS.p 4 10 (.int .i64 r71) (by kernel_rfl) ?_
           obtain ⟨h0, h⟩ := of_chk h
           obtain ⟨h1, h⟩ := of_chk h
           obtain ⟨h2, h⟩ := of_chk h
           obtain ⟨s72_A, hA⟩ : ∃ A, A = if z62_c = (0 : Int).toNat then z62_A else adr z62_A ((0 : Int).toNat * Cod.size (CI .u8)) := ⟨_, rfl⟩
           obtain ⟨s72_n, hn⟩ : ∃ n, n = (r71 : Int).toNat - (0 : Int).toNat := ⟨_, rfl⟩
           obtain ⟨s72_c, hc⟩ : ∃ c, c = z62_c - (0 : Int).toNat := ⟨_, rfl⟩
           refine wpS.take 5 false (some 11) (.slice s72_A s72_n s72_c) (by kernel_rfl) (yld_sub (C := (CI .u8)) (t := 24) (e := 5) (low := none) (high := some (.int .i64 r71)) (lo := 0) (hi := r71) (hs.rowR 0 rfl) (by kernel_rfl) (by kernel_rfl) (by kernel_rfl) (.inl ⟨rfl, rfl⟩) (.inr ⟨_, rfl⟩) h0 h1 h2 hA hn hc) ?_
           have hs := hs.addSub (C := (CI .u8)) 0 rfl h0 h1 h2 hA hn hc
           refine wpS.p 6 5 (.slice s72_A s72_n s72_c) (by kernel_rfl) ?_
           refine wpS.fin rfl (kr106 _ _ ?_)
           refine then_n (ks105 _ _ ?_)
           refine xseq_k fun KS107 ks107 => ?_
           refine wp_regS (l := [0, 1, 2, 3, 4, 5, 6, 7, 8, 9]) (by kernel_rfl) (by kernel_rfl) fun KR108 kr108 => ?_
           refine wpS.ps [(0, 12, .pointer (some ⟨b6, 0, none⟩)), (1, 13, .pointer (some ⟨b6, 0, none⟩)), (2, 14, .pointer (some ⟨b6, 0, none⟩)), (3, 15, .pointer (some ⟨b6, 8, none⟩))] (by kernel_rfl) ?_
           refine wpS.take 4 true (some 16) (.slice z62_A z62_n z62_c) (by kernel_rfl) (yld_load1 (e := 24) (o := 8) hs 3 rfl (by kernel_rfl) (by kernel_rfl) (by rfl) .grow) ?_
           refine wpS.p 5 17 (.int .i64 r71) (by kernel_rfl) ?_
           obtain ⟨h0, h⟩ := of_chk h
           obtain ⟨h1, h⟩ := of_chk h
           obtain ⟨h2, h⟩ := of_chk h
           obtain ⟨s73_A, hA⟩ : ∃ A, A = if z62_c = (r71 : Int).toNat then z62_A else adr z62_A ((r71 : Int).toNat * Cod.size (CI .u8)) := ⟨_, rfl⟩
           obtain ⟨s73_n, hn⟩ : ∃ n, n = ((z62.length : Int) : Int).toNat - (r71 : Int).toNat := ⟨_, rfl⟩
           obtain ⟨s73_c, hc⟩ : ∃ c, c = z62_c - (r71 : Int).toNat := ⟨_, rfl⟩
           refine wpS.take 6 false (some 18) (.slice s73_A s73_n s73_c) (by kernel_rfl) (yld_sub (C := (CI .u8)) (t := 24) (e := 5) (low := some (.int .i64 r71)) (high := none) (lo := r71) (hi := (z62.length : Int)) (hs.rowR 1 rfl) (by kernel_rfl) (by kernel_rfl) (by kernel_rfl) (.inr ⟨_, rfl⟩) (.inl ⟨rfl, rfl⟩) h0 h1 h2 hA hn hc) ?_
           have hs := hs.addSub (C := (CI .u8)) 1 rfl h0 h1 h2 hA hn hc
           refine wpS.ps [(7, 19, .pointer (some ⟨b6, 0, none⟩)), (8, 20, .pointer (some ⟨b6, 8, none⟩))] (by kernel_rfl) ?_
           refine wpS.only 9 (op_store1 (t := 24) (o := 8) (v := .slice s73_A s73_n s73_c) (d := none) (by kernel_rfl) hs 3 rfl (by kernel_rfl) rfl (by kernel_rfl) (by simp) ?_)
           intro w kp hs
           refine ⟨fun _ => trivial, ?_⟩
           refine wpS.fin rfl (kr108 _ _ ?_)
           refine then_n (ks107 _ _ ?_)
           refine xseq_k fun KS109 ks109 => ?_
           refine wp_regS (l := [0, 1, 2]) (by kernel_rfl) (by kernel_rfl) fun KR110 kr110 => ?_
           refine wpS.p 0 21 (.slice s72_A s72_n s72_c) (by kernel_rfl) ?_
           obtain ⟨r74, hg, h⟩ := of_bind h
           refine wpS.only 1 (op_callH (d := (some 22)) (by kernel_rfl) hs (fun _ => by kernel_rfl) (slices_Clone_byte_byte.ok hg _ (hs.rowR 1 rfl)) ?_)
           rintro ⟨r74_A, r74_n, r74_c⟩ w gw hs
           have hs := hs.conv (L' := [.ownL (CI .u8) r74_A r74_n r74_c r74 5, .ownL (CA .i32 256 (by decide)) z60_A z60_n z60_c z60 40, .blk b58 ([.int .i32 (-1), .int .i32 1023]) 73, .ownL (CI .u8) r57_A r57_n r57_c r57 5, .blk b6 ([.int .i64 z61_0_0, .int .i64 z61_0_1, .int .i32 z61_0_2, .int .i64 z61_0_3, .int .i32 z61_0_4, .int .i32 z61_0_5, .int .i64 z61_0_6, .int .i64 z61_0_7, .slice s73_A s73_n s73_c, .bool z61_2]) 96, .blk b2 ([.slice none 0 0, .slice none 0 0]) 27, .blk b1 ([.int .i64 a0_0, .int .i64 a0_1, .int .i32 a0_2, .int .i64 a0_3, .int .i32 a0_4, .int .i32 a0_5, .int .i64 a0_6, .int .i64 a0_7]) 23]) rfl
           refine ⟨fun _ => trivial, ?_⟩
           refine wpS.p 2 4 (.slice r74_A r74_n r74_c) (by kernel_rfl) ?_
           refine wpS.fin rfl (kr110 _ _ ?_)
           refine then_n (ks109 _ _ ?_)
           refine xret ?_
           refine qq101 _ _ (post_ret (by kernel_rfl) (run_results [.tmp 4] [.slice r74_A r74_n r74_c] (by kernel_rfl) (.cons (res_tmp (by kernel_rfl)) .nil)) ?_)
           refine kI101 _ _ ?_
           refine ⟨⟨fun hf => absurd hf (by decide), (keepB1 (hsB102.blkAt 1 rfl) (hs.blkAt 2 rfl))⟩, ?_⟩
           refine wpG.many [8, 12] (by kernel_rfl) (by decide) (forall_cons ?_ (forall_cons ?_ forall_nil))
           ·obtain ⟨⟨r75, r76⟩, hg, h⟩ := of_bind h
            refine (op_call (d := (some 22)) (by kernel_rfl) hs (fun _ => by kernel_rfl) (dpack_Unpack.ok hg _ (hs.rowL 0 rfl)) ?_)
            intro w gw hs
            refine ⟨.of gw, ?_⟩
            refine wpG.p 9 13 (.tuple #[.agg (enc .i32 r75).toArray, .bool r76]) (by kernel_rfl) (by kernel_rfl) ?_
            refine wpG.p 10 23 (.agg (enc .i32 r75).toArray) (by kernel_rfl) (by kernel_rfl) ?_
            refine wpG.p 11 24 (.bool r76) (by kernel_rfl) (by kernel_rfl) ?_
            refine wpG.only 12 (by kernel_rfl) (op_alloc (t := 40) (d := (some 8)) (by kernel_rfl) hs (enc .i32 (zeroA 256)) (.agg (enc .i32 (zeroA 256)).toArray) (by kernel_rfl) (by kernel_rfl) (by kernel_rfl) ?_)
            intro b77 w gw hs
            refine ⟨.of gw, ?_⟩
            have hsB111 := hs
            refine wpG.only 13 (by kernel_rfl) (op_storeW (t := 40) (v := .agg (enc .i32 r75).toArray) (d := none) (by kernel_rfl) hs 0 rfl (vs := enc .i32 r75) (n := 256) (by kernel_rfl) (by kernel_rfl) (by kernel_rfl) (by simp [enc_len]) (by simp [enc_len]) (by intro u hu; exact enc_one _ _ u hu) ?_)
            intro w kp hs
            refine ⟨⟨fun hf => absurd hf (by decide), (keepB1 (hsB111.blkAt 3 rfl) (hs.blkAt 3 rfl))⟩, ?_⟩
            refine wpG.p 14 9 (.bool r76) (by kernel_rfl) (by kernel_rfl) ?_
            refine wpG.fin (by kernel_rfl) rfl (kr100 _ _ ?_)
            obtain ⟨q0, qr0⟩ := Prod.mk.inj (of_some h)
            obtain ⟨q1, qr1⟩ := Prod.mk.inj (qr0)
            obtain ⟨q2, qr2⟩ := Prod.mk.inj (qr1)
            obtain ⟨q3, qr3⟩ := Prod.mk.inj (qr2)
            obtain ⟨q4, qr4⟩ := Prod.mk.inj (qr3)
            obtain ⟨q5, qr5⟩ := Prod.mk.inj (qr4)
            obtain ⟨q6, qr6⟩ := Prod.mk.inj (qr5)
            obtain ⟨q7, qr7⟩ := Prod.mk.inj (qr6)
            obtain ⟨q8, qr8⟩ := Prod.mk.inj (qr7)
            obtain ⟨q9, qr9⟩ := Prod.mk.inj (qr8)
            obtain ⟨q10, qr10⟩ := Prod.mk.inj (qr9)
            have q11 := qr10
            subst q0
            subst q1
            subst q2
            subst q3
            subst q4
            subst q5
            subst q6
            subst q7
            subst q8
            subst q9
            subst q10
            subst q11
            exact nj _ _ ⟨b77, s73_A, s73_n, s73_c, ((hs.drop (.cons_cons _ (.cons _ (.cons_cons _ (.cons_cons _ (.cons_cons _ (.cons_cons _ (.cons_cons _ (.cons_cons _ .slnil))))))))).pickR (pick_cons 0 rfl (pick_cons 2 rfl (pick_cons 3 rfl (pick_cons 4 rfl (pick_cons 5 rfl pick_nil)))))), exg (by kernel_rfl)⟩
           ·refine (op_alloc (t := 40) (d := (some 8)) (by kernel_rfl) hs (enc .i32 (zeroA 256)) (.agg (enc .i32 (zeroA 256)).toArray) (by kernel_rfl) (by kernel_rfl) (by kernel_rfl) ?_)
            intro b78 w gw hs
            refine ⟨.of gw, ?_⟩
            obtain ⟨⟨r79, r80⟩, hg, h⟩ := of_bind h
            refine wpG.only 8 (by kernel_rfl) (op_call (d := (some 22)) (by kernel_rfl) hs (fun _ => by kernel_rfl) (dpack_Unpack.ok hg _ (hs.rowL 1 rfl)) ?_)
            intro w gw hs
            refine ⟨.of gw, ?_⟩
            refine wpG.p 9 13 (.tuple #[.agg (enc .i32 r79).toArray, .bool r80]) (by kernel_rfl) (by kernel_rfl) ?_
            refine wpG.p 10 23 (.agg (enc .i32 r79).toArray) (by kernel_rfl) (by kernel_rfl) ?_
            refine wpG.p 11 24 (.bool r80) (by kernel_rfl) (by kernel_rfl) ?_
            have hsB112 := hs
            refine wpG.only 13 (by kernel_rfl) (op_storeW (t := 40) (v := .agg (enc .i32 r79).toArray) (d := none) (by kernel_rfl) hs 0 rfl (vs := enc .i32 r79) (n := 256) (by kernel_rfl) (by kernel_rfl) (by kernel_rfl) (by simp [enc_len]) (by simp [enc_len]) (by intro u hu; exact enc_one _ _ u hu) ?_)
            intro w kp hs
            refine ⟨⟨fun hf => absurd hf (by decide), (keepB1 (hsB112.blkAt 3 rfl) (hs.blkAt 3 rfl))⟩, ?_⟩
            refine wpG.p 14 9 (.bool r80) (by kernel_rfl) (by kernel_rfl) ?_
            refine wpG.fin (by kernel_rfl) rfl (kr100 _ _ ?_)
            obtain ⟨q0, qr0⟩ := Prod.mk.inj (of_some h)
            obtain ⟨q1, qr1⟩ := Prod.mk.inj (qr0)
            obtain ⟨q2, qr2⟩ := Prod.mk.inj (qr1)
            obtain ⟨q3, qr3⟩ := Prod.mk.inj (qr2)
            obtain ⟨q4, qr4⟩ := Prod.mk.inj (qr3)
            obtain ⟨q5, qr5⟩ := Prod.mk.inj (qr4)
            obtain ⟨q6, qr6⟩ := Prod.mk.inj (qr5)
            obtain ⟨q7, qr7⟩ := Prod.mk.inj (qr6)
            obtain ⟨q8, qr8⟩ := Prod.mk.inj (qr7)
            obtain ⟨q9, qr9⟩ := Prod.mk.inj (qr8)
            obtain ⟨q10, qr10⟩ := Prod.mk.inj (qr9)
            have q11 := qr10
            subst q0
            subst q1
            subst q2
            subst q3
            subst q4
            subst q5
            subst q6
            subst q7
            subst q8
            subst q9
            subst q10
            subst q11
            exact nj _ _ ⟨b78, s73_A, s73_n, s73_c, ((hs.drop (.cons_cons _ (.cons _ (.cons_cons _ (.cons_cons _ (.cons_cons _ (.cons_cons _ (.cons_cons _ (.cons_cons _ .slnil))))))))).pickR (pick_cons 0 rfl (pick_cons 2 rfl (pick_cons 3 rfl (pick_cons 4 rfl (pick_cons 5 rfl pick_nil)))))), exg (by kernel_rfl)⟩
          ·refine (op_alloc (t := 40) (d := (some 8)) (by kernel_rfl) hs (enc .i32 (zeroA 256)) (.agg (enc .i32 (zeroA 256)).toArray) (by kernel_rfl) (by kernel_rfl) (by kernel_rfl) ?_)
           intro b81 w gw hs
           refine ⟨.of gw, ?_⟩
           have hsB114 := hs
           refine wpG.only 3 (by kernel_rfl) (op_inline (d := (some 17)) (f := 61) (args := #[.pointer (some ⟨b6, 0, none⟩), .int .i64 r71]) (by kernel_rfl) (fun _ => by kernel_rfl) fun R113 kI113 => ?_)
           refine calls_k Try.func61 rfl fun Q113 qq113 => ?_
           refine wp_conv (a' := ⟨#[.pointer (some ⟨b6, 0, none⟩), .int .i64 r71, undef, undef, undef, undef, undef, undef, undef, undef, undef, undef, undef, undef, undef, undef, undef, undef, undef, undef, undef, undef, undef], []⟩) (by kernel_rfl) ?_
           refine xseq_k fun KS115 ks115 => ?_
           refine wp_regS (l := [0]) (by kernel_rfl) (by kernel_rfl) fun KR116 kr116 => ?_
           refine wpS.p 0 4 (.slice none 0 0) (by kernel_rfl) ?_
           refine wpS.fin rfl (kr116 _ _ ?_)
           refine then_n (ks115 _ _ ?_)
           refine xseq_k fun KS117 ks117 => ?_
           refine wp_regS (l := [0, 1, 2, 3, 4, 5, 6]) (by kernel_rfl) (by kernel_rfl) fun KR118 kr118 => ?_
           refine wpS.ps [(0, 6, .pointer (some ⟨b6, 0, none⟩)), (1, 7, .pointer (some ⟨b6, 0, none⟩)), (2, 8, .pointer (some ⟨b6, 8, none⟩))] (by kernel_rfl) ?_
           refine wpS.take 3 true (some 9) (.slice z62_A z62_n z62_c) (by kernel_rfl) (yld_load1 (e := 24) (o := 8) hs 4 rfl (by kernel_rfl) (by kernel_rfl) (by rfl) .grow) ?_
           refine wpS.p 4 10 (.int .i64 r71) (by kernel_rfl) ?_
           obtain ⟨h0, h⟩ := of_chk h
           obtain ⟨h1, h⟩ := of_chk h
           obtain ⟨h2, h⟩ := of_chk h
           obtain ⟨s82_A, hA⟩ : ∃ A, A = if z62_c = (0 : Int).toNat then z62_A else adr z62_A ((0 : Int).toNat * Cod.size (CI .u8)) := ⟨_, rfl⟩
           obtain ⟨s82_n, hn⟩ : ∃ n, n = (r71 : Int).toNat - (0 : Int).toNat := ⟨_, rfl⟩
           obtain ⟨s82_c, hc⟩ : ∃ c, c = z62_c - (0 : Int).toNat := ⟨_, rfl⟩
           refine wpS.take 5 false (some 11) (.slice s82_A s82_n s82_c) (by kernel_rfl) (yld_sub (C := (CI .u8)) (t := 24) (e := 5) (low := none) (high := some (.int .i64 r71)) (lo := 0) (hi := r71) (hs.rowR 0 rfl) (by kernel_rfl) (by kernel_rfl) (by kernel_rfl) (.inl ⟨rfl, rfl⟩) (.inr ⟨_, rfl⟩) h0 h1 h2 hA hn hc) ?_
           have hs := hs.addSub (C := (CI .u8)) 0 rfl h0 h1 h2 hA hn hc
           refine wpS.p 6 5 (.slice s82_A s82_n s82_c) (by kernel_rfl) ?_
           refine wpS.fin rfl (kr118 _ _ ?_)
           refine then_n (ks117 _ _ ?_)
           refine xseq_k fun KS119 ks119 => ?_
           refine wp_regS (l := [0, 1, 2, 3, 4, 5, 6, 7, 8, 9]) (by kernel_rfl) (by kernel_rfl) fun KR120 kr120 => ?_
           refine wpS.ps [(0, 12, .pointer (some ⟨b6, 0, none⟩)), (1, 13, .pointer (some ⟨b6, 0, none⟩)), (2, 14, .pointer (some ⟨b6, 0, none⟩)), (3, 15, .pointer (some ⟨b6, 8, none⟩))] (by kernel_rfl) ?_
           refine wpS.take 4 true (some 16) (.slice z62_A z62_n z62_c) (by kernel_rfl) (yld_load1 (e := 24) (o := 8) hs 4 rfl (by kernel_rfl) (by kernel_rfl) (by rfl) .grow) ?_
           refine wpS.p 5 17 (.int .i64 r71) (by kernel_rfl) ?_
           obtain ⟨h0, h⟩ := of_chk h
           obtain ⟨h1, h⟩ := of_chk h
           obtain ⟨h2, h⟩ := of_chk h
           obtain ⟨s83_A, hA⟩ : ∃ A, A = if z62_c = (r71 : Int).toNat then z62_A else adr z62_A ((r71 : Int).toNat * Cod.size (CI .u8)) := ⟨_, rfl⟩
           obtain ⟨s83_n, hn⟩ : ∃ n, n = ((z62.length : Int) : Int).toNat - (r71 : Int).toNat := ⟨_, rfl⟩
           obtain ⟨s83_c, hc⟩ : ∃ c, c = z62_c - (r71 : Int).toNat := ⟨_, rfl⟩
           refine wpS.take 6 false (some 18) (.slice s83_A s83_n s83_c) (by kernel_rfl) (yld_sub (C := (CI .u8)) (t := 24) (e := 5) (low := some (.int .i64 r71)) (high := none) (lo := r71) (hi := (z62.length : Int)) (hs.rowR 1 rfl) (by kernel_rfl) (by kernel_rfl) (by kernel_rfl) (.inr ⟨_, rfl⟩) (.inl ⟨rfl, rfl⟩) h0 h1 h2 hA hn hc) ?_
           have hs := hs.addSub (C := (CI .u8)) 1 rfl h0 h1 h2 hA hn hc
           refine wpS.ps [(7, 19, .pointer (some ⟨b6, 0, none⟩)), (8, 20, .pointer (some ⟨b6, 8, none⟩))] (by kernel_rfl) ?_
           refine wpS.only 9 (op_store1 (t := 24) (o := 8) (v := .slice s83_A s83_n s83_c) (d := none) (by kernel_rfl) hs 4 rfl (by kernel_rfl) rfl (by kernel_rfl) (by simp) ?_)
           intro w kp hs
           refine ⟨fun _ => trivial, ?_⟩
           refine wpS.fin rfl (kr120 _ _ ?_)
           refine then_n (ks119 _ _ ?_)
           refine xseq_k fun KS121 ks121 => ?_
           refine wp_regS (l := [0, 1, 2]) (by kernel_rfl) (by kernel_rfl) fun KR122 kr122 => ?_
           refine wpS.p 0 21 (.slice s82_A s82_n s82_c) (by kernel_rfl) ?_
           obtain ⟨r84, hg, h⟩ := of_bind h
           refine wpS.only 1 (op_callH (d := (some 22)) (by kernel_rfl) hs (fun _ => by kernel_rfl) (slices_Clone_byte_byte.ok hg _ (hs.rowR 1 rfl)) ?_)
           rintro ⟨r84_A, r84_n, r84_c⟩ w gw hs
           have hs := hs.conv (L' := [.ownL (CI .u8) r84_A r84_n r84_c r84 5, .blk b81 (enc .i32 (zeroA 256)) 40, .ownL (CA .i32 256 (by decide)) z60_A z60_n z60_c z60 40, .blk b58 ([.int .i32 (-1), .int .i32 1023]) 73, .ownL (CI .u8) r57_A r57_n r57_c r57 5, .blk b6 ([.int .i64 z61_0_0, .int .i64 z61_0_1, .int .i32 z61_0_2, .int .i64 z61_0_3, .int .i32 z61_0_4, .int .i32 z61_0_5, .int .i64 z61_0_6, .int .i64 z61_0_7, .slice s83_A s83_n s83_c, .bool z61_2]) 96, .blk b2 ([.slice none 0 0, .slice none 0 0]) 27, .blk b1 ([.int .i64 a0_0, .int .i64 a0_1, .int .i32 a0_2, .int .i64 a0_3, .int .i32 a0_4, .int .i32 a0_5, .int .i64 a0_6, .int .i64 a0_7]) 23]) rfl
           refine ⟨fun _ => trivial, ?_⟩
           refine wpS.p 2 4 (.slice r84_A r84_n r84_c) (by kernel_rfl) ?_
           refine wpS.fin rfl (kr122 _ _ ?_)
           refine then_n (ks121 _ _ ?_)
           refine xret ?_
           refine qq113 _ _ (post_ret (by kernel_rfl) (run_results [.tmp 4] [.slice r84_A r84_n r84_c] (by kernel_rfl) (.cons (res_tmp (by kernel_rfl)) .nil)) ?_)
           refine kI113 _ _ ?_
           refine ⟨⟨fun hf => absurd hf (by decide), (keepB1 (hsB114.blkAt 2 rfl) (hs.blkAt 3 rfl))⟩, ?_⟩
           obtain ⟨⟨r85, r86⟩, hg, h⟩ := of_bind h
           refine wpG.only 8 (by kernel_rfl) (op_call (d := (some 22)) (by kernel_rfl) hs (fun _ => by kernel_rfl) (dpack_Unpack.ok hg _ (hs.rowL 0 rfl)) ?_)
           intro w gw hs
           refine ⟨.of gw, ?_⟩
           refine wpG.p 9 13 (.tuple #[.agg (enc .i32 r85).toArray, .bool r86]) (by kernel_rfl) (by kernel_rfl) ?_
           refine wpG.p 10 23 (.agg (enc .i32 r85).toArray) (by kernel_rfl) (by kernel_rfl) ?_
           refine wpG.p 11 24 (.bool r86) (by kernel_rfl) (by kernel_rfl) ?_
           have hsB123 := hs
           refine wpG.only 13 (by kernel_rfl) (op_storeW (t := 40) (v := .agg (enc .i32 r85).toArray) (d := none) (by kernel_rfl) hs 1 rfl (vs := enc .i32 r85) (n := 256) (by kernel_rfl) (by kernel_rfl) (by kernel_rfl) (by simp [enc_len]) (by simp [enc_len]) (by intro u hu; exact enc_one _ _ u hu) ?_)
           intro w kp hs
           refine ⟨⟨fun hf => absurd hf (by decide), (keepB1 (hsB123.blkAt 3 rfl) (hs.blkAt 3 rfl))⟩, ?_⟩
           refine wpG.p 14 9 (.bool r86) (by kernel_rfl) (by kernel_rfl) ?_
           refine wpG.fin (by kernel_rfl) rfl (kr100 _ _ ?_)
           obtain ⟨q0, qr0⟩ := Prod.mk.inj (of_some h)
           obtain ⟨q1, qr1⟩ := Prod.mk.inj (qr0)
           obtain ⟨q2, qr2⟩ := Prod.mk.inj (qr1)
           obtain ⟨q3, qr3⟩ := Prod.mk.inj (qr2)
           obtain ⟨q4, qr4⟩ := Prod.mk.inj (qr3)
           obtain ⟨q5, qr5⟩ := Prod.mk.inj (qr4)
           obtain ⟨q6, qr6⟩ := Prod.mk.inj (qr5)
           obtain ⟨q7, qr7⟩ := Prod.mk.inj (qr6)
           obtain ⟨q8, qr8⟩ := Prod.mk.inj (qr7)
           obtain ⟨q9, qr9⟩ := Prod.mk.inj (qr8)
           obtain ⟨q10, qr10⟩ := Prod.mk.inj (qr9)
           have q11 := qr10
           subst q0
           subst q1
           subst q2
           subst q3
           subst q4
           subst q5
           subst q6
           subst q7
           subst q8
           subst q9
           subst q10
           subst q11
           exact nj _ _ ⟨b81, s83_A, s83_n, s83_c, ((hs.drop (.cons _ (.cons_cons _ (.cons_cons _ (.cons_cons _ (.cons_cons _ (.cons_cons _ (.cons_cons _ (.cons_cons _ .slnil))))))))).pickR (pick_cons 0 rfl (pick_cons 2 rfl (pick_cons 3 rfl (pick_cons 4 rfl (pick_cons 5 rfl pick_nil)))))), exg (by kernel_rfl)⟩
         ·refine (op_alloc (t := 40) (d := (some 8)) (by kernel_rfl) hs (enc .i32 (zeroA 256)) (.agg (enc .i32 (zeroA 256)).toArray) (by kernel_rfl) (by kernel_rfl) (by kernel_rfl) ?_)
          intro b87 w gw hs
          refine ⟨.of gw, ?_⟩
          obtain ⟨r88, hg, h⟩ := of_bind h
          refine wpG.only 2 (by kernel_rfl) (op_call (d := (some 16)) (by kernel_rfl) hs (fun _ => by kernel_rfl) (dpack_span_size.ok hg _) ?_)
          intro w gw hs
          refine ⟨.of gw, ?_⟩
          have hsB125 := hs
          refine wpG.only 3 (by kernel_rfl) (op_inline (d := (some 17)) (f := 61) (args := #[.pointer (some ⟨b6, 0, none⟩), .int .i64 r88]) (by kernel_rfl) (fun _ => by kernel_rfl) fun R124 kI124 => ?_)
          refine calls_k Try.func61 rfl fun Q124 qq124 => ?_
          refine wp_conv (a' := ⟨#[.pointer (some ⟨b6, 0, none⟩), .int .i64 r88, undef, undef, undef, undef, undef, undef, undef, undef, undef, undef, undef, undef, undef, undef, undef, undef, undef, undef, undef, undef, undef], []⟩) (by kernel_rfl) ?_
          refine xseq_k fun KS126 ks126 => ?_
          refine wp_regS (l := [0]) (by kernel_rfl) (by kernel_rfl) fun KR127 kr127 => ?_
          refine wpS.p 0 4 (.slice none 0 0) (by kernel_rfl) ?_
          refine wpS.fin rfl (kr127 _ _ ?_)
          refine then_n (ks126 _ _ ?_)
          refine xseq_k fun KS128 ks128 => ?_
          refine wp_regS (l := [0, 1, 2, 3, 4, 5, 6]) (by kernel_rfl) (by kernel_rfl) fun KR129 kr129 => ?_
          refine wpS.ps [(0, 6, .pointer (some ⟨b6, 0, none⟩)), (1, 7, .pointer (some ⟨b6, 0, none⟩)), (2, 8, .pointer (some ⟨b6, 8, none⟩))] (by kernel_rfl) ?_
          refine wpS.take 3 true (some 9) (.slice z62_A z62_n z62_c) (by kernel_rfl) (yld_load1 (e := 24) (o := 8) hs 4 rfl (by kernel_rfl) (by kernel_rfl) (by rfl) .grow) ?_
          refine wpS.p 4 10 (.int .i64 r88) (by kernel_rfl) ?_
          obtain ⟨h0, h⟩ := of_chk h
          obtain ⟨h1, h⟩ := of_chk h
          obtain ⟨h2, h⟩ := of_chk h
          obtain ⟨s89_A, hA⟩ : ∃ A, A = if z62_c = (0 : Int).toNat then z62_A else adr z62_A ((0 : Int).toNat * Cod.size (CI .u8)) := ⟨_, rfl⟩
          obtain ⟨s89_n, hn⟩ : ∃ n, n = (r88 : Int).toNat - (0 : Int).toNat := ⟨_, rfl⟩
          obtain ⟨s89_c, hc⟩ : ∃ c, c = z62_c - (0 : Int).toNat := ⟨_, rfl⟩
          refine wpS.take 5 false (some 11) (.slice s89_A s89_n s89_c) (by kernel_rfl) (yld_sub (C := (CI .u8)) (t := 24) (e := 5) (low := none) (high := some (.int .i64 r88)) (lo := 0) (hi := r88) (hs.rowR 0 rfl) (by kernel_rfl) (by kernel_rfl) (by kernel_rfl) (.inl ⟨rfl, rfl⟩) (.inr ⟨_, rfl⟩) h0 h1 h2 hA hn hc) ?_
          have hs := hs.addSub (C := (CI .u8)) 0 rfl h0 h1 h2 hA hn hc
          refine wpS.p 6 5 (.slice s89_A s89_n s89_c) (by kernel_rfl) ?_
          refine wpS.fin rfl (kr129 _ _ ?_)
          refine then_n (ks128 _ _ ?_)
          refine xseq_k fun KS130 ks130 => ?_
          refine wp_regS (l := [0, 1, 2, 3, 4, 5, 6, 7, 8, 9]) (by kernel_rfl) (by kernel_rfl) fun KR131 kr131 => ?_
          refine wpS.ps [(0, 12, .pointer (some ⟨b6, 0, none⟩)), (1, 13, .pointer (some ⟨b6, 0, none⟩)), (2, 14, .pointer (some ⟨b6, 0, none⟩)), (3, 15, .pointer (some ⟨b6, 8, none⟩))] (by kernel_rfl) ?_
          refine wpS.take 4 true (some 16) (.slice z62_A z62_n z62_c) (by kernel_rfl) (yld_load1 (e := 24) (o := 8) hs 4 rfl (by kernel_rfl) (by kernel_rfl) (by rfl) .grow) ?_
          refine wpS.p 5 17 (.int .i64 r88) (by kernel_rfl) ?_
          obtain ⟨h0, h⟩ := of_chk h
          obtain ⟨h1, h⟩ := of_chk h
          obtain ⟨h2, h⟩ := of_chk h
          obtain ⟨s90_A, hA⟩ : ∃ A, A = if z62_c = (r88 : Int).toNat then z62_A else adr z62_A ((r88 : Int).toNat * Cod.size (CI .u8)) := ⟨_, rfl⟩
          obtain ⟨s90_n, hn⟩ : ∃ n, n = ((z62.length : Int) : Int).toNat - (r88 : Int).toNat := ⟨_, rfl⟩
          obtain ⟨s90_c, hc⟩ : ∃ c, c = z62_c - (r88 : Int).toNat := ⟨_, rfl⟩
          refine wpS.take 6 false (some 18) (.slice s90_A s90_n s90_c) (by kernel_rfl) (yld_sub (C := (CI .u8)) (t := 24) (e := 5) (low := some (.int .i64 r88)) (high := none) (lo := r88) (hi := (z62.length : Int)) (hs.rowR 1 rfl) (by kernel_rfl) (by kernel_rfl) (by kernel_rfl) (.inr ⟨_, rfl⟩) (.inl ⟨rfl, rfl⟩) h0 h1 h2 hA hn hc) ?_
          have hs := hs.addSub (C := (CI .u8)) 1 rfl h0 h1 h2 hA hn hc
          refine wpS.ps [(7, 19, .pointer (some ⟨b6, 0, none⟩)), (8, 20, .pointer (some ⟨b6, 8, none⟩))] (by kernel_rfl) ?_
          refine wpS.only 9 (op_store1 (t := 24) (o := 8) (v := .slice s90_A s90_n s90_c) (d := none) (by kernel_rfl) hs 4 rfl (by kernel_rfl) rfl (by kernel_rfl) (by simp) ?_)
          intro w kp hs
          refine ⟨fun _ => trivial, ?_⟩
          refine wpS.fin rfl (kr131 _ _ ?_)
          refine then_n (ks130 _ _ ?_)
          refine xseq_k fun KS132 ks132 => ?_
          refine wp_regS (l := [0, 1, 2]) (by kernel_rfl) (by kernel_rfl) fun KR133 kr133 => ?_
          refine wpS.p 0 21 (.slice s89_A s89_n s89_c) (by kernel_rfl) ?_
          obtain ⟨r91, hg, h⟩ := of_bind h
          refine wpS.only 1 (op_callH (d := (some 22)) (by kernel_rfl) hs (fun _ => by kernel_rfl) (slices_Clone_byte_byte.ok hg _ (hs.rowR 1 rfl)) ?_)
          rintro ⟨r91_A, r91_n, r91_c⟩ w gw hs
          have hs := hs.conv (L' := [.ownL (CI .u8) r91_A r91_n r91_c r91 5, .blk b87 (enc .i32 (zeroA 256)) 40, .ownL (CA .i32 256 (by decide)) z60_A z60_n z60_c z60 40, .blk b58 ([.int .i32 (-1), .int .i32 1023]) 73, .ownL (CI .u8) r57_A r57_n r57_c r57 5, .blk b6 ([.int .i64 z61_0_0, .int .i64 z61_0_1, .int .i32 z61_0_2, .int .i64 z61_0_3, .int .i32 z61_0_4, .int .i32 z61_0_5, .int .i64 z61_0_6, .int .i64 z61_0_7, .slice s90_A s90_n s90_c, .bool z61_2]) 96, .blk b2 ([.slice none 0 0, .slice none 0 0]) 27, .blk b1 ([.int .i64 a0_0, .int .i64 a0_1, .int .i32 a0_2, .int .i64 a0_3, .int .i32 a0_4, .int .i32 a0_5, .int .i64 a0_6, .int .i64 a0_7]) 23]) rfl
          refine ⟨fun _ => trivial, ?_⟩
          refine wpS.p 2 4 (.slice r91_A r91_n r91_c) (by kernel_rfl) ?_
          refine wpS.fin rfl (kr133 _ _ ?_)
          refine then_n (ks132 _ _ ?_)
          refine xret ?_
          refine qq124 _ _ (post_ret (by kernel_rfl) (run_results [.tmp 4] [.slice r91_A r91_n r91_c] (by kernel_rfl) (.cons (res_tmp (by kernel_rfl)) .nil)) ?_)
          refine kI124 _ _ ?_
          refine ⟨⟨fun hf => absurd hf (by decide), (keepB1 (hsB125.blkAt 2 rfl) (hs.blkAt 3 rfl))⟩, ?_⟩
          obtain ⟨⟨r92, r93⟩, hg, h⟩ := of_bind h
          refine wpG.only 8 (by kernel_rfl) (op_call (d := (some 22)) (by kernel_rfl) hs (fun _ => by kernel_rfl) (dpack_Unpack.ok hg _ (hs.rowL 0 rfl)) ?_)
          intro w gw hs
          refine ⟨.of gw, ?_⟩
          refine wpG.p 9 13 (.tuple #[.agg (enc .i32 r92).toArray, .bool r93]) (by kernel_rfl) (by kernel_rfl) ?_
          refine wpG.p 10 23 (.agg (enc .i32 r92).toArray) (by kernel_rfl) (by kernel_rfl) ?_
          refine wpG.p 11 24 (.bool r93) (by kernel_rfl) (by kernel_rfl) ?_
          have hsB134 := hs
          refine wpG.only 13 (by kernel_rfl) (op_storeW (t := 40) (v := .agg (enc .i32 r92).toArray) (d := none) (by kernel_rfl) hs 1 rfl (vs := enc .i32 r92) (n := 256) (by kernel_rfl) (by kernel_rfl) (by kernel_rfl) (by simp [enc_len]) (by simp [enc_len]) (by intro u hu; exact enc_one _ _ u hu) ?_)
          intro w kp hs
          refine ⟨⟨fun hf => absurd hf (by decide), (keepB1 (hsB134.blkAt 3 rfl) (hs.blkAt 3 rfl))⟩, ?_⟩
          refine wpG.p 14 9 (.bool r93) (by kernel_rfl) (by kernel_rfl) ?_
          refine wpG.fin (by kernel_rfl) rfl (kr100 _ _ ?_)
          obtain ⟨q0, qr0⟩ := Prod.mk.inj (of_some h)
          obtain ⟨q1, qr1⟩ := Prod.mk.inj (qr0)
          obtain ⟨q2, qr2⟩ := Prod.mk.inj (qr1)
          obtain ⟨q3, qr3⟩ := Prod.mk.inj (qr2)
          obtain ⟨q4, qr4⟩ := Prod.mk.inj (qr3)
          obtain ⟨q5, qr5⟩ := Prod.mk.inj (qr4)
          obtain ⟨q6, qr6⟩ := Prod.mk.inj (qr5)
          obtain ⟨q7, qr7⟩ := Prod.mk.inj (qr6)
          obtain ⟨q8, qr8⟩ := Prod.mk.inj (qr7)
          obtain ⟨q9, qr9⟩ := Prod.mk.inj (qr8)
          obtain ⟨q10, qr10⟩ := Prod.mk.inj (qr9)
          have q11 := qr10
          subst q0
          subst q1
          subst q2
          subst q3
          subst q4
          subst q5
          subst q6
          subst q7
          subst q8
          subst q9
          subst q10
          subst q11
          exact nj _ _ ⟨b87, s90_A, s90_n, s90_c, ((hs.drop (.cons _ (.cons_cons _ (.cons_cons _ (.cons_cons _ (.cons_cons _ (.cons_cons _ (.cons_cons _ (.cons_cons _ .slnil))))))))).pickR (pick_cons 0 rfl (pick_cons 2 rfl (pick_cons 3 rfl (pick_cons 4 rfl (pick_cons 5 rfl pick_nil)))))), exg (by kernel_rfl)⟩
        ·clear hj hs
         rintro a w ⟨b66, y70_A, y70_n, y70_c, hs, g, rfl⟩
         refine then_n (ks99 _ _ ?_)
         obtain ⟨⟨y94_0_0, y94_0_1, y94_0_2, y94_0_3, y94_0_4, y94_0_5, y94_0_6, y94_0_7, y94_2⟩, hj, h⟩ := of_bind h
         refine xseq_k fun KS135 ks135 => wp_join (N := fun a w => St w0 [] [.blk b66 (enc .i32 y67) 40, .ownL (CA .i32 256 (by decide)) z60_A z60_n z60_c z60 40, .blk b58 ([.int .i32 (-1), .int .i32 1023]) 73, .ownL (CI .u8) r57_A r57_n r57_c r57 5, .blk b6 ([.int .i64 y94_0_0, .int .i64 y94_0_1, .int .i32 y94_0_2, .int .i64 y94_0_3, .int .i32 y94_0_4, .int .i32 y94_0_5, .int .i64 y94_0_6, .int .i64 y94_0_7, .slice y70_A y70_n y70_c, .bool y94_2]) 96, .blk b2 ([.slice none 0 0, .slice none 0 0]) 27, .blk b1 ([.int .i64 a0_0, .int .i64 a0_1, .int .i32 a0_2, .int .i64 a0_3, .int .i32 a0_4, .int .i32 a0_5, .int .i64 a0_6, .int .i64 a0_7]) 23] [.rowL (CI .u8) y70_A y70_n y70_c y70, .rowL (CI .u8) z62_A z62_n z62_c z62, .rowL (CI .u8) s56_A s56_n s56_c (subL a1 32 (a1.length : Int)), .rowL (CI .u8) s55_A s55_n s55_c (subL a1 0 32), .rowL (CI .u8) a1_A a1_n a1_c a1] w ∧ ∃ g : Nat → Value, a = ⟨#[.pointer (some ⟨b6, 0, none⟩), .int .i64 a0_0, .agg #[.int .i32 (-1), .int .i32 1023], undef, undef, .pointer (some ⟨b58, 0, none⟩), .slice none 0 0, .slice z60_A z60_n z60_c, .pointer (some ⟨b66, 0, none⟩), .bool y68, .int .i64 a0_0, .int .i64 z59, .bool true, (g 13), (g 14), (g 15), (g 16), (g 17), (g 18), (g 19), (g 20), (g 21), (g 22), (g 23), (g 24), (g 25), (g 26), (g 27), (g 28), (g 29), (g 30), (g 31), (g 32), (g 33), (g 34), (g 35), (g 36), (g 37), (g 38), (g 39), (g 40), undef], []⟩) (fun N nj => ?_) ?_
         ·clear h
          have h := hj
          refine wp_regS (l := [0, 1, 2, 3, 4, 5, 6, 7, 8, 9, 10, 11]) (by kernel_rfl) (by kernel_rfl) fun KR136 kr136 => ?_
          refine wpS.ps [(0, 25, .pointer (some ⟨b6, 0, none⟩)), (1, 26, .pointer (some ⟨b6, 0, none⟩)), (2, 27, .pointer (some ⟨b6, 0, none⟩)), (3, 28, .pointer (some ⟨b6, 9, none⟩))] (by kernel_rfl) ?_
          cases y69_2 with
          | true =>
           have h := of_if_t h
           refine wpS.take 4 true (some 29) (.bool true) (by kernel_rfl) (yld_load1 (e := 4) (o := 9) hs 4 rfl (by kernel_rfl) (by kernel_rfl) (by rfl) .grow) ?_
           refine wpS.ps [(5, 30, .bool true), (6, 31, undef), (7, 32, undef), (8, 33, .bool true), (9, 34, .pointer (some ⟨b6, 0, none⟩)), (10, 35, .pointer (some ⟨b6, 9, none⟩))] (by kernel_rfl) ?_
           refine wpS.only 11 (op_store1 (t := 4) (o := 9) (v := .bool true) (d := none) (by kernel_rfl) hs 4 rfl (by kernel_rfl) rfl (by kernel_rfl) (by simp) ?_)
           intro w kp hs
           refine ⟨fun _ => trivial, ?_⟩
           refine wpS.fin rfl (kr136 _ _ ?_)
           obtain ⟨q0, qr0⟩ := Prod.mk.inj (of_some h)
           obtain ⟨q1, qr1⟩ := Prod.mk.inj (qr0)
           obtain ⟨q2, qr2⟩ := Prod.mk.inj (qr1)
           obtain ⟨q3, qr3⟩ := Prod.mk.inj (qr2)
           obtain ⟨q4, qr4⟩ := Prod.mk.inj (qr3)
           obtain ⟨q5, qr5⟩ := Prod.mk.inj (qr4)
           obtain ⟨q6, qr6⟩ := Prod.mk.inj (qr5)
           obtain ⟨q7, qr7⟩ := Prod.mk.inj (qr6)
           have q8 := qr7
           subst q0
           subst q1
           subst q2
           subst q3
           subst q4
           subst q5
           subst q6
           subst q7
           subst q8
           exact nj _ _ ⟨(hs.conv rfl), exg (by kernel_rfl)⟩
          | false =>
           have h := of_if_f h
           refine wpS.take 4 true (some 29) (.bool false) (by kernel_rfl) (yld_load1 (e := 4) (o := 9) hs 4 rfl (by kernel_rfl) (by kernel_rfl) (by rfl) .grow) ?_
           refine wpS.ps [(5, 30, .bool false), (6, 31, .bool y68), (7, 32, .bool (!y68)), (8, 33, .bool (!y68)), (9, 34, .pointer (some ⟨b6, 0, none⟩)), (10, 35, .pointer (some ⟨b6, 9, none⟩))] (by kernel_rfl) ?_
           obtain ⟨x95, hx, h⟩ := of_bind h
           refine wpS.only 11 (op_store1 (t := 4) (o := 9) (v := .bool x95) (d := none) (by kernel_rfl) hs 4 rfl (by cases hx; kernel_rfl) rfl (by kernel_rfl) (by simp) ?_)
           intro w kp hs
           refine ⟨fun _ => trivial, ?_⟩
           refine wpS.fin rfl (kr136 _ _ ?_)
           obtain ⟨q0, qr0⟩ := Prod.mk.inj (of_some h)
           obtain ⟨q1, qr1⟩ := Prod.mk.inj (qr0)
           obtain ⟨q2, qr2⟩ := Prod.mk.inj (qr1)
           obtain ⟨q3, qr3⟩ := Prod.mk.inj (qr2)
           obtain ⟨q4, qr4⟩ := Prod.mk.inj (qr3)
           obtain ⟨q5, qr5⟩ := Prod.mk.inj (qr4)
           obtain ⟨q6, qr6⟩ := Prod.mk.inj (qr5)
           obtain ⟨q7, qr7⟩ := Prod.mk.inj (qr6)
           have q8 := qr7
           subst q0
           subst q1
           subst q2
           subst q3
           subst q4
           subst q5
           subst q6
           subst q7
           subst q8
           exact nj _ _ ⟨(hs.conv rfl), exg (by kernel_rfl)⟩
         ·clear hj hs
          rintro a w ⟨hs, g, rfl⟩
          refine then_n (ks135 _ _ ?_)
          refine wp_regS (l := [0, 1, 2, 3, 4]) (by kernel_rfl) (by kernel_rfl) fun KR137 kr137 => ?_
          refine wpS.p 0 36 (.slice z60_A z60_n z60_c) (by kernel_rfl) ?_
          refine wpS.take 1 true (some 37) (.agg (enc .i32 y67).toArray) (by kernel_rfl) (yld_loadW (e := 40) (n := 256) hs 0 rfl (by kernel_rfl) (by kernel_rfl) (by kernel_rfl) (by exact enc_len _ _) .grow) ?_
          refine wpS.only 2 (op_litL (C := (CA .i32 256 (by decide))) (t := 25) (e := 40) (len := 1) (parts := #[(0, .agg (enc .i32 y67).toArray)]) (l := [y67]) (d := (some 38)) (by kernel_rfl) hs (by kernel_rfl) rfl (by kernel_rfl) (by kernel_rfl) (z := .agg (enc .i32 (zeroA 256)).toArray) (by kernel_rfl) rfl (by decide) (by decide) ?_)
          intro s96_A s96_n s96_c w gw hs
          refine ⟨fun _ => trivial, ?_⟩
          obtain ⟨h0, h⟩ := of_chk h
          refine wpS.only 3 (op_appendT (C := (CA .i32 256 (by decide))) (t := 25) (ty := 25) (e := 40) (bytes := 1024) (B := 137438953472) (d := (some 39)) (by kernel_rfl) hs 2 rfl (hs.rowL 0 rfl) (by kernel_rfl) (by kernel_rfl) (by kernel_rfl) (by kernel_rfl) (by kernel_rfl) h0 (by decide) (by decide) ?_)
          intro s97_A s97_n s97_c w hs
          refine ⟨fun _ => trivial, ?_⟩
          refine wpS.p 4 7 (.slice s97_A s97_n s97_c) (by kernel_rfl) ?_
          refine wpS.fin rfl (kr137 _ _ ?_)
          refine inBlock_n ?_
          refine then_n (ks98 _ _ ?_)
          refine wp_regS (l := [0, 1]) (by kernel_rfl) (by kernel_rfl) fun KR138 kr138 => ?_
          refine wpS.ps [(0, 40, .int .i64 (iadd .i64 z59 1)), (1, 11, .int .i64 (iadd .i64 z59 1))] (by kernel_rfl) ?_
          refine wpS.fin rfl (kr138 _ _ ?_)
          exact then_n (kl0 _ _ ⟨n, Nat.lt_succ_self n, (iadd .i64 z59 1), (z60 ++ ([y67] : List (Arr 256))), y94_0_0, y94_0_1, y94_0_2, y94_0_3, y94_0_4, y94_0_5, y94_0_6, y94_0_7, y94_2, y70, s97_A, s97_n, s97_c, y70_A, y70_n, y70_c, h, ((hs.drop (.cons _ (.cons _ (.cons_cons _ (.cons_cons _ (.cons_cons _ (.cons_cons _ (.cons_cons _ (.cons_cons _ .slnil))))))))).pickR (pick_cons 0 rfl (pick_cons 2 rfl (pick_cons 3 rfl (pick_cons 4 rfl pick_nil))))), exg (by kernel_rfl)⟩)
       ·refine wpS.take 0 false (some 12) (.bool false) (by kernel_rfl) (yld_b (df hc) (fun _ => by kernel_rfl)) ?_
        refine wpS.fin rfl (kr96 _ _ ?_)
        refine then_n (ks95 _ _ ?_)
        refine xseq_k fun KS139 ks139 => ?_
        refine wp_cond_f (by kernel_rfl) ?_
        refine xexit ?_
        refine then_x ?_
        refine then_x ?_
        refine inBlock_hit ?_
        obtain ⟨q0, qr0⟩ := Prod.mk.inj (of_some h)
        obtain ⟨q1, qr1⟩ := Prod.mk.inj (qr0)
        obtain ⟨q2, qr2⟩ := Prod.mk.inj (qr1)
        obtain ⟨q3, qr3⟩ := Prod.mk.inj (qr2)
        obtain ⟨q4, qr4⟩ := Prod.mk.inj (qr3)
        obtain ⟨q5, qr5⟩ := Prod.mk.inj (qr4)
        obtain ⟨q6, qr6⟩ := Prod.mk.inj (qr5)
        obtain ⟨q7, qr7⟩ := Prod.mk.inj (qr6)
        obtain ⟨q8, qr8⟩ := Prod.mk.inj (qr7)
        obtain ⟨q9, qr9⟩ := Prod.mk.inj (qr8)
        have q10 := qr9
        subst q0
        subst q1
        subst q2
        subst q3
        subst q4
        subst q5
        subst q6
        subst q7
        subst q8
        subst q9
        subst q10
        exact exq_n (nn0 _ _ ⟨z60_A, z60_n, z60_c, z62_A, z62_n, z62_c, (hs.conv rfl), exg (by kernel_rfl)⟩)
     ·clear hs h hy
      rintro a w ⟨y63_A, y63_n, y63_c, y65_A, y65_n, y65_c, hs, g, rfl⟩
      have h := hk0
      refine then_n (ks92 _ _ ?_)
      refine xseq_k fun KS140 ks140 => ?_
      refine wp_regS (l := [0, 1]) (by kernel_rfl) (by kernel_rfl) fun KR141 kr141 => ?_
      refine wpS.ps [(0, 41, .slice y63_A y63_n y63_c), (1, 6, .slice y63_A y63_n y63_c)] (by kernel_rfl) ?_
      refine wpS.fin rfl (kr141 _ _ ?_)
      refine then_n (ks140 _ _ ?_)
      refine xret ?_
      refine qq87 _ _ (post_ret (by kernel_rfl) (run_results [.tmp 6] [.slice y63_A y63_n y63_c] (by kernel_rfl) (.cons (res_tmp (by kernel_rfl)) .nil)) ?_)
      refine kI87 _ _ ?_
      refine ⟨⟨fun hf => absurd hf (by decide), .all _ _⟩, ?_⟩
      refine wpG.p 10 39 (.agg #[.slice r57_A r57_n r57_c, .slice y63_A y63_n y63_c]) (by kernel_rfl) (by kernel_rfl) ?_
      refine wpG.only 11 (by kernel_rfl) (op_storeW (t := 27) (v := .agg #[.slice r57_A r57_n r57_c, .slice y63_A y63_n y63_c]) (d := none) (by kernel_rfl) hs 4 rfl (vs := [.slice r57_A r57_n r57_c, .slice y63_A y63_n y63_c]) (n := 2) (by kernel_rfl) (by kernel_rfl) (by kernel_rfl) (by simp [enc_len]) (by simp [enc_len]) (by simp [Value.oneCell']) ?_)
      intro w kp hs
      refine ⟨⟨fun hf => absurd hf (by decide), .all _ _⟩, ?_⟩
      refine wpG.p 12 5 (.bool true) (by kernel_rfl) (by kernel_rfl) ?_
      refine wpG.fin (by kernel_rfl) rfl (kr13 _ _ ?_)
      obtain ⟨q0, qr0⟩ := Prod.mk.inj (of_some h)
      obtain ⟨q1, qr1⟩ := Prod.mk.inj (qr0)
      obtain ⟨q2, qr2⟩ := Prod.mk.inj (qr1)
      obtain ⟨q3, qr3⟩ := Prod.mk.inj (qr2)
      obtain ⟨q4, qr4⟩ := Prod.mk.inj (qr3)
      obtain ⟨q5, qr5⟩ := Prod.mk.inj (qr4)
      obtain ⟨q6, qr6⟩ := Prod.mk.inj (qr5)
      obtain ⟨q7, qr7⟩ := Prod.mk.inj (qr6)
      obtain ⟨q8, qr8⟩ := Prod.mk.inj (qr7)
      obtain ⟨q9, qr9⟩ := Prod.mk.inj (qr8)
      obtain ⟨q10, qr10⟩ := Prod.mk.inj (qr9)
      have q11 := qr10
      subst q0
      subst q1
      subst q2
      subst q3
      subst q4
      subst q5
      subst q6
      subst q7
      subst q8
      subst q9
      subst q10
      subst q11
      exact nj _ _ ⟨r57_A, r57_n, r57_c, y63_A, y63_n, y63_c, y65_A, y65_n, y65_c, ((hs.drop (.cons_cons _ (.cons _ (.cons_cons _ (.cons_cons _ (.cons_cons _ (.cons_cons _ .slnil))))))).pickR (pick_cons 0 rfl (pick_cons 3 rfl pick_nil))), exg (by kernel_rfl)⟩
   ·clear hj hs
    rintro a w ⟨y9_A, y9_n, y9_c, y10_A, y10_n, y10_c, y11_A, y11_n, y11_c, hs, g, rfl⟩
    refine then_n (ks12 _ _ ?_)
    refine xret ?_
    obtain ⟨q0, qr0⟩ := Prod.mk.inj (of_some h)
    obtain ⟨q1, qr1⟩ := Prod.mk.inj (qr0)
    have q2 := qr1
    subst q0
    subst q1
    subst q2
    have hs := (hs.front 0 rfl).conv (L' := [.ownL (CA .i32 256 (by decide)) y10_A y10_n y10_c y10 40, .ownL (CI .u8) y9_A y9_n y9_c y9 5, .blk b6 ([.int .i64 y7_0_0, .int .i64 y7_0_1, .int .i32 y7_0_2, .int .i64 y7_0_3, .int .i32 y7_0_4, .int .i32 y7_0_5, .int .i64 y7_0_6, .int .i64 y7_0_7, .slice y11_A y11_n y11_c, .bool y7_2]) 96, .blk b2 ([.slice y9_A y9_n y9_c, .slice y10_A y10_n y10_c]) 27, .blk b1 ([.int .i64 a0_0, .int .i64 a0_1, .int .i32 a0_2, .int .i64 a0_3, .int .i32 a0_4, .int .i32 a0_5, .int .i64 a0_6, .int .i64 a0_7]) 23]) rfl
    have hs := (hs.front 1 rfl).conv (L' := [.ownL (CI .u8) y9_A y9_n y9_c y9 5, .ownL (CA .i32 256 (by decide)) y10_A y10_n y10_c y10 40, .blk b6 ([.int .i64 y7_0_0, .int .i64 y7_0_1, .int .i32 y7_0_2, .int .i64 y7_0_3, .int .i32 y7_0_4, .int .i32 y7_0_5, .int .i64 y7_0_6, .int .i64 y7_0_7, .slice y11_A y11_n y11_c, .bool y7_2]) 96, .blk b2 ([.slice y9_A y9_n y9_c, .slice y10_A y10_n y10_c]) 27, .blk b1 ([.int .i64 a0_0, .int .i64 a0_1, .int .i32 a0_2, .int .i64 a0_3, .int .i32 a0_4, .int .i32 a0_5, .int .i64 a0_6, .int .i64 a0_7]) 23]) rfl
    exact qq _ _ (post_ret (by kernel_rfl) (run_results [.cell 4 27, .tmp 5] [.agg #[.slice y9_A y9_n y9_c, .slice y10_A y10_n y10_c], .bool true] (by kernel_rfl) (.cons (res_cellN (n := 2) hs 3 rfl (by kernel_rfl) (by kernel_rfl) (by kernel_rfl) (by simp [enc_len])) (.cons (res_tmp (by kernel_rfl)) .nil))) ⟨⟨⟨y9_A, y9_n, y9_c⟩, ⟨y10_A, y10_n, y10_c⟩⟩, congrArg Ending.returned (by kernel_rfl), ((hs.drop (.cons_cons _ (.cons_cons _ (.cons _ (.cons _ (.cons _ .slnil)))))).pickR pick_nil)⟩)
  ·refine wpS.take 6 false (some 22) (.bool true) (by kernel_rfl) (yld_b (nt hc) (fun _ => by kernel_rfl)) ?_
   refine wpS.p 7 23 (.bool true) (by kernel_rfl) ?_
   refine wpS.fin rfl (kr7 _ _ ?_)
   refine then_n (ks6 _ _ ?_)
   refine wp_cond_t (by kernel_rfl) ?_
   refine xseq_k fun KS142 ks142 => ?_
   refine wp_regS (l := [0, 1, 2]) (by kernel_rfl) (by kernel_rfl) fun KR143 kr143 => ?_
   refine wpS.p 0 24 (.agg #[.slice none 0 0, .slice none 0 0]) (by kernel_rfl) ?_
   refine wpS.only 1 (op_storeW (t := 27) (v := .agg #[.slice none 0 0, .slice none 0 0]) (d := none) (by kernel_rfl) hs 0 rfl (vs := [.slice none 0 0, .slice none 0 0]) (n := 2) (by kernel_rfl) (by kernel_rfl) (by kernel_rfl) (by simp [enc_len]) (by simp [enc_len]) (by simp [Value.oneCell']) ?_)
   intro w kp hs
   refine ⟨fun _ => trivial, ?_⟩
   refine wpS.p 2 5 (.bool false) (by kernel_rfl) ?_
   refine wpS.fin rfl (kr143 _ _ ?_)
   refine then_n (ks142 _ _ ?_)
   refine xret ?_
   refine then_r ?_
   obtain ⟨q0, qr0⟩ := Prod.mk.inj (of_some h)
   obtain ⟨q1, qr1⟩ := Prod.mk.inj (qr0)
   have q2 := qr1
   subst q0
   subst q1
   subst q2
   have hs := hs.addNilL (CA .i32 256 (by decide)) 40
   have hs := hs.addNilL (CI .u8) 5
   exact qq _ _ (post_ret (by kernel_rfl) (run_results [.cell 4 27, .tmp 5] [.agg #[.slice none 0 0, .slice none 0 0], .bool false] (by kernel_rfl) (.cons (res_cellN (n := 2) hs 2 rfl (by kernel_rfl) (by kernel_rfl) (by kernel_rfl) (by simp [enc_len])) (.cons (res_tmp (by kernel_rfl)) .nil))) ⟨⟨⟨none, 0, 0⟩, ⟨none, 0, 0⟩⟩, congrArg Ending.returned (by kernel_rfl), ((hs.drop (.cons_cons _ (.cons_cons _ (.cons _ (.cons _ .slnil))))).pickR pick_nil)⟩)
end Go.Proofs.Ytblploekkjeolaa
