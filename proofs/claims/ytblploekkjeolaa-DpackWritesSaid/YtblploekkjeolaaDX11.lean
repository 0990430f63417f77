/- Printed by this work's own program: the code of each function below comes to the answer that its plain form tells. -/
import Derived.Test.YtblploekkjeolaaMj
import Derived.Test.YtblploekkjeolaaProg
import Derived.Test.YtblploekkjeolaaDF0
import Derived.Test.YtblploekkjeolaaDX1
import Derived.Test.YtblploekkjeolaaDX2
import Derived.Test.YtblploekkjeolaaDX3
import Derived.Test.YtblploekkjeolaaDX7
import Derived.Test.YtblploekkjeolaaDX8
import Derived.Test.YtblploekkjeolaaDX9
set_option linter.unusedVariables false
set_option linter.unusedSimpArgs false
set_option maxRecDepth 100000
set_option maxHeartbeats 4000000
namespace Go.Proofs.Ytblploekkjeolaa
open Go.Mx
attribute [local irreducible] wpOp

theorem ref22_Private.ok {K : Nat} {a0_0 : Int} {a0_1 : Int} {a0_2 : Int} {a0_3 : Int} {a0_4 : Int} {a0_5 : Int} {a0_6 : Int} {a0_7 : Int} {a1_0 : List Int} {a1_1 : List Int} {a1_2 : List Int} {a1_3 : List (Arr 256)} {a1_4 : List (Arr 256)} {a1_5 : List (Arr 256)} {r0 : List Int} {a1_0_A : Option Addr} {a1_0_n : Nat} {a1_0_c : Nat} {a1_1_A : Option Addr} {a1_1_n : Nat} {a1_1_c : Nat} {a1_2_A : Option Addr} {a1_2_n : Nat} {a1_2_c : Nat} {a1_3_A : Option Addr} {a1_3_n : Nat} {a1_3_c : Nat} {a1_4_A : Option Addr} {a1_4_n : Nat} {a1_4_c : Nat} {a1_5_A : Option Addr} {a1_5_n : Nat} {a1_5_c : Nat} (h : ref22_Private.f K a0_0 a0_1 a0_2 a0_3 a0_4 a0_5 a0_6 a0_7 a1_0 a1_1 a1_2 a1_3 a1_4 a1_5 = some r0) (w0 : World) (hp1_0 : RowL (CI .u8) w0 a1_0_A a1_0_n a1_0_c a1_0) (hp1_1 : RowL (CI .u8) w0 a1_1_A a1_1_n a1_1_c a1_1) (hp1_2 : RowL (CI .u8) w0 a1_2_A a1_2_n a1_2_c a1_2) (hp1_3 : RowL (CA .i32 256 (by decide)) w0 a1_3_A a1_3_n a1_3_c a1_3) (hp1_4 : RowL (CA .i32 256 (by decide)) w0 a1_4_A a1_4_n a1_4_c a1_4) (hp1_5 : RowL (CA .i32 256 (by decide)) w0 a1_5_A a1_5_n a1_5_c a1_5) : Calls Try.prog 13 #[.agg #[.int .i64 a0_0, .int .i64 a0_1, .int .i32 a0_2, .int .i64 a0_3, .int .i32 a0_4, .int .i32 a0_5, .int .i64 a0_6, .int .i64 a0_7], .agg #[.slice a1_0_A a1_0_n a1_0_c, .slice a1_1_A a1_1_n a1_1_c, .slice a1_2_A a1_2_n a1_2_c, .slice a1_3_A a1_3_n a1_3_c, .slice a1_4_A a1_4_n a1_4_c, .slice a1_5_A a1_5_n a1_5_c]] w0 fun e w' => ∃ h : (Option Addr × Nat × Nat), e = .returned (.slice h.1 h.2.1 h.2.2) ∧ St w0 [] [.ownL (CI .u8) h.1 h.2.1 h.2.2 r0 5] [] w' := by
  refine calls_k Try.func13 rfl fun Q qq => ?_
  have hs := St.startR (all_cons (RowP.ent hp1_0) (all_cons (RowP.ent hp1_1) (all_cons (RowP.ent hp1_2) (all_cons (RowP.ent hp1_3) (all_cons (RowP.ent hp1_4) (all_cons (RowP.ent hp1_5) all_nil))))))
  refine wp_conv (a' := ⟨#[.agg #[.int .i64 a0_0, .int .i64 a0_1, .int .i32 a0_2, .int .i64 a0_3, .int .i32 a0_4, .int .i32 a0_5, .int .i64 a0_6, .int .i64 a0_7], .agg #[.slice a1_0_A a1_0_n a1_0_c, .slice a1_1_A a1_1_n a1_1_c, .slice a1_2_A a1_2_n a1_2_c, .slice a1_3_A a1_3_n a1_3_c, .slice a1_4_A a1_4_n a1_4_c, .slice a1_5_A a1_5_n a1_5_c], undef, undef, undef, undef, undef, undef, undef, undef, undef, undef, undef, undef, undef, undef, undef, undef, undef, undef, undef, undef, undef, undef, undef, undef, undef, undef, undef, undef, undef, undef, undef, undef, undef, undef, undef, undef, undef, undef, undef, undef, undef, undef, undef, undef, undef, undef, undef, undef, undef, undef, undef, undef, undef, undef, undef, undef, undef, undef, undef, undef, undef, undef, undef, undef, undef, undef, undef, undef, undef, undef, undef, undef, undef, undef, undef, undef, undef, undef, undef, undef, undef, undef, undef], []⟩) (by kernel_rfl) ?_
  refine xseq_k fun KS1 ks1 => ?_
  refine wp_regS (l := [0, 1, 2]) (by kernel_rfl) (by kernel_rfl) fun KR2 kr2 => ?_
  refine wpS.only 0 (op_box (t := 23) (v := .agg #[.int .i64 a0_0, .int .i64 a0_1, .int .i32 a0_2, .int .i64 a0_3, .int .i32 a0_4, .int .i32 a0_5, .int .i64 a0_6, .int .i64 a0_7]) (d := (some 2)) (by kernel_rfl) hs ([.int .i64 a0_0, .int .i64 a0_1, .int .i32 a0_2, .int .i64 a0_3, .int .i32 a0_4, .int .i32 a0_5, .int .i64 a0_6, .int .i64 a0_7]) (by kernel_rfl) (by kernel_rfl) ?_)
  intro b1 w gw hs
  refine ⟨fun _ => trivial, ?_⟩
  refine wpS.only 1 (op_box (t := 29) (v := .agg #[.slice a1_0_A a1_0_n a1_0_c, .slice a1_1_A a1_1_n a1_1_c, .slice a1_2_A a1_2_n a1_2_c, .slice a1_3_A a1_3_n a1_3_c, .slice a1_4_A a1_4_n a1_4_c, .slice a1_5_A a1_5_n a1_5_c]) (d := (some 3)) (by kernel_rfl) hs ([.slice a1_0_A a1_0_n a1_0_c, .slice a1_1_A a1_1_n a1_1_c, .slice a1_2_A a1_2_n a1_2_c, .slice a1_3_A a1_3_n a1_3_c, .slice a1_4_A a1_4_n a1_4_c, .slice a1_5_A a1_5_n a1_5_c]) (by kernel_rfl) (by kernel_rfl) ?_)
  intro b2 w gw hs
  refine ⟨fun _ => trivial, ?_⟩
  refine wpS.take 2 false (some 4) (.slice none 0 0) (by kernel_rfl) (yld fun _ => by kernel_rfl) ?_
  refine wpS.fin rfl (kr2 _ _ ?_)
  refine then_n (ks1 _ _ ?_)
  refine xseq_k fun KS13 ks13 => ?_
  refine xseq_k fun KS14 ks14 => ?_
  refine wp_regS (l := [0, 1, 2, 3, 4, 5, 6, 7, 8, 9, 10, 11, 12, 13, 14, 15, 16, 17, 18, 19, 20]) (by kernel_rfl) (by kernel_rfl) fun KR15 kr15 => ?_
  refine wpS.take 0 true (some 11) (.agg #[.int .i64 a0_0, .int .i64 a0_1, .int .i32 a0_2, .int .i64 a0_3, .int .i32 a0_4, .int .i32 a0_5, .int .i64 a0_6, .int .i64 a0_7]) (by kernel_rfl) (yld_loadW (e := 23) (n := 8) hs 1 rfl (by kernel_rfl) (by kernel_rfl) (by kernel_rfl) (by simp [enc_len]) .grow) ?_
  obtain ⟨r3, hg, h⟩ := of_bind h
  cases r3 with
  | true =>
    have h := of_if_t h
    refine wpS.only 1 (op_call (d := (some 12)) (by kernel_rfl) hs (fun _ => by kernel_rfl) (ref22_Known.ok hg _) ?_)
    intro w gw hs
    refine ⟨fun _ => trivial, ?_⟩
    refine wpS.take 2 false (some 13) (.bool false) (by kernel_rfl) (yld fun _ => by kernel_rfl) ?_
    refine wpS.take 3 false (some 14) (.bool false) (by kernel_rfl) (yld fun _ => by kernel_rfl) ?_
    refine wpS.take 4 false (some 15) (.pointer (some ⟨b2, 0, none⟩)) (by kernel_rfl) (yld fun _ => by kernel_rfl) ?_
    refine wpS.take 5 true (some 16) (.slice a1_0_A a1_0_n a1_0_c) (by kernel_rfl) (yld_load1 (e := 24) (o := 0) hs 0 rfl (by kernel_rfl) (by kernel_rfl) (by rfl) .grow) ?_
    refine wpS.take 6 false (some 17) (.int .i64 (a1_0.length : Int)) (by kernel_rfl) (yld_lenL (hs.rowR 0 rfl) (fun _ => by kernel_rfl)) ?_
    rcases of_if h with ⟨hc, h⟩ | ⟨hc, h⟩
    · refine wpS.take 7 false (some 18) (.bool false) (by kernel_rfl) (yld_b (nf hc) (fun _ => by kernel_rfl)) ?_
      refine wpS.take 8 false (some 19) (.bool false) (by kernel_rfl) (yld fun _ => by kernel_rfl) ?_
      refine wpS.take 9 false (some 20) (.bool false) (by kernel_rfl) (yld fun _ => by kernel_rfl) ?_
      refine wpS.take 10 false (some 21) (.pointer (some ⟨b2, 1, none⟩)) (by kernel_rfl) (yld fun _ => by kernel_rfl) ?_
      refine wpS.take 11 true (some 22) (.slice a1_1_A a1_1_n a1_1_c) (by kernel_rfl) (yld_load1 (e := 24) (o := 1) hs 0 rfl (by kernel_rfl) (by kernel_rfl) (by rfl) .grow) ?_
      refine wpS.take 12 false (some 23) (.int .i64 (a1_1.length : Int)) (by kernel_rfl) (yld_lenL (hs.rowR 1 rfl) (fun _ => by kernel_rfl)) ?_
      rcases of_if h with ⟨hc, h⟩ | ⟨hc, h⟩
      · refine wpS.take 13 false (some 24) (.bool false) (by kernel_rfl) (yld_b (nf hc) (fun _ => by kernel_rfl)) ?_
        refine wpS.take 14 false (some 25) (.bool false) (by kernel_rfl) (yld fun _ => by kernel_rfl) ?_
        refine wpS.take 15 false (some 26) (.bool false) (by kernel_rfl) (yld fun _ => by kernel_rfl) ?_
        refine wpS.take 16 false (some 27) (.pointer (some ⟨b2, 2, none⟩)) (by kernel_rfl) (yld fun _ => by kernel_rfl) ?_
        refine wpS.take 17 true (some 28) (.slice a1_2_A a1_2_n a1_2_c) (by kernel_rfl) (yld_load1 (e := 24) (o := 2) hs 0 rfl (by kernel_rfl) (by kernel_rfl) (by rfl) .grow) ?_
        refine wpS.take 18 false (some 29) (.int .i64 (a1_2.length : Int)) (by kernel_rfl) (yld_lenL (hs.rowR 2 rfl) (fun _ => by kernel_rfl)) ?_
        rcases of_if h with ⟨hc, h⟩ | ⟨hc, h⟩
        · refine wpS.take 19 false (some 30) (.bool false) (by kernel_rfl) (yld_b (nf hc) (fun _ => by kernel_rfl)) ?_
          refine wpS.take 20 false (some 31) (.bool false) (by kernel_rfl) (yld fun _ => by kernel_rfl) ?_
          refine wpS.fin rfl (kr15 _ _ ?_)
          refine then_n (ks14 _ _ ?_)
          refine wp_cond_f (by kernel_rfl) ?_
          refine xskip ?_
          refine then_n (ks13 _ _ ?_)
          refine xseq_k fun KS16 ks16 => ?_
          refine wp_regS (l := [0, 1, 2, 3, 4, 5, 6, 7, 8, 9, 10, 11, 12, 13]) (by kernel_rfl) (by kernel_rfl) fun KR17 kr17 => ?_
          refine wpS.take 0 false (some 33) (.pointer (some ⟨b2, 3, none⟩)) (by kernel_rfl) (yld fun _ => by kernel_rfl) ?_
          refine wpS.take 1 true (some 34) (.slice a1_3_A a1_3_n a1_3_c) (by kernel_rfl) (yld_load1 (e := 25) (o := 3) hs 0 rfl (by kernel_rfl) (by kernel_rfl) (by rfl) .grow) ?_
          refine wpS.take 2 false (some 35) (.pointer (some ⟨b1, 1, none⟩)) (by kernel_rfl) (yld fun _ => by kernel_rfl) ?_
          refine wpS.take 3 true (some 36) (.int .i64 a0_1) (by kernel_rfl) (yld_load1 (e := 3) (o := 1) hs 1 rfl (by kernel_rfl) (by kernel_rfl) (by rfl) .grow) ?_
          refine wpS.take 4 false (some 37) (.pointer (some ⟨b1, 2, none⟩)) (by kernel_rfl) (yld fun _ => by kernel_rfl) ?_
          refine wpS.take 5 true (some 38) (.int .i32 a0_2) (by kernel_rfl) (yld_load1 (e := 21) (o := 2) hs 1 rfl (by kernel_rfl) (by kernel_rfl) (by rfl) .grow) ?_
          refine wpS.take 6 false (some 39) (.pointer (some ⟨b1, 2, none⟩)) (by kernel_rfl) (yld fun _ => by kernel_rfl) ?_
          refine wpS.take 7 true (some 40) (.int .i32 a0_2) (by kernel_rfl) (yld_load1 (e := 21) (o := 2) hs 1 rfl (by kernel_rfl) (by kernel_rfl) (by rfl) .grow) ?_
          obtain ⟨⟨r4, r5⟩, hg, h⟩ := of_bind h
          refine wpS.only 8 (op_callH (d := (some 41)) (by kernel_rfl) hs (fun _ => by kernel_rfl) (ref22_row.ok hg _ (hs.rowR 3 rfl)) ?_)
          rintro ⟨r4_A, r4_n, r4_c⟩ w gw hs
          have hs := hs.conv (L' := [.ownL (CI .u8) r4_A r4_n r4_c r4 5, .blk b2 ([.slice a1_0_A a1_0_n a1_0_c, .slice a1_1_A a1_1_n a1_1_c, .slice a1_2_A a1_2_n a1_2_c, .slice a1_3_A a1_3_n a1_3_c, .slice a1_4_A a1_4_n a1_4_c, .slice a1_5_A a1_5_n a1_5_c]) 29, .blk b1 ([.int .i64 a0_0, .int .i64 a0_1, .int .i32 a0_2, .int .i64 a0_3, .int .i32 a0_4, .int .i32 a0_5, .int .i64 a0_6, .int .i64 a0_7]) 23]) rfl
          refine ⟨fun _ => trivial, ?_⟩
          refine wpS.take 9 false (some 32) (.tuple #[.slice r4_A r4_n r4_c, .bool r5]) (by kernel_rfl) (yld fun _ => by kernel_rfl) ?_
          refine wpS.take 10 false (some 42) (.slice r4_A r4_n r4_c) (by kernel_rfl) (yld fun _ => by kernel_rfl) ?_
          cases r5 with
          | true =>
            have h := of_if_t h
            refine wpS.take 11 false (some 43) (.bool true) (by kernel_rfl) (yld fun _ => by kernel_rfl) ?_
            refine wpS.take 12 false (some 5) (.slice r4_A r4_n r4_c) (by kernel_rfl) (yld fun _ => by kernel_rfl) ?_
            refine wpS.take 13 false (some 6) (.bool true) (by kernel_rfl) (yld fun _ => by kernel_rfl) ?_
            refine wpS.fin rfl (kr17 _ _ ?_)
            refine then_n (ks16 _ _ ?_)
            refine xseq_k fun KS18 ks18 => ?_
            refine wp_regS (l := [0, 1, 2, 3, 4, 5, 6, 7, 8, 9, 10, 11, 12, 13]) (by kernel_rfl) (by kernel_rfl) fun KR19 kr19 => ?_
            refine wpS.take 0 false (some 45) (.pointer (some ⟨b2, 4, none⟩)) (by kernel_rfl) (yld fun _ => by kernel_rfl) ?_
            refine wpS.take 1 true (some 46) (.slice a1_4_A a1_4_n a1_4_c) (by kernel_rfl) (yld_load1 (e := 25) (o := 4) hs 1 rfl (by kernel_rfl) (by kernel_rfl) (by rfl) .grow) ?_
            refine wpS.take 2 false (some 47) (.pointer (some ⟨b1, 0, none⟩)) (by kernel_rfl) (yld fun _ => by kernel_rfl) ?_
            refine wpS.take 3 true (some 48) (.int .i64 a0_0) (by kernel_rfl) (yld_load1 (e := 3) (o := 0) hs 2 rfl (by kernel_rfl) (by kernel_rfl) (by rfl) .grow) ?_
            refine wpS.take 4 false (some 49) (.pointer (some ⟨b1, 2, none⟩)) (by kernel_rfl) (yld fun _ => by kernel_rfl) ?_
            refine wpS.take 5 true (some 50) (.int .i32 a0_2) (by kernel_rfl) (yld_load1 (e := 21) (o := 2) hs 2 rfl (by kernel_rfl) (by kernel_rfl) (by rfl) .grow) ?_
            refine wpS.take 6 false (some 51) (.pointer (some ⟨b1, 2, none⟩)) (by kernel_rfl) (yld fun _ => by kernel_rfl) ?_
            refine wpS.take 7 true (some 52) (.int .i32 a0_2) (by kernel_rfl) (yld_load1 (e := 21) (o := 2) hs 2 rfl (by kernel_rfl) (by kernel_rfl) (by rfl) .grow) ?_
            obtain ⟨⟨r6, r7⟩, hg, h⟩ := of_bind h
            refine wpS.only 8 (op_callH (d := (some 53)) (by kernel_rfl) hs (fun _ => by kernel_rfl) (ref22_row.ok hg _ (hs.rowR 4 rfl)) ?_)
            rintro ⟨r6_A, r6_n, r6_c⟩ w gw hs
            have hs := hs.conv (L' := [.ownL (CI .u8) r6_A r6_n r6_c r6 5, .ownL (CI .u8) r4_A r4_n r4_c r4 5, .blk b2 ([.slice a1_0_A a1_0_n a1_0_c, .slice a1_1_A a1_1_n a1_1_c, .slice a1_2_A a1_2_n a1_2_c, .slice a1_3_A a1_3_n a1_3_c, .slice a1_4_A a1_4_n a1_4_c, .slice a1_5_A a1_5_n a1_5_c]) 29, .blk b1 ([.int .i64 a0_0, .int .i64 a0_1, .int .i32 a0_2, .int .i64 a0_3, .int .i32 a0_4, .int .i32 a0_5, .int .i64 a0_6, .int .i64 a0_7]) 23]) rfl
            refine ⟨fun _ => trivial, ?_⟩
            refine wpS.take 9 false (some 44) (.tuple #[.slice r6_A r6_n r6_c, .bool r7]) (by kernel_rfl) (yld fun _ => by kernel_rfl) ?_
            refine wpS.take 10 false (some 54) (.slice r6_A r6_n r6_c) (by kernel_rfl) (yld fun _ => by kernel_rfl) ?_
            cases r7 with
            | true =>
              have h := of_if_t h
              refine wpS.take 11 false (some 55) (.bool true) (by kernel_rfl) (yld fun _ => by kernel_rfl) ?_
              refine wpS.take 12 false (some 7) (.slice r6_A r6_n r6_c) (by kernel_rfl) (yld fun _ => by kernel_rfl) ?_
              refine wpS.take 13 false (some 8) (.bool true) (by kernel_rfl) (yld fun _ => by kernel_rfl) ?_
              refine wpS.fin rfl (kr19 _ _ ?_)
              refine then_n (ks18 _ _ ?_)
              refine xseq_k fun KS20 ks20 => ?_
              refine wp_regS (l := [0, 1, 2, 3, 4, 5, 6, 7, 8, 9]) (by kernel_rfl) (by kernel_rfl) fun KR21 kr21 => ?_
              refine wpS.take 0 false (some 57) (.pointer (some ⟨b2, 5, none⟩)) (by kernel_rfl) (yld fun _ => by kernel_rfl) ?_
              refine wpS.take 1 true (some 58) (.slice a1_5_A a1_5_n a1_5_c) (by kernel_rfl) (yld_load1 (e := 25) (o := 5) hs 2 rfl (by kernel_rfl) (by kernel_rfl) (by rfl) .grow) ?_
              refine wpS.take 2 false (some 59) (.pointer (some ⟨b1, 0, none⟩)) (by kernel_rfl) (yld fun _ => by kernel_rfl) ?_
              refine wpS.take 3 true (some 60) (.int .i64 a0_0) (by kernel_rfl) (yld_load1 (e := 3) (o := 0) hs 3 rfl (by kernel_rfl) (by kernel_rfl) (by rfl) .grow) ?_
              obtain ⟨⟨r8, r9⟩, hg, h⟩ := of_bind h
              refine wpS.only 4 (op_callH (d := (some 61)) (by kernel_rfl) hs (fun _ => by kernel_rfl) (ref22_row.ok hg _ (hs.rowR 5 rfl)) ?_)
              rintro ⟨r8_A, r8_n, r8_c⟩ w gw hs
              have hs := hs.conv (L' := [.ownL (CI .u8) r8_A r8_n r8_c r8 5, .ownL (CI .u8) r6_A r6_n r6_c r6 5, .ownL (CI .u8) r4_A r4_n r4_c r4 5, .blk b2 ([.slice a1_0_A a1_0_n a1_0_c, .slice a1_1_A a1_1_n a1_1_c, .slice a1_2_A a1_2_n a1_2_c, .slice a1_3_A a1_3_n a1_3_c, .slice a1_4_A a1_4_n a1_4_c, .slice a1_5_A a1_5_n a1_5_c]) 29, .blk b1 ([.int .i64 a0_0, .int .i64 a0_1, .int .i32 a0_2, .int .i64 a0_3, .int .i32 a0_4, .int .i32 a0_5, .int .i64 a0_6, .int .i64 a0_7]) 23]) rfl
              refine ⟨fun _ => trivial, ?_⟩
              refine wpS.take 5 false (some 56) (.tuple #[.slice r8_A r8_n r8_c, .bool r9]) (by kernel_rfl) (yld fun _ => by kernel_rfl) ?_
              refine wpS.take 6 false (some 62) (.slice r8_A r8_n r8_c) (by kernel_rfl) (yld fun _ => by kernel_rfl) ?_
              cases r9 with
              | true =>
                have h := of_if_t h
                refine wpS.take 7 false (some 63) (.bool true) (by kernel_rfl) (yld fun _ => by kernel_rfl) ?_
                refine wpS.take 8 false (some 9) (.slice r8_A r8_n r8_c) (by kernel_rfl) (yld fun _ => by kernel_rfl) ?_
                refine wpS.take 9 false (some 10) (.bool true) (by kernel_rfl) (yld fun _ => by kernel_rfl) ?_
                refine wpS.fin rfl (kr21 _ _ ?_)
                refine then_n (ks20 _ _ ?_)
                refine xseq_k fun KS24 ks24 => ?_
                refine xseq_k fun KS25 ks25 => ?_
                refine wp_regS (l := [0, 1, 2, 3, 4, 5, 6, 7, 8, 9]) (by kernel_rfl) (by kernel_rfl) fun KR26 kr26 => ?_
                refine wpS.take 0 false (some 64) (.bool true) (by kernel_rfl) (yld fun _ => by kernel_rfl) ?_
                refine wpS.take 1 false (some 65) (.bool false) (by kernel_rfl) (yld fun _ => by kernel_rfl) ?_
                refine wpS.take 2 false (some 66) (.bool false) (by kernel_rfl) (yld fun _ => by kernel_rfl) ?_
                refine wpS.take 3 false (some 67) (.bool true) (by kernel_rfl) (yld fun _ => by kernel_rfl) ?_
                refine wpS.take 4 false (some 68) (.bool false) (by kernel_rfl) (yld fun _ => by kernel_rfl) ?_
                refine wpS.take 5 false (some 69) (.bool false) (by kernel_rfl) (yld fun _ => by kernel_rfl) ?_
                refine wpS.take 6 false (some 70) (.bool false) (by kernel_rfl) (yld fun _ => by kernel_rfl) ?_
                refine wpS.take 7 false (some 71) (.bool true) (by kernel_rfl) (yld fun _ => by kernel_rfl) ?_
                refine wpS.take 8 false (some 72) (.bool false) (by kernel_rfl) (yld fun _ => by kernel_rfl) ?_
                refine wpS.take 9 false (some 73) (.bool false) (by kernel_rfl) (yld fun _ => by kernel_rfl) ?_
                refine wpS.fin rfl (kr26 _ _ ?_)
                refine then_n (ks25 _ _ ?_)
                refine wp_cond_f (by kernel_rfl) ?_
                refine xskip ?_
                refine then_n (ks24 _ _ ?_)
                refine xseq_k fun KS27 ks27 => ?_
                refine wp_regS (l := [0, 1, 2, 3, 4, 5, 6, 7, 8, 9, 10, 11]) (by kernel_rfl) (by kernel_rfl) fun KR28 kr28 => ?_
                refine wpS.take 0 false (some 74) (.pointer (some ⟨b2, 0, none⟩)) (by kernel_rfl) (yld fun _ => by kernel_rfl) ?_
                refine wpS.take 1 true (some 75) (.slice a1_0_A a1_0_n a1_0_c) (by kernel_rfl) (yld_load1 (e := 24) (o := 0) hs 3 rfl (by kernel_rfl) (by kernel_rfl) (by rfl) .grow) ?_
                refine wpS.take 2 false (some 76) (.pointer (some ⟨b2, 1, none⟩)) (by kernel_rfl) (yld fun _ => by kernel_rfl) ?_
                refine wpS.take 3 true (some 77) (.slice a1_1_A a1_1_n a1_1_c) (by kernel_rfl) (yld_load1 (e := 24) (o := 1) hs 3 rfl (by kernel_rfl) (by kernel_rfl) (by rfl) .grow) ?_
                refine wpS.take 4 false (some 78) (.pointer (some ⟨b2, 2, none⟩)) (by kernel_rfl) (yld fun _ => by kernel_rfl) ?_
                refine wpS.take 5 true (some 79) (.slice a1_2_A a1_2_n a1_2_c) (by kernel_rfl) (yld_load1 (e := 24) (o := 2) hs 3 rfl (by kernel_rfl) (by kernel_rfl) (by rfl) .grow) ?_
                refine wpS.take 6 false (some 80) (.slice r4_A r4_n r4_c) (by kernel_rfl) (yld fun _ => by kernel_rfl) ?_
                refine wpS.take 7 false (some 81) (.slice r6_A r6_n r6_c) (by kernel_rfl) (yld fun _ => by kernel_rfl) ?_
                refine wpS.take 8 false (some 82) (.slice r8_A r8_n r8_c) (by kernel_rfl) (yld fun _ => by kernel_rfl) ?_
                refine wpS.only 9 (op_lit (C := CS) (t := 79) (e := 24) (len := 6) (parts := #[(0, .slice a1_0_A a1_0_n a1_0_c), (1, .slice a1_1_A a1_1_n a1_1_c), (2, .slice a1_2_A a1_2_n a1_2_c), (3, .slice r4_A r4_n r4_c), (4, .slice r6_A r6_n r6_c), (5, .slice r8_A r8_n r8_c)]) (l := ([(a1_0_A, a1_0_n, a1_0_c), (a1_1_A, a1_1_n, a1_1_c), (a1_2_A, a1_2_n, a1_2_c), (r4_A, r4_n, r4_c), (r6_A, r6_n, r6_c), (r8_A, r8_n, r8_c)] : List HS)) (d := (some 83)) (by kernel_rfl) hs (by kernel_rfl) (by kernel_rfl) (by kernel_rfl) (z := .slice none 0 0) (by kernel_rfl) rfl (by decide) (by decide) (by kernel_rfl) ?_)
                intro s10_A s10_n s10_c w gw hs
                refine ⟨fun _ => trivial, ?_⟩
                obtain ⟨r11, hg, h⟩ := of_bind h
                refine wpS.only 10 (op_callH (d := (some 84)) (by kernel_rfl) hs (fun _ => by kernel_rfl) (ref01_Join.ok hg _ (LLP.mk (hs.rowL 0 rfl) (inn_cons (hs.rowR 0 rfl) (inn_cons (hs.rowR 1 rfl) (inn_cons (hs.rowR 2 rfl) (inn_cons (hs.rowL 3 rfl) (inn_cons (hs.rowL 2 rfl) (inn_cons (hs.rowL 1 rfl) inn_nil)))))))) ?_)
                rintro ⟨r11_A, r11_n, r11_c⟩ w gw hs
                have hs := hs.conv (L' := [.ownL (CI .u8) r11_A r11_n r11_c r11 5, .ownL CS s10_A s10_n s10_c ([(a1_0_A, a1_0_n, a1_0_c), (a1_1_A, a1_1_n, a1_1_c), (a1_2_A, a1_2_n, a1_2_c), (r4_A, r4_n, r4_c), (r6_A, r6_n, r6_c), (r8_A, r8_n, r8_c)] : List HS) 24, .ownL (CI .u8) r8_A r8_n r8_c r8 5, .ownL (CI .u8) r6_A r6_n r6_c r6 5, .ownL (CI .u8) r4_A r4_n r4_c r4 5, .blk b2 ([.slice a1_0_A a1_0_n a1_0_c, .slice a1_1_A a1_1_n a1_1_c, .slice a1_2_A a1_2_n a1_2_c, .slice a1_3_A a1_3_n a1_3_c, .slice a1_4_A a1_4_n a1_4_c, .slice a1_5_A a1_5_n a1_5_c]) 29, .blk b1 ([.int .i64 a0_0, .int .i64 a0_1, .int .i32 a0_2, .int .i64 a0_3, .int .i32 a0_4, .int .i32 a0_5, .int .i64 a0_6, .int .i64 a0_7]) 23]) rfl
                refine ⟨fun _ => trivial, ?_⟩
                refine wpS.take 11 false (some 4) (.slice r11_A r11_n r11_c) (by kernel_rfl) (yld fun _ => by kernel_rfl) ?_
                refine wpS.fin rfl (kr28 _ _ ?_)
                refine then_n (ks27 _ _ ?_)
                refine xret ?_
                have q0 := of_some h
                subst q0
                exact qq _ _ (post_ret (by kernel_rfl) (run_results [.tmp 4] [.slice r11_A r11_n r11_c] (by kernel_rfl) (.cons (res_tmp (by kernel_rfl)) .nil)) ⟨⟨r11_A, r11_n, r11_c⟩, congrArg Ending.returned (by kernel_rfl), (((hs.conv (L' := [.ownL (CI .u8) r11_A r11_n r11_c r11 5, .ownL CS s10_A s10_n s10_c ([(a1_0_A, a1_0_n, a1_0_c), (a1_1_A, a1_1_n, a1_1_c), (a1_2_A, a1_2_n, a1_2_c), (r4_A, r4_n, r4_c), (r6_A, r6_n, r6_c), (r8_A, r8_n, r8_c)] : List HS) 24, .ownL (CI .u8) r8_A r8_n r8_c r8 5, .ownL (CI .u8) r6_A r6_n r6_c r6 5, .ownL (CI .u8) r4_A r4_n r4_c r4 5, .blk b2 ([.slice a1_0_A a1_0_n a1_0_c, .slice a1_1_A a1_1_n a1_1_c, .slice a1_2_A a1_2_n a1_2_c, .slice a1_3_A a1_3_n a1_3_c, .slice a1_4_A a1_4_n a1_4_c, .slice a1_5_A a1_5_n a1_5_c]) 29, .blk b1 ([.int .i64 a0_0, .int .i64 a0_1, .int .i32 a0_2, .int .i64 a0_3, .int .i32 a0_4, .int .i32 a0_5, .int .i64 a0_6, .int .i64 a0_7]) 23]) rfl).drop (.cons_cons _ (.cons _ (.cons _ (.cons _ (.cons _ (.cons _ (.cons _ .slnil)))))))).pickR pick_nil)⟩)
              | false =>
                have h := of_if_f h
                refine wpS.take 7 false (some 63) (.bool false) (by kernel_rfl) (yld fun _ => by kernel_rfl) ?_
                refine wpS.take 8 false (some 9) (.slice r8_A r8_n r8_c) (by kernel_rfl) (yld fun _ => by kernel_rfl) ?_
                refine wpS.take 9 false (some 10) (.bool false) (by kernel_rfl) (yld fun _ => by kernel_rfl) ?_
                refine wpS.fin rfl (kr21 _ _ ?_)
                refine then_n (ks20 _ _ ?_)
                refine xseq_k fun KS33 ks33 => ?_
                refine xseq_k fun KS34 ks34 => ?_
                refine wp_regS (l := [0, 1, 2, 3, 4, 5, 6, 7, 8, 9]) (by kernel_rfl) (by kernel_rfl) fun KR35 kr35 => ?_
                refine wpS.take 0 false (some 64) (.bool true) (by kernel_rfl) (yld fun _ => by kernel_rfl) ?_
                refine wpS.take 1 false (some 65) (.bool false) (by kernel_rfl) (yld fun _ => by kernel_rfl) ?_
                refine wpS.take 2 false (some 66) (.bool false) (by kernel_rfl) (yld fun _ => by kernel_rfl) ?_
                refine wpS.take 3 false (some 67) (.bool true) (by kernel_rfl) (yld fun _ => by kernel_rfl) ?_
                refine wpS.take 4 false (some 68) (.bool false) (by kernel_rfl) (yld fun _ => by kernel_rfl) ?_
                refine wpS.take 5 false (some 69) (.bool false) (by kernel_rfl) (yld fun _ => by kernel_rfl) ?_
                refine wpS.take 6 false (some 70) (.bool false) (by kernel_rfl) (yld fun _ => by kernel_rfl) ?_
                refine wpS.take 7 false (some 71) (.bool false) (by kernel_rfl) (yld fun _ => by kernel_rfl) ?_
                refine wpS.take 8 false (some 72) (.bool true) (by kernel_rfl) (yld fun _ => by kernel_rfl) ?_
                refine wpS.take 9 false (some 73) (.bool true) (by kernel_rfl) (yld fun _ => by kernel_rfl) ?_
                refine wpS.fin rfl (kr35 _ _ ?_)
                refine then_n (ks34 _ _ ?_)
                refine wp_cond_t (by kernel_rfl) ?_
                refine xseq_k fun KS36 ks36 => ?_
                refine wp_regS (l := [0]) (by kernel_rfl) (by kernel_rfl) fun KR37 kr37 => ?_
                refine wpS.take 0 false (some 4) (.slice none 0 0) (by kernel_rfl) (yld fun _ => by kernel_rfl) ?_
                refine wpS.fin rfl (kr37 _ _ ?_)
                refine then_n (ks36 _ _ ?_)
                refine xret ?_
                refine then_r ?_
                have q0 := of_some h
                subst q0
                have hs := hs.addNilL (CI .u8) 5
                exact qq _ _ (post_ret (by kernel_rfl) (run_results [.tmp 4] [.slice none 0 0] (by kernel_rfl) (.cons (res_tmp (by kernel_rfl)) .nil)) ⟨⟨none, 0, 0⟩, congrArg Ending.returned (by kernel_rfl), (((hs.conv (L' := [.ownL (CI .u8) none 0 0 ([] : List Int) 5, .ownL (CI .u8) r8_A r8_n r8_c r8 5, .ownL (CI .u8) r6_A r6_n r6_c r6 5, .ownL (CI .u8) r4_A r4_n r4_c r4 5, .blk b2 ([.slice a1_0_A a1_0_n a1_0_c, .slice a1_1_A a1_1_n a1_1_c, .slice a1_2_A a1_2_n a1_2_c, .slice a1_3_A a1_3_n a1_3_c, .slice a1_4_A a1_4_n a1_4_c, .slice a1_5_A a1_5_n a1_5_c]) 29, .blk b1 ([.int .i64 a0_0, .int .i64 a0_1, .int .i32 a0_2, .int .i64 a0_3, .int .i32 a0_4, .int .i32 a0_5, .int .i64 a0_6, .int .i64 a0_7]) 23]) rfl).drop (.cons_cons _ (.cons _ (.cons _ (.cons _ (.cons _ (.cons _ .slnil))))))).pickR pick_nil)⟩)
            | false =>
              have h := of_if_f h
              refine wpS.take 11 false (some 55) (.bool false) (by kernel_rfl) (yld fun _ => by kernel_rfl) ?_
              refine wpS.take 12 false (some 7) (.slice r6_A r6_n r6_c) (by kernel_rfl) (yld fun _ => by kernel_rfl) ?_
              refine wpS.take 13 false (some 8) (.bool false) (by kernel_rfl) (yld fun _ => by kernel_rfl) ?_
              refine wpS.fin rfl (kr19 _ _ ?_)
              refine then_n (ks18 _ _ ?_)
              refine xseq_k fun KS38 ks38 => ?_
              refine wp_regS (l := [0, 1, 2, 3, 4, 5, 6, 7, 8, 9]) (by kernel_rfl) (by kernel_rfl) fun KR39 kr39 => ?_
              refine wpS.take 0 false (some 57) (.pointer (some ⟨b2, 5, none⟩)) (by kernel_rfl) (yld fun _ => by kernel_rfl) ?_
              refine wpS.take 1 true (some 58) (.slice a1_5_A a1_5_n a1_5_c) (by kernel_rfl) (yld_load1 (e := 25) (o := 5) hs 2 rfl (by kernel_rfl) (by kernel_rfl) (by rfl) .grow) ?_
              refine wpS.take 2 false (some 59) (.pointer (some ⟨b1, 0, none⟩)) (by kernel_rfl) (yld fun _ => by kernel_rfl) ?_
              refine wpS.take 3 true (some 60) (.int .i64 a0_0) (by kernel_rfl) (yld_load1 (e := 3) (o := 0) hs 3 rfl (by kernel_rfl) (by kernel_rfl) (by rfl) .grow) ?_
              obtain ⟨⟨r12, r13⟩, hg, h⟩ := of_bind h
              refine wpS.only 4 (op_callH (d := (some 61)) (by kernel_rfl) hs (fun _ => by kernel_rfl) (ref22_row.ok hg _ (hs.rowR 5 rfl)) ?_)
              rintro ⟨r12_A, r12_n, r12_c⟩ w gw hs
              have hs := hs.conv (L' := [.ownL (CI .u8) r12_A r12_n r12_c r12 5, .ownL (CI .u8) r6_A r6_n r6_c r6 5, .ownL (CI .u8) r4_A r4_n r4_c r4 5, .blk b2 ([.slice a1_0_A a1_0_n a1_0_c, .slice a1_1_A a1_1_n a1_1_c, .slice a1_2_A a1_2_n a1_2_c, .slice a1_3_A a1_3_n a1_3_c, .slice a1_4_A a1_4_n a1_4_c, .slice a1_5_A a1_5_n a1_5_c]) 29, .blk b1 ([.int .i64 a0_0, .int .i64 a0_1, .int .i32 a0_2, .int .i64 a0_3, .int .i32 a0_4, .int .i32 a0_5, .int .i64 a0_6, .int .i64 a0_7]) 23]) rfl
              refine ⟨fun _ => trivial, ?_⟩
              refine wpS.take 5 false (some 56) (.tuple #[.slice r12_A r12_n r12_c, .bool r13]) (by kernel_rfl) (yld fun _ => by kernel_rfl) ?_
              refine wpS.take 6 false (some 62) (.slice r12_A r12_n r12_c) (by kernel_rfl) (yld fun _ => by kernel_rfl) ?_
              cases r13 with
              | true =>
                have h := of_if_t h
                refine wpS.take 7 false (some 63) (.bool true) (by kernel_rfl) (yld fun _ => by kernel_rfl) ?_
                refine wpS.take 8 false (some 9) (.slice r12_A r12_n r12_c) (by kernel_rfl) (yld fun _ => by kernel_rfl) ?_
                refine wpS.take 9 false (some 10) (.bool true) (by kernel_rfl) (yld fun _ => by kernel_rfl) ?_
                refine wpS.fin rfl (kr39 _ _ ?_)
                refine then_n (ks38 _ _ ?_)
                refine xseq_k fun KS44 ks44 => ?_
                refine xseq_k fun KS45 ks45 => ?_
                refine wp_regS (l := [0, 1, 2, 3, 4, 5, 6, 7, 8, 9]) (by kernel_rfl) (by kernel_rfl) fun KR46 kr46 => ?_
                refine wpS.take 0 false (some 64) (.bool true) (by kernel_rfl) (yld fun _ => by kernel_rfl) ?_
                refine wpS.take 1 false (some 65) (.bool false) (by kernel_rfl) (yld fun _ => by kernel_rfl) ?_
                refine wpS.take 2 false (some 66) (.bool false) (by kernel_rfl) (yld fun _ => by kernel_rfl) ?_
                refine wpS.take 3 false (some 67) (.bool false) (by kernel_rfl) (yld fun _ => by kernel_rfl) ?_
                refine wpS.take 4 false (some 68) (.bool true) (by kernel_rfl) (yld fun _ => by kernel_rfl) ?_
                refine wpS.take 5 false (some 69) (.bool true) (by kernel_rfl) (yld fun _ => by kernel_rfl) ?_
                refine wpS.take 6 false (some 70) (.bool true) (by kernel_rfl) (yld fun _ => by kernel_rfl) ?_
                refine wpS.take 7 false (some 71) (undef) (by kernel_rfl) (yld fun _ => by kernel_rfl) ?_
                refine wpS.take 8 false (some 72) (undef) (by kernel_rfl) (yld fun _ => by kernel_rfl) ?_
                refine wpS.take 9 false (some 73) (.bool true) (by kernel_rfl) (yld fun _ => by kernel_rfl) ?_
                refine wpS.fin rfl (kr46 _ _ ?_)
                refine then_n (ks45 _ _ ?_)
                refine wp_cond_t (by kernel_rfl) ?_
                refine xseq_k fun KS47 ks47 => ?_
                refine wp_regS (l := [0]) (by kernel_rfl) (by kernel_rfl) fun KR48 kr48 => ?_
                refine wpS.take 0 false (some 4) (.slice none 0 0) (by kernel_rfl) (yld fun _ => by kernel_rfl) ?_
                refine wpS.fin rfl (kr48 _ _ ?_)
                refine then_n (ks47 _ _ ?_)
                refine xret ?_
                refine then_r ?_
                have q0 := of_some h
                subst q0
                have hs := hs.addNilL (CI .u8) 5
                exact qq _ _ (post_ret (by kernel_rfl) (run_results [.tmp 4] [.slice none 0 0] (by kernel_rfl) (.cons (res_tmp (by kernel_rfl)) .nil)) ⟨⟨none, 0, 0⟩, congrArg Ending.returned (by kernel_rfl), (((hs.conv (L' := [.ownL (CI .u8) none 0 0 ([] : List Int) 5, .ownL (CI .u8) r12_A r12_n r12_c r12 5, .ownL (CI .u8) r6_A r6_n r6_c r6 5, .ownL (CI .u8) r4_A r4_n r4_c r4 5, .blk b2 ([.slice a1_0_A a1_0_n a1_0_c, .slice a1_1_A a1_1_n a1_1_c, .slice a1_2_A a1_2_n a1_2_c, .slice a1_3_A a1_3_n a1_3_c, .slice a1_4_A a1_4_n a1_4_c, .slice a1_5_A a1_5_n a1_5_c]) 29, .blk b1 ([.int .i64 a0_0, .int .i64 a0_1, .int .i32 a0_2, .int .i64 a0_3, .int .i32 a0_4, .int .i32 a0_5, .int .i64 a0_6, .int .i64 a0_7]) 23]) rfl).drop (.cons_cons _ (.cons _ (.cons _ (.cons _ (.cons _ (.cons _ .slnil))))))).pickR pick_nil)⟩)
              | false =>
                have h := of_if_f h
                refine wpS.take 7 false (some 63) (.bool false) (by kernel_rfl) (yld fun _ => by kernel_rfl) ?_
                refine wpS.take 8 false (some 9) (.slice r12_A r12_n r12_c) (by kernel_rfl) (yld fun _ => by kernel_rfl) ?_
                refine wpS.take 9 false (some 10) (.bool false) (by kernel_rfl) (yld fun _ => by kernel_rfl) ?_
                refine wpS.fin rfl (kr39 _ _ ?_)
                refine then_n (ks38 _ _ ?_)
                refine xseq_k fun KS53 ks53 => ?_
                refine xseq_k fun KS54 ks54 => ?_
                refine wp_regS (l := [0, 1, 2, 3, 4, 5, 6, 7, 8, 9]) (by kernel_rfl) (by kernel_rfl) fun KR55 kr55 => ?_
                refine wpS.take 0 false (some 64) (.bool true) (by kernel_rfl) (yld fun _ => by kernel_rfl) ?_
                refine wpS.take 1 false (some 65) (.bool false) (by kernel_rfl) (yld fun _ => by kernel_rfl) ?_
                refine wpS.take 2 false (some 66) (.bool false) (by kernel_rfl) (yld fun _ => by kernel_rfl) ?_
                refine wpS.take 3 false (some 67) (.bool false) (by kernel_rfl) (yld fun _ => by kernel_rfl) ?_
                refine wpS.take 4 false (some 68) (.bool true) (by kernel_rfl) (yld fun _ => by kernel_rfl) ?_
                refine wpS.take 5 false (some 69) (.bool true) (by kernel_rfl) (yld fun _ => by kernel_rfl) ?_
                refine wpS.take 6 false (some 70) (.bool true) (by kernel_rfl) (yld fun _ => by kernel_rfl) ?_
                refine wpS.take 7 false (some 71) (undef) (by kernel_rfl) (yld fun _ => by kernel_rfl) ?_
                refine wpS.take 8 false (some 72) (undef) (by kernel_rfl) (yld fun _ => by kernel_rfl) ?_
                refine wpS.take 9 false (some 73) (.bool true) (by kernel_rfl) (yld fun _ => by kernel_rfl) ?_
                refine wpS.fin rfl (kr55 _ _ ?_)
                refine then_n (ks54 _ _ ?_)
                refine wp_cond_t (by kernel_rfl) ?_
                refine xseq_k fun KS56 ks56 => ?_
                refine wp_regS (l := [0]) (by kernel_rfl) (by kernel_rfl) fun KR57 kr57 => ?_
                refine wpS.take 0 false (some 4) (.slice none 0 0) (by kernel_rfl) (yld fun _ => by kernel_rfl) ?_
                refine wpS.fin rfl (kr57 _ _ ?_)
                refine then_n (ks56 _ _ ?_)
                refine xret ?_
                refine then_r ?_
                have q0 := of_some h
                subst q0
                have hs := hs.addNilL (CI .u8) 5
                exact qq _ _ (post_ret (by kernel_rfl) (run_results [.tmp 4] [.slice none 0 0] (by kernel_rfl) (.cons (res_tmp (by kernel_rfl)) .nil)) ⟨⟨none, 0, 0⟩, congrArg Ending.returned (by kernel_rfl), (((hs.conv (L' := [.ownL (CI .u8) none 0 0 ([] : List Int) 5, .ownL (CI .u8) r12_A r12_n r12_c r12 5, .ownL (CI .u8) r6_A r6_n r6_c r6 5, .ownL (CI .u8) r4_A r4_n r4_c r4 5, .blk b2 ([.slice a1_0_A a1_0_n a1_0_c, .slice a1_1_A a1_1_n a1_1_c, .slice a1_2_A a1_2_n a1_2_c, .slice a1_3_A a1_3_n a1_3_c, .slice a1_4_A a1_4_n a1_4_c, .slice a1_5_A a1_5_n a1_5_c]) 29, .blk b1 ([.int .i64 a0_0, .int .i64 a0_1, .int .i32 a0_2, .int .i64 a0_3, .int .i32 a0_4, .int .i32 a0_5, .int .i64 a0_6, .int .i64 a0_7]) 23]) rfl).drop (.cons_cons _ (.cons _ (.cons _ (.cons _ (.cons _ (.cons _ .slnil))))))).pickR pick_nil)⟩)
          | false =>
            have h := of_if_f h
            refine wpS.take 11 false (some 43) (.bool false) (by kernel_rfl) (yld fun _ => by kernel_rfl) ?_
            refine wpS.take 12 false (some 5) (.slice r4_A r4_n r4_c) (by kernel_rfl) (yld fun _ => by kernel_rfl) ?_
            refine wpS.take 13 false (some 6) (.bool false) (by kernel_rfl) (yld fun _ => by kernel_rfl) ?_
            refine wpS.fin rfl (kr17 _ _ ?_)
            refine then_n (ks16 _ _ ?_)
            refine xseq_k fun KS58 ks58 => ?_
            refine wp_regS (l := [0, 1, 2, 3, 4, 5, 6, 7, 8, 9, 10, 11, 12, 13]) (by kernel_rfl) (by kernel_rfl) fun KR59 kr59 => ?_
            refine wpS.take 0 false (some 45) (.pointer (some ⟨b2, 4, none⟩)) (by kernel_rfl) (yld fun _ => by kernel_rfl) ?_
            refine wpS.take 1 true (some 46) (.slice a1_4_A a1_4_n a1_4_c) (by kernel_rfl) (yld_load1 (e := 25) (o := 4) hs 1 rfl (by kernel_rfl) (by kernel_rfl) (by rfl) .grow) ?_
            refine wpS.take 2 false (some 47) (.pointer (some ⟨b1, 0, none⟩)) (by kernel_rfl) (yld fun _ => by kernel_rfl) ?_
            refine wpS.take 3 true (some 48) (.int .i64 a0_0) (by kernel_rfl) (yld_load1 (e := 3) (o := 0) hs 2 rfl (by kernel_rfl) (by kernel_rfl) (by rfl) .grow) ?_
            refine wpS.take 4 false (some 49) (.pointer (some ⟨b1, 2, none⟩)) (by kernel_rfl) (yld fun _ => by kernel_rfl) ?_
            refine wpS.take 5 true (some 50) (.int .i32 a0_2) (by kernel_rfl) (yld_load1 (e := 21) (o := 2) hs 2 rfl (by kernel_rfl) (by kernel_rfl) (by rfl) .grow) ?_
            refine wpS.take 6 false (some 51) (.pointer (some ⟨b1, 2, none⟩)) (by kernel_rfl) (yld fun _ => by kernel_rfl) ?_
            refine wpS.take 7 true (some 52) (.int .i32 a0_2) (by kernel_rfl) (yld_load1 (e := 21) (o := 2) hs 2 rfl (by kernel_rfl) (by kernel_rfl) (by rfl) .grow) ?_
            obtain ⟨⟨r14, r15⟩, hg, h⟩ := of_bind h
            refine wpS.only 8 (op_callH (d := (some 53)) (by kernel_rfl) hs (fun _ => by kernel_rfl) (ref22_row.ok hg _ (hs.rowR 4 rfl)) ?_)
            rintro ⟨r14_A, r14_n, r14_c⟩ w gw hs
            have hs := hs.conv (L' := [.ownL (CI .u8) r14_A r14_n r14_c r14 5, .ownL (CI .u8) r4_A r4_n r4_c r4 5, .blk b2 ([.slice a1_0_A a1_0_n a1_0_c, .slice a1_1_A a1_1_n a1_1_c, .slice a1_2_A a1_2_n a1_2_c, .slice a1_3_A a1_3_n a1_3_c, .slice a1_4_A a1_4_n a1_4_c, .slice a1_5_A a1_5_n a1_5_c]) 29, .blk b1 ([.int .i64 a0_0, .int .i64 a0_1, .int .i32 a0_2, .int .i64 a0_3, .int .i32 a0_4, .int .i32 a0_5, .int .i64 a0_6, .int .i64 a0_7]) 23]) rfl
            refine ⟨fun _ => trivial, ?_⟩
            refine wpS.take 9 false (some 44) (.tuple #[.slice r14_A r14_n r14_c, .bool r15]) (by kernel_rfl) (yld fun _ => by kernel_rfl) ?_
            refine wpS.take 10 false (some 54) (.slice r14_A r14_n r14_c) (by kernel_rfl) (yld fun _ => by kernel_rfl) ?_
            cases r15 with
            | true =>
              have h := of_if_t h
              refine wpS.take 11 false (some 55) (.bool true) (by kernel_rfl) (yld fun _ => by kernel_rfl) ?_
              refine wpS.take 12 false (some 7) (.slice r14_A r14_n r14_c) (by kernel_rfl) (yld fun _ => by kernel_rfl) ?_
              refine wpS.take 13 false (some 8) (.bool true) (by kernel_rfl) (yld fun _ => by kernel_rfl) ?_
              refine wpS.fin rfl (kr59 _ _ ?_)
              refine then_n (ks58 _ _ ?_)
              refine xseq_k fun KS60 ks60 => ?_
              refine wp_regS (l := [0, 1, 2, 3, 4, 5, 6, 7, 8, 9]) (by kernel_rfl) (by kernel_rfl) fun KR61 kr61 => ?_
              refine wpS.take 0 false (some 57) (.pointer (some ⟨b2, 5, none⟩)) (by kernel_rfl) (yld fun _ => by kernel_rfl) ?_
              refine wpS.take 1 true (some 58) (.slice a1_5_A a1_5_n a1_5_c) (by kernel_rfl) (yld_load1 (e := 25) (o := 5) hs 2 rfl (by kernel_rfl) (by kernel_rfl) (by rfl) .grow) ?_
              refine wpS.take 2 false (some 59) (.pointer (some ⟨b1, 0, none⟩)) (by kernel_rfl) (yld fun _ => by kernel_rfl) ?_
              refine wpS.take 3 true (some 60) (.int .i64 a0_0) (by kernel_rfl) (yld_load1 (e := 3) (o := 0) hs 3 rfl (by kernel_rfl) (by kernel_rfl) (by rfl) .grow) ?_
              obtain ⟨⟨r16, r17⟩, hg, h⟩ := of_bind h
              refine wpS.only 4 (op_callH (d := (some 61)) (by kernel_rfl) hs (fun _ => by kernel_rfl) (ref22_row.ok hg _ (hs.rowR 5 rfl)) ?_)
              rintro ⟨r16_A, r16_n, r16_c⟩ w gw hs
              have hs := hs.conv (L' := [.ownL (CI .u8) r16_A r16_n r16_c r16 5, .ownL (CI .u8) r14_A r14_n r14_c r14 5, .ownL (CI .u8) r4_A r4_n r4_c r4 5, .blk b2 ([.slice a1_0_A a1_0_n a1_0_c, .slice a1_1_A a1_1_n a1_1_c, .slice a1_2_A a1_2_n a1_2_c, .slice a1_3_A a1_3_n a1_3_c, .slice a1_4_A a1_4_n a1_4_c, .slice a1_5_A a1_5_n a1_5_c]) 29, .blk b1 ([.int .i64 a0_0, .int .i64 a0_1, .int .i32 a0_2, .int .i64 a0_3, .int .i32 a0_4, .int .i32 a0_5, .int .i64 a0_6, .int .i64 a0_7]) 23]) rfl
              refine ⟨fun _ => trivial, ?_⟩
              refine wpS.take 5 false (some 56) (.tuple #[.slice r16_A r16_n r16_c, .bool r17]) (by kernel_rfl) (yld fun _ => by kernel_rfl) ?_
              refine wpS.take 6 false (some 62) (.slice r16_A r16_n r16_c) (by kernel_rfl) (yld fun _ => by kernel_rfl) ?_
              cases r17 with
              | true =>
                have h := of_if_t h
                refine wpS.take 7 false (some 63) (.bool true) (by kernel_rfl) (yld fun _ => by kernel_rfl) ?_
                refine wpS.take 8 false (some 9) (.slice r16_A r16_n r16_c) (by kernel_rfl) (yld fun _ => by kernel_rfl) ?_
                refine wpS.take 9 false (some 10) (.bool true) (by kernel_rfl) (yld fun _ => by kernel_rfl) ?_
                refine wpS.fin rfl (kr61 _ _ ?_)
                refine then_n (ks60 _ _ ?_)
                refine xseq_k fun KS66 ks66 => ?_
                refine xseq_k fun KS67 ks67 => ?_
                refine wp_regS (l := [0, 1, 2, 3, 4, 5, 6, 7, 8, 9]) (by kernel_rfl) (by kernel_rfl) fun KR68 kr68 => ?_
                refine wpS.take 0 false (some 64) (.bool false) (by kernel_rfl) (yld fun _ => by kernel_rfl) ?_
                refine wpS.take 1 false (some 65) (.bool true) (by kernel_rfl) (yld fun _ => by kernel_rfl) ?_
                refine wpS.take 2 false (some 66) (.bool true) (by kernel_rfl) (yld fun _ => by kernel_rfl) ?_
                refine wpS.take 3 false (some 67) (undef) (by kernel_rfl) (yld fun _ => by kernel_rfl) ?_
                refine wpS.take 4 false (some 68) (undef) (by kernel_rfl) (yld fun _ => by kernel_rfl) ?_
                refine wpS.take 5 false (some 69) (.bool true) (by kernel_rfl) (yld fun _ => by kernel_rfl) ?_
                refine wpS.take 6 false (some 70) (.bool true) (by kernel_rfl) (yld fun _ => by kernel_rfl) ?_
                refine wpS.take 7 false (some 71) (undef) (by kernel_rfl) (yld fun _ => by kernel_rfl) ?_
                refine wpS.take 8 false (some 72) (undef) (by kernel_rfl) (yld fun _ => by kernel_rfl) ?_
                refine wpS.take 9 false (some 73) (.bool true) (by kernel_rfl) (yld fun _ => by kernel_rfl) ?_
                refine wpS.fin rfl (kr68 _ _ ?_)
                refine then_n (ks67 _ _ ?_)
                refine wp_cond_t (by kernel_rfl) ?_
                refine xseq_k fun KS69 ks69 => ?_
                refine wp_regS (l := [0]) (by kernel_rfl) (by kernel_rfl) fun KR70 kr70 => ?_
                refine wpS.take 0 false (some 4) (.slice none 0 0) (by kernel_rfl) (yld fun _ => by kernel_rfl) ?_
                refine wpS.fin rfl (kr70 _ _ ?_)
                refine then_n (ks69 _ _ ?_)
                refine xret ?_
                refine then_r ?_
                have q0 := of_some h
                subst q0
                have hs := hs.addNilL (CI .u8) 5
                exact qq _ _ (post_ret (by kernel_rfl) (run_results [.tmp 4] [.slice none 0 0] (by kernel_rfl) (.cons (res_tmp (by kernel_rfl)) .nil)) ⟨⟨none, 0, 0⟩, congrArg Ending.returned (by kernel_rfl), (((hs.conv (L' := [.ownL (CI .u8) none 0 0 ([] : List Int) 5, .ownL (CI .u8) r16_A r16_n r16_c r16 5, .ownL (CI .u8) r14_A r14_n r14_c r14 5, .ownL (CI .u8) r4_A r4_n r4_c r4 5, .blk b2 ([.slice a1_0_A a1_0_n a1_0_c, .slice a1_1_A a1_1_n a1_1_c, .slice a1_2_A a1_2_n a1_2_c, .slice a1_3_A a1_3_n a1_3_c, .slice a1_4_A a1_4_n a1_4_c, .slice a1_5_A a1_5_n a1_5_c]) 29, .blk b1 ([.int .i64 a0_0, .int .i64 a0_1, .int .i32 a0_2, .int .i64 a0_3, .int .i32 a0_4, .int .i32 a0_5, .int .i64 a0_6, .int .i64 a0_7]) 23]) rfl).drop (.cons_cons _ (.cons _ (.cons _ (.cons _ (.cons _ (.cons _ .slnil))))))).pickR pick_nil)⟩)
              | false =>
                have h := of_if_f h
                refine wpS.take 7 false (some 63) (.bool false) (by kernel_rfl) (yld fun _ => by kernel_rfl) ?_
                refine wpS.take 8 false (some 9) (.slice r16_A r16_n r16_c) (by kernel_rfl) (yld fun _ => by kernel_rfl) ?_
                refine wpS.take 9 false (some 10) (.bool false) (by kernel_rfl) (yld fun _ => by kernel_rfl) ?_
                refine wpS.fin rfl (kr61 _ _ ?_)
                refine then_n (ks60 _ _ ?_)
                refine xseq_k fun KS75 ks75 => ?_
                refine xseq_k fun KS76 ks76 => ?_
                refine wp_regS (l := [0, 1, 2, 3, 4, 5, 6, 7, 8, 9]) (by kernel_rfl) (by kernel_rfl) fun KR77 kr77 => ?_
                refine wpS.take 0 false (some 64) (.bool false) (by kernel_rfl) (yld fun _ => by kernel_rfl) ?_
                refine wpS.take 1 false (some 65) (.bool true) (by kernel_rfl) (yld fun _ => by kernel_rfl) ?_
                refine wpS.take 2 false (some 66) (.bool true) (by kernel_rfl) (yld fun _ => by kernel_rfl) ?_
                refine wpS.take 3 false (some 67) (undef) (by kernel_rfl) (yld fun _ => by kernel_rfl) ?_
                refine wpS.take 4 false (some 68) (undef) (by kernel_rfl) (yld fun _ => by kernel_rfl) ?_
                refine wpS.take 5 false (some 69) (.bool true) (by kernel_rfl) (yld fun _ => by kernel_rfl) ?_
                refine wpS.take 6 false (some 70) (.bool true) (by kernel_rfl) (yld fun _ => by kernel_rfl) ?_
                refine wpS.take 7 false (some 71) (undef) (by kernel_rfl) (yld fun _ => by kernel_rfl) ?_
                refine wpS.take 8 false (some 72) (undef) (by kernel_rfl) (yld fun _ => by kernel_rfl) ?_
                refine wpS.take 9 false (some 73) (.bool true) (by kernel_rfl) (yld fun _ => by kernel_rfl) ?_
                refine wpS.fin rfl (kr77 _ _ ?_)
                refine then_n (ks76 _ _ ?_)
                refine wp_cond_t (by kernel_rfl) ?_
                refine xseq_k fun KS78 ks78 => ?_
                refine wp_regS (l := [0]) (by kernel_rfl) (by kernel_rfl) fun KR79 kr79 => ?_
                refine wpS.take 0 false (some 4) (.slice none 0 0) (by kernel_rfl) (yld fun _ => by kernel_rfl) ?_
                refine wpS.fin rfl (kr79 _ _ ?_)
                refine then_n (ks78 _ _ ?_)
                refine xret ?_
                refine then_r ?_
                have q0 := of_some h
                subst q0
                have hs := hs.addNilL (CI .u8) 5
                exact qq _ _ (post_ret (by kernel_rfl) (run_results [.tmp 4] [.slice none 0 0] (by kernel_rfl) (.cons (res_tmp (by kernel_rfl)) .nil)) ⟨⟨none, 0, 0⟩, congrArg Ending.returned (by kernel_rfl), (((hs.conv (L' := [.ownL (CI .u8) none 0 0 ([] : List Int) 5, .ownL (CI .u8) r16_A r16_n r16_c r16 5, .ownL (CI .u8) r14_A r14_n r14_c r14 5, .ownL (CI .u8) r4_A r4_n r4_c r4 5, .blk b2 ([.slice a1_0_A a1_0_n a1_0_c, .slice a1_1_A a1_1_n a1_1_c, .slice a1_2_A a1_2_n a1_2_c, .slice a1_3_A a1_3_n a1_3_c, .slice a1_4_A a1_4_n a1_4_c, .slice a1_5_A a1_5_n a1_5_c]) 29, .blk b1 ([.int .i64 a0_0, .int .i64 a0_1, .int .i32 a0_2, .int .i64 a0_3, .int .i32 a0_4, .int .i32 a0_5, .int .i64 a0_6, .int .i64 a0_7]) 23]) rfl).drop (.cons_cons _ (.cons _ (.cons _ (.cons _ (.cons _ (.cons _ .slnil))))))).pickR pick_nil)⟩)
            | false =>
              have h := of_if_f h
              refine wpS.take 11 false (some 55) (.bool false) (by kernel_rfl) (yld fun _ => by kernel_rfl) ?_
              refine wpS.take 12 false (some 7) (.slice r14_A r14_n r14_c) (by kernel_rfl) (yld fun _ => by kernel_rfl) ?_
              refine wpS.take 13 false (some 8) (.bool false) (by kernel_rfl) (yld fun _ => by kernel_rfl) ?_
              refine wpS.fin rfl (kr59 _ _ ?_)
              refine then_n (ks58 _ _ ?_)
              refine xseq_k fun KS80 ks80 => ?_
              refine wp_regS (l := [0, 1, 2, 3, 4, 5, 6, 7, 8, 9]) (by kernel_rfl) (by kernel_rfl) fun KR81 kr81 => ?_
              refine wpS.take 0 false (some 57) (.pointer (some ⟨b2, 5, none⟩)) (by kernel_rfl) (yld fun _ => by kernel_rfl) ?_
              refine wpS.take 1 true (some 58) (.slice a1_5_A a1_5_n a1_5_c) (by kernel_rfl) (yld_load1 (e := 25) (o := 5) hs 2 rfl (by kernel_rfl) (by kernel_rfl) (by rfl) .grow) ?_
              refine wpS.take 2 false (some 59) (.pointer (some ⟨b1, 0, none⟩)) (by kernel_rfl) (yld fun _ => by kernel_rfl) ?_
              refine wpS.take 3 true (some 60) (.int .i64 a0_0) (by kernel_rfl) (yld_load1 (e := 3) (o := 0) hs 3 rfl (by kernel_rfl) (by kernel_rfl) (by rfl) .grow) ?_
              obtain ⟨⟨r18, r19⟩, hg, h⟩ := of_bind h
              refine wpS.only 4 (op_callH (d := (some 61)) (by kernel_rfl) hs (fun _ => by kernel_rfl) (ref22_row.ok hg _ (hs.rowR 5 rfl)) ?_)
              rintro ⟨r18_A, r18_n, r18_c⟩ w gw hs
              have hs := hs.conv (L' := [.ownL (CI .u8) r18_A r18_n r18_c r18 5, .ownL (CI .u8) r14_A r14_n r14_c r14 5, .ownL (CI .u8) r4_A r4_n r4_c r4 5, .blk b2 ([.slice a1_0_A a1_0_n a1_0_c, .slice a1_1_A a1_1_n a1_1_c, .slice a1_2_A a1_2_n a1_2_c, .slice a1_3_A a1_3_n a1_3_c, .slice a1_4_A a1_4_n a1_4_c, .slice a1_5_A a1_5_n a1_5_c]) 29, .blk b1 ([.int .i64 a0_0, .int .i64 a0_1, .int .i32 a0_2, .int .i64 a0_3, .int .i32 a0_4, .int .i32 a0_5, .int .i64 a0_6, .int .i64 a0_7]) 23]) rfl
              refine ⟨fun _ => trivial, ?_⟩
              refine wpS.take 5 false (some 56) (.tuple #[.slice r18_A r18_n r18_c, .bool r19]) (by kernel_rfl) (yld fun _ => by kernel_rfl) ?_
              refine wpS.take 6 false (some 62) (.slice r18_A r18_n r18_c) (by kernel_rfl) (yld fun _ => by kernel_rfl) ?_
              cases r19 with
              | true =>
                have h := of_if_t h
                refine wpS.take 7 false (some 63) (.bool true) (by kernel_rfl) (yld fun _ => by kernel_rfl) ?_
                refine wpS.take 8 false (some 9) (.slice r18_A r18_n r18_c) (by kernel_rfl) (yld fun _ => by kernel_rfl) ?_
                refine wpS.take 9 false (some 10) (.bool true) (by kernel_rfl) (yld fun _ => by kernel_rfl) ?_
                refine wpS.fin rfl (kr81 _ _ ?_)
                refine then_n (ks80 _ _ ?_)
                refine xseq_k fun KS86 ks86 => ?_
                refine xseq_k fun KS87 ks87 => ?_
                refine wp_regS (l := [0, 1, 2, 3, 4, 5, 6, 7, 8, 9]) (by kernel_rfl) (by kernel_rfl) fun KR88 kr88 => ?_
                refine wpS.take 0 false (some 64) (.bool false) (by kernel_rfl) (yld fun _ => by kernel_rfl) ?_
                refine wpS.take 1 false (some 65) (.bool true) (by kernel_rfl) (yld fun _ => by kernel_rfl) ?_
                refine wpS.take 2 false (some 66) (.bool true) (by kernel_rfl) (yld fun _ => by kernel_rfl) ?_
                refine wpS.take 3 false (some 67) (undef) (by kernel_rfl) (yld fun _ => by kernel_rfl) ?_
                refine wpS.take 4 false (some 68) (undef) (by kernel_rfl) (yld fun _ => by kernel_rfl) ?_
                refine wpS.take 5 false (some 69) (.bool true) (by kernel_rfl) (yld fun _ => by kernel_rfl) ?_
                refine wpS.take 6 false (some 70) (.bool true) (by kernel_rfl) (yld fun _ => by kernel_rfl) ?_
                refine wpS.take 7 false (some 71) (undef) (by kernel_rfl) (yld fun _ => by kernel_rfl) ?_
                refine wpS.take 8 false (some 72) (undef) (by kernel_rfl) (yld fun _ => by kernel_rfl) ?_
                refine wpS.take 9 false (some 73) (.bool true) (by kernel_rfl) (yld fun _ => by kernel_rfl) ?_
                refine wpS.fin rfl (kr88 _ _ ?_)
                refine then_n (ks87 _ _ ?_)
                refine wp_cond_t (by kernel_rfl) ?_
                refine xseq_k fun KS89 ks89 => ?_
                refine wp_regS (l := [0]) (by kernel_rfl) (by kernel_rfl) fun KR90 kr90 => ?_
                refine wpS.take 0 false (some 4) (.slice none 0 0) (by kernel_rfl) (yld fun _ => by kernel_rfl) ?_
                refine wpS.fin rfl (kr90 _ _ ?_)
                refine then_n (ks89 _ _ ?_)
                refine xret ?_
                refine then_r ?_
                have q0 := of_some h
                subst q0
                have hs := hs.addNilL (CI .u8) 5
                exact qq _ _ (post_ret (by kernel_rfl) (run_results [.tmp 4] [.slice none 0 0] (by kernel_rfl) (.cons (res_tmp (by kernel_rfl)) .nil)) ⟨⟨none, 0, 0⟩, congrArg Ending.returned (by kernel_rfl), (((hs.conv (L' := [.ownL (CI .u8) none 0 0 ([] : List Int) 5, .ownL (CI .u8) r18_A r18_n r18_c r18 5, .ownL (CI .u8) r14_A r14_n r14_c r14 5, .ownL (CI .u8) r4_A r4_n r4_c r4 5, .blk b2 ([.slice a1_0_A a1_0_n a1_0_c, .slice a1_1_A a1_1_n a1_1_c, .slice a1_2_A a1_2_n a1_2_c, .slice a1_3_A a1_3_n a1_3_c, .slice a1_4_A a1_4_n a1_4_c, .slice a1_5_A a1_5_n a1_5_c]) 29, .blk b1 ([.int .i64 a0_0, .int .i64 a0_1, .int .i32 a0_2, .int .i64 a0_3, .int .i32 a0_4, .int .i32 a0_5, .int .i64 a0_6, .int .i64 a0_7]) 23]) rfl).drop (.cons_cons _ (.cons _ (.cons _ (.cons _ (.cons _ (.cons _ .slnil))))))).pickR pick_nil)⟩)
              | false =>
                have h := of_if_f h
                refine wpS.take 7 false (some 63) (.bool false) (by kernel_rfl) (yld fun _ => by kernel_rfl) ?_
                refine wpS.take 8 false (some 9) (.slice r18_A r18_n r18_c) (by kernel_rfl) (yld fun _ => by kernel_rfl) ?_
                refine wpS.take 9 false (some 10) (.bool false) (by kernel_rfl) (yld fun _ => by kernel_rfl) ?_
                refine wpS.fin rfl (kr81 _ _ ?_)
                refine then_n (ks80 _ _ ?_)
                refine xseq_k fun KS95 ks95 => ?_
                refine xseq_k fun KS96 ks96 => ?_
                refine wp_regS (l := [0, 1, 2, 3, 4, 5, 6, 7, 8, 9]) (by kernel_rfl) (by kernel_rfl) fun KR97 kr97 => ?_
                refine wpS.take 0 false (some 64) (.bool false) (by kernel_rfl) (yld fun _ => by kernel_rfl) ?_
                refine wpS.take 1 false (some 65) (.bool true) (by kernel_rfl) (yld fun _ => by kernel_rfl) ?_
                refine wpS.take 2 false (some 66) (.bool true) (by kernel_rfl) (yld fun _ => by kernel_rfl) ?_
                refine wpS.take 3 false (some 67) (undef) (by kernel_rfl) (yld fun _ => by kernel_rfl) ?_
                refine wpS.take 4 false (some 68) (undef) (by kernel_rfl) (yld fun _ => by kernel_rfl) ?_
                refine wpS.take 5 false (some 69) (.bool true) (by kernel_rfl) (yld fun _ => by kernel_rfl) ?_
                refine wpS.take 6 false (some 70) (.bool true) (by kernel_rfl) (yld fun _ => by kernel_rfl) ?_
                refine wpS.take 7 false (some 71) (undef) (by kernel_rfl) (yld fun _ => by kernel_rfl) ?_
                refine wpS.take 8 false (some 72) (undef) (by kernel_rfl) (yld fun _ => by kernel_rfl) ?_
                refine wpS.take 9 false (some 73) (.bool true) (by kernel_rfl) (yld fun _ => by kernel_rfl) ?_
                refine wpS.fin rfl (kr97 _ _ ?_)
                refine then_n (ks96 _ _ ?_)
                refine wp_cond_t (by kernel_rfl) ?_
                refine xseq_k fun KS98 ks98 => ?_
                refine wp_regS (l := [0]) (by kernel_rfl) (by kernel_rfl) fun KR99 kr99 => ?_
                refine wpS.take 0 false (some 4) (.slice none 0 0) (by kernel_rfl) (yld fun _ => by kernel_rfl) ?_
                refine wpS.fin rfl (kr99 _ _ ?_)
                refine then_n (ks98 _ _ ?_)
                refine xret ?_
                refine then_r ?_
                have q0 := of_some h
                subst q0
                have hs := hs.addNilL (CI .u8) 5
                exact qq _ _ (post_ret (by kernel_rfl) (run_results [.tmp 4] [.slice none 0 0] (by kernel_rfl) (.cons (res_tmp (by kernel_rfl)) .nil)) ⟨⟨none, 0, 0⟩, congrArg Ending.returned (by kernel_rfl), (((hs.conv (L' := [.ownL (CI .u8) none 0 0 ([] : List Int) 5, .ownL (CI .u8) r18_A r18_n r18_c r18 5, .ownL (CI .u8) r14_A r14_n r14_c r14 5, .ownL (CI .u8) r4_A r4_n r4_c r4 5, .blk b2 ([.slice a1_0_A a1_0_n a1_0_c, .slice a1_1_A a1_1_n a1_1_c, .slice a1_2_A a1_2_n a1_2_c, .slice a1_3_A a1_3_n a1_3_c, .slice a1_4_A a1_4_n a1_4_c, .slice a1_5_A a1_5_n a1_5_c]) 29, .blk b1 ([.int .i64 a0_0, .int .i64 a0_1, .int .i32 a0_2, .int .i64 a0_3, .int .i32 a0_4, .int .i32 a0_5, .int .i64 a0_6, .int .i64 a0_7]) 23]) rfl).drop (.cons_cons _ (.cons _ (.cons _ (.cons _ (.cons _ (.cons _ .slnil))))))).pickR pick_nil)⟩)
        · refine wpS.take 19 false (some 30) (.bool true) (by kernel_rfl) (yld_b (nt hc) (fun _ => by kernel_rfl)) ?_
          refine wpS.take 20 false (some 31) (.bool true) (by kernel_rfl) (yld fun _ => by kernel_rfl) ?_
          refine wpS.fin rfl (kr15 _ _ ?_)
          refine then_n (ks14 _ _ ?_)
          refine wp_cond_t (by kernel_rfl) ?_
          refine xseq_k fun KS100 ks100 => ?_
          refine wp_regS (l := [0]) (by kernel_rfl) (by kernel_rfl) fun KR101 kr101 => ?_
          refine wpS.take 0 false (some 4) (.slice none 0 0) (by kernel_rfl) (yld fun _ => by kernel_rfl) ?_
          refine wpS.fin rfl (kr101 _ _ ?_)
          refine then_n (ks100 _ _ ?_)
          refine xret ?_
          refine then_r ?_
          have q0 := of_some h
          subst q0
          have hs := hs.addNilL (CI .u8) 5
          exact qq _ _ (post_ret (by kernel_rfl) (run_results [.tmp 4] [.slice none 0 0] (by kernel_rfl) (.cons (res_tmp (by kernel_rfl)) .nil)) ⟨⟨none, 0, 0⟩, congrArg Ending.returned (by kernel_rfl), (((hs.conv (L' := [.ownL (CI .u8) none 0 0 ([] : List Int) 5, .blk b2 ([.slice a1_0_A a1_0_n a1_0_c, .slice a1_1_A a1_1_n a1_1_c, .slice a1_2_A a1_2_n a1_2_c, .slice a1_3_A a1_3_n a1_3_c, .slice a1_4_A a1_4_n a1_4_c, .slice a1_5_A a1_5_n a1_5_c]) 29, .blk b1 ([.int .i64 a0_0, .int .i64 a0_1, .int .i32 a0_2, .int .i64 a0_3, .int .i32 a0_4, .int .i32 a0_5, .int .i64 a0_6, .int .i64 a0_7]) 23]) rfl).drop (.cons_cons _ (.cons _ (.cons _ .slnil)))).pickR pick_nil)⟩)
      · refine wpS.take 13 false (some 24) (.bool true) (by kernel_rfl) (yld_b (nt hc) (fun _ => by kernel_rfl)) ?_
        refine wpS.take 14 false (some 25) (.bool true) (by kernel_rfl) (yld fun _ => by kernel_rfl) ?_
        refine wpS.take 15 false (some 26) (.bool true) (by kernel_rfl) (yld fun _ => by kernel_rfl) ?_
        refine wpS.take 16 false (some 27) (undef) (by kernel_rfl) (yld fun _ => by kernel_rfl) ?_
        refine wpS.take 17 false (some 28) (undef) (by kernel_rfl) (yld fun _ => by kernel_rfl) ?_
        refine wpS.take 18 false (some 29) (undef) (by kernel_rfl) (yld fun _ => by kernel_rfl) ?_
        refine wpS.take 19 false (some 30) (undef) (by kernel_rfl) (yld fun _ => by kernel_rfl) ?_
        refine wpS.take 20 false (some 31) (.bool true) (by kernel_rfl) (yld fun _ => by kernel_rfl) ?_
        refine wpS.fin rfl (kr15 _ _ ?_)
        refine then_n (ks14 _ _ ?_)
        refine wp_cond_t (by kernel_rfl) ?_
        refine xseq_k fun KS102 ks102 => ?_
        refine wp_regS (l := [0]) (by kernel_rfl) (by kernel_rfl) fun KR103 kr103 => ?_
        refine wpS.take 0 false (some 4) (.slice none 0 0) (by kernel_rfl) (yld fun _ => by kernel_rfl) ?_
        refine wpS.fin rfl (kr103 _ _ ?_)
        refine then_n (ks102 _ _ ?_)
        refine xret ?_
        refine then_r ?_
        have q0 := of_some h
        subst q0
        have hs := hs.addNilL (CI .u8) 5
        exact qq _ _ (post_ret (by kernel_rfl) (run_results [.tmp 4] [.slice none 0 0] (by kernel_rfl) (.cons (res_tmp (by kernel_rfl)) .nil)) ⟨⟨none, 0, 0⟩, congrArg Ending.returned (by kernel_rfl), (((hs.conv (L' := [.ownL (CI .u8) none 0 0 ([] : List Int) 5, .blk b2 ([.slice a1_0_A a1_0_n a1_0_c, .slice a1_1_A a1_1_n a1_1_c, .slice a1_2_A a1_2_n a1_2_c, .slice a1_3_A a1_3_n a1_3_c, .slice a1_4_A a1_4_n a1_4_c, .slice a1_5_A a1_5_n a1_5_c]) 29, .blk b1 ([.int .i64 a0_0, .int .i64 a0_1, .int .i32 a0_2, .int .i64 a0_3, .int .i32 a0_4, .int .i32 a0_5, .int .i64 a0_6, .int .i64 a0_7]) 23]) rfl).drop (.cons_cons _ (.cons _ (.cons _ .slnil)))).pickR pick_nil)⟩)
    · refine wpS.take 7 false (some 18) (.bool true) (by kernel_rfl) (yld_b (nt hc) (fun _ => by kernel_rfl)) ?_
      refine wpS.take 8 false (some 19) (.bool true) (by kernel_rfl) (yld fun _ => by kernel_rfl) ?_
      refine wpS.take 9 false (some 20) (.bool true) (by kernel_rfl) (yld fun _ => by kernel_rfl) ?_
      refine wpS.take 10 false (some 21) (undef) (by kernel_rfl) (yld fun _ => by kernel_rfl) ?_
      refine wpS.take 11 false (some 22) (undef) (by kernel_rfl) (yld fun _ => by kernel_rfl) ?_
      refine wpS.take 12 false (some 23) (undef) (by kernel_rfl) (yld fun _ => by kernel_rfl) ?_
      refine wpS.take 13 false (some 24) (undef) (by kernel_rfl) (yld fun _ => by kernel_rfl) ?_
      refine wpS.take 14 false (some 25) (.bool true) (by kernel_rfl) (yld fun _ => by kernel_rfl) ?_
      refine wpS.take 15 false (some 26) (.bool true) (by kernel_rfl) (yld fun _ => by kernel_rfl) ?_
      refine wpS.take 16 false (some 27) (undef) (by kernel_rfl) (yld fun _ => by kernel_rfl) ?_
      refine wpS.take 17 false (some 28) (undef) (by kernel_rfl) (yld fun _ => by kernel_rfl) ?_
      refine wpS.take 18 false (some 29) (undef) (by kernel_rfl) (yld fun _ => by kernel_rfl) ?_
      refine wpS.take 19 false (some 30) (undef) (by kernel_rfl) (yld fun _ => by kernel_rfl) ?_
      refine wpS.take 20 false (some 31) (.bool true) (by kernel_rfl) (yld fun _ => by kernel_rfl) ?_
      refine wpS.fin rfl (kr15 _ _ ?_)
      refine then_n (ks14 _ _ ?_)
      refine wp_cond_t (by kernel_rfl) ?_
      refine xseq_k fun KS104 ks104 => ?_
      refine wp_regS (l := [0]) (by kernel_rfl) (by kernel_rfl) fun KR105 kr105 => ?_
      refine wpS.take 0 false (some 4) (.slice none 0 0) (by kernel_rfl) (yld fun _ => by kernel_rfl) ?_
      refine wpS.fin rfl (kr105 _ _ ?_)
      refine then_n (ks104 _ _ ?_)
      refine xret ?_
      refine then_r ?_
      have q0 := of_some h
      subst q0
      have hs := hs.addNilL (CI .u8) 5
      exact qq _ _ (post_ret (by kernel_rfl) (run_results [.tmp 4] [.slice none 0 0] (by kernel_rfl) (.cons (res_tmp (by kernel_rfl)) .nil)) ⟨⟨none, 0, 0⟩, congrArg Ending.returned (by kernel_rfl), (((hs.conv (L' := [.ownL (CI .u8) none 0 0 ([] : List Int) 5, .blk b2 ([.slice a1_0_A a1_0_n a1_0_c, .slice a1_1_A a1_1_n a1_1_c, .slice a1_2_A a1_2_n a1_2_c, .slice a1_3_A a1_3_n a1_3_c, .slice a1_4_A a1_4_n a1_4_c, .slice a1_5_A a1_5_n a1_5_c]) 29, .blk b1 ([.int .i64 a0_0, .int .i64 a0_1, .int .i32 a0_2, .int .i64 a0_3, .int .i32 a0_4, .int .i32 a0_5, .int .i64 a0_6, .int .i64 a0_7]) 23]) rfl).drop (.cons_cons _ (.cons _ (.cons _ .slnil)))).pickR pick_nil)⟩)
  | false =>
    have h := of_if_f h
    refine wpS.only 1 (op_call (d := (some 12)) (by kernel_rfl) hs (fun _ => by kernel_rfl) (ref22_Known.ok hg _) ?_)
    intro w gw hs
    refine ⟨fun _ => trivial, ?_⟩
    refine wpS.take 2 false (some 13) (.bool true) (by kernel_rfl) (yld fun _ => by kernel_rfl) ?_
    refine wpS.take 3 false (some 14) (.bool true) (by kernel_rfl) (yld fun _ => by kernel_rfl) ?_
    refine wpS.take 4 false (some 15) (undef) (by kernel_rfl) (yld fun _ => by kernel_rfl) ?_
    refine wpS.take 5 false (some 16) (undef) (by kernel_rfl) (yld fun _ => by kernel_rfl) ?_
    refine wpS.take 6 false (some 17) (undef) (by kernel_rfl) (yld fun _ => by kernel_rfl) ?_
    refine wpS.take 7 false (some 18) (undef) (by kernel_rfl) (yld fun _ => by kernel_rfl) ?_
    refine wpS.take 8 false (some 19) (.bool true) (by kernel_rfl) (yld fun _ => by kernel_rfl) ?_
    refine wpS.take 9 false (some 20) (.bool true) (by kernel_rfl) (yld fun _ => by kernel_rfl) ?_
    refine wpS.take 10 false (some 21) (undef) (by kernel_rfl) (yld fun _ => by kernel_rfl) ?_
    refine wpS.take 11 false (some 22) (undef) (by kernel_rfl) (yld fun _ => by kernel_rfl) ?_
    refine wpS.take 12 false (some 23) (undef) (by kernel_rfl) (yld fun _ => by kernel_rfl) ?_
    refine wpS.take 13 false (some 24) (undef) (by kernel_rfl) (yld fun _ => by kernel_rfl) ?_
    refine wpS.take 14 false (some 25) (.bool true) (by kernel_rfl) (yld fun _ => by kernel_rfl) ?_
    refine wpS.take 15 false (some 26) (.bool true) (by kernel_rfl) (yld fun _ => by kernel_rfl) ?_
    refine wpS.take 16 false (some 27) (undef) (by kernel_rfl) (yld fun _ => by kernel_rfl) ?_
    refine wpS.take 17 false (some 28) (undef) (by kernel_rfl) (yld fun _ => by kernel_rfl) ?_
    refine wpS.take 18 false (some 29) (undef) (by kernel_rfl) (yld fun _ => by kernel_rfl) ?_
    refine wpS.take 19 false (some 30) (undef) (by kernel_rfl) (yld fun _ => by kernel_rfl) ?_
    refine wpS.take 20 false (some 31) (.bool true) (by kernel_rfl) (yld fun _ => by kernel_rfl) ?_
    refine wpS.fin rfl (kr15 _ _ ?_)
    refine then_n (ks14 _ _ ?_)
    refine wp_cond_t (by kernel_rfl) ?_
    refine xseq_k fun KS106 ks106 => ?_
    refine wp_regS (l := [0]) (by kernel_rfl) (by kernel_rfl) fun KR107 kr107 => ?_
    refine wpS.take 0 false (some 4) (.slice none 0 0) (by kernel_rfl) (yld fun _ => by kernel_rfl) ?_
    refine wpS.fin rfl (kr107 _ _ ?_)
    refine then_n (ks106 _ _ ?_)
    refine xret ?_
    refine then_r ?_
    have q0 := of_some h
    subst q0
    have hs := hs.addNilL (CI .u8) 5
    exact qq _ _ (post_ret (by kernel_rfl) (run_results [.tmp 4] [.slice none 0 0] (by kernel_rfl) (.cons (res_tmp (by kernel_rfl)) .nil)) ⟨⟨none, 0, 0⟩, congrArg Ending.returned (by kernel_rfl), (((hs.conv (L' := [.ownL (CI .u8) none 0 0 ([] : List Int) 5, .blk b2 ([.slice a1_0_A a1_0_n a1_0_c, .slice a1_1_A a1_1_n a1_1_c, .slice a1_2_A a1_2_n a1_2_c, .slice a1_3_A a1_3_n a1_3_c, .slice a1_4_A a1_4_n a1_4_c, .slice a1_5_A a1_5_n a1_5_c]) 29, .blk b1 ([.int .i64 a0_0, .int .i64 a0_1, .int .i32 a0_2, .int .i64 a0_3, .int .i32 a0_4, .int .i32 a0_5, .int .i64 a0_6, .int .i64 a0_7]) 23]) rfl).drop (.cons_cons _ (.cons _ (.cons _ .slnil)))).pickR pick_nil)⟩)
end Go.Proofs.Ytblploekkjeolaa
