/- Printed by this work's own program: the code of each function below comes to the answer that its plain form tells. -/
import Derived.Test.YtmpagpbnpgcecaaMd
import Derived.Test.YtmpagpbnpgcecaaProg
import Derived.Test.YtmpagpbnpgcecaaGF0
import Derived.Test.YtmpagpbnpgcecaaGX4
set_option linter.unusedVariables false
set_option linter.unusedSimpArgs false
set_option maxRecDepth 100000
set_option maxHeartbeats 4000000
namespace Go.Proofs.Ytmpagpbnpgcecaa
open Go.Mx
attribute [local irreducible] wpOp

theorem ref10_keys.ok {K : Nat} {a0 : List Int} {a1 : Arr 256} {r0 : List Int} {a0_A : Option Addr} {a0_n : Nat} {a0_c : Nat} (h : ref10_keys.f K a0 a1 = some r0) (w0 : World) (hp0 : RowL (CI .u8) w0 a0_A a0_n a0_c a0) : Calls Try.prog 52 #[.slice a0_A a0_n a0_c, .agg (enc .u8 a1).toArray] w0 fun e w' => ∃ h : (Option Addr × Nat × Nat), e = .returned (.slice h.1 h.2.1 h.2.2) ∧ St w0 [] [.ownL (CI .u8) h.1 h.2.1 h.2.2 r0 5] [] w' := by
 refine calls_k Try.func52 rfl fun Q qq => ?_
 have hs := St.startR (all_cons (RowP.ent hp0) all_nil)
 refine wp_conv (a' := ⟨#[.slice a0_A a0_n a0_c, .agg (enc .u8 a1).toArray, undef, undef, undef, undef, undef, undef, undef, undef, undef, undef, undef, undef, undef, undef, undef, undef, undef, undef, undef, undef, undef, undef, undef, undef, undef, undef, undef, undef, undef, undef, undef, undef, undef, undef, undef, undef, undef, undef, undef, undef, undef, undef, undef, undef, undef, undef, undef, undef, undef, undef, undef, undef, undef, undef, undef, undef, undef, undef, undef, undef, undef, undef, undef, undef, undef, undef, undef, undef, undef, undef, undef, undef, undef, undef, undef, undef, undef, undef, undef, undef, undef, undef, undef, undef, undef, undef, undef, undef, undef, undef, undef, undef, undef, undef, undef, undef, undef, undef, undef, undef, undef, undef, undef, undef, undef, undef, undef, undef, undef, undef, undef, undef, undef, undef, undef, undef, undef, undef, undef, undef, undef, undef, undef, undef, undef, undef, undef], []⟩) (by kernel_rfl) ?_
 refine xseq_k fun KS1 ks1 => ?_
 refine xregS [0, 1] fun KR2 kr2 => ?_
 refine wpS.only 0 (op_box (t := 46) (v := .agg (enc .u8 a1).toArray) (d := (some 3)) (by kernel_rfl) hs (enc .u8 a1) (by kernel_rfl) (by kernel_rfl) ?_)
 intro b1 w gw hs
 refine ⟨fun _ => trivial, ?_⟩
 refine wpS.q 1 4 (.slice none 0 0) ?_
 refine wpS.fin rfl (kr2 _ _ (then_n (ks1 _ _ (xseq_k fun KS3 ks3 => (xregS [0, 1, 2, 3] fun KR4 kr4 => ?_)))))
 refine wpS.q 0 11 (.slice a0_A a0_n a0_c) ?_
 refine wpS.tk 1 false (some 12) (.int .i64 (a0.length : Int)) (yld_lenL (hs.rowR 0 rfl) (fun _ => by kernel_rfl)) ?_
 refine wpS.q 2 13 (.int .i64 (iquo .i64 (a0.length : Int) 4)) ?_
 obtain ⟨x2, hx, h⟩ := of_bind h
 refine wpS.tk 3 false (some 5) (.int .i64 x2) (yld_int hx (fun _ => by kernel_rfl)) ?_
 refine wpS.fin rfl (kr4 _ _ (then_n (ks3 _ _ (xseq_k fun KS5 ks5 => (xregS [0] fun KR6 kr6 => ?_)))))
 refine wpS.q 0 6 (.slice none 0 0) ?_
 refine wpS.fin rfl (kr6 _ _ (then_n (ks5 _ _ (xseq_k fun KS7 ks7 => (xregS [0, 1, 2, 3] fun KR8 kr8 => ?_)))))
 refine wpS.qs [(0, 14, .slice none 0 0), (1, 15, .slice a0_A a0_n a0_c)] ?_
 obtain ⟨h0, h⟩ := of_chk h
 have hs := hs.addNilL (CI .u8) 5
 refine wpS.only 2 (op_appendT (C := (CI .u8)) (t := 26) (ty := 26) (e := 5) (bytes := 1) (B := 140737488355328) (d := (some 16)) (by kernel_rfl) hs 0 rfl (hs.rowR 0 rfl) (by kernel_rfl) (by kernel_rfl) (by kernel_rfl) (by kernel_rfl) (by kernel_rfl) h0 (by decide) (by decide) ?_)
 intro s3_A s3_n s3_c w hs
 refine ⟨fun _ => trivial, ?_⟩
 refine wpS.q 3 6 (.slice s3_A s3_n s3_c) ?_
 refine wpS.fin rfl (kr8 _ _ (then_n (ks7 _ _ (xseq_k fun KS9 ks9 => (xregS [0] fun KR10 kr10 => ?_)))))
 refine wpS.q 0 7 (.int .u8 1) ?_
 refine wpS.fin rfl (kr10 _ _ (then_n (ks9 _ _ (xseq_k fun KS11 ks11 => (xseq_k fun KS12 ks12 => (xregS [0, 1] fun KR13 kr13 => ?_))))))
 refine wpS.qs [(0, 17, .int .i64 x2), (1, 8, .int .i64 x2)] ?_
 refine wpS.fin rfl (kr13 _ _ (then_n (ks12 _ _ ?_)))
 obtain ⟨y7, hy, hk0⟩ := of_bind h
 refine wp_exq (N := fun a w => ∃ (y7_A : Option Addr) (y7_n : Nat) (y7_c : Nat), St w0 [] [.ownL (CI .u8) y7_A y7_n y7_c y7 5, .blk b1 (enc .u8 a1) 46] [.rowL (CI .u8) a0_A a0_n a0_c a0] w ∧ ∃ g15 : Nat → Value, a = ⟨#[.slice a0_A a0_n a0_c, .agg (enc .u8 a1).toArray, undef, .pointer (some ⟨b1, 0, none⟩), .slice none 0 0, .int .i64 x2, .slice y7_A y7_n y7_c, (g15 7), (g15 8), (g15 9), (g15 10), .slice a0_A a0_n a0_c, .int .i64 (a0.length : Int), .int .i64 (iquo .i64 (a0.length : Int) 4), .slice none 0 0, .slice a0_A a0_n a0_c, .slice s3_A s3_n s3_c, .int .i64 x2, (g15 18), (g15 19), (g15 20), (g15 21), (g15 22), (g15 23), (g15 24), (g15 25), (g15 26), (g15 27), (g15 28), (g15 29), (g15 30), (g15 31), (g15 32), (g15 33), (g15 34), (g15 35), (g15 36), (g15 37), (g15 38), (g15 39), (g15 40), (g15 41), (g15 42), (g15 43), (g15 44), (g15 45), (g15 46), (g15 47), (g15 48), (g15 49), (g15 50), (g15 51), (g15 52), (g15 53), (g15 54), (g15 55), (g15 56), (g15 57), (g15 58), (g15 59), (g15 60), (g15 61), (g15 62), (g15 63), (g15 64), (g15 65), (g15 66), (g15 67), (g15 68), (g15 69), (g15 70), (g15 71), (g15 72), (g15 73), (g15 74), (g15 75), (g15 76), (g15 77), (g15 78), (g15 79), (g15 80), (g15 81), (g15 82), (g15 83), (g15 84), (g15 85), (g15 86), (g15 87), (g15 88), (g15 89), (g15 90), (g15 91), (g15 92), (g15 93), (g15 94), (g15 95), (g15 96), (g15 97), (g15 98), (g15 99), (g15 100), (g15 101), (g15 102), (g15 103), (g15 104), (g15 105), (g15 106), (g15 107), (g15 108), (g15 109), (g15 110), (g15 111), (g15 112), (g15 113), (g15 114), (g15 115), (g15 116), (g15 117), (g15 118), (g15 119), (g15 120), (g15 121), (g15 122), (g15 123), (g15 124), (g15 125), (g15 126), (g15 127), undef], []⟩) (fun N0 nn0 => ?_) ?_
 ·clear hk0
  refine xblock ?_
  refine wp_loop_k (fun n a w => ∃ z4 z5 z6, ∃ (z6_A : Option Addr) (z6_n : Nat) (z6_c : Nat), ref10_keys.l0 K n a1 x2 z4 z5 z6 = some y7 ∧ St w0 [] [.ownL (CI .u8) z6_A z6_n z6_c z6 5, .blk b1 (enc .u8 a1) 46] [.rowL (CI .u8) a0_A a0_n a0_c a0] w ∧ ∃ g14 : Nat → Value, a = ⟨#[.slice a0_A a0_n a0_c, .agg (enc .u8 a1).toArray, undef, .pointer (some ⟨b1, 0, none⟩), .slice none 0 0, .int .i64 x2, .slice z6_A z6_n z6_c, .int .u8 z4, .int .i64 z5, (g14 9), (g14 10), .slice a0_A a0_n a0_c, .int .i64 (a0.length : Int), .int .i64 (iquo .i64 (a0.length : Int) 4), .slice none 0 0, .slice a0_A a0_n a0_c, .slice s3_A s3_n s3_c, .int .i64 x2, (g14 18), (g14 19), (g14 20), (g14 21), (g14 22), (g14 23), (g14 24), (g14 25), (g14 26), (g14 27), (g14 28), (g14 29), (g14 30), (g14 31), (g14 32), (g14 33), (g14 34), (g14 35), (g14 36), (g14 37), (g14 38), (g14 39), (g14 40), (g14 41), (g14 42), (g14 43), (g14 44), (g14 45), (g14 46), (g14 47), (g14 48), (g14 49), (g14 50), (g14 51), (g14 52), (g14 53), (g14 54), (g14 55), (g14 56), (g14 57), (g14 58), (g14 59), (g14 60), (g14 61), (g14 62), (g14 63), (g14 64), (g14 65), (g14 66), (g14 67), (g14 68), (g14 69), (g14 70), (g14 71), (g14 72), (g14 73), (g14 74), (g14 75), (g14 76), (g14 77), (g14 78), (g14 79), (g14 80), (g14 81), (g14 82), (g14 83), (g14 84), (g14 85), (g14 86), (g14 87), (g14 88), (g14 89), (g14 90), (g14 91), (g14 92), (g14 93), (g14 94), (g14 95), (g14 96), (g14 97), (g14 98), (g14 99), (g14 100), (g14 101), (g14 102), (g14 103), (g14 104), (g14 105), (g14 106), (g14 107), (g14 108), (g14 109), (g14 110), (g14 111), (g14 112), (g14 113), (g14 114), (g14 115), (g14 116), (g14 117), (g14 118), (g14 119), (g14 120), (g14 121), (g14 122), (g14 123), (g14 124), (g14 125), (g14 126), (g14 127), undef], []⟩) K ⟨1, x2, (([] : List Int) ++ a0), s3_A, s3_n, s3_c, hy, hs.conv rfl, exg (by kernel_rfl)⟩ ?_
  clear hs h hy
  rintro n a w ⟨z4, z5, z6, z6_A, z6_n, z6_c, h, hs, g14, rfl⟩ KL0 kl0
  cases n with
  | zero => exact nomatch (show none = some _ from h)
  | succ n =>
   refine xseq_k fun KS16 ks16 => ?_
   refine xseq_k fun KS17 ks17 => ?_
   refine xregS [0, 1, 2, 3, 4] fun KR18 kr18 => ?_
   refine wpS.qs [(0, 18, .int .i64 z5), (1, 19, .int .i64 x2), (2, 20, .int .i64 (iadd .i64 x2 7)), (3, 21, .int .i64 (imul .i64 4 (iadd .i64 x2 7)))] ?_
   rcases of_if h with ⟨hc, h⟩ | ⟨hc, h⟩
   ·refine wpS.tk 4 false (some 22) (.bool true) (yld_b (dt hc) (fun _ => by kernel_rfl)) ?_
    refine wpS.fin rfl (kr18 _ _ (then_n (ks17 _ _ (wp_cond_t (by kernel_rfl) (xskip (then_n (ks16 _ _ (xseq_k fun KS19 ks19 => (xblock (xseq_k fun KS20 ks20 => ?_))))))))))
    refine wp_regG [] (fun k => True) 26 (by kernel_rfl) (by kernel_rfl) (by kernel_rfl) fun KR21 kr21 => ?_
    have hs := hs.drawn1
    refine wpG.q 0 25 (.slice z6_A z6_n z6_c) ?_
    refine wpG.q 1 26 (.int .i64 z5) ?_
    refine wpG.q 2 27 (.int .i64 (imul .i64 4 z5)) ?_
    refine wpG.q 3 28 (.int .i64 (isub .i64 (imul .i64 4 z5) 4)) ?_
    obtain ⟨x8, hx, h⟩ := of_bind h
    have hx := of_some hx
    subst hx
    obtain ⟨h0, h⟩ := of_chk h
    obtain ⟨h1, h⟩ := of_chk h
    have i0_22 := h0
    have i1_22 := h1
    refine wpG.tD 4 false (some 29) (.pointer (adr z6_A (((isub .i64 (imul .i64 4 z5) 4) : Int).toNat * Cod.size (CI .u8)))) (yld_idxL (C := (CI .u8)) (t := 26) (e := 5) (k := .i64) (x := (isub .i64 (imul .i64 4 z5) 4)) (hs.rowL 0 rfl) (by kernel_rfl) (by kernel_rfl) (by kernel_rfl) h0 h1) ?_
    refine wpG.tD 5 true (some 30) (.int .u8 (rdL (CI .u8) z6 (isub .i64 (imul .i64 4 z5) 4))) (yld_loadL (C := (CI .u8)) (e := 5) (x := (isub .i64 (imul .i64 4 z5) 4)) (hs.rowL 0 rfl) (by kernel_rfl) rfl (by kernel_rfl) i0_22 i1_22) ?_
    refine wpG.q 6 31 (.slice z6_A z6_n z6_c) ?_
    refine wpG.q 7 32 (.int .i64 z5) ?_
    refine wpG.q 8 33 (.int .i64 (imul .i64 4 z5)) ?_
    refine wpG.q 9 34 (.int .i64 (isub .i64 (imul .i64 4 z5) 3)) ?_
    obtain ⟨x9, hx, h⟩ := of_bind h
    have hx := of_some hx
    subst hx
    obtain ⟨h0, h⟩ := of_chk h
    obtain ⟨h1, h⟩ := of_chk h
    have i0_23 := h0
    have i1_23 := h1
    refine wpG.tD 10 false (some 35) (.pointer (adr z6_A (((isub .i64 (imul .i64 4 z5) 3) : Int).toNat * Cod.size (CI .u8)))) (yld_idxL (C := (CI .u8)) (t := 26) (e := 5) (k := .i64) (x := (isub .i64 (imul .i64 4 z5) 3)) (hs.rowL 0 rfl) (by kernel_rfl) (by kernel_rfl) (by kernel_rfl) h0 h1) ?_
    refine wpG.tD 11 true (some 36) (.int .u8 (rdL (CI .u8) z6 (isub .i64 (imul .i64 4 z5) 3))) (yld_loadL (C := (CI .u8)) (e := 5) (x := (isub .i64 (imul .i64 4 z5) 3)) (hs.rowL 0 rfl) (by kernel_rfl) rfl (by kernel_rfl) i0_23 i1_23) ?_
    refine wpG.q 12 37 (.slice z6_A z6_n z6_c) ?_
    refine wpG.q 13 38 (.int .i64 z5) ?_
    refine wpG.q 14 39 (.int .i64 (imul .i64 4 z5)) ?_
    refine wpG.q 15 40 (.int .i64 (isub .i64 (imul .i64 4 z5) 2)) ?_
    obtain ⟨x10, hx, h⟩ := of_bind h
    have hx := of_some hx
    subst hx
    obtain ⟨h0, h⟩ := of_chk h
    obtain ⟨h1, h⟩ := of_chk h
    have i0_24 := h0
    have i1_24 := h1
    refine wpG.tD 16 false (some 41) (.pointer (adr z6_A (((isub .i64 (imul .i64 4 z5) 2) : Int).toNat * Cod.size (CI .u8)))) (yld_idxL (C := (CI .u8)) (t := 26) (e := 5) (k := .i64) (x := (isub .i64 (imul .i64 4 z5) 2)) (hs.rowL 0 rfl) (by kernel_rfl) (by kernel_rfl) (by kernel_rfl) h0 h1) ?_
    refine wpG.tD 17 true (some 42) (.int .u8 (rdL (CI .u8) z6 (isub .i64 (imul .i64 4 z5) 2))) (yld_loadL (C := (CI .u8)) (e := 5) (x := (isub .i64 (imul .i64 4 z5) 2)) (hs.rowL 0 rfl) (by kernel_rfl) rfl (by kernel_rfl) i0_24 i1_24) ?_
    refine wpG.q 18 43 (.slice z6_A z6_n z6_c) ?_
    refine wpG.q 19 44 (.int .i64 z5) ?_
    refine wpG.q 20 45 (.int .i64 (imul .i64 4 z5)) ?_
    refine wpG.q 21 46 (.int .i64 (isub .i64 (imul .i64 4 z5) 1)) ?_
    obtain ⟨x11, hx, h⟩ := of_bind h
    have hx := of_some hx
    subst hx
    obtain ⟨h0, h⟩ := of_chk h
    obtain ⟨h1, h⟩ := of_chk h
    have i0_25 := h0
    have i1_25 := h1
    refine wpG.tD 22 false (some 47) (.pointer (adr z6_A (((isub .i64 (imul .i64 4 z5) 1) : Int).toNat * Cod.size (CI .u8)))) (yld_idxL (C := (CI .u8)) (t := 26) (e := 5) (k := .i64) (x := (isub .i64 (imul .i64 4 z5) 1)) (hs.rowL 0 rfl) (by kernel_rfl) (by kernel_rfl) (by kernel_rfl) h0 h1) ?_
    refine wpG.tD 23 true (some 48) (.int .u8 (rdL (CI .u8) z6 (isub .i64 (imul .i64 4 z5) 1))) (yld_loadL (C := (CI .u8)) (e := 5) (x := (isub .i64 (imul .i64 4 z5) 1)) (hs.rowL 0 rfl) (by kernel_rfl) rfl (by kernel_rfl) i0_25 i1_25) ?_
    refine wpG.only 24 (by kernel_rfl) (op_lit (C := (CI .u8)) (t := 26) (e := 5) (len := 4) (parts := #[(0, .int .u8 (rdL (CI .u8) z6 (isub .i64 (imul .i64 4 z5) 4))), (1, .int .u8 (rdL (CI .u8) z6 (isub .i64 (imul .i64 4 z5) 3))), (2, .int .u8 (rdL (CI .u8) z6 (isub .i64 (imul .i64 4 z5) 2))), (3, .int .u8 (rdL (CI .u8) z6 (isub .i64 (imul .i64 4 z5) 1)))]) (l := [(rdL (CI .u8) z6 (isub .i64 (imul .i64 4 z5) 4)), (rdL (CI .u8) z6 (isub .i64 (imul .i64 4 z5) 3)), (rdL (CI .u8) z6 (isub .i64 (imul .i64 4 z5) 2)), (rdL (CI .u8) z6 (isub .i64 (imul .i64 4 z5) 1))]) (d := (some 49)) (by kernel_rfl) hs (by kernel_rfl) (by kernel_rfl) (by kernel_rfl) (z := .int .u8 0) (by kernel_rfl) rfl (by decide) (by decide) (by kernel_rfl) ?_)
    intro s12_A s12_n s12_c w gw hs
    refine ⟨.of gw, ?_⟩
    refine wpG.q 25 9 (.slice s12_A s12_n s12_c) ?_
    refine wpG.fin (by kernel_rfl) rfl (kr21 _ _ ?_)
    refine then_n (ks20 _ _ ?_)
    obtain ⟨⟨y13, y14⟩, hj, h⟩ := of_bind h
    refine xseq_k fun KS27 ks27 => wp_join (N := fun a w => ∃ (y14_A : Option Addr) (y14_n : Nat) (y14_c : Nat), St w0 [] [.ownL (CI .u8) y14_A y14_n y14_c y14 5, .ownL (CI .u8) z6_A z6_n z6_c z6 5, .blk b1 (enc .u8 a1) 46] [.rowL (CI .u8) a0_A a0_n a0_c a0] w ∧ ∃ g26 : Nat → Value, a = ⟨#[.slice a0_A a0_n a0_c, .agg (enc .u8 a1).toArray, undef, .pointer (some ⟨b1, 0, none⟩), .slice none 0 0, .int .i64 x2, .slice z6_A z6_n z6_c, .int .u8 y13, .int .i64 z5, .slice y14_A y14_n y14_c, (g14 10), .slice a0_A a0_n a0_c, .int .i64 (a0.length : Int), .int .i64 (iquo .i64 (a0.length : Int) 4), .slice none 0 0, .slice a0_A a0_n a0_c, .slice s3_A s3_n s3_c, .int .i64 x2, .int .i64 z5, .int .i64 x2, .int .i64 (iadd .i64 x2 7), .int .i64 (imul .i64 4 (iadd .i64 x2 7)), .bool true, (g14 23), (g14 24), .slice z6_A z6_n z6_c, .int .i64 z5, .int .i64 (imul .i64 4 z5), .int .i64 (isub .i64 (imul .i64 4 z5) 4), .pointer (adr z6_A (((isub .i64 (imul .i64 4 z5) 4) : Int).toNat * Cod.size (CI .u8))), .int .u8 (rdL (CI .u8) z6 (isub .i64 (imul .i64 4 z5) 4)), .slice z6_A z6_n z6_c, .int .i64 z5, .int .i64 (imul .i64 4 z5), .int .i64 (isub .i64 (imul .i64 4 z5) 3), .pointer (adr z6_A (((isub .i64 (imul .i64 4 z5) 3) : Int).toNat * Cod.size (CI .u8))), .int .u8 (rdL (CI .u8) z6 (isub .i64 (imul .i64 4 z5) 3)), .slice z6_A z6_n z6_c, .int .i64 z5, .int .i64 (imul .i64 4 z5), .int .i64 (isub .i64 (imul .i64 4 z5) 2), .pointer (adr z6_A (((isub .i64 (imul .i64 4 z5) 2) : Int).toNat * Cod.size (CI .u8))), .int .u8 (rdL (CI .u8) z6 (isub .i64 (imul .i64 4 z5) 2)), .slice z6_A z6_n z6_c, .int .i64 z5, .int .i64 (imul .i64 4 z5), .int .i64 (isub .i64 (imul .i64 4 z5) 1), .pointer (adr z6_A (((isub .i64 (imul .i64 4 z5) 1) : Int).toNat * Cod.size (CI .u8))), .int .u8 (rdL (CI .u8) z6 (isub .i64 (imul .i64 4 z5) 1)), .slice s12_A s12_n s12_c, (g26 50), (g26 51), (g26 52), (g26 53), (g26 54), (g26 55), (g26 56), (g26 57), (g26 58), (g26 59), (g26 60), (g26 61), (g26 62), (g26 63), (g26 64), (g26 65), (g26 66), (g26 67), (g26 68), (g26 69), (g26 70), (g26 71), (g26 72), (g26 73), (g26 74), (g26 75), (g26 76), (g26 77), (g26 78), (g26 79), (g26 80), (g26 81), (g26 82), (g26 83), (g26 84), (g26 85), (g26 86), (g26 87), (g26 88), (g26 89), (g26 90), (g26 91), (g26 92), (g26 93), (g26 94), (g26 95), (g26 96), (g26 97), (g26 98), (g26 99), (g26 100), (g26 101), (g26 102), (g26 103), (g26 104), (g26 105), (g26 106), (g14 107), (g14 108), (g14 109), (g14 110), (g14 111), (g14 112), (g14 113), (g14 114), (g14 115), (g14 116), (g14 117), (g14 118), (g14 119), (g14 120), (g14 121), (g14 122), (g14 123), (g14 124), (g14 125), (g14 126), (g14 127), undef], []⟩) (fun N nj => ?_) ?_
    ·clear h
     have h := hj
     refine xseq_k fun KS28 ks28 => ?_
     refine xregS [0, 1, 2, 3] fun KR29 kr29 => ?_
     refine wpS.qs [(0, 50, .int .i64 z5), (1, 51, .int .i64 x2)] ?_
     obtain ⟨h0, h⟩ := of_chk h
     refine wpS.tk 2 false (some 52) (.int .i64 (irem .i64 z5 x2)) (yld_rem (t := 3) (by kernel_rfl) h0) ?_
     rcases of_if h with ⟨hc, h⟩ | ⟨hc, h⟩
     ·refine wpS.tk 3 false (some 53) (.bool true) (yld_b (et hc) (fun _ => by kernel_rfl)) ?_
      refine wpS.fin rfl (kr29 _ _ (then_n (ks28 _ _ (wp_cond_t (by kernel_rfl) (xseq_k fun KS30 ks30 => ?_)))))
      refine wp_regG [] (fun k => True) 24 (by kernel_rfl) (by kernel_rfl) (by kernel_rfl) fun KR31 kr31 => ?_
      have hs := hs.drawn1
      refine wpG.q 0 54 (.slice s12_A s12_n s12_c) ?_
      obtain ⟨h0, h⟩ := of_chk h
      obtain ⟨h1, h⟩ := of_chk h
      have i0_32 := h0
      have i1_32 := h1
      refine wpG.tD 1 false (some 55) (.pointer (adr s12_A ((1 : Int).toNat * Cod.size (CI .u8)))) (yld_idxL (C := (CI .u8)) (t := 26) (e := 5) (k := .i64) (x := 1) (hs.rowL 0 rfl) (by kernel_rfl) (by kernel_rfl) (by kernel_rfl) h0 h1) ?_
      refine wpG.tD 2 true (some 56) (.int .u8 (rdL (CI .u8) ([(rdL (CI .u8) z6 (isub .i64 (imul .i64 4 z5) 4)), (rdL (CI .u8) z6 (isub .i64 (imul .i64 4 z5) 3)), (rdL (CI .u8) z6 (isub .i64 (imul .i64 4 z5) 2)), (rdL (CI .u8) z6 (isub .i64 (imul .i64 4 z5) 1))] : List Int) 1)) (yld_loadL (C := (CI .u8)) (e := 5) (x := 1) (hs.rowL 0 rfl) (by kernel_rfl) rfl (by kernel_rfl) i0_32 i1_32) ?_
      obtain ⟨x15, hx, h⟩ := of_bind h
      have hx := of_some hx
      subst hx
      obtain ⟨i0_33, h⟩ := of_chk h
      obtain ⟨i1_33, h⟩ := of_chk h
      refine wpG.tD 3 false (some 57) (.pointer (some ⟨b1, 0 + ((rdL (CI .u8) ([(rdL (CI .u8) z6 (isub .i64 (imul .i64 4 z5) 4)), (rdL (CI .u8) z6 (isub .i64 (imul .i64 4 z5) 3)), (rdL (CI .u8) z6 (isub .i64 (imul .i64 4 z5) 2)), (rdL (CI .u8) z6 (isub .i64 (imul .i64 4 z5) 1))] : List Int) 1) : Int).toNat * 1, none⟩)) (yld_idx (t := 46) (e := 5) (n := 256) (sz := 1) (k := .u8) (x := (rdL (CI .u8) ([(rdL (CI .u8) z6 (isub .i64 (imul .i64 4 z5) 4)), (rdL (CI .u8) z6 (isub .i64 (imul .i64 4 z5) 3)), (rdL (CI .u8) z6 (isub .i64 (imul .i64 4 z5) 2)), (rdL (CI .u8) z6 (isub .i64 (imul .i64 4 z5) 1))] : List Int) 1)) (by kernel_rfl) (by kernel_rfl) (by kernel_rfl) i0_33 i1_33) ?_
      refine wpG.tD 4 true (some 58) (.int .u8 (rd a1 (rdL (CI .u8) ([(rdL (CI .u8) z6 (isub .i64 (imul .i64 4 z5) 4)), (rdL (CI .u8) z6 (isub .i64 (imul .i64 4 z5) 3)), (rdL (CI .u8) z6 (isub .i64 (imul .i64 4 z5) 2)), (rdL (CI .u8) z6 (isub .i64 (imul .i64 4 z5) 1))] : List Int) 1))) (yld_loadA (e := 5) (x := (rdL (CI .u8) ([(rdL (CI .u8) z6 (isub .i64 (imul .i64 4 z5) 4)), (rdL (CI .u8) z6 (isub .i64 (imul .i64 4 z5) 3)), (rdL (CI .u8) z6 (isub .i64 (imul .i64 4 z5) 2)), (rdL (CI .u8) z6 (isub .i64 (imul .i64 4 z5) 1))] : List Int) 1)) hs 2 rfl (by kernel_rfl) (by kernel_rfl) i0_33 i1_33 .grow) ?_
      refine wpG.q 5 59 (.int .u8 z4) ?_
      refine wpG.q 6 60 (.int .u8 (ixor .u8 (rd a1 (rdL (CI .u8) ([(rdL (CI .u8) z6 (isub .i64 (imul .i64 4 z5) 4)), (rdL (CI .u8) z6 (isub .i64 (imul .i64 4 z5) 3)), (rdL (CI .u8) z6 (isub .i64 (imul .i64 4 z5) 2)), (rdL (CI .u8) z6 (isub .i64 (imul .i64 4 z5) 1))] : List Int) 1)) z4)) ?_
      refine wpG.q 7 61 (.slice s12_A s12_n s12_c) ?_
      obtain ⟨h0, h⟩ := of_chk h
      obtain ⟨h1, h⟩ := of_chk h
      have i0_34 := h0
      have i1_34 := h1
      refine wpG.tD 8 false (some 62) (.pointer (adr s12_A ((2 : Int).toNat * Cod.size (CI .u8)))) (yld_idxL (C := (CI .u8)) (t := 26) (e := 5) (k := .i64) (x := 2) (hs.rowL 0 rfl) (by kernel_rfl) (by kernel_rfl) (by kernel_rfl) h0 h1) ?_
      refine wpG.tD 9 true (some 63) (.int .u8 (rdL (CI .u8) ([(rdL (CI .u8) z6 (isub .i64 (imul .i64 4 z5) 4)), (rdL (CI .u8) z6 (isub .i64 (imul .i64 4 z5) 3)), (rdL (CI .u8) z6 (isub .i64 (imul .i64 4 z5) 2)), (rdL (CI .u8) z6 (isub .i64 (imul .i64 4 z5) 1))] : List Int) 2)) (yld_loadL (C := (CI .u8)) (e := 5) (x := 2) (hs.rowL 0 rfl) (by kernel_rfl) rfl (by kernel_rfl) i0_34 i1_34) ?_
      obtain ⟨x16, hx, h⟩ := of_bind h
      have hx := of_some hx
      subst hx
      obtain ⟨i0_35, h⟩ := of_chk h
      obtain ⟨i1_35, h⟩ := of_chk h
      refine wpG.tD 10 false (some 64) (.pointer (some ⟨b1, 0 + ((rdL (CI .u8) ([(rdL (CI .u8) z6 (isub .i64 (imul .i64 4 z5) 4)), (rdL (CI .u8) z6 (isub .i64 (imul .i64 4 z5) 3)), (rdL (CI .u8) z6 (isub .i64 (imul .i64 4 z5) 2)), (rdL (CI .u8) z6 (isub .i64 (imul .i64 4 z5) 1))] : List Int) 2) : Int).toNat * 1, none⟩)) (yld_idx (t := 46) (e := 5) (n := 256) (sz := 1) (k := .u8) (x := (rdL (CI .u8) ([(rdL (CI .u8) z6 (isub .i64 (imul .i64 4 z5) 4)), (rdL (CI .u8) z6 (isub .i64 (imul .i64 4 z5) 3)), (rdL (CI .u8) z6 (isub .i64 (imul .i64 4 z5) 2)), (rdL (CI .u8) z6 (isub .i64 (imul .i64 4 z5) 1))] : List Int) 2)) (by kernel_rfl) (by kernel_rfl) (by kernel_rfl) i0_35 i1_35) ?_
      refine wpG.tD 11 true (some 65) (.int .u8 (rd a1 (rdL (CI .u8) ([(rdL (CI .u8) z6 (isub .i64 (imul .i64 4 z5) 4)), (rdL (CI .u8) z6 (isub .i64 (imul .i64 4 z5) 3)), (rdL (CI .u8) z6 (isub .i64 (imul .i64 4 z5) 2)), (rdL (CI .u8) z6 (isub .i64 (imul .i64 4 z5) 1))] : List Int) 2))) (yld_loadA (e := 5) (x := (rdL (CI .u8) ([(rdL (CI .u8) z6 (isub .i64 (imul .i64 4 z5) 4)), (rdL (CI .u8) z6 (isub .i64 (imul .i64 4 z5) 3)), (rdL (CI .u8) z6 (isub .i64 (imul .i64 4 z5) 2)), (rdL (CI .u8) z6 (isub .i64 (imul .i64 4 z5) 1))] : List Int) 2)) hs 2 rfl (by kernel_rfl) (by kernel_rfl) i0_35 i1_35 .grow) ?_
      refine wpG.q 12 66 (.slice s12_A s12_n s12_c) ?_
      obtain ⟨h0, h⟩ := of_chk h
      obtain ⟨h1, h⟩ := of_chk h
      have i0_36 := h0
      have i1_36 := h1
      refine wpG.tD 13 false (some 67) (.pointer (adr s12_A ((3 : Int).toNat * Cod.size (CI .u8)))) (yld_idxL (C := (CI .u8)) (t := 26) (e := 5) (k := .i64) (x := 3) (hs.rowL 0 rfl) (by kernel_rfl) (by kernel_rfl) (by kernel_rfl) h0 h1) ?_
      refine wpG.tD 14 true (some 68) (.int .u8 (rdL (CI .u8) ([(rdL (CI .u8) z6 (isub .i64 (imul .i64 4 z5) 4)), (rdL (CI .u8) z6 (isub .i64 (imul .i64 4 z5) 3)), (rdL (CI .u8) z6 (isub .i64 (imul .i64 4 z5) 2)), (rdL (CI .u8) z6 (isub .i64 (imul .i64 4 z5) 1))] : List Int) 3)) (yld_loadL (C := (CI .u8)) (e := 5) (x := 3) (hs.rowL 0 rfl) (by kernel_rfl) rfl (by kernel_rfl) i0_36 i1_36) ?_
      obtain ⟨x17, hx, h⟩ := of_bind h
      have hx := of_some hx
      subst hx
      obtain ⟨i0_37, h⟩ := of_chk h
      obtain ⟨i1_37, h⟩ := of_chk h
      refine wpG.tD 15 false (some 69) (.pointer (some ⟨b1, 0 + ((rdL (CI .u8) ([(rdL (CI .u8) z6 (isub .i64 (imul .i64 4 z5) 4)), (rdL (CI .u8) z6 (isub .i64 (imul .i64 4 z5) 3)), (rdL (CI .u8) z6 (isub .i64 (imul .i64 4 z5) 2)), (rdL (CI .u8) z6 (isub .i64 (imul .i64 4 z5) 1))] : List Int) 3) : Int).toNat * 1, none⟩)) (yld_idx (t := 46) (e := 5) (n := 256) (sz := 1) (k := .u8) (x := (rdL (CI .u8) ([(rdL (CI .u8) z6 (isub .i64 (imul .i64 4 z5) 4)), (rdL (CI .u8) z6 (isub .i64 (imul .i64 4 z5) 3)), (rdL (CI .u8) z6 (isub .i64 (imul .i64 4 z5) 2)), (rdL (CI .u8) z6 (isub .i64 (imul .i64 4 z5) 1))] : List Int) 3)) (by kernel_rfl) (by kernel_rfl) (by kernel_rfl) i0_37 i1_37) ?_
      refine wpG.tD 16 true (some 70) (.int .u8 (rd a1 (rdL (CI .u8) ([(rdL (CI .u8) z6 (isub .i64 (imul .i64 4 z5) 4)), (rdL (CI .u8) z6 (isub .i64 (imul .i64 4 z5) 3)), (rdL (CI .u8) z6 (isub .i64 (imul .i64 4 z5) 2)), (rdL (CI .u8) z6 (isub .i64 (imul .i64 4 z5) 1))] : List Int) 3))) (yld_loadA (e := 5) (x := (rdL (CI .u8) ([(rdL (CI .u8) z6 (isub .i64 (imul .i64 4 z5) 4)), (rdL (CI .u8) z6 (isub .i64 (imul .i64 4 z5) 3)), (rdL (CI .u8) z6 (isub .i64 (imul .i64 4 z5) 2)), (rdL (CI .u8) z6 (isub .i64 (imul .i64 4 z5) 1))] : List Int) 3)) hs 2 rfl (by kernel_rfl) (by kernel_rfl) i0_37 i1_37 .grow) ?_
      refine wpG.q 17 71 (.slice s12_A s12_n s12_c) ?_
      obtain ⟨h0, h⟩ := of_chk h
      obtain ⟨h1, h⟩ := of_chk h
      have i0_38 := h0
      have i1_38 := h1
      refine wpG.tD 18 false (some 72) (.pointer (adr s12_A ((0 : Int).toNat * Cod.size (CI .u8)))) (yld_idxL (C := (CI .u8)) (t := 26) (e := 5) (k := .i64) (x := 0) (hs.rowL 0 rfl) (by kernel_rfl) (by kernel_rfl) (by kernel_rfl) h0 h1) ?_
      refine wpG.tD 19 true (some 73) (.int .u8 (rdL (CI .u8) ([(rdL (CI .u8) z6 (isub .i64 (imul .i64 4 z5) 4)), (rdL (CI .u8) z6 (isub .i64 (imul .i64 4 z5) 3)), (rdL (CI .u8) z6 (isub .i64 (imul .i64 4 z5) 2)), (rdL (CI .u8) z6 (isub .i64 (imul .i64 4 z5) 1))] : List Int) 0)) (yld_loadL (C := (CI .u8)) (e := 5) (x := 0) (hs.rowL 0 rfl) (by kernel_rfl) rfl (by kernel_rfl) i0_38 i1_38) ?_
      obtain ⟨x18, hx, h⟩ := of_bind h
      have hx := of_some hx
      subst hx
      obtain ⟨i0_39, h⟩ := of_chk h
      obtain ⟨i1_39, h⟩ := of_chk h
      refine wpG.tD 20 false (some 74) (.pointer (some ⟨b1, 0 + ((rdL (CI .u8) ([(rdL (CI .u8) z6 (isub .i64 (imul .i64 4 z5) 4)), (rdL (CI .u8) z6 (isub .i64 (imul .i64 4 z5) 3)), (rdL (CI .u8) z6 (isub .i64 (imul .i64 4 z5) 2)), (rdL (CI .u8) z6 (isub .i64 (imul .i64 4 z5) 1))] : List Int) 0) : Int).toNat * 1, none⟩)) (yld_idx (t := 46) (e := 5) (n := 256) (sz := 1) (k := .u8) (x := (rdL (CI .u8) ([(rdL (CI .u8) z6 (isub .i64 (imul .i64 4 z5) 4)), (rdL (CI .u8) z6 (isub .i64 (imul .i64 4 z5) 3)), (rdL (CI .u8) z6 (isub .i64 (imul .i64 4 z5) 2)), (rdL (CI .u8) z6 (isub .i64 (imul .i64 4 z5) 1))] : List Int) 0)) (by kernel_rfl) (by kernel_rfl) (by kernel_rfl) i0_39 i1_39) ?_
      refine wpG.tD 21 true (some 75) (.int .u8 (rd a1 (rdL (CI .u8) ([(rdL (CI .u8) z6 (isub .i64 (imul .i64 4 z5) 4)), (rdL (CI .u8) z6 (isub .i64 (imul .i64 4 z5) 3)), (rdL (CI .u8) z6 (isub .i64 (imul .i64 4 z5) 2)), (rdL (CI .u8) z6 (isub .i64 (imul .i64 4 z5) 1))] : List Int) 0))) (yld_loadA (e := 5) (x := (rdL (CI .u8) ([(rdL (CI .u8) z6 (isub .i64 (imul .i64 4 z5) 4)), (rdL (CI .u8) z6 (isub .i64 (imul .i64 4 z5) 3)), (rdL (CI .u8) z6 (isub .i64 (imul .i64 4 z5) 2)), (rdL (CI .u8) z6 (isub .i64 (imul .i64 4 z5) 1))] : List Int) 0)) hs 2 rfl (by kernel_rfl) (by kernel_rfl) i0_39 i1_39 .grow) ?_
      refine wpG.only 22 (by kernel_rfl) (op_lit (C := (CI .u8)) (t := 26) (e := 5) (len := 4) (parts := #[(0, .int .u8 (ixor .u8 (rd a1 (rdL (CI .u8) ([(rdL (CI .u8) z6 (isub .i64 (imul .i64 4 z5) 4)), (rdL (CI .u8) z6 (isub .i64 (imul .i64 4 z5) 3)), (rdL (CI .u8) z6 (isub .i64 (imul .i64 4 z5) 2)), (rdL (CI .u8) z6 (isub .i64 (imul .i64 4 z5) 1))] : List Int) 1)) z4)), (1, .int .u8 (rd a1 (rdL (CI .u8) ([(rdL (CI .u8) z6 (isub .i64 (imul .i64 4 z5) 4)), (rdL (CI .u8) z6 (isub .i64 (imul .i64 4 z5) 3)), (rdL (CI .u8) z6 (isub .i64 (imul .i64 4 z5) 2)), (rdL (CI .u8) z6 (isub .i64 (imul .i64 4 z5) 1))] : List Int) 2))), (2, .int .u8 (rd a1 (rdL (CI .u8) ([(rdL (CI .u8) z6 (isub .i64 (imul .i64 4 z5) 4)), (rdL (CI .u8) z6 (isub .i64 (imul .i64 4 z5) 3)), (rdL (CI .u8) z6 (isub .i64 (imul .i64 4 z5) 2)), (rdL (CI .u8) z6 (isub .i64 (imul .i64 4 z5) 1))] : List Int) 3))), (3, .int .u8 (rd a1 (rdL (CI .u8) ([(rdL (CI .u8) z6 (isub .i64 (imul .i64 4 z5) 4)), (rdL (CI .u8) z6 (isub .i64 (imul .i64 4 z5) 3)), (rdL (CI .u8) z6 (isub .i64 (imul .i64 4 z5) 2)), (rdL (CI .u8) z6 (isub .i64 (imul .i64 4 z5) 1))] : List Int) 0)))]) (l := [(ixor .u8 (rd a1 (rdL (CI .u8) ([(rdL (CI .u8) z6 (isub .i64 (imul .i64 4 z5) 4)), (rdL (CI .u8) z6 (isub .i64 (imul .i64 4 z5) 3)), (rdL (CI .u8) z6 (isub .i64 (imul .i64 4 z5) 2)), (rdL (CI .u8) z6 (isub .i64 (imul .i64 4 z5) 1))] : List Int) 1)) z4), (rd a1 (rdL (CI .u8) ([(rdL (CI .u8) z6 (isub .i64 (imul .i64 4 z5) 4)), (rdL (CI .u8) z6 (isub .i64 (imul .i64 4 z5) 3)), (rdL (CI .u8) z6 (isub .i64 (imul .i64 4 z5) 2)), (rdL (CI .u8) z6 (isub .i64 (imul .i64 4 z5) 1))] : List Int) 2)), (rd a1 (rdL (CI .u8) ([(rdL (CI .u8) z6 (isub .i64 (imul .i64 4 z5) 4)), (rdL (CI .u8) z6 (isub .i64 (imul .i64 4 z5) 3)), (rdL (CI .u8) z6 (isub .i64 (imul .i64 4 z5) 2)), (rdL (CI .u8) z6 (isub .i64 (imul .i64 4 z5) 1))] : List Int) 3)), (rd a1 (rdL (CI .u8) ([(rdL (CI .u8) z6 (isub .i64 (imul .i64 4 z5) 4)), (rdL (CI .u8) z6 (isub .i64 (imul .i64 4 z5) 3)), (rdL (CI .u8) z6 (isub .i64 (imul .i64 4 z5) 2)), (rdL (CI .u8) z6 (isub .i64 (imul .i64 4 z5) 1))] : List Int) 0))]) (d := (some 76)) (by kernel_rfl) hs (by kernel_rfl) (by kernel_rfl) (by kernel_rfl) (z := .int .u8 0) (by kernel_rfl) rfl (by decide) (by decide) (by kernel_rfl) ?_)
      intro s19_A s19_n s19_c w gw hs
      refine ⟨.of gw, ?_⟩
      refine wpG.q 23 9 (.slice s19_A s19_n s19_c) ?_
      refine wpG.fin (by kernel_rfl) rfl (kr31 _ _ ?_)
      refine then_n (ks30 _ _ (xregS [0, 1, 2] fun KR40 kr40 => ?_))
      refine wpS.q 0 77 (.int .u8 z4) ?_
      obtain ⟨r20, hg, h⟩ := of_bind h
      refine wpS.only 1 (op_call (d := (some 78)) (by kernel_rfl) hs (fun _ => by kernel_rfl) (ref10_Mul.ok hg _) ?_)
      intro w gw hs
      refine ⟨fun _ => trivial, ?_⟩
      refine wpS.q 2 7 (.int .u8 r20) ?_
      refine wpS.fin rfl (kr40 _ _ ?_)
      obtain ⟨q0, qr0⟩ := Prod.mk.inj (of_some h)
      have q1 := qr0
      subst q0
      subst q1
      exact nj _ _ ⟨s19_A, s19_n, s19_c, (hs.drop (.cons_cons _ (.cons _ (.cons_cons _ (.cons_cons _ .slnil))))), exg (by kernel_rfl)⟩
     refine wpS.tk 3 false (some 53) (.bool false) (yld_b (ef hc) (fun _ => by kernel_rfl)) ?_
     refine wpS.fin rfl (kr29 _ _ (then_n (ks28 _ _ (wp_cond_f (by kernel_rfl) (xseq_k fun KS41 ks41 => (xregS [0, 1, 2, 3, 4, 5, 6] fun KR42 kr42 => ?_))))))
     refine wpS.q 0 79 (.int .i64 x2) ?_
     rcases of_if h with ⟨hc, h⟩ | ⟨hc, h⟩
     ·refine wpS.tk 1 false (some 80) (.bool true) (yld_b (et hc) (fun _ => by kernel_rfl)) ?_
      refine wpS.qs [(2, 81, .bool true), (3, 82, .int .i64 z5), (4, 83, .int .i64 (irem .i64 z5 8))] ?_
      rcases of_if h with ⟨hc, h⟩ | ⟨hc, h⟩
      ·refine wpS.tk 5 false (some 84) (.bool true) (yld_b (et hc) (fun _ => by kernel_rfl)) ?_
       refine wpS.q 6 85 (.bool true) ?_
       refine wpS.fin rfl (kr42 _ _ (then_n (ks41 _ _ (wp_cond_t (by kernel_rfl) ?_))))
       refine wp_regG [] (fun k => True) 22 (by kernel_rfl) (by kernel_rfl) (by kernel_rfl) fun KR43 kr43 => ?_
       have hs := hs.drawn1
       refine wpG.q 0 86 (.slice s12_A s12_n s12_c) ?_
       obtain ⟨h0, h⟩ := of_chk h
       obtain ⟨h1, h⟩ := of_chk h
       have i0_44 := h0
       have i1_44 := h1
       refine wpG.tD 1 false (some 87) (.pointer (adr s12_A ((0 : Int).toNat * Cod.size (CI .u8)))) (yld_idxL (C := (CI .u8)) (t := 26) (e := 5) (k := .i64) (x := 0) (hs.rowL 0 rfl) (by kernel_rfl) (by kernel_rfl) (by kernel_rfl) h0 h1) ?_
       refine wpG.tD 2 true (some 88) (.int .u8 (rdL (CI .u8) ([(rdL (CI .u8) z6 (isub .i64 (imul .i64 4 z5) 4)), (rdL (CI .u8) z6 (isub .i64 (imul .i64 4 z5) 3)), (rdL (CI .u8) z6 (isub .i64 (imul .i64 4 z5) 2)), (rdL (CI .u8) z6 (isub .i64 (imul .i64 4 z5) 1))] : List Int) 0)) (yld_loadL (C := (CI .u8)) (e := 5) (x := 0) (hs.rowL 0 rfl) (by kernel_rfl) rfl (by kernel_rfl) i0_44 i1_44) ?_
       obtain ⟨x21, hx, h⟩ := of_bind h
       have hx := of_some hx
       subst hx
       obtain ⟨i0_45, h⟩ := of_chk h
       obtain ⟨i1_45, h⟩ := of_chk h
       refine wpG.tD 3 false (some 89) (.pointer (some ⟨b1, 0 + ((rdL (CI .u8) ([(rdL (CI .u8) z6 (isub .i64 (imul .i64 4 z5) 4)), (rdL (CI .u8) z6 (isub .i64 (imul .i64 4 z5) 3)), (rdL (CI .u8) z6 (isub .i64 (imul .i64 4 z5) 2)), (rdL (CI .u8) z6 (isub .i64 (imul .i64 4 z5) 1))] : List Int) 0) : Int).toNat * 1, none⟩)) (yld_idx (t := 46) (e := 5) (n := 256) (sz := 1) (k := .u8) (x := (rdL (CI .u8) ([(rdL (CI .u8) z6 (isub .i64 (imul .i64 4 z5) 4)), (rdL (CI .u8) z6 (isub .i64 (imul .i64 4 z5) 3)), (rdL (CI .u8) z6 (isub .i64 (imul .i64 4 z5) 2)), (rdL (CI .u8) z6 (isub .i64 (imul .i64 4 z5) 1))] : List Int) 0)) (by kernel_rfl) (by kernel_rfl) (by kernel_rfl) i0_45 i1_45) ?_
       refine wpG.tD 4 true (some 90) (.int .u8 (rd a1 (rdL (CI .u8) ([(rdL (CI .u8) z6 (isub .i64 (imul .i64 4 z5) 4)), (rdL (CI .u8) z6 (isub .i64 (imul .i64 4 z5) 3)), (rdL (CI .u8) z6 (isub .i64 (imul .i64 4 z5) 2)), (rdL (CI .u8) z6 (isub .i64 (imul .i64 4 z5) 1))] : List Int) 0))) (yld_loadA (e := 5) (x := (rdL (CI .u8) ([(rdL (CI .u8) z6 (isub .i64 (imul .i64 4 z5) 4)), (rdL (CI .u8) z6 (isub .i64 (imul .i64 4 z5) 3)), (rdL (CI .u8) z6 (isub .i64 (imul .i64 4 z5) 2)), (rdL (CI .u8) z6 (isub .i64 (imul .i64 4 z5) 1))] : List Int) 0)) hs 2 rfl (by kernel_rfl) (by kernel_rfl) i0_45 i1_45 .grow) ?_
       refine wpG.q 5 91 (.slice s12_A s12_n s12_c) ?_
       obtain ⟨h0, h⟩ := of_chk h
       obtain ⟨h1, h⟩ := of_chk h
       have i0_46 := h0
       have i1_46 := h1
       refine wpG.tD 6 false (some 92) (.pointer (adr s12_A ((1 : Int).toNat * Cod.size (CI .u8)))) (yld_idxL (C := (CI .u8)) (t := 26) (e := 5) (k := .i64) (x := 1) (hs.rowL 0 rfl) (by kernel_rfl) (by kernel_rfl) (by kernel_rfl) h0 h1) ?_
       refine wpG.tD 7 true (some 93) (.int .u8 (rdL (CI .u8) ([(rdL (CI .u8) z6 (isub .i64 (imul .i64 4 z5) 4)), (rdL (CI .u8) z6 (isub .i64 (imul .i64 4 z5) 3)), (rdL (CI .u8) z6 (isub .i64 (imul .i64 4 z5) 2)), (rdL (CI .u8) z6 (isub .i64 (imul .i64 4 z5) 1))] : List Int) 1)) (yld_loadL (C := (CI .u8)) (e := 5) (x := 1) (hs.rowL 0 rfl) (by kernel_rfl) rfl (by kernel_rfl) i0_46 i1_46) ?_
       obtain ⟨x22, hx, h⟩ := of_bind h
       have hx := of_some hx
       subst hx
       obtain ⟨i0_47, h⟩ := of_chk h
       obtain ⟨i1_47, h⟩ := of_chk h
       refine wpG.tD 8 false (some 94) (.pointer (some ⟨b1, 0 + ((rdL (CI .u8) ([(rdL (CI .u8) z6 (isub .i64 (imul .i64 4 z5) 4)), (rdL (CI .u8) z6 (isub .i64 (imul .i64 4 z5) 3)), (rdL (CI .u8) z6 (isub .i64 (imul .i64 4 z5) 2)), (rdL (CI .u8) z6 (isub .i64 (imul .i64 4 z5) 1))] : List Int) 1) : Int).toNat * 1, none⟩)) (yld_idx (t := 46) (e := 5) (n := 256) (sz := 1) (k := .u8) (x := (rdL (CI .u8) ([(rdL (CI .u8) z6 (isub .i64 (imul .i64 4 z5) 4)), (rdL (CI .u8) z6 (isub .i64 (imul .i64 4 z5) 3)), (rdL (CI .u8) z6 (isub .i64 (imul .i64 4 z5) 2)), (rdL (CI .u8) z6 (isub .i64 (imul .i64 4 z5) 1))] : List Int) 1)) (by kernel_rfl) (by kernel_rfl) (by kernel_rfl) i0_47 i1_47) ?_
       refine wpG.tD 9 true (some 95) (.int .u8 (rd a1 (rdL (CI .u8) ([(rdL (CI .u8) z6 (isub .i64 (imul .i64 4 z5) 4)), (rdL (CI .u8) z6 (isub .i64 (imul .i64 4 z5) 3)), (rdL (CI .u8) z6 (isub .i64 (imul .i64 4 z5) 2)), (rdL (CI .u8) z6 (isub .i64 (imul .i64 4 z5) 1))] : List Int) 1))) (yld_loadA (e := 5) (x := (rdL (CI .u8) ([(rdL (CI .u8) z6 (isub .i64 (imul .i64 4 z5) 4)), (rdL (CI .u8) z6 (isub .i64 (imul .i64 4 z5) 3)), (rdL (CI .u8) z6 (isub .i64 (imul .i64 4 z5) 2)), (rdL (CI .u8) z6 (isub .i64 (imul .i64 4 z5) 1))] : List Int) 1)) hs 2 rfl (by kernel_rfl) (by kernel_rfl) i0_47 i1_47 .grow) ?_
       refine wpG.q 10 96 (.slice s12_A s12_n s12_c) ?_
       obtain ⟨h0, h⟩ := of_chk h
       obtain ⟨h1, h⟩ := of_chk h
       have i0_48 := h0
       have i1_48 := h1
       refine wpG.tD 11 false (some 97) (.pointer (adr s12_A ((2 : Int).toNat * Cod.size (CI .u8)))) (yld_idxL (C := (CI .u8)) (t := 26) (e := 5) (k := .i64) (x := 2) (hs.rowL 0 rfl) (by kernel_rfl) (by kernel_rfl) (by kernel_rfl) h0 h1) ?_
       refine wpG.tD 12 true (some 98) (.int .u8 (rdL (CI .u8) ([(rdL (CI .u8) z6 (isub .i64 (imul .i64 4 z5) 4)), (rdL (CI .u8) z6 (isub .i64 (imul .i64 4 z5) 3)), (rdL (CI .u8) z6 (isub .i64 (imul .i64 4 z5) 2)), (rdL (CI .u8) z6 (isub .i64 (imul .i64 4 z5) 1))] : List Int) 2)) (yld_loadL (C := (CI .u8)) (e := 5) (x := 2) (hs.rowL 0 rfl) (by kernel_rfl) rfl (by kernel_rfl) i0_48 i1_48) ?_
       obtain ⟨x23, hx, h⟩ := of_bind h
       have hx := of_some hx
       subst hx
       obtain ⟨i0_49, h⟩ := of_chk h
       obtain ⟨i1_49, h⟩ := of_chk h
       refine wpG.tD 13 false (some 99) (.pointer (some ⟨b1, 0 + ((rdL (CI .u8) ([(rdL (CI .u8) z6 (isub .i64 (imul .i64 4 z5) 4)), (rdL (CI .u8) z6 (isub .i64 (imul .i64 4 z5) 3)), (rdL (CI .u8) z6 (isub .i64 (imul .i64 4 z5) 2)), (rdL (CI .u8) z6 (isub .i64 (imul .i64 4 z5) 1))] : List Int) 2) : Int).toNat * 1, none⟩)) (yld_idx (t := 46) (e := 5) (n := 256) (sz := 1) (k := .u8) (x := (rdL (CI .u8) ([(rdL (CI .u8) z6 (isub .i64 (imul .i64 4 z5) 4)), (rdL (CI .u8) z6 (isub .i64 (imul .i64 4 z5) 3)), (rdL (CI .u8) z6 (isub .i64 (imul .i64 4 z5) 2)), (rdL (CI .u8) z6 (isub .i64 (imul .i64 4 z5) 1))] : List Int) 2)) (by kernel_rfl) (by kernel_rfl) (by kernel_rfl) i0_49 i1_49) ?_
       refine wpG.tD 14 true (some 100) (.int .u8 (rd a1 (rdL (CI .u8) ([(rdL (CI .u8) z6 (isub .i64 (imul .i64 4 z5) 4)), (rdL (CI .u8) z6 (isub .i64 (imul .i64 4 z5) 3)), (rdL (CI .u8) z6 (isub .i64 (imul .i64 4 z5) 2)), (rdL (CI .u8) z6 (isub .i64 (imul .i64 4 z5) 1))] : List Int) 2))) (yld_loadA (e := 5) (x := (rdL (CI .u8) ([(rdL (CI .u8) z6 (isub .i64 (imul .i64 4 z5) 4)), (rdL (CI .u8) z6 (isub .i64 (imul .i64 4 z5) 3)), (rdL (CI .u8) z6 (isub .i64 (imul .i64 4 z5) 2)), (rdL (CI .u8) z6 (isub .i64 (imul .i64 4 z5) 1))] : List Int) 2)) hs 2 rfl (by kernel_rfl) (by kernel_rfl) i0_49 i1_49 .grow) ?_
       refine wpG.q 15 101 (.slice s12_A s12_n s12_c) ?_
       obtain ⟨h0, h⟩ := of_chk h
       obtain ⟨h1, h⟩ := of_chk h
       have i0_50 := h0
       have i1_50 := h1
       refine wpG.tD 16 false (some 102) (.pointer (adr s12_A ((3 : Int).toNat * Cod.size (CI .u8)))) (yld_idxL (C := (CI .u8)) (t := 26) (e := 5) (k := .i64) (x := 3) (hs.rowL 0 rfl) (by kernel_rfl) (by kernel_rfl) (by kernel_rfl) h0 h1) ?_
       refine wpG.tD 17 true (some 103) (.int .u8 (rdL (CI .u8) ([(rdL (CI .u8) z6 (isub .i64 (imul .i64 4 z5) 4)), (rdL (CI .u8) z6 (isub .i64 (imul .i64 4 z5) 3)), (rdL (CI .u8) z6 (isub .i64 (imul .i64 4 z5) 2)), (rdL (CI .u8) z6 (isub .i64 (imul .i64 4 z5) 1))] : List Int) 3)) (yld_loadL (C := (CI .u8)) (e := 5) (x := 3) (hs.rowL 0 rfl) (by kernel_rfl) rfl (by kernel_rfl) i0_50 i1_50) ?_
       obtain ⟨x24, hx, h⟩ := of_bind h
       have hx := of_some hx
       subst hx
       obtain ⟨i0_51, h⟩ := of_chk h
       obtain ⟨i1_51, h⟩ := of_chk h
       refine wpG.tD 18 false (some 104) (.pointer (some ⟨b1, 0 + ((rdL (CI .u8) ([(rdL (CI .u8) z6 (isub .i64 (imul .i64 4 z5) 4)), (rdL (CI .u8) z6 (isub .i64 (imul .i64 4 z5) 3)), (rdL (CI .u8) z6 (isub .i64 (imul .i64 4 z5) 2)), (rdL (CI .u8) z6 (isub .i64 (imul .i64 4 z5) 1))] : List Int) 3) : Int).toNat * 1, none⟩)) (yld_idx (t := 46) (e := 5) (n := 256) (sz := 1) (k := .u8) (x := (rdL (CI .u8) ([(rdL (CI .u8) z6 (isub .i64 (imul .i64 4 z5) 4)), (rdL (CI .u8) z6 (isub .i64 (imul .i64 4 z5) 3)), (rdL (CI .u8) z6 (isub .i64 (imul .i64 4 z5) 2)), (rdL (CI .u8) z6 (isub .i64 (imul .i64 4 z5) 1))] : List Int) 3)) (by kernel_rfl) (by kernel_rfl) (by kernel_rfl) i0_51 i1_51) ?_
       refine wpG.tD 19 true (some 105) (.int .u8 (rd a1 (rdL (CI .u8) ([(rdL (CI .u8) z6 (isub .i64 (imul .i64 4 z5) 4)), (rdL (CI .u8) z6 (isub .i64 (imul .i64 4 z5) 3)), (rdL (CI .u8) z6 (isub .i64 (imul .i64 4 z5) 2)), (rdL (CI .u8) z6 (isub .i64 (imul .i64 4 z5) 1))] : List Int) 3))) (yld_loadA (e := 5) (x := (rdL (CI .u8) ([(rdL (CI .u8) z6 (isub .i64 (imul .i64 4 z5) 4)), (rdL (CI .u8) z6 (isub .i64 (imul .i64 4 z5) 3)), (rdL (CI .u8) z6 (isub .i64 (imul .i64 4 z5) 2)), (rdL (CI .u8) z6 (isub .i64 (imul .i64 4 z5) 1))] : List Int) 3)) hs 2 rfl (by kernel_rfl) (by kernel_rfl) i0_51 i1_51 .grow) ?_
       refine wpG.only 20 (by kernel_rfl) (op_lit (C := (CI .u8)) (t := 26) (e := 5) (len := 4) (parts := #[(0, .int .u8 (rd a1 (rdL (CI .u8) ([(rdL (CI .u8) z6 (isub .i64 (imul .i64 4 z5) 4)), (rdL (CI .u8) z6 (isub .i64 (imul .i64 4 z5) 3)), (rdL (CI .u8) z6 (isub .i64 (imul .i64 4 z5) 2)), (rdL (CI .u8) z6 (isub .i64 (imul .i64 4 z5) 1))] : List Int) 0))), (1, .int .u8 (rd a1 (rdL (CI .u8) ([(rdL (CI .u8) z6 (isub .i64 (imul .i64 4 z5) 4)), (rdL (CI .u8) z6 (isub .i64 (imul .i64 4 z5) 3)), (rdL (CI .u8) z6 (isub .i64 (imul .i64 4 z5) 2)), (rdL (CI .u8) z6 (isub .i64 (imul .i64 4 z5) 1))] : List Int) 1))), (2, .int .u8 (rd a1 (rdL (CI .u8) ([(rdL (CI .u8) z6 (isub .i64 (imul .i64 4 z5) 4)), (rdL (CI .u8) z6 (isub .i64 (imul .i64 4 z5) 3)), (rdL (CI .u8) z6 (isub .i64 (imul .i64 4 z5) 2)), (rdL (CI .u8) z6 (isub .i64 (imul .i64 4 z5) 1))] : List Int) 2))), (3, .int .u8 (rd a1 (rdL (CI .u8) ([(rdL (CI .u8) z6 (isub .i64 (imul .i64 4 z5) 4)), (rdL (CI .u8) z6 (isub .i64 (imul .i64 4 z5) 3)), (rdL (CI .u8) z6 (isub .i64 (imul .i64 4 z5) 2)), (rdL (CI .u8) z6 (isub .i64 (imul .i64 4 z5) 1))] : List Int) 3)))]) (l := [(rd a1 (rdL (CI .u8) ([(rdL (CI .u8) z6 (isub .i64 (imul .i64 4 z5) 4)), (rdL (CI .u8) z6 (isub .i64 (imul .i64 4 z5) 3)), (rdL (CI .u8) z6 (isub .i64 (imul .i64 4 z5) 2)), (rdL (CI .u8) z6 (isub .i64 (imul .i64 4 z5) 1))] : List Int) 0)), (rd a1 (rdL (CI .u8) ([(rdL (CI .u8) z6 (isub .i64 (imul .i64 4 z5) 4)), (rdL (CI .u8) z6 (isub .i64 (imul .i64 4 z5) 3)), (rdL (CI .u8) z6 (isub .i64 (imul .i64 4 z5) 2)), (rdL (CI .u8) z6 (isub .i64 (imul .i64 4 z5) 1))] : List Int) 1)), (rd a1 (rdL (CI .u8) ([(rdL (CI .u8) z6 (isub .i64 (imul .i64 4 z5) 4)), (rdL (CI .u8) z6 (isub .i64 (imul .i64 4 z5) 3)), (rdL (CI .u8) z6 (isub .i64 (imul .i64 4 z5) 2)), (rdL (CI .u8) z6 (isub .i64 (imul .i64 4 z5) 1))] : List Int) 2)), (rd a1 (rdL (CI .u8) ([(rdL (CI .u8) z6 (isub .i64 (imul .i64 4 z5) 4)), (rdL (CI .u8) z6 (isub .i64 (imul .i64 4 z5) 3)), (rdL (CI .u8) z6 (isub .i64 (imul .i64 4 z5) 2)), (rdL (CI .u8) z6 (isub .i64 (imul .i64 4 z5) 1))] : List Int) 3))]) (d := (some 106)) (by kernel_rfl) hs (by kernel_rfl) (by kernel_rfl) (by kernel_rfl) (z := .int .u8 0) (by kernel_rfl) rfl (by decide) (by decide) (by kernel_rfl) ?_)
       intro s25_A s25_n s25_c w gw hs
       refine ⟨.of gw, ?_⟩
       refine wpG.q 21 9 (.slice s25_A s25_n s25_c) ?_
       refine wpG.fin (by kernel_rfl) rfl (kr43 _ _ ?_)
       obtain ⟨q0, qr0⟩ := Prod.mk.inj (of_some h)
       have q1 := qr0
       subst q0
       subst q1
       exact nj _ _ ⟨s25_A, s25_n, s25_c, (hs.drop (.cons_cons _ (.cons _ (.cons_cons _ (.cons_cons _ .slnil))))), exg (by kernel_rfl)⟩
      refine wpS.tk 5 false (some 84) (.bool false) (yld_b (ef hc) (fun _ => by kernel_rfl)) ?_
      refine wpS.q 6 85 (.bool false) ?_
      refine wpS.fin rfl (kr42 _ _ (then_n (ks41 _ _ (wp_cond_f (by kernel_rfl) (xskip ?_)))))
      obtain ⟨q0, qr0⟩ := Prod.mk.inj (of_some h)
      have q1 := qr0
      subst q0
      subst q1
      exact nj _ _ ⟨s12_A, s12_n, s12_c, (hs.conv rfl), exg (by kernel_rfl)⟩
     refine wpS.tk 1 false (some 80) (.bool false) (yld_b (ef hc) (fun _ => by kernel_rfl)) ?_
     refine wpS.qs [(2, 81, .bool false), (3, 82, undef), (4, 83, undef), (5, 84, undef), (6, 85, .bool false)] ?_
     refine wpS.fin rfl (kr42 _ _ (then_n (ks41 _ _ (wp_cond_f (by kernel_rfl) (xskip ?_)))))
     obtain ⟨q0, qr0⟩ := Prod.mk.inj (of_some h)
     have q1 := qr0
     subst q0
     subst q1
     exact nj _ _ ⟨s12_A, s12_n, s12_c, (hs.conv rfl), exg (by kernel_rfl)⟩
    clear hj hs
    rintro a w ⟨y14_A, y14_n, y14_c, hs, g26, rfl⟩
    refine then_n (ks27 _ _ (xseq_k fun KS52 ks52 => (xregS [0] fun KR53 kr53 => ?_)))
    refine wpS.q 0 10 (.int .i64 0) ?_
    refine wpS.fin rfl (kr53 _ _ (then_n (ks52 _ _ ?_)))
    obtain ⟨y28, hy, hk1⟩ := of_bind h
    refine wp_exq (N := fun a w => ∃ (y28_A : Option Addr) (y28_n : Nat) (y28_c : Nat), St w0 [] [.ownL (CI .u8) y14_A y14_n y14_c y14 5, .ownL (CI .u8) y28_A y28_n y28_c y28 5, .blk b1 (enc .u8 a1) 46] [.rowL (CI .u8) a0_A a0_n a0_c a0] w ∧ ∃ g55 : Nat → Value, a = ⟨#[.slice a0_A a0_n a0_c, .agg (enc .u8 a1).toArray, undef, .pointer (some ⟨b1, 0, none⟩), .slice none 0 0, .int .i64 x2, .slice y28_A y28_n y28_c, .int .u8 y13, .int .i64 z5, .slice y14_A y14_n y14_c, (g55 10), .slice a0_A a0_n a0_c, .int .i64 (a0.length : Int), .int .i64 (iquo .i64 (a0.length : Int) 4), .slice none 0 0, .slice a0_A a0_n a0_c, .slice s3_A s3_n s3_c, .int .i64 x2, .int .i64 z5, .int .i64 x2, .int .i64 (iadd .i64 x2 7), .int .i64 (imul .i64 4 (iadd .i64 x2 7)), .bool true, (g14 23), (g14 24), .slice z6_A z6_n z6_c, .int .i64 z5, .int .i64 (imul .i64 4 z5), .int .i64 (isub .i64 (imul .i64 4 z5) 4), .pointer (adr z6_A (((isub .i64 (imul .i64 4 z5) 4) : Int).toNat * Cod.size (CI .u8))), .int .u8 (rdL (CI .u8) z6 (isub .i64 (imul .i64 4 z5) 4)), .slice z6_A z6_n z6_c, .int .i64 z5, .int .i64 (imul .i64 4 z5), .int .i64 (isub .i64 (imul .i64 4 z5) 3), .pointer (adr z6_A (((isub .i64 (imul .i64 4 z5) 3) : Int).toNat * Cod.size (CI .u8))), .int .u8 (rdL (CI .u8) z6 (isub .i64 (imul .i64 4 z5) 3)), .slice z6_A z6_n z6_c, .int .i64 z5, .int .i64 (imul .i64 4 z5), .int .i64 (isub .i64 (imul .i64 4 z5) 2), .pointer (adr z6_A (((isub .i64 (imul .i64 4 z5) 2) : Int).toNat * Cod.size (CI .u8))), .int .u8 (rdL (CI .u8) z6 (isub .i64 (imul .i64 4 z5) 2)), .slice z6_A z6_n z6_c, .int .i64 z5, .int .i64 (imul .i64 4 z5), .int .i64 (isub .i64 (imul .i64 4 z5) 1), .pointer (adr z6_A (((isub .i64 (imul .i64 4 z5) 1) : Int).toNat * Cod.size (CI .u8))), .int .u8 (rdL (CI .u8) z6 (isub .i64 (imul .i64 4 z5) 1)), .slice s12_A s12_n s12_c, (g26 50), (g26 51), (g26 52), (g26 53), (g26 54), (g26 55), (g26 56), (g26 57), (g26 58), (g26 59), (g26 60), (g26 61), (g26 62), (g26 63), (g26 64), (g26 65), (g26 66), (g26 67), (g26 68), (g26 69), (g26 70), (g26 71), (g26 72), (g26 73), (g26 74), (g26 75), (g26 76), (g26 77), (g26 78), (g26 79), (g26 80), (g26 81), (g26 82), (g26 83), (g26 84), (g26 85), (g26 86), (g26 87), (g26 88), (g26 89), (g26 90), (g26 91), (g26 92), (g26 93), (g26 94), (g26 95), (g26 96), (g26 97), (g26 98), (g26 99), (g26 100), (g26 101), (g26 102), (g26 103), (g26 104), (g26 105), (g26 106), (g55 107), (g55 108), (g55 109), (g55 110), (g55 111), (g55 112), (g55 113), (g55 114), (g55 115), (g55 116), (g55 117), (g55 118), (g55 119), (g55 120), (g55 121), (g55 122), (g55 123), (g55 124), (g55 125), (g55 126), (g55 127), undef], []⟩) (fun N1 nn1 => ?_) ?_
    ·clear hk1
     refine xblock ?_
     refine wp_loop_k (fun n a w => ∃ z26 z27, ∃ (z27_A : Option Addr) (z27_n : Nat) (z27_c : Nat), ref10_keys.l1 K n x2 z5 y14 z26 z27 = some y28 ∧ St w0 [] [.ownL (CI .u8) y14_A y14_n y14_c y14 5, .ownL (CI .u8) z27_A z27_n z27_c z27 5, .blk b1 (enc .u8 a1) 46] [.rowL (CI .u8) a0_A a0_n a0_c a0] w ∧ ∃ g54 : Nat → Value, a = ⟨#[.slice a0_A a0_n a0_c, .agg (enc .u8 a1).toArray, undef, .pointer (some ⟨b1, 0, none⟩), .slice none 0 0, .int .i64 x2, .slice z27_A z27_n z27_c, .int .u8 y13, .int .i64 z5, .slice y14_A y14_n y14_c, .int .i64 z26, .slice a0_A a0_n a0_c, .int .i64 (a0.length : Int), .int .i64 (iquo .i64 (a0.length : Int) 4), .slice none 0 0, .slice a0_A a0_n a0_c, .slice s3_A s3_n s3_c, .int .i64 x2, .int .i64 z5, .int .i64 x2, .int .i64 (iadd .i64 x2 7), .int .i64 (imul .i64 4 (iadd .i64 x2 7)), .bool true, (g14 23), (g14 24), .slice z6_A z6_n z6_c, .int .i64 z5, .int .i64 (imul .i64 4 z5), .int .i64 (isub .i64 (imul .i64 4 z5) 4), .pointer (adr z6_A (((isub .i64 (imul .i64 4 z5) 4) : Int).toNat * Cod.size (CI .u8))), .int .u8 (rdL (CI .u8) z6 (isub .i64 (imul .i64 4 z5) 4)), .slice z6_A z6_n z6_c, .int .i64 z5, .int .i64 (imul .i64 4 z5), .int .i64 (isub .i64 (imul .i64 4 z5) 3), .pointer (adr z6_A (((isub .i64 (imul .i64 4 z5) 3) : Int).toNat * Cod.size (CI .u8))), .int .u8 (rdL (CI .u8) z6 (isub .i64 (imul .i64 4 z5) 3)), .slice z6_A z6_n z6_c, .int .i64 z5, .int .i64 (imul .i64 4 z5), .int .i64 (isub .i64 (imul .i64 4 z5) 2), .pointer (adr z6_A (((isub .i64 (imul .i64 4 z5) 2) : Int).toNat * Cod.size (CI .u8))), .int .u8 (rdL (CI .u8) z6 (isub .i64 (imul .i64 4 z5) 2)), .slice z6_A z6_n z6_c, .int .i64 z5, .int .i64 (imul .i64 4 z5), .int .i64 (isub .i64 (imul .i64 4 z5) 1), .pointer (adr z6_A (((isub .i64 (imul .i64 4 z5) 1) : Int).toNat * Cod.size (CI .u8))), .int .u8 (rdL (CI .u8) z6 (isub .i64 (imul .i64 4 z5) 1)), .slice s12_A s12_n s12_c, (g26 50), (g26 51), (g26 52), (g26 53), (g26 54), (g26 55), (g26 56), (g26 57), (g26 58), (g26 59), (g26 60), (g26 61), (g26 62), (g26 63), (g26 64), (g26 65), (g26 66), (g26 67), (g26 68), (g26 69), (g26 70), (g26 71), (g26 72), (g26 73), (g26 74), (g26 75), (g26 76), (g26 77), (g26 78), (g26 79), (g26 80), (g26 81), (g26 82), (g26 83), (g26 84), (g26 85), (g26 86), (g26 87), (g26 88), (g26 89), (g26 90), (g26 91), (g26 92), (g26 93), (g26 94), (g26 95), (g26 96), (g26 97), (g26 98), (g26 99), (g26 100), (g26 101), (g26 102), (g26 103), (g26 104), (g26 105), (g26 106), (g54 107), (g54 108), (g54 109), (g54 110), (g54 111), (g54 112), (g54 113), (g54 114), (g54 115), (g54 116), (g54 117), (g54 118), (g54 119), (g54 120), (g54 121), (g54 122), (g54 123), (g54 124), (g54 125), (g54 126), (g54 127), undef], []⟩) K ⟨0, z6, z6_A, z6_n, z6_c, hy, hs.conv rfl, exg (by kernel_rfl)⟩ ?_
     clear hs h hy
     rintro n a w ⟨z26, z27, z27_A, z27_n, z27_c, h, hs, g54, rfl⟩ KL1 kl1
     cases n with
     | zero => exact nomatch (show none = some _ from h)
     | succ n =>
      refine xseq_k fun KS56 ks56 => ?_
      refine xseq_k fun KS57 ks57 => ?_
      refine xregS [0, 1] fun KR58 kr58 => ?_
      refine wpS.q 0 107 (.int .i64 z26) ?_
      rcases of_if h with ⟨hc, h⟩ | ⟨hc, h⟩
      ·refine wpS.tk 1 false (some 108) (.bool true) (yld_b (dt hc) (fun _ => by kernel_rfl)) ?_
       refine wpS.fin rfl (kr58 _ _ (then_n (ks57 _ _ (wp_cond_t (by kernel_rfl) (xskip (then_n (ks56 _ _ (xseq_k fun KS59 ks59 => (xblock ?_)))))))))
       refine wp_regG [16] (fun k => True) 18 (by kernel_rfl) (by kernel_rfl) (by kernel_rfl) fun KR60 kr60 => ?_
       have hs := hs.drawn1
       refine wpG.q 0 111 (.slice z27_A z27_n z27_c) ?_
       refine wpG.q 1 112 (.slice z27_A z27_n z27_c) ?_
       refine wpG.q 2 113 (.int .i64 z5) ?_
       refine wpG.q 3 114 (.int .i64 x2) ?_
       refine wpG.q 4 115 (.int .i64 (isub .i64 z5 x2)) ?_
       refine wpG.q 5 116 (.int .i64 (imul .i64 4 (isub .i64 z5 x2))) ?_
       refine wpG.q 6 117 (.int .i64 z26) ?_
       refine wpG.q 7 118 (.int .i64 (iadd .i64 (imul .i64 4 (isub .i64 z5 x2)) z26)) ?_
       obtain ⟨x29, hx, h⟩ := of_bind h
       have hx := of_some hx
       subst hx
       obtain ⟨h0, h⟩ := of_chk h
       obtain ⟨h1, h⟩ := of_chk h
       have i0_61 := h0
       have i1_61 := h1
       refine wpG.tD 8 false (some 119) (.pointer (adr z27_A (((iadd .i64 (imul .i64 4 (isub .i64 z5 x2)) z26) : Int).toNat * Cod.size (CI .u8)))) (yld_idxL (C := (CI .u8)) (t := 26) (e := 5) (k := .i64) (x := (iadd .i64 (imul .i64 4 (isub .i64 z5 x2)) z26)) (hs.rowL 1 rfl) (by kernel_rfl) (by kernel_rfl) (by kernel_rfl) h0 h1) ?_
       refine wpG.take [9, 14, 15, 16, 17] 9 true (some 120) (.int .u8 (rdL (CI .u8) z27 (iadd .i64 (imul .i64 4 (isub .i64 z5 x2)) z26))) (by kernel_rfl) (by kernel_rfl) (yld_loadL (C := (CI .u8)) (e := 5) (x := (iadd .i64 (imul .i64 4 (isub .i64 z5 x2)) z26)) (hs.rowL 1 rfl) (by kernel_rfl) rfl (by kernel_rfl) i0_61 i1_61) ?_
       refine wpG.q 10 121 (.slice y14_A y14_n y14_c) ?_
       refine wpG.q 11 122 (.int .i64 z26) ?_
       obtain ⟨h0, h⟩ := of_chk h
       obtain ⟨h1, h⟩ := of_chk h
       have i0_62 := h0
       have i1_62 := h1
       refine wpG.tD 12 false (some 123) (.pointer (adr y14_A ((z26 : Int).toNat * Cod.size (CI .u8)))) (yld_idxL (C := (CI .u8)) (t := 26) (e := 5) (k := .i64) (x := z26) (hs.rowL 0 rfl) (by kernel_rfl) (by kernel_rfl) (by kernel_rfl) h0 h1) ?_
       refine wpG.take [13, 14, 15, 16, 17] 13 true (some 124) (.int .u8 (rdL (CI .u8) y14 z26)) (by kernel_rfl) (by kernel_rfl) (yld_loadL (C := (CI .u8)) (e := 5) (x := z26) (hs.rowL 0 rfl) (by kernel_rfl) rfl (by kernel_rfl) i0_62 i1_62) ?_
       refine wpG.q 14 125 (.int .u8 (ixor .u8 (rdL (CI .u8) z27 (iadd .i64 (imul .i64 4 (isub .i64 z5 x2)) z26)) (rdL (CI .u8) y14 z26))) ?_
       refine wpG.only 15 (by kernel_rfl) (op_lit (C := (CI .u8)) (t := 26) (e := 5) (len := 1) (parts := #[(0, .int .u8 (ixor .u8 (rdL (CI .u8) z27 (iadd .i64 (imul .i64 4 (isub .i64 z5 x2)) z26)) (rdL (CI .u8) y14 z26)))]) (l := [(ixor .u8 (rdL (CI .u8) z27 (iadd .i64 (imul .i64 4 (isub .i64 z5 x2)) z26)) (rdL (CI .u8) y14 z26))]) (d := (some 126)) (by kernel_rfl) hs (by kernel_rfl) (by kernel_rfl) (by kernel_rfl) (z := .int .u8 0) (by kernel_rfl) rfl (by decide) (by decide) (by kernel_rfl) ?_)
       intro s30_A s30_n s30_c w gw hs
       refine ⟨.of gw, ?_⟩
       obtain ⟨h0, h⟩ := of_chk h
       refine wpG.only 16 (by kernel_rfl) (op_appendT (C := (CI .u8)) (t := 26) (ty := 26) (e := 5) (bytes := 1) (B := 140737488355328) (d := (some 127)) (by kernel_rfl) hs 2 rfl (hs.rowL 0 rfl) (by kernel_rfl) (by kernel_rfl) (by kernel_rfl) (by kernel_rfl) (by kernel_rfl) h0 (by decide) (by decide) ?_)
       intro s31_A s31_n s31_c w hs
       refine ⟨⟨fun hf => absurd hf (by decide), .all _ _⟩, ?_⟩
       refine wpG.q 17 6 (.slice s31_A s31_n s31_c) ?_
       refine wpG.fin (by kernel_rfl) rfl (kr60 _ _ ?_)
       refine inBlock_n (then_n (ks59 _ _ (xregS [0, 1, 2] fun KR63 kr63 => ?_)))
       refine wpS.qs [(0, 109, .int .i64 z26), (1, 110, .int .i64 (iadd .i64 z26 1))] ?_
       obtain ⟨x32, hx, h⟩ := of_bind h
       refine wpS.tk 2 false (some 10) (.int .i64 x32) (yld_int hx (fun _ => by kernel_rfl)) ?_
       refine wpS.fin rfl (kr63 _ _ ?_)
       exact then_n (kl1 _ _ ⟨n, Nat.lt_succ_self n, x32, (z27 ++ ([(ixor .u8 (rdL (CI .u8) z27 (iadd .i64 (imul .i64 4 (isub .i64 z5 x2)) z26)) (rdL (CI .u8) y14 z26))] : List Int)), s31_A, s31_n, s31_c, h, (hs.drop (.cons _ (.cons_cons _ (.cons_cons _ (.cons_cons _ .slnil))))), exg (by kernel_rfl)⟩)
      refine wpS.tk 1 false (some 108) (.bool false) (yld_b (df hc) (fun _ => by kernel_rfl)) ?_
      refine wpS.fin rfl (kr58 _ _ (then_n (ks57 _ _ (wp_cond_f (by kernel_rfl) (xexit (then_x (then_x (inBlock_hit ?_))))))))
      have q0 := of_some h
      subst q0
      exact exq_n (nn1 _ _ ⟨z27_A, z27_n, z27_c, (hs.conv rfl), exg (by kernel_rfl)⟩)
    clear hs h hy
    rintro a w ⟨y28_A, y28_n, y28_c, hs, g55, rfl⟩
    have h := hk1
    refine inBlock_n (then_n (ks19 _ _ (xregS [0, 1, 2] fun KR64 kr64 => ?_)))
    refine wpS.qs [(0, 23, .int .i64 z5), (1, 24, .int .i64 (iadd .i64 z5 1))] ?_
    obtain ⟨x33, hx, h⟩ := of_bind h
    refine wpS.tk 2 false (some 8) (.int .i64 x33) (yld_int hx (fun _ => by kernel_rfl)) ?_
    refine wpS.fin rfl (kr64 _ _ ?_)
    exact then_n (kl0 _ _ ⟨n, Nat.lt_succ_self n, y13, x33, y28, y28_A, y28_n, y28_c, h, (hs.drop (.cons _ (.cons_cons _ (.cons_cons _ .slnil)))), exg (by kernel_rfl)⟩)
   refine wpS.tk 4 false (some 22) (.bool false) (yld_b (df hc) (fun _ => by kernel_rfl)) ?_
   refine wpS.fin rfl (kr18 _ _ (then_n (ks17 _ _ (wp_cond_f (by kernel_rfl) (xexit (then_x (then_x (inBlock_hit ?_))))))))
   have q0 := of_some h
   subst q0
   exact exq_n (nn0 _ _ ⟨z6_A, z6_n, z6_c, (hs.conv rfl), exg (by kernel_rfl)⟩)
 clear hs h hy
 rintro a w ⟨y7_A, y7_n, y7_c, hs, g15, rfl⟩
 have h := hk0
 refine then_n (ks11 _ _ (xseq_k fun KS65 ks65 => (xregS [0, 1] fun KR66 kr66 => ?_)))
 refine wpS.qs [(0, 128, .slice y7_A y7_n y7_c), (1, 4, .slice y7_A y7_n y7_c)] ?_
 refine wpS.fin rfl (kr66 _ _ (then_n (ks65 _ _ (xret ?_))))
 have q0 := of_some h
 subst q0
 exact qq _ _ (post_ret (by kernel_rfl) (run_results [.tmp 4] [.slice y7_A y7_n y7_c] (by kernel_rfl) (.cons (res_tmp (by kernel_rfl)) .nil)) ⟨⟨y7_A, y7_n, y7_c⟩, congrArg Ending.returned (by kernel_rfl), ((hs.drop (.cons_cons _ (.cons _ .slnil))).pickR pick_nil)⟩)
end Go.Proofs.Ytmpagpbnpgcecaa
