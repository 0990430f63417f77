/- Printed by this work's own program: the code of each function below comes to the answer that its plain form tells. -/
import Derived.Test.YtblploekkjeolaaMv
import Derived.Test.YtblploekkjeolaaProg
import Derived.Test.YtblploekkjeolaaLDpackBack
import Derived.Test.YtblploekkjeolaaDX0
import Derived.Test.YtblploekkjeolaaDX1
import Derived.Test.YtblploekkjeolaaDX2
import Derived.Test.YtblploekkjeolaaDX3
import Derived.Test.YtblploekkjeolaaDX4
import Derived.Test.YtblploekkjeolaaDX5
import Derived.Test.YtblploekkjeolaaDX6
import Derived.Test.YtblploekkjeolaaDX7
import Derived.Test.YtblploekkjeolaaDX8
set_option linter.unusedVariables false
set_option linter.unusedSimpArgs false
set_option maxRecDepth 100000
set_option maxHeartbeats 4000000
namespace Go.Proofs.Ytblploekkjeolaa
open Go.Mx
attribute [local irreducible] wpOp

theorem law22_DpackBack.ok {K : Nat} {a0 : Int} {a1 : Arr 256} {a2 : List Int} {a3 : List (Arr 256)} {r0 : Bool} {a2_A : Option Addr} {a2_n : Nat} {a2_c : Nat} {a3_A : Option Addr} {a3_n : Nat} {a3_c : Nat} (h : law22_DpackBack.f K a0 a1 a2 a3 = some r0) (w0 : World) (hp2 : RowL (CI .u8) w0 a2_A a2_n a2_c a2) (hp3 : RowL (CA .i32 256 (by decide)) w0 a3_A a3_n a3_c a3) : Ret Try.prog 6 #[.int .u8 a0, .agg (enc .i32 a1).toArray, .slice a2_A a2_n a2_c, .slice a3_A a3_n a3_c] w0 (.bool r0) := by
 refine calls_k Try.func6 rfl fun Q qq => ?_
 have hs := St.startR (all_cons (RowP.ent hp2) (all_cons (RowP.ent hp3) all_nil))
 refine wp_conv (a' := ⟨#[.int .u8 a0, .agg (enc .i32 a1).toArray, .slice a2_A a2_n a2_c, .slice a3_A a3_n a3_c, undef, undef, undef, undef, undef, undef, undef, undef, undef, undef, undef, undef, undef, undef, undef, undef, undef, undef, undef, undef, undef, undef, undef, undef, undef, undef, undef, undef, undef, undef, undef, undef, undef, undef, undef, undef, undef, undef, undef, undef, undef, undef, undef, undef, undef, undef, undef, undef, undef, undef, undef, undef, undef, undef, undef, undef, undef, undef, undef, undef, undef, undef, undef, undef, undef, undef, undef, undef, undef, undef, undef, undef, undef, undef, undef, undef, undef, undef, undef, undef, undef, undef, undef, undef, undef, undef, undef, undef, undef, undef, undef, undef, undef, undef, undef, undef, undef, undef, undef, undef, undef, undef, undef, undef, undef, undef, undef, undef, undef, undef, undef, undef, undef, undef, undef, undef, undef, undef, undef, undef, undef, undef, undef, undef, undef, undef, undef, undef, undef, undef, undef, undef, undef, undef, undef, undef, undef, undef, undef, undef, undef, undef, undef, undef, undef, undef, undef, undef, undef, undef, undef, undef, undef, undef, undef, undef, undef, undef, undef, undef, undef, undef, undef, undef, undef, undef, undef, undef, undef], []⟩) (by kernel_rfl) ?_
 refine xseq_k fun KS1 ks1 => ?_
 refine wp_regS (l := [0, 1]) (by kernel_rfl) (by kernel_rfl) fun KR2 kr2 => ?_
 refine wpS.only 0 (op_box (t := 40) (v := .agg (enc .i32 a1).toArray) (d := (some 5)) (by kernel_rfl) hs (enc .i32 a1) (by kernel_rfl) (by kernel_rfl) ?_)
 intro b1 w gw hs
 refine ⟨fun _ => trivial, ?_⟩
 refine wpS.p 1 8 (.bool false) (by kernel_rfl) ?_
 refine wpS.fin rfl (kr2 _ _ ?_)
 refine then_n (ks1 _ _ ?_)
 refine xseq_k fun KS3 ks3 => ?_
 refine wp_regS (l := [0, 1, 2, 3, 4, 5]) (by kernel_rfl) (by kernel_rfl) fun KR4 kr4 => ?_
 refine wpS.ps [(0, 26, .int .u8 a0), (1, 27, .int .u8 (irem .u8 a0 3)), (2, 28, .agg #[.int .i64 0, .int .i64 0, .int .i32 0, .int .i64 0, .int .i32 0, .int .i32 0, .int .i64 0, .int .i64 0])] (by kernel_rfl) ?_
 obtain ⟨⟨r2_0, r2_1, r2_2, r2_3, r2_4, r2_5, r2_6, r2_7⟩, hg, h⟩ := of_bind h
 refine wpS.only 3 (op_call (d := (some 29)) (by kernel_rfl) hs (fun _ => by kernel_rfl) (law22_kind.ok hg _) ?_)
 intro w gw hs
 refine ⟨fun _ => trivial, ?_⟩
 refine wpS.only 4 (op_alloc (t := 23) (d := (some 9)) (by kernel_rfl) hs ([.int .i64 0, .int .i64 0, .int .i32 0, .int .i64 0, .int .i32 0, .int .i32 0, .int .i64 0, .int .i64 0]) (.agg #[.int .i64 0, .int .i64 0, .int .i32 0, .int .i64 0, .int .i32 0, .int .i32 0, .int .i64 0, .int .i64 0]) (by kernel_rfl) (by kernel_rfl) (by kernel_rfl) ?_)
 intro b3 w gw hs
 refine ⟨fun _ => trivial, ?_⟩
 refine wpS.only 5 (op_storeW (t := 23) (v := .agg #[.int .i64 r2_0, .int .i64 r2_1, .int .i32 r2_2, .int .i64 r2_3, .int .i32 r2_4, .int .i32 r2_5, .int .i64 r2_6, .int .i64 r2_7]) (d := none) (by kernel_rfl) hs 0 rfl (vs := [.int .i64 r2_0, .int .i64 r2_1, .int .i32 r2_2, .int .i64 r2_3, .int .i32 r2_4, .int .i32 r2_5, .int .i64 r2_6, .int .i64 r2_7]) (n := 8) (by kernel_rfl) (by kernel_rfl) (by kernel_rfl) (by simp [enc_len]) (by simp [enc_len]) (by simp [Value.oneCell']) ?_)
 intro w kp hs
 refine ⟨fun _ => trivial, ?_⟩
 refine wpS.fin rfl (kr4 _ _ ?_)
 refine then_n (ks3 _ _ ?_)
 refine xseq_k fun KS5 ks5 => ?_
 refine xseq_k fun KS6 ks6 => ?_
 refine wp_regS (l := [0, 1, 2, 3, 4, 5, 6, 7]) (by kernel_rfl) (by kernel_rfl) fun KR7 kr7 => ?_
 refine wpS.p 0 30 (.slice a2_A a2_n a2_c) (by kernel_rfl) ?_
 refine wpS.take 1 false (some 31) (.int .i64 (a2.length : Int)) (by kernel_rfl) (yld_lenL (hs.rowR 0 rfl) (fun _ => by kernel_rfl)) ?_
 rcases of_if h with ⟨hc, h⟩ | ⟨hc, h⟩
 ·refine wpS.take 2 false (some 32) (.bool true) (by kernel_rfl) (yld_b (dt hc) (fun _ => by kernel_rfl)) ?_
  refine wpS.ps [(3, 33, .bool true), (4, 34, undef), (5, 35, undef), (6, 36, undef), (7, 37, .bool true)] (by kernel_rfl) ?_
  refine wpS.fin rfl (kr7 _ _ ?_)
  refine then_n (ks6 _ _ ?_)
  refine wp_cond_t (by kernel_rfl) ?_
  refine xseq_k fun KS8 ks8 => ?_
  refine wp_regS (l := [0, 1]) (by kernel_rfl) (by kernel_rfl) fun KR9 kr9 => ?_
  obtain ⟨r4, hg, h⟩ := of_bind h
  refine wpS.only 0 (op_call (d := (some 38)) (by kernel_rfl) hs (fun _ => by kernel_rfl) (law22_awake.ok hg _) ?_)
  intro w gw hs
  refine ⟨fun _ => trivial, ?_⟩
  refine wpS.p 1 8 (.bool r4) (by kernel_rfl) ?_
  refine wpS.fin rfl (kr9 _ _ ?_)
  refine then_n (ks8 _ _ ?_)
  refine xret ?_
  refine then_r ?_
  have q0 := of_some h
  subst q0
  exact qq _ _ (post_ret (by kernel_rfl) (run_results [.tmp 8] [.bool r4] (by kernel_rfl) (.cons (res_tmp (by kernel_rfl)) .nil)) ⟨congrArg Ending.returned (by kernel_rfl), hs.none⟩)
 ·refine wpS.take 2 false (some 32) (.bool false) (by kernel_rfl) (yld_b (df hc) (fun _ => by kernel_rfl)) ?_
  refine wpS.ps [(3, 33, .bool false), (4, 34, .slice a3_A a3_n a3_c)] (by kernel_rfl) ?_
  refine wpS.take 5 false (some 35) (.int .i64 (a3.length : Int)) (by kernel_rfl) (yld_lenL (hs.rowR 1 rfl) (fun _ => by kernel_rfl)) ?_
  rcases of_if h with ⟨hc, h⟩ | ⟨hc, h⟩
  ·refine wpS.take 6 false (some 36) (.bool true) (by kernel_rfl) (yld_b (dt hc) (fun _ => by kernel_rfl)) ?_
   refine wpS.p 7 37 (.bool true) (by kernel_rfl) ?_
   refine wpS.fin rfl (kr7 _ _ ?_)
   refine then_n (ks6 _ _ ?_)
   refine wp_cond_t (by kernel_rfl) ?_
   refine xseq_k fun KS10 ks10 => ?_
   refine wp_regS (l := [0, 1]) (by kernel_rfl) (by kernel_rfl) fun KR11 kr11 => ?_
   obtain ⟨r5, hg, h⟩ := of_bind h
   refine wpS.only 0 (op_call (d := (some 38)) (by kernel_rfl) hs (fun _ => by kernel_rfl) (law22_awake.ok hg _) ?_)
   intro w gw hs
   refine ⟨fun _ => trivial, ?_⟩
   refine wpS.p 1 8 (.bool r5) (by kernel_rfl) ?_
   refine wpS.fin rfl (kr11 _ _ ?_)
   refine then_n (ks10 _ _ ?_)
   refine xret ?_
   refine then_r ?_
   have q0 := of_some h
   subst q0
   exact qq _ _ (post_ret (by kernel_rfl) (run_results [.tmp 8] [.bool r5] (by kernel_rfl) (.cons (res_tmp (by kernel_rfl)) .nil)) ⟨congrArg Ending.returned (by kernel_rfl), hs.none⟩)
  ·refine wpS.take 6 false (some 36) (.bool false) (by kernel_rfl) (yld_b (df hc) (fun _ => by kernel_rfl)) ?_
   refine wpS.p 7 37 (.bool false) (by kernel_rfl) ?_
   refine wpS.fin rfl (kr7 _ _ ?_)
   refine then_n (ks6 _ _ ?_)
   refine wp_cond_f (by kernel_rfl) ?_
   refine xskip ?_
   refine then_n (ks5 _ _ ?_)
   refine xseq_k fun KS12 ks12 => ?_
   refine xseq_k fun KS13 ks13 => ?_
   refine wp_regS (l := [0, 1, 2, 3, 4, 5, 6, 7, 8, 9, 10, 11]) (by kernel_rfl) (by kernel_rfl) fun KR14 kr14 => ?_
   refine wpS.ps [(0, 39, .agg (enc .i32 (wr (wr (zeroA 2) 0 2) 1 2)).toArray), (1, 40, .agg (enc .i32 (wr (wr (zeroA 2) 0 4095) 1 4096)).toArray), (2, 41, .agg (enc .i32 (wr (wr (zeroA 2) 0 (-1)) 1 1023)).toArray), (3, 42, .pointer (some ⟨b3, 4, none⟩))] (by kernel_rfl) ?_
   refine wpS.take 4 true (some 43) (.int .i32 r2_4) (by kernel_rfl) (yld_load1 (e := 21) (o := 4) hs 0 rfl (by kernel_rfl) (by kernel_rfl) (by rfl) .grow) ?_
   refine wpS.ps [(5, 44, .int .i32 (isub .i32 r2_4 1)), (6, 45, .pointer (some ⟨b3, 4, none⟩))] (by kernel_rfl) ?_
   refine wpS.take 7 true (some 46) (.int .i32 r2_4) (by kernel_rfl) (yld_load1 (e := 21) (o := 4) hs 0 rfl (by kernel_rfl) (by kernel_rfl) (by rfl) .grow) ?_
   refine wpS.p 8 47 (.agg (enc .i32 (wr (wr (zeroA 2) 0 (isub .i32 r2_4 1)) 1 r2_4)).toArray) (by kernel_rfl) ?_
   refine wpS.only 9 (op_litL (C := (CA .i32 2 (by decide))) (t := 64) (e := 63) (len := 4) (parts := #[(0, .agg (enc .i32 (wr (wr (zeroA 2) 0 2) 1 2)).toArray), (1, .agg (enc .i32 (wr (wr (zeroA 2) 0 4095) 1 4096)).toArray), (2, .agg (enc .i32 (wr (wr (zeroA 2) 0 (-1)) 1 1023)).toArray), (3, .agg (enc .i32 (wr (wr (zeroA 2) 0 (isub .i32 r2_4 1)) 1 r2_4)).toArray)]) (l := [(wr (wr (zeroA 2) 0 2) 1 2), (wr (wr (zeroA 2) 0 4095) 1 4096), (wr (wr (zeroA 2) 0 (-1)) 1 1023), (wr (wr (zeroA 2) 0 (isub .i32 r2_4 1)) 1 r2_4)]) (d := (some 48)) (by kernel_rfl) hs (by kernel_rfl) rfl (by kernel_rfl) (by kernel_rfl) (z := .agg (enc .i32 (zeroA 2)).toArray) (by kernel_rfl) rfl (by decide) (by decide) ?_)
   intro s6_A s6_n s6_c w gw hs
   refine ⟨fun _ => trivial, ?_⟩
   refine wpS.take 10 false (some 49) (.int .i64 (([(wr (wr (zeroA 2) 0 2) 1 2), (wr (wr (zeroA 2) 0 4095) 1 4096), (wr (wr (zeroA 2) 0 (-1)) 1 1023), (wr (wr (zeroA 2) 0 (isub .i32 r2_4 1)) 1 r2_4)] : List (Arr 2)).length : Int)) (by kernel_rfl) (yld_lenL (hs.rowL 0 rfl) (fun _ => by kernel_rfl)) ?_
   refine wpS.p 11 50 (.int .i64 0) (by kernel_rfl) ?_
   refine wpS.fin rfl (kr14 _ _ ?_)
   refine then_n (ks13 _ _ ?_)
   obtain ⟨t0, hy, hk0⟩ := of_bind h
   refine wp_exq (N := fun a w => t0 = .inl () ∧ St w0 [] [.ownL (CA .i32 2 (by decide)) s6_A s6_n s6_c ([(wr (wr (zeroA 2) 0 2) 1 2), (wr (wr (zeroA 2) 0 4095) 1 4096), (wr (wr (zeroA 2) 0 (-1)) 1 1023), (wr (wr (zeroA 2) 0 (isub .i32 r2_4 1)) 1 r2_4)] : List (Arr 2)) 63, .blk b3 ([.int .i64 r2_0, .int .i64 r2_1, .int .i32 r2_2, .int .i64 r2_3, .int .i32 r2_4, .int .i32 r2_5, .int .i64 r2_6, .int .i64 r2_7]) 23, .blk b1 (enc .i32 a1) 40] [.rowL (CI .u8) a2_A a2_n a2_c a2, .rowL (CA .i32 256 (by decide)) a3_A a3_n a3_c a3] w ∧ ∃ g : Nat → Value, a = ⟨#[.int .u8 a0, .agg (enc .i32 a1).toArray, .slice a2_A a2_n a2_c, .slice a3_A a3_n a3_c, undef, .pointer (some ⟨b1, 0, none⟩), undef, undef, (g 8), .pointer (some ⟨b3, 0, none⟩), undef, (g 11), (g 12), (g 13), (g 14), (g 15), (g 16), undef, undef, undef, undef, undef, undef, undef, undef, undef, .int .u8 a0, .int .u8 (irem .u8 a0 3), .agg #[.int .i64 0, .int .i64 0, .int .i32 0, .int .i64 0, .int .i32 0, .int .i32 0, .int .i64 0, .int .i64 0], .agg #[.int .i64 r2_0, .int .i64 r2_1, .int .i32 r2_2, .int .i64 r2_3, .int .i32 r2_4, .int .i32 r2_5, .int .i64 r2_6, .int .i64 r2_7], .slice a2_A a2_n a2_c, .int .i64 (a2.length : Int), .bool false, .bool false, .slice a3_A a3_n a3_c, .int .i64 (a3.length : Int), .bool false, .bool false, undef, .agg (enc .i32 (wr (wr (zeroA 2) 0 2) 1 2)).toArray, .agg (enc .i32 (wr (wr (zeroA 2) 0 4095) 1 4096)).toArray, .agg (enc .i32 (wr (wr (zeroA 2) 0 (-1)) 1 1023)).toArray, .pointer (some ⟨b3, 4, none⟩), .int .i32 r2_4, .int .i32 (isub .i32 r2_4 1), .pointer (some ⟨b3, 4, none⟩), .int .i32 r2_4, .agg (enc .i32 (wr (wr (zeroA 2) 0 (isub .i32 r2_4 1)) 1 r2_4)).toArray, .slice s6_A s6_n s6_c, .int .i64 (([(wr (wr (zeroA 2) 0 2) 1 2), (wr (wr (zeroA 2) 0 4095) 1 4096), (wr (wr (zeroA 2) 0 (-1)) 1 1023), (wr (wr (zeroA 2) 0 (isub .i32 r2_4 1)) 1 r2_4)] : List (Arr 2)).length : Int), (g 50), (g 51), (g 52), (g 53), (g 54), (g 55), (g 56), (g 57), (g 58), (g 59), (g 60), (g 61), (g 62), (g 63), (g 64), (g 65), (g 66), (g 67), (g 68), (g 69), (g 70), (g 71), (g 72), (g 73), (g 74), (g 75), (g 76), (g 77), (g 78), (g 79), (g 80), (g 81), (g 82), (g 83), (g 84), (g 85), (g 86), (g 87), (g 88), (g 89), (g 90), (g 91), (g 92), (g 93), (g 94), (g 95), (g 96), (g 97), (g 98), (g 99), (g 100), undef, undef, undef, undef, undef, undef, undef, undef, undef, undef, undef, undef, undef, undef, undef, undef, undef, undef, undef, undef, undef, undef, undef, undef, undef, undef, undef, undef, undef, undef, undef, undef, undef, undef, undef, undef, undef, undef, undef, undef, undef, undef, undef, undef, undef, undef, undef, undef, undef, undef, undef, undef, undef, undef, undef, undef, undef, undef, undef, undef, undef, undef, undef, undef, undef, undef, undef, undef, undef, undef, undef, undef], []⟩) (fun N0 nn0 => ?_) ?_
   ·refine xblock ?_
    refine wp_loop_k (fun n a w => ∃ z7, law22_DpackBack.l0 K n a1 a2 r2_4 z7 = some t0 ∧ St w0 [] [.ownL (CA .i32 2 (by decide)) s6_A s6_n s6_c ([(wr (wr (zeroA 2) 0 2) 1 2), (wr (wr (zeroA 2) 0 4095) 1 4096), (wr (wr (zeroA 2) 0 (-1)) 1 1023), (wr (wr (zeroA 2) 0 (isub .i32 r2_4 1)) 1 r2_4)] : List (Arr 2)) 63, .blk b3 ([.int .i64 r2_0, .int .i64 r2_1, .int .i32 r2_2, .int .i64 r2_3, .int .i32 r2_4, .int .i32 r2_5, .int .i64 r2_6, .int .i64 r2_7]) 23, .blk b1 (enc .i32 a1) 40] [.rowL (CI .u8) a2_A a2_n a2_c a2, .rowL (CA .i32 256 (by decide)) a3_A a3_n a3_c a3] w ∧ ∃ g : Nat → Value, a = ⟨#[.int .u8 a0, .agg (enc .i32 a1).toArray, .slice a2_A a2_n a2_c, .slice a3_A a3_n a3_c, undef, .pointer (some ⟨b1, 0, none⟩), undef, undef, (g 8), .pointer (some ⟨b3, 0, none⟩), undef, (g 11), (g 12), (g 13), (g 14), (g 15), (g 16), undef, undef, undef, undef, undef, undef, undef, undef, undef, .int .u8 a0, .int .u8 (irem .u8 a0 3), .agg #[.int .i64 0, .int .i64 0, .int .i32 0, .int .i64 0, .int .i32 0, .int .i32 0, .int .i64 0, .int .i64 0], .agg #[.int .i64 r2_0, .int .i64 r2_1, .int .i32 r2_2, .int .i64 r2_3, .int .i32 r2_4, .int .i32 r2_5, .int .i64 r2_6, .int .i64 r2_7], .slice a2_A a2_n a2_c, .int .i64 (a2.length : Int), .bool false, .bool false, .slice a3_A a3_n a3_c, .int .i64 (a3.length : Int), .bool false, .bool false, undef, .agg (enc .i32 (wr (wr (zeroA 2) 0 2) 1 2)).toArray, .agg (enc .i32 (wr (wr (zeroA 2) 0 4095) 1 4096)).toArray, .agg (enc .i32 (wr (wr (zeroA 2) 0 (-1)) 1 1023)).toArray, .pointer (some ⟨b3, 4, none⟩), .int .i32 r2_4, .int .i32 (isub .i32 r2_4 1), .pointer (some ⟨b3, 4, none⟩), .int .i32 r2_4, .agg (enc .i32 (wr (wr (zeroA 2) 0 (isub .i32 r2_4 1)) 1 r2_4)).toArray, .slice s6_A s6_n s6_c, .int .i64 (([(wr (wr (zeroA 2) 0 2) 1 2), (wr (wr (zeroA 2) 0 4095) 1 4096), (wr (wr (zeroA 2) 0 (-1)) 1 1023), (wr (wr (zeroA 2) 0 (isub .i32 r2_4 1)) 1 r2_4)] : List (Arr 2)).length : Int), .int .i64 z7, (g 51), (g 52), (g 53), (g 54), (g 55), (g 56), (g 57), (g 58), (g 59), (g 60), (g 61), (g 62), (g 63), (g 64), (g 65), (g 66), (g 67), (g 68), (g 69), (g 70), (g 71), (g 72), (g 73), (g 74), (g 75), (g 76), (g 77), (g 78), (g 79), (g 80), (g 81), (g 82), (g 83), (g 84), (g 85), (g 86), (g 87), (g 88), (g 89), (g 90), (g 91), (g 92), (g 93), (g 94), (g 95), (g 96), (g 97), (g 98), (g 99), (g 100), undef, undef, undef, undef, undef, undef, undef, undef, undef, undef, undef, undef, undef, undef, undef, undef, undef, undef, undef, undef, undef, undef, undef, undef, undef, undef, undef, undef, undef, undef, undef, undef, undef, undef, undef, undef, undef, undef, undef, undef, undef, undef, undef, undef, undef, undef, undef, undef, undef, undef, undef, undef, undef, undef, undef, undef, undef, undef, undef, undef, undef, undef, undef, undef, undef, undef, undef, undef, undef, undef, undef, undef], []⟩) K ⟨0, hy, hs.conv rfl, exg (by kernel_rfl)⟩ ?_
    clear hs h hy
    rintro n a w ⟨z7, h, hs, g, rfl⟩ KL0 kl0
    cases n with
    | zero => exact nomatch (show none = some _ from h)
    | succ n =>
     refine xseq_k fun KS15 ks15 => ?_
     refine wp_regS (l := [0]) (by kernel_rfl) (by kernel_rfl) fun KR16 kr16 => ?_
     rcases of_if h with ⟨hc, h⟩ | ⟨hc, h⟩
     ·refine wpS.take 0 false (some 51) (.bool true) (by kernel_rfl) (yld_b (dt hc) (fun _ => by kernel_rfl)) ?_
      refine wpS.fin rfl (kr16 _ _ ?_)
      refine then_n (ks15 _ _ ?_)
      refine xseq_k fun KS17 ks17 => ?_
      refine wp_cond_t (by kernel_rfl) ?_
      refine xskip ?_
      refine then_n (ks17 _ _ ?_)
      obtain ⟨tv18, hj, hk_18⟩ := of_bind h
      refine xseq_k fun KS18 ks18 => wp_exj (N := fun a w => tv18 = .inl () ∧ St w0 [] [.ownL (CA .i32 2 (by decide)) s6_A s6_n s6_c ([(wr (wr (zeroA 2) 0 2) 1 2), (wr (wr (zeroA 2) 0 4095) 1 4096), (wr (wr (zeroA 2) 0 (-1)) 1 1023), (wr (wr (zeroA 2) 0 (isub .i32 r2_4 1)) 1 r2_4)] : List (Arr 2)) 63, .blk b3 ([.int .i64 r2_0, .int .i64 r2_1, .int .i32 r2_2, .int .i64 r2_3, .int .i32 r2_4, .int .i32 r2_5, .int .i64 r2_6, .int .i64 r2_7]) 23, .blk b1 (enc .i32 a1) 40] [.rowL (CI .u8) a2_A a2_n a2_c a2, .rowL (CA .i32 256 (by decide)) a3_A a3_n a3_c a3] w ∧ ∃ g : Nat → Value, a = ⟨#[.int .u8 a0, .agg (enc .i32 a1).toArray, .slice a2_A a2_n a2_c, .slice a3_A a3_n a3_c, undef, .pointer (some ⟨b1, 0, none⟩), undef, undef, (g 8), .pointer (some ⟨b3, 0, none⟩), undef, (g 11), (g 12), (g 13), (g 14), (g 15), (g 16), undef, undef, undef, undef, undef, undef, undef, undef, undef, .int .u8 a0, .int .u8 (irem .u8 a0 3), .agg #[.int .i64 0, .int .i64 0, .int .i32 0, .int .i64 0, .int .i32 0, .int .i32 0, .int .i64 0, .int .i64 0], .agg #[.int .i64 r2_0, .int .i64 r2_1, .int .i32 r2_2, .int .i64 r2_3, .int .i32 r2_4, .int .i32 r2_5, .int .i64 r2_6, .int .i64 r2_7], .slice a2_A a2_n a2_c, .int .i64 (a2.length : Int), .bool false, .bool false, .slice a3_A a3_n a3_c, .int .i64 (a3.length : Int), .bool false, .bool false, undef, .agg (enc .i32 (wr (wr (zeroA 2) 0 2) 1 2)).toArray, .agg (enc .i32 (wr (wr (zeroA 2) 0 4095) 1 4096)).toArray, .agg (enc .i32 (wr (wr (zeroA 2) 0 (-1)) 1 1023)).toArray, .pointer (some ⟨b3, 4, none⟩), .int .i32 r2_4, .int .i32 (isub .i32 r2_4 1), .pointer (some ⟨b3, 4, none⟩), .int .i32 r2_4, .agg (enc .i32 (wr (wr (zeroA 2) 0 (isub .i32 r2_4 1)) 1 r2_4)).toArray, .slice s6_A s6_n s6_c, .int .i64 (([(wr (wr (zeroA 2) 0 2) 1 2), (wr (wr (zeroA 2) 0 4095) 1 4096), (wr (wr (zeroA 2) 0 (-1)) 1 1023), (wr (wr (zeroA 2) 0 (isub .i32 r2_4 1)) 1 r2_4)] : List (Arr 2)).length : Int), .int .i64 z7, .bool true, (g 52), (g 53), (g 54), (g 55), (g 56), (g 57), (g 58), (g 59), (g 60), (g 61), (g 62), (g 63), (g 64), (g 65), (g 66), (g 67), (g 68), (g 69), (g 70), (g 71), (g 72), (g 73), (g 74), (g 75), (g 76), (g 77), (g 78), (g 79), (g 80), (g 81), (g 82), (g 83), (g 84), (g 85), (g 86), (g 87), (g 88), (g 89), (g 90), (g 91), (g 92), (g 93), (g 94), (g 95), (g 96), (g 97), (g 98), (g 99), (g 100), undef, undef, undef, undef, undef, undef, undef, undef, undef, undef, undef, undef, undef, undef, undef, undef, undef, undef, undef, undef, undef, undef, undef, undef, undef, undef, undef, undef, undef, undef, undef, undef, undef, undef, undef, undef, undef, undef, undef, undef, undef, undef, undef, undef, undef, undef, undef, undef, undef, undef, undef, undef, undef, undef, undef, undef, undef, undef, undef, undef, undef, undef, undef, undef, undef, undef, undef, undef, undef, undef, undef, undef], []⟩) (fun N nj => ?_) ?_
      ·clear h
       have h := hj
       refine xblock ?_
       refine xseq_k fun KS19 ks19 => ?_
       refine wp_regS (l := [0, 1, 2, 3]) (by kernel_rfl) (by kernel_rfl) fun KR20 kr20 => ?_
       obtain ⟨h0, h⟩ := of_chk h
       obtain ⟨h1, h⟩ := of_chk h
       have i0_21 := h0
       have i1_21 := h1
       refine wpS.take 0 false (some 52) (.pointer (adr s6_A ((z7 : Int).toNat * Cod.size (CA .i32 2 (by decide))))) (by kernel_rfl) (yld_idxL (C := (CA .i32 2 (by decide))) (t := 64) (e := 63) (k := .i64) (x := z7) (hs.rowL 0 rfl) (by kernel_rfl) (by kernel_rfl) (by kernel_rfl) h0 h1) ?_
       refine wpS.take 1 true (some 53) (.agg (enc .i32 (rdL (CA .i32 2 (by decide)) ([(wr (wr (zeroA 2) 0 2) 1 2), (wr (wr (zeroA 2) 0 4095) 1 4096), (wr (wr (zeroA 2) 0 (-1)) 1 1023), (wr (wr (zeroA 2) 0 (isub .i32 r2_4 1)) 1 r2_4)] : List (Arr 2)) z7)).toArray) (by kernel_rfl) (yld_loadLA (C := (CA .i32 2 (by decide))) (e := 63) (x := z7) (hs.rowL 0 rfl) (by kernel_rfl) rfl (by kernel_rfl) (by kernel_rfl) i0_21 i1_21) ?_
       refine wpS.only 2 (op_alloc (t := 63) (d := (some 11)) (by kernel_rfl) hs (enc .i32 (zeroA 2)) (.agg (enc .i32 (zeroA 2)).toArray) (by kernel_rfl) (by kernel_rfl) (by kernel_rfl) ?_)
       intro b8 w gw hs
       refine ⟨fun _ => trivial, ?_⟩
       refine wpS.only 3 (op_storeW (t := 63) (v := .agg (enc .i32 (rdL (CA .i32 2 (by decide)) ([(wr (wr (zeroA 2) 0 2) 1 2), (wr (wr (zeroA 2) 0 4095) 1 4096), (wr (wr (zeroA 2) 0 (-1)) 1 1023), (wr (wr (zeroA 2) 0 (isub .i32 r2_4 1)) 1 r2_4)] : List (Arr 2)) z7)).toArray) (d := none) (by kernel_rfl) hs 0 rfl (vs := enc .i32 (rdL (CA .i32 2 (by decide)) ([(wr (wr (zeroA 2) 0 2) 1 2), (wr (wr (zeroA 2) 0 4095) 1 4096), (wr (wr (zeroA 2) 0 (-1)) 1 1023), (wr (wr (zeroA 2) 0 (isub .i32 r2_4 1)) 1 r2_4)] : List (Arr 2)) z7)) (n := 2) (by kernel_rfl) (by kernel_rfl) (by kernel_rfl) (by simp [enc_len]) (by simp [enc_len]) (by intro u hu; exact enc_one _ _ u hu) ?_)
       intro w kp hs
       refine ⟨fun _ => trivial, ?_⟩
       refine wpS.fin rfl (kr20 _ _ ?_)
       refine then_n (ks19 _ _ ?_)
       obtain ⟨tv22, hj, hk_22⟩ := of_bind h
       refine xseq_k fun KS22 ks22 => wp_exj (N := fun a w => tv22 = .inl () ∧ St w0 [] [.blk b8 (enc .i32 (rdL (CA .i32 2 (by decide)) ([(wr (wr (zeroA 2) 0 2) 1 2), (wr (wr (zeroA 2) 0 4095) 1 4096), (wr (wr (zeroA 2) 0 (-1)) 1 1023), (wr (wr (zeroA 2) 0 (isub .i32 r2_4 1)) 1 r2_4)] : List (Arr 2)) z7)) 63, .ownL (CA .i32 2 (by decide)) s6_A s6_n s6_c ([(wr (wr (zeroA 2) 0 2) 1 2), (wr (wr (zeroA 2) 0 4095) 1 4096), (wr (wr (zeroA 2) 0 (-1)) 1 1023), (wr (wr (zeroA 2) 0 (isub .i32 r2_4 1)) 1 r2_4)] : List (Arr 2)) 63, .blk b3 ([.int .i64 r2_0, .int .i64 r2_1, .int .i32 r2_2, .int .i64 r2_3, .int .i32 r2_4, .int .i32 r2_5, .int .i64 r2_6, .int .i64 r2_7]) 23, .blk b1 (enc .i32 a1) 40] [.rowL (CI .u8) a2_A a2_n a2_c a2, .rowL (CA .i32 256 (by decide)) a3_A a3_n a3_c a3] w ∧ ∃ g : Nat → Value, a = ⟨#[.int .u8 a0, .agg (enc .i32 a1).toArray, .slice a2_A a2_n a2_c, .slice a3_A a3_n a3_c, undef, .pointer (some ⟨b1, 0, none⟩), undef, undef, (g 8), .pointer (some ⟨b3, 0, none⟩), undef, .pointer (some ⟨b8, 0, none⟩), (g 12), (g 13), (g 14), (g 15), (g 16), undef, undef, undef, undef, undef, undef, undef, undef, undef, .int .u8 a0, .int .u8 (irem .u8 a0 3), .agg #[.int .i64 0, .int .i64 0, .int .i32 0, .int .i64 0, .int .i32 0, .int .i32 0, .int .i64 0, .int .i64 0], .agg #[.int .i64 r2_0, .int .i64 r2_1, .int .i32 r2_2, .int .i64 r2_3, .int .i32 r2_4, .int .i32 r2_5, .int .i64 r2_6, .int .i64 r2_7], .slice a2_A a2_n a2_c, .int .i64 (a2.length : Int), .bool false, .bool false, .slice a3_A a3_n a3_c, .int .i64 (a3.length : Int), .bool false, .bool false, undef, .agg (enc .i32 (wr (wr (zeroA 2) 0 2) 1 2)).toArray, .agg (enc .i32 (wr (wr (zeroA 2) 0 4095) 1 4096)).toArray, .agg (enc .i32 (wr (wr (zeroA 2) 0 (-1)) 1 1023)).toArray, .pointer (some ⟨b3, 4, none⟩), .int .i32 r2_4, .int .i32 (isub .i32 r2_4 1), .pointer (some ⟨b3, 4, none⟩), .int .i32 r2_4, .agg (enc .i32 (wr (wr (zeroA 2) 0 (isub .i32 r2_4 1)) 1 r2_4)).toArray, .slice s6_A s6_n s6_c, .int .i64 (([(wr (wr (zeroA 2) 0 2) 1 2), (wr (wr (zeroA 2) 0 4095) 1 4096), (wr (wr (zeroA 2) 0 (-1)) 1 1023), (wr (wr (zeroA 2) 0 (isub .i32 r2_4 1)) 1 r2_4)] : List (Arr 2)).length : Int), .int .i64 z7, .bool true, .pointer (adr s6_A ((z7 : Int).toNat * Cod.size (CA .i32 2 (by decide)))), .agg (enc .i32 (rdL (CA .i32 2 (by decide)) ([(wr (wr (zeroA 2) 0 2) 1 2), (wr (wr (zeroA 2) 0 4095) 1 4096), (wr (wr (zeroA 2) 0 (-1)) 1 1023), (wr (wr (zeroA 2) 0 (isub .i32 r2_4 1)) 1 r2_4)] : List (Arr 2)) z7)).toArray, (g 54), (g 55), (g 56), (g 57), (g 58), (g 59), (g 60), (g 61), (g 62), (g 63), (g 64), (g 65), (g 66), (g 67), (g 68), (g 69), (g 70), (g 71), (g 72), (g 73), (g 74), (g 75), (g 76), (g 77), (g 78), (g 79), (g 80), (g 81), (g 82), (g 83), (g 84), (g 85), (g 86), (g 87), (g 88), (g 89), (g 90), (g 91), (g 92), (g 93), (g 94), (g 95), (g 96), (g 97), (g 98), (g 99), (g 100), undef, undef, undef, undef, undef, undef, undef, undef, undef, undef, undef, undef, undef, undef, undef, undef, undef, undef, undef, undef, undef, undef, undef, undef, undef, undef, undef, undef, undef, undef, undef, undef, undef, undef, undef, undef, undef, undef, undef, undef, undef, undef, undef, undef, undef, undef, undef, undef, undef, undef, undef, undef, undef, undef, undef, undef, undef, undef, undef, undef, undef, undef, undef, undef, undef, undef, undef, undef, undef, undef, undef, undef], []⟩) (fun N nj => ?_) ?_
       ·clear h
        have h := hj
        refine xseq_k fun KS23 ks23 => ?_
        refine wp_regS (l := [0, 1, 2, 3, 4, 5, 6]) (by kernel_rfl) (by kernel_rfl) fun KR24 kr24 => ?_
        refine wpS.take 0 true (some 54) (.agg (enc .i32 a1).toArray) (by kernel_rfl) (yld_loadW (e := 40) (n := 256) hs 3 rfl (by kernel_rfl) (by kernel_rfl) (by kernel_rfl) (by exact enc_len _ _) .grow) ?_
        refine wpS.take 1 false (some 55) (.pointer (some ⟨b8, 0 + (0 : Int).toNat * 1, none⟩)) (by kernel_rfl) (yld_idx (t := 63) (e := 21) (n := 2) (sz := 1) (k := .i64) (x := 0) (by kernel_rfl) (by kernel_rfl) (by kernel_rfl) (by decide) (by decide)) ?_
        refine wpS.take 2 true (some 56) (.int .i32 (rd (rdL (CA .i32 2 (by decide)) ([(wr (wr (zeroA 2) 0 2) 1 2), (wr (wr (zeroA 2) 0 4095) 1 4096), (wr (wr (zeroA 2) 0 (-1)) 1 1023), (wr (wr (zeroA 2) 0 (isub .i32 r2_4 1)) 1 r2_4)] : List (Arr 2)) z7) 0)) (by kernel_rfl) (yld_loadA (e := 21) (x := 0) hs 0 rfl (by kernel_rfl) (by kernel_rfl) (by decide) (by decide) .grow) ?_
        refine wpS.take 3 false (some 57) (.pointer (some ⟨b8, 0 + (1 : Int).toNat * 1, none⟩)) (by kernel_rfl) (yld_idx (t := 63) (e := 21) (n := 2) (sz := 1) (k := .i64) (x := 1) (by kernel_rfl) (by kernel_rfl) (by kernel_rfl) (by decide) (by decide)) ?_
        refine wpS.take 4 true (some 58) (.int .i32 (rd (rdL (CA .i32 2 (by decide)) ([(wr (wr (zeroA 2) 0 2) 1 2), (wr (wr (zeroA 2) 0 4095) 1 4096), (wr (wr (zeroA 2) 0 (-1)) 1 1023), (wr (wr (zeroA 2) 0 (isub .i32 r2_4 1)) 1 r2_4)] : List (Arr 2)) z7) 1)) (by kernel_rfl) (yld_loadA (e := 21) (x := 1) hs 0 rfl (by kernel_rfl) (by kernel_rfl) (by decide) (by decide) .grow) ?_
        obtain ⟨r9, hg, h⟩ := of_bind h
        refine wpS.only 5 (op_callHF (d := (some 59)) (by kernel_rfl) hs (fun _ => by kernel_rfl) (dpack_Pack.ok hg _) ?_)
        rintro ⟨r9_A, r9_n, r9_c⟩ w hne27 gw hs
        have hs := hs.conv (L' := [.ownL (CI .u8) r9_A r9_n r9_c r9 5, .blk b8 (enc .i32 (rdL (CA .i32 2 (by decide)) ([(wr (wr (zeroA 2) 0 2) 1 2), (wr (wr (zeroA 2) 0 4095) 1 4096), (wr (wr (zeroA 2) 0 (-1)) 1 1023), (wr (wr (zeroA 2) 0 (isub .i32 r2_4 1)) 1 r2_4)] : List (Arr 2)) z7)) 63, .ownL (CA .i32 2 (by decide)) s6_A s6_n s6_c ([(wr (wr (zeroA 2) 0 2) 1 2), (wr (wr (zeroA 2) 0 4095) 1 4096), (wr (wr (zeroA 2) 0 (-1)) 1 1023), (wr (wr (zeroA 2) 0 (isub .i32 r2_4 1)) 1 r2_4)] : List (Arr 2)) 63, .blk b3 ([.int .i64 r2_0, .int .i64 r2_1, .int .i32 r2_2, .int .i64 r2_3, .int .i32 r2_4, .int .i32 r2_5, .int .i64 r2_6, .int .i64 r2_7]) 23, .blk b1 (enc .i32 a1) 40]) rfl
        refine ⟨fun _ => trivial, ?_⟩
        refine wpS.p 6 12 (.slice r9_A r9_n r9_c) (by kernel_rfl) ?_
        refine wpS.fin rfl (kr24 _ _ ?_)
        refine then_n (ks23 _ _ ?_)
        refine xseq_k fun KS28 ks28 => ?_
        refine wp_regS (l := [0, 1, 2]) (by kernel_rfl) (by kernel_rfl) fun KR29 kr29 => ?_
        refine wpS.p 0 60 (.slice r9_A r9_n r9_c) (by kernel_rfl) ?_
        refine wpS.take 1 false (some 61) (.int .i64 (r9.length : Int)) (by kernel_rfl) (yld_lenL (hs.rowL 0 rfl) (fun _ => by kernel_rfl)) ?_
        rcases of_if h with ⟨hc, h⟩ | ⟨hc, h⟩
        ·refine wpS.take 2 false (some 62) (.bool true) (by kernel_rfl) (yld_b (dt hc) (fun _ => by kernel_rfl)) ?_
         refine wpS.fin rfl (kr29 _ _ ?_)
         refine then_n (ks28 _ _ ?_)
         refine wp_cond_t (by kernel_rfl) ?_
         refine xseq_k fun KS30 ks30 => ?_
         refine wp_regS (l := [0, 1, 2, 3, 4, 5, 6, 7, 8, 9, 10, 11]) (by kernel_rfl) (by kernel_rfl) fun KR31 kr31 => ?_
         refine wpS.p 0 64 (.slice r9_A r9_n r9_c) (by kernel_rfl) ?_
         refine wpS.take 1 false (some 65) (.pointer (some ⟨b8, 0 + (0 : Int).toNat * 1, none⟩)) (by kernel_rfl) (yld_idx (t := 63) (e := 21) (n := 2) (sz := 1) (k := .i64) (x := 0) (by kernel_rfl) (by kernel_rfl) (by kernel_rfl) (by decide) (by decide)) ?_
         refine wpS.take 2 true (some 66) (.int .i32 (rd (rdL (CA .i32 2 (by decide)) ([(wr (wr (zeroA 2) 0 2) 1 2), (wr (wr (zeroA 2) 0 4095) 1 4096), (wr (wr (zeroA 2) 0 (-1)) 1 1023), (wr (wr (zeroA 2) 0 (isub .i32 r2_4 1)) 1 r2_4)] : List (Arr 2)) z7) 0)) (by kernel_rfl) (yld_loadA (e := 21) (x := 0) hs 1 rfl (by kernel_rfl) (by kernel_rfl) (by decide) (by decide) .grow) ?_
         refine wpS.take 3 false (some 67) (.pointer (some ⟨b8, 0 + (1 : Int).toNat * 1, none⟩)) (by kernel_rfl) (yld_idx (t := 63) (e := 21) (n := 2) (sz := 1) (k := .i64) (x := 1) (by kernel_rfl) (by kernel_rfl) (by kernel_rfl) (by decide) (by decide)) ?_
         refine wpS.take 4 true (some 68) (.int .i32 (rd (rdL (CA .i32 2 (by decide)) ([(wr (wr (zeroA 2) 0 2) 1 2), (wr (wr (zeroA 2) 0 4095) 1 4096), (wr (wr (zeroA 2) 0 (-1)) 1 1023), (wr (wr (zeroA 2) 0 (isub .i32 r2_4 1)) 1 r2_4)] : List (Arr 2)) z7) 1)) (by kernel_rfl) (yld_loadA (e := 21) (x := 1) hs 1 rfl (by kernel_rfl) (by kernel_rfl) (by decide) (by decide) .grow) ?_
         obtain ⟨⟨r10, r11⟩, hg, h⟩ := of_bind h
         refine wpS.only 5 (op_call (d := (some 69)) (by kernel_rfl) hs (fun _ => by kernel_rfl) (dpack_Unpack.ok hg _ (hs.rowL 0 rfl)) ?_)
         intro w gw hs
         refine ⟨fun _ => trivial, ?_⟩
         refine wpS.ps [(6, 63, .tuple #[.agg (enc .i32 r10).toArray, .bool r11]), (7, 70, .agg (enc .i32 r10).toArray)] (by kernel_rfl) ?_
         cases r11 with
         | true =>
          have h := of_if_t h
          refine wpS.p 8 71 (.bool true) (by kernel_rfl) ?_
          refine wpS.only 9 (op_alloc (t := 40) (d := (some 13)) (by kernel_rfl) hs (enc .i32 (zeroA 256)) (.agg (enc .i32 (zeroA 256)).toArray) (by kernel_rfl) (by kernel_rfl) (by kernel_rfl) ?_)
          intro b12 w gw hs
          refine ⟨fun _ => trivial, ?_⟩
          refine wpS.only 10 (op_storeW (t := 40) (v := .agg (enc .i32 r10).toArray) (d := none) (by kernel_rfl) hs 0 rfl (vs := enc .i32 r10) (n := 256) (by kernel_rfl) (by kernel_rfl) (by kernel_rfl) (by simp [enc_len]) (by simp [enc_len]) (by intro u hu; exact enc_one _ _ u hu) ?_)
          intro w kp hs
          refine ⟨fun _ => trivial, ?_⟩
          refine wpS.p 11 14 (.bool true) (by kernel_rfl) ?_
          refine wpS.fin rfl (kr31 _ _ ?_)
          refine then_n (ks30 _ _ ?_)
          refine xseq_k fun KS34 ks34 => ?_
          refine wp_regS (l := [0, 1, 2, 3, 4, 5, 6]) (by kernel_rfl) (by kernel_rfl) fun KR35 kr35 => ?_
          refine wpS.ps [(0, 72, .bool true), (1, 73, .bool false), (2, 74, .bool false)] (by kernel_rfl) ?_
          refine wpS.take 3 true (some 75) (.agg (enc .i32 r10).toArray) (by kernel_rfl) (yld_loadW (e := 40) (n := 256) hs 0 rfl (by kernel_rfl) (by kernel_rfl) (by kernel_rfl) (by exact enc_len _ _) .grow) ?_
          refine wpS.take 4 true (some 76) (.agg (enc .i32 a1).toArray) (by kernel_rfl) (yld_loadW (e := 40) (n := 256) hs 5 rfl (by kernel_rfl) (by kernel_rfl) (by kernel_rfl) (by exact enc_len _ _) .grow) ?_
          rcases of_ifb h with ⟨hc, h⟩ | ⟨hc, h⟩
          ·refine wpS.take 5 false (some 77) (.bool true) (by kernel_rfl) (yld_bb hc (yld_eqAn (t := 40) (e := 21) (k := .i32) (.tmp 75) (.tmp 76) (by kernel_rfl) (by kernel_rfl) (by kernel_rfl) (by kernel_rfl) (by kernel_rfl) (by kernel_rfl))) ?_
           refine wpS.p 6 78 (.bool true) (by kernel_rfl) ?_
           refine wpS.fin rfl (kr35 _ _ ?_)
           refine then_n (ks34 _ _ ?_)
           refine wp_cond_t (by kernel_rfl) ?_
           refine xseq_k fun KS36 ks36 => ?_
           refine wp_regS (l := [0]) (by kernel_rfl) (by kernel_rfl) fun KR37 kr37 => ?_
           refine wpS.p 0 8 (.bool false) (by kernel_rfl) ?_
           refine wpS.fin rfl (kr37 _ _ ?_)
           refine then_n (ks36 _ _ ?_)
           refine xret ?_
           have q0 := of_some h
           subst q0
           have h := hk_22
           refine exj_r ?_
           refine then_r ?_
           refine inBlock_r ?_
           have q0 := of_some h
           subst q0
           have h := hk_18
           refine exj_r ?_
           refine then_r ?_
           refine then_r ?_
           refine inBlock_r ?_
           refine exq_r ?_
           refine then_r ?_
           have q0 := of_some h
           subst q0
           have q0 := of_some hk0
           subst q0
           exact qq _ _ (post_ret (by kernel_rfl) (run_results [.tmp 8] [.bool false] (by kernel_rfl) (.cons (res_tmp (by kernel_rfl)) .nil)) ⟨congrArg Ending.returned (by kernel_rfl), hs.none⟩)
          ·refine wpS.take 5 false (some 77) (.bool false) (by kernel_rfl) (yld_bb hc (yld_eqAn (t := 40) (e := 21) (k := .i32) (.tmp 75) (.tmp 76) (by kernel_rfl) (by kernel_rfl) (by kernel_rfl) (by kernel_rfl) (by kernel_rfl) (by kernel_rfl))) ?_
           refine wpS.p 6 78 (.bool false) (by kernel_rfl) ?_
           refine wpS.fin rfl (kr35 _ _ ?_)
           refine then_n (ks34 _ _ ?_)
           refine wp_cond_f (by kernel_rfl) ?_
           refine xskip ?_
           have q0 := of_some h
           subst q0
           exact exj_n (nj _ _ ⟨rfl, (hs.drop (.cons _ (.cons _ (.cons_cons _ (.cons_cons _ (.cons_cons _ (.cons_cons _ .slnil))))))), exg (by kernel_rfl)⟩)
         | false =>
          have h := of_if_f h
          refine wpS.p 8 71 (.bool false) (by kernel_rfl) ?_
          refine wpS.only 9 (op_alloc (t := 40) (d := (some 13)) (by kernel_rfl) hs (enc .i32 (zeroA 256)) (.agg (enc .i32 (zeroA 256)).toArray) (by kernel_rfl) (by kernel_rfl) (by kernel_rfl) ?_)
          intro b13 w gw hs
          refine ⟨fun _ => trivial, ?_⟩
          refine wpS.only 10 (op_storeW (t := 40) (v := .agg (enc .i32 r10).toArray) (d := none) (by kernel_rfl) hs 0 rfl (vs := enc .i32 r10) (n := 256) (by kernel_rfl) (by kernel_rfl) (by kernel_rfl) (by simp [enc_len]) (by simp [enc_len]) (by intro u hu; exact enc_one _ _ u hu) ?_)
          intro w kp hs
          refine ⟨fun _ => trivial, ?_⟩
          refine wpS.p 11 14 (.bool false) (by kernel_rfl) ?_
          refine wpS.fin rfl (kr31 _ _ ?_)
          refine then_n (ks30 _ _ ?_)
          refine xseq_k fun KS38 ks38 => ?_
          refine wp_regS (l := [0, 1, 2, 3, 4, 5, 6]) (by kernel_rfl) (by kernel_rfl) fun KR39 kr39 => ?_
          refine wpS.ps [(0, 72, .bool false), (1, 73, .bool true), (2, 74, .bool true), (3, 75, undef), (4, 76, undef), (5, 77, undef), (6, 78, .bool true)] (by kernel_rfl) ?_
          refine wpS.fin rfl (kr39 _ _ ?_)
          refine then_n (ks38 _ _ ?_)
          refine wp_cond_t (by kernel_rfl) ?_
          refine xseq_k fun KS40 ks40 => ?_
          refine wp_regS (l := [0]) (by kernel_rfl) (by kernel_rfl) fun KR41 kr41 => ?_
          refine wpS.p 0 8 (.bool false) (by kernel_rfl) ?_
          refine wpS.fin rfl (kr41 _ _ ?_)
          refine then_n (ks40 _ _ ?_)
          refine xret ?_
          have q0 := of_some h
          subst q0
          have h := hk_22
          refine exj_r ?_
          refine then_r ?_
          refine inBlock_r ?_
          have q0 := of_some h
          subst q0
          have h := hk_18
          refine exj_r ?_
          refine then_r ?_
          refine then_r ?_
          refine inBlock_r ?_
          refine exq_r ?_
          refine then_r ?_
          have q0 := of_some h
          subst q0
          have q0 := of_some hk0
          subst q0
          exact qq _ _ (post_ret (by kernel_rfl) (run_results [.tmp 8] [.bool false] (by kernel_rfl) (.cons (res_tmp (by kernel_rfl)) .nil)) ⟨congrArg Ending.returned (by kernel_rfl), hs.none⟩)
        ·refine wpS.take 2 false (some 62) (.bool false) (by kernel_rfl) (yld_b (df hc) (fun _ => by kernel_rfl)) ?_
         refine wpS.fin rfl (kr29 _ _ ?_)
         refine then_n (ks28 _ _ ?_)
         refine wp_cond_f (by kernel_rfl) ?_
         refine xskip ?_
         have q0 := of_some h
         subst q0
         exact exj_n (nj _ _ ⟨rfl, (hs.drop (.cons _ (.cons_cons _ (.cons_cons _ (.cons_cons _ (.cons_cons _ .slnil)))))), exg (by kernel_rfl)⟩)
       ·clear hj hs
        rintro a w ⟨rfl, hs, g, rfl⟩
        have h := hk_22
        refine then_n (ks22 _ _ ?_)
        refine xseq_k fun KS42 ks42 => ?_
        refine wp_regS (l := [0, 1, 2, 3, 4, 5, 6, 7, 8, 9, 10, 11]) (by kernel_rfl) (by kernel_rfl) fun KR43 kr43 => ?_
        refine wpS.p 0 80 (.slice a2_A a2_n a2_c) (by kernel_rfl) ?_
        refine wpS.take 1 false (some 81) (.pointer (some ⟨b8, 0 + (0 : Int).toNat * 1, none⟩)) (by kernel_rfl) (yld_idx (t := 63) (e := 21) (n := 2) (sz := 1) (k := .i64) (x := 0) (by kernel_rfl) (by kernel_rfl) (by kernel_rfl) (by decide) (by decide)) ?_
        refine wpS.take 2 true (some 82) (.int .i32 (rd (rdL (CA .i32 2 (by decide)) ([(wr (wr (zeroA 2) 0 2) 1 2), (wr (wr (zeroA 2) 0 4095) 1 4096), (wr (wr (zeroA 2) 0 (-1)) 1 1023), (wr (wr (zeroA 2) 0 (isub .i32 r2_4 1)) 1 r2_4)] : List (Arr 2)) z7) 0)) (by kernel_rfl) (yld_loadA (e := 21) (x := 0) hs 0 rfl (by kernel_rfl) (by kernel_rfl) (by decide) (by decide) .grow) ?_
        refine wpS.take 3 false (some 83) (.pointer (some ⟨b8, 0 + (1 : Int).toNat * 1, none⟩)) (by kernel_rfl) (yld_idx (t := 63) (e := 21) (n := 2) (sz := 1) (k := .i64) (x := 1) (by kernel_rfl) (by kernel_rfl) (by kernel_rfl) (by decide) (by decide)) ?_
        refine wpS.take 4 true (some 84) (.int .i32 (rd (rdL (CA .i32 2 (by decide)) ([(wr (wr (zeroA 2) 0 2) 1 2), (wr (wr (zeroA 2) 0 4095) 1 4096), (wr (wr (zeroA 2) 0 (-1)) 1 1023), (wr (wr (zeroA 2) 0 (isub .i32 r2_4 1)) 1 r2_4)] : List (Arr 2)) z7) 1)) (by kernel_rfl) (yld_loadA (e := 21) (x := 1) hs 0 rfl (by kernel_rfl) (by kernel_rfl) (by decide) (by decide) .grow) ?_
        obtain ⟨⟨r14, r15⟩, hg, h⟩ := of_bind h
        refine wpS.only 5 (op_call (d := (some 85)) (by kernel_rfl) hs (fun _ => by kernel_rfl) (dpack_Unpack.ok hg _ (hs.rowR 0 rfl)) ?_)
        intro w gw hs
        refine ⟨fun _ => trivial, ?_⟩
        refine wpS.ps [(6, 79, .tuple #[.agg (enc .i32 r14).toArray, .bool r15]), (7, 86, .agg (enc .i32 r14).toArray)] (by kernel_rfl) ?_
        cases r15 with
        | true =>
         have h := of_if_t h
         refine wpS.p 8 87 (.bool true) (by kernel_rfl) ?_
         refine wpS.only 9 (op_alloc (t := 40) (d := (some 15)) (by kernel_rfl) hs (enc .i32 (zeroA 256)) (.agg (enc .i32 (zeroA 256)).toArray) (by kernel_rfl) (by kernel_rfl) (by kernel_rfl) ?_)
         intro b16 w gw hs
         refine ⟨fun _ => trivial, ?_⟩
         refine wpS.only 10 (op_storeW (t := 40) (v := .agg (enc .i32 r14).toArray) (d := none) (by kernel_rfl) hs 0 rfl (vs := enc .i32 r14) (n := 256) (by kernel_rfl) (by kernel_rfl) (by kernel_rfl) (by simp [enc_len]) (by simp [enc_len]) (by intro u hu; exact enc_one _ _ u hu) ?_)
         intro w kp hs
         refine ⟨fun _ => trivial, ?_⟩
         refine wpS.p 11 16 (.bool true) (by kernel_rfl) ?_
         refine wpS.fin rfl (kr43 _ _ ?_)
         refine then_n (ks42 _ _ ?_)
         refine xseq_k fun KS46 ks46 => ?_
         refine wp_regS (l := [0, 1, 2, 3, 4, 5, 6, 7, 8, 9, 10, 11]) (by kernel_rfl) (by kernel_rfl) fun KR47 kr47 => ?_
         refine wpS.ps [(0, 88, .bool true), (1, 89, .bool true)] (by kernel_rfl) ?_
         refine wpS.take 2 true (some 90) (.agg (enc .i32 r14).toArray) (by kernel_rfl) (yld_loadW (e := 40) (n := 256) hs 0 rfl (by kernel_rfl) (by kernel_rfl) (by kernel_rfl) (by exact enc_len _ _) .grow) ?_
         refine wpS.take 3 false (some 91) (.pointer (some ⟨b8, 0 + (0 : Int).toNat * 1, none⟩)) (by kernel_rfl) (yld_idx (t := 63) (e := 21) (n := 2) (sz := 1) (k := .i64) (x := 0) (by kernel_rfl) (by kernel_rfl) (by kernel_rfl) (by decide) (by decide)) ?_
         refine wpS.take 4 true (some 92) (.int .i32 (rd (rdL (CA .i32 2 (by decide)) ([(wr (wr (zeroA 2) 0 2) 1 2), (wr (wr (zeroA 2) 0 4095) 1 4096), (wr (wr (zeroA 2) 0 (-1)) 1 1023), (wr (wr (zeroA 2) 0 (isub .i32 r2_4 1)) 1 r2_4)] : List (Arr 2)) z7) 0)) (by kernel_rfl) (yld_loadA (e := 21) (x := 0) hs 1 rfl (by kernel_rfl) (by kernel_rfl) (by decide) (by decide) .grow) ?_
         refine wpS.take 5 false (some 93) (.pointer (some ⟨b8, 0 + (1 : Int).toNat * 1, none⟩)) (by kernel_rfl) (yld_idx (t := 63) (e := 21) (n := 2) (sz := 1) (k := .i64) (x := 1) (by kernel_rfl) (by kernel_rfl) (by kernel_rfl) (by decide) (by decide)) ?_
         refine wpS.take 6 true (some 94) (.int .i32 (rd (rdL (CA .i32 2 (by decide)) ([(wr (wr (zeroA 2) 0 2) 1 2), (wr (wr (zeroA 2) 0 4095) 1 4096), (wr (wr (zeroA 2) 0 (-1)) 1 1023), (wr (wr (zeroA 2) 0 (isub .i32 r2_4 1)) 1 r2_4)] : List (Arr 2)) z7) 1)) (by kernel_rfl) (yld_loadA (e := 21) (x := 1) hs 1 rfl (by kernel_rfl) (by kernel_rfl) (by decide) (by decide) .grow) ?_
         obtain ⟨r17, hg, h⟩ := of_bind h
         refine wpS.only 7 (op_callHF (d := (some 95)) (by kernel_rfl) hs (fun _ => by kernel_rfl) (dpack_Pack.ok hg _) ?_)
         rintro ⟨r17_A, r17_n, r17_c⟩ w hne50 gw hs
         have hs := hs.conv (L' := [.ownL (CI .u8) r17_A r17_n r17_c r17 5, .blk b16 (enc .i32 r14) 40, .blk b8 (enc .i32 (rdL (CA .i32 2 (by decide)) ([(wr (wr (zeroA 2) 0 2) 1 2), (wr (wr (zeroA 2) 0 4095) 1 4096), (wr (wr (zeroA 2) 0 (-1)) 1 1023), (wr (wr (zeroA 2) 0 (isub .i32 r2_4 1)) 1 r2_4)] : List (Arr 2)) z7)) 63, .ownL (CA .i32 2 (by decide)) s6_A s6_n s6_c ([(wr (wr (zeroA 2) 0 2) 1 2), (wr (wr (zeroA 2) 0 4095) 1 4096), (wr (wr (zeroA 2) 0 (-1)) 1 1023), (wr (wr (zeroA 2) 0 (isub .i32 r2_4 1)) 1 r2_4)] : List (Arr 2)) 63, .blk b3 ([.int .i64 r2_0, .int .i64 r2_1, .int .i32 r2_2, .int .i64 r2_3, .int .i32 r2_4, .int .i32 r2_5, .int .i64 r2_6, .int .i64 r2_7]) 23, .blk b1 (enc .i32 a1) 40]) rfl
         refine ⟨fun _ => trivial, ?_⟩
         refine wpS.p 8 96 (.slice a2_A a2_n a2_c) (by kernel_rfl) ?_
         obtain ⟨r18, hg, h⟩ := of_bind h
         cases r18 with
         | true =>
          have h := of_if_t h
          refine wpS.only 9 (op_call (d := (some 97)) (by kernel_rfl) hs (fun _ => by kernel_rfl) (ref01_Same.ok hg _ (hs.rowL 0 rfl) (hs.rowR 0 rfl)) ?_)
          intro w gw hs
          refine ⟨fun _ => trivial, ?_⟩
          refine wpS.ps [(10, 98, .bool false), (11, 99, .bool false)] (by kernel_rfl) ?_
          refine wpS.fin rfl (kr47 _ _ ?_)
          refine then_n (ks46 _ _ ?_)
          refine wp_cond_f (by kernel_rfl) ?_
          refine xskip ?_
          refine inBlock_n ?_
          have q0 := of_some h
          subst q0
          exact exj_n (nj _ _ ⟨rfl, (hs.drop (.cons _ (.cons _ (.cons _ (.cons_cons _ (.cons_cons _ (.cons_cons _ .slnil))))))), exg (by kernel_rfl)⟩)
         | false =>
          have h := of_if_f h
          refine wpS.only 9 (op_call (d := (some 97)) (by kernel_rfl) hs (fun _ => by kernel_rfl) (ref01_Same.ok hg _ (hs.rowL 0 rfl) (hs.rowR 0 rfl)) ?_)
          intro w gw hs
          refine ⟨fun _ => trivial, ?_⟩
          refine wpS.ps [(10, 98, .bool true), (11, 99, .bool true)] (by kernel_rfl) ?_
          refine wpS.fin rfl (kr47 _ _ ?_)
          refine then_n (ks46 _ _ ?_)
          refine wp_cond_t (by kernel_rfl) ?_
          refine xseq_k fun KS51 ks51 => ?_
          refine wp_regS (l := [0]) (by kernel_rfl) (by kernel_rfl) fun KR52 kr52 => ?_
          refine wpS.p 0 8 (.bool false) (by kernel_rfl) ?_
          refine wpS.fin rfl (kr52 _ _ ?_)
          refine then_n (ks51 _ _ ?_)
          refine xret ?_
          refine inBlock_r ?_
          have q0 := of_some h
          subst q0
          have h := hk_18
          refine exj_r ?_
          refine then_r ?_
          refine then_r ?_
          refine inBlock_r ?_
          refine exq_r ?_
          refine then_r ?_
          have q0 := of_some h
          subst q0
          have q0 := of_some hk0
          subst q0
          exact qq _ _ (post_ret (by kernel_rfl) (run_results [.tmp 8] [.bool false] (by kernel_rfl) (.cons (res_tmp (by kernel_rfl)) .nil)) ⟨congrArg Ending.returned (by kernel_rfl), hs.none⟩)
        | false =>
         have h := of_if_f h
         refine wpS.p 8 87 (.bool false) (by kernel_rfl) ?_
         refine wpS.only 9 (op_alloc (t := 40) (d := (some 15)) (by kernel_rfl) hs (enc .i32 (zeroA 256)) (.agg (enc .i32 (zeroA 256)).toArray) (by kernel_rfl) (by kernel_rfl) (by kernel_rfl) ?_)
         intro b19 w gw hs
         refine ⟨fun _ => trivial, ?_⟩
         refine wpS.only 10 (op_storeW (t := 40) (v := .agg (enc .i32 r14).toArray) (d := none) (by kernel_rfl) hs 0 rfl (vs := enc .i32 r14) (n := 256) (by kernel_rfl) (by kernel_rfl) (by kernel_rfl) (by simp [enc_len]) (by simp [enc_len]) (by intro u hu; exact enc_one _ _ u hu) ?_)
         intro w kp hs
         refine ⟨fun _ => trivial, ?_⟩
         refine wpS.p 11 16 (.bool false) (by kernel_rfl) ?_
         refine wpS.fin rfl (kr43 _ _ ?_)
         refine then_n (ks42 _ _ ?_)
         refine xseq_k fun KS53 ks53 => ?_
         refine wp_regS (l := [0, 1, 2, 3, 4, 5, 6, 7, 8, 9, 10, 11]) (by kernel_rfl) (by kernel_rfl) fun KR54 kr54 => ?_
         refine wpS.ps [(0, 88, .bool false), (1, 89, .bool false), (2, 90, undef), (3, 91, undef), (4, 92, undef), (5, 93, undef), (6, 94, undef), (7, 95, undef), (8, 96, undef), (9, 97, undef), (10, 98, undef), (11, 99, .bool false)] (by kernel_rfl) ?_
         refine wpS.fin rfl (kr54 _ _ ?_)
         refine then_n (ks53 _ _ ?_)
         refine wp_cond_f (by kernel_rfl) ?_
         refine xskip ?_
         refine inBlock_n ?_
         have q0 := of_some h
         subst q0
         exact exj_n (nj _ _ ⟨rfl, (hs.drop (.cons _ (.cons _ (.cons_cons _ (.cons_cons _ (.cons_cons _ .slnil)))))), exg (by kernel_rfl)⟩)
      ·clear hj hs
       rintro a w ⟨rfl, hs, g, rfl⟩
       have h := hk_18
       refine then_n (ks18 _ _ ?_)
       refine wp_regS (l := [0, 1]) (by kernel_rfl) (by kernel_rfl) fun KR55 kr55 => ?_
       refine wpS.ps [(0, 100, .int .i64 (iadd .i64 z7 1)), (1, 50, .int .i64 (iadd .i64 z7 1))] (by kernel_rfl) ?_
       refine wpS.fin rfl (kr55 _ _ ?_)
       exact then_n (kl0 _ _ ⟨n, Nat.lt_succ_self n, (iadd .i64 z7 1), h, (hs.conv rfl), exg (by kernel_rfl)⟩)
     ·refine wpS.take 0 false (some 51) (.bool false) (by kernel_rfl) (yld_b (df hc) (fun _ => by kernel_rfl)) ?_
      refine wpS.fin rfl (kr16 _ _ ?_)
      refine then_n (ks15 _ _ ?_)
      refine xseq_k fun KS56 ks56 => ?_
      refine wp_cond_f (by kernel_rfl) ?_
      refine xexit ?_
      refine then_x ?_
      refine then_x ?_
      refine inBlock_hit ?_
      have q0 := of_some h
      subst q0
      exact exq_n (nn0 _ _ ⟨rfl, (hs.conv rfl), exg (by kernel_rfl)⟩)
   ·clear hs h hy
    rintro a w ⟨rfl, hs, g, rfl⟩
    have h := hk0
    refine then_n (ks12 _ _ ?_)
    obtain ⟨tv57, hj, hk_57⟩ := of_bind h
    refine xseq_k fun KS57 ks57 => wp_exj (N := fun a w => tv57 = .inl () ∧ St w0 [] [.ownL (CA .i32 2 (by decide)) s6_A s6_n s6_c ([(wr (wr (zeroA 2) 0 2) 1 2), (wr (wr (zeroA 2) 0 4095) 1 4096), (wr (wr (zeroA 2) 0 (-1)) 1 1023), (wr (wr (zeroA 2) 0 (isub .i32 r2_4 1)) 1 r2_4)] : List (Arr 2)) 63, .blk b3 ([.int .i64 r2_0, .int .i64 r2_1, .int .i32 r2_2, .int .i64 r2_3, .int .i32 r2_4, .int .i32 r2_5, .int .i64 r2_6, .int .i64 r2_7]) 23, .blk b1 (enc .i32 a1) 40] [.rowL (CI .u8) a2_A a2_n a2_c a2, .rowL (CA .i32 256 (by decide)) a3_A a3_n a3_c a3] w ∧ ∃ g : Nat → Value, a = ⟨#[.int .u8 a0, .agg (enc .i32 a1).toArray, .slice a2_A a2_n a2_c, .slice a3_A a3_n a3_c, undef, .pointer (some ⟨b1, 0, none⟩), undef, undef, (g 8), .pointer (some ⟨b3, 0, none⟩), undef, (g 11), (g 12), (g 13), (g 14), (g 15), (g 16), (g 17), (g 18), (g 19), undef, undef, undef, undef, undef, undef, .int .u8 a0, .int .u8 (irem .u8 a0 3), .agg #[.int .i64 0, .int .i64 0, .int .i32 0, .int .i64 0, .int .i32 0, .int .i32 0, .int .i64 0, .int .i64 0], .agg #[.int .i64 r2_0, .int .i64 r2_1, .int .i32 r2_2, .int .i64 r2_3, .int .i32 r2_4, .int .i32 r2_5, .int .i64 r2_6, .int .i64 r2_7], .slice a2_A a2_n a2_c, .int .i64 (a2.length : Int), .bool false, .bool false, .slice a3_A a3_n a3_c, .int .i64 (a3.length : Int), .bool false, .bool false, undef, .agg (enc .i32 (wr (wr (zeroA 2) 0 2) 1 2)).toArray, .agg (enc .i32 (wr (wr (zeroA 2) 0 4095) 1 4096)).toArray, .agg (enc .i32 (wr (wr (zeroA 2) 0 (-1)) 1 1023)).toArray, .pointer (some ⟨b3, 4, none⟩), .int .i32 r2_4, .int .i32 (isub .i32 r2_4 1), .pointer (some ⟨b3, 4, none⟩), .int .i32 r2_4, .agg (enc .i32 (wr (wr (zeroA 2) 0 (isub .i32 r2_4 1)) 1 r2_4)).toArray, .slice s6_A s6_n s6_c, .int .i64 (([(wr (wr (zeroA 2) 0 2) 1 2), (wr (wr (zeroA 2) 0 4095) 1 4096), (wr (wr (zeroA 2) 0 (-1)) 1 1023), (wr (wr (zeroA 2) 0 (isub .i32 r2_4 1)) 1 r2_4)] : List (Arr 2)).length : Int), (g 50), (g 51), (g 52), (g 53), (g 54), (g 55), (g 56), (g 57), (g 58), (g 59), (g 60), (g 61), (g 62), (g 63), (g 64), (g 65), (g 66), (g 67), (g 68), (g 69), (g 70), (g 71), (g 72), (g 73), (g 74), (g 75), (g 76), (g 77), (g 78), (g 79), (g 80), (g 81), (g 82), (g 83), (g 84), (g 85), (g 86), (g 87), (g 88), (g 89), (g 90), (g 91), (g 92), (g 93), (g 94), (g 95), (g 96), (g 97), (g 98), (g 99), (g 100), (g 101), (g 102), (g 103), (g 104), (g 105), (g 106), (g 107), (g 108), (g 109), (g 110), (g 111), (g 112), (g 113), (g 114), (g 115), (g 116), (g 117), (g 118), (g 119), (g 120), (g 121), (g 122), (g 123), (g 124), undef, undef, undef, undef, undef, undef, undef, undef, undef, undef, undef, undef, undef, undef, undef, undef, undef, undef, undef, undef, undef, undef, undef, undef, undef, undef, undef, undef, undef, undef, undef, undef, undef, undef, undef, undef, undef, undef, undef, undef, undef, undef, undef, undef, undef, undef, undef, undef], []⟩) (fun N nj => ?_) ?_
    ·clear h
     have h := hj
     refine xseq_k fun KS58 ks58 => ?_
     refine wp_regS (l := [0, 1, 2, 3, 4]) (by kernel_rfl) (by kernel_rfl) fun KR59 kr59 => ?_
     refine wpS.ps [(0, 101, .slice a3_A a3_n a3_c), (1, 102, .pointer (some ⟨b3, 6, none⟩))] (by kernel_rfl) ?_
     refine wpS.take 2 true (some 103) (.int .i64 r2_6) (by kernel_rfl) (yld_load1 (e := 3) (o := 6) hs 1 rfl (by kernel_rfl) (by kernel_rfl) (by rfl) .grow) ?_
     obtain ⟨r20, hg, h⟩ := of_bind h
     refine wpS.only 3 (op_callH (d := (some 104)) (by kernel_rfl) hs (fun _ => by kernel_rfl) (dpack_Hints.ok hg _ (hs.rowR 1 rfl)) ?_)
     rintro ⟨r20_A, r20_n, r20_c⟩ w gw hs
     have hs := hs.conv (L' := [.ownL (CI .u8) r20_A r20_n r20_c r20 5, .ownL (CA .i32 2 (by decide)) s6_A s6_n s6_c ([(wr (wr (zeroA 2) 0 2) 1 2), (wr (wr (zeroA 2) 0 4095) 1 4096), (wr (wr (zeroA 2) 0 (-1)) 1 1023), (wr (wr (zeroA 2) 0 (isub .i32 r2_4 1)) 1 r2_4)] : List (Arr 2)) 63, .blk b3 ([.int .i64 r2_0, .int .i64 r2_1, .int .i32 r2_2, .int .i64 r2_3, .int .i32 r2_4, .int .i32 r2_5, .int .i64 r2_6, .int .i64 r2_7]) 23, .blk b1 (enc .i32 a1) 40]) rfl
     refine ⟨fun _ => trivial, ?_⟩
     refine wpS.p 4 17 (.slice r20_A r20_n r20_c) (by kernel_rfl) ?_
     refine wpS.fin rfl (kr59 _ _ ?_)
     refine then_n (ks58 _ _ ?_)
     refine xseq_k fun KS60 ks60 => ?_
     refine wp_regS (l := [0, 1, 2]) (by kernel_rfl) (by kernel_rfl) fun KR61 kr61 => ?_
     refine wpS.p 0 105 (.slice r20_A r20_n r20_c) (by kernel_rfl) ?_
     refine wpS.take 1 false (some 106) (.int .i64 (r20.length : Int)) (by kernel_rfl) (yld_lenL (hs.rowL 0 rfl) (fun _ => by kernel_rfl)) ?_
     rcases of_if h with ⟨hc, h⟩ | ⟨hc, h⟩
     ·refine wpS.take 2 false (some 107) (.bool true) (by kernel_rfl) (yld_b (dt hc) (fun _ => by kernel_rfl)) ?_
      refine wpS.fin rfl (kr61 _ _ ?_)
      refine then_n (ks60 _ _ ?_)
      refine wp_cond_t (by kernel_rfl) ?_
      refine xseq_k fun KS62 ks62 => ?_
      refine wp_regS (l := [0, 1, 2, 3, 4, 5, 6, 7, 8, 9, 10]) (by kernel_rfl) (by kernel_rfl) fun KR63 kr63 => ?_
      refine wpS.ps [(0, 109, .slice r20_A r20_n r20_c), (1, 110, .slice a3_A a3_n a3_c)] (by kernel_rfl) ?_
      refine wpS.take 2 false (some 111) (.int .i64 (a3.length : Int)) (by kernel_rfl) (yld_lenL (hs.rowR 1 rfl) (fun _ => by kernel_rfl)) ?_
      refine wpS.p 3 112 (.pointer (some ⟨b3, 6, none⟩)) (by kernel_rfl) ?_
      refine wpS.take 4 true (some 113) (.int .i64 r2_6) (by kernel_rfl) (yld_load1 (e := 3) (o := 6) hs 2 rfl (by kernel_rfl) (by kernel_rfl) (by rfl) .grow) ?_
      obtain ⟨⟨r21, r22⟩, hg, h⟩ := of_bind h
      refine wpS.only 5 (op_callH (d := (some 114)) (by kernel_rfl) hs (fun _ => by kernel_rfl) (dpack_Unhints.ok hg _ (hs.rowL 0 rfl)) ?_)
      rintro ⟨r21_A, r21_n, r21_c⟩ w gw hs
      have hs := hs.conv (L' := [.ownL (CA .i32 256 (by decide)) r21_A r21_n r21_c r21 40, .ownL (CI .u8) r20_A r20_n r20_c r20 5, .ownL (CA .i32 2 (by decide)) s6_A s6_n s6_c ([(wr (wr (zeroA 2) 0 2) 1 2), (wr (wr (zeroA 2) 0 4095) 1 4096), (wr (wr (zeroA 2) 0 (-1)) 1 1023), (wr (wr (zeroA 2) 0 (isub .i32 r2_4 1)) 1 r2_4)] : List (Arr 2)) 63, .blk b3 ([.int .i64 r2_0, .int .i64 r2_1, .int .i32 r2_2, .int .i64 r2_3, .int .i32 r2_4, .int .i32 r2_5, .int .i64 r2_6, .int .i64 r2_7]) 23, .blk b1 (enc .i32 a1) 40]) rfl
      refine ⟨fun _ => trivial, ?_⟩
      refine wpS.ps [(6, 108, .tuple #[.slice r21_A r21_n r21_c, .bool r22]), (7, 115, .slice r21_A r21_n r21_c)] (by kernel_rfl) ?_
      cases r22 with
      | true =>
       have h := of_if_t h
       refine wpS.ps [(8, 116, .bool true), (9, 18, .slice r21_A r21_n r21_c), (10, 19, .bool true)] (by kernel_rfl) ?_
       refine wpS.fin rfl (kr63 _ _ ?_)
       refine then_n (ks62 _ _ ?_)
       refine xseq_k fun KS64 ks64 => ?_
       refine wp_regS (l := [0, 1, 2, 3, 4, 5, 6, 7]) (by kernel_rfl) (by kernel_rfl) fun KR65 kr65 => ?_
       refine wpS.ps [(0, 117, .bool true), (1, 118, .bool false), (2, 119, .bool false), (3, 120, .slice r21_A r21_n r21_c), (4, 121, .slice a3_A a3_n a3_c)] (by kernel_rfl) ?_
       obtain ⟨r23, hg, h⟩ := of_bind h
       cases r23 with
       | true =>
        have h := of_if_t h
        refine wpS.only 5 (op_call (d := (some 122)) (by kernel_rfl) hs (fun _ => by kernel_rfl) (ref22_Same.ok hg _ (hs.rowL 0 rfl) (hs.rowR 1 rfl)) ?_)
        intro w gw hs
        refine ⟨fun _ => trivial, ?_⟩
        refine wpS.ps [(6, 123, .bool false), (7, 124, .bool false)] (by kernel_rfl) ?_
        refine wpS.fin rfl (kr65 _ _ ?_)
        refine then_n (ks64 _ _ ?_)
        refine wp_cond_f (by kernel_rfl) ?_
        refine xskip ?_
        have q0 := of_some h
        subst q0
        exact exj_n (nj _ _ ⟨rfl, (hs.drop (.cons _ (.cons _ (.cons_cons _ (.cons_cons _ (.cons_cons _ .slnil)))))), exg (by kernel_rfl)⟩)
       | false =>
        have h := of_if_f h
        refine wpS.only 5 (op_call (d := (some 122)) (by kernel_rfl) hs (fun _ => by kernel_rfl) (ref22_Same.ok hg _ (hs.rowL 0 rfl) (hs.rowR 1 rfl)) ?_)
        intro w gw hs
        refine ⟨fun _ => trivial, ?_⟩
        refine wpS.ps [(6, 123, .bool true), (7, 124, .bool true)] (by kernel_rfl) ?_
        refine wpS.fin rfl (kr65 _ _ ?_)
        refine then_n (ks64 _ _ ?_)
        refine wp_cond_t (by kernel_rfl) ?_
        refine xseq_k fun KS66 ks66 => ?_
        refine wp_regS (l := [0]) (by kernel_rfl) (by kernel_rfl) fun KR67 kr67 => ?_
        refine wpS.p 0 8 (.bool false) (by kernel_rfl) ?_
        refine wpS.fin rfl (kr67 _ _ ?_)
        refine then_n (ks66 _ _ ?_)
        refine xret ?_
        have q0 := of_some h
        subst q0
        have h := hk_57
        refine exj_r ?_
        refine then_r ?_
        have q0 := of_some h
        subst q0
        exact qq _ _ (post_ret (by kernel_rfl) (run_results [.tmp 8] [.bool false] (by kernel_rfl) (.cons (res_tmp (by kernel_rfl)) .nil)) ⟨congrArg Ending.returned (by kernel_rfl), hs.none⟩)
      | false =>
       have h := of_if_f h
       refine wpS.ps [(8, 116, .bool false), (9, 18, .slice r21_A r21_n r21_c), (10, 19, .bool false)] (by kernel_rfl) ?_
       refine wpS.fin rfl (kr63 _ _ ?_)
       refine then_n (ks62 _ _ ?_)
       refine xseq_k fun KS68 ks68 => ?_
       refine wp_regS (l := [0, 1, 2, 3, 4, 5, 6, 7]) (by kernel_rfl) (by kernel_rfl) fun KR69 kr69 => ?_
       refine wpS.ps [(0, 117, .bool false), (1, 118, .bool true), (2, 119, .bool true), (3, 120, undef), (4, 121, undef), (5, 122, undef), (6, 123, undef), (7, 124, .bool true)] (by kernel_rfl) ?_
       refine wpS.fin rfl (kr69 _ _ ?_)
       refine then_n (ks68 _ _ ?_)
       refine wp_cond_t (by kernel_rfl) ?_
       refine xseq_k fun KS70 ks70 => ?_
       refine wp_regS (l := [0]) (by kernel_rfl) (by kernel_rfl) fun KR71 kr71 => ?_
       refine wpS.p 0 8 (.bool false) (by kernel_rfl) ?_
       refine wpS.fin rfl (kr71 _ _ ?_)
       refine then_n (ks70 _ _ ?_)
       refine xret ?_
       have q0 := of_some h
       subst q0
       have h := hk_57
       refine exj_r ?_
       refine then_r ?_
       have q0 := of_some h
       subst q0
       exact qq _ _ (post_ret (by kernel_rfl) (run_results [.tmp 8] [.bool false] (by kernel_rfl) (.cons (res_tmp (by kernel_rfl)) .nil)) ⟨congrArg Ending.returned (by kernel_rfl), hs.none⟩)
     ·refine wpS.take 2 false (some 107) (.bool false) (by kernel_rfl) (yld_b (df hc) (fun _ => by kernel_rfl)) ?_
      refine wpS.fin rfl (kr61 _ _ ?_)
      refine then_n (ks60 _ _ ?_)
      refine wp_cond_f (by kernel_rfl) ?_
      refine xskip ?_
      have q0 := of_some h
      subst q0
      exact exj_n (nj _ _ ⟨rfl, (hs.drop (.cons _ (.cons_cons _ (.cons_cons _ (.cons_cons _ .slnil))))), exg (by kernel_rfl)⟩)
    ·clear hj hs
     rintro a w ⟨rfl, hs, g, rfl⟩
     have h := hk_57
     refine then_n (ks57 _ _ ?_)
     obtain ⟨tv72, hj, hk_72⟩ := of_bind h
     refine xseq_k fun KS72 ks72 => wp_exj (N := fun a w => tv72 = .inl () ∧ St w0 [] [.ownL (CA .i32 2 (by decide)) s6_A s6_n s6_c ([(wr (wr (zeroA 2) 0 2) 1 2), (wr (wr (zeroA 2) 0 4095) 1 4096), (wr (wr (zeroA 2) 0 (-1)) 1 1023), (wr (wr (zeroA 2) 0 (isub .i32 r2_4 1)) 1 r2_4)] : List (Arr 2)) 63, .blk b3 ([.int .i64 r2_0, .int .i64 r2_1, .int .i32 r2_2, .int .i64 r2_3, .int .i32 r2_4, .int .i32 r2_5, .int .i64 r2_6, .int .i64 r2_7]) 23, .blk b1 (enc .i32 a1) 40] [.rowL (CI .u8) a2_A a2_n a2_c a2, .rowL (CA .i32 256 (by decide)) a3_A a3_n a3_c a3] w ∧ ∃ g : Nat → Value, a = ⟨#[.int .u8 a0, .agg (enc .i32 a1).toArray, .slice a2_A a2_n a2_c, .slice a3_A a3_n a3_c, undef, .pointer (some ⟨b1, 0, none⟩), undef, undef, (g 8), .pointer (some ⟨b3, 0, none⟩), undef, (g 11), (g 12), (g 13), (g 14), (g 15), (g 16), (g 17), (g 18), (g 19), (g 20), (g 21), undef, undef, undef, undef, .int .u8 a0, .int .u8 (irem .u8 a0 3), .agg #[.int .i64 0, .int .i64 0, .int .i32 0, .int .i64 0, .int .i32 0, .int .i32 0, .int .i64 0, .int .i64 0], .agg #[.int .i64 r2_0, .int .i64 r2_1, .int .i32 r2_2, .int .i64 r2_3, .int .i32 r2_4, .int .i32 r2_5, .int .i64 r2_6, .int .i64 r2_7], .slice a2_A a2_n a2_c, .int .i64 (a2.length : Int), .bool false, .bool false, .slice a3_A a3_n a3_c, .int .i64 (a3.length : Int), .bool false, .bool false, undef, .agg (enc .i32 (wr (wr (zeroA 2) 0 2) 1 2)).toArray, .agg (enc .i32 (wr (wr (zeroA 2) 0 4095) 1 4096)).toArray, .agg (enc .i32 (wr (wr (zeroA 2) 0 (-1)) 1 1023)).toArray, .pointer (some ⟨b3, 4, none⟩), .int .i32 r2_4, .int .i32 (isub .i32 r2_4 1), .pointer (some ⟨b3, 4, none⟩), .int .i32 r2_4, .agg (enc .i32 (wr (wr (zeroA 2) 0 (isub .i32 r2_4 1)) 1 r2_4)).toArray, .slice s6_A s6_n s6_c, .int .i64 (([(wr (wr (zeroA 2) 0 2) 1 2), (wr (wr (zeroA 2) 0 4095) 1 4096), (wr (wr (zeroA 2) 0 (-1)) 1 1023), (wr (wr (zeroA 2) 0 (isub .i32 r2_4 1)) 1 r2_4)] : List (Arr 2)).length : Int), (g 50), (g 51), (g 52), (g 53), (g 54), (g 55), (g 56), (g 57), (g 58), (g 59), (g 60), (g 61), (g 62), (g 63), (g 64), (g 65), (g 66), (g 67), (g 68), (g 69), (g 70), (g 71), (g 72), (g 73), (g 74), (g 75), (g 76), (g 77), (g 78), (g 79), (g 80), (g 81), (g 82), (g 83), (g 84), (g 85), (g 86), (g 87), (g 88), (g 89), (g 90), (g 91), (g 92), (g 93), (g 94), (g 95), (g 96), (g 97), (g 98), (g 99), (g 100), (g 101), (g 102), (g 103), (g 104), (g 105), (g 106), (g 107), (g 108), (g 109), (g 110), (g 111), (g 112), (g 113), (g 114), (g 115), (g 116), (g 117), (g 118), (g 119), (g 120), (g 121), (g 122), (g 123), (g 124), (g 125), (g 126), (g 127), (g 128), (g 129), (g 130), (g 131), (g 132), (g 133), (g 134), (g 135), (g 136), (g 137), (g 138), (g 139), undef, undef, undef, undef, undef, undef, undef, undef, undef, undef, undef, undef, undef, undef, undef, undef, undef, undef, undef, undef, undef, undef, undef, undef, undef, undef, undef, undef, undef, undef, undef, undef, undef], []⟩) (fun N nj => ?_) ?_
     ·clear h
      have h := hj
      refine xseq_k fun KS73 ks73 => ?_
      refine wp_regS (l := [0, 1, 2, 3, 4, 5, 6, 7, 8]) (by kernel_rfl) (by kernel_rfl) fun KR74 kr74 => ?_
      refine wpS.take 0 true (some 126) (.agg #[.int .i64 r2_0, .int .i64 r2_1, .int .i32 r2_2, .int .i64 r2_3, .int .i32 r2_4, .int .i32 r2_5, .int .i64 r2_6, .int .i64 r2_7]) (by kernel_rfl) (yld_loadW (e := 23) (n := 8) hs 1 rfl (by kernel_rfl) (by kernel_rfl) (by kernel_rfl) (by simp [enc_len]) .grow) ?_
      refine wpS.p 1 127 (.slice a2_A a2_n a2_c) (by kernel_rfl) ?_
      obtain ⟨⟨r24_0, r24_1, r25⟩, hg, h⟩ := of_bind h
      refine wpS.only 2 (op_callH (d := (some 128)) (by kernel_rfl) hs (fun _ => by kernel_rfl) (dpack_UnPublic.ok hg _ (hs.rowR 0 rfl)) ?_)
      rintro ⟨⟨r24_0_A, r24_0_n, r24_0_c⟩, ⟨r24_1_A, r24_1_n, r24_1_c⟩⟩ w gw hs
      have hs := hs.conv (L' := [.ownL (CI .u8) r24_0_A r24_0_n r24_0_c r24_0 5, .ownL (CA .i32 256 (by decide)) r24_1_A r24_1_n r24_1_c r24_1 40, .ownL (CA .i32 2 (by decide)) s6_A s6_n s6_c ([(wr (wr (zeroA 2) 0 2) 1 2), (wr (wr (zeroA 2) 0 4095) 1 4096), (wr (wr (zeroA 2) 0 (-1)) 1 1023), (wr (wr (zeroA 2) 0 (isub .i32 r2_4 1)) 1 r2_4)] : List (Arr 2)) 63, .blk b3 ([.int .i64 r2_0, .int .i64 r2_1, .int .i32 r2_2, .int .i64 r2_3, .int .i32 r2_4, .int .i32 r2_5, .int .i64 r2_6, .int .i64 r2_7]) 23, .blk b1 (enc .i32 a1) 40]) rfl
      refine ⟨fun _ => trivial, ?_⟩
      refine wpS.ps [(3, 125, .tuple #[.agg #[.slice r24_0_A r24_0_n r24_0_c, .slice r24_1_A r24_1_n r24_1_c], .bool r25]), (4, 129, .agg #[.slice r24_0_A r24_0_n r24_0_c, .slice r24_1_A r24_1_n r24_1_c])] (by kernel_rfl) ?_
      cases r25 with
      | true =>
       have h := of_if_t h
       refine wpS.p 5 130 (.bool true) (by kernel_rfl) ?_
       refine wpS.only 6 (op_alloc (t := 27) (d := (some 20)) (by kernel_rfl) hs ([.slice none 0 0, .slice none 0 0]) (.agg #[.slice none 0 0, .slice none 0 0]) (by kernel_rfl) (by kernel_rfl) (by kernel_rfl) ?_)
       intro b26 w gw hs
       refine ⟨fun _ => trivial, ?_⟩
       refine wpS.only 7 (op_storeW (t := 27) (v := .agg #[.slice r24_0_A r24_0_n r24_0_c, .slice r24_1_A r24_1_n r24_1_c]) (d := none) (by kernel_rfl) hs 0 rfl (vs := [.slice r24_0_A r24_0_n r24_0_c, .slice r24_1_A r24_1_n r24_1_c]) (n := 2) (by kernel_rfl) (by kernel_rfl) (by kernel_rfl) (by simp [enc_len]) (by simp [enc_len]) (by simp [Value.oneCell']) ?_)
       intro w kp hs
       refine ⟨fun _ => trivial, ?_⟩
       refine wpS.p 8 21 (.bool true) (by kernel_rfl) ?_
       refine wpS.fin rfl (kr74 _ _ ?_)
       refine then_n (ks73 _ _ ?_)
       refine xseq_k fun KS75 ks75 => ?_
       refine wp_regS (l := [0, 1, 2, 3, 4, 5, 6, 7, 8]) (by kernel_rfl) (by kernel_rfl) fun KR76 kr76 => ?_
       refine wpS.ps [(0, 131, .bool true), (1, 132, .bool true)] (by kernel_rfl) ?_
       refine wpS.take 2 true (some 133) (.agg #[.int .i64 r2_0, .int .i64 r2_1, .int .i32 r2_2, .int .i64 r2_3, .int .i32 r2_4, .int .i32 r2_5, .int .i64 r2_6, .int .i64 r2_7]) (by kernel_rfl) (yld_loadW (e := 23) (n := 8) hs 4 rfl (by kernel_rfl) (by kernel_rfl) (by kernel_rfl) (by simp [enc_len]) .grow) ?_
       refine wpS.take 3 true (some 134) (.agg #[.slice r24_0_A r24_0_n r24_0_c, .slice r24_1_A r24_1_n r24_1_c]) (by kernel_rfl) (yld_loadW (e := 27) (n := 2) hs 0 rfl (by kernel_rfl) (by kernel_rfl) (by kernel_rfl) (by simp [enc_len]) .grow) ?_
       obtain ⟨r27, hg, h⟩ := of_bind h
       refine wpS.only 4 (op_callH (d := (some 135)) (by kernel_rfl) hs (fun _ => by kernel_rfl) (dpack_Public.ok hg _ (hs.rowL 1 rfl) (hs.rowL 2 rfl)) ?_)
       rintro ⟨r27_A, r27_n, r27_c⟩ w gw hs
       have hs := hs.conv (L' := [.ownL (CI .u8) r27_A r27_n r27_c r27 5, .blk b26 ([.slice r24_0_A r24_0_n r24_0_c, .slice r24_1_A r24_1_n r24_1_c]) 27, .ownL (CI .u8) r24_0_A r24_0_n r24_0_c r24_0 5, .ownL (CA .i32 256 (by decide)) r24_1_A r24_1_n r24_1_c r24_1 40, .ownL (CA .i32 2 (by decide)) s6_A s6_n s6_c ([(wr (wr (zeroA 2) 0 2) 1 2), (wr (wr (zeroA 2) 0 4095) 1 4096), (wr (wr (zeroA 2) 0 (-1)) 1 1023), (wr (wr (zeroA 2) 0 (isub .i32 r2_4 1)) 1 r2_4)] : List (Arr 2)) 63, .blk b3 ([.int .i64 r2_0, .int .i64 r2_1, .int .i32 r2_2, .int .i64 r2_3, .int .i32 r2_4, .int .i32 r2_5, .int .i64 r2_6, .int .i64 r2_7]) 23, .blk b1 (enc .i32 a1) 40]) rfl
       refine ⟨fun _ => trivial, ?_⟩
       refine wpS.p 5 136 (.slice a2_A a2_n a2_c) (by kernel_rfl) ?_
       obtain ⟨r28, hg, h⟩ := of_bind h
       cases r28 with
       | true =>
        have h := of_if_t h
        refine wpS.only 6 (op_call (d := (some 137)) (by kernel_rfl) hs (fun _ => by kernel_rfl) (ref01_Same.ok hg _ (hs.rowL 0 rfl) (hs.rowR 0 rfl)) ?_)
        intro w gw hs
        refine ⟨fun _ => trivial, ?_⟩
        refine wpS.ps [(7, 138, .bool false), (8, 139, .bool false)] (by kernel_rfl) ?_
        refine wpS.fin rfl (kr76 _ _ ?_)
        refine then_n (ks75 _ _ ?_)
        refine wp_cond_f (by kernel_rfl) ?_
        refine xskip ?_
        have q0 := of_some h
        subst q0
        exact exj_n (nj _ _ ⟨rfl, (hs.drop (.cons _ (.cons _ (.cons _ (.cons _ (.cons_cons _ (.cons_cons _ (.cons_cons _ .slnil)))))))), exg (by kernel_rfl)⟩)
       | false =>
        have h := of_if_f h
        refine wpS.only 6 (op_call (d := (some 137)) (by kernel_rfl) hs (fun _ => by kernel_rfl) (ref01_Same.ok hg _ (hs.rowL 0 rfl) (hs.rowR 0 rfl)) ?_)
        intro w gw hs
        refine ⟨fun _ => trivial, ?_⟩
        refine wpS.ps [(7, 138, .bool true), (8, 139, .bool true)] (by kernel_rfl) ?_
        refine wpS.fin rfl (kr76 _ _ ?_)
        refine then_n (ks75 _ _ ?_)
        refine wp_cond_t (by kernel_rfl) ?_
        refine xseq_k fun KS77 ks77 => ?_
        refine wp_regS (l := [0]) (by kernel_rfl) (by kernel_rfl) fun KR78 kr78 => ?_
        refine wpS.p 0 8 (.bool false) (by kernel_rfl) ?_
        refine wpS.fin rfl (kr78 _ _ ?_)
        refine then_n (ks77 _ _ ?_)
        refine xret ?_
        have q0 := of_some h
        subst q0
        have h := hk_72
        refine exj_r ?_
        refine then_r ?_
        have q0 := of_some h
        subst q0
        exact qq _ _ (post_ret (by kernel_rfl) (run_results [.tmp 8] [.bool false] (by kernel_rfl) (.cons (res_tmp (by kernel_rfl)) .nil)) ⟨congrArg Ending.returned (by kernel_rfl), hs.none⟩)
      | false =>
       have h := of_if_f h
       refine wpS.p 5 130 (.bool false) (by kernel_rfl) ?_
       refine wpS.only 6 (op_alloc (t := 27) (d := (some 20)) (by kernel_rfl) hs ([.slice none 0 0, .slice none 0 0]) (.agg #[.slice none 0 0, .slice none 0 0]) (by kernel_rfl) (by kernel_rfl) (by kernel_rfl) ?_)
       intro b29 w gw hs
       refine ⟨fun _ => trivial, ?_⟩
       refine wpS.only 7 (op_storeW (t := 27) (v := .agg #[.slice r24_0_A r24_0_n r24_0_c, .slice r24_1_A r24_1_n r24_1_c]) (d := none) (by kernel_rfl) hs 0 rfl (vs := [.slice r24_0_A r24_0_n r24_0_c, .slice r24_1_A r24_1_n r24_1_c]) (n := 2) (by kernel_rfl) (by kernel_rfl) (by kernel_rfl) (by simp [enc_len]) (by simp [enc_len]) (by simp [Value.oneCell']) ?_)
       intro w kp hs
       refine ⟨fun _ => trivial, ?_⟩
       refine wpS.p 8 21 (.bool false) (by kernel_rfl) ?_
       refine wpS.fin rfl (kr74 _ _ ?_)
       refine then_n (ks73 _ _ ?_)
       refine xseq_k fun KS79 ks79 => ?_
       refine wp_regS (l := [0, 1, 2, 3, 4, 5, 6, 7, 8]) (by kernel_rfl) (by kernel_rfl) fun KR80 kr80 => ?_
       refine wpS.ps [(0, 131, .bool false), (1, 132, .bool false), (2, 133, undef), (3, 134, undef), (4, 135, undef), (5, 136, undef), (6, 137, undef), (7, 138, undef), (8, 139, .bool false)] (by kernel_rfl) ?_
       refine wpS.fin rfl (kr80 _ _ ?_)
       refine then_n (ks79 _ _ ?_)
       refine wp_cond_f (by kernel_rfl) ?_
       refine xskip ?_
       have q0 := of_some h
       subst q0
       exact exj_n (nj _ _ ⟨rfl, (hs.drop (.cons _ (.cons _ (.cons _ (.cons_cons _ (.cons_cons _ (.cons_cons _ .slnil))))))), exg (by kernel_rfl)⟩)
     ·clear hj hs
      rintro a w ⟨rfl, hs, g, rfl⟩
      have h := hk_72
      refine then_n (ks72 _ _ ?_)
      obtain ⟨tv81, hj, hk_81⟩ := of_bind h
      refine xseq_k fun KS81 ks81 => wp_exj (N := fun a w => tv81 = .inl () ∧ St w0 [] [.ownL (CA .i32 2 (by decide)) s6_A s6_n s6_c ([(wr (wr (zeroA 2) 0 2) 1 2), (wr (wr (zeroA 2) 0 4095) 1 4096), (wr (wr (zeroA 2) 0 (-1)) 1 1023), (wr (wr (zeroA 2) 0 (isub .i32 r2_4 1)) 1 r2_4)] : List (Arr 2)) 63, .blk b3 ([.int .i64 r2_0, .int .i64 r2_1, .int .i32 r2_2, .int .i64 r2_3, .int .i32 r2_4, .int .i32 r2_5, .int .i64 r2_6, .int .i64 r2_7]) 23, .blk b1 (enc .i32 a1) 40] [.rowL (CI .u8) a2_A a2_n a2_c a2, .rowL (CA .i32 256 (by decide)) a3_A a3_n a3_c a3] w ∧ ∃ g : Nat → Value, a = ⟨#[.int .u8 a0, .agg (enc .i32 a1).toArray, .slice a2_A a2_n a2_c, .slice a3_A a3_n a3_c, undef, .pointer (some ⟨b1, 0, none⟩), undef, undef, (g 8), .pointer (some ⟨b3, 0, none⟩), undef, (g 11), (g 12), (g 13), (g 14), (g 15), (g 16), (g 17), (g 18), (g 19), (g 20), (g 21), (g 22), (g 23), undef, undef, .int .u8 a0, .int .u8 (irem .u8 a0 3), .agg #[.int .i64 0, .int .i64 0, .int .i32 0, .int .i64 0, .int .i32 0, .int .i32 0, .int .i64 0, .int .i64 0], .agg #[.int .i64 r2_0, .int .i64 r2_1, .int .i32 r2_2, .int .i64 r2_3, .int .i32 r2_4, .int .i32 r2_5, .int .i64 r2_6, .int .i64 r2_7], .slice a2_A a2_n a2_c, .int .i64 (a2.length : Int), .bool false, .bool false, .slice a3_A a3_n a3_c, .int .i64 (a3.length : Int), .bool false, .bool false, undef, .agg (enc .i32 (wr (wr (zeroA 2) 0 2) 1 2)).toArray, .agg (enc .i32 (wr (wr (zeroA 2) 0 4095) 1 4096)).toArray, .agg (enc .i32 (wr (wr (zeroA 2) 0 (-1)) 1 1023)).toArray, .pointer (some ⟨b3, 4, none⟩), .int .i32 r2_4, .int .i32 (isub .i32 r2_4 1), .pointer (some ⟨b3, 4, none⟩), .int .i32 r2_4, .agg (enc .i32 (wr (wr (zeroA 2) 0 (isub .i32 r2_4 1)) 1 r2_4)).toArray, .slice s6_A s6_n s6_c, .int .i64 (([(wr (wr (zeroA 2) 0 2) 1 2), (wr (wr (zeroA 2) 0 4095) 1 4096), (wr (wr (zeroA 2) 0 (-1)) 1 1023), (wr (wr (zeroA 2) 0 (isub .i32 r2_4 1)) 1 r2_4)] : List (Arr 2)).length : Int), (g 50), (g 51), (g 52), (g 53), (g 54), (g 55), (g 56), (g 57), (g 58), (g 59), (g 60), (g 61), (g 62), (g 63), (g 64), (g 65), (g 66), (g 67), (g 68), (g 69), (g 70), (g 71), (g 72), (g 73), (g 74), (g 75), (g 76), (g 77), (g 78), (g 79), (g 80), (g 81), (g 82), (g 83), (g 84), (g 85), (g 86), (g 87), (g 88), (g 89), (g 90), (g 91), (g 92), (g 93), (g 94), (g 95), (g 96), (g 97), (g 98), (g 99), (g 100), (g 101), (g 102), (g 103), (g 104), (g 105), (g 106), (g 107), (g 108), (g 109), (g 110), (g 111), (g 112), (g 113), (g 114), (g 115), (g 116), (g 117), (g 118), (g 119), (g 120), (g 121), (g 122), (g 123), (g 124), (g 125), (g 126), (g 127), (g 128), (g 129), (g 130), (g 131), (g 132), (g 133), (g 134), (g 135), (g 136), (g 137), (g 138), (g 139), (g 140), (g 141), (g 142), (g 143), (g 144), (g 145), (g 146), (g 147), (g 148), (g 149), (g 150), (g 151), (g 152), (g 153), (g 154), undef, undef, undef, undef, undef, undef, undef, undef, undef, undef, undef, undef, undef, undef, undef, undef, undef, undef], []⟩) (fun N nj => ?_) ?_
      ·clear h
       have h := hj
       refine xseq_k fun KS82 ks82 => ?_
       refine wp_regS (l := [0, 1, 2, 3, 4, 5, 6, 7, 8]) (by kernel_rfl) (by kernel_rfl) fun KR83 kr83 => ?_
       refine wpS.take 0 true (some 141) (.agg #[.int .i64 r2_0, .int .i64 r2_1, .int .i32 r2_2, .int .i64 r2_3, .int .i32 r2_4, .int .i32 r2_5, .int .i64 r2_6, .int .i64 r2_7]) (by kernel_rfl) (yld_loadW (e := 23) (n := 8) hs 1 rfl (by kernel_rfl) (by kernel_rfl) (by kernel_rfl) (by simp [enc_len]) .grow) ?_
       refine wpS.p 1 142 (.slice a2_A a2_n a2_c) (by kernel_rfl) ?_
       obtain ⟨⟨r30_0, r30_1, r30_2, r30_3, r30_4, r30_5, r31⟩, hg, h⟩ := of_bind h
       refine wpS.only 2 (op_callH (d := (some 143)) (by kernel_rfl) hs (fun _ => by kernel_rfl) (dpack_UnPrivate.ok hg _ (hs.rowR 0 rfl)) ?_)
       rintro ⟨⟨r30_0_A, r30_0_n, r30_0_c⟩, ⟨r30_1_A, r30_1_n, r30_1_c⟩, ⟨r30_2_A, r30_2_n, r30_2_c⟩, ⟨r30_3_A, r30_3_n, r30_3_c⟩, ⟨r30_4_A, r30_4_n, r30_4_c⟩, ⟨r30_5_A, r30_5_n, r30_5_c⟩⟩ w gw hs
       have hs := hs.conv (L' := [.ownL (CI .u8) r30_0_A r30_0_n r30_0_c r30_0 5, .ownL (CI .u8) r30_1_A r30_1_n r30_1_c r30_1 5, .ownL (CI .u8) r30_2_A r30_2_n r30_2_c r30_2 5, .ownL (CA .i32 256 (by decide)) r30_3_A r30_3_n r30_3_c r30_3 40, .ownL (CA .i32 256 (by decide)) r30_4_A r30_4_n r30_4_c r30_4 40, .ownL (CA .i32 256 (by decide)) r30_5_A r30_5_n r30_5_c r30_5 40, .ownL (CA .i32 2 (by decide)) s6_A s6_n s6_c ([(wr (wr (zeroA 2) 0 2) 1 2), (wr (wr (zeroA 2) 0 4095) 1 4096), (wr (wr (zeroA 2) 0 (-1)) 1 1023), (wr (wr (zeroA 2) 0 (isub .i32 r2_4 1)) 1 r2_4)] : List (Arr 2)) 63, .blk b3 ([.int .i64 r2_0, .int .i64 r2_1, .int .i32 r2_2, .int .i64 r2_3, .int .i32 r2_4, .int .i32 r2_5, .int .i64 r2_6, .int .i64 r2_7]) 23, .blk b1 (enc .i32 a1) 40]) rfl
       refine ⟨fun _ => trivial, ?_⟩
       refine wpS.ps [(3, 140, .tuple #[.agg #[.slice r30_0_A r30_0_n r30_0_c, .slice r30_1_A r30_1_n r30_1_c, .slice r30_2_A r30_2_n r30_2_c, .slice r30_3_A r30_3_n r30_3_c, .slice r30_4_A r30_4_n r30_4_c, .slice r30_5_A r30_5_n r30_5_c], .bool r31]), (4, 144, .agg #[.slice r30_0_A r30_0_n r30_0_c, .slice r30_1_A r30_1_n r30_1_c, .slice r30_2_A r30_2_n r30_2_c, .slice r30_3_A r30_3_n r30_3_c, .slice r30_4_A r30_4_n r30_4_c, .slice r30_5_A r30_5_n r30_5_c])] (by kernel_rfl) ?_
       cases r31 with
       | true =>
        have h := of_if_t h
        refine wpS.p 5 145 (.bool true) (by kernel_rfl) ?_
        refine wpS.only 6 (op_alloc (t := 29) (d := (some 22)) (by kernel_rfl) hs ([.slice none 0 0, .slice none 0 0, .slice none 0 0, .slice none 0 0, .slice none 0 0, .slice none 0 0]) (.agg #[.slice none 0 0, .slice none 0 0, .slice none 0 0, .slice none 0 0, .slice none 0 0, .slice none 0 0]) (by kernel_rfl) (by kernel_rfl) (by kernel_rfl) ?_)
        intro b32 w gw hs
        refine ⟨fun _ => trivial, ?_⟩
        refine wpS.only 7 (op_storeW (t := 29) (v := .agg #[.slice r30_0_A r30_0_n r30_0_c, .slice r30_1_A r30_1_n r30_1_c, .slice r30_2_A r30_2_n r30_2_c, .slice r30_3_A r30_3_n r30_3_c, .slice r30_4_A r30_4_n r30_4_c, .slice r30_5_A r30_5_n r30_5_c]) (d := none) (by kernel_rfl) hs 0 rfl (vs := [.slice r30_0_A r30_0_n r30_0_c, .slice r30_1_A r30_1_n r30_1_c, .slice r30_2_A r30_2_n r30_2_c, .slice r30_3_A r30_3_n r30_3_c, .slice r30_4_A r30_4_n r30_4_c, .slice r30_5_A r30_5_n r30_5_c]) (n := 6) (by kernel_rfl) (by kernel_rfl) (by kernel_rfl) (by simp [enc_len]) (by simp [enc_len]) (by simp [Value.oneCell']) ?_)
        intro w kp hs
        refine ⟨fun _ => trivial, ?_⟩
        refine wpS.p 8 23 (.bool true) (by kernel_rfl) ?_
        refine wpS.fin rfl (kr83 _ _ ?_)
        refine then_n (ks82 _ _ ?_)
        refine xseq_k fun KS84 ks84 => ?_
        refine wp_regS (l := [0, 1, 2, 3, 4, 5, 6, 7, 8]) (by kernel_rfl) (by kernel_rfl) fun KR85 kr85 => ?_
        refine wpS.ps [(0, 146, .bool true), (1, 147, .bool true)] (by kernel_rfl) ?_
        refine wpS.take 2 true (some 148) (.agg #[.int .i64 r2_0, .int .i64 r2_1, .int .i32 r2_2, .int .i64 r2_3, .int .i32 r2_4, .int .i32 r2_5, .int .i64 r2_6, .int .i64 r2_7]) (by kernel_rfl) (yld_loadW (e := 23) (n := 8) hs 8 rfl (by kernel_rfl) (by kernel_rfl) (by kernel_rfl) (by simp [enc_len]) .grow) ?_
        refine wpS.take 3 true (some 149) (.agg #[.slice r30_0_A r30_0_n r30_0_c, .slice r30_1_A r30_1_n r30_1_c, .slice r30_2_A r30_2_n r30_2_c, .slice r30_3_A r30_3_n r30_3_c, .slice r30_4_A r30_4_n r30_4_c, .slice r30_5_A r30_5_n r30_5_c]) (by kernel_rfl) (yld_loadW (e := 29) (n := 6) hs 0 rfl (by kernel_rfl) (by kernel_rfl) (by kernel_rfl) (by simp [enc_len]) .grow) ?_
        obtain ⟨r33, hg, h⟩ := of_bind h
        refine wpS.only 4 (op_callH (d := (some 150)) (by kernel_rfl) hs (fun _ => by kernel_rfl) (dpack_Private.ok hg _ (hs.rowL 1 rfl) (hs.rowL 2 rfl) (hs.rowL 3 rfl) (hs.rowL 4 rfl) (hs.rowL 5 rfl) (hs.rowL 6 rfl)) ?_)
        rintro ⟨r33_A, r33_n, r33_c⟩ w gw hs
        have hs := hs.conv (L' := [.ownL (CI .u8) r33_A r33_n r33_c r33 5, .blk b32 ([.slice r30_0_A r30_0_n r30_0_c, .slice r30_1_A r30_1_n r30_1_c, .slice r30_2_A r30_2_n r30_2_c, .slice r30_3_A r30_3_n r30_3_c, .slice r30_4_A r30_4_n r30_4_c, .slice r30_5_A r30_5_n r30_5_c]) 29, .ownL (CI .u8) r30_0_A r30_0_n r30_0_c r30_0 5, .ownL (CI .u8) r30_1_A r30_1_n r30_1_c r30_1 5, .ownL (CI .u8) r30_2_A r30_2_n r30_2_c r30_2 5, .ownL (CA .i32 256 (by decide)) r30_3_A r30_3_n r30_3_c r30_3 40, .ownL (CA .i32 256 (by decide)) r30_4_A r30_4_n r30_4_c r30_4 40, .ownL (CA .i32 256 (by decide)) r30_5_A r30_5_n r30_5_c r30_5 40, .ownL (CA .i32 2 (by decide)) s6_A s6_n s6_c ([(wr (wr (zeroA 2) 0 2) 1 2), (wr (wr (zeroA 2) 0 4095) 1 4096), (wr (wr (zeroA 2) 0 (-1)) 1 1023), (wr (wr (zeroA 2) 0 (isub .i32 r2_4 1)) 1 r2_4)] : List (Arr 2)) 63, .blk b3 ([.int .i64 r2_0, .int .i64 r2_1, .int .i32 r2_2, .int .i64 r2_3, .int .i32 r2_4, .int .i32 r2_5, .int .i64 r2_6, .int .i64 r2_7]) 23, .blk b1 (enc .i32 a1) 40]) rfl
        refine ⟨fun _ => trivial, ?_⟩
        refine wpS.p 5 151 (.slice a2_A a2_n a2_c) (by kernel_rfl) ?_
        obtain ⟨r34, hg, h⟩ := of_bind h
        cases r34 with
        | true =>
         have h := of_if_t h
         refine wpS.only 6 (op_call (d := (some 152)) (by kernel_rfl) hs (fun _ => by kernel_rfl) (ref01_Same.ok hg _ (hs.rowL 0 rfl) (hs.rowR 0 rfl)) ?_)
         intro w gw hs
         refine ⟨fun _ => trivial, ?_⟩
         refine wpS.ps [(7, 153, .bool false), (8, 154, .bool false)] (by kernel_rfl) ?_
         refine wpS.fin rfl (kr85 _ _ ?_)
         refine then_n (ks84 _ _ ?_)
         refine wp_cond_f (by kernel_rfl) ?_
         refine xskip ?_
         have q0 := of_some h
         subst q0
         exact exj_n (nj _ _ ⟨rfl, (hs.drop (.cons _ (.cons _ (.cons _ (.cons _ (.cons _ (.cons _ (.cons _ (.cons _ (.cons_cons _ (.cons_cons _ (.cons_cons _ .slnil)))))))))))), exg (by kernel_rfl)⟩)
        | false =>
         have h := of_if_f h
         refine wpS.only 6 (op_call (d := (some 152)) (by kernel_rfl) hs (fun _ => by kernel_rfl) (ref01_Same.ok hg _ (hs.rowL 0 rfl) (hs.rowR 0 rfl)) ?_)
         intro w gw hs
         refine ⟨fun _ => trivial, ?_⟩
         refine wpS.ps [(7, 153, .bool true), (8, 154, .bool true)] (by kernel_rfl) ?_
         refine wpS.fin rfl (kr85 _ _ ?_)
         refine then_n (ks84 _ _ ?_)
         refine wp_cond_t (by kernel_rfl) ?_
         refine xseq_k fun KS86 ks86 => ?_
         refine wp_regS (l := [0]) (by kernel_rfl) (by kernel_rfl) fun KR87 kr87 => ?_
         refine wpS.p 0 8 (.bool false) (by kernel_rfl) ?_
         refine wpS.fin rfl (kr87 _ _ ?_)
         refine then_n (ks86 _ _ ?_)
         refine xret ?_
         have q0 := of_some h
         subst q0
         have h := hk_81
         refine exj_r ?_
         refine then_r ?_
         have q0 := of_some h
         subst q0
         exact qq _ _ (post_ret (by kernel_rfl) (run_results [.tmp 8] [.bool false] (by kernel_rfl) (.cons (res_tmp (by kernel_rfl)) .nil)) ⟨congrArg Ending.returned (by kernel_rfl), hs.none⟩)
       | false =>
        have h := of_if_f h
        refine wpS.p 5 145 (.bool false) (by kernel_rfl) ?_
        refine wpS.only 6 (op_alloc (t := 29) (d := (some 22)) (by kernel_rfl) hs ([.slice none 0 0, .slice none 0 0, .slice none 0 0, .slice none 0 0, .slice none 0 0, .slice none 0 0]) (.agg #[.slice none 0 0, .slice none 0 0, .slice none 0 0, .slice none 0 0, .slice none 0 0, .slice none 0 0]) (by kernel_rfl) (by kernel_rfl) (by kernel_rfl) ?_)
        intro b35 w gw hs
        refine ⟨fun _ => trivial, ?_⟩
        refine wpS.only 7 (op_storeW (t := 29) (v := .agg #[.slice r30_0_A r30_0_n r30_0_c, .slice r30_1_A r30_1_n r30_1_c, .slice r30_2_A r30_2_n r30_2_c, .slice r30_3_A r30_3_n r30_3_c, .slice r30_4_A r30_4_n r30_4_c, .slice r30_5_A r30_5_n r30_5_c]) (d := none) (by kernel_rfl) hs 0 rfl (vs := [.slice r30_0_A r30_0_n r30_0_c, .slice r30_1_A r30_1_n r30_1_c, .slice r30_2_A r30_2_n r30_2_c, .slice r30_3_A r30_3_n r30_3_c, .slice r30_4_A r30_4_n r30_4_c, .slice r30_5_A r30_5_n r30_5_c]) (n := 6) (by kernel_rfl) (by kernel_rfl) (by kernel_rfl) (by simp [enc_len]) (by simp [enc_len]) (by simp [Value.oneCell']) ?_)
        intro w kp hs
        refine ⟨fun _ => trivial, ?_⟩
        refine wpS.p 8 23 (.bool false) (by kernel_rfl) ?_
        refine wpS.fin rfl (kr83 _ _ ?_)
        refine then_n (ks82 _ _ ?_)
        refine xseq_k fun KS88 ks88 => ?_
        refine wp_regS (l := [0, 1, 2, 3, 4, 5, 6, 7, 8]) (by kernel_rfl) (by kernel_rfl) fun KR89 kr89 => ?_
        refine wpS.ps [(0, 146, .bool false), (1, 147, .bool false), (2, 148, undef), (3, 149, undef), (4, 150, undef), (5, 151, undef), (6, 152, undef), (7, 153, undef), (8, 154, .bool false)] (by kernel_rfl) ?_
        refine wpS.fin rfl (kr89 _ _ ?_)
        refine then_n (ks88 _ _ ?_)
        refine wp_cond_f (by kernel_rfl) ?_
        refine xskip ?_
        have q0 := of_some h
        subst q0
        exact exj_n (nj _ _ ⟨rfl, (hs.drop (.cons _ (.cons _ (.cons _ (.cons _ (.cons _ (.cons _ (.cons _ (.cons_cons _ (.cons_cons _ (.cons_cons _ .slnil))))))))))), exg (by kernel_rfl)⟩)
      ·clear hj hs
       rintro a w ⟨rfl, hs, g, rfl⟩
       have h := hk_81
       refine then_n (ks81 _ _ ?_)
       refine xseq_k fun KS90 ks90 => ?_
       refine wp_regS (l := [0, 1, 2, 3, 4, 5, 6, 7, 8]) (by kernel_rfl) (by kernel_rfl) fun KR91 kr91 => ?_
       refine wpS.take 0 true (some 156) (.agg #[.int .i64 r2_0, .int .i64 r2_1, .int .i32 r2_2, .int .i64 r2_3, .int .i32 r2_4, .int .i32 r2_5, .int .i64 r2_6, .int .i64 r2_7]) (by kernel_rfl) (yld_loadW (e := 23) (n := 8) hs 1 rfl (by kernel_rfl) (by kernel_rfl) (by kernel_rfl) (by simp [enc_len]) .grow) ?_
       refine wpS.p 1 157 (.slice a2_A a2_n a2_c) (by kernel_rfl) ?_
       obtain ⟨⟨r36_0, r36_1, r36_2, r37⟩, hg, h⟩ := of_bind h
       refine wpS.only 2 (op_callH (d := (some 158)) (by kernel_rfl) hs (fun _ => by kernel_rfl) (dpack_UnSig.ok hg _ (hs.rowR 0 rfl)) ?_)
       rintro ⟨⟨r36_0_A, r36_0_n, r36_0_c⟩, ⟨r36_1_A, r36_1_n, r36_1_c⟩, ⟨r36_2_A, r36_2_n, r36_2_c⟩⟩ w gw hs
       have hs := hs.conv (L' := [.ownL (CI .u8) r36_0_A r36_0_n r36_0_c r36_0 5, .ownL (CA .i32 256 (by decide)) r36_1_A r36_1_n r36_1_c r36_1 40, .ownL (CA .i32 256 (by decide)) r36_2_A r36_2_n r36_2_c r36_2 40, .ownL (CA .i32 2 (by decide)) s6_A s6_n s6_c ([(wr (wr (zeroA 2) 0 2) 1 2), (wr (wr (zeroA 2) 0 4095) 1 4096), (wr (wr (zeroA 2) 0 (-1)) 1 1023), (wr (wr (zeroA 2) 0 (isub .i32 r2_4 1)) 1 r2_4)] : List (Arr 2)) 63, .blk b3 ([.int .i64 r2_0, .int .i64 r2_1, .int .i32 r2_2, .int .i64 r2_3, .int .i32 r2_4, .int .i32 r2_5, .int .i64 r2_6, .int .i64 r2_7]) 23, .blk b1 (enc .i32 a1) 40]) rfl
       refine ⟨fun _ => trivial, ?_⟩
       refine wpS.ps [(3, 155, .tuple #[.agg #[.slice r36_0_A r36_0_n r36_0_c, .slice r36_1_A r36_1_n r36_1_c, .slice r36_2_A r36_2_n r36_2_c], .bool r37]), (4, 159, .agg #[.slice r36_0_A r36_0_n r36_0_c, .slice r36_1_A r36_1_n r36_1_c, .slice r36_2_A r36_2_n r36_2_c])] (by kernel_rfl) ?_
       cases r37 with
       | true =>
        have h := of_if_t h
        refine wpS.p 5 160 (.bool true) (by kernel_rfl) ?_
        refine wpS.only 6 (op_alloc (t := 31) (d := (some 24)) (by kernel_rfl) hs ([.slice none 0 0, .slice none 0 0, .slice none 0 0]) (.agg #[.slice none 0 0, .slice none 0 0, .slice none 0 0]) (by kernel_rfl) (by kernel_rfl) (by kernel_rfl) ?_)
        intro b38 w gw hs
        refine ⟨fun _ => trivial, ?_⟩
        refine wpS.only 7 (op_storeW (t := 31) (v := .agg #[.slice r36_0_A r36_0_n r36_0_c, .slice r36_1_A r36_1_n r36_1_c, .slice r36_2_A r36_2_n r36_2_c]) (d := none) (by kernel_rfl) hs 0 rfl (vs := [.slice r36_0_A r36_0_n r36_0_c, .slice r36_1_A r36_1_n r36_1_c, .slice r36_2_A r36_2_n r36_2_c]) (n := 3) (by kernel_rfl) (by kernel_rfl) (by kernel_rfl) (by simp [enc_len]) (by simp [enc_len]) (by simp [Value.oneCell']) ?_)
        intro w kp hs
        refine ⟨fun _ => trivial, ?_⟩
        refine wpS.p 8 25 (.bool true) (by kernel_rfl) ?_
        refine wpS.fin rfl (kr91 _ _ ?_)
        refine then_n (ks90 _ _ ?_)
        refine xseq_k fun KS92 ks92 => ?_
        refine wp_regS (l := [0, 1, 2, 3, 4, 5, 6, 7, 8, 9, 10, 11, 12]) (by kernel_rfl) (by kernel_rfl) fun KR93 kr93 => ?_
        refine wpS.ps [(0, 161, .bool true), (1, 162, .bool false), (2, 163, .bool false)] (by kernel_rfl) ?_
        refine wpS.take 3 true (some 164) (.agg #[.int .i64 r2_0, .int .i64 r2_1, .int .i32 r2_2, .int .i64 r2_3, .int .i32 r2_4, .int .i32 r2_5, .int .i64 r2_6, .int .i64 r2_7]) (by kernel_rfl) (yld_loadW (e := 23) (n := 8) hs 5 rfl (by kernel_rfl) (by kernel_rfl) (by kernel_rfl) (by simp [enc_len]) .grow) ?_
        refine wpS.take 4 true (some 165) (.agg #[.slice r36_0_A r36_0_n r36_0_c, .slice r36_1_A r36_1_n r36_1_c, .slice r36_2_A r36_2_n r36_2_c]) (by kernel_rfl) (yld_loadW (e := 31) (n := 3) hs 0 rfl (by kernel_rfl) (by kernel_rfl) (by kernel_rfl) (by simp [enc_len]) .grow) ?_
        obtain ⟨r39, hg, h⟩ := of_bind h
        refine wpS.only 5 (op_callH (d := (some 166)) (by kernel_rfl) hs (fun _ => by kernel_rfl) (dpack_Sig.ok hg _ (hs.rowL 1 rfl) (hs.rowL 2 rfl) (hs.rowL 3 rfl)) ?_)
        rintro ⟨r39_A, r39_n, r39_c⟩ w gw hs
        have hs := hs.conv (L' := [.ownL (CI .u8) r39_A r39_n r39_c r39 5, .blk b38 ([.slice r36_0_A r36_0_n r36_0_c, .slice r36_1_A r36_1_n r36_1_c, .slice r36_2_A r36_2_n r36_2_c]) 31, .ownL (CI .u8) r36_0_A r36_0_n r36_0_c r36_0 5, .ownL (CA .i32 256 (by decide)) r36_1_A r36_1_n r36_1_c r36_1 40, .ownL (CA .i32 256 (by decide)) r36_2_A r36_2_n r36_2_c r36_2 40, .ownL (CA .i32 2 (by decide)) s6_A s6_n s6_c ([(wr (wr (zeroA 2) 0 2) 1 2), (wr (wr (zeroA 2) 0 4095) 1 4096), (wr (wr (zeroA 2) 0 (-1)) 1 1023), (wr (wr (zeroA 2) 0 (isub .i32 r2_4 1)) 1 r2_4)] : List (Arr 2)) 63, .blk b3 ([.int .i64 r2_0, .int .i64 r2_1, .int .i32 r2_2, .int .i64 r2_3, .int .i32 r2_4, .int .i32 r2_5, .int .i64 r2_6, .int .i64 r2_7]) 23, .blk b1 (enc .i32 a1) 40]) rfl
        refine ⟨fun _ => trivial, ?_⟩
        refine wpS.p 6 167 (.slice a2_A a2_n a2_c) (by kernel_rfl) ?_
        obtain ⟨r40, hg, h⟩ := of_bind h
        cases r40 with
        | true =>
         have h := of_if_t h
         refine wpS.only 7 (op_call (d := (some 168)) (by kernel_rfl) hs (fun _ => by kernel_rfl) (ref01_Same.ok hg _ (hs.rowL 0 rfl) (hs.rowR 0 rfl)) ?_)
         intro w gw hs
         refine ⟨fun _ => trivial, ?_⟩
         refine wpS.ps [(8, 169, .bool true), (9, 170, .bool true)] (by kernel_rfl) ?_
         obtain ⟨r41, hg, h⟩ := of_bind h
         refine wpS.only 10 (op_call (d := (some 171)) (by kernel_rfl) hs (fun _ => by kernel_rfl) (law22_awake.ok hg _) ?_)
         intro w gw hs
         refine ⟨fun _ => trivial, ?_⟩
         refine wpS.ps [(11, 172, .bool r41), (12, 8, .bool r41)] (by kernel_rfl) ?_
         refine wpS.fin rfl (kr93 _ _ ?_)
         refine then_n (ks92 _ _ ?_)
         refine xret ?_
         have q0 := of_some h
         subst q0
         exact qq _ _ (post_ret (by kernel_rfl) (run_results [.tmp 8] [.bool r41] (by kernel_rfl) (.cons (res_tmp (by kernel_rfl)) .nil)) ⟨congrArg Ending.returned (by kernel_rfl), hs.none⟩)
        | false =>
         have h := of_if_f h
         refine wpS.only 7 (op_call (d := (some 168)) (by kernel_rfl) hs (fun _ => by kernel_rfl) (ref01_Same.ok hg _ (hs.rowL 0 rfl) (hs.rowR 0 rfl)) ?_)
         intro w gw hs
         refine ⟨fun _ => trivial, ?_⟩
         refine wpS.ps [(8, 169, .bool false), (9, 170, .bool false), (10, 171, undef), (11, 172, .bool false), (12, 8, .bool false)] (by kernel_rfl) ?_
         refine wpS.fin rfl (kr93 _ _ ?_)
         refine then_n (ks92 _ _ ?_)
         refine xret ?_
         have q0 := of_some h
         subst q0
         exact qq _ _ (post_ret (by kernel_rfl) (run_results [.tmp 8] [.bool false] (by kernel_rfl) (.cons (res_tmp (by kernel_rfl)) .nil)) ⟨congrArg Ending.returned (by kernel_rfl), hs.none⟩)
       | false =>
        have h := of_if_f h
        refine wpS.p 5 160 (.bool false) (by kernel_rfl) ?_
        refine wpS.only 6 (op_alloc (t := 31) (d := (some 24)) (by kernel_rfl) hs ([.slice none 0 0, .slice none 0 0, .slice none 0 0]) (.agg #[.slice none 0 0, .slice none 0 0, .slice none 0 0]) (by kernel_rfl) (by kernel_rfl) (by kernel_rfl) ?_)
        intro b42 w gw hs
        refine ⟨fun _ => trivial, ?_⟩
        refine wpS.only 7 (op_storeW (t := 31) (v := .agg #[.slice r36_0_A r36_0_n r36_0_c, .slice r36_1_A r36_1_n r36_1_c, .slice r36_2_A r36_2_n r36_2_c]) (d := none) (by kernel_rfl) hs 0 rfl (vs := [.slice r36_0_A r36_0_n r36_0_c, .slice r36_1_A r36_1_n r36_1_c, .slice r36_2_A r36_2_n r36_2_c]) (n := 3) (by kernel_rfl) (by kernel_rfl) (by kernel_rfl) (by simp [enc_len]) (by simp [enc_len]) (by simp [Value.oneCell']) ?_)
        intro w kp hs
        refine ⟨fun _ => trivial, ?_⟩
        refine wpS.p 8 25 (.bool false) (by kernel_rfl) ?_
        refine wpS.fin rfl (kr91 _ _ ?_)
        refine then_n (ks90 _ _ ?_)
        refine xseq_k fun KS94 ks94 => ?_
        refine wp_regS (l := [0, 1, 2, 3, 4, 5, 6, 7, 8, 9, 10, 11, 12]) (by kernel_rfl) (by kernel_rfl) fun KR95 kr95 => ?_
        refine wpS.ps [(0, 161, .bool false), (1, 162, .bool true), (2, 163, .bool true), (3, 164, undef), (4, 165, undef), (5, 166, undef), (6, 167, undef), (7, 168, undef), (8, 169, .bool true), (9, 170, .bool true)] (by kernel_rfl) ?_
        obtain ⟨r43, hg, h⟩ := of_bind h
        refine wpS.only 10 (op_call (d := (some 171)) (by kernel_rfl) hs (fun _ => by kernel_rfl) (law22_awake.ok hg _) ?_)
        intro w gw hs
        refine ⟨fun _ => trivial, ?_⟩
        refine wpS.ps [(11, 172, .bool r43), (12, 8, .bool r43)] (by kernel_rfl) ?_
        refine wpS.fin rfl (kr95 _ _ ?_)
        refine then_n (ks94 _ _ ?_)
        refine xret ?_
        have q0 := of_some h
        subst q0
        exact qq _ _ (post_ret (by kernel_rfl) (run_results [.tmp 8] [.bool r43] (by kernel_rfl) (.cons (res_tmp (by kernel_rfl)) .nil)) ⟨congrArg Ending.returned (by kernel_rfl), hs.none⟩)
end Go.Proofs.Ytblploekkjeolaa
