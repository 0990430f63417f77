/- Printed by this work's own program: the code of each function below comes to the answer that its plain form tells. -/
import Derived.Test.YtmpagpbnpgcecaaMd
import Derived.Test.YtmpagpbnpgcecaaProg
import Derived.Test.YtmpagpbnpgcecaaGF0
import Derived.Test.YtmpagpbnpgcecaaGX0
import Derived.Test.YtmpagpbnpgcecaaGX2
import Derived.Test.YtmpagpbnpgcecaaGX3
import Derived.Test.YtmpagpbnpgcecaaGX7
set_option linter.unusedVariables false
set_option linter.unusedSimpArgs false
set_option maxRecDepth 100000
set_option maxHeartbeats 4000000
namespace Go.Proofs.Ytmpagpbnpgcecaa
open Go.Mx
attribute [local irreducible] wpOp

theorem gcm_stream.ok {K : Nat} {a0 : List Int} {a1 : List Int} {a2 : List Int} {r0 : List Int} {r1 : List Int} {a0_A : Option Addr} {a0_n : Nat} {a0_c : Nat} {a1_A : Option Addr} {a1_n : Nat} {a1_c : Nat} {a2_A : Option Addr} {a2_n : Nat} {a2_c : Nat} (h : gcm_stream.f K a0 a1 a2 = some (r0, r1)) (w0 : World) (hp0 : RowL (CI .u8) w0 a0_A a0_n a0_c a0) (hp1 : RowL (CI .u8) w0 a1_A a1_n a1_c a1) (hp2 : RowL (CI .u8) w0 a2_A a2_n a2_c a2) : Calls Try.prog 66 #[.slice a0_A a0_n a0_c, .slice a1_A a1_n a1_c, .slice a2_A a2_n a2_c] w0 fun e w' => ∃ h : (Option Addr × Nat × Nat) × (Option Addr × Nat × Nat), e = .returned (.tuple #[.slice h.1.1 h.1.2.1 h.1.2.2, .slice h.2.1 h.2.2.1 h.2.2.2]) ∧ St w0 [] [.ownL (CI .u8) h.1.1 h.1.2.1 h.1.2.2 r0 5, .rowL (CI .u8) h.2.1 h.2.2.1 h.2.2.2 r1] [] w' := by
 refine calls_m Try.func66 rfl fun Q qq qn => ?_
 have hs := St.startR (all_cons (RowP.ent hp0) (all_cons (RowP.ent hp1) (all_cons (RowP.ent hp2) all_nil)))
 refine wp_conv (a' := ⟨#[.slice a0_A a0_n a0_c, .slice a1_A a1_n a1_c, .slice a2_A a2_n a2_c, undef, undef, undef, undef, undef, undef, undef, undef, undef, undef, undef, undef, undef, undef, undef, undef, undef, undef, undef, undef, undef, undef, undef, undef, undef, undef, undef, undef, undef, undef, undef, undef, undef, undef, undef, undef], []⟩) (by kernel_rfl) ?_
 refine xseq_k fun KS1 ks1 => ?_
 refine xregS [0, 1, 2] fun KR2 kr2 => ?_
 refine wpS.only 0 (op_box (t := 26) (v := .slice a2_A a2_n a2_c) (d := (some 5)) (by kernel_rfl) hs ([.slice a2_A a2_n a2_c]) (by kernel_rfl) (by kernel_rfl) ?_)
 intro b1 w gw hs
 refine ⟨fun _ => trivial, ?_⟩
 refine wpS.only 1 (op_alloc (t := 26) (d := (some 6)) (by kernel_rfl) hs ([.slice none 0 0]) (.slice none 0 0) (by kernel_rfl) (by kernel_rfl) (by kernel_rfl) ?_)
 intro b2 w gw hs
 refine ⟨fun _ => trivial, ?_⟩
 refine wpS.only 2 (op_alloc (t := 26) (d := (some 7)) (by kernel_rfl) hs ([.slice none 0 0]) (.slice none 0 0) (by kernel_rfl) (by kernel_rfl) (by kernel_rfl) ?_)
 intro b3 w gw hs
 refine ⟨fun _ => trivial, ?_⟩
 refine wpS.fin rfl (kr2 _ _ (then_n (ks1 _ _ (xseq_k fun KS3 ks3 => (xregS [0, 1, 2, 3, 4] fun KR4 kr4 => ?_)))))
 refine wpS.tk 0 true (some 10) (.slice a2_A a2_n a2_c) (yld_load1 (e := 26) (o := 0) hs 2 rfl (by kernel_rfl) (by kernel_rfl) (by rfl) .grow) ?_
 refine wpS.tk 1 false (some 11) (.int .i64 (a2.length : Int)) (yld_lenL (hs.rowR 2 rfl) (fun _ => by kernel_rfl)) ?_
 refine wpS.q 2 12 (.int .i64 (iadd .i64 (a2.length : Int) 16)) ?_
 obtain ⟨h0, h⟩ := of_chk h
 obtain ⟨h1, h⟩ := of_chk h
 refine wpS.only 3 (op_makeT0 (C := (CI .u8)) (t := 26) (e := 5) (bytes := 1) (B := 140737488355328) (kl := .i64) (kc := .i64) (x := (iadd .i64 (a2.length : Int) 16)) (d := (some 13)) (by kernel_rfl) hs (by kernel_rfl) (by kernel_rfl) (by kernel_rfl) (by kernel_rfl) (by kernel_rfl) h0 h1 (by decide) (by decide) ?_)
 intro s4_A s4_n s4_c w gw hs
 refine ⟨fun _ => trivial, ?_⟩
 refine wpS.only 4 (op_store1 (t := 26) (o := 0) (v := .slice s4_A s4_n s4_c) (d := none) (by kernel_rfl) hs 2 rfl (by kernel_rfl) rfl (by kernel_rfl) (by simp) ?_)
 intro w kp hs
 refine ⟨fun _ => trivial, ?_⟩
 refine wpS.fin rfl (kr4 _ _ (then_n (ks3 _ _ ?_)))
 have hs := hs.addNilN (CI .u8)
 obtain ⟨⟨y6, y10, y11⟩, hj, h⟩ := of_bind h
 refine xseq_k fun KS6 ks6 => wp_join (N := fun a w => ∃ (D5 : Nat) (y6_A : Option Addr) (y6_n : Nat) (y6_c : Nat) (y10_A : Option Addr) (y10_n : Nat) (y10_c : Nat) (y11_A : Option Addr) (y11_n : Nat) (y11_c : Nat), St w0 [] [.obj D5 (.deferred (some [])), .ownL (CI .u8) y6_A y6_n y6_c y6 5, .blk b3 ([.slice y10_A y10_n y10_c]) 26, .blk b2 ([.slice y6_A y6_n y6_c]) 26, .blk b1 ([.slice y11_A y11_n y11_c]) 26] [.rowL (CI .u8) y11_A y11_n y11_c y11, .rowN (Fr w0) (CI .u8) y10_A y10_n y10_c y10, .rowN (Fr w0) (CI .u8) none 0 0 ([] : List Int), .rowL (CI .u8) a0_A a0_n a0_c a0, .rowL (CI .u8) a1_A a1_n a1_c a1, .rowL (CI .u8) a2_A a2_n a2_c a2] w ∧ ∃ g5 : Nat → Value, a = ⟨#[.slice a0_A a0_n a0_c, .slice a1_A a1_n a1_c, .slice a2_A a2_n a2_c, undef, undef, .pointer (some ⟨b1, 0, none⟩), .pointer (some ⟨b2, 0, none⟩), .pointer (some ⟨b3, 0, none⟩), (g5 8), (g5 9), .slice a2_A a2_n a2_c, .int .i64 (a2.length : Int), .int .i64 (iadd .i64 (a2.length : Int) 16), .slice s4_A s4_n s4_c, (g5 14), (g5 15), (g5 16), (g5 17), (g5 18), (g5 19), (g5 20), (g5 21), (g5 22), (g5 23), (g5 24), (g5 25), (g5 26), (g5 27), (g5 28), (g5 29), (g5 30), (g5 31), (g5 32), (g5 33), (g5 34), (g5 35), (g5 36), undef, undef], [lmark D5]⟩) (fun N nj => ?_) ?_
 ·clear h
  have h := hj
  refine xseq_k fun KS7 ks7 => ?_
  refine xregS [0, 1, 2] fun KR8 kr8 => ?_
  refine wpS.qs [(0, 14, .slice a0_A a0_n a0_c), (1, 15, .slice a1_A a1_n a1_c)] ?_
  refine wpS.only 2 (op_inline (d := (some 16)) (f := 99) (args := #[.slice a0_A a0_n a0_c, .slice a1_A a1_n a1_c]) (by kernel_rfl) (fun _ => by kernel_rfl) fun R9 kI9 => ?_)
  refine calls_k Try.func99 rfl fun Q9 qq9 => ?_
  refine wp_conv (a' := ⟨#[.slice a0_A a0_n a0_c, .slice a1_A a1_n a1_c, undef, undef, undef, undef], []⟩) (by kernel_rfl) ?_
  refine xseq_k fun KS10 ks10 => ?_
  refine xregS [0, 1, 2] fun KR11 kr11 => ?_
  refine wpS.only 0 (op_box (t := 26) (v := .slice a0_A a0_n a0_c) (d := (some 2)) (by kernel_rfl) hs ([.slice a0_A a0_n a0_c]) (by kernel_rfl) (by kernel_rfl) ?_)
  intro b12 w gw hs
  refine ⟨fun _ => trivial, ?_⟩
  refine wpS.only 1 (op_box (t := 26) (v := .slice a1_A a1_n a1_c) (d := (some 3)) (by kernel_rfl) hs ([.slice a1_A a1_n a1_c]) (by kernel_rfl) (by kernel_rfl) ?_)
  intro b13 w gw hs
  refine ⟨fun _ => trivial, ?_⟩
  refine wpS.q 2 4 (.nilFunc) ?_
  refine wpS.fin rfl (kr11 _ _ (then_n (ks10 _ _ (xseq_k fun KS12 ks12 => (xregS [0, 1] fun KR13 kr13 => ?_)))))
  refine wpS.qs [(0, 5, .func (.func 112) #[] #[.pointer (some ⟨b12, 0, none⟩), .pointer (some ⟨b13, 0, none⟩)]), (1, 4, .func (.func 112) #[] #[.pointer (some ⟨b12, 0, none⟩), .pointer (some ⟨b13, 0, none⟩)])] ?_
  refine wpS.fin rfl (kr13 _ _ (then_n (ks12 _ _ (xret ?_))))
  refine qq9 _ _ (post_ret (by kernel_rfl) (run_results [.tmp 4] [.func (.func 112) #[] #[.pointer (some ⟨b12, 0, none⟩), .pointer (some ⟨b13, 0, none⟩)]] (by kernel_rfl) (.cons (res_tmp (by kernel_rfl)) .nil)) ?_)
  refine kI9 _ _ ?_
  refine ⟨fun _ => trivial, ?_⟩
  refine wpS.fin rfl (kr8 _ _ (then_n (ks7 _ _ (xblock ?_))))
  refine wp_range (gf := 112) (lb := #[.pointer (some ⟨b12, 0, none⟩), .pointer (some ⟨b13, 0, none⟩)]) hs (by kernel_rfl) (fun _ _ => by kernel_rfl) fun l14 D14 rec14 w hok14 hs R14 kR14 => ?_
  refine calls_kn Try.func112 rfl fun Q14 qq14 qn14 => ?_
  refine wp_conv (a' := ⟨#[.func (.yield l14) #[] #[], .pointer (some ⟨b12, 0, none⟩), .pointer (some ⟨b13, 0, none⟩), undef, undef, undef, undef, undef, undef, undef, undef, undef, undef, undef, undef, undef, undef, undef, undef, undef, undef, undef, undef], []⟩) (by kernel_rfl) ?_
  refine xseq_k fun KS15 ks15 => ?_
  refine xregS [0] fun KR16 kr16 => ?_
  refine wpS.q 0 4 (.int .u64 1) ?_
  refine wpS.fin rfl (kr16 _ _ (then_n (ks15 _ _ ?_)))
  obtain ⟨t0, hy, hk0⟩ := of_bind h
  refine wp_exq (N := fun a w => ∃ y21, ∃ (y21_A : Option Addr) (y21_n : Nat) (y21_c : Nat), t0 = .inl y21 ∧ St w0 [] [.obj l14 (.loop (rec14 .ready none)), .obj D14 (.deferred (some [])), .blk b13 ([.slice a1_A a1_n a1_c]) 26, .blk b12 ([.slice a0_A a0_n a0_c]) 26, .ownL (CI .u8) y21_A y21_n y21_c y21 5, .blk b3 ([.slice none 0 0]) 26, .blk b2 ([.slice y21_A y21_n y21_c]) 26, .blk b1 ([.slice a2_A a2_n a2_c]) 26] [.rowN (Fr w0) (CI .u8) none 0 0 ([] : List Int), .rowL (CI .u8) a0_A a0_n a0_c a0, .rowL (CI .u8) a1_A a1_n a1_c a1, .rowL (CI .u8) a2_A a2_n a2_c a2] w ∧ ∃ g18 : Nat → Value, a = ⟨#[.func (.yield l14) #[] #[], .pointer (some ⟨b12, 0, none⟩), .pointer (some ⟨b13, 0, none⟩), undef, (g18 4), (g18 5), (g18 6), (g18 7), (g18 8), (g18 9), (g18 10), (g18 11), (g18 12), (g18 13), (g18 14), (g18 15), (g18 16), (g18 17), (g18 18), (g18 19), (g18 20), (g18 21), (g18 22)], []⟩) (fun N0 nn0 => ?_) ?_
  ·refine xblock ?_
   refine wp_loop_k (fun n a w => ∃ z14 z15 z19 z20, ∃ (z15_A : Option Addr) (z15_n : Nat) (z15_c : Nat) (z19_A : Option Addr) (z19_n : Nat) (z19_c : Nat) (z20_A : Option Addr) (z20_n : Nat) (z20_c : Nat), gcm_stream.l0 K n a0 a1 z14 z15 z19 z20 = some t0 ∧ St w0 [] [.obj l14 (.loop (rec14 .ready none)), .obj D14 (.deferred (some [])), .blk b13 ([.slice a1_A a1_n a1_c]) 26, .blk b12 ([.slice a0_A a0_n a0_c]) 26, .ownL (CI .u8) z15_A z15_n z15_c z15 5, .blk b3 ([.slice z19_A z19_n z19_c]) 26, .blk b2 ([.slice z15_A z15_n z15_c]) 26, .blk b1 ([.slice z20_A z20_n z20_c]) 26] [.rowL (CI .u8) z20_A z20_n z20_c z20, .rowN (Fr w0) (CI .u8) z19_A z19_n z19_c z19, .rowN (Fr w0) (CI .u8) none 0 0 ([] : List Int), .rowL (CI .u8) a0_A a0_n a0_c a0, .rowL (CI .u8) a1_A a1_n a1_c a1, .rowL (CI .u8) a2_A a2_n a2_c a2] w ∧ ∃ g17 : Nat → Value, a = ⟨#[.func (.yield l14) #[] #[], .pointer (some ⟨b12, 0, none⟩), .pointer (some ⟨b13, 0, none⟩), undef, .int .u64 z14, (g17 5), (g17 6), (g17 7), (g17 8), (g17 9), (g17 10), (g17 11), (g17 12), (g17 13), (g17 14), (g17 15), (g17 16), (g17 17), (g17 18), (g17 19), (g17 20), (g17 21), (g17 22)], []⟩) K ⟨1, ([] : List Int), ([] : List Int), a2, s4_A, s4_n, s4_c, none, 0, 0, a2_A, a2_n, a2_c, hy, (hs.conv (L' := [.obj l14 (.loop (rec14 .ready none)), .obj D14 (.deferred (some [])), .blk b13 ([.slice a1_A a1_n a1_c]) 26, .blk b12 ([.slice a0_A a0_n a0_c]) 26, .ownL (CI .u8) s4_A s4_n s4_c ([] : List Int) 5, .blk b3 ([.slice none 0 0]) 26, .blk b2 ([.slice s4_A s4_n s4_c]) 26, .blk b1 ([.slice a2_A a2_n a2_c]) 26]) rfl).pickR (pick_cons 3 rfl (pick_cons 0 rfl (pick_cons 0 rfl (pick_cons 1 rfl (pick_cons 2 rfl (pick_cons 3 rfl pick_nil)))))), exg (by kernel_rfl)⟩ ?_
   clear hs h hy
   rintro n a w ⟨z14, z15, z19, z20, z15_A, z15_n, z15_c, z19_A, z19_n, z19_c, z20_A, z20_n, z20_c, h, hs, g17, rfl⟩ KL0 kl0
   cases n with
   | zero => exact nomatch (show none = some _ from h)
   | succ n =>
    refine xseq_k fun KS19 ks19 => ?_
    refine xblock (xseq_k fun KS20 ks20 => ?_)
    refine wp_regG [] (fun k => True) 12 (by kernel_rfl) (by kernel_rfl) (by kernel_rfl) fun KR21 kr21 => ?_
    have hs := hs.drawn1
    refine wpG.tD 0 true (some 10) (.slice a0_A a0_n a0_c) (yld_load1 (e := 26) (o := 0) hs 3 rfl (by kernel_rfl) (by kernel_rfl) (by rfl) .grow) ?_
    refine wpG.tD 1 true (some 11) (.slice a1_A a1_n a1_c) (yld_load1 (e := 26) (o := 0) hs 2 rfl (by kernel_rfl) (by kernel_rfl) (by rfl) .grow) ?_
    refine wpG.q 2 12 (.int .u64 z14) ?_
    obtain ⟨r25, hg, h⟩ := of_bind h
    refine wpG.only 3 (by kernel_rfl) (op_callH (d := (some 13)) (by kernel_rfl) hs (fun _ => by kernel_rfl) (bits_Be.ok hg _) ?_)
    rintro ⟨r25_A, r25_n, r25_c⟩ w gw hs
    have hs := hs.conv (L' := [.ownL (CI .u8) r25_A r25_n r25_c r25 5, .obj l14 (.loop (rec14 .ready none)), .obj D14 (.deferred (some [])), .blk b13 ([.slice a1_A a1_n a1_c]) 26, .blk b12 ([.slice a0_A a0_n a0_c]) 26, .ownL (CI .u8) z15_A z15_n z15_c z15 5, .blk b3 ([.slice z19_A z19_n z19_c]) 26, .blk b2 ([.slice z15_A z15_n z15_c]) 26, .blk b1 ([.slice z20_A z20_n z20_c]) 26]) rfl
    refine ⟨.of gw, ?_⟩
    refine wpG.only 4 (by kernel_rfl) (op_lit (C := CS) (t := 44) (e := 26) (len := 2) (parts := #[(0, .slice a1_A a1_n a1_c), (1, .slice r25_A r25_n r25_c)]) (l := ([(a1_A, a1_n, a1_c), (r25_A, r25_n, r25_c)] : List HS)) (d := (some 14)) (by kernel_rfl) hs (by kernel_rfl) (by kernel_rfl) (by kernel_rfl) (z := .slice none 0 0) (by kernel_rfl) rfl (by decide) (by decide) (by kernel_rfl) ?_)
    intro s26_A s26_n s26_c w gw hs
    refine ⟨.of gw, ?_⟩
    obtain ⟨r27, hg, h⟩ := of_bind h
    refine wpG.only 5 (by kernel_rfl) (op_callH (d := (some 15)) (by kernel_rfl) hs (fun _ => by kernel_rfl) (bits_Join.ok hg _ (LLP.mk (hs.rowL 0 rfl) (inn_cons (hs.rowR 4 rfl) (inn_cons (hs.rowL 1 rfl) inn_nil)))) ?_)
    rintro ⟨r27_A, r27_n, r27_c⟩ w gw hs
    have hs := hs.conv (L' := [.ownL (CI .u8) r27_A r27_n r27_c r27 5, .ownL CS s26_A s26_n s26_c ([(a1_A, a1_n, a1_c), (r25_A, r25_n, r25_c)] : List HS) 26, .ownL (CI .u8) r25_A r25_n r25_c r25 5, .obj l14 (.loop (rec14 .ready none)), .obj D14 (.deferred (some [])), .blk b13 ([.slice a1_A a1_n a1_c]) 26, .blk b12 ([.slice a0_A a0_n a0_c]) 26, .ownL (CI .u8) z15_A z15_n z15_c z15 5, .blk b3 ([.slice z19_A z19_n z19_c]) 26, .blk b2 ([.slice z15_A z15_n z15_c]) 26, .blk b1 ([.slice z20_A z20_n z20_c]) 26]) rfl
    refine ⟨.of gw, ?_⟩
    obtain ⟨⟨r28, r29⟩, hg, h⟩ := of_bind h
    refine wpG.only 6 (by kernel_rfl) (op_callH (d := (some 16)) (by kernel_rfl) hs (fun _ => by kernel_rfl) (aes_Block.ok hg _ (hs.rowR 3 rfl) (hs.rowL 0 rfl)) ?_)
    rintro ⟨r28_A, r28_n, r28_c⟩ w gw hs
    have hs := hs.conv (L' := [.rowL (CI .u8) r28_A r28_n r28_c r28, .ownL (CI .u8) r27_A r27_n r27_c r27 5, .ownL CS s26_A s26_n s26_c ([(a1_A, a1_n, a1_c), (r25_A, r25_n, r25_c)] : List HS) 26, .ownL (CI .u8) r25_A r25_n r25_c r25 5, .obj l14 (.loop (rec14 .ready none)), .obj D14 (.deferred (some [])), .blk b13 ([.slice a1_A a1_n a1_c]) 26, .blk b12 ([.slice a0_A a0_n a0_c]) 26, .ownL (CI .u8) z15_A z15_n z15_c z15 5, .blk b3 ([.slice z19_A z19_n z19_c]) 26, .blk b2 ([.slice z15_A z15_n z15_c]) 26, .blk b1 ([.slice z20_A z20_n z20_c]) 26]) rfl
    obtain ⟨hs, hfr22⟩ := hs.toRF 0 rfl
    refine ⟨.of gw, ?_⟩
    refine wpG.q 7 9 (.tuple #[.slice r28_A r28_n r28_c, .int .i64 r29]) ?_
    refine wpG.q 8 17 (.slice r28_A r28_n r28_c) ?_
    refine wpG.q 9 18 (.int .i64 r29) ?_
    refine wpG.q 10 5 (.slice r28_A r28_n r28_c) ?_
    refine wpG.q 11 6 (.int .i64 r29) ?_
    refine wpG.fin (by kernel_rfl) rfl (kr21 _ _ ?_)
    refine then_n (ks20 _ _ (xseq_k fun KS23 ks23 => (xregS [0, 1, 2, 3] fun KR24 kr24 => ?_)))
    refine wpS.qs [(0, 19, .func (.yield l14) #[] #[]), (1, 20, .slice r28_A r28_n r28_c)] ?_
    refine wpS.onlyR 2 (op_yield (d := (some 21)) (by kernel_rfl) hs 3 rfl hok14 #[.slice r28_A r28_n r28_c] (by kernel_rfl) rfl (tm := #[.slice a0_A a0_n a0_c, .slice a1_A a1_n a1_c, .slice a2_A a2_n a2_c, undef, undef, .pointer (some ⟨b1, 0, none⟩), .pointer (some ⟨b2, 0, none⟩), .pointer (some ⟨b3, 0, none⟩), undef, undef, .slice a2_A a2_n a2_c, .int .i64 (a2.length : Int), .int .i64 (iadd .i64 (a2.length : Int) 16), .slice s4_A s4_n s4_c, .slice a0_A a0_n a0_c, .slice a1_A a1_n a1_c, .func (.func 112) #[] #[.pointer (some ⟨b12, 0, none⟩), .pointer (some ⟨b13, 0, none⟩)], .slice r28_A r28_n r28_c, undef, undef, undef, undef, undef, undef, undef, undef, undef, undef, undef, undef, undef, undef, undef, undef, undef, undef, undef, undef, undef]) (by kernel_rfl) (by kernel_rfl) fun K25 k25 => ?_)
    refine xregS [0] fun KR26 kr26 => ?_
    refine wpS.q 0 8 (.slice r28_A r28_n r28_c) ?_
    refine wpS.fin rfl (kr26 _ _ (then_n (k25 _ _ 3 _ _ hs rfl fun w Qr25 hs qr25 => ?_)))
    try dsimp only [List.set] at hs
    refine xblock ?_
    obtain ⟨⟨y30, y34, y35⟩, hj, h⟩ := of_bind h
    refine xseq_k fun KS28 ks28 => wp_join (N := fun a w => ∃ (y30_A : Option Addr) (y30_n : Nat) (y30_c : Nat) (y34_A : Option Addr) (y34_n : Nat) (y34_c : Nat) (y35_A : Option Addr) (y35_n : Nat) (y35_c : Nat), St w0 [] [.ownL (CI .u8) r27_A r27_n r27_c r27 5, .ownL CS s26_A s26_n s26_c ([(a1_A, a1_n, a1_c), (r25_A, r25_n, r25_c)] : List HS) 26, .ownL (CI .u8) r25_A r25_n r25_c r25 5, .obj l14 (.loop (rec14 .busy none)), .obj D14 (.deferred (some [])), .blk b13 ([.slice a1_A a1_n a1_c]) 26, .blk b12 ([.slice a0_A a0_n a0_c]) 26, .ownL (CI .u8) y30_A y30_n y30_c y30 5, .blk b3 ([.slice y34_A y34_n y34_c]) 26, .blk b2 ([.slice y30_A y30_n y30_c]) 26, .blk b1 ([.slice y35_A y35_n y35_c]) 26] [.rowL (CI .u8) y35_A y35_n y35_c y35, .rowN (Fr w0) (CI .u8) y34_A y34_n y34_c y34, .rowF (Ent.rowL (CI .u8) r28_A r28_n r28_c r28).foot (CI .u8) r28_A r28_n r28_c r28, .rowL (CI .u8) z20_A z20_n z20_c z20, .rowN (Fr w0) (CI .u8) z19_A z19_n z19_c z19, .rowN (Fr w0) (CI .u8) none 0 0 ([] : List Int), .rowL (CI .u8) a0_A a0_n a0_c a0, .rowL (CI .u8) a1_A a1_n a1_c a1, .rowL (CI .u8) a2_A a2_n a2_c a2] w ∧ ∃ g27 : Nat → Value, a = ⟨#[.slice a0_A a0_n a0_c, .slice a1_A a1_n a1_c, .slice a2_A a2_n a2_c, undef, undef, .pointer (some ⟨b1, 0, none⟩), .pointer (some ⟨b2, 0, none⟩), .pointer (some ⟨b3, 0, none⟩), .slice r28_A r28_n r28_c, (g27 9), .slice a2_A a2_n a2_c, .int .i64 (a2.length : Int), .int .i64 (iadd .i64 (a2.length : Int) 16), .slice s4_A s4_n s4_c, .slice a0_A a0_n a0_c, .slice a1_A a1_n a1_c, .func (.func 112) #[] #[.pointer (some ⟨b12, 0, none⟩), .pointer (some ⟨b13, 0, none⟩)], .slice r28_A r28_n r28_c, (g27 18), (g27 19), (g27 20), (g27 21), (g27 22), (g27 23), (g27 24), (g27 25), (g27 26), (g27 27), (g27 28), (g27 29), (g27 30), (g27 31), (g27 32), (g27 33), undef, undef, undef, undef, undef], []⟩) (fun N nj => ?_) ?_
    ·clear h
     have h := hj
     refine xseq_k fun KS29 ks29 => ?_
     refine xregS [0, 1] fun KR30 kr30 => ?_
     refine wpS.tk 0 true (some 18) (.slice z19_A z19_n z19_c) (yld_load1 (e := 26) (o := 0) hs 8 rfl (by kernel_rfl) (by kernel_rfl) (by rfl) .grow) ?_
     rcases of_ifb h with ⟨hc, h⟩ | ⟨hc, h⟩
     ·refine wpS.tk 1 false (some 19) (.bool true) (yld_bb hc (yld_nilS (t := 26) (e := 5) (C := (CI .u8)) (.tmp 18) (.const (.slice none 0 0)) (hs.rowN 2 rfl) (hs.neN 2 rfl) (by kernel_rfl) (by kernel_rfl) (by kernel_rfl))) ?_
      refine wpS.fin rfl (kr30 _ _ (then_n (ks29 _ _ (wp_cond_t (by kernel_rfl) (xregS [0, 1] fun KR31 kr31 => ?_)))))
      refine wpS.q 0 20 (.slice r28_A r28_n r28_c) ?_
      obtain ⟨hne32, h⟩ := of_chk h
      have hs := hs.toN 0 rfl hfr22 (fun hl => absurd (by rw [hl]; rfl) hne32)
      refine wpS.only 1 (op_store1 (t := 26) (o := 0) (v := .slice r28_A r28_n r28_c) (d := none) (by kernel_rfl) hs 8 rfl (by kernel_rfl) rfl (by kernel_rfl) (by simp) ?_)
      intro w kp hs
      refine ⟨fun _ => trivial, ?_⟩
      refine wpS.fin rfl (kr31 _ _ ?_)
      obtain ⟨q0, qr0⟩ := Prod.mk.inj (of_some h)
      obtain ⟨q1, qr1⟩ := Prod.mk.inj (qr0)
      have q2 := qr1
      subst q0
      subst q1
      subst q2
      exact nj _ _ ⟨z15_A, z15_n, z15_c, r28_A, r28_n, r28_c, z20_A, z20_n, z20_c, (hs.pickR (pick_cons 2 rfl (pick_cons 0 rfl (pick_cons 1 rfl (pick_cons 2 rfl (pick_cons 3 rfl (pick_cons 4 rfl (pick_cons 5 rfl (pick_cons 6 rfl (pick_cons 7 rfl pick_nil)))))))))), exg (by kernel_rfl)⟩
     refine wpS.tk 1 false (some 19) (.bool false) (yld_bb hc (yld_nilS (t := 26) (e := 5) (C := (CI .u8)) (.tmp 18) (.const (.slice none 0 0)) (hs.rowN 2 rfl) (hs.neN 2 rfl) (by kernel_rfl) (by kernel_rfl) (by kernel_rfl))) ?_
     refine wpS.fin rfl (kr30 _ _ (then_n (ks29 _ _ (wp_cond_f (by kernel_rfl) (xseq_k fun KS33 ks33 => (xregS [0, 1, 2, 3] fun KR34 kr34 => ?_))))))
     refine wpS.tk 0 true (some 21) (.slice z20_A z20_n z20_c) (yld_load1 (e := 26) (o := 0) hs 10 rfl (by kernel_rfl) (by kernel_rfl) (by rfl) .grow) ?_
     refine wpS.tk 1 false (some 22) (.int .i64 (z20.length : Int)) (yld_lenL (hs.rowR 1 rfl) (fun _ => by kernel_rfl)) ?_
     refine wpS.q 2 23 (.int .i64 (imin 16 (z20.length : Int))) ?_
     obtain ⟨x36, hx, h⟩ := of_bind h
     refine wpS.tk 3 false (some 9) (.int .i64 x36) (yld_int hx (fun _ => by kernel_rfl)) ?_
     refine wpS.fin rfl (kr34 _ _ (then_n (ks33 _ _ ?_)))
     obtain ⟨⟨y37, y40⟩, hj, h⟩ := of_bind h
     refine wp_join (N := fun a w => ∃ (y37_A : Option Addr) (y37_n : Nat) (y37_c : Nat) (y40_A : Option Addr) (y40_n : Nat) (y40_c : Nat), St w0 [] [.ownL (CI .u8) r27_A r27_n r27_c r27 5, .ownL CS s26_A s26_n s26_c ([(a1_A, a1_n, a1_c), (r25_A, r25_n, r25_c)] : List HS) 26, .ownL (CI .u8) r25_A r25_n r25_c r25 5, .obj l14 (.loop (rec14 .busy none)), .obj D14 (.deferred (some [])), .blk b13 ([.slice a1_A a1_n a1_c]) 26, .blk b12 ([.slice a0_A a0_n a0_c]) 26, .ownL (CI .u8) y37_A y37_n y37_c y37 5, .blk b3 ([.slice z19_A z19_n z19_c]) 26, .blk b2 ([.slice y37_A y37_n y37_c]) 26, .blk b1 ([.slice y40_A y40_n y40_c]) 26] [.rowL (CI .u8) y40_A y40_n y40_c y40, .rowF (Ent.rowL (CI .u8) r28_A r28_n r28_c r28).foot (CI .u8) r28_A r28_n r28_c r28, .rowL (CI .u8) z20_A z20_n z20_c z20, .rowN (Fr w0) (CI .u8) z19_A z19_n z19_c z19, .rowN (Fr w0) (CI .u8) none 0 0 ([] : List Int), .rowL (CI .u8) a0_A a0_n a0_c a0, .rowL (CI .u8) a1_A a1_n a1_c a1, .rowL (CI .u8) a2_A a2_n a2_c a2] w ∧ ∃ g35 : Nat → Value, a = ⟨#[.slice a0_A a0_n a0_c, .slice a1_A a1_n a1_c, .slice a2_A a2_n a2_c, undef, undef, .pointer (some ⟨b1, 0, none⟩), .pointer (some ⟨b2, 0, none⟩), .pointer (some ⟨b3, 0, none⟩), .slice r28_A r28_n r28_c, .int .i64 x36, .slice a2_A a2_n a2_c, .int .i64 (a2.length : Int), .int .i64 (iadd .i64 (a2.length : Int) 16), .slice s4_A s4_n s4_c, .slice a0_A a0_n a0_c, .slice a1_A a1_n a1_c, .func (.func 112) #[] #[.pointer (some ⟨b12, 0, none⟩), .pointer (some ⟨b13, 0, none⟩)], .slice r28_A r28_n r28_c, .slice z19_A z19_n z19_c, .bool false, undef, .slice z20_A z20_n z20_c, .int .i64 (z20.length : Int), .int .i64 (imin 16 (z20.length : Int)), (g35 24), (g35 25), (g35 26), (g35 27), (g35 28), (g35 29), (g35 30), (g35 31), (g35 32), (g35 33), undef, undef, undef, undef, undef], []⟩) (fun N nj => ?_) ?_
     ·clear h
      have h := hj
      refine wp_regG [6, 10, 11] (fun k => True) 12 (by kernel_rfl) (by kernel_rfl) (by kernel_rfl) fun KR36 kr36 => ?_
      have hs := hs.drawn1
      refine wpG.tD 0 true (some 24) (.slice z15_A z15_n z15_c) (yld_load1 (e := 26) (o := 0) hs 9 rfl (by kernel_rfl) (by kernel_rfl) (by rfl) .grow) ?_
      refine wpG.take [1, 3, 5, 6, 10, 11] 1 true (some 25) (.slice z20_A z20_n z20_c) (by kernel_rfl) (by kernel_rfl) (yld_load1 (e := 26) (o := 0) hs 10 rfl (by kernel_rfl) (by kernel_rfl) (by rfl) .grow) ?_
      refine wpG.q 2 26 (.int .i64 x36) ?_
      obtain ⟨h0, h⟩ := of_chk h
      obtain ⟨h1, h⟩ := of_chk h
      obtain ⟨h2, h⟩ := of_chk h
      obtain ⟨s41_A, hA⟩ : ∃ A, A = if z20_c = (0 : Int).toNat then z20_A else adr z20_A ((0 : Int).toNat * Cod.size (CI .u8)) := ⟨_, rfl⟩
      obtain ⟨s41_n, hn⟩ : ∃ n, n = (x36 : Int).toNat - (0 : Int).toNat := ⟨_, rfl⟩
      obtain ⟨s41_c, hc⟩ : ∃ c, c = z20_c - (0 : Int).toNat := ⟨_, rfl⟩
      refine wpG.tD 3 false (some 27) (.slice s41_A s41_n s41_c) (yld_sub (C := (CI .u8)) (t := 26) (e := 5) (low := none) (high := some (.int .i64 x36)) (lo := 0) (hi := x36) (hs.rowR 1 rfl) (by kernel_rfl) (by kernel_rfl) (by kernel_rfl) (.inl ⟨rfl, rfl⟩) (.inr ⟨_, rfl⟩) h0 h1 h2 hA hn hc) ?_
      have hs := hs.addSub (C := (CI .u8)) 1 rfl h0 h1 h2 hA hn hc
      refine wpG.q 4 28 (.slice r28_A r28_n r28_c) ?_
      refine wpG.q 8 32 (.int .i64 x36) ?_
      refine wpG.many [5, 7] (by kernel_rfl) (by decide) (forall_cons ?_ (forall_cons ?_ forall_nil))
      ·obtain ⟨r42, hg, h⟩ := of_bind h
       refine (op_callH (d := (some 29)) (by kernel_rfl) hs (fun _ => by kernel_rfl) (bits_Xor.ok hg _ (hs.rowR 0 rfl) (hs.rowF 1 rfl)) ?_)
       rintro ⟨r42_A, r42_n, r42_c⟩ w gw hs
       have hs := hs.conv (L' := [.ownL (CI .u8) r42_A r42_n r42_c r42 5, .ownL (CI .u8) r27_A r27_n r27_c r27 5, .ownL CS s26_A s26_n s26_c ([(a1_A, a1_n, a1_c), (r25_A, r25_n, r25_c)] : List HS) 26, .ownL (CI .u8) r25_A r25_n r25_c r25 5, .obj l14 (.loop (rec14 .busy none)), .obj D14 (.deferred (some [])), .blk b13 ([.slice a1_A a1_n a1_c]) 26, .blk b12 ([.slice a0_A a0_n a0_c]) 26, .ownL (CI .u8) z15_A z15_n z15_c z15 5, .blk b3 ([.slice z19_A z19_n z19_c]) 26, .blk b2 ([.slice z15_A z15_n z15_c]) 26, .blk b1 ([.slice z20_A z20_n z20_c]) 26]) rfl
       refine ⟨.of gw, ?_⟩
       refine wpG.many [6, 7] (by kernel_rfl) (by decide) (forall_cons ?_ (forall_cons ?_ forall_nil))
       ·obtain ⟨h0, h⟩ := of_chk h
        refine (op_appendT (C := (CI .u8)) (t := 26) (ty := 26) (e := 5) (bytes := 1) (B := 140737488355328) (d := (some 30)) (by kernel_rfl) hs 8 rfl (hs.rowL 0 rfl) (by kernel_rfl) (by kernel_rfl) (by kernel_rfl) (by kernel_rfl) (by kernel_rfl) h0 (by decide) (by decide) ?_)
        intro s43_A s43_n s43_c w hs
        refine ⟨⟨fun hf => absurd hf (by decide), .all _ _⟩, ?_⟩
        refine wpG.many [7, 10] (by kernel_rfl) (by decide) (forall_cons ?_ (forall_cons ?_ forall_nil))
        ·refine (op_val (d := (some 31)) (v := .slice z20_A z20_n z20_c) (by kernel_rfl) (yld_load1 (e := 26) (o := 0) hs 11 rfl (by kernel_rfl) (by kernel_rfl) (by rfl) .grow) ⟨Cl.refl _, ?_⟩)
         obtain ⟨h0, h⟩ := of_chk h
         obtain ⟨h1, h⟩ := of_chk h
         obtain ⟨h2, h⟩ := of_chk h
         obtain ⟨s44_A, hA⟩ : ∃ A, A = if z20_c = (x36 : Int).toNat then z20_A else adr z20_A ((x36 : Int).toNat * Cod.size (CI .u8)) := ⟨_, rfl⟩
         obtain ⟨s44_n, hn⟩ : ∃ n, n = ((z20.length : Int) : Int).toNat - (x36 : Int).toNat := ⟨_, rfl⟩
         obtain ⟨s44_c, hc⟩ : ∃ c, c = z20_c - (x36 : Int).toNat := ⟨_, rfl⟩
         refine wpG.tD 9 false (some 33) (.slice s44_A s44_n s44_c) (yld_sub (C := (CI .u8)) (t := 26) (e := 5) (low := some (.int .i64 x36)) (high := none) (lo := x36) (hi := (z20.length : Int)) (hs.rowR 2 rfl) (by kernel_rfl) (by kernel_rfl) (by kernel_rfl) (.inr ⟨_, rfl⟩) (.inl ⟨rfl, rfl⟩) h0 h1 h2 hA hn hc) ?_
         have hs := hs.addSub (C := (CI .u8)) 2 rfl h0 h1 h2 hA hn hc
         refine wpG.only 10 (by kernel_rfl) (op_store1 (t := 26) (o := 0) (v := .slice s43_A s43_n s43_c) (d := none) (by kernel_rfl) hs 10 rfl (by kernel_rfl) rfl (by kernel_rfl) (by simp) ?_)
         intro w kp hs
         refine ⟨⟨fun hf => absurd hf (by decide), .all _ _⟩, ?_⟩
         refine wpG.only 11 (by kernel_rfl) (op_store1 (t := 26) (o := 0) (v := .slice s44_A s44_n s44_c) (d := none) (by kernel_rfl) hs 11 rfl (by kernel_rfl) rfl (by kernel_rfl) (by simp) ?_)
         intro w kp hs
         refine ⟨⟨fun hf => absurd hf (by decide), .all _ _⟩, ?_⟩
         refine wpG.fin (by kernel_rfl) rfl (kr36 _ _ ?_)
         obtain ⟨q0, qr0⟩ := Prod.mk.inj (of_some h)
         have q1 := qr0
         subst q0
         subst q1
         exact nj _ _ ⟨s43_A, s43_n, s43_c, s44_A, s44_n, s44_c, ((hs.drop (.cons _ (.cons_cons _ (.cons_cons _ (.cons_cons _ (.cons_cons _ (.cons_cons _ (.cons_cons _ (.cons_cons _ (.cons_cons _ (.cons_cons _ (.cons_cons _ (.cons_cons _ .slnil))))))))))))).pickR (pick_cons 0 rfl (pick_cons 2 rfl (pick_cons 3 rfl (pick_cons 4 rfl (pick_cons 5 rfl (pick_cons 6 rfl (pick_cons 7 rfl (pick_cons 8 rfl pick_nil))))))))), exg (by kernel_rfl)⟩
        refine (op_store1 (t := 26) (o := 0) (v := .slice s43_A s43_n s43_c) (d := none) (by kernel_rfl) hs 10 rfl (by kernel_rfl) rfl (by kernel_rfl) (by simp) ?_)
        intro w kp hs
        refine ⟨⟨fun hf => absurd hf (by decide), .all _ _⟩, ?_⟩
        refine wpG.only 7 (by kernel_rfl) (op_val (d := (some 31)) (v := .slice z20_A z20_n z20_c) (by kernel_rfl) (yld_load1 (e := 26) (o := 0) hs 11 rfl (by kernel_rfl) (by kernel_rfl) (by rfl) .grow) ⟨Cl.refl _, ?_⟩)
        obtain ⟨h0, h⟩ := of_chk h
        obtain ⟨h1, h⟩ := of_chk h
        obtain ⟨h2, h⟩ := of_chk h
        obtain ⟨s45_A, hA⟩ : ∃ A, A = if z20_c = (x36 : Int).toNat then z20_A else adr z20_A ((x36 : Int).toNat * Cod.size (CI .u8)) := ⟨_, rfl⟩
        obtain ⟨s45_n, hn⟩ : ∃ n, n = ((z20.length : Int) : Int).toNat - (x36 : Int).toNat := ⟨_, rfl⟩
        obtain ⟨s45_c, hc⟩ : ∃ c, c = z20_c - (x36 : Int).toNat := ⟨_, rfl⟩
        refine wpG.tD 9 false (some 33) (.slice s45_A s45_n s45_c) (yld_sub (C := (CI .u8)) (t := 26) (e := 5) (low := some (.int .i64 x36)) (high := none) (lo := x36) (hi := (z20.length : Int)) (hs.rowR 2 rfl) (by kernel_rfl) (by kernel_rfl) (by kernel_rfl) (.inr ⟨_, rfl⟩) (.inl ⟨rfl, rfl⟩) h0 h1 h2 hA hn hc) ?_
        have hs := hs.addSub (C := (CI .u8)) 2 rfl h0 h1 h2 hA hn hc
        refine wpG.only 11 (by kernel_rfl) (op_store1 (t := 26) (o := 0) (v := .slice s45_A s45_n s45_c) (d := none) (by kernel_rfl) hs 11 rfl (by kernel_rfl) rfl (by kernel_rfl) (by simp) ?_)
        intro w kp hs
        refine ⟨⟨fun hf => absurd hf (by decide), .all _ _⟩, ?_⟩
        refine wpG.fin (by kernel_rfl) rfl (kr36 _ _ ?_)
        obtain ⟨q0, qr0⟩ := Prod.mk.inj (of_some h)
        have q1 := qr0
        subst q0
        subst q1
        exact nj _ _ ⟨s43_A, s43_n, s43_c, s45_A, s45_n, s45_c, ((hs.drop (.cons _ (.cons_cons _ (.cons_cons _ (.cons_cons _ (.cons_cons _ (.cons_cons _ (.cons_cons _ (.cons_cons _ (.cons_cons _ (.cons_cons _ (.cons_cons _ (.cons_cons _ .slnil))))))))))))).pickR (pick_cons 0 rfl (pick_cons 2 rfl (pick_cons 3 rfl (pick_cons 4 rfl (pick_cons 5 rfl (pick_cons 6 rfl (pick_cons 7 rfl (pick_cons 8 rfl pick_nil))))))))), exg (by kernel_rfl)⟩
       obtain ⟨q37_0, h⟩ := of_chk h
       obtain ⟨q37_1, h⟩ := of_chk h
       obtain ⟨q37_2, h⟩ := of_chk h
       obtain ⟨q37_3, h⟩ := of_chk h
       have h : (if 0 ≤ x36 then (if x36 ≤ (z20.length : Int) then (if (z20.length : Int) ≤ z20.length then (if z15.length + r42.length ≤ 140737488355328 then (some ((z15 ++ r42), (subL z20 x36 (z20.length : Int)))) else none) else none) else none) else none : Option ((List Int) × (List Int))) = _ := ((chk_eq q37_1).trans ((chk_eq q37_2).trans ((chk_eq q37_3).trans ((chk_eq q37_0).trans h))))
       clear q37_0 q37_1 q37_2 q37_3
       refine (op_val (d := (some 31)) (v := .slice z20_A z20_n z20_c) (by kernel_rfl) (yld_load1 (e := 26) (o := 0) hs 11 rfl (by kernel_rfl) (by kernel_rfl) (by rfl) .grow) ⟨Cl.refl _, ?_⟩)
       obtain ⟨h0, h⟩ := of_chk h
       obtain ⟨h1, h⟩ := of_chk h
       obtain ⟨h2, h⟩ := of_chk h
       obtain ⟨s46_A, hA⟩ : ∃ A, A = if z20_c = (x36 : Int).toNat then z20_A else adr z20_A ((x36 : Int).toNat * Cod.size (CI .u8)) := ⟨_, rfl⟩
       obtain ⟨s46_n, hn⟩ : ∃ n, n = ((z20.length : Int) : Int).toNat - (x36 : Int).toNat := ⟨_, rfl⟩
       obtain ⟨s46_c, hc⟩ : ∃ c, c = z20_c - (x36 : Int).toNat := ⟨_, rfl⟩
       refine wpG.tD 9 false (some 33) (.slice s46_A s46_n s46_c) (yld_sub (C := (CI .u8)) (t := 26) (e := 5) (low := some (.int .i64 x36)) (high := none) (lo := x36) (hi := (z20.length : Int)) (hs.rowR 2 rfl) (by kernel_rfl) (by kernel_rfl) (by kernel_rfl) (.inr ⟨_, rfl⟩) (.inl ⟨rfl, rfl⟩) h0 h1 h2 hA hn hc) ?_
       have hs := hs.addSub (C := (CI .u8)) 2 rfl h0 h1 h2 hA hn hc
       obtain ⟨h0, h⟩ := of_chk h
       refine wpG.only 6 (by kernel_rfl) (op_appendT (C := (CI .u8)) (t := 26) (ty := 26) (e := 5) (bytes := 1) (B := 140737488355328) (d := (some 30)) (by kernel_rfl) hs 8 rfl (hs.rowL 0 rfl) (by kernel_rfl) (by kernel_rfl) (by kernel_rfl) (by kernel_rfl) (by kernel_rfl) h0 (by decide) (by decide) ?_)
       intro s47_A s47_n s47_c w hs
       refine ⟨⟨fun hf => absurd hf (by decide), .all _ _⟩, ?_⟩
       refine wpG.only 10 (by kernel_rfl) (op_store1 (t := 26) (o := 0) (v := .slice s47_A s47_n s47_c) (d := none) (by kernel_rfl) hs 10 rfl (by kernel_rfl) rfl (by kernel_rfl) (by simp) ?_)
       intro w kp hs
       refine ⟨⟨fun hf => absurd hf (by decide), .all _ _⟩, ?_⟩
       refine wpG.only 11 (by kernel_rfl) (op_store1 (t := 26) (o := 0) (v := .slice s46_A s46_n s46_c) (d := none) (by kernel_rfl) hs 11 rfl (by kernel_rfl) rfl (by kernel_rfl) (by simp) ?_)
       intro w kp hs
       refine ⟨⟨fun hf => absurd hf (by decide), .all _ _⟩, ?_⟩
       refine wpG.fin (by kernel_rfl) rfl (kr36 _ _ ?_)
       obtain ⟨q0, qr0⟩ := Prod.mk.inj (of_some h)
       have q1 := qr0
       subst q0
       subst q1
       exact nj _ _ ⟨s47_A, s47_n, s47_c, s46_A, s46_n, s46_c, ((hs.drop (.cons _ (.cons_cons _ (.cons_cons _ (.cons_cons _ (.cons_cons _ (.cons_cons _ (.cons_cons _ (.cons_cons _ (.cons_cons _ (.cons_cons _ (.cons_cons _ (.cons_cons _ .slnil))))))))))))).pickR (pick_cons 0 rfl (pick_cons 2 rfl (pick_cons 3 rfl (pick_cons 4 rfl (pick_cons 5 rfl (pick_cons 6 rfl (pick_cons 7 rfl (pick_cons 8 rfl pick_nil))))))))), exg (by kernel_rfl)⟩
      obtain ⟨r42, q38_0, h⟩ := of_bind h
      obtain ⟨q38_1, h⟩ := of_chk h
      obtain ⟨q38_2, h⟩ := of_chk h
      obtain ⟨q38_3, h⟩ := of_chk h
      obtain ⟨q38_4, h⟩ := of_chk h
      have h : (if 0 ≤ x36 then (if x36 ≤ (z20.length : Int) then (if (z20.length : Int) ≤ z20.length then ((bits_Xor.f K (subL z20 0 x36) r28).bind fun r49 => if z15.length + r49.length ≤ 140737488355328 then (some ((z15 ++ r49), (subL z20 x36 (z20.length : Int)))) else none) else none) else none) else none : Option ((List Int) × (List Int))) = _ := ((chk_eq q38_2).trans ((chk_eq q38_3).trans ((chk_eq q38_4).trans ((bind_eq q38_0).trans ((chk_eq q38_1).trans h)))))
      clear q38_0 q38_1 q38_2 q38_3 q38_4
      refine (op_val (d := (some 31)) (v := .slice z20_A z20_n z20_c) (by kernel_rfl) (yld_load1 (e := 26) (o := 0) hs 10 rfl (by kernel_rfl) (by kernel_rfl) (by rfl) .grow) ⟨Cl.refl _, ?_⟩)
      obtain ⟨h0, h⟩ := of_chk h
      obtain ⟨h1, h⟩ := of_chk h
      obtain ⟨h2, h⟩ := of_chk h
      obtain ⟨s48_A, hA⟩ : ∃ A, A = if z20_c = (x36 : Int).toNat then z20_A else adr z20_A ((x36 : Int).toNat * Cod.size (CI .u8)) := ⟨_, rfl⟩
      obtain ⟨s48_n, hn⟩ : ∃ n, n = ((z20.length : Int) : Int).toNat - (x36 : Int).toNat := ⟨_, rfl⟩
      obtain ⟨s48_c, hc⟩ : ∃ c, c = z20_c - (x36 : Int).toNat := ⟨_, rfl⟩
      refine wpG.tD 9 false (some 33) (.slice s48_A s48_n s48_c) (yld_sub (C := (CI .u8)) (t := 26) (e := 5) (low := some (.int .i64 x36)) (high := none) (lo := x36) (hi := (z20.length : Int)) (hs.rowR 2 rfl) (by kernel_rfl) (by kernel_rfl) (by kernel_rfl) (.inr ⟨_, rfl⟩) (.inl ⟨rfl, rfl⟩) h0 h1 h2 hA hn hc) ?_
      have hs := hs.addSub (C := (CI .u8)) 2 rfl h0 h1 h2 hA hn hc
      obtain ⟨r49, hg, h⟩ := of_bind h
      refine wpG.only 5 (by kernel_rfl) (op_callH (d := (some 29)) (by kernel_rfl) hs (fun _ => by kernel_rfl) (bits_Xor.ok hg _ (hs.rowR 1 rfl) (hs.rowF 2 rfl)) ?_)
      rintro ⟨r49_A, r49_n, r49_c⟩ w gw hs
      have hs := hs.conv (L' := [.ownL (CI .u8) r49_A r49_n r49_c r49 5, .ownL (CI .u8) r27_A r27_n r27_c r27 5, .ownL CS s26_A s26_n s26_c ([(a1_A, a1_n, a1_c), (r25_A, r25_n, r25_c)] : List HS) 26, .ownL (CI .u8) r25_A r25_n r25_c r25 5, .obj l14 (.loop (rec14 .busy none)), .obj D14 (.deferred (some [])), .blk b13 ([.slice a1_A a1_n a1_c]) 26, .blk b12 ([.slice a0_A a0_n a0_c]) 26, .ownL (CI .u8) z15_A z15_n z15_c z15 5, .blk b3 ([.slice z19_A z19_n z19_c]) 26, .blk b2 ([.slice z15_A z15_n z15_c]) 26, .blk b1 ([.slice z20_A z20_n z20_c]) 26]) rfl
      refine ⟨.of gw, ?_⟩
      obtain ⟨h0, h⟩ := of_chk h
      refine wpG.only 6 (by kernel_rfl) (op_appendT (C := (CI .u8)) (t := 26) (ty := 26) (e := 5) (bytes := 1) (B := 140737488355328) (d := (some 30)) (by kernel_rfl) hs 8 rfl (hs.rowL 0 rfl) (by kernel_rfl) (by kernel_rfl) (by kernel_rfl) (by kernel_rfl) (by kernel_rfl) h0 (by decide) (by decide) ?_)
      intro s50_A s50_n s50_c w hs
      refine ⟨⟨fun hf => absurd hf (by decide), .all _ _⟩, ?_⟩
      refine wpG.only 10 (by kernel_rfl) (op_store1 (t := 26) (o := 0) (v := .slice s50_A s50_n s50_c) (d := none) (by kernel_rfl) hs 10 rfl (by kernel_rfl) rfl (by kernel_rfl) (by simp) ?_)
      intro w kp hs
      refine ⟨⟨fun hf => absurd hf (by decide), .all _ _⟩, ?_⟩
      refine wpG.only 11 (by kernel_rfl) (op_store1 (t := 26) (o := 0) (v := .slice s48_A s48_n s48_c) (d := none) (by kernel_rfl) hs 11 rfl (by kernel_rfl) rfl (by kernel_rfl) (by simp) ?_)
      intro w kp hs
      refine ⟨⟨fun hf => absurd hf (by decide), .all _ _⟩, ?_⟩
      refine wpG.fin (by kernel_rfl) rfl (kr36 _ _ ?_)
      obtain ⟨q0, qr0⟩ := Prod.mk.inj (of_some h)
      have q1 := qr0
      subst q0
      subst q1
      exact nj _ _ ⟨s50_A, s50_n, s50_c, s48_A, s48_n, s48_c, ((hs.drop (.cons _ (.cons_cons _ (.cons_cons _ (.cons_cons _ (.cons_cons _ (.cons_cons _ (.cons_cons _ (.cons_cons _ (.cons_cons _ (.cons_cons _ (.cons_cons _ (.cons_cons _ .slnil))))))))))))).pickR (pick_cons 0 rfl (pick_cons 2 rfl (pick_cons 3 rfl (pick_cons 4 rfl (pick_cons 5 rfl (pick_cons 6 rfl (pick_cons 7 rfl (pick_cons 8 rfl pick_nil))))))))), exg (by kernel_rfl)⟩
     clear hj hs
     rintro a w ⟨y37_A, y37_n, y37_c, y40_A, y40_n, y40_c, hs, g35, rfl⟩
     obtain ⟨q0, qr0⟩ := Prod.mk.inj (of_some h)
     obtain ⟨q1, qr1⟩ := Prod.mk.inj (qr0)
     have q2 := qr1
     subst q0
     subst q1
     subst q2
     exact nj _ _ ⟨y37_A, y37_n, y37_c, z19_A, z19_n, z19_c, y40_A, y40_n, y40_c, (hs.pickR (pick_cons 0 rfl (pick_cons 3 rfl (pick_cons 1 rfl (pick_cons 2 rfl (pick_cons 3 rfl (pick_cons 4 rfl (pick_cons 5 rfl (pick_cons 6 rfl (pick_cons 7 rfl pick_nil)))))))))), exg (by kernel_rfl)⟩
    clear hj hs
    rintro a w ⟨y30_A, y30_n, y30_c, y34_A, y34_n, y34_c, y35_A, y35_n, y35_c, hs, g27, rfl⟩
    refine then_n (ks28 _ _ (xseq_k fun KS39 ks39 => (xregS [0, 1, 2] fun KR40 kr40 => ?_)))
    refine wpS.tk 0 true (some 34) (.slice y35_A y35_n y35_c) (yld_load1 (e := 26) (o := 0) hs 10 rfl (by kernel_rfl) (by kernel_rfl) (by rfl) .grow) ?_
    refine wpS.tk 1 false (some 35) (.int .i64 (y35.length : Int)) (yld_lenL (hs.rowR 0 rfl) (fun _ => by kernel_rfl)) ?_
    rcases of_if h with ⟨hc, h⟩ | ⟨hc, h⟩
    ·refine wpS.tk 2 false (some 36) (.bool true) (yld_b (et hc) (fun _ => by kernel_rfl)) ?_
     refine wpS.fin rfl (kr40 _ _ (then_n (ks39 _ _ (wp_cond_t (by kernel_rfl) (xexit (inBlock_miss (by decide) ?_))))))
     refine round_x qr25 hs 3 rfl fun w hs => ?_
     try dsimp only [List.set] at hs
     refine ⟨fun _ => trivial, ?_⟩
     refine wpS.q 3 22 (.bool true) ?_
     refine wpS.fin rfl (kr24 _ _ (then_n (ks23 _ _ (wp_cond_t (by kernel_rfl) (xret (inBlock_r (then_r (then_r (inBlock_r (exq_r ?_))))))))))
     refine qq14 _ _ (post_ret (by kernel_rfl) (run_results [] [] (by kernel_rfl) .nil) ?_)
     refine range_j (a1 := ⟨#[.slice a0_A a0_n a0_c, .slice a1_A a1_n a1_c, .slice a2_A a2_n a2_c, undef, undef, .pointer (some ⟨b1, 0, none⟩), .pointer (some ⟨b2, 0, none⟩), .pointer (some ⟨b3, 0, none⟩), undef, undef, .slice a2_A a2_n a2_c, .int .i64 (a2.length : Int), .int .i64 (iadd .i64 (a2.length : Int) 16), .slice s4_A s4_n s4_c, .slice a0_A a0_n a0_c, .slice a1_A a1_n a1_c, .func (.func 112) #[] #[.pointer (some ⟨b12, 0, none⟩), .pointer (some ⟨b13, 0, none⟩)], undef, undef, undef, undef, undef, undef, undef, undef, undef, undef, undef, undef, undef, undef, undef, undef, undef, undef, undef, undef, undef, undef], [lmark D14]⟩) (.exit 0) kR14 (by kernel_rfl) hs 3 rfl fun w hs => ?_
     try dsimp only [List.set] at hs
     refine xexit (inBlock_hit ?_)
     have q0 := of_some h
     subst q0
     obtain ⟨q0, qr0⟩ := Prod.mk.inj (of_some hk0)
     obtain ⟨q1, qr1⟩ := Prod.mk.inj (qr0)
     have q2 := qr1
     subst q0
     subst q1
     subst q2
     exact nj _ _ ⟨D14, y30_A, y30_n, y30_c, y34_A, y34_n, y34_c, y35_A, y35_n, y35_c, ((hs.drop (.cons _ (.cons _ (.cons _ (.cons _ (.cons_cons _ (.cons _ (.cons _ (.cons_cons _ (.cons_cons _ (.cons_cons _ (.cons_cons _ .slnil)))))))))))).pickR (pick_cons 0 rfl (pick_cons 1 rfl (pick_cons 5 rfl (pick_cons 6 rfl (pick_cons 7 rfl (pick_cons 8 rfl pick_nil))))))), exg (by kernel_rfl)⟩
    refine wpS.tk 2 false (some 36) (.bool false) (yld_b (ef hc) (fun _ => by kernel_rfl)) ?_
    refine wpS.fin rfl (kr40 _ _ (then_n (ks39 _ _ (wp_cond_f (by kernel_rfl) (xskip (inBlock_n ?_))))))
    refine round_n qr25 hs 3 rfl fun w hs => ?_
    try dsimp only [List.set] at hs
    refine ⟨fun _ => trivial, ?_⟩
    refine wpS.q 3 22 (.bool false) ?_
    refine wpS.fin rfl (kr24 _ _ (then_n (ks23 _ _ (wp_cond_f (by kernel_rfl) (xskip (inBlock_n (then_n (ks19 _ _ (xregS [0, 1, 2] fun KR41 kr41 => ?_)))))))))
    refine wpS.qs [(0, 7, .int .u64 z14), (1, 8, .int .u64 (iadd .u64 z14 1))] ?_
    obtain ⟨x51, hx, h⟩ := of_bind h
    refine wpS.tk 2 false (some 4) (.int .u64 x51) (yld_int hx (fun _ => by kernel_rfl)) ?_
    refine wpS.fin rfl (kr41 _ _ ?_)
    exact then_n (kl0 _ _ ⟨n, Nat.lt_succ_self n, x51, y30, y34, y35, y30_A, y30_n, y30_c, y34_A, y34_n, y34_c, y35_A, y35_n, y35_c, h, ((hs.drop (.cons _ (.cons _ (.cons _ (.cons_cons _ (.cons_cons _ (.cons_cons _ (.cons_cons _ (.cons_cons _ (.cons_cons _ (.cons_cons _ (.cons_cons _ .slnil)))))))))))).pickR (pick_cons 0 rfl (pick_cons 1 rfl (pick_cons 5 rfl (pick_cons 6 rfl (pick_cons 7 rfl (pick_cons 8 rfl pick_nil))))))), exg (by kernel_rfl)⟩)
  clear hs h hy
  rintro a w ⟨y21, y21_A, y21_n, y21_c, rfl, hs, g18, rfl⟩
  have h := hk0
  refine qn14 _ _ (post_nrm (by kernel_rfl) (run_results [] [] (by kernel_rfl) .nil) ?_)
  refine range_n (a1 := ⟨#[.slice a0_A a0_n a0_c, .slice a1_A a1_n a1_c, .slice a2_A a2_n a2_c, undef, undef, .pointer (some ⟨b1, 0, none⟩), .pointer (some ⟨b2, 0, none⟩), .pointer (some ⟨b3, 0, none⟩), undef, undef, .slice a2_A a2_n a2_c, .int .i64 (a2.length : Int), .int .i64 (iadd .i64 (a2.length : Int) 16), .slice s4_A s4_n s4_c, .slice a0_A a0_n a0_c, .slice a1_A a1_n a1_c, .func (.func 112) #[] #[.pointer (some ⟨b12, 0, none⟩), .pointer (some ⟨b13, 0, none⟩)], undef, undef, undef, undef, undef, undef, undef, undef, undef, undef, undef, undef, undef, undef, undef, undef, undef, undef, undef, undef, undef, undef], [lmark D14]⟩) kR14 (by kernel_rfl) hs 0 rfl fun w hs => ?_
  try dsimp only [List.set] at hs
  refine inBlock_n ?_
  obtain ⟨q0, qr0⟩ := Prod.mk.inj (of_some h)
  obtain ⟨q1, qr1⟩ := Prod.mk.inj (qr0)
  have q2 := qr1
  subst q0
  subst q1
  subst q2
  exact nj _ _ ⟨D14, y21_A, y21_n, y21_c, none, 0, 0, a2_A, a2_n, a2_c, ((hs.drop (.cons _ (.cons_cons _ (.cons _ (.cons _ (.cons_cons _ (.cons_cons _ (.cons_cons _ (.cons_cons _ .slnil))))))))).pickR (pick_cons 3 rfl (pick_cons 0 rfl (pick_cons 0 rfl (pick_cons 1 rfl (pick_cons 2 rfl (pick_cons 3 rfl pick_nil))))))), exg (by kernel_rfl)⟩
 clear hj hs
 rintro a w ⟨D5, y6_A, y6_n, y6_c, y10_A, y10_n, y10_c, y11_A, y11_n, y11_c, hs, g5, rfl⟩
 refine then_n (ks6 _ _ (xseq_k fun KS42 ks42 => ?_))
 obtain ⟨_, hj, h⟩ := of_bind h
 refine wp_join (N := fun a w => St w0 [] [.obj D5 (.deferred (some [])), .ownL (CI .u8) y6_A y6_n y6_c y6 5, .blk b3 ([.slice y10_A y10_n y10_c]) 26, .blk b2 ([.slice y6_A y6_n y6_c]) 26, .blk b1 ([.slice y11_A y11_n y11_c]) 26] [.rowL (CI .u8) y11_A y11_n y11_c y11, .rowN (Fr w0) (CI .u8) y10_A y10_n y10_c y10, .rowN (Fr w0) (CI .u8) none 0 0 ([] : List Int), .rowL (CI .u8) a0_A a0_n a0_c a0, .rowL (CI .u8) a1_A a1_n a1_c a1, .rowL (CI .u8) a2_A a2_n a2_c a2] w ∧ ∃ g43 : Nat → Value, a = ⟨#[.slice a0_A a0_n a0_c, .slice a1_A a1_n a1_c, .slice a2_A a2_n a2_c, undef, undef, .pointer (some ⟨b1, 0, none⟩), .pointer (some ⟨b2, 0, none⟩), .pointer (some ⟨b3, 0, none⟩), (g5 8), (g5 9), .slice a2_A a2_n a2_c, .int .i64 (a2.length : Int), .int .i64 (iadd .i64 (a2.length : Int) 16), .slice s4_A s4_n s4_c, (g5 14), (g5 15), (g5 16), (g5 17), (g5 18), (g5 19), (g5 20), (g5 21), (g5 22), (g5 23), (g5 24), (g5 25), (g5 26), (g5 27), (g5 28), (g5 29), (g5 30), (g5 31), (g5 32), (g5 33), (g5 34), (g5 35), (g5 36), (g43 37), (g43 38)], [lmark D5]⟩) (fun N nj => ?_) ?_
 ·clear h
  have h := hj
  refine wp_regG [2, 3] (fun k => True) 4 (by kernel_rfl) (by kernel_rfl) (by kernel_rfl) fun KR44 kr44 => ?_
  have hs := hs.drawn1
  refine wpG.tD 0 true (some 37) (.slice y6_A y6_n y6_c) (yld_load1 (e := 26) (o := 0) hs 3 rfl (by kernel_rfl) (by kernel_rfl) (by rfl) .grow) ?_
  refine wpG.many [1, 2] (by kernel_rfl) (by decide) (forall_cons ?_ (forall_cons ?_ forall_nil))
  ·refine (op_val (d := (some 38)) (v := .slice y10_A y10_n y10_c) (by kernel_rfl) (yld_load1 (e := 26) (o := 0) hs 2 rfl (by kernel_rfl) (by kernel_rfl) (by rfl) .grow) ⟨Cl.refl _, ?_⟩)
   refine wpG.only 2 (by kernel_rfl) (op_store1 (t := 26) (o := 0) (v := .slice y6_A y6_n y6_c) (d := none) (by kernel_rfl) hs 3 rfl (by kernel_rfl) rfl (by kernel_rfl) (by simp) ?_)
   intro w kp hs
   refine ⟨⟨fun hf => absurd hf (by decide), .all _ _⟩, ?_⟩
   refine wpG.only 3 (by kernel_rfl) (op_store1 (t := 26) (o := 0) (v := .slice y10_A y10_n y10_c) (d := none) (by kernel_rfl) hs 2 rfl (by kernel_rfl) rfl (by kernel_rfl) (by simp) ?_)
   intro w kp hs
   refine ⟨⟨fun hf => absurd hf (by decide), .all _ _⟩, ?_⟩
   refine wpG.fin (by kernel_rfl) rfl (kr44 _ _ ?_)
   exact nj _ _ ⟨(hs.conv rfl), exg (by kernel_rfl)⟩
  refine (op_store1 (t := 26) (o := 0) (v := .slice y6_A y6_n y6_c) (d := none) (by kernel_rfl) hs 3 rfl (by kernel_rfl) rfl (by kernel_rfl) (by simp) ?_)
  intro w kp hs
  refine ⟨⟨fun hf => absurd hf (by decide), .all _ _⟩, ?_⟩
  refine wpG.only 1 (by kernel_rfl) (op_val (d := (some 38)) (v := .slice y10_A y10_n y10_c) (by kernel_rfl) (yld_load1 (e := 26) (o := 0) hs 2 rfl (by kernel_rfl) (by kernel_rfl) (by rfl) .grow) ⟨Cl.refl _, ?_⟩)
  refine wpG.only 3 (by kernel_rfl) (op_store1 (t := 26) (o := 0) (v := .slice y10_A y10_n y10_c) (d := none) (by kernel_rfl) hs 2 rfl (by kernel_rfl) rfl (by kernel_rfl) (by simp) ?_)
  intro w kp hs
  refine ⟨⟨fun hf => absurd hf (by decide), .all _ _⟩, ?_⟩
  refine wpG.fin (by kernel_rfl) rfl (kr44 _ _ ?_)
  exact nj _ _ ⟨(hs.conv rfl), exg (by kernel_rfl)⟩
 clear hj hs
 rintro a w ⟨hs, g43, rfl⟩
 refine then_n (ks42 _ _ (xret ?_))
 obtain ⟨q0, qr0⟩ := Prod.mk.inj (of_some h)
 have q1 := qr0
 subst q0
 subst q1
 refine qq _ _ ?_
 refine leaves_mark hs 0 rfl fun w hs => ?_
 try dsimp only [List.set] at hs
 have hs := hs.promoteN 1 rfl
 have hs := hs.front 2 rfl
 try dsimp only [List.eraseIdx] at hs
 exact leaves_end (run_results [.cell 6 26, .cell 7 26] [.slice y6_A y6_n y6_c, .slice y10_A y10_n y10_c] (by kernel_rfl) (.cons (res_cell1 hs 4 rfl (by kernel_rfl) (by kernel_rfl) rfl) (.cons (res_cell1 hs 3 rfl (by kernel_rfl) (by kernel_rfl) rfl) .nil))) ⟨⟨⟨y6_A, y6_n, y6_c⟩, ⟨y10_A, y10_n, y10_c⟩⟩, congrArg Ending.returned (by kernel_rfl), (hs.drop (.cons_cons _ (.cons_cons _ (.cons _ (.cons _ (.cons _ (.cons _ .slnil)))))))⟩

theorem bits_Num.ok {K : Nat} {a0 : List Int} {r0 : Int} {a0_A : Option Addr} {a0_n : Nat} {a0_c : Nat} (h : bits_Num.f K a0 = some r0) (w0 : World) (hp0 : RowL (CI .u8) w0 a0_A a0_n a0_c a0) : Ret Try.prog 63 #[.slice a0_A a0_n a0_c] w0 (.int .u64 r0) := by
 refine calls_k Try.func63 rfl fun Q qq => ?_
 have hs := St.startR (all_cons (RowP.ent hp0) all_nil)
 refine wp_conv (a' := ⟨#[.slice a0_A a0_n a0_c, undef, undef, undef, undef, undef, undef, undef, undef, undef, undef, undef, undef, undef, undef, undef, undef, undef, undef], []⟩) (by kernel_rfl) ?_
 refine xseq_k fun KS1 ks1 => ?_
 refine xregS [0] fun KR2 kr2 => ?_
 refine wpS.q 0 2 (.int .u64 0) ?_
 refine wpS.fin rfl (kr2 _ _ (then_n (ks1 _ _ (xseq_k fun KS3 ks3 => (xregS [0] fun KR4 kr4 => ?_)))))
 refine wpS.q 0 3 (.int .u64 0) ?_
 refine wpS.fin rfl (kr4 _ _ (then_n (ks3 _ _ (xseq_k fun KS5 ks5 => (xseq_k fun KS6 ks6 => (xregS [0, 1, 2] fun KR7 kr7 => ?_))))))
 refine wpS.q 0 6 (.slice a0_A a0_n a0_c) ?_
 refine wpS.tk 1 false (some 7) (.int .i64 (a0.length : Int)) (yld_lenL (hs.rowR 0 rfl) (fun _ => by kernel_rfl)) ?_
 refine wpS.q 2 8 (.int .i64 0) ?_
 refine wpS.fin rfl (kr7 _ _ (then_n (ks6 _ _ ?_)))
 obtain ⟨y3, hy, hk0⟩ := of_bind h
 refine wp_exq (N := fun a w => St w0 [] [] [.rowL (CI .u8) a0_A a0_n a0_c a0] w ∧ ∃ g9 : Nat → Value, a = ⟨#[.slice a0_A a0_n a0_c, undef, .int .u64 0, .int .u64 y3, undef, (g9 5), .slice a0_A a0_n a0_c, .int .i64 (a0.length : Int), (g9 8), (g9 9), (g9 10), (g9 11), (g9 12), (g9 13), (g9 14), (g9 15), (g9 16), (g9 17), undef], []⟩) (fun N0 nn0 => ?_) ?_
 ·clear hk0
  refine xblock ?_
  refine wp_loop_k (fun n a w => ∃ z1 z2, bits_Num.l0 K n a0 z1 z2 = some y3 ∧ St w0 [] [] [.rowL (CI .u8) a0_A a0_n a0_c a0] w ∧ ∃ g8 : Nat → Value, a = ⟨#[.slice a0_A a0_n a0_c, undef, .int .u64 0, .int .u64 z1, undef, (g8 5), .slice a0_A a0_n a0_c, .int .i64 (a0.length : Int), .int .i64 z2, (g8 9), (g8 10), (g8 11), (g8 12), (g8 13), (g8 14), (g8 15), (g8 16), (g8 17), undef], []⟩) K ⟨0, 0, hy, hs.conv rfl, exg (by kernel_rfl)⟩ ?_
  clear hs h hy
  rintro n a w ⟨z1, z2, h, hs, g8, rfl⟩ KL0 kl0
  cases n with
  | zero => exact nomatch (show none = some _ from h)
  | succ n =>
   refine xseq_k fun KS10 ks10 => ?_
   refine xregS [0] fun KR11 kr11 => ?_
   rcases of_if h with ⟨hc, h⟩ | ⟨hc, h⟩
   ·refine wpS.tk 0 false (some 9) (.bool true) (yld_b (dt hc) (fun _ => by kernel_rfl)) ?_
    refine wpS.fin rfl (kr11 _ _ (then_n (ks10 _ _ (xseq_k fun KS12 ks12 => (wp_cond_t (by kernel_rfl) (xskip (then_n (ks12 _ _ (xseq_k fun KS13 ks13 => (xblock (xseq_k fun KS14 ks14 => (xregS [0, 1, 2] fun KR15 kr15 => ?_))))))))))))
    obtain ⟨h0, h⟩ := of_chk h
    obtain ⟨h1, h⟩ := of_chk h
    have i0_16 := h0
    have i1_16 := h1
    refine wpS.tk 0 false (some 10) (.pointer (adr a0_A ((z2 : Int).toNat * Cod.size (CI .u8)))) (yld_idxL (C := (CI .u8)) (t := 26) (e := 5) (k := .i64) (x := z2) (hs.rowR 0 rfl) (by kernel_rfl) (by kernel_rfl) (by kernel_rfl) h0 h1) ?_
    refine wpS.tk 1 true (some 11) (.int .u8 (rdL (CI .u8) a0 z2)) (yld_loadL (C := (CI .u8)) (e := 5) (x := z2) (hs.rowR 0 rfl) (by kernel_rfl) rfl (by kernel_rfl) i0_16 i1_16) ?_
    obtain ⟨x4, hx, h⟩ := of_bind h
    refine wpS.tk 2 false (some 5) (.int .u8 x4) (yld_int hx (fun _ => by kernel_rfl)) ?_
    refine wpS.fin rfl (kr15 _ _ (then_n (ks14 _ _ (xregS [0, 1, 2, 3, 4, 5] fun KR17 kr17 => ?_))))
    refine wpS.qs [(0, 12, .int .u64 z1), (1, 13, .int .u64 (ishl .u64 z1 8)), (2, 14, .int .u8 x4), (3, 15, .int .u64 (iconv .u64 x4)), (4, 16, .int .u64 (ior .u64 (ishl .u64 z1 8) (iconv .u64 x4)))] ?_
    obtain ⟨x5, hx, h⟩ := of_bind h
    refine wpS.tk 5 false (some 3) (.int .u64 x5) (yld_int hx (fun _ => by kernel_rfl)) ?_
    refine wpS.fin rfl (kr17 _ _ (inBlock_n (then_n (ks13 _ _ (xregS [0, 1] fun KR18 kr18 => ?_)))))
    refine wpS.qs [(0, 17, .int .i64 (iadd .i64 z2 1)), (1, 8, .int .i64 (iadd .i64 z2 1))] ?_
    refine wpS.fin rfl (kr18 _ _ ?_)
    exact then_n (kl0 _ _ ⟨n, Nat.lt_succ_self n, x5, (iadd .i64 z2 1), h, (hs.conv rfl), exg (by kernel_rfl)⟩)
   refine wpS.tk 0 false (some 9) (.bool false) (yld_b (df hc) (fun _ => by kernel_rfl)) ?_
   refine wpS.fin rfl (kr11 _ _ (then_n (ks10 _ _ (xseq_k fun KS19 ks19 => (wp_cond_f (by kernel_rfl) (xexit (then_x (then_x (inBlock_hit ?_)))))))))
   have q0 := of_some h
   subst q0
   exact exq_n (nn0 _ _ ⟨(hs.conv rfl), exg (by kernel_rfl)⟩)
 clear hs h hy
 rintro a w ⟨hs, g9, rfl⟩
 have h := hk0
 refine then_n (ks5 _ _ (xseq_k fun KS20 ks20 => (xregS [0, 1] fun KR21 kr21 => ?_)))
 refine wpS.qs [(0, 18, .int .u64 y3), (1, 2, .int .u64 y3)] ?_
 refine wpS.fin rfl (kr21 _ _ (then_n (ks20 _ _ (xret ?_))))
 have q0 := of_some h
 subst q0
 exact qq _ _ (post_ret (by kernel_rfl) (run_results [.tmp 2] [.int .u64 y3] (by kernel_rfl) (.cons (res_tmp (by kernel_rfl)) .nil)) ⟨congrArg Ending.returned (by kernel_rfl), hs.none⟩)

theorem gcm_read.ok {K : Nat} {a0 : List Int} {r0_0 : Int} {r0_1 : Int} {a0_A : Option Addr} {a0_n : Nat} {a0_c : Nat} (h : gcm_read.f K a0 = some (r0_0, r0_1)) (w0 : World) (hp0 : RowL (CI .u8) w0 a0_A a0_n a0_c a0) : Ret Try.prog 75 #[.slice a0_A a0_n a0_c] w0 (.agg #[.int .u64 r0_0, .int .u64 r0_1]) := by
 refine calls_k Try.func75 rfl fun Q qq => ?_
 have hs := St.startR (all_cons (RowP.ent hp0) all_nil)
 refine wp_conv (a' := ⟨#[.slice a0_A a0_n a0_c, undef, undef, undef, undef, undef, undef, undef, undef, undef], []⟩) (by kernel_rfl) ?_
 refine xseq_k fun KS1 ks1 => ?_
 refine xregS [0] fun KR2 kr2 => ?_
 refine wpS.only 0 (op_alloc (t := 84) (d := (some 2)) (by kernel_rfl) hs ([.int .u64 0, .int .u64 0]) (.agg #[.int .u64 0, .int .u64 0]) (by kernel_rfl) (by kernel_rfl) (by kernel_rfl) ?_)
 intro b1 w gw hs
 refine ⟨fun _ => trivial, ?_⟩
 refine wpS.fin rfl (kr2 _ _ (then_n (ks1 _ _ (xseq_k fun KS3 ks3 => ?_))))
 refine wp_regG [7] (fun k => True) 8 (by kernel_rfl) (by kernel_rfl) (by kernel_rfl) fun KR4 kr4 => ?_
 have hs := hs.drawn1
 refine wpG.q 0 3 (.slice a0_A a0_n a0_c) ?_
 obtain ⟨h0, h⟩ := of_chk h
 obtain ⟨h1, h⟩ := of_chk h
 obtain ⟨h2, h⟩ := of_chk h
 obtain ⟨s2_A, hA⟩ : ∃ A, A = if a0_c = (0 : Int).toNat then a0_A else adr a0_A ((0 : Int).toNat * Cod.size (CI .u8)) := ⟨_, rfl⟩
 obtain ⟨s2_n, hn⟩ : ∃ n, n = (8 : Int).toNat - (0 : Int).toNat := ⟨_, rfl⟩
 obtain ⟨s2_c, hc⟩ : ∃ c, c = a0_c - (0 : Int).toNat := ⟨_, rfl⟩
 refine wpG.tD 1 false (some 4) (.slice s2_A s2_n s2_c) (yld_sub (C := (CI .u8)) (t := 26) (e := 5) (low := none) (high := some (.int .i64 8)) (lo := 0) (hi := 8) (hs.rowR 0 rfl) (by kernel_rfl) (by kernel_rfl) (by kernel_rfl) (.inl ⟨rfl, rfl⟩) (.inr ⟨_, rfl⟩) h0 h1 h2 hA hn hc) ?_
 have hs := hs.addSub (C := (CI .u8)) 0 rfl h0 h1 h2 hA hn hc
 refine wpG.q 3 6 (.slice a0_A a0_n a0_c) ?_
 obtain ⟨h0, h⟩ := of_chk h
 obtain ⟨h1, h⟩ := of_chk h
 obtain ⟨h2, h⟩ := of_chk h
 obtain ⟨s3_A, hA⟩ : ∃ A, A = if a0_c = (8 : Int).toNat then a0_A else adr a0_A ((8 : Int).toNat * Cod.size (CI .u8)) := ⟨_, rfl⟩
 obtain ⟨s3_n, hn⟩ : ∃ n, n = (16 : Int).toNat - (8 : Int).toNat := ⟨_, rfl⟩
 obtain ⟨s3_c, hc⟩ : ∃ c, c = a0_c - (8 : Int).toNat := ⟨_, rfl⟩
 refine wpG.tD 4 false (some 7) (.slice s3_A s3_n s3_c) (yld_sub (C := (CI .u8)) (t := 26) (e := 5) (low := some (.int .i64 8)) (high := some (.int .i64 16)) (lo := 8) (hi := 16) (hs.rowR 1 rfl) (by kernel_rfl) (by kernel_rfl) (by kernel_rfl) (.inr ⟨_, rfl⟩) (.inr ⟨_, rfl⟩) h0 h1 h2 hA hn hc) ?_
 have hs := hs.addSub (C := (CI .u8)) 1 rfl h0 h1 h2 hA hn hc
 obtain ⟨r4, hg, h⟩ := of_bind h
 refine wpG.only 2 (by kernel_rfl) (op_call (d := (some 5)) (by kernel_rfl) hs (fun _ => by kernel_rfl) (bits_Num.ok hg _ (hs.rowR 1 rfl)) ?_)
 intro w gw hs
 refine ⟨.of gw, ?_⟩
 obtain ⟨r5, hg, h⟩ := of_bind h
 refine wpG.only 5 (by kernel_rfl) (op_call (d := (some 8)) (by kernel_rfl) hs (fun _ => by kernel_rfl) (bits_Num.ok hg _ (hs.rowR 0 rfl)) ?_)
 intro w gw hs
 refine ⟨.of gw, ?_⟩
 refine wpG.q 6 9 (.agg #[.int .u64 r4, .int .u64 r5]) ?_
 refine wpG.only 7 (by kernel_rfl) (op_storeW (t := 84) (v := .agg #[.int .u64 r4, .int .u64 r5]) (d := none) (by kernel_rfl) hs 0 rfl (vs := [.int .u64 r4, .int .u64 r5]) (n := 2) (by kernel_rfl) (by kernel_rfl) (by kernel_rfl) (by simp [enc_len]) (by simp [enc_len]) (by simp [Value.oneCell']) ?_)
 intro w kp hs
 refine ⟨⟨fun hf => absurd hf (by decide), .all _ _⟩, ?_⟩
 refine wpG.fin (by kernel_rfl) rfl (kr4 _ _ ?_)
 refine then_n (ks3 _ _ (xret ?_))
 obtain ⟨q0, qr0⟩ := Prod.mk.inj (of_some h)
 have q1 := qr0
 subst q0
 subst q1
 exact qq _ _ (post_ret (by kernel_rfl) (run_results [.cell 2 84] [.agg #[.int .u64 r4, .int .u64 r5]] (by kernel_rfl) (.cons (res_cellN (n := 2) hs 0 rfl (by kernel_rfl) (by kernel_rfl) (by kernel_rfl) (by simp [enc_len])) .nil)) ⟨congrArg Ending.returned (by kernel_rfl), hs.none⟩)

theorem gcm_element_bytes.ok {K : Nat} {a0_0 : Int} {a0_1 : Int} {r0 : List Int} (h : gcm_element_bytes.f K a0_0 a0_1 = some r0) (w0 : World) : Calls Try.prog 77 #[.agg #[.int .u64 a0_0, .int .u64 a0_1]] w0 fun e w' => ∃ h : (Option Addr × Nat × Nat), e = .returned (.slice h.1 h.2.1 h.2.2) ∧ St w0 [] [.ownL (CI .u8) h.1 h.2.1 h.2.2 r0 5] [] w' := by
 refine calls_k Try.func77 rfl fun Q qq => ?_
 have hs := St.start w0
 refine wp_conv (a' := ⟨#[.agg #[.int .u64 a0_0, .int .u64 a0_1], undef, undef, undef, undef, undef, undef, undef, undef, undef, undef], []⟩) (by kernel_rfl) ?_
 refine xseq_k fun KS1 ks1 => ?_
 refine xregS [0, 1] fun KR2 kr2 => ?_
 refine wpS.only 0 (op_box (t := 84) (v := .agg #[.int .u64 a0_0, .int .u64 a0_1]) (d := (some 1)) (by kernel_rfl) hs ([.int .u64 a0_0, .int .u64 a0_1]) (by kernel_rfl) (by kernel_rfl) ?_)
 intro b1 w gw hs
 refine ⟨fun _ => trivial, ?_⟩
 refine wpS.q 1 2 (.slice none 0 0) ?_
 refine wpS.fin rfl (kr2 _ _ (then_n (ks1 _ _ (xseq_k fun KS3 ks3 => ?_))))
 refine wp_regG [] (fun k => True) 9 (by kernel_rfl) (by kernel_rfl) (by kernel_rfl) fun KR4 kr4 => ?_
 have hs := hs.drawn1
 refine wpG.q 0 3 (.pointer (some ⟨b1, 0, none⟩)) ?_
 refine wpG.tD 1 true (some 4) (.int .u64 a0_0) (yld_load1 (e := 64) (o := 0) hs 0 rfl (by kernel_rfl) (by kernel_rfl) (by rfl) .grow) ?_
 refine wpG.q 3 6 (.pointer (some ⟨b1, 1, none⟩)) ?_
 refine wpG.tD 4 true (some 7) (.int .u64 a0_1) (yld_load1 (e := 64) (o := 1) hs 0 rfl (by kernel_rfl) (by kernel_rfl) (by rfl) .grow) ?_
 obtain ⟨r2, hg, h⟩ := of_bind h
 refine wpG.only 2 (by kernel_rfl) (op_callH (d := (some 5)) (by kernel_rfl) hs (fun _ => by kernel_rfl) (bits_Be.ok hg _) ?_)
 rintro ⟨r2_A, r2_n, r2_c⟩ w gw hs
 have hs := hs.conv (L' := [.ownL (CI .u8) r2_A r2_n r2_c r2 5, .blk b1 ([.int .u64 a0_0, .int .u64 a0_1]) 84]) rfl
 refine ⟨.of gw, ?_⟩
 obtain ⟨r3, hg, h⟩ := of_bind h
 refine wpG.only 5 (by kernel_rfl) (op_callH (d := (some 8)) (by kernel_rfl) hs (fun _ => by kernel_rfl) (bits_Be.ok hg _) ?_)
 rintro ⟨r3_A, r3_n, r3_c⟩ w gw hs
 have hs := hs.conv (L' := [.ownL (CI .u8) r3_A r3_n r3_c r3 5, .ownL (CI .u8) r2_A r2_n r2_c r2 5, .blk b1 ([.int .u64 a0_0, .int .u64 a0_1]) 84]) rfl
 refine ⟨.of gw, ?_⟩
 refine wpG.only 6 (by kernel_rfl) (op_lit (C := CS) (t := 44) (e := 26) (len := 2) (parts := #[(0, .slice r2_A r2_n r2_c), (1, .slice r3_A r3_n r3_c)]) (l := ([(r2_A, r2_n, r2_c), (r3_A, r3_n, r3_c)] : List HS)) (d := (some 9)) (by kernel_rfl) hs (by kernel_rfl) (by kernel_rfl) (by kernel_rfl) (z := .slice none 0 0) (by kernel_rfl) rfl (by decide) (by decide) (by kernel_rfl) ?_)
 intro s4_A s4_n s4_c w gw hs
 refine ⟨.of gw, ?_⟩
 obtain ⟨r5, hg, h⟩ := of_bind h
 refine wpG.only 7 (by kernel_rfl) (op_callH (d := (some 10)) (by kernel_rfl) hs (fun _ => by kernel_rfl) (bits_Join.ok hg _ (LLP.mk (hs.rowL 0 rfl) (inn_cons (hs.rowL 2 rfl) (inn_cons (hs.rowL 1 rfl) inn_nil)))) ?_)
 rintro ⟨r5_A, r5_n, r5_c⟩ w gw hs
 have hs := hs.conv (L' := [.ownL (CI .u8) r5_A r5_n r5_c r5 5, .ownL CS s4_A s4_n s4_c ([(r2_A, r2_n, r2_c), (r3_A, r3_n, r3_c)] : List HS) 26, .ownL (CI .u8) r3_A r3_n r3_c r3 5, .ownL (CI .u8) r2_A r2_n r2_c r2 5, .blk b1 ([.int .u64 a0_0, .int .u64 a0_1]) 84]) rfl
 refine ⟨.of gw, ?_⟩
 refine wpG.q 8 2 (.slice r5_A r5_n r5_c) ?_
 refine wpG.fin (by kernel_rfl) rfl (kr4 _ _ ?_)
 refine then_n (ks3 _ _ (xret ?_))
 have q0 := of_some h
 subst q0
 exact qq _ _ (post_ret (by kernel_rfl) (run_results [.tmp 2] [.slice r5_A r5_n r5_c] (by kernel_rfl) (.cons (res_tmp (by kernel_rfl)) .nil)) ⟨⟨r5_A, r5_n, r5_c⟩, congrArg Ending.returned (by kernel_rfl), (hs.drop (.cons_cons _ (.cons _ (.cons _ (.cons _ (.cons _ .slnil))))))⟩)

theorem gcm_element_xor.ok {K : Nat} {a0_0 : Int} {a0_1 : Int} {a1_0 : Int} {a1_1 : Int} {r0_0 : Int} {r0_1 : Int} (h : gcm_element_xor.f K a0_0 a0_1 a1_0 a1_1 = some (r0_0, r0_1)) (w0 : World) : Ret Try.prog 105 #[.agg #[.int .u64 a0_0, .int .u64 a0_1], .agg #[.int .u64 a1_0, .int .u64 a1_1]] w0 (.agg #[.int .u64 r0_0, .int .u64 r0_1]) := by
 refine calls_k Try.func105 rfl fun Q qq => ?_
 have hs := St.start w0
 refine wp_conv (a' := ⟨#[.agg #[.int .u64 a0_0, .int .u64 a0_1], .agg #[.int .u64 a1_0, .int .u64 a1_1], undef, undef, undef, undef, undef, undef, undef, undef, undef, undef, undef, undef, undef, undef], []⟩) (by kernel_rfl) ?_
 refine xseq_k fun KS1 ks1 => ?_
 refine xregS [0, 1, 2] fun KR2 kr2 => ?_
 refine wpS.only 0 (op_box (t := 84) (v := .agg #[.int .u64 a0_0, .int .u64 a0_1]) (d := (some 2)) (by kernel_rfl) hs ([.int .u64 a0_0, .int .u64 a0_1]) (by kernel_rfl) (by kernel_rfl) ?_)
 intro b1 w gw hs
 refine ⟨fun _ => trivial, ?_⟩
 refine wpS.only 1 (op_box (t := 84) (v := .agg #[.int .u64 a1_0, .int .u64 a1_1]) (d := (some 3)) (by kernel_rfl) hs ([.int .u64 a1_0, .int .u64 a1_1]) (by kernel_rfl) (by kernel_rfl) ?_)
 intro b2 w gw hs
 refine ⟨fun _ => trivial, ?_⟩
 refine wpS.only 2 (op_alloc (t := 84) (d := (some 4)) (by kernel_rfl) hs ([.int .u64 0, .int .u64 0]) (.agg #[.int .u64 0, .int .u64 0]) (by kernel_rfl) (by kernel_rfl) (by kernel_rfl) ?_)
 intro b3 w gw hs
 refine ⟨fun _ => trivial, ?_⟩
 refine wpS.fin rfl (kr2 _ _ (then_n (ks1 _ _ (xseq_k fun KS3 ks3 => (xregS [0, 1, 2, 3, 4, 5, 6, 7, 8, 9, 10, 11] fun KR4 kr4 => ?_)))))
 refine wpS.q 0 5 (.pointer (some ⟨b1, 0, none⟩)) ?_
 refine wpS.tk 1 true (some 6) (.int .u64 a0_0) (yld_load1 (e := 64) (o := 0) hs 2 rfl (by kernel_rfl) (by kernel_rfl) (by rfl) .grow) ?_
 refine wpS.q 2 7 (.pointer (some ⟨b2, 0, none⟩)) ?_
 refine wpS.tk 3 true (some 8) (.int .u64 a1_0) (yld_load1 (e := 64) (o := 0) hs 1 rfl (by kernel_rfl) (by kernel_rfl) (by rfl) .grow) ?_
 refine wpS.qs [(4, 9, .int .u64 (ixor .u64 a0_0 a1_0)), (5, 10, .pointer (some ⟨b1, 1, none⟩))] ?_
 refine wpS.tk 6 true (some 11) (.int .u64 a0_1) (yld_load1 (e := 64) (o := 1) hs 2 rfl (by kernel_rfl) (by kernel_rfl) (by rfl) .grow) ?_
 refine wpS.q 7 12 (.pointer (some ⟨b2, 1, none⟩)) ?_
 refine wpS.tk 8 true (some 13) (.int .u64 a1_1) (yld_load1 (e := 64) (o := 1) hs 1 rfl (by kernel_rfl) (by kernel_rfl) (by rfl) .grow) ?_
 refine wpS.qs [(9, 14, .int .u64 (ixor .u64 a0_1 a1_1)), (10, 15, .agg #[.int .u64 (ixor .u64 a0_0 a1_0), .int .u64 (ixor .u64 a0_1 a1_1)])] ?_
 refine wpS.only 11 (op_storeW (t := 84) (v := .agg #[.int .u64 (ixor .u64 a0_0 a1_0), .int .u64 (ixor .u64 a0_1 a1_1)]) (d := none) (by kernel_rfl) hs 0 rfl (vs := [.int .u64 (ixor .u64 a0_0 a1_0), .int .u64 (ixor .u64 a0_1 a1_1)]) (n := 2) (by kernel_rfl) (by kernel_rfl) (by kernel_rfl) (by simp [enc_len]) (by simp [enc_len]) (by simp [Value.oneCell']) ?_)
 intro w kp hs
 refine ⟨fun _ => trivial, ?_⟩
 refine wpS.fin rfl (kr4 _ _ (then_n (ks3 _ _ (xret ?_))))
 obtain ⟨q0, qr0⟩ := Prod.mk.inj (of_some h)
 have q1 := qr0
 subst q0
 subst q1
 exact qq _ _ (post_ret (by kernel_rfl) (run_results [.cell 4 84] [.agg #[.int .u64 (ixor .u64 a0_0 a1_0), .int .u64 (ixor .u64 a0_1 a1_1)]] (by kernel_rfl) (.cons (res_cellN (n := 2) hs 0 rfl (by kernel_rfl) (by kernel_rfl) (by kernel_rfl) (by simp [enc_len])) .nil)) ⟨congrArg Ending.returned (by kernel_rfl), hs.none⟩)

theorem gcm_element_next.ok {K : Nat} {a0_0 : Int} {a0_1 : Int} {r0_0 : Int} {r0_1 : Int} (h : gcm_element_next.f K a0_0 a0_1 = some (r0_0, r0_1)) (w0 : World) : Ret Try.prog 106 #[.agg #[.int .u64 a0_0, .int .u64 a0_1]] w0 (.agg #[.int .u64 r0_0, .int .u64 r0_1]) := by
 refine calls_k Try.func106 rfl fun Q qq => ?_
 have hs := St.start w0
 refine wp_conv (a' := ⟨#[.agg #[.int .u64 a0_0, .int .u64 a0_1], undef, undef, undef, undef, undef, undef, undef, undef, undef, undef, undef, undef, undef, undef, undef, undef, undef, undef, undef, undef, undef], []⟩) (by kernel_rfl) ?_
 refine xseq_k fun KS1 ks1 => ?_
 refine xregS [0, 1] fun KR2 kr2 => ?_
 refine wpS.only 0 (op_box (t := 84) (v := .agg #[.int .u64 a0_0, .int .u64 a0_1]) (d := (some 1)) (by kernel_rfl) hs ([.int .u64 a0_0, .int .u64 a0_1]) (by kernel_rfl) (by kernel_rfl) ?_)
 intro b1 w gw hs
 refine ⟨fun _ => trivial, ?_⟩
 refine wpS.only 1 (op_alloc (t := 84) (d := (some 2)) (by kernel_rfl) hs ([.int .u64 0, .int .u64 0]) (.agg #[.int .u64 0, .int .u64 0]) (by kernel_rfl) (by kernel_rfl) (by kernel_rfl) ?_)
 intro b2 w gw hs
 refine ⟨fun _ => trivial, ?_⟩
 refine wpS.fin rfl (kr2 _ _ (then_n (ks1 _ _ (xseq_k fun KS3 ks3 => (xregS [0, 1, 2, 3, 4] fun KR4 kr4 => ?_)))))
 refine wpS.q 0 4 (.pointer (some ⟨b1, 1, none⟩)) ?_
 refine wpS.tk 1 true (some 5) (.int .u64 a0_1) (yld_load1 (e := 64) (o := 1) hs 1 rfl (by kernel_rfl) (by kernel_rfl) (by rfl) .grow) ?_
 refine wpS.qs [(2, 6, .int .u64 (iand .u64 a0_1 1)), (3, 7, .int .u64 (isub .u64 0 (iand .u64 a0_1 1)))] ?_
 obtain ⟨x3, hx, h⟩ := of_bind h
 refine wpS.tk 4 false (some 3) (.int .u64 x3) (yld_int hx (fun _ => by kernel_rfl)) ?_
 refine wpS.fin rfl (kr4 _ _ (then_n (ks3 _ _ (xseq_k fun KS5 ks5 => (xregS [0, 1, 2, 3, 4, 5, 6, 7, 8, 9, 10, 11, 12, 13, 14] fun KR6 kr6 => ?_)))))
 refine wpS.q 0 8 (.pointer (some ⟨b1, 0, none⟩)) ?_
 refine wpS.tk 1 true (some 9) (.int .u64 a0_0) (yld_load1 (e := 64) (o := 0) hs 1 rfl (by kernel_rfl) (by kernel_rfl) (by rfl) .grow) ?_
 refine wpS.qs [(2, 10, .int .u64 (ishr .u64 a0_0 1)), (3, 11, .int .u64 x3), (4, 12, .int .u64 (iand .u64 16212958658533785600 x3)), (5, 13, .int .u64 (ixor .u64 (ishr .u64 a0_0 1) (iand .u64 16212958658533785600 x3))), (6, 14, .pointer (some ⟨b1, 1, none⟩))] ?_
 refine wpS.tk 7 true (some 15) (.int .u64 a0_1) (yld_load1 (e := 64) (o := 1) hs 1 rfl (by kernel_rfl) (by kernel_rfl) (by rfl) .grow) ?_
 refine wpS.qs [(8, 16, .int .u64 (ishr .u64 a0_1 1)), (9, 17, .pointer (some ⟨b1, 0, none⟩))] ?_
 refine wpS.tk 10 true (some 18) (.int .u64 a0_0) (yld_load1 (e := 64) (o := 0) hs 1 rfl (by kernel_rfl) (by kernel_rfl) (by rfl) .grow) ?_
 refine wpS.qs [(11, 19, .int .u64 (ishl .u64 a0_0 63)), (12, 20, .int .u64 (ior .u64 (ishr .u64 a0_1 1) (ishl .u64 a0_0 63))), (13, 21, .agg #[.int .u64 (ixor .u64 (ishr .u64 a0_0 1) (iand .u64 16212958658533785600 x3)), .int .u64 (ior .u64 (ishr .u64 a0_1 1) (ishl .u64 a0_0 63))])] ?_
 refine wpS.only 14 (op_storeW (t := 84) (v := .agg #[.int .u64 (ixor .u64 (ishr .u64 a0_0 1) (iand .u64 16212958658533785600 x3)), .int .u64 (ior .u64 (ishr .u64 a0_1 1) (ishl .u64 a0_0 63))]) (d := none) (by kernel_rfl) hs 0 rfl (vs := [.int .u64 (ixor .u64 (ishr .u64 a0_0 1) (iand .u64 16212958658533785600 x3)), .int .u64 (ior .u64 (ishr .u64 a0_1 1) (ishl .u64 a0_0 63))]) (n := 2) (by kernel_rfl) (by kernel_rfl) (by kernel_rfl) (by simp [enc_len]) (by simp [enc_len]) (by simp [Value.oneCell']) ?_)
 intro w kp hs
 refine ⟨fun _ => trivial, ?_⟩
 refine wpS.fin rfl (kr6 _ _ (then_n (ks5 _ _ (xret ?_))))
 obtain ⟨q0, qr0⟩ := Prod.mk.inj (of_some h)
 have q1 := qr0
 subst q0
 subst q1
 exact qq _ _ (post_ret (by kernel_rfl) (run_results [.cell 2 84] [.agg #[.int .u64 (ixor .u64 (ishr .u64 a0_0 1) (iand .u64 16212958658533785600 x3)), .int .u64 (ior .u64 (ishr .u64 a0_1 1) (ishl .u64 a0_0 63))]] (by kernel_rfl) (.cons (res_cellN (n := 2) hs 0 rfl (by kernel_rfl) (by kernel_rfl) (by kernel_rfl) (by simp [enc_len])) .nil)) ⟨congrArg Ending.returned (by kernel_rfl), hs.none⟩)

theorem gcm_element_times.ok {K : Nat} {a0_0 : Int} {a0_1 : Int} {a1_0 : Int} {a1_1 : Int} {r0_0 : Int} {r0_1 : Int} (h : gcm_element_times.f K a0_0 a0_1 a1_0 a1_1 = some (r0_0, r0_1)) (w0 : World) : Ret Try.prog 76 #[.agg #[.int .u64 a0_0, .int .u64 a0_1], .agg #[.int .u64 a1_0, .int .u64 a1_1]] w0 (.agg #[.int .u64 r0_0, .int .u64 r0_1]) := by
 refine calls_k Try.func76 rfl fun Q qq => ?_
 have hs := St.start w0
 refine wp_conv (a' := ⟨#[.agg #[.int .u64 a0_0, .int .u64 a0_1], .agg #[.int .u64 a1_0, .int .u64 a1_1], undef, undef, undef, undef, undef, undef, undef, undef, undef, undef, undef, undef, undef, undef, undef, undef, undef, undef, undef, undef, undef, undef, undef, undef, undef, undef, undef, undef, undef], []⟩) (by kernel_rfl) ?_
 refine xseq_k fun KS1 ks1 => ?_
 refine xregS [0, 1, 2] fun KR2 kr2 => ?_
 refine wpS.only 0 (op_box (t := 84) (v := .agg #[.int .u64 a0_0, .int .u64 a0_1]) (d := (some 2)) (by kernel_rfl) hs ([.int .u64 a0_0, .int .u64 a0_1]) (by kernel_rfl) (by kernel_rfl) ?_)
 intro b1 w gw hs
 refine ⟨fun _ => trivial, ?_⟩
 refine wpS.only 1 (op_box (t := 84) (v := .agg #[.int .u64 a1_0, .int .u64 a1_1]) (d := (some 3)) (by kernel_rfl) hs ([.int .u64 a1_0, .int .u64 a1_1]) (by kernel_rfl) (by kernel_rfl) ?_)
 intro b2 w gw hs
 refine ⟨fun _ => trivial, ?_⟩
 refine wpS.only 2 (op_alloc (t := 84) (d := (some 4)) (by kernel_rfl) hs ([.int .u64 0, .int .u64 0]) (.agg #[.int .u64 0, .int .u64 0]) (by kernel_rfl) (by kernel_rfl) (by kernel_rfl) ?_)
 intro b3 w gw hs
 refine ⟨fun _ => trivial, ?_⟩
 refine wpS.fin rfl (kr2 _ _ (then_n (ks1 _ _ (xseq_k fun KS3 ks3 => (xregS [0] fun KR4 kr4 => ?_)))))
 refine wpS.only 0 (op_alloc (t := 84) (d := (some 5)) (by kernel_rfl) hs ([.int .u64 0, .int .u64 0]) (.agg #[.int .u64 0, .int .u64 0]) (by kernel_rfl) (by kernel_rfl) (by kernel_rfl) ?_)
 intro b4 w gw hs
 refine ⟨fun _ => trivial, ?_⟩
 refine wpS.fin rfl (kr4 _ _ (then_n (ks3 _ _ (xseq_k fun KS5 ks5 => (xseq_k fun KS6 ks6 => (xregS [0] fun KR7 kr7 => ?_))))))
 refine wpS.q 0 8 (.int .i64 0) ?_
 refine wpS.fin rfl (kr7 _ _ (then_n (ks6 _ _ ?_)))
 obtain ⟨⟨y8_0, y8_1, y9_0, y9_1⟩, hy, hk0⟩ := of_bind h
 refine wp_exq (N := fun a w => St w0 [] [.blk b4 ([.int .u64 y8_0, .int .u64 y8_1]) 84, .blk b3 ([.int .u64 0, .int .u64 0]) 84, .blk b2 ([.int .u64 y9_0, .int .u64 y9_1]) 84, .blk b1 ([.int .u64 a0_0, .int .u64 a0_1]) 84] [] w ∧ ∃ g9 : Nat → Value, a = ⟨#[.agg #[.int .u64 a0_0, .int .u64 a0_1], .agg #[.int .u64 a1_0, .int .u64 a1_1], .pointer (some ⟨b1, 0, none⟩), .pointer (some ⟨b2, 0, none⟩), .pointer (some ⟨b3, 0, none⟩), .pointer (some ⟨b4, 0, none⟩), (g9 6), (g9 7), (g9 8), (g9 9), (g9 10), (g9 11), (g9 12), (g9 13), (g9 14), (g9 15), (g9 16), (g9 17), (g9 18), (g9 19), (g9 20), (g9 21), (g9 22), (g9 23), (g9 24), (g9 25), (g9 26), (g9 27), (g9 28), (g9 29), undef], []⟩) (fun N0 nn0 => ?_) ?_
 ·clear hk0
  refine xblock ?_
  refine wp_loop_k (fun n a w => ∃ z5 z6_0 z6_1 z7_0 z7_1, gcm_element_times.l0 K n a0_0 a0_1 z5 z6_0 z6_1 z7_0 z7_1 = some (y8_0, y8_1, y9_0, y9_1) ∧ St w0 [] [.blk b4 ([.int .u64 z6_0, .int .u64 z6_1]) 84, .blk b3 ([.int .u64 0, .int .u64 0]) 84, .blk b2 ([.int .u64 z7_0, .int .u64 z7_1]) 84, .blk b1 ([.int .u64 a0_0, .int .u64 a0_1]) 84] [] w ∧ ∃ g8 : Nat → Value, a = ⟨#[.agg #[.int .u64 a0_0, .int .u64 a0_1], .agg #[.int .u64 a1_0, .int .u64 a1_1], .pointer (some ⟨b1, 0, none⟩), .pointer (some ⟨b2, 0, none⟩), .pointer (some ⟨b3, 0, none⟩), .pointer (some ⟨b4, 0, none⟩), (g8 6), (g8 7), .int .i64 z5, (g8 9), (g8 10), (g8 11), (g8 12), (g8 13), (g8 14), (g8 15), (g8 16), (g8 17), (g8 18), (g8 19), (g8 20), (g8 21), (g8 22), (g8 23), (g8 24), (g8 25), (g8 26), (g8 27), (g8 28), (g8 29), undef], []⟩) K ⟨0, 0, 0, a1_0, a1_1, hy, hs.conv rfl, exg (by kernel_rfl)⟩ ?_
  clear hs h hy
  rintro n a w ⟨z5, z6_0, z6_1, z7_0, z7_1, h, hs, g8, rfl⟩ KL0 kl0
  cases n with
  | zero => exact nomatch (show none = some _ from h)
  | succ n =>
   refine xseq_k fun KS10 ks10 => ?_
   refine xregS [0] fun KR11 kr11 => ?_
   rcases of_if h with ⟨hc, h⟩ | ⟨hc, h⟩
   ·refine wpS.tk 0 false (some 9) (.bool true) (yld_b (dt hc) (fun _ => by kernel_rfl)) ?_
    refine wpS.fin rfl (kr11 _ _ (then_n (ks10 _ _ (xseq_k fun KS12 ks12 => (wp_cond_t (by kernel_rfl) (xskip (then_n (ks12 _ _ (xseq_k fun KS13 ks13 => (xblock (xseq_k fun KS14 ks14 => (xregS [0, 1] fun KR15 kr15 => ?_))))))))))))
    refine wpS.qs [(0, 10, .int .i64 z5), (1, 6, .int .i64 z5)] ?_
    refine wpS.fin rfl (kr15 _ _ (then_n (ks14 _ _ (xseq_k fun KS16 ks16 => (xregS [0, 1, 2] fun KR17 kr17 => ?_)))))
    refine wpS.q 0 11 (.pointer (some ⟨b1, 0, none⟩)) ?_
    refine wpS.tk 1 true (some 12) (.int .u64 a0_0) (yld_load1 (e := 64) (o := 0) hs 3 rfl (by kernel_rfl) (by kernel_rfl) (by rfl) .grow) ?_
    refine wpS.q 2 7 (.int .u64 a0_0) ?_
    refine wpS.fin rfl (kr17 _ _ (then_n (ks16 _ _ ?_)))
    obtain ⟨y10, hj, h⟩ := of_bind h
    refine xseq_k fun KS19 ks19 => wp_join (N := fun a w => St w0 [] [.blk b4 ([.int .u64 z6_0, .int .u64 z6_1]) 84, .blk b3 ([.int .u64 0, .int .u64 0]) 84, .blk b2 ([.int .u64 z7_0, .int .u64 z7_1]) 84, .blk b1 ([.int .u64 a0_0, .int .u64 a0_1]) 84] [] w ∧ ∃ g18 : Nat → Value, a = ⟨#[.agg #[.int .u64 a0_0, .int .u64 a0_1], .agg #[.int .u64 a1_0, .int .u64 a1_1], .pointer (some ⟨b1, 0, none⟩), .pointer (some ⟨b2, 0, none⟩), .pointer (some ⟨b3, 0, none⟩), .pointer (some ⟨b4, 0, none⟩), .int .i64 z5, .int .u64 y10, .int .i64 z5, .bool true, .int .i64 z5, .pointer (some ⟨b1, 0, none⟩), .int .u64 a0_0, (g18 13), (g18 14), (g18 15), (g18 16), (g8 17), (g8 18), (g8 19), (g8 20), (g8 21), (g8 22), (g8 23), (g8 24), (g8 25), (g8 26), (g8 27), (g8 28), (g8 29), undef], []⟩) (fun N nj => ?_) ?_
    ·clear h
     have h := hj
     refine xseq_k fun KS20 ks20 => ?_
     refine xregS [0, 1] fun KR21 kr21 => ?_
     refine wpS.q 0 13 (.int .i64 z5) ?_
     rcases of_if h with ⟨hc, h⟩ | ⟨hc, h⟩
     ·refine wpS.tk 1 false (some 14) (.bool true) (yld_b (dt hc) (fun _ => by kernel_rfl)) ?_
      refine wpS.fin rfl (kr21 _ _ (then_n (ks20 _ _ (wp_cond_t (by kernel_rfl) (xregS [0, 1, 2] fun KR22 kr22 => ?_)))))
      refine wpS.q 0 15 (.pointer (some ⟨b1, 1, none⟩)) ?_
      refine wpS.tk 1 true (some 16) (.int .u64 a0_1) (yld_load1 (e := 64) (o := 1) hs 3 rfl (by kernel_rfl) (by kernel_rfl) (by rfl) .grow) ?_
      refine wpS.q 2 7 (.int .u64 a0_1) ?_
      refine wpS.fin rfl (kr22 _ _ ?_)
      have q0 := of_some h
      subst q0
      exact nj _ _ ⟨(hs.conv rfl), exg (by kernel_rfl)⟩
     refine wpS.tk 1 false (some 14) (.bool false) (yld_b (df hc) (fun _ => by kernel_rfl)) ?_
     refine wpS.fin rfl (kr21 _ _ (then_n (ks20 _ _ (wp_cond_f (by kernel_rfl) (xskip ?_)))))
     have q0 := of_some h
     subst q0
     exact nj _ _ ⟨(hs.conv rfl), exg (by kernel_rfl)⟩
    clear hj hs
    rintro a w ⟨hs, g18, rfl⟩
    refine then_n (ks19 _ _ ?_)
    obtain ⟨⟨y11_0, y11_1⟩, hj, h⟩ := of_bind h
    refine xseq_k fun KS24 ks24 => wp_join (N := fun a w => St w0 [] [.blk b4 ([.int .u64 y11_0, .int .u64 y11_1]) 84, .blk b3 ([.int .u64 0, .int .u64 0]) 84, .blk b2 ([.int .u64 z7_0, .int .u64 z7_1]) 84, .blk b1 ([.int .u64 a0_0, .int .u64 a0_1]) 84] [] w ∧ ∃ g23 : Nat → Value, a = ⟨#[.agg #[.int .u64 a0_0, .int .u64 a0_1], .agg #[.int .u64 a1_0, .int .u64 a1_1], .pointer (some ⟨b1, 0, none⟩), .pointer (some ⟨b2, 0, none⟩), .pointer (some ⟨b3, 0, none⟩), .pointer (some ⟨b4, 0, none⟩), .int .i64 z5, .int .u64 y10, .int .i64 z5, .bool true, .int .i64 z5, .pointer (some ⟨b1, 0, none⟩), .int .u64 a0_0, (g18 13), (g18 14), (g18 15), (g18 16), (g23 17), (g23 18), (g23 19), (g23 20), (g23 21), (g23 22), (g23 23), (g23 24), (g23 25), (g23 26), (g8 27), (g8 28), (g8 29), undef], []⟩) (fun N nj => ?_) ?_
    ·clear h
     have h := hj
     refine xseq_k fun KS25 ks25 => ?_
     refine xregS [0, 1, 2, 3, 4, 5, 6] fun KR26 kr26 => ?_
     refine wpS.qs [(0, 17, .int .u64 y10), (1, 18, .int .i64 z5), (2, 19, .int .i64 (irem .i64 z5 64)), (3, 20, .int .i64 (isub .i64 63 (irem .i64 z5 64)))] ?_
     obtain ⟨h0, h⟩ := of_chk h
     refine wpS.tk 4 false (some 21) (.int .u64 (ishr .u64 y10 (isub .i64 63 (irem .i64 z5 64)))) (yld_shr (t := 64) (k' := .i64) (by kernel_rfl) h0) ?_
     refine wpS.q 5 22 (.int .u64 (iand .u64 (ishr .u64 y10 (isub .i64 63 (irem .i64 z5 64))) 1)) ?_
     rcases of_if h with ⟨hc, h⟩ | ⟨hc, h⟩
     ·refine wpS.tk 6 false (some 23) (.bool true) (yld_b (et hc) (fun _ => by kernel_rfl)) ?_
      refine wpS.fin rfl (kr26 _ _ (then_n (ks25 _ _ (wp_cond_t (by kernel_rfl) (xregS [0, 1, 2, 3] fun KR27 kr27 => ?_)))))
      refine wpS.tk 0 true (some 24) (.agg #[.int .u64 z6_0, .int .u64 z6_1]) (yld_loadW (e := 84) (n := 2) hs 0 rfl (by kernel_rfl) (by kernel_rfl) (by kernel_rfl) (by simp [enc_len]) .grow) ?_
      refine wpS.tk 1 true (some 25) (.agg #[.int .u64 z7_0, .int .u64 z7_1]) (yld_loadW (e := 84) (n := 2) hs 2 rfl (by kernel_rfl) (by kernel_rfl) (by kernel_rfl) (by simp [enc_len]) .grow) ?_
      obtain ⟨⟨r12_0, r12_1⟩, hg, h⟩ := of_bind h
      refine wpS.only 2 (op_call (d := (some 26)) (by kernel_rfl) hs (fun _ => by kernel_rfl) (gcm_element_xor.ok hg _) ?_)
      intro w gw hs
      refine ⟨fun _ => trivial, ?_⟩
      refine wpS.only 3 (op_storeW (t := 84) (v := .agg #[.int .u64 r12_0, .int .u64 r12_1]) (d := none) (by kernel_rfl) hs 0 rfl (vs := [.int .u64 r12_0, .int .u64 r12_1]) (n := 2) (by kernel_rfl) (by kernel_rfl) (by kernel_rfl) (by simp [enc_len]) (by simp [enc_len]) (by simp [Value.oneCell']) ?_)
      intro w kp hs
      refine ⟨fun _ => trivial, ?_⟩
      refine wpS.fin rfl (kr27 _ _ ?_)
      obtain ⟨q0, qr0⟩ := Prod.mk.inj (of_some h)
      have q1 := qr0
      subst q0
      subst q1
      exact nj _ _ ⟨(hs.conv rfl), exg (by kernel_rfl)⟩
     refine wpS.tk 6 false (some 23) (.bool false) (yld_b (ef hc) (fun _ => by kernel_rfl)) ?_
     refine wpS.fin rfl (kr26 _ _ (then_n (ks25 _ _ (wp_cond_f (by kernel_rfl) (xskip ?_)))))
     obtain ⟨q0, qr0⟩ := Prod.mk.inj (of_some h)
     have q1 := qr0
     subst q0
     subst q1
     exact nj _ _ ⟨(hs.conv rfl), exg (by kernel_rfl)⟩
    clear hj hs
    rintro a w ⟨hs, g23, rfl⟩
    refine then_n (ks24 _ _ (xregS [0, 1, 2] fun KR28 kr28 => ?_))
    refine wpS.tk 0 true (some 27) (.agg #[.int .u64 z7_0, .int .u64 z7_1]) (yld_loadW (e := 84) (n := 2) hs 2 rfl (by kernel_rfl) (by kernel_rfl) (by kernel_rfl) (by simp [enc_len]) .grow) ?_
    obtain ⟨⟨r13_0, r13_1⟩, hg, h⟩ := of_bind h
    refine wpS.only 1 (op_call (d := (some 28)) (by kernel_rfl) hs (fun _ => by kernel_rfl) (gcm_element_next.ok hg _) ?_)
    intro w gw hs
    refine ⟨fun _ => trivial, ?_⟩
    refine wpS.only 2 (op_storeW (t := 84) (v := .agg #[.int .u64 r13_0, .int .u64 r13_1]) (d := none) (by kernel_rfl) hs 2 rfl (vs := [.int .u64 r13_0, .int .u64 r13_1]) (n := 2) (by kernel_rfl) (by kernel_rfl) (by kernel_rfl) (by simp [enc_len]) (by simp [enc_len]) (by simp [Value.oneCell']) ?_)
    intro w kp hs
    refine ⟨fun _ => trivial, ?_⟩
    refine wpS.fin rfl (kr28 _ _ (inBlock_n (then_n (ks13 _ _ (xregS [0, 1] fun KR29 kr29 => ?_)))))
    refine wpS.qs [(0, 29, .int .i64 (iadd .i64 z5 1)), (1, 8, .int .i64 (iadd .i64 z5 1))] ?_
    refine wpS.fin rfl (kr29 _ _ ?_)
    exact then_n (kl0 _ _ ⟨n, Nat.lt_succ_self n, (iadd .i64 z5 1), y11_0, y11_1, r13_0, r13_1, h, (hs.conv rfl), exg (by kernel_rfl)⟩)
   refine wpS.tk 0 false (some 9) (.bool false) (yld_b (df hc) (fun _ => by kernel_rfl)) ?_
   refine wpS.fin rfl (kr11 _ _ (then_n (ks10 _ _ (xseq_k fun KS30 ks30 => (wp_cond_f (by kernel_rfl) (xexit (then_x (then_x (inBlock_hit ?_)))))))))
   obtain ⟨q0, qr0⟩ := Prod.mk.inj (of_some h)
   obtain ⟨q1, qr1⟩ := Prod.mk.inj (qr0)
   obtain ⟨q2, qr2⟩ := Prod.mk.inj (qr1)
   have q3 := qr2
   subst q0
   subst q1
   subst q2
   subst q3
   exact exq_n (nn0 _ _ ⟨(hs.conv rfl), exg (by kernel_rfl)⟩)
 clear hs h hy
 rintro a w ⟨hs, g9, rfl⟩
 have h := hk0
 refine then_n (ks5 _ _ (xseq_k fun KS31 ks31 => (xregS [0, 1] fun KR32 kr32 => ?_)))
 refine wpS.tk 0 true (some 30) (.agg #[.int .u64 y8_0, .int .u64 y8_1]) (yld_loadW (e := 84) (n := 2) hs 0 rfl (by kernel_rfl) (by kernel_rfl) (by kernel_rfl) (by simp [enc_len]) .grow) ?_
 refine wpS.only 1 (op_storeW (t := 84) (v := .agg #[.int .u64 y8_0, .int .u64 y8_1]) (d := none) (by kernel_rfl) hs 1 rfl (vs := [.int .u64 y8_0, .int .u64 y8_1]) (n := 2) (by kernel_rfl) (by kernel_rfl) (by kernel_rfl) (by simp [enc_len]) (by simp [enc_len]) (by simp [Value.oneCell']) ?_)
 intro w kp hs
 refine ⟨fun _ => trivial, ?_⟩
 refine wpS.fin rfl (kr32 _ _ (then_n (ks31 _ _ (xret ?_))))
 obtain ⟨q0, qr0⟩ := Prod.mk.inj (of_some h)
 have q1 := qr0
 subst q0
 subst q1
 exact qq _ _ (post_ret (by kernel_rfl) (run_results [.cell 4 84] [.agg #[.int .u64 y8_0, .int .u64 y8_1]] (by kernel_rfl) (.cons (res_cellN (n := 2) hs 1 rfl (by kernel_rfl) (by kernel_rfl) (by kernel_rfl) (by simp [enc_len])) .nil)) ⟨congrArg Ending.returned (by kernel_rfl), hs.none⟩)

theorem gcm_summer_add.ok {K : Nat} {a0_0_0 : Int} {a0_0_1 : Int} {a0_1_0 : Int} {a0_1_1 : Int} {a1 : List Int} {rp_0_0 : Int} {rp_0_1 : Int} {rp_1_0 : Int} {rp_1_1 : Int} {p0 : Nat} {a1_A : Option Addr} {a1_n : Nat} {a1_c : Nat} (h : gcm_summer_add.f K a0_0_0 a0_0_1 a0_1_0 a0_1_1 a1 = some (rp_0_0, rp_0_1, rp_1_0, rp_1_1)) (w0 : World) (hp1 : RowL (CI .u8) w0 a1_A a1_n a1_c a1) (hb : w0.heap[p0]? = some (.cells ([.int .u64 a0_0_0, .int .u64 a0_0_1, .int .u64 a0_1_0, .int .u64 a0_1_1]).toArray 91 (0, 0))) (fhp1 : ¬ (Ent.rowL (CI .u8) a1_A a1_n a1_c a1).foot p0) : Calls Try.prog 79 #[.pointer (some ⟨p0, 0, none⟩), .slice a1_A a1_n a1_c] w0 fun e w' => e = .returned (.tuple #[]) ∧ St w0 [p0] [.blk p0 ([.int .u64 rp_0_0, .int .u64 rp_0_1, .int .u64 rp_1_0, .int .u64 rp_1_1]) 91] [] w' := by
 refine calls_kn Try.func79 rfl fun Q qq qn => ?_
 have hs := St.startX hb (allX_cons (RowP.ent hp1) fhp1 allX_nil)
 refine wp_conv (a' := ⟨#[.pointer (some ⟨p0, 0, none⟩), .slice a1_A a1_n a1_c, undef, undef, undef, undef, undef, undef, undef, undef, undef, undef, undef, undef, undef, undef, undef, undef, undef, undef, undef, undef, undef, undef, undef, undef, undef, undef, undef, undef], []⟩) (by kernel_rfl) ?_
 obtain ⟨⟨y3_0_0, y3_0_1, y3_1_0, y3_1_1⟩, hy, hk0⟩ := of_bind h
 refine wp_exq (N := fun a w => St w0 [p0] [.blk p0 ([.int .u64 y3_0_0, .int .u64 y3_0_1, .int .u64 y3_1_0, .int .u64 y3_1_1]) 91] [.rowL (CI .u8) a1_A a1_n a1_c a1] w ∧ ∃ g2 : Nat → Value, a = ⟨#[.pointer (some ⟨p0, 0, none⟩), (g2 1), undef, undef, (g2 4), (g2 5), (g2 6), (g2 7), (g2 8), (g2 9), (g2 10), (g2 11), (g2 12), (g2 13), (g2 14), (g2 15), (g2 16), (g2 17), (g2 18), (g2 19), (g2 20), (g2 21), (g2 22), (g2 23), (g2 24), (g2 25), (g2 26), (g2 27), (g2 28), (g2 29)], []⟩) (fun N0 nn0 => ?_) ?_
 ·clear hk0
  refine xblock ?_
  refine wp_loop_k (fun n a w => ∃ z1_0_0 z1_0_1 z1_1_0 z1_1_1 z2, ∃ (z2_A : Option Addr) (z2_n : Nat) (z2_c : Nat), gcm_summer_add.l0 K n z1_0_0 z1_0_1 z1_1_0 z1_1_1 z2 = some (y3_0_0, y3_0_1, y3_1_0, y3_1_1) ∧ St w0 [p0] [.blk p0 ([.int .u64 z1_0_0, .int .u64 z1_0_1, .int .u64 z1_1_0, .int .u64 z1_1_1]) 91] [.rowL (CI .u8) z2_A z2_n z2_c z2, .rowL (CI .u8) a1_A a1_n a1_c a1] w ∧ ∃ g1 : Nat → Value, a = ⟨#[.pointer (some ⟨p0, 0, none⟩), .slice z2_A z2_n z2_c, undef, undef, (g1 4), (g1 5), (g1 6), (g1 7), (g1 8), (g1 9), (g1 10), (g1 11), (g1 12), (g1 13), (g1 14), (g1 15), (g1 16), (g1 17), (g1 18), (g1 19), (g1 20), (g1 21), (g1 22), (g1 23), (g1 24), (g1 25), (g1 26), (g1 27), (g1 28), (g1 29)], []⟩) K ⟨a0_0_0, a0_0_1, a0_1_0, a0_1_1, a1, a1_A, a1_n, a1_c, hy, (hs.conv (L' := [.blk p0 ([.int .u64 a0_0_0, .int .u64 a0_0_1, .int .u64 a0_1_0, .int .u64 a0_1_1]) 91]) rfl).pickR (pick_cons 0 rfl (pick_cons 0 rfl pick_nil)), exg (by kernel_rfl)⟩ ?_
  clear hs h hy
  rintro n a w ⟨z1_0_0, z1_0_1, z1_1_0, z1_1_1, z2, z2_A, z2_n, z2_c, h, hs, g1, rfl⟩ KL0 kl0
  cases n with
  | zero => exact nomatch (show none = some _ from h)
  | succ n =>
   refine xseq_k fun KS3 ks3 => ?_
   refine xseq_k fun KS4 ks4 => ?_
   refine xregS [0, 1, 2] fun KR5 kr5 => ?_
   refine wpS.q 0 6 (.slice z2_A z2_n z2_c) ?_
   refine wpS.tk 1 false (some 7) (.int .i64 (z2.length : Int)) (yld_lenL (hs.rowR 0 rfl) (fun _ => by kernel_rfl)) ?_
   rcases of_if h with ⟨hc, h⟩ | ⟨hc, h⟩
   ·refine wpS.tk 2 false (some 8) (.bool true) (yld_b (dt hc) (fun _ => by kernel_rfl)) ?_
    refine wpS.fin rfl (kr5 _ _ (then_n (ks4 _ _ (wp_cond_t (by kernel_rfl) (xskip (then_n (ks3 _ _ (xblock (xseq_k fun KS6 ks6 => (xregS [0] fun KR7 kr7 => ?_))))))))))
    refine wpS.only 0 (op_alloc (t := 42) (d := (some 4)) (by kernel_rfl) hs (enc .u8 (zeroA 16)) (.agg (enc .u8 (zeroA 16)).toArray) (by kernel_rfl) (by kernel_rfl) (by kernel_rfl) ?_)
    intro b4 w gw hs
    refine ⟨fun _ => trivial, ?_⟩
    refine wpS.fin rfl (kr7 _ _ (then_n (ks6 _ _ (xseq_k fun KS8 ks8 => (xregS [0, 1, 2, 3] fun KR9 kr9 => ?_)))))
    refine wpS.tk 0 false (some 9) (.slice (some ⟨b4, 0 + (0 : Int).toNat * 1, none⟩) ((16 : Int).toNat - (0 : Int).toNat) (16 - (0 : Int).toNat)) (yld_slA2 (t := 42) (e := 5) (n := 16) (low := Option.none) (high := Option.none) (lo := 0) (hi := 16) (by kernel_rfl) (by kernel_rfl) (by kernel_rfl) (.inl ⟨rfl, rfl⟩) (.inl ⟨rfl, rfl⟩) (by decide) (by decide) (by decide) (by decide)) ?_
    refine wpS.q 1 10 (.slice z2_A z2_n z2_c) ?_
    refine wpS.only 2 (op_copyA (td := 26) (ts := 26) (ty := 3) (e := 5) (n := 16) (k := .u8) (c := (zeroA 16)) (lo := 0) (hi := 16) (d := (some 11)) (by kernel_rfl) hs 0 rfl (hs.rowR 0 rfl) (by kernel_rfl) (by kernel_rfl) (by kernel_rfl) (by decide) (by decide) (by decide) ?_)
    intro w kp hs
    refine ⟨fun _ => trivial, ?_⟩
    obtain ⟨x5, hx, h⟩ := of_bind h
    refine wpS.tk 3 false (some 5) (.int .i64 x5) (yld_int hx (fun _ => by kernel_rfl)) ?_
    refine wpS.fin rfl (kr9 _ _ (then_n (ks8 _ _ (xseq_k fun KS11 ks11 => ?_))))
    refine wp_regG [15] (fun k => True) 16 (by kernel_rfl) (by kernel_rfl) (by kernel_rfl) fun KR12 kr12 => ?_
    have hs := hs.drawn1
    refine wpG.q 0 12 (.pointer (some ⟨p0, 0, none⟩)) ?_
    refine wpG.q 1 13 (.pointer (some ⟨p0, 0, none⟩)) ?_
    refine wpG.q 2 14 (.pointer (some ⟨p0, 0, none⟩)) ?_
    refine wpG.q 3 15 (.pointer (some ⟨p0, 2, none⟩)) ?_
    refine wpG.tD 4 true (some 16) (.agg #[.int .u64 z1_1_0, .int .u64 z1_1_1]) (yld_loadN (e := 84) (n := 2) (o := 2) hs 1 rfl (by kernel_rfl) (by kernel_rfl) (by kernel_rfl) (by simp [enc_len]) (by simp [enc_len]) .grow) ?_
    refine wpG.tD 5 false (some 17) (.slice (some ⟨b4, 0 + (0 : Int).toNat * 1, none⟩) ((16 : Int).toNat - (0 : Int).toNat) (16 - (0 : Int).toNat)) (yld_slA2 (t := 42) (e := 5) (n := 16) (low := Option.none) (high := Option.none) (lo := 0) (hi := 16) (by kernel_rfl) (by kernel_rfl) (by kernel_rfl) (.inl ⟨rfl, rfl⟩) (.inl ⟨rfl, rfl⟩) (by decide) (by decide) (by decide) (by decide)) ?_
    refine wpG.q 8 20 (.pointer (some ⟨p0, 0, none⟩)) ?_
    refine wpG.q 9 21 (.pointer (some ⟨p0, 0, none⟩)) ?_
    refine wpG.q 10 22 (.pointer (some ⟨p0, 0, none⟩)) ?_
    refine wpG.tD 11 true (some 23) (.agg #[.int .u64 z1_0_0, .int .u64 z1_0_1]) (yld_loadN (e := 84) (n := 2) (o := 0) hs 1 rfl (by kernel_rfl) (by kernel_rfl) (by kernel_rfl) (by simp [enc_len]) (by simp [enc_len]) .grow) ?_
    obtain ⟨⟨r6_0, r6_1⟩, hg, h⟩ := of_bind h
    refine wpG.only 6 (by kernel_rfl) (op_call (d := (some 18)) (by kernel_rfl) hs (fun _ => by kernel_rfl) (gcm_read.ok hg _ (hs.rowB (lo := 0) (hi := 16) 0 rfl (by decide) (by decide) (by decide))) ?_)
    intro w gw hs
    refine ⟨.of gw, ?_⟩
    obtain ⟨⟨r7_0, r7_1⟩, hg, h⟩ := of_bind h
    refine wpG.only 7 (by kernel_rfl) (op_call (d := (some 19)) (by kernel_rfl) hs (fun _ => by kernel_rfl) (gcm_element_xor.ok hg _) ?_)
    intro w gw hs
    refine ⟨.of gw, ?_⟩
    obtain ⟨⟨r8_0, r8_1⟩, hg, h⟩ := of_bind h
    refine wpG.only 12 (by kernel_rfl) (op_call (d := (some 24)) (by kernel_rfl) hs (fun _ => by kernel_rfl) (gcm_element_times.ok hg _) ?_)
    intro w gw hs
    refine ⟨.of gw, ?_⟩
    refine wpG.q 13 25 (.pointer (some ⟨p0, 0, none⟩)) ?_
    refine wpG.q 14 26 (.pointer (some ⟨p0, 2, none⟩)) ?_
    refine wpG.only 15 (by kernel_rfl) (op_storeM (t := 84) (o := 2) (m := 2) (v := .agg #[.int .u64 r8_0, .int .u64 r8_1]) (vs := [.int .u64 r8_0, .int .u64 r8_1]) (c' := [.int .u64 z1_0_0, .int .u64 z1_0_1, .int .u64 r8_0, .int .u64 r8_1]) (d := none) (by kernel_rfl) hs 1 rfl (by kernel_rfl) (by kernel_rfl) (by kernel_rfl) rfl (by simp) (by simp [Value.oneCell']) (by kernel_rfl) ?_)
    intro w kp hs
    refine ⟨⟨fun hf => absurd hf (by decide), .all _ _⟩, ?_⟩
    refine wpG.fin (by kernel_rfl) rfl (kr12 _ _ ?_)
    refine then_n (ks11 _ _ (xregS [0, 1, 2, 3] fun KR14 kr14 => ?_))
    refine wpS.qs [(0, 27, .slice z2_A z2_n z2_c), (1, 28, .int .i64 x5)] ?_
    obtain ⟨h0, h⟩ := of_chk h
    obtain ⟨h1, h⟩ := of_chk h
    obtain ⟨h2, h⟩ := of_chk h
    obtain ⟨s9_A, hA⟩ : ∃ A, A = if z2_c = (x5 : Int).toNat then z2_A else adr z2_A ((x5 : Int).toNat * Cod.size (CI .u8)) := ⟨_, rfl⟩
    obtain ⟨s9_n, hn⟩ : ∃ n, n = ((z2.length : Int) : Int).toNat - (x5 : Int).toNat := ⟨_, rfl⟩
    obtain ⟨s9_c, hc⟩ : ∃ c, c = z2_c - (x5 : Int).toNat := ⟨_, rfl⟩
    refine wpS.tk 2 false (some 29) (.slice s9_A s9_n s9_c) (yld_sub (C := (CI .u8)) (t := 26) (e := 5) (low := some (.int .i64 x5)) (high := none) (lo := x5) (hi := (z2.length : Int)) (hs.rowR 0 rfl) (by kernel_rfl) (by kernel_rfl) (by kernel_rfl) (.inr ⟨_, rfl⟩) (.inl ⟨rfl, rfl⟩) h0 h1 h2 hA hn hc) ?_
    have hs := hs.addSub (C := (CI .u8)) 0 rfl h0 h1 h2 hA hn hc
    refine wpS.q 3 1 (.slice s9_A s9_n s9_c) ?_
    refine wpS.fin rfl (kr14 _ _ (inBlock_n ?_))
    exact then_n (kl0 _ _ ⟨n, Nat.lt_succ_self n, z1_0_0, z1_0_1, r8_0, r8_1, (subL z2 x5 (z2.length : Int)), s9_A, s9_n, s9_c, h, ((hs.drop (.cons _ (.cons_cons _ .slnil))).pickR (pick_cons 0 rfl (pick_cons 2 rfl pick_nil))), exg (by kernel_rfl)⟩)
   refine wpS.tk 2 false (some 8) (.bool false) (yld_b (df hc) (fun _ => by kernel_rfl)) ?_
   refine wpS.fin rfl (kr5 _ _ (then_n (ks4 _ _ (wp_cond_f (by kernel_rfl) (xexit (then_x (then_x (inBlock_hit ?_))))))))
   obtain ⟨q0, qr0⟩ := Prod.mk.inj (of_some h)
   obtain ⟨q1, qr1⟩ := Prod.mk.inj (qr0)
   obtain ⟨q2, qr2⟩ := Prod.mk.inj (qr1)
   have q3 := qr2
   subst q0
   subst q1
   subst q2
   subst q3
   exact exq_n (nn0 _ _ ⟨(hs.pickR (pick_cons 1 rfl pick_nil)), exg (by kernel_rfl)⟩)
 clear hs h hy
 rintro a w ⟨hs, g2, rfl⟩
 have h := hk0
 obtain ⟨q0, qr0⟩ := Prod.mk.inj (of_some h)
 obtain ⟨q1, qr1⟩ := Prod.mk.inj (qr0)
 obtain ⟨q2, qr2⟩ := Prod.mk.inj (qr1)
 have q3 := qr2
 subst q0
 subst q1
 subst q2
 subst q3
 exact qn _ _ (post_nrm (by kernel_rfl) (run_results [] [] (by kernel_rfl) .nil) ⟨congrArg Ending.returned (by kernel_rfl), (hs.pickR pick_nil)⟩)
end Go.Proofs.Ytmpagpbnpgcecaa
