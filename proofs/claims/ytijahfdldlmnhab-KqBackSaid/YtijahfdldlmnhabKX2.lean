/- Printed by this work's own program: the code of each function below comes to the answer that its plain form tells. -/
import Derived.Test.YtijahfdldlmnhabMr
import Derived.Test.YtijahfdldlmnhabProg
import Derived.Test.YtijahfdldlmnhabKF0
import Derived.Test.YtijahfdldlmnhabKX1
set_option linter.unusedVariables false
set_option linter.unusedSimpArgs false
set_option maxRecDepth 100000
set_option maxHeartbeats 4000000
namespace Go.Proofs.Ytijahfdldlmnhab
open Go.Mx
attribute [local irreducible] wpOp

theorem kq_Ntt.ok {K : Nat} {a0 : Arr 256} {r0 : Arr 256} (h : kq_Ntt.f K a0 = some r0) (w0 : World) : Ret Try.prog 7 #[.agg (enc .i32 a0).toArray] w0 (.agg (enc .i32 r0).toArray) := by
  refine calls_k Try.func7 rfl fun Q qq => ?_
  have hs := St.start w0
  refine wp_conv (a' := ⟨#[.agg (enc .i32 a0).toArray, undef, undef, undef, undef, undef, undef, undef, undef, undef, undef, undef, undef, undef, undef, undef, undef, undef, undef, undef, undef, undef, undef, undef, undef, undef, undef, undef, undef, undef, undef, undef, undef, undef, undef, undef, undef, undef, undef, undef, undef, undef, undef, undef, undef, undef, undef, undef, undef, undef, undef, undef, undef, undef, undef, undef, undef, undef, undef, undef, undef, undef], []⟩) (by kernel_rfl) ?_
  refine wp_seq_k fun KS1 ks1 => ?_
  refine wp_regS (l := [0, 1]) (by kernel_rfl) fun KR kr => ?_
  refine wpS.only 0 (op_box (t := 23) (v := .agg (enc .i32 a0).toArray) (d := (some 1)) (by kernel_rfl) hs (enc .i32 a0) (by kernel_rfl) (by kernel_rfl) ?_)
  intro b1 w gw hs
  refine ⟨fun _ => trivial, ?_⟩
  refine wpS.only 1 (op_alloc (t := 23) (d := (some 2)) (by kernel_rfl) hs (enc .i32 (zeroA 256)) (.agg (enc .i32 (zeroA 256)).toArray) (by kernel_rfl) (by kernel_rfl) (by kernel_rfl) ?_)
  intro b2 w gw hs
  refine ⟨fun _ => trivial, ?_⟩
  refine wpS.fin rfl (kr _ _ ?_)
  refine then_n (ks1 _ _ ?_)
  refine wp_seq_k fun KS2 ks2 => ?_
  refine wp_regS (l := [0, 1]) (by kernel_rfl) fun KR kr => ?_
  obtain ⟨r3, hg, h⟩ := of_bind h
  refine wpS.only 0 (op_callB (d := (some 9)) (by kernel_rfl) hs (fun _ => by kernel_rfl) (kq_roots.ok hg _) ?_)
  intro b4 w gw hs
  refine ⟨fun _ => trivial, ?_⟩
  refine wpS.take 1 false (some 3) (.pointer (some ⟨b4, 0, none⟩)) (by kernel_rfl) (yld fun _ => by kernel_rfl) ?_
  refine wpS.fin rfl (kr _ _ ?_)
  refine then_n (ks2 _ _ ?_)
  refine wp_seq_k fun KS3 ks3 => ?_
  refine wp_regS (l := [0]) (by kernel_rfl) fun KR kr => ?_
  refine wpS.take 0 false (some 4) (.int .i64 0) (by kernel_rfl) (yld fun _ => by kernel_rfl) ?_
  refine wpS.fin rfl (kr _ _ ?_)
  refine then_n (ks3 _ _ ?_)
  refine wp_seq_k fun KS561 ks561 => ?_
  refine wp_seq_k fun KS562 ks562 => ?_
  refine wp_regS (l := [0]) (by kernel_rfl) fun KR kr => ?_
  refine wpS.take 0 false (some 5) (.int .i64 128) (by kernel_rfl) (yld fun _ => by kernel_rfl) ?_
  refine wpS.fin rfl (kr _ _ ?_)
  refine then_n (ks562 _ _ ?_)
  obtain ⟨y8, hy, hk0⟩ := of_bind h
  refine wp_exq (N := fun a w => St w0 [] [.blk b4 (enc .i32 r3) 47, .blk b2 (enc .i32 (zeroA 256)) 23, .blk b1 (enc .i32 y8) 23] [] w ∧ ∃ g : Nat → Value, a = ⟨#[.agg (enc .i32 a0).toArray, .pointer (some ⟨b1, 0, none⟩), .pointer (some ⟨b2, 0, none⟩), .pointer (some ⟨b4, 0, none⟩), (g 4), (g 5), (g 6), (g 7), (g 8), .pointer (some ⟨b4, 0, none⟩), (g 10), (g 11), (g 12), (g 13), (g 14), (g 15), (g 16), (g 17), (g 18), (g 19), (g 20), (g 21), (g 22), (g 23), (g 24), (g 25), (g 26), (g 27), (g 28), (g 29), (g 30), (g 31), (g 32), (g 33), (g 34), (g 35), (g 36), (g 37), (g 38), (g 39), (g 40), (g 41), (g 42), (g 43), (g 44), (g 45), (g 46), (g 47), (g 48), (g 49), (g 50), (g 51), (g 52), (g 53), (g 54), (g 55), (g 56), (g 57), (g 58), (g 59), (g 60), undef], []⟩) (fun N0 nn0 => ?_) ?_
  · clear hk0
    refine wp_block ?_
    refine wp_loop_k (fun n a w => ∃ z5 z6 z7, kq_Ntt.l0 K n r3 z5 z6 z7 = some y8 ∧ St w0 [] [.blk b4 (enc .i32 r3) 47, .blk b2 (enc .i32 (zeroA 256)) 23, .blk b1 (enc .i32 z7) 23] [] w ∧ ∃ g : Nat → Value, a = ⟨#[.agg (enc .i32 a0).toArray, .pointer (some ⟨b1, 0, none⟩), .pointer (some ⟨b2, 0, none⟩), .pointer (some ⟨b4, 0, none⟩), .int .i64 z5, .int .i64 z6, (g 6), (g 7), (g 8), .pointer (some ⟨b4, 0, none⟩), (g 10), (g 11), (g 12), (g 13), (g 14), (g 15), (g 16), (g 17), (g 18), (g 19), (g 20), (g 21), (g 22), (g 23), (g 24), (g 25), (g 26), (g 27), (g 28), (g 29), (g 30), (g 31), (g 32), (g 33), (g 34), (g 35), (g 36), (g 37), (g 38), (g 39), (g 40), (g 41), (g 42), (g 43), (g 44), (g 45), (g 46), (g 47), (g 48), (g 49), (g 50), (g 51), (g 52), (g 53), (g 54), (g 55), (g 56), (g 57), (g 58), (g 59), (g 60), undef], []⟩) K ⟨0, 128, a0, hy, hs.conv rfl, exg (by kernel_rfl)⟩ ?_
    clear hs h hy
    rintro n a w ⟨z5, z6, z7, h, hs, g, rfl⟩ KL0 kl0
    cases n with
    | zero => exact nomatch (show none = some _ from h)
    | succ n =>
      refine wp_seq_k fun KS842 ks842 => ?_
      refine wp_seq_k fun KS843 ks843 => ?_
      refine wp_regS (l := [0, 1]) (by kernel_rfl) fun KR kr => ?_
      refine wpS.take 0 false (some 10) (.int .i64 z6) (by kernel_rfl) (yld fun _ => by kernel_rfl) ?_
      rcases of_if h with ⟨hc, h⟩ | ⟨hc, h⟩
      · refine wpS.take 1 false (some 11) (.bool true) (by kernel_rfl) (yld_b (dt hc) (fun _ => by kernel_rfl)) ?_
        refine wpS.fin rfl (kr _ _ ?_)
        refine then_n (ks843 _ _ ?_)
        refine wp_cond_t (by kernel_rfl) ?_
        refine wp_skip ?_
        refine then_n (ks842 _ _ ?_)
        refine wp_seq_k fun KS981 ks981 => ?_
        refine wp_block ?_
        refine wp_seq_k fun KS982 ks982 => ?_
        refine wp_regS (l := [0]) (by kernel_rfl) fun KR kr => ?_
        refine wpS.take 0 false (some 6) (.int .i64 0) (by kernel_rfl) (yld fun _ => by kernel_rfl) ?_
        refine wpS.fin rfl (kr _ _ ?_)
        refine then_n (ks982 _ _ ?_)
        obtain ⟨⟨y12, y13⟩, hy, hk1⟩ := of_bind h
        refine wp_exq (N := fun a w => St w0 [] [.blk b4 (enc .i32 r3) 47, .blk b2 (enc .i32 (zeroA 256)) 23, .blk b1 (enc .i32 y13) 23] [] w ∧ ∃ g : Nat → Value, a = ⟨#[.agg (enc .i32 a0).toArray, .pointer (some ⟨b1, 0, none⟩), .pointer (some ⟨b2, 0, none⟩), .pointer (some ⟨b4, 0, none⟩), .int .i64 y12, .int .i64 z6, (g 6), (g 7), (g 8), .pointer (some ⟨b4, 0, none⟩), .int .i64 z6, .bool true, (g 12), (g 13), (g 14), (g 15), (g 16), (g 17), (g 18), (g 19), (g 20), (g 21), (g 22), (g 23), (g 24), (g 25), (g 26), (g 27), (g 28), (g 29), (g 30), (g 31), (g 32), (g 33), (g 34), (g 35), (g 36), (g 37), (g 38), (g 39), (g 40), (g 41), (g 42), (g 43), (g 44), (g 45), (g 46), (g 47), (g 48), (g 49), (g 50), (g 51), (g 52), (g 53), (g 54), (g 55), (g 56), (g 57), (g 58), (g 59), (g 60), undef], []⟩) (fun N1 nn1 => ?_) ?_
        · clear hk1
          refine wp_block ?_
          refine wp_loop_k (fun n a w => ∃ z9 z10 z11, kq_Ntt.l1 K n r3 z6 z9 z10 z11 = some (y12, y13) ∧ St w0 [] [.blk b4 (enc .i32 r3) 47, .blk b2 (enc .i32 (zeroA 256)) 23, .blk b1 (enc .i32 z11) 23] [] w ∧ ∃ g : Nat → Value, a = ⟨#[.agg (enc .i32 a0).toArray, .pointer (some ⟨b1, 0, none⟩), .pointer (some ⟨b2, 0, none⟩), .pointer (some ⟨b4, 0, none⟩), .int .i64 z9, .int .i64 z6, .int .i64 z10, (g 7), (g 8), .pointer (some ⟨b4, 0, none⟩), .int .i64 z6, .bool true, (g 12), (g 13), (g 14), (g 15), (g 16), (g 17), (g 18), (g 19), (g 20), (g 21), (g 22), (g 23), (g 24), (g 25), (g 26), (g 27), (g 28), (g 29), (g 30), (g 31), (g 32), (g 33), (g 34), (g 35), (g 36), (g 37), (g 38), (g 39), (g 40), (g 41), (g 42), (g 43), (g 44), (g 45), (g 46), (g 47), (g 48), (g 49), (g 50), (g 51), (g 52), (g 53), (g 54), (g 55), (g 56), (g 57), (g 58), (g 59), (g 60), undef], []⟩) K ⟨z5, 0, z7, hy, hs.conv rfl, exg (by kernel_rfl)⟩ ?_
          clear hs h hy
          rintro n a w ⟨z9, z10, z11, h, hs, g, rfl⟩ KL1 kl1
          cases n with
          | zero => exact nomatch (show none = some _ from h)
          | succ n =>
            refine wp_seq_k fun KS1052 ks1052 => ?_
            refine wp_seq_k fun KS1053 ks1053 => ?_
            refine wp_regS (l := [0, 1]) (by kernel_rfl) fun KR kr => ?_
            refine wpS.take 0 false (some 14) (.int .i64 z10) (by kernel_rfl) (yld fun _ => by kernel_rfl) ?_
            rcases of_if h with ⟨hc, h⟩ | ⟨hc, h⟩
            · refine wpS.take 1 false (some 15) (.bool true) (by kernel_rfl) (yld_b (dt hc) (fun _ => by kernel_rfl)) ?_
              refine wpS.fin rfl (kr _ _ ?_)
              refine then_n (ks1053 _ _ ?_)
              refine wp_cond_t (by kernel_rfl) ?_
              refine wp_skip ?_
              refine then_n (ks1052 _ _ ?_)
              refine wp_seq_k fun KS1086 ks1086 => ?_
              refine wp_block ?_
              refine wp_seq_k fun KS1087 ks1087 => ?_
              refine wp_regS (l := [0, 1, 2]) (by kernel_rfl) fun KR kr => ?_
              refine wpS.take 0 false (some 20) (.int .i64 z9) (by kernel_rfl) (yld fun _ => by kernel_rfl) ?_
              refine wpS.take 1 false (some 21) (.int .i64 (iadd .i64 z9 1)) (by kernel_rfl) (yld fun _ => by kernel_rfl) ?_
              obtain ⟨x14, hx, h⟩ := of_bind h
              refine wpS.take 2 false (some 4) (.int .i64 x14) (by kernel_rfl) (yld_int hx (fun _ => by kernel_rfl)) ?_
              refine wpS.fin rfl (kr _ _ ?_)
              refine then_n (ks1087 _ _ ?_)
              refine wp_seq_k fun KS1088 ks1088 => ?_
              refine wp_regS (l := [0, 1]) (by kernel_rfl) fun KR kr => ?_
              refine wpS.take 0 false (some 22) (.int .i64 z10) (by kernel_rfl) (yld fun _ => by kernel_rfl) ?_
              refine wpS.take 1 false (some 7) (.int .i64 z10) (by kernel_rfl) (yld fun _ => by kernel_rfl) ?_
              refine wpS.fin rfl (kr _ _ ?_)
              refine then_n (ks1088 _ _ ?_)
              obtain ⟨y17, hy, hk2⟩ := of_bind h
              refine wp_exq (N := fun a w => St w0 [] [.blk b4 (enc .i32 r3) 47, .blk b2 (enc .i32 (zeroA 256)) 23, .blk b1 (enc .i32 y17) 23] [] w ∧ ∃ g : Nat → Value, a = ⟨#[.agg (enc .i32 a0).toArray, .pointer (some ⟨b1, 0, none⟩), .pointer (some ⟨b2, 0, none⟩), .pointer (some ⟨b4, 0, none⟩), .int .i64 x14, .int .i64 z6, .int .i64 z10, (g 7), (g 8), .pointer (some ⟨b4, 0, none⟩), .int .i64 z6, .bool true, (g 12), (g 13), .int .i64 z10, .bool true, (g 16), (g 17), (g 18), (g 19), .int .i64 z9, .int .i64 (iadd .i64 z9 1), .int .i64 z10, (g 23), (g 24), (g 25), (g 26), (g 27), (g 28), (g 29), (g 30), (g 31), (g 32), (g 33), (g 34), (g 35), (g 36), (g 37), (g 38), (g 39), (g 40), (g 41), (g 42), (g 43), (g 44), (g 45), (g 46), (g 47), (g 48), (g 49), (g 50), (g 51), (g 52), (g 53), (g 54), (g 55), (g 56), (g 57), (g 58), (g 59), (g 60), undef], []⟩) (fun N2 nn2 => ?_) ?_
              · clear hk2
                refine wp_block ?_
                refine wp_loop_k (fun n a w => ∃ z15 z16, kq_Ntt.l2 K n r3 z6 z10 x14 z15 z16 = some y17 ∧ St w0 [] [.blk b4 (enc .i32 r3) 47, .blk b2 (enc .i32 (zeroA 256)) 23, .blk b1 (enc .i32 z16) 23] [] w ∧ ∃ g : Nat → Value, a = ⟨#[.agg (enc .i32 a0).toArray, .pointer (some ⟨b1, 0, none⟩), .pointer (some ⟨b2, 0, none⟩), .pointer (some ⟨b4, 0, none⟩), .int .i64 x14, .int .i64 z6, .int .i64 z10, .int .i64 z15, (g 8), .pointer (some ⟨b4, 0, none⟩), .int .i64 z6, .bool true, (g 12), (g 13), .int .i64 z10, .bool true, (g 16), (g 17), (g 18), (g 19), .int .i64 z9, .int .i64 (iadd .i64 z9 1), .int .i64 z10, (g 23), (g 24), (g 25), (g 26), (g 27), (g 28), (g 29), (g 30), (g 31), (g 32), (g 33), (g 34), (g 35), (g 36), (g 37), (g 38), (g 39), (g 40), (g 41), (g 42), (g 43), (g 44), (g 45), (g 46), (g 47), (g 48), (g 49), (g 50), (g 51), (g 52), (g 53), (g 54), (g 55), (g 56), (g 57), (g 58), (g 59), (g 60), undef], []⟩) K ⟨z10, z11, hy, hs.conv rfl, exg (by kernel_rfl)⟩ ?_
                clear hs h hy
                rintro n a w ⟨z15, z16, h, hs, g, rfl⟩ KL2 kl2
                cases n with
                | zero => exact nomatch (show none = some _ from h)
                | succ n =>
                  refine wp_seq_k fun KS1105 ks1105 => ?_
                  refine wp_seq_k fun KS1106 ks1106 => ?_
                  refine wp_regS (l := [0, 1, 2, 3, 4]) (by kernel_rfl) fun KR kr => ?_
                  refine wpS.take 0 false (some 23) (.int .i64 z15) (by kernel_rfl) (yld fun _ => by kernel_rfl) ?_
                  refine wpS.take 1 false (some 24) (.int .i64 z10) (by kernel_rfl) (yld fun _ => by kernel_rfl) ?_
                  refine wpS.take 2 false (some 25) (.int .i64 z6) (by kernel_rfl) (yld fun _ => by kernel_rfl) ?_
                  refine wpS.take 3 false (some 26) (.int .i64 (iadd .i64 z10 z6)) (by kernel_rfl) (yld fun _ => by kernel_rfl) ?_
                  rcases of_if h with ⟨hc, h⟩ | ⟨hc, h⟩
                  · refine wpS.take 4 false (some 27) (.bool true) (by kernel_rfl) (yld_b (dt hc) (fun _ => by kernel_rfl)) ?_
                    refine wpS.fin rfl (kr _ _ ?_)
                    refine then_n (ks1106 _ _ ?_)
                    refine wp_cond_t (by kernel_rfl) ?_
                    refine wp_skip ?_
                    refine then_n (ks1105 _ _ ?_)
                    refine wp_seq_k fun KS1107 ks1107 => ?_
                    refine wp_block ?_
                    refine wp_seq_k fun KS1108 ks1108 => ?_
                    refine wp_regG [] (fun k => True) 13 (by kernel_rfl) (by kernel_rfl) fun KR kr => ?_
                    have hs := hs.drawn1
                    refine wpG.takeD 0 false (some 30) (.pointer (some ⟨b4, 0, none⟩)) (by kernel_rfl) (by kernel_rfl) (yld fun _ => by kernel_rfl) ?_
                    refine wpG.takeD 1 false (some 31) (.int .i64 x14) (by kernel_rfl) (by kernel_rfl) (yld fun _ => by kernel_rfl) ?_
                    refine wpG.takeD 2 false (some 32) (.pointer (some ⟨b4, 0, none⟩)) (by kernel_rfl) (by kernel_rfl) (yld fun _ => by kernel_rfl) ?_
                    obtain ⟨i0_1109, h⟩ := of_chk h
                    obtain ⟨i1_1109, h⟩ := of_chk h
                    refine wpG.takeD 3 false (some 33) (.pointer (some ⟨b4, 0 + (x14 : Int).toNat * 1, none⟩)) (by kernel_rfl) (by kernel_rfl) (yld_idx (t := 47) (e := 21) (n := 128) (sz := 1) (k := .i64) (x := x14) (by kernel_rfl) (by kernel_rfl) (by kernel_rfl) i0_1109 i1_1109) ?_
                    refine wpG.takeD 4 true (some 34) (.int .i32 (rd r3 x14)) (by kernel_rfl) (by kernel_rfl) (yld_loadA (e := 21) (x := x14) hs 0 rfl (by kernel_rfl) (by kernel_rfl) i0_1109 i1_1109 .grow) ?_
                    refine wpG.takeD 5 false (some 35) (.int .i64 z15) (by kernel_rfl) (by kernel_rfl) (yld fun _ => by kernel_rfl) ?_
                    refine wpG.takeD 6 false (some 36) (.int .i64 z6) (by kernel_rfl) (by kernel_rfl) (yld fun _ => by kernel_rfl) ?_
                    refine wpG.takeD 7 false (some 37) (.int .i64 (iadd .i64 z15 z6)) (by kernel_rfl) (by kernel_rfl) (yld fun _ => by kernel_rfl) ?_
                    obtain ⟨x18, hx, h⟩ := of_bind h
                    have hx := of_some hx
                    subst hx
                    obtain ⟨i0_1110, h⟩ := of_chk h
                    obtain ⟨i1_1110, h⟩ := of_chk h
                    refine wpG.takeD 8 false (some 38) (.pointer (some ⟨b1, 0 + ((iadd .i64 z15 z6) : Int).toNat * 1, none⟩)) (by kernel_rfl) (by kernel_rfl) (yld_idx (t := 23) (e := 21) (n := 256) (sz := 1) (k := .i64) (x := (iadd .i64 z15 z6)) (by kernel_rfl) (by kernel_rfl) (by kernel_rfl) i0_1110 i1_1110) ?_
                    refine wpG.takeD 9 true (some 39) (.int .i32 (rd z16 (iadd .i64 z15 z6))) (by kernel_rfl) (by kernel_rfl) (yld_loadA (e := 21) (x := (iadd .i64 z15 z6)) hs 2 rfl (by kernel_rfl) (by kernel_rfl) i0_1110 i1_1110 .grow) ?_
                    refine wpG.takeD 10 false (some 40) (.int .i32 (imul .i32 (rd r3 x14) (rd z16 (iadd .i64 z15 z6)))) (by kernel_rfl) (by kernel_rfl) (yld fun _ => by kernel_rfl) ?_
                    refine wpG.takeD 11 false (some 41) (.int .i32 (irem .i32 (imul .i32 (rd r3 x14) (rd z16 (iadd .i64 z15 z6))) 3329)) (by kernel_rfl) (by kernel_rfl) (yld fun _ => by kernel_rfl) ?_
                    obtain ⟨x19, hx, h⟩ := of_bind h
                    refine wpG.takeD 12 false (some 8) (.int .i32 x19) (by kernel_rfl) (by kernel_rfl) (yld_int hx (fun _ => by kernel_rfl)) ?_
                    refine wpG.fin (by kernel_rfl) rfl (kr _ _ ?_)
                    refine then_n (ks1108 _ _ ?_)
                    refine wp_regG [18, 20] (fun k => k = b1) 21 (by kernel_rfl) (by kernel_rfl) fun KR kr => ?_
                    have hs := hs.drawn1
                    refine wpG.takeD 0 false (some 42) (.int .i64 z15) (by kernel_rfl) (by kernel_rfl) (yld fun _ => by kernel_rfl) ?_
                    refine wpG.takeD 1 false (some 43) (.int .i64 z6) (by kernel_rfl) (by kernel_rfl) (yld fun _ => by kernel_rfl) ?_
                    refine wpG.takeD 2 false (some 44) (.int .i64 (iadd .i64 z15 z6)) (by kernel_rfl) (by kernel_rfl) (yld fun _ => by kernel_rfl) ?_
                    refine wpG.takeD 3 false (some 45) (.int .i64 z15) (by kernel_rfl) (by kernel_rfl) (yld fun _ => by kernel_rfl) ?_
                    refine wpG.takeD 4 false (some 46) (.int .i64 z15) (by kernel_rfl) (by kernel_rfl) (yld fun _ => by kernel_rfl) ?_
                    obtain ⟨i0_1115, h⟩ := of_chk h
                    obtain ⟨i1_1115, h⟩ := of_chk h
                    refine wpG.takeD 5 false (some 47) (.pointer (some ⟨b1, 0 + (z15 : Int).toNat * 1, none⟩)) (by kernel_rfl) (by kernel_rfl) (yld_idx (t := 23) (e := 21) (n := 256) (sz := 1) (k := .i64) (x := z15) (by kernel_rfl) (by kernel_rfl) (by kernel_rfl) i0_1115 i1_1115) ?_
                    refine wpG.takeD 6 true (some 48) (.int .i32 (rd z16 z15)) (by kernel_rfl) (by kernel_rfl) (yld_loadA (e := 21) (x := z15) hs 2 rfl (by kernel_rfl) (by kernel_rfl) i0_1115 i1_1115 .grow) ?_
                    refine wpG.takeD 7 false (some 49) (.int .i32 x19) (by kernel_rfl) (by kernel_rfl) (yld fun _ => by kernel_rfl) ?_
                    refine wpG.takeD 8 false (some 50) (.int .i32 (isub .i32 (rd z16 z15) x19)) (by kernel_rfl) (by kernel_rfl) (yld fun _ => by kernel_rfl) ?_
                    refine wpG.takeD 9 false (some 51) (.int .i32 (iadd .i32 (isub .i32 (rd z16 z15) x19) 3329)) (by kernel_rfl) (by kernel_rfl) (yld fun _ => by kernel_rfl) ?_
                    refine wpG.takeD 10 false (some 52) (.int .i32 (irem .i32 (iadd .i32 (isub .i32 (rd z16 z15) x19) 3329) 3329)) (by kernel_rfl) (by kernel_rfl) (yld fun _ => by kernel_rfl) ?_
                    refine wpG.takeD 11 false (some 53) (.int .i64 z15) (by kernel_rfl) (by kernel_rfl) (yld fun _ => by kernel_rfl) ?_
                    obtain ⟨i0_1116, h⟩ := of_chk h
                    obtain ⟨i1_1116, h⟩ := of_chk h
                    refine wpG.takeD 12 false (some 54) (.pointer (some ⟨b1, 0 + (z15 : Int).toNat * 1, none⟩)) (by kernel_rfl) (by kernel_rfl) (yld_idx (t := 23) (e := 21) (n := 256) (sz := 1) (k := .i64) (x := z15) (by kernel_rfl) (by kernel_rfl) (by kernel_rfl) i0_1116 i1_1116) ?_
                    refine wpG.takeD 13 true (some 55) (.int .i32 (rd z16 z15)) (by kernel_rfl) (by kernel_rfl) (yld_loadA (e := 21) (x := z15) hs 2 rfl (by kernel_rfl) (by kernel_rfl) i0_1116 i1_1116 .grow) ?_
                    refine wpG.takeD 14 false (some 56) (.int .i32 x19) (by kernel_rfl) (by kernel_rfl) (yld fun _ => by kernel_rfl) ?_
                    refine wpG.takeD 15 false (some 57) (.int .i32 (iadd .i32 (rd z16 z15) x19)) (by kernel_rfl) (by kernel_rfl) (yld fun _ => by kernel_rfl) ?_
                    refine wpG.takeD 16 false (some 58) (.int .i32 (irem .i32 (iadd .i32 (rd z16 z15) x19) 3329)) (by kernel_rfl) (by kernel_rfl) (yld fun _ => by kernel_rfl) ?_
                    obtain ⟨x20, hx, h⟩ := of_bind h
                    have hx := of_some hx
                    subst hx
                    obtain ⟨i0_1117, h⟩ := of_chk h
                    obtain ⟨i1_1117, h⟩ := of_chk h
                    refine wpG.takeD 17 false (some 59) (.pointer (some ⟨b1, 0 + ((iadd .i64 z15 z6) : Int).toNat * 1, none⟩)) (by kernel_rfl) (by kernel_rfl) (yld_idx (t := 23) (e := 21) (n := 256) (sz := 1) (k := .i64) (x := (iadd .i64 z15 z6)) (by kernel_rfl) (by kernel_rfl) (by kernel_rfl) i0_1117 i1_1117) ?_
                    obtain ⟨x21, hx, h⟩ := of_bind h
                    refine wpG.only 18 (by kernel_rfl) (op_storeA (t := 21) (x := (iadd .i64 z15 z6)) (v := x21) (d := none) (by kernel_rfl) hs 2 rfl (by cases hx; kernel_rfl) (by kernel_rfl) i0_1117 i1_1117 ?_)
                    intro w kp hs
                    refine ⟨⟨fun hf => absurd hf (by decide), kp.mono fun _ h => h⟩, ?_⟩
                    obtain ⟨i0_1118, h⟩ := of_chk h
                    obtain ⟨i1_1118, h⟩ := of_chk h
                    refine wpG.takeD 19 false (some 60) (.pointer (some ⟨b1, 0 + (z15 : Int).toNat * 1, none⟩)) (by kernel_rfl) (by kernel_rfl) (yld_idx (t := 23) (e := 21) (n := 256) (sz := 1) (k := .i64) (x := z15) (by kernel_rfl) (by kernel_rfl) (by kernel_rfl) i0_1118 i1_1118) ?_
                    obtain ⟨x22, hx, h⟩ := of_bind h
                    refine wpG.only 20 (by kernel_rfl) (op_storeA (t := 21) (x := z15) (v := x22) (d := none) (by kernel_rfl) hs 2 rfl (by cases hx; kernel_rfl) (by kernel_rfl) i0_1118 i1_1118 ?_)
                    intro w kp hs
                    refine ⟨⟨fun hf => absurd hf (by decide), kp.mono fun _ h => h⟩, ?_⟩
                    refine wpG.fin (by kernel_rfl) rfl (kr _ _ ?_)
                    refine inBlock_n ?_
                    refine then_n (ks1107 _ _ ?_)
                    refine wp_regS (l := [0, 1, 2]) (by kernel_rfl) fun KR kr => ?_
                    refine wpS.take 0 false (some 28) (.int .i64 z15) (by kernel_rfl) (yld fun _ => by kernel_rfl) ?_
                    refine wpS.take 1 false (some 29) (.int .i64 (iadd .i64 z15 1)) (by kernel_rfl) (yld fun _ => by kernel_rfl) ?_
                    obtain ⟨x23, hx, h⟩ := of_bind h
                    refine wpS.take 2 false (some 7) (.int .i64 x23) (by kernel_rfl) (yld_int hx (fun _ => by kernel_rfl)) ?_
                    refine wpS.fin rfl (kr _ _ ?_)
                    exact then_n (kl2 _ _ ⟨n, Nat.lt_succ_self n, x23, (wr (wr z16 (iadd .i64 z15 z6) x21) z15 x22), h, (hs.conv rfl), exg (by kernel_rfl)⟩)
                  · refine wpS.take 4 false (some 27) (.bool false) (by kernel_rfl) (yld_b (df hc) (fun _ => by kernel_rfl)) ?_
                    refine wpS.fin rfl (kr _ _ ?_)
                    refine then_n (ks1106 _ _ ?_)
                    refine wp_cond_f (by kernel_rfl) ?_
                    refine wp_exit ?_
                    refine then_x ?_
                    refine then_x ?_
                    refine inBlock_hit ?_
                    have q0 := of_some h
                    subst q0
                    exact exq_n (nn2 _ _ ⟨(hs.conv rfl), exg (by kernel_rfl)⟩)
              · clear hs h hy
                rintro a w ⟨hs, g, rfl⟩
                have h := hk2
                refine inBlock_n ?_
                refine then_n (ks1086 _ _ ?_)
                refine wp_regS (l := [0, 1, 2, 3, 4]) (by kernel_rfl) fun KR kr => ?_
                refine wpS.take 0 false (some 16) (.int .i64 z10) (by kernel_rfl) (yld fun _ => by kernel_rfl) ?_
                refine wpS.take 1 false (some 17) (.int .i64 z6) (by kernel_rfl) (yld fun _ => by kernel_rfl) ?_
                refine wpS.take 2 false (some 18) (.int .i64 (imul .i64 2 z6)) (by kernel_rfl) (yld fun _ => by kernel_rfl) ?_
                refine wpS.take 3 false (some 19) (.int .i64 (iadd .i64 z10 (imul .i64 2 z6))) (by kernel_rfl) (yld fun _ => by kernel_rfl) ?_
                obtain ⟨x24, hx, h⟩ := of_bind h
                refine wpS.take 4 false (some 6) (.int .i64 x24) (by kernel_rfl) (yld_int hx (fun _ => by kernel_rfl)) ?_
                refine wpS.fin rfl (kr _ _ ?_)
                exact then_n (kl1 _ _ ⟨n, Nat.lt_succ_self n, x14, x24, y17, h, (hs.conv rfl), exg (by kernel_rfl)⟩)
            · refine wpS.take 1 false (some 15) (.bool false) (by kernel_rfl) (yld_b (df hc) (fun _ => by kernel_rfl)) ?_
              refine wpS.fin rfl (kr _ _ ?_)
              refine then_n (ks1053 _ _ ?_)
              refine wp_cond_f (by kernel_rfl) ?_
              refine wp_exit ?_
              refine then_x ?_
              refine then_x ?_
              refine inBlock_hit ?_
              obtain ⟨q0, qr0⟩ := Prod.mk.inj (of_some h)
              have q1 := qr0
              subst q0
              subst q1
              exact exq_n (nn1 _ _ ⟨(hs.conv rfl), exg (by kernel_rfl)⟩)
        · clear hs h hy
          rintro a w ⟨hs, g, rfl⟩
          have h := hk1
          refine inBlock_n ?_
          refine then_n (ks981 _ _ ?_)
          refine wp_regS (l := [0, 1, 2]) (by kernel_rfl) fun KR kr => ?_
          refine wpS.take 0 false (some 12) (.int .i64 z6) (by kernel_rfl) (yld fun _ => by kernel_rfl) ?_
          refine wpS.take 1 false (some 13) (.int .i64 (iquo .i64 z6 2)) (by kernel_rfl) (yld fun _ => by kernel_rfl) ?_
          obtain ⟨x25, hx, h⟩ := of_bind h
          refine wpS.take 2 false (some 5) (.int .i64 x25) (by kernel_rfl) (yld_int hx (fun _ => by kernel_rfl)) ?_
          refine wpS.fin rfl (kr _ _ ?_)
          exact then_n (kl0 _ _ ⟨n, Nat.lt_succ_self n, y12, x25, y13, h, (hs.conv rfl), exg (by kernel_rfl)⟩)
      · refine wpS.take 1 false (some 11) (.bool false) (by kernel_rfl) (yld_b (df hc) (fun _ => by kernel_rfl)) ?_
        refine wpS.fin rfl (kr _ _ ?_)
        refine then_n (ks843 _ _ ?_)
        refine wp_cond_f (by kernel_rfl) ?_
        refine wp_exit ?_
        refine then_x ?_
        refine then_x ?_
        refine inBlock_hit ?_
        have q0 := of_some h
        subst q0
        exact exq_n (nn0 _ _ ⟨(hs.conv rfl), exg (by kernel_rfl)⟩)
  · clear hs h hy
    rintro a w ⟨hs, g, rfl⟩
    have h := hk0
    refine then_n (ks561 _ _ ?_)
    refine wp_seq_k fun KS1119 ks1119 => ?_
    refine wp_regS (l := [0, 1]) (by kernel_rfl) fun KR kr => ?_
    refine wpS.take 0 true (some 61) (.agg (enc .i32 y8).toArray) (by kernel_rfl) (yld_loadW (e := 23) (n := 256) hs 2 rfl (by kernel_rfl) (by kernel_rfl) (by kernel_rfl) (by exact enc_len _ _) .grow) ?_
    refine wpS.only 1 (op_storeW (t := 23) (v := .agg (enc .i32 y8).toArray) (d := none) (by kernel_rfl) hs 1 rfl (vs := enc .i32 y8) (n := 256) (by kernel_rfl) (by kernel_rfl) (by kernel_rfl) (by simp [enc_len]) (by simp [enc_len]) (by intro u hu; exact enc_one _ _ u hu) ?_)
    intro w kp hs
    refine ⟨fun _ => trivial, ?_⟩
    refine wpS.fin rfl (kr _ _ ?_)
    refine then_n (ks1119 _ _ ?_)
    refine wp_ret ?_
    have q0 := of_some h
    subst q0
    exact qq _ _ (post_ret (by kernel_rfl) (run_results [.cell 2 23] [.agg (enc .i32 y8).toArray] (by kernel_rfl) (.cons (res_cellN (n := 256) hs 1 rfl (by kernel_rfl) (by kernel_rfl) (by kernel_rfl) (by exact enc_len _ _)) .nil)) ⟨congrArg Ending.returned (by kernel_rfl), hs.none⟩)

theorem kq_pair_times.ok {K : Nat} {a0_0 : Int} {a0_1 : Int} {a1_0 : Int} {a1_1 : Int} {a2 : Int} {r0_0 : Int} {r0_1 : Int} (h : kq_pair_times.f K a0_0 a0_1 a1_0 a1_1 a2 = some (r0_0, r0_1)) (w0 : World) : Ret Try.prog 18 #[.agg #[.int .i32 a0_0, .int .i32 a0_1], .agg #[.int .i32 a1_0, .int .i32 a1_1], .int .i32 a2] w0 (.agg #[.int .i32 r0_0, .int .i32 r0_1]) := by
  refine calls_k Try.func18 rfl fun Q qq => ?_
  have hs := St.start w0
  refine wp_conv (a' := ⟨#[.agg #[.int .i32 a0_0, .int .i32 a0_1], .agg #[.int .i32 a1_0, .int .i32 a1_1], .int .i32 a2, undef, undef, undef, undef, undef, undef, undef, undef, undef, undef, undef, undef, undef, undef, undef, undef, undef, undef, undef, undef, undef, undef, undef, undef, undef, undef, undef, undef, undef, undef, undef, undef], []⟩) (by kernel_rfl) ?_
  refine wp_seq_k fun KS1 ks1 => ?_
  refine wp_regS (l := [0, 1, 2]) (by kernel_rfl) fun KR kr => ?_
  refine wpS.only 0 (op_box (t := 39) (v := .agg #[.int .i32 a0_0, .int .i32 a0_1]) (d := (some 3)) (by kernel_rfl) hs ([.int .i32 a0_0, .int .i32 a0_1]) (by kernel_rfl) (by kernel_rfl) ?_)
  intro b1 w gw hs
  refine ⟨fun _ => trivial, ?_⟩
  refine wpS.only 1 (op_box (t := 39) (v := .agg #[.int .i32 a1_0, .int .i32 a1_1]) (d := (some 4)) (by kernel_rfl) hs ([.int .i32 a1_0, .int .i32 a1_1]) (by kernel_rfl) (by kernel_rfl) ?_)
  intro b2 w gw hs
  refine ⟨fun _ => trivial, ?_⟩
  refine wpS.only 2 (op_alloc (t := 39) (d := (some 6)) (by kernel_rfl) hs ([.int .i32 0, .int .i32 0]) (.agg #[.int .i32 0, .int .i32 0]) (by kernel_rfl) (by kernel_rfl) (by kernel_rfl) ?_)
  intro b3 w gw hs
  refine ⟨fun _ => trivial, ?_⟩
  refine wpS.fin rfl (kr _ _ ?_)
  refine then_n (ks1 _ _ ?_)
  refine wp_seq_k fun KS2 ks2 => ?_
  refine wp_regS (l := [0, 1, 2, 3, 4, 5, 6, 7, 8, 9, 10, 11, 12, 13, 14, 15, 16, 17, 18, 19, 20, 21, 22, 23, 24, 25, 26, 27, 28]) (by kernel_rfl) fun KR kr => ?_
  refine wpS.take 0 false (some 7) (.pointer (some ⟨b1, 0, none⟩)) (by kernel_rfl) (yld fun _ => by kernel_rfl) ?_
  refine wpS.take 1 true (some 8) (.int .i32 a0_0) (by kernel_rfl) (yld_load1 (e := 21) (o := 0) hs 2 rfl (by kernel_rfl) (by kernel_rfl) (by rfl) .grow) ?_
  refine wpS.take 2 false (some 9) (.pointer (some ⟨b2, 0, none⟩)) (by kernel_rfl) (yld fun _ => by kernel_rfl) ?_
  refine wpS.take 3 true (some 10) (.int .i32 a1_0) (by kernel_rfl) (yld_load1 (e := 21) (o := 0) hs 1 rfl (by kernel_rfl) (by kernel_rfl) (by rfl) .grow) ?_
  refine wpS.take 4 false (some 11) (.int .i32 (imul .i32 a0_0 a1_0)) (by kernel_rfl) (yld fun _ => by kernel_rfl) ?_
  refine wpS.take 5 false (some 12) (.pointer (some ⟨b1, 1, none⟩)) (by kernel_rfl) (yld fun _ => by kernel_rfl) ?_
  refine wpS.take 6 true (some 13) (.int .i32 a0_1) (by kernel_rfl) (yld_load1 (e := 21) (o := 1) hs 2 rfl (by kernel_rfl) (by kernel_rfl) (by rfl) .grow) ?_
  refine wpS.take 7 false (some 14) (.pointer (some ⟨b2, 1, none⟩)) (by kernel_rfl) (yld fun _ => by kernel_rfl) ?_
  refine wpS.take 8 true (some 15) (.int .i32 a1_1) (by kernel_rfl) (yld_load1 (e := 21) (o := 1) hs 1 rfl (by kernel_rfl) (by kernel_rfl) (by rfl) .grow) ?_
  refine wpS.take 9 false (some 16) (.int .i32 (imul .i32 a0_1 a1_1)) (by kernel_rfl) (yld fun _ => by kernel_rfl) ?_
  refine wpS.take 10 false (some 17) (.int .i32 (irem .i32 (imul .i32 a0_1 a1_1) 3329)) (by kernel_rfl) (yld fun _ => by kernel_rfl) ?_
  refine wpS.take 11 false (some 18) (.int .i32 a2) (by kernel_rfl) (yld fun _ => by kernel_rfl) ?_
  refine wpS.take 12 false (some 19) (.int .i32 (imul .i32 (irem .i32 (imul .i32 a0_1 a1_1) 3329) a2)) (by kernel_rfl) (yld fun _ => by kernel_rfl) ?_
  refine wpS.take 13 false (some 20) (.int .i32 (iadd .i32 (imul .i32 a0_0 a1_0) (imul .i32 (irem .i32 (imul .i32 a0_1 a1_1) 3329) a2))) (by kernel_rfl) (yld fun _ => by kernel_rfl) ?_
  refine wpS.take 14 false (some 21) (.int .i32 (irem .i32 (iadd .i32 (imul .i32 a0_0 a1_0) (imul .i32 (irem .i32 (imul .i32 a0_1 a1_1) 3329) a2)) 3329)) (by kernel_rfl) (yld fun _ => by kernel_rfl) ?_
  refine wpS.take 15 false (some 22) (.pointer (some ⟨b1, 0, none⟩)) (by kernel_rfl) (yld fun _ => by kernel_rfl) ?_
  refine wpS.take 16 true (some 23) (.int .i32 a0_0) (by kernel_rfl) (yld_load1 (e := 21) (o := 0) hs 2 rfl (by kernel_rfl) (by kernel_rfl) (by rfl) .grow) ?_
  refine wpS.take 17 false (some 24) (.pointer (some ⟨b2, 1, none⟩)) (by kernel_rfl) (yld fun _ => by kernel_rfl) ?_
  refine wpS.take 18 true (some 25) (.int .i32 a1_1) (by kernel_rfl) (yld_load1 (e := 21) (o := 1) hs 1 rfl (by kernel_rfl) (by kernel_rfl) (by rfl) .grow) ?_
  refine wpS.take 19 false (some 26) (.int .i32 (imul .i32 a0_0 a1_1)) (by kernel_rfl) (yld fun _ => by kernel_rfl) ?_
  refine wpS.take 20 false (some 27) (.pointer (some ⟨b1, 1, none⟩)) (by kernel_rfl) (yld fun _ => by kernel_rfl) ?_
  refine wpS.take 21 true (some 28) (.int .i32 a0_1) (by kernel_rfl) (yld_load1 (e := 21) (o := 1) hs 2 rfl (by kernel_rfl) (by kernel_rfl) (by rfl) .grow) ?_
  refine wpS.take 22 false (some 29) (.pointer (some ⟨b2, 0, none⟩)) (by kernel_rfl) (yld fun _ => by kernel_rfl) ?_
  refine wpS.take 23 true (some 30) (.int .i32 a1_0) (by kernel_rfl) (yld_load1 (e := 21) (o := 0) hs 1 rfl (by kernel_rfl) (by kernel_rfl) (by rfl) .grow) ?_
  refine wpS.take 24 false (some 31) (.int .i32 (imul .i32 a0_1 a1_0)) (by kernel_rfl) (yld fun _ => by kernel_rfl) ?_
  refine wpS.take 25 false (some 32) (.int .i32 (iadd .i32 (imul .i32 a0_0 a1_1) (imul .i32 a0_1 a1_0))) (by kernel_rfl) (yld fun _ => by kernel_rfl) ?_
  refine wpS.take 26 false (some 33) (.int .i32 (irem .i32 (iadd .i32 (imul .i32 a0_0 a1_1) (imul .i32 a0_1 a1_0)) 3329)) (by kernel_rfl) (yld fun _ => by kernel_rfl) ?_
  refine wpS.take 27 false (some 34) (.agg #[.int .i32 (irem .i32 (iadd .i32 (imul .i32 a0_0 a1_0) (imul .i32 (irem .i32 (imul .i32 a0_1 a1_1) 3329) a2)) 3329), .int .i32 (irem .i32 (iadd .i32 (imul .i32 a0_0 a1_1) (imul .i32 a0_1 a1_0)) 3329)]) (by kernel_rfl) (yld fun _ => by kernel_rfl) ?_
  refine wpS.only 28 (op_storeW (t := 39) (v := .agg #[.int .i32 (irem .i32 (iadd .i32 (imul .i32 a0_0 a1_0) (imul .i32 (irem .i32 (imul .i32 a0_1 a1_1) 3329) a2)) 3329), .int .i32 (irem .i32 (iadd .i32 (imul .i32 a0_0 a1_1) (imul .i32 a0_1 a1_0)) 3329)]) (d := none) (by kernel_rfl) hs 0 rfl (vs := [.int .i32 (irem .i32 (iadd .i32 (imul .i32 a0_0 a1_0) (imul .i32 (irem .i32 (imul .i32 a0_1 a1_1) 3329) a2)) 3329), .int .i32 (irem .i32 (iadd .i32 (imul .i32 a0_0 a1_1) (imul .i32 a0_1 a1_0)) 3329)]) (n := 2) (by kernel_rfl) (by kernel_rfl) (by kernel_rfl) (by simp [enc_len]) (by simp [enc_len]) (by simp [Value.oneCell']) ?_)
  intro w kp hs
  refine ⟨fun _ => trivial, ?_⟩
  refine wpS.fin rfl (kr _ _ ?_)
  refine then_n (ks2 _ _ ?_)
  refine wp_ret ?_
  obtain ⟨q0, qr0⟩ := Prod.mk.inj (of_some h)
  have q1 := qr0
  subst q0
  subst q1
  exact qq _ _ (post_ret (by kernel_rfl) (run_results [.cell 6 39] [.agg #[.int .i32 (irem .i32 (iadd .i32 (imul .i32 a0_0 a1_0) (imul .i32 (irem .i32 (imul .i32 a0_1 a1_1) 3329) a2)) 3329), .int .i32 (irem .i32 (iadd .i32 (imul .i32 a0_0 a1_1) (imul .i32 a0_1 a1_0)) 3329)]] (by kernel_rfl) (.cons (res_cellN (n := 2) hs 0 rfl (by kernel_rfl) (by kernel_rfl) (by kernel_rfl) (by simp [enc_len])) .nil)) ⟨congrArg Ending.returned (by kernel_rfl), hs.none⟩)

theorem kq_Mul.ok {K : Nat} {a0 : Arr 256} {a1 : Arr 256} {r0 : Arr 256} (h : kq_Mul.f K a0 a1 = some r0) (w0 : World) : Ret Try.prog 9 #[.agg (enc .i32 a0).toArray, .agg (enc .i32 a1).toArray] w0 (.agg (enc .i32 r0).toArray) := by
  refine calls_k Try.func9 rfl fun Q qq => ?_
  have hs := St.start w0
  refine wp_conv (a' := ⟨#[.agg (enc .i32 a0).toArray, .agg (enc .i32 a1).toArray, undef, undef, undef, undef, undef, undef, undef, undef, undef, undef, undef, undef, undef, undef, undef, undef, undef, undef, undef, undef, undef, undef, undef, undef, undef, undef, undef, undef, undef, undef, undef, undef, undef, undef, undef, undef, undef, undef, undef, undef, undef, undef, undef, undef, undef, undef, undef, undef, undef, undef, undef, undef, undef, undef, undef, undef, undef, undef, undef, undef, undef, undef, undef, undef, undef, undef, undef, undef, undef, undef, undef, undef, undef, undef, undef, undef, undef, undef, undef, undef], []⟩) (by kernel_rfl) ?_
  refine wp_seq_k fun KS1 ks1 => ?_
  refine wp_regS (l := [0, 1, 2]) (by kernel_rfl) fun KR kr => ?_
  refine wpS.only 0 (op_box (t := 23) (v := .agg (enc .i32 a0).toArray) (d := (some 2)) (by kernel_rfl) hs (enc .i32 a0) (by kernel_rfl) (by kernel_rfl) ?_)
  intro b1 w gw hs
  refine ⟨fun _ => trivial, ?_⟩
  refine wpS.only 1 (op_box (t := 23) (v := .agg (enc .i32 a1).toArray) (d := (some 3)) (by kernel_rfl) hs (enc .i32 a1) (by kernel_rfl) (by kernel_rfl) ?_)
  intro b2 w gw hs
  refine ⟨fun _ => trivial, ?_⟩
  refine wpS.only 2 (op_alloc (t := 23) (d := (some 4)) (by kernel_rfl) hs (enc .i32 (zeroA 256)) (.agg (enc .i32 (zeroA 256)).toArray) (by kernel_rfl) (by kernel_rfl) (by kernel_rfl) ?_)
  intro b3 w gw hs
  refine ⟨fun _ => trivial, ?_⟩
  refine wpS.fin rfl (kr _ _ ?_)
  refine then_n (ks1 _ _ ?_)
  refine wp_seq_k fun KS2 ks2 => ?_
  refine wp_regS (l := [0, 1]) (by kernel_rfl) fun KR kr => ?_
  obtain ⟨r4, hg, h⟩ := of_bind h
  refine wpS.only 0 (op_callB (d := (some 11)) (by kernel_rfl) hs (fun _ => by kernel_rfl) (kq_roots.ok hg _) ?_)
  intro b5 w gw hs
  refine ⟨fun _ => trivial, ?_⟩
  refine wpS.take 1 false (some 5) (.pointer (some ⟨b5, 0, none⟩)) (by kernel_rfl) (yld fun _ => by kernel_rfl) ?_
  refine wpS.fin rfl (kr _ _ ?_)
  refine then_n (ks2 _ _ ?_)
  refine wp_seq_k fun KS3 ks3 => ?_
  refine wp_regS (l := [0]) (by kernel_rfl) fun KR kr => ?_
  refine wpS.only 0 (op_alloc (t := 23) (d := (some 6)) (by kernel_rfl) hs (enc .i32 (zeroA 256)) (.agg (enc .i32 (zeroA 256)).toArray) (by kernel_rfl) (by kernel_rfl) (by kernel_rfl) ?_)
  intro b6 w gw hs
  refine ⟨fun _ => trivial, ?_⟩
  refine wpS.fin rfl (kr _ _ ?_)
  refine then_n (ks3 _ _ ?_)
  refine wp_seq_k fun KS135 ks135 => ?_
  refine wp_seq_k fun KS136 ks136 => ?_
  refine wp_regS (l := [0]) (by kernel_rfl) fun KR kr => ?_
  refine wpS.take 0 false (some 7) (.int .i64 0) (by kernel_rfl) (yld fun _ => by kernel_rfl) ?_
  refine wpS.fin rfl (kr _ _ ?_)
  refine then_n (ks136 _ _ ?_)
  obtain ⟨y9, hy, hk0⟩ := of_bind h
  refine wp_exq (N := fun a w => St w0 [] [.blk b6 (enc .i32 y9) 23, .blk b5 (enc .i32 r4) 47, .blk b3 (enc .i32 (zeroA 256)) 23, .blk b2 (enc .i32 a1) 23, .blk b1 (enc .i32 a0) 23] [] w ∧ ∃ g : Nat → Value, a = ⟨#[.agg (enc .i32 a0).toArray, .agg (enc .i32 a1).toArray, .pointer (some ⟨b1, 0, none⟩), .pointer (some ⟨b2, 0, none⟩), .pointer (some ⟨b3, 0, none⟩), .pointer (some ⟨b5, 0, none⟩), .pointer (some ⟨b6, 0, none⟩), (g 7), (g 8), (g 9), (g 10), .pointer (some ⟨b5, 0, none⟩), (g 12), (g 13), (g 14), (g 15), (g 16), (g 17), (g 18), (g 19), (g 20), (g 21), (g 22), (g 23), (g 24), (g 25), (g 26), (g 27), (g 28), (g 29), (g 30), (g 31), (g 32), (g 33), (g 34), (g 35), (g 36), (g 37), (g 38), (g 39), (g 40), (g 41), (g 42), (g 43), (g 44), (g 45), (g 46), (g 47), (g 48), (g 49), (g 50), (g 51), (g 52), (g 53), (g 54), (g 55), (g 56), (g 57), (g 58), (g 59), (g 60), (g 61), (g 62), (g 63), (g 64), (g 65), (g 66), (g 67), (g 68), (g 69), (g 70), (g 71), (g 72), (g 73), (g 74), (g 75), (g 76), (g 77), (g 78), (g 79), (g 80), undef], []⟩) (fun N0 nn0 => ?_) ?_
  · clear hk0
    refine wp_block ?_
    refine wp_loop_k (fun n a w => ∃ z7 z8, kq_Mul.l0 K n a0 a1 r4 z7 z8 = some y9 ∧ St w0 [] [.blk b6 (enc .i32 z8) 23, .blk b5 (enc .i32 r4) 47, .blk b3 (enc .i32 (zeroA 256)) 23, .blk b2 (enc .i32 a1) 23, .blk b1 (enc .i32 a0) 23] [] w ∧ ∃ g : Nat → Value, a = ⟨#[.agg (enc .i32 a0).toArray, .agg (enc .i32 a1).toArray, .pointer (some ⟨b1, 0, none⟩), .pointer (some ⟨b2, 0, none⟩), .pointer (some ⟨b3, 0, none⟩), .pointer (some ⟨b5, 0, none⟩), .pointer (some ⟨b6, 0, none⟩), .int .i64 z7, (g 8), (g 9), (g 10), .pointer (some ⟨b5, 0, none⟩), (g 12), (g 13), (g 14), (g 15), (g 16), (g 17), (g 18), (g 19), (g 20), (g 21), (g 22), (g 23), (g 24), (g 25), (g 26), (g 27), (g 28), (g 29), (g 30), (g 31), (g 32), (g 33), (g 34), (g 35), (g 36), (g 37), (g 38), (g 39), (g 40), (g 41), (g 42), (g 43), (g 44), (g 45), (g 46), (g 47), (g 48), (g 49), (g 50), (g 51), (g 52), (g 53), (g 54), (g 55), (g 56), (g 57), (g 58), (g 59), (g 60), (g 61), (g 62), (g 63), (g 64), (g 65), (g 66), (g 67), (g 68), (g 69), (g 70), (g 71), (g 72), (g 73), (g 74), (g 75), (g 76), (g 77), (g 78), (g 79), (g 80), undef], []⟩) K ⟨0, (zeroA 256), hy, hs.conv rfl, exg (by kernel_rfl)⟩ ?_
    clear hs h hy
    rintro n a w ⟨z7, z8, h, hs, g, rfl⟩ KL0 kl0
    cases n with
    | zero => exact nomatch (show none = some _ from h)
    | succ n =>
      refine wp_seq_k fun KS203 ks203 => ?_
      refine wp_seq_k fun KS204 ks204 => ?_
      refine wp_regS (l := [0, 1]) (by kernel_rfl) fun KR kr => ?_
      refine wpS.take 0 false (some 12) (.int .i64 z7) (by kernel_rfl) (yld fun _ => by kernel_rfl) ?_
      rcases of_if h with ⟨hc, h⟩ | ⟨hc, h⟩
      · refine wpS.take 1 false (some 13) (.bool true) (by kernel_rfl) (yld_b (dt hc) (fun _ => by kernel_rfl)) ?_
        refine wpS.fin rfl (kr _ _ ?_)
        refine then_n (ks204 _ _ ?_)
        refine wp_cond_t (by kernel_rfl) ?_
        refine wp_skip ?_
        refine then_n (ks203 _ _ ?_)
        refine wp_seq_k fun KS205 ks205 => ?_
        refine wp_block ?_
        refine wp_seq_k fun KS206 ks206 => ?_
        refine wp_regS (l := [0, 1, 2, 3, 4, 5, 6, 7]) (by kernel_rfl) fun KR kr => ?_
        refine wpS.take 0 false (some 16) (.pointer (some ⟨b5, 0, none⟩)) (by kernel_rfl) (yld fun _ => by kernel_rfl) ?_
        refine wpS.take 1 false (some 17) (.int .i64 z7) (by kernel_rfl) (yld fun _ => by kernel_rfl) ?_
        refine wpS.take 2 false (some 18) (.int .i64 (iquo .i64 z7 4)) (by kernel_rfl) (yld fun _ => by kernel_rfl) ?_
        refine wpS.take 3 false (some 19) (.int .i64 (iadd .i64 64 (iquo .i64 z7 4))) (by kernel_rfl) (yld fun _ => by kernel_rfl) ?_
        refine wpS.take 4 false (some 20) (.pointer (some ⟨b5, 0, none⟩)) (by kernel_rfl) (yld fun _ => by kernel_rfl) ?_
        obtain ⟨x10, hx, h⟩ := of_bind h
        have hx := of_some hx
        subst hx
        obtain ⟨i0_207, h⟩ := of_chk h
        obtain ⟨i1_207, h⟩ := of_chk h
        refine wpS.take 5 false (some 21) (.pointer (some ⟨b5, 0 + ((iadd .i64 64 (iquo .i64 z7 4)) : Int).toNat * 1, none⟩)) (by kernel_rfl) (yld_idx (t := 47) (e := 21) (n := 128) (sz := 1) (k := .i64) (x := (iadd .i64 64 (iquo .i64 z7 4))) (by kernel_rfl) (by kernel_rfl) (by kernel_rfl) i0_207 i1_207) ?_
        refine wpS.take 6 true (some 22) (.int .i32 (rd r4 (iadd .i64 64 (iquo .i64 z7 4)))) (by kernel_rfl) (yld_loadA (e := 21) (x := (iadd .i64 64 (iquo .i64 z7 4))) hs 1 rfl (by kernel_rfl) (by kernel_rfl) i0_207 i1_207 .grow) ?_
        obtain ⟨x11, hx, h⟩ := of_bind h
        refine wpS.take 7 false (some 8) (.int .i32 x11) (by kernel_rfl) (yld_int hx (fun _ => by kernel_rfl)) ?_
        refine wpS.fin rfl (kr _ _ ?_)
        refine then_n (ks206 _ _ ?_)
        refine wp_seq_k fun KS208 ks208 => ?_
        refine wp_regG [19] (fun k => True) 20 (by kernel_rfl) (by kernel_rfl) fun KR kr => ?_
        have hs := hs.drawn1
        refine wpG.takeD 0 false (some 23) (.int .i64 z7) (by kernel_rfl) (by kernel_rfl) (yld fun _ => by kernel_rfl) ?_
        obtain ⟨i0_213, h⟩ := of_chk h
        obtain ⟨i1_213, h⟩ := of_chk h
        refine wpG.takeD 1 false (some 24) (.pointer (some ⟨b1, 0 + (z7 : Int).toNat * 1, none⟩)) (by kernel_rfl) (by kernel_rfl) (yld_idx (t := 23) (e := 21) (n := 256) (sz := 1) (k := .i64) (x := z7) (by kernel_rfl) (by kernel_rfl) (by kernel_rfl) i0_213 i1_213) ?_
        refine wpG.takeD 2 true (some 25) (.int .i32 (rd a0 z7)) (by kernel_rfl) (by kernel_rfl) (yld_loadA (e := 21) (x := z7) hs 4 rfl (by kernel_rfl) (by kernel_rfl) i0_213 i1_213 .grow) ?_
        refine wpG.takeD 3 false (some 26) (.int .i64 z7) (by kernel_rfl) (by kernel_rfl) (yld fun _ => by kernel_rfl) ?_
        refine wpG.takeD 4 false (some 27) (.int .i64 (iadd .i64 z7 1)) (by kernel_rfl) (by kernel_rfl) (yld fun _ => by kernel_rfl) ?_
        obtain ⟨x12, hx, h⟩ := of_bind h
        have hx := of_some hx
        subst hx
        obtain ⟨i0_214, h⟩ := of_chk h
        obtain ⟨i1_214, h⟩ := of_chk h
        refine wpG.takeD 5 false (some 28) (.pointer (some ⟨b1, 0 + ((iadd .i64 z7 1) : Int).toNat * 1, none⟩)) (by kernel_rfl) (by kernel_rfl) (yld_idx (t := 23) (e := 21) (n := 256) (sz := 1) (k := .i64) (x := (iadd .i64 z7 1)) (by kernel_rfl) (by kernel_rfl) (by kernel_rfl) i0_214 i1_214) ?_
        refine wpG.takeD 6 true (some 29) (.int .i32 (rd a0 (iadd .i64 z7 1))) (by kernel_rfl) (by kernel_rfl) (yld_loadA (e := 21) (x := (iadd .i64 z7 1)) hs 4 rfl (by kernel_rfl) (by kernel_rfl) i0_214 i1_214 .grow) ?_
        refine wpG.takeD 7 false (some 30) (.agg #[.int .i32 (rd a0 z7), .int .i32 (rd a0 (iadd .i64 z7 1))]) (by kernel_rfl) (by kernel_rfl) (yld fun _ => by kernel_rfl) ?_
        refine wpG.takeD 8 false (some 31) (.int .i64 z7) (by kernel_rfl) (by kernel_rfl) (yld fun _ => by kernel_rfl) ?_
        obtain ⟨i0_215, h⟩ := of_chk h
        obtain ⟨i1_215, h⟩ := of_chk h
        refine wpG.takeD 9 false (some 32) (.pointer (some ⟨b2, 0 + (z7 : Int).toNat * 1, none⟩)) (by kernel_rfl) (by kernel_rfl) (yld_idx (t := 23) (e := 21) (n := 256) (sz := 1) (k := .i64) (x := z7) (by kernel_rfl) (by kernel_rfl) (by kernel_rfl) i0_215 i1_215) ?_
        refine wpG.takeD 10 true (some 33) (.int .i32 (rd a1 z7)) (by kernel_rfl) (by kernel_rfl) (yld_loadA (e := 21) (x := z7) hs 3 rfl (by kernel_rfl) (by kernel_rfl) i0_215 i1_215 .grow) ?_
        refine wpG.takeD 11 false (some 34) (.int .i64 z7) (by kernel_rfl) (by kernel_rfl) (yld fun _ => by kernel_rfl) ?_
        refine wpG.takeD 12 false (some 35) (.int .i64 (iadd .i64 z7 1)) (by kernel_rfl) (by kernel_rfl) (yld fun _ => by kernel_rfl) ?_
        obtain ⟨x13, hx, h⟩ := of_bind h
        have hx := of_some hx
        subst hx
        obtain ⟨i0_216, h⟩ := of_chk h
        obtain ⟨i1_216, h⟩ := of_chk h
        refine wpG.takeD 13 false (some 36) (.pointer (some ⟨b2, 0 + ((iadd .i64 z7 1) : Int).toNat * 1, none⟩)) (by kernel_rfl) (by kernel_rfl) (yld_idx (t := 23) (e := 21) (n := 256) (sz := 1) (k := .i64) (x := (iadd .i64 z7 1)) (by kernel_rfl) (by kernel_rfl) (by kernel_rfl) i0_216 i1_216) ?_
        refine wpG.takeD 14 true (some 37) (.int .i32 (rd a1 (iadd .i64 z7 1))) (by kernel_rfl) (by kernel_rfl) (yld_loadA (e := 21) (x := (iadd .i64 z7 1)) hs 3 rfl (by kernel_rfl) (by kernel_rfl) i0_216 i1_216 .grow) ?_
        refine wpG.takeD 15 false (some 38) (.agg #[.int .i32 (rd a1 z7), .int .i32 (rd a1 (iadd .i64 z7 1))]) (by kernel_rfl) (by kernel_rfl) (yld fun _ => by kernel_rfl) ?_
        refine wpG.takeD 16 false (some 39) (.int .i32 x11) (by kernel_rfl) (by kernel_rfl) (yld fun _ => by kernel_rfl) ?_
        refine wpG.two 17 18 (by kernel_rfl) ?_ ?_
        · obtain ⟨⟨r14_0, r14_1⟩, hg, h⟩ := of_bind h
          refine (op_call (d := (some 40)) (by kernel_rfl) hs (fun _ => by kernel_rfl) (kq_pair_times.ok hg _) ?_)
          intro w gw hs
          refine ⟨.of gw, ?_⟩
          refine wpG.only 18 (by kernel_rfl) (op_alloc (t := 39) (d := (some 9)) (by kernel_rfl) hs ([.int .i32 0, .int .i32 0]) (.agg #[.int .i32 0, .int .i32 0]) (by kernel_rfl) (by kernel_rfl) (by kernel_rfl) ?_)
          intro b15 w gw hs
          refine ⟨.of gw, ?_⟩
          refine wpG.only 19 (by kernel_rfl) (op_storeW (t := 39) (v := .agg #[.int .i32 r14_0, .int .i32 r14_1]) (d := none) (by kernel_rfl) hs 0 rfl (vs := [.int .i32 r14_0, .int .i32 r14_1]) (n := 2) (by kernel_rfl) (by kernel_rfl) (by kernel_rfl) (by simp [enc_len]) (by simp [enc_len]) (by simp [Value.oneCell']) ?_)
          intro w kp hs
          refine ⟨⟨fun hf => absurd hf (by decide), .all _ _⟩, ?_⟩
          refine wpG.fin (by kernel_rfl) rfl (kr _ _ ?_)
          refine then_n (ks208 _ _ ?_)
          refine wp_seq_k fun KS217 ks217 => ?_
          refine wp_regG [22] (fun k => True) 23 (by kernel_rfl) (by kernel_rfl) fun KR kr => ?_
          have hs := hs.drawn1
          refine wpG.takeD 0 false (some 41) (.int .i64 z7) (by kernel_rfl) (by kernel_rfl) (yld fun _ => by kernel_rfl) ?_
          refine wpG.takeD 1 false (some 42) (.int .i64 (iadd .i64 z7 2)) (by kernel_rfl) (by kernel_rfl) (yld fun _ => by kernel_rfl) ?_
          obtain ⟨x16, hx, h⟩ := of_bind h
          have hx := of_some hx
          subst hx
          obtain ⟨i0_222, h⟩ := of_chk h
          obtain ⟨i1_222, h⟩ := of_chk h
          refine wpG.takeD 2 false (some 43) (.pointer (some ⟨b1, 0 + ((iadd .i64 z7 2) : Int).toNat * 1, none⟩)) (by kernel_rfl) (by kernel_rfl) (yld_idx (t := 23) (e := 21) (n := 256) (sz := 1) (k := .i64) (x := (iadd .i64 z7 2)) (by kernel_rfl) (by kernel_rfl) (by kernel_rfl) i0_222 i1_222) ?_
          refine wpG.takeD 3 true (some 44) (.int .i32 (rd a0 (iadd .i64 z7 2))) (by kernel_rfl) (by kernel_rfl) (yld_loadA (e := 21) (x := (iadd .i64 z7 2)) hs 5 rfl (by kernel_rfl) (by kernel_rfl) i0_222 i1_222 .grow) ?_
          refine wpG.takeD 4 false (some 45) (.int .i64 z7) (by kernel_rfl) (by kernel_rfl) (yld fun _ => by kernel_rfl) ?_
          refine wpG.takeD 5 false (some 46) (.int .i64 (iadd .i64 z7 3)) (by kernel_rfl) (by kernel_rfl) (yld fun _ => by kernel_rfl) ?_
          obtain ⟨x17, hx, h⟩ := of_bind h
          have hx := of_some hx
          subst hx
          obtain ⟨i0_223, h⟩ := of_chk h
          obtain ⟨i1_223, h⟩ := of_chk h
          refine wpG.takeD 6 false (some 47) (.pointer (some ⟨b1, 0 + ((iadd .i64 z7 3) : Int).toNat * 1, none⟩)) (by kernel_rfl) (by kernel_rfl) (yld_idx (t := 23) (e := 21) (n := 256) (sz := 1) (k := .i64) (x := (iadd .i64 z7 3)) (by kernel_rfl) (by kernel_rfl) (by kernel_rfl) i0_223 i1_223) ?_
          refine wpG.takeD 7 true (some 48) (.int .i32 (rd a0 (iadd .i64 z7 3))) (by kernel_rfl) (by kernel_rfl) (yld_loadA (e := 21) (x := (iadd .i64 z7 3)) hs 5 rfl (by kernel_rfl) (by kernel_rfl) i0_223 i1_223 .grow) ?_
          refine wpG.takeD 8 false (some 49) (.agg #[.int .i32 (rd a0 (iadd .i64 z7 2)), .int .i32 (rd a0 (iadd .i64 z7 3))]) (by kernel_rfl) (by kernel_rfl) (yld fun _ => by kernel_rfl) ?_
          refine wpG.takeD 9 false (some 50) (.int .i64 z7) (by kernel_rfl) (by kernel_rfl) (yld fun _ => by kernel_rfl) ?_
          refine wpG.takeD 10 false (some 51) (.int .i64 (iadd .i64 z7 2)) (by kernel_rfl) (by kernel_rfl) (yld fun _ => by kernel_rfl) ?_
          obtain ⟨x18, hx, h⟩ := of_bind h
          have hx := of_some hx
          subst hx
          obtain ⟨i0_224, h⟩ := of_chk h
          obtain ⟨i1_224, h⟩ := of_chk h
          refine wpG.takeD 11 false (some 52) (.pointer (some ⟨b2, 0 + ((iadd .i64 z7 2) : Int).toNat * 1, none⟩)) (by kernel_rfl) (by kernel_rfl) (yld_idx (t := 23) (e := 21) (n := 256) (sz := 1) (k := .i64) (x := (iadd .i64 z7 2)) (by kernel_rfl) (by kernel_rfl) (by kernel_rfl) i0_224 i1_224) ?_
          refine wpG.takeD 12 true (some 53) (.int .i32 (rd a1 (iadd .i64 z7 2))) (by kernel_rfl) (by kernel_rfl) (yld_loadA (e := 21) (x := (iadd .i64 z7 2)) hs 4 rfl (by kernel_rfl) (by kernel_rfl) i0_224 i1_224 .grow) ?_
          refine wpG.takeD 13 false (some 54) (.int .i64 z7) (by kernel_rfl) (by kernel_rfl) (yld fun _ => by kernel_rfl) ?_
          refine wpG.takeD 14 false (some 55) (.int .i64 (iadd .i64 z7 3)) (by kernel_rfl) (by kernel_rfl) (yld fun _ => by kernel_rfl) ?_
          obtain ⟨x19, hx, h⟩ := of_bind h
          have hx := of_some hx
          subst hx
          obtain ⟨i0_225, h⟩ := of_chk h
          obtain ⟨i1_225, h⟩ := of_chk h
          refine wpG.takeD 15 false (some 56) (.pointer (some ⟨b2, 0 + ((iadd .i64 z7 3) : Int).toNat * 1, none⟩)) (by kernel_rfl) (by kernel_rfl) (yld_idx (t := 23) (e := 21) (n := 256) (sz := 1) (k := .i64) (x := (iadd .i64 z7 3)) (by kernel_rfl) (by kernel_rfl) (by kernel_rfl) i0_225 i1_225) ?_
          refine wpG.takeD 16 true (some 57) (.int .i32 (rd a1 (iadd .i64 z7 3))) (by kernel_rfl) (by kernel_rfl) (yld_loadA (e := 21) (x := (iadd .i64 z7 3)) hs 4 rfl (by kernel_rfl) (by kernel_rfl) i0_225 i1_225 .grow) ?_
          refine wpG.takeD 17 false (some 58) (.agg #[.int .i32 (rd a1 (iadd .i64 z7 2)), .int .i32 (rd a1 (iadd .i64 z7 3))]) (by kernel_rfl) (by kernel_rfl) (yld fun _ => by kernel_rfl) ?_
          refine wpG.takeD 18 false (some 59) (.int .i32 x11) (by kernel_rfl) (by kernel_rfl) (yld fun _ => by kernel_rfl) ?_
          refine wpG.takeD 19 false (some 60) (.int .i32 (isub .i32 3329 x11)) (by kernel_rfl) (by kernel_rfl) (yld fun _ => by kernel_rfl) ?_
          refine wpG.two 20 21 (by kernel_rfl) ?_ ?_
          · obtain ⟨⟨r20_0, r20_1⟩, hg, h⟩ := of_bind h
            refine (op_call (d := (some 61)) (by kernel_rfl) hs (fun _ => by kernel_rfl) (kq_pair_times.ok hg _) ?_)
            intro w gw hs
            refine ⟨.of gw, ?_⟩
            refine wpG.only 21 (by kernel_rfl) (op_alloc (t := 39) (d := (some 10)) (by kernel_rfl) hs ([.int .i32 0, .int .i32 0]) (.agg #[.int .i32 0, .int .i32 0]) (by kernel_rfl) (by kernel_rfl) (by kernel_rfl) ?_)
            intro b21 w gw hs
            refine ⟨.of gw, ?_⟩
            refine wpG.only 22 (by kernel_rfl) (op_storeW (t := 39) (v := .agg #[.int .i32 r20_0, .int .i32 r20_1]) (d := none) (by kernel_rfl) hs 0 rfl (vs := [.int .i32 r20_0, .int .i32 r20_1]) (n := 2) (by kernel_rfl) (by kernel_rfl) (by kernel_rfl) (by simp [enc_len]) (by simp [enc_len]) (by simp [Value.oneCell']) ?_)
            intro w kp hs
            refine ⟨⟨fun hf => absurd hf (by decide), .all _ _⟩, ?_⟩
            refine wpG.fin (by kernel_rfl) rfl (kr _ _ ?_)
            refine then_n (ks217 _ _ ?_)
            refine wp_regG [16, 18, 20, 22] (fun k => k = b6) 23 (by kernel_rfl) (by kernel_rfl) fun KR kr => ?_
            have hs := hs.drawn1
            refine wpG.takeD 0 false (some 62) (.int .i64 z7) (by kernel_rfl) (by kernel_rfl) (yld fun _ => by kernel_rfl) ?_
            refine wpG.takeD 1 false (some 63) (.int .i64 z7) (by kernel_rfl) (by kernel_rfl) (yld fun _ => by kernel_rfl) ?_
            refine wpG.takeD 2 false (some 64) (.int .i64 (iadd .i64 z7 1)) (by kernel_rfl) (by kernel_rfl) (yld fun _ => by kernel_rfl) ?_
            refine wpG.takeD 3 false (some 65) (.int .i64 z7) (by kernel_rfl) (by kernel_rfl) (yld fun _ => by kernel_rfl) ?_
            refine wpG.takeD 4 false (some 66) (.int .i64 (iadd .i64 z7 2)) (by kernel_rfl) (by kernel_rfl) (yld fun _ => by kernel_rfl) ?_
            refine wpG.takeD 5 false (some 67) (.int .i64 z7) (by kernel_rfl) (by kernel_rfl) (yld fun _ => by kernel_rfl) ?_
            refine wpG.takeD 6 false (some 68) (.int .i64 (iadd .i64 z7 3)) (by kernel_rfl) (by kernel_rfl) (yld fun _ => by kernel_rfl) ?_
            refine wpG.takeD 7 false (some 69) (.pointer (some ⟨b15, 0, none⟩)) (by kernel_rfl) (by kernel_rfl) (yld fun _ => by kernel_rfl) ?_
            refine wpG.takeD 8 true (some 70) (.int .i32 r14_0) (by kernel_rfl) (by kernel_rfl) (yld_load1 (e := 21) (o := 0) hs 1 rfl (by kernel_rfl) (by kernel_rfl) (by rfl) .grow) ?_
            refine wpG.takeD 9 false (some 71) (.pointer (some ⟨b15, 1, none⟩)) (by kernel_rfl) (by kernel_rfl) (yld fun _ => by kernel_rfl) ?_
            refine wpG.takeK [10, 17, 18, 19, 20, 21, 22] 10 (some 72) (.int .i32 r14_1) (by kernel_rfl) (by kernel_rfl) (yld_load1 (e := 21) (o := 1) hs 1 rfl (by kernel_rfl) (by kernel_rfl) (by rfl) (.keep (hs.blkNe 1 2 rfl rfl (by decide)))) ?_
            refine wpG.takeD 11 false (some 73) (.pointer (some ⟨b21, 0, none⟩)) (by kernel_rfl) (by kernel_rfl) (yld fun _ => by kernel_rfl) ?_
            refine wpG.takeK [12, 19, 20, 21, 22] 12 (some 74) (.int .i32 r20_0) (by kernel_rfl) (by kernel_rfl) (yld_load1 (e := 21) (o := 0) hs 0 rfl (by kernel_rfl) (by kernel_rfl) (by rfl) (.keep (hs.blkNe 0 2 rfl rfl (by decide)))) ?_
            refine wpG.takeD 13 false (some 75) (.pointer (some ⟨b21, 1, none⟩)) (by kernel_rfl) (by kernel_rfl) (yld fun _ => by kernel_rfl) ?_
            refine wpG.takeK [14, 21, 22] 14 (some 76) (.int .i32 r20_1) (by kernel_rfl) (by kernel_rfl) (yld_load1 (e := 21) (o := 1) hs 0 rfl (by kernel_rfl) (by kernel_rfl) (by rfl) (.keep (hs.blkNe 0 2 rfl rfl (by decide)))) ?_
            obtain ⟨i0_230, h⟩ := of_chk h
            obtain ⟨i1_230, h⟩ := of_chk h
            refine wpG.takeD 15 false (some 77) (.pointer (some ⟨b6, 0 + (z7 : Int).toNat * 1, none⟩)) (by kernel_rfl) (by kernel_rfl) (yld_idx (t := 23) (e := 21) (n := 256) (sz := 1) (k := .i64) (x := z7) (by kernel_rfl) (by kernel_rfl) (by kernel_rfl) i0_230 i1_230) ?_
            refine wpG.only 16 (by kernel_rfl) (op_storeA (t := 21) (x := z7) (v := r14_0) (d := none) (by kernel_rfl) hs 2 rfl (by kernel_rfl /-v-/) (by kernel_rfl) i0_230 i1_230 ?_)
            intro w kp hs
            refine ⟨⟨fun hf => absurd hf (by decide), kp.mono fun _ h => h⟩, ?_⟩
            obtain ⟨x22, hx, h⟩ := of_bind h
            have hx := of_some hx
            subst hx
            obtain ⟨i0_231, h⟩ := of_chk h
            obtain ⟨i1_231, h⟩ := of_chk h
            refine wpG.takeD 17 false (some 78) (.pointer (some ⟨b6, 0 + ((iadd .i64 z7 1) : Int).toNat * 1, none⟩)) (by kernel_rfl) (by kernel_rfl) (yld_idx (t := 23) (e := 21) (n := 256) (sz := 1) (k := .i64) (x := (iadd .i64 z7 1)) (by kernel_rfl) (by kernel_rfl) (by kernel_rfl) i0_231 i1_231) ?_
            refine wpG.only 18 (by kernel_rfl) (op_storeA (t := 21) (x := (iadd .i64 z7 1)) (v := r14_1) (d := none) (by kernel_rfl) hs 2 rfl (by kernel_rfl /-v-/) (by kernel_rfl) i0_231 i1_231 ?_)
            intro w kp hs
            refine ⟨⟨fun hf => absurd hf (by decide), kp.mono fun _ h => h⟩, ?_⟩
            obtain ⟨x23, hx, h⟩ := of_bind h
            have hx := of_some hx
            subst hx
            obtain ⟨i0_232, h⟩ := of_chk h
            obtain ⟨i1_232, h⟩ := of_chk h
            refine wpG.takeD 19 false (some 79) (.pointer (some ⟨b6, 0 + ((iadd .i64 z7 2) : Int).toNat * 1, none⟩)) (by kernel_rfl) (by kernel_rfl) (yld_idx (t := 23) (e := 21) (n := 256) (sz := 1) (k := .i64) (x := (iadd .i64 z7 2)) (by kernel_rfl) (by kernel_rfl) (by kernel_rfl) i0_232 i1_232) ?_
            refine wpG.only 20 (by kernel_rfl) (op_storeA (t := 21) (x := (iadd .i64 z7 2)) (v := r20_0) (d := none) (by kernel_rfl) hs 2 rfl (by kernel_rfl /-v-/) (by kernel_rfl) i0_232 i1_232 ?_)
            intro w kp hs
            refine ⟨⟨fun hf => absurd hf (by decide), kp.mono fun _ h => h⟩, ?_⟩
            obtain ⟨x24, hx, h⟩ := of_bind h
            have hx := of_some hx
            subst hx
            obtain ⟨i0_233, h⟩ := of_chk h
            obtain ⟨i1_233, h⟩ := of_chk h
            refine wpG.takeD 21 false (some 80) (.pointer (some ⟨b6, 0 + ((iadd .i64 z7 3) : Int).toNat * 1, none⟩)) (by kernel_rfl) (by kernel_rfl) (yld_idx (t := 23) (e := 21) (n := 256) (sz := 1) (k := .i64) (x := (iadd .i64 z7 3)) (by kernel_rfl) (by kernel_rfl) (by kernel_rfl) i0_233 i1_233) ?_
            refine wpG.only 22 (by kernel_rfl) (op_storeA (t := 21) (x := (iadd .i64 z7 3)) (v := r20_1) (d := none) (by kernel_rfl) hs 2 rfl (by kernel_rfl /-v-/) (by kernel_rfl) i0_233 i1_233 ?_)
            intro w kp hs
            refine ⟨⟨fun hf => absurd hf (by decide), kp.mono fun _ h => h⟩, ?_⟩
            refine wpG.fin (by kernel_rfl) rfl (kr _ _ ?_)
            refine inBlock_n ?_
            refine then_n (ks205 _ _ ?_)
            refine wp_regS (l := [0, 1, 2]) (by kernel_rfl) fun KR kr => ?_
            refine wpS.take 0 false (some 14) (.int .i64 z7) (by kernel_rfl) (yld fun _ => by kernel_rfl) ?_
            refine wpS.take 1 false (some 15) (.int .i64 (iadd .i64 z7 4)) (by kernel_rfl) (yld fun _ => by kernel_rfl) ?_
            obtain ⟨x25, hx, h⟩ := of_bind h
            refine wpS.take 2 false (some 7) (.int .i64 x25) (by kernel_rfl) (yld_int hx (fun _ => by kernel_rfl)) ?_
            refine wpS.fin rfl (kr _ _ ?_)
            exact then_n (kl0 _ _ ⟨n, Nat.lt_succ_self n, x25, (wr (wr (wr (wr z8 z7 r14_0) (iadd .i64 z7 1) r14_1) (iadd .i64 z7 2) r20_0) (iadd .i64 z7 3) r20_1), h, ((hs.conv (L' := [.blk b21 ([.int .i32 r20_0, .int .i32 r20_1]) 39, .blk b15 ([.int .i32 r14_0, .int .i32 r14_1]) 39, .blk b6 (enc .i32 (wr (wr (wr (wr z8 z7 r14_0) (iadd .i64 z7 1) r14_1) (iadd .i64 z7 2) r20_0) (iadd .i64 z7 3) r20_1)) 23, .blk b5 (enc .i32 r4) 47, .blk b3 (enc .i32 (zeroA 256)) 23, .blk b2 (enc .i32 a1) 23, .blk b1 (enc .i32 a0) 23]) rfl).drop (.cons _ (.cons _ (.cons_cons _ (.cons_cons _ (.cons_cons _ (.cons_cons _ (.cons_cons _ .slnil)))))))), exg (by kernel_rfl)⟩)
          · refine (op_alloc (t := 39) (d := (some 10)) (by kernel_rfl) hs ([.int .i32 0, .int .i32 0]) (.agg #[.int .i32 0, .int .i32 0]) (by kernel_rfl) (by kernel_rfl) (by kernel_rfl) ?_)
            intro b20 w gw hs
            refine ⟨.of gw, ?_⟩
            obtain ⟨⟨r21_0, r21_1⟩, hg, h⟩ := of_bind h
            refine wpG.only 20 (by kernel_rfl) (op_call (d := (some 61)) (by kernel_rfl) hs (fun _ => by kernel_rfl) (kq_pair_times.ok hg _) ?_)
            intro w gw hs
            refine ⟨.of gw, ?_⟩
            refine wpG.only 22 (by kernel_rfl) (op_storeW (t := 39) (v := .agg #[.int .i32 r21_0, .int .i32 r21_1]) (d := none) (by kernel_rfl) hs 0 rfl (vs := [.int .i32 r21_0, .int .i32 r21_1]) (n := 2) (by kernel_rfl) (by kernel_rfl) (by kernel_rfl) (by simp [enc_len]) (by simp [enc_len]) (by simp [Value.oneCell']) ?_)
            intro w kp hs
            refine ⟨⟨fun hf => absurd hf (by decide), .all _ _⟩, ?_⟩
            refine wpG.fin (by kernel_rfl) rfl (kr _ _ ?_)
            refine then_n (ks217 _ _ ?_)
            refine wp_regG [16, 18, 20, 22] (fun k => k = b6) 23 (by kernel_rfl) (by kernel_rfl) fun KR kr => ?_
            have hs := hs.drawn1
            refine wpG.takeD 0 false (some 62) (.int .i64 z7) (by kernel_rfl) (by kernel_rfl) (yld fun _ => by kernel_rfl) ?_
            refine wpG.takeD 1 false (some 63) (.int .i64 z7) (by kernel_rfl) (by kernel_rfl) (yld fun _ => by kernel_rfl) ?_
            refine wpG.takeD 2 false (some 64) (.int .i64 (iadd .i64 z7 1)) (by kernel_rfl) (by kernel_rfl) (yld fun _ => by kernel_rfl) ?_
            refine wpG.takeD 3 false (some 65) (.int .i64 z7) (by kernel_rfl) (by kernel_rfl) (yld fun _ => by kernel_rfl) ?_
            refine wpG.takeD 4 false (some 66) (.int .i64 (iadd .i64 z7 2)) (by kernel_rfl) (by kernel_rfl) (yld fun _ => by kernel_rfl) ?_
            refine wpG.takeD 5 false (some 67) (.int .i64 z7) (by kernel_rfl) (by kernel_rfl) (yld fun _ => by kernel_rfl) ?_
            refine wpG.takeD 6 false (some 68) (.int .i64 (iadd .i64 z7 3)) (by kernel_rfl) (by kernel_rfl) (yld fun _ => by kernel_rfl) ?_
            refine wpG.takeD 7 false (some 69) (.pointer (some ⟨b15, 0, none⟩)) (by kernel_rfl) (by kernel_rfl) (yld fun _ => by kernel_rfl) ?_
            refine wpG.takeD 8 true (some 70) (.int .i32 r14_0) (by kernel_rfl) (by kernel_rfl) (yld_load1 (e := 21) (o := 0) hs 1 rfl (by kernel_rfl) (by kernel_rfl) (by rfl) .grow) ?_
            refine wpG.takeD 9 false (some 71) (.pointer (some ⟨b15, 1, none⟩)) (by kernel_rfl) (by kernel_rfl) (yld fun _ => by kernel_rfl) ?_
            refine wpG.takeK [10, 17, 18, 19, 20, 21, 22] 10 (some 72) (.int .i32 r14_1) (by kernel_rfl) (by kernel_rfl) (yld_load1 (e := 21) (o := 1) hs 1 rfl (by kernel_rfl) (by kernel_rfl) (by rfl) (.keep (hs.blkNe 1 2 rfl rfl (by decide)))) ?_
            refine wpG.takeD 11 false (some 73) (.pointer (some ⟨b20, 0, none⟩)) (by kernel_rfl) (by kernel_rfl) (yld fun _ => by kernel_rfl) ?_
            refine wpG.takeK [12, 19, 20, 21, 22] 12 (some 74) (.int .i32 r21_0) (by kernel_rfl) (by kernel_rfl) (yld_load1 (e := 21) (o := 0) hs 0 rfl (by kernel_rfl) (by kernel_rfl) (by rfl) (.keep (hs.blkNe 0 2 rfl rfl (by decide)))) ?_
            refine wpG.takeD 13 false (some 75) (.pointer (some ⟨b20, 1, none⟩)) (by kernel_rfl) (by kernel_rfl) (yld fun _ => by kernel_rfl) ?_
            refine wpG.takeK [14, 21, 22] 14 (some 76) (.int .i32 r21_1) (by kernel_rfl) (by kernel_rfl) (yld_load1 (e := 21) (o := 1) hs 0 rfl (by kernel_rfl) (by kernel_rfl) (by rfl) (.keep (hs.blkNe 0 2 rfl rfl (by decide)))) ?_
            obtain ⟨i0_238, h⟩ := of_chk h
            obtain ⟨i1_238, h⟩ := of_chk h
            refine wpG.takeD 15 false (some 77) (.pointer (some ⟨b6, 0 + (z7 : Int).toNat * 1, none⟩)) (by kernel_rfl) (by kernel_rfl) (yld_idx (t := 23) (e := 21) (n := 256) (sz := 1) (k := .i64) (x := z7) (by kernel_rfl) (by kernel_rfl) (by kernel_rfl) i0_238 i1_238) ?_
            refine wpG.only 16 (by kernel_rfl) (op_storeA (t := 21) (x := z7) (v := r14_0) (d := none) (by kernel_rfl) hs 2 rfl (by kernel_rfl /-v-/) (by kernel_rfl) i0_238 i1_238 ?_)
            intro w kp hs
            refine ⟨⟨fun hf => absurd hf (by decide), kp.mono fun _ h => h⟩, ?_⟩
            obtain ⟨x22, hx, h⟩ := of_bind h
            have hx := of_some hx
            subst hx
            obtain ⟨i0_239, h⟩ := of_chk h
            obtain ⟨i1_239, h⟩ := of_chk h
            refine wpG.takeD 17 false (some 78) (.pointer (some ⟨b6, 0 + ((iadd .i64 z7 1) : Int).toNat * 1, none⟩)) (by kernel_rfl) (by kernel_rfl) (yld_idx (t := 23) (e := 21) (n := 256) (sz := 1) (k := .i64) (x := (iadd .i64 z7 1)) (by kernel_rfl) (by kernel_rfl) (by kernel_rfl) i0_239 i1_239) ?_
            refine wpG.only 18 (by kernel_rfl) (op_storeA (t := 21) (x := (iadd .i64 z7 1)) (v := r14_1) (d := none) (by kernel_rfl) hs 2 rfl (by kernel_rfl /-v-/) (by kernel_rfl) i0_239 i1_239 ?_)
            intro w kp hs
            refine ⟨⟨fun hf => absurd hf (by decide), kp.mono fun _ h => h⟩, ?_⟩
            obtain ⟨x23, hx, h⟩ := of_bind h
            have hx := of_some hx
            subst hx
            obtain ⟨i0_240, h⟩ := of_chk h
            obtain ⟨i1_240, h⟩ := of_chk h
            refine wpG.takeD 19 false (some 79) (.pointer (some ⟨b6, 0 + ((iadd .i64 z7 2) : Int).toNat * 1, none⟩)) (by kernel_rfl) (by kernel_rfl) (yld_idx (t := 23) (e := 21) (n := 256) (sz := 1) (k := .i64) (x := (iadd .i64 z7 2)) (by kernel_rfl) (by kernel_rfl) (by kernel_rfl) i0_240 i1_240) ?_
            refine wpG.only 20 (by kernel_rfl) (op_storeA (t := 21) (x := (iadd .i64 z7 2)) (v := r21_0) (d := none) (by kernel_rfl) hs 2 rfl (by kernel_rfl /-v-/) (by kernel_rfl) i0_240 i1_240 ?_)
            intro w kp hs
            refine ⟨⟨fun hf => absurd hf (by decide), kp.mono fun _ h => h⟩, ?_⟩
            obtain ⟨x24, hx, h⟩ := of_bind h
            have hx := of_some hx
            subst hx
            obtain ⟨i0_241, h⟩ := of_chk h
            obtain ⟨i1_241, h⟩ := of_chk h
            refine wpG.takeD 21 false (some 80) (.pointer (some ⟨b6, 0 + ((iadd .i64 z7 3) : Int).toNat * 1, none⟩)) (by kernel_rfl) (by kernel_rfl) (yld_idx (t := 23) (e := 21) (n := 256) (sz := 1) (k := .i64) (x := (iadd .i64 z7 3)) (by kernel_rfl) (by kernel_rfl) (by kernel_rfl) i0_241 i1_241) ?_
            refine wpG.only 22 (by kernel_rfl) (op_storeA (t := 21) (x := (iadd .i64 z7 3)) (v := r21_1) (d := none) (by kernel_rfl) hs 2 rfl (by kernel_rfl /-v-/) (by kernel_rfl) i0_241 i1_241 ?_)
            intro w kp hs
            refine ⟨⟨fun hf => absurd hf (by decide), kp.mono fun _ h => h⟩, ?_⟩
            refine wpG.fin (by kernel_rfl) rfl (kr _ _ ?_)
            refine inBlock_n ?_
            refine then_n (ks205 _ _ ?_)
            refine wp_regS (l := [0, 1, 2]) (by kernel_rfl) fun KR kr => ?_
            refine wpS.take 0 false (some 14) (.int .i64 z7) (by kernel_rfl) (yld fun _ => by kernel_rfl) ?_
            refine wpS.take 1 false (some 15) (.int .i64 (iadd .i64 z7 4)) (by kernel_rfl) (yld fun _ => by kernel_rfl) ?_
            obtain ⟨x25, hx, h⟩ := of_bind h
            refine wpS.take 2 false (some 7) (.int .i64 x25) (by kernel_rfl) (yld_int hx (fun _ => by kernel_rfl)) ?_
            refine wpS.fin rfl (kr _ _ ?_)
            exact then_n (kl0 _ _ ⟨n, Nat.lt_succ_self n, x25, (wr (wr (wr (wr z8 z7 r14_0) (iadd .i64 z7 1) r14_1) (iadd .i64 z7 2) r21_0) (iadd .i64 z7 3) r21_1), h, ((hs.conv (L' := [.blk b20 ([.int .i32 r21_0, .int .i32 r21_1]) 39, .blk b15 ([.int .i32 r14_0, .int .i32 r14_1]) 39, .blk b6 (enc .i32 (wr (wr (wr (wr z8 z7 r14_0) (iadd .i64 z7 1) r14_1) (iadd .i64 z7 2) r21_0) (iadd .i64 z7 3) r21_1)) 23, .blk b5 (enc .i32 r4) 47, .blk b3 (enc .i32 (zeroA 256)) 23, .blk b2 (enc .i32 a1) 23, .blk b1 (enc .i32 a0) 23]) rfl).drop (.cons _ (.cons _ (.cons_cons _ (.cons_cons _ (.cons_cons _ (.cons_cons _ (.cons_cons _ .slnil)))))))), exg (by kernel_rfl)⟩)
        · refine (op_alloc (t := 39) (d := (some 9)) (by kernel_rfl) hs ([.int .i32 0, .int .i32 0]) (.agg #[.int .i32 0, .int .i32 0]) (by kernel_rfl) (by kernel_rfl) (by kernel_rfl) ?_)
          intro b14 w gw hs
          refine ⟨.of gw, ?_⟩
          obtain ⟨⟨r15_0, r15_1⟩, hg, h⟩ := of_bind h
          refine wpG.only 17 (by kernel_rfl) (op_call (d := (some 40)) (by kernel_rfl) hs (fun _ => by kernel_rfl) (kq_pair_times.ok hg _) ?_)
          intro w gw hs
          refine ⟨.of gw, ?_⟩
          refine wpG.only 19 (by kernel_rfl) (op_storeW (t := 39) (v := .agg #[.int .i32 r15_0, .int .i32 r15_1]) (d := none) (by kernel_rfl) hs 0 rfl (vs := [.int .i32 r15_0, .int .i32 r15_1]) (n := 2) (by kernel_rfl) (by kernel_rfl) (by kernel_rfl) (by simp [enc_len]) (by simp [enc_len]) (by simp [Value.oneCell']) ?_)
          intro w kp hs
          refine ⟨⟨fun hf => absurd hf (by decide), .all _ _⟩, ?_⟩
          refine wpG.fin (by kernel_rfl) rfl (kr _ _ ?_)
          refine then_n (ks208 _ _ ?_)
          refine wp_seq_k fun KS242 ks242 => ?_
          refine wp_regG [22] (fun k => True) 23 (by kernel_rfl) (by kernel_rfl) fun KR kr => ?_
          have hs := hs.drawn1
          refine wpG.takeD 0 false (some 41) (.int .i64 z7) (by kernel_rfl) (by kernel_rfl) (yld fun _ => by kernel_rfl) ?_
          refine wpG.takeD 1 false (some 42) (.int .i64 (iadd .i64 z7 2)) (by kernel_rfl) (by kernel_rfl) (yld fun _ => by kernel_rfl) ?_
          obtain ⟨x16, hx, h⟩ := of_bind h
          have hx := of_some hx
          subst hx
          obtain ⟨i0_247, h⟩ := of_chk h
          obtain ⟨i1_247, h⟩ := of_chk h
          refine wpG.takeD 2 false (some 43) (.pointer (some ⟨b1, 0 + ((iadd .i64 z7 2) : Int).toNat * 1, none⟩)) (by kernel_rfl) (by kernel_rfl) (yld_idx (t := 23) (e := 21) (n := 256) (sz := 1) (k := .i64) (x := (iadd .i64 z7 2)) (by kernel_rfl) (by kernel_rfl) (by kernel_rfl) i0_247 i1_247) ?_
          refine wpG.takeD 3 true (some 44) (.int .i32 (rd a0 (iadd .i64 z7 2))) (by kernel_rfl) (by kernel_rfl) (yld_loadA (e := 21) (x := (iadd .i64 z7 2)) hs 5 rfl (by kernel_rfl) (by kernel_rfl) i0_247 i1_247 .grow) ?_
          refine wpG.takeD 4 false (some 45) (.int .i64 z7) (by kernel_rfl) (by kernel_rfl) (yld fun _ => by kernel_rfl) ?_
          refine wpG.takeD 5 false (some 46) (.int .i64 (iadd .i64 z7 3)) (by kernel_rfl) (by kernel_rfl) (yld fun _ => by kernel_rfl) ?_
          obtain ⟨x17, hx, h⟩ := of_bind h
          have hx := of_some hx
          subst hx
          obtain ⟨i0_248, h⟩ := of_chk h
          obtain ⟨i1_248, h⟩ := of_chk h
          refine wpG.takeD 6 false (some 47) (.pointer (some ⟨b1, 0 + ((iadd .i64 z7 3) : Int).toNat * 1, none⟩)) (by kernel_rfl) (by kernel_rfl) (yld_idx (t := 23) (e := 21) (n := 256) (sz := 1) (k := .i64) (x := (iadd .i64 z7 3)) (by kernel_rfl) (by kernel_rfl) (by kernel_rfl) i0_248 i1_248) ?_
          refine wpG.takeD 7 true (some 48) (.int .i32 (rd a0 (iadd .i64 z7 3))) (by kernel_rfl) (by kernel_rfl) (yld_loadA (e := 21) (x := (iadd .i64 z7 3)) hs 5 rfl (by kernel_rfl) (by kernel_rfl) i0_248 i1_248 .grow) ?_
          refine wpG.takeD 8 false (some 49) (.agg #[.int .i32 (rd a0 (iadd .i64 z7 2)), .int .i32 (rd a0 (iadd .i64 z7 3))]) (by kernel_rfl) (by kernel_rfl) (yld fun _ => by kernel_rfl) ?_
          refine wpG.takeD 9 false (some 50) (.int .i64 z7) (by kernel_rfl) (by kernel_rfl) (yld fun _ => by kernel_rfl) ?_
          refine wpG.takeD 10 false (some 51) (.int .i64 (iadd .i64 z7 2)) (by kernel_rfl) (by kernel_rfl) (yld fun _ => by kernel_rfl) ?_
          obtain ⟨x18, hx, h⟩ := of_bind h
          have hx := of_some hx
          subst hx
          obtain ⟨i0_249, h⟩ := of_chk h
          obtain ⟨i1_249, h⟩ := of_chk h
          refine wpG.takeD 11 false (some 52) (.pointer (some ⟨b2, 0 + ((iadd .i64 z7 2) : Int).toNat * 1, none⟩)) (by kernel_rfl) (by kernel_rfl) (yld_idx (t := 23) (e := 21) (n := 256) (sz := 1) (k := .i64) (x := (iadd .i64 z7 2)) (by kernel_rfl) (by kernel_rfl) (by kernel_rfl) i0_249 i1_249) ?_
          refine wpG.takeD 12 true (some 53) (.int .i32 (rd a1 (iadd .i64 z7 2))) (by kernel_rfl) (by kernel_rfl) (yld_loadA (e := 21) (x := (iadd .i64 z7 2)) hs 4 rfl (by kernel_rfl) (by kernel_rfl) i0_249 i1_249 .grow) ?_
          refine wpG.takeD 13 false (some 54) (.int .i64 z7) (by kernel_rfl) (by kernel_rfl) (yld fun _ => by kernel_rfl) ?_
          refine wpG.takeD 14 false (some 55) (.int .i64 (iadd .i64 z7 3)) (by kernel_rfl) (by kernel_rfl) (yld fun _ => by kernel_rfl) ?_
          obtain ⟨x19, hx, h⟩ := of_bind h
          have hx := of_some hx
          subst hx
          obtain ⟨i0_250, h⟩ := of_chk h
          obtain ⟨i1_250, h⟩ := of_chk h
          refine wpG.takeD 15 false (some 56) (.pointer (some ⟨b2, 0 + ((iadd .i64 z7 3) : Int).toNat * 1, none⟩)) (by kernel_rfl) (by kernel_rfl) (yld_idx (t := 23) (e := 21) (n := 256) (sz := 1) (k := .i64) (x := (iadd .i64 z7 3)) (by kernel_rfl) (by kernel_rfl) (by kernel_rfl) i0_250 i1_250) ?_
          refine wpG.takeD 16 true (some 57) (.int .i32 (rd a1 (iadd .i64 z7 3))) (by kernel_rfl) (by kernel_rfl) (yld_loadA (e := 21) (x := (iadd .i64 z7 3)) hs 4 rfl (by kernel_rfl) (by kernel_rfl) i0_250 i1_250 .grow) ?_
          refine wpG.takeD 17 false (some 58) (.agg #[.int .i32 (rd a1 (iadd .i64 z7 2)), .int .i32 (rd a1 (iadd .i64 z7 3))]) (by kernel_rfl) (by kernel_rfl) (yld fun _ => by kernel_rfl) ?_
          refine wpG.takeD 18 false (some 59) (.int .i32 x11) (by kernel_rfl) (by kernel_rfl) (yld fun _ => by kernel_rfl) ?_
          refine wpG.takeD 19 false (some 60) (.int .i32 (isub .i32 3329 x11)) (by kernel_rfl) (by kernel_rfl) (yld fun _ => by kernel_rfl) ?_
          refine wpG.two 20 21 (by kernel_rfl) ?_ ?_
          · obtain ⟨⟨r20_0, r20_1⟩, hg, h⟩ := of_bind h
            refine (op_call (d := (some 61)) (by kernel_rfl) hs (fun _ => by kernel_rfl) (kq_pair_times.ok hg _) ?_)
            intro w gw hs
            refine ⟨.of gw, ?_⟩
            refine wpG.only 21 (by kernel_rfl) (op_alloc (t := 39) (d := (some 10)) (by kernel_rfl) hs ([.int .i32 0, .int .i32 0]) (.agg #[.int .i32 0, .int .i32 0]) (by kernel_rfl) (by kernel_rfl) (by kernel_rfl) ?_)
            intro b21 w gw hs
            refine ⟨.of gw, ?_⟩
            refine wpG.only 22 (by kernel_rfl) (op_storeW (t := 39) (v := .agg #[.int .i32 r20_0, .int .i32 r20_1]) (d := none) (by kernel_rfl) hs 0 rfl (vs := [.int .i32 r20_0, .int .i32 r20_1]) (n := 2) (by kernel_rfl) (by kernel_rfl) (by kernel_rfl) (by simp [enc_len]) (by simp [enc_len]) (by simp [Value.oneCell']) ?_)
            intro w kp hs
            refine ⟨⟨fun hf => absurd hf (by decide), .all _ _⟩, ?_⟩
            refine wpG.fin (by kernel_rfl) rfl (kr _ _ ?_)
            refine then_n (ks242 _ _ ?_)
            refine wp_regG [16, 18, 20, 22] (fun k => k = b6) 23 (by kernel_rfl) (by kernel_rfl) fun KR kr => ?_
            have hs := hs.drawn1
            refine wpG.takeD 0 false (some 62) (.int .i64 z7) (by kernel_rfl) (by kernel_rfl) (yld fun _ => by kernel_rfl) ?_
            refine wpG.takeD 1 false (some 63) (.int .i64 z7) (by kernel_rfl) (by kernel_rfl) (yld fun _ => by kernel_rfl) ?_
            refine wpG.takeD 2 false (some 64) (.int .i64 (iadd .i64 z7 1)) (by kernel_rfl) (by kernel_rfl) (yld fun _ => by kernel_rfl) ?_
            refine wpG.takeD 3 false (some 65) (.int .i64 z7) (by kernel_rfl) (by kernel_rfl) (yld fun _ => by kernel_rfl) ?_
            refine wpG.takeD 4 false (some 66) (.int .i64 (iadd .i64 z7 2)) (by kernel_rfl) (by kernel_rfl) (yld fun _ => by kernel_rfl) ?_
            refine wpG.takeD 5 false (some 67) (.int .i64 z7) (by kernel_rfl) (by kernel_rfl) (yld fun _ => by kernel_rfl) ?_
            refine wpG.takeD 6 false (some 68) (.int .i64 (iadd .i64 z7 3)) (by kernel_rfl) (by kernel_rfl) (yld fun _ => by kernel_rfl) ?_
            refine wpG.takeD 7 false (some 69) (.pointer (some ⟨b14, 0, none⟩)) (by kernel_rfl) (by kernel_rfl) (yld fun _ => by kernel_rfl) ?_
            refine wpG.takeD 8 true (some 70) (.int .i32 r15_0) (by kernel_rfl) (by kernel_rfl) (yld_load1 (e := 21) (o := 0) hs 1 rfl (by kernel_rfl) (by kernel_rfl) (by rfl) .grow) ?_
            refine wpG.takeD 9 false (some 71) (.pointer (some ⟨b14, 1, none⟩)) (by kernel_rfl) (by kernel_rfl) (yld fun _ => by kernel_rfl) ?_
            refine wpG.takeK [10, 17, 18, 19, 20, 21, 22] 10 (some 72) (.int .i32 r15_1) (by kernel_rfl) (by kernel_rfl) (yld_load1 (e := 21) (o := 1) hs 1 rfl (by kernel_rfl) (by kernel_rfl) (by rfl) (.keep (hs.blkNe 1 2 rfl rfl (by decide)))) ?_
            refine wpG.takeD 11 false (some 73) (.pointer (some ⟨b21, 0, none⟩)) (by kernel_rfl) (by kernel_rfl) (yld fun _ => by kernel_rfl) ?_
            refine wpG.takeK [12, 19, 20, 21, 22] 12 (some 74) (.int .i32 r20_0) (by kernel_rfl) (by kernel_rfl) (yld_load1 (e := 21) (o := 0) hs 0 rfl (by kernel_rfl) (by kernel_rfl) (by rfl) (.keep (hs.blkNe 0 2 rfl rfl (by decide)))) ?_
            refine wpG.takeD 13 false (some 75) (.pointer (some ⟨b21, 1, none⟩)) (by kernel_rfl) (by kernel_rfl) (yld fun _ => by kernel_rfl) ?_
            refine wpG.takeK [14, 21, 22] 14 (some 76) (.int .i32 r20_1) (by kernel_rfl) (by kernel_rfl) (yld_load1 (e := 21) (o := 1) hs 0 rfl (by kernel_rfl) (by kernel_rfl) (by rfl) (.keep (hs.blkNe 0 2 rfl rfl (by decide)))) ?_
            obtain ⟨i0_255, h⟩ := of_chk h
            obtain ⟨i1_255, h⟩ := of_chk h
            refine wpG.takeD 15 false (some 77) (.pointer (some ⟨b6, 0 + (z7 : Int).toNat * 1, none⟩)) (by kernel_rfl) (by kernel_rfl) (yld_idx (t := 23) (e := 21) (n := 256) (sz := 1) (k := .i64) (x := z7) (by kernel_rfl) (by kernel_rfl) (by kernel_rfl) i0_255 i1_255) ?_
            refine wpG.only 16 (by kernel_rfl) (op_storeA (t := 21) (x := z7) (v := r15_0) (d := none) (by kernel_rfl) hs 2 rfl (by kernel_rfl /-v-/) (by kernel_rfl) i0_255 i1_255 ?_)
            intro w kp hs
            refine ⟨⟨fun hf => absurd hf (by decide), kp.mono fun _ h => h⟩, ?_⟩
            obtain ⟨x22, hx, h⟩ := of_bind h
            have hx := of_some hx
            subst hx
            obtain ⟨i0_256, h⟩ := of_chk h
            obtain ⟨i1_256, h⟩ := of_chk h
            refine wpG.takeD 17 false (some 78) (.pointer (some ⟨b6, 0 + ((iadd .i64 z7 1) : Int).toNat * 1, none⟩)) (by kernel_rfl) (by kernel_rfl) (yld_idx (t := 23) (e := 21) (n := 256) (sz := 1) (k := .i64) (x := (iadd .i64 z7 1)) (by kernel_rfl) (by kernel_rfl) (by kernel_rfl) i0_256 i1_256) ?_
            refine wpG.only 18 (by kernel_rfl) (op_storeA (t := 21) (x := (iadd .i64 z7 1)) (v := r15_1) (d := none) (by kernel_rfl) hs 2 rfl (by kernel_rfl /-v-/) (by kernel_rfl) i0_256 i1_256 ?_)
            intro w kp hs
            refine ⟨⟨fun hf => absurd hf (by decide), kp.mono fun _ h => h⟩, ?_⟩
            obtain ⟨x23, hx, h⟩ := of_bind h
            have hx := of_some hx
            subst hx
            obtain ⟨i0_257, h⟩ := of_chk h
            obtain ⟨i1_257, h⟩ := of_chk h
            refine wpG.takeD 19 false (some 79) (.pointer (some ⟨b6, 0 + ((iadd .i64 z7 2) : Int).toNat * 1, none⟩)) (by kernel_rfl) (by kernel_rfl) (yld_idx (t := 23) (e := 21) (n := 256) (sz := 1) (k := .i64) (x := (iadd .i64 z7 2)) (by kernel_rfl) (by kernel_rfl) (by kernel_rfl) i0_257 i1_257) ?_
            refine wpG.only 20 (by kernel_rfl) (op_storeA (t := 21) (x := (iadd .i64 z7 2)) (v := r20_0) (d := none) (by kernel_rfl) hs 2 rfl (by kernel_rfl /-v-/) (by kernel_rfl) i0_257 i1_257 ?_)
            intro w kp hs
            refine ⟨⟨fun hf => absurd hf (by decide), kp.mono fun _ h => h⟩, ?_⟩
            obtain ⟨x24, hx, h⟩ := of_bind h
            have hx := of_some hx
            subst hx
            obtain ⟨i0_258, h⟩ := of_chk h
            obtain ⟨i1_258, h⟩ := of_chk h
            refine wpG.takeD 21 false (some 80) (.pointer (some ⟨b6, 0 + ((iadd .i64 z7 3) : Int).toNat * 1, none⟩)) (by kernel_rfl) (by kernel_rfl) (yld_idx (t := 23) (e := 21) (n := 256) (sz := 1) (k := .i64) (x := (iadd .i64 z7 3)) (by kernel_rfl) (by kernel_rfl) (by kernel_rfl) i0_258 i1_258) ?_
            refine wpG.only 22 (by kernel_rfl) (op_storeA (t := 21) (x := (iadd .i64 z7 3)) (v := r20_1) (d := none) (by kernel_rfl) hs 2 rfl (by kernel_rfl /-v-/) (by kernel_rfl) i0_258 i1_258 ?_)
            intro w kp hs
            refine ⟨⟨fun hf => absurd hf (by decide), kp.mono fun _ h => h⟩, ?_⟩
            refine wpG.fin (by kernel_rfl) rfl (kr _ _ ?_)
            refine inBlock_n ?_
            refine then_n (ks205 _ _ ?_)
            refine wp_regS (l := [0, 1, 2]) (by kernel_rfl) fun KR kr => ?_
            refine wpS.take 0 false (some 14) (.int .i64 z7) (by kernel_rfl) (yld fun _ => by kernel_rfl) ?_
            refine wpS.take 1 false (some 15) (.int .i64 (iadd .i64 z7 4)) (by kernel_rfl) (yld fun _ => by kernel_rfl) ?_
            obtain ⟨x25, hx, h⟩ := of_bind h
            refine wpS.take 2 false (some 7) (.int .i64 x25) (by kernel_rfl) (yld_int hx (fun _ => by kernel_rfl)) ?_
            refine wpS.fin rfl (kr _ _ ?_)
            exact then_n (kl0 _ _ ⟨n, Nat.lt_succ_self n, x25, (wr (wr (wr (wr z8 z7 r15_0) (iadd .i64 z7 1) r15_1) (iadd .i64 z7 2) r20_0) (iadd .i64 z7 3) r20_1), h, ((hs.conv (L' := [.blk b21 ([.int .i32 r20_0, .int .i32 r20_1]) 39, .blk b14 ([.int .i32 r15_0, .int .i32 r15_1]) 39, .blk b6 (enc .i32 (wr (wr (wr (wr z8 z7 r15_0) (iadd .i64 z7 1) r15_1) (iadd .i64 z7 2) r20_0) (iadd .i64 z7 3) r20_1)) 23, .blk b5 (enc .i32 r4) 47, .blk b3 (enc .i32 (zeroA 256)) 23, .blk b2 (enc .i32 a1) 23, .blk b1 (enc .i32 a0) 23]) rfl).drop (.cons _ (.cons _ (.cons_cons _ (.cons_cons _ (.cons_cons _ (.cons_cons _ (.cons_cons _ .slnil)))))))), exg (by kernel_rfl)⟩)
          · refine (op_alloc (t := 39) (d := (some 10)) (by kernel_rfl) hs ([.int .i32 0, .int .i32 0]) (.agg #[.int .i32 0, .int .i32 0]) (by kernel_rfl) (by kernel_rfl) (by kernel_rfl) ?_)
            intro b20 w gw hs
            refine ⟨.of gw, ?_⟩
            obtain ⟨⟨r21_0, r21_1⟩, hg, h⟩ := of_bind h
            refine wpG.only 20 (by kernel_rfl) (op_call (d := (some 61)) (by kernel_rfl) hs (fun _ => by kernel_rfl) (kq_pair_times.ok hg _) ?_)
            intro w gw hs
            refine ⟨.of gw, ?_⟩
            refine wpG.only 22 (by kernel_rfl) (op_storeW (t := 39) (v := .agg #[.int .i32 r21_0, .int .i32 r21_1]) (d := none) (by kernel_rfl) hs 0 rfl (vs := [.int .i32 r21_0, .int .i32 r21_1]) (n := 2) (by kernel_rfl) (by kernel_rfl) (by kernel_rfl) (by simp [enc_len]) (by simp [enc_len]) (by simp [Value.oneCell']) ?_)
            intro w kp hs
            refine ⟨⟨fun hf => absurd hf (by decide), .all _ _⟩, ?_⟩
            refine wpG.fin (by kernel_rfl) rfl (kr _ _ ?_)
            refine then_n (ks242 _ _ ?_)
            refine wp_regG [16, 18, 20, 22] (fun k => k = b6) 23 (by kernel_rfl) (by kernel_rfl) fun KR kr => ?_
            have hs := hs.drawn1
            refine wpG.takeD 0 false (some 62) (.int .i64 z7) (by kernel_rfl) (by kernel_rfl) (yld fun _ => by kernel_rfl) ?_
            refine wpG.takeD 1 false (some 63) (.int .i64 z7) (by kernel_rfl) (by kernel_rfl) (yld fun _ => by kernel_rfl) ?_
            refine wpG.takeD 2 false (some 64) (.int .i64 (iadd .i64 z7 1)) (by kernel_rfl) (by kernel_rfl) (yld fun _ => by kernel_rfl) ?_
            refine wpG.takeD 3 false (some 65) (.int .i64 z7) (by kernel_rfl) (by kernel_rfl) (yld fun _ => by kernel_rfl) ?_
            refine wpG.takeD 4 false (some 66) (.int .i64 (iadd .i64 z7 2)) (by kernel_rfl) (by kernel_rfl) (yld fun _ => by kernel_rfl) ?_
            refine wpG.takeD 5 false (some 67) (.int .i64 z7) (by kernel_rfl) (by kernel_rfl) (yld fun _ => by kernel_rfl) ?_
            refine wpG.takeD 6 false (some 68) (.int .i64 (iadd .i64 z7 3)) (by kernel_rfl) (by kernel_rfl) (yld fun _ => by kernel_rfl) ?_
            refine wpG.takeD 7 false (some 69) (.pointer (some ⟨b14, 0, none⟩)) (by kernel_rfl) (by kernel_rfl) (yld fun _ => by kernel_rfl) ?_
            refine wpG.takeD 8 true (some 70) (.int .i32 r15_0) (by kernel_rfl) (by kernel_rfl) (yld_load1 (e := 21) (o := 0) hs 1 rfl (by kernel_rfl) (by kernel_rfl) (by rfl) .grow) ?_
            refine wpG.takeD 9 false (some 71) (.pointer (some ⟨b14, 1, none⟩)) (by kernel_rfl) (by kernel_rfl) (yld fun _ => by kernel_rfl) ?_
            refine wpG.takeK [10, 17, 18, 19, 20, 21, 22] 10 (some 72) (.int .i32 r15_1) (by kernel_rfl) (by kernel_rfl) (yld_load1 (e := 21) (o := 1) hs 1 rfl (by kernel_rfl) (by kernel_rfl) (by rfl) (.keep (hs.blkNe 1 2 rfl rfl (by decide)))) ?_
            refine wpG.takeD 11 false (some 73) (.pointer (some ⟨b20, 0, none⟩)) (by kernel_rfl) (by kernel_rfl) (yld fun _ => by kernel_rfl) ?_
            refine wpG.takeK [12, 19, 20, 21, 22] 12 (some 74) (.int .i32 r21_0) (by kernel_rfl) (by kernel_rfl) (yld_load1 (e := 21) (o := 0) hs 0 rfl (by kernel_rfl) (by kernel_rfl) (by rfl) (.keep (hs.blkNe 0 2 rfl rfl (by decide)))) ?_
            refine wpG.takeD 13 false (some 75) (.pointer (some ⟨b20, 1, none⟩)) (by kernel_rfl) (by kernel_rfl) (yld fun _ => by kernel_rfl) ?_
            refine wpG.takeK [14, 21, 22] 14 (some 76) (.int .i32 r21_1) (by kernel_rfl) (by kernel_rfl) (yld_load1 (e := 21) (o := 1) hs 0 rfl (by kernel_rfl) (by kernel_rfl) (by rfl) (.keep (hs.blkNe 0 2 rfl rfl (by decide)))) ?_
            obtain ⟨i0_263, h⟩ := of_chk h
            obtain ⟨i1_263, h⟩ := of_chk h
            refine wpG.takeD 15 false (some 77) (.pointer (some ⟨b6, 0 + (z7 : Int).toNat * 1, none⟩)) (by kernel_rfl) (by kernel_rfl) (yld_idx (t := 23) (e := 21) (n := 256) (sz := 1) (k := .i64) (x := z7) (by kernel_rfl) (by kernel_rfl) (by kernel_rfl) i0_263 i1_263) ?_
            refine wpG.only 16 (by kernel_rfl) (op_storeA (t := 21) (x := z7) (v := r15_0) (d := none) (by kernel_rfl) hs 2 rfl (by kernel_rfl /-v-/) (by kernel_rfl) i0_263 i1_263 ?_)
            intro w kp hs
            refine ⟨⟨fun hf => absurd hf (by decide), kp.mono fun _ h => h⟩, ?_⟩
            obtain ⟨x22, hx, h⟩ := of_bind h
            have hx := of_some hx
            subst hx
            obtain ⟨i0_264, h⟩ := of_chk h
            obtain ⟨i1_264, h⟩ := of_chk h
            refine wpG.takeD 17 false (some 78) (.pointer (some ⟨b6, 0 + ((iadd .i64 z7 1) : Int).toNat * 1, none⟩)) (by kernel_rfl) (by kernel_rfl) (yld_idx (t := 23) (e := 21) (n := 256) (sz := 1) (k := .i64) (x := (iadd .i64 z7 1)) (by kernel_rfl) (by kernel_rfl) (by kernel_rfl) i0_264 i1_264) ?_
            refine wpG.only 18 (by kernel_rfl) (op_storeA (t := 21) (x := (iadd .i64 z7 1)) (v := r15_1) (d := none) (by kernel_rfl) hs 2 rfl (by kernel_rfl /-v-/) (by kernel_rfl) i0_264 i1_264 ?_)
            intro w kp hs
            refine ⟨⟨fun hf => absurd hf (by decide), kp.mono fun _ h => h⟩, ?_⟩
            obtain ⟨x23, hx, h⟩ := of_bind h
            have hx := of_some hx
            subst hx
            obtain ⟨i0_265, h⟩ := of_chk h
            obtain ⟨i1_265, h⟩ := of_chk h
            refine wpG.takeD 19 false (some 79) (.pointer (some ⟨b6, 0 + ((iadd .i64 z7 2) : Int).toNat * 1, none⟩)) (by kernel_rfl) (by kernel_rfl) (yld_idx (t := 23) (e := 21) (n := 256) (sz := 1) (k := .i64) (x := (iadd .i64 z7 2)) (by kernel_rfl) (by kernel_rfl) (by kernel_rfl) i0_265 i1_265) ?_
            refine wpG.only 20 (by kernel_rfl) (op_storeA (t := 21) (x := (iadd .i64 z7 2)) (v := r21_0) (d := none) (by kernel_rfl) hs 2 rfl (by kernel_rfl /-v-/) (by kernel_rfl) i0_265 i1_265 ?_)
            intro w kp hs
            refine ⟨⟨fun hf => absurd hf (by decide), kp.mono fun _ h => h⟩, ?_⟩
            obtain ⟨x24, hx, h⟩ := of_bind h
            have hx := of_some hx
            subst hx
            obtain ⟨i0_266, h⟩ := of_chk h
            obtain ⟨i1_266, h⟩ := of_chk h
            refine wpG.takeD 21 false (some 80) (.pointer (some ⟨b6, 0 + ((iadd .i64 z7 3) : Int).toNat * 1, none⟩)) (by kernel_rfl) (by kernel_rfl) (yld_idx (t := 23) (e := 21) (n := 256) (sz := 1) (k := .i64) (x := (iadd .i64 z7 3)) (by kernel_rfl) (by kernel_rfl) (by kernel_rfl) i0_266 i1_266) ?_
            refine wpG.only 22 (by kernel_rfl) (op_storeA (t := 21) (x := (iadd .i64 z7 3)) (v := r21_1) (d := none) (by kernel_rfl) hs 2 rfl (by kernel_rfl /-v-/) (by kernel_rfl) i0_266 i1_266 ?_)
            intro w kp hs
            refine ⟨⟨fun hf => absurd hf (by decide), kp.mono fun _ h => h⟩, ?_⟩
            refine wpG.fin (by kernel_rfl) rfl (kr _ _ ?_)
            refine inBlock_n ?_
            refine then_n (ks205 _ _ ?_)
            refine wp_regS (l := [0, 1, 2]) (by kernel_rfl) fun KR kr => ?_
            refine wpS.take 0 false (some 14) (.int .i64 z7) (by kernel_rfl) (yld fun _ => by kernel_rfl) ?_
            refine wpS.take 1 false (some 15) (.int .i64 (iadd .i64 z7 4)) (by kernel_rfl) (yld fun _ => by kernel_rfl) ?_
            obtain ⟨x25, hx, h⟩ := of_bind h
            refine wpS.take 2 false (some 7) (.int .i64 x25) (by kernel_rfl) (yld_int hx (fun _ => by kernel_rfl)) ?_
            refine wpS.fin rfl (kr _ _ ?_)
            exact then_n (kl0 _ _ ⟨n, Nat.lt_succ_self n, x25, (wr (wr (wr (wr z8 z7 r15_0) (iadd .i64 z7 1) r15_1) (iadd .i64 z7 2) r21_0) (iadd .i64 z7 3) r21_1), h, ((hs.conv (L' := [.blk b20 ([.int .i32 r21_0, .int .i32 r21_1]) 39, .blk b14 ([.int .i32 r15_0, .int .i32 r15_1]) 39, .blk b6 (enc .i32 (wr (wr (wr (wr z8 z7 r15_0) (iadd .i64 z7 1) r15_1) (iadd .i64 z7 2) r21_0) (iadd .i64 z7 3) r21_1)) 23, .blk b5 (enc .i32 r4) 47, .blk b3 (enc .i32 (zeroA 256)) 23, .blk b2 (enc .i32 a1) 23, .blk b1 (enc .i32 a0) 23]) rfl).drop (.cons _ (.cons _ (.cons_cons _ (.cons_cons _ (.cons_cons _ (.cons_cons _ (.cons_cons _ .slnil)))))))), exg (by kernel_rfl)⟩)
      · refine wpS.take 1 false (some 13) (.bool false) (by kernel_rfl) (yld_b (df hc) (fun _ => by kernel_rfl)) ?_
        refine wpS.fin rfl (kr _ _ ?_)
        refine then_n (ks204 _ _ ?_)
        refine wp_cond_f (by kernel_rfl) ?_
        refine wp_exit ?_
        refine then_x ?_
        refine then_x ?_
        refine inBlock_hit ?_
        have q0 := of_some h
        subst q0
        exact exq_n (nn0 _ _ ⟨(hs.conv rfl), exg (by kernel_rfl)⟩)
  · clear hs h hy
    rintro a w ⟨hs, g, rfl⟩
    have h := hk0
    refine then_n (ks135 _ _ ?_)
    refine wp_seq_k fun KS267 ks267 => ?_
    refine wp_regS (l := [0, 1]) (by kernel_rfl) fun KR kr => ?_
    refine wpS.take 0 true (some 81) (.agg (enc .i32 y9).toArray) (by kernel_rfl) (yld_loadW (e := 23) (n := 256) hs 0 rfl (by kernel_rfl) (by kernel_rfl) (by kernel_rfl) (by exact enc_len _ _) .grow) ?_
    refine wpS.only 1 (op_storeW (t := 23) (v := .agg (enc .i32 y9).toArray) (d := none) (by kernel_rfl) hs 2 rfl (vs := enc .i32 y9) (n := 256) (by kernel_rfl) (by kernel_rfl) (by kernel_rfl) (by simp [enc_len]) (by simp [enc_len]) (by intro u hu; exact enc_one _ _ u hu) ?_)
    intro w kp hs
    refine ⟨fun _ => trivial, ?_⟩
    refine wpS.fin rfl (kr _ _ ?_)
    refine then_n (ks267 _ _ ?_)
    refine wp_ret ?_
    have q0 := of_some h
    subst q0
    exact qq _ _ (post_ret (by kernel_rfl) (run_results [.cell 4 23] [.agg (enc .i32 y9).toArray] (by kernel_rfl) (.cons (res_cellN (n := 256) hs 2 rfl (by kernel_rfl) (by kernel_rfl) (by kernel_rfl) (by exact enc_len _ _)) .nil)) ⟨congrArg Ending.returned (by kernel_rfl), hs.none⟩)

theorem kq_Times.ok {K : Nat} {a0 : Arr 256} {a1 : Arr 256} {r0 : Arr 256} (h : kq_Times.f K a0 a1 = some r0) (w0 : World) : Ret Try.prog 8 #[.agg (enc .i32 a0).toArray, .agg (enc .i32 a1).toArray] w0 (.agg (enc .i32 r0).toArray) := by
  refine calls_k Try.func8 rfl fun Q qq => ?_
  have hs := St.start w0
  refine wp_conv (a' := ⟨#[.agg (enc .i32 a0).toArray, .agg (enc .i32 a1).toArray, undef, undef, undef, undef, undef, undef, undef, undef, undef], []⟩) (by kernel_rfl) ?_
  refine wp_seq_k fun KS1 ks1 => ?_
  refine wp_regS (l := [0, 1, 2]) (by kernel_rfl) fun KR kr => ?_
  refine wpS.only 0 (op_box (t := 23) (v := .agg (enc .i32 a0).toArray) (d := (some 2)) (by kernel_rfl) hs (enc .i32 a0) (by kernel_rfl) (by kernel_rfl) ?_)
  intro b1 w gw hs
  refine ⟨fun _ => trivial, ?_⟩
  refine wpS.only 1 (op_box (t := 23) (v := .agg (enc .i32 a1).toArray) (d := (some 3)) (by kernel_rfl) hs (enc .i32 a1) (by kernel_rfl) (by kernel_rfl) ?_)
  intro b2 w gw hs
  refine ⟨fun _ => trivial, ?_⟩
  refine wpS.only 2 (op_alloc (t := 23) (d := (some 4)) (by kernel_rfl) hs (enc .i32 (zeroA 256)) (.agg (enc .i32 (zeroA 256)).toArray) (by kernel_rfl) (by kernel_rfl) (by kernel_rfl) ?_)
  intro b3 w gw hs
  refine ⟨fun _ => trivial, ?_⟩
  refine wpS.fin rfl (kr _ _ ?_)
  refine then_n (ks1 _ _ ?_)
  refine wp_seq_k fun KS2 ks2 => ?_
  refine wp_regG [6] (fun k => k = b3) 7 (by kernel_rfl) (by kernel_rfl) fun KR kr => ?_
  have hs := hs.drawn1
  refine wpG.takeD 0 true (some 5) (.agg (enc .i32 a0).toArray) (by kernel_rfl) (by kernel_rfl) (yld_loadW (e := 23) (n := 256) hs 2 rfl (by kernel_rfl) (by kernel_rfl) (by kernel_rfl) (by exact enc_len _ _) .grow) ?_
  refine wpG.takeD 2 true (some 7) (.agg (enc .i32 a1).toArray) (by kernel_rfl) (by kernel_rfl) (yld_loadW (e := 23) (n := 256) hs 1 rfl (by kernel_rfl) (by kernel_rfl) (by kernel_rfl) (by exact enc_len _ _) .grow) ?_
  obtain ⟨r4, hg, h⟩ := of_bind h
  refine wpG.only 1 (by kernel_rfl) (op_call (d := (some 6)) (by kernel_rfl) hs (fun _ => by kernel_rfl) (kq_Ntt.ok hg _) ?_)
  intro w gw hs
  refine ⟨.of gw, ?_⟩
  obtain ⟨r5, hg, h⟩ := of_bind h
  refine wpG.only 3 (by kernel_rfl) (op_call (d := (some 8)) (by kernel_rfl) hs (fun _ => by kernel_rfl) (kq_Ntt.ok hg _) ?_)
  intro w gw hs
  refine ⟨.of gw, ?_⟩
  obtain ⟨r6, hg, h⟩ := of_bind h
  refine wpG.only 4 (by kernel_rfl) (op_call (d := (some 9)) (by kernel_rfl) hs (fun _ => by kernel_rfl) (kq_Mul.ok hg _) ?_)
  intro w gw hs
  refine ⟨.of gw, ?_⟩
  obtain ⟨r7, hg, h⟩ := of_bind h
  refine wpG.only 5 (by kernel_rfl) (op_call (d := (some 10)) (by kernel_rfl) hs (fun _ => by kernel_rfl) (kq_Back.ok hg _) ?_)
  intro w gw hs
  refine ⟨.of gw, ?_⟩
  refine wpG.only 6 (by kernel_rfl) (op_storeW (t := 23) (v := .agg (enc .i32 r7).toArray) (d := none) (by kernel_rfl) hs 0 rfl (vs := enc .i32 r7) (n := 256) (by kernel_rfl) (by kernel_rfl) (by kernel_rfl) (by simp [enc_len]) (by simp [enc_len]) (by intro u hu; exact enc_one _ _ u hu) ?_)
  intro w kp hs
  refine ⟨⟨fun hf => absurd hf (by decide), kp.mono fun _ h => h⟩, ?_⟩
  refine wpG.fin (by kernel_rfl) rfl (kr _ _ ?_)
  refine then_n (ks2 _ _ ?_)
  refine wp_ret ?_
  have q0 := of_some h
  subst q0
  exact qq _ _ (post_ret (by kernel_rfl) (run_results [.cell 4 23] [.agg (enc .i32 r7).toArray] (by kernel_rfl) (.cons (res_cellN (n := 256) hs 0 rfl (by kernel_rfl) (by kernel_rfl) (by kernel_rfl) (by exact enc_len _ _)) .nil)) ⟨congrArg Ending.returned (by kernel_rfl), hs.none⟩)
end Go.Proofs.Ytijahfdldlmnhab
