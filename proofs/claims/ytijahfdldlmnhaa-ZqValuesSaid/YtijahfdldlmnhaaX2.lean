/- Printed by this work's own program: the code of each function below comes to the answer that its plain form tells. -/
import Derived.Test.YtijahfdldlmnhaaMr
import Derived.Test.YtijahfdldlmnhaaProg
import Derived.Test.YtijahfdldlmnhaaF0
import Derived.Test.YtijahfdldlmnhaaX0
import Derived.Test.YtijahfdldlmnhaaX1
set_option linter.unusedVariables false
set_option maxRecDepth 100000
set_option maxHeartbeats 4000000
namespace Go.Proofs.Ytijahfdldlmnhaa
open Go.Mx
attribute [local irreducible] wpOp

theorem zq_Back.ok {K : Nat} {a0 : Arr 256} {r0 : Arr 256} (h : zq_Back.f K a0 = some r0) (w0 : World) : Ret Try.prog 28 #[.agg (enc .i32 a0).toArray] w0 (.agg (enc .i32 r0).toArray) := by
  refine calls_k Try.func28 rfl fun Q qq => ?_
  have hs := St.start w0
  refine wp_conv (a' := ⟨#[.agg (enc .i32 a0).toArray, undef, undef, undef, undef, undef, undef, undef, undef, undef, undef, undef, undef, undef, undef, undef, undef, undef, undef, undef, undef, undef, undef, undef, undef, undef, undef, undef, undef, undef, undef, undef, undef, undef, undef, undef, undef, undef, undef, undef, undef, undef, undef, undef, undef, undef, undef, undef, undef, undef, undef, undef, undef, undef, undef, undef, undef, undef, undef, undef, undef, undef, undef, undef, undef, undef, undef, undef, undef, undef, undef], []⟩) (by kernel_rfl) ?_
  refine wp_seq_k fun KS1 ks1 => ?_
  refine wp_regS (l := [0, 1]) (by kernel_rfl) fun KR kr => ?_
  refine wpS.only 0 (op_box (t := 23) (v := .agg (enc .i32 a0).toArray) (d := (some 1)) (by kernel_rfl) hs (enc .i32 a0) (by kernel_rfl) (by kernel_rfl) ?_)
  intro b1 w gw hs
  refine ⟨fun _ => trivial, ?_⟩
  refine wpS.only 1 (op_alloc (t := 23) (d := (some 2)) (by kernel_rfl) hs (enc .i32 (zeroA 256)) (.agg (enc .i32 (zeroA 256)).toArray) (by kernel_rfl) (by kernel_rfl) (by kernel_rfl) ?_)
  intro b2 w gw hs
  refine ⟨fun _ => trivial, ?_⟩
  refine wpS.fin rfl (kr _ _ ?_)
  refine then_n (ks1 _ _ ?_)
  refine wp_seq_k fun KS2 ks2 => ?_
  refine wp_regS (l := [0, 1]) (by kernel_rfl) fun KR kr => ?_
  obtain ⟨r3, hg, h⟩ := of_bind h
  refine wpS.only 0 (op_callB (d := (some 10)) (by kernel_rfl) hs (fun _ => by kernel_rfl) (zq_roots.ok hg _) ?_)
  intro b4 w gw hs
  refine ⟨fun _ => trivial, ?_⟩
  refine wpS.take 1 false (some 3) (.pointer (some ⟨b4, 0, none⟩)) (by kernel_rfl) (yld fun _ => by kernel_rfl) ?_
  refine wpS.fin rfl (kr _ _ ?_)
  refine then_n (ks2 _ _ ?_)
  refine wp_seq_k fun KS3 ks3 => ?_
  refine wp_regS (l := [0]) (by kernel_rfl) fun KR kr => ?_
  refine wpS.take 0 false (some 4) (.int .i64 256) (by kernel_rfl) (yld fun _ => by kernel_rfl) ?_
  refine wpS.fin rfl (kr _ _ ?_)
  refine then_n (ks3 _ _ ?_)
  refine wp_seq_k fun KS273 ks273 => ?_
  refine wp_seq_k fun KS274 ks274 => ?_
  refine wp_regS (l := [0]) (by kernel_rfl) fun KR kr => ?_
  refine wpS.take 0 false (some 5) (.int .i64 1) (by kernel_rfl) (yld fun _ => by kernel_rfl) ?_
  refine wpS.fin rfl (kr _ _ ?_)
  refine then_n (ks274 _ _ ?_)
  obtain ⟨y8, hy, hk0⟩ := of_bind h
  refine wp_exq (N := fun a w => St w0 [] [.blk b4 (enc .i32 r3) 22, .blk b2 (enc .i32 (zeroA 256)) 23, .blk b1 (enc .i32 y8) 23] [] w ∧ ∃ g : Nat → Value, a = ⟨#[.agg (enc .i32 a0).toArray, .pointer (some ⟨b1, 0, none⟩), .pointer (some ⟨b2, 0, none⟩), .pointer (some ⟨b4, 0, none⟩), (g 4), (g 5), (g 6), (g 7), (g 8), undef, .pointer (some ⟨b4, 0, none⟩), (g 11), (g 12), (g 13), (g 14), (g 15), (g 16), (g 17), (g 18), (g 19), (g 20), (g 21), (g 22), (g 23), (g 24), (g 25), (g 26), (g 27), (g 28), (g 29), (g 30), (g 31), (g 32), (g 33), (g 34), (g 35), (g 36), (g 37), (g 38), (g 39), (g 40), (g 41), (g 42), (g 43), (g 44), (g 45), (g 46), (g 47), (g 48), (g 49), (g 50), (g 51), (g 52), (g 53), (g 54), (g 55), (g 56), (g 57), (g 58), (g 59), undef, undef, undef, undef, undef, undef, undef, undef, undef, undef, undef], []⟩) (fun N0 nn0 => ?_) ?_
  · clear hk0
    refine wp_block ?_
    refine wp_loop_k (fun n a w => ∃ z5 z6 z7, zq_Back.l0 K n r3 z5 z6 z7 = some y8 ∧ St w0 [] [.blk b4 (enc .i32 r3) 22, .blk b2 (enc .i32 (zeroA 256)) 23, .blk b1 (enc .i32 z7) 23] [] w ∧ ∃ g : Nat → Value, a = ⟨#[.agg (enc .i32 a0).toArray, .pointer (some ⟨b1, 0, none⟩), .pointer (some ⟨b2, 0, none⟩), .pointer (some ⟨b4, 0, none⟩), .int .i64 z5, .int .i64 z6, (g 6), (g 7), (g 8), undef, .pointer (some ⟨b4, 0, none⟩), (g 11), (g 12), (g 13), (g 14), (g 15), (g 16), (g 17), (g 18), (g 19), (g 20), (g 21), (g 22), (g 23), (g 24), (g 25), (g 26), (g 27), (g 28), (g 29), (g 30), (g 31), (g 32), (g 33), (g 34), (g 35), (g 36), (g 37), (g 38), (g 39), (g 40), (g 41), (g 42), (g 43), (g 44), (g 45), (g 46), (g 47), (g 48), (g 49), (g 50), (g 51), (g 52), (g 53), (g 54), (g 55), (g 56), (g 57), (g 58), (g 59), undef, undef, undef, undef, undef, undef, undef, undef, undef, undef, undef], []⟩) K ⟨256, 1, a0, hy, hs.conv rfl, exg (by kernel_rfl)⟩ ?_
    clear hs h hy
    rintro n a w ⟨z5, z6, z7, h, hs, g, rfl⟩ KL0 kl0
    cases n with
    | zero => exact nomatch (show none = some _ from h)
    | succ n =>
      refine wp_seq_k fun KS410 ks410 => ?_
      refine wp_seq_k fun KS411 ks411 => ?_
      refine wp_regS (l := [0, 1]) (by kernel_rfl) fun KR kr => ?_
      refine wpS.take 0 false (some 11) (.int .i64 z6) (by kernel_rfl) (yld fun _ => by kernel_rfl) ?_
      rcases of_if h with ⟨hc, h⟩ | ⟨hc, h⟩
      · refine wpS.take 1 false (some 12) (.bool true) (by kernel_rfl) (yld_b (dt hc) (fun _ => by kernel_rfl)) ?_
        refine wpS.fin rfl (kr _ _ ?_)
        refine then_n (ks411 _ _ ?_)
        refine wp_cond_t (by kernel_rfl) ?_
        refine wp_skip ?_
        refine then_n (ks410 _ _ ?_)
        refine wp_seq_k fun KS477 ks477 => ?_
        refine wp_block ?_
        refine wp_seq_k fun KS478 ks478 => ?_
        refine wp_regS (l := [0]) (by kernel_rfl) fun KR kr => ?_
        refine wpS.take 0 false (some 6) (.int .i64 0) (by kernel_rfl) (yld fun _ => by kernel_rfl) ?_
        refine wpS.fin rfl (kr _ _ ?_)
        refine then_n (ks478 _ _ ?_)
        obtain ⟨⟨y12, y13⟩, hy, hk1⟩ := of_bind h
        refine wp_exq (N := fun a w => St w0 [] [.blk b4 (enc .i32 r3) 22, .blk b2 (enc .i32 (zeroA 256)) 23, .blk b1 (enc .i32 y13) 23] [] w ∧ ∃ g : Nat → Value, a = ⟨#[.agg (enc .i32 a0).toArray, .pointer (some ⟨b1, 0, none⟩), .pointer (some ⟨b2, 0, none⟩), .pointer (some ⟨b4, 0, none⟩), .int .i64 y12, .int .i64 z6, (g 6), (g 7), (g 8), undef, .pointer (some ⟨b4, 0, none⟩), .int .i64 z6, .bool true, (g 13), (g 14), (g 15), (g 16), (g 17), (g 18), (g 19), (g 20), (g 21), (g 22), (g 23), (g 24), (g 25), (g 26), (g 27), (g 28), (g 29), (g 30), (g 31), (g 32), (g 33), (g 34), (g 35), (g 36), (g 37), (g 38), (g 39), (g 40), (g 41), (g 42), (g 43), (g 44), (g 45), (g 46), (g 47), (g 48), (g 49), (g 50), (g 51), (g 52), (g 53), (g 54), (g 55), (g 56), (g 57), (g 58), (g 59), undef, undef, undef, undef, undef, undef, undef, undef, undef, undef, undef], []⟩) (fun N1 nn1 => ?_) ?_
        · clear hk1
          refine wp_block ?_
          refine wp_loop_k (fun n a w => ∃ z9 z10 z11, zq_Back.l1 K n r3 z6 z9 z10 z11 = some (y12, y13) ∧ St w0 [] [.blk b4 (enc .i32 r3) 22, .blk b2 (enc .i32 (zeroA 256)) 23, .blk b1 (enc .i32 z11) 23] [] w ∧ ∃ g : Nat → Value, a = ⟨#[.agg (enc .i32 a0).toArray, .pointer (some ⟨b1, 0, none⟩), .pointer (some ⟨b2, 0, none⟩), .pointer (some ⟨b4, 0, none⟩), .int .i64 z9, .int .i64 z6, .int .i64 z10, (g 7), (g 8), undef, .pointer (some ⟨b4, 0, none⟩), .int .i64 z6, .bool true, (g 13), (g 14), (g 15), (g 16), (g 17), (g 18), (g 19), (g 20), (g 21), (g 22), (g 23), (g 24), (g 25), (g 26), (g 27), (g 28), (g 29), (g 30), (g 31), (g 32), (g 33), (g 34), (g 35), (g 36), (g 37), (g 38), (g 39), (g 40), (g 41), (g 42), (g 43), (g 44), (g 45), (g 46), (g 47), (g 48), (g 49), (g 50), (g 51), (g 52), (g 53), (g 54), (g 55), (g 56), (g 57), (g 58), (g 59), undef, undef, undef, undef, undef, undef, undef, undef, undef, undef, undef], []⟩) K ⟨z5, 0, z7, hy, hs.conv rfl, exg (by kernel_rfl)⟩ ?_
          clear hs h hy
          rintro n a w ⟨z9, z10, z11, h, hs, g, rfl⟩ KL1 kl1
          cases n with
          | zero => exact nomatch (show none = some _ from h)
          | succ n =>
            refine wp_seq_k fun KS512 ks512 => ?_
            refine wp_seq_k fun KS513 ks513 => ?_
            refine wp_regS (l := [0, 1]) (by kernel_rfl) fun KR kr => ?_
            refine wpS.take 0 false (some 15) (.int .i64 z10) (by kernel_rfl) (yld fun _ => by kernel_rfl) ?_
            rcases of_if h with ⟨hc, h⟩ | ⟨hc, h⟩
            · refine wpS.take 1 false (some 16) (.bool true) (by kernel_rfl) (yld_b (dt hc) (fun _ => by kernel_rfl)) ?_
              refine wpS.fin rfl (kr _ _ ?_)
              refine then_n (ks513 _ _ ?_)
              refine wp_cond_t (by kernel_rfl) ?_
              refine wp_skip ?_
              refine then_n (ks512 _ _ ?_)
              refine wp_seq_k fun KS528 ks528 => ?_
              refine wp_block ?_
              refine wp_seq_k fun KS529 ks529 => ?_
              refine wp_regS (l := [0, 1, 2]) (by kernel_rfl) fun KR kr => ?_
              refine wpS.take 0 false (some 21) (.int .i64 z9) (by kernel_rfl) (yld fun _ => by kernel_rfl) ?_
              refine wpS.take 1 false (some 22) (.int .i64 (isub .i64 z9 1)) (by kernel_rfl) (yld fun _ => by kernel_rfl) ?_
              obtain ⟨x14, hx, h⟩ := of_bind h
              refine wpS.take 2 false (some 4) (.int .i64 x14) (by kernel_rfl) (yld_int hx (fun _ => by kernel_rfl)) ?_
              refine wpS.fin rfl (kr _ _ ?_)
              refine then_n (ks529 _ _ ?_)
              refine wp_seq_k fun KS530 ks530 => ?_
              refine wp_regS (l := [0, 1]) (by kernel_rfl) fun KR kr => ?_
              refine wpS.take 0 false (some 23) (.int .i64 z10) (by kernel_rfl) (yld fun _ => by kernel_rfl) ?_
              refine wpS.take 1 false (some 7) (.int .i64 z10) (by kernel_rfl) (yld fun _ => by kernel_rfl) ?_
              refine wpS.fin rfl (kr _ _ ?_)
              refine then_n (ks530 _ _ ?_)
              obtain ⟨y17, hy, hk2⟩ := of_bind h
              refine wp_exq (N := fun a w => St w0 [] [.blk b4 (enc .i32 r3) 22, .blk b2 (enc .i32 (zeroA 256)) 23, .blk b1 (enc .i32 y17) 23] [] w ∧ ∃ g : Nat → Value, a = ⟨#[.agg (enc .i32 a0).toArray, .pointer (some ⟨b1, 0, none⟩), .pointer (some ⟨b2, 0, none⟩), .pointer (some ⟨b4, 0, none⟩), .int .i64 x14, .int .i64 z6, .int .i64 z10, (g 7), (g 8), undef, .pointer (some ⟨b4, 0, none⟩), .int .i64 z6, .bool true, (g 13), (g 14), .int .i64 z10, .bool true, (g 17), (g 18), (g 19), (g 20), .int .i64 z9, .int .i64 (isub .i64 z9 1), .int .i64 z10, (g 24), (g 25), (g 26), (g 27), (g 28), (g 29), (g 30), (g 31), (g 32), (g 33), (g 34), (g 35), (g 36), (g 37), (g 38), (g 39), (g 40), (g 41), (g 42), (g 43), (g 44), (g 45), (g 46), (g 47), (g 48), (g 49), (g 50), (g 51), (g 52), (g 53), (g 54), (g 55), (g 56), (g 57), (g 58), (g 59), undef, undef, undef, undef, undef, undef, undef, undef, undef, undef, undef], []⟩) (fun N2 nn2 => ?_) ?_
              · clear hk2
                refine wp_block ?_
                refine wp_loop_k (fun n a w => ∃ z15 z16, zq_Back.l2 K n r3 z6 z10 x14 z15 z16 = some y17 ∧ St w0 [] [.blk b4 (enc .i32 r3) 22, .blk b2 (enc .i32 (zeroA 256)) 23, .blk b1 (enc .i32 z16) 23] [] w ∧ ∃ g : Nat → Value, a = ⟨#[.agg (enc .i32 a0).toArray, .pointer (some ⟨b1, 0, none⟩), .pointer (some ⟨b2, 0, none⟩), .pointer (some ⟨b4, 0, none⟩), .int .i64 x14, .int .i64 z6, .int .i64 z10, .int .i64 z15, (g 8), undef, .pointer (some ⟨b4, 0, none⟩), .int .i64 z6, .bool true, (g 13), (g 14), .int .i64 z10, .bool true, (g 17), (g 18), (g 19), (g 20), .int .i64 z9, .int .i64 (isub .i64 z9 1), .int .i64 z10, (g 24), (g 25), (g 26), (g 27), (g 28), (g 29), (g 30), (g 31), (g 32), (g 33), (g 34), (g 35), (g 36), (g 37), (g 38), (g 39), (g 40), (g 41), (g 42), (g 43), (g 44), (g 45), (g 46), (g 47), (g 48), (g 49), (g 50), (g 51), (g 52), (g 53), (g 54), (g 55), (g 56), (g 57), (g 58), (g 59), undef, undef, undef, undef, undef, undef, undef, undef, undef, undef, undef], []⟩) K ⟨z10, z11, hy, hs.conv rfl, exg (by kernel_rfl)⟩ ?_
                clear hs h hy
                rintro n a w ⟨z15, z16, h, hs, g, rfl⟩ KL2 kl2
                cases n with
                | zero => exact nomatch (show none = some _ from h)
                | succ n =>
                  refine wp_seq_k fun KS538 ks538 => ?_
                  refine wp_seq_k fun KS539 ks539 => ?_
                  refine wp_regS (l := [0, 1, 2, 3, 4]) (by kernel_rfl) fun KR kr => ?_
                  refine wpS.take 0 false (some 24) (.int .i64 z15) (by kernel_rfl) (yld fun _ => by kernel_rfl) ?_
                  refine wpS.take 1 false (some 25) (.int .i64 z10) (by kernel_rfl) (yld fun _ => by kernel_rfl) ?_
                  refine wpS.take 2 false (some 26) (.int .i64 z6) (by kernel_rfl) (yld fun _ => by kernel_rfl) ?_
                  refine wpS.take 3 false (some 27) (.int .i64 (iadd .i64 z10 z6)) (by kernel_rfl) (yld fun _ => by kernel_rfl) ?_
                  rcases of_if h with ⟨hc, h⟩ | ⟨hc, h⟩
                  · refine wpS.take 4 false (some 28) (.bool true) (by kernel_rfl) (yld_b (dt hc) (fun _ => by kernel_rfl)) ?_
                    refine wpS.fin rfl (kr _ _ ?_)
                    refine then_n (ks539 _ _ ?_)
                    refine wp_cond_t (by kernel_rfl) ?_
                    refine wp_skip ?_
                    refine then_n (ks538 _ _ ?_)
                    refine wp_seq_k fun KS540 ks540 => ?_
                    refine wp_block ?_
                    refine wp_seq_k fun KS541 ks541 => ?_
                    refine wp_regS (l := [0, 1, 2, 3]) (by kernel_rfl) fun KR kr => ?_
                    refine wpS.take 0 false (some 31) (.int .i64 z15) (by kernel_rfl) (yld fun _ => by kernel_rfl) ?_
                    obtain ⟨h0, h⟩ := of_chk h
                    obtain ⟨h1, h⟩ := of_chk h
                    refine wpS.take 1 false (some 32) (.pointer (some ⟨b1, 0 + (z15 : Int).toNat * 1, none⟩)) (by kernel_rfl) (yld_idx (t := 23) (e := 21) (n := 256) (sz := 1) (k := .i64) (x := z15) (by kernel_rfl) (by kernel_rfl) (by kernel_rfl) h0 h1) ?_
                    refine wpS.take 2 true (some 33) (.int .i32 (rd z16 z15)) (by kernel_rfl) (yld_loadA (e := 21) (x := z15) hs 2 rfl (by kernel_rfl) (by kernel_rfl) h0 h1) ?_
                    obtain ⟨x18, hx, h⟩ := of_bind h
                    refine wpS.take 3 false (some 8) (.int .i32 x18) (by kernel_rfl) (yld_int hx (fun _ => by kernel_rfl)) ?_
                    refine wpS.fin rfl (kr _ _ ?_)
                    refine then_n (ks541 _ _ ?_)
                    refine wp_seq_k fun KS542 ks542 => ?_
                    refine wp_regS (l := [0, 1, 2, 3, 4, 5, 6, 7, 8, 9]) (by kernel_rfl) fun KR kr => ?_
                    refine wpS.take 0 false (some 34) (.int .i64 z15) (by kernel_rfl) (yld fun _ => by kernel_rfl) ?_
                    refine wpS.take 1 false (some 35) (.int .i32 x18) (by kernel_rfl) (yld fun _ => by kernel_rfl) ?_
                    refine wpS.take 2 false (some 36) (.int .i64 z15) (by kernel_rfl) (yld fun _ => by kernel_rfl) ?_
                    refine wpS.take 3 false (some 37) (.int .i64 z6) (by kernel_rfl) (yld fun _ => by kernel_rfl) ?_
                    refine wpS.take 4 false (some 38) (.int .i64 (iadd .i64 z15 z6)) (by kernel_rfl) (yld fun _ => by kernel_rfl) ?_
                    obtain ⟨x19, hx, h⟩ := of_bind h
                    have hx := of_some hx
                    subst hx
                    obtain ⟨h0, h⟩ := of_chk h
                    obtain ⟨h1, h⟩ := of_chk h
                    refine wpS.take 5 false (some 39) (.pointer (some ⟨b1, 0 + ((iadd .i64 z15 z6) : Int).toNat * 1, none⟩)) (by kernel_rfl) (yld_idx (t := 23) (e := 21) (n := 256) (sz := 1) (k := .i64) (x := (iadd .i64 z15 z6)) (by kernel_rfl) (by kernel_rfl) (by kernel_rfl) h0 h1) ?_
                    refine wpS.take 6 true (some 40) (.int .i32 (rd z16 (iadd .i64 z15 z6))) (by kernel_rfl) (yld_loadA (e := 21) (x := (iadd .i64 z15 z6)) hs 2 rfl (by kernel_rfl) (by kernel_rfl) h0 h1) ?_
                    obtain ⟨r20, hg, h⟩ := of_bind h
                    refine wpS.only 7 (op_call (d := (some 41)) (by kernel_rfl) hs (fun _ => by kernel_rfl) (zq_plus.ok hg _) ?_)
                    intro w gw hs
                    refine ⟨fun _ => trivial, ?_⟩
                    obtain ⟨h0, h⟩ := of_chk h
                    obtain ⟨h1, h⟩ := of_chk h
                    refine wpS.take 8 false (some 42) (.pointer (some ⟨b1, 0 + (z15 : Int).toNat * 1, none⟩)) (by kernel_rfl) (yld_idx (t := 23) (e := 21) (n := 256) (sz := 1) (k := .i64) (x := z15) (by kernel_rfl) (by kernel_rfl) (by kernel_rfl) h0 h1) ?_
                    refine wpS.only 9 (op_storeA (t := 21) (x := z15) (v := r20) (d := none) (by kernel_rfl) hs 2 rfl (by kernel_rfl /-v-/) (by kernel_rfl) h0 h1 ?_)
                    intro w hs
                    refine ⟨fun _ => trivial, ?_⟩
                    refine wpS.fin rfl (kr _ _ ?_)
                    refine then_n (ks542 _ _ ?_)
                    refine wp_regG [17] 18 (by kernel_rfl) (by kernel_rfl) fun KR kr => ?_
                    have hs := hs.drawn1
                    refine wpG.take 0 false (some 43) (.int .i64 z15) (by kernel_rfl) (by kernel_rfl) (yld fun _ => by kernel_rfl) ?_
                    refine wpG.take 1 false (some 44) (.int .i64 z6) (by kernel_rfl) (by kernel_rfl) (yld fun _ => by kernel_rfl) ?_
                    refine wpG.take 2 false (some 45) (.int .i64 (iadd .i64 z15 z6)) (by kernel_rfl) (by kernel_rfl) (yld fun _ => by kernel_rfl) ?_
                    refine wpG.take 3 false (some 46) (.pointer (some ⟨b4, 0, none⟩)) (by kernel_rfl) (by kernel_rfl) (yld fun _ => by kernel_rfl) ?_
                    refine wpG.take 4 false (some 47) (.int .i64 x14) (by kernel_rfl) (by kernel_rfl) (yld fun _ => by kernel_rfl) ?_
                    refine wpG.take 5 false (some 48) (.pointer (some ⟨b4, 0, none⟩)) (by kernel_rfl) (by kernel_rfl) (yld fun _ => by kernel_rfl) ?_
                    obtain ⟨h0, h⟩ := of_chk h
                    obtain ⟨h1, h⟩ := of_chk h
                    refine wpG.take 6 false (some 49) (.pointer (some ⟨b4, 0 + (x14 : Int).toNat * 1, none⟩)) (by kernel_rfl) (by kernel_rfl) (yld_idx (t := 22) (e := 21) (n := 256) (sz := 1) (k := .i64) (x := x14) (by kernel_rfl) (by kernel_rfl) (by kernel_rfl) h0 h1) ?_
                    refine wpG.take 7 true (some 50) (.int .i32 (rd r3 x14)) (by kernel_rfl) (by kernel_rfl) (yld_loadA (e := 21) (x := x14) hs 0 rfl (by kernel_rfl) (by kernel_rfl) h0 h1) ?_
                    refine wpG.take 8 false (some 51) (.int .i64 z15) (by kernel_rfl) (by kernel_rfl) (yld fun _ => by kernel_rfl) ?_
                    refine wpG.take 9 false (some 52) (.int .i64 z6) (by kernel_rfl) (by kernel_rfl) (yld fun _ => by kernel_rfl) ?_
                    refine wpG.take 10 false (some 53) (.int .i64 (iadd .i64 z15 z6)) (by kernel_rfl) (by kernel_rfl) (yld fun _ => by kernel_rfl) ?_
                    obtain ⟨x21, hx, h⟩ := of_bind h
                    have hx := of_some hx
                    subst hx
                    obtain ⟨h0, h⟩ := of_chk h
                    obtain ⟨h1, h⟩ := of_chk h
                    refine wpG.take 11 false (some 54) (.pointer (some ⟨b1, 0 + ((iadd .i64 z15 z6) : Int).toNat * 1, none⟩)) (by kernel_rfl) (by kernel_rfl) (yld_idx (t := 23) (e := 21) (n := 256) (sz := 1) (k := .i64) (x := (iadd .i64 z15 z6)) (by kernel_rfl) (by kernel_rfl) (by kernel_rfl) h0 h1) ?_
                    refine wpG.take 12 true (some 55) (.int .i32 (rd (wr z16 z15 r20) (iadd .i64 z15 z6))) (by kernel_rfl) (by kernel_rfl) (yld_loadA (e := 21) (x := (iadd .i64 z15 z6)) hs 2 rfl (by kernel_rfl) (by kernel_rfl) h0 h1) ?_
                    refine wpG.take 13 false (some 56) (.int .i32 x18) (by kernel_rfl) (by kernel_rfl) (yld fun _ => by kernel_rfl) ?_
                    obtain ⟨r22, hg, h⟩ := of_bind h
                    refine wpG.only 14 (by kernel_rfl) (op_call (d := (some 57)) (by kernel_rfl) hs (fun _ => by kernel_rfl) (zq_minus.ok hg _) ?_)
                    intro w gw hs
                    refine ⟨fun _ => gw, ?_⟩
                    obtain ⟨r23, hg, h⟩ := of_bind h
                    refine wpG.only 15 (by kernel_rfl) (op_call (d := (some 58)) (by kernel_rfl) hs (fun _ => by kernel_rfl) (zq_times.ok hg _) ?_)
                    intro w gw hs
                    refine ⟨fun _ => gw, ?_⟩
                    obtain ⟨x24, hx, h⟩ := of_bind h
                    have hx := of_some hx
                    subst hx
                    obtain ⟨h0, h⟩ := of_chk h
                    obtain ⟨h1, h⟩ := of_chk h
                    refine wpG.take 16 false (some 59) (.pointer (some ⟨b1, 0 + ((iadd .i64 z15 z6) : Int).toNat * 1, none⟩)) (by kernel_rfl) (by kernel_rfl) (yld_idx (t := 23) (e := 21) (n := 256) (sz := 1) (k := .i64) (x := (iadd .i64 z15 z6)) (by kernel_rfl) (by kernel_rfl) (by kernel_rfl) h0 h1) ?_
                    refine wpG.only 17 (by kernel_rfl) (op_storeA (t := 21) (x := (iadd .i64 z15 z6)) (v := r23) (d := none) (by kernel_rfl) hs 2 rfl (by kernel_rfl /-v-/) (by kernel_rfl) h0 h1 ?_)
                    intro w hs
                    refine ⟨fun hf => absurd hf (by decide), ?_⟩
                    refine wpG.fin (by kernel_rfl) rfl (kr _ _ ?_)
                    refine inBlock_n ?_
                    refine then_n (ks540 _ _ ?_)
                    refine wp_regS (l := [0, 1, 2]) (by kernel_rfl) fun KR kr => ?_
                    refine wpS.take 0 false (some 29) (.int .i64 z15) (by kernel_rfl) (yld fun _ => by kernel_rfl) ?_
                    refine wpS.take 1 false (some 30) (.int .i64 (iadd .i64 z15 1)) (by kernel_rfl) (yld fun _ => by kernel_rfl) ?_
                    obtain ⟨x25, hx, h⟩ := of_bind h
                    refine wpS.take 2 false (some 7) (.int .i64 x25) (by kernel_rfl) (yld_int hx (fun _ => by kernel_rfl)) ?_
                    refine wpS.fin rfl (kr _ _ ?_)
                    exact then_n (kl2 _ _ ⟨n, Nat.lt_succ_self n, x25, (wr (wr z16 z15 r20) (iadd .i64 z15 z6) r23), h, (hs.conv rfl), exg (by kernel_rfl)⟩)
                  · refine wpS.take 4 false (some 28) (.bool false) (by kernel_rfl) (yld_b (df hc) (fun _ => by kernel_rfl)) ?_
                    refine wpS.fin rfl (kr _ _ ?_)
                    refine then_n (ks539 _ _ ?_)
                    refine wp_cond_f (by kernel_rfl) ?_
                    refine wp_exit ?_
                    refine then_x ?_
                    refine then_x ?_
                    refine inBlock_hit ?_
                    have q0 := of_some h
                    subst q0
                    exact exq_n (nn2 _ _ ⟨(hs.conv rfl), exg (by kernel_rfl)⟩)
              · clear hs h hy
                rintro a w ⟨hs, g, rfl⟩
                have h := hk2
                refine inBlock_n ?_
                refine then_n (ks528 _ _ ?_)
                refine wp_regS (l := [0, 1, 2, 3, 4]) (by kernel_rfl) fun KR kr => ?_
                refine wpS.take 0 false (some 17) (.int .i64 z10) (by kernel_rfl) (yld fun _ => by kernel_rfl) ?_
                refine wpS.take 1 false (some 18) (.int .i64 z6) (by kernel_rfl) (yld fun _ => by kernel_rfl) ?_
                refine wpS.take 2 false (some 19) (.int .i64 (imul .i64 2 z6)) (by kernel_rfl) (yld fun _ => by kernel_rfl) ?_
                refine wpS.take 3 false (some 20) (.int .i64 (iadd .i64 z10 (imul .i64 2 z6))) (by kernel_rfl) (yld fun _ => by kernel_rfl) ?_
                obtain ⟨x26, hx, h⟩ := of_bind h
                refine wpS.take 4 false (some 6) (.int .i64 x26) (by kernel_rfl) (yld_int hx (fun _ => by kernel_rfl)) ?_
                refine wpS.fin rfl (kr _ _ ?_)
                exact then_n (kl1 _ _ ⟨n, Nat.lt_succ_self n, x14, x26, y17, h, (hs.conv rfl), exg (by kernel_rfl)⟩)
            · refine wpS.take 1 false (some 16) (.bool false) (by kernel_rfl) (yld_b (df hc) (fun _ => by kernel_rfl)) ?_
              refine wpS.fin rfl (kr _ _ ?_)
              refine then_n (ks513 _ _ ?_)
              refine wp_cond_f (by kernel_rfl) ?_
              refine wp_exit ?_
              refine then_x ?_
              refine then_x ?_
              refine inBlock_hit ?_
              obtain ⟨q0, qr0⟩ := Prod.mk.inj (of_some h)
              have q1 := qr0
              subst q0
              subst q1
              exact exq_n (nn1 _ _ ⟨(hs.conv rfl), exg (by kernel_rfl)⟩)
        · clear hs h hy
          rintro a w ⟨hs, g, rfl⟩
          have h := hk1
          refine inBlock_n ?_
          refine then_n (ks477 _ _ ?_)
          refine wp_regS (l := [0, 1, 2]) (by kernel_rfl) fun KR kr => ?_
          refine wpS.take 0 false (some 13) (.int .i64 z6) (by kernel_rfl) (yld fun _ => by kernel_rfl) ?_
          refine wpS.take 1 false (some 14) (.int .i64 (imul .i64 z6 2)) (by kernel_rfl) (yld fun _ => by kernel_rfl) ?_
          obtain ⟨x27, hx, h⟩ := of_bind h
          refine wpS.take 2 false (some 5) (.int .i64 x27) (by kernel_rfl) (yld_int hx (fun _ => by kernel_rfl)) ?_
          refine wpS.fin rfl (kr _ _ ?_)
          exact then_n (kl0 _ _ ⟨n, Nat.lt_succ_self n, y12, x27, y13, h, (hs.conv rfl), exg (by kernel_rfl)⟩)
      · refine wpS.take 1 false (some 12) (.bool false) (by kernel_rfl) (yld_b (df hc) (fun _ => by kernel_rfl)) ?_
        refine wpS.fin rfl (kr _ _ ?_)
        refine then_n (ks411 _ _ ?_)
        refine wp_cond_f (by kernel_rfl) ?_
        refine wp_exit ?_
        refine then_x ?_
        refine then_x ?_
        refine inBlock_hit ?_
        have q0 := of_some h
        subst q0
        exact exq_n (nn0 _ _ ⟨(hs.conv rfl), exg (by kernel_rfl)⟩)
  · clear hs h hy
    rintro a w ⟨hs, g, rfl⟩
    have h := hk0
    refine then_n (ks273 _ _ ?_)
    refine wp_seq_k fun KS554 ks554 => ?_
    refine wp_seq_k fun KS555 ks555 => ?_
    refine wp_regS (l := [0]) (by kernel_rfl) fun KR kr => ?_
    refine wpS.take 0 false (some 60) (.int .i64 0) (by kernel_rfl) (yld fun _ => by kernel_rfl) ?_
    refine wpS.fin rfl (kr _ _ ?_)
    refine then_n (ks555 _ _ ?_)
    obtain ⟨y30, hy, hk3⟩ := of_bind h
    refine wp_exq (N := fun a w => St w0 [] [.blk b4 (enc .i32 r3) 22, .blk b2 (enc .i32 (zeroA 256)) 23, .blk b1 (enc .i32 y30) 23] [] w ∧ ∃ g : Nat → Value, a = ⟨#[.agg (enc .i32 a0).toArray, .pointer (some ⟨b1, 0, none⟩), .pointer (some ⟨b2, 0, none⟩), .pointer (some ⟨b4, 0, none⟩), (g 4), (g 5), (g 6), (g 7), (g 8), (g 9), .pointer (some ⟨b4, 0, none⟩), (g 11), (g 12), (g 13), (g 14), (g 15), (g 16), (g 17), (g 18), (g 19), (g 20), (g 21), (g 22), (g 23), (g 24), (g 25), (g 26), (g 27), (g 28), (g 29), (g 30), (g 31), (g 32), (g 33), (g 34), (g 35), (g 36), (g 37), (g 38), (g 39), (g 40), (g 41), (g 42), (g 43), (g 44), (g 45), (g 46), (g 47), (g 48), (g 49), (g 50), (g 51), (g 52), (g 53), (g 54), (g 55), (g 56), (g 57), (g 58), (g 59), (g 60), (g 61), (g 62), (g 63), (g 64), (g 65), (g 66), (g 67), (g 68), (g 69), undef], []⟩) (fun N3 nn3 => ?_) ?_
    · clear hk3
      refine wp_block ?_
      refine wp_loop_k (fun n a w => ∃ z28 z29, zq_Back.l3 K n z28 z29 = some y30 ∧ St w0 [] [.blk b4 (enc .i32 r3) 22, .blk b2 (enc .i32 (zeroA 256)) 23, .blk b1 (enc .i32 z29) 23] [] w ∧ ∃ g : Nat → Value, a = ⟨#[.agg (enc .i32 a0).toArray, .pointer (some ⟨b1, 0, none⟩), .pointer (some ⟨b2, 0, none⟩), .pointer (some ⟨b4, 0, none⟩), (g 4), (g 5), (g 6), (g 7), (g 8), (g 9), .pointer (some ⟨b4, 0, none⟩), (g 11), (g 12), (g 13), (g 14), (g 15), (g 16), (g 17), (g 18), (g 19), (g 20), (g 21), (g 22), (g 23), (g 24), (g 25), (g 26), (g 27), (g 28), (g 29), (g 30), (g 31), (g 32), (g 33), (g 34), (g 35), (g 36), (g 37), (g 38), (g 39), (g 40), (g 41), (g 42), (g 43), (g 44), (g 45), (g 46), (g 47), (g 48), (g 49), (g 50), (g 51), (g 52), (g 53), (g 54), (g 55), (g 56), (g 57), (g 58), (g 59), .int .i64 z28, (g 61), (g 62), (g 63), (g 64), (g 65), (g 66), (g 67), (g 68), (g 69), undef], []⟩) K ⟨0, y8, hy, hs.conv rfl, exg (by kernel_rfl)⟩ ?_
      clear hs h hy
      rintro n a w ⟨z28, z29, h, hs, g, rfl⟩ KL3 kl3
      cases n with
      | zero => exact nomatch (show none = some _ from h)
      | succ n =>
        refine wp_seq_k fun KS561 ks561 => ?_
        refine wp_regS (l := [0]) (by kernel_rfl) fun KR kr => ?_
        rcases of_if h with ⟨hc, h⟩ | ⟨hc, h⟩
        · refine wpS.take 0 false (some 61) (.bool true) (by kernel_rfl) (yld_b (dt hc) (fun _ => by kernel_rfl)) ?_
          refine wpS.fin rfl (kr _ _ ?_)
          refine then_n (ks561 _ _ ?_)
          refine wp_seq_k fun KS562 ks562 => ?_
          refine wp_cond_t (by kernel_rfl) ?_
          refine wp_skip ?_
          refine then_n (ks562 _ _ ?_)
          refine wp_seq_k fun KS563 ks563 => ?_
          refine wp_block ?_
          refine wp_seq_k fun KS564 ks564 => ?_
          refine wp_regS (l := [0, 1]) (by kernel_rfl) fun KR kr => ?_
          refine wpS.take 0 false (some 62) (.int .i64 z28) (by kernel_rfl) (yld fun _ => by kernel_rfl) ?_
          refine wpS.take 1 false (some 9) (.int .i64 z28) (by kernel_rfl) (yld fun _ => by kernel_rfl) ?_
          refine wpS.fin rfl (kr _ _ ?_)
          refine then_n (ks564 _ _ ?_)
          refine wp_regS (l := [0, 1, 2, 3, 4, 5, 6]) (by kernel_rfl) fun KR kr => ?_
          refine wpS.take 0 false (some 63) (.int .i64 z28) (by kernel_rfl) (yld fun _ => by kernel_rfl) ?_
          refine wpS.take 1 false (some 64) (.int .i64 z28) (by kernel_rfl) (yld fun _ => by kernel_rfl) ?_
          obtain ⟨h0, h⟩ := of_chk h
          obtain ⟨h1, h⟩ := of_chk h
          refine wpS.take 2 false (some 65) (.pointer (some ⟨b1, 0 + (z28 : Int).toNat * 1, none⟩)) (by kernel_rfl) (yld_idx (t := 23) (e := 21) (n := 256) (sz := 1) (k := .i64) (x := z28) (by kernel_rfl) (by kernel_rfl) (by kernel_rfl) h0 h1) ?_
          refine wpS.take 3 true (some 66) (.int .i32 (rd z29 z28)) (by kernel_rfl) (yld_loadA (e := 21) (x := z28) hs 2 rfl (by kernel_rfl) (by kernel_rfl) h0 h1) ?_
          obtain ⟨r31, hg, h⟩ := of_bind h
          refine wpS.only 4 (op_call (d := (some 67)) (by kernel_rfl) hs (fun _ => by kernel_rfl) (zq_times.ok hg _) ?_)
          intro w gw hs
          refine ⟨fun _ => trivial, ?_⟩
          obtain ⟨h0, h⟩ := of_chk h
          obtain ⟨h1, h⟩ := of_chk h
          refine wpS.take 5 false (some 68) (.pointer (some ⟨b1, 0 + (z28 : Int).toNat * 1, none⟩)) (by kernel_rfl) (yld_idx (t := 23) (e := 21) (n := 256) (sz := 1) (k := .i64) (x := z28) (by kernel_rfl) (by kernel_rfl) (by kernel_rfl) h0 h1) ?_
          refine wpS.only 6 (op_storeA (t := 21) (x := z28) (v := r31) (d := none) (by kernel_rfl) hs 2 rfl (by kernel_rfl /-v-/) (by kernel_rfl) h0 h1 ?_)
          intro w hs
          refine ⟨fun _ => trivial, ?_⟩
          refine wpS.fin rfl (kr _ _ ?_)
          refine inBlock_n ?_
          refine then_n (ks563 _ _ ?_)
          refine wp_regS (l := [0, 1]) (by kernel_rfl) fun KR kr => ?_
          refine wpS.take 0 false (some 69) (.int .i64 (iadd .i64 z28 1)) (by kernel_rfl) (yld fun _ => by kernel_rfl) ?_
          refine wpS.take 1 false (some 60) (.int .i64 (iadd .i64 z28 1)) (by kernel_rfl) (yld fun _ => by kernel_rfl) ?_
          refine wpS.fin rfl (kr _ _ ?_)
          exact then_n (kl3 _ _ ⟨n, Nat.lt_succ_self n, (iadd .i64 z28 1), (wr z29 z28 r31), h, (hs.conv rfl), exg (by kernel_rfl)⟩)
        · refine wpS.take 0 false (some 61) (.bool false) (by kernel_rfl) (yld_b (df hc) (fun _ => by kernel_rfl)) ?_
          refine wpS.fin rfl (kr _ _ ?_)
          refine then_n (ks561 _ _ ?_)
          refine wp_seq_k fun KS565 ks565 => ?_
          refine wp_cond_f (by kernel_rfl) ?_
          refine wp_exit ?_
          refine then_x ?_
          refine then_x ?_
          refine inBlock_hit ?_
          have q0 := of_some h
          subst q0
          exact exq_n (nn3 _ _ ⟨(hs.conv rfl), exg (by kernel_rfl)⟩)
    · clear hs h hy
      rintro a w ⟨hs, g, rfl⟩
      have h := hk3
      refine then_n (ks554 _ _ ?_)
      refine wp_seq_k fun KS566 ks566 => ?_
      refine wp_regS (l := [0, 1]) (by kernel_rfl) fun KR kr => ?_
      refine wpS.take 0 true (some 70) (.agg (enc .i32 y30).toArray) (by kernel_rfl) (yld_loadW (e := 23) (n := 256) hs 2 rfl (by kernel_rfl) (by kernel_rfl) (by kernel_rfl) (by exact enc_len _ _)) ?_
      refine wpS.only 1 (op_storeW (t := 23) (v := .agg (enc .i32 y30).toArray) (d := none) (by kernel_rfl) hs 1 rfl (vs := enc .i32 y30) (n := 256) (by kernel_rfl) (by kernel_rfl) (by kernel_rfl) (by simp [enc_len]) (by simp [enc_len]) (by intro u hu; exact enc_one _ _ u hu) ?_)
      intro w hs
      refine ⟨fun _ => trivial, ?_⟩
      refine wpS.fin rfl (kr _ _ ?_)
      refine then_n (ks566 _ _ ?_)
      refine wp_ret ?_
      have q0 := of_some h
      subst q0
      exact qq _ _ (post_ret (by kernel_rfl) (run_results [.cell 2 23] [.agg (enc .i32 y30).toArray] (by kernel_rfl) (.cons (res_cellN (n := 256) hs 1 rfl (by kernel_rfl) (by kernel_rfl) (by kernel_rfl) (by exact enc_len _ _)) .nil)) ⟨congrArg Ending.returned (by kernel_rfl), hs.none⟩)

theorem ref21_Back.ok {K : Nat} {a0 : Arr 256} {r0 : Arr 256} (h : ref21_Back.f K a0 = some r0) (w0 : World) : Ret Try.prog 29 #[.agg (enc .i32 a0).toArray] w0 (.agg (enc .i32 r0).toArray) := by
  refine calls_k Try.func29 rfl fun Q qq => ?_
  have hs := St.start w0
  refine wp_conv (a' := ⟨#[.agg (enc .i32 a0).toArray, undef, undef, undef, undef, undef, undef, undef, undef, undef, undef, undef, undef, undef, undef, undef, undef, undef, undef, undef, undef, undef, undef, undef, undef, undef, undef, undef, undef, undef, undef, undef, undef, undef, undef, undef, undef, undef, undef, undef, undef, undef, undef, undef, undef, undef], []⟩) (by kernel_rfl) ?_
  refine wp_seq_k fun KS1 ks1 => ?_
  refine wp_regS (l := [0, 1]) (by kernel_rfl) fun KR kr => ?_
  refine wpS.only 0 (op_box (t := 23) (v := .agg (enc .i32 a0).toArray) (d := (some 1)) (by kernel_rfl) hs (enc .i32 a0) (by kernel_rfl) (by kernel_rfl) ?_)
  intro b1 w gw hs
  refine ⟨fun _ => trivial, ?_⟩
  refine wpS.only 1 (op_alloc (t := 23) (d := (some 2)) (by kernel_rfl) hs (enc .i32 (zeroA 256)) (.agg (enc .i32 (zeroA 256)).toArray) (by kernel_rfl) (by kernel_rfl) (by kernel_rfl) ?_)
  intro b2 w gw hs
  refine ⟨fun _ => trivial, ?_⟩
  refine wpS.fin rfl (kr _ _ ?_)
  refine then_n (ks1 _ _ ?_)
  refine wp_seq_k fun KS2 ks2 => ?_
  refine wp_regS (l := [0, 1, 2]) (by kernel_rfl) fun KR kr => ?_
  obtain ⟨r3, hg, h⟩ := of_bind h
  refine wpS.only 0 (op_call (d := (some 9)) (by kernel_rfl) hs (fun _ => by kernel_rfl) (ref21_powers.ok hg _) ?_)
  intro w gw hs
  refine ⟨fun _ => trivial, ?_⟩
  refine wpS.only 1 (op_alloc (t := 52) (d := (some 3)) (by kernel_rfl) hs (enc .i64 (zeroA 512)) (.agg (enc .i64 (zeroA 512)).toArray) (by kernel_rfl) (by kernel_rfl) (by kernel_rfl) ?_)
  intro b4 w gw hs
  refine ⟨fun _ => trivial, ?_⟩
  refine wpS.only 2 (op_storeW (t := 52) (v := .agg (enc .i64 r3).toArray) (d := none) (by kernel_rfl) hs 0 rfl (vs := enc .i64 r3) (n := 512) (by kernel_rfl) (by kernel_rfl) (by kernel_rfl) (by simp [enc_len]) (by simp [enc_len]) (by intro u hu; exact enc_one _ _ u hu) ?_)
  intro w hs
  refine ⟨fun _ => trivial, ?_⟩
  refine wpS.fin rfl (kr _ _ ?_)
  refine then_n (ks2 _ _ ?_)
  refine wp_seq_k fun KS3 ks3 => ?_
  refine wp_regS (l := [0]) (by kernel_rfl) fun KR kr => ?_
  refine wpS.only 0 (op_alloc (t := 23) (d := (some 4)) (by kernel_rfl) hs (enc .i32 (zeroA 256)) (.agg (enc .i32 (zeroA 256)).toArray) (by kernel_rfl) (by kernel_rfl) (by kernel_rfl) ?_)
  intro b5 w gw hs
  refine ⟨fun _ => trivial, ?_⟩
  refine wpS.fin rfl (kr _ _ ?_)
  refine then_n (ks3 _ _ ?_)
  refine wp_seq_k fun KS109 ks109 => ?_
  refine wp_seq_k fun KS110 ks110 => ?_
  refine wp_regS (l := [0]) (by kernel_rfl) fun KR kr => ?_
  refine wpS.take 0 false (some 5) (.int .i64 0) (by kernel_rfl) (yld fun _ => by kernel_rfl) ?_
  refine wpS.fin rfl (kr _ _ ?_)
  refine then_n (ks110 _ _ ?_)
  obtain ⟨y8, hy, hk0⟩ := of_bind h
  refine wp_exq (N := fun a w => St w0 [] [.blk b5 (enc .i32 y8) 23, .blk b4 (enc .i64 r3) 52, .blk b2 (enc .i32 (zeroA 256)) 23, .blk b1 (enc .i32 a0) 23] [] w ∧ ∃ g : Nat → Value, a = ⟨#[.agg (enc .i32 a0).toArray, .pointer (some ⟨b1, 0, none⟩), .pointer (some ⟨b2, 0, none⟩), .pointer (some ⟨b4, 0, none⟩), .pointer (some ⟨b5, 0, none⟩), (g 5), (g 6), (g 7), (g 8), .agg (enc .i64 r3).toArray, (g 10), (g 11), (g 12), (g 13), (g 14), (g 15), (g 16), (g 17), (g 18), (g 19), (g 20), (g 21), (g 22), (g 23), (g 24), (g 25), (g 26), (g 27), (g 28), (g 29), (g 30), (g 31), (g 32), (g 33), (g 34), (g 35), (g 36), (g 37), (g 38), (g 39), (g 40), (g 41), (g 42), (g 43), (g 44), undef], []⟩) (fun N0 nn0 => ?_) ?_
  · clear hk0
    refine wp_block ?_
    refine wp_loop_k (fun n a w => ∃ z6 z7, ref21_Back.l0 K n a0 r3 z6 z7 = some y8 ∧ St w0 [] [.blk b5 (enc .i32 z7) 23, .blk b4 (enc .i64 r3) 52, .blk b2 (enc .i32 (zeroA 256)) 23, .blk b1 (enc .i32 a0) 23] [] w ∧ ∃ g : Nat → Value, a = ⟨#[.agg (enc .i32 a0).toArray, .pointer (some ⟨b1, 0, none⟩), .pointer (some ⟨b2, 0, none⟩), .pointer (some ⟨b4, 0, none⟩), .pointer (some ⟨b5, 0, none⟩), .int .i64 z6, (g 6), (g 7), (g 8), .agg (enc .i64 r3).toArray, (g 10), (g 11), (g 12), (g 13), (g 14), (g 15), (g 16), (g 17), (g 18), (g 19), (g 20), (g 21), (g 22), (g 23), (g 24), (g 25), (g 26), (g 27), (g 28), (g 29), (g 30), (g 31), (g 32), (g 33), (g 34), (g 35), (g 36), (g 37), (g 38), (g 39), (g 40), (g 41), (g 42), (g 43), (g 44), undef], []⟩) K ⟨0, (zeroA 256), hy, hs.conv rfl, exg (by kernel_rfl)⟩ ?_
    clear hs h hy
    rintro n a w ⟨z6, z7, h, hs, g, rfl⟩ KL0 kl0
    cases n with
    | zero => exact nomatch (show none = some _ from h)
    | succ n =>
      refine wp_seq_k fun KS164 ks164 => ?_
      refine wp_seq_k fun KS165 ks165 => ?_
      refine wp_regS (l := [0, 1]) (by kernel_rfl) fun KR kr => ?_
      refine wpS.take 0 false (some 10) (.int .i64 z6) (by kernel_rfl) (yld fun _ => by kernel_rfl) ?_
      rcases of_if h with ⟨hc, h⟩ | ⟨hc, h⟩
      · refine wpS.take 1 false (some 11) (.bool true) (by kernel_rfl) (yld_b (dt hc) (fun _ => by kernel_rfl)) ?_
        refine wpS.fin rfl (kr _ _ ?_)
        refine then_n (ks165 _ _ ?_)
        refine wp_cond_t (by kernel_rfl) ?_
        refine wp_skip ?_
        refine then_n (ks164 _ _ ?_)
        refine wp_seq_k fun KS190 ks190 => ?_
        refine wp_block ?_
        refine wp_seq_k fun KS191 ks191 => ?_
        refine wp_regS (l := [0]) (by kernel_rfl) fun KR kr => ?_
        refine wpS.take 0 false (some 6) (.int .i64 0) (by kernel_rfl) (yld fun _ => by kernel_rfl) ?_
        refine wpS.fin rfl (kr _ _ ?_)
        refine then_n (ks191 _ _ ?_)
        refine wp_seq_k fun KS203 ks203 => ?_
        refine wp_seq_k fun KS204 ks204 => ?_
        refine wp_regS (l := [0]) (by kernel_rfl) fun KR kr => ?_
        refine wpS.take 0 false (some 7) (.int .i64 0) (by kernel_rfl) (yld fun _ => by kernel_rfl) ?_
        refine wpS.fin rfl (kr _ _ ?_)
        refine then_n (ks204 _ _ ?_)
        obtain ⟨y11, hy, hk1⟩ := of_bind h
        refine wp_exq (N := fun a w => St w0 [] [.blk b5 (enc .i32 z7) 23, .blk b4 (enc .i64 r3) 52, .blk b2 (enc .i32 (zeroA 256)) 23, .blk b1 (enc .i32 a0) 23] [] w ∧ ∃ g : Nat → Value, a = ⟨#[.agg (enc .i32 a0).toArray, .pointer (some ⟨b1, 0, none⟩), .pointer (some ⟨b2, 0, none⟩), .pointer (some ⟨b4, 0, none⟩), .pointer (some ⟨b5, 0, none⟩), .int .i64 z6, .int .i64 y11, (g 7), (g 8), .agg (enc .i64 r3).toArray, .int .i64 z6, .bool true, (g 12), (g 13), (g 14), (g 15), (g 16), (g 17), (g 18), (g 19), (g 20), (g 21), (g 22), (g 23), (g 24), (g 25), (g 26), (g 27), (g 28), (g 29), (g 30), (g 31), (g 32), (g 33), (g 34), (g 35), (g 36), (g 37), (g 38), (g 39), (g 40), (g 41), (g 42), (g 43), (g 44), undef], []⟩) (fun N1 nn1 => ?_) ?_
        · clear hk1
          refine wp_block ?_
          refine wp_loop_k (fun n a w => ∃ z9 z10, ref21_Back.l1 K n a0 r3 z6 z9 z10 = some y11 ∧ St w0 [] [.blk b5 (enc .i32 z7) 23, .blk b4 (enc .i64 r3) 52, .blk b2 (enc .i32 (zeroA 256)) 23, .blk b1 (enc .i32 a0) 23] [] w ∧ ∃ g : Nat → Value, a = ⟨#[.agg (enc .i32 a0).toArray, .pointer (some ⟨b1, 0, none⟩), .pointer (some ⟨b2, 0, none⟩), .pointer (some ⟨b4, 0, none⟩), .pointer (some ⟨b5, 0, none⟩), .int .i64 z6, .int .i64 z9, .int .i64 z10, (g 8), .agg (enc .i64 r3).toArray, .int .i64 z6, .bool true, (g 12), (g 13), (g 14), (g 15), (g 16), (g 17), (g 18), (g 19), (g 20), (g 21), (g 22), (g 23), (g 24), (g 25), (g 26), (g 27), (g 28), (g 29), (g 30), (g 31), (g 32), (g 33), (g 34), (g 35), (g 36), (g 37), (g 38), (g 39), (g 40), (g 41), (g 42), (g 43), (g 44), undef], []⟩) K ⟨0, 0, hy, hs.conv rfl, exg (by kernel_rfl)⟩ ?_
          clear hs h hy
          rintro n a w ⟨z9, z10, h, hs, g, rfl⟩ KL1 kl1
          cases n with
          | zero => exact nomatch (show none = some _ from h)
          | succ n =>
            refine wp_seq_k fun KS211 ks211 => ?_
            refine wp_seq_k fun KS212 ks212 => ?_
            refine wp_regS (l := [0, 1]) (by kernel_rfl) fun KR kr => ?_
            refine wpS.take 0 false (some 14) (.int .i64 z10) (by kernel_rfl) (yld fun _ => by kernel_rfl) ?_
            rcases of_if h with ⟨hc, h⟩ | ⟨hc, h⟩
            · refine wpS.take 1 false (some 15) (.bool true) (by kernel_rfl) (yld_b (dt hc) (fun _ => by kernel_rfl)) ?_
              refine wpS.fin rfl (kr _ _ ?_)
              refine then_n (ks212 _ _ ?_)
              refine wp_cond_t (by kernel_rfl) ?_
              refine wp_skip ?_
              refine then_n (ks211 _ _ ?_)
              refine wp_seq_k fun KS213 ks213 => ?_
              refine wp_block ?_
              refine wp_seq_k fun KS214 ks214 => ?_
              refine wp_regS (l := [0, 1, 2, 3, 4]) (by kernel_rfl) fun KR kr => ?_
              refine wpS.take 0 false (some 18) (.int .i64 z10) (by kernel_rfl) (yld fun _ => by kernel_rfl) ?_
              obtain ⟨r12, hg, h⟩ := of_bind h
              refine wpS.only 1 (op_call (d := (some 19)) (by kernel_rfl) hs (fun _ => by kernel_rfl) (ref21_turned.ok hg _) ?_)
              intro w gw hs
              refine ⟨fun _ => trivial, ?_⟩
              refine wpS.take 2 false (some 20) (.int .i64 (imul .i64 2 r12)) (by kernel_rfl) (yld fun _ => by kernel_rfl) ?_
              refine wpS.take 3 false (some 21) (.int .i64 (iadd .i64 (imul .i64 2 r12) 1)) (by kernel_rfl) (yld fun _ => by kernel_rfl) ?_
              obtain ⟨x13, hx, h⟩ := of_bind h
              refine wpS.take 4 false (some 8) (.int .i64 x13) (by kernel_rfl) (yld_int hx (fun _ => by kernel_rfl)) ?_
              refine wpS.fin rfl (kr _ _ ?_)
              refine then_n (ks214 _ _ ?_)
              refine wp_regG [] 17 (by kernel_rfl) (by kernel_rfl) fun KR kr => ?_
              have hs := hs.drawn1
              refine wpG.take 0 false (some 22) (.int .i64 z9) (by kernel_rfl) (by kernel_rfl) (yld fun _ => by kernel_rfl) ?_
              refine wpG.take 1 false (some 23) (.int .i64 z10) (by kernel_rfl) (by kernel_rfl) (yld fun _ => by kernel_rfl) ?_
              obtain ⟨h0, h⟩ := of_chk h
              obtain ⟨h1, h⟩ := of_chk h
              refine wpG.take 2 false (some 24) (.pointer (some ⟨b1, 0 + (z10 : Int).toNat * 1, none⟩)) (by kernel_rfl) (by kernel_rfl) (yld_idx (t := 23) (e := 21) (n := 256) (sz := 1) (k := .i64) (x := z10) (by kernel_rfl) (by kernel_rfl) (by kernel_rfl) h0 h1) ?_
              refine wpG.take 3 true (some 25) (.int .i32 (rd a0 z10)) (by kernel_rfl) (by kernel_rfl) (yld_loadA (e := 21) (x := z10) hs 3 rfl (by kernel_rfl) (by kernel_rfl) h0 h1) ?_
              refine wpG.take 4 false (some 26) (.int .i64 (iconv .i64 (rd a0 z10))) (by kernel_rfl) (by kernel_rfl) (yld fun _ => by kernel_rfl) ?_
              refine wpG.take 5 false (some 27) (.int .i64 x13) (by kernel_rfl) (by kernel_rfl) (yld fun _ => by kernel_rfl) ?_
              refine wpG.take 6 false (some 28) (.int .i64 z6) (by kernel_rfl) (by kernel_rfl) (yld fun _ => by kernel_rfl) ?_
              refine wpG.take 7 false (some 29) (.int .i64 (imul .i64 x13 z6)) (by kernel_rfl) (by kernel_rfl) (yld fun _ => by kernel_rfl) ?_
              refine wpG.take 8 false (some 30) (.int .i64 (irem .i64 (imul .i64 x13 z6) 512)) (by kernel_rfl) (by kernel_rfl) (yld fun _ => by kernel_rfl) ?_
              refine wpG.take 9 false (some 31) (.int .i64 (isub .i64 512 (irem .i64 (imul .i64 x13 z6) 512))) (by kernel_rfl) (by kernel_rfl) (yld fun _ => by kernel_rfl) ?_
              refine wpG.take 10 false (some 32) (.int .i64 (irem .i64 (isub .i64 512 (irem .i64 (imul .i64 x13 z6) 512)) 512)) (by kernel_rfl) (by kernel_rfl) (yld fun _ => by kernel_rfl) ?_
              obtain ⟨x14, hx, h⟩ := of_bind h
              have hx := of_some hx
              subst hx
              obtain ⟨h0, h⟩ := of_chk h
              obtain ⟨h1, h⟩ := of_chk h
              refine wpG.take 11 false (some 33) (.pointer (some ⟨b4, 0 + ((irem .i64 (isub .i64 512 (irem .i64 (imul .i64 x13 z6) 512)) 512) : Int).toNat * 1, none⟩)) (by kernel_rfl) (by kernel_rfl) (yld_idx (t := 52) (e := 2) (n := 512) (sz := 1) (k := .i64) (x := (irem .i64 (isub .i64 512 (irem .i64 (imul .i64 x13 z6) 512)) 512)) (by kernel_rfl) (by kernel_rfl) (by kernel_rfl) h0 h1) ?_
              refine wpG.take 12 true (some 34) (.int .i64 (rd r3 (irem .i64 (isub .i64 512 (irem .i64 (imul .i64 x13 z6) 512)) 512))) (by kernel_rfl) (by kernel_rfl) (yld_loadA (e := 2) (x := (irem .i64 (isub .i64 512 (irem .i64 (imul .i64 x13 z6) 512)) 512)) hs 1 rfl (by kernel_rfl) (by kernel_rfl) h0 h1) ?_
              refine wpG.take 13 false (some 35) (.int .i64 (imul .i64 (iconv .i64 (rd a0 z10)) (rd r3 (irem .i64 (isub .i64 512 (irem .i64 (imul .i64 x13 z6) 512)) 512)))) (by kernel_rfl) (by kernel_rfl) (yld fun _ => by kernel_rfl) ?_
              refine wpG.take 14 false (some 36) (.int .i64 (irem .i64 (imul .i64 (iconv .i64 (rd a0 z10)) (rd r3 (irem .i64 (isub .i64 512 (irem .i64 (imul .i64 x13 z6) 512)) 512))) 8380417)) (by kernel_rfl) (by kernel_rfl) (yld fun _ => by kernel_rfl) ?_
              refine wpG.take 15 false (some 37) (.int .i64 (iadd .i64 z9 (irem .i64 (imul .i64 (iconv .i64 (rd a0 z10)) (rd r3 (irem .i64 (isub .i64 512 (irem .i64 (imul .i64 x13 z6) 512)) 512))) 8380417))) (by kernel_rfl) (by kernel_rfl) (yld fun _ => by kernel_rfl) ?_
              obtain ⟨x15, hx, h⟩ := of_bind h
              refine wpG.take 16 false (some 6) (.int .i64 x15) (by kernel_rfl) (by kernel_rfl) (yld_int hx (fun _ => by kernel_rfl)) ?_
              refine wpG.fin (by kernel_rfl) rfl (kr _ _ ?_)
              refine inBlock_n ?_
              refine then_n (ks213 _ _ ?_)
              refine wp_regS (l := [0, 1, 2]) (by kernel_rfl) fun KR kr => ?_
              refine wpS.take 0 false (some 16) (.int .i64 z10) (by kernel_rfl) (yld fun _ => by kernel_rfl) ?_
              refine wpS.take 1 false (some 17) (.int .i64 (iadd .i64 z10 1)) (by kernel_rfl) (yld fun _ => by kernel_rfl) ?_
              obtain ⟨x16, hx, h⟩ := of_bind h
              refine wpS.take 2 false (some 7) (.int .i64 x16) (by kernel_rfl) (yld_int hx (fun _ => by kernel_rfl)) ?_
              refine wpS.fin rfl (kr _ _ ?_)
              exact then_n (kl1 _ _ ⟨n, Nat.lt_succ_self n, x15, x16, h, (hs.conv rfl), exg (by kernel_rfl)⟩)
            · refine wpS.take 1 false (some 15) (.bool false) (by kernel_rfl) (yld_b (df hc) (fun _ => by kernel_rfl)) ?_
              refine wpS.fin rfl (kr _ _ ?_)
              refine then_n (ks212 _ _ ?_)
              refine wp_cond_f (by kernel_rfl) ?_
              refine wp_exit ?_
              refine then_x ?_
              refine then_x ?_
              refine inBlock_hit ?_
              have q0 := of_some h
              subst q0
              exact exq_n (nn1 _ _ ⟨(hs.conv rfl), exg (by kernel_rfl)⟩)
        · clear hs h hy
          rintro a w ⟨hs, g, rfl⟩
          have h := hk1
          refine then_n (ks203 _ _ ?_)
          refine wp_regS (l := [0, 1, 2, 3, 4, 5, 6, 7]) (by kernel_rfl) fun KR kr => ?_
          refine wpS.take 0 false (some 38) (.int .i64 z6) (by kernel_rfl) (yld fun _ => by kernel_rfl) ?_
          refine wpS.take 1 false (some 39) (.int .i64 y11) (by kernel_rfl) (yld fun _ => by kernel_rfl) ?_
          refine wpS.take 2 false (some 40) (.int .i64 (irem .i64 y11 8380417)) (by kernel_rfl) (yld fun _ => by kernel_rfl) ?_
          refine wpS.take 3 false (some 41) (.int .i64 (imul .i64 (irem .i64 y11 8380417) 8347681)) (by kernel_rfl) (yld fun _ => by kernel_rfl) ?_
          refine wpS.take 4 false (some 42) (.int .i64 (irem .i64 (imul .i64 (irem .i64 y11 8380417) 8347681) 8380417)) (by kernel_rfl) (yld fun _ => by kernel_rfl) ?_
          refine wpS.take 5 false (some 43) (.int .i32 (iconv .i32 (irem .i64 (imul .i64 (irem .i64 y11 8380417) 8347681) 8380417))) (by kernel_rfl) (yld fun _ => by kernel_rfl) ?_
          obtain ⟨h0, h⟩ := of_chk h
          obtain ⟨h1, h⟩ := of_chk h
          refine wpS.take 6 false (some 44) (.pointer (some ⟨b5, 0 + (z6 : Int).toNat * 1, none⟩)) (by kernel_rfl) (yld_idx (t := 23) (e := 21) (n := 256) (sz := 1) (k := .i64) (x := z6) (by kernel_rfl) (by kernel_rfl) (by kernel_rfl) h0 h1) ?_
          obtain ⟨x17, hx, h⟩ := of_bind h
          refine wpS.only 7 (op_storeA (t := 21) (x := z6) (v := x17) (d := none) (by kernel_rfl) hs 0 rfl (by cases hx; kernel_rfl) (by kernel_rfl) h0 h1 ?_)
          intro w hs
          refine ⟨fun _ => trivial, ?_⟩
          refine wpS.fin rfl (kr _ _ ?_)
          refine inBlock_n ?_
          refine then_n (ks190 _ _ ?_)
          refine wp_regS (l := [0, 1, 2]) (by kernel_rfl) fun KR kr => ?_
          refine wpS.take 0 false (some 12) (.int .i64 z6) (by kernel_rfl) (yld fun _ => by kernel_rfl) ?_
          refine wpS.take 1 false (some 13) (.int .i64 (iadd .i64 z6 1)) (by kernel_rfl) (yld fun _ => by kernel_rfl) ?_
          obtain ⟨x18, hx, h⟩ := of_bind h
          refine wpS.take 2 false (some 5) (.int .i64 x18) (by kernel_rfl) (yld_int hx (fun _ => by kernel_rfl)) ?_
          refine wpS.fin rfl (kr _ _ ?_)
          exact then_n (kl0 _ _ ⟨n, Nat.lt_succ_self n, x18, (wr z7 z6 x17), h, (hs.conv rfl), exg (by kernel_rfl)⟩)
      · refine wpS.take 1 false (some 11) (.bool false) (by kernel_rfl) (yld_b (df hc) (fun _ => by kernel_rfl)) ?_
        refine wpS.fin rfl (kr _ _ ?_)
        refine then_n (ks165 _ _ ?_)
        refine wp_cond_f (by kernel_rfl) ?_
        refine wp_exit ?_
        refine then_x ?_
        refine then_x ?_
        refine inBlock_hit ?_
        have q0 := of_some h
        subst q0
        exact exq_n (nn0 _ _ ⟨(hs.conv rfl), exg (by kernel_rfl)⟩)
  · clear hs h hy
    rintro a w ⟨hs, g, rfl⟩
    have h := hk0
    refine then_n (ks109 _ _ ?_)
    refine wp_seq_k fun KS215 ks215 => ?_
    refine wp_regS (l := [0, 1]) (by kernel_rfl) fun KR kr => ?_
    refine wpS.take 0 true (some 45) (.agg (enc .i32 y8).toArray) (by kernel_rfl) (yld_loadW (e := 23) (n := 256) hs 0 rfl (by kernel_rfl) (by kernel_rfl) (by kernel_rfl) (by exact enc_len _ _)) ?_
    refine wpS.only 1 (op_storeW (t := 23) (v := .agg (enc .i32 y8).toArray) (d := none) (by kernel_rfl) hs 2 rfl (vs := enc .i32 y8) (n := 256) (by kernel_rfl) (by kernel_rfl) (by kernel_rfl) (by simp [enc_len]) (by simp [enc_len]) (by intro u hu; exact enc_one _ _ u hu) ?_)
    intro w hs
    refine ⟨fun _ => trivial, ?_⟩
    refine wpS.fin rfl (kr _ _ ?_)
    refine then_n (ks215 _ _ ?_)
    refine wp_ret ?_
    have q0 := of_some h
    subst q0
    exact qq _ _ (post_ret (by kernel_rfl) (run_results [.cell 2 23] [.agg (enc .i32 y8).toArray] (by kernel_rfl) (.cons (res_cellN (n := 256) hs 2 rfl (by kernel_rfl) (by kernel_rfl) (by kernel_rfl) (by exact enc_len _ _)) .nil)) ⟨congrArg Ending.returned (by kernel_rfl), hs.none⟩)

theorem zq_Mul.ok {K : Nat} {a0 : Arr 256} {a1 : Arr 256} {r0 : Arr 256} (h : zq_Mul.f K a0 a1 = some r0) (w0 : World) : Ret Try.prog 30 #[.agg (enc .i32 a0).toArray, .agg (enc .i32 a1).toArray] w0 (.agg (enc .i32 r0).toArray) := by
  refine calls_k Try.func30 rfl fun Q qq => ?_
  have hs := St.start w0
  refine wp_conv (a' := ⟨#[.agg (enc .i32 a0).toArray, .agg (enc .i32 a1).toArray, undef, undef, undef, undef, undef, undef, undef, undef, undef, undef, undef, undef, undef, undef, undef, undef, undef, undef], []⟩) (by kernel_rfl) ?_
  refine wp_seq_k fun KS1 ks1 => ?_
  refine wp_regS (l := [0, 1, 2]) (by kernel_rfl) fun KR kr => ?_
  refine wpS.only 0 (op_box (t := 23) (v := .agg (enc .i32 a0).toArray) (d := (some 2)) (by kernel_rfl) hs (enc .i32 a0) (by kernel_rfl) (by kernel_rfl) ?_)
  intro b1 w gw hs
  refine ⟨fun _ => trivial, ?_⟩
  refine wpS.only 1 (op_box (t := 23) (v := .agg (enc .i32 a1).toArray) (d := (some 3)) (by kernel_rfl) hs (enc .i32 a1) (by kernel_rfl) (by kernel_rfl) ?_)
  intro b2 w gw hs
  refine ⟨fun _ => trivial, ?_⟩
  refine wpS.only 2 (op_alloc (t := 23) (d := (some 4)) (by kernel_rfl) hs (enc .i32 (zeroA 256)) (.agg (enc .i32 (zeroA 256)).toArray) (by kernel_rfl) (by kernel_rfl) (by kernel_rfl) ?_)
  intro b3 w gw hs
  refine ⟨fun _ => trivial, ?_⟩
  refine wpS.fin rfl (kr _ _ ?_)
  refine then_n (ks1 _ _ ?_)
  refine wp_seq_k fun KS13 ks13 => ?_
  refine wp_seq_k fun KS14 ks14 => ?_
  refine wp_regS (l := [0]) (by kernel_rfl) fun KR kr => ?_
  refine wpS.take 0 false (some 6) (.int .i64 0) (by kernel_rfl) (yld fun _ => by kernel_rfl) ?_
  refine wpS.fin rfl (kr _ _ ?_)
  refine then_n (ks14 _ _ ?_)
  obtain ⟨y6, hy, hk0⟩ := of_bind h
  refine wp_exq (N := fun a w => St w0 [] [.blk b3 (enc .i32 (zeroA 256)) 23, .blk b2 (enc .i32 a1) 23, .blk b1 (enc .i32 y6) 23] [] w ∧ ∃ g : Nat → Value, a = ⟨#[.agg (enc .i32 a0).toArray, .agg (enc .i32 a1).toArray, .pointer (some ⟨b1, 0, none⟩), .pointer (some ⟨b2, 0, none⟩), .pointer (some ⟨b3, 0, none⟩), (g 5), (g 6), (g 7), (g 8), (g 9), (g 10), (g 11), (g 12), (g 13), (g 14), (g 15), (g 16), (g 17), (g 18), undef], []⟩) (fun N0 nn0 => ?_) ?_
  · clear hk0
    refine wp_block ?_
    refine wp_loop_k (fun n a w => ∃ z4 z5, zq_Mul.l0 K n a1 z4 z5 = some y6 ∧ St w0 [] [.blk b3 (enc .i32 (zeroA 256)) 23, .blk b2 (enc .i32 a1) 23, .blk b1 (enc .i32 z5) 23] [] w ∧ ∃ g : Nat → Value, a = ⟨#[.agg (enc .i32 a0).toArray, .agg (enc .i32 a1).toArray, .pointer (some ⟨b1, 0, none⟩), .pointer (some ⟨b2, 0, none⟩), .pointer (some ⟨b3, 0, none⟩), (g 5), .int .i64 z4, (g 7), (g 8), (g 9), (g 10), (g 11), (g 12), (g 13), (g 14), (g 15), (g 16), (g 17), (g 18), undef], []⟩) K ⟨0, a0, hy, hs.conv rfl, exg (by kernel_rfl)⟩ ?_
    clear hs h hy
    rintro n a w ⟨z4, z5, h, hs, g, rfl⟩ KL0 kl0
    cases n with
    | zero => exact nomatch (show none = some _ from h)
    | succ n =>
      refine wp_seq_k fun KS20 ks20 => ?_
      refine wp_regS (l := [0]) (by kernel_rfl) fun KR kr => ?_
      rcases of_if h with ⟨hc, h⟩ | ⟨hc, h⟩
      · refine wpS.take 0 false (some 7) (.bool true) (by kernel_rfl) (yld_b (dt hc) (fun _ => by kernel_rfl)) ?_
        refine wpS.fin rfl (kr _ _ ?_)
        refine then_n (ks20 _ _ ?_)
        refine wp_seq_k fun KS21 ks21 => ?_
        refine wp_cond_t (by kernel_rfl) ?_
        refine wp_skip ?_
        refine then_n (ks21 _ _ ?_)
        refine wp_seq_k fun KS22 ks22 => ?_
        refine wp_block ?_
        refine wp_seq_k fun KS23 ks23 => ?_
        refine wp_regS (l := [0, 1]) (by kernel_rfl) fun KR kr => ?_
        refine wpS.take 0 false (some 8) (.int .i64 z4) (by kernel_rfl) (yld fun _ => by kernel_rfl) ?_
        refine wpS.take 1 false (some 5) (.int .i64 z4) (by kernel_rfl) (yld fun _ => by kernel_rfl) ?_
        refine wpS.fin rfl (kr _ _ ?_)
        refine then_n (ks23 _ _ ?_)
        refine wp_regG [9] 10 (by kernel_rfl) (by kernel_rfl) fun KR kr => ?_
        have hs := hs.drawn1
        refine wpG.take 0 false (some 9) (.int .i64 z4) (by kernel_rfl) (by kernel_rfl) (yld fun _ => by kernel_rfl) ?_
        refine wpG.take 1 false (some 10) (.int .i64 z4) (by kernel_rfl) (by kernel_rfl) (yld fun _ => by kernel_rfl) ?_
        obtain ⟨h0, h⟩ := of_chk h
        obtain ⟨h1, h⟩ := of_chk h
        refine wpG.take 2 false (some 11) (.pointer (some ⟨b1, 0 + (z4 : Int).toNat * 1, none⟩)) (by kernel_rfl) (by kernel_rfl) (yld_idx (t := 23) (e := 21) (n := 256) (sz := 1) (k := .i64) (x := z4) (by kernel_rfl) (by kernel_rfl) (by kernel_rfl) h0 h1) ?_
        refine wpG.take 3 true (some 12) (.int .i32 (rd z5 z4)) (by kernel_rfl) (by kernel_rfl) (yld_loadA (e := 21) (x := z4) hs 2 rfl (by kernel_rfl) (by kernel_rfl) h0 h1) ?_
        refine wpG.take 4 false (some 13) (.int .i64 z4) (by kernel_rfl) (by kernel_rfl) (yld fun _ => by kernel_rfl) ?_
        obtain ⟨h0, h⟩ := of_chk h
        obtain ⟨h1, h⟩ := of_chk h
        refine wpG.take 5 false (some 14) (.pointer (some ⟨b2, 0 + (z4 : Int).toNat * 1, none⟩)) (by kernel_rfl) (by kernel_rfl) (yld_idx (t := 23) (e := 21) (n := 256) (sz := 1) (k := .i64) (x := z4) (by kernel_rfl) (by kernel_rfl) (by kernel_rfl) h0 h1) ?_
        refine wpG.take 6 true (some 15) (.int .i32 (rd a1 z4)) (by kernel_rfl) (by kernel_rfl) (yld_loadA (e := 21) (x := z4) hs 1 rfl (by kernel_rfl) (by kernel_rfl) h0 h1) ?_
        obtain ⟨r7, hg, h⟩ := of_bind h
        refine wpG.only 7 (by kernel_rfl) (op_call (d := (some 16)) (by kernel_rfl) hs (fun _ => by kernel_rfl) (zq_times.ok hg _) ?_)
        intro w gw hs
        refine ⟨fun _ => gw, ?_⟩
        obtain ⟨h0, h⟩ := of_chk h
        obtain ⟨h1, h⟩ := of_chk h
        refine wpG.take 8 false (some 17) (.pointer (some ⟨b1, 0 + (z4 : Int).toNat * 1, none⟩)) (by kernel_rfl) (by kernel_rfl) (yld_idx (t := 23) (e := 21) (n := 256) (sz := 1) (k := .i64) (x := z4) (by kernel_rfl) (by kernel_rfl) (by kernel_rfl) h0 h1) ?_
        refine wpG.only 9 (by kernel_rfl) (op_storeA (t := 21) (x := z4) (v := r7) (d := none) (by kernel_rfl) hs 2 rfl (by kernel_rfl /-v-/) (by kernel_rfl) h0 h1 ?_)
        intro w hs
        refine ⟨fun hf => absurd hf (by decide), ?_⟩
        refine wpG.fin (by kernel_rfl) rfl (kr _ _ ?_)
        refine inBlock_n ?_
        refine then_n (ks22 _ _ ?_)
        refine wp_regS (l := [0, 1]) (by kernel_rfl) fun KR kr => ?_
        refine wpS.take 0 false (some 18) (.int .i64 (iadd .i64 z4 1)) (by kernel_rfl) (yld fun _ => by kernel_rfl) ?_
        refine wpS.take 1 false (some 6) (.int .i64 (iadd .i64 z4 1)) (by kernel_rfl) (yld fun _ => by kernel_rfl) ?_
        refine wpS.fin rfl (kr _ _ ?_)
        exact then_n (kl0 _ _ ⟨n, Nat.lt_succ_self n, (iadd .i64 z4 1), (wr z5 z4 r7), h, (hs.conv rfl), exg (by kernel_rfl)⟩)
      · refine wpS.take 0 false (some 7) (.bool false) (by kernel_rfl) (yld_b (df hc) (fun _ => by kernel_rfl)) ?_
        refine wpS.fin rfl (kr _ _ ?_)
        refine then_n (ks20 _ _ ?_)
        refine wp_seq_k fun KS24 ks24 => ?_
        refine wp_cond_f (by kernel_rfl) ?_
        refine wp_exit ?_
        refine then_x ?_
        refine then_x ?_
        refine inBlock_hit ?_
        have q0 := of_some h
        subst q0
        exact exq_n (nn0 _ _ ⟨(hs.conv rfl), exg (by kernel_rfl)⟩)
  · clear hs h hy
    rintro a w ⟨hs, g, rfl⟩
    have h := hk0
    refine then_n (ks13 _ _ ?_)
    refine wp_seq_k fun KS25 ks25 => ?_
    refine wp_regS (l := [0, 1]) (by kernel_rfl) fun KR kr => ?_
    refine wpS.take 0 true (some 19) (.agg (enc .i32 y6).toArray) (by kernel_rfl) (yld_loadW (e := 23) (n := 256) hs 2 rfl (by kernel_rfl) (by kernel_rfl) (by kernel_rfl) (by exact enc_len _ _)) ?_
    refine wpS.only 1 (op_storeW (t := 23) (v := .agg (enc .i32 y6).toArray) (d := none) (by kernel_rfl) hs 0 rfl (vs := enc .i32 y6) (n := 256) (by kernel_rfl) (by kernel_rfl) (by kernel_rfl) (by simp [enc_len]) (by simp [enc_len]) (by intro u hu; exact enc_one _ _ u hu) ?_)
    intro w hs
    refine ⟨fun _ => trivial, ?_⟩
    refine wpS.fin rfl (kr _ _ ?_)
    refine then_n (ks25 _ _ ?_)
    refine wp_ret ?_
    have q0 := of_some h
    subst q0
    exact qq _ _ (post_ret (by kernel_rfl) (run_results [.cell 4 23] [.agg (enc .i32 y6).toArray] (by kernel_rfl) (.cons (res_cellN (n := 256) hs 0 rfl (by kernel_rfl) (by kernel_rfl) (by kernel_rfl) (by exact enc_len _ _)) .nil)) ⟨congrArg Ending.returned (by kernel_rfl), hs.none⟩)

theorem ref21_Mul.ok {K : Nat} {a0 : Arr 256} {a1 : Arr 256} {r0 : Arr 256} (h : ref21_Mul.f K a0 a1 = some r0) (w0 : World) : Ret Try.prog 31 #[.agg (enc .i32 a0).toArray, .agg (enc .i32 a1).toArray] w0 (.agg (enc .i32 r0).toArray) := by
  refine calls_k Try.func31 rfl fun Q qq => ?_
  have hs := St.start w0
  refine wp_conv (a' := ⟨#[.agg (enc .i32 a0).toArray, .agg (enc .i32 a1).toArray, undef, undef, undef, undef, undef, undef, undef, undef, undef, undef, undef, undef, undef, undef, undef, undef, undef, undef, undef, undef, undef, undef], []⟩) (by kernel_rfl) ?_
  refine wp_seq_k fun KS1 ks1 => ?_
  refine wp_regS (l := [0, 1, 2]) (by kernel_rfl) fun KR kr => ?_
  refine wpS.only 0 (op_box (t := 23) (v := .agg (enc .i32 a0).toArray) (d := (some 2)) (by kernel_rfl) hs (enc .i32 a0) (by kernel_rfl) (by kernel_rfl) ?_)
  intro b1 w gw hs
  refine ⟨fun _ => trivial, ?_⟩
  refine wpS.only 1 (op_box (t := 23) (v := .agg (enc .i32 a1).toArray) (d := (some 3)) (by kernel_rfl) hs (enc .i32 a1) (by kernel_rfl) (by kernel_rfl) ?_)
  intro b2 w gw hs
  refine ⟨fun _ => trivial, ?_⟩
  refine wpS.only 2 (op_alloc (t := 23) (d := (some 4)) (by kernel_rfl) hs (enc .i32 (zeroA 256)) (.agg (enc .i32 (zeroA 256)).toArray) (by kernel_rfl) (by kernel_rfl) (by kernel_rfl) ?_)
  intro b3 w gw hs
  refine ⟨fun _ => trivial, ?_⟩
  refine wpS.fin rfl (kr _ _ ?_)
  refine then_n (ks1 _ _ ?_)
  refine wp_seq_k fun KS11 ks11 => ?_
  refine wp_seq_k fun KS12 ks12 => ?_
  refine wp_regS (l := [0]) (by kernel_rfl) fun KR kr => ?_
  refine wpS.take 0 false (some 5) (.int .i64 0) (by kernel_rfl) (yld fun _ => by kernel_rfl) ?_
  refine wpS.fin rfl (kr _ _ ?_)
  refine then_n (ks12 _ _ ?_)
  obtain ⟨y6, hy, hk0⟩ := of_bind h
  refine wp_exq (N := fun a w => St w0 [] [.blk b3 (enc .i32 (zeroA 256)) 23, .blk b2 (enc .i32 a1) 23, .blk b1 (enc .i32 y6) 23] [] w ∧ ∃ g : Nat → Value, a = ⟨#[.agg (enc .i32 a0).toArray, .agg (enc .i32 a1).toArray, .pointer (some ⟨b1, 0, none⟩), .pointer (some ⟨b2, 0, none⟩), .pointer (some ⟨b3, 0, none⟩), (g 5), (g 6), (g 7), (g 8), (g 9), (g 10), (g 11), (g 12), (g 13), (g 14), (g 15), (g 16), (g 17), (g 18), (g 19), (g 20), (g 21), (g 22), undef], []⟩) (fun N0 nn0 => ?_) ?_
  · clear hk0
    refine wp_block ?_
    refine wp_loop_k (fun n a w => ∃ z4 z5, ref21_Mul.l0 K n a1 z4 z5 = some y6 ∧ St w0 [] [.blk b3 (enc .i32 (zeroA 256)) 23, .blk b2 (enc .i32 a1) 23, .blk b1 (enc .i32 z5) 23] [] w ∧ ∃ g : Nat → Value, a = ⟨#[.agg (enc .i32 a0).toArray, .agg (enc .i32 a1).toArray, .pointer (some ⟨b1, 0, none⟩), .pointer (some ⟨b2, 0, none⟩), .pointer (some ⟨b3, 0, none⟩), .int .i64 z4, (g 6), (g 7), (g 8), (g 9), (g 10), (g 11), (g 12), (g 13), (g 14), (g 15), (g 16), (g 17), (g 18), (g 19), (g 20), (g 21), (g 22), undef], []⟩) K ⟨0, a0, hy, hs.conv rfl, exg (by kernel_rfl)⟩ ?_
    clear hs h hy
    rintro n a w ⟨z4, z5, h, hs, g, rfl⟩ KL0 kl0
    cases n with
    | zero => exact nomatch (show none = some _ from h)
    | succ n =>
      refine wp_seq_k fun KS18 ks18 => ?_
      refine wp_seq_k fun KS19 ks19 => ?_
      refine wp_regS (l := [0, 1]) (by kernel_rfl) fun KR kr => ?_
      refine wpS.take 0 false (some 6) (.int .i64 z4) (by kernel_rfl) (yld fun _ => by kernel_rfl) ?_
      rcases of_if h with ⟨hc, h⟩ | ⟨hc, h⟩
      · refine wpS.take 1 false (some 7) (.bool true) (by kernel_rfl) (yld_b (dt hc) (fun _ => by kernel_rfl)) ?_
        refine wpS.fin rfl (kr _ _ ?_)
        refine then_n (ks19 _ _ ?_)
        refine wp_cond_t (by kernel_rfl) ?_
        refine wp_skip ?_
        refine then_n (ks18 _ _ ?_)
        refine wp_seq_k fun KS20 ks20 => ?_
        refine wp_block ?_
        refine wp_regG [13] 14 (by kernel_rfl) (by kernel_rfl) fun KR kr => ?_
        have hs := hs.drawn1
        refine wpG.take 0 false (some 10) (.int .i64 z4) (by kernel_rfl) (by kernel_rfl) (yld fun _ => by kernel_rfl) ?_
        refine wpG.take 1 false (some 11) (.int .i64 z4) (by kernel_rfl) (by kernel_rfl) (yld fun _ => by kernel_rfl) ?_
        obtain ⟨h0, h⟩ := of_chk h
        obtain ⟨h1, h⟩ := of_chk h
        refine wpG.take 2 false (some 12) (.pointer (some ⟨b1, 0 + (z4 : Int).toNat * 1, none⟩)) (by kernel_rfl) (by kernel_rfl) (yld_idx (t := 23) (e := 21) (n := 256) (sz := 1) (k := .i64) (x := z4) (by kernel_rfl) (by kernel_rfl) (by kernel_rfl) h0 h1) ?_
        refine wpG.take 3 true (some 13) (.int .i32 (rd z5 z4)) (by kernel_rfl) (by kernel_rfl) (yld_loadA (e := 21) (x := z4) hs 2 rfl (by kernel_rfl) (by kernel_rfl) h0 h1) ?_
        refine wpG.take 4 false (some 14) (.int .i64 (iconv .i64 (rd z5 z4))) (by kernel_rfl) (by kernel_rfl) (yld fun _ => by kernel_rfl) ?_
        refine wpG.take 5 false (some 15) (.int .i64 z4) (by kernel_rfl) (by kernel_rfl) (yld fun _ => by kernel_rfl) ?_
        obtain ⟨h0, h⟩ := of_chk h
        obtain ⟨h1, h⟩ := of_chk h
        refine wpG.take 6 false (some 16) (.pointer (some ⟨b2, 0 + (z4 : Int).toNat * 1, none⟩)) (by kernel_rfl) (by kernel_rfl) (yld_idx (t := 23) (e := 21) (n := 256) (sz := 1) (k := .i64) (x := z4) (by kernel_rfl) (by kernel_rfl) (by kernel_rfl) h0 h1) ?_
        refine wpG.take 7 true (some 17) (.int .i32 (rd a1 z4)) (by kernel_rfl) (by kernel_rfl) (yld_loadA (e := 21) (x := z4) hs 1 rfl (by kernel_rfl) (by kernel_rfl) h0 h1) ?_
        refine wpG.take 8 false (some 18) (.int .i64 (iconv .i64 (rd a1 z4))) (by kernel_rfl) (by kernel_rfl) (yld fun _ => by kernel_rfl) ?_
        refine wpG.take 9 false (some 19) (.int .i64 (imul .i64 (iconv .i64 (rd z5 z4)) (iconv .i64 (rd a1 z4)))) (by kernel_rfl) (by kernel_rfl) (yld fun _ => by kernel_rfl) ?_
        refine wpG.take 10 false (some 20) (.int .i64 (irem .i64 (imul .i64 (iconv .i64 (rd z5 z4)) (iconv .i64 (rd a1 z4))) 8380417)) (by kernel_rfl) (by kernel_rfl) (yld fun _ => by kernel_rfl) ?_
        refine wpG.take 11 false (some 21) (.int .i32 (iconv .i32 (irem .i64 (imul .i64 (iconv .i64 (rd z5 z4)) (iconv .i64 (rd a1 z4))) 8380417))) (by kernel_rfl) (by kernel_rfl) (yld fun _ => by kernel_rfl) ?_
        obtain ⟨h0, h⟩ := of_chk h
        obtain ⟨h1, h⟩ := of_chk h
        refine wpG.take 12 false (some 22) (.pointer (some ⟨b1, 0 + (z4 : Int).toNat * 1, none⟩)) (by kernel_rfl) (by kernel_rfl) (yld_idx (t := 23) (e := 21) (n := 256) (sz := 1) (k := .i64) (x := z4) (by kernel_rfl) (by kernel_rfl) (by kernel_rfl) h0 h1) ?_
        obtain ⟨x7, hx, h⟩ := of_bind h
        refine wpG.only 13 (by kernel_rfl) (op_storeA (t := 21) (x := z4) (v := x7) (d := none) (by kernel_rfl) hs 2 rfl (by cases hx; kernel_rfl) (by kernel_rfl) h0 h1 ?_)
        intro w hs
        refine ⟨fun hf => absurd hf (by decide), ?_⟩
        refine wpG.fin (by kernel_rfl) rfl (kr _ _ ?_)
        refine inBlock_n ?_
        refine then_n (ks20 _ _ ?_)
        refine wp_regS (l := [0, 1, 2]) (by kernel_rfl) fun KR kr => ?_
        refine wpS.take 0 false (some 8) (.int .i64 z4) (by kernel_rfl) (yld fun _ => by kernel_rfl) ?_
        refine wpS.take 1 false (some 9) (.int .i64 (iadd .i64 z4 1)) (by kernel_rfl) (yld fun _ => by kernel_rfl) ?_
        obtain ⟨x8, hx, h⟩ := of_bind h
        refine wpS.take 2 false (some 5) (.int .i64 x8) (by kernel_rfl) (yld_int hx (fun _ => by kernel_rfl)) ?_
        refine wpS.fin rfl (kr _ _ ?_)
        exact then_n (kl0 _ _ ⟨n, Nat.lt_succ_self n, x8, (wr z5 z4 x7), h, (hs.conv rfl), exg (by kernel_rfl)⟩)
      · refine wpS.take 1 false (some 7) (.bool false) (by kernel_rfl) (yld_b (df hc) (fun _ => by kernel_rfl)) ?_
        refine wpS.fin rfl (kr _ _ ?_)
        refine then_n (ks19 _ _ ?_)
        refine wp_cond_f (by kernel_rfl) ?_
        refine wp_exit ?_
        refine then_x ?_
        refine then_x ?_
        refine inBlock_hit ?_
        have q0 := of_some h
        subst q0
        exact exq_n (nn0 _ _ ⟨(hs.conv rfl), exg (by kernel_rfl)⟩)
  · clear hs h hy
    rintro a w ⟨hs, g, rfl⟩
    have h := hk0
    refine then_n (ks11 _ _ ?_)
    refine wp_seq_k fun KS21 ks21 => ?_
    refine wp_regS (l := [0, 1]) (by kernel_rfl) fun KR kr => ?_
    refine wpS.take 0 true (some 23) (.agg (enc .i32 y6).toArray) (by kernel_rfl) (yld_loadW (e := 23) (n := 256) hs 2 rfl (by kernel_rfl) (by kernel_rfl) (by kernel_rfl) (by exact enc_len _ _)) ?_
    refine wpS.only 1 (op_storeW (t := 23) (v := .agg (enc .i32 y6).toArray) (d := none) (by kernel_rfl) hs 0 rfl (vs := enc .i32 y6) (n := 256) (by kernel_rfl) (by kernel_rfl) (by kernel_rfl) (by simp [enc_len]) (by simp [enc_len]) (by intro u hu; exact enc_one _ _ u hu) ?_)
    intro w hs
    refine ⟨fun _ => trivial, ?_⟩
    refine wpS.fin rfl (kr _ _ ?_)
    refine then_n (ks21 _ _ ?_)
    refine wp_ret ?_
    have q0 := of_some h
    subst q0
    exact qq _ _ (post_ret (by kernel_rfl) (run_results [.cell 4 23] [.agg (enc .i32 y6).toArray] (by kernel_rfl) (.cons (res_cellN (n := 256) hs 0 rfl (by kernel_rfl) (by kernel_rfl) (by kernel_rfl) (by exact enc_len _ _)) .nil)) ⟨congrArg Ending.returned (by kernel_rfl), hs.none⟩)

theorem zq_Times.ok {K : Nat} {a0 : Arr 256} {a1 : Arr 256} {r0 : Arr 256} (h : zq_Times.f K a0 a1 = some r0) (w0 : World) : Ret Try.prog 32 #[.agg (enc .i32 a0).toArray, .agg (enc .i32 a1).toArray] w0 (.agg (enc .i32 r0).toArray) := by
  refine calls_k Try.func32 rfl fun Q qq => ?_
  have hs := St.start w0
  refine wp_conv (a' := ⟨#[.agg (enc .i32 a0).toArray, .agg (enc .i32 a1).toArray, undef, undef, undef, undef, undef, undef, undef, undef, undef], []⟩) (by kernel_rfl) ?_
  refine wp_seq_k fun KS1 ks1 => ?_
  refine wp_regS (l := [0, 1, 2]) (by kernel_rfl) fun KR kr => ?_
  refine wpS.only 0 (op_box (t := 23) (v := .agg (enc .i32 a0).toArray) (d := (some 2)) (by kernel_rfl) hs (enc .i32 a0) (by kernel_rfl) (by kernel_rfl) ?_)
  intro b1 w gw hs
  refine ⟨fun _ => trivial, ?_⟩
  refine wpS.only 1 (op_box (t := 23) (v := .agg (enc .i32 a1).toArray) (d := (some 3)) (by kernel_rfl) hs (enc .i32 a1) (by kernel_rfl) (by kernel_rfl) ?_)
  intro b2 w gw hs
  refine ⟨fun _ => trivial, ?_⟩
  refine wpS.only 2 (op_alloc (t := 23) (d := (some 4)) (by kernel_rfl) hs (enc .i32 (zeroA 256)) (.agg (enc .i32 (zeroA 256)).toArray) (by kernel_rfl) (by kernel_rfl) (by kernel_rfl) ?_)
  intro b3 w gw hs
  refine ⟨fun _ => trivial, ?_⟩
  refine wpS.fin rfl (kr _ _ ?_)
  refine then_n (ks1 _ _ ?_)
  refine wp_seq_k fun KS2 ks2 => ?_
  refine wp_regG [6] 7 (by kernel_rfl) (by kernel_rfl) fun KR kr => ?_
  have hs := hs.drawn1
  refine wpG.take 0 true (some 5) (.agg (enc .i32 a0).toArray) (by kernel_rfl) (by kernel_rfl) (yld_loadW (e := 23) (n := 256) hs 2 rfl (by kernel_rfl) (by kernel_rfl) (by kernel_rfl) (by exact enc_len _ _)) ?_
  refine wpG.take 2 true (some 7) (.agg (enc .i32 a1).toArray) (by kernel_rfl) (by kernel_rfl) (yld_loadW (e := 23) (n := 256) hs 1 rfl (by kernel_rfl) (by kernel_rfl) (by kernel_rfl) (by exact enc_len _ _)) ?_
  obtain ⟨r4, hg, h⟩ := of_bind h
  refine wpG.only 1 (by kernel_rfl) (op_call (d := (some 6)) (by kernel_rfl) hs (fun _ => by kernel_rfl) (zq_Ntt.ok hg _) ?_)
  intro w gw hs
  refine ⟨fun _ => gw, ?_⟩
  obtain ⟨r5, hg, h⟩ := of_bind h
  refine wpG.only 3 (by kernel_rfl) (op_call (d := (some 8)) (by kernel_rfl) hs (fun _ => by kernel_rfl) (zq_Ntt.ok hg _) ?_)
  intro w gw hs
  refine ⟨fun _ => gw, ?_⟩
  obtain ⟨r6, hg, h⟩ := of_bind h
  refine wpG.only 4 (by kernel_rfl) (op_call (d := (some 9)) (by kernel_rfl) hs (fun _ => by kernel_rfl) (zq_Mul.ok hg _) ?_)
  intro w gw hs
  refine ⟨fun _ => gw, ?_⟩
  obtain ⟨r7, hg, h⟩ := of_bind h
  refine wpG.only 5 (by kernel_rfl) (op_call (d := (some 10)) (by kernel_rfl) hs (fun _ => by kernel_rfl) (zq_Back.ok hg _) ?_)
  intro w gw hs
  refine ⟨fun _ => gw, ?_⟩
  refine wpG.only 6 (by kernel_rfl) (op_storeW (t := 23) (v := .agg (enc .i32 r7).toArray) (d := none) (by kernel_rfl) hs 0 rfl (vs := enc .i32 r7) (n := 256) (by kernel_rfl) (by kernel_rfl) (by kernel_rfl) (by simp [enc_len]) (by simp [enc_len]) (by intro u hu; exact enc_one _ _ u hu) ?_)
  intro w hs
  refine ⟨fun hf => absurd hf (by decide), ?_⟩
  refine wpG.fin (by kernel_rfl) rfl (kr _ _ ?_)
  refine then_n (ks2 _ _ ?_)
  refine wp_ret ?_
  have q0 := of_some h
  subst q0
  exact qq _ _ (post_ret (by kernel_rfl) (run_results [.cell 4 23] [.agg (enc .i32 r7).toArray] (by kernel_rfl) (.cons (res_cellN (n := 256) hs 0 rfl (by kernel_rfl) (by kernel_rfl) (by kernel_rfl) (by exact enc_len _ _)) .nil)) ⟨congrArg Ending.returned (by kernel_rfl), hs.none⟩)
end Go.Proofs.Ytijahfdldlmnhaa
