/- Printed by this work's own program: the code of each function below comes to the answer that its plain form tells. -/
import Derived.Test.YtblploekkjeolaaMj
import Derived.Test.YtblploekkjeolaaProg
import Derived.Test.YtblploekkjeolaaDF0
import Derived.Test.YtblploekkjeolaaDX0
import Derived.Test.YtblploekkjeolaaDX1
import Derived.Test.YtblploekkjeolaaDX2
import Derived.Test.YtblploekkjeolaaDX3
import Derived.Test.YtblploekkjeolaaDX6
import Derived.Test.YtblploekkjeolaaDX7
set_option linter.unusedVariables false
set_option linter.unusedSimpArgs false
set_option maxRecDepth 100000
set_option maxHeartbeats 4000000
namespace Go.Proofs.Ytblploekkjeolaa
open Go.Mx
attribute [local irreducible] wpOp

theorem ref22_Pack.ok {K : Nat} {a0 : Arr 256} {a1 : Int} {a2 : Int} {r0 : List Int} (h : ref22_Pack.f K a0 a1 a2 = some r0) (w0 : World) : Calls Try.prog 26 #[.agg (enc .i32 a0).toArray, .int .i32 a1, .int .i32 a2] w0 fun e w' => ∃ h : (Option Addr × Nat × Nat), e = .returned (.slice h.1 h.2.1 h.2.2) ∧ St w0 [] [.ownL (CI .u8) h.1 h.2.1 h.2.2 r0 5] [] w' := by
  refine calls_k Try.func26 rfl fun Q qq => ?_
  have hs := St.start w0
  refine wp_conv (a' := ⟨#[.agg (enc .i32 a0).toArray, .int .i32 a1, .int .i32 a2, undef, undef, undef, undef, undef, undef, undef, undef, undef, undef, undef, undef, undef, undef, undef, undef, undef, undef, undef, undef, undef, undef, undef, undef, undef, undef, undef, undef, undef, undef, undef, undef, undef, undef, undef, undef, undef, undef, undef, undef, undef, undef, undef, undef, undef, undef, undef, undef, undef, undef, undef, undef, undef, undef, undef, undef, undef, undef], []⟩) (by kernel_rfl) ?_
  refine xseq_k fun KS1 ks1 => ?_
  refine wp_regS (l := [0, 1]) (by kernel_rfl) (by kernel_rfl) fun KR2 kr2 => ?_
  refine wpS.only 0 (op_box (t := 40) (v := .agg (enc .i32 a0).toArray) (d := (some 3)) (by kernel_rfl) hs (enc .i32 a0) (by kernel_rfl) (by kernel_rfl) ?_)
  intro b1 w gw hs
  refine ⟨fun _ => trivial, ?_⟩
  refine wpS.take 1 false (some 6) (.slice none 0 0) (by kernel_rfl) (yld fun _ => by kernel_rfl) ?_
  refine wpS.fin rfl (kr2 _ _ ?_)
  refine then_n (ks1 _ _ ?_)
  refine xseq_k fun KS9 ks9 => ?_
  refine xseq_k fun KS10 ks10 => ?_
  refine wp_regS (l := [0, 1, 2, 3, 4, 5, 6, 7, 8]) (by kernel_rfl) (by kernel_rfl) fun KR11 kr11 => ?_
  refine wpS.take 0 false (some 10) (.int .i32 a1) (by kernel_rfl) (yld fun _ => by kernel_rfl) ?_
  refine wpS.take 1 false (some 11) (.int .i32 a2) (by kernel_rfl) (yld fun _ => by kernel_rfl) ?_
  obtain ⟨r2, hg, h⟩ := of_bind h
  cases r2 with
  | true =>
    have h := of_if_t h
    refine wpS.only 2 (op_call (d := (some 12)) (by kernel_rfl) hs (fun _ => by kernel_rfl) (ref22_bounds.ok hg _) ?_)
    intro w gw hs
    refine ⟨fun _ => trivial, ?_⟩
    refine wpS.take 3 false (some 13) (.bool false) (by kernel_rfl) (yld fun _ => by kernel_rfl) ?_
    refine wpS.take 4 false (some 14) (.bool false) (by kernel_rfl) (yld fun _ => by kernel_rfl) ?_
    refine wpS.take 5 true (some 15) (.agg (enc .i32 a0).toArray) (by kernel_rfl) (yld_loadW (e := 40) (n := 256) hs 0 rfl (by kernel_rfl) (by kernel_rfl) (by kernel_rfl) (by exact enc_len _ _) .grow) ?_
    obtain ⟨r3, hg, h⟩ := of_bind h
    cases r3 with
    | true =>
      have h := of_if_t h
      refine wpS.only 6 (op_call (d := (some 16)) (by kernel_rfl) hs (fun _ => by kernel_rfl) (ref21_Fit.ok hg _) ?_)
      intro w gw hs
      refine ⟨fun _ => trivial, ?_⟩
      refine wpS.take 7 false (some 17) (.bool false) (by kernel_rfl) (yld fun _ => by kernel_rfl) ?_
      refine wpS.take 8 false (some 18) (.bool false) (by kernel_rfl) (yld fun _ => by kernel_rfl) ?_
      refine wpS.fin rfl (kr11 _ _ ?_)
      refine then_n (ks10 _ _ ?_)
      refine wp_cond_f (by kernel_rfl) ?_
      refine xskip ?_
      refine then_n (ks9 _ _ ?_)
      refine xseq_k fun KS12 ks12 => ?_
      refine wp_regS (l := [0]) (by kernel_rfl) (by kernel_rfl) fun KR13 kr13 => ?_
      refine wpS.take 0 false (some 7) (.slice none 0 0) (by kernel_rfl) (yld fun _ => by kernel_rfl) ?_
      refine wpS.fin rfl (kr13 _ _ ?_)
      refine then_n (ks12 _ _ ?_)
      refine xseq_k fun KS364 ks364 => ?_
      refine xseq_k fun KS365 ks365 => ?_
      refine wp_regS (l := [0]) (by kernel_rfl) (by kernel_rfl) fun KR366 kr366 => ?_
      refine wpS.take 0 false (some 8) (.int .i64 0) (by kernel_rfl) (yld fun _ => by kernel_rfl) ?_
      refine wpS.fin rfl (kr366 _ _ ?_)
      refine then_n (ks365 _ _ ?_)
      have hs := hs.addNilL (CI .u32) 84
      obtain ⟨t0, hy, hk0⟩ := of_bind h
      refine wp_exq (N := fun a w => ∃ y6, ∃ (y6_A : Option Addr) (y6_n : Nat) (y6_c : Nat), t0 = .inl y6 ∧ St w0 [] [.ownL (CI .u32) y6_A y6_n y6_c y6 84, .blk b1 (enc .i32 a0) 40] [] w ∧ ∃ g : Nat → Value, a = ⟨#[.agg (enc .i32 a0).toArray, .int .i32 a1, .int .i32 a2, .pointer (some ⟨b1, 0, none⟩), undef, undef, (g 6), .slice y6_A y6_n y6_c, (g 8), (g 9), .int .i32 a1, .int .i32 a2, .bool true, .bool false, .bool false, .agg (enc .i32 a0).toArray, .bool true, .bool false, .bool false, (g 19), (g 20), (g 21), (g 22), (g 23), (g 24), (g 25), (g 26), (g 27), (g 28), (g 29), (g 30), (g 31), (g 32), (g 33), (g 34), (g 35), (g 36), (g 37), (g 38), (g 39), (g 40), (g 41), (g 42), (g 43), (g 44), (g 45), (g 46), (g 47), (g 48), (g 49), (g 50), (g 51), (g 52), (g 53), (g 54), (g 55), undef, undef, undef, undef, undef], []⟩) (fun N0 nn0 => ?_) ?_
      · refine xblock ?_
        refine wp_loop_k (fun n a w => ∃ z4 z5, ∃ (z5_A : Option Addr) (z5_n : Nat) (z5_c : Nat), ref22_Pack.l0 K n a0 a1 a2 z4 z5 = some t0 ∧ St w0 [] [.ownL (CI .u32) z5_A z5_n z5_c z5 84, .blk b1 (enc .i32 a0) 40] [] w ∧ ∃ g : Nat → Value, a = ⟨#[.agg (enc .i32 a0).toArray, .int .i32 a1, .int .i32 a2, .pointer (some ⟨b1, 0, none⟩), undef, undef, (g 6), .slice z5_A z5_n z5_c, .int .i64 z4, (g 9), .int .i32 a1, .int .i32 a2, .bool true, .bool false, .bool false, .agg (enc .i32 a0).toArray, .bool true, .bool false, .bool false, (g 19), (g 20), (g 21), (g 22), (g 23), (g 24), (g 25), (g 26), (g 27), (g 28), (g 29), (g 30), (g 31), (g 32), (g 33), (g 34), (g 35), (g 36), (g 37), (g 38), (g 39), (g 40), (g 41), (g 42), (g 43), (g 44), (g 45), (g 46), (g 47), (g 48), (g 49), (g 50), (g 51), (g 52), (g 53), (g 54), (g 55), undef, undef, undef, undef, undef], []⟩) K ⟨0, ([] : List Int), none, 0, 0, hy, hs.conv rfl, exg (by kernel_rfl)⟩ ?_
        clear hs h hy
        rintro n a w ⟨z4, z5, z5_A, z5_n, z5_c, h, hs, g, rfl⟩ KL0 kl0
        cases n with
        | zero => exact nomatch (show none = some _ from h)
        | succ n =>
          refine xseq_k fun KS601 ks601 => ?_
          refine xseq_k fun KS602 ks602 => ?_
          refine wp_regS (l := [0, 1]) (by kernel_rfl) (by kernel_rfl) fun KR603 kr603 => ?_
          refine wpS.take 0 false (some 19) (.int .i64 z4) (by kernel_rfl) (yld fun _ => by kernel_rfl) ?_
          rcases of_if h with ⟨hc, h⟩ | ⟨hc, h⟩
          · refine wpS.take 1 false (some 20) (.bool true) (by kernel_rfl) (yld_b (dt hc) (fun _ => by kernel_rfl)) ?_
            refine wpS.fin rfl (kr603 _ _ ?_)
            refine then_n (ks602 _ _ ?_)
            refine wp_cond_t (by kernel_rfl) ?_
            refine xskip ?_
            refine then_n (ks601 _ _ ?_)
            refine xseq_k fun KS658 ks658 => ?_
            refine xblock ?_
            refine xseq_k fun KS659 ks659 => ?_
            refine wp_regS (l := [0, 1, 2, 3]) (by kernel_rfl) (by kernel_rfl) fun KR660 kr660 => ?_
            refine wpS.take 0 false (some 23) (.int .i64 z4) (by kernel_rfl) (yld fun _ => by kernel_rfl) ?_
            obtain ⟨i0_661, h⟩ := of_chk h
            obtain ⟨i1_661, h⟩ := of_chk h
            refine wpS.take 1 false (some 24) (.pointer (some ⟨b1, 0 + (z4 : Int).toNat * 1, none⟩)) (by kernel_rfl) (yld_idx (t := 40) (e := 21) (n := 256) (sz := 1) (k := .i64) (x := z4) (by kernel_rfl) (by kernel_rfl) (by kernel_rfl) i0_661 i1_661) ?_
            refine wpS.take 2 true (some 25) (.int .i32 (rd a0 z4)) (by kernel_rfl) (yld_loadA (e := 21) (x := z4) hs 1 rfl (by kernel_rfl) (by kernel_rfl) i0_661 i1_661 .grow) ?_
            obtain ⟨x7, hx, h⟩ := of_bind h
            refine wpS.take 3 false (some 9) (.int .i32 x7) (by kernel_rfl) (yld_int hx (fun _ => by kernel_rfl)) ?_
            refine wpS.fin rfl (kr660 _ _ ?_)
            refine then_n (ks659 _ _ ?_)
            refine xseq_k fun KS675 ks675 => ?_
            refine xseq_k fun KS676 ks676 => ?_
            refine wp_regS (l := [0, 1]) (by kernel_rfl) (by kernel_rfl) fun KR677 kr677 => ?_
            refine wpS.take 0 false (some 26) (.int .i32 a1) (by kernel_rfl) (yld fun _ => by kernel_rfl) ?_
            rcases of_if h with ⟨hc, h⟩ | ⟨hc, h⟩
            · refine wpS.take 1 false (some 27) (.bool true) (by kernel_rfl) (yld_b (dt hc) (fun _ => by kernel_rfl)) ?_
              refine wpS.fin rfl (kr677 _ _ ?_)
              refine then_n (ks676 _ _ ?_)
              refine wp_cond_t (by kernel_rfl) ?_
              refine xseq_k fun KS682 ks682 => ?_
              refine xseq_k fun KS683 ks683 => ?_
              refine wp_regS (l := [0, 1, 2]) (by kernel_rfl) (by kernel_rfl) fun KR684 kr684 => ?_
              refine wpS.take 0 false (some 28) (.int .i32 x7) (by kernel_rfl) (yld fun _ => by kernel_rfl) ?_
              refine wpS.take 1 false (some 29) (.int .i32 a2) (by kernel_rfl) (yld fun _ => by kernel_rfl) ?_
              rcases of_if h with ⟨hc, h⟩ | ⟨hc, h⟩
              · refine wpS.take 2 false (some 30) (.bool true) (by kernel_rfl) (yld_b (dt hc) (fun _ => by kernel_rfl)) ?_
                refine wpS.fin rfl (kr684 _ _ ?_)
                refine then_n (ks683 _ _ ?_)
                refine wp_cond_t (by kernel_rfl) ?_
                refine xseq_k fun KS685 ks685 => ?_
                refine wp_regS (l := [0]) (by kernel_rfl) (by kernel_rfl) fun KR686 kr686 => ?_
                refine wpS.take 0 false (some 6) (.slice none 0 0) (by kernel_rfl) (yld fun _ => by kernel_rfl) ?_
                refine wpS.fin rfl (kr686 _ _ ?_)
                refine then_n (ks685 _ _ ?_)
                refine xret ?_
                refine then_r ?_
                refine then_r ?_
                refine inBlock_r ?_
                refine then_r ?_
                refine then_r ?_
                refine inBlock_r ?_
                refine exq_r ?_
                refine then_r ?_
                have q0 := of_some h
                subst q0
                have q0 := of_some hk0
                subst q0
                have hs := hs.addNilL (CI .u8) 5
                exact qq _ _ (post_ret (by kernel_rfl) (run_results [.tmp 6] [.slice none 0 0] (by kernel_rfl) (.cons (res_tmp (by kernel_rfl)) .nil)) ⟨⟨none, 0, 0⟩, congrArg Ending.returned (by kernel_rfl), ((hs.conv (L' := [.ownL (CI .u8) none 0 0 ([] : List Int) 5, .ownL (CI .u32) z5_A z5_n z5_c z5 84, .blk b1 (enc .i32 a0) 40]) rfl).drop (.cons_cons _ (.cons _ (.cons _ .slnil))))⟩)
              · refine wpS.take 2 false (some 30) (.bool false) (by kernel_rfl) (yld_b (df hc) (fun _ => by kernel_rfl)) ?_
                refine wpS.fin rfl (kr684 _ _ ?_)
                refine then_n (ks683 _ _ ?_)
                refine wp_cond_f (by kernel_rfl) ?_
                refine xskip ?_
                refine then_n (ks682 _ _ ?_)
                refine xseq_k fun KS687 ks687 => ?_
                refine wp_regS (l := [0, 1, 2, 3, 4, 5]) (by kernel_rfl) (by kernel_rfl) fun KR688 kr688 => ?_
                refine wpS.take 0 false (some 31) (.slice z5_A z5_n z5_c) (by kernel_rfl) (yld fun _ => by kernel_rfl) ?_
                refine wpS.take 1 false (some 32) (.int .i32 x7) (by kernel_rfl) (yld fun _ => by kernel_rfl) ?_
                refine wpS.take 2 false (some 33) (.int .u32 (iconv .u32 x7)) (by kernel_rfl) (yld fun _ => by kernel_rfl) ?_
                refine wpS.only 3 (op_lit (C := (CI .u32)) (t := 82) (e := 84) (len := 1) (parts := #[(0, .int .u32 (iconv .u32 x7))]) (l := [(iconv .u32 x7)]) (d := (some 34)) (by kernel_rfl) hs (by kernel_rfl) (by kernel_rfl) (by kernel_rfl) (z := .int .u32 0) (by kernel_rfl) rfl (by decide) (by decide) (by kernel_rfl) ?_)
                intro s8_A s8_n s8_c w gw hs
                refine ⟨fun _ => trivial, ?_⟩
                obtain ⟨h0, h⟩ := of_chk h
                refine wpS.only 4 (op_appendT (C := (CI .u32)) (t := 82) (ty := 82) (e := 84) (bytes := 4) (B := 35184372088832) (d := (some 35)) (by kernel_rfl) hs 1 rfl (hs.rowL 0 rfl) (by kernel_rfl) (by kernel_rfl) (by kernel_rfl) (by kernel_rfl) (by kernel_rfl) h0 (by decide) (by decide) ?_)
                intro s9_A s9_n s9_c w hs
                refine ⟨fun _ => trivial, ?_⟩
                refine wpS.take 5 false (some 7) (.slice s9_A s9_n s9_c) (by kernel_rfl) (yld fun _ => by kernel_rfl) ?_
                refine wpS.fin rfl (kr688 _ _ ?_)
                refine then_n (ks687 _ _ ?_)
                refine xexit ?_
                refine then_x ?_
                refine inBlock_hit ?_
                refine then_n (ks658 _ _ ?_)
                refine wp_regS (l := [0, 1, 2]) (by kernel_rfl) (by kernel_rfl) fun KR689 kr689 => ?_
                refine wpS.take 0 false (some 21) (.int .i64 z4) (by kernel_rfl) (yld fun _ => by kernel_rfl) ?_
                refine wpS.take 1 false (some 22) (.int .i64 (iadd .i64 z4 1)) (by kernel_rfl) (yld fun _ => by kernel_rfl) ?_
                obtain ⟨x10, hx, h⟩ := of_bind h
                refine wpS.take 2 false (some 8) (.int .i64 x10) (by kernel_rfl) (yld_int hx (fun _ => by kernel_rfl)) ?_
                refine wpS.fin rfl (kr689 _ _ ?_)
                exact then_n (kl0 _ _ ⟨n, Nat.lt_succ_self n, x10, (z5 ++ ([(iconv .u32 x7)] : List Int)), s9_A, s9_n, s9_c, h, ((hs.conv (L' := [.ownL (CI .u32) s8_A s8_n s8_c ([(iconv .u32 x7)] : List Int) 84, .ownL (CI .u32) s9_A s9_n s9_c (z5 ++ ([(iconv .u32 x7)] : List Int)) 84, .blk b1 (enc .i32 a0) 40]) rfl).drop (.cons _ (.cons_cons _ (.cons_cons _ .slnil)))), exg (by kernel_rfl)⟩)
            · refine wpS.take 1 false (some 27) (.bool false) (by kernel_rfl) (yld_b (df hc) (fun _ => by kernel_rfl)) ?_
              refine wpS.fin rfl (kr677 _ _ ?_)
              refine then_n (ks676 _ _ ?_)
              refine wp_cond_f (by kernel_rfl) ?_
              refine xskip ?_
              refine then_n (ks675 _ _ ?_)
              obtain ⟨y11, hj, h⟩ := of_bind h
              refine xseq_k fun KS714 ks714 => wp_join (N := fun a w => St w0 [] [.ownL (CI .u32) z5_A z5_n z5_c z5 84, .blk b1 (enc .i32 a0) 40] [] w ∧ ∃ g : Nat → Value, a = ⟨#[.agg (enc .i32 a0).toArray, .int .i32 a1, .int .i32 a2, .pointer (some ⟨b1, 0, none⟩), undef, undef, (g 6), .slice z5_A z5_n z5_c, .int .i64 z4, .int .i32 y11, .int .i32 a1, .int .i32 a2, .bool true, .bool false, .bool false, .agg (enc .i32 a0).toArray, .bool true, .bool false, .bool false, .int .i64 z4, .bool true, (g 21), (g 22), .int .i64 z4, .pointer (some ⟨b1, 0 + (z4 : Int).toNat * 1, none⟩), .int .i32 (rd a0 z4), .int .i32 a1, .bool false, (g 28), (g 29), (g 30), (g 31), (g 32), (g 33), (g 34), (g 35), (g 36), (g 37), (g 38), (g 39), (g 40), (g 41), (g 42), (g 43), (g 44), (g 45), (g 46), (g 47), (g 48), (g 49), (g 50), (g 51), (g 52), (g 53), (g 54), (g 55), undef, undef, undef, undef, undef], []⟩) (fun N nj => ?_) ?_
              · clear h
                have h := hj
                refine xseq_k fun KS696 ks696 => ?_
                refine wp_regS (l := [0, 1]) (by kernel_rfl) (by kernel_rfl) fun KR697 kr697 => ?_
                refine wpS.take 0 false (some 36) (.int .i32 x7) (by kernel_rfl) (yld fun _ => by kernel_rfl) ?_
                rcases of_if h with ⟨hc, h⟩ | ⟨hc, h⟩
                · refine wpS.take 1 false (some 37) (.bool true) (by kernel_rfl) (yld_b (dt hc) (fun _ => by kernel_rfl)) ?_
                  refine wpS.fin rfl (kr697 _ _ ?_)
                  refine then_n (ks696 _ _ ?_)
                  refine wp_cond_t (by kernel_rfl) ?_
                  refine wp_regS (l := [0, 1, 2]) (by kernel_rfl) (by kernel_rfl) fun KR698 kr698 => ?_
                  refine wpS.take 0 false (some 38) (.int .i32 x7) (by kernel_rfl) (yld fun _ => by kernel_rfl) ?_
                  refine wpS.take 1 false (some 39) (.int .i32 (isub .i32 x7 8380417)) (by kernel_rfl) (yld fun _ => by kernel_rfl) ?_
                  obtain ⟨x12, hx, h⟩ := of_bind h
                  refine wpS.take 2 false (some 9) (.int .i32 x12) (by kernel_rfl) (yld_int hx (fun _ => by kernel_rfl)) ?_
                  refine wpS.fin rfl (kr698 _ _ ?_)
                  have q0 := of_some h
                  subst q0
                  exact nj _ _ ⟨(hs.conv rfl), exg (by kernel_rfl)⟩
                · refine wpS.take 1 false (some 37) (.bool false) (by kernel_rfl) (yld_b (df hc) (fun _ => by kernel_rfl)) ?_
                  refine wpS.fin rfl (kr697 _ _ ?_)
                  refine then_n (ks696 _ _ ?_)
                  refine wp_cond_f (by kernel_rfl) ?_
                  refine xskip ?_
                  have q0 := of_some h
                  subst q0
                  exact nj _ _ ⟨(hs.conv rfl), exg (by kernel_rfl)⟩
              · clear hj hs
                rintro a w ⟨hs, g, rfl⟩
                refine then_n (ks714 _ _ ?_)
                refine xseq_k fun KS705 ks705 => ?_
                refine xseq_k fun KS706 ks706 => ?_
                refine wp_regS (l := [0, 1, 2, 3, 4, 5, 6, 7, 8]) (by kernel_rfl) (by kernel_rfl) fun KR707 kr707 => ?_
                refine wpS.take 0 false (some 40) (.int .i32 y11) (by kernel_rfl) (yld fun _ => by kernel_rfl) ?_
                refine wpS.take 1 false (some 41) (.int .i32 a1) (by kernel_rfl) (yld fun _ => by kernel_rfl) ?_
                refine wpS.take 2 false (some 42) (.int .i32 (isub .i32 0 a1)) (by kernel_rfl) (yld fun _ => by kernel_rfl) ?_
                rcases of_if h with ⟨hc, h⟩ | ⟨hc, h⟩
                · refine wpS.take 3 false (some 43) (.bool true) (by kernel_rfl) (yld_b (dt hc) (fun _ => by kernel_rfl)) ?_
                  refine wpS.take 4 false (some 44) (.bool true) (by kernel_rfl) (yld fun _ => by kernel_rfl) ?_
                  refine wpS.take 5 false (some 45) (undef) (by kernel_rfl) (yld fun _ => by kernel_rfl) ?_
                  refine wpS.take 6 false (some 46) (undef) (by kernel_rfl) (yld fun _ => by kernel_rfl) ?_
                  refine wpS.take 7 false (some 47) (undef) (by kernel_rfl) (yld fun _ => by kernel_rfl) ?_
                  refine wpS.take 8 false (some 48) (.bool true) (by kernel_rfl) (yld fun _ => by kernel_rfl) ?_
                  refine wpS.fin rfl (kr707 _ _ ?_)
                  refine then_n (ks706 _ _ ?_)
                  refine wp_cond_t (by kernel_rfl) ?_
                  refine xseq_k fun KS708 ks708 => ?_
                  refine wp_regS (l := [0]) (by kernel_rfl) (by kernel_rfl) fun KR709 kr709 => ?_
                  refine wpS.take 0 false (some 6) (.slice none 0 0) (by kernel_rfl) (yld fun _ => by kernel_rfl) ?_
                  refine wpS.fin rfl (kr709 _ _ ?_)
                  refine then_n (ks708 _ _ ?_)
                  refine xret ?_
                  refine then_r ?_
                  refine inBlock_r ?_
                  refine then_r ?_
                  refine then_r ?_
                  refine inBlock_r ?_
                  refine exq_r ?_
                  refine then_r ?_
                  have q0 := of_some h
                  subst q0
                  have q0 := of_some hk0
                  subst q0
                  have hs := hs.addNilL (CI .u8) 5
                  exact qq _ _ (post_ret (by kernel_rfl) (run_results [.tmp 6] [.slice none 0 0] (by kernel_rfl) (.cons (res_tmp (by kernel_rfl)) .nil)) ⟨⟨none, 0, 0⟩, congrArg Ending.returned (by kernel_rfl), ((hs.conv (L' := [.ownL (CI .u8) none 0 0 ([] : List Int) 5, .ownL (CI .u32) z5_A z5_n z5_c z5 84, .blk b1 (enc .i32 a0) 40]) rfl).drop (.cons_cons _ (.cons _ (.cons _ .slnil))))⟩)
                · refine wpS.take 3 false (some 43) (.bool false) (by kernel_rfl) (yld_b (df hc) (fun _ => by kernel_rfl)) ?_
                  refine wpS.take 4 false (some 44) (.bool false) (by kernel_rfl) (yld fun _ => by kernel_rfl) ?_
                  refine wpS.take 5 false (some 45) (.int .i32 y11) (by kernel_rfl) (yld fun _ => by kernel_rfl) ?_
                  refine wpS.take 6 false (some 46) (.int .i32 a2) (by kernel_rfl) (yld fun _ => by kernel_rfl) ?_
                  rcases of_if h with ⟨hc, h⟩ | ⟨hc, h⟩
                  · refine wpS.take 7 false (some 47) (.bool true) (by kernel_rfl) (yld_b (dt hc) (fun _ => by kernel_rfl)) ?_
                    refine wpS.take 8 false (some 48) (.bool true) (by kernel_rfl) (yld fun _ => by kernel_rfl) ?_
                    refine wpS.fin rfl (kr707 _ _ ?_)
                    refine then_n (ks706 _ _ ?_)
                    refine wp_cond_t (by kernel_rfl) ?_
                    refine xseq_k fun KS710 ks710 => ?_
                    refine wp_regS (l := [0]) (by kernel_rfl) (by kernel_rfl) fun KR711 kr711 => ?_
                    refine wpS.take 0 false (some 6) (.slice none 0 0) (by kernel_rfl) (yld fun _ => by kernel_rfl) ?_
                    refine wpS.fin rfl (kr711 _ _ ?_)
                    refine then_n (ks710 _ _ ?_)
                    refine xret ?_
                    refine then_r ?_
                    refine inBlock_r ?_
                    refine then_r ?_
                    refine then_r ?_
                    refine inBlock_r ?_
                    refine exq_r ?_
                    refine then_r ?_
                    have q0 := of_some h
                    subst q0
                    have q0 := of_some hk0
                    subst q0
                    have hs := hs.addNilL (CI .u8) 5
                    exact qq _ _ (post_ret (by kernel_rfl) (run_results [.tmp 6] [.slice none 0 0] (by kernel_rfl) (.cons (res_tmp (by kernel_rfl)) .nil)) ⟨⟨none, 0, 0⟩, congrArg Ending.returned (by kernel_rfl), ((hs.conv (L' := [.ownL (CI .u8) none 0 0 ([] : List Int) 5, .ownL (CI .u32) z5_A z5_n z5_c z5 84, .blk b1 (enc .i32 a0) 40]) rfl).drop (.cons_cons _ (.cons _ (.cons _ .slnil))))⟩)
                  · refine wpS.take 7 false (some 47) (.bool false) (by kernel_rfl) (yld_b (df hc) (fun _ => by kernel_rfl)) ?_
                    refine wpS.take 8 false (some 48) (.bool false) (by kernel_rfl) (yld fun _ => by kernel_rfl) ?_
                    refine wpS.fin rfl (kr707 _ _ ?_)
                    refine then_n (ks706 _ _ ?_)
                    refine wp_cond_f (by kernel_rfl) ?_
                    refine xskip ?_
                    refine then_n (ks705 _ _ ?_)
                    refine wp_regS (l := [0, 1, 2, 3, 4, 5, 6, 7]) (by kernel_rfl) (by kernel_rfl) fun KR712 kr712 => ?_
                    refine wpS.take 0 false (some 49) (.slice z5_A z5_n z5_c) (by kernel_rfl) (yld fun _ => by kernel_rfl) ?_
                    refine wpS.take 1 false (some 50) (.int .i32 a2) (by kernel_rfl) (yld fun _ => by kernel_rfl) ?_
                    refine wpS.take 2 false (some 51) (.int .i32 y11) (by kernel_rfl) (yld fun _ => by kernel_rfl) ?_
                    refine wpS.take 3 false (some 52) (.int .i32 (isub .i32 a2 y11)) (by kernel_rfl) (yld fun _ => by kernel_rfl) ?_
                    refine wpS.take 4 false (some 53) (.int .u32 (iconv .u32 (isub .i32 a2 y11))) (by kernel_rfl) (yld fun _ => by kernel_rfl) ?_
                    refine wpS.only 5 (op_lit (C := (CI .u32)) (t := 82) (e := 84) (len := 1) (parts := #[(0, .int .u32 (iconv .u32 (isub .i32 a2 y11)))]) (l := [(iconv .u32 (isub .i32 a2 y11))]) (d := (some 54)) (by kernel_rfl) hs (by kernel_rfl) (by kernel_rfl) (by kernel_rfl) (z := .int .u32 0) (by kernel_rfl) rfl (by decide) (by decide) (by kernel_rfl) ?_)
                    intro s13_A s13_n s13_c w gw hs
                    refine ⟨fun _ => trivial, ?_⟩
                    obtain ⟨h0, h⟩ := of_chk h
                    refine wpS.only 6 (op_appendT (C := (CI .u32)) (t := 82) (ty := 82) (e := 84) (bytes := 4) (B := 35184372088832) (d := (some 55)) (by kernel_rfl) hs 1 rfl (hs.rowL 0 rfl) (by kernel_rfl) (by kernel_rfl) (by kernel_rfl) (by kernel_rfl) (by kernel_rfl) h0 (by decide) (by decide) ?_)
                    intro s14_A s14_n s14_c w hs
                    refine ⟨fun _ => trivial, ?_⟩
                    refine wpS.take 7 false (some 7) (.slice s14_A s14_n s14_c) (by kernel_rfl) (yld fun _ => by kernel_rfl) ?_
                    refine wpS.fin rfl (kr712 _ _ ?_)
                    refine inBlock_n ?_
                    refine then_n (ks658 _ _ ?_)
                    refine wp_regS (l := [0, 1, 2]) (by kernel_rfl) (by kernel_rfl) fun KR713 kr713 => ?_
                    refine wpS.take 0 false (some 21) (.int .i64 z4) (by kernel_rfl) (yld fun _ => by kernel_rfl) ?_
                    refine wpS.take 1 false (some 22) (.int .i64 (iadd .i64 z4 1)) (by kernel_rfl) (yld fun _ => by kernel_rfl) ?_
                    obtain ⟨x15, hx, h⟩ := of_bind h
                    refine wpS.take 2 false (some 8) (.int .i64 x15) (by kernel_rfl) (yld_int hx (fun _ => by kernel_rfl)) ?_
                    refine wpS.fin rfl (kr713 _ _ ?_)
                    exact then_n (kl0 _ _ ⟨n, Nat.lt_succ_self n, x15, (z5 ++ ([(iconv .u32 (isub .i32 a2 y11))] : List Int)), s14_A, s14_n, s14_c, h, ((hs.conv (L' := [.ownL (CI .u32) s13_A s13_n s13_c ([(iconv .u32 (isub .i32 a2 y11))] : List Int) 84, .ownL (CI .u32) s14_A s14_n s14_c (z5 ++ ([(iconv .u32 (isub .i32 a2 y11))] : List Int)) 84, .blk b1 (enc .i32 a0) 40]) rfl).drop (.cons _ (.cons_cons _ (.cons_cons _ .slnil)))), exg (by kernel_rfl)⟩)
          · refine wpS.take 1 false (some 20) (.bool false) (by kernel_rfl) (yld_b (df hc) (fun _ => by kernel_rfl)) ?_
            refine wpS.fin rfl (kr603 _ _ ?_)
            refine then_n (ks602 _ _ ?_)
            refine wp_cond_f (by kernel_rfl) ?_
            refine xexit ?_
            refine then_x ?_
            refine then_x ?_
            refine inBlock_hit ?_
            have q0 := of_some h
            subst q0
            exact exq_n (nn0 _ _ ⟨z5, z5_A, z5_n, z5_c, rfl, (hs.conv rfl), exg (by kernel_rfl)⟩)
      · clear hs h hy
        rintro a w ⟨y6, y6_A, y6_n, y6_c, rfl, hs, g, rfl⟩
        have h := hk0
        refine then_n (ks364 _ _ ?_)
        refine xseq_k fun KS715 ks715 => ?_
        refine wp_regS (l := [0, 1, 2, 3, 4, 5]) (by kernel_rfl) (by kernel_rfl) fun KR716 kr716 => ?_
        refine wpS.take 0 false (some 56) (.slice y6_A y6_n y6_c) (by kernel_rfl) (yld fun _ => by kernel_rfl) ?_
        refine wpS.take 1 false (some 57) (.int .i32 a1) (by kernel_rfl) (yld fun _ => by kernel_rfl) ?_
        refine wpS.take 2 false (some 58) (.int .i32 a2) (by kernel_rfl) (yld fun _ => by kernel_rfl) ?_
        obtain ⟨r16, hg, h⟩ := of_bind h
        refine wpS.only 3 (op_call (d := (some 59)) (by kernel_rfl) hs (fun _ => by kernel_rfl) (ref22_bitsOf.ok hg _) ?_)
        intro w gw hs
        refine ⟨fun _ => trivial, ?_⟩
        obtain ⟨r17, hg, h⟩ := of_bind h
        refine wpS.only 4 (op_callH (d := (some 60)) (by kernel_rfl) hs (fun _ => by kernel_rfl) (ref01_Pack.ok hg _ (hs.rowL 0 rfl)) ?_)
        rintro ⟨r17_A, r17_n, r17_c⟩ w gw hs
        have hs := hs.conv (L' := [.ownL (CI .u8) r17_A r17_n r17_c r17 5, .ownL (CI .u32) y6_A y6_n y6_c y6 84, .blk b1 (enc .i32 a0) 40]) rfl
        refine ⟨fun _ => trivial, ?_⟩
        refine wpS.take 5 false (some 6) (.slice r17_A r17_n r17_c) (by kernel_rfl) (yld fun _ => by kernel_rfl) ?_
        refine wpS.fin rfl (kr716 _ _ ?_)
        refine then_n (ks715 _ _ ?_)
        refine xret ?_
        have q0 := of_some h
        subst q0
        exact qq _ _ (post_ret (by kernel_rfl) (run_results [.tmp 6] [.slice r17_A r17_n r17_c] (by kernel_rfl) (.cons (res_tmp (by kernel_rfl)) .nil)) ⟨⟨r17_A, r17_n, r17_c⟩, congrArg Ending.returned (by kernel_rfl), ((hs.conv (L' := [.ownL (CI .u8) r17_A r17_n r17_c r17 5, .ownL (CI .u32) y6_A y6_n y6_c y6 84, .blk b1 (enc .i32 a0) 40]) rfl).drop (.cons_cons _ (.cons _ (.cons _ .slnil))))⟩)
    | false =>
      have h := of_if_f h
      refine wpS.only 6 (op_call (d := (some 16)) (by kernel_rfl) hs (fun _ => by kernel_rfl) (ref21_Fit.ok hg _) ?_)
      intro w gw hs
      refine ⟨fun _ => trivial, ?_⟩
      refine wpS.take 7 false (some 17) (.bool true) (by kernel_rfl) (yld fun _ => by kernel_rfl) ?_
      refine wpS.take 8 false (some 18) (.bool true) (by kernel_rfl) (yld fun _ => by kernel_rfl) ?_
      refine wpS.fin rfl (kr11 _ _ ?_)
      refine then_n (ks10 _ _ ?_)
      refine wp_cond_t (by kernel_rfl) ?_
      refine xseq_k fun KS717 ks717 => ?_
      refine wp_regS (l := [0]) (by kernel_rfl) (by kernel_rfl) fun KR718 kr718 => ?_
      refine wpS.take 0 false (some 6) (.slice none 0 0) (by kernel_rfl) (yld fun _ => by kernel_rfl) ?_
      refine wpS.fin rfl (kr718 _ _ ?_)
      refine then_n (ks717 _ _ ?_)
      refine xret ?_
      refine then_r ?_
      have q0 := of_some h
      subst q0
      have hs := hs.addNilL (CI .u8) 5
      exact qq _ _ (post_ret (by kernel_rfl) (run_results [.tmp 6] [.slice none 0 0] (by kernel_rfl) (.cons (res_tmp (by kernel_rfl)) .nil)) ⟨⟨none, 0, 0⟩, congrArg Ending.returned (by kernel_rfl), ((hs.conv (L' := [.ownL (CI .u8) none 0 0 ([] : List Int) 5, .blk b1 (enc .i32 a0) 40]) rfl).drop (.cons_cons _ (.cons _ .slnil)))⟩)
  | false =>
    have h := of_if_f h
    refine wpS.only 2 (op_call (d := (some 12)) (by kernel_rfl) hs (fun _ => by kernel_rfl) (ref22_bounds.ok hg _) ?_)
    intro w gw hs
    refine ⟨fun _ => trivial, ?_⟩
    refine wpS.take 3 false (some 13) (.bool true) (by kernel_rfl) (yld fun _ => by kernel_rfl) ?_
    refine wpS.take 4 false (some 14) (.bool true) (by kernel_rfl) (yld fun _ => by kernel_rfl) ?_
    refine wpS.take 5 false (some 15) (undef) (by kernel_rfl) (yld fun _ => by kernel_rfl) ?_
    refine wpS.take 6 false (some 16) (undef) (by kernel_rfl) (yld fun _ => by kernel_rfl) ?_
    refine wpS.take 7 false (some 17) (undef) (by kernel_rfl) (yld fun _ => by kernel_rfl) ?_
    refine wpS.take 8 false (some 18) (.bool true) (by kernel_rfl) (yld fun _ => by kernel_rfl) ?_
    refine wpS.fin rfl (kr11 _ _ ?_)
    refine then_n (ks10 _ _ ?_)
    refine wp_cond_t (by kernel_rfl) ?_
    refine xseq_k fun KS719 ks719 => ?_
    refine wp_regS (l := [0]) (by kernel_rfl) (by kernel_rfl) fun KR720 kr720 => ?_
    refine wpS.take 0 false (some 6) (.slice none 0 0) (by kernel_rfl) (yld fun _ => by kernel_rfl) ?_
    refine wpS.fin rfl (kr720 _ _ ?_)
    refine then_n (ks719 _ _ ?_)
    refine xret ?_
    refine then_r ?_
    have q0 := of_some h
    subst q0
    have hs := hs.addNilL (CI .u8) 5
    exact qq _ _ (post_ret (by kernel_rfl) (run_results [.tmp 6] [.slice none 0 0] (by kernel_rfl) (.cons (res_tmp (by kernel_rfl)) .nil)) ⟨⟨none, 0, 0⟩, congrArg Ending.returned (by kernel_rfl), ((hs.conv (L' := [.ownL (CI .u8) none 0 0 ([] : List Int) 5, .blk b1 (enc .i32 a0) 40]) rfl).drop (.cons_cons _ (.cons _ .slnil)))⟩)

theorem law22_kind.ok {K : Nat} {a0 : Int} {a1_0 : Int} {a1_1 : Int} {a1_2 : Int} {a1_3 : Int} {a1_4 : Int} {a1_5 : Int} {a1_6 : Int} {a1_7 : Int} {r0_0 : Int} {r0_1 : Int} {r0_2 : Int} {r0_3 : Int} {r0_4 : Int} {r0_5 : Int} {r0_6 : Int} {r0_7 : Int} (h : law22_kind.f K a0 a1_0 a1_1 a1_2 a1_3 a1_4 a1_5 a1_6 a1_7 = some (r0_0, r0_1, r0_2, r0_3, r0_4, r0_5, r0_6, r0_7)) (w0 : World) : Ret Try.prog 7 #[.int .u8 a0, .agg #[.int .i64 a1_0, .int .i64 a1_1, .int .i32 a1_2, .int .i64 a1_3, .int .i32 a1_4, .int .i32 a1_5, .int .i64 a1_6, .int .i64 a1_7]] w0 (.agg #[.int .i64 r0_0, .int .i64 r0_1, .int .i32 r0_2, .int .i64 r0_3, .int .i32 r0_4, .int .i32 r0_5, .int .i64 r0_6, .int .i64 r0_7]) := by
  refine calls_k Try.func7 rfl fun Q qq => ?_
  have hs := St.start w0
  refine wp_conv (a' := ⟨#[.int .u8 a0, .agg #[.int .i64 a1_0, .int .i64 a1_1, .int .i32 a1_2, .int .i64 a1_3, .int .i32 a1_4, .int .i32 a1_5, .int .i64 a1_6, .int .i64 a1_7], undef, undef, undef, undef, undef, undef, undef, undef, undef, undef, undef, undef, undef, undef, undef, undef, undef, undef], []⟩) (by kernel_rfl) ?_
  refine xseq_k fun KS1 ks1 => ?_
  refine wp_regS (l := [0, 1]) (by kernel_rfl) (by kernel_rfl) fun KR2 kr2 => ?_
  refine wpS.only 0 (op_box (t := 23) (v := .agg #[.int .i64 a1_0, .int .i64 a1_1, .int .i32 a1_2, .int .i64 a1_3, .int .i32 a1_4, .int .i32 a1_5, .int .i64 a1_6, .int .i64 a1_7]) (d := (some 3)) (by kernel_rfl) hs ([.int .i64 a1_0, .int .i64 a1_1, .int .i32 a1_2, .int .i64 a1_3, .int .i32 a1_4, .int .i32 a1_5, .int .i64 a1_6, .int .i64 a1_7]) (by kernel_rfl) (by kernel_rfl) ?_)
  intro b1 w gw hs
  refine ⟨fun _ => trivial, ?_⟩
  refine wpS.only 1 (op_alloc (t := 23) (d := (some 4)) (by kernel_rfl) hs ([.int .i64 0, .int .i64 0, .int .i32 0, .int .i64 0, .int .i32 0, .int .i32 0, .int .i64 0, .int .i64 0]) (.agg #[.int .i64 0, .int .i64 0, .int .i32 0, .int .i64 0, .int .i32 0, .int .i32 0, .int .i64 0, .int .i64 0]) (by kernel_rfl) (by kernel_rfl) (by kernel_rfl) ?_)
  intro b2 w gw hs
  refine ⟨fun _ => trivial, ?_⟩
  refine wpS.fin rfl (kr2 _ _ ?_)
  refine then_n (ks1 _ _ ?_)
  refine xseq_k fun KS3 ks3 => ?_
  refine wp_regS (l := [0, 1, 2, 3, 4, 5, 6, 7, 8, 9, 10, 11]) (by kernel_rfl) (by kernel_rfl) fun KR4 kr4 => ?_
  refine wpS.only 0 (op_lit (C := (CI .i64)) (t := 66) (e := 3) (len := 4) (parts := #[(0, .int .i64 44), (1, .int .i64 65), (2, .int .i64 87), (3, .int .i64 0)]) (l := [44, 65, 87, 0]) (d := (some 8)) (by kernel_rfl) hs (by kernel_rfl) (by kernel_rfl) (by kernel_rfl) (z := .int .i64 0) (by kernel_rfl) rfl (by decide) (by decide) (by kernel_rfl) ?_)
  intro s3_A s3_n s3_c w gw hs
  refine ⟨fun _ => trivial, ?_⟩
  refine wpS.take 1 false (some 9) (.int .u8 a0) (by kernel_rfl) (yld fun _ => by kernel_rfl) ?_
  refine wpS.take 2 false (some 10) (.int .u8 (irem .u8 a0 4)) (by kernel_rfl) (yld fun _ => by kernel_rfl) ?_
  obtain ⟨x4, hx, h⟩ := of_bind h
  have hx := of_some hx
  subst hx
  obtain ⟨h0, h⟩ := of_chk h
  obtain ⟨h1, h⟩ := of_chk h
  have i0_5 := h0
  have i1_5 := h1
  refine wpS.take 3 false (some 11) (.pointer (adr s3_A (((irem .u8 a0 4) : Int).toNat * Cod.size (CI .i64)))) (by kernel_rfl) (yld_idxL (C := (CI .i64)) (t := 66) (e := 3) (k := .u8) (x := (irem .u8 a0 4)) (hs.rowL 0 rfl) (by kernel_rfl) (by kernel_rfl) (by kernel_rfl) h0 h1) ?_
  refine wpS.take 4 true (some 12) (.int .i64 (rdL (CI .i64) ([44, 65, 87, 0] : List Int) (irem .u8 a0 4))) (by kernel_rfl) (yld_loadL (C := (CI .i64)) (e := 3) (x := (irem .u8 a0 4)) (hs.rowL 0 rfl) (by kernel_rfl) rfl (by kernel_rfl) i0_5 i1_5) ?_
  obtain ⟨⟨r5_0, r5_1, r5_2, r5_3, r5_4, r5_5, r5_6, r5_7, r6⟩, hg, h⟩ := of_bind h
  refine wpS.only 5 (op_call (d := (some 13)) (by kernel_rfl) hs (fun _ => by kernel_rfl) (ref22_Set.ok hg _) ?_)
  intro w gw hs
  refine ⟨fun _ => trivial, ?_⟩
  refine wpS.take 6 false (some 7) (.tuple #[.agg #[.int .i64 r5_0, .int .i64 r5_1, .int .i32 r5_2, .int .i64 r5_3, .int .i32 r5_4, .int .i32 r5_5, .int .i64 r5_6, .int .i64 r5_7], .bool r6]) (by kernel_rfl) (yld fun _ => by kernel_rfl) ?_
  refine wpS.take 7 false (some 14) (.agg #[.int .i64 r5_0, .int .i64 r5_1, .int .i32 r5_2, .int .i64 r5_3, .int .i32 r5_4, .int .i32 r5_5, .int .i64 r5_6, .int .i64 r5_7]) (by kernel_rfl) (yld fun _ => by kernel_rfl) ?_
  cases r6 with
  | true =>
    have h := of_if_t h
    refine wpS.take 8 false (some 15) (.bool true) (by kernel_rfl) (yld fun _ => by kernel_rfl) ?_
    refine wpS.only 9 (op_alloc (t := 23) (d := (some 5)) (by kernel_rfl) hs ([.int .i64 0, .int .i64 0, .int .i32 0, .int .i64 0, .int .i32 0, .int .i32 0, .int .i64 0, .int .i64 0]) (.agg #[.int .i64 0, .int .i64 0, .int .i32 0, .int .i64 0, .int .i32 0, .int .i32 0, .int .i64 0, .int .i64 0]) (by kernel_rfl) (by kernel_rfl) (by kernel_rfl) ?_)
    intro b7 w gw hs
    refine ⟨fun _ => trivial, ?_⟩
    refine wpS.only 10 (op_storeW (t := 23) (v := .agg #[.int .i64 r5_0, .int .i64 r5_1, .int .i32 r5_2, .int .i64 r5_3, .int .i32 r5_4, .int .i32 r5_5, .int .i64 r5_6, .int .i64 r5_7]) (d := none) (by kernel_rfl) hs 0 rfl (vs := [.int .i64 r5_0, .int .i64 r5_1, .int .i32 r5_2, .int .i64 r5_3, .int .i32 r5_4, .int .i32 r5_5, .int .i64 r5_6, .int .i64 r5_7]) (n := 8) (by kernel_rfl) (by kernel_rfl) (by kernel_rfl) (by simp [enc_len]) (by simp [enc_len]) (by simp [Value.oneCell']) ?_)
    intro w kp hs
    refine ⟨fun _ => trivial, ?_⟩
    refine wpS.take 11 false (some 6) (.bool true) (by kernel_rfl) (yld fun _ => by kernel_rfl) ?_
    refine wpS.fin rfl (kr4 _ _ ?_)
    refine then_n (ks3 _ _ ?_)
    refine xseq_k fun KS8 ks8 => ?_
    refine xseq_k fun KS9 ks9 => ?_
    refine wp_regS (l := [0, 1]) (by kernel_rfl) (by kernel_rfl) fun KR10 kr10 => ?_
    refine wpS.take 0 false (some 16) (.bool true) (by kernel_rfl) (yld fun _ => by kernel_rfl) ?_
    refine wpS.take 1 false (some 17) (.bool false) (by kernel_rfl) (yld fun _ => by kernel_rfl) ?_
    refine wpS.fin rfl (kr10 _ _ ?_)
    refine then_n (ks9 _ _ ?_)
    refine wp_cond_f (by kernel_rfl) ?_
    refine xskip ?_
    refine then_n (ks8 _ _ ?_)
    refine xseq_k fun KS11 ks11 => ?_
    refine wp_regS (l := [0, 1]) (by kernel_rfl) (by kernel_rfl) fun KR12 kr12 => ?_
    refine wpS.take 0 true (some 19) (.agg #[.int .i64 r5_0, .int .i64 r5_1, .int .i32 r5_2, .int .i64 r5_3, .int .i32 r5_4, .int .i32 r5_5, .int .i64 r5_6, .int .i64 r5_7]) (by kernel_rfl) (yld_loadW (e := 23) (n := 8) hs 0 rfl (by kernel_rfl) (by kernel_rfl) (by kernel_rfl) (by simp [enc_len]) .grow) ?_
    refine wpS.only 1 (op_storeW (t := 23) (v := .agg #[.int .i64 r5_0, .int .i64 r5_1, .int .i32 r5_2, .int .i64 r5_3, .int .i32 r5_4, .int .i32 r5_5, .int .i64 r5_6, .int .i64 r5_7]) (d := none) (by kernel_rfl) hs 2 rfl (vs := [.int .i64 r5_0, .int .i64 r5_1, .int .i32 r5_2, .int .i64 r5_3, .int .i32 r5_4, .int .i32 r5_5, .int .i64 r5_6, .int .i64 r5_7]) (n := 8) (by kernel_rfl) (by kernel_rfl) (by kernel_rfl) (by simp [enc_len]) (by simp [enc_len]) (by simp [Value.oneCell']) ?_)
    intro w kp hs
    refine ⟨fun _ => trivial, ?_⟩
    refine wpS.fin rfl (kr12 _ _ ?_)
    refine then_n (ks11 _ _ ?_)
    refine xret ?_
    obtain ⟨q0, qr0⟩ := Prod.mk.inj (of_some h)
    obtain ⟨q1, qr1⟩ := Prod.mk.inj (qr0)
    obtain ⟨q2, qr2⟩ := Prod.mk.inj (qr1)
    obtain ⟨q3, qr3⟩ := Prod.mk.inj (qr2)
    obtain ⟨q4, qr4⟩ := Prod.mk.inj (qr3)
    obtain ⟨q5, qr5⟩ := Prod.mk.inj (qr4)
    obtain ⟨q6, qr6⟩ := Prod.mk.inj (qr5)
    have q7 := qr6
    subst q0
    subst q1
    subst q2
    subst q3
    subst q4
    subst q5
    subst q6
    subst q7
    exact qq _ _ (post_ret (by kernel_rfl) (run_results [.cell 4 23] [.agg #[.int .i64 r5_0, .int .i64 r5_1, .int .i32 r5_2, .int .i64 r5_3, .int .i32 r5_4, .int .i32 r5_5, .int .i64 r5_6, .int .i64 r5_7]] (by kernel_rfl) (.cons (res_cellN (n := 8) hs 2 rfl (by kernel_rfl) (by kernel_rfl) (by kernel_rfl) (by simp [enc_len])) .nil)) ⟨congrArg Ending.returned (by kernel_rfl), hs.none⟩)
  | false =>
    have h := of_if_f h
    refine wpS.take 8 false (some 15) (.bool false) (by kernel_rfl) (yld fun _ => by kernel_rfl) ?_
    refine wpS.only 9 (op_alloc (t := 23) (d := (some 5)) (by kernel_rfl) hs ([.int .i64 0, .int .i64 0, .int .i32 0, .int .i64 0, .int .i32 0, .int .i32 0, .int .i64 0, .int .i64 0]) (.agg #[.int .i64 0, .int .i64 0, .int .i32 0, .int .i64 0, .int .i32 0, .int .i32 0, .int .i64 0, .int .i64 0]) (by kernel_rfl) (by kernel_rfl) (by kernel_rfl) ?_)
    intro b8 w gw hs
    refine ⟨fun _ => trivial, ?_⟩
    refine wpS.only 10 (op_storeW (t := 23) (v := .agg #[.int .i64 r5_0, .int .i64 r5_1, .int .i32 r5_2, .int .i64 r5_3, .int .i32 r5_4, .int .i32 r5_5, .int .i64 r5_6, .int .i64 r5_7]) (d := none) (by kernel_rfl) hs 0 rfl (vs := [.int .i64 r5_0, .int .i64 r5_1, .int .i32 r5_2, .int .i64 r5_3, .int .i32 r5_4, .int .i32 r5_5, .int .i64 r5_6, .int .i64 r5_7]) (n := 8) (by kernel_rfl) (by kernel_rfl) (by kernel_rfl) (by simp [enc_len]) (by simp [enc_len]) (by simp [Value.oneCell']) ?_)
    intro w kp hs
    refine ⟨fun _ => trivial, ?_⟩
    refine wpS.take 11 false (some 6) (.bool false) (by kernel_rfl) (yld fun _ => by kernel_rfl) ?_
    refine wpS.fin rfl (kr4 _ _ ?_)
    refine then_n (ks3 _ _ ?_)
    refine xseq_k fun KS17 ks17 => ?_
    refine xseq_k fun KS18 ks18 => ?_
    refine wp_regS (l := [0, 1]) (by kernel_rfl) (by kernel_rfl) fun KR19 kr19 => ?_
    refine wpS.take 0 false (some 16) (.bool false) (by kernel_rfl) (yld fun _ => by kernel_rfl) ?_
    refine wpS.take 1 false (some 17) (.bool true) (by kernel_rfl) (yld fun _ => by kernel_rfl) ?_
    refine wpS.fin rfl (kr19 _ _ ?_)
    refine then_n (ks18 _ _ ?_)
    refine wp_cond_t (by kernel_rfl) ?_
    refine xseq_k fun KS20 ks20 => ?_
    refine wp_regS (l := [0, 1]) (by kernel_rfl) (by kernel_rfl) fun KR21 kr21 => ?_
    refine wpS.take 0 true (some 18) (.agg #[.int .i64 a1_0, .int .i64 a1_1, .int .i32 a1_2, .int .i64 a1_3, .int .i32 a1_4, .int .i32 a1_5, .int .i64 a1_6, .int .i64 a1_7]) (by kernel_rfl) (yld_loadW (e := 23) (n := 8) hs 3 rfl (by kernel_rfl) (by kernel_rfl) (by kernel_rfl) (by simp [enc_len]) .grow) ?_
    refine wpS.only 1 (op_storeW (t := 23) (v := .agg #[.int .i64 a1_0, .int .i64 a1_1, .int .i32 a1_2, .int .i64 a1_3, .int .i32 a1_4, .int .i32 a1_5, .int .i64 a1_6, .int .i64 a1_7]) (d := none) (by kernel_rfl) hs 2 rfl (vs := [.int .i64 a1_0, .int .i64 a1_1, .int .i32 a1_2, .int .i64 a1_3, .int .i32 a1_4, .int .i32 a1_5, .int .i64 a1_6, .int .i64 a1_7]) (n := 8) (by kernel_rfl) (by kernel_rfl) (by kernel_rfl) (by simp [enc_len]) (by simp [enc_len]) (by simp [Value.oneCell']) ?_)
    intro w kp hs
    refine ⟨fun _ => trivial, ?_⟩
    refine wpS.fin rfl (kr21 _ _ ?_)
    refine then_n (ks20 _ _ ?_)
    refine xret ?_
    refine then_r ?_
    obtain ⟨q0, qr0⟩ := Prod.mk.inj (of_some h)
    obtain ⟨q1, qr1⟩ := Prod.mk.inj (qr0)
    obtain ⟨q2, qr2⟩ := Prod.mk.inj (qr1)
    obtain ⟨q3, qr3⟩ := Prod.mk.inj (qr2)
    obtain ⟨q4, qr4⟩ := Prod.mk.inj (qr3)
    obtain ⟨q5, qr5⟩ := Prod.mk.inj (qr4)
    obtain ⟨q6, qr6⟩ := Prod.mk.inj (qr5)
    have q7 := qr6
    subst q0
    subst q1
    subst q2
    subst q3
    subst q4
    subst q5
    subst q6
    subst q7
    exact qq _ _ (post_ret (by kernel_rfl) (run_results [.cell 4 23] [.agg #[.int .i64 a1_0, .int .i64 a1_1, .int .i32 a1_2, .int .i64 a1_3, .int .i32 a1_4, .int .i32 a1_5, .int .i64 a1_6, .int .i64 a1_7]] (by kernel_rfl) (.cons (res_cellN (n := 8) hs 2 rfl (by kernel_rfl) (by kernel_rfl) (by kernel_rfl) (by simp [enc_len])) .nil)) ⟨congrArg Ending.returned (by kernel_rfl), hs.none⟩)

theorem dpack_Public.ok {K : Nat} {a0_0 : Int} {a0_1 : Int} {a0_2 : Int} {a0_3 : Int} {a0_4 : Int} {a0_5 : Int} {a0_6 : Int} {a0_7 : Int} {a1_0 : List Int} {a1_1 : List (Arr 256)} {r0 : List Int} {a1_0_A : Option Addr} {a1_0_n : Nat} {a1_0_c : Nat} {a1_1_A : Option Addr} {a1_1_n : Nat} {a1_1_c : Nat} (h : dpack_Public.f K a0_0 a0_1 a0_2 a0_3 a0_4 a0_5 a0_6 a0_7 a1_0 a1_1 = some r0) (w0 : World) (hp1_0 : RowL (CI .u8) w0 a1_0_A a1_0_n a1_0_c a1_0) (hp1_1 : RowL (CA .i32 256 (by decide)) w0 a1_1_A a1_1_n a1_1_c a1_1) : Calls Try.prog 10 #[.agg #[.int .i64 a0_0, .int .i64 a0_1, .int .i32 a0_2, .int .i64 a0_3, .int .i32 a0_4, .int .i32 a0_5, .int .i64 a0_6, .int .i64 a0_7], .agg #[.slice a1_0_A a1_0_n a1_0_c, .slice a1_1_A a1_1_n a1_1_c]] w0 fun e w' => ∃ h : (Option Addr × Nat × Nat), e = .returned (.slice h.1 h.2.1 h.2.2) ∧ St w0 [] [.ownL (CI .u8) h.1 h.2.1 h.2.2 r0 5] [] w' := by
  refine calls_k Try.func10 rfl fun Q qq => ?_
  have hs := St.startR (all_cons (RowP.ent hp1_0) (all_cons (RowP.ent hp1_1) all_nil))
  refine wp_conv (a' := ⟨#[.agg #[.int .i64 a0_0, .int .i64 a0_1, .int .i32 a0_2, .int .i64 a0_3, .int .i32 a0_4, .int .i32 a0_5, .int .i64 a0_6, .int .i64 a0_7], .agg #[.slice a1_0_A a1_0_n a1_0_c, .slice a1_1_A a1_1_n a1_1_c], undef, undef, undef, undef, undef, undef, undef, undef, undef, undef, undef, undef, undef, undef, undef, undef, undef, undef, undef, undef], []⟩) (by kernel_rfl) ?_
  refine xseq_k fun KS1 ks1 => ?_
  refine wp_regS (l := [0, 1, 2]) (by kernel_rfl) (by kernel_rfl) fun KR2 kr2 => ?_
  refine wpS.only 0 (op_box (t := 23) (v := .agg #[.int .i64 a0_0, .int .i64 a0_1, .int .i32 a0_2, .int .i64 a0_3, .int .i32 a0_4, .int .i32 a0_5, .int .i64 a0_6, .int .i64 a0_7]) (d := (some 2)) (by kernel_rfl) hs ([.int .i64 a0_0, .int .i64 a0_1, .int .i32 a0_2, .int .i64 a0_3, .int .i32 a0_4, .int .i32 a0_5, .int .i64 a0_6, .int .i64 a0_7]) (by kernel_rfl) (by kernel_rfl) ?_)
  intro b1 w gw hs
  refine ⟨fun _ => trivial, ?_⟩
  refine wpS.only 1 (op_box (t := 27) (v := .agg #[.slice a1_0_A a1_0_n a1_0_c, .slice a1_1_A a1_1_n a1_1_c]) (d := (some 3)) (by kernel_rfl) hs ([.slice a1_0_A a1_0_n a1_0_c, .slice a1_1_A a1_1_n a1_1_c]) (by kernel_rfl) (by kernel_rfl) ?_)
  intro b2 w gw hs
  refine ⟨fun _ => trivial, ?_⟩
  refine wpS.take 2 false (some 4) (.slice none 0 0) (by kernel_rfl) (yld fun _ => by kernel_rfl) ?_
  refine wpS.fin rfl (kr2 _ _ ?_)
  refine then_n (ks1 _ _ ?_)
  refine xseq_k fun KS3 ks3 => ?_
  refine wp_regS (l := [0, 1, 2]) (by kernel_rfl) (by kernel_rfl) fun KR4 kr4 => ?_
  refine wpS.take 0 false (some 6) (.agg #[.slice none 0 0, .bool false]) (by kernel_rfl) (yld fun _ => by kernel_rfl) ?_
  refine wpS.only 1 (op_box (t := 69) (v := .agg #[.slice none 0 0, .bool false]) (d := (some 7)) (by kernel_rfl) hs ([.slice none 0 0, .bool false]) (by kernel_rfl) (by kernel_rfl) ?_)
  intro b3 w gw hs
  refine ⟨fun _ => trivial, ?_⟩
  refine wpS.take 2 false (some 5) (.pointer (some ⟨b3, 0, none⟩)) (by kernel_rfl) (yld fun _ => by kernel_rfl) ?_
  refine wpS.fin rfl (kr4 _ _ ?_)
  refine then_n (ks3 _ _ ?_)
  refine xseq_k fun KS5 ks5 => ?_
  refine wp_regS (l := [0, 1, 2, 3]) (by kernel_rfl) (by kernel_rfl) fun KR6 kr6 => ?_
  refine wpS.take 0 false (some 8) (.pointer (some ⟨b3, 0, none⟩)) (by kernel_rfl) (yld fun _ => by kernel_rfl) ?_
  refine wpS.take 1 false (some 9) (.pointer (some ⟨b2, 0, none⟩)) (by kernel_rfl) (yld fun _ => by kernel_rfl) ?_
  refine wpS.take 2 true (some 10) (.slice a1_0_A a1_0_n a1_0_c) (by kernel_rfl) (yld_load1 (e := 24) (o := 0) hs 1 rfl (by kernel_rfl) (by kernel_rfl) (by rfl) .grow) ?_
  refine wpS.only 3 (op_inline (d := (some 11)) (f := 38) (args := #[.pointer (some ⟨b3, 0, none⟩), .slice a1_0_A a1_0_n a1_0_c, .int .i64 32]) (by kernel_rfl) (fun _ => by kernel_rfl) fun R7 kI7 => ?_)
  refine calls_kn Try.func38 rfl fun Q7 qq7 qn7 => ?_
  refine wp_conv (a' := ⟨#[.pointer (some ⟨b3, 0, none⟩), .slice a1_0_A a1_0_n a1_0_c, .int .i64 32, undef, undef, undef, undef, undef, undef, undef, undef, undef, undef, undef, undef, undef, undef, undef, undef, undef, undef, undef, undef, undef, undef, undef, undef, undef], []⟩) (by kernel_rfl) ?_
  refine xseq_k fun KS13 ks13 => ?_
  refine wp_regS (l := [0, 1, 2, 3, 4, 5, 6, 7, 8, 9, 10, 11, 12, 13]) (by kernel_rfl) (by kernel_rfl) fun KR14 kr14 => ?_
  refine wpS.take 0 false (some 6) (.pointer (some ⟨b3, 0, none⟩)) (by kernel_rfl) (yld fun _ => by kernel_rfl) ?_
  refine wpS.take 1 false (some 7) (.pointer (some ⟨b3, 0, none⟩)) (by kernel_rfl) (yld fun _ => by kernel_rfl) ?_
  refine wpS.take 2 false (some 8) (.pointer (some ⟨b3, 0, none⟩)) (by kernel_rfl) (yld fun _ => by kernel_rfl) ?_
  refine wpS.take 3 false (some 9) (.pointer (some ⟨b3, 1, none⟩)) (by kernel_rfl) (yld fun _ => by kernel_rfl) ?_
  refine wpS.take 4 true (some 10) (.bool false) (by kernel_rfl) (yld_load1 (e := 4) (o := 1) hs 0 rfl (by kernel_rfl) (by kernel_rfl) (by rfl) .grow) ?_
  refine wpS.take 5 false (some 11) (.bool false) (by kernel_rfl) (yld fun _ => by kernel_rfl) ?_
  refine wpS.take 6 false (some 12) (.slice a1_0_A a1_0_n a1_0_c) (by kernel_rfl) (yld fun _ => by kernel_rfl) ?_
  refine wpS.take 7 false (some 13) (.int .i64 (a1_0.length : Int)) (by kernel_rfl) (yld_lenL (hs.rowR 0 rfl) (fun _ => by kernel_rfl)) ?_
  refine wpS.take 8 false (some 14) (.int .i64 32) (by kernel_rfl) (yld fun _ => by kernel_rfl) ?_
  refine wpS.take 9 false (some 15) (.bool ((a1_0.length : Int) != 32)) (by kernel_rfl) (yld fun _ => by kernel_rfl) ?_
  refine wpS.take 10 false (some 16) (.bool ((a1_0.length : Int) != 32)) (by kernel_rfl) (yld fun _ => by kernel_rfl) ?_
  refine wpS.take 11 false (some 17) (.pointer (some ⟨b3, 0, none⟩)) (by kernel_rfl) (yld fun _ => by kernel_rfl) ?_
  refine wpS.take 12 false (some 18) (.pointer (some ⟨b3, 1, none⟩)) (by kernel_rfl) (yld fun _ => by kernel_rfl) ?_
  obtain ⟨x4, hx, h⟩ := of_bind h
  refine wpS.only 13 (op_store1 (t := 4) (o := 1) (v := .bool x4) (d := none) (by kernel_rfl) hs 0 rfl (by cases hx; kernel_rfl) rfl (by kernel_rfl) (by simp) ?_)
  intro w kp hs
  refine ⟨fun _ => trivial, ?_⟩
  refine wpS.fin rfl (kr14 _ _ ?_)
  refine then_n (ks13 _ _ ?_)
  refine wp_regS (l := [0, 1, 2, 3, 4, 5, 6, 7, 8, 9]) (by kernel_rfl) (by kernel_rfl) fun KR15 kr15 => ?_
  refine wpS.take 0 false (some 19) (.pointer (some ⟨b3, 0, none⟩)) (by kernel_rfl) (yld fun _ => by kernel_rfl) ?_
  refine wpS.take 1 false (some 20) (.pointer (some ⟨b3, 0, none⟩)) (by kernel_rfl) (yld fun _ => by kernel_rfl) ?_
  refine wpS.take 2 false (some 21) (.pointer (some ⟨b3, 0, none⟩)) (by kernel_rfl) (yld fun _ => by kernel_rfl) ?_
  refine wpS.take 3 false (some 22) (.pointer (some ⟨b3, 0, none⟩)) (by kernel_rfl) (yld fun _ => by kernel_rfl) ?_
  refine wpS.take 4 true (some 23) (.slice none 0 0) (by kernel_rfl) (yld_load1 (e := 24) (o := 0) hs 0 rfl (by kernel_rfl) (by kernel_rfl) (by rfl) .grow) ?_
  refine wpS.take 5 false (some 24) (.slice a1_0_A a1_0_n a1_0_c) (by kernel_rfl) (yld fun _ => by kernel_rfl) ?_
  obtain ⟨h0, h⟩ := of_chk h
  have hs := hs.addNilL (CI .u8) 5
  refine wpS.only 6 (op_appendT (C := (CI .u8)) (t := 24) (ty := 24) (e := 5) (bytes := 1) (B := 140737488355328) (d := (some 25)) (by kernel_rfl) hs 0 rfl (hs.rowR 0 rfl) (by kernel_rfl) (by kernel_rfl) (by kernel_rfl) (by kernel_rfl) (by kernel_rfl) h0 (by decide) (by decide) ?_)
  intro s5_A s5_n s5_c w hs
  refine ⟨fun _ => trivial, ?_⟩
  refine wpS.take 7 false (some 26) (.pointer (some ⟨b3, 0, none⟩)) (by kernel_rfl) (yld fun _ => by kernel_rfl) ?_
  refine wpS.take 8 false (some 27) (.pointer (some ⟨b3, 0, none⟩)) (by kernel_rfl) (yld fun _ => by kernel_rfl) ?_
  refine wpS.only 9 (op_store1 (t := 24) (o := 0) (v := .slice s5_A s5_n s5_c) (d := none) (by kernel_rfl) hs 1 rfl (by kernel_rfl) rfl (by kernel_rfl) (by simp) ?_)
  intro w kp hs
  refine ⟨fun _ => trivial, ?_⟩
  refine wpS.fin rfl (kr15 _ _ ?_)
  refine qn7 _ _ (post_nrm (by kernel_rfl) (run_results [] [] (by kernel_rfl) .nil) ?_)
  refine kI7 _ _ ?_
  refine ⟨fun _ => trivial, ?_⟩
  refine wpS.fin rfl (kr6 _ _ ?_)
  refine then_n (ks5 _ _ ?_)
  refine xseq_k fun KS16 ks16 => ?_
  refine wp_regS (l := [0, 1, 2, 3, 4, 5, 6]) (by kernel_rfl) (by kernel_rfl) fun KR17 kr17 => ?_
  refine wpS.take 0 false (some 12) (.pointer (some ⟨b3, 0, none⟩)) (by kernel_rfl) (yld fun _ => by kernel_rfl) ?_
  refine wpS.take 1 false (some 13) (.pointer (some ⟨b2, 1, none⟩)) (by kernel_rfl) (yld fun _ => by kernel_rfl) ?_
  refine wpS.take 2 true (some 14) (.slice a1_1_A a1_1_n a1_1_c) (by kernel_rfl) (yld_load1 (e := 25) (o := 1) hs 2 rfl (by kernel_rfl) (by kernel_rfl) (by rfl) .grow) ?_
  refine wpS.take 3 false (some 15) (.pointer (some ⟨b1, 0, none⟩)) (by kernel_rfl) (yld fun _ => by kernel_rfl) ?_
  refine wpS.take 4 true (some 16) (.int .i64 a0_0) (by kernel_rfl) (yld_load1 (e := 3) (o := 0) hs 3 rfl (by kernel_rfl) (by kernel_rfl) (by rfl) .grow) ?_
  refine wpS.take 5 false (some 17) (.agg #[.int .i32 (-1), .int .i32 1023]) (by kernel_rfl) (yld fun _ => by kernel_rfl) ?_
  refine wpS.only 6 (op_inline (d := (some 18)) (f := 39) (args := #[.pointer (some ⟨b3, 0, none⟩), .slice a1_1_A a1_1_n a1_1_c, .int .i64 a0_0, .agg #[.int .i32 (-1), .int .i32 1023]]) (by kernel_rfl) (fun _ => by kernel_rfl) fun R18 kI18 => ?_)
  refine calls_kn Try.func39 rfl fun Q18 qq18 qn18 => ?_
  refine wp_conv (a' := ⟨#[.pointer (some ⟨b3, 0, none⟩), .slice a1_1_A a1_1_n a1_1_c, .int .i64 a0_0, .agg #[.int .i32 (-1), .int .i32 1023], undef, undef, undef, undef, undef, undef, undef, undef, undef, undef, undef, undef, undef, undef, undef, undef, undef, undef, undef, undef, undef, undef, undef, undef, undef, undef, undef, undef, undef, undef, undef, undef, undef, undef, undef, undef, undef, undef, undef, undef, undef, undef, undef, undef, undef, undef, undef, undef, undef, undef, undef, undef, undef], []⟩) (by kernel_rfl) ?_
  refine xseq_k fun KS83 ks83 => ?_
  refine wp_regS (l := [0]) (by kernel_rfl) (by kernel_rfl) fun KR84 kr84 => ?_
  refine wpS.only 0 (op_box (t := 73) (v := .agg #[.int .i32 (-1), .int .i32 1023]) (d := (some 7)) (by kernel_rfl) hs ([.int .i32 (-1), .int .i32 1023]) (by kernel_rfl) (by kernel_rfl) ?_)
  intro b6 w gw hs
  refine ⟨fun _ => trivial, ?_⟩
  refine wpS.fin rfl (kr84 _ _ ?_)
  refine then_n (ks83 _ _ ?_)
  obtain ⟨y7_1, hj, h⟩ := of_bind h
  refine xseq_k fun KS183 ks183 => wp_join (N := fun a w => St w0 [] [.blk b6 ([.int .i32 (-1), .int .i32 1023]) 73, .ownL (CI .u8) s5_A s5_n s5_c (([] : List Int) ++ a1_0) 5, .blk b3 ([.slice s5_A s5_n s5_c, .bool y7_1]) 69, .blk b2 ([.slice a1_0_A a1_0_n a1_0_c, .slice a1_1_A a1_1_n a1_1_c]) 27, .blk b1 ([.int .i64 a0_0, .int .i64 a0_1, .int .i32 a0_2, .int .i64 a0_3, .int .i32 a0_4, .int .i32 a0_5, .int .i64 a0_6, .int .i64 a0_7]) 23] [.rowL (CI .u8) a1_0_A a1_0_n a1_0_c a1_0, .rowL (CA .i32 256 (by decide)) a1_1_A a1_1_n a1_1_c a1_1] w ∧ ∃ g : Nat → Value, a = ⟨#[.pointer (some ⟨b3, 0, none⟩), .slice a1_1_A a1_1_n a1_1_c, .int .i64 a0_0, .agg #[.int .i32 (-1), .int .i32 1023], undef, undef, undef, .pointer (some ⟨b6, 0, none⟩), undef, undef, undef, (g 11), (g 12), (g 13), (g 14), (g 15), (g 16), (g 17), (g 18), (g 19), (g 20), (g 21), (g 22), (g 23), undef, undef, undef, undef, undef, undef, undef, undef, undef, undef, undef, undef, undef, undef, undef, undef, undef, undef, undef, undef, undef, undef, undef, undef, undef, undef, undef, undef, undef, undef, undef, undef, undef], []⟩) (fun N nj => ?_) ?_
  · clear h
    have h := hj
    refine wp_regS (l := [0, 1, 2, 3, 4, 5, 6, 7, 8, 9, 10, 11, 12, 13]) (by kernel_rfl) (by kernel_rfl) fun KR87 kr87 => ?_
    refine wpS.take 0 false (some 11) (.pointer (some ⟨b3, 0, none⟩)) (by kernel_rfl) (yld fun _ => by kernel_rfl) ?_
    refine wpS.take 1 false (some 12) (.pointer (some ⟨b3, 0, none⟩)) (by kernel_rfl) (yld fun _ => by kernel_rfl) ?_
    refine wpS.take 2 false (some 13) (.pointer (some ⟨b3, 0, none⟩)) (by kernel_rfl) (yld fun _ => by kernel_rfl) ?_
    refine wpS.take 3 false (some 14) (.pointer (some ⟨b3, 1, none⟩)) (by kernel_rfl) (yld fun _ => by kernel_rfl) ?_
    cases x4 with
    | true =>
      have h := of_if_t h
      refine wpS.take 4 true (some 15) (.bool true) (by kernel_rfl) (yld_load1 (e := 4) (o := 1) hs 2 rfl (by kernel_rfl) (by kernel_rfl) (by rfl) .grow) ?_
      refine wpS.take 5 false (some 16) (.bool true) (by kernel_rfl) (yld fun _ => by kernel_rfl) ?_
      refine wpS.take 6 false (some 17) (undef) (by kernel_rfl) (yld fun _ => by kernel_rfl) ?_
      refine wpS.take 7 false (some 18) (undef) (by kernel_rfl) (yld fun _ => by kernel_rfl) ?_
      refine wpS.take 8 false (some 19) (undef) (by kernel_rfl) (yld fun _ => by kernel_rfl) ?_
      refine wpS.take 9 false (some 20) (undef) (by kernel_rfl) (yld fun _ => by kernel_rfl) ?_
      refine wpS.take 10 false (some 21) (.bool true) (by kernel_rfl) (yld fun _ => by kernel_rfl) ?_
      refine wpS.take 11 false (some 22) (.pointer (some ⟨b3, 0, none⟩)) (by kernel_rfl) (yld fun _ => by kernel_rfl) ?_
      refine wpS.take 12 false (some 23) (.pointer (some ⟨b3, 1, none⟩)) (by kernel_rfl) (yld fun _ => by kernel_rfl) ?_
      refine wpS.only 13 (op_store1 (t := 4) (o := 1) (v := .bool true) (d := none) (by kernel_rfl) hs 2 rfl (by kernel_rfl) rfl (by kernel_rfl) (by simp) ?_)
      intro w kp hs
      refine ⟨fun _ => trivial, ?_⟩
      refine wpS.fin rfl (kr87 _ _ ?_)
      have q0 := of_some h
      subst q0
      exact nj _ _ ⟨(hs.conv rfl), exg (by kernel_rfl)⟩
    | false =>
      have h := of_if_f h
      refine wpS.take 4 true (some 15) (.bool false) (by kernel_rfl) (yld_load1 (e := 4) (o := 1) hs 2 rfl (by kernel_rfl) (by kernel_rfl) (by rfl) .grow) ?_
      refine wpS.take 5 false (some 16) (.bool false) (by kernel_rfl) (yld fun _ => by kernel_rfl) ?_
      refine wpS.take 6 false (some 17) (.slice a1_1_A a1_1_n a1_1_c) (by kernel_rfl) (yld fun _ => by kernel_rfl) ?_
      refine wpS.take 7 false (some 18) (.int .i64 (a1_1.length : Int)) (by kernel_rfl) (yld_lenL (hs.rowR 1 rfl) (fun _ => by kernel_rfl)) ?_
      refine wpS.take 8 false (some 19) (.int .i64 a0_0) (by kernel_rfl) (yld fun _ => by kernel_rfl) ?_
      refine wpS.take 9 false (some 20) (.bool ((a1_1.length : Int) != a0_0)) (by kernel_rfl) (yld fun _ => by kernel_rfl) ?_
      refine wpS.take 10 false (some 21) (.bool ((a1_1.length : Int) != a0_0)) (by kernel_rfl) (yld fun _ => by kernel_rfl) ?_
      refine wpS.take 11 false (some 22) (.pointer (some ⟨b3, 0, none⟩)) (by kernel_rfl) (yld fun _ => by kernel_rfl) ?_
      refine wpS.take 12 false (some 23) (.pointer (some ⟨b3, 1, none⟩)) (by kernel_rfl) (yld fun _ => by kernel_rfl) ?_
      obtain ⟨x8, hx, h⟩ := of_bind h
      refine wpS.only 13 (op_store1 (t := 4) (o := 1) (v := .bool x8) (d := none) (by kernel_rfl) hs 2 rfl (by cases hx; kernel_rfl) rfl (by kernel_rfl) (by simp) ?_)
      intro w kp hs
      refine ⟨fun _ => trivial, ?_⟩
      refine wpS.fin rfl (kr87 _ _ ?_)
      have q0 := of_some h
      subst q0
      exact nj _ _ ⟨(hs.conv rfl), exg (by kernel_rfl)⟩
  · clear hj hs
    rintro a w ⟨hs, g, rfl⟩
    refine then_n (ks183 _ _ ?_)
    refine xseq_k fun KS88 ks88 => ?_
    refine wp_regS (l := [0, 1, 2]) (by kernel_rfl) (by kernel_rfl) fun KR89 kr89 => ?_
    refine wpS.take 0 false (some 24) (.slice a1_1_A a1_1_n a1_1_c) (by kernel_rfl) (yld fun _ => by kernel_rfl) ?_
    refine wpS.take 1 false (some 25) (.int .i64 (a1_1.length : Int)) (by kernel_rfl) (yld_lenL (hs.rowR 1 rfl) (fun _ => by kernel_rfl)) ?_
    refine wpS.take 2 false (some 26) (.int .i64 0) (by kernel_rfl) (yld fun _ => by kernel_rfl) ?_
    refine wpS.fin rfl (kr89 _ _ ?_)
    refine then_n (ks88 _ _ ?_)
    obtain ⟨⟨y12, y13_1⟩, hy, hk0⟩ := of_bind h
    refine wp_exq (N := fun a w => ∃ (y12_A : Option Addr) (y12_n : Nat) (y12_c : Nat), St w0 [] [.blk b6 ([.int .i32 (-1), .int .i32 1023]) 73, .ownL (CI .u8) y12_A y12_n y12_c y12 5, .blk b3 ([.slice y12_A y12_n y12_c, .bool y13_1]) 69, .blk b2 ([.slice a1_0_A a1_0_n a1_0_c, .slice a1_1_A a1_1_n a1_1_c]) 27, .blk b1 ([.int .i64 a0_0, .int .i64 a0_1, .int .i32 a0_2, .int .i64 a0_3, .int .i32 a0_4, .int .i32 a0_5, .int .i64 a0_6, .int .i64 a0_7]) 23] [.rowL (CI .u8) a1_0_A a1_0_n a1_0_c a1_0, .rowL (CA .i32 256 (by decide)) a1_1_A a1_1_n a1_1_c a1_1] w ∧ ∃ g : Nat → Value, a = ⟨#[.pointer (some ⟨b3, 0, none⟩), .slice a1_1_A a1_1_n a1_1_c, .int .i64 a0_0, .agg #[.int .i32 (-1), .int .i32 1023], undef, undef, undef, .pointer (some ⟨b6, 0, none⟩), undef, (g 9), (g 10), (g 11), (g 12), (g 13), (g 14), (g 15), (g 16), (g 17), (g 18), (g 19), (g 20), (g 21), (g 22), (g 23), .slice a1_1_A a1_1_n a1_1_c, .int .i64 (a1_1.length : Int), (g 26), (g 27), (g 28), (g 29), (g 30), (g 31), (g 32), (g 33), (g 34), (g 35), (g 36), (g 37), (g 38), (g 39), (g 40), (g 41), (g 42), (g 43), (g 44), (g 45), (g 46), (g 47), (g 48), (g 49), (g 50), (g 51), (g 52), (g 53), (g 54), (g 55), (g 56)], []⟩) (fun N0 nn0 => ?_) ?_
    · clear hk0
      refine xblock ?_
      refine wp_loop_k (fun n a w => ∃ z9 z10 z11_1, ∃ (z10_A : Option Addr) (z10_n : Nat) (z10_c : Nat), dpack_Public.l0 K n a1_1 z9 z10 z11_1 = some (y12, y13_1) ∧ St w0 [] [.blk b6 ([.int .i32 (-1), .int .i32 1023]) 73, .ownL (CI .u8) z10_A z10_n z10_c z10 5, .blk b3 ([.slice z10_A z10_n z10_c, .bool z11_1]) 69, .blk b2 ([.slice a1_0_A a1_0_n a1_0_c, .slice a1_1_A a1_1_n a1_1_c]) 27, .blk b1 ([.int .i64 a0_0, .int .i64 a0_1, .int .i32 a0_2, .int .i64 a0_3, .int .i32 a0_4, .int .i32 a0_5, .int .i64 a0_6, .int .i64 a0_7]) 23] [.rowL (CI .u8) a1_0_A a1_0_n a1_0_c a1_0, .rowL (CA .i32 256 (by decide)) a1_1_A a1_1_n a1_1_c a1_1] w ∧ ∃ g : Nat → Value, a = ⟨#[.pointer (some ⟨b3, 0, none⟩), .slice a1_1_A a1_1_n a1_1_c, .int .i64 a0_0, .agg #[.int .i32 (-1), .int .i32 1023], undef, undef, undef, .pointer (some ⟨b6, 0, none⟩), undef, (g 9), (g 10), (g 11), (g 12), (g 13), (g 14), (g 15), (g 16), (g 17), (g 18), (g 19), (g 20), (g 21), (g 22), (g 23), .slice a1_1_A a1_1_n a1_1_c, .int .i64 (a1_1.length : Int), .int .i64 z9, (g 27), (g 28), (g 29), (g 30), (g 31), (g 32), (g 33), (g 34), (g 35), (g 36), (g 37), (g 38), (g 39), (g 40), (g 41), (g 42), (g 43), (g 44), (g 45), (g 46), (g 47), (g 48), (g 49), (g 50), (g 51), (g 52), (g 53), (g 54), (g 55), (g 56)], []⟩) K ⟨0, (([] : List Int) ++ a1_0), y7_1, s5_A, s5_n, s5_c, hy, hs.conv rfl, exg (by kernel_rfl)⟩ ?_
      clear hs h hy
      rintro n a w ⟨z9, z10, z11_1, z10_A, z10_n, z10_c, h, hs, g, rfl⟩ KL0 kl0
      cases n with
      | zero => exact nomatch (show none = some _ from h)
      | succ n =>
        refine xseq_k fun KS118 ks118 => ?_
        refine wp_regS (l := [0]) (by kernel_rfl) (by kernel_rfl) fun KR119 kr119 => ?_
        rcases of_if h with ⟨hc, h⟩ | ⟨hc, h⟩
        · refine wpS.take 0 false (some 27) (.bool true) (by kernel_rfl) (yld_b (dt hc) (fun _ => by kernel_rfl)) ?_
          refine wpS.fin rfl (kr119 _ _ ?_)
          refine then_n (ks118 _ _ ?_)
          refine xseq_k fun KS120 ks120 => ?_
          refine wp_cond_t (by kernel_rfl) ?_
          refine xskip ?_
          refine then_n (ks120 _ _ ?_)
          refine xseq_k fun KS132 ks132 => ?_
          refine xblock ?_
          refine xseq_k fun KS133 ks133 => ?_
          refine wp_regS (l := [0, 1, 2, 3]) (by kernel_rfl) (by kernel_rfl) fun KR134 kr134 => ?_
          obtain ⟨h0, h⟩ := of_chk h
          obtain ⟨h1, h⟩ := of_chk h
          have i0_135 := h0
          have i1_135 := h1
          refine wpS.take 0 false (some 28) (.pointer (adr a1_1_A ((z9 : Int).toNat * Cod.size (CA .i32 256 (by decide))))) (by kernel_rfl) (yld_idxL (C := (CA .i32 256 (by decide))) (t := 25) (e := 40) (k := .i64) (x := z9) (hs.rowR 1 rfl) (by kernel_rfl) (by kernel_rfl) (by kernel_rfl) h0 h1) ?_
          refine wpS.take 1 true (some 29) (.agg (enc .i32 (rdL (CA .i32 256 (by decide)) a1_1 z9)).toArray) (by kernel_rfl) (yld_loadLA (C := (CA .i32 256 (by decide))) (e := 40) (x := z9) (hs.rowR 1 rfl) (by kernel_rfl) rfl (by kernel_rfl) (by kernel_rfl) i0_135 i1_135) ?_
          refine wpS.only 2 (op_alloc (t := 40) (d := (some 9)) (by kernel_rfl) hs (enc .i32 (zeroA 256)) (.agg (enc .i32 (zeroA 256)).toArray) (by kernel_rfl) (by kernel_rfl) (by kernel_rfl) ?_)
          intro b14 w gw hs
          refine ⟨fun _ => trivial, ?_⟩
          refine wpS.only 3 (op_storeW (t := 40) (v := .agg (enc .i32 (rdL (CA .i32 256 (by decide)) a1_1 z9)).toArray) (d := none) (by kernel_rfl) hs 0 rfl (vs := enc .i32 (rdL (CA .i32 256 (by decide)) a1_1 z9)) (n := 256) (by kernel_rfl) (by kernel_rfl) (by kernel_rfl) (by simp [enc_len]) (by simp [enc_len]) (by intro u hu; exact enc_one _ _ u hu) ?_)
          intro w kp hs
          refine ⟨fun _ => trivial, ?_⟩
          refine wpS.fin rfl (kr134 _ _ ?_)
          refine then_n (ks133 _ _ ?_)
          refine xseq_k fun KS136 ks136 => ?_
          refine wp_regS (l := [0, 1, 2, 3, 4, 5, 6]) (by kernel_rfl) (by kernel_rfl) fun KR137 kr137 => ?_
          refine wpS.take 0 true (some 30) (.agg (enc .i32 (rdL (CA .i32 256 (by decide)) a1_1 z9)).toArray) (by kernel_rfl) (yld_loadW (e := 40) (n := 256) hs 0 rfl (by kernel_rfl) (by kernel_rfl) (by kernel_rfl) (by exact enc_len _ _) .grow) ?_
          refine wpS.take 1 false (some 31) (.pointer (some ⟨b6, 0, none⟩)) (by kernel_rfl) (yld fun _ => by kernel_rfl) ?_
          refine wpS.take 2 true (some 32) (.int .i32 (-1)) (by kernel_rfl) (yld_load1 (e := 21) (o := 0) hs 1 rfl (by kernel_rfl) (by kernel_rfl) (by rfl) .grow) ?_
          refine wpS.take 3 false (some 33) (.pointer (some ⟨b6, 1, none⟩)) (by kernel_rfl) (yld fun _ => by kernel_rfl) ?_
          refine wpS.take 4 true (some 34) (.int .i32 1023) (by kernel_rfl) (yld_load1 (e := 21) (o := 1) hs 1 rfl (by kernel_rfl) (by kernel_rfl) (by rfl) .grow) ?_
          obtain ⟨r15, hg, h⟩ := of_bind h
          refine wpS.only 5 (op_callHF (d := (some 35)) (by kernel_rfl) hs (fun _ => by kernel_rfl) (dpack_Pack.ok hg _) ?_)
          rintro ⟨r15_A, r15_n, r15_c⟩ w hne138 gw hs
          have hs := hs.conv (L' := [.ownL (CI .u8) r15_A r15_n r15_c r15 5, .blk b14 (enc .i32 (rdL (CA .i32 256 (by decide)) a1_1 z9)) 40, .blk b6 ([.int .i32 (-1), .int .i32 1023]) 73, .ownL (CI .u8) z10_A z10_n z10_c z10 5, .blk b3 ([.slice z10_A z10_n z10_c, .bool z11_1]) 69, .blk b2 ([.slice a1_0_A a1_0_n a1_0_c, .slice a1_1_A a1_1_n a1_1_c]) 27, .blk b1 ([.int .i64 a0_0, .int .i64 a0_1, .int .i32 a0_2, .int .i64 a0_3, .int .i32 a0_4, .int .i32 a0_5, .int .i64 a0_6, .int .i64 a0_7]) 23]) rfl
          refine ⟨fun _ => trivial, ?_⟩
          refine wpS.take 6 false (some 10) (.slice r15_A r15_n r15_c) (by kernel_rfl) (yld fun _ => by kernel_rfl) ?_
          refine wpS.fin rfl (kr137 _ _ ?_)
          refine then_n (ks136 _ _ ?_)
          obtain ⟨y16_1, hj, h⟩ := of_bind h
          refine xseq_k fun KS144 ks144 => wp_join (N := fun a w => St w0 [] [.ownL (CI .u8) r15_A r15_n r15_c r15 5, .blk b14 (enc .i32 (rdL (CA .i32 256 (by decide)) a1_1 z9)) 40, .blk b6 ([.int .i32 (-1), .int .i32 1023]) 73, .ownL (CI .u8) z10_A z10_n z10_c z10 5, .blk b3 ([.slice z10_A z10_n z10_c, .bool y16_1]) 69, .blk b2 ([.slice a1_0_A a1_0_n a1_0_c, .slice a1_1_A a1_1_n a1_1_c]) 27, .blk b1 ([.int .i64 a0_0, .int .i64 a0_1, .int .i32 a0_2, .int .i64 a0_3, .int .i32 a0_4, .int .i32 a0_5, .int .i64 a0_6, .int .i64 a0_7]) 23] [.rowL (CI .u8) a1_0_A a1_0_n a1_0_c a1_0, .rowL (CA .i32 256 (by decide)) a1_1_A a1_1_n a1_1_c a1_1] w ∧ ∃ g : Nat → Value, a = ⟨#[.pointer (some ⟨b3, 0, none⟩), .slice a1_1_A a1_1_n a1_1_c, .int .i64 a0_0, .agg #[.int .i32 (-1), .int .i32 1023], undef, undef, undef, .pointer (some ⟨b6, 0, none⟩), undef, .pointer (some ⟨b14, 0, none⟩), .slice r15_A r15_n r15_c, (g 11), (g 12), (g 13), (g 14), (g 15), (g 16), (g 17), (g 18), (g 19), (g 20), (g 21), (g 22), (g 23), .slice a1_1_A a1_1_n a1_1_c, .int .i64 (a1_1.length : Int), .int .i64 z9, .bool true, .pointer (adr a1_1_A ((z9 : Int).toNat * Cod.size (CA .i32 256 (by decide)))), .agg (enc .i32 (rdL (CA .i32 256 (by decide)) a1_1 z9)).toArray, .agg (enc .i32 (rdL (CA .i32 256 (by decide)) a1_1 z9)).toArray, .pointer (some ⟨b6, 0, none⟩), .int .i32 (-1), .pointer (some ⟨b6, 1, none⟩), .int .i32 1023, .slice r15_A r15_n r15_c, (g 36), (g 37), (g 38), (g 39), (g 40), (g 41), (g 42), (g 43), (g 44), (g 45), (g 46), (g 47), (g 48), (g 49), (g 50), (g 51), (g 52), (g 53), (g 54), (g 55), (g 56)], []⟩) (fun N nj => ?_) ?_
          · clear h
            have h := hj
            refine wp_regS (l := [0, 1, 2, 3, 4, 5, 6, 7, 8, 9, 10, 11]) (by kernel_rfl) (by kernel_rfl) fun KR141 kr141 => ?_
            refine wpS.take 0 false (some 36) (.pointer (some ⟨b3, 0, none⟩)) (by kernel_rfl) (yld fun _ => by kernel_rfl) ?_
            refine wpS.take 1 false (some 37) (.pointer (some ⟨b3, 0, none⟩)) (by kernel_rfl) (yld fun _ => by kernel_rfl) ?_
            refine wpS.take 2 false (some 38) (.pointer (some ⟨b3, 0, none⟩)) (by kernel_rfl) (yld fun _ => by kernel_rfl) ?_
            refine wpS.take 3 false (some 39) (.pointer (some ⟨b3, 1, none⟩)) (by kernel_rfl) (yld fun _ => by kernel_rfl) ?_
            cases z11_1 with
            | true =>
              have h := of_if_t h
              refine wpS.take 4 true (some 40) (.bool true) (by kernel_rfl) (yld_load1 (e := 4) (o := 1) hs 4 rfl (by kernel_rfl) (by kernel_rfl) (by rfl) .grow) ?_
              refine wpS.take 5 false (some 41) (.bool true) (by kernel_rfl) (yld fun _ => by kernel_rfl) ?_
              refine wpS.take 6 false (some 42) (undef) (by kernel_rfl) (yld fun _ => by kernel_rfl) ?_
              refine wpS.take 7 false (some 43) (undef) (by kernel_rfl) (yld fun _ => by kernel_rfl) ?_
              refine wpS.take 8 false (some 44) (.bool true) (by kernel_rfl) (yld fun _ => by kernel_rfl) ?_
              refine wpS.take 9 false (some 45) (.pointer (some ⟨b3, 0, none⟩)) (by kernel_rfl) (yld fun _ => by kernel_rfl) ?_
              refine wpS.take 10 false (some 46) (.pointer (some ⟨b3, 1, none⟩)) (by kernel_rfl) (yld fun _ => by kernel_rfl) ?_
              refine wpS.only 11 (op_store1 (t := 4) (o := 1) (v := .bool true) (d := none) (by kernel_rfl) hs 4 rfl (by kernel_rfl) rfl (by kernel_rfl) (by simp) ?_)
              intro w kp hs
              refine ⟨fun _ => trivial, ?_⟩
              refine wpS.fin rfl (kr141 _ _ ?_)
              have q0 := of_some h
              subst q0
              exact nj _ _ ⟨(hs.conv rfl), exg (by kernel_rfl)⟩
            | false =>
              have h := of_if_f h
              refine wpS.take 4 true (some 40) (.bool false) (by kernel_rfl) (yld_load1 (e := 4) (o := 1) hs 4 rfl (by kernel_rfl) (by kernel_rfl) (by rfl) .grow) ?_
              refine wpS.take 5 false (some 41) (.bool false) (by kernel_rfl) (yld fun _ => by kernel_rfl) ?_
              refine wpS.take 6 false (some 42) (.slice r15_A r15_n r15_c) (by kernel_rfl) (yld fun _ => by kernel_rfl) ?_
              refine wpS.take 7 false (some 43) (.bool ((r15).isEmpty)) (by kernel_rfl) (yld_nilS (t := 24) (e := 5) (C := (CI .u8)) (.tmp 42) (.const (.slice none 0 0)) (hs.rowL 0 rfl) hne138 (by kernel_rfl) (by kernel_rfl) (by kernel_rfl)) ?_
              refine wpS.take 8 false (some 44) (.bool ((r15).isEmpty)) (by kernel_rfl) (yld fun _ => by kernel_rfl) ?_
              refine wpS.take 9 false (some 45) (.pointer (some ⟨b3, 0, none⟩)) (by kernel_rfl) (yld fun _ => by kernel_rfl) ?_
              refine wpS.take 10 false (some 46) (.pointer (some ⟨b3, 1, none⟩)) (by kernel_rfl) (yld fun _ => by kernel_rfl) ?_
              obtain ⟨x17, hx, h⟩ := of_bind h
              refine wpS.only 11 (op_store1 (t := 4) (o := 1) (v := .bool x17) (d := none) (by kernel_rfl) hs 4 rfl (by cases hx; kernel_rfl) rfl (by kernel_rfl) (by simp) ?_)
              intro w kp hs
              refine ⟨fun _ => trivial, ?_⟩
              refine wpS.fin rfl (kr141 _ _ ?_)
              have q0 := of_some h
              subst q0
              exact nj _ _ ⟨(hs.conv rfl), exg (by kernel_rfl)⟩
          · clear hj hs
            rintro a w ⟨hs, g, rfl⟩
            refine then_n (ks144 _ _ ?_)
            refine wp_regS (l := [0, 1, 2, 3, 4, 5, 6, 7, 8, 9]) (by kernel_rfl) (by kernel_rfl) fun KR142 kr142 => ?_
            refine wpS.take 0 false (some 47) (.pointer (some ⟨b3, 0, none⟩)) (by kernel_rfl) (yld fun _ => by kernel_rfl) ?_
            refine wpS.take 1 false (some 48) (.pointer (some ⟨b3, 0, none⟩)) (by kernel_rfl) (yld fun _ => by kernel_rfl) ?_
            refine wpS.take 2 false (some 49) (.pointer (some ⟨b3, 0, none⟩)) (by kernel_rfl) (yld fun _ => by kernel_rfl) ?_
            refine wpS.take 3 false (some 50) (.pointer (some ⟨b3, 0, none⟩)) (by kernel_rfl) (yld fun _ => by kernel_rfl) ?_
            refine wpS.take 4 true (some 51) (.slice z10_A z10_n z10_c) (by kernel_rfl) (yld_load1 (e := 24) (o := 0) hs 4 rfl (by kernel_rfl) (by kernel_rfl) (by rfl) .grow) ?_
            refine wpS.take 5 false (some 52) (.slice r15_A r15_n r15_c) (by kernel_rfl) (yld fun _ => by kernel_rfl) ?_
            obtain ⟨h0, h⟩ := of_chk h
            refine wpS.only 6 (op_appendT (C := (CI .u8)) (t := 24) (ty := 24) (e := 5) (bytes := 1) (B := 140737488355328) (d := (some 53)) (by kernel_rfl) hs 3 rfl (hs.rowL 0 rfl) (by kernel_rfl) (by kernel_rfl) (by kernel_rfl) (by kernel_rfl) (by kernel_rfl) h0 (by decide) (by decide) ?_)
            intro s18_A s18_n s18_c w hs
            refine ⟨fun _ => trivial, ?_⟩
            refine wpS.take 7 false (some 54) (.pointer (some ⟨b3, 0, none⟩)) (by kernel_rfl) (yld fun _ => by kernel_rfl) ?_
            refine wpS.take 8 false (some 55) (.pointer (some ⟨b3, 0, none⟩)) (by kernel_rfl) (yld fun _ => by kernel_rfl) ?_
            refine wpS.only 9 (op_store1 (t := 24) (o := 0) (v := .slice s18_A s18_n s18_c) (d := none) (by kernel_rfl) hs 4 rfl (by kernel_rfl) rfl (by kernel_rfl) (by simp) ?_)
            intro w kp hs
            refine ⟨fun _ => trivial, ?_⟩
            refine wpS.fin rfl (kr142 _ _ ?_)
            refine inBlock_n ?_
            refine then_n (ks132 _ _ ?_)
            refine wp_regS (l := [0, 1]) (by kernel_rfl) (by kernel_rfl) fun KR143 kr143 => ?_
            refine wpS.take 0 false (some 56) (.int .i64 (iadd .i64 z9 1)) (by kernel_rfl) (yld fun _ => by kernel_rfl) ?_
            refine wpS.take 1 false (some 26) (.int .i64 (iadd .i64 z9 1)) (by kernel_rfl) (yld fun _ => by kernel_rfl) ?_
            refine wpS.fin rfl (kr143 _ _ ?_)
            exact then_n (kl0 _ _ ⟨n, Nat.lt_succ_self n, (iadd .i64 z9 1), (z10 ++ r15), y16_1, s18_A, s18_n, s18_c, h, ((hs.conv (L' := [.ownL (CI .u8) r15_A r15_n r15_c r15 5, .blk b14 (enc .i32 (rdL (CA .i32 256 (by decide)) a1_1 z9)) 40, .blk b6 ([.int .i32 (-1), .int .i32 1023]) 73, .ownL (CI .u8) s18_A s18_n s18_c (z10 ++ r15) 5, .blk b3 ([.slice s18_A s18_n s18_c, .bool y16_1]) 69, .blk b2 ([.slice a1_0_A a1_0_n a1_0_c, .slice a1_1_A a1_1_n a1_1_c]) 27, .blk b1 ([.int .i64 a0_0, .int .i64 a0_1, .int .i32 a0_2, .int .i64 a0_3, .int .i32 a0_4, .int .i32 a0_5, .int .i64 a0_6, .int .i64 a0_7]) 23]) rfl).drop (.cons _ (.cons _ (.cons_cons _ (.cons_cons _ (.cons_cons _ (.cons_cons _ (.cons_cons _ .slnil)))))))), exg (by kernel_rfl)⟩)
        · refine wpS.take 0 false (some 27) (.bool false) (by kernel_rfl) (yld_b (df hc) (fun _ => by kernel_rfl)) ?_
          refine wpS.fin rfl (kr119 _ _ ?_)
          refine then_n (ks118 _ _ ?_)
          refine xseq_k fun KS145 ks145 => ?_
          refine wp_cond_f (by kernel_rfl) ?_
          refine xexit ?_
          refine then_x ?_
          refine then_x ?_
          refine inBlock_hit ?_
          obtain ⟨q0, qr0⟩ := Prod.mk.inj (of_some h)
          have q1 := qr0
          subst q0
          subst q1
          exact exq_n (nn0 _ _ ⟨z10_A, z10_n, z10_c, (hs.conv rfl), exg (by kernel_rfl)⟩)
    · clear hs h hy
      rintro a w ⟨y12_A, y12_n, y12_c, hs, g, rfl⟩
      have h := hk0
      refine qn18 _ _ (post_nrm (by kernel_rfl) (run_results [] [] (by kernel_rfl) .nil) ?_)
      refine kI18 _ _ ?_
      refine ⟨fun _ => trivial, ?_⟩
      refine wpS.fin rfl (kr17 _ _ ?_)
      refine then_n (ks16 _ _ ?_)
      refine xseq_k fun KS146 ks146 => ?_
      refine wp_regS (l := [0, 1, 2, 3]) (by kernel_rfl) (by kernel_rfl) fun KR147 kr147 => ?_
      refine wpS.take 0 false (some 19) (.pointer (some ⟨b3, 0, none⟩)) (by kernel_rfl) (yld fun _ => by kernel_rfl) ?_
      refine wpS.take 1 true (some 20) (.agg #[.int .i64 a0_0, .int .i64 a0_1, .int .i32 a0_2, .int .i64 a0_3, .int .i32 a0_4, .int .i32 a0_5, .int .i64 a0_6, .int .i64 a0_7]) (by kernel_rfl) (yld_loadW (e := 23) (n := 8) hs 4 rfl (by kernel_rfl) (by kernel_rfl) (by kernel_rfl) (by simp [enc_len]) .grow) ?_
      obtain ⟨y19, hj, h⟩ := of_bind h
      refine wpS.only 2 (op_inlineJ (d := (some 21)) (f := 40) (args := #[.pointer (some ⟨b3, 0, none⟩), .agg #[.int .i64 a0_0, .int .i64 a0_1, .int .i32 a0_2, .int .i64 a0_3, .int .i32 a0_4, .int .i32 a0_5, .int .i64 a0_6, .int .i64 a0_7]]) (by kernel_rfl) (fun _ => by kernel_rfl) (N := fun v w => ∃ (y19_A : Option Addr) (y19_n : Nat) (y19_c : Nat), v = .slice y19_A y19_n y19_c ∧ St w0 [] [.ownL (CI .u8) y19_A y19_n y19_c y19 5, .blk b6 ([.int .i32 (-1), .int .i32 1023]) 73, .blk b3 ([.slice y12_A y12_n y12_c, .bool y13_1]) 69, .blk b2 ([.slice a1_0_A a1_0_n a1_0_c, .slice a1_1_A a1_1_n a1_1_c]) 27, .blk b1 ([.int .i64 a0_0, .int .i64 a0_1, .int .i32 a0_2, .int .i64 a0_3, .int .i32 a0_4, .int .i32 a0_5, .int .i64 a0_6, .int .i64 a0_7]) 23] [.rowL (CI .u8) a1_0_A a1_0_n a1_0_c a1_0, .rowL (CA .i32 256 (by decide)) a1_1_A a1_1_n a1_1_c a1_1] w) (fun R148 kI148 => ?_) ?_)
      · clear h
        have h := hj
        refine calls_k Try.func40 rfl fun Q148 qq148 => ?_
        refine wp_conv (a' := ⟨#[.pointer (some ⟨b3, 0, none⟩), .agg #[.int .i64 a0_0, .int .i64 a0_1, .int .i32 a0_2, .int .i64 a0_3, .int .i32 a0_4, .int .i32 a0_5, .int .i64 a0_6, .int .i64 a0_7], undef, undef, undef, undef, undef, undef, undef, undef, undef, undef, undef, undef, undef, undef, undef, undef], []⟩) (by kernel_rfl) ?_
        refine xseq_k fun KS166 ks166 => ?_
        refine wp_regS (l := [0, 1]) (by kernel_rfl) (by kernel_rfl) fun KR167 kr167 => ?_
        refine wpS.only 0 (op_box (t := 23) (v := .agg #[.int .i64 a0_0, .int .i64 a0_1, .int .i32 a0_2, .int .i64 a0_3, .int .i32 a0_4, .int .i32 a0_5, .int .i64 a0_6, .int .i64 a0_7]) (d := (some 3)) (by kernel_rfl) hs ([.int .i64 a0_0, .int .i64 a0_1, .int .i32 a0_2, .int .i64 a0_3, .int .i32 a0_4, .int .i32 a0_5, .int .i64 a0_6, .int .i64 a0_7]) (by kernel_rfl) (by kernel_rfl) ?_)
        intro b20 w gw hs
        refine ⟨fun _ => trivial, ?_⟩
        refine wpS.take 1 false (some 4) (.slice none 0 0) (by kernel_rfl) (yld fun _ => by kernel_rfl) ?_
        refine wpS.fin rfl (kr167 _ _ ?_)
        refine then_n (ks166 _ _ ?_)
        refine xseq_k fun KS174 ks174 => ?_
        refine xseq_k fun KS175 ks175 => ?_
        refine wp_regS (l := [0, 1, 2, 3, 4, 5, 6, 7, 8]) (by kernel_rfl) (by kernel_rfl) fun KR176 kr176 => ?_
        refine wpS.take 0 false (some 5) (.pointer (some ⟨b3, 0, none⟩)) (by kernel_rfl) (yld fun _ => by kernel_rfl) ?_
        refine wpS.take 1 false (some 6) (.pointer (some ⟨b3, 0, none⟩)) (by kernel_rfl) (yld fun _ => by kernel_rfl) ?_
        refine wpS.take 2 false (some 7) (.pointer (some ⟨b3, 1, none⟩)) (by kernel_rfl) (yld fun _ => by kernel_rfl) ?_
        cases y13_1 with
        | true =>
          have h := of_if_t h
          refine wpS.take 3 true (some 8) (.bool true) (by kernel_rfl) (yld_load1 (e := 4) (o := 1) hs 3 rfl (by kernel_rfl) (by kernel_rfl) (by rfl) .grow) ?_
          refine wpS.take 4 false (some 9) (.bool true) (by kernel_rfl) (yld fun _ => by kernel_rfl) ?_
          refine wpS.take 5 false (some 10) (undef) (by kernel_rfl) (yld fun _ => by kernel_rfl) ?_
          refine wpS.take 6 false (some 11) (undef) (by kernel_rfl) (yld fun _ => by kernel_rfl) ?_
          refine wpS.take 7 false (some 12) (undef) (by kernel_rfl) (yld fun _ => by kernel_rfl) ?_
          refine wpS.take 8 false (some 13) (.bool true) (by kernel_rfl) (yld fun _ => by kernel_rfl) ?_
          refine wpS.fin rfl (kr176 _ _ ?_)
          refine then_n (ks175 _ _ ?_)
          refine wp_cond_t (by kernel_rfl) ?_
          refine xseq_k fun KS177 ks177 => ?_
          refine wp_regS (l := [0]) (by kernel_rfl) (by kernel_rfl) fun KR178 kr178 => ?_
          refine wpS.take 0 false (some 4) (.slice none 0 0) (by kernel_rfl) (yld fun _ => by kernel_rfl) ?_
          refine wpS.fin rfl (kr178 _ _ ?_)
          refine then_n (ks177 _ _ ?_)
          refine xret ?_
          refine then_r ?_
          have q0 := of_some h
          subst q0
          have hs := hs.addNilL (CI .u8) 5
          exact qq148 _ _ (post_ret (by kernel_rfl) (run_results [.tmp 4] [.slice none 0 0] (by kernel_rfl) (.cons (res_tmp (by kernel_rfl)) .nil)) (kI148 _ _ ⟨none, 0, 0, rfl, ((hs.conv (L' := [.ownL (CI .u8) none 0 0 ([] : List Int) 5, .blk b20 ([.int .i64 a0_0, .int .i64 a0_1, .int .i32 a0_2, .int .i64 a0_3, .int .i32 a0_4, .int .i32 a0_5, .int .i64 a0_6, .int .i64 a0_7]) 23, .blk b6 ([.int .i32 (-1), .int .i32 1023]) 73, .ownL (CI .u8) y12_A y12_n y12_c y12 5, .blk b3 ([.slice y12_A y12_n y12_c, .bool true]) 69, .blk b2 ([.slice a1_0_A a1_0_n a1_0_c, .slice a1_1_A a1_1_n a1_1_c]) 27, .blk b1 ([.int .i64 a0_0, .int .i64 a0_1, .int .i32 a0_2, .int .i64 a0_3, .int .i32 a0_4, .int .i32 a0_5, .int .i64 a0_6, .int .i64 a0_7]) 23]) rfl).drop (.cons_cons _ (.cons _ (.cons_cons _ (.cons _ (.cons_cons _ (.cons_cons _ (.cons_cons _ .slnil))))))))⟩))
        | false =>
          have h := of_if_f h
          refine wpS.take 3 true (some 8) (.bool false) (by kernel_rfl) (yld_load1 (e := 4) (o := 1) hs 3 rfl (by kernel_rfl) (by kernel_rfl) (by rfl) .grow) ?_
          refine wpS.take 4 false (some 9) (.bool false) (by kernel_rfl) (yld fun _ => by kernel_rfl) ?_
          refine wpS.take 5 true (some 10) (.agg #[.int .i64 a0_0, .int .i64 a0_1, .int .i32 a0_2, .int .i64 a0_3, .int .i32 a0_4, .int .i32 a0_5, .int .i64 a0_6, .int .i64 a0_7]) (by kernel_rfl) (yld_loadW (e := 23) (n := 8) hs 0 rfl (by kernel_rfl) (by kernel_rfl) (by kernel_rfl) (by simp [enc_len]) .grow) ?_
          obtain ⟨r21, hg, h⟩ := of_bind h
          cases r21 with
          | true =>
            have h := of_if_t h
            refine wpS.only 6 (op_call (d := (some 11)) (by kernel_rfl) hs (fun _ => by kernel_rfl) (dpack_known.ok hg _) ?_)
            intro w gw hs
            refine ⟨fun _ => trivial, ?_⟩
            refine wpS.take 7 false (some 12) (.bool false) (by kernel_rfl) (yld fun _ => by kernel_rfl) ?_
            refine wpS.take 8 false (some 13) (.bool false) (by kernel_rfl) (yld fun _ => by kernel_rfl) ?_
            refine wpS.fin rfl (kr176 _ _ ?_)
            refine then_n (ks175 _ _ ?_)
            refine wp_cond_f (by kernel_rfl) ?_
            refine xskip ?_
            refine then_n (ks174 _ _ ?_)
            refine xseq_k fun KS179 ks179 => ?_
            refine wp_regS (l := [0, 1, 2, 3, 4]) (by kernel_rfl) (by kernel_rfl) fun KR180 kr180 => ?_
            refine wpS.take 0 false (some 14) (.pointer (some ⟨b3, 0, none⟩)) (by kernel_rfl) (yld fun _ => by kernel_rfl) ?_
            refine wpS.take 1 false (some 15) (.pointer (some ⟨b3, 0, none⟩)) (by kernel_rfl) (yld fun _ => by kernel_rfl) ?_
            refine wpS.take 2 false (some 16) (.pointer (some ⟨b3, 0, none⟩)) (by kernel_rfl) (yld fun _ => by kernel_rfl) ?_
            refine wpS.take 3 true (some 17) (.slice y12_A y12_n y12_c) (by kernel_rfl) (yld_load1 (e := 24) (o := 0) hs 3 rfl (by kernel_rfl) (by kernel_rfl) (by rfl) .grow) ?_
            refine wpS.take 4 false (some 4) (.slice y12_A y12_n y12_c) (by kernel_rfl) (yld fun _ => by kernel_rfl) ?_
            refine wpS.fin rfl (kr180 _ _ ?_)
            refine then_n (ks179 _ _ ?_)
            refine xret ?_
            have q0 := of_some h
            subst q0
            have hs := (hs.front 5 rfl).conv (L' := [.blk b1 ([.int .i64 a0_0, .int .i64 a0_1, .int .i32 a0_2, .int .i64 a0_3, .int .i32 a0_4, .int .i32 a0_5, .int .i64 a0_6, .int .i64 a0_7]) 23, .blk b20 ([.int .i64 a0_0, .int .i64 a0_1, .int .i32 a0_2, .int .i64 a0_3, .int .i32 a0_4, .int .i32 a0_5, .int .i64 a0_6, .int .i64 a0_7]) 23, .blk b6 ([.int .i32 (-1), .int .i32 1023]) 73, .ownL (CI .u8) y12_A y12_n y12_c y12 5, .blk b3 ([.slice y12_A y12_n y12_c, .bool false]) 69, .blk b2 ([.slice a1_0_A a1_0_n a1_0_c, .slice a1_1_A a1_1_n a1_1_c]) 27]) rfl
            have hs := (hs.front 5 rfl).conv (L' := [.blk b2 ([.slice a1_0_A a1_0_n a1_0_c, .slice a1_1_A a1_1_n a1_1_c]) 27, .blk b1 ([.int .i64 a0_0, .int .i64 a0_1, .int .i32 a0_2, .int .i64 a0_3, .int .i32 a0_4, .int .i32 a0_5, .int .i64 a0_6, .int .i64 a0_7]) 23, .blk b20 ([.int .i64 a0_0, .int .i64 a0_1, .int .i32 a0_2, .int .i64 a0_3, .int .i32 a0_4, .int .i32 a0_5, .int .i64 a0_6, .int .i64 a0_7]) 23, .blk b6 ([.int .i32 (-1), .int .i32 1023]) 73, .ownL (CI .u8) y12_A y12_n y12_c y12 5, .blk b3 ([.slice y12_A y12_n y12_c, .bool false]) 69]) rfl
            have hs := (hs.front 5 rfl).conv (L' := [.blk b3 ([.slice y12_A y12_n y12_c, .bool false]) 69, .blk b2 ([.slice a1_0_A a1_0_n a1_0_c, .slice a1_1_A a1_1_n a1_1_c]) 27, .blk b1 ([.int .i64 a0_0, .int .i64 a0_1, .int .i32 a0_2, .int .i64 a0_3, .int .i32 a0_4, .int .i32 a0_5, .int .i64 a0_6, .int .i64 a0_7]) 23, .blk b20 ([.int .i64 a0_0, .int .i64 a0_1, .int .i32 a0_2, .int .i64 a0_3, .int .i32 a0_4, .int .i32 a0_5, .int .i64 a0_6, .int .i64 a0_7]) 23, .blk b6 ([.int .i32 (-1), .int .i32 1023]) 73, .ownL (CI .u8) y12_A y12_n y12_c y12 5]) rfl
            have hs := (hs.front 4 rfl).conv (L' := [.blk b6 ([.int .i32 (-1), .int .i32 1023]) 73, .blk b3 ([.slice y12_A y12_n y12_c, .bool false]) 69, .blk b2 ([.slice a1_0_A a1_0_n a1_0_c, .slice a1_1_A a1_1_n a1_1_c]) 27, .blk b1 ([.int .i64 a0_0, .int .i64 a0_1, .int .i32 a0_2, .int .i64 a0_3, .int .i32 a0_4, .int .i32 a0_5, .int .i64 a0_6, .int .i64 a0_7]) 23, .blk b20 ([.int .i64 a0_0, .int .i64 a0_1, .int .i32 a0_2, .int .i64 a0_3, .int .i32 a0_4, .int .i32 a0_5, .int .i64 a0_6, .int .i64 a0_7]) 23, .ownL (CI .u8) y12_A y12_n y12_c y12 5]) rfl
            have hs := (hs.front 5 rfl).conv (L' := [.ownL (CI .u8) y12_A y12_n y12_c y12 5, .blk b6 ([.int .i32 (-1), .int .i32 1023]) 73, .blk b3 ([.slice y12_A y12_n y12_c, .bool false]) 69, .blk b2 ([.slice a1_0_A a1_0_n a1_0_c, .slice a1_1_A a1_1_n a1_1_c]) 27, .blk b1 ([.int .i64 a0_0, .int .i64 a0_1, .int .i32 a0_2, .int .i64 a0_3, .int .i32 a0_4, .int .i32 a0_5, .int .i64 a0_6, .int .i64 a0_7]) 23, .blk b20 ([.int .i64 a0_0, .int .i64 a0_1, .int .i32 a0_2, .int .i64 a0_3, .int .i32 a0_4, .int .i32 a0_5, .int .i64 a0_6, .int .i64 a0_7]) 23]) rfl
            exact qq148 _ _ (post_ret (by kernel_rfl) (run_results [.tmp 4] [.slice y12_A y12_n y12_c] (by kernel_rfl) (.cons (res_tmp (by kernel_rfl)) .nil)) (kI148 _ _ ⟨y12_A, y12_n, y12_c, rfl, ((hs.conv (L' := [.ownL (CI .u8) y12_A y12_n y12_c y12 5, .blk b6 ([.int .i32 (-1), .int .i32 1023]) 73, .blk b3 ([.slice y12_A y12_n y12_c, .bool false]) 69, .blk b2 ([.slice a1_0_A a1_0_n a1_0_c, .slice a1_1_A a1_1_n a1_1_c]) 27, .blk b1 ([.int .i64 a0_0, .int .i64 a0_1, .int .i32 a0_2, .int .i64 a0_3, .int .i32 a0_4, .int .i32 a0_5, .int .i64 a0_6, .int .i64 a0_7]) 23, .blk b20 ([.int .i64 a0_0, .int .i64 a0_1, .int .i32 a0_2, .int .i64 a0_3, .int .i32 a0_4, .int .i32 a0_5, .int .i64 a0_6, .int .i64 a0_7]) 23]) rfl).drop (.cons_cons _ (.cons_cons _ (.cons_cons _ (.cons_cons _ (.cons_cons _ (.cons _ .slnil)))))))⟩))
          | false =>
            have h := of_if_f h
            refine wpS.only 6 (op_call (d := (some 11)) (by kernel_rfl) hs (fun _ => by kernel_rfl) (dpack_known.ok hg _) ?_)
            intro w gw hs
            refine ⟨fun _ => trivial, ?_⟩
            refine wpS.take 7 false (some 12) (.bool true) (by kernel_rfl) (yld fun _ => by kernel_rfl) ?_
            refine wpS.take 8 false (some 13) (.bool true) (by kernel_rfl) (yld fun _ => by kernel_rfl) ?_
            refine wpS.fin rfl (kr176 _ _ ?_)
            refine then_n (ks175 _ _ ?_)
            refine wp_cond_t (by kernel_rfl) ?_
            refine xseq_k fun KS181 ks181 => ?_
            refine wp_regS (l := [0]) (by kernel_rfl) (by kernel_rfl) fun KR182 kr182 => ?_
            refine wpS.take 0 false (some 4) (.slice none 0 0) (by kernel_rfl) (yld fun _ => by kernel_rfl) ?_
            refine wpS.fin rfl (kr182 _ _ ?_)
            refine then_n (ks181 _ _ ?_)
            refine xret ?_
            refine then_r ?_
            have q0 := of_some h
            subst q0
            have hs := hs.addNilL (CI .u8) 5
            exact qq148 _ _ (post_ret (by kernel_rfl) (run_results [.tmp 4] [.slice none 0 0] (by kernel_rfl) (.cons (res_tmp (by kernel_rfl)) .nil)) (kI148 _ _ ⟨none, 0, 0, rfl, ((hs.conv (L' := [.ownL (CI .u8) none 0 0 ([] : List Int) 5, .blk b20 ([.int .i64 a0_0, .int .i64 a0_1, .int .i32 a0_2, .int .i64 a0_3, .int .i32 a0_4, .int .i32 a0_5, .int .i64 a0_6, .int .i64 a0_7]) 23, .blk b6 ([.int .i32 (-1), .int .i32 1023]) 73, .ownL (CI .u8) y12_A y12_n y12_c y12 5, .blk b3 ([.slice y12_A y12_n y12_c, .bool false]) 69, .blk b2 ([.slice a1_0_A a1_0_n a1_0_c, .slice a1_1_A a1_1_n a1_1_c]) 27, .blk b1 ([.int .i64 a0_0, .int .i64 a0_1, .int .i32 a0_2, .int .i64 a0_3, .int .i32 a0_4, .int .i32 a0_5, .int .i64 a0_6, .int .i64 a0_7]) 23]) rfl).drop (.cons_cons _ (.cons _ (.cons_cons _ (.cons _ (.cons_cons _ (.cons_cons _ (.cons_cons _ .slnil))))))))⟩))
      · clear hj hs
        rintro v w ⟨y19_A, y19_n, y19_c, rfl, hs⟩
        refine ⟨fun _ => trivial, ?_⟩
        refine wpS.take 3 false (some 4) (.slice y19_A y19_n y19_c) (by kernel_rfl) (yld fun _ => by kernel_rfl) ?_
        refine wpS.fin rfl (kr147 _ _ ?_)
        refine then_n (ks146 _ _ ?_)
        refine xret ?_
        have q0 := of_some h
        subst q0
        exact qq _ _ (post_ret (by kernel_rfl) (run_results [.tmp 4] [.slice y19_A y19_n y19_c] (by kernel_rfl) (.cons (res_tmp (by kernel_rfl)) .nil)) ⟨⟨y19_A, y19_n, y19_c⟩, congrArg Ending.returned (by kernel_rfl), (((hs.conv (L' := [.ownL (CI .u8) y19_A y19_n y19_c y19 5, .blk b6 ([.int .i32 (-1), .int .i32 1023]) 73, .blk b3 ([.slice y12_A y12_n y12_c, .bool y13_1]) 69, .blk b2 ([.slice a1_0_A a1_0_n a1_0_c, .slice a1_1_A a1_1_n a1_1_c]) 27, .blk b1 ([.int .i64 a0_0, .int .i64 a0_1, .int .i32 a0_2, .int .i64 a0_3, .int .i32 a0_4, .int .i32 a0_5, .int .i64 a0_6, .int .i64 a0_7]) 23]) rfl).drop (.cons_cons _ (.cons _ (.cons _ (.cons _ (.cons _ .slnil)))))).pickR pick_nil)⟩)
end Go.Proofs.Ytblploekkjeolaa
