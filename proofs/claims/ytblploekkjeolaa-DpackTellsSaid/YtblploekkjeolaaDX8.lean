/- Printed by this work's own program: the code of each function below comes to the answer that its plain form tells. -/
import Derived.Test.YtblploekkjeolaaMj
import Derived.Test.YtblploekkjeolaaProg
import Derived.Test.YtblploekkjeolaaDF0
import Derived.Test.YtblploekkjeolaaDX2
import Derived.Test.YtblploekkjeolaaDX3
import Derived.Test.YtblploekkjeolaaDX7
set_option linter.unusedVariables false
set_option linter.unusedSimpArgs false
set_option maxRecDepth 100000
set_option maxHeartbeats 4000000
namespace Go.Proofs.Ytblploekkjeolaa
open Go.Mx
attribute [local irreducible] wpOp

theorem ref22_Pack.ok {K : Nat} {a0 : Arr 256} {a1 : Int} {a2 : Int} {r0 : List Int} (h : ref22_Pack.f K a0 a1 a2 = some r0) (w0 : World) : Calls Try.prog 26 #[.agg (enc .i32 a0).toArray, .int .i32 a1, .int .i32 a2] w0 fun e w' => ∃ h : (Option Addr × Nat × Nat), e = .returned (.slice h.1 h.2.1 h.2.2) ∧ St w0 [] [.ownL (CI .u8) h.1 h.2.1 h.2.2 r0 5] [] w' := by
  refine calls_k Try.func26 rfl fun Q qq => ?_
  have hs := St.start w0
  refine wp_conv (a' := ⟨#[.agg (enc .i32 a0).toArray, .int .i32 a1, .int .i32 a2, undef, undef, undef, undef, undef, undef, undef, undef, undef, undef, undef, undef, undef, undef, undef, undef, undef, undef, undef, undef, undef, undef, undef, undef, undef, undef, undef, undef, undef, undef, undef, undef, undef, undef, undef, undef, undef, undef, undef, undef, undef, undef, undef, undef, undef, undef, undef, undef, undef, undef, undef, undef, undef, undef, undef, undef, undef, undef], []⟩) (by kernel_rfl) ?_
  refine xseq_k fun KS1 ks1 => ?_
  refine wp_regS (l := [0, 1]) (by kernel_rfl) (by kernel_rfl) fun KR2 kr2 => ?_
  refine wpS.only 0 (op_box (t := 40) (v := .agg (enc .i32 a0).toArray) (d := (some 3)) (by kernel_rfl) hs (enc .i32 a0) (by kernel_rfl) (by kernel_rfl) ?_)
  intro b1 w gw hs
  refine ⟨fun _ => trivial, ?_⟩
  refine wpS.take 1 false (some 6) (.slice none 0 0) (by kernel_rfl) (yld fun _ => by kernel_rfl) ?_
  refine wpS.fin rfl (kr2 _ _ ?_)
  refine then_n (ks1 _ _ ?_)
  refine xseq_k fun KS9 ks9 => ?_
  refine xseq_k fun KS10 ks10 => ?_
  refine wp_regS (l := [0, 1, 2, 3, 4, 5, 6, 7, 8]) (by kernel_rfl) (by kernel_rfl) fun KR11 kr11 => ?_
  refine wpS.take 0 false (some 10) (.int .i32 a1) (by kernel_rfl) (yld fun _ => by kernel_rfl) ?_
  refine wpS.take 1 false (some 11) (.int .i32 a2) (by kernel_rfl) (yld fun _ => by kernel_rfl) ?_
  obtain ⟨r2, hg, h⟩ := of_bind h
  cases r2 with
  | true =>
    have h := of_if_t h
    refine wpS.only 2 (op_call (d := (some 12)) (by kernel_rfl) hs (fun _ => by kernel_rfl) (ref22_bounds.ok hg _) ?_)
    intro w gw hs
    refine ⟨fun _ => trivial, ?_⟩
    refine wpS.take 3 false (some 13) (.bool false) (by kernel_rfl) (yld fun _ => by kernel_rfl) ?_
    refine wpS.take 4 false (some 14) (.bool false) (by kernel_rfl) (yld fun _ => by kernel_rfl) ?_
    refine wpS.take 5 true (some 15) (.agg (enc .i32 a0).toArray) (by kernel_rfl) (yld_loadW (e := 40) (n := 256) hs 0 rfl (by kernel_rfl) (by kernel_rfl) (by kernel_rfl) (by exact enc_len _ _) .grow) ?_
    obtain ⟨r3, hg, h⟩ := of_bind h
    cases r3 with
    | true =>
      have h := of_if_t h
      refine wpS.only 6 (op_call (d := (some 16)) (by kernel_rfl) hs (fun _ => by kernel_rfl) (ref21_Fit.ok hg _) ?_)
      intro w gw hs
      refine ⟨fun _ => trivial, ?_⟩
      refine wpS.take 7 false (some 17) (.bool false) (by kernel_rfl) (yld fun _ => by kernel_rfl) ?_
      refine wpS.take 8 false (some 18) (.bool false) (by kernel_rfl) (yld fun _ => by kernel_rfl) ?_
      refine wpS.fin rfl (kr11 _ _ ?_)
      refine then_n (ks10 _ _ ?_)
      refine wp_cond_f (by kernel_rfl) ?_
      refine xskip ?_
      refine then_n (ks9 _ _ ?_)
      refine xseq_k fun KS12 ks12 => ?_
      refine wp_regS (l := [0]) (by kernel_rfl) (by kernel_rfl) fun KR13 kr13 => ?_
      refine wpS.take 0 false (some 7) (.slice none 0 0) (by kernel_rfl) (yld fun _ => by kernel_rfl) ?_
      refine wpS.fin rfl (kr13 _ _ ?_)
      refine then_n (ks12 _ _ ?_)
      refine xseq_k fun KS364 ks364 => ?_
      refine xseq_k fun KS365 ks365 => ?_
      refine wp_regS (l := [0]) (by kernel_rfl) (by kernel_rfl) fun KR366 kr366 => ?_
      refine wpS.take 0 false (some 8) (.int .i64 0) (by kernel_rfl) (yld fun _ => by kernel_rfl) ?_
      refine wpS.fin rfl (kr366 _ _ ?_)
      refine then_n (ks365 _ _ ?_)
      have hs := hs.addNilL (CI .u32) 84
      obtain ⟨t0, hy, hk0⟩ := of_bind h
      refine wp_exq (N := fun a w => ∃ y6, ∃ (y6_A : Option Addr) (y6_n : Nat) (y6_c : Nat), t0 = .inl y6 ∧ St w0 [] [.ownL (CI .u32) y6_A y6_n y6_c y6 84, .blk b1 (enc .i32 a0) 40] [] w ∧ ∃ g : Nat → Value, a = ⟨#[.agg (enc .i32 a0).toArray, .int .i32 a1, .int .i32 a2, .pointer (some ⟨b1, 0, none⟩), undef, undef, (g 6), .slice y6_A y6_n y6_c, (g 8), (g 9), .int .i32 a1, .int .i32 a2, .bool true, .bool false, .bool false, .agg (enc .i32 a0).toArray, .bool true, .bool false, .bool false, (g 19), (g 20), (g 21), (g 22), (g 23), (g 24), (g 25), (g 26), (g 27), (g 28), (g 29), (g 30), (g 31), (g 32), (g 33), (g 34), (g 35), (g 36), (g 37), (g 38), (g 39), (g 40), (g 41), (g 42), (g 43), (g 44), (g 45), (g 46), (g 47), (g 48), (g 49), (g 50), (g 51), (g 52), (g 53), (g 54), (g 55), undef, undef, undef, undef, undef], []⟩) (fun N0 nn0 => ?_) ?_
      · refine xblock ?_
        refine wp_loop_k (fun n a w => ∃ z4 z5, ∃ (z5_A : Option Addr) (z5_n : Nat) (z5_c : Nat), ref22_Pack.l0 K n a0 a1 a2 z4 z5 = some t0 ∧ St w0 [] [.ownL (CI .u32) z5_A z5_n z5_c z5 84, .blk b1 (enc .i32 a0) 40] [] w ∧ ∃ g : Nat → Value, a = ⟨#[.agg (enc .i32 a0).toArray, .int .i32 a1, .int .i32 a2, .pointer (some ⟨b1, 0, none⟩), undef, undef, (g 6), .slice z5_A z5_n z5_c, .int .i64 z4, (g 9), .int .i32 a1, .int .i32 a2, .bool true, .bool false, .bool false, .agg (enc .i32 a0).toArray, .bool true, .bool false, .bool false, (g 19), (g 20), (g 21), (g 22), (g 23), (g 24), (g 25), (g 26), (g 27), (g 28), (g 29), (g 30), (g 31), (g 32), (g 33), (g 34), (g 35), (g 36), (g 37), (g 38), (g 39), (g 40), (g 41), (g 42), (g 43), (g 44), (g 45), (g 46), (g 47), (g 48), (g 49), (g 50), (g 51), (g 52), (g 53), (g 54), (g 55), undef, undef, undef, undef, undef], []⟩) K ⟨0, ([] : List Int), none, 0, 0, hy, hs.conv rfl, exg (by kernel_rfl)⟩ ?_
        clear hs h hy
        rintro n a w ⟨z4, z5, z5_A, z5_n, z5_c, h, hs, g, rfl⟩ KL0 kl0
        cases n with
        | zero => exact nomatch (show none = some _ from h)
        | succ n =>
          refine xseq_k fun KS601 ks601 => ?_
          refine xseq_k fun KS602 ks602 => ?_
          refine wp_regS (l := [0, 1]) (by kernel_rfl) (by kernel_rfl) fun KR603 kr603 => ?_
          refine wpS.take 0 false (some 19) (.int .i64 z4) (by kernel_rfl) (yld fun _ => by kernel_rfl) ?_
          rcases of_if h with ⟨hc, h⟩ | ⟨hc, h⟩
          · refine wpS.take 1 false (some 20) (.bool true) (by kernel_rfl) (yld_b (dt hc) (fun _ => by kernel_rfl)) ?_
            refine wpS.fin rfl (kr603 _ _ ?_)
            refine then_n (ks602 _ _ ?_)
            refine wp_cond_t (by kernel_rfl) ?_
            refine xskip ?_
            refine then_n (ks601 _ _ ?_)
            refine xseq_k fun KS658 ks658 => ?_
            refine xblock ?_
            refine xseq_k fun KS659 ks659 => ?_
            refine wp_regS (l := [0, 1, 2, 3]) (by kernel_rfl) (by kernel_rfl) fun KR660 kr660 => ?_
            refine wpS.take 0 false (some 23) (.int .i64 z4) (by kernel_rfl) (yld fun _ => by kernel_rfl) ?_
            obtain ⟨i0_661, h⟩ := of_chk h
            obtain ⟨i1_661, h⟩ := of_chk h
            refine wpS.take 1 false (some 24) (.pointer (some ⟨b1, 0 + (z4 : Int).toNat * 1, none⟩)) (by kernel_rfl) (yld_idx (t := 40) (e := 21) (n := 256) (sz := 1) (k := .i64) (x := z4) (by kernel_rfl) (by kernel_rfl) (by kernel_rfl) i0_661 i1_661) ?_
            refine wpS.take 2 true (some 25) (.int .i32 (rd a0 z4)) (by kernel_rfl) (yld_loadA (e := 21) (x := z4) hs 1 rfl (by kernel_rfl) (by kernel_rfl) i0_661 i1_661 .grow) ?_
            obtain ⟨x7, hx, h⟩ := of_bind h
            refine wpS.take 3 false (some 9) (.int .i32 x7) (by kernel_rfl) (yld_int hx (fun _ => by kernel_rfl)) ?_
            refine wpS.fin rfl (kr660 _ _ ?_)
            refine then_n (ks659 _ _ ?_)
            refine xseq_k fun KS675 ks675 => ?_
            refine xseq_k fun KS676 ks676 => ?_
            refine wp_regS (l := [0, 1]) (by kernel_rfl) (by kernel_rfl) fun KR677 kr677 => ?_
            refine wpS.take 0 false (some 26) (.int .i32 a1) (by kernel_rfl) (yld fun _ => by kernel_rfl) ?_
            rcases of_if h with ⟨hc, h⟩ | ⟨hc, h⟩
            · refine wpS.take 1 false (some 27) (.bool true) (by kernel_rfl) (yld_b (dt hc) (fun _ => by kernel_rfl)) ?_
              refine wpS.fin rfl (kr677 _ _ ?_)
              refine then_n (ks676 _ _ ?_)
              refine wp_cond_t (by kernel_rfl) ?_
              refine xseq_k fun KS682 ks682 => ?_
              refine xseq_k fun KS683 ks683 => ?_
              refine wp_regS (l := [0, 1, 2]) (by kernel_rfl) (by kernel_rfl) fun KR684 kr684 => ?_
              refine wpS.take 0 false (some 28) (.int .i32 x7) (by kernel_rfl) (yld fun _ => by kernel_rfl) ?_
              refine wpS.take 1 false (some 29) (.int .i32 a2) (by kernel_rfl) (yld fun _ => by kernel_rfl) ?_
              rcases of_if h with ⟨hc, h⟩ | ⟨hc, h⟩
              · refine wpS.take 2 false (some 30) (.bool true) (by kernel_rfl) (yld_b (dt hc) (fun _ => by kernel_rfl)) ?_
                refine wpS.fin rfl (kr684 _ _ ?_)
                refine then_n (ks683 _ _ ?_)
                refine wp_cond_t (by kernel_rfl) ?_
                refine xseq_k fun KS685 ks685 => ?_
                refine wp_regS (l := [0]) (by kernel_rfl) (by kernel_rfl) fun KR686 kr686 => ?_
                refine wpS.take 0 false (some 6) (.slice none 0 0) (by kernel_rfl) (yld fun _ => by kernel_rfl) ?_
                refine wpS.fin rfl (kr686 _ _ ?_)
                refine then_n (ks685 _ _ ?_)
                refine xret ?_
                refine then_r ?_
                refine then_r ?_
                refine inBlock_r ?_
                refine then_r ?_
                refine then_r ?_
                refine inBlock_r ?_
                refine exq_r ?_
                refine then_r ?_
                have q0 := of_some h
                subst q0
                have q0 := of_some hk0
                subst q0
                have hs := hs.addNilL (CI .u8) 5
                exact qq _ _ (post_ret (by kernel_rfl) (run_results [.tmp 6] [.slice none 0 0] (by kernel_rfl) (.cons (res_tmp (by kernel_rfl)) .nil)) ⟨⟨none, 0, 0⟩, congrArg Ending.returned (by kernel_rfl), ((hs.conv (L' := [.ownL (CI .u8) none 0 0 ([] : List Int) 5, .ownL (CI .u32) z5_A z5_n z5_c z5 84, .blk b1 (enc .i32 a0) 40]) rfl).drop (.cons_cons _ (.cons _ (.cons _ .slnil))))⟩)
              · refine wpS.take 2 false (some 30) (.bool false) (by kernel_rfl) (yld_b (df hc) (fun _ => by kernel_rfl)) ?_
                refine wpS.fin rfl (kr684 _ _ ?_)
                refine then_n (ks683 _ _ ?_)
                refine wp_cond_f (by kernel_rfl) ?_
                refine xskip ?_
                refine then_n (ks682 _ _ ?_)
                refine xseq_k fun KS687 ks687 => ?_
                refine wp_regS (l := [0, 1, 2, 3, 4, 5]) (by kernel_rfl) (by kernel_rfl) fun KR688 kr688 => ?_
                refine wpS.take 0 false (some 31) (.slice z5_A z5_n z5_c) (by kernel_rfl) (yld fun _ => by kernel_rfl) ?_
                refine wpS.take 1 false (some 32) (.int .i32 x7) (by kernel_rfl) (yld fun _ => by kernel_rfl) ?_
                refine wpS.take 2 false (some 33) (.int .u32 (iconv .u32 x7)) (by kernel_rfl) (yld fun _ => by kernel_rfl) ?_
                refine wpS.only 3 (op_lit (C := (CI .u32)) (t := 82) (e := 84) (len := 1) (parts := #[(0, .int .u32 (iconv .u32 x7))]) (l := [(iconv .u32 x7)]) (d := (some 34)) (by kernel_rfl) hs (by kernel_rfl) (by kernel_rfl) (by kernel_rfl) (z := .int .u32 0) (by kernel_rfl) rfl (by decide) (by decide) (by kernel_rfl) ?_)
                intro s8_A s8_n s8_c w gw hs
                refine ⟨fun _ => trivial, ?_⟩
                obtain ⟨h0, h⟩ := of_chk h
                refine wpS.only 4 (op_appendT (C := (CI .u32)) (t := 82) (ty := 82) (e := 84) (bytes := 4) (B := 35184372088832) (d := (some 35)) (by kernel_rfl) hs 1 rfl (hs.rowL 0 rfl) (by kernel_rfl) (by kernel_rfl) (by kernel_rfl) (by kernel_rfl) (by kernel_rfl) h0 (by decide) (by decide) ?_)
                intro s9_A s9_n s9_c w hs
                refine ⟨fun _ => trivial, ?_⟩
                refine wpS.take 5 false (some 7) (.slice s9_A s9_n s9_c) (by kernel_rfl) (yld fun _ => by kernel_rfl) ?_
                refine wpS.fin rfl (kr688 _ _ ?_)
                refine then_n (ks687 _ _ ?_)
                refine xexit ?_
                refine then_x ?_
                refine inBlock_hit ?_
                refine then_n (ks658 _ _ ?_)
                refine wp_regS (l := [0, 1, 2]) (by kernel_rfl) (by kernel_rfl) fun KR689 kr689 => ?_
                refine wpS.take 0 false (some 21) (.int .i64 z4) (by kernel_rfl) (yld fun _ => by kernel_rfl) ?_
                refine wpS.take 1 false (some 22) (.int .i64 (iadd .i64 z4 1)) (by kernel_rfl) (yld fun _ => by kernel_rfl) ?_
                obtain ⟨x10, hx, h⟩ := of_bind h
                refine wpS.take 2 false (some 8) (.int .i64 x10) (by kernel_rfl) (yld_int hx (fun _ => by kernel_rfl)) ?_
                refine wpS.fin rfl (kr689 _ _ ?_)
                exact then_n (kl0 _ _ ⟨n, Nat.lt_succ_self n, x10, (z5 ++ ([(iconv .u32 x7)] : List Int)), s9_A, s9_n, s9_c, h, ((hs.conv (L' := [.ownL (CI .u32) s8_A s8_n s8_c ([(iconv .u32 x7)] : List Int) 84, .ownL (CI .u32) s9_A s9_n s9_c (z5 ++ ([(iconv .u32 x7)] : List Int)) 84, .blk b1 (enc .i32 a0) 40]) rfl).drop (.cons _ (.cons_cons _ (.cons_cons _ .slnil)))), exg (by kernel_rfl)⟩)
            · refine wpS.take 1 false (some 27) (.bool false) (by kernel_rfl) (yld_b (df hc) (fun _ => by kernel_rfl)) ?_
              refine wpS.fin rfl (kr677 _ _ ?_)
              refine then_n (ks676 _ _ ?_)
              refine wp_cond_f (by kernel_rfl) ?_
              refine xskip ?_
              refine then_n (ks675 _ _ ?_)
              obtain ⟨y11, hj, h⟩ := of_bind h
              refine xseq_k fun KS714 ks714 => wp_join (N := fun a w => St w0 [] [.ownL (CI .u32) z5_A z5_n z5_c z5 84, .blk b1 (enc .i32 a0) 40] [] w ∧ ∃ g : Nat → Value, a = ⟨#[.agg (enc .i32 a0).toArray, .int .i32 a1, .int .i32 a2, .pointer (some ⟨b1, 0, none⟩), undef, undef, (g 6), .slice z5_A z5_n z5_c, .int .i64 z4, .int .i32 y11, .int .i32 a1, .int .i32 a2, .bool true, .bool false, .bool false, .agg (enc .i32 a0).toArray, .bool true, .bool false, .bool false, .int .i64 z4, .bool true, (g 21), (g 22), .int .i64 z4, .pointer (some ⟨b1, 0 + (z4 : Int).toNat * 1, none⟩), .int .i32 (rd a0 z4), .int .i32 a1, .bool false, (g 28), (g 29), (g 30), (g 31), (g 32), (g 33), (g 34), (g 35), (g 36), (g 37), (g 38), (g 39), (g 40), (g 41), (g 42), (g 43), (g 44), (g 45), (g 46), (g 47), (g 48), (g 49), (g 50), (g 51), (g 52), (g 53), (g 54), (g 55), undef, undef, undef, undef, undef], []⟩) (fun N nj => ?_) ?_
              · clear h
                have h := hj
                refine xseq_k fun KS696 ks696 => ?_
                refine wp_regS (l := [0, 1]) (by kernel_rfl) (by kernel_rfl) fun KR697 kr697 => ?_
                refine wpS.take 0 false (some 36) (.int .i32 x7) (by kernel_rfl) (yld fun _ => by kernel_rfl) ?_
                rcases of_if h with ⟨hc, h⟩ | ⟨hc, h⟩
                · refine wpS.take 1 false (some 37) (.bool true) (by kernel_rfl) (yld_b (dt hc) (fun _ => by kernel_rfl)) ?_
                  refine wpS.fin rfl (kr697 _ _ ?_)
                  refine then_n (ks696 _ _ ?_)
                  refine wp_cond_t (by kernel_rfl) ?_
                  refine wp_regS (l := [0, 1, 2]) (by kernel_rfl) (by kernel_rfl) fun KR698 kr698 => ?_
                  refine wpS.take 0 false (some 38) (.int .i32 x7) (by kernel_rfl) (yld fun _ => by kernel_rfl) ?_
                  refine wpS.take 1 false (some 39) (.int .i32 (isub .i32 x7 8380417)) (by kernel_rfl) (yld fun _ => by kernel_rfl) ?_
                  obtain ⟨x12, hx, h⟩ := of_bind h
                  refine wpS.take 2 false (some 9) (.int .i32 x12) (by kernel_rfl) (yld_int hx (fun _ => by kernel_rfl)) ?_
                  refine wpS.fin rfl (kr698 _ _ ?_)
                  have q0 := of_some h
                  subst q0
                  exact nj _ _ ⟨(hs.conv rfl), exg (by kernel_rfl)⟩
                · refine wpS.take 1 false (some 37) (.bool false) (by kernel_rfl) (yld_b (df hc) (fun _ => by kernel_rfl)) ?_
                  refine wpS.fin rfl (kr697 _ _ ?_)
                  refine then_n (ks696 _ _ ?_)
                  refine wp_cond_f (by kernel_rfl) ?_
                  refine xskip ?_
                  have q0 := of_some h
                  subst q0
                  exact nj _ _ ⟨(hs.conv rfl), exg (by kernel_rfl)⟩
              · clear hj hs
                rintro a w ⟨hs, g, rfl⟩
                refine then_n (ks714 _ _ ?_)
                refine xseq_k fun KS705 ks705 => ?_
                refine xseq_k fun KS706 ks706 => ?_
                refine wp_regS (l := [0, 1, 2, 3, 4, 5, 6, 7, 8]) (by kernel_rfl) (by kernel_rfl) fun KR707 kr707 => ?_
                refine wpS.take 0 false (some 40) (.int .i32 y11) (by kernel_rfl) (yld fun _ => by kernel_rfl) ?_
                refine wpS.take 1 false (some 41) (.int .i32 a1) (by kernel_rfl) (yld fun _ => by kernel_rfl) ?_
                refine wpS.take 2 false (some 42) (.int .i32 (isub .i32 0 a1)) (by kernel_rfl) (yld fun _ => by kernel_rfl) ?_
                rcases of_if h with ⟨hc, h⟩ | ⟨hc, h⟩
                · refine wpS.take 3 false (some 43) (.bool true) (by kernel_rfl) (yld_b (dt hc) (fun _ => by kernel_rfl)) ?_
                  refine wpS.take 4 false (some 44) (.bool true) (by kernel_rfl) (yld fun _ => by kernel_rfl) ?_
                  refine wpS.take 5 false (some 45) (undef) (by kernel_rfl) (yld fun _ => by kernel_rfl) ?_
                  refine wpS.take 6 false (some 46) (undef) (by kernel_rfl) (yld fun _ => by kernel_rfl) ?_
                  refine wpS.take 7 false (some 47) (undef) (by kernel_rfl) (yld fun _ => by kernel_rfl) ?_
                  refine wpS.take 8 false (some 48) (.bool true) (by kernel_rfl) (yld fun _ => by kernel_rfl) ?_
                  refine wpS.fin rfl (kr707 _ _ ?_)
                  refine then_n (ks706 _ _ ?_)
                  refine wp_cond_t (by kernel_rfl) ?_
                  refine xseq_k fun KS708 ks708 => ?_
                  refine wp_regS (l := [0]) (by kernel_rfl) (by kernel_rfl) fun KR709 kr709 => ?_
                  refine wpS.take 0 false (some 6) (.slice none 0 0) (by kernel_rfl) (yld fun _ => by kernel_rfl) ?_
                  refine wpS.fin rfl (kr709 _ _ ?_)
                  refine then_n (ks708 _ _ ?_)
                  refine xret ?_
                  refine then_r ?_
                  refine inBlock_r ?_
                  refine then_r ?_
                  refine then_r ?_
                  refine inBlock_r ?_
                  refine exq_r ?_
                  refine then_r ?_
                  have q0 := of_some h
                  subst q0
                  have q0 := of_some hk0
                  subst q0
                  have hs := hs.addNilL (CI .u8) 5
                  exact qq _ _ (post_ret (by kernel_rfl) (run_results [.tmp 6] [.slice none 0 0] (by kernel_rfl) (.cons (res_tmp (by kernel_rfl)) .nil)) ⟨⟨none, 0, 0⟩, congrArg Ending.returned (by kernel_rfl), ((hs.conv (L' := [.ownL (CI .u8) none 0 0 ([] : List Int) 5, .ownL (CI .u32) z5_A z5_n z5_c z5 84, .blk b1 (enc .i32 a0) 40]) rfl).drop (.cons_cons _ (.cons _ (.cons _ .slnil))))⟩)
                · refine wpS.take 3 false (some 43) (.bool false) (by kernel_rfl) (yld_b (df hc) (fun _ => by kernel_rfl)) ?_
                  refine wpS.take 4 false (some 44) (.bool false) (by kernel_rfl) (yld fun _ => by kernel_rfl) ?_
                  refine wpS.take 5 false (some 45) (.int .i32 y11) (by kernel_rfl) (yld fun _ => by kernel_rfl) ?_
                  refine wpS.take 6 false (some 46) (.int .i32 a2) (by kernel_rfl) (yld fun _ => by kernel_rfl) ?_
                  rcases of_if h with ⟨hc, h⟩ | ⟨hc, h⟩
                  · refine wpS.take 7 false (some 47) (.bool true) (by kernel_rfl) (yld_b (dt hc) (fun _ => by kernel_rfl)) ?_
                    refine wpS.take 8 false (some 48) (.bool true) (by kernel_rfl) (yld fun _ => by kernel_rfl) ?_
                    refine wpS.fin rfl (kr707 _ _ ?_)
                    refine then_n (ks706 _ _ ?_)
                    refine wp_cond_t (by kernel_rfl) ?_
                    refine xseq_k fun KS710 ks710 => ?_
                    refine wp_regS (l := [0]) (by kernel_rfl) (by kernel_rfl) fun KR711 kr711 => ?_
                    refine wpS.take 0 false (some 6) (.slice none 0 0) (by kernel_rfl) (yld fun _ => by kernel_rfl) ?_
                    refine wpS.fin rfl (kr711 _ _ ?_)
                    refine then_n (ks710 _ _ ?_)
                    refine xret ?_
                    refine then_r ?_
                    refine inBlock_r ?_
                    refine then_r ?_
                    refine then_r ?_
                    refine inBlock_r ?_
                    refine exq_r ?_
                    refine then_r ?_
                    have q0 := of_some h
                    subst q0
                    have q0 := of_some hk0
                    subst q0
                    have hs := hs.addNilL (CI .u8) 5
                    exact qq _ _ (post_ret (by kernel_rfl) (run_results [.tmp 6] [.slice none 0 0] (by kernel_rfl) (.cons (res_tmp (by kernel_rfl)) .nil)) ⟨⟨none, 0, 0⟩, congrArg Ending.returned (by kernel_rfl), ((hs.conv (L' := [.ownL (CI .u8) none 0 0 ([] : List Int) 5, .ownL (CI .u32) z5_A z5_n z5_c z5 84, .blk b1 (enc .i32 a0) 40]) rfl).drop (.cons_cons _ (.cons _ (.cons _ .slnil))))⟩)
                  · refine wpS.take 7 false (some 47) (.bool false) (by kernel_rfl) (yld_b (df hc) (fun _ => by kernel_rfl)) ?_
                    refine wpS.take 8 false (some 48) (.bool false) (by kernel_rfl) (yld fun _ => by kernel_rfl) ?_
                    refine wpS.fin rfl (kr707 _ _ ?_)
                    refine then_n (ks706 _ _ ?_)
                    refine wp_cond_f (by kernel_rfl) ?_
                    refine xskip ?_
                    refine then_n (ks705 _ _ ?_)
                    refine wp_regS (l := [0, 1, 2, 3, 4, 5, 6, 7]) (by kernel_rfl) (by kernel_rfl) fun KR712 kr712 => ?_
                    refine wpS.take 0 false (some 49) (.slice z5_A z5_n z5_c) (by kernel_rfl) (yld fun _ => by kernel_rfl) ?_
                    refine wpS.take 1 false (some 50) (.int .i32 a2) (by kernel_rfl) (yld fun _ => by kernel_rfl) ?_
                    refine wpS.take 2 false (some 51) (.int .i32 y11) (by kernel_rfl) (yld fun _ => by kernel_rfl) ?_
                    refine wpS.take 3 false (some 52) (.int .i32 (isub .i32 a2 y11)) (by kernel_rfl) (yld fun _ => by kernel_rfl) ?_
                    refine wpS.take 4 false (some 53) (.int .u32 (iconv .u32 (isub .i32 a2 y11))) (by kernel_rfl) (yld fun _ => by kernel_rfl) ?_
                    refine wpS.only 5 (op_lit (C := (CI .u32)) (t := 82) (e := 84) (len := 1) (parts := #[(0, .int .u32 (iconv .u32 (isub .i32 a2 y11)))]) (l := [(iconv .u32 (isub .i32 a2 y11))]) (d := (some 54)) (by kernel_rfl) hs (by kernel_rfl) (by kernel_rfl) (by kernel_rfl) (z := .int .u32 0) (by kernel_rfl) rfl (by decide) (by decide) (by kernel_rfl) ?_)
                    intro s13_A s13_n s13_c w gw hs
                    refine ⟨fun _ => trivial, ?_⟩
                    obtain ⟨h0, h⟩ := of_chk h
                    refine wpS.only 6 (op_appendT (C := (CI .u32)) (t := 82) (ty := 82) (e := 84) (bytes := 4) (B := 35184372088832) (d := (some 55)) (by kernel_rfl) hs 1 rfl (hs.rowL 0 rfl) (by kernel_rfl) (by kernel_rfl) (by kernel_rfl) (by kernel_rfl) (by kernel_rfl) h0 (by decide) (by decide) ?_)
                    intro s14_A s14_n s14_c w hs
                    refine ⟨fun _ => trivial, ?_⟩
                    refine wpS.take 7 false (some 7) (.slice s14_A s14_n s14_c) (by kernel_rfl) (yld fun _ => by kernel_rfl) ?_
                    refine wpS.fin rfl (kr712 _ _ ?_)
                    refine inBlock_n ?_
                    refine then_n (ks658 _ _ ?_)
                    refine wp_regS (l := [0, 1, 2]) (by kernel_rfl) (by kernel_rfl) fun KR713 kr713 => ?_
                    refine wpS.take 0 false (some 21) (.int .i64 z4) (by kernel_rfl) (yld fun _ => by kernel_rfl) ?_
                    refine wpS.take 1 false (some 22) (.int .i64 (iadd .i64 z4 1)) (by kernel_rfl) (yld fun _ => by kernel_rfl) ?_
                    obtain ⟨x15, hx, h⟩ := of_bind h
                    refine wpS.take 2 false (some 8) (.int .i64 x15) (by kernel_rfl) (yld_int hx (fun _ => by kernel_rfl)) ?_
                    refine wpS.fin rfl (kr713 _ _ ?_)
                    exact then_n (kl0 _ _ ⟨n, Nat.lt_succ_self n, x15, (z5 ++ ([(iconv .u32 (isub .i32 a2 y11))] : List Int)), s14_A, s14_n, s14_c, h, ((hs.conv (L' := [.ownL (CI .u32) s13_A s13_n s13_c ([(iconv .u32 (isub .i32 a2 y11))] : List Int) 84, .ownL (CI .u32) s14_A s14_n s14_c (z5 ++ ([(iconv .u32 (isub .i32 a2 y11))] : List Int)) 84, .blk b1 (enc .i32 a0) 40]) rfl).drop (.cons _ (.cons_cons _ (.cons_cons _ .slnil)))), exg (by kernel_rfl)⟩)
          · refine wpS.take 1 false (some 20) (.bool false) (by kernel_rfl) (yld_b (df hc) (fun _ => by kernel_rfl)) ?_
            refine wpS.fin rfl (kr603 _ _ ?_)
            refine then_n (ks602 _ _ ?_)
            refine wp_cond_f (by kernel_rfl) ?_
            refine xexit ?_
            refine then_x ?_
            refine then_x ?_
            refine inBlock_hit ?_
            have q0 := of_some h
            subst q0
            exact exq_n (nn0 _ _ ⟨z5, z5_A, z5_n, z5_c, rfl, (hs.conv rfl), exg (by kernel_rfl)⟩)
      · clear hs h hy
        rintro a w ⟨y6, y6_A, y6_n, y6_c, rfl, hs, g, rfl⟩
        have h := hk0
        refine then_n (ks364 _ _ ?_)
        refine xseq_k fun KS715 ks715 => ?_
        refine wp_regS (l := [0, 1, 2, 3, 4, 5]) (by kernel_rfl) (by kernel_rfl) fun KR716 kr716 => ?_
        refine wpS.take 0 false (some 56) (.slice y6_A y6_n y6_c) (by kernel_rfl) (yld fun _ => by kernel_rfl) ?_
        refine wpS.take 1 false (some 57) (.int .i32 a1) (by kernel_rfl) (yld fun _ => by kernel_rfl) ?_
        refine wpS.take 2 false (some 58) (.int .i32 a2) (by kernel_rfl) (yld fun _ => by kernel_rfl) ?_
        obtain ⟨r16, hg, h⟩ := of_bind h
        refine wpS.only 3 (op_call (d := (some 59)) (by kernel_rfl) hs (fun _ => by kernel_rfl) (ref22_bitsOf.ok hg _) ?_)
        intro w gw hs
        refine ⟨fun _ => trivial, ?_⟩
        obtain ⟨r17, hg, h⟩ := of_bind h
        refine wpS.only 4 (op_callH (d := (some 60)) (by kernel_rfl) hs (fun _ => by kernel_rfl) (ref01_Pack.ok hg _ (hs.rowL 0 rfl)) ?_)
        rintro ⟨r17_A, r17_n, r17_c⟩ w gw hs
        have hs := hs.conv (L' := [.ownL (CI .u8) r17_A r17_n r17_c r17 5, .ownL (CI .u32) y6_A y6_n y6_c y6 84, .blk b1 (enc .i32 a0) 40]) rfl
        refine ⟨fun _ => trivial, ?_⟩
        refine wpS.take 5 false (some 6) (.slice r17_A r17_n r17_c) (by kernel_rfl) (yld fun _ => by kernel_rfl) ?_
        refine wpS.fin rfl (kr716 _ _ ?_)
        refine then_n (ks715 _ _ ?_)
        refine xret ?_
        have q0 := of_some h
        subst q0
        exact qq _ _ (post_ret (by kernel_rfl) (run_results [.tmp 6] [.slice r17_A r17_n r17_c] (by kernel_rfl) (.cons (res_tmp (by kernel_rfl)) .nil)) ⟨⟨r17_A, r17_n, r17_c⟩, congrArg Ending.returned (by kernel_rfl), ((hs.conv (L' := [.ownL (CI .u8) r17_A r17_n r17_c r17 5, .ownL (CI .u32) y6_A y6_n y6_c y6 84, .blk b1 (enc .i32 a0) 40]) rfl).drop (.cons_cons _ (.cons _ (.cons _ .slnil))))⟩)
    | false =>
      have h := of_if_f h
      refine wpS.only 6 (op_call (d := (some 16)) (by kernel_rfl) hs (fun _ => by kernel_rfl) (ref21_Fit.ok hg _) ?_)
      intro w gw hs
      refine ⟨fun _ => trivial, ?_⟩
      refine wpS.take 7 false (some 17) (.bool true) (by kernel_rfl) (yld fun _ => by kernel_rfl) ?_
      refine wpS.take 8 false (some 18) (.bool true) (by kernel_rfl) (yld fun _ => by kernel_rfl) ?_
      refine wpS.fin rfl (kr11 _ _ ?_)
      refine then_n (ks10 _ _ ?_)
      refine wp_cond_t (by kernel_rfl) ?_
      refine xseq_k fun KS717 ks717 => ?_
      refine wp_regS (l := [0]) (by kernel_rfl) (by kernel_rfl) fun KR718 kr718 => ?_
      refine wpS.take 0 false (some 6) (.slice none 0 0) (by kernel_rfl) (yld fun _ => by kernel_rfl) ?_
      refine wpS.fin rfl (kr718 _ _ ?_)
      refine then_n (ks717 _ _ ?_)
      refine xret ?_
      refine then_r ?_
      have q0 := of_some h
      subst q0
      have hs := hs.addNilL (CI .u8) 5
      exact qq _ _ (post_ret (by kernel_rfl) (run_results [.tmp 6] [.slice none 0 0] (by kernel_rfl) (.cons (res_tmp (by kernel_rfl)) .nil)) ⟨⟨none, 0, 0⟩, congrArg Ending.returned (by kernel_rfl), ((hs.conv (L' := [.ownL (CI .u8) none 0 0 ([] : List Int) 5, .blk b1 (enc .i32 a0) 40]) rfl).drop (.cons_cons _ (.cons _ .slnil)))⟩)
  | false =>
    have h := of_if_f h
    refine wpS.only 2 (op_call (d := (some 12)) (by kernel_rfl) hs (fun _ => by kernel_rfl) (ref22_bounds.ok hg _) ?_)
    intro w gw hs
    refine ⟨fun _ => trivial, ?_⟩
    refine wpS.take 3 false (some 13) (.bool true) (by kernel_rfl) (yld fun _ => by kernel_rfl) ?_
    refine wpS.take 4 false (some 14) (.bool true) (by kernel_rfl) (yld fun _ => by kernel_rfl) ?_
    refine wpS.take 5 false (some 15) (undef) (by kernel_rfl) (yld fun _ => by kernel_rfl) ?_
    refine wpS.take 6 false (some 16) (undef) (by kernel_rfl) (yld fun _ => by kernel_rfl) ?_
    refine wpS.take 7 false (some 17) (undef) (by kernel_rfl) (yld fun _ => by kernel_rfl) ?_
    refine wpS.take 8 false (some 18) (.bool true) (by kernel_rfl) (yld fun _ => by kernel_rfl) ?_
    refine wpS.fin rfl (kr11 _ _ ?_)
    refine then_n (ks10 _ _ ?_)
    refine wp_cond_t (by kernel_rfl) ?_
    refine xseq_k fun KS719 ks719 => ?_
    refine wp_regS (l := [0]) (by kernel_rfl) (by kernel_rfl) fun KR720 kr720 => ?_
    refine wpS.take 0 false (some 6) (.slice none 0 0) (by kernel_rfl) (yld fun _ => by kernel_rfl) ?_
    refine wpS.fin rfl (kr720 _ _ ?_)
    refine then_n (ks719 _ _ ?_)
    refine xret ?_
    refine then_r ?_
    have q0 := of_some h
    subst q0
    have hs := hs.addNilL (CI .u8) 5
    exact qq _ _ (post_ret (by kernel_rfl) (run_results [.tmp 6] [.slice none 0 0] (by kernel_rfl) (.cons (res_tmp (by kernel_rfl)) .nil)) ⟨⟨none, 0, 0⟩, congrArg Ending.returned (by kernel_rfl), ((hs.conv (L' := [.ownL (CI .u8) none 0 0 ([] : List Int) 5, .blk b1 (enc .i32 a0) 40]) rfl).drop (.cons_cons _ (.cons _ .slnil)))⟩)
end Go.Proofs.Ytblploekkjeolaa
