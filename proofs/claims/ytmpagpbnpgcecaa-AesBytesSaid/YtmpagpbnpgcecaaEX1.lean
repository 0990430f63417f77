/- Printed by this work's own program: the code of each function below comes to the answer that its plain form tells. -/
import Derived.Test.YtmpagpbnpgcecaaMi
import Derived.Test.YtmpagpbnpgcecaaProg
import Derived.Test.YtmpagpbnpgcecaaEF0
import Derived.Test.YtmpagpbnpgcecaaEX0
set_option linter.unusedVariables false
set_option linter.unusedSimpArgs false
set_option maxRecDepth 100000
set_option maxHeartbeats 4000000
namespace Go.Proofs.Ytmpagpbnpgcecaa
open Go.Mx
attribute [local irreducible] wpOp

theorem aes_tables_boxed.ok {K : Nat} {a0_0 : Arr 256} {a0_1 : Arr 256} {a1 : Arr 4} {r0 : Arr 4} {p0 : Nat} (h : aes_tables_boxed.f K a0_0 a0_1 a1 = some r0) (w0 : World) (hb : w0.heap[p0]? = some (.cells (([] : List Value) ++ enc .u8 a0_0 ++ enc .u8 a0_1 ++ ([] : List Value)).toArray 48 (0, 0))) : Calls Try.prog 83 #[.pointer (some ⟨p0, 0, none⟩), .agg (enc .u8 a1).toArray] w0 fun e w' => e = .returned (.agg (enc .u8 r0).toArray) ∧ St w0 [p0] [.blk p0 (([] : List Value) ++ enc .u8 a0_0 ++ enc .u8 a0_1 ++ ([] : List Value)) 48] [] w' := by
  refine calls_k Try.func83 rfl fun Q qq => ?_
  have hs := St.startX hb allX_nil
  refine wp_conv (a' := ⟨#[.pointer (some ⟨p0, 0, none⟩), .agg (enc .u8 a1).toArray, undef, undef, undef, undef, undef, undef, undef, undef, undef, undef, undef, undef, undef, undef, undef, undef, undef, undef, undef, undef, undef, undef, undef, undef, undef, undef, undef, undef, undef, undef, undef, undef], []⟩) (by kernel_rfl) ?_
  refine xseq_k fun KS22 ks22 => ?_
  refine wp_regS (l := [0, 1]) (by kernel_rfl) (by kernel_rfl) fun KR23 kr23 => ?_
  refine wpS.only 0 (op_box (t := 101) (v := .agg (enc .u8 a1).toArray) (d := (some 3)) (by kernel_rfl) hs (enc .u8 a1) (by kernel_rfl) (by kernel_rfl) ?_)
  intro b1 w gw hs
  refine ⟨fun _ => trivial, ?_⟩
  refine wpS.only 1 (op_alloc (t := 101) (d := (some 4)) (by kernel_rfl) hs (enc .u8 (zeroA 4)) (.agg (enc .u8 (zeroA 4)).toArray) (by kernel_rfl) (by kernel_rfl) (by kernel_rfl) ?_)
  intro b2 w gw hs
  refine ⟨fun _ => trivial, ?_⟩
  refine wpS.fin rfl (kr23 _ _ ?_)
  refine then_n (ks22 _ _ ?_)
  refine xseq_k fun KS24 ks24 => ?_
  refine wp_regG [29] (fun k => k = b2) 30 (by kernel_rfl) (by kernel_rfl) (by kernel_rfl) fun KR25 kr25 => ?_
  have hs := hs.drawn1
  refine wpG.takeD 0 false (some 5) (.pointer (some ⟨p0, 0, none⟩)) (by kernel_rfl) (by kernel_rfl) (yld fun _ => by kernel_rfl) ?_
  refine wpG.takeD 1 false (some 6) (.pointer (some ⟨b1, 0 + (0 : Int).toNat * 1, none⟩)) (by kernel_rfl) (by kernel_rfl) (yld_idx (t := 101) (e := 5) (n := 4) (sz := 1) (k := .i64) (x := 0) (by kernel_rfl) (by kernel_rfl) (by kernel_rfl) (by decide) (by decide)) ?_
  refine wpG.takeD 2 true (some 7) (.int .u8 (rd a1 0)) (by kernel_rfl) (by kernel_rfl) (yld_loadA (e := 5) (x := 0) hs 1 rfl (by kernel_rfl) (by kernel_rfl) (by decide) (by decide) .grow) ?_
  refine wpG.takeD 3 false (some 8) (.pointer (some ⟨p0, 0, none⟩)) (by kernel_rfl) (by kernel_rfl) (yld fun _ => by kernel_rfl) ?_
  refine wpG.takeD 4 false (some 9) (.pointer (some ⟨p0, 0, none⟩)) (by kernel_rfl) (by kernel_rfl) (yld fun _ => by kernel_rfl) ?_
  obtain ⟨x3, hx, h⟩ := of_bind h
  have hx := of_some hx
  subst hx
  obtain ⟨i0_36, h⟩ := of_chk h
  obtain ⟨i1_36, h⟩ := of_chk h
  refine wpG.takeD 5 false (some 10) (.pointer (some ⟨p0, 0 + ((rd a1 0) : Int).toNat * 1, none⟩)) (by kernel_rfl) (by kernel_rfl) (yld_idx (t := 46) (e := 5) (n := 256) (sz := 1) (k := .u8) (x := (rd a1 0)) (by kernel_rfl) (by kernel_rfl) (by kernel_rfl) i0_36 i1_36) ?_
  refine wpG.takeD 6 true (some 11) (.int .u8 (rd a0_0 (rd a1 0))) (by kernel_rfl) (by kernel_rfl) (yld_loadR (m := 0) (k := .u8) (pre := ([] : List Value)) (post := enc .u8 a0_1) (c := a0_0) (e := 5) (x := (rd a1 0)) hs 2 rfl (by simp only [List.append_assoc, List.nil_append, List.cons_append, List.append_nil]) (by kernel_rfl) (by kernel_rfl) i0_36 i1_36 (by simp [enc_len]) .grow) ?_
  refine wpG.takeD 7 false (some 12) (.pointer (some ⟨p0, 0, none⟩)) (by kernel_rfl) (by kernel_rfl) (yld fun _ => by kernel_rfl) ?_
  refine wpG.takeD 8 false (some 13) (.pointer (some ⟨b1, 0 + (1 : Int).toNat * 1, none⟩)) (by kernel_rfl) (by kernel_rfl) (yld_idx (t := 101) (e := 5) (n := 4) (sz := 1) (k := .i64) (x := 1) (by kernel_rfl) (by kernel_rfl) (by kernel_rfl) (by decide) (by decide)) ?_
  refine wpG.takeD 9 true (some 14) (.int .u8 (rd a1 1)) (by kernel_rfl) (by kernel_rfl) (yld_loadA (e := 5) (x := 1) hs 1 rfl (by kernel_rfl) (by kernel_rfl) (by decide) (by decide) .grow) ?_
  refine wpG.takeD 10 false (some 15) (.pointer (some ⟨p0, 0, none⟩)) (by kernel_rfl) (by kernel_rfl) (yld fun _ => by kernel_rfl) ?_
  refine wpG.takeD 11 false (some 16) (.pointer (some ⟨p0, 0, none⟩)) (by kernel_rfl) (by kernel_rfl) (yld fun _ => by kernel_rfl) ?_
  obtain ⟨x4, hx, h⟩ := of_bind h
  have hx := of_some hx
  subst hx
  obtain ⟨i0_38, h⟩ := of_chk h
  obtain ⟨i1_38, h⟩ := of_chk h
  refine wpG.takeD 12 false (some 17) (.pointer (some ⟨p0, 0 + ((rd a1 1) : Int).toNat * 1, none⟩)) (by kernel_rfl) (by kernel_rfl) (yld_idx (t := 46) (e := 5) (n := 256) (sz := 1) (k := .u8) (x := (rd a1 1)) (by kernel_rfl) (by kernel_rfl) (by kernel_rfl) i0_38 i1_38) ?_
  refine wpG.takeD 13 true (some 18) (.int .u8 (rd a0_0 (rd a1 1))) (by kernel_rfl) (by kernel_rfl) (yld_loadR (m := 0) (k := .u8) (pre := ([] : List Value)) (post := enc .u8 a0_1) (c := a0_0) (e := 5) (x := (rd a1 1)) hs 2 rfl (by simp only [List.append_assoc, List.nil_append, List.cons_append, List.append_nil]) (by kernel_rfl) (by kernel_rfl) i0_38 i1_38 (by simp [enc_len]) .grow) ?_
  refine wpG.takeD 14 false (some 19) (.pointer (some ⟨p0, 0, none⟩)) (by kernel_rfl) (by kernel_rfl) (yld fun _ => by kernel_rfl) ?_
  refine wpG.takeD 15 false (some 20) (.pointer (some ⟨b1, 0 + (2 : Int).toNat * 1, none⟩)) (by kernel_rfl) (by kernel_rfl) (yld_idx (t := 101) (e := 5) (n := 4) (sz := 1) (k := .i64) (x := 2) (by kernel_rfl) (by kernel_rfl) (by kernel_rfl) (by decide) (by decide)) ?_
  refine wpG.takeD 16 true (some 21) (.int .u8 (rd a1 2)) (by kernel_rfl) (by kernel_rfl) (yld_loadA (e := 5) (x := 2) hs 1 rfl (by kernel_rfl) (by kernel_rfl) (by decide) (by decide) .grow) ?_
  refine wpG.takeD 17 false (some 22) (.pointer (some ⟨p0, 0, none⟩)) (by kernel_rfl) (by kernel_rfl) (yld fun _ => by kernel_rfl) ?_
  refine wpG.takeD 18 false (some 23) (.pointer (some ⟨p0, 0, none⟩)) (by kernel_rfl) (by kernel_rfl) (yld fun _ => by kernel_rfl) ?_
  obtain ⟨x5, hx, h⟩ := of_bind h
  have hx := of_some hx
  subst hx
  obtain ⟨i0_40, h⟩ := of_chk h
  obtain ⟨i1_40, h⟩ := of_chk h
  refine wpG.takeD 19 false (some 24) (.pointer (some ⟨p0, 0 + ((rd a1 2) : Int).toNat * 1, none⟩)) (by kernel_rfl) (by kernel_rfl) (yld_idx (t := 46) (e := 5) (n := 256) (sz := 1) (k := .u8) (x := (rd a1 2)) (by kernel_rfl) (by kernel_rfl) (by kernel_rfl) i0_40 i1_40) ?_
  refine wpG.takeD 20 true (some 25) (.int .u8 (rd a0_0 (rd a1 2))) (by kernel_rfl) (by kernel_rfl) (yld_loadR (m := 0) (k := .u8) (pre := ([] : List Value)) (post := enc .u8 a0_1) (c := a0_0) (e := 5) (x := (rd a1 2)) hs 2 rfl (by simp only [List.append_assoc, List.nil_append, List.cons_append, List.append_nil]) (by kernel_rfl) (by kernel_rfl) i0_40 i1_40 (by simp [enc_len]) .grow) ?_
  refine wpG.takeD 21 false (some 26) (.pointer (some ⟨p0, 0, none⟩)) (by kernel_rfl) (by kernel_rfl) (yld fun _ => by kernel_rfl) ?_
  refine wpG.takeD 22 false (some 27) (.pointer (some ⟨b1, 0 + (3 : Int).toNat * 1, none⟩)) (by kernel_rfl) (by kernel_rfl) (yld_idx (t := 101) (e := 5) (n := 4) (sz := 1) (k := .i64) (x := 3) (by kernel_rfl) (by kernel_rfl) (by kernel_rfl) (by decide) (by decide)) ?_
  refine wpG.takeD 23 true (some 28) (.int .u8 (rd a1 3)) (by kernel_rfl) (by kernel_rfl) (yld_loadA (e := 5) (x := 3) hs 1 rfl (by kernel_rfl) (by kernel_rfl) (by decide) (by decide) .grow) ?_
  refine wpG.takeD 24 false (some 29) (.pointer (some ⟨p0, 0, none⟩)) (by kernel_rfl) (by kernel_rfl) (yld fun _ => by kernel_rfl) ?_
  refine wpG.takeD 25 false (some 30) (.pointer (some ⟨p0, 0, none⟩)) (by kernel_rfl) (by kernel_rfl) (yld fun _ => by kernel_rfl) ?_
  obtain ⟨x6, hx, h⟩ := of_bind h
  have hx := of_some hx
  subst hx
  obtain ⟨i0_42, h⟩ := of_chk h
  obtain ⟨i1_42, h⟩ := of_chk h
  refine wpG.takeD 26 false (some 31) (.pointer (some ⟨p0, 0 + ((rd a1 3) : Int).toNat * 1, none⟩)) (by kernel_rfl) (by kernel_rfl) (yld_idx (t := 46) (e := 5) (n := 256) (sz := 1) (k := .u8) (x := (rd a1 3)) (by kernel_rfl) (by kernel_rfl) (by kernel_rfl) i0_42 i1_42) ?_
  refine wpG.takeD 27 true (some 32) (.int .u8 (rd a0_0 (rd a1 3))) (by kernel_rfl) (by kernel_rfl) (yld_loadR (m := 0) (k := .u8) (pre := ([] : List Value)) (post := enc .u8 a0_1) (c := a0_0) (e := 5) (x := (rd a1 3)) hs 2 rfl (by simp only [List.append_assoc, List.nil_append, List.cons_append, List.append_nil]) (by kernel_rfl) (by kernel_rfl) i0_42 i1_42 (by simp [enc_len]) .grow) ?_
  refine wpG.takeD 28 false (some 33) (.agg (enc .u8 (wr (wr (wr (wr (zeroA 4) 0 (rd a0_0 (rd a1 0))) 1 (rd a0_0 (rd a1 1))) 2 (rd a0_0 (rd a1 2))) 3 (rd a0_0 (rd a1 3)))).toArray) (by kernel_rfl) (by kernel_rfl) (yld fun _ => by kernel_rfl) ?_
  refine wpG.only 29 (by kernel_rfl) (op_storeW (t := 101) (v := .agg (enc .u8 (wr (wr (wr (wr (zeroA 4) 0 (rd a0_0 (rd a1 0))) 1 (rd a0_0 (rd a1 1))) 2 (rd a0_0 (rd a1 2))) 3 (rd a0_0 (rd a1 3)))).toArray) (d := none) (by kernel_rfl) hs 0 rfl (vs := enc .u8 (wr (wr (wr (wr (zeroA 4) 0 (rd a0_0 (rd a1 0))) 1 (rd a0_0 (rd a1 1))) 2 (rd a0_0 (rd a1 2))) 3 (rd a0_0 (rd a1 3)))) (n := 4) (by kernel_rfl) (by kernel_rfl) (by kernel_rfl) (by simp [enc_len]) (by simp [enc_len]) (by intro u hu; exact enc_one _ _ u hu) ?_)
  intro w kp hs
  refine ⟨⟨fun hf => absurd hf (by decide), kp.mono fun _ h => h⟩, ?_⟩
  refine wpG.fin (by kernel_rfl) rfl (kr25 _ _ ?_)
  refine then_n (ks24 _ _ ?_)
  refine xret ?_
  have q0 := of_some h
  subst q0
  exact qq _ _ (post_ret (by kernel_rfl) (run_results [.cell 4 101] [.agg (enc .u8 (wr (wr (wr (wr (zeroA 4) 0 (rd a0_0 (rd a1 0))) 1 (rd a0_0 (rd a1 1))) 2 (rd a0_0 (rd a1 2))) 3 (rd a0_0 (rd a1 3)))).toArray] (by kernel_rfl) (.cons (res_cellN (n := 4) hs 0 rfl (by kernel_rfl) (by kernel_rfl) (by kernel_rfl) (by exact enc_len _ _)) .nil)) ⟨congrArg Ending.returned (by kernel_rfl), ((hs.conv (L' := [.blk b2 (enc .u8 (wr (wr (wr (wr (zeroA 4) 0 (rd a0_0 (rd a1 0))) 1 (rd a0_0 (rd a1 1))) 2 (rd a0_0 (rd a1 2))) 3 (rd a0_0 (rd a1 3)))) 101, .blk b1 (enc .u8 a1) 101, .blk p0 (([] : List Value) ++ enc .u8 a0_0 ++ enc .u8 a0_1 ++ ([] : List Value)) 48]) rfl).drop (.cons _ (.cons _ (.cons_cons _ .slnil))))⟩)

theorem aes_word_xor.ok {K : Nat} {a0 : Arr 4} {a1 : Arr 4} {r0 : Arr 4} (h : aes_word_xor.f K a0 a1 = some r0) (w0 : World) : Ret Try.prog 84 #[.agg (enc .u8 a0).toArray, .agg (enc .u8 a1).toArray] w0 (.agg (enc .u8 r0).toArray) := by
  refine calls_k Try.func84 rfl fun Q qq => ?_
  have hs := St.start w0
  refine wp_conv (a' := ⟨#[.agg (enc .u8 a0).toArray, .agg (enc .u8 a1).toArray, undef, undef, undef, undef, undef, undef, undef, undef, undef, undef, undef, undef, undef, undef, undef, undef, undef, undef, undef, undef, undef, undef, undef, undef], []⟩) (by kernel_rfl) ?_
  refine xseq_k fun KS1 ks1 => ?_
  refine wp_regS (l := [0, 1, 2]) (by kernel_rfl) (by kernel_rfl) fun KR2 kr2 => ?_
  refine wpS.only 0 (op_box (t := 101) (v := .agg (enc .u8 a0).toArray) (d := (some 2)) (by kernel_rfl) hs (enc .u8 a0) (by kernel_rfl) (by kernel_rfl) ?_)
  intro b1 w gw hs
  refine ⟨fun _ => trivial, ?_⟩
  refine wpS.only 1 (op_box (t := 101) (v := .agg (enc .u8 a1).toArray) (d := (some 3)) (by kernel_rfl) hs (enc .u8 a1) (by kernel_rfl) (by kernel_rfl) ?_)
  intro b2 w gw hs
  refine ⟨fun _ => trivial, ?_⟩
  refine wpS.only 2 (op_alloc (t := 101) (d := (some 4)) (by kernel_rfl) hs (enc .u8 (zeroA 4)) (.agg (enc .u8 (zeroA 4)).toArray) (by kernel_rfl) (by kernel_rfl) (by kernel_rfl) ?_)
  intro b3 w gw hs
  refine ⟨fun _ => trivial, ?_⟩
  refine wpS.fin rfl (kr2 _ _ ?_)
  refine then_n (ks1 _ _ ?_)
  refine xseq_k fun KS3 ks3 => ?_
  refine wp_regS (l := [0, 1, 2, 3, 4, 5, 6, 7, 8, 9, 10, 11, 12, 13, 14, 15, 16, 17, 18, 19, 20, 21]) (by kernel_rfl) (by kernel_rfl) fun KR4 kr4 => ?_
  refine wpS.take 0 false (some 5) (.pointer (some ⟨b1, 0 + (0 : Int).toNat * 1, none⟩)) (by kernel_rfl) (yld_idx (t := 101) (e := 5) (n := 4) (sz := 1) (k := .i64) (x := 0) (by kernel_rfl) (by kernel_rfl) (by kernel_rfl) (by decide) (by decide)) ?_
  refine wpS.take 1 true (some 6) (.int .u8 (rd a0 0)) (by kernel_rfl) (yld_loadA (e := 5) (x := 0) hs 2 rfl (by kernel_rfl) (by kernel_rfl) (by decide) (by decide) .grow) ?_
  refine wpS.take 2 false (some 7) (.pointer (some ⟨b2, 0 + (0 : Int).toNat * 1, none⟩)) (by kernel_rfl) (yld_idx (t := 101) (e := 5) (n := 4) (sz := 1) (k := .i64) (x := 0) (by kernel_rfl) (by kernel_rfl) (by kernel_rfl) (by decide) (by decide)) ?_
  refine wpS.take 3 true (some 8) (.int .u8 (rd a1 0)) (by kernel_rfl) (yld_loadA (e := 5) (x := 0) hs 1 rfl (by kernel_rfl) (by kernel_rfl) (by decide) (by decide) .grow) ?_
  refine wpS.take 4 false (some 9) (.int .u8 (ixor .u8 (rd a0 0) (rd a1 0))) (by kernel_rfl) (yld fun _ => by kernel_rfl) ?_
  refine wpS.take 5 false (some 10) (.pointer (some ⟨b1, 0 + (1 : Int).toNat * 1, none⟩)) (by kernel_rfl) (yld_idx (t := 101) (e := 5) (n := 4) (sz := 1) (k := .i64) (x := 1) (by kernel_rfl) (by kernel_rfl) (by kernel_rfl) (by decide) (by decide)) ?_
  refine wpS.take 6 true (some 11) (.int .u8 (rd a0 1)) (by kernel_rfl) (yld_loadA (e := 5) (x := 1) hs 2 rfl (by kernel_rfl) (by kernel_rfl) (by decide) (by decide) .grow) ?_
  refine wpS.take 7 false (some 12) (.pointer (some ⟨b2, 0 + (1 : Int).toNat * 1, none⟩)) (by kernel_rfl) (yld_idx (t := 101) (e := 5) (n := 4) (sz := 1) (k := .i64) (x := 1) (by kernel_rfl) (by kernel_rfl) (by kernel_rfl) (by decide) (by decide)) ?_
  refine wpS.take 8 true (some 13) (.int .u8 (rd a1 1)) (by kernel_rfl) (yld_loadA (e := 5) (x := 1) hs 1 rfl (by kernel_rfl) (by kernel_rfl) (by decide) (by decide) .grow) ?_
  refine wpS.take 9 false (some 14) (.int .u8 (ixor .u8 (rd a0 1) (rd a1 1))) (by kernel_rfl) (yld fun _ => by kernel_rfl) ?_
  refine wpS.take 10 false (some 15) (.pointer (some ⟨b1, 0 + (2 : Int).toNat * 1, none⟩)) (by kernel_rfl) (yld_idx (t := 101) (e := 5) (n := 4) (sz := 1) (k := .i64) (x := 2) (by kernel_rfl) (by kernel_rfl) (by kernel_rfl) (by decide) (by decide)) ?_
  refine wpS.take 11 true (some 16) (.int .u8 (rd a0 2)) (by kernel_rfl) (yld_loadA (e := 5) (x := 2) hs 2 rfl (by kernel_rfl) (by kernel_rfl) (by decide) (by decide) .grow) ?_
  refine wpS.take 12 false (some 17) (.pointer (some ⟨b2, 0 + (2 : Int).toNat * 1, none⟩)) (by kernel_rfl) (yld_idx (t := 101) (e := 5) (n := 4) (sz := 1) (k := .i64) (x := 2) (by kernel_rfl) (by kernel_rfl) (by kernel_rfl) (by decide) (by decide)) ?_
  refine wpS.take 13 true (some 18) (.int .u8 (rd a1 2)) (by kernel_rfl) (yld_loadA (e := 5) (x := 2) hs 1 rfl (by kernel_rfl) (by kernel_rfl) (by decide) (by decide) .grow) ?_
  refine wpS.take 14 false (some 19) (.int .u8 (ixor .u8 (rd a0 2) (rd a1 2))) (by kernel_rfl) (yld fun _ => by kernel_rfl) ?_
  refine wpS.take 15 false (some 20) (.pointer (some ⟨b1, 0 + (3 : Int).toNat * 1, none⟩)) (by kernel_rfl) (yld_idx (t := 101) (e := 5) (n := 4) (sz := 1) (k := .i64) (x := 3) (by kernel_rfl) (by kernel_rfl) (by kernel_rfl) (by decide) (by decide)) ?_
  refine wpS.take 16 true (some 21) (.int .u8 (rd a0 3)) (by kernel_rfl) (yld_loadA (e := 5) (x := 3) hs 2 rfl (by kernel_rfl) (by kernel_rfl) (by decide) (by decide) .grow) ?_
  refine wpS.take 17 false (some 22) (.pointer (some ⟨b2, 0 + (3 : Int).toNat * 1, none⟩)) (by kernel_rfl) (yld_idx (t := 101) (e := 5) (n := 4) (sz := 1) (k := .i64) (x := 3) (by kernel_rfl) (by kernel_rfl) (by kernel_rfl) (by decide) (by decide)) ?_
  refine wpS.take 18 true (some 23) (.int .u8 (rd a1 3)) (by kernel_rfl) (yld_loadA (e := 5) (x := 3) hs 1 rfl (by kernel_rfl) (by kernel_rfl) (by decide) (by decide) .grow) ?_
  refine wpS.take 19 false (some 24) (.int .u8 (ixor .u8 (rd a0 3) (rd a1 3))) (by kernel_rfl) (yld fun _ => by kernel_rfl) ?_
  refine wpS.take 20 false (some 25) (.agg (enc .u8 (wr (wr (wr (wr (zeroA 4) 0 (ixor .u8 (rd a0 0) (rd a1 0))) 1 (ixor .u8 (rd a0 1) (rd a1 1))) 2 (ixor .u8 (rd a0 2) (rd a1 2))) 3 (ixor .u8 (rd a0 3) (rd a1 3)))).toArray) (by kernel_rfl) (yld fun _ => by kernel_rfl) ?_
  refine wpS.only 21 (op_storeW (t := 101) (v := .agg (enc .u8 (wr (wr (wr (wr (zeroA 4) 0 (ixor .u8 (rd a0 0) (rd a1 0))) 1 (ixor .u8 (rd a0 1) (rd a1 1))) 2 (ixor .u8 (rd a0 2) (rd a1 2))) 3 (ixor .u8 (rd a0 3) (rd a1 3)))).toArray) (d := none) (by kernel_rfl) hs 0 rfl (vs := enc .u8 (wr (wr (wr (wr (zeroA 4) 0 (ixor .u8 (rd a0 0) (rd a1 0))) 1 (ixor .u8 (rd a0 1) (rd a1 1))) 2 (ixor .u8 (rd a0 2) (rd a1 2))) 3 (ixor .u8 (rd a0 3) (rd a1 3)))) (n := 4) (by kernel_rfl) (by kernel_rfl) (by kernel_rfl) (by simp [enc_len]) (by simp [enc_len]) (by intro u hu; exact enc_one _ _ u hu) ?_)
  intro w kp hs
  refine ⟨fun _ => trivial, ?_⟩
  refine wpS.fin rfl (kr4 _ _ ?_)
  refine then_n (ks3 _ _ ?_)
  refine xret ?_
  have q0 := of_some h
  subst q0
  exact qq _ _ (post_ret (by kernel_rfl) (run_results [.cell 4 101] [.agg (enc .u8 (wr (wr (wr (wr (zeroA 4) 0 (ixor .u8 (rd a0 0) (rd a1 0))) 1 (ixor .u8 (rd a0 1) (rd a1 1))) 2 (ixor .u8 (rd a0 2) (rd a1 2))) 3 (ixor .u8 (rd a0 3) (rd a1 3)))).toArray] (by kernel_rfl) (.cons (res_cellN (n := 4) hs 0 rfl (by kernel_rfl) (by kernel_rfl) (by kernel_rfl) (by exact enc_len _ _)) .nil)) ⟨congrArg Ending.returned (by kernel_rfl), hs.none⟩)

theorem aes_double.ok {K : Nat} {a0 : Int} {r0 : Int} (h : aes_double.f K a0 = some r0) (w0 : World) : Ret Try.prog 109 #[.int .u8 a0] w0 (.int .u8 r0) := by
  refine calls_k Try.func109 rfl fun Q qq => ?_
  have hs := St.start w0
  refine wp_conv (a' := ⟨#[.int .u8 a0, undef, undef, undef, undef, undef, undef, undef, undef, undef], []⟩) (by kernel_rfl) ?_
  refine xseq_k fun KS1 ks1 => ?_
  refine wp_regS (l := [0]) (by kernel_rfl) (by kernel_rfl) fun KR2 kr2 => ?_
  refine wpS.take 0 false (some 2) (.int .u8 0) (by kernel_rfl) (yld fun _ => by kernel_rfl) ?_
  refine wpS.fin rfl (kr2 _ _ ?_)
  refine then_n (ks1 _ _ ?_)
  refine xseq_k fun KS3 ks3 => ?_
  refine wp_regS (l := [0, 1, 2, 3, 4, 5, 6, 7]) (by kernel_rfl) (by kernel_rfl) fun KR4 kr4 => ?_
  refine wpS.take 0 false (some 3) (.int .u8 a0) (by kernel_rfl) (yld fun _ => by kernel_rfl) ?_
  refine wpS.take 1 false (some 4) (.int .u8 (ishl .u8 a0 1)) (by kernel_rfl) (yld fun _ => by kernel_rfl) ?_
  refine wpS.take 2 false (some 5) (.int .u8 a0) (by kernel_rfl) (yld fun _ => by kernel_rfl) ?_
  refine wpS.take 3 false (some 6) (.int .u8 (ishr .u8 a0 7)) (by kernel_rfl) (yld fun _ => by kernel_rfl) ?_
  refine wpS.take 4 false (some 7) (.int .u8 (isub .u8 0 (ishr .u8 a0 7))) (by kernel_rfl) (yld fun _ => by kernel_rfl) ?_
  refine wpS.take 5 false (some 8) (.int .u8 (iand .u8 27 (isub .u8 0 (ishr .u8 a0 7)))) (by kernel_rfl) (yld fun _ => by kernel_rfl) ?_
  refine wpS.take 6 false (some 9) (.int .u8 (ixor .u8 (ishl .u8 a0 1) (iand .u8 27 (isub .u8 0 (ishr .u8 a0 7))))) (by kernel_rfl) (yld fun _ => by kernel_rfl) ?_
  obtain ⟨x1, hx, h⟩ := of_bind h
  refine wpS.take 7 false (some 2) (.int .u8 x1) (by kernel_rfl) (yld_int hx (fun _ => by kernel_rfl)) ?_
  refine wpS.fin rfl (kr4 _ _ ?_)
  refine then_n (ks3 _ _ ?_)
  refine xret ?_
  have q0 := of_some h
  subst q0
  exact qq _ _ (post_ret (by kernel_rfl) (run_results [.tmp 2] [.int .u8 x1] (by kernel_rfl) (.cons (res_tmp (by kernel_rfl)) .nil)) ⟨congrArg Ending.returned (by kernel_rfl), hs.none⟩)

theorem aes_mix.ok {K : Nat} {a0 : Arr 16} {rp : Arr 16} {p0 : Nat} (h : aes_mix.f K a0 = some rp) (w0 : World) (hb : w0.heap[p0]? = some (.cells (enc .u8 a0).toArray 42 (0, 0))) : Calls Try.prog 87 #[.pointer (some ⟨p0, 0, none⟩)] w0 fun e w' => e = .returned (.tuple #[]) ∧ St w0 [p0] [.blk p0 (enc .u8 rp) 42] [] w' := by
  refine calls_kn Try.func87 rfl fun Q qq qn => ?_
  have hs := St.startX hb allX_nil
  refine wp_conv (a' := ⟨#[.pointer (some ⟨p0, 0, none⟩), undef, undef, undef, undef, undef, undef, undef, undef, undef, undef, undef, undef, undef, undef, undef, undef, undef, undef, undef, undef, undef, undef, undef, undef, undef, undef, undef, undef, undef, undef, undef, undef, undef, undef, undef, undef, undef, undef, undef, undef, undef, undef, undef, undef, undef, undef, undef, undef, undef, undef, undef, undef, undef, undef], []⟩) (by kernel_rfl) ?_
  refine xseq_k fun KS209 ks209 => ?_
  refine wp_regS (l := [0]) (by kernel_rfl) (by kernel_rfl) fun KR210 kr210 => ?_
  refine wpS.take 0 false (some 2) (.int .i64 0) (by kernel_rfl) (yld fun _ => by kernel_rfl) ?_
  refine wpS.fin rfl (kr210 _ _ ?_)
  refine then_n (ks209 _ _ ?_)
  obtain ⟨y3, hy, hk0⟩ := of_bind h
  refine wp_exq (N := fun a w => St w0 [p0] [.blk p0 (enc .u8 y3) 42] [] w ∧ ∃ g : Nat → Value, a = ⟨#[.pointer (some ⟨p0, 0, none⟩), undef, (g 2), (g 3), (g 4), (g 5), (g 6), (g 7), (g 8), (g 9), (g 10), (g 11), (g 12), (g 13), (g 14), (g 15), (g 16), (g 17), (g 18), (g 19), (g 20), (g 21), (g 22), (g 23), (g 24), (g 25), (g 26), (g 27), (g 28), (g 29), (g 30), (g 31), (g 32), (g 33), (g 34), (g 35), (g 36), (g 37), (g 38), (g 39), (g 40), (g 41), (g 42), (g 43), (g 44), (g 45), (g 46), (g 47), (g 48), (g 49), (g 50), (g 51), (g 52), (g 53), (g 54)], []⟩) (fun N0 nn0 => ?_) ?_
  · clear hk0
    refine xblock ?_
    refine wp_loop_k (fun n a w => ∃ z1 z2, aes_mix.l0 K n z1 z2 = some y3 ∧ St w0 [p0] [.blk p0 (enc .u8 z2) 42] [] w ∧ ∃ g : Nat → Value, a = ⟨#[.pointer (some ⟨p0, 0, none⟩), undef, .int .i64 z1, (g 3), (g 4), (g 5), (g 6), (g 7), (g 8), (g 9), (g 10), (g 11), (g 12), (g 13), (g 14), (g 15), (g 16), (g 17), (g 18), (g 19), (g 20), (g 21), (g 22), (g 23), (g 24), (g 25), (g 26), (g 27), (g 28), (g 29), (g 30), (g 31), (g 32), (g 33), (g 34), (g 35), (g 36), (g 37), (g 38), (g 39), (g 40), (g 41), (g 42), (g 43), (g 44), (g 45), (g 46), (g 47), (g 48), (g 49), (g 50), (g 51), (g 52), (g 53), (g 54)], []⟩) K ⟨0, a0, hy, hs.conv rfl, exg (by kernel_rfl)⟩ ?_
    clear hs h hy
    rintro n a w ⟨z1, z2, h, hs, g, rfl⟩ KL0 kl0
    cases n with
    | zero => exact nomatch (show none = some _ from h)
    | succ n =>
      refine xseq_k fun KS316 ks316 => ?_
      refine xseq_k fun KS317 ks317 => ?_
      refine wp_regS (l := [0, 1]) (by kernel_rfl) (by kernel_rfl) fun KR318 kr318 => ?_
      refine wpS.take 0 false (some 6) (.int .i64 z1) (by kernel_rfl) (yld fun _ => by kernel_rfl) ?_
      rcases of_if h with ⟨hc, h⟩ | ⟨hc, h⟩
      · refine wpS.take 1 false (some 7) (.bool true) (by kernel_rfl) (yld_b (dt hc) (fun _ => by kernel_rfl)) ?_
        refine wpS.fin rfl (kr318 _ _ ?_)
        refine then_n (ks317 _ _ ?_)
        refine wp_cond_t (by kernel_rfl) ?_
        refine xskip ?_
        refine then_n (ks316 _ _ ?_)
        refine xseq_k fun KS367 ks367 => ?_
        refine xblock ?_
        refine xseq_k fun KS368 ks368 => ?_
        refine wp_regS (l := [0, 1, 2, 3, 4, 5, 6, 7, 8, 9]) (by kernel_rfl) (by kernel_rfl) fun KR369 kr369 => ?_
        refine wpS.take 0 false (some 10) (.pointer (some ⟨p0, 0, none⟩)) (by kernel_rfl) (yld fun _ => by kernel_rfl) ?_
        refine wpS.take 1 false (some 11) (.pointer (some ⟨p0, 0, none⟩)) (by kernel_rfl) (yld fun _ => by kernel_rfl) ?_
        refine wpS.take 2 false (some 12) (.int .i64 z1) (by kernel_rfl) (yld fun _ => by kernel_rfl) ?_
        refine wpS.take 3 false (some 13) (.int .i64 z1) (by kernel_rfl) (yld fun _ => by kernel_rfl) ?_
        refine wpS.take 4 false (some 14) (.int .i64 (iadd .i64 z1 4)) (by kernel_rfl) (yld fun _ => by kernel_rfl) ?_
        obtain ⟨b0_370, h⟩ := of_chk h
        obtain ⟨b1_370, h⟩ := of_chk h
        obtain ⟨b2_370, h⟩ := of_chk h
        obtain ⟨b3_370, h⟩ := of_chk h
        refine wpS.take 5 false (some 15) (.slice (some ⟨p0, 0 + (z1 : Int).toNat * 1, none⟩) (((iadd .i64 z1 4) : Int).toNat - (z1 : Int).toNat) (16 - (z1 : Int).toNat)) (by kernel_rfl) (yld_slA (t := 42) (e := 5) (n := 16) (k1 := .i64) (k2 := .i64) (lo := z1) (hi := (iadd .i64 z1 4)) (by kernel_rfl) (by kernel_rfl) (by kernel_rfl) b0_370 b1_370 b2_370 b3_370) ?_
        obtain ⟨h0, h⟩ := of_chk h
        have i0_371 := b0_370
        have i1_371 : (z1 : Int) + ((4 : Nat) : Int) ≤ ((16 : Nat) : Int) := by have := b2_370; omega
        refine wpS.take 6 false (some 16) (.pointer (some ⟨p0, 0 + (z1 : Int).toNat * 1, none⟩)) (by kernel_rfl) (yld_toArr (t := 101) (e := 5) (n := 4) (len := ((iadd .i64 z1 4) : Int).toNat - (z1 : Int).toNat) (c := 16 - (z1 : Int).toNat) (by kernel_rfl) (by kernel_rfl) h0) ?_
        refine wpS.take 7 true (some 17) (.agg (enc .u8 (subA 4 z2 z1)).toArray) (by kernel_rfl) (yld_loadSub (e := 101) (m := 4) (x := z1) hs 0 rfl (by kernel_rfl) (by kernel_rfl) (by kernel_rfl) i0_371 i1_371 .grow) ?_
        refine wpS.only 8 (op_alloc (t := 101) (d := (some 3)) (by kernel_rfl) hs (enc .u8 (zeroA 4)) (.agg (enc .u8 (zeroA 4)).toArray) (by kernel_rfl) (by kernel_rfl) (by kernel_rfl) ?_)
        intro b4 w gw hs
        refine ⟨fun _ => trivial, ?_⟩
        refine wpS.only 9 (op_storeW (t := 101) (v := .agg (enc .u8 (subA 4 z2 z1)).toArray) (d := none) (by kernel_rfl) hs 0 rfl (vs := enc .u8 (subA 4 z2 z1)) (n := 4) (by kernel_rfl) (by kernel_rfl) (by kernel_rfl) (by simp [enc_len]) (by simp [enc_len]) (by intro u hu; exact enc_one _ _ u hu) ?_)
        intro w kp hs
        refine ⟨fun _ => trivial, ?_⟩
        refine wpS.fin rfl (kr369 _ _ ?_)
        refine then_n (ks368 _ _ ?_)
        refine xseq_k fun KS372 ks372 => ?_
        refine wp_regS (l := [0, 1, 2, 3, 4, 5, 6, 7, 8, 9, 10, 11]) (by kernel_rfl) (by kernel_rfl) fun KR373 kr373 => ?_
        refine wpS.take 0 false (some 18) (.pointer (some ⟨b4, 0 + (0 : Int).toNat * 1, none⟩)) (by kernel_rfl) (yld_idx (t := 101) (e := 5) (n := 4) (sz := 1) (k := .i64) (x := 0) (by kernel_rfl) (by kernel_rfl) (by kernel_rfl) (by decide) (by decide)) ?_
        refine wpS.take 1 true (some 19) (.int .u8 (rd (subA 4 z2 z1) 0)) (by kernel_rfl) (yld_loadA (e := 5) (x := 0) hs 0 rfl (by kernel_rfl) (by kernel_rfl) (by decide) (by decide) .grow) ?_
        refine wpS.take 2 false (some 20) (.pointer (some ⟨b4, 0 + (1 : Int).toNat * 1, none⟩)) (by kernel_rfl) (yld_idx (t := 101) (e := 5) (n := 4) (sz := 1) (k := .i64) (x := 1) (by kernel_rfl) (by kernel_rfl) (by kernel_rfl) (by decide) (by decide)) ?_
        refine wpS.take 3 true (some 21) (.int .u8 (rd (subA 4 z2 z1) 1)) (by kernel_rfl) (yld_loadA (e := 5) (x := 1) hs 0 rfl (by kernel_rfl) (by kernel_rfl) (by decide) (by decide) .grow) ?_
        refine wpS.take 4 false (some 22) (.int .u8 (ixor .u8 (rd (subA 4 z2 z1) 0) (rd (subA 4 z2 z1) 1))) (by kernel_rfl) (yld fun _ => by kernel_rfl) ?_
        refine wpS.take 5 false (some 23) (.pointer (some ⟨b4, 0 + (2 : Int).toNat * 1, none⟩)) (by kernel_rfl) (yld_idx (t := 101) (e := 5) (n := 4) (sz := 1) (k := .i64) (x := 2) (by kernel_rfl) (by kernel_rfl) (by kernel_rfl) (by decide) (by decide)) ?_
        refine wpS.take 6 true (some 24) (.int .u8 (rd (subA 4 z2 z1) 2)) (by kernel_rfl) (yld_loadA (e := 5) (x := 2) hs 0 rfl (by kernel_rfl) (by kernel_rfl) (by decide) (by decide) .grow) ?_
        refine wpS.take 7 false (some 25) (.int .u8 (ixor .u8 (ixor .u8 (rd (subA 4 z2 z1) 0) (rd (subA 4 z2 z1) 1)) (rd (subA 4 z2 z1) 2))) (by kernel_rfl) (yld fun _ => by kernel_rfl) ?_
        refine wpS.take 8 false (some 26) (.pointer (some ⟨b4, 0 + (3 : Int).toNat * 1, none⟩)) (by kernel_rfl) (yld_idx (t := 101) (e := 5) (n := 4) (sz := 1) (k := .i64) (x := 3) (by kernel_rfl) (by kernel_rfl) (by kernel_rfl) (by decide) (by decide)) ?_
        refine wpS.take 9 true (some 27) (.int .u8 (rd (subA 4 z2 z1) 3)) (by kernel_rfl) (yld_loadA (e := 5) (x := 3) hs 0 rfl (by kernel_rfl) (by kernel_rfl) (by decide) (by decide) .grow) ?_
        refine wpS.take 10 false (some 28) (.int .u8 (ixor .u8 (ixor .u8 (ixor .u8 (rd (subA 4 z2 z1) 0) (rd (subA 4 z2 z1) 1)) (rd (subA 4 z2 z1) 2)) (rd (subA 4 z2 z1) 3))) (by kernel_rfl) (yld fun _ => by kernel_rfl) ?_
        obtain ⟨x5, hx, h⟩ := of_bind h
        refine wpS.take 11 false (some 4) (.int .u8 x5) (by kernel_rfl) (yld_int hx (fun _ => by kernel_rfl)) ?_
        refine wpS.fin rfl (kr373 _ _ ?_)
        refine then_n (ks372 _ _ ?_)
        refine xseq_k fun KS378 ks378 => ?_
        refine wp_regS (l := [0]) (by kernel_rfl) (by kernel_rfl) fun KR379 kr379 => ?_
        refine wpS.take 0 false (some 29) (.int .i64 0) (by kernel_rfl) (yld fun _ => by kernel_rfl) ?_
        refine wpS.fin rfl (kr379 _ _ ?_)
        refine then_n (ks378 _ _ ?_)
        obtain ⟨y8, hy, hk1⟩ := of_bind h
        refine wp_exq (N := fun a w => St w0 [p0] [.blk b4 (enc .u8 (subA 4 z2 z1)) 101, .blk p0 (enc .u8 y8) 42] [] w ∧ ∃ g : Nat → Value, a = ⟨#[.pointer (some ⟨p0, 0, none⟩), undef, .int .i64 z1, .pointer (some ⟨b4, 0, none⟩), .int .u8 x5, (g 5), .int .i64 z1, .bool true, (g 8), (g 9), .pointer (some ⟨p0, 0, none⟩), .pointer (some ⟨p0, 0, none⟩), .int .i64 z1, .int .i64 z1, .int .i64 (iadd .i64 z1 4), .slice (some ⟨p0, 0 + (z1 : Int).toNat * 1, none⟩) (((iadd .i64 z1 4) : Int).toNat - (z1 : Int).toNat) (16 - (z1 : Int).toNat), .pointer (some ⟨p0, 0 + (z1 : Int).toNat * 1, none⟩), .agg (enc .u8 (subA 4 z2 z1)).toArray, .pointer (some ⟨b4, 0 + (0 : Int).toNat * 1, none⟩), .int .u8 (rd (subA 4 z2 z1) 0), .pointer (some ⟨b4, 0 + (1 : Int).toNat * 1, none⟩), .int .u8 (rd (subA 4 z2 z1) 1), .int .u8 (ixor .u8 (rd (subA 4 z2 z1) 0) (rd (subA 4 z2 z1) 1)), .pointer (some ⟨b4, 0 + (2 : Int).toNat * 1, none⟩), .int .u8 (rd (subA 4 z2 z1) 2), .int .u8 (ixor .u8 (ixor .u8 (rd (subA 4 z2 z1) 0) (rd (subA 4 z2 z1) 1)) (rd (subA 4 z2 z1) 2)), .pointer (some ⟨b4, 0 + (3 : Int).toNat * 1, none⟩), .int .u8 (rd (subA 4 z2 z1) 3), .int .u8 (ixor .u8 (ixor .u8 (ixor .u8 (rd (subA 4 z2 z1) 0) (rd (subA 4 z2 z1) 1)) (rd (subA 4 z2 z1) 2)) (rd (subA 4 z2 z1) 3)), (g 29), (g 30), (g 31), (g 32), (g 33), (g 34), (g 35), (g 36), (g 37), (g 38), (g 39), (g 40), (g 41), (g 42), (g 43), (g 44), (g 45), (g 46), (g 47), (g 48), (g 49), (g 50), (g 51), (g 52), (g 53), (g 54)], []⟩) (fun N1 nn1 => ?_) ?_
        · clear hk1
          refine xblock ?_
          refine wp_loop_k (fun n a w => ∃ z6 z7, aes_mix.l1 K n z1 z2 x5 z6 z7 = some y8 ∧ St w0 [p0] [.blk b4 (enc .u8 (subA 4 z2 z1)) 101, .blk p0 (enc .u8 z7) 42] [] w ∧ ∃ g : Nat → Value, a = ⟨#[.pointer (some ⟨p0, 0, none⟩), undef, .int .i64 z1, .pointer (some ⟨b4, 0, none⟩), .int .u8 x5, (g 5), .int .i64 z1, .bool true, (g 8), (g 9), .pointer (some ⟨p0, 0, none⟩), .pointer (some ⟨p0, 0, none⟩), .int .i64 z1, .int .i64 z1, .int .i64 (iadd .i64 z1 4), .slice (some ⟨p0, 0 + (z1 : Int).toNat * 1, none⟩) (((iadd .i64 z1 4) : Int).toNat - (z1 : Int).toNat) (16 - (z1 : Int).toNat), .pointer (some ⟨p0, 0 + (z1 : Int).toNat * 1, none⟩), .agg (enc .u8 (subA 4 z2 z1)).toArray, .pointer (some ⟨b4, 0 + (0 : Int).toNat * 1, none⟩), .int .u8 (rd (subA 4 z2 z1) 0), .pointer (some ⟨b4, 0 + (1 : Int).toNat * 1, none⟩), .int .u8 (rd (subA 4 z2 z1) 1), .int .u8 (ixor .u8 (rd (subA 4 z2 z1) 0) (rd (subA 4 z2 z1) 1)), .pointer (some ⟨b4, 0 + (2 : Int).toNat * 1, none⟩), .int .u8 (rd (subA 4 z2 z1) 2), .int .u8 (ixor .u8 (ixor .u8 (rd (subA 4 z2 z1) 0) (rd (subA 4 z2 z1) 1)) (rd (subA 4 z2 z1) 2)), .pointer (some ⟨b4, 0 + (3 : Int).toNat * 1, none⟩), .int .u8 (rd (subA 4 z2 z1) 3), .int .u8 (ixor .u8 (ixor .u8 (ixor .u8 (rd (subA 4 z2 z1) 0) (rd (subA 4 z2 z1) 1)) (rd (subA 4 z2 z1) 2)) (rd (subA 4 z2 z1) 3)), .int .i64 z6, (g 30), (g 31), (g 32), (g 33), (g 34), (g 35), (g 36), (g 37), (g 38), (g 39), (g 40), (g 41), (g 42), (g 43), (g 44), (g 45), (g 46), (g 47), (g 48), (g 49), (g 50), (g 51), (g 52), (g 53), (g 54)], []⟩) K ⟨0, z2, hy, hs.conv rfl, exg (by kernel_rfl)⟩ ?_
          clear hs h hy
          rintro n a w ⟨z6, z7, h, hs, g, rfl⟩ KL1 kl1
          cases n with
          | zero => exact nomatch (show none = some _ from h)
          | succ n =>
            refine xseq_k fun KS398 ks398 => ?_
            refine wp_regS (l := [0]) (by kernel_rfl) (by kernel_rfl) fun KR399 kr399 => ?_
            rcases of_if h with ⟨hc, h⟩ | ⟨hc, h⟩
            · refine wpS.take 0 false (some 30) (.bool true) (by kernel_rfl) (yld_b (dt hc) (fun _ => by kernel_rfl)) ?_
              refine wpS.fin rfl (kr399 _ _ ?_)
              refine then_n (ks398 _ _ ?_)
              refine xseq_k fun KS400 ks400 => ?_
              refine wp_cond_t (by kernel_rfl) ?_
              refine xskip ?_
              refine then_n (ks400 _ _ ?_)
              refine xseq_k fun KS401 ks401 => ?_
              refine xblock ?_
              refine xseq_k fun KS402 ks402 => ?_
              refine wp_regS (l := [0, 1]) (by kernel_rfl) (by kernel_rfl) fun KR403 kr403 => ?_
              refine wpS.take 0 false (some 31) (.int .i64 z6) (by kernel_rfl) (yld fun _ => by kernel_rfl) ?_
              refine wpS.take 1 false (some 5) (.int .i64 z6) (by kernel_rfl) (yld fun _ => by kernel_rfl) ?_
              refine wpS.fin rfl (kr403 _ _ ?_)
              refine then_n (ks402 _ _ ?_)
              refine wp_regG [22] (fun k => k = p0) 23 (by kernel_rfl) (by kernel_rfl) (by kernel_rfl) fun KR404 kr404 => ?_
              have hs := hs.drawn1
              refine wpG.takeD 0 false (some 32) (.pointer (some ⟨p0, 0, none⟩)) (by kernel_rfl) (by kernel_rfl) (yld fun _ => by kernel_rfl) ?_
              refine wpG.takeD 1 false (some 33) (.int .i64 z1) (by kernel_rfl) (by kernel_rfl) (yld fun _ => by kernel_rfl) ?_
              refine wpG.takeD 2 false (some 34) (.int .i64 z6) (by kernel_rfl) (by kernel_rfl) (yld fun _ => by kernel_rfl) ?_
              refine wpG.takeD 3 false (some 35) (.int .i64 (iadd .i64 z1 z6)) (by kernel_rfl) (by kernel_rfl) (yld fun _ => by kernel_rfl) ?_
              refine wpG.takeD 4 false (some 36) (.int .i64 z6) (by kernel_rfl) (by kernel_rfl) (yld fun _ => by kernel_rfl) ?_
              obtain ⟨i0_410, h⟩ := of_chk h
              obtain ⟨i1_410, h⟩ := of_chk h
              refine wpG.takeD 5 false (some 37) (.pointer (some ⟨b4, 0 + (z6 : Int).toNat * 1, none⟩)) (by kernel_rfl) (by kernel_rfl) (yld_idx (t := 101) (e := 5) (n := 4) (sz := 1) (k := .i64) (x := z6) (by kernel_rfl) (by kernel_rfl) (by kernel_rfl) i0_410 i1_410) ?_
              refine wpG.takeD 6 true (some 38) (.int .u8 (rd (subA 4 z2 z1) z6)) (by kernel_rfl) (by kernel_rfl) (yld_loadA (e := 5) (x := z6) hs 0 rfl (by kernel_rfl) (by kernel_rfl) i0_410 i1_410 .grow) ?_
              refine wpG.takeD 7 false (some 39) (.int .u8 x5) (by kernel_rfl) (by kernel_rfl) (yld fun _ => by kernel_rfl) ?_
              refine wpG.takeD 8 false (some 40) (.int .u8 (ixor .u8 (rd (subA 4 z2 z1) z6) x5)) (by kernel_rfl) (by kernel_rfl) (yld fun _ => by kernel_rfl) ?_
              refine wpG.takeD 9 false (some 41) (.int .i64 z6) (by kernel_rfl) (by kernel_rfl) (yld fun _ => by kernel_rfl) ?_
              obtain ⟨i0_411, h⟩ := of_chk h
              obtain ⟨i1_411, h⟩ := of_chk h
              refine wpG.takeD 10 false (some 42) (.pointer (some ⟨b4, 0 + (z6 : Int).toNat * 1, none⟩)) (by kernel_rfl) (by kernel_rfl) (yld_idx (t := 101) (e := 5) (n := 4) (sz := 1) (k := .i64) (x := z6) (by kernel_rfl) (by kernel_rfl) (by kernel_rfl) i0_411 i1_411) ?_
              refine wpG.takeD 11 true (some 43) (.int .u8 (rd (subA 4 z2 z1) z6)) (by kernel_rfl) (by kernel_rfl) (yld_loadA (e := 5) (x := z6) hs 0 rfl (by kernel_rfl) (by kernel_rfl) i0_411 i1_411 .grow) ?_
              refine wpG.takeD 12 false (some 44) (.int .i64 z6) (by kernel_rfl) (by kernel_rfl) (yld fun _ => by kernel_rfl) ?_
              refine wpG.takeD 13 false (some 45) (.int .i64 (iadd .i64 z6 1)) (by kernel_rfl) (by kernel_rfl) (yld fun _ => by kernel_rfl) ?_
              refine wpG.takeD 14 false (some 46) (.int .i64 (irem .i64 (iadd .i64 z6 1) 4)) (by kernel_rfl) (by kernel_rfl) (yld fun _ => by kernel_rfl) ?_
              obtain ⟨x9, hx, h⟩ := of_bind h
              have hx := of_some hx
              subst hx
              obtain ⟨i0_412, h⟩ := of_chk h
              obtain ⟨i1_412, h⟩ := of_chk h
              refine wpG.takeD 15 false (some 47) (.pointer (some ⟨b4, 0 + ((irem .i64 (iadd .i64 z6 1) 4) : Int).toNat * 1, none⟩)) (by kernel_rfl) (by kernel_rfl) (yld_idx (t := 101) (e := 5) (n := 4) (sz := 1) (k := .i64) (x := (irem .i64 (iadd .i64 z6 1) 4)) (by kernel_rfl) (by kernel_rfl) (by kernel_rfl) i0_412 i1_412) ?_
              refine wpG.takeD 16 true (some 48) (.int .u8 (rd (subA 4 z2 z1) (irem .i64 (iadd .i64 z6 1) 4))) (by kernel_rfl) (by kernel_rfl) (yld_loadA (e := 5) (x := (irem .i64 (iadd .i64 z6 1) 4)) hs 0 rfl (by kernel_rfl) (by kernel_rfl) i0_412 i1_412 .grow) ?_
              refine wpG.takeD 17 false (some 49) (.int .u8 (ixor .u8 (rd (subA 4 z2 z1) z6) (rd (subA 4 z2 z1) (irem .i64 (iadd .i64 z6 1) 4)))) (by kernel_rfl) (by kernel_rfl) (yld fun _ => by kernel_rfl) ?_
              refine wpG.takeD 20 false (some 52) (.pointer (some ⟨p0, 0, none⟩)) (by kernel_rfl) (by kernel_rfl) (yld fun _ => by kernel_rfl) ?_
              obtain ⟨r10, hg, h⟩ := of_bind h
              refine wpG.only 18 (by kernel_rfl) (op_call (d := (some 50)) (by kernel_rfl) hs (fun _ => by kernel_rfl) (aes_double.ok hg _) ?_)
              intro w gw hs
              refine ⟨.of gw, ?_⟩
              refine wpG.takeD 19 false (some 51) (.int .u8 (ixor .u8 (ixor .u8 (rd (subA 4 z2 z1) z6) x5) r10)) (by kernel_rfl) (by kernel_rfl) (yld fun _ => by kernel_rfl) ?_
              obtain ⟨x11, hx, h⟩ := of_bind h
              have hx := of_some hx
              subst hx
              obtain ⟨i0_413, h⟩ := of_chk h
              obtain ⟨i1_413, h⟩ := of_chk h
              refine wpG.takeD 21 false (some 53) (.pointer (some ⟨p0, 0 + ((iadd .i64 z1 z6) : Int).toNat * 1, none⟩)) (by kernel_rfl) (by kernel_rfl) (yld_idx (t := 42) (e := 5) (n := 16) (sz := 1) (k := .i64) (x := (iadd .i64 z1 z6)) (by kernel_rfl) (by kernel_rfl) (by kernel_rfl) i0_413 i1_413) ?_
              obtain ⟨x12, hx, h⟩ := of_bind h
              refine wpG.only 22 (by kernel_rfl) (op_storeA (t := 5) (x := (iadd .i64 z1 z6)) (v := x12) (d := none) (by kernel_rfl) hs 1 rfl (by cases hx; kernel_rfl) (by kernel_rfl) i0_413 i1_413 ?_)
              intro w kp hs
              refine ⟨⟨fun hf => absurd hf (by decide), kp.mono fun _ h => h⟩, ?_⟩
              refine wpG.fin (by kernel_rfl) rfl (kr404 _ _ ?_)
              refine inBlock_n ?_
              refine then_n (ks401 _ _ ?_)
              refine wp_regS (l := [0, 1]) (by kernel_rfl) (by kernel_rfl) fun KR414 kr414 => ?_
              refine wpS.take 0 false (some 54) (.int .i64 (iadd .i64 z6 1)) (by kernel_rfl) (yld fun _ => by kernel_rfl) ?_
              refine wpS.take 1 false (some 29) (.int .i64 (iadd .i64 z6 1)) (by kernel_rfl) (yld fun _ => by kernel_rfl) ?_
              refine wpS.fin rfl (kr414 _ _ ?_)
              exact then_n (kl1 _ _ ⟨n, Nat.lt_succ_self n, (iadd .i64 z6 1), (wr z7 (iadd .i64 z1 z6) x12), h, (hs.conv rfl), exg (by kernel_rfl)⟩)
            · refine wpS.take 0 false (some 30) (.bool false) (by kernel_rfl) (yld_b (df hc) (fun _ => by kernel_rfl)) ?_
              refine wpS.fin rfl (kr399 _ _ ?_)
              refine then_n (ks398 _ _ ?_)
              refine xseq_k fun KS415 ks415 => ?_
              refine wp_cond_f (by kernel_rfl) ?_
              refine xexit ?_
              refine then_x ?_
              refine then_x ?_
              refine inBlock_hit ?_
              have q0 := of_some h
              subst q0
              exact exq_n (nn1 _ _ ⟨(hs.conv rfl), exg (by kernel_rfl)⟩)
        · clear hs h hy
          rintro a w ⟨hs, g, rfl⟩
          have h := hk1
          refine inBlock_n ?_
          refine then_n (ks367 _ _ ?_)
          refine wp_regS (l := [0, 1, 2]) (by kernel_rfl) (by kernel_rfl) fun KR416 kr416 => ?_
          refine wpS.take 0 false (some 8) (.int .i64 z1) (by kernel_rfl) (yld fun _ => by kernel_rfl) ?_
          refine wpS.take 1 false (some 9) (.int .i64 (iadd .i64 z1 4)) (by kernel_rfl) (yld fun _ => by kernel_rfl) ?_
          obtain ⟨x13, hx, h⟩ := of_bind h
          refine wpS.take 2 false (some 2) (.int .i64 x13) (by kernel_rfl) (yld_int hx (fun _ => by kernel_rfl)) ?_
          refine wpS.fin rfl (kr416 _ _ ?_)
          exact then_n (kl0 _ _ ⟨n, Nat.lt_succ_self n, x13, y8, h, ((hs.conv (L' := [.blk b4 (enc .u8 (subA 4 z2 z1)) 101, .blk p0 (enc .u8 y8) 42]) rfl).drop (.cons _ (.cons_cons _ .slnil))), exg (by kernel_rfl)⟩)
      · refine wpS.take 1 false (some 7) (.bool false) (by kernel_rfl) (yld_b (df hc) (fun _ => by kernel_rfl)) ?_
        refine wpS.fin rfl (kr318 _ _ ?_)
        refine then_n (ks317 _ _ ?_)
        refine wp_cond_f (by kernel_rfl) ?_
        refine xexit ?_
        refine then_x ?_
        refine then_x ?_
        refine inBlock_hit ?_
        have q0 := of_some h
        subst q0
        exact exq_n (nn0 _ _ ⟨(hs.conv rfl), exg (by kernel_rfl)⟩)
  · clear hs h hy
    rintro a w ⟨hs, g, rfl⟩
    have h := hk0
    have q0 := of_some h
    subst q0
    exact qn _ _ (post_nrm (by kernel_rfl) (run_results [] [] (by kernel_rfl) .nil) ⟨congrArg Ending.returned (by kernel_rfl), (hs.conv rfl)⟩)

theorem aes_Block.ok {K : Nat} {a0 : List Int} {a1 : List Int} {r0 : List Int} {r1 : Int} {a0_A : Option Addr} {a0_n : Nat} {a0_c : Nat} {a1_A : Option Addr} {a1_n : Nat} {a1_c : Nat} (h : aes_Block.f K a0 a1 = some (r0, r1)) (w0 : World) (hp0 : RowL (CI .u8) w0 a0_A a0_n a0_c a0) (hp1 : RowL (CI .u8) w0 a1_A a1_n a1_c a1) : Calls Try.prog 18 #[.slice a0_A a0_n a0_c, .slice a1_A a1_n a1_c] w0 fun e w' => ∃ h : (Option Addr × Nat × Nat), e = .returned (.tuple #[.slice h.1 h.2.1 h.2.2, .int .i64 r1]) ∧ St w0 [] [.ownL (CI .u8) h.1 h.2.1 h.2.2 r0 5] [] w' := by
  refine calls_k Try.func18 rfl fun Q qq => ?_
  have hs := St.startR (all_cons (RowP.ent hp0) (all_cons (RowP.ent hp1) all_nil))
  refine wp_conv (a' := ⟨#[.slice a0_A a0_n a0_c, .slice a1_A a1_n a1_c, undef, undef, undef, undef, undef, undef, undef, undef, undef, undef, undef, undef, undef, undef, undef, undef, undef, undef, undef], []⟩) (by kernel_rfl) ?_
  refine xseq_k fun KS1 ks1 => ?_
  refine wp_regS (l := [0, 1]) (by kernel_rfl) (by kernel_rfl) fun KR2 kr2 => ?_
  refine wpS.take 0 false (some 4) (.slice none 0 0) (by kernel_rfl) (yld fun _ => by kernel_rfl) ?_
  refine wpS.take 1 false (some 5) (.int .i64 0) (by kernel_rfl) (yld fun _ => by kernel_rfl) ?_
  refine wpS.fin rfl (kr2 _ _ ?_)
  refine then_n (ks1 _ _ ?_)
  refine xseq_k fun KS9 ks9 => ?_
  refine xseq_k fun KS10 ks10 => ?_
  refine wp_regS (l := [0, 1, 2, 3]) (by kernel_rfl) (by kernel_rfl) fun KR11 kr11 => ?_
  refine wpS.take 0 false (some 8) (.slice a0_A a0_n a0_c) (by kernel_rfl) (yld fun _ => by kernel_rfl) ?_
  refine wpS.take 1 false (some 9) (.slice a1_A a1_n a1_c) (by kernel_rfl) (yld fun _ => by kernel_rfl) ?_
  obtain ⟨r1, hg, h⟩ := of_bind h
  refine wpS.only 2 (op_call (d := (some 10)) (by kernel_rfl) hs (fun _ => by kernel_rfl) (aes_wrong.ok hg _ (hs.rowR 0 rfl) (hs.rowR 1 rfl)) ?_)
  intro w gw hs
  refine ⟨fun _ => trivial, ?_⟩
  refine wpS.take 3 false (some 6) (.int .i64 r1) (by kernel_rfl) (yld fun _ => by kernel_rfl) ?_
  refine wpS.fin rfl (kr11 _ _ ?_)
  refine then_n (ks10 _ _ ?_)
  refine xseq_k fun KS12 ks12 => ?_
  refine wp_regS (l := [0, 1]) (by kernel_rfl) (by kernel_rfl) fun KR13 kr13 => ?_
  refine wpS.take 0 false (some 11) (.int .i64 r1) (by kernel_rfl) (yld fun _ => by kernel_rfl) ?_
  rcases of_if h with ⟨hc, h⟩ | ⟨hc, h⟩
  · refine wpS.take 1 false (some 12) (.bool false) (by kernel_rfl) (yld_b (nf hc) (fun _ => by kernel_rfl)) ?_
    refine wpS.fin rfl (kr13 _ _ ?_)
    refine then_n (ks12 _ _ ?_)
    refine wp_cond_f (by kernel_rfl) ?_
    refine xskip ?_
    refine then_n (ks9 _ _ ?_)
    refine xseq_k fun KS14 ks14 => ?_
    exact nomatch (show none = some _ from h)
  · refine wpS.take 1 false (some 12) (.bool true) (by kernel_rfl) (yld_b (nt hc) (fun _ => by kernel_rfl)) ?_
    refine wpS.fin rfl (kr13 _ _ ?_)
    refine then_n (ks12 _ _ ?_)
    refine wp_cond_t (by kernel_rfl) ?_
    refine xseq_k fun KS17 ks17 => ?_
    refine wp_regS (l := [0, 1, 2]) (by kernel_rfl) (by kernel_rfl) fun KR18 kr18 => ?_
    refine wpS.take 0 false (some 13) (.int .i64 r1) (by kernel_rfl) (yld fun _ => by kernel_rfl) ?_
    refine wpS.take 1 false (some 4) (.slice none 0 0) (by kernel_rfl) (yld fun _ => by kernel_rfl) ?_
    refine wpS.take 2 false (some 5) (.int .i64 r1) (by kernel_rfl) (yld fun _ => by kernel_rfl) ?_
    refine wpS.fin rfl (kr18 _ _ ?_)
    refine then_n (ks17 _ _ ?_)
    refine xret ?_
    refine then_r ?_
    obtain ⟨q0, qr0⟩ := Prod.mk.inj (of_some h)
    have q1 := qr0
    subst q0
    subst q1
    have hs := hs.addNilL (CI .u8) 5
    exact qq _ _ (post_ret (by kernel_rfl) (run_results [.tmp 4, .tmp 5] [.slice none 0 0, .int .i64 r1] (by kernel_rfl) (.cons (res_tmp (by kernel_rfl)) (.cons (res_tmp (by kernel_rfl)) .nil))) ⟨⟨none, 0, 0⟩, congrArg Ending.returned (by kernel_rfl), ((hs.conv (L' := [.ownL (CI .u8) none 0 0 ([] : List Int) 5]) rfl).pickR pick_nil)⟩)

theorem law10_awake.ok {K : Nat} {r0 : Bool} (h : law10_awake.f K = some r0) (w0 : World) : Ret Try.prog 17 #[] w0 (.bool r0) := by
  refine calls_k Try.func17 rfl fun Q qq => ?_
  have hs := St.start w0
  refine wp_conv (a' := ⟨#[undef, undef, undef, undef, undef, undef, undef, undef, undef, undef, undef, undef, undef, undef, undef, undef, undef, undef, undef, undef, undef, undef, undef], []⟩) (by kernel_rfl) ?_
  refine xseq_k fun KS1 ks1 => ?_
  refine wp_regS (l := [0]) (by kernel_rfl) (by kernel_rfl) fun KR2 kr2 => ?_
  refine wpS.take 0 false (some 0) (.bool false) (by kernel_rfl) (yld fun _ => by kernel_rfl) ?_
  refine wpS.fin rfl (kr2 _ _ ?_)
  refine then_n (ks1 _ _ ?_)
  refine xseq_k fun KS3 ks3 => ?_
  obtain ⟨y1, hj, h⟩ := of_bind h
  refine wp_join (N := fun a w => St w0 [] [] [] w ∧ ∃ g : Nat → Value, a = ⟨#[.bool false, (g 1), .int .i64 y1, (g 3), (g 4), (g 5), (g 6), (g 7), (g 8), undef, undef, undef, undef, undef, undef, undef, undef, undef, undef, undef, undef, undef, undef], []⟩) (fun N nj => ?_) ?_
  · clear h
    have h := hj
    refine wp_regG [] (fun k => True) 8 (by kernel_rfl) (by kernel_rfl) (by kernel_rfl) fun KR5 kr5 => ?_
    have hs := hs.drawn1
    refine wpG.many [0, 1] (by kernel_rfl) (by decide) (forall_cons ?_ (forall_cons ?_ forall_nil))
    · refine (op_makeT (C := (CI .u8)) (t := 26) (e := 5) (bytes := 1) (B := 140737488355328) (kl := .i64) (kc := .i64) (x := 15) (d := (some 4)) (by kernel_rfl) hs (by kernel_rfl) (by kernel_rfl) (by kernel_rfl) (by kernel_rfl) (by kernel_rfl) (by decide) (by decide) (by decide) (by decide) ?_)
      intro s2_A s2_n s2_c w gw hs
      refine ⟨.of gw, ?_⟩
      refine wpG.only 1 (by kernel_rfl) (op_makeT (C := (CI .u8)) (t := 26) (e := 5) (bytes := 1) (B := 140737488355328) (kl := .i64) (kc := .i64) (x := 16) (d := (some 5)) (by kernel_rfl) hs (by kernel_rfl) (by kernel_rfl) (by kernel_rfl) (by kernel_rfl) (by kernel_rfl) (by decide) (by decide) (by decide) (by decide) ?_)
      intro s3_A s3_n s3_c w gw hs
      refine ⟨.of gw, ?_⟩
      obtain ⟨⟨r4, r5⟩, hg, h⟩ := of_bind h
      refine wpG.only 2 (by kernel_rfl) (op_callH (d := (some 6)) (by kernel_rfl) hs (fun _ => by kernel_rfl) (aes_Block.ok hg _ (hs.rowL 1 rfl) (hs.rowL 0 rfl)) ?_)
      rintro ⟨r4_A, r4_n, r4_c⟩ w gw hs
      have hs := hs.conv (L' := [.ownL (CI .u8) r4_A r4_n r4_c r4 5, .ownL (CI .u8) s3_A s3_n s3_c (List.replicate (16 : Int).toNat (Cod.zero (CI .u8))) 5, .ownL (CI .u8) s2_A s2_n s2_c (List.replicate (15 : Int).toNat (Cod.zero (CI .u8))) 5]) rfl
      refine ⟨.of gw, ?_⟩
      refine wpG.takeD 3 false (some 3) (.tuple #[.slice r4_A r4_n r4_c, .int .i64 r5]) (by kernel_rfl) (by kernel_rfl) (yld fun _ => by kernel_rfl) ?_
      refine wpG.takeD 4 false (some 7) (.slice r4_A r4_n r4_c) (by kernel_rfl) (by kernel_rfl) (yld fun _ => by kernel_rfl) ?_
      refine wpG.takeD 5 false (some 8) (.int .i64 r5) (by kernel_rfl) (by kernel_rfl) (yld fun _ => by kernel_rfl) ?_
      refine wpG.takeD 6 false (some 1) (.slice r4_A r4_n r4_c) (by kernel_rfl) (by kernel_rfl) (yld fun _ => by kernel_rfl) ?_
      refine wpG.takeD 7 false (some 2) (.int .i64 r5) (by kernel_rfl) (by kernel_rfl) (yld fun _ => by kernel_rfl) ?_
      refine wpG.fin (by kernel_rfl) rfl (kr5 _ _ ?_)
      have q0 := of_some h
      subst q0
      exact nj _ _ ⟨((hs.conv (L' := [.ownL (CI .u8) r4_A r4_n r4_c r4 5, .ownL (CI .u8) s3_A s3_n s3_c (List.replicate (16 : Int).toNat (Cod.zero (CI .u8))) 5, .ownL (CI .u8) s2_A s2_n s2_c (List.replicate (15 : Int).toNat (Cod.zero (CI .u8))) 5]) rfl).drop (.cons _ (.cons _ (.cons _ .slnil)))), exg (by kernel_rfl)⟩
    · refine (op_makeT (C := (CI .u8)) (t := 26) (e := 5) (bytes := 1) (B := 140737488355328) (kl := .i64) (kc := .i64) (x := 16) (d := (some 5)) (by kernel_rfl) hs (by kernel_rfl) (by kernel_rfl) (by kernel_rfl) (by kernel_rfl) (by kernel_rfl) (by decide) (by decide) (by decide) (by decide) ?_)
      intro s6_A s6_n s6_c w gw hs
      refine ⟨.of gw, ?_⟩
      refine wpG.only 0 (by kernel_rfl) (op_makeT (C := (CI .u8)) (t := 26) (e := 5) (bytes := 1) (B := 140737488355328) (kl := .i64) (kc := .i64) (x := 15) (d := (some 4)) (by kernel_rfl) hs (by kernel_rfl) (by kernel_rfl) (by kernel_rfl) (by kernel_rfl) (by kernel_rfl) (by decide) (by decide) (by decide) (by decide) ?_)
      intro s7_A s7_n s7_c w gw hs
      refine ⟨.of gw, ?_⟩
      obtain ⟨⟨r8, r9⟩, hg, h⟩ := of_bind h
      refine wpG.only 2 (by kernel_rfl) (op_callH (d := (some 6)) (by kernel_rfl) hs (fun _ => by kernel_rfl) (aes_Block.ok hg _ (hs.rowL 0 rfl) (hs.rowL 1 rfl)) ?_)
      rintro ⟨r8_A, r8_n, r8_c⟩ w gw hs
      have hs := hs.conv (L' := [.ownL (CI .u8) r8_A r8_n r8_c r8 5, .ownL (CI .u8) s7_A s7_n s7_c (List.replicate (15 : Int).toNat (Cod.zero (CI .u8))) 5, .ownL (CI .u8) s6_A s6_n s6_c (List.replicate (16 : Int).toNat (Cod.zero (CI .u8))) 5]) rfl
      refine ⟨.of gw, ?_⟩
      refine wpG.takeD 3 false (some 3) (.tuple #[.slice r8_A r8_n r8_c, .int .i64 r9]) (by kernel_rfl) (by kernel_rfl) (yld fun _ => by kernel_rfl) ?_
      refine wpG.takeD 4 false (some 7) (.slice r8_A r8_n r8_c) (by kernel_rfl) (by kernel_rfl) (yld fun _ => by kernel_rfl) ?_
      refine wpG.takeD 5 false (some 8) (.int .i64 r9) (by kernel_rfl) (by kernel_rfl) (yld fun _ => by kernel_rfl) ?_
      refine wpG.takeD 6 false (some 1) (.slice r8_A r8_n r8_c) (by kernel_rfl) (by kernel_rfl) (yld fun _ => by kernel_rfl) ?_
      refine wpG.takeD 7 false (some 2) (.int .i64 r9) (by kernel_rfl) (by kernel_rfl) (yld fun _ => by kernel_rfl) ?_
      refine wpG.fin (by kernel_rfl) rfl (kr5 _ _ ?_)
      have q0 := of_some h
      subst q0
      exact nj _ _ ⟨((hs.conv (L' := [.ownL (CI .u8) r8_A r8_n r8_c r8 5, .ownL (CI .u8) s7_A s7_n s7_c (List.replicate (15 : Int).toNat (Cod.zero (CI .u8))) 5, .ownL (CI .u8) s6_A s6_n s6_c (List.replicate (16 : Int).toNat (Cod.zero (CI .u8))) 5]) rfl).drop (.cons _ (.cons _ (.cons _ .slnil)))), exg (by kernel_rfl)⟩
  · clear hj hs
    rintro a w ⟨hs, g, rfl⟩
    refine then_n (ks3 _ _ ?_)
    refine xseq_k fun KS6 ks6 => ?_
    refine wp_regS (l := [0, 1, 2, 3, 4, 5, 6, 7, 8, 9, 10, 11, 12, 13, 14]) (by kernel_rfl) (by kernel_rfl) fun KR7 kr7 => ?_
    obtain ⟨r10, hg, h⟩ := of_bind h
    refine wpS.only 0 (op_call (d := (some 9)) (by kernel_rfl) hs (fun _ => by kernel_rfl) (aes_Box.ok hg _) ?_)
    intro w gw hs
    refine ⟨fun _ => trivial, ?_⟩
    rcases of_if h with ⟨hc, h⟩ | ⟨hc, h⟩
    · refine wpS.take 1 false (some 10) (.bool true) (by kernel_rfl) (yld_b (et hc) (fun _ => by kernel_rfl)) ?_
      refine wpS.take 2 false (some 11) (.bool true) (by kernel_rfl) (yld fun _ => by kernel_rfl) ?_
      obtain ⟨r11, hg, h⟩ := of_bind h
      refine wpS.only 3 (op_call (d := (some 12)) (by kernel_rfl) hs (fun _ => by kernel_rfl) (aes_Box.ok hg _) ?_)
      intro w gw hs
      refine ⟨fun _ => trivial, ?_⟩
      rcases of_if h with ⟨hc, h⟩ | ⟨hc, h⟩
      · refine wpS.take 4 false (some 13) (.bool true) (by kernel_rfl) (yld_b (et hc) (fun _ => by kernel_rfl)) ?_
        refine wpS.take 5 false (some 14) (.bool true) (by kernel_rfl) (yld fun _ => by kernel_rfl) ?_
        refine wpS.take 6 false (some 15) (.bool true) (by kernel_rfl) (yld fun _ => by kernel_rfl) ?_
        obtain ⟨r12, hg, h⟩ := of_bind h
        refine wpS.only 7 (op_call (d := (some 16)) (by kernel_rfl) hs (fun _ => by kernel_rfl) (aes_Mul.ok hg _) ?_)
        intro w gw hs
        refine ⟨fun _ => trivial, ?_⟩
        rcases of_if h with ⟨hc, h⟩ | ⟨hc, h⟩
        · refine wpS.take 8 false (some 17) (.bool true) (by kernel_rfl) (yld_b (et hc) (fun _ => by kernel_rfl)) ?_
          refine wpS.take 9 false (some 18) (.bool true) (by kernel_rfl) (yld fun _ => by kernel_rfl) ?_
          refine wpS.take 10 false (some 19) (.bool true) (by kernel_rfl) (yld fun _ => by kernel_rfl) ?_
          refine wpS.take 11 false (some 20) (.int .i64 y1) (by kernel_rfl) (yld fun _ => by kernel_rfl) ?_
          refine wpS.take 12 false (some 21) (.bool (y1 == 10)) (by kernel_rfl) (yld fun _ => by kernel_rfl) ?_
          refine wpS.take 13 false (some 22) (.bool (y1 == 10)) (by kernel_rfl) (yld fun _ => by kernel_rfl) ?_
          refine wpS.take 14 false (some 0) (.bool (y1 == 10)) (by kernel_rfl) (yld fun _ => by kernel_rfl) ?_
          refine wpS.fin rfl (kr7 _ _ ?_)
          refine then_n (ks6 _ _ ?_)
          refine xret ?_
          have q0 := of_some h
          subst q0
          exact qq _ _ (post_ret (by kernel_rfl) (run_results [.tmp 0] [.bool (y1 == 10)] (by kernel_rfl) (.cons (res_tmp (by kernel_rfl)) .nil)) ⟨congrArg Ending.returned (by kernel_rfl), hs.none⟩)
        · refine wpS.take 8 false (some 17) (.bool false) (by kernel_rfl) (yld_b (ef hc) (fun _ => by kernel_rfl)) ?_
          refine wpS.take 9 false (some 18) (.bool false) (by kernel_rfl) (yld fun _ => by kernel_rfl) ?_
          refine wpS.take 10 false (some 19) (.bool false) (by kernel_rfl) (yld fun _ => by kernel_rfl) ?_
          refine wpS.take 11 false (some 20) (undef) (by kernel_rfl) (yld fun _ => by kernel_rfl) ?_
          refine wpS.take 12 false (some 21) (undef) (by kernel_rfl) (yld fun _ => by kernel_rfl) ?_
          refine wpS.take 13 false (some 22) (.bool false) (by kernel_rfl) (yld fun _ => by kernel_rfl) ?_
          refine wpS.take 14 false (some 0) (.bool false) (by kernel_rfl) (yld fun _ => by kernel_rfl) ?_
          refine wpS.fin rfl (kr7 _ _ ?_)
          refine then_n (ks6 _ _ ?_)
          refine xret ?_
          have q0 := of_some h
          subst q0
          exact qq _ _ (post_ret (by kernel_rfl) (run_results [.tmp 0] [.bool false] (by kernel_rfl) (.cons (res_tmp (by kernel_rfl)) .nil)) ⟨congrArg Ending.returned (by kernel_rfl), hs.none⟩)
      · refine wpS.take 4 false (some 13) (.bool false) (by kernel_rfl) (yld_b (ef hc) (fun _ => by kernel_rfl)) ?_
        refine wpS.take 5 false (some 14) (.bool false) (by kernel_rfl) (yld fun _ => by kernel_rfl) ?_
        refine wpS.take 6 false (some 15) (.bool false) (by kernel_rfl) (yld fun _ => by kernel_rfl) ?_
        refine wpS.take 7 false (some 16) (undef) (by kernel_rfl) (yld fun _ => by kernel_rfl) ?_
        refine wpS.take 8 false (some 17) (undef) (by kernel_rfl) (yld fun _ => by kernel_rfl) ?_
        refine wpS.take 9 false (some 18) (.bool false) (by kernel_rfl) (yld fun _ => by kernel_rfl) ?_
        refine wpS.take 10 false (some 19) (.bool false) (by kernel_rfl) (yld fun _ => by kernel_rfl) ?_
        refine wpS.take 11 false (some 20) (undef) (by kernel_rfl) (yld fun _ => by kernel_rfl) ?_
        refine wpS.take 12 false (some 21) (undef) (by kernel_rfl) (yld fun _ => by kernel_rfl) ?_
        refine wpS.take 13 false (some 22) (.bool false) (by kernel_rfl) (yld fun _ => by kernel_rfl) ?_
        refine wpS.take 14 false (some 0) (.bool false) (by kernel_rfl) (yld fun _ => by kernel_rfl) ?_
        refine wpS.fin rfl (kr7 _ _ ?_)
        refine then_n (ks6 _ _ ?_)
        refine xret ?_
        have q0 := of_some h
        subst q0
        exact qq _ _ (post_ret (by kernel_rfl) (run_results [.tmp 0] [.bool false] (by kernel_rfl) (.cons (res_tmp (by kernel_rfl)) .nil)) ⟨congrArg Ending.returned (by kernel_rfl), hs.none⟩)
    · refine wpS.take 1 false (some 10) (.bool false) (by kernel_rfl) (yld_b (ef hc) (fun _ => by kernel_rfl)) ?_
      refine wpS.take 2 false (some 11) (.bool false) (by kernel_rfl) (yld fun _ => by kernel_rfl) ?_
      refine wpS.take 3 false (some 12) (undef) (by kernel_rfl) (yld fun _ => by kernel_rfl) ?_
      refine wpS.take 4 false (some 13) (undef) (by kernel_rfl) (yld fun _ => by kernel_rfl) ?_
      refine wpS.take 5 false (some 14) (.bool false) (by kernel_rfl) (yld fun _ => by kernel_rfl) ?_
      refine wpS.take 6 false (some 15) (.bool false) (by kernel_rfl) (yld fun _ => by kernel_rfl) ?_
      refine wpS.take 7 false (some 16) (undef) (by kernel_rfl) (yld fun _ => by kernel_rfl) ?_
      refine wpS.take 8 false (some 17) (undef) (by kernel_rfl) (yld fun _ => by kernel_rfl) ?_
      refine wpS.take 9 false (some 18) (.bool false) (by kernel_rfl) (yld fun _ => by kernel_rfl) ?_
      refine wpS.take 10 false (some 19) (.bool false) (by kernel_rfl) (yld fun _ => by kernel_rfl) ?_
      refine wpS.take 11 false (some 20) (undef) (by kernel_rfl) (yld fun _ => by kernel_rfl) ?_
      refine wpS.take 12 false (some 21) (undef) (by kernel_rfl) (yld fun _ => by kernel_rfl) ?_
      refine wpS.take 13 false (some 22) (.bool false) (by kernel_rfl) (yld fun _ => by kernel_rfl) ?_
      refine wpS.take 14 false (some 0) (.bool false) (by kernel_rfl) (yld fun _ => by kernel_rfl) ?_
      refine wpS.fin rfl (kr7 _ _ ?_)
      refine then_n (ks6 _ _ ?_)
      refine xret ?_
      have q0 := of_some h
      subst q0
      exact qq _ _ (post_ret (by kernel_rfl) (run_results [.tmp 0] [.bool false] (by kernel_rfl) (.cons (res_tmp (by kernel_rfl)) .nil)) ⟨congrArg Ending.returned (by kernel_rfl), hs.none⟩)
end Go.Proofs.Ytmpagpbnpgcecaa
