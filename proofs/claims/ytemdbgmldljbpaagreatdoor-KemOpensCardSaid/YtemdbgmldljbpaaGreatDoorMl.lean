/- own -/
import Derived.Test.YtemdbgmldljbpaaGreatDoorMg
set_option linter.unusedSimpArgs false
set_option linter.unusedVariables false
namespace Go.Mx
open Go.RowKit
abbrev HS:Type:=Option Addr × Nat × Nat
def CS:Cod HS where
 size:=1
 agg:=false
 val:=fun h=>.slice h.1 h.2.1 h.2.2
 cells:=fun h=>[.slice h.1 h.2.1 h.2.2]
 zero:=(none,0,0)
 pos:=Nat.one_pos
 len:=fun _=>rfl
 one:=fun x v hv=>by obtain rfl:=List.mem_singleton.1 hv; rfl
 vc:=fun _=>rfl
 sc:=fun _ _=>rfl
 ag:=fun h=>by cases h
section
variable {T : Type} {C : Cod T} {P : Program} {ops : Array Oper} {K Kn : Act → World → Prop} {a : Act} {w w' : World} {i : Nat} {w0 : World} {X : List Nat} {L R : List Ent}
def Inn (C:Cod T) (w:World):List HS→List (List T)→Prop
 | [],[]=>True
 | h::H,x::l=>RowL C w h.1 h.2.1 h.2.2 x∧Inn C w H l
 | _,_=>False
def InnFoot (C:Cod T):List HS→List (List T)→Nat→Prop
 | h::H,x::l,b=>(Ent.rowL C h.1 h.2.1 h.2.2 x).foot b∨InnFoot C H l b
 | _,_,_=>False
theorem Inn.length:∀ {H:List HS}{l:List (List T)},Inn C w H l→H.length=l.length
 | [],[],_=>rfl
 | [],_::_,h=>h.elim
 | _::_,[],h=>h.elim
 | _::_,_::_,h=>by simp [Inn.length h.2]
theorem Inn.loc:∀ {H:List HS}{l:List (List T)},(∀ b,InnFoot C H l b→w'.heap[b]? = w.heap[b]?)→Inn C w H l→Inn C w' H l
 | [],[],_,_=>trivial
 | [],_::_,_,h=>h.elim
 | _::_,[],_,h=>h.elim
 | h::H,x::l,hb,hi=>⟨(Ent.rowL C h.1 h.2.1 h.2.2 x).loc w w' (fun b hf=>hb b (.inl hf)) hi.1,Inn.loc (fun b hf=>hb b (.inr hf)) hi.2⟩
theorem Inn.foot_lt:∀ {H:List HS}{l:List (List T)},Inn C w H l→∀ b,InnFoot C H l b→b<w.heap.size
 | [],[],_,_,h=>h.elim
 | [],_::_,h,_,_=>h.elim
 | _::_,[],h,_,_=>h.elim
 | _::_,_::_,hi,b,hf=>hf.elim (fun h=>RowP.foot_lt hi.1 b h) (fun h=>Inn.foot_lt hi.2 b h)
theorem Inn.get:∀ {H:List HS}{l:List (List T)},Inn C w H l→∀ (j:Nat),j<l.length→RowL C w (H.getD j (none,0,0)).1 (H.getD j (none,0,0)).2.1 (H.getD j (none,0,0)).2.2 (l.getD j [])∧
   ∀ b,(Ent.rowL C (H.getD j (none,0,0)).1 (H.getD j (none,0,0)).2.1 (H.getD j (none,0,0)).2.2 (l.getD j [])).foot b→InnFoot C H l b
 | [],[],_,_,h=>by cases h
 | [],_::_,h,_,_=>h.elim
 | _::_,[],h,_,_=>h.elim
 | h::H,x::l,hi,0,_=>⟨hi.1,fun b hb=>.inl hb⟩
 | h::H,x::l,hi,j+1,hj=>⟨(Inn.get hi.2 j (by simpa using hj)).1,fun b hb=>.inr ((Inn.get hi.2 j (by simpa using hj)).2 b hb)⟩
def LLP (C:Cod T) (w:World) (A:Option Addr) (n c:Nat) (H:List HS) (l:List (List T)):Prop:=RowL CS w A n c H∧Inn C w H l
def Ent.rowLL (C:Cod T) (A:Option Addr) (n c:Nat) (H:List HS) (l:List (List T)):Ent where
 foot:=fun b=>(Ent.rowL CS A n c H).foot b∨InnFoot C H l b
 p:=fun w=>LLP C w A n c H l
 loc:=fun w w' h hp=>⟨(Ent.rowL CS A n c H).loc w w' (fun b hb=>h b (.inl hb)) hp.1,Inn.loc (fun b hb=>h b (.inr hb)) hp.2⟩
theorem inn_nil:Inn C w [] []:=trivial
theorem inn_cons {h:HS}{H:List HS}{x:List T}{l:List (List T)}(h1:RowL C w h.1 h.2.1 h.2.2 x) (h2:Inn C w H l):Inn C w (h::H) (x::l):=⟨h1,h2⟩
theorem LLP.mk {A:Option Addr}{n c:Nat}{H:List HS}{l:List (List T)}(h1:RowL CS w A n c H) (h2:Inn C w H l):LLP C w A n c H l:=⟨h1,h2⟩
theorem LLP.ent {A:Option Addr}{n c:Nat}{H:List HS}{l:List (List T)}(h:LLP C w A n c H l):(Ent.rowLL C A n c H l).p w∧∀ b,(Ent.rowLL C A n c H l).foot b→b<w.heap.size:=
 ⟨h,fun b hb=>hb.elim (fun hf=>RowP.foot_lt h.1 b hf) (fun hf=>Inn.foot_lt h.2 b hf)⟩
theorem St.rowLL (h:St w0 X L R w) (j:Nat) {A:Option Addr}{n c:Nat}{H:List HS}{l:List (List T)}(hj:R[j]? = some (.rowLL C A n c H l)):LLP C w A n c H l:=(h.read _ (List.mem_of_getElem? hj)).1
def rdLL (l:List (List T)) (x:Int):List T:=l.getD x.toNat []
theorem yld_lenLL {A:Option Addr}{n c:Nat}{H:List HS}{l:List (List T)}(hr:LLP C w A n c H l) (h:∀ w',(execAt ops i a).run P w' = .ok (.value (.int .i64 (n:Int))) w'):Yld P ops Any i a w (.int .i64 (l.length:Int)):=by
 rw [← hr.2.length]
 exact yld_lenL hr.1 h
theorem yld_idxLL {t e n c:Nat}{A:Option Addr}{H:List HS}{l:List (List T)}{k:IntKind}{x:Int}(hr:LLP C w A n c H l) (he:execAt ops i a=nextV (Instr.indexAt t (.slice A n c) (.int k x))) (hu:P.underlying t=some (.slice e)) (hs:szOf P e=some 1)
  (h0:0≤x) (h1:x<l.length):Yld P ops Any i a w (.pointer (adr A (x.toNat*1))):=yld_idxL (C:=CS) hr.1 he hu hs h0 (by rw [hr.2.length]; exact h1)
theorem yld_loadLL {e n c:Nat}{A:Option Addr}{H:List HS}{l:List (List T)}{x:Int}(hr:LLP C w A n c H l) (he:execAt ops i a=nextV (Instr.loadAt e (.pointer (adr A (x.toNat*1))))) (hg:aggB P e=some false)
  (h0:0≤x) (h1:x<l.length):Yld P ops Grow i a w (.slice (rdL CS H x).1 (rdL CS H x).2.1 (rdL CS H x).2.2):=yld_loadL (C:=CS) hr.1 he rfl hg h0 (by rw [hr.2.length]; exact h1)
theorem St.addInn (h:St w0 X L R w) (j:Nat) {A A':Option Addr}{n c n' c':Nat}{H:List HS}{l:List (List T)}{x:Int}(hj:R[j]? = some (.rowLL C A n c H l)) (h0:0≤x) (h1:x<l.length) (hA:A'=(rdL CS H x).1) (hn:n'=(rdL CS H x).2.1) (hc:c'=(rdL CS H x).2.2):St w0 X L (.rowL C A' n' c' (rdLL l x)::R) w:=by
 subst hA hn hc
 have hp:=h.rowLL j hj
 obtain ⟨g1,g2⟩:=hp.2.get x.toNat (by omega)
 exact h.addRow g1 fun e he b hb=>((h.read _ (List.mem_of_getElem? hj)).2 b (.inr (g2 b hb))).2 e he
end
end Go.Mx
