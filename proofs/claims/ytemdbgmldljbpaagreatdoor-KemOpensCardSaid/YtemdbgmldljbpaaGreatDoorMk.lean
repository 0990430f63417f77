/- own -/
import Derived.Test.YtemdbgmldljbpaaGreatDoorMp
import Derived.Test.YtemdbgmldljbpaaGreatDoorMg
import Derived.Lib.LaidTab
import Derived.LaidMore
import Derived.MakeChecks
import Derived.Stop.LaidErr
import Derived.SizedLaws
import Derived.ChangeSlices
set_option linter.unusedSimpArgs false
set_option linter.unusedVariables false
namespace Go.Mx
open Go.RowKit Go.ChangeShapes Go.WideShapes Go.ChangeAt
def Fits:List (Option IntKind)→List Value→Prop
 | [],l=>l=[]
 | some k::p,l=>∃ x l',l=Value.int k x::l'∧InR k x∧Fits p l'
 | none::p,l=>∃ b l',l=Value.bool b::l'∧Fits p l'
def CellK:Option IntKind→Value→Prop
 | some k,v=>∃ x,v=Value.int k x∧InR k x
 | none,v=>∃ b,v=Value.bool b
theorem fits_of:∀ (p:List (Option IntKind)) (l:List Value),l.length=p.length→(∀ (i:Nat) (v:Value) (q:Option IntKind),l[i]? = some v→p[i]? = some q→CellK q v)→Fits p l
 | [],l,hl,_=>List.eq_nil_of_length_eq_zero hl
 | q::p,[],hl,_=>by simp at hl
 | q::p,v::l,hl,h=>by
  have h0:=h 0 v q rfl rfl
  have hr:=fits_of p l (by simpa using hl) fun i v q hv hq=>h (i+1) v q (by simpa using hv) (by simpa using hq)
  cases q with
  | some k=>
   obtain ⟨x,rfl,hx⟩:=h0
   exact ⟨x,l,rfl,hx,hr⟩
  | none=>
   obtain ⟨b,rfl⟩:=h0
   exact ⟨b,l,rfl,hr⟩
def typeK (P:Program) (q:Option IntKind) (u:TypeId):Prop:=P.underlying u=some (match q with | some k=>.int k | none=>.bool)
theorem cellK_of {P:Program}{w:World}{r:Reach}{base:Nat}{u:TypeId}{q:Option IntKind}{v:Value}(hu:typeK P q u) (hok:Cell.okWide P w r base u v):CellK q v:=by
 unfold typeK at hu
 unfold Cell.okWide at hok
 cases q with
 | some k=>
  simp only [] at hu
  rw [hu] at hok
  unfold Cell.ok at hok
  rw [hu] at hok
  cases v<;>simp only [] at hok
  rename_i k' x
  obtain ⟨rfl,hr⟩:=hok
  exact ⟨x,rfl,hr⟩
 | none=>
  simp only [] at hu
  rw [hu] at hok
  unfold Cell.ok at hok
  rw [hu] at hok
  cases v<;>simp only [] at hok
  rename_i b
  exact ⟨b,rfl⟩
theorem typeK_nil {P:Program} : ∀ (i:Nat) (u:TypeId) (q:Option IntKind),([]:List TypeId)[i]? = some u→([]:List (Option IntKind))[i]? = some q→typeK P q u:=fun _ _ _ h=>by simp at h
theorem typeK_cons {P:Program}{u0:TypeId}{q0:Option IntKind}{us:List TypeId}{qs:List (Option IntKind)}(h:typeK P q0 u0) (hr:∀ (i:Nat) (u:TypeId) (q:Option IntKind),us[i]? = some u→qs[i]? = some q→typeK P q u) :
  ∀ (i:Nat) (u:TypeId) (q:Option IntKind),(u0::us)[i]? = some u→(q0::qs)[i]? = some q→typeK P q u:=fun i u q hu hq=>by
 cases i with
 | zero=>
  obtain rfl:=Option.some.inj hu
  obtain rfl:=Option.some.inj hq
  exact h
 | succ i=>exact hr i u q (by simpa using hu) (by simpa using hq)
theorem tab_row {P:Program}{W:World}{name:String}{g n:Nat}{k:IntKind}{tab:Arr n}(h:0<n) (hT:Go.Lib.TabIs P W name k tab.toList) (hg:P.globalNamed name=some g):RowL (CA k n h) W (some ⟨g,0,none⟩) 1 1 [tab]:=by
 unfold Go.Lib.TabIs World.var? at hT
 rw [hg] at hT
 simp only [Option.bind_some] at hT
 split at hT
 ·rename_i cs T fz hh
  obtain rfl:=Option.some.inj hT
  refine ⟨?_,⟨Nat.le_refl _,fun h=>by cases h⟩,.inr ⟨g,0,_,T,fz,rfl,hh,fun j u hj=>?_⟩⟩
  ·rw [encL_len]; rfl
  ·rw [Nat.zero_add,List.getElem?_toArray]
   have:encL (CA k n h) [tab]=enc k tab++[]:=rfl
   rw [this,List.append_nil] at hj
   exact hj
 ·cases hT
end Go.Mx
