/- own -/
import Derived.Test.YtemdbgmldljbpaaGreatDoorMe
namespace Go.Mx
open Go.RowKit
def gs (g:Nat→Value):Nat→Nat→List Value→List Value
 | 0,_,r=>r
 | n+1,s,r=>g s::gs g n (s+1) r
def frL (g:Nat→Value) (e:Nat):Nat→List (Nat × List Value)→List Value
 | s,[]=>gs g (e-s) s []
 | s,x::l=>gs g (x.1-s) s (x.2++frL g e (x.1+x.2.length) l)
def fr (g:Nat→Value) (e:Nat) (l:List (Nat × List Value)):Act:=⟨(frL g e 0 l).toArray,[]⟩
def fu (n:Nat) (l:List Value):Act:=⟨(l++gs (fun _=>undef) n 0 []).toArray,[]⟩
abbrev P0 (b:Nat):Value:=.pointer (some ⟨b,0,none⟩)
abbrev I8 (x:Int):Value:=.int .i64 x
abbrev I4 (x:Int):Value:=.int .i32 x
abbrev U1 (x:Int):Value:=.int .u8 x
abbrev U4 (x:Int):Value:=.int .u32 x
abbrev U8 (x:Int):Value:=.int .u64 x
abbrev ag {n:Nat}(k:IntKind) (x:Arr n):Value:=.agg (enc k x).toArray
abbrev P1 (b:Nat) (x:Int):Value:=.pointer (some ⟨b,0+x.toNat*1,none⟩)
abbrev PA {T:Type}(C:Cod T) (A:Option Addr) (x:Int):Value:=.pointer (adr A (x.toNat*C.size))
abbrev vl (l:List Value):List Value:=l
abbrev CZ:=CA .i32 256 (by decide)
abbrev CW:=CA .u64 24 (by decide)
abbrev CV:=CA .i64 24 (by decide)
abbrev CB:=CI .u8
theorem cr {x y:Value}(h:x=y:=by kernel_rfl):Ending.returned x=Ending.returned y:=congrArg Ending.returned h
theorem eg {a:Act}{T:(Nat→Value)→Act}(h:a=T (fun i=>a.tmps.getD i undef):=by kernel_rfl):∃ g:Nat→Value,a=T g:=exg h
theorem ls (n:Nat):n<n+1:=Nat.lt_succ_self n
def rng:Nat→Nat→List Nat
 | _,0=>[]
 | s,n+1=>s::rng (s+1) n
theorem T {Q:Exit→Act→World→Prop}{N C:Act→World→Prop}{a:Act}{w:World}(s:∀ a w,C a w→N a w) (h:C a w):Exit.then N Q .normal a w:=s _ _ h
theorem F {Q:Exit→Act→World→Prop}{N C K:Act→World→Prop}{a:Act}{w:World}(j:∀ a w,Exit.then N Q .normal a w→K a w) (s:∀ a w,C a w→N a w) (h:C a w):K a w:=j _ _ (s _ _ h)
theorem oc2 {α:Type}{p q:Prop}[Decidable p] [Decidable q] {A:Option α}{r:α}(h:(if p then (if q then A else none) else none)=some r):p∧q∧A=some r:=⟨(of_chk h).1,of_chk (of_chk h).2⟩
section
variable {A1 A2 A3 A4 A5 A6 A7 A8 A9 A10 : Type} {a1 b1 : A1} {a2 b2 : A2} {a3 b3 : A3} {a4 b4 : A4} {a5 b5 : A5} {a6 b6 : A6} {a7 b7 : A7} {a8 b8 : A8} {a9 b9 : A9} {a10 b10 : A10}
theorem pj (h:(a1,a2)=(b1,b2)):a1=b1∧a2=b2:=Prod.mk.inj h
theorem os2 (h:some (a1,a2)=some (b1,b2)):a1=b1∧a2=b2:=pj (of_some h)
theorem os3 (h:some (a1,a2,a3)=some (b1,b2,b3)):a1=b1∧a2=b2∧a3=b3:=⟨(pj (of_some h)).1,pj (pj (of_some h)).2⟩
theorem os4 (h:some (a1,a2,a3,a4)=some (b1,b2,b3,b4)):a1=b1∧a2=b2∧a3=b3∧a4=b4:=⟨(pj (of_some h)).1,os3 (congrArg some (pj (of_some h)).2)⟩
theorem os5 (h:some (a1,a2,a3,a4,a5)=some (b1,b2,b3,b4,b5)):a1=b1∧a2=b2∧a3=b3∧a4=b4∧a5=b5:=⟨(pj (of_some h)).1,os4 (congrArg some (pj (of_some h)).2)⟩
theorem os6 (h:some (a1,a2,a3,a4,a5,a6)=some (b1,b2,b3,b4,b5,b6)):a1=b1∧a2=b2∧a3=b3∧a4=b4∧a5=b5∧a6=b6:=⟨(pj (of_some h)).1,os5 (congrArg some (pj (of_some h)).2)⟩
end
def keepL {α:Type} : List Nat→List α→List α
 | 0::m,_::l=>keepL m l
 | _::m,x::l=>x::keepL m l
 | _,l=>l
theorem keepL_sub {α:Type} : ∀ (m:List Nat) (l:List α),(keepL m l).Sublist l
 | [],l=>by unfold keepL; exact List.Sublist.refl l
 | 0::m,[]=>.slnil
 | (_+1)::m,[]=>.slnil
 | 0::m,x::l=>.cons x (keepL_sub m l)
 | (_+1)::m,x::l=>.cons_cons x (keepL_sub m l)
theorem dr {w0 w:World}{X:List Nat}{L L' R:List Ent}(m:List Nat) (h:St w0 X L R w) (e:keepL m L=L':=by rfl):St w0 X L' R w:=h.drop (e ▸ keepL_sub m L)
theorem pk {w0 w:World}{X:List Nat}{L R:List Ent}(m:List Nat) {R':List Ent}(h:St w0 X L R w) (e:m.map (fun j=>R[j]?)=R'.map some:=by rfl):St w0 X L R' w:=h.pickR fun x hx=>by
 have:some x∈m.map (fun j=>R[j]?):=by rw [e]; exact List.mem_map_of_mem hx
 obtain ⟨j,_,hj⟩:=List.mem_map.1 this
 exact List.mem_of_getElem? hj
theorem pz {w0 w:World}{X:List Nat}{L R:List Ent}(h:St w0 X L R w):St w0 X L [] w:=h.pickR pick_nil
section
variable {P : Program} {ops : Array Oper} {K : Act → World → Prop} {a : Act} {w : World} {l : List Nat} {ng : List Nat} {S : Nat → Prop} {fuel : Nat} {listed : Array Bool}
theorem fin (H:K a w):wpS P ops K [] a w:=wpS.fin rfl H
theorem fj {Q:Exit→Act→World→Prop}{N C:Act→World→Prop}(j:∀ a w,Exit.then N Q .normal a w→K a w) (s:∀ a w,C a w→N a w) (h:C a w):wpS P ops K [] a w:=wpS.fin rfl (j _ _ (s _ _ h))
theorem gf (H:K a w) (hc:Region.ready .any ops listed=[]:=by kernel_rfl):wpG P ops K ng S fuel listed a w:=wpG.fin hc rfl H
theorem tb (i:Nat) (d:Tmp) {b c:Bool}(hb:b=c) (H:wpS P ops K l (a.put (some d) (.bool c)) w) (hd:dstAt ops i=some d:=by kernel_rfl) (h:∀ w',(execAt ops i a).run P w' = .ok (.value (.bool b)) w':=by intro _; kernel_rfl):wpS P ops K (i::l) a w:=wpS.tk i false (some d) (.bool c) (yld_b hb h) H hd
theorem gb (i:Nat) (d:Tmp) {b c:Bool}(hb:b=c) (H:wpG P ops K ng S fuel (listed.setIfInBounds i true) (a.put (some d) (.bool c)) w) (hd:dstAt ops i=some d:=by kernel_rfl) (hc:takeB ops ng listed i false (waitL ops i)=true:=by kernel_rfl) (h:∀ w',(execAt ops i a).run P w' = .ok (.value (.bool b)) w':=by intro _; kernel_rfl):wpG P ops K ng S (fuel+1) listed a w:=wpG.tD i false (some d) (.bool c) (yld_b hb h) H hd hc
def numb:Nat→List (Tmp × Value)→List (Nat × Tmp × Value)
 | _,[]=>[]
 | i,x::l=>(i,x)::numb (i+1) l
theorem nq (i:Nat) (t:List (Tmp × Value)) {r:List Nat}(H:wpS P ops K r (puts a (numb i t)) w) (h:pureRun P ops a (numb i t)=pureTold (numb i t):=by kernel_rfl):wpS P ops K ((numb i t).map (·.1)++r) a w:=wpS.ps _ h H
theorem xn {r:Option Nat}{id:Nat}{Q:Exit→Act→World→Prop}(n:Nat) (h:∀ K:Act→World→Prop,(∀ a w,Q .normal a w→K a w)→wpS P ops K (rng 0 n) a w) (hl:List.range ops.size=rng 0 n:=by kernel_rfl) (hnd:noDefer ops=true:=by kernel_rfl):(Code.region id ops false).wpIn (FR r) 0 P Q a w:=wp_regS hl hnd h
theorem rg {r:Option Nat}{id:Nat}{Q:Exit→Act→World→Prop}(ng:List Nat) (S:Nat→Prop) (fuel:Nat) (h:∀ K:Act→World→Prop,(∀ a w,Q .normal a w→K a w)→wpG P ops K ng S fuel (Array.replicate fuel false) a (World.drawn1 w)) (hm:P.follows .mixedOrders=true:=by kernel_rfl) (hl:ops.size=fuel:=by kernel_rfl) (hnd:noDefer ops=true:=by kernel_rfl):(Code.region id ops true).wpIn (FR r) 0 P Q a w:=wp_regG ng S fuel hm hl hnd h
theorem so (i:Nat) (H:wpOp P ops (NoP K) i (wpS P ops K l) a w):wpS P ops K (i::l) a w:=wpS.only i (wpOp_mono (fun _ _ h=>⟨fun _=>trivial,h⟩) H)
theorem go (i:Nat) (H:wpOp P ops (NoP K) i (fun a' w'=>Cl ng S i w w'∧wpG P ops K ng S fuel (listed.setIfInBounds i true) a' w') a w) (hc:Region.ready .any ops listed=[i]:=by kernel_rfl):wpG P ops K ng S (fuel+1) listed a w:=wpG.only i hc H
theorem tkt (i:Nat) (d:Tmp) (v:Value) (hy:Yld P ops Grow i a w v) (H:wpS P ops K l (a.put (some d) v) w) (hd:dstAt ops i=some d:=by kernel_rfl):wpS P ops K (i::l) a w:=wpS.tk i true (some d) v hy H hd
theorem tkf (i:Nat) (d:Tmp) (v:Value) (hy:Yld P ops Any i a w v) (H:wpS P ops K l (a.put (some d) v) w) (hd:dstAt ops i=some d:=by kernel_rfl):wpS P ops K (i::l) a w:=wpS.tk i false (some d) v hy H hd
theorem tgt (i:Nat) (d:Tmp) (v:Value) (hy:Yld P ops Grow i a w v) (H:wpG P ops K ng S fuel (listed.setIfInBounds i true) (a.put (some d) v) w) (hd:dstAt ops i=some d:=by kernel_rfl) (hc:takeB ops ng listed i true (waitL ops i)=true:=by kernel_rfl):wpG P ops K ng S (fuel+1) listed a w:=wpG.tD i true (some d) v hy H hd hc
theorem tgf (i:Nat) (d:Tmp) (v:Value) (hy:Yld P ops Any i a w v) (H:wpG P ops K ng S fuel (listed.setIfInBounds i true) (a.put (some d) v) w) (hd:dstAt ops i=some d:=by kernel_rfl) (hc:takeB ops ng listed i false (waitL ops i)=true:=by kernel_rfl):wpG P ops K ng S (fuel+1) listed a w:=wpG.tD i false (some d) v hy H hd hc
end
theorem rR {w0 w:World}{X:List Nat}{L R:List Ent}{A:Option Addr}{n c size:Nat}{xs:List Value}(j:Nat) (hs:St w0 X L R w) (hj:R[j]? = some (.row A n c xs size):=by rfl):RowP w A n c xs size:=hs.rowR j hj
theorem rL {w0 w:World}{X:List Nat}{L R:List Ent}{A:Option Addr}{n c e size:Nat}{xs:List Value}(j:Nat) (hs:St w0 X L R w) (hj:L[j]? = some (.own A n c xs e size):=by rfl):RowP w A n c xs size:=hs.rowL j hj
section
variable {P : Program} {ops : Array Oper} {K Kn : Act → World → Prop} {a : Act} {w : World} {i : Nat} {w0 : World} {X : List Nat} {L R : List Ent}
theorem oWe (t:TypeId) {n:Nat}(kk:IntKind) (x:Arr n) {b:Nat}{c:List Value}{T:TypeId}(hs:St w0 X L R w) (j:Nat) (k:∀ w',Keep (fun k=>k=b) w w'→St w0 X (L.set j (.blk b (enc kk x) T)) R w'→K (a.put none undef) w') (hj:L[j]? = some (.blk b c T):=by rfl) (hl:c.length=n:=by simp [enc_len]) (hd:dstAt ops i=none:=by kernel_rfl) (he:execAt ops i a=nextU (Instr.storeAt t (.pointer (some ⟨b,0,none⟩)) (.agg (enc kk x).toArray)):=by kernel_rfl) (hn:szOf P t=some n:=by kernel_rfl):wpOp P ops (NoP Kn) i K a w:=op_storeW (d:=none) hd hs j hj he rfl hn (enc_len _ _) hl (enc_one _ _) k
theorem oWa (t:TypeId) (vs:List Value) {b:Nat}{c:List Value}{T:TypeId}(hs:St w0 X L R w) (j:Nat) (k:∀ w',Keep (fun k=>k=b) w w'→St w0 X (L.set j (.blk b vs T)) R w'→K (a.put none undef) w') (hj:L[j]? = some (.blk b c T):=by rfl) (hl:c.length=vs.length:=by simp [enc_len]) (ho:∀ u∈vs,u.oneCell'=true:=by simp [Value.oneCell']) (hd:dstAt ops i=none:=by kernel_rfl) (he:execAt ops i a=nextU (Instr.storeAt t (.pointer (some ⟨b,0,none⟩)) (.agg vs.toArray)):=by kernel_rfl) (hn:szOf P t=some vs.length:=by kernel_rfl):wpOp P ops (NoP Kn) i K a w:=op_storeW (d:=none) hd hs j hj he rfl hn rfl hl ho k
theorem oNe (d:Tmp) (t:TypeId) {n:Nat}(kk:IntKind) (x:Arr n) (hs:St w0 X L R w) (k:∀ b w',Grow w w'→St w0 X (.blk b (enc kk x) t::L) R w'→K (a.put (some d) (.pointer (some ⟨b,0,none⟩))) w') (hd:dstAt ops i=some d:=by kernel_rfl) (he:execAt ops i a=nextV (Instr.alloc t true (.tuple #[])):=by kernel_rfl) (hz:zeroOf P t=some (.agg (enc kk x).toArray):=by kernel_rfl):wpOp P ops (NoP Kn) i K a w:=op_alloc (d:=some d) hd hs _ _ he hz rfl k
theorem oNa (d:Tmp) (t:TypeId) (hs:St w0 X L R w) (vs:List Value) (k:∀ b w',Grow w w'→St w0 X (.blk b vs t::L) R w'→K (a.put (some d) (.pointer (some ⟨b,0,none⟩))) w') (hd:dstAt ops i=some d:=by kernel_rfl) (he:execAt ops i a=nextV (Instr.alloc t true (.tuple #[])):=by kernel_rfl) (hz:zeroOf P t=some (.agg vs.toArray):=by kernel_rfl):wpOp P ops (NoP Kn) i K a w:=op_alloc (d:=some d) hd hs _ _ he hz rfl k
theorem oBe (d:Tmp) (t:TypeId) {n:Nat}(kk:IntKind) (x:Arr n) (hs:St w0 X L R w) (k:∀ b w',Grow w w'→St w0 X (.blk b (enc kk x) t::L) R w'→K (a.put (some d) (.pointer (some ⟨b,0,none⟩))) w') (hd:dstAt ops i=some d:=by kernel_rfl) (he:execAt ops i a=nextV (Instr.box t (.agg (enc kk x).toArray)):=by kernel_rfl):wpOp P ops (NoP Kn) i K a w:=op_box (d:=some d) hd hs _ he rfl k
theorem oBa (d:Tmp) (t:TypeId) (hs:St w0 X L R w) (vs:List Value) (k:∀ b w',Grow w w'→St w0 X (.blk b vs t::L) R w'→K (a.put (some d) (.pointer (some ⟨b,0,none⟩))) w') (hd:dstAt ops i=some d:=by kernel_rfl) (he:execAt ops i a=nextV (Instr.box t (.agg vs.toArray)):=by kernel_rfl):wpOp P ops (NoP Kn) i K a w:=op_box (d:=some d) hd hs _ he rfl k
theorem yWs {ρ:World→World→Prop}(n:Nat) (e:TypeId) (hs:St w0 X L R w) (j:Nat) {b:Nat}{c:List Value}{t:TypeId}(hB:Bears ρ w b) (hj:L[j]? = some (.blk b c t):=by rfl) (hl:c.length=n:=by simp [enc_len]) (he:execAt ops i a=nextV (Instr.loadAt e (.pointer (some ⟨b,0,none⟩))):=by kernel_rfl) (hg:aggB P e=some true:=by kernel_rfl) (hn:szOf P e=some n:=by kernel_rfl):Yld P ops ρ i a w (.agg c.toArray):=yld_loadW hs j hj he hg hn hl hB
theorem yWe {ρ:World→World→Prop}(t:TypeId) (hs:St w0 X L R w) (j:Nat) {b n:Nat}{kk:IntKind}{x:Arr n}{T:TypeId}(hB:Bears ρ w b) (hj:L[j]? = some (.blk b (enc kk x) T):=by rfl) (he:execAt ops i a=nextV (Instr.loadAt t (.pointer (some ⟨b,0,none⟩))):=by kernel_rfl) (hg:aggB P t=some true:=by kernel_rfl) (hn:szOf P t=some n:=by kernel_rfl):Yld P ops ρ i a w (.agg (enc kk x).toArray):=yld_loadW hs j hj he hg hn (enc_len _ _) hB
def tmpsR (l:List Nat):List ResultVar:=l.map .tmp
theorem all_tmps {tmps:Array Value} : ∀ (l:List Nat) (vs:List Value),l.map (fun t=>tmps.getD t undef)=vs→All2 (ResOK P tmps w) (tmpsR l) vs
 | [],_,h=>by subst h; exact .nil
 | t::l,_,h=>by subst h; exact .cons (res_tmp rfl) (all_tmps l _ rfl)
theorem pt {fn:Func}{R':Ending→World→Prop}(l:List Nat) (vs:List Value) (hR:R' (.returned (if h:vs.toArray.size=1 then vs.toArray[0] else .tuple vs.toArray)) w) (hv:l.map (fun t=>a.tmps.getD t undef)=vs:=by kernel_rfl) (hr:fn.results=(tmpsR l).toArray:=by kernel_rfl) (hd:a.defers=[]:=by kernel_rfl):bodyPost P fn R' .ret a w:=post_ret hd (run_results _ vs hr (all_tmps l vs hv)) hR
end
section
variable {P : Program} {ops : Array Oper} {K Kn : Act → World → Prop} {a a' : Act} {w w' : World} {i : Nat} {w0 : World} {X : List Nat} {L R : List Ent} {Q : Exit → Act → World → Prop} {r : Option Nat}
theorem wc {c:Code}(h:c.wpIn (FR r) 0 P Q a' w) (ha:a=a':=by kernel_rfl):c.wpIn (FR r) 0 P Q a w:=wp_conv ha h
theorem ct {c:Operand}{x:Code}{y:Code}(h:x.wpIn (FR r) 0 P Q a w) (hc:a.eval c = .bool true:=by kernel_rfl):(Code.cond c x y).wpIn (FR r) 0 P Q a w:=wp_cond_t hc h
theorem oW (n:Nat) (t:TypeId) (v:Value) {b:Nat}{c:List Value}(vs:List Value) {T:TypeId}(hs:St w0 X L R w) (j:Nat) (hj:L[j]? = some (.blk b c T)) (hv:vs.length=n) (hl:c.length=n) (hone:∀ u∈vs,u.oneCell'=true) (k:∀ w',Keep (fun k=>k=b) w w'→St w0 X (L.set j (.blk b vs T)) R w'→K (a.put none undef) w') (hd:dstAt ops i=none:=by kernel_rfl) (he:execAt ops i a=nextU (Instr.storeAt t (.pointer (some ⟨b,0,none⟩)) v):=by kernel_rfl) (hc:v.cells=vs.toArray:=by kernel_rfl) (hn:szOf P t=some n:=by kernel_rfl):wpOp P ops (NoP Kn) i K a w:=op_storeW (d:=none) hd hs j hj he hc hn hv hl hone k
theorem pr {fn:Func}{R':Ending→World→Prop}{v:Value}(h:(results fn a.tmps).run P w = .ok v w) (hR:R' (.returned v) w) (hd:a.defers=[]:=by kernel_rfl):bodyPost P fn R' .ret a w:=post_ret hd h hR
theorem rr {fn:Func}{tmps:Array Value}(rs:List ResultVar) (vs:List Value) (h:All2 (ResOK P tmps w) rs vs) (hr:fn.results=rs.toArray:=by kernel_rfl):(results fn tmps).run P w = .ok (if h:vs.toArray.size=1 then vs.toArray[0] else .tuple vs.toArray) w:=run_results rs vs hr h
theorem rcN {tmps:Array Value}{s:Nat}{b:Nat}(n:Nat) {t:TypeId}{T:TypeId}{c:List Value}(hs:St w0 X L R w) (j:Nat) (hj:L[j]? = some (.blk b c T)) (hl:c.length=n) (h:tmps.getD s undef = .pointer (some ⟨b,0,none⟩):=by kernel_rfl) (hg:aggB P t=some true:=by kernel_rfl) (hn:szOf P t=some n:=by kernel_rfl):ResOK P tmps w (.cell s t) (.agg c.toArray):=res_cellN hs j hj h hg hn hl
theorem rt {tmps:Array Value}{t:Tmp}{v:Value}(h:tmps.getD t undef=v:=by kernel_rfl):ResOK P tmps w (.tmp t) v:=res_tmp h
theorem cf {c:Operand}{x:Code}{y:Code}(h:y.wpIn (FR r) 0 P Q a w) (hc:a.eval c = .bool false:=by kernel_rfl):(Code.cond c x y).wpIn (FR r) 0 P Q a w:=wp_cond_f hc h
theorem oC (d:Tmp) {f:FuncId}{args:Array Value}{v:Value}(hs:St w0 X L R w) (c:Ret P f args w v) (k:∀ w',Grow w w'→St w0 X L R w'→K (a.put (some d) v) w') (hd:dstAt ops i=(some d):=by kernel_rfl) (he:∀ w,(execAt ops i a).run P w = .ok (.enter f args) w:=by intro _; kernel_rfl):wpOp P ops (NoP Kn) i K a w:=op_call (d:=some d) hd hs he c k
theorem yA {ρ:World→World→Prop}{n:Nat}(hs:St w0 X L R w) (j:Nat) {b:Nat}{t:TypeId}(e:TypeId) {k:IntKind}{c:Arr n}(x:Int) (hj:L[j]? = some (.blk b (enc k c) t)) (h0:0≤x) (h1:x<n) (hB:Bears ρ w b) (he:execAt ops i a=nextV (Instr.loadAt e (.pointer (some ⟨b,0+x.toNat*1,none⟩))):=by kernel_rfl) (hg:aggB P e=some false:=by kernel_rfl):Yld P ops ρ i a w (.int k (rd c x)):=yld_loadA hs j hj he hg h0 h1 hB
theorem oA {n:Nat}(t:TypeId) (v:Int) {b:Nat}{c:Arr n}{T:TypeId}{k:IntKind}(x:Int) (hs:St w0 X L R w) (j:Nat) (hj:L[j]? = some (.blk b (enc k c) T)) (he:execAt ops i a=nextU (Instr.storeAt t (.pointer (some ⟨b,0+x.toNat*1,none⟩)) (.int k v))) (h0:0≤x) (h1:x<n) (K':∀ w',Keep (fun k=>k=b) w w'→St w0 X (L.set j (.blk b (enc k (wr c x v)) T)) R w'→K (a.put none undef) w') (hd:dstAt ops i=none:=by kernel_rfl) (hn:szOf P t=some 1:=by kernel_rfl):wpOp P ops (NoP Kn) i K a w:=op_storeA (d:=none) hd hs j hj he hn h0 h1 K'
theorem ysl (t:TypeId) {k:IntKind}(k':IntKind) {x:Int}{y:Int}(h0:0≤y) (he:execAt ops i a=nextV (do eqGuard .shl t (.const undef) (.const undef) (.int k x) (.int k' y); Op.shift .shl k x k' y):=by kernel_rfl):Yld P ops Any i a w (.int k (ishl k x y)):=yld_shl he h0
theorem ysr (t:TypeId) {k:IntKind}(k':IntKind) {x:Int}{y:Int}(h0:0≤y) (he:execAt ops i a=nextV (do eqGuard .shr t (.const undef) (.const undef) (.int k x) (.int k' y); Op.shift .shr k x k' y):=by kernel_rfl):Yld P ops Any i a w (.int k (ishr k x y)):=yld_shr he h0
theorem yt (t:TypeId) (e:TypeId) {n:Nat}{k:IntKind}(k':IntKind) {b:Arr n}{x:Int}(h0:0≤x) (h1:x<n) (he:execAt ops i a=nextV (Instr.index t (.agg (enc k b).toArray) (.int k' x)):=by kernel_rfl) (hu:P.underlying t=some (.array n e):=by kernel_rfl) (hs:szOf P e=some 1:=by kernel_rfl) (hg:aggB P e=some false:=by kernel_rfl):Yld P ops Any i a w (.int k (rd b x)):=yld_at he hu hs hg h0 h1
theorem yP {ρ:World→World→Prop}{n:Nat}(m:Nat) (hs:St w0 X L R w) (j:Nat) {b:Nat}{t:TypeId}(e:TypeId) {k:IntKind}{pre:List Value}{post:List Value}{c:Arr n}(x:Int) (hj:L[j]? = some (.blk b (pre++enc k c++post) t)) (h0:0≤x) (h1:x<n) (hm:pre.length=m) (hB:Bears ρ w b) (he:execAt ops i a=nextV (Instr.loadAt e (.pointer (some ⟨b,m+x.toNat*1,none⟩))):=by kernel_rfl) (hg:aggB P e=some false:=by kernel_rfl):Yld P ops ρ i a w (.int k (rd c x)):=yld_loadP hs j hj he hg h0 h1 hm hB
theorem oP {n:Nat}(m:Nat) (t:TypeId) (v:Int) {b:Nat}{pre:List Value}{post:List Value}{c:Arr n}{T:TypeId}{k:IntKind}(x:Int) (hs:St w0 X L R w) (j:Nat) (hj:L[j]? = some (.blk b (pre++enc k c++post) T)) (he:execAt ops i a=nextU (Instr.storeAt t (.pointer (some ⟨b,m+x.toNat*1,none⟩)) (.int k v))) (h0:0≤x) (h1:x<n) (hm:pre.length=m) (K':∀ w',Keep (fun k=>k=b) w w'→St w0 X (L.set j (.blk b (pre++enc k (wr c x v)++post) T)) R w'→K (a.put none undef) w') (hd:dstAt ops i=none:=by kernel_rfl) (hn:szOf P t=some 1:=by kernel_rfl):wpOp P ops (NoP Kn) i K a w:=op_storeP (d:=none) hd hs j hj he hn h0 h1 hm K'
theorem yq (t:TypeId) {k:IntKind}{x:Int}{y:Int}(h0:¬ y=0) (he:execAt ops i a=nextV (do eqGuard .quo t (.const undef) (.const undef) (.int k x) (.int k y); Op.intDiv .quo k x y):=by kernel_rfl):Yld P ops Any i a w (.int k (iquo k x y)):=yld_quo he h0
theorem yr (t:TypeId) {k:IntKind}{x:Int}{y:Int}(h0:¬ y=0) (he:execAt ops i a=nextV (do eqGuard .rem t (.const undef) (.const undef) (.int k x) (.int k y); Op.intDiv .rem k x y):=by kernel_rfl):Yld P ops Any i a w (.int k (irem k x y)):=yld_rem he h0
theorem rc1 {tmps:Array Value}{s:Nat}{b:Nat}{t:TypeId}{T:TypeId}{c:List Value}{v:Value}(hs:St w0 X L R w) (j:Nat) (hj:L[j]? = some (.blk b c T)) (hv:c[0]? = some v) (h:tmps.getD s undef = .pointer (some ⟨b,0,none⟩):=by kernel_rfl) (hg:aggB P t=some false:=by kernel_rfl):ResOK P tmps w (.cell s t) v:=res_cell1 hs j hj h hg hv
theorem oCB (d:Tmp) {f:FuncId}{args:Array Value}{v:Nat→Value}{L':Nat→List Ent}(hs:St w0 X L R w) (c:Calls P f args w fun e w'=>∃ b,e = .returned (v b)∧St w [] (L' b) [] w') (k:∀ b w',Grow w w'→St w0 X (L' b++L) R w'→K (a.put (some d) (v b)) w') (hd:dstAt ops i=(some d):=by kernel_rfl) (he:∀ w,(execAt ops i a).run P w = .ok (.enter f args) w:=by intro _; kernel_rfl):wpOp P ops (NoP Kn) i K a w:=op_callB (d:=some d) hd hs he c k
theorem xs {x:Code}{y:Code}(h:∀ K:Act→World→Prop,(∀ a w,y.wpIn (FR r) 0 P Q a w→K a w)→x.wpIn (FR r) 0 P (Exit.then K Q) a w):(Code.seq x y).wpIn (FR r) 0 P Q a w:=xseq_k h
theorem xb {id:Nat}{c:Code}(h:c.wpIn (FR r) 0 P (Exit.inBlock id Q) a w):(Code.block id c).wpIn (FR r) 0 P Q a w:=xblock h
theorem xk (h:Q .normal a w):Code.skip.wpIn (FR r) 0 P Q a w:=xskip h
theorem tn {N:Act→World→Prop}(h:N a w):Exit.then N Q .normal a w:=then_n h
theorem tr {N:Act→World→Prop}(h:Q .ret a w):Exit.then N Q .ret a w:=then_r h
theorem tx {N:Act→World→Prop}{id:Nat}(h:Q (.exit id) a w):Exit.then N Q (.exit id) a w:=then_x h
theorem iN {id:Nat}(h:Q .normal a w):Exit.inBlock id Q .normal a w:=inBlock_n h
theorem iR {id:Nat}(h:Q .ret a w):Exit.inBlock id Q .ret a w:=inBlock_r h
theorem iH {id:Nat}(h:Q .normal a w):Exit.inBlock id Q (.exit id) a w:=inBlock_hit h
end
section
variable {P : Program} {ops : Array Oper} {K Kn : Act → World → Prop} {a : Act} {w w' : World} {i : Nat} {w0 : World} {X : List Nat} {L R : List Ent}
theorem oN (d:Tmp) (t:TypeId) (hs:St w0 X L R w) (c:List Value) (z:Value) (k:∀ b w',Grow w w'→St w0 X (.blk b c t::L) R w'→K (a.put (some d) (.pointer (some ⟨b,0,none⟩))) w') (hd:dstAt ops i=(some d):=by kernel_rfl) (he:execAt ops i a=nextV (Instr.alloc t true (.tuple #[])):=by kernel_rfl) (hz:zeroOf P t=some z:=by kernel_rfl) (hc:z.cells=c.toArray:=by kernel_rfl):wpOp P ops (NoP Kn) i K a w:=op_alloc (d:=some d) hd hs c z he hz hc k
theorem oB (d:Tmp) (t:TypeId) (v:Value) (hs:St w0 X L R w) (c:List Value) (k:∀ b w',Grow w w'→St w0 X (.blk b c t::L) R w'→K (a.put (some d) (.pointer (some ⟨b,0,none⟩))) w') (hd:dstAt ops i=(some d):=by kernel_rfl) (he:execAt ops i a=nextV (Instr.box t v):=by kernel_rfl) (hc:v.cells=c.toArray:=by kernel_rfl):wpOp P ops (NoP Kn) i K a w:=op_box (d:=some d) hd hs c he hc k
theorem yv {ρ:World→World→Prop}(hs:St w0 X L R w) (j:Nat) {b:Nat}(o:Nat) {c:List Value}{t:TypeId}(e:TypeId) {v:Value}(hj:L[j]? = some (.blk b c t)) (hv:c[o]? = some v) (hB:Bears ρ w b) (he:execAt ops i a=nextV (Instr.loadAt e (.pointer (some ⟨b,o,none⟩))):=by kernel_rfl) (hg:aggB P e=some false:=by kernel_rfl):Yld P ops ρ i a w v:=yld_load1 hs j hj he hg hv hB
theorem yi (t:TypeId) (e:TypeId) (n:Nat) (sz:Nat) {b:Nat}{o:Nat}(k:IntKind) (x:Int) (h0:0≤x) (h1:x<n) (he:execAt ops i a=nextV (Instr.indexAt t (.pointer (some ⟨b,o,none⟩)) (.int k x)):=by kernel_rfl) (hu:P.underlying t=some (.array n e):=by kernel_rfl) (hs:szOf P e=some sz:=by kernel_rfl):Yld P ops Any i a w (.pointer (some ⟨b,o+x.toNat*sz,none⟩)):=yld_idx he hu hs h0 h1
theorem oX (d:Tmp) {f:FuncId}{args:Array Value}{v:Value}{b:Nat}{c:List Value}{c':List Value}{t:TypeId}(hs:St w0 X L R w) (j:Nat) (hj:L[j]? = some (.blk b c t)) (cl:Calls P f args w fun e w'=>e = .returned v∧St w [b] [.blk b c' t] [] w') (k:∀ w',Keep (fun k=>k=b) w w'→St w0 X (L.set j (.blk b c' t)) R w'→K (a.put (some d) v) w') (hd:dstAt ops i=(some d):=by kernel_rfl) (he:∀ w,(execAt ops i a).run P w = .ok (.enter f args) w:=by intro _; kernel_rfl):wpOp P ops (NoP Kn) i K a w:=op_callX (d:=some d) hd hs j hj he cl k
theorem ysA (t:Nat) (e:Nat) (n:Nat) {b:Nat}{o:Nat}(k1:IntKind) (k2:IntKind) (lo:Int) (hi:Int) (h0:0≤lo) (h1:lo≤hi) (h2:hi≤n) (h3:lo<n) (he:execAt ops i a=nextV (Instr.sliceAt t (.pointer (some ⟨b,o,none⟩)) (some (.int k1 lo)) (some (.int k2 hi)) none):=by kernel_rfl) (hu:P.underlying t=some (.array n e):=by kernel_rfl) (hs:szOf P e=some 1:=by kernel_rfl):Yld P ops Any i a w (.slice (some ⟨b,o+lo.toNat*1,none⟩) (hi.toNat-lo.toNat) (n-lo.toNat)):=yld_slA he hu hs h0 h1 h2 h3
theorem pn {fn:Func}{R':Ending→World→Prop}{v:Value}(h:(results fn a.tmps).run P w = .ok v w) (hR:R' (.returned v) w) (hd:a.defers=[]:=by kernel_rfl):bodyPost P fn R' .normal a w:=post_nrm hd h hR
theorem yN {ρ:World→World→Prop}(hs:St w0 X L R w) (j:Nat) {b:Nat}(o:Nat) (n:Nat) {c:List Value}{mid:List Value}{t:TypeId}(e:TypeId) (hj:L[j]? = some (.blk b c t)) (hm:(c.drop o).take n=mid) (hl:mid.length=n) (hB:Bears ρ w b) (he:execAt ops i a=nextV (Instr.loadAt e (.pointer (some ⟨b,o,none⟩))):=by kernel_rfl) (hg:aggB P e=some true:=by kernel_rfl) (hn:szOf P e=some n:=by kernel_rfl):Yld P ops ρ i a w (.agg mid.toArray):=yld_loadN hs j hj he hg hn hm hl hB
theorem oM (t:TypeId) (v:Value) {b:Nat}(o:Nat) (m:Nat) {c:List Value}{c':List Value}(vs:List Value) {T:TypeId}(hs:St w0 X L R w) (j:Nat) (hj:L[j]? = some (.blk b c T)) (hm:vs.length=m) (hl:o+m≤c.length) (hone:∀ u∈vs,u.oneCell'=true) (hs':splice c o vs=c') (k:∀ w',Keep (fun k=>k=b) w w'→St w0 X (L.set j (.blk b c' T)) R w'→K (a.put none undef) w') (hd:dstAt ops i=none:=by kernel_rfl) (he:execAt ops i a=nextU (Instr.storeAt t (.pointer (some ⟨b,o,none⟩)) v):=by kernel_rfl) (hc:v.cells=vs.toArray:=by kernel_rfl) (hn:szOf P t=some m:=by kernel_rfl):wpOp P ops (NoP Kn) i K a w:=op_storeM (d:=none) hd hs j hj he hc hn hm hl hone hs' k
theorem oQ (t:TypeId) (v:Value) {b:Nat}(o:Nat) {c:List Value}{c':List Value}{T:TypeId}(hs:St w0 X L R w) (j:Nat) (hj:L[j]? = some (.blk b c T)) (hv:v.oneCell'=true) (hl:o<c.length) (hc:c.set o v=c') (k:∀ w',Keep (fun k=>k=b) w w'→St w0 X (L.set j (.blk b c' T)) R w'→K (a.put none undef) w') (hd:dstAt ops i=none:=by kernel_rfl) (he:execAt ops i a=nextU (Instr.storeAt t (.pointer (some ⟨b,o,none⟩)) v):=by kernel_rfl) (hn:szOf P t=some 1:=by kernel_rfl):wpOp P ops (NoP Kn) i K a w:=op_storeQ (d:=none) hd hs j hj he hv hn hl hc k
theorem oS1 (t:TypeId) (v:Value) {b:Nat}(o:Nat) {c:List Value}{T:TypeId}(hs:St w0 X L R w) (j:Nat) (hj:L[j]? = some (.blk b c T)) (hv:v.oneCell'=true) (hl:o<c.length) (k:∀ w',Keep (fun k=>k=b) w w'→St w0 X (L.set j (.blk b (c.set o v) T)) R w'→K (a.put none undef) w') (hd:dstAt ops i=none:=by kernel_rfl) (he:execAt ops i a=nextU (Instr.storeAt t (.pointer (some ⟨b,o,none⟩)) v):=by kernel_rfl) (hn:szOf P t=some 1:=by kernel_rfl):wpOp P ops (NoP Kn) i K a w:=op_store1 (d:=none) hd hs j hj he hv hn hl k
theorem qs (l:List (Nat × Tmp × Value)) {a:Act}{r:List Nat}(H:wpS P ops K r (puts a l) w) (h:pureRun P ops a l=pureTold l:=by kernel_rfl):wpS P ops K (l.map (·.1)++r) a w:=wpS.qs l H h
theorem qo {l:List Nat}(i:Nat) (t:Tmp) (v:Value) (H:wpS P ops K l (a.put (some t) v) w) (h:(dstAt ops i,fun w'=>(execAt ops i a).run P w')=(some t,fun w'=>.ok (.value v) w'):=by kernel_rfl):wpS P ops K (i::l) a w:=wpS.q i t v H h
theorem gq {ng:List Nat}{S:Nat→Prop}{fuel:Nat}{listed:Array Bool}(i:Nat) (t:Tmp) (v:Value) (H:wpG P ops K ng S fuel (listed.setIfInBounds i true) (a.put (some t) v) w) (hc:takeB ops ng listed i false (waitL ops i)=true:=by kernel_rfl) (h:(dstAt ops i,fun w'=>(execAt ops i a).run P w')=(some t,fun w'=>.ok (.value v) w'):=by kernel_rfl):wpG P ops K ng S (fuel+1) listed a w:=wpG.q i t v H hc h
end
section
variable {P : Program} {ops : Array Oper} {K Kn : Act → World → Prop} {a a' : Act} {w w' : World} {i : Nat} {w0 : World} {X : List Nat} {L R : List Ent} {Q : Exit → Act → World → Prop}
theorem yn {k:IntKind}{e:Int}{x:Int}(hx:some e=some x) (h:∀ w',(execAt ops i a).run P w' = .ok (.value (.int k e)) w':=by intro _; kernel_rfl):Yld P ops Any i a w (.int k x):=yld_int hx h
end
section
variable {T : Type} {C : Cod T} {P : Program} {ops : Array Oper} {K Kn : Act → World → Prop} {a : Act} {w w' : World} {i : Nat} {w0 : World} {X : List Nat} {L R : List Ent}
theorem oLt (d:Tmp) (t:Nat) (e:Nat) (len:Nat) (z:Value) (parts:Array (Nat × Value)) (l:List T) (hs:St w0 X L R w) (hl:l.length=len) (hlen:0<len) (hbig:len*C.size≤16777216) (k:∀ A n c w',Grow w w'→St w0 X (.ownL C A n c l e::L) R w'→K (a.put (some d) (.slice A n c)) w') (hd:dstAt ops i=(some d):=by kernel_rfl) (he:execAt ops i a=nextV (Instr.buildSlice t len parts):=by kernel_rfl) (hu:P.underlying t=some (.slice e):=by kernel_rfl) (hsz:szOf P e=some C.size:=by kernel_rfl) (hz:zeroOf P e=some z:=by kernel_rfl) (hf:Instr.fill (fun i=>some (i*C.size,C.size)) ((Array.range (len*C.size)).map (z.cells[· % z.cells.size]!)) parts.toList=some (encL C l).toArray:=by kernel_rfl):wpOp P ops (NoP Kn) i K a w:=op_lit (d:=some d) hd l hs he hu hsz hz hl hlen hbig hf k
theorem yiL (t:Nat) (e:Nat) {n:Nat}{c:Nat}{A:Option Addr}{l:List T}(k:IntKind) (x:Int) (hr:RowL C w A n c l) (h0:0≤x) (h1:x<l.length) (he:execAt ops i a=nextV (Instr.indexAt t (.slice A n c) (.int k x)):=by kernel_rfl) (hu:P.underlying t=some (.slice e):=by kernel_rfl) (hs:szOf P e=some C.size:=by kernel_rfl):Yld P ops Any i a w (.pointer (adr A (x.toNat*C.size))):=yld_idxL hr he hu hs h0 h1
theorem yL (e:Nat) {n:Nat}{c:Nat}{A:Option Addr}{l:List T}(x:Int) (hr:RowL C w A n c l) (hc:C.agg=false) (h0:0≤x) (h1:x<l.length) (he:execAt ops i a=nextV (Instr.loadAt e (.pointer (adr A (x.toNat*C.size)))):=by kernel_rfl) (hg:aggB P e=some false:=by kernel_rfl):Yld P ops Grow i a w (C.val (rdL C l x)):=yld_loadL hr he hc hg h0 h1
theorem yLA (e:Nat) {n:Nat}{c:Nat}{A:Option Addr}{l:List T}(x:Int) (hr:RowL C w A n c l) (hc:C.agg=true) (h0:0≤x) (h1:x<l.length) (he:execAt ops i a=nextV (Instr.loadAt e (.pointer (adr A (x.toNat*C.size)))):=by kernel_rfl) (hg:aggB P e=some true:=by kernel_rfl) (hn:szOf P e=some C.size:=by kernel_rfl):Yld P ops Grow i a w (C.val (rdL C l x)):=yld_loadLA hr he hc hg hn h0 h1
theorem oMk (d:Tmp) (t:Nat) (e:Nat) (bytes:Nat) (B:Nat) (kl:IntKind) (kc:IntKind) (x:Int) (hs:St w0 X L R w) (h0:0≤x) (h1:x≤B) (hb:bytes*B≤140737488355328) (hB:B≤140737488355328) (k:∀ A n c w',Grow w w'→St w0 X (.ownL C A n c (List.replicate x.toNat C.zero) e::L) R w'→K (a.put (some d) (.slice A n c)) w') (hd:dstAt ops i=(some d):=by kernel_rfl) (he:execAt ops i a=nextV (Instr.makeSlice t (.int kl x) (.int kc x)):=by kernel_rfl) (hu:P.underlying t=some (.slice e):=by kernel_rfl) (q1:szOf P e=some C.size:=by kernel_rfl) (q2:zeroOf P e=some (C.val C.zero):=by kernel_rfl) (q3:byOf P e=some bytes:=by kernel_rfl):wpOp P ops (NoP Kn) i K a w:=op_makeT (d:=some d) hd hs he hu q1 q2 q3 h0 h1 hb hB k
theorem yl {A:Option Addr}{n:Nat}{c:Nat}{l:List T}(hr:RowL C w A n c l) (h:∀ w',(execAt ops i a).run P w' = .ok (.value (.int .i64 (n:Int))) w':=by intro _; kernel_rfl):Yld P ops Any i a w (.int .i64 (l.length:Int)):=yld_lenL hr h
theorem oL (t:Nat) {n:Nat}{c:Nat}{e:Nat}{A:Option Addr}{l:List T}(x:Int) (v:T) (hs:St w0 X L R w) (j:Nat) (hj:L[j]? = some (.ownL C A n c l e)) (h0:0≤x) (h1:x<l.length) (k:∀ w',St w0 X (L.set j (.ownL C A n c (wrL l x v) e)) R w'→K (a.put none undef) w') (hd:dstAt ops i=none:=by kernel_rfl) (he:execAt ops i a=nextU (Instr.storeAt t (.pointer (adr A (x.toNat*C.size))) (C.val v)):=by kernel_rfl) (hn:szOf P t=some C.size:=by kernel_rfl):wpOp P ops (NoP Kn) i K a w:=op_storeL (d:=none) hd hs j hj he hn h0 h1 k
theorem ylLL {A:Option Addr}{n:Nat}{c:Nat}{H:List HS}{l:List (List T)}(hr:LLP C w A n c H l) (h:∀ w',(execAt ops i a).run P w' = .ok (.value (.int .i64 (n:Int))) w':=by intro _; kernel_rfl):Yld P ops Any i a w (.int .i64 (l.length:Int)):=yld_lenLL hr h
theorem yiLL (t:Nat) (e:Nat) {n:Nat}{c:Nat}{A:Option Addr}{H:List HS}{l:List (List T)}(k:IntKind) (x:Int) (hr:LLP C w A n c H l) (h0:0≤x) (h1:x<l.length) (he:execAt ops i a=nextV (Instr.indexAt t (.slice A n c) (.int k x)):=by kernel_rfl) (hu:P.underlying t=some (.slice e):=by kernel_rfl) (hs:szOf P e=some 1:=by kernel_rfl):Yld P ops Any i a w (.pointer (adr A (x.toNat*1))):=yld_idxLL hr he hu hs h0 h1
theorem yLL (e:Nat) {n:Nat}{c:Nat}{A:Option Addr}{H:List HS}{l:List (List T)}(x:Int) (hr:LLP C w A n c H l) (h0:0≤x) (h1:x<l.length) (he:execAt ops i a=nextV (Instr.loadAt e (.pointer (adr A (x.toNat*1)))):=by kernel_rfl) (hg:aggB P e=some false:=by kernel_rfl):Yld P ops Grow i a w (.slice (rdL CS H x).1 (rdL CS H x).2.1 (rdL CS H x).2.2):=yld_loadLL hr he hg h0 h1
theorem ylNN {A:Option Addr}{n:Nat}{c:Nat}{H:List HS}{l:List (List T)}(hr:NNP w A n c H l) (h:∀ w',(execAt ops i a).run P w' = .ok (.value (.int .i64 (n:Int))) w':=by intro _; kernel_rfl):Yld P ops Any i a w (.int .i64 (l.length:Int)):=yld_lenNN hr h
theorem yiNN (t:Nat) (e:Nat) {n:Nat}{c:Nat}{A:Option Addr}{H:List HS}{l:List (List T)}(k:IntKind) (x:Int) (hr:NNP w A n c H l) (h0:0≤x) (h1:x<l.length) (he:execAt ops i a=nextV (Instr.indexAt t (.slice A n c) (.int k x)):=by kernel_rfl) (hu:P.underlying t=some (.slice e):=by kernel_rfl) (hs:szOf P e=some 1:=by kernel_rfl):Yld P ops Any i a w (.pointer (adr A (x.toNat*1))):=yld_idxNN hr he hu hs h0 h1
theorem oLL (d:Tmp) (t:Nat) (e:Nat) (len:Nat) (z:Value) (parts:Array (Nat × Value)) (l:List T) (hs:St w0 X L R w) (hp:parts.toList=(l.zipIdx 0).map fun q=>(q.2,C.val q.1)) (hl:l.length=len) (hlen:0<len) (hbig:len*C.size≤16777216) (k:∀ A n c w',Grow w w'→St w0 X (.ownL C A n c l e::L) R w'→K (a.put (some d) (.slice A n c)) w') (hd:dstAt ops i=(some d):=by kernel_rfl) (he:execAt ops i a=nextV (Instr.buildSlice t len parts):=by kernel_rfl) (hu:P.underlying t=some (.slice e):=by kernel_rfl) (hsz:szOf P e=some C.size:=by kernel_rfl) (hz:zeroOf P e=some z:=by kernel_rfl):wpOp P ops (NoP Kn) i K a w:=op_litL (d:=some d) hd l hs he hp hu hsz hz hl hlen hbig k
theorem oAp (d:Tmp) (t:Nat) (ty:Nat) (e:Nat) (bytes:Nat) (B:Nat) {n:Nat}{nx:Nat}{c:Nat}{cx:Nat}{A:Option Addr}{Ax:Option Addr}{l:List T}{m:List T}(hs:St w0 X L R w) (j:Nat) (hj:L[j]? = some (.ownL C A n c l e)) (hr:RowL C w Ax nx cx m) (hlen:l.length+m.length≤B) (hb:bytes*B≤140737488355328) (hB:B≤140737488355328) (k:∀ A' n' c' w',St w0 X (L.set j (.ownL C A' n' c' (l++m) e)) R w'→K (a.put (some d) (.slice A' n' c')) w') (hd:dstAt ops i=(some d):=by kernel_rfl) (he:execAt ops i a=nextV (Builtin.append_ #[t,t] ty #[.slice A n c,.slice Ax nx cx]):=by kernel_rfl) (hu:P.underlying t=some (.slice e):=by kernel_rfl) (q1:szOf P e=some C.size:=by kernel_rfl) (q2:zeroOf P e=some (C.val C.zero):=by kernel_rfl) (q3:byOf P e=some bytes:=by kernel_rfl):wpOp P ops (NoP Kn) i K a w:=op_appendT (d:=some d) hd hs j hj hr he hu q1 q2 q3 hlen hb hB k
theorem oH (d:Tmp) {H:Type}{f:FuncId}{args:Array Value}{v:H→Value}{L1:H→List Ent}(hs:St w0 X L R w) (c:Calls P f args w fun e w'=>∃ h:H,e = .returned (v h)∧St w [] (L1 h) [] w') (k:∀ h w',Grow w w'→St w0 X (L1 h++L) R w'→K (a.put (some d) (v h)) w') (hd:dstAt ops i=(some d):=by kernel_rfl) (he:∀ w,(execAt ops i a).run P w = .ok (.enter f args) w:=by intro _; kernel_rfl):wpOp P ops (NoP Kn) i K a w:=op_callH (d:=some d) hd hs he c k
theorem ysb (t:Nat) (e:Nat) {n:Nat}{n':Nat}{c:Nat}{c':Nat}{A:Option Addr}{A':Option Addr}{l:List T}(low:Option Value) (high:Option Value) (lo:Int) (hi:Int) (hr:RowL C w A n c l) (hlo:(low=none∧lo=0)∨∃ k,low=some (.int k lo)) (hhi:(high=none∧hi=(l.length:Int))∨∃ k,high=some (.int k hi)) (h0:0≤lo) (h1:lo≤hi) (h2:hi≤l.length) (hA:A'=if c=lo.toNat then A else adr A (lo.toNat*C.size)) (hn:n'=hi.toNat-lo.toNat) (hc:c'=c-lo.toNat) (he:execAt ops i a=nextV (Instr.sliceAt t (.slice A n c) low high none):=by kernel_rfl) (hu:P.underlying t=some (.slice e):=by kernel_rfl) (hs:szOf P e=some C.size:=by kernel_rfl):Yld P ops Any i a w (.slice A' n' c'):=yld_sub hr he hu hs hlo hhi h0 h1 h2 hA hn hc
theorem oMk0 (d:Tmp) (t:Nat) (e:Nat) (bytes:Nat) (B:Nat) (kl:IntKind) (kc:IntKind) (x:Int) (hs:St w0 X L R w) (h0:0≤x) (h1:x≤B) (hb:bytes*B≤140737488355328) (hB:B≤140737488355328) (k:∀ A n c w',Grow w w'→St w0 X (.ownL C A n c ([]:List T) e::L) R w'→K (a.put (some d) (.slice A n c)) w') (hd:dstAt ops i=(some d):=by kernel_rfl) (he:execAt ops i a=nextV (Instr.makeSlice t (.int kl 0) (.int kc x)):=by kernel_rfl) (hu:P.underlying t=some (.slice e):=by kernel_rfl) (q1:szOf P e=some C.size:=by kernel_rfl) (q2:zeroOf P e=some (C.val C.zero):=by kernel_rfl) (q3:byOf P e=some bytes:=by kernel_rfl):wpOp P ops (NoP Kn) i K a w:=op_makeT0 (d:=some d) hd hs he hu q1 q2 q3 h0 h1 hb hB k
end
section
variable {P : Program} {ops : Array Oper} {K Kn : Act → World → Prop} {a : Act} {w w' : World} {i : Nat} {w0 : World} {X : List Nat} {L R : List Ent} {Q : Exit → Act → World → Prop}
theorem oY (d:Tmp) (hs:St w0 X L R w) (j:Nat) {l:Nat}{rec:LoopState→Option Code→Loop}{tmps:Array Value}(tm:Array Value) {ps:Array Tmp}{assign:Code}{body:Code}(hj:L[j]? = some (.obj l (.loop (rec .ready none)))) (hok:LoopRec rec tmps ps assign body) (args:Array Value) (hn:args.size=ps.size) (h:∀ K1:Act→World→Prop,(∀ a1 w1 j1 L1 R1,St w0 X L1 R1 w1→L1[j1]? = some (.obj l (.loop (rec .ready none)))→(∀ w2 Qr,St w0 X (L1.set j1 (.obj l (.loop (rec .busy none)))) R1 w2 →
    (∀ e a' w',RoundEnd P l rec (fun b w'=>K (a.put (some d) (.bool b)) w') e a' w'→Qr e a' w')→body.wpIn (FR (some l)) 0 P Qr a1 w2)→K1 a1 w1) →
   assign.wpIn (FR (some l)) 0 P (Exit.then K1 (fun _ _ _=>False)) { tmps:=tm,defers:=[] } w) (hd:dstAt ops i=(some d):=by kernel_rfl) (he:execAt ops i a=Instr.yield l args:=by kernel_rfl) (htm:(ps.zip args).foldl (fun t (p,v)=>t.setIfInBounds p v) tmps=tm:=by kernel_rfl) (hw:((ops[i]?).map fun o=>Region.wanted o (yielded ops a.tmps))=some true:=by kernel_rfl):RdOp P ops i K a w:=op_yield (d:=some d) hd hs j hj hok args he hn htm hw h
end
section
variable {P : Program} {ops : Array Oper} {K : Act → World → Prop} {a : Act} {w w' : World} {i : Nat} {Kn : Act → World → Prop}
end
section
theorem oc {α:Type}{p:Prop}[Decidable p] {A:Option α}{r:α}(h:(if p then A else none)=some r):p∧A=some r:=of_chk h
theorem ob {α:Type}{β:Type}{x:Option α}{f:α→Option β}{r:β}(h:x.bind f=some r):∃ y,x=some y∧f y=some r:=of_bind h
end
end Go.Mx
