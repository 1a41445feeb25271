import Derived.WalkKit
import Derived.KernelRfl
import Derived.Deep.Draws
import Derived.Deep.RegionHeld3
import Derived.WideLaws
import Derived.Laws.Cells
import Derived.Laws.StructEq
import Derived.Maps.AppendAt
import Derived.Laws.CopyRow
import Derived.Laws.MakeOwn
import Derived.Laws.BytesArg
import Derived.Laws.StandIn
import Derived.Laws.Tables
import Derived.LaidEqlPtr
import Derived.Lib.BytesEntry
import Derived.Laws.OwnMore
import Derived.Laws.ResultCell
import Derived.Laws.Rows
import Derived.Test.YtlndedfkgiafhaaDoorProg
import Derived.Laws.RangeAny
import Derived.Deep.AppendSrc
import Derived.Lib.AppendZerosOnto
import Derived.Lib.AppendStr
import Derived.Lib.BufferWrite
import Derived.Laws.IdiomStrings
import Derived.Laws.Concat
import Derived.ProofKit
import Derived.LaidMore
import Derived.OpenShut
import Derived.Stop.Joined
import Derived.Stop.LaidErr
import Derived.SevenTiedAt
import Derived.Carry
import Derived.MakeChecks
set_option linter.unusedVariables false
set_option linter.unusedSimpArgs false
set_option maxRecDepth 100000
set_option maxHeartbeats 4000000
namespace Go.Proofs.YtlndedfkgiafhaaDoor
open Go
theorem Z {α : Sort _}{a:α}:a=a:=Eq.refl a
abbrev dv:=Nat → Value
def j2(ρ:dv)(d:Nat)(v:Value):dv:=fun t=>bif Nat.beq t d then v else ρ t
def ev(ρ:dv):Operand → Value
 |.tmp t=>ρ t
 |.const v=>v
 |.global g=> .pointer (some ⟨g,0,none⟩)
 |.func f=> .func (.func f) #[] #[]
def ee(ρ:dv)(d:Option Tmp)(v:Value):dv:=match d with
 |some d=>j2 ρ d v
 |none=>ρ
structure Sim (n : Nat) (a : Act) (ρ : dv) : Prop where
 size:a.tmps.size=n
 defers:a.defers= []
 get: ∀t,a.tmps.getD t undef=ρ t
theorem wM(ρ:dv)(d:Nat)(v:Value):j2 ρ d v d=v:=by simp[j2]
theorem vq(ρ:dv){t d:Nat}(v:Value)(h:t≠d):j2 ρ d v t=ρ t:=by
 have:Nat.beq t d=false:=by
  rw[Bool.eq_false_iff];intro h';exact h (Nat.eq_of_beq_eq_true h')
 simp[j2,this]
def gR(n:Nat):Option Tmp → Bool
 |some d=>Nat.blt d n
 |none=>true
theorem Sim.eval{n:Nat}{a:Act}{ρ:dv}(h:Sim n a ρ):a.eval=ev ρ:=by
 funext x
 cases x with
 |tmp t=>exact h.get t
 | _=>rfl
theorem Sim.put{n:Nat}{a:Act}{ρ:dv}(h:Sim n a ρ){d:Option Tmp}(hd:gR n d=true)(v:Value):Sim n (a.put d v) (ee ρ d v):=by
 cases d with
 |none=>exact h
 |some d=>
  have hlt:d<a.tmps.size:=by rw[h.size];simpa[gR]using hd
  refine⟨by simpa[Act.put]using h.size,h.defers,fun t=> ?_⟩
  show(a.tmps.setIfInBounds d v).getD t undef=j2 ρ d v t
  by_cases htd:t=d
  · subst htd
    rw[wM]
    simp[Array.getD_eq_getD_getElem?,Array.getElem?_setIfInBounds,hlt]
  · rw[vq ρ v htd,←h.get t]
    simp[Array.getD_eq_getD_getElem?,Array.getElem?_setIfInBounds,Ne.symm htd]
abbrev QE:=Exit → dv → World → Prop
def sS(n:Nat)(Q:QE):Exit → Act → World → Prop:=fun e a w=> ∃ρ,Sim n a ρ∧Q e ρ w
def W(P:Program)(n:Nat)(c:Code)(Q:QE)(ρ:dv)(w:World):Prop:= ∀a,Sim n a ρ → c.wp P (sS n Q) a w
def jv(K:dv → World → Prop)(Q:QE):QE
 |.normal,ρ,w=>K ρ w
 |e,ρ,w=>Q e ρ w
def pI(id:Nat)(Q:QE):QE
 |.exit id',ρ,w=>if id'=id then Q .normal ρ w else Q (.exit id') ρ w
 |e,ρ,w=>Q e ρ w
section
variable{P:Program}{n:Nat}{Q:QE}{ρ:dv}{w:World}
theorem xu{c:Code}{Q':QE}(h:W P n c Q ρ w)(hq: ∀e ρ w,Q e ρ w → Q' e ρ w):W P n c Q' ρ w:=
 fun a ha=>wp_mono (h a ha) fun e a w ⟨ρ,hs,hq'⟩=>⟨ρ,hs,hq _ _ _ hq'⟩
theorem ad{x y:Code}(h:W P n x (jv (W P n y Q) Q) ρ w):W P n (.seq x y) Q ρ w:=fun a ha=>
 wp_seq (wp_mono (h a ha) fun e a w ⟨ρ,hs,hq⟩=>by
  cases e<;>first|exact hq a hs|exact⟨ρ,hs,hq⟩)
theorem dw(h:Q .normal ρ w):W P n .skip Q ρ w:=fun _ ha=>wp_skip ⟨ρ,ha,h⟩
theorem aY(h:Q .ret ρ w):W P n .ret Q ρ w:=fun _ ha=>wp_ret ⟨ρ,ha,h⟩
theorem bq{id:Nat}(h:Q (.exit id) ρ w):W P n (.exit id) Q ρ w:=fun _ ha=>wp_exit ⟨ρ,ha,h⟩
theorem aB{c:Operand}{x y:Code}(hc:ev ρ c= .bool true)(h:W P n x Q ρ w):W P n (.cond c x y) Q ρ w:=
 fun a ha=>wp_cond_true (by rw[ha.eval];exact hc) (h a ha)
theorem al{c:Operand}{x y:Code}(hc:ev ρ c= .bool false)(h:W P n y Q ρ w):W P n (.cond c x y) Q ρ w:=
 fun a ha=>wp_cond_false (by rw[ha.eval];exact hc) (h a ha)
theorem bK{c:Operand}{x y:Code}{t:Bool}(hc:ev ρ c= .bool t)(ht:t=true → W P n x Q ρ w)(hf:t=false → W P n y Q ρ w):W P n (.cond c x y) Q ρ w:=by
 cases t
 · exact al hc (hf Z)
 · exact aB hc (ht Z)
theorem a6{id:Nat}{c:Code}(h:W P n c (pI id Q) ρ w):W P n (.block id c) Q ρ w:=fun a ha=>
 wp_block (wp_mono (h a ha) fun e a w ⟨ρ,hs,hq⟩=>by
  cases e with
  |exit id'=>
   simp only[pI]at hq
   simp only[Exit.inBlock]
   split
   · rename_i hid;rw[if_pos hid]at hq;exact⟨ρ,hs,hq⟩
   · rename_i hid;rw[if_neg hid]at hq;exact⟨ρ,hs,hq⟩
  | _=>exact⟨ρ,hs,hq⟩)
theorem bA{c:Code}(I:dv → World → Prop)(μ:dv → World → Nat)(h₀:I ρ w)
 (round: ∀ρ w,I ρ w → W P n c (jv (fun ρ' w'=>I ρ' w'∧μ ρ' w'<μ ρ w) Q) ρ w):W P n (.loop c) Q ρ w:=by
 intro a ha
 let en:Act → dv:=fun a t=>a.tmps.getD t undef
 have hen: ∀ {a:Act} {ρ:dv},Sim n a ρ → en a=ρ:=fun h=>funext h.get
 refine wp_loop (fun a w=>Sim n a (en a)∧I (en a) w) (fun a w=>μ (en a) w) ⟨by rw[hen ha];exact ha,by rw[hen ha];exact h₀⟩ ?_
 rintro a w ⟨hs,hI⟩
 refine wp_mono (round _ w hI a hs) fun e a' w' ⟨ρ',hs',hq⟩=> ?_
 cases e with
 |normal=>exact⟨⟨by rw[hen hs'];exact hs',by rw[hen hs'];exact hq.1⟩,by rw[hen hs'];exact hq.2⟩
 | _=>exact⟨ρ',hs',hq⟩
theorem eh{x y:Code}(Mid:dv → World → Prop)(h:W P n x (jv Mid Q) ρ w)(k: ∀ρ w,Mid ρ w → W P n y Q ρ w):W P n (.seq x y) Q ρ w:=
 ad (xu h fun e ρ w hq=>by cases e<;>first|exact k _ _ hq|exact hq)
def A6(args:List Value):dv:=fun t=>args.getD t undef
theorem sZ{f:FuncId}{fn:Func}{c:Code}{args:Array Value}{R:Ending → World → Prop}(hf:P.funcs[f]? =some fn)(hb:fn.body=some c)(hn:args.size≤fn.ntmps)
 (h:W P fn.ntmps c (fun e ρ w'=>(e= .normal∨e= .ret)∧∃v,(∀tmps:Array Value,(∀t,tmps.getD t undef=ρ t) → (results fn tmps).run P w'= .ok v w')∧R (.returned v) w') (A6 args.toList) w):Calls P f args w R:=by
 refine calls_of_wp hf hb (wp_mono (h _ ⟨?_,Z,fun t=> ?_⟩) ?_)
 · simp;omega
 · simp only[A6,List.getD_eq_getElem?_getD,Array.getElem?_toList]
   rw[Array.getD_eq_getD_getElem?,Array.getElem?_append]
   split
   · rfl
   · rename_i h1
     rw[Array.getElem?_eq_none (Nat.le_of_not_lt h1),Array.getElem?_replicate]
     split<;>rfl
 · rintro e a w' ⟨ρ',hs,he,v,hr,hR⟩
   rcases he with rfl|rfl
   · exact⟨hs.defers,v,hr _ hs.get,hR⟩
   · exact⟨hs.defers,v,hr _ hs.get,hR⟩
theorem res1{fn:Func}{t:Tmp}(h:fn.results=#[.tmp t]){ρ:dv}{v:Value}(hv:ρ t=v)(P:Program)(w:World):
 ∀tmps:Array Value,(∀t,tmps.getD t undef=ρ t) → (results fn tmps).run P w= .ok v w:=fun tmps ht=>by
 rw[results_tmp h,ht,hv]
theorem res2{fn:Func}{t u:Tmp}(h:fn.results=#[.tmp t,.tmp u]){ρ:dv}{v v':Value}(hv:ρ t=v)(hv':ρ u=v')(P:Program)(w:World):
 ∀tmps:Array Value,(∀t,tmps.getD t undef=ρ t) → (results fn tmps).run P w= .ok (.tuple #[v,v']) w:=fun tmps ht=>by
 rw[results_tmp2 h,ht,ht,hv,hv']
end
def WL(P:Program)(n:Nat)(ops:Array Oper)(l:List Oper)(Q:QE)(ρ:dv)(w:World):Prop:= ∀a,Sim n a ρ → wpList P ops (sS n Q) l a w
def Yv(P:Program)(o:Oper)(ρ:dv)(w:World)(v:Value)(w':World):Prop:=(execOp (ev ρ) o).run P w= .ok (.value v) w'
def Yn(P:Program)(o:Oper)(ρ:dv)(w w':World):Prop:=(execOp (ev ρ) o).run P w= .ok .skip w'
def Ye(P:Program)(o:Oper)(ρ:dv)(w:World)(f:FuncId)(args:Array Value)(w':World):Prop:=(execOp (ev ρ) o).run P w= .ok (.enter f args) w'
def nb(ops:Array Oper)(ρ:dv)(n:Nat)(j:Nat):Option Bool:=
 match (ops[j]?).bind (·.dst)with
 |some d=>if d<n then(match ρ d with|.bool b=>some b| _=>none)else none
 |none=>none
theorem Sim.yielded{n:Nat}{a:Act}{ρ:dv}(h:Sim n a ρ)(ops:Array Oper)(j:Nat):yielded ops a.tmps j=nb ops ρ n j:=by
 unfold Go.yielded nb
 cases hd:(ops[j]?).bind (·.dst)with
 |none=>rfl
 |some d=>
  simp only[Option.bind_some]
  by_cases hlt:d<n
  · rw[if_pos hlt]
    have hlt':d<a.tmps.size:=by rw[h.size];exact hlt
    have:=h.get d
    rw[Array.getD_eq_getD_getElem?,Array.getElem?_eq_getElem hlt']at this
    simp only[Option.getD_some]at this
    rw[Array.getElem?_eq_getElem hlt',this]
    cases ρ d<;>rfl
  · rw[if_neg hlt]
    have:a.tmps[d]? =none:=Array.getElem?_eq_none (by rw[h.size];exact Nat.le_of_not_lt hlt)
    rw[this]
def dS(o:Oper)(ops:Array Oper)(ρ:dv)(n:Nat):Bool:=match o.guard with
 |none=>true
 |some (j,want)=>nb ops ρ n j==some want
theorem Sim.want{n:Nat}{a:Act}{ρ:dv}(h:Sim n a ρ)(o:Oper)(ops:Array Oper):Region.wanted o (Go.yielded ops a.tmps)=dS o ops ρ n:=by
 unfold Region.wanted dS
 cases o.guard with
 |none=>rfl
 |some p=>obtain⟨j,want⟩:=p;simp only[h.yielded]
section
variable{P:Program}{n:Nat}{Q:QE}{ρ:dv}{w:World}{ops:Array Oper}{l:List Oper}{o:Oper}
theorem ae{id:Nat}{l:List Oper}(h:WL P n l.toArray l Q ρ w):W P n (.region id l.toArray false) Q ρ w:=
 fun a ha=>wp_region_lit (h a ha)
theorem bk(h:Q .normal ρ w):WL P n ops [] Q ρ w:=fun _ ha=>wpList_nil ⟨ρ,ha,h⟩
theorem xw{v:Value}{w':World}(hw:dS o ops ρ n=true)(hd:gR n o.dst=true)(hy:Yv P o ρ w v w')(h:WL P n ops l Q (ee ρ o.dst v) w'):WL P n ops (o::l) Q ρ w:=fun a ha=>by
 unfold wpList
 rw[if_pos (by rw[ha.want];exact hw)]
 refine .inl ?_
 unfold Oper.wp
 rw[ha.eval,hy]
 exact h _ (ha.put hd v)
theorem WL_n'{w':World}(hw:dS o ops ρ n=true)(hd:gR n o.dst=true)(hy:Yn P o ρ w w')(h:WL P n ops l Q (ee ρ o.dst undef) w'):WL P n ops (o::l) Q ρ w:=fun a ha=>by
 unfold wpList
 rw[if_pos (by rw[ha.want];exact hw)]
 refine .inl ?_
 unfold Oper.wp
 rw[ha.eval,hy]
 exact h _ (ha.put hd undef)
theorem WL_e'{f:FuncId}{args:Array Value}{w':World}(hw:dS o ops ρ n=true)(hd:gR n o.dst=true)(hy:Ye P o ρ w f args w')
 (h:Calls P f args w' fun e w''=> ∃v,e= .returned v∧WL P n ops l Q (ee ρ o.dst v) w''):WL P n ops (o::l) Q ρ w:=fun a ha=>by
 unfold wpList
 rw[if_pos (by rw[ha.want];exact hw)]
 refine .inl ?_
 unfold Oper.wp
 rw[ha.eval,hy]
 refine Calls.mono h fun e w'' he=> ?_
 obtain⟨v,rfl,hk⟩:=he
 exact hk _ (ha.put hd v)
theorem WL_v{v:Value}{w':World}(hg:o.guard=none)(hd:gR n o.dst=true)(hy:Yv P o ρ w v w')(h:WL P n ops l Q (ee ρ o.dst v) w'):WL P n ops (o::l) Q ρ w:=
 xw (by unfold dS;rw[hg]) hd hy h
theorem WL_no(hw:dS o ops ρ n=false)(hd:gR n o.dst=true)(h:WL P n ops l Q (ee ρ o.dst undef) w):WL P n ops (o::l) Q ρ w:=fun a ha=>by
 unfold wpList
 rw[if_neg (by rw[ha.want,hw];simp)]
 exact h _ (ha.put hd undef)
end
inductive Plan where
 |done
 |take (i:Nat) (p:Plan)
 |run (i:Nat) (p:Plan)
 |run2 (i:Nat) (p:Plan) (j:Nat) (q:Plan)
 |run3 (i:Nat) (p:Plan) (j:Nat) (q:Plan) (k:Nat) (r:Plan)
def Plan.depth:Plan → Nat
 |.done=>0
 |.take _ p|.run _ p=>p.depth+1
 |.run2 _ p _ q=>max p.depth q.depth+1
 |.run3 _ p _ q _ r=>max p.depth (max q.depth r.depth)+1
def Plan.ok(ops:Array Oper):Plan → Array Bool → Bool
 |.done,l=>Region.ready .any ops l== []
 |.take i p,l=>Region.free .any ops l i && (Region.ready .any ops l).contains i && p.ok ops (l.setIfInBounds i true)
 |.run i p,l=>Region.ready .any ops l== [i] && p.ok ops (l.setIfInBounds i true)
 |.run2 i p j q,l=>Region.ready .any ops l== [i,j] && p.ok ops (l.setIfInBounds i true) && q.ok ops (l.setIfInBounds j true)
 |.run3 i p j q k r,l=>Region.ready .any ops l== [i,j,k] && p.ok ops (l.setIfInBounds i true) && q.ok ops (l.setIfInBounds j true) && r.ok ops (l.setIfInBounds k true)
def Plan.check(n:Nat)(ops:Array Oper)(p:Plan):Bool:=
 Region.noSelect ops && p.ok ops (Array.replicate ops.size false) && Nat.ble p.depth ops.size && ops.all fun o=>gR n o.dst
def qS(P:Program)(n:Nat)(ops:Array Oper)(i:Nat)(K:dv → World → Prop)(ρ:dv)(w:World):Prop:=
 ∃o,ops[i]? =some o∧((dS o ops ρ n=true∧
  ((∃v w',Yv P o ρ w v w'∧K (ee ρ o.dst v) w')∨(∃w',Yn P o ρ w w'∧K (ee ρ o.dst undef) w')∨
   (∃f args w',Ye P o ρ w f args w'∧Calls P f args w' fun e w''=> ∃v,e= .returned v∧K (ee ρ o.dst v) w'')))∨
  (dS o ops ρ n=false∧K (ee ρ o.dst undef) w))
def PW(P:Program)(n:Nat)(ops:Array Oper)(Q:QE)(S:World → Prop):Plan → dv → World → Prop
 |.done,ρ,w=>Q .normal ρ w
 |.take i p,ρ,w=>S w∧∃o v,ops[i]? =some o∧((dS o ops ρ n=true∧∀w,S w → Yv P o ρ w v w)∨(dS o ops ρ n=false∧v=undef))∧PW P n ops Q S p (ee ρ o.dst v) w
 |.run i p,ρ,w=>qS P n ops i (fun ρ' w'=>S w'∧PW P n ops Q S p ρ' w') ρ w
 |.run2 i p j q,ρ,w=>qS P n ops i (fun ρ' w'=>S w'∧PW P n ops Q S p ρ' w') ρ w∧qS P n ops j (fun ρ' w'=>S w'∧PW P n ops Q S q ρ' w') ρ w
 |.run3 i p j q k r,ρ,w=>qS P n ops i (fun ρ' w'=>S w'∧PW P n ops Q S p ρ' w') ρ w∧qS P n ops j (fun ρ' w'=>S w'∧PW P n ops Q S q ρ' w') ρ w∧
  qS P n ops k (fun ρ' w'=>S w'∧PW P n ops Q S r ρ' w') ρ w
section
variable{P:Program}{n:Nat}{Q:QE}{ρ:dv}{w:World}{ops:Array Oper}{o:Oper}{S:World → Prop}
theorem fj{i:Nat}{K:dv → World → Prop}{K':Act → World → Prop}{Q':Exit → Act → World → Prop}(hall:(ops.all fun o=>gR n o.dst)=true){a:Act}(ha:Sim n a ρ)
 (hK: ∀a ρ w,Sim n a ρ → K ρ w → K' a w) (h:qS P n ops i K ρ w):wpOp P ops Q' i K' a w:=by
 obtain⟨o,ho,h⟩:=h
 have hd:gR n o.dst=true:=by
  rw[Array.all_eq_true]at hall
  obtain⟨hlt,he⟩:=Array.getElem?_eq_some_iff.1 ho
  have:=hall i hlt
  rwa [he]at this
 unfold wpOp
 simp only[ho]
 rw[ha.want]
 rcases h with⟨hw,h⟩|⟨hw,h⟩
 · rw[hw,if_pos rfl]
   refine .inl ?_
   unfold Oper.wp
   rw[ha.eval]
   rcases h with⟨v,w',hy,hk⟩|⟨w',hy,hk⟩|⟨f,args,w',hy,hk⟩
   · rw[hy];exact hK _ _ _ (ha.put hd v) hk
   · rw[hy];exact hK _ _ _ (ha.put hd undef) hk
   · rw[hy]
     refine Calls.mono hk fun e w'' he=> ?_
     obtain⟨v,rfl,hk'⟩:=he
     exact hK _ _ _ (ha.put hd v) hk'
 · rw[hw,if_neg (by simp)]
   exact hK _ _ _ (ha.put hd undef) h
theorem yp(hs:Region.noSelect ops=true)(hall:(ops.all fun o=>gR n o.dst)=true):
 ∀(p:Plan) (listed:Array Bool) (fuel:Nat) (ρ:dv) (w:World) (a:Act),p.ok ops listed=true → p.depth≤fuel → Sim n a ρ → PW P n ops Q S p ρ w → wpAnyH P .any ops (NoPanic (sS n Q)) S fuel listed a w:=by
 intro p
 induction p with
 |done=>
  intro listed fuel ρ w a hok _ ha h
  exact wpAnyH_done (by simpa[Plan.ok]using hok) ⟨ρ,ha,h⟩ fuel
 |take i p ih=>
  intro listed fuel ρ w a hok hdep ha h
  obtain⟨fuel,rfl⟩: ∃m,fuel=m+1:=⟨fuel- 1,by simp[Plan.depth]at hdep;omega⟩
  simp only[Plan.ok,Bool.and_eq_true]at hok
  obtain⟨⟨hf,hr⟩,hok⟩:=hok
  obtain⟨hS,o,v,ho,hy,hk⟩:=h
  have hd:gR n o.dst=true:=by
   rw[Array.all_eq_true]at hall
   obtain⟨hlt,he⟩:=Array.getElem?_eq_some_iff.1 ho
   have:=hall i hlt
   rwa [he]at this
  refine wpAnyH_take ho hs hf hr (fun c a w h=>h) ?_ hS (ih _ fuel _ w _ hok (by simp[Plan.depth]at hdep;omega) (ha.put hd v) hk)
  unfold YieldsIf
  rw[ha.want,ha.eval]
  exact hy
 |run i p ih=>
  intro listed fuel ρ w a hok hdep ha h
  obtain⟨fuel,rfl⟩: ∃m,fuel=m+1:=⟨fuel- 1,by simp[Plan.depth]at hdep;omega⟩
  simp only[Plan.ok,Bool.and_eq_true,beq_iff_eq]at hok
  obtain⟨hr,hok⟩:=hok
  refine wpAnyH_all hr (by simp) fun k hk=> ?_
  obtain rfl:k=i:=by simpa using hk
  exact fj hall ha (fun a ρ w hs h=>⟨h.1,ih _ fuel ρ w a hok (by simp[Plan.depth]at hdep;omega) hs h.2⟩) h
 |run2 i p j q ihp ihq=>
  intro listed fuel ρ w a hok hdep ha h
  obtain⟨fuel,rfl⟩: ∃m,fuel=m+1:=⟨fuel- 1,by simp[Plan.depth]at hdep;omega⟩
  simp only[Plan.ok,Bool.and_eq_true,beq_iff_eq]at hok
  obtain⟨⟨hr,hok1⟩,hok2⟩:=hok
  refine wpAnyH_all hr (by simp) fun k hk=> ?_
  simp only[List.mem_cons,List.not_mem_nil,or_false]at hk
  rcases hk with rfl|rfl
  · exact fj hall ha (fun a ρ w hs h=>⟨h.1,ihp _ fuel ρ w a hok1 (by simp[Plan.depth]at hdep;omega) hs h.2⟩) h.1
  · exact fj hall ha (fun a ρ w hs h=>⟨h.1,ihq _ fuel ρ w a hok2 (by simp[Plan.depth]at hdep;omega) hs h.2⟩) h.2
 |run3 i p j q k r ihp ihq ihr=>
  intro listed fuel ρ w a hok hdep ha h
  obtain⟨fuel,rfl⟩: ∃m,fuel=m+1:=⟨fuel- 1,by simp[Plan.depth]at hdep;omega⟩
  simp only[Plan.ok,Bool.and_eq_true,beq_iff_eq]at hok
  obtain⟨⟨⟨hr,hok1⟩,hok2⟩,hok3⟩:=hok
  refine wpAnyH_all hr (by simp) fun x hx=> ?_
  simp only[List.mem_cons,List.not_mem_nil,or_false]at hx
  rcases hx with rfl|rfl|rfl
  · exact fj hall ha (fun a ρ w hs h=>⟨h.1,ihp _ fuel ρ w a hok1 (by simp[Plan.depth]at hdep;omega) hs h.2⟩) h.1
  · exact fj hall ha (fun a ρ w hs h=>⟨h.1,ihq _ fuel ρ w a hok2 (by simp[Plan.depth]at hdep;omega) hs h.2⟩) h.2.1
  · exact fj hall ha (fun a ρ w hs h=>⟨h.1,ihr _ fuel ρ w a hok3 (by simp[Plan.depth]at hdep;omega) hs h.2⟩) h.2.2
theorem bZ{id:Nat}(hm:P.follows .mixedOrders=true)(S:World → Prop)(p:Plan)(hc:Plan.check n ops p=true)(h:PW P n ops Q S p ρ w.drew):W P n (.region id ops true) Q ρ w:=fun a ha=>by
 simp only[Plan.check,Bool.and_eq_true]at hc
 obtain⟨⟨⟨h1,h2⟩,h3⟩,h4⟩:=hc
 exact wp_region_noPanic (wp_region_held hm (yp h1 h4 p _ ops.size ρ w.drew a h2 (Nat.le_of_ble_eq_true h3) ha h))
theorem bC(h:Q .normal ρ w):PW P n ops Q S .done ρ w:=h
theorem z5{i:Nat}{p:Plan}{v:Value}(hS:S w)(ho:ops[i]? =some o)(hg:o.guard=none)(hy: ∀w,S w → Yv P o ρ w v w)(h:PW P n ops Q S p (ee ρ o.dst v) w):PW P n ops Q S (.take i p) ρ w:=
 ⟨hS,o,v,ho,.inl ⟨by unfold dS;rw[hg],hy⟩,h⟩
end
open Go Go.RowKit
structure Keep (w0 : World) (M : Nat → Prop) (w : World) : Prop where
 os:w.os=w0.os
 tape:w.tape=w0.tape
 output:w.output=w0.output
 size:w0.heap.size≤w.heap.size
 block: ∀k,k<w0.heap.size → ¬M k → w.heap[k]? =w0.heap[k]?
def aR:Nat → Prop:=fun _=>False
theorem Keep.refl(w:World)(M:Nat → Prop):Keep w M w:=⟨rfl,rfl,rfl,Nat.le_refl _,fun _ _ _=>rfl⟩
theorem Keep.trans{a b c:World}{M M':Nat → Prop}(h:Keep a M b)(k:Keep b M' c)(hM: ∀g,g<a.heap.size → M' g → M g):Keep a M c:=
 ⟨k.os.trans h.os,k.tape.trans h.tape,k.output.trans h.output,Nat.le_trans h.size k.size,fun i hi hn=>
  (k.block i (Nat.lt_of_lt_of_le hi h.size) (fun hm=>hn (hM i hi hm))).trans (h.block i hi hn)⟩
theorem Keep.below{w w':World}(h:Keep w aR w'):Below w.heap.size w w':=⟨h.os,h.tape,h.output,h.size,fun k hk=>h.block k hk (fun x=>x)⟩
theorem Keep.mono{w w':World}{M M':Nat → Prop}(h:Keep w M w')(hM: ∀g,g<w.heap.size → M g → M' g):Keep w M' w':=
 ⟨h.os,h.tape,h.output,h.size,fun k hk hn=>h.block k hk (fun hm=>hn (hM k hk hm))⟩
theorem aG{w:World}{g:Nat}{o:Obj}(h:w.heap[g]? =some o):g<w.heap.size:=(Array.getElem?_eq_some_iff.1 h).1
theorem Keep.get{w w':World}{M:Nat → Prop}(h:Keep w M w'){g:Nat}{o:Obj}(ho:w.heap[g]? =some o)(hM: ¬M g):w'.heap[g]? =some o:=
 (h.block g (aG ho) hM).trans ho
theorem Keep.drew{w w':World}{M:Nat → Prop}(h:Keep w M w'):Keep w M w'.drew:=⟨h.os,h.tape,h.output,h.size,h.block⟩
structure Res where
 F:Nat → Prop
 φ:World → Prop
 live: ∀w g,φ w → F g → g<w.heap.size
 stay: ∀w w',φ w → (∀g,F g → w'.heap[g]? =w.heap[g]?) → φ w'
def an(g:Nat)(cs:List Value)(T:TypeId):Res where
 F:=fun k=>k=g
 φ:=fun w=>w.heap[g]? =some (.cells cs.toArray T (0,0))
 live:=fun w k h hk=>by subst hk;exact aG h
 stay:=fun w w' h hk=>(hk g rfl).trans h
structure St (w0 : World) (M : Nat → Prop) (L : List Res) (w : World) : Prop where
 keep:Keep w0 M w
 all: ∀r ∈ L,r.φ w
 own: ∀r ∈ L,∀g,r.F g → M g∨w0.heap.size≤g
 sep:L.Pairwise fun r s=> ∀g,r.F g → ¬s.F g
section
variable{w0 w w':World}{M:Nat → Prop}{L:List Res}{i g k:Nat}{cs:List Value}{T:TypeId}{v:Value}{r s:Res}
theorem St.nil(w:World)(M:Nat → Prop):St w M [] w:=⟨Keep.refl _ _,by simp,by simp,.nil⟩
theorem St.add(h:St w M L w)(r:Res)(hr:r.φ w)(hM: ∀g,r.F g → M g)(hs: ∀s ∈ L,∀g,r.F g → ¬s.F g):St w M (r::L) w:=
 ⟨h.keep,by
  rintro x (_|⟨_,hx⟩)
  · exact hr
  · exact h.all _ hx,by
  rintro x (_|⟨_,hx⟩) g hg
  · exact .inl (hM g hg)
  · exact h.own _ hx g hg,.cons hs h.sep⟩
theorem fW{L:List Res}{i:Nat}{r:Res}(hi:L[i]? =some r):r ∈ L:=List.mem_of_getElem? hi
theorem St.get(h:St w0 M L w)(hi:L[i]? =some r):r.φ w:=h.all _ (fW hi)
theorem St.heap(h:St w0 M L w)(hi:L[i]? =some (an g cs T)):w.heap[g]? =some (.cells cs.toArray T (0,0)):=h.get hi
theorem St.lt(h:St w0 M L w)(hi:L[i]? =some (an g cs T)):g<w.heap.size:=aG (h.heap hi)
theorem cZ{w:World}{g k:Nat}{cs:List Value}{T:TypeId}{fr:Nat × Nat}{v:Value}(h:w.heap[g]? =some (.cells cs.toArray T fr))(hk:cs[k]? =some v):w.cell? ⟨g,k,none⟩=some v:=by
 simp[World.cell?,h,hk]
theorem St.cell(h:St w0 M L w)(hi:L[i]? =some (an g cs T))(hk:cs[k]? =some v):w.cell? ⟨g,k,none⟩=some v:=cZ (h.heap hi) hk
theorem St.frozen(h:St w0 M L w)(hi:L[i]? =some (an g cs T))(k:Nat):w.frozen? ⟨g,k,none⟩=false:=by
 simp[World.frozen?,h.heap hi]
theorem St.ne(h:St w0 M L w){j:Nat}(hi:L[i]? =some r)(hj:L[j]? =some s)(hij:i<j)(hg:r.F g): ¬s.F g:=by
 have hil:i<L.length:=(List.getElem?_eq_some_iff.1 hi).1
 have hjl:j<L.length:=(List.getElem?_eq_some_iff.1 hj).1
 have:=List.pairwise_iff_getElem.1 h.sep i j hil hjl hij g
 rw[(List.getElem?_eq_some_iff.1 hi).2,(List.getElem?_eq_some_iff.1 hj).2]at this
 exact this hg
theorem St.blk_ne(h:St w0 M L w){j g':Nat}{cs':List Value}{T':TypeId}(hi:L[i]? =some (an g cs T))(hj:L[j]? =some (an g' cs' T'))(hij:i<j):g≠g':=fun e=>h.ne hi hj hij rfl e
theorem pV{α:Type}{R:α → α → Prop}{L:List α}{i:Nat}{r r':α}(h:L.Pairwise R)(hi:L[i]? =some r)(h1: ∀x,R x r → R x r')(h2: ∀x,R r x → R r' x):(L.set i r').Pairwise R:=by
 induction L generalizing i with
 |nil=>simp at hi
 |cons x l ih=>
  rw[List.pairwise_cons]at h
  cases i with
  |zero=>
   have hx:x=r:=by simpa using hi
   subst hx
   simp only[List.set_cons_zero,List.pairwise_cons]
   exact⟨fun y hy=>h2 y (h.1 y hy),h.2⟩
  |succ i=>
   simp only[List.getElem?_cons_succ]at hi
   simp only[List.set_cons_succ,List.pairwise_cons]
   refine⟨fun y hy=> ?_,ih h.2 hi⟩
   rcases List.mem_or_eq_of_mem_set hy with hy|rfl
   · exact h.1 y hy
   · exact h1 x (h.1 r (List.mem_of_getElem? hi))
theorem St.set_(h:St w0 M L w){r r':Res}(hi:L[i]? =some r)(hF: ∀g,r'.F g ↔ r.F g)(hφ:r'.φ w')(hk:Keep w0 M w')(hsz:w.heap.size≤w'.heap.size)(hb: ∀g,g<w.heap.size → ¬r.F g → w'.heap[g]? =w.heap[g]?):St w0 M (L.set i r') w':=by
 refine⟨hk,fun x hx=> ?_,fun x hx g hg=> ?_,pV h.sep hi (fun x hx g hg hg'=>hx g hg ((hF g).1 hg')) (fun x hx g hg=>hx g ((hF g).1 hg))⟩
 · obtain⟨j,hj⟩:=List.getElem?_of_mem hx
   rw[List.getElem?_set]at hj
   split at hj
   · split at hj
     · simp only[Option.some.injEq]at hj;subst hj;exact hφ
     · cases hj
   · rename_i hij
     refine x.stay w _ (h.get hj) fun g hg=>hb g (x.live _ _ (h.get hj) hg) fun hr=> ?_
     rcases Nat.lt_or_gt_of_ne hij with h1|h1
     · exact h.ne hi hj h1 hr hg
     · exact h.ne hj hi h1 hg hr
 · rcases List.mem_or_eq_of_mem_set hx with hx|rfl
   · exact h.own x hx g hg
   · exact h.own r (fW hi) g ((hF g).1 hg)
theorem l0{w:World}{g k:Nat}{cs:List Value}{T:TypeId}(h:w.heap[g]? =some (.cells cs.toArray T (0,0)))(v:Value):
 (w.setCell ⟨g,k,none⟩ v).heap[g]? =some (.cells (cs.set k v).toArray T (0,0)):=by
 simp[World.setCell,Array.getElem?_modify,h]
theorem i9{w:World}{g:Nat}{a:Addr}(hne:g≠a.block)(v:Value):(w.setCell a v).heap[g]? =w.heap[g]?:=Below.heap_setCell w a v g hne
theorem lq(w:World)(a:Addr)(v:Value):(w.setCell a v).heap.size=w.heap.size:=by simp[World.setCell]
theorem St.store(h:St w0 M L w)(hi:L[i]? =some (an g cs T))(k:Nat)(v:Value):St w0 M (L.set i (an g (cs.set k v) T)) (w.setCell ⟨g,k,none⟩ v):=by
 refine h.set_ hi (fun _=>Iff.rfl) (l0 (h.heap hi) v) ?_ (by rw[lq];exact Nat.le_refl _) fun g' _ hg'=>i9 (a:=⟨g,k,none⟩) hg' v
 refine Keep.trans h.keep (M':=fun k=>k=g) ⟨Z,Z,Z,by rw[lq];exact Nat.le_refl _,fun j _ hj=>i9 (a:=⟨g,k,none⟩) hj v⟩ ?_
 rintro j hj rfl
 rcases h.own _ (fW hi) _ rfl with hM|hM
 · exact hM
 · omega
theorem eU{w:World}{g:Nat}(o:Obj)(h:g<w.heap.size):(w.alloc o).heap[g]? =w.heap[g]?:=Below.heap_alloc w o g h
theorem St.new(h:St w0 M L w)(cs:List Value)(T:TypeId):St w0 M (an w.heap.size cs T::L) (w.alloc (.cells cs.toArray T)):=by
 have hk:Keep w0 M (w.alloc (.cells cs.toArray T)):=Keep.trans h.keep (M':=aR) ⟨rfl,rfl,rfl,by simp,fun j hj _=>eU _ hj⟩ (fun _ _ hf=>hf.elim)
 refine⟨hk,?_,?_,.cons ?_ h.sep⟩
 · rintro x (_|⟨_,hx⟩)
   · show(w.alloc _).heap[w.heap.size]? = _
     exact heap_alloc_new w _
   · exact x.stay w _ (h.all x hx) fun g hg=>eU _ (x.live _ _ (h.all x hx) hg)
 · rintro x (_|⟨_,hx⟩) g hg
   · have hg':g=w.heap.size:=hg
     exact .inr (by rw[hg'];exact h.keep.size)
   · exact h.own x hx g hg
 · intro s hs g hg hsg
   have hg':g=w.heap.size:=hg
   have:=s.live _ _ (h.all s hs) hsg
   omega
theorem St.drew(h:St w0 M L w):St w0 M L w.drew:=⟨h.keep.drew,fun r hr=>r.stay w _ (h.all r hr) fun _ _=>rfl,h.own,h.sep⟩
theorem St.sub(h:St w0 M L w){L':List Res}(hs:L'.Sublist L):St w0 M L' w:=⟨h.keep,fun r hr=>h.all r (hs.subset hr),fun r hr=>h.own r (hs.subset hr),h.sep.sublist hs⟩
theorem St.drop(h:St w0 M L w)(i:Nat):St w0 M (L.eraseIdx i) w:=h.sub (List.eraseIdx_sublist _ _)
theorem St.call0(h:St w0 M L w){L1:List Res}(hc:St w aR L1 w'):St w0 M (L1++L) w':=by
 refine⟨h.keep.trans hc.keep (fun _ _ hf=>hf.elim),?_,?_,List.pairwise_append.2 ⟨hc.sep,h.sep,?_⟩⟩
 · intro r hr
   rcases List.mem_append.1 hr with hr|hr
   · exact hc.all r hr
   · exact r.stay w w' (h.all r hr) fun g hg=>hc.keep.block g (r.live _ _ (h.all r hr) hg) (fun x=>x)
 · intro r hr g hg
   rcases List.mem_append.1 hr with hr|hr
   · rcases hc.own r hr g hg with hf|hf
     · exact hf.elim
     · exact .inr (Nat.le_trans h.keep.size hf)
   · exact h.own r hr g hg
 · intro r hr s hs g hg hsg
   rcases hc.own r hr g hg with hf|hf
   · exact hf
   · have:=s.live _ _ (h.all s hs) hsg
     omega
theorem gv{L:List Res}{i:Nat}{r s:Res}(h:L.Pairwise fun r s=> ∀g,r.F g → ¬s.F g)(hi:L[i]? =some r)(hs:s ∈ L.eraseIdx i): ∀g,r.F g → ¬s.F g:=by
 induction L generalizing i with
 |nil=>simp at hi
 |cons x l ih=>
  rw[List.pairwise_cons]at h
  cases i with
  |zero=>
   have hx:x=r:=by simpa using hi
   subst hx
   simp only[List.eraseIdx_cons_zero]at hs
   exact h.1 s hs
  |succ i=>
   simp only[List.getElem?_cons_succ]at hi
   simp only[List.eraseIdx_cons_succ,List.mem_cons]at hs
   rcases hs with rfl|hs
   · exact fun g hr hg=>h.1 r (List.mem_of_getElem? hi) g hg hr
   · exact ih h.2 hi hs
theorem St.call1(h:St w0 M L w){L1:List Res}{M':Nat → Prop}(hi:L[i]? =some r)(hc:St w M' L1 w')(hM: ∀g,M' g → r.F g):St w0 M (L1++L.eraseIdx i) w':=by
 have hsep: ∀s ∈ L.eraseIdx i,∀g,r.F g → ¬s.F g:=fun s hs=>gv h.sep hi hs
 have hsub: ∀s ∈ L.eraseIdx i,s ∈ L:=fun s hs=>(List.eraseIdx_sublist _ _).subset hs
 refine⟨h.keep.trans hc.keep ?_,?_,?_,List.pairwise_append.2 ⟨hc.sep,h.sep.sublist (List.eraseIdx_sublist _ _),?_⟩⟩
 · intro g hg hm
   rcases h.own r (fW hi) g (hM g hm)with h1|h1
   · exact h1
   · omega
 · intro x hx
   rcases List.mem_append.1 hx with hx|hx
   · exact hc.all x hx
   · exact x.stay w w' (h.all x (hsub x hx)) fun g hg=>hc.keep.block g (x.live _ _ (h.all x (hsub x hx)) hg) (fun hm=>hsep x hx g (hM g hm) hg)
 · intro x hx g hg
   rcases List.mem_append.1 hx with hx|hx
   · rcases hc.own x hx g hg with hf|hf
     · exact h.own r (fW hi) g (hM g hf)
     · exact .inr (Nat.le_trans h.keep.size hf)
   · exact h.own x (hsub x hx) g hg
 · intro x hx s hs g hg hsg
   rcases hc.own x hx g hg with hf|hf
   · exact hsep s hs g (hM g hf) hsg
   · have:=s.live _ _ (h.all s (hsub s hs)) hsg
     omega
def oJ(r s:Res):Res where
 F:=fun g=>r.F g∨s.F g
 φ:=fun w=>r.φ w∧s.φ w
 live:=fun w g h hg=>hg.elim (r.live w g h.1) (s.live w g h.2)
 stay:=fun w w' h hk=>⟨r.stay w w' h.1 fun g hg=>hk g (.inl hg),s.stay w w' h.2 fun g hg=>hk g (.inr hg)⟩
theorem St.join(h:St w0 M L w){j:Nat}(hi:L[i]? =some r)(hj:(L.eraseIdx i)[j]? =some s):St w0 M (oJ r s::(L.eraseIdx i).eraseIdx j) w:=by
 have hsep: ∀x ∈ L.eraseIdx i,∀g,r.F g → ¬x.F g:=fun x hx=>gv h.sep hi hx
 have h':=h.drop i
 have hsub: ∀x ∈ (L.eraseIdx i).eraseIdx j,x ∈ L.eraseIdx i:=fun x hx=>(List.eraseIdx_sublist _ _).subset hx
 have h2:=h'.drop j
 refine⟨h.keep,?_,?_,.cons ?_ h2.sep⟩
 · rintro x (_|⟨_,hx⟩)
   · exact⟨h.get hi,h'.get hj⟩
   · exact h2.all x hx
 · rintro x (_|⟨_,hx⟩) g hg
   · rcases hg with hg|hg
     · exact h.own r (fW hi) g hg
     · exact h'.own s (fW hj) g hg
   · exact h2.own x hx g hg
 · intro x hx g hg
   rcases hg with hg|hg
   · exact hsep x (hsub x hx) g hg
   · exact gv h'.sep hj hx g hg
theorem St.call2(h:St w0 M L w){L1:List Res}{M':Nat → Prop}{j:Nat}(hi:L[i]? =some r)(hj:(L.eraseIdx i)[j]? =some s)(hc:St w M' L1 w')(hM: ∀g,M' g → r.F g∨s.F g):
 St w0 M (L1++(L.eraseIdx i).eraseIdx j) w':=(h.join hi hj).call1 (i:=0) rfl hc hM
theorem St.cal0(h:St w0 M L w){L1 L':List Res}(hc:St w aR L1 w')(hL:L1++L=L':=by first|(simp only[List.cons_append,List.nil_append];rfl)|rfl):St w0 M L' w':=hL▸h.call0 hc
theorem St.old(h:St w0 M L w){o:Obj}(ho:w0.heap[g]? =some o)(hM: ¬M g):w.heap[g]? =some o:=h.keep.get ho hM
end
section
variable{P:Program}{ρ:dv}{w:World}{d:Option Tmp}{ty:TypeId}{pos:String}{af:Array Edge}{gd:Option (Nat × Bool)}
theorem am{x:Operand}{v:Value}(h:ev ρ x=v):Yv P ⟨d,.move x,ty,pos,af,gd⟩ ρ w v w:=by subst h;rfl
theorem bd{x:Operand}{v:Value}(h:ev ρ x=v):Yv P ⟨d,.assign x,ty,pos,af,gd⟩ ρ w v w:=by subst h;rfl
theorem aD{c x y:Operand}{b:Bool}{v:Value}(h:ev ρ c= .bool b)(hv:(if b=true then ev ρ x else ev ρ y)=v):Yv P ⟨d,.pick c x y,ty,pos,af,gd⟩ ρ w v w:=by
 subst hv;unfold Yv;simp[execOp,h,asBool]
theorem ah{x:Operand}{a:Addr}(h:ev ρ x= .pointer (some a)):Yv P ⟨d,.nilCheck x,ty,pos,af,gd⟩ ρ w (.pointer (some a)) w:=by
 unfold Yv;simp[execOp,h]
theorem bp{x:Operand}{name:String}{t:TypeId}{u:Value}{cp:Array Value}(h:ev ρ x= .func (.method name) #[.iface t u] cp)
 (hn:(nilAhead (P.types.size+Made.depth) t u name).run P w= .ok (some false) w):Yv P ⟨d,.nilCheck x,ty,pos,af,gd⟩ ρ w (.func (.method name) #[.iface t u] cp) w:=by
 unfold Yv;simp[execOp,h,hn]
theorem sE{fn:Fn}{fs cs:Array Operand}:Yv P ⟨d,.makeFunc fn fs cs,ty,pos,af,gd⟩ ρ w (.func fn (fs.map (ev ρ)) (cs.map (ev ρ))) w:=rfl
theorem aJ{t:TypeId}{x:Operand}{v:Value}(ht:P.concrete t=true)(h:ev ρ x=v):Yv P ⟨d,.makeInterface t x,ty,pos,af,gd⟩ ρ w (.iface t v) w:=by
 subst h;unfold Yv;simp[execOp,run_makeInterface,ht]
theorem aE{t:Operand}{i:Nat}{vs:Array Value}{v:Value}(h:ev ρ t= .tuple vs)(hv:vs[i]? =some v):Yv P ⟨d,.extract t i,ty,pos,af,gd⟩ ρ w v w:=by
 unfold Yv;simp[execOp,h,Instr.extract,hv]
def mZ(P:Program)(s f off:Nat):Prop:= ∃fs fd,P.underlying s=some (.struct fs)∧fs[f]? =some fd∧fd.offset=off∧∃i,P.info? fd.type=some i∧i.size≠0
def sV(P:Program)(s f off:Nat):Bool:=match P.underlying s with
 |some (.struct fs)=>match fs[f]? with
  |some fd=>fd.offset==off && (match P.info? fd.type with|some i=>i.size !=0|none=>false)
  |none=>false
 | _=>false
theorem sW{s f off:Nat}(h:sV P s f off=true):mZ P s f off:=by
 unfold sV at h
 split at h
 · rename_i fs hs
   split at h
   · rename_i fd hf
     simp only[Bool.and_eq_true,beq_iff_eq]at h
     obtain⟨h1,h2⟩:=h
     split at h2
     · rename_i i hi;exact⟨fs,fd,hs,hf,h1,i,hi,by simpa using h2⟩
     · cases h2
   · cases h
 · cases h
theorem ab{s f off:Nat}{x:Operand}{g o:Nat}(hf:mZ P s f off)(h:ev ρ x= .pointer (some ⟨g,o,none⟩)):Yv P ⟨d,.fieldAddr s x f,ty,pos,af,gd⟩ ρ w (.pointer (some ⟨g,o+off,none⟩)) w:=by
 obtain⟨fs,fd,h1,h2,rfl,i,h3,h4⟩:=hf
 have:(⟨g,o,none⟩:Addr).add fd.offset=⟨g,o+fd.offset,none⟩:=by unfold Addr.add;split<;>simp_all
 unfold Yv;simp[execOp,Instr.fieldAt,run_underlying h1,h2,h,Instr.sureAddr,fieldPlace,sizeOf,typeInfo,h3,h4,this]
def cJ(P:Program)(t e sz:Nat):Prop:=P.underlying t=some (.slice e)∧∃i,P.info? e=some i∧i.size=sz
def wO(P:Program)(t e sz:Nat):Bool:=match P.underlying t with
 |some (.slice e')=>e'==e && (match P.info? e with|some i=>i.size==sz|none=>false)
 | _=>false
theorem bX{t e sz:Nat}(h:wO P t e sz=true):cJ P t e sz:=by
 unfold wO at h
 split at h
 · rename_i e' hs
   simp only[Bool.and_eq_true,beq_iff_eq]at h
   obtain⟨rfl,h2⟩:=h
   split at h2
   · rename_i i hi;exact⟨hs,i,hi,by simpa using h2⟩
   · cases h2
 · cases h
theorem cH(g o n:Nat):(⟨g,o,none⟩:Addr).add n=⟨g,o+n,none⟩:=by unfold Addr.add;split<;>simp_all
theorem aK{t e sz:Nat}{x ix:Operand}{a:Addr}{len cap:Nat}{k:IntKind}{i:Int}(ht:cJ P t e sz)(h:ev ρ x= .slice (some a) len cap)(hi:ev ρ ix= .int k i)(h0:0≤i)(h1:i<len):
 Yv P ⟨d,.indexAddr t x ix,ty,pos,af,gd⟩ ρ w (.pointer (some (a.add (i.toNat*sz)))) w:=by
 obtain⟨h2,j,h3,rfl⟩:=ht
 unfold Yv;simp[execOp,Instr.indexAt,h,hi,asIntOf,run_underlying h2,sizeOf,typeInfo,h3,h0,h1]
def na(P:Program)(t n e sz:Nat):Prop:=P.underlying t=some (.array n e)∧∃i,P.info? e=some i∧i.size=sz
def xo(P:Program)(t n e sz:Nat):Bool:=match P.underlying t with
 |some (.array n' e')=>n'==n && e'==e && (match P.info? e with|some i=>i.size==sz|none=>false)
 | _=>false
theorem ox{t n e sz:Nat}(h:xo P t n e sz=true):na P t n e sz:=by
 unfold xo at h
 split at h
 · rename_i n' e' hs
   simp only[Bool.and_eq_true,beq_iff_eq]at h
   obtain⟨⟨rfl,rfl⟩,h2⟩:=h
   split at h2
   · rename_i i hi;exact⟨hs,i,hi,by simpa using h2⟩
   · cases h2
 · cases h
def pL(ρ:dv)(o:Option Operand)(dflt:Nat)(n:Nat):Prop:=match o with
 |none=>n=dflt
 |some x=> ∃k i,ev ρ x= .int k i∧0≤i∧i.toNat=n
theorem bu(ρ:dv)(n:Nat):pL ρ none n n:=rfl
theorem bh{ρ:dv}{x:Operand}{dflt n:Nat}{k:IntKind}{i:Int}(h:ev ρ x= .int k i)(h0:0≤i)(hn:i.toNat=n):pL ρ (some x) dflt n:=⟨k,i,h,h0,hn⟩
theorem kN{isSlice:Bool}{len cap l h:Nat}{lo hi:Option Operand}(hl:pL ρ lo 0 l)(hh:pL ρ hi len h)(h1:l≤h)(h2:h≤cap)(h3:hi=none → h≤cap):
 (Instr.sliceBounds isSlice len cap (lo.map (ev ρ)) (hi.map (ev ρ)) none).run P w= .ok (l,h,cap) w:=by
 have hb: ∀(v:Value) (y n:Nat) (c:BoundsCode),(∃k i,v= .int k i∧0≤i∧i.toNat=n) → n≤y → (Instr.sliceBound v y c).run P w= .ok n w:=by
  rintro v y n c ⟨k,i,rfl,h0,rfl⟩ hy
  have:i≤(y:Int):=by omega
  simp[Instr.sliceBound,asIntOf,h0,this]
 cases lo with
 |none=>
  have hl':l=0:=hl
  subst hl'
  cases hi with
  |none=>have:h=len:=hh;subst this;simp[Instr.sliceBounds]
  |some y=>
   obtain⟨k,i,e1,e2,e3⟩:=hh
   simp[Instr.sliceBounds,hb (ev ρ y) cap h _ ⟨k,i,e1,e2,e3⟩ h2]
 |some x=>
  obtain⟨k,i,e1,e2,e3⟩:=hl
  cases hi with
  |none=>have:h=len:=hh;subst this;simp[Instr.sliceBounds,hb (ev ρ x) h l _ ⟨k,i,e1,e2,e3⟩ h1]
  |some y=>
   obtain⟨k',i',f1,f2,f3⟩:=hh
   simp[Instr.sliceBounds,hb (ev ρ y) cap h _ ⟨k',i',f1,f2,f3⟩ h2,hb (ev ρ x) h l _ ⟨k,i,e1,e2,e3⟩ h1]
def dC(A:Option Addr)(cap l sz:Nat):Option Addr:=if cap=l then A else A.map (·.add (l*sz))
theorem eo{t e sz:Nat}{x:Operand}{lo hi:Option Operand}{A:Option Addr}{len cap l h:Nat}(ht:cJ P t e sz)(hx:ev ρ x= .slice A len cap)(hl:pL ρ lo 0 l)(hh:pL ρ hi len h)(h1:l≤h)(h2:h≤cap):
 Yv P ⟨d,.slice t x lo hi none,ty,pos,af,gd⟩ ρ w (.slice (dC A cap l sz) (h- l) (cap- l)) w:=by
 obtain⟨h3,j,h4,rfl⟩:=ht
 unfold Yv
 simp[execOp,Instr.sliceAt,Instr.slice,hx,run_underlying h3,kN (isSlice:=true) hl hh h1 h2 (fun _=>h2),sizeOf,typeInfo,h4,dC]
theorem bP{t n e sz:Nat}{x:Operand}{lo hi:Option Operand}{g o l h:Nat}(ht:na P t n e sz)(hx:ev ρ x= .pointer (some ⟨g,o,none⟩))(hl:pL ρ lo 0 l)(hh:pL ρ hi n h)(h1:l≤h)(h2:h≤n):
 Yv P ⟨d,.slice t x lo hi none,ty,pos,af,gd⟩ ρ w (.slice (dC (some ⟨g,o,none⟩) n l sz) (h- l) (n- l)) w:=by
 obtain⟨h3,j,h4,rfl⟩:=ht
 unfold Yv
 have hb:=fun w=>kN (P:=P) (w:=w) (isSlice:=false) hl hh h1 h2 (fun _=>h2)
 have hr:(execOp (ev ρ) ⟨d,.slice t x lo hi none,ty,pos,af,gd⟩).run P w= .ok (.value (.slice (some (if n=l then⟨g,o,none⟩else(⟨g,o,none⟩:Addr).add (l*j.size))) (h- l) (n- l))) w:=by
  simp[execOp,Instr.sliceAt,hx,run_underlying h3,Instr.sureAddr,hb,sizeOf,typeInfo,h4]
 rw[hr]
 unfold dC
 split<;>rfl
theorem iO{t:Nat}{x:Operand}{lo hi:Option Operand}{s:ByteArray}{l h:Nat}(ht:P.underlying t=some .string)(hx:ev ρ x= .string s)(hl:pL ρ lo 0 l)(hh:pL ρ hi s.size h)(h1:l≤h)(h2:h≤s.size):
 Yv P ⟨d,.slice t x lo hi none,ty,pos,af,gd⟩ ρ w (.string (s.extract l h)) w:=by
 unfold Yv
 simp[execOp,Instr.sliceAt,Instr.slice,hx,run_underlying ht,kN (isSlice:=false) hl hh h1 h2 (fun _=>h2)]
theorem y_add{t t':Nat}{x y:Operand}{k:IntKind}{a b:Int}(hx:ev ρ x= .int k a)(hy:ev ρ y= .int k b):Yv P ⟨d,.binOp .add t x y t',ty,pos,af,gd⟩ ρ w (.int k (k.wrap (a+b))) w:=by
 unfold Yv;simp[execOp,eqGuard,hx,hy,binOp,Op.intArith]
theorem y_sub{t t':Nat}{x y:Operand}{k:IntKind}{a b:Int}(hx:ev ρ x= .int k a)(hy:ev ρ y= .int k b):Yv P ⟨d,.binOp .sub t x y t',ty,pos,af,gd⟩ ρ w (.int k (k.wrap (a- b))) w:=by
 unfold Yv;simp[execOp,eqGuard,hx,hy,binOp,Op.intArith]
theorem y_mul{t t':Nat}{x y:Operand}{k:IntKind}{a b:Int}(hx:ev ρ x= .int k a)(hy:ev ρ y= .int k b):Yv P ⟨d,.binOp .mul t x y t',ty,pos,af,gd⟩ ρ w (.int k (k.wrap (a*b))) w:=by
 unfold Yv;simp[execOp,eqGuard,hx,hy,binOp,Op.intArith]
theorem aH{t t':Nat}{x y:Operand}{k:IntKind}{a b c:Int}(hx:ev ρ x= .int k a)(hy:ev ρ y= .int k b)(hc:k.wrap (a+b)=c):Yv P ⟨d,.binOp .add t x y t',ty,pos,af,gd⟩ ρ w (.int k c) w:=hc▸y_add hx hy
theorem gZ{t t':Nat}{x y:Operand}{k:IntKind}{a b c:Int}(hx:ev ρ x= .int k a)(hy:ev ρ y= .int k b)(hc:k.wrap (a- b)=c):Yv P ⟨d,.binOp .sub t x y t',ty,pos,af,gd⟩ ρ w (.int k c) w:=hc▸y_sub hx hy
theorem cM{t t':Nat}{x y:Operand}{k:IntKind}{a b c:Int}(hx:ev ρ x= .int k a)(hy:ev ρ y= .int k b)(hc:k.wrap (a*b)=c):Yv P ⟨d,.binOp .mul t x y t',ty,pos,af,gd⟩ ρ w (.int k c) w:=hc▸y_mul hx hy
theorem dG{t t':Nat}{x y:Operand}{k:IntKind}{a b c:Int}(hx:ev ρ x= .int k a)(hy:ev ρ y= .int k b)(hc:k.wrap (BitVec.ofInt k.bits a &&& BitVec.ofInt k.bits b).toNat=c):Yv P ⟨d,.binOp .and t x y t',ty,pos,af,gd⟩ ρ w (.int k c) w:=by
 subst hc;unfold Yv;simp[execOp,eqGuard,hx,hy,binOp,Op.intBits]
theorem qW{t t':Nat}{x y:Operand}{k:IntKind}{a b c:Int}(hx:ev ρ x= .int k a)(hy:ev ρ y= .int k b)(hc:k.wrap (BitVec.ofInt k.bits a|||BitVec.ofInt k.bits b).toNat=c):Yv P ⟨d,.binOp .or t x y t',ty,pos,af,gd⟩ ρ w (.int k c) w:=by
 subst hc;unfold Yv;simp[execOp,eqGuard,hx,hy,binOp,Op.intBits]
theorem fi{t t':Nat}{x y:Operand}{k:IntKind}{a b c:Int}(hx:ev ρ x= .int k a)(hy:ev ρ y= .int k b)(hc:k.wrap (BitVec.ofInt k.bits a &&& ~~~ BitVec.ofInt k.bits b).toNat=c):Yv P ⟨d,.binOp .andNot t x y t',ty,pos,af,gd⟩ ρ w (.int k c) w:=by
 subst hc;unfold Yv;simp[execOp,eqGuard,hx,hy,binOp,Op.intBits]
theorem lp{t t':Nat}{x y:Operand}{k k':IntKind}{a b c:Int}(hx:ev ρ x= .int k a)(hy:ev ρ y= .int k' b)(hb:0≤b)(hc:k.wrap (a*2 ^ (min b.toNat k.bits))=c):Yv P ⟨d,.binOp .shl t x y t',ty,pos,af,gd⟩ ρ w (.int k c) w:=by
 subst hc;unfold Yv;simp[execOp,eqGuard,hx,hy,binOp,Op.shift,Int.not_lt.2 hb]
theorem dM{t t':Nat}{x y:Operand}{k k':IntKind}{a b c:Int}(hx:ev ρ x= .int k a)(hy:ev ρ y= .int k' b)(hb:0≤b)(hc:a.fdiv (2 ^ (min b.toNat k.bits))=c):Yv P ⟨d,.binOp .shr t x y t',ty,pos,af,gd⟩ ρ w (.int k c) w:=by
 subst hc;unfold Yv;simp[execOp,eqGuard,hx,hy,binOp,Op.shift,Int.not_lt.2 hb]
theorem bR{t t':Nat}{x y:Operand}{k:IntKind}{a b:Int}(hx:ev ρ x= .int k a)(hy:ev ρ y= .int k b):Yv P ⟨d,.binOp .lss t x y t',ty,pos,af,gd⟩ ρ w (.bool (decide (a<b))) w:=by
 unfold Yv;simp[execOp,eqGuard,hx,hy,binOp,Op.intCmp]
theorem qZ{t t':Nat}{x y:Operand}{k:IntKind}{a b:Int}(hx:ev ρ x= .int k a)(hy:ev ρ y= .int k b):Yv P ⟨d,.binOp .leq t x y t',ty,pos,af,gd⟩ ρ w (.bool (decide (a≤b))) w:=by
 unfold Yv;simp[execOp,eqGuard,hx,hy,binOp,Op.intCmp]
theorem eM{t t':Nat}{x y:Operand}{k:IntKind}{a b:Int}(hx:ev ρ x= .int k a)(hy:ev ρ y= .int k b):Yv P ⟨d,.binOp .gtr t x y t',ty,pos,af,gd⟩ ρ w (.bool (decide (b<a))) w:=by
 unfold Yv;simp[execOp,eqGuard,hx,hy,binOp,Op.intCmp]
theorem jO{t t':Nat}{x y:Operand}{k:IntKind}{a b:Int}(hx:ev ρ x= .int k a)(hy:ev ρ y= .int k b):Yv P ⟨d,.binOp .geq t x y t',ty,pos,af,gd⟩ ρ w (.bool (decide (b≤a))) w:=by
 unfold Yv;simp[execOp,eqGuard,hx,hy,binOp,Op.intCmp]
theorem iQ{t t':Nat}{x y:Operand}{k:IntKind}{a b:Int}(hx:ev ρ x= .int k a)(hy:ev ρ y= .int k b):Yv P ⟨d,.binOp .eql t x y t',ty,pos,af,gd⟩ ρ w (.bool (a==b)) w:=by
 unfold Yv;simp[execOp,eqGuard,hx,hy,binOp,Op.intCmp]
theorem mq{t t':Nat}{x y:Operand}{k:IntKind}{a b:Int}(hx:ev ρ x= .int k a)(hy:ev ρ y= .int k b):Yv P ⟨d,.binOp .neq t x y t',ty,pos,af,gd⟩ ρ w (.bool (a !=b)) w:=by
 unfold Yv;simp[execOp,eqGuard,hx,hy,binOp,Op.intCmp]
theorem sD{t t':Nat}{x y:Operand}{a b:Bool}(ht:P.underlying t=some .bool)(hx:ev ρ x= .bool a)(hy:ev ρ y= .bool b):Yv P ⟨d,.binOp .neq t x y t',ty,pos,af,gd⟩ ρ w (.bool (!(a==b))) w:=by
 unfold Yv;simp[execOp,eqGuard,hx,hy,run_neq_bool w t a b ht]
theorem j1{t t':Nat}{x y:Operand}{a b:Bool}(ht:P.underlying t=some .bool)(hx:ev ρ x= .bool a)(hy:ev ρ y= .bool b):Yv P ⟨d,.binOp .eql t x y t',ty,pos,af,gd⟩ ρ w (.bool (a==b)) w:=by
 unfold Yv;simp[execOp,eqGuard,hx,hy,run_eql_bool w t a b ht]
theorem ve{t t':Nat}{x y:Operand}{a b:ByteArray}(hx:ev ρ x= .string a)(hy:ev ρ y= .string b):Yv P ⟨d,.binOp .neq t x y t',ty,pos,af,gd⟩ ρ w (.bool (!(a.toList==b.toList))) w:=by
 unfold Yv;simp[execOp,eqGuard,hx,hy,binOp,Op.stringOp]
theorem vg{t t':Nat}{x y:Operand}{a b:ByteArray}(hx:ev ρ x= .string a)(hy:ev ρ y= .string b):Yv P ⟨d,.binOp .eql t x y t',ty,pos,af,gd⟩ ρ w (.bool (a.toList==b.toList)) w:=by
 unfold Yv;simp[execOp,eqGuard,hx,hy,binOp,Op.stringOp]
def lh(P:Program)(t:Nat):Prop:=P.underlying t=some (.interface (P.methodsAt t))
def nM:Value → Bool
 |.iface _ _=>true
 | _=>false
theorem vf{t t':Nat}{x:Operand}{v:Value}(ht:lh P t)(hx:ev ρ x=v)(hv:v= .nilIface∨∃u z,v= .iface u z):Yv P ⟨d,.binOp .neq t x (.const .nilIface) t',ty,pos,af,gd⟩ ρ w (.bool (nM v)) w:=by
 have hc:ev ρ (.const .nilIface)= .nilIface:=rfl
 rcases hv with rfl|⟨u,z,rfl⟩
 · unfold Yv;simp[execOp,eqGuard,hx,hc,run_neq_nil_nil w t ht,nM]
 · unfold Yv;simp[execOp,eqGuard,hx,hc,run_neq_held_nil w t u z ht,nM]
theorem ep{t t':Nat}{x:Operand}{v:Value}(ht:lh P t)(hx:ev ρ x=v)(hv:v= .nilIface∨∃u z,v= .iface u z):Yv P ⟨d,.binOp .eql t x (.const .nilIface) t',ty,pos,af,gd⟩ ρ w (.bool (!nM v)) w:=by
 have hc:ev ρ (.const .nilIface)= .nilIface:=rfl
 rcases hv with rfl|⟨u,z,rfl⟩
 · unfold Yv;simp[execOp,eqGuard,hx,hc,run_eql_nil_nil w t ht,nM]
 · unfold Yv;simp[execOp,eqGuard,hx,hc,run_eql_held_nil w t u z ht,nM]
theorem pz{t t':Nat}{x:Operand}{p:Option Addr}(ht:P.underlying t=some (.pointer (P.pointee t)))(hx:ev ρ x= .pointer p):Yv P ⟨d,.binOp .eql t x (.const (.pointer none)) t',ty,pos,af,gd⟩ ρ w (.bool p.isNone) w:=by
 have hc:ev ρ (.const (.pointer none))= .pointer none:=rfl
 unfold Yv;simp[execOp,eqGuard,hx,hc,run_eql_pointer_nil w t p ht]
theorem dD{t t':Nat}{x:Operand}{p:Option Addr}(ht:P.underlying t=some (.pointer (P.pointee t)))(hx:ev ρ x= .pointer p):Yv P ⟨d,.binOp .neq t x (.const (.pointer none)) t',ty,pos,af,gd⟩ ρ w (.bool p.isSome) w:=by
 have hc:ev ρ (.const (.pointer none))= .pointer none:=rfl
 unfold Yv;simp[execOp,eqGuard,hx,hc,run_neq_pointer_nil w t p ht]
theorem bS{t:Nat}{x:Operand}{b:Bool}(hx:ev ρ x= .bool b):Yv P ⟨d,.unOp .not t x,ty,pos,af,gd⟩ ρ w (.bool (!b)) w:=by
 unfold Yv;simp[execOp,hx,Op.unary]
theorem wG{t:Nat}{x:Operand}{k:IntKind}{a:Int}(hx:ev ρ x= .int k a):Yv P ⟨d,.unOp .neg t x,ty,pos,af,gd⟩ ρ w (.int k (k.wrap (-a))) w:=by
 unfold Yv;simp[execOp,hx,Op.unary,Op.intArith]
theorem ao{s t:Nat}{x:Operand}{k k':IntKind}{a c:Int}(hs:(P.underlying s).isSome=true)(ht:P.underlying t=some (.int k'))(hx:ev ρ x= .int k a)(hc:k'.wrap a=c):Yv P ⟨d,.convert s t x,ty,pos,af,gd⟩ ρ w (.int k' c) w:=by
 subst hc
 obtain⟨u,hu⟩:=Option.isSome_iff_exists.1 hs
 unfold Yv;simp[execOp,hx,convert,run_underlying hu,run_underlying ht,Conv.intToInt]
theorem aO{t:Nat}{x:Operand}{A:Option Addr}{n c:Nat}(ht:P.underlying t=some (.slice (P.elem t)))(hx:ev ρ x= .slice A n c):Yv P ⟨d,.call {callee:= .builtin .len,args:=#[x],argTypes:=#[t]},ty,pos,af,gd⟩ ρ w (.int .i64 n) w:=by
 unfold Yv;simp[execOp,resolve,invoke,builtin,hx,run_len_slice w t ty A n c ht];rfl
theorem lO{t:Nat}{x:Operand}{s:ByteArray}(ht:P.underlying t=some .string)(hx:ev ρ x= .string s):Yv P ⟨d,.call {callee:= .builtin .len,args:=#[x],argTypes:=#[t]},ty,pos,af,gd⟩ ρ w (.int .i64 s.size) w:=by
 unfold Yv;simp[execOp,resolve,invoke,builtin,hx,run_len_string w t ty s ht];rfl
theorem i7{ts:Array TypeId}{x y:Operand}{k:IntKind}{a b c:Int}(hx:ev ρ x= .int k a)(hy:ev ρ y= .int k b)(hc:(if b<a then b else a)=c):Yv P ⟨d,.call {callee:= .builtin .min,args:=#[x,y],argTypes:=ts},ty,pos,af,gd⟩ ρ w (.int k c) w:=by
 subst hc;unfold Yv;simp[execOp,resolve,invoke,builtin,hx,hy,run_min_int2 w ts ty k k a b]
theorem qY{ts:Array TypeId}{x y:Operand}{k:IntKind}{a b c:Int}(hx:ev ρ x= .int k a)(hy:ev ρ y= .int k b)(hc:(if a<b then b else a)=c):Yv P ⟨d,.call {callee:= .builtin .max,args:=#[x,y],argTypes:=ts},ty,pos,af,gd⟩ ρ w (.int k c) w:=by
 subst hc;unfold Yv;simp[execOp,resolve,invoke,builtin,hx,hy,run_max_int2 w ts ty k k a b]
theorem rd{t s:Nat}{x:Operand}{u:Nat}{v:Value}{ds:TypeDesc}(hs:P.underlying s=some ds)(hn:(match ds with|.interface _=>false| _=>true)=true)(hx:ev ρ x= .iface u v)(hz:u≠s → ∃i z,P.info? s=some i∧i.zero=some z){r:Value}
 (hr:(if u=s then r= .tuple #[v,.bool true]else ∀i z,P.info? s=some i → i.zero=some z → r= .tuple #[z,.bool false])):Yv P ⟨d,.typeAssert x t s true,ty,pos,af,gd⟩ ρ w r w:=by
 unfold Yv
 by_cases he:u=s
 · rw[if_pos he]at hr;subst hr;subst he
   cases ds<;>simp_all [execOp,Instr.typeAssert,run_underlying]
 · rw[if_neg he]at hr
   obtain⟨i,z,hi,hz⟩:=hz he
   have:=hr i z hi hz;subst this
   cases ds<;>simp_all [execOp,Instr.typeAssert,run_underlying,zeroValue,typeInfo]
end
def i6(P:Program)(o:Oper)(ρ:dv)(w:World)(K:dv → World → Prop):Prop:=
 (∃v w',Yv P o ρ w v w'∧K (ee ρ o.dst v) w')∨(∃w',Yn P o ρ w w'∧K (ee ρ o.dst undef) w')∨
 (∃f args w',Ye P o ρ w f args w'∧Calls P f args w' fun e w''=> ∃v,e= .returned v∧K (ee ρ o.dst v) w'')
section
variable{P:Program}{n:Nat}{Q:QE}{ρ:dv}{w:World}{ops:Array Oper}{l:List Oper}{o:Oper}{K:dv → World → Prop}
theorem xx(hg:dS o ops ρ n=true)(hd:gR n o.dst=true)(h:i6 P o ρ w (WL P n ops l Q)):WL P n ops (o::l) Q ρ w:=by
 rcases h with⟨v,w',hy,hk⟩|⟨w',hy,hk⟩|⟨f,args,w',hy,hk⟩
 · exact xw hg hd hy hk
 · exact WL_n' hg hd hy hk
 · exact WL_e' hg hd hy hk
theorem zI(hg:o.guard=none)(hd:gR n o.dst=true)(h:i6 P o ρ w (WL P n ops l Q)):WL P n ops (o::l) Q ρ w:=
 xx (by unfold dS;rw[hg]) hd h
theorem uX{i:Nat}(ho:ops[i]? =some o)(hg:dS o ops ρ n=true)(h:i6 P o ρ w K):qS P n ops i K ρ w:=⟨o,ho,.inl ⟨hg,h⟩⟩
theorem oQ{i:Nat}(ho:ops[i]? =some o)(hg:o.guard=none)(h:i6 P o ρ w K):qS P n ops i K ρ w:=uX ho (by unfold dS;rw[hg]) h
theorem ic{v:Value}{w':World}(hy:Yv P o ρ w v w')(h:K (ee ρ o.dst v) w'):i6 P o ρ w K:= .inl ⟨v,w',hy,h⟩
end
def dI(P:Program)(t:TypeId):Prop:=(∃u,P.underlying t=some u∧(∀fs,u≠ .struct fs)∧∀m e,u≠ .array m e)∧∃i,P.info? t=some i∧i.size=1
def oneB(P:Program)(t:TypeId):Bool:=(match P.underlying t with
 |some (.struct _)|some (.array _ _)|none=>false
 | _=>true) && (match P.info? t with|some i=>i.size==1|none=>false)
theorem bN{P:Program}{t:TypeId}(h:oneB P t=true):dI P t:=by
 unfold oneB at h
 rw[Bool.and_eq_true]at h
 obtain⟨h1,h2⟩:=h
 constructor
 · cases hu:P.underlying t with
   |none=>simp[hu]at h1
   |some u=>
    rw[hu]at h1
    refine⟨u,Z,?_,?_⟩
    · rintro fs rfl;simp at h1
    · rintro m e rfl;simp at h1
 · split at h2
   · rename_i i hi;exact⟨i,hi,by simpa using h2⟩
   · cases h2
def iJ(P:Program)(t:TypeId)(n:Nat):Prop:=(∃u,P.underlying t=some u∧((∃fs,u= .struct fs)∨∃m e,u= .array m e))∧∃i,P.info? t=some i∧i.size=n
def aggB(P:Program)(t:TypeId)(n:Nat):Bool:=(match P.underlying t with
 |some (.struct _)|some (.array _ _)=>true
 | _=>false) && (match P.info? t with|some i=>i.size==n|none=>false)
theorem eG{P:Program}{t n:Nat}(h:aggB P t n=true):iJ P t n:=by
 unfold aggB at h
 rw[Bool.and_eq_true]at h
 obtain⟨h1,h2⟩:=h
 constructor
 · split at h1
   · rename_i fs hu;exact⟨_,hu,.inl ⟨fs,rfl⟩⟩
   · rename_i m e hu;exact⟨_,hu,.inr ⟨m,e,rfl⟩⟩
   · cases h1
 · split at h2
   · rename_i i hi;exact⟨i,hi,by simpa using h2⟩
   · cases h2
theorem kJ{P:Program}{t:TypeId}{w:World}(h:dI P t):(isAgg t).run P w= .ok false w:=by
 obtain⟨⟨u,hu,h1,h2⟩,_⟩:=h
 cases u<;>simp_all [isAgg,run_underlying hu]
theorem pc{P:Program}{t n:Nat}{w:World}(h:iJ P t n):(isAgg t).run P w= .ok true w:=by
 obtain⟨⟨u,hu,h1⟩,_⟩:=h
 rcases h1 with⟨fs,rfl⟩|⟨m,e,rfl⟩<;>simp[isAgg,run_underlying hu]
def dA(P:Program)(t:TypeId)(zs:List Value):Prop:= ∃i z,P.info? t=some i∧i.zero=some z∧z.cells.toList=zs
theorem bO{P:Program}{t:TypeId}{zs:List Value}(h:((P.info? t).bind (·.zero)).map (·.cells.toList)=some zs):dA P t zs:=by
 cases hi:P.info? t with
 |none=>simp[hi]at h
 |some i=>
  cases hz:i.zero with
  |none=>simp[hi,hz]at h
  |some z=>exact⟨i,z,hi,hz,by simpa[hi,hz]using h⟩
theorem pK{v:Value}(h:v.oneCell'=true):v.cells=#[v]:=by cases v<;>first|rfl|simp[Value.oneCell']at h
section
variable{P:Program}{ρ:dv}{w w0:World}{d:Option Tmp}{ty:TypeId}{pos:String}{af:Array Edge}{gd:Option (Nat × Bool)}{K:dv → World → Prop}{M:Nat → Prop}{L:List Res}
theorem ag{t:TypeId}{x:Operand}{a:Addr}{v:Value}(ht:dI P t)(hx:ev ρ x= .pointer (some a))(hc:w.cell? a=some v):Yv P ⟨d,.load t x,ty,pos,af,gd⟩ ρ w v w:=by
 unfold Yv;simp[execOp,Instr.loadAt,hx,Instr.sureAddr,loadVar,kJ ht,hc]
theorem tw{t n:Nat}{x:Operand}{g o:Nat}{cs:List Value}(ht:iJ P t n)(hx:ev ρ x= .pointer (some ⟨g,o,none⟩))(hl:cs.length=n)(hc: ∀j v,cs[j]? =some v → w.cell? ⟨g,o+j,none⟩=some v):
 Yv P ⟨d,.load t x,ty,pos,af,gd⟩ ρ w (.agg cs.toArray) w:=by
 have h1:=pc (P:=P) (w:=w) ht
 obtain⟨_,i,hi,hs⟩:=ht
 have h2:=run_loadCells_list (P:=P) w ⟨g,o,none⟩ cs (fun j v hj=>by rw[cH];exact hc j v hj)
 rw[hl]at h2
 unfold Yv;simp[execOp,Instr.loadAt,hx,Instr.sureAddr,loadVar,h1,sizeOf,typeInfo,hi,hs,h2]
theorem St.load(H:St w0 M L w){i g k:Nat}{cs:List Value}{T:TypeId}{t:TypeId}{x:Operand}{v:Value}(hi:L[i]? =some (an g cs T))(ht:dI P t)(hx:ev ρ x= .pointer (some ⟨g,k,none⟩))(hk:cs[k]? =some v):
 Yv P ⟨d,.load t x,ty,pos,af,gd⟩ ρ w v w:=ag ht hx (H.cell hi hk)
theorem St.loadN(H:St w0 M L w){i g o n:Nat}{cs vs:List Value}{T:TypeId}{t:TypeId}{x:Operand}(hi:L[i]? =some (an g cs T))(ht:iJ P t n)(hx:ev ρ x= .pointer (some ⟨g,o,none⟩))(hn:vs.length=n)(hk: ∀j v,vs[j]? =some v → cs[o+j]? =some v):
 Yv P ⟨d,.load t x,ty,pos,af,gd⟩ ρ w (.agg vs.toArray) w:=tw ht hx hn fun j v hj=>H.cell hi (hk j v hj)
theorem qe(H:St w0 M L w)(i:Nat){g k:Nat}{cs:List Value}{T:TypeId}{t:TypeId}{x y:Operand}{v:Value}(hi:L[i]? =some (an g cs T))(ht:dI P t)(hx:ev ρ x= .pointer (some ⟨g,k,none⟩))(hk:k<cs.length)(hy:ev ρ y=v)(h1:v.oneCell'=true)
 {L':List Res} (h: ∀w',St w0 M L' w' → K ρ w') (hL:L.set i (an g (cs.set k v) T)=L':=by first|(simp only[List.set_cons_succ,List.set_cons_zero];rfl)|rfl):i6 P ⟨none,.store t x y,ty,pos,af,gd⟩ ρ w K:=by
 subst hL
 refine .inr (.inl ⟨w.setCell ⟨g,k,none⟩ v,?_,h _ (H.store hi k v)⟩)
 obtain⟨_,j,hj,hs⟩:=ht
 have hc:w.cell? ⟨g,k,none⟩=some (cs[k]'hk):=H.cell hi (List.getElem?_eq_getElem hk)
 have hadd:(⟨g,k,none⟩:Addr).add 0=⟨g,k,none⟩:=cH g k 0
 unfold Yn
 simp[execOp,Instr.storeAt,hx,hy,Instr.sureAddr,storeVar,pK h1,sizeOf,typeInfo,hj,hs,storeCells,hadd,run_store P w _ v _ h1,hc,H.frozen hi k]
theorem iR(w:World)(g:Nat)(cs:Array Value){k:Nat}(h:k≠g):(w.setRow g cs).heap[k]? =w.heap[k]?:=by
 simp[World.setRow,Array.getElem?_modify,Ne.symm h]
theorem my(w:World)(g:Nat)(cs:Array Value):(w.setRow g cs).heap.size=w.heap.size:=by simp[World.setRow]
theorem St.setRow(H:St w0 M L w){i g:Nat}{cs:List Value}{T:TypeId}(hi:L[i]? =some (an g cs T))(cs':List Value):St w0 M (L.set i (an g cs' T)) (w.setRow g cs'.toArray):=by
 have hk:Keep w (fun k=>k=g) (w.setRow g cs'.toArray):=⟨rfl,rfl,rfl,by rw[my];exact Nat.le_refl _,fun j _ hj=>iR w g _ hj⟩
 refine H.set_ hi (fun _=>Iff.rfl) (setRow_heap w g cs.toArray cs'.toArray T (0,0) (H.heap hi)) (H.keep.trans hk ?_) (by rw[my];exact Nat.le_refl _) fun g' _ hg'=>iR w g _ hg'
 rintro j hj rfl
 rcases H.own _ (fW hi) _ rfl with h1|h1
 · exact h1
 · omega
theorem bE(H:St w0 M L w)(i:Nat){g o m:Nat}{cs vs:List Value}{T:TypeId}{t:TypeId}{x y:Operand}(hi:L[i]? =some (an g cs T))(ht:(P.info? t).map (·.size)=some m)(hx:ev ρ x= .pointer (some ⟨g,o,none⟩))(hy:ev ρ y= .agg vs.toArray)(hm:vs.length=m)(hk:o+m≤cs.length)(h1: ∀v ∈ vs,v.oneCell'=true)
 {cs':List Value} (hcs:cs.take o++vs++cs.drop (o+m)=cs')
 {L':List Res} (h: ∀w',St w0 M L' w' → K ρ w') (hL:L.set i (an g cs' T)=L':=by first|(simp only[List.set_cons_succ,List.set_cons_zero];rfl)|rfl):i6 P ⟨none,.store t x y,ty,pos,af,gd⟩ ρ w K:=by
 subst hcs
 subst hL
 refine .inr (.inl ⟨w.setRow g (cs.take o++vs++cs.drop (o+m)).toArray,?_,h _ (H.setRow hi _)⟩)
 have hst:=run_storeCells_at P g o T vs 0 cs.toArray w (H.heap hi) (by simp;omega) h1
 subst hm
 cases hq:P.info? t with
 |none=>simp[hq]at ht
 |some j=>
  have hs:j.size=vs.length:=by simpa[hq]using ht
  unfold Yn
  simp[execOp,Instr.storeAt,hx,hy,Instr.sureAddr,storeVar,Value.cells,sizeOf,typeInfo,hq,hs,hst]
theorem aN(H:St w0 M L w){t:TypeId}{zs:List Value}(hz:dA P t zs)(h: ∀g w',w.heap.size≤g → St w0 M (an g zs t::L) w' → K (ee ρ d (.pointer (some ⟨g,0,none⟩))) w'):i6 P ⟨d,.alloc t,ty,pos,af,gd⟩ ρ w K:=by
 obtain⟨i,z,hi,hz0,rfl⟩:=hz
 refine ic (v:= .pointer (some ⟨w.heap.size,0,none⟩)) (w':=w.alloc (.cells z.cells.toList.toArray t)) ?_ (h _ _ (Nat.le_refl _) (H.new _ t))
 unfold Yv;simp[execOp,Instr.alloc,zeroValue,typeInfo,hi,hz0,newVar,newRow]
theorem fq(H:St w0 M L w){t:TypeId}{x:Operand}{v:Value}{vs:List Value}(hx:ev ρ x=v)(hv:v.cells.toList=vs)(h: ∀g w',w.heap.size≤g → St w0 M (an g vs t::L) w' → K (ee ρ d (.pointer (some ⟨g,0,none⟩))) w'):i6 P ⟨d,.box t x,ty,pos,af,gd⟩ ρ w K:=by
 subst hv
 refine ic (v:= .pointer (some ⟨w.heap.size,0,none⟩)) (w':=w.alloc (.cells v.cells.toList.toArray t)) ?_ (h _ _ (Nat.le_refl _) (H.new _ t))
 unfold Yv;simp[execOp,Instr.box,hx,newVar,newRow]
theorem yy{t:TypeId}{parts:Array (Nat × Operand)}{ps:List (Nat × Value)}{cells:Array Value}(hp:(parts.map fun(i,x)=>(i,ev ρ x)).toList=ps)(hb:P.built t ps=some cells):Yv P ⟨d,.build t parts,ty,pos,af,gd⟩ ρ w (.agg cells) w:=by
 subst hp
 unfold Yv
 simp only[execOp]
 rw[Sem.run_bind,run_build w t _ cells hb]
 rfl
def kR(P:Program)(t:TypeId)(len:Nat)(ps:List (Nat × Value)):Option (TypeId × List Value):=
 match P.underlying t with
 |some (.slice e)=>match P.info? e with
  |some i=>if len*i.size>2 ^ 24 then none else
   match (if len*i.size=0 then some (#[]:Array Value)else i.zero.map (·.cells))with
   |some zero=>(Instr.fill (fun j=>some (j*i.size,i.size)) ((Array.range (len*i.size)).map (zero[· %zero.size]!)) ps).map fun cs=>(e,cs.toList)
   |none=>none
  |none=>none
 | _=>none
theorem n7{t:TypeId}{len:Nat}{parts:Array (Nat × Value)}{e:TypeId}{cs:List Value}(h:kR P t len parts.toList=some (e,cs)):
 (Instr.buildSlice t len parts).run P w= .ok (.slice (some ⟨w.heap.size,0,none⟩) len len) (w.alloc (.cells cs.toArray e)):=by
 unfold kR at h
 cases hu:P.underlying t with
 |none=>simp[hu]at h
 |some u=>
  cases u<;>simp only[hu]at h<;>try (cases h;done)
  rename_i e'
  cases hi:P.info? e' with
  |none=>simp[hi]at h
  |some i=>
   simp only[hi]at h
   by_cases hsz:len*i.size>2 ^ 24
   · simp[hsz]at h
   · rw[if_neg hsz]at h
     by_cases h0:len*i.size=0
     · rw[if_pos h0]at h
       simp only[Option.map_eq_some_iff]at h
       obtain⟨c,hc,he⟩:=h
       injection he with he1 he2
       subst he1;subst he2
       rw[h0]at hc
       simp only[Instr.buildSlice,Sem.run_bind,run_underlying hu,Result.andThen_ok,sizeOf,typeInfo,run_program,hi,Sem.run_pure,Sem.run_ite,hsz,if_false,h0,if_true]
       simp only[Array.range_zero',List.map_nil]at hc
       have e0:(Array.map (fun x=>(default:Value)) (Array.range 0))=#[]:=by simp
       simp only[Array.map_empty]at hc
       simp[hc,newRow,h0]
       rw[e0,hc]
       rfl
     · rw[if_neg h0]at h
       cases hz:i.zero with
       |none=>simp[hz]at h
       |some z=>
        simp only[hz,Option.map_some,Option.map_eq_some_iff]at h
        obtain⟨c,hc,he⟩:=h
        injection he with he1 he2
        subst he1;subst he2
        simp[Instr.buildSlice,run_underlying hu,sizeOf,typeInfo,zeroValue,hi,hz,hsz,h0,newRow,hc]
theorem qi(H:St w0 M L w){t:TypeId}{len:Nat}{parts:Array (Nat × Operand)}{ps:List (Nat × Value)}{e:TypeId}{cs:List Value}(hp:(parts.map fun(i,x)=>(i,ev ρ x)).toList=ps)(hb:kR P t len ps=some (e,cs))
 (h: ∀g w',w.heap.size≤g → St w0 M (an g cs e::L) w' → K (ee ρ d (.slice (some ⟨g,0,none⟩) len len)) w'):i6 P ⟨d,.buildSlice t len parts,ty,pos,af,gd⟩ ρ w K:=by
 subst hp
 refine ic (v:= .slice (some ⟨w.heap.size,0,none⟩) len len) (w':=w.alloc (.cells cs.toArray e)) ?_ (h _ _ (Nat.le_refl _) (H.new _ e))
 unfold Yv
 simp only[execOp]
 rw[Sem.run_bind,n7 hb]
 rfl
theorem qf(H:St w0 M L w){t e:TypeId}{z:Value}{sz bytes:Nat}{x y:Operand}{kl kc:IntKind}{l c:Int}(ht:P.underlying t=some (.slice e))(hinfo:(P.info? e).map (fun i=>(i.zero,i.size,i.bytes))=some (some z,sz,bytes))(hx:ev ρ x= .int kl l)(hy:ev ρ y= .int kc c)(h0:0≤l)(hlc:l≤c)(hb:(bytes:Int)*c≤281474976710656)(h63:c≤9223372036854775807)
 (h: ∀g w',w.heap.size≤g → St w0 M (an g (madeCells z.cells (c.toNat*sz)).toList e::L) w' → K (ee ρ d (.slice (some ⟨g,0,none⟩) l.toNat c.toNat)) w'):i6 P ⟨d,.makeSlice t x y,ty,pos,af,gd⟩ ρ w K:=by
 obtain⟨i,hi,hz⟩:=Option.map_eq_some_iff.1 hinfo
 simp only[Prod.mk.injEq]at hz
 obtain⟨hz0,rfl,rfl⟩:=hz
 refine ic (v:= .slice (some ⟨w.heap.size,0,none⟩) l.toNat c.toNat) (w':=w.alloc (.cells (madeCells z.cells (c.toNat*i.size)).toList.toArray e)) ?_ (h _ _ (Nat.le_refl _) (H.new _ e))
 unfold Yv
 simp only[execOp]
 rw[Sem.run_bind,hx,hy,run_make (P:=P) w t e i z ht hi hz0 kl kc l c h0 hlc hb h63]
 rfl
def ay(e:TypeId)(sz:Nat)(v:Value)(n:Nat)(xs:List Value):Res where
 F:=fun k=>v.ownBlock=some k
 φ:=fun w=>w.ownsRow 0 e sz v n xs
 live:=fun w g h hg=>(World.ownsRow.lt h g hg).2
 stay:=fun w w' h hk=>by
  refine⟨h.1,?_⟩
  rcases h.2 with hn|⟨g,cap,cur,rfl,hb,hgg,rest⟩
  · exact .inl hn
  · exact .inr ⟨g,cap,cur,Z,hb,by rw[hk g Z];exact hgg,rest⟩
theorem St.move(H:St w0 M L w){i:Nat}{r r':Res}{w':World}(hi:L[i]? =some r)(hφ:r'.φ w')(hF: ∀g,r'.F g → r.F g∨w.heap.size≤g)(hk:Keep w r.F w'):St w0 M (L.set i r') w':=by
 have hK:Keep w0 M w':=H.keep.trans hk fun g hg hr=>by
  rcases H.own r (fW hi) g hr with h1|h1
  · exact h1
  · omega
 have hil:i<L.length:=(List.getElem?_eq_some_iff.1 hi).1
 have hother: ∀(j:Nat) (x:Res),L[j]? =some x → j≠i → ∀g,r'.F g → ¬x.F g:=fun j x hj hne g hg hxg=>by
  rcases hF g hg with h1|h1
  · rcases Nat.lt_or_gt_of_ne hne with h2|h2
    · exact H.ne hj hi h2 hxg h1
    · exact H.ne hi hj h2 h1 hxg
  · have:=x.live _ _ (H.get hj) hxg
    omega
 refine⟨hK,fun x hx=> ?_,fun x hx g hg=> ?_,?_⟩
 · obtain⟨j,hj⟩:=List.getElem?_of_mem hx
   rw[List.getElem?_set]at hj
   split at hj
   · have hx':r'=x:=by
      first
       |(injection hj;done)
       |(injection hj with hj;exact hj)
       |(rw[if_pos (by omega)]at hj;injection hj with hj;exact hj)
     subst hx';exact hφ
   · rename_i hij
     refine x.stay w _ (H.get hj) fun g hg=>hk.block g (x.live _ _ (H.get hj) hg) fun hr=> ?_
     rcases Nat.lt_or_gt_of_ne hij with h1|h1
     · exact H.ne hi hj h1 hr hg
     · exact H.ne hj hi h1 hg hr
 · rcases List.mem_or_eq_of_mem_set hx with hx|rfl
   · exact H.own x hx g hg
   · rcases hF g hg with h1|h1
     · exact H.own r (fW hi) g h1
     · exact .inr (Nat.le_trans H.keep.size h1)
 · rw[List.pairwise_iff_getElem]
   intro a b ha hb hab g hga hgb
   simp only[List.length_set]at ha hb
   rw[List.getElem_set]at hga hgb
   split at hga
   · rename_i hia
     subst hia
     rw[if_neg (by omega)]at hgb
     exact hother b _ (List.getElem?_eq_getElem hb) (by omega) g hga hgb
   · split at hgb
     · rename_i hib
       subst hib
       exact hother a _ (List.getElem?_eq_getElem ha) (by omega) g hgb hga
     · exact H.ne (List.getElem?_eq_getElem ha) (List.getElem?_eq_getElem hb) hab hga hgb
theorem fD{w w':World}{v:Value}(h:w.grownBy w' v.ownBlock):Keep w (fun k=>v.ownBlock=some k) w':=
 ⟨h.os,h.tape,h.output,h.size,fun k hk hn=>h.block k hk fun e=>hn e.symm⟩
theorem xh(H:St w0 M L w)(i:Nat){s x:Operand}{t e:TypeId}{z:Value}{sz bytes n m c:Nat}{v:Value}{xs news:List Value}{a:Addr}(hi:L[i]? =some (ay e sz v n xs))
 (ht:P.underlying t=some (.slice e)) (hinfo:(P.info? e).map (fun i=>(i.zero,i.size,i.bytes))=some (some z,sz,bytes)) (hzs:z.cells.size=sz) (hsz:0<sz) (hs:ev ρ s=v) (hx:ev ρ x= .slice (some a) m c)
 (hl:news.length=m*sz) (hnews: ∀j u,news[j]? =some u → w.cell? (a.add j)=some u) (h1: ∀u ∈ news,u.oneCell'=true) (h63:n+m≤maxLen) (hbytes:(n+m)*bytes≤140737488355328)
 (h: ∀v' w',St w0 M (L.set i (ay e sz v' (n+m) (xs++news))) w' → K (ee ρ d v') w'):i6 P ⟨d,.call {callee:= .builtin .append,args:=#[s,x],argTypes:=#[t,t]},ty,pos,af,gd⟩ ρ w K:=by
 obtain⟨i0,hi0,hz⟩:=Option.map_eq_some_iff.1 hinfo
 simp only[Prod.mk.injEq]at hz
 obtain⟨hz0,hz1,hz2⟩:=hz
 obtain⟨v',w',hr,h2,h3,_,h5⟩:=run_append_own_at (P:=P) w 0 t ty e i0 z sz bytes ht hi0 hz0 hz1 hz2 hzs hsz v n xs (H.get hi) a m c news hl hnews h1 h63 hbytes (Nat.zero_le _)
 refine ic (v:=v') (w':=w') ?_ (h v' w' (H.move hi (r':=ay e sz v' (n+m) (xs++news)) h2 ?_ (fD h3)))
 · unfold Yv;simp[execOp,resolve,invoke,builtin,hs,hx,hr]
 · intro g hg
   have hg':v'.ownBlock=some g:=hg
   rcases h5 with h5|h5
   · exact .inl (by show v.ownBlock=some g;rw[←h5];exact hg')
   · rw[h5]at hg';injection hg' with hg';exact .inr (by omega)
theorem qg(H:St w0 M L w)(i:Nat){s x:Operand}{dT sT e T:TypeId}{g o dLen dCap sLen sCap:Nat}{a:Addr}{cs vs:List Value}(hi:L[i]? =some (an g cs T))(ht:P.underlying dT=some (.slice e))(hs1:(P.info? e).map (·.size)=some 1)
 (hs:ev ρ s= .slice (some ⟨g,o,none⟩) dLen dCap) (hx:ev ρ x= .slice (some a) sLen sCap) (hn:vs.length=Nat.min sLen dLen) (hsrc: ∀j v,vs[j]? =some v → w.cell? (a.add j)=some v) (hfit:o+vs.length≤cs.length) (h1: ∀v ∈ vs,v.oneCell'=true)
 (h: ∀w',St w0 M (L.set i (an g (cs.take o++vs++cs.drop (o+vs.length)) T)) w' → K (ee ρ d (.int .i64 vs.length)) w'):i6 P ⟨d,.call {callee:= .builtin .copy,args:=#[s,x],argTypes:=#[dT,sT]},ty,pos,af,gd⟩ ρ w K:=by
 have hr:=run_copy_row (P:=P) w dT sT ty e g o dLen dCap a sLen sCap cs.toArray T vs ht hs1 (H.heap hi) hn hsrc (by simpa using hfit) h1
 have hr':(Builtin.copy_ #[dT,sT] ty #[.slice (some ⟨g,o,none⟩) dLen dCap,.slice (some a) sLen sCap]).run P w= .ok (goInt vs.length) (w.setRow g (cs.take o++vs++cs.drop (o+vs.length)).toArray):=by simpa using hr
 refine ic (v:= .int .i64 vs.length) (w':=w.setRow g (cs.take o++vs++cs.drop (o+vs.length)).toArray) ?_ (h _ (H.setRow hi _))
 unfold Yv;simp only[execOp];simp[resolve,invoke,builtin,hs,hx,hr',goInt]
def bg(P:Program)(f:FuncId):Prop:= ∃fn,P.funcs[f]? =some fn∧(fn.name== "runtime.NumGoroutine")=false∧fn.body.isNone=false
def zG(P:Program)(f:FuncId):Bool:=match P.funcs[f]? with
 |some fn=> !(fn.name== "runtime.NumGoroutine") && !fn.body.isNone
 |none=>false
theorem aL{f:FuncId}(h:zG P f=true):bg P f:=by
 unfold zG at h
 split at h
 · rename_i fn hf
   simp only[Bool.and_eq_true,Bool.not_eq_true']at h
   exact⟨fn,hf,h.1,h.2⟩
 · cases h
theorem lu{f:FuncId}(hf:bg P f)(args:Array Value):(callFunc f args).run P w= .ok (.enter f args) w:=by
 obtain⟨fn,h1,h2,h3⟩:=hf
 have h2': ¬fn.name= "runtime.NumGoroutine" :=by simpa using h2
 have h3': ¬fn.body=none:=by intro e;rw[e]at h3;cases h3
 simp[callFunc,h1,h2',h3']
theorem AF{f:FuncId}{xs:Array Operand}{ts:Array TypeId}{args:Array Value}(hf:bg P f)(ha:xs.map (ev ρ)=args)(h:Calls P f args w fun e w''=> ∃v,e= .returned v∧K (ee ρ d v) w''):
 i6 P ⟨d,.call {callee:= .value (.func f),args:=xs,argTypes:=ts},ty,pos,af,gd⟩ ρ w K:=by
 subst ha
 refine .inr (.inr ⟨f,xs.map (ev ρ),w,?_,h⟩)
 have hc:=lu (P:=P) (w:=w) hf (xs.map (ev ρ))
 unfold Ye;simp[execOp,resolve,ev,Deferred.ofValue,invoke,hc]
theorem xg{r:Operand}{name:String}{xs:Array Operand}{ts:Array TypeId}{t:TypeId}{u recv:Value}{f:FuncId}{args:Array Value}(hr:ev ρ r= .iface t u)(hm:(method (P.types.size+Made.depth) t u name).run P w= .ok (f,recv) w)(hf:bg P f)
 (ha:#[recv]++xs.map (ev ρ)=args) (h:Calls P f args w fun e w''=> ∃v,e= .returned v∧K (ee ρ d v) w''):
 i6 P ⟨d,.call {callee:= .invoke r name,args:=xs,argTypes:=ts},ty,pos,af,gd⟩ ρ w K:=by
 subst ha
 refine .inr (.inr ⟨f,#[recv]++xs.map (ev ρ),w,?_,h⟩)
 have hc:=lu (P:=P) (w:=w) hf (#[recv]++xs.map (ev ρ))
 have he:(#[Value.iface t u]++xs.map (ev ρ)).extract 1 (#[Value.iface t u]++xs.map (ev ρ)).size=xs.map (ev ρ):=by
  apply Array.ext'
  rw[Array.toList_extract,List.extract_eq_take_drop]
  simp[List.take_of_length_le]
 have h0:(#[Value.iface t u]++xs.map (ev ρ))[0]? =some (.iface t u):=by
  rw[Array.getElem?_append_left (by simp)]
  rfl
 unfold Ye
 simp only[execOp,resolve,Sem.run_bind,Sem.run_pure,Result.andThen_ok,hr]
 show(invoke (.fn (.method name) #[]) (#[Value.iface t u]++xs.map (ev ρ))).run P w= _
 unfold invoke
 simp only[h0]
 unfold callMethod
 simp only[Sem.run_bind,run_program,Result.andThen_ok,hm]
 rw[he]
 exact hc
def RI(k:IntKind)(w:World)(A:Option Addr)(n:Nat)(xs:List Int):Prop:=
 xs.length=n∧(0<n → ∃g o,A=some ⟨g,o,none⟩∧∀j,j<n → w.cell? ⟨g,o+j,none⟩=some (.int k (xs.getD j 0)))
theorem RI.keep{k:IntKind}{w w':World}{A:Option Addr}{n:Nat}{xs:List Int}{M:Nat → Prop}(h:RI k w A n xs)(hk:Keep w M w')(hM: ∀a,A=some a → ¬M a.block):RI k w' A n xs:=
 ⟨h.1,fun hn=>by
  obtain⟨g,o,rfl,hc⟩:=h.2 hn
  refine⟨g,o,Z,fun j hj=> ?_⟩
  have hlt:=World.block_lt_of_cell? w _ (hc j hj)
  rw[World.cell?_of_block (hk.block g hlt (hM _ rfl))]
  exact hc j hj⟩
theorem RI.at_{k:IntKind}{w:World}{A:Option Addr}{n:Nat}{xs:List Int}(h:RI k w A n xs){j:Nat}(hj:j<n): ∃g o,A=some ⟨g,o,none⟩∧w.cell? ⟨g,o+j,none⟩=some (.int k (xs.getD j 0)):=by
 obtain⟨g,o,rfl,hc⟩:=h.2 (by omega)
 exact⟨g,o,Z,hc j hj⟩
theorem RI.cut{k:IntKind}{w:World}{A:Option Addr}{n c l m:Nat}{xs:List Int}(h:RI k w A n xs)(hl:l≤m)(hm:m≤n)(hc:n≤c):RI k w (dC A c l 1) (m- l) ((xs.drop l).take (m- l)):=by
 refine⟨by rw[List.length_take,List.length_drop,h.1];omega,fun hn=> ?_⟩
 obtain⟨g,o,rfl,hcl⟩:=h.2 (by omega)
 refine⟨g,o+l,?_,fun j hj=> ?_⟩
 · unfold dC
   rw[if_neg (by omega)]
   simp[cH]
 · rw[Nat.add_assoc,hcl (l+j) (by omega)]
   simp[List.getD_eq_getElem?_getD,List.getElem?_take,hj]
theorem RI.nil(k:IntKind)(w:World)(A:Option Addr):RI k w A 0 []:=⟨rfl,fun h=>absurd h (by omega)⟩
theorem RI.of_blk{k:IntKind}{w:World}{g:Nat}{cs:List Value}{T:TypeId}{xs:List Int}(h:w.heap[g]? =some (.cells cs.toArray T (0,0)))(o:Nat)(hx: ∀j,j<xs.length → cs[o+j]? =some (.int k (xs.getD j 0))):RI k w (some ⟨g,o,none⟩) xs.length xs:=
 ⟨rfl,fun _=>⟨g,o,rfl,fun j hj=>cZ h (hx j hj)⟩⟩
theorem fh{s t e:TypeId}{x:Operand}{A:Option Addr}{n c:Nat}{xs:List Int}(hs:P.underlying s=some (.slice e))(he:P.underlying e=some (.int .u8))(ht:P.underlying t=some .string)(hx:ev ρ x= .slice A n c)(hr:RI .u8 w A n xs)(hA:A=none → n=0):
 Yv P ⟨d,.convert s t x,ty,pos,af,gd⟩ ρ w (.string (strOfNums xs)) w:=by
 have:(convert s t (.slice A n c)).run P w= .ok (.string (strOfNums xs)) w:=by
  rcases Nat.eq_zero_or_pos n with h0|h0
  · subst h0
    have hxs:xs= []:=List.eq_nil_of_length_eq_zero hr.1
    subst hxs
    cases A with
    |none=>exact run_convert_bytes_nil w s e hs he 0 c t ht
    |some a=>
     rw[run_convert_bytes_string w s t e _ 0 c hs he ht,run_bytesToString w a 0 c [] (by simp[loadCells,loadCellsFrom])]
     rfl
  · obtain⟨g,o,rfl,hc⟩:=hr.2 h0
    exact run_convert_bytes_arg w s e hs he g o n c xs hr.1 hc t ht
 unfold Yv;simp[execOp,hx,this]
end
section
variable{P:Program}{n:Nat}{Q:QE}{ρ:dv}{w w':World}{ops:Array Oper}{l:List Oper}{d:Nat}{op:Op}{ty:TypeId}{pos:String}{af:Array Edge}{gd:Option (Nat × Bool)}{v:Value}
theorem wv(hd:Nat.blt d n=true)(hy:Yv P ⟨some d,op,ty,pos,af,none⟩ ρ w v w')(h:WL P n ops l Q (j2 ρ d v) w'):WL P n ops (⟨some d,op,ty,pos,af,none⟩::l) Q ρ w:=
 WL_v (o:=⟨some d,op,ty,pos,af,none⟩) rfl hd hy h
theorem aX(hd:Nat.blt d n=true)(hw:dS ⟨some d,op,ty,pos,af,gd⟩ ops ρ n=true)(hy:Yv P ⟨some d,op,ty,pos,af,gd⟩ ρ w v w')(h:WL P n ops l Q (j2 ρ d v) w'):WL P n ops (⟨some d,op,ty,pos,af,gd⟩::l) Q ρ w:=
 xw (o:=⟨some d,op,ty,pos,af,gd⟩) hw hd hy h
theorem ck(hd:Nat.blt d n=true)(hw:dS ⟨some d,op,ty,pos,af,gd⟩ ops ρ n=false)(h:WL P n ops l Q (j2 ρ d undef) w):WL P n ops (⟨some d,op,ty,pos,af,gd⟩::l) Q ρ w:=
 WL_no (o:=⟨some d,op,ty,pos,af,gd⟩) hw hd h
theorem wm(hd:Nat.blt d n=true)(h:i6 P ⟨some d,op,ty,pos,af,none⟩ ρ w (WL P n ops l Q)):WL P n ops (⟨some d,op,ty,pos,af,none⟩::l) Q ρ w:=
 zI (o:=⟨some d,op,ty,pos,af,none⟩) rfl hd h
theorem wJ(hd:Nat.blt d n=true)(hw:dS ⟨some d,op,ty,pos,af,gd⟩ ops ρ n=true)(h:i6 P ⟨some d,op,ty,pos,af,gd⟩ ρ w (WL P n ops l Q)):WL P n ops (⟨some d,op,ty,pos,af,gd⟩::l) Q ρ w:=
 xx (o:=⟨some d,op,ty,pos,af,gd⟩) hw hd h
theorem ws(h:i6 P ⟨none,op,ty,pos,af,none⟩ ρ w (WL P n ops l Q)):WL P n ops (⟨none,op,ty,pos,af,none⟩::l) Q ρ w:=
 zI (o:=⟨none,op,ty,pos,af,none⟩) rfl rfl h
theorem ac{K:dv → World → Prop}(h:K ρ w):jv K Q .normal ρ w:=h
theorem a7{K:dv → World → Prop}(h:Q .ret ρ w):jv K Q .ret ρ w:=h
theorem ar{K:dv → World → Prop}{i:Nat}(h:Q (.exit i) ρ w):jv K Q (.exit i) ρ w:=h
theorem ak{id:Nat}(h:Q .normal ρ w):pI id Q .normal ρ w:=h
theorem aI{id:Nat}(h:Q .ret ρ w):pI id Q .ret ρ w:=h
theorem aQ{id:Nat}(h:Q .normal ρ w):pI id Q (.exit id) ρ w:=by
 show(if id=id then Q .normal ρ w else Q (.exit id) ρ w)
 rw[if_pos rfl];exact h
theorem nR{id i:Nat}(hne:Nat.beq i id=false)(h:Q (.exit i) ρ w):pI id Q (.exit i) ρ w:=by
 show(if i=id then Q .normal ρ w else Q (.exit i) ρ w)
 rw[if_neg (by intro e;subst e;simp at hne)];exact h
variable{S:World → Prop}{p q r:Plan}{i:Nat}
theorem pt(ho:ops[i]? =some ⟨some d,op,ty,pos,af,none⟩)(hS:S w)(hy: ∀w,S w → Yv P ⟨some d,op,ty,pos,af,none⟩ ρ w v w)(h:PW P n ops Q S p (j2 ρ d v) w):PW P n ops Q S (.take i p) ρ w:=
 z5 hS ho rfl hy h
theorem pr(ho:ops[i]? =some ⟨some d,op,ty,pos,af,none⟩)(h:i6 P ⟨some d,op,ty,pos,af,none⟩ ρ w fun ρ' w'=>S w'∧PW P n ops Q S p ρ' w'):PW P n ops Q S (.run i p) ρ w:=
 oQ ho rfl h
theorem po{K:dv → World → Prop}(ho:ops[i]? =some ⟨some d,op,ty,pos,af,none⟩)(h:i6 P ⟨some d,op,ty,pos,af,none⟩ ρ w K):qS P n ops i K ρ w:=oQ ho rfl h
theorem vA{K:dv → World → Prop}(ho:ops[i]? =some ⟨none,op,ty,pos,af,none⟩)(h:i6 P ⟨none,op,ty,pos,af,none⟩ ρ w K):qS P n ops i K ρ w:=oQ ho rfl h
theorem aa{f:FuncId}{args:Array Value}{R:Ending → World → Prop}{K:Value → World → Prop}(h:Calls P f args w R)(hR: ∀e w',R e w' → ∃v,e= .returned v∧K v w'):Calls P f args w fun e w'=> ∃v,e= .returned v∧K v w':=h.mono hR
end
theorem St.perm{w0 w:World}{M:Nat → Prop}{L L':List Res}(h:St w0 M L w)(hp:L.Perm L'):St w0 M L' w:=
 ⟨h.keep,fun r hr=>h.all r (hp.mem_iff.2 hr),fun r hr=>h.own r (hp.mem_iff.2 hr),(hp.pairwise_iff (fun {r s} hrs g hs hr=>hrs g hr hs)).1 h.sep⟩
section
variable{P:Program}{ρ:dv}{w w0:World}{d:Option Tmp}{ty:TypeId}{pos:String}{af:Array Edge}{gd:Option (Nat × Bool)}{K:dv → World → Prop}{M:Nat → Prop}{L:List Res}
theorem mG{α β:Type}(f:α → β)(xs:Array α){l:List β}(h:xs.toList.map f=l):xs.map f=l.toArray:=by
 subst h;rw[←Array.toList_map]
theorem ec{f:FuncId}{xs:Array Operand}{ts:Array TypeId}{args:List Value}(hf:bg P f)(ha:xs.toList.map (ev ρ)=args)(h:Calls P f args.toArray w fun e w''=> ∃v,e= .returned v∧K (ee ρ d v) w''):
 i6 P ⟨d,.call {callee:= .value (.func f),args:=xs,argTypes:=ts},ty,pos,af,gd⟩ ρ w K:=
 AF hf (mG _ _ ha) h
theorem ei{r:Operand}{name:String}{xs:Array Operand}{ts:Array TypeId}{t:TypeId}{u recv:Value}{f:FuncId}{args:List Value}(hr:ev ρ r= .iface t u)(hm:(method (P.types.size+Made.depth) t u name).run P w= .ok (f,recv) w)(hf:bg P f)
 (ha:xs.toList.map (ev ρ)=args) (h:Calls P f (recv::args).toArray w fun e w''=> ∃v,e= .returned v∧K (ee ρ d v) w''):
 i6 P ⟨d,.call {callee:= .invoke r name,args:=xs,argTypes:=ts},ty,pos,af,gd⟩ ρ w K:=
 xg hr hm hf (by rw[mG _ _ ha];simp) h
theorem yb{t:TypeId}{parts:Array (Nat × Operand)}{ps:List (Nat × Value)}{cells:Array Value}(hp:parts.toList.map (fun p=>(p.1,ev ρ p.2))=ps)(hb:P.built t ps=some cells):Yv P ⟨d,.build t parts,ty,pos,af,gd⟩ ρ w (.agg cells) w:=
 yy (ps:=ps) (by rw[Array.toList_map];exact hp) hb
theorem kt(H:St w0 M L w){t:TypeId}{len:Nat}{parts:Array (Nat × Operand)}{ps:List (Nat × Value)}{e:TypeId}{cs:List Value}(hp:parts.toList.map (fun p=>(p.1,ev ρ p.2))=ps)(hb:kR P t len ps=some (e,cs))
 (h: ∀g w',w.heap.size≤g → St w0 M (an g cs e::L) w' → K (ee ρ d (.slice (some ⟨g,0,none⟩) len len)) w'):i6 P ⟨d,.buildSlice t len parts,ty,pos,af,gd⟩ ρ w K:=
 qi H (ps:=ps) (by rw[Array.toList_map];exact hp) hb h
theorem qU{fn:Fn}{fs cs:Array Operand}{vs:List Value}(hf:fs.toList.map (ev ρ)=vs)(hc:cs.toList= []):Yv P ⟨d,.makeFunc fn fs cs,ty,pos,af,gd⟩ ρ w (.func fn vs.toArray #[]) w:=by
 have h:Yv P ⟨d,.makeFunc fn fs cs,ty,pos,af,gd⟩ ρ w (.func fn (fs.map (ev ρ)) (cs.map (ev ρ))) w:=sE
 rw[mG _ _ hf]at h
 have hc':cs=#[]:=Array.toList_eq_nil_iff.1 hc
 subst hc'
 simpa using h
end
theorem a5{x:Int}(h: -9223372036854775808≤x)(h':x≤9223372036854775807):IntKind.i64.wrap x=x:=by rw[IntKind.wrap_i64];omega
theorem vj{k:IntKind}{x:Int}(hs:k.signed=false)(h:0≤x)(h':x<2 ^ k.bits):k.wrap x=x:=by
 unfold IntKind.wrap
 rw[hs]
 simp only[Bool.false_and,Bool.false_eq_true,if_false]
 exact Int.emod_eq_of_lt h h'
theorem aC{x:Int}(h:0≤x)(h':x≤18446744073709551615):IntKind.u64.wrap x=x:=vj rfl h (by simp only[IntKind.bits];omega)
theorem dm{x:Int}(h:0≤x)(h':x≤4294967295):IntKind.u32.wrap x=x:=vj rfl h (by simp only[IntKind.bits];omega)
theorem kM{x:Int}(h:0≤x)(h':x≤65535):IntKind.u16.wrap x=x:=vj rfl h (by simp only[IntKind.bits];omega)
theorem gM{x:Int}(h:0≤x)(h':x≤255):IntKind.u8.wrap x=x:=vj rfl h (by simp only[IntKind.bits];omega)
theorem Keep.cell{w w':World}{M:Nat → Prop}(h:Keep w M w'){a:Addr}{v:Value}(hc:w.cell? a=some v)(hM: ¬M a.block):w'.cell? a=some v:=
 (World.cell?_of_block (h.block a.block (World.block_lt_of_cell? w a hc) hM)).trans hc
theorem aW(g:Nat): ¬aR g:=fun h=>h
theorem aA{P:Program}{f:FuncId}{fn:Func}{c:Code}{args:List Value}{n:Nat}{w:World}{R:Ending → World → Prop}(hf:P.funcs[f]? =some fn)(hb:fn.body=some c)(hnt:fn.ntmps=n)(hn:Nat.ble args.length n=true)
 (h:W P n c (fun e ρ w'=>(e= .normal∨e= .ret)∧∃v,(∀tmps:Array Value,(∀t,tmps.getD t undef=ρ t) → (results fn tmps).run P w'= .ok v w')∧R (.returned v) w') (A6 args) w):Calls P f args.toArray w R:=by
 subst hnt
 exact sZ hf hb (by simpa using Nat.le_of_ble_eq_true hn) (by simpa using h)
theorem fN{k:Nat}{x:Int}(h0:0≤x)(h:x<2 ^ k):(BitVec.ofInt k x).toNat=x.toNat:=by
 obtain⟨m,rfl⟩:=Int.eq_ofNat_of_zero_le h0
 rw[BitVec.ofInt_natCast,BitVec.toNat_ofNat,Int.toNat_natCast]
 refine Nat.mod_eq_of_lt ?_
 have:((m:Nat):Int)<((2 ^ k:Nat):Int):=by push_cast;exact h
 omega
theorem Ak{j:Nat}{x y:Nat}(hx:x<2 ^ j):y*2 ^ j|||x=y*2 ^ j+x:=by
 rw[Nat.mul_comm,Nat.two_pow_add_eq_or_of_lt hx]
theorem nE{k:IntKind}{j:Nat}{x y z:Int}(hk:k.signed=false)(hj:(2:Int) ^ j*z≤2 ^ k.bits)(hx0:0≤x)(hx:x<2 ^ j)(hy0:0≤y)(hy:y<z):
 k.wrap (BitVec.ofInt k.bits (y*2 ^ j)|||BitVec.ofInt k.bits x).toNat=y*2 ^ j+x:=by
 obtain⟨a,rfl⟩:=Int.eq_ofNat_of_zero_le hx0
 obtain⟨b,rfl⟩:=Int.eq_ofNat_of_zero_le hy0
 have hp:(0:Int)<2 ^ j:=Int.pow_pos (by decide)
 have h1:(b:Int)*2 ^ j+a<2 ^ k.bits:=by
  have:((b:Int)+1)*2 ^ j≤z*2 ^ j:=Int.mul_le_mul_of_nonneg_right (by omega) (by omega)
  rw[Int.mul_comm z]at this
  have h2:((b:Int)+1)*2 ^ j=b*2 ^ j+2 ^ j:=by rw[Int.add_mul];omega
  omega
 have h0:(0:Int)≤b*2 ^ j:=Int.mul_nonneg (by omega) (by omega)
 rw[BitVec.toNat_or,fN h0 (by omega),fN hx0 (by omega)]
 have e:((b:Int)*2 ^ j).toNat=b*2 ^ j:=by
  have:((b:Int)*2 ^ j)=((b*2 ^ j:Nat):Int):=by push_cast;rfl
  rw[this,Int.toNat_natCast]
 have hx':a<2 ^ j:=by
  have:((a:Nat):Int)<((2 ^ j:Nat):Int):=by push_cast;exact hx
  omega
 rw[e,Int.toNat_natCast,Ak hx']
 have:(((b*2 ^ j+a:Nat)):Int)=(b:Int)*2 ^ j+a:=by push_cast;rfl
 rw[this]
 exact vj hk (by omega) h1
theorem ik{k:IntKind}{x y c:Int}(h:k.wrap (BitVec.ofInt k.bits x|||BitVec.ofInt k.bits y).toNat=c):k.wrap (BitVec.ofInt k.bits y|||BitVec.ofInt k.bits x).toNat=c:=by
 rw[BitVec.or_comm];exact h
theorem vD{x y:Int}(h0:0≤x)(h1:x<256)(h2:0≤y)(h3:y<256):IntKind.u16.wrap (BitVec.ofInt IntKind.u16.bits (y*256)|||BitVec.ofInt IntKind.u16.bits x).toNat=y*256+x:=
 nE (k:= .u16) (j:=8) (z:=256) rfl (by decide) h0 (by simpa using h1) h2 h3
theorem pE{x y:Int}(h0:0≤x)(h1:x<256)(h2:0≤y)(h3:y<256):IntKind.u16.wrap (BitVec.ofInt IntKind.u16.bits x|||BitVec.ofInt IntKind.u16.bits (y*256)).toNat=x+y*256:=by
 rw[ik (vD h0 h1 h2 h3)];omega
theorem pG{x y:Int}(h0:0≤x)(h1:x<65536)(h2:0≤y)(h3:y<65536):IntKind.u32.wrap (BitVec.ofInt IntKind.u32.bits (y*65536)|||BitVec.ofInt IntKind.u32.bits x).toNat=y*65536+x:=
 nE (k:= .u32) (j:=16) (z:=65536) rfl (by decide) h0 (by simpa using h1) h2 h3
theorem vC{x y:Int}(h0:0≤x)(h1:x<65536)(h2:0≤y)(h3:y<65536):IntKind.u32.wrap (BitVec.ofInt IntKind.u32.bits x|||BitVec.ofInt IntKind.u32.bits (y*65536)).toNat=x+y*65536:=by
 rw[ik (pG h0 h1 h2 h3)];omega
theorem pF{x y:Int}(h0:0≤x)(h1:x<4294967296)(h2:0≤y)(h3:y<4294967296):IntKind.u64.wrap (BitVec.ofInt IntKind.u64.bits (y*4294967296)|||BitVec.ofInt IntKind.u64.bits x).toNat=y*4294967296+x:=
 nE (k:= .u64) (j:=32) (z:=4294967296) rfl (by decide) h0 (by simpa using h1) h2 h3
theorem vB{x y:Int}(h0:0≤x)(h1:x<4294967296)(h2:0≤y)(h3:y<4294967296):IntKind.u64.wrap (BitVec.ofInt IntKind.u64.bits x|||BitVec.ofInt IntKind.u64.bits (y*4294967296)).toNat=x+y*4294967296:=by
 rw[ik (pF h0 h1 h2 h3)];omega
theorem p8{x:Int}(h0:0≤x)(h1:x<256):IntKind.u16.wrap (x*2 ^ (min (8:Int).toNat IntKind.u16.bits))=x*256:=by
 have e:(2:Int) ^ (min (8:Int).toNat IntKind.u16.bits)=256:=by decide
 rw[e];exact kM (by omega) (by omega)
theorem no{x:Int}(h0:0≤x)(h1:x<65536):IntKind.u32.wrap (x*2 ^ (min (16:Int).toNat IntKind.u32.bits))=x*65536:=by
 have e:(2:Int) ^ (min (16:Int).toNat IntKind.u32.bits)=65536:=by decide
 rw[e];exact dm (by omega) (by omega)
theorem nk{x:Int}(h0:0≤x)(h1:x<4294967296):IntKind.u64.wrap (x*2 ^ (min (32:Int).toNat IntKind.u64.bits))=x*4294967296:=by
 have e:(2:Int) ^ (min (32:Int).toNat IntKind.u64.bits)=4294967296:=by decide
 rw[e];exact aC (by omega) (by omega)
def n2(big:Bool)(l:List Int):Int:=if big then l.getD 1 0+l.getD 0 0*256 else l.getD 0 0+l.getD 1 0*256
def n4(big:Bool)(l:List Int):Int:=if big then n2 true l*65536+n2 true (l.drop 2)else n2 false l+n2 false (l.drop 2)*65536
def n8(big:Bool)(l:List Int):Int:=if big then n4 true l*4294967296+n4 true (l.drop 4)else n4 false l+n4 false (l.drop 4)*4294967296
def Byt(l:List Int):Prop:= ∀j,0≤l.getD j 0∧l.getD j 0<256
theorem Byt.drop{l:List Int}(h:Byt l)(k:Nat):Byt (l.drop k):=fun j=>by
 have:=h (k+j);simpa[List.getD_eq_getElem?_getD]using this
theorem Byt.take{l:List Int}(h:Byt l)(k:Nat):Byt (l.take k):=fun j=>by
 have:=h j
 simp only[List.getD_eq_getElem?_getD,List.getElem?_take]at this ⊢
 split
 · exact this
 · simp
theorem pf(big:Bool){l:List Int}(h:Byt l):0≤n2 big l∧n2 big l<65536:=by
 have h0:=h 0;have h1:=h 1
 unfold n2;split<;>omega
theorem ba(big:Bool){l:List Int}(h:Byt l):0≤n4 big l∧n4 big l<4294967296:=by
 have h0:=pf true h;have h1:=pf true (h.drop 2);have h2:=pf false h;have h3:=pf false (h.drop 2)
 unfold n4;split<;>omega
theorem nJ(big:Bool){l:List Int}(h:Byt l):0≤n8 big l∧n8 big l<18446744073709551616:=by
 have h0:=ba true h;have h1:=ba true (h.drop 4);have h2:=ba false h;have h3:=ba false (h.drop 4)
 unfold n8;split<;>omega
theorem kr(l:List Int)(k j:Nat):l.getD (k+j) 0=(l.drop k).getD j 0:=by simp[List.getD_eq_getElem?_getD]
theorem fI{P:Program}{ρ:dv}{w:World}{d:Option Tmp}{ty:TypeId}{pos:String}{af:Array Edge}{gd:Option (Nat × Bool)}{t e sz:Nat}{x:Operand}{lo hi:Option Operand}{g o len cap l h:Nat}(ht:cJ P t e sz)(hx:ev ρ x= .slice (some ⟨g,o,none⟩) len cap)(hl:pL ρ lo 0 l)(hh:pL ρ hi len h)(h1:l≤h)(h2:h≤cap)(h3:l<cap):
 Yv P ⟨d,.slice t x lo hi none,ty,pos,af,gd⟩ ρ w (.slice (some ⟨g,o+l*sz,none⟩) (h- l) (cap- l)) w:=by
 have:=eo (P:=P) (w:=w) (d:=d) (ty:=ty) (pos:=pos) (af:=af) (gd:=gd) ht hx hl hh h1 h2
 unfold dC at this
 rw[if_neg (by omega)]at this
 simpa[cH]using this
section
variable{P:Program}{ρ:dv}{w:World}{d:Option Tmp}{ty:TypeId}{pos:String}{af:Array Edge}{gd:Option (Nat × Bool)}{t t':Nat}{x y:Operand}{k:IntKind}{a b:Int}{c:Bool}
theorem bj(hx:ev ρ x= .int k a)(hy:ev ρ y= .int k b)(hc:decide (a<b)=c):Yv P ⟨d,.binOp .lss t x y t',ty,pos,af,gd⟩ ρ w (.bool c) w:=hc▸bR hx hy
theorem i8(hx:ev ρ x= .int k a)(hy:ev ρ y= .int k b)(hc:decide (a≤b)=c):Yv P ⟨d,.binOp .leq t x y t',ty,pos,af,gd⟩ ρ w (.bool c) w:=hc▸qZ hx hy
theorem cQ(hx:ev ρ x= .int k a)(hy:ev ρ y= .int k b)(hc:decide (b<a)=c):Yv P ⟨d,.binOp .gtr t x y t',ty,pos,af,gd⟩ ρ w (.bool c) w:=hc▸eM hx hy
theorem fv(hx:ev ρ x= .int k a)(hy:ev ρ y= .int k b)(hc:decide (b≤a)=c):Yv P ⟨d,.binOp .geq t x y t',ty,pos,af,gd⟩ ρ w (.bool c) w:=hc▸jO hx hy
theorem aT(hx:ev ρ x= .int k a)(hy:ev ρ y= .int k b)(hc:(a==b)=c):Yv P ⟨d,.binOp .eql t x y t',ty,pos,af,gd⟩ ρ w (.bool c) w:=hc▸iQ hx hy
theorem cg(hx:ev ρ x= .int k a)(hy:ev ρ y= .int k b)(hc:(a !=b)=c):Yv P ⟨d,.binOp .neq t x y t',ty,pos,af,gd⟩ ρ w (.bool c) w:=hc▸mq hx hy
end
def Glob(T:TypeId)(w:World)(a0 a1:Addr):Prop:=w.cell? ⟨0,0,none⟩=some (.iface T (.pointer (some a0)))∧w.cell? ⟨1,0,none⟩=some (.iface T (.pointer (some a1)))
theorem Glob.keep{T:TypeId}{w w':World}{a0 a1:Addr}{M:Nat → Prop}(h:Glob T w a0 a1)(hk:Keep w M w')(hM: ∀k,M k → 4≤k):Glob T w' a0 a1:=
 ⟨hk.cell h.1 fun hm=>by have:=hM _ hm;simp at this,hk.cell h.2 fun hm=>by have:=hM _ hm;simp at this⟩
def nums(k:IntKind)(xs:List Int):List Value:=xs.map fun x=> .int k x
theorem bQ(k:IntKind)(xs:List Int):(nums k xs).length=xs.length:=by simp[nums]
theorem fV{k:IntKind}{xs:List Int}{j:Nat}(h:j<xs.length):(nums k xs)[j]? =some (.int k (xs.getD j 0)):=by
 simp[nums,List.getElem?_eq_getElem h,List.getD_eq_getElem?_getD]
theorem fA{k:IntKind}{xs:List Int}: ∀v ∈ nums k xs,v.oneCell'=true:=by
 intro v hv;simp only[nums,List.mem_map]at hv;obtain⟨x,_,rfl⟩:=hv;rfl
theorem pX{k:IntKind}{xs:List Int}{j:Nat}{v:Value}(h:(nums k xs)[j]? =some v):j<xs.length∧v= .int k (xs.getD j 0):=by
 have hj:j<xs.length:=by
  rcases Nat.lt_or_ge j xs.length with h1|h1
  · exact h1
  · rw[List.getElem?_eq_none (by rw[bQ];exact h1)]at h;cases h
 rw[fV hj]at h;injection h with h;exact⟨hj,h.symm⟩
theorem RI.src{k:IntKind}{w:World}{A:Option Addr}{n:Nat}{xs:List Int}(h:RI k w A n xs){a:Addr}(hA:A=some a){l m:Nat}(hlm:l+m≤n): ∀j v,(nums k ((xs.drop l).take m))[j]? =some v → w.cell? ((a.add l).add j)=some v:=by
 intro j v hj
 obtain⟨hj1,rfl⟩:=pX hj
 have hl:((xs.drop l).take m).length=m:=by rw[List.length_take,List.length_drop,h.1];omega
 obtain⟨g,o,rfl,hc⟩:=h.2 (by omega)
 injection hA with hA;subst hA
 rw[cH,cH,Nat.add_assoc,hc (l+j) (by omega)]
 simp only[List.getD_eq_getElem?_getD,List.getElem?_take,List.getElem?_drop]
 rw[if_pos (by omega)]
section
variable{P:Program}{ρ:dv}{w:World}{d:Option Tmp}{ty:TypeId}{pos:String}{af:Array Edge}{gd:Option (Nat × Bool)}
theorem sG{t t' T tp te:Nat}{x y:Operand}{a:Addr}{i j:TypeInfo}{ms:Array (String × TypeId)}(ht:P.underlying t=some (.interface ms))(hT:P.underlying T=some (.pointer te))(hi:P.info? T=some i)(hc:i.comparable=true)(hte:P.info? te=some j)(hsz:j.size≠0)
 (hx:ev ρ x= .iface T (.pointer (some a))) (hy:ev ρ y= .iface T (.pointer (some a))):Yv P ⟨d,.binOp .eql t x y t',ty,pos,af,gd⟩ ρ w (.bool true) w:=by
 have h1: ∀k,(Op.equalIn (k+2) t (.iface T (.pointer (some a))) (.iface T (.pointer (some a)))).run P w= .ok true w:=fun k=>by
  simp[Op.equalIn,run_underlying ht,run_underlying hT,typeInfo,hi,hc,sizeOf,hte,run_sameAddr_same,samePointer]
 have h2:(binOp .eql t (.iface T (.pointer (some a))) (.iface T (.pointer (some a)))).run P w= .ok (.bool true) w:=by
  simp only[binOp]
  simp[Op.equal,Op.maxDepth,h1 9998]
 unfold Yv
 simp[execOp,eqGuard,hx,hy,h2]
end
theorem ju{P:Program}{ρ:dv}{w:World}{d:Option Tmp}{ty:TypeId}{pos:String}{af:Array Edge}{gd:Option (Nat × Bool)}{x:Operand}{t:TypeId}{u:Value}(h:ev ρ x= .iface t u):Yv P ⟨d,.nilCheck x,ty,pos,af,gd⟩ ρ w (.iface t u) w:=by
 unfold Yv;simp[execOp,h]
def Rnd(P:Program)(n:Nat)(c:Code)(Q:QE):Nat → dv → World → Prop
 |0,_,_=>False
 |k+1,ρ,w=>W P n c (jv (Rnd P n c Q k) Q) ρ w
theorem du{P:Program}{n k:Nat}{c:Code}{Q:QE}{ρ:dv}{w:World}(h:W P n c (jv (Rnd P n c Q k) Q) ρ w):Rnd P n c Q (k+1) ρ w:=h
theorem ew{P:Program}{n:Nat}{c:Code}{Q:QE}{ρ:dv}{w:World}(k:Nat)(h:Rnd P n c Q k ρ w):W P n (.loop c) Q ρ w:=by
 intro a ha
 refine wp_loop_rounds k ?_
 revert a ρ w
 induction k with
 |zero=>intro ρ w h;exact h.elim
 |succ k ih=>
  intro ρ w h a ha
  rw[rounds_succ]
  refine wp_mono (h a ha) fun e a' w' ⟨ρ',hs,hq⟩=> ?_
  cases e with
  |normal=>exact ih hq a' hs
  | _=>exact⟨ρ',hs,hq⟩
theorem aq{P:Program}{ρ:dv}{w:World}{d:Option Tmp}{ty:TypeId}{pos:String}{af:Array Edge}{gd:Option (Nat × Bool)}{t e:Nat}{x:Operand}{lo hi:Option Operand}{g o o' len cap l h n' c':Nat}(ht:cJ P t e 1)(hx:ev ρ x= .slice (some ⟨g,o,none⟩) len cap)(hl:pL ρ lo 0 l)(hh:pL ρ hi len h)(h1:l≤h)(h2:h≤cap)(h3:l<cap∨l=0)(ho:o+l=o')(hn:h- l=n':=by first|rfl|omega)(hc:cap- l=c':=by first|rfl|omega):
 Yv P ⟨d,.slice t x lo hi none,ty,pos,af,gd⟩ ρ w (.slice (some ⟨g,o',none⟩) n' c') w:=by
 have:=eo (P:=P) (w:=w) (d:=d) (ty:=ty) (pos:=pos) (af:=af) (gd:=gd) ht hx hl hh h1 h2
 subst ho;subst hn;subst hc
 unfold dC at this
 split at this
 · rename_i hcl
   have h0:l=0:=by omega
   subst h0;simpa using this
 · simpa[cH]using this
def uY(P:Program)(t T:TypeId):Prop:=lh P t∧(∃te j,P.underlying T=some (.pointer te)∧P.info? te=some j∧j.size≠0)∧∃i,P.info? T=some i∧i.comparable=true
def xd(P:Program)(T:TypeId):Bool:=(match P.underlying T with
 |some (.pointer te)=>(match P.info? te with|some j=>j.size !=0|none=>false)
 | _=>false) && (match P.info? T with|some i=>i.comparable|none=>false)
theorem xc{P:Program}{t T:TypeId}(ht:lh P t)(h:xd P T=true):uY P t T:=by
 unfold xd at h
 rw[Bool.and_eq_true]at h
 obtain⟨h1,h2⟩:=h
 refine⟨ht,?_,?_⟩
 · split at h1
   · rename_i te hT
     split at h1
     · rename_i j hj;exact⟨te,j,hT,hj,by simpa using h1⟩
     · cases h1
   · cases h1
 · split at h2
   · rename_i i hi;exact⟨i,hi,h2⟩
   · cases h2
theorem mt{P:Program}{ρ:dv}{w:World}{d:Option Tmp}{ty:TypeId}{pos:String}{af:Array Edge}{gd:Option (Nat × Bool)}{t t' T:TypeId}{x y:Operand}{a:Addr}(hE:uY P t T)(hx:ev ρ x= .iface T (.pointer (some a)))(hy:ev ρ y= .iface T (.pointer (some a))):Yv P ⟨d,.binOp .eql t x y t',ty,pos,af,gd⟩ ρ w (.bool true) w:=by
 obtain⟨ht,⟨te,j,h1,h2,h3⟩,i,h4,h5⟩:=hE
 exact sG (tp:=T) ht h1 h4 h5 h2 h3 hx hy
section
variable{P:Program}{ρ:dv}{w w0:World}{d:Option Tmp}{ty:TypeId}{pos:String}{af:Array Edge}{gd:Option (Nat × Bool)}{K:dv → World → Prop}{M:Nat → Prop}{L:List Res}
theorem fL{t t' T:TypeId}{x y:Operand}{a:Addr}(hE:uY P t T)(hx:ev ρ x= .iface T (.pointer (some a)))(hy:ev ρ y= .iface T (.pointer (some a))):Yv P ⟨d,.binOp .neq t x y t',ty,pos,af,gd⟩ ρ w (.bool false) w:=by
 obtain⟨ht,⟨te,j,h1,h2,h3⟩,i,h4,h5⟩:=hE
 have hk: ∀k,(Op.equalIn (k+2) t (.iface T (.pointer (some a))) (.iface T (.pointer (some a)))).run P w= .ok true w:=fun k=>by
  simp[Op.equalIn,run_underlying ht,run_underlying h1,typeInfo,h4,h5,sizeOf,h2,run_sameAddr_same,samePointer]
 have h2:(binOp .neq t (.iface T (.pointer (some a))) (.iface T (.pointer (some a)))).run P w= .ok (.bool false) w:=by
  simp only[binOp]
  simp[Op.equal,Op.maxDepth,hk 9998]
 unfold Yv
 simp[execOp,eqGuard,hx,hy,h2]
theorem bJ(H:St w0 M L w){t e:TypeId}{z:Value}{bytes n m:Nat}{x y:Operand}{kl kc:IntKind}{l c:Int}(ht:P.underlying t=some (.slice e))(hinfo:(P.info? e).map (fun i=>(i.zero,i.size,i.bytes))=some (some z,1,bytes))(hz:z.cells=#[z])(hx:ev ρ x= .int kl l)(hy:ev ρ y= .int kc c)(hl:l= ↑n)(hc:c= ↑m)(hlc:n≤m)(hb:bytes*m≤281474976710656)(h63:m≤9223372036854775807)
 (h: ∀g w',w.heap.size≤g → St w0 M (an g (List.replicate m z) e::L) w' → K (ee ρ d (.slice (some ⟨g,0,none⟩) n m)) w'):i6 P ⟨d,.makeSlice t x y,ty,pos,af,gd⟩ ρ w K:=by
 subst hl;subst hc
 refine qf H (l:= ↑n) (c:= ↑m) ht hinfo hx hy (by omega) (by omega) (by rw[←Int.natCast_mul];omega) (by omega) fun g w' hg H'=> ?_
 rw[hz,toList_madeCells_one,show(↑m:Int).toNat*1=m by rw[Int.toNat_natCast,Nat.mul_one]]at H'
 rw[Int.toNat_natCast,Int.toNat_natCast]
 exact h g w' hg H'
theorem px{t t':Nat}{x y:Operand}{k:IntKind}{a b c:Int}(hx:ev ρ x= .int k a)(hy:ev ρ y= .int k b)(hb:b≠0)(hc:k.wrap (a.tdiv b)=c):Yv P ⟨d,.binOp .quo t x y t',ty,pos,af,gd⟩ ρ w (.int k c) w:=by
 subst hc;unfold Yv;simp[execOp,eqGuard,hx,hy,binOp,Op.intDiv,hb]
def IbOk(P:Program)(f:FuncId):Prop:= ∃fn,P.funcs[f]? =some fn∧(fn.name== "runtime.NumGoroutine")=false∧fn.body.isNone=true∧Extern.findNext fn=none∧Extern.find fn=some Extern.BytealgIndexByte.indexByte
def aF(xs:List Int):List Int:=xs.takeWhile fun x=>x !=0
theorem ou(xs:List Int):(aF xs).length≤xs.length:=by
 induction xs with
 |nil=>simp[aF]
 |cons x l ih=>simp only[aF,List.takeWhile_cons]at ih ⊢;split<;>simp<;>omega
theorem oo(xs:List Int):xs.take (aF xs).length=aF xs:=by
 induction xs with
 |nil=>rfl
 |cons x l ih=>simp only[aF,List.takeWhile_cons]at ih ⊢;split<;>simp[ih]
theorem AA(xs:List Int)(hb:Byt xs):Lib.indexByte (Lib.bytesOf xs) 0=if(aF xs).length<xs.length then((aF xs).length:Int)else-1:=by
 induction xs with
 |nil=>rfl
 |cons x l ih=>
  have h0:0≤x∧x<256:=hb 0
  have hl:Byt l:=hb.drop 1
  have ih:=ih hl
  show(if(UInt8.ofNat x.toNat==0)=true then(0:Int)else if Lib.indexByte (Lib.bytesOf l) 0== -1 then-1 else Lib.indexByte (Lib.bytesOf l) 0+1)= _
  by_cases hx:x=0
  · subst hx;simp[aF]
  · have e:(UInt8.ofNat x.toNat==0)=false:=by
     rw[beq_eq_false_iff_ne]
     intro e
     have:=congrArg UInt8.toNat e
     simp only[UInt8.toNat_ofNat',UInt8.toNat_zero]at this
     omega
    rw[e]
    have hc:aF (x::l)=x::aF l:=by simp[aF,List.takeWhile_cons,hx]
    rw[hc,ih,if_neg (by simp)]
    simp only[List.length_cons]
    split
    · have: ¬(((aF l).length:Int)== -1)=true:=by rw[beq_iff_eq];omega
      rw[if_neg this,if_pos (by omega)];simp
    · simp;omega
theorem e_ib{f:FuncId}(hf:IbOk P f){xs:Array Operand}{ts:Array TypeId}{g o n c:Nat}{ns:List Int}(ha:xs.toList.map (ev ρ)= [.slice (some ⟨g,o,none⟩) n c,.int .u8 0])(hr:RI .u8 w (some ⟨g,o,none⟩) n ns)(hb:Byt ns)
 (h:K (ee ρ d (.int .i64 (if(aF ns).length<ns.length then((aF ns).length:Int)else-1))) w):i6 P ⟨d,.call {callee:= .value (.func f),args:=xs,argTypes:=ts},ty,pos,af,gd⟩ ρ w K:=by
 obtain⟨fn,h1,h2,h3,h4,h5⟩:=hf
 have hc:=run_callFunc_indexByte (P:=P) h1 h2 h3 h4 h5 #[.slice (some ⟨g,o,none⟩) n c,.int .u8 0] w
 have hi:=Lib.run_indexByteSlice (P:=P) w g o n c ns hr.1 (fun i hi=>by
  obtain⟨g',o',e,hcell⟩:=hr.at_ hi
  simp only[Option.some.injEq,Addr.mk.injEq,and_true]at e
  obtain⟨rfl,rfl⟩:=e
  exact hcell) 0
 rw[show((0:Int).toNat.toUInt8)=0 from rfl,AA ns hb]at hi
 refine ic (v:= .int .i64 (if(aF ns).length<ns.length then((aF ns).length:Int)else-1)) (w':=w) ?_ h
 have hx:xs.map (ev ρ)=#[.slice (some ⟨g,o,none⟩) n c,.int .u8 0]:=mG _ _ ha
 rw[hi]at hc
 unfold Yv
 simp[execOp,resolve,ev,Deferred.ofValue,invoke,hx,hc,Result.andThen]
end
theorem RI.take{k:IntKind}{w:World}{A:Option Addr}{n m:Nat}{xs:List Int}(h:RI k w A n xs)(hm:m≤n):RI k w A m (xs.take m):=
 ⟨by rw[List.length_take,h.1];omega,fun h0=>by
  obtain⟨g,o,rfl,hc⟩:=h.2 (by omega)
  exact⟨g,o,Z,fun j hj=>by rw[hc j (by omega)];simp[List.getD_eq_getElem?_getD,List.getElem?_take,hj]⟩⟩
theorem bH{k:IntKind}{w:World}{g:Nat}{T:TypeId}{xs:List Int}(h:(an g (nums k xs) T).φ w):RI k w (some ⟨g,0,none⟩) xs.length xs:=
 RI.of_blk h 0 fun j hj=>by rw[Nat.zero_add];exact fV hj
theorem RI.drop_{k:IntKind}{w:World}{g o n:Nat}{xs:List Int}(h:RI k w (some ⟨g,o,none⟩) n xs)(l:Nat):RI k w (some ⟨g,o+l,none⟩) (n- l) (xs.drop l):=
 ⟨by rw[List.length_drop,h.1],fun h0=>by
  obtain⟨g',o',e,hc⟩:=h.2 (by omega)
  simp only[Option.some.injEq,Addr.mk.injEq,and_true]at e
  obtain⟨rfl,rfl⟩:=e
  exact⟨g,o+l,Z,fun j hj=>by rw[Nat.add_assoc,hc (l+j) (by omega)];simp[List.getD_eq_getElem?_getD]⟩⟩
theorem aj{k:IntKind}{w:World}{g m:Nat}{T:TypeId}{xs:List Int}(h:(an g (nums k xs) T).φ w)(hl:xs.length=m):RI k w (some ⟨g,0,none⟩) m xs:=hl▸bH h
def jj(ys:List Int)(k m:Nat):List Value:=(List.range m).map fun j=>Value.int .u8 (ys.getD (k+j) 0)
theorem gF(ys:List Int)(k m:Nat):(jj ys k m).length=m:=by simp[jj]
theorem sX{ys:List Int}{k m:Nat}: ∀v ∈ jj ys k m,v.oneCell'=true:=by
 intro v hv;simp only[jj,List.mem_map]at hv;obtain⟨x,_,rfl⟩:=hv;rfl
theorem fR{w:World}{g o m k:Nat}{cs:List Value}{T:TypeId}{ys:List Int}(h:(an g cs T).φ w)(hcs:(cs.drop o).take m=jj ys k m)(hl:k+m≤ys.length):RI .u8 w (some ⟨g,o,none⟩) m ((ys.drop k).take m):=by
 refine⟨by rw[List.length_take,List.length_drop];omega,fun _=>⟨g,o,Z,fun j hj=>cZ h ?_⟩⟩
 have h1:((cs.drop o).take m)[j]? =some (.int .u8 (ys.getD (k+j) 0)):=by
  rw[hcs];simp[jj,hj]
 rw[List.getElem?_take,if_pos hj,List.getElem?_drop]at h1
 rw[h1]
 simp[List.getD_eq_getElem?_getD,List.getElem?_take,hj]
theorem RI.src8{w:World}{g o m k n:Nat}{ys:List Int}(h:RI .u8 w (some ⟨g,o,none⟩) n ys)(hk:k+m≤n): ∀j v,(jj ys k m)[j]? =some v → w.cell? ((⟨g,o+k,none⟩:Addr).add j)=some v:=by
 intro j v hj
 have hjm:j<m:=by
  rcases Nat.lt_or_ge j m with h1|h1
  · exact h1
  · rw[List.getElem?_eq_none (by rw[gF];exact h1)]at hj;cases hj
 obtain⟨g',o',e,hc⟩:=h.2 (by omega)
 simp only[Option.some.injEq,Addr.mk.injEq,and_true]at e
 obtain⟨rfl,rfl⟩:=e
 rw[cH,Nat.add_assoc,hc (k+j) (by omega)]
 simp only[jj,List.getElem?_map,List.getElem?_range hjm,Option.map_some]at hj
 exact hj
theorem ku{P:Program}{ρ:dv}{w w0:World}{d:Option Tmp}{ty:TypeId}{pos:String}{af:Array Edge}{gd:Option (Nat × Bool)}{K:dv → World → Prop}{M:Nat → Prop}{L:List Res}(H:St w0 M L w)(i:Nat){s x:Operand}{dT sT e T:TypeId}{g o m dCap sCap k n so:Nat}{g':Nat}{cs cs':List Value}{ys:List Int}(hi:L[i]? =some (an g cs T))(ht:P.underlying dT=some (.slice e))(hs1:(P.info? e).map (·.size)=some 1)
 (hs:ev ρ s= .slice (some ⟨g,o,none⟩) m dCap) (hx:ev ρ x= .slice (some ⟨g',so,none⟩) m sCap) (hr:RI .u8 w (some ⟨g',0,none⟩) n ys) (hso:so=k) (hk:k+m≤n) (hfit:o+m≤cs.length) (hcs:cs.take o++jj ys k m++cs.drop (o+m)=cs')
 {L':List Res} (h: ∀w',St w0 M L' w' → K (ee ρ d (.int .i64 m)) w') (hL:L.set i (an g cs' T)=L':=by first|(simp only[List.set_cons_succ,List.set_cons_zero];rfl)|rfl):i6 P ⟨d,.call {callee:= .builtin .copy,args:=#[s,x],argTypes:=#[dT,sT]},ty,pos,af,gd⟩ ρ w K:=by
 subst hso
 subst hL
 have:=qg (sT:=sT) (d:=d) (ty:=ty) (pos:=pos) (af:=af) (gd:=gd) (K:=K) H i (vs:=jj ys so m) (a:=⟨g',so,none⟩) hi ht hs1 hs hx (by rw[gF];simp) (fun j v hj=>by have:=hr.src8 hk j v hj;rwa [Nat.zero_add]at this) (by rw[gF];exact hfit) sX
 simp only[gF]at this
 rw[hcs]at this
 exact this h
def bo(b:Bool):Int:=if b then 1 else 0
def RV(w:World)(A:Option Addr)(n sz:Nat)(cs:List Value):Prop:=
 cs.length=n*sz∧(0<n → ∃g o,A=some ⟨g,o,none⟩∧∀j,j<n*sz → w.cell? ⟨g,o+j,none⟩=cs[j]?)
theorem RV.keep{w w':World}{A:Option Addr}{n sz:Nat}{cs:List Value}{M:Nat → Prop}(h:RV w A n sz cs)(hk:Keep w M w')(hM: ∀a,A=some a → ¬M a.block):RV w' A n sz cs:=
 ⟨h.1,fun hn=>by
  obtain⟨g,o,rfl,hc⟩:=h.2 hn
  refine⟨g,o,Z,fun j hj=> ?_⟩
  have hlt:=World.block_lt_of_cell? w _ ((hc j hj).trans (List.getElem?_eq_getElem (by rw[h.1];exact hj)))
  rw[World.cell?_of_block (hk.block g hlt (hM _ rfl))]
  exact hc j hj⟩
theorem RV.nil(w:World)(A:Option Addr)(sz:Nat):RV w A 0 sz []:=⟨by simp,fun h=>absurd h (by omega)⟩
theorem RI.rv{k:IntKind}{w:World}{A:Option Addr}{n:Nat}{xs:List Int}(h:RI k w A n xs):RV w A n 1 (nums k xs):=
 ⟨by rw[bQ,h.1,Nat.mul_one],fun hn=>by
  obtain⟨g,o,rfl,hc⟩:=h.2 hn
  exact⟨g,o,Z,fun j hj=>by rw[hc j (by omega),fV (by rw[h.1];omega)]⟩⟩
theorem RV.ri{k:IntKind}{w:World}{A:Option Addr}{n:Nat}{xs:List Int}(h:RV w A n 1 (nums k xs)):RI k w A n xs:=
 ⟨by have:=h.1;rw[bQ,Nat.mul_one]at this;exact this,fun hn=>by
  obtain⟨g,o,rfl,hc⟩:=h.2 hn
  have hl:=h.1
  rw[bQ,Nat.mul_one]at hl
  exact⟨g,o,Z,fun j hj=>by rw[hc j (by omega),fV (by omega)]⟩⟩
theorem aw{w:World}{e sz n:Nat}{v:Value}{xs:List Value}(h:(ay e sz v n xs).φ w): ∃A c,v= .slice A n c∧RV w A n sz xs∧n≤c:=by
 obtain⟨hl,h|⟨g,cap,cur,rfl,_,hg,hnc,_,hcs,ht⟩⟩:=(show w.ownsRow 0 e sz v n xs from h)
 · obtain⟨rfl,rfl⟩:=h
   exact⟨none,0,Z,⟨hl,fun h=>absurd h (by omega)⟩,Nat.le_refl _⟩
 · refine⟨some ⟨g,0,none⟩,cap,Z,⟨hl,fun _=>⟨g,0,Z,fun j hj=> ?_⟩⟩,hnc⟩
   have h1:n*sz≤cap*sz:=Nat.mul_le_mul_right _ hnc
   rw[Nat.zero_add,←ht,List.getElem?_take,if_pos hj]
   simp[World.cell?,hg]
theorem St.addRow{w0 w:World}{M:Nat → Prop}{L:List Res}(h:St w0 M L w)(e sz:Nat):St w0 M (ay e sz (.slice none 0 0) 0 []::L) w:=by
 refine⟨h.keep,?_,?_,.cons ?_ h.sep⟩
 · rintro x (_|⟨_,hx⟩)
   · exact⟨by simp,.inl ⟨Z,Z⟩⟩
   · exact h.all _ hx
 · rintro x (_|⟨_,hx⟩) g hg
   · exact absurd (show none=some g from hg) (by simp)
   · exact h.own _ hx g hg
 · intro s hs g hg
   exact absurd (show none=some g from hg) (by simp)
theorem oX{P:Program}{ρ:dv}{w:World}{d:Option Tmp}{ty:TypeId}{pos:String}{af:Array Edge}{gd:Option (Nat × Bool)}{s x:Operand}{t e:TypeId}{sz n c c':Nat}{A:Option Addr}(ht:P.underlying t=some (.slice e))(hs1:(P.info? e).map (·.size)=some sz)(hs:ev ρ s= .slice A n c)(hx:ev ρ x= .slice none 0 c')(hc:n≤c):
 Yv P ⟨d,.call {callee:= .builtin .append,args:=#[s,x],argTypes:=#[t,t]},ty,pos,af,gd⟩ ρ w (.slice A n c) w:=by
 cases hq:P.info? e with
 |none=>simp[hq]at hs1
 |some i=>
  have hi:i.size=sz:=by simpa[hq]using hs1
  have:(Builtin.append_ #[t,t] ty #[.slice A n c,.slice none 0 c']).run P w= .ok (.slice A n c) w:=by
   cases A<;>simp[Builtin.append_,run_underlying ht,sizeOf,typeInfo,hq,Builtin.lenOf,Builtin.firstCells,hc,storeCells]
  unfold Yv
  simp[execOp,resolve,invoke,builtin,hs,hx,this]
theorem u8_of{x:Int}(h0:0≤x)(h1:x<256)(k:Nat)(hk:k<256):(UInt8.ofNat x.toNat=UInt8.ofNat k) ↔ x=k:=by
 constructor
 · intro e
   have:=congrArg UInt8.toNat e
   simp only[UInt8.toNat_ofNat']at this
   omega
 · rintro rfl;simp
theorem yA{ns:List Int}(hb:Byt ns){i:Nat}(hi:i<ns.length):(((strOfNums ns).extract i (i+1)).toList==(⟨#[46]⟩:ByteArray).toList)=decide (ns.getD i 0=46):=by
 have h:=hb i
 rw[ByteArray.toList_eq,ByteArray.toList_eq]
 have e:((strOfNums ns).extract i (i+1)).data.toList= [UInt8.ofNat (ns.getD i 0).toNat]:=by
  rw[ByteArray.data_extract]
  simp only[strOfNums,Array.toList_extract,List.extract_eq_take_drop]
  rw[show i+1- i=1 by omega,List.drop_eq_getElem_cons (by simpa using hi)]
  simp[List.getD_eq_getElem?_getD,List.getElem?_eq_getElem hi]
 rw[e,Bool.eq_iff_iff]
 simp only[beq_iff_eq,decide_eq_true_eq,List.cons.injEq,and_true]
 exact u8_of h.1 h.2 46 (by decide)
theorem ly{ns:List Int}{x:Int}:x ∈ ns ↔ ∃j,j<ns.length∧ns.getD j 0=x:=by
 constructor
 · intro h
   obtain⟨j,hj,e⟩:=List.mem_iff_getElem.1 h
   exact⟨j,hj,by simp[List.getD_eq_getElem?_getD,List.getElem?_eq_getElem hj,e]⟩
 · rintro⟨j,hj,e⟩
   rw[List.mem_iff_getElem]
   exact⟨j,hj,by simpa[List.getD_eq_getElem?_getD,List.getElem?_eq_getElem hj]using e⟩
theorem sF{P:Program}{ρ:dv}{w:World}{d:Option Tmp}{ty:TypeId}{pos:String}{af:Array Edge}{gd:Option (Nat × Bool)}{t:TypeId}{x:Operand}{ns:List Int}(ht:P.underlying t=some .string)(hx:ev ρ x= .string (strOfNums ns)):Yv P ⟨d,.call {callee:= .builtin .len,args:=#[x],argTypes:=#[t]},ty,pos,af,gd⟩ ρ w (.int .i64 ↑ns.length) w:=by
 have:=lO (P:=P) (w:=w) (d:=d) (ty:=ty) (pos:=pos) (af:=af) (gd:=gd) ht hx
 rwa [strOfNums_size]at this
theorem St.loadA{P:Program}{ρ:dv}{w w0:World}{M:Nat → Prop}{L:List Res}{d:Option Tmp}{ty:TypeId}{pos:String}{af:Array Edge}{gd:Option (Nat × Bool)}(H:St w0 M L w){i g o n:Nat}{cs vs:List Value}{T:TypeId}{t:TypeId}{x:Operand}(hi:L[i]? =some (an g cs T))(ht:iJ P t n)(hx:ev ρ x= .pointer (some ⟨g,o,none⟩))(hv:(cs.drop o).take n=vs)(hl:vs.length=n):
 Yv P ⟨d,.load t x,ty,pos,af,gd⟩ ρ w (.agg vs.toArray) w:=by
 subst hv
 refine H.loadN hi ht hx hl fun j v hj=> ?_
 rw[List.getElem?_take]at hj
 split at hj
 · rwa [List.getElem?_drop]at hj
 · cases hj
theorem St.news{w w0:World}{M:Nat → Prop}{L:List Res}(H:St w0 M L w){i g:Nat}{cs:List Value}{T:TypeId}(hi:L[i]? =some (an g cs T)): ∀j u,cs[j]? =some u → w.cell? ((⟨g,0,none⟩:Addr).add j)=some u:=fun j u hj=>by
 rw[cH,Nat.zero_add];exact H.cell hi hj
theorem bi{P:Program}{ρ:dv}{w:World}{d:Option Tmp}{ty:TypeId}{pos:String}{af:Array Edge}{gd:Option (Nat × Bool)}{t e sz:Nat}{x ix:Operand}{g o o':Nat}{len cap:Nat}{k:IntKind}{i:Int}(j:Nat)(ht:cJ P t e sz)(h:ev ρ x= .slice (some ⟨g,o,none⟩) len cap)(hi:ev ρ ix= .int k i)(hj:i= ↑j)(h1:j<len)(ho:o+j*sz=o'):
 Yv P ⟨d,.indexAddr t x ix,ty,pos,af,gd⟩ ρ w (.pointer (some ⟨g,o',none⟩)) w:=by
 subst hj;subst ho
 have:=aK (P:=P) (w:=w) (d:=d) (ty:=ty) (pos:=pos) (af:=af) (gd:=gd) ht h hi (by omega) (by omega)
 rwa [Int.toNat_natCast,cH]at this
theorem bG{P:Program}{ρ:dv}{w w0:World}{M:Nat → Prop}{L:List Res}{d:Option Tmp}{ty:TypeId}{pos:String}{af:Array Edge}{gd:Option (Nat × Bool)}{K:dv → World → Prop}(H:St w0 M L w)(i:Nat){s x:Operand}{t e:TypeId}{z:Value}{sz bytes n m c:Nat}{v:Value}{xs news:List Value}{a:Addr}(hi:L[i]? =some (ay e sz v n xs))
 (ht:P.underlying t=some (.slice e)) (hinfo:(P.info? e).map (fun i=>(i.zero,i.size,i.bytes))=some (some z,sz,bytes)) (hzs:z.cells.size=sz) (hsz:0<sz) (hs:ev ρ s=v) (hx:ev ρ x= .slice (some a) m c)
 (hl:news.length=m*sz) (hnews: ∀j u,news[j]? =some u → w.cell? (a.add j)=some u) (h1: ∀u ∈ news,u.oneCell'=true) (h63:n+m≤maxLen) (hbytes:(n+m)*bytes≤140737488355328) {L':Value → List Res}
 (h: ∀v' w',St w0 M (L' v') w' → K (ee ρ d v') w') (hL: ∀v',L.set i (ay e sz v' (n+m) (xs++news))=L' v':=by intro v';first|(simp only[List.set_cons_succ,List.set_cons_zero];rfl)|rfl):i6 P ⟨d,.call {callee:= .builtin .append,args:=#[s,x],argTypes:=#[t,t]},ty,pos,af,gd⟩ ρ w K:=
 xh H i hi ht hinfo hzs hsz hs hx hl hnews h1 h63 hbytes fun v' w' H'=>h v' w' (by rw[←hL];exact H')
theorem jT{D:Type}{f:D → List Value}{sz:Nat}(hf: ∀d,(f d).length=sz)(ds:List D):(ds.flatMap f).length=ds.length*sz:=by
 induction ds with
 |nil=>simp
 |cons d l ih=>rw[List.flatMap_cons,List.length_append,ih,hf,List.length_cons,Nat.succ_mul];omega
theorem tD{D:Type}{f:D → List Value}{sz:Nat}(hf: ∀d,(f d).length=sz){ds:List D}{i:Nat}{d:D}(hd:ds[i]? =some d){j:Nat}(hj:j<sz):(ds.flatMap f)[i*sz+j]? =(f d)[j]?:=by
 induction ds generalizing i with
 |nil=>simp at hd
 |cons x l ih=>
  rw[List.flatMap_cons]
  cases i with
  |zero=>
   simp only[List.getElem?_cons_zero,Option.some.injEq]at hd
   subst hd
   rw[Nat.zero_mul,Nat.zero_add,List.getElem?_append_left (by rw[hf];exact hj)]
  |succ i=>
   simp only[List.getElem?_cons_succ]at hd
   rw[List.getElem?_append_right (by rw[hf,Nat.succ_mul];omega),hf,Nat.succ_mul,show i*sz+sz+j- sz=i*sz+j by omega]
   exact ih hd
theorem dV{D:Type}{f:D → List Value}{ds:List D}{i:Nat}{d:D}(hd:ds[i]? =some d):(ds.take (i+1)).flatMap f=(ds.take i).flatMap f++f d:=by
 rw[List.take_add_one,hd,List.flatMap_append];simp
theorem RV.at_{D:Type}{f:D → List Value}{w:World}{A:Option Addr}{n sz:Nat}{ds:List D}(h:RV w A n sz (ds.flatMap f))(hf: ∀d,(f d).length=sz){i:Nat}{d:D}(hd:ds[i]? =some d)(hsz:0<sz):i<n∧∃g o,A=some ⟨g,o,none⟩∧∀j v,(f d)[j]? =some v → w.cell? ⟨g,o+i*sz+j,none⟩=some v:=by
 have hil:i<ds.length:=(List.getElem?_eq_some_iff.1 hd).1
 have hl:=h.1
 rw[jT hf]at hl
 have hn:ds.length=n:=Nat.eq_of_mul_eq_mul_right hsz hl
 refine⟨by omega,?_⟩
 obtain⟨g,o,rfl,hc⟩:=h.2 (by omega)
 refine⟨g,o,Z,fun j v hj=> ?_⟩
 have hjl:j<sz:=by rw[←hf d];exact(List.getElem?_eq_some_iff.1 hj).1
 have h1:i*sz+sz≤n*sz:=by rw[←Nat.succ_mul];exact Nat.mul_le_mul_right _ (by omega)
 rw[Nat.add_assoc,hc (i*sz+j) (by omega),tD hf hd hjl]
 exact hj
theorem RV.len{D:Type}{f:D → List Value}{w:World}{A:Option Addr}{n sz:Nat}{ds:List D}(h:RV w A n sz (ds.flatMap f))(hf: ∀d,(f d).length=sz)(hsz:0<sz):ds.length=n:=by
 have hl:=h.1
 rw[jT hf]at hl
 exact Nat.eq_of_mul_eq_mul_right hsz hl
structure Rel where
 addr:Int
 value:Int
 type:Int
 len:Int
 pcrel:Bool
 extern:Bool
 scattered:Bool
def Rel.cells(r:Rel):List Value:= [.int .u32 r.addr,.int .u32 r.value,.int .u8 r.type,.int .u8 r.len,.bool r.pcrel,.bool r.extern,.bool r.scattered]
theorem fC(r:Rel):r.cells.length=7:=rfl
structure Sym where
 name:List Int
 type:Int
 sect:Int
 desc:Int
 value:Int
def Sym.cells(s:Sym):List Value:= [.string (strOfNums s.name),.int .u8 s.type,.int .u8 s.sect,.int .u16 s.desc,.int .u64 s.value]
theorem Sym.len5(s:Sym):s.cells.length=5:=rfl
theorem dQ{P:Program}{ρ:dv}{w:World}{d:Option Tmp}{ty:TypeId}{pos:String}{af:Array Edge}{gd:Option (Nat × Bool)}{t n:Nat}{x:Operand}{g o:Nat}{cs:List Value}(ht:iJ P t n)(hx:ev ρ x= .pointer (some ⟨g,o,none⟩))(hc: ∀j v,cs[j]? =some v → w.cell? ⟨g,o+j,none⟩=some v)(hl:cs.length=n):
 Yv P ⟨d,.load t x,ty,pos,af,gd⟩ ρ w (.agg cs.toArray) w:=tw ht hx hl hc
theorem zV{P:Program}{ρ:dv}{w:World}{d:Option Tmp}{ty:TypeId}{pos:String}{af:Array Edge}{gd:Option (Nat × Bool)}{t:TypeId}{x:Operand}{A:Option Addr}{n c:Nat}(ht:P.underlying t=some (.slice (P.elem t)))(hx:ev ρ x= .slice A (4*n) c):Yv P ⟨d,.call {callee:= .builtin .len,args:=#[x],argTypes:=#[t]},ty,pos,af,gd⟩ ρ w (.int .i64 (4* ↑n)) w:=by
 have:=aO (P:=P) (w:=w) (d:=d) (ty:=ty) (pos:=pos) (af:=af) (gd:=gd) ht hx
 rwa [show((4*n:Nat):Int)=4* ↑n by omega]at this
def fp(big:Bool)(n:Nat)(ys:List Int):List Int:=(List.range n).map fun i=>n4 big (ys.drop (4*i))
def jP(big:Bool)(n:Nat)(ys:List Int)(i:Nat):List Int:=(List.range n).map fun j=>if j<i then n4 big (ys.drop (4*j))else 0
theorem fT(big:Bool)(n:Nat)(ys:List Int)(i:Nat):(jP big n ys i).length=n:=by simp[jP]
theorem r8(k:IntKind)(xs:List Int)(i:Nat)(x:Int):(nums k xs).set i (.int k x)=nums k (xs.set i x):=by simp[nums,List.map_set]
theorem vk{big:Bool}{n:Nat}{ys:List Int}{i:Nat}(hi:i<n):(jP big n ys i).set i (n4 big (ys.drop (4*i)))=jP big n ys (i+1):=by
 apply List.ext_getElem?
 intro j
 rw[List.getElem?_set]
 simp only[fT]
 by_cases hj:j<n
 · simp only[jP,List.getElem?_map,List.getElem?_range hj,Option.map_some]
   by_cases h:i=j
   · subst h;simp[hi]
   · rw[if_neg h]
     by_cases h2:j<i
     · rw[if_pos h2,if_pos (by omega)]
     · rw[if_neg h2,if_neg (by omega)]
 · rw[if_neg (by omega),List.getElem?_eq_none (by rw[fT];omega),List.getElem?_eq_none (by rw[fT];omega)]
theorem sH(big:Bool)(n:Nat)(ys:List Int):nums .u32 (jP big n ys 0)=List.replicate n (.int .u32 0):=by
 apply List.ext_getElem?
 intro j
 by_cases hj:j<n
 · simp[nums,jP,hj]
 · rw[List.getElem?_eq_none (by rw[bQ,fT];omega),List.getElem?_eq_none (by simp;omega)]
theorem vm(big:Bool)(n:Nat)(ys:List Int):jP big n ys n=fp big n ys:=by
 unfold jP fp
 refine List.map_congr_left fun j hj=> ?_
 rw[if_pos (List.mem_range.1 hj)]
def nv:Value → Nat
 |.int _ i=>i.toNat
 | _=>0
def AssertT(P:Program)(s:TypeId)(z:Value):Prop:=(match P.underlying s with|some (.interface _)|none=>false| _=>true)=true∧(P.info? s).map (·.zero)=some (some z)
section
variable{P:Program}{ρ:dv}{w w0:World}{d:Option Tmp}{ty:TypeId}{pos:String}{af:Array Edge}{gd:Option (Nat × Bool)}{K:dv → World → Prop}{M:Nat → Prop}{L:List Res}
theorem AssertT.get{s:TypeId}{z:Value}(h:AssertT P s z): ∃ds,P.underlying s=some ds∧(match ds with|.interface _=>false| _=>true)=true∧∃i,P.info? s=some i∧i.zero=some z:=by
 obtain⟨h1,h2⟩:=h
 obtain⟨i,hi,hz⟩:=Option.map_eq_some_iff.1 h2
 cases hu:P.underlying s with
 |none=>rw[hu]at h1;cases h1
 |some ds=>
  rw[hu]at h1
  refine⟨ds,Z,?_,i,hi,hz⟩
  cases ds<;>first|rfl|cases h1
theorem fS{t s:Nat}{x:Operand}{v z:Value}(h:AssertT P s z)(hx:ev ρ x= .iface s v):Yv P ⟨d,.typeAssert x t s true,ty,pos,af,gd⟩ ρ w (.tuple #[v,.bool true]) w:=by
 obtain⟨ds,h1,h2,_⟩:=h.get
 exact rd h1 (by cases ds<;>first|rfl|cases h2) hx (fun h=>absurd Z h) (by rw[if_pos Z])
theorem de{t s u:Nat}{x:Operand}{v z:Value}(h:AssertT P s z)(hx:ev ρ x= .iface u v)(hne:Nat.beq u s=false):Yv P ⟨d,.typeAssert x t s true,ty,pos,af,gd⟩ ρ w (.tuple #[z,.bool false]) w:=by
 obtain⟨ds,h1,h2,i,hi,hz⟩:=h.get
 have hn:u≠s:=fun e=>by subst e;simp at hne
 refine rd h1 (by cases ds<;>first|rfl|cases h2) hx (fun _=>⟨i,z,hi,hz⟩) ?_
 rw[if_neg hn]
 intro i' z' h3 h4
 rw[hi]at h3;injection h3 with h3;subst h3
 rw[hz]at h4;injection h4 with h4;subst h4;rfl
theorem pS{t:TypeId}{a:Addr}{v:Value}(ht:dI P t)(hc:w.cell? a=some v):(loadVar t a).run P w= .ok v w:=by
 simp[loadVar,kJ ht,hc]
theorem oc{r:Operand}{name:String}{xs:Array Operand}{ts:Array TypeId}{t ft:TypeId}{a b:Addr}{v:Value}{f:FuncId}{args:List Value}(hr:ev ρ r= .iface t (.pointer (some a)))
 (hm:(method (P.types.size+Made.depth) t (.pointer (some a)) name).run P w=((loadVar ft b)>>=fun v=>pure (f,v)).run P w) (hft:dI P ft) (hc:w.cell? b=some v) (hf:bg P f)
 (ha:xs.toList.map (ev ρ)=args) (h:Calls P f (v::args).toArray w fun e w''=> ∃v,e= .returned v∧K (ee ρ d v) w''):
 i6 P ⟨d,.call {callee:= .invoke r name,args:=xs,argTypes:=ts},ty,pos,af,gd⟩ ρ w K:=by
 refine ei hr (recv:=v) ?_ hf ha h
 rw[hm]
 simp[pS hft hc]
theorem iK{fn:Func}{t:Tmp}{sty:TypeId}{n:Nat}(h:fn.results=#[.cell t sty])(ht:iJ P sty n){g:Nat}{cs:List Value}{T:TypeId}(hv:ρ t= .pointer (some ⟨g,0,none⟩))(hb:(an g cs T).φ w)(hl:cs.length=n):
 ∀tmps:Array Value,(∀t,tmps.getD t undef=ρ t) → (results fn tmps).run P w= .ok (.agg cs.toArray) w:=fun tmps htm=>by
 obtain⟨⟨u,hu,hk⟩,i,hi,hs⟩:=ht
 refine results_cell_row h tmps w g T cs.toArray (0,0) u (by rw[htm,hv]) hb hu ?_ (by rw[hi];simp[hs,hl])
 rcases hk with⟨fs,rfl⟩|⟨m,e,rfl⟩<;>rfl
theorem fy{fn:Func}{t q:Tmp}{sty:TypeId}{n:Nat}(h:fn.results=#[.cell t sty,.tmp q])(ht:iJ P sty n){g:Nat}{cs:List Value}{T:TypeId}{v':Value}(hv:ρ t= .pointer (some ⟨g,0,none⟩))(hb:(an g cs T).φ w)(hl:cs.length=n)(hv':ρ q=v'):
 ∀tmps:Array Value,(∀t,tmps.getD t undef=ρ t) → (results fn tmps).run P w= .ok (.tuple #[.agg cs.toArray,v']) w:=fun tmps htm=>by
 obtain⟨⟨u,hu,hk⟩,i,hi,hs⟩:=ht
 have hl:(loadVar sty ⟨g,0,none⟩).run P w= .ok (.agg cs.toArray) w:=by
  refine run_loadVar_row w g T sty cs.toArray (0,0) u hb hu ?_ (by rw[hi];simp[hs,hl])
  rcases hk with⟨fs,rfl⟩|⟨m,e,rfl⟩<;>rfl
 rw[results_cell_tmp h,htm,htm,hv,hv']
 simp[asAddr,hl,Result.andThen]
end
structure LoadD where
 kind:Int
 raw:List Int
 name:List Int
 nums:List Int
def LoadC(w:World)(c:List Value)(l:LoadD):Prop:=
 ∃A n cc B m bc,c= [.int .i64 l.kind,.slice A n cc,.string (strOfNums l.name),.slice B m bc]∧RI .u8 w A n l.raw∧RI .u64 w B m l.nums∧(A=none → n=0)
theorem RV.keep0{w w':World}{A:Option Addr}{n sz:Nat}{cs:List Value}(h:RV w A n sz cs)(hk:Keep w aR w'):RV w' A n sz cs:=h.keep hk fun _ _=>aW _
theorem RI.keep0{k:IntKind}{w w':World}{A:Option Addr}{n:Nat}{xs:List Int}(h:RI k w A n xs)(hk:Keep w aR w'):RI k w' A n xs:=h.keep hk fun _ _=>aW _
theorem LoadC.keep{w w':World}{c:List Value}{l:LoadD}(h:LoadC w c l)(hk:Keep w aR w'):LoadC w' c l:=by
 obtain⟨A,n,cc,B,m,bc,e,h1,h2,h3⟩:=h
 exact⟨A,n,cc,B,m,bc,e,h1.keep0 hk,h2.keep0 hk,h3⟩
theorem aV{w:World}{e n:Nat}{A:Option Addr}{c:Nat}{k:IntKind}{xs:List Int}(h:(ay e 1 (.slice A n c) n (nums k xs)).φ w):RI k w A n xs:=by
 obtain⟨A',c',e1,h1,_⟩:=aw h
 injection e1 with e1 e2 e3;subst e1
 exact h1.ri
theorem RI.none0{k:IntKind}{w:World}{A:Option Addr}{n:Nat}{xs:List Int}(h:RI k w A n xs):A=none → n=0:=fun e=>by
 rcases Nat.eq_zero_or_pos n with h0|h0
 · exact h0
 · obtain⟨g,o,e',_⟩:=h.2 h0;rw[e]at e';cases e'
theorem LoadC.of{w:World}{e n:Nat}{A B:Option Addr}{c m bc:Nat}{k:Int}{xs nm ns:List Int}(h:(ay e 1 (.slice A n c) n (nums .u8 xs)).φ w)(h2:RI .u64 w B m ns):LoadC w [.int .i64 k,.slice A n c,.string (strOfNums nm),.slice B m bc] ⟨k,xs,nm,ns⟩:=
 ⟨A,n,c,B,m,bc,rfl,aV h,h2,(aV h).none0⟩
def Res.all:List Res → Res
 | []=>⟨fun _=>False,fun _=>True,fun _ _ _ h=>h.elim,fun _ _ _ _=>trivial⟩
 |r::l=>oJ r (Res.all l)
theorem tG{L:List Res}{g:Nat}(h:(Res.all L).F g): ∃r ∈ L,r.F g:=by
 induction L with
 |nil=>exact h.elim
 |cons x l ih=>
  rcases h with h|h
  · exact⟨x,by simp,h⟩
  · obtain⟨r,hr,hg⟩:=ih h;exact⟨r,by simp[hr],hg⟩
theorem aS{L:List Res}{w:World}:(Res.all L).φ w ↔ ∀r ∈ L,r.φ w:=by
 induction L with
 |nil=>simp[Res.all]
 |cons x l ih=>simp[Res.all,oJ,ih]
theorem St.pool{w0 w:World}{M:Nat → Prop}{L1 L2:List Res}(h:St w0 M (L1++L2) w):St w0 M (Res.all L1::L2) w:=by
 have hp:=List.pairwise_append.1 h.sep
 refine⟨h.keep,?_,?_,.cons ?_ hp.2.1⟩
 · rintro x (_|⟨_,hx⟩)
   · exact aS.2 fun r hr=>h.all r (by simp[hr])
   · exact h.all x (List.mem_append_right _ hx)
 · rintro x (_|⟨_,hx⟩) g hg
   · obtain⟨r,hr,hg⟩:=tG hg;exact h.own r (by simp[hr]) g hg
   · exact h.own x (List.mem_append_right _ hx) g hg
 · intro s hs g hg
   obtain⟨r,hr,hg⟩:=tG hg
   exact hp.2.2 r hr s hs g hg
theorem RV.at1{w:World}{A:Option Addr}{n i:Nat}{vs:List Value}{v:Value}(h:RV w A n 1 vs)(hi:vs[i]? =some v):i<n∧∃g o,A=some ⟨g,o,none⟩∧w.cell? ⟨g,o+i,none⟩=some v:=by
 have hil:=(List.getElem?_eq_some_iff.1 hi).1
 have hl:=h.1
 rw[Nat.mul_one]at hl
 obtain⟨g,o,e,hc⟩:=h.2 (by omega)
 exact⟨by omega,g,o,e,by rw[hc i (by omega),hi]⟩
structure PartD where
 name:List Int
 seg:List Int
 nums:List Int
 rels:List Rel
 data:List Int
 ok:Bool
structure PartV where
 p:PartD
 vn:Value
 vr:Value
 vd:Value
def PartV.cells(x:PartV):List Value:= [.string (strOfNums x.p.name),.string (strOfNums x.p.seg),x.vn,x.vr,x.vd,.bool x.p.ok]
theorem PartV.len6(x:PartV):x.cells.length=6:=rfl
def SlI'(k:IntKind)(w:World)(v:Value)(xs:List Int):Prop:= ∃A n c,v= .slice A n c∧RI k w A n xs
def SlV(w:World)(v:Value)(sz:Nat)(cs:List Value):Prop:= ∃A n c,v= .slice A n c∧RV w A n sz cs
def PartV.ok(w:World)(x:PartV):Prop:=SlI' .u64 w x.vn x.p.nums∧SlV w x.vr 7 (x.p.rels.flatMap Rel.cells)∧SlI' .u8 w x.vd x.p.data
theorem SlI'.keep{k:IntKind}{w w':World}{v:Value}{xs:List Int}(h:SlI' k w v xs)(hk:Keep w aR w'):SlI' k w' v xs:=by
 obtain⟨A,n,c,e,h1⟩:=h
 exact⟨A,n,c,e,h1.keep0 hk⟩
theorem SlV.keep{w w':World}{v:Value}{sz:Nat}{cs:List Value}(h:SlV w v sz cs)(hk:Keep w aR w'):SlV w' v sz cs:=by
 obtain⟨A,n,c,e,h1⟩:=h
 exact⟨A,n,c,e,h1.keep0 hk⟩
theorem PartV.ok.keep{w w':World}{x:PartV}(h:x.ok w)(hk:Keep w aR w'):x.ok w':=⟨h.1.keep hk,h.2.1.keep hk,h.2.2.keep hk⟩
end Go.Proofs.YtlndedfkgiafhaaDoor
