import Derived.Test.YtlndedfkgiafhaaDoorRowBase
import Derived.Test.YtlndedfkgiafhaaDoorRows
import Derived.Test.YtlndedfkgiafhaaDoorCards
import Derived.Test.YtlndedfkgiafhaaDoorTie
set_option linter.unusedVariables false
set_option linter.unusedSimpArgs false
set_option maxRecDepth 100000
set_option maxHeartbeats 4000000
namespace Go.Proofs.YtlndedfkgiafhaaDoor
open Go Go.ChangeShapes Go.WideShapes Go.ChangeAt Go.RowKit
theorem fE{H:Type}{enc:TypeId × Value → H}{W:World}{base:Nat}{v:Value}{d:DataW H}{p:List MemPlace}{t e:TypeId}{k:IntKind}(ht:Tryd.prog.underlying t=some (.slice e))(he:Tryd.prog.underlying e=some (.int k))(hce:Tryd.prog.cellsOf e=1)(hval:Value.okWide Tryd.prog W .any base t v)(h:DataW.Trod enc Tryd.prog W 0 (fun _=>true) true t v d p):
 ∃(A:Option Addr) (N C:Nat) (xs:List Int),v= .slice A N C∧N≤C∧C≤maxLen∧RI k W A N xs∧∀n ∈ xs,(Lit.int k n).wf=true:=by
 obtain⟨x,y,z,rfl⟩:=okWide_slice ht hval
 obtain⟨fuel,h⟩:=h
 rcases open_ints ht he hce h with⟨e,_⟩|⟨a,len,cap,zs,e,_,hl,hm,hz,_,hc,hw⟩
 · simp[Value.cells]at e
   obtain⟨rfl,rfl,rfl⟩:=e
   exact⟨none,0,0,[],rfl,Nat.le_refl _,Nat.zero_le _,RI.nil _ _ _,fun _ h=>by cases h⟩
 · simp[Value.cells]at e
   obtain⟨rfl,rfl,rfl⟩:=e
   simp only[if_true]at hz
   refine⟨some a,y,z,zs.take y,rfl,hl,hm,⟨by rw[List.length_take];omega,fun h0=> ?_⟩,fun n hn=>hw n (List.mem_of_mem_take hn)⟩
   obtain⟨b,off,ea,hcell⟩:=ints_at hc (by omega)
   refine⟨b,off,by rw[ea],fun j hj=> ?_⟩
   rw[hcell j (by omega)]
   simp[List.getD_eq_getElem?_getD,List.getElem?_take,hj]
theorem q0q{xs:List Int}{p:Int → Prop}(h: ∀n ∈ xs,p n)(h0:p 0)(i:Nat):p (xs.getD i 0):=by
 rw[List.getD_eq_getElem?_getD]
 cases hq:xs[i]? with
 |none=>exact h0
 |some x=>exact h x (List.mem_of_getElem? hq)
theorem ow{xs:List Int}(h: ∀n ∈ xs,(Lit.int .u8 n).wf=true):Byt xs:=q0q (p:=fun n=>0≤n∧n<256) (fun n hn=>by have:=bounds_u8 (h n hn);omega) (by omega)
theorem zX{xs:List Int}(h: ∀n ∈ xs,(Lit.int .u16 n).wf=true): ∀i,0≤xs.getD i 0∧xs.getD i 0<65536:=q0q (p:=fun n=>0≤n∧n<65536) (fun n hn=>by have:=bounds_u16 (h n hn);omega) (by omega)
theorem sK{xs:List Int}(h: ∀n ∈ xs,(Lit.int .u32 n).wf=true):W32 xs:=q0q (p:=fun n=>0≤n∧n<4294967296) (fun n hn=>by have:=bounds_u32 (h n hn);omega) (by omega)
theorem sJ{xs:List Int}(h: ∀n ∈ xs,(Lit.int .u64 n).wf=true): ∀i,0≤xs.getD i 0∧xs.getD i 0≤18446744073709551615:=q0q (p:=fun n=>0≤n∧n≤18446744073709551615) (fun n hn=>bounds_u64 (h n hn)) (by omega)
theorem lU{H:Type}{enc:TypeId × Value → H}{W W':World}(hb:Below W.heap.size W W')(ts:List TypeId)(hr: ∀t ∈ ts,Tryd.prog.readableRec t=true∧t<Tryd.prog.types.size):
 ∀(vs:List Value) (ds:List (DataW H)) (ps:List MemPlace),DataW.TrodAll enc Tryd.prog W 0 (fun _=>true) true ts vs ds ps → (∀x ∈ ps,x.block<W.heap.size) → DataW.TrodAll enc Tryd.prog W' 0 (fun b=>decide (b<W.heap.size)) true ts vs ds ps:=by
 induction ts with
 |nil=>
  intro vs ds ps h _
  obtain⟨h1,h2,h3⟩:=trodAll_nil h
  rw[h1,h2,h3];exact trodAll_mk0
 |cons t ts ih=>
  intro vs ds ps h hl
  obtain⟨v,vs',d,ds',p,q,h1,h2,h3,h4,h5⟩:=trodAll_cons h
  rw[h3]at hl
  rw[h1,h2,h3]
  have ht:=hr t (List.mem_cons_self ..)
  exact trodAll_cons_mk (Below.trod qo ht.1 ht.2 h4 hb fun x hx=>hl x (List.mem_append_left _ hx)) (ih (fun t ht=>hr t (List.mem_cons_of_mem _ ht)) vs' ds' q h5 fun x hx=>hl x (List.mem_append_right _ hx))
theorem six{args:Array Value}{v1 v2 v3 v4 v5 v6:Value}(h:args.toList= [v1,v2,v3,v4,v5,v6]):args=#[v1,v2,v3,v4,v5,v6]:=by
 cases args;simp_all
end Go.Proofs.YtlndedfkgiafhaaDoor
