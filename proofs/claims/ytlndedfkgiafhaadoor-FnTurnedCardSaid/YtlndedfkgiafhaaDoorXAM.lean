import Derived.Test.YtlndedfkgiafhaaDoorXAL
set_option linter.unusedVariables false
set_option linter.unusedSimpArgs false
set_option maxRecDepth 100000
set_option maxHeartbeats 4000000
namespace Go.Proofs.YtlndedfkgiafhaaDoor
open Go Go.RowKit
theorem lS{k:IntKind}{ys:List Int}{z:Int}:nums k ys++ [.int k z]=nums k (ys++ [z]):=by simp[nums]
theorem bm{k:IntKind}{ys zs:List Int}:nums k ys++nums k zs=nums k (ys++zs):=by simp[nums]
theorem u8_b(z:Int):0≤IntKind.u8.wrap z∧IntKind.u8.wrap z<256:=by
 rw[show IntKind.u8.wrap z=z%256 from rfl];omega
theorem Byt.app{ys zs:List Int}(h:Byt ys)(hz:Byt zs):Byt (ys++zs):=fun i=>by
 rw[List.getD_eq_getElem?_getD,List.getElem?_append]
 split
 · have:=h i;rwa [List.getD_eq_getElem?_getD]at this
 · have:=hz (i- ys.length);rwa [List.getD_eq_getElem?_getD]at this
theorem Byt.nil:Byt []:=fun i=>by simp
theorem Byt.one{z:Int}(hz:0≤z∧z<256):Byt [z]:=fun i=>by
 cases i with
 |zero=>exact hz
 |succ i=>simp
theorem Byt.snoc{ys:List Int}{z:Int}(h:Byt ys)(hz:0≤z∧z<256):Byt (ys++ [z]):=h.app (Byt.one hz)
theorem uZ(n:Nat):Byt (List.replicate n 0):=fun i=>by
 rw[List.getD_eq_getElem?_getD,List.getElem?_replicate];split<;>simp
section
variable{P:Program}
def Mk(fz:Nat × Nat)(n:Nat):Prop:=fz.2=0∨n≤fz.1
theorem wN(P:Program)(g o:Nat)(t:TypeId)(fz:Nat × Nat): ∀(vs:List Value) (i:Nat) (cur:Array Value) (w:World),w.heap[g]? =some (.cells cur t fz) → Mk fz cur.size → o+i+vs.length≤cur.size → (∀v ∈ vs,v.oneCell'=true) →
 (storeCells ⟨g,o,none⟩ vs i).run P w= .ok () (w.setRow g (cur.toList.take (o+i)++vs++cur.toList.drop (o+i+vs.length)).toArray)
 | [],i,cur,w,hg,_,_,_=>by
  simp only[storeCells,List.append_nil,List.length_nil,Nat.add_zero,List.take_append_drop,Array.toArray_toList]
  rw[setRow_self w g cur t fz hg]
  rfl
 |v::rest,i,cur,w,hg,hfz,hl,h1=>by
  have hi:o+i<cur.size:=by simp at hl;omega
  have hadd:(⟨g,o,none⟩:Addr).add i=⟨g,o+i,none⟩:=by unfold Addr.add;split<;>simp_all
  have hcell:w.cell? ⟨g,o+i,none⟩=some cur[o+i]:=by simp[World.cell?,hg,hi]
  have hfro:w.frozen? ⟨g,o+i,none⟩=false:=by
   obtain⟨lo,hi'⟩:=fz
   simp only[World.frozen?,hg,Bool.and_eq_false_iff,decide_eq_false_iff_not]
   rcases hfz with h|h<;>simp only at h
   · right;omega
   · left;omega
  have hst:(store ((⟨g,o,none⟩:Addr).add i) v).run P w= .ok () (w.setRow g (cur.setIfInBounds (o+i) v)):=by
   rw[hadd,run_store P w _ v _ (h1 v (by simp)),hcell]
   simp[hfro,setCell_eq_setRow w g (o+i) cur t fz v hg]
  have ih:=wN P g o t fz rest (i+1) (cur.setIfInBounds (o+i) v) (w.setRow g (cur.setIfInBounds (o+i) v)) (setRow_heap w g cur _ t _ hg) (by simpa using hfz) (by simp at hl ⊢;omega) (fun x hx=>h1 x (by simp[hx]))
  simp only[storeCells,Sem.run_bind,hst,Result.andThen_ok,ih,setRow_setRow]
  congr 3
  have e:=list_seg_step cur.toList (o+i) v rest (by simp at hl ⊢;omega)
  simpa[Array.toList_setIfInBounds,Nat.add_assoc]using e
theorem rp{w:World}{g sLen sz:Nat}{cur:Array Value}{e:TypeId}{fz:Nat × Nat}{news:List Value}(hg:w.heap[g]? =some (.cells cur e fz))(hz:Mk fz cur.size)(hfit:sLen*sz+news.length≤cur.size)(h1: ∀u ∈ news,u.oneCell'=true):
 (storeCells ((⟨g,0,none⟩:Addr).add (sLen*sz)) news).run P w= .ok () (w.setRow g (cur.toList.take (sLen*sz)++news++cur.toList.drop (sLen*sz+news.length)).toArray):=by
 have hst:=wN P g (sLen*sz) e fz news 0 cur w hg hz (by simpa using hfit) h1
 simp only[Nat.add_zero]at hst
 rw[Addr.add_lit,Nat.zero_add]
 exact hst
structure App (P : Program) (t tx ty e : TypeId) (sz : Nat) (z x : Value) (m : Nat) (news : List Value) (bytes : Nat) (w : World) : Prop where
 hl:news.length=m*sz
 one: ∀u ∈ news,u.oneCell'=true
 nil:m=0 → (Builtin.append_ #[t,tx] ty #[.slice none 0 0,x]).run P w= .ok (.slice none 0 0) w
 room: ∀g sLen sCap cur fz,w.heap[g]? =some (.cells cur e fz) → Mk fz cur.size → sLen+m≤sCap → sLen*sz+news.length≤cur.size →
  (Builtin.append_ #[t,tx] ty #[.slice (some ⟨g,0,none⟩) sLen sCap,x]).run P w= .ok (.slice (some ⟨g,0,none⟩) (sLen+m) sCap) (w.setRow g (cur.toList.take (sLen*sz)++news++cur.toList.drop (sLen*sz+news.length)).toArray)
 grow: ∀base sLen sCap olds,(Builtin.firstCells sz sLen (.slice base sLen sCap)).run P w.drew= .ok olds.toArray w.drew → sCap<sLen+m → ((sLen+m:Nat):Int)≤9223372036854775807 → Builtin.nextslicecap (sLen+m) sCap*bytes≤281474976710656 → m*bytes≤281474976710656 →
  (Builtin.append_ #[t,tx] ty #[.slice base sLen sCap,x]).run P w= .ok (.slice (some ⟨w.heap.size,0,none⟩) (sLen+m) (grownCap w (sLen+m) sCap e)) (w.drew.alloc (.cells ((olds++news).toArray++Builtin.zeroCells z.cells (grownCap w (sLen+m) sCap e-(sLen+m))) e))
theorem App.src{t tx ty e:TypeId}{z x:Value}{sz m bytes:Nat}{news:List Value}{w:World}(ht:P.underlying t=some (.slice e))(hinfo:(P.info? e).map (fun i=>(i.zero,i.size,i.bytes))=some (some z,sz,bytes))(hs:Src P sz tx x m news w):App P t tx ty e sz z x m news bytes w:=by
 obtain⟨i,hi,hz⟩:=Option.map_eq_some_iff.1 hinfo
 simp only[Prod.mk.injEq]at hz
 obtain⟨hz0,rfl,rfl⟩:=hz
 refine⟨hs.newsLen,hs.one,fun hm=> ?_,fun g sLen sCap cur fz hg hz' hr hf=> ?_,fun base sLen sCap olds ho hg h63 hfit _=>run_append_grow_src w t tx ty e i z ht hi hz0 base sLen sCap olds ho x m news hs hg h63 hfit⟩
 · have hn:news= []:=List.eq_nil_of_length_eq_zero (by rw[hs.newsLen,hm,Nat.zero_mul])
   subst hm;subst hn
   rcases hs.kind with⟨e',hk⟩|hk<;>simp[Builtin.append_,run_underlying ht,run_underlying hk,sizeOf,typeInfo,hi,hs.len,hs.cells]
 · have hst:=rp (P:=P) hg hz' hf hs.one
   rcases hs.kind with⟨e',hk⟩|hk<;>simp[Builtin.append_,run_underlying ht,run_underlying hk,sizeOf,typeInfo,hi,hs.len,hr,hs.cells,hst]
theorem kI{z:Value}(hz:z.cells=#[z])(m:Nat):Builtin.zeroCells z.cells m=(List.replicate m z).toArray:=by
 rw[hz];apply Array.ext';simp[Builtin.zeroCells];apply List.ext_getElem?;intro j
 rw[List.getElem?_map,List.getElem?_replicate]
 by_cases hj:j<m
 · rw[List.getElem?_range hj,if_pos hj,Option.map_some,Nat.mod_one];rfl
 · rw[if_neg hj,List.getElem?_eq_none (by simpa using hj)];rfl
theorem wC{t tn ty e:TypeId}{z:Value}{m bytes:Nat}{kq kn:IntKind}{w:World}(ht:P.underlying t=some (.slice e))(htn:P.underlying tn=some (.int kn))(hinfo:(P.info? e).map (fun i=>(i.zero,i.size,i.bytes))=some (some z,1,bytes))(hz:z.cells=#[z])(h1:z.oneCell'=true)(h0:0<m)(hm:m*bytes≤281474976710656)(h63:m≤9223372036854775807):
 App P t tn ty e 1 z (.int kq m) m (List.replicate m z) bytes w:=by
 obtain⟨i,hi,hzi⟩:=Option.map_eq_some_iff.1 hinfo
 simp only[Prod.mk.injEq]at hzi
 obtain⟨hz0,hs1,rfl⟩:=hzi
 have one: ∀u ∈ List.replicate m z,u.oneCell'=true:=fun u hu=>by rw[(List.mem_replicate.1 hu).2];exact h1
 have hw:IntKind.i64.wrap (m:Int)=m:=by rw[IntKind.wrap_i64];omega
 have h48i: ¬(281474976710656<(m:Int)*(i.bytes:Int)):=by rw[←Int.natCast_mul];omega
 have hneg: ¬((m:Int)<0):=by omega
 have hk:m≠0:=by omega
 refine⟨by simp,one,fun h=>by omega,fun g sLen sCap cur fz hg hz' hr hf=> ?_,fun base sLen sCap olds ho hg h63 hfit h48=> ?_⟩
 · have hst:=rp (P:=P) hg hz' hf one
   rw[Nat.mul_one]at hst
   simp[Builtin.append_,run_underlying ht,run_underlying htn,sizeOf,typeInfo,zeroValue,hi,hs1,hz0,asInt,asIntOf,hw,hneg,hk,h48i,hr,kI hz]
   rw[show List.replicate m z=List.replicate m z from rfl,hst]
   simp
 · have:=Lib.run_append_grow_zeros (P:=P) w t tn ty e i z kq kn ht htn hi hz0 base sLen sCap olds (by rw[hs1];exact ho) m h0 (by omega) hg h63 h48 hfit
   rw[this,kI hz m]
   congr 3
   apply Array.ext'
   simp
theorem rn(w:World)(base:Nat){t tx ty e:TypeId}{z x v:Value}{sz m bytes n:Nat}{xs news:List Value}(hA:App P t tx ty e sz z x m news bytes w)(hzs:z.cells.size=sz)(hsz:0<sz)(hown:w.ownsRow base e sz v n xs)
 (h63:n+m≤maxLen) (hbytes:(n+m)*bytes≤140737488355328) (hbase:base≤w.heap.size):
 ∃v' w',(Builtin.append_ #[t,tx] ty #[v,x]).run P w= .ok v' w'∧w'.ownsRow base e sz v' (n+m) (xs++news)∧w.grownBy w' v.ownBlock∧(v'.ownBlock=v.ownBlock∨v'.ownBlock=some w.heap.size):=by
 have hsmall:n+m≤9223372036854775807:=by simp only[maxLen]at h63;omega
 have hm48:m*bytes≤281474976710656:=Nat.le_trans (Nat.mul_le_mul_right _ (Nat.le_add_left m n)) (Nat.le_trans hbytes (by decide))
 have hl:=hA.hl
 have hlen:(xs++news).length=(n+m)*sz:=by rw[List.length_append,hown.1,hl,Nat.add_mul]
 have grown: ∀(old:Nat),old<n+m → ∀(ay:Option Nat),
  (w.drew.alloc (.cells ((xs++news).toArray++Builtin.zeroCells z.cells (grownCap w (n+m) old e-(n+m))) e)).ownsRow base e sz
   (.slice (some ⟨w.heap.size,0,none⟩) (n+m) (grownCap w (n+m) old e)) (n+m) (xs++news)∧
  w.grownBy (w.drew.alloc (.cells ((xs++news).toArray++Builtin.zeroCells z.cells (grownCap w (n+m) old e-(n+m))) e)) ay:=by
  intro old ho ay
  have hge:=grownCap_ge w (n+m) old e
  have hcm:grownCap w (n+m) old e≤maxLen:=grownCap_le_maxLen w (n+m) old e h63
  refine⟨⟨hlen,.inr ⟨w.heap.size,_,_,Z,hbase,heap_alloc_new w.drew _,hge,hcm,?_,?_⟩⟩,⟨Z,Z,Z,by simp,fun k hk _=>heap_alloc_old w.drew _ hk⟩⟩
  · simp only[Array.size_append,List.size_toArray,size_zeroCells,hzs,hlen,←Nat.add_mul]
    congr 1
    omega
  · simp only[Array.toList_append]
    rw[←hlen]
    exact List.take_left
 rcases hown.2 with⟨rfl,rfl⟩|⟨g,cap,cur,rfl,hbg,hg,hnc,hcm,hcs,htake⟩
 · have hx:xs= []:=List.eq_nil_of_length_eq_zero (by simpa using hown.1)
   subst hx
   by_cases hm:m=0
   · have hn:news= []:=List.eq_nil_of_length_eq_zero (by rw[hl,hm,Nat.zero_mul])
     have hr:=hA.nil hm
     subst hm;subst hn
     exact⟨.slice none 0 0,w,hr,World.ownsRow_nil w base e sz,⟨Z,Z,Z,Nat.le_refl _,fun _ _ _=>Z⟩,Or.inl Z⟩
   · have hr:=hA.grow none 0 0 [] (run_firstCells_none w.drew sz 0 0 0) (by omega) (by omega) (by rw[nextslicecap_zero (by omega)];simpa using hm48) hm48
     have hgr:=grown 0 (by omega) (Value.ownBlock (.slice none 0 0))
     exact⟨_,_,hr,hgr.1,hgr.2,Or.inr Z⟩
 · by_cases hroom:n+m≤cap
   · have hfit:n*sz+news.length≤cur.size:=by rw[hl,hcs,←Nat.add_mul];exact Nat.mul_le_mul_right _ hroom
     have hr:=hA.room g n cap cur (0,0) hg (.inl rfl) hroom hfit
     refine⟨_,_,hr,⟨hlen,.inr ⟨g,cap,_,Z,hbg,setRow_heap w g cur _ e _ hg,hroom,hcm,?_,?_⟩⟩,⟨Z,Z,Z,by simp,fun k _ hk=>setRow_other w g k _ (fun e=>hk (by simp[Value.ownBlock,e]))⟩,Or.inl Z⟩
     · simp only[List.size_toArray,List.length_append,List.length_take,List.length_drop,Array.length_toList]
       omega
     · rw[htake,←hlen]
       exact List.take_left
   · have holds: ∀j u,xs[j]? =some u → w.cell? ((⟨g,0,none⟩:Addr).add j)=some u:=hown.cells (g:=g) rfl
     have hr:=hA.grow (some ⟨g,0,none⟩) n cap xs (run_firstCells_some (P:=P) w.drew sz n ⟨g,0,none⟩ n cap xs hown.1 (by simpa using holds)) (by omega) (by omega) (growslice_fits (by omega) hbytes) hm48
     have hgr:=grown cap (by omega) (Value.ownBlock (.slice (some ⟨g,0,none⟩) n cap))
     exact⟨_,_,hr,hgr.1,hgr.2,Or.inr Z⟩
variable{ρ:dv}{w w0:World}{M:Nat → Prop}{L:List Res}{d:Option Tmp}{ty:TypeId}{pos:String}{af:Array Edge}{gd:Option (Nat × Bool)}{K:dv → World → Prop}
theorem bY(H:St w0 M L w)(i:Nat){s x:Operand}{t tx e:TypeId}{z xv:Value}{sz bytes n m:Nat}{v:Value}{xs news:List Value}(hi:L[i]? =some (ay e sz v n xs))(hs:ev ρ s=v)(hx:ev ρ x=xv)
 (hA: ∀ty,App P t tx ty e sz z xv m news bytes w) (hzs:z.cells.size=sz) (hsz:0<sz) (h63:n+m≤maxLen) (hbytes:(n+m)*bytes≤140737488355328) {L':Value → List Res}
 (h: ∀v' w',St w0 M (L' v') w' → K (ee ρ d v') w') (hL: ∀v',L.set i (ay e sz v' (n+m) (xs++news))=L' v':=by intro v';first|(simp only[List.set_cons_succ,List.set_cons_zero];rfl)|rfl):i6 P ⟨d,.call {callee:= .builtin .append,args:=#[s,x],argTypes:=#[t,tx]},ty,pos,af,gd⟩ ρ w K:=by
 obtain⟨v',w',hr,h2,h3,h5⟩:=rn (P:=P) w 0 (hA ty) hzs hsz (H.get hi) h63 hbytes (Nat.zero_le _)
 refine ic (v:=v') (w':=w') ?_ (h v' w' (hL v'▸H.move hi (r':=ay e sz v' (n+m) (xs++news)) h2 ?_ (fD h3)))
 · unfold Yv;simp[execOp,resolve,invoke,builtin,hs,hx,hr]
 · intro g hg
   have hg':v'.ownBlock=some g:=hg
   rcases h5 with h5|h5
   · exact .inl (by show v.ownBlock=some g;rw[←h5];exact hg')
   · rw[h5]at hg';injection hg' with hg';exact .inr (by omega)
theorem RI.source{k:IntKind}{w:World}{A:Option Addr}{n c:Nat}{xs:List Int}{tx e':TypeId}(h:RI k w A n xs)(hk:P.underlying tx=some (.slice e')):Src P 1 tx (.slice A n c) n (nums k xs) w:=by
 by_cases hn:n=0
 · subst hn
   have hx:xs= []:=List.eq_nil_of_length_eq_zero h.1
   subst hx
   cases A with
   |none=>exact Src.ofNil w hk c
   |some a=>exact Src.ofSlice w hk a 0 c [] rfl (fun j u hj=>by simp at hj) (fun u hu=>by cases hu)
 · obtain⟨g,o,rfl,hc⟩:=h.2 (by omega)
   refine Src.ofSlice w hk ⟨g,o,none⟩ n c _ (by simp[nums,h.1]) (fun j u hj=> ?_) fA
   rw[cH]
   simp only[nums,List.getElem?_map]at hj
   obtain⟨x,hx,rfl⟩:=Option.map_eq_some_iff.1 hj
   have hj':=(List.getElem?_eq_some_iff.1 hx).1
   rw[hc j (by rw[←h.1];exact hj'),List.getD_eq_getElem?_getD,hx];rfl
theorem App.ri{t tx ty e e':TypeId}{z:Value}{k:IntKind}{w:World}{A:Option Addr}{n c bytes:Nat}{xs:List Int}(h:RI k w A n xs)(ht:P.underlying t=some (.slice e))(hinfo:(P.info? e).map (fun i=>(i.zero,i.size,i.bytes))=some (some z,1,bytes))(hk:P.underlying tx=some (.slice e')):App P t tx ty e 1 z (.slice A n c) n (nums k xs) bytes w:=App.src ht hinfo (h.source hk)
theorem zU{t:Nat}{x:Operand}{k:IntKind}{a c:Int}(hx:ev ρ x= .int k a)(hc:k.wrap (-a)=c):Yv P ⟨d,.unOp .neg t x,ty,pos,af,gd⟩ ρ w (.int k c) w:=hc▸wG hx
theorem gg{t t':Nat}{x y:Operand}{k:IntKind}{a b c:Int}(hx:ev ρ x= .int k a)(hy:ev ρ y= .int k b)(ha:0≤a)(hb:0<b)(hc:a%b=c):Yv P ⟨d,.binOp .rem t x y t',ty,pos,af,gd⟩ ρ w (.int k c) w:=by
 subst hc;have hb':b≠0:=by omega
 unfold Yv;simp[execOp,eqGuard,hx,hy,binOp,Op.intDiv,hb',Int.tmod_eq_emod_of_nonneg ha]
theorem y_xor{t t':Nat}{x y:Operand}{k:IntKind}{a b c:Int}(hx:ev ρ x= .int k a)(hy:ev ρ y= .int k b)(hc:k.wrap (BitVec.ofInt k.bits a ^^^ BitVec.ofInt k.bits b).toNat=c):Yv P ⟨d,.binOp .xor t x y t',ty,pos,af,gd⟩ ρ w (.int k c) w:=by
 subst hc;unfold Yv;simp[execOp,eqGuard,hx,hy,binOp,Op.intBits]
theorem hC{t t':Nat}{x y:Operand}{k k':IntKind}{a b m:Int}(hx:ev ρ x= .int k a)(hy:ev ρ y= .int k' b)(hb:0≤b)(hm:(2:Int) ^ (min b.toNat k.bits)=m)(h0:0≤m):Yv P ⟨d,.binOp .shr t x y t',ty,pos,af,gd⟩ ρ w (.int k (a / m)) w:=
 dM hx hy hb (by rw[hm,Int.fdiv_eq_ediv_of_nonneg _ h0])
theorem wH{t t':Nat}{x y:Operand}{a b c:ByteArray}(hx:ev ρ x= .string a)(hy:ev ρ y= .string b)(h:a.size+b.size≤9223372036854775807)(hc:a++b=c):Yv P ⟨d,.binOp .add t x y t',ty,pos,af,gd⟩ ρ w (.string c) w:=by
 subst hc;unfold Yv;simp[execOp,eqGuard,hx,hy,binOp,run_string_add_sum w a b h]
def bz(s:ByteArray):List Int:=s.data.toList.map fun b=>(b.toNat:Int)
theorem AJ(s:ByteArray):bz s=s.data.toList.map fun b=>(b.toNat:Int):=rfl
theorem i3(s:ByteArray):(bz s).length=s.size:=by rw[bz,List.length_map,Array.length_toList];rfl
theorem tv(s:ByteArray):Byt (bz s):=fun i=>by
 rw[List.getD_eq_getElem?_getD,AJ,List.getElem?_map]
 cases s.data.toList[i]? with
 |none=>simp
 |some b=>simp only[Option.map_some,Option.getD_some];have:=b.toNat_lt;omega
theorem ov(s:ByteArray):byteCells s=nums .u8 (bz s):=by simp[byteCells,nums,bz]
theorem App.str{t tx ty e:TypeId}{z:Value}{s:ByteArray}{bytes:Nat}{w:World}(ht:P.underlying t=some (.slice e))(hinfo:(P.info? e).map (fun i=>(i.zero,i.size,i.bytes))=some (some z,1,bytes))(hk:P.underlying tx=some .string):App P t tx ty e 1 z (.string s) s.size (nums .u8 (bz s)) bytes w:=by
 rw[←ov];exact App.src ht hinfo (Src.ofString w hk s)
def rowM(e:TypeId)(v:Value)(n:Nat)(xs:List Value):Res where
 F:=fun k=>v.ownBlock=some k
 φ:=fun w=>xs.length=n∧∃g cap cur fz,v= .slice (some ⟨g,0,none⟩) n cap∧w.heap[g]? =some (.cells cur e fz)∧Mk fz cur.size∧n≤cap∧cap≤maxLen∧cur.size=cap∧cur.toList.take n=xs
 live:=fun w g h hg=>by
  obtain⟨_,g',cap,cur,fz,rfl,hh,_⟩:=h
  simp[Value.ownBlock]at hg;subst hg
  exact(Array.getElem?_eq_some_iff.1 hh).1
 stay:=fun w w' h hk=>by
  obtain⟨hl,g,cap,cur,fz,rfl,hh,rest⟩:=h
  exact⟨hl,g,cap,cur,fz,Z,by rw[hk g Z];exact hh,rest⟩
theorem rowM.ri{k:IntKind}{w:World}{e:TypeId}{A:Option Addr}{n c:Nat}{ys:List Int}(h:(rowM e (.slice A n c) n (nums k ys)).φ w):RI k w A n ys∧n≤c:=by
 obtain⟨hl,g,cap,cur,fz,hv,hh,hm,hn,_,hs,ht⟩:=h
 injection hv with h1 _ h2;subst h1;subst h2
 refine⟨⟨by simpa[nums]using hl,fun _=>⟨g,0,Z,fun j hj=> ?_⟩⟩,hn⟩
 have hyl:ys.length=n:=by simpa[nums]using hl
 have hc:cur.toList[j]? =some (.int k (ys.getD j 0)):=by
  have:(cur.toList.take n)[j]? =some (.int k (ys.getD j 0)):=by
   rw[ht];simp only[nums,List.getElem?_map,List.getD_eq_getElem?_getD,List.getElem?_eq_getElem (show j<ys.length by omega),Option.map_some,Option.getD_some]
  rwa [List.getElem?_take_of_lt hj]at this
 rw[Nat.zero_add,cell_of_row w g j cur e fz hh];simpa using hc
theorem vy(w:World){t tx ty e:TypeId}{z x v:Value}{m bytes n:Nat}{xs news:List Value}(hA:App P t tx ty e 1 z x m news bytes w)(hzs:z.cells.size=1)(hown:(rowM e v n xs).φ w)(h63:n+m≤maxLen)(hbytes:(n+m)*bytes≤140737488355328):
 ∃v' w',(Builtin.append_ #[t,tx] ty #[v,x]).run P w= .ok v' w'∧(rowM e v' (n+m) (xs++news)).φ w'∧w.grownBy w' v.ownBlock∧(v'.ownBlock=v.ownBlock∨v'.ownBlock=some w.heap.size):=by
 have hsmall:n+m≤9223372036854775807:=by simp only[maxLen]at h63;omega
 have hm48:m*bytes≤281474976710656:=Nat.le_trans (Nat.mul_le_mul_right _ (Nat.le_add_left m n)) (Nat.le_trans hbytes (by decide))
 have hl:news.length=m:=by have:=hA.hl;omega
 obtain⟨hxl,g,cap,cur,fz,rfl,hg,hmk,hnc,hcm,hcs,htake⟩:=hown
 have hlen:(xs++news).length=n+m:=by rw[List.length_append,hxl,hl]
 by_cases hroom:n+m≤cap
 · have hfit:n*1+news.length≤cur.size:=by omega
   have hr:=hA.room g n cap cur fz hg hmk hroom hfit
   rw[Nat.mul_one]at hr
   refine⟨_,_,hr,⟨hlen,g,cap,_,fz,Z,setRow_heap w g cur _ e _ hg,?_,hroom,hcm,?_,?_⟩,⟨Z,Z,Z,by simp,fun k _ hk=>setRow_other w g k _ (fun e=>hk (by simp[Value.ownBlock,e]))⟩,Or.inl Z⟩
   · rcases hmk with h|h
     · exact .inl h
     · refine .inr (Nat.le_trans (Nat.le_of_eq ?_) h)
       simp only[List.size_toArray,List.length_append,List.length_take,List.length_drop,Array.length_toList];omega
   · simp only[List.size_toArray,List.length_append,List.length_take,List.length_drop,Array.length_toList];omega
   · rw[htake,←hlen];exact List.take_left
 · have holds: ∀j u,xs[j]? =some u → w.cell? ((⟨g,0,none⟩:Addr).add j)=some u:=fun j u hu=>by
    rw[cH,Nat.zero_add,cell_of_row w g j cur e fz hg]
    rw[←htake,List.getElem?_take]at hu
    split at hu
    · simpa using hu
    · cases hu
   have hr:=hA.grow (some ⟨g,0,none⟩) n cap xs (run_firstCells_some (P:=P) w.drew 1 n ⟨g,0,none⟩ n cap xs (by omega) (by simpa using holds)) (by omega) (by omega) (growslice_fits (by omega) hbytes) hm48
   have hge:=grownCap_ge w (n+m) cap e
   refine⟨_,_,hr,⟨hlen,w.heap.size,_,_,(0,0),Z,heap_alloc_new w.drew _,.inl Z,hge,grownCap_le_maxLen w (n+m) cap e h63,?_,?_⟩,⟨Z,Z,Z,by simp,fun k hk _=>heap_alloc_old w.drew _ hk⟩,Or.inr Z⟩
   · simp only[Array.size_append,List.size_toArray,size_zeroCells,hzs,hlen];omega
   · simp only[Array.toList_append];rw[←hlen];exact List.take_left
theorem xi(H:St w0 M L w)(i:Nat){s x:Operand}{t tx e:TypeId}{z xv:Value}{bytes n m:Nat}{v:Value}{xs news:List Value}(hi:L[i]? =some (rowM e v n xs))(hs:ev ρ s=v)(hx:ev ρ x=xv)
 (hA: ∀ty,App P t tx ty e 1 z xv m news bytes w) (hzs:z.cells.size=1) (h63:n+m≤maxLen) (hbytes:(n+m)*bytes≤140737488355328) {L':Value → List Res}
 (h: ∀v' w',St w0 M (L' v') w' → K (ee ρ d v') w') (hL: ∀v',L.set i (rowM e v' (n+m) (xs++news))=L' v':=by intro v';first|(simp only[List.set_cons_succ,List.set_cons_zero];rfl)|rfl):i6 P ⟨d,.call {callee:= .builtin .append,args:=#[s,x],argTypes:=#[t,tx]},ty,pos,af,gd⟩ ρ w K:=by
 obtain⟨v',w',hr,h2,h3,h5⟩:=vy (P:=P) w (hA ty) hzs (H.get hi) h63 hbytes
 refine ic (v:=v') (w':=w') ?_ (h v' w' (hL v'▸H.move hi (r':=rowM e v' (n+m) (xs++news)) h2 ?_ (fD h3)))
 · unfold Yv;simp[execOp,resolve,invoke,builtin,hs,hx,hr]
 · intro g hg
   have hg':v'.ownBlock=some g:=hg
   rcases h5 with h5|h5
   · exact .inl (by show v.ownBlock=some g;rw[←h5];exact hg')
   · rw[h5]at hg';injection hg' with hg';exact .inr (by omega)
theorem pi(s:ByteArray)(c:Nat):(bytesRow s c).toList.take s.size=nums .u8 (bz s):=by
 have:(bytesRow s c).toList=nums .u8 (bz s)++List.replicate (c- s.size) (.int .u8 0):=by simp[bytesRow,nums,bz]
 rw[this,List.take_left' (by simp[nums,i3])]
theorem zx(h:St w0 M L w)(o:Obj)(r:Res)(hr:r.φ (w.alloc o))(hF: ∀g,r.F g → g=w.heap.size):St w0 M (r::L) (w.alloc o):=by
 have hk:Keep w0 M (w.alloc o):=Keep.trans h.keep (M':=aR) ⟨rfl,rfl,rfl,by simp,fun j hj _=>eU _ hj⟩ (fun _ _ hf=>hf.elim)
 refine⟨hk,?_,?_,.cons ?_ h.sep⟩
 · rintro x (_|⟨_,hx⟩)
   · exact hr
   · exact x.stay w _ (h.all x hx) fun g hg=>eU _ (x.live _ _ (h.all x hx) hg)
 · rintro x (_|⟨_,hx⟩) g hg
   · exact .inr (by rw[hF g hg];exact h.keep.size)
   · exact h.own x hx g hg
 · intro s hs g hg hsg
   have:=s.live _ _ (h.all s hs) hsg
   have:=hF g hg
   omega
theorem yB(H:St w0 M L w){src dst e:TypeId}{x:Operand}{s:ByteArray}(hs:P.underlying src=some .string)(hd:P.underlying dst=some (.slice e))(he:P.underlying e=some (.int .u8))(hx:ev ρ x= .string s)(hl:s.size≤maxLen)
 (h: ∀A c w',St w0 M (rowM e (.slice A s.size c) s.size (nums .u8 (bz s))::L) w' → K (ee ρ d (.slice A s.size c)) w'):i6 P ⟨d,.convert src dst x,ty,pos,af,gd⟩ ρ w K:=by
 have hr:=run_bytes_of_string w src dst e s hs hd he
 have hge:=grownCap_ge w s.size 0 e
 have hsz:(bytesRow s (grownCap w s.size 0 e)).size=grownCap w s.size 0 e:=by
  have:s.data.size=s.size:=rfl
  simp[bytesRow];omega
 refine ic (v:= .slice (some ⟨w.heap.size,0,none⟩) s.size (grownCap w s.size 0 e)) (w':= _) (by unfold Yv;simp only[execOp];rw[hx,Sem.run_bind,hr];rfl) (h _ _ _ ?_)
 exact zx H.drew _ _ ⟨by rw[nums,List.length_map,i3],_,_,_,_,Z,heap_alloc_new w.drew _,.inr (Nat.le_refl _),hge,grownCap_le_maxLen w s.size 0 e hl,hsz,pi s _⟩ (fun g hg=>by simpa[rowM,Value.ownBlock]using hg.symm)
theorem vN{cur:List Value}{o n:Nat}{vs:List Value}(h:o+vs.length≤n)(hn:n≤cur.length):(cur.take o++vs++cur.drop (o+vs.length)).take n=(cur.take n).take o++vs++(cur.take n).drop (o+vs.length):=by
 have e:(cur.take o++vs).length=o+vs.length:=by rw[List.length_append,List.length_take];omega
 rw[List.take_append,List.take_of_length_le (by rw[e];exact h),e,List.drop_take,List.take_take,Nat.min_eq_left (by omega)]
theorem pJ(H:St w0 M L w)(i:Nat){s x:Operand}{dT sT e:TypeId}{g n c o dLen dCap:Nat}{xv:Value}{xs vs:List Value}(hi:L[i]? =some (ay e 1 (.slice (some ⟨g,0,none⟩) n c) n xs))(hs:ev ρ s= .slice (some ⟨g,o,none⟩) dLen dCap)(hx:ev ρ x=xv)
 (hr: ∀ty cur,w.heap[g]? =some (.cells cur e (0,0)) → o+vs.length≤cur.size → (Builtin.copy_ #[dT,sT] ty #[.slice (some ⟨g,o,none⟩) dLen dCap,xv]).run P w= .ok (goInt vs.length) (w.setRow g (cur.toList.take o++vs++cur.toList.drop (o+vs.length)).toArray))
 (hfit:o+vs.length≤n) {L':List Res} (h: ∀w',St w0 M L' w' → K (ee ρ d (.int .i64 vs.length)) w')
 (hL:L.set i (ay e 1 (.slice (some ⟨g,0,none⟩) n c) n (xs.take o++vs++xs.drop (o+vs.length)))=L':=by first|(simp only[List.set_cons_succ,List.set_cons_zero];rfl)|rfl):i6 P ⟨d,.call {callee:= .builtin .copy,args:=#[s,x],argTypes:=#[dT,sT]},ty,pos,af,gd⟩ ρ w K:=by
 obtain⟨hxl,hv⟩:(ay e 1 (.slice (some ⟨g,0,none⟩) n c) n xs).φ w:=H.get hi
 rcases hv with⟨hv,_⟩|⟨g',cap,cur,hv,hb,hg,hnc,hcm,hcs,ht⟩
 · cases hv
 · injection hv with h1 _ h2
   injection h1 with h1;injection h1 with h1
   subst h1;subst h2
   rw[Nat.mul_one]at hcs ht hxl
   have hrun:=hr ty cur hg (by omega)
   refine ic (v:= .int .i64 vs.length) (w':=w.setRow g (cur.toList.take o++vs++cur.toList.drop (o+vs.length)).toArray) ?_ (h _ (hL▸H.move hi (r':=ay e 1 (.slice (some ⟨g,0,none⟩) n c) n (xs.take o++vs++xs.drop (o+vs.length))) ⟨?_,.inr ⟨g,c,_,Z,hb,setRow_heap w g cur _ e _ hg,hnc,hcm,?_,?_⟩⟩ (fun g hg=> .inl hg) ?_))
   · unfold Yv;simp only[execOp];simp[resolve,invoke,builtin,hs,hx,hrun,goInt]
   · rw[Nat.mul_one,List.length_append,List.length_append,List.length_take,List.length_drop,hxl];omega
   · simp only[List.size_toArray,List.length_append,List.length_take,List.length_drop,Array.length_toList];omega
   · rw[Nat.mul_one,←ht];exact vN hfit (by simp;omega)
   · exact fD ⟨Z,Z,Z,by simp,fun k _ hk=>setRow_other w g k _ (fun e=>hk (by simp[Value.ownBlock,e]))⟩
theorem xj{w:World}{dT sT e e':TypeId}{g o dLen dCap:Nat}{s:ByteArray}(hu:P.underlying dT=some (.slice e'))(hz:(P.info? e').map (·.size)=some 1)(hle:s.size≤dLen): ∀ty cur,w.heap[g]? =some (.cells cur e (0,0)) → o+(nums .u8 (bz s)).length≤cur.size → (Builtin.copy_ #[dT,sT] ty #[.slice (some ⟨g,o,none⟩) dLen dCap,.string s]).run P w= .ok (goInt (nums .u8 (bz s)).length) (w.setRow g (cur.toList.take o++nums .u8 (bz s)++cur.toList.drop (o+(nums .u8 (bz s)).length)).toArray):=fun ty cur hg hf=>by
 have hl:(nums .u8 (bz s)).length=s.size:=by rw[nums,List.length_map,i3]
 rw[hl]at hf ⊢
 have:=Lib.run_copy_row_string (P:=P) w dT sT ty e' g o dLen dCap s cur e hu hz hg hle hf
 rw[this,show Lib.byteCells s.data.toList=nums .u8 (bz s) by simp[Lib.byteCells,nums,bz]]
def ln:Value → Nat
 |.slice _ n _=>n
 | _=>0
def qj:List Int → Nat
 | []=>0
 |x::l=>(if x<0 then 0 else 1)+qj l
theorem rD(k:Nat):qj (List.replicate k 4)=k:=by
 induction k with
 |zero=>rfl
 |succ k ih=>rw[List.replicate_succ,qj,ih,if_neg (by decide)];omega
theorem ng(k:Nat):cF (List.replicate k 4)=4*k:=by
 induction k with
 |zero=>rfl
 |succ k ih=>rw[List.replicate_succ,cF,ih];show 4+ _= _;omega
theorem wR(k:Nat): ∀i,-16≤(List.replicate k (4:Int)).getD i 0∧(List.replicate k (4:Int)).getD i 0≤8:=fun i=>by
 rw[List.getD_eq_getElem?_getD,List.getElem?_replicate];split<;>simp
def W32(ns:List Int):Prop:= ∀i,0≤ns.getD i 0∧ns.getD i 0<4294967296
theorem tz(z:Int):0≤IntKind.u32.wrap z∧IntKind.u32.wrap z<4294967296:=by
 rw[show IntKind.u32.wrap z=z%4294967296 from rfl];omega
theorem W32.nil:W32 []:=fun i=>by simp
theorem W32.app{ys zs:List Int}(h:W32 ys)(hz:W32 zs):W32 (ys++zs):=fun i=>by
 rw[List.getD_eq_getElem?_getD,List.getElem?_append]
 split
 · have:=h i;rwa [List.getD_eq_getElem?_getD]at this
 · have:=hz (i- ys.length);rwa [List.getD_eq_getElem?_getD]at this
theorem yI{a b:Int}(ha:0≤a∧a<4294967296)(hb:0≤b∧b<4294967296):W32 [a,b]:=fun i=>by
 match i with
 |0=>exact ha
 |1=>exact hb
 |i+2=>simp
end
open Go Go.RowKit Go.Proofs
theorem yw:bg Tryd.prog 11:=aL (by kernel_rfl)
theorem lN(big:Bool){n:Nat}{v:Int}(w:World)(hn:n≤8):
 Calls Tryd.prog 11 #[.b big,.i ↑n,.q v] w fun e w'=> ∃(A:Option Addr) (c:Nat) (ys:List Int),e= .returned (.s A n c)∧ys.length=n∧Byt ys∧St w aR [ay 5 1 (.s A n c) n (nums .u8 ys)] w':=by
 refine aA (args:= [.b big,.i (↑n),.q v]) Tryd.func11 Z Z Z ?_
 have H0:=St.nil w aR
 refine sr (av (.ns) Z (wn (sr (wm Z (eb H0 5 [] Z (by kernel_rfl) (fun g1 w2 z H3=>eL g1 0 0 0 Z (wn (ad (sr (mi (↑n) Z (mi 0 Z ?_)))))))))))
 refine wn (a6 ?_)
 have H5:St w aR [ay 5 1 (.sl g1 0 0 0) 0 (nums .u8 ([]))] w2:=H3.rowOf (i:=0) (cap:=0) rfl rfl (by simp[maxLen])
 refine bA (fun ρ w'=> ∃j:Nat,∃Av:Option Addr,∃cv:Nat,∃ys:List Int,ρ 0= .b big∧ρ 1= .i ↑n∧ρ 2= .q v∧ρ 7= .s Av j cv∧ρ 10= .i ↑n∧ρ 11= .i ↑j∧j≤n∧ys.length=j∧Byt ys∧St w aR [ay 5 1 (.s Av j cv) j (nums .u8 ys)] w') (fun ρ _=>n+1- nv (ρ 11)) (⟨0,_,_,[],Z,Z,Z,Z,Z,Z,by omega,Z,Byt.nil,H5⟩) ?_
 rintro ρ w1 ⟨j,Av,cv,ys,h0,h1,h2,h7,d,a,hj,hyl,hyb,H1⟩
 refine sr (wv Z (bR a d) (wn (ad ?_)))
 refine bK Z (fun f=> ?_) (fun f=> ?_)
 ·
  simp only[bx]at f
  refine wk (ad (a6 (sr (mg a Z (ai (↑j) Z (wn (sr (mg h0 Z (wn ?_)))))))))
  refine bK Z (fun p=> ?_) (fun p=> ?_)
  ·
   refine ae (mg h7 Z (mg h2 Z (mg h1 Z (wv Z (gZ (k:= .i64) (c:= ↑n- 1) Z Z (a5 (by omega) (by omega))) (mi (↑j) Z (wv Z (gZ (k:= .i64) (c:= ↑n- 1- ↑j) Z Z (a5 (by omega) (by omega))) (wv Z (cM (k:= .i64) (c:=8*(↑n- 1- ↑j)) Z Z (a5 (by omega) (by omega))) (wv Z (dM (k:= .u64) (c:=v.fdiv (2 ^ (min (8*(↑n- 1- ↑j):Int).toNat 64))) Z Z (by omega) Z) (wv Z (ao (c:=IntKind.u8.wrap (v.fdiv (2 ^ (min (8*(↑n- 1- ↑j):Int).toNat 64)))) db lk Z Z) (wm Z (eb H1 5 [.e (IntKind.u8.wrap (v.fdiv (2 ^ (min (8*(↑n- 1- ↑j):Int).toNat 64))))] Z (by kernel_rfl) (fun g6 w7 B H8=> ?_))))))))))))
   refine wm Z (bG H8 1 (m:=1) (news:= [.e (IntKind.u8.wrap (v.fdiv (2 ^ (min (8*(↑n- 1- ↑j):Int).toNat 64))))]) Z bB fx Z (by decide) Z Z Z (H8.news (i:=0) Z) (by simp[Value.oneCell']) (by simp only[maxLen];omega) (by omega) (fun v9 C h=> ?_))
   obtain⟨r,t,rfl,_,_⟩:=aw (h.g 1 rfl)
   refine av (.s r (j+1) t) Z (bk (ak (ac (ae (wv Z (aH (k:= .i64) (c:= ↑j+1) a Z (a5 (by omega) (by omega))) (mi (↑j+1) Z (wn ?_)))))))
   rw[lS]at h
   exact⟨⟨j+1,_,_,ys++ [_],h0,h1,h2,Z,d,Z,by omega,by rw[List.length_append,hyl];rfl,hyb.snoc (u8_b _),h.re [1]⟩,by show n+1- nv (.i (↑j+1))<n+1- nv (ρ 11);rw[a];simp only[nv];omega⟩
  ·
   refine ae (mg h7 Z (mg h2 Z (mi (↑j) Z (wv Z (cM (k:= .i64) (c:=8* ↑j) Z Z (a5 (by omega) (by omega))) (wv Z (dM (k:= .u64) (c:=v.fdiv (2 ^ (min (8* ↑j:Int).toNat 64))) Z Z (by omega) Z) (wv Z (ao (c:=IntKind.u8.wrap (v.fdiv (2 ^ (min (8* ↑j:Int).toNat 64)))) db lk Z Z) (wm Z (eb H1 5 [.e (IntKind.u8.wrap (v.fdiv (2 ^ (min (8* ↑j:Int).toNat 64))))] Z (by kernel_rfl) (fun D E u o=>wm Z (bG o 1 (m:=1) (news:= [.e (IntKind.u8.wrap (v.fdiv (2 ^ (min (8* ↑j:Int).toNat 64))))]) Z bB fx Z (by decide) Z Z Z (o.news (i:=0) Z) (by simp[Value.oneCell']) (by simp only[maxLen];omega) (by omega) (fun F G l=> ?_)))))))))))
   obtain⟨x,y,rfl,_,_⟩:=aw (l.g 1 rfl)
   refine av (.s x (j+1) y) Z (bk (ak (ac (ae (wv Z (aH (k:= .i64) (c:= ↑j+1) a Z (a5 (by omega) (by omega))) (mi (↑j+1) Z (wn ?_)))))))
   rw[lS]at l
   exact⟨⟨j+1,_,_,ys++ [_],h0,h1,h2,Z,d,Z,by omega,by rw[List.length_append,hyl];rfl,hyb.snoc (u8_b _),l.re [1]⟩,by show n+1- nv (.i (↑j+1))<n+1- nv (ρ 11);rw[a];simp only[nv];omega⟩
 ·
  simp only[bx]at f
  refine bq (ar (ar (aQ (ac (sr (mg h7 Z (av (.s Av j cv) Z (wn (aY ?_)))))))))
  exact⟨.inr Z,_,r1 (.s Av j cv) Z _ _,⟨_,_,ys,by rw[show n=j by omega],by omega,hyb,by rw[show n=j by omega];exact H1⟩⟩
theorem sf(big:Bool){AW AN:Option Addr}{nW cW nN cN:Nat}{ws ns:List Int}(w:World)(hrW:RI .i64 w AW nW ws)(hW: ∀i,-16≤ws.getD i 0∧ws.getD i 0≤8)(hnW:nW≤1000)(hrN:RI .u64 w AN nN ns)(hcN:nN≤cN)(hcnt:qj ws≤nN)(hnN:nN≤1000):
 Calls Tryd.prog 20 #[.b big,.s AW nW cW,.s AN nN cN] w fun e w'=> ∃(A:Option Addr) (c:Nat) (ys:List Int),e= .returned (.s A (cF ws) c)∧ys.length=cF ws∧Byt ys∧St w aR [ay 5 1 (.s A (cF ws) c) (cF ws) (nums .u8 ys)] w':=by
 refine aA (args:= [.b big,.s AW nW cW,.s AN nN cN]) Tryd.func20 Z Z Z ?_
 have H0:=St.nil w aR
 refine sr (av (.ns) Z (wn (sr (wm Z (eb H0 5 [] Z (by kernel_rfl) (fun g1 w2 G H3=>eL g1 0 0 0 Z (wn (ad (sr (mv (.s AW nW cW) Z (wv Z (aO Bf Z) ?_)))))))))))
 refine mi 0 Z (wn (a6 ?_))
 have H5:St w aR [ay 5 1 (.sl g1 0 0 0) 0 (nums .u8 ([]))] w2:=H3.rowOf (i:=0) (cap:=0) rfl rfl (by simp[maxLen])
 refine bA (fun ρ w'=> ∃i:Nat,∃Av:Option Addr,∃m:Nat,∃cv:Nat,∃ys:List Int,∃A2:Option Addr,∃n2:Nat,∃c2:Nat,∃d:List Int,ρ 0= .b big∧ρ 2= .s A2 n2 c2∧ρ 7= .s Av m cv∧ρ 11= .s AW nW cW∧ρ 12= .i ↑nW∧ρ 13= .i ↑i∧i≤nW∧m=cF (ws.take i)∧ys.length=m∧Byt ys∧RI .u64 w A2 n2 d∧n2≤c2∧qj (ws.drop i)≤n2∧St w aR [ay 5 1 (.s Av m cv) m (nums .u8 ys)] w') (fun ρ _=>nW+1- nv (ρ 13)) (⟨0,_,_,_,[],_,_,_,_,Z,Z,Z,Z,Z,Z,by omega,Z,Z,Byt.nil,hrN,hcN,hcnt,H5⟩) ?_
 rintro ρ w1 ⟨i,Av,m,cv,ys,A2,n2,c2,d,h0,h2,h7,j,o,a,hi,hm,hyl,hyb,f,y,hcn,H1⟩
 refine sr (wv Z (bR a o) (wn (ad ?_)))
 refine bK Z (fun p=> ?_) (fun p=> ?_)
 ·
  simp only[bx]at p
  refine wk (ad (a6 (sr ?_)))
  have hiw:i<nW:=by omega
  obtain⟨gW,oW,rfl,hcW⟩:=hrW.at_ hiw
  obtain⟨v,hv⟩: ∃v,v=ws.getD i 0:=⟨_,rfl⟩
  rw[←hv]at hcW
  obtain⟨z,B⟩:=hW i
  rw[←hv]at z B
  have hdr:ws.drop i=v::ws.drop (i+1):=by rw[List.drop_eq_getElem_cons (by rw[hrW.1];exact hiw),hv];simp[List.getD_eq_getElem?_getD,List.getElem?_eq_getElem (show i<ws.length by rw[hrW.1];exact hiw)]
  have hwt:=jS (ws:=ws) (i:=i) (by rw[hrW.1];exact hiw)
  rw[←hv]at hwt
  have hwl:=p6 hW i (by rw[hrW.1];omega)
  rw[hdr,qj]at hcn
  refine wv Z (bi i Bb j a Z (by omega) (by rw[Nat.mul_one])) (wv Z (ag kD Z (H1.kc hcW)) (ai v Z (wn (ad (sr (mi v Z (wv Z (bR Z Z) (wn ?_))))))))
  refine bK Z (fun r=> ?_) (fun r=> ?_)
  ·
   simp only[bx]at r
   refine sr (mg h7 Z (mi v Z (wv Z (zU (k:= .i64) (c:= ↑v.natAbs) Z (by rw[a5 (by omega) (by omega)];omega)) (wm Z ?_))))
   rw[if_pos (show v<0 by omega)]at hcn
   refine bY H1 0 (m:=v.natAbs) (news:=List.replicate v.natAbs (.e 0)) Z Z Z (fun _=>wC bB kK fx Z Z (by omega) (by omega) (by omega)) Z (by decide) (by simp only[maxLen];omega) (by omega) (fun v6 w7 H8=> ?_)
   obtain⟨A9,C,rfl,_,_⟩:=aw (H8.g 0 rfl)
   refine av (.s A9 (m+v.natAbs) C) Z (wn (bq (ar (aQ (ac (ae (wv Z (aH (k:= .i64) (c:= ↑i+1) a Z (a5 (by omega) (by omega))) (mi (↑i+1) Z (wn ?_)))))))))
   rw[show nums .u8 ys++List.replicate v.natAbs (.e 0)=nums .u8 (ys++List.replicate v.natAbs 0) by simp[nums]]at H8
   exact⟨⟨i+1,_,m+v.natAbs,_,ys++List.replicate v.natAbs 0,_,_,_,_,h0,h2,Z,j,o,Z,by omega,by omega,by rw[List.length_append,List.length_replicate,hyl],hyb.app (uZ _),f,by omega,by omega,H8.re [0]⟩,by show nW+1- nv (.i (↑i+1))<nW+1- nv (ρ 13);rw[a];simp only[nv];omega⟩
  ·
   simp only[bx]at r
   refine wk (sr ?_)
   rw[if_neg (show ¬v<0 by omega)]at hcn
   obtain⟨gN,oN,rfl,hcN⟩:=f.at_ (show 0<n2 by omega)
   have hvn:((v.natAbs:Nat):Int)=v:=by omega
   refine mg h7 Z (mg h0 Z (mi v Z (mg h2 Z (wv Z (bi 0 bL Z Z Z (by omega) (by rw[Nat.zero_mul])) (wv Z (ag aP Z (H1.kc hcN)) (wE [.b big,.i v,.q (d.getD 0 0)] yw Z Z (aa (by have h:=lN big (n:=v.natAbs) (v:=d.getD 0 0) w1 (by omega);rw[hvn]at h;exact h) ?_)))))))
   rintro e H ⟨A8,c8,zs,rfl,hzl,hzb,u⟩
   have x:=H1.cal0 u
   refine⟨_,Z,wm Z (bY x 1 (m:=v.natAbs) (news:=nums .u8 zs) Z Z Z (fun _=>App.ri (aV (x.g 0 Z)) bB fx bB) Z (by decide) (by simp only[maxLen];omega) (by omega) (fun I J t=> ?_))⟩
   obtain⟨D,E,rfl,_,_⟩:=aw (t.g 1 rfl)
   refine av (.s D (m+v.natAbs) E) Z (wn (ae (mg h2 Z (wv Z ((show Yv _ _ _ _ (.s (dC (some ⟨gN,oN,none⟩) c2 1 1) (n2- 1) (c2- 1)) _ from eo (l:=1) (h:=n2) bL Z (bh Z (by omega) Z) (bu _ _) (by omega) (by omega))) (av (.s (dC (some ⟨gN,oN,none⟩) c2 1 1) (n2- 1) (c2- 1)) Z (bk (ak (ac (ae (wv Z (aH (k:= .i64) (c:= ↑i+1) a Z (a5 (by omega) (by omega))) (mi (↑i+1) Z ?_)))))))))))
   refine wn ?_
   rw[bm]at t
   have F:RI .u64 w (dC (some ⟨gN,oN,none⟩) c2 1 1) (n2- 1) (d.drop 1):=by have h:=f.cut (c:=c2) (l:=1) (m:=n2) (by omega) (Nat.le_refl _) y;rwa [List.take_of_length_le (by rw[List.length_drop,f.1];omega)]at h
   exact⟨⟨i+1,_,m+v.natAbs,_,ys++zs,_,_,_,_,h0,Z,Z,j,o,Z,by omega,by omega,by rw[List.length_append,hzl,hyl],hyb.app (hzb),F,by omega,by omega,t.re [1]⟩,by show nW+1- nv (.i (↑i+1))<nW+1- nv (ρ 13);rw[a];simp only[nv];omega⟩
 ·
  simp only[bx]at p
  refine bq (ar (ar (aQ (ac (sr (mg h7 Z (av (.s Av m cv) Z (wn (aY ?_)))))))))
  exact⟨.inr Z,_,r1 (.s Av m cv) Z _ _,⟨_,_,ys,by rw[show cF ws=m by rw[hm,List.take_of_length_le (by rw[hrW.1];omega)]],by rw[hyl,hm,List.take_of_length_le (by rw[hrW.1];omega)],hyb,by rw[show cF ws=m by rw[hm,List.take_of_length_le (by rw[hrW.1];omega)]];exact H1⟩⟩
theorem kg:bg Tryd.prog 20:=aL (by kernel_rfl)
theorem xb{A B C:Option Addr}{nA cA nB cB nC cC:Nat}(w:World):
 Calls Tryd.prog 8 #[.s A nA cA,.s B nB cB,.s C nC cC] w fun e w'=> ∃b,e= .returned (.b b)∧(b=true → nA≤100∧nB≤1000∧nC≤100)∧St w aR [] w':=by
 refine aA (args:= [.s A nA cA,.s B nB cB,.s C nC cC]) Tryd.func8 Z Z Z ?_
 have H0:=St.nil w aR
 refine sr (av (.b false) Z (wn (sr (mv (.s A nA cA) Z (wv Z (aO l5 Z) (wv Z (qZ Z Z) (mv (.b (decide ((↑nA:Int)≤100))) Z ?_)))))))
 generalize a:(decide ((↑nA:Int)≤100))=bb
 cases bb
 ·
  simp only[bx]at a
  refine ck Z Z (ck Z Z (ck Z Z (wv Z (aD (b:=false) (v:= .b false) Z Z) (mv (.b false) Z (ck Z Z (ck Z Z (ck Z Z (wv Z (aD (b:=false) (v:= .b false) Z Z) (av (.b false) Z (wn (aY ?_)))))))))))
  exact⟨.inr Z,_,r1 (.b false) Z _ _,⟨_,Z,(fun h=>by cases h),H0⟩⟩
 ·
  simp only[bx]at a
  refine aX Z Z (am (v:= .s B nB cB) Z) (aX Z Z (aO bU Z) (aX Z Z (qZ Z Z) (wv Z (aD (b:=true) (v:= .b (decide ((↑nB:Int)≤1000))) Z Z) (mv (.b (decide ((↑nB:Int)≤1000))) Z ?_))))
  generalize c:(decide ((↑nB:Int)≤1000))=bb
  cases bb
  ·
   simp only[bx]at c
   refine ck Z Z (ck Z Z (ck Z Z (wv Z (aD (b:=false) (v:= .b false) Z Z) (av (.b false) Z (wn (aY ?_))))))
   exact⟨.inr Z,_,r1 (.b false) Z _ _,⟨_,Z,(fun h=>by cases h),H0⟩⟩
  ·
   simp only[bx]at c
   refine aX Z Z (am (v:= .s C nC cC) Z) (aX Z Z (aO o4 Z) (aX Z Z (qZ Z Z) (wv Z (aD (b:=true) (v:= .b (decide ((↑nC:Int)≤100))) Z Z) (av (.b (decide ((↑nC:Int)≤100))) Z (wn (aY ?_))))))
   exact⟨.inr Z,_,r1 (.b (decide ((↑nC:Int)≤100))) Z _ _,⟨_,Z,(fun h=>by simp only[decide_eq_true_eq]at h;omega),H0⟩⟩
theorem pZ{g n c o:Nat}{ys:List Int}{str:ByteArray}(w:World)(h0:St w (ay 5 1 (.sl g 0 n c) n (nums .u8 ys)).F [ay 5 1 (.sl g 0 n c) n (nums .u8 ys)] w)(hyl:ys.length=n)(hyb:Byt ys)(ho:o+str.size≤n)(hon:o<n)(hnc:n≤c)(hn:n≤1000):
 Calls Tryd.prog 21 #[.sl g 0 n c,.i ↑o,.string str] w fun e w'=> ∃zs,e= .returned (.sl g 0 n c)∧zs.length=n∧Byt zs∧St w (ay 5 1 (.sl g 0 n c) n (nums .u8 ys)).F [ay 5 1 (.sl g 0 n c) n (nums .u8 zs)] w':=by
 refine aA (args:= [.sl g 0 n c,.i (↑o),.string str]) Tryd.func21 Z Z Z ?_
 have H0:St _ _ [ay 5 1 (.sl g 0 n c) n (nums .u8 ys)] _:=h0
 refine sr (av (.ns) Z (wn (sr (ms g 0 n c Z (mi (↑o) Z (wv Z ((aq (l:=o) (h:=n) aZ Z (bs Z (by omega) (Int.toNat_natCast _)) bn (by omega) (by omega) (by omega) (by omega):Yv _ _ _ _ (.sl g o (n- o) (c- o)) _)) (mv (.string str) Z (wm Z (pJ H0 0 (vs:=nums .u8 (bz str)) Z Z Z (xj bB wF (by omega)) (by simp only[nums,List.length_map,i3];omega) (fun w2 H1=> ?_))))))))))
 refine wn (sr (ms g 0 n c Z (eL g 0 n c Z (wn (aY ?_)))))
 exact⟨.inr Z,_,r1 (.sl g 0 n c) Z _ _,⟨ys.take o++bz str++ys.drop (o+str.size),Z,by rw[List.length_append,List.length_append,List.length_take,List.length_drop,i3,hyl];omega,(((hyb.take o).app (tv str)).app (hyb.drop _)),by have h:=H1;rw[show(nums .u8 (bz str)).length=str.size by simp only[nums,List.length_map,i3]]at h;rw[show nums .u8 (ys.take o++bz str++ys.drop (o+str.size))=(nums .u8 ys).take o++nums .u8 (bz str)++(nums .u8 ys).drop (o+str.size) by simp[nums]];exact h⟩⟩
theorem iW(big:Bool){v:Int}{AN:Option Addr}{nN cN:Nat}{ns:List Int}{str:ByteArray}(w:World)(hrN:RI .u64 w AN nN ns)(hnN:nN≤3)(hst:str.size≤64):
 Calls Tryd.prog 18 #[.b big,.q v,.s AN nN cN,.string str] w fun e w'=> ∃(A:Option Addr) (n c:Nat) (ys:List Int),e= .returned (.s A n c)∧n≤12+4*nN+str.size+8∧ys.length=n∧Byt ys∧St w aR [ay 5 1 (.s A n c) n (nums .u8 ys)] w':=by
 refine aA (args:= [.b big,.q v,.s AN nN cN,.string str]) Tryd.func18 Z Z Z ?_
 have H0:=St.nil w aR
 refine sr (av (.ns) Z (wn (sr (mv (.s AN nN cN) Z (wv Z (aO o4 Z) (wv Z (cM (k:= .i64) (c:=4* ↑nN) Z Z (a5 (by omega) (by omega))) (wv Z (aH (k:= .i64) (c:=12+4* ↑nN) Z Z (a5 (by omega) (by omega))) (ai (12+4* ↑nN) Z (wn (sr (mv (.string str) Z ?_)))))))))))
 refine wm Z (yB H0 l3 bB lk Z (by simp only[maxLen];omega) (fun A1 c2 w3 H4=>wm Z (eb H4 5 [.e 0] Z (by kernel_rfl) (fun g5 w6 P H7=>wm Z (xi H7 1 (m:=1) (news:=nums .u8 [0]) Z Z Z (fun _=>App.ri (bH (xs:= [0]) (H7.g 0 Z)) bB fx bB) Z (by simp only[maxLen];omega) (by omega) (fun v8 w9 r=> ?_))))))
 obtain⟨_,_,_,_,_,hv_,_⟩:=r.g 1 rfl
 obtain⟨t,u,rfl⟩: ∃A c,v8= .s A (str.size+1) c:=⟨_,_,hv_⟩
 refine av (.s t (str.size+1) u) Z (wn (ad (a6 ?_)))
 have H5:St w aR [rowM 5 (.s t (str.size+1) u) (str.size+1) (nums .u8 (bz str++ [0]))] w9:=by have h:=r.re [1];rw[bm]at h;exact h
 refine bA (fun ρ w'=> ∃Av:Option Addr,∃m:Nat,∃cv:Nat,∃ys:List Int,ρ 0= .b big∧ρ 1= .q v∧ρ 2= .s AN nN cN∧ρ 9= .i (12+4*(nN:Int))∧ρ 10= .s Av m cv∧str.size<m∧m+(8-(12+4*nN+m)%8)%8≤str.size+8∧Byt ys∧St w aR [rowM 5 (.s Av m cv) m (nums .u8 ys)] w') (fun ρ _=>(8-(12+4*nN+ln (ρ 10))%8)%8) (⟨_,_,_,bz str++ [0],Z,Z,Z,Z,Z,by omega,by omega,(tv str).snoc (by omega),H5⟩) ?_
 rintro ρ w1 ⟨Av,m,cv,ys,h0,h1,h2,h9,a,Q,hm,hyb,H1⟩
 refine ad (sr (mg h9 Z (mg a Z (wv Z (aO bU Z) (wv Z (aH (k:= .i64) (c:=12+4*(nN:Int)+ ↑m) Z Z (a5 (by omega) (by omega))) (wv Z (gg (c:=(12+4*(nN:Int)+ ↑m)%8) Z Z (by omega) (by omega) Z) (wv Z (mq Z Z) (wn ?_))))))))
 refine bK Z (fun d=> ?_) (fun d=> ?_)
 ·
  simp only[bx]at d
  refine wk (a6 (ae (mg a Z (wm Z (eb H1 5 [.e 0] Z (by kernel_rfl) (fun R S G x=>wm Z (xi x 1 (m:=1) (news:=nums .u8 [0]) Z Z Z (fun _=>App.ri (bH (xs:= [0]) (x.g 0 Z)) bB fx bB) Z (by simp only[maxLen];omega) (by omega) (fun H T o=> ?_))))))))
  obtain⟨_,_,_,_,_,hv_,_⟩:=o.g 1 rfl
  obtain⟨I,J,rfl⟩: ∃A c,H= .s A (m+1) c:=⟨_,_,hv_⟩
  refine av (.s I (m+1) J) Z (bk (ak (ac ?_)))
  rw[bm]at o
  exact⟨⟨_,m+1,_,ys++ [0],h0,h1,h2,h9,Z,by omega,by omega,hyb.snoc (by omega),o.re [1]⟩,by show(8-(12+4*nN+(m+1))%8)%8<(8-(12+4*nN+ln (ρ 10))%8)%8;rw[a];simp only[ln];omega⟩
 ·
  simp only[bx]at d
  refine bq (ar (ar (aQ (ac (sr (mg h1 Z (mg h9 Z (mg a Z (wv Z (aO bU Z) (wv Z (aH (k:= .i64) (c:=12+4*(nN:Int)+ ↑m) Z Z (a5 (by omega) (by omega))) (wv Z (ao ej be Z (aC (by omega) (by omega))) ?_)))))))))))
  refine mg h9 Z (wv Z (ao ej be Z (aC (by omega) (by omega))) (wm Z (eb H1 43 [.q v,.q (12+4*(nN:Int)+ ↑m),.q (12+4*(nN:Int))] Z (by kernel_rfl) (fun K L M N=>mg h2 Z (wm Z ?_)))))
  have y:St w aR [ay 43 1 (.sl K 0 3 3) 3 (nums .u64 [v,12+4*(nN:Int)+ ↑m,12+4*(nN:Int)]),rowM 5 (.s Av m cv) m (nums .u8 ys)] L:=(N.rowFull (i:=0) (n:=3) (sz:=1) rfl rfl (by simp[maxLen])).re [0,1]
  refine bY y 0 (m:=nN) (news:=nums .u64 ns) Z Z Z (fun _=>App.ri (hrN.keep0 y.keep) eW jy eW) Z (by decide) (by simp only[maxLen];omega) (by omega) (fun U V z=> ?_)
  obtain⟨f,j,rfl,_,_⟩:=aw (z.g 0 rfl)
  refine av (.s f (3+nN) j) Z (wn (sr (mg h0 Z (mv (.s f (3+nN) j) Z (wv Z (aO o4 Z) (wE [.i (↑(3+nN))] jN Z Z (aa (dK (n:=3+nN) _ (by omega)) ?_)))))))
  rintro e O ⟨A4,c4,rfl,B⟩
  have l:=z.cal0 B
  refine⟨_,Z,mv (.s f (3+nN) j) Z (wE [.b big,.s A4 (3+nN) c4,.s f (3+nN) j] kg Z Z ?_)⟩
  have hrow:=sf big (cW:=c4) (ws:=List.replicate (3+nN) 4) (ns:= [v,12+4*(nN:Int)+ ↑m,12+4*(nN:Int)]++ns) O (aV (l.g 0 rfl)) (wR _) (by omega) (aV (by have h:=l.g 1 rfl;rw[bm]at h;exact h)) (by obtain⟨_,_,e,_,h⟩:=aw (l.g 1 rfl);cases e;exact h) (by rw[rD];exact Nat.le_refl _) (by omega)
  rw[ng]at hrow
  refine aa hrow ?_
  rintro e W ⟨A8,c8,zs,rfl,hzl,hzb,C⟩
  have D:=l.cal0 C
  refine⟨_,Z,mg a Z (wm Z (bY D 0 (m:=m) (news:=nums .u8 ys) Z Z Z (fun _=>App.ri (rowM.ri (D.g 3 Z)).1 bB fx bB) Z (by decide) (by simp only[maxLen];omega) (by omega) (fun X Y p=> ?_)))⟩
  obtain⟨E,F,rfl,_,_⟩:=aw (p.g 0 rfl)
  refine av (.s E (4*(3+nN)+m) F) Z (wn (aY ?_))
  exact⟨.inr Z,_,r1 (.s E (4*(3+nN)+m) F) Z _ _,⟨_,_,_,zs++ys,Z,by omega,by have h:=p.g 0 Z;rw[bm]at h;have:=h.1;rw[nums,List.length_map]at this;omega,hzb.app hyb,by have h:=p.re [0];rw[bm]at h;exact h⟩⟩
theorem qq:dA Tryd.prog 64 [.string (⟨#[]⟩),.q 0,.w 0,.w 0,.ns,.ns]:=bO (by kernel_rfl)
theorem AR:(Tryd.prog.info? 64).map (·.size)=some 6:=by kernel_rfl
theorem kX:FA 64 4 4:=fa (by kernel_rfl)
theorem jW:FA 64 5 5:=fa (by kernel_rfl)
theorem Bk:iJ Tryd.prog 64 6:=eG (by kernel_rfl)
theorem Ag{n:Int}{AD:Option Addr}{nD cD:Nat}{xs:List Int}(w:World)(hn0:0≤n)(hn1:n<4294967296)(hr:RI .u8 w AD nD xs)(hb:Byt xs)(hnD:nD≤1000):
 Calls Tryd.prog 24 #[.w n,.s AD nD cD] w fun e w'=> ∃(nm:ByteArray) (q1 q2 q3:Int) (B:Option Addr) (nB cB:Nat) (ys:List Int) (C:Option Addr) (nC cC:Nat) (rs:List Int),e= .returned (.agg #[.string nm,.q q1,.w q2,.w q3,.s B nB cB,.s C nC cC])∧nm.size≤10∧nB≤40∧nC≤6∧Byt ys∧W32 rs∧St w aR [ay 5 1 (.s B nB cB) nB (nums .u8 ys),ay 24 1 (.s C nC cC) nC (nums .u32 rs)] w':=by
 refine aA (args:= [.w n,.s AD nD cD]) Tryd.func24 Z Z Z ?_
 have H0:=St.nil w aR
 refine sr (wm Z (aN H0 qq (fun g1 w2 Y H3=>wn (sr (mv (.w n) Z (wv Z (gg (c:=n%8) Z Z (by omega) (by omega) Z) (wv Z (aH (k:= .u32) (c:=1+n%8) Z Z (dm (by omega) (by omega))) (wv Z (iO (l:=0) (h:=(1+n%8).toNat) l3 Z (bu _ _) (bh Z (by omega) Z) (by omega) (by show _≤8;omega)) ?_))))))))
 obtain⟨nm,hnm⟩: ∃nm:ByteArray,⟨#[95,95]⟩++ByteArray.extract (⟨#[116,101,120,116,100,97,116,97]⟩) 0 (1+n%8).toNat=nm:=⟨_,rfl⟩
 have hes:(ByteArray.extract (⟨#[116,101,120,116,100,97,116,97]⟩) 0 (1+n%8).toNat).size≤8:=by rw[ByteArray.size_extract];have:(⟨#[116,101,120,116,100,97,116,97]⟩:ByteArray).size=8:=rfl;omega
 have hns:nm.size≤10:=by rw[←hnm,ByteArray.size_append];have:(⟨#[95,95]⟩:ByteArray).size=2:=rfl;omega
 refine wv Z (wH (c:=nm) Z Z (by have:(⟨#[95,95]⟩:ByteArray).size=2:=Z;omega) hnm) (mv (.w n) Z (wv Z (hC (m:=8) Z Z (by decide) (by decide) (by decide)) (wv Z (gg (c:=(n / 8)%4096) Z Z (by omega) (by omega) Z) ?_)))
 obtain⟨q1,L⟩: ∃z:Int,(n / 8)%4096=z:=⟨_,rfl⟩
 refine wv Z (ao (c:=q1) bv be Z (by rw[←L];exact aC (by omega) (by omega))) (mv (.w n) Z (wv Z (hC (m:=32) Z Z (by decide) (by decide) (by decide)) ?_))
 obtain⟨q2,M⟩: ∃z:Int,(n / 32)%8=z:=⟨_,rfl⟩
 refine wv Z (gg (c:=q2) Z Z (by omega) (by omega) M) (mv (.w n) Z ?_)
 obtain⟨q3,N⟩: ∃z:Int,IntKind.u32.wrap (BitVec.ofInt IntKind.u32.bits n &&& ~~~ BitVec.ofInt IntKind.u32.bits 255).toNat=z:=⟨_,rfl⟩
 refine wv Z (fi (k:= .u32) (c:=q3) Z Z N) (wv Z (yb (ps:= [(0,.string nm),(1,.q q1),(2,.w q2),(3,.w q3)]) (cells:=#[.string nm,.q q1,.w q2,.w q3,.ns,.ns]) Z (by kernel_rfl)) (wm Z (aN H3 qq (fun g4 w5 aa H6=>ws (eN H6 0 [.string nm,.q q1,.w q2,.w q3,.ns,.ns] Z AR (fun w8 H7=> ?_))))))
 refine wn (sr (mv (.w n) Z (wv Z (hC (m:=256) Z Z (by decide) (by decide) (by decide)) ?_)))
 obtain⟨sz,hsz⟩: ∃z:Nat,(n / 256)%41=(z:Int):=⟨((n / 256)%41).toNat,by omega⟩
 refine wv Z (gg (c:= ↑sz) Z Z (by omega) (by omega) hsz) (wv Z (ao bv kK Z (a5 (by omega) (by omega))) (ai (↑sz) Z (wn (ad (sr (mi (↑sz) Z (mi 0 Z (wn (a6 ?_)))))))))
 have H5:St w aR [ay 5 1 (.ns) 0 (nums .u8 ([])),an g4 [.string nm,.q q1,.w q2,.w q3,.ns,.ns] 64,an g1 [.string (⟨#[]⟩),.q 0,.w 0,.w 0,.ns,.ns] 64] w8:=by have h:=(H7.addRow 5 1).re [0,1,2];exact h
 refine bA (fun ρ w'=> ∃j:Nat,∃Av:Option Addr,∃cv:Nat,∃ys:List Int,ρ 0= .w n∧ρ 1= .s AD nD cD∧ρ 4= .pt g1∧ρ 5= .pt g4∧ρ 6= .i ↑sz∧ρ 29= .i ↑sz∧ρ 30= .i ↑j∧j≤sz∧ys.length=j∧Byt ys∧St w aR [ay 5 1 (.s Av j cv) j (nums .u8 ys),an g4 [.string nm,.q q1,.w q2,.w q3,.s Av j cv,.ns] 64,an g1 [.string (⟨#[]⟩),.q 0,.w 0,.w 0,.ns,.ns] 64] w') (fun ρ _=>sz+1- nv (ρ 30)) (⟨0,_,_,[],Z,Z,Z,Z,Z,Z,Z,by omega,Z,Byt.nil,H5⟩) ?_
 rintro ρ w1 ⟨j,Av,cv,ys,h0,h1,h4,h5,h6,t,f,hj,hyl,hyb,H1⟩
 refine sr (wv Z (bR f t) (wn (ad ?_)))
 refine bK Z (fun u=> ?_) (fun u=> ?_)
 ·
  simp only[bx]at u
  refine wk (ad (a6 (sr (mg f Z (ai (↑j) Z (wn (sr (mi (↑j) Z (wv Z (ao ej lk Z (gM (by omega) (by omega))) (av (.e (↑j)) Z (wn ?_)))))))))))
  refine ad (sr (mg h1 Z (wv Z (aO bU Z) (wv Z (eM Z Z) (wn ?_)))))
  refine bK Z (fun o=> ?_) (fun o=> ?_)
  ·
   simp only[bx]at o
   refine ae ?_
   have hmd:(j+sz)%nD<nD:=Nat.mod_lt _ (by omega)
   obtain⟨gD,oD,rfl,hcD⟩:=hr.at_ hmd
   obtain⟨x,hx⟩: ∃x,x=xs.getD ((j+sz)%nD) 0:=⟨_,rfl⟩
   have hxb:=hb ((j+sz)%nD)
   rw[←hx]at hcD hxb
   refine mg h1 Z (mi (↑j) Z (mg h6 Z (wv Z (aH (k:= .i64) (c:= ↑j+ ↑sz) Z Z (a5 (by omega) (by omega))) (mg h1 Z (wv Z (aO bU Z) (wv Z (gg (c:= ↑((j+sz)%nD)) Z Z (by omega) (by omega) (by simp)) (wv Z (bi ((j+sz)%nD) aZ Z Z Z hmd (by rw[Nat.mul_one])) (wv Z (ag dq Z (H1.kc hcD)) (av (.e x) Z (wn (ae ?_)))))))))))
   refine wv Z (ab kX h5) (wv Z (H1.ld 1 Z fe Z (.s Av j cv) Z) (mv (.e x) Z (wm Z (eb H1 5 [.e x] Z (by kernel_rfl) (fun af ah O v=>wm Z (bY v 1 (m:=1) (news:=nums .u8 [x]) Z Z Z (fun _=>App.ri (bH (xs:= [x]) (v.g 0 Z)) bB fx bB) Z (by decide) (by simp only[maxLen];omega) (by omega) (fun aj al y=> ?_)))))))
   obtain⟨P,Q,rfl,_,_⟩:=aw (y.g 1 rfl)
   refine wv Z (ab kX h5) (ws (es y 2 4 (.s P (j+1) Q) Z fe (fun am A=> ?_)))
   refine bk (ak (ac (ae (wv Z (aH (k:= .i64) (c:= ↑j+1) f Z (a5 (by omega) (by omega))) (mi (↑j+1) Z (wn ?_))))))
   rw[bm]at A
   exact⟨⟨j+1,_,_,ys++ [x],h0,h1,h4,h5,h6,t,Z,by omega,by rw[List.length_append,hyl];rfl,hyb.snoc (by omega),A.re [1,2,3]⟩,by show sz+1- nv (.i (↑j+1))<sz+1- nv (ρ 30);rw[f];simp only[nv];omega⟩
  ·
   simp only[bx]at o
   refine wk (ae (wv Z (ab kX h5) (wv Z (H1.ld 1 Z fe Z (.s Av j cv) Z) (mv (.e (↑j)) Z (wm Z (eb H1 5 [.e (↑j)] Z (by kernel_rfl) (fun ap aq R D=>wm Z (bY D 1 (m:=1) (news:=nums .u8 [↑j]) Z Z Z (fun _=>App.ri (bH (xs:= [↑j]) (D.g 0 Z)) bB fx bB) Z (by decide) (by simp only[maxLen];omega) (by omega) (fun au ax E=> ?_)))))))))
   obtain⟨S,T,rfl,_,_⟩:=aw (E.g 1 rfl)
   refine wv Z (ab kX h5) (ws (es E 2 4 (.s S (j+1) T) Z fe (fun az F=> ?_)))
   refine bk (ak (ac (ae (wv Z (aH (k:= .i64) (c:= ↑j+1) f Z (a5 (by omega) (by omega))) (mi (↑j+1) Z (wn ?_))))))
   rw[bm]at F
   exact⟨⟨j+1,_,_,ys++ [↑j],h0,h1,h4,h5,h6,t,Z,by omega,by rw[List.length_append,hyl];rfl,hyb.snoc (by omega),F.re [1,2,3]⟩,by show sz+1- nv (.i (↑j+1))<sz+1- nv (ρ 30);rw[f];simp only[nv];omega⟩
 ·
  simp only[bx]at u
  refine bq (ar (ar (aQ (ac (ad (sr (mg h0 Z (wv Z (hC (m:=16384) Z Z (by decide) (by decide) (by decide)) ?_))))))))
  obtain⟨nr,hnr⟩: ∃z:Nat,(n / 16384)%4=(z:Int):=⟨((n / 16384)%4).toNat,by omega⟩
  refine wv Z (gg (c:= ↑nr) Z Z (by omega) (by omega) hnr) (mv (.w 0) Z (wn (a6 ?_)))
  have H6:St w aR [ay 24 1 (.s none (2*0) 0) (2*0) (nums .u32 ([])),an g4 [.string nm,.q q1,.w q2,.w q3,.s Av j cv,.ns] 64,an g1 [.string (⟨#[]⟩),.q 0,.w 0,.w 0,.ns,.ns] 64,ay 5 1 (.s Av j cv) j (nums .u8 ys)] w1:=by have h:=(H1.addRow 24 1).re [0,2,3,1];exact h
  refine bA (fun ρ w'=> ∃k:Nat,∃Ar:Option Addr,∃cr:Nat,∃rs:List Int,ρ 0= .w n∧ρ 4= .pt g1∧ρ 5= .pt g4∧ρ 56= .w ↑nr∧ρ 57= .w ↑k∧k≤nr∧W32 rs∧St w aR [ay 24 1 (.s Ar (2*k) cr) (2*k) (nums .u32 rs),an g4 [.string nm,.q q1,.w q2,.w q3,.s Av j cv,.s Ar (2*k) cr] 64,an g1 [.string (⟨#[]⟩),.q 0,.w 0,.w 0,.ns,.ns] 64,ay 5 1 (.s Av j cv) j (nums .u8 ys)] w') (fun ρ _=>nr+1- nv (ρ 57)) (⟨0,_,_,[],h0,h4,h5,Z,Z,by omega,W32.nil,H6⟩) ?_
  rintro ρ w2 ⟨k,Ar,cr,rs,i0,i4,i5,G,r,hk,hrs,H2⟩
  refine sr (wv Z (bR r G) (wn (ad ?_)))
  refine bK Z (fun p=> ?_) (fun p=> ?_)
  ·
   simp only[bx]at p
   refine wk (ad (a6 (sr (mg r Z (av (.w (↑k)) Z (wn (ae (wv Z (ab jW i5) (wv Z (H2.ld 1 Z eE Z (.s Ar (2*k) cr) Z) (mg i0 Z (mv (.w (↑k)) Z ?_)))))))))))
   refine wv Z (aH (k:= .u32) (c:= ↑k+1) Z Z (dm (by omega) (by omega))) ?_
   obtain⟨a,ha⟩: ∃z:Int,IntKind.u32.wrap (n*(↑k+1))=z:=⟨_,rfl⟩
   have hab:=tz (n*(↑k+1))
   rw[ha]at hab
   refine wv Z (cM (k:= .u32) (c:=a) Z Z ha) (mg i0 Z (mv (.w (↑k)) Z ?_))
   obtain⟨b,U⟩: ∃z:Int,IntKind.u32.wrap ((↑k)*2 ^ (min (20:Int).toNat IntKind.u32.bits))=z:=⟨_,rfl⟩
   refine wv Z (lp (k:= .u32) (c:=b) Z Z (by decide) U) ?_
   obtain⟨d,hd⟩: ∃z:Int,IntKind.u32.wrap (BitVec.ofInt IntKind.u32.bits n ^^^ BitVec.ofInt IntKind.u32.bits b).toNat=z:=⟨_,rfl⟩
   have hdb:=tz (BitVec.ofInt IntKind.u32.bits n ^^^ BitVec.ofInt IntKind.u32.bits b).toNat
   rw[hd]at hdb
   refine wv Z (y_xor (k:= .u32) (c:=d) Z Z hd) (wm Z (eb H2 24 [.w a,.w d] Z (by kernel_rfl) (fun a0 a1 V H=>wm Z (bY H 1 (m:=2) (news:=nums .u32 [a,d]) Z Z Z (fun _=>App.ri (bH (xs:= [a,d]) (H.g 0 Z)) tc vU tc) Z (by decide) (by simp only[maxLen];omega) (by omega) (fun a2 a3 I=> ?_)))))
   obtain⟨W,X,rfl,_,_⟩:=aw (I.g 1 rfl)
   refine wv Z (ab jW i5) (ws (es I 2 5 (.s W (2*k+2) X) Z eE (fun a4 J=> ?_)))
   refine bk (ak (ac (ae (wv Z (aH (k:= .u32) (c:= ↑k+1) r Z (dm (by omega) (by omega))) (mv (.w (↑k+1)) Z (wn ?_))))))
   rw[bm]at J
   exact⟨⟨k+1,_,_,rs++ [a,d],i0,i4,i5,G,Z,by omega,hrs.app (yI hab hdb),J.re [1,2,3,4]⟩,by show nr+1- nv (.w (↑k+1))<nr+1- nv (ρ 57);rw[r];simp only[nv];omega⟩
  ·
   simp only[bx]at p
   refine bq (ar (ar (aQ (ac (sr (wv Z (H2.loadA (i:=1) (vs:= [.string nm,.q q1,.w q2,.w q3,.s Av j cv,.s Ar (2*k) cr]) Z Bk i5 Z Z) (ws (bE H2 2 (vs:= [.string nm,.q q1,.w q2,.w q3,.s Av j cv,.s Ar (2*k) cr]) (m:=6) Z AR i4 Z Z (nl Z) (by simp[Value.oneCell']) (cs':= [.string nm,.q q1,.w q2,.w q3,.s Av j cv,.s Ar (2*k) cr]) Z (fun a7 K=> ?_)))))))))
   refine wn (aY ?_)
   exact⟨.inr Z,_,iK Z Bk (by exact i4) (K.g 2 Z) Z,⟨_,_,_,_,_,_,_,ys,_,_,_,rs,Z,hns,by omega,by omega,hyb,hrs,K.re [3,0]⟩⟩
open Go Go.RowKit
structure BitM where
 nm:ByteArray
 q1:Int
 q2:Int
 q3:Int
 B:Option Addr
 nB:Nat
 cB:Nat
 ys:List Int
 C:Option Addr
 nC:Nat
 cC:Nat
 rs:List Int
def BitM.cells(b:BitM):List Value:= [.string b.nm,.int .u64 b.q1,.int .u32 b.q2,.int .u32 b.q3,.slice b.B b.nB b.cB,.slice b.C b.nC b.cC]
theorem BitM.len6(b:BitM):b.cells.length=6:=rfl
def BitM.ok(w:World)(b:BitM):Prop:=b.nm.size≤10∧b.nB≤40∧b.nC≤6∧RI .u8 w b.B b.nB b.ys∧Byt b.ys∧RI .u32 w b.C b.nC b.rs∧W32 b.rs
theorem BitM.ok.keep{w w':World}{b:BitM}(h:b.ok w)(hk:Keep w aR w'):b.ok w':=⟨h.1,h.2.1,h.2.2.1,h.2.2.2.1.keep0 hk,h.2.2.2.2.1,h.2.2.2.2.2.1.keep0 hk,h.2.2.2.2.2.2⟩
structure BitsM where
 A:Option Addr
 n:Nat
 c:Nat
 bs:List BitM
def BitsM.cell(b:BitsM):Value:= .slice b.A b.n b.c
def BitsM.ok(w:World)(b:BitsM):Prop:=b.n≤3∧RV w b.A b.n 6 (b.bs.flatMap BitM.cells)∧∀x ∈ b.bs,x.ok w
theorem BitsM.ok.keep{w w':World}{b:BitsM}(h:b.ok w)(hk:Keep w aR w'):b.ok w':=⟨h.1,h.2.1.keep0 hk,fun x hx=>(h.2.2 x hx).keep hk⟩
structure SyM where
 nm:ByteArray
 t:Int
 s:Int
 d:Int
 v:Int
def SyM.cells(b:SyM):List Value:= [.string b.nm,.int .u8 b.t,.int .u8 b.s,.int .u16 b.d,.int .u64 b.v]
theorem SyM.len5(b:SyM):b.cells.length=5:=rfl
structure OthM where
 A:Option Addr
 n:Nat
 c:Nat
 ys:List Int
def OthM.cell(b:OthM):Value:= .slice b.A b.n b.c
def OthM.ok(w:World)(b:OthM):Prop:=b.n≤8∧RI .u8 w b.A b.n b.ys∧Byt b.ys
theorem OthM.ok.keep{w w':World}{b:OthM}(h:b.ok w)(hk:Keep w aR w'):b.ok w':=⟨h.1,h.2.1.keep0 hk,h.2.2⟩
structure MadeM where
 wide:Bool
 big:Bool
 cpu:Int
 sub:Int
 ty:Int
 fl:Int
 AS:Option Addr
 nS:Nat
 cS:Nat
 ss:List ByteArray
 AB:Option Addr
 cB:Nat
 bs:List BitsM
 AL:Option Addr
 nL:Nat
 cL:Nat
 ls:List ByteArray
 AP:Option Addr
 nP:Nat
 cP:Nat
 ps:List ByteArray
 AY:Option Addr
 nY:Nat
 cY:Nat
 ys:List SyM
 AI:Option Addr
 nI:Nat
 cI:Nat
 is:List Int
 AO:Option Addr
 nO:Nat
 cO:Nat
 os:List OthM
def MadeM.cells(m:MadeM):List Value:= [.bool m.wide,.bool m.big,.int .u32 m.cpu,.int .u32 m.sub,.int .u32 m.ty,.int .u32 m.fl,.slice m.AS m.nS m.cS,.slice m.AB m.nS m.cB,.slice m.AL m.nL m.cL,.slice m.AP m.nP m.cP,.slice m.AY m.nY m.cY,.slice m.AI m.nI m.cI,.slice m.AO m.nO m.cO]
def Txts(w:World)(A:Option Addr)(n m:Nat)(ss:List ByteArray):Prop:=RV w A n 1 (ss.map .string)∧∀s ∈ ss,s.size≤m
theorem Txts.keep{w w':World}{A:Option Addr}{n m:Nat}{ss:List ByteArray}(h:Txts w A n m ss)(hk:Keep w aR w'):Txts w' A n m ss:=⟨h.1.keep0 hk,h.2⟩
structure MadeM.ok (w : World) (m : MadeM) : Prop where
 nS:m.nS≤4
 nL:m.nL≤3
 nP:m.nP≤3
 nY:m.nY≤8
 nI:m.nI≤8
 nO:m.nO≤1
 hS:Txts w m.AS m.nS 16 m.ss
 hB:RV w m.AB m.nS 1 (m.bs.map BitsM.cell)
 hBo: ∀b ∈ m.bs,b.ok w
 hL:Txts w m.AL m.nL 20 m.ls
 hP:Txts w m.AP m.nP 20 m.ps
 hY:RV w m.AY m.nY 5 (m.ys.flatMap SyM.cells)
 hYs: ∀s ∈ m.ys,s.nm.size≤5
 hI:RI .u32 w m.AI m.nI m.is
 hO:RV w m.AO m.nO 1 (m.os.map OthM.cell)
 hOo: ∀b ∈ m.os,b.ok w
theorem MadeM.ok.keep{w w':World}{m:MadeM}(h:m.ok w)(hk:Keep w aR w'):m.ok w':=
 ⟨h.nS,h.nL,h.nP,h.nY,h.nI,h.nO,h.hS.keep hk,h.hB.keep0 hk,fun b hb=>(h.hBo b hb).keep hk,h.hL.keep hk,h.hP.keep hk,h.hY.keep0 hk,h.hYs,h.hI.keep0 hk,h.hO.keep0 hk,fun b hb=>(h.hOo b hb).keep hk⟩
theorem Txts.nil(w:World)(m:Nat):Txts w none 0 m []:=⟨RV.nil _ _ _,fun _ h=>by cases h⟩
theorem eu{α:Type}{p:α → Prop}{l:List α}{x:α}(h: ∀y ∈ l,p y)(hx:p x): ∀y ∈ l++ [x],p y:=fun y hy=>by
 rcases List.mem_append.1 hy with h1|h1
 · exact h y h1
 · rw[List.mem_singleton.1 h1];exact hx
theorem i2{w:World}{e sz n c:Nat}{A:Option Addr}{xs:List Value}(h:(ay e sz (.slice A n c) n xs).φ w):RV w A n sz xs:=by
 obtain⟨A',c',e1,h1,_⟩:=aw h
 injection e1 with e1 e2 e3;subst e1
 exact h1
structure LdM where
 k:Int
 A:Option Addr
 n:Nat
 c:Nat
 ys:List Int
 v1:Value
 v2:Value
def LdM.cells(l:LdM):List Value:= [.int .i64 l.k,.slice l.A l.n l.c,l.v1,l.v2]
theorem LdM.len4(l:LdM):l.cells.length=4:=rfl
def LdM.ok(w:World)(l:LdM):Prop:=l.n≤2000∧RI .u8 w l.A l.n l.ys∧Byt l.ys∧l.v1.oneCell'=true∧l.v2.oneCell'=true
theorem LdM.ok.keep{w w':World}{b:LdM}(h:b.ok w)(hk:Keep w aR w'):b.ok w':=⟨h.1,h.2.1.keep0 hk,h.2.2⟩
theorem AK{a b c d e f:Value}(h1:a.oneCell'=true)(h2:b.oneCell'=true)(h: ∀v ∈ [c,d,e,f],v.oneCell'=true): ∀v ∈ [a,b,c,d,e,f],v.oneCell'=true:=by
 intro v hv
 rcases List.mem_cons.1 hv with rfl|hv
 · exact h1
 · rcases List.mem_cons.1 hv with rfl|hv
   · exact h2
   · exact h v hv
theorem Aa{a:Int}(n:Nat)(hn:0<n): ∃m:Nat,a%(n:Int)=m∧m<n:=by
 have h1:=Int.emod_nonneg a (show(n:Int)≠0 by omega)
 have h2:=Int.emod_lt_of_pos a (show(0:Int)<n by omega)
 exact⟨(a%(n:Int)).toNat,by omega,by omega⟩
theorem y6{hs:List Int}{k:Nat}{c:Int}(hl:k<hs.length)(h:hs.getD k 0=c):(nums .u64 hs)[k]? =some (.int .u64 c):=by
 rw[fV hl,h]
theorem yD{P:Program}{w:World}{dT sT e e':TypeId}{g o dLen dCap g2 o2 sLen sCap:Nat}{zs:List Int}(hu:P.underlying dT=some (.slice e'))(hz:(P.info? e').map (·.size)=some 1)(hr:RI .u8 w (some ⟨g2,o2,none⟩) sLen zs)(hle:sLen≤dLen):
 ∀ty cur,w.heap[g]? =some (.cells cur e (0,0)) → o+(nums .u8 zs).length≤cur.size → (Builtin.copy_ #[dT,sT] ty #[.slice (some ⟨g,o,none⟩) dLen dCap,.slice (some ⟨g2,o2,none⟩) sLen sCap]).run P w= .ok (goInt (nums .u8 zs).length) (w.setRow g (cur.toList.take o++nums .u8 zs++cur.toList.drop (o+(nums .u8 zs).length)).toArray):=fun ty cur hg hf=>
 run_copy_row (P:=P) w dT sT ty e' g o dLen dCap ⟨g2,o2,none⟩ sLen sCap cur e (nums .u8 zs) hu hz hg (by rw[bQ,hr.1];exact(Nat.min_eq_left hle).symm) (hr.rv.news rfl) hf fA
theorem all4{a b c d:Value}(h1:a.oneCell'=true)(h2:b.oneCell'=true)(h3:c.oneCell'=true)(h4:d.oneCell'=true): ∀v ∈ [a,b,c,d],v.oneCell'=true:=by
 intro v hv
 simp only[List.mem_cons,List.not_mem_nil,or_false]at hv
 rcases hv with rfl|rfl|rfl|rfl<;>assumption
theorem byt0:Byt [0]:=Byt.one ⟨by decide,by decide⟩
section
variable{P:Program}{ρ:dv}{w w0:World}{d:Option Tmp}{ty:TypeId}{pos:String}{af:Array Edge}{gd:Option (Nat × Bool)}{K:dv → World → Prop}{M:Nat → Prop}{L:List Res}
theorem xe(H:St w0 M L w)(i:Nat){g n c k e:Nat}{xs:List Value}{t:TypeId}{x y:Operand}{v:Value}(hi:L[i]? =some (ay e 1 (.slice (some ⟨g,0,none⟩) n c) n xs))(ht:dI P t)(hx:ev ρ x= .pointer (some ⟨g,k,none⟩))(hk:k<n)(hy:ev ρ y=v)(h1:v.oneCell'=true)
 {L':List Res} (h: ∀w',St w0 M L' w' → K ρ w') (hL:L.set i (ay e 1 (.slice (some ⟨g,0,none⟩) n c) n (xs.set k v))=L':=by first|(simp only[List.set_cons_succ,List.set_cons_zero];rfl)|rfl):i6 P ⟨none,.store t x y,ty,pos,af,gd⟩ ρ w K:=by
 subst hL
 obtain⟨hxl,hv⟩:(ay e 1 (.slice (some ⟨g,0,none⟩) n c) n xs).φ w:=H.get hi
 rcases hv with⟨hv,_⟩|⟨g',cap,cur,hv,hb,hg,hnc,hcm,hcs,hta⟩
 · cases hv
 · injection hv with h2 _ h3
   injection h2 with h2;injection h2 with h2
   subst h2;subst h3
   rw[Nat.mul_one]at hcs hta hxl
   have hkc:k<cur.size:=by omega
   refine .inr (.inl ⟨w.setRow g (cur.setIfInBounds k v),?_,h _ (H.move hi (r':=ay e 1 (.slice (some ⟨g,0,none⟩) n c) n (xs.set k v)) ⟨by rw[List.length_set,hxl,Nat.mul_one],.inr ⟨g,c,_,Z,hb,setRow_heap w g cur _ e _ hg,hnc,hcm,by simpa using hcs,by rw[Nat.mul_one,Array.toList_setIfInBounds,List.take_set,hta]⟩⟩ (fun g hg=> .inl hg) ?_)⟩)
   · obtain⟨_,j,hj,hs⟩:=ht
     have hc:w.cell? ⟨g,k,none⟩=some cur[k]:=by simp[World.cell?,hg,hkc]
     have hfr:w.frozen? ⟨g,k,none⟩=false:=by simp[World.frozen?,hg]
     have hadd:(⟨g,k,none⟩:Addr).add 0=⟨g,k,none⟩:=cH g k 0
     unfold Yn
     simp[execOp,Instr.storeAt,hx,hy,Instr.sureAddr,storeVar,pK h1,sizeOf,typeInfo,hj,hs,storeCells,hadd,run_store P w _ v _ h1,hc,hfr,setCell_eq_setRow w g k cur e (0,0) v hg]
   · exact fD ⟨Z,Z,Z,by simp,fun k' _ hk'=>setRow_other w g k' _ (fun e=>hk' (by simp[Value.ownBlock,e]))⟩
theorem gQ(H:St w0 M L w){t:TypeId}{zs:List Value}(hz:dA P t zs)(h: ∀g w',St w0 M (an g zs t::L) w' → K (ee ρ d (.pointer (some ⟨g,0,none⟩))) w'):i6 P ⟨d,.alloc t,ty,pos,af,gd⟩ ρ w K:=aN H hz fun g w' _ h'=>h g w' h'
theorem AG(H:St w0 M L w){t:TypeId}{x:Operand}{v:Value}{vs:List Value}(hx:ev ρ x=v)(hv:v.cells.toList=vs)(h: ∀g w',St w0 M (an g vs t::L) w' → K (ee ρ d (.pointer (some ⟨g,0,none⟩))) w'):i6 P ⟨d,.box t x,ty,pos,af,gd⟩ ρ w K:=fq H hx hv fun g w' _ h'=>h g w' h'
theorem pg(H:St w0 M L w){t:TypeId}{len:Nat}{parts:Array (Nat × Operand)}{ps:List (Nat × Value)}{e:TypeId}{cs:List Value}(hp:parts.toList.map (fun p=>(p.1,ev ρ p.2))=ps)(hb:kR P t len ps=some (e,cs))
 (h: ∀g w',St w0 M (an g cs e::L) w' → K (ee ρ d (.slice (some ⟨g,0,none⟩) len len)) w'):i6 P ⟨d,.buildSlice t len parts,ty,pos,af,gd⟩ ρ w K:=kt H hp hb fun g w' _ h'=>h g w' h'
theorem rA(H:St w0 M L w){t e:TypeId}{z:Value}{bytes n m:Nat}{x y:Operand}{kl kc:IntKind}{l c:Int}(ht:P.underlying t=some (.slice e))(hinfo:(P.info? e).map (fun i=>(i.zero,i.size,i.bytes))=some (some z,1,bytes))(hz:z.cells=#[z])(hx:ev ρ x= .int kl l)(hy:ev ρ y= .int kc c)(hl:l= ↑n)(hc:c= ↑m)(hlc:n≤m)(hb:bytes*m≤281474976710656)(h63:m≤9223372036854775807)
 (h: ∀g w',St w0 M (an g (List.replicate m z) e::L) w' → K (ee ρ d (.slice (some ⟨g,0,none⟩) n m)) w'):i6 P ⟨d,.makeSlice t x y,ty,pos,af,gd⟩ ρ w K:=bJ H ht hinfo hz hx hy hl hc hlc hb h63 fun g w' _ h'=>h g w' h'
end
theorem df{w:World}{e sz n:Nat}{v:Value}{xs:List Value}(h:(ay e sz v n xs).φ w): ∃A c,v= .slice A n c:=by
 obtain⟨A,c,e1,_⟩:=aw h
 exact⟨A,c,e1⟩
theorem vO(a:Addr):a.add 0=a:=by
 obtain⟨b,o,t⟩:=a
 unfold Addr.add
 split<;>simp_all
theorem cutA0(A:Option Addr)(c sz:Nat):dC A c 0 sz=A:=by
 unfold dC
 split
 · rfl
 · cases A with
   |none=>rfl
   |some a=>rw[Nat.zero_mul,Option.map_some,vO]
theorem iP{P:Program}{ρ:dv}{w:World}{d:Option Tmp}{ty:TypeId}{pos:String}{af:Array Edge}{gd:Option (Nat × Bool)}{t e sz:Nat}{x:Operand}{hi:Option Operand}{A:Option Addr}{len cap h:Nat}(ht:cJ P t e sz)(hx:ev ρ x= .slice A len cap)(hh:pL ρ hi len h)(h2:h≤cap):
 Yv P ⟨d,.slice t x none hi none,ty,pos,af,gd⟩ ρ w (.slice A h cap) w:=by
 have:=eo (P:=P) (w:=w) (d:=d) (ty:=ty) (pos:=pos) (af:=af) (gd:=gd) ht hx (bu ρ 0) hh (Nat.zero_le _) h2
 rwa [cutA0,Nat.sub_zero,Nat.sub_zero]at this
theorem ie{P:Program}{ρ:dv}{w:World}{d:Option Tmp}{ty:TypeId}{pos:String}{af:Array Edge}{gd:Option (Nat × Bool)}{t:Nat}{x:Operand}{hi:Option Operand}{s c:ByteArray}{h:Nat}(hc:s.extract 0 h=c)(ht:P.underlying t=some .string)(hx:ev ρ x= .string s)(hh:pL ρ hi s.size h)(h2:h≤s.size):
 Yv P ⟨d,.slice t x none hi none,ty,pos,af,gd⟩ ρ w (.string c) w:=by
 subst hc;exact iO ht hx (bu _ _) hh (Nat.zero_le _) h2
theorem RI.pre{k:IntKind}{w:World}{A:Option Addr}{n m:Nat}{xs:List Int}(h:RI k w A n xs)(hm:m≤n):RI k w A m (xs.take m):=by
 refine⟨by rw[List.length_take,h.1];omega,fun h0=> ?_⟩
 obtain⟨g,o,e,hc⟩:=h.2 (by omega)
 refine⟨g,o,e,fun j hj=> ?_⟩
 rw[hc j (by omega),List.getD_eq_getElem?_getD,List.getD_eq_getElem?_getD,List.getElem?_take_of_lt hj]
theorem im{D:Type}{f:D → List Value}(l:List D)(d:D):l.flatMap f++f d=(l++ [d]).flatMap f:=by simp
theorem qb{D:Type}{f:D → Value}(l:List D)(d:D):l.map f++ [f d]=(l++ [d]).map f:=by simp
theorem mulw{a b q:Nat}(h:a*b=q)(hq:q≤1000000):IntKind.i64.wrap ((a:Int)*(b:Int))=(q:Int):=by
 rw[←Int.natCast_mul,h];exact a5 (by omega) (by omega)
theorem p7{A B:Option Addr}{n c:Nat}(e:A=B):Value.slice A n c=Value.slice B n c:=e▸rfl
theorem eQ{w:World}{e n c:Nat}{A:Option Addr}{xs:List Value}(h:(ay e 1 (.slice A n c) n xs).φ w)(hn:0<n):(∃g,A=some ⟨g,0,none⟩)∧n≤c:=by
 obtain⟨_,h|⟨g,cap,cur,hv,_,_,hnc,_⟩⟩:=(show w.ownsRow 0 e 1 (.slice A n c) n xs from h)
 · omega
 · injection hv with h1 _ h2
   exact⟨⟨g,h1⟩,by omega⟩
theorem s4{D:Type}{f:D → Value}{w:World}{A:Option Addr}{n i:Nat}{l:List D}(h:RV w A n 1 (l.map f))(hi:i<n): ∃d,d ∈ l∧∃g o,A=some ⟨g,o,none⟩∧w.cell? ⟨g,o+i,none⟩=some (f d):=by
 have hl:=h.1
 rw[List.length_map,Nat.mul_one]at hl
 have hd:l[i]? =some (l[i]'(by omega)):=List.getElem?_eq_getElem (by omega)
 obtain⟨_,g,o,e,hc⟩:=h.at1 (i:=i) (v:=f (l[i]'(by omega))) (by rw[List.getElem?_map,hd];rfl)
 exact⟨_,List.mem_of_getElem? hd,g,o,e,hc⟩
theorem rJ{w:World}{A:Option Addr}{n m i:Nat}{ss:List ByteArray}(h:Txts w A n m ss)(hi:i<n): ∃s:ByteArray,s.size≤m∧∃g o,A=some ⟨g,o,none⟩∧w.cell? ⟨g,o+i,none⟩=some (.string s):=by
 obtain⟨s,hs,g,o,e,hc⟩:=s4 h.1 hi
 exact⟨s,h.2 s hs,g,o,e,hc⟩
theorem tt{D:Type}{f:D → List Value}{w:World}{A:Option Addr}{n sz i:Nat}{l:List D}(h:RV w A n sz (l.flatMap f))(hf: ∀d,(f d).length=sz)(hsz:0<sz)(hi:i<n): ∃d,d ∈ l∧∃g o,A=some ⟨g,o,none⟩∧∀j v,(f d)[j]? =some v → w.cell? ⟨g,o+i*sz+j,none⟩=some v:=by
 have hl:=h.len hf hsz
 have hd:l[i]? =some (l[i]'(by omega)):=List.getElem?_eq_getElem (by omega)
 obtain⟨_,g,o,e,hc⟩:=h.at_ hf hd hsz
 exact⟨_,List.mem_of_getElem? hd,g,o,e,hc⟩
theorem xk(wide:Bool):qj (ia wide)≤10:=by cases wide<;>decide
theorem xm(wide:Bool):qj (fU wide)≤10:=by cases wide<;>decide
theorem yE(wide:Bool):qj (kP wide)≤5:=by cases wide<;>decide
theorem zZ(wide:Bool):56≤dN wide∧dN wide≤72:=by cases wide<;>decide
theorem wQ(wide:Bool):68≤d7 wide∧d7 wide≤80:=by cases wide<;>decide
theorem zY(wide:Bool):12≤dY wide∧dY wide≤16:=by cases wide<;>decide
theorem wK{ws:List Int}{A:Option Addr}{n:Nat}{w:World}(h:RI .i64 w A n ws)(hl:ws.length≤1000):n≤1000:=by rw[←h.1];exact hl
theorem t3(wide:Bool):(ia wide).length≤1000:=by cases wide<;>decide
theorem t4(wide:Bool):(fU wide).length≤1000:=by cases wide<;>decide
theorem Am(wide:Bool):(kP wide).length≤1000:=by cases wide<;>decide
theorem byt8:Byt [1,2,3,4,5,6,7,8]:=fun i=>by
 match i with
 |0|1|2|3|4|5|6|7=>decide
 |i+8=>simp
theorem Byt.set{ys:List Int}(h:Byt ys){z:Int}(hz:0≤z∧z<256)(k:Nat):Byt (ys.set k z):=fun i=>by
 rw[List.getD_eq_getElem?_getD,List.getElem?_set]
 split
 · split
   · exact hz
   · simp
 · have:=h i;rwa [List.getD_eq_getElem?_getD]at this
section
variable{P:Program}{n:Nat}{Q:QE}{ρ:dv}{w w' w0:World}{d:Nat}{ty:TypeId}{pos:String}{af:Array Edge}{gd:Option (Nat × Bool)}{K:dv → World → Prop}{M:Nat → Prop}{L:List Res}
theorem lj(H:St w0 M L w){t:TypeId}{len:Nat}{parts:Array (Nat × Operand)}(e:TypeId)(cs:List Value)(hp:parts.toList.map (fun p=>(p.1,ev ρ p.2))=zp 0 cs)(hb:kR P t len (zp 0 cs)=some (e,cs))
 (h: ∀g w',St w0 M (an g cs e::L) w' → K (j2 ρ d (.slice (some ⟨g,0,none⟩) len len)) w'):i6 P ⟨some d,.buildSlice t len parts,ty,pos,af,gd⟩ ρ w K:=kt H (ps:=zp 0 cs) hp hb fun g w' _ h'=>h g w' h'
end
open Go Go.RowKit Go.Proofs
theorem tI:dA Tryd.prog 40 [.b false,.b false,.w 0,.w 0,.w 0,.w 0,.ns,.ns,.ns,.ns,.ns,.ns,.ns]:=bO (by kernel_rfl)
theorem AU:(Tryd.prog.info? 40).map (·.size)=some 13:=by kernel_rfl
theorem oE:FA 40 6 6:=fa (by kernel_rfl)
theorem jz:dI Tryd.prog 36:=bN (by kernel_rfl)
theorem AZ:Tryd.prog.underlying 36=some (.slice 9):=by kernel_rfl
theorem TB9:(Tryd.prog.info? 9).map (fun i=>(i.zero,i.size,i.bytes))=some (some (.string (⟨#[]⟩)),1,16):=by kernel_rfl
theorem CK24:bg Tryd.prog 24:=aL (by kernel_rfl)
theorem TU61:Tryd.prog.underlying 61=some (.slice 64):=by kernel_rfl
theorem TB64:(Tryd.prog.info? 64).map (fun i=>(i.zero,i.size,i.bytes))=some (some (.agg #[.string (⟨#[]⟩),.q 0,.w 0,.w 0,.ns,.ns]),6,80):=by kernel_rfl
theorem oA:FA 40 7 7:=fa (by kernel_rfl)
theorem sd:dI Tryd.prog 37:=bN (by kernel_rfl)
theorem TU37:Tryd.prog.underlying 37=some (.slice 61):=by kernel_rfl
theorem TB61:(Tryd.prog.info? 61).map (fun i=>(i.zero,i.size,i.bytes))=some (some (.ns),1,24):=by kernel_rfl
theorem qw:FA 40 8 8:=fa (by kernel_rfl)
theorem qv:FA 40 9 9:=fa (by kernel_rfl)
theorem jo:FA 40 0 0:=fa (by kernel_rfl)
theorem l7:FA 40 10 10:=fa (by kernel_rfl)
theorem l6:FA 40 11 11:=fa (by kernel_rfl)
theorem mH:FA 40 12 12:=fa (by kernel_rfl)
theorem uV:dI Tryd.prog 38:=bN (by kernel_rfl)
theorem TU38:Tryd.prog.underlying 38=some (.slice 22):=by kernel_rfl
theorem TB22:(Tryd.prog.info? 22).map (fun i=>(i.zero,i.size,i.bytes))=some (some (.ns),1,24):=by kernel_rfl
theorem yN:iJ Tryd.prog 40 13:=eG (by kernel_rfl)
theorem nK{fl:Int}{AP AD AV:Option Addr}{nP cP nD cD nV cV:Nat}{ps xs vs:List Int}(w:World)(hf0:0≤fl)(hf1:fl<4294967296)(hrP:RI .u32 w AP nP ps)(hwP:W32 ps)(hcP:nP≤cP)(hrD:RI .u8 w AD nD xs)(hbD:Byt xs)(hnD:nD≤1000)(hrV:RI .u64 w AV nV vs)(hwV: ∀i,0≤vs.getD i 0∧vs.getD i 0≤18446744073709551615)(hcV:nV≤cV):
 Calls Tryd.prog 10 #[.w fl,.s AP nP cP,.s AD nD cD,.s AV nV cV] w fun e w'=> ∃M:MadeM,e= .returned (.agg M.cells.toArray)∧∃D:Res,(∀w,D.φ w → M.ok w)∧St w aR [D] w':=by
 refine aA (args:= [.w fl,.s AP nP cP,.s AD nD cD,.s AV nV cV]) Tryd.func10 Z Z Z ?_
 have H0:=St.nil w aR
 refine sr (wm Z (aN H0 tI (fun g1 w2 dP H3=>wn (sr (mv (.w fl) Z ?_)))))
 obtain⟨z4,cH⟩: ∃z:Int,IntKind.u32.wrap (BitVec.ofInt IntKind.u32.bits fl &&& BitVec.ofInt IntKind.u32.bits 1).toNat=z:=⟨_,rfl⟩
 refine wv Z (dG (k:= .u32) (c:=z4) Z Z cH) ?_
 obtain⟨b5,cI⟩: ∃z:Bool,(z4 !=0)=z:=⟨_,rfl⟩
 refine wv Z (cg (c:=b5) Z Z cI) (mv (.w fl) Z ?_)
 obtain⟨z6,cJ⟩: ∃z:Int,IntKind.u32.wrap (BitVec.ofInt IntKind.u32.bits fl &&& BitVec.ofInt IntKind.u32.bits 2).toNat=z:=⟨_,rfl⟩
 refine wv Z (dG (k:= .u32) (c:=z6) Z Z cJ) ?_
 obtain⟨b7,cK⟩: ∃z:Bool,(z6 !=0)=z:=⟨_,rfl⟩
 refine wv Z (cg (c:=b7) Z Z cK) (mv (.w fl) Z (wv Z (hC (m:=256) Z Z (by decide) (by decide) (by decide)) ?_))
 obtain⟨u1,cL⟩: ∃z:Int,(fl / 256)%32=z:=⟨_,rfl⟩
 refine wv Z (gg (c:=u1) Z Z (by omega) (by omega) cL) (mv (.w fl) Z ?_)
 obtain⟨u2,cN⟩: ∃z:Int,Int.fdiv fl (2 ^ (min (4:Int).toNat IntKind.u32.bits))=z:=⟨_,rfl⟩
 refine wv Z (dM (k:= .u32) (c:=u2) Z Z (by decide) cN) (mv (.w fl) Z (wv Z (hC (m:=8) Z Z (by decide) (by decide) (by decide)) (wv Z (gg (c:=(fl / 8)%8) Z Z (by omega) (by omega) Z) ?_)))
 obtain⟨u3,cO⟩: ∃z:Int,1+(fl / 8)%8=z:=⟨_,rfl⟩
 refine wv Z (aH (k:= .u32) (c:=u3) Z Z (by rw[dm (by omega) (by omega)];exact cO)) (mv (.w fl) Z ?_)
 obtain⟨u4,cQ⟩: ∃z:Int,Int.fdiv fl (2 ^ (min (2:Int).toNat IntKind.u32.bits))=z:=⟨_,rfl⟩
 refine wv Z (dM (k:= .u32) (c:=u4) Z Z (by decide) cQ) (wv Z (yb (ps:= [(0,.b b5),(1,.b b7),(2,.w u1),(3,.w u2),(4,.w u3),(5,.w u4)]) (cells:=#[.b b5,.b b7,.w u1,.w u2,.w u3,.w u4,.ns,.ns,.ns,.ns,.ns,.ns,.ns]) Z (by kernel_rfl)) (wm Z (aN H3 tI (fun g8 w9 dQ ba=>ws (eN ba 0 [.b b5,.b b7,.w u1,.w u2,.w u3,.w u4,.ns,.ns,.ns,.ns,.ns,.ns,.ns] Z AU (fun cR cS=> ?_))))))
 refine wn (ad (sr (mv (.s AP nP cP) Z (mv (.s AP nP cP) Z (wv Z (aO l5 Z) ?_)))))
 obtain⟨qP,hqP,hqPa,hqPb⟩: ∃z:Nat,(if(4:Int)< ↑nP then(4:Int)else ↑nP)= ↑z∧z≤4∧z≤nP:=⟨Nat.min 4 nP,by simp only[Nat.min_def];split<;>split<;>omega,Nat.min_le_left _ _,Nat.min_le_right _ _⟩
 refine wv Z (i7 (c:= ↑qP) Z Z hqP) (wv Z (iP (h:=qP) pk Z (bh Z (by omega) (by omega)) (by omega)) (wv Z (aO l5 Z) (mi 0 Z (wn (a6 ?_)))))
 have cT:=cS.addRow 9 1
 have cU:=cT.addRow 61 1
 obtain⟨D0,eo⟩: ∃D:Res,D=Res.all []:=⟨_,rfl⟩
 have H3:St w aR [ay 61 1 (.ns) 0 (([]:List BitsM).map BitsM.cell),ay 9 1 (.ns) 0 (([]:List ByteArray).map .string),Res.all [],an g8 [.b b5,.b b7,.w u1,.w u2,.w u3,.w u4,.ns,.ns,.ns,.ns,.ns,.ns,.ns] 40,an g1 [.b false,.b false,.w 0,.w 0,.w 0,.w 0,.ns,.ns,.ns,.ns,.ns,.ns,.ns] 40] cR:=by have h:=cU.reAll [] [0,1,2,3];exact h.re [1,2,0,3,4]
 refine bA (fun ρ w'=> ∃i:Nat,∃As:Option Addr,∃cs:Nat,∃Ab:Option Addr,∃cb:Nat,∃ss:List ByteArray,∃bs:List BitsM,∃D:Res,ρ 0= .w fl∧ρ 2= .s AD nD cD∧ρ 3= .s AV nV cV∧ρ 8= .pt g1∧ρ 9= .pt g8∧ρ 40= .s AP qP cP∧ρ 41= .i (↑qP)∧ρ 42= .i ↑i∧i≤qP∧(∀s ∈ ss,s.size≤16)∧(∀w,D.φ w → ∀b ∈ bs,b.ok w)∧St w aR [ay 61 1 (.s Ab i cb) i (bs.map BitsM.cell),ay 9 1 (.s As i cs) i (ss.map .string),D,an g8 [.b b5,.b b7,.w u1,.w u2,.w u3,.w u4,.s As i cs,.s Ab i cb,.ns,.ns,.ns,.ns,.ns] 40,an g1 [.b false,.b false,.w 0,.w 0,.w 0,.w 0,.ns,.ns,.ns,.ns,.ns,.ns,.ns] 40] w') (fun ρ _=>qP+1- nv (ρ 42)) (⟨0,_,_,_,_,[],[],_,Z,Z,Z,Z,Z,Z,Z,Z,by omega,(fun _ h=>by cases h),(fun _ _ _ h=>by cases h),H3⟩) ?_
 rintro cW w4 ⟨i,As,cs,Ab,cb,ss,bs,D,a0,a2,a3,a8,a9,bv,bw,Q,hi,hss,hD,H4⟩
 refine sr (wv Z (bR Q bw) (wn (ad ?_)))
 refine bK Z (fun R=> ?_) (fun R=> ?_)
 ·
  simp only[bx]at R
  refine wk (ad (a6 (sr ?_)))
  have hin:i<nP:=by omega
  obtain⟨gP,oP,rfl,hcP⟩:=hrP.at_ hin
  have hxb:=hwP i
  generalize hx:ps.getD i 0=x at hcP hxb
  refine mg Q Z (wv Z (bi i pk bv Q Z (by omega) (by rw[Nat.mul_one])) (wv Z (ag ax Z (H4.kc hcP)) (ai (↑i) Z (av (.w x) Z (wn (ad ?_))))))
  have bz:=H4.drew
  refine dt MX (fun w'=>w'.cell? ⟨g8,6,none⟩=some (.s As i cs)) (fun w'=>True) 10 (Pl.take 0 (Pl.takeS 1 (tr 2 5 (Pl.run 7 (Pl.run 8 (Pl.take 9 (Pl.run 10 Pl.done))))))) (by kernel_rfl) Z (bz.c 3 6 Z Z) (trivial) (qy Z (ab (o:=0) oE a9) (qs Z Z (fun _ hS=>ag jz Z hS) (qm (.w x) Z Z (qy Z (gg (c:=x%11) Z Z (by omega) (by omega) Z) (qy Z (aH (k:= .u32) (c:=1+x%11) Z Z (dm (by omega) (by omega))) ?_)))))
  obtain⟨b1,aB⟩: ∃z:ByteArray,ByteArray.extract (⟨#[65,66,67,68,69,70,71,72,73,74,75]⟩) 0 ((1+x%11:Int).toNat)=z:=⟨_,rfl⟩
  have cX:(b1).size≤11:=by rw[←aB,ByteArray.size_extract];have:(⟨#[65,66,67,68,69,70,71,72,73,74,75]⟩:ByteArray).size=11:=rfl;omega
  refine qy Z (ie aB l3 Z (bh Z (by omega) Z) (by show _≤11;omega)) ?_
  obtain⟨r,aC⟩: ∃z:ByteArray,⟨#[95,95,83,69,71]⟩++b1=z:=⟨_,rfl⟩
  have cY:(⟨#[95,95,83,69,71]⟩:ByteArray).size=5:=rfl
  have bb:(r).size≤16:=by rw[←aC,ByteArray.size_append];omega
  refine qy Z (wH (c:=r) Z Z (by omega) aC) (qr Z (eb bz 9 [.string r] Z (by kernel_rfl) (fun cZ ep da bc=>⟨trivial,fun _=>bc.c 4 6 Z Z,qr Z (bG bc 2 (m:=1) (news:= [.string r]) Z AZ TB9 Z (by decide) Z Z Z (bc.news (i:=0) Z) (by simp[Value.oneCell']) (by simp only[maxLen];omega) (by omega) (fun er dd bd=> ?_))⟩)))
  obtain⟨G,H,rfl,_,_⟩:=aw (bd.g 2 rfl)
  refine⟨trivial,fun _=>bd.c 4 6 Z Z,qy Z (ab (o:=0) oE a9) (dJ Z (es bd 4 6 (.s G (i+1) H) Z jz (fun et be=> ?_)))⟩
  refine⟨trivial,fun h=>absurd h (by decide),pn (sr (wm Z (eb be 64 [] Z (by kernel_rfl) (fun bf b4 de df=>eL bf 0 0 0 Z (wn (ad (sr (mv (.w x) Z (wv Z (hC (m:=1048576) Z Z (by decide) (by decide) (by decide)) ?_)))))))))⟩
  obtain⟨nm,hnm⟩: ∃z:Nat,(x / 1048576)%4=(z:Int):=⟨((x / 1048576)%4).toNat,by omega⟩
  refine wv Z (gg (c:= ↑nm) Z Z (by omega) (by omega) hnm) (mv (.w 0) Z (wn (a6 ?_)))
  have dg:St w aR [ay 64 6 (.sl bf 0 0 0) 0 ([]),an cZ [.string r] 9,ay 61 1 (.s Ab i cb) i (bs.map BitsM.cell),ay 9 1 (.s G (i+1) H) (i+1) ((ss.map .string)++ [.string r]),D,an g8 [.b b5,.b b7,.w u1,.w u2,.w u3,.w u4,.s G (i+1) H,.s Ab i cb,.ns,.ns,.ns,.ns,.ns] 40,an g1 [.b false,.b false,.w 0,.w 0,.w 0,.w 0,.ns,.ns,.ns,.ns,.ns,.ns,.ns] 40] b4:=df.rowOf (i:=0) (cap:=0) rfl rfl (by simp[maxLen])
  have H5:St w aR [ay 64 6 (.sl bf 0 0 0) 0 (([]:List BitM).flatMap BitM.cells),Res.all [],ay 61 1 (.s Ab i cb) i (bs.map BitsM.cell),ay 9 1 (.s G (i+1) H) (i+1) ((ss.map .string)++ [.string r]),D,an g8 [.b b5,.b b7,.w u1,.w u2,.w u3,.w u4,.s G (i+1) H,.s Ab i cb,.ns,.ns,.ns,.ns,.ns] 40,an g1 [.b false,.b false,.w 0,.w 0,.w 0,.w 0,.ns,.ns,.ns,.ns,.ns,.ns,.ns] 40] b4:=by have h:=dg.reAll [] [0,2,3,4,5,6];exact h.re [1,0,2,3,4,5,6]
  refine bA (fun ρ w'=> ∃j:Nat,∃Aw:Option Addr,∃cw:Nat,∃bl:List BitM,∃D2:Res,ρ 0= .w fl∧ρ 2= .s AD nD cD∧ρ 3= .s AV nV cV∧ρ 8= .pt g1∧ρ 9= .pt g8∧ρ 10= .i (↑i)∧ρ 11= .w x∧ρ 40= .sl gP oP qP cP∧ρ 41= .i (↑qP)∧ρ 42= .i (↑i)∧ρ 60= .w (↑nm)∧ρ 12= .s Aw j cw∧ρ 61= .w ↑j∧j≤nm∧(∀w,D2.φ w → ∀b ∈ bl,b.ok w)∧St w aR [ay 64 6 (.s Aw j cw) j (bl.flatMap BitM.cells),D2,ay 61 1 (.s Ab i cb) i (bs.map BitsM.cell),ay 9 1 (.s G (i+1) H) (i+1) ((ss.map .string)++ [.string r]),D,an g8 [.b b5,.b b7,.w u1,.w u2,.w u3,.w u4,.s G (i+1) H,.s Ab i cb,.ns,.ns,.ns,.ns,.ns] 40,an g1 [.b false,.b false,.w 0,.w 0,.w 0,.w 0,.ns,.ns,.ns,.ns,.ns,.ns,.ns] 40] w') (fun ρ _=>nm+1- nv (ρ 61)) (⟨0,_,_,[],_,a0,a2,a3,a8,a9,Z,Z,bv,bw,Q,Z,Z,Z,by omega,(fun _ _ _ h=>by cases h),H5⟩) ?_
  rintro dh w6 ⟨j,Aw,cw,bl,D2,b0,b2,b3,b8,b9,b6,bB,bC,bD,bF,bI,bJ,a7,hj,bM,H6⟩
  refine sr (wv Z (bR a7 bI) (wn (ad ?_)))
  refine bK Z (fun S=> ?_) (fun S=> ?_)
  ·
   simp only[bx]at S
   refine wk (ad (a6 (sr (mg a7 Z (av (.w (↑j)) Z (wn (ae (mg bJ Z (mg bB Z (mv (.w (↑j)) Z (mg b6 Z ?_)))))))))))
   refine wv Z (aH (k:= .i64) (c:= ↑i+7919) Z Z (a5 (by omega) (by omega))) (wv Z (ao ej jR Z (dm (by omega) (by omega))) ?_)
   obtain⟨m1,bN⟩: ∃z:Int,IntKind.u32.wrap ((↑j)*(↑i+7919))=z:=⟨_,rfl⟩
   have di:=tz ((↑j)*(↑i+7919))
   rw[bN]at di
   refine wv Z (cM (k:= .u32) (c:=m1) Z Z bN) ?_
   obtain⟨m2,bO⟩: ∃z:Int,IntKind.u32.wrap (x+m1)=z:=⟨_,rfl⟩
   have bg:=tz (x+m1)
   rw[bO]at bg
   refine wv Z (aH (k:= .u32) (c:=m2) Z Z bO) (mg b2 Z (wE [.w m2,.s AD nD cD] CK24 Z Z (aa (Ag _ bg.1 bg.2 (hrD.keep0 H6.keep) hbD hnD) ?_)))
   rintro e ev ⟨T,q1,q2,q3,B1,nB,cB,ys,C1,nC,cC,rs,rfl,hns,hnB,hnC,hyb,hrs,bP⟩
   have dj:=H6.cal0 bP
   refine⟨_,Z,wm Z (kt dj (ps:= [(0,.agg #[.string T,.q q1,.w q2,.w q3,.s B1 nB cB,.s C1 nC cC])]) (e:=64) (cs:= [.string T,.q q1,.w q2,.w q3,.s B1 nB cB,.s C1 nC cC]) Z (by kernel_rfl) (fun ew ex dk bQ=>wm Z (bG bQ 3 (m:=1) (news:= [.string T,.q q1,.w q2,.w q3,.s B1 nB cB,.s C1 nC cC]) Z TU61 TB64 Z (by decide) Z Z Z (bQ.news (i:=0) Z) (by simp[Value.oneCell']) (by simp only[maxLen];omega) (by omega) (fun ey ez bT=> ?_))))⟩
   obtain⟨dl,dn,rfl,_,_⟩:=aw (bT.g 3 rfl)
   refine av (.s dl (j+1) dn) Z (bk (ak (ac (ae (wv Z (aH (k:= .u32) (c:= ↑j+1) a7 Z (dm (by omega) (by omega))) (mv (.w (↑j+1)) Z (wn ?_)))))))
   have e3:=im (f:=BitM.cells) bl ⟨T,q1,q2,q3,B1,nB,cB,ys,C1,nC,cC,rs⟩
   have H9:=(bT.reAll [1,2,4] [3,5,6,7,8,9]).re [1,0,2,3,4,5,6]
   exact⟨⟨j+1,_,_,bl++ [⟨T,q1,q2,q3,B1,nB,cB,ys,C1,nC,cC,rs⟩],_,b0,b2,b3,b8,b9,b6,bB,bC,bD,bF,bI,Z,Z,by omega,fun w h=>eu (bM w (aS.1 h D2 (by simp))) ⟨hns,hnB,hnC,aV (aS.1 h (ay 5 1 (.s B1 nB cB) nB (nums .u8 ys)) (by simp)),hyb,aV (aS.1 h (ay 24 1 (.s C1 nC cC) nC (nums .u32 rs)) (by simp)),hrs⟩,e3▸H9⟩,by show nm+1- nv (.w (↑j+1))<nm+1- nv (dh 61);rw[a7];simp only[nv];omega⟩
  ·
   simp only[bx]at S
   refine bq (ar (ar (aQ (ac (ae (wv Z (ab oA b9) (wv Z (H6.ld 5 Z sd Z (.s Ab i cb) Z) (mg bJ Z (wm Z (eb H6 61 [.s Aw j cw] Z (by kernel_rfl) (fun e0 e4 dp bU=>wm Z ?_)))))))))))
   refine bG bU 3 (m:=1) (news:= [.s Aw j cw]) Z TU37 TB61 Z (by decide) Z Z Z (bU.news (i:=0) Z) (by simp[Value.oneCell']) (by simp only[maxLen];omega) (by omega) (fun e5 e6 bV=> ?_)
   obtain⟨dq,dr,rfl,_,_⟩:=aw (bV.g 3 rfl)
   refine wv Z (ab oA b9) (ws (es bV 6 7 (.s dq (i+1) dr) Z sd (fun e7 ds=> ?_)))
   refine bk (ak (ac (ae (wv Z (aH (k:= .i64) (c:= ↑i+1) bF Z (a5 (by omega) (by omega))) (mi (↑i+1) Z (wn ?_))))))
   have e1:=qb (f:=BitsM.cell) bs ⟨Aw,j,cw,bl⟩
   have e2:=qb (f:=Value.string) ss r
   have H9:=ds.reAll [1,2,5] [3,4,6,7]
   have ba:=H9.re [1,2,0,3,4]
   exact⟨⟨i+1,_,_,_,_,ss++ [r],bs++ [⟨Aw,j,cw,bl⟩],_,b0,b2,b3,b8,b9,bC,bD,Z,by omega,eu hss bb,fun w h=>eu (hD w (aS.1 h D (by simp))) ⟨by show j≤3;omega,i2 (aS.1 h (ay 64 6 (.s Aw j cw) j (bl.flatMap BitM.cells)) (by simp)),bM w (aS.1 h D2 (by simp))⟩,e1▸e2▸ba⟩,by show qP+1- nv (.i (↑i+1))<qP+1- nv (cW 42);rw[Q];simp only[nv];omega⟩
 ·
  simp only[bx]at R
  refine bq (ar (ar (aQ (ac (ad (sr (mg a0 Z (wv Z (hC (m:=4096) Z Z (by decide) (by decide) (by decide)) ?_))))))))
  obtain⟨nL,hnL⟩: ∃z:Nat,(fl / 4096)%4=(z:Int):=⟨((fl / 4096)%4).toNat,by omega⟩
  refine wv Z (gg (c:= ↑nL) Z Z (by omega) (by omega) hnL) (mv (.w 0) Z (wn (a6 ?_)))
  obtain⟨E1,bW,du⟩: ∃E:Res,(∀w,E.φ w → Txts w As i 16 ss∧RV w Ab i 1 (bs.map BitsM.cell)∧∀b ∈ bs,b.ok w)∧St w aR [E,an g8 [.b b5,.b b7,.w u1,.w u2,.w u3,.w u4,.s As i cs,.s Ab i cb,.ns,.ns,.ns,.ns,.ns] 40,an g1 [.b false,.b false,.w 0,.w 0,.w 0,.w 0,.ns,.ns,.ns,.ns,.ns,.ns,.ns] 40] w4:=⟨Res.all [ay 61 1 (.s Ab i cb) i (bs.map BitsM.cell),ay 9 1 (.s As i cs) i (ss.map .string),D],fun w h=>⟨⟨i2 (aS.1 h (ay 9 1 (.s As i cs) i (ss.map .string)) (by simp)),hss⟩,i2 (aS.1 h (ay 61 1 (.s Ab i cb) i (bs.map BitsM.cell)) (by simp)),hD w (aS.1 h D (by simp))⟩,H4.reAll [0,1,2] [3,4]⟩
  have dv:=du.addRow 9 1
  have bX:St w aR [ay 9 1 (.ns) 0 (([]:List ByteArray).map .string),E1,an g8 [.b b5,.b b7,.w u1,.w u2,.w u3,.w u4,.s As i cs,.s Ab i cb,.ns,.ns,.ns,.ns,.ns] 40,an g1 [.b false,.b false,.w 0,.w 0,.w 0,.w 0,.ns,.ns,.ns,.ns,.ns,.ns,.ns] 40] w4:=dv.re [0,1,2,3]
  refine bA (fun ρ w'=> ∃k:Nat,∃Al:Option Addr,∃cl:Nat,∃ls:List ByteArray,ρ 0= .w fl∧ρ 3= .s AV nV cV∧ρ 8= .pt g1∧ρ 9= .pt g8∧ρ 86= .w (↑nL)∧ρ 87= .w ↑k∧k≤nL∧(∀s ∈ ls,s.size≤20)∧St w aR [ay 9 1 (.s Al k cl) k (ls.map .string),E1,an g8 [.b b5,.b b7,.w u1,.w u2,.w u3,.w u4,.s As i cs,.s Ab i cb,.s Al k cl,.ns,.ns,.ns,.ns] 40,an g1 [.b false,.b false,.w 0,.w 0,.w 0,.w 0,.ns,.ns,.ns,.ns,.ns,.ns,.ns] 40] w') (fun ρ _=>nL+1- nv (ρ 87)) (⟨0,_,_,[],a0,a3,a8,a9,Z,Z,by omega,(fun _ h=>by cases h),bX⟩) ?_
  rintro bY bZ ⟨k,Al,cl,ls,I,U,V,u,O,v,dR,W,cc⟩
  refine sr (wv Z (bR v O) (wn (ad ?_)))
  refine bK Z (fun X=> ?_) (fun X=> ?_)
  ·
   simp only[bx]at X
   refine wk (ad (a6 (sr (mg v Z (av (.w (↑k)) Z (wn ?_))))))
   have cd:=cc.drew
   refine dt MX (fun w'=>w'.cell? ⟨g8,8,none⟩=some (.s Al k cl)) (fun w'=>True) 9 (Pl.take 0 (Pl.takeS 1 (tr 2 4 (Pl.run 6 (Pl.run 7 (Pl.take 8 (Pl.run 9 Pl.done))))))) (by kernel_rfl) Z (cd.c 2 8 Z Z) (trivial) (qy Z (ab (o:=0) qw u) (qs Z Z (fun _ hS=>ag jz Z hS) (qm (.w (↑k)) Z Z (qy Z (aH (k:= .u32) (c:=1+ ↑k) Z Z (dm (by omega) (by omega))) ?_))))
   obtain⟨ce,aD⟩: ∃z:ByteArray,ByteArray.extract (⟨#[115,121,115,116,101,109]⟩) 0 ((1+ ↑k:Int).toNat)=z:=⟨_,rfl⟩
   have dw:(ce).size≤6:=by rw[←aD,ByteArray.size_extract];have:(⟨#[115,121,115,116,101,109]⟩:ByteArray).size=6:=rfl;omega
   refine qy Z (ie aD l3 Z (bh Z (by omega) Z) (by show _≤6;omega)) ?_
   obtain⟨P,aE⟩: ∃z:ByteArray,⟨#[47,117,115,114,47,108,105,98,47,108,105,98]⟩++ce=z:=⟨_,rfl⟩
   have dx:(⟨#[47,117,115,114,47,108,105,98,47,108,105,98]⟩:ByteArray).size=12:=rfl
   have dy:(P).size≤18:=by rw[←aE,ByteArray.size_append];omega
   refine qy Z (wH (c:=P) Z Z (by omega) aE) (qr Z (eb cd 9 [.string P] Z (by kernel_rfl) (fun e8 e9 dz bj=>⟨trivial,fun _=>bj.c 3 8 Z Z,qr Z (bG bj 1 (m:=1) (news:= [.string P]) Z AZ TB9 Z (by decide) Z Z Z (bj.news (i:=0) Z) (by simp[Value.oneCell']) (by simp only[maxLen];omega) (by omega) (fun eA eB bm=> ?_))⟩)))
   obtain⟨d1,d2,rfl,_,_⟩:=aw (bm.g 1 rfl)
   refine⟨trivial,fun _=>bm.c 3 8 Z Z,qy Z (ab (o:=0) qw u) (dJ Z (es bm 3 8 (.s d1 (k+1) d2) Z jz (fun eC d3=> ?_)))⟩
   refine⟨trivial,fun h=>absurd h (by decide),ca (ak (ac (ae (wv Z (aH (k:= .u32) (c:= ↑k+1) v Z (dm (by omega) (by omega))) (mv (.w (↑k+1)) Z (wn ?_))))))⟩
   have e1:=qb (f:=Value.string) ls P
   have cf:=d3.re [1,2,3,4]
   exact⟨⟨k+1,_,_,ls++ [P],I,U,V,u,O,Z,by omega,eu W (by omega),e1▸cf⟩,by show nL+1- nv (.w (↑k+1))<nL+1- nv (bY 87);rw[v];simp only[nv];omega⟩
  ·
   simp only[bx]at X
   refine bq (ar (ar (aQ (ac (ad (sr (mg I Z (wv Z (hC (m:=65536) Z Z (by decide) (by decide) (by decide)) ?_))))))))
   obtain⟨nQ,hnQ⟩: ∃z:Nat,(fl / 65536)%4=(z:Int):=⟨((fl / 65536)%4).toNat,by omega⟩
   refine wv Z (gg (c:= ↑nQ) Z Z (by omega) (by omega) hnQ) (mv (.w 0) Z (wn (a6 ?_)))
   obtain⟨A1,n1,c1,J,rfl,rfl,rfl,rfl⟩: ∃(A:Option Addr) (n c:Nat) (l:List ByteArray),A=Al∧n=k∧c=cl∧l=ls:=⟨_,_,_,_,rfl,rfl,rfl,rfl⟩
   obtain⟨E2,ch,d4⟩: ∃E:Res,(∀w,E.φ w → Txts w A1 n1 20 J)∧St w aR [E,E1,an g8 [.b b5,.b b7,.w u1,.w u2,.w u3,.w u4,.s As i cs,.s Ab i cb,.s A1 n1 c1,.ns,.ns,.ns,.ns] 40,an g1 [.b false,.b false,.w 0,.w 0,.w 0,.w 0,.ns,.ns,.ns,.ns,.ns,.ns,.ns] 40] bZ:=⟨Res.all [ay 9 1 (.s A1 n1 c1) n1 (J.map .string)],fun w h=>⟨i2 (aS.1 h (ay 9 1 (.s A1 n1 c1) n1 (J.map .string)) (by simp)),W⟩,cc.reAll [0] [1,2,3]⟩
   have d5:=d4.addRow 9 1
   have cj:St w aR [ay 9 1 (.ns) 0 (([]:List ByteArray).map .string),E2,E1,an g8 [.b b5,.b b7,.w u1,.w u2,.w u3,.w u4,.s As i cs,.s Ab i cb,.s A1 n1 c1,.ns,.ns,.ns,.ns] 40,an g1 [.b false,.b false,.w 0,.w 0,.w 0,.w 0,.ns,.ns,.ns,.ns,.ns,.ns,.ns] 40] bZ:=d5.re [0,1,2,3,4]
   refine bA (fun ρ w'=> ∃k:Nat,∃Al:Option Addr,∃cl:Nat,∃ls:List ByteArray,ρ 0= .w fl∧ρ 3= .s AV nV cV∧ρ 8= .pt g1∧ρ 9= .pt g8∧ρ 102= .w (↑nQ)∧ρ 103= .w ↑k∧k≤nQ∧(∀s ∈ ls,s.size≤20)∧St w aR [ay 9 1 (.s Al k cl) k (ls.map .string),E2,E1,an g8 [.b b5,.b b7,.w u1,.w u2,.w u3,.w u4,.s As i cs,.s Ab i cb,.s A1 n1 c1,.s Al k cl,.ns,.ns,.ns] 40,an g1 [.b false,.b false,.w 0,.w 0,.w 0,.w 0,.ns,.ns,.ns,.ns,.ns,.ns,.ns] 40] w') (fun ρ _=>nQ+1- nv (ρ 103)) (⟨0,_,_,[],I,U,V,u,Z,Z,by omega,(fun _ h=>by cases h),cj⟩) ?_
   rintro ck cm ⟨k,Al,cl,ls,Y,K,af,y,C,B,dS,ah,cn⟩
   refine sr (wv Z (bR B C) (wn (ad ?_)))
   refine bK Z (fun aj=> ?_) (fun aj=> ?_)
   ·
    simp only[bx]at aj
    refine wk (ad (a6 (sr (mg B Z (av (.w (↑k)) Z (wn ?_))))))
    have co:=cn.drew
    refine dt MX (fun w'=>w'.cell? ⟨g8,9,none⟩=some (.s Al k cl)) (fun w'=>True) 9 (Pl.take 0 (Pl.takeS 1 (tr 2 4 (Pl.run 6 (Pl.run 7 (Pl.take 8 (Pl.run 9 Pl.done))))))) (by kernel_rfl) Z (co.c 3 9 Z Z) (trivial) (qy Z (ab (o:=0) qv y) (qs Z Z (fun _ hS=>ag jz Z hS) (qm (.w (↑k)) Z Z (qy Z (cM (k:= .u32) (c:=2* ↑k) Z Z (dm (by omega) (by omega))) (qy Z (aH (k:= .u32) (c:=1+2* ↑k) Z Z (dm (by omega) (by omega))) ?_)))))
    obtain⟨al,aF⟩: ∃z:ByteArray,ByteArray.extract (⟨#[47,111,112,116,47,108,105,98]⟩) 0 ((1+2* ↑k:Int).toNat)=z:=⟨_,rfl⟩
    have d6:(al).size≤8:=by rw[←aF,ByteArray.size_extract];have:(⟨#[47,111,112,116,47,108,105,98]⟩:ByteArray).size=8:=rfl;omega
    refine qy Z (ie aF l3 Z (bh Z (by omega) Z) (by show _≤8;omega)) (qr Z (eb co 9 [.string al] Z (by kernel_rfl) (fun eD eF d7 bn=>⟨trivial,fun _=>bn.c 4 9 Z Z,qr Z (bG bn 1 (m:=1) (news:= [.string al]) Z AZ TB9 Z (by decide) Z Z Z (bn.news (i:=0) Z) (by simp[Value.oneCell']) (by simp only[maxLen];omega) (by omega) (fun eG eH bo=> ?_))⟩)))
    obtain⟨dA,dB,rfl,_,_⟩:=aw (bo.g 1 rfl)
    refine⟨trivial,fun _=>bo.c 4 9 Z Z,qy Z (ab (o:=0) qv y) (dJ Z (es bo 4 9 (.s dA (k+1) dB) Z jz (fun eI dC=> ?_)))⟩
    refine⟨trivial,fun h=>absurd h (by decide),ca (ak (ac (ae (wv Z (aH (k:= .u32) (c:= ↑k+1) B Z (dm (by omega) (by omega))) (mv (.w (↑k+1)) Z (wn ?_))))))⟩
    have e1:=qb (f:=Value.string) ls al
    have cp:=dC.re [1,2,3,4,5]
    exact⟨⟨k+1,_,_,ls++ [al],Y,K,af,y,C,Z,by omega,eu ah (by omega),e1▸cp⟩,by show nQ+1- nv (.w (↑k+1))<nQ+1- nv (ck 103);rw[B];simp only[nv];omega⟩
   ·
    simp only[bx]at aj
    refine bq (ar (ar (aQ (ac (ad (sr (mg K Z (mg K Z (wv Z (aO o4 Z) ?_)))))))))
    obtain⟨qV,hqV,hqVa,hqVb⟩: ∃z:Nat,(if(8:Int)< ↑nV then(8:Int)else ↑nV)= ↑z∧z≤8∧z≤nV:=⟨Nat.min 8 nV,by simp only[Nat.min_def];split<;>split<;>omega,Nat.min_le_left _ _,Nat.min_le_right _ _⟩
    refine wv Z (i7 (c:= ↑qV) Z Z hqV) (wv Z (iP (h:=qV) bL Z (bh Z (by omega) (by omega)) (by omega)) (wv Z (aO o4 Z) (mi 0 Z (wn (a6 ?_)))))
    obtain⟨A2,n2,c2,L,rfl,rfl,rfl,rfl⟩: ∃(A:Option Addr) (n c:Nat) (l:List ByteArray),A=Al∧n=k∧c=cl∧l=ls:=⟨_,_,_,_,rfl,rfl,rfl,rfl⟩
    obtain⟨E3,cq,dD⟩: ∃E:Res,(∀w,E.φ w → Txts w A2 n2 20 L)∧St w aR [E,E2,E1,an g8 [.b b5,.b b7,.w u1,.w u2,.w u3,.w u4,.s As i cs,.s Ab i cb,.s A1 n1 c1,.s A2 n2 c2,.ns,.ns,.ns] 40,an g1 [.b false,.b false,.w 0,.w 0,.w 0,.w 0,.ns,.ns,.ns,.ns,.ns,.ns,.ns] 40] cm:=⟨Res.all [ay 9 1 (.s A2 n2 c2) n2 (L.map .string)],fun w h=>⟨i2 (aS.1 h (ay 9 1 (.s A2 n2 c2) n2 (L.map .string)) (by simp)),ah⟩,cn.reAll [0] [1,2,3,4]⟩
    have dE:=dD.addRow 24 1
    have dF:=dE.addRow 76 5
    have cr:St w aR [ay 76 5 (.ns) 0 (([]:List SyM).flatMap SyM.cells),ay 24 1 (.ns) 0 (nums .u32 ([]:List Int)),E3,E2,E1,an g8 [.b b5,.b b7,.w u1,.w u2,.w u3,.w u4,.s As i cs,.s Ab i cb,.s A1 n1 c1,.s A2 n2 c2,.ns,.ns,.ns] 40,an g1 [.b false,.b false,.w 0,.w 0,.w 0,.w 0,.ns,.ns,.ns,.ns,.ns,.ns,.ns] 40] cm:=dF.re [0,1,2,3,4,5,6]
    refine bA (fun ρ w'=> ∃k:Nat,∃Ay:Option Addr,∃cy:Nat,∃Ai:Option Addr,∃ci:Nat,∃yl:List SyM,∃il:List Int,ρ 0= .w fl∧ρ 8= .pt g1∧ρ 9= .pt g8∧ρ 120= .s AV qV cV∧ρ 121= .i (↑qV)∧ρ 122= .i ↑k∧k≤qV∧(∀s ∈ yl,s.nm.size≤5)∧St w aR [ay 76 5 (.s Ay k cy) k (yl.flatMap SyM.cells),ay 24 1 (.s Ai k ci) k (nums .u32 il),E3,E2,E1,an g8 [.b b5,.b b7,.w u1,.w u2,.w u3,.w u4,.s As i cs,.s Ab i cb,.s A1 n1 c1,.s A2 n2 c2,.s Ay k cy,.s Ai k ci,.ns] 40,an g1 [.b false,.b false,.w 0,.w 0,.w 0,.w 0,.ns,.ns,.ns,.ns,.ns,.ns,.ns] 40] w') (fun ρ _=>qV+1- nv (ρ 122)) (⟨0,_,_,_,_,[],[],Y,af,y,Z,Z,Z,by omega,(fun _ h=>by cases h),cr⟩) ?_
    rintro ct dd ⟨k,Ay,cy,Ai,ci,yl,il,d0,d8,d9,am,ap,t,dT,hyl,N⟩
    refine sr (wv Z (bR t ap) (wn (ad ?_)))
    refine bK Z (fun aq=> ?_) (fun aq=> ?_)
    ·
     simp only[bx]at aq
     refine wk (ad (a6 (sr ?_)))
     have hin:k<nV:=by omega
     obtain⟨gV,oV,rfl,hcV⟩:=hrV.at_ hin
     have hxb:=hwV k
     generalize hx:vs.getD k 0=x at hcV hxb
     refine mg t Z (wv Z (bi k bL am t Z (by omega) (by rw[Nat.mul_one])) (wv Z (ag aP Z (N.kc hcV)) (ai (↑k) Z (au x Z (wn ?_)))))
     refine eh (fun ρ w'=> ∃x:Int,ρ 0= .w fl∧ρ 8= .pt g1∧ρ 9= .pt g8∧ρ 16= .i (↑k)∧ρ 120= .sl gV oV qV cV∧ρ 121= .i (↑qV)∧ρ 122= .i (↑k)∧ρ 17= .q x∧0≤x∧St w aR [ay 76 5 (.s Ay k cy) k (yl.flatMap SyM.cells),ay 24 1 (.s Ai k ci) k (nums .u32 il),E3,E2,E1,an g8 [.b b5,.b b7,.w u1,.w u2,.w u3,.w u4,.s As i cs,.s Ab i cb,.s A1 n1 c1,.s A2 n2 c2,.s Ay k cy,.s Ai k ci,.ns] 40,an g1 [.b false,.b false,.w 0,.w 0,.w 0,.w 0,.ns,.ns,.ns,.ns,.ns,.ns,.ns] 40] w') ?_ ?_
     ·
      refine sr (wv Z (ab jo d9) (wv Z (N.ld 5 Z dc Z (.b b5) Z) (wv Z (bS Z) (wn ?_))))
      refine bK Z (fun cu=> ?_) (fun cu=> ?_)
      ·
       refine ae (mu x Z (wv Z (gg (c:=x%4294967296) Z Z (by omega) (by omega) Z) (au (x%4294967296) Z (wn ?_))))
       exact⟨_,d0,d8,d9,Z,am,ap,t,Z,by omega,N⟩
      ·
       refine wk ?_
       exact⟨_,d0,d8,d9,Z,am,ap,t,Z,by omega,N⟩
     ·
      rintro ρ eJ ⟨x,f0,f8,f9,dH,cv,cx,cz,az,eK,be⟩
      refine ad ?_
      have c0:=be.drew
      refine dt MX (fun w'=>w'.cell? ⟨g8,10,none⟩=some (.s Ay k cy)) (fun w'=>True) 19 (Pl.take 0 (Pl.takeS 1 (tr 2 14 (Pl.run 16 (Pl.run 17 (Pl.take 18 (Pl.run 19 Pl.done))))))) (by kernel_rfl) Z (c0.c 5 10 Z Z) (trivial) (qy Z (ab (o:=0) l7 f9) (qs Z Z (fun _ hS=>ag gi Z hS) (qm (.i (↑k)) Z dH (qy Z (gg (c:= ↑(k%5)) Z Z (by omega) (by omega) (by omega)) (qy Z (aH (k:= .i64) (c:=1+ ↑(k%5)) Z Z (a5 (by omega) (by omega))) ?_)))))
      obtain⟨F,aG⟩: ∃z:ByteArray,ByteArray.extract (⟨#[95,109,97,105,110]⟩) 0 ((1+ ↑(k%5):Int).toNat)=z:=⟨_,rfl⟩
      have bp:(F).size≤5:=by rw[←aG,ByteArray.size_extract];have:(⟨#[95,109,97,105,110]⟩:ByteArray).size=5:=rfl;omega
      refine qy Z (ie aG l3 Z (bh Z (by omega) Z) (by show _≤5;omega)) (qm (.q x) Z az ?_)
      obtain⟨v1,dI⟩: ∃z:Int,IntKind.u8.wrap x=z:=⟨_,rfl⟩
      refine qy Z (ao (c:=v1) db lk Z dI) (qm (.q x) Z az (qy Z (hC (m:=8) Z Z (by decide) (by decide) (by decide)) ?_))
      obtain⟨v2,dK⟩: ∃z:Int,IntKind.u8.wrap (x / 8)=z:=⟨_,rfl⟩
      refine qy Z (ao (c:=v2) db lk Z dK) (qm (.q x) Z az (qy Z (hC (m:=32) Z Z (by decide) (by decide) (by decide)) ?_))
      obtain⟨v3,dL⟩: ∃z:Int,IntKind.u16.wrap (x / 32)=z:=⟨_,rfl⟩
      refine qy Z (ao (c:=v3) db tb Z dL) (qm (.q x) Z az (qy Z (yb (ps:= [(0,.string F),(1,.e v1),(2,.e v2),(3,.h v3),(4,.q x)]) (cells:=#[.string F,.e v1,.e v2,.h v3,.q x]) Z (by kernel_rfl)) (qr Z (kt c0 (ps:= [(0,.agg #[.string F,.e v1,.e v2,.h v3,.q x])]) (e:=76) (cs:= [.string F,.e v1,.e v2,.h v3,.q x]) Z (by kernel_rfl) (fun eM dU dN a1=>⟨trivial,fun _=>a1.c 6 10 Z Z,qr Z (bG a1 1 (m:=1) (news:= [.string F,.e v1,.e v2,.h v3,.q x]) Z yL zw Z (by decide) Z Z Z (a1.news (i:=0) Z) (by simp[Value.oneCell']) (by simp only[maxLen];omega) (by omega) (fun dV dW a4=> ?_))⟩)))))
      obtain⟨c3,c4,rfl,_,_⟩:=aw (a4.g 1 rfl)
      refine⟨trivial,fun _=>a4.c 6 10 Z Z,qy Z (ab (o:=0) l7 f9) (dJ Z (es a4 6 10 (.s c3 (k+1) c4) Z gi (fun dX aI=> ?_)))⟩
      refine⟨trivial,fun h=>absurd h (by decide),pn (ae (wv Z (ab l6 f9) (wv Z (aI.ld 6 Z eE Z (.s Ai k ci) Z) (mg az Z (wv Z (hC (m:=2) Z Z (by decide) (by decide) (by decide)) ?_)))))⟩
      obtain⟨v4,dO⟩: ∃z:Int,IntKind.u32.wrap (x / 2)=z:=⟨_,rfl⟩
      refine wv Z (ao (c:=v4) db jR Z dO) (wm Z (eb aI 24 [.w v4] Z (by kernel_rfl) (fun dY dZ cE aJ=>wm Z (bG aJ 3 (m:=1) (news:= [.w v4]) Z tc vU Z (by decide) Z Z Z (aJ.news (i:=0) Z) (by simp[Value.oneCell']) (by simp only[maxLen];omega) (by omega) (fun ea ec aK=> ?_)))))
      obtain⟨c5,c6,rfl,_,_⟩:=aw (aK.g 3 rfl)
      refine wv Z (ab l6 f9) (ws (es aK 7 11 (.s c5 (k+1) c6) Z eE (fun ed c7=> ?_)))
      refine bk (ak (ac (ae (wv Z (aH (k:= .i64) (c:= ↑k+1) cz Z (a5 (by omega) (by omega))) (mi (↑k+1) Z (wn ?_))))))
      have e1:=im (f:=SyM.cells) yl ⟨F,v1,v2,v3,x⟩
      have c8:=c7.re [2,3,4,5,6,7,8]
      exact⟨⟨k+1,_,_,_,_,yl++ [⟨F,v1,v2,v3,x⟩],il++ [v4],f0,f8,f9,cv,cx,Z,by omega,eu hyl bp,e1▸lS (k:= .u32) (ys:=il) (z:=v4)▸c8⟩,by show qV+1- nv (.i (↑k+1))<qV+1- nv (ct 122);rw[t];simp only[nv];omega⟩
    ·
     simp only[bx]at aq
     refine bq (ar (ar (aQ (ac (ad (sr (mg d0 Z ?_)))))))
     obtain⟨aL,br⟩: ∃z:Int,IntKind.u32.wrap (BitVec.ofInt IntKind.u32.bits fl &&& BitVec.ofInt IntKind.u32.bits 4).toNat=z:=⟨_,rfl⟩
     refine wv Z (dG (k:= .u32) (c:=aL) Z Z br) ?_
     obtain⟨c9,bt⟩: ∃z:Bool,(aL !=0)=z:=⟨_,rfl⟩
     refine wv Z (cg (c:=c9) Z Z bt) (wn ?_)
     refine bK Z (fun bu=> ?_) (fun bu=> ?_)
     ·
      refine ae ?_
      have aM:=N.addRow 22 1
      refine wv Z (ab mH d9) (wv Z (aM.ld 6 Z uV Z (.ns) Z) (wm Z (eb aM 5 [.e 1,.e 2,.e 3,.e 4,.e 5,.e 6,.e 7,.e 8] Z (by kernel_rfl) (fun a ee cF cA=>wm Z (eb cA 22 [.sl a 0 8 8] Z (by kernel_rfl) (fun ef eg cG aT=>wm Z (bG aT 2 (m:=1) (news:= [.sl a 0 8 8]) Z TU38 TB22 Z (by decide) Z Z Z (aT.news (i:=0) Z) (by simp[Value.oneCell']) (by simp only[maxLen];omega) (by omega) (fun ei ek aU=> ?_))))))))
      obtain⟨d,p,rfl,_,_⟩:=aw (aU.g 2 rfl)
      refine wv Z (ab mH d9) (ws (es aU 8 12 (.s d (0+1) p) Z uV (fun el aW=> ?_)))
      refine wn (sr (wv Z (aW.loadA (i:=8) (vs:= [.b b5,.b b7,.w u1,.w u2,.w u3,.w u4,.s As i cs,.s Ab i cb,.s A1 n1 c1,.s A2 n2 c2,.s Ay k cy,.s Ai k ci,.s d (0+1) p]) Z yN d9 Z Z) (ws (bE aW 9 (vs:= [.b b5,.b b7,.w u1,.w u2,.w u3,.w u4,.s As i cs,.s Ab i cb,.s A1 n1 c1,.s A2 n2 c2,.s Ay k cy,.s Ai k ci,.s d (0+1) p]) (m:=13) Z AU d8 Z Z (nl Z) (by simp[Value.oneCell']) (cs':= [.b b5,.b b7,.w u1,.w u2,.w u3,.w u4,.s As i cs,.s Ab i cb,.s A1 n1 c1,.s A2 n2 c2,.s Ay k cy,.s Ai k ci,.s d (0+1) p]) Z (fun em aX=> ?_)))))
      refine wn (aY ?_)
      have HD:=aX.reAll [7,6,5,3,4,2,1] []
      have hDD: ∀w,(Res.all [E1,E2,E3,ay 76 5 (.s Ay k cy) k (yl.flatMap SyM.cells),ay 24 1 (.s Ai k ci) k (nums .u32 il),ay 22 1 (.s d (0+1) p) (0+1) (([])++ [.sl a 0 8 8]),an a [.e 1,.e 2,.e 3,.e 4,.e 5,.e 6,.e 7,.e 8] 5]).φ w → (⟨b5,b7,u1,u2,u3,u4,As,i,cs,ss,Ab,cb,bs,A1,n1,c1,J,A2,n2,c2,L,Ay,k,cy,yl,Ai,k,ci,il,d,0+1,p,[⟨some ⟨a,0,none⟩,8,8,[1,2,3,4,5,6,7,8]⟩]⟩:MadeM).ok w:=fun w h=>by
       have h1:=bW w (aS.1 h E1 (by simp));have h2:=ch w (aS.1 h E2 (by simp));have h3:=cq w (aS.1 h E3 (by simp))
       exact⟨by show i≤4;omega,by show n1≤3;omega,by show n2≤3;omega,by show k≤8;omega,by show k≤8;omega,by show 0+1≤1;omega,h1.1,h1.2.1,h1.2.2,h2,h3,i2 (aS.1 h (ay 76 5 (.s Ay k cy) k (yl.flatMap SyM.cells)) (by simp)),hyl,aV (aS.1 h (ay 24 1 (.s Ai k ci) k (nums .u32 il)) (by simp)),i2 (aS.1 h (ay 22 1 (.s d (0+1) p) (0+1) (([])++ [.sl a 0 8 8])) (by simp)),(fun b hb=>by rw[List.mem_singleton.1 hb];exact⟨by show 8≤8;omega,bH (aS.1 h (an a [.e 1,.e 2,.e 3,.e 4,.e 5,.e 6,.e 7,.e 8] 5) (by simp)),byt8⟩)⟩
      exact⟨.inr Z,_,iK Z yN (by exact d8) (aX.g 9 Z) Z,⟨⟨b5,b7,u1,u2,u3,u4,As,i,cs,ss,Ab,cb,bs,A1,n1,c1,J,A2,n2,c2,L,Ay,k,cy,yl,Ai,k,ci,il,d,0+1,p,[⟨some ⟨a,0,none⟩,8,8,[1,2,3,4,5,6,7,8]⟩]⟩,Z,_,hDD,HD⟩⟩
     ·
      refine wk (sr (wv Z (N.loadA (i:=5) (vs:= [.b b5,.b b7,.w u1,.w u2,.w u3,.w u4,.s As i cs,.s Ab i cb,.s A1 n1 c1,.s A2 n2 c2,.s Ay k cy,.s Ai k ci,.ns]) Z yN d9 Z Z) (ws (bE N 6 (vs:= [.b b5,.b b7,.w u1,.w u2,.w u3,.w u4,.s As i cs,.s Ab i cb,.s A1 n1 c1,.s A2 n2 c2,.s Ay k cy,.s Ai k ci,.ns]) (m:=13) Z AU d8 Z Z (nl Z) (by simp[Value.oneCell']) (cs':= [.b b5,.b b7,.w u1,.w u2,.w u3,.w u4,.s As i cs,.s Ab i cb,.s A1 n1 c1,.s A2 n2 c2,.s Ay k cy,.s Ai k ci,.ns]) Z (fun en aZ=> ?_)))))
      refine wn (aY ?_)
      have HD:=aZ.reAll [4,3,2,0,1] []
      have hDD: ∀w,(Res.all [E1,E2,E3,ay 76 5 (.s Ay k cy) k (yl.flatMap SyM.cells),ay 24 1 (.s Ai k ci) k (nums .u32 il)]).φ w → (⟨b5,b7,u1,u2,u3,u4,As,i,cs,ss,Ab,cb,bs,A1,n1,c1,J,A2,n2,c2,L,Ay,k,cy,yl,Ai,k,ci,il,none,0,0,[]⟩:MadeM).ok w:=fun w h=>by
       have h1:=bW w (aS.1 h E1 (by simp));have h2:=ch w (aS.1 h E2 (by simp));have h3:=cq w (aS.1 h E3 (by simp))
       exact⟨by show i≤4;omega,by show n1≤3;omega,by show n2≤3;omega,by show k≤8;omega,by show k≤8;omega,by show 0≤1;omega,h1.1,h1.2.1,h1.2.2,h2,h3,i2 (aS.1 h (ay 76 5 (.s Ay k cy) k (yl.flatMap SyM.cells)) (by simp)),hyl,aV (aS.1 h (ay 24 1 (.s Ai k ci) k (nums .u32 il)) (by simp)),RV.nil _ _ _,(fun _ h=>by cases h)⟩
      exact⟨.inr Z,_,iK Z yN (by exact d8) (aZ.g 6 Z) Z,⟨⟨b5,b7,u1,u2,u3,u4,As,i,cs,ss,Ab,cb,bs,A1,n1,c1,J,A2,n2,c2,L,Ay,k,cy,yl,Ai,k,ci,il,none,0,0,[]⟩,Z,_,hDD,HD⟩⟩
end Go.Proofs.YtlndedfkgiafhaaDoor
