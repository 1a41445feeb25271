import Derived.Test.YtlndedfkgiafhaaDoorXAK
set_option linter.unusedVariables false
set_option linter.unusedSimpArgs false
set_option maxRecDepth 100000
set_option maxHeartbeats 4000000
namespace Go.Proofs.YtlndedfkgiafhaaDoor
open Go Go.RowKit Go.Proofs
theorem fF:dA Tryd.prog 33 [.ns,.b false,.ns,.ns,.ns,.ns]:=bO (by kernel_rfl)
theorem jw:(Tryd.prog.info? 33).map (·.size)=some 6:=by kernel_rfl
theorem kV:iJ Tryd.prog 33 6:=eG (by kernel_rfl)
theorem iE:FA 33 0 0:=fa (by kernel_rfl)
theorem CK27:bg Tryd.prog 27:=aL (by kernel_rfl)
theorem CK29:bg Tryd.prog 29:=aL (by kernel_rfl)
theorem CK30:bg Tryd.prog 30:=aL (by kernel_rfl)
theorem CK31:bg Tryd.prog 31:=aL (by kernel_rfl)
theorem CK32:bg Tryd.prog 32:=aL (by kernel_rfl)
def LR(a b:LoadD):Prop:=a.kind=b.kind∧a.raw=b.raw∧a.name=b.name∧(a.kind=4∨a.nums=b.nums)
def LRs(lv:List LoadV)(ls:List LoadD):Prop:=lv.length=ls.length∧∀(i:Nat) (x:LoadV) (l:LoadD),lv[i]? =some x → ls[i]? =some l → LR x.l l
theorem LRs.snoc{lv:List LoadV}{ls:List LoadD}{x:LoadV}{l:LoadD}(h:LRs lv ls)(hl:LR x.l l):LRs (lv++ [x]) (ls++ [l]):=by
 refine⟨by simp[h.1],fun i v' l' h1 h2=> ?_⟩
 rcases Nat.lt_or_ge i lv.length with hi|hi
 · rw[List.getElem?_append_left hi]at h1
   rw[List.getElem?_append_left (by rw[←h.1];exact hi)]at h2
   exact h.2 i v' l' h1 h2
 · have hil:=(List.getElem?_eq_some_iff.1 h1).1
   have:i=lv.length:=by simp at hil;omega
   subst this
   rw[List.getElem?_append_right (Nat.le_refl _)]at h1
   rw[List.getElem?_append_right (by rw[h.1];exact Nat.le_refl _)]at h2
   simp[h.1]at h1 h2
   subst h1;subst h2;exact hl
structure NRD (φ : World → Prop) (gb ob N : Nat) (xs : List Int) (gh oh : Nat) (hl : List Int) (lv : List LoadV) (pv : List PartV) (As : Option Addr) (ns : Nat) (vi : Value) (s : PSt) : Prop where
 hd: ∀w,φ w → RI .u64 w (some ⟨gh,oh,none⟩) 7 hl
 ld: ∀w,φ w → RI .u8 w (some ⟨gb,ob,none⟩) N xs → ∀x ∈ lv,x.ok w
 lr:LRs lv s.loads
 pt: ∀w,φ w → RI .u8 w (some ⟨gb,ob,none⟩) N xs → ∀x ∈ pv,x.ok w
 pm:pv.map PartV.p=s.secs.map fun s=>s.part N xs
 sy: ∀w,φ w → RV w As ns 5 ((s.syms.getD []).flatMap Sym.cells)
 sn:(s.syms.getD []).length=ns
 iv: ∀w,φ w → SlI' .u32 w vi (s.ind.getD [])
section
variable{φ φ':World → Prop}{gb ob N gh oh ns ns2:Nat}{xs hl raw wd:List Int}{lv:List LoadV}{pv pj:List PartV}{As As2:Option Addr}{vi vi2:Value}{s:PSt}{x:LoadV}{ld:LoadD}{dn:List SecD}{ss:List Sym}
theorem mF{lv:List LoadV}{x:LoadV}{w:World}(h: ∀x ∈ lv,x.ok w)(hx:x.ok w): ∀y ∈ lv++ [x],y.ok w:=fun y hy=>by
 rcases List.mem_append.1 hy with hy|hy
 · exact h y hy
 · rw[List.mem_singleton.1 hy];exact hx
theorem NRD.load(h:NRD φ gb ob N xs gh oh hl lv pv As ns vi s)(hm: ∀w,φ' w → φ w)(hx: ∀w,φ' w → RI .u8 w (some ⟨gb,ob,none⟩) N xs → x.ok w)(hlr:LR x.l ld):NRD φ' gb ob N xs gh oh hl (lv++ [x]) pv As ns vi {s with loads:=s.loads++ [ld]}:=
 ⟨fun w hw=>h.hd w (hm w hw),fun w hw hb=>mF (h.ld w (hm w hw) hb) (hx w hw hb),h.lr.snoc hlr,fun w hw=>h.pt w (hm w hw),h.pm,fun w hw=>h.sy w (hm w hw),h.sn,fun w hw=>h.iv w (hm w hw)⟩
theorem NRD.seg(h:NRD φ gb ob N xs gh oh hl lv pv As ns vi s)(hm: ∀w,φ' w → φ w)(hx: ∀w,φ' w → RI .u8 w (some ⟨gb,ob,none⟩) N xs → x.ok w)(hlr:LR x.l ld)(hp: ∀w,φ' w → RI .u8 w (some ⟨gb,ob,none⟩) N xs → ∀y ∈ pj,y.ok w)(hpm:pj.map PartV.p=dn.map fun s=>s.part N xs):
 NRD φ' gb ob N xs gh oh hl (lv++ [x]) (pv++pj) As ns vi {s with loads:=s.loads++ [ld],secs:=s.secs++dn}:=
 ⟨fun w hw=>h.hd w (hm w hw),fun w hw hb=>mF (h.ld w (hm w hw) hb) (hx w hw hb),h.lr.snoc hlr,fun w hw hb y hy=>by
  rcases List.mem_append.1 hy with hy|hy
  · exact h.pt w (hm w hw) hb y hy
  · exact hp w hw hb y hy,by rw[List.map_append,h.pm,hpm,←List.map_append],fun w hw=>h.sy w (hm w hw),h.sn,fun w hw=>h.iv w (hm w hw)⟩
theorem NRD.sym(h:NRD φ gb ob N xs gh oh hl lv pv As ns vi s)(hm: ∀w,φ' w → φ w)(hx: ∀w,φ' w → RI .u8 w (some ⟨gb,ob,none⟩) N xs → x.ok w)(hlr:LR x.l ld)(hs: ∀w,φ' w → RV w As2 ns2 5 (ss.flatMap Sym.cells))(hn:ss.length=ns2):
 NRD φ' gb ob N xs gh oh hl (lv++ [x]) pv As2 ns2 vi {s with loads:=s.loads++ [ld],syms:=some ss}:=
 ⟨fun w hw=>h.hd w (hm w hw),fun w hw hb=>mF (h.ld w (hm w hw) hb) (hx w hw hb),h.lr.snoc hlr,fun w hw=>h.pt w (hm w hw),h.pm,hs,hn,fun w hw=>h.iv w (hm w hw)⟩
theorem NRD.dys(h:NRD φ gb ob N xs gh oh hl lv pv As ns vi s)(hm: ∀w,φ' w → φ w)(hx: ∀w,φ' w → RI .u8 w (some ⟨gb,ob,none⟩) N xs → x.ok w)(hlr:LR x.l ld)(hs: ∀w,φ' w → SlI' .u32 w vi2 wd):
 NRD φ' gb ob N xs gh oh hl (lv++ [x]) pv As ns vi2 {s with loads:=s.loads++ [ld],ind:=some wd}:=
 ⟨fun w hw=>h.hd w (hm w hw),fun w hw hb=>mF (h.ld w (hm w hw) hb) (hx w hw hb),h.lr.snoc hlr,fun w hw=>h.pt w (hm w hw),h.pm,fun w hw=>h.sy w (hm w hw),h.sn,hs⟩
end
def Fin'(wd big:Bool)(xs:List Int)(F:Option PSt)(n:Nat)(ds:List Int)(s:PSt)(op:Bool):Prop:=
 (op=false → F=gf wd big xs n ds s)∧(op=true → F=none∨∃t:PSt,t.syms=s.syms∧F=gf wd big xs n ds t)
section
variable{wd big op:Bool}{xs ds:List Int}{F:Option PSt}{n sz:Nat}{s s':PSt}
theorem Fin'.any(h:Fin' wd big xs F n ds s op):F=none∨∃t:PSt,t.syms=s.syms∧F=gf wd big xs n ds t:=by
 cases op
 · exact .inr ⟨s,Z,h.1 Z⟩
 · exact h.2 Z
theorem Fin'.n1(h:Fin' wd big xs F (n+1) ds s op)(h8:ds.length<8):F=none:=by
 rcases h.any with h|⟨t,_,h⟩
 · exact h
 · rw[h];exact t5 h8
theorem Fin'.n2(h:Fin' wd big xs F (n+1) ds s op)(hsz:(n4 big (ds.drop 4)).toNat=sz)(h2:sz<8∨ds.length<sz):F=none:=by
 rcases h.any with h|⟨t,_,h⟩
 · exact h
 · rw[h];exact pU hsz h2
theorem Fin'.bad(h:Fin' wd big xs F (n+1) ds s op)(hsz:(n4 big (ds.drop 4)).toNat=sz)(hst: ∀t:PSt,t.syms=s.syms → cU wd big xs (n4 big ds) (ds.take sz) t=none):F=none:=by
 rcases h.any with h|⟨t,ht,h⟩
 · exact h
 · rw[h];exact pT hsz (hst t ht)
theorem Fin'.good(h:Fin' wd big xs F (n+1) ds s op)(h8: ¬ds.length<8)(hsz:(n4 big (ds.drop 4)).toNat=sz)(hno: ¬(sz<8∨ds.length<sz))(hst:cU wd big xs (n4 big ds) (ds.take sz) s=some s')
 (hg: ∀t:PSt,t.syms=s.syms → ∃t',cU wd big xs (n4 big ds) (ds.take sz) t=some t'∧t'.syms=s'.syms):Fin' wd big xs F n (ds.drop sz) s' op:=by
 refine⟨fun e=>by rw[h.1 e];exact km h8 hsz hno hst,fun e=> ?_⟩
 rcases h.2 e with h|⟨t,ht,h⟩
 · exact .inl h
 · obtain⟨t',h1,h2⟩:=hg t ht
   exact .inr ⟨t',h2,by rw[h];exact km h8 hsz hno h1⟩
theorem pQ{raw:List Int}{t t':PSt}(h:cX big xs raw t=some t'):t'.syms=t.syms:=by
 unfold cX at h
 split at h
 · cases h
 · split at h
   · cases h
   · split at h
     · cases h
     · split at h
       · cases h
       · split at h
         · cases h
         · injection h with h;subst h;rfl
theorem Fin'.opn(h:Fin' wd big xs F (n+1) ds s op)(h8: ¬ds.length<8)(hsz:(n4 big (ds.drop 4)).toNat=sz)(hno: ¬(sz<8∨ds.length<sz))(hc:n4 big ds=11):Fin' wd big xs F n (ds.drop sz) s true:=by
 refine⟨fun e=>(by cases e),fun _=> ?_⟩
 rcases h.any with h|⟨t,ht,h⟩
 · exact .inl h
 · have hs:cU wd big xs (n4 big ds) (ds.take sz) t=cX big xs (ds.take sz) t:=by rw[hc];unfold cU;rw[if_neg (by decide),if_neg (by decide),if_neg (by decide),if_pos rfl]
   cases hd:cX big xs (ds.take sz) t with
   |none=>exact .inl (by rw[h];exact pT hsz (by rw[hs];exact hd))
   |some t'=>exact .inr ⟨t',by rw[pQ hd,ht],by rw[h];exact km h8 hsz hno (by rw[hs];exact hd)⟩
end
theorem fZ{a:Int}(h0:0≤a)(h1:a<4294967296):IntKind.u64.wrap (BitVec.ofInt IntKind.u64.bits a &&& ~~~ BitVec.ofInt IntKind.u64.bits 1).toNat=a / 2*2:=by
 have e: ∀x:BitVec 64,(x &&& ~~~ 1#64)=(x>>>1)<<<1:=fun x=>by
  apply BitVec.eq_of_getLsbD_eq
  intro i hi
  rw[BitVec.getLsbD_and,BitVec.getLsbD_not,BitVec.getLsbD_shiftLeft,BitVec.getLsbD_ushiftRight]
  cases i with
  |zero=>simp
  |succ i=>simp[hi,BitVec.getLsbD_one,Nat.add_comm]
 show IntKind.u64.wrap ((BitVec.ofInt 64 a &&& ~~~ 1#64).toNat:Int)=a / 2*2
 rw[e,BitVec.toNat_shiftLeft,BitVec.toNat_ushiftRight,fN (k:=64) h0 (by omega),Nat.shiftLeft_eq,Nat.shiftRight_eq_div_pow,aC (by omega) (by omega)]
 omega
theorem sC{P:Program}{ρ:dv}{w:World}{d:Option Tmp}{ty:TypeId}{pos:String}{af:Array Edge}{gd:Option (Nat × Bool)}{t e:Nat}{x lo:Operand}{g o len cap l:Nat}(ht:cJ P t e 1)(hx:ev ρ x= .sl g o len cap)(hl:pL ρ (some lo) 0 l)(h1:l≤len)(hc:len≤cap):
 Yv P ⟨d,.slice t x (some lo) none none,ty,pos,af,gd⟩ ρ w (.sl g (iL o cap l) (len- l) (cap- l)) w:=by
 have:=eo (P:=P) (w:=w) (d:=d) (ty:=ty) (pos:=pos) (af:=af) (gd:=gd) ht hx hl (bu _ _) h1 hc
 unfold dC at this
 unfold iL
 split at this
 · rename_i h;rw[if_pos h];exact this
 · rename_i h;rw[if_neg h];simpa[cH]using this
theorem RI.drop_oc{k:IntKind}{w:World}{g o n cap:Nat}{xs:List Int}(h:RI k w (some ⟨g,o,none⟩) n xs)(l:Nat)(hc:n≤cap):RI k w (some ⟨g,iL o cap l,none⟩) (n- l) (xs.drop l):=by
 unfold iL
 split
 · rename_i e;subst e;exact⟨by rw[List.length_drop,h.1],fun h0=>absurd h0 (by omega)⟩
 · exact h.drop_ l
def zO(w:World)(c:List Value)(I:MF)(N:Nat)(xs:List Int):Prop:= ∃(vh vl vp vs vi:Value) (lv:List LoadV) (pv:List PartV),c= [vh,.b I.big,vl,vp,vs,vi]∧SlI' .u64 w vh [I.h 0,I.h 1,I.h 2,I.h 3,I.h 4,I.h 5,I.h 6]∧
 SlV w vl 4 (lv.flatMap LoadV.cells)∧LRs lv I.loads∧(∀x ∈ lv,x.ok w)∧SlV w vp 6 (pv.flatMap PartV.cellsM)∧pv.map PartV.p=(I.secs.map fun s=>s.part N xs)∧(∀x ∈ pv,x.ok w)∧SlV w vs 5 (I.syms.flatMap Sym.cells)∧SlI' .u32 w vi I.ind
theorem vF{xs:List Int}{big:Bool}(h:kQ xs=some big):n4 big (xs.drop 0) / 2=2138504551:=by
 show n4 big xs / 2= _
 unfold kQ at h
 split at h
 · rename_i e;injection h with e2;subst e2;exact e
 · split at h
   · rename_i e;injection h with e2;subst e2;exact e
   · cases h
theorem sm{gb ob N C:Nat}{xs:List Int}(w:World)(hr:RI .u8 w (some ⟨gb,ob,none⟩) N xs)(hby:Byt xs)(hNC:N≤C)(hN:N<10485760)(hgb:gb<w.heap.size):
 Calls Tryd.prog 12 #[.sl gb ob N C] w fun e w'=>(∃(I:MF) (c:List Value) (D:Res),iM xs=some I∧e= .returned (.tuple #[.agg (List.toArray c),.i 0])∧St w aR [D] w'∧∀w,D.φ w → RI .u8 w (some ⟨gb,ob,none⟩) N xs → zO w c I N xs)∨(∃(a1:Option Addr) (n1 c1:Nat) (b:Bool) (a2:Option Addr) (n2 c2:Nat) (a3:Option Addr) (n3 c3:Nat) (a4:Option Addr) (n5 c4:Nat) (vi:Value),e= .returned (.tuple #[.agg #[.s a1 n1 c1,.b b,.s a2 n2 c2,.s a3 n3 c3,.s a4 n5 c4,vi],.i 2])∧(∃a b c,vi= .s a b c)∧Keep w aR w')∨(iM xs=none∧e= .returned (.tuple #[.agg (List.toArray [.ns,.b false,.ns,.ns,.ns,.ns]),.i 1])∧Keep w aR w'):=by
 refine aA (args:= [.sl gb ob N C]) Tryd.func12 Z Z Z ?_
 have H0:=St.nil w aR
 refine sr (wm Z (aN H0 fF (fun g1 w2 cw H3=>ai 0 Z (wn (ad (sr (ms gb ob N C Z (wv Z (aO bU Z) (wv Z (bR Z Z) (wn ?_))))))))))
 refine bK Z (fun O=> ?_) (fun O=> ?_)
 ·
  simp only[bx]at O
  refine sr (wv Z (yb (ps:= []) (cells:=#[.ns,.b false,.ns,.ns,.ns,.ns]) Z (by kernel_rfl)) (ws (eN H3 0 [.ns,.b false,.ns,.ns,.ns,.ns] Z jw (fun w6 H5=> ?_))))
  refine ai 1 Z (wn (rq ?_))
  exact⟨.inr Z,_,fy Z kV (by exact Z) (H5.g 0 Z) Z (by exact Z),.inr (.inr ⟨pY (by rw[hr.1];omega),Z,H5.keep⟩)⟩
 ·
  simp only[bx]at O
  refine wk (sr (wv Z (yb (ps:= []) (cells:=#[.ns,.b false,.ns,.ns,.ns,.ns]) Z (by kernel_rfl)) (wm Z (aN H3 fF (fun g7 w8 cx H9=>ws (eN H9 0 [.ns,.b false,.ns,.ns,.ns,.ns] Z jw (fun ap M=> ?_)))))))
  refine wn ?_
  refine eh (fun ρ w'=> ∃(big:Bool) (fb g2:Nat),28≤N∧kQ xs=some big∧ρ 0= .sl gb ob N C∧ρ 2= .pt g2∧ρ 4= .pt fb∧St w aR [an fb [.ns,.b big,.ns,.ns,.ns,.ns] 33,an g2 [.ns,.b false,.ns,.ns,.ns,.ns] 33] w') ?_ ?_
  ·
   refine ad ?_
   have m1:=ba true hby
   have m2:=ba false hby
   by_cases Y:n4 true xs / 2=2138504551
   ·
    refine ae (ms gb ob N C Z (wE [.b true,.i 4,.sl gb ob N C] mm Z Z (aa (by have h:=ez true (wd:=4) (ap) (hr.keep0 M.keep) (c:=C) hby (by omega) (by omega);rw[jA]at h;exact h) ?_)))
    rintro e cA ⟨rfl,aL⟩
    have bB:=M.cal0 aL
    refine⟨_,Z,wv Z (fi (k:= .u64) (c:=n4 true xs / 2*2) Z Z (fZ (ba true hby).1 (ba true hby).2)) (wv Z (aT Z Z (beq_iff_eq.2 (by omega))) (wn (aB Z (ae (wf dF Z (ws (es bB 0 1 (.b true) Z dc (fun cB bC=> ?_))))))))⟩
    refine wn ?_
    exact⟨true,_,_,by omega,by unfold kQ;rw[if_pos Y],Z,Z,Z,bC.re [0,1]⟩
   ·
    by_cases hm2:n4 false xs / 2=2138504551
    ·
     refine ae (ms gb ob N C Z (wE [.b true,.i 4,.sl gb ob N C] mm Z Z (aa (by have h:=ez true (wd:=4) (ap) (hr.keep0 M.keep) (c:=C) hby (by omega) (by omega);rw[jA]at h;exact h) ?_)))
     rintro e bD ⟨rfl,aM⟩
     have aV:=M.cal0 aM
     refine⟨_,Z,wv Z (fi (k:= .u64) (c:=n4 true xs / 2*2) Z Z (fZ (ba true hby).1 (ba true hby).2)) (wv Z (aT Z Z (beq_eq_false_iff_ne.2 (by omega))) (wn (al Z (sr (ms gb ob N C Z (wE [.b false,.i 4,.sl gb ob N C] mm Z Z (aa (by have h:=ez false (wd:=4) (bD) (hr.keep0 aV.keep) (c:=C) hby (by omega) (by omega);rw[jA]at h;exact h) ?_)))))))⟩
     rintro e cC ⟨rfl,aW⟩
     have bH:=aV.cal0 aW
     refine⟨_,Z,wv Z (fi (k:= .u64) (c:=n4 false xs / 2*2) Z Z (fZ (ba false hby).1 (ba false hby).2)) (wv Z (cg Z Z (bne_eq_false_iff_eq.2 (by omega))) (wn (al Z (wk ?_))))⟩
     exact⟨false,_,_,by omega,by unfold kQ;rw[if_neg Y,if_pos hm2],Z,Z,Z,bH.re [0,1]⟩
    ·
     refine ae (ms gb ob N C Z (wE [.b true,.i 4,.sl gb ob N C] mm Z Z (aa (by have h:=ez true (wd:=4) (ap) (hr.keep0 M.keep) (c:=C) hby (by omega) (by omega);rw[jA]at h;exact h) ?_)))
     rintro e bI ⟨rfl,bc⟩
     have bd:=M.cal0 bc
     refine⟨_,Z,wv Z (fi (k:= .u64) (c:=n4 true xs / 2*2) Z Z (fZ (ba true hby).1 (ba true hby).2)) (wv Z (aT Z Z (beq_eq_false_iff_ne.2 (by omega))) (wn (al Z (sr (ms gb ob N C Z (wE [.b false,.i 4,.sl gb ob N C] mm Z Z (aa (by have h:=ez false (wd:=4) (bI) (hr.keep0 bd.keep) (c:=C) hby (by omega) (by omega);rw[jA]at h;exact h) ?_)))))))⟩
     rintro e cD ⟨rfl,bf⟩
     have bJ:=bd.cal0 bf
     refine⟨_,Z,wv Z (fi (k:= .u64) (c:=n4 false xs / 2*2) Z Z (fZ (ba false hby).1 (ba false hby).2)) (wv Z (cg Z Z (bne_iff_ne.2 (by omega))) (wn (aB Z (sr (wv Z (yb (ps:= []) (cells:=#[.ns,.b false,.ns,.ns,.ns,.ns]) Z (by kernel_rfl)) (ws (eN bJ 1 [.ns,.b false,.ns,.ns,.ns,.ns] Z jw (fun cE bg=> ?_))))))))⟩
     refine ai 1 Z (wn (rq ?_))
     exact⟨.inr Z,_,fy Z kV (by exact Z) (bg.g 1 Z) Z (by exact Z),.inr (.inr ⟨t9 (by unfold kQ;rw[if_neg Y,if_neg hm2]),Z,bg.keep⟩)⟩
  ·
   rintro cF w2 ⟨big,fb,g2,cy,hmag,g0,H,g4,H2⟩
   refine ad ?_
   obtain⟨h,hh⟩: ∃h:Nat → Int,h=fun k=>n4 big (xs.drop (4*k)):=⟨_,rfl⟩
   have hhb: ∀k,0≤h k∧h k<4294967296:=fun k=>by rw[hh];exact ba big (hby.drop _)
   obtain⟨q4,bi⟩: ∃q:Nat,(q:Int)=h 4:=⟨(h 4).toNat,Int.toNat_of_nonneg (hhb 4).1⟩
   have cz:=(hhb 4).2
   have r:(n4 big (xs.drop 16)).toNat=q4:=by have e:n4 big (xs.drop 16)=h 4:=by {rw[hh]};omega
   obtain⟨q5,bj⟩: ∃q:Nat,(q:Int)=h 5:=⟨(h 5).toNat,Int.toNat_of_nonneg (hhb 5).1⟩
   have c0:=(hhb 5).2
   have p:(n4 big (xs.drop 20)).toNat=q5:=by have e:n4 big (xs.drop 20)=h 5:=by {rw[hh]};omega
   have y:n4 big (xs.drop 0)=h 0:=by rw[hh]
   have c5:=hhb 0
   have hmg:h 0 / 2=2138504551:=by rw[←y];exact vF hmag
   have hNL:bF big (List.replicate 7 4) xs= [h 0,h 1,h 2,h 3,↑q4,↑q5,h 6]:=by rw[tC,bi,bj,hh];rfl
   have bl:=H2.drew
   refine aU MX (fun w'=>w'.cell? ⟨fb,1,none⟩=some (.b big)) (Pl.take 0 (Pl.take 1 (Pl.take 3 (Pl.run 2 (Pl.run 4 (tr 5 4 (Pl.run 9 Pl.done))))))) (by kernel_rfl) (bl.c 0 1 Z Z) (qy Z (ab (o:=0) dF g4) (qh Z (fun hS=>ag dc Z hS) (qm (.sl gb ob N C) Z g0 (qr Z (ec CK27 (args:= []) Z (aa (pu _) ?_))))))
   rintro e cG ⟨AW,nW,cW,DW,rfl,hcW,bm,hDW⟩
   have af:=bl.cal0 bm
   refine⟨_,Z,⟨af.c 1 1 Z Z,fun _=>trivial,qr Z (ec jt (args:= [.b big,.s AW nW cW,.sl gb ob N C]) Z (aa (dW (ws:=List.replicate 7 4) (bs:=xs) (K:=7) big _ (hDW _ (af.g 0 Z)) (fY _) (hr.keep0 af.keep) hNC (by omega) hby (by decide) (by rw[fX];omega) (by rw[hNL];rfl) (by omega)) ?_))⟩⟩
   rintro e cI ⟨gh,oh,ch,Dn,rfl,hch,bo,hDn⟩
   rw[hNL]at hDn
   have bp:=af.cal0 bo
   refine⟨_,Z,⟨bp.c 2 1 Z Z,fun _=>trivial,qm (.tuple #[.sl gh oh 7 ch,.b true]) Z Z (qy Z (aE (v:= .sl gh oh 7 ch) Z Z) (qy Z (aE (v:= .b true) Z Z) (qy Z (ab (o:=0) iE g4) (dJ Z (es bp 2 0 (.sl gh oh 7 ch) Z eD (fun cJ J=> ?_))))))⟩⟩
   refine⟨J.c 2 1 Z Z,fun _=>trivial,pn ?_⟩
   refine eh (fun ρ w'=> ∃(wd:Bool),wd=fM (h 0)∧ρ 0= .sl gb ob N C∧ρ 2= .pt g2∧ρ 4= .pt fb∧ρ 5= .b wd∧St w aR [an fb [.sl gh oh 7 ch,.b big,.ns,.ns,.ns,.ns] 33,an g2 [.ns,.b false,.ns,.ns,.ns,.ns] 33,Dn] w') ?_ ?_
   ·
    by_cases hw:h 0=4277009103
    ·
     refine ae (wv Z (ab iE g4) (wv Z (J.ld 2 Z eD Z (.sl gh oh 7 ch) Z) (wv Z (aK bL Z Z (by omega) (by omega)) (wv Z (ag aP Z (show World.cell? _ _=some (.q (h 0))from(hDn _ (J.g 0 Z)).cellAt 0 (by omega))) (wv Z (dG (k:= .u64) (c:=h 0%2) Z Z (c7 1 Z (hhb 0).1 (by have:=(hhb 0).2;simp only[IntKind.bits];omega) (by decide) (by decide) (by decide))) (wv Z (aT Z Z (beq_iff_eq.2 (by omega))) (av (.b true) Z (wn ?_))))))))
     exact⟨true,(decide_eq_true hw).symm,g0,H,g4,Z,J.re [2,3,0]⟩
    ·
     refine ae (wv Z (ab iE g4) (wv Z (J.ld 2 Z eD Z (.sl gh oh 7 ch) Z) (wv Z (aK bL Z Z (by omega) (by omega)) (wv Z (ag aP Z (show World.cell? _ _=some (.q (h 0))from(hDn _ (J.g 0 Z)).cellAt 0 (by omega))) (wv Z (dG (k:= .u64) (c:=h 0%2) Z Z (c7 1 Z (hhb 0).1 (by have:=(hhb 0).2;simp only[IntKind.bits];omega) (by decide) (by decide) (by decide))) (wv Z (aT Z Z (beq_eq_false_iff_ne.2 (by omega))) (av (.b false) Z (wn ?_))))))))
     exact⟨false,(decide_eq_false hw).symm,g0,H,g4,Z,J.re [2,3,0]⟩
   ·
    rintro bM w3 ⟨wd,hwd,g0,H,g4,g5,H3⟩
    refine sr (au 28 Z (wn ?_))
    refine eh (fun ρ w'=> ∃(of:Nat),(of=if wd then 32 else 28)∧ρ 0= .sl gb ob N C∧ρ 2= .pt g2∧ρ 4= .pt fb∧ρ 5= .b wd∧ρ 6= .q ↑of∧St w aR [an fb [.sl gh oh 7 ch,.b big,.ns,.ns,.ns,.ns] 33,an g2 [.ns,.b false,.ns,.ns,.ns,.ns] 33,Dn] w') ?_ ?_
    ·
     refine sr (mg g5 Z (wn ?_))
     refine bK Z (fun P=> ?_) (fun P=> ?_)
     ·
      refine ae (au 32 Z (wn ?_))
      exact⟨32,by rw[P];rfl,g0,H,g4,g5,Z,H3.re [0,1,2]⟩
     ·
      refine wk ?_
      exact⟨28,by rw[P];rfl,g0,H,g4,g5,Z,H3.re [0,1,2]⟩
    ·
     rintro bM w3 ⟨of,hofw,g0,H,g4,g5,g6,H3⟩
     have c6:of≤32:=by rw[hofw];split<;>omega
     have hof:of=if fM (n4 big (xs.drop 0))then 32 else 28:=by rw[y,←hwd];exact hofw
     refine ad (ad ?_)
     by_cases Q:q5=0∨of+q5≤N
     ·
      refine ae (mg g0 Z (mg g6 Z (wv Z (ab iE g4) (wv Z (H3.ld 0 Z eD Z (.sl gh oh 7 ch) Z) (wv Z (aK bL Z Z (by omega) (by omega)) (wv Z (ag aP Z (show World.cell? _ _=some (.q (↑q5))from(hDn _ (H3.g 2 Z)).cellAt 5 (by omega))) (wE [.sl gb ob N C,.q (↑of),.q (↑q5)] iN Z Z (aa (dU _ (by omega) (by omega) Q) ?_))))))))
      rintro e bN ⟨rfl,br⟩
      have R:=H3.cal0 br
      refine⟨_,Z,wv Z (bS Z) (wn (al Z (wk (ad ?_))))⟩
      obtain⟨u,S⟩: ∃q,q=(xs.drop of).take q5:=⟨_,rfl⟩
      have E:jk xs of q5=some u:=by rw[S];exact da (by rw[hr.1];exact Q)
      obtain⟨m0,cK⟩: ∃m,m=min of N:=⟨_,rfl⟩
      obtain⟨m1,Y⟩: ∃m,m=min (of+q5) N:=⟨_,rfl⟩
      obtain⟨od,hod⟩: ∃ot,dC (some ⟨gb,ob,none⟩) C m0 1=some ⟨gb,ot,none⟩:=by unfold dC;split;exact⟨_,rfl⟩;exact⟨ob+m0,by simp[cH]⟩
      obtain⟨m,hm⟩: ∃m,m=m1- m0:=⟨_,rfl⟩
      obtain⟨cd,hcd⟩: ∃m,m=C- m0:=⟨_,rfl⟩
      have hdat: ∀w,RI .u8 w (some ⟨gb,ob,none⟩) N xs → RI .u8 w (some ⟨gb,od,none⟩) m u:=fun w hr=>by
       have h:=hr.cut (c:=C) (l:=m0) (m:=m1) (by omega) (by omega) hNC;rw[hod,←hm]at h;rw[S]
       rcases Q with e0|e0
       · have:m=0:=by omega
         rw[this,List.take_zero]at h;rw[e0,List.take_zero,this];exact h
       · have e1:m0=of:=by omega
         have e2:m=q5:=by omega
         rw[e1,e2]at h;rw[e2];exact h
      refine ae (mg g0 Z (mg g6 Z (mg g0 Z (wv Z (aO bU Z) (wv Z (ao ej be Z (aC (by omega) (by omega))) (wv Z (i7 (c:= ↑m0) Z Z (by split<;>omega)) (mg g6 Z (wv Z (ab iE g4) (wv Z (R.ld 0 Z eD Z (.sl gh oh 7 ch) Z) (wv Z (aK bL Z Z (by omega) (by omega)) (wv Z (ag aP Z (show World.cell? _ _=some (.q (↑q5))from(hDn _ (R.g 2 Z)).cellAt 5 (by omega))) ?_)))))))))))
      refine wv Z (aH (k:= .u64) (c:= ↑(of+q5)) Z Z (by rw[aC (by omega) (by omega)];omega)) (mg g0 Z (wv Z (aO bU Z) (wv Z (ao ej be Z (aC (by omega) (by omega))) (wv Z (i7 (c:= ↑m1) Z Z (by split<;>omega)) (wv Z ((show Yv _ _ _ _ (Value.slice (some ⟨gb,od,none⟩) m cd) _ from by rw[←hod,hm,hcd];exact eo (l:=m0) (h:=m1) aZ Z (bh Z (by omega) (Int.toNat_natCast _)) (bh Z (by omega) (Int.toNat_natCast _)) (by omega) (by omega))) (eL gb od m cd Z (wn (sr (ai 0 Z (av (.b false) Z (wn ?_)))))))))))
      refine ad (sr (wv Z (ab iE g4) (wv Z (R.ld 0 Z eD Z (.sl gh oh 7 ch) Z) (wv Z (aK bL Z Z (by omega) (by omega)) (wv Z (ag aP Z (show World.cell? _ _=some (.q (↑q4))from(hDn _ (R.g 2 Z)).cellAt 4 (by omega))) (mu 0 Z (wn (a6 ?_))))))))
      have bO:St w aR [an fb [.sl gh oh 7 ch,.b big,.ns,.ns,.ns,.ns] 33,ay 74 4 (.ns) 0 (([]:List LoadV).flatMap LoadV.cells),ay 72 6 (.ns) 0 (([]:List PartV).flatMap PartV.cellsM),an g2 [.ns,.b false,.ns,.ns,.ns,.ns] 33,Dn] bN:=(((R.re [0,1,2]).addRow 72 6).addRow 74 4).re [2,0,1,3,4]
      have bP:u.length=m:=(hdat w hr).1
      have bQ:NRD Dn.φ gb ob N xs gh oh [h 0,h 1,h 2,h 3,h 4,h 5,h 6] [] [] none 0 (.ns) ⟨[],[],none,none⟩:=⟨fun w hw=>by have h:=hDn w hw;rw[bi,bj]at h;exact h,by simp,⟨rfl,by simp⟩,by simp,rfl,fun w _=>RV.nil _ _ _,rfl,fun w _=>⟨_,_,_,rfl,RI.nil _ _ _⟩⟩
      refine bA (fun ρ w'=> ∃(k:Nat),∃od:Nat,∃m:Nat,∃cd:Nat,∃ds:List Int,∃s:PSt,∃op:Bool,∃stv:Int,∃AL:Option Addr,∃nL:Nat,∃cL:Nat,∃AP:Option Addr,∃nP:Nat,∃cP:Nat,∃As:Option Addr,∃ns:Nat,∃cs:Nat,∃vi:Value,∃lv:List LoadV,∃pv:List PartV,∃D:Res,ρ 0= .sl gb ob N C∧ρ 2= .pt g2∧ρ 4= .pt fb∧ρ 5= .b wd∧ρ 7= .sl gb od m cd∧ρ 8= .i stv∧ρ 9= .b s.syms.isSome∧ρ 75= .q (↑q4)∧ρ 76= .q (↑k)∧k≤q4∧Byt ds∧ds.length=m∧m≤cd∧m≤N∧(∀w,RI .u8 w (some ⟨gb,ob,none⟩) N xs → RI .u8 w (some ⟨gb,od,none⟩) m ds)∧(stv=if op then 2 else 0)∧nL+m≤10485760∧nP+m≤10485760∧ns≤10485760∧(∃a b c,vi= .s a b c)∧Fin' wd big xs (gf wd big xs q4 u ⟨[],[],none,none⟩) (q4- k) ds s op∧NRD D.φ gb ob N xs gh oh [h 0,h 1,h 2,h 3,h 4,h 5,h 6] lv pv As ns vi s∧St w aR [an fb [.sl gh oh 7 ch,.b big,.s AL nL cL,.s AP nP cP,.s As ns cs,vi] 33,ay 74 4 (.s AL nL cL) nL (lv.flatMap LoadV.cells),ay 72 6 (.s AP nP cP) nP (pv.flatMap PartV.cellsM),an g2 [.ns,.b false,.ns,.ns,.ns,.ns] 33,D] w') (fun ρ _=>q4+1- nv (ρ 76)) (⟨0,od,m,cd,u,⟨[],[],none,none⟩,false,0,none,0,0,none,0,0,none,0,0,_,[],[],Dn,g0,H,g4,g5,Z,Z,Z,Z,Z,by omega,by rw[S];exact(hby.drop _).take _,bP,by omega,by omega,hdat,Z,by omega,by omega,by omega,⟨_,_,_,Z⟩,⟨fun _=>Z,fun e=>by cases e⟩,bQ,bO⟩) ?_
      rintro bT w4 ⟨k,od,m,cd,ds,s,op,stv,AL,nL,cL,AP,nP,cP,As,ns,cs,vi,lv,pv,D,e0,e2,e4,e5,e7,e8,e9,G,F,hk,hdb,hdl,hmc,hmN,hdat,hstv,hnL,hnP,hns,⟨_,_,_,hvi⟩,hF,hD,H4⟩
      refine sr (wv Z (bR F G) (wn (ad ?_)))
      refine bK Z (fun T=> ?_) (fun T=> ?_)
      ·
       simp only[bx]at T
       refine wk (ad (a6 (ad (ad ?_))))
       have hF:Fin' wd big xs (gf wd big xs q4 u ⟨[],[],none,none⟩) ((q4-(k+1))+1) ds s op:=by rw[show(q4-(k+1))+1=q4- k by omega];exact hF
       refine ae (mg e7 Z (wv Z (aO bU Z) (wv Z (bR Z Z) (wn ?_))))
       refine bK Z (fun U=> ?_) (fun U=> ?_)
       ·
        simp only[bx]at U
        refine sr (wv Z (yb (ps:= []) (cells:=#[.ns,.b false,.ns,.ns,.ns,.ns]) Z (by kernel_rfl)) (ws (bE H4 3 (vs:= [.ns,.b false,.ns,.ns,.ns,.ns]) (m:=6) Z jw e2 Z Z (nl Z) (by simp[Value.oneCell']) (cs':= [.ns,.b false,.ns,.ns,.ns,.ns]) Z (fun cM bt=> ?_))))
        refine ai 1 Z (wn (rq (aI (a7 (a7 (aI (a7 ?_)))))))
        exact⟨.inr Z,_,fy Z kV (by exact e2) (bt.g 3 Z) Z (by exact Z),.inr (.inr ⟨fc hmag hof p E r (by rw[y,←hwd];exact hF.n1 (by omega)),Z,bt.keep⟩)⟩
       ·
        simp only[bx]at U
        refine wk (ad ?_)
        obtain⟨cmd,hcmd⟩: ∃c,c=n4 big ds:=⟨_,rfl⟩
        have O:=ba big (hdb.drop 4)
        have cN:=ba big hdb
        obtain⟨sz,hsz⟩: ∃q:Nat,(q:Int)=n4 big (ds.drop 4):=⟨(n4 big (ds.drop 4)).toNat,Int.toNat_of_nonneg O.1⟩
        have hszn:(n4 big (ds.drop 4)).toNat=sz:=by omega
        have ax:=H4.drew
        refine aU MX (fun w'=>w'.cell? ⟨fb,1,none⟩=some (.b big)) (tr 0 3 (tr 4 4 (Pl.run 3 (Pl.run 8 (Pl.take 9 (Pl.take 10 Pl.done)))))) (by kernel_rfl) (ax.c 0 1 Z Z) (qy Z (ab (o:=0) dF e4) (qh Z (fun hS=>ag dc Z hS) (qm (.sl gb od m cd) Z e7 (qy Z (ab (o:=0) dF e4) (qh Z (fun hS=>ag dc Z hS) (qm (.sl gb od m cd) Z e7 (qt Z (fun _ hS=>(aq (l:=4) (h:=m) aZ Z (bs Z (by omega) Z) bn (by omega) (by omega) (by omega) (by omega):Yv _ _ _ _ (.sl gb (od+4) (m- 4) (cd- 4)) _)) (qr Z (ec mm (args:= [.b big,.i 4,.sl gb od m cd]) Z (aa (by have h:=ez big (wd:=4) (w4.drew) (hdat _ (hr.keep0 ax.keep)) (c:=cd) hdb (by omega) (by omega);rw[jA,←hcmd]at h;exact h) ?_))))))))))
        rintro e bV ⟨rfl,bu⟩
        have az:=ax.cal0 bu
        refine⟨_,Z,⟨az.c 0 1 Z Z,fun _=>trivial,qr Z (ec mm (args:= [.b big,.i 4,.sl gb (od+4) (m- 4) (cd- 4)]) Z (aa (by have h:=ez big (wd:=4) (bV) ((hdat _ (hr.keep0 az.keep)).drop_ 4) (c:=cd- 4) (hdb.drop 4) (by omega) (by omega);rw[jA,←hsz]at h;exact h) ?_))⟩⟩
        rintro e L ⟨rfl,bv⟩
        have d:=az.cal0 bv
        refine⟨_,Z,⟨d.c 0 1 Z Z,fun _=>trivial,qa (.q cmd) Z Z (qa (.q (↑sz)) Z Z (pn (ad (sr (mu (↑sz) Z (wv Z (bR Z Z) (mv (.b (decide ((↑sz:Int)<8))) Z ?_)))))))⟩⟩
        generalize ah:(decide ((↑sz:Int)<8))=bb
        cases bb
        ·
         simp only[bx]at ah
         refine aX Z Z (am (v:= .q (↑sz)) Z) (aX Z Z (am (v:= .sl gb od m cd) e7) (aX Z Z (aO bU Z) (aX Z Z (ao ej be Z (aC (by omega) (by omega))) (aX Z Z (eM Z Z) (wv Z (aD (b:=false) (v:= .b (decide ((↑m:Int)< ↑sz))) Z Z) (wn ?_))))))
         refine bK Z (fun V=> ?_) (fun V=> ?_)
         ·
          simp only[bx]at V
          refine sr (wv Z (yb (ps:= []) (cells:=#[.ns,.b false,.ns,.ns,.ns,.ns]) Z (by kernel_rfl)) (ws (bE d 3 (vs:= [.ns,.b false,.ns,.ns,.ns,.ns]) (m:=6) Z jw e2 Z Z (nl Z) (by simp[Value.oneCell']) (cs':= [.ns,.b false,.ns,.ns,.ns,.ns]) Z (fun cO bw=> ?_))))
          refine ai 1 Z (wn (rq (aI (a7 (a7 (aI (a7 ?_)))))))
          exact⟨.inr Z,_,fy Z kV (by exact e2) (bw.g 3 Z) Z (by exact Z),.inr (.inr ⟨fc hmag hof p E r (by rw[y,←hwd];exact hF.n2 hszn (by omega)),Z,bw.keep⟩)⟩
         ·
          simp only[bx]at V
          refine wk (sr (mg e7 Z (mu (↑sz) Z (wv Z ((aq (l:=0) (h:=sz) aZ Z bn (bs Z (by omega) (Int.toNat_natCast _)) (by omega) (by omega) (by omega) (by omega):Yv _ _ _ _ (.sl gb od sz cd) _)) (eL gb od sz cd Z (wn (sr (mg e7 Z (mu (↑sz) Z (wv Z (sC aZ Z (bh (i:= ↑sz) Z (by omega) (Int.toNat_natCast _)) (by omega) hmc) (eL gb (iL od cd sz) (m- sz) (cd- sz) Z ?_)))))))))))
          refine wn (sr (av (.b true) Z (wn ?_)))
          have f: ∀w,RI .u8 w (some ⟨gb,ob,none⟩) N xs → RI .u8 w (some ⟨gb,(iL od cd sz),none⟩) (m- sz) (ds.drop sz):=fun w hb=>(hdat w hb).drop_oc sz hmc
          have hraw: ∀w,RI .u8 w (some ⟨gb,ob,none⟩) N xs → RI .u8 w (some ⟨gb,od,none⟩) sz (ds.take sz):=fun w hb=>(hdat w hb).take (by omega)
          have hno: ¬(sz<8∨ds.length<sz):=by omega
          refine eh (fun ρ w'=>(∃od:Nat,∃m:Nat,∃cd:Nat,∃ds:List Int,∃s:PSt,∃op:Bool,∃stv:Int,∃AL:Option Addr,∃nL:Nat,∃cL:Nat,∃AP:Option Addr,∃nP:Nat,∃cP:Nat,∃As:Option Addr,∃ns:Nat,∃cs:Nat,∃vi:Value,∃lv:List LoadV,∃pv:List PartV,∃D:Res,ρ 0= .sl gb ob N C∧ρ 2= .pt g2∧ρ 4= .pt fb∧ρ 5= .b wd∧ρ 7= .sl gb od m cd∧ρ 8= .i stv∧ρ 9= .b s.syms.isSome∧ρ 75= .q (↑q4)∧ρ 76= .q (↑k)∧ρ 13= .b true∧Byt ds∧ds.length=m∧m≤cd∧m≤N∧(∀w,RI .u8 w (some ⟨gb,ob,none⟩) N xs → RI .u8 w (some ⟨gb,od,none⟩) m ds)∧(stv=if op then 2 else 0)∧nL+m≤10485760∧nP+m≤10485760∧ns≤10485760∧(∃a b c,vi= .s a b c)∧Fin' wd big xs (gf wd big xs q4 u ⟨[],[],none,none⟩) (q4-(k+1)) ds s op∧NRD D.φ gb ob N xs gh oh [h 0,h 1,h 2,h 3,h 4,h 5,h 6] lv pv As ns vi s∧St w aR [an fb [.sl gh oh 7 ch,.b big,.s AL nL cL,.s AP nP cP,.s As ns cs,vi] 33,ay 74 4 (.s AL nL cL) nL (lv.flatMap LoadV.cells),ay 72 6 (.s AP nP cP) nP (pv.flatMap PartV.cellsM),an g2 [.ns,.b false,.ns,.ns,.ns,.ns] 33,D] w')∨(iM xs=none∧ρ 13= .b false∧ρ 2= .pt g2∧St w aR [an g2 [.ns,.b false,.ns,.ns,.ns,.ns] 33] w')) ?_ ?_
          ·
           refine sr (mu cmd Z (wn (a6 (ad ?_))))
           by_cases hc1:cmd=1
           ·
            have hci:n4 big ds=1:=by omega
            refine ae (wv Z (aT Z Z (beq_iff_eq.2 (by omega))) (av (.b true) Z (wn (aB Z (ae (mg e0 Z (ms gb od sz cd Z (wm Z (ec CK29 (args:= [.pt fb,.sl gb ob N C,.b false,.sl gb od sz cd]) (cc e4 (cc Z (cc Z (cc Z (Z))))) ?_)))))))))
            have Hp:St w aR ([an fb [.sl gh oh 7 ch,.b big,.s AL nL cL,.s AP nP cP,.s As ns cs,vi] 33,ay 74 4 (.s AL nL cL) nL (lv.flatMap LoadV.cells),ay 72 6 (.s AP nP cP) nP (pv.flatMap PartV.cellsM)]++ [an g2 [.ns,.b false,.ns,.ns,.ns,.ns] 33,D]) L:=d.re [0,1,2,3,4]
            have hbc:=hr.keep0 d.keep
            refine aa (vw (base:=w.heap.size) (raw:=(ds.take sz)) (gr:=gb) (or_:=od) big _ (Hp.loc (L1:= [an fb [.sl gh oh 7 ch,.b big,.s AL nL cL,.s AP nP cP,.s As ns cs,vi] 33,ay 74 4 (.s AL nL cL) nL (lv.flatMap LoadV.cells),ay 72 6 (.s AP nP cP) nP (pv.flatMap PartV.cellsM)]) (L2:= [an g2 [.ns,.b false,.ns,.ns,.ns,.ns] 33,D])) (Hp.re (L':= [an fb [.sl gh oh 7 ch,.b big,.s AL nL cL,.s AP nP cP,.s As ns cs,vi] 33,ay 74 4 (.s AL nL cL) nL (lv.flatMap LoadV.cells),ay 72 6 (.s AP nP cP) nP (pv.flatMap PartV.cellsM)]) [0,1,2]).fresh Hp.keep.size (hraw _ hbc) (hdb.take _) (by omega) (by omega) hgb hbc hby hNC hN hgb (by omega) (by omega)) ?_
            rintro e cQ (⟨ld,x,dn,pj,z,a0,B,a5,a8,D2,hst,hxl,hlw,hxr,hpj,bz,rfl,HSc,j⟩|⟨hst,rfl,HSc⟩)
            ·
             have bW:=d6 (L1:= [an fb [.sl gh oh 7 ch,.b big,.s AL nL cL,.s AP nP cP,.s As ns cs,vi] 33,ay 74 4 (.s AL nL cL) nL (lv.flatMap LoadV.cells),ay 72 6 (.s AP nP cP) nP (pv.flatMap PartV.cellsM)]) (L2:= [an g2 [.ns,.b false,.ns,.ns,.ns,.ns] 33,D]) Hp HSc
             refine⟨_,Z,av (.b true) Z (bk (ak (ac ?_)))⟩
             have hstg: ∀t:PSt,t.syms=s.syms → cU wd big xs (n4 big ds) (ds.take sz) t=some {t with loads:=t.loads++ [ld],secs:=t.secs++dn}:=fun t ht=>by rw[hci];unfold cU;rw[if_neg (by decide),if_neg (by decide),if_neg (by decide),if_neg (by decide),if_pos rfl];exact hst t
             exact .inl ⟨iL od cd sz,m- sz,cd- sz,ds.drop sz,{s with loads:=s.loads++ [ld],secs:=s.secs++dn},op,stv,z,(nL+1),B,a0,a5,a8,As,ns,cs,vi,lv++ [x],pv++pj,Res.all [D2,D],e0,e2,e4,e5,Z,e8,e9,G,F,Z,hdb.drop _,by rw[List.length_drop];omega,by omega,by omega,f,hstv,by omega,by omega,hns,⟨_,_,_,hvi⟩,hF.good (by omega) hszn hno (hstg s Z) (fun t ht=>⟨_,hstg t ht,ht⟩),hD.seg (fun w hh=>aS.1 hh D (by simp)) (fun w hh hb=>⟨⟨_,_,_,hxr,by rw[hxl,hlw];exact hraw w hb⟩,by have h:=(j w (aS.1 hh D2 (by simp))).1;obtain⟨A,n,c,e1,e2⟩:=h;exact⟨A,n,c,e1,by rw[hxl];exact e2⟩⟩) (by rw[hxl];exact⟨Z,Z,Z,.inr Z⟩) (fun w hh=>(j w (aS.1 hh D2 (by simp))).2) hpj,(bW.reAll [0,5] [1,2,3,4]).re [1,2,3,4,0]⟩
            ·
             have bX:=d6 (L1:= [an fb [.sl gh oh 7 ch,.b big,.s AL nL cL,.s AP nP cP,.s As ns cs,vi] 33,ay 74 4 (.s AL nL cL) nL (lv.flatMap LoadV.cells),ay 72 6 (.s AP nP cP) nP (pv.flatMap PartV.cellsM)]) (L2:= [an g2 [.ns,.b false,.ns,.ns,.ns,.ns] 33,D]) Hp HSc
             refine⟨_,Z,av (.b false) Z (bk (ak (ac ?_)))⟩
             have hbad:gf wd big xs q4 u ⟨[],[],none,none⟩=none:=hF.bad hszn (fun t ht=>by rw[hci];unfold cU;rw[if_neg (by decide),if_neg (by decide),if_neg (by decide),if_neg (by decide),if_pos rfl];exact hst t)
             exact .inr ⟨fc hmag hof p E r (by rw[y,←hwd];exact hbad),Z,e2,bX.re [0]⟩
           ·
            by_cases hc25:cmd=25
            ·
             have hci:n4 big ds=25:=by omega
             refine ae (wv Z (aT Z Z (beq_eq_false_iff_ne.2 (by omega))) (av (.b false) Z (wn (al Z (sr (wv Z (aT Z Z (beq_iff_eq.2 (by omega))) (av (.b true) Z (wn (aB Z (ae (mg e0 Z ?_)))))))))))
             refine ms gb od sz cd Z (wm Z (ec CK29 (args:= [.pt fb,.sl gb ob N C,.b true,.sl gb od sz cd]) (cc e4 (cc Z (cc Z (cc Z (Z))))) ?_))
             have Hp:St w aR ([an fb [.sl gh oh 7 ch,.b big,.s AL nL cL,.s AP nP cP,.s As ns cs,vi] 33,ay 74 4 (.s AL nL cL) nL (lv.flatMap LoadV.cells),ay 72 6 (.s AP nP cP) nP (pv.flatMap PartV.cellsM)]++ [an g2 [.ns,.b false,.ns,.ns,.ns,.ns] 33,D]) L:=d.re [0,1,2,3,4]
             have hbc:=hr.keep0 d.keep
             refine aa (vv (base:=w.heap.size) (raw:=(ds.take sz)) (gr:=gb) (or_:=od) big _ (Hp.loc (L1:= [an fb [.sl gh oh 7 ch,.b big,.s AL nL cL,.s AP nP cP,.s As ns cs,vi] 33,ay 74 4 (.s AL nL cL) nL (lv.flatMap LoadV.cells),ay 72 6 (.s AP nP cP) nP (pv.flatMap PartV.cellsM)]) (L2:= [an g2 [.ns,.b false,.ns,.ns,.ns,.ns] 33,D])) (Hp.re (L':= [an fb [.sl gh oh 7 ch,.b big,.s AL nL cL,.s AP nP cP,.s As ns cs,vi] 33,ay 74 4 (.s AL nL cL) nL (lv.flatMap LoadV.cells),ay 72 6 (.s AP nP cP) nP (pv.flatMap PartV.cellsM)]) [0,1,2]).fresh Hp.keep.size (hraw _ hbc) (hdb.take _) (by omega) (by omega) hgb hbc hby hNC hN hgb (by omega) (by omega)) ?_
             rintro e cR (⟨ld,x,dn,pj,z,a0,B,a5,a8,D2,hst,hxl,hlw,hxr,hpj,bz,rfl,HSc,j⟩|⟨hst,rfl,HSc⟩)
             ·
              have bY:=d6 (L1:= [an fb [.sl gh oh 7 ch,.b big,.s AL nL cL,.s AP nP cP,.s As ns cs,vi] 33,ay 74 4 (.s AL nL cL) nL (lv.flatMap LoadV.cells),ay 72 6 (.s AP nP cP) nP (pv.flatMap PartV.cellsM)]) (L2:= [an g2 [.ns,.b false,.ns,.ns,.ns,.ns] 33,D]) Hp HSc
              refine⟨_,Z,av (.b true) Z (bk (ak (ac ?_)))⟩
              have hstg: ∀t:PSt,t.syms=s.syms → cU wd big xs (n4 big ds) (ds.take sz) t=some {t with loads:=t.loads++ [ld],secs:=t.secs++dn}:=fun t ht=>by rw[hci];unfold cU;rw[if_neg (by decide),if_neg (by decide),if_neg (by decide),if_neg (by decide),if_neg (by decide),if_pos rfl];exact hst t
              exact .inl ⟨iL od cd sz,m- sz,cd- sz,ds.drop sz,{s with loads:=s.loads++ [ld],secs:=s.secs++dn},op,stv,z,(nL+1),B,a0,a5,a8,As,ns,cs,vi,lv++ [x],pv++pj,Res.all [D2,D],e0,e2,e4,e5,Z,e8,e9,G,F,Z,hdb.drop _,by rw[List.length_drop];omega,by omega,by omega,f,hstv,by omega,by omega,hns,⟨_,_,_,hvi⟩,hF.good (by omega) hszn hno (hstg s Z) (fun t ht=>⟨_,hstg t ht,ht⟩),hD.seg (fun w hh=>aS.1 hh D (by simp)) (fun w hh hb=>⟨⟨_,_,_,hxr,by rw[hxl,hlw];exact hraw w hb⟩,by have h:=(j w (aS.1 hh D2 (by simp))).1;obtain⟨A,n,c,e1,e2⟩:=h;exact⟨A,n,c,e1,by rw[hxl];exact e2⟩⟩) (by rw[hxl];exact⟨Z,Z,Z,.inr Z⟩) (fun w hh=>(j w (aS.1 hh D2 (by simp))).2) hpj,(bY.reAll [0,5] [1,2,3,4]).re [1,2,3,4,0]⟩
             ·
              have bZ:=d6 (L1:= [an fb [.sl gh oh 7 ch,.b big,.s AL nL cL,.s AP nP cP,.s As ns cs,vi] 33,ay 74 4 (.s AL nL cL) nL (lv.flatMap LoadV.cells),ay 72 6 (.s AP nP cP) nP (pv.flatMap PartV.cellsM)]) (L2:= [an g2 [.ns,.b false,.ns,.ns,.ns,.ns] 33,D]) Hp HSc
              refine⟨_,Z,av (.b false) Z (bk (ak (ac ?_)))⟩
              have hbad:gf wd big xs q4 u ⟨[],[],none,none⟩=none:=hF.bad hszn (fun t ht=>by rw[hci];unfold cU;rw[if_neg (by decide),if_neg (by decide),if_neg (by decide),if_neg (by decide),if_neg (by decide),if_pos rfl];exact hst t)
              exact .inr ⟨fc hmag hof p E r (by rw[y,←hwd];exact hbad),Z,e2,bZ.re [0]⟩
            ·
             by_cases hc2:cmd=2
             ·
              have hci:n4 big ds=2:=by omega
              refine ae (wv Z (aT Z Z (beq_eq_false_iff_ne.2 (by omega))) (av (.b false) Z (wn (al Z (sr (wv Z (aT Z Z (beq_eq_false_iff_ne.2 (by omega))) (av (.b false) Z (wn (al Z (sr (wv Z (aT Z Z (beq_iff_eq.2 (by omega))) ?_)))))))))))
              refine av (.b true) Z (wn (aB Z (ad ?_)))
              rcases Bool.eq_false_or_eq_true wd with hwb|hwb
              ·
               rw[hwb]at e5
               refine ae (mg e0 Z (mg e5 Z (ms gb od sz cd Z (wm Z (ec CK30 (args:= [.pt fb,.sl gb ob N C,.b true,.sl gb od sz cd]) (cc e4 (cc Z (cc Z (cc Z (Z))))) ?_)))))
               have Hp:St w aR ([an fb [.sl gh oh 7 ch,.b big,.s AL nL cL,.s AP nP cP,.s As ns cs,vi] 33,ay 74 4 (.s AL nL cL) nL (lv.flatMap LoadV.cells)]++ [ay 72 6 (.s AP nP cP) nP (pv.flatMap PartV.cellsM),an g2 [.ns,.b false,.ns,.ns,.ns,.ns] 33,D]) L:=d.re [0,1,2,3,4]
               have hbc:=hr.keep0 d.keep
               refine aa (vt (base:=w.heap.size) (raw:=(ds.take sz)) (gr:=gb) (or_:=od) big _ (Hp.loc (L1:= [an fb [.sl gh oh 7 ch,.b big,.s AL nL cL,.s AP nP cP,.s As ns cs,vi] 33,ay 74 4 (.s AL nL cL) nL (lv.flatMap LoadV.cells)]) (L2:= [ay 72 6 (.s AP nP cP) nP (pv.flatMap PartV.cellsM),an g2 [.ns,.b false,.ns,.ns,.ns,.ns] 33,D])) (Hp.re (L':= [an fb [.sl gh oh 7 ch,.b big,.s AL nL cL,.s AP nP cP,.s As ns cs,vi] 33,ay 74 4 (.s AL nL cL) nL (lv.flatMap LoadV.cells)]) [0,1]).fresh Hp.keep.size (hraw _ hbc) (hdb.take _) (by omega) (by omega) hgb hbc hby hNC hN hgb (by omega)) ?_
               rintro e cS (⟨nn,x,ss,z,a9,B,aF,aG,D2,hst,hxl,hxr,hssl,W,rfl,HSc,j⟩|⟨hst,rfl,HSc⟩)
               ·
                have ca:=d6 (L1:= [an fb [.sl gh oh 7 ch,.b big,.s AL nL cL,.s AP nP cP,.s As ns cs,vi] 33,ay 74 4 (.s AL nL cL) nL (lv.flatMap LoadV.cells)]) (L2:= [ay 72 6 (.s AP nP cP) nP (pv.flatMap PartV.cellsM),an g2 [.ns,.b false,.ns,.ns,.ns,.ns] 33,D]) Hp HSc
                refine⟨_,Z,av (.b true) Z (wn (ae (av (.b true) Z (bk (ak (ac ?_))))))⟩
                have hstg: ∀t:PSt,t.syms=s.syms → cU wd big xs (n4 big ds) (ds.take sz) t=some {t with loads:=t.loads++ [⟨4,(ds.take sz),[],[0,0,0,0,0,0]⟩],syms:=some ss}:=fun t ht=>by rw[hci,hwb];unfold cU;rw[if_neg (by decide),if_neg (by decide),if_pos rfl];exact hst t
                exact .inl ⟨iL od cd sz,m- sz,cd- sz,ds.drop sz,{s with loads:=s.loads++ [⟨4,(ds.take sz),[],[0,0,0,0,0,0]⟩],syms:=some ss},op,stv,z,(nL+1),B,AP,nP,cP,a9,aF,aG,vi,lv++ [x],pv,Res.all [D2,D],e0,e2,e4,by rw[hwb];exact e5,Z,e8,Z,G,F,Z,hdb.drop _,by rw[List.length_drop];omega,by omega,by omega,f,hstv,by omega,by omega,W,⟨_,_,_,hvi⟩,hF.good (by omega) hszn hno (hstg s Z) (fun t ht=>⟨_,hstg t ht,Z⟩),hD.sym (fun w hh=>aS.1 hh D (by simp)) (fun w hh hb=>⟨⟨_,_,_,hxr,by rw[hxl];exact hraw w hb⟩,by have h:=(j w (aS.1 hh D2 (by simp))).1;obtain⟨A,n,c,e1,e2⟩:=h;exact⟨A,n,c,e1,by rw[hxl];exact e2⟩⟩) (by rw[hxl];exact⟨Z,Z,Z,.inl Z⟩) (fun w hh=>(j w (aS.1 hh D2 (by simp))).2) hssl,(ca.reAll [0,5] [1,2,3,4]).re [1,2,3,4,0]⟩
               ·
                have cb:=d6 (L1:= [an fb [.sl gh oh 7 ch,.b big,.s AL nL cL,.s AP nP cP,.s As ns cs,vi] 33,ay 74 4 (.s AL nL cL) nL (lv.flatMap LoadV.cells)]) (L2:= [ay 72 6 (.s AP nP cP) nP (pv.flatMap PartV.cellsM),an g2 [.ns,.b false,.ns,.ns,.ns,.ns] 33,D]) Hp HSc
                refine⟨_,Z,av (.b false) Z (wn (ae (av (.b true) Z (bk (ak (ac ?_))))))⟩
                have hbad:gf wd big xs q4 u ⟨[],[],none,none⟩=none:=hF.bad hszn (fun t ht=>by rw[hci,hwb];unfold cU;rw[if_neg (by decide),if_neg (by decide),if_pos rfl];exact hst t)
                exact .inr ⟨fc hmag hof p E r (by rw[y,←hwd];exact hbad),Z,e2,cb.re [1]⟩
              ·
               rw[hwb]at e5
               refine ae (mg e0 Z (mg e5 Z (ms gb od sz cd Z (wm Z (ec CK30 (args:= [.pt fb,.sl gb ob N C,.b false,.sl gb od sz cd]) (cc e4 (cc Z (cc Z (cc Z (Z))))) ?_)))))
               have Hp:St w aR ([an fb [.sl gh oh 7 ch,.b big,.s AL nL cL,.s AP nP cP,.s As ns cs,vi] 33,ay 74 4 (.s AL nL cL) nL (lv.flatMap LoadV.cells)]++ [ay 72 6 (.s AP nP cP) nP (pv.flatMap PartV.cellsM),an g2 [.ns,.b false,.ns,.ns,.ns,.ns] 33,D]) L:=d.re [0,1,2,3,4]
               have hbc:=hr.keep0 d.keep
               refine aa (vu (base:=w.heap.size) (raw:=(ds.take sz)) (gr:=gb) (or_:=od) big _ (Hp.loc (L1:= [an fb [.sl gh oh 7 ch,.b big,.s AL nL cL,.s AP nP cP,.s As ns cs,vi] 33,ay 74 4 (.s AL nL cL) nL (lv.flatMap LoadV.cells)]) (L2:= [ay 72 6 (.s AP nP cP) nP (pv.flatMap PartV.cellsM),an g2 [.ns,.b false,.ns,.ns,.ns,.ns] 33,D])) (Hp.re (L':= [an fb [.sl gh oh 7 ch,.b big,.s AL nL cL,.s AP nP cP,.s As ns cs,vi] 33,ay 74 4 (.s AL nL cL) nL (lv.flatMap LoadV.cells)]) [0,1]).fresh Hp.keep.size (hraw _ hbc) (hdb.take _) (by omega) (by omega) hgb hbc hby hNC hN hgb (by omega)) ?_
               rintro e cT (⟨nn,x,ss,z,a9,B,aF,aG,D2,hst,hxl,hxr,hssl,W,rfl,HSc,j⟩|⟨hst,rfl,HSc⟩)
               ·
                have ce:=d6 (L1:= [an fb [.sl gh oh 7 ch,.b big,.s AL nL cL,.s AP nP cP,.s As ns cs,vi] 33,ay 74 4 (.s AL nL cL) nL (lv.flatMap LoadV.cells)]) (L2:= [ay 72 6 (.s AP nP cP) nP (pv.flatMap PartV.cellsM),an g2 [.ns,.b false,.ns,.ns,.ns,.ns] 33,D]) Hp HSc
                refine⟨_,Z,av (.b true) Z (wn (ae (av (.b true) Z (bk (ak (ac ?_))))))⟩
                have hstg: ∀t:PSt,t.syms=s.syms → cU wd big xs (n4 big ds) (ds.take sz) t=some {t with loads:=t.loads++ [⟨4,(ds.take sz),[],[0,0,0,0,0,0]⟩],syms:=some ss}:=fun t ht=>by rw[hci,hwb];unfold cU;rw[if_neg (by decide),if_neg (by decide),if_pos rfl];exact hst t
                exact .inl ⟨iL od cd sz,m- sz,cd- sz,ds.drop sz,{s with loads:=s.loads++ [⟨4,(ds.take sz),[],[0,0,0,0,0,0]⟩],syms:=some ss},op,stv,z,(nL+1),B,AP,nP,cP,a9,aF,aG,vi,lv++ [x],pv,Res.all [D2,D],e0,e2,e4,by rw[hwb];exact e5,Z,e8,Z,G,F,Z,hdb.drop _,by rw[List.length_drop];omega,by omega,by omega,f,hstv,by omega,by omega,W,⟨_,_,_,hvi⟩,hF.good (by omega) hszn hno (hstg s Z) (fun t ht=>⟨_,hstg t ht,Z⟩),hD.sym (fun w hh=>aS.1 hh D (by simp)) (fun w hh hb=>⟨⟨_,_,_,hxr,by rw[hxl];exact hraw w hb⟩,by have h:=(j w (aS.1 hh D2 (by simp))).1;obtain⟨A,n,c,e1,e2⟩:=h;exact⟨A,n,c,e1,by rw[hxl];exact e2⟩⟩) (by rw[hxl];exact⟨Z,Z,Z,.inl Z⟩) (fun w hh=>(j w (aS.1 hh D2 (by simp))).2) hssl,(ce.reAll [0,5] [1,2,3,4]).re [1,2,3,4,0]⟩
               ·
                have cf:=d6 (L1:= [an fb [.sl gh oh 7 ch,.b big,.s AL nL cL,.s AP nP cP,.s As ns cs,vi] 33,ay 74 4 (.s AL nL cL) nL (lv.flatMap LoadV.cells)]) (L2:= [ay 72 6 (.s AP nP cP) nP (pv.flatMap PartV.cellsM),an g2 [.ns,.b false,.ns,.ns,.ns,.ns] 33,D]) Hp HSc
                refine⟨_,Z,av (.b false) Z (wn (ae (av (.b true) Z (bk (ak (ac ?_))))))⟩
                have hbad:gf wd big xs q4 u ⟨[],[],none,none⟩=none:=hF.bad hszn (fun t ht=>by rw[hci,hwb];unfold cU;rw[if_neg (by decide),if_neg (by decide),if_pos rfl];exact hst t)
                exact .inr ⟨fc hmag hof p E r (by rw[y,←hwd];exact hbad),Z,e2,cf.re [1]⟩
             ·
              by_cases hc11:cmd=11
              ·
               have hci:n4 big ds=11:=by omega
               refine ae (wv Z (aT Z Z (beq_eq_false_iff_ne.2 (by omega))) (av (.b false) Z (wn (al Z (sr (wv Z (aT Z Z (beq_eq_false_iff_ne.2 (by omega))) (av (.b false) Z (wn (al Z (sr (wv Z (aT Z Z (beq_eq_false_iff_ne.2 (by omega))) ?_)))))))))))
               refine av (.b false) Z (wn (al Z (sr (wv Z (aT Z Z (beq_iff_eq.2 (by omega))) (av (.b true) Z (wn (aB Z (sr (mg e0 Z (mg e9 Z (ms gb od sz cd Z ?_)))))))))))
               refine wm Z (ec CK31 (args:= [.pt fb,.sl gb ob N C,.b s.syms.isSome,.sl gb od sz cd]) (cc e4 (cc Z (cc Z (cc Z (Z))))) ?_)
               have Hp:St w aR ([an fb [.sl gh oh 7 ch,.b big,.s AL nL cL,.s AP nP cP,.s As ns cs,vi] 33,ay 74 4 (.s AL nL cL) nL (lv.flatMap LoadV.cells)]++ [ay 72 6 (.s AP nP cP) nP (pv.flatMap PartV.cellsM),an g2 [.ns,.b false,.ns,.ns,.ns,.ns] 33,D]) L:=d.re [0,1,2,3,4]
               have hbc:=hr.keep0 d.keep
               refine aa (vK (base:=w.heap.size) (raw:=(ds.take sz)) (gr:=gb) (or_:=od) big _ (Hp.loc (L1:= [an fb [.sl gh oh 7 ch,.b big,.s AL nL cL,.s AP nP cP,.s As ns cs,vi] 33,ay 74 4 (.s AL nL cL) nL (lv.flatMap LoadV.cells)]) (L2:= [ay 72 6 (.s AP nP cP) nP (pv.flatMap PartV.cellsM),an g2 [.ns,.b false,.ns,.ns,.ns,.ns] 33,D])) (Hp.re (L':= [an fb [.sl gh oh 7 ch,.b big,.s AL nL cL,.s AP nP cP,.s As ns cs,vi] 33,ay 74 4 (.s AL nL cL) nL (lv.flatMap LoadV.cells)]) [0,1]).fresh Hp.keep.size (hraw _ hbc) (hdb.take _) (by omega) (by omega) hgb hbc hby hNC hN hgb (by omega) hns s.syms.isSome) ?_
               rintro e cV (⟨ld,x,z,B,ci,wds,D2,hsn,hst,hxl,hlw,hxr,rfl,HSc,j⟩|⟨rfl,hsn,HSc⟩|⟨hst,rfl,HSc⟩)
               ·
                have b0:=d6 (L1:= [an fb [.sl gh oh 7 ch,.b big,.s AL nL cL,.s AP nP cP,.s As ns cs,vi] 33,ay 74 4 (.s AL nL cL) nL (lv.flatMap LoadV.cells)]) (L2:= [ay 72 6 (.s AP nP cP) nP (pv.flatMap PartV.cellsM),an g2 [.ns,.b false,.ns,.ns,.ns,.ns] 33,D]) Hp HSc
                refine⟨_,Z,ai 0 Z (wn (sr (mi 0 Z (wv Z (cg (c:=true) Z Z Z) (av (.b true) Z (wn (ae (mg e8 Z (mi 0 Z (wv Z (qY (c:=stv) Z Z (by cases op<;>simp at hstv<;>subst hstv<;>decide)) ?_))))))))))⟩
                refine ai stv Z (bk (ak (ac ?_)))
                obtain⟨ss,hss⟩: ∃ss,s.syms=some ss:=Option.isSome_iff_exists.1 hsn
                have hsl:ss.length=ns:=by have:=hD.sn;rw[hss]at this;exact this
                have hstg: ∀t:PSt,t.syms=s.syms → cU wd big xs (n4 big ds) (ds.take sz) t=some {t with loads:=t.loads++ [ld],ind:=some wds}:=fun t ht=>by rw[hci];unfold cU;rw[if_neg (by decide),if_neg (by decide),if_neg (by decide),if_pos rfl];exact hst t ss (by rw[ht];exact hss) hsl
                exact .inl ⟨iL od cd sz,m- sz,cd- sz,ds.drop sz,{s with loads:=s.loads++ [ld],ind:=some wds},op,stv,z,(nL+1),B,AP,nP,cP,As,ns,cs,ci,lv++ [x],pv,Res.all [D2,D],e0,e2,e4,e5,Z,Z,e9,G,F,Z,hdb.drop _,by rw[List.length_drop];omega,by omega,by omega,f,hstv,by omega,by omega,hns,(by obtain⟨_,_,_,e,_⟩:=(j _ (b0.g 0 Z)).2;exact⟨_,_,_,e⟩),hF.good (by omega) hszn hno (hstg s Z) (fun t ht=>⟨_,hstg t ht,ht⟩),hD.dys (fun w hh=>aS.1 hh D (by simp)) (fun w hh hb=>⟨⟨_,_,_,hxr,by rw[hxl,hlw];exact hraw w hb⟩,by have h:=(j w (aS.1 hh D2 (by simp))).1;obtain⟨A,n,c,e1,e2⟩:=h;exact⟨A,n,c,e1,by rw[hxl];exact e2⟩⟩) (by rw[hxl];exact⟨Z,Z,Z,.inr Z⟩) (fun w hh=>(j w (aS.1 hh D2 (by simp))).2),(b0.reAll [0,5] [1,2,3,4]).re [1,2,3,4,0]⟩
               ·
                have cj:=d6 (L1:= [an fb [.sl gh oh 7 ch,.b big,.s AL nL cL,.s AP nP cP,.s As ns cs,vi] 33,ay 74 4 (.s AL nL cL) nL (lv.flatMap LoadV.cells)]) (L2:= [ay 72 6 (.s AP nP cP) nP (pv.flatMap PartV.cellsM),an g2 [.ns,.b false,.ns,.ns,.ns,.ns] 33,D]) Hp HSc
                refine⟨_,Z,ai 2 Z (wn (sr (mi 2 Z (wv Z (cg (c:=true) Z Z Z) (av (.b true) Z (wn (ae (mg e8 Z (mi 2 Z (wv Z (qY (c:=2) Z Z (by cases op<;>simp at hstv<;>subst hstv<;>decide)) ?_))))))))))⟩
                refine ai 2 Z (bk (ak (ac ?_)))
                exact .inl ⟨iL od cd sz,m- sz,cd- sz,ds.drop sz,s,true,2,AL,nL,cL,AP,nP,cP,As,ns,cs,vi,lv,pv,D,e0,e2,e4,e5,Z,Z,e9,G,F,Z,hdb.drop _,by rw[List.length_drop];omega,by omega,by omega,f,Z,by omega,by omega,hns,⟨_,_,_,hvi⟩,hF.opn (by omega) hszn hno hci,hD,cj.re [0,1,2,3,4]⟩
               ·
                have cl:=d6 (L1:= [an fb [.sl gh oh 7 ch,.b big,.s AL nL cL,.s AP nP cP,.s As ns cs,vi] 33,ay 74 4 (.s AL nL cL) nL (lv.flatMap LoadV.cells)]) (L2:= [ay 72 6 (.s AP nP cP) nP (pv.flatMap PartV.cellsM),an g2 [.ns,.b false,.ns,.ns,.ns,.ns] 33,D]) Hp HSc
                refine⟨_,Z,ai 1 Z (wn (sr (mi 1 Z (wv Z (cg (c:=false) Z Z Z) (av (.b false) Z (wn (ae (mg e8 Z (mi 1 Z (wv Z (qY (c:=max stv 1) Z Z (by cases op<;>simp at hstv<;>subst hstv<;>decide)) ?_))))))))))⟩
                refine ai (max stv 1) Z (bk (ak (ac ?_)))
                have hbad:gf wd big xs q4 u ⟨[],[],none,none⟩=none:=hF.bad hszn (fun t ht=>by rw[hci];unfold cU;rw[if_neg (by decide),if_neg (by decide),if_neg (by decide),if_pos rfl];exact hst t (by rw[ht]) (fun ss hss=>by have:=hD.sn;rw[←ht,hss]at this;exact this))
                exact .inr ⟨fc hmag hof p E r (by rw[y,←hwd];exact hbad),Z,e2,cl.re [1]⟩
              ·
               by_cases hc12:cmd=12
               ·
                have hci:n4 big ds=12:=by omega
                refine ae (wv Z (aT Z Z (beq_eq_false_iff_ne.2 (by omega))) (av (.b false) Z (wn (al Z (sr (wv Z (aT Z Z (beq_eq_false_iff_ne.2 (by omega))) (av (.b false) Z (wn (al Z (sr (wv Z (aT Z Z (beq_eq_false_iff_ne.2 (by omega))) ?_)))))))))))
                refine av (.b false) Z (wn (al Z (sr (wv Z (aT Z Z (beq_eq_false_iff_ne.2 (by omega))) (av (.b false) Z (wn (al Z (sr (wv Z (aT Z Z (beq_iff_eq.2 (by omega))) (av (.b true) Z (wn ?_)))))))))))
                refine aB Z (ae (ms gb od sz cd Z (wm Z (ec CK32 (args:= [.pt fb,.i 2,.i 3,.sl gb od sz cd]) (cc e4 (cc Z (cc Z (cc Z (Z))))) ?_))))
                have Hp:St w aR ([an fb [.sl gh oh 7 ch,.b big,.s AL nL cL,.s AP nP cP,.s As ns cs,vi] 33,ay 74 4 (.s AL nL cL) nL (lv.flatMap LoadV.cells)]++ [ay 72 6 (.s AP nP cP) nP (pv.flatMap PartV.cellsM),an g2 [.ns,.b false,.ns,.ns,.ns,.ns] 33,D]) L:=d.re [0,1,2,3,4]
                have hbc:=hr.keep0 d.keep
                refine aa (vE (base:=w.heap.size) (raw:=(ds.take sz)) (gr:=gb) (or_:=od) big _ (Hp.loc (L1:= [an fb [.sl gh oh 7 ch,.b big,.s AL nL cL,.s AP nP cP,.s As ns cs,vi] 33,ay 74 4 (.s AL nL cL) nL (lv.flatMap LoadV.cells)]) (L2:= [ay 72 6 (.s AP nP cP) nP (pv.flatMap PartV.cellsM),an g2 [.ns,.b false,.ns,.ns,.ns,.ns] 33,D])) (Hp.re (L':= [an fb [.sl gh oh 7 ch,.b big,.s AL nL cL,.s AP nP cP,.s As ns cs,vi] 33,ay 74 4 (.s AL nL cL) nL (lv.flatMap LoadV.cells)]) [0,1]).fresh Hp.keep.size (hraw _ hbc) (hdb.take _) (by omega) (by omega) hgb (by omega)) ?_
                rintro e cX (⟨ld,x,z,B,D2,hst,hxl,hlw,hxr,rfl,HSc,j⟩|⟨hst,rfl,HSc⟩)
                ·
                 have cm:=d6 (L1:= [an fb [.sl gh oh 7 ch,.b big,.s AL nL cL,.s AP nP cP,.s As ns cs,vi] 33,ay 74 4 (.s AL nL cL) nL (lv.flatMap LoadV.cells)]) (L2:= [ay 72 6 (.s AP nP cP) nP (pv.flatMap PartV.cellsM),an g2 [.ns,.b false,.ns,.ns,.ns,.ns] 33,D]) Hp HSc
                 refine⟨_,Z,av (.b true) Z (bk (ak (ac ?_)))⟩
                 have hstg: ∀t:PSt,t.syms=s.syms → cU wd big xs (n4 big ds) (ds.take sz) t=some {t with loads:=t.loads++ [ld]}:=fun t ht=>by rw[hci];unfold cU;rw[if_neg (by decide),if_pos rfl];exact hst t
                 exact .inl ⟨iL od cd sz,m- sz,cd- sz,ds.drop sz,{s with loads:=s.loads++ [ld]},op,stv,z,(nL+1),B,AP,nP,cP,As,ns,cs,vi,lv++ [x],pv,Res.all [D2,D],e0,e2,e4,e5,Z,e8,e9,G,F,Z,hdb.drop _,by rw[List.length_drop];omega,by omega,by omega,f,hstv,by omega,by omega,hns,⟨_,_,_,hvi⟩,hF.good (by omega) hszn hno (hstg s Z) (fun t ht=>⟨_,hstg t ht,ht⟩),hD.load (fun w hh=>aS.1 hh D (by simp)) (fun w hh hb=>⟨⟨_,_,_,hxr,by rw[hxl,hlw];exact hraw w hb⟩,by have h:=(j w (aS.1 hh D2 (by simp)));obtain⟨A,n,c,e1,e2⟩:=h;exact⟨A,n,c,e1,by rw[hxl];exact e2⟩⟩) (by rw[hxl];exact⟨Z,Z,Z,.inr Z⟩),(cm.reAll [0,5] [1,2,3,4]).re [1,2,3,4,0]⟩
                ·
                 have cn:=d6 (L1:= [an fb [.sl gh oh 7 ch,.b big,.s AL nL cL,.s AP nP cP,.s As ns cs,vi] 33,ay 74 4 (.s AL nL cL) nL (lv.flatMap LoadV.cells)]) (L2:= [ay 72 6 (.s AP nP cP) nP (pv.flatMap PartV.cellsM),an g2 [.ns,.b false,.ns,.ns,.ns,.ns] 33,D]) Hp HSc
                 refine⟨_,Z,av (.b false) Z (bk (ak (ac ?_)))⟩
                 have hbad:gf wd big xs q4 u ⟨[],[],none,none⟩=none:=hF.bad hszn (fun t ht=>by rw[hci];unfold cU;rw[if_neg (by decide),if_pos rfl];exact hst t)
                 exact .inr ⟨fc hmag hof p E r (by rw[y,←hwd];exact hbad),Z,e2,cn.re [1]⟩
               ·
                by_cases hc2147483676:cmd=2147483676
                ·
                 have hci:n4 big ds=2147483676:=by omega
                 refine ae (wv Z (aT Z Z (beq_eq_false_iff_ne.2 (by omega))) (av (.b false) Z (wn (al Z (sr (wv Z (aT Z Z (beq_eq_false_iff_ne.2 (by omega))) (av (.b false) Z (wn (al Z (sr (wv Z (aT Z Z (beq_eq_false_iff_ne.2 (by omega))) ?_)))))))))))
                 refine av (.b false) Z (wn (al Z (sr (wv Z (aT Z Z (beq_eq_false_iff_ne.2 (by omega))) (av (.b false) Z (wn (al Z (sr (wv Z (aT Z Z (beq_eq_false_iff_ne.2 (by omega))) (av (.b false) Z (wn ?_)))))))))))
                 refine al Z (sr (wv Z (aT Z Z (beq_iff_eq.2 (by omega))) (av (.b true) Z (wn (aB Z (ae (ms gb od sz cd Z (wm Z (ec CK32 (args:= [.pt fb,.i 3,.i 0,.sl gb od sz cd]) (cc e4 (cc Z (cc Z (cc Z (Z))))) ?_)))))))))
                 have Hp:St w aR ([an fb [.sl gh oh 7 ch,.b big,.s AL nL cL,.s AP nP cP,.s As ns cs,vi] 33,ay 74 4 (.s AL nL cL) nL (lv.flatMap LoadV.cells)]++ [ay 72 6 (.s AP nP cP) nP (pv.flatMap PartV.cellsM),an g2 [.ns,.b false,.ns,.ns,.ns,.ns] 33,D]) L:=d.re [0,1,2,3,4]
                 have hbc:=hr.keep0 d.keep
                 refine aa (sN (base:=w.heap.size) (raw:=(ds.take sz)) (gr:=gb) (or_:=od) big _ (Hp.loc (L1:= [an fb [.sl gh oh 7 ch,.b big,.s AL nL cL,.s AP nP cP,.s As ns cs,vi] 33,ay 74 4 (.s AL nL cL) nL (lv.flatMap LoadV.cells)]) (L2:= [ay 72 6 (.s AP nP cP) nP (pv.flatMap PartV.cellsM),an g2 [.ns,.b false,.ns,.ns,.ns,.ns] 33,D])) (Hp.re (L':= [an fb [.sl gh oh 7 ch,.b big,.s AL nL cL,.s AP nP cP,.s As ns cs,vi] 33,ay 74 4 (.s AL nL cL) nL (lv.flatMap LoadV.cells)]) [0,1]).fresh Hp.keep.size (hraw _ hbc) (hdb.take _) (by omega) (by omega) hgb (by omega)) ?_
                 rintro e cY (⟨ld,x,z,B,D2,hst,hxl,hlw,hxr,rfl,HSc,j⟩|⟨hst,rfl,HSc⟩)
                 ·
                  have co:=d6 (L1:= [an fb [.sl gh oh 7 ch,.b big,.s AL nL cL,.s AP nP cP,.s As ns cs,vi] 33,ay 74 4 (.s AL nL cL) nL (lv.flatMap LoadV.cells)]) (L2:= [ay 72 6 (.s AP nP cP) nP (pv.flatMap PartV.cellsM),an g2 [.ns,.b false,.ns,.ns,.ns,.ns] 33,D]) Hp HSc
                  refine⟨_,Z,av (.b true) Z (bk (ak (ac ?_)))⟩
                  have hstg: ∀t:PSt,t.syms=s.syms → cU wd big xs (n4 big ds) (ds.take sz) t=some {t with loads:=t.loads++ [ld]}:=fun t ht=>by rw[hci];unfold cU;rw[if_pos rfl];exact hst t
                  exact .inl ⟨iL od cd sz,m- sz,cd- sz,ds.drop sz,{s with loads:=s.loads++ [ld]},op,stv,z,(nL+1),B,AP,nP,cP,As,ns,cs,vi,lv++ [x],pv,Res.all [D2,D],e0,e2,e4,e5,Z,e8,e9,G,F,Z,hdb.drop _,by rw[List.length_drop];omega,by omega,by omega,f,hstv,by omega,by omega,hns,⟨_,_,_,hvi⟩,hF.good (by omega) hszn hno (hstg s Z) (fun t ht=>⟨_,hstg t ht,ht⟩),hD.load (fun w hh=>aS.1 hh D (by simp)) (fun w hh hb=>⟨⟨_,_,_,hxr,by rw[hxl,hlw];exact hraw w hb⟩,by have h:=(j w (aS.1 hh D2 (by simp)));obtain⟨A,n,c,e1,e2⟩:=h;exact⟨A,n,c,e1,by rw[hxl];exact e2⟩⟩) (by rw[hxl];exact⟨Z,Z,Z,.inr Z⟩),(co.reAll [0,5] [1,2,3,4]).re [1,2,3,4,0]⟩
                 ·
                  have cp:=d6 (L1:= [an fb [.sl gh oh 7 ch,.b big,.s AL nL cL,.s AP nP cP,.s As ns cs,vi] 33,ay 74 4 (.s AL nL cL) nL (lv.flatMap LoadV.cells)]) (L2:= [ay 72 6 (.s AP nP cP) nP (pv.flatMap PartV.cellsM),an g2 [.ns,.b false,.ns,.ns,.ns,.ns] 33,D]) Hp HSc
                  refine⟨_,Z,av (.b false) Z (bk (ak (ac ?_)))⟩
                  have hbad:gf wd big xs q4 u ⟨[],[],none,none⟩=none:=hF.bad hszn (fun t ht=>by rw[hci];unfold cU;rw[if_pos rfl];exact hst t)
                  exact .inr ⟨fc hmag hof p E r (by rw[y,←hwd];exact hbad),Z,e2,cp.re [1]⟩
                ·
                 refine ae (wv Z (aT Z Z (beq_eq_false_iff_ne.2 (by omega))) (av (.b false) Z (wn (al Z (sr (wv Z (aT Z Z (beq_eq_false_iff_ne.2 (by omega))) (av (.b false) Z (wn (al Z (sr (wv Z (aT Z Z (beq_eq_false_iff_ne.2 (by omega))) ?_)))))))))))
                 refine av (.b false) Z (wn (al Z (sr (wv Z (aT Z Z (beq_eq_false_iff_ne.2 (by omega))) (av (.b false) Z (wn (al Z (sr (wv Z (aT Z Z (beq_eq_false_iff_ne.2 (by omega))) (av (.b false) Z (wn ?_)))))))))))
                 refine al Z (sr (wv Z (aT Z Z (beq_eq_false_iff_ne.2 (by omega))) (av (.b false) Z (wn (al Z (ae (wv Z (ab dj e4) (wv Z (d.ld 0 Z dH Z (.s AL nL cL) Z) (ms gb od sz cd Z (wv Z (yz [.i 0,.sl gb od sz cd,.string (⟨#[]⟩),.ns] Z (by kernel_rfl)) (wm Z ?_)))))))))))
                 refine kt d (ps:= [(0,.agg #[.i 0,.sl gb od sz cd,.string (⟨#[]⟩),.ns])]) (e:=74) (cs:= [.i 0,.sl gb od sz cd,.string (⟨#[]⟩),.ns]) Z (by kernel_rfl) (fun cZ db cq b1=>wm Z (bG b1 2 (m:=1) (news:= [.i 0,.sl gb od sz cd,.string (⟨#[]⟩),.ns]) Z kT kY Z (by decide) Z Z Z (b1.news (i:=0) Z) (by simp[Value.oneCell']) (by simp only[maxLen];omega) (by omega) (fun dd de b2=> ?_)))
                 obtain⟨cr,ct,rfl,_,_⟩:=aw (b2.g 2 rfl)
                 refine wv Z (ab dj e4) (ws (es b2 1 2 (.s cr (nL+1) ct) Z dH (fun df b3=> ?_)))
                 refine bk (ak (ac ?_))
                 have hcur:lv.flatMap LoadV.cells++ [.i 0,.sl gb od sz cd,.string (⟨#[]⟩),.ns]=(lv++ [(LoadV.mk (⟨0,(ds.take sz),[],[]⟩:LoadD) (.sl gb od sz cd) (.ns))]).flatMap LoadV.cells:=by rw[List.flatMap_append,List.flatMap_singleton];rfl
                 rw[hcur]at b3
                 have hstg: ∀t:PSt,cU wd big xs (n4 big ds) (ds.take sz) t=some {t with loads:=t.loads++ [(⟨0,(ds.take sz),[],[]⟩:LoadD)]}:=fun t=>by unfold cU;rw[if_neg (show ¬n4 big ds=2147483676 by omega),if_neg (show ¬n4 big ds=12 by omega),if_neg (show ¬n4 big ds=2 by omega),if_neg (show ¬n4 big ds=11 by omega),if_neg (show ¬n4 big ds=1 by omega),if_neg (show ¬n4 big ds=25 by omega)];rfl
                 exact .inl ⟨iL od cd sz,m- sz,cd- sz,ds.drop sz,{s with loads:=s.loads++ [(⟨0,(ds.take sz),[],[]⟩:LoadD)]},op,stv,_,(nL+1),_,AP,nP,cP,As,ns,cs,vi,lv++ [(LoadV.mk (⟨0,(ds.take sz),[],[]⟩:LoadD) (.sl gb od sz cd) (.ns))],pv,D,e0,e2,e4,e5,Z,e8,e9,G,F,Z,hdb.drop _,by rw[List.length_drop];omega,by omega,by omega,f,hstv,by omega,by omega,hns,⟨_,_,_,hvi⟩,hF.good (by omega) hszn hno (hstg s) (fun t ht=>⟨_,hstg t,ht⟩),hD.load (fun w h=>h) (fun w _ hb=>⟨⟨_,_,_,Z,hraw w hb⟩,_,_,_,Z,RI.nil _ _ _⟩) ⟨Z,Z,Z,.inr Z⟩,b3.re [1,2,3,4,5]⟩
          ·
           rintro dg w5 (⟨od,m,cd,ds,s,op,stv,AL,nL,cL,AP,nP,cP,As,ns,cs,vi,lv,pv,D,k0,k2,k4,k5,k7,k8,k9,cu,cv,aJ,hdb,hdl,hmc,hmN,hdat,hstv,hnL,hnP,hns,⟨_,_,_,hvi⟩,hF,hD,H5⟩|⟨hnone,aJ,k2,H5⟩)
           ·
            refine sr (mg aJ Z (wv Z (bS Z) (wn (al Z (dw (ak (ac (ae (wv Z (aH (k:= .u64) (c:= ↑k+1) cv Z (aC (by omega) (by omega))) (mu (↑k+1) Z (wn ?_)))))))))))
            exact⟨⟨k+1,od,m,cd,ds,s,op,stv,AL,nL,cL,AP,nP,cP,As,ns,cs,vi,lv,pv,D,k0,k2,k4,k5,k7,k8,k9,cu,Z,by omega,hdb,hdl,hmc,hmN,hdat,hstv,hnL,hnP,hns,⟨_,_,_,hvi⟩,hF,hD,H5⟩,by show q4+1- nv (.q (↑k+1))<q4+1- nv (bT 76);rw[F];simp only[nv];omega⟩
           ·
            refine sr (mg aJ Z (wv Z (bS Z) (wn (aB Z (sr (wv Z (yb (ps:= []) (cells:=#[.ns,.b false,.ns,.ns,.ns,.ns]) Z (by kernel_rfl)) (ws (bE H5 0 (vs:= [.ns,.b false,.ns,.ns,.ns,.ns]) (m:=6) Z jw k2 Z Z (nl Z) (by simp[Value.oneCell']) (cs':= [.ns,.b false,.ns,.ns,.ns,.ns]) Z (fun dh b4=> ?_)))))))))
            refine ai 1 Z (wn (aY (aI (a7 (a7 (aI (a7 ?_)))))))
            exact⟨.inr Z,_,fy Z kV (by exact k2) (b4.g 0 Z) Z (by exact Z),.inr (.inr ⟨hnone,Z,b4.keep⟩)⟩
        ·
         simp only[bx]at ah
         refine ck Z Z (ck Z Z (ck Z Z (ck Z Z (ck Z Z (wv Z (aD (b:=true) (v:= .b true) Z Z) (wn (aB Z (sr (wv Z (yb (ps:= []) (cells:=#[.ns,.b false,.ns,.ns,.ns,.ns]) Z (by kernel_rfl)) (ws (bE d 3 (vs:= [.ns,.b false,.ns,.ns,.ns,.ns]) (m:=6) Z jw e2 Z Z (nl Z) (by simp[Value.oneCell']) (cs':= [.ns,.b false,.ns,.ns,.ns,.ns]) Z (fun di b5=> ?_))))))))))))
         refine ai 1 Z (wn (rq (aI (a7 (a7 (aI (a7 ?_)))))))
         exact⟨.inr Z,_,fy Z kV (by exact e2) (b5.g 3 Z) Z (by exact Z),.inr (.inr ⟨fc hmag hof p E r (by rw[y,←hwd];exact hF.n2 hszn (by omega)),Z,b5.keep⟩)⟩
      ·
       simp only[bx]at T
       refine bq (ar (ar (aQ (ac (ad ?_)))))
       have hkq:k=q4:=by omega
       cases op
       ·
        have X:stv=0:=hstv
        subst X
        have hI:=t7 (by rw[hr.1];omega) hmag hof p E r (s:=s) (by rw[y,←hwd,hF.1 rfl,show q4- k=0 by omega];rfl)
        rw[←hh]at hI
        refine ae (wv Z (H4.loadA (i:=0) (vs:= [.sl gh oh 7 ch,.b big,.s AL nL cL,.s AP nP cP,.s As ns cs,vi]) Z kV e4 Z Z) (mg e8 Z (ws (bE H4 3 (vs:= [.sl gh oh 7 ch,.b big,.s AL nL cL,.s AP nP cP,.s As ns cs,vi]) (m:=6) Z jw e2 Z Z (nl Z) (by simp[Value.oneCell',hvi]) (cs':= [.sl gh oh 7 ch,.b big,.s AL nL cL,.s AP nP cP,.s As ns cs,vi]) Z (fun dk b6=> ?_)))))
        refine ai 0 Z (wn (aY ?_))
        exact⟨.inr Z,_,fy Z kV (by exact e2) (b6.g 3 Z) Z (by exact Z),.inl ⟨_,_,Res.all [ay 74 4 (.s AL nL cL) nL (lv.flatMap LoadV.cells),ay 72 6 (.s AP nP cP) nP (pv.flatMap PartV.cellsM),D],hI,Z,b6.reAll [1,2,4] [],fun w hh hb=>by have hh:=aS.1 hh;exact⟨_,_,_,_,_,lv,pv,Z,⟨_,_,_,Z,hD.hd w (hh D (by simp))⟩,(by obtain⟨A,c,e,hv,_⟩:=aw (hh (ay 74 4 (.s AL nL cL) nL (lv.flatMap LoadV.cells)) (by simp));exact⟨A,_,c,e,hv⟩),hD.lr,hD.ld w (hh D (by simp)) hb,(by obtain⟨A,c,e,hv,_⟩:=aw (hh (ay 72 6 (.s AP nP cP) nP (pv.flatMap PartV.cellsM)) (by simp));exact⟨A,_,c,e,hv⟩),hD.pm,hD.pt w (hh D (by simp)) hb,⟨_,_,_,Z,hD.sy w (hh D (by simp))⟩,hD.iv w (hh D (by simp))⟩⟩⟩
       ·
        have X:stv=2:=hstv
        subst X
        refine ae (wv Z (H4.loadA (i:=0) (vs:= [.sl gh oh 7 ch,.b big,.s AL nL cL,.s AP nP cP,.s As ns cs,vi]) Z kV e4 Z Z) (mg e8 Z (ws (bE H4 3 (vs:= [.sl gh oh 7 ch,.b big,.s AL nL cL,.s AP nP cP,.s As ns cs,vi]) (m:=6) Z jw e2 Z Z (nl Z) (by simp[Value.oneCell',hvi]) (cs':= [.sl gh oh 7 ch,.b big,.s AL nL cL,.s AP nP cP,.s As ns cs,vi]) Z (fun dl b7=> ?_)))))
        refine ai 2 Z (wn (aY ?_))
        exact⟨.inr Z,_,fy Z kV (by exact e2) (b7.g 3 Z) Z (by exact Z),.inr (.inl ⟨_,_,_,_,_,_,_,_,_,_,_,_,_,_,Z,⟨_,_,_,hvi⟩,b7.keep⟩)⟩
     ·
      refine ae (mg g0 Z (mg g6 Z (wv Z (ab iE g4) (wv Z (H3.ld 0 Z eD Z (.sl gh oh 7 ch) Z) (wv Z (aK bL Z Z (by omega) (by omega)) (wv Z (ag aP Z (show World.cell? _ _=some (.q (↑q5))from(hDn _ (H3.g 2 Z)).cellAt 5 (by omega))) (wE [.sl gb ob N C,.q (↑of),.q (↑q5)] iN Z Z (aa (eg _ (by omega) (by omega) Q) ?_))))))))
      rintro e c8 ⟨rfl,b8⟩
      have b9:=H3.cal0 b8
      refine⟨_,Z,wv Z (bS Z) (wn (aB Z (sr (wv Z (yb (ps:= []) (cells:=#[.ns,.b false,.ns,.ns,.ns,.ns]) Z (by kernel_rfl)) (ws (bE b9 1 (vs:= [.ns,.b false,.ns,.ns,.ns,.ns]) (m:=6) Z jw H Z Z (nl Z) (by simp[Value.oneCell']) (cs':= [.ns,.b false,.ns,.ns,.ns,.ns]) Z (fun c9 aj=> ?_)))))))⟩
      refine ai 1 Z (wn (rq ?_))
      exact⟨.inr Z,_,fy Z kV (by exact H) (aj.g 1 Z) Z (by exact Z),.inr (.inr ⟨t8 hmag hof p (eR (by rw[hr.1];exact Q)),Z,aj.keep⟩)⟩
theorem BE:FA 54 0 0:=fa (by kernel_rfl)
theorem BQ:bg Tryd.prog 36:=aL (by kernel_rfl)
theorem BD:FA 54 1 1:=fa (by kernel_rfl)
theorem TL50:Tryd.prog.underlying 50=some (.slice (Tryd.prog.elem 50)):=by kernel_rfl
theorem Bj:Tryd.prog.underlying 29=some (.slice (Tryd.prog.elem 29)):=by kernel_rfl
theorem TL51:Tryd.prog.underlying 51=some (.slice (Tryd.prog.elem 51)):=by kernel_rfl
theorem TL30:Tryd.prog.underlying 30=some (.slice (Tryd.prog.elem 30)):=by kernel_rfl
theorem TL52:Tryd.prog.underlying 52=some (.slice (Tryd.prog.elem 52)):=by kernel_rfl
theorem TS50:cJ Tryd.prog 50 96 4:=bX (by kernel_rfl)
theorem TS29:cJ Tryd.prog 29 74 4:=bX (by kernel_rfl)
theorem TG74:iJ Tryd.prog 74 4:=eG (by kernel_rfl)
theorem tH:dA Tryd.prog 74 [.i 0,.ns,.string (⟨#[]⟩),.ns]:=bO (by kernel_rfl)
theorem TZ74:(Tryd.prog.info? 74).map (·.size)=some 4:=by kernel_rfl
theorem By:FA 74 0 0:=fa (by kernel_rfl)
theorem Bx:FA 74 2 2:=fa (by kernel_rfl)
theorem Bv:FA 96 1 1:=fa (by kernel_rfl)
theorem xV:FA 74 1 1:=fa (by kernel_rfl)
theorem Bw:FA 74 3 3:=fa (by kernel_rfl)
theorem TS51:cJ Tryd.prog 51 99 6:=bX (by kernel_rfl)
theorem TG99:iJ Tryd.prog 99 6:=eG (by kernel_rfl)
theorem yJ:dA Tryd.prog 99 [.string (⟨#[]⟩),.string (⟨#[]⟩),.ns,.ns,.ns,.b false]:=bO (by kernel_rfl)
theorem TZ99:(Tryd.prog.info? 99).map (·.size)=some 6:=by kernel_rfl
theorem TS30:cJ Tryd.prog 30 72 6:=bX (by kernel_rfl)
theorem Bm:FA 99 5 5:=fa (by kernel_rfl)
theorem Bu:FA 99 0 0:=fa (by kernel_rfl)
theorem B2:FA 72 0 0:=fa (by kernel_rfl)
theorem Bt:FA 99 1 1:=fa (by kernel_rfl)
theorem B0:FA 72 1 1:=fa (by kernel_rfl)
theorem Bq:FA 99 2 2:=fa (by kernel_rfl)
theorem Bz:FA 72 2 2:=fa (by kernel_rfl)
theorem Bo:FA 99 4 4:=fa (by kernel_rfl)
theorem tg:FA 99 3 3:=fa (by kernel_rfl)
theorem yc:dI Tryd.prog 97:=bN (by kernel_rfl)
theorem TL97:Tryd.prog.underlying 97=some (.slice (Tryd.prog.elem 97)):=by kernel_rfl
theorem TL65:Tryd.prog.underlying 65=some (.slice (Tryd.prog.elem 65)):=by kernel_rfl
theorem TS97:cJ Tryd.prog 97 101 7:=bX (by kernel_rfl)
theorem TG101:iJ Tryd.prog 101 7:=eG (by kernel_rfl)
theorem TS65:cJ Tryd.prog 65 67 7:=bX (by kernel_rfl)
theorem CK37:bg Tryd.prog 37:=aL (by kernel_rfl)
theorem TS52:cJ Tryd.prog 52 102 5:=bX (by kernel_rfl)
theorem TG102:iJ Tryd.prog 102 5:=eG (by kernel_rfl)
theorem xL:dA Tryd.prog 102 [.string (⟨#[]⟩),.e 0,.e 0,.h 0,.q 0]:=bO (by kernel_rfl)
theorem TZ102:(Tryd.prog.info? 102).map (·.size)=some 5:=by kernel_rfl
theorem TS31:cJ Tryd.prog 31 76 5:=bX (by kernel_rfl)
theorem zl:FA 102 0 0:=fa (by kernel_rfl)
theorem zk:FA 102 1 1:=fa (by kernel_rfl)
theorem xU:FA 76 1 1:=fa (by kernel_rfl)
theorem zj:FA 102 2 2:=fa (by kernel_rfl)
theorem xT:FA 76 2 2:=fa (by kernel_rfl)
theorem zi:FA 102 3 3:=fa (by kernel_rfl)
theorem xS:FA 76 3 3:=fa (by kernel_rfl)
theorem zh:FA 102 4 4:=fa (by kernel_rfl)
theorem xR:FA 76 4 4:=fa (by kernel_rfl)
theorem vH{I:MF}{N:Nat}{xs:List Int}{c1 c2:List Value}(w:World)(hF:yu w c1 (I.told N xs))(hS:zO w c2 I N xs)(hB:I.small):
 Calls Tryd.prog 14 #[.agg c1.toArray,.agg c2.toArray] w fun e w'=>e= .returned (.b true)∧St w aR [] w':=by
 obtain⟨vh,vl,vp,vs,vi,lx,ps,rfl,⟨Ah,nh,ch,rfl,hh⟩,⟨Al,nl,cl,rfl,hl⟩,hlx,hlo,⟨Ap,np,cp,rfl,hp⟩,hpx,hpo,⟨As,ns,cs,rfl,hs⟩,⟨Ai,ni,ci,rfl,hi⟩⟩:=hF
 obtain⟨vh,vl,vp,vs,vi,lv,pv,rfl,⟨Bh,mh,dh,rfl,kh⟩,⟨Bl,ml,dl,rfl,kl⟩,hlr,klo,⟨Bp,mp,dp,rfl,kp⟩,kpm,kpo,⟨Bs,ms,ds,rfl,ks⟩,⟨Bi,mi,di,rfl,ki⟩⟩:=hS
 change lx.map LoadV.l=I.loads at hlx
 change ps.map PartV.p=(I.secs.map fun s=>s.part N xs)at hpx
 change RV w As ns 5 (I.syms.flatMap Sym.cells)at hs
 change RI .u32 w Ai ni I.ind at hi
 change RI .u64 w Ah nh [I.h 0,I.h 1,I.h 2,I.h 3,I.h 4,I.h 5,I.h 6]at hh
 have q1:=hh.1
 have q2:=kh.1
 obtain rfl:nh=mh:=by omega
 have q3:=RV.len hl LoadV.len4 (by decide)
 have q4:=RV.len kl LoadV.len4 (by decide)
 have q5:=hlr.1
 have q6:lx.length=I.loads.length:=by rw[←hlx,List.length_map]
 obtain rfl:nl=ml:=by omega
 have q7:=RV.len hp PartV.len6 (by decide)
 have q8:=RV.len kp oO (by decide)
 have q9:ps.length=I.secs.length:=by have:=congrArg List.length hpx;simpa using this
 have bD:pv.length=I.secs.length:=by have:=congrArg List.length kpm;simpa using this
 obtain rfl:np=mp:=by omega
 have bE:=RV.len hs Sym.len5 (by decide)
 have bF:=RV.len ks Sym.len5 (by decide)
 obtain rfl:ns=ms:=by omega
 have bG:=hi.1
 have bH:=ki.1
 obtain rfl:ni=mi:=by omega
 obtain⟨b1,b2,b3,b4,b5,b6⟩:=hB
 simp only[List.length_cons,List.length_nil]at q1 q2
 have hrbd: ∀p ∈ (I.secs.map fun s=>s.part N xs),p.rels.length≤4294967295:=fun p hp=>by obtain⟨s,hs,e⟩:=List.mem_map.1 hp;rw[←e];exact b3 s hs
 have hub: ∀x ∈ lx,x.l.nums.length≤4294967295:=fun x hx=>b6 _ (by rw[←hlx];exact List.mem_map_of_mem hx)
 have hpn: ∀p ∈ (I.secs.map fun s=>s.part N xs),p.nums.length=7:=fun p hp=>by obtain⟨s,hs,e⟩:=List.mem_map.1 hp;rw[←e];rfl
 refine aA (args:= [.agg #[.s Ah nh ch,.b I.big,.s Al nl cl,.s Ap np cp,.s As ns cs,.s Ai ni ci],.agg #[.s Bh nh dh,.b I.big,.s Bl nl dl,.s Bp np dp,.s Bs ns ds,.s Bi ni di]]) Tryd.func14 Z Z Z ?_
 have H0:=St.nil w aR
 refine sr (wm Z (fq H0 (vs:= [.s Ah nh ch,.b I.big,.s Al nl cl,.s Ap np cp,.s As ns cs,.s Ai ni ci]) Z Z (fun g1 w2 bz H3=>wm Z (fq H3 (vs:= [.s Bh nh dh,.b I.big,.s Bl nl dl,.s Bp np dp,.s Bs ns ds,.s Bi ni di]) Z Z (fun g4 w5 b0 H6=>av (.b false) Z (wn (ad (sr (wf BE Z (wv Z (H6.ld 1 Z eD Z (.s Ah nh ch) Z) (wf iE Z ?_)))))))))))
 refine wv Z (H6.ld 0 Z eD Z (.s Bh nh dh) Z) (wE [.s Ah nh ch,.s Bh nh dh] BQ Z Z (aa (sL (xs:= [I.h 0,I.h 1,I.h 2,I.h 3,I.h 4,I.h 5,I.h 6]) _ (hh.keep0 H6.keep) (kh.keep0 H6.keep) (by omega)) ?_))
 rintro e w8 ⟨rfl,bd⟩
 have H9:=H6.cal0 bd
 refine⟨_,Z,wv Z (bS Z) (mv (.b false) Z (aX Z Z (ab BD Z) (aX Z Z (H9.ld 1 Z dc Z (.b I.big) Z) (aX Z Z (ab dF Z) (aX Z Z (H9.ld 0 Z dc Z (.b I.big) Z) (aX Z Z (qX (a:=I.big) TU4 Z Z) (wv Z (aD (b:=false) (v:= .b false) Z Z) (mv (.b false) Z (aX Z Z (ab qu Z) (aX Z Z (H9.ld 1 Z uU Z (.s Al nl cl) Z) ?_))))))))))⟩
 refine aX Z Z (aO TL50 Z) (aX Z Z (ab dj Z) (aX Z Z (H9.ld 0 Z dH Z (.s Bl nl dl) Z) (aX Z Z (aO Bj Z) (aX Z Z (cg Z Z (bne_eq_false_iff_eq.2 (Z))) (wv Z (aD (b:=false) (v:= .b false) Z Z) (mv (.b false) Z (aX Z Z (ab jn Z) (aX Z Z (H9.ld 1 Z kL Z (.s Ap np cp) Z) (aX Z Z (aO TL51 Z) (aX Z Z (ab jX Z) (aX Z Z (H9.ld 0 Z m7 Z (.s Bp np dp) Z) ?_)))))))))))
 refine aX Z Z (aO TL30 Z) (aX Z Z (cg Z Z (bne_eq_false_iff_eq.2 (Z))) (wv Z (aD (b:=false) (v:= .b false) Z Z) (mv (.b false) Z (aX Z Z (ab ti Z) (aX Z Z (H9.ld 1 Z ye Z (.s As ns cs) Z) (aX Z Z (aO TL52 Z) (aX Z Z (ab gw Z) (aX Z Z (H9.ld 0 Z gi Z (.s Bs ns ds) Z) (aX Z Z (aO tf Z) (aX Z Z (cg Z Z (bne_eq_false_iff_eq.2 (Z))) (wv Z (aD (b:=false) (v:= .b false) Z Z) ?_)))))))))))
 refine mv (.b false) Z (aX Z Z (ab o9 Z) (aX Z Z (H9.ld 1 Z eE Z (.s Ai ni ci) Z) (aX Z Z (aO l5 Z) (aX Z Z (ab oF Z) (aX Z Z (H9.ld 0 Z eE Z (.s Bi ni di) Z) (aX Z Z (aO l5 Z) (aX Z Z (cg Z Z (bne_eq_false_iff_eq.2 (Z))) (wv Z (aD (b:=false) (v:= .b false) Z Z) (wn (al Z (wk ?_)))))))))))
 refine ad (sr (wf qu Z (wv Z (H9.ld 1 Z uU Z (.s Al nl cl) Z) (wv Z (aO TL50 Z) (mi 0 Z (wn (a6 ?_)))))))
 have L:St w aR [an g1 [.s Ah nh ch,.b I.big,.s Al nl cl,.s Ap np cp,.s As ns cs,.s Ai ni ci] 54,an g4 [.s Bh nh dh,.b I.big,.s Bl nl dl,.s Bp np dp,.s Bs ns ds,.s Bi ni di] 33] w8:=H9.re [1,0]
 refine bA (fun ρ w'=> ∃(i:Nat),ρ 2= .pt g1∧ρ 3= .pt g4∧ρ 66= .s Al nl cl∧ρ 67= .i (↑nl)∧ρ 68= .i ↑i∧i≤nl∧St w aR [an g1 [.s Ah nh ch,.b I.big,.s Al nl cl,.s Ap np cp,.s As ns cs,.s Ai ni ci] 54,an g4 [.s Bh nh dh,.b I.big,.s Bl nl dl,.s Bp np dp,.s Bs ns ds,.s Bi ni di] 33] w') (fun ρ _=>nl+1- nv (ρ 68)) (⟨0,Z,Z,Z,Z,Z,by omega,L⟩) ?_
 rintro aC w4 ⟨i,T,U,M,O,f,bI,H4⟩
 refine sr (wv Z (bR f O) (wn (ad ?_)))
 refine bK Z (fun X=> ?_) (fun X=> ?_)
 ·
  simp only[bx]at X
  refine wk (ad (a6 (ad ?_)))
  have hin:i<nl:=by omega
  obtain⟨x,hx⟩: ∃x,lx[i]? =some x:=⟨lx[i]'(by omega),List.getElem?_eq_getElem _⟩
  obtain⟨y,hy⟩: ∃y,lv[i]? =some y:=⟨lv[i]'(by omega),List.getElem?_eq_getElem _⟩
  obtain⟨⟨Ar,nr,cr,e1,r1⟩,An,nn,cn,e2,r2⟩:=hlo x (List.mem_of_getElem? hx)
  obtain⟨⟨Br,mr,dr,f1,s1⟩,Bn,mn,dn,f2,s2⟩:=klo y (List.mem_of_getElem? hy)
  have aE:=hlr.2 i y x.l hy (iA hlx hx)
  obtain⟨_,gl,ol,el,hcl⟩:=hl.at_ LoadV.len4 hx (by decide)
  obtain⟨_,gm,om,em,hcm⟩:=kl.at_ LoadV.len4 hy (by decide)
  obtain⟨⟨k1,b1,n1,u1⟩,vr,vn⟩:=x
  obtain⟨⟨k2,b2,n2,u2⟩,wr,wn⟩:=y
  obtain⟨q1,q2,q3,hnum⟩:=aE
  dsimp only at e1 e2 f1 f2 r1 r2 s1 s2 q1 q2 q3 hnum
  subst e1;subst e2;subst f1;subst f2;subst q1;subst q2;subst q3
  have hmr:mr=nr:=by rw[←s1.1,←r1.1]
  subst hmr
  have hrA:=r1.1
  subst el;subst em
  refine ae (mg f Z (wv Z (bi i TS50 M f Z (by omega) Z) (wv Z (dQ (cs:= [.i k2,.s Ar mr cr,.str n2,.s An nn cn]) (o:=ol+i*4) hU Z (fun j v hj=>H4.keep.cell (hcl j v hj) (aW _)) Z) (wm Z (aN H4 fk (fun bJ bL be bf=>ai (↑i) Z (ws (eN bf 0 [.i k2,.s Ar mr cr,.str n2,.s An nn cn] Z jE (fun bM a8=> ?_)))))))))
  refine wn (sr (wv Z (ab dj U) (wv Z (a8.ld 2 Z dH Z (.sl gm om nl dl) Z) (mi (↑i) Z (wv Z (bi i TS29 Z Z Z (by omega) Z) (wv Z (dQ (cs:= [.i k2,.s Br mr dr,.str n2,.s Bn mn dn]) (o:=om+i*4) TG74 Z (fun j v hj=>a8.keep.cell (hcm j v hj) (aW _)) Z) (wm Z (aN a8 tH (fun bN bg bh bj=>ws (eN bj 0 [.i k2,.s Br mr dr,.str n2,.s Bn mn dn] Z TZ74 (fun bO d=> ?_)))))))))))
  refine wn (sr (wf kW Z (wv Z (d.ld 1 Z kD Z (.i k2) Z) (wf By Z (wv Z (d.ld 0 Z kD Z (.i k2) Z) (wv Z (cg Z Z (bne_eq_false_iff_eq.2 (Z))) (mv (.b false) Z (aX Z Z (ab lW Z) (aX Z Z (d.ld 1 Z dP Z (.str n2) Z) (aX Z Z (ab Bx Z) (aX Z Z (d.ld 0 Z dP Z (.str n2) Z) ?_)))))))))))
  refine aX Z Z (gj Z Z) (wv Z (aD (b:=false) (v:= .b false) Z Z) (mv (.b false) Z (aX Z Z (ab Bv Z) (aX Z Z (d.ld 1 Z fe Z (.s Ar mr cr) Z) (aX Z Z (fh bB lk l3 Z (xs:=b2) (r1.keep0 d.keep) r1.none0) (aX Z Z (ab xV Z) (aX Z Z (d.ld 0 Z fe Z (.s Br mr dr) Z) (aX Z Z (fh bB lk l3 Z (xs:=b2) (s1.keep0 d.keep) s1.none0) (aX Z Z (gj Z Z) (wv Z (aD (b:=false) (v:= .b false) Z Z) (mv (.b false) Z ?_)))))))))))
  refine aX Z Z (ab kW Z) (aX Z Z (d.ld 1 Z kD Z (.i k2) Z) (aX Z Z (mq Z Z) (aX Z Z (am (v:= .b (k2 !=4)) Z) ?_)))
  generalize Y:(k2 !=4)=bb
  cases bb
  ·
   simp only[bx]at Y
   refine ck Z Z (ck Z Z (ck Z Z (ck Z Z (ck Z Z (ck Z Z (aX Z Z (aD (b:=false) (v:= .b false) Z Z) (wv Z (aD (b:=false) (v:= .b false) Z Z) (wn (al Z (dw (ak ?_)))))))))))
   refine ac (ae (wv Z (aH (k:= .i64) (c:= ↑i+1) f Z (a5 (by omega) (by omega))) (mi (↑i+1) Z (wn ?_))))
   exact⟨⟨i+1,T,U,M,O,Z,by omega,d.re [2,3]⟩,by show nl+1- nv (.i (↑i+1))<nl+1- nv (aC 68);rw[f];simp only[nv];omega⟩
  ·
   simp only[bx]at Y
   have hu:=hnum.resolve_left Y
   subst hu
   have hmn:mn=nn:=by rw[←s2.1,←r2.1]
   subst hmn
   have hnb:=hub _ (List.mem_of_getElem? hx)
   dsimp only at hnb
   rw[r2.1]at hnb
   refine aX Z Z (ab iD Z) (aX Z Z (d.ld 1 Z eD Z (.s An mn cn) Z) (aX Z Z (ab Bw Z) (aX Z Z (d.ld 0 Z eD Z (.s Bn mn dn) Z) (wJ Z Z (ec BQ (args:= [.s An mn cn,.s Bn mn dn]) Z (aa (sL (xs:=u2) _ (r2.keep0 d.keep) (s2.keep0 d.keep) (by omega)) ?_))))))
   rintro e bP ⟨rfl,aF⟩
   have W:=d.cal0 aF
   refine⟨_,Z,aX Z Z (bS Z) (aX Z Z (aD (b:=true) (v:= .b false) Z Z) (wv Z (aD (b:=false) (v:= .b false) Z Z) (wn (al Z (dw (ak (ac (ae (wv Z (aH (k:= .i64) (c:= ↑i+1) f Z (a5 (by omega) (by omega))) (mi (↑i+1) Z ?_))))))))))⟩
   refine wn ?_
   exact⟨⟨i+1,T,U,M,O,Z,by omega,W.re [2,3]⟩,by show nl+1- nv (.i (↑i+1))<nl+1- nv (aC 68);rw[f];simp only[nv];omega⟩
 ·
  simp only[bx]at X
  refine bq (ar (ar (aQ (ac (ad (sr (wv Z (ab jn T) (wv Z (H4.ld 0 Z kL Z (.s Ap np cp) Z) (wv Z (aO TL51 Z) (mi 0 Z (wn ?_)))))))))))
  refine a6 ?_
  have aG:St w aR [an g1 [.s Ah nh ch,.b I.big,.s Al nl cl,.s Ap np cp,.s As ns cs,.s Ai ni ci] 54,an g4 [.s Bh nh dh,.b I.big,.s Bl nl dl,.s Bp np dp,.s Bs ns ds,.s Bi ni di] 33] w4:=H4.re [0,1]
  refine bA (fun ρ w'=> ∃(i:Nat),ρ 2= .pt g1∧ρ 3= .pt g4∧ρ 114= .s Ap np cp∧ρ 115= .i (↑np)∧ρ 116= .i ↑i∧i≤np∧St w aR [an g1 [.s Ah nh ch,.b I.big,.s Al nl cl,.s Ap np cp,.s As ns cs,.s Ai ni ci] 54,an g4 [.s Bh nh dh,.b I.big,.s Bl nl dl,.s Bp np dp,.s Bs ns ds,.s Bi ni di] 33] w') (fun ρ _=>np+1- nv (ρ 116)) (⟨0,T,U,Z,Z,Z,by omega,aG⟩) ?_
  rintro aI bk ⟨i,P,Q,A,B,g,b7,a3⟩
  refine sr (wv Z (bR g B) (wn (ad ?_)))
  refine bK Z (fun af=> ?_) (fun af=> ?_)
  ·
   simp only[bx]at af
   refine wk (ad (a6 (ad ?_)))
   have hin:i<np:=by omega
   obtain⟨x,hx⟩: ∃x,ps[i]? =some x:=⟨ps[i]'(by omega),List.getElem?_eq_getElem _⟩
   obtain⟨y,hy⟩: ∃y,pv[i]? =some y:=⟨pv[i]'(by omega),List.getElem?_eq_getElem _⟩
   obtain⟨⟨An,nn,cn,e1,r1⟩,⟨Ar,nr,cr,e2,r2⟩,Ad,nd,cd,e3,r3⟩:=hpo x (List.mem_of_getElem? hx)
   obtain⟨⟨Bn,mn,dn,f1,s1⟩,⟨Br,mr,dr,f2,s2⟩,Bd,md,dd,f3,s3⟩:=kpo y (List.mem_of_getElem? hy)
   have hxy:y.p=x.p:=Option.some.inj ((iA kpm hy).symm.trans (iA hpx hx))
   obtain⟨_,gl,ol,el,hcl⟩:=hp.at_ PartV.len6 hx (by decide)
   obtain⟨_,gm,om,em,hcm⟩:=kp.at_ oO hy (by decide)
   have hrb:=hrbd x.p (List.mem_of_getElem? (iA hpx hx))
   obtain⟨pd,vn,vr,vd⟩:=x
   obtain⟨pe,wn,wr,wd⟩:=y
   dsimp only at hxy e1 e2 e3 f1 f2 f3 r1 r2 r3 s1 s2 s3 hrb
   subst hxy;subst e1;subst e2;subst e3;subst f1;subst f2;subst f3
   have q1:=r1.1
   have q2:=s1.1
   obtain rfl:mn=nn:=by omega
   have q3:=RV.len r2 fC (by decide)
   have q4:=RV.len s2 fC (by decide)
   obtain rfl:mr=nr:=by omega
   have q5:=r3.1
   have q6:=s3.1
   obtain rfl:md=nd:=by omega
   have bl:=hpn _ (List.mem_of_getElem? (iA hpx hx))
   dsimp only at bl
   subst el;subst em
   refine ae (mg g Z (wv Z (bi i TS51 A g Z (by omega) Z) (wv Z (dQ (cs:= [.str pe.name,.str pe.seg,.s An mn cn,.s Ar mr cr,.s Ad md cd,.b pe.ok]) (o:=ol+i*6) TG99 Z (fun j v hj=>a3.keep.cell (hcl j v hj) (aW _)) Z) (wm Z (aN a3 yJ (fun a4 bQ bm bn=>ai (↑i) Z (ws (eN bn 0 [.str pe.name,.str pe.seg,.s An mn cn,.s Ar mr cr,.s Ad md cd,.b pe.ok] Z TZ99 (fun bT a9=> ?_)))))))))
   refine wn (sr (wv Z (ab jX Q) (wv Z (a9.ld 2 Z m7 Z (.sl gm om np dp) Z) (mi (↑i) Z (wv Z (bi i TS30 Z Z Z (by omega) Z) (wv Z (dQ (cs:= [.str pe.name,.str pe.seg,.s Bn mn dn,.s Br mr dr,.s Bd md dd,.b (!pe.ok)]) (o:=om+i*6) kU Z (fun j v hj=>a9.keep.cell (hcm j v hj) (aW _)) Z) (wm Z (aN a9 dg (fun a7 bU bo bp=>ws (eN bp 0 [.str pe.name,.str pe.seg,.s Bn mn dn,.s Br mr dr,.s Bd md dd,.b (!pe.ok)] Z ex (fun bV m=> ?_)))))))))))
   refine wn (ad (sr (wf Bm Z (wv Z (m.ld 1 Z dc Z (.b pe.ok) Z) (wf o8 Z (wv Z (m.ld 0 Z dc Z (.b (!pe.ok)) Z) (wv Z (rc (a:=pe.ok) TU4 Z Z) (mv (.b false) Z (aX Z Z (ab Bu Z) (aX Z Z (m.ld 1 Z dP Z (.str pe.name) Z) (aX Z Z (ab B2 Z) ?_)))))))))))
   refine aX Z Z (m.ld 0 Z dP Z (.str pe.name) Z) (aX Z Z (gj Z Z) (wv Z (aD (b:=false) (v:= .b false) Z Z) (mv (.b false) Z (aX Z Z (ab Bt Z) (aX Z Z (m.ld 1 Z dP Z (.str pe.seg) Z) (aX Z Z (ab B0 Z) (aX Z Z (m.ld 0 Z dP Z (.str pe.seg) Z) (aX Z Z (gj Z Z) (wv Z (aD (b:=false) (v:= .b false) Z Z) (mv (.b false) Z (aX Z Z (ab Bq Z) ?_)))))))))))
   refine aX Z Z (m.ld 1 Z eD Z (.s An mn cn) Z) (aX Z Z (ab Bz Z) (aX Z Z (m.ld 0 Z eD Z (.s Bn mn dn) Z) (wJ Z Z (ec BQ (args:= [.s An mn cn,.s Bn mn dn]) Z (aa (sL (xs:=pe.nums) _ (r1.keep0 m.keep) (s1.keep0 m.keep) (by omega)) ?_)))))
   rintro e br ⟨rfl,aJ⟩
   have C:=m.cal0 aJ
   refine⟨_,Z,aX Z Z (bS Z) (wv Z (aD (b:=false) (v:= .b false) Z Z) (mv (.b false) Z (aX Z Z (ab Bo Z) (aX Z Z (C.ld 1 Z fe Z (.s Ad md cd) Z) (aX Z Z (fh bB lk l3 Z (xs:=pe.data) (r3.keep0 C.keep) r3.none0) (aX Z Z (ab th Z) (aX Z Z (C.ld 0 Z fe Z (.s Bd md dd) Z) (aX Z Z (fh bB lk l3 Z (xs:=pe.data) (s3.keep0 C.keep) s3.none0) (aX Z Z (gj Z Z) (wv Z (aD (b:=false) (v:= .b false) Z Z) ?_))))))))))⟩
   refine mv (.b false) Z (aX Z Z (ab tg Z) (aX Z Z (C.ld 1 Z yc Z (.s Ar mr cr) Z) (aX Z Z (aO TL97 Z) (aX Z Z (ab lX Z) (aX Z Z (C.ld 0 Z pM Z (.s Br mr dr) Z) (aX Z Z (aO TL65 Z) (aX Z Z (cg Z Z (bne_eq_false_iff_eq.2 (Z))) (wv Z (aD (b:=false) (v:= .b false) Z Z) (wn (al Z (wk ?_)))))))))))
   refine sr (wf tg Z (wv Z (C.ld 1 Z yc Z (.s Ar mr cr) Z) (wv Z (aO TL97 Z) (mi 0 Z (wn (a6 ?_))))))
   have aK:St w aR [an g1 [.s Ah nh ch,.b I.big,.s Al nl cl,.sl gl ol np cp,.s As ns cs,.s Ai ni ci] 54,an g4 [.s Bh nh dh,.b I.big,.s Bl nl dl,.sl gm om np dp,.s Bs ns ds,.s Bi ni di] 33,an a4 [.str pe.name,.str pe.seg,.s An mn cn,.s Ar mr cr,.s Ad md cd,.b pe.ok] 99,an a7 [.str pe.name,.str pe.seg,.s Bn mn dn,.s Br mr dr,.s Bd md dd,.b (!pe.ok)] 72] br:=C.re [2,3,1,0]
   refine bA (fun ρ w'=> ∃(j:Nat),ρ 2= .pt g1∧ρ 3= .pt g4∧ρ 9= .pt a4∧ρ 10= .pt a7∧ρ 114= .sl gl ol np cp∧ρ 115= .i (↑np)∧ρ 116= .i (↑i)∧ρ 172= .s Ar mr cr∧ρ 173= .i (↑mr)∧ρ 174= .i ↑j∧j≤mr∧St w aR [an g1 [.s Ah nh ch,.b I.big,.s Al nl cl,.sl gl ol np cp,.s As ns cs,.s Ai ni ci] 54,an g4 [.s Bh nh dh,.b I.big,.s Bl nl dl,.sl gm om np dp,.s Bs ns ds,.s Bi ni di] 33,an a4 [.str pe.name,.str pe.seg,.s An mn cn,.s Ar mr cr,.s Ad md cd,.b pe.ok] 99,an a7 [.str pe.name,.str pe.seg,.s Bn mn dn,.s Br mr dr,.s Bd md dd,.b (!pe.ok)] 72] w') (fun ρ _=>mr+1- nv (ρ 174)) (⟨0,P,Q,Z,Z,A,B,g,Z,Z,Z,by omega,aK⟩) ?_
   rintro aL bg ⟨j,ah,aj,ao,V,D,E,F,ap,G,u,b8,aM⟩
   refine sr (wv Z (bR u G) (wn (ad ?_)))
   refine bK Z (fun aq=> ?_) (fun aq=> ?_)
   ·
    simp only[bx]at aq
    refine wk (ad (a6 (ad ?_)))
    have hjn:j<mr:=by omega
    obtain⟨rr,hrr⟩: ∃r,pe.rels[j]? =some r:=⟨pe.rels[j]'(by omega),List.getElem?_eq_getElem _⟩
    obtain⟨_,gr,or_,er,hcr⟩:=r2.at_ fC hrr (by decide)
    obtain⟨_,gs,os,es,hcs⟩:=s2.at_ fC hrr (by decide)
    subst er;subst es
    refine ae (mg u Z (ai (↑j) Z (wn (ad ?_))))
    have L:=aM.drew
    refine aU MX (fun w'=>w'.cell? ⟨a4,3,none⟩=some (.sl gr or_ mr cr)∧w'.cell? ⟨a7,3,none⟩=some (.sl gs os mr dr)∧(∀k v,(Rel.cells rr)[k]? =some v → w'.cell? ⟨gr,or_+j*7+k,none⟩=some v)∧(∀k v,(Rel.cells rr)[k]? =some v → w'.cell? ⟨gs,os+j*7+k,none⟩=some v)) (tr 0 10 (Pl.run 10 (Pl.take 11 Pl.done))) (by kernel_rfl) (⟨L.c 2 3 Z Z,L.c 3 3 Z Z,fun k v hk=>L.keep.cell (hcr k v hk) (aW _),fun k v hk=>L.keep.cell (hcs k v hk) (aW _)⟩) (qy Z (ab (o:=0) tg ao) (qh Z (fun hS=>ag yc Z hS.1) (qm (.i (↑j)) Z Z (qy Z (bi j TS97 Z Z Z (by omega) Z) (qh Z (fun hS=>dQ (cs:= [.w rr.addr,.w rr.value,.e rr.type,.e rr.len,.b rr.pcrel,.b rr.extern,.b rr.scattered]) (o:=or_+j*7) TG101 Z (hS.2.2.1) Z) (qy Z (ab (o:=0) lX V) (qh Z (fun hS=>ag pM Z hS.2.1) (qm (.i (↑j)) Z Z (qy Z (bi j TS65 Z Z Z (by omega) Z) (qh Z (fun hS=>dQ (cs:= [.w rr.addr,.w rr.value,.e rr.type,.e rr.len,.b rr.pcrel,.b rr.extern,.b rr.scattered]) (o:=os+j*7) yM Z (hS.2.2.2) Z) (qr Z ?_)))))))))))
    refine ec CK37 (args:= [.agg #[.w rr.addr,.w rr.value,.e rr.type,.e rr.len,.b rr.pcrel,.b rr.extern,.b rr.scattered],.agg #[.w rr.addr,.w rr.value,.e rr.type,.e rr.len,.b rr.pcrel,.b rr.extern,.b rr.scattered]]) Z (aa (vz (r:=rr) _) ?_)
    rintro e bW ⟨rfl,aS⟩
    have au:=L.cal0 aS
    refine⟨_,Z,⟨⟨au.c 2 3 Z Z,au.c 3 3 Z Z,fun k v hk=>au.keep.cell (hcr k v hk) (aW _),fun k v hk=>au.keep.cell (hcs k v hk) (aW _)⟩,fun _=>trivial,qy Z (bS Z) (pn (al Z (dw (ak (ac (ae (wv Z (aH (k:= .i64) (c:= ↑j+1) u Z (a5 (by omega) (by omega))) (mi (↑j+1) Z (wn ?_)))))))))⟩⟩
    exact⟨⟨j+1,ah,aj,ao,V,D,E,F,ap,G,Z,by omega,au.re [0,1,2,3]⟩,by show mr+1- nv (.i (↑j+1))<mr+1- nv (aL 174);rw[u];simp only[nv];omega⟩
   ·
    simp only[bx]at aq
    refine bq (ar (ar (aQ (ak (ac (ae (wv Z (aH (k:= .i64) (c:= ↑i+1) F Z (a5 (by omega) (by omega))) (mi (↑i+1) Z (wn ?_)))))))))
    exact⟨⟨i+1,ah,aj,D,E,Z,by omega,aM.re [0,1]⟩,by show np+1- nv (.i (↑i+1))<np+1- nv (aI 116);rw[g];simp only[nv];omega⟩
  ·
   simp only[bx]at af
   refine bq (ar (ar (aQ (ac (ad (sr (wv Z (ab ti P) (wv Z (a3.ld 0 Z ye Z (.s As ns cs) Z) (wv Z (aO TL52 Z) (mi 0 Z (wn ?_)))))))))))
   refine a6 ?_
   have aT:St w aR [an g1 [.s Ah nh ch,.b I.big,.s Al nl cl,.s Ap np cp,.s As ns cs,.s Ai ni ci] 54,an g4 [.s Bh nh dh,.b I.big,.s Bl nl dl,.s Bp np dp,.s Bs ns ds,.s Bi ni di] 33] bk:=a3.re [0,1]
   refine bA (fun ρ w'=> ∃(i:Nat),ρ 2= .pt g1∧ρ 3= .pt g4∧ρ 192= .s As ns cs∧ρ 193= .i (↑ns)∧ρ 194= .i ↑i∧i≤ns∧St w aR [an g1 [.s Ah nh ch,.b I.big,.s Al nl cl,.s Ap np cp,.s As ns cs,.s Ai ni ci] 54,an g4 [.s Bh nh dh,.b I.big,.s Bl nl dl,.s Bp np dp,.s Bs ns ds,.s Bi ni di] 33] w') (fun ρ _=>ns+1- nv (ρ 194)) (⟨0,P,Q,Z,Z,Z,by omega,aT⟩) ?_
   rintro aV bs ⟨i,R,S,H,J,n,b9,W⟩
   refine sr (wv Z (bR n J) (wn (ad ?_)))
   refine bK Z (fun aw=> ?_) (fun aw=> ?_)
   ·
    simp only[bx]at aw
    refine wk (ad (a6 (ad ?_)))
    have hin:i<ns:=by omega
    obtain⟨y,hy⟩: ∃y,I.syms[i]? =some y:=⟨I.syms[i]'(by omega),List.getElem?_eq_getElem _⟩
    obtain⟨_,gl,ol,el,hcl⟩:=hs.at_ Sym.len5 hy (by decide)
    obtain⟨_,gm,om,em,hcm⟩:=ks.at_ Sym.len5 hy (by decide)
    subst el;subst em
    refine ae (mg n Z (wv Z (bi i TS52 H n Z (by omega) Z) (wv Z (dQ (cs:= [.str y.name,.e y.type,.e y.sect,.h y.desc,.q y.value]) (o:=ol+i*5) TG102 Z (fun j v hj=>W.keep.cell (hcl j v hj) (aW _)) Z) (wm Z (aN W xL (fun bX bY bt bu=>ai (↑i) Z (ws (eN bu 0 [.str y.name,.e y.type,.e y.sect,.h y.desc,.q y.value] Z TZ102 (fun bZ aB=> ?_)))))))))
    refine wn (sr (wv Z (ab gw S) (wv Z (aB.ld 2 Z gi Z (.sl gm om ns ds) Z) (mi (↑i) Z (wv Z (bi i TS31 Z Z Z (by omega) Z) (wv Z (dQ (cs:= [.str y.name,.e y.type,.e y.sect,.h y.desc,.q y.value]) (o:=om+i*5) xQ Z (fun j v hj=>aB.keep.cell (hcm j v hj) (aW _)) Z) (wm Z (aN aB kw (fun ca cb bv bw=>ws (eN bw 0 [.str y.name,.e y.type,.e y.sect,.h y.desc,.q y.value] Z vQ (fun cc t=> ?_)))))))))))
    refine wn (sr (wf zl Z (wv Z (t.ld 1 Z dP Z (.str y.name) Z) (wf jm Z (wv Z (t.ld 0 Z dP Z (.str y.name) Z) (wv Z (gj Z Z) (mv (.b false) Z (aX Z Z (ab zk Z) (aX Z Z (t.ld 1 Z dq Z (.e y.type) Z) (aX Z Z (ab xU Z) (aX Z Z (t.ld 0 Z dq Z (.e y.type) Z) ?_)))))))))))
    refine aX Z Z (cg Z Z (bne_eq_false_iff_eq.2 (Z))) (wv Z (aD (b:=false) (v:= .b false) Z Z) (mv (.b false) Z (aX Z Z (ab zj Z) (aX Z Z (t.ld 1 Z dq Z (.e y.sect) Z) (aX Z Z (ab xT Z) (aX Z Z (t.ld 0 Z dq Z (.e y.sect) Z) (aX Z Z (cg Z Z (bne_eq_false_iff_eq.2 (Z))) (wv Z (aD (b:=false) (v:= .b false) Z Z) (mv (.b false) Z (aX Z Z (ab zi Z) (aX Z Z (t.ld 1 Z iF Z (.h y.desc) Z) ?_)))))))))))
    refine aX Z Z (ab xS Z) (aX Z Z (t.ld 0 Z iF Z (.h y.desc) Z) (aX Z Z (cg Z Z (bne_eq_false_iff_eq.2 (Z))) (wv Z (aD (b:=false) (v:= .b false) Z Z) (mv (.b false) Z (aX Z Z (ab zh Z) (aX Z Z (t.ld 1 Z aP Z (.q y.value) Z) (aX Z Z (ab xR Z) (aX Z Z (t.ld 0 Z aP Z (.q y.value) Z) (aX Z Z (cg Z Z (bne_eq_false_iff_eq.2 (Z))) (wv Z (aD (b:=false) (v:= .b false) Z Z) (wn ?_)))))))))))
    refine al Z (dw (ak (ac (ae (wv Z (aH (k:= .i64) (c:= ↑i+1) n Z (a5 (by omega) (by omega))) (mi (↑i+1) Z (wn ?_)))))))
    exact⟨⟨i+1,R,S,H,J,Z,by omega,t.re [2,3]⟩,by show ns+1- nv (.i (↑i+1))<ns+1- nv (aV 194);rw[n];simp only[nv];omega⟩
   ·
    simp only[bx]at aw
    refine bq (ar (ar (aQ (ac (ad (sr (wv Z (ab o9 R) (wv Z (W.ld 0 Z eE Z (.s Ai ni ci) Z) (wv Z (aO l5 Z) (mi 0 Z (wn ?_)))))))))))
    refine a6 ?_
    have aZ:St w aR [an g1 [.s Ah nh ch,.b I.big,.s Al nl cl,.s Ap np cp,.s As ns cs,.s Ai ni ci] 54,an g4 [.s Bh nh dh,.b I.big,.s Bl nl dl,.s Bp np dp,.s Bs ns ds,.s Bi ni di] 33] bs:=W.re [0,1]
    refine bA (fun ρ w'=> ∃(i:Nat),ρ 2= .pt g1∧ρ 3= .pt g4∧ρ 239= .s Ai ni ci∧ρ 240= .i (↑ni)∧ρ 241= .i ↑i∧i≤ni∧St w aR [an g1 [.s Ah nh ch,.b I.big,.s Al nl cl,.s Ap np cp,.s As ns cs,.s Ai ni ci] 54,an g4 [.s Bh nh dh,.b I.big,.s Bl nl dl,.s Bp np dp,.s Bs ns ds,.s Bi ni di] 33] w') (fun ρ _=>ni+1- nv (ρ 241)) (⟨0,R,S,Z,Z,Z,by omega,aZ⟩) ?_
    rintro ba ce ⟨i,ay,az,a0,K,z,bC,bc⟩
    refine sr (wv Z (bR z K) (wn (ad ?_)))
    refine bK Z (fun a1=> ?_) (fun a1=> ?_)
    ·
     simp only[bx]at a1
     refine wk (ad (a6 (ad ?_)))
     have hin:i<ni:=by omega
     obtain⟨gl,ol,el,hcl⟩:=hi.at_ hin
     obtain⟨gm,om,em,hcm⟩:=ki.at_ hin
     subst el;subst em
     refine ae (mg z Z (ai (↑i) Z (wn (ad ?_))))
     have a2:=bc.drew
     refine aU MX (fun w'=>w'.cell? ⟨g1,5,none⟩=some (.sl gl ol ni ci)∧w'.cell? ⟨g4,5,none⟩=some (.sl gm om ni di)∧w'.cell? ⟨gl,ol+i,none⟩=some (.w (I.ind.getD i 0))∧w'.cell? ⟨gm,om+i,none⟩=some (.w (I.ind.getD i 0))) (tr 0 11 Pl.done) (by kernel_rfl) (⟨a2.c 0 5 Z Z,a2.c 1 5 Z Z,a2.kc hcl,a2.kc hcm⟩) (qy Z (ab (o:=0) o9 ay) (qh Z (fun hS=>ag eE Z hS.1) (qm (.i (↑i)) Z Z (qy Z (bi i pk Z Z Z (by omega) (by rw[Nat.mul_one])) (qh Z (fun hS=>ag ax Z hS.2.2.1) (qy Z (ab (o:=0) oF az) (qh Z (fun hS=>ag eE Z hS.2.1) (qm (.i (↑i)) Z Z (qy Z (bi i pk Z Z Z (by omega) (by rw[Nat.mul_one])) (qh Z (fun hS=>ag ax Z hS.2.2.2) (qy Z (cg (k:= .u32) (a:=I.ind.getD i 0) (b:=I.ind.getD i 0) (c:=false) Z Z (bne_eq_false_iff_eq.2 (Z))) ?_)))))))))))
     refine pn (al Z (dw (ak (ac (ae (wv Z (aH (k:= .i64) (c:= ↑i+1) z Z (a5 (by omega) (by omega))) (mi (↑i+1) Z (wn ?_))))))))
     exact⟨⟨i+1,ay,az,a0,K,Z,by omega,a2.re [0,1]⟩,by show ni+1- nv (.i (↑i+1))<ni+1- nv (ba 241);rw[z];simp only[nv];omega⟩
    ·
     simp only[bx]at a1
     refine bq (ar (ar (aQ (ac (sr (av (.b true) Z (wn (aY ?_))))))))
     exact⟨.inr Z,_,r1 (.b true) Z _ _,⟨Z,bc.sub (List.nil_sublist _)⟩⟩
theorem CK12:bg Tryd.prog 12:=aL (by kernel_rfl)
theorem BT:bg Tryd.prog 13:=aL (by kernel_rfl)
theorem CK14:bg Tryd.prog 14:=aL (by kernel_rfl)
theorem CK7:bg Tryd.prog 7:=aL (by kernel_rfl)
theorem sk{N C:Nat}{A:Option Addr}(w:World)(hN:N<28):
 Calls Tryd.prog 12 #[.s A N C] w fun e w'=>e= .returned (.tuple #[.agg (List.toArray [.ns,.b false,.ns,.ns,.ns,.ns]),.i 1])∧St w aR [] w':=by
 refine aA (args:= [.s A N C]) Tryd.func12 Z Z Z ?_
 have H0:=St.nil w aR
 refine sr (wm Z (aN H0 fF (fun g1 w2 a H3=>ai 0 Z (wn (ad (sr (mv (.s A N C) Z (wv Z (aO bU Z) (wv Z (bj Z Z (decide_eq_true (by omega))) (wn (aB Z ?_)))))))))))
 refine sr (wv Z (yb (ps:= []) (cells:=#[.ns,.b false,.ns,.ns,.ns,.ns]) Z (by kernel_rfl)) (ws (eN H3 0 [.ns,.b false,.ns,.ns,.ns,.ns] Z jw (fun w5 H4=> ?_))))
 refine ai 1 Z (wn (rq ?_))
 exact⟨.inr Z,_,fy Z kV (by exact Z) (H4.g 0 Z) Z (by exact Z),⟨Z,H4.sub (List.nil_sublist _)⟩⟩
theorem sM{N C:Nat}{A:Option Addr}{xs:List Int}{a0 a1:Addr}(w:World)(hG:Glob 224 w a0 a1)(hNC:N≤C)(hN:N<10485760)(hr:RI .u8 w A N xs)(hby:Byt xs)(hw4:4≤w.heap.size):
 Calls Tryd.prog 7 #[.s A N C] w fun e w'=>e= .returned (.b true)∧St w aR [] w':=by
 refine aA (args:= [.s A N C]) Tryd.func7 Z Z Z ?_
 have H0:=St.nil w aR
 refine sr (av (.b false) Z (wn (sr (mv (.s A N C) Z (wE [.s A N C] CK12 Z Z ?_)))))
 by_cases hN28:N<28
 ·
  have hnone:iM xs=none:=pY (by rw[hr.1];exact hN28)
  refine aa (sk _ hN28) ?_
  rintro e w1 ⟨rfl,HS⟩
  have H2:=H0.cal0 HS
  refine⟨_,Z,mv (.tuple #[.agg #[.ns,.b false,.ns,.ns,.ns,.ns],.i 1]) Z (we (.agg #[.ns,.b false,.ns,.ns,.ns,.ns]) Z Z (we (.i 1) Z Z (wm Z (aN H2 fF (fun g3 w4 W H5=>ws (eN H5 0 [.ns,.b false,.ns,.ns,.ns,.ns] Z jw (fun w7 H6=> ?_)))))))⟩
  refine ai 1 Z (wn (ad (sr (mi 1 Z (wv Z (aT (c:=false) Z Z Z) (wn (al Z (wk (sr (mv (.s A N C) Z (wE [.s A N C] BT Z Z ?_)))))))))))
  have hks:=H6.keep.size
  refine aa (ke _ (hG.keep H6.keep fun k hk=>hk.elim) hNC hN (hr.keep0 H6.keep) hby (by omega)) ?_
  rintro e w8 (⟨I2,a,c9,D9,rfl,d,hsm,hf⟩|⟨a,rfl,p⟩)
  ·
   rw[hnone]at a;cases a
  ·
   have d:=fQ p
   have H9:=H6.cal0 d
   refine⟨_,Z,mv (.tuple #[.agg #[.ns,.b false,.ns,.ns,.ns,.ns],.b false]) Z (we (.agg #[.ns,.b false,.ns,.ns,.ns,.ns]) Z Z (we (.b false) Z Z (wm Z (aN H9 jD (fun X Y u x=>ws (eN x 0 [.ns,.b false,.ns,.ns,.ns,.ns] Z o1 (fun ab y=> ?_)))))))⟩
   refine av (.b false) Z (wn (ad (sr (mi 1 Z (wv Z (aT (c:=true) Z Z Z) (wn (aB Z (sr (mv (.b false) Z (wv Z (bS Z) (av (.b true) Z ?_)))))))))))
   refine wn (rq ?_)
   exact⟨.inr Z,_,r1 (.b true) Z _ _,⟨Z,y.sub (List.nil_sublist _)⟩⟩
 ·
  obtain⟨gb,ob,rfl,hcell⟩:=hr.2 (by omega)
  have hgb:gb<w.heap.size:=World.block_lt_of_cell? _ _ (hcell 0 (by omega))
  refine aa (sm _ (hr.keep0 H0.keep) hby hNC hN (Nat.lt_of_lt_of_le hgb H0.keep.size)) ?_
  rintro e w1 (⟨I,c,D,hI,rfl,HS,hsp⟩|⟨a1,n1,c1,b,a2,n2,c2,a3,n3,c3,a4,n5,c4,vi,rfl,⟨_,_,_,hvi⟩,hk⟩|⟨hnone,rfl,hk⟩)
  ·
   obtain⟨vh,vl,vp,vs,vi,lv,pv,rfl,⟨_,_,_,e1,_⟩,⟨_,_,_,e2,_⟩,_,_,⟨_,_,_,e3,_⟩,_,_,⟨_,_,_,e4,_⟩,⟨_,_,_,e5,_⟩⟩:=hsp _ (HS.g 0 rfl) ((hr.keep0 H0.keep).keep0 HS.keep)
   have z:=H0.cal0 HS
   refine⟨_,Z,mv (.tuple #[.agg #[vh,.b I.big,vl,vp,vs,vi],.i 0]) Z (we (.agg #[vh,.b I.big,vl,vp,vs,vi]) Z Z (we (.i 0) Z Z (wm Z (aN z fF (fun ac ae B E=>ws (bE E 0 (vs:= [vh,.b I.big,vl,vp,vs,vi]) (m:=6) Z jw Z Z Z (nl Z) (by simp[Value.oneCell',e1,e2,e3,e4,e5]) (cs':= [vh,.b I.big,vl,vp,vs,vi]) Z (fun af q=> ?_)))))))⟩
   refine ai 0 Z (wn (ad (sr (mi 0 Z (wv Z (aT (c:=false) Z Z Z) (wn (al Z (wk (sr (ms gb ob N C Z (wE [.sl gb ob N C] BT Z Z ?_)))))))))))
   have hks:=q.keep.size
   refine aa (ke _ (hG.keep q.keep fun k hk=>hk.elim) hNC hN (hr.keep0 q.keep) hby (by omega)) ?_
   rintro e ag (⟨I2,a,c9,D9,rfl,d,hsm,hf⟩|⟨a,rfl,p⟩)
   ·
    rw[hI]at a;injection a with a;subst a
    obtain⟨f,h,j,l,n,lx,ps,rfl,⟨_,_,_,d1,_⟩,⟨_,_,_,d2,_⟩,_,_,⟨_,_,_,d3,_⟩,_,_,⟨_,_,_,d4,_⟩,⟨_,_,_,d5,_⟩⟩:=hf _ (d.g 0 rfl)
    have F:=q.cal0 d
    refine⟨_,Z,mv (.tuple #[.agg #[f,.b ((I.told N xs).big),h,j,l,n],.b true]) Z (we (.agg #[f,.b ((I.told N xs).big),h,j,l,n]) Z Z (we (.b true) Z Z (wm Z (aN F jD (fun ah aj G H=>ws (bE H 0 (vs:= [f,.b ((I.told N xs).big),h,j,l,n]) (m:=6) Z o1 Z Z Z (nl Z) (by simp[Value.oneCell',e1,e2,e3,e4,e5,d1,d2,d3,d4,d5]) (cs':= [f,.b ((I.told N xs).big),h,j,l,n]) Z (fun ak o=> ?_)))))))⟩
    refine av (.b true) Z (wn (ad (sr (mi 0 Z (wv Z (aT (c:=false) Z Z Z) (wn (al Z (wk (sr (mv (.b true) Z (mv (.b true) Z ?_)))))))))))
    refine aX Z Z (o.loadA (i:=0) (vs:= [f,.b ((I.told N xs).big),h,j,l,n]) Z o7 Z Z Z) (aX Z Z (o.loadA (i:=2) (vs:= [vh,.b I.big,vl,vp,vs,vi]) Z kV Z Z Z) (wJ Z Z (ec CK14 (args:= [.agg #[f,.b ((I.told N xs).big),h,j,l,n],.agg #[vh,.b I.big,vl,vp,vs,vi]]) Z (aa (vH (I:=I) (N:=N) (xs:=xs) (c1:= [f,.b ((I.told N xs).big),h,j,l,n]) (c2:= [vh,.b I.big,vl,vp,vs,vi]) _ (hf _ (o.g 1 Z)) (hsp _ (o.g 3 Z) (hr.keep0 o.keep)) hsm) ?_))))
    rintro e am ⟨rfl,t⟩
    have J:=o.cal0 t
    refine⟨_,Z,wv Z (aD (b:=true) (v:= .b true) Z Z) (av (.b true) Z (wn (aY ?_)))⟩
    exact⟨.inr Z,_,r1 (.b true) Z _ _,⟨Z,J.sub (List.nil_sublist _)⟩⟩
   ·
    rw[hI]at a;cases a
  ·
   have HS:=fQ hk
   have K:=H0.cal0 HS
   refine⟨_,Z,mv (.tuple #[.agg #[.s a1 n1 c1,.b b,.s a2 n2 c2,.s a3 n3 c3,.s a4 n5 c4,vi],.i 2]) Z (we (.agg #[.s a1 n1 c1,.b b,.s a2 n2 c2,.s a3 n3 c3,.s a4 n5 c4,vi]) Z Z (we (.i 2) Z Z (wm Z (aN K fF (fun an ao L M=>ws (bE M 0 (vs:= [.s a1 n1 c1,.b b,.s a2 n2 c2,.s a3 n3 c3,.s a4 n5 c4,vi]) (m:=6) Z jw Z Z Z (nl Z) (by simp[Value.oneCell',hvi]) (cs':= [.s a1 n1 c1,.b b,.s a2 n2 c2,.s a3 n3 c3,.s a4 n5 c4,vi]) Z (fun ap O=> ?_)))))))⟩
   refine ai 2 Z (wn (ad (sr (mi 2 Z (wv Z (aT (c:=true) Z Z Z) (wn (aB Z (sr (av (.b true) Z (wn (rq ?_)))))))))))
   exact⟨.inr Z,_,r1 (.b true) Z _ _,⟨Z,O.sub (List.nil_sublist _)⟩⟩
  ·
   have HS:=fQ hk
   have P:=H0.cal0 HS
   refine⟨_,Z,mv (.tuple #[.agg #[.ns,.b false,.ns,.ns,.ns,.ns],.i 1]) Z (we (.agg #[.ns,.b false,.ns,.ns,.ns,.ns]) Z Z (we (.i 1) Z Z (wm Z (aN P fF (fun aq ar Q R=>ws (eN R 0 [.ns,.b false,.ns,.ns,.ns,.ns] Z jw (fun au r=> ?_)))))))⟩
   refine ai 1 Z (wn (ad (sr (mi 1 Z (wv Z (aT (c:=false) Z Z Z) (wn (al Z (wk (sr (ms gb ob N C Z (wE [.sl gb ob N C] BT Z Z ?_)))))))))))
   have hks:=r.keep.size
   refine aa (ke _ (hG.keep r.keep fun k hk=>hk.elim) hNC hN (hr.keep0 r.keep) hby (by omega)) ?_
   rintro e aw (⟨I2,a,c9,D9,rfl,d,hsm,hf⟩|⟨a,rfl,p⟩)
   ·
    rw[hnone]at a;cases a
   ·
    have d:=fQ p
    have S:=r.cal0 d
    refine⟨_,Z,mv (.tuple #[.agg #[.ns,.b false,.ns,.ns,.ns,.ns],.b false]) Z (we (.agg #[.ns,.b false,.ns,.ns,.ns,.ns]) Z Z (we (.b false) Z Z (wm Z (aN S jD (fun ax ay T U=>ws (eN U 0 [.ns,.b false,.ns,.ns,.ns,.ns] Z o1 (fun az V=> ?_)))))))⟩
    refine av (.b false) Z (wn (ad (sr (mi 1 Z (wv Z (aT (c:=true) Z Z Z) (wn (aB Z (sr (mv (.b false) Z (wv Z (bS Z) (av (.b true) Z ?_)))))))))))
    refine wn (rq ?_)
    exact⟨.inr Z,_,r1 (.b true) Z _ _,⟨Z,V.sub (List.nil_sublist _)⟩⟩
end Go.Proofs.YtlndedfkgiafhaaDoor
