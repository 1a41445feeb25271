import Derived.Test.YtlndedfkgiafhaaDoorXAF
set_option linter.unusedVariables false
set_option linter.unusedSimpArgs false
set_option maxRecDepth 100000
set_option maxHeartbeats 4000000
namespace Go.Proofs.YtlndedfkgiafhaaDoor
open Go Go.RowKit
structure PSt where
 loads:List LoadD
 secs:List SecD
 syms:Option (List Sym)
 ind:Option (List Int)
def jk(xs:List Int)(off n:Nat):Option (List Int):=if n=0∨off+n≤xs.length then some ((xs.drop off).take n)else none
def eP(wide big:Bool)(ys:List Int):SecD:=
 if wide then⟨aF ((ys.drop 0).take 16),aF ((ys.drop 16).take 16),n8 big (ys.drop 32),(n8 big (ys.drop 40)).toNat,(n4 big (ys.drop 48)).toNat,n4 big (ys.drop 52),n4 big (ys.drop 56),n4 big (ys.drop 60),n4 big (ys.drop 64),[]⟩
 else⟨aF ((ys.drop 0).take 16),aF ((ys.drop 16).take 16),n4 big (ys.drop 32),(n4 big (ys.drop 36)).toNat,(n4 big (ys.drop 40)).toNat,n4 big (ys.drop 44),n4 big (ys.drop 48),n4 big (ys.drop 52),n4 big (ys.drop 56),[]⟩
def et(big:Bool)(xs:List Int)(s:SecD):Option SecD:=
 if s.nreloc.toNat=0 then some {s with rels:= []}else if s.reloff.toNat+s.nreloc.toNat*8≤xs.length then some {s with rels:=bT big s.nreloc.toNat ((xs.drop s.reloff.toNat).take (s.nreloc.toNat*8))}else none
def d7(wide:Bool):Nat:=if wide then 80 else 68
def dN(wide:Bool):Nat:=if wide then 72 else 56
def cG(wide big:Bool)(xs raw:List Int):Nat → Nat → Option (List SecD)
 |0,_=>some []
 |k+1,a=>if raw.length<a+d7 wide then none else match et big xs (eP wide big ((raw.drop a).take (d7 wide)))with
  |none=>none
  |some s=>(cG wide big xs raw k (a+d7 wide)).map (s:: ·)
def ek(wide big:Bool)(ys:List Int):List Int:=
 if wide then[n4 big (ys.drop 0),n4 big (ys.drop 4),n8 big (ys.drop 24),n8 big (ys.drop 32),n8 big (ys.drop 40),n8 big (ys.drop 48),n4 big (ys.drop 56),n4 big (ys.drop 60),n4 big (ys.drop 64),n4 big (ys.drop 68)]
 else[n4 big (ys.drop 0),n4 big (ys.drop 4),n4 big (ys.drop 24),n4 big (ys.drop 28),n4 big (ys.drop 32),n4 big (ys.drop 36),n4 big (ys.drop 40),n4 big (ys.drop 44),n4 big (ys.drop 48),n4 big (ys.drop 52)]
def dk(wide big:Bool)(xs raw:List Int)(s:PSt):Option PSt:=
 if raw.length<dN wide then none else
 match cG wide big xs raw ((ek wide big ((raw.drop 0).take (dN wide))).getD 8 0).toNat (dN wide)with
 |none=>none
 |some l=>if 9223372036854775808≤(ek wide big ((raw.drop 0).take (dN wide))).getD 4 0∨9223372036854775808≤(ek wide big ((raw.drop 0).take (dN wide))).getD 5 0 then none else
  some {s with loads:=s.loads++ [⟨1,raw,aF ((((raw.drop 0).take (dN wide)).drop 8).take 16),ek wide big ((raw.drop 0).take (dN wide))⟩],secs:=s.secs++l}
def ed(big:Bool)(raw:List Int)(s:PSt):Option PSt:=
 if raw.length<12 then none else
 if raw.length≤(n4 big (((raw.drop 0).take 12).drop 8)).toNat then none else
 some {s with loads:=s.loads++ [⟨3,raw,aF (raw.drop (n4 big (((raw.drop 0).take 12).drop 8)).toNat),[]⟩]}
def eZ(big:Bool)(raw:List Int)(s:PSt):Option PSt:=
 if raw.length<24 then none else
 if raw.length≤(n4 big (((raw.drop 0).take 24).drop 8)).toNat then none else
 some {s with loads:=s.loads++ [⟨2,raw,aF (raw.drop (n4 big (((raw.drop 0).take 24).drop 8)).toNat),[n4 big (((raw.drop 0).take 24).drop 12),n4 big (((raw.drop 0).take 24).drop 16),n4 big (((raw.drop 0).take 24).drop 20)]⟩]}
def pP(wide big:Bool)(st sx:List Int)(n:Nat):Option (List Sym):=
 if ∀k,k<n → ¬st.length≤(n4 big (eO wide sx k)).toNat then some (cR wide big st sx n)else none
def dY(wide:Bool):Nat:=if wide then 16 else 12
def bM(wide big:Bool)(xs raw:List Int)(s:PSt):Option PSt:=
 if raw.length<24 then none else
 match jk xs (n4 big (((raw.drop 0).take 24).drop 16)).toNat (n4 big (((raw.drop 0).take 24).drop 20)).toNat with
 |none=>none
 |some st=>match jk xs (n4 big (((raw.drop 0).take 24).drop 8)).toNat (dY wide*(n4 big (((raw.drop 0).take 24).drop 12)).toNat)with
  |none=>none
  |some sx=>match pP wide big st sx (n4 big (((raw.drop 0).take 24).drop 12)).toNat with
   |none=>none
   |some ss=>some {s with loads:=s.loads++ [⟨4,raw,[],[0,0,0,0,0,0]⟩],syms:=some ss}
def vJ(big:Bool)(ys:List Int):List Int:= [n4 big (ys.drop 0),n4 big (ys.drop 4),n4 big (ys.drop 8),n4 big (ys.drop 12),n4 big (ys.drop 16),n4 big (ys.drop 20),n4 big (ys.drop 24),n4 big (ys.drop 28),n4 big (ys.drop 32),n4 big (ys.drop 36),n4 big (ys.drop 40),n4 big (ys.drop 44),n4 big (ys.drop 48),n4 big (ys.drop 52),n4 big (ys.drop 56),n4 big (ys.drop 60),n4 big (ys.drop 64),n4 big (ys.drop 68),n4 big (ys.drop 72),n4 big (ys.drop 76)]
def cX(big:Bool)(xs raw:List Int)(s:PSt):Option PSt:=
 if raw.length<80 then none else
 match s.syms with
 |none=>none
 |some ss=>
  if ss.length<(n4 big (((raw.drop 0).take 80).drop 24)).toNat then none else
  if ss.length<((n4 big (((raw.drop 0).take 80).drop 24)+n4 big (((raw.drop 0).take 80).drop 28))%4294967296).toNat then none else
  match jk xs (n4 big (((raw.drop 0).take 80).drop 56)).toNat (4*(n4 big (((raw.drop 0).take 80).drop 60)).toNat)with
  |none=>none
  |some ds=>some {s with loads:=s.loads++ [⟨5,raw,[],vJ big ((raw.drop 0).take 80)⟩],ind:=some (fp big (n4 big (((raw.drop 0).take 80).drop 60)).toNat ds)}
def mC(raw:List Int)(s:PSt):Option PSt:=some {s with loads:=s.loads++ [⟨0,raw,[],[]⟩]}
def cU(wide big:Bool)(xs:List Int)(cmd:Int)(raw:List Int)(s:PSt):Option PSt:=
 if cmd=2147483676 then ed big raw s else
 if cmd=12 then eZ big raw s else
 if cmd=2 then bM wide big xs raw s else
 if cmd=11 then cX big xs raw s else
 if cmd=1 then dk false big xs raw s else
 if cmd=25 then dk true big xs raw s else
 mC raw s
def gf(wide big:Bool)(xs:List Int):Nat → List Int → PSt → Option PSt
 |0,_,s=>some s
 |k+1,ds,s=>
  if ds.length<8 then none else
  if(n4 big (ds.drop 4)).toNat<8∨ds.length<(n4 big (ds.drop 4)).toNat then none else
  match cU wide big xs (n4 big ds) (ds.take (n4 big (ds.drop 4)).toNat) s with
  |none=>none
  |some s'=>gf wide big xs k (ds.drop (n4 big (ds.drop 4)).toNat) s'
def kQ(xs:List Int):Option Bool:=
 if n4 true xs / 2=2138504551 then some true else if n4 false xs / 2=2138504551 then some false else none
def fM(h0:Int):Bool:=decide (h0=4277009103)
def iM(xs:List Int):Option MF:=
 if xs.length<4 then none else
 match kQ xs with
 |none=>none
 |some big=>
  if xs.length<28 then none else
  match jk xs (if fM (n4 big (xs.drop 0))then 32 else 28) (n4 big (xs.drop 20)).toNat with
  |none=>none
  |some ds=>match gf (fM (n4 big (xs.drop 0))) big xs (n4 big (xs.drop 16)).toNat ds ⟨[],[],none,none⟩with
   |none=>none
   |some s=>some ⟨fun k=>n4 big (xs.drop (4*k)),big,s.loads,s.secs,s.syms.getD [],s.ind.getD []⟩
def LdS(w:World)(vs:List Value)(ls:List LoadD):Prop:=vs.length=ls.length∧∀(i:Nat) (v:Value) (l:LoadD),vs[i]? =some v → ls[i]? =some l → MLoad w v l
def ScS(w:World)(rb:Nat)(gs:List Nat)(ss:List SecD):Prop:=gs.length=ss.length∧∀(i g:Nat) (s:SecD),gs[i]? =some g → ss[i]? =some s → MSec w rb g s
theorem LdS.snoc{w:World}{vs:List Value}{ls:List LoadD}{v:Value}{l:LoadD}(h:LdS w vs ls)(hl:MLoad w v l):LdS w (vs++ [v]) (ls++ [l]):=by
 refine⟨by simp[h.1],fun i v' l' h1 h2=> ?_⟩
 rcases Nat.lt_or_ge i vs.length with hi|hi
 · rw[List.getElem?_append_left hi]at h1
   rw[List.getElem?_append_left (by rw[←h.1];exact hi)]at h2
   exact h.2 i v' l' h1 h2
 · have hil:=(List.getElem?_eq_some_iff.1 h1).1
   have:i=vs.length:=by simp at hil;omega
   subst this
   rw[List.getElem?_append_right (Nat.le_refl _)]at h1
   rw[List.getElem?_append_right (by rw[h.1];exact Nat.le_refl _)]at h2
   simp[h.1]at h1 h2
   subst h1;subst h2;exact hl
theorem ScS.snoc{w:World}{rb:Nat}{gs:List Nat}{ss:List SecD}{g:Nat}{s:SecD}(h:ScS w rb gs ss)(hl:MSec w rb g s):ScS w rb (gs++ [g]) (ss++ [s]):=by
 refine⟨by simp[h.1],fun i v' l' h1 h2=> ?_⟩
 rcases Nat.lt_or_ge i gs.length with hi|hi
 · rw[List.getElem?_append_left hi]at h1
   rw[List.getElem?_append_left (by rw[←h.1];exact hi)]at h2
   exact h.2 i v' l' h1 h2
 · have hil:=(List.getElem?_eq_some_iff.1 h1).1
   have:i=gs.length:=by simp at hil;omega
   subst this
   rw[List.getElem?_append_right (Nat.le_refl _)]at h1
   rw[List.getElem?_append_right (by rw[h.1];exact Nat.le_refl _)]at h2
   simp[h.1]at h1 h2
   subst h1;subst h2;exact hl
theorem tB{l:List Int}{m k i:Nat}(h:k+i<m):((l.take m).drop k).getD i 0=(l.drop k).getD i 0:=by
 simp[List.getD_eq_getElem?_getD,List.getElem?_drop,List.getElem?_take,h]
theorem pH{big:Bool}{l:List Int}{m k:Nat}(h:k+2≤m):n2 big ((l.take m).drop k)=n2 big (l.drop k):=by
 unfold n2;rw[tB (by omega),tB (by omega)]
theorem cE{big:Bool}{l:List Int}{m k:Nat}(h:k+4≤m):n4 big ((l.take m).drop k)=n4 big (l.drop k):=by
 unfold n4;rw[List.drop_drop,List.drop_drop,pH (by omega),pH (by omega),pH (by omega),pH (by omega)]
theorem nH{big:Bool}{l:List Int}{m k:Nat}(h:k+8≤m):n8 big ((l.take m).drop k)=n8 big (l.drop k):=by
 unfold n8;rw[List.drop_drop,List.drop_drop,cE (by omega),cE (by omega),cE (by omega),cE (by omega)]
theorem mw{l:List Int}{m k n:Nat}(h:k+n≤m):((l.take m).drop k).take n=(l.drop k).take n:=by
 rw[List.drop_take,List.take_take,Nat.min_eq_left (by omega)]
def bF(big:Bool):List Int → List Int → List Int
 | [],_=> []
 |v::ws,bs=>if 0<v then qR big bs v.natAbs::bF big ws (bs.drop v.natAbs)else bF big ws (bs.drop v.natAbs)
theorem qd{big:Bool}{ws bs:List Int}(h:bs.length<cF ws):dL big ws bs=none:=by
 induction ws generalizing bs with
 |nil=>simp[cF]at h
 |cons v ws ih=>
  simp only[dL]
  split
  · rfl
  · rw[ih (by rw[List.length_drop];simp only[cF]at h;omega)];rfl
theorem l1{big:Bool}{ws bs:List Int}(h:cF ws≤bs.length):dL big ws bs=some (bF big ws bs):=by
 induction ws generalizing bs with
 |nil=>rfl
 |cons v ws ih=>
  simp only[cF]at h
  simp only[dL,bF]
  rw[if_neg (by omega),ih (by rw[List.length_drop];omega)]
  rfl
def ia(wide:Bool):List Int:=if wide then[4,4,-16,8,8,8,8,4,4,4,4]else[4,4,-16,4,4,4,4,4,4,4,4]
def fU(wide:Bool):List Int:=if wide then[-16,-16,8,8,4,4,4,4,4,4,4,4]else[-16,-16,4,4,4,4,4,4,4,4,4]
def kP(wide:Bool):List Int:=if wide then[4,1,1,2,8]else[4,1,1,2,4]
theorem mD(wide:Bool):cF (ia wide)=dN wide:=by cases wide<;>rfl
theorem mE(wide:Bool):cF (fU wide)=d7 wide:=by cases wide<;>rfl
theorem nG(wide:Bool):cF (kP wide)=dY wide:=by cases wide<;>rfl
theorem l2(l:List Int):l.drop 0=l:=List.drop_zero
theorem acc4'(big:Bool)(l:List Int):qR big l (4:Int).natAbs=n4 big l:=jA big l
theorem AC{big:Bool}{v:Int}{ws bs:List Int}(h:0<v):bF big (v::ws) bs=qR big bs v.natAbs::bF big ws (bs.drop v.natAbs):=by simp[bF,h]
theorem segV(wide big:Bool)(l:List Int):bF big (ia wide) l=ek wide big ((l.drop 0).take (dN wide)):=by
 cases wide
 · show bF big [4,4,-16,4,4,4,4,4,4,4,4] l=ek false big ((l.drop 0).take 56)
   simp only[bF,ek,if_true,if_false,Bool.false_eq_true,l2,jA,vP,show(0:Int)<4 from by decide,show(0:Int)<8 from by decide,show ¬(0:Int)< -16 from by decide,show(4:Int).natAbs=4 from rfl,show(8:Int).natAbs=8 from rfl,show(-16:Int).natAbs=16 from rfl,List.drop_drop]
   rw[cE (k:=4),cE (k:=24),cE (k:=28),cE (k:=32),cE (k:=36),cE (k:=40),cE (k:=44),cE (k:=48),cE (k:=52)]<;>try omega
   have h0:=cE (big:=big) (l:=l) (m:=56) (k:=0) (by omega)
   simp only[l2]at h0
   rw[h0]
 · show bF big [4,4,-16,8,8,8,8,4,4,4,4] l=ek true big ((l.drop 0).take 72)
   simp only[bF,ek,if_true,if_false,Bool.false_eq_true,l2,jA,vP,show(0:Int)<4 from by decide,show(0:Int)<8 from by decide,show ¬(0:Int)< -16 from by decide,show(4:Int).natAbs=4 from rfl,show(8:Int).natAbs=8 from rfl,show(-16:Int).natAbs=16 from rfl,List.drop_drop]
   rw[cE (k:=4),nH (k:=24),nH (k:=32),nH (k:=40),nH (k:=48),cE (k:=56),cE (k:=60),cE (k:=64),cE (k:=68)]<;>try omega
   have h0:=cE (big:=big) (l:=l) (m:=72) (k:=0) (by omega)
   simp only[l2]at h0
   rw[h0]
def vx(s:SecD):List Int:= [s.addr,↑s.size,↑s.off,s.align,s.reloff,s.nreloc,s.flags]
theorem secV(wide big:Bool)(l:List Int)(hb:Byt l):(bF big (fU wide) l).take 7=vx (eP wide big (l.take (d7 wide))):=by
 have b4: ∀k,((n4 big (l.drop k)).toNat:Int)=n4 big (l.drop k):=fun k=>Int.toNat_of_nonneg (ba big (hb.drop k)).1
 have b8: ∀k,((n8 big (l.drop k)).toNat:Int)=n8 big (l.drop k):=fun k=>Int.toNat_of_nonneg (nJ big (hb.drop k)).1
 cases wide
 · show(bF big [-16,-16,4,4,4,4,4,4,4,4,4] l).take 7=vx (eP false big (l.take 68))
   simp only[bF,vx,eP,if_true,if_false,Bool.false_eq_true,l2,jA,vP,show(0:Int)<4 from by decide,show(0:Int)<8 from by decide,show ¬(0:Int)< -16 from by decide,show(4:Int).natAbs=4 from rfl,show(8:Int).natAbs=8 from rfl,show(-16:Int).natAbs=16 from rfl,List.drop_drop]
   rw[cE (k:=32),cE (k:=36),cE (k:=40),cE (k:=44),cE (k:=48),cE (k:=52),cE (k:=56),b4,b4]<;>try omega
   rfl
 · show(bF big [-16,-16,8,8,4,4,4,4,4,4,4,4] l).take 7=vx (eP true big (l.take 80))
   simp only[bF,vx,eP,if_true,if_false,Bool.false_eq_true,l2,jA,vP,show(0:Int)<4 from by decide,show(0:Int)<8 from by decide,show ¬(0:Int)< -16 from by decide,show(4:Int).natAbs=4 from rfl,show(8:Int).natAbs=8 from rfl,show(-16:Int).natAbs=16 from rfl,List.drop_drop]
   rw[nH (k:=32),nH (k:=40),cE (k:=48),cE (k:=52),cE (k:=56),cE (k:=60),cE (k:=64),b8,b4]<;>try omega
   rfl
theorem tC(big:Bool)(n:Nat)(l:List Int):bF big (List.replicate n 4) l=(List.range n).map fun k=>n4 big (l.drop (4*k)):=by
 induction n generalizing l with
 |zero=>rfl
 |succ n ih=>
  rw[List.replicate_succ,AC (by decide),acc4',ih,List.range_succ_eq_map,List.map_cons,List.map_map]
  simp only[Nat.mul_zero,l2,List.drop_drop]
  congr 1
  refine List.map_congr_left fun k _=> ?_
  show n4 big (l.drop ((4:Int).natAbs+4*k))=n4 big (l.drop (4*(k+1)))
  rw[show(4:Int).natAbs+4*k=4*(k+1)from by show 4+4*k= _;omega]
theorem fX(n:Nat):cF (List.replicate n 4)=4*n:=by
 induction n with
 |zero=>rfl
 |succ n ih=>rw[List.replicate_succ];simp only[cF,ih];show 4+4*n= _;omega
theorem fP(s:ByteArray)(pos:Nat):1≤(Utf8.decode s pos).2∧(∀k,0<k → k<(Utf8.decode s pos).2 → 128≤(s.get! (pos+k)).toNat)∧((Utf8.decode s pos).1=46 ↔ (s.get! pos).toNat=46):=by
 have h0:s.get! (pos+0)=s.get! pos:=rfl
 simp only[Utf8.decode,h0]
 by_cases ha:(s.get! pos).toNat<128
 · rw[if_pos ha]
   exact⟨Nat.le_refl _,fun k h1 h2=>absurd h1 (by show ¬0<k;have:k<1:=h2;omega),Iff.rfl⟩
 · rw[if_neg ha]
   have c: ∀k,((decide (pos+k<s.size) && (s.get! (pos+k)).toNat / 64==2)=true) → 128≤(s.get! (pos+k)).toNat:=fun k hk=>by
    simp only[Bool.and_eq_true,beq_iff_eq,decide_eq_true_eq]at hk;omega
   have hb: ¬(s.get! pos).toNat=46:=by omega
   have e: ¬Utf8.runeError=46:=by decide
   split
   · rename_i h
     have h1:=c 1 (by simp only[Bool.and_eq_true]at h ⊢;exact h.2)
     split
     · rename_i hc
       exact⟨by show 1≤2;omega,fun k h2 h3=>by have:k<2:=h3;have h4:k=1:=(by omega);subst h4;exact h1,⟨fun h=>by have:(s.get! pos).toNat%32*64+(s.get! (pos+1)).toNat%64=46:=h;omega,fun h=>absurd h hb⟩⟩
     · exact⟨Nat.le_refl _,fun k h2 h3=>by have:k<1:=h3;omega,⟨fun h=>absurd h e,fun h=>absurd h hb⟩⟩
   · split
     · rename_i h
       have h1:=c 1 (by simp only[Bool.and_eq_true]at h ⊢;exact h.1.2)
       have h2':=c 2 (by simp only[Bool.and_eq_true]at h ⊢;exact h.2)
       split
       · rename_i hc
         simp only[Bool.and_eq_true,ge_iff_le,decide_eq_true_eq]at hc
         exact⟨by show 1≤3;omega,fun k h2 h3=>by
          have:k<3:=h3
          have:k=1∨k=2:=by omega
          rcases this with rfl|rfl<;>assumption,⟨fun h=>by have:(s.get! pos).toNat%16*4096+(s.get! (pos+1)).toNat%64*64+(s.get! (pos+2)).toNat%64=46:=h;omega,fun h=>absurd h hb⟩⟩
       · exact⟨Nat.le_refl _,fun k h2 h3=>by have:k<1:=h3;omega,⟨fun h=>absurd h e,fun h=>absurd h hb⟩⟩
     · split
       · rename_i h
         have h1:=c 1 (by simp only[Bool.and_eq_true]at h ⊢;exact h.1.1.2)
         have h2':=c 2 (by simp only[Bool.and_eq_true]at h ⊢;exact h.1.2)
         have h3':=c 3 (by simp only[Bool.and_eq_true]at h ⊢;exact h.2)
         split
         · rename_i hc
           simp only[Bool.and_eq_true,ge_iff_le,decide_eq_true_eq]at hc
           exact⟨by show 1≤4;omega,fun k h2 h3=>by
            have:k<4:=h3
            have:k=1∨k=2∨k=3:=by omega
            rcases this with rfl|rfl|rfl<;>assumption,⟨fun h=>by have:(s.get! pos).toNat%8*262144+(s.get! (pos+1)).toNat%64*4096+(s.get! (pos+2)).toNat%64*64+(s.get! (pos+3)).toNat%64=46:=h;omega,fun h=>absurd h hb⟩⟩
         · exact⟨Nat.le_refl _,fun k h2 h3=>by have:k<1:=h3;omega,⟨fun h=>absurd h e,fun h=>absurd h hb⟩⟩
       · exact⟨Nat.le_refl _,fun k h2 h3=>by have:k<1:=h3;omega,⟨fun h=>absurd h e,fun h=>absurd h hb⟩⟩
theorem nU{ns:List Int}(hb:Byt ns){i:Nat}(hi:i<ns.length):((strOfNums ns).get! i).toNat=(ns.getD i 0).toNat:=by
 have h:=hb i
 have e:(strOfNums ns).get! i=UInt8.ofNat (ns.getD i 0).toNat:=by
  show(strOfNums ns).data[i]! = _
  simp[strOfNums,hi,List.getD_eq_getElem?_getD]
 rw[e,UInt8.toNat_ofNat']
 omega
theorem kv{ns:List Int}(hb:Byt ns){p:Nat}(hp:p<ns.length)(h: ∀j,j<p → ns.getD j 0=46 → ns.getD 0 0≠95)(hh:(Utf8.decode (strOfNums ns) p).1=46 → ns.getD 0 0≠95):
 ∀j,j<p+(Utf8.decode (strOfNums ns) p).2 → ns.getD j 0=46 → ns.getD 0 0≠95:=by
 obtain⟨h1,h2,h3⟩:=fP (strOfNums ns) p
 intro j hj he
 rcases Nat.lt_or_ge j p with hjp|hjp
 · exact h j hjp he
 · have hjl:j<ns.length:=by
    rcases Nat.lt_or_ge j ns.length with hl|hl
    · exact hl
    · rw[List.getD_eq_getElem?_getD,List.getElem?_eq_none hl]at he;simp at he
   rcases Nat.eq_or_lt_of_le hjp with e|hlt
   · subst e
     exact hh (h3.2 (by rw[nU hb hp,he];rfl))
   · have:=h2 (j- p) (by omega) (by omega)
     rw[show p+(j- p)=j by omega,nU hb hjl,he]at this
     exact absurd this (by decide)
theorem rB{ns:List Int}(hb:Byt ns){p:Nat}(hp:p<ns.length)(hh:(Utf8.decode (strOfNums ns) p).1=46):46 ∈ ns:=by
 have h3:=(fP (strOfNums ns) p).2.2.1 hh
 rw[nU hb hp]at h3
 have:=hb p
 exact ly.2 ⟨p,hp,by omega⟩
theorem oe{ns:List Int}(h: ∀j,j<ns.length → ns.getD j 0=46 → ns.getD 0 0≠95):dZ ns=ns:=by
 unfold dZ
 rw[if_neg]
 rintro⟨h1,h2⟩
 obtain⟨j,hj,e⟩:=ly.1 h1
 exact h j hj e h2
def lz(g:Nat)(s:ByteArray)(p:Nat):Res where
 F:=fun k=>k=g
 φ:=fun w=>w.heap[g]? =some (.stringIter s p)
 live:=fun w k h hk=>by subst hk;exact aG h
 stay:=fun w w' h hk=>(hk g rfl).trans h
section
variable{P:Program}{ρ:dv}{w w0:World}{d:Option Tmp}{ty:TypeId}{pos:String}{af:Array Edge}{gd:Option (Nat × Bool)}{K:dv → World → Prop}{M:Nat → Prop}{L:List Res}
theorem St.newO(h:St w0 M L w)(o:Obj)(r:Res)(hF: ∀k,r.F k ↔ k=w.heap.size)(hφ:r.φ (w.alloc o)):St w0 M (r::L) (w.alloc o):=by
 have hk:Keep w0 M (w.alloc o):=Keep.trans h.keep (M':=aR) ⟨rfl,rfl,rfl,by simp,fun j hj _=>eU _ hj⟩ (fun _ _ hf=>hf.elim)
 refine⟨hk,?_,?_,.cons ?_ h.sep⟩
 · rintro x (_|⟨_,hx⟩)
   · exact hφ
   · exact x.stay w _ (h.all x hx) fun g hg=>eU _ (x.live _ _ (h.all x hx) hg)
 · rintro x (_|⟨_,hx⟩) g hg
   · have hg':=(hF g).1 hg
     exact .inr (by rw[hg'];exact h.keep.size)
   · exact h.own x hx g hg
 · intro s hs g hg hsg
   have hg':=(hF g).1 hg
   have:=s.live _ _ (h.all s hs) hsg
   omega
theorem tE(H:St w0 M L w){t:TypeId}{x:Operand}{s:ByteArray}(ht:P.underlying t=some .string)(hx:ev ρ x= .string s)(h: ∀g w',St w0 M (lz g s 0::L) w' → K (ee ρ d (.pointer (some ⟨g,0,none⟩))) w'):i6 P ⟨d,.range t x,ty,pos,af,gd⟩ ρ w K:=by
 refine ic (v:= .pointer (some ⟨w.heap.size,0,none⟩)) (w':=w.iter s 0) ?_ (h _ _ (H.newO (.stringIter s 0) (lz w.heap.size s 0) (fun _=>Iff.rfl) (World.iter_heap w s 0)))
 unfold Yv
 simp only[execOp,hx]
 rw[Sem.run_bind,run_range_string w t s ht]
 rfl
theorem pR{g p:Nat}{s:ByteArray}(hg:w.heap[g]? =some (.stringIter s p))(hp:p<s.size)(ty:TypeId):
 (Instr.next (.pointer (some ⟨g,0,none⟩)) true ty).run P w= .ok (.tuple #[.bool true,.int .i64 p,.int .i32 (Utf8.decode s p).1]) {w with heap:=w.heap.setIfInBounds g (.stringIter s (p+(Utf8.decode s p).2))}:=by
 simp only[Instr.next,getObj,setObj,Sem.run_bind,Sem.run,hg,Result.andThen,hp,if_true]
 simp[goInt]
theorem pb{g p:Nat}{s:ByteArray}(hg:w.heap[g]? =some (.stringIter s p))(hp: ¬p<s.size)(ty:TypeId):
 (Instr.next (.pointer (some ⟨g,0,none⟩)) true ty).run P w= .ok (.tuple #[.bool false]) w:=by
 simp[Instr.next,getObj,Sem.run,hg,hp]
theorem xf(H:St w0 M L w)(i:Nat){x:Operand}{s:ByteArray}{g p:Nat}(hi:L[i]? =some (lz g s p))(hx:ev ρ x= .pointer (some ⟨g,0,none⟩))(hp:p<s.size){L':List Res}
 (h: ∀w',St w0 M L' w' → K (ee ρ d (.tuple #[.bool true,.int .i64 p,.int .i32 (Utf8.decode s p).1])) w') (hL:L.set i (lz g s (p+(Utf8.decode s p).2))=L':=by first|(simp only[List.set_cons_succ,List.set_cons_zero];rfl)|rfl):i6 P ⟨d,.next x true,ty,pos,af,gd⟩ ρ w K:=by
 subst hL
 have hg:w.heap[g]? =some (.stringIter s p):=H.get hi
 refine ic (w':= {w with heap:=w.heap.setIfInBounds g (.stringIter s (p+(Utf8.decode s p).2))}) ?_ (h _ ?_)
 · unfold Yv
   simp only[execOp,hx]
   rw[Sem.run_bind,pR hg hp]
   rfl
 · have hgl:=aG hg
   refine H.set_ hi (fun _=>Iff.rfl) ?_ ?_ (by simp) ?_
   · show({w with heap:=w.heap.setIfInBounds g (.stringIter s (p+(Utf8.decode s p).2))}:World).heap[g]? = _
     simp[hgl]
   · refine Keep.trans H.keep (M':=fun k=>k=g) ⟨Z,Z,Z,by simp,fun j _ hj=> ?_⟩ ?_
     · show(w.heap.setIfInBounds g _)[j]? =w.heap[j]?
       rw[Array.getElem?_setIfInBounds,if_neg (Ne.symm hj)]
     · rintro j hj rfl
       rcases H.own _ (fW hi) _ rfl with hM|hM
       · exact hM
       · omega
   · intro k _ hk
     show(w.heap.setIfInBounds g _)[k]? =w.heap[k]?
     rw[Array.getElem?_setIfInBounds,if_neg (fun e=>hk e.symm)]
theorem mo(H:St w0 M L w)(i:Nat){x:Operand}{s:ByteArray}{g p:Nat}(hi:L[i]? =some (lz g s p))(hx:ev ρ x= .pointer (some ⟨g,0,none⟩))(hp: ¬p<s.size):Yv P ⟨d,.next x true,ty,pos,af,gd⟩ ρ w (.tuple #[.bool false]) w:=by
 unfold Yv
 simp only[execOp,hx]
 rw[Sem.run_bind,pb (H.get hi) hp]
 rfl
end
section
variable{P:Program}{n:Nat}{Q:QE}{ρ:dv}{w:World}{ops:Array Oper}{S1 S2:World → Prop}{k i d:Nat}{op:Op}{ty:TypeId}{pos:String}{af:Array Edge}{gd:Option (Nat × Bool)}{p:Pl}{b:Bool}
theorem ry(ho:ops[i]? =some ⟨some d,op,ty,pos,af,gd⟩)(hg:dS ⟨some d,op,ty,pos,af,gd⟩ ops ρ n=false)(h2:S2 w)(h1:(b||Nat.beq i k)=false → S1 w)(h:PS P n ops Q S1 S2 k p (b||Nat.beq i k) (j2 ρ d undef) w):PS P n ops Q S1 S2 k (.run i p) b ρ w:=
 ⟨_,ho,.inr ⟨hg,h2,h1,h⟩⟩
end
theorem cc{a a':Value}{l l':List Value}(h:a=a')(h2:l=l'):a::l=a'::l':=by rw[h,h2]
theorem sY{w:World}{g:Nat}{v0 v1 v2 v3 v4 v5:Value}(h0:w.cell? ⟨g,0,none⟩=some v0)(h1:w.cell? ⟨g,1,none⟩=some v1)(h2:w.cell? ⟨g,2,none⟩=some v2)(h3:w.cell? ⟨g,3,none⟩=some v3)(h4:w.cell? ⟨g,4,none⟩=some v4)(h5:w.cell? ⟨g,5,none⟩=some v5):
 ∀j v,[v0,v1,v2,v3,v4,v5][j]? =some v → w.cell? ⟨g,0+j,none⟩=some v:=by
 intro j v hj
 match j,hj with
 |0,hj=>simp at hj;subst hj;exact h0
 |1,hj=>simp at hj;subst hj;exact h1
 |2,hj=>simp at hj;subst hj;exact h2
 |3,hj=>simp at hj;subst hj;exact h3
 |4,hj=>simp at hj;subst hj;exact h4
 |5,hj=>simp at hj;subst hj;exact h5
 |j+6,hj=>simp at hj
theorem xn{w:World}{g:Nat}{v0 v1 v2 v3 v4:Value}(h0:w.cell? ⟨g,0,none⟩=some v0)(h1:w.cell? ⟨g,1,none⟩=some v1)(h2:w.cell? ⟨g,2,none⟩=some v2)(h3:w.cell? ⟨g,3,none⟩=some v3)(h4:w.cell? ⟨g,4,none⟩=some v4):
 ∀j v,[v0,v1,v2,v3,v4][j]? =some v → w.cell? ⟨g,0+j,none⟩=some v:=by
 intro j v hj
 match j,hj with
 |0,hj=>simp at hj;subst hj;exact h0
 |1,hj=>simp at hj;subst hj;exact h1
 |2,hj=>simp at hj;subst hj;exact h2
 |3,hj=>simp at hj;subst hj;exact h3
 |4,hj=>simp at hj;subst hj;exact h4
 |j+5,hj=>simp at hj
theorem nZ(big:Bool)(n W:Nat)(hW:4*n≤W)(l:List Int):bF big (List.replicate n 4) l=(List.range n).map fun k=>n4 big (((l.drop 0).take W).drop (4*k)):=by
 rw[tC]
 refine List.map_congr_left fun k hk=> ?_
 have:=List.mem_range.1 hk
 exact(cE (l:=l.drop 0) (by omega)).symm
theorem nlV(wide big:Bool)(l:List Int):bF big (kP wide) l= [n4 big (l.take (dY wide)),(l.take (dY wide)).getD 4 0,(l.take (dY wide)).getD 5 0,n2 big ((l.take (dY wide)).drop 6),if wide then n8 big ((l.take (dY wide)).drop 8)else n4 big ((l.take (dY wide)).drop 8)]:=by
 have g4: ∀ {m:Nat},16≤m+4 → (l.take m).getD 4 0=l.getD 4 0:=fun {m} h=>by
  have h:4<m:=by omega
  simp[List.getD_eq_getElem?_getD,List.getElem?_take,h]
 have g5: ∀ {m:Nat},16≤m+4 → (l.take m).getD 5 0=l.getD 5 0:=fun {m} h=>by
  have h:5<m:=by omega
  simp[List.getD_eq_getElem?_getD,List.getElem?_take,h]
 have hd: ∀k,(l.drop k).getD 0 0=l.getD k 0:=fun k=>by simp[List.getD_eq_getElem?_getD]
 cases wide
 · show bF big [4,1,1,2,4] l= [n4 big (l.take 12),(l.take 12).getD 4 0,(l.take 12).getD 5 0,n2 big ((l.take 12).drop 6),n4 big ((l.take 12).drop 8)]
   simp only[bF,if_true,jA,vP,acc2,acc1,show(0:Int)<4 from by decide,show(0:Int)<1 from by decide,show(0:Int)<2 from by decide,show(4:Int).natAbs=4 from rfl,show(1:Int).natAbs=1 from rfl,show(2:Int).natAbs=2 from rfl,List.drop_drop,hd]
   rw[g4 (by omega),g5 (by omega),pH (by omega),cE (by omega)]
   have h0:=cE (big:=big) (l:=l) (m:=12) (k:=0) (by omega)
   simp only[l2]at h0
   rw[h0]
 · show bF big [4,1,1,2,8] l= [n4 big (l.take 16),(l.take 16).getD 4 0,(l.take 16).getD 5 0,n2 big ((l.take 16).drop 6),n8 big ((l.take 16).drop 8)]
   simp only[bF,if_true,jA,vP,acc2,acc1,show(0:Int)<4 from by decide,show(0:Int)<8 from by decide,show(0:Int)<1 from by decide,show(0:Int)<2 from by decide,show(4:Int).natAbs=4 from rfl,show(8:Int).natAbs=8 from rfl,show(1:Int).natAbs=1 from rfl,show(2:Int).natAbs=2 from rfl,List.drop_drop,hd]
   rw[g4 (by omega),g5 (by omega),pH (by omega),nH (by omega)]
   have h0:=cE (big:=big) (l:=l) (m:=16) (k:=0) (by omega)
   simp only[l2]at h0
   rw[h0]
theorem rj{wide:Bool}{xs:List Int}{q8 q12 k:Nat}(hk:k<q12):eO wide ((xs.drop q8).take (dY wide*q12)) k=(xs.drop (q8+dY wide*k)).take (dY wide):=by
 have h:dY wide*k+dY wide≤dY wide*q12:=by rw[←Nat.mul_succ];exact Nat.mul_le_mul_left _ hk
 unfold eO
 rw[show(if wide then 16 else 12)=dY wide from rfl,mw h,List.drop_drop]
section
variable{P:Program}{ρ:dv}{w:World}{d:Option Tmp}{ty:TypeId}{pos:String}{af:Array Edge}{gd:Option (Nat × Bool)}
theorem qX{t t':Nat}{x y:Operand}{a:Bool}(ht:P.underlying t=some .bool)(hx:ev ρ x= .bool a)(hy:ev ρ y= .bool a):Yv P ⟨d,.binOp .neq t x y t',ty,pos,af,gd⟩ ρ w (.bool false) w:=by
 have:=sD (P:=P) (w:=w) (d:=d) (ty:=ty) (pos:=pos) (af:=af) (gd:=gd) (t':=t') ht hx hy
 simpa using this
theorem rc{t t':Nat}{x y:Operand}{a:Bool}(ht:P.underlying t=some .bool)(hx:ev ρ x= .bool a)(hy:ev ρ y= .bool (!a)):Yv P ⟨d,.binOp .eql t x y t',ty,pos,af,gd⟩ ρ w (.bool false) w:=by
 have:=j1 (P:=P) (w:=w) (d:=d) (ty:=ty) (pos:=pos) (af:=af) (gd:=gd) (t':=t') ht hx hy
 cases a<;>simpa using this
theorem gj{t t':Nat}{x y:Operand}{a:ByteArray}(hx:ev ρ x= .string a)(hy:ev ρ y= .string a):Yv P ⟨d,.binOp .neq t x y t',ty,pos,af,gd⟩ ρ w (.bool false) w:=by
 have:=ve (P:=P) (w:=w) (d:=d) (ty:=ty) (pos:=pos) (af:=af) (gd:=gd) (t:=t) (t':=t') hx hy
 simpa using this
end
theorem iA{α β:Type}{f:α → β}{xs:List α}{ys:List β}(h:xs.map f=ys){i:Nat}{x:α}(hx:xs[i]? =some x):ys[i]? =some (f x):=by rw[←h,List.getElem?_map,hx];rfl
open Go Go.RowKit Go.Proofs
def isBlk(id:Nat):Code → Bool
 |.seq _ (.block i _)=>i==id
 | _=>false
def eF(id:Nat):Code → Option Code
 |.seq a b=>bif isBlk id a then some (.seq a b)else match eF id a with
  |some c=>some c
  |none=>eF id b
 |.cond _ a b=>match eF id a with
  |some c=>some c
  |none=>eF id b
 |.block _ a=>eF id a
 |.loop a=>eF id a
 | _=>none
theorem rG{P:Program}{n:Nat}{Q:QE}{ρ:dv}{w:World}{c:Code}{o:Option Code}(h:o=some c)(hW:W P n c Q ρ w):W P n (o.getD .skip) Q ρ w:=by subst h;exact hW
def SyS(φ:World → Prop)(v:Value)(o:Option (List Sym)):Prop:=(v= .np∧o=none)∨∃(gy n c:Nat) (A:Option Addr) (x0 x1 x2 x3 x4 x5 x6:Value) (ss:List Sym),v= .pt gy∧o=some ss∧n≤10485760∧ss.length=n∧∀w,φ w → (an gy [x0,x1,x2,x3,x4,x5,x6,.s A n c] 144).φ w∧RV w A n 5 (ss.flatMap Sym.cells)
def DyS(φ:World → Prop)(v:Value)(o:Option (List Int)):Prop:=(v= .np∧o=none)∨∃(gy n c:Nat) (a:Addr) (z:Value) (q:Nat → Value) (ss:List Int),v= .pt gy∧o=some ss∧n≤4294967295∧∀w,φ w → (an gy [z,q 0,q 1,q 2,q 3,q 4,q 5,q 6,q 7,q 8,q 9,q 10,q 11,q 12,q 13,q 14,q 15,q 16,q 17,q 18,q 19,.s (some a) n c] 148).φ w∧RI .u32 w (some a) n ss
theorem SyS.mono{φ φ':World → Prop}{v:Value}{o:Option (List Sym)}(h:SyS φ v o)(hm: ∀w,φ' w → φ w):SyS φ' v o:=by
 rcases h with h|⟨gy,n,c,A,x0,x1,x2,x3,x4,x5,x6,ss,e1,e2,hn,hl,hf⟩
 · exact .inl h
 · exact .inr ⟨gy,n,c,A,x0,x1,x2,x3,x4,x5,x6,ss,e1,e2,hn,hl,fun w hw=>hf w (hm w hw)⟩
theorem DyS.mono{φ φ':World → Prop}{v:Value}{o:Option (List Int)}(h:DyS φ v o)(hm: ∀w,φ' w → φ w):DyS φ' v o:=by
 rcases h with h|⟨gy,n,c,a,z,q,ss,e1,e2,hn,hf⟩
 · exact .inl h
 · exact .inr ⟨gy,n,c,a,z,q,ss,e1,e2,hn,fun w hw=>hf w (hm w hw)⟩
structure NFD (φ : World → Prop) (rb : Nat) (s : PSt) (gd o m : Nat) (ds : List Int) (vs : List Value) (gs : List Nat) (sy dy : Value) : Prop where
 dat: ∀w,φ w → RI .u8 w (some ⟨gd,o,none⟩) m ds
 ld: ∀w,φ w → LdS w vs s.loads
 sc: ∀w,φ w → ScS w rb gs s.secs
 sy:SyS φ sy s.syms
 dy:DyS φ dy s.ind
abbrev cK(gs:List Nat):List Value:=gs.map fun g=> .pt g
abbrev wX(fb:Nat)(big:Bool)(h:Nat → Int)(AL AS:Option Addr)(nL cL nS cS:Nat)(vs:List Value)(gs:List Nat)(sy dy:Value)(D:Res):List Res:=
 [an fb [.w (h 0),.w (h 1),.w (h 2),.w (h 3),.w (h 4),.w (h 5),.w (h 6),.e (bo big),.s AL nL cL,.s AS nS cS,sy,dy] 121,ay 123 1 (.s AL nL cL) nL vs,ay 125 1 (.s AS nS cS) nS (cK gs),D]
def Mid(w:World)(rb fb:Nat)(big:Bool)(h:Nat → Int)(gd o m:Nat)(ds:List Int)(s:PSt)(w':World):Prop:=
 ∃(D:Res) (AL AS:Option Addr) (nL cL nS cS:Nat) (vs:List Value) (gs:List Nat) (sy dy:Value),D.F gd∧nL+m≤10485760∧nS+m≤10485760∧
  NFD D.φ rb s gd o m ds vs gs sy dy∧St w aR (wX fb big h AL AS nL cL nS cS vs gs sy dy D) w'
def Fr(ρ:dv)(rb fb gd o m:Nat)(big:Bool)(i:Int):Prop:=
 ρ 0= .f 109 (.pt rb)∧ρ 4= .pt fb∧(∃of:Int,ρ 12= .i of∧0≤of∧of+ ↑m≤10485800)∧ρ 13= .sl gd o m m∧ρ 16= .e (bo big)∧ρ 17= .w i
theorem St.sepD{w0 w:World}{M:Nat → Prop}{L:List Res}(h:St w0 M L w){i j g x:Nat}{cs:List Value}{T:TypeId}{D:Res}(hi:L[i]? =some (an g cs T))(hj:L[j]? =some D)(hij:i<j)(hD:D.F x):x≠g:=fun e=>h.ne hi hj hij (show x=g from e) hD
theorem TC138:Tryd.prog.concrete 138=true:=by kernel_rfl
theorem l4:Tryd.prog.underlying 116=some (.slice 123):=by kernel_rfl
theorem lF:(Tryd.prog.info? 123).map (fun i=>(i.zero,i.size,i.bytes))=some (some (.n),1,16):=by kernel_rfl
theorem m5:Tryd.prog.underlying 160=some (.pointer (Tryd.prog.pointee 160)):=by kernel_rfl
theorem xG:dA Tryd.prog 162 [.w 0,.w 0,.w 0]:=bO (by kernel_rfl)
theorem CK52:bg Tryd.prog 52:=aL (by kernel_rfl)
theorem xF:dA Tryd.prog 165 [.ns,.string (⟨#[]⟩)]:=bO (by kernel_rfl)
theorem zd:FA 165 0 0:=fa (by kernel_rfl)
theorem TC163:Tryd.prog.concrete 163=true:=by kernel_rfl
theorem xE:dA Tryd.prog 167 [.w 0,.w 0,.w 0,.w 0,.w 0,.w 0]:=bO (by kernel_rfl)
theorem CK54:bg Tryd.prog 54:=aL (by kernel_rfl)
theorem xD:dA Tryd.prog 170 [.ns,.string (⟨#[]⟩),.w 0,.w 0,.w 0]:=bO (by kernel_rfl)
theorem za:FA 170 0 0:=fa (by kernel_rfl)
theorem TC168:Tryd.prog.concrete 168=true:=by kernel_rfl
theorem da{xs:List Int}{off n:Nat}(h:n=0∨off+n≤xs.length):jk xs off n=some ((xs.drop off).take n):=if_pos h
theorem eR{xs:List Int}{off n:Nat}(h: ¬(n=0∨off+n≤xs.length)):jk xs off n=none:=if_neg h
theorem zQ{rt:TypeId}{ru:Value}{off nn:Int}(w:World)(hof:0≤off)(hom:off≤9223372036854775807)(h0:0≤nn)(hm:nn≤9223372036854775807):
 Calls Tryd.prog 47 #[.f rt ru,.i off,.i nn] w fun e w'=> ∃(g:Nat) (r:Res),e= .returned (.pt g)∧St w aR [r] w':=by
 by_cases h:off+nn≤9223372036854775807
 · exact(yr w hof hom h0 h).mono fun e w' ⟨g,h,_,H⟩=>⟨g,_,h,H⟩
 · exact(zR w hof hom h0 hm (by omega)).mono fun e w' ⟨g,h,_,H⟩=>⟨g,_,h,H⟩
theorem gO{l:List Int}{B:Int}(h: ∀x ∈ l,0≤x∧x≤B)(hB:0≤B)(i:Nat):0≤l.getD i 0∧l.getD i 0≤B:=by
 rw[List.getD_eq_getElem?_getD]
 rcases Nat.lt_or_ge i l.length with hi|hi
 · rw[List.getElem?_eq_getElem hi];exact h _ (List.getElem_mem hi)
 · rw[List.getElem?_eq_none hi];exact⟨Int.le_refl 0,hB⟩
theorem wP{wide big:Bool}{ys:List Int}(hb:Byt ys): ∀x ∈ ek wide big ys,0≤x∧x≤18446744073709551615:=by
 have h4: ∀k,0≤n4 big (ys.drop k)∧n4 big (ys.drop k)≤18446744073709551615:=fun k=>by have:=ba big (hb.drop k);omega
 have h8: ∀k,0≤n8 big (ys.drop k)∧n8 big (ys.drop k)≤18446744073709551615:=fun k=>by have:=nJ big (hb.drop k);omega
 cases wide<;>simp only[ek,if_true,if_false,Bool.false_eq_true,List.forall_mem_cons,List.not_mem_nil,false_imp_iff,implies_true,and_true]<;>refine⟨h4 _,h4 _,?_,?_,?_,?_,h4 _,h4 _,h4 _,h4 _⟩<;>first|exact h4 _|exact h8 _
theorem pC{wide big:Bool}{ys:List Int}(hb:Byt ys):(eP wide big ys).fits:=by
 have h4: ∀k,0≤n4 big (ys.drop k)∧n4 big (ys.drop k)<4294967296:=fun k=>ba big (hb.drop k)
 have h8: ∀k,0≤n8 big (ys.drop k)∧n8 big (ys.drop k)<18446744073709551616:=fun k=>nJ big (hb.drop k)
 cases wide
 · exact⟨by have:=h4 32;show 0≤n4 big (ys.drop 32)∧n4 big (ys.drop 32)≤ _;omega,by have:=h4 36;show(n4 big (ys.drop 36)).toNat< _;omega,by have:=h4 40;show(n4 big (ys.drop 40)).toNat< _;omega,by have:=h4 44;show 0≤n4 big (ys.drop 44)∧n4 big (ys.drop 44)≤ _;omega,by have:=h4 48;show 0≤n4 big (ys.drop 48)∧n4 big (ys.drop 48)≤ _;omega,by have:=h4 52;show 0≤n4 big (ys.drop 52)∧n4 big (ys.drop 52)≤ _;omega,(h4 56).1,by have:=h4 56;show n4 big (ys.drop 56)≤ _;omega⟩
 · exact⟨by have:=h8 32;show 0≤n8 big (ys.drop 32)∧n8 big (ys.drop 32)≤ _;omega,by have:=h8 40;show(n8 big (ys.drop 40)).toNat< _;omega,by have:=h4 48;show(n4 big (ys.drop 48)).toNat< _;omega,by have:=h4 52;show 0≤n4 big (ys.drop 52)∧n4 big (ys.drop 52)≤ _;omega,by have:=h4 56;show 0≤n4 big (ys.drop 56)∧n4 big (ys.drop 56)≤ _;omega,by have:=h4 60;show 0≤n4 big (ys.drop 60)∧n4 big (ys.drop 60)≤ _;omega,(h4 64).1,by have:=h4 64;show n4 big (ys.drop 64)≤ _;omega⟩
theorem wW{rb N C fb gd o0 o m sz cr nL cL nS cS:Nat}{A AL AS:Option Addr}{i0 p0 of ii cmd:Int}{xs raw ds:List Int}{a0 a1:Addr}{h:Nat → Int}{vs:List Value}{gs:List Nat}{sy dy:Value}{D:Res}{s:PSt}(big:Bool)(w w1:World)(hrb:(an rb [.s A N C,.i i0,.i p0] 190).φ w)(hG:Glob 224 w a0 a1)(hNC:N≤C)(hN:N<10485760)(hr:RI .u8 w A N xs)(hby:Byt xs)(hA: ∀a,A=some a → a.block<w.heap.size)(hw4:4≤w.heap.size)
 (hDg:D.F gd) (hnL:nL+sz+m≤10485760) (hnS:nS+sz+m≤10485760) (hD:NFD D.φ rb s gd o m ds vs gs sy dy) (hRaw: ∀w,D.φ w → RI .u8 w (some ⟨gd,o0,none⟩) sz raw) (hrby:Byt raw) (hrl:raw.length=sz) (hscr:sz≤cr) (hsz8:8≤sz) (hof0:0≤of) (hof1:of+ ↑m≤10485800)
 (H1:St w aR (wX fb big h AL AS nL cL nS cS vs gs sy dy D) w1) {ρ:dv} (h0:ρ 0= .f 109 (.pt rb)) (h4:ρ 4= .pt fb) (h12:ρ 12= .i of) (h13:ρ 13= .sl gd o m m) (h16:ρ 16= .e (bo big)) (h17:ρ 17= .w ii) (h18:ρ 18= .w cmd) (h19:ρ 19= .w ↑sz) (h20:ρ 20= .sl gd o0 sz cr) (h21:ρ 21= .np) (hc2147483676:cmd≠2147483676) (hc12:cmd≠12) (hc2:cmd≠2) (hc11:cmd≠11) (hc1:cmd≠1) (hc25:cmd≠25)
 {Q:QE} (hQ: ∀s' ρ' w',mC raw s=some s' → Fr ρ' rb fb gd o m big ii → Mid w rb fb big h gd o m ds s' w' → Q .normal ρ' w') (hR:mC raw s=none → ∀ρ' w' T v,ρ' 2= .np → ρ' 3= .f T v → Keep w aR w' → Q .ret ρ' w'):
 W Tryd.prog 931 ((eF 3 (Tryd.f41.body.getD .skip)).getD .skip) Q ρ w1:=by
 refine rG Z ?_
 have H0:St w aR [an fb [.w (h 0),.w (h 1),.w (h 2),.w (h 3),.w (h 4),.w (h 5),.w (h 6),.e (bo big),.s AL nL cL,.s AS nS cS,sy,dy] 121,ay 123 1 (.s AL nL cL) nL vs,ay 125 1 (.s AS nS cS) nS (cK gs),D] w1:=H1
 refine ad (sr (mg h18 Z (wn (a6 (sr (wv Z (aT Z Z (beq_eq_false_iff_ne.2 (hc2147483676))) (av (.b false) Z (wn (al Z (sr (wv Z (aT Z Z (beq_eq_false_iff_ne.2 (hc12))) ?_)))))))))))
 refine av (.b false) Z (wn (al Z (sr (wv Z (aT Z Z (beq_eq_false_iff_ne.2 (hc2))) (av (.b false) Z (wn (al Z (sr (wv Z (aT Z Z (beq_eq_false_iff_ne.2 (hc11))) (av (.b false) Z (wn ?_)))))))))))
 refine al Z (sr (wv Z (aT Z Z (beq_eq_false_iff_ne.2 (hc1))) (av (.b false) Z (wn (al Z (sr (wv Z (aT Z Z (beq_eq_false_iff_ne.2 (hc25))) (av (.b false) Z (wn (al Z (ae ?_)))))))))))
 refine mg h4 Z (mg h4 Z (wc Z (wf dR Z (wv Z (H0.ld 0 Z eX Z (.s AL nL cL) Z) (mg h20 Z (wv Z (aJ (v:= .sl gd o0 sz cr) TC138 Z) (wm Z (eb H0 123 [.f 138 (.sl gd o0 sz cr)] Z (by kernel_rfl) (fun g1 w2 d H3=>wm Z (bG H3 2 (m:=1) (news:= [.f 138 (.sl gd o0 sz cr)]) Z l4 lF Z (by decide) Z Z Z (H3.news (i:=0) Z) (by simp[Value.oneCell']) (by simp only[maxLen];omega) (by omega) (fun v4 w5 H6=> ?_)))))))))))
 obtain⟨A7,c8,rfl,_,_⟩:=aw (H6.g 2 rfl)
 refine wc Z (wf dR Z (ws (es H6 1 8 (.s A7 (nL+1) c8) Z eX (fun c H9=> ?_))))
 refine bk (ak (ac (sr (mg h21 Z (wv Z ((show Yv _ _ _ _ (.b false) _ from dD (p:=none) m5 Z)) (wn (al Z (dw ?_))))))))
 have hst:mC raw s=some {s with loads:=s.loads++ [⟨0,raw,[],[]⟩]}:=rfl
 have Hn:St w aR [an fb [.w (h 0),.w (h 1),.w (h 2),.w (h 3),.w (h 4),.w (h 5),.w (h 6),.e (bo big),.s A7 (nL+1) c8,.s AS nS cS,sy,dy] 121,ay 123 1 (.s A7 (nL+1) c8) (nL+1) (vs++ [.f 138 (.sl gd o0 sz cr)]),ay 125 1 (.s AS nS cS) nS (cK gs),Res.all [D]] c:=(H9.reAll [4] [1,2,3]).re [1,2,3,0]
 have hsub: ∀w,(Res.all [D]).φ w → D.φ w:=fun w hh=>aS.1 hh D (by simp)
 have hDn:NFD (Res.all [D]).φ rb ({s with loads:=s.loads++ [⟨0,raw,[],[]⟩]}) gd o m ds (vs++ [.f 138 (.sl gd o0 sz cr)]) gs (sy) (dy):=⟨fun w hh=>hD.dat w (hsub w hh),fun w hh=>(hD.ld w (hsub w hh)).snoc (by have hh:=aS.1 hh;exact .inl ⟨_,_,_,raw,rfl,hRaw _ (hsub _ (aS.2 hh)),by omega,rfl⟩),fun w hh=>hD.sc w (hsub w hh),hD.sy.mono hsub,hD.dy.mono hsub⟩
 exact hQ _ _ _ hst ⟨h0,h4,⟨_,h12,hof0,hof1⟩,h13,h16,h17⟩ ⟨Res.all [D],_,_,_,_,_,_,vs++ [.f 138 (.sl gd o0 sz cr)],gs,_,_,.inl hDg,by omega,by omega,hDn,Hn⟩
theorem y7{rb N C fb gd o0 o m sz cr nL cL nS cS:Nat}{A AL AS:Option Addr}{i0 p0 of ii:Int}{xs raw ds:List Int}{a0 a1:Addr}{h:Nat → Int}{vs:List Value}{gs:List Nat}{sy dy:Value}{D:Res}{s:PSt}(big:Bool)(w w1:World)(hrb:(an rb [.s A N C,.i i0,.i p0] 190).φ w)(hG:Glob 224 w a0 a1)(hNC:N≤C)(hN:N<10485760)(hr:RI .u8 w A N xs)(hby:Byt xs)(hA: ∀a,A=some a → a.block<w.heap.size)(hw4:4≤w.heap.size)
 (hDg:D.F gd) (hnL:nL+sz+m≤10485760) (hnS:nS+sz+m≤10485760) (hD:NFD D.φ rb s gd o m ds vs gs sy dy) (hRaw: ∀w,D.φ w → RI .u8 w (some ⟨gd,o0,none⟩) sz raw) (hrby:Byt raw) (hrl:raw.length=sz) (hscr:sz≤cr) (hsz8:8≤sz) (hof0:0≤of) (hof1:of+ ↑m≤10485800)
 (H1:St w aR (wX fb big h AL AS nL cL nS cS vs gs sy dy D) w1) {ρ:dv} (h0:ρ 0= .f 109 (.pt rb)) (h4:ρ 4= .pt fb) (h12:ρ 12= .i of) (h13:ρ 13= .sl gd o m m) (h16:ρ 16= .e (bo big)) (h17:ρ 17= .w ii) (h18:ρ 18= .w 2147483676) (h19:ρ 19= .w ↑sz) (h20:ρ 20= .sl gd o0 sz cr) (h21:ρ 21= .np)
 {Q:QE} (hQ: ∀s' ρ' w',ed big raw s=some s' → Fr ρ' rb fb gd o m big ii → Mid w rb fb big h gd o m ds s' w' → Q .normal ρ' w') (hR:ed big raw s=none → ∀ρ' w' T v,ρ' 2= .np → ρ' 3= .f T v → Keep w aR w' → Q .ret ρ' w'):
 W Tryd.prog 931 ((eF 3 (Tryd.f41.body.getD .skip)).getD .skip) Q ρ w1:=by
 refine rG Z ?_
 have H0:St w aR [an fb [.w (h 0),.w (h 1),.w (h 2),.w (h 3),.w (h 4),.w (h 5),.w (h 6),.e (bo big),.s AL nL cL,.s AS nS cS,sy,dy] 121,ay 123 1 (.s AL nL cL) nL vs,ay 125 1 (.s AS nS cS) nS (cK gs),D] w1:=H1
 refine ad (sr (mg h18 Z (wn (a6 (sr (wv Z (aT (c:=true) Z Z Z) (av (.b true) Z (wn (aB Z (sr (wm Z ?_)))))))))))
 refine aN H0 xG (fun g1 w2 ar H3=>wn (sr (mg h20 Z (wE [.sl gd o0 sz cr] oR Z Z (aa (dB (some ⟨gd,o0,none⟩) sz cr _) ?_)))))
 rintro e w5 ⟨gq,rfl,hgq,P⟩
 have H6:=H3.cal0 P
 refine⟨_,Z,ap gq 0 Z (wn (ad (ad ?_)))⟩
 by_cases hfit:0+12≤sz
 ·
  obtain⟨ys,hys⟩: ∃q,q=(raw.drop (0)).take 12:=⟨_,rfl⟩
  have hbys:Byt ys:=by rw[hys];exact(hrby.drop _).take _
  have hlys:ys.length=12:=by rw[hys,List.length_take,List.length_drop,hrl];omega
  obtain⟨q8,u⟩: ∃q:Nat,(q:Int)=n4 big (ys.drop 8):=⟨(n4 big (ys.drop 8)).toNat,Int.toNat_of_nonneg (ba big (hbys.drop _)).1⟩
  have R:(q8:Int)<4294967296:=by rw[u];exact(ba big (hbys.drop _)).2
  refine ae (mp gq 0 Z (wv Z (aJ (v:= .pt gq) fu Z) (mg h16 Z (wE [.pt g1,.f 109 (.pt gq),.e (bo big)] CK52 Z Z ?_))))
  have au:=H6.blk_ne (i:=0) (j:=1) rfl rfl (by decide)
  have z:=H6.ge (i:=0) rfl
  have B:=H6.ge (i:=1) rfl
  have hws:=H6.keep.size
  refine aa (lZ (ys:=ys) (i:=0) (A:=some ⟨gd,o0,none⟩) (xs:=raw) big _ (H6.g 1 Z) (H6.g 0 Z) (hG.keep H6.keep fun k hk=>hk.elim) hscr (by omega) (hRaw _ (H6.g 5 Z)) hrby (fun a ha=>by injection ha with ha;subst ha;exact⟨D.live _ _ (H6.g 5 Z) hDg,H6.sepD (i:=0) (j:=5) Z Z (by decide) hDg,H6.sepD (i:=1) (j:=5) Z Z (by decide) hDg⟩) (by omega) (by omega) (by omega) (by omega) (by omega) hys) ?_
  rintro e w9 ⟨rfl,E⟩
  rw[←u]at E
  have S:=H6.ky 1 0 rfl rfl E (fun _ h=>h)
  refine⟨_,Z,av (.n) Z (wn (sr (mv (.n) Z (wv Z ((nn false bI Z (.inl Z))) (wn (al Z (wk (sr (wm Z (aN S xF (fun d az U r=> ?_)))))))))))⟩
  refine ap d 0 Z (wn (ad (sr (wf mQ Z (wv Z (r.ld 1 Z ax Z (.w (↑q8)) Z) (mg h20 Z (wv Z (aO bU Z) (wv Z (ao ej jR Z (dm (by omega) (by omega))) (wv Z (jO Z Z) (wn ?_))))))))))
  refine bK Z (fun t=> ?_) (fun t=> ?_)
  ·
   simp only[bx]at t
   refine ad ?_
   have G:=r.drew
   refine aU MX (fun w'=>w'.cell? ⟨g1,2,none⟩=some (.w (↑q8))) (tr 0 5 (Pl.take 7 (Pl.run 5 (Pl.take 6 (Pl.take 8 Pl.done))))) (by kernel_rfl) (G.c 1 2 Z Z) (qm (.i of) Z h12 (qy Z (ab (o:=0) mQ Z) (qh Z (fun hS=>ag ax Z hS) (qy Z (aJ (v:= .w (↑q8)) zv Z) (qy Z (yb (ps:= [(0,.i of),(1,.string _),(2,.f 24 (.w (↑q8)))]) (cells:=#[.i of,.string (⟨#[105,110,118,97,108,105,100,32,112,97,116,104,32,105,110,32,114,112,97,116,104,32,99,111,109,109,97,110,100]⟩),.f 24 (.w (↑q8))]) Z (by kernel_rfl)) (qa (.np) Z Z (qr Z (fq G (vs:= [.i of,.string _,.f 24 (.w (↑q8))]) Z Z (fun H a2 V I=>⟨I.c 2 2 Z Z,fun _=>trivial,qy Z (aJ (v:= .pt H) jx Z) (qa (.f 154 (.pt H)) Z Z ?_)⟩)))))))))
   refine pn (rq (aI (a7 ?_)))
   have hst:ed big raw s=none:=by unfold ed;rw[if_neg (by omega),←hys,←u,if_pos (by omega)]
   exact hR hst _ _ _ _ Z Z I.keep
  ·
   simp only[bx]at t
   refine wk (sr (mp d 0 Z (mg h20 Z (wf mQ Z (wv Z (r.ld 1 Z ax Z (.w (↑q8)) Z) (wv Z ((aq (l:=q8) (h:=sz) aZ Z (bs Z (by omega) (Int.toNat_natCast _)) bn (by omega) (by omega) (by omega) (by omega):Yv _ _ _ _ (.sl gd (o0+q8) (sz- q8) (cr- q8)) _)) (wE [.sl gd (o0+q8) (sz- q8) (cr- q8)] pw Z Z (aa (eV _ ((hRaw _ (r.g 6 Z)).drop_ q8) (hrby.drop _) (by omega) (by omega)) ?_))))))))
   rintro e a3 ⟨rfl,J⟩
   have X:=r.cal0 J
   refine⟨_,Z,wc Z (wf uE Z (ws (es X 0 1 (.str (aF (raw.drop q8))) Z dP (fun a4 Y=> ?_))))⟩
   refine wn (sr (mp d 0 Z (mg h20 Z (wc Z (wf zd Z (ws (es Y 0 0 (.sl gd o0 sz cr) Z hX (fun a5 K=> ?_))))))))
   refine wn (ae (mg h4 Z (mg h4 Z (wc Z (wf dR Z (wv Z (K.ld 3 Z eX Z (.s AL nL cL) Z) (mp d 0 Z (wv Z (aJ (v:= .pt d) TC163 Z) (wm Z (eb K 123 [.f 163 (.pt d)] Z (by kernel_rfl) (fun a8 a9 af L=>wm Z ?_)))))))))))
   refine bG L 5 (m:=1) (news:= [.f 163 (.pt d)]) Z l4 lF Z (by decide) Z Z Z (L.news (i:=0) Z) (by simp[Value.oneCell']) (by simp only[maxLen];omega) (by omega) (fun aA aC M=> ?_)
   obtain⟨x,y,rfl,_,_⟩:=aw (M.g 5 rfl)
   refine wc Z (wf dR Z (ws (es M 4 8 (.s x (nL+1) y) Z eX (fun ah ai=> ?_))))
   refine bk (ak (ac (sr (mg h21 Z (wv Z ((show Yv _ _ _ _ (.b false) _ from dD (p:=none) m5 Z)) (wn (al Z (dw ?_))))))))
   have hst:ed big raw s=some {s with loads:=s.loads++ [⟨3,raw,aF (raw.drop q8),[]⟩]}:=by unfold ed;rw[if_neg (by omega),←hys,←u,Int.toNat_natCast,if_neg (by omega)]
   have Hn:St w aR [an fb [.w (h 0),.w (h 1),.w (h 2),.w (h 3),.w (h 4),.w (h 5),.w (h 6),.e (bo big),.s x (nL+1) y,.s AS nS cS,sy,dy] 121,ay 123 1 (.s x (nL+1) y) (nL+1) (vs++ [.f 163 (.pt d)]),ay 125 1 (.s AS nS cS) nS (cK gs),Res.all [an d [.sl gd o0 sz cr,.str (aF (raw.drop q8))] 165,D]] ah:=(ai.reAll [1,7] [4,5,6]).re [1,2,3,0]
   have hsub: ∀w,(Res.all [an d [.sl gd o0 sz cr,.str (aF (raw.drop q8))] 165,D]).φ w → D.φ w:=fun w hh=>aS.1 hh D (by simp)
   have hDn:NFD (Res.all [an d [.sl gd o0 sz cr,.str (aF (raw.drop q8))] 165,D]).φ rb ({s with loads:=s.loads++ [⟨3,raw,aF (raw.drop q8),[]⟩]}) gd o m ds (vs++ [.f 163 (.pt d)]) gs (sy) (dy):=⟨fun w hh=>hD.dat w (hsub w hh),fun w hh=>(hD.ld w (hsub w hh)).snoc (by have hh:=aS.1 hh;exact .inr (.inr (.inr (.inl ⟨_,_,_,raw,d,_,rfl,hh (an d [.sl gd o0 sz cr,.str (aF (raw.drop q8))] 165) (by simp),hRaw _ (hsub _ (aS.2 hh)),by omega,rfl⟩)))),fun w hh=>hD.sc w (hsub w hh),hD.sy.mono hsub,hD.dy.mono hsub⟩
   exact hQ _ _ _ hst ⟨h0,h4,⟨_,h12,hof0,hof1⟩,h13,h16,h17⟩ ⟨Res.all [an d [.sl gd o0 sz cr,.str (aF (raw.drop q8))] 165,D],_,_,_,_,_,_,vs++ [.f 163 (.pt d)],gs,_,_,.inr (.inl hDg),by omega,by omega,hDn,Hn⟩
 ·
  refine ae (mp gq 0 Z (wv Z (aJ (v:= .pt gq) fu Z) (mg h16 Z (wE [.pt g1,.f 109 (.pt gq),.e (bo big)] CK52 Z Z ?_))))
  have aj:=H6.blk_ne (i:=0) (j:=1) rfl rfl (by decide)
  have z:=H6.ge (i:=0) rfl
  have B:=H6.ge (i:=1) rfl
  have hws:=H6.keep.size
  refine aa (lL (ys:= []) (i:=0) (A:=some ⟨gd,o0,none⟩) (xs:=raw) big _ (H6.g 1 Z) (H6.g 0 Z) (hG.keep H6.keep fun k hk=>hk.elim) hscr (by omega) (hRaw _ (H6.g 5 Z)) hrby (fun a ha=>by injection ha with ha;subst ha;exact⟨D.live _ _ (H6.g 5 Z) hDg,H6.sepD (i:=0) (j:=5) Z Z (by decide) hDg,H6.sepD (i:=1) (j:=5) Z Z (by decide) hDg⟩) (by omega) (by omega) (by omega) (by omega) (by omega)) ?_
  rintro e aD ⟨T,ev,rfl,O⟩
  have am:=H6.ky 1 0 rfl rfl O (fun _ h=>h)
  refine⟨_,Z,av (.f T ev) Z (wn (sr (mv (.f T ev) Z (wv Z ((nn true bI Z (.inr ⟨_,_,Z⟩))) (wn (aB Z (sr (mv (.f T ev) Z (av (.np) Z (av (.f T ev) Z ?_))))))))))⟩
  refine wn (rq (aI (a7 ?_)))
  have hst:ed big raw s=none:=by unfold ed;rw[if_pos (by omega)]
  exact hR hst _ _ _ _ Z Z am.keep
theorem Ao{rb N C fb gd o0 o m sz cr nL cL nS cS:Nat}{A AL AS:Option Addr}{i0 p0 of ii:Int}{xs raw ds:List Int}{a0 a1:Addr}{h:Nat → Int}{vs:List Value}{gs:List Nat}{sy dy:Value}{D:Res}{s:PSt}(big:Bool)(w w1:World)(hrb:(an rb [.s A N C,.i i0,.i p0] 190).φ w)(hG:Glob 224 w a0 a1)(hNC:N≤C)(hN:N<10485760)(hr:RI .u8 w A N xs)(hby:Byt xs)(hA: ∀a,A=some a → a.block<w.heap.size)(hw4:4≤w.heap.size)
 (hDg:D.F gd) (hnL:nL+sz+m≤10485760) (hnS:nS+sz+m≤10485760) (hD:NFD D.φ rb s gd o m ds vs gs sy dy) (hRaw: ∀w,D.φ w → RI .u8 w (some ⟨gd,o0,none⟩) sz raw) (hrby:Byt raw) (hrl:raw.length=sz) (hscr:sz≤cr) (hsz8:8≤sz) (hof0:0≤of) (hof1:of+ ↑m≤10485800)
 (H1:St w aR (wX fb big h AL AS nL cL nS cS vs gs sy dy D) w1) {ρ:dv} (h0:ρ 0= .f 109 (.pt rb)) (h4:ρ 4= .pt fb) (h12:ρ 12= .i of) (h13:ρ 13= .sl gd o m m) (h16:ρ 16= .e (bo big)) (h17:ρ 17= .w ii) (h18:ρ 18= .w 12) (h19:ρ 19= .w ↑sz) (h20:ρ 20= .sl gd o0 sz cr) (h21:ρ 21= .np)
 {Q:QE} (hQ: ∀s' ρ' w',eZ big raw s=some s' → Fr ρ' rb fb gd o m big ii → Mid w rb fb big h gd o m ds s' w' → Q .normal ρ' w') (hR:eZ big raw s=none → ∀ρ' w' T v,ρ' 2= .np → ρ' 3= .f T v → Keep w aR w' → Q .ret ρ' w'):
 W Tryd.prog 931 ((eF 3 (Tryd.f41.body.getD .skip)).getD .skip) Q ρ w1:=by
 refine rG Z ?_
 have H0:St w aR [an fb [.w (h 0),.w (h 1),.w (h 2),.w (h 3),.w (h 4),.w (h 5),.w (h 6),.e (bo big),.s AL nL cL,.s AS nS cS,sy,dy] 121,ay 123 1 (.s AL nL cL) nL vs,ay 125 1 (.s AS nS cS) nS (cK gs),D] w1:=H1
 refine ad (sr (mg h18 Z (wn (a6 (sr (wv Z (aT (c:=false) Z Z Z) (av (.b false) Z (wn (al Z (sr (wv Z (aT (c:=true) Z Z Z) ?_)))))))))))
 refine av (.b true) Z (wn (aB Z (sr (wm Z (aN H0 xE (fun g1 w2 a2 H3=>wn (sr (mg h20 Z (wE [.sl gd o0 sz cr] oR Z Z (aa (dB (some ⟨gd,o0,none⟩) sz cr _) ?_))))))))))
 rintro e w5 ⟨gq,rfl,hgq,U⟩
 have H6:=H3.cal0 U
 refine⟨_,Z,ap gq 0 Z (wn (ad (ad ?_)))⟩
 by_cases hfit:0+24≤sz
 ·
  obtain⟨ys,hys⟩: ∃q,q=(raw.drop (0)).take 24:=⟨_,rfl⟩
  have hbys:Byt ys:=by rw[hys];exact(hrby.drop _).take _
  have hlys:ys.length=24:=by rw[hys,List.length_take,List.length_drop,hrl];omega
  obtain⟨q8,u⟩: ∃q:Nat,(q:Int)=n4 big (ys.drop 8):=⟨(n4 big (ys.drop 8)).toNat,Int.toNat_of_nonneg (ba big (hbys.drop _)).1⟩
  have V:(q8:Int)<4294967296:=by rw[u];exact(ba big (hbys.drop _)).2
  refine ae (mp gq 0 Z (wv Z (aJ (v:= .pt gq) fu Z) (mg h16 Z (wE [.pt g1,.f 109 (.pt gq),.e (bo big)] CK54 Z Z ?_))))
  have a3:=H6.blk_ne (i:=0) (j:=1) rfl rfl (by decide)
  have z:=H6.ge (i:=0) rfl
  have B:=H6.ge (i:=1) rfl
  have hws:=H6.keep.size
  refine aa (me (ys:=ys) (i:=0) (A:=some ⟨gd,o0,none⟩) (xs:=raw) big _ (H6.g 1 Z) (H6.g 0 Z) (hG.keep H6.keep fun k hk=>hk.elim) hscr (by omega) (hRaw _ (H6.g 5 Z)) hrby (fun a ha=>by injection ha with ha;subst ha;exact⟨D.live _ _ (H6.g 5 Z) hDg,H6.sepD (i:=0) (j:=5) Z Z (by decide) hDg,H6.sepD (i:=1) (j:=5) Z Z (by decide) hDg⟩) (by omega) (by omega) (by omega) (by omega) (by omega) hys) ?_
  rintro e w9 ⟨rfl,E⟩
  rw[←u]at E
  have X:=H6.ky 1 0 rfl rfl E (fun _ h=>h)
  refine⟨_,Z,av (.n) Z (wn (sr (mv (.n) Z (wv Z ((nn false bI Z (.inl Z))) (wn (al Z (wk (sr (wm Z (aN X xD (fun d a4 Y r=> ?_)))))))))))⟩
  refine ap d 0 Z (wn (ad (sr (wf mP Z (wv Z (r.ld 1 Z ax Z (.w (↑q8)) Z) (mg h20 Z (wv Z (aO bU Z) (wv Z (ao ej jR Z (dm (by omega) (by omega))) (wv Z (jO Z Z) (wn ?_))))))))))
  refine bK Z (fun t=> ?_) (fun t=> ?_)
  ·
   simp only[bx]at t
   refine ad ?_
   have G:=r.drew
   refine aU MX (fun w'=>w'.cell? ⟨g1,2,none⟩=some (.w (↑q8))) (tr 0 5 (Pl.take 7 (Pl.run 5 (Pl.take 6 (Pl.take 8 Pl.done))))) (by kernel_rfl) (G.c 1 2 Z Z) (qm (.i of) Z h12 (qy Z (ab (o:=0) mP Z) (qh Z (fun hS=>ag ax Z hS) (qy Z (aJ (v:= .w (↑q8)) zv Z) (qy Z (yb (ps:= [(0,.i of),(1,.string _),(2,.f 24 (.w (↑q8)))]) (cells:=#[.i of,.string (⟨#[105,110,118,97,108,105,100,32,110,97,109,101,32,105,110,32,100,121,110,97,109,105,99,32,108,105,98,114,97,114,121,32,99,111,109,109,97,110,100]⟩),.f 24 (.w (↑q8))]) Z (by kernel_rfl)) (qa (.np) Z Z (qr Z (fq G (vs:= [.i of,.string _,.f 24 (.w (↑q8))]) Z Z (fun H a5 af I=>⟨I.c 2 2 Z Z,fun _=>trivial,qy Z (aJ (v:= .pt H) jx Z) (qa (.f 154 (.pt H)) Z Z ?_)⟩)))))))))
   refine pn (rq (aI (a7 ?_)))
   have hst:eZ big raw s=none:=by unfold eZ;rw[if_neg (by omega),←hys,←u,if_pos (by omega)]
   exact hR hst _ _ _ _ Z Z I.keep
  ·
   simp only[bx]at t
   refine wk (sr (mp d 0 Z (mg h20 Z (wf mP Z (wv Z (r.ld 1 Z ax Z (.w (↑q8)) Z) (wv Z ((aq (l:=q8) (h:=sz) aZ Z (bs Z (by omega) (Int.toNat_natCast _)) bn (by omega) (by omega) (by omega) (by omega):Yv _ _ _ _ (.sl gd (o0+q8) (sz- q8) (cr- q8)) _)) (wE [.sl gd (o0+q8) (sz- q8) (cr- q8)] pw Z Z (aa (eV _ ((hRaw _ (r.g 6 Z)).drop_ q8) (hrby.drop _) (by omega) (by omega)) ?_))))))))
   rintro e a8 ⟨rfl,J⟩
   have ah:=r.cal0 J
   refine⟨_,Z,wc Z (wf uA Z (ws (es ah 0 1 (.str (aF (raw.drop q8))) Z dP (fun a9 K=> ?_))))⟩
   refine wn (sr (mp d 0 Z (wf uD Z (wv Z (K.ld 1 Z ax Z (.w (n4 big (ys.drop 12))) Z) (wc Z (wf u9 Z (ws (es K 0 2 (.w (n4 big (ys.drop 12))) Z ax (fun aA L=> ?_)))))))))
   refine wn (sr (mp d 0 Z (wf uC Z (wv Z (L.ld 1 Z ax Z (.w (n4 big (ys.drop 16))) Z) (wc Z (wf u7 Z (ws (es L 0 3 (.w (n4 big (ys.drop 16))) Z ax (fun aC M=> ?_)))))))))
   refine wn (sr (mp d 0 Z (wf uB Z (wv Z (M.ld 1 Z ax Z (.w (n4 big (ys.drop 20))) Z) (wc Z (wf u6 Z (ws (es M 0 4 (.w (n4 big (ys.drop 20))) Z ax (fun aD ai=> ?_)))))))))
   refine wn (sr (mp d 0 Z (mg h20 Z (wc Z (wf za Z (ws (es ai 0 0 (.sl gd o0 sz cr) Z hX (fun aE O=> ?_))))))))
   refine wn (ae (mg h4 Z (mg h4 Z (wc Z (wf dR Z (wv Z (O.ld 3 Z eX Z (.s AL nL cL) Z) (mp d 0 Z (wv Z (aJ (v:= .pt d) TC168 Z) (wm Z (eb O 123 [.f 168 (.pt d)] Z (by kernel_rfl) (fun aG aH aj P=>wm Z ?_)))))))))))
   refine bG P 5 (m:=1) (news:= [.f 168 (.pt d)]) Z l4 lF Z (by decide) Z Z Z (P.news (i:=0) Z) (by simp[Value.oneCell']) (by simp only[maxLen];omega) (by omega) (fun aK aL R=> ?_)
   obtain⟨x,y,rfl,_,_⟩:=aw (R.g 5 rfl)
   refine wc Z (wf dR Z (ws (es R 4 8 (.s x (nL+1) y) Z eX (fun am ar=> ?_))))
   refine bk (ak (ac (sr (mg h21 Z (wv Z ((show Yv _ _ _ _ (.b false) _ from dD (p:=none) m5 Z)) (wn (al Z (dw ?_))))))))
   have hst:eZ big raw s=some {s with loads:=s.loads++ [⟨2,raw,aF (raw.drop q8),[n4 big (ys.drop 12),n4 big (ys.drop 16),n4 big (ys.drop 20)]⟩]}:=by unfold eZ;rw[if_neg (by omega),←hys,←u,Int.toNat_natCast,if_neg (by omega)]
   have Hn:St w aR [an fb [.w (h 0),.w (h 1),.w (h 2),.w (h 3),.w (h 4),.w (h 5),.w (h 6),.e (bo big),.s x (nL+1) y,.s AS nS cS,sy,dy] 121,ay 123 1 (.s x (nL+1) y) (nL+1) (vs++ [.f 168 (.pt d)]),ay 125 1 (.s AS nS cS) nS (cK gs),Res.all [an d [.sl gd o0 sz cr,.str (aF (raw.drop q8)),.w (n4 big (ys.drop 12)),.w (n4 big (ys.drop 16)),.w (n4 big (ys.drop 20))] 170,D]] am:=(ar.reAll [1,7] [4,5,6]).re [1,2,3,0]
   have hsub: ∀w,(Res.all [an d [.sl gd o0 sz cr,.str (aF (raw.drop q8)),.w (n4 big (ys.drop 12)),.w (n4 big (ys.drop 16)),.w (n4 big (ys.drop 20))] 170,D]).φ w → D.φ w:=fun w hh=>aS.1 hh D (by simp)
   have hDn:NFD (Res.all [an d [.sl gd o0 sz cr,.str (aF (raw.drop q8)),.w (n4 big (ys.drop 12)),.w (n4 big (ys.drop 16)),.w (n4 big (ys.drop 20))] 170,D]).φ rb ({s with loads:=s.loads++ [⟨2,raw,aF (raw.drop q8),[n4 big (ys.drop 12),n4 big (ys.drop 16),n4 big (ys.drop 20)]⟩]}) gd o m ds (vs++ [.f 168 (.pt d)]) gs (sy) (dy):=⟨fun w hh=>hD.dat w (hsub w hh),fun w hh=>(hD.ld w (hsub w hh)).snoc (by have hh:=aS.1 hh;exact .inr (.inr (.inl ⟨_,_,_,raw,d,_,fun k=> [n4 big (ys.drop 12),n4 big (ys.drop 16),n4 big (ys.drop 20)].getD k 0,rfl,gO (by have b1:=ba big (hbys.drop 12);have b2:=ba big (hbys.drop 16);have b3:=ba big (hbys.drop 20);simp only[List.forall_mem_cons,List.not_mem_nil,false_imp_iff,implies_true,and_true];omega) (by decide),hh (an d [.sl gd o0 sz cr,.str (aF (raw.drop q8)),.w (n4 big (ys.drop 12)),.w (n4 big (ys.drop 16)),.w (n4 big (ys.drop 20))] 170) (by simp),hRaw _ (hsub _ (aS.2 hh)),by omega,rfl⟩))),fun w hh=>hD.sc w (hsub w hh),hD.sy.mono hsub,hD.dy.mono hsub⟩
   exact hQ _ _ _ hst ⟨h0,h4,⟨_,h12,hof0,hof1⟩,h13,h16,h17⟩ ⟨Res.all [an d [.sl gd o0 sz cr,.str (aF (raw.drop q8)),.w (n4 big (ys.drop 12)),.w (n4 big (ys.drop 16)),.w (n4 big (ys.drop 20))] 170,D],_,_,_,_,_,_,vs++ [.f 168 (.pt d)],gs,_,_,.inr (.inl hDg),by omega,by omega,hDn,Hn⟩
 ·
  refine ae (mp gq 0 Z (wv Z (aJ (v:= .pt gq) fu Z) (mg h16 Z (wE [.pt g1,.f 109 (.pt gq),.e (bo big)] CK54 Z Z ?_))))
  have au:=H6.blk_ne (i:=0) (j:=1) rfl rfl (by decide)
  have z:=H6.ge (i:=0) rfl
  have B:=H6.ge (i:=1) rfl
  have hws:=H6.keep.size
  refine aa (lM (ys:= []) (i:=0) (A:=some ⟨gd,o0,none⟩) (xs:=raw) big _ (H6.g 1 Z) (H6.g 0 Z) (hG.keep H6.keep fun k hk=>hk.elim) hscr (by omega) (hRaw _ (H6.g 5 Z)) hrby (fun a ha=>by injection ha with ha;subst ha;exact⟨D.live _ _ (H6.g 5 Z) hDg,H6.sepD (i:=0) (j:=5) Z Z (by decide) hDg,H6.sepD (i:=1) (j:=5) Z Z (by decide) hDg⟩) (by omega) (by omega) (by omega) (by omega) (by omega)) ?_
  rintro e aM ⟨T,ev,rfl,S⟩
  have az:=H6.ky 1 0 rfl rfl S (fun _ h=>h)
  refine⟨_,Z,av (.f T ev) Z (wn (sr (mv (.f T ev) Z (wv Z ((nn true bI Z (.inr ⟨_,_,Z⟩))) (wn (aB Z (sr (mv (.f T ev) Z (av (.np) Z (av (.f T ev) Z ?_))))))))))⟩
  refine wn (rq (aI (a7 ?_)))
  have hst:eZ big raw s=none:=by unfold eZ;rw[if_pos (by omega)]
  exact hR hst _ _ _ _ Z Z az.keep
theorem rN:dA Tryd.prog 141 [.w 0,.w 0,.w 0,.w 0,.w 0,.w 0]:=bO (by kernel_rfl)
theorem zC:bg Tryd.prog 55:=aL (by kernel_rfl)
theorem CK56:bg Tryd.prog 56:=aL (by kernel_rfl)
theorem zN:Tryd.prog.concrete 118=true:=by kernel_rfl
theorem xJ:dA Tryd.prog 146 [.w 0,.w 0,.w 0,.w 0,.w 0,.w 0,.w 0,.w 0,.w 0,.w 0,.w 0,.w 0,.w 0,.w 0,.w 0,.w 0,.w 0,.w 0,.w 0,.w 0]:=bO (by kernel_rfl)
theorem CK57:bg Tryd.prog 57:=aL (by kernel_rfl)
theorem CK58:bg Tryd.prog 58:=aL (by kernel_rfl)
theorem xI:dA Tryd.prog 148 [.ns,.w 0,.w 0,.w 0,.w 0,.w 0,.w 0,.w 0,.w 0,.w 0,.w 0,.w 0,.w 0,.w 0,.w 0,.w 0,.w 0,.w 0,.w 0,.w 0,.w 0,.ns]:=bO (by kernel_rfl)
theorem zg:FA 148 0 0:=fa (by kernel_rfl)
theorem TG146:iJ Tryd.prog 146 20:=eG (by kernel_rfl)
theorem TZ146:(Tryd.prog.info? 146).map (·.size)=some 20:=by kernel_rfl
theorem TC119:Tryd.prog.concrete 119=true:=by kernel_rfl
theorem wS{rb N C fb gd o0 o m sz cr nL cL nS cS:Nat}{A AL AS:Option Addr}{i0 p0 of ii:Int}{xs raw ds:List Int}{a0 a1:Addr}{h:Nat → Int}{vs:List Value}{gs:List Nat}{sy dy:Value}{D:Res}{s:PSt}(big:Bool)(w w1:World)(hrb:(an rb [.s A N C,.i i0,.i p0] 190).φ w)(hG:Glob 224 w a0 a1)(hNC:N≤C)(hN:N<10485760)(hr:RI .u8 w A N xs)(hby:Byt xs)(hA: ∀a,A=some a → a.block<w.heap.size)(hw4:4≤w.heap.size)
 (hDg:D.F gd) (hnL:nL+sz+m≤10485760) (hnS:nS+sz+m≤10485760) (hD:NFD D.φ rb s gd o m ds vs gs sy dy) (hRaw: ∀w,D.φ w → RI .u8 w (some ⟨gd,o0,none⟩) sz raw) (hrby:Byt raw) (hrl:raw.length=sz) (hscr:sz≤cr) (hsz8:8≤sz) (hof0:0≤of) (hof1:of+ ↑m≤10485800)
 (H1:St w aR (wX fb big h AL AS nL cL nS cS vs gs sy dy D) w1) {ρ:dv} (h0:ρ 0= .f 109 (.pt rb)) (h4:ρ 4= .pt fb) (h12:ρ 12= .i of) (h13:ρ 13= .sl gd o m m) (h16:ρ 16= .e (bo big)) (h17:ρ 17= .w ii) (h18:ρ 18= .w 2) (h19:ρ 19= .w ↑sz) (h20:ρ 20= .sl gd o0 sz cr) (h21:ρ 21= .np) (hw:h 0=4277009103)
 {Q:QE} (hQ: ∀s' ρ' w',bM true big xs raw s=some s' → Fr ρ' rb fb gd o m big ii → Mid w rb fb big h gd o m ds s' w' → Q .normal ρ' w') (hR:bM true big xs raw s=none → ∀ρ' w' T v,ρ' 2= .np → ρ' 3= .f T v → Keep w aR w' → Q .ret ρ' w'):
 W Tryd.prog 931 ((eF 3 (Tryd.f41.body.getD .skip)).getD .skip) Q ρ w1:=by
 refine rG Z ?_
 have H0:St w aR [an fb [.w (h 0),.w (h 1),.w (h 2),.w (h 3),.w (h 4),.w (h 5),.w (h 6),.e (bo big),.s AL nL cL,.s AS nS cS,sy,dy] 121,ay 123 1 (.s AL nL cL) nL vs,ay 125 1 (.s AS nS cS) nS (cK gs),D] w1:=H1
 refine ad (sr (mg h18 Z (wn (a6 (sr (wv Z (aT (c:=false) Z Z Z) (av (.b false) Z (wn (al Z (sr (wv Z (aT (c:=false) Z Z Z) ?_)))))))))))
 refine av (.b false) Z (wn (al Z (sr (wv Z (aT (c:=true) Z Z Z) (av (.b true) Z (wn (aB Z (sr (wm Z (aN H0 rN (fun g1 w2 aG H3=>wn ?_)))))))))))
 refine sr (mg h20 Z (wE [.sl gd o0 sz cr] oR Z Z (aa (dB (some ⟨gd,o0,none⟩) sz cr _) ?_)))
 rintro e w5 ⟨gq,rfl,hgq,au⟩
 have H6:=H3.cal0 au
 refine⟨_,Z,ap gq 0 Z (wn (ad (ad ?_)))⟩
 by_cases hfit:0+24≤sz
 ·
  obtain⟨ys,hys⟩: ∃q,q=(raw.drop (0)).take 24:=⟨_,rfl⟩
  have hbys:Byt ys:=by rw[hys];exact(hrby.drop _).take _
  have hlys:ys.length=24:=by rw[hys,List.length_take,List.length_drop,hrl];omega
  obtain⟨q8,H⟩: ∃q:Nat,(q:Int)=n4 big (ys.drop 8):=⟨(n4 big (ys.drop 8)).toNat,Int.toNat_of_nonneg (ba big (hbys.drop _)).1⟩
  have az:(q8:Int)<4294967296:=by rw[H];exact(ba big (hbys.drop _)).2
  obtain⟨d,y⟩: ∃q:Nat,(q:Int)=n4 big (ys.drop 12):=⟨(n4 big (ys.drop 12)).toNat,Int.toNat_of_nonneg (ba big (hbys.drop _)).1⟩
  have ag:(d:Int)<4294967296:=by rw[y];exact(ba big (hbys.drop _)).2
  obtain⟨r,z⟩: ∃q:Nat,(q:Int)=n4 big (ys.drop 16):=⟨(n4 big (ys.drop 16)).toNat,Int.toNat_of_nonneg (ba big (hbys.drop _)).1⟩
  have ah:(r:Int)<4294967296:=by rw[z];exact(ba big (hbys.drop _)).2
  obtain⟨l,B⟩: ∃q:Nat,(q:Int)=n4 big (ys.drop 20):=⟨(n4 big (ys.drop 20)).toNat,Int.toNat_of_nonneg (ba big (hbys.drop _)).1⟩
  have am:(l:Int)<4294967296:=by rw[B];exact(ba big (hbys.drop _)).2
  refine ae (mp gq 0 Z (wv Z (aJ (v:= .pt gq) fu Z) (mg h16 Z (wE [.pt g1,.f 109 (.pt gq),.e (bo big)] zC Z Z ?_))))
  have aH:=H6.blk_ne (i:=0) (j:=1) rfl rfl (by decide)
  have M:=H6.ge (i:=0) rfl
  have O:=H6.ge (i:=1) rfl
  have hws:=H6.keep.size
  refine aa (jg (ys:=ys) (i:=0) (A:=some ⟨gd,o0,none⟩) (xs:=raw) big _ (H6.g 1 Z) (H6.g 0 Z) (hG.keep H6.keep fun k hk=>hk.elim) hscr (by omega) (hRaw _ (H6.g 5 Z)) hrby (fun a ha=>by injection ha with ha;subst ha;exact⟨D.live _ _ (H6.g 5 Z) hDg,H6.sepD (i:=0) (j:=5) Z Z (by decide) hDg,H6.sepD (i:=1) (j:=5) Z Z (by decide) hDg⟩) (by omega) (by omega) (by omega) (by omega) (by omega) hys) ?_
  rintro e w9 ⟨rfl,I⟩
  rw[←H]at I
  rw[←y]at I
  rw[←z]at I
  rw[←B]at I
  have u:=H6.ky 1 0 rfl rfl I (fun _ h=>h)
  refine⟨_,Z,av (.n) Z (wn (sr (mv (.n) Z (wv Z ((nn false bI Z (.inl Z))) (wn (al Z (wk (ad ?_))))))))⟩
  by_cases hf1:l=0∨r+l≤N
  ·
   refine ae (mg h0 Z (wf k6 Z (wv Z (u.ld 0 Z ax Z (.w (↑l)) Z) (wv Z (ao bv be Z (aC (by omega) (by omega))) (wf kA Z (wv Z (u.ld 0 Z ax Z (.w (↑r)) Z) (wv Z (ao bv ip Z (a5 (by omega) (by omega))) (wE [.f 109 (.pt rb),.q (↑l),.i (↑r)] kH Z Z (aa (jM (n:=l) (off:=r) _ (bV hrb u.keep) (hG.keep u.keep fun k hk=>hk.elim) hNC hN (hr.keep0 u.keep) (fun a ha=>Nat.lt_of_lt_of_le (hA a ha) u.keep.size) (Nat.le_trans hw4 u.keep.size) (by omega) hf1) ?_)))))))))
   rintro e aK ⟨E,rfl,aq,P⟩
   have t:=u.cal0 P
   refine⟨_,Z,mv (.tuple #[.sl E 0 l l,.n]) Z (we (.sl E 0 l l) Z Z (we (.n) Z Z (eL E 0 l l Z (av (.n) Z (wn (ad (sr (mv (.n) Z (wv Z ((nn false bI Z (.inl Z))) (wn ?_))))))))))⟩
   refine al Z (wk (sr (ai 0 Z (wn (ad (sr (mg h4 Z (wc Z (wf dE Z (wf i1 Z (wv Z (t.ld 3 Z ax Z (.w (h 0)) Z) ?_)))))))))))
   refine wv Z (aT Z Z (beq_iff_eq.2 (hw))) (wn (aB Z (ae (ai 16 Z (wn (ad ?_))))))
   by_cases hf2:16*d=0∨q8+16*d≤N
   ·
    refine ae (mg h0 Z (wf gJ Z (wv Z (t.ld 1 Z ax Z (.w (↑d)) Z) (wv Z (ao bv be Z (aC (by omega) (by omega))) (mi 16 Z (wv Z (ao (c:=16) ej be Z Z) (wv Z (cM (k:= .u64) (c:= ↑(16*d)) Z Z (by rw[aC (by omega) (by omega)];omega)) (wf kB Z (wv Z (t.ld 1 Z ax Z (.w (↑q8)) Z) (wv Z (ao bv ip Z (a5 (by omega) (by omega))) (wE [.f 109 (.pt rb),.q (↑(16*d)),.i (↑q8)] kH Z Z ?_)))))))))))
    refine aa (jM (n:=16*d) (off:=q8) _ (bV hrb t.keep) (hG.keep t.keep fun k hk=>hk.elim) hNC hN (hr.keep0 t.keep) (fun a ha=>Nat.lt_of_lt_of_le (hA a ha) t.keep.size) (Nat.le_trans hw4 t.keep.size) (by omega) hf2) ?_
    rintro e aL ⟨G,rfl,ar,R⟩
    have x:=t.cal0 R
    refine⟨_,Z,mv (.tuple #[.sl G 0 (16*d) (16*d),.n]) Z (we (.sl G 0 (16*d) (16*d)) Z Z (we (.n) Z Z (eL G 0 (16*d) (16*d) Z (av (.n) Z (wn (ad (sr (mv (.n) Z (wv Z ((nn false bI Z (.inl Z))) (wn ?_))))))))))⟩
    refine al Z (wk (sr (mg h4 Z (ms G 0 (16*d) (16*d) Z (ms E 0 l l Z (mg h20 Z (mg h12 Z (wE [.pt fb,.sl G 0 (16*d) (16*d),.sl E 0 l l,.sl gd o0 sz cr,.pt g1,.i of] CK56 Z Z (aa (y4 (xs:=((xs.drop q8).take (16*d))) (st:=((xs.drop r).take l)) big _ (x.c 4 0 Z Z) (x.c 4 7 Z Z) hw (x.c 2 3 Z Z) (by omega) (hG.keep x.keep fun k hk=>hk.elim) (Nat.le_trans hw4 x.keep.size) (aj (x.g 0 Z) (by rw[List.length_take,List.length_drop,hr.1];omega)) ((hby.drop _).take _) (x.lt (i:=0) Z) (aj (x.g 1 Z) (by rw[List.length_take,List.length_drop,hr.1];omega)) ((hby.drop _).take _) (Nat.le_refl _) (by omega)) ?_)))))))))
    rintro e aM (⟨hgood,gsy,Av,cv,D2,rfl,J,S⟩|⟨hbad,T,ev,rfl,J⟩)
    ·
     have U:=x.cal0 J
     refine⟨_,Z,mv (.tuple #[.pt gsy,.n]) Z (we (.pt gsy) Z Z (we (.n) Z Z (ap gsy 0 Z (av (.n) Z (wn (ad (sr (mv (.n) Z (wv Z ((nn false bI Z (.inl Z))) (wn ?_))))))))))⟩
     refine al Z (wk (sr (mg h4 Z (mg h4 Z (wc Z (wf dR Z (wv Z (U.ld 5 Z eX Z (.s AL nL cL) Z) (mp gsy 0 Z (wv Z (aJ (v:= .pt gsy) zN Z) (wm Z (eb U 123 [.f 118 (.pt gsy)] Z (by kernel_rfl) (fun aO aP a2 V=> ?_))))))))))))
     refine wm Z (bG V 7 (m:=1) (news:= [.f 118 (.pt gsy)]) Z l4 lF Z (by decide) Z Z Z (V.news (i:=0) Z) (by simp[Value.oneCell']) (by simp only[maxLen];omega) (by omega) (fun aQ aU X=> ?_))
     obtain⟨K,L,rfl,_,_⟩:=aw (X.g 7 rfl)
     refine wc Z (wf dR Z (ws (es X 6 8 (.s K (nL+1) L) Z eX (fun aV a3=> ?_))))
     refine wn (ae (mg h4 Z (mp gsy 0 Z (wc Z (wf iw Z (ws (es a3 6 10 (.pt gsy) Z jK (fun a4 a8=> ?_))))))))
     refine bk (ak (ac (sr (mg h21 Z (wv Z ((show Yv _ _ _ _ (.b false) _ from dD (p:=none) m5 Z)) (wn (al Z (dw ?_))))))))
     have hst:bM true big xs raw s=some {s with loads:=s.loads++ [⟨4,raw,[],[0,0,0,0,0,0]⟩],syms:=some (cR true big ((xs.drop r).take l) ((xs.drop q8).take (16*d)) d)}:=by have e1:jk xs r l=some ((xs.drop r).take l):=da (by rw[hr.1];exact hf1);have e2:jk xs q8 (dY true*d)=some ((xs.drop q8).take (16*d)):=da (by rw[hr.1];exact hf2);have e3:pP true big ((xs.drop r).take l) ((xs.drop q8).take (16*d)) d=some (cR true big ((xs.drop r).take l) ((xs.drop q8).take (16*d)) d):=if_pos hgood;simp only[bM,←hys,←H,←y,←z,←B,Int.toNat_natCast,e1,e2,e3];rw[if_neg (by omega)]
     have Hn:St w aR [an fb [.w (h 0),.w (h 1),.w (h 2),.w (h 3),.w (h 4),.w (h 5),.w (h 6),.e (bo big),.s K (nL+1) L,.s AS nS cS,.pt gsy,dy] 121,ay 123 1 (.s K (nL+1) L) (nL+1) (vs++ [.f 118 (.pt gsy)]),ay 125 1 (.s AS nS cS) nS (cK gs),Res.all [D2,D]] a4:=(a8.reAll [1,9] [6,7,8]).re [1,2,3,0]
     have hsub: ∀w,(Res.all [D2,D]).φ w → D.φ w:=fun w hh=>aS.1 hh D (by simp)
     have hDn:NFD (Res.all [D2,D]).φ rb ({s with loads:=s.loads++ [⟨4,raw,[],[0,0,0,0,0,0]⟩],syms:=some (cR true big ((xs.drop r).take l) ((xs.drop q8).take (16*d)) d)}) gd o m ds (vs++ [.f 118 (.pt gsy)]) gs (.pt gsy) (dy):=⟨fun w hh=>hD.dat w (hsub w hh),fun w hh=>(hD.ld w (hsub w hh)).snoc (by have hh:=aS.1 hh;exact .inr (.inr (.inr (.inr (.inl ⟨_,_,_,raw,gsy,_,rfl,(S _ (hh D2 (by simp))).1,hRaw _ (hsub _ (aS.2 hh)),by omega,rfl⟩))))),fun w hh=>hD.sc w (hsub w hh),.inr ⟨gsy,d,cv,Av,_,_,_,_,_,_,_,_,rfl,rfl,by omega,by rw[dX],fun w hh=>S w (aS.1 hh D2 (by simp))⟩,hD.dy.mono hsub⟩
     exact hQ _ _ _ hst ⟨h0,h4,⟨_,h12,hof0,hof1⟩,h13,h16,h17⟩ ⟨Res.all [D2,D],_,_,_,_,_,_,vs++ [.f 118 (.pt gsy)],gs,_,_,.inr (.inl hDg),by omega,by omega,hDn,Hn⟩
    ·
     have a9:=x.cal0 J
     refine⟨_,Z,mv (.tuple #[.np,.f T ev]) Z (we (.np) Z Z (we (.f T ev) Z Z (av (.np) Z (av (.f T ev) Z (wn (ad (sr (mv (.f T ev) Z (wv Z ((nn true bI Z (.inr ⟨_,_,Z⟩))) (wn ?_))))))))))⟩
     refine aB Z (sr (mv (.f T ev) Z (av (.np) Z (av (.f T ev) Z (wn (rq (aI (a7 ?_))))))))
     have hst:bM true big xs raw s=none:=by have e1:jk xs r l=some ((xs.drop r).take l):=da (by rw[hr.1];exact hf1);have e2:jk xs q8 (dY true*d)=some ((xs.drop q8).take (16*d)):=da (by rw[hr.1];exact hf2);have e3:pP true big ((xs.drop r).take l) ((xs.drop q8).take (16*d)) d=none:=if_neg (fun h=>by obtain⟨k,hk,hb⟩:=hbad;exact h k hk hb);simp only[bM,←hys,←H,←y,←z,←B,Int.toNat_natCast,e1,e2,e3];rw[if_neg (by omega)]
     exact hR hst _ _ _ _ Z Z a9.keep
   ·
    refine ae (mg h0 Z (wf gJ Z (wv Z (t.ld 1 Z ax Z (.w (↑d)) Z) (wv Z (ao bv be Z (aC (by omega) (by omega))) (mi 16 Z (wv Z (ao (c:=16) ej be Z Z) (wv Z (cM (k:= .u64) (c:= ↑(16*d)) Z Z (by rw[aC (by omega) (by omega)];omega)) (wf kB Z (wv Z (t.ld 1 Z ax Z (.w (↑q8)) Z) (wv Z (ao bv ip Z (a5 (by omega) (by omega))) (wE [.f 109 (.pt rb),.q (↑(16*d)),.i (↑q8)] kH Z Z ?_)))))))))))
    refine aa (iI (n:=16*d) (off:=q8) _ (bV hrb t.keep) (hG.keep t.keep fun k hk=>hk.elim) hNC hN (hr.keep0 t.keep) (fun a ha=>Nat.lt_of_lt_of_le (hA a ha) t.keep.size) (Nat.le_trans hw4 t.keep.size) (by omega) (by omega) (by omega) (by omega)) ?_
    rintro e aW ⟨T,ev,rfl,Y⟩
    have aA:=t.cal0 Y
    refine⟨_,Z,mv (.tuple #[.ns,.f T ev]) Z (we (.ns) Z Z (we (.f T ev) Z Z (av (.ns) Z (av (.f T ev) Z (wn (ad (sr (mv (.f T ev) Z (wv Z ((nn true bI Z (.inr ⟨_,_,Z⟩))) (wn ?_))))))))))⟩
    refine aB Z (sr (mv (.f T ev) Z (av (.np) Z (av (.f T ev) Z (wn (rq (aI (a7 ?_))))))))
    have hst:bM true big xs raw s=none:=by have e1:jk xs r l=some ((xs.drop r).take l):=da (by rw[hr.1];exact hf1);have e2:jk xs q8 (dY true*d)=none:=eR (by rw[hr.1];exact hf2);simp only[bM,←hys,←H,←y,←z,←B,Int.toNat_natCast,e1,e2];rw[if_neg (by omega)]
    exact hR hst _ _ _ _ Z Z aA.keep
  ·
   refine ae (mg h0 Z (wf k6 Z (wv Z (u.ld 0 Z ax Z (.w (↑l)) Z) (wv Z (ao bv be Z (aC (by omega) (by omega))) (wf kA Z (wv Z (u.ld 0 Z ax Z (.w (↑r)) Z) (wv Z (ao bv ip Z (a5 (by omega) (by omega))) (wE [.f 109 (.pt rb),.q (↑l),.i (↑r)] kH Z Z (aa (iI (n:=l) (off:=r) _ (bV hrb u.keep) (hG.keep u.keep fun k hk=>hk.elim) hNC hN (hr.keep0 u.keep) (fun a ha=>Nat.lt_of_lt_of_le (hA a ha) u.keep.size) (Nat.le_trans hw4 u.keep.size) (by omega) (by omega) (by omega) (by omega)) ?_)))))))))
   rintro e aX ⟨T,ev,rfl,ab⟩
   have aD:=u.cal0 ab
   refine⟨_,Z,mv (.tuple #[.ns,.f T ev]) Z (we (.ns) Z Z (we (.f T ev) Z Z (av (.ns) Z (av (.f T ev) Z (wn (ad (sr (mv (.f T ev) Z (wv Z ((nn true bI Z (.inr ⟨_,_,Z⟩))) (wn ?_))))))))))⟩
   refine aB Z (sr (mv (.f T ev) Z (av (.np) Z (av (.f T ev) Z (wn (rq (aI (a7 ?_))))))))
   have hst:bM true big xs raw s=none:=by have e1:jk xs r l=none:=eR (by rw[hr.1];exact hf1);simp only[bM,←hys,←H,←y,←z,←B,Int.toNat_natCast,e1];rw[if_neg (by omega)]
   exact hR hst _ _ _ _ Z Z aD.keep
 ·
  refine ae (mp gq 0 Z (wv Z (aJ (v:= .pt gq) fu Z) (mg h16 Z (wE [.pt g1,.f 109 (.pt gq),.e (bo big)] zC Z Z ?_))))
  have aE:=H6.blk_ne (i:=0) (j:=1) rfl rfl (by decide)
  have M:=H6.ge (i:=0) rfl
  have O:=H6.ge (i:=1) rfl
  have hws:=H6.keep.size
  refine aa (iH (ys:= []) (i:=0) (A:=some ⟨gd,o0,none⟩) (xs:=raw) big _ (H6.g 1 Z) (H6.g 0 Z) (hG.keep H6.keep fun k hk=>hk.elim) hscr (by omega) (hRaw _ (H6.g 5 Z)) hrby (fun a ha=>by injection ha with ha;subst ha;exact⟨D.live _ _ (H6.g 5 Z) hDg,H6.sepD (i:=0) (j:=5) Z Z (by decide) hDg,H6.sepD (i:=1) (j:=5) Z Z (by decide) hDg⟩) (by omega) (by omega) (by omega) (by omega) (by omega)) ?_
  rintro e aY ⟨T,ev,rfl,af⟩
  have aF:=H6.ky 1 0 rfl rfl af (fun _ h=>h)
  refine⟨_,Z,av (.f T ev) Z (wn (sr (mv (.f T ev) Z (wv Z ((nn true bI Z (.inr ⟨_,_,Z⟩))) (wn (aB Z (sr (mv (.f T ev) Z (av (.np) Z (av (.f T ev) Z ?_))))))))))⟩
  refine wn (rq (aI (a7 ?_)))
  have hst:bM true big xs raw s=none:=by unfold bM;rw[if_pos (by omega)]
  exact hR hst _ _ _ _ Z Z aF.keep
theorem wT{rb N C fb gd o0 o m sz cr nL cL nS cS:Nat}{A AL AS:Option Addr}{i0 p0 of ii:Int}{xs raw ds:List Int}{a0 a1:Addr}{h:Nat → Int}{vs:List Value}{gs:List Nat}{sy dy:Value}{D:Res}{s:PSt}(big:Bool)(w w1:World)(hrb:(an rb [.s A N C,.i i0,.i p0] 190).φ w)(hG:Glob 224 w a0 a1)(hNC:N≤C)(hN:N<10485760)(hr:RI .u8 w A N xs)(hby:Byt xs)(hA: ∀a,A=some a → a.block<w.heap.size)(hw4:4≤w.heap.size)
 (hDg:D.F gd) (hnL:nL+sz+m≤10485760) (hnS:nS+sz+m≤10485760) (hD:NFD D.φ rb s gd o m ds vs gs sy dy) (hRaw: ∀w,D.φ w → RI .u8 w (some ⟨gd,o0,none⟩) sz raw) (hrby:Byt raw) (hrl:raw.length=sz) (hscr:sz≤cr) (hsz8:8≤sz) (hof0:0≤of) (hof1:of+ ↑m≤10485800)
 (H1:St w aR (wX fb big h AL AS nL cL nS cS vs gs sy dy D) w1) {ρ:dv} (h0:ρ 0= .f 109 (.pt rb)) (h4:ρ 4= .pt fb) (h12:ρ 12= .i of) (h13:ρ 13= .sl gd o m m) (h16:ρ 16= .e (bo big)) (h17:ρ 17= .w ii) (h18:ρ 18= .w 2) (h19:ρ 19= .w ↑sz) (h20:ρ 20= .sl gd o0 sz cr) (h21:ρ 21= .np) (hw:h 0≠4277009103)
 {Q:QE} (hQ: ∀s' ρ' w',bM false big xs raw s=some s' → Fr ρ' rb fb gd o m big ii → Mid w rb fb big h gd o m ds s' w' → Q .normal ρ' w') (hR:bM false big xs raw s=none → ∀ρ' w' T v,ρ' 2= .np → ρ' 3= .f T v → Keep w aR w' → Q .ret ρ' w'):
 W Tryd.prog 931 ((eF 3 (Tryd.f41.body.getD .skip)).getD .skip) Q ρ w1:=by
 refine rG Z ?_
 have H0:St w aR [an fb [.w (h 0),.w (h 1),.w (h 2),.w (h 3),.w (h 4),.w (h 5),.w (h 6),.e (bo big),.s AL nL cL,.s AS nS cS,sy,dy] 121,ay 123 1 (.s AL nL cL) nL vs,ay 125 1 (.s AS nS cS) nS (cK gs),D] w1:=H1
 refine ad (sr (mg h18 Z (wn (a6 (sr (wv Z (aT (c:=false) Z Z Z) (av (.b false) Z (wn (al Z (sr (wv Z (aT (c:=false) Z Z Z) ?_)))))))))))
 refine av (.b false) Z (wn (al Z (sr (wv Z (aT (c:=true) Z Z Z) (av (.b true) Z (wn (aB Z (sr (wm Z (aN H0 rN (fun g1 w2 aG H3=>wn ?_)))))))))))
 refine sr (mg h20 Z (wE [.sl gd o0 sz cr] oR Z Z (aa (dB (some ⟨gd,o0,none⟩) sz cr _) ?_)))
 rintro e w5 ⟨gq,rfl,hgq,au⟩
 have H6:=H3.cal0 au
 refine⟨_,Z,ap gq 0 Z (wn (ad (ad ?_)))⟩
 by_cases hfit:0+24≤sz
 ·
  obtain⟨ys,hys⟩: ∃q,q=(raw.drop (0)).take 24:=⟨_,rfl⟩
  have hbys:Byt ys:=by rw[hys];exact(hrby.drop _).take _
  have hlys:ys.length=24:=by rw[hys,List.length_take,List.length_drop,hrl];omega
  obtain⟨q8,H⟩: ∃q:Nat,(q:Int)=n4 big (ys.drop 8):=⟨(n4 big (ys.drop 8)).toNat,Int.toNat_of_nonneg (ba big (hbys.drop _)).1⟩
  have az:(q8:Int)<4294967296:=by rw[H];exact(ba big (hbys.drop _)).2
  obtain⟨d,y⟩: ∃q:Nat,(q:Int)=n4 big (ys.drop 12):=⟨(n4 big (ys.drop 12)).toNat,Int.toNat_of_nonneg (ba big (hbys.drop _)).1⟩
  have ag:(d:Int)<4294967296:=by rw[y];exact(ba big (hbys.drop _)).2
  obtain⟨r,z⟩: ∃q:Nat,(q:Int)=n4 big (ys.drop 16):=⟨(n4 big (ys.drop 16)).toNat,Int.toNat_of_nonneg (ba big (hbys.drop _)).1⟩
  have ah:(r:Int)<4294967296:=by rw[z];exact(ba big (hbys.drop _)).2
  obtain⟨l,B⟩: ∃q:Nat,(q:Int)=n4 big (ys.drop 20):=⟨(n4 big (ys.drop 20)).toNat,Int.toNat_of_nonneg (ba big (hbys.drop _)).1⟩
  have am:(l:Int)<4294967296:=by rw[B];exact(ba big (hbys.drop _)).2
  refine ae (mp gq 0 Z (wv Z (aJ (v:= .pt gq) fu Z) (mg h16 Z (wE [.pt g1,.f 109 (.pt gq),.e (bo big)] zC Z Z ?_))))
  have aH:=H6.blk_ne (i:=0) (j:=1) rfl rfl (by decide)
  have M:=H6.ge (i:=0) rfl
  have O:=H6.ge (i:=1) rfl
  have hws:=H6.keep.size
  refine aa (jg (ys:=ys) (i:=0) (A:=some ⟨gd,o0,none⟩) (xs:=raw) big _ (H6.g 1 Z) (H6.g 0 Z) (hG.keep H6.keep fun k hk=>hk.elim) hscr (by omega) (hRaw _ (H6.g 5 Z)) hrby (fun a ha=>by injection ha with ha;subst ha;exact⟨D.live _ _ (H6.g 5 Z) hDg,H6.sepD (i:=0) (j:=5) Z Z (by decide) hDg,H6.sepD (i:=1) (j:=5) Z Z (by decide) hDg⟩) (by omega) (by omega) (by omega) (by omega) (by omega) hys) ?_
  rintro e w9 ⟨rfl,I⟩
  rw[←H]at I
  rw[←y]at I
  rw[←z]at I
  rw[←B]at I
  have u:=H6.ky 1 0 rfl rfl I (fun _ h=>h)
  refine⟨_,Z,av (.n) Z (wn (sr (mv (.n) Z (wv Z ((nn false bI Z (.inl Z))) (wn (al Z (wk (ad ?_))))))))⟩
  by_cases hf1:l=0∨r+l≤N
  ·
   refine ae (mg h0 Z (wf k6 Z (wv Z (u.ld 0 Z ax Z (.w (↑l)) Z) (wv Z (ao bv be Z (aC (by omega) (by omega))) (wf kA Z (wv Z (u.ld 0 Z ax Z (.w (↑r)) Z) (wv Z (ao bv ip Z (a5 (by omega) (by omega))) (wE [.f 109 (.pt rb),.q (↑l),.i (↑r)] kH Z Z (aa (jM (n:=l) (off:=r) _ (bV hrb u.keep) (hG.keep u.keep fun k hk=>hk.elim) hNC hN (hr.keep0 u.keep) (fun a ha=>Nat.lt_of_lt_of_le (hA a ha) u.keep.size) (Nat.le_trans hw4 u.keep.size) (by omega) hf1) ?_)))))))))
   rintro e aK ⟨E,rfl,aq,P⟩
   have t:=u.cal0 P
   refine⟨_,Z,mv (.tuple #[.sl E 0 l l,.n]) Z (we (.sl E 0 l l) Z Z (we (.n) Z Z (eL E 0 l l Z (av (.n) Z (wn (ad (sr (mv (.n) Z (wv Z ((nn false bI Z (.inl Z))) (wn ?_))))))))))⟩
   refine al Z (wk (sr (ai 0 Z (wn (ad (sr (mg h4 Z (wc Z (wf dE Z (wf i1 Z (wv Z (t.ld 3 Z ax Z (.w (h 0)) Z) ?_)))))))))))
   refine wv Z (aT Z Z (beq_eq_false_iff_ne.2 (hw))) (wn (al Z (ae (ai 12 Z (wn (ad ?_))))))
   by_cases hf2:12*d=0∨q8+12*d≤N
   ·
    refine ae (mg h0 Z (wf gJ Z (wv Z (t.ld 1 Z ax Z (.w (↑d)) Z) (wv Z (ao bv be Z (aC (by omega) (by omega))) (mi 12 Z (wv Z (ao (c:=12) ej be Z Z) (wv Z (cM (k:= .u64) (c:= ↑(12*d)) Z Z (by rw[aC (by omega) (by omega)];omega)) (wf kB Z (wv Z (t.ld 1 Z ax Z (.w (↑q8)) Z) (wv Z (ao bv ip Z (a5 (by omega) (by omega))) (wE [.f 109 (.pt rb),.q (↑(12*d)),.i (↑q8)] kH Z Z ?_)))))))))))
    refine aa (jM (n:=12*d) (off:=q8) _ (bV hrb t.keep) (hG.keep t.keep fun k hk=>hk.elim) hNC hN (hr.keep0 t.keep) (fun a ha=>Nat.lt_of_lt_of_le (hA a ha) t.keep.size) (Nat.le_trans hw4 t.keep.size) (by omega) hf2) ?_
    rintro e aL ⟨G,rfl,ar,R⟩
    have x:=t.cal0 R
    refine⟨_,Z,mv (.tuple #[.sl G 0 (12*d) (12*d),.n]) Z (we (.sl G 0 (12*d) (12*d)) Z Z (we (.n) Z Z (eL G 0 (12*d) (12*d) Z (av (.n) Z (wn (ad (sr (mv (.n) Z (wv Z ((nn false bI Z (.inl Z))) (wn ?_))))))))))⟩
    refine al Z (wk (sr (mg h4 Z (ms G 0 (12*d) (12*d) Z (ms E 0 l l Z (mg h20 Z (mg h12 Z (wE [.pt fb,.sl G 0 (12*d) (12*d),.sl E 0 l l,.sl gd o0 sz cr,.pt g1,.i of] CK56 Z Z (aa (y5 (xs:=((xs.drop q8).take (12*d))) (st:=((xs.drop r).take l)) big _ (x.c 4 0 Z Z) (x.c 4 7 Z Z) hw (x.c 2 3 Z Z) (by omega) (hG.keep x.keep fun k hk=>hk.elim) (Nat.le_trans hw4 x.keep.size) (aj (x.g 0 Z) (by rw[List.length_take,List.length_drop,hr.1];omega)) ((hby.drop _).take _) (x.lt (i:=0) Z) (aj (x.g 1 Z) (by rw[List.length_take,List.length_drop,hr.1];omega)) ((hby.drop _).take _) (Nat.le_refl _) (by omega)) ?_)))))))))
    rintro e aM (⟨hgood,gsy,Av,cv,D2,rfl,J,S⟩|⟨hbad,T,ev,rfl,J⟩)
    ·
     have U:=x.cal0 J
     refine⟨_,Z,mv (.tuple #[.pt gsy,.n]) Z (we (.pt gsy) Z Z (we (.n) Z Z (ap gsy 0 Z (av (.n) Z (wn (ad (sr (mv (.n) Z (wv Z ((nn false bI Z (.inl Z))) (wn ?_))))))))))⟩
     refine al Z (wk (sr (mg h4 Z (mg h4 Z (wc Z (wf dR Z (wv Z (U.ld 5 Z eX Z (.s AL nL cL) Z) (mp gsy 0 Z (wv Z (aJ (v:= .pt gsy) zN Z) (wm Z (eb U 123 [.f 118 (.pt gsy)] Z (by kernel_rfl) (fun aO aP a2 V=> ?_))))))))))))
     refine wm Z (bG V 7 (m:=1) (news:= [.f 118 (.pt gsy)]) Z l4 lF Z (by decide) Z Z Z (V.news (i:=0) Z) (by simp[Value.oneCell']) (by simp only[maxLen];omega) (by omega) (fun aQ aU X=> ?_))
     obtain⟨K,L,rfl,_,_⟩:=aw (X.g 7 rfl)
     refine wc Z (wf dR Z (ws (es X 6 8 (.s K (nL+1) L) Z eX (fun aV a3=> ?_))))
     refine wn (ae (mg h4 Z (mp gsy 0 Z (wc Z (wf iw Z (ws (es a3 6 10 (.pt gsy) Z jK (fun a4 a8=> ?_))))))))
     refine bk (ak (ac (sr (mg h21 Z (wv Z ((show Yv _ _ _ _ (.b false) _ from dD (p:=none) m5 Z)) (wn (al Z (dw ?_))))))))
     have hst:bM false big xs raw s=some {s with loads:=s.loads++ [⟨4,raw,[],[0,0,0,0,0,0]⟩],syms:=some (cR false big ((xs.drop r).take l) ((xs.drop q8).take (12*d)) d)}:=by have e1:jk xs r l=some ((xs.drop r).take l):=da (by rw[hr.1];exact hf1);have e2:jk xs q8 (dY false*d)=some ((xs.drop q8).take (12*d)):=da (by rw[hr.1];exact hf2);have e3:pP false big ((xs.drop r).take l) ((xs.drop q8).take (12*d)) d=some (cR false big ((xs.drop r).take l) ((xs.drop q8).take (12*d)) d):=if_pos hgood;simp only[bM,←hys,←H,←y,←z,←B,Int.toNat_natCast,e1,e2,e3];rw[if_neg (by omega)]
     have Hn:St w aR [an fb [.w (h 0),.w (h 1),.w (h 2),.w (h 3),.w (h 4),.w (h 5),.w (h 6),.e (bo big),.s K (nL+1) L,.s AS nS cS,.pt gsy,dy] 121,ay 123 1 (.s K (nL+1) L) (nL+1) (vs++ [.f 118 (.pt gsy)]),ay 125 1 (.s AS nS cS) nS (cK gs),Res.all [D2,D]] a4:=(a8.reAll [1,9] [6,7,8]).re [1,2,3,0]
     have hsub: ∀w,(Res.all [D2,D]).φ w → D.φ w:=fun w hh=>aS.1 hh D (by simp)
     have hDn:NFD (Res.all [D2,D]).φ rb ({s with loads:=s.loads++ [⟨4,raw,[],[0,0,0,0,0,0]⟩],syms:=some (cR false big ((xs.drop r).take l) ((xs.drop q8).take (12*d)) d)}) gd o m ds (vs++ [.f 118 (.pt gsy)]) gs (.pt gsy) (dy):=⟨fun w hh=>hD.dat w (hsub w hh),fun w hh=>(hD.ld w (hsub w hh)).snoc (by have hh:=aS.1 hh;exact .inr (.inr (.inr (.inr (.inl ⟨_,_,_,raw,gsy,_,rfl,(S _ (hh D2 (by simp))).1,hRaw _ (hsub _ (aS.2 hh)),by omega,rfl⟩))))),fun w hh=>hD.sc w (hsub w hh),.inr ⟨gsy,d,cv,Av,_,_,_,_,_,_,_,_,rfl,rfl,by omega,by rw[dX],fun w hh=>S w (aS.1 hh D2 (by simp))⟩,hD.dy.mono hsub⟩
     exact hQ _ _ _ hst ⟨h0,h4,⟨_,h12,hof0,hof1⟩,h13,h16,h17⟩ ⟨Res.all [D2,D],_,_,_,_,_,_,vs++ [.f 118 (.pt gsy)],gs,_,_,.inr (.inl hDg),by omega,by omega,hDn,Hn⟩
    ·
     have a9:=x.cal0 J
     refine⟨_,Z,mv (.tuple #[.np,.f T ev]) Z (we (.np) Z Z (we (.f T ev) Z Z (av (.np) Z (av (.f T ev) Z (wn (ad (sr (mv (.f T ev) Z (wv Z ((nn true bI Z (.inr ⟨_,_,Z⟩))) (wn ?_))))))))))⟩
     refine aB Z (sr (mv (.f T ev) Z (av (.np) Z (av (.f T ev) Z (wn (rq (aI (a7 ?_))))))))
     have hst:bM false big xs raw s=none:=by have e1:jk xs r l=some ((xs.drop r).take l):=da (by rw[hr.1];exact hf1);have e2:jk xs q8 (dY false*d)=some ((xs.drop q8).take (12*d)):=da (by rw[hr.1];exact hf2);have e3:pP false big ((xs.drop r).take l) ((xs.drop q8).take (12*d)) d=none:=if_neg (fun h=>by obtain⟨k,hk,hb⟩:=hbad;exact h k hk hb);simp only[bM,←hys,←H,←y,←z,←B,Int.toNat_natCast,e1,e2,e3];rw[if_neg (by omega)]
     exact hR hst _ _ _ _ Z Z a9.keep
   ·
    refine ae (mg h0 Z (wf gJ Z (wv Z (t.ld 1 Z ax Z (.w (↑d)) Z) (wv Z (ao bv be Z (aC (by omega) (by omega))) (mi 12 Z (wv Z (ao (c:=12) ej be Z Z) (wv Z (cM (k:= .u64) (c:= ↑(12*d)) Z Z (by rw[aC (by omega) (by omega)];omega)) (wf kB Z (wv Z (t.ld 1 Z ax Z (.w (↑q8)) Z) (wv Z (ao bv ip Z (a5 (by omega) (by omega))) (wE [.f 109 (.pt rb),.q (↑(12*d)),.i (↑q8)] kH Z Z ?_)))))))))))
    refine aa (iI (n:=12*d) (off:=q8) _ (bV hrb t.keep) (hG.keep t.keep fun k hk=>hk.elim) hNC hN (hr.keep0 t.keep) (fun a ha=>Nat.lt_of_lt_of_le (hA a ha) t.keep.size) (Nat.le_trans hw4 t.keep.size) (by omega) (by omega) (by omega) (by omega)) ?_
    rintro e aW ⟨T,ev,rfl,Y⟩
    have aA:=t.cal0 Y
    refine⟨_,Z,mv (.tuple #[.ns,.f T ev]) Z (we (.ns) Z Z (we (.f T ev) Z Z (av (.ns) Z (av (.f T ev) Z (wn (ad (sr (mv (.f T ev) Z (wv Z ((nn true bI Z (.inr ⟨_,_,Z⟩))) (wn ?_))))))))))⟩
    refine aB Z (sr (mv (.f T ev) Z (av (.np) Z (av (.f T ev) Z (wn (rq (aI (a7 ?_))))))))
    have hst:bM false big xs raw s=none:=by have e1:jk xs r l=some ((xs.drop r).take l):=da (by rw[hr.1];exact hf1);have e2:jk xs q8 (dY false*d)=none:=eR (by rw[hr.1];exact hf2);simp only[bM,←hys,←H,←y,←z,←B,Int.toNat_natCast,e1,e2];rw[if_neg (by omega)]
    exact hR hst _ _ _ _ Z Z aA.keep
  ·
   refine ae (mg h0 Z (wf k6 Z (wv Z (u.ld 0 Z ax Z (.w (↑l)) Z) (wv Z (ao bv be Z (aC (by omega) (by omega))) (wf kA Z (wv Z (u.ld 0 Z ax Z (.w (↑r)) Z) (wv Z (ao bv ip Z (a5 (by omega) (by omega))) (wE [.f 109 (.pt rb),.q (↑l),.i (↑r)] kH Z Z (aa (iI (n:=l) (off:=r) _ (bV hrb u.keep) (hG.keep u.keep fun k hk=>hk.elim) hNC hN (hr.keep0 u.keep) (fun a ha=>Nat.lt_of_lt_of_le (hA a ha) u.keep.size) (Nat.le_trans hw4 u.keep.size) (by omega) (by omega) (by omega) (by omega)) ?_)))))))))
   rintro e aX ⟨T,ev,rfl,ab⟩
   have aD:=u.cal0 ab
   refine⟨_,Z,mv (.tuple #[.ns,.f T ev]) Z (we (.ns) Z Z (we (.f T ev) Z Z (av (.ns) Z (av (.f T ev) Z (wn (ad (sr (mv (.f T ev) Z (wv Z ((nn true bI Z (.inr ⟨_,_,Z⟩))) (wn ?_))))))))))⟩
   refine aB Z (sr (mv (.f T ev) Z (av (.np) Z (av (.f T ev) Z (wn (rq (aI (a7 ?_))))))))
   have hst:bM false big xs raw s=none:=by have e1:jk xs r l=none:=eR (by rw[hr.1];exact hf1);simp only[bM,←hys,←H,←y,←z,←B,Int.toNat_natCast,e1];rw[if_neg (by omega)]
   exact hR hst _ _ _ _ Z Z aD.keep
 ·
  refine ae (mp gq 0 Z (wv Z (aJ (v:= .pt gq) fu Z) (mg h16 Z (wE [.pt g1,.f 109 (.pt gq),.e (bo big)] zC Z Z ?_))))
  have aE:=H6.blk_ne (i:=0) (j:=1) rfl rfl (by decide)
  have M:=H6.ge (i:=0) rfl
  have O:=H6.ge (i:=1) rfl
  have hws:=H6.keep.size
  refine aa (iH (ys:= []) (i:=0) (A:=some ⟨gd,o0,none⟩) (xs:=raw) big _ (H6.g 1 Z) (H6.g 0 Z) (hG.keep H6.keep fun k hk=>hk.elim) hscr (by omega) (hRaw _ (H6.g 5 Z)) hrby (fun a ha=>by injection ha with ha;subst ha;exact⟨D.live _ _ (H6.g 5 Z) hDg,H6.sepD (i:=0) (j:=5) Z Z (by decide) hDg,H6.sepD (i:=1) (j:=5) Z Z (by decide) hDg⟩) (by omega) (by omega) (by omega) (by omega) (by omega)) ?_
  rintro e aY ⟨T,ev,rfl,af⟩
  have aF:=H6.ky 1 0 rfl rfl af (fun _ h=>h)
  refine⟨_,Z,av (.f T ev) Z (wn (sr (mv (.f T ev) Z (wv Z ((nn true bI Z (.inr ⟨_,_,Z⟩))) (wn (aB Z (sr (mv (.f T ev) Z (av (.np) Z (av (.f T ev) Z ?_))))))))))⟩
  refine wn (rq (aI (a7 ?_)))
  have hst:bM false big xs raw s=none:=by unfold bM;rw[if_pos (by omega)]
  exact hR hst _ _ _ _ Z Z aF.keep
theorem Az{rb N C fb gd o0 o m sz cr nL cL nS cS:Nat}{A AL AS:Option Addr}{i0 p0 of ii:Int}{xs raw ds:List Int}{a0 a1:Addr}{h:Nat → Int}{vs:List Value}{gs:List Nat}{sy dy:Value}{D:Res}{s:PSt}(big:Bool)(w w1:World)(hrb:(an rb [.s A N C,.i i0,.i p0] 190).φ w)(hG:Glob 224 w a0 a1)(hNC:N≤C)(hN:N<10485760)(hr:RI .u8 w A N xs)(hby:Byt xs)(hA: ∀a,A=some a → a.block<w.heap.size)(hw4:4≤w.heap.size)
 (hDg:D.F gd) (hnL:nL+sz+m≤10485760) (hnS:nS+sz+m≤10485760) (hD:NFD D.φ rb s gd o m ds vs gs sy dy) (hRaw: ∀w,D.φ w → RI .u8 w (some ⟨gd,o0,none⟩) sz raw) (hrby:Byt raw) (hrl:raw.length=sz) (hscr:sz≤cr) (hsz8:8≤sz) (hof0:0≤of) (hof1:of+ ↑m≤10485800)
 (H1:St w aR (wX fb big h AL AS nL cL nS cS vs gs sy dy D) w1) {ρ:dv} (h0:ρ 0= .f 109 (.pt rb)) (h4:ρ 4= .pt fb) (h12:ρ 12= .i of) (h13:ρ 13= .sl gd o m m) (h16:ρ 16= .e (bo big)) (h17:ρ 17= .w ii) (h18:ρ 18= .w 11) (h19:ρ 19= .w ↑sz) (h20:ρ 20= .sl gd o0 sz cr) (h21:ρ 21= .np)
 {Q:QE} (hQ: ∀s' ρ' w',cX big xs raw s=some s' → Fr ρ' rb fb gd o m big ii → Mid w rb fb big h gd o m ds s' w' → Q .normal ρ' w') (hR:cX big xs raw s=none → ∀ρ' w' T v,ρ' 2= .np → ρ' 3= .f T v → Keep w aR w' → Q .ret ρ' w'):
 W Tryd.prog 931 ((eF 3 (Tryd.f41.body.getD .skip)).getD .skip) Q ρ w1:=by
 refine rG Z ?_
 have H0:St w aR [an fb [.w (h 0),.w (h 1),.w (h 2),.w (h 3),.w (h 4),.w (h 5),.w (h 6),.e (bo big),.s AL nL cL,.s AS nS cS,sy,dy] 121,ay 123 1 (.s AL nL cL) nL vs,ay 125 1 (.s AS nS cS) nS (cK gs),D] w1:=H1
 refine ad (sr (mg h18 Z (wn (a6 (sr (wv Z (aT (c:=false) Z Z Z) (av (.b false) Z (wn (al Z (sr (wv Z (aT (c:=false) Z Z Z) ?_)))))))))))
 refine av (.b false) Z (wn (al Z (sr (wv Z (aT (c:=false) Z Z Z) (av (.b false) Z (wn (al Z (sr (wv Z (aT (c:=true) Z Z Z) (av (.b true) Z (wn ?_)))))))))))
 refine aB Z (sr (wm Z (aN H0 xJ (fun g1 w2 bi H3=>wn (sr (mg h20 Z (wE [.sl gd o0 sz cr] oR Z Z (aa (dB (some ⟨gd,o0,none⟩) sz cr _) ?_))))))))
 rintro e w5 ⟨gq,rfl,hgq,aF⟩
 have H6:=H3.cal0 aF
 refine⟨_,Z,ap gq 0 Z (wn (ad (ad ?_)))⟩
 by_cases hfit:0+80≤sz
 ·
  obtain⟨ys,hys⟩: ∃q,q=(raw.drop (0)).take 80:=⟨_,rfl⟩
  have hbys:Byt ys:=by rw[hys];exact(hrby.drop _).take _
  have hlys:ys.length=80:=by rw[hys,List.length_take,List.length_drop,hrl];omega
  obtain⟨x,y⟩: ∃q:Nat,(q:Int)=n4 big (ys.drop 24):=⟨(n4 big (ys.drop 24)).toNat,Int.toNat_of_nonneg (ba big (hbys.drop _)).1⟩
  have a8:(x:Int)<4294967296:=by rw[y];exact(ba big (hbys.drop _)).2
  obtain⟨G,z⟩: ∃q:Nat,(q:Int)=n4 big (ys.drop 28):=⟨(n4 big (ys.drop 28)).toNat,Int.toNat_of_nonneg (ba big (hbys.drop _)).1⟩
  have a9:(G:Int)<4294967296:=by rw[z];exact(ba big (hbys.drop _)).2
  obtain⟨r,B⟩: ∃q:Nat,(q:Int)=n4 big (ys.drop 56):=⟨(n4 big (ys.drop 56)).toNat,Int.toNat_of_nonneg (ba big (hbys.drop _)).1⟩
  have aA:(r:Int)<4294967296:=by rw[B];exact(ba big (hbys.drop _)).2
  obtain⟨d,E⟩: ∃q:Nat,(q:Int)=n4 big (ys.drop 60):=⟨(n4 big (ys.drop 60)).toNat,Int.toNat_of_nonneg (ba big (hbys.drop _)).1⟩
  have aD:(d:Int)<4294967296:=by rw[E];exact(ba big (hbys.drop _)).2
  refine ae (mp gq 0 Z (wv Z (aJ (v:= .pt gq) fu Z) (mg h16 Z (wE [.pt g1,.f 109 (.pt gq),.e (bo big)] CK57 Z Z ?_))))
  have bj:=H6.blk_ne (i:=0) (j:=1) rfl rfl (by decide)
  have U:=H6.ge (i:=0) rfl
  have V:=H6.ge (i:=1) rfl
  have hws:=H6.keep.size
  refine aa (kF (ys:=ys) (i:=0) (A:=some ⟨gd,o0,none⟩) (xs:=raw) big _ (H6.g 1 Z) (H6.g 0 Z) (hG.keep H6.keep fun k hk=>hk.elim) hscr (by omega) (hRaw _ (H6.g 5 Z)) hrby (fun a ha=>by injection ha with ha;subst ha;exact⟨D.live _ _ (H6.g 5 Z) hDg,H6.sepD (i:=0) (j:=5) Z Z (by decide) hDg,H6.sepD (i:=1) (j:=5) Z Z (by decide) hDg⟩) (by omega) (by omega) (by omega) (by omega) (by omega) hys) ?_
  rintro e w9 ⟨rfl,I⟩
  rw[←y]at I
  rw[←z]at I
  rw[←B]at I
  rw[←E]at I
  have O:=H6.ky 1 0 rfl rfl I (fun _ h=>h)
  refine⟨_,Z,av (.n) Z (wn (sr (mv (.n) Z (wv Z ((nn false bI Z (.inl Z))) (wn (al Z (wk (ad (ad ?_)))))))))⟩
  rcases hD.sy with⟨rfl,hss⟩|⟨gyy,ny,cyy,Ayy,x0,x1,x2,x3,x4,x5,x6,ss,rfl,hss,hny,hsl,hfy⟩
  ·
   refine ae (mg h4 Z (wc Z (wf iw Z (wv Z (O.ld 2 Z jK Z (.np) Z) (wv Z ((show Yv _ _ _ _ (.b true) _ from pz (p:=none) tK Z)) (wn (aB Z (sr (mg h12 Z (wv Z (yz [.i of,.string (⟨#[100,121,110,97,109,105,99,32,115,121,109,98,111,108,32,116,97,98,108,101,32,115,101,101,110,32,98,101,102,111,114,101,32,97,110,121,32,111,114,100,105,110,97,114,121,32,115,121,109,98,111,108,32,116,97,98,108,101]⟩),.n] Z (by kernel_rfl)) (wm Z ?_)))))))))))
   refine fq O (vs:= [.i of,.string _,.n]) Z Z (fun X bl aG aK=>wv Z (aJ (v:= .pt X) jx Z) (av (.np) Z (av (.f 154 (.pt X)) Z (wn (rq (aI (a7 ?_)))))))
   have hst:cX big xs raw s=none:=by simp only[cX,←hys,←y,←z,←B,←E,Int.toNat_natCast,hss,if_neg (show ¬raw.length<80 by omega)]
   exact hR hst _ _ _ _ Z Z aK.keep
  ·
   refine ae (mg h4 Z (wc Z (wf iw Z (wv Z (O.ld 2 Z jK Z (.pt gyy) Z) (wv Z ((show Yv _ _ _ _ (.b false) _ from pz (p:=(some ⟨gyy,0,none⟩)) tK Z)) (wn (al Z (ad ?_))))))))
   have J:=O.drew
   refine aU MX (fun w'=>w'.cell? ⟨g1,6,none⟩=some (.w (↑x))∧w'.cell? ⟨fb,10,none⟩=some (.pt gyy)∧w'.cell? ⟨gyy,7,none⟩=some (.s Ayy ny cyy)) (tr 0 12 Pl.done) (by kernel_rfl) (⟨J.c 0 6 Z Z,J.c 2 10 Z Z,cZ (hfy _ (J.g 5 Z)).1 Z⟩) (qy Z (ab (o:=0) mR Z) (qh Z (fun hS=>ag ax Z hS.1) (qm (.pt fb) Z h4 (qy Z (ah Z) (qy Z (ab (o:=0) iw Z) (qh Z (fun hS=>ag jK Z hS.2.1) (qy Z (ah Z) (qy Z (ab (o:=0) lC Z) (qh Z (fun hS=>ag oH Z hS.2.2) (qy Z (aO (n:=ny) xO Z) (qy Z (ao (c:= ↑ny) ej jR Z (dm (by omega) (by omega))) ?_)))))))))))
   refine qy Z (eM (k:= .u32) (a:= ↑x) (b:= ↑ny) Z Z) (pn ?_)
   refine bK Z (fun K=> ?_) (fun K=> ?_)
   ·
    simp only[bx]at K
    refine sr (mg h12 Z (wv Z (yz [.i of,.string (⟨#[117,110,100,101,102,105,110,101,100,32,115,121,109,98,111,108,115,32,105,110,100,101,120,32,105,110,32,100,121,110,97,109,105,99,32,115,121,109,98,111,108,32,116,97,98,108,101,32,99,111,109,109,97,110,100,32,105,115,32,103,114,101,97,116,101,114,32,116,104,97,110,32,115,121,109,98,111,108,32,116,97,98,108,101,32,108,101,110,103,116,104]⟩),.n] Z (by kernel_rfl)) (wm Z (fq J (vs:= [.i of,.string _,.n]) Z Z (fun Y bm aL aM=>wv Z (aJ (v:= .pt Y) jx Z) (av (.np) Z (av (.f 154 (.pt Y)) Z (wn (rq (aI (a7 ?_)))))))))))
    have hst:cX big xs raw s=none:=by simp only[cX,←hys,←y,←z,←B,←E,Int.toNat_natCast,hss,if_neg (show ¬raw.length<80 by omega),if_pos (show ss.length<x by omega)]
    exact hR hst _ _ _ _ Z Z aM.keep
   ·
    simp only[bx]at K
    refine ad ?_
    have t:=J.drew
    refine aU MX (fun w'=>w'.cell? ⟨g1,6,none⟩=some (.w (↑x))∧w'.cell? ⟨g1,7,none⟩=some (.w (↑G))∧w'.cell? ⟨fb,10,none⟩=some (.pt gyy)∧w'.cell? ⟨gyy,7,none⟩=some (.s Ayy ny cyy)) (tr 0 15 Pl.done) (by kernel_rfl) (⟨t.c 0 6 Z Z,t.c 0 7 Z Z,t.c 2 10 Z Z,cZ (hfy _ (t.g 5 Z)).1 Z⟩) (qy Z (ab (o:=0) mR Z) (qh Z (fun hS=>ag ax Z hS.1) (qy Z (ab (o:=0) qI Z) (qh Z (fun hS=>ag ax Z hS.2.1) (qy Z (aH (k:= .u32) (c:=(↑x+ ↑G)%4294967296) Z Z Z) (qm (.pt fb) Z h4 (qy Z (ah Z) (qy Z (ab (o:=0) iw Z) (qh Z (fun hS=>ag jK Z hS.2.2.1) (qy Z (ah Z) (qy Z (ab (o:=0) lC Z) ?_)))))))))))
    refine qh Z (fun hS=>ag oH Z hS.2.2.2) (qy Z (aO (n:=ny) xO Z) (qy Z (ao (c:= ↑ny) ej jR Z (dm (by omega) (by omega))) (qy Z (eM (k:= .u32) (a:=(↑x+ ↑G)%4294967296) (b:= ↑ny) Z Z) (pn ?_))))
    refine bK Z (fun L=> ?_) (fun L=> ?_)
    ·
     simp only[bx]at L
     refine sr (mg h12 Z (wv Z (yz [.i of,.string (⟨#[110,117,109,98,101,114,32,111,102,32,117,110,100,101,102,105,110,101,100,32,115,121,109,98,111,108,115,32,97,102,116,101,114,32,105,110,100,101,120,32,105,110,32,100,121,110,97,109,105,99,32,115,121,109,98,111,108,32,116,97,98,108,101,32,99,111,109,109,97,110,100,32,105,115,32,103,114,101,97,116,101,114,32,116,104,97,110,32,115,121,109,98,111,108,32,116,97,98,108,101,32,108,101,110,103,116,104]⟩),.n] Z (by kernel_rfl)) (wm Z (fq t (vs:= [.i of,.string _,.n]) Z Z (fun af bn aP aQ=>wv Z (aJ (v:= .pt af) jx Z) (av (.np) Z (av (.f 154 (.pt af)) Z (wn (rq (aI (a7 ?_)))))))))))
     have hst:cX big xs raw s=none:=by simp only[cX,←hys,←y,←z,←B,←E,Int.toNat_natCast,hss,if_neg (show ¬raw.length<80 by omega),if_neg (show ¬ss.length<x by omega),if_pos (show ss.length<((↑x+ ↑G:Int)%4294967296).toNat by omega)]
     exact hR hst _ _ _ _ Z Z aQ.keep
    ·
     simp only[bx]at L
     refine wk (ad ?_)
     by_cases hf1:4*d=0∨r+4*d≤N
     ·
      refine ae (mg h0 Z (wf jY Z (wv Z (t.ld 0 Z ax Z (.w (↑d)) Z) (wv Z (ao bv be Z (aC (by omega) (by omega))) (wv Z (cM (k:= .u64) (c:= ↑(4*d)) Z Z (by rw[aC (by omega) (by omega)];omega)) (wf lB Z (wv Z (t.ld 0 Z ax Z (.w (↑r)) Z) (wv Z (ao bv ip Z (a5 (by omega) (by omega))) (wE [.f 109 (.pt rb),.q (↑(4*d)),.i (↑r)] kH Z Z (aa (jM (n:=4*d) (off:=r) _ (bV hrb t.keep) (hG.keep t.keep fun k hk=>hk.elim) hNC hN (hr.keep0 t.keep) (fun a ha=>Nat.lt_of_lt_of_le (hA a ha) t.keep.size) (Nat.le_trans hw4 t.keep.size) (by omega) hf1) ?_))))))))))
      rintro e bp ⟨H,rfl,aE,ai⟩
      have am:=t.cal0 ai
      refine⟨_,Z,mv (.tuple #[.sl H 0 (4*d) (4*d),.n]) Z (we (.sl H 0 (4*d) (4*d)) Z Z (we (.n) Z Z (eL H 0 (4*d) (4*d) Z (av (.n) Z (wn (ad (sr (mv (.n) Z (wv Z ((nn false bI Z (.inl Z))) (wn ?_))))))))))⟩
      refine al Z (wk (sr (wf jY Z (wv Z (am.ld 1 Z ax Z (.w (↑d)) Z) (wm Z (bJ am (n:=d) (m:=d) tc vU Z Z Z Z Z (by omega) (by omega) (by omega) (fun u bq aV P=>eL u 0 d d Z (wn (ad (sr (ms H 0 (4*d) (4*d) Z ?_)))))))))))
      refine mg h16 Z (ms u 0 d d Z (wE [.sl H 0 (4*d) (4*d),.e (bo big),.sl u 0 d d] CK58 Z Z (aa (rx big _ (P.g 0 Z) (aj (P.g 1 Z) (by rw[List.length_take,List.length_drop,hr.1];omega)) ((hby.drop _).take _) (fun e=>P.blk_ne (i:=0) (j:=1) Z Z (by decide) e.symm) (Nat.le_refl _) (by omega)) ?_)))
      rintro e br ⟨rfl,aq⟩
      have aW:=P.kx 0 rfl aq (fun _ h=>h)
      refine⟨_,Z,av (.n) Z (wn (sr (mv (.n) Z (wv Z ((nn false bI Z (.inl Z))) (wn (al Z (wk (sr (wm Z (aN aW xI (fun l bs aX aY=> ?_)))))))))))⟩
      refine ap l 0 Z (wn (sr (mp l 0 Z (mg h20 Z (wc Z (wf zg Z (ws (es aY 0 0 (.sl gd o0 sz cr) Z hX (fun bt ar=> ?_)))))))))
      refine wn (sr (mp l 0 Z (wv Z (ar.loadA (i:=3) (vs:= [.w (n4 big (ys.drop 0)),.w (n4 big (ys.drop 4)),.w (n4 big (ys.drop 8)),.w (n4 big (ys.drop 12)),.w (n4 big (ys.drop 16)),.w (n4 big (ys.drop 20)),.w (↑x),.w (↑G),.w (n4 big (ys.drop 32)),.w (n4 big (ys.drop 36)),.w (n4 big (ys.drop 40)),.w (n4 big (ys.drop 44)),.w (n4 big (ys.drop 48)),.w (n4 big (ys.drop 52)),.w (↑r),.w (↑d),.w (n4 big (ys.drop 64)),.w (n4 big (ys.drop 68)),.w (n4 big (ys.drop 72)),.w (n4 big (ys.drop 76))]) Z TG146 Z Z Z) (wc Z (wf dz Z (ws (bE ar 0 (vs:= [.w (n4 big (ys.drop 0)),.w (n4 big (ys.drop 4)),.w (n4 big (ys.drop 8)),.w (n4 big (ys.drop 12)),.w (n4 big (ys.drop 16)),.w (n4 big (ys.drop 20)),.w (↑x),.w (↑G),.w (n4 big (ys.drop 32)),.w (n4 big (ys.drop 36)),.w (n4 big (ys.drop 40)),.w (n4 big (ys.drop 44)),.w (n4 big (ys.drop 48)),.w (n4 big (ys.drop 52)),.w (↑r),.w (↑d),.w (n4 big (ys.drop 64)),.w (n4 big (ys.drop 68)),.w (n4 big (ys.drop 72)),.w (n4 big (ys.drop 76))]) (m:=20) Z TZ146 Z Z Z (nl Z) (by simp[Value.oneCell']) (cs':= [.sl gd o0 sz cr,.w (n4 big (ys.drop 0)),.w (n4 big (ys.drop 4)),.w (n4 big (ys.drop 8)),.w (n4 big (ys.drop 12)),.w (n4 big (ys.drop 16)),.w (n4 big (ys.drop 20)),.w (↑x),.w (↑G),.w (n4 big (ys.drop 32)),.w (n4 big (ys.drop 36)),.w (n4 big (ys.drop 40)),.w (n4 big (ys.drop 44)),.w (n4 big (ys.drop 48)),.w (n4 big (ys.drop 52)),.w (↑r),.w (↑d),.w (n4 big (ys.drop 64)),.w (n4 big (ys.drop 68)),.w (n4 big (ys.drop 72)),.w (n4 big (ys.drop 76)),.ns]) Z (fun bu aZ=> ?_))))))))
      refine wn (sr (mp l 0 Z (ms u 0 d d Z (wc Z (wf qH Z (ws (es aZ 0 21 (.sl u 0 d d) Z eE (fun bw au=> ?_))))))))
      refine wn (sr (mg h4 Z (mg h4 Z (wc Z (wf dR Z (wv Z (au.ld 5 Z eX Z (.s AL nL cL) Z) (mp l 0 Z (wv Z (aJ (v:= .pt l) TC119 Z) (wm Z (eb au 123 [.f 119 (.pt l)] Z (by kernel_rfl) (fun bz b0 bb az=>wm Z ?_)))))))))))
      refine bG az 7 (m:=1) (news:= [.f 119 (.pt l)]) Z l4 lF Z (by decide) Z Z Z (az.news (i:=0) Z) (by simp[Value.oneCell']) (by simp only[maxLen];omega) (by omega) (fun b1 b2 a2=> ?_)
      obtain⟨R,S,rfl,_,_⟩:=aw (a2.g 7 rfl)
      refine wc Z (wf dR Z (ws (es a2 6 8 (.s R (nL+1) S) Z eX (fun b3 bc=> ?_))))
      refine wn (ae (mg h4 Z (mp l 0 Z (wc Z (wf jI Z (ws (es bc 6 11 (.pt l) Z kZ (fun bd M=> ?_))))))))
      refine bk (ak (ac (sr (mg h21 Z (wv Z ((show Yv _ _ _ _ (.b false) _ from dD (p:=none) m5 Z)) (wn (al Z (dw ?_))))))))
      have hst:cX big xs raw s=some {s with loads:=s.loads++ [⟨5,raw,[],vJ big ys⟩],ind:=some (fp big d ((xs.drop r).take (4*d)))}:=by have e1:jk xs r (4*d)=some ((xs.drop r).take (4*d)):=da (by rw[hr.1];exact hf1);simp only[cX,←hys,←y,←z,←B,←E,Int.toNat_natCast,hss,if_neg (show ¬raw.length<80 by omega),if_neg (show ¬ss.length<x by omega),if_neg (show ¬ss.length<((↑x+ ↑G:Int)%4294967296).toNat by omega),e1]
      rw[y]at M
      rw[z]at M
      rw[B]at M
      rw[E]at M
      have Hn:St w aR [an fb [.w (h 0),.w (h 1),.w (h 2),.w (h 3),.w (h 4),.w (h 5),.w (h 6),.e (bo big),.s R (nL+1) S,.s AS nS cS,.pt gyy,.pt l] 121,ay 123 1 (.s R (nL+1) S) (nL+1) (vs++ [.f 119 (.pt l)]),ay 125 1 (.s AS nS cS) nS (cK gs),Res.all [an l [.sl gd o0 sz cr,.w (n4 big (ys.drop 0)),.w (n4 big (ys.drop 4)),.w (n4 big (ys.drop 8)),.w (n4 big (ys.drop 12)),.w (n4 big (ys.drop 16)),.w (n4 big (ys.drop 20)),.w (n4 big (ys.drop 24)),.w (n4 big (ys.drop 28)),.w (n4 big (ys.drop 32)),.w (n4 big (ys.drop 36)),.w (n4 big (ys.drop 40)),.w (n4 big (ys.drop 44)),.w (n4 big (ys.drop 48)),.w (n4 big (ys.drop 52)),.w (n4 big (ys.drop 56)),.w (n4 big (ys.drop 60)),.w (n4 big (ys.drop 64)),.w (n4 big (ys.drop 68)),.w (n4 big (ys.drop 72)),.w (n4 big (ys.drop 76)),.sl u 0 d d] 148,an u (nums .u32 (fp big d ((xs.drop r).take (4*d)))) 24,D]] bd:=(M.reAll [1,2,9] [6,7,8]).re [1,2,3,0]
      have hsub: ∀w,(Res.all [an l [.sl gd o0 sz cr,.w (n4 big (ys.drop 0)),.w (n4 big (ys.drop 4)),.w (n4 big (ys.drop 8)),.w (n4 big (ys.drop 12)),.w (n4 big (ys.drop 16)),.w (n4 big (ys.drop 20)),.w (n4 big (ys.drop 24)),.w (n4 big (ys.drop 28)),.w (n4 big (ys.drop 32)),.w (n4 big (ys.drop 36)),.w (n4 big (ys.drop 40)),.w (n4 big (ys.drop 44)),.w (n4 big (ys.drop 48)),.w (n4 big (ys.drop 52)),.w (n4 big (ys.drop 56)),.w (n4 big (ys.drop 60)),.w (n4 big (ys.drop 64)),.w (n4 big (ys.drop 68)),.w (n4 big (ys.drop 72)),.w (n4 big (ys.drop 76)),.sl u 0 d d] 148,an u (nums .u32 (fp big d ((xs.drop r).take (4*d)))) 24,D]).φ w → D.φ w:=fun w hh=>aS.1 hh D (by simp)
      have hDn:NFD (Res.all [an l [.sl gd o0 sz cr,.w (n4 big (ys.drop 0)),.w (n4 big (ys.drop 4)),.w (n4 big (ys.drop 8)),.w (n4 big (ys.drop 12)),.w (n4 big (ys.drop 16)),.w (n4 big (ys.drop 20)),.w (n4 big (ys.drop 24)),.w (n4 big (ys.drop 28)),.w (n4 big (ys.drop 32)),.w (n4 big (ys.drop 36)),.w (n4 big (ys.drop 40)),.w (n4 big (ys.drop 44)),.w (n4 big (ys.drop 48)),.w (n4 big (ys.drop 52)),.w (n4 big (ys.drop 56)),.w (n4 big (ys.drop 60)),.w (n4 big (ys.drop 64)),.w (n4 big (ys.drop 68)),.w (n4 big (ys.drop 72)),.w (n4 big (ys.drop 76)),.sl u 0 d d] 148,an u (nums .u32 (fp big d ((xs.drop r).take (4*d)))) 24,D]).φ rb ({s with loads:=s.loads++ [⟨5,raw,[],vJ big ys⟩],ind:=some (fp big d ((xs.drop r).take (4*d)))}) gd o m ds (vs++ [.f 119 (.pt l)]) gs (.pt gyy) (.pt l):=⟨fun w hh=>hD.dat w (hsub w hh),fun w hh=>(hD.ld w (hsub w hh)).snoc (by have hh:=aS.1 hh;exact .inr (.inr (.inr (.inr (.inr (⟨_,_,_,raw,l,_,fun k=>n4 big (ys.drop (4*k)),rfl,fun k=>⟨(ba big (hbys.drop (4*k))).1,Int.le_trans (Int.le_of_lt (ba big (hbys.drop (4*k))).2) (by decide)⟩,hh (an l [.sl gd o0 sz cr,.w (n4 big (ys.drop 0)),.w (n4 big (ys.drop 4)),.w (n4 big (ys.drop 8)),.w (n4 big (ys.drop 12)),.w (n4 big (ys.drop 16)),.w (n4 big (ys.drop 20)),.w (n4 big (ys.drop 24)),.w (n4 big (ys.drop 28)),.w (n4 big (ys.drop 32)),.w (n4 big (ys.drop 36)),.w (n4 big (ys.drop 40)),.w (n4 big (ys.drop 44)),.w (n4 big (ys.drop 48)),.w (n4 big (ys.drop 52)),.w (n4 big (ys.drop 56)),.w (n4 big (ys.drop 60)),.w (n4 big (ys.drop 64)),.w (n4 big (ys.drop 68)),.w (n4 big (ys.drop 72)),.w (n4 big (ys.drop 76)),.sl u 0 d d] 148) (by simp),hRaw _ (hsub _ (aS.2 hh)),by omega,rfl⟩)))))),fun w hh=>hD.sc w (hsub w hh),hD.sy.mono hsub,.inr ⟨l,d,d,⟨u,0,none⟩,_,fun k=> .w (n4 big (ys.drop (4*k))),_,rfl,rfl,by omega,fun w hh=>by have hh:=aS.1 hh;exact⟨hh (an l [.sl gd o0 sz cr,.w (n4 big (ys.drop 0)),.w (n4 big (ys.drop 4)),.w (n4 big (ys.drop 8)),.w (n4 big (ys.drop 12)),.w (n4 big (ys.drop 16)),.w (n4 big (ys.drop 20)),.w (n4 big (ys.drop 24)),.w (n4 big (ys.drop 28)),.w (n4 big (ys.drop 32)),.w (n4 big (ys.drop 36)),.w (n4 big (ys.drop 40)),.w (n4 big (ys.drop 44)),.w (n4 big (ys.drop 48)),.w (n4 big (ys.drop 52)),.w (n4 big (ys.drop 56)),.w (n4 big (ys.drop 60)),.w (n4 big (ys.drop 64)),.w (n4 big (ys.drop 68)),.w (n4 big (ys.drop 72)),.w (n4 big (ys.drop 76)),.sl u 0 d d] 148) (by simp),aj (hh (an u (nums .u32 (fp big d ((xs.drop r).take (4*d)))) 24) (by simp)) (by simp[fp])⟩⟩⟩
      exact hQ _ _ _ hst ⟨h0,h4,⟨_,h12,hof0,hof1⟩,h13,h16,h17⟩ ⟨Res.all [an l [.sl gd o0 sz cr,.w (n4 big (ys.drop 0)),.w (n4 big (ys.drop 4)),.w (n4 big (ys.drop 8)),.w (n4 big (ys.drop 12)),.w (n4 big (ys.drop 16)),.w (n4 big (ys.drop 20)),.w (n4 big (ys.drop 24)),.w (n4 big (ys.drop 28)),.w (n4 big (ys.drop 32)),.w (n4 big (ys.drop 36)),.w (n4 big (ys.drop 40)),.w (n4 big (ys.drop 44)),.w (n4 big (ys.drop 48)),.w (n4 big (ys.drop 52)),.w (n4 big (ys.drop 56)),.w (n4 big (ys.drop 60)),.w (n4 big (ys.drop 64)),.w (n4 big (ys.drop 68)),.w (n4 big (ys.drop 72)),.w (n4 big (ys.drop 76)),.sl u 0 d d] 148,an u (nums .u32 (fp big d ((xs.drop r).take (4*d)))) 24,D],_,_,_,_,_,_,vs++ [.f 119 (.pt l)],gs,_,_,.inr (.inr (.inl hDg)),by omega,by omega,hDn,Hn⟩
     ·
      refine ae (mg h0 Z (wf jY Z (wv Z (t.ld 0 Z ax Z (.w (↑d)) Z) (wv Z (ao bv be Z (aC (by omega) (by omega))) (wv Z (cM (k:= .u64) (c:= ↑(4*d)) Z Z (by rw[aC (by omega) (by omega)];omega)) (wf lB Z (wv Z (t.ld 0 Z ax Z (.w (↑r)) Z) (wv Z (ao bv ip Z (a5 (by omega) (by omega))) (wE [.f 109 (.pt rb),.q (↑(4*d)),.i (↑r)] kH Z Z (aa (iI (n:=4*d) (off:=r) _ (bV hrb t.keep) (hG.keep t.keep fun k hk=>hk.elim) hNC hN (hr.keep0 t.keep) (fun a ha=>Nat.lt_of_lt_of_le (hA a ha) t.keep.size) (Nat.le_trans hw4 t.keep.size) (by omega) (by omega) (by omega) (by omega)) ?_))))))))))
      rintro e b4 ⟨T,ev,rfl,a3⟩
      have bf:=t.cal0 a3
      refine⟨_,Z,mv (.tuple #[.ns,.f T ev]) Z (we (.ns) Z Z (we (.f T ev) Z Z (av (.ns) Z (av (.f T ev) Z (wn (ad (sr (mv (.f T ev) Z (wv Z ((nn true bI Z (.inr ⟨_,_,Z⟩))) (wn ?_))))))))))⟩
      refine aB Z (sr (mv (.f T ev) Z (av (.np) Z (av (.f T ev) Z (wn (rq (aI (a7 ?_))))))))
      have hst:cX big xs raw s=none:=by have e1:jk xs r (4*d)=none:=eR (by rw[hr.1];exact hf1);simp only[cX,←hys,←y,←z,←B,←E,Int.toNat_natCast,hss,if_neg (show ¬raw.length<80 by omega),if_neg (show ¬ss.length<x by omega),if_neg (show ¬ss.length<((↑x+ ↑G:Int)%4294967296).toNat by omega),e1]
      exact hR hst _ _ _ _ Z Z bf.keep
 ·
  refine ae (mp gq 0 Z (wv Z (aJ (v:= .pt gq) fu Z) (mg h16 Z (wE [.pt g1,.f 109 (.pt gq),.e (bo big)] CK57 Z Z ?_))))
  have bg:=H6.blk_ne (i:=0) (j:=1) rfl rfl (by decide)
  have U:=H6.ge (i:=0) rfl
  have V:=H6.ge (i:=1) rfl
  have hws:=H6.keep.size
  refine aa (kf (ys:= []) (i:=0) (A:=some ⟨gd,o0,none⟩) (xs:=raw) big _ (H6.g 1 Z) (H6.g 0 Z) (hG.keep H6.keep fun k hk=>hk.elim) hscr (by omega) (hRaw _ (H6.g 5 Z)) hrby (fun a ha=>by injection ha with ha;subst ha;exact⟨D.live _ _ (H6.g 5 Z) hDg,H6.sepD (i:=0) (j:=5) Z Z (by decide) hDg,H6.sepD (i:=1) (j:=5) Z Z (by decide) hDg⟩) (by omega) (by omega) (by omega) (by omega) (by omega)) ?_
  rintro e b5 ⟨T,ev,rfl,a4⟩
  have bh:=H6.ky 1 0 rfl rfl a4 (fun _ h=>h)
  refine⟨_,Z,av (.f T ev) Z (wn (sr (mv (.f T ev) Z (wv Z ((nn true bI Z (.inr ⟨_,_,Z⟩))) (wn (aB Z (sr (mv (.f T ev) Z (av (.np) Z (av (.f T ev) Z ?_))))))))))⟩
  refine wn (rq (aI (a7 ?_)))
  have hst:cX big xs raw s=none:=by unfold cX;rw[if_pos (by omega)]
  exact hR hst _ _ _ _ Z Z bh.keep
end Go.Proofs.YtlndedfkgiafhaaDoor
