import Derived.Test.YtlndedfkgiafhaaDoorXAJ
set_option linter.unusedVariables false
set_option linter.unusedSimpArgs false
set_option maxRecDepth 100000
set_option maxHeartbeats 4000000
namespace Go.Proofs.YtlndedfkgiafhaaDoor
open Go Go.RowKit Go.Proofs
theorem sA:bg Tryd.prog 22:=aL (by kernel_rfl)
theorem kw:dA Tryd.prog 76 [.string (⟨#[]⟩),.e 0,.e 0,.h 0,.q 0]:=bO (by kernel_rfl)
theorem vQ:(Tryd.prog.info? 76).map (·.size)=some 5:=by kernel_rfl
theorem jm:FA 76 0 0:=fa (by kernel_rfl)
theorem xQ:iJ Tryd.prog 76 5:=eG (by kernel_rfl)
theorem yL:Tryd.prog.underlying 31=some (.slice 76):=by kernel_rfl
theorem zw:(Tryd.prog.info? 76).map (fun i=>(i.zero,i.size,i.bytes))=some (some (.agg #[.string (⟨#[]⟩),.e 0,.e 0,.h 0,.q 0]),5,32):=by kernel_rfl
theorem vu{fb gr or_ nr cr base:Nat}{gb ob N C nL cL:Nat}{AL:Option Addr}{xs:List Int}{lv:List LoadV}{vh vp vs vi:Value}{raw:List Int}(big:Bool)(w:World)(h0:St w (Res.all [an fb [vh,.b big,.s AL nL cL,vp,vs,vi] 33,ay 74 4 (.s AL nL cL) nL (lv.flatMap LoadV.cells)]).F [an fb [vh,.b big,.s AL nL cL,vp,vs,vi] 33,ay 74 4 (.s AL nL cL) nL (lv.flatMap LoadV.cells)] w)(hB: ∀g,(Res.all [an fb [vh,.b big,.s AL nL cL,vp,vs,vi] 33,ay 74 4 (.s AL nL cL) nL (lv.flatMap LoadV.cells)]).F g → base≤g)(hbw:base≤w.heap.size)(hrr:RI .u8 w (some ⟨gr,or_,none⟩) nr raw)(hrb:Byt raw)(hnr:nr≤cr)(hnN:nr<10485760)(hgr:gr<base)(hr:RI .u8 w (some ⟨gb,ob,none⟩) N xs)(hby:Byt xs)(hNC:N≤C)(hN:N<10485760)(hgb:gb<base)(hnL:nL≤10485760):
 Calls Tryd.prog 30 #[.pt fb,.sl gb ob N C,.b false,.sl gr or_ nr cr] w fun e w'=>(∃(nn:List Int) (x:LoadV) (ss:List Sym) (AL2 AS2:Option Addr) (cL2 nS2 cS2:Nat) (D:Res),(∀s,bM false big xs raw s=some {s with loads:=s.loads++ [⟨4,raw,[],[0,0,0,0,0,0]⟩],syms:=some ss})∧x.l=⟨4,raw,[],nn⟩∧x.vr= .sl gr or_ nr cr∧ss.length=nS2∧nS2≤10485760∧e= .returned (.b true)∧St w (Res.all [an fb [vh,.b big,.s AL nL cL,vp,vs,vi] 33,ay 74 4 (.s AL nL cL) nL (lv.flatMap LoadV.cells)]).F [D,an fb [vh,.b big,.s AL2 (nL+1) cL2,vp,.s AS2 nS2 cS2,vi] 33,ay 74 4 (.s AL2 (nL+1) cL2) (nL+1) ((lv++ [x]).flatMap LoadV.cells)] w'∧∀w,D.φ w → SlI' .u64 w x.vn nn∧RV w AS2 nS2 5 (ss.flatMap Sym.cells))∨((∀s,bM false big xs raw s=none)∧e= .returned (.b false)∧St w (Res.all [an fb [vh,.b big,.s AL nL cL,vp,vs,vi] 33,ay 74 4 (.s AL nL cL) nL (lv.flatMap LoadV.cells)]).F [] w'):=by
 refine aA (args:= [.pt fb,.sl gb ob N C,.b false,.sl gr or_ nr cr]) Tryd.func30 Z Z Z ?_
 have H0:St _ _ [an fb [vh,.b big,.s AL nL cL,vp,vs,vi] 33,ay 74 4 (.s AL nL cL) nL (lv.flatMap LoadV.cells)] _:=h0
 refine sr (av (.b false) Z (wn (ad ?_)))
 have hrl:=hrr.1
 by_cases hfit:24≤nr
 ·
  obtain⟨ys,hys⟩: ∃q,q=(raw.drop 0).take 24:=⟨_,rfl⟩
  have hbys:Byt ys:=by rw[hys];exact(hrb.drop _).take _
  obtain⟨q8,X⟩: ∃q:Nat,(q:Int)=n4 big (ys.drop 8):=⟨(n4 big (ys.drop 8)).toNat,Int.toNat_of_nonneg (ba big (hbys.drop _)).1⟩
  have cq:(q8:Int)<4294967296:=by rw[X];exact(ba big (hbys.drop _)).2
  obtain⟨r,y⟩: ∃q:Nat,(q:Int)=n4 big (ys.drop 12):=⟨(n4 big (ys.drop 12)).toNat,Int.toNat_of_nonneg (ba big (hbys.drop _)).1⟩
  have cl:(r:Int)<4294967296:=by rw[y];exact(ba big (hbys.drop _)).2
  obtain⟨d,B⟩: ∃q:Nat,(q:Int)=n4 big (ys.drop 16):=⟨(n4 big (ys.drop 16)).toNat,Int.toNat_of_nonneg (ba big (hbys.drop _)).1⟩
  have cn:(d:Int)<4294967296:=by rw[B];exact(ba big (hbys.drop _)).2
  obtain⟨f,E⟩: ∃q:Nat,(q:Int)=n4 big (ys.drop 20):=⟨(n4 big (ys.drop 20)).toNat,Int.toNat_of_nonneg (ba big (hbys.drop _)).1⟩
  have co:(f:Int)<4294967296:=by rw[E];exact(ba big (hbys.drop _)).2
  have hNL:bF big (List.replicate 6 4) raw= [n4 big (ys.drop 0),n4 big (ys.drop 4),↑q8,↑r,↑d,↑f]:=by rw[X,y,B,E,hys];exact nZ big 6 24 (by omega) raw
  have H1:=H0.drew
  refine aU MX (fun w'=>w'.cell? ⟨fb,1,none⟩=some (.b big)) (tr 0 4 (Pl.take 5 (Pl.run 4 (Pl.run 6 (tr 7 5 Pl.done))))) (by kernel_rfl) (H1.c 0 1 Z Z) (qm (.pt fb) Z Z (qy Z (ah Z) (qy Z (ab (o:=0) dF Z) (qh Z (fun hS=>ag dc Z hS) (qm (.sl gr or_ nr cr) Z Z (qr Z (ec jN (args:= [.i 6]) Z (aa (dK (n:=6) _ (by omega)) ?_))))))))
  rintro e w3 ⟨A4,c4,rfl,cu⟩
  have H4:=H1.cal0 cu
  refine⟨_,Z,⟨H4.c 1 1 Z Z,fun _=>trivial,qr Z (ec jt (args:= [.b big,.s A4 6 c4,.sl gr or_ nr cr]) Z (aa (dW (ws:=List.replicate 6 4) (bs:=raw) big _ (aV (H4.g 0 Z)) (fY _) (hrr.keepB H4.keep hB hgr) hnr (by omega) hrb (by decide) (K:=6) (by rw[fX];omega) (by rw[hNL];rfl) (by omega)) ?_))⟩⟩
  rintro e w6 ⟨gn,on,cB,Dn,rfl,hcB,cv,hDn⟩
  rw[hNL]at hDn
  have H7:=H4.cal0 cv
  refine⟨_,Z,⟨H7.c 2 1 Z Z,fun _=>trivial,qm (.tuple #[.sl gn on 6 cB,.b true]) Z Z (qy Z (aE (v:= .sl gn on 6 cB) Z Z) (qy Z (aE (v:= .b true) Z Z) (qa (.sl gn on 6 cB) Z Z (qa (.b true) Z Z (pn (sr (mv (.b false) Z (wE [.b false] sA Z Z (aa (fo _) ?_)))))))))⟩⟩
  rintro e de ⟨bH,bI,bj,df,rfl,cw,cx,bk⟩
  have bp:=H7.cal0 cx
  refine⟨_,Z,wE [.s bH bI bj] oU Z Z (aa (by have h:=gG (ws:=kP false) (cW:=bj) _ (bk _ (bp.g 0 Z)) (dO (kO false)) (by rw[←(bk _ (bp.g 0 Z)).1];decide);rw[nG,show((dY false:Nat):Int)=12 from Z]at h;exact h) ?_)⟩
  rintro e dg ⟨rfl,bJ⟩
  have br:=bp.cal0 bJ
  refine⟨_,Z,wv Z (ao (c:=12) ej be Z Z) (au 12 Z (wn (ad (ad ?_))))⟩
  by_cases H:f=0∨d+f≤N
  ·
   by_cases hf2:12*r=0∨q8+12*r≤N
   ·
    have ax:=br.drew
    refine aU MX (fun w'=>w'.cell? ⟨gn,on+4,none⟩=some (.q (↑d))∧w'.cell? ⟨gn,on+5,none⟩=some (.q (↑f))∧w'.cell? ⟨gn,on+2,none⟩=some (.q (↑q8))∧w'.cell? ⟨gn,on+3,none⟩=some (.q (↑r))) (tr 0 10 (Pl.run 10 (tr 11 12 (Pl.run 23 (Pl.take 24 (Pl.take 25 Pl.done)))))) (by kernel_rfl) (⟨show World.cell? _ _=some (.q (↑d))from(hDn _ (ax.g 1 Z)).cellAt 4 (by omega),show World.cell? _ _=some (.q (↑f))from(hDn _ (ax.g 1 Z)).cellAt 5 (by omega),show World.cell? _ _=some (.q (↑q8))from(hDn _ (ax.g 1 Z)).cellAt 2 (by omega),show World.cell? _ _=some (.q (↑r))from(hDn _ (ax.g 1 Z)).cellAt 3 (by omega)⟩) (qm (.b true) Z Z (qy Z (bS Z) (qm (.b false) Z Z (qz Z Z (am (v:= .sl gb ob N C) Z) (qz Z Z (am (v:= .sl gn on 6 cB) Z) (qz Z Z (aK (a:=⟨gn,on,none⟩) (i:=4) bL Z Z (by omega) (by omega)) (lQ Z Z (fun _ hS=>ag aP Z hS.1) (qz Z Z (am (v:= .sl gn on 6 cB) Z) (qz Z Z (aK (a:=⟨gn,on,none⟩) (i:=5) bL Z Z (by omega) (by omega)) (lQ Z Z (fun _ hS=>ag aP Z hS.2.1) (wD Z Z ?_)))))))))))
    refine ec iN (args:= [.sl gb ob N C,.q (↑d),.q (↑f)]) Z (aa (dU _ (by omega) (by omega) H) ?_)
    rintro e dh ⟨rfl,bN⟩
    have az:=ax.cal0 bN
    refine⟨_,Z,⟨⟨show World.cell? _ _=some (.q (↑d))from(hDn _ (az.g 1 Z)).cellAt 4 (by omega),show World.cell? _ _=some (.q (↑f))from(hDn _ (az.g 1 Z)).cellAt 5 (by omega),show World.cell? _ _=some (.q (↑q8))from(hDn _ (az.g 1 Z)).cellAt 2 (by omega),show World.cell? _ _=some (.q (↑r))from(hDn _ (az.g 1 Z)).cellAt 3 (by omega)⟩,fun _=>trivial,qz Z Z (bS Z) (qy Z (aD (b:=false) (v:= .b false) Z Z) (qm (.b false) Z Z (qz Z Z (am (v:= .sl gb ob N C) Z) (qz Z Z (am (v:= .sl gn on 6 cB) Z) (qz Z Z (aK (a:=⟨gn,on,none⟩) (i:=2) bL Z Z (by omega) (by omega)) (lQ Z Z (fun _ hS=>ag aP Z hS.2.2.1) (qz Z Z (am (v:= .q 12) Z) (qz Z Z (am (v:= .sl gn on 6 cB) Z) (qz Z Z (aK (a:=⟨gn,on,none⟩) (i:=3) bL Z Z (by omega) (by omega)) ?_)))))))))⟩⟩
    refine lQ Z Z (fun _ hS=>ag aP Z hS.2.2.2) (qz Z Z (cM (k:= .u64) (c:= ↑(12*r)) Z Z (by rw[aC (by omega) (by omega)];omega)) (wD Z Z (ec iN (args:= [.sl gb ob N C,.q (↑q8),.q (↑(12*r))]) Z (aa (dU _ (by omega) (by omega) hf2) ?_))))
    rintro e di ⟨rfl,bO⟩
    have a0:=az.cal0 bO
    refine⟨_,Z,⟨⟨show World.cell? _ _=some (.q (↑d))from(hDn _ (a0.g 1 Z)).cellAt 4 (by omega),show World.cell? _ _=some (.q (↑f))from(hDn _ (a0.g 1 Z)).cellAt 5 (by omega),show World.cell? _ _=some (.q (↑q8))from(hDn _ (a0.g 1 Z)).cellAt 2 (by omega),show World.cell? _ _=some (.q (↑r))from(hDn _ (a0.g 1 Z)).cellAt 3 (by omega)⟩,fun _=>trivial,qz Z Z (bS Z) (qy Z (aD (b:=false) (v:= .b false) Z Z) (pn (al Z (wk (ad ?_)))))⟩⟩
    obtain⟨m0,dk⟩: ∃m,m=min d N:=⟨_,rfl⟩
    obtain⟨m1,dl⟩: ∃m,m=min (d+f) N:=⟨_,rfl⟩
    obtain⟨ot,hot⟩: ∃ot,dC (some ⟨gb,ob,none⟩) C m0 1=some ⟨gb,ot,none⟩:=by unfold dC;split;exact⟨_,rfl⟩;exact⟨ob+m0,by simp[cH]⟩
    obtain⟨nt,hnt⟩: ∃m,m=m1- m0:=⟨_,rfl⟩
    obtain⟨ct,hct⟩: ∃m,m=C- m0:=⟨_,rfl⟩
    have hst:RI .u8 w (some ⟨gb,ot,none⟩) nt ((xs.drop d).take f):=by
     have h:=hr.cut (c:=C) (l:=m0) (m:=m1) (by omega) (by omega) hNC;rw[hot,←hnt]at h
     rcases H with e0|e0
     · have:nt=0:=by omega
       rw[this,List.take_zero]at h;rw[e0,List.take_zero,this];exact h
     · have e1:m0=d:=by omega
       have e2:nt=f:=by omega
       rw[e1,e2]at h;rw[e2];exact h
    have hsb:Byt ((xs.drop d).take f):=(hby.drop _).take _
    have hsl:=hst.1
    have bt:=a0.drew
    refine aU MX (fun w'=>w'.cell? ⟨gn,on+4,none⟩=some (.q (↑d))∧w'.cell? ⟨gn,on+5,none⟩=some (.q (↑f))) (tr 0 21 Pl.done) (by kernel_rfl) (⟨show World.cell? _ _=some (.q (↑d))from(hDn _ (bt.g 1 Z)).cellAt 4 (by omega),show World.cell? _ _=some (.q (↑f))from(hDn _ (bt.g 1 Z)).cellAt 5 (by omega)⟩) (qm (.sl gb ob N C) Z Z (qm (.sl gn on 6 cB) Z Z (qy Z (aK (a:=⟨gn,on,none⟩) (i:=4) bL Z Z (by omega) (by omega)) (qh Z (fun hS=>ag aP Z hS.1) (qm (.sl gb ob N C) Z Z (qy Z (aO (n:=N) bU Z) (qy Z (ao (c:= ↑N) ej be Z (aC (by omega) (by omega))) (qy Z (i7 (c:= ↑m0) Z Z (by split<;>omega)) (qm (.sl gn on 6 cB) Z Z (qy Z (aK (a:=⟨gn,on,none⟩) (i:=4) bL Z Z (by omega) (by omega)) (qh Z (fun hS=>ag aP Z hS.1) ?_)))))))))))
    refine qm (.sl gn on 6 cB) Z Z (qy Z (aK (a:=⟨gn,on,none⟩) (i:=5) bL Z Z (by omega) (by omega)) (qh Z (fun hS=>ag aP Z hS.2) (qy Z (aH (k:= .u64) (c:= ↑(d+f)) Z Z (by rw[aC (by omega) (by omega)];omega)) (qm (.sl gb ob N C) Z Z (qy Z (aO (n:=N) bU Z) (qy Z (ao (c:= ↑N) ej be Z (aC (by omega) (by omega))) (qy Z (i7 (c:= ↑m1) Z Z (by split<;>omega)) (qy Z ((show Yv _ _ _ _ (Value.slice (some ⟨gb,ot,none⟩) nt ct) _ from by rw[←hot,hnt,hct];exact eo (l:=m0) (h:=m1) aZ Z (bh Z (by omega) (Int.toNat_natCast _)) (bh Z (by omega) (Int.toNat_natCast _)) (by omega) (by omega))) (qa (.sl gb ot nt ct) Z Z (pn (sr ?_)))))))))))
    refine mp fb 0 Z (wm Z (eb bt 76 [] Z (by kernel_rfl) (fun bu dm cy cz=>wc Z (wf gw Z (ws (es cz 4 4 (.sl bu 0 0 0) Z gi (fun c0 bP=> ?_)))))))
    refine wn (ad (sr (ms gn on 6 cB Z (wv Z (aK bL Z Z (by omega) (by omega)) (wv Z (ag aP Z (show World.cell? _ _=some (.q (↑r))from(hDn _ (bP.g 2 Z)).cellAt 3 (by omega))) (mu 0 Z (wn (a6 ?_))))))))
    have c1:St w (Res.all [an fb [vh,.b big,.s AL nL cL,vp,vs,vi] 33,ay 74 4 (.s AL nL cL) nL (lv.flatMap LoadV.cells)]).F [an fb [vh,.b big,.s AL nL cL,vp,.sl bu 0 0 0,vi] 33,ay 74 4 (.s AL nL cL) nL (lv.flatMap LoadV.cells),ay 76 5 (.sl bu 0 0 0) 0 (((cR false big ((xs.drop d).take f) ((xs.drop q8).take (12*r)) r).take 0).flatMap Sym.cells),Dn] c0:=(bP.rowOf (i:=0) (cap:=0) (sz:=5) rfl rfl (by simp[maxLen])).re [4,5,0,2]
    refine bA (fun ρ w'=> ∃j:Nat,∃As:Option Addr,∃cs:Nat,ρ 0= .pt fb∧ρ 1= .sl gb ob N C∧ρ 2= .b false∧ρ 3= .sl gr or_ nr cr∧ρ 9= .sl gn on 6 cB∧ρ 11= .q 12∧ρ 12= .sl gb ot nt ct∧ρ 85= .q (↑r)∧ρ 86= .q (↑j)∧j≤r∧(∀k,k<j → ¬((xs.drop d).take f).length≤(n4 big (eO false ((xs.drop q8).take (12*r)) k)).toNat)∧St w (Res.all [an fb [vh,.b big,.s AL nL cL,vp,vs,vi] 33,ay 74 4 (.s AL nL cL) nL (lv.flatMap LoadV.cells)]).F [an fb [vh,.b big,.s AL nL cL,vp,.s As j cs,vi] 33,ay 74 4 (.s AL nL cL) nL (lv.flatMap LoadV.cells),ay 76 5 (.s As j cs) j (((cR false big ((xs.drop d).take f) ((xs.drop q8).take (12*r)) r).take j).flatMap Sym.cells),Dn] w') (fun ρ _=>r+1- nv (ρ 86)) (⟨0,_,_,Z,Z,Z,Z,Z,Z,Z,Z,Z,by omega,by omega,c1⟩) ?_
    rintro ρ w3 ⟨j,As,cs,g0,g1,g2,g3,g9,bv,aM,bw,a1,hj,hgood,H3⟩
    refine sr (wv Z (bR a1 bw) (wn (ad ?_)))
    refine bK Z (fun a2=> ?_) (fun a2=> ?_)
    ·
     simp only[bx]at a2
     refine wk (ad (a6 (sr (mg a1 Z (au (↑j) Z (wn (ad ?_)))))))
     have hjn:j<r:=by omega
     obtain⟨zs,hzs⟩: ∃z,z=(xs.drop (q8+(12*j))).take 12:=⟨_,rfl⟩
     have hbzs:Byt zs:=by rw[hzs];exact(hby.drop _).take _
     have c2:=ba big hbzs
     obtain⟨nm,hnm⟩: ∃q:Nat,(q:Int)=n4 big zs:=⟨(n4 big zs).toNat,Int.toNat_of_nonneg c2.1⟩
     have hnmn:(n4 big zs).toNat=nm:=by omega
     have bl:bF big (kP false) (xs.drop (q8+(12*j)))= [↑nm,zs.getD 4 0,zs.getD 5 0,n2 big (zs.drop 6),n4 big (zs.drop 8)]:=by rw[hnm,hzs];exact nlV false big _
     have hzy:eO false ((xs.drop q8).take (12*r)) j=zs:=by rw[hzs];exact rj (wide:=false) hjn
     have b4:=hbzs 4
     have b5:=hbzs 5
     have b6:=pf big (hbzs.drop 6)
     have hNSb:Byt (aF (((xs.drop d).take f).drop nm)):=(hsb.drop _).cst
     have bz:=H3.drew
     refine aU MX (fun w'=>w'.cell? ⟨fb,1,none⟩=some (.b big)∧w'.cell? ⟨gn,on+2,none⟩=some (.q (↑q8))) (tr 0 5 (tr 6 9 (Pl.run 5 (Pl.run 15 (tr 16 5 Pl.done))))) (by kernel_rfl) (⟨bz.c 0 1 Z Z,show World.cell? _ _=some (.q (↑q8))from(hDn _ (bz.g 3 Z)).cellAt 2 (by omega)⟩) (qm (.pt fb) Z g0 (qy Z (ah Z) (qy Z (ab (o:=0) dF Z) (qh Z (fun hS=>ag dc Z hS.1) (qm (.b false) Z g2 (qm (.sl gb ob N C) Z g1 (qm (.sl gn on 6 cB) Z g9 (qy Z (aK (a:=⟨gn,on,none⟩) (i:=2) bL Z Z (by omega) (by omega)) (qh Z (fun hS=>ag aP Z hS.2) (qm (.q 12) Z bv (qm (.q (↑j)) Z Z ?_)))))))))))
     refine qy Z (cM (k:= .u64) (c:= ↑(12*j)) Z Z (by rw[aC (by omega) (by omega)];omega)) (qy Z (aH (k:= .u64) (c:= ↑(q8+(12*j))) Z Z (by rw[aC (by omega) (by omega)];omega)) (qt Z (fun _ hS=>(aq (l:=(q8+(12*j))) (h:=N) aZ Z (bs Z (by omega) (Int.toNat_natCast _)) bn (by omega) (by omega) (by omega) (by omega):Yv _ _ _ _ (.sl gb (ob+(q8+(12*j))) (N-(q8+(12*j))) (C-(q8+(12*j)))) _)) (qr Z (ec sA (args:= [.b false]) Z (aa (fo _) ?_)))))
     rintro e dn ⟨b0,b1,b2,cX,rfl,cp,bQ,b3⟩
     have a3:=bz.cal0 bQ
     refine⟨_,Z,⟨⟨a3.c 1 1 Z Z,show World.cell? _ _=some (.q (↑q8))from(hDn _ (a3.g 4 Z)).cellAt 2 (by omega)⟩,fun _=>trivial,qr Z (ec jt (args:= [.b big,.s b0 b1 b2,.sl gb (ob+(q8+(12*j))) (N-(q8+(12*j))) (C-(q8+(12*j)))]) Z (aa (dW (ws:=kP false) (bs:=xs.drop (q8+(12*j))) (K:=5) big _ (b3 _ (a3.g 0 Z)) (kO _) ((hr.keepB a3.keep hB hgb).drop_ (q8+(12*j))) (by omega) (by omega) (hby.drop _) (by decide) (show 12≤N-(q8+(12*j)) by omega) (by rw[bl];rfl) (by omega)) ?_))⟩⟩
     rintro e dp ⟨gm,om,cm,Dm,rfl,hcm,bT,hDm⟩
     rw[bl]at hDm
     have a4:=a3.cal0 bT
     refine⟨_,Z,⟨⟨a4.c 2 1 Z Z,show World.cell? _ _=some (.q (↑q8))from(hDn _ (a4.g 5 Z)).cellAt 2 (by omega)⟩,fun _=>trivial,qm (.tuple #[.sl gm om 5 cm,.b true]) Z Z (qy Z (aE (v:= .sl gm om 5 cm) Z Z) (qy Z (aE (v:= .b true) Z Z) (qa (.sl gm om 5 cm) Z Z (qa (.b true) Z Z (pn (ad (sr (ms gm om 5 cm Z (wv Z (aK bL Z Z (by omega) (by omega)) ?_)))))))))⟩⟩
     refine wv Z (ag aP Z (show World.cell? _ _=some (.q (↑nm))from(hDm _ (a4.g 0 Z)).cellAt 0 (by omega))) (mg aM Z (wv Z (aO bU Z) (wv Z (ao ej be Z (aC (by omega) (by omega))) (wv Z (jO Z Z) (wn ?_)))))
     refine bK Z (fun a5=> ?_) (fun a5=> ?_)
     ·
      simp only[bx]at a5
      refine sr (av (.b false) Z (wn (rq (aI (a7 (a7 (aI (a7 ?_))))))))
      exact⟨.inr Z,_,r1 (.b false) Z _ _,.inr ⟨fun s=>by have e1:jk xs d f=some ((xs.drop d).take f):=da (by rw[hr.1];exact H);have e2:jk xs q8 (dY false*r)=some ((xs.drop q8).take (12*r)):=da (by rw[hr.1];exact hf2);have e3:pP false big ((xs.drop d).take f) ((xs.drop q8).take (12*r)) r=none:=if_neg (fun h=>h j hjn (by rw[hzy];omega));simp only[bM,←hys,←X,←y,←B,←E,Int.toNat_natCast,e1,e2,e3];rw[if_neg (by omega)],Z,a4.sub (List.nil_sublist _)⟩⟩
     ·
      simp only[bx]at a5
      refine wk ?_
      refine eh (fun ρ w'=> ∃(t:Nat),ρ 0= .pt fb∧ρ 1= .sl gb ob N C∧ρ 2= .b false∧ρ 3= .sl gr or_ nr cr∧ρ 9= .sl gn on 6 cB∧ρ 11= .q 12∧ρ 12= .sl gb ot nt ct∧ρ 85= .q (↑r)∧ρ 86= .q (↑j)∧ρ 16= .pt t∧St w (Res.all [an fb [vh,.b big,.s AL nL cL,vp,vs,vi] 33,ay 74 4 (.s AL nL cL) nL (lv.flatMap LoadV.cells)]).F [an t [.str (aF (((xs.drop d).take f).drop nm)),.e (zs.getD 4 0),.e (zs.getD 5 0),.h (n2 big (zs.drop 6)),.q (n4 big (zs.drop 8))] 76,an fb [vh,.b big,.s AL nL cL,vp,.s As j cs,vi] 33,ay 74 4 (.s AL nL cL) nL (lv.flatMap LoadV.cells),ay 76 5 (.s As j cs) j (((cR false big ((xs.drop d).take f) ((xs.drop q8).take (12*r)) r).take j).flatMap Sym.cells),Dn] w') ?_ ?_
      ·
       have I:=a4.drew
       refine aU MX (fun w'=>w'.cell? ⟨gm,om,none⟩=some (.q (↑nm))∧w'.cell? ⟨gm,om+1,none⟩=some (.q (zs.getD 4 0))∧w'.cell? ⟨gm,om+2,none⟩=some (.q (zs.getD 5 0))∧w'.cell? ⟨gm,om+3,none⟩=some (.q (n2 big (zs.drop 6)))∧w'.cell? ⟨gm,om+4,none⟩=some (.q (n4 big (zs.drop 8)))) (tr 0 5 (tr 6 15 (Pl.run2 5 (Pl.take 21 (Pl.run 22 (Pl.run 23 Pl.done))) 22 (Pl.run 5 (Pl.take 21 (Pl.run 23 Pl.done)))))) (by kernel_rfl) (⟨show World.cell? _ _=some (.q (↑nm))from(hDm _ (I.g 0 Z)).cellAt 0 (by omega),show World.cell? _ _=some (.q (zs.getD 4 0))from(hDm _ (I.g 0 Z)).cellAt 1 (by omega),show World.cell? _ _=some (.q (zs.getD 5 0))from(hDm _ (I.g 0 Z)).cellAt 2 (by omega),show World.cell? _ _=some (.q (n2 big (zs.drop 6)))from(hDm _ (I.g 0 Z)).cellAt 3 (by omega),show World.cell? _ _=some (.q (n4 big (zs.drop 8)))from(hDm _ (I.g 0 Z)).cellAt 4 (by omega)⟩) (qm (.sl gb ot nt ct) Z aM (qm (.sl gm om 5 cm) Z Z (qy Z (aK (a:=⟨gm,om,none⟩) (i:=0) bL Z Z (by omega) (by omega)) (qh Z (fun hS=>ag aP Z hS.1) (qt Z (fun _ hS=>(aq (l:=nm) (h:=nt) aZ Z (bs Z (by omega) (Int.toNat_natCast _)) bn (by omega) (by omega) (by omega) (by omega):Yv _ _ _ _ (.sl gb (ot+nm) (nt- nm) (ct- nm)) _)) (qm (.sl gm om 5 cm) Z Z (qy Z (aK (a:=⟨gm,om,none⟩) (i:=1) bL Z Z (by omega) (by omega)) (qh Z (fun hS=>ag aP Z hS.2.1) (qy Z (ao (c:=zs.getD 4 0) db lk Z (gM (by omega) (by omega))) (qm (.sl gm om 5 cm) Z Z (qy Z (aK (a:=⟨gm,om,none⟩) (i:=2) bL Z Z (by omega) (by omega)) ?_)))))))))))
       refine qh Z (fun hS=>ag aP Z hS.2.2.1) (qy Z (ao (c:=zs.getD 5 0) db lk Z (gM (by omega) (by omega))) (qm (.sl gm om 5 cm) Z Z (qy Z (aK (a:=⟨gm,om,none⟩) (i:=3) bL Z Z (by omega) (by omega)) (qh Z (fun hS=>ag aP Z hS.2.2.2.1) (qy Z (ao (c:=n2 big (zs.drop 6)) db tb Z (kM (by omega) (by omega))) (qm (.sl gm om 5 cm) Z Z (qy Z (aK (a:=⟨gm,om,none⟩) (i:=4) bL Z Z (by omega) (by omega)) (qh Z (fun hS=>ag aP Z hS.2.2.2.2) ?_))))))))
       refine⟨?_,?_⟩
       ·
        refine po Z (ec eA (args:= [.sl gb (ot+nm) (nt- nm) (ct- nm)]) Z (aa (c6 _ ((hst.keepB I.keep hB hgb).drop_ nm) (by omega) (by omega)) ?_))
        rintro e dq ⟨rfl,bV⟩
        have Y:=I.cal0 bV
        refine⟨_,Z,⟨⟨show World.cell? _ _=some (.q (↑nm))from(hDm _ (Y.g 0 Z)).cellAt 0 (by omega),show World.cell? _ _=some (.q (zs.getD 4 0))from(hDm _ (Y.g 0 Z)).cellAt 1 (by omega),show World.cell? _ _=some (.q (zs.getD 5 0))from(hDm _ (Y.g 0 Z)).cellAt 2 (by omega),show World.cell? _ _=some (.q (n2 big (zs.drop 6)))from(hDm _ (Y.g 0 Z)).cellAt 3 (by omega),show World.cell? _ _=some (.q (n4 big (zs.drop 8)))from(hDm _ (Y.g 0 Z)).cellAt 4 (by omega)⟩,fun _=>trivial,qy Z (yb (ps:= [(0,.str (aF (((xs.drop d).take f).drop nm))),(1,.e (zs.getD 4 0)),(2,.e (zs.getD 5 0)),(3,.h (n2 big (zs.drop 6))),(4,.q (n4 big (zs.drop 8)))]) (cells:=#[.str (aF (((xs.drop d).take f).drop nm)),.e (zs.getD 4 0),.e (zs.getD 5 0),.h (n2 big (zs.drop 6)),.q (n4 big (zs.drop 8))]) Z (by kernel_rfl)) (qr Z (aN Y kw (fun dr ds c3 af=>⟨⟨show World.cell? _ _=some (.q (↑nm))from(hDm _ (af.g 1 Z)).cellAt 0 (by omega),show World.cell? _ _=some (.q (zs.getD 4 0))from(hDm _ (af.g 1 Z)).cellAt 1 (by omega),show World.cell? _ _=some (.q (zs.getD 5 0))from(hDm _ (af.g 1 Z)).cellAt 2 (by omega),show World.cell? _ _=some (.q (n2 big (zs.drop 6)))from(hDm _ (af.g 1 Z)).cellAt 3 (by omega),show World.cell? _ _=some (.q (n4 big (zs.drop 8)))from(hDm _ (af.g 1 Z)).cellAt 4 (by omega)⟩,fun _=>trivial,dJ Z (eN af 0 [.str (aF (((xs.drop d).take f).drop nm)),.e (zs.getD 4 0),.e (zs.getD 5 0),.h (n2 big (zs.drop 6)),.q (n4 big (zs.drop 8))] Z vQ (fun du ai=> ?_))⟩)))⟩⟩
        refine⟨⟨show World.cell? _ _=some (.q (↑nm))from(hDm _ (ai.g 1 Z)).cellAt 0 (by omega),show World.cell? _ _=some (.q (zs.getD 4 0))from(hDm _ (ai.g 1 Z)).cellAt 1 (by omega),show World.cell? _ _=some (.q (zs.getD 5 0))from(hDm _ (ai.g 1 Z)).cellAt 2 (by omega),show World.cell? _ _=some (.q (n2 big (zs.drop 6)))from(hDm _ (ai.g 1 Z)).cellAt 3 (by omega),show World.cell? _ _=some (.q (n4 big (zs.drop 8)))from(hDm _ (ai.g 1 Z)).cellAt 4 (by omega)⟩,fun _=>trivial,pn ?_⟩
        exact⟨_,g0,g1,g2,g3,g9,bv,aM,bw,a1,Z,ai.re [0,3,4,5,6]⟩
       ·
        refine po Z (aN I kw (fun dv dx c5 O=>⟨⟨show World.cell? _ _=some (.q (↑nm))from(hDm _ (O.g 1 Z)).cellAt 0 (by omega),show World.cell? _ _=some (.q (zs.getD 4 0))from(hDm _ (O.g 1 Z)).cellAt 1 (by omega),show World.cell? _ _=some (.q (zs.getD 5 0))from(hDm _ (O.g 1 Z)).cellAt 2 (by omega),show World.cell? _ _=some (.q (n2 big (zs.drop 6)))from(hDm _ (O.g 1 Z)).cellAt 3 (by omega),show World.cell? _ _=some (.q (n4 big (zs.drop 8)))from(hDm _ (O.g 1 Z)).cellAt 4 (by omega)⟩,fun _=>trivial,qr Z (ec eA (args:= [.sl gb (ot+nm) (nt- nm) (ct- nm)]) Z (aa (c6 _ ((hst.keepB O.keep hB hgb).drop_ nm) (by omega) (by omega)) ?_))⟩))
        rintro e dy ⟨rfl,bW⟩
        have aj:=O.cal0 bW
        refine⟨_,Z,⟨⟨show World.cell? _ _=some (.q (↑nm))from(hDm _ (aj.g 1 Z)).cellAt 0 (by omega),show World.cell? _ _=some (.q (zs.getD 4 0))from(hDm _ (aj.g 1 Z)).cellAt 1 (by omega),show World.cell? _ _=some (.q (zs.getD 5 0))from(hDm _ (aj.g 1 Z)).cellAt 2 (by omega),show World.cell? _ _=some (.q (n2 big (zs.drop 6)))from(hDm _ (aj.g 1 Z)).cellAt 3 (by omega),show World.cell? _ _=some (.q (n4 big (zs.drop 8)))from(hDm _ (aj.g 1 Z)).cellAt 4 (by omega)⟩,fun _=>trivial,qy Z (yb (ps:= [(0,.str (aF (((xs.drop d).take f).drop nm))),(1,.e (zs.getD 4 0)),(2,.e (zs.getD 5 0)),(3,.h (n2 big (zs.drop 6))),(4,.q (n4 big (zs.drop 8)))]) (cells:=#[.str (aF (((xs.drop d).take f).drop nm)),.e (zs.getD 4 0),.e (zs.getD 5 0),.h (n2 big (zs.drop 6)),.q (n4 big (zs.drop 8))]) Z (by kernel_rfl)) (dJ Z (eN aj 0 [.str (aF (((xs.drop d).take f).drop nm)),.e (zs.getD 4 0),.e (zs.getD 5 0),.h (n2 big (zs.drop 6)),.q (n4 big (zs.drop 8))] Z vQ (fun dz ap=> ?_)))⟩⟩
        refine⟨⟨show World.cell? _ _=some (.q (↑nm))from(hDm _ (ap.g 1 Z)).cellAt 0 (by omega),show World.cell? _ _=some (.q (zs.getD 4 0))from(hDm _ (ap.g 1 Z)).cellAt 1 (by omega),show World.cell? _ _=some (.q (zs.getD 5 0))from(hDm _ (ap.g 1 Z)).cellAt 2 (by omega),show World.cell? _ _=some (.q (n2 big (zs.drop 6)))from(hDm _ (ap.g 1 Z)).cellAt 3 (by omega),show World.cell? _ _=some (.q (n4 big (zs.drop 8)))from(hDm _ (ap.g 1 Z)).cellAt 4 (by omega)⟩,fun _=>trivial,pn ?_⟩
        exact⟨_,g0,g1,g2,g3,g9,bv,aM,bw,a1,Z,ap.re [0,3,4,5,6]⟩
      ·
       rintro d0 w4 ⟨t,k0,k1,k2,k3,k9,c7,c8,c9,cA,bX,H4⟩
       refine eh (fun ρ w'=>ρ 0= .pt fb∧ρ 1= .sl gb ob N C∧ρ 2= .b false∧ρ 3= .sl gr or_ nr cr∧ρ 9= .sl gn on 6 cB∧ρ 11= .q 12∧ρ 12= .sl gb ot nt ct∧ρ 85= .q (↑r)∧ρ 86= .q (↑j)∧ρ 16= .pt t∧St w (Res.all [an fb [vh,.b big,.s AL nL cL,vp,vs,vi] 33,ay 74 4 (.s AL nL cL) nL (lv.flatMap LoadV.cells)]).F [an t [.str (dZ (aF (((xs.drop d).take f).drop nm))),.e (zs.getD 4 0),.e (zs.getD 5 0),.h (n2 big (zs.drop 6)),.q (n4 big (zs.drop 8))] 76,an fb [vh,.b big,.s AL nL cL,vp,.s As j cs,vi] 33,ay 74 4 (.s AL nL cL) nL (lv.flatMap LoadV.cells),ay 76 5 (.s As j cs) j (((cR false big ((xs.drop d).take f) ((xs.drop q8).take (12*r)) r).take j).flatMap Sym.cells),Dn] w') ?_ ?_
       ·
        refine sr (wv Z (ab jm bX) (wv Z (H4.ld 0 Z dP Z (.str (aF (((xs.drop d).take f).drop nm))) Z) (wm Z (tE H4 l3 Z (fun u cC cD=>wn (a6 ?_))))))
        have cE:St w (Res.all [an fb [vh,.b big,.s AL nL cL,vp,vs,vi] 33,ay 74 4 (.s AL nL cL) nL (lv.flatMap LoadV.cells)]).F [lz u (strOfNums (aF (((xs.drop d).take f).drop nm))) 0,an t [.str (aF (((xs.drop d).take f).drop nm)),.e (zs.getD 4 0),.e (zs.getD 5 0),.h (n2 big (zs.drop 6)),.q (n4 big (zs.drop 8))] 76,an fb [vh,.b big,.s AL nL cL,vp,.s As j cs,vi] 33,ay 74 4 (.s AL nL cL) nL (lv.flatMap LoadV.cells),ay 76 5 (.s As j cs) j (((cR false big ((xs.drop d).take f) ((xs.drop q8).take (12*r)) r).take j).flatMap Sym.cells),Dn] cC:=cD.re [0,1,2,3,4,5]
        refine bA (fun ρ w'=> ∃p:Nat,ρ 0= .pt fb∧ρ 1= .sl gb ob N C∧ρ 2= .b false∧ρ 3= .sl gr or_ nr cr∧ρ 9= .sl gn on 6 cB∧ρ 11= .q 12∧ρ 12= .sl gb ot nt ct∧ρ 85= .q (↑r)∧ρ 86= .q (↑j)∧ρ 16= .pt t∧ρ 139= .pt u∧(∀i,i<p → (aF (((xs.drop d).take f).drop nm)).getD i 0=46 → (aF (((xs.drop d).take f).drop nm)).getD 0 0≠95)∧St w (Res.all [an fb [vh,.b big,.s AL nL cL,vp,vs,vi] 33,ay 74 4 (.s AL nL cL) nL (lv.flatMap LoadV.cells)]).F [lz u (strOfNums (aF (((xs.drop d).take f).drop nm))) p,an t [.str (aF (((xs.drop d).take f).drop nm)),.e (zs.getD 4 0),.e (zs.getD 5 0),.h (n2 big (zs.drop 6)),.q (n4 big (zs.drop 8))] 76,an fb [vh,.b big,.s AL nL cL,vp,.s As j cs,vi] 33,ay 74 4 (.s AL nL cL) nL (lv.flatMap LoadV.cells),ay 76 5 (.s As j cs) j (((cR false big ((xs.drop d).take f) ((xs.drop q8).take (12*r)) r).take j).flatMap Sym.cells),Dn] w') (fun ρ w'=>(aF (((xs.drop d).take f).drop nm)).length- w'.iterPos u) ⟨0,k0,k1,k2,k3,k9,c7,c8,c9,cA,bX,Z,by omega,cE⟩ ?_
        rintro d1 w6 ⟨p,n0,n1,n2,n3,n9,aR,aT,aW,bc,P,T,hpd,H6⟩
        refine ad ?_
        by_cases hpl:p<(aF (((xs.drop d).take f).drop nm)).length
        ·
         have bm:0<(aF (((xs.drop d).take f).drop nm)).length:=by omega
         refine ae (wm Z (xf H6 0 Z T (by rw[strOfNums_size];exact hpl) (fun bd Q=>we (.b true) Z Z (wn (ad (aB Z (wk (a6 (sr (we (.j (↑(Utf8.decode (strOfNums (aF (((xs.drop d).take f).drop nm))) p).1:Int)) Z Z (av (.j (↑(Utf8.decode (strOfNums (aF (((xs.drop d).take f).drop nm))) p).1:Int)) Z ?_)))))))))))
         refine wn (sr (mv (.j (↑(Utf8.decode (strOfNums (aF (((xs.drop d).take f).drop nm))) p).1:Int)) Z (wv Z (iQ Z Z) (mv (.b ((↑(Utf8.decode (strOfNums (aF (((xs.drop d).take f).drop nm))) p).1:Int)==46)) Z ?_))))
         generalize U:((↑(Utf8.decode (strOfNums (aF (((xs.drop d).take f).drop nm))) p).1:Int)==46)=bb
         cases bb
         ·
          simp only[bx]at U
          refine ck Z Z (ck Z Z (ck Z Z (ck Z Z (wv Z (aD (b:=false) (v:= .b false) Z Z) (wn (al Z (dw (ak (ac ?_)))))))))
          have b7:w6.iterPos u=p:=by have h:w6.heap[u]? =some (.stringIter (strOfNums (aF (((xs.drop d).take f).drop nm))) p):=H6.g 0 rfl;simp[World.iterPos,h]
          have b8:(bd).iterPos u=p+(Utf8.decode (strOfNums (aF (((xs.drop d).take f).drop nm))) p).2:=by have h:(bd).heap[u]? =some (.stringIter (strOfNums (aF (((xs.drop d).take f).drop nm))) (p+(Utf8.decode (strOfNums (aF (((xs.drop d).take f).drop nm))) p).2)):=Q.g 0 rfl;simp[World.iterPos,h]
          have cF:=(fP (strOfNums (aF (((xs.drop d).take f).drop nm))) p).1
          exact⟨⟨_,n0,n1,n2,n3,n9,aR,aT,aW,bc,P,T,kv hNSb hpl hpd (fun he=>absurd (Int.ofNat_inj.2 he) U),Q.re [0,1,2,3,4,5]⟩,by rw[b7,b8];omega⟩
         ·
          simp only[bx]at U
          refine aX Z Z (ab jm P) (aX Z Z (Q.ld 1 Z dP Z (.str (aF (((xs.drop d).take f).drop nm))) Z) (aX Z Z (ij (ns:=(aF (((xs.drop d).take f).drop nm))) l3 Z Z bm hNSb) (aX Z Z (iQ Z Z) (wv Z (aD (b:=true) (v:= .b ((aF (((xs.drop d).take f).drop nm)).getD 0 0==95)) Z Z) (wn ?_)))))
          refine bK Z (fun J=> ?_) (fun J=> ?_)
          ·
           simp only[bx]at J
           refine sr (wv Z (ab jm P) (wv Z (Q.ld 1 Z dP Z (.str (aF (((xs.drop d).take f).drop nm))) Z) (wv Z (ig (ns:=(aF (((xs.drop d).take f).drop nm))) l3 Z Z bm) (wv Z (ab jm P) (ws (es Q 1 0 (.str ((aF (((xs.drop d).take f).drop nm)).drop 1)) Z dP (fun d2 bY=> ?_)))))))
           refine wn (bq (nR Z (ar (aQ (ac ?_)))))
           have hsp:(aF (((xs.drop d).take f).drop nm)).drop 1=dZ (aF (((xs.drop d).take f).drop nm)):=by unfold dZ;rw[if_pos ⟨rB hNSb hpl (by have:=U;omega),J⟩]
           rw[hsp]at bY
           exact⟨n0,n1,n2,n3,n9,aR,aT,aW,bc,P,by have h:=bY.re [1,2,3,4,5];exact h⟩
          ·
           simp only[bx]at J
           refine dw (ak (ac ?_))
           have b7:w6.iterPos u=p:=by have h:w6.heap[u]? =some (.stringIter (strOfNums (aF (((xs.drop d).take f).drop nm))) p):=H6.g 0 rfl;simp[World.iterPos,h]
           have b8:(bd).iterPos u=p+(Utf8.decode (strOfNums (aF (((xs.drop d).take f).drop nm))) p).2:=by have h:(bd).heap[u]? =some (.stringIter (strOfNums (aF (((xs.drop d).take f).drop nm))) (p+(Utf8.decode (strOfNums (aF (((xs.drop d).take f).drop nm))) p).2)):=Q.g 0 rfl;simp[World.iterPos,h]
           have cF:=(fP (strOfNums (aF (((xs.drop d).take f).drop nm))) p).1
           exact⟨⟨_,n0,n1,n2,n3,n9,aR,aT,aW,bc,P,T,kv hNSb hpl hpd (fun he=>J),Q.re [0,1,2,3,4,5]⟩,by rw[b7,b8];omega⟩
        ·
         refine ae (wm Z (ic (mo H6 0 Z T (by rw[strOfNums_size];exact hpl)) (we (.b false) Z Z (wn (ad (al Z (bq (ar (ar (aQ (ac ?_)))))))))))
         have hsp:dZ (aF (((xs.drop d).take f).drop nm))=(aF (((xs.drop d).take f).drop nm)):=oe (fun i hi=>hpd i (by omega))
         exact⟨n0,n1,n2,n3,n9,aR,aT,aW,bc,P,by have h:=H6.re [1,2,3,4,5];rw[hsp];exact h⟩
       ·
        rintro d3 w7 ⟨m0,m1,m2,m3,m9,cG,cI,cJ,cK,cN,H7⟩
        have hsym:([.str (dZ (aF (((xs.drop d).take f).drop nm))),.e (zs.getD 4 0),.e (zs.getD 5 0),.h (n2 big (zs.drop 6)),.q (n4 big (zs.drop 8))]:List Value)=Sym.cells (gc false big ((xs.drop d).take f) zs):=by unfold gc;rw[hnmn];rfl
        have R:=H7.drew
        refine dt MX (fun w'=>w'.cell? ⟨fb,4,none⟩=some (.s As j cs)) (fun w'=>w'.cell? ⟨t,0,none⟩=some (.str (dZ (aF (((xs.drop d).take f).drop nm))))∧w'.cell? ⟨t,1,none⟩=some (.e (zs.getD 4 0))∧w'.cell? ⟨t,2,none⟩=some (.e (zs.getD 5 0))∧w'.cell? ⟨t,3,none⟩=some (.h (n2 big (zs.drop 6)))∧w'.cell? ⟨t,4,none⟩=some (.q (n4 big (zs.drop 8)))) 10 (tr 0 4 (Pl.takeS 4 (Pl.take 5 (Pl.run 6 (Pl.run 7 (Pl.take 8 (Pl.take 9 (Pl.run 10 Pl.done)))))))) (by kernel_rfl) Z (R.c 1 4 Z Z) (⟨R.c 0 0 Z Z,R.c 0 1 Z Z,R.c 0 2 Z Z,R.c 0 3 Z Z,R.c 0 4 Z Z⟩) (qm (.pt fb) Z m0 (qm (.pt fb) Z m0 (qy Z (ah Z) (qy Z (ab (o:=0) gw Z) (qs Z Z (fun _ hS=>ag gi Z hS) (qh Z (fun hS=>dQ (o:=0) xQ cN (xn hS.1 hS.2.1 hS.2.2.1 hS.2.2.2.1 hS.2.2.2.2) Z) (qr Z (kt R (ps:= [(0,.agg #[.str (dZ (aF (((xs.drop d).take f).drop nm))),.e (zs.getD 4 0),.e (zs.getD 5 0),.h (n2 big (zs.drop 6)),.q (n4 big (zs.drop 8))])]) (e:=76) (cs:= [.str (dZ (aF (((xs.drop d).take f).drop nm))),.e (zs.getD 4 0),.e (zs.getD 5 0),.h (n2 big (zs.drop 6)),.q (n4 big (zs.drop 8))]) Z (by kernel_rfl) (fun d4 d5 cO L=>⟨⟨L.c 1 0 Z Z,L.c 1 1 Z Z,L.c 1 2 Z Z,L.c 1 3 Z Z,L.c 1 4 Z Z⟩,fun _=>L.c 2 4 Z Z,qr Z (bG L 4 (m:=1) (news:= [.str (dZ (aF (((xs.drop d).take f).drop nm))),.e (zs.getD 4 0),.e (zs.getD 5 0),.h (n2 big (zs.drop 6)),.q (n4 big (zs.drop 8))]) Z yL zw Z (by decide) Z Z Z (L.news (i:=0) Z) (by simp[Value.oneCell']) (by simp only[maxLen];omega) (by omega) (fun d6 d7 M=> ?_))⟩)))))))))
        obtain⟨cP,cQ,rfl,_,_⟩:=aw (M.g 4 rfl)
        refine⟨⟨M.c 1 0 Z Z,M.c 1 1 Z Z,M.c 1 2 Z Z,M.c 1 3 Z Z,M.c 1 4 Z Z⟩,fun _=>M.c 2 4 Z Z,qy Z (ah Z) (qy Z (ab (o:=0) gw Z) (dJ Z (es M 2 4 (.s cP (j+1) cQ) Z gi (fun d8 S=> ?_))))⟩
        refine⟨⟨S.c 1 0 Z Z,S.c 1 1 Z Z,S.c 1 2 Z Z,S.c 1 3 Z Z,S.c 1 4 Z Z⟩,fun h=>absurd h (by decide),ca (ak (ac (ae (wv Z (aH (k:= .u64) (c:= ↑j+1) cK Z (aC (by omega) (by omega))) (mu (↑j+1) Z (wn ?_))))))⟩
        have hd:(cR false big ((xs.drop d).take f) ((xs.drop q8).take (12*r)) r)[j]? =some (gc false big ((xs.drop d).take f) zs):=by rw[fO (by omega),hzy]
        rw[show([.str (dZ (aF (((xs.drop d).take f).drop nm))),.e (zs.getD 4 0),.e (zs.getD 5 0),.h (n2 big (zs.drop 6)),.q (n4 big (zs.drop 8))]:List Value)=Sym.cells (gc false big ((xs.drop d).take f) zs)from hsym,←dV hd]at S
        exact⟨⟨j+1,_,_,m0,m1,m2,m3,m9,cG,cI,cJ,Z,by omega,fun k hk=>by rcases Nat.lt_or_eq_of_le (Nat.le_of_lt_succ hk)with h|h;exact hgood k h;subst h;rw[hzy];omega,S.re [2,3,4,5]⟩,by show r+1- nv (.q (↑j+1))<r+1- nv (ρ 86);rw[a1];simp only[nv];omega⟩
    ·
     simp only[bx]at a2
     refine bq (ar (ar (aQ (ac (sr (mg g0 Z (mg g0 Z (wc Z (wf dj Z (wv Z (H3.ld 0 Z dH Z (.s AL nL cL) Z) (mg g3 Z ?_)))))))))))
     refine mg g9 Z (wv Z (yz [.i 4,.sl gr or_ nr cr,.string (⟨#[]⟩),.sl gn on 6 cB] Z (by kernel_rfl)) (wm Z (kt H3 (ps:= [(0,.agg #[.i 4,.sl gr or_ nr cr,.string (⟨#[]⟩),.sl gn on 6 cB])]) (e:=74) (cs:= [.i 4,.sl gr or_ nr cr,.string (⟨#[]⟩),.sl gn on 6 cB]) Z (by kernel_rfl) (fun d9 dA cS bZ=>wm Z (bG bZ 2 (m:=1) (news:= [.i 4,.sl gr or_ nr cr,.string (⟨#[]⟩),.sl gn on 6 cB]) Z kT kY Z (by decide) Z Z Z (bZ.news (i:=0) Z) (by simp[Value.oneCell']) (by simp only[maxLen];omega) (by omega) (fun dB dD cb=> ?_))))))
     obtain⟨cT,cU,rfl,_,_⟩:=aw (cb.g 2 rfl)
     refine wc Z (wf dj Z (ws (es cb 1 2 (.s cT (nL+1) cU) Z dH (fun dE b9=> ?_))))
     refine wn (sr (av (.b true) Z (wn (aY ?_))))
     have hcur:lv.flatMap LoadV.cells++ [.i 4,.sl gr or_ nr cr,.string (⟨#[]⟩),.sl gn on 6 cB]=(lv++ [(LoadV.mk (⟨4,raw,[],[n4 big (ys.drop 0),n4 big (ys.drop 4),↑q8,↑r,↑d,↑f]⟩:LoadD) (.sl gr or_ nr cr) (.sl gn on 6 cB))]).flatMap LoadV.cells:=by rw[List.flatMap_append,List.flatMap_singleton];rfl
     rw[hcur]at b9
     have hjq:j=r:=by omega
     rw[List.take_of_length_le (by rw[dX];omega)]at b9
     exact⟨.inr Z,_,r1 (.b true) Z _ _,.inl ⟨[n4 big (ys.drop 0),n4 big (ys.drop 4),↑q8,↑r,↑d,↑f],(LoadV.mk (⟨4,raw,[],[n4 big (ys.drop 0),n4 big (ys.drop 4),↑q8,↑r,↑d,↑f]⟩:LoadD) (.sl gr or_ nr cr) (.sl gn on 6 cB)),cR false big ((xs.drop d).take f) ((xs.drop q8).take (12*r)) r,_,As,_,j,cs,Res.all [ay 76 5 (.s As j cs) j ((cR false big ((xs.drop d).take f) ((xs.drop q8).take (12*r)) r).flatMap Sym.cells),Dn],fun s=>by have e1:jk xs d f=some ((xs.drop d).take f):=da (by rw[hr.1];exact H);have e2:jk xs q8 (dY false*r)=some ((xs.drop q8).take (12*r)):=da (by rw[hr.1];exact hf2);have e3:pP false big ((xs.drop d).take f) ((xs.drop q8).take (12*r)) r=some (cR false big ((xs.drop d).take f) ((xs.drop q8).take (12*r)) r):=if_pos (fun k hk=>hgood k (by omega));simp only[bM,←hys,←X,←y,←B,←E,Int.toNat_natCast,e1,e2,e3];rw[if_neg (by omega)],Z,Z,by rw[dX];exact hjq.symm,by omega,Z,b9.reAll [3,4] [1,2],fun w hh=>by have hh:=aS.1 hh;exact⟨⟨_,_,_,Z,hDn w (hh Dn (by simp))⟩,by obtain⟨A,c,e,hv,_⟩:=aw (hh (ay 76 5 (.s As j cs) j ((cR false big ((xs.drop d).take f) ((xs.drop q8).take (12*r)) r).flatMap Sym.cells)) (by simp));injection e with e;subst e;exact hv⟩⟩⟩
   ·
    have a8:=br.drew
    refine aU MX (fun w'=>w'.cell? ⟨gn,on+4,none⟩=some (.q (↑d))∧w'.cell? ⟨gn,on+5,none⟩=some (.q (↑f))∧w'.cell? ⟨gn,on+2,none⟩=some (.q (↑q8))∧w'.cell? ⟨gn,on+3,none⟩=some (.q (↑r))) (tr 0 10 (Pl.run 10 (tr 11 12 (Pl.run 23 (Pl.take 24 (Pl.take 25 Pl.done)))))) (by kernel_rfl) (⟨show World.cell? _ _=some (.q (↑d))from(hDn _ (a8.g 1 Z)).cellAt 4 (by omega),show World.cell? _ _=some (.q (↑f))from(hDn _ (a8.g 1 Z)).cellAt 5 (by omega),show World.cell? _ _=some (.q (↑q8))from(hDn _ (a8.g 1 Z)).cellAt 2 (by omega),show World.cell? _ _=some (.q (↑r))from(hDn _ (a8.g 1 Z)).cellAt 3 (by omega)⟩) (qm (.b true) Z Z (qy Z (bS Z) (qm (.b false) Z Z (qz Z Z (am (v:= .sl gb ob N C) Z) (qz Z Z (am (v:= .sl gn on 6 cB) Z) (qz Z Z (aK (a:=⟨gn,on,none⟩) (i:=4) bL Z Z (by omega) (by omega)) (lQ Z Z (fun _ hS=>ag aP Z hS.1) (qz Z Z (am (v:= .sl gn on 6 cB) Z) (qz Z Z (aK (a:=⟨gn,on,none⟩) (i:=5) bL Z Z (by omega) (by omega)) (lQ Z Z (fun _ hS=>ag aP Z hS.2.1) (wD Z Z ?_)))))))))))
    refine ec iN (args:= [.sl gb ob N C,.q (↑d),.q (↑f)]) Z (aa (dU _ (by omega) (by omega) H) ?_)
    rintro e dG ⟨rfl,cc⟩
    have a9:=a8.cal0 cc
    refine⟨_,Z,⟨⟨show World.cell? _ _=some (.q (↑d))from(hDn _ (a9.g 1 Z)).cellAt 4 (by omega),show World.cell? _ _=some (.q (↑f))from(hDn _ (a9.g 1 Z)).cellAt 5 (by omega),show World.cell? _ _=some (.q (↑q8))from(hDn _ (a9.g 1 Z)).cellAt 2 (by omega),show World.cell? _ _=some (.q (↑r))from(hDn _ (a9.g 1 Z)).cellAt 3 (by omega)⟩,fun _=>trivial,qz Z Z (bS Z) (qy Z (aD (b:=false) (v:= .b false) Z Z) (qm (.b false) Z Z (qz Z Z (am (v:= .sl gb ob N C) Z) (qz Z Z (am (v:= .sl gn on 6 cB) Z) (qz Z Z (aK (a:=⟨gn,on,none⟩) (i:=2) bL Z Z (by omega) (by omega)) (lQ Z Z (fun _ hS=>ag aP Z hS.2.2.1) (qz Z Z (am (v:= .q 12) Z) (qz Z Z (am (v:= .sl gn on 6 cB) Z) (qz Z Z (aK (a:=⟨gn,on,none⟩) (i:=3) bL Z Z (by omega) (by omega)) ?_)))))))))⟩⟩
    refine lQ Z Z (fun _ hS=>ag aP Z hS.2.2.2) (qz Z Z (cM (k:= .u64) (c:= ↑(12*r)) Z Z (by rw[aC (by omega) (by omega)];omega)) (wD Z Z (ec iN (args:= [.sl gb ob N C,.q (↑q8),.q (↑(12*r))]) Z (aa (eg _ (by omega) (by omega) hf2) ?_))))
    rintro e dI ⟨rfl,cd⟩
    have aG:=a9.cal0 cd
    refine⟨_,Z,⟨⟨show World.cell? _ _=some (.q (↑d))from(hDn _ (aG.g 1 Z)).cellAt 4 (by omega),show World.cell? _ _=some (.q (↑f))from(hDn _ (aG.g 1 Z)).cellAt 5 (by omega),show World.cell? _ _=some (.q (↑q8))from(hDn _ (aG.g 1 Z)).cellAt 2 (by omega),show World.cell? _ _=some (.q (↑r))from(hDn _ (aG.g 1 Z)).cellAt 3 (by omega)⟩,fun _=>trivial,qz Z Z (bS Z) (qy Z (aD (b:=false) (v:= .b true) Z Z) (pn (aB Z (sr (av (.b false) Z (wn (rq ?_)))))))⟩⟩
    exact⟨.inr Z,_,r1 (.b false) Z _ _,.inr ⟨fun s=>by have e1:jk xs d f=some ((xs.drop d).take f):=da (by rw[hr.1];exact H);have e2:jk xs q8 (dY false*r)=none:=eR (by rw[hr.1];exact hf2);simp only[bM,←hys,←X,←y,←B,←E,Int.toNat_natCast,e1,e2];rw[if_neg (by omega)],Z,aG.sub (List.nil_sublist _)⟩⟩
  ·
   have aJ:=br.drew
   refine aU MX (fun w'=>w'.cell? ⟨gn,on+4,none⟩=some (.q (↑d))∧w'.cell? ⟨gn,on+5,none⟩=some (.q (↑f))∧w'.cell? ⟨gn,on+2,none⟩=some (.q (↑q8))∧w'.cell? ⟨gn,on+3,none⟩=some (.q (↑r))) (tr 0 10 (Pl.run 10 (tr 11 12 (Pl.run 23 (Pl.take 24 (Pl.take 25 Pl.done)))))) (by kernel_rfl) (⟨show World.cell? _ _=some (.q (↑d))from(hDn _ (aJ.g 1 Z)).cellAt 4 (by omega),show World.cell? _ _=some (.q (↑f))from(hDn _ (aJ.g 1 Z)).cellAt 5 (by omega),show World.cell? _ _=some (.q (↑q8))from(hDn _ (aJ.g 1 Z)).cellAt 2 (by omega),show World.cell? _ _=some (.q (↑r))from(hDn _ (aJ.g 1 Z)).cellAt 3 (by omega)⟩) (qm (.b true) Z Z (qy Z (bS Z) (qm (.b false) Z Z (qz Z Z (am (v:= .sl gb ob N C) Z) (qz Z Z (am (v:= .sl gn on 6 cB) Z) (qz Z Z (aK (a:=⟨gn,on,none⟩) (i:=4) bL Z Z (by omega) (by omega)) (lQ Z Z (fun _ hS=>ag aP Z hS.1) (qz Z Z (am (v:= .sl gn on 6 cB) Z) (qz Z Z (aK (a:=⟨gn,on,none⟩) (i:=5) bL Z Z (by omega) (by omega)) (lQ Z Z (fun _ hS=>ag aP Z hS.2.1) (wD Z Z ?_)))))))))))
   refine ec iN (args:= [.sl gb ob N C,.q (↑d),.q (↑f)]) Z (aa (eg _ (by omega) (by omega) H) ?_)
   rintro e dL ⟨rfl,ce⟩
   have G:=aJ.cal0 ce
   refine⟨_,Z,⟨⟨show World.cell? _ _=some (.q (↑d))from(hDn _ (G.g 1 Z)).cellAt 4 (by omega),show World.cell? _ _=some (.q (↑f))from(hDn _ (G.g 1 Z)).cellAt 5 (by omega),show World.cell? _ _=some (.q (↑q8))from(hDn _ (G.g 1 Z)).cellAt 2 (by omega),show World.cell? _ _=some (.q (↑r))from(hDn _ (G.g 1 Z)).cellAt 3 (by omega)⟩,fun _=>trivial,qz Z Z (bS Z) (qy Z (aD (b:=false) (v:= .b true) Z Z) (qm (.b true) Z Z (bD Z Z (bD Z Z (bD Z Z (bD Z Z (bD Z Z (bD Z Z (bD Z Z ?_)))))))))⟩⟩
   refine bD Z Z (bD Z Z (ry Z Z (⟨show World.cell? _ _=some (.q (↑d))from(hDn _ (G.g 1 Z)).cellAt 4 (by omega),show World.cell? _ _=some (.q (↑f))from(hDn _ (G.g 1 Z)).cellAt 5 (by omega),show World.cell? _ _=some (.q (↑q8))from(hDn _ (G.g 1 Z)).cellAt 2 (by omega),show World.cell? _ _=some (.q (↑r))from(hDn _ (G.g 1 Z)).cellAt 3 (by omega)⟩) (fun _=>trivial) (bD Z Z (qy Z (aD (b:=true) (v:= .b true) Z Z) (pn (aB Z (sr (av (.b false) Z (wn (rq ?_))))))))))
   exact⟨.inr Z,_,r1 (.b false) Z _ _,.inr ⟨fun s=>by have e1:jk xs d f=none:=eR (by rw[hr.1];exact H);simp only[bM,←hys,←X,←y,←B,←E,Int.toNat_natCast,e1];rw[if_neg (by omega)],Z,G.sub (List.nil_sublist _)⟩⟩
 ·
  have cf:=H0.drew
  refine aU MX (fun w'=>w'.cell? ⟨fb,1,none⟩=some (.b big)) (tr 0 4 (Pl.take 5 (Pl.run 4 (Pl.run 6 (tr 7 5 Pl.done))))) (by kernel_rfl) (cf.c 0 1 Z Z) (qm (.pt fb) Z Z (qy Z (ah Z) (qy Z (ab (o:=0) dF Z) (qh Z (fun hS=>ag dc Z hS) (qm (.sl gr or_ nr cr) Z Z (qr Z (ec jN (args:= [.i 6]) Z (aa (dK (n:=6) _ (by omega)) ?_))))))))
  rintro e dM ⟨A4,c4,rfl,cg⟩
  have bf:=cf.cal0 cg
  refine⟨_,Z,⟨bf.c 1 1 Z Z,fun _=>trivial,qr Z (ec jt (args:= [.b big,.s A4 6 c4,.sl gr or_ nr cr]) Z (aa (eK (ws:=List.replicate 6 4) (bs:=raw) big _ (aV (bf.g 0 Z)) (fY _) (hrr.keepB bf.keep hB hgr) hnr (by omega) hrb (by decide) (by rw[fX];omega)) ?_))⟩⟩
  rintro e cY ⟨rfl,bB⟩
  have bo:=bf.cal0 bB
  refine⟨_,Z,⟨bo.c 1 1 Z Z,fun _=>trivial,qm (.tuple #[.ns,.b false]) Z Z (qy Z (aE (v:= .ns) Z Z) (qy Z (aE (v:= .b false) Z Z) (qa (.ns) Z Z (qa (.b false) Z Z (pn (sr (mv (.b false) Z (wE [.b false] sA Z Z (aa (fo _) ?_)))))))))⟩⟩
  rintro e cZ ⟨bg,bi,V,cV,rfl,ch,bC,W⟩
  have aL:=bo.cal0 bC
  refine⟨_,Z,wE [.s bg bi V] oU Z Z (aa (by have h:=gG (ws:=kP false) (cW:=V) _ (W _ (aL.g 0 Z)) (dO (kO false)) (by rw[←(W _ (aL.g 0 Z)).1];decide);rw[nG,show((dY false:Nat):Int)=12 from Z]at h;exact h) ?_)⟩
  rintro e dd ⟨rfl,bE⟩
  have ci:=aL.cal0 bE
  refine⟨_,Z,wv Z (ao (c:=12) ej be Z Z) (au 12 Z (wn (ad (ad ?_))))⟩
  have cj:=ci.drew
  refine aU MX (fun w'=>True) (tr 0 10 (Pl.run 10 (tr 11 12 (Pl.run 23 (Pl.take 24 (Pl.take 25 Pl.done)))))) (by kernel_rfl) (trivial) (qm (.b false) Z Z (qy Z (bS Z) (qm (.b true) Z Z (bD Z Z (bD Z Z (bD Z Z (bD Z Z (bD Z Z (bD Z Z (bD Z Z (ry Z Z (trivial) (fun _=>trivial) ?_)))))))))))
  refine bD Z Z (qy Z (aD (b:=true) (v:= .b true) Z Z) (qm (.b true) Z Z (bD Z Z (bD Z Z (bD Z Z (bD Z Z (bD Z Z (bD Z Z (bD Z Z (bD Z Z (bD Z Z ?_)))))))))))
  refine ry Z Z (trivial) (fun _=>trivial) (bD Z Z (qy Z (aD (b:=true) (v:= .b true) Z Z) (pn (aB Z (sr (av (.b false) Z (wn (rq ?_))))))))
  exact⟨.inr Z,_,r1 (.b false) Z _ _,.inr ⟨fun s=>by unfold bM;rw[if_pos (by omega)],Z,cj.sub (List.nil_sublist _)⟩⟩
theorem vt{fb gr or_ nr cr base:Nat}{gb ob N C nL cL:Nat}{AL:Option Addr}{xs:List Int}{lv:List LoadV}{vh vp vs vi:Value}{raw:List Int}(big:Bool)(w:World)(h0:St w (Res.all [an fb [vh,.b big,.s AL nL cL,vp,vs,vi] 33,ay 74 4 (.s AL nL cL) nL (lv.flatMap LoadV.cells)]).F [an fb [vh,.b big,.s AL nL cL,vp,vs,vi] 33,ay 74 4 (.s AL nL cL) nL (lv.flatMap LoadV.cells)] w)(hB: ∀g,(Res.all [an fb [vh,.b big,.s AL nL cL,vp,vs,vi] 33,ay 74 4 (.s AL nL cL) nL (lv.flatMap LoadV.cells)]).F g → base≤g)(hbw:base≤w.heap.size)(hrr:RI .u8 w (some ⟨gr,or_,none⟩) nr raw)(hrb:Byt raw)(hnr:nr≤cr)(hnN:nr<10485760)(hgr:gr<base)(hr:RI .u8 w (some ⟨gb,ob,none⟩) N xs)(hby:Byt xs)(hNC:N≤C)(hN:N<10485760)(hgb:gb<base)(hnL:nL≤10485760):
 Calls Tryd.prog 30 #[.pt fb,.sl gb ob N C,.b true,.sl gr or_ nr cr] w fun e w'=>(∃(nn:List Int) (x:LoadV) (ss:List Sym) (AL2 AS2:Option Addr) (cL2 nS2 cS2:Nat) (D:Res),(∀s,bM true big xs raw s=some {s with loads:=s.loads++ [⟨4,raw,[],[0,0,0,0,0,0]⟩],syms:=some ss})∧x.l=⟨4,raw,[],nn⟩∧x.vr= .sl gr or_ nr cr∧ss.length=nS2∧nS2≤10485760∧e= .returned (.b true)∧St w (Res.all [an fb [vh,.b big,.s AL nL cL,vp,vs,vi] 33,ay 74 4 (.s AL nL cL) nL (lv.flatMap LoadV.cells)]).F [D,an fb [vh,.b big,.s AL2 (nL+1) cL2,vp,.s AS2 nS2 cS2,vi] 33,ay 74 4 (.s AL2 (nL+1) cL2) (nL+1) ((lv++ [x]).flatMap LoadV.cells)] w'∧∀w,D.φ w → SlI' .u64 w x.vn nn∧RV w AS2 nS2 5 (ss.flatMap Sym.cells))∨((∀s,bM true big xs raw s=none)∧e= .returned (.b false)∧St w (Res.all [an fb [vh,.b big,.s AL nL cL,vp,vs,vi] 33,ay 74 4 (.s AL nL cL) nL (lv.flatMap LoadV.cells)]).F [] w'):=by
 refine aA (args:= [.pt fb,.sl gb ob N C,.b true,.sl gr or_ nr cr]) Tryd.func30 Z Z Z ?_
 have H0:St _ _ [an fb [vh,.b big,.s AL nL cL,vp,vs,vi] 33,ay 74 4 (.s AL nL cL) nL (lv.flatMap LoadV.cells)] _:=h0
 refine sr (av (.b false) Z (wn (ad ?_)))
 have hrl:=hrr.1
 by_cases hfit:24≤nr
 ·
  obtain⟨ys,hys⟩: ∃q,q=(raw.drop 0).take 24:=⟨_,rfl⟩
  have hbys:Byt ys:=by rw[hys];exact(hrb.drop _).take _
  obtain⟨q8,X⟩: ∃q:Nat,(q:Int)=n4 big (ys.drop 8):=⟨(n4 big (ys.drop 8)).toNat,Int.toNat_of_nonneg (ba big (hbys.drop _)).1⟩
  have cq:(q8:Int)<4294967296:=by rw[X];exact(ba big (hbys.drop _)).2
  obtain⟨r,y⟩: ∃q:Nat,(q:Int)=n4 big (ys.drop 12):=⟨(n4 big (ys.drop 12)).toNat,Int.toNat_of_nonneg (ba big (hbys.drop _)).1⟩
  have cl:(r:Int)<4294967296:=by rw[y];exact(ba big (hbys.drop _)).2
  obtain⟨d,B⟩: ∃q:Nat,(q:Int)=n4 big (ys.drop 16):=⟨(n4 big (ys.drop 16)).toNat,Int.toNat_of_nonneg (ba big (hbys.drop _)).1⟩
  have cn:(d:Int)<4294967296:=by rw[B];exact(ba big (hbys.drop _)).2
  obtain⟨f,E⟩: ∃q:Nat,(q:Int)=n4 big (ys.drop 20):=⟨(n4 big (ys.drop 20)).toNat,Int.toNat_of_nonneg (ba big (hbys.drop _)).1⟩
  have co:(f:Int)<4294967296:=by rw[E];exact(ba big (hbys.drop _)).2
  have hNL:bF big (List.replicate 6 4) raw= [n4 big (ys.drop 0),n4 big (ys.drop 4),↑q8,↑r,↑d,↑f]:=by rw[X,y,B,E,hys];exact nZ big 6 24 (by omega) raw
  have H1:=H0.drew
  refine aU MX (fun w'=>w'.cell? ⟨fb,1,none⟩=some (.b big)) (tr 0 4 (Pl.take 5 (Pl.run 4 (Pl.run 6 (tr 7 5 Pl.done))))) (by kernel_rfl) (H1.c 0 1 Z Z) (qm (.pt fb) Z Z (qy Z (ah Z) (qy Z (ab (o:=0) dF Z) (qh Z (fun hS=>ag dc Z hS) (qm (.sl gr or_ nr cr) Z Z (qr Z (ec jN (args:= [.i 6]) Z (aa (dK (n:=6) _ (by omega)) ?_))))))))
  rintro e w3 ⟨A4,c4,rfl,cu⟩
  have H4:=H1.cal0 cu
  refine⟨_,Z,⟨H4.c 1 1 Z Z,fun _=>trivial,qr Z (ec jt (args:= [.b big,.s A4 6 c4,.sl gr or_ nr cr]) Z (aa (dW (ws:=List.replicate 6 4) (bs:=raw) big _ (aV (H4.g 0 Z)) (fY _) (hrr.keepB H4.keep hB hgr) hnr (by omega) hrb (by decide) (K:=6) (by rw[fX];omega) (by rw[hNL];rfl) (by omega)) ?_))⟩⟩
  rintro e w6 ⟨gn,on,cB,Dn,rfl,hcB,cv,hDn⟩
  rw[hNL]at hDn
  have H7:=H4.cal0 cv
  refine⟨_,Z,⟨H7.c 2 1 Z Z,fun _=>trivial,qm (.tuple #[.sl gn on 6 cB,.b true]) Z Z (qy Z (aE (v:= .sl gn on 6 cB) Z Z) (qy Z (aE (v:= .b true) Z Z) (qa (.sl gn on 6 cB) Z Z (qa (.b true) Z Z (pn (sr (mv (.b true) Z (wE [.b true] sA Z Z (aa (fH _) ?_)))))))))⟩⟩
  rintro e de ⟨bH,bI,bj,df,rfl,cw,cx,bk⟩
  have bp:=H7.cal0 cx
  refine⟨_,Z,wE [.s bH bI bj] oU Z Z (aa (by have h:=gG (ws:=kP true) (cW:=bj) _ (bk _ (bp.g 0 Z)) (dO (kO true)) (by rw[←(bk _ (bp.g 0 Z)).1];decide);rw[nG,show((dY true:Nat):Int)=16 from Z]at h;exact h) ?_)⟩
  rintro e dg ⟨rfl,bJ⟩
  have br:=bp.cal0 bJ
  refine⟨_,Z,wv Z (ao (c:=16) ej be Z Z) (au 16 Z (wn (ad (ad ?_))))⟩
  by_cases H:f=0∨d+f≤N
  ·
   by_cases hf2:16*r=0∨q8+16*r≤N
   ·
    have ax:=br.drew
    refine aU MX (fun w'=>w'.cell? ⟨gn,on+4,none⟩=some (.q (↑d))∧w'.cell? ⟨gn,on+5,none⟩=some (.q (↑f))∧w'.cell? ⟨gn,on+2,none⟩=some (.q (↑q8))∧w'.cell? ⟨gn,on+3,none⟩=some (.q (↑r))) (tr 0 10 (Pl.run 10 (tr 11 12 (Pl.run 23 (Pl.take 24 (Pl.take 25 Pl.done)))))) (by kernel_rfl) (⟨show World.cell? _ _=some (.q (↑d))from(hDn _ (ax.g 1 Z)).cellAt 4 (by omega),show World.cell? _ _=some (.q (↑f))from(hDn _ (ax.g 1 Z)).cellAt 5 (by omega),show World.cell? _ _=some (.q (↑q8))from(hDn _ (ax.g 1 Z)).cellAt 2 (by omega),show World.cell? _ _=some (.q (↑r))from(hDn _ (ax.g 1 Z)).cellAt 3 (by omega)⟩) (qm (.b true) Z Z (qy Z (bS Z) (qm (.b false) Z Z (qz Z Z (am (v:= .sl gb ob N C) Z) (qz Z Z (am (v:= .sl gn on 6 cB) Z) (qz Z Z (aK (a:=⟨gn,on,none⟩) (i:=4) bL Z Z (by omega) (by omega)) (lQ Z Z (fun _ hS=>ag aP Z hS.1) (qz Z Z (am (v:= .sl gn on 6 cB) Z) (qz Z Z (aK (a:=⟨gn,on,none⟩) (i:=5) bL Z Z (by omega) (by omega)) (lQ Z Z (fun _ hS=>ag aP Z hS.2.1) (wD Z Z ?_)))))))))))
    refine ec iN (args:= [.sl gb ob N C,.q (↑d),.q (↑f)]) Z (aa (dU _ (by omega) (by omega) H) ?_)
    rintro e dh ⟨rfl,bN⟩
    have az:=ax.cal0 bN
    refine⟨_,Z,⟨⟨show World.cell? _ _=some (.q (↑d))from(hDn _ (az.g 1 Z)).cellAt 4 (by omega),show World.cell? _ _=some (.q (↑f))from(hDn _ (az.g 1 Z)).cellAt 5 (by omega),show World.cell? _ _=some (.q (↑q8))from(hDn _ (az.g 1 Z)).cellAt 2 (by omega),show World.cell? _ _=some (.q (↑r))from(hDn _ (az.g 1 Z)).cellAt 3 (by omega)⟩,fun _=>trivial,qz Z Z (bS Z) (qy Z (aD (b:=false) (v:= .b false) Z Z) (qm (.b false) Z Z (qz Z Z (am (v:= .sl gb ob N C) Z) (qz Z Z (am (v:= .sl gn on 6 cB) Z) (qz Z Z (aK (a:=⟨gn,on,none⟩) (i:=2) bL Z Z (by omega) (by omega)) (lQ Z Z (fun _ hS=>ag aP Z hS.2.2.1) (qz Z Z (am (v:= .q 16) Z) (qz Z Z (am (v:= .sl gn on 6 cB) Z) (qz Z Z (aK (a:=⟨gn,on,none⟩) (i:=3) bL Z Z (by omega) (by omega)) ?_)))))))))⟩⟩
    refine lQ Z Z (fun _ hS=>ag aP Z hS.2.2.2) (qz Z Z (cM (k:= .u64) (c:= ↑(16*r)) Z Z (by rw[aC (by omega) (by omega)];omega)) (wD Z Z (ec iN (args:= [.sl gb ob N C,.q (↑q8),.q (↑(16*r))]) Z (aa (dU _ (by omega) (by omega) hf2) ?_))))
    rintro e di ⟨rfl,bO⟩
    have a0:=az.cal0 bO
    refine⟨_,Z,⟨⟨show World.cell? _ _=some (.q (↑d))from(hDn _ (a0.g 1 Z)).cellAt 4 (by omega),show World.cell? _ _=some (.q (↑f))from(hDn _ (a0.g 1 Z)).cellAt 5 (by omega),show World.cell? _ _=some (.q (↑q8))from(hDn _ (a0.g 1 Z)).cellAt 2 (by omega),show World.cell? _ _=some (.q (↑r))from(hDn _ (a0.g 1 Z)).cellAt 3 (by omega)⟩,fun _=>trivial,qz Z Z (bS Z) (qy Z (aD (b:=false) (v:= .b false) Z Z) (pn (al Z (wk (ad ?_)))))⟩⟩
    obtain⟨m0,dk⟩: ∃m,m=min d N:=⟨_,rfl⟩
    obtain⟨m1,dl⟩: ∃m,m=min (d+f) N:=⟨_,rfl⟩
    obtain⟨ot,hot⟩: ∃ot,dC (some ⟨gb,ob,none⟩) C m0 1=some ⟨gb,ot,none⟩:=by unfold dC;split;exact⟨_,rfl⟩;exact⟨ob+m0,by simp[cH]⟩
    obtain⟨nt,hnt⟩: ∃m,m=m1- m0:=⟨_,rfl⟩
    obtain⟨ct,hct⟩: ∃m,m=C- m0:=⟨_,rfl⟩
    have hst:RI .u8 w (some ⟨gb,ot,none⟩) nt ((xs.drop d).take f):=by
     have h:=hr.cut (c:=C) (l:=m0) (m:=m1) (by omega) (by omega) hNC;rw[hot,←hnt]at h
     rcases H with e0|e0
     · have:nt=0:=by omega
       rw[this,List.take_zero]at h;rw[e0,List.take_zero,this];exact h
     · have e1:m0=d:=by omega
       have e2:nt=f:=by omega
       rw[e1,e2]at h;rw[e2];exact h
    have hsb:Byt ((xs.drop d).take f):=(hby.drop _).take _
    have hsl:=hst.1
    have bt:=a0.drew
    refine aU MX (fun w'=>w'.cell? ⟨gn,on+4,none⟩=some (.q (↑d))∧w'.cell? ⟨gn,on+5,none⟩=some (.q (↑f))) (tr 0 21 Pl.done) (by kernel_rfl) (⟨show World.cell? _ _=some (.q (↑d))from(hDn _ (bt.g 1 Z)).cellAt 4 (by omega),show World.cell? _ _=some (.q (↑f))from(hDn _ (bt.g 1 Z)).cellAt 5 (by omega)⟩) (qm (.sl gb ob N C) Z Z (qm (.sl gn on 6 cB) Z Z (qy Z (aK (a:=⟨gn,on,none⟩) (i:=4) bL Z Z (by omega) (by omega)) (qh Z (fun hS=>ag aP Z hS.1) (qm (.sl gb ob N C) Z Z (qy Z (aO (n:=N) bU Z) (qy Z (ao (c:= ↑N) ej be Z (aC (by omega) (by omega))) (qy Z (i7 (c:= ↑m0) Z Z (by split<;>omega)) (qm (.sl gn on 6 cB) Z Z (qy Z (aK (a:=⟨gn,on,none⟩) (i:=4) bL Z Z (by omega) (by omega)) (qh Z (fun hS=>ag aP Z hS.1) ?_)))))))))))
    refine qm (.sl gn on 6 cB) Z Z (qy Z (aK (a:=⟨gn,on,none⟩) (i:=5) bL Z Z (by omega) (by omega)) (qh Z (fun hS=>ag aP Z hS.2) (qy Z (aH (k:= .u64) (c:= ↑(d+f)) Z Z (by rw[aC (by omega) (by omega)];omega)) (qm (.sl gb ob N C) Z Z (qy Z (aO (n:=N) bU Z) (qy Z (ao (c:= ↑N) ej be Z (aC (by omega) (by omega))) (qy Z (i7 (c:= ↑m1) Z Z (by split<;>omega)) (qy Z ((show Yv _ _ _ _ (Value.slice (some ⟨gb,ot,none⟩) nt ct) _ from by rw[←hot,hnt,hct];exact eo (l:=m0) (h:=m1) aZ Z (bh Z (by omega) (Int.toNat_natCast _)) (bh Z (by omega) (Int.toNat_natCast _)) (by omega) (by omega))) (qa (.sl gb ot nt ct) Z Z (pn (sr ?_)))))))))))
    refine mp fb 0 Z (wm Z (eb bt 76 [] Z (by kernel_rfl) (fun bu dm cy cz=>wc Z (wf gw Z (ws (es cz 4 4 (.sl bu 0 0 0) Z gi (fun c0 bP=> ?_)))))))
    refine wn (ad (sr (ms gn on 6 cB Z (wv Z (aK bL Z Z (by omega) (by omega)) (wv Z (ag aP Z (show World.cell? _ _=some (.q (↑r))from(hDn _ (bP.g 2 Z)).cellAt 3 (by omega))) (mu 0 Z (wn (a6 ?_))))))))
    have c1:St w (Res.all [an fb [vh,.b big,.s AL nL cL,vp,vs,vi] 33,ay 74 4 (.s AL nL cL) nL (lv.flatMap LoadV.cells)]).F [an fb [vh,.b big,.s AL nL cL,vp,.sl bu 0 0 0,vi] 33,ay 74 4 (.s AL nL cL) nL (lv.flatMap LoadV.cells),ay 76 5 (.sl bu 0 0 0) 0 (((cR true big ((xs.drop d).take f) ((xs.drop q8).take (16*r)) r).take 0).flatMap Sym.cells),Dn] c0:=(bP.rowOf (i:=0) (cap:=0) (sz:=5) rfl rfl (by simp[maxLen])).re [4,5,0,2]
    refine bA (fun ρ w'=> ∃j:Nat,∃As:Option Addr,∃cs:Nat,ρ 0= .pt fb∧ρ 1= .sl gb ob N C∧ρ 2= .b true∧ρ 3= .sl gr or_ nr cr∧ρ 9= .sl gn on 6 cB∧ρ 11= .q 16∧ρ 12= .sl gb ot nt ct∧ρ 85= .q (↑r)∧ρ 86= .q (↑j)∧j≤r∧(∀k,k<j → ¬((xs.drop d).take f).length≤(n4 big (eO true ((xs.drop q8).take (16*r)) k)).toNat)∧St w (Res.all [an fb [vh,.b big,.s AL nL cL,vp,vs,vi] 33,ay 74 4 (.s AL nL cL) nL (lv.flatMap LoadV.cells)]).F [an fb [vh,.b big,.s AL nL cL,vp,.s As j cs,vi] 33,ay 74 4 (.s AL nL cL) nL (lv.flatMap LoadV.cells),ay 76 5 (.s As j cs) j (((cR true big ((xs.drop d).take f) ((xs.drop q8).take (16*r)) r).take j).flatMap Sym.cells),Dn] w') (fun ρ _=>r+1- nv (ρ 86)) (⟨0,_,_,Z,Z,Z,Z,Z,Z,Z,Z,Z,by omega,by omega,c1⟩) ?_
    rintro ρ w3 ⟨j,As,cs,g0,g1,g2,g3,g9,bv,aM,bw,a1,hj,hgood,H3⟩
    refine sr (wv Z (bR a1 bw) (wn (ad ?_)))
    refine bK Z (fun a2=> ?_) (fun a2=> ?_)
    ·
     simp only[bx]at a2
     refine wk (ad (a6 (sr (mg a1 Z (au (↑j) Z (wn (ad ?_)))))))
     have hjn:j<r:=by omega
     obtain⟨zs,hzs⟩: ∃z,z=(xs.drop (q8+(16*j))).take 16:=⟨_,rfl⟩
     have hbzs:Byt zs:=by rw[hzs];exact(hby.drop _).take _
     have c2:=ba big hbzs
     obtain⟨nm,hnm⟩: ∃q:Nat,(q:Int)=n4 big zs:=⟨(n4 big zs).toNat,Int.toNat_of_nonneg c2.1⟩
     have hnmn:(n4 big zs).toNat=nm:=by omega
     have bl:bF big (kP true) (xs.drop (q8+(16*j)))= [↑nm,zs.getD 4 0,zs.getD 5 0,n2 big (zs.drop 6),n8 big (zs.drop 8)]:=by rw[hnm,hzs];exact nlV true big _
     have hzy:eO true ((xs.drop q8).take (16*r)) j=zs:=by rw[hzs];exact rj (wide:=true) hjn
     have b4:=hbzs 4
     have b5:=hbzs 5
     have b6:=pf big (hbzs.drop 6)
     have hNSb:Byt (aF (((xs.drop d).take f).drop nm)):=(hsb.drop _).cst
     have bz:=H3.drew
     refine aU MX (fun w'=>w'.cell? ⟨fb,1,none⟩=some (.b big)∧w'.cell? ⟨gn,on+2,none⟩=some (.q (↑q8))) (tr 0 5 (tr 6 9 (Pl.run 5 (Pl.run 15 (tr 16 5 Pl.done))))) (by kernel_rfl) (⟨bz.c 0 1 Z Z,show World.cell? _ _=some (.q (↑q8))from(hDn _ (bz.g 3 Z)).cellAt 2 (by omega)⟩) (qm (.pt fb) Z g0 (qy Z (ah Z) (qy Z (ab (o:=0) dF Z) (qh Z (fun hS=>ag dc Z hS.1) (qm (.b true) Z g2 (qm (.sl gb ob N C) Z g1 (qm (.sl gn on 6 cB) Z g9 (qy Z (aK (a:=⟨gn,on,none⟩) (i:=2) bL Z Z (by omega) (by omega)) (qh Z (fun hS=>ag aP Z hS.2) (qm (.q 16) Z bv (qm (.q (↑j)) Z Z ?_)))))))))))
     refine qy Z (cM (k:= .u64) (c:= ↑(16*j)) Z Z (by rw[aC (by omega) (by omega)];omega)) (qy Z (aH (k:= .u64) (c:= ↑(q8+(16*j))) Z Z (by rw[aC (by omega) (by omega)];omega)) (qt Z (fun _ hS=>(aq (l:=(q8+(16*j))) (h:=N) aZ Z (bs Z (by omega) (Int.toNat_natCast _)) bn (by omega) (by omega) (by omega) (by omega):Yv _ _ _ _ (.sl gb (ob+(q8+(16*j))) (N-(q8+(16*j))) (C-(q8+(16*j)))) _)) (qr Z (ec sA (args:= [.b true]) Z (aa (fH _) ?_)))))
     rintro e dn ⟨b0,b1,b2,cX,rfl,cp,bQ,b3⟩
     have a3:=bz.cal0 bQ
     refine⟨_,Z,⟨⟨a3.c 1 1 Z Z,show World.cell? _ _=some (.q (↑q8))from(hDn _ (a3.g 4 Z)).cellAt 2 (by omega)⟩,fun _=>trivial,qr Z (ec jt (args:= [.b big,.s b0 b1 b2,.sl gb (ob+(q8+(16*j))) (N-(q8+(16*j))) (C-(q8+(16*j)))]) Z (aa (dW (ws:=kP true) (bs:=xs.drop (q8+(16*j))) (K:=5) big _ (b3 _ (a3.g 0 Z)) (kO _) ((hr.keepB a3.keep hB hgb).drop_ (q8+(16*j))) (by omega) (by omega) (hby.drop _) (by decide) (show 16≤N-(q8+(16*j)) by omega) (by rw[bl];rfl) (by omega)) ?_))⟩⟩
     rintro e dp ⟨gm,om,cm,Dm,rfl,hcm,bT,hDm⟩
     rw[bl]at hDm
     have a4:=a3.cal0 bT
     refine⟨_,Z,⟨⟨a4.c 2 1 Z Z,show World.cell? _ _=some (.q (↑q8))from(hDn _ (a4.g 5 Z)).cellAt 2 (by omega)⟩,fun _=>trivial,qm (.tuple #[.sl gm om 5 cm,.b true]) Z Z (qy Z (aE (v:= .sl gm om 5 cm) Z Z) (qy Z (aE (v:= .b true) Z Z) (qa (.sl gm om 5 cm) Z Z (qa (.b true) Z Z (pn (ad (sr (ms gm om 5 cm Z (wv Z (aK bL Z Z (by omega) (by omega)) ?_)))))))))⟩⟩
     refine wv Z (ag aP Z (show World.cell? _ _=some (.q (↑nm))from(hDm _ (a4.g 0 Z)).cellAt 0 (by omega))) (mg aM Z (wv Z (aO bU Z) (wv Z (ao ej be Z (aC (by omega) (by omega))) (wv Z (jO Z Z) (wn ?_)))))
     refine bK Z (fun a5=> ?_) (fun a5=> ?_)
     ·
      simp only[bx]at a5
      refine sr (av (.b false) Z (wn (rq (aI (a7 (a7 (aI (a7 ?_))))))))
      exact⟨.inr Z,_,r1 (.b false) Z _ _,.inr ⟨fun s=>by have e1:jk xs d f=some ((xs.drop d).take f):=da (by rw[hr.1];exact H);have e2:jk xs q8 (dY true*r)=some ((xs.drop q8).take (16*r)):=da (by rw[hr.1];exact hf2);have e3:pP true big ((xs.drop d).take f) ((xs.drop q8).take (16*r)) r=none:=if_neg (fun h=>h j hjn (by rw[hzy];omega));simp only[bM,←hys,←X,←y,←B,←E,Int.toNat_natCast,e1,e2,e3];rw[if_neg (by omega)],Z,a4.sub (List.nil_sublist _)⟩⟩
     ·
      simp only[bx]at a5
      refine wk ?_
      refine eh (fun ρ w'=> ∃(t:Nat),ρ 0= .pt fb∧ρ 1= .sl gb ob N C∧ρ 2= .b true∧ρ 3= .sl gr or_ nr cr∧ρ 9= .sl gn on 6 cB∧ρ 11= .q 16∧ρ 12= .sl gb ot nt ct∧ρ 85= .q (↑r)∧ρ 86= .q (↑j)∧ρ 16= .pt t∧St w (Res.all [an fb [vh,.b big,.s AL nL cL,vp,vs,vi] 33,ay 74 4 (.s AL nL cL) nL (lv.flatMap LoadV.cells)]).F [an t [.str (aF (((xs.drop d).take f).drop nm)),.e (zs.getD 4 0),.e (zs.getD 5 0),.h (n2 big (zs.drop 6)),.q (n8 big (zs.drop 8))] 76,an fb [vh,.b big,.s AL nL cL,vp,.s As j cs,vi] 33,ay 74 4 (.s AL nL cL) nL (lv.flatMap LoadV.cells),ay 76 5 (.s As j cs) j (((cR true big ((xs.drop d).take f) ((xs.drop q8).take (16*r)) r).take j).flatMap Sym.cells),Dn] w') ?_ ?_
      ·
       have I:=a4.drew
       refine aU MX (fun w'=>w'.cell? ⟨gm,om,none⟩=some (.q (↑nm))∧w'.cell? ⟨gm,om+1,none⟩=some (.q (zs.getD 4 0))∧w'.cell? ⟨gm,om+2,none⟩=some (.q (zs.getD 5 0))∧w'.cell? ⟨gm,om+3,none⟩=some (.q (n2 big (zs.drop 6)))∧w'.cell? ⟨gm,om+4,none⟩=some (.q (n8 big (zs.drop 8)))) (tr 0 5 (tr 6 15 (Pl.run2 5 (Pl.take 21 (Pl.run 22 (Pl.run 23 Pl.done))) 22 (Pl.run 5 (Pl.take 21 (Pl.run 23 Pl.done)))))) (by kernel_rfl) (⟨show World.cell? _ _=some (.q (↑nm))from(hDm _ (I.g 0 Z)).cellAt 0 (by omega),show World.cell? _ _=some (.q (zs.getD 4 0))from(hDm _ (I.g 0 Z)).cellAt 1 (by omega),show World.cell? _ _=some (.q (zs.getD 5 0))from(hDm _ (I.g 0 Z)).cellAt 2 (by omega),show World.cell? _ _=some (.q (n2 big (zs.drop 6)))from(hDm _ (I.g 0 Z)).cellAt 3 (by omega),show World.cell? _ _=some (.q (n8 big (zs.drop 8)))from(hDm _ (I.g 0 Z)).cellAt 4 (by omega)⟩) (qm (.sl gb ot nt ct) Z aM (qm (.sl gm om 5 cm) Z Z (qy Z (aK (a:=⟨gm,om,none⟩) (i:=0) bL Z Z (by omega) (by omega)) (qh Z (fun hS=>ag aP Z hS.1) (qt Z (fun _ hS=>(aq (l:=nm) (h:=nt) aZ Z (bs Z (by omega) (Int.toNat_natCast _)) bn (by omega) (by omega) (by omega) (by omega):Yv _ _ _ _ (.sl gb (ot+nm) (nt- nm) (ct- nm)) _)) (qm (.sl gm om 5 cm) Z Z (qy Z (aK (a:=⟨gm,om,none⟩) (i:=1) bL Z Z (by omega) (by omega)) (qh Z (fun hS=>ag aP Z hS.2.1) (qy Z (ao (c:=zs.getD 4 0) db lk Z (gM (by omega) (by omega))) (qm (.sl gm om 5 cm) Z Z (qy Z (aK (a:=⟨gm,om,none⟩) (i:=2) bL Z Z (by omega) (by omega)) ?_)))))))))))
       refine qh Z (fun hS=>ag aP Z hS.2.2.1) (qy Z (ao (c:=zs.getD 5 0) db lk Z (gM (by omega) (by omega))) (qm (.sl gm om 5 cm) Z Z (qy Z (aK (a:=⟨gm,om,none⟩) (i:=3) bL Z Z (by omega) (by omega)) (qh Z (fun hS=>ag aP Z hS.2.2.2.1) (qy Z (ao (c:=n2 big (zs.drop 6)) db tb Z (kM (by omega) (by omega))) (qm (.sl gm om 5 cm) Z Z (qy Z (aK (a:=⟨gm,om,none⟩) (i:=4) bL Z Z (by omega) (by omega)) (qh Z (fun hS=>ag aP Z hS.2.2.2.2) ?_))))))))
       refine⟨?_,?_⟩
       ·
        refine po Z (ec eA (args:= [.sl gb (ot+nm) (nt- nm) (ct- nm)]) Z (aa (c6 _ ((hst.keepB I.keep hB hgb).drop_ nm) (by omega) (by omega)) ?_))
        rintro e dq ⟨rfl,bV⟩
        have Y:=I.cal0 bV
        refine⟨_,Z,⟨⟨show World.cell? _ _=some (.q (↑nm))from(hDm _ (Y.g 0 Z)).cellAt 0 (by omega),show World.cell? _ _=some (.q (zs.getD 4 0))from(hDm _ (Y.g 0 Z)).cellAt 1 (by omega),show World.cell? _ _=some (.q (zs.getD 5 0))from(hDm _ (Y.g 0 Z)).cellAt 2 (by omega),show World.cell? _ _=some (.q (n2 big (zs.drop 6)))from(hDm _ (Y.g 0 Z)).cellAt 3 (by omega),show World.cell? _ _=some (.q (n8 big (zs.drop 8)))from(hDm _ (Y.g 0 Z)).cellAt 4 (by omega)⟩,fun _=>trivial,qy Z (yb (ps:= [(0,.str (aF (((xs.drop d).take f).drop nm))),(1,.e (zs.getD 4 0)),(2,.e (zs.getD 5 0)),(3,.h (n2 big (zs.drop 6))),(4,.q (n8 big (zs.drop 8)))]) (cells:=#[.str (aF (((xs.drop d).take f).drop nm)),.e (zs.getD 4 0),.e (zs.getD 5 0),.h (n2 big (zs.drop 6)),.q (n8 big (zs.drop 8))]) Z (by kernel_rfl)) (qr Z (aN Y kw (fun dr ds c3 af=>⟨⟨show World.cell? _ _=some (.q (↑nm))from(hDm _ (af.g 1 Z)).cellAt 0 (by omega),show World.cell? _ _=some (.q (zs.getD 4 0))from(hDm _ (af.g 1 Z)).cellAt 1 (by omega),show World.cell? _ _=some (.q (zs.getD 5 0))from(hDm _ (af.g 1 Z)).cellAt 2 (by omega),show World.cell? _ _=some (.q (n2 big (zs.drop 6)))from(hDm _ (af.g 1 Z)).cellAt 3 (by omega),show World.cell? _ _=some (.q (n8 big (zs.drop 8)))from(hDm _ (af.g 1 Z)).cellAt 4 (by omega)⟩,fun _=>trivial,dJ Z (eN af 0 [.str (aF (((xs.drop d).take f).drop nm)),.e (zs.getD 4 0),.e (zs.getD 5 0),.h (n2 big (zs.drop 6)),.q (n8 big (zs.drop 8))] Z vQ (fun du ai=> ?_))⟩)))⟩⟩
        refine⟨⟨show World.cell? _ _=some (.q (↑nm))from(hDm _ (ai.g 1 Z)).cellAt 0 (by omega),show World.cell? _ _=some (.q (zs.getD 4 0))from(hDm _ (ai.g 1 Z)).cellAt 1 (by omega),show World.cell? _ _=some (.q (zs.getD 5 0))from(hDm _ (ai.g 1 Z)).cellAt 2 (by omega),show World.cell? _ _=some (.q (n2 big (zs.drop 6)))from(hDm _ (ai.g 1 Z)).cellAt 3 (by omega),show World.cell? _ _=some (.q (n8 big (zs.drop 8)))from(hDm _ (ai.g 1 Z)).cellAt 4 (by omega)⟩,fun _=>trivial,pn ?_⟩
        exact⟨_,g0,g1,g2,g3,g9,bv,aM,bw,a1,Z,ai.re [0,3,4,5,6]⟩
       ·
        refine po Z (aN I kw (fun dv dx c5 O=>⟨⟨show World.cell? _ _=some (.q (↑nm))from(hDm _ (O.g 1 Z)).cellAt 0 (by omega),show World.cell? _ _=some (.q (zs.getD 4 0))from(hDm _ (O.g 1 Z)).cellAt 1 (by omega),show World.cell? _ _=some (.q (zs.getD 5 0))from(hDm _ (O.g 1 Z)).cellAt 2 (by omega),show World.cell? _ _=some (.q (n2 big (zs.drop 6)))from(hDm _ (O.g 1 Z)).cellAt 3 (by omega),show World.cell? _ _=some (.q (n8 big (zs.drop 8)))from(hDm _ (O.g 1 Z)).cellAt 4 (by omega)⟩,fun _=>trivial,qr Z (ec eA (args:= [.sl gb (ot+nm) (nt- nm) (ct- nm)]) Z (aa (c6 _ ((hst.keepB O.keep hB hgb).drop_ nm) (by omega) (by omega)) ?_))⟩))
        rintro e dy ⟨rfl,bW⟩
        have aj:=O.cal0 bW
        refine⟨_,Z,⟨⟨show World.cell? _ _=some (.q (↑nm))from(hDm _ (aj.g 1 Z)).cellAt 0 (by omega),show World.cell? _ _=some (.q (zs.getD 4 0))from(hDm _ (aj.g 1 Z)).cellAt 1 (by omega),show World.cell? _ _=some (.q (zs.getD 5 0))from(hDm _ (aj.g 1 Z)).cellAt 2 (by omega),show World.cell? _ _=some (.q (n2 big (zs.drop 6)))from(hDm _ (aj.g 1 Z)).cellAt 3 (by omega),show World.cell? _ _=some (.q (n8 big (zs.drop 8)))from(hDm _ (aj.g 1 Z)).cellAt 4 (by omega)⟩,fun _=>trivial,qy Z (yb (ps:= [(0,.str (aF (((xs.drop d).take f).drop nm))),(1,.e (zs.getD 4 0)),(2,.e (zs.getD 5 0)),(3,.h (n2 big (zs.drop 6))),(4,.q (n8 big (zs.drop 8)))]) (cells:=#[.str (aF (((xs.drop d).take f).drop nm)),.e (zs.getD 4 0),.e (zs.getD 5 0),.h (n2 big (zs.drop 6)),.q (n8 big (zs.drop 8))]) Z (by kernel_rfl)) (dJ Z (eN aj 0 [.str (aF (((xs.drop d).take f).drop nm)),.e (zs.getD 4 0),.e (zs.getD 5 0),.h (n2 big (zs.drop 6)),.q (n8 big (zs.drop 8))] Z vQ (fun dz ap=> ?_)))⟩⟩
        refine⟨⟨show World.cell? _ _=some (.q (↑nm))from(hDm _ (ap.g 1 Z)).cellAt 0 (by omega),show World.cell? _ _=some (.q (zs.getD 4 0))from(hDm _ (ap.g 1 Z)).cellAt 1 (by omega),show World.cell? _ _=some (.q (zs.getD 5 0))from(hDm _ (ap.g 1 Z)).cellAt 2 (by omega),show World.cell? _ _=some (.q (n2 big (zs.drop 6)))from(hDm _ (ap.g 1 Z)).cellAt 3 (by omega),show World.cell? _ _=some (.q (n8 big (zs.drop 8)))from(hDm _ (ap.g 1 Z)).cellAt 4 (by omega)⟩,fun _=>trivial,pn ?_⟩
        exact⟨_,g0,g1,g2,g3,g9,bv,aM,bw,a1,Z,ap.re [0,3,4,5,6]⟩
      ·
       rintro d0 w4 ⟨t,k0,k1,k2,k3,k9,c7,c8,c9,cA,bX,H4⟩
       refine eh (fun ρ w'=>ρ 0= .pt fb∧ρ 1= .sl gb ob N C∧ρ 2= .b true∧ρ 3= .sl gr or_ nr cr∧ρ 9= .sl gn on 6 cB∧ρ 11= .q 16∧ρ 12= .sl gb ot nt ct∧ρ 85= .q (↑r)∧ρ 86= .q (↑j)∧ρ 16= .pt t∧St w (Res.all [an fb [vh,.b big,.s AL nL cL,vp,vs,vi] 33,ay 74 4 (.s AL nL cL) nL (lv.flatMap LoadV.cells)]).F [an t [.str (dZ (aF (((xs.drop d).take f).drop nm))),.e (zs.getD 4 0),.e (zs.getD 5 0),.h (n2 big (zs.drop 6)),.q (n8 big (zs.drop 8))] 76,an fb [vh,.b big,.s AL nL cL,vp,.s As j cs,vi] 33,ay 74 4 (.s AL nL cL) nL (lv.flatMap LoadV.cells),ay 76 5 (.s As j cs) j (((cR true big ((xs.drop d).take f) ((xs.drop q8).take (16*r)) r).take j).flatMap Sym.cells),Dn] w') ?_ ?_
       ·
        refine sr (wv Z (ab jm bX) (wv Z (H4.ld 0 Z dP Z (.str (aF (((xs.drop d).take f).drop nm))) Z) (wm Z (tE H4 l3 Z (fun u cC cD=>wn (a6 ?_))))))
        have cE:St w (Res.all [an fb [vh,.b big,.s AL nL cL,vp,vs,vi] 33,ay 74 4 (.s AL nL cL) nL (lv.flatMap LoadV.cells)]).F [lz u (strOfNums (aF (((xs.drop d).take f).drop nm))) 0,an t [.str (aF (((xs.drop d).take f).drop nm)),.e (zs.getD 4 0),.e (zs.getD 5 0),.h (n2 big (zs.drop 6)),.q (n8 big (zs.drop 8))] 76,an fb [vh,.b big,.s AL nL cL,vp,.s As j cs,vi] 33,ay 74 4 (.s AL nL cL) nL (lv.flatMap LoadV.cells),ay 76 5 (.s As j cs) j (((cR true big ((xs.drop d).take f) ((xs.drop q8).take (16*r)) r).take j).flatMap Sym.cells),Dn] cC:=cD.re [0,1,2,3,4,5]
        refine bA (fun ρ w'=> ∃p:Nat,ρ 0= .pt fb∧ρ 1= .sl gb ob N C∧ρ 2= .b true∧ρ 3= .sl gr or_ nr cr∧ρ 9= .sl gn on 6 cB∧ρ 11= .q 16∧ρ 12= .sl gb ot nt ct∧ρ 85= .q (↑r)∧ρ 86= .q (↑j)∧ρ 16= .pt t∧ρ 139= .pt u∧(∀i,i<p → (aF (((xs.drop d).take f).drop nm)).getD i 0=46 → (aF (((xs.drop d).take f).drop nm)).getD 0 0≠95)∧St w (Res.all [an fb [vh,.b big,.s AL nL cL,vp,vs,vi] 33,ay 74 4 (.s AL nL cL) nL (lv.flatMap LoadV.cells)]).F [lz u (strOfNums (aF (((xs.drop d).take f).drop nm))) p,an t [.str (aF (((xs.drop d).take f).drop nm)),.e (zs.getD 4 0),.e (zs.getD 5 0),.h (n2 big (zs.drop 6)),.q (n8 big (zs.drop 8))] 76,an fb [vh,.b big,.s AL nL cL,vp,.s As j cs,vi] 33,ay 74 4 (.s AL nL cL) nL (lv.flatMap LoadV.cells),ay 76 5 (.s As j cs) j (((cR true big ((xs.drop d).take f) ((xs.drop q8).take (16*r)) r).take j).flatMap Sym.cells),Dn] w') (fun ρ w'=>(aF (((xs.drop d).take f).drop nm)).length- w'.iterPos u) ⟨0,k0,k1,k2,k3,k9,c7,c8,c9,cA,bX,Z,by omega,cE⟩ ?_
        rintro d1 w6 ⟨p,n0,n1,n2,n3,n9,aR,aT,aW,bc,P,T,hpd,H6⟩
        refine ad ?_
        by_cases hpl:p<(aF (((xs.drop d).take f).drop nm)).length
        ·
         have bm:0<(aF (((xs.drop d).take f).drop nm)).length:=by omega
         refine ae (wm Z (xf H6 0 Z T (by rw[strOfNums_size];exact hpl) (fun bd Q=>we (.b true) Z Z (wn (ad (aB Z (wk (a6 (sr (we (.j (↑(Utf8.decode (strOfNums (aF (((xs.drop d).take f).drop nm))) p).1:Int)) Z Z (av (.j (↑(Utf8.decode (strOfNums (aF (((xs.drop d).take f).drop nm))) p).1:Int)) Z ?_)))))))))))
         refine wn (sr (mv (.j (↑(Utf8.decode (strOfNums (aF (((xs.drop d).take f).drop nm))) p).1:Int)) Z (wv Z (iQ Z Z) (mv (.b ((↑(Utf8.decode (strOfNums (aF (((xs.drop d).take f).drop nm))) p).1:Int)==46)) Z ?_))))
         generalize U:((↑(Utf8.decode (strOfNums (aF (((xs.drop d).take f).drop nm))) p).1:Int)==46)=bb
         cases bb
         ·
          simp only[bx]at U
          refine ck Z Z (ck Z Z (ck Z Z (ck Z Z (wv Z (aD (b:=false) (v:= .b false) Z Z) (wn (al Z (dw (ak (ac ?_)))))))))
          have b7:w6.iterPos u=p:=by have h:w6.heap[u]? =some (.stringIter (strOfNums (aF (((xs.drop d).take f).drop nm))) p):=H6.g 0 rfl;simp[World.iterPos,h]
          have b8:(bd).iterPos u=p+(Utf8.decode (strOfNums (aF (((xs.drop d).take f).drop nm))) p).2:=by have h:(bd).heap[u]? =some (.stringIter (strOfNums (aF (((xs.drop d).take f).drop nm))) (p+(Utf8.decode (strOfNums (aF (((xs.drop d).take f).drop nm))) p).2)):=Q.g 0 rfl;simp[World.iterPos,h]
          have cF:=(fP (strOfNums (aF (((xs.drop d).take f).drop nm))) p).1
          exact⟨⟨_,n0,n1,n2,n3,n9,aR,aT,aW,bc,P,T,kv hNSb hpl hpd (fun he=>absurd (Int.ofNat_inj.2 he) U),Q.re [0,1,2,3,4,5]⟩,by rw[b7,b8];omega⟩
         ·
          simp only[bx]at U
          refine aX Z Z (ab jm P) (aX Z Z (Q.ld 1 Z dP Z (.str (aF (((xs.drop d).take f).drop nm))) Z) (aX Z Z (ij (ns:=(aF (((xs.drop d).take f).drop nm))) l3 Z Z bm hNSb) (aX Z Z (iQ Z Z) (wv Z (aD (b:=true) (v:= .b ((aF (((xs.drop d).take f).drop nm)).getD 0 0==95)) Z Z) (wn ?_)))))
          refine bK Z (fun J=> ?_) (fun J=> ?_)
          ·
           simp only[bx]at J
           refine sr (wv Z (ab jm P) (wv Z (Q.ld 1 Z dP Z (.str (aF (((xs.drop d).take f).drop nm))) Z) (wv Z (ig (ns:=(aF (((xs.drop d).take f).drop nm))) l3 Z Z bm) (wv Z (ab jm P) (ws (es Q 1 0 (.str ((aF (((xs.drop d).take f).drop nm)).drop 1)) Z dP (fun d2 bY=> ?_)))))))
           refine wn (bq (nR Z (ar (aQ (ac ?_)))))
           have hsp:(aF (((xs.drop d).take f).drop nm)).drop 1=dZ (aF (((xs.drop d).take f).drop nm)):=by unfold dZ;rw[if_pos ⟨rB hNSb hpl (by have:=U;omega),J⟩]
           rw[hsp]at bY
           exact⟨n0,n1,n2,n3,n9,aR,aT,aW,bc,P,by have h:=bY.re [1,2,3,4,5];exact h⟩
          ·
           simp only[bx]at J
           refine dw (ak (ac ?_))
           have b7:w6.iterPos u=p:=by have h:w6.heap[u]? =some (.stringIter (strOfNums (aF (((xs.drop d).take f).drop nm))) p):=H6.g 0 rfl;simp[World.iterPos,h]
           have b8:(bd).iterPos u=p+(Utf8.decode (strOfNums (aF (((xs.drop d).take f).drop nm))) p).2:=by have h:(bd).heap[u]? =some (.stringIter (strOfNums (aF (((xs.drop d).take f).drop nm))) (p+(Utf8.decode (strOfNums (aF (((xs.drop d).take f).drop nm))) p).2)):=Q.g 0 rfl;simp[World.iterPos,h]
           have cF:=(fP (strOfNums (aF (((xs.drop d).take f).drop nm))) p).1
           exact⟨⟨_,n0,n1,n2,n3,n9,aR,aT,aW,bc,P,T,kv hNSb hpl hpd (fun he=>J),Q.re [0,1,2,3,4,5]⟩,by rw[b7,b8];omega⟩
        ·
         refine ae (wm Z (ic (mo H6 0 Z T (by rw[strOfNums_size];exact hpl)) (we (.b false) Z Z (wn (ad (al Z (bq (ar (ar (aQ (ac ?_)))))))))))
         have hsp:dZ (aF (((xs.drop d).take f).drop nm))=(aF (((xs.drop d).take f).drop nm)):=oe (fun i hi=>hpd i (by omega))
         exact⟨n0,n1,n2,n3,n9,aR,aT,aW,bc,P,by have h:=H6.re [1,2,3,4,5];rw[hsp];exact h⟩
       ·
        rintro d3 w7 ⟨m0,m1,m2,m3,m9,cG,cI,cJ,cK,cN,H7⟩
        have hsym:([.str (dZ (aF (((xs.drop d).take f).drop nm))),.e (zs.getD 4 0),.e (zs.getD 5 0),.h (n2 big (zs.drop 6)),.q (n8 big (zs.drop 8))]:List Value)=Sym.cells (gc true big ((xs.drop d).take f) zs):=by unfold gc;rw[hnmn];rfl
        have R:=H7.drew
        refine dt MX (fun w'=>w'.cell? ⟨fb,4,none⟩=some (.s As j cs)) (fun w'=>w'.cell? ⟨t,0,none⟩=some (.str (dZ (aF (((xs.drop d).take f).drop nm))))∧w'.cell? ⟨t,1,none⟩=some (.e (zs.getD 4 0))∧w'.cell? ⟨t,2,none⟩=some (.e (zs.getD 5 0))∧w'.cell? ⟨t,3,none⟩=some (.h (n2 big (zs.drop 6)))∧w'.cell? ⟨t,4,none⟩=some (.q (n8 big (zs.drop 8)))) 10 (tr 0 4 (Pl.takeS 4 (Pl.take 5 (Pl.run 6 (Pl.run 7 (Pl.take 8 (Pl.take 9 (Pl.run 10 Pl.done)))))))) (by kernel_rfl) Z (R.c 1 4 Z Z) (⟨R.c 0 0 Z Z,R.c 0 1 Z Z,R.c 0 2 Z Z,R.c 0 3 Z Z,R.c 0 4 Z Z⟩) (qm (.pt fb) Z m0 (qm (.pt fb) Z m0 (qy Z (ah Z) (qy Z (ab (o:=0) gw Z) (qs Z Z (fun _ hS=>ag gi Z hS) (qh Z (fun hS=>dQ (o:=0) xQ cN (xn hS.1 hS.2.1 hS.2.2.1 hS.2.2.2.1 hS.2.2.2.2) Z) (qr Z (kt R (ps:= [(0,.agg #[.str (dZ (aF (((xs.drop d).take f).drop nm))),.e (zs.getD 4 0),.e (zs.getD 5 0),.h (n2 big (zs.drop 6)),.q (n8 big (zs.drop 8))])]) (e:=76) (cs:= [.str (dZ (aF (((xs.drop d).take f).drop nm))),.e (zs.getD 4 0),.e (zs.getD 5 0),.h (n2 big (zs.drop 6)),.q (n8 big (zs.drop 8))]) Z (by kernel_rfl) (fun d4 d5 cO L=>⟨⟨L.c 1 0 Z Z,L.c 1 1 Z Z,L.c 1 2 Z Z,L.c 1 3 Z Z,L.c 1 4 Z Z⟩,fun _=>L.c 2 4 Z Z,qr Z (bG L 4 (m:=1) (news:= [.str (dZ (aF (((xs.drop d).take f).drop nm))),.e (zs.getD 4 0),.e (zs.getD 5 0),.h (n2 big (zs.drop 6)),.q (n8 big (zs.drop 8))]) Z yL zw Z (by decide) Z Z Z (L.news (i:=0) Z) (by simp[Value.oneCell']) (by simp only[maxLen];omega) (by omega) (fun d6 d7 M=> ?_))⟩)))))))))
        obtain⟨cP,cQ,rfl,_,_⟩:=aw (M.g 4 rfl)
        refine⟨⟨M.c 1 0 Z Z,M.c 1 1 Z Z,M.c 1 2 Z Z,M.c 1 3 Z Z,M.c 1 4 Z Z⟩,fun _=>M.c 2 4 Z Z,qy Z (ah Z) (qy Z (ab (o:=0) gw Z) (dJ Z (es M 2 4 (.s cP (j+1) cQ) Z gi (fun d8 S=> ?_))))⟩
        refine⟨⟨S.c 1 0 Z Z,S.c 1 1 Z Z,S.c 1 2 Z Z,S.c 1 3 Z Z,S.c 1 4 Z Z⟩,fun h=>absurd h (by decide),ca (ak (ac (ae (wv Z (aH (k:= .u64) (c:= ↑j+1) cK Z (aC (by omega) (by omega))) (mu (↑j+1) Z (wn ?_))))))⟩
        have hd:(cR true big ((xs.drop d).take f) ((xs.drop q8).take (16*r)) r)[j]? =some (gc true big ((xs.drop d).take f) zs):=by rw[fO (by omega),hzy]
        rw[show([.str (dZ (aF (((xs.drop d).take f).drop nm))),.e (zs.getD 4 0),.e (zs.getD 5 0),.h (n2 big (zs.drop 6)),.q (n8 big (zs.drop 8))]:List Value)=Sym.cells (gc true big ((xs.drop d).take f) zs)from hsym,←dV hd]at S
        exact⟨⟨j+1,_,_,m0,m1,m2,m3,m9,cG,cI,cJ,Z,by omega,fun k hk=>by rcases Nat.lt_or_eq_of_le (Nat.le_of_lt_succ hk)with h|h;exact hgood k h;subst h;rw[hzy];omega,S.re [2,3,4,5]⟩,by show r+1- nv (.q (↑j+1))<r+1- nv (ρ 86);rw[a1];simp only[nv];omega⟩
    ·
     simp only[bx]at a2
     refine bq (ar (ar (aQ (ac (sr (mg g0 Z (mg g0 Z (wc Z (wf dj Z (wv Z (H3.ld 0 Z dH Z (.s AL nL cL) Z) (mg g3 Z ?_)))))))))))
     refine mg g9 Z (wv Z (yz [.i 4,.sl gr or_ nr cr,.string (⟨#[]⟩),.sl gn on 6 cB] Z (by kernel_rfl)) (wm Z (kt H3 (ps:= [(0,.agg #[.i 4,.sl gr or_ nr cr,.string (⟨#[]⟩),.sl gn on 6 cB])]) (e:=74) (cs:= [.i 4,.sl gr or_ nr cr,.string (⟨#[]⟩),.sl gn on 6 cB]) Z (by kernel_rfl) (fun d9 dA cS bZ=>wm Z (bG bZ 2 (m:=1) (news:= [.i 4,.sl gr or_ nr cr,.string (⟨#[]⟩),.sl gn on 6 cB]) Z kT kY Z (by decide) Z Z Z (bZ.news (i:=0) Z) (by simp[Value.oneCell']) (by simp only[maxLen];omega) (by omega) (fun dB dD cb=> ?_))))))
     obtain⟨cT,cU,rfl,_,_⟩:=aw (cb.g 2 rfl)
     refine wc Z (wf dj Z (ws (es cb 1 2 (.s cT (nL+1) cU) Z dH (fun dE b9=> ?_))))
     refine wn (sr (av (.b true) Z (wn (aY ?_))))
     have hcur:lv.flatMap LoadV.cells++ [.i 4,.sl gr or_ nr cr,.string (⟨#[]⟩),.sl gn on 6 cB]=(lv++ [(LoadV.mk (⟨4,raw,[],[n4 big (ys.drop 0),n4 big (ys.drop 4),↑q8,↑r,↑d,↑f]⟩:LoadD) (.sl gr or_ nr cr) (.sl gn on 6 cB))]).flatMap LoadV.cells:=by rw[List.flatMap_append,List.flatMap_singleton];rfl
     rw[hcur]at b9
     have hjq:j=r:=by omega
     rw[List.take_of_length_le (by rw[dX];omega)]at b9
     exact⟨.inr Z,_,r1 (.b true) Z _ _,.inl ⟨[n4 big (ys.drop 0),n4 big (ys.drop 4),↑q8,↑r,↑d,↑f],(LoadV.mk (⟨4,raw,[],[n4 big (ys.drop 0),n4 big (ys.drop 4),↑q8,↑r,↑d,↑f]⟩:LoadD) (.sl gr or_ nr cr) (.sl gn on 6 cB)),cR true big ((xs.drop d).take f) ((xs.drop q8).take (16*r)) r,_,As,_,j,cs,Res.all [ay 76 5 (.s As j cs) j ((cR true big ((xs.drop d).take f) ((xs.drop q8).take (16*r)) r).flatMap Sym.cells),Dn],fun s=>by have e1:jk xs d f=some ((xs.drop d).take f):=da (by rw[hr.1];exact H);have e2:jk xs q8 (dY true*r)=some ((xs.drop q8).take (16*r)):=da (by rw[hr.1];exact hf2);have e3:pP true big ((xs.drop d).take f) ((xs.drop q8).take (16*r)) r=some (cR true big ((xs.drop d).take f) ((xs.drop q8).take (16*r)) r):=if_pos (fun k hk=>hgood k (by omega));simp only[bM,←hys,←X,←y,←B,←E,Int.toNat_natCast,e1,e2,e3];rw[if_neg (by omega)],Z,Z,by rw[dX];exact hjq.symm,by omega,Z,b9.reAll [3,4] [1,2],fun w hh=>by have hh:=aS.1 hh;exact⟨⟨_,_,_,Z,hDn w (hh Dn (by simp))⟩,by obtain⟨A,c,e,hv,_⟩:=aw (hh (ay 76 5 (.s As j cs) j ((cR true big ((xs.drop d).take f) ((xs.drop q8).take (16*r)) r).flatMap Sym.cells)) (by simp));injection e with e;subst e;exact hv⟩⟩⟩
   ·
    have a8:=br.drew
    refine aU MX (fun w'=>w'.cell? ⟨gn,on+4,none⟩=some (.q (↑d))∧w'.cell? ⟨gn,on+5,none⟩=some (.q (↑f))∧w'.cell? ⟨gn,on+2,none⟩=some (.q (↑q8))∧w'.cell? ⟨gn,on+3,none⟩=some (.q (↑r))) (tr 0 10 (Pl.run 10 (tr 11 12 (Pl.run 23 (Pl.take 24 (Pl.take 25 Pl.done)))))) (by kernel_rfl) (⟨show World.cell? _ _=some (.q (↑d))from(hDn _ (a8.g 1 Z)).cellAt 4 (by omega),show World.cell? _ _=some (.q (↑f))from(hDn _ (a8.g 1 Z)).cellAt 5 (by omega),show World.cell? _ _=some (.q (↑q8))from(hDn _ (a8.g 1 Z)).cellAt 2 (by omega),show World.cell? _ _=some (.q (↑r))from(hDn _ (a8.g 1 Z)).cellAt 3 (by omega)⟩) (qm (.b true) Z Z (qy Z (bS Z) (qm (.b false) Z Z (qz Z Z (am (v:= .sl gb ob N C) Z) (qz Z Z (am (v:= .sl gn on 6 cB) Z) (qz Z Z (aK (a:=⟨gn,on,none⟩) (i:=4) bL Z Z (by omega) (by omega)) (lQ Z Z (fun _ hS=>ag aP Z hS.1) (qz Z Z (am (v:= .sl gn on 6 cB) Z) (qz Z Z (aK (a:=⟨gn,on,none⟩) (i:=5) bL Z Z (by omega) (by omega)) (lQ Z Z (fun _ hS=>ag aP Z hS.2.1) (wD Z Z ?_)))))))))))
    refine ec iN (args:= [.sl gb ob N C,.q (↑d),.q (↑f)]) Z (aa (dU _ (by omega) (by omega) H) ?_)
    rintro e dG ⟨rfl,cc⟩
    have a9:=a8.cal0 cc
    refine⟨_,Z,⟨⟨show World.cell? _ _=some (.q (↑d))from(hDn _ (a9.g 1 Z)).cellAt 4 (by omega),show World.cell? _ _=some (.q (↑f))from(hDn _ (a9.g 1 Z)).cellAt 5 (by omega),show World.cell? _ _=some (.q (↑q8))from(hDn _ (a9.g 1 Z)).cellAt 2 (by omega),show World.cell? _ _=some (.q (↑r))from(hDn _ (a9.g 1 Z)).cellAt 3 (by omega)⟩,fun _=>trivial,qz Z Z (bS Z) (qy Z (aD (b:=false) (v:= .b false) Z Z) (qm (.b false) Z Z (qz Z Z (am (v:= .sl gb ob N C) Z) (qz Z Z (am (v:= .sl gn on 6 cB) Z) (qz Z Z (aK (a:=⟨gn,on,none⟩) (i:=2) bL Z Z (by omega) (by omega)) (lQ Z Z (fun _ hS=>ag aP Z hS.2.2.1) (qz Z Z (am (v:= .q 16) Z) (qz Z Z (am (v:= .sl gn on 6 cB) Z) (qz Z Z (aK (a:=⟨gn,on,none⟩) (i:=3) bL Z Z (by omega) (by omega)) ?_)))))))))⟩⟩
    refine lQ Z Z (fun _ hS=>ag aP Z hS.2.2.2) (qz Z Z (cM (k:= .u64) (c:= ↑(16*r)) Z Z (by rw[aC (by omega) (by omega)];omega)) (wD Z Z (ec iN (args:= [.sl gb ob N C,.q (↑q8),.q (↑(16*r))]) Z (aa (eg _ (by omega) (by omega) hf2) ?_))))
    rintro e dI ⟨rfl,cd⟩
    have aG:=a9.cal0 cd
    refine⟨_,Z,⟨⟨show World.cell? _ _=some (.q (↑d))from(hDn _ (aG.g 1 Z)).cellAt 4 (by omega),show World.cell? _ _=some (.q (↑f))from(hDn _ (aG.g 1 Z)).cellAt 5 (by omega),show World.cell? _ _=some (.q (↑q8))from(hDn _ (aG.g 1 Z)).cellAt 2 (by omega),show World.cell? _ _=some (.q (↑r))from(hDn _ (aG.g 1 Z)).cellAt 3 (by omega)⟩,fun _=>trivial,qz Z Z (bS Z) (qy Z (aD (b:=false) (v:= .b true) Z Z) (pn (aB Z (sr (av (.b false) Z (wn (rq ?_)))))))⟩⟩
    exact⟨.inr Z,_,r1 (.b false) Z _ _,.inr ⟨fun s=>by have e1:jk xs d f=some ((xs.drop d).take f):=da (by rw[hr.1];exact H);have e2:jk xs q8 (dY true*r)=none:=eR (by rw[hr.1];exact hf2);simp only[bM,←hys,←X,←y,←B,←E,Int.toNat_natCast,e1,e2];rw[if_neg (by omega)],Z,aG.sub (List.nil_sublist _)⟩⟩
  ·
   have aJ:=br.drew
   refine aU MX (fun w'=>w'.cell? ⟨gn,on+4,none⟩=some (.q (↑d))∧w'.cell? ⟨gn,on+5,none⟩=some (.q (↑f))∧w'.cell? ⟨gn,on+2,none⟩=some (.q (↑q8))∧w'.cell? ⟨gn,on+3,none⟩=some (.q (↑r))) (tr 0 10 (Pl.run 10 (tr 11 12 (Pl.run 23 (Pl.take 24 (Pl.take 25 Pl.done)))))) (by kernel_rfl) (⟨show World.cell? _ _=some (.q (↑d))from(hDn _ (aJ.g 1 Z)).cellAt 4 (by omega),show World.cell? _ _=some (.q (↑f))from(hDn _ (aJ.g 1 Z)).cellAt 5 (by omega),show World.cell? _ _=some (.q (↑q8))from(hDn _ (aJ.g 1 Z)).cellAt 2 (by omega),show World.cell? _ _=some (.q (↑r))from(hDn _ (aJ.g 1 Z)).cellAt 3 (by omega)⟩) (qm (.b true) Z Z (qy Z (bS Z) (qm (.b false) Z Z (qz Z Z (am (v:= .sl gb ob N C) Z) (qz Z Z (am (v:= .sl gn on 6 cB) Z) (qz Z Z (aK (a:=⟨gn,on,none⟩) (i:=4) bL Z Z (by omega) (by omega)) (lQ Z Z (fun _ hS=>ag aP Z hS.1) (qz Z Z (am (v:= .sl gn on 6 cB) Z) (qz Z Z (aK (a:=⟨gn,on,none⟩) (i:=5) bL Z Z (by omega) (by omega)) (lQ Z Z (fun _ hS=>ag aP Z hS.2.1) (wD Z Z ?_)))))))))))
   refine ec iN (args:= [.sl gb ob N C,.q (↑d),.q (↑f)]) Z (aa (eg _ (by omega) (by omega) H) ?_)
   rintro e dL ⟨rfl,ce⟩
   have G:=aJ.cal0 ce
   refine⟨_,Z,⟨⟨show World.cell? _ _=some (.q (↑d))from(hDn _ (G.g 1 Z)).cellAt 4 (by omega),show World.cell? _ _=some (.q (↑f))from(hDn _ (G.g 1 Z)).cellAt 5 (by omega),show World.cell? _ _=some (.q (↑q8))from(hDn _ (G.g 1 Z)).cellAt 2 (by omega),show World.cell? _ _=some (.q (↑r))from(hDn _ (G.g 1 Z)).cellAt 3 (by omega)⟩,fun _=>trivial,qz Z Z (bS Z) (qy Z (aD (b:=false) (v:= .b true) Z Z) (qm (.b true) Z Z (bD Z Z (bD Z Z (bD Z Z (bD Z Z (bD Z Z (bD Z Z (bD Z Z ?_)))))))))⟩⟩
   refine bD Z Z (bD Z Z (ry Z Z (⟨show World.cell? _ _=some (.q (↑d))from(hDn _ (G.g 1 Z)).cellAt 4 (by omega),show World.cell? _ _=some (.q (↑f))from(hDn _ (G.g 1 Z)).cellAt 5 (by omega),show World.cell? _ _=some (.q (↑q8))from(hDn _ (G.g 1 Z)).cellAt 2 (by omega),show World.cell? _ _=some (.q (↑r))from(hDn _ (G.g 1 Z)).cellAt 3 (by omega)⟩) (fun _=>trivial) (bD Z Z (qy Z (aD (b:=true) (v:= .b true) Z Z) (pn (aB Z (sr (av (.b false) Z (wn (rq ?_))))))))))
   exact⟨.inr Z,_,r1 (.b false) Z _ _,.inr ⟨fun s=>by have e1:jk xs d f=none:=eR (by rw[hr.1];exact H);simp only[bM,←hys,←X,←y,←B,←E,Int.toNat_natCast,e1];rw[if_neg (by omega)],Z,G.sub (List.nil_sublist _)⟩⟩
 ·
  have cf:=H0.drew
  refine aU MX (fun w'=>w'.cell? ⟨fb,1,none⟩=some (.b big)) (tr 0 4 (Pl.take 5 (Pl.run 4 (Pl.run 6 (tr 7 5 Pl.done))))) (by kernel_rfl) (cf.c 0 1 Z Z) (qm (.pt fb) Z Z (qy Z (ah Z) (qy Z (ab (o:=0) dF Z) (qh Z (fun hS=>ag dc Z hS) (qm (.sl gr or_ nr cr) Z Z (qr Z (ec jN (args:= [.i 6]) Z (aa (dK (n:=6) _ (by omega)) ?_))))))))
  rintro e dM ⟨A4,c4,rfl,cg⟩
  have bf:=cf.cal0 cg
  refine⟨_,Z,⟨bf.c 1 1 Z Z,fun _=>trivial,qr Z (ec jt (args:= [.b big,.s A4 6 c4,.sl gr or_ nr cr]) Z (aa (eK (ws:=List.replicate 6 4) (bs:=raw) big _ (aV (bf.g 0 Z)) (fY _) (hrr.keepB bf.keep hB hgr) hnr (by omega) hrb (by decide) (by rw[fX];omega)) ?_))⟩⟩
  rintro e cY ⟨rfl,bB⟩
  have bo:=bf.cal0 bB
  refine⟨_,Z,⟨bo.c 1 1 Z Z,fun _=>trivial,qm (.tuple #[.ns,.b false]) Z Z (qy Z (aE (v:= .ns) Z Z) (qy Z (aE (v:= .b false) Z Z) (qa (.ns) Z Z (qa (.b false) Z Z (pn (sr (mv (.b true) Z (wE [.b true] sA Z Z (aa (fH _) ?_)))))))))⟩⟩
  rintro e cZ ⟨bg,bi,V,cV,rfl,ch,bC,W⟩
  have aL:=bo.cal0 bC
  refine⟨_,Z,wE [.s bg bi V] oU Z Z (aa (by have h:=gG (ws:=kP true) (cW:=V) _ (W _ (aL.g 0 Z)) (dO (kO true)) (by rw[←(W _ (aL.g 0 Z)).1];decide);rw[nG,show((dY true:Nat):Int)=16 from Z]at h;exact h) ?_)⟩
  rintro e dd ⟨rfl,bE⟩
  have ci:=aL.cal0 bE
  refine⟨_,Z,wv Z (ao (c:=16) ej be Z Z) (au 16 Z (wn (ad (ad ?_))))⟩
  have cj:=ci.drew
  refine aU MX (fun w'=>True) (tr 0 10 (Pl.run 10 (tr 11 12 (Pl.run 23 (Pl.take 24 (Pl.take 25 Pl.done)))))) (by kernel_rfl) (trivial) (qm (.b false) Z Z (qy Z (bS Z) (qm (.b true) Z Z (bD Z Z (bD Z Z (bD Z Z (bD Z Z (bD Z Z (bD Z Z (bD Z Z (ry Z Z (trivial) (fun _=>trivial) ?_)))))))))))
  refine bD Z Z (qy Z (aD (b:=true) (v:= .b true) Z Z) (qm (.b true) Z Z (bD Z Z (bD Z Z (bD Z Z (bD Z Z (bD Z Z (bD Z Z (bD Z Z (bD Z Z (bD Z Z ?_)))))))))))
  refine ry Z Z (trivial) (fun _=>trivial) (bD Z Z (qy Z (aD (b:=true) (v:= .b true) Z Z) (pn (aB Z (sr (av (.b false) Z (wn (rq ?_))))))))
  exact⟨.inr Z,_,r1 (.b false) Z _ _,.inr ⟨fun s=>by unfold bM;rw[if_pos (by omega)],Z,cj.sub (List.nil_sublist _)⟩⟩
end Go.Proofs.YtlndedfkgiafhaaDoor
