import Derived.Test.YtlndedfkgiafhaaDoorXAI
set_option linter.unusedVariables false
set_option linter.unusedSimpArgs false
set_option maxRecDepth 100000
set_option maxHeartbeats 4000000
namespace Go.Proofs.YtlndedfkgiafhaaDoor
open Go Go.RowKit Go.Proofs
theorem qQ:bg Tryd.prog 16:=aL (by kernel_rfl)
theorem oU:bg Tryd.prog 15:=aL (by kernel_rfl)
theorem zE:bg Tryd.prog 40:=aL (by kernel_rfl)
theorem jX:FA 33 3 3:=fa (by kernel_rfl)
theorem m7:dI Tryd.prog 30:=bN (by kernel_rfl)
theorem Ba:Tryd.prog.underlying 30=some (.slice 72):=by kernel_rfl
theorem BJ:(Tryd.prog.info? 72).map (fun i=>(i.zero,i.size,i.bytes))=some (some (.agg #[.string (⟨#[]⟩),.string (⟨#[]⟩),.ns,.ns,.ns,.b false]),6,112):=by kernel_rfl
theorem vw{fb gr or_ nr cr base:Nat}{gb ob N C nL cL nP cP:Nat}{AL AP:Option Addr}{xs:List Int}{lv:List LoadV}{pv:List PartV}{vh vs vi:Value}{raw:List Int}(big:Bool)(w:World)(h0:St w (Res.all [an fb [vh,.b big,.s AL nL cL,.s AP nP cP,vs,vi] 33,ay 74 4 (.s AL nL cL) nL (lv.flatMap LoadV.cells),ay 72 6 (.s AP nP cP) nP (pv.flatMap PartV.cellsM)]).F [an fb [vh,.b big,.s AL nL cL,.s AP nP cP,vs,vi] 33,ay 74 4 (.s AL nL cL) nL (lv.flatMap LoadV.cells),ay 72 6 (.s AP nP cP) nP (pv.flatMap PartV.cellsM)] w)(hB: ∀g,(Res.all [an fb [vh,.b big,.s AL nL cL,.s AP nP cP,vs,vi] 33,ay 74 4 (.s AL nL cL) nL (lv.flatMap LoadV.cells),ay 72 6 (.s AP nP cP) nP (pv.flatMap PartV.cellsM)]).F g → base≤g)(hbw:base≤w.heap.size)(hrr:RI .u8 w (some ⟨gr,or_,none⟩) nr raw)(hrb:Byt raw)(hnr:nr≤cr)(hnN:nr<10485760)(hgr:gr<base)(hr:RI .u8 w (some ⟨gb,ob,none⟩) N xs)(hby:Byt xs)(hNC:N≤C)(hN:N<10485760)(hgb:gb<base)(hnL:nL≤10485760)(hnP:nP≤10485760):
 Calls Tryd.prog 29 #[.pt fb,.sl gb ob N C,.b false,.sl gr or_ nr cr] w fun e w'=>(∃(ld:LoadD) (x:LoadV) (dn:List SecD) (pj:List PartV) (AL2 AP2:Option Addr) (cL2 nP2 cP2:Nat) (D:Res),(∀s,dk false big xs raw s=some {s with loads:=s.loads++ [ld],secs:=s.secs++dn})∧x.l=ld∧ld.raw=raw∧x.vr= .sl gr or_ nr cr∧pj.map PartV.p=dn.map (fun s=>s.part N xs)∧nP2≤nP+nr∧e= .returned (.b true)∧St w (Res.all [an fb [vh,.b big,.s AL nL cL,.s AP nP cP,vs,vi] 33,ay 74 4 (.s AL nL cL) nL (lv.flatMap LoadV.cells),ay 72 6 (.s AP nP cP) nP (pv.flatMap PartV.cellsM)]).F [D,an fb [vh,.b big,.s AL2 (nL+1) cL2,.s AP2 nP2 cP2,vs,vi] 33,ay 74 4 (.s AL2 (nL+1) cL2) (nL+1) ((lv++ [x]).flatMap LoadV.cells),ay 72 6 (.s AP2 nP2 cP2) nP2 ((pv++pj).flatMap PartV.cellsM)] w'∧∀w,D.φ w → SlI' .u64 w x.vn ld.nums∧(RI .u8 w (some ⟨gb,ob,none⟩) N xs → ∀y ∈ pj,y.ok w))∨((∀s,dk false big xs raw s=none)∧e= .returned (.b false)∧St w (Res.all [an fb [vh,.b big,.s AL nL cL,.s AP nP cP,vs,vi] 33,ay 74 4 (.s AL nL cL) nL (lv.flatMap LoadV.cells),ay 72 6 (.s AP nP cP) nP (pv.flatMap PartV.cellsM)]).F [] w'):=by
 refine aA (args:= [.pt fb,.sl gb ob N C,.b false,.sl gr or_ nr cr]) Tryd.func29 Z Z Z ?_
 have H0:St _ _ [an fb [vh,.b big,.s AL nL cL,.s AP nP cP,vs,vi] 33,ay 74 4 (.s AL nL cL) nL (lv.flatMap LoadV.cells),ay 72 6 (.s AP nP cP) nP (pv.flatMap PartV.cellsM)] _:=h0
 refine sr (av (.b false) Z (wn (ad ?_)))
 have hrl:=hrr.1
 by_cases hfit:56≤nr
 ·
  obtain⟨ys,hys⟩: ∃q,q=(raw.drop 0).take 56:=⟨_,rfl⟩
  have hbys:Byt ys:=by rw[hys];exact(hrb.drop _).take _
  obtain⟨q8,aj⟩: ∃q:Nat,(q:Int)=n4 big (ys.drop 48):=⟨(n4 big (ys.drop 48)).toNat,Int.toNat_of_nonneg (ba big (hbys.drop _)).1⟩
  have bB:(q8:Int)<4294967296:=by rw[aj];exact(ba big (hbys.drop _)).2
  have hNL:bF big (ia false) raw= [n4 big (ys.drop 0),n4 big (ys.drop 4),n4 big (ys.drop 24),n4 big (ys.drop 28),n4 big (ys.drop 32),n4 big (ys.drop 36),n4 big (ys.drop 40),n4 big (ys.drop 44),↑q8,n4 big (ys.drop 52)]:=by rw[aj,hys];exact segV false big raw
  have hns:((ek false big ys).getD 8 0).toNat=q8:=by show(n4 big (ys.drop 48)).toNat=q8;omega
  have bC:(raw.drop 8).take 16=(ys.drop 8).take 16:=by rw[hys,mw (by omega)];rfl
  have:=ba big (hbys.drop 32)
  have:=ba big (hbys.drop 36)
  have H1:=H0.drew
  refine aU MX (fun w'=>w'.cell? ⟨fb,1,none⟩=some (.b big)) (tr 0 5 (Pl.take 6 (Pl.run 5 (Pl.run 7 (tr 8 5 Pl.done))))) (by kernel_rfl) (H1.c 0 1 Z Z) (qm (.pt fb) Z Z (qy Z (ah Z) (qy Z (ab (o:=0) dF Z) (qh Z (fun hS=>ag dc Z hS) (qm (.b false) Z Z (qm (.sl gr or_ nr cr) Z Z (qr Z (ec qQ (args:= [.b false]) Z (aa (eI _) ?_)))))))))
  rintro e w4 ⟨aW,bb,bc,ch,rfl,bD,bH,bd⟩
  have H5:=H1.cal0 bH
  refine⟨_,Z,⟨H5.c 1 1 Z Z,fun _=>trivial,qr Z (ec jt (args:= [.b big,.s aW bb bc,.sl gr or_ nr cr]) Z (aa (dW (ws:=ia false) (bs:=raw) big _ (bd _ (H5.g 0 Z)) (iS _) (hrr.keepB H5.keep hB hgr) hnr (by omega) hrb (by decide) (K:=10) (show 56≤nr from hfit) (by rw[hNL];rfl) (by omega)) ?_))⟩⟩
  rintro e w7 ⟨gn,on,cB,Dn,rfl,hcB,bI,hDn⟩
  rw[hNL]at hDn
  have H8:=H5.cal0 bI
  refine⟨_,Z,⟨H8.c 2 1 Z Z,fun _=>trivial,qm (.tuple #[.sl gn on 10 cB,.b true]) Z Z (qy Z (aE (v:= .sl gn on 10 cB) Z Z) (qy Z (aE (v:= .b true) Z Z) (qa (.sl gn on 10 cB) Z Z (qa (.b true) Z Z (pn (ad (sr (mv (.b true) Z (wv Z (bS Z) ?_)))))))))⟩⟩
  refine mv (.b false) Z (aX Z Z (am (v:= .sl gn on 10 cB) Z) (aX Z Z (aK bL Z Z (by omega) (by omega)) (aX Z Z (ag aP Z (show World.cell? _ _=some (.q (n4 big (ys.drop 32)))from(hDn _ (H8.g 0 Z)).cellAt 4 (by omega))) (aX Z Z (dM (c:=n4 big (ys.drop 32) / 9223372036854775808) Z Z (by decide) (by rw[show(2:Int) ^ (min (63:Int).toNat IntKind.u64.bits)=9223372036854775808 from by decide,Int.fdiv_eq_ediv_of_nonneg _ (by decide)])) (aX Z Z (aT Z Z (beq_eq_false_iff_ne.2 (by omega))) (wv Z (aD (b:=false) (v:= .b false) Z Z) (mv (.b false) Z (aX Z Z (am (v:= .sl gn on 10 cB) Z) (aX Z Z (aK bL Z Z (by omega) (by omega)) (aX Z Z (ag aP Z (show World.cell? _ _=some (.q (n4 big (ys.drop 36)))from(hDn _ (H8.g 0 Z)).cellAt 5 (by omega))) (aX Z Z (dM (c:=n4 big (ys.drop 36) / 9223372036854775808) Z Z (by decide) (by rw[show(2:Int) ^ (min (63:Int).toNat IntKind.u64.bits)=9223372036854775808 from by decide,Int.fdiv_eq_ediv_of_nonneg _ (by decide)])) ?_)))))))))))
  refine aX Z Z (aT Z Z (beq_eq_false_iff_ne.2 (by omega))) (wv Z (aD (b:=false) (v:= .b false) Z Z) (wn (al Z (wk (ad ?_)))))
  have H9:=H8.drew
  refine dt MX (fun w'=>w'.cell? ⟨fb,2,none⟩=some (.s AL nL cL)) (fun w'=>True) 15 (tr 0 4 (Pl.takeS 4 (tr 5 3 (Pl.take 9 (Pl.run 8 (Pl.take 10 (Pl.run 11 (Pl.run 12 (Pl.take 13 (Pl.take 14 (Pl.run 15 Pl.done))))))))))) (by kernel_rfl) Z (H9.c 2 2 Z Z) (trivial) (qm (.pt fb) Z Z (qm (.pt fb) Z Z (qy Z (ah Z) (qy Z (ab (o:=0) dj Z) (qs Z Z (fun _ hS=>ag dH Z hS) (qm (.sl gr or_ nr cr) Z Z (qm (.sl gr or_ nr cr) Z Z (qt Z (fun _ hS=>(aq (l:=8) (h:=24) aZ Z (bs Z (by omega) Z) (bs Z (by omega) Z) (by omega) (by omega) (by omega) (by omega):Yv _ _ _ _ (.sl gr (or_+8) 16 (cr- 8)) _)) (qm (.sl gn on 10 cB) Z Z (qr Z (ec eA (args:= [.sl gr (or_+8) 16 (cr- 8)]) Z ?_)))))))))))
  refine aa (by have h:=c6 _ (((hrr.keepB H9.keep hB hgr).drop_ 8).take (m:=16) (by omega)) (c:=cr- 8) (by omega) (by omega);rw[bC]at h;exact h) ?_
  rintro e ci ⟨rfl,be⟩
  have bf:=H9.cal0 be
  refine⟨_,Z,⟨trivial,fun _=>bf.c 2 2 Z Z,qy Z (yb (ps:= [(0,.i 1),(1,.sl gr or_ nr cr),(2,.str (aF ((ys.drop 8).take 16))),(3,.sl gn on 10 cB)]) (cells:=#[.i 1,.sl gr or_ nr cr,.str (aF ((ys.drop 8).take 16)),.sl gn on 10 cB]) Z (by kernel_rfl)) (qr Z (kt bf (ps:= [(0,.agg #[.i 1,.sl gr or_ nr cr,.str (aF ((ys.drop 8).take 16)),.sl gn on 10 cB])]) (e:=74) (cs:= [.i 1,.sl gr or_ nr cr,.str (aF ((ys.drop 8).take 16)),.sl gn on 10 cB]) Z (by kernel_rfl) (fun W cj bJ ao=>⟨trivial,fun _=>ao.c 3 2 Z Z,qr Z (bG ao 4 (m:=1) (news:= [.i 1,.sl gr or_ nr cr,.str (aF ((ys.drop 8).take 16)),.sl gn on 10 cB]) Z kT kY Z (by decide) Z Z Z (ao.news (i:=0) Z) (by simp[Value.oneCell']) (by simp only[maxLen];omega) (by omega) (fun cl cm ap=> ?_))⟩)))⟩⟩
  obtain⟨f,r,rfl,_,_⟩:=aw (ap.g 4 rfl)
  refine⟨trivial,fun _=>ap.c 3 2 Z Z,qy Z (ah Z) (qy Z (ab (o:=0) dj Z) (dJ Z (es ap 3 2 (.s f (nL+1) r) Z dH (fun cn bM=> ?_))))⟩
  refine⟨trivial,fun h=>absurd h (by decide),pn (sr (mv (.b false) Z (wE [.b false] qQ Z Z (aa (eI _) ?_))))⟩
  rintro e co ⟨au,ax,J,ce,rfl,b7,bg,L⟩
  have az:=bM.cal0 bg
  refine⟨_,Z,wE [.s au ax J] oU Z Z (aa (by have h:=gG (ws:=ia false) (cW:=J) _ (L _ (az.g 0 Z)) (dO (iS false)) (by rw[←(L _ (az.g 0 Z)).1];decide);rw[mD,show((dN false:Nat):Int)=56 from Z]at h;exact h) ?_)⟩
  rintro e bN ⟨rfl,bi⟩
  have a0:=az.cal0 bi
  refine⟨_,Z,ai 56 Z (wn (ad (sr (ms gn on 10 cB Z (wv Z (aK bL Z Z (by omega) (by omega)) (wv Z (ag aP Z (show World.cell? _ _=some (.q (↑q8))from(hDn _ (a0.g 2 Z)).cellAt 8 (by omega))) (mu 0 Z (wn (a6 ?_)))))))))⟩
  have hcur:lv.flatMap LoadV.cells++ [.i 1,.sl gr or_ nr cr,.str (aF ((ys.drop 8).take 16)),.sl gn on 10 cB]=(lv++ [(LoadV.mk (⟨1,raw,aF ((ys.drop 8).take 16),ek false big ys⟩:LoadD) (.sl gr or_ nr cr) (.sl gn on 10 cB))]).flatMap LoadV.cells:=by rw[List.flatMap_append,List.flatMap_singleton];rfl
  rw[hcur]at a0
  have bO:St w (Res.all [an fb [vh,.b big,.s AL nL cL,.s AP nP cP,vs,vi] 33,ay 74 4 (.s AL nL cL) nL (lv.flatMap LoadV.cells),ay 72 6 (.s AP nP cP) nP (pv.flatMap PartV.cellsM)]).F [an fb [vh,.b big,.s f (nL+1) r,.s AP (nP+0) cP,vs,vi] 33,ay 74 4 (.s f (nL+1) r) (nL+1) ((lv++ [(LoadV.mk (⟨1,raw,aF ((ys.drop 8).take 16),ek false big ys⟩:LoadD) (.sl gr or_ nr cr) (.sl gn on 10 cB))]).flatMap LoadV.cells),ay 72 6 (.s AP (nP+0) cP) (nP+0) ((pv++ []).flatMap PartV.cellsM),Dn,Res.all []] bN:=by have h:=(a0.reAll [] [4,5,6,2]).re [1,2,3,4,0];rw[←List.append_nil pv]at h;exact h
  refine bA (fun ρ w'=> ∃j:Nat,∃APj:Option Addr,∃cPj:Nat,∃pj:List PartV,∃dn:List SecD,∃Dj:Res,ρ 0= .pt fb∧ρ 1= .sl gb ob N C∧ρ 2= .b false∧ρ 3= .sl gr or_ nr cr∧ρ 61= .q ↑q8∧ρ 62= .q ↑j∧ρ 11= .i ↑(56+68*j)∧j≤q8∧56+68*j≤nr∧pj.map PartV.p=dn.map (fun s=>s.part N xs)∧(∀w,Dj.φ w → RI .u8 w (some ⟨gb,ob,none⟩) N xs → ∀x ∈ pj,x.ok w)∧cG false big xs raw q8 56=(cG false big xs raw (q8- j) (56+68*j)).map (dn++ ·)∧St w (Res.all [an fb [vh,.b big,.s AL nL cL,.s AP nP cP,vs,vi] 33,ay 74 4 (.s AL nL cL) nL (lv.flatMap LoadV.cells),ay 72 6 (.s AP nP cP) nP (pv.flatMap PartV.cellsM)]).F [an fb [vh,.b big,.s f (nL+1) r,.s APj (nP+j) cPj,vs,vi] 33,ay 74 4 (.s f (nL+1) r) (nL+1) ((lv++ [(LoadV.mk (⟨1,raw,aF ((ys.drop 8).take 16),ek false big ys⟩:LoadD) (.sl gr or_ nr cr) (.sl gn on 10 cB))]).flatMap LoadV.cells),ay 72 6 (.s APj (nP+j) cPj) (nP+j) ((pv++pj).flatMap PartV.cellsM),Dn,Dj] w') (fun ρ _=>q8+1- nv (ρ 62)) (⟨0,AP,cP,[],[],Res.all [],Z,Z,Z,Z,Z,Z,Z,by omega,by omega,Z,by simp,by simp,bO⟩) ?_
  rintro ρ w3 ⟨j,APj,cPj,pj,dn,Dj,g0,g1,g2,g3,a1,X,a2,hj,hjz,hpj,hpo,hsec,H3⟩
  obtain⟨mj,hmj⟩: ∃m,m=min (56+68*j) nr:=⟨_,rfl⟩
  refine sr (wv Z (bR X a1) (wn (ad ?_)))
  refine bK Z (fun M=> ?_) (fun M=> ?_)
  ·
   simp only[bx]at M
   refine wk (ad (a6 ?_))
   refine eh (fun ρ w'=>(∃(g6:Nat) (s6:SecD) (x6:PartV) (D6:Res),68≤nr- mj∧et big xs (eP false big ((raw.drop mj).take 68))=some s6∧x6.p=s6.part N xs∧(∀w,D6.φ w → RI .u8 w (some ⟨gb,ob,none⟩) N xs → x6.ok w)∧((∃a b c,x6.vn= .s a b c)∧(∃a b c,x6.vr= .s a b c)∧(∃a b c,x6.vd= .s a b c))∧ρ 12= .pt g6∧ρ 13= .b true∧ρ 0= .pt fb∧ρ 1= .sl gb ob N C∧ρ 2= .b false∧ρ 3= .sl gr or_ nr cr∧ρ 61= .q ↑q8∧ρ 62= .q ↑j∧ρ 11= .i ↑(56+68*j)∧St w (Res.all [an fb [vh,.b big,.s AL nL cL,.s AP nP cP,vs,vi] 33,ay 74 4 (.s AL nL cL) nL (lv.flatMap LoadV.cells),ay 72 6 (.s AP nP cP) nP (pv.flatMap PartV.cellsM)]).F [an g6 [.str x6.p.name,.str x6.p.seg,x6.vn,x6.vr,x6.vd,.b (!x6.p.ok)] 72,D6,an fb [vh,.b big,.s f (nL+1) r,.s APj (nP+j) cPj,vs,vi] 33,ay 74 4 (.s f (nL+1) r) (nL+1) ((lv++ [(LoadV.mk (⟨1,raw,aF ((ys.drop 8).take 16),ek false big ys⟩:LoadD) (.sl gr or_ nr cr) (.sl gn on 10 cB))]).flatMap LoadV.cells),ay 72 6 (.s APj (nP+j) cPj) (nP+j) ((pv++pj).flatMap PartV.cellsM),Dn,Dj] w')∨((nr- mj<68∨et big xs (eP false big ((raw.drop mj).take 68))=none)∧ρ 13= .b false∧St w (Res.all [an fb [vh,.b big,.s AL nL cL,.s AP nP cP,vs,vi] 33,ay 74 4 (.s AL nL cL) nL (lv.flatMap LoadV.cells),ay 72 6 (.s AP nP cP) nP (pv.flatMap PartV.cellsM)]).F [] w')) ?_ ?_
   ·
    have hjn:j<q8:=by omega
    have E:=H3.drew
    refine aU MX (fun w'=>w'.cell? ⟨fb,1,none⟩=some (.b big)) (tr 0 12 (Pl.run2 12 (tr 13 3 (Pl.run 16 (Pl.run 17 (Pl.take 18 Pl.done)))) 16 (Pl.run 12 (tr 13 3 (Pl.run 17 (Pl.take 18 Pl.done)))))) (by kernel_rfl) (E.c 0 1 Z Z) (qm (.sl gb ob N C) Z g1 (qm (.pt fb) Z g0 (qy Z (ah Z) (qy Z (ab (o:=0) dF Z) (qh Z (fun hS=>ag dc Z hS) (qm (.b false) Z g2 (qm (.sl gr or_ nr cr) Z g3 (qm (.i (↑(56+68*j))) Z a2 (qm (.sl gr or_ nr cr) Z g3 (qy Z (aO (n:=nr) bU Z) (qy Z (i7 (c:= ↑mj) Z Z (by split<;>omega)) ?_)))))))))))
    refine qy Z ((show Yv _ _ _ _ (.s (dC (some ⟨gr,or_,none⟩) cr mj 1) (nr- mj) (cr- mj)) _ from eo (l:=mj) (h:=nr) aZ Z (bh Z (by omega) (Int.toNat_natCast _)) (bu _ _) (by omega) (by omega))) ?_
    refine⟨?_,?_⟩
    ·
     refine po Z (ec zE (args:= [.sl gb ob N C,.b big,.b false,.s (dC (some ⟨gr,or_,none⟩) cr mj 1) (nr- mj) (cr- mj)]) Z (aa (r7 big _ (hr.keepB E.keep hB hgb) hby hNC hN (show RI .u8 _ (dC (some ⟨gr,or_,none⟩) cr mj 1) (nr- mj) (raw.drop mj)from by have h:=(hrr.keepB E.keep hB hgr).cut (c:=cr) (l:=mj) (m:=nr) (by omega) (Nat.le_refl _) hnr;rwa [List.take_of_length_le (by rw[List.length_drop,hrl];omega)]at h) (hrb.drop _) (by omega) (by omega)) ?_))
     rintro e cp (⟨s6,Y,O,x6,D6,P,rfl,z,G⟩|⟨d,rfl,z⟩)
     ·
      obtain⟨⟨_,_,_,Q,_⟩,⟨_,_,_,R,_⟩,_,_,_,S,_⟩:=G _ (z.g 0 rfl) ((hr.keepB E.keep hB hgb).keep0 z.keep)
      have bj:=E.cal0 z
      refine⟨_,Z,⟨bj.c 1 1 Z Z,fun _=>trivial,qm (.tuple #[.agg #[.str x6.p.name,.str x6.p.seg,x6.vn,x6.vr,x6.vd,.b (!x6.p.ok)],.b true]) Z Z (qy Z (aE (v:= .agg #[.str x6.p.name,.str x6.p.seg,x6.vn,x6.vr,x6.vd,.b (!x6.p.ok)]) Z Z) (qy Z (aE (v:= .b true) Z Z) (qr Z (aN bj dg (fun cq ct bP bl=>⟨bl.c 2 1 Z Z,fun _=>trivial,dJ Z (bE bl 0 (vs:= [.str x6.p.name,.str x6.p.seg,x6.vn,x6.vr,x6.vd,.b (!x6.p.ok)]) (m:=6) Z ex Z Z Z (nl Z) (by simp[Value.oneCell',Q,R,S]) (cs':= [.str x6.p.name,.str x6.p.seg,x6.vn,x6.vr,x6.vd,.b (!x6.p.ok)]) Z (fun cu bm=> ?_))⟩)))))⟩⟩
      refine⟨bm.c 2 1 Z Z,fun _=>trivial,qa (.b true) Z Z (pn ?_)⟩
      exact .inl ⟨_,s6,x6,D6,Y,O,P,G,⟨⟨_,_,_,Q⟩,⟨_,_,_,R⟩,⟨_,_,_,S⟩⟩,Z,Z,g0,g1,g2,g3,a1,X,a2,bm.re [0,1,2,3,4,5,6]⟩
     ·
      have bn:=E.cal0 z
      refine⟨_,Z,⟨bn.c 0 1 Z Z,fun _=>trivial,qm (.tuple #[.agg #[.string (⟨#[]⟩),.string (⟨#[]⟩),.ns,.ns,.ns,.b false],.b false]) Z Z (qy Z (aE (v:= .agg #[.string (⟨#[]⟩),.string (⟨#[]⟩),.ns,.ns,.ns,.b false]) Z Z) (qy Z (aE (v:= .b false) Z Z) (qr Z (aN bn dg (fun cv cw bQ bo=>⟨bo.c 1 1 Z Z,fun _=>trivial,dJ Z (eN bo 0 [.string (⟨#[]⟩),.string (⟨#[]⟩),.ns,.ns,.ns,.b false] Z ex (fun cx bp=> ?_))⟩)))))⟩⟩
      refine⟨bp.c 1 1 Z Z,fun _=>trivial,qa (.b false) Z Z (pn ?_)⟩
      exact .inr ⟨d,Z,bp.sub (List.nil_sublist _)⟩
    ·
     refine po Z (aN E dg (fun cy cz bT I=>⟨I.c 1 1 Z Z,fun _=>trivial,qr Z (ec zE (args:= [.sl gb ob N C,.b big,.b false,.s (dC (some ⟨gr,or_,none⟩) cr mj 1) (nr- mj) (cr- mj)]) Z (aa (r7 big _ (hr.keepB I.keep hB hgb) hby hNC hN (show RI .u8 _ (dC (some ⟨gr,or_,none⟩) cr mj 1) (nr- mj) (raw.drop mj)from by have h:=(hrr.keepB I.keep hB hgr).cut (c:=cr) (l:=mj) (m:=nr) (by omega) (Nat.le_refl _) hnr;rwa [List.take_of_length_le (by rw[List.length_drop,hrl];omega)]at h) (hrb.drop _) (by omega) (by omega)) ?_))⟩))
     rintro e c0 (⟨s6,Y,O,x6,D6,P,rfl,A,G⟩|⟨d,rfl,A⟩)
     ·
      obtain⟨⟨_,_,_,Q,_⟩,⟨_,_,_,R,_⟩,_,_,_,S,_⟩:=G _ (A.g 0 rfl) ((hr.keepB I.keep hB hgb).keep0 A.keep)
      have br:=I.cal0 A
      refine⟨_,Z,⟨br.c 2 1 Z Z,fun _=>trivial,qm (.tuple #[.agg #[.str x6.p.name,.str x6.p.seg,x6.vn,x6.vr,x6.vd,.b (!x6.p.ok)],.b true]) Z Z (qy Z (aE (v:= .agg #[.str x6.p.name,.str x6.p.seg,x6.vn,x6.vr,x6.vd,.b (!x6.p.ok)]) Z Z) (qy Z (aE (v:= .b true) Z Z) (dJ Z (bE br 1 (vs:= [.str x6.p.name,.str x6.p.seg,x6.vn,x6.vr,x6.vd,.b (!x6.p.ok)]) (m:=6) Z ex Z Z Z (nl Z) (by simp[Value.oneCell',Q,R,S]) (cs':= [.str x6.p.name,.str x6.p.seg,x6.vn,x6.vr,x6.vd,.b (!x6.p.ok)]) Z (fun c1 bt=> ?_)))))⟩⟩
      refine⟨bt.c 2 1 Z Z,fun _=>trivial,qa (.b true) Z Z (pn ?_)⟩
      exact .inl ⟨_,s6,x6,D6,Y,O,P,G,⟨⟨_,_,_,Q⟩,⟨_,_,_,R⟩,⟨_,_,_,S⟩⟩,Z,Z,g0,g1,g2,g3,a1,X,a2,bt.re [1,0,2,3,4,5,6]⟩
     ·
      have bv:=I.cal0 A
      refine⟨_,Z,⟨bv.c 1 1 Z Z,fun _=>trivial,qm (.tuple #[.agg #[.string (⟨#[]⟩),.string (⟨#[]⟩),.ns,.ns,.ns,.b false],.b false]) Z Z (qy Z (aE (v:= .agg #[.string (⟨#[]⟩),.string (⟨#[]⟩),.ns,.ns,.ns,.b false]) Z Z) (qy Z (aE (v:= .b false) Z Z) (dJ Z (eN bv 0 [.string (⟨#[]⟩),.string (⟨#[]⟩),.ns,.ns,.ns,.b false] Z ex (fun c2 bw=> ?_)))))⟩⟩
      refine⟨bw.c 1 1 Z Z,fun _=>trivial,qa (.b false) Z Z (pn ?_)⟩
      exact .inr ⟨d,Z,bw.sub (List.nil_sublist _)⟩
   ·
    rintro c3 w5 (⟨g6,s6,x6,D6,Y,O,P,G,⟨⟨_,_,_,bV⟩,⟨_,_,_,bW⟩,⟨_,_,_,bX⟩⟩,bY,W,k0,k1,k2,k3,bZ,ca,cb,H5⟩|⟨d,W,H5⟩)
    ·
     have T:mj=56+68*j:=by omega
     have bz:et big xs (eP false big ((raw.drop (56+68*j)).take (d7 false)))=some s6:=by rw[←T];exact O
     refine ad (sr (mg W Z (wv Z (bS Z) (wn (al Z (wk (ad ?_)))))))
     have B:=H5.drew
     refine dt MX (fun w'=>w'.cell? ⟨fb,3,none⟩=some (.s APj (nP+j) cPj)) (fun w'=>w'.cell? ⟨g6,0,none⟩=some (.str x6.p.name)∧w'.cell? ⟨g6,1,none⟩=some (.str x6.p.seg)∧w'.cell? ⟨g6,2,none⟩=some (x6.vn)∧w'.cell? ⟨g6,3,none⟩=some (x6.vr)∧w'.cell? ⟨g6,4,none⟩=some (x6.vd)∧w'.cell? ⟨g6,5,none⟩=some (.b (!x6.p.ok))) 10 (tr 0 4 (Pl.takeS 4 (Pl.take 5 (Pl.run 6 (Pl.run 7 (Pl.take 8 (Pl.take 9 (Pl.run 10 Pl.done)))))))) (by kernel_rfl) Z (B.c 2 3 Z Z) (⟨B.c 0 0 Z Z,B.c 0 1 Z Z,B.c 0 2 Z Z,B.c 0 3 Z Z,B.c 0 4 Z Z,B.c 0 5 Z Z⟩) (qm (.pt fb) Z k0 (qm (.pt fb) Z k0 (qy Z (ah Z) (qy Z (ab (o:=0) jX Z) (qs Z Z (fun _ hS=>ag m7 Z hS) (qh Z (fun hS=>dQ (o:=0) kU bY (sY hS.1 hS.2.1 hS.2.2.1 hS.2.2.2.1 hS.2.2.2.2.1 hS.2.2.2.2.2) Z) (qr Z (kt B (ps:= [(0,.agg #[.str x6.p.name,.str x6.p.seg,x6.vn,x6.vr,x6.vd,.b (!x6.p.ok)])]) (e:=72) (cs:= [.str x6.p.name,.str x6.p.seg,x6.vn,x6.vr,x6.vd,.b (!x6.p.ok)]) Z (by kernel_rfl) (fun c4 c5 cc t=>⟨⟨t.c 1 0 Z Z,t.c 1 1 Z Z,t.c 1 2 Z Z,t.c 1 3 Z Z,t.c 1 4 Z Z,t.c 1 5 Z Z⟩,fun _=>t.c 3 3 Z Z,qr Z (bG t 5 (m:=1) (news:= [.str x6.p.name,.str x6.p.seg,x6.vn,x6.vr,x6.vd,.b (!x6.p.ok)]) Z Ba BJ Z (by decide) Z Z Z (t.news (i:=0) Z) (by simp[Value.oneCell',bV,bW,bX]) (by simp only[maxLen];omega) (by omega) (fun c7 c8 u=> ?_))⟩)))))))))
     obtain⟨a3,a4,rfl,_,_⟩:=aw (u.g 5 rfl)
     refine⟨⟨u.c 1 0 Z Z,u.c 1 1 Z Z,u.c 1 2 Z Z,u.c 1 3 Z Z,u.c 1 4 Z Z,u.c 1 5 Z Z⟩,fun _=>u.c 3 3 Z Z,qy Z (ah Z) (qy Z (ab (o:=0) jX Z) (dJ Z (es u 3 3 (.s a3 ((nP+j)+1) a4) Z m7 (fun c9 H=> ?_))))⟩
     refine⟨⟨H.c 1 0 Z Z,H.c 1 1 Z Z,H.c 1 2 Z Z,H.c 1 3 Z Z,H.c 1 4 Z Z,H.c 1 5 Z Z⟩,fun h=>absurd h (by decide),pn (ae (mg cb Z (mg k2 Z (wE [.b false] mB Z Z (aa (eJ _) ?_)))))⟩
     rintro e cA ⟨a8,a9,U,cf,rfl,b8,b0,V⟩
     have aG:=H.cal0 b0
     refine⟨_,Z,wE [.s a8 a9 U] oU Z Z (aa (by have h:=gG (ws:=fU false) (cW:=U) _ (V _ (aG.g 0 Z)) (dO (iU false)) (by rw[←(V _ (aG.g 0 Z)).1];decide);rw[mE,show((d7 false:Nat):Int)=68 from Z]at h;exact h) ?_)⟩
     rintro e cd ⟨rfl,b1⟩
     have b2:=aG.cal0 b1
     refine⟨_,Z,wv Z (aH (k:= .i64) (c:= ↑(56+68*j)+68) Z Z (a5 (by omega) (by omega))) (ai (↑(56+68*j)+68) Z (bk (ak (ac (ae (wv Z (aH (k:= .u64) (c:= ↑j+1) ca Z (aC (by omega) (by omega))) (mu (↑j+1) Z (wn ?_))))))))⟩
     have hcp:(pv++pj).flatMap PartV.cellsM++ [.str x6.p.name,.str x6.p.seg,x6.vn,x6.vr,x6.vd,.b (!x6.p.ok)]=(pv++(pj++ [x6])).flatMap PartV.cellsM:=by rw[←List.append_assoc,List.flatMap_append (xs:=pv++pj),List.flatMap_singleton];rfl
     rw[hcp]at b2
     have Hn:St w (Res.all [an fb [vh,.b big,.s AL nL cL,.s AP nP cP,vs,vi] 33,ay 74 4 (.s AL nL cL) nL (lv.flatMap LoadV.cells),ay 72 6 (.s AP nP cP) nP (pv.flatMap PartV.cellsM)]).F [an fb [vh,.b big,.s f (nL+1) r,.s a3 (nP+(j+1)) a4,vs,vi] 33,ay 74 4 (.s f (nL+1) r) (nL+1) ((lv++ [(LoadV.mk (⟨1,raw,aF ((ys.drop 8).take 16),ek false big ys⟩:LoadD) (.sl gr or_ nr cr) (.sl gn on 10 cB))]).flatMap LoadV.cells),ay 72 6 (.s a3 (nP+(j+1)) a4) (nP+(j+1)) ((pv++(pj++ [x6])).flatMap PartV.cellsM),Dn,Res.all [D6,Dj]] cd:=(b2.reAll [3,8] [4,5,6,7]).re [1,2,3,4,0]
     have aJ:cG false big xs raw q8 56=(cG false big xs raw (q8-(j+1)) (56+68*(j+1))).map ((dn++ [s6])++ ·):=by
      rw[hsec,show q8- j=(q8-(j+1))+1 by omega,gu (show ¬raw.length<56+68*j+68 by omega) bz,show 56+68*j+d7 false=56+68*(j+1)from by show 56+68*j+68= _;omega];cases cG false big xs raw (q8-(j+1)) (56+68*(j+1))<;>simp
     exact⟨⟨j+1,_,_,pj++ [x6],dn++ [s6],Res.all [D6,Dj],k0,k1,k2,k3,bZ,Z,(show Value.i _=Value.i _ from congrArg _ (by omega)),by omega,by omega,by rw[List.map_append,List.map_append,hpj,List.map_singleton,List.map_singleton,P],fun w hh hb y hy=>by have hh:=aS.1 hh;rcases List.mem_append.1 hy with hy|hy;exact hpo w (hh Dj (by simp)) hb y hy;rw[List.mem_singleton.1 hy];exact G w (hh D6 (by simp)) hb,aJ,Hn⟩,by show q8+1- nv (.q (↑j+1))<q8+1- nv (ρ 62);rw[X];simp only[nv];omega⟩
    ·
     have e0:cG false big xs raw q8 56=none:=by
      rw[hsec,show q8- j=(q8-(j+1))+1 by omega]
      by_cases hl:raw.length<56+68*j+68
      · rw[iT (show raw.length<56+68*j+d7 false from hl)];rfl
      · have T:mj=56+68*j:=by omega
        rw[kj (show ¬raw.length<56+68*j+d7 false from hl) (by rw[←T];exact d.resolve_left (by omega))];rfl
     refine ad (sr (mg W Z (wv Z (bS Z) (wn (aB Z (sr (av (.b false) Z (wn (rq (aI (a7 ?_)))))))))))
     refine a7 (aI (a7 ?_))
     exact⟨.inr Z,_,r1 (.b false) Z _ _,.inr ⟨fun s=>gk hys hns e0,Z,H5.sub (List.nil_sublist _)⟩⟩
  ·
   simp only[bx]at M
   refine bq (ar (ar (aQ (ac (sr (av (.b true) Z (wn (aY ?_))))))))
   have hjn:j=q8:=by omega
   have e0:cG false big xs raw q8 56=some dn:=by rw[hsec,show q8- j=0 by omega];simp[cG]
   exact⟨.inr Z,_,r1 (.b true) Z _ _,.inl ⟨(⟨1,raw,aF ((ys.drop 8).take 16),ek false big ys⟩:LoadD),(LoadV.mk (⟨1,raw,aF ((ys.drop 8).take 16),ek false big ys⟩:LoadD) (.sl gr or_ nr cr) (.sl gn on 10 cB)),dn,pj,f,APj,r,(nP+j),cPj,Res.all [Dn,Dj],fun s=>j3 (show ¬raw.length<56 by omega) hys hns e0 (by show ¬(_≤n4 big (ys.drop 32)∨ _≤n4 big (ys.drop 36));omega),Z,Z,Z,hpj,by omega,Z,(H3.reAll [3,4] [0,1,2]),fun w hh=>by have hh:=aS.1 hh;exact⟨⟨_,_,_,Z,by have h:=hDn w (hh Dn (by simp));rw[aj]at h;exact h⟩,hpo w (hh Dj (by simp))⟩⟩⟩
 ·
  have b3:=H0.drew
  refine aU MX (fun w'=>w'.cell? ⟨fb,1,none⟩=some (.b big)) (tr 0 5 (Pl.take 6 (Pl.run 5 (Pl.run 7 (tr 8 5 Pl.done))))) (by kernel_rfl) (b3.c 0 1 Z Z) (qm (.pt fb) Z Z (qy Z (ah Z) (qy Z (ab (o:=0) dF Z) (qh Z (fun hS=>ag dc Z hS) (qm (.b false) Z Z (qm (.sl gr or_ nr cr) Z Z (qr Z (ec qQ (args:= [.b false]) Z (aa (eI _) ?_)))))))))
  rintro e cC ⟨aL,aM,aR,cg,rfl,b9,b4,aV⟩
  have af:=b3.cal0 b4
  refine⟨_,Z,⟨af.c 1 1 Z Z,fun _=>trivial,qr Z (ec jt (args:= [.b big,.s aL aM aR,.sl gr or_ nr cr]) Z (aa (eK (ws:=ia false) (bs:=raw) big _ (aV _ (af.g 0 Z)) (iS _) (hrr.keepB af.keep hB hgr) hnr (by omega) hrb (by decide) (show nr<56 by omega)) ?_))⟩⟩
  rintro e cD ⟨rfl,b5⟩
  have b6:=af.cal0 b5
  refine⟨_,Z,⟨b6.c 1 1 Z Z,fun _=>trivial,qm (.tuple #[.ns,.b false]) Z Z (qy Z (aE (v:= .ns) Z Z) (qy Z (aE (v:= .b false) Z Z) (qa (.ns) Z Z (qa (.b false) Z Z (pn (ad (sr (mv (.b false) Z (wv Z (bS Z) ?_)))))))))⟩⟩
  refine mv (.b true) Z (ck Z Z (ck Z Z (ck Z Z (ck Z Z (ck Z Z (wv Z (aD (b:=true) (v:= .b true) Z Z) (mv (.b true) Z (ck Z Z (ck Z Z (ck Z Z (ck Z Z ?_)))))))))))
  refine ck Z Z (wv Z (aD (b:=true) (v:= .b true) Z Z) (wn (aB Z (sr (av (.b false) Z (wn (rq ?_)))))))
  exact⟨.inr Z,_,r1 (.b false) Z _ _,.inr ⟨fun s=>if_pos (show raw.length<56 by omega),Z,b6.sub (List.nil_sublist _)⟩⟩
theorem vv{fb gr or_ nr cr base:Nat}{gb ob N C nL cL nP cP:Nat}{AL AP:Option Addr}{xs:List Int}{lv:List LoadV}{pv:List PartV}{vh vs vi:Value}{raw:List Int}(big:Bool)(w:World)(h0:St w (Res.all [an fb [vh,.b big,.s AL nL cL,.s AP nP cP,vs,vi] 33,ay 74 4 (.s AL nL cL) nL (lv.flatMap LoadV.cells),ay 72 6 (.s AP nP cP) nP (pv.flatMap PartV.cellsM)]).F [an fb [vh,.b big,.s AL nL cL,.s AP nP cP,vs,vi] 33,ay 74 4 (.s AL nL cL) nL (lv.flatMap LoadV.cells),ay 72 6 (.s AP nP cP) nP (pv.flatMap PartV.cellsM)] w)(hB: ∀g,(Res.all [an fb [vh,.b big,.s AL nL cL,.s AP nP cP,vs,vi] 33,ay 74 4 (.s AL nL cL) nL (lv.flatMap LoadV.cells),ay 72 6 (.s AP nP cP) nP (pv.flatMap PartV.cellsM)]).F g → base≤g)(hbw:base≤w.heap.size)(hrr:RI .u8 w (some ⟨gr,or_,none⟩) nr raw)(hrb:Byt raw)(hnr:nr≤cr)(hnN:nr<10485760)(hgr:gr<base)(hr:RI .u8 w (some ⟨gb,ob,none⟩) N xs)(hby:Byt xs)(hNC:N≤C)(hN:N<10485760)(hgb:gb<base)(hnL:nL≤10485760)(hnP:nP≤10485760):
 Calls Tryd.prog 29 #[.pt fb,.sl gb ob N C,.b true,.sl gr or_ nr cr] w fun e w'=>(∃(ld:LoadD) (x:LoadV) (dn:List SecD) (pj:List PartV) (AL2 AP2:Option Addr) (cL2 nP2 cP2:Nat) (D:Res),(∀s,dk true big xs raw s=some {s with loads:=s.loads++ [ld],secs:=s.secs++dn})∧x.l=ld∧ld.raw=raw∧x.vr= .sl gr or_ nr cr∧pj.map PartV.p=dn.map (fun s=>s.part N xs)∧nP2≤nP+nr∧e= .returned (.b true)∧St w (Res.all [an fb [vh,.b big,.s AL nL cL,.s AP nP cP,vs,vi] 33,ay 74 4 (.s AL nL cL) nL (lv.flatMap LoadV.cells),ay 72 6 (.s AP nP cP) nP (pv.flatMap PartV.cellsM)]).F [D,an fb [vh,.b big,.s AL2 (nL+1) cL2,.s AP2 nP2 cP2,vs,vi] 33,ay 74 4 (.s AL2 (nL+1) cL2) (nL+1) ((lv++ [x]).flatMap LoadV.cells),ay 72 6 (.s AP2 nP2 cP2) nP2 ((pv++pj).flatMap PartV.cellsM)] w'∧∀w,D.φ w → SlI' .u64 w x.vn ld.nums∧(RI .u8 w (some ⟨gb,ob,none⟩) N xs → ∀y ∈ pj,y.ok w))∨((∀s,dk true big xs raw s=none)∧e= .returned (.b false)∧St w (Res.all [an fb [vh,.b big,.s AL nL cL,.s AP nP cP,vs,vi] 33,ay 74 4 (.s AL nL cL) nL (lv.flatMap LoadV.cells),ay 72 6 (.s AP nP cP) nP (pv.flatMap PartV.cellsM)]).F [] w'):=by
 refine aA (args:= [.pt fb,.sl gb ob N C,.b true,.sl gr or_ nr cr]) Tryd.func29 Z Z Z ?_
 have H0:St _ _ [an fb [vh,.b big,.s AL nL cL,.s AP nP cP,vs,vi] 33,ay 74 4 (.s AL nL cL) nL (lv.flatMap LoadV.cells),ay 72 6 (.s AP nP cP) nP (pv.flatMap PartV.cellsM)] _:=h0
 refine sr (av (.b false) Z (wn (ad ?_)))
 have hrl:=hrr.1
 by_cases hfit:72≤nr
 ·
  obtain⟨ys,hys⟩: ∃q,q=(raw.drop 0).take 72:=⟨_,rfl⟩
  have hbys:Byt ys:=by rw[hys];exact(hrb.drop _).take _
  obtain⟨q8,aj⟩: ∃q:Nat,(q:Int)=n4 big (ys.drop 64):=⟨(n4 big (ys.drop 64)).toNat,Int.toNat_of_nonneg (ba big (hbys.drop _)).1⟩
  have bB:(q8:Int)<4294967296:=by rw[aj];exact(ba big (hbys.drop _)).2
  have hNL:bF big (ia true) raw= [n4 big (ys.drop 0),n4 big (ys.drop 4),n8 big (ys.drop 24),n8 big (ys.drop 32),n8 big (ys.drop 40),n8 big (ys.drop 48),n4 big (ys.drop 56),n4 big (ys.drop 60),↑q8,n4 big (ys.drop 68)]:=by rw[aj,hys];exact segV true big raw
  have hns:((ek true big ys).getD 8 0).toNat=q8:=by show(n4 big (ys.drop 64)).toNat=q8;omega
  have bC:(raw.drop 8).take 16=(ys.drop 8).take 16:=by rw[hys,mw (by omega)];rfl
  have:=nJ big (hbys.drop 40)
  have:=nJ big (hbys.drop 48)
  have H1:=H0.drew
  refine aU MX (fun w'=>w'.cell? ⟨fb,1,none⟩=some (.b big)) (tr 0 5 (Pl.take 6 (Pl.run 5 (Pl.run 7 (tr 8 5 Pl.done))))) (by kernel_rfl) (H1.c 0 1 Z Z) (qm (.pt fb) Z Z (qy Z (ah Z) (qy Z (ab (o:=0) dF Z) (qh Z (fun hS=>ag dc Z hS) (qm (.b true) Z Z (qm (.sl gr or_ nr cr) Z Z (qr Z (ec qQ (args:= [.b true]) Z (aa (ff _) ?_)))))))))
  rintro e w4 ⟨aW,bb,bc,ch,rfl,bD,bH,bd⟩
  have H5:=H1.cal0 bH
  refine⟨_,Z,⟨H5.c 1 1 Z Z,fun _=>trivial,qr Z (ec jt (args:= [.b big,.s aW bb bc,.sl gr or_ nr cr]) Z (aa (dW (ws:=ia true) (bs:=raw) big _ (bd _ (H5.g 0 Z)) (iS _) (hrr.keepB H5.keep hB hgr) hnr (by omega) hrb (by decide) (K:=10) (show 72≤nr from hfit) (by rw[hNL];rfl) (by omega)) ?_))⟩⟩
  rintro e w7 ⟨gn,on,cB,Dn,rfl,hcB,bI,hDn⟩
  rw[hNL]at hDn
  have H8:=H5.cal0 bI
  refine⟨_,Z,⟨H8.c 2 1 Z Z,fun _=>trivial,qm (.tuple #[.sl gn on 10 cB,.b true]) Z Z (qy Z (aE (v:= .sl gn on 10 cB) Z Z) (qy Z (aE (v:= .b true) Z Z) (qa (.sl gn on 10 cB) Z Z (qa (.b true) Z Z (pn (ad (ad ?_)))))))⟩⟩
  by_cases hoO:n8 big (ys.drop 40)<9223372036854775808
  ·
   by_cases hoZ:n8 big (ys.drop 48)<9223372036854775808
   ·
    refine ae (mv (.b true) Z (wv Z (bS Z) (mv (.b false) Z (aX Z Z (am (v:= .sl gn on 10 cB) Z) (aX Z Z (aK bL Z Z (by omega) (by omega)) (aX Z Z (ag aP Z (show World.cell? _ _=some (.q (n8 big (ys.drop 40)))from(hDn _ (H8.g 0 Z)).cellAt 4 (by omega))) (aX Z Z (dM (c:=n8 big (ys.drop 40) / 9223372036854775808) Z Z (by decide) (by rw[show(2:Int) ^ (min (63:Int).toNat IntKind.u64.bits)=9223372036854775808 from by decide,Int.fdiv_eq_ediv_of_nonneg _ (by decide)])) (aX Z Z (aT Z Z (beq_eq_false_iff_ne.2 (by omega))) (wv Z (aD (b:=false) (v:= .b false) Z Z) (mv (.b false) Z (aX Z Z (am (v:= .sl gn on 10 cB) Z) ?_)))))))))))
    refine aX Z Z (aK bL Z Z (by omega) (by omega)) (aX Z Z (ag aP Z (show World.cell? _ _=some (.q (n8 big (ys.drop 48)))from(hDn _ (H8.g 0 Z)).cellAt 5 (by omega))) (aX Z Z (dM (c:=n8 big (ys.drop 48) / 9223372036854775808) Z Z (by decide) (by rw[show(2:Int) ^ (min (63:Int).toNat IntKind.u64.bits)=9223372036854775808 from by decide,Int.fdiv_eq_ediv_of_nonneg _ (by decide)])) (aX Z Z (aT Z Z (beq_eq_false_iff_ne.2 (by omega))) (wv Z (aD (b:=false) (v:= .b false) Z Z) (wn (al Z (wk (ad ?_))))))))
    have H9:=H8.drew
    refine dt MX (fun w'=>w'.cell? ⟨fb,2,none⟩=some (.s AL nL cL)) (fun w'=>True) 15 (tr 0 4 (Pl.takeS 4 (tr 5 3 (Pl.take 9 (Pl.run 8 (Pl.take 10 (Pl.run 11 (Pl.run 12 (Pl.take 13 (Pl.take 14 (Pl.run 15 Pl.done))))))))))) (by kernel_rfl) Z (H9.c 2 2 Z Z) (trivial) (qm (.pt fb) Z Z (qm (.pt fb) Z Z (qy Z (ah Z) (qy Z (ab (o:=0) dj Z) (qs Z Z (fun _ hS=>ag dH Z hS) (qm (.sl gr or_ nr cr) Z Z (qm (.sl gr or_ nr cr) Z Z (qt Z (fun _ hS=>(aq (l:=8) (h:=24) aZ Z (bs Z (by omega) Z) (bs Z (by omega) Z) (by omega) (by omega) (by omega) (by omega):Yv _ _ _ _ (.sl gr (or_+8) 16 (cr- 8)) _)) (qm (.sl gn on 10 cB) Z Z (qr Z (ec eA (args:= [.sl gr (or_+8) 16 (cr- 8)]) Z ?_)))))))))))
    refine aa (by have h:=c6 _ (((hrr.keepB H9.keep hB hgr).drop_ 8).take (m:=16) (by omega)) (c:=cr- 8) (by omega) (by omega);rw[bC]at h;exact h) ?_
    rintro e ci ⟨rfl,be⟩
    have bf:=H9.cal0 be
    refine⟨_,Z,⟨trivial,fun _=>bf.c 2 2 Z Z,qy Z (yb (ps:= [(0,.i 1),(1,.sl gr or_ nr cr),(2,.str (aF ((ys.drop 8).take 16))),(3,.sl gn on 10 cB)]) (cells:=#[.i 1,.sl gr or_ nr cr,.str (aF ((ys.drop 8).take 16)),.sl gn on 10 cB]) Z (by kernel_rfl)) (qr Z (kt bf (ps:= [(0,.agg #[.i 1,.sl gr or_ nr cr,.str (aF ((ys.drop 8).take 16)),.sl gn on 10 cB])]) (e:=74) (cs:= [.i 1,.sl gr or_ nr cr,.str (aF ((ys.drop 8).take 16)),.sl gn on 10 cB]) Z (by kernel_rfl) (fun W cj bJ ao=>⟨trivial,fun _=>ao.c 3 2 Z Z,qr Z (bG ao 4 (m:=1) (news:= [.i 1,.sl gr or_ nr cr,.str (aF ((ys.drop 8).take 16)),.sl gn on 10 cB]) Z kT kY Z (by decide) Z Z Z (ao.news (i:=0) Z) (by simp[Value.oneCell']) (by simp only[maxLen];omega) (by omega) (fun cl cm ap=> ?_))⟩)))⟩⟩
    obtain⟨f,r,rfl,_,_⟩:=aw (ap.g 4 rfl)
    refine⟨trivial,fun _=>ap.c 3 2 Z Z,qy Z (ah Z) (qy Z (ab (o:=0) dj Z) (dJ Z (es ap 3 2 (.s f (nL+1) r) Z dH (fun cn bM=> ?_))))⟩
    refine⟨trivial,fun h=>absurd h (by decide),pn (sr (mv (.b true) Z (wE [.b true] qQ Z Z (aa (ff _) ?_))))⟩
    rintro e co ⟨au,ax,J,ce,rfl,b7,bg,L⟩
    have az:=bM.cal0 bg
    refine⟨_,Z,wE [.s au ax J] oU Z Z (aa (by have h:=gG (ws:=ia true) (cW:=J) _ (L _ (az.g 0 Z)) (dO (iS true)) (by rw[←(L _ (az.g 0 Z)).1];decide);rw[mD,show((dN true:Nat):Int)=72 from Z]at h;exact h) ?_)⟩
    rintro e bN ⟨rfl,bi⟩
    have a0:=az.cal0 bi
    refine⟨_,Z,ai 72 Z (wn (ad (sr (ms gn on 10 cB Z (wv Z (aK bL Z Z (by omega) (by omega)) (wv Z (ag aP Z (show World.cell? _ _=some (.q (↑q8))from(hDn _ (a0.g 2 Z)).cellAt 8 (by omega))) (mu 0 Z (wn (a6 ?_)))))))))⟩
    have hcur:lv.flatMap LoadV.cells++ [.i 1,.sl gr or_ nr cr,.str (aF ((ys.drop 8).take 16)),.sl gn on 10 cB]=(lv++ [(LoadV.mk (⟨1,raw,aF ((ys.drop 8).take 16),ek true big ys⟩:LoadD) (.sl gr or_ nr cr) (.sl gn on 10 cB))]).flatMap LoadV.cells:=by rw[List.flatMap_append,List.flatMap_singleton];rfl
    rw[hcur]at a0
    have bO:St w (Res.all [an fb [vh,.b big,.s AL nL cL,.s AP nP cP,vs,vi] 33,ay 74 4 (.s AL nL cL) nL (lv.flatMap LoadV.cells),ay 72 6 (.s AP nP cP) nP (pv.flatMap PartV.cellsM)]).F [an fb [vh,.b big,.s f (nL+1) r,.s AP (nP+0) cP,vs,vi] 33,ay 74 4 (.s f (nL+1) r) (nL+1) ((lv++ [(LoadV.mk (⟨1,raw,aF ((ys.drop 8).take 16),ek true big ys⟩:LoadD) (.sl gr or_ nr cr) (.sl gn on 10 cB))]).flatMap LoadV.cells),ay 72 6 (.s AP (nP+0) cP) (nP+0) ((pv++ []).flatMap PartV.cellsM),Dn,Res.all []] bN:=by have h:=(a0.reAll [] [4,5,6,2]).re [1,2,3,4,0];rw[←List.append_nil pv]at h;exact h
    refine bA (fun ρ w'=> ∃j:Nat,∃APj:Option Addr,∃cPj:Nat,∃pj:List PartV,∃dn:List SecD,∃Dj:Res,ρ 0= .pt fb∧ρ 1= .sl gb ob N C∧ρ 2= .b true∧ρ 3= .sl gr or_ nr cr∧ρ 61= .q ↑q8∧ρ 62= .q ↑j∧ρ 11= .i ↑(72+80*j)∧j≤q8∧72+80*j≤nr∧pj.map PartV.p=dn.map (fun s=>s.part N xs)∧(∀w,Dj.φ w → RI .u8 w (some ⟨gb,ob,none⟩) N xs → ∀x ∈ pj,x.ok w)∧cG true big xs raw q8 72=(cG true big xs raw (q8- j) (72+80*j)).map (dn++ ·)∧St w (Res.all [an fb [vh,.b big,.s AL nL cL,.s AP nP cP,vs,vi] 33,ay 74 4 (.s AL nL cL) nL (lv.flatMap LoadV.cells),ay 72 6 (.s AP nP cP) nP (pv.flatMap PartV.cellsM)]).F [an fb [vh,.b big,.s f (nL+1) r,.s APj (nP+j) cPj,vs,vi] 33,ay 74 4 (.s f (nL+1) r) (nL+1) ((lv++ [(LoadV.mk (⟨1,raw,aF ((ys.drop 8).take 16),ek true big ys⟩:LoadD) (.sl gr or_ nr cr) (.sl gn on 10 cB))]).flatMap LoadV.cells),ay 72 6 (.s APj (nP+j) cPj) (nP+j) ((pv++pj).flatMap PartV.cellsM),Dn,Dj] w') (fun ρ _=>q8+1- nv (ρ 62)) (⟨0,AP,cP,[],[],Res.all [],Z,Z,Z,Z,Z,Z,Z,by omega,by omega,Z,by simp,by simp,bO⟩) ?_
    rintro ρ w3 ⟨j,APj,cPj,pj,dn,Dj,g0,g1,g2,g3,a1,X,a2,hj,hjz,hpj,hpo,hsec,H3⟩
    obtain⟨mj,hmj⟩: ∃m,m=min (72+80*j) nr:=⟨_,rfl⟩
    refine sr (wv Z (bR X a1) (wn (ad ?_)))
    refine bK Z (fun M=> ?_) (fun M=> ?_)
    ·
     simp only[bx]at M
     refine wk (ad (a6 ?_))
     refine eh (fun ρ w'=>(∃(g6:Nat) (s6:SecD) (x6:PartV) (D6:Res),80≤nr- mj∧et big xs (eP true big ((raw.drop mj).take 80))=some s6∧x6.p=s6.part N xs∧(∀w,D6.φ w → RI .u8 w (some ⟨gb,ob,none⟩) N xs → x6.ok w)∧((∃a b c,x6.vn= .s a b c)∧(∃a b c,x6.vr= .s a b c)∧(∃a b c,x6.vd= .s a b c))∧ρ 12= .pt g6∧ρ 13= .b true∧ρ 0= .pt fb∧ρ 1= .sl gb ob N C∧ρ 2= .b true∧ρ 3= .sl gr or_ nr cr∧ρ 61= .q ↑q8∧ρ 62= .q ↑j∧ρ 11= .i ↑(72+80*j)∧St w (Res.all [an fb [vh,.b big,.s AL nL cL,.s AP nP cP,vs,vi] 33,ay 74 4 (.s AL nL cL) nL (lv.flatMap LoadV.cells),ay 72 6 (.s AP nP cP) nP (pv.flatMap PartV.cellsM)]).F [an g6 [.str x6.p.name,.str x6.p.seg,x6.vn,x6.vr,x6.vd,.b (!x6.p.ok)] 72,D6,an fb [vh,.b big,.s f (nL+1) r,.s APj (nP+j) cPj,vs,vi] 33,ay 74 4 (.s f (nL+1) r) (nL+1) ((lv++ [(LoadV.mk (⟨1,raw,aF ((ys.drop 8).take 16),ek true big ys⟩:LoadD) (.sl gr or_ nr cr) (.sl gn on 10 cB))]).flatMap LoadV.cells),ay 72 6 (.s APj (nP+j) cPj) (nP+j) ((pv++pj).flatMap PartV.cellsM),Dn,Dj] w')∨((nr- mj<80∨et big xs (eP true big ((raw.drop mj).take 80))=none)∧ρ 13= .b false∧St w (Res.all [an fb [vh,.b big,.s AL nL cL,.s AP nP cP,vs,vi] 33,ay 74 4 (.s AL nL cL) nL (lv.flatMap LoadV.cells),ay 72 6 (.s AP nP cP) nP (pv.flatMap PartV.cellsM)]).F [] w')) ?_ ?_
     ·
      have hjn:j<q8:=by omega
      have E:=H3.drew
      refine aU MX (fun w'=>w'.cell? ⟨fb,1,none⟩=some (.b big)) (tr 0 12 (Pl.run2 12 (tr 13 3 (Pl.run 16 (Pl.run 17 (Pl.take 18 Pl.done)))) 16 (Pl.run 12 (tr 13 3 (Pl.run 17 (Pl.take 18 Pl.done)))))) (by kernel_rfl) (E.c 0 1 Z Z) (qm (.sl gb ob N C) Z g1 (qm (.pt fb) Z g0 (qy Z (ah Z) (qy Z (ab (o:=0) dF Z) (qh Z (fun hS=>ag dc Z hS) (qm (.b true) Z g2 (qm (.sl gr or_ nr cr) Z g3 (qm (.i (↑(72+80*j))) Z a2 (qm (.sl gr or_ nr cr) Z g3 (qy Z (aO (n:=nr) bU Z) (qy Z (i7 (c:= ↑mj) Z Z (by split<;>omega)) ?_)))))))))))
      refine qy Z ((show Yv _ _ _ _ (.s (dC (some ⟨gr,or_,none⟩) cr mj 1) (nr- mj) (cr- mj)) _ from eo (l:=mj) (h:=nr) aZ Z (bh Z (by omega) (Int.toNat_natCast _)) (bu _ _) (by omega) (by omega))) ?_
      refine⟨?_,?_⟩
      ·
       refine po Z (ec zE (args:= [.sl gb ob N C,.b big,.b true,.s (dC (some ⟨gr,or_,none⟩) cr mj 1) (nr- mj) (cr- mj)]) Z (aa (r6 big _ (hr.keepB E.keep hB hgb) hby hNC hN (show RI .u8 _ (dC (some ⟨gr,or_,none⟩) cr mj 1) (nr- mj) (raw.drop mj)from by have h:=(hrr.keepB E.keep hB hgr).cut (c:=cr) (l:=mj) (m:=nr) (by omega) (Nat.le_refl _) hnr;rwa [List.take_of_length_le (by rw[List.length_drop,hrl];omega)]at h) (hrb.drop _) (by omega) (by omega)) ?_))
       rintro e cp (⟨s6,Y,O,x6,D6,P,rfl,z,G⟩|⟨d,rfl,z⟩)
       ·
        obtain⟨⟨_,_,_,Q,_⟩,⟨_,_,_,R,_⟩,_,_,_,S,_⟩:=G _ (z.g 0 rfl) ((hr.keepB E.keep hB hgb).keep0 z.keep)
        have bj:=E.cal0 z
        refine⟨_,Z,⟨bj.c 1 1 Z Z,fun _=>trivial,qm (.tuple #[.agg #[.str x6.p.name,.str x6.p.seg,x6.vn,x6.vr,x6.vd,.b (!x6.p.ok)],.b true]) Z Z (qy Z (aE (v:= .agg #[.str x6.p.name,.str x6.p.seg,x6.vn,x6.vr,x6.vd,.b (!x6.p.ok)]) Z Z) (qy Z (aE (v:= .b true) Z Z) (qr Z (aN bj dg (fun cq ct bP bl=>⟨bl.c 2 1 Z Z,fun _=>trivial,dJ Z (bE bl 0 (vs:= [.str x6.p.name,.str x6.p.seg,x6.vn,x6.vr,x6.vd,.b (!x6.p.ok)]) (m:=6) Z ex Z Z Z (nl Z) (by simp[Value.oneCell',Q,R,S]) (cs':= [.str x6.p.name,.str x6.p.seg,x6.vn,x6.vr,x6.vd,.b (!x6.p.ok)]) Z (fun cu bm=> ?_))⟩)))))⟩⟩
        refine⟨bm.c 2 1 Z Z,fun _=>trivial,qa (.b true) Z Z (pn ?_)⟩
        exact .inl ⟨_,s6,x6,D6,Y,O,P,G,⟨⟨_,_,_,Q⟩,⟨_,_,_,R⟩,⟨_,_,_,S⟩⟩,Z,Z,g0,g1,g2,g3,a1,X,a2,bm.re [0,1,2,3,4,5,6]⟩
       ·
        have bn:=E.cal0 z
        refine⟨_,Z,⟨bn.c 0 1 Z Z,fun _=>trivial,qm (.tuple #[.agg #[.string (⟨#[]⟩),.string (⟨#[]⟩),.ns,.ns,.ns,.b false],.b false]) Z Z (qy Z (aE (v:= .agg #[.string (⟨#[]⟩),.string (⟨#[]⟩),.ns,.ns,.ns,.b false]) Z Z) (qy Z (aE (v:= .b false) Z Z) (qr Z (aN bn dg (fun cv cw bQ bo=>⟨bo.c 1 1 Z Z,fun _=>trivial,dJ Z (eN bo 0 [.string (⟨#[]⟩),.string (⟨#[]⟩),.ns,.ns,.ns,.b false] Z ex (fun cx bp=> ?_))⟩)))))⟩⟩
        refine⟨bp.c 1 1 Z Z,fun _=>trivial,qa (.b false) Z Z (pn ?_)⟩
        exact .inr ⟨d,Z,bp.sub (List.nil_sublist _)⟩
      ·
       refine po Z (aN E dg (fun cy cz bT I=>⟨I.c 1 1 Z Z,fun _=>trivial,qr Z (ec zE (args:= [.sl gb ob N C,.b big,.b true,.s (dC (some ⟨gr,or_,none⟩) cr mj 1) (nr- mj) (cr- mj)]) Z (aa (r6 big _ (hr.keepB I.keep hB hgb) hby hNC hN (show RI .u8 _ (dC (some ⟨gr,or_,none⟩) cr mj 1) (nr- mj) (raw.drop mj)from by have h:=(hrr.keepB I.keep hB hgr).cut (c:=cr) (l:=mj) (m:=nr) (by omega) (Nat.le_refl _) hnr;rwa [List.take_of_length_le (by rw[List.length_drop,hrl];omega)]at h) (hrb.drop _) (by omega) (by omega)) ?_))⟩))
       rintro e c0 (⟨s6,Y,O,x6,D6,P,rfl,A,G⟩|⟨d,rfl,A⟩)
       ·
        obtain⟨⟨_,_,_,Q,_⟩,⟨_,_,_,R,_⟩,_,_,_,S,_⟩:=G _ (A.g 0 rfl) ((hr.keepB I.keep hB hgb).keep0 A.keep)
        have br:=I.cal0 A
        refine⟨_,Z,⟨br.c 2 1 Z Z,fun _=>trivial,qm (.tuple #[.agg #[.str x6.p.name,.str x6.p.seg,x6.vn,x6.vr,x6.vd,.b (!x6.p.ok)],.b true]) Z Z (qy Z (aE (v:= .agg #[.str x6.p.name,.str x6.p.seg,x6.vn,x6.vr,x6.vd,.b (!x6.p.ok)]) Z Z) (qy Z (aE (v:= .b true) Z Z) (dJ Z (bE br 1 (vs:= [.str x6.p.name,.str x6.p.seg,x6.vn,x6.vr,x6.vd,.b (!x6.p.ok)]) (m:=6) Z ex Z Z Z (nl Z) (by simp[Value.oneCell',Q,R,S]) (cs':= [.str x6.p.name,.str x6.p.seg,x6.vn,x6.vr,x6.vd,.b (!x6.p.ok)]) Z (fun c1 bt=> ?_)))))⟩⟩
        refine⟨bt.c 2 1 Z Z,fun _=>trivial,qa (.b true) Z Z (pn ?_)⟩
        exact .inl ⟨_,s6,x6,D6,Y,O,P,G,⟨⟨_,_,_,Q⟩,⟨_,_,_,R⟩,⟨_,_,_,S⟩⟩,Z,Z,g0,g1,g2,g3,a1,X,a2,bt.re [1,0,2,3,4,5,6]⟩
       ·
        have bv:=I.cal0 A
        refine⟨_,Z,⟨bv.c 1 1 Z Z,fun _=>trivial,qm (.tuple #[.agg #[.string (⟨#[]⟩),.string (⟨#[]⟩),.ns,.ns,.ns,.b false],.b false]) Z Z (qy Z (aE (v:= .agg #[.string (⟨#[]⟩),.string (⟨#[]⟩),.ns,.ns,.ns,.b false]) Z Z) (qy Z (aE (v:= .b false) Z Z) (dJ Z (eN bv 0 [.string (⟨#[]⟩),.string (⟨#[]⟩),.ns,.ns,.ns,.b false] Z ex (fun c2 bw=> ?_)))))⟩⟩
        refine⟨bw.c 1 1 Z Z,fun _=>trivial,qa (.b false) Z Z (pn ?_)⟩
        exact .inr ⟨d,Z,bw.sub (List.nil_sublist _)⟩
     ·
      rintro c3 w5 (⟨g6,s6,x6,D6,Y,O,P,G,⟨⟨_,_,_,bV⟩,⟨_,_,_,bW⟩,⟨_,_,_,bX⟩⟩,bY,W,k0,k1,k2,k3,bZ,ca,cb,H5⟩|⟨d,W,H5⟩)
      ·
       have T:mj=72+80*j:=by omega
       have bz:et big xs (eP true big ((raw.drop (72+80*j)).take (d7 true)))=some s6:=by rw[←T];exact O
       refine ad (sr (mg W Z (wv Z (bS Z) (wn (al Z (wk (ad ?_)))))))
       have B:=H5.drew
       refine dt MX (fun w'=>w'.cell? ⟨fb,3,none⟩=some (.s APj (nP+j) cPj)) (fun w'=>w'.cell? ⟨g6,0,none⟩=some (.str x6.p.name)∧w'.cell? ⟨g6,1,none⟩=some (.str x6.p.seg)∧w'.cell? ⟨g6,2,none⟩=some (x6.vn)∧w'.cell? ⟨g6,3,none⟩=some (x6.vr)∧w'.cell? ⟨g6,4,none⟩=some (x6.vd)∧w'.cell? ⟨g6,5,none⟩=some (.b (!x6.p.ok))) 10 (tr 0 4 (Pl.takeS 4 (Pl.take 5 (Pl.run 6 (Pl.run 7 (Pl.take 8 (Pl.take 9 (Pl.run 10 Pl.done)))))))) (by kernel_rfl) Z (B.c 2 3 Z Z) (⟨B.c 0 0 Z Z,B.c 0 1 Z Z,B.c 0 2 Z Z,B.c 0 3 Z Z,B.c 0 4 Z Z,B.c 0 5 Z Z⟩) (qm (.pt fb) Z k0 (qm (.pt fb) Z k0 (qy Z (ah Z) (qy Z (ab (o:=0) jX Z) (qs Z Z (fun _ hS=>ag m7 Z hS) (qh Z (fun hS=>dQ (o:=0) kU bY (sY hS.1 hS.2.1 hS.2.2.1 hS.2.2.2.1 hS.2.2.2.2.1 hS.2.2.2.2.2) Z) (qr Z (kt B (ps:= [(0,.agg #[.str x6.p.name,.str x6.p.seg,x6.vn,x6.vr,x6.vd,.b (!x6.p.ok)])]) (e:=72) (cs:= [.str x6.p.name,.str x6.p.seg,x6.vn,x6.vr,x6.vd,.b (!x6.p.ok)]) Z (by kernel_rfl) (fun c4 c5 cc t=>⟨⟨t.c 1 0 Z Z,t.c 1 1 Z Z,t.c 1 2 Z Z,t.c 1 3 Z Z,t.c 1 4 Z Z,t.c 1 5 Z Z⟩,fun _=>t.c 3 3 Z Z,qr Z (bG t 5 (m:=1) (news:= [.str x6.p.name,.str x6.p.seg,x6.vn,x6.vr,x6.vd,.b (!x6.p.ok)]) Z Ba BJ Z (by decide) Z Z Z (t.news (i:=0) Z) (by simp[Value.oneCell',bV,bW,bX]) (by simp only[maxLen];omega) (by omega) (fun c7 c8 u=> ?_))⟩)))))))))
       obtain⟨a3,a4,rfl,_,_⟩:=aw (u.g 5 rfl)
       refine⟨⟨u.c 1 0 Z Z,u.c 1 1 Z Z,u.c 1 2 Z Z,u.c 1 3 Z Z,u.c 1 4 Z Z,u.c 1 5 Z Z⟩,fun _=>u.c 3 3 Z Z,qy Z (ah Z) (qy Z (ab (o:=0) jX Z) (dJ Z (es u 3 3 (.s a3 ((nP+j)+1) a4) Z m7 (fun c9 H=> ?_))))⟩
       refine⟨⟨H.c 1 0 Z Z,H.c 1 1 Z Z,H.c 1 2 Z Z,H.c 1 3 Z Z,H.c 1 4 Z Z,H.c 1 5 Z Z⟩,fun h=>absurd h (by decide),pn (ae (mg cb Z (mg k2 Z (wE [.b true] mB Z Z (aa (fg _) ?_)))))⟩
       rintro e cA ⟨a8,a9,U,cf,rfl,b8,b0,V⟩
       have aG:=H.cal0 b0
       refine⟨_,Z,wE [.s a8 a9 U] oU Z Z (aa (by have h:=gG (ws:=fU true) (cW:=U) _ (V _ (aG.g 0 Z)) (dO (iU true)) (by rw[←(V _ (aG.g 0 Z)).1];decide);rw[mE,show((d7 true:Nat):Int)=80 from Z]at h;exact h) ?_)⟩
       rintro e cd ⟨rfl,b1⟩
       have b2:=aG.cal0 b1
       refine⟨_,Z,wv Z (aH (k:= .i64) (c:= ↑(72+80*j)+80) Z Z (a5 (by omega) (by omega))) (ai (↑(72+80*j)+80) Z (bk (ak (ac (ae (wv Z (aH (k:= .u64) (c:= ↑j+1) ca Z (aC (by omega) (by omega))) (mu (↑j+1) Z (wn ?_))))))))⟩
       have hcp:(pv++pj).flatMap PartV.cellsM++ [.str x6.p.name,.str x6.p.seg,x6.vn,x6.vr,x6.vd,.b (!x6.p.ok)]=(pv++(pj++ [x6])).flatMap PartV.cellsM:=by rw[←List.append_assoc,List.flatMap_append (xs:=pv++pj),List.flatMap_singleton];rfl
       rw[hcp]at b2
       have Hn:St w (Res.all [an fb [vh,.b big,.s AL nL cL,.s AP nP cP,vs,vi] 33,ay 74 4 (.s AL nL cL) nL (lv.flatMap LoadV.cells),ay 72 6 (.s AP nP cP) nP (pv.flatMap PartV.cellsM)]).F [an fb [vh,.b big,.s f (nL+1) r,.s a3 (nP+(j+1)) a4,vs,vi] 33,ay 74 4 (.s f (nL+1) r) (nL+1) ((lv++ [(LoadV.mk (⟨1,raw,aF ((ys.drop 8).take 16),ek true big ys⟩:LoadD) (.sl gr or_ nr cr) (.sl gn on 10 cB))]).flatMap LoadV.cells),ay 72 6 (.s a3 (nP+(j+1)) a4) (nP+(j+1)) ((pv++(pj++ [x6])).flatMap PartV.cellsM),Dn,Res.all [D6,Dj]] cd:=(b2.reAll [3,8] [4,5,6,7]).re [1,2,3,4,0]
       have aJ:cG true big xs raw q8 72=(cG true big xs raw (q8-(j+1)) (72+80*(j+1))).map ((dn++ [s6])++ ·):=by
        rw[hsec,show q8- j=(q8-(j+1))+1 by omega,gu (show ¬raw.length<72+80*j+80 by omega) bz,show 72+80*j+d7 true=72+80*(j+1)from by show 72+80*j+80= _;omega];cases cG true big xs raw (q8-(j+1)) (72+80*(j+1))<;>simp
       exact⟨⟨j+1,_,_,pj++ [x6],dn++ [s6],Res.all [D6,Dj],k0,k1,k2,k3,bZ,Z,(show Value.i _=Value.i _ from congrArg _ (by omega)),by omega,by omega,by rw[List.map_append,List.map_append,hpj,List.map_singleton,List.map_singleton,P],fun w hh hb y hy=>by have hh:=aS.1 hh;rcases List.mem_append.1 hy with hy|hy;exact hpo w (hh Dj (by simp)) hb y hy;rw[List.mem_singleton.1 hy];exact G w (hh D6 (by simp)) hb,aJ,Hn⟩,by show q8+1- nv (.q (↑j+1))<q8+1- nv (ρ 62);rw[X];simp only[nv];omega⟩
      ·
       have e0:cG true big xs raw q8 72=none:=by
        rw[hsec,show q8- j=(q8-(j+1))+1 by omega]
        by_cases hl:raw.length<72+80*j+80
        · rw[iT (show raw.length<72+80*j+d7 true from hl)];rfl
        · have T:mj=72+80*j:=by omega
          rw[kj (show ¬raw.length<72+80*j+d7 true from hl) (by rw[←T];exact d.resolve_left (by omega))];rfl
       refine ad (sr (mg W Z (wv Z (bS Z) (wn (aB Z (sr (av (.b false) Z (wn (rq (aI (a7 ?_)))))))))))
       refine a7 (aI (a7 ?_))
       exact⟨.inr Z,_,r1 (.b false) Z _ _,.inr ⟨fun s=>gk hys hns e0,Z,H5.sub (List.nil_sublist _)⟩⟩
    ·
     simp only[bx]at M
     refine bq (ar (ar (aQ (ac (sr (av (.b true) Z (wn (aY ?_))))))))
     have hjn:j=q8:=by omega
     have e0:cG true big xs raw q8 72=some dn:=by rw[hsec,show q8- j=0 by omega];simp[cG]
     exact⟨.inr Z,_,r1 (.b true) Z _ _,.inl ⟨(⟨1,raw,aF ((ys.drop 8).take 16),ek true big ys⟩:LoadD),(LoadV.mk (⟨1,raw,aF ((ys.drop 8).take 16),ek true big ys⟩:LoadD) (.sl gr or_ nr cr) (.sl gn on 10 cB)),dn,pj,f,APj,r,(nP+j),cPj,Res.all [Dn,Dj],fun s=>j3 (show ¬raw.length<72 by omega) hys hns e0 (by show ¬(_≤n8 big (ys.drop 40)∨ _≤n8 big (ys.drop 48));omega),Z,Z,Z,hpj,by omega,Z,(H3.reAll [3,4] [0,1,2]),fun w hh=>by have hh:=aS.1 hh;exact⟨⟨_,_,_,Z,by have h:=hDn w (hh Dn (by simp));rw[aj]at h;exact h⟩,hpo w (hh Dj (by simp))⟩⟩⟩
   ·
    refine ae (mv (.b true) Z (wv Z (bS Z) (mv (.b false) Z (aX Z Z (am (v:= .sl gn on 10 cB) Z) (aX Z Z (aK bL Z Z (by omega) (by omega)) (aX Z Z (ag aP Z (show World.cell? _ _=some (.q (n8 big (ys.drop 40)))from(hDn _ (H8.g 0 Z)).cellAt 4 (by omega))) (aX Z Z (dM (c:=n8 big (ys.drop 40) / 9223372036854775808) Z Z (by decide) (by rw[show(2:Int) ^ (min (63:Int).toNat IntKind.u64.bits)=9223372036854775808 from by decide,Int.fdiv_eq_ediv_of_nonneg _ (by decide)])) (aX Z Z (aT Z Z (beq_eq_false_iff_ne.2 (by omega))) (wv Z (aD (b:=false) (v:= .b false) Z Z) (mv (.b false) Z (aX Z Z (am (v:= .sl gn on 10 cB) Z) ?_)))))))))))
    refine aX Z Z (aK bL Z Z (by omega) (by omega)) (aX Z Z (ag aP Z (show World.cell? _ _=some (.q (n8 big (ys.drop 48)))from(hDn _ (H8.g 0 Z)).cellAt 5 (by omega))) (aX Z Z (dM (c:=n8 big (ys.drop 48) / 9223372036854775808) Z Z (by decide) (by rw[show(2:Int) ^ (min (63:Int).toNat IntKind.u64.bits)=9223372036854775808 from by decide,Int.fdiv_eq_ediv_of_nonneg _ (by decide)])) (aX Z Z (aT Z Z (beq_iff_eq.2 (by omega))) (wv Z (aD (b:=false) (v:= .b true) Z Z) (wn (aB Z (sr (av (.b false) Z (wn (rq ?_))))))))))
    exact⟨.inr Z,_,r1 (.b false) Z _ _,.inr ⟨fun s=>j5 hys (.inr (show _≤n8 big (ys.drop 48) by omega)),Z,H8.sub (List.nil_sublist _)⟩⟩
  ·
   refine ae (mv (.b true) Z (wv Z (bS Z) (mv (.b false) Z (aX Z Z (am (v:= .sl gn on 10 cB) Z) (aX Z Z (aK bL Z Z (by omega) (by omega)) (aX Z Z (ag aP Z (show World.cell? _ _=some (.q (n8 big (ys.drop 40)))from(hDn _ (H8.g 0 Z)).cellAt 4 (by omega))) (aX Z Z (dM (c:=n8 big (ys.drop 40) / 9223372036854775808) Z Z (by decide) (by rw[show(2:Int) ^ (min (63:Int).toNat IntKind.u64.bits)=9223372036854775808 from by decide,Int.fdiv_eq_ediv_of_nonneg _ (by decide)])) (aX Z Z (aT Z Z (beq_iff_eq.2 (by omega))) (wv Z (aD (b:=false) (v:= .b true) Z Z) (mv (.b true) Z (ck Z Z ?_)))))))))))
   refine ck Z Z (ck Z Z (ck Z Z (ck Z Z (wv Z (aD (b:=true) (v:= .b true) Z Z) (wn (aB Z (sr (av (.b false) Z (wn (rq ?_))))))))))
   exact⟨.inr Z,_,r1 (.b false) Z _ _,.inr ⟨fun s=>j5 hys (.inl (show _≤n8 big (ys.drop 40) by omega)),Z,H8.sub (List.nil_sublist _)⟩⟩
 ·
  have b3:=H0.drew
  refine aU MX (fun w'=>w'.cell? ⟨fb,1,none⟩=some (.b big)) (tr 0 5 (Pl.take 6 (Pl.run 5 (Pl.run 7 (tr 8 5 Pl.done))))) (by kernel_rfl) (b3.c 0 1 Z Z) (qm (.pt fb) Z Z (qy Z (ah Z) (qy Z (ab (o:=0) dF Z) (qh Z (fun hS=>ag dc Z hS) (qm (.b true) Z Z (qm (.sl gr or_ nr cr) Z Z (qr Z (ec qQ (args:= [.b true]) Z (aa (ff _) ?_)))))))))
  rintro e cC ⟨aL,aM,aR,cg,rfl,b9,b4,aV⟩
  have af:=b3.cal0 b4
  refine⟨_,Z,⟨af.c 1 1 Z Z,fun _=>trivial,qr Z (ec jt (args:= [.b big,.s aL aM aR,.sl gr or_ nr cr]) Z (aa (eK (ws:=ia true) (bs:=raw) big _ (aV _ (af.g 0 Z)) (iS _) (hrr.keepB af.keep hB hgr) hnr (by omega) hrb (by decide) (show nr<72 by omega)) ?_))⟩⟩
  rintro e cD ⟨rfl,b5⟩
  have b6:=af.cal0 b5
  refine⟨_,Z,⟨b6.c 1 1 Z Z,fun _=>trivial,qm (.tuple #[.ns,.b false]) Z Z (qy Z (aE (v:= .ns) Z Z) (qy Z (aE (v:= .b false) Z Z) (qa (.ns) Z Z (qa (.b false) Z Z (pn (ad (sr (mv (.b false) Z (wv Z (bS Z) ?_)))))))))⟩⟩
  refine mv (.b true) Z (ck Z Z (ck Z Z (ck Z Z (ck Z Z (ck Z Z (wv Z (aD (b:=true) (v:= .b true) Z Z) (mv (.b true) Z (ck Z Z (ck Z Z (ck Z Z (ck Z Z ?_)))))))))))
  refine ck Z Z (wv Z (aD (b:=true) (v:= .b true) Z Z) (wn (aB Z (sr (av (.b false) Z (wn (rq ?_)))))))
  exact⟨.inr Z,_,r1 (.b false) Z _ _,.inr ⟨fun s=>if_pos (show raw.length<72 by omega),Z,b6.sub (List.nil_sublist _)⟩⟩
theorem gw:FA 33 4 4:=fa (by kernel_rfl)
theorem gi:dI Tryd.prog 31:=bN (by kernel_rfl)
theorem tf:Tryd.prog.underlying 31=some (.slice (Tryd.prog.elem 31)):=by kernel_rfl
theorem oF:FA 33 5 5:=fa (by kernel_rfl)
theorem wI{big:Bool}{xs:List Int}{a n j:Nat}(hj:j<n):(fp big n ((xs.drop a).take (4*n)))[j]? =some (n4 big (xs.drop (a+4*j))):=by
 unfold fp
 rw[List.getElem?_map,List.getElem?_range hj,Option.map_some,cE (by omega),List.drop_drop]
theorem vK{fb gr or_ nr cr base:Nat}{gb ob N C nL cL nsy csy:Nat}{AL Asy:Option Addr}{xs:List Int}{lv:List LoadV}{vh vp vi:Value}{raw:List Int}(big:Bool)(w:World)(h0:St w (Res.all [an fb [vh,.b big,.s AL nL cL,vp,.s Asy nsy csy,vi] 33,ay 74 4 (.s AL nL cL) nL (lv.flatMap LoadV.cells)]).F [an fb [vh,.b big,.s AL nL cL,vp,.s Asy nsy csy,vi] 33,ay 74 4 (.s AL nL cL) nL (lv.flatMap LoadV.cells)] w)(hB: ∀g,(Res.all [an fb [vh,.b big,.s AL nL cL,vp,.s Asy nsy csy,vi] 33,ay 74 4 (.s AL nL cL) nL (lv.flatMap LoadV.cells)]).F g → base≤g)(hbw:base≤w.heap.size)(hrr:RI .u8 w (some ⟨gr,or_,none⟩) nr raw)(hrb:Byt raw)(hnr:nr≤cr)(hnN:nr<10485760)(hgr:gr<base)(hr:RI .u8 w (some ⟨gb,ob,none⟩) N xs)(hby:Byt xs)(hNC:N≤C)(hN:N<10485760)(hgb:gb<base)(hnL:nL≤10485760)(hnsy:nsy≤10485760)(seen:Bool):
 Calls Tryd.prog 31 #[.pt fb,.sl gb ob N C,.b seen,.sl gr or_ nr cr] w fun e w'=>(∃(ld:LoadD) (x:LoadV) (AL2:Option Addr) (cL2:Nat) (vi2:Value) (wd:List Int) (D:Res),seen=true∧(∀s ss,s.syms=some ss → ss.length=nsy → cX big xs raw s=some {s with loads:=s.loads++ [ld],ind:=some wd})∧x.l=ld∧ld.raw=raw∧x.vr= .sl gr or_ nr cr∧e= .returned (.i 0)∧St w (Res.all [an fb [vh,.b big,.s AL nL cL,vp,.s Asy nsy csy,vi] 33,ay 74 4 (.s AL nL cL) nL (lv.flatMap LoadV.cells)]).F [D,an fb [vh,.b big,.s AL2 (nL+1) cL2,vp,.s Asy nsy csy,vi2] 33,ay 74 4 (.s AL2 (nL+1) cL2) (nL+1) ((lv++ [x]).flatMap LoadV.cells)] w'∧∀w,D.φ w → SlI' .u64 w x.vn ld.nums∧SlI' .u32 w vi2 wd)∨(e= .returned (.i 2)∧seen=true∧St w (Res.all [an fb [vh,.b big,.s AL nL cL,vp,.s Asy nsy csy,vi] 33,ay 74 4 (.s AL nL cL) nL (lv.flatMap LoadV.cells)]).F [an fb [vh,.b big,.s AL nL cL,vp,.s Asy nsy csy,vi] 33,ay 74 4 (.s AL nL cL) nL (lv.flatMap LoadV.cells)] w')∨((∀s,s.syms.isSome=seen → (∀ss,s.syms=some ss → ss.length=nsy) → cX big xs raw s=none)∧e= .returned (.i 1)∧St w (Res.all [an fb [vh,.b big,.s AL nL cL,vp,.s Asy nsy csy,vi] 33,ay 74 4 (.s AL nL cL) nL (lv.flatMap LoadV.cells)]).F [] w'):=by
 refine aA (args:= [.pt fb,.sl gb ob N C,.b seen,.sl gr or_ nr cr]) Tryd.func31 Z Z Z ?_
 have H0:St _ _ [an fb [vh,.b big,.s AL nL cL,vp,.s Asy nsy csy,vi] 33,ay 74 4 (.s AL nL cL) nL (lv.flatMap LoadV.cells)] _:=h0
 refine sr (ai 0 Z (wn (ad ?_)))
 have hrl:=hrr.1
 by_cases hfit:80≤nr
 ·
  obtain⟨ys,hys⟩: ∃q,q=(raw.drop 0).take 80:=⟨_,rfl⟩
  have hbys:Byt ys:=by rw[hys];exact(hrb.drop _).take _
  obtain⟨p,t⟩: ∃q:Nat,(q:Int)=n4 big (ys.drop 24):=⟨(n4 big (ys.drop 24)).toNat,Int.toNat_of_nonneg (ba big (hbys.drop _)).1⟩
  have a7:(p:Int)<4294967296:=by rw[t];exact(ba big (hbys.drop _)).2
  obtain⟨r,u⟩: ∃q:Nat,(q:Int)=n4 big (ys.drop 28):=⟨(n4 big (ys.drop 28)).toNat,Int.toNat_of_nonneg (ba big (hbys.drop _)).1⟩
  have a8:(r:Int)<4294967296:=by rw[u];exact(ba big (hbys.drop _)).2
  obtain⟨d,y⟩: ∃q:Nat,(q:Int)=n4 big (ys.drop 56):=⟨(n4 big (ys.drop 56)).toNat,Int.toNat_of_nonneg (ba big (hbys.drop _)).1⟩
  have a9:(d:Int)<4294967296:=by rw[y];exact(ba big (hbys.drop _)).2
  obtain⟨f,z⟩: ∃q:Nat,(q:Int)=n4 big (ys.drop 60):=⟨(n4 big (ys.drop 60)).toNat,Int.toNat_of_nonneg (ba big (hbys.drop _)).1⟩
  have aF:(f:Int)<4294967296:=by rw[z];exact(ba big (hbys.drop _)).2
  have hNL:bF big (List.replicate 20 4) raw= [n4 big (ys.drop 0),n4 big (ys.drop 4),n4 big (ys.drop 8),n4 big (ys.drop 12),n4 big (ys.drop 16),n4 big (ys.drop 20),↑p,↑r,n4 big (ys.drop 32),n4 big (ys.drop 36),n4 big (ys.drop 40),n4 big (ys.drop 44),n4 big (ys.drop 48),n4 big (ys.drop 52),↑d,↑f,n4 big (ys.drop 64),n4 big (ys.drop 68),n4 big (ys.drop 72),n4 big (ys.drop 76)]:=by rw[t,u,y,z,hys];exact nZ big 20 80 (by omega) raw
  have H1:=H0.drew
  refine aU MX (fun w'=>w'.cell? ⟨fb,1,none⟩=some (.b big)) (tr 0 4 (Pl.take 5 (Pl.run 4 (Pl.run 6 (tr 7 5 Pl.done))))) (by kernel_rfl) (H1.c 0 1 Z Z) (qm (.pt fb) Z Z (qy Z (ah Z) (qy Z (ab (o:=0) dF Z) (qh Z (fun hS=>ag dc Z hS) (qm (.sl gr or_ nr cr) Z Z (qr Z (ec jN (args:= [.i 20]) Z (aa (dK (n:=20) _ (by omega)) ?_))))))))
  rintro e w3 ⟨A4,c4,rfl,aG⟩
  have H4:=H1.cal0 aG
  refine⟨_,Z,⟨H4.c 1 1 Z Z,fun _=>trivial,qr Z (ec jt (args:= [.b big,.s A4 20 c4,.sl gr or_ nr cr]) Z (aa (dW (ws:=List.replicate 20 4) (bs:=raw) big _ (aV (H4.g 0 Z)) (fY _) (hrr.keepB H4.keep hB hgr) hnr (by omega) hrb (by decide) (K:=20) (by rw[fX];omega) (by rw[hNL];rfl) (by omega)) ?_))⟩⟩
  rintro e w6 ⟨gn,on,cB,Dn,rfl,hcB,aI,hDn⟩
  rw[hNL]at hDn
  have H7:=H4.cal0 aI
  refine⟨_,Z,⟨H7.c 2 1 Z Z,fun _=>trivial,qm (.tuple #[.sl gn on 20 cB,.b true]) Z Z (qy Z (aE (v:= .sl gn on 20 cB) Z Z) (qy Z (aE (v:= .b true) Z Z) (qa (.sl gn on 20 cB) Z Z (qa (.b true) Z Z (pn (ad (ad ?_)))))))⟩⟩
  cases seen
  ·
   have H8:=H7.drew
   refine aU MX (fun w'=>w'.cell? ⟨fb,4,none⟩=some (.s Asy nsy csy)∧w'.cell? ⟨gn,on+6,none⟩=some (.q (↑p))) (tr 0 18 Pl.done) (by kernel_rfl) (⟨H8.c 2 4 Z Z,show World.cell? _ _=some (.q (↑p))from(hDn _ (H8.g 0 Z)).cellAt 6 (by omega)⟩) (qm (.b true) Z Z (qy Z (bS Z) (qm (.b false) Z Z (qz Z Z (am (v:= .b false) Z) (qz Z Z (bS Z) (qy Z (aD (b:=false) (v:= .b true) Z Z) (qm (.b true) Z Z (bD Z Z (bD Z Z (bD Z Z (bD Z Z ?_)))))))))))
   refine bD Z Z (bD Z Z (bD Z Z (bD Z Z (bD Z Z (bD Z Z (qy Z (aD (b:=true) (v:= .b true) Z Z) (pn (aB Z (sr (ai 1 Z (wn ?_)))))))))))
   refine rq ?_
   exact⟨.inr Z,_,r1 (.i 1) Z _ _,.inr (.inr ⟨fun s hse hsn=>by have hss:s.syms=none:=by {cases h:s.syms with|none=>rfl|some x=>rw[h]at hse;cases hse};simp only[cX,←hys,←t,←u,←y,←z,Int.toNat_natCast,hss,if_neg (show ¬raw.length<80 by omega)],Z,H8.sub (List.nil_sublist _)⟩)⟩
  ·
   have H9:=H7.drew
   refine aU MX (fun w'=>w'.cell? ⟨fb,4,none⟩=some (.s Asy nsy csy)∧w'.cell? ⟨gn,on+6,none⟩=some (.q (↑p))) (tr 0 18 Pl.done) (by kernel_rfl) (⟨H9.c 2 4 Z Z,show World.cell? _ _=some (.q (↑p))from(hDn _ (H9.g 0 Z)).cellAt 6 (by omega)⟩) (qm (.b true) Z Z (qy Z (bS Z) (qm (.b false) Z Z (qz Z Z (am (v:= .b true) Z) (qz Z Z (bS Z) (qy Z (aD (b:=false) (v:= .b false) Z Z) (qm (.b false) Z Z (qz Z Z (am (v:= .sl gn on 20 cB) Z) (qz Z Z (aK (a:=⟨gn,on,none⟩) (i:=6) bL Z Z (by omega) (by omega)) (lQ Z Z (fun _ hS=>ag aP Z hS.2) (qz Z Z (am (v:= .pt fb) Z) ?_)))))))))))
   refine qz Z Z (ah Z) (qz Z Z (ab (o:=0) gw Z) (lQ Z Z (fun _ hS=>ag gi Z hS.1) (qz Z Z (aO (n:=nsy) tf Z) (qz Z Z (ao (c:= ↑nsy) ej be Z (aC (by omega) (by omega))) (qz Z Z (eM (k:= .u64) (a:= ↑p) (b:= ↑nsy) Z Z) (qy Z (aD (b:=false) (v:= .b (decide ((↑nsy:Int)< ↑p))) Z Z) (pn ?_)))))))
   refine bK Z (fun I=> ?_) (fun I=> ?_)
   ·
    simp only[bx]at I
    refine sr (ai 1 Z (wn (rq ?_)))
    exact⟨.inr Z,_,r1 (.i 1) Z _ _,.inr (.inr ⟨fun s hse hsn=>by obtain⟨ss,hss⟩: ∃ss,s.syms=some ss:=(by {cases h:s.syms with|none=>rw[h]at hse;cases hse|some x=>exact⟨x,Z⟩});have hsl:=hsn ss hss;simp only[cX,←hys,←t,←u,←y,←z,Int.toNat_natCast,hss,if_neg (show ¬raw.length<80 by omega),if_pos (show ss.length<p by omega)],Z,H9.sub (List.nil_sublist _)⟩)⟩
   ·
    simp only[bx]at I
    refine wk (ad (ad ?_))
    have J:=H9.drew
    refine aU MX (fun w'=>w'.cell? ⟨gn,on+6,none⟩=some (.q (↑p))∧w'.cell? ⟨gn,on+7,none⟩=some (.q (↑r))) (tr 0 8 Pl.done) (by kernel_rfl) (⟨show World.cell? _ _=some (.q (↑p))from(hDn _ (J.g 0 Z)).cellAt 6 (by omega),show World.cell? _ _=some (.q (↑r))from(hDn _ (J.g 0 Z)).cellAt 7 (by omega)⟩) (qm (.sl gn on 20 cB) Z Z (qy Z (aK (a:=⟨gn,on,none⟩) (i:=6) bL Z Z (by omega) (by omega)) (qh Z (fun hS=>ag aP Z hS.1) (qm (.sl gn on 20 cB) Z Z (qy Z (aK (a:=⟨gn,on,none⟩) (i:=7) bL Z Z (by omega) (by omega)) (qh Z (fun hS=>ag aP Z hS.2) (qy Z (aH (k:= .u64) (c:= ↑(p+r)) Z Z (by rw[aC (by omega) (by omega)];omega)) (qy Z (jO (k:= .u64) (a:= ↑(p+r)) (b:=4294967296) Z Z) (pn ?_)))))))))
    refine bK Z (fun L=> ?_) (fun L=> ?_)
    ·
     simp only[bx]at L
     refine sr (ai 2 Z (wn (rq ?_)))
     exact⟨.inr Z,_,r1 (.i 2) Z _ _,.inr (.inl ⟨Z,by rfl,J.re [2,3]⟩)⟩
    ·
     simp only[bx]at L
     refine wk (ad (ad ?_))
     by_cases hf1:4*f=0∨d+4*f≤N
     ·
      have A:=J.drew
      refine aU MX (fun w'=>w'.cell? ⟨fb,4,none⟩=some (.s Asy nsy csy)∧w'.cell? ⟨gn,on+6,none⟩=some (.q (↑p))∧w'.cell? ⟨gn,on+7,none⟩=some (.q (↑r))∧w'.cell? ⟨gn,on+14,none⟩=some (.q (↑d))∧w'.cell? ⟨gn,on+15,none⟩=some (.q (↑f))) (tr 0 23 (Pl.run 23 (Pl.take 24 (Pl.take 25 Pl.done)))) (by kernel_rfl) (⟨A.c 2 4 Z Z,show World.cell? _ _=some (.q (↑p))from(hDn _ (A.g 0 Z)).cellAt 6 (by omega),show World.cell? _ _=some (.q (↑r))from(hDn _ (A.g 0 Z)).cellAt 7 (by omega),show World.cell? _ _=some (.q (↑d))from(hDn _ (A.g 0 Z)).cellAt 14 (by omega),show World.cell? _ _=some (.q (↑f))from(hDn _ (A.g 0 Z)).cellAt 15 (by omega)⟩) (qm (.sl gn on 20 cB) Z Z (qy Z (aK (a:=⟨gn,on,none⟩) (i:=6) bL Z Z (by omega) (by omega)) (qh Z (fun hS=>ag aP Z hS.2.1) (qm (.sl gn on 20 cB) Z Z (qy Z (aK (a:=⟨gn,on,none⟩) (i:=7) bL Z Z (by omega) (by omega)) (qh Z (fun hS=>ag aP Z hS.2.2.1) (qy Z (aH (k:= .u64) (c:= ↑(p+r)) Z Z (by rw[aC (by omega) (by omega)];omega)) (qm (.pt fb) Z Z (qy Z (ah Z) (qy Z (ab (o:=0) gw Z) (qh Z (fun hS=>ag gi Z hS.1) ?_)))))))))))
      refine qy Z (aO (n:=nsy) tf Z) (qy Z (ao (c:= ↑nsy) ej be Z (aC (by omega) (by omega))) (qy Z (eM (k:= .u64) (a:= ↑(p+r)) (b:= ↑nsy) Z Z) (qm (.b (decide ((↑nsy:Int)< ↑(p+r)))) Z Z ?_)))
      generalize U:(decide ((↑nsy:Int)< ↑(p+r)))=bb
      cases bb
      ·
       simp only[bx]at U
       refine qz Z Z (am (v:= .sl gb ob N C) Z) (qz Z Z (am (v:= .sl gn on 20 cB) Z) (qz Z Z (aK (a:=⟨gn,on,none⟩) (i:=14) bL Z Z (by omega) (by omega)) (lQ Z Z (fun _ hS=>ag aP Z hS.2.2.2.1) (qz Z Z (am (v:= .sl gn on 20 cB) Z) (qz Z Z (aK (a:=⟨gn,on,none⟩) (i:=15) bL Z Z (by omega) (by omega)) (lQ Z Z (fun _ hS=>ag aP Z hS.2.2.2.2) (qz Z Z (cM (k:= .u64) (c:= ↑(4*f)) Z Z (by rw[aC (by omega) (by omega)];omega)) (wD Z Z (ec iN (args:= [.sl gb ob N C,.q (↑d),.q (↑(4*f))]) Z (aa (dU _ (by omega) (by omega) hf1) ?_))))))))))
       rintro e bd ⟨rfl,af⟩
       have G:=A.cal0 af
       refine⟨_,Z,⟨⟨G.c 2 4 Z Z,show World.cell? _ _=some (.q (↑p))from(hDn _ (G.g 0 Z)).cellAt 6 (by omega),show World.cell? _ _=some (.q (↑r))from(hDn _ (G.g 0 Z)).cellAt 7 (by omega),show World.cell? _ _=some (.q (↑d))from(hDn _ (G.g 0 Z)).cellAt 14 (by omega),show World.cell? _ _=some (.q (↑f))from(hDn _ (G.g 0 Z)).cellAt 15 (by omega)⟩,fun _=>trivial,qz Z Z (bS Z) (qy Z (aD (b:=false) (v:= .b false) Z Z) (pn (al Z (wk (sr (mp fb 0 Z (wm Z (eb G 24 [] Z (by kernel_rfl) (fun W bf aJ aL=>wc Z ?_)))))))))⟩⟩
       refine wf oF Z (ws (es aL 3 5 (.sl W 0 0 0) Z eE (fun aM aj=> ?_)))
       refine wn (ad (sr (ms gn on 20 cB Z (wv Z (aK bL Z Z (by omega) (by omega)) (wv Z (ag aP Z (show World.cell? _ _=some (.q (↑f))from(hDn _ (aj.g 1 Z)).cellAt 15 (by omega))) (mu 0 Z (wn (a6 ?_))))))))
       have E:St w (Res.all [an fb [vh,.b big,.s AL nL cL,vp,.s Asy nsy csy,vi] 33,ay 74 4 (.s AL nL cL) nL (lv.flatMap LoadV.cells)]).F [an fb [vh,.b big,.s AL nL cL,vp,.s Asy nsy csy,.sl W 0 0 0] 33,ay 74 4 (.s AL nL cL) nL (lv.flatMap LoadV.cells),ay 24 1 (.sl W 0 0 0) 0 (nums .u32 ((fp big f ((xs.drop d).take (4*f))).take 0)),Dn] aM:=(aj.rowOf (i:=0) (cap:=0) (sz:=1) rfl rfl (by simp[maxLen])).re [3,4,0,1]
       refine bA (fun ρ w'=> ∃j:Nat,∃AI:Option Addr,∃cI:Nat,ρ 0= .pt fb∧ρ 1= .sl gb ob N C∧ρ 3= .sl gr or_ nr cr∧ρ 9= .sl gn on 20 cB∧ρ 80= .q (↑f)∧ρ 81= .q (↑j)∧j≤f∧St w (Res.all [an fb [vh,.b big,.s AL nL cL,vp,.s Asy nsy csy,vi] 33,ay 74 4 (.s AL nL cL) nL (lv.flatMap LoadV.cells)]).F [an fb [vh,.b big,.s AL nL cL,vp,.s Asy nsy csy,.s AI j cI] 33,ay 74 4 (.s AL nL cL) nL (lv.flatMap LoadV.cells),ay 24 1 (.s AI j cI) j (nums .u32 ((fp big f ((xs.drop d).take (4*f))).take j)),Dn] w') (fun ρ _=>f+1- nv (ρ 81)) (⟨0,_,_,Z,Z,Z,Z,Z,Z,by omega,E⟩) ?_
       rintro ρ w3 ⟨j,AI,cI,g0,g1,g3,g9,ap,Q,hj,H3⟩
       refine sr (wv Z (bR Q ap) (wn (ad ?_)))
       refine bK Z (fun M=> ?_) (fun M=> ?_)
       ·
        simp only[bx]at M
        refine wk (ad (a6 (sr (mg Q Z (au (↑j) Z (wn ?_))))))
        have O:=H3.drew
        refine dt MX (fun w'=>w'.cell? ⟨fb,5,none⟩=some (.s AI j cI)) (fun w'=>w'.cell? ⟨fb,1,none⟩=some (.b big)∧w'.cell? ⟨gn,on+14,none⟩=some (.q (↑d))) 23 (tr 0 4 (Pl.takeS 4 (tr 5 12 (Pl.run 17 (Pl.take 18 (Pl.run 19 (Pl.run 20 (Pl.take 21 (Pl.take 22 (Pl.run 23 Pl.done)))))))))) (by kernel_rfl) Z (O.c 0 5 Z Z) (⟨O.c 0 1 Z Z,show World.cell? _ _=some (.q (↑d))from(hDn _ (O.g 3 Z)).cellAt 14 (by omega)⟩) (qm (.pt fb) Z g0 (qm (.pt fb) Z g0 (qy Z (ah Z) (qy Z (ab (o:=0) oF Z) (qs Z Z (fun _ hS=>ag eE Z hS) (qm (.pt fb) Z g0 (qy Z (ah Z) (qy Z (ab (o:=0) dF Z) (qh Z (fun hS=>ag dc Z hS.1) (qm (.sl gb ob N C) Z g1 (qm (.sl gn on 20 cB) Z g9 ?_)))))))))))
        refine qy Z (aK (a:=⟨gn,on,none⟩) (i:=14) bL Z Z (by omega) (by omega)) (qh Z (fun hS=>ag aP Z hS.2) (qm (.q (↑j)) Z Z (qy Z (cM (k:= .u64) (c:= ↑(4*j)) Z Z (by rw[aC (by omega) (by omega)];omega)) (qy Z (aH (k:= .u64) (c:= ↑(d+(4*j))) Z Z (by rw[aC (by omega) (by omega)];omega)) (qt Z (fun _ hS=>(aq (l:=(d+(4*j))) (h:=N) aZ Z (bs Z (by omega) (Int.toNat_natCast _)) bn (by omega) (by omega) (by omega) (by omega):Yv _ _ _ _ (.sl gb (ob+(d+(4*j))) (N-(d+(4*j))) (C-(d+(4*j)))) _)) (qr Z (ec mm (args:= [.b big,.i 4,.sl gb (ob+(d+(4*j))) (N-(d+(4*j))) (C-(d+(4*j)))]) Z (aa (by have h:=ez big (wd:=4) _ (RI.drop_ (hr.keepB O.keep hB hgb) (d+(4*j))) (c:=C-(d+(4*j))) (hby.drop _) (by omega) (by omega);rw[jA]at h;exact h) ?_))))))))
        rintro e bg ⟨rfl,av⟩
        have R:=O.cal0 av
        refine⟨_,Z,⟨⟨R.c 0 1 Z Z,show World.cell? _ _=some (.q (↑d))from(hDn _ (R.g 3 Z)).cellAt 14 (by omega)⟩,fun _=>R.c 0 5 Z Z,qy Z (ao (c:=n4 big (xs.drop (d+(4*j)))) db jR Z (dm (ba big (hby.drop _)).1 (by have:=(ba big (hby.drop ((d+(4*j))))).2;omega))) (qr Z (eb R 24 [.w (n4 big (xs.drop (d+(4*j))))] Z (by kernel_rfl) (fun bh bi aN E=>⟨⟨E.c 1 1 Z Z,show World.cell? _ _=some (.q (↑d))from(hDn _ (E.g 4 Z)).cellAt 14 (by omega)⟩,fun _=>E.c 1 5 Z Z,qr Z (bG E 3 (m:=1) (news:= [.w (n4 big (xs.drop (d+(4*j))))]) Z tc vU Z (by decide) Z Z Z (E.news (i:=0) Z) (by simp[Value.oneCell']) (by simp only[maxLen];omega) (by omega) (fun bj bk P=> ?_))⟩)))⟩⟩
        obtain⟨aR,aT,rfl,_,_⟩:=aw (P.g 3 rfl)
        refine⟨⟨P.c 1 1 Z Z,show World.cell? _ _=some (.q (↑d))from(hDn _ (P.g 4 Z)).cellAt 14 (by omega)⟩,fun _=>P.c 1 5 Z Z,qy Z (ah Z) (qy Z (ab (o:=0) oF Z) (dJ Z (es P 1 5 (.s aR (j+1) aT) Z eE (fun bl S=> ?_))))⟩
        refine⟨⟨S.c 1 1 Z Z,show World.cell? _ _=some (.q (↑d))from(hDn _ (S.g 4 Z)).cellAt 14 (by omega)⟩,fun h=>absurd h (by decide),ca (ak (ac (ae (wv Z (aH (k:= .u64) (c:= ↑j+1) Q Z (aC (by omega) (by omega))) (mu (↑j+1) Z (wn ?_))))))⟩
        have hd:=wI (big:=big) (xs:=xs) (a:=d) (show j<f by omega)
        have hcur:nums .u32 ((fp big f ((xs.drop d).take (4*f))).take j)++ [.w (n4 big (xs.drop (d+(4*j))))]=nums .u32 ((fp big f ((xs.drop d).take (4*f))).take (j+1)):=by rw[List.take_add_one,hd];simp[nums]
        rw[hcur]at S
        exact⟨⟨j+1,_,_,g0,g1,g3,g9,ap,Z,by omega,S.re [1,2,3,4]⟩,by show f+1- nv (.q (↑j+1))<f+1- nv (ρ 81);rw[Q];simp only[nv];omega⟩
       ·
        simp only[bx]at M
        refine bq (ar (ar (aQ (ac (sr (mg g0 Z (mg g0 Z (wc Z (wf dj Z (wv Z (H3.ld 0 Z dH Z (.s AL nL cL) Z) (mg g3 Z ?_)))))))))))
        refine mg g9 Z (wv Z (yz [.i 5,.sl gr or_ nr cr,.string (⟨#[]⟩),.sl gn on 20 cB] Z (by kernel_rfl)) (wm Z (kt H3 (ps:= [(0,.agg #[.i 5,.sl gr or_ nr cr,.string (⟨#[]⟩),.sl gn on 20 cB])]) (e:=74) (cs:= [.i 5,.sl gr or_ nr cr,.string (⟨#[]⟩),.sl gn on 20 cB]) Z (by kernel_rfl) (fun bm bo aW ax=>wm Z (bG ax 2 (m:=1) (news:= [.i 5,.sl gr or_ nr cr,.string (⟨#[]⟩),.sl gn on 20 cB]) Z kT kY Z (by decide) Z Z Z (ax.news (i:=0) Z) (by simp[Value.oneCell']) (by simp only[maxLen];omega) (by omega) (fun bp br az=> ?_))))))
        obtain⟨aX,bc,rfl,_,_⟩:=aw (az.g 2 rfl)
        refine wc Z (wf dj Z (ws (es az 1 2 (.s aX (nL+1) bc) Z dH (fun bt X=> ?_))))
        refine wn (sr (ai 0 Z (wn (aY ?_))))
        have hcur:lv.flatMap LoadV.cells++ [.i 5,.sl gr or_ nr cr,.string (⟨#[]⟩),.sl gn on 20 cB]=(lv++ [(LoadV.mk (⟨5,raw,[],vJ big ys⟩:LoadD) (.sl gr or_ nr cr) (.sl gn on 20 cB))]).flatMap LoadV.cells:=by rw[List.flatMap_append,List.flatMap_singleton];rfl
        rw[hcur]at X
        have hjq:j=f:=by omega
        rw[List.take_of_length_le (by simp[fp];omega)]at X
        exact⟨.inr Z,_,r1 (.i 0) Z _ _,.inl ⟨(⟨5,raw,[],vJ big ys⟩:LoadD),(LoadV.mk (⟨5,raw,[],vJ big ys⟩:LoadD) (.sl gr or_ nr cr) (.sl gn on 20 cB)),_,_,_,fp big f ((xs.drop d).take (4*f)),Res.all [ay 24 1 (.s AI j cI) j (nums .u32 (fp big f ((xs.drop d).take (4*f)))),Dn],Z,fun s ss hss hsl=>by have e1:jk xs d (4*f)=some ((xs.drop d).take (4*f)):=da (by rw[hr.1];exact hf1);simp only[cX,←hys,←t,←u,←y,←z,Int.toNat_natCast,hss,if_neg (show ¬raw.length<80 by omega),if_neg (show ¬ss.length<p by omega),if_neg (show ¬ss.length<((↑p+ ↑r:Int)%4294967296).toNat by omega),e1],Z,Z,Z,Z,X.reAll [3,4] [1,2],fun w hh=>by have hh:=aS.1 hh;exact⟨⟨_,_,_,Z,by have h:=hDn w (hh Dn (by simp));rw[t,u,y,z]at h;exact h⟩,⟨_,_,_,Z,aV (hh (ay 24 1 (.s AI j cI) j (nums .u32 (fp big f ((xs.drop d).take (4*f))))) (by simp))⟩⟩⟩⟩
      ·
       simp only[bx]at U
       refine bD Z Z (bD Z Z (bD Z Z (bD Z Z (bD Z Z (bD Z Z (bD Z Z (bD Z Z (ry Z Z (⟨A.c 2 4 Z Z,show World.cell? _ _=some (.q (↑p))from(hDn _ (A.g 0 Z)).cellAt 6 (by omega),show World.cell? _ _=some (.q (↑r))from(hDn _ (A.g 0 Z)).cellAt 7 (by omega),show World.cell? _ _=some (.q (↑d))from(hDn _ (A.g 0 Z)).cellAt 14 (by omega),show World.cell? _ _=some (.q (↑f))from(hDn _ (A.g 0 Z)).cellAt 15 (by omega)⟩) (fun _=>trivial) (bD Z Z (qy Z (aD (b:=true) (v:= .b true) Z Z) (pn ?_)))))))))))
       refine aB Z (sr (ai 1 Z (wn (rq ?_))))
       exact⟨.inr Z,_,r1 (.i 1) Z _ _,.inr (.inr ⟨fun s hse hsn=>by obtain⟨ss,hss⟩: ∃ss,s.syms=some ss:=(by {cases h:s.syms with|none=>rw[h]at hse;cases hse|some x=>exact⟨x,Z⟩});have hsl:=hsn ss hss;simp only[cX,←hys,←t,←u,←y,←z,Int.toNat_natCast,hss,if_neg (show ¬raw.length<80 by omega),if_neg (show ¬ss.length<p by omega)];rw[if_pos (by omega)],Z,A.sub (List.nil_sublist _)⟩)⟩
     ·
      have B:=J.drew
      refine aU MX (fun w'=>w'.cell? ⟨fb,4,none⟩=some (.s Asy nsy csy)∧w'.cell? ⟨gn,on+6,none⟩=some (.q (↑p))∧w'.cell? ⟨gn,on+7,none⟩=some (.q (↑r))∧w'.cell? ⟨gn,on+14,none⟩=some (.q (↑d))∧w'.cell? ⟨gn,on+15,none⟩=some (.q (↑f))) (tr 0 23 (Pl.run 23 (Pl.take 24 (Pl.take 25 Pl.done)))) (by kernel_rfl) (⟨B.c 2 4 Z Z,show World.cell? _ _=some (.q (↑p))from(hDn _ (B.g 0 Z)).cellAt 6 (by omega),show World.cell? _ _=some (.q (↑r))from(hDn _ (B.g 0 Z)).cellAt 7 (by omega),show World.cell? _ _=some (.q (↑d))from(hDn _ (B.g 0 Z)).cellAt 14 (by omega),show World.cell? _ _=some (.q (↑f))from(hDn _ (B.g 0 Z)).cellAt 15 (by omega)⟩) (qm (.sl gn on 20 cB) Z Z (qy Z (aK (a:=⟨gn,on,none⟩) (i:=6) bL Z Z (by omega) (by omega)) (qh Z (fun hS=>ag aP Z hS.2.1) (qm (.sl gn on 20 cB) Z Z (qy Z (aK (a:=⟨gn,on,none⟩) (i:=7) bL Z Z (by omega) (by omega)) (qh Z (fun hS=>ag aP Z hS.2.2.1) (qy Z (aH (k:= .u64) (c:= ↑(p+r)) Z Z (by rw[aC (by omega) (by omega)];omega)) (qm (.pt fb) Z Z (qy Z (ah Z) (qy Z (ab (o:=0) gw Z) (qh Z (fun hS=>ag gi Z hS.1) ?_)))))))))))
      refine qy Z (aO (n:=nsy) tf Z) (qy Z (ao (c:= ↑nsy) ej be Z (aC (by omega) (by omega))) (qy Z (eM (k:= .u64) (a:= ↑(p+r)) (b:= ↑nsy) Z Z) (qm (.b (decide ((↑nsy:Int)< ↑(p+r)))) Z Z ?_)))
      generalize V:(decide ((↑nsy:Int)< ↑(p+r)))=bb
      cases bb
      ·
       simp only[bx]at V
       refine qz Z Z (am (v:= .sl gb ob N C) Z) (qz Z Z (am (v:= .sl gn on 20 cB) Z) (qz Z Z (aK (a:=⟨gn,on,none⟩) (i:=14) bL Z Z (by omega) (by omega)) (lQ Z Z (fun _ hS=>ag aP Z hS.2.2.2.1) (qz Z Z (am (v:= .sl gn on 20 cB) Z) (qz Z Z (aK (a:=⟨gn,on,none⟩) (i:=15) bL Z Z (by omega) (by omega)) (lQ Z Z (fun _ hS=>ag aP Z hS.2.2.2.2) (qz Z Z (cM (k:= .u64) (c:= ↑(4*f)) Z Z (by rw[aC (by omega) (by omega)];omega)) (wD Z Z (ec iN (args:= [.sl gb ob N C,.q (↑d),.q (↑(4*f))]) Z (aa (eg _ (by omega) (by omega) hf1) ?_))))))))))
       rintro e bu ⟨rfl,a0⟩
       have H:=B.cal0 a0
       refine⟨_,Z,⟨⟨H.c 2 4 Z Z,show World.cell? _ _=some (.q (↑p))from(hDn _ (H.g 0 Z)).cellAt 6 (by omega),show World.cell? _ _=some (.q (↑r))from(hDn _ (H.g 0 Z)).cellAt 7 (by omega),show World.cell? _ _=some (.q (↑d))from(hDn _ (H.g 0 Z)).cellAt 14 (by omega),show World.cell? _ _=some (.q (↑f))from(hDn _ (H.g 0 Z)).cellAt 15 (by omega)⟩,fun _=>trivial,qz Z Z (bS Z) (qy Z (aD (b:=false) (v:= .b true) Z Z) (pn (aB Z (sr (ai 1 Z (wn (rq ?_)))))))⟩⟩
       exact⟨.inr Z,_,r1 (.i 1) Z _ _,.inr (.inr ⟨fun s hse hsn=>by obtain⟨ss,hss⟩: ∃ss,s.syms=some ss:=(by {cases h:s.syms with|none=>rw[h]at hse;cases hse|some x=>exact⟨x,Z⟩});have hsl:=hsn ss hss;simp only[cX,←hys,←t,←u,←y,←z,Int.toNat_natCast,hss,if_neg (show ¬raw.length<80 by omega),if_neg (show ¬ss.length<p by omega)];have e1:jk xs d (4*f)=none:=eR (by rw[hr.1];exact hf1);rw[if_neg (by omega),e1],Z,H.sub (List.nil_sublist _)⟩)⟩
      ·
       simp only[bx]at V
       refine bD Z Z (bD Z Z (bD Z Z (bD Z Z (bD Z Z (bD Z Z (bD Z Z (bD Z Z (ry Z Z (⟨B.c 2 4 Z Z,show World.cell? _ _=some (.q (↑p))from(hDn _ (B.g 0 Z)).cellAt 6 (by omega),show World.cell? _ _=some (.q (↑r))from(hDn _ (B.g 0 Z)).cellAt 7 (by omega),show World.cell? _ _=some (.q (↑d))from(hDn _ (B.g 0 Z)).cellAt 14 (by omega),show World.cell? _ _=some (.q (↑f))from(hDn _ (B.g 0 Z)).cellAt 15 (by omega)⟩) (fun _=>trivial) (bD Z Z (qy Z (aD (b:=true) (v:= .b true) Z Z) (pn ?_)))))))))))
       refine aB Z (sr (ai 1 Z (wn (rq ?_))))
       exact⟨.inr Z,_,r1 (.i 1) Z _ _,.inr (.inr ⟨fun s hse hsn=>by obtain⟨ss,hss⟩: ∃ss,s.syms=some ss:=(by {cases h:s.syms with|none=>rw[h]at hse;cases hse|some x=>exact⟨x,Z⟩});have hsl:=hsn ss hss;simp only[cX,←hys,←t,←u,←y,←z,Int.toNat_natCast,hss,if_neg (show ¬raw.length<80 by omega),if_neg (show ¬ss.length<p by omega)];rw[if_pos (by omega)],Z,B.sub (List.nil_sublist _)⟩)⟩
 ·
  have a1:=H0.drew
  refine aU MX (fun w'=>w'.cell? ⟨fb,1,none⟩=some (.b big)) (tr 0 4 (Pl.take 5 (Pl.run 4 (Pl.run 6 (tr 7 5 Pl.done))))) (by kernel_rfl) (a1.c 0 1 Z Z) (qm (.pt fb) Z Z (qy Z (ah Z) (qy Z (ab (o:=0) dF Z) (qh Z (fun hS=>ag dc Z hS) (qm (.sl gr or_ nr cr) Z Z (qr Z (ec jN (args:= [.i 20]) Z (aa (dK (n:=20) _ (by omega)) ?_))))))))
  rintro e bv ⟨A4,c4,rfl,a2⟩
  have T:=a1.cal0 a2
  refine⟨_,Z,⟨T.c 1 1 Z Z,fun _=>trivial,qr Z (ec jt (args:= [.b big,.s A4 20 c4,.sl gr or_ nr cr]) Z (aa (eK (ws:=List.replicate 20 4) (bs:=raw) big _ (aV (T.g 0 Z)) (fY _) (hrr.keepB T.keep hB hgr) hnr (by omega) hrb (by decide) (by rw[fX];omega)) ?_))⟩⟩
  rintro e bw ⟨rfl,a3⟩
  have Y:=T.cal0 a3
  refine⟨_,Z,⟨Y.c 1 1 Z Z,fun _=>trivial,qm (.tuple #[.ns,.b false]) Z Z (qy Z (aE (v:= .ns) Z Z) (qy Z (aE (v:= .b false) Z Z) (qa (.ns) Z Z (qa (.b false) Z Z (pn (ad (ad ?_)))))))⟩⟩
  cases seen
  ·
   have a4:=Y.drew
   refine aU MX (fun w'=>w'.cell? ⟨fb,4,none⟩=some (.s Asy nsy csy)) (tr 0 18 Pl.done) (by kernel_rfl) (a4.c 1 4 Z Z) (qm (.b false) Z Z (qy Z (bS Z) (qm (.b true) Z Z (bD Z Z (bD Z Z (qy Z (aD (b:=true) (v:= .b true) Z Z) (qm (.b true) Z Z (bD Z Z (bD Z Z (bD Z Z (bD Z Z ?_)))))))))))
   refine bD Z Z (bD Z Z (bD Z Z (bD Z Z (bD Z Z (bD Z Z (qy Z (aD (b:=true) (v:= .b true) Z Z) (pn (aB Z (sr (ai 1 Z (wn ?_)))))))))))
   refine rq ?_
   exact⟨.inr Z,_,r1 (.i 1) Z _ _,.inr (.inr ⟨fun s hse hsn=>by unfold cX;rw[if_pos (by omega)],Z,a4.sub (List.nil_sublist _)⟩)⟩
  ·
   have a5:=Y.drew
   refine aU MX (fun w'=>w'.cell? ⟨fb,4,none⟩=some (.s Asy nsy csy)) (tr 0 18 Pl.done) (by kernel_rfl) (a5.c 1 4 Z Z) (qm (.b false) Z Z (qy Z (bS Z) (qm (.b true) Z Z (bD Z Z (bD Z Z (qy Z (aD (b:=true) (v:= .b true) Z Z) (qm (.b true) Z Z (bD Z Z (bD Z Z (bD Z Z (bD Z Z ?_)))))))))))
   refine bD Z Z (bD Z Z (bD Z Z (bD Z Z (bD Z Z (bD Z Z (qy Z (aD (b:=true) (v:= .b true) Z Z) (pn (aB Z (sr (ai 1 Z (wn ?_)))))))))))
   refine rq ?_
   exact⟨.inr Z,_,r1 (.i 1) Z _ _,.inr (.inr ⟨fun s hse hsn=>by unfold cX;rw[if_pos (by omega)],Z,a5.sub (List.nil_sublist _)⟩)⟩
end Go.Proofs.YtlndedfkgiafhaaDoor
