import Derived.Test.YtlndedfkgiafhaaDoorXAH
set_option linter.unusedVariables false
set_option linter.unusedSimpArgs false
set_option maxRecDepth 100000
set_option maxHeartbeats 4000000
namespace Go.Proofs.YtlndedfkgiafhaaDoor
open Go Go.RowKit Go.Proofs
theorem dO{ws:List Int}(h: ∀x ∈ ws,-16≤x∧x≤8)(i:Nat): -16≤ws.getD i 0∧ws.getD i 0≤8:=by
 rw[List.getD_eq_getElem?_getD]
 rcases Nat.lt_or_ge i ws.length with hi|hi
 · rw[List.getElem?_eq_getElem hi];exact h _ (List.getElem_mem hi)
 · rw[List.getElem?_eq_none hi];exact⟨by decide,by decide⟩
theorem iS(wide:Bool): ∀x ∈ ia wide,-16≤x∧x≤8:=by cases wide<;>decide
theorem iU(wide:Bool): ∀x ∈ fU wide,-16≤x∧x≤8:=by cases wide<;>decide
theorem kO(wide:Bool): ∀x ∈ kP wide,-16≤x∧x≤8:=by cases wide<;>decide
theorem fY(n:Nat): ∀x ∈ List.replicate n (4:Int),-16≤x∧x≤8:=fun x hx=>by rw[List.eq_of_mem_replicate hx];decide
theorem dW{AW A:Option Addr}{nW cW n c:Nat}{ws bs:List Int}(big:Bool)(w:World)(hrW:RI .i64 w AW nW ws)(hW: ∀x ∈ ws,-16≤x∧x≤8)(hr:RI .u8 w A n bs)(hc:n≤c)(hn:n≤4294967295)(hb:Byt bs)(hwl:ws.length≤1000){K:Nat}(hw:cF ws≤n)(hK:(bF big ws bs).length=K)(hK0:0<K):
 Calls Tryd.prog 26 #[.b big,.s AW nW cW,.s A n c] w fun e w'=> ∃(g o cB:Nat) (D:Res),e= .returned (.tuple #[.sl g o K cB,.b true])∧K≤cB∧St w aR [D] w'∧∀w,D.φ w → RI .u64 w (some ⟨g,o,none⟩) K (bF big ws bs):=by
 refine(s8 big w hrW (dO hW) (by rw[←hrW.1];exact hwl) hr hc hn hb).mono ?_
 rintro e w' (⟨r,h,B,m,cB,D,rfl,hm,H,hD⟩|⟨h,_⟩)
 · rw[l1 (by rw[hr.1];exact hw)]at h
   injection h with h
   subst h
   have hl:=(hD _ (H.g 0 rfl)).1
   rw[hK]at hl
   subst hl
   obtain⟨g,o,rfl,_⟩:=(hD _ (H.g 0 rfl)).2 hK0
   exact⟨g,o,cB,D,Z,hm,H,hD⟩
 · rw[l1 (by rw[hr.1];exact hw)]at h;cases h
theorem eK{AW A:Option Addr}{nW cW n c:Nat}{ws bs:List Int}(big:Bool)(w:World)(hrW:RI .i64 w AW nW ws)(hW: ∀x ∈ ws,-16≤x∧x≤8)(hr:RI .u8 w A n bs)(hc:n≤c)(hn:n≤4294967295)(hb:Byt bs)(hwl:ws.length≤1000)(hw:n<cF ws):
 Calls Tryd.prog 26 #[.b big,.s AW nW cW,.s A n c] w fun e w'=>e= .returned (.tuple #[.ns,.b false])∧St w aR [] w':=by
 refine(s8 big w hrW (dO hW) (by rw[←hrW.1];exact hwl) hr hc hn hb).mono ?_
 rintro e w' (⟨r,h,_⟩|⟨h,he,H⟩)
 · rw[qd (by rw[hr.1];exact hw)]at h;cases h
 · exact⟨he,H⟩
theorem dU{A:Option Addr}{n c from_ size:Nat}(w:World)(hn:n≤4294967295)(hfs:from_+size<18446744073709551616)(h:size=0∨from_+size≤n):
 Calls Tryd.prog 28 #[.s A n c,.q ↑from_,.q ↑size] w fun e w'=>e= .returned (.b true)∧St w aR [] w':=by
 by_cases h0:size=0
 · exact rf w hn hfs h0
 · exact vo w hn hfs (by omega) (by omega)
theorem eg{A:Option Addr}{n c from_ size:Nat}(w:World)(hn:n≤4294967295)(hfs:from_+size<18446744073709551616)(h: ¬(size=0∨from_+size≤n)):
 Calls Tryd.prog 28 #[.s A n c,.q ↑from_,.q ↑size] w fun e w'=>e= .returned (.b false)∧St w aR [] w':=sI w hn hfs (by omega) (by omega)
theorem RI.cellAt{k:IntKind}{w:World}{g o n:Nat}{xs:List Int}(h:RI k w (some ⟨g,o,none⟩) n xs)(i:Nat)(hi:i<n):w.cell? ⟨g,o+i,none⟩=some (.int k (xs.getD i 0)):=by
 obtain⟨g',o',e,hc⟩:=h.2 (by omega)
 injection e with e;injection e with e1 e2;subst e1;subst e2
 exact hc i hi
theorem RI.keepB{k:IntKind}{w w':World}{M:Nat → Prop}{base g o n:Nat}{xs:List Int}(h:RI k w (some ⟨g,o,none⟩) n xs)(hk:Keep w M w')(hB: ∀g,M g → base≤g)(hg:g<base):RI k w' (some ⟨g,o,none⟩) n xs:=
 h.keep hk fun a ha hm=>by injection ha with ha;subst ha;exact Nat.lt_irrefl _ (Nat.lt_of_lt_of_le hg (hB _ hm))
def PartV.cellsM(x:PartV):List Value:= [.str x.p.name,.str x.p.seg,x.vn,x.vr,x.vd,.b (!x.p.ok)]
theorem oO(x:PartV):x.cellsM.length=6:=rfl
theorem pB{wide big:Bool}{hs zs:List Int}{s:SecD}(hb:Byt hs)(hz:zs=hs.take (d7 wide))(h:eP wide big zs=s):bF big (fU wide) hs=vx s++(bF big (fU wide) hs).drop 7:=by
 rw[←h,hz,←secV wide big hs hb,List.take_append_drop]
theorem pA(wide big:Bool)(hs:List Int):(bF big (fU wide) hs).length=if wide then 10 else 9:=by cases wide<;>rfl
theorem mz{big:Bool}{xs:List Int}{z3 z4 j:Nat}(hj:j<z4):(bT big z4 ((xs.drop z3).take (z4*8)))[j]? =some (hJ big (n4 big (xs.drop (z3+8*j))) (n4 big (xs.drop (z3+8*j+4)))):=by
 have e:(((xs.drop z3).take (z4*8)).drop (8*j)).take 8=(xs.drop (z3+8*j)).take 8:=by rw[mw (by omega),List.drop_drop]
 rw[j7 hj,e,wY (by omega),cE (by omega),List.drop_drop]
theorem dg:dA Tryd.prog 72 [.string (⟨#[]⟩),.string (⟨#[]⟩),.ns,.ns,.ns,.b false]:=bO (by kernel_rfl)
theorem mB:bg Tryd.prog 17:=aL (by kernel_rfl)
theorem jt:bg Tryd.prog 26:=aL (by kernel_rfl)
theorem eA:bg Tryd.prog 39:=aL (by kernel_rfl)
theorem ex:(Tryd.prog.info? 72).map (·.size)=some 6:=by kernel_rfl
theorem iN:bg Tryd.prog 28:=aL (by kernel_rfl)
theorem th:FA 72 4 4:=fa (by kernel_rfl)
theorem o8:FA 72 5 5:=fa (by kernel_rfl)
theorem kU:iJ Tryd.prog 72 6:=eG (by kernel_rfl)
theorem lX:FA 72 3 3:=fa (by kernel_rfl)
theorem pM:dI Tryd.prog 65:=bN (by kernel_rfl)
theorem BS:bg Tryd.prog 19:=aL (by kernel_rfl)
theorem AX:Tryd.prog.underlying 65=some (.slice 67):=by kernel_rfl
theorem BK:(Tryd.prog.info? 67).map (fun i=>(i.zero,i.size,i.bytes))=some (some (.agg #[.w 0,.w 0,.e 0,.e 0,.b false,.b false,.b false]),7,16):=by kernel_rfl
theorem r7{gb ob N C nh ch:Nat}{Ah:Option Addr}{xs hs:List Int}(big:Bool)(w:World)(hr:RI .u8 w (some ⟨gb,ob,none⟩) N xs)(hby:Byt xs)(hNC:N≤C)(hN:N<10485760)(hrh:RI .u8 w Ah nh hs)(hbh:Byt hs)(hch:nh≤ch)(hnh:nh<10485760):
 Calls Tryd.prog 40 #[.sl gb ob N C,.b big,.b false,.s Ah nh ch] w fun e w'=>(∃s3:SecD,68≤nh∧et big xs (eP false big (hs.take 68))=some s3∧∃(x:PartV) (D:Res),x.p=s3.part N xs∧e= .returned (.tuple #[.agg (List.toArray x.cellsM),.b true])∧St w aR [D] w'∧∀w,D.φ w → RI .u8 w (some ⟨gb,ob,none⟩) N xs → x.ok w)∨((nh<68∨et big xs (eP false big (hs.take 68))=none)∧e= .returned (.tuple #[.agg (List.toArray [.string (⟨#[]⟩),.string (⟨#[]⟩),.ns,.ns,.ns,.b false]),.b false])∧St w aR [] w'):=by
 refine aA (args:= [.sl gb ob N C,.b big,.b false,.s Ah nh ch]) Tryd.func40 Z Z Z ?_
 have H0:=St.nil w aR
 refine sr (wm Z (aN H0 dg (fun g1 w2 dd H3=>av (.b false) Z (wn (ad ?_)))))
 by_cases hfit:68≤nh
 ·
  obtain⟨gh,oh,rfl,_⟩:=hrh.2 (by omega)
  obtain⟨zs,hzs⟩: ∃q,q=hs.take 68:=⟨_,rfl⟩
  have hbzs:Byt zs:=by rw[hzs];exact hbh.take _
  obtain⟨z1,bj⟩: ∃q:Nat,(q:Int)=n4 big (zs.drop 36):=⟨(n4 big (zs.drop 36)).toNat,Int.toNat_of_nonneg (ba big (hbzs.drop _)).1⟩
  have cp:(z1:Int)<4294967296:=by rw[bj];exact(ba big (hbzs.drop _)).2
  obtain⟨z2,bk⟩: ∃q:Nat,(q:Int)=n4 big (zs.drop 40):=⟨(n4 big (zs.drop 40)).toNat,Int.toNat_of_nonneg (ba big (hbzs.drop _)).1⟩
  have cq:(z2:Int)<4294967296:=by rw[bk];exact(ba big (hbzs.drop _)).2
  obtain⟨z3,bl⟩: ∃q:Nat,(q:Int)=n4 big (zs.drop 48):=⟨(n4 big (zs.drop 48)).toNat,Int.toNat_of_nonneg (ba big (hbzs.drop _)).1⟩
  have cr:(z3:Int)<4294967296:=by rw[bl];exact(ba big (hbzs.drop _)).2
  obtain⟨z4,bm⟩: ∃q:Nat,(q:Int)=n4 big (zs.drop 52):=⟨(n4 big (zs.drop 52)).toNat,Int.toNat_of_nonneg (ba big (hbzs.drop _)).1⟩
  have ct:(z4:Int)<4294967296:=by rw[bm];exact(ba big (hbzs.drop _)).2
  have T:eP false big zs=(⟨aF ((zs.drop 0).take 16),aF ((zs.drop 16).take 16),n4 big (zs.drop 32),z1,z2,n4 big (zs.drop 44),↑z3,↑z4,n4 big (zs.drop 56),[]⟩:SecD):=by simp only[eP,←bj,←bk,←bl,←bm,Int.toNat_natCast,if_true,if_false,Bool.false_eq_true]
  have hNL:=pB hbh (show zs=hs.take (d7 false)from hzs) T
  have F:(hs.take 16)=(zs.drop 0).take 16:=by rw[hzs,mw (by omega)];rfl
  have n:(hs.drop 16).take 16=(zs.drop 16).take 16:=by rw[hzs,mw (by omega)]
  refine ae (mv (.b big) Z (mv (.b false) Z (wE [.b false] mB Z Z (aa (eJ _) ?_))))
  rintro e w5 ⟨AW,nW,cW,DW,rfl,hcW,cu,hDW⟩
  have H6:=H3.cal0 cu
  refine⟨_,Z,ms gh oh nh ch Z (wE [.b big,.s AW nW cW,.sl gh oh nh ch] jt Z Z (aa (dW (ws:=fU false) (bs:=hs) big _ (hDW _ (H6.g 0 Z)) (iU _) (hrh.keep0 H6.keep) hch (by omega) hbh (by decide) (K:=9) (show 68≤nh from hfit) (pA false big hs) (by omega)) ?_))⟩
  rintro e w8 ⟨gn,on,cB,Dn,rfl,hcB,cw,X⟩
  rw[hNL]at X
  have H9:=H6.cal0 cw
  have hDn: ∀w,Dn.φ w → RI .u64 w (some ⟨gn,on,none⟩) 9 ([n4 big (zs.drop 32),↑z1,↑z2,n4 big (zs.drop 44),↑z3,↑z4,n4 big (zs.drop 56)]++(bF big (fU false) hs).drop 7):=X
  refine⟨_,Z,mv (.tuple #[.sl gn on 9 cB,.b true]) Z (we (.sl gn on 9 cB) Z Z (we (.b true) Z Z (eL gn on 9 cB Z (av (.b true) Z (wn (ad (sr (mv (.b true) Z (wv Z (bS Z) (wn ?_))))))))))⟩
  refine al Z (wk ?_)
  refine eh (fun ρ w'=> ∃(g8 gp:Nat) (Av:Option Addr) (cv:Nat),ρ 0= .sl gb ob N C∧ρ 1= .b big∧ρ 8= .pt g8∧ρ 10= .sl gn on 9 cB∧ρ 12= .pt gp∧St w aR [an gp [.str (aF ((zs.drop 0).take 16)),.str (aF ((zs.drop 16).take 16)),.sl gn on 7 cB,.s Av 0 cv,.ns,.b false] 72,ay 67 7 (.s Av 0 cv) 0 ([]),Dn,an g8 [.string (⟨#[]⟩),.string (⟨#[]⟩),.ns,.ns,.ns,.b false] 72] w') ?_ ?_
  ·
   have U:=H9.drew
   refine aU MX (fun w'=>True) (Pl.take 0 (Pl.take 1 (Pl.take 3 (Pl.take 4 (Pl.take 6 (Pl.take 7 (Pl.run3 2 (Pl.run3 5 (Pl.run2 8 (Pl.take 9 (Pl.run 10 (Pl.run 11 Pl.done))) 10 (Pl.run 8 (Pl.take 9 (Pl.run 11 Pl.done)))) 8 (Pl.run2 5 (Pl.take 9 (Pl.run 10 (Pl.run 11 Pl.done))) 10 (Pl.run 5 (Pl.take 9 (Pl.run 11 Pl.done)))) 10 (Pl.run2 5 (Pl.run 8 (Pl.take 9 (Pl.run 11 Pl.done))) 8 (Pl.run 5 (Pl.take 9 (Pl.run 11 Pl.done))))) 8 (Pl.run2 2 (Pl.run2 5 (Pl.take 9 (Pl.run 10 (Pl.run 11 Pl.done))) 10 (Pl.run 5 (Pl.take 9 (Pl.run 11 Pl.done)))) 10 (Pl.run 2 (Pl.run 5 (Pl.take 9 (Pl.run 11 Pl.done))))) 10 (Pl.run2 2 (Pl.run2 5 (Pl.run 8 (Pl.take 9 (Pl.run 11 Pl.done))) 8 (Pl.run 5 (Pl.take 9 (Pl.run 11 Pl.done)))) 8 (Pl.run 2 (Pl.run 5 (Pl.take 9 (Pl.run 11 Pl.done)))))))))))) (by kernel_rfl) (trivial) (qm (.sl gh oh nh ch) Z Z (qt Z (fun _ hS=>(aq (l:=0) (h:=16) aZ Z bn (bs Z (by omega) Z) (by omega) (by omega) (by omega) (by omega):Yv _ _ _ _ (.sl gh oh 16 ch) _)) (qm (.sl gh oh nh ch) Z Z (qt Z (fun _ hS=>(aq (l:=16) (h:=32) aZ Z (bs Z (by omega) Z) (bs Z (by omega) Z) (by omega) (by omega) (by omega) (by omega):Yv _ _ _ _ (.sl gh (oh+16) 16 (ch- 16)) _)) (qm (.sl gn on 9 cB) Z Z (qt Z (fun _ hS=>(aq (l:=0) (h:=7) bL Z bn (bs Z (by omega) Z) (by omega) (by omega) (by omega) (by omega):Yv _ _ _ _ (.sl gn on 7 cB) _)) ?_))))))
   refine⟨?_,?_,?_⟩
   ·
    refine po Z (ec eA (args:= [.sl gh oh 16 ch]) Z (aa (by have h:=c6 _ ((hrh.keep0 U.keep).take (m:=16) (by omega)) (c:=ch) (by omega) (by omega);rw[F]at h;exact h) ?_))
    rintro e dI ⟨rfl,bo⟩
    have V:=U.cal0 bo
    refine⟨_,Z,⟨trivial,fun _=>trivial,?_⟩⟩
    refine⟨?_,?_,?_⟩
    ·
     refine po Z (ec eA (args:= [.sl gh (oh+16) 16 (ch- 16)]) Z (aa (by have h:=c6 _ (((hrh.keep0 V.keep).drop_ 16).take (m:=16) (by omega)) (c:=ch- 16) (by omega) (by omega);rw[n]at h;exact h) ?_))
     rintro e dK ⟨rfl,bp⟩
     have br:=V.cal0 bp
     refine⟨_,Z,⟨trivial,fun _=>trivial,?_⟩⟩
     refine⟨?_,?_⟩
     ·
      refine po Z (eb br 67 [] Z (by kernel_rfl) (fun a1 dL cx cy=>⟨trivial,fun _=>trivial,qy Z (yb (ps:= [(0,.str (aF ((zs.drop 0).take 16))),(1,.str (aF ((zs.drop 16).take 16))),(2,.sl gn on 7 cB),(3,.sl a1 0 0 0)]) (cells:=#[.str (aF ((zs.drop 0).take 16)),.str (aF ((zs.drop 16).take 16)),.sl gn on 7 cB,.sl a1 0 0 0,.ns,.b false]) Z (by kernel_rfl)) (qr Z (aN cy dg (fun dM dN cz c0=>⟨trivial,fun _=>trivial,dJ Z (eN c0 0 [.str (aF ((zs.drop 0).take 16)),.str (aF ((zs.drop 16).take 16)),.sl gn on 7 cB,.sl a1 0 0 0,.ns,.b false] Z ex (fun dO c1=> ?_))⟩)))⟩))
      refine⟨trivial,fun _=>trivial,pn ?_⟩
      exact⟨_,_,_,_,Z,Z,Z,Z,Z,(c1.rowOf (i:=1) (cap:=0) (sz:=7) Z Z (by simp[maxLen])).re [0,1,2,4]⟩
     ·
      refine po Z (aN br dg (fun dP dQ c2 c3=>⟨trivial,fun _=>trivial,qr Z (eb c3 67 [] Z (by kernel_rfl) (fun a2 dR c4 c5=>⟨trivial,fun _=>trivial,qy Z (yb (ps:= [(0,.str (aF ((zs.drop 0).take 16))),(1,.str (aF ((zs.drop 16).take 16))),(2,.sl gn on 7 cB),(3,.sl a2 0 0 0)]) (cells:=#[.str (aF ((zs.drop 0).take 16)),.str (aF ((zs.drop 16).take 16)),.sl gn on 7 cB,.sl a2 0 0 0,.ns,.b false]) Z (by kernel_rfl)) (dJ Z (eN c5 1 [.str (aF ((zs.drop 0).take 16)),.str (aF ((zs.drop 16).take 16)),.sl gn on 7 cB,.sl a2 0 0 0,.ns,.b false] Z ex (fun dS c7=> ?_)))⟩))⟩))
      refine⟨trivial,fun _=>trivial,pn ?_⟩
      exact⟨_,_,_,_,Z,Z,Z,Z,Z,(c7.rowOf (i:=0) (cap:=0) (sz:=7) Z Z (by simp[maxLen])).re [1,0,2,4]⟩
    ·
     refine po Z (eb V 67 [] Z (by kernel_rfl) (fun E dT c8 a3=>⟨trivial,fun _=>trivial,?_⟩))
     refine⟨?_,?_⟩
     ·
      refine po Z (ec eA (args:= [.sl gh (oh+16) 16 (ch- 16)]) Z (aa (by have h:=c6 _ (((hrh.keep0 a3.keep).drop_ 16).take (m:=16) (by omega)) (c:=ch- 16) (by omega) (by omega);rw[n]at h;exact h) ?_))
      rintro e dX ⟨rfl,bt⟩
      have c9:=a3.cal0 bt
      refine⟨_,Z,⟨trivial,fun _=>trivial,qy Z (yb (ps:= [(0,.str (aF ((zs.drop 0).take 16))),(1,.str (aF ((zs.drop 16).take 16))),(2,.sl gn on 7 cB),(3,.sl E 0 0 0)]) (cells:=#[.str (aF ((zs.drop 0).take 16)),.str (aF ((zs.drop 16).take 16)),.sl gn on 7 cB,.sl E 0 0 0,.ns,.b false]) Z (by kernel_rfl)) (qr Z (aN c9 dg (fun dY dZ cA cC=>⟨trivial,fun _=>trivial,dJ Z (eN cC 0 [.str (aF ((zs.drop 0).take 16)),.str (aF ((zs.drop 16).take 16)),.sl gn on 7 cB,.sl E 0 0 0,.ns,.b false] Z ex (fun ea cD=> ?_))⟩)))⟩⟩
      refine⟨trivial,fun _=>trivial,pn ?_⟩
      exact⟨_,_,_,_,Z,Z,Z,Z,Z,(cD.rowOf (i:=1) (cap:=0) (sz:=7) Z Z (by simp[maxLen])).re [0,1,2,4]⟩
     ·
      refine po Z (aN a3 dg (fun ed ee cE bu=>⟨trivial,fun _=>trivial,qr Z (ec eA (args:= [.sl gh (oh+16) 16 (ch- 16)]) Z (aa (by have h:=c6 _ (((hrh.keep0 bu.keep).drop_ 16).take (m:=16) (by omega)) (c:=ch- 16) (by omega) (by omega);rw[n]at h;exact h) ?_))⟩))
      rintro e ef ⟨rfl,bv⟩
      have cF:=bu.cal0 bv
      refine⟨_,Z,⟨trivial,fun _=>trivial,qy Z (yb (ps:= [(0,.str (aF ((zs.drop 0).take 16))),(1,.str (aF ((zs.drop 16).take 16))),(2,.sl gn on 7 cB),(3,.sl E 0 0 0)]) (cells:=#[.str (aF ((zs.drop 0).take 16)),.str (aF ((zs.drop 16).take 16)),.sl gn on 7 cB,.sl E 0 0 0,.ns,.b false]) Z (by kernel_rfl)) (dJ Z (eN cF 0 [.str (aF ((zs.drop 0).take 16)),.str (aF ((zs.drop 16).take 16)),.sl gn on 7 cB,.sl E 0 0 0,.ns,.b false] Z ex (fun ei cG=> ?_)))⟩⟩
      refine⟨trivial,fun _=>trivial,pn ?_⟩
      exact⟨_,_,_,_,Z,Z,Z,Z,Z,(cG.rowOf (i:=1) (cap:=0) (sz:=7) Z Z (by simp[maxLen])).re [0,1,2,4]⟩
    ·
     refine po Z (aN V dg (fun ek el cH a4=>⟨trivial,fun _=>trivial,?_⟩))
     refine⟨?_,?_⟩
     ·
      refine po Z (ec eA (args:= [.sl gh (oh+16) 16 (ch- 16)]) Z (aa (by have h:=c6 _ (((hrh.keep0 a4.keep).drop_ 16).take (m:=16) (by omega)) (c:=ch- 16) (by omega) (by omega);rw[n]at h;exact h) ?_))
      rintro e em ⟨rfl,bw⟩
      have cI:=a4.cal0 bw
      refine⟨_,Z,⟨trivial,fun _=>trivial,qr Z (eb cI 67 [] Z (by kernel_rfl) (fun a5 en cJ cK=>⟨trivial,fun _=>trivial,qy Z (yb (ps:= [(0,.str (aF ((zs.drop 0).take 16))),(1,.str (aF ((zs.drop 16).take 16))),(2,.sl gn on 7 cB),(3,.sl a5 0 0 0)]) (cells:=#[.str (aF ((zs.drop 0).take 16)),.str (aF ((zs.drop 16).take 16)),.sl gn on 7 cB,.sl a5 0 0 0,.ns,.b false]) Z (by kernel_rfl)) (dJ Z (eN cK 1 [.str (aF ((zs.drop 0).take 16)),.str (aF ((zs.drop 16).take 16)),.sl gn on 7 cB,.sl a5 0 0 0,.ns,.b false] Z ex (fun ep cL=> ?_)))⟩))⟩⟩
      refine⟨trivial,fun _=>trivial,pn ?_⟩
      exact⟨_,_,_,_,Z,Z,Z,Z,Z,(cL.rowOf (i:=0) (cap:=0) (sz:=7) Z Z (by simp[maxLen])).re [1,0,2,4]⟩
     ·
      refine po Z (eb a4 67 [] Z (by kernel_rfl) (fun a7 er cN bz=>⟨trivial,fun _=>trivial,qr Z (ec eA (args:= [.sl gh (oh+16) 16 (ch- 16)]) Z (aa (by have h:=c6 _ (((hrh.keep0 bz.keep).drop_ 16).take (m:=16) (by omega)) (c:=ch- 16) (by omega) (by omega);rw[n]at h;exact h) ?_))⟩))
      rintro e eu ⟨rfl,b0⟩
      have cO:=bz.cal0 b0
      refine⟨_,Z,⟨trivial,fun _=>trivial,qy Z (yb (ps:= [(0,.str (aF ((zs.drop 0).take 16))),(1,.str (aF ((zs.drop 16).take 16))),(2,.sl gn on 7 cB),(3,.sl a7 0 0 0)]) (cells:=#[.str (aF ((zs.drop 0).take 16)),.str (aF ((zs.drop 16).take 16)),.sl gn on 7 cB,.sl a7 0 0 0,.ns,.b false]) Z (by kernel_rfl)) (dJ Z (eN cO 1 [.str (aF ((zs.drop 0).take 16)),.str (aF ((zs.drop 16).take 16)),.sl gn on 7 cB,.sl a7 0 0 0,.ns,.b false] Z ex (fun ev cP=> ?_)))⟩⟩
      refine⟨trivial,fun _=>trivial,pn ?_⟩
      exact⟨_,_,_,_,Z,Z,Z,Z,Z,(cP.rowOf (i:=0) (cap:=0) (sz:=7) Z Z (by simp[maxLen])).re [1,0,2,4]⟩
   ·
    refine po Z (eb U 67 [] Z (by kernel_rfl) (fun y ew cQ a8=>⟨trivial,fun _=>trivial,?_⟩))
    refine⟨?_,?_⟩
    ·
     refine po Z (ec eA (args:= [.sl gh oh 16 ch]) Z (aa (by have h:=c6 _ ((hrh.keep0 a8.keep).take (m:=16) (by omega)) (c:=ch) (by omega) (by omega);rw[F]at h;exact h) ?_))
     rintro e ey ⟨rfl,b1⟩
     have a9:=a8.cal0 b1
     refine⟨_,Z,⟨trivial,fun _=>trivial,?_⟩⟩
     refine⟨?_,?_⟩
     ·
      refine po Z (ec eA (args:= [.sl gh (oh+16) 16 (ch- 16)]) Z (aa (by have h:=c6 _ (((hrh.keep0 a9.keep).drop_ 16).take (m:=16) (by omega)) (c:=ch- 16) (by omega) (by omega);rw[n]at h;exact h) ?_))
      rintro e e3 ⟨rfl,b2⟩
      have cR:=a9.cal0 b2
      refine⟨_,Z,⟨trivial,fun _=>trivial,qy Z (yb (ps:= [(0,.str (aF ((zs.drop 0).take 16))),(1,.str (aF ((zs.drop 16).take 16))),(2,.sl gn on 7 cB),(3,.sl y 0 0 0)]) (cells:=#[.str (aF ((zs.drop 0).take 16)),.str (aF ((zs.drop 16).take 16)),.sl gn on 7 cB,.sl y 0 0 0,.ns,.b false]) Z (by kernel_rfl)) (qr Z (aN cR dg (fun e4 e5 cS cT=>⟨trivial,fun _=>trivial,dJ Z (eN cT 0 [.str (aF ((zs.drop 0).take 16)),.str (aF ((zs.drop 16).take 16)),.sl gn on 7 cB,.sl y 0 0 0,.ns,.b false] Z ex (fun e6 cU=> ?_))⟩)))⟩⟩
      refine⟨trivial,fun _=>trivial,pn ?_⟩
      exact⟨_,_,_,_,Z,Z,Z,Z,Z,(cU.rowOf (i:=1) (cap:=0) (sz:=7) Z Z (by simp[maxLen])).re [0,1,2,4]⟩
     ·
      refine po Z (aN a9 dg (fun e7 e8 cV b3=>⟨trivial,fun _=>trivial,qr Z (ec eA (args:= [.sl gh (oh+16) 16 (ch- 16)]) Z (aa (by have h:=c6 _ (((hrh.keep0 b3.keep).drop_ 16).take (m:=16) (by omega)) (c:=ch- 16) (by omega) (by omega);rw[n]at h;exact h) ?_))⟩))
      rintro e e9 ⟨rfl,b4⟩
      have cX:=b3.cal0 b4
      refine⟨_,Z,⟨trivial,fun _=>trivial,qy Z (yb (ps:= [(0,.str (aF ((zs.drop 0).take 16))),(1,.str (aF ((zs.drop 16).take 16))),(2,.sl gn on 7 cB),(3,.sl y 0 0 0)]) (cells:=#[.str (aF ((zs.drop 0).take 16)),.str (aF ((zs.drop 16).take 16)),.sl gn on 7 cB,.sl y 0 0 0,.ns,.b false]) Z (by kernel_rfl)) (dJ Z (eN cX 0 [.str (aF ((zs.drop 0).take 16)),.str (aF ((zs.drop 16).take 16)),.sl gn on 7 cB,.sl y 0 0 0,.ns,.b false] Z ex (fun eB cY=> ?_)))⟩⟩
      refine⟨trivial,fun _=>trivial,pn ?_⟩
      exact⟨_,_,_,_,Z,Z,Z,Z,Z,(cY.rowOf (i:=1) (cap:=0) (sz:=7) Z Z (by simp[maxLen])).re [0,1,2,4]⟩
    ·
     refine po Z (aN a8 dg (fun eC eD cZ b5=>⟨trivial,fun _=>trivial,qr Z (ec eA (args:= [.sl gh oh 16 ch]) Z (aa (by have h:=c6 _ ((hrh.keep0 b5.keep).take (m:=16) (by omega)) (c:=ch) (by omega) (by omega);rw[F]at h;exact h) ?_))⟩))
     rintro e eE ⟨rfl,b6⟩
     have b7:=b5.cal0 b6
     refine⟨_,Z,⟨trivial,fun _=>trivial,qr Z (ec eA (args:= [.sl gh (oh+16) 16 (ch- 16)]) Z (aa (by have h:=c6 _ (((hrh.keep0 b7.keep).drop_ 16).take (m:=16) (by omega)) (c:=ch- 16) (by omega) (by omega);rw[n]at h;exact h) ?_))⟩⟩
     rintro e de ⟨rfl,b8⟩
     have b9:=b7.cal0 b8
     refine⟨_,Z,⟨trivial,fun _=>trivial,qy Z (yb (ps:= [(0,.str (aF ((zs.drop 0).take 16))),(1,.str (aF ((zs.drop 16).take 16))),(2,.sl gn on 7 cB),(3,.sl y 0 0 0)]) (cells:=#[.str (aF ((zs.drop 0).take 16)),.str (aF ((zs.drop 16).take 16)),.sl gn on 7 cB,.sl y 0 0 0,.ns,.b false]) Z (by kernel_rfl)) (dJ Z (eN b9 0 [.str (aF ((zs.drop 0).take 16)),.str (aF ((zs.drop 16).take 16)),.sl gn on 7 cB,.sl y 0 0 0,.ns,.b false] Z ex (fun df bB=> ?_)))⟩⟩
     refine⟨trivial,fun _=>trivial,pn ?_⟩
     exact⟨_,_,_,_,Z,Z,Z,Z,Z,(bB.rowOf (i:=1) (cap:=0) (sz:=7) Z Z (by simp[maxLen])).re [0,1,2,4]⟩
   ·
    refine po Z (aN U dg (fun dh di ci G=>⟨trivial,fun _=>trivial,?_⟩))
    refine⟨?_,?_⟩
    ·
     refine po Z (ec eA (args:= [.sl gh oh 16 ch]) Z (aa (by have h:=c6 _ ((hrh.keep0 G.keep).take (m:=16) (by omega)) (c:=ch) (by omega) (by omega);rw[F]at h;exact h) ?_))
     rintro e dj ⟨rfl,aE⟩
     have H:=G.cal0 aE
     refine⟨_,Z,⟨trivial,fun _=>trivial,?_⟩⟩
     refine⟨?_,?_⟩
     ·
      refine po Z (ec eA (args:= [.sl gh (oh+16) 16 (ch- 16)]) Z (aa (by have h:=c6 _ (((hrh.keep0 H.keep).drop_ 16).take (m:=16) (by omega)) (c:=ch- 16) (by omega) (by omega);rw[n]at h;exact h) ?_))
      rintro e dk ⟨rfl,aG⟩
      have bC:=H.cal0 aG
      refine⟨_,Z,⟨trivial,fun _=>trivial,qr Z (eb bC 67 [] Z (by kernel_rfl) (fun I dl cl bD=>⟨trivial,fun _=>trivial,qy Z (yb (ps:= [(0,.str (aF ((zs.drop 0).take 16))),(1,.str (aF ((zs.drop 16).take 16))),(2,.sl gn on 7 cB),(3,.sl I 0 0 0)]) (cells:=#[.str (aF ((zs.drop 0).take 16)),.str (aF ((zs.drop 16).take 16)),.sl gn on 7 cB,.sl I 0 0 0,.ns,.b false]) Z (by kernel_rfl)) (dJ Z (eN bD 1 [.str (aF ((zs.drop 0).take 16)),.str (aF ((zs.drop 16).take 16)),.sl gn on 7 cB,.sl I 0 0 0,.ns,.b false] Z ex (fun dn bH=> ?_)))⟩))⟩⟩
      refine⟨trivial,fun _=>trivial,pn ?_⟩
      exact⟨_,_,_,_,Z,Z,Z,Z,Z,(bH.rowOf (i:=0) (cap:=0) (sz:=7) Z Z (by simp[maxLen])).re [1,0,2,4]⟩
     ·
      refine po Z (eb H 67 [] Z (by kernel_rfl) (fun J dp cm Y=>⟨trivial,fun _=>trivial,qr Z (ec eA (args:= [.sl gh (oh+16) 16 (ch- 16)]) Z (aa (by have h:=c6 _ (((hrh.keep0 Y.keep).drop_ 16).take (m:=16) (by omega)) (c:=ch- 16) (by omega) (by omega);rw[n]at h;exact h) ?_))⟩))
      rintro e dq ⟨rfl,aI⟩
      have bI:=Y.cal0 aI
      refine⟨_,Z,⟨trivial,fun _=>trivial,qy Z (yb (ps:= [(0,.str (aF ((zs.drop 0).take 16))),(1,.str (aF ((zs.drop 16).take 16))),(2,.sl gn on 7 cB),(3,.sl J 0 0 0)]) (cells:=#[.str (aF ((zs.drop 0).take 16)),.str (aF ((zs.drop 16).take 16)),.sl gn on 7 cB,.sl J 0 0 0,.ns,.b false]) Z (by kernel_rfl)) (dJ Z (eN bI 1 [.str (aF ((zs.drop 0).take 16)),.str (aF ((zs.drop 16).take 16)),.sl gn on 7 cB,.sl J 0 0 0,.ns,.b false] Z ex (fun dr bJ=> ?_)))⟩⟩
      refine⟨trivial,fun _=>trivial,pn ?_⟩
      exact⟨_,_,_,_,Z,Z,Z,Z,Z,(bJ.rowOf (i:=0) (cap:=0) (sz:=7) Z Z (by simp[maxLen])).re [1,0,2,4]⟩
    ·
     refine po Z (eb G 67 [] Z (by kernel_rfl) (fun L ds cn af=>⟨trivial,fun _=>trivial,qr Z (ec eA (args:= [.sl gh oh 16 ch]) Z (aa (by have h:=c6 _ ((hrh.keep0 af.keep).take (m:=16) (by omega)) (c:=ch) (by omega) (by omega);rw[F]at h;exact h) ?_))⟩))
     rintro e du ⟨rfl,aJ⟩
     have ah:=af.cal0 aJ
     refine⟨_,Z,⟨trivial,fun _=>trivial,qr Z (ec eA (args:= [.sl gh (oh+16) 16 (ch- 16)]) Z (aa (by have h:=c6 _ (((hrh.keep0 ah.keep).drop_ 16).take (m:=16) (by omega)) (c:=ch- 16) (by omega) (by omega);rw[n]at h;exact h) ?_))⟩⟩
     rintro e dv ⟨rfl,aL⟩
     have bM:=ah.cal0 aL
     refine⟨_,Z,⟨trivial,fun _=>trivial,qy Z (yb (ps:= [(0,.str (aF ((zs.drop 0).take 16))),(1,.str (aF ((zs.drop 16).take 16))),(2,.sl gn on 7 cB),(3,.sl L 0 0 0)]) (cells:=#[.str (aF ((zs.drop 0).take 16)),.str (aF ((zs.drop 16).take 16)),.sl gn on 7 cB,.sl L 0 0 0,.ns,.b false]) Z (by kernel_rfl)) (dJ Z (eN bM 1 [.str (aF ((zs.drop 0).take 16)),.str (aF ((zs.drop 16).take 16)),.sl gn on 7 cB,.sl L 0 0 0,.ns,.b false] Z ex (fun dw bN=> ?_)))⟩⟩
     refine⟨trivial,fun _=>trivial,pn ?_⟩
     exact⟨_,_,_,_,Z,Z,Z,Z,Z,(bN.rowOf (i:=0) (cap:=0) (sz:=7) Z Z (by simp[maxLen])).re [1,0,2,4]⟩
  ·
   rintro eF w2 ⟨g8,gp,Av,cv,g0,g1,f,t,d,H2⟩
   refine ad ?_
   have z:=H2.drew
   refine aU MX (fun w'=>w'.cell? ⟨gn,on+2,none⟩=some (.q (↑z2))∧w'.cell? ⟨gn,on+1,none⟩=some (.q (↑z1))) (tr 0 8 Pl.done) (by kernel_rfl) (⟨show World.cell? _ _=some (.q (↑z2))from(hDn _ (z.g 2 Z)).cellAt 2 (by omega),show World.cell? _ _=some (.q (↑z1))from(hDn _ (z.g 2 Z)).cellAt 1 (by omega)⟩) (qm (.sl gn on 9 cB) Z t (qy Z (aK (a:=⟨gn,on,none⟩) (i:=2) bL Z Z (by omega) (by omega)) (qh Z (fun hS=>ag aP Z hS.1) (qm (.sl gn on 9 cB) Z t (qy Z (aK (a:=⟨gn,on,none⟩) (i:=1) bL Z Z (by omega) (by omega)) (qh Z (fun hS=>ag aP Z hS.2) (qa (.q (↑z2)) Z Z (qa (.q (↑z1)) Z Z (pn ?_)))))))))
   refine eh (fun ρ w'=> ∃(g8 gp:Nat) (Av:Option Addr) (cv:Nat) (okb:Bool) (vd:Value),okb=decide (z1=0∨z2+z1≤N)∧(∀w,RI .u8 w (some ⟨gb,ob,none⟩) N xs → SlI' .u8 w vd (if(z1=0∨z2+z1≤N)then(xs.drop z2).take z1 else[]))∧ρ 0= .sl gb ob N C∧ρ 1= .b big∧ρ 8= .pt g8∧ρ 10= .sl gn on 9 cB∧ρ 12= .pt gp∧St w aR [an gp [.str (aF ((zs.drop 0).take 16)),.str (aF ((zs.drop 16).take 16)),.sl gn on 7 cB,.s Av 0 cv,vd,.b (!okb)] 72,ay 67 7 (.s Av 0 cv) 0 ([]),Dn,an g8 [.string (⟨#[]⟩),.string (⟨#[]⟩),.ns,.ns,.ns,.b false] 72] w') ?_ ?_
   ·
    refine ad ?_
    by_cases hF:(z1=0∨z2+z1≤N)
    ·
     obtain⟨m0,eG⟩: ∃m,m=min z2 N:=⟨_,rfl⟩
     obtain⟨m1,eH⟩: ∃m,m=min (z2+z1) N:=⟨_,rfl⟩
     refine ae (mu (↑z1) Z (mg g0 Z (wv Z (aO bU Z) (wv Z (ao ej be Z (aC (by omega) (by omega))) (wv Z (i8 Z Z (decide_eq_true (by omega))) (mv (.b true) Z (aX Z Z (am (v:= .sl gb ob N C) g0) (aX Z Z (am (v:= .q (↑z2)) Z) (aX Z Z (am (v:= .q (↑z1)) Z) (wJ Z Z (ec iN (args:= [.sl gb ob N C,.q (↑z2),.q (↑z1)]) Z ?_)))))))))))
     refine aa (dU _ (by omega) (by omega) hF) ?_
     rintro e dx ⟨rfl,aM⟩
     have bO:=z.cal0 aM
     refine⟨_,Z,wv Z (aD (b:=true) (v:= .b true) Z Z) (wn (aB Z (ae (mg g0 Z (mu (↑z2) Z (mg g0 Z (wv Z (aO bU Z) (wv Z (ao ej be Z (aC (by omega) (by omega))) (wv Z (i7 (c:= ↑m0) Z Z (by split<;>omega)) (mu (↑z2) Z ?_))))))))))⟩
     refine mu (↑z1) Z (wv Z (aH (k:= .u64) (c:= ↑(z2+z1)) Z Z (by rw[aC (by omega) (by omega)];omega)) (mg g0 Z (wv Z (aO bU Z) (wv Z (ao ej be Z (aC (by omega) (by omega))) (wv Z (i7 (c:= ↑m1) Z Z (by split<;>omega)) (wv Z ((show Yv _ _ _ _ (.s (dC (some ⟨gb,ob,none⟩) C m0 1) (m1- m0) (C- m0)) _ from eo (l:=m0) (h:=m1) aZ Z (bh Z (by omega) (Int.toNat_natCast _)) (bh Z (by omega) (Int.toNat_natCast _)) (by omega) (by omega))) (wv Z (ab th d) (ws (es bO 0 4 (.s (dC (some ⟨gb,ob,none⟩) C m0 1) (m1- m0) (C- m0)) Z fe (fun dy bP=> ?_))))))))))
     refine wn ?_
     have hv: ∀w,RI .u8 w (some ⟨gb,ob,none⟩) N xs → SlI' .u8 w (.s (dC (some ⟨gb,ob,none⟩) C m0 1) (m1- m0) (C- m0)) (if(z1=0∨z2+z1≤N)then(xs.drop z2).take z1 else[]):=fun w hr=>⟨_,_,_,rfl,by
      rw[if_pos hF];have h:=hr.cut (c:=C) (l:=m0) (m:=m1) (by omega) (by omega) hNC
      rcases hF with h0|h0
      · have e0:m1- m0=0:=by omega
        rw[h0,List.take_zero];rw[e0,List.take_zero]at h;rw[e0];exact h
      · have e1:m0=z2:=by omega
        have e2:m1=z2+z1:=by omega
        subst e1;subst e2;rw[Nat.add_sub_cancel_left]at h ⊢;exact h⟩
     exact⟨_,_,_,_,true,_,(decide_eq_true hF).symm,hv,g0,g1,f,t,d,bP.re [0,1,2,3]⟩
    ·
     by_cases hF2:z1≤N
     ·
      refine ae (mu (↑z1) Z (mg g0 Z (wv Z (aO bU Z) (wv Z (ao ej be Z (aC (by omega) (by omega))) (wv Z (i8 Z Z (decide_eq_true (by omega))) (mv (.b true) Z (aX Z Z (am (v:= .sl gb ob N C) g0) (aX Z Z (am (v:= .q (↑z2)) Z) (aX Z Z (am (v:= .q (↑z1)) Z) (wJ Z Z (ec iN (args:= [.sl gb ob N C,.q (↑z2),.q (↑z1)]) Z ?_)))))))))))
      refine aa (eg _ (by omega) (by omega) hF) ?_
      rintro e dz ⟨rfl,aV⟩
      have bQ:=z.cal0 aV
      refine⟨_,Z,wv Z (aD (b:=true) (v:= .b false) Z Z) (wn (al Z (ae (wv Z (ab o8 d) (ws (es bQ 0 5 (.b true) Z dc (fun d0 bV=> ?_)))))))⟩
      refine wn ?_
      have hv: ∀w,RI .u8 w (some ⟨gb,ob,none⟩) N xs → SlI' .u8 w (.ns) (if(z1=0∨z2+z1≤N)then(xs.drop z2).take z1 else[]):=fun w hr=>⟨_,_,_,rfl,by rw[if_neg hF];exact RI.nil _ _ _⟩
      exact⟨_,_,_,_,false,_,(decide_eq_false hF).symm,hv,g0,g1,f,t,d,bV.re [0,1,2,3]⟩
     ·
      refine ae (mu (↑z1) Z (mg g0 Z (wv Z (aO bU Z) (wv Z (ao ej be Z (aC (by omega) (by omega))) (wv Z (i8 Z Z (decide_eq_false (by omega))) (mv (.b false) Z (ck Z Z (ck Z Z (ck Z Z (ck Z Z (wv Z (aD (b:=false) (v:= .b false) Z Z) ?_)))))))))))
      refine wn (al Z (ae (wv Z (ab o8 d) (ws (es z 0 5 (.b true) Z dc (fun d1 bW=> ?_))))))
      refine wn ?_
      have hv: ∀w,RI .u8 w (some ⟨gb,ob,none⟩) N xs → SlI' .u8 w (.ns) (if(z1=0∨z2+z1≤N)then(xs.drop z2).take z1 else[]):=fun w hr=>⟨_,_,_,rfl,by rw[if_neg hF];exact RI.nil _ _ _⟩
      exact⟨_,_,_,_,false,_,(decide_eq_false hF).symm,hv,g0,g1,f,t,d,bW.re [0,1,2,3]⟩
   ·
    rintro eI w3 ⟨g8,gp,Av,cv,okb,vd,hokb,hvd,g0,g1,f,t,d,H3⟩
    obtain⟨_,_,_,evd,_⟩:=hvd w hr
    refine ad ?_
    have u:=H3.drew
    refine aU MX (fun w'=>w'.cell? ⟨gn,on+4,none⟩=some (.q (↑z3))∧w'.cell? ⟨gn,on+5,none⟩=some (.q (↑z4))) (tr 0 8 Pl.done) (by kernel_rfl) (⟨show World.cell? _ _=some (.q (↑z3))from(hDn _ (u.g 2 Z)).cellAt 4 (by omega),show World.cell? _ _=some (.q (↑z4))from(hDn _ (u.g 2 Z)).cellAt 5 (by omega)⟩) (qm (.sl gn on 9 cB) Z t (qy Z (aK (a:=⟨gn,on,none⟩) (i:=4) bL Z Z (by omega) (by omega)) (qh Z (fun hS=>ag aP Z hS.1) (qm (.sl gn on 9 cB) Z t (qy Z (aK (a:=⟨gn,on,none⟩) (i:=5) bL Z Z (by omega) (by omega)) (qh Z (fun hS=>ag aP Z hS.2) (qa (.q (↑z3)) Z Z (qa (.q (↑z4)) Z Z (pn (ad (ad ?_)))))))))))
    by_cases hz0:z4=0
    ·
     refine ae (mu (↑z4) Z (wv Z (aT Z Z (beq_iff_eq.2 (by omega))) (wn (aB Z (sr (wv Z (u.loadA (i:=0) (vs:= [.str (aF ((zs.drop 0).take 16)),.str (aF ((zs.drop 16).take 16)),.sl gn on 7 cB,.s Av 0 cv,vd,.b (!okb)]) Z kU d Z Z) (ws (bE u 3 (vs:= [.str (aF ((zs.drop 0).take 16)),.str (aF ((zs.drop 16).take 16)),.sl gn on 7 cB,.s Av 0 cv,vd,.b (!okb)]) (m:=6) Z ex f Z Z (nl Z) (by simp[Value.oneCell',evd]) (cs':= [.str (aF ((zs.drop 0).take 16)),.str (aF ((zs.drop 16).take 16)),.sl gn on 7 cB,.s Av 0 cv,vd,.b (!okb)]) Z (fun d2 ai=> ?_)))))))))
     refine av (.b true) Z (wn (rq ?_))
     have hsr:et big xs (eP false big (hs.take 68))=some ({(⟨aF ((zs.drop 0).take 16),aF ((zs.drop 16).take 16),n4 big (zs.drop 32),z1,z2,n4 big (zs.drop 44),↑z3,↑z4,n4 big (zs.drop 56),[]⟩:SecD)with rels:= []}:SecD):=by rw[←hzs,T];unfold et;rw[if_pos (show(↑z4:Int).toNat=0 by omega)]
     subst hokb
     exact⟨.inr Z,_,fy Z kU (by exact f) (ai.g 3 Z) Z (by exact Z),.inl ⟨({(⟨aF ((zs.drop 0).take 16),aF ((zs.drop 16).take 16),n4 big (zs.drop 32),z1,z2,n4 big (zs.drop 44),↑z3,↑z4,n4 big (zs.drop 56),[]⟩:SecD)with rels:= []}:SecD),by omega,hsr,⟨SecD.part ({(⟨aF ((zs.drop 0).take 16),aF ((zs.drop 16).take 16),n4 big (zs.drop 32),z1,z2,n4 big (zs.drop 44),↑z3,↑z4,n4 big (zs.drop 56),[]⟩:SecD)with rels:= []}:SecD) N xs,_,_,vd⟩,Res.all [ay 67 7 (.s Av 0 cv) 0 ([]),Dn],Z,Z,ai.reAll [1,2] [],fun w hh hrw=>by have hh:=aS.1 hh;exact⟨⟨_,_,_,Z,(hDn w (hh Dn (by simp))).take (m:=7) (by omega)⟩,by obtain⟨A,c,e,hv,_⟩:=aw (hh (ay 67 7 (.s Av 0 cv) 0 ([])) (by simp));exact⟨A,_,c,e,hv⟩,hvd w hrw⟩⟩⟩
    ·
     refine ae (mu (↑z4) Z (wv Z (aT Z Z (beq_eq_false_iff_ne.2 (by omega))) (wn (al Z (wk (ad (ad ?_)))))))
     by_cases hG2:z3+z4*8≤N
     ·
      refine ae (mg g0 Z (mu (↑z3) Z (mu (↑z4) Z (wv Z (cM (k:= .u64) (c:= ↑(8*z4)) Z Z (by rw[aC (by omega) (by omega)];omega)) (wE [.sl gb ob N C,.q (↑z3),.q (↑(8*z4))] iN Z Z (aa (dU _ (by omega) (by omega) (by omega)) ?_))))))
      rintro e bX ⟨rfl,aW⟩
      have bY:=u.cal0 aW
      refine⟨_,Z,wv Z (bS Z) (wn (al Z (wk (ad (sr (mu (↑z4) Z (mu 0 Z (wn (a6 ?_)))))))))⟩
      have da:St w aR [ay 67 7 (.s Av 0 cv) 0 (((bT big z4 ((xs.drop z3).take (z4*8))).take 0).flatMap Rel.cells),an gp [.str (aF ((zs.drop 0).take 16)),.str (aF ((zs.drop 16).take 16)),.sl gn on 7 cB,.s Av 0 cv,vd,.b (!okb)] 72,Dn,an g8 [.string (⟨#[]⟩),.string (⟨#[]⟩),.ns,.ns,.ns,.b false] 72] bX:=bY.re [1,0,2,3]
      refine bA (fun ρ w'=> ∃j:Nat,∃Aj:Option Addr,∃cj:Nat,ρ 0= .sl gb ob N C∧ρ 1= .b big∧ρ 8= .pt g8∧ρ 10= .sl gn on 9 cB∧ρ 12= .pt gp∧ρ 15= .q ↑z3∧ρ 89= .q ↑z4∧ρ 90= .q ↑j∧j≤z4∧St w aR [ay 67 7 (.s Aj j cj) j (((bT big z4 ((xs.drop z3).take (z4*8))).take j).flatMap Rel.cells),an gp [.str (aF ((zs.drop 0).take 16)),.str (aF ((zs.drop 16).take 16)),.sl gn on 7 cB,.s Aj j cj,vd,.b (!okb)] 72,Dn,an g8 [.string (⟨#[]⟩),.string (⟨#[]⟩),.ns,.ns,.ns,.b false] 72] w') (fun ρ _=>z4+1- nv (ρ 90)) (⟨0,_,_,g0,g1,f,t,d,Z,Z,Z,by omega,da⟩) ?_
      rintro ρ w4 ⟨j,Aj,cj,g0,g1,f,t,d,bZ,cb,W,hj,H4⟩
      refine sr (wv Z (bR W cb) (wn (ad ?_)))
      refine bK Z (fun B=> ?_) (fun B=> ?_)
      ·
       simp only[bx]at B
       refine wk (ad (a6 (sr (mg W Z (au (↑j) Z (wn (sr (mg g0 Z (mg bZ Z (mu (↑j) Z (wv Z (cM (k:= .u64) (c:= ↑(8*j)) Z Z (by rw[aC (by omega) (by omega)];omega)) ?_)))))))))))
       refine wv Z (aH (k:= .u64) (c:= ↑(z3+(8*j))) Z Z (by rw[aC (by omega) (by omega)];omega)) (wv Z ((aq (l:=(z3+(8*j))) (h:=N) aZ Z (bs Z (by omega) (Int.toNat_natCast _)) bn (by omega) (by omega) (by omega) (by omega):Yv _ _ _ _ (.sl gb (ob+(z3+(8*j))) (N-(z3+(8*j))) (C-(z3+(8*j)))) _)) (eL gb (ob+(z3+(8*j))) (N-(z3+(8*j))) (C-(z3+(8*j))) Z (wn ?_)))
       have M:=H4.drew
       refine dt MX (fun w'=>w'.cell? ⟨gp,3,none⟩=some (.s Aj j cj)) (fun w'=>True) 16 (Pl.take 0 (Pl.takeS 1 (tr 2 3 (tr 7 3 (Pl.run 5 (Pl.take 6 (Pl.run 10 (Pl.take 11 (Pl.run 12 (Pl.run 13 (Pl.run 14 (Pl.take 15 (Pl.run 16 Pl.done))))))))))))) (by kernel_rfl) Z (M.c 1 3 Z Z) (trivial) (qy Z (ab (o:=0) lX d) (qs Z Z (fun _ hS=>ag pM Z hS) (qm (.b big) Z g1 (qm (.b big) Z g1 (qm (.sl gb (ob+(z3+(8*j))) (N-(z3+(8*j))) (C-(z3+(8*j)))) Z Z (qm (.b big) Z g1 (qm (.sl gb (ob+(z3+(8*j))) (N-(z3+(8*j))) (C-(z3+(8*j)))) Z Z (qt Z (fun _ hS=>(aq (l:=4) (h:=N-(z3+(8*j))) aZ Z (bs Z (by omega) Z) bn (by omega) (by omega) (by omega) (by omega):Yv _ _ _ _ (.sl gb (ob+(z3+(8*j))+4) (N-(z3+(8*j))- 4) (C-(z3+(8*j))- 4)) _)) (qr Z (ec mm (args:= [.b big,.i 4,.sl gb (ob+(z3+(8*j))) (N-(z3+(8*j))) (C-(z3+(8*j)))]) Z (aa (by have h:=ez big (wd:=4) _ (RI.drop_ (hr.keep0 M.keep) (z3+(8*j))) (c:=C-(z3+(8*j))) (hby.drop _) (by omega) (by omega);rw[jA]at h;exact h) ?_)))))))))))
       rintro e d3 ⟨rfl,bb⟩
       have O:=M.cal0 bb
       refine⟨_,Z,⟨trivial,fun _=>O.c 1 3 Z Z,qy Z (ao (c:=n4 big (xs.drop (z3+(8*j)))) db jR Z (dm (ba big (hby.drop _)).1 (by have:=(ba big (hby.drop ((z3+(8*j))))).2;omega))) (qr Z (ec mm (args:= [.b big,.i 4,.sl gb (ob+(z3+(8*j))+4) (N-(z3+(8*j))- 4) (C-(z3+(8*j))- 4)]) Z (aa (by have h:=ez big (wd:=4) _ (RI.drop_ (hr.keep0 O.keep) ((z3+(8*j))+4)) (c:=C-(z3+(8*j))- 4) (hby.drop _) (by omega) (by omega);rw[jA]at h;exact h) ?_)))⟩⟩
       rintro e cc ⟨rfl,bc⟩
       have aj:=O.cal0 bc
       refine⟨_,Z,⟨trivial,fun _=>aj.c 1 3 Z Z,qy Z (ao (c:=n4 big (xs.drop ((z3+(8*j))+4))) db jR Z (dm (ba big (hby.drop _)).1 (by have:=(ba big (hby.drop (((z3+(8*j))+4)))).2;omega))) (qr Z (ec BS (args:= [.b big,.w (n4 big (xs.drop (z3+(8*j)))),.w (n4 big (xs.drop ((z3+(8*j))+4)))]) Z ?_))⟩⟩
       obtain⟨rr,hrr⟩: ∃r,r=hJ big (n4 big (xs.drop (z3+(8*j)))) (n4 big (xs.drop ((z3+(8*j))+4))):=⟨_,rfl⟩
       refine aa (by have h:=ma big (a:=n4 big (xs.drop (z3+(8*j)))) (b:=n4 big (xs.drop ((z3+(8*j))+4))) (cc) (ba big (hby.drop _)).1 (ba big (hby.drop _)).2 (ba big (hby.drop _)).1 (ba big (hby.drop _)).2;rw[←hrr]at h;exact h) ?_
       rintro e d4 ⟨rfl,bd⟩
       have ap:=aj.cal0 bd
       refine⟨_,Z,⟨trivial,fun _=>ap.c 1 3 Z Z,qr Z (kt ap (ps:= [(0,.agg #[.w rr.addr,.w rr.value,.e rr.type,.e rr.len,.b rr.pcrel,.b rr.extern,.b rr.scattered])]) (e:=67) (cs:= [.w rr.addr,.w rr.value,.e rr.type,.e rr.len,.b rr.pcrel,.b rr.extern,.b rr.scattered]) Z (by kernel_rfl) (fun d5 d6 co P=>⟨trivial,fun _=>P.c 2 3 Z Z,qr Z (bG P 1 (m:=1) (news:= [.w rr.addr,.w rr.value,.e rr.type,.e rr.len,.b rr.pcrel,.b rr.extern,.b rr.scattered]) Z AX BK Z (by decide) Z Z Z (P.news (i:=0) Z) (by simp[Value.oneCell',evd]) (by simp only[maxLen];omega) (by omega) (fun d8 d9 Q=> ?_))⟩))⟩⟩
       obtain⟨cd,ce,rfl,_,_⟩:=aw (Q.g 1 rfl)
       refine⟨trivial,fun _=>Q.c 2 3 Z Z,qy Z (ab (o:=0) lX d) (dJ Z (es Q 2 3 (.s cd (j+1) ce) Z pM (fun dA ax=> ?_)))⟩
       refine⟨trivial,fun h=>absurd h (by decide),ca (ak (ac (ae (wv Z (aH (k:= .u64) (c:= ↑j+1) W Z (aC (by omega) (by omega))) (mu (↑j+1) Z (wn ?_))))))⟩
       have hd:=mz (big:=big) (xs:=xs) (z3:=z3) (show j<z4 by omega)
       rw[←hrr]at hd
       have hcur:((bT big z4 ((xs.drop z3).take (z4*8))).take j).flatMap Rel.cells++ [.w rr.addr,.w rr.value,.e rr.type,.e rr.len,.b rr.pcrel,.b rr.extern,.b rr.scattered]=((bT big z4 ((xs.drop z3).take (z4*8))).take (j+1)).flatMap Rel.cells:=by rw[dV hd];rfl
       rw[hcur]at ax
       exact⟨⟨j+1,_,_,g0,g1,f,t,d,bZ,cb,Z,by omega,ax.re [1,2,3,4]⟩,by show z4+1- nv (.q (↑j+1))<z4+1- nv (ρ 90);rw[W];simp only[nv];omega⟩
      ·
       simp only[bx]at B
       refine bq (ar (ar (aQ (ac (sr (wv Z (H4.loadA (i:=1) (vs:= [.str (aF ((zs.drop 0).take 16)),.str (aF ((zs.drop 16).take 16)),.sl gn on 7 cB,.s Aj j cj,vd,.b (!okb)]) Z kU d Z Z) (ws (bE H4 3 (vs:= [.str (aF ((zs.drop 0).take 16)),.str (aF ((zs.drop 16).take 16)),.sl gn on 7 cB,.s Aj j cj,vd,.b (!okb)]) (m:=6) Z ex f Z Z (nl Z) (by simp[Value.oneCell',evd]) (cs':= [.str (aF ((zs.drop 0).take 16)),.str (aF ((zs.drop 16).take 16)),.sl gn on 7 cB,.s Aj j cj,vd,.b (!okb)]) Z (fun dB R=> ?_)))))))))
       refine av (.b true) Z (wn (aY ?_))
       have hsr:et big xs (eP false big (hs.take 68))=some ({(⟨aF ((zs.drop 0).take 16),aF ((zs.drop 16).take 16),n4 big (zs.drop 32),z1,z2,n4 big (zs.drop 44),↑z3,↑z4,n4 big (zs.drop 56),[]⟩:SecD)with rels:=bT big z4 ((xs.drop z3).take (z4*8))}:SecD):=by rw[←hzs,T];unfold et;rw[if_neg (show ¬(↑z4:Int).toNat=0 by omega),if_pos (show(↑z3:Int).toNat+(↑z4:Int).toNat*8≤xs.length by rw[hr.1];omega)];simp only[Int.toNat_natCast]
       have hjz:j=z4:=by omega
       rw[List.take_of_length_le (by rw[f7];omega)]at R
       subst hokb
       exact⟨.inr Z,_,fy Z kU (by exact f) (R.g 3 Z) Z (by exact Z),.inl ⟨({(⟨aF ((zs.drop 0).take 16),aF ((zs.drop 16).take 16),n4 big (zs.drop 32),z1,z2,n4 big (zs.drop 44),↑z3,↑z4,n4 big (zs.drop 56),[]⟩:SecD)with rels:=bT big z4 ((xs.drop z3).take (z4*8))}:SecD),by omega,hsr,⟨SecD.part ({(⟨aF ((zs.drop 0).take 16),aF ((zs.drop 16).take 16),n4 big (zs.drop 32),z1,z2,n4 big (zs.drop 44),↑z3,↑z4,n4 big (zs.drop 56),[]⟩:SecD)with rels:=bT big z4 ((xs.drop z3).take (z4*8))}:SecD) N xs,_,_,vd⟩,Res.all [ay 67 7 (.s Aj j cj) j ((bT big z4 ((xs.drop z3).take (z4*8))).flatMap Rel.cells),Dn],Z,Z,R.reAll [0,2] [],fun w hh hrw=>by have hh:=aS.1 hh;exact⟨⟨_,_,_,Z,(hDn w (hh Dn (by simp))).take (m:=7) (by omega)⟩,by obtain⟨A,c,e,hv,_⟩:=aw (hh (ay 67 7 (.s Aj j cj) j ((bT big z4 ((xs.drop z3).take (z4*8))).flatMap Rel.cells)) (by simp));exact⟨A,_,c,e,hv⟩,hvd w hrw⟩⟩⟩
     ·
      refine ae (mg g0 Z (mu (↑z3) Z (mu (↑z4) Z (wv Z (cM (k:= .u64) (c:= ↑(8*z4)) Z Z (by rw[aC (by omega) (by omega)];omega)) (wE [.sl gb ob N C,.q (↑z3),.q (↑(8*z4))] iN Z Z (aa (eg _ (by omega) (by omega) (by omega)) ?_))))))
      rintro e dD ⟨rfl,bf⟩
      have cf:=u.cal0 bf
      refine⟨_,Z,wv Z (bS Z) (wn (aB Z (sr (wv Z (yb (ps:= []) (cells:=#[.string (⟨#[]⟩),.string (⟨#[]⟩),.ns,.ns,.ns,.b false]) Z (by kernel_rfl)) (ws (bE cf 3 (vs:= [.string (⟨#[]⟩),.string (⟨#[]⟩),.ns,.ns,.ns,.b false]) (m:=6) Z ex f Z Z (nl Z) (by simp[Value.oneCell',evd]) (cs':= [.string (⟨#[]⟩),.string (⟨#[]⟩),.ns,.ns,.ns,.b false]) Z (fun dE az=> ?_)))))))⟩
      refine av (.b false) Z (wn (rq ?_))
      exact⟨.inr Z,_,fy Z kU (by exact f) (az.g 3 Z) Z (by exact Z),.inr ⟨.inr (by rw[←hzs,T];unfold et;rw[if_neg (show ¬(↑z4:Int).toNat=0 by omega),if_neg (show ¬(↑z3:Int).toNat+(↑z4:Int).toNat*8≤xs.length by rw[hr.1];omega)]),Z,az.sub (List.nil_sublist _)⟩⟩
 ·
  refine ae (mv (.b big) Z (mv (.b false) Z (wE [.b false] mB Z Z (aa (eJ _) ?_))))
  rintro e dF ⟨AW,nW,cW,DW,rfl,hcW,bg,hDW⟩
  have S:=H3.cal0 bg
  refine⟨_,Z,mv (.s Ah nh ch) Z (wE [.b big,.s AW nW cW,.s Ah nh ch] jt Z Z (aa (eK (ws:=fU false) (bs:=hs) big _ (hDW _ (S.g 0 Z)) (iU _) (hrh.keep0 S.keep) hch (by omega) hbh (by decide) (show nh<68 by omega)) ?_))⟩
  rintro e dG ⟨rfl,bi⟩
  have cg:=S.cal0 bi
  refine⟨_,Z,mv (.tuple #[.ns,.b false]) Z (we (.ns) Z Z (we (.b false) Z Z (av (.ns) Z (av (.b false) Z (wn (ad (sr (mv (.b false) Z (wv Z (bS Z) (wn ?_))))))))))⟩
  refine aB Z (sr (wv Z (yb (ps:= []) (cells:=#[.string (⟨#[]⟩),.string (⟨#[]⟩),.ns,.ns,.ns,.b false]) Z (by kernel_rfl)) (ws (eN cg 1 [.string (⟨#[]⟩),.string (⟨#[]⟩),.ns,.ns,.ns,.b false] Z ex (fun dH a0=> ?_)))))
  refine av (.b false) Z (wn (rq ?_))
  exact⟨.inr Z,_,fy Z kU (by exact Z) (a0.g 1 Z) Z (by exact Z),.inr ⟨.inl (by omega),Z,a0.sub (List.nil_sublist _)⟩⟩
theorem r6{gb ob N C nh ch:Nat}{Ah:Option Addr}{xs hs:List Int}(big:Bool)(w:World)(hr:RI .u8 w (some ⟨gb,ob,none⟩) N xs)(hby:Byt xs)(hNC:N≤C)(hN:N<10485760)(hrh:RI .u8 w Ah nh hs)(hbh:Byt hs)(hch:nh≤ch)(hnh:nh<10485760):
 Calls Tryd.prog 40 #[.sl gb ob N C,.b big,.b true,.s Ah nh ch] w fun e w'=>(∃s3:SecD,80≤nh∧et big xs (eP true big (hs.take 80))=some s3∧∃(x:PartV) (D:Res),x.p=s3.part N xs∧e= .returned (.tuple #[.agg (List.toArray x.cellsM),.b true])∧St w aR [D] w'∧∀w,D.φ w → RI .u8 w (some ⟨gb,ob,none⟩) N xs → x.ok w)∨((nh<80∨et big xs (eP true big (hs.take 80))=none)∧e= .returned (.tuple #[.agg (List.toArray [.string (⟨#[]⟩),.string (⟨#[]⟩),.ns,.ns,.ns,.b false]),.b false])∧St w aR [] w'):=by
 refine aA (args:= [.sl gb ob N C,.b big,.b true,.s Ah nh ch]) Tryd.func40 Z Z Z ?_
 have H0:=St.nil w aR
 refine sr (wm Z (aN H0 dg (fun g1 w2 dd H3=>av (.b false) Z (wn (ad ?_)))))
 by_cases hfit:80≤nh
 ·
  obtain⟨gh,oh,rfl,_⟩:=hrh.2 (by omega)
  obtain⟨zs,hzs⟩: ∃q,q=hs.take 80:=⟨_,rfl⟩
  have hbzs:Byt zs:=by rw[hzs];exact hbh.take _
  obtain⟨z1,bj⟩: ∃q:Nat,(q:Int)=n8 big (zs.drop 40):=⟨(n8 big (zs.drop 40)).toNat,Int.toNat_of_nonneg (nJ big (hbzs.drop _)).1⟩
  have cp:(z1:Int)<18446744073709551616:=by rw[bj];exact(nJ big (hbzs.drop _)).2
  obtain⟨z2,bk⟩: ∃q:Nat,(q:Int)=n4 big (zs.drop 48):=⟨(n4 big (zs.drop 48)).toNat,Int.toNat_of_nonneg (ba big (hbzs.drop _)).1⟩
  have cq:(z2:Int)<4294967296:=by rw[bk];exact(ba big (hbzs.drop _)).2
  obtain⟨z3,bl⟩: ∃q:Nat,(q:Int)=n4 big (zs.drop 56):=⟨(n4 big (zs.drop 56)).toNat,Int.toNat_of_nonneg (ba big (hbzs.drop _)).1⟩
  have cr:(z3:Int)<4294967296:=by rw[bl];exact(ba big (hbzs.drop _)).2
  obtain⟨z4,bm⟩: ∃q:Nat,(q:Int)=n4 big (zs.drop 60):=⟨(n4 big (zs.drop 60)).toNat,Int.toNat_of_nonneg (ba big (hbzs.drop _)).1⟩
  have ct:(z4:Int)<4294967296:=by rw[bm];exact(ba big (hbzs.drop _)).2
  have T:eP true big zs=(⟨aF ((zs.drop 0).take 16),aF ((zs.drop 16).take 16),n8 big (zs.drop 32),z1,z2,n4 big (zs.drop 52),↑z3,↑z4,n4 big (zs.drop 64),[]⟩:SecD):=by simp only[eP,←bj,←bk,←bl,←bm,Int.toNat_natCast,if_true,if_false,Bool.false_eq_true]
  have hNL:=pB hbh (show zs=hs.take (d7 true)from hzs) T
  have F:(hs.take 16)=(zs.drop 0).take 16:=by rw[hzs,mw (by omega)];rfl
  have n:(hs.drop 16).take 16=(zs.drop 16).take 16:=by rw[hzs,mw (by omega)]
  refine ae (mv (.b big) Z (mv (.b true) Z (wE [.b true] mB Z Z (aa (fg _) ?_))))
  rintro e w5 ⟨AW,nW,cW,DW,rfl,hcW,cu,hDW⟩
  have H6:=H3.cal0 cu
  refine⟨_,Z,ms gh oh nh ch Z (wE [.b big,.s AW nW cW,.sl gh oh nh ch] jt Z Z (aa (dW (ws:=fU true) (bs:=hs) big _ (hDW _ (H6.g 0 Z)) (iU _) (hrh.keep0 H6.keep) hch (by omega) hbh (by decide) (K:=10) (show 80≤nh from hfit) (pA true big hs) (by omega)) ?_))⟩
  rintro e w8 ⟨gn,on,cB,Dn,rfl,hcB,cw,X⟩
  rw[hNL]at X
  have H9:=H6.cal0 cw
  have hDn: ∀w,Dn.φ w → RI .u64 w (some ⟨gn,on,none⟩) 10 ([n8 big (zs.drop 32),↑z1,↑z2,n4 big (zs.drop 52),↑z3,↑z4,n4 big (zs.drop 64)]++(bF big (fU true) hs).drop 7):=X
  refine⟨_,Z,mv (.tuple #[.sl gn on 10 cB,.b true]) Z (we (.sl gn on 10 cB) Z Z (we (.b true) Z Z (eL gn on 10 cB Z (av (.b true) Z (wn (ad (sr (mv (.b true) Z (wv Z (bS Z) (wn ?_))))))))))⟩
  refine al Z (wk ?_)
  refine eh (fun ρ w'=> ∃(g8 gp:Nat) (Av:Option Addr) (cv:Nat),ρ 0= .sl gb ob N C∧ρ 1= .b big∧ρ 8= .pt g8∧ρ 10= .sl gn on 10 cB∧ρ 12= .pt gp∧St w aR [an gp [.str (aF ((zs.drop 0).take 16)),.str (aF ((zs.drop 16).take 16)),.sl gn on 7 cB,.s Av 0 cv,.ns,.b false] 72,ay 67 7 (.s Av 0 cv) 0 ([]),Dn,an g8 [.string (⟨#[]⟩),.string (⟨#[]⟩),.ns,.ns,.ns,.b false] 72] w') ?_ ?_
  ·
   have U:=H9.drew
   refine aU MX (fun w'=>True) (Pl.take 0 (Pl.take 1 (Pl.take 3 (Pl.take 4 (Pl.take 6 (Pl.take 7 (Pl.run3 2 (Pl.run3 5 (Pl.run2 8 (Pl.take 9 (Pl.run 10 (Pl.run 11 Pl.done))) 10 (Pl.run 8 (Pl.take 9 (Pl.run 11 Pl.done)))) 8 (Pl.run2 5 (Pl.take 9 (Pl.run 10 (Pl.run 11 Pl.done))) 10 (Pl.run 5 (Pl.take 9 (Pl.run 11 Pl.done)))) 10 (Pl.run2 5 (Pl.run 8 (Pl.take 9 (Pl.run 11 Pl.done))) 8 (Pl.run 5 (Pl.take 9 (Pl.run 11 Pl.done))))) 8 (Pl.run2 2 (Pl.run2 5 (Pl.take 9 (Pl.run 10 (Pl.run 11 Pl.done))) 10 (Pl.run 5 (Pl.take 9 (Pl.run 11 Pl.done)))) 10 (Pl.run 2 (Pl.run 5 (Pl.take 9 (Pl.run 11 Pl.done))))) 10 (Pl.run2 2 (Pl.run2 5 (Pl.run 8 (Pl.take 9 (Pl.run 11 Pl.done))) 8 (Pl.run 5 (Pl.take 9 (Pl.run 11 Pl.done)))) 8 (Pl.run 2 (Pl.run 5 (Pl.take 9 (Pl.run 11 Pl.done)))))))))))) (by kernel_rfl) (trivial) (qm (.sl gh oh nh ch) Z Z (qt Z (fun _ hS=>(aq (l:=0) (h:=16) aZ Z bn (bs Z (by omega) Z) (by omega) (by omega) (by omega) (by omega):Yv _ _ _ _ (.sl gh oh 16 ch) _)) (qm (.sl gh oh nh ch) Z Z (qt Z (fun _ hS=>(aq (l:=16) (h:=32) aZ Z (bs Z (by omega) Z) (bs Z (by omega) Z) (by omega) (by omega) (by omega) (by omega):Yv _ _ _ _ (.sl gh (oh+16) 16 (ch- 16)) _)) (qm (.sl gn on 10 cB) Z Z (qt Z (fun _ hS=>(aq (l:=0) (h:=7) bL Z bn (bs Z (by omega) Z) (by omega) (by omega) (by omega) (by omega):Yv _ _ _ _ (.sl gn on 7 cB) _)) ?_))))))
   refine⟨?_,?_,?_⟩
   ·
    refine po Z (ec eA (args:= [.sl gh oh 16 ch]) Z (aa (by have h:=c6 _ ((hrh.keep0 U.keep).take (m:=16) (by omega)) (c:=ch) (by omega) (by omega);rw[F]at h;exact h) ?_))
    rintro e dI ⟨rfl,bo⟩
    have V:=U.cal0 bo
    refine⟨_,Z,⟨trivial,fun _=>trivial,?_⟩⟩
    refine⟨?_,?_,?_⟩
    ·
     refine po Z (ec eA (args:= [.sl gh (oh+16) 16 (ch- 16)]) Z (aa (by have h:=c6 _ (((hrh.keep0 V.keep).drop_ 16).take (m:=16) (by omega)) (c:=ch- 16) (by omega) (by omega);rw[n]at h;exact h) ?_))
     rintro e dK ⟨rfl,bp⟩
     have br:=V.cal0 bp
     refine⟨_,Z,⟨trivial,fun _=>trivial,?_⟩⟩
     refine⟨?_,?_⟩
     ·
      refine po Z (eb br 67 [] Z (by kernel_rfl) (fun a1 dL cx cy=>⟨trivial,fun _=>trivial,qy Z (yb (ps:= [(0,.str (aF ((zs.drop 0).take 16))),(1,.str (aF ((zs.drop 16).take 16))),(2,.sl gn on 7 cB),(3,.sl a1 0 0 0)]) (cells:=#[.str (aF ((zs.drop 0).take 16)),.str (aF ((zs.drop 16).take 16)),.sl gn on 7 cB,.sl a1 0 0 0,.ns,.b false]) Z (by kernel_rfl)) (qr Z (aN cy dg (fun dM dN cz c0=>⟨trivial,fun _=>trivial,dJ Z (eN c0 0 [.str (aF ((zs.drop 0).take 16)),.str (aF ((zs.drop 16).take 16)),.sl gn on 7 cB,.sl a1 0 0 0,.ns,.b false] Z ex (fun dO c1=> ?_))⟩)))⟩))
      refine⟨trivial,fun _=>trivial,pn ?_⟩
      exact⟨_,_,_,_,Z,Z,Z,Z,Z,(c1.rowOf (i:=1) (cap:=0) (sz:=7) Z Z (by simp[maxLen])).re [0,1,2,4]⟩
     ·
      refine po Z (aN br dg (fun dP dQ c2 c3=>⟨trivial,fun _=>trivial,qr Z (eb c3 67 [] Z (by kernel_rfl) (fun a2 dR c4 c5=>⟨trivial,fun _=>trivial,qy Z (yb (ps:= [(0,.str (aF ((zs.drop 0).take 16))),(1,.str (aF ((zs.drop 16).take 16))),(2,.sl gn on 7 cB),(3,.sl a2 0 0 0)]) (cells:=#[.str (aF ((zs.drop 0).take 16)),.str (aF ((zs.drop 16).take 16)),.sl gn on 7 cB,.sl a2 0 0 0,.ns,.b false]) Z (by kernel_rfl)) (dJ Z (eN c5 1 [.str (aF ((zs.drop 0).take 16)),.str (aF ((zs.drop 16).take 16)),.sl gn on 7 cB,.sl a2 0 0 0,.ns,.b false] Z ex (fun dS c7=> ?_)))⟩))⟩))
      refine⟨trivial,fun _=>trivial,pn ?_⟩
      exact⟨_,_,_,_,Z,Z,Z,Z,Z,(c7.rowOf (i:=0) (cap:=0) (sz:=7) Z Z (by simp[maxLen])).re [1,0,2,4]⟩
    ·
     refine po Z (eb V 67 [] Z (by kernel_rfl) (fun E dT c8 a3=>⟨trivial,fun _=>trivial,?_⟩))
     refine⟨?_,?_⟩
     ·
      refine po Z (ec eA (args:= [.sl gh (oh+16) 16 (ch- 16)]) Z (aa (by have h:=c6 _ (((hrh.keep0 a3.keep).drop_ 16).take (m:=16) (by omega)) (c:=ch- 16) (by omega) (by omega);rw[n]at h;exact h) ?_))
      rintro e dX ⟨rfl,bt⟩
      have c9:=a3.cal0 bt
      refine⟨_,Z,⟨trivial,fun _=>trivial,qy Z (yb (ps:= [(0,.str (aF ((zs.drop 0).take 16))),(1,.str (aF ((zs.drop 16).take 16))),(2,.sl gn on 7 cB),(3,.sl E 0 0 0)]) (cells:=#[.str (aF ((zs.drop 0).take 16)),.str (aF ((zs.drop 16).take 16)),.sl gn on 7 cB,.sl E 0 0 0,.ns,.b false]) Z (by kernel_rfl)) (qr Z (aN c9 dg (fun dY dZ cA cC=>⟨trivial,fun _=>trivial,dJ Z (eN cC 0 [.str (aF ((zs.drop 0).take 16)),.str (aF ((zs.drop 16).take 16)),.sl gn on 7 cB,.sl E 0 0 0,.ns,.b false] Z ex (fun ea cD=> ?_))⟩)))⟩⟩
      refine⟨trivial,fun _=>trivial,pn ?_⟩
      exact⟨_,_,_,_,Z,Z,Z,Z,Z,(cD.rowOf (i:=1) (cap:=0) (sz:=7) Z Z (by simp[maxLen])).re [0,1,2,4]⟩
     ·
      refine po Z (aN a3 dg (fun ed ee cE bu=>⟨trivial,fun _=>trivial,qr Z (ec eA (args:= [.sl gh (oh+16) 16 (ch- 16)]) Z (aa (by have h:=c6 _ (((hrh.keep0 bu.keep).drop_ 16).take (m:=16) (by omega)) (c:=ch- 16) (by omega) (by omega);rw[n]at h;exact h) ?_))⟩))
      rintro e ef ⟨rfl,bv⟩
      have cF:=bu.cal0 bv
      refine⟨_,Z,⟨trivial,fun _=>trivial,qy Z (yb (ps:= [(0,.str (aF ((zs.drop 0).take 16))),(1,.str (aF ((zs.drop 16).take 16))),(2,.sl gn on 7 cB),(3,.sl E 0 0 0)]) (cells:=#[.str (aF ((zs.drop 0).take 16)),.str (aF ((zs.drop 16).take 16)),.sl gn on 7 cB,.sl E 0 0 0,.ns,.b false]) Z (by kernel_rfl)) (dJ Z (eN cF 0 [.str (aF ((zs.drop 0).take 16)),.str (aF ((zs.drop 16).take 16)),.sl gn on 7 cB,.sl E 0 0 0,.ns,.b false] Z ex (fun ei cG=> ?_)))⟩⟩
      refine⟨trivial,fun _=>trivial,pn ?_⟩
      exact⟨_,_,_,_,Z,Z,Z,Z,Z,(cG.rowOf (i:=1) (cap:=0) (sz:=7) Z Z (by simp[maxLen])).re [0,1,2,4]⟩
    ·
     refine po Z (aN V dg (fun ek el cH a4=>⟨trivial,fun _=>trivial,?_⟩))
     refine⟨?_,?_⟩
     ·
      refine po Z (ec eA (args:= [.sl gh (oh+16) 16 (ch- 16)]) Z (aa (by have h:=c6 _ (((hrh.keep0 a4.keep).drop_ 16).take (m:=16) (by omega)) (c:=ch- 16) (by omega) (by omega);rw[n]at h;exact h) ?_))
      rintro e em ⟨rfl,bw⟩
      have cI:=a4.cal0 bw
      refine⟨_,Z,⟨trivial,fun _=>trivial,qr Z (eb cI 67 [] Z (by kernel_rfl) (fun a5 en cJ cK=>⟨trivial,fun _=>trivial,qy Z (yb (ps:= [(0,.str (aF ((zs.drop 0).take 16))),(1,.str (aF ((zs.drop 16).take 16))),(2,.sl gn on 7 cB),(3,.sl a5 0 0 0)]) (cells:=#[.str (aF ((zs.drop 0).take 16)),.str (aF ((zs.drop 16).take 16)),.sl gn on 7 cB,.sl a5 0 0 0,.ns,.b false]) Z (by kernel_rfl)) (dJ Z (eN cK 1 [.str (aF ((zs.drop 0).take 16)),.str (aF ((zs.drop 16).take 16)),.sl gn on 7 cB,.sl a5 0 0 0,.ns,.b false] Z ex (fun ep cL=> ?_)))⟩))⟩⟩
      refine⟨trivial,fun _=>trivial,pn ?_⟩
      exact⟨_,_,_,_,Z,Z,Z,Z,Z,(cL.rowOf (i:=0) (cap:=0) (sz:=7) Z Z (by simp[maxLen])).re [1,0,2,4]⟩
     ·
      refine po Z (eb a4 67 [] Z (by kernel_rfl) (fun a7 er cN bz=>⟨trivial,fun _=>trivial,qr Z (ec eA (args:= [.sl gh (oh+16) 16 (ch- 16)]) Z (aa (by have h:=c6 _ (((hrh.keep0 bz.keep).drop_ 16).take (m:=16) (by omega)) (c:=ch- 16) (by omega) (by omega);rw[n]at h;exact h) ?_))⟩))
      rintro e eu ⟨rfl,b0⟩
      have cO:=bz.cal0 b0
      refine⟨_,Z,⟨trivial,fun _=>trivial,qy Z (yb (ps:= [(0,.str (aF ((zs.drop 0).take 16))),(1,.str (aF ((zs.drop 16).take 16))),(2,.sl gn on 7 cB),(3,.sl a7 0 0 0)]) (cells:=#[.str (aF ((zs.drop 0).take 16)),.str (aF ((zs.drop 16).take 16)),.sl gn on 7 cB,.sl a7 0 0 0,.ns,.b false]) Z (by kernel_rfl)) (dJ Z (eN cO 1 [.str (aF ((zs.drop 0).take 16)),.str (aF ((zs.drop 16).take 16)),.sl gn on 7 cB,.sl a7 0 0 0,.ns,.b false] Z ex (fun ev cP=> ?_)))⟩⟩
      refine⟨trivial,fun _=>trivial,pn ?_⟩
      exact⟨_,_,_,_,Z,Z,Z,Z,Z,(cP.rowOf (i:=0) (cap:=0) (sz:=7) Z Z (by simp[maxLen])).re [1,0,2,4]⟩
   ·
    refine po Z (eb U 67 [] Z (by kernel_rfl) (fun y ew cQ a8=>⟨trivial,fun _=>trivial,?_⟩))
    refine⟨?_,?_⟩
    ·
     refine po Z (ec eA (args:= [.sl gh oh 16 ch]) Z (aa (by have h:=c6 _ ((hrh.keep0 a8.keep).take (m:=16) (by omega)) (c:=ch) (by omega) (by omega);rw[F]at h;exact h) ?_))
     rintro e ey ⟨rfl,b1⟩
     have a9:=a8.cal0 b1
     refine⟨_,Z,⟨trivial,fun _=>trivial,?_⟩⟩
     refine⟨?_,?_⟩
     ·
      refine po Z (ec eA (args:= [.sl gh (oh+16) 16 (ch- 16)]) Z (aa (by have h:=c6 _ (((hrh.keep0 a9.keep).drop_ 16).take (m:=16) (by omega)) (c:=ch- 16) (by omega) (by omega);rw[n]at h;exact h) ?_))
      rintro e e3 ⟨rfl,b2⟩
      have cR:=a9.cal0 b2
      refine⟨_,Z,⟨trivial,fun _=>trivial,qy Z (yb (ps:= [(0,.str (aF ((zs.drop 0).take 16))),(1,.str (aF ((zs.drop 16).take 16))),(2,.sl gn on 7 cB),(3,.sl y 0 0 0)]) (cells:=#[.str (aF ((zs.drop 0).take 16)),.str (aF ((zs.drop 16).take 16)),.sl gn on 7 cB,.sl y 0 0 0,.ns,.b false]) Z (by kernel_rfl)) (qr Z (aN cR dg (fun e4 e5 cS cT=>⟨trivial,fun _=>trivial,dJ Z (eN cT 0 [.str (aF ((zs.drop 0).take 16)),.str (aF ((zs.drop 16).take 16)),.sl gn on 7 cB,.sl y 0 0 0,.ns,.b false] Z ex (fun e6 cU=> ?_))⟩)))⟩⟩
      refine⟨trivial,fun _=>trivial,pn ?_⟩
      exact⟨_,_,_,_,Z,Z,Z,Z,Z,(cU.rowOf (i:=1) (cap:=0) (sz:=7) Z Z (by simp[maxLen])).re [0,1,2,4]⟩
     ·
      refine po Z (aN a9 dg (fun e7 e8 cV b3=>⟨trivial,fun _=>trivial,qr Z (ec eA (args:= [.sl gh (oh+16) 16 (ch- 16)]) Z (aa (by have h:=c6 _ (((hrh.keep0 b3.keep).drop_ 16).take (m:=16) (by omega)) (c:=ch- 16) (by omega) (by omega);rw[n]at h;exact h) ?_))⟩))
      rintro e e9 ⟨rfl,b4⟩
      have cX:=b3.cal0 b4
      refine⟨_,Z,⟨trivial,fun _=>trivial,qy Z (yb (ps:= [(0,.str (aF ((zs.drop 0).take 16))),(1,.str (aF ((zs.drop 16).take 16))),(2,.sl gn on 7 cB),(3,.sl y 0 0 0)]) (cells:=#[.str (aF ((zs.drop 0).take 16)),.str (aF ((zs.drop 16).take 16)),.sl gn on 7 cB,.sl y 0 0 0,.ns,.b false]) Z (by kernel_rfl)) (dJ Z (eN cX 0 [.str (aF ((zs.drop 0).take 16)),.str (aF ((zs.drop 16).take 16)),.sl gn on 7 cB,.sl y 0 0 0,.ns,.b false] Z ex (fun eB cY=> ?_)))⟩⟩
      refine⟨trivial,fun _=>trivial,pn ?_⟩
      exact⟨_,_,_,_,Z,Z,Z,Z,Z,(cY.rowOf (i:=1) (cap:=0) (sz:=7) Z Z (by simp[maxLen])).re [0,1,2,4]⟩
    ·
     refine po Z (aN a8 dg (fun eC eD cZ b5=>⟨trivial,fun _=>trivial,qr Z (ec eA (args:= [.sl gh oh 16 ch]) Z (aa (by have h:=c6 _ ((hrh.keep0 b5.keep).take (m:=16) (by omega)) (c:=ch) (by omega) (by omega);rw[F]at h;exact h) ?_))⟩))
     rintro e eE ⟨rfl,b6⟩
     have b7:=b5.cal0 b6
     refine⟨_,Z,⟨trivial,fun _=>trivial,qr Z (ec eA (args:= [.sl gh (oh+16) 16 (ch- 16)]) Z (aa (by have h:=c6 _ (((hrh.keep0 b7.keep).drop_ 16).take (m:=16) (by omega)) (c:=ch- 16) (by omega) (by omega);rw[n]at h;exact h) ?_))⟩⟩
     rintro e de ⟨rfl,b8⟩
     have b9:=b7.cal0 b8
     refine⟨_,Z,⟨trivial,fun _=>trivial,qy Z (yb (ps:= [(0,.str (aF ((zs.drop 0).take 16))),(1,.str (aF ((zs.drop 16).take 16))),(2,.sl gn on 7 cB),(3,.sl y 0 0 0)]) (cells:=#[.str (aF ((zs.drop 0).take 16)),.str (aF ((zs.drop 16).take 16)),.sl gn on 7 cB,.sl y 0 0 0,.ns,.b false]) Z (by kernel_rfl)) (dJ Z (eN b9 0 [.str (aF ((zs.drop 0).take 16)),.str (aF ((zs.drop 16).take 16)),.sl gn on 7 cB,.sl y 0 0 0,.ns,.b false] Z ex (fun df bB=> ?_)))⟩⟩
     refine⟨trivial,fun _=>trivial,pn ?_⟩
     exact⟨_,_,_,_,Z,Z,Z,Z,Z,(bB.rowOf (i:=1) (cap:=0) (sz:=7) Z Z (by simp[maxLen])).re [0,1,2,4]⟩
   ·
    refine po Z (aN U dg (fun dh di ci G=>⟨trivial,fun _=>trivial,?_⟩))
    refine⟨?_,?_⟩
    ·
     refine po Z (ec eA (args:= [.sl gh oh 16 ch]) Z (aa (by have h:=c6 _ ((hrh.keep0 G.keep).take (m:=16) (by omega)) (c:=ch) (by omega) (by omega);rw[F]at h;exact h) ?_))
     rintro e dj ⟨rfl,aE⟩
     have H:=G.cal0 aE
     refine⟨_,Z,⟨trivial,fun _=>trivial,?_⟩⟩
     refine⟨?_,?_⟩
     ·
      refine po Z (ec eA (args:= [.sl gh (oh+16) 16 (ch- 16)]) Z (aa (by have h:=c6 _ (((hrh.keep0 H.keep).drop_ 16).take (m:=16) (by omega)) (c:=ch- 16) (by omega) (by omega);rw[n]at h;exact h) ?_))
      rintro e dk ⟨rfl,aG⟩
      have bC:=H.cal0 aG
      refine⟨_,Z,⟨trivial,fun _=>trivial,qr Z (eb bC 67 [] Z (by kernel_rfl) (fun I dl cl bD=>⟨trivial,fun _=>trivial,qy Z (yb (ps:= [(0,.str (aF ((zs.drop 0).take 16))),(1,.str (aF ((zs.drop 16).take 16))),(2,.sl gn on 7 cB),(3,.sl I 0 0 0)]) (cells:=#[.str (aF ((zs.drop 0).take 16)),.str (aF ((zs.drop 16).take 16)),.sl gn on 7 cB,.sl I 0 0 0,.ns,.b false]) Z (by kernel_rfl)) (dJ Z (eN bD 1 [.str (aF ((zs.drop 0).take 16)),.str (aF ((zs.drop 16).take 16)),.sl gn on 7 cB,.sl I 0 0 0,.ns,.b false] Z ex (fun dn bH=> ?_)))⟩))⟩⟩
      refine⟨trivial,fun _=>trivial,pn ?_⟩
      exact⟨_,_,_,_,Z,Z,Z,Z,Z,(bH.rowOf (i:=0) (cap:=0) (sz:=7) Z Z (by simp[maxLen])).re [1,0,2,4]⟩
     ·
      refine po Z (eb H 67 [] Z (by kernel_rfl) (fun J dp cm Y=>⟨trivial,fun _=>trivial,qr Z (ec eA (args:= [.sl gh (oh+16) 16 (ch- 16)]) Z (aa (by have h:=c6 _ (((hrh.keep0 Y.keep).drop_ 16).take (m:=16) (by omega)) (c:=ch- 16) (by omega) (by omega);rw[n]at h;exact h) ?_))⟩))
      rintro e dq ⟨rfl,aI⟩
      have bI:=Y.cal0 aI
      refine⟨_,Z,⟨trivial,fun _=>trivial,qy Z (yb (ps:= [(0,.str (aF ((zs.drop 0).take 16))),(1,.str (aF ((zs.drop 16).take 16))),(2,.sl gn on 7 cB),(3,.sl J 0 0 0)]) (cells:=#[.str (aF ((zs.drop 0).take 16)),.str (aF ((zs.drop 16).take 16)),.sl gn on 7 cB,.sl J 0 0 0,.ns,.b false]) Z (by kernel_rfl)) (dJ Z (eN bI 1 [.str (aF ((zs.drop 0).take 16)),.str (aF ((zs.drop 16).take 16)),.sl gn on 7 cB,.sl J 0 0 0,.ns,.b false] Z ex (fun dr bJ=> ?_)))⟩⟩
      refine⟨trivial,fun _=>trivial,pn ?_⟩
      exact⟨_,_,_,_,Z,Z,Z,Z,Z,(bJ.rowOf (i:=0) (cap:=0) (sz:=7) Z Z (by simp[maxLen])).re [1,0,2,4]⟩
    ·
     refine po Z (eb G 67 [] Z (by kernel_rfl) (fun L ds cn af=>⟨trivial,fun _=>trivial,qr Z (ec eA (args:= [.sl gh oh 16 ch]) Z (aa (by have h:=c6 _ ((hrh.keep0 af.keep).take (m:=16) (by omega)) (c:=ch) (by omega) (by omega);rw[F]at h;exact h) ?_))⟩))
     rintro e du ⟨rfl,aJ⟩
     have ah:=af.cal0 aJ
     refine⟨_,Z,⟨trivial,fun _=>trivial,qr Z (ec eA (args:= [.sl gh (oh+16) 16 (ch- 16)]) Z (aa (by have h:=c6 _ (((hrh.keep0 ah.keep).drop_ 16).take (m:=16) (by omega)) (c:=ch- 16) (by omega) (by omega);rw[n]at h;exact h) ?_))⟩⟩
     rintro e dv ⟨rfl,aL⟩
     have bM:=ah.cal0 aL
     refine⟨_,Z,⟨trivial,fun _=>trivial,qy Z (yb (ps:= [(0,.str (aF ((zs.drop 0).take 16))),(1,.str (aF ((zs.drop 16).take 16))),(2,.sl gn on 7 cB),(3,.sl L 0 0 0)]) (cells:=#[.str (aF ((zs.drop 0).take 16)),.str (aF ((zs.drop 16).take 16)),.sl gn on 7 cB,.sl L 0 0 0,.ns,.b false]) Z (by kernel_rfl)) (dJ Z (eN bM 1 [.str (aF ((zs.drop 0).take 16)),.str (aF ((zs.drop 16).take 16)),.sl gn on 7 cB,.sl L 0 0 0,.ns,.b false] Z ex (fun dw bN=> ?_)))⟩⟩
     refine⟨trivial,fun _=>trivial,pn ?_⟩
     exact⟨_,_,_,_,Z,Z,Z,Z,Z,(bN.rowOf (i:=0) (cap:=0) (sz:=7) Z Z (by simp[maxLen])).re [1,0,2,4]⟩
  ·
   rintro eF w2 ⟨g8,gp,Av,cv,g0,g1,f,t,d,H2⟩
   refine ad ?_
   have z:=H2.drew
   refine aU MX (fun w'=>w'.cell? ⟨gn,on+2,none⟩=some (.q (↑z2))∧w'.cell? ⟨gn,on+1,none⟩=some (.q (↑z1))) (tr 0 8 Pl.done) (by kernel_rfl) (⟨show World.cell? _ _=some (.q (↑z2))from(hDn _ (z.g 2 Z)).cellAt 2 (by omega),show World.cell? _ _=some (.q (↑z1))from(hDn _ (z.g 2 Z)).cellAt 1 (by omega)⟩) (qm (.sl gn on 10 cB) Z t (qy Z (aK (a:=⟨gn,on,none⟩) (i:=2) bL Z Z (by omega) (by omega)) (qh Z (fun hS=>ag aP Z hS.1) (qm (.sl gn on 10 cB) Z t (qy Z (aK (a:=⟨gn,on,none⟩) (i:=1) bL Z Z (by omega) (by omega)) (qh Z (fun hS=>ag aP Z hS.2) (qa (.q (↑z2)) Z Z (qa (.q (↑z1)) Z Z (pn ?_)))))))))
   refine eh (fun ρ w'=> ∃(g8 gp:Nat) (Av:Option Addr) (cv:Nat) (okb:Bool) (vd:Value),okb=decide (z1=0∨z2+z1≤N)∧(∀w,RI .u8 w (some ⟨gb,ob,none⟩) N xs → SlI' .u8 w vd (if(z1=0∨z2+z1≤N)then(xs.drop z2).take z1 else[]))∧ρ 0= .sl gb ob N C∧ρ 1= .b big∧ρ 8= .pt g8∧ρ 10= .sl gn on 10 cB∧ρ 12= .pt gp∧St w aR [an gp [.str (aF ((zs.drop 0).take 16)),.str (aF ((zs.drop 16).take 16)),.sl gn on 7 cB,.s Av 0 cv,vd,.b (!okb)] 72,ay 67 7 (.s Av 0 cv) 0 ([]),Dn,an g8 [.string (⟨#[]⟩),.string (⟨#[]⟩),.ns,.ns,.ns,.b false] 72] w') ?_ ?_
   ·
    refine ad ?_
    by_cases hF:(z1=0∨z2+z1≤N)
    ·
     obtain⟨m0,eG⟩: ∃m,m=min z2 N:=⟨_,rfl⟩
     obtain⟨m1,eH⟩: ∃m,m=min (z2+z1) N:=⟨_,rfl⟩
     refine ae (mu (↑z1) Z (mg g0 Z (wv Z (aO bU Z) (wv Z (ao ej be Z (aC (by omega) (by omega))) (wv Z (i8 Z Z (decide_eq_true (by omega))) (mv (.b true) Z (aX Z Z (am (v:= .sl gb ob N C) g0) (aX Z Z (am (v:= .q (↑z2)) Z) (aX Z Z (am (v:= .q (↑z1)) Z) (wJ Z Z (ec iN (args:= [.sl gb ob N C,.q (↑z2),.q (↑z1)]) Z ?_)))))))))))
     refine aa (dU _ (by omega) (by omega) hF) ?_
     rintro e dx ⟨rfl,aM⟩
     have bO:=z.cal0 aM
     refine⟨_,Z,wv Z (aD (b:=true) (v:= .b true) Z Z) (wn (aB Z (ae (mg g0 Z (mu (↑z2) Z (mg g0 Z (wv Z (aO bU Z) (wv Z (ao ej be Z (aC (by omega) (by omega))) (wv Z (i7 (c:= ↑m0) Z Z (by split<;>omega)) (mu (↑z2) Z ?_))))))))))⟩
     refine mu (↑z1) Z (wv Z (aH (k:= .u64) (c:= ↑(z2+z1)) Z Z (by rw[aC (by omega) (by omega)];omega)) (mg g0 Z (wv Z (aO bU Z) (wv Z (ao ej be Z (aC (by omega) (by omega))) (wv Z (i7 (c:= ↑m1) Z Z (by split<;>omega)) (wv Z ((show Yv _ _ _ _ (.s (dC (some ⟨gb,ob,none⟩) C m0 1) (m1- m0) (C- m0)) _ from eo (l:=m0) (h:=m1) aZ Z (bh Z (by omega) (Int.toNat_natCast _)) (bh Z (by omega) (Int.toNat_natCast _)) (by omega) (by omega))) (wv Z (ab th d) (ws (es bO 0 4 (.s (dC (some ⟨gb,ob,none⟩) C m0 1) (m1- m0) (C- m0)) Z fe (fun dy bP=> ?_))))))))))
     refine wn ?_
     have hv: ∀w,RI .u8 w (some ⟨gb,ob,none⟩) N xs → SlI' .u8 w (.s (dC (some ⟨gb,ob,none⟩) C m0 1) (m1- m0) (C- m0)) (if(z1=0∨z2+z1≤N)then(xs.drop z2).take z1 else[]):=fun w hr=>⟨_,_,_,rfl,by
      rw[if_pos hF];have h:=hr.cut (c:=C) (l:=m0) (m:=m1) (by omega) (by omega) hNC
      rcases hF with h0|h0
      · have e0:m1- m0=0:=by omega
        rw[h0,List.take_zero];rw[e0,List.take_zero]at h;rw[e0];exact h
      · have e1:m0=z2:=by omega
        have e2:m1=z2+z1:=by omega
        subst e1;subst e2;rw[Nat.add_sub_cancel_left]at h ⊢;exact h⟩
     exact⟨_,_,_,_,true,_,(decide_eq_true hF).symm,hv,g0,g1,f,t,d,bP.re [0,1,2,3]⟩
    ·
     by_cases hF2:z1≤N
     ·
      refine ae (mu (↑z1) Z (mg g0 Z (wv Z (aO bU Z) (wv Z (ao ej be Z (aC (by omega) (by omega))) (wv Z (i8 Z Z (decide_eq_true (by omega))) (mv (.b true) Z (aX Z Z (am (v:= .sl gb ob N C) g0) (aX Z Z (am (v:= .q (↑z2)) Z) (aX Z Z (am (v:= .q (↑z1)) Z) (wJ Z Z (ec iN (args:= [.sl gb ob N C,.q (↑z2),.q (↑z1)]) Z ?_)))))))))))
      refine aa (eg _ (by omega) (by omega) hF) ?_
      rintro e dz ⟨rfl,aV⟩
      have bQ:=z.cal0 aV
      refine⟨_,Z,wv Z (aD (b:=true) (v:= .b false) Z Z) (wn (al Z (ae (wv Z (ab o8 d) (ws (es bQ 0 5 (.b true) Z dc (fun d0 bV=> ?_)))))))⟩
      refine wn ?_
      have hv: ∀w,RI .u8 w (some ⟨gb,ob,none⟩) N xs → SlI' .u8 w (.ns) (if(z1=0∨z2+z1≤N)then(xs.drop z2).take z1 else[]):=fun w hr=>⟨_,_,_,rfl,by rw[if_neg hF];exact RI.nil _ _ _⟩
      exact⟨_,_,_,_,false,_,(decide_eq_false hF).symm,hv,g0,g1,f,t,d,bV.re [0,1,2,3]⟩
     ·
      refine ae (mu (↑z1) Z (mg g0 Z (wv Z (aO bU Z) (wv Z (ao ej be Z (aC (by omega) (by omega))) (wv Z (i8 Z Z (decide_eq_false (by omega))) (mv (.b false) Z (ck Z Z (ck Z Z (ck Z Z (ck Z Z (wv Z (aD (b:=false) (v:= .b false) Z Z) ?_)))))))))))
      refine wn (al Z (ae (wv Z (ab o8 d) (ws (es z 0 5 (.b true) Z dc (fun d1 bW=> ?_))))))
      refine wn ?_
      have hv: ∀w,RI .u8 w (some ⟨gb,ob,none⟩) N xs → SlI' .u8 w (.ns) (if(z1=0∨z2+z1≤N)then(xs.drop z2).take z1 else[]):=fun w hr=>⟨_,_,_,rfl,by rw[if_neg hF];exact RI.nil _ _ _⟩
      exact⟨_,_,_,_,false,_,(decide_eq_false hF).symm,hv,g0,g1,f,t,d,bW.re [0,1,2,3]⟩
   ·
    rintro eI w3 ⟨g8,gp,Av,cv,okb,vd,hokb,hvd,g0,g1,f,t,d,H3⟩
    obtain⟨_,_,_,evd,_⟩:=hvd w hr
    refine ad ?_
    have u:=H3.drew
    refine aU MX (fun w'=>w'.cell? ⟨gn,on+4,none⟩=some (.q (↑z3))∧w'.cell? ⟨gn,on+5,none⟩=some (.q (↑z4))) (tr 0 8 Pl.done) (by kernel_rfl) (⟨show World.cell? _ _=some (.q (↑z3))from(hDn _ (u.g 2 Z)).cellAt 4 (by omega),show World.cell? _ _=some (.q (↑z4))from(hDn _ (u.g 2 Z)).cellAt 5 (by omega)⟩) (qm (.sl gn on 10 cB) Z t (qy Z (aK (a:=⟨gn,on,none⟩) (i:=4) bL Z Z (by omega) (by omega)) (qh Z (fun hS=>ag aP Z hS.1) (qm (.sl gn on 10 cB) Z t (qy Z (aK (a:=⟨gn,on,none⟩) (i:=5) bL Z Z (by omega) (by omega)) (qh Z (fun hS=>ag aP Z hS.2) (qa (.q (↑z3)) Z Z (qa (.q (↑z4)) Z Z (pn (ad (ad ?_)))))))))))
    by_cases hz0:z4=0
    ·
     refine ae (mu (↑z4) Z (wv Z (aT Z Z (beq_iff_eq.2 (by omega))) (wn (aB Z (sr (wv Z (u.loadA (i:=0) (vs:= [.str (aF ((zs.drop 0).take 16)),.str (aF ((zs.drop 16).take 16)),.sl gn on 7 cB,.s Av 0 cv,vd,.b (!okb)]) Z kU d Z Z) (ws (bE u 3 (vs:= [.str (aF ((zs.drop 0).take 16)),.str (aF ((zs.drop 16).take 16)),.sl gn on 7 cB,.s Av 0 cv,vd,.b (!okb)]) (m:=6) Z ex f Z Z (nl Z) (by simp[Value.oneCell',evd]) (cs':= [.str (aF ((zs.drop 0).take 16)),.str (aF ((zs.drop 16).take 16)),.sl gn on 7 cB,.s Av 0 cv,vd,.b (!okb)]) Z (fun d2 ai=> ?_)))))))))
     refine av (.b true) Z (wn (rq ?_))
     have hsr:et big xs (eP true big (hs.take 80))=some ({(⟨aF ((zs.drop 0).take 16),aF ((zs.drop 16).take 16),n8 big (zs.drop 32),z1,z2,n4 big (zs.drop 52),↑z3,↑z4,n4 big (zs.drop 64),[]⟩:SecD)with rels:= []}:SecD):=by rw[←hzs,T];unfold et;rw[if_pos (show(↑z4:Int).toNat=0 by omega)]
     subst hokb
     exact⟨.inr Z,_,fy Z kU (by exact f) (ai.g 3 Z) Z (by exact Z),.inl ⟨({(⟨aF ((zs.drop 0).take 16),aF ((zs.drop 16).take 16),n8 big (zs.drop 32),z1,z2,n4 big (zs.drop 52),↑z3,↑z4,n4 big (zs.drop 64),[]⟩:SecD)with rels:= []}:SecD),by omega,hsr,⟨SecD.part ({(⟨aF ((zs.drop 0).take 16),aF ((zs.drop 16).take 16),n8 big (zs.drop 32),z1,z2,n4 big (zs.drop 52),↑z3,↑z4,n4 big (zs.drop 64),[]⟩:SecD)with rels:= []}:SecD) N xs,_,_,vd⟩,Res.all [ay 67 7 (.s Av 0 cv) 0 ([]),Dn],Z,Z,ai.reAll [1,2] [],fun w hh hrw=>by have hh:=aS.1 hh;exact⟨⟨_,_,_,Z,(hDn w (hh Dn (by simp))).take (m:=7) (by omega)⟩,by obtain⟨A,c,e,hv,_⟩:=aw (hh (ay 67 7 (.s Av 0 cv) 0 ([])) (by simp));exact⟨A,_,c,e,hv⟩,hvd w hrw⟩⟩⟩
    ·
     refine ae (mu (↑z4) Z (wv Z (aT Z Z (beq_eq_false_iff_ne.2 (by omega))) (wn (al Z (wk (ad (ad ?_)))))))
     by_cases hG2:z3+z4*8≤N
     ·
      refine ae (mg g0 Z (mu (↑z3) Z (mu (↑z4) Z (wv Z (cM (k:= .u64) (c:= ↑(8*z4)) Z Z (by rw[aC (by omega) (by omega)];omega)) (wE [.sl gb ob N C,.q (↑z3),.q (↑(8*z4))] iN Z Z (aa (dU _ (by omega) (by omega) (by omega)) ?_))))))
      rintro e bX ⟨rfl,aW⟩
      have bY:=u.cal0 aW
      refine⟨_,Z,wv Z (bS Z) (wn (al Z (wk (ad (sr (mu (↑z4) Z (mu 0 Z (wn (a6 ?_)))))))))⟩
      have da:St w aR [ay 67 7 (.s Av 0 cv) 0 (((bT big z4 ((xs.drop z3).take (z4*8))).take 0).flatMap Rel.cells),an gp [.str (aF ((zs.drop 0).take 16)),.str (aF ((zs.drop 16).take 16)),.sl gn on 7 cB,.s Av 0 cv,vd,.b (!okb)] 72,Dn,an g8 [.string (⟨#[]⟩),.string (⟨#[]⟩),.ns,.ns,.ns,.b false] 72] bX:=bY.re [1,0,2,3]
      refine bA (fun ρ w'=> ∃j:Nat,∃Aj:Option Addr,∃cj:Nat,ρ 0= .sl gb ob N C∧ρ 1= .b big∧ρ 8= .pt g8∧ρ 10= .sl gn on 10 cB∧ρ 12= .pt gp∧ρ 15= .q ↑z3∧ρ 89= .q ↑z4∧ρ 90= .q ↑j∧j≤z4∧St w aR [ay 67 7 (.s Aj j cj) j (((bT big z4 ((xs.drop z3).take (z4*8))).take j).flatMap Rel.cells),an gp [.str (aF ((zs.drop 0).take 16)),.str (aF ((zs.drop 16).take 16)),.sl gn on 7 cB,.s Aj j cj,vd,.b (!okb)] 72,Dn,an g8 [.string (⟨#[]⟩),.string (⟨#[]⟩),.ns,.ns,.ns,.b false] 72] w') (fun ρ _=>z4+1- nv (ρ 90)) (⟨0,_,_,g0,g1,f,t,d,Z,Z,Z,by omega,da⟩) ?_
      rintro ρ w4 ⟨j,Aj,cj,g0,g1,f,t,d,bZ,cb,W,hj,H4⟩
      refine sr (wv Z (bR W cb) (wn (ad ?_)))
      refine bK Z (fun B=> ?_) (fun B=> ?_)
      ·
       simp only[bx]at B
       refine wk (ad (a6 (sr (mg W Z (au (↑j) Z (wn (sr (mg g0 Z (mg bZ Z (mu (↑j) Z (wv Z (cM (k:= .u64) (c:= ↑(8*j)) Z Z (by rw[aC (by omega) (by omega)];omega)) ?_)))))))))))
       refine wv Z (aH (k:= .u64) (c:= ↑(z3+(8*j))) Z Z (by rw[aC (by omega) (by omega)];omega)) (wv Z ((aq (l:=(z3+(8*j))) (h:=N) aZ Z (bs Z (by omega) (Int.toNat_natCast _)) bn (by omega) (by omega) (by omega) (by omega):Yv _ _ _ _ (.sl gb (ob+(z3+(8*j))) (N-(z3+(8*j))) (C-(z3+(8*j)))) _)) (eL gb (ob+(z3+(8*j))) (N-(z3+(8*j))) (C-(z3+(8*j))) Z (wn ?_)))
       have M:=H4.drew
       refine dt MX (fun w'=>w'.cell? ⟨gp,3,none⟩=some (.s Aj j cj)) (fun w'=>True) 16 (Pl.take 0 (Pl.takeS 1 (tr 2 3 (tr 7 3 (Pl.run 5 (Pl.take 6 (Pl.run 10 (Pl.take 11 (Pl.run 12 (Pl.run 13 (Pl.run 14 (Pl.take 15 (Pl.run 16 Pl.done))))))))))))) (by kernel_rfl) Z (M.c 1 3 Z Z) (trivial) (qy Z (ab (o:=0) lX d) (qs Z Z (fun _ hS=>ag pM Z hS) (qm (.b big) Z g1 (qm (.b big) Z g1 (qm (.sl gb (ob+(z3+(8*j))) (N-(z3+(8*j))) (C-(z3+(8*j)))) Z Z (qm (.b big) Z g1 (qm (.sl gb (ob+(z3+(8*j))) (N-(z3+(8*j))) (C-(z3+(8*j)))) Z Z (qt Z (fun _ hS=>(aq (l:=4) (h:=N-(z3+(8*j))) aZ Z (bs Z (by omega) Z) bn (by omega) (by omega) (by omega) (by omega):Yv _ _ _ _ (.sl gb (ob+(z3+(8*j))+4) (N-(z3+(8*j))- 4) (C-(z3+(8*j))- 4)) _)) (qr Z (ec mm (args:= [.b big,.i 4,.sl gb (ob+(z3+(8*j))) (N-(z3+(8*j))) (C-(z3+(8*j)))]) Z (aa (by have h:=ez big (wd:=4) _ (RI.drop_ (hr.keep0 M.keep) (z3+(8*j))) (c:=C-(z3+(8*j))) (hby.drop _) (by omega) (by omega);rw[jA]at h;exact h) ?_)))))))))))
       rintro e d3 ⟨rfl,bb⟩
       have O:=M.cal0 bb
       refine⟨_,Z,⟨trivial,fun _=>O.c 1 3 Z Z,qy Z (ao (c:=n4 big (xs.drop (z3+(8*j)))) db jR Z (dm (ba big (hby.drop _)).1 (by have:=(ba big (hby.drop ((z3+(8*j))))).2;omega))) (qr Z (ec mm (args:= [.b big,.i 4,.sl gb (ob+(z3+(8*j))+4) (N-(z3+(8*j))- 4) (C-(z3+(8*j))- 4)]) Z (aa (by have h:=ez big (wd:=4) _ (RI.drop_ (hr.keep0 O.keep) ((z3+(8*j))+4)) (c:=C-(z3+(8*j))- 4) (hby.drop _) (by omega) (by omega);rw[jA]at h;exact h) ?_)))⟩⟩
       rintro e cc ⟨rfl,bc⟩
       have aj:=O.cal0 bc
       refine⟨_,Z,⟨trivial,fun _=>aj.c 1 3 Z Z,qy Z (ao (c:=n4 big (xs.drop ((z3+(8*j))+4))) db jR Z (dm (ba big (hby.drop _)).1 (by have:=(ba big (hby.drop (((z3+(8*j))+4)))).2;omega))) (qr Z (ec BS (args:= [.b big,.w (n4 big (xs.drop (z3+(8*j)))),.w (n4 big (xs.drop ((z3+(8*j))+4)))]) Z ?_))⟩⟩
       obtain⟨rr,hrr⟩: ∃r,r=hJ big (n4 big (xs.drop (z3+(8*j)))) (n4 big (xs.drop ((z3+(8*j))+4))):=⟨_,rfl⟩
       refine aa (by have h:=ma big (a:=n4 big (xs.drop (z3+(8*j)))) (b:=n4 big (xs.drop ((z3+(8*j))+4))) (cc) (ba big (hby.drop _)).1 (ba big (hby.drop _)).2 (ba big (hby.drop _)).1 (ba big (hby.drop _)).2;rw[←hrr]at h;exact h) ?_
       rintro e d4 ⟨rfl,bd⟩
       have ap:=aj.cal0 bd
       refine⟨_,Z,⟨trivial,fun _=>ap.c 1 3 Z Z,qr Z (kt ap (ps:= [(0,.agg #[.w rr.addr,.w rr.value,.e rr.type,.e rr.len,.b rr.pcrel,.b rr.extern,.b rr.scattered])]) (e:=67) (cs:= [.w rr.addr,.w rr.value,.e rr.type,.e rr.len,.b rr.pcrel,.b rr.extern,.b rr.scattered]) Z (by kernel_rfl) (fun d5 d6 co P=>⟨trivial,fun _=>P.c 2 3 Z Z,qr Z (bG P 1 (m:=1) (news:= [.w rr.addr,.w rr.value,.e rr.type,.e rr.len,.b rr.pcrel,.b rr.extern,.b rr.scattered]) Z AX BK Z (by decide) Z Z Z (P.news (i:=0) Z) (by simp[Value.oneCell',evd]) (by simp only[maxLen];omega) (by omega) (fun d8 d9 Q=> ?_))⟩))⟩⟩
       obtain⟨cd,ce,rfl,_,_⟩:=aw (Q.g 1 rfl)
       refine⟨trivial,fun _=>Q.c 2 3 Z Z,qy Z (ab (o:=0) lX d) (dJ Z (es Q 2 3 (.s cd (j+1) ce) Z pM (fun dA ax=> ?_)))⟩
       refine⟨trivial,fun h=>absurd h (by decide),ca (ak (ac (ae (wv Z (aH (k:= .u64) (c:= ↑j+1) W Z (aC (by omega) (by omega))) (mu (↑j+1) Z (wn ?_))))))⟩
       have hd:=mz (big:=big) (xs:=xs) (z3:=z3) (show j<z4 by omega)
       rw[←hrr]at hd
       have hcur:((bT big z4 ((xs.drop z3).take (z4*8))).take j).flatMap Rel.cells++ [.w rr.addr,.w rr.value,.e rr.type,.e rr.len,.b rr.pcrel,.b rr.extern,.b rr.scattered]=((bT big z4 ((xs.drop z3).take (z4*8))).take (j+1)).flatMap Rel.cells:=by rw[dV hd];rfl
       rw[hcur]at ax
       exact⟨⟨j+1,_,_,g0,g1,f,t,d,bZ,cb,Z,by omega,ax.re [1,2,3,4]⟩,by show z4+1- nv (.q (↑j+1))<z4+1- nv (ρ 90);rw[W];simp only[nv];omega⟩
      ·
       simp only[bx]at B
       refine bq (ar (ar (aQ (ac (sr (wv Z (H4.loadA (i:=1) (vs:= [.str (aF ((zs.drop 0).take 16)),.str (aF ((zs.drop 16).take 16)),.sl gn on 7 cB,.s Aj j cj,vd,.b (!okb)]) Z kU d Z Z) (ws (bE H4 3 (vs:= [.str (aF ((zs.drop 0).take 16)),.str (aF ((zs.drop 16).take 16)),.sl gn on 7 cB,.s Aj j cj,vd,.b (!okb)]) (m:=6) Z ex f Z Z (nl Z) (by simp[Value.oneCell',evd]) (cs':= [.str (aF ((zs.drop 0).take 16)),.str (aF ((zs.drop 16).take 16)),.sl gn on 7 cB,.s Aj j cj,vd,.b (!okb)]) Z (fun dB R=> ?_)))))))))
       refine av (.b true) Z (wn (aY ?_))
       have hsr:et big xs (eP true big (hs.take 80))=some ({(⟨aF ((zs.drop 0).take 16),aF ((zs.drop 16).take 16),n8 big (zs.drop 32),z1,z2,n4 big (zs.drop 52),↑z3,↑z4,n4 big (zs.drop 64),[]⟩:SecD)with rels:=bT big z4 ((xs.drop z3).take (z4*8))}:SecD):=by rw[←hzs,T];unfold et;rw[if_neg (show ¬(↑z4:Int).toNat=0 by omega),if_pos (show(↑z3:Int).toNat+(↑z4:Int).toNat*8≤xs.length by rw[hr.1];omega)];simp only[Int.toNat_natCast]
       have hjz:j=z4:=by omega
       rw[List.take_of_length_le (by rw[f7];omega)]at R
       subst hokb
       exact⟨.inr Z,_,fy Z kU (by exact f) (R.g 3 Z) Z (by exact Z),.inl ⟨({(⟨aF ((zs.drop 0).take 16),aF ((zs.drop 16).take 16),n8 big (zs.drop 32),z1,z2,n4 big (zs.drop 52),↑z3,↑z4,n4 big (zs.drop 64),[]⟩:SecD)with rels:=bT big z4 ((xs.drop z3).take (z4*8))}:SecD),by omega,hsr,⟨SecD.part ({(⟨aF ((zs.drop 0).take 16),aF ((zs.drop 16).take 16),n8 big (zs.drop 32),z1,z2,n4 big (zs.drop 52),↑z3,↑z4,n4 big (zs.drop 64),[]⟩:SecD)with rels:=bT big z4 ((xs.drop z3).take (z4*8))}:SecD) N xs,_,_,vd⟩,Res.all [ay 67 7 (.s Aj j cj) j ((bT big z4 ((xs.drop z3).take (z4*8))).flatMap Rel.cells),Dn],Z,Z,R.reAll [0,2] [],fun w hh hrw=>by have hh:=aS.1 hh;exact⟨⟨_,_,_,Z,(hDn w (hh Dn (by simp))).take (m:=7) (by omega)⟩,by obtain⟨A,c,e,hv,_⟩:=aw (hh (ay 67 7 (.s Aj j cj) j ((bT big z4 ((xs.drop z3).take (z4*8))).flatMap Rel.cells)) (by simp));exact⟨A,_,c,e,hv⟩,hvd w hrw⟩⟩⟩
     ·
      refine ae (mg g0 Z (mu (↑z3) Z (mu (↑z4) Z (wv Z (cM (k:= .u64) (c:= ↑(8*z4)) Z Z (by rw[aC (by omega) (by omega)];omega)) (wE [.sl gb ob N C,.q (↑z3),.q (↑(8*z4))] iN Z Z (aa (eg _ (by omega) (by omega) (by omega)) ?_))))))
      rintro e dD ⟨rfl,bf⟩
      have cf:=u.cal0 bf
      refine⟨_,Z,wv Z (bS Z) (wn (aB Z (sr (wv Z (yb (ps:= []) (cells:=#[.string (⟨#[]⟩),.string (⟨#[]⟩),.ns,.ns,.ns,.b false]) Z (by kernel_rfl)) (ws (bE cf 3 (vs:= [.string (⟨#[]⟩),.string (⟨#[]⟩),.ns,.ns,.ns,.b false]) (m:=6) Z ex f Z Z (nl Z) (by simp[Value.oneCell',evd]) (cs':= [.string (⟨#[]⟩),.string (⟨#[]⟩),.ns,.ns,.ns,.b false]) Z (fun dE az=> ?_)))))))⟩
      refine av (.b false) Z (wn (rq ?_))
      exact⟨.inr Z,_,fy Z kU (by exact f) (az.g 3 Z) Z (by exact Z),.inr ⟨.inr (by rw[←hzs,T];unfold et;rw[if_neg (show ¬(↑z4:Int).toNat=0 by omega),if_neg (show ¬(↑z3:Int).toNat+(↑z4:Int).toNat*8≤xs.length by rw[hr.1];omega)]),Z,az.sub (List.nil_sublist _)⟩⟩
 ·
  refine ae (mv (.b big) Z (mv (.b true) Z (wE [.b true] mB Z Z (aa (fg _) ?_))))
  rintro e dF ⟨AW,nW,cW,DW,rfl,hcW,bg,hDW⟩
  have S:=H3.cal0 bg
  refine⟨_,Z,mv (.s Ah nh ch) Z (wE [.b big,.s AW nW cW,.s Ah nh ch] jt Z Z (aa (eK (ws:=fU true) (bs:=hs) big _ (hDW _ (S.g 0 Z)) (iU _) (hrh.keep0 S.keep) hch (by omega) hbh (by decide) (show nh<80 by omega)) ?_))⟩
  rintro e dG ⟨rfl,bi⟩
  have cg:=S.cal0 bi
  refine⟨_,Z,mv (.tuple #[.ns,.b false]) Z (we (.ns) Z Z (we (.b false) Z Z (av (.ns) Z (av (.b false) Z (wn (ad (sr (mv (.b false) Z (wv Z (bS Z) (wn ?_))))))))))⟩
  refine aB Z (sr (wv Z (yb (ps:= []) (cells:=#[.string (⟨#[]⟩),.string (⟨#[]⟩),.ns,.ns,.ns,.b false]) Z (by kernel_rfl)) (ws (eN cg 1 [.string (⟨#[]⟩),.string (⟨#[]⟩),.ns,.ns,.ns,.b false] Z ex (fun dH a0=> ?_)))))
  refine av (.b false) Z (wn (rq ?_))
  exact⟨.inr Z,_,fy Z kU (by exact Z) (a0.g 1 Z) Z (by exact Z),.inr ⟨.inl (by omega),Z,a0.sub (List.nil_sublist _)⟩⟩
theorem dF:FA 33 1 1:=fa (by kernel_rfl)
theorem dj:FA 33 2 2:=fa (by kernel_rfl)
theorem dH:dI Tryd.prog 29:=bN (by kernel_rfl)
theorem kT:Tryd.prog.underlying 29=some (.slice 74):=by kernel_rfl
theorem kY:(Tryd.prog.info? 74).map (fun i=>(i.zero,i.size,i.bytes))=some (some (.agg #[.i 0,.ns,.string (⟨#[]⟩),.ns]),4,72):=by kernel_rfl
theorem sN{fb gr or_ nr cr base:Nat}{nL cL:Nat}{AL:Option Addr}{lv:List LoadV}{vh vp vs vi:Value}{raw:List Int}(big:Bool)(w:World)(h0:St w (Res.all [an fb [vh,.b big,.s AL nL cL,vp,vs,vi] 33,ay 74 4 (.s AL nL cL) nL (lv.flatMap LoadV.cells)]).F [an fb [vh,.b big,.s AL nL cL,vp,vs,vi] 33,ay 74 4 (.s AL nL cL) nL (lv.flatMap LoadV.cells)] w)(hB: ∀g,(Res.all [an fb [vh,.b big,.s AL nL cL,vp,vs,vi] 33,ay 74 4 (.s AL nL cL) nL (lv.flatMap LoadV.cells)]).F g → base≤g)(hbw:base≤w.heap.size)(hrr:RI .u8 w (some ⟨gr,or_,none⟩) nr raw)(hrb:Byt raw)(hnr:nr≤cr)(hnN:nr<10485760)(hgr:gr<base)(hnL:nL≤10485760):
 Calls Tryd.prog 32 #[.pt fb,.i 3,.i 0,.sl gr or_ nr cr] w fun e w'=>(∃(ld:LoadD) (x:LoadV) (AL2:Option Addr) (cL2:Nat) (D:Res),(∀s,ed big raw s=some {s with loads:=s.loads++ [ld]})∧x.l=ld∧ld.raw=raw∧x.vr= .sl gr or_ nr cr∧e= .returned (.b true)∧St w (Res.all [an fb [vh,.b big,.s AL nL cL,vp,vs,vi] 33,ay 74 4 (.s AL nL cL) nL (lv.flatMap LoadV.cells)]).F [D,an fb [vh,.b big,.s AL2 (nL+1) cL2,vp,vs,vi] 33,ay 74 4 (.s AL2 (nL+1) cL2) (nL+1) ((lv++ [x]).flatMap LoadV.cells)] w'∧∀w,D.φ w → SlI' .u64 w x.vn ld.nums)∨((∀s,ed big raw s=none)∧e= .returned (.b false)∧St w (Res.all [an fb [vh,.b big,.s AL nL cL,vp,vs,vi] 33,ay 74 4 (.s AL nL cL) nL (lv.flatMap LoadV.cells)]).F [] w'):=by
 refine aA (args:= [.pt fb,.i 3,.i 0,.sl gr or_ nr cr]) Tryd.func32 Z Z Z ?_
 have H0:St _ _ [an fb [vh,.b big,.s AL nL cL,vp,vs,vi] 33,ay 74 4 (.s AL nL cL) nL (lv.flatMap LoadV.cells)] _:=h0
 refine sr (av (.b false) Z (wn (ad ?_)))
 have hrl:=hrr.1
 by_cases hfit:12≤nr
 ·
  obtain⟨ys,hys⟩: ∃q,q=(raw.drop 0).take 12:=⟨_,rfl⟩
  have hbys:Byt ys:=by rw[hys];exact(hrb.drop _).take _
  obtain⟨q8,d⟩: ∃q:Nat,(q:Int)=n4 big (ys.drop 8):=⟨(n4 big (ys.drop 8)).toNat,Int.toNat_of_nonneg (ba big (hbys.drop _)).1⟩
  have E:(q8:Int)<4294967296:=by rw[d];exact(ba big (hbys.drop _)).2
  have hNL:bF big (List.replicate 3 4) raw= [n4 big (ys.drop 0),n4 big (ys.drop 4),↑q8]:=by rw[d,hys];exact nZ big 3 12 (by omega) raw
  have H1:=H0.drew
  refine aU MX (fun w'=>w'.cell? ⟨fb,1,none⟩=some (.b big)) (tr 0 6 (Pl.take 7 (Pl.run 6 (Pl.run 8 (tr 9 5 Pl.done))))) (by kernel_rfl) (H1.c 0 1 Z Z) (qm (.pt fb) Z Z (qy Z (ah Z) (qy Z (ab (o:=0) dF Z) (qh Z (fun hS=>ag dc Z hS) (qm (.i 0) Z Z (qy Z (aH (k:= .i64) (c:=3) Z Z Z) (qm (.sl gr or_ nr cr) Z Z (qr Z (ec jN (args:= [.i 3]) Z (aa (dK (n:=3) _ (by omega)) ?_))))))))))
  rintro e w3 ⟨A4,c4,rfl,G⟩
  have H4:=H1.cal0 G
  refine⟨_,Z,⟨H4.c 1 1 Z Z,fun _=>trivial,qr Z (ec jt (args:= [.b big,.s A4 3 c4,.sl gr or_ nr cr]) Z (aa (dW (ws:=List.replicate 3 4) (bs:=raw) big _ (aV (H4.g 0 Z)) (fY _) (hrr.keepB H4.keep hB hgr) hnr (by omega) hrb (by decide) (K:=3) (by rw[fX];omega) (by rw[hNL];rfl) (by omega)) ?_))⟩⟩
  rintro e w6 ⟨gn,on,cB,Dn,rfl,hcB,H,hDn⟩
  rw[hNL]at hDn
  have H7:=H4.cal0 H
  refine⟨_,Z,⟨H7.c 2 1 Z Z,fun _=>trivial,qm (.tuple #[.sl gn on 3 cB,.b true]) Z Z (qy Z (aE (v:= .sl gn on 3 cB) Z Z) (qy Z (aE (v:= .b true) Z Z) (qa (.sl gn on 3 cB) Z Z (qa (.b true) Z Z (pn (ad (sr (mv (.b true) Z (wv Z (bS Z) ?_)))))))))⟩⟩
  refine mv (.b false) Z (aX Z Z (am (v:= .sl gn on 3 cB) Z) (aX Z Z (aK bL Z Z (by omega) (by omega)) (aX Z Z (ag aP Z (show World.cell? _ _=some (.q (↑q8))from(hDn _ (H7.g 0 Z)).cellAt 2 (by omega))) (aX Z Z (am (v:= .sl gr or_ nr cr) Z) (aX Z Z (aO bU Z) (aX Z Z (ao ej be Z (aC (by omega) (by omega))) (aX Z Z (jO Z Z) (wv Z (aD (b:=false) (v:= .b (decide ((↑nr:Int)≤ ↑q8))) Z Z) (wn ?_)))))))))
  refine bK Z (fun r=> ?_) (fun r=> ?_)
  ·
   simp only[bx]at r
   refine sr (av (.b false) Z (wn (rq ?_)))
   exact⟨.inr Z,_,r1 (.b false) Z _ _,.inr ⟨fun s=>by unfold ed;rw[if_neg (by omega),←hys,←d,if_pos (by omega)],Z,H7.sub (List.nil_sublist _)⟩⟩
  ·
   simp only[bx]at r
   refine wk (ad ?_)
   have H9:=H7.drew
   refine dt MX (fun w'=>w'.cell? ⟨fb,2,none⟩=some (.s AL nL cL)) (fun w'=>w'.cell? ⟨gn,on+2,none⟩=some (.q (↑q8))) 20 (tr 0 4 (Pl.takeS 4 (tr 5 7 (Pl.take 13 (Pl.take 14 (Pl.run 12 (Pl.take 15 (Pl.run 16 (Pl.run 17 (Pl.take 18 (Pl.take 19 (Pl.run 20 Pl.done)))))))))))) (by kernel_rfl) Z (H9.c 2 2 Z Z) (show World.cell? _ _=some (.q (↑q8))from(hDn _ (H9.g 0 Z)).cellAt 2 (by omega)) (qm (.pt fb) Z Z (qm (.pt fb) Z Z (qy Z (ah Z) (qy Z (ab (o:=0) dj Z) (qs Z Z (fun _ hS=>ag dH Z hS) (qm (.i 3) Z Z (qm (.sl gr or_ nr cr) Z Z (qm (.sl gr or_ nr cr) Z Z (qm (.sl gn on 3 cB) Z Z (qy Z (aK (a:=⟨gn,on,none⟩) (i:=2) bL Z Z (by omega) (by omega)) (qh Z (fun hS=>ag aP Z hS) ?_)))))))))))
   refine qt Z (fun _ hS=>(aq (l:=q8) (h:=nr) aZ Z (bs Z (by omega) (Int.toNat_natCast _)) bn (by omega) (by omega) (by omega) (by omega):Yv _ _ _ _ (.sl gr (or_+q8) (nr- q8) (cr- q8)) _)) (qm (.sl gn on 3 cB) Z Z (qy Z ((show Yv _ _ _ _ (.s (dC (some ⟨gn,on,none⟩) cB 3 1) 0 (cB- 3)) _ from eo (l:=3) (h:=3) bL Z (bh Z (by omega) Z) (bu _ _) (by omega) (by omega))) (qr Z (ec eA (args:= [.sl gr (or_+q8) (nr- q8) (cr- q8)]) Z (aa (c6 _ ((hrr.keepB H9.keep hB hgr).drop_ q8) (by omega) (by omega)) ?_)))))
   rintro e M ⟨rfl,y⟩
   have t:=H9.cal0 y
   refine⟨_,Z,⟨show World.cell? _ _=some (.q (↑q8))from(hDn _ (t.g 0 Z)).cellAt 2 (by omega),fun _=>t.c 2 2 Z Z,qy Z (yb (ps:= [(0,.i 3),(1,.sl gr or_ nr cr),(2,.str (aF (raw.drop q8))),(3,.s (dC (some ⟨gn,on,none⟩) cB 3 1) 0 (cB- 3))]) (cells:=#[.i 3,.sl gr or_ nr cr,.str (aF (raw.drop q8)),.s (dC (some ⟨gn,on,none⟩) cB 3 1) 0 (cB- 3)]) Z (by kernel_rfl)) (qr Z (kt t (ps:= [(0,.agg #[.i 3,.sl gr or_ nr cr,.str (aF (raw.drop q8)),.s (dC (some ⟨gn,on,none⟩) cB 3 1) 0 (cB- 3)])]) (e:=74) (cs:= [.i 3,.sl gr or_ nr cr,.str (aF (raw.drop q8)),.s (dC (some ⟨gn,on,none⟩) cB 3 1) 0 (cB- 3)]) Z (by kernel_rfl) (fun N O I f=>⟨show World.cell? _ _=some (.q (↑q8))from(hDn _ (f.g 1 Z)).cellAt 2 (by omega),fun _=>f.c 3 2 Z Z,qr Z (bG f 4 (m:=1) (news:= [.i 3,.sl gr or_ nr cr,.str (aF (raw.drop q8)),.s (dC (some ⟨gn,on,none⟩) cB 3 1) 0 (cB- 3)]) Z kT kY Z (by decide) Z Z Z (f.news (i:=0) Z) (by simp[Value.oneCell']) (by simp only[maxLen];omega) (by omega) (fun P Q j=> ?_))⟩)))⟩⟩
   obtain⟨J,L,rfl,_,_⟩:=aw (j.g 4 rfl)
   refine⟨show World.cell? _ _=some (.q (↑q8))from(hDn _ (j.g 1 Z)).cellAt 2 (by omega),fun _=>j.c 3 2 Z Z,qy Z (ah Z) (qy Z (ab (o:=0) dj Z) (dJ Z (es j 3 2 (.s J (nL+1) L) Z dH (fun R u=> ?_))))⟩
   refine⟨show World.cell? _ _=some (.q (↑q8))from(hDn _ (u.g 1 Z)).cellAt 2 (by omega),fun h=>absurd h (by decide),pn (sr (av (.b true) Z (wn (aY ?_))))⟩
   have hcur:lv.flatMap LoadV.cells++ [.i 3,.sl gr or_ nr cr,.str (aF (raw.drop q8)),.s (dC (some ⟨gn,on,none⟩) cB 3 1) 0 (cB- 3)]=(lv++ [(LoadV.mk (⟨3,raw,aF (raw.drop q8),[]⟩:LoadD) (.sl gr or_ nr cr) (.s (dC (some ⟨gn,on,none⟩) cB 3 1) 0 (cB- 3)))]).flatMap LoadV.cells:=by rw[List.flatMap_append,List.flatMap_singleton];rfl
   rw[hcur]at u
   exact⟨.inr Z,_,r1 (.b true) Z _ _,.inl ⟨(⟨3,raw,aF (raw.drop q8),[]⟩:LoadD),(LoadV.mk (⟨3,raw,aF (raw.drop q8),[]⟩:LoadD) (.sl gr or_ nr cr) (.s (dC (some ⟨gn,on,none⟩) cB 3 1) 0 (cB- 3))),_,_,Dn,fun s=>by unfold ed;rw[if_neg (by omega),←hys,←d,Int.toNat_natCast,if_neg (by omega)],Z,Z,Z,Z,u.re [1,3,4],fun w hd=>⟨_,_,_,Z,RI.nil _ _ _⟩⟩⟩
 ·
  have z:=H0.drew
  refine aU MX (fun w'=>w'.cell? ⟨fb,1,none⟩=some (.b big)) (tr 0 6 (Pl.take 7 (Pl.run 6 (Pl.run 8 (tr 9 5 Pl.done))))) (by kernel_rfl) (z.c 0 1 Z Z) (qm (.pt fb) Z Z (qy Z (ah Z) (qy Z (ab (o:=0) dF Z) (qh Z (fun hS=>ag dc Z hS) (qm (.i 0) Z Z (qy Z (aH (k:= .i64) (c:=3) Z Z Z) (qm (.sl gr or_ nr cr) Z Z (qr Z (ec jN (args:= [.i 3]) Z (aa (dK (n:=3) _ (by omega)) ?_))))))))))
  rintro e S ⟨A4,c4,rfl,A⟩
  have p:=z.cal0 A
  refine⟨_,Z,⟨p.c 1 1 Z Z,fun _=>trivial,qr Z (ec jt (args:= [.b big,.s A4 3 c4,.sl gr or_ nr cr]) Z (aa (eK (ws:=List.replicate 3 4) (bs:=raw) big _ (aV (p.g 0 Z)) (fY _) (hrr.keepB p.keep hB hgr) hnr (by omega) hrb (by decide) (by rw[fX];omega)) ?_))⟩⟩
  rintro e T ⟨rfl,B⟩
  have C:=p.cal0 B
  refine⟨_,Z,⟨C.c 1 1 Z Z,fun _=>trivial,qm (.tuple #[.ns,.b false]) Z Z (qy Z (aE (v:= .ns) Z Z) (qy Z (aE (v:= .b false) Z Z) (qa (.ns) Z Z (qa (.b false) Z Z (pn (ad (sr (mv (.b false) Z (wv Z (bS Z) ?_)))))))))⟩⟩
  refine mv (.b true) Z (ck Z Z (ck Z Z (ck Z Z (ck Z Z (ck Z Z (ck Z Z (ck Z Z (wv Z (aD (b:=true) (v:= .b true) Z Z) (wn (aB Z (sr ?_)))))))))))
  refine av (.b false) Z (wn (rq ?_))
  exact⟨.inr Z,_,r1 (.b false) Z _ _,.inr ⟨fun s=>by unfold ed;rw[if_pos (by omega)],Z,C.sub (List.nil_sublist _)⟩⟩
theorem vE{fb gr or_ nr cr base:Nat}{nL cL:Nat}{AL:Option Addr}{lv:List LoadV}{vh vp vs vi:Value}{raw:List Int}(big:Bool)(w:World)(h0:St w (Res.all [an fb [vh,.b big,.s AL nL cL,vp,vs,vi] 33,ay 74 4 (.s AL nL cL) nL (lv.flatMap LoadV.cells)]).F [an fb [vh,.b big,.s AL nL cL,vp,vs,vi] 33,ay 74 4 (.s AL nL cL) nL (lv.flatMap LoadV.cells)] w)(hB: ∀g,(Res.all [an fb [vh,.b big,.s AL nL cL,vp,vs,vi] 33,ay 74 4 (.s AL nL cL) nL (lv.flatMap LoadV.cells)]).F g → base≤g)(hbw:base≤w.heap.size)(hrr:RI .u8 w (some ⟨gr,or_,none⟩) nr raw)(hrb:Byt raw)(hnr:nr≤cr)(hnN:nr<10485760)(hgr:gr<base)(hnL:nL≤10485760):
 Calls Tryd.prog 32 #[.pt fb,.i 2,.i 3,.sl gr or_ nr cr] w fun e w'=>(∃(ld:LoadD) (x:LoadV) (AL2:Option Addr) (cL2:Nat) (D:Res),(∀s,eZ big raw s=some {s with loads:=s.loads++ [ld]})∧x.l=ld∧ld.raw=raw∧x.vr= .sl gr or_ nr cr∧e= .returned (.b true)∧St w (Res.all [an fb [vh,.b big,.s AL nL cL,vp,vs,vi] 33,ay 74 4 (.s AL nL cL) nL (lv.flatMap LoadV.cells)]).F [D,an fb [vh,.b big,.s AL2 (nL+1) cL2,vp,vs,vi] 33,ay 74 4 (.s AL2 (nL+1) cL2) (nL+1) ((lv++ [x]).flatMap LoadV.cells)] w'∧∀w,D.φ w → SlI' .u64 w x.vn ld.nums)∨((∀s,eZ big raw s=none)∧e= .returned (.b false)∧St w (Res.all [an fb [vh,.b big,.s AL nL cL,vp,vs,vi] 33,ay 74 4 (.s AL nL cL) nL (lv.flatMap LoadV.cells)]).F [] w'):=by
 refine aA (args:= [.pt fb,.i 2,.i 3,.sl gr or_ nr cr]) Tryd.func32 Z Z Z ?_
 have H0:St _ _ [an fb [vh,.b big,.s AL nL cL,vp,vs,vi] 33,ay 74 4 (.s AL nL cL) nL (lv.flatMap LoadV.cells)] _:=h0
 refine sr (av (.b false) Z (wn (ad ?_)))
 have hrl:=hrr.1
 by_cases hfit:24≤nr
 ·
  obtain⟨ys,hys⟩: ∃q,q=(raw.drop 0).take 24:=⟨_,rfl⟩
  have hbys:Byt ys:=by rw[hys];exact(hrb.drop _).take _
  obtain⟨q8,d⟩: ∃q:Nat,(q:Int)=n4 big (ys.drop 8):=⟨(n4 big (ys.drop 8)).toNat,Int.toNat_of_nonneg (ba big (hbys.drop _)).1⟩
  have E:(q8:Int)<4294967296:=by rw[d];exact(ba big (hbys.drop _)).2
  have hNL:bF big (List.replicate 6 4) raw= [n4 big (ys.drop 0),n4 big (ys.drop 4),↑q8,n4 big (ys.drop 12),n4 big (ys.drop 16),n4 big (ys.drop 20)]:=by rw[d,hys];exact nZ big 6 24 (by omega) raw
  have H1:=H0.drew
  refine aU MX (fun w'=>w'.cell? ⟨fb,1,none⟩=some (.b big)) (tr 0 6 (Pl.take 7 (Pl.run 6 (Pl.run 8 (tr 9 5 Pl.done))))) (by kernel_rfl) (H1.c 0 1 Z Z) (qm (.pt fb) Z Z (qy Z (ah Z) (qy Z (ab (o:=0) dF Z) (qh Z (fun hS=>ag dc Z hS) (qm (.i 3) Z Z (qy Z (aH (k:= .i64) (c:=6) Z Z Z) (qm (.sl gr or_ nr cr) Z Z (qr Z (ec jN (args:= [.i 6]) Z (aa (dK (n:=6) _ (by omega)) ?_))))))))))
  rintro e w3 ⟨A4,c4,rfl,G⟩
  have H4:=H1.cal0 G
  refine⟨_,Z,⟨H4.c 1 1 Z Z,fun _=>trivial,qr Z (ec jt (args:= [.b big,.s A4 6 c4,.sl gr or_ nr cr]) Z (aa (dW (ws:=List.replicate 6 4) (bs:=raw) big _ (aV (H4.g 0 Z)) (fY _) (hrr.keepB H4.keep hB hgr) hnr (by omega) hrb (by decide) (K:=6) (by rw[fX];omega) (by rw[hNL];rfl) (by omega)) ?_))⟩⟩
  rintro e w6 ⟨gn,on,cB,Dn,rfl,hcB,H,hDn⟩
  rw[hNL]at hDn
  have H7:=H4.cal0 H
  refine⟨_,Z,⟨H7.c 2 1 Z Z,fun _=>trivial,qm (.tuple #[.sl gn on 6 cB,.b true]) Z Z (qy Z (aE (v:= .sl gn on 6 cB) Z Z) (qy Z (aE (v:= .b true) Z Z) (qa (.sl gn on 6 cB) Z Z (qa (.b true) Z Z (pn (ad (sr (mv (.b true) Z (wv Z (bS Z) ?_)))))))))⟩⟩
  refine mv (.b false) Z (aX Z Z (am (v:= .sl gn on 6 cB) Z) (aX Z Z (aK bL Z Z (by omega) (by omega)) (aX Z Z (ag aP Z (show World.cell? _ _=some (.q (↑q8))from(hDn _ (H7.g 0 Z)).cellAt 2 (by omega))) (aX Z Z (am (v:= .sl gr or_ nr cr) Z) (aX Z Z (aO bU Z) (aX Z Z (ao ej be Z (aC (by omega) (by omega))) (aX Z Z (jO Z Z) (wv Z (aD (b:=false) (v:= .b (decide ((↑nr:Int)≤ ↑q8))) Z Z) (wn ?_)))))))))
  refine bK Z (fun r=> ?_) (fun r=> ?_)
  ·
   simp only[bx]at r
   refine sr (av (.b false) Z (wn (rq ?_)))
   exact⟨.inr Z,_,r1 (.b false) Z _ _,.inr ⟨fun s=>by unfold eZ;rw[if_neg (by omega),←hys,←d,if_pos (by omega)],Z,H7.sub (List.nil_sublist _)⟩⟩
  ·
   simp only[bx]at r
   refine wk (ad ?_)
   have H9:=H7.drew
   refine dt MX (fun w'=>w'.cell? ⟨fb,2,none⟩=some (.s AL nL cL)) (fun w'=>w'.cell? ⟨gn,on+2,none⟩=some (.q (↑q8))) 20 (tr 0 4 (Pl.takeS 4 (tr 5 7 (Pl.take 13 (Pl.take 14 (Pl.run 12 (Pl.take 15 (Pl.run 16 (Pl.run 17 (Pl.take 18 (Pl.take 19 (Pl.run 20 Pl.done)))))))))))) (by kernel_rfl) Z (H9.c 2 2 Z Z) (show World.cell? _ _=some (.q (↑q8))from(hDn _ (H9.g 0 Z)).cellAt 2 (by omega)) (qm (.pt fb) Z Z (qm (.pt fb) Z Z (qy Z (ah Z) (qy Z (ab (o:=0) dj Z) (qs Z Z (fun _ hS=>ag dH Z hS) (qm (.i 2) Z Z (qm (.sl gr or_ nr cr) Z Z (qm (.sl gr or_ nr cr) Z Z (qm (.sl gn on 6 cB) Z Z (qy Z (aK (a:=⟨gn,on,none⟩) (i:=2) bL Z Z (by omega) (by omega)) (qh Z (fun hS=>ag aP Z hS) ?_)))))))))))
   refine qt Z (fun _ hS=>(aq (l:=q8) (h:=nr) aZ Z (bs Z (by omega) (Int.toNat_natCast _)) bn (by omega) (by omega) (by omega) (by omega):Yv _ _ _ _ (.sl gr (or_+q8) (nr- q8) (cr- q8)) _)) (qm (.sl gn on 6 cB) Z Z (qt Z (fun _ hS=>(aq (l:=3) (h:=6) bL Z (bs Z (by omega) Z) bn (by omega) (by omega) (by omega) (by omega):Yv _ _ _ _ (.sl gn (on+3) 3 (cB- 3)) _)) (qr Z (ec eA (args:= [.sl gr (or_+q8) (nr- q8) (cr- q8)]) Z (aa (c6 _ ((hrr.keepB H9.keep hB hgr).drop_ q8) (by omega) (by omega)) ?_)))))
   rintro e M ⟨rfl,y⟩
   have t:=H9.cal0 y
   refine⟨_,Z,⟨show World.cell? _ _=some (.q (↑q8))from(hDn _ (t.g 0 Z)).cellAt 2 (by omega),fun _=>t.c 2 2 Z Z,qy Z (yb (ps:= [(0,.i 2),(1,.sl gr or_ nr cr),(2,.str (aF (raw.drop q8))),(3,.sl gn (on+3) 3 (cB- 3))]) (cells:=#[.i 2,.sl gr or_ nr cr,.str (aF (raw.drop q8)),.sl gn (on+3) 3 (cB- 3)]) Z (by kernel_rfl)) (qr Z (kt t (ps:= [(0,.agg #[.i 2,.sl gr or_ nr cr,.str (aF (raw.drop q8)),.sl gn (on+3) 3 (cB- 3)])]) (e:=74) (cs:= [.i 2,.sl gr or_ nr cr,.str (aF (raw.drop q8)),.sl gn (on+3) 3 (cB- 3)]) Z (by kernel_rfl) (fun N O I f=>⟨show World.cell? _ _=some (.q (↑q8))from(hDn _ (f.g 1 Z)).cellAt 2 (by omega),fun _=>f.c 3 2 Z Z,qr Z (bG f 4 (m:=1) (news:= [.i 2,.sl gr or_ nr cr,.str (aF (raw.drop q8)),.sl gn (on+3) 3 (cB- 3)]) Z kT kY Z (by decide) Z Z Z (f.news (i:=0) Z) (by simp[Value.oneCell']) (by simp only[maxLen];omega) (by omega) (fun P Q j=> ?_))⟩)))⟩⟩
   obtain⟨J,L,rfl,_,_⟩:=aw (j.g 4 rfl)
   refine⟨show World.cell? _ _=some (.q (↑q8))from(hDn _ (j.g 1 Z)).cellAt 2 (by omega),fun _=>j.c 3 2 Z Z,qy Z (ah Z) (qy Z (ab (o:=0) dj Z) (dJ Z (es j 3 2 (.s J (nL+1) L) Z dH (fun R u=> ?_))))⟩
   refine⟨show World.cell? _ _=some (.q (↑q8))from(hDn _ (u.g 1 Z)).cellAt 2 (by omega),fun h=>absurd h (by decide),pn (sr (av (.b true) Z (wn (aY ?_))))⟩
   have hcur:lv.flatMap LoadV.cells++ [.i 2,.sl gr or_ nr cr,.str (aF (raw.drop q8)),.sl gn (on+3) 3 (cB- 3)]=(lv++ [(LoadV.mk (⟨2,raw,aF (raw.drop q8),[n4 big (ys.drop 12),n4 big (ys.drop 16),n4 big (ys.drop 20)]⟩:LoadD) (.sl gr or_ nr cr) (.sl gn (on+3) 3 (cB- 3)))]).flatMap LoadV.cells:=by rw[List.flatMap_append,List.flatMap_singleton];rfl
   rw[hcur]at u
   exact⟨.inr Z,_,r1 (.b true) Z _ _,.inl ⟨(⟨2,raw,aF (raw.drop q8),[n4 big (ys.drop 12),n4 big (ys.drop 16),n4 big (ys.drop 20)]⟩:LoadD),(LoadV.mk (⟨2,raw,aF (raw.drop q8),[n4 big (ys.drop 12),n4 big (ys.drop 16),n4 big (ys.drop 20)]⟩:LoadD) (.sl gr or_ nr cr) (.sl gn (on+3) 3 (cB- 3))),_,_,Dn,fun s=>by unfold eZ;rw[if_neg (by omega),←hys,←d,Int.toNat_natCast,if_neg (by omega)],Z,Z,Z,Z,u.re [1,3,4],fun w hd=>⟨_,_,_,Z,(hDn _ hd).drop_ 3⟩⟩⟩
 ·
  have z:=H0.drew
  refine aU MX (fun w'=>w'.cell? ⟨fb,1,none⟩=some (.b big)) (tr 0 6 (Pl.take 7 (Pl.run 6 (Pl.run 8 (tr 9 5 Pl.done))))) (by kernel_rfl) (z.c 0 1 Z Z) (qm (.pt fb) Z Z (qy Z (ah Z) (qy Z (ab (o:=0) dF Z) (qh Z (fun hS=>ag dc Z hS) (qm (.i 3) Z Z (qy Z (aH (k:= .i64) (c:=6) Z Z Z) (qm (.sl gr or_ nr cr) Z Z (qr Z (ec jN (args:= [.i 6]) Z (aa (dK (n:=6) _ (by omega)) ?_))))))))))
  rintro e S ⟨A4,c4,rfl,A⟩
  have p:=z.cal0 A
  refine⟨_,Z,⟨p.c 1 1 Z Z,fun _=>trivial,qr Z (ec jt (args:= [.b big,.s A4 6 c4,.sl gr or_ nr cr]) Z (aa (eK (ws:=List.replicate 6 4) (bs:=raw) big _ (aV (p.g 0 Z)) (fY _) (hrr.keepB p.keep hB hgr) hnr (by omega) hrb (by decide) (by rw[fX];omega)) ?_))⟩⟩
  rintro e T ⟨rfl,B⟩
  have C:=p.cal0 B
  refine⟨_,Z,⟨C.c 1 1 Z Z,fun _=>trivial,qm (.tuple #[.ns,.b false]) Z Z (qy Z (aE (v:= .ns) Z Z) (qy Z (aE (v:= .b false) Z Z) (qa (.ns) Z Z (qa (.b false) Z Z (pn (ad (sr (mv (.b false) Z (wv Z (bS Z) ?_)))))))))⟩⟩
  refine mv (.b true) Z (ck Z Z (ck Z Z (ck Z Z (ck Z Z (ck Z Z (ck Z Z (ck Z Z (wv Z (aD (b:=true) (v:= .b true) Z Z) (wn (aB Z (sr ?_)))))))))))
  refine av (.b false) Z (wn (rq ?_))
  exact⟨.inr Z,_,r1 (.b false) Z _ _,.inr ⟨fun s=>by unfold eZ;rw[if_pos (by omega)],Z,C.sub (List.nil_sublist _)⟩⟩
end Go.Proofs.YtlndedfkgiafhaaDoor
