import Derived.Test.YtlndedfkgiafhaaDoorXAN
set_option linter.unusedVariables false
set_option linter.unusedSimpArgs false
set_option maxRecDepth 100000
set_option maxHeartbeats 4000000
namespace Go.Proofs.YtlndedfkgiafhaaDoor
open Go Go.RowKit Go.Proofs
theorem CK8:bg Tryd.prog 8:=aL (by kernel_rfl)
theorem BU:bg Tryd.prog 10:=aL (by kernel_rfl)
theorem CK9:bg Tryd.prog 9:=aL (by kernel_rfl)
theorem Bg:Tryd.prog.underlying 46=some (.slice (Tryd.prog.elem 46)):=by kernel_rfl
theorem TS46:cJ Tryd.prog 46 27 1:=bX (by kernel_rfl)
theorem wx{fl:Int}{AP AD AV:Option Addr}{nP cP nD cD nV cV:Nat}{ps xs vs:List Int}{a0 a1:Addr}{a b:Int}(w:World)(hG:Glob 224 w a0 a1)(hw4:4≤w.heap.size)(hf0:0≤fl)(hf1x:fl<4294967296)(hrP:RI .u32 w AP nP ps)(hwP:W32 ps)(hcP:nP≤cP)(hrD:RI .u8 w AD nD xs)(hbD:Byt xs)(hrV:RI .u64 w AV nV vs)(hwV: ∀i,0≤vs.getD i 0∧vs.getD i 0≤18446744073709551615)(hcV:nV≤cV)(hmP:nP≤9223372036854775807)(hmD:nD≤9223372036854775807)(hmV:nV≤9223372036854775807)(ha0:0≤a)(ha1:a<65536):
 Calls Tryd.prog 5 #[.w fl,.s AP nP cP,.s AD nD cD,.s AV nV cV,.h a,.w b] w fun e w'=>e= .returned (.b true)∧St w aR [] w':=by
 refine aA (args:= [.w fl,.s AP nP cP,.s AD nD cD,.s AV nV cV,.h a,.w b]) Tryd.func5 Z Z Z ?_
 have H0:=St.nil w aR
 refine sr (av (.b false) Z (wn (ad (sr (mv (.s AP nP cP) Z (wv Z (aO l5 Z) (wv Z (eM Z Z) (mv (.b (decide ((2147483647:Int)< ↑nP))) Z ?_))))))))
 generalize u:(decide ((2147483647:Int)< ↑nP))=bb
 cases bb
 ·
  simp only[bx]at u
  refine aX Z Z (am (v:= .s AD nD cD) Z) (aX Z Z (aO bU Z) (aX Z Z (eM Z Z) (wv Z (aD (b:=false) (v:= .b (decide ((2147483647:Int)< ↑nD))) Z Z) (mv (.b (decide ((2147483647:Int)< ↑nD))) Z ?_))))
  generalize x:(decide ((2147483647:Int)< ↑nD))=bb
  cases bb
  ·
   simp only[bx]at x
   refine aX Z Z (am (v:= .s AV nV cV) Z) (aX Z Z (aO o4 Z) (aX Z Z (eM Z Z) (wv Z (aD (b:=false) (v:= .b (decide ((2147483647:Int)< ↑nV))) Z Z) (wn ?_))))
   refine bK Z (fun r=> ?_) (fun r=> ?_)
   ·
    simp only[bx]at r
    refine sr (av (.b true) Z (wn (rq ?_)))
    exact⟨.inr Z,_,r1 (.b true) Z _ _,⟨Z,H0.sub (List.nil_sublist _)⟩⟩
   ·
    simp only[bx]at r
    refine wk (ad (sr (mv (.s AP nP cP) Z (mv (.s AD nD cD) Z (mv (.s AV nV cV) Z (wE [.s AP nP cP,.s AD nD cD,.s AV nV cV] CK8 Z Z (aa (xb _) ?_)))))))
    rintro e w5 ⟨bf,rfl,hbf,L⟩
    have H6:=H0.cal0 L
    refine⟨_,Z,wv Z (bS Z) (wn ?_)⟩
    refine bK Z (fun t=> ?_) (fun t=> ?_)
    ·
     simp only[bx]at t
     refine sr (av (.b true) Z (wn (rq ?_)))
     exact⟨.inr Z,_,r1 (.b true) Z _ _,⟨Z,H6.sub (List.nil_sublist _)⟩⟩
    ·
     simp only[bx]at t
     refine wk (sr (mv (.w fl) Z (mv (.s AP nP cP) Z (mv (.s AD nD cD) Z (mv (.s AV nV cV) Z (wE [.w fl,.s AP nP cP,.s AD nD cD,.s AV nV cV] BU Z Z ?_))))))
     obtain⟨U,O,V⟩:=hbf (by assumption)
     refine aa (nK _ hf0 hf1x (hrP.keep0 H6.keep) hwP hcP (hrD.keep0 H6.keep) hbD O (hrV.keep0 H6.keep) hwV hcV) ?_
     rintro e w9 ⟨M,rfl,D,hD,P⟩
     have y:=H6.cal0 P
     refine⟨_,Z,wE [.agg M.cells.toArray] CK9 Z Z (aa (mb (M:=M) _ (hD _ (y.g 0 Z))) ?_)⟩
     rintro e W ⟨gh,x2,x3,x4,x5,A,N,C,c,hs,ys,rfl,Q,h5,X,Y,hhl,hN,hyb,B⟩
     have E:=y.cal0 B
     have hNC:=hH (E.g 0 rfl)
     refine⟨_,Z,mv (.tuple #[.agg #[.sl gh 0 7 7,.b M.big,x2,x3,x4,x5],.s A N C]) Z (we (.agg #[.sl gh 0 7 7,.b M.big,x2,x3,x4,x5]) Z Z (we (.s A N C) Z Z (wm Z (gQ E fF (fun R ac S=>ws (bE S 0 (vs:= [.sl gh 0 7 7,.b M.big,x2,x3,x4,x5]) (m:=6) Z jw Z Z Z (nl Z) (AK Z Z Q) (cs':= [.sl gh 0 7 7,.b M.big,x2,x3,x4,x5]) Z (fun ae p=> ?_)))))))⟩
     refine av (.s A N C) Z (wn (sr (wf iE Z (wv Z (p.ld 0 Z eD Z (.sl gh 0 7 7) Z) (wv Z (aK bL Z Z (by omega) (by omega)) (wv Z (ag aP Z (p.cell (i:=2) (k:=5) Z (y6 (by omega) h5))) (wv Z (ao db kK Z (a5 (by omega) (by omega))) ?_)))))))
     obtain⟨hd,hhd⟩: ∃z:Nat,28+c= ↑z:=⟨(28+c).toNat,by omega⟩
     refine wv Z (aH (k:= .i64) (c:= ↑hd) Z Z (by rw[a5 (by omega) (by omega)];omega)) (ai (↑hd) Z (wn (sr (mv (.h a) Z (wv Z (ao rP kK Z (a5 (by omega) (by omega))) (mi (↑hd) Z (wv Z (px (k:= .i64) (c:= ↑(hd / 4)) Z Z (by decide) (by rw[Int.tdiv_eq_ediv_of_nonneg (by omega),a5 (by omega) (by omega)];omega)) ?_)))))))
     obtain⟨m,hm,hml⟩:=Aa (a:=a) ((hd / 4)) (by omega)
     refine wv Z (gg (c:= ↑m) Z Z (by omega) (by omega) (by first|exact hm|(rw[←hm];congr 1))) (wv Z (cM (k:= .i64) (c:= ↑(4*m)) Z Z (by rw[a5 (by omega) (by omega)];omega)) (ai (↑(4*m)) Z (wn (ad ?_))))
     obtain⟨⟨gr,rfl⟩,_⟩:=eQ (p.g 1 rfl) (by omega)
     have F:=p.drew
     refine aU MX (fun w'=>w'.cell? ⟨R,1,none⟩=some (.b M.big)) (tr 0 7 (Pl.run 7 (Pl.run 8 Pl.done))) (by kernel_rfl) (F.c 0 1 Z Z) (qm (.sl gr 0 N C) Z Z (qm (.i (↑(4*m))) Z Z (qt Z (fun _ hS=>(aq (l:=(4*m)) (h:=N) aZ Z (bs Z (by omega) (Int.toNat_natCast _)) bn (by omega) (by omega) (by omega) (by omega):Yv _ _ _ _ (.sl gr (4*m) (N-(4*m)) (C-(4*m))) _)) (qy Z (ab (o:=0) dF Z) (qh Z (fun hS=>ag dc Z hS) (qm (.w b) Z Z ?_))))))
     obtain⟨G,H⟩: ∃z:Int,IntKind.u64.wrap b=z:=⟨_,rfl⟩
     refine qy Z (ao (c:=G) bv be Z H) (qr Z (ec yw (args:= [.b M.big,.i 4,.q G]) Z (aa (lN M.big (n:=4) _ (by omega)) ?_)))
     rintro e af ⟨ah,aj,d,rfl,-,I,J⟩
     have j:=F.cal0 J
     refine⟨_,Z,⟨j.c 1 1 Z Z,fun _=>trivial,qr Z ?_⟩⟩
     obtain⟨⟨g8,rfl⟩,_⟩:=eQ (j.g 0 rfl) (by omega)
     have hzl:=(aV (j.g 0 rfl)).1
     refine pJ j 2 (vs:=nums .u8 d) Z Z Z (yD (sLen:=4) bB wF (aV (j.g 0 Z)) (by omega)) (by rw[bQ];omega) (fun ak f=> ?_)
     rw[show(nums .u8 ys).take (4*m)++nums .u8 d++(nums .u8 ys).drop (4*m+(nums .u8 d).length)=nums .u8 (ys.take (4*m)++d++ys.drop (4*m+4)) by rw[bQ,hzl];simp[nums]]at f
     refine⟨f.c 1 1 Z Z,fun _=>trivial,pn (sr (ms gr 0 N C Z (wE [.sl gr 0 N C] CK7 Z Z (aa (sM _ (hG.keep f.keep fun k hk=>hk.elim) (by omega) (by omega) (aV (f.g 2 Z)) (((hyb.take _).app I).app (hyb.drop _)) (Nat.le_trans hw4 f.keep.size)) ?_))))⟩
     rintro e al ⟨rfl,K⟩
     have T:=f.cal0 K
     refine⟨_,Z,av (.b true) Z (wn (aY ?_))⟩
     exact⟨.inr Z,_,r1 (.b true) Z _ _,⟨Z,T.sub (List.nil_sublist _)⟩⟩
  ·
   simp only[bx]at x
   refine ck Z Z (ck Z Z (ck Z Z (wv Z (aD (b:=true) (v:= .b true) Z Z) (wn (aB Z (sr (av (.b true) Z (wn (rq ?_)))))))))
   exact⟨.inr Z,_,r1 (.b true) Z _ _,⟨Z,H0.sub (List.nil_sublist _)⟩⟩
 ·
  simp only[bx]at u
  refine ck Z Z (ck Z Z (ck Z Z (wv Z (aD (b:=true) (v:= .b true) Z Z) (mv (.b true) Z (ck Z Z (ck Z Z (ck Z Z (wv Z (aD (b:=true) (v:= .b true) Z Z) (wn (aB Z (sr ?_)))))))))))
  refine av (.b true) Z (wn (rq ?_))
  exact⟨.inr Z,_,r1 (.b true) Z _ _,⟨Z,H0.sub (List.nil_sublist _)⟩⟩
end Go.Proofs.YtlndedfkgiafhaaDoor
