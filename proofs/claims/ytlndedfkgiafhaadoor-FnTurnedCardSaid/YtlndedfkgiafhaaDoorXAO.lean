import Derived.Test.YtlndedfkgiafhaaDoorXAN
set_option linter.unusedVariables false
set_option linter.unusedSimpArgs false
set_option maxRecDepth 100000
set_option maxHeartbeats 4000000
namespace Go.Proofs.YtlndedfkgiafhaaDoor
open Go Go.RowKit Go.Proofs
theorem CK8:bg Tryd.prog 8:=aL (by kernel_rfl)
theorem BU:bg Tryd.prog 10:=aL (by kernel_rfl)
theorem CK9:bg Tryd.prog 9:=aL (by kernel_rfl)
theorem Bg:Tryd.prog.underlying 46=some (.slice (Tryd.prog.elem 46)):=by kernel_rfl
theorem TS46:cJ Tryd.prog 46 27 1:=bX (by kernel_rfl)
theorem tq{fl:Int}{AP AD AV:Option Addr}{nP cP nD cD nV cV:Nat}{ps xs vs:List Int}{a0 a1:Addr}{AT AY:Option Addr}{nT cT nY cY:Nat}{ts bs:List Int}(w:World)(hG:Glob 224 w a0 a1)(hw4:4≤w.heap.size)(hf0:0≤fl)(hf1x:fl<4294967296)(hrP:RI .u32 w AP nP ps)(hwP:W32 ps)(hcP:nP≤cP)(hrD:RI .u8 w AD nD xs)(hbD:Byt xs)(hrV:RI .u64 w AV nV vs)(hwV: ∀i,0≤vs.getD i 0∧vs.getD i 0≤18446744073709551615)(hcV:nV≤cV)(hmP:nP≤9223372036854775807)(hmD:nD≤9223372036854775807)(hmV:nV≤9223372036854775807)(hrT:RI .u16 w AT nT ts)(hwT: ∀i,0≤ts.getD i 0∧ts.getD i 0<65536)(hcT:nT≤cT)(hmT:nT≤9223372036854775807)(hrY:RI .u8 w AY nY bs)(hbY:Byt bs)(hmY:nY≤9223372036854775807):
 Calls Tryd.prog 6 #[.w fl,.s AP nP cP,.s AD nD cD,.s AV nV cV,.s AT nT cT,.s AY nY cY] w fun e w'=>e= .returned (.b true)∧St w aR [] w':=by
 refine aA (args:= [.w fl,.s AP nP cP,.s AD nD cD,.s AV nV cV,.s AT nT cT,.s AY nY cY]) Tryd.func6 Z Z Z ?_
 have H0:=St.nil w aR
 refine sr (av (.b false) Z (wn (ad (sr (mv (.s AP nP cP) Z (wv Z (aO l5 Z) (wv Z (eM Z Z) (mv (.b (decide ((2147483647:Int)< ↑nP))) Z ?_))))))))
 generalize F:(decide ((2147483647:Int)< ↑nP))=bb
 cases bb
 ·
  simp only[bx]at F
  refine aX Z Z (am (v:= .s AD nD cD) Z) (aX Z Z (aO bU Z) (aX Z Z (eM Z Z) (wv Z (aD (b:=false) (v:= .b (decide ((2147483647:Int)< ↑nD))) Z Z) (mv (.b (decide ((2147483647:Int)< ↑nD))) Z ?_))))
  generalize G:(decide ((2147483647:Int)< ↑nD))=bb
  cases bb
  ·
   simp only[bx]at G
   refine aX Z Z (am (v:= .s AV nV cV) Z) (aX Z Z (aO o4 Z) (aX Z Z (eM Z Z) (wv Z (aD (b:=false) (v:= .b (decide ((2147483647:Int)< ↑nV))) Z Z) (mv (.b (decide ((2147483647:Int)< ↑nV))) Z ?_))))
   generalize H:(decide ((2147483647:Int)< ↑nV))=bb
   cases bb
   ·
    simp only[bx]at H
    refine aX Z Z (am (v:= .s AT nT cT) Z) (aX Z Z (aO Bg Z) (aX Z Z (eM Z Z) (wv Z (aD (b:=false) (v:= .b (decide ((2147483647:Int)< ↑nT))) Z Z) (mv (.b (decide ((2147483647:Int)< ↑nT))) Z ?_))))
    generalize I:(decide ((2147483647:Int)< ↑nT))=bb
    cases bb
    ·
     simp only[bx]at I
     refine aX Z Z (am (v:= .s AY nY cY) Z) (aX Z Z (aO bU Z) (aX Z Z (eM Z Z) (wv Z (aD (b:=false) (v:= .b (decide ((2147483647:Int)< ↑nY))) Z Z) (wn ?_))))
     refine bK Z (fun u=> ?_) (fun u=> ?_)
     ·
      simp only[bx]at u
      refine sr (av (.b true) Z (wn (rq ?_)))
      exact⟨.inr Z,_,r1 (.b true) Z _ _,⟨Z,H0.sub (List.nil_sublist _)⟩⟩
     ·
      simp only[bx]at u
      refine wk (ad (sr (mv (.s AP nP cP) Z (mv (.s AD nD cD) Z (mv (.s AV nV cV) Z (wE [.s AP nP cP,.s AD nD cD,.s AV nV cV] CK8 Z Z (aa (xb _) ?_)))))))
      rintro e w7 ⟨bf,rfl,hbf,T⟩
      have H8:=H0.cal0 T
      refine⟨_,Z,wv Z (bS Z) (wn ?_)⟩
      refine bK Z (fun B=> ?_) (fun B=> ?_)
      ·
       simp only[bx]at B
       refine sr (av (.b true) Z (wn (rq ?_)))
       exact⟨.inr Z,_,r1 (.b true) Z _ _,⟨Z,H8.sub (List.nil_sublist _)⟩⟩
      ·
       simp only[bx]at B
       refine wk (sr (mv (.w fl) Z (mv (.s AP nP cP) Z (mv (.s AD nD cD) Z (mv (.s AV nV cV) Z (wE [.w fl,.s AP nP cP,.s AD nD cD,.s AV nV cV] BU Z Z ?_))))))
       obtain⟨af,U,ah⟩:=hbf (by assumption)
       refine aa (nK _ hf0 hf1x (hrP.keep0 H8.keep) hwP hcP (hrD.keep0 H8.keep) hbD U (hrV.keep0 H8.keep) hwV hcV) ?_
       rintro e aj ⟨M,rfl,D,hD,J⟩
       have K:=H8.cal0 J
       refine⟨_,Z,wE [.agg M.cells.toArray] CK9 Z Z (aa (mb (M:=M) _ (hD _ (K.g 0 Z))) ?_)⟩
       rintro e al ⟨gh,x2,x3,x4,x5,A,N,C,c,hs,ys,rfl,V,h5,an,ap,hhl,hN,hyb,L⟩
       have O:=K.cal0 L
       have hNC:=hH (O.g 0 rfl)
       refine⟨_,Z,mv (.tuple #[.agg #[.sl gh 0 7 7,.b M.big,x2,x3,x4,x5],.s A N C]) Z (we (.agg #[.sl gh 0 7 7,.b M.big,x2,x3,x4,x5]) Z Z (we (.s A N C) Z Z (wm Z (gQ O fF (fun aq au W=>ws (bE W 0 (vs:= [.sl gh 0 7 7,.b M.big,x2,x3,x4,x5]) (m:=6) Z jw Z Z Z (nl Z) (AK Z Z V) (cs':= [.sl gh 0 7 7,.b M.big,x2,x3,x4,x5]) Z (fun X P=> ?_)))))))⟩
       refine av (.s A N C) Z (wn (ad (sr (mv (.s AT nT cT) Z (mv (.s AT nT cT) Z (wv Z (aO Bg Z) ?_))))))
       obtain⟨qT,hqT,hqTa,hqTb⟩: ∃z:Nat,(if(3:Int)< ↑nT then(3:Int)else ↑nT)= ↑z∧z≤3∧z≤nT:=⟨Nat.min 3 nT,by simp only[Nat.min_def];split<;>split<;>omega,Nat.min_le_left _ _,Nat.min_le_right _ _⟩
       refine wv Z (i7 (c:= ↑qT) Z Z hqT) (wv Z (iP (h:=qT) TS46 Z (bh Z (by omega) (by omega)) (by omega)) (wv Z (aO Bg Z) (mi 0 Z (wn (a6 ?_)))))
       obtain⟨⟨gr,rfl⟩,_⟩:=eQ (P.g 1 rfl) (by omega)
       have Y:St w aR [ay 5 1 (.sl gr 0 N C) N (nums .u8 ys)] X:=P.re [1]
       refine bA (fun ρ w'=> ∃(i:Nat) (zs:List Int),ρ 5= .s AY nY cY∧ρ 14= .sl gr 0 N C∧ρ 58= .s AT qT cT∧ρ 59= .i (↑qT)∧ρ 60= .i ↑i∧i≤qT∧Byt zs∧St w aR [ay 5 1 (.sl gr 0 N C) N (nums .u8 zs)] w') (fun ρ _=>qT+1- nv (ρ 60)) (⟨0,_,Z,Z,Z,Z,Z,Nat.zero_le _,hyb,Y⟩) ?_
       rintro Q aw ⟨i,zs,p,d,j,l,f,ax,hzs,o⟩
       refine sr (wv Z (bR f l) (wn (ad ?_)))
       refine bK Z (fun q=> ?_) (fun q=> ?_)
       ·
        simp only[bx]at q
        refine wk (ad (a6 (sr ?_)))
        obtain⟨gT,oT,eT,hct⟩:=hrT.at_ (show i<nT by omega)
        have hxb:=hwT i
        generalize hxi:ts.getD i 0=x at hct hxb
        refine mg f Z (wv Z (bi (i) TS46 (Eq.trans j (p7 eT)) f (by omega) (by omega) (by rw[Nat.mul_one])) (wv Z (ag iF Z (o.kc hct)) (ai (↑i) Z (av (.h x) Z (wn (sr (mi (↑i) Z (mg p Z (wv Z (aO bU Z) (wv Z (bR Z Z) (wn ?_)))))))))))
        refine bK Z (fun r=> ?_) (fun r=> ?_)
        ·
         simp only[bx]at r
         obtain⟨gY,oY,eY,hcy⟩:=hrY.at_ (show i<nY by omega)
         have t:=hbY i
         generalize hyi:bs.getD i 0=y at hcy t
         have R:=o.drew
         refine aU MX (fun w'=>w'.cell? ⟨gY,oY+i,none⟩=some (.e y)) (tr 0 11 (Pl.run 11 Pl.done)) (by kernel_rfl) (R.kc hcy) (qm (.sl gr 0 N C) Z d (qm (.h x) Z Z (qy Z (ao (c:=x) rP kK Z (a5 (by omega) (by omega))) (qm (.sl gr 0 N C) Z d (qy Z (aO (n:=N) bU Z) ?_)))))
         obtain⟨m,hm,hml⟩:=Aa (a:=x) (N) (by omega)
         refine qy Z (gg (c:= ↑m) Z Z (by omega) (by omega) (by first|exact hm|(rw[←hm];congr 1))) (qm (.s AY nY cY) Z p (qm (.i (↑i)) Z Z (qy Z (bi (i) aZ (Eq.trans Z (p7 eY)) Z (by omega) (by omega) (by rw[Nat.mul_one])) (qh Z (fun hS=>ag dq Z hS) (qy Z (bi m aZ Z Z Z (by omega) (show 0+m*1=m by omega)) (dJ Z (xe R 0 (k:=m) (v:= .e y) Z dq Z (by omega) Z Z (fun az E=> ?_))))))))
         rw[r8]at E
         refine⟨E.kc hcy,fun _=>trivial,ca (ak (ac (ae (wv Z (aH (k:= .i64) (c:= ↑i+1) f Z (a5 (by omega) (by omega))) (mi (↑i+1) Z (wn ?_))))))⟩
         exact⟨⟨i+1,_,p,d,j,l,Z,by omega,(hzs.set t m),E.re [0]⟩,by show qT+1- nv (.i (↑i+1))<qT+1- nv (Q 60);rw[f];simp only[nv];omega⟩
        ·
         simp only[bx]at r
         refine dw (ak (ac (ae (wv Z (aH (k:= .i64) (c:= ↑i+1) f Z (a5 (by omega) (by omega))) (mi (↑i+1) Z (wn ?_))))))
         exact⟨⟨i+1,_,p,d,j,l,Z,by omega,hzs,o.re [0]⟩,by show qT+1- nv (.i (↑i+1))<qT+1- nv (Q 60);rw[f];simp only[nv];omega⟩
       ·
        simp only[bx]at q
        refine bq (ar (ar (aQ (ac (sr (mg d Z (wE [.sl gr 0 N C] CK7 Z Z (aa (sM _ (hG.keep o.keep fun k hk=>hk.elim) (by omega) (by omega) (aV (o.g 0 Z)) hzs (Nat.le_trans hw4 o.keep.size)) ?_))))))))
        rintro e a2 ⟨rfl,S⟩
        have ab:=o.cal0 S
        refine⟨_,Z,av (.b true) Z (wn (aY ?_))⟩
        exact⟨.inr Z,_,r1 (.b true) Z _ _,⟨Z,ab.sub (List.nil_sublist _)⟩⟩
    ·
     simp only[bx]at I
     refine ck Z Z (ck Z Z (ck Z Z (wv Z (aD (b:=true) (v:= .b true) Z Z) (wn (aB Z (sr (av (.b true) Z (wn (rq ?_)))))))))
     exact⟨.inr Z,_,r1 (.b true) Z _ _,⟨Z,H0.sub (List.nil_sublist _)⟩⟩
   ·
    simp only[bx]at H
    refine ck Z Z (ck Z Z (ck Z Z (wv Z (aD (b:=true) (v:= .b true) Z Z) (mv (.b true) Z (ck Z Z (ck Z Z (ck Z Z (wv Z (aD (b:=true) (v:= .b true) Z Z) (wn (aB Z (sr ?_)))))))))))
    refine av (.b true) Z (wn (rq ?_))
    exact⟨.inr Z,_,r1 (.b true) Z _ _,⟨Z,H0.sub (List.nil_sublist _)⟩⟩
  ·
   simp only[bx]at G
   refine ck Z Z (ck Z Z (ck Z Z (wv Z (aD (b:=true) (v:= .b true) Z Z) (mv (.b true) Z (ck Z Z (ck Z Z (ck Z Z (wv Z (aD (b:=true) (v:= .b true) Z Z) (mv (.b true) Z (ck Z Z (ck Z Z ?_)))))))))))
   refine ck Z Z (wv Z (aD (b:=true) (v:= .b true) Z Z) (wn (aB Z (sr (av (.b true) Z (wn (rq ?_)))))))
   exact⟨.inr Z,_,r1 (.b true) Z _ _,⟨Z,H0.sub (List.nil_sublist _)⟩⟩
 ·
  simp only[bx]at F
  refine ck Z Z (ck Z Z (ck Z Z (wv Z (aD (b:=true) (v:= .b true) Z Z) (mv (.b true) Z (ck Z Z (ck Z Z (ck Z Z (wv Z (aD (b:=true) (v:= .b true) Z Z) (mv (.b true) Z (ck Z Z (ck Z Z ?_)))))))))))
  refine ck Z Z (wv Z (aD (b:=true) (v:= .b true) Z Z) (mv (.b true) Z (ck Z Z (ck Z Z (ck Z Z (wv Z (aD (b:=true) (v:= .b true) Z Z) (wn (aB Z (sr (av (.b true) Z (wn ?_)))))))))))
  refine rq ?_
  exact⟨.inr Z,_,r1 (.b true) Z _ _,⟨Z,H0.sub (List.nil_sublist _)⟩⟩
end Go.Proofs.YtlndedfkgiafhaaDoor
