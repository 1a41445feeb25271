import Derived.Test.YtlndedfkgiafhaaDoorXAN
set_option linter.unusedVariables false
set_option linter.unusedSimpArgs false
set_option maxRecDepth 100000
set_option maxHeartbeats 4000000
namespace Go.Proofs.YtlndedfkgiafhaaDoor
open Go Go.RowKit Go.Proofs
theorem CK8:bg Tryd.prog 8:=aL (by kernel_rfl)
theorem BU:bg Tryd.prog 10:=aL (by kernel_rfl)
theorem CK9:bg Tryd.prog 9:=aL (by kernel_rfl)
theorem Bg:Tryd.prog.underlying 46=some (.slice (Tryd.prog.elem 46)):=by kernel_rfl
theorem TS46:cJ Tryd.prog 46 27 1:=bX (by kernel_rfl)
theorem z7{fl:Int}{AP AD AV:Option Addr}{nP cP nD cD nV cV:Nat}{ps xs vs:List Int}{a0 a1:Addr}{AB:Option Addr}{nB cB:Nat}{bs:List Int}{a:Int}(w:World)(hG:Glob 224 w a0 a1)(hw4:4≤w.heap.size)(hf0:0≤fl)(hf1x:fl<4294967296)(hrP:RI .u32 w AP nP ps)(hwP:W32 ps)(hcP:nP≤cP)(hrD:RI .u8 w AD nD xs)(hbD:Byt xs)(hrV:RI .u64 w AV nV vs)(hwV: ∀i,0≤vs.getD i 0∧vs.getD i 0≤18446744073709551615)(hcV:nV≤cV)(hmP:nP≤9223372036854775807)(hmD:nD≤9223372036854775807)(hmV:nV≤9223372036854775807)(hrB:RI .u8 w AB nB bs)(hbB:Byt bs)(hmB:nB≤9223372036854775807)(ha0:0≤a)(ha1:a<65536):
 Calls Tryd.prog 4 #[.w fl,.s AP nP cP,.s AD nD cD,.s AV nV cV,.s AB nB cB,.h a] w fun e w'=>e= .returned (.b true)∧St w aR [] w':=by
 refine aA (args:= [.w fl,.s AP nP cP,.s AD nD cD,.s AV nV cV,.s AB nB cB,.h a]) Tryd.func4 Z Z Z ?_
 have H0:=St.nil w aR
 refine sr (av (.b false) Z (wn (ad (sr (mv (.s AP nP cP) Z (wv Z (aO l5 Z) (wv Z (eM Z Z) (mv (.b (decide ((2147483647:Int)< ↑nP))) Z ?_))))))))
 generalize o:(decide ((2147483647:Int)< ↑nP))=bb
 cases bb
 ·
  simp only[bx]at o
  refine aX Z Z (am (v:= .s AD nD cD) Z) (aX Z Z (aO bU Z) (aX Z Z (eM Z Z) (wv Z (aD (b:=false) (v:= .b (decide ((2147483647:Int)< ↑nD))) Z Z) (mv (.b (decide ((2147483647:Int)< ↑nD))) Z ?_))))
  generalize p:(decide ((2147483647:Int)< ↑nD))=bb
  cases bb
  ·
   simp only[bx]at p
   refine aX Z Z (am (v:= .s AV nV cV) Z) (aX Z Z (aO o4 Z) (aX Z Z (eM Z Z) (wv Z (aD (b:=false) (v:= .b (decide ((2147483647:Int)< ↑nV))) Z Z) (mv (.b (decide ((2147483647:Int)< ↑nV))) Z ?_))))
   generalize q:(decide ((2147483647:Int)< ↑nV))=bb
   cases bb
   ·
    simp only[bx]at q
    refine aX Z Z (am (v:= .s AB nB cB) Z) (aX Z Z (aO bU Z) (aX Z Z (eM Z Z) (wv Z (aD (b:=false) (v:= .b (decide ((2147483647:Int)< ↑nB))) Z Z) (wn ?_))))
    refine bK Z (fun l=> ?_) (fun l=> ?_)
    ·
     simp only[bx]at l
     refine sr (av (.b true) Z (wn (rq ?_)))
     exact⟨.inr Z,_,r1 (.b true) Z _ _,⟨Z,H0.sub (List.nil_sublist _)⟩⟩
    ·
     simp only[bx]at l
     refine wk (ad (sr (mv (.s AP nP cP) Z (mv (.s AD nD cD) Z (mv (.s AV nV cV) Z (wE [.s AP nP cP,.s AD nD cD,.s AV nV cV] CK8 Z Z (aa (xb _) ?_)))))))
     rintro e w6 ⟨bf,rfl,hbf,E⟩
     have H7:=H0.cal0 E
     refine⟨_,Z,wv Z (bS Z) (mv (.b (!bf)) Z ?_)⟩
     generalize r:(!bf)=bb
     cases bb
     ·
      simp only[bx]at r
      refine aX Z Z (am (v:= .s AB nB cB) Z) (aX Z Z (aO bU Z) (aX Z Z (eM Z Z) (wv Z (aD (b:=false) (v:= .b (decide ((500:Int)< ↑nB))) Z Z) (wn ?_))))
      refine bK Z (fun n=> ?_) (fun n=> ?_)
      ·
       simp only[bx]at n
       refine sr (av (.b true) Z (wn (rq ?_)))
       exact⟨.inr Z,_,r1 (.b true) Z _ _,⟨Z,H7.sub (List.nil_sublist _)⟩⟩
      ·
       simp only[bx]at n
       refine wk (sr (mv (.w fl) Z (mv (.s AP nP cP) Z (mv (.s AD nD cD) Z (mv (.s AV nV cV) Z (wE [.w fl,.s AP nP cP,.s AD nD cD,.s AV nV cV] BU Z Z ?_))))))
       obtain⟨K,F,L⟩:=hbf (by assumption)
       refine aa (nK _ hf0 hf1x (hrP.keep0 H7.keep) hwP hcP (hrD.keep0 H7.keep) hbD F (hrV.keep0 H7.keep) hwV hcV) ?_
       rintro e O ⟨M,rfl,D,hD,t⟩
       have u:=H7.cal0 t
       refine⟨_,Z,wE [.agg M.cells.toArray] CK9 Z Z (aa (mb (M:=M) _ (hD _ (u.g 0 Z))) ?_)⟩
       rintro e P ⟨gh,x2,x3,x4,x5,A,N,C,c,hs,ys,rfl,G,h5,Q,R,hhl,hN,hyb,x⟩
       have y:=u.cal0 x
       have hNC:=hH (y.g 0 rfl)
       refine⟨_,Z,mv (.tuple #[.agg #[.sl gh 0 7 7,.b M.big,x2,x3,x4,x5],.s A N C]) Z (we (.agg #[.sl gh 0 7 7,.b M.big,x2,x3,x4,x5]) Z Z (we (.s A N C) Z Z (wm Z (gQ y fF (fun S T H=>ws (bE H 0 (vs:= [.sl gh 0 7 7,.b M.big,x2,x3,x4,x5]) (m:=6) Z jw Z Z Z (nl Z) (AK Z Z G) (cs':= [.sl gh 0 7 7,.b M.big,x2,x3,x4,x5]) Z (fun U z=> ?_)))))))⟩
       refine av (.s A N C) Z (wn (sr (mv (.s A N C) Z (mv (.s AB nB cB) Z (wm Z (bY z 1 (m:=nB) (news:=nums .u8 bs) Z Z Z (fun _=>App.ri (hrB.keep0 z.keep) bB fx bB) Z (by decide) (by simp only[maxLen];omega) (by omega) (fun V W d=> ?_)))))))
       obtain⟨f,j,rfl⟩:=df (d.g 1 rfl)
       rw[bm]at d
       refine av (.s f (N+nB) j) Z (wn (sr (mv (.s f (N+nB) j) Z (mv (.h a) Z (wv Z (ao rP kK Z (a5 (by omega) (by omega))) (mv (.s f (N+nB) j) Z (wv Z (aO bU Z) (wv Z (aH (k:= .i64) (c:= ↑(N+nB)+1) Z Z (a5 (by omega) (by omega))) ?_))))))))
       obtain⟨m,hm,hml⟩:=Aa (a:=a) ((N+nB)+1) (by omega)
       refine wv Z (gg (c:= ↑m) Z Z (by omega) (by omega) (by first|exact hm|(rw[←hm];congr 1))) ?_
       have J:=hH (d.g 1 rfl)
       refine wv Z (iP (h:=m) aZ Z (bh Z (by omega) (by omega)) (by omega)) (wE [.s f m j] CK7 Z Z (aa (sM _ (hG.keep d.keep fun k hk=>hk.elim) (by omega) (by omega) (RI.pre (aV (d.g 1 Z)) (by omega)) (Byt.take (Byt.app hyb hbB) _) (Nat.le_trans hw4 d.keep.size)) ?_))
       rintro e X ⟨rfl,B⟩
       have I:=d.cal0 B
       refine⟨_,Z,av (.b true) Z (wn (aY ?_))⟩
       exact⟨.inr Z,_,r1 (.b true) Z _ _,⟨Z,I.sub (List.nil_sublist _)⟩⟩
     ·
      simp only[bx]at r
      refine ck Z Z (ck Z Z (ck Z Z (wv Z (aD (b:=true) (v:= .b true) Z Z) (wn (aB Z (sr (av (.b true) Z (wn (rq ?_)))))))))
      exact⟨.inr Z,_,r1 (.b true) Z _ _,⟨Z,H7.sub (List.nil_sublist _)⟩⟩
   ·
    simp only[bx]at q
    refine ck Z Z (ck Z Z (ck Z Z (wv Z (aD (b:=true) (v:= .b true) Z Z) (wn (aB Z (sr (av (.b true) Z (wn (rq ?_)))))))))
    exact⟨.inr Z,_,r1 (.b true) Z _ _,⟨Z,H0.sub (List.nil_sublist _)⟩⟩
  ·
   simp only[bx]at p
   refine ck Z Z (ck Z Z (ck Z Z (wv Z (aD (b:=true) (v:= .b true) Z Z) (mv (.b true) Z (ck Z Z (ck Z Z (ck Z Z (wv Z (aD (b:=true) (v:= .b true) Z Z) (wn (aB Z (sr ?_)))))))))))
   refine av (.b true) Z (wn (rq ?_))
   exact⟨.inr Z,_,r1 (.b true) Z _ _,⟨Z,H0.sub (List.nil_sublist _)⟩⟩
 ·
  simp only[bx]at o
  refine ck Z Z (ck Z Z (ck Z Z (wv Z (aD (b:=true) (v:= .b true) Z Z) (mv (.b true) Z (ck Z Z (ck Z Z (ck Z Z (wv Z (aD (b:=true) (v:= .b true) Z Z) (mv (.b true) Z (ck Z Z (ck Z Z ?_)))))))))))
  refine ck Z Z (wv Z (aD (b:=true) (v:= .b true) Z Z) (wn (aB Z (sr (av (.b true) Z (wn (rq ?_)))))))
  exact⟨.inr Z,_,r1 (.b true) Z _ _,⟨Z,H0.sub (List.nil_sublist _)⟩⟩
end Go.Proofs.YtlndedfkgiafhaaDoor
