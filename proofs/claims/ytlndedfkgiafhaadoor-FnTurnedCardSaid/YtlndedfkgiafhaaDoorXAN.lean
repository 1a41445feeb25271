import Derived.Test.YtlndedfkgiafhaaDoorXAM
set_option linter.unusedVariables false
set_option linter.unusedSimpArgs false
set_option maxRecDepth 100000
set_option maxHeartbeats 4000000
namespace Go.Proofs.YtlndedfkgiafhaaDoor
open Go Go.RowKit Go.Proofs
theorem fw:FA 40 1 1:=fa (by kernel_rfl)
theorem td:Tryd.prog.underlying 36=some (.slice (Tryd.prog.elem 36)):=by kernel_rfl
theorem Bc:cJ Tryd.prog 37 61 1:=bX (by kernel_rfl)
theorem yd:dI Tryd.prog 61:=bN (by kernel_rfl)
theorem Be:Tryd.prog.underlying 61=some (.slice (Tryd.prog.elem 61)):=by kernel_rfl
theorem xN:cJ Tryd.prog 36 9 1:=bX (by kernel_rfl)
theorem zF:bg Tryd.prog 18:=aL (by kernel_rfl)
theorem TL38:Tryd.prog.underlying 38=some (.slice (Tryd.prog.elem 38)):=by kernel_rfl
theorem TS38:cJ Tryd.prog 38 22 1:=bX (by kernel_rfl)
theorem TS61:cJ Tryd.prog 61 64 6:=bX (by kernel_rfl)
theorem BC:FA 64 1 1:=fa (by kernel_rfl)
theorem BB:FA 64 2 2:=fa (by kernel_rfl)
theorem BA:FA 64 3 3:=fa (by kernel_rfl)
theorem xW:FA 64 0 0:=fa (by kernel_rfl)
theorem BR:bg Tryd.prog 21:=aL (by kernel_rfl)
theorem BI:FA 40 2 2:=fa (by kernel_rfl)
theorem BH:FA 40 3 3:=fa (by kernel_rfl)
theorem BG:FA 40 4 4:=fa (by kernel_rfl)
theorem BF:FA 40 5 5:=fa (by kernel_rfl)
theorem tm(wide:Bool)(w:World):Calls Tryd.prog 16 #[.b wide] w fun e w'=> ∃(A:Option Addr) (n c:Nat) (D:Res),e= .returned (.s A n c)∧n≤c∧St w aR [D] w'∧∀w,D.φ w → RI .i64 w A n (ia wide):=by
 cases wide
 · exact eI w
 · exact ff w
theorem zH(wide:Bool){A:Option Addr}{n c:Nat}{w:World}(h:RI .i64 w A n (ia wide)):Calls Tryd.prog 15 #[.s A n c] w fun e w'=>e= .returned (.i ↑(dN wide))∧St w aR [] w':=by
 have h2:=gG (cW:=c) w h (dO (iS wide)) (wK h (t3 wide))
 rwa [mD]at h2
theorem BN(big wide:Bool){A B:Option Addr}{n c m d:Nat}{ns:List Int}{w:World}(h:RI .i64 w A n (ia wide))(hN:RI .u64 w B m ns)(hm:m≤d)(hc:10≤m)(hm2:m≤1000):Calls Tryd.prog 20 #[.b big,.s A n c,.s B m d] w fun e w'=> ∃(C:Option Addr) (k:Nat) (ys:List Int),e= .returned (.s C (dN wide) k)∧ys.length=dN wide∧Byt ys∧St w aR [ay 5 1 (.s C (dN wide) k) (dN wide) (nums .u8 ys)] w':=by
 have h2:=sf big (cW:=c) w h (dO (iS wide)) (wK h (t3 wide)) hN hm (Nat.le_trans (xk wide) hc) hm2
 rwa [mD]at h2
theorem mc(wide:Bool)(w:World):Calls Tryd.prog 17 #[.b wide] w fun e w'=> ∃(A:Option Addr) (n c:Nat) (D:Res),e= .returned (.s A n c)∧n≤c∧St w aR [D] w'∧∀w,D.φ w → RI .i64 w A n (fU wide):=by
 cases wide
 · exact eJ w
 · exact fg w
theorem WdSec(wide:Bool){A:Option Addr}{n c:Nat}{w:World}(h:RI .i64 w A n (fU wide)):Calls Tryd.prog 15 #[.s A n c] w fun e w'=>e= .returned (.i ↑(d7 wide))∧St w aR [] w':=by
 have h2:=gG (cW:=c) w h (dO (iU wide)) (wK h (t4 wide))
 rwa [mE]at h2
theorem jZ(big wide:Bool){A B:Option Addr}{n c m d:Nat}{ns:List Int}{w:World}(h:RI .i64 w A n (fU wide))(hN:RI .u64 w B m ns)(hm:m≤d)(hc:10≤m)(hm2:m≤1000):Calls Tryd.prog 20 #[.b big,.s A n c,.s B m d] w fun e w'=> ∃(C:Option Addr) (k:Nat) (ys:List Int),e= .returned (.s C (d7 wide) k)∧ys.length=d7 wide∧Byt ys∧St w aR [ay 5 1 (.s C (d7 wide) k) (d7 wide) (nums .u8 ys)] w':=by
 have h2:=sf big (cW:=c) w h (dO (iU wide)) (wK h (t4 wide)) hN hm (Nat.le_trans (xm wide) hc) hm2
 rwa [mE]at h2
theorem zS(wide:Bool)(w:World):Calls Tryd.prog 22 #[.b wide] w fun e w'=> ∃(A:Option Addr) (n c:Nat) (D:Res),e= .returned (.s A n c)∧n≤c∧St w aR [D] w'∧∀w,D.φ w → RI .i64 w A n (kP wide):=by
 cases wide
 · exact fo w
 · exact fH w
theorem zP(big wide:Bool){A B:Option Addr}{n c m d:Nat}{ns:List Int}{w:World}(h:RI .i64 w A n (kP wide))(hN:RI .u64 w B m ns)(hm:m≤d)(hc:5≤m)(hm2:m≤1000):Calls Tryd.prog 20 #[.b big,.s A n c,.s B m d] w fun e w'=> ∃(C:Option Addr) (k:Nat) (ys:List Int),e= .returned (.s C (dY wide) k)∧ys.length=dY wide∧Byt ys∧St w aR [ay 5 1 (.s C (dY wide) k) (dY wide) (nums .u8 ys)] w':=by
 have h2:=sf big (cW:=c) w h (dO (kO wide)) (wK h (Am wide)) hN hm (Nat.le_trans (yE wide) hc) hm2
 rwa [nG]at h2
theorem si(big:Bool){k n:Nat}{A B:Option Addr}{c m d:Nat}{ns:List Int}{w:World}(h:RI .i64 w A n (List.replicate n 4))(hn:n≤1000)(hk:4*n=k)(hN:RI .u64 w B m ns)(hm:m≤d)(hc:n≤m)(hm2:m≤1000):Calls Tryd.prog 20 #[.b big,.s A n c,.s B m d] w fun e w'=> ∃(C:Option Addr) (q:Nat) (ys:List Int),e= .returned (.s C k q)∧ys.length=k∧Byt ys∧St w aR [ay 5 1 (.s C k q) k (nums .u8 ys)] w':=by
 have h2:=sf big (cW:=c) w h (wR n) hn hN hm (by rw[rD];exact hc) hm2
 rwa [ng,hk]at h2
theorem hH{w:World}{e sz n c:Nat}{A:Option Addr}{xs:List Value}(h:(ay e sz (.s A n c) n xs).φ w):n≤c:=by
 obtain⟨_,_,e1,_,h1⟩:=aw h
 injection e1 with _ _ e1;omega
theorem mb{M:MadeM}(w:World)(hM:M.ok w):
 Calls Tryd.prog 9 #[.agg M.cells.toArray] w fun e w'=> ∃(gh:Nat) (x2 x3 x4 x5:Value) (A:Option Addr) (N C:Nat) (c:Int) (hs ys:List Int),e= .returned (.tuple #[.agg #[.sl gh 0 7 7,.b M.big,x2,x3,x4,x5],.s A N C])∧(∀v ∈ [x2,x3,x4,x5],v.oneCell'=true)∧hs.getD 5 0=c∧28+c≤ ↑N∧0≤c∧hs.length=7∧N≤100000∧Byt ys∧St w aR [ay 5 1 (.s A N C) N (nums .u8 ys),an gh (nums .u64 hs) 43] w':=by
 have yH:=zZ M.wide
 have yI:=wQ M.wide
 have yJ:=zY M.wide
 have yK:=hM.nS
 have yM:=hM.nL
 have yN:=hM.nP
 have yO:=hM.nY
 have yP:=hM.nI
 have yQ:=hM.nO
 refine aA (args:= [.agg M.cells.toArray]) Tryd.func9 Z Z Z ?_
 have H0:=St.nil w aR
 refine sr (wm Z (AG H0 (vs:=M.cells) Z Z (fun g1 w1 H2=>wm Z (gQ H2 fF (fun g3 w4 H5=>av (.ns) Z (wn (sr (wf fw Z (wv Z (H5.ld 1 Z dc Z (.b M.big) Z) (wm Z (lj H5 76 [] Z (by kernel_rfl) (fun g6 w7 H8=> ?_))))))))))))
 refine wf l6 Z (wv Z (H8.ld 2 Z eE Z (.s M.AI M.nI M.cI) Z) (wv Z (yb (ps:= [(1,.b M.big),(4,.sl g6 0 0 0),(5,.s M.AI M.nI M.cI)]) (cells:=#[.ns,.b M.big,.ns,.ns,.sl g6 0 0 0,.s M.AI M.nI M.cI]) Z (by kernel_rfl)) (wm Z (gQ H8 fF (fun g9 yR s1=>ws (eN s1 0 [.ns,.b M.big,.ns,.ns,.sl g6 0 0 0,.s M.AI M.nI M.cI] Z jw (fun yS lp=> ?_)))))))
 refine wn (sr (au 4277009102 Z (ai 28 Z (wn ?_))))
 refine eh (fun ρ w'=> ∃L:Int,∃hd:Nat,ρ 1= .pt g1∧ρ 2= .pt g3∧ρ 4= .pt g9∧ρ 5= .q L∧ρ 6= .i (↑hd)∧28≤hd∧hd≤32∧St w aR [an g1 M.cells 40,an g9 [.ns,.b M.big,.ns,.ns,.sl g6 0 0 0,.s M.AI M.nI M.cI] 33,an g3 [.ns,.b false,.ns,.ns,.ns,.ns] 33,an g6 [] 76] w') ?_ ?_
 ·
  refine sr (wf jo Z (wv Z (lp.ld 3 Z dc Z (.b M.wide) Z) (wn ?_)))
  refine bK Z (fun o8=> ?_) (fun o8=> ?_)
  ·
   refine ae (au 4277009103 Z (ai 32 Z (wn ?_)))
   exact⟨_,32,Z,Z,Z,Z,Z,by omega,by omega,lp.re [3,0,2,1]⟩
  ·
   refine wk ?_
   exact⟨_,28,Z,Z,Z,Z,Z,by omega,by omega,lp.re [3,0,2,1]⟩
 ·
  rintro yT s2 ⟨L,hd,ky,o9,oD,oF,oG,yU,yV,oH⟩
  refine sr (ai 104 Z (wn (ad (sr (wv Z (ab oE ky) (wv Z (oH.ld 0 Z jz Z (.s M.AS M.nS M.cS) Z) (wv Z (aO td Z) (mi 0 Z (wn (a6 ?_))))))))))
  have lq:St w aR [an g1 M.cells 40,an g9 [.ns,.b M.big,.ns,.ns,.sl g6 0 0 0,.s M.AI M.nI M.cI] 33,an g3 [.ns,.b false,.ns,.ns,.ns,.ns] 33,an g6 [] 76] s2:=oH.re [0,1,2,3]
  refine bA (fun ρ w'=> ∃(i:Nat) (sz:Nat),ρ 1= .pt g1∧ρ 2= .pt g3∧ρ 4= .pt g9∧ρ 5= .q L∧ρ 6= .i (↑hd)∧ρ 57= .s M.AS M.nS M.cS∧ρ 58= .i (↑M.nS)∧ρ 59= .i ↑i∧i≤M.nS∧ρ 7= .i (↑sz)∧sz≤104+312*i∧St w aR [an g1 M.cells 40,an g9 [.ns,.b M.big,.ns,.ns,.sl g6 0 0 0,.s M.AI M.nI M.cI] 33,an g3 [.ns,.b false,.ns,.ns,.ns,.ns] 33,an g6 [] 76] w') (fun ρ _=>M.nS+1- nv (ρ 59)) (⟨0,104,ky,o9,oD,oF,oG,Z,Z,Z,Nat.zero_le _,Z,by omega,lq⟩) ?_
  rintro s3 s5 ⟨i,sz,cn,kz,k0,k1,k2,lr,gM,fp,yW,k3,tB,ls⟩
  refine sr (wv Z (bR fp gM) (wn (ad ?_)))
  refine bK Z (fun gN=> ?_) (fun gN=> ?_)
  ·
   simp only[bx]at gN
   refine wk (ad (a6 (sr ?_)))
   obtain⟨bt,hbt,gB,oB,eB,hcB⟩:=s4 hM.hB (show i<M.nS by omega)
   change _=some (Value.slice bt.A bt.n bt.c)at hcB
   obtain⟨hbn,hbr,hbo⟩:=hM.hBo bt hbt
   refine mg fp Z (ai (↑i) Z (wn ?_))
   have jh:=ls.drew
   refine aU MX (fun w'=>w'.cell? ⟨g1,0,none⟩=some (.b M.wide)∧w'.cell? ⟨g1,7,none⟩=some (.s M.AB M.nS M.cB)∧w'.cell? ⟨gB,oB+i,none⟩=some (.s bt.A bt.n bt.c)) (tr 0 3 (tr 5 8 (Pl.run 3 (Pl.run 4 (Pl.run 13 (Pl.run 14 (tr 15 4 Pl.done))))))) (by kernel_rfl) (⟨jh.c 0 0 Z Z,jh.c 0 7 Z Z,jh.kc hcB⟩) (qm (.i (↑sz)) Z k3 (qy Z (ab (o:=0) jo cn) (qh Z (fun hS=>ag dc Z hS.1) (qy Z (ab (o:=0) oA cn) (qh Z (fun hS=>ag sd Z hS.2.1) (qm (.i (↑i)) Z Z (qy Z (bi (i) Bc (Eq.trans Z (p7 eB)) Z (by omega) (by omega) (by rw[Nat.mul_one])) (qh Z (fun hS=>ag yd Z hS.2.2) (qy Z (aO (n:=bt.n) Be Z) (qy Z (ab (o:=0) jo cn) (qh Z (fun hS=>ag dc Z hS.1) ?_)))))))))))
   refine qr Z (ec qQ (args:= [.b M.wide]) Z (aa (tm M.wide _) ?_))
   rintro e yX ⟨lu,lv,lw,tC,rfl,-,oI,lx⟩
   have gO:=jh.cal0 oI
   refine⟨_,Z,⟨⟨gO.c 1 0 Z Z,gO.c 1 7 Z Z,gO.kc hcB⟩,fun _=>trivial,qr Z (ec oU (args:= [.s lu lv lw]) Z (aa (zH M.wide (lx _ (gO.g 0 Z))) ?_))⟩⟩
   rintro e yY ⟨rfl,oJ⟩
   have ji:=gO.cal0 oJ
   refine⟨_,Z,⟨⟨ji.c 1 0 Z Z,ji.c 1 7 Z Z,ji.kc hcB⟩,fun _=>trivial,qr Z (ec mB (args:= [.b M.wide]) Z (aa (mc M.wide _) ?_))⟩⟩
   rintro e yZ ⟨ly,lz,l0,tD,rfl,-,oK,l1⟩
   have gP:=ji.cal0 oK
   refine⟨_,Z,⟨⟨gP.c 2 0 Z Z,gP.c 2 7 Z Z,gP.kc hcB⟩,fun _=>trivial,qr Z (ec oU (args:= [.s ly lz l0]) Z (aa (WdSec M.wide (l1 _ (gP.g 0 Z))) ?_))⟩⟩
   rintro e za ⟨rfl,oL⟩
   have jj:=gP.cal0 oL
   refine⟨_,Z,⟨⟨jj.c 2 0 Z Z,jj.c 2 7 Z Z,jj.kc hcB⟩,fun _=>trivial,?_⟩⟩
   obtain⟨q,hq⟩: ∃q:Nat,bt.n*d7 M.wide=q:=⟨_,rfl⟩
   have hqb:q≤240:=by rw[←hq];exact Nat.le_trans (Nat.mul_le_mul hbn (wQ M.wide).2) (by decide)
   refine qy Z (cM (k:= .i64) (c:= ↑q) Z Z (mulw hq (by omega))) (qy Z (aH (k:= .i64) (c:= ↑(dN M.wide)+ ↑q) Z Z (a5 (by omega) (by omega))) (qy Z (aH (k:= .i64) (c:= ↑sz+(↑(dN M.wide)+ ↑q)) Z Z (a5 (by omega) (by omega))) (qa (.i (↑sz+(↑(dN M.wide)+ ↑q))) Z Z (ca (ak (ac (ae (wv Z (aH (k:= .i64) (c:= ↑i+1) fp Z (a5 (by omega) (by omega))) (mi (↑i+1) Z (wn ?_))))))))))
   exact⟨⟨i+1,sz+((dN M.wide)+q),cn,kz,k0,k1,k2,lr,gM,Z,by omega,Z,by omega,jj.re [2,3,4,5]⟩,by show M.nS+1- nv (.i (↑i+1))<M.nS+1- nv (s3 59);rw[fp];simp only[nv];omega⟩
  ·
   simp only[bx]at gN
   refine bq (ar (ar (aQ (ac (ad (sr (wv Z (ab qw cn) (wv Z (ls.ld 0 Z jz Z (.s M.AL M.nL M.cL) Z) (wv Z (aO td Z) (mi 0 Z (wn ?_)))))))))))
   refine a6 ?_
   have oM:St w aR [an g1 M.cells 40,an g9 [.ns,.b M.big,.ns,.ns,.sl g6 0 0 0,.s M.AI M.nI M.cI] 33,an g3 [.ns,.b false,.ns,.ns,.ns,.ns] 33,an g6 [] 76] s5:=ls.re [0,1,2,3]
   refine bA (fun ρ w'=> ∃(i:Nat) (sz:Nat),ρ 1= .pt g1∧ρ 2= .pt g3∧ρ 4= .pt g9∧ρ 5= .q L∧ρ 6= .i (↑hd)∧ρ 82= .s M.AL M.nL M.cL∧ρ 83= .i (↑M.nL)∧ρ 84= .i ↑i∧i≤M.nL∧ρ 7= .i (↑sz)∧sz≤1352+52*i∧St w aR [an g1 M.cells 40,an g9 [.ns,.b M.big,.ns,.ns,.sl g6 0 0 0,.s M.AI M.nI M.cI] 33,an g3 [.ns,.b false,.ns,.ns,.ns,.ns] 33,an g6 [] 76] w') (fun ρ _=>M.nL+1- nv (ρ 84)) (⟨0,sz,cn,kz,k0,k1,k2,Z,Z,Z,Nat.zero_le _,k3,by omega,oM⟩) ?_
   rintro oN oO ⟨i,sz,cD,gR,gU,gV,gW,fq,ft,cE,tE,gX,s6,fu⟩
   refine sr (wv Z (bR cE ft) (wn (ad ?_)))
   refine bK Z (fun gY=> ?_) (fun gY=> ?_)
   ·
    simp only[bx]at gY
    refine wk (ad (a6 (sr ?_)))
    obtain⟨st,hsts,gT,oT,eT,hcst⟩:=rJ hM.hL (show i<M.nL by omega)
    refine wv Z (bi (i) xN (Eq.trans fq (p7 eT)) cE (by omega) (by omega) (by rw[Nat.mul_one])) (wv Z (ag dP Z (fu.kc hcst)) (av (.string st) Z (wn ?_)))
    have oP:=fu.drew
    refine aU MX (fun w'=>w'.cell? ⟨g1,1,none⟩=some (.b M.big)) (tr 0 3 (Pl.take 4 (Pl.run 3 (Pl.run 5 (tr 6 3 Pl.done))))) (by kernel_rfl) (oP.c 0 1 Z Z) (qm (.i (↑sz)) Z gX (qy Z (ab (o:=0) fw cD) (qh Z (fun hS=>ag dc Z hS) (qm (.string st) Z Z (qr Z (rA oP (n:=3) (m:=3) eW jy Z Z Z Z Z (by omega) (by omega) (by omega) (fun oQ s7 s8=> ?_)))))))
    have l2:St w aR [an oQ [.q 0,.q 0,.q 0] 43,an g1 M.cells 40,an g9 [.ns,.b M.big,.ns,.ns,.sl g6 0 0 0,.s M.AI M.nI M.cI] 33,an g3 [.ns,.b false,.ns,.ns,.ns,.ns] 33,an g6 [] 76] s7:=s8
    refine⟨l2.c 1 1 Z Z,fun _=>trivial,qr Z (ec zF (args:= [.b M.big,.q 0,.sl oQ 0 3 3,.string st]) Z (aa (iW M.big _ (aj (m:=3) (xs:= [0,0,0]) (l2.g 0 Z) Z) (by omega) (by omega)) ?_))⟩
    rintro e zb ⟨zc,jk,zd,tF,rfl,tG,-,tI,oR⟩
    have oV:=l2.cal0 oR
    refine⟨_,Z,⟨oV.c 2 1 Z Z,fun _=>trivial,qy Z (aO (n:=jk) bU Z) (qy Z (aH (k:= .i64) (c:= ↑sz+ ↑jk) Z Z (a5 (by omega) (by omega))) (qa (.i (↑sz+ ↑jk)) Z Z (ca (ak (ac (ae (wv Z (aH (k:= .i64) (c:= ↑i+1) cE Z (a5 (by omega) (by omega))) (mi (↑i+1) Z (wn ?_)))))))))⟩⟩
    exact⟨⟨i+1,sz+jk,cD,gR,gU,gV,gW,fq,ft,Z,by omega,Z,by omega,oV.re [2,3,4,5]⟩,by show M.nL+1- nv (.i (↑i+1))<M.nL+1- nv (oN 84);rw[cE];simp only[nv];omega⟩
   ·
    simp only[bx]at gY
    refine bq (ar (ar (aQ (ac (ad (sr (wv Z (ab qv cD) (wv Z (fu.ld 0 Z jz Z (.s M.AP M.nP M.cP) Z) (wv Z (aO td Z) (mi 0 Z (wn ?_)))))))))))
    refine a6 ?_
    have oW:St w aR [an g1 M.cells 40,an g9 [.ns,.b M.big,.ns,.ns,.sl g6 0 0 0,.s M.AI M.nI M.cI] 33,an g3 [.ns,.b false,.ns,.ns,.ns,.ns] 33,an g6 [] 76] oO:=fu.re [0,1,2,3]
    refine bA (fun ρ w'=> ∃(i:Nat) (sz:Nat),ρ 1= .pt g1∧ρ 2= .pt g3∧ρ 4= .pt g9∧ρ 5= .q L∧ρ 6= .i (↑hd)∧ρ 98= .s M.AP M.nP M.cP∧ρ 99= .i (↑M.nP)∧ρ 100= .i ↑i∧i≤M.nP∧ρ 7= .i (↑sz)∧sz≤1508+40*i∧St w aR [an g1 M.cells 40,an g9 [.ns,.b M.big,.ns,.ns,.sl g6 0 0 0,.s M.AI M.nI M.cI] 33,an g3 [.ns,.b false,.ns,.ns,.ns,.ns] 33,an g6 [] 76] w') (fun ρ _=>M.nP+1- nv (ρ 100)) (⟨0,sz,cD,gR,gU,gV,gW,Z,Z,Z,Nat.zero_le _,gX,by omega,oW⟩) ?_
    rintro oX oY ⟨i,sz,cF,ha,hc,he,hf,fv,fz,cG,tJ,hg,s9,dC⟩
    refine sr (wv Z (bR cG fz) (wn (ad ?_)))
    refine bK Z (fun hh=> ?_) (fun hh=> ?_)
    ·
     simp only[bx]at hh
     refine wk (ad (a6 (sr ?_)))
     obtain⟨st,hsts,gT,oT,eT,hcst⟩:=rJ hM.hP (show i<M.nP by omega)
     refine wv Z (bi (i) xN (Eq.trans fv (p7 eT)) cG (by omega) (by omega) (by rw[Nat.mul_one])) (wv Z (ag dP Z (dC.kc hcst)) (av (.string st) Z (wn (ae (mg hg Z (wv Z (ab fw cF) (wv Z (dC.ld 0 Z dc Z (.b M.big) Z) (mv (.string st) Z (wE [.b M.big,.q 0,.ns,.string st] zF Z Z (aa (iW M.big _ (RI.nil _ _ _) (by omega) (by omega)) ?_))))))))))
     rintro e ze ⟨zf,l4,zg,tK,rfl,tL,-,tM,oZ⟩
     have sB:=dC.cal0 oZ
     refine⟨_,Z,wv Z (aO bU Z) (wv Z (aH (k:= .i64) (c:= ↑sz+ ↑l4) Z Z (a5 (by omega) (by omega))) (ai (↑sz+ ↑l4) Z (bk (ak (ac (ae (wv Z (aH (k:= .i64) (c:= ↑i+1) cG Z (a5 (by omega) (by omega))) (mi (↑i+1) Z (wn ?_)))))))))⟩
     exact⟨⟨i+1,sz+l4,cF,ha,hc,he,hf,fv,fz,Z,by omega,Z,by omega,sB.re [1,2,3,4]⟩,by show M.nP+1- nv (.i (↑i+1))<M.nP+1- nv (oX 100);rw[cG];simp only[nv];omega⟩
    ·
     simp only[bx]at hh
     refine bq (ar (ar (aQ (ac ?_))))
     refine eh (fun ρ w'=> ∃sz:Nat,ρ 1= .pt g1∧ρ 2= .pt g3∧ρ 4= .pt g9∧ρ 5= .q L∧ρ 6= .i (↑hd)∧ρ 7= .i (↑sz)∧sz≤1700∧St w aR [an g1 M.cells 40,an g9 [.ns,.b M.big,.ns,.ns,.sl g6 0 0 0,.s M.AI M.nI M.cI] 33,an g3 [.ns,.b false,.ns,.ns,.ns,.ns] 33,an g6 [] 76] w') ?_ ?_
     ·
      refine sr (wv Z (ab mH cF) (wv Z (dC.ld 0 Z uV Z (.s M.AO M.nO M.cO) Z) (wv Z (aO TL38 Z) (mi 0 Z (wn (a6 ?_))))))
      have pa:St w aR [an g1 M.cells 40,an g9 [.ns,.b M.big,.ns,.ns,.sl g6 0 0 0,.s M.AI M.nI M.cI] 33,an g3 [.ns,.b false,.ns,.ns,.ns,.ns] 33,an g6 [] 76] oY:=dC.re [0,1,2,3]
      refine bA (fun ρ w'=> ∃(i:Nat) (sz:Nat),ρ 1= .pt g1∧ρ 2= .pt g3∧ρ 4= .pt g9∧ρ 5= .q L∧ρ 6= .i (↑hd)∧ρ 113= .s M.AO M.nO M.cO∧ρ 114= .i (↑M.nO)∧ρ 115= .i ↑i∧i≤M.nO∧ρ 7= .i (↑sz)∧sz≤1628+16*i∧St w aR [an g1 M.cells 40,an g9 [.ns,.b M.big,.ns,.ns,.sl g6 0 0 0,.s M.AI M.nI M.cI] 33,an g3 [.ns,.b false,.ns,.ns,.ns,.ns] 33,an g6 [] 76] w') (fun ρ _=>M.nO+1- nv (ρ 115)) (⟨0,sz,cF,ha,hc,he,hf,Z,Z,Z,Nat.zero_le _,hg,by omega,pa⟩) ?_
      rintro pb tN ⟨i,sz,hi,hm,hn,ho,hp,dD,dE,cH,tO,hr,sC,ht⟩
      refine sr (wv Z (bR cH dE) (wn (ad ?_)))
      refine bK Z (fun hu=> ?_) (fun hu=> ?_)
      ·
       simp only[bx]at hu
       refine wk (ad (a6 (sr ?_)))
       obtain⟨ot,hot,gT,oT,eT,hct⟩:=s4 hM.hO (show i<M.nO by omega)
       change _=some (Value.slice ot.A ot.n ot.c)at hct
       obtain⟨hon,hor,hob⟩:=hM.hOo ot hot
       refine wv Z (bi (i) TS38 (Eq.trans dD (p7 eT)) cH (by omega) (by omega) (by rw[Nat.mul_one])) (wv Z (ag fe Z (ht.kc hct)) (av (.s ot.A ot.n ot.c) Z (wn (ae (mg hr Z (mv (.s ot.A ot.n ot.c) Z (wv Z (aO bU Z) (wv Z (aH (k:= .i64) (c:=8+ ↑ot.n) Z Z (a5 (by omega) (by omega))) (wv Z (aH (k:= .i64) (c:= ↑sz+(8+ ↑ot.n)) Z Z (a5 (by omega) (by omega))) (ai (↑sz+(8+ ↑ot.n)) Z (bk ?_)))))))))))
       refine ak (ac (ae (wv Z (aH (k:= .i64) (c:= ↑i+1) cH Z (a5 (by omega) (by omega))) (mi (↑i+1) Z (wn ?_)))))
       exact⟨⟨i+1,sz+(8+ot.n),hi,hm,hn,ho,hp,dD,dE,Z,by omega,Z,by omega,ht.re [0,1,2,3]⟩,by show M.nO+1- nv (.i (↑i+1))<M.nO+1- nv (pb 115);rw[cH];simp only[nv];omega⟩
      ·
       simp only[bx]at hu
       refine bq (ar (ar (aQ (ac ?_))))
       exact⟨_,hi,hm,hn,ho,hp,hr,by omega,ht.re [0,1,2,3]⟩
     ·
      rintro tP tQ ⟨sz,eO,hv,hw,hx,l8,l9,hsz,pc⟩
      refine sr (wm Z (lj pc 5 [] Z (by kernel_rfl) (fun eP zh sD=>wm Z (lj sD 5 [] Z (by kernel_rfl) (fun eR gI lA=>eL eP 0 0 0 Z (eL eR 0 0 0 Z (wn (sr (mg l8 Z (mg l9 Z ?_))))))))))
      obtain⟨a0,zi⟩: ∃z:Nat,hd+sz=z:=⟨_,rfl⟩
      refine wv Z (aH (k:= .i64) (c:= ↑a0) Z Z (by rw[a5 (by omega) (by omega)];omega)) (ai (↑a0) Z (wn (sr (ai 1 Z (wn ?_)))))
      refine eh (fun ρ w'=> ∃sg:Int,∃Ac:Option Addr,∃cc:Nat,∃Ar:Option Addr,∃cr:Nat,∃Ay:Option Addr,∃cy:Nat,∃D:Res,ρ 1= .pt g1∧ρ 2= .pt g3∧ρ 4= .pt g9∧ρ 5= .q L∧ρ 15= .s Ac 0 cc∧ρ 16= .s Ar 0 cr∧ρ 17= .i (↑a0)∧ρ 18= .i sg∧0≤sg∧sg≤25∧St w aR [ay 5 1 (.s Ac 0 cc) 0 (nums .u8 ([])),ay 5 1 (.s Ar 0 cr) 0 (nums .u8 ([])),ay 74 4 (.ns) 0 (([]:List LdM).flatMap LdM.cells),ay 72 6 (.ns) 0 ([]),D,ay 76 5 (.s Ay 0 cy) 0 ([]),an g1 M.cells 40,an g9 [.ns,.b M.big,.ns,.ns,.s Ay 0 cy,.s M.AI M.nI M.cI] 33,an g3 [.ns,.b false,.ns,.ns,.ns,.ns] 33] w') ?_ ?_
      ·
       refine sr (wv Z (ab jo eO) (wv Z (lA.ld 2 Z dc Z (.b M.wide) Z) (wn ?_)))
       refine bK Z (fun pd=> ?_) (fun pd=> ?_)
       ·
        refine ae (ai 25 Z (wn ?_))
        have sE:St w aR [an eR [] 5,ay 5 1 (.sl eP 0 0 0) 0 ([]),an g1 M.cells 40,an g9 [.ns,.b M.big,.ns,.ns,.sl g6 0 0 0,.s M.AI M.nI M.cI] 33,an g3 [.ns,.b false,.ns,.ns,.ns,.ns] 33,an g6 [] 76] gI:=lA.rowOf (i:=1) (cap:=0) rfl rfl (by simp[maxLen])
        have sF:St w aR [ay 5 1 (.sl eR 0 0 0) 0 ([]),ay 5 1 (.sl eP 0 0 0) 0 ([]),an g1 M.cells 40,an g9 [.ns,.b M.big,.ns,.ns,.sl g6 0 0 0,.s M.AI M.nI M.cI] 33,an g3 [.ns,.b false,.ns,.ns,.ns,.ns] 33,an g6 [] 76] gI:=sE.rowOf (i:=0) (cap:=0) rfl rfl (by simp[maxLen])
        have sG:St w aR [ay 5 1 (.sl eR 0 0 0) 0 ([]),ay 5 1 (.sl eP 0 0 0) 0 ([]),an g1 M.cells 40,an g9 [.ns,.b M.big,.ns,.ns,.sl g6 0 0 0,.s M.AI M.nI M.cI] 33,an g3 [.ns,.b false,.ns,.ns,.ns,.ns] 33,ay 76 5 (.sl g6 0 0 0) 0 ([])] gI:=sF.rowOf (i:=5) (cap:=0) rfl rfl (by simp[maxLen])
        have sH:=sG.addRow 74 4
        have lq:=sH.addRow 72 6
        have sI:=(lq.reAll [] [3,2,1,0,7,4,5,6]).re [1,2,3,4,0,5,6,7,8]
        exact⟨_,_,_,_,_,_,_,_,eO,hv,hw,hx,Z,Z,Z,Z,by omega,by omega,sI.re [0,1,2,3,4,5,6,7,8]⟩
       ·
        refine wk ?_
        have sJ:St w aR [an eR [] 5,ay 5 1 (.sl eP 0 0 0) 0 ([]),an g1 M.cells 40,an g9 [.ns,.b M.big,.ns,.ns,.sl g6 0 0 0,.s M.AI M.nI M.cI] 33,an g3 [.ns,.b false,.ns,.ns,.ns,.ns] 33,an g6 [] 76] gI:=lA.rowOf (i:=1) (cap:=0) rfl rfl (by simp[maxLen])
        have sK:St w aR [ay 5 1 (.sl eR 0 0 0) 0 ([]),ay 5 1 (.sl eP 0 0 0) 0 ([]),an g1 M.cells 40,an g9 [.ns,.b M.big,.ns,.ns,.sl g6 0 0 0,.s M.AI M.nI M.cI] 33,an g3 [.ns,.b false,.ns,.ns,.ns,.ns] 33,an g6 [] 76] gI:=sJ.rowOf (i:=0) (cap:=0) rfl rfl (by simp[maxLen])
        have sL:St w aR [ay 5 1 (.sl eR 0 0 0) 0 ([]),ay 5 1 (.sl eP 0 0 0) 0 ([]),an g1 M.cells 40,an g9 [.ns,.b M.big,.ns,.ns,.sl g6 0 0 0,.s M.AI M.nI M.cI] 33,an g3 [.ns,.b false,.ns,.ns,.ns,.ns] 33,ay 76 5 (.sl g6 0 0 0) 0 ([])] gI:=sK.rowOf (i:=5) (cap:=0) rfl rfl (by simp[maxLen])
        have sM:=sL.addRow 74 4
        have sN:=sM.addRow 72 6
        have sO:=(sN.reAll [] [3,2,1,0,7,4,5,6]).re [1,2,3,4,0,5,6,7,8]
        exact⟨_,_,_,_,_,_,_,_,eO,hv,hw,hx,Z,Z,Z,Z,by omega,by omega,sO.re [0,1,2,3,4,5,6,7,8]⟩
      ·
       rintro tR pe ⟨sg,Ac,cc,Ar,cr,Ay,cy,D,hz,lB,lC,lD,jl,jn,jp,jq,tS,tT,k4⟩
       refine eh (fun ρ w'=> ∃Ac:Option Addr,∃nc:Nat,∃cc:Nat,∃Ar:Option Addr,∃nr:Nat,∃cr:Nat,∃Al:Option Addr,∃nld:Nat,∃cl:Nat,∃Ap:Option Addr,∃np:Nat,∃cp:Nat,∃ll:List LdM,∃D:Res,∃cs:List Int,∃rs:List Int,ρ 1= .pt g1∧ρ 2= .pt g3∧ρ 4= .pt g9∧ρ 5= .q L∧ρ 15= .s Ac nc cc∧ρ 16= .s Ar nr cr∧ρ 17= .i (↑a0)∧nc≤1248∧nr≤768∧nld≤4∧Byt cs∧Byt rs∧(∀w,D.φ w → ∀l ∈ ll,l.ok w)∧St w aR [ay 5 1 (.s Ac nc cc) nc (nums .u8 cs),ay 5 1 (.s Ar nr cr) nr (nums .u8 rs),ay 74 4 (.s Al nld cl) nld (ll.flatMap LdM.cells),D,ay 76 5 (.s Ay 0 cy) 0 ([]),an g1 M.cells 40,an g9 [.ns,.b M.big,.s Al nld cl,.s Ap np cp,.s Ay 0 cy,.s M.AI M.nI M.cI] 33,an g3 [.ns,.b false,.ns,.ns,.ns,.ns] 33] w') ?_ ?_
       ·
        refine sr (wv Z (ab oE hz) (wv Z (k4.ld 6 Z jz Z (.s M.AS M.nS M.cS) Z) (wv Z (aO td Z) (mi 0 Z (wn (a6 ?_))))))
        have pf:St w aR [ay 5 1 (.s Ac 0 cc) 0 (nums .u8 ([])),ay 5 1 (.s Ar 0 cr) 0 (nums .u8 ([])),ay 74 4 (.ns) 0 (([]:List LdM).flatMap LdM.cells),ay 72 6 (.ns) 0 ([]),D,ay 76 5 (.s Ay 0 cy) 0 ([]),an g1 M.cells 40,an g9 [.ns,.b M.big,.ns,.ns,.s Ay 0 cy,.s M.AI M.nI M.cI] 33,an g3 [.ns,.b false,.ns,.ns,.ns,.ns] 33] pe:=k4.re [0,1,2,3,4,5,6,7,8]
        refine bA (fun ρ w'=> ∃(i:Nat) (Ac:Option Addr) (nc:Nat) (cc:Nat) (Ar:Option Addr) (nr:Nat) (cr:Nat) (Al:Option Addr) (cl:Nat) (ll:List LdM) (Ap:Option Addr) (np:Nat) (cp:Nat) (pl:List Value) (D:Res) (cs:List Int) (rs:List Int),ρ 1= .pt g1∧ρ 2= .pt g3∧ρ 4= .pt g9∧ρ 5= .q L∧ρ 17= .i (↑a0)∧ρ 18= .i sg∧ρ 133= .s M.AS M.nS M.cS∧ρ 134= .i (↑M.nS)∧ρ 135= .i ↑i∧i≤M.nS∧ρ 15= .s Ac nc cc∧ρ 16= .s Ar nr cr∧nc≤312*i∧nr≤192*i∧np≤3*i∧Byt cs∧Byt rs∧(∀w,D.φ w → ∀l ∈ ll,l.ok w)∧St w aR [ay 5 1 (.s Ac nc cc) nc (nums .u8 cs),ay 5 1 (.s Ar nr cr) nr (nums .u8 rs),ay 74 4 (.s Al i cl) i (ll.flatMap LdM.cells),ay 72 6 (.s Ap np cp) np pl,D,ay 76 5 (.s Ay 0 cy) 0 ([]),an g1 M.cells 40,an g9 [.ns,.b M.big,.s Al i cl,.s Ap np cp,.s Ay 0 cy,.s M.AI M.nI M.cI] 33,an g3 [.ns,.b false,.ns,.ns,.ns,.ns] 33] w') (fun ρ _=>M.nS+1- nv (ρ 135)) (⟨0,_,_,_,_,_,_,_,_,[],_,_,_,_,D,[],[],hz,lB,lC,lD,jp,jq,Z,Z,Z,Nat.zero_le _,jl,jn,by omega,by omega,by omega,Byt.nil,Byt.nil,(fun _ _ _ h=>by cases h),pf⟩) ?_
        rintro ph tU ⟨i,Ac,nc,cc,Ar,nr,cr,Al,cl,ll,Ap,np,cp,pl,D,cs,rs,eU,h0,h1,h2,cJ,jr,dF,dG,b9,tV,f0,cK,hnc,hnr,hnp,hcs,hrs,hD,h3⟩
        refine sr (wv Z (bR b9 dG) (wn (ad ?_)))
        refine bK Z (fun h4=> ?_) (fun h4=> ?_)
        ·
         simp only[bx]at h4
         refine wk (ad (a6 (sr ?_)))
         obtain⟨sn,hsns,gS,oS,eS,hcsn⟩:=rJ hM.hS (show i<M.nS by omega)
         obtain⟨bt,hbt,gB,oB,eB,hcB⟩:=s4 hM.hB (show i<M.nS by omega)
         change _=some (Value.slice bt.A bt.n bt.c)at hcB
         obtain⟨hbn,hbr,hbo⟩:=hM.hBo bt hbt
         refine mg b9 Z (wv Z (bi (i) xN (Eq.trans dF (p7 eS)) b9 (by omega) (by omega) (by rw[Nat.mul_one])) (wv Z (ag dP Z (h3.kc hcsn)) (ai (↑i) Z (av (.string sn) Z (wn (sr (mg cJ Z (mg cK Z (wv Z (aO bU Z) ?_)))))))))
         obtain⟨fr,hfr⟩: ∃z:Nat,a0+nr=z:=⟨_,rfl⟩
         refine wv Z (aH (k:= .i64) (c:= ↑fr) Z Z (by rw[a5 (by omega) (by omega)];omega)) (ai (↑fr) Z (wn (sr (wm Z (lj h3 5 [] Z (by kernel_rfl) (fun lE pi lF=>eL lE 0 0 0 Z (wn (ad (sr (wv Z (ab oA eU) (wv Z (lF.ld 7 Z sd Z (.s M.AB M.nS M.cB) Z) ?_)))))))))))
         refine mi (↑i) Z (wv Z (bi (i) Bc (Eq.trans Z (p7 eB)) Z (by omega) (by omega) (by rw[Nat.mul_one])) (wv Z (ag yd Z (lF.kc hcB)) (wv Z (aO Be Z) (mi 0 Z (wn (a6 ?_))))))
         have sP:St w aR [ay 5 1 (.sl lE 0 0 0) 0 ([]),ay 5 1 (.s Ac nc cc) nc (nums .u8 cs),ay 5 1 (.s Ar nr cr) nr (nums .u8 rs),ay 74 4 (.s Al i cl) i (ll.flatMap LdM.cells),ay 72 6 (.s Ap np cp) np pl,D,ay 76 5 (.s Ay 0 cy) 0 ([]),an g1 M.cells 40,an g9 [.ns,.b M.big,.s Al i cl,.s Ap np cp,.s Ay 0 cy,.s M.AI M.nI M.cI] 33,an g3 [.ns,.b false,.ns,.ns,.ns,.ns] 33] pi:=lF.rowOf (i:=0) (cap:=0) rfl rfl (by simp[maxLen])
         have pj:St w aR [ay 5 1 (.sl lE 0 0 0) 0 (nums .u8 ([])),ay 5 1 (.s Ac nc cc) nc (nums .u8 cs),ay 5 1 (.s Ar nr cr) nr (nums .u8 rs),ay 74 4 (.s Al i cl) i (ll.flatMap LdM.cells),ay 72 6 (.s Ap np cp) np pl,D,ay 76 5 (.s Ay 0 cy) 0 ([]),an g1 M.cells 40,an g9 [.ns,.b M.big,.s Al i cl,.s Ap np cp,.s Ay 0 cy,.s M.AI M.nI M.cI] 33,an g3 [.ns,.b false,.ns,.ns,.ns,.ns] 33] pi:=sP.re [0,1,2,3,4,5,6,7,8,9]
         refine bA (fun ρ w'=> ∃(j:Nat) (At:Option Addr) (nt:Nat) (ct:Nat) (Au:Option Addr) (nu:Nat) (cu:Nat) (Aq:Option Addr) (nq:Nat) (cq:Nat) (ql:List Value) (ts:List Int) (us:List Int),ρ 1= .pt g1∧ρ 2= .pt g3∧ρ 4= .pt g9∧ρ 5= .q L∧ρ 15= .s Ac nc cc∧ρ 17= .i (↑a0)∧ρ 18= .i sg∧ρ 19= .i (↑i)∧ρ 20= .string sn∧ρ 21= .i (↑fr)∧ρ 133= .s M.AS M.nS M.cS∧ρ 134= .i (↑M.nS)∧ρ 135= .i (↑i)∧ρ 149= .s bt.A bt.n bt.c∧ρ 150= .i (↑bt.n)∧ρ 151= .i ↑j∧j≤bt.n∧ρ 22= .s At nt ct∧ρ 16= .s Au nu cu∧nt≤80*j∧nu≤nr+64*j∧nr≤nu∧nq≤np+j∧Byt ts∧Byt us∧St w aR [ay 5 1 (.s At nt ct) nt (nums .u8 ts),ay 5 1 (.s Ac nc cc) nc (nums .u8 cs),ay 5 1 (.s Au nu cu) nu (nums .u8 us),ay 74 4 (.s Al i cl) i (ll.flatMap LdM.cells),ay 72 6 (.s Aq nq cq) nq ql,D,ay 76 5 (.s Ay 0 cy) 0 ([]),an g1 M.cells 40,an g9 [.ns,.b M.big,.s Al i cl,.s Aq nq cq,.s Ay 0 cy,.s M.AI M.nI M.cI] 33,an g3 [.ns,.b false,.ns,.ns,.ns,.ns] 33] w') (fun ρ _=>bt.n+1- nv (ρ 151)) (⟨0,_,_,_,_,_,_,_,_,_,_,[],_,eU,h0,h1,h2,f0,cJ,jr,Z,Z,Z,dF,dG,b9,Z,Z,Z,Nat.zero_le _,Z,cK,by omega,by omega,by omega,by omega,Byt.nil,hrs,pj⟩) ?_
         rintro pm tW ⟨j,At,nt,ct,Au,nu,cu,Aq,nq,cq,ql,ts,us,bh,h5,cN,h6,f1,aE,cQ,cR,cT,cU,dI,dL,dM,dO,dR,cV,tX,cW,b7,hnt,hnu,tY,hnq,hts,hus,h7⟩
         refine sr (wv Z (bR cV dR) (wn (ad ?_)))
         refine bK Z (fun h8=> ?_) (fun h8=> ?_)
         ·
          simp only[bx]at h8
          refine wk (ad (a6 (sr ?_)))
          obtain⟨b,hb,gb,ob,eb,hcb⟩:=tt hbr BitM.len6 (by decide) (show j<bt.n by omega)
          obtain⟨zj,zk,zl,sQ,sR,pp,pq⟩:=hbo b hb
          refine wv Z (bi (j) TS61 (Eq.trans dO (p7 eb)) cV (by omega) (by omega) Z) (wv Z (dQ (cs:= [.string b.nm,.q b.q1,.w b.q2,.w b.q3,.s b.B b.nB b.cB,.s b.C b.nC b.cC]) (o:=ob+j*6) Bk Z (fun j v hj=>h7.keep.cell (hcb j v hj) (aW _)) Z) (wm Z (gQ h7 qq (fun X zm sS=>ws (eN sS 0 [.string b.nm,.q b.q1,.w b.q2,.w b.q3,.s b.B b.nB b.cB,.s b.C b.nC b.cC] Z AR (fun zn gJ=> ?_))))))
          refine wn (sr (wf BC Z (wv Z (gJ.ld 0 Z aP Z (.q b.q1) Z) (wf kX Z (wv Z (gJ.ld 0 Z fe Z (.s b.B b.nB b.cB) Z) (wv Z (aO bU Z) ?_))))))
          obtain⟨G,pr⟩: ∃z:Int,IntKind.u64.wrap (↑b.nB)=z:=⟨_,rfl⟩
          refine wv Z (ao (c:=G) ej be Z pr) (mg aE Z (mg b7 Z (wv Z (aO bU Z) (wv Z (aH (k:= .i64) (c:= ↑a0+ ↑nu) Z Z (a5 (by omega) (by omega))) ?_))))
          obtain⟨H,pu⟩: ∃z:Int,IntKind.u64.wrap (↑a0+ ↑nu)=z:=⟨_,rfl⟩
          refine wv Z (ao (c:=H) ej be Z pu) (wf BB Z (wv Z (gJ.ld 0 Z ax Z (.w b.q2) Z) ?_))
          obtain⟨I,pv⟩: ∃z:Int,IntKind.u64.wrap b.q2=z:=⟨_,rfl⟩
          refine wv Z (ao (c:=I) bv be Z pv) (wf jW Z (wv Z (gJ.ld 0 Z eE Z (.s b.C b.nC b.cC) Z) (wv Z (aO l5 Z) ?_)))
          obtain⟨pw,py⟩: ∃z:Int,IntKind.i64.wrap (Int.tdiv (↑b.nC) 2)=z:=⟨_,rfl⟩
          refine wv Z (px (c:=pw) Z Z (by decide) py) ?_
          obtain⟨J,pz⟩: ∃z:Int,IntKind.u64.wrap pw=z:=⟨_,rfl⟩
          refine wv Z (ao (c:=J) ej be Z pz) (wf BA Z (wv Z (gJ.ld 0 Z ax Z (.w b.q3) Z) ?_))
          obtain⟨K,p0⟩: ∃z:Int,IntKind.u64.wrap b.q3=z:=⟨_,rfl⟩
          refine wv Z (ao (c:=K) bv be Z p0) (wm Z (lj gJ 43 [.q b.q1,.q G,.q H,.q I,.q 0,.q J,.q K] Z (by kernel_rfl) (fun P zo lG=>eL P 0 7 7 Z (wn (sr (mg b7 Z (wf kX Z (wv Z (lG.ld 1 Z fe Z (.s b.B b.nB b.cB) Z) (wm Z (bY lG 4 (m:=b.nB) (news:=nums .u8 b.ys) Z Z Z (fun _=>App.ri (sQ.keep0 lG.keep) bB fx bB) Z (by decide) (by simp only[maxLen];omega) (by omega) (fun zp zq h9=> ?_)))))))))))
          obtain⟨f2,f3,rfl⟩:=df (h9.g 4 rfl)
          rw[bm]at h9
          refine av (.s f2 (nu+b.nB) f3) Z (wn (sr (ms P 0 7 7 Z (mg aE Z (mv (.s f2 (nu+b.nB) f3) Z (wv Z (aO bU Z) (wv Z (aH (k:= .i64) (c:= ↑a0+(↑(nu+b.nB))) Z Z (a5 (by omega) (by omega))) ?_)))))))
          obtain⟨p,lH⟩: ∃z:Int,IntKind.u64.wrap (↑a0+(↑(nu+b.nB)))=z:=⟨_,rfl⟩
          refine wv Z (ao (c:=p) ej be Z lH) (wv Z (aK bL Z Z (by omega) (by omega)) (ws (es h9 0 4 (.q p) Z aP (fun tZ p1=> ?_))))
          refine wn (sr (wm Z (lj p1 67 [] Z (by kernel_rfl) (fun hA k5 p2=>eL hA 0 0 0 Z (wn (ad (sr (ai 0 Z (wn (a6 ?_))))))))))
          have p3:St w aR [ay 67 7 (.sl hA 0 0 0) 0 ([]),an P [.q b.q1,.q G,.q H,.q I,.q p,.q J,.q K] 43,an X [.string b.nm,.q b.q1,.w b.q2,.w b.q3,.s b.B b.nB b.cB,.s b.C b.nC b.cC] 64,ay 5 1 (.s At nt ct) nt (nums .u8 ts),ay 5 1 (.s Ac nc cc) nc (nums .u8 cs),ay 5 1 (.s f2 (nu+b.nB) f3) (nu+b.nB) (nums .u8 (us++b.ys)),ay 74 4 (.s Al i cl) i (ll.flatMap LdM.cells),ay 72 6 (.s Aq nq cq) nq ql,D,ay 76 5 (.s Ay 0 cy) 0 ([]),an g1 M.cells 40,an g9 [.ns,.b M.big,.s Al i cl,.s Aq nq cq,.s Ay 0 cy,.s M.AI M.nI M.cI] 33,an g3 [.ns,.b false,.ns,.ns,.ns,.ns] 33] k5:=p2.rowOf (i:=0) (cap:=0) rfl rfl (by simp[maxLen])
          have co:St w aR [ay 5 1 (.s f2 (nu+b.nB) f3) (nu+b.nB) (nums .u8 (us++b.ys)),ay 67 7 (.sl hA 0 0 0) 0 ([]),ay 5 1 (.s At nt ct) nt (nums .u8 ts),ay 5 1 (.s Ac nc cc) nc (nums .u8 cs),ay 74 4 (.s Al i cl) i (ll.flatMap LdM.cells),ay 72 6 (.s Aq nq cq) nq ql,D,ay 76 5 (.s Ay 0 cy) 0 ([]),an X [.string b.nm,.q b.q1,.w b.q2,.w b.q3,.s b.B b.nB b.cB,.s b.C b.nC b.cC] 64,an P [.q b.q1,.q G,.q H,.q I,.q p,.q J,.q K] 43,an g1 M.cells 40,an g9 [.ns,.b M.big,.s Al i cl,.s Aq nq cq,.s Ay 0 cy,.s M.AI M.nI M.cI] 33,an g3 [.ns,.b false,.ns,.ns,.ns,.ns] 33] k5:=p3.re [5,0,3,4,6,7,8,9,2,1,10,11,12]
          refine bA (fun ρ w'=> ∃(k:Nat) (Av:Option Addr) (F cv:Nat) (vs:List Int) (Ax:Option Addr) (cx:Nat) (xl:List Value),ρ 1= .pt g1∧ρ 2= .pt g3∧ρ 4= .pt g9∧ρ 5= .q L∧ρ 15= .s Ac nc cc∧ρ 17= .i (↑a0)∧ρ 18= .i sg∧ρ 19= .i (↑i)∧ρ 20= .string sn∧ρ 21= .i (↑fr)∧ρ 22= .s At nt ct∧ρ 24= .pt X∧ρ 25= .sl P 0 7 7∧ρ 133= .s M.AS M.nS M.cS∧ρ 134= .i (↑M.nS)∧ρ 135= .i (↑i)∧ρ 149= .s bt.A bt.n bt.c∧ρ 150= .i (↑bt.n)∧ρ 151= .i (↑j)∧ρ 27= .i ↑(2*k)∧2*k≤b.nC∧ρ 16= .s Av F cv∧ρ 26= .s Ax k cx∧F=(nu+b.nB)+8*k∧Byt vs∧St w aR [ay 5 1 (.s Av F cv) F (nums .u8 vs),ay 67 7 (.s Ax k cx) k xl,ay 5 1 (.s At nt ct) nt (nums .u8 ts),ay 5 1 (.s Ac nc cc) nc (nums .u8 cs),ay 74 4 (.s Al i cl) i (ll.flatMap LdM.cells),ay 72 6 (.s Aq nq cq) nq ql,D,ay 76 5 (.s Ay 0 cy) 0 ([]),an X [.string b.nm,.q b.q1,.w b.q2,.w b.q3,.s b.B b.nB b.cB,.s b.C b.nC b.cC] 64,an P [.q b.q1,.q G,.q H,.q I,.q p,.q J,.q K] 43,an g1 M.cells 40,an g9 [.ns,.b M.big,.s Al i cl,.s Aq nq cq,.s Ay 0 cy,.s M.AI M.nI M.cI] 33,an g3 [.ns,.b false,.ns,.ns,.ns,.ns] 33] w') (fun ρ _=>b.nC+1- nv (ρ 27)) (⟨0,_,_,_,_,_,_,_,bh,h5,cN,h6,f1,aE,cQ,cR,cT,cU,cW,Z,Z,dI,dL,dM,dO,dR,cV,Z,by omega,Z,Z,by omega,(Byt.app hus sR),co⟩) ?_
          rintro p4 ua ⟨k,Av,F,cv,vs,Ax,cx,xl,e1,e2,e4,e5,cX,cZ,da,db,dd,de,dg,aF,cj,aG,aI,aJ,aL,aM,aN,eV,hk,dh,di,hnv,hvs,hC⟩
          refine ad (sr (mg eV Z (wv Z (aH (k:= .i64) (c:= ↑(2*k)+1) Z Z (a5 (by omega) (by omega))) (wv Z (ab jW aF) (wv Z (hC.ld 8 Z eE Z (.s b.C b.nC b.cC) Z) (wv Z (aO l5 Z) (wv Z (bR Z Z) (wn ?_))))))))
          refine bK Z (fun eX=> ?_) (fun eX=> ?_)
          ·
           simp only[bx]at eX
           refine wk (ad (a6 (ad ?_)))
           have sT:2*k<b.nC:=by omega
           have sU:2*k+1<b.nC:=by omega
           obtain⟨gC,oC,eC,ck⟩:=pp.at_ sT
           obtain⟨gC',oC',eC',cm⟩:=pp.at_ sU
           obtain⟨rfl,rfl⟩:gC=gC'∧oC=oC':=by rw[eC]at eC';injection eC' with e;injection e with e1 e2;exact⟨e1,e2⟩
           have p5:=pq (2*k)
           have p6:=pq (2*k+1)
           generalize zr:b.rs.getD (2*k) 0=gK at ck p5
           generalize zs:b.rs.getD (2*k+1) 0=gL at cm p6
           have dS:=hC.drew
           refine aU MX (fun w'=>w'.cell? ⟨g1,1,none⟩=some (.b M.big)∧w'.cell? ⟨X,5,none⟩=some (.s b.C b.nC b.cC)∧w'.cell? ⟨gC,oC+(2*k),none⟩=some (.w gK)∧w'.cell? ⟨gC,oC+((2*k)+1),none⟩=some (.w gL)) (tr 0 9 (tr 11 9 (Pl.run 9 (Pl.run 10 (Pl.run 20 (Pl.run 21 (Pl.take 22 Pl.done))))))) (by kernel_rfl) (⟨dS.c 10 1 Z Z,dS.c 8 5 Z Z,dS.kc ck,dS.kc cm⟩) (qm (.s Av F cv) Z dh (qy Z (ab (o:=0) fw e1) (qh Z (fun hS=>ag dc Z hS.1) (qy Z (ab (o:=0) jW aF) (qh Z (fun hS=>ag eE Z hS.2.1) (qm (.i (↑(2*k))) Z eV (qy Z (bi ((2*k)) pk (Eq.trans Z (p7 eC)) Z (by omega) (by omega) (by rw[Nat.mul_one])) (qh Z (fun hS=>ag ax Z hS.2.2.1) ?_))))))))
           obtain⟨k6,lI⟩: ∃z:Int,IntKind.u64.wrap gK=z:=⟨_,rfl⟩
           refine qy Z (ao (c:=k6) bv be Z lI) (qy Z (ab (o:=0) fw e1) (qh Z (fun hS=>ag dc Z hS.1) (qy Z (ab (o:=0) jW aF) (qh Z (fun hS=>ag eE Z hS.2.1) (qm (.i (↑(2*k))) Z eV (qy Z (aH (k:= .i64) (c:= ↑(2*k)+1) Z Z (a5 (by omega) (by omega))) (qy Z (bi ((2*k)+1) pk (Eq.trans Z (p7 eC)) Z (by omega) (by omega) (by rw[Nat.mul_one])) (qh Z (fun hS=>ag ax Z hS.2.2.2) ?_))))))))
           obtain⟨k7,lJ⟩: ∃z:Int,IntKind.u64.wrap gL=z:=⟨_,rfl⟩
           refine qy Z (ao (c:=k7) bv be Z lJ) (qr Z (ec yw (args:= [.b M.big,.i 4,.q k6]) Z (aa (lN M.big (n:=4) _ (by omega)) ?_)))
           rintro e ub ⟨uc,ud,lK,rfl,-,lL,lM⟩
           have cw:=dS.cal0 lM
           refine⟨_,Z,⟨⟨cw.c 11 1 Z Z,cw.c 9 5 Z Z,cw.kc ck,cw.kc cm⟩,fun _=>trivial,qr Z (bY cw 1 (m:=4) (news:=nums .u8 lK) Z Z Z (fun _=>App.ri (aV (cw.g 0 Z)) bB fx bB) Z (by decide) (by simp only[maxLen];omega) (by omega) (fun ue uf bC=> ?_))⟩⟩
           obtain⟨ug,uh,rfl⟩:=df (bC.g 1 rfl)
           rw[bm]at bC
           refine⟨⟨bC.c 11 1 Z Z,bC.c 9 5 Z Z,bC.kc ck,bC.kc cm⟩,fun _=>trivial,qr Z (ec yw (args:= [.b M.big,.i 4,.q k7]) Z (aa (lN M.big (n:=4) _ (by omega)) ?_))⟩
           rintro e ui ⟨uj,uk,lO,rfl,-,lP,lQ⟩
           have cz:=bC.cal0 lQ
           refine⟨_,Z,⟨⟨cz.c 12 1 Z Z,cz.c 10 5 Z Z,cz.kc ck,cz.kc cm⟩,fun _=>trivial,qr Z (bY cz 2 (m:=4) (news:=nums .u8 lO) Z Z Z (fun _=>App.ri (aV (cz.g 0 Z)) bB fx bB) Z (by decide) (by simp only[maxLen];omega) (by omega) (fun ul p8 bD=> ?_))⟩⟩
           obtain⟨p9,pA,rfl⟩:=df (bD.g 2 rfl)
           rw[bm]at bD
           refine⟨⟨bD.c 12 1 Z Z,bD.c 10 5 Z Z,bD.kc ck,bD.kc cm⟩,fun _=>trivial,qa (.s p9 ((F+4)+4) pA) Z Z (pn ?_)⟩
           have dT:=bD.drew
           refine aU MX (fun w'=>w'.cell? ⟨g1,1,none⟩=some (.b M.big)∧w'.cell? ⟨X,5,none⟩=some (.s b.C b.nC b.cC)∧w'.cell? ⟨gC,oC+(2*k),none⟩=some (.w gK)∧w'.cell? ⟨gC,oC+((2*k)+1),none⟩=some (.w gL)) (tr 0 14 (Pl.run 14 (Pl.run 15 (Pl.run 16 (Pl.take 17 Pl.done))))) (by kernel_rfl) (⟨dT.c 12 1 Z Z,dT.c 10 5 Z Z,dT.kc ck,dT.kc cm⟩) (qm (.s Ax k cx) Z di (qy Z (ab (o:=0) fw e1) (qh Z (fun hS=>ag dc Z hS.1) (qy Z (ab (o:=0) jW aF) (qh Z (fun hS=>ag eE Z hS.2.1) (qm (.i (↑(2*k))) Z eV (qy Z (bi ((2*k)) pk (Eq.trans Z (p7 eC)) Z (by omega) (by omega) (by rw[Nat.mul_one])) (qh Z (fun hS=>ag ax Z hS.2.2.1) (qy Z (ab (o:=0) jW aF) (qh Z (fun hS=>ag eE Z hS.2.1) (qm (.i (↑(2*k))) Z eV ?_)))))))))))
           refine qy Z (aH (k:= .i64) (c:= ↑(2*k)+1) Z Z (a5 (by omega) (by omega))) (qy Z (bi ((2*k)+1) pk (Eq.trans Z (p7 eC)) Z (by omega) (by omega) (by rw[Nat.mul_one])) (qh Z (fun hS=>ag ax Z hS.2.2.2) (qr Z (ec BS (args:= [.b M.big,.w gK,.w gL]) Z ?_))))
           obtain⟨u,js⟩: ∃r,hJ M.big gK gL=r:=⟨_,rfl⟩
           refine aa (by have h:=ma M.big (a:=gK) (b:=gL) (p8.drew) (by omega) (by omega) (by omega) (by omega);rw[js]at h;exact h) ?_
           rintro e um ⟨rfl,lR⟩
           have dU:=dT.cal0 lR
           refine⟨_,Z,⟨⟨dU.c 12 1 Z Z,dU.c 10 5 Z Z,dU.kc ck,dU.kc cm⟩,fun _=>trivial,qr Z (pg dU (ps:= [(0,.agg #[.w u.addr,.w u.value,.e u.type,.e u.len,.b u.pcrel,.b u.extern,.b u.scattered])]) (e:=67) (cs:= [.w u.addr,.w u.value,.e u.type,.e u.len,.b u.pcrel,.b u.extern,.b u.scattered]) Z (by kernel_rfl) (fun un uo c0=>⟨⟨c0.c 13 1 Z Z,c0.c 11 5 Z Z,c0.kc ck,c0.kc cm⟩,fun _=>trivial,qr Z (bG c0 4 (m:=1) (news:= [.w u.addr,.w u.value,.e u.type,.e u.len,.b u.pcrel,.b u.extern,.b u.scattered]) Z AX BK Z (by decide) Z Z Z (c0.news (i:=0) Z) (by simp[Value.oneCell']) (by simp only[maxLen];omega) (by omega) (fun up uq c1=> ?_))⟩))⟩⟩
           obtain⟨pB,pC,rfl⟩:=df (c1.g 4 rfl)
           refine⟨⟨c1.c 13 1 Z Z,c1.c 11 5 Z Z,c1.kc ck,c1.kc cm⟩,fun _=>trivial,qa (.s pB (k+1) pC) Z Z (ca (ak (ac (ae (mg eV Z (wv Z (aH (k:= .i64) (c:= ↑(2*(k+1))) Z Z (by rw[a5 (by omega) (by omega)];omega)) (ai (↑(2*(k+1))) Z (wn ?_))))))))⟩
           exact⟨⟨k+1,_,_,_,_,_,_,_,e1,e2,e4,e5,cX,cZ,da,db,dd,de,dg,aF,cj,aG,aI,aJ,aL,aM,aN,Z,by omega,Z,Z,by omega,(Byt.app (Byt.app hvs lL) lP),c1.re [3,4,5,6,7,8,9,10,11,12,13,14,15]⟩,by show b.nC+1- nv (.i ↑(2*(k+1)))<b.nC+1- nv (p4 27);rw[eV];simp only[nv];omega⟩
          ·
           simp only[bx]at eX
           refine bq (ar (ar (aQ (ac ?_))))
           refine eh (fun ρ w'=> ∃gh:Nat,∃ch:Nat,∃hs:List Int,ρ 1= .pt g1∧ρ 2= .pt g3∧ρ 4= .pt g9∧ρ 5= .q L∧ρ 15= .s Ac nc cc∧ρ 16= .s Av F cv∧ρ 17= .i (↑a0)∧ρ 18= .i sg∧ρ 19= .i (↑i)∧ρ 20= .string sn∧ρ 21= .i (↑fr)∧ρ 22= .s At nt ct∧ρ 24= .pt X∧ρ 25= .sl P 0 7 7∧ρ 26= .s Ax k cx∧ρ 133= .s M.AS M.nS M.cS∧ρ 134= .i (↑M.nS)∧ρ 135= .i (↑i)∧ρ 149= .s bt.A bt.n bt.c∧ρ 150= .i (↑bt.n)∧ρ 151= .i (↑j)∧ρ 28= .sl gh 0 (d7 M.wide) ch∧hs.length=d7 M.wide∧Byt hs∧d7 M.wide≤ch∧St w aR [ay 5 1 (.sl gh 0 (d7 M.wide) ch) (d7 M.wide) (nums .u8 hs),ay 5 1 (.s At nt ct) nt (nums .u8 ts),ay 5 1 (.s Ac nc cc) nc (nums .u8 cs),ay 5 1 (.s Av F cv) F (nums .u8 vs),ay 74 4 (.s Al i cl) i (ll.flatMap LdM.cells),ay 72 6 (.s Aq nq cq) nq ql,D,ay 76 5 (.s Ay 0 cy) 0 ([]),an X [.string b.nm,.q b.q1,.w b.q2,.w b.q3,.s b.B b.nB b.cB,.s b.C b.nC b.cC] 64,an g1 M.cells 40,an g9 [.ns,.b M.big,.s Al i cl,.s Aq nq cq,.s Ay 0 cy,.s M.AI M.nI M.cI] 33,an g3 [.ns,.b false,.ns,.ns,.ns,.ns] 33] w') ?_ ?_
           ·
            have dV:=hC.drew
            refine aU MX (fun w'=>w'.cell? ⟨g1,1,none⟩=some (.b M.big)∧w'.cell? ⟨g1,0,none⟩=some (.b M.wide)) (tr 0 4 (Pl.take 6 (Pl.run3 4 (Pl.run2 5 (Pl.run2 7 (Pl.run 8 (Pl.run 9 (Pl.run 10 (Pl.take 11 Pl.done)))) 8 (Pl.run 7 (Pl.run 9 (Pl.run 10 (Pl.take 11 Pl.done))))) 8 (Pl.run 5 (Pl.run 7 (Pl.run 9 (Pl.run 10 (Pl.take 11 Pl.done)))))) 5 (Pl.run2 4 (Pl.run2 7 (Pl.run 8 (Pl.run 9 (Pl.run 10 (Pl.take 11 Pl.done)))) 8 (Pl.run 7 (Pl.run 9 (Pl.run 10 (Pl.take 11 Pl.done))))) 8 (Pl.run 4 (Pl.run 7 (Pl.run 9 (Pl.run 10 (Pl.take 11 Pl.done)))))) 8 (Pl.run2 4 (Pl.run 5 (Pl.run 7 (Pl.run 9 (Pl.run 10 (Pl.take 11 Pl.done))))) 5 (Pl.run 4 (Pl.run 7 (Pl.run 9 (Pl.run 10 (Pl.take 11 Pl.done))))))))) (by kernel_rfl) (⟨dV.c 10 1 Z Z,dV.c 10 0 Z Z⟩) (qy Z (ab (o:=0) fw e1) (qh Z (fun hS=>ag dc Z hS.1) (qy Z (ab (o:=0) jo e1) (qh Z (fun hS=>ag dc Z hS.2) (qm (.sl P 0 7 7) Z cj ?_)))))
            refine⟨?_,?_,?_⟩
            ·
             refine po Z (ec mB (args:= [.b M.wide]) Z (aa (mc M.wide _) ?_))
             rintro e ur ⟨dk,dl,dm,eY,rfl,-,lS,dn⟩
             have f4:=dV.cal0 lS
             refine⟨_,Z,⟨⟨f4.c 11 1 Z Z,f4.c 11 0 Z Z⟩,fun _=>trivial,?_⟩⟩
             refine⟨?_,?_⟩
             ·
              refine po Z (lj f4 43 [] Z (by kernel_rfl) (fun k8 pD f5=>⟨⟨f5.c 12 1 Z Z,f5.c 12 0 Z Z⟩,fun _=>trivial,?_⟩))
              refine⟨?_,?_⟩
              ·
               refine po Z ?_
               have k9:St w aR [ay 43 1 (.sl k8 0 0 0) 0 (nums .u64 []),eY,ay 5 1 (.s Av F cv) F (nums .u8 vs),ay 67 7 (.s Ax k cx) k xl,ay 5 1 (.s At nt ct) nt (nums .u8 ts),ay 5 1 (.s Ac nc cc) nc (nums .u8 cs),ay 74 4 (.s Al i cl) i (ll.flatMap LdM.cells),ay 72 6 (.s Aq nq cq) nq ql,D,ay 76 5 (.s Ay 0 cy) 0 ([]),an X [.string b.nm,.q b.q1,.w b.q2,.w b.q3,.s b.B b.nB b.cB,.s b.C b.nC b.cC] 64,an P [.q b.q1,.q G,.q H,.q I,.q p,.q J,.q K] 43,an g1 M.cells 40,an g9 [.ns,.b M.big,.s Al i cl,.s Aq nq cq,.s Ay 0 cy,.s M.AI M.nI M.cI] 33,an g3 [.ns,.b false,.ns,.ns,.ns,.ns] 33] pD:=f5.rowOf (i:=0) (cap:=0) rfl rfl (by simp[maxLen])
               refine bY k9 0 (m:=7) (news:=nums .u64 ([b.q1,G,H,I,p,J,K]:List Int)) Z Z Z (fun _=>App.ri (bH (xs:= [b.q1,G,H,I,p,J,K]) (k9.g 11 Z)) eW jy eW) Z (by decide) (by simp only[maxLen];omega) (by omega) (fun ut uu dW=> ?_)
               obtain⟨uv,uw,rfl⟩:=df (dW.g 0 rfl)
               rw[bm]at dW
               refine⟨⟨dW.c 12 1 Z Z,dW.c 12 0 Z Z⟩,fun _=>trivial,qr Z (lj dW 43 [.q 0,.q 0,.q 0] Z (by kernel_rfl) (fun ux uy f6=>⟨⟨f6.c 13 1 Z Z,f6.c 13 0 Z Z⟩,fun _=>trivial,qr Z (bY f6 1 (m:=3) (news:=nums .u64 ([0,0,0]:List Int)) Z Z Z (fun _=>App.ri (bH (xs:= [0,0,0]) (f6.g 0 Z)) eW jy eW) Z (by decide) (by simp only[maxLen];omega) (by omega) (fun uz u0 bn=> ?_))⟩))⟩
               obtain⟨pE,pF,rfl⟩:=df (bn.g 1 rfl)
               rw[bm]at bn
               refine⟨⟨bn.c 13 1 Z Z,bn.c 13 0 Z Z⟩,fun _=>trivial,qr Z (ec kg (args:= [.b M.big,.s dk dl dm,.s pE ((0+7)+3) pF]) Z (aa (jZ M.big M.wide (dn _ (bn.g 2 Z)) (aV (bn.g 1 Z)) (hH (bn.g 1 Z)) (by omega) (by omega)) ?_))⟩
               rintro e u1 ⟨pG,pH,sV,rfl,lT,lU,lV⟩
               have f7:=bn.cal0 lV
               refine⟨_,Z,⟨⟨f7.c 14 1 Z Z,f7.c 14 0 Z Z⟩,fun _=>trivial,qa (.s pG (d7 M.wide) pH) Z Z (pn ?_)⟩⟩
               obtain⟨⟨gh,rfl⟩,hhc⟩:=eQ (f7.g 0 rfl) (by omega)
               exact⟨_,_,_,e1,e2,e4,e5,cX,dh,cZ,da,db,dd,de,dg,aF,cj,di,aG,aI,aJ,aL,aM,aN,Z,lT,lU,hhc,f7.re [0,6,7,4,8,9,10,11,12,14,15,16]⟩
              ·
               refine po Z (lj f5 43 [.q 0,.q 0,.q 0] Z (by kernel_rfl) (fun pI pJ hE=>⟨⟨hE.c 13 1 Z Z,hE.c 13 0 Z Z⟩,fun _=>trivial,qr Z ?_⟩))
               have kA:St w aR [an pI [.q 0,.q 0,.q 0] 43,ay 43 1 (.sl k8 0 0 0) 0 (nums .u64 []),eY,ay 5 1 (.s Av F cv) F (nums .u8 vs),ay 67 7 (.s Ax k cx) k xl,ay 5 1 (.s At nt ct) nt (nums .u8 ts),ay 5 1 (.s Ac nc cc) nc (nums .u8 cs),ay 74 4 (.s Al i cl) i (ll.flatMap LdM.cells),ay 72 6 (.s Aq nq cq) nq ql,D,ay 76 5 (.s Ay 0 cy) 0 ([]),an X [.string b.nm,.q b.q1,.w b.q2,.w b.q3,.s b.B b.nB b.cB,.s b.C b.nC b.cC] 64,an P [.q b.q1,.q G,.q H,.q I,.q p,.q J,.q K] 43,an g1 M.cells 40,an g9 [.ns,.b M.big,.s Al i cl,.s Aq nq cq,.s Ay 0 cy,.s M.AI M.nI M.cI] 33,an g3 [.ns,.b false,.ns,.ns,.ns,.ns] 33] pJ:=hE.rowOf (i:=1) (cap:=0) rfl rfl (by simp[maxLen])
               refine bY kA 1 (m:=7) (news:=nums .u64 ([b.q1,G,H,I,p,J,K]:List Int)) Z Z Z (fun _=>App.ri (bH (xs:= [b.q1,G,H,I,p,J,K]) (kA.g 12 Z)) eW jy eW) Z (by decide) (by simp only[maxLen];omega) (by omega) (fun u2 u3 c2=> ?_)
               obtain⟨u4,u5,rfl⟩:=df (c2.g 1 rfl)
               rw[bm]at c2
               refine⟨⟨c2.c 13 1 Z Z,c2.c 13 0 Z Z⟩,fun _=>trivial,qr Z (bY c2 1 (m:=3) (news:=nums .u64 ([0,0,0]:List Int)) Z Z Z (fun _=>App.ri (bH (xs:= [0,0,0]) (c2.g 0 Z)) eW jy eW) Z (by decide) (by simp only[maxLen];omega) (by omega) (fun u6 u7 bo=> ?_))⟩
               obtain⟨pK,pL,rfl⟩:=df (bo.g 1 rfl)
               rw[bm]at bo
               refine⟨⟨bo.c 13 1 Z Z,bo.c 13 0 Z Z⟩,fun _=>trivial,qr Z (ec kg (args:= [.b M.big,.s dk dl dm,.s pK ((0+7)+3) pL]) Z (aa (jZ M.big M.wide (dn _ (bo.g 2 Z)) (aV (bo.g 1 Z)) (hH (bo.g 1 Z)) (by omega) (by omega)) ?_))⟩
               rintro e u9 ⟨pM,pN,sW,rfl,lW,lX,lY⟩
               have f8:=bo.cal0 lY
               refine⟨_,Z,⟨⟨f8.c 14 1 Z Z,f8.c 14 0 Z Z⟩,fun _=>trivial,qa (.s pM (d7 M.wide) pN) Z Z (pn ?_)⟩⟩
               obtain⟨⟨gh,rfl⟩,hhc⟩:=eQ (f8.g 0 rfl) (by omega)
               exact⟨_,_,_,e1,e2,e4,e5,cX,dh,cZ,da,db,dd,de,dg,aF,cj,di,aG,aI,aJ,aL,aM,aN,Z,lW,lX,hhc,f8.re [0,6,7,4,8,9,10,11,12,14,15,16]⟩
             ·
              refine po Z (lj f4 43 [.q 0,.q 0,.q 0] Z (by kernel_rfl) (fun pO uA hF=>⟨⟨hF.c 12 1 Z Z,hF.c 12 0 Z Z⟩,fun _=>trivial,qr Z (lj hF 43 [] Z (by kernel_rfl) (fun pP pQ hG=>⟨⟨hG.c 13 1 Z Z,hG.c 13 0 Z Z⟩,fun _=>trivial,qr Z ?_⟩))⟩))
              have kB:St w aR [ay 43 1 (.sl pP 0 0 0) 0 (nums .u64 []),an pO [.q 0,.q 0,.q 0] 43,eY,ay 5 1 (.s Av F cv) F (nums .u8 vs),ay 67 7 (.s Ax k cx) k xl,ay 5 1 (.s At nt ct) nt (nums .u8 ts),ay 5 1 (.s Ac nc cc) nc (nums .u8 cs),ay 74 4 (.s Al i cl) i (ll.flatMap LdM.cells),ay 72 6 (.s Aq nq cq) nq ql,D,ay 76 5 (.s Ay 0 cy) 0 ([]),an X [.string b.nm,.q b.q1,.w b.q2,.w b.q3,.s b.B b.nB b.cB,.s b.C b.nC b.cC] 64,an P [.q b.q1,.q G,.q H,.q I,.q p,.q J,.q K] 43,an g1 M.cells 40,an g9 [.ns,.b M.big,.s Al i cl,.s Aq nq cq,.s Ay 0 cy,.s M.AI M.nI M.cI] 33,an g3 [.ns,.b false,.ns,.ns,.ns,.ns] 33] pQ:=hG.rowOf (i:=0) (cap:=0) rfl rfl (by simp[maxLen])
              refine bY kB 0 (m:=7) (news:=nums .u64 ([b.q1,G,H,I,p,J,K]:List Int)) Z Z Z (fun _=>App.ri (bH (xs:= [b.q1,G,H,I,p,J,K]) (kB.g 12 Z)) eW jy eW) Z (by decide) (by simp only[maxLen];omega) (by omega) (fun uB uC c3=> ?_)
              obtain⟨uD,uE,rfl⟩:=df (c3.g 0 rfl)
              rw[bm]at c3
              refine⟨⟨c3.c 13 1 Z Z,c3.c 13 0 Z Z⟩,fun _=>trivial,qr Z (bY c3 0 (m:=3) (news:=nums .u64 ([0,0,0]:List Int)) Z Z Z (fun _=>App.ri (bH (xs:= [0,0,0]) (c3.g 1 Z)) eW jy eW) Z (by decide) (by simp only[maxLen];omega) (by omega) (fun uF uG bp=> ?_))⟩
              obtain⟨pR,pS,rfl⟩:=df (bp.g 0 rfl)
              rw[bm]at bp
              refine⟨⟨bp.c 13 1 Z Z,bp.c 13 0 Z Z⟩,fun _=>trivial,qr Z (ec kg (args:= [.b M.big,.s dk dl dm,.s pR ((0+7)+3) pS]) Z (aa (jZ M.big M.wide (dn _ (bp.g 2 Z)) (aV (bp.g 0 Z)) (hH (bp.g 0 Z)) (by omega) (by omega)) ?_))⟩
              rintro e uH ⟨pT,pU,sX,rfl,lZ,md,me⟩
              have f9:=bp.cal0 me
              refine⟨_,Z,⟨⟨f9.c 14 1 Z Z,f9.c 14 0 Z Z⟩,fun _=>trivial,qa (.s pT (d7 M.wide) pU) Z Z (pn ?_)⟩⟩
              obtain⟨⟨gh,rfl⟩,hhc⟩:=eQ (f9.g 0 rfl) (by omega)
              exact⟨_,_,_,e1,e2,e4,e5,cX,dh,cZ,da,db,dd,de,dg,aF,cj,di,aG,aI,aJ,aL,aM,aN,Z,lZ,md,hhc,f9.re [0,6,7,4,8,9,10,11,12,14,15,16]⟩
            ·
             refine po Z (lj dV 43 [] Z (by kernel_rfl) (fun hK uI fA=>⟨⟨fA.c 11 1 Z Z,fA.c 11 0 Z Z⟩,fun _=>trivial,?_⟩))
             refine⟨?_,?_⟩
             ·
              refine po Z (ec mB (args:= [.b M.wide]) Z (aa (mc M.wide _) ?_))
              rintro e pV ⟨fB,fC,fD,hN,rfl,-,mf,fE⟩
              have fG:=fA.cal0 mf
              refine⟨_,Z,⟨⟨fG.c 12 1 Z Z,fG.c 12 0 Z Z⟩,fun _=>trivial,?_⟩⟩
              refine⟨?_,?_⟩
              ·
               refine po Z ?_
               have kC:St w aR [hN,ay 43 1 (.sl hK 0 0 0) 0 (nums .u64 []),ay 5 1 (.s Av F cv) F (nums .u8 vs),ay 67 7 (.s Ax k cx) k xl,ay 5 1 (.s At nt ct) nt (nums .u8 ts),ay 5 1 (.s Ac nc cc) nc (nums .u8 cs),ay 74 4 (.s Al i cl) i (ll.flatMap LdM.cells),ay 72 6 (.s Aq nq cq) nq ql,D,ay 76 5 (.s Ay 0 cy) 0 ([]),an X [.string b.nm,.q b.q1,.w b.q2,.w b.q3,.s b.B b.nB b.cB,.s b.C b.nC b.cC] 64,an P [.q b.q1,.q G,.q H,.q I,.q p,.q J,.q K] 43,an g1 M.cells 40,an g9 [.ns,.b M.big,.s Al i cl,.s Aq nq cq,.s Ay 0 cy,.s M.AI M.nI M.cI] 33,an g3 [.ns,.b false,.ns,.ns,.ns,.ns] 33] pV:=fG.rowOf (i:=1) (cap:=0) rfl rfl (by simp[maxLen])
               refine bY kC 1 (m:=7) (news:=nums .u64 ([b.q1,G,H,I,p,J,K]:List Int)) Z Z Z (fun _=>App.ri (bH (xs:= [b.q1,G,H,I,p,J,K]) (kC.g 11 Z)) eW jy eW) Z (by decide) (by simp only[maxLen];omega) (by omega) (fun uJ uK dX=> ?_)
               obtain⟨uL,uM,rfl⟩:=df (dX.g 1 rfl)
               rw[bm]at dX
               refine⟨⟨dX.c 12 1 Z Z,dX.c 12 0 Z Z⟩,fun _=>trivial,qr Z (lj dX 43 [.q 0,.q 0,.q 0] Z (by kernel_rfl) (fun uN uO fH=>⟨⟨fH.c 13 1 Z Z,fH.c 13 0 Z Z⟩,fun _=>trivial,qr Z (bY fH 2 (m:=3) (news:=nums .u64 ([0,0,0]:List Int)) Z Z Z (fun _=>App.ri (bH (xs:= [0,0,0]) (fH.g 0 Z)) eW jy eW) Z (by decide) (by simp only[maxLen];omega) (by omega) (fun uP uQ br=> ?_))⟩))⟩
               obtain⟨pW,pX,rfl⟩:=df (br.g 2 rfl)
               rw[bm]at br
               refine⟨⟨br.c 13 1 Z Z,br.c 13 0 Z Z⟩,fun _=>trivial,qr Z (ec kg (args:= [.b M.big,.s fB fC fD,.s pW ((0+7)+3) pX]) Z (aa (jZ M.big M.wide (fE _ (br.g 1 Z)) (aV (br.g 2 Z)) (hH (br.g 2 Z)) (by omega) (by omega)) ?_))⟩
               rintro e uR ⟨pY,qb,sZ,rfl,mh,mj,mk⟩
               have fI:=br.cal0 mk
               refine⟨_,Z,⟨⟨fI.c 14 1 Z Z,fI.c 14 0 Z Z⟩,fun _=>trivial,qa (.s pY (d7 M.wide) qb) Z Z (pn ?_)⟩⟩
               obtain⟨⟨gh,rfl⟩,hhc⟩:=eQ (fI.g 0 rfl) (by omega)
               exact⟨_,_,_,e1,e2,e4,e5,cX,dh,cZ,da,db,dd,de,dg,aF,cj,di,aG,aI,aJ,aL,aM,aN,Z,mh,mj,hhc,fI.re [0,6,7,4,8,9,10,11,12,14,15,16]⟩
              ·
               refine po Z (lj fG 43 [.q 0,.q 0,.q 0] Z (by kernel_rfl) (fun qc qd hQ=>⟨⟨hQ.c 13 1 Z Z,hQ.c 13 0 Z Z⟩,fun _=>trivial,qr Z ?_⟩))
               have kD:St w aR [an qc [.q 0,.q 0,.q 0] 43,hN,ay 43 1 (.sl hK 0 0 0) 0 (nums .u64 []),ay 5 1 (.s Av F cv) F (nums .u8 vs),ay 67 7 (.s Ax k cx) k xl,ay 5 1 (.s At nt ct) nt (nums .u8 ts),ay 5 1 (.s Ac nc cc) nc (nums .u8 cs),ay 74 4 (.s Al i cl) i (ll.flatMap LdM.cells),ay 72 6 (.s Aq nq cq) nq ql,D,ay 76 5 (.s Ay 0 cy) 0 ([]),an X [.string b.nm,.q b.q1,.w b.q2,.w b.q3,.s b.B b.nB b.cB,.s b.C b.nC b.cC] 64,an P [.q b.q1,.q G,.q H,.q I,.q p,.q J,.q K] 43,an g1 M.cells 40,an g9 [.ns,.b M.big,.s Al i cl,.s Aq nq cq,.s Ay 0 cy,.s M.AI M.nI M.cI] 33,an g3 [.ns,.b false,.ns,.ns,.ns,.ns] 33] qd:=hQ.rowOf (i:=2) (cap:=0) rfl rfl (by simp[maxLen])
               refine bY kD 2 (m:=7) (news:=nums .u64 ([b.q1,G,H,I,p,J,K]:List Int)) Z Z Z (fun _=>App.ri (bH (xs:= [b.q1,G,H,I,p,J,K]) (kD.g 12 Z)) eW jy eW) Z (by decide) (by simp only[maxLen];omega) (by omega) (fun uS uT c4=> ?_)
               obtain⟨uU,uW,rfl⟩:=df (c4.g 2 rfl)
               rw[bm]at c4
               refine⟨⟨c4.c 13 1 Z Z,c4.c 13 0 Z Z⟩,fun _=>trivial,qr Z (bY c4 2 (m:=3) (news:=nums .u64 ([0,0,0]:List Int)) Z Z Z (fun _=>App.ri (bH (xs:= [0,0,0]) (c4.g 0 Z)) eW jy eW) Z (by decide) (by simp only[maxLen];omega) (by omega) (fun uX uY bs=> ?_))⟩
               obtain⟨qe,qf,rfl⟩:=df (bs.g 2 rfl)
               rw[bm]at bs
               refine⟨⟨bs.c 13 1 Z Z,bs.c 13 0 Z Z⟩,fun _=>trivial,qr Z (ec kg (args:= [.b M.big,.s fB fC fD,.s qe ((0+7)+3) qf]) Z (aa (jZ M.big M.wide (fE _ (bs.g 1 Z)) (aV (bs.g 2 Z)) (hH (bs.g 2 Z)) (by omega) (by omega)) ?_))⟩
               rintro e va ⟨qg,qi,ta,rfl,ml,mm,mn⟩
               have fJ:=bs.cal0 mn
               refine⟨_,Z,⟨⟨fJ.c 14 1 Z Z,fJ.c 14 0 Z Z⟩,fun _=>trivial,qa (.s qg (d7 M.wide) qi) Z Z (pn ?_)⟩⟩
               obtain⟨⟨gh,rfl⟩,hhc⟩:=eQ (fJ.g 0 rfl) (by omega)
               exact⟨_,_,_,e1,e2,e4,e5,cX,dh,cZ,da,db,dd,de,dg,aF,cj,di,aG,aI,aJ,aL,aM,aN,Z,ml,mm,hhc,fJ.re [0,6,7,4,8,9,10,11,12,14,15,16]⟩
             ·
              refine po Z (lj fA 43 [.q 0,.q 0,.q 0] Z (by kernel_rfl) (fun qj vb hR=>⟨⟨hR.c 12 1 Z Z,hR.c 12 0 Z Z⟩,fun _=>trivial,qr Z (ec mB (args:= [.b M.wide]) Z (aa (mc M.wide _) ?_))⟩))
              rintro e qk ⟨jt,ju,jv,mo,rfl,-,mp,jx⟩
              have hT:=hR.cal0 mp
              refine⟨_,Z,⟨⟨hT.c 13 1 Z Z,hT.c 13 0 Z Z⟩,fun _=>trivial,qr Z ?_⟩⟩
              have kE:St w aR [mo,an qj [.q 0,.q 0,.q 0] 43,ay 43 1 (.sl hK 0 0 0) 0 (nums .u64 []),ay 5 1 (.s Av F cv) F (nums .u8 vs),ay 67 7 (.s Ax k cx) k xl,ay 5 1 (.s At nt ct) nt (nums .u8 ts),ay 5 1 (.s Ac nc cc) nc (nums .u8 cs),ay 74 4 (.s Al i cl) i (ll.flatMap LdM.cells),ay 72 6 (.s Aq nq cq) nq ql,D,ay 76 5 (.s Ay 0 cy) 0 ([]),an X [.string b.nm,.q b.q1,.w b.q2,.w b.q3,.s b.B b.nB b.cB,.s b.C b.nC b.cC] 64,an P [.q b.q1,.q G,.q H,.q I,.q p,.q J,.q K] 43,an g1 M.cells 40,an g9 [.ns,.b M.big,.s Al i cl,.s Aq nq cq,.s Ay 0 cy,.s M.AI M.nI M.cI] 33,an g3 [.ns,.b false,.ns,.ns,.ns,.ns] 33] qk:=hT.rowOf (i:=2) (cap:=0) rfl rfl (by simp[maxLen])
              refine bY kE 2 (m:=7) (news:=nums .u64 ([b.q1,G,H,I,p,J,K]:List Int)) Z Z Z (fun _=>App.ri (bH (xs:= [b.q1,G,H,I,p,J,K]) (kE.g 12 Z)) eW jy eW) Z (by decide) (by simp only[maxLen];omega) (by omega) (fun vc vd c5=> ?_)
              obtain⟨ve,vf,rfl⟩:=df (c5.g 2 rfl)
              rw[bm]at c5
              refine⟨⟨c5.c 13 1 Z Z,c5.c 13 0 Z Z⟩,fun _=>trivial,qr Z (bY c5 2 (m:=3) (news:=nums .u64 ([0,0,0]:List Int)) Z Z Z (fun _=>App.ri (bH (xs:= [0,0,0]) (c5.g 1 Z)) eW jy eW) Z (by decide) (by simp only[maxLen];omega) (by omega) (fun vg vh bu=> ?_))⟩
              obtain⟨qn,qo,rfl⟩:=df (bu.g 2 rfl)
              rw[bm]at bu
              refine⟨⟨bu.c 13 1 Z Z,bu.c 13 0 Z Z⟩,fun _=>trivial,qr Z (ec kg (args:= [.b M.big,.s jt ju jv,.s qn ((0+7)+3) qo]) Z (aa (jZ M.big M.wide (jx _ (bu.g 0 Z)) (aV (bu.g 2 Z)) (hH (bu.g 2 Z)) (by omega) (by omega)) ?_))⟩
              rintro e vi ⟨qp,qt,tb,rfl,mq,mr,mt⟩
              have fK:=bu.cal0 mt
              refine⟨_,Z,⟨⟨fK.c 14 1 Z Z,fK.c 14 0 Z Z⟩,fun _=>trivial,qa (.s qp (d7 M.wide) qt) Z Z (pn ?_)⟩⟩
              obtain⟨⟨gh,rfl⟩,hhc⟩:=eQ (fK.g 0 rfl) (by omega)
              exact⟨_,_,_,e1,e2,e4,e5,cX,dh,cZ,da,db,dd,de,dg,aF,cj,di,aG,aI,aJ,aL,aM,aN,Z,mq,mr,hhc,fK.re [0,6,7,4,8,9,10,11,12,14,15,16]⟩
            ·
             refine po Z (lj dV 43 [.q 0,.q 0,.q 0] Z (by kernel_rfl) (fun kF vj fL=>⟨⟨fL.c 11 1 Z Z,fL.c 11 0 Z Z⟩,fun _=>trivial,?_⟩))
             refine⟨?_,?_⟩
             ·
              refine po Z (ec mB (args:= [.b M.wide]) Z (aa (mc M.wide _) ?_))
              rintro e vk ⟨j0,j1,j2,mu,rfl,-,mw,j3⟩
              have hU:=fL.cal0 mw
              refine⟨_,Z,⟨⟨hU.c 12 1 Z Z,hU.c 12 0 Z Z⟩,fun _=>trivial,qr Z (lj hU 43 [] Z (by kernel_rfl) (fun qu qx hV=>⟨⟨hV.c 13 1 Z Z,hV.c 13 0 Z Z⟩,fun _=>trivial,qr Z ?_⟩))⟩⟩
              have kG:St w aR [ay 43 1 (.sl qu 0 0 0) 0 (nums .u64 []),mu,an kF [.q 0,.q 0,.q 0] 43,ay 5 1 (.s Av F cv) F (nums .u8 vs),ay 67 7 (.s Ax k cx) k xl,ay 5 1 (.s At nt ct) nt (nums .u8 ts),ay 5 1 (.s Ac nc cc) nc (nums .u8 cs),ay 74 4 (.s Al i cl) i (ll.flatMap LdM.cells),ay 72 6 (.s Aq nq cq) nq ql,D,ay 76 5 (.s Ay 0 cy) 0 ([]),an X [.string b.nm,.q b.q1,.w b.q2,.w b.q3,.s b.B b.nB b.cB,.s b.C b.nC b.cC] 64,an P [.q b.q1,.q G,.q H,.q I,.q p,.q J,.q K] 43,an g1 M.cells 40,an g9 [.ns,.b M.big,.s Al i cl,.s Aq nq cq,.s Ay 0 cy,.s M.AI M.nI M.cI] 33,an g3 [.ns,.b false,.ns,.ns,.ns,.ns] 33] qx:=hV.rowOf (i:=0) (cap:=0) rfl rfl (by simp[maxLen])
              refine bY kG 0 (m:=7) (news:=nums .u64 ([b.q1,G,H,I,p,J,K]:List Int)) Z Z Z (fun _=>App.ri (bH (xs:= [b.q1,G,H,I,p,J,K]) (kG.g 12 Z)) eW jy eW) Z (by decide) (by simp only[maxLen];omega) (by omega) (fun vl vm c6=> ?_)
              obtain⟨vn,vo,rfl⟩:=df (c6.g 0 rfl)
              rw[bm]at c6
              refine⟨⟨c6.c 13 1 Z Z,c6.c 13 0 Z Z⟩,fun _=>trivial,qr Z (bY c6 0 (m:=3) (news:=nums .u64 ([0,0,0]:List Int)) Z Z Z (fun _=>App.ri (bH (xs:= [0,0,0]) (c6.g 2 Z)) eW jy eW) Z (by decide) (by simp only[maxLen];omega) (by omega) (fun vp vq bw=> ?_))⟩
              obtain⟨qz,q0,rfl⟩:=df (bw.g 0 rfl)
              rw[bm]at bw
              refine⟨⟨bw.c 13 1 Z Z,bw.c 13 0 Z Z⟩,fun _=>trivial,qr Z (ec kg (args:= [.b M.big,.s j0 j1 j2,.s qz ((0+7)+3) q0]) Z (aa (jZ M.big M.wide (j3 _ (bw.g 1 Z)) (aV (bw.g 0 Z)) (hH (bw.g 0 Z)) (by omega) (by omega)) ?_))⟩
              rintro e vr ⟨q4,q5,tc,rfl,mx,my,mz⟩
              have fM:=bw.cal0 mz
              refine⟨_,Z,⟨⟨fM.c 14 1 Z Z,fM.c 14 0 Z Z⟩,fun _=>trivial,qa (.s q4 (d7 M.wide) q5) Z Z (pn ?_)⟩⟩
              obtain⟨⟨gh,rfl⟩,hhc⟩:=eQ (fM.g 0 rfl) (by omega)
              exact⟨_,_,_,e1,e2,e4,e5,cX,dh,cZ,da,db,dd,de,dg,aF,cj,di,aG,aI,aJ,aL,aM,aN,Z,mx,my,hhc,fM.re [0,6,7,4,8,9,10,11,12,14,15,16]⟩
             ·
              refine po Z (lj fL 43 [] Z (by kernel_rfl) (fun q6 vt hW=>⟨⟨hW.c 12 1 Z Z,hW.c 12 0 Z Z⟩,fun _=>trivial,qr Z (ec mB (args:= [.b M.wide]) Z (aa (mc M.wide _) ?_))⟩))
              rintro e q7 ⟨j4,j5,j6,m0,rfl,-,m1,j7⟩
              have hX:=hW.cal0 m1
              refine⟨_,Z,⟨⟨hX.c 13 1 Z Z,hX.c 13 0 Z Z⟩,fun _=>trivial,qr Z ?_⟩⟩
              have kH:St w aR [m0,ay 43 1 (.sl q6 0 0 0) 0 (nums .u64 []),an kF [.q 0,.q 0,.q 0] 43,ay 5 1 (.s Av F cv) F (nums .u8 vs),ay 67 7 (.s Ax k cx) k xl,ay 5 1 (.s At nt ct) nt (nums .u8 ts),ay 5 1 (.s Ac nc cc) nc (nums .u8 cs),ay 74 4 (.s Al i cl) i (ll.flatMap LdM.cells),ay 72 6 (.s Aq nq cq) nq ql,D,ay 76 5 (.s Ay 0 cy) 0 ([]),an X [.string b.nm,.q b.q1,.w b.q2,.w b.q3,.s b.B b.nB b.cB,.s b.C b.nC b.cC] 64,an P [.q b.q1,.q G,.q H,.q I,.q p,.q J,.q K] 43,an g1 M.cells 40,an g9 [.ns,.b M.big,.s Al i cl,.s Aq nq cq,.s Ay 0 cy,.s M.AI M.nI M.cI] 33,an g3 [.ns,.b false,.ns,.ns,.ns,.ns] 33] q7:=hX.rowOf (i:=1) (cap:=0) rfl rfl (by simp[maxLen])
              refine bY kH 1 (m:=7) (news:=nums .u64 ([b.q1,G,H,I,p,J,K]:List Int)) Z Z Z (fun _=>App.ri (bH (xs:= [b.q1,G,H,I,p,J,K]) (kH.g 12 Z)) eW jy eW) Z (by decide) (by simp only[maxLen];omega) (by omega) (fun vu vv c7=> ?_)
              obtain⟨vw,vx,rfl⟩:=df (c7.g 1 rfl)
              rw[bm]at c7
              refine⟨⟨c7.c 13 1 Z Z,c7.c 13 0 Z Z⟩,fun _=>trivial,qr Z (bY c7 1 (m:=3) (news:=nums .u64 ([0,0,0]:List Int)) Z Z Z (fun _=>App.ri (bH (xs:= [0,0,0]) (c7.g 2 Z)) eW jy eW) Z (by decide) (by simp only[maxLen];omega) (by omega) (fun vy vz b0=> ?_))⟩
              obtain⟨q8,q9,rfl⟩:=df (b0.g 1 rfl)
              rw[bm]at b0
              refine⟨⟨b0.c 13 1 Z Z,b0.c 13 0 Z Z⟩,fun _=>trivial,qr Z (ec kg (args:= [.b M.big,.s j4 j5 j6,.s q8 ((0+7)+3) q9]) Z (aa (jZ M.big M.wide (j7 _ (b0.g 0 Z)) (aV (b0.g 1 Z)) (hH (b0.g 1 Z)) (by omega) (by omega)) ?_))⟩
              rintro e v0 ⟨qA,qB,te,rfl,m2,m3,m4⟩
              have fN:=b0.cal0 m4
              refine⟨_,Z,⟨⟨fN.c 14 1 Z Z,fN.c 14 0 Z Z⟩,fun _=>trivial,qa (.s qA (d7 M.wide) qB) Z Z (pn ?_)⟩⟩
              obtain⟨⟨gh,rfl⟩,hhc⟩:=eQ (fN.g 0 rfl) (by omega)
              exact⟨_,_,_,e1,e2,e4,e5,cX,dh,cZ,da,db,dd,de,dg,aF,cj,di,aG,aI,aJ,aL,aM,aN,Z,m2,m3,hhc,fN.re [0,6,7,4,8,9,10,11,12,14,15,16]⟩
           ·
            rintro v3 v4 ⟨gh,ch,hs,m5,m6,eZ,m8,j8,j9,jA,jB,jC,dp,jD,jE,dr,jF,jG,hZ,ia,ib,ic,ie,ig,jH,hhl,hhb,hhc,ih⟩
            refine sr (mg jE Z (mg jH Z (wv Z (ab xW dr) (wv Z (ih.ld 8 Z dP Z (.string b.nm) Z) (wE [.sl gh 0 (d7 M.wide) ch,.i 0,.string b.nm] BR Z Z (aa (pZ (o:=0) _ ((St.nil _ _).add _ (ih.g 0 Z) (fun _ h=>h) (by simp)) hhl hhb (by omega) (by omega) hhc (by omega)) ?_))))))
            rintro e v5 ⟨tg,rfl,m9,mA,mC⟩
            have kI:=ih.kx 0 rfl mC (fun _ h=>h)
            refine⟨_,Z,mg dp Z (wE [.sl gh 0 (d7 M.wide) ch,.i 16,.string sn] BR Z Z (aa (pZ (o:=16) _ ((St.nil _ _).add _ (kI.g 0 Z) (fun _ h=>h) (by simp)) m9 mA (by omega) (by omega) hhc (by omega)) ?_))⟩
            rintro e v6 ⟨mD,rfl,th,mE,mF⟩
            have kJ:=kI.kx 0 rfl mF (fun _ h=>h)
            refine⟨_,Z,wm Z (bY kJ 1 (m:=(d7 M.wide)) (news:=nums .u8 mD) Z Z Z (fun _=>App.ri (aV (kJ.g 0 Z)) bB fx bB) Z (by decide) (by simp only[maxLen];omega) (by omega) (fun v7 v8 c8=> ?_))⟩
            obtain⟨qC,qD,rfl⟩:=df (c8.g 1 rfl)
            rw[bm]at c8
            refine av (.s qC (nt+(d7 M.wide)) qD) Z (wn (ae (wv Z (ab jX eZ) (wv Z (c8.ld 10 Z m7 Z (.s Aq nq cq) Z) (wv Z (ab xW dr) (wv Z (c8.ld 8 Z dP Z (.string b.nm) Z) (mg dp Z (mg jF Z (mg jG Z (wv Z (ab kX dr) (wv Z (c8.ld 8 Z fe Z (.s b.B b.nB b.cB) Z) ?_)))))))))))
            refine wv Z (yz [.string b.nm,.string sn,.sl P 0 7 7,.s Ax k cx,.s b.B b.nB b.cB,.b false] Z (by kernel_rfl)) (wm Z (pg c8 (ps:= [(0,.agg #[.string b.nm,.string sn,.sl P 0 7 7,.s Ax k cx,.s b.B b.nB b.cB,.b false])]) (e:=72) (cs:= [.string b.nm,.string sn,.sl P 0 7 7,.s Ax k cx,.s b.B b.nB b.cB,.b false]) Z (by kernel_rfl) (fun v9 vA kK=>wm Z (bG kK 6 (m:=1) (news:= [.string b.nm,.string sn,.sl P 0 7 7,.s Ax k cx,.s b.B b.nB b.cB,.b false]) Z Ba BJ Z (by decide) Z Z Z (kK.news (i:=0) Z) (by simp[Value.oneCell']) (by simp only[maxLen];omega) (by omega) (fun vB vC kL=> ?_)))))
            obtain⟨qE,qF,rfl⟩:=df (kL.g 6 rfl)
            refine wv Z (ab jX eZ) (ws (es kL 11 3 (.s qE (nq+1) qF) Z m7 (fun vD qG=> ?_)))
            refine bk (ak (ac (ae (wv Z (aH (k:= .i64) (c:= ↑j+1) ig Z (a5 (by omega) (by omega))) (mi (↑j+1) Z (wn ?_))))))
            exact⟨⟨j+1,_,_,_,_,_,_,_,nq+1,_,_,_,_,m5,m6,eZ,m8,j8,jA,jB,jC,dp,jD,hZ,ia,ib,ic,ie,Z,by omega,Z,j9,by omega,by omega,by omega,by omega,(Byt.app hts mE),hvs,qG.re [2,3,4,5,6,7,8,10,11,12]⟩,by show bt.n+1- nv (.i (↑j+1))<bt.n+1- nv (pm 151);rw[cV];simp only[nv];omega⟩
         ·
          simp only[bx]at h8
          refine bq (ar (ar (aQ (ac (ad ?_)))))
          have fO:=h7.drew
          refine aU MX (fun w'=>w'.cell? ⟨g1,0,none⟩=some (.b M.wide)∧w'.cell? ⟨g1,7,none⟩=some (.s M.AB M.nS M.cB)∧w'.cell? ⟨gB,oB+i,none⟩=some (.s bt.A bt.n bt.c)) (tr 0 4 (Pl.take 6 (Pl.take 7 (tr 10 19 (Pl.run 4 (Pl.run 5 (Pl.take 8 (Pl.take 9 (Pl.run 29 (Pl.take 30 Pl.done)))))))))) (by kernel_rfl) (⟨fO.c 7 0 Z Z,fO.c 7 7 Z Z,fO.kc hcB⟩) (qm (.i sg) Z cQ ?_)
          obtain⟨ii,mG⟩: ∃z:Int,IntKind.u64.wrap sg=z:=⟨_,rfl⟩
          refine qy Z (ao (c:=ii) ej be Z mG) (qy Z (ab (o:=0) jo bh) (qh Z (fun hS=>ag dc Z hS.1) (qm (.s At nt ct) Z cW (qy Z (aO (n:=nt) bU Z) (qm (.i (↑i)) Z cR (qy Z (cM (k:= .i64) (c:=4096* ↑i) Z Z (a5 (by omega) (by omega))) ?_))))))
          obtain⟨ij,mI⟩: ∃z:Int,IntKind.u64.wrap (4096* ↑i)=z:=⟨_,rfl⟩
          refine qy Z (ao (c:=ij) ej be Z mI) (qm (.i (↑fr)) Z cU ?_)
          obtain⟨ik,mJ⟩: ∃z:Int,IntKind.u64.wrap (↑fr)=z:=⟨_,rfl⟩
          refine qy Z (ao (c:=ik) ej be Z mJ) (qm (.i (↑a0)) Z aE (qm (.s Au nu cu) Z b7 (qy Z (aO (n:=nu) bU Z) (qy Z (aH (k:= .i64) (c:= ↑a0+ ↑nu) Z Z (a5 (by omega) (by omega))) (qm (.i (↑fr)) Z cU (qy Z (gZ (k:= .i64) (c:= ↑a0+ ↑nu- ↑fr) Z Z (a5 (by omega) (by omega))) ?_))))))
          obtain⟨il,mK⟩: ∃z:Int,IntKind.u64.wrap (↑a0+ ↑nu- ↑fr)=z:=⟨_,rfl⟩
          refine qy Z (ao (c:=il) ej be Z mK) (qy Z (ab (o:=0) oA bh) (qh Z (fun hS=>ag sd Z hS.2.1) (qm (.i (↑i)) Z cR (qy Z (bi (i) Bc (Eq.trans Z (p7 eB)) Z (by omega) (by omega) (by rw[Nat.mul_one])) (qh Z (fun hS=>ag yd Z hS.2.2) (qy Z (aO (n:=bt.n) Be Z) ?_))))))
          obtain⟨io,mL⟩: ∃z:Int,IntKind.u64.wrap (↑bt.n)=z:=⟨_,rfl⟩
          refine qy Z (ao (c:=io) ej be Z mL) (qr Z (ec qQ (args:= [.b M.wide]) Z (aa (tm M.wide _) ?_)))
          rintro e vE ⟨jI,jJ,jK,ti,rfl,-,mM,jL⟩
          have dZ:=fO.cal0 mM
          refine⟨_,Z,⟨⟨dZ.c 8 0 Z Z,dZ.c 8 7 Z Z,dZ.kc hcB⟩,fun _=>trivial,qr Z (ec oU (args:= [.s jI jJ jK]) Z (aa (zH M.wide (jL _ (dZ.g 0 Z))) ?_))⟩⟩
          rintro e vF ⟨rfl,mN⟩
          have fP:=dZ.cal0 mN
          refine⟨_,Z,⟨⟨fP.c 8 0 Z Z,fP.c 8 7 Z Z,fP.kc hcB⟩,fun _=>trivial,qy Z (aH (k:= .i64) (c:= ↑(dN M.wide)+ ↑nt) Z Z (a5 (by omega) (by omega))) ?_⟩⟩
          obtain⟨ip,mO⟩: ∃z:Int,IntKind.u64.wrap (↑(dN M.wide)+ ↑nt)=z:=⟨_,rfl⟩
          refine qy Z (ao (c:=ip) ej be Z mO) (qr Z (lj fP 43 [.q ii,.q ip,.q ij,.q 4096,.q ik,.q il,.q 7,.q 5,.q io,.q 0] Z (by kernel_rfl) (fun W vG fQ=>⟨⟨fQ.c 9 0 Z Z,fQ.c 9 7 Z Z,fQ.kc hcB⟩,fun _=>trivial,qa (.sl W 0 10 10) Z Z (pn (ad ?_))⟩)))
          have iq:=fQ.drew
          refine aU MX (fun w'=>w'.cell? ⟨g1,1,none⟩=some (.b M.big)∧w'.cell? ⟨g1,0,none⟩=some (.b M.wide)) (tr 0 4 (Pl.take 5 (Pl.take 7 (Pl.take 9 (Pl.run 4 (Pl.run 6 (Pl.run 8 (Pl.run 10 (Pl.take 11 Pl.done))))))))) (by kernel_rfl) (⟨iq.c 9 1 Z Z,iq.c 9 0 Z Z⟩) (qy Z (ab (o:=0) fw bh) (qh Z (fun hS=>ag dc Z hS.1) (qy Z (ab (o:=0) jo bh) (qh Z (fun hS=>ag dc Z hS.2) (qm (.sl W 0 10 10) Z Z (qm (.string sn) Z cT (qm (.s At nt ct) Z cW (qr Z (ec qQ (args:= [.b M.wide]) Z (aa (tm M.wide _) ?_))))))))))
          rintro e vH ⟨jM,jP,jQ,tj,rfl,-,mP,jR⟩
          have ea:=iq.cal0 mP
          refine⟨_,Z,⟨⟨ea.c 10 1 Z Z,ea.c 10 0 Z Z⟩,fun _=>trivial,qr Z (ec kg (args:= [.b M.big,.s jM jP jQ,.sl W 0 10 10]) Z (aa (BN M.big M.wide (jR _ (ea.g 0 Z)) (aj (m:=10) (xs:= [ii,ip,ij,4096,ik,il,7,5,io,0]) (ea.g 1 Z) Z) (Nat.le_refl _) (by omega) (by omega)) ?_))⟩⟩
          rintro e vI ⟨qH,qI,tk,rfl,mQ,mR,mS⟩
          have ed:=ea.cal0 mS
          refine⟨_,Z,⟨⟨ed.c 11 1 Z Z,ed.c 11 0 Z Z⟩,fun _=>trivial,qr Z (ec BR (args:= [.s qH (dN M.wide) qI,.i 8,.string sn]) Z ?_)⟩⟩
          obtain⟨⟨tl,rfl⟩,jS⟩:=eQ (ed.g 0 rfl) (by omega)
          refine aa (pZ (o:=8) _ ((St.nil _ _).add _ (ed.g 0 Z) (fun _ h=>h) (by simp)) mQ mR (by omega) (by omega) jS (by omega)) ?_
          rintro e vJ ⟨bj,rfl,tn,ir,mT⟩
          have fR:=ed.kx 0 rfl mT (fun _ h=>h)
          refine⟨_,Z,⟨⟨fR.c 11 1 Z Z,fR.c 11 0 Z Z⟩,fun _=>trivial,qr Z (bY fR 0 (m:=nt) (news:=nums .u8 ts) Z Z Z (fun _=>App.ri (aV (fR.g 4 Z)) bB fx bB) Z (by decide) (by simp only[maxLen];omega) (by omega) (fun vK vL c9=> ?_))⟩⟩
          obtain⟨S,T,rfl⟩:=df (c9.g 0 rfl)
          rw[bm]at c9
          refine⟨⟨c9.c 11 1 Z Z,c9.c 11 0 Z Z⟩,fun _=>trivial,qa (.s S ((dN M.wide)+nt) T) Z Z (pn (sr (mg f1 Z (mv (.s S ((dN M.wide)+nt) T) Z (wm Z (bY c9 5 (m:=((dN M.wide)+nt)) (news:=nums .u8 (bj++ts)) Z Z Z (fun _=>App.ri (aV (c9.g 0 Z)) bB fx bB) Z (by decide) (by simp only[maxLen];omega) (by omega) (fun vM vN co=> ?_)))))))⟩
          obtain⟨qJ,qK,rfl⟩:=df (co.g 5 rfl)
          rw[bm]at co
          refine av (.s qJ (nc+((dN M.wide)+nt)) qK) Z (wn (ae (wv Z (ab dj cN) (wv Z (co.ld 12 Z dH Z (.s Al i cl) Z) (mv (.s S ((dN M.wide)+nt) T) Z (mg cT Z (ms W 0 10 10 Z (wv Z (yz [.i 1,.s S ((dN M.wide)+nt) T,.string sn,.sl W 0 10 10] Z (by kernel_rfl)) (wm Z (pg co (ps:= [(0,.agg #[.i 1,.s S ((dN M.wide)+nt) T,.string sn,.sl W 0 10 10])]) (e:=74) (cs:= [.i 1,.s S ((dN M.wide)+nt) T,.string sn,.sl W 0 10 10]) Z (by kernel_rfl) (fun vO vP kM=>wm Z ?_)))))))))))
          refine bG kM 8 (m:=1) (news:= [.i 1,.s S ((dN M.wide)+nt) T,.string sn,.sl W 0 10 10]) Z kT kY Z (by decide) Z Z Z (kM.news (i:=0) Z) (by simp[Value.oneCell']) (by simp only[maxLen];omega) (by omega) (fun vR vS kN=> ?_)
          obtain⟨qL,qM,rfl⟩:=df (kN.g 8 rfl)
          refine wv Z (ab dj cN) (ws (es kN 13 2 (.s qL (i+1) qM) Z dH (fun vT qN=> ?_)))
          refine bk (ak (ac (ae (wv Z (aH (k:= .i64) (c:= ↑i+1) dM Z (a5 (by omega) (by omega))) (mi (↑i+1) Z (wn ?_))))))
          have e1:=im (f:=LdM.cells) ll ⟨1,S,((dN M.wide)+nt),T,bj++ts,.string sn,.sl W 0 10 10⟩
          have qO:=(qN.reAll [1,10] [6,7,8,9,11,12,13,14]).re [1,2,3,4,0,5,6,7,8]
          have bl: ∀w,(Res.all [ay 5 1 (.s S ((dN M.wide)+nt) T) ((dN M.wide)+nt) (nums .u8 (bj++ts)),D]).φ w → ∀l ∈ ll++ [⟨1,S,((dN M.wide)+nt),T,bj++ts,.string sn,.sl W 0 10 10⟩],l.ok w:=fun w h=>eu (hD w (aS.1 h D (by simp))) ⟨(by show((dN M.wide)+nt)≤2000;omega),aV (aS.1 h (ay 5 1 (.s S ((dN M.wide)+nt) T) ((dN M.wide)+nt) (nums .u8 (bj++ts))) (by simp)),(Byt.app ir hts),rfl,rfl⟩
          exact⟨⟨i+1,_,_,_,_,_,_,_,_,ll++ [⟨1,S,((dN M.wide)+nt),T,bj++ts,.string sn,.sl W 0 10 10⟩],_,nq,_,_,_,_,_,bh,h5,cN,h6,aE,cQ,dI,dL,Z,by omega,Z,b7,by omega,by omega,by omega,(Byt.app hcs (Byt.app ir hts)),hus,bl,(e1▸qO).re [0,1,2,3,4,5,6,7,8]⟩,by show M.nS+1- nv (.i (↑i+1))<M.nS+1- nv (ph 135);rw[b9];simp only[nv];omega⟩
        ·
         simp only[bx]at h4
         refine bq (ar (ar (aQ (ac ?_))))
         exact⟨_,_,_,_,_,_,_,i,_,_,np,_,_,_,_,_,eU,h0,h1,h2,f0,cK,cJ,by omega,by omega,by omega,hcs,hrs,hD,h3.re [0,1,2,4,5,6,7,8]⟩
       ·
        rintro vU vV ⟨Ac,nc,cc,Ar,nr,cr,Al,nld,cl,Ap,np,cp,ll,D,cs,rs,it,mU,mV,mW,jT,jU,jV,hnc,hnr,hnl,hcs,hrs,hD,qP⟩
        refine sr (wm Z (lj qP 5 [] Z (by kernel_rfl) (fun fS vW qR=>wm Z (lj qR 5 [.e 0] Z (by kernel_rfl) (fun fT iu kO=>eL fS 0 0 0 Z (eL fT 0 1 1 Z (wn (ad (sr (wv Z (ab l7 it) (wv Z (kO.ld 7 Z gi Z (.s M.AY M.nY M.cY) Z) ?_)))))))))))
        refine wv Z (aO tf Z) (mi 0 Z (wn (a6 ?_)))
        have qS:St w aR [an fT [.e 0] 5,ay 5 1 (.sl fS 0 0 0) 0 ([]),ay 5 1 (.s Ac nc cc) nc (nums .u8 cs),ay 5 1 (.s Ar nr cr) nr (nums .u8 rs),ay 74 4 (.s Al nld cl) nld (ll.flatMap LdM.cells),D,ay 76 5 (.s Ay 0 cy) 0 ([]),an g1 M.cells 40,an g9 [.ns,.b M.big,.s Al nld cl,.s Ap np cp,.s Ay 0 cy,.s M.AI M.nI M.cI] 33,an g3 [.ns,.b false,.ns,.ns,.ns,.ns] 33] iu:=kO.rowOf (i:=1) (cap:=0) rfl rfl (by simp[maxLen])
        have qT:St w aR [ay 5 1 (.sl fT 0 1 1) 1 (nums .u8 ([0])),ay 5 1 (.sl fS 0 0 0) 0 ([]),ay 5 1 (.s Ac nc cc) nc (nums .u8 cs),ay 5 1 (.s Ar nr cr) nr (nums .u8 rs),ay 74 4 (.s Al nld cl) nld (ll.flatMap LdM.cells),D,ay 76 5 (.s Ay 0 cy) 0 ([]),an g1 M.cells 40,an g9 [.ns,.b M.big,.s Al nld cl,.s Ap np cp,.s Ay 0 cy,.s M.AI M.nI M.cI] 33,an g3 [.ns,.b false,.ns,.ns,.ns,.ns] 33] iu:=qS.rowFull (i:=0) (n:=1) (sz:=1) rfl rfl (by simp[maxLen])
        have qU:St w aR [ay 5 1 (.sl fS 0 0 0) 0 (nums .u8 ([])),ay 5 1 (.sl fT 0 1 1) 1 (nums .u8 ([0])),ay 76 5 (.s Ay 0 cy) 0 ([]),ay 5 1 (.s Ac nc cc) nc (nums .u8 cs),ay 5 1 (.s Ar nr cr) nr (nums .u8 rs),ay 74 4 (.s Al nld cl) nld (ll.flatMap LdM.cells),D,an g1 M.cells 40,an g9 [.ns,.b M.big,.s Al nld cl,.s Ap np cp,.s Ay 0 cy,.s M.AI M.nI M.cI] 33,an g3 [.ns,.b false,.ns,.ns,.ns,.ns] 33] iu:=qT.re [1,0,6,2,3,4,5,7,8,9]
        refine bA (fun ρ w'=> ∃(i:Nat) (At:Option Addr) (nt:Nat) (ct:Nat) (Ax:Option Addr) (nx:Nat) (cx:Nat) (Ay:Option Addr) (cy:Nat) (yl:List Value) (ts:List Int) (xs:List Int),ρ 1= .pt g1∧ρ 2= .pt g3∧ρ 4= .pt g9∧ρ 5= .q L∧ρ 15= .s Ac nc cc∧ρ 16= .s Ar nr cr∧ρ 17= .i (↑a0)∧ρ 327= .s M.AY M.nY M.cY∧ρ 328= .i (↑M.nY)∧ρ 329= .i ↑i∧i≤M.nY∧ρ 31= .s At nt ct∧ρ 32= .s Ax nx cx∧nt≤16*i∧nx≤1+6*i∧Byt ts∧Byt xs∧St w aR [ay 5 1 (.s At nt ct) nt (nums .u8 ts),ay 5 1 (.s Ax nx cx) nx (nums .u8 xs),ay 76 5 (.s Ay i cy) i yl,ay 5 1 (.s Ac nc cc) nc (nums .u8 cs),ay 5 1 (.s Ar nr cr) nr (nums .u8 rs),ay 74 4 (.s Al nld cl) nld (ll.flatMap LdM.cells),D,an g1 M.cells 40,an g9 [.ns,.b M.big,.s Al nld cl,.s Ap np cp,.s Ay i cy,.s M.AI M.nI M.cI] 33,an g3 [.ns,.b false,.ns,.ns,.ns,.ns] 33] w') (fun ρ _=>M.nY+1- nv (ρ 329)) (⟨0,_,_,_,_,_,_,_,_,_,[],[0],it,mU,mV,mW,jT,jU,jV,Z,Z,Z,Nat.zero_le _,Z,Z,by omega,by omega,Byt.nil,byt0,qU⟩) ?_
        rintro qV vX ⟨i,At,nt,ct,Ax,nx,cx,Ay,cy,yl,ts,xs,a8,fa,bF,fb,ds,aT,aX,bI,bJ,bM,vY,du,aZ,hnt,hnx,hts,hxs,fU⟩
        refine sr (wv Z (bR bM bJ) (wn (ad ?_)))
        refine bK Z (fun fc=> ?_) (fun fc=> ?_)
        ·
         simp only[bx]at fc
         refine wk (ad (a6 (sr ?_)))
         obtain⟨y,hy,gy_,oy,ey,hcy⟩:=tt hM.hY SyM.len5 (by decide) (show i<M.nY by omega)
         have hyn:=hM.hYs y hy
         refine wv Z (bi (i) TS31 (Eq.trans bI (p7 ey)) bM (by omega) (by omega) Z) (wv Z (dQ (cs:= [.string y.nm,.e y.t,.e y.s,.h y.d,.q y.v]) (o:=oy+i*5) xQ Z (fun j v hj=>fU.keep.cell (hcy j v hj) (aW _)) Z) (wm Z (gQ fU kw (fun cA vZ qW=>ws (eN qW 0 [.string y.nm,.e y.t,.e y.s,.h y.d,.q y.v] Z vQ (fun wa qX=> ?_))))))
         refine wn ?_
         refine eh (fun ρ w'=> ∃mX:Option Addr,∃mY:Nat,∃mZ:List Int,ρ 1= .pt g1∧ρ 2= .pt g3∧ρ 4= .pt g9∧ρ 5= .q L∧ρ 15= .s Ac nc cc∧ρ 16= .s Ar nr cr∧ρ 17= .i (↑a0)∧ρ 32= .s Ax nx cx∧ρ 34= .pt cA∧ρ 327= .s M.AY M.nY M.cY∧ρ 328= .i (↑M.nY)∧ρ 329= .i (↑i)∧ρ 31= .s mX (nt+dY M.wide) mY∧Byt mZ∧St w aR [ay 5 1 (.s mX (nt+dY M.wide) mY) (nt+dY M.wide) (nums .u8 mZ),ay 5 1 (.s Ax nx cx) nx (nums .u8 xs),ay 76 5 (.s Ay i cy) i yl,ay 5 1 (.s Ac nc cc) nc (nums .u8 cs),ay 5 1 (.s Ar nr cr) nr (nums .u8 rs),ay 74 4 (.s Al nld cl) nld (ll.flatMap LdM.cells),D,an cA [.string y.nm,.e y.t,.e y.s,.h y.d,.q y.v] 76,an g1 M.cells 40,an g9 [.ns,.b M.big,.s Al nld cl,.s Ap np cp,.s Ay i cy,.s M.AI M.nI M.cI] 33,an g3 [.ns,.b false,.ns,.ns,.ns,.ns] 33] w') ?_ ?_
         ·
          have b1:=qX.drew
          refine aU MX (fun w'=>w'.cell? ⟨g1,1,none⟩=some (.b M.big)∧w'.cell? ⟨g1,0,none⟩=some (.b M.wide)∧w'.cell? ⟨cA,1,none⟩=some (.e y.t)∧w'.cell? ⟨cA,2,none⟩=some (.e y.s)∧w'.cell? ⟨cA,3,none⟩=some (.h y.d)∧w'.cell? ⟨cA,4,none⟩=some (.q y.v)) (tr 0 5 (tr 6 14 (Pl.run2 5 (Pl.run 20 (Pl.run 21 (Pl.run 22 (Pl.take 23 Pl.done)))) 20 (Pl.run 5 (Pl.run 21 (Pl.run 22 (Pl.take 23 Pl.done))))))) (by kernel_rfl) (⟨b1.c 8 1 Z Z,b1.c 8 0 Z Z,b1.c 0 1 Z Z,b1.c 0 2 Z Z,b1.c 0 3 Z Z,b1.c 0 4 Z Z⟩) (qm (.s At nt ct) Z du (qy Z (ab (o:=0) fw a8) (qh Z (fun hS=>ag dc Z hS.1) (qy Z (ab (o:=0) jo a8) (qh Z (fun hS=>ag dc Z hS.2.1) (qm (.s Ax nx cx) Z aZ (qy Z (aO (n:=nx) bU Z) ?_)))))))
          obtain⟨ee,na⟩: ∃z:Int,IntKind.u64.wrap (↑nx)=z:=⟨_,rfl⟩
          refine qy Z (ao (c:=ee) ej be Z na) (qy Z (ab (o:=0) xU Z) (qh Z (fun hS=>ag dq Z hS.2.2.1) ?_))
          obtain⟨ef,nb⟩: ∃z:Int,IntKind.u64.wrap y.t=z:=⟨_,rfl⟩
          refine qy Z (ao (c:=ef) zL be Z nb) (qy Z (ab (o:=0) xT Z) (qh Z (fun hS=>ag dq Z hS.2.2.2.1) ?_))
          obtain⟨eg,nd⟩: ∃z:Int,IntKind.u64.wrap y.s=z:=⟨_,rfl⟩
          refine qy Z (ao (c:=eg) zL be Z nd) (qy Z (ab (o:=0) xS Z) (qh Z (fun hS=>ag iF Z hS.2.2.2.2.1) ?_))
          obtain⟨ei,ng⟩: ∃z:Int,IntKind.u64.wrap y.d=z:=⟨_,rfl⟩
          refine qy Z (ao (c:=ei) rP be Z ng) (qy Z (ab (o:=0) xR Z) (qh Z (fun hS=>ag aP Z hS.2.2.2.2.2) ?_))
          refine⟨?_,?_⟩
          ·
           refine po Z (ec sA (args:= [.b M.wide]) Z (aa (zS M.wide _) ?_))
           rintro e wb ⟨jY,ka,kb,tp,rfl,-,nh,kd⟩
           have bN:=b1.cal0 nh
           refine⟨_,Z,⟨⟨bN.c 9 1 Z Z,bN.c 9 0 Z Z,bN.c 1 1 Z Z,bN.c 1 2 Z Z,bN.c 1 3 Z Z,bN.c 1 4 Z Z⟩,fun _=>trivial,qr Z (lj bN 43 [.q ee,.q ef,.q eg,.q ei,.q y.v] Z (by kernel_rfl) (fun qY wc ba=>⟨⟨ba.c 10 1 Z Z,ba.c 10 0 Z Z,ba.c 2 1 Z Z,ba.c 2 2 Z Z,ba.c 2 3 Z Z,ba.c 2 4 Z Z⟩,fun _=>trivial,qr Z (ec kg (args:= [.b M.big,.s jY ka kb,.sl qY 0 5 5]) Z (aa (zP M.big M.wide (kd _ (ba.g 1 Z)) (aj (m:=5) (xs:= [ee,ef,eg,ei,y.v]) (ba.g 0 Z) Z) (Nat.le_refl _) (by omega) (by omega)) ?_))⟩))⟩⟩
           rintro e wd ⟨we,wg,ni,rfl,tq,nj,nk⟩
           have b2:=ba.cal0 nk
           refine⟨_,Z,⟨⟨b2.c 11 1 Z Z,b2.c 11 0 Z Z,b2.c 3 1 Z Z,b2.c 3 2 Z Z,b2.c 3 3 Z Z,b2.c 3 4 Z Z⟩,fun _=>trivial,qr Z (bY b2 4 (m:=(dY M.wide)) (news:=nums .u8 ni) Z Z Z (fun _=>App.ri (aV (b2.g 0 Z)) bB fx bB) Z (by decide) (by simp only[maxLen];omega) (by omega) (fun wh wi bb=> ?_))⟩⟩
           obtain⟨qZ,ra,rfl⟩:=df (bb.g 4 rfl)
           rw[bm]at bb
           refine⟨⟨bb.c 11 1 Z Z,bb.c 11 0 Z Z,bb.c 3 1 Z Z,bb.c 3 2 Z Z,bb.c 3 3 Z Z,bb.c 3 4 Z Z⟩,fun _=>trivial,qa (.s qZ (nt+(dY M.wide)) ra) Z Z (pn ?_)⟩
           exact⟨_,_,_,a8,fa,bF,fb,ds,aT,aX,aZ,Z,bI,bJ,bM,Z,(Byt.app hts nj),bb.re [4,5,6,7,8,9,10,3,11,12,13]⟩
          ·
           refine po Z (lj b1 43 [.q ee,.q ef,.q eg,.q ei,.q y.v] Z (by kernel_rfl) (fun rb wj bO=>⟨⟨bO.c 9 1 Z Z,bO.c 9 0 Z Z,bO.c 1 1 Z Z,bO.c 1 2 Z Z,bO.c 1 3 Z Z,bO.c 1 4 Z Z⟩,fun _=>trivial,qr Z (ec sA (args:= [.b M.wide]) Z (aa (zS M.wide _) ?_))⟩))
           rintro e wl ⟨ke,kf,kh,tu,rfl,-,nn,ki⟩
           have bc:=bO.cal0 nn
           refine⟨_,Z,⟨⟨bc.c 10 1 Z Z,bc.c 10 0 Z Z,bc.c 2 1 Z Z,bc.c 2 2 Z Z,bc.c 2 3 Z Z,bc.c 2 4 Z Z⟩,fun _=>trivial,qr Z (ec kg (args:= [.b M.big,.s ke kf kh,.sl rb 0 5 5]) Z (aa (zP M.big M.wide (ki _ (bc.g 0 Z)) (aj (m:=5) (xs:= [ee,ef,eg,ei,y.v]) (bc.g 1 Z) Z) (Nat.le_refl _) (by omega) (by omega)) ?_))⟩⟩
           rintro e wo ⟨wp,wq,no,rfl,tw,nw,nz⟩
           have b3:=bc.cal0 nz
           refine⟨_,Z,⟨⟨b3.c 11 1 Z Z,b3.c 11 0 Z Z,b3.c 3 1 Z Z,b3.c 3 2 Z Z,b3.c 3 3 Z Z,b3.c 3 4 Z Z⟩,fun _=>trivial,qr Z (bY b3 4 (m:=(dY M.wide)) (news:=nums .u8 no) Z Z Z (fun _=>App.ri (aV (b3.g 0 Z)) bB fx bB) Z (by decide) (by simp only[maxLen];omega) (by omega) (fun wr wt bd=> ?_))⟩⟩
           obtain⟨rc,rd,rfl⟩:=df (bd.g 4 rfl)
           rw[bm]at bd
           refine⟨⟨bd.c 11 1 Z Z,bd.c 11 0 Z Z,bd.c 3 1 Z Z,bd.c 3 2 Z Z,bd.c 3 3 Z Z,bd.c 3 4 Z Z⟩,fun _=>trivial,qa (.s rc (nt+(dY M.wide)) rd) Z Z (pn ?_)⟩
           exact⟨_,_,_,a8,fa,bF,fb,ds,aT,aX,aZ,Z,bI,bJ,bM,Z,(Byt.app hts nw),bd.re [4,5,6,7,8,9,10,3,11,12,13]⟩
         ·
          rintro wu ww ⟨mX,mY,mZ,n0,n1,fd,n2,kj,kk,kl,km,fV,iv,iw,ix,kn,rf,kP⟩
          refine sr (mg km Z (wv Z (ab jm fV) (wv Z (kP.ld 7 Z dP Z (.string y.nm) Z) (wm Z (bY kP 1 (m:=(y.nm).size) (news:=nums .u8 (bz y.nm)) Z Z Z (fun _=>App.str bB fx l3) Z (by decide) (by simp only[maxLen];omega) (by omega) (fun wx wy iy=> ?_))))))
          obtain⟨wz,w0,rfl⟩:=df (iy.g 1 rfl)
          rw[bm]at iy
          refine wm Z (lj iy 5 [.e 0] Z (by kernel_rfl) (fun w2 w3 kQ=>wm Z (bY kQ 2 (m:=1) (news:=nums .u8 ([0]:List Int)) Z Z Z (fun _=>App.ri (bH (xs:= [0]) (kQ.g 0 Z)) bB fx bB) Z (by decide) (by simp only[maxLen];omega) (by omega) (fun w5 w6 ek=> ?_))))
          obtain⟨rg,rh,rfl⟩:=df (ek.g 2 rfl)
          rw[bm]at ek
          refine av (.s rg ((nx+(y.nm).size)+1) rh) Z (wn (ae (wv Z (ab gw fd) (wv Z (ek.ld 10 Z gi Z (.s Ay i cy) Z) (wv Z (ek.loadA (i:=8) (vs:= [.string y.nm,.e y.t,.e y.s,.h y.d,.q y.v]) Z xQ fV Z Z) (wm Z (pg ek (ps:= [(0,.agg #[.string y.nm,.e y.t,.e y.s,.h y.d,.q y.v])]) (e:=76) (cs:= [.string y.nm,.e y.t,.e y.s,.h y.d,.q y.v]) Z (by kernel_rfl) (fun w8 w9 kR=>wm Z (bG kR 4 (m:=1) (news:= [.string y.nm,.e y.t,.e y.s,.h y.d,.q y.v]) Z yL zw Z (by decide) Z Z Z (kR.news (i:=0) Z) (by simp[Value.oneCell']) (by simp only[maxLen];omega) (by omega) (fun wA wB kS=> ?_))))))))))
          obtain⟨rj,rk,rfl⟩:=df (kS.g 4 rfl)
          refine wv Z (ab gw fd) (ws (es kS 11 4 (.s rj (i+1) rk) Z gi (fun wC rl=> ?_)))
          refine bk (ak (ac (ae (wv Z (aH (k:= .i64) (c:= ↑i+1) ix Z (a5 (by omega) (by omega))) (mi (↑i+1) Z (wn ?_))))))
          exact⟨⟨i+1,_,_,_,_,_,_,_,_,_,_,_,n0,n1,fd,n2,kj,kk,kl,iv,iw,Z,by omega,kn,Z,by omega,by omega,rf,(Byt.app (Byt.app hxs (tv y.nm)) byt0),rl.re [2,3,4,5,6,7,8,10,11,12]⟩,by show M.nY+1- nv (.i (↑i+1))<M.nY+1- nv (qV 329);rw[bM];simp only[nv];omega⟩
        ·
         simp only[bx]at fc
         refine bq (ar (ar (aQ (ac (sr (mg aX Z (mg aT Z (wv Z (aO bU Z) (wv Z (aH (k:= .i64) (c:= ↑a0+ ↑nr) Z Z (a5 (by omega) (by omega))) ?_)))))))))
         obtain⟨iz,n3⟩: ∃z:Int,IntKind.u64.wrap (↑a0+ ↑nr)=z:=⟨_,rfl⟩
         refine wv Z (ao (c:=iz) ej be Z n3) (wv Z (ab l7 a8) (wv Z (fU.ld 7 Z gi Z (.s M.AY M.nY M.cY) Z) (wv Z (aO tf Z) ?_)))
         obtain⟨i0,n4⟩: ∃z:Int,IntKind.u64.wrap (↑M.nY)=z:=⟨_,rfl⟩
         refine wv Z (ao (c:=i0) ej be Z n4) (mg aX Z (mg aT Z (wv Z (aO bU Z) (wv Z (aH (k:= .i64) (c:= ↑a0+ ↑nr) Z Z (a5 (by omega) (by omega))) (mg du Z (wv Z (aO bU Z) (wv Z (aH (k:= .i64) (c:= ↑a0+ ↑nr+ ↑nt) Z Z (a5 (by omega) (by omega))) ?_)))))))
         obtain⟨i1,n5⟩: ∃z:Int,IntKind.u64.wrap (↑a0+ ↑nr+ ↑nt)=z:=⟨_,rfl⟩
         refine wv Z (ao (c:=i1) ej be Z n5) (mg aZ Z (wv Z (aO bU Z) ?_))
         obtain⟨i3,n6⟩: ∃z:Int,IntKind.u64.wrap (↑nx)=z:=⟨_,rfl⟩
         refine wv Z (ao (c:=i3) ej be Z n6) (wm Z (lj fU 43 [.q 2,.q 24,.q iz,.q i0,.q i1,.q i3] Z (by kernel_rfl) (fun U wD kU=>eL U 0 6 6 Z (wn (sr (mg aT Z (mg du Z (wm Z (bY kU 5 (m:=nt) (news:=nums .u8 ts) Z Z Z (fun _=>App.ri (aV (kU.g 1 Z)) bB fx bB) Z (by decide) (by simp only[maxLen];omega) (by omega) (fun wF wG fW=> ?_))))))))))
         obtain⟨wH,wI,rfl⟩:=df (fW.g 5 rfl)
         rw[bm]at fW
         refine mg aZ Z (wm Z (bY fW 5 (m:=nx) (news:=nums .u8 xs) Z Z Z (fun _=>App.ri (aV (fW.g 2 Z)) bB fx bB) Z (by decide) (by simp only[maxLen];omega) (by omega) (fun wJ wK i4=> ?_)))
         obtain⟨rm,rn,rfl⟩:=df (i4.g 5 rfl)
         rw[bm]at i4
         refine av (.s rm ((nr+nt)+nx) rn) Z (wn ?_)
         refine eh (fun ρ w'=> ∃Ar:Option Addr,∃nr:Nat,∃cr:Nat,∃Al:Option Addr,∃nld:Nat,∃cl:Nat,∃ll:List LdM,∃D:Res,∃rs:List Int,∃Ay:Option Addr,∃ny:Nat,∃cy:Nat,ρ 1= .pt g1∧ρ 2= .pt g3∧ρ 4= .pt g9∧ρ 5= .q L∧ρ 15= .s Ac nc cc∧ρ 16= .s Ar nr cr∧ρ 17= .i (↑a0)∧nr≤1100∧nld≤5∧Byt rs∧(∀w,D.φ w → ∀l ∈ ll,l.ok w)∧St w aR [ay 5 1 (.s Ac nc cc) nc (nums .u8 cs),ay 5 1 (.s Ar nr cr) nr (nums .u8 rs),ay 74 4 (.s Al nld cl) nld (ll.flatMap LdM.cells),D,an g1 M.cells 40,an g9 [.ns,.b M.big,.s Al nld cl,.s Ap np cp,.s Ay ny cy,.s M.AI M.nI M.cI] 33,an g3 [.ns,.b false,.ns,.ns,.ns,.ns] 33] w') ?_ ?_
         ·
          have i5:=i4.drew
          refine dt MX (fun w'=>w'.cell? ⟨g9,2,none⟩=some (.s Al nld cl)) (fun w'=>w'.cell? ⟨g1,1,none⟩=some (.b M.big)) 12 (Pl.take 0 (Pl.takeS 1 (Pl.take 2 (Pl.take 3 (Pl.take 5 (Pl.take 7 (Pl.run 4 (Pl.run 6 (Pl.take 8 (Pl.run 9 (Pl.run 10 (Pl.take 11 (Pl.run 12 Pl.done))))))))))))) (by kernel_rfl) Z (i5.c 9 2 Z Z) (i5.c 8 1 Z Z) (qy Z (ab (o:=0) dj bF) (qs Z Z (fun _ hS=>ag dH Z hS) (qy Z (ab (o:=0) fw a8) (qh Z (fun hS=>ag dc Z hS) (qm (.sl U 0 6 6) Z Z (qm (.sl U 0 6 6) Z Z (qr Z (ec jN (args:= [.i 6]) Z (aa (dK (n:=6) _ (by omega)) ?_)))))))))
          rintro e wL ⟨ro,rp,rfl,n7⟩
          have em:=i5.cal0 n7
          refine⟨_,Z,⟨em.c 9 1 Z Z,fun _=>em.c 10 2 Z Z,qr Z (ec kg (args:= [.b M.big,.s ro 6 rp,.sl U 0 6 6]) Z (aa (si M.big (k:=24) (aV (em.g 0 Z)) (by omega) Z (aj (m:=6) (xs:= [2,24,iz,i0,i1,i3]) (em.g 1 Z) Z) (Nat.le_refl _) (by omega) (by omega)) ?_))⟩⟩
          rintro e wM ⟨Y,af,bP,rfl,tx,n8,n9⟩
          have i6:=em.cal0 n9
          refine⟨_,Z,⟨i6.c 10 1 Z Z,fun _=>i6.c 11 2 Z Z,qy Z (yb (ps:= [(0,.i 4),(1,.s Y 24 af),(2,.string (⟨#[]⟩)),(3,.sl U 0 6 6)]) (cells:=#[.i 4,.s Y 24 af,.string (⟨#[]⟩),.sl U 0 6 6]) Z (by kernel_rfl)) (qr Z (pg i6 (ps:= [(0,.agg #[.i 4,.s Y 24 af,.string (⟨#[]⟩),.sl U 0 6 6])]) (e:=74) (cs:= [.i 4,.s Y 24 af,.string (⟨#[]⟩),.sl U 0 6 6]) Z (by kernel_rfl) (fun wN wO fX=>⟨fX.c 11 1 Z Z,fun _=>fX.c 12 2 Z Z,qr Z (bG fX 9 (m:=1) (news:= [.i 4,.s Y 24 af,.string (⟨#[]⟩),.sl U 0 6 6]) Z kT kY Z (by decide) Z Z Z (fX.news (i:=0) Z) (by simp[Value.oneCell']) (by simp only[maxLen];omega) (by omega) (fun wP wR fY=> ?_))⟩)))⟩⟩
          obtain⟨rq,rr,rfl⟩:=df (fY.g 9 rfl)
          refine⟨fY.c 11 1 Z Z,fun _=>fY.c 12 2 Z Z,qy Z (ab (o:=0) dj bF) (dJ Z (es fY 12 2 (.s rq (nld+1) rr) Z dH (fun wS kW=> ?_)))⟩
          refine⟨kW.c 11 1 Z Z,fun h=>absurd h (by decide),pn ?_⟩
          have e1:=im (f:=LdM.cells) ll ⟨4,Y,24,af,bP,.string (⟨#[]⟩),.sl U 0 6 6⟩
          have rt:=(kW.reAll [1,10] [7,8,9,11,12,13]).re [1,2,3,0,4,5,6]
          have bl: ∀w,(Res.all [ay 5 1 (.s Y 24 af) 24 (nums .u8 bP),D]).φ w → ∀l ∈ ll++ [⟨4,Y,24,af,bP,.string (⟨#[]⟩),.sl U 0 6 6⟩],l.ok w:=fun w h=>eu (hD w (aS.1 h D (by simp))) ⟨(by show 24≤2000;omega),aV (aS.1 h (ay 5 1 (.s Y 24 af) 24 (nums .u8 bP)) (by simp)),n8,rfl,rfl⟩
          exact⟨_,_,_,_,nld+1,_,ll++ [⟨4,Y,24,af,bP,.string (⟨#[]⟩),.sl U 0 6 6⟩],_,_,_,_,_,a8,fa,bF,fb,ds,Z,aX,by omega,by omega,(Byt.app (Byt.app hrs hts) hxs),bl,(e1▸rt).re [0,1,2,3,4,5,6]⟩
         ·
          rintro wT wU ⟨Ar,nr,cr,Al,nld,cl,ll,D,rs,Ay,ny,cy,dv,nA,nD,nE,ko,fZ,ga,hnr,hnl,hrs,hD,ru⟩
          refine sr (wm Z (rA ru (n:=20) (m:=20) eW jy Z Z Z Z Z (by omega) (by omega) (by omega) (fun E rv rx=> ?_)))
          have ry:St w aR [an E [.q 0,.q 0,.q 0,.q 0,.q 0,.q 0,.q 0,.q 0,.q 0,.q 0,.q 0,.q 0,.q 0,.q 0,.q 0,.q 0,.q 0,.q 0,.q 0,.q 0] 43,ay 5 1 (.s Ac nc cc) nc (nums .u8 cs),ay 5 1 (.s Ar nr cr) nr (nums .u8 rs),ay 74 4 (.s Al nld cl) nld (ll.flatMap LdM.cells),D,an g1 M.cells 40,an g9 [.ns,.b M.big,.s Al nld cl,.s Ap np cp,.s Ay ny cy,.s M.AI M.nI M.cI] 33,an g3 [.ns,.b false,.ns,.ns,.ns,.ns] 33] rv:=rx
          refine eL E 0 20 20 Z (wn (ad ?_))
          have i7:=ry.drew
          refine aU MX (fun w'=>w'.cell? ⟨g1,10,none⟩=some (.s M.AY M.nY M.cY)∧w'.cell? ⟨g1,11,none⟩=some (.s M.AI M.nI M.cI)) (tr 0 20 (Pl.run 20 (Pl.take 21 (Pl.run 22 (Pl.take 23 (Pl.run 24 (Pl.take 25 (Pl.run 26 (Pl.take 27 (Pl.run 28 (Pl.take 29 (Pl.run 30 Pl.done)))))))))))) (by kernel_rfl) (⟨i7.c 5 10 Z Z,i7.c 5 11 Z Z⟩) (qm (.sl E 0 20 20) Z Z (qm (.sl E 0 20 20) Z Z (qm (.sl E 0 20 20) Z Z (qm (.sl E 0 20 20) Z Z (qm (.sl E 0 20 20) Z Z (qm (.sl E 0 20 20) Z Z (qy Z (ab (o:=0) l7 dv) (qh Z (fun hS=>ag gi Z hS.1) (qy Z (aO (n:=M.nY) tf Z) ?_)))))))))
          obtain⟨en,nF⟩: ∃z:Int,IntKind.u64.wrap (↑M.nY)=z:=⟨_,rfl⟩
          refine qy Z (ao (c:=en) ej be Z nF) (qm (.i (↑a0)) Z ga (qm (.s Ar nr cr) Z fZ (qy Z (aO (n:=nr) bU Z) (qy Z (aH (k:= .i64) (c:= ↑a0+ ↑nr) Z Z (a5 (by omega) (by omega))) ?_))))
          obtain⟨eo,nG⟩: ∃z:Int,IntKind.u64.wrap (↑a0+ ↑nr)=z:=⟨_,rfl⟩
          refine qy Z (ao (c:=eo) ej be Z nG) (qy Z (ab (o:=0) l6 dv) (qh Z (fun hS=>ag eE Z hS.2) (qy Z (aO (n:=M.nI) l5 Z) ?_)))
          obtain⟨ep,nH⟩: ∃z:Int,IntKind.u64.wrap (↑M.nI)=z:=⟨_,rfl⟩
          refine qy Z (ao (c:=ep) ej be Z nH) (qy Z (aK (a:=⟨E,0,none⟩) (i:=0) bL Z Z (by omega) (by omega)) (dJ Z (es i7 0 0 (.q 11) Z aP (fun wV i8=> ?_))))
          refine⟨⟨i8.c 5 10 Z Z,i8.c 5 11 Z Z⟩,fun _=>trivial,qy Z (aK (a:=⟨E,0,none⟩) (i:=1) bL Z Z (by omega) (by omega)) (dJ Z (es i8 0 1 (.q 80) Z aP (fun wW i9=> ?_)))⟩
          refine⟨⟨i9.c 5 10 Z Z,i9.c 5 11 Z Z⟩,fun _=>trivial,qy Z (aK (a:=⟨E,0,none⟩) (i:=6) bL Z Z (by omega) (by omega)) (dJ Z (es i9 0 6 (.q 0) Z aP (fun wX iA=> ?_)))⟩
          refine⟨⟨iA.c 5 10 Z Z,iA.c 5 11 Z Z⟩,fun _=>trivial,qy Z (aK (a:=⟨E,0,none⟩) (i:=7) bL Z Z (by omega) (by omega)) (dJ Z (es iA 0 7 (.q en) Z aP (fun wY iB=> ?_)))⟩
          refine⟨⟨iB.c 5 10 Z Z,iB.c 5 11 Z Z⟩,fun _=>trivial,qy Z (aK (a:=⟨E,0,none⟩) (i:=14) bL Z Z (by omega) (by omega)) (dJ Z (es iB 0 14 (.q eo) Z aP (fun wZ iC=> ?_)))⟩
          refine⟨⟨iC.c 5 10 Z Z,iC.c 5 11 Z Z⟩,fun _=>trivial,qy Z (aK (a:=⟨E,0,none⟩) (i:=15) bL Z Z (by omega) (by omega)) (dJ Z (es iC 0 15 (.q ep) Z aP (fun rz gc=> ?_)))⟩
          refine⟨⟨gc.c 5 10 Z Z,gc.c 5 11 Z Z⟩,fun _=>trivial,pn (ad (sr (wv Z (ab l6 dv) (wv Z (gc.ld 5 Z eE Z (.s M.AI M.nI M.cI) Z) (wv Z (aO l5 Z) (mi 0 Z (wn (a6 ?_))))))))⟩
          have r0:St w aR [ay 5 1 (.s Ac nc cc) nc (nums .u8 cs),ay 5 1 (.s Ar nr cr) nr (nums .u8 rs),ay 74 4 (.s Al nld cl) nld (ll.flatMap LdM.cells),D,an g1 M.cells 40,an g9 [.ns,.b M.big,.s Al nld cl,.s Ap np cp,.s Ay ny cy,.s M.AI M.nI M.cI] 33,an g3 [.ns,.b false,.ns,.ns,.ns,.ns] 33,an E [.q 11,.q 80,.q 0,.q 0,.q 0,.q 0,.q 0,.q en,.q 0,.q 0,.q 0,.q 0,.q 0,.q 0,.q eo,.q ep,.q 0,.q 0,.q 0,.q 0] 43] rz:=gc.re [1,2,3,4,5,6,7,0]
          refine bA (fun ρ w'=> ∃(i:Nat) (Av:Option Addr) (F:Nat) (cv:Nat) (vs:List Int),ρ 1= .pt g1∧ρ 2= .pt g3∧ρ 4= .pt g9∧ρ 5= .q L∧ρ 15= .s Ac nc cc∧ρ 17= .i (↑a0)∧ρ 35= .sl E 0 20 20∧ρ 434= .s M.AI M.nI M.cI∧ρ 435= .i (↑M.nI)∧ρ 436= .i ↑i∧i≤M.nI∧ρ 16= .s Av F cv∧F≤nr+4*i∧Byt vs∧St w aR [ay 5 1 (.s Ac nc cc) nc (nums .u8 cs),ay 5 1 (.s Av F cv) F (nums .u8 vs),ay 74 4 (.s Al nld cl) nld (ll.flatMap LdM.cells),D,an g1 M.cells 40,an g9 [.ns,.b M.big,.s Al nld cl,.s Ap np cp,.s Ay ny cy,.s M.AI M.nI M.cI] 33,an g3 [.ns,.b false,.ns,.ns,.ns,.ns] 33,an E [.q 11,.q 80,.q 0,.q 0,.q 0,.q 0,.q 0,.q en,.q 0,.q 0,.q 0,.q 0,.q 0,.q 0,.q eo,.q ep,.q 0,.q 0,.q 0,.q 0] 43] w') (fun ρ _=>M.nI+1- nv (ρ 436)) (⟨0,_,_,_,_,dv,nA,nD,nE,ko,ga,Z,Z,Z,Z,Nat.zero_le _,fZ,by omega,hrs,r0⟩) ?_
          rintro r1 xa ⟨i,Av,F,cv,vs,dx,iD,dy,iG,gd,gf,dz,er,et,d0,xb,gg,hnv,hvs,gj⟩
          refine sr (wv Z (bR d0 et) (wn (ad ?_)))
          refine bK Z (fun ff=> ?_) (fun ff=> ?_)
          ·
           simp only[bx]at ff
           refine wk (ad (a6 (sr ?_)))
           obtain⟨gT,oT,eT,hct⟩:=hM.hI.at_ (show i<M.nI by omega)
           generalize hxi:M.is.getD i 0=x at hct
           refine wv Z (bi (i) pk (Eq.trans er (p7 eT)) d0 (by omega) (by omega) (by rw[Nat.mul_one])) (wv Z (ag ax Z (gj.kc hct)) (av (.w x) Z (wn (ae (mg gg Z (wv Z (ab fw dx) (wv Z (gj.ld 4 Z dc Z (.b M.big) Z) (mv (.w x) Z ?_))))))))
           obtain⟨kZ,nJ⟩: ∃z:Int,IntKind.u64.wrap x=z:=⟨_,rfl⟩
           refine wv Z (ao (c:=kZ) bv be Z nJ) (wE [.b M.big,.i 4,.q kZ] yw Z Z (aa (lN M.big (n:=4) _ (by omega)) ?_))
           rintro e xc ⟨xd,xe,nK,rfl,-,nM,nN⟩
           have la:=gj.cal0 nN
           refine⟨_,Z,wm Z (bY la 2 (m:=4) (news:=nums .u8 nK) Z Z Z (fun _=>App.ri (aV (la.g 0 Z)) bB fx bB) Z (by decide) (by simp only[maxLen];omega) (by omega) (fun xf xg iH=> ?_))⟩
           obtain⟨r2,r3,rfl⟩:=df (iH.g 2 rfl)
           rw[bm]at iH
           refine av (.s r2 (F+4) r3) Z (bk (ak (ac (ae (wv Z (aH (k:= .i64) (c:= ↑i+1) d0 Z (a5 (by omega) (by omega))) (mi (↑i+1) Z (wn ?_)))))))
           exact⟨⟨i+1,_,_,_,_,dx,iD,dy,iG,gd,gf,dz,er,et,Z,by omega,Z,by omega,(Byt.app hvs nM),iH.re [1,2,3,4,5,6,7,8]⟩,by show M.nI+1- nv (.i (↑i+1))<M.nI+1- nv (r1 436);rw[d0];simp only[nv];omega⟩
          ·
           simp only[bx]at ff
           refine bq (ar (ar (aQ (ac ?_))))
           refine eh (fun ρ w'=> ∃Ar:Option Addr,∃nr:Nat,∃cr:Nat,∃Al:Option Addr,∃nld:Nat,∃cl:Nat,∃ll:List LdM,∃D:Res,∃rs:List Int,ρ 1= .pt g1∧ρ 2= .pt g3∧ρ 4= .pt g9∧ρ 5= .q L∧ρ 15= .s Ac nc cc∧ρ 16= .s Ar nr cr∧ρ 17= .i (↑a0)∧nr≤1200∧nld≤6∧Byt rs∧(∀w,D.φ w → ∀l ∈ ll,l.ok w)∧St w aR [ay 5 1 (.s Ac nc cc) nc (nums .u8 cs),ay 5 1 (.s Ar nr cr) nr (nums .u8 rs),ay 74 4 (.s Al nld cl) nld (ll.flatMap LdM.cells),D,an g1 M.cells 40,an g9 [.ns,.b M.big,.s Al nld cl,.s Ap np cp,.s Ay ny cy,.s M.AI M.nI M.cI] 33,an g3 [.ns,.b false,.ns,.ns,.ns,.ns] 33] w') ?_ ?_
           ·
            have iI:=gj.drew
            refine dt MX (fun w'=>w'.cell? ⟨g9,2,none⟩=some (.s Al nld cl)) (fun w'=>w'.cell? ⟨g1,1,none⟩=some (.b M.big)) 12 (Pl.take 0 (Pl.takeS 1 (Pl.take 2 (Pl.take 3 (Pl.take 5 (Pl.take 7 (Pl.run 4 (Pl.run 6 (Pl.take 8 (Pl.run 9 (Pl.run 10 (Pl.take 11 (Pl.run 12 Pl.done))))))))))))) (by kernel_rfl) Z (iI.c 5 2 Z Z) (iI.c 4 1 Z Z) (qy Z (ab (o:=0) dj dy) (qs Z Z (fun _ hS=>ag dH Z hS) (qy Z (ab (o:=0) fw dx) (qh Z (fun hS=>ag dc Z hS) (qm (.sl E 0 20 20) Z dz (qm (.sl E 0 20 20) Z dz (qr Z (ec jN (args:= [.i 20]) Z (aa (dK (n:=20) _ (by omega)) ?_)))))))))
            rintro e xh ⟨r4,r5,rfl,nQ⟩
            have ev:=iI.cal0 nQ
            refine⟨_,Z,⟨ev.c 5 1 Z Z,fun _=>ev.c 6 2 Z Z,qr Z (ec kg (args:= [.b M.big,.s r4 20 r5,.sl E 0 20 20]) Z (aa (si M.big (k:=80) (aV (ev.g 0 Z)) (by omega) Z (aj (m:=20) (xs:= [11,80,0,0,0,0,0,en,0,0,0,0,0,0,eo,ep,0,0,0,0]) (ev.g 8 Z) Z) (Nat.le_refl _) (by omega) (by omega)) ?_))⟩⟩
            rintro e xi ⟨ah,al,bQ,rfl,tz,nR,nT⟩
            have iJ:=ev.cal0 nT
            refine⟨_,Z,⟨iJ.c 6 1 Z Z,fun _=>iJ.c 7 2 Z Z,qy Z (yb (ps:= [(0,.i 5),(1,.s ah 80 al),(2,.string (⟨#[]⟩)),(3,.sl E 0 20 20)]) (cells:=#[.i 5,.s ah 80 al,.string (⟨#[]⟩),.sl E 0 20 20]) Z (by kernel_rfl)) (qr Z (pg iJ (ps:= [(0,.agg #[.i 5,.s ah 80 al,.string (⟨#[]⟩),.sl E 0 20 20])]) (e:=74) (cs:= [.i 5,.s ah 80 al,.string (⟨#[]⟩),.sl E 0 20 20]) Z (by kernel_rfl) (fun xj xk gk=>⟨gk.c 7 1 Z Z,fun _=>gk.c 8 2 Z Z,qr Z (bG gk 5 (m:=1) (news:= [.i 5,.s ah 80 al,.string (⟨#[]⟩),.sl E 0 20 20]) Z kT kY Z (by decide) Z Z Z (gk.news (i:=0) Z) (by simp[Value.oneCell']) (by simp only[maxLen];omega) (by omega) (fun xm xn gm=> ?_))⟩)))⟩⟩
            obtain⟨r6,r7,rfl⟩:=df (gm.g 5 rfl)
            refine⟨gm.c 7 1 Z Z,fun _=>gm.c 8 2 Z Z,qy Z (ab (o:=0) dj dy) (dJ Z (es gm 8 2 (.s r6 (nld+1) r7) Z dH (fun xo lb=> ?_)))⟩
            refine⟨lb.c 7 1 Z Z,fun h=>absurd h (by decide),pn ?_⟩
            have e1:=im (f:=LdM.cells) ll ⟨5,ah,80,al,bQ,.string (⟨#[]⟩),.sl E 0 20 20⟩
            have r8:=(lb.reAll [1,6] [3,4,5,7,8,9]).re [1,2,3,0,4,5,6]
            have bl: ∀w,(Res.all [ay 5 1 (.s ah 80 al) 80 (nums .u8 bQ),D]).φ w → ∀l ∈ ll++ [⟨5,ah,80,al,bQ,.string (⟨#[]⟩),.sl E 0 20 20⟩],l.ok w:=fun w h=>eu (hD w (aS.1 h D (by simp))) ⟨(by show 80≤2000;omega),aV (aS.1 h (ay 5 1 (.s ah 80 al) 80 (nums .u8 bQ)) (by simp)),nR,rfl,rfl⟩
            exact⟨_,_,_,_,nld+1,_,ll++ [⟨5,ah,80,al,bQ,.string (⟨#[]⟩),.sl E 0 20 20⟩],_,_,dx,iD,dy,iG,gd,gg,gf,by omega,by omega,hvs,bl,(e1▸r8).re [0,1,2,3,4,5,6]⟩
           ·
            rintro xp r9 ⟨Ar,nr,cr,Al,nld,cl,ll,D,rs,iK,nU,nV,nW,kp,kq,kr,hnr,hnl,hrs,hD,lc⟩
            refine ad (sr (wv Z (ab qw iK) (wv Z (lc.ld 4 Z jz Z (.s M.AL M.nL M.cL) Z) (wv Z (aO td Z) (mi 0 Z (wn (a6 ?_)))))))
            have rB:St w aR [ay 5 1 (.s Ac nc cc) nc (nums .u8 cs),ay 5 1 (.s Ar nr cr) nr (nums .u8 rs),ay 74 4 (.s Al nld cl) nld (ll.flatMap LdM.cells),D,an g1 M.cells 40,an g9 [.ns,.b M.big,.s Al nld cl,.s Ap np cp,.s Ay ny cy,.s M.AI M.nI M.cI] 33,an g3 [.ns,.b false,.ns,.ns,.ns,.ns] 33] r9:=lc.re [0,1,2,3,4,5,6]
            refine bA (fun ρ w'=> ∃(i:Nat) (Al:Option Addr) (nld:Nat) (cl:Nat) (ll:List LdM) (D:Res),ρ 1= .pt g1∧ρ 2= .pt g3∧ρ 4= .pt g9∧ρ 5= .q L∧ρ 15= .s Ac nc cc∧ρ 16= .s Ar nr cr∧ρ 17= .i (↑a0)∧ρ 461= .s M.AL M.nL M.cL∧ρ 462= .i (↑M.nL)∧ρ 463= .i ↑i∧i≤M.nL∧nld≤6+i∧(∀w,D.φ w → ∀l ∈ ll,l.ok w)∧St w aR [ay 5 1 (.s Ac nc cc) nc (nums .u8 cs),ay 5 1 (.s Ar nr cr) nr (nums .u8 rs),ay 74 4 (.s Al nld cl) nld (ll.flatMap LdM.cells),D,an g1 M.cells 40,an g9 [.ns,.b M.big,.s Al nld cl,.s Ap np cp,.s Ay ny cy,.s M.AI M.nI M.cI] 33,an g3 [.ns,.b false,.ns,.ns,.ns,.ns] 33] w') (fun ρ _=>M.nL+1- nv (ρ 463)) (⟨0,_,_,_,_,_,iK,nU,nV,nW,kp,kq,kr,Z,Z,Z,Nat.zero_le _,by omega,hD,rB⟩) ?_
            rintro rC rD ⟨i,Al,nld,cl,ll,D,d1,iL,d2,iM,gn,go,gp,ew,ex,bS,xq,xr,hD,gq⟩
            refine sr (wv Z (bR bS ex) (wn (ad ?_)))
            refine bK Z (fun fg=> ?_) (fun fg=> ?_)
            ·
             simp only[bx]at fg
             refine wk (ad (a6 (sr ?_)))
             obtain⟨st,hsts,gT,oT,eT,hcst⟩:=rJ hM.hL (show i<M.nL by omega)
             refine mg bS Z (wv Z (bi (i) xN (Eq.trans ew (p7 eT)) bS (by omega) (by omega) (by rw[Nat.mul_one])) (wv Z (ag dP Z (gq.kc hcst)) (ai (↑i) Z (av (.string st) Z (wn (sr (mi (↑i) Z ?_)))))))
             obtain⟨iN,nX⟩: ∃z:Int,IntKind.u64.wrap (↑i)=z:=⟨_,rfl⟩
             refine wv Z (ao (c:=iN) ej be Z nX) (mi (↑i) Z (wv Z (aH (k:= .i64) (c:= ↑i+7) Z Z (a5 (by omega) (by omega))) ?_))
             obtain⟨iO,nZ⟩: ∃z:Int,IntKind.u64.wrap (↑i+7)=z:=⟨_,rfl⟩
             refine wv Z (ao (c:=iO) ej be Z nZ) (wm Z (lj gq 43 [.q iN,.q 65536,.q iO] Z (by kernel_rfl) (fun V xt rE=>eL V 0 3 3 Z (wn ?_))))
             have gr:=rE.drew
             refine dt MX (fun w'=>w'.cell? ⟨g9,2,none⟩=some (.s Al nld cl)) (fun w'=>w'.cell? ⟨g1,1,none⟩=some (.b M.big)) 13 (Pl.take 0 (Pl.takeS 1 (tr 2 4 (Pl.take 7 (Pl.take 8 (Pl.run 6 (Pl.take 9 (Pl.run 10 (Pl.run 11 (Pl.take 12 (Pl.run 13 Pl.done))))))))))) (by kernel_rfl) Z (gr.c 6 2 Z Z) (gr.c 5 1 Z Z) (qy Z (ab (o:=0) dj d2) (qs Z Z (fun _ hS=>ag dH Z hS) (qy Z (ab (o:=0) fw d1) (qh Z (fun hS=>ag dc Z hS) (qm (.sl V 0 3 3) Z Z (qm (.string st) Z Z (qm (.string st) Z Z (qm (.sl V 0 3 3) Z Z (qr Z (ec zF (args:= [.b M.big,.q 12,.sl V 0 3 3,.string st]) Z (aa (iW M.big _ (aj (m:=3) (xs:= [iN,65536,iO]) (gr.g 0 Z) Z) (by omega) (by omega)) ?_)))))))))))
             rintro e xu ⟨am,Q,ap,bT,rfl,t0,-,oa,oc⟩
             have iP:=gr.cal0 oc
             refine⟨_,Z,⟨iP.c 6 1 Z Z,fun _=>iP.c 7 2 Z Z,qy Z (yb (ps:= [(0,.i 2),(1,.s am Q ap),(2,.string st),(3,.sl V 0 3 3)]) (cells:=#[.i 2,.s am Q ap,.string st,.sl V 0 3 3]) Z (by kernel_rfl)) (qr Z (pg iP (ps:= [(0,.agg #[.i 2,.s am Q ap,.string st,.sl V 0 3 3])]) (e:=74) (cs:= [.i 2,.s am Q ap,.string st,.sl V 0 3 3]) Z (by kernel_rfl) (fun xv xw gs=>⟨gs.c 7 1 Z Z,fun _=>gs.c 8 2 Z Z,qr Z (bG gs 5 (m:=1) (news:= [.i 2,.s am Q ap,.string st,.sl V 0 3 3]) Z kT kY Z (by decide) Z Z Z (gs.news (i:=0) Z) (by simp[Value.oneCell']) (by simp only[maxLen];omega) (by omega) (fun xx xy gu=> ?_))⟩)))⟩⟩
             obtain⟨rF,rG,rfl⟩:=df (gu.g 5 rfl)
             refine⟨gu.c 7 1 Z Z,fun _=>gu.c 8 2 Z Z,qy Z (ab (o:=0) dj d2) (dJ Z (es gu 8 2 (.s rF (nld+1) rG) Z dH (fun xz lf=> ?_)))⟩
             refine⟨lf.c 7 1 Z Z,fun h=>absurd h (by decide),ca (ak (ac (ae (wv Z (aH (k:= .i64) (c:= ↑i+1) bS Z (a5 (by omega) (by omega))) (mi (↑i+1) Z (wn ?_))))))⟩
             have e1:=im (f:=LdM.cells) ll ⟨2,am,Q,ap,bT,.string st,.sl V 0 3 3⟩
             have rH:=(lf.reAll [1,6] [3,4,5,7,8,9]).re [1,2,3,0,4,5,6]
             have bl: ∀w,(Res.all [ay 5 1 (.s am Q ap) Q (nums .u8 bT),D]).φ w → ∀l ∈ ll++ [⟨2,am,Q,ap,bT,.string st,.sl V 0 3 3⟩],l.ok w:=fun w h=>eu (hD w (aS.1 h D (by simp))) ⟨(by show Q≤2000;omega),aV (aS.1 h (ay 5 1 (.s am Q ap) Q (nums .u8 bT)) (by simp)),oa,rfl,rfl⟩
             exact⟨⟨i+1,_,nld+1,_,ll++ [⟨2,am,Q,ap,bT,.string st,.sl V 0 3 3⟩],_,d1,iL,d2,iM,gn,go,gp,ew,ex,Z,by omega,by omega,bl,(e1▸rH).re [0,1,2,3,4,5,6]⟩,by show M.nL+1- nv (.i (↑i+1))<M.nL+1- nv (rC 463);rw[bS];simp only[nv];omega⟩
            ·
             simp only[bx]at fg
             refine bq (ar (ar (aQ (ac (ad (sr (wv Z (ab qv d1) (wv Z (gq.ld 4 Z jz Z (.s M.AP M.nP M.cP) Z) (wv Z (aO td Z) (mi 0 Z (wn ?_)))))))))))
             refine a6 ?_
             have rI:St w aR [ay 5 1 (.s Ac nc cc) nc (nums .u8 cs),ay 5 1 (.s Ar nr cr) nr (nums .u8 rs),ay 74 4 (.s Al nld cl) nld (ll.flatMap LdM.cells),D,an g1 M.cells 40,an g9 [.ns,.b M.big,.s Al nld cl,.s Ap np cp,.s Ay ny cy,.s M.AI M.nI M.cI] 33,an g3 [.ns,.b false,.ns,.ns,.ns,.ns] 33] rD:=gq.re [0,1,2,3,4,5,6]
             refine bA (fun ρ w'=> ∃(i:Nat) (Al:Option Addr) (nld:Nat) (cl:Nat) (ll:List LdM) (D:Res),ρ 1= .pt g1∧ρ 2= .pt g3∧ρ 4= .pt g9∧ρ 5= .q L∧ρ 15= .s Ac nc cc∧ρ 16= .s Ar nr cr∧ρ 17= .i (↑a0)∧ρ 489= .s M.AP M.nP M.cP∧ρ 490= .i (↑M.nP)∧ρ 491= .i ↑i∧i≤M.nP∧nld≤9+i∧(∀w,D.φ w → ∀l ∈ ll,l.ok w)∧St w aR [ay 5 1 (.s Ac nc cc) nc (nums .u8 cs),ay 5 1 (.s Ar nr cr) nr (nums .u8 rs),ay 74 4 (.s Al nld cl) nld (ll.flatMap LdM.cells),D,an g1 M.cells 40,an g9 [.ns,.b M.big,.s Al nld cl,.s Ap np cp,.s Ay ny cy,.s M.AI M.nI M.cI] 33,an g3 [.ns,.b false,.ns,.ns,.ns,.ns] 33] w') (fun ρ _=>M.nP+1- nv (ρ 491)) (⟨0,_,_,_,_,_,d1,iL,d2,iM,gn,go,gp,Z,Z,Z,Nat.zero_le _,by omega,hD,rI⟩) ?_
             rintro rK rL ⟨i,Al,nld,cl,ll,D,d3,iQ,d4,iR,gv,gx,gy,ez,e0,d5,x0,x1,hD,gz⟩
             refine sr (wv Z (bR d5 e0) (wn (ad ?_)))
             refine bK Z (fun fh=> ?_) (fun fh=> ?_)
             ·
              simp only[bx]at fh
              refine wk (ad (a6 (sr ?_)))
              obtain⟨st,hsts,gT,oT,eT,hcst⟩:=rJ hM.hP (show i<M.nP by omega)
              refine wv Z (bi (i) xN (Eq.trans ez (p7 eT)) d5 (by omega) (by omega) (by rw[Nat.mul_one])) (wv Z (ag dP Z (gz.kc hcst)) (av (.string st) Z (wn ?_)))
              have iS:=gz.drew
              refine dt MX (fun w'=>w'.cell? ⟨g9,2,none⟩=some (.s Al nld cl)) (fun w'=>w'.cell? ⟨g1,1,none⟩=some (.b M.big)) 11 (Pl.take 0 (Pl.takeS 1 (tr 2 3 (Pl.take 6 (Pl.run 5 (Pl.take 7 (Pl.run 8 (Pl.run 9 (Pl.take 10 (Pl.run 11 Pl.done)))))))))) (by kernel_rfl) Z (iS.c 5 2 Z Z) (iS.c 4 1 Z Z) (qy Z (ab (o:=0) dj d4) (qs Z Z (fun _ hS=>ag dH Z hS) (qy Z (ab (o:=0) fw d3) (qh Z (fun hS=>ag dc Z hS) (qm (.string st) Z Z (qm (.string st) Z Z (qr Z (ec zF (args:= [.b M.big,.q 2147483676,.ns,.string st]) Z (aa (iW M.big _ (RI.nil _ _ _) (by omega) (by omega)) ?_)))))))))
              rintro e x6 ⟨aq,R,aw,bV,rfl,t1,-,od,oe⟩
              have iT:=iS.cal0 oe
              refine⟨_,Z,⟨iT.c 5 1 Z Z,fun _=>iT.c 6 2 Z Z,qy Z (yb (ps:= [(0,.i 3),(1,.s aq R aw),(2,.string st),(3,.ns)]) (cells:=#[.i 3,.s aq R aw,.string st,.ns]) Z (by kernel_rfl)) (qr Z (pg iT (ps:= [(0,.agg #[.i 3,.s aq R aw,.string st,.ns])]) (e:=74) (cs:= [.i 3,.s aq R aw,.string st,.ns]) Z (by kernel_rfl) (fun x7 x8 g0=>⟨g0.c 6 1 Z Z,fun _=>g0.c 7 2 Z Z,qr Z (bG g0 4 (m:=1) (news:= [.i 3,.s aq R aw,.string st,.ns]) Z kT kY Z (by decide) Z Z Z (g0.news (i:=0) Z) (by simp[Value.oneCell']) (by simp only[maxLen];omega) (by omega) (fun x9 xA g2=> ?_))⟩)))⟩⟩
              obtain⟨rM,rN,rfl⟩:=df (g2.g 4 rfl)
              refine⟨g2.c 6 1 Z Z,fun _=>g2.c 7 2 Z Z,qy Z (ab (o:=0) dj d4) (dJ Z (es g2 7 2 (.s rM (nld+1) rN) Z dH (fun xB lg=> ?_)))⟩
              refine⟨lg.c 6 1 Z Z,fun h=>absurd h (by decide),ca (ak (ac (ae (wv Z (aH (k:= .i64) (c:= ↑i+1) d5 Z (a5 (by omega) (by omega))) (mi (↑i+1) Z (wn ?_))))))⟩
              have e1:=im (f:=LdM.cells) ll ⟨3,aq,R,aw,bV,.string st,.ns⟩
              have rO:=(lg.reAll [1,5] [2,3,4,6,7,8]).re [1,2,3,0,4,5,6]
              have bl: ∀w,(Res.all [ay 5 1 (.s aq R aw) R (nums .u8 bV),D]).φ w → ∀l ∈ ll++ [⟨3,aq,R,aw,bV,.string st,.ns⟩],l.ok w:=fun w h=>eu (hD w (aS.1 h D (by simp))) ⟨(by show R≤2000;omega),aV (aS.1 h (ay 5 1 (.s aq R aw) R (nums .u8 bV)) (by simp)),od,rfl,rfl⟩
              exact⟨⟨i+1,_,nld+1,_,ll++ [⟨3,aq,R,aw,bV,.string st,.ns⟩],_,d3,iQ,d4,iR,gv,gx,gy,ez,e0,Z,by omega,by omega,bl,(e1▸rO).re [0,1,2,3,4,5,6]⟩,by show M.nP+1- nv (.i (↑i+1))<M.nP+1- nv (rK 491);rw[d5];simp only[nv];omega⟩
             ·
              simp only[bx]at fh
              refine bq (ar (ar (aQ (ac (ad (sr (wv Z (ab mH d3) (wv Z (gz.ld 4 Z uV Z (.s M.AO M.nO M.cO) Z) (wv Z (aO TL38 Z) (mi 0 Z (wn ?_)))))))))))
              refine a6 ?_
              have rQ:St w aR [ay 5 1 (.s Ac nc cc) nc (nums .u8 cs),ay 5 1 (.s Ar nr cr) nr (nums .u8 rs),ay 74 4 (.s Al nld cl) nld (ll.flatMap LdM.cells),D,an g1 M.cells 40,an g9 [.ns,.b M.big,.s Al nld cl,.s Ap np cp,.s Ay ny cy,.s M.AI M.nI M.cI] 33,an g3 [.ns,.b false,.ns,.ns,.ns,.ns] 33] rL:=gz.re [0,1,2,3,4,5,6]
              refine bA (fun ρ w'=> ∃(i:Nat) (Al:Option Addr) (nld:Nat) (cl:Nat) (ll:List LdM) (D:Res),ρ 1= .pt g1∧ρ 2= .pt g3∧ρ 4= .pt g9∧ρ 5= .q L∧ρ 15= .s Ac nc cc∧ρ 16= .s Ar nr cr∧ρ 17= .i (↑a0)∧ρ 508= .s M.AO M.nO M.cO∧ρ 509= .i (↑M.nO)∧ρ 510= .i ↑i∧i≤M.nO∧nld≤12+i∧(∀w,D.φ w → ∀l ∈ ll,l.ok w)∧St w aR [ay 5 1 (.s Ac nc cc) nc (nums .u8 cs),ay 5 1 (.s Ar nr cr) nr (nums .u8 rs),ay 74 4 (.s Al nld cl) nld (ll.flatMap LdM.cells),D,an g1 M.cells 40,an g9 [.ns,.b M.big,.s Al nld cl,.s Ap np cp,.s Ay ny cy,.s M.AI M.nI M.cI] 33,an g3 [.ns,.b false,.ns,.ns,.ns,.ns] 33] w') (fun ρ _=>M.nO+1- nv (ρ 510)) (⟨0,_,_,_,_,_,d3,iQ,d4,iR,gv,gx,gy,Z,Z,Z,Nat.zero_le _,by omega,hD,rQ⟩) ?_
              rintro rR rS ⟨i,Al,nld,cl,ll,D,d6,fi,a9,fj,d8,d9,dA,bW,bX,bZ,xC,xD,hD,g4⟩
              refine sr (wv Z (bR bZ bX) (wn (ad ?_)))
              refine bK Z (fun fk=> ?_) (fun fk=> ?_)
              ·
               simp only[bx]at fk
               refine wk ?_
               refine eh (fun ρ w'=> ∃og:Option Addr,∃oh:Nat,∃oi:List LdM,∃D2:Res,ρ 1= .pt g1∧ρ 2= .pt g3∧ρ 4= .pt g9∧ρ 5= .q L∧ρ 15= .s Ac nc cc∧ρ 16= .s Ar nr cr∧ρ 17= .i (↑a0)∧ρ 508= .s M.AO M.nO M.cO∧ρ 509= .i (↑M.nO)∧ρ 510= .i (↑i)∧(∀w,D2.φ w → ∀l ∈ oi,l.ok w)∧St w aR [ay 5 1 (.s Ac nc cc) nc (nums .u8 cs),ay 5 1 (.s Ar nr cr) nr (nums .u8 rs),ay 74 4 (.s og (nld+1) oh) (nld+1) (oi.flatMap LdM.cells),D2,an g1 M.cells 40,an g9 [.ns,.b M.big,.s og (nld+1) oh,.s Ap np cp,.s Ay ny cy,.s M.AI M.nI M.cI] 33,an g3 [.ns,.b false,.ns,.ns,.ns,.ns] 33] w') ?_ ?_
               ·
                refine a6 (sr ?_)
                obtain⟨ot,hot,gT,oT,eT,hct⟩:=s4 hM.hO (show i<M.nO by omega)
                change _=some (Value.slice ot.A ot.n ot.c)at hct
                obtain⟨hon,hor,hob⟩:=hM.hOo ot hot
                refine wv Z (bi (i) TS38 (Eq.trans bW (p7 eT)) bZ (by omega) (by omega) (by rw[Nat.mul_one])) (wv Z (ag fe Z (g4.kc hct)) (av (.s ot.A ot.n ot.c) Z (wn ?_)))
                have g5:=g4.drew
                refine dt MX (fun w'=>w'.cell? ⟨g9,2,none⟩=some (.s Al nld cl)) (fun w'=>w'.cell? ⟨g1,1,none⟩=some (.b M.big)) 17 (Pl.take 0 (Pl.takeS 1 (Pl.take 2 (Pl.take 3 (tr 5 4 (Pl.take 11 (Pl.run2 4 (Pl.run 9 (Pl.run 10 (Pl.run 12 (Pl.take 13 (Pl.run 14 (Pl.run 15 (Pl.take 16 (Pl.run 17 Pl.done)))))))) 9 (Pl.run 4 (Pl.run 10 (Pl.run 12 (Pl.take 13 (Pl.run 14 (Pl.run 15 (Pl.take 16 (Pl.run 17 Pl.done))))))))))))))) (by kernel_rfl) Z (g5.c 5 2 Z Z) (g5.c 4 1 Z Z) (qy Z (ab (o:=0) dj a9) (qs Z Z (fun _ hS=>ag dH Z hS) (qy Z (ab (o:=0) fw d6) (qh Z (fun hS=>ag dc Z hS) (qm (.s ot.A ot.n ot.c) Z Z (qy Z (aO (n:=ot.n) bU Z) (qy Z (aH (k:= .i64) (c:=8+ ↑ot.n) Z Z (a5 (by omega) (by omega))) ?_)))))))
                obtain⟨e3,oj⟩: ∃z:Int,IntKind.u64.wrap (8+ ↑ot.n)=z:=⟨_,rfl⟩
                refine qy Z (ao (c:=e3) ej be Z oj) (qm (.s ot.A ot.n ot.c) Z Z ?_)
                refine⟨?_,?_⟩
                ·
                 refine po Z (ec jN (args:= [.i 2]) Z (aa (dK (n:=2) _ (by omega)) ?_))
                 rintro e xE ⟨rT,rU,rfl,om⟩
                 have iU:=g5.cal0 om
                 refine⟨_,Z,⟨iU.c 5 1 Z Z,fun _=>iU.c 6 2 Z Z,qr Z (lj iU 43 [.q 50,.q e3] Z (by kernel_rfl) (fun rV xF e6=>⟨e6.c 6 1 Z Z,fun _=>e6.c 7 2 Z Z,qr Z (ec kg (args:= [.b M.big,.s rT 2 rU,.sl rV 0 2 2]) Z (aa (si M.big (k:=8) (aV (e6.g 1 Z)) (by omega) Z (aj (m:=2) (xs:= [50,e3]) (e6.g 0 Z) Z) (Nat.le_refl _) (by omega) (by omega)) ?_))⟩))⟩⟩
                 rintro e xG ⟨xH,xI,cb,rfl,t2,on,oo⟩
                 have g7:=e6.cal0 oo
                 refine⟨_,Z,⟨g7.c 7 1 Z Z,fun _=>g7.c 8 2 Z Z,qr Z (bY g7 0 (m:=ot.n) (news:=nums .u8 ot.ys) Z Z Z (fun _=>App.ri (hor.keep0 g7.keep) bB fx bB) Z (by decide) (by simp only[maxLen];omega) (by omega) (fun xJ xK e7=> ?_))⟩⟩
                 obtain⟨az,a1,rfl⟩:=df (e7.g 0 rfl)
                 rw[bm]at e7
                 refine⟨e7.c 7 1 Z Z,fun _=>e7.c 8 2 Z Z,qy Z (yb (ps:= [(0,.i 0),(1,.s az (8+ot.n) a1),(2,.string (⟨#[]⟩)),(3,.ns)]) (cells:=#[.i 0,.s az (8+ot.n) a1,.string (⟨#[]⟩),.ns]) Z (by kernel_rfl)) (qr Z (pg e7 (ps:= [(0,.agg #[.i 0,.s az (8+ot.n) a1,.string (⟨#[]⟩),.ns])]) (e:=74) (cs:= [.i 0,.s az (8+ot.n) a1,.string (⟨#[]⟩),.ns]) Z (by kernel_rfl) (fun xL xM g8=>⟨g8.c 8 1 Z Z,fun _=>g8.c 9 2 Z Z,qr Z (bG g8 6 (m:=1) (news:= [.i 0,.s az (8+ot.n) a1,.string (⟨#[]⟩),.ns]) Z kT kY Z (by decide) Z Z Z (g8.news (i:=0) Z) (by simp[Value.oneCell']) (by simp only[maxLen];omega) (by omega) (fun xO xP gA=> ?_))⟩)))⟩
                 obtain⟨rW,rX,rfl⟩:=df (gA.g 6 rfl)
                 refine⟨gA.c 8 1 Z Z,fun _=>gA.c 9 2 Z Z,qy Z (ab (o:=0) dj a9) (dJ Z (es gA 9 2 (.s rW (nld+1) rX) Z dH (fun xX lh=> ?_)))⟩
                 refine⟨lh.c 8 1 Z Z,fun h=>absurd h (by decide),ca (ak (ac ?_))⟩
                 have e1:=im (f:=LdM.cells) ll ⟨0,az,(8+ot.n),a1,cb++ot.ys,.string (⟨#[]⟩),.ns⟩
                 have rY:=(lh.reAll [1,7] [4,5,6,8,9,10]).re [1,2,3,0,4,5,6]
                 have bl: ∀w,(Res.all [ay 5 1 (.s az (8+ot.n) a1) (8+ot.n) (nums .u8 (cb++ot.ys)),D]).φ w → ∀l ∈ ll++ [⟨0,az,(8+ot.n),a1,cb++ot.ys,.string (⟨#[]⟩),.ns⟩],l.ok w:=fun w h=>eu (hD w (aS.1 h D (by simp))) ⟨(by show(8+ot.n)≤2000;omega),aV (aS.1 h (ay 5 1 (.s az (8+ot.n) a1) (8+ot.n) (nums .u8 (cb++ot.ys))) (by simp)),(Byt.app on hob),rfl,rfl⟩
                 exact⟨_,_,ll++ [⟨0,az,(8+ot.n),a1,cb++ot.ys,.string (⟨#[]⟩),.ns⟩],_,d6,fi,a9,fj,d8,d9,dA,bW,bX,bZ,bl,(e1▸rY).re [0,1,2,3,4,5,6]⟩
                ·
                 refine po Z (lj g5 43 [.q 50,.q e3] Z (by kernel_rfl) (fun rZ xY iV=>⟨iV.c 5 1 Z Z,fun _=>iV.c 6 2 Z Z,qr Z (ec jN (args:= [.i 2]) Z (aa (dK (n:=2) _ (by omega)) ?_))⟩))
                 rintro e xZ ⟨sa,sb,rfl,op⟩
                 have e8:=iV.cal0 op
                 refine⟨_,Z,⟨e8.c 6 1 Z Z,fun _=>e8.c 7 2 Z Z,qr Z (ec kg (args:= [.b M.big,.s sa 2 sb,.sl rZ 0 2 2]) Z (aa (si M.big (k:=8) (aV (e8.g 0 Z)) (by omega) Z (aj (m:=2) (xs:= [50,e3]) (e8.g 1 Z) Z) (Nat.le_refl _) (by omega) (by omega)) ?_))⟩⟩
                 rintro e ya ⟨yc,ye,cd,rfl,t3,oq,os⟩
                 have gD:=e8.cal0 os
                 refine⟨_,Z,⟨gD.c 7 1 Z Z,fun _=>gD.c 8 2 Z Z,qr Z (bY gD 0 (m:=ot.n) (news:=nums .u8 ot.ys) Z Z Z (fun _=>App.ri (hor.keep0 gD.keep) bB fx bB) Z (by decide) (by simp only[maxLen];omega) (by omega) (fun yf yg e9=> ?_))⟩⟩
                 obtain⟨a2,a3,rfl⟩:=df (e9.g 0 rfl)
                 rw[bm]at e9
                 refine⟨e9.c 7 1 Z Z,fun _=>e9.c 8 2 Z Z,qy Z (yb (ps:= [(0,.i 0),(1,.s a2 (8+ot.n) a3),(2,.string (⟨#[]⟩)),(3,.ns)]) (cells:=#[.i 0,.s a2 (8+ot.n) a3,.string (⟨#[]⟩),.ns]) Z (by kernel_rfl)) (qr Z (pg e9 (ps:= [(0,.agg #[.i 0,.s a2 (8+ot.n) a3,.string (⟨#[]⟩),.ns])]) (e:=74) (cs:= [.i 0,.s a2 (8+ot.n) a3,.string (⟨#[]⟩),.ns]) Z (by kernel_rfl) (fun yh yi gE=>⟨gE.c 8 1 Z Z,fun _=>gE.c 9 2 Z Z,qr Z (bG gE 6 (m:=1) (news:= [.i 0,.s a2 (8+ot.n) a3,.string (⟨#[]⟩),.ns]) Z kT kY Z (by decide) Z Z Z (gE.news (i:=0) Z) (by simp[Value.oneCell']) (by simp only[maxLen];omega) (by omega) (fun yj yk gF=> ?_))⟩)))⟩
                 obtain⟨sc,se,rfl⟩:=df (gF.g 6 rfl)
                 refine⟨gF.c 8 1 Z Z,fun _=>gF.c 9 2 Z Z,qy Z (ab (o:=0) dj a9) (dJ Z (es gF 9 2 (.s sc (nld+1) se) Z dH (fun ym li=> ?_)))⟩
                 refine⟨li.c 8 1 Z Z,fun h=>absurd h (by decide),ca (ak (ac ?_))⟩
                 have e1:=im (f:=LdM.cells) ll ⟨0,a2,(8+ot.n),a3,cd++ot.ys,.string (⟨#[]⟩),.ns⟩
                 have sf:=(li.reAll [1,7] [4,5,6,8,9,10]).re [1,2,3,0,4,5,6]
                 have bl: ∀w,(Res.all [ay 5 1 (.s a2 (8+ot.n) a3) (8+ot.n) (nums .u8 (cd++ot.ys)),D]).φ w → ∀l ∈ ll++ [⟨0,a2,(8+ot.n),a3,cd++ot.ys,.string (⟨#[]⟩),.ns⟩],l.ok w:=fun w h=>eu (hD w (aS.1 h D (by simp))) ⟨(by show(8+ot.n)≤2000;omega),aV (aS.1 h (ay 5 1 (.s a2 (8+ot.n) a3) (8+ot.n) (nums .u8 (cd++ot.ys))) (by simp)),(Byt.app oq hob),rfl,rfl⟩
                 exact⟨_,_,ll++ [⟨0,a2,(8+ot.n),a3,cd++ot.ys,.string (⟨#[]⟩),.ns⟩],_,d6,fi,a9,fj,d8,d9,dA,bW,bX,bZ,bl,(e1▸sf).re [0,1,2,3,4,5,6]⟩
               ·
                rintro yn yo ⟨og,oh,oi,D2,ou,ov,ow,ox,ks,kt,ku,iX,iY,iZ,hD,sh⟩
                refine ae (wv Z (aH (k:= .i64) (c:= ↑i+1) iZ Z (a5 (by omega) (by omega))) (mi (↑i+1) Z (wn ?_)))
                exact⟨⟨i+1,_,(nld+1),_,_,_,ou,ov,ow,ox,ks,kt,ku,iX,iY,Z,by omega,by omega,hD,sh.re [0,1,2,3,4,5,6]⟩,by show M.nO+1- nv (.i (↑i+1))<M.nO+1- nv (rR 510);rw[bZ];simp only[nv];omega⟩
              ·
               simp only[bx]at fk
               refine bq (ar (ar (aQ (ac (ad (sr (wv Z (ab dj a9) (wv Z (g4.ld 5 Z dH Z (.s Al nld cl) Z) (wv Z (aO Bj Z) (mi 0 Z (wn ?_)))))))))))
               refine a6 ?_
               have sj:St w aR [ay 5 1 (.s Ac nc cc) nc (nums .u8 cs),ay 5 1 (.s Ar nr cr) nr (nums .u8 rs),ay 74 4 (.s Al nld cl) nld (ll.flatMap LdM.cells),D,an g1 M.cells 40,an g9 [.ns,.b M.big,.s Al nld cl,.s Ap np cp,.s Ay ny cy,.s M.AI M.nI M.cI] 33,an g3 [.ns,.b false,.ns,.ns,.ns,.ns] 33] rS:=g4.re [0,1,2,3,4,5,6]
               refine bA (fun ρ w'=> ∃(i:Nat) (Ae:Option Addr) (ne:Nat) (ce:Nat) (esy:List Int),ρ 1= .pt g1∧ρ 2= .pt g3∧ρ 4= .pt g9∧ρ 5= .q L∧ρ 16= .s Ar nr cr∧ρ 17= .i (↑a0)∧ρ 533= .s Al nld cl∧ρ 534= .i (↑nld)∧ρ 535= .i ↑i∧i≤nld∧ρ 15= .s Ae ne ce∧ne≤1248+2000*i∧Byt esy∧St w aR [ay 5 1 (.s Ae ne ce) ne (nums .u8 esy),ay 5 1 (.s Ar nr cr) nr (nums .u8 rs),ay 74 4 (.s Al nld cl) nld (ll.flatMap LdM.cells),D,an g1 M.cells 40,an g9 [.ns,.b M.big,.s Al nld cl,.s Ap np cp,.s Ay ny cy,.s M.AI M.nI M.cI] 33,an g3 [.ns,.b false,.ns,.ns,.ns,.ns] 33] w') (fun ρ _=>nld+1- nv (ρ 535)) (⟨0,_,_,_,_,d6,fi,a9,fj,d9,dA,Z,Z,Z,Nat.zero_le _,d8,by omega,hcs,sj⟩) ?_
               rintro lk yp ⟨i,Ae,ne,ce,esy,O,dB,aB,fm,b8,gG,cg,ci,aD,yq,bf,hne,hes,a4⟩
               refine sr (wv Z (bR aD ci) (wn (ad ?_)))
               refine bK Z (fun fn=> ?_) (fun fn=> ?_)
               ·
                simp only[bx]at fn
                refine wk (ad (a6 (sr ?_)))
                obtain⟨l,hl,gl,ol,el,hcl⟩:=tt (i2 (a4.g 2 rfl)) LdM.len4 (by decide) (show i<nld by omega)
                obtain⟨zt,zu,t4,t5,t6⟩:=hD _ (a4.g 3 rfl) l hl
                have yr:=a4
                refine mg aD Z (wv Z (bi (i) TS29 (Eq.trans cg (p7 el)) aD (by omega) (by omega) Z) (wv Z (dQ (cs:= [.i l.k,.s l.A l.n l.c,l.v1,l.v2]) (o:=ol+i*4) TG74 Z (hcl) Z) (wm Z (gQ a4 tH (fun yt yu sk=>ai (↑i) Z (ws (bE sk 0 (vs:= [.i l.k,.s l.A l.n l.c,l.v1,l.v2]) (m:=4) Z TZ74 Z Z Z (nl Z) (all4 Z Z t5 t6) (cs':= [.i l.k,.s l.A l.n l.c,l.v1,l.v2]) Z (fun yv eA=> ?_))))))))
                refine wn (sr (mi (↑i) Z (wv Z (ab oE O) (wv Z (eA.ld 5 Z jz Z (.s M.AS M.nS M.cS) Z) (wv Z (aO td Z) (wv Z (jO Z Z) (wn ?_)))))))
                refine bK Z (fun fo=> ?_) (fun fo=> ?_)
                ·
                 simp only[bx]at fo
                 refine ae (mg bf Z (wf xV Z (wv Z (eA.ld 0 Z fe Z (.s l.A l.n l.c) Z) (wm Z (bY eA 1 (m:=l.n) (news:=nums .u8 l.ys) Z Z Z (fun _=>App.ri ((hD _ (eA.g 4 Z) l hl).2.1) bB fx bB) Z (by decide) (by simp only[maxLen];omega) (by omega) (fun yx yy ja=> ?_))))))
                 obtain⟨sm,so,rfl⟩:=df (ja.g 1 rfl)
                 rw[bm]at ja
                 refine av (.s sm (ne+l.n) so) Z (bk (ak (ac (ae (wv Z (aH (k:= .i64) (c:= ↑i+1) aD Z (a5 (by omega) (by omega))) (mi (↑i+1) Z (wn ?_)))))))
                 exact⟨⟨i+1,_,_,_,_,O,dB,aB,fm,b8,gG,cg,ci,Z,by omega,Z,by omega,(Byt.app hes t4),ja.re [1,2,3,4,5,6,7]⟩,by show nld+1- nv (.i (↑i+1))<nld+1- nv (lk 535);rw[aD];simp only[nv];omega⟩
                ·
                 simp only[bx]at fo
                 refine dw (ak (ac (ae (wv Z (aH (k:= .i64) (c:= ↑i+1) aD Z (a5 (by omega) (by omega))) (mi (↑i+1) Z (wn ?_))))))
                 exact⟨⟨i+1,_,_,_,_,O,dB,aB,fm,b8,gG,cg,ci,Z,by omega,bf,by omega,hes,eA.re [1,2,3,4,5,6,7]⟩,by show nld+1- nv (.i (↑i+1))<nld+1- nv (lk 535);rw[aD];simp only[nv];omega⟩
               ·
                simp only[bx]at fn
                refine bq (ar (ar (aQ (ac (sr (mg fm Z (wv Z (ab BI O) (wv Z (a4.ld 4 Z ax Z (.w M.cpu) Z) ?_))))))))
                obtain⟨eF,oz⟩: ∃z:Int,IntKind.u64.wrap M.cpu=z:=⟨_,rfl⟩
                refine wv Z (ao (c:=eF) bv be Z oz) (wv Z (ab BH O) (wv Z (a4.ld 4 Z ax Z (.w M.sub) Z) ?_))
                obtain⟨eG,o0⟩: ∃z:Int,IntKind.u64.wrap M.sub=z:=⟨_,rfl⟩
                refine wv Z (ao (c:=eG) bv be Z o0) (wv Z (ab BG O) (wv Z (a4.ld 4 Z ax Z (.w M.ty) Z) ?_))
                obtain⟨eH,o1⟩: ∃z:Int,IntKind.u64.wrap M.ty=z:=⟨_,rfl⟩
                refine wv Z (ao (c:=eH) bv be Z o1) (wv Z (ab dj aB) (wv Z (a4.ld 5 Z dH Z (.s Al nld cl) Z) (wv Z (aO Bj Z) ?_)))
                obtain⟨eI,o2⟩: ∃z:Int,IntKind.u64.wrap (↑nld)=z:=⟨_,rfl⟩
                refine wv Z (ao (c:=eI) ej be Z o2) (mg bf Z (wv Z (aO bU Z) (wv Z (ao ej be Z (aC (by omega) (by omega))) (wv Z (ab BF O) (wv Z (a4.ld 4 Z ax Z (.w M.fl) Z) ?_)))))
                obtain⟨eJ,o3⟩: ∃z:Int,IntKind.u64.wrap M.fl=z:=⟨_,rfl⟩
                refine wv Z (ao (c:=eJ) bv be Z o3) (wm Z (lj a4 43 [.q L,.q eF,.q eG,.q eH,.q eI,.q (↑ne),.q eJ] Z (by kernel_rfl) (fun b4 y0 sp=>wv Z (ab iE aB) (ws (es sp 6 0 (.sl b4 0 7 7) Z eD (fun y1 sq=> ?_))))))
                refine wn (ad ?_)
                have jb:=sq.drew
                refine aU MX (fun w'=>w'.cell? ⟨g1,1,none⟩=some (.b M.big)∧w'.cell? ⟨g9,0,none⟩=some (.sl b4 0 7 7)) (Pl.take 0 (Pl.take 1 (Pl.take 3 (Pl.take 4 (Pl.run 2 (Pl.run 5 (Pl.take 6 Pl.done))))))) (by kernel_rfl) (⟨jb.c 5 1 Z Z,jb.c 6 0 Z Z⟩) (qy Z (ab (o:=0) fw O) (qh Z (fun hS=>ag dc Z hS.1) (qy Z (ab (o:=0) iE aB) (qh Z (fun hS=>ag eD Z hS.2) (qr Z (ec jN (args:= [.i 7]) Z (aa (dK (n:=7) _ (by omega)) ?_)))))))
                rintro e y2 ⟨ss,su,rfl,o4⟩
                have eK:=jb.cal0 o4
                refine⟨_,Z,⟨⟨eK.c 6 1 Z Z,eK.c 7 0 Z Z⟩,fun _=>trivial,qr Z (ec kg (args:= [.b M.big,.s ss 7 su,.sl b4 0 7 7]) Z (aa (si M.big (k:=28) (aV (eK.g 0 Z)) (by omega) Z (aj (m:=7) (xs:= [L,eF,eG,eH,eI,↑ne,eJ]) (eK.g 1 Z) Z) (Nat.le_refl _) (by omega) (by omega)) ?_))⟩⟩
                rintro e y3 ⟨lm,ln,t7,rfl,t8,jc,o5⟩
                have eM:=eK.cal0 o5
                refine⟨_,Z,⟨⟨eM.c 7 1 Z Z,eM.c 8 0 Z Z⟩,fun _=>trivial,qa (.s lm 28 ln) Z Z (pn ?_)⟩⟩
                refine eh (fun ρ w'=> ∃Af:Option Addr,∃nf:Nat,∃cf:Nat,∃fs:List Int,ρ 1= .pt g1∧ρ 2= .pt g3∧ρ 4= .pt g9∧ρ 15= .s Ae ne ce∧ρ 16= .s Ar nr cr∧ρ 47= .s Af nf cf∧28≤nf∧nf≤32∧Byt fs∧St w aR [ay 5 1 (.s Af nf cf) nf (nums .u8 fs),ay 5 1 (.s Ae ne ce) ne (nums .u8 esy),ay 5 1 (.s Ar nr cr) nr (nums .u8 rs),an b4 [.q L,.q eF,.q eG,.q eH,.q eI,.q (↑ne),.q eJ] 43,an g1 M.cells 40,an g9 [.sl b4 0 7 7,.b M.big,.s Al nld cl,.s Ap np cp,.s Ay ny cy,.s M.AI M.nI M.cI] 33,an g3 [.ns,.b false,.ns,.ns,.ns,.ns] 33] w') ?_ ?_
                ·
                 refine sr (wv Z (ab jo O) (wv Z (eM.ld 7 Z dc Z (.b M.wide) Z) (wn ?_)))
                 refine bK Z (fun o6=> ?_) (fun o6=> ?_)
                 ·
                  refine ae (mv (.s lm 28 ln) Z (wm Z (lj eM 5 [.e 0,.e 0,.e 0,.e 0] Z (by kernel_rfl) (fun y4 y5 lo=>wm Z (bY lo 1 (m:=4) (news:=nums .u8 ([0,0,0,0]:List Int)) Z Z Z (fun _=>App.ri (bH (xs:= [0,0,0,0]) (lo.g 0 Z)) bB fx bB) Z (by decide) (by simp only[maxLen];omega) (by omega) (fun y6 y7 jd=> ?_))))))
                  obtain⟨sv,sw,rfl⟩:=df (jd.g 1 rfl)
                  rw[bm]at jd
                  refine av (.s sv (28+4) sw) Z (wn ?_)
                  exact⟨_,_,_,_,O,dB,aB,bf,b8,Z,by omega,by omega,(Byt.app jc (uZ 4:Byt [0,0,0,0])),jd.re [1,4,5,3,8,9,10]⟩
                 ·
                  refine wk ?_
                  exact⟨_,_,_,_,O,dB,aB,bf,b8,Z,by omega,by omega,jc,eM.re [0,3,4,2,7,8,9]⟩
                ·
                 rintro t9 tA ⟨Af,nf,cf,fs,s0,gH,kv,je,jf,jg,y8,y9,hfs,o7⟩
                 refine ad ?_
                 have b5:=o7.drew
                 refine aU MX (fun w'=>w'.cell? ⟨g9,0,none⟩=some (.sl b4 0 7 7)∧w'.cell? ⟨g9,1,none⟩=some (.b M.big)∧w'.cell? ⟨g9,2,none⟩=some (.s Al nld cl)∧w'.cell? ⟨g9,3,none⟩=some (.s Ap np cp)∧w'.cell? ⟨g9,4,none⟩=some (.s Ay ny cy)∧w'.cell? ⟨g9,5,none⟩=some (.s M.AI M.nI M.cI)) (tr 0 3 (Pl.take 4 (Pl.run 3 (Pl.run 5 (Pl.run 6 (Pl.take 7 Pl.done)))))) (by kernel_rfl) (⟨b5.c 5 0 Z Z,b5.c 5 1 Z Z,b5.c 5 2 Z Z,b5.c 5 3 Z Z,b5.c 5 4 Z Z,b5.c 5 5 Z Z⟩) (qh Z (fun hS=>dQ (o:=0) kV kv (sY hS.1 hS.2.1 hS.2.2.1 hS.2.2.2.1 hS.2.2.2.2.1 hS.2.2.2.2.2) Z) (qm (.s Af nf cf) Z jg (qm (.s Ae ne ce) Z je (qm (.s Ar nr cr) Z jf (qr Z (bY b5 0 (m:=ne) (news:=nums .u8 esy) Z Z Z (fun _=>App.ri (aV (b5.g 1 Z)) bB fx bB) Z (by decide) (by simp only[maxLen];omega) (by omega) (fun yA yB a7=> ?_)))))))
                 obtain⟨yC,yD,rfl⟩:=df (a7.g 0 rfl)
                 rw[bm]at a7
                 refine⟨⟨a7.c 5 0 Z Z,a7.c 5 1 Z Z,a7.c 5 2 Z Z,a7.c 5 3 Z Z,a7.c 5 4 Z Z,a7.c 5 5 Z Z⟩,fun _=>trivial,qr Z (bY a7 0 (m:=nr) (news:=nums .u8 rs) Z Z Z (fun _=>App.ri (aV (a7.g 2 Z)) bB fx bB) Z (by decide) (by simp only[maxLen];omega) (by omega) (fun yE yF bg=> ?_))⟩
                 obtain⟨sx,sy,rfl⟩:=df (bg.g 0 rfl)
                 rw[bm]at bg
                 refine⟨⟨bg.c 5 0 Z Z,bg.c 5 1 Z Z,bg.c 5 2 Z Z,bg.c 5 3 Z Z,bg.c 5 4 Z Z,bg.c 5 5 Z Z⟩,fun _=>trivial,dJ Z (bE bg 6 (vs:= [.sl b4 0 7 7,.b M.big,.s Al nld cl,.s Ap np cp,.s Ay ny cy,.s M.AI M.nI M.cI]) (m:=6) Z jw gH Z Z (nl Z) (by simp[Value.oneCell']) (cs':= [.sl b4 0 7 7,.b M.big,.s Al nld cl,.s Ap np cp,.s Ay ny cy,.s M.AI M.nI M.cI]) Z (fun yG b6=> ?_))⟩
                 refine⟨⟨b6.c 5 0 Z Z,b6.c 5 1 Z Z,b6.c 5 2 Z Z,b6.c 5 3 Z Z,b6.c 5 4 Z Z,b6.c 5 5 Z Z⟩,fun _=>trivial,qa (.s sx ((nf+ne)+nr) sy) Z Z (pn (aY ?_))⟩
                 exact⟨.inr Z,_,fy Z kV (by exact gH) (b6.g 6 Z) Z (by exact Z),⟨_,_,_,_,_,_,((nf+ne)+nr),_,(↑ne:Int),[L,eF,eG,eH,eI,↑ne,eJ],_,Z,(all4 Z Z Z Z),Z,by show(28:Int)+ ↑ne≤ _;omega,by omega,Z,by omega,(Byt.app (Byt.app hfs hes) hrs),b6.re [0,3]⟩⟩
end Go.Proofs.YtlndedfkgiafhaaDoor
