import Derived.Test.YtlndedfkgiafhaaDoorXAG
set_option linter.unusedVariables false
set_option linter.unusedSimpArgs false
set_option maxRecDepth 100000
set_option maxHeartbeats 4000000
namespace Go.Proofs.YtlndedfkgiafhaaDoor
open Go Go.RowKit Go.Proofs
theorem xC:dA Tryd.prog 177 [.w 0,.w 0,.e 0,.e 0,.e 0,.e 0,.e 0,.e 0,.e 0,.e 0,.e 0,.e 0,.e 0,.e 0,.e 0,.e 0,.e 0,.e 0,.w 0,.w 0,.w 0,.w 0,.w 0,.w 0,.w 0,.w 0]:=bO (by kernel_rfl)
theorem CK59:bg Tryd.prog 59:=aL (by kernel_rfl)
theorem rL:dA Tryd.prog 181 [.ns,.w 0,.w 0,.string (⟨#[]⟩),.q 0,.q 0,.q 0,.q 0,.w 0,.w 0,.w 0,.w 0,.n,.np]:=bO (by kernel_rfl)
theorem ut:FA 181 0 0:=fa (by kernel_rfl)
theorem zM:Tryd.prog.concrete 160=true:=by kernel_rfl
theorem xB:dA Tryd.prog 183 [.e 0,.e 0,.e 0,.e 0,.e 0,.e 0,.e 0,.e 0,.e 0,.e 0,.e 0,.e 0,.e 0,.e 0,.e 0,.e 0,.e 0,.e 0,.e 0,.e 0,.e 0,.e 0,.e 0,.e 0,.e 0,.e 0,.e 0,.e 0,.e 0,.e 0,.e 0,.e 0,.w 0,.w 0,.w 0,.w 0,.w 0,.w 0,.w 0,.w 0,.w 0]:=bO (by kernel_rfl)
theorem CK60:bg Tryd.prog 60:=aL (by kernel_rfl)
theorem rO:dA Tryd.prog 135 [.string (⟨#[]⟩),.string (⟨#[]⟩),.q 0,.q 0,.w 0,.w 0,.w 0,.w 0,.w 0,.ns,.n,.np]:=bO (by kernel_rfl)
theorem CK61:bg Tryd.prog 61:=aL (by kernel_rfl)
theorem mO:FA 181 3 13:=fa (by kernel_rfl)
theorem ur:FA 181 2 12:=fa (by kernel_rfl)
theorem xA:dA Tryd.prog 186 [.w 0,.w 0,.e 0,.e 0,.e 0,.e 0,.e 0,.e 0,.e 0,.e 0,.e 0,.e 0,.e 0,.e 0,.e 0,.e 0,.e 0,.e 0,.q 0,.q 0,.q 0,.q 0,.w 0,.w 0,.w 0,.w 0]:=bO (by kernel_rfl)
theorem CK62:bg Tryd.prog 62:=aL (by kernel_rfl)
theorem x9:dA Tryd.prog 188 [.e 0,.e 0,.e 0,.e 0,.e 0,.e 0,.e 0,.e 0,.e 0,.e 0,.e 0,.e 0,.e 0,.e 0,.e 0,.e 0,.e 0,.e 0,.e 0,.e 0,.e 0,.e 0,.e 0,.e 0,.e 0,.e 0,.e 0,.e 0,.e 0,.e 0,.e 0,.e 0,.q 0,.q 0,.w 0,.w 0,.w 0,.w 0,.w 0,.w 0,.w 0,.w 0]:=bO (by kernel_rfl)
theorem CK63:bg Tryd.prog 63:=aL (by kernel_rfl)
theorem TC43:Tryd.prog.concrete 43=true:=by kernel_rfl
theorem j6(gs:List Nat)(g:Nat):cK (gs++ [g])=cK gs++ [.pt g]:=by simp[cK]
section
variable{wide big:Bool}{xs raw ys:List Int}{s:PSt}{ns k a:Nat}{l:List SecD}{s3:SecD}
theorem iT(h:raw.length<a+d7 wide):cG wide big xs raw (k+1) a=none:=by simp only[cG];rw[if_pos h]
theorem kj(h: ¬raw.length<a+d7 wide)(hs:et big xs (eP wide big ((raw.drop a).take (d7 wide)))=none):cG wide big xs raw (k+1) a=none:=by simp only[cG,hs];rw[if_neg h]
theorem gu(h: ¬raw.length<a+d7 wide)(hs:et big xs (eP wide big ((raw.drop a).take (d7 wide)))=some s3):cG wide big xs raw (k+1) a=(cG wide big xs raw k (a+d7 wide)).map (s3:: ·):=by simp only[cG,hs];rw[if_neg h]
theorem gk(hys:ys=(raw.drop 0).take (dN wide))(hns:((ek wide big ys).getD 8 0).toNat=ns)(e0:cG wide big xs raw ns (dN wide)=none):dk wide big xs raw s=none:=by
 subst hys;subst hns;unfold dk;split
 · rfl
 · simp only[e0]
theorem j5(hys:ys=(raw.drop 0).take (dN wide))(h:9223372036854775808≤(ek wide big ys).getD 4 0∨9223372036854775808≤(ek wide big ys).getD 5 0):dk wide big xs raw s=none:=by
 subst hys;unfold dk;split
 · rfl
 · split
   · rfl
   · first|rfl|rw[if_pos h]
theorem j3(hl: ¬raw.length<dN wide)(hys:ys=(raw.drop 0).take (dN wide))(hns:((ek wide big ys).getD 8 0).toNat=ns)(e0:cG wide big xs raw ns (dN wide)=some l)(h: ¬(9223372036854775808≤(ek wide big ys).getD 4 0∨9223372036854775808≤(ek wide big ys).getD 5 0)):
 dk wide big xs raw s=some {s with loads:=s.loads++ [⟨1,raw,aF ((ys.drop 8).take 16),ek wide big ys⟩],secs:=s.secs++l}:=by
 subst hys;subst hns;unfold dk;rw[if_neg hl];simp only[e0];rw[if_neg h]
end
theorem wV{rb N C fb gd o0 o m sz cr nL cL nS cS:Nat}{A AL AS:Option Addr}{i0 p0 of ii:Int}{xs raw ds:List Int}{a0 a1:Addr}{h:Nat → Int}{vs:List Value}{gs:List Nat}{sy dy:Value}{D:Res}{s:PSt}(big:Bool)(w w1:World)(hrb:(an rb [.s A N C,.i i0,.i p0] 190).φ w)(hG:Glob 224 w a0 a1)(hNC:N≤C)(hN:N<10485760)(hr:RI .u8 w A N xs)(hby:Byt xs)(hA: ∀a,A=some a → a.block<w.heap.size)(hw4:4≤w.heap.size)
 (hDg:D.F gd) (hnL:nL+sz+m≤10485760) (hnS:nS+sz+m≤10485760) (hD:NFD D.φ rb s gd o m ds vs gs sy dy) (hRaw: ∀w,D.φ w → RI .u8 w (some ⟨gd,o0,none⟩) sz raw) (hrby:Byt raw) (hrl:raw.length=sz) (hscr:sz≤cr) (hsz8:8≤sz) (hof0:0≤of) (hof1:of+ ↑m≤10485800)
 (H1:St w aR (wX fb big h AL AS nL cL nS cS vs gs sy dy D) w1) {ρ:dv} (h0:ρ 0= .f 109 (.pt rb)) (h4:ρ 4= .pt fb) (h12:ρ 12= .i of) (h13:ρ 13= .sl gd o m m) (h16:ρ 16= .e (bo big)) (h17:ρ 17= .w ii) (h18:ρ 18= .w 1) (h19:ρ 19= .w ↑sz) (h20:ρ 20= .sl gd o0 sz cr) (h21:ρ 21= .np) (hraw0:n4 big raw=1) (hraw4:n4 big (raw.drop 4)= ↑sz)
 {Q:QE} (hQ: ∀s' ρ' w',dk false big xs raw s=some s' → Fr ρ' rb fb gd o m big ii → Mid w rb fb big h gd o m ds s' w' → Q .normal ρ' w') (hR:dk false big xs raw s=none → ∀ρ' w' T v,ρ' 2= .np → ρ' 3= .f T v → Keep w aR w' → Q .ret ρ' w'):
 W Tryd.prog 931 ((eF 3 (Tryd.f41.body.getD .skip)).getD .skip) Q ρ w1:=by
 refine rG Z ?_
 have H0:St w aR [an fb [.w (h 0),.w (h 1),.w (h 2),.w (h 3),.w (h 4),.w (h 5),.w (h 6),.e (bo big),.s AL nL cL,.s AS nS cS,sy,dy] 121,ay 123 1 (.s AL nL cL) nL vs,ay 125 1 (.s AS nS cS) nS (cK gs),D] w1:=H1
 refine ad (sr (mg h18 Z (wn (a6 (sr (wv Z (aT (c:=false) Z Z Z) (av (.b false) Z (wn (al Z (sr (wv Z (aT (c:=false) Z Z Z) ?_)))))))))))
 refine av (.b false) Z (wn (al Z (sr (wv Z (aT (c:=false) Z Z Z) (av (.b false) Z (wn (al Z (sr (wv Z (aT (c:=false) Z Z Z) (av (.b false) Z (wn ?_)))))))))))
 refine al Z (sr (wv Z (aT (c:=true) Z Z Z) (av (.b true) Z (wn (aB Z (sr (wm Z (aN H0 xC (fun g1 w2 ci H3=>wn (sr (mg h20 Z ?_)))))))))))
 refine wE [.sl gd o0 sz cr] oR Z Z (aa (dB (some ⟨gd,o0,none⟩) sz cr _) ?_)
 rintro e w5 ⟨gq,rfl,hgq,b6⟩
 have H6:=H3.cal0 b6
 refine⟨_,Z,ap gq 0 Z (wn (ad (ad ?_)))⟩
 by_cases hfit:0+56≤sz
 ·
  obtain⟨ys,hys⟩: ∃q,q=(raw.drop (0)).take 56:=⟨_,rfl⟩
  have hbys:Byt ys:=by rw[hys];exact(hrby.drop _).take _
  have hlys:ys.length=56:=by rw[hys,List.length_take,List.length_drop,hrl];omega
  obtain⟨q8,R⟩: ∃q:Nat,(q:Int)=n4 big (ys.drop 48):=⟨(n4 big (ys.drop 48)).toNat,Int.toNat_of_nonneg (ba big (hbys.drop _)).1⟩
  have b7:(q8:Int)<4294967296:=by rw[R];exact(ba big (hbys.drop _)).2
  have hns:((ek false big ys).getD 8 0).toNat=q8:=by show(n4 big (ys.drop 48)).toNat=q8;omega
  have b8:n4 big (ys.drop 0)=1:=by rw[hys,cE (by omega)];exact hraw0
  have b9:n4 big (ys.drop 4)= ↑sz:=by rw[hys,cE (by omega)];exact hraw4
  have:=ba big (hbys.drop 32)
  have:=ba big (hbys.drop 36)
  refine ae (mp gq 0 Z (wv Z (aJ (v:= .pt gq) fu Z) (mg h16 Z (wE [.pt g1,.f 109 (.pt gq),.e (bo big)] CK59 Z Z ?_))))
  have cj:=H6.blk_ne (i:=0) (j:=1) rfl rfl (by decide)
  have J:=H6.ge (i:=0) rfl
  have K:=H6.ge (i:=1) rfl
  have hws:=H6.keep.size
  refine aa (lH (ys:=ys) (i:=0) (A:=some ⟨gd,o0,none⟩) (xs:=raw) big _ (H6.g 1 Z) (H6.g 0 Z) (hG.keep H6.keep fun k hk=>hk.elim) hscr (by omega) (hRaw _ (H6.g 5 Z)) hrby (fun a ha=>by injection ha with ha;subst ha;exact⟨D.live _ _ (H6.g 5 Z) hDg,H6.sepD (i:=0) (j:=5) Z Z (by decide) hDg,H6.sepD (i:=1) (j:=5) Z Z (by decide) hDg⟩) (by omega) (by omega) (by omega) (by omega) (by omega) hys) ?_
  rintro e w9 ⟨rfl,a2⟩
  rw[←R]at a2
  have bB:=H6.ky 1 0 rfl rfl a2 (fun _ h=>h)
  refine⟨_,Z,av (.n) Z (wn (sr (mv (.n) Z (wv Z ((nn false bI Z (.inl Z))) (wn (al Z (wk (sr (wm Z (aN bB rL (fun d cn bC bD=> ?_)))))))))))⟩
  refine ap d 0 Z (wn (sr (mp d 0 Z (mg h20 Z (wc Z (wf ut Z (ws (es bD 0 0 (.sl gd o0 sz cr) Z hX (fun co bE=> ?_)))))))))
  refine wn (sr (mp d 0 Z (mg h18 Z (wc Z (wf bw Z (wv Z (ab qG Z) (ws (es bE 0 1 (.w 1) Z iG (fun cp bF=> ?_)))))))))
  refine wn (sr (mp d 0 Z (mg h19 Z (wc Z (wf bw Z (wv Z (ab qF Z) (ws (es bF 0 2 (.w (↑sz)) Z ax (fun cs a3=> ?_)))))))))
  refine wn (sr (mp d 0 Z (wf u5 Z (wv Z ((bP (o:=2) (l:=0) (h:=16) jQ Z (bh (i:=0) Z (by omega) Z) (bu _ _) (by omega) (by omega):Yv _ _ _ _ (.sl g1 2 16 16) _)) (wE [.sl g1 2 16 16] pw Z Z (aa (eV _ (fR (ys:=ys) (k:=8) (m:=16) (a3.g 1 Z) Z (by omega)) ((hbys.drop _).take _) (by omega) (by omega)) ?_))))))
  rintro e ct ⟨rfl,a4⟩
  have bH:=a3.cal0 a4
  refine⟨_,Z,wc Z (wf bw Z (wv Z (ab qE Z) (ws (es bH 0 3 (.str (aF ((ys.drop 8).take 16))) Z dP (fun cu a8=> ?_)))))⟩
  refine wn (sr (mp d 0 Z (wf u0 Z (wv Z (a8.ld 1 Z ax Z (.w (n4 big (ys.drop 24))) Z) (wv Z (ao bv be Z (aC (ba big (hbys.drop _)).1 (by have:=(ba big (hbys.drop 24)).2;omega))) (wc Z (wf bw Z (wv Z (ab qD Z) (ws (es a8 0 4 (.q (n4 big (ys.drop 24))) Z aP (fun cv a9=> ?_)))))))))))
  refine wn (sr (mp d 0 Z (wf uz Z (wv Z (a9.ld 1 Z ax Z (.w (n4 big (ys.drop 28))) Z) (wv Z (ao bv be Z (aC (ba big (hbys.drop _)).1 (by have:=(ba big (hbys.drop 28)).2;omega))) (wc Z (wf bw Z (wv Z (ab qC Z) (ws (es a9 0 5 (.q (n4 big (ys.drop 28))) Z aP (fun cw aA=> ?_)))))))))))
  refine wn (sr (mp d 0 Z (wf uy Z (wv Z (aA.ld 1 Z ax Z (.w (n4 big (ys.drop 32))) Z) (wv Z (ao bv be Z (aC (ba big (hbys.drop _)).1 (by have:=(ba big (hbys.drop 32)).2;omega))) (wc Z (wf bw Z (wv Z (ab it Z) (ws (es aA 0 6 (.q (n4 big (ys.drop 32))) Z aP (fun cx aD=> ?_)))))))))))
  refine wn (sr (mp d 0 Z (wf ux Z (wv Z (aD.ld 1 Z ax Z (.w (n4 big (ys.drop 36))) Z) (wv Z (ao bv be Z (aC (ba big (hbys.drop _)).1 (by have:=(ba big (hbys.drop 36)).2;omega))) (wc Z (wf bw Z (wv Z (ab ir Z) (ws (es aD 0 7 (.q (n4 big (ys.drop 36))) Z aP (fun cy aE=> ?_)))))))))))
  refine wn (sr (mp d 0 Z (wf uw Z (wv Z (aE.ld 1 Z ax Z (.w (n4 big (ys.drop 40))) Z) (wc Z (wf bw Z (wv Z (ab qB Z) (ws (es aE 0 8 (.w (n4 big (ys.drop 40))) Z ax (fun cz aK=> ?_))))))))))
  refine wn (sr (mp d 0 Z (wf uv Z (wv Z (aK.ld 1 Z ax Z (.w (n4 big (ys.drop 44))) Z) (wc Z (wf bw Z (wv Z (ab qA Z) (ws (es aK 0 9 (.w (n4 big (ys.drop 44))) Z ax (fun c0 aL=> ?_))))))))))
  refine wn (sr (mp d 0 Z (wf uu Z (wv Z (aL.ld 1 Z ax Z (.w (↑q8)) Z) (wc Z (wf bw Z (wv Z (ab lA Z) (ws (es aL 0 10 (.w (↑q8)) Z ax (fun c1 aM=> ?_))))))))))
  refine wn (sr (mp d 0 Z (wf rR Z (wv Z (aM.ld 1 Z ax Z (.w (n4 big (ys.drop 52))) Z) (wc Z (wf bw Z (wv Z (ab oG Z) (ws (es aM 0 11 (.w (n4 big (ys.drop 52))) Z ax (fun c2 aO=> ?_))))))))))
  refine wn (sr (mg h4 Z (mg h4 Z (wc Z (wf dR Z (wv Z (aO.ld 3 Z eX Z (.s AL nL cL) Z) (mp d 0 Z (wv Z (aJ (v:= .pt d) zM Z) (wm Z (eb aO 123 [.f 160 (.pt d)] Z (by kernel_rfl) (fun c3 c4 bJ aV=>wm Z ?_)))))))))))
  refine bG aV 5 (m:=1) (news:= [.f 160 (.pt d)]) Z l4 lF Z (by decide) Z Z Z (aV.news (i:=0) Z) (by simp[Value.oneCell']) (by simp only[maxLen];omega) (by omega) (fun c5 c6 aW=> ?_)
  obtain⟨r,t,rfl,_,_⟩:=aw (aW.g 5 rfl)
  refine wc Z (wf dR Z (ws (es aW 4 8 (.s r (nL+1) t) Z eX (fun bL bM=> ?_))))
  refine wn (sr (ai 0 Z (wn (a6 ?_))))
  have bN:St w aR [an gq [.sl gd o0 sz cr,.i (↑(56+68*(0:Nat))),.i (-1)] 190,an d [.sl gd o0 sz cr,.w 1,.w (↑sz),.str (aF ((ys.drop 8).take 16)),.q (n4 big (ys.drop 24)),.q (n4 big (ys.drop 28)),.q (n4 big (ys.drop 32)),.q (n4 big (ys.drop 36)),.w (n4 big (ys.drop 40)),.w (n4 big (ys.drop 44)),.w (↑q8),.w (n4 big (ys.drop 52)),.n,.np] 181,an fb [.w (h 0),.w (h 1),.w (h 2),.w (h 3),.w (h 4),.w (h 5),.w (h 6),.e (bo big),.s r (nL+1) t,.s AS (nS+(0:Nat)) cS,sy,dy] 121,ay 123 1 (.s r (nL+1) t) (nL+1) (vs++ [.f 160 (.pt d)]),ay 125 1 (.s AS (nS+(0:Nat)) cS) (nS+(0:Nat)) (cK gs),D] bL:=bM.re [3,1,4,5,6,7]
  refine bA (fun ρ w'=> ∃j:Nat,∃ASj:Option Addr,∃cSj:Nat,∃gsj:List Nat,∃dn:List SecD,∃Dj:Res,ρ 0= .f 109 (.pt rb)∧ρ 4= .pt fb∧ρ 12= .i of∧ρ 13= .sl gd o m m∧ρ 16= .e (bo big)∧ρ 17= .w ii∧ρ 21= .pt d∧ρ 47= .pt gq∧ρ 49= .i ↑j∧j≤q8∧56+68*j≤sz∧Dj.F gd∧(∀w,Dj.φ w → D.φ w)∧(∀w,Dj.φ w → ScS w rb gsj (s.secs++dn))∧cG false big xs raw q8 56=(cG false big xs raw (q8- j) (56+68*j)).map (dn++ ·)∧St w aR [an gq [.sl gd o0 sz cr,.i (↑(56+68*j)),.i (-1)] 190,an d [.sl gd o0 sz cr,.w 1,.w (↑sz),.str (aF ((ys.drop 8).take 16)),.q (n4 big (ys.drop 24)),.q (n4 big (ys.drop 28)),.q (n4 big (ys.drop 32)),.q (n4 big (ys.drop 36)),.w (n4 big (ys.drop 40)),.w (n4 big (ys.drop 44)),.w (↑q8),.w (n4 big (ys.drop 52)),.n,.np] 181,an fb [.w (h 0),.w (h 1),.w (h 2),.w (h 3),.w (h 4),.w (h 5),.w (h 6),.e (bo big),.s r (nL+1) t,.s ASj (nS+j) cSj,sy,dy] 121,ay 123 1 (.s r (nL+1) t) (nL+1) (vs++ [.f 160 (.pt d)]),ay 125 1 (.s ASj (nS+j) cSj) (nS+j) (cK gsj),Dj] w') (fun ρ _=>q8+1- nv (ρ 49)) (⟨0,AS,cS,gs,[],D,h0,h4,h12,h13,h16,h17,Z,Z,Z,by omega,by omega,hDg,fun _ h=>h,fun w h=>by rw[List.append_nil];exact hD.sc w h,by simp,bN⟩) ?_
  rintro ρ w3 ⟨j,ASj,cSj,gsj,dn,Dj,j0,j4,S,U,L,V,z,jq,jc,hj,hjz,hjg,hjD,hjS,hsec,H3⟩
  refine ad (sr (mg jc Z (mg z Z (wc Z (wf bw Z (wv Z (ab lA Z) (wv Z (H3.ld 1 Z ax Z (.w (↑q8)) Z) (wv Z (ao bv kK Z (a5 (by omega) (by omega))) (wv Z (bR Z Z) (wn ?_))))))))))
  refine bK Z (fun M=> ?_) (fun M=> ?_)
  ·
   simp only[bx]at M
   refine wk (ad (a6 (sr (wm Z (aN H3 xB (fun I c7 bO x=>wn (ad (ad ?_))))))))
   have hjn:j<q8:=by omega
   by_cases hfit:56+68*j+68≤sz
   ·
    obtain⟨zs,hzs⟩: ∃q,q=(raw.drop (56+68*j)).take 68:=⟨_,rfl⟩
    have hbzs:Byt zs:=by rw[hzs];exact(hrby.drop _).take _
    have hlzs:zs.length=68:=by rw[hzs,List.length_take,List.length_drop,hrl];omega
    obtain⟨z1,X⟩: ∃q:Nat,(q:Int)=n4 big (zs.drop 36):=⟨(n4 big (zs.drop 36)).toNat,Int.toNat_of_nonneg (ba big (hbzs.drop _)).1⟩
    have bQ:(z1:Int)<4294967296:=by rw[X];exact(ba big (hbzs.drop _)).2
    obtain⟨z2,Y⟩: ∃q:Nat,(q:Int)=n4 big (zs.drop 40):=⟨(n4 big (zs.drop 40)).toNat,Int.toNat_of_nonneg (ba big (hbzs.drop _)).1⟩
    have bS:(z2:Int)<4294967296:=by rw[Y];exact(ba big (hbzs.drop _)).2
    obtain⟨z3,af⟩: ∃q:Nat,(q:Int)=n4 big (zs.drop 48):=⟨(n4 big (zs.drop 48)).toNat,Int.toNat_of_nonneg (ba big (hbzs.drop _)).1⟩
    have bU:(z3:Int)<4294967296:=by rw[af];exact(ba big (hbzs.drop _)).2
    obtain⟨z4,aj⟩: ∃q:Nat,(q:Int)=n4 big (zs.drop 52):=⟨(n4 big (zs.drop 52)).toNat,Int.toNat_of_nonneg (ba big (hbzs.drop _)).1⟩
    have bW:(z4:Int)<4294967296:=by rw[aj];exact(ba big (hbzs.drop _)).2
    refine ae (mg jq Z (wv Z (aJ (v:= .pt gq) fu Z) (mg L Z (wE [.pt I,.f 109 (.pt gq),.e (bo big)] CK60 Z Z ?_))))
    have bX:=x.blk_ne (i:=0) (j:=1) rfl rfl (by decide)
    have J:=x.ge (i:=1) rfl
    have K:=x.ge (i:=0) rfl
    have hws:=x.keep.size
    refine aa (lJ (ys:=zs) (i:=56+68*j) (A:=some ⟨gd,o0,none⟩) (xs:=raw) big _ (x.g 0 Z) (x.g 1 Z) (hG.keep x.keep fun k hk=>hk.elim) hscr (by omega) ((fun w h=>hRaw w (hjD w h)) _ (x.g 6 Z)) hrby (fun a ha=>by injection ha with ha;subst ha;exact⟨Dj.live _ _ (x.g 6 Z) hjg,x.sepD (i:=1) (j:=6) Z Z (by decide) hjg,x.sepD (i:=0) (j:=6) Z Z (by decide) hjg⟩) (by omega) (by omega) (by omega) (by omega) (by omega) hzs) ?_
    rintro e c8 ⟨rfl,E⟩
    rw[←X]at E
    rw[←Y]at E
    rw[←af]at E
    rw[←aj]at E
    have bY:=x.ky 0 0 rfl rfl E (fun _ h=>h)
    refine⟨_,Z,av (.n) Z (wn (sr (mv (.n) Z (wv Z ((nn false bI Z (.inl Z))) (wn (al Z (wk (sr (wm Z (aN bY rO (fun u c9 bZ aX=> ?_)))))))))))⟩
    refine ap u 0 Z (wn (sr (mp u 0 Z (wf uq Z (wv Z ((bP (o:=0) (l:=0) (h:=16) jQ Z (bh (i:=0) Z (by omega) Z) (bu _ _) (by omega) (by omega):Yv _ _ _ _ (.sl I 0 16 16) _)) (wE [.sl I 0 16 16] pw Z Z (aa (eV _ (fR (ys:=zs) (k:=0) (m:=16) (aX.g 1 Z) Z (by omega)) ((hbzs.drop _).take _) (by omega) (by omega)) ?_)))))))
    rintro e cA ⟨rfl,aZ⟩
    have ca:=aX.cal0 aZ
    refine⟨_,Z,wc Z (wf br Z (wf mW Z (ws (es ca 0 0 (.str (aF ((zs.drop 0).take 16))) Z dP (fun cB bb=> ?_)))))⟩
    refine wn (sr (mp u 0 Z (wf up Z (wv Z ((bP (o:=16) (l:=0) (h:=16) jQ Z (bh (i:=0) Z (by omega) Z) (bu _ _) (by omega) (by omega):Yv _ _ _ _ (.sl I 16 16 16) _)) (wE [.sl I 16 16 16] pw Z Z (aa (eV _ (fR (ys:=zs) (k:=16) (m:=16) (bb.g 1 Z) Z (by omega)) ((hbzs.drop _).take _) (by omega) (by omega)) ?_))))))
    rintro e cC ⟨rfl,bc⟩
    have cb:=bb.cal0 bc
    refine⟨_,Z,wc Z (wf br Z (wf mV Z (ws (es cb 0 1 (.str (aF ((zs.drop 16).take 16))) Z dP (fun cD bd=> ?_)))))⟩
    refine wn (sr (mp u 0 Z (wf uo Z (wv Z (bd.ld 1 Z ax Z (.w (n4 big (zs.drop 32))) Z) (wv Z (ao bv be Z (aC (ba big (hbzs.drop _)).1 (by have:=(ba big (hbzs.drop 32)).2;omega))) (wc Z (wf br Z (wf mU Z (ws (es bd 0 2 (.q (n4 big (zs.drop 32))) Z aP (fun cF bf=> ?_)))))))))))
    refine wn (sr (mp u 0 Z (wf un Z (wv Z (bf.ld 1 Z ax Z (.w (↑z1)) Z) (wv Z (ao bv be Z (aC (by omega) (by omega))) (wc Z (wf br Z (wf iu Z (ws (es bf 0 3 (.q (↑z1)) Z aP (fun cH bg=> ?_)))))))))))
    refine wn (sr (mp u 0 Z (wf um Z (wv Z (bg.ld 1 Z ax Z (.w (↑z2)) Z) (wc Z (wf br Z (wf jH Z (ws (es bg 0 4 (.w (↑z2)) Z ax (fun cI bi=> ?_))))))))))
    refine wn (sr (mp u 0 Z (wf ul Z (wv Z (bi.ld 1 Z ax Z (.w (n4 big (zs.drop 44))) Z) (wc Z (wf br Z (wf mT Z (ws (es bi 0 5 (.w (n4 big (zs.drop 44))) Z ax (fun cJ bl=> ?_))))))))))
    refine wn (sr (mp u 0 Z (wf uk Z (wv Z (bl.ld 1 Z ax Z (.w (↑z3)) Z) (wc Z (wf br Z (wf kC Z (ws (es bl 0 6 (.w (↑z3)) Z ax (fun cM bm=> ?_))))))))))
    refine wn (sr (mp u 0 Z (wf uj Z (wv Z (bm.ld 1 Z ax Z (.w (↑z4)) Z) (wc Z (wf br Z (wf gK Z (ws (es bm 0 7 (.w (↑z4)) Z ax (fun cN bn=> ?_))))))))))
    refine wn (sr (mp u 0 Z (wf ui Z (wv Z (bn.ld 1 Z ax Z (.w (n4 big (zs.drop 56))) Z) (wc Z (wf br Z (wf mS Z (ws (es bn 0 8 (.w (n4 big (zs.drop 56))) Z ax (fun cc B=> ?_))))))))))
    refine wn (sr (mg j4 Z (mp u 0 Z (mg j0 Z (wE [.pt fb,.pt u,.f 109 (.pt rb)] CK61 Z Z ?_)))))
    have Hp:St w aR ([an fb [.w (h 0),.w (h 1),.w (h 2),.w (h 3),.w (h 4),.w (h 5),.w (h 6),.e (bo big),.s r (nL+1) t,.s ASj (nS+j) cSj,sy,dy] 121,ay 125 1 (.s ASj (nS+j) cSj) (nS+j) (cK gsj),an u [.str (aF ((zs.drop 0).take 16)),.str (aF ((zs.drop 16).take 16)),.q (n4 big (zs.drop 32)),.q (↑z1),.w (↑z2),.w (n4 big (zs.drop 44)),.w (↑z3),.w (↑z4),.w (n4 big (zs.drop 56)),.ns,.n,.np] 135]++ [an gq [.sl gd o0 sz cr,.i (↑(56+68*j:Nat)+68),.i (-1)] 190,an d [.sl gd o0 sz cr,.w 1,.w (↑sz),.str (aF ((ys.drop 8).take 16)),.q (n4 big (ys.drop 24)),.q (n4 big (ys.drop 28)),.q (n4 big (ys.drop 32)),.q (n4 big (ys.drop 36)),.w (n4 big (ys.drop 40)),.w (n4 big (ys.drop 44)),.w (↑q8),.w (n4 big (ys.drop 52)),.n,.np] 181,ay 123 1 (.s r (nL+1) t) (nL+1) (vs++ [.f 160 (.pt d)]),Dj]) cc:=B.re [4,6,0,2,3,5,7]
    have P:eP false big zs=(⟨aF ((zs.drop 0).take 16),aF ((zs.drop 16).take 16),n4 big (zs.drop 32),z1,z2,n4 big (zs.drop 44),↑z3,↑z4,n4 big (zs.drop 56),[]⟩:SecD):=by simp only[eP,←X,←Y,←af,←aj,Int.toNat_natCast,if_true,if_false,Bool.false_eq_true]
    have hft:SecD.fits (⟨aF ((zs.drop 0).take 16),aF ((zs.drop 16).take 16),n4 big (zs.drop 32),z1,z2,n4 big (zs.drop 44),↑z3,↑z4,n4 big (zs.drop 56),[]⟩:SecD):=by rw[←P];exact pC hbzs
    by_cases hc1:z4=0
    ·
     have hsr:et big xs (⟨aF ((zs.drop 0).take 16),aF ((zs.drop 16).take 16),n4 big (zs.drop 32),z1,z2,n4 big (zs.drop 44),↑z3,↑z4,n4 big (zs.drop 56),[]⟩:SecD)=some {(⟨aF ((zs.drop 0).take 16),aF ((zs.drop 16).take 16),n4 big (zs.drop 32),z1,z2,n4 big (zs.drop 44),↑z3,↑z4,n4 big (zs.drop 56),[]⟩:SecD)with rels:= []}:=by unfold et;rw[if_pos (show(↑z4:Int).toNat=0 by omega)]
     refine aa (pD (base:=w.heap.size) (s:=(⟨aF ((zs.drop 0).take 16),aF ((zs.drop 16).take 16),n4 big (zs.drop 32),z1,z2,n4 big (zs.drop 44),↑z3,↑z4,n4 big (zs.drop 56),[]⟩:SecD)) (ro:=z3) (nr:=z4) big _ (Hp.loc (L1:= [an fb [.w (h 0),.w (h 1),.w (h 2),.w (h 3),.w (h 4),.w (h 5),.w (h 6),.e (bo big),.s r (nL+1) t,.s ASj (nS+j) cSj,sy,dy] 121,ay 125 1 (.s ASj (nS+j) cSj) (nS+j) (cK gsj),an u [.str (aF ((zs.drop 0).take 16)),.str (aF ((zs.drop 16).take 16)),.q (n4 big (zs.drop 32)),.q (↑z1),.w (↑z2),.w (n4 big (zs.drop 44)),.w (↑z3),.w (↑z4),.w (n4 big (zs.drop 56)),.ns,.n,.np] 135]) (L2:= [an gq [.sl gd o0 sz cr,.i (↑(56+68*j:Nat)+68),.i (-1)] 190,an d [.sl gd o0 sz cr,.w 1,.w (↑sz),.str (aF ((ys.drop 8).take 16)),.q (n4 big (ys.drop 24)),.q (n4 big (ys.drop 28)),.q (n4 big (ys.drop 32)),.q (n4 big (ys.drop 36)),.w (n4 big (ys.drop 40)),.w (n4 big (ys.drop 44)),.w (↑q8),.w (n4 big (ys.drop 52)),.n,.np] 181,ay 123 1 (.s r (nL+1) t) (nL+1) (vs++ [.f 160 (.pt d)]),Dj])) (Hp.re (L':= [an fb [.w (h 0),.w (h 1),.w (h 2),.w (h 3),.w (h 4),.w (h 5),.w (h 6),.e (bo big),.s r (nL+1) t,.s ASj (nS+j) cSj,sy,dy] 121,ay 125 1 (.s ASj (nS+j) cSj) (nS+j) (cK gsj),an u [.str (aF ((zs.drop 0).take 16)),.str (aF ((zs.drop 16).take 16)),.q (n4 big (zs.drop 32)),.q (↑z1),.w (↑z2),.w (n4 big (zs.drop 44)),.w (↑z3),.w (↑z4),.w (n4 big (zs.drop 56)),.ns,.n,.np] 135]) [0,1,2]).fresh (aG hrb) hw4 Hp.keep.size hA (bV hrb B.keep) (hG.keep B.keep fun k hk=>hk.elim) hNC hN (hr.keep0 B.keep) hby hft Z Z (by omega) hc1) ?_
     rintro e cd ⟨Aq,cq,D2,rfl,bp,am⟩
     have bs:=d6 (L1:= [an fb [.w (h 0),.w (h 1),.w (h 2),.w (h 3),.w (h 4),.w (h 5),.w (h 6),.e (bo big),.s r (nL+1) t,.s ASj (nS+j) cSj,sy,dy] 121,ay 125 1 (.s ASj (nS+j) cSj) (nS+j) (cK gsj),an u [.str (aF ((zs.drop 0).take 16)),.str (aF ((zs.drop 16).take 16)),.q (n4 big (zs.drop 32)),.q (↑z1),.w (↑z2),.w (n4 big (zs.drop 44)),.w (↑z3),.w (↑z4),.w (n4 big (zs.drop 56)),.ns,.n,.np] 135]) (L2:= [an gq [.sl gd o0 sz cr,.i (↑(56+68*j:Nat)+68),.i (-1)] 190,an d [.sl gd o0 sz cr,.w 1,.w (↑sz),.str (aF ((ys.drop 8).take 16)),.q (n4 big (ys.drop 24)),.q (n4 big (ys.drop 28)),.q (n4 big (ys.drop 32)),.q (n4 big (ys.drop 36)),.w (n4 big (ys.drop 40)),.w (n4 big (ys.drop 44)),.w (↑q8),.w (n4 big (ys.drop 52)),.n,.np] 181,ay 123 1 (.s r (nL+1) t) (nL+1) (vs++ [.f 160 (.pt d)]),Dj]) Hp bp
     refine⟨_,Z,av (.n) Z (wn (sr (mv (.n) Z (wv Z ((nn false bI Z (.inl Z))) (wn (al Z (dw (ak (ac (ae ?_))))))))))⟩
     refine mg jc Z (wv Z (aH (k:= .i64) (c:= ↑j+1) Z Z (a5 (by omega) (by omega))) (ai (↑j+1) Z (wn ?_)))
     have e8:(↑(56+68*j:Nat):Int)+68= ↑(56+68*(j+1)):=by omega
     rw[e8,←j6]at bs
     have Hn:St w aR [an gq [.sl gd o0 sz cr,.i (↑(56+68*(j+1))),.i (-1)] 190,an d [.sl gd o0 sz cr,.w 1,.w (↑sz),.str (aF ((ys.drop 8).take 16)),.q (n4 big (ys.drop 24)),.q (n4 big (ys.drop 28)),.q (n4 big (ys.drop 32)),.q (n4 big (ys.drop 36)),.w (n4 big (ys.drop 40)),.w (n4 big (ys.drop 44)),.w (↑q8),.w (n4 big (ys.drop 52)),.n,.np] 181,an fb [.w (h 0),.w (h 1),.w (h 2),.w (h 3),.w (h 4),.w (h 5),.w (h 6),.e (bo big),.s r (nL+1) t,.s Aq (nS+(j+1)) cq,sy,dy] 121,ay 123 1 (.s r (nL+1) t) (nL+1) (vs++ [.f 160 (.pt d)]),ay 125 1 (.s Aq (nS+(j+1)) cq) (nS+(j+1)) (cK (gsj++ [u])),Res.all [D2,Dj]] cd:=(bs.reAll [0,6] [3,4,1,5,2]).re [1,2,3,4,5,0]
     have G:cG false big xs raw q8 56=(cG false big xs raw (q8-(j+1)) (56+68*(j+1))).map ((dn++ [{(⟨aF ((zs.drop 0).take 16),aF ((zs.drop 16).take 16),n4 big (zs.drop 32),z1,z2,n4 big (zs.drop 44),↑z3,↑z4,n4 big (zs.drop 56),[]⟩:SecD)with rels:= []}])++ ·):=by
      rw[hsec,show q8- j=(q8-(j+1))+1 by omega,gu (show ¬raw.length<56+68*j+68 by omega) (show et big xs (eP false big ((raw.drop (56+68*j)).take 68))= _ from by rw[←hzs,P];exact hsr),show 56+68*j+d7 false=56+68*(j+1)from by show 56+68*j+68= _;omega];cases cG false big xs raw (q8-(j+1)) (56+68*(j+1))<;>simp
     exact⟨⟨j+1,_,_,gsj++ [u],dn++ [{(⟨aF ((zs.drop 0).take 16),aF ((zs.drop 16).take 16),n4 big (zs.drop 32),z1,z2,n4 big (zs.drop 44),↑z3,↑z4,n4 big (zs.drop 56),[]⟩:SecD)with rels:= []}],Res.all [D2,Dj],j0,j4,S,U,L,V,z,jq,Z,by omega,by omega,.inr (.inl hjg),fun w h=>hjD w (aS.1 h Dj (by simp)),fun w h=>by have h:=aS.1 h;rw[←List.append_assoc];exact(hjS w (h Dj (by simp))).snoc (am w (h D2 (by simp))),G,Hn⟩,by show q8+1- nv (.i (↑j+1))<q8+1- nv (ρ 49);rw[jc];simp only[nv];omega⟩
    ·
     by_cases hc2:z3+z4*8≤N
     ·
      have hsr:et big xs (⟨aF ((zs.drop 0).take 16),aF ((zs.drop 16).take 16),n4 big (zs.drop 32),z1,z2,n4 big (zs.drop 44),↑z3,↑z4,n4 big (zs.drop 56),[]⟩:SecD)=some {(⟨aF ((zs.drop 0).take 16),aF ((zs.drop 16).take 16),n4 big (zs.drop 32),z1,z2,n4 big (zs.drop 44),↑z3,↑z4,n4 big (zs.drop 56),[]⟩:SecD)with rels:=bT big z4 ((xs.drop z3).take (z4*8))}:=by unfold et;rw[if_neg (show ¬(↑z4:Int).toNat=0 by omega),if_pos (show(↑z3:Int).toNat+(↑z4:Int).toNat*8≤xs.length by rw[hr.1];omega)];simp only[Int.toNat_natCast]
      refine aa (t6 (base:=w.heap.size) (s:=(⟨aF ((zs.drop 0).take 16),aF ((zs.drop 16).take 16),n4 big (zs.drop 32),z1,z2,n4 big (zs.drop 44),↑z3,↑z4,n4 big (zs.drop 56),[]⟩:SecD)) (ro:=z3) (nr:=z4) big _ (Hp.loc (L1:= [an fb [.w (h 0),.w (h 1),.w (h 2),.w (h 3),.w (h 4),.w (h 5),.w (h 6),.e (bo big),.s r (nL+1) t,.s ASj (nS+j) cSj,sy,dy] 121,ay 125 1 (.s ASj (nS+j) cSj) (nS+j) (cK gsj),an u [.str (aF ((zs.drop 0).take 16)),.str (aF ((zs.drop 16).take 16)),.q (n4 big (zs.drop 32)),.q (↑z1),.w (↑z2),.w (n4 big (zs.drop 44)),.w (↑z3),.w (↑z4),.w (n4 big (zs.drop 56)),.ns,.n,.np] 135]) (L2:= [an gq [.sl gd o0 sz cr,.i (↑(56+68*j:Nat)+68),.i (-1)] 190,an d [.sl gd o0 sz cr,.w 1,.w (↑sz),.str (aF ((ys.drop 8).take 16)),.q (n4 big (ys.drop 24)),.q (n4 big (ys.drop 28)),.q (n4 big (ys.drop 32)),.q (n4 big (ys.drop 36)),.w (n4 big (ys.drop 40)),.w (n4 big (ys.drop 44)),.w (↑q8),.w (n4 big (ys.drop 52)),.n,.np] 181,ay 123 1 (.s r (nL+1) t) (nL+1) (vs++ [.f 160 (.pt d)]),Dj])) (Hp.re (L':= [an fb [.w (h 0),.w (h 1),.w (h 2),.w (h 3),.w (h 4),.w (h 5),.w (h 6),.e (bo big),.s r (nL+1) t,.s ASj (nS+j) cSj,sy,dy] 121,ay 125 1 (.s ASj (nS+j) cSj) (nS+j) (cK gsj),an u [.str (aF ((zs.drop 0).take 16)),.str (aF ((zs.drop 16).take 16)),.q (n4 big (zs.drop 32)),.q (↑z1),.w (↑z2),.w (n4 big (zs.drop 44)),.w (↑z3),.w (↑z4),.w (n4 big (zs.drop 56)),.ns,.n,.np] 135]) [0,1,2]).fresh (aG hrb) hw4 Hp.keep.size hA (bV hrb B.keep) (hG.keep B.keep fun k hk=>hk.elim) hNC hN (hr.keep0 B.keep) hby hft Z Z (by omega) (by omega) hc2) ?_
      rintro e ce ⟨Aq,cq,D2,rfl,bt,am⟩
      have bz:=d6 (L1:= [an fb [.w (h 0),.w (h 1),.w (h 2),.w (h 3),.w (h 4),.w (h 5),.w (h 6),.e (bo big),.s r (nL+1) t,.s ASj (nS+j) cSj,sy,dy] 121,ay 125 1 (.s ASj (nS+j) cSj) (nS+j) (cK gsj),an u [.str (aF ((zs.drop 0).take 16)),.str (aF ((zs.drop 16).take 16)),.q (n4 big (zs.drop 32)),.q (↑z1),.w (↑z2),.w (n4 big (zs.drop 44)),.w (↑z3),.w (↑z4),.w (n4 big (zs.drop 56)),.ns,.n,.np] 135]) (L2:= [an gq [.sl gd o0 sz cr,.i (↑(56+68*j:Nat)+68),.i (-1)] 190,an d [.sl gd o0 sz cr,.w 1,.w (↑sz),.str (aF ((ys.drop 8).take 16)),.q (n4 big (ys.drop 24)),.q (n4 big (ys.drop 28)),.q (n4 big (ys.drop 32)),.q (n4 big (ys.drop 36)),.w (n4 big (ys.drop 40)),.w (n4 big (ys.drop 44)),.w (↑q8),.w (n4 big (ys.drop 52)),.n,.np] 181,ay 123 1 (.s r (nL+1) t) (nL+1) (vs++ [.f 160 (.pt d)]),Dj]) Hp bt
      refine⟨_,Z,av (.n) Z (wn (sr (mv (.n) Z (wv Z ((nn false bI Z (.inl Z))) (wn (al Z (dw (ak (ac (ae ?_))))))))))⟩
      refine mg jc Z (wv Z (aH (k:= .i64) (c:= ↑j+1) Z Z (a5 (by omega) (by omega))) (ai (↑j+1) Z (wn ?_)))
      have e8:(↑(56+68*j:Nat):Int)+68= ↑(56+68*(j+1)):=by omega
      rw[e8,←j6]at bz
      have Hn:St w aR [an gq [.sl gd o0 sz cr,.i (↑(56+68*(j+1))),.i (-1)] 190,an d [.sl gd o0 sz cr,.w 1,.w (↑sz),.str (aF ((ys.drop 8).take 16)),.q (n4 big (ys.drop 24)),.q (n4 big (ys.drop 28)),.q (n4 big (ys.drop 32)),.q (n4 big (ys.drop 36)),.w (n4 big (ys.drop 40)),.w (n4 big (ys.drop 44)),.w (↑q8),.w (n4 big (ys.drop 52)),.n,.np] 181,an fb [.w (h 0),.w (h 1),.w (h 2),.w (h 3),.w (h 4),.w (h 5),.w (h 6),.e (bo big),.s r (nL+1) t,.s Aq (nS+(j+1)) cq,sy,dy] 121,ay 123 1 (.s r (nL+1) t) (nL+1) (vs++ [.f 160 (.pt d)]),ay 125 1 (.s Aq (nS+(j+1)) cq) (nS+(j+1)) (cK (gsj++ [u])),Res.all [D2,Dj]] ce:=(bz.reAll [0,6] [3,4,1,5,2]).re [1,2,3,4,5,0]
      have G:cG false big xs raw q8 56=(cG false big xs raw (q8-(j+1)) (56+68*(j+1))).map ((dn++ [{(⟨aF ((zs.drop 0).take 16),aF ((zs.drop 16).take 16),n4 big (zs.drop 32),z1,z2,n4 big (zs.drop 44),↑z3,↑z4,n4 big (zs.drop 56),[]⟩:SecD)with rels:=bT big z4 ((xs.drop z3).take (z4*8))}])++ ·):=by
       rw[hsec,show q8- j=(q8-(j+1))+1 by omega,gu (show ¬raw.length<56+68*j+68 by omega) (show et big xs (eP false big ((raw.drop (56+68*j)).take 68))= _ from by rw[←hzs,P];exact hsr),show 56+68*j+d7 false=56+68*(j+1)from by show 56+68*j+68= _;omega];cases cG false big xs raw (q8-(j+1)) (56+68*(j+1))<;>simp
      exact⟨⟨j+1,_,_,gsj++ [u],dn++ [{(⟨aF ((zs.drop 0).take 16),aF ((zs.drop 16).take 16),n4 big (zs.drop 32),z1,z2,n4 big (zs.drop 44),↑z3,↑z4,n4 big (zs.drop 56),[]⟩:SecD)with rels:=bT big z4 ((xs.drop z3).take (z4*8))}],Res.all [D2,Dj],j0,j4,S,U,L,V,z,jq,Z,by omega,by omega,.inr (.inl hjg),fun w h=>hjD w (aS.1 h Dj (by simp)),fun w h=>by have h:=aS.1 h;rw[←List.append_assoc];exact(hjS w (h Dj (by simp))).snoc (am w (h D2 (by simp))),G,Hn⟩,by show q8+1- nv (.i (↑j+1))<q8+1- nv (ρ 49);rw[jc];simp only[nv];omega⟩
     ·
      have hsr:et big xs (⟨aF ((zs.drop 0).take 16),aF ((zs.drop 16).take 16),n4 big (zs.drop 32),z1,z2,n4 big (zs.drop 44),↑z3,↑z4,n4 big (zs.drop 56),[]⟩:SecD)=none:=by unfold et;rw[if_neg (show ¬(↑z4:Int).toNat=0 by omega),if_neg (show ¬(↑z3:Int).toNat+(↑z4:Int).toNat*8≤xs.length by rw[hr.1];omega)]
      refine aa (rz (base:=w.heap.size) (s:=(⟨aF ((zs.drop 0).take 16),aF ((zs.drop 16).take 16),n4 big (zs.drop 32),z1,z2,n4 big (zs.drop 44),↑z3,↑z4,n4 big (zs.drop 56),[]⟩:SecD)) (ro:=z3) (nr:=z4) big _ (Hp.loc (L1:= [an fb [.w (h 0),.w (h 1),.w (h 2),.w (h 3),.w (h 4),.w (h 5),.w (h 6),.e (bo big),.s r (nL+1) t,.s ASj (nS+j) cSj,sy,dy] 121,ay 125 1 (.s ASj (nS+j) cSj) (nS+j) (cK gsj),an u [.str (aF ((zs.drop 0).take 16)),.str (aF ((zs.drop 16).take 16)),.q (n4 big (zs.drop 32)),.q (↑z1),.w (↑z2),.w (n4 big (zs.drop 44)),.w (↑z3),.w (↑z4),.w (n4 big (zs.drop 56)),.ns,.n,.np] 135]) (L2:= [an gq [.sl gd o0 sz cr,.i (↑(56+68*j:Nat)+68),.i (-1)] 190,an d [.sl gd o0 sz cr,.w 1,.w (↑sz),.str (aF ((ys.drop 8).take 16)),.q (n4 big (ys.drop 24)),.q (n4 big (ys.drop 28)),.q (n4 big (ys.drop 32)),.q (n4 big (ys.drop 36)),.w (n4 big (ys.drop 40)),.w (n4 big (ys.drop 44)),.w (↑q8),.w (n4 big (ys.drop 52)),.n,.np] 181,ay 123 1 (.s r (nL+1) t) (nL+1) (vs++ [.f 160 (.pt d)]),Dj])) (Hp.re (L':= [an fb [.w (h 0),.w (h 1),.w (h 2),.w (h 3),.w (h 4),.w (h 5),.w (h 6),.e (bo big),.s r (nL+1) t,.s ASj (nS+j) cSj,sy,dy] 121,ay 125 1 (.s ASj (nS+j) cSj) (nS+j) (cK gsj),an u [.str (aF ((zs.drop 0).take 16)),.str (aF ((zs.drop 16).take 16)),.q (n4 big (zs.drop 32)),.q (↑z1),.w (↑z2),.w (n4 big (zs.drop 44)),.w (↑z3),.w (↑z4),.w (n4 big (zs.drop 56)),.ns,.n,.np] 135]) [0,1,2]).fresh (aG hrb) hw4 Hp.keep.size hA (bV hrb B.keep) (hG.keep B.keep fun k hk=>hk.elim) hNC hN (hr.keep0 B.keep) hby hft Z Z (by omega) (by omega) (by omega)) ?_
      rintro e cO ⟨T,ev,rfl,b0⟩
      have cf:=d6 (L1:= [an fb [.w (h 0),.w (h 1),.w (h 2),.w (h 3),.w (h 4),.w (h 5),.w (h 6),.e (bo big),.s r (nL+1) t,.s ASj (nS+j) cSj,sy,dy] 121,ay 125 1 (.s ASj (nS+j) cSj) (nS+j) (cK gsj),an u [.str (aF ((zs.drop 0).take 16)),.str (aF ((zs.drop 16).take 16)),.q (n4 big (zs.drop 32)),.q (↑z1),.w (↑z2),.w (n4 big (zs.drop 44)),.w (↑z3),.w (↑z4),.w (n4 big (zs.drop 56)),.ns,.n,.np] 135]) (L2:= [an gq [.sl gd o0 sz cr,.i (↑(56+68*j:Nat)+68),.i (-1)] 190,an d [.sl gd o0 sz cr,.w 1,.w (↑sz),.str (aF ((ys.drop 8).take 16)),.q (n4 big (ys.drop 24)),.q (n4 big (ys.drop 28)),.q (n4 big (ys.drop 32)),.q (n4 big (ys.drop 36)),.w (n4 big (ys.drop 40)),.w (n4 big (ys.drop 44)),.w (↑q8),.w (n4 big (ys.drop 52)),.n,.np] 181,ay 123 1 (.s r (nL+1) t) (nL+1) (vs++ [.f 160 (.pt d)]),Dj]) Hp b0
      refine⟨_,Z,av (.f T ev) Z (wn (sr (mv (.f T ev) Z (wv Z ((nn true bI Z (.inr ⟨_,_,Z⟩))) (wn (aB Z (sr (mv (.f T ev) Z (av (.np) Z (av (.f T ev) Z ?_))))))))))⟩
      refine wn (aY (aI (a7 (a7 (aI (aI (a7 ?_)))))))
      have hst:dk false big xs raw s=none:=by have e0:cG false big xs raw q8 56=none:=(by rw[hsec,show q8- j=(q8-(j+1))+1 by omega,kj (show ¬raw.length<56+68*j+68 by omega) (show et big xs (eP false big ((raw.drop (56+68*j)).take 68))= _ from by rw[←hzs,P];exact hsr)];rfl);exact gk hys hns e0
      exact hR hst _ _ _ _ Z Z cf.keep
   ·
    refine ae (mg jq Z (wv Z (aJ (v:= .pt gq) fu Z) (mg L Z (wE [.pt I,.f 109 (.pt gq),.e (bo big)] CK60 Z Z ?_))))
    have cg:=x.blk_ne (i:=0) (j:=1) rfl rfl (by decide)
    have J:=x.ge (i:=1) rfl
    have K:=x.ge (i:=0) rfl
    have hws:=x.keep.size
    refine aa (lg (ys:= []) (i:=56+68*j) (A:=some ⟨gd,o0,none⟩) (xs:=raw) big _ (x.g 0 Z) (x.g 1 Z) (hG.keep x.keep fun k hk=>hk.elim) hscr (by omega) ((fun w h=>hRaw w (hjD w h)) _ (x.g 6 Z)) hrby (fun a ha=>by injection ha with ha;subst ha;exact⟨Dj.live _ _ (x.g 6 Z) hjg,x.sepD (i:=1) (j:=6) Z Z (by decide) hjg,x.sepD (i:=0) (j:=6) Z Z (by decide) hjg⟩) (by omega) (by omega) (by omega) (by omega) (by omega)) ?_
    rintro e cP ⟨T,ev,rfl,b1⟩
    have ch:=x.ky 0 0 rfl rfl b1 (fun _ h=>h)
    refine⟨_,Z,av (.f T ev) Z (wn (sr (mv (.f T ev) Z (wv Z ((nn true bI Z (.inr ⟨_,_,Z⟩))) (wn (aB Z (sr (mv (.f T ev) Z (av (.np) Z (av (.f T ev) Z ?_))))))))))⟩
    refine wn (rq (aI (a7 (a7 (aI (aI (a7 ?_)))))))
    have hst:dk false big xs raw s=none:=by have e0:cG false big xs raw q8 56=none:=(by rw[hsec,show q8- j=(q8-(j+1))+1 by omega,iT (show raw.length<56+68*j+68 by omega)];rfl);exact gk hys hns e0
    exact hR hst _ _ _ _ Z Z ch.keep
  ·
   simp only[bx]at M
   refine bq (ar (ar (aQ (ak (ac (ad ?_))))))
   have hjn:j=q8:=by omega
   have e0:cG false big xs raw q8 56=some dn:=by rw[hsec,show q8- j=0 by omega];simp[cG]
   have hDj:NFD Dj.φ rb {s with secs:=s.secs++dn} gd o m ds vs gsj sy dy:=⟨fun w h=>hD.dat w (hjD w h),fun w h=>hD.ld w (hjD w h),hjS,hD.sy.mono hjD,hD.dy.mono hjD⟩
   refine ae (mg z Z (wv Z ((show Yv _ _ _ _ (.b true) _ from dD (p:=(some ⟨d,0,none⟩)) m5 Z)) (wn (aB Z (ad (sr (mg z Z (wc Z (wf bw Z (wv Z (ab it Z) (wv Z (H3.ld 1 Z aP Z (.q (n4 big (ys.drop 32))) Z) ?_)))))))))))
   refine wv Z (ao db ip Z (a5 (by omega) (by omega))) (wv Z (bj Z Z (decide_eq_false (by omega))) (wn (al Z (wk (ad (sr (mg z Z (wc Z (wf bw Z (wv Z (ab ir Z) (wv Z (H3.ld 1 Z aP Z (.q (n4 big (ys.drop 36))) Z) ?_)))))))))))
   refine wv Z (ao db ip Z (a5 (by omega) (by omega))) (wv Z (bj Z Z (decide_eq_false (by omega))) (wn (al Z (wk (ad ?_)))))
   have aq:=H3.drew
   refine aU MX (fun w'=>w'.cell? ⟨d,6,none⟩=some (.q (n4 big (ys.drop 32)))∧w'.cell? ⟨d,7,none⟩=some (.q (n4 big (ys.drop 36)))) (tr 0 14 (Pl.run 14 (Pl.take 15 (Pl.take 16 (Pl.run 17 Pl.done))))) (by kernel_rfl) (⟨aq.c 1 6 Z Z,aq.c 1 7 Z Z⟩) (qm (.pt d) Z z (qm (.f 109 (.pt rb)) Z j0 (qm (.pt d) Z z (qy Z (ah Z) (qy Z (ab (o:=0) bw Z) (qy Z (ab (o:=1) it Z) (qh Z (fun hS=>ag aP Z hS.1) (qy Z (ao (c:=n4 big (ys.drop 32)) db ip Z (a5 (by omega) (by omega))) (qm (.pt d) Z z (qy Z (ah Z) (qy Z (ab (o:=0) bw Z) ?_)))))))))))
   refine qy Z (ab (o:=1) ir Z) (qh Z (fun hS=>ag aP Z hS.2) (qy Z (ao (c:=n4 big (ys.drop 36)) db ip Z (a5 (by omega) (by omega))) (qr Z (ec wA (args:= [.f 109 (.pt rb),.i (n4 big (ys.drop 32)),.i (n4 big (ys.drop 36))]) Z (aa (zQ _ (by omega) (by omega) (by omega) (by omega)) ?_)))))
   rintro e ck ⟨y,cQ,rfl,au⟩
   have O:=aq.cal0 au
   refine⟨_,Z,⟨⟨O.c 2 6 Z Z,O.c 2 7 Z Z⟩,fun _=>trivial,qy Z (ah Z) (qy Z (ab (o:=0) mO Z) (dJ Z (es O 2 13 (.pt y) Z hZ (fun cl H=> ?_))))⟩⟩
   refine⟨⟨H.c 2 6 Z Z,H.c 2 7 Z Z⟩,fun _=>trivial,pn (ae (mg z Z (mg z Z (wc Z (wf mO Z (wv Z (H.ld 2 Z hZ Z (.pt y) Z) (wv Z (aJ (v:= .pt y) lE Z) (wc Z (wf ur Z (ws ?_))))))))))⟩
   refine es H 2 12 (.f 133 (.pt y)) Z jp (fun b2 b3=> ?_)
   refine bk ?_
   have hl:([1,↑sz,n4 big (ys.drop 24),n4 big (ys.drop 28),n4 big (ys.drop 32),n4 big (ys.drop 36),n4 big (ys.drop 40),n4 big (ys.drop 44),↑q8,n4 big (ys.drop 52)]:List Int)=ek false big ys:=by show _= [n4 big (ys.drop 0),n4 big (ys.drop 4),n4 big (ys.drop 24),n4 big (ys.drop 28),n4 big (ys.drop 32),n4 big (ys.drop 36),n4 big (ys.drop 40),n4 big (ys.drop 44),n4 big (ys.drop 48),n4 big (ys.drop 52)];rw[b8,b9,R]
   have hst:dk false big xs raw s=some {s with loads:=s.loads++ [⟨1,raw,aF ((ys.drop 8).take 16),ek false big ys⟩],secs:=s.secs++dn}:=j3 (show ¬raw.length<56 by omega) hys hns e0 (by show ¬(_≤n4 big (ys.drop 32)∨ _≤n4 big (ys.drop 36));omega)
   have Hn:St w aR [an fb [.w (h 0),.w (h 1),.w (h 2),.w (h 3),.w (h 4),.w (h 5),.w (h 6),.e (bo big),.s r (nL+1) t,.s ASj (nS+j) cSj,sy,dy] 121,ay 123 1 (.s r (nL+1) t) (nL+1) (vs++ [.f 160 (.pt d)]),ay 125 1 (.s ASj (nS+j) cSj) (nS+j) (cK gsj),Res.all [an d [.sl gd o0 sz cr,.w 1,.w (↑sz),.str (aF ((ys.drop 8).take 16)),.q (n4 big (ys.drop 24)),.q (n4 big (ys.drop 28)),.q (n4 big (ys.drop 32)),.q (n4 big (ys.drop 36)),.w (n4 big (ys.drop 40)),.w (n4 big (ys.drop 44)),.w (↑q8),.w (n4 big (ys.drop 52)),.f 133 (.pt y),.pt y] 181,Dj]] b2:=(b3.reAll [2,6] [3,4,5]).re [1,2,3,0]
   have hsub: ∀w,(Res.all [an d [.sl gd o0 sz cr,.w 1,.w (↑sz),.str (aF ((ys.drop 8).take 16)),.q (n4 big (ys.drop 24)),.q (n4 big (ys.drop 28)),.q (n4 big (ys.drop 32)),.q (n4 big (ys.drop 36)),.w (n4 big (ys.drop 40)),.w (n4 big (ys.drop 44)),.w (↑q8),.w (n4 big (ys.drop 52)),.f 133 (.pt y),.pt y] 181,Dj]).φ w → Dj.φ w:=fun w hh=>aS.1 hh Dj (by simp)
   have hDn:NFD (Res.all [an d [.sl gd o0 sz cr,.w 1,.w (↑sz),.str (aF ((ys.drop 8).take 16)),.q (n4 big (ys.drop 24)),.q (n4 big (ys.drop 28)),.q (n4 big (ys.drop 32)),.q (n4 big (ys.drop 36)),.w (n4 big (ys.drop 40)),.w (n4 big (ys.drop 44)),.w (↑q8),.w (n4 big (ys.drop 52)),.f 133 (.pt y),.pt y] 181,Dj]).φ rb ({s with loads:=s.loads++ [⟨1,raw,aF ((ys.drop 8).take 16),ek false big ys⟩],secs:=s.secs++dn}) gd o m ds (vs++ [.f 160 (.pt d)]) gsj (sy) (dy):=⟨fun w hh=>hDj.dat w (hsub w hh),fun w hh=>(hDj.ld w (hsub w hh)).snoc (by have hh:=aS.1 hh;exact .inr (.inl ⟨_,_,_,raw,d,_,_,_,fun k=>([1,↑sz,n4 big (ys.drop 24),n4 big (ys.drop 28),n4 big (ys.drop 32),n4 big (ys.drop 36),n4 big (ys.drop 40),n4 big (ys.drop 44),↑q8,n4 big (ys.drop 52)]:List Int).getD k 0,rfl,gO (by rw[hl];exact wP hbys) (by decide),hh (an d [.sl gd o0 sz cr,.w 1,.w (↑sz),.str (aF ((ys.drop 8).take 16)),.q (n4 big (ys.drop 24)),.q (n4 big (ys.drop 28)),.q (n4 big (ys.drop 32)),.q (n4 big (ys.drop 36)),.w (n4 big (ys.drop 40)),.w (n4 big (ys.drop 44)),.w (↑q8),.w (n4 big (ys.drop 52)),.f 133 (.pt y),.pt y] 181) (by simp),(fun w h=>hRaw w (hjD w h)) _ (hsub _ (aS.2 hh)),by omega,congrArg (LoadD.mk 1 raw _) hl.symm⟩)),fun w hh=>hDj.sc w (hsub w hh),hDj.sy.mono hsub,hDj.dy.mono hsub⟩
   exact hQ _ _ _ hst ⟨j0,j4,⟨_,S,hof0,hof1⟩,U,L,V⟩ ⟨Res.all [an d [.sl gd o0 sz cr,.w 1,.w (↑sz),.str (aF ((ys.drop 8).take 16)),.q (n4 big (ys.drop 24)),.q (n4 big (ys.drop 28)),.q (n4 big (ys.drop 32)),.q (n4 big (ys.drop 36)),.w (n4 big (ys.drop 40)),.w (n4 big (ys.drop 44)),.w (↑q8),.w (n4 big (ys.drop 52)),.f 133 (.pt y),.pt y] 181,Dj],_,_,_,_,_,_,vs++ [.f 160 (.pt d)],gsj,_,_,.inr (.inl hjg),by omega,by omega,hDn,Hn⟩
 ·
  refine ae (mp gq 0 Z (wv Z (aJ (v:= .pt gq) fu Z) (mg h16 Z (wE [.pt g1,.f 109 (.pt gq),.e (bo big)] CK59 Z Z ?_))))
  have b5:=H6.blk_ne (i:=0) (j:=1) rfl rfl (by decide)
  have J:=H6.ge (i:=0) rfl
  have K:=H6.ge (i:=1) rfl
  have hws:=H6.keep.size
  refine aa (lc (ys:= []) (i:=0) (A:=some ⟨gd,o0,none⟩) (xs:=raw) big _ (H6.g 1 Z) (H6.g 0 Z) (hG.keep H6.keep fun k hk=>hk.elim) hscr (by omega) (hRaw _ (H6.g 5 Z)) hrby (fun a ha=>by injection ha with ha;subst ha;exact⟨D.live _ _ (H6.g 5 Z) hDg,H6.sepD (i:=0) (j:=5) Z Z (by decide) hDg,H6.sepD (i:=1) (j:=5) Z Z (by decide) hDg⟩) (by omega) (by omega) (by omega) (by omega) (by omega)) ?_
  rintro e cm ⟨T,ev,rfl,az⟩
  have b4:=H6.ky 1 0 rfl rfl az (fun _ h=>h)
  refine⟨_,Z,av (.f T ev) Z (wn (sr (mv (.f T ev) Z (wv Z ((nn true bI Z (.inr ⟨_,_,Z⟩))) (wn (aB Z (sr (mv (.f T ev) Z (av (.np) Z (av (.f T ev) Z ?_))))))))))⟩
  refine wn (rq (aI (a7 ?_)))
  have hst:dk false big xs raw s=none:=if_pos (show raw.length<56 by omega)
  exact hR hst _ _ _ _ Z Z b4.keep
theorem wU{rb N C fb gd o0 o m sz cr nL cL nS cS:Nat}{A AL AS:Option Addr}{i0 p0 of ii:Int}{xs raw ds:List Int}{a0 a1:Addr}{h:Nat → Int}{vs:List Value}{gs:List Nat}{sy dy:Value}{D:Res}{s:PSt}(big:Bool)(w w1:World)(hrb:(an rb [.s A N C,.i i0,.i p0] 190).φ w)(hG:Glob 224 w a0 a1)(hNC:N≤C)(hN:N<10485760)(hr:RI .u8 w A N xs)(hby:Byt xs)(hA: ∀a,A=some a → a.block<w.heap.size)(hw4:4≤w.heap.size)
 (hDg:D.F gd) (hnL:nL+sz+m≤10485760) (hnS:nS+sz+m≤10485760) (hD:NFD D.φ rb s gd o m ds vs gs sy dy) (hRaw: ∀w,D.φ w → RI .u8 w (some ⟨gd,o0,none⟩) sz raw) (hrby:Byt raw) (hrl:raw.length=sz) (hscr:sz≤cr) (hsz8:8≤sz) (hof0:0≤of) (hof1:of+ ↑m≤10485800)
 (H1:St w aR (wX fb big h AL AS nL cL nS cS vs gs sy dy D) w1) {ρ:dv} (h0:ρ 0= .f 109 (.pt rb)) (h4:ρ 4= .pt fb) (h12:ρ 12= .i of) (h13:ρ 13= .sl gd o m m) (h16:ρ 16= .e (bo big)) (h17:ρ 17= .w ii) (h18:ρ 18= .w 25) (h19:ρ 19= .w ↑sz) (h20:ρ 20= .sl gd o0 sz cr) (h21:ρ 21= .np) (hraw0:n4 big raw=25) (hraw4:n4 big (raw.drop 4)= ↑sz)
 {Q:QE} (hQ: ∀s' ρ' w',dk true big xs raw s=some s' → Fr ρ' rb fb gd o m big ii → Mid w rb fb big h gd o m ds s' w' → Q .normal ρ' w') (hR:dk true big xs raw s=none → ∀ρ' w' T v,ρ' 2= .np → ρ' 3= .f T v → Keep w aR w' → Q .ret ρ' w'):
 W Tryd.prog 931 ((eF 3 (Tryd.f41.body.getD .skip)).getD .skip) Q ρ w1:=by
 refine rG Z ?_
 have H0:St w aR [an fb [.w (h 0),.w (h 1),.w (h 2),.w (h 3),.w (h 4),.w (h 5),.w (h 6),.e (bo big),.s AL nL cL,.s AS nS cS,sy,dy] 121,ay 123 1 (.s AL nL cL) nL vs,ay 125 1 (.s AS nS cS) nS (cK gs),D] w1:=H1
 refine ad (sr (mg h18 Z (wn (a6 (sr (wv Z (aT (c:=false) Z Z Z) (av (.b false) Z (wn (al Z (sr (wv Z (aT (c:=false) Z Z Z) ?_)))))))))))
 refine av (.b false) Z (wn (al Z (sr (wv Z (aT (c:=false) Z Z Z) (av (.b false) Z (wn (al Z (sr (wv Z (aT (c:=false) Z Z Z) (av (.b false) Z (wn ?_)))))))))))
 refine al Z (sr (wv Z (aT (c:=false) Z Z Z) (av (.b false) Z (wn (al Z (sr (wv Z (aT (c:=true) Z Z Z) (av (.b true) Z (wn (aB Z (sr ?_)))))))))))
 refine wm Z (aN H0 xA (fun g1 w2 co H3=>wn (sr (mg h20 Z (wE [.sl gd o0 sz cr] oR Z Z (aa (dB (some ⟨gd,o0,none⟩) sz cr _) ?_))))))
 rintro e w5 ⟨gq,rfl,hgq,bD⟩
 have H6:=H3.cal0 bD
 refine⟨_,Z,ap gq 0 Z (wn (ad (ad ?_)))⟩
 by_cases hfit:0+72≤sz
 ·
  obtain⟨ys,hys⟩: ∃q,q=(raw.drop (0)).take 72:=⟨_,rfl⟩
  have hbys:Byt ys:=by rw[hys];exact(hrby.drop _).take _
  have hlys:ys.length=72:=by rw[hys,List.length_take,List.length_drop,hrl];omega
  obtain⟨q8,aj⟩: ∃q:Nat,(q:Int)=n4 big (ys.drop 64):=⟨(n4 big (ys.drop 64)).toNat,Int.toNat_of_nonneg (ba big (hbys.drop _)).1⟩
  have bE:(q8:Int)<4294967296:=by rw[aj];exact(ba big (hbys.drop _)).2
  have hns:((ek true big ys).getD 8 0).toNat=q8:=by show(n4 big (ys.drop 64)).toNat=q8;omega
  have bF:n4 big (ys.drop 0)=25:=by rw[hys,cE (by omega)];exact hraw0
  have bH:n4 big (ys.drop 4)= ↑sz:=by rw[hys,cE (by omega)];exact hraw4
  have:=nJ big (hbys.drop 40)
  have:=nJ big (hbys.drop 48)
  refine ae (mp gq 0 Z (wv Z (aJ (v:= .pt gq) fu Z) (mg h16 Z (wE [.pt g1,.f 109 (.pt gq),.e (bo big)] CK62 Z Z ?_))))
  have cp:=H6.blk_ne (i:=0) (j:=1) rfl rfl (by decide)
  have J:=H6.ge (i:=0) rfl
  have K:=H6.ge (i:=1) rfl
  have hws:=H6.keep.size
  refine aa (lG (ys:=ys) (i:=0) (A:=some ⟨gd,o0,none⟩) (xs:=raw) big _ (H6.g 1 Z) (H6.g 0 Z) (hG.keep H6.keep fun k hk=>hk.elim) hscr (by omega) (hRaw _ (H6.g 5 Z)) hrby (fun a ha=>by injection ha with ha;subst ha;exact⟨D.live _ _ (H6.g 5 Z) hDg,H6.sepD (i:=0) (j:=5) Z Z (by decide) hDg,H6.sepD (i:=1) (j:=5) Z Z (by decide) hDg⟩) (by omega) (by omega) (by omega) (by omega) (by omega) hys) ?_
  rintro e w9 ⟨rfl,aC⟩
  rw[←aj]at aC
  have bJ:=H6.ky 1 0 rfl rfl aC (fun _ h=>h)
  refine⟨_,Z,av (.n) Z (wn (sr (mv (.n) Z (wv Z ((nn false bI Z (.inl Z))) (wn (al Z (wk (sr (wm Z (aN bJ rL (fun d cx bL bM=> ?_)))))))))))⟩
  refine ap d 0 Z (wn (sr (mp d 0 Z (mg h20 Z (wc Z (wf ut Z (ws (es bM 0 0 (.sl gd o0 sz cr) Z hX (fun cy bN=> ?_)))))))))
  refine wn (sr (mp d 0 Z (mg h18 Z (wc Z (wf bw Z (wv Z (ab qG Z) (ws (es bN 0 1 (.w 25) Z iG (fun cz bO=> ?_)))))))))
  refine wn (sr (mp d 0 Z (mg h19 Z (wc Z (wf bw Z (wv Z (ab qF Z) (ws (es bO 0 2 (.w (↑sz)) Z ax (fun c0 aD=> ?_)))))))))
  refine wn (sr (mp d 0 Z (wf uh Z (wv Z ((bP (o:=2) (l:=0) (h:=16) jQ Z (bh (i:=0) Z (by omega) Z) (bu _ _) (by omega) (by omega):Yv _ _ _ _ (.sl g1 2 16 16) _)) (wE [.sl g1 2 16 16] pw Z Z (aa (eV _ (fR (ys:=ys) (k:=8) (m:=16) (aD.g 1 Z) Z (by omega)) ((hbys.drop _).take _) (by omega) (by omega)) ?_))))))
  rintro e c1 ⟨rfl,aE⟩
  have bQ:=aD.cal0 aE
  refine⟨_,Z,wc Z (wf bw Z (wv Z (ab qE Z) (ws (es bQ 0 3 (.str (aF ((ys.drop 8).take 16))) Z dP (fun c2 aK=> ?_)))))⟩
  refine wn (sr (mp d 0 Z (wf ug Z (wv Z (aK.ld 1 Z aP Z (.q (n8 big (ys.drop 24))) Z) (wc Z (wf bw Z (wv Z (ab qD Z) (ws (es aK 0 4 (.q (n8 big (ys.drop 24))) Z aP (fun c3 aL=> ?_))))))))))
  refine wn (sr (mp d 0 Z (wf uf Z (wv Z (aL.ld 1 Z aP Z (.q (n8 big (ys.drop 32))) Z) (wc Z (wf bw Z (wv Z (ab qC Z) (ws (es aL 0 5 (.q (n8 big (ys.drop 32))) Z aP (fun c4 aM=> ?_))))))))))
  refine wn (sr (mp d 0 Z (wf ue Z (wv Z (aM.ld 1 Z aP Z (.q (n8 big (ys.drop 40))) Z) (wc Z (wf bw Z (wv Z (ab it Z) (ws (es aM 0 6 (.q (n8 big (ys.drop 40))) Z aP (fun c5 aO=> ?_))))))))))
  refine wn (sr (mp d 0 Z (wf ud Z (wv Z (aO.ld 1 Z aP Z (.q (n8 big (ys.drop 48))) Z) (wc Z (wf bw Z (wv Z (ab ir Z) (ws (es aO 0 7 (.q (n8 big (ys.drop 48))) Z aP (fun c6 aV=> ?_))))))))))
  refine wn (sr (mp d 0 Z (wf uc Z (wv Z (aV.ld 1 Z ax Z (.w (n4 big (ys.drop 56))) Z) (wc Z (wf bw Z (wv Z (ab qB Z) (ws (es aV 0 8 (.w (n4 big (ys.drop 56))) Z ax (fun c7 aW=> ?_))))))))))
  refine wn (sr (mp d 0 Z (wf ub Z (wv Z (aW.ld 1 Z ax Z (.w (n4 big (ys.drop 60))) Z) (wc Z (wf bw Z (wv Z (ab qA Z) (ws (es aW 0 9 (.w (n4 big (ys.drop 60))) Z ax (fun c8 aX=> ?_))))))))))
  refine wn (sr (mp d 0 Z (wf ua Z (wv Z (aX.ld 1 Z ax Z (.w (↑q8)) Z) (wc Z (wf bw Z (wv Z (ab lA Z) (ws (es aX 0 10 (.w (↑q8)) Z ax (fun c9 aZ=> ?_))))))))))
  refine wn (sr (mp d 0 Z (wf rQ Z (wv Z (aZ.ld 1 Z ax Z (.w (n4 big (ys.drop 68))) Z) (wc Z (wf bw Z (wv Z (ab oG Z) (ws (es aZ 0 11 (.w (n4 big (ys.drop 68))) Z ax (fun cA bb=> ?_))))))))))
  refine wn (sr (mg h4 Z (mg h4 Z (wc Z (wf dR Z (wv Z (bb.ld 3 Z eX Z (.s AL nL cL) Z) (mp d 0 Z (wv Z (aJ (v:= .pt d) zM Z) (wm Z (eb bb 123 [.f 160 (.pt d)] Z (by kernel_rfl) (fun cB cC bS bc=>wm Z ?_)))))))))))
  refine bG bc 5 (m:=1) (news:= [.f 160 (.pt d)]) Z l4 lF Z (by decide) Z Z Z (bc.news (i:=0) Z) (by simp[Value.oneCell']) (by simp only[maxLen];omega) (by omega) (fun cD cF bd=> ?_)
  obtain⟨r,t,rfl,_,_⟩:=aw (bd.g 5 rfl)
  refine wc Z (wf dR Z (ws (es bd 4 8 (.s r (nL+1) t) Z eX (fun bU bW=> ?_))))
  refine wn (sr (ai 0 Z (wn (a6 ?_))))
  have bX:St w aR [an gq [.sl gd o0 sz cr,.i (↑(72+80*(0:Nat))),.i (-1)] 190,an d [.sl gd o0 sz cr,.w 25,.w (↑sz),.str (aF ((ys.drop 8).take 16)),.q (n8 big (ys.drop 24)),.q (n8 big (ys.drop 32)),.q (n8 big (ys.drop 40)),.q (n8 big (ys.drop 48)),.w (n4 big (ys.drop 56)),.w (n4 big (ys.drop 60)),.w (↑q8),.w (n4 big (ys.drop 68)),.n,.np] 181,an fb [.w (h 0),.w (h 1),.w (h 2),.w (h 3),.w (h 4),.w (h 5),.w (h 6),.e (bo big),.s r (nL+1) t,.s AS (nS+(0:Nat)) cS,sy,dy] 121,ay 123 1 (.s r (nL+1) t) (nL+1) (vs++ [.f 160 (.pt d)]),ay 125 1 (.s AS (nS+(0:Nat)) cS) (nS+(0:Nat)) (cK gs),D] bU:=bW.re [3,1,4,5,6,7]
  refine bA (fun ρ w'=> ∃j:Nat,∃ASj:Option Addr,∃cSj:Nat,∃gsj:List Nat,∃dn:List SecD,∃Dj:Res,ρ 0= .f 109 (.pt rb)∧ρ 4= .pt fb∧ρ 12= .i of∧ρ 13= .sl gd o m m∧ρ 16= .e (bo big)∧ρ 17= .w ii∧ρ 21= .pt d∧ρ 55= .pt gq∧ρ 57= .i ↑j∧j≤q8∧72+80*j≤sz∧Dj.F gd∧(∀w,Dj.φ w → D.φ w)∧(∀w,Dj.φ w → ScS w rb gsj (s.secs++dn))∧cG true big xs raw q8 72=(cG true big xs raw (q8- j) (72+80*j)).map (dn++ ·)∧St w aR [an gq [.sl gd o0 sz cr,.i (↑(72+80*j)),.i (-1)] 190,an d [.sl gd o0 sz cr,.w 25,.w (↑sz),.str (aF ((ys.drop 8).take 16)),.q (n8 big (ys.drop 24)),.q (n8 big (ys.drop 32)),.q (n8 big (ys.drop 40)),.q (n8 big (ys.drop 48)),.w (n4 big (ys.drop 56)),.w (n4 big (ys.drop 60)),.w (↑q8),.w (n4 big (ys.drop 68)),.n,.np] 181,an fb [.w (h 0),.w (h 1),.w (h 2),.w (h 3),.w (h 4),.w (h 5),.w (h 6),.e (bo big),.s r (nL+1) t,.s ASj (nS+j) cSj,sy,dy] 121,ay 123 1 (.s r (nL+1) t) (nL+1) (vs++ [.f 160 (.pt d)]),ay 125 1 (.s ASj (nS+j) cSj) (nS+j) (cK gsj),Dj] w') (fun ρ _=>q8+1- nv (ρ 57)) (⟨0,AS,cS,gs,[],D,h0,h4,h12,h13,h16,h17,Z,Z,Z,by omega,by omega,hDg,fun _ h=>h,fun w h=>by rw[List.append_nil];exact hD.sc w h,by simp,bX⟩) ?_
  rintro ρ w3 ⟨j,ASj,cSj,gsj,dn,Dj,j0,j4,L,am,M,aq,y,jq,jc,hj,hjz,hjg,hjD,hjS,hsec,H3⟩
  refine ad (sr (mg jc Z (mg y Z (wc Z (wf bw Z (wv Z (ab lA Z) (wv Z (H3.ld 1 Z ax Z (.w (↑q8)) Z) (wv Z (ao bv kK Z (a5 (by omega) (by omega))) (wv Z (bR Z Z) (wn ?_))))))))))
  refine bK Z (fun O=> ?_) (fun O=> ?_)
  ·
   simp only[bx]at O
   refine wk (ad (a6 (sr (wm Z (aN H3 x9 (fun I cH bY x=>wn (ad (ad ?_))))))))
   have hjn:j<q8:=by omega
   by_cases hfit:72+80*j+80≤sz
   ·
    obtain⟨zs,hzs⟩: ∃q,q=(raw.drop (72+80*j)).take 80:=⟨_,rfl⟩
    have hbzs:Byt zs:=by rw[hzs];exact(hrby.drop _).take _
    have hlzs:zs.length=80:=by rw[hzs,List.length_take,List.length_drop,hrl];omega
    obtain⟨z1,au⟩: ∃q:Nat,(q:Int)=n8 big (zs.drop 40):=⟨(n8 big (zs.drop 40)).toNat,Int.toNat_of_nonneg (nJ big (hbzs.drop _)).1⟩
    have bZ:(z1:Int)<18446744073709551616:=by rw[au];exact(nJ big (hbzs.drop _)).2
    obtain⟨z2,az⟩: ∃q:Nat,(q:Int)=n4 big (zs.drop 48):=⟨(n4 big (zs.drop 48)).toNat,Int.toNat_of_nonneg (ba big (hbzs.drop _)).1⟩
    have ca:(z2:Int)<4294967296:=by rw[az];exact(ba big (hbzs.drop _)).2
    obtain⟨z3,a2⟩: ∃q:Nat,(q:Int)=n4 big (zs.drop 56):=⟨(n4 big (zs.drop 56)).toNat,Int.toNat_of_nonneg (ba big (hbzs.drop _)).1⟩
    have cb:(z3:Int)<4294967296:=by rw[a2];exact(ba big (hbzs.drop _)).2
    obtain⟨z4,a3⟩: ∃q:Nat,(q:Int)=n4 big (zs.drop 60):=⟨(n4 big (zs.drop 60)).toNat,Int.toNat_of_nonneg (ba big (hbzs.drop _)).1⟩
    have cc:(z4:Int)<4294967296:=by rw[a3];exact(ba big (hbzs.drop _)).2
    refine ae (mg jq Z (wv Z (aJ (v:= .pt gq) fu Z) (mg M Z (wE [.pt I,.f 109 (.pt gq),.e (bo big)] CK63 Z Z ?_))))
    have cd:=x.blk_ne (i:=0) (j:=1) rfl rfl (by decide)
    have J:=x.ge (i:=1) rfl
    have K:=x.ge (i:=0) rfl
    have hws:=x.keep.size
    refine aa (lI (ys:=zs) (i:=72+80*j) (A:=some ⟨gd,o0,none⟩) (xs:=raw) big _ (x.g 0 Z) (x.g 1 Z) (hG.keep x.keep fun k hk=>hk.elim) hscr (by omega) ((fun w h=>hRaw w (hjD w h)) _ (x.g 6 Z)) hrby (fun a ha=>by injection ha with ha;subst ha;exact⟨Dj.live _ _ (x.g 6 Z) hjg,x.sepD (i:=1) (j:=6) Z Z (by decide) hjg,x.sepD (i:=0) (j:=6) Z Z (by decide) hjg⟩) (by omega) (by omega) (by omega) (by omega) (by omega) hzs) ?_
    rintro e cI ⟨rfl,E⟩
    rw[←au]at E
    rw[←az]at E
    rw[←a2]at E
    rw[←a3]at E
    have ce:=x.ky 0 0 rfl rfl E (fun _ h=>h)
    refine⟨_,Z,av (.n) Z (wn (sr (mv (.n) Z (wv Z ((nn false bI Z (.inl Z))) (wn (al Z (wk (sr (wm Z (aN ce rO (fun u cJ cf be=> ?_)))))))))))⟩
    refine ap u 0 Z (wn (sr (mp u 0 Z (wf tZ Z (wv Z ((bP (o:=0) (l:=0) (h:=16) jQ Z (bh (i:=0) Z (by omega) Z) (bu _ _) (by omega) (by omega):Yv _ _ _ _ (.sl I 0 16 16) _)) (wE [.sl I 0 16 16] pw Z Z (aa (eV _ (fR (ys:=zs) (k:=0) (m:=16) (be.g 1 Z) Z (by omega)) ((hbzs.drop _).take _) (by omega) (by omega)) ?_)))))))
    rintro e cM ⟨rfl,bf⟩
    have cg:=be.cal0 bf
    refine⟨_,Z,wc Z (wf br Z (wf mW Z (ws (es cg 0 0 (.str (aF ((zs.drop 0).take 16))) Z dP (fun cN bg=> ?_)))))⟩
    refine wn (sr (mp u 0 Z (wf tY Z (wv Z ((bP (o:=16) (l:=0) (h:=16) jQ Z (bh (i:=0) Z (by omega) Z) (bu _ _) (by omega) (by omega):Yv _ _ _ _ (.sl I 16 16 16) _)) (wE [.sl I 16 16 16] pw Z Z (aa (eV _ (fR (ys:=zs) (k:=16) (m:=16) (bg.g 1 Z) Z (by omega)) ((hbzs.drop _).take _) (by omega) (by omega)) ?_))))))
    rintro e cO ⟨rfl,bi⟩
    have ch:=bg.cal0 bi
    refine⟨_,Z,wc Z (wf br Z (wf mV Z (ws (es ch 0 1 (.str (aF ((zs.drop 16).take 16))) Z dP (fun cP bl=> ?_)))))⟩
    refine wn (sr (mp u 0 Z (wf tX Z (wv Z (bl.ld 1 Z aP Z (.q (n8 big (zs.drop 32))) Z) (wc Z (wf br Z (wf mU Z (ws (es bl 0 2 (.q (n8 big (zs.drop 32))) Z aP (fun cQ bm=> ?_))))))))))
    refine wn (sr (mp u 0 Z (wf tW Z (wv Z (bm.ld 1 Z aP Z (.q (↑z1)) Z) (wc Z (wf br Z (wf iu Z (ws (es bm 0 3 (.q (↑z1)) Z aP (fun cR bn=> ?_))))))))))
    refine wn (sr (mp u 0 Z (wf tV Z (wv Z (bn.ld 1 Z ax Z (.w (↑z2)) Z) (wc Z (wf br Z (wf jH Z (ws (es bn 0 4 (.w (↑z2)) Z ax (fun cT bp=> ?_))))))))))
    refine wn (sr (mp u 0 Z (wf tU Z (wv Z (bp.ld 1 Z ax Z (.w (n4 big (zs.drop 52))) Z) (wc Z (wf br Z (wf mT Z (ws (es bp 0 5 (.w (n4 big (zs.drop 52))) Z ax (fun cU bs=> ?_))))))))))
    refine wn (sr (mp u 0 Z (wf tT Z (wv Z (bs.ld 1 Z ax Z (.w (↑z3)) Z) (wc Z (wf br Z (wf kC Z (ws (es bs 0 6 (.w (↑z3)) Z ax (fun cV bt=> ?_))))))))))
    refine wn (sr (mp u 0 Z (wf tS Z (wv Z (bt.ld 1 Z ax Z (.w (↑z4)) Z) (wc Z (wf br Z (wf gK Z (ws (es bt 0 7 (.w (↑z4)) Z ax (fun cW bz=> ?_))))))))))
    refine wn (sr (mp u 0 Z (wf tR Z (wv Z (bz.ld 1 Z ax Z (.w (n4 big (zs.drop 64))) Z) (wc Z (wf br Z (wf mS Z (ws (es bz 0 8 (.w (n4 big (zs.drop 64))) Z ax (fun ci B=> ?_))))))))))
    refine wn (sr (mg j4 Z (mp u 0 Z (mg j0 Z (wE [.pt fb,.pt u,.f 109 (.pt rb)] CK61 Z Z ?_)))))
    have Hp:St w aR ([an fb [.w (h 0),.w (h 1),.w (h 2),.w (h 3),.w (h 4),.w (h 5),.w (h 6),.e (bo big),.s r (nL+1) t,.s ASj (nS+j) cSj,sy,dy] 121,ay 125 1 (.s ASj (nS+j) cSj) (nS+j) (cK gsj),an u [.str (aF ((zs.drop 0).take 16)),.str (aF ((zs.drop 16).take 16)),.q (n8 big (zs.drop 32)),.q (↑z1),.w (↑z2),.w (n4 big (zs.drop 52)),.w (↑z3),.w (↑z4),.w (n4 big (zs.drop 64)),.ns,.n,.np] 135]++ [an gq [.sl gd o0 sz cr,.i (↑(72+80*j:Nat)+80),.i (-1)] 190,an d [.sl gd o0 sz cr,.w 25,.w (↑sz),.str (aF ((ys.drop 8).take 16)),.q (n8 big (ys.drop 24)),.q (n8 big (ys.drop 32)),.q (n8 big (ys.drop 40)),.q (n8 big (ys.drop 48)),.w (n4 big (ys.drop 56)),.w (n4 big (ys.drop 60)),.w (↑q8),.w (n4 big (ys.drop 68)),.n,.np] 181,ay 123 1 (.s r (nL+1) t) (nL+1) (vs++ [.f 160 (.pt d)]),Dj]) ci:=B.re [4,6,0,2,3,5,7]
    have R:eP true big zs=(⟨aF ((zs.drop 0).take 16),aF ((zs.drop 16).take 16),n8 big (zs.drop 32),z1,z2,n4 big (zs.drop 52),↑z3,↑z4,n4 big (zs.drop 64),[]⟩:SecD):=by simp only[eP,←au,←az,←a2,←a3,Int.toNat_natCast,if_true,if_false,Bool.false_eq_true]
    have hft:SecD.fits (⟨aF ((zs.drop 0).take 16),aF ((zs.drop 16).take 16),n8 big (zs.drop 32),z1,z2,n4 big (zs.drop 52),↑z3,↑z4,n4 big (zs.drop 64),[]⟩:SecD):=by rw[←R];exact pC hbzs
    by_cases hc1:z4=0
    ·
     have hsr:et big xs (⟨aF ((zs.drop 0).take 16),aF ((zs.drop 16).take 16),n8 big (zs.drop 32),z1,z2,n4 big (zs.drop 52),↑z3,↑z4,n4 big (zs.drop 64),[]⟩:SecD)=some {(⟨aF ((zs.drop 0).take 16),aF ((zs.drop 16).take 16),n8 big (zs.drop 32),z1,z2,n4 big (zs.drop 52),↑z3,↑z4,n4 big (zs.drop 64),[]⟩:SecD)with rels:= []}:=by unfold et;rw[if_pos (show(↑z4:Int).toNat=0 by omega)]
     refine aa (pD (base:=w.heap.size) (s:=(⟨aF ((zs.drop 0).take 16),aF ((zs.drop 16).take 16),n8 big (zs.drop 32),z1,z2,n4 big (zs.drop 52),↑z3,↑z4,n4 big (zs.drop 64),[]⟩:SecD)) (ro:=z3) (nr:=z4) big _ (Hp.loc (L1:= [an fb [.w (h 0),.w (h 1),.w (h 2),.w (h 3),.w (h 4),.w (h 5),.w (h 6),.e (bo big),.s r (nL+1) t,.s ASj (nS+j) cSj,sy,dy] 121,ay 125 1 (.s ASj (nS+j) cSj) (nS+j) (cK gsj),an u [.str (aF ((zs.drop 0).take 16)),.str (aF ((zs.drop 16).take 16)),.q (n8 big (zs.drop 32)),.q (↑z1),.w (↑z2),.w (n4 big (zs.drop 52)),.w (↑z3),.w (↑z4),.w (n4 big (zs.drop 64)),.ns,.n,.np] 135]) (L2:= [an gq [.sl gd o0 sz cr,.i (↑(72+80*j:Nat)+80),.i (-1)] 190,an d [.sl gd o0 sz cr,.w 25,.w (↑sz),.str (aF ((ys.drop 8).take 16)),.q (n8 big (ys.drop 24)),.q (n8 big (ys.drop 32)),.q (n8 big (ys.drop 40)),.q (n8 big (ys.drop 48)),.w (n4 big (ys.drop 56)),.w (n4 big (ys.drop 60)),.w (↑q8),.w (n4 big (ys.drop 68)),.n,.np] 181,ay 123 1 (.s r (nL+1) t) (nL+1) (vs++ [.f 160 (.pt d)]),Dj])) (Hp.re (L':= [an fb [.w (h 0),.w (h 1),.w (h 2),.w (h 3),.w (h 4),.w (h 5),.w (h 6),.e (bo big),.s r (nL+1) t,.s ASj (nS+j) cSj,sy,dy] 121,ay 125 1 (.s ASj (nS+j) cSj) (nS+j) (cK gsj),an u [.str (aF ((zs.drop 0).take 16)),.str (aF ((zs.drop 16).take 16)),.q (n8 big (zs.drop 32)),.q (↑z1),.w (↑z2),.w (n4 big (zs.drop 52)),.w (↑z3),.w (↑z4),.w (n4 big (zs.drop 64)),.ns,.n,.np] 135]) [0,1,2]).fresh (aG hrb) hw4 Hp.keep.size hA (bV hrb B.keep) (hG.keep B.keep fun k hk=>hk.elim) hNC hN (hr.keep0 B.keep) hby hft Z Z (by omega) hc1) ?_
     rintro e cj ⟨Aq,cq,D2,rfl,b0,a4⟩
     have b1:=d6 (L1:= [an fb [.w (h 0),.w (h 1),.w (h 2),.w (h 3),.w (h 4),.w (h 5),.w (h 6),.e (bo big),.s r (nL+1) t,.s ASj (nS+j) cSj,sy,dy] 121,ay 125 1 (.s ASj (nS+j) cSj) (nS+j) (cK gsj),an u [.str (aF ((zs.drop 0).take 16)),.str (aF ((zs.drop 16).take 16)),.q (n8 big (zs.drop 32)),.q (↑z1),.w (↑z2),.w (n4 big (zs.drop 52)),.w (↑z3),.w (↑z4),.w (n4 big (zs.drop 64)),.ns,.n,.np] 135]) (L2:= [an gq [.sl gd o0 sz cr,.i (↑(72+80*j:Nat)+80),.i (-1)] 190,an d [.sl gd o0 sz cr,.w 25,.w (↑sz),.str (aF ((ys.drop 8).take 16)),.q (n8 big (ys.drop 24)),.q (n8 big (ys.drop 32)),.q (n8 big (ys.drop 40)),.q (n8 big (ys.drop 48)),.w (n4 big (ys.drop 56)),.w (n4 big (ys.drop 60)),.w (↑q8),.w (n4 big (ys.drop 68)),.n,.np] 181,ay 123 1 (.s r (nL+1) t) (nL+1) (vs++ [.f 160 (.pt d)]),Dj]) Hp b0
     refine⟨_,Z,av (.n) Z (wn (sr (mv (.n) Z (wv Z ((nn false bI Z (.inl Z))) (wn (al Z (dw (ak (ac (ae ?_))))))))))⟩
     refine mg jc Z (wv Z (aH (k:= .i64) (c:= ↑j+1) Z Z (a5 (by omega) (by omega))) (ai (↑j+1) Z (wn ?_)))
     have e8:(↑(72+80*j:Nat):Int)+80= ↑(72+80*(j+1)):=by omega
     rw[e8,←j6]at b1
     have Hn:St w aR [an gq [.sl gd o0 sz cr,.i (↑(72+80*(j+1))),.i (-1)] 190,an d [.sl gd o0 sz cr,.w 25,.w (↑sz),.str (aF ((ys.drop 8).take 16)),.q (n8 big (ys.drop 24)),.q (n8 big (ys.drop 32)),.q (n8 big (ys.drop 40)),.q (n8 big (ys.drop 48)),.w (n4 big (ys.drop 56)),.w (n4 big (ys.drop 60)),.w (↑q8),.w (n4 big (ys.drop 68)),.n,.np] 181,an fb [.w (h 0),.w (h 1),.w (h 2),.w (h 3),.w (h 4),.w (h 5),.w (h 6),.e (bo big),.s r (nL+1) t,.s Aq (nS+(j+1)) cq,sy,dy] 121,ay 123 1 (.s r (nL+1) t) (nL+1) (vs++ [.f 160 (.pt d)]),ay 125 1 (.s Aq (nS+(j+1)) cq) (nS+(j+1)) (cK (gsj++ [u])),Res.all [D2,Dj]] cj:=(b1.reAll [0,6] [3,4,1,5,2]).re [1,2,3,4,5,0]
     have G:cG true big xs raw q8 72=(cG true big xs raw (q8-(j+1)) (72+80*(j+1))).map ((dn++ [{(⟨aF ((zs.drop 0).take 16),aF ((zs.drop 16).take 16),n8 big (zs.drop 32),z1,z2,n4 big (zs.drop 52),↑z3,↑z4,n4 big (zs.drop 64),[]⟩:SecD)with rels:= []}])++ ·):=by
      rw[hsec,show q8- j=(q8-(j+1))+1 by omega,gu (show ¬raw.length<72+80*j+80 by omega) (show et big xs (eP true big ((raw.drop (72+80*j)).take 80))= _ from by rw[←hzs,R];exact hsr),show 72+80*j+d7 true=72+80*(j+1)from by show 72+80*j+80= _;omega];cases cG true big xs raw (q8-(j+1)) (72+80*(j+1))<;>simp
     exact⟨⟨j+1,_,_,gsj++ [u],dn++ [{(⟨aF ((zs.drop 0).take 16),aF ((zs.drop 16).take 16),n8 big (zs.drop 32),z1,z2,n4 big (zs.drop 52),↑z3,↑z4,n4 big (zs.drop 64),[]⟩:SecD)with rels:= []}],Res.all [D2,Dj],j0,j4,L,am,M,aq,y,jq,Z,by omega,by omega,.inr (.inl hjg),fun w h=>hjD w (aS.1 h Dj (by simp)),fun w h=>by have h:=aS.1 h;rw[←List.append_assoc];exact(hjS w (h Dj (by simp))).snoc (a4 w (h D2 (by simp))),G,Hn⟩,by show q8+1- nv (.i (↑j+1))<q8+1- nv (ρ 57);rw[jc];simp only[nv];omega⟩
    ·
     by_cases hc2:z3+z4*8≤N
     ·
      have hsr:et big xs (⟨aF ((zs.drop 0).take 16),aF ((zs.drop 16).take 16),n8 big (zs.drop 32),z1,z2,n4 big (zs.drop 52),↑z3,↑z4,n4 big (zs.drop 64),[]⟩:SecD)=some {(⟨aF ((zs.drop 0).take 16),aF ((zs.drop 16).take 16),n8 big (zs.drop 32),z1,z2,n4 big (zs.drop 52),↑z3,↑z4,n4 big (zs.drop 64),[]⟩:SecD)with rels:=bT big z4 ((xs.drop z3).take (z4*8))}:=by unfold et;rw[if_neg (show ¬(↑z4:Int).toNat=0 by omega),if_pos (show(↑z3:Int).toNat+(↑z4:Int).toNat*8≤xs.length by rw[hr.1];omega)];simp only[Int.toNat_natCast]
      refine aa (t6 (base:=w.heap.size) (s:=(⟨aF ((zs.drop 0).take 16),aF ((zs.drop 16).take 16),n8 big (zs.drop 32),z1,z2,n4 big (zs.drop 52),↑z3,↑z4,n4 big (zs.drop 64),[]⟩:SecD)) (ro:=z3) (nr:=z4) big _ (Hp.loc (L1:= [an fb [.w (h 0),.w (h 1),.w (h 2),.w (h 3),.w (h 4),.w (h 5),.w (h 6),.e (bo big),.s r (nL+1) t,.s ASj (nS+j) cSj,sy,dy] 121,ay 125 1 (.s ASj (nS+j) cSj) (nS+j) (cK gsj),an u [.str (aF ((zs.drop 0).take 16)),.str (aF ((zs.drop 16).take 16)),.q (n8 big (zs.drop 32)),.q (↑z1),.w (↑z2),.w (n4 big (zs.drop 52)),.w (↑z3),.w (↑z4),.w (n4 big (zs.drop 64)),.ns,.n,.np] 135]) (L2:= [an gq [.sl gd o0 sz cr,.i (↑(72+80*j:Nat)+80),.i (-1)] 190,an d [.sl gd o0 sz cr,.w 25,.w (↑sz),.str (aF ((ys.drop 8).take 16)),.q (n8 big (ys.drop 24)),.q (n8 big (ys.drop 32)),.q (n8 big (ys.drop 40)),.q (n8 big (ys.drop 48)),.w (n4 big (ys.drop 56)),.w (n4 big (ys.drop 60)),.w (↑q8),.w (n4 big (ys.drop 68)),.n,.np] 181,ay 123 1 (.s r (nL+1) t) (nL+1) (vs++ [.f 160 (.pt d)]),Dj])) (Hp.re (L':= [an fb [.w (h 0),.w (h 1),.w (h 2),.w (h 3),.w (h 4),.w (h 5),.w (h 6),.e (bo big),.s r (nL+1) t,.s ASj (nS+j) cSj,sy,dy] 121,ay 125 1 (.s ASj (nS+j) cSj) (nS+j) (cK gsj),an u [.str (aF ((zs.drop 0).take 16)),.str (aF ((zs.drop 16).take 16)),.q (n8 big (zs.drop 32)),.q (↑z1),.w (↑z2),.w (n4 big (zs.drop 52)),.w (↑z3),.w (↑z4),.w (n4 big (zs.drop 64)),.ns,.n,.np] 135]) [0,1,2]).fresh (aG hrb) hw4 Hp.keep.size hA (bV hrb B.keep) (hG.keep B.keep fun k hk=>hk.elim) hNC hN (hr.keep0 B.keep) hby hft Z Z (by omega) (by omega) hc2) ?_
      rintro e ck ⟨Aq,cq,D2,rfl,b2,a4⟩
      have b3:=d6 (L1:= [an fb [.w (h 0),.w (h 1),.w (h 2),.w (h 3),.w (h 4),.w (h 5),.w (h 6),.e (bo big),.s r (nL+1) t,.s ASj (nS+j) cSj,sy,dy] 121,ay 125 1 (.s ASj (nS+j) cSj) (nS+j) (cK gsj),an u [.str (aF ((zs.drop 0).take 16)),.str (aF ((zs.drop 16).take 16)),.q (n8 big (zs.drop 32)),.q (↑z1),.w (↑z2),.w (n4 big (zs.drop 52)),.w (↑z3),.w (↑z4),.w (n4 big (zs.drop 64)),.ns,.n,.np] 135]) (L2:= [an gq [.sl gd o0 sz cr,.i (↑(72+80*j:Nat)+80),.i (-1)] 190,an d [.sl gd o0 sz cr,.w 25,.w (↑sz),.str (aF ((ys.drop 8).take 16)),.q (n8 big (ys.drop 24)),.q (n8 big (ys.drop 32)),.q (n8 big (ys.drop 40)),.q (n8 big (ys.drop 48)),.w (n4 big (ys.drop 56)),.w (n4 big (ys.drop 60)),.w (↑q8),.w (n4 big (ys.drop 68)),.n,.np] 181,ay 123 1 (.s r (nL+1) t) (nL+1) (vs++ [.f 160 (.pt d)]),Dj]) Hp b2
      refine⟨_,Z,av (.n) Z (wn (sr (mv (.n) Z (wv Z ((nn false bI Z (.inl Z))) (wn (al Z (dw (ak (ac (ae ?_))))))))))⟩
      refine mg jc Z (wv Z (aH (k:= .i64) (c:= ↑j+1) Z Z (a5 (by omega) (by omega))) (ai (↑j+1) Z (wn ?_)))
      have e8:(↑(72+80*j:Nat):Int)+80= ↑(72+80*(j+1)):=by omega
      rw[e8,←j6]at b3
      have Hn:St w aR [an gq [.sl gd o0 sz cr,.i (↑(72+80*(j+1))),.i (-1)] 190,an d [.sl gd o0 sz cr,.w 25,.w (↑sz),.str (aF ((ys.drop 8).take 16)),.q (n8 big (ys.drop 24)),.q (n8 big (ys.drop 32)),.q (n8 big (ys.drop 40)),.q (n8 big (ys.drop 48)),.w (n4 big (ys.drop 56)),.w (n4 big (ys.drop 60)),.w (↑q8),.w (n4 big (ys.drop 68)),.n,.np] 181,an fb [.w (h 0),.w (h 1),.w (h 2),.w (h 3),.w (h 4),.w (h 5),.w (h 6),.e (bo big),.s r (nL+1) t,.s Aq (nS+(j+1)) cq,sy,dy] 121,ay 123 1 (.s r (nL+1) t) (nL+1) (vs++ [.f 160 (.pt d)]),ay 125 1 (.s Aq (nS+(j+1)) cq) (nS+(j+1)) (cK (gsj++ [u])),Res.all [D2,Dj]] ck:=(b3.reAll [0,6] [3,4,1,5,2]).re [1,2,3,4,5,0]
      have G:cG true big xs raw q8 72=(cG true big xs raw (q8-(j+1)) (72+80*(j+1))).map ((dn++ [{(⟨aF ((zs.drop 0).take 16),aF ((zs.drop 16).take 16),n8 big (zs.drop 32),z1,z2,n4 big (zs.drop 52),↑z3,↑z4,n4 big (zs.drop 64),[]⟩:SecD)with rels:=bT big z4 ((xs.drop z3).take (z4*8))}])++ ·):=by
       rw[hsec,show q8- j=(q8-(j+1))+1 by omega,gu (show ¬raw.length<72+80*j+80 by omega) (show et big xs (eP true big ((raw.drop (72+80*j)).take 80))= _ from by rw[←hzs,R];exact hsr),show 72+80*j+d7 true=72+80*(j+1)from by show 72+80*j+80= _;omega];cases cG true big xs raw (q8-(j+1)) (72+80*(j+1))<;>simp
      exact⟨⟨j+1,_,_,gsj++ [u],dn++ [{(⟨aF ((zs.drop 0).take 16),aF ((zs.drop 16).take 16),n8 big (zs.drop 32),z1,z2,n4 big (zs.drop 52),↑z3,↑z4,n4 big (zs.drop 64),[]⟩:SecD)with rels:=bT big z4 ((xs.drop z3).take (z4*8))}],Res.all [D2,Dj],j0,j4,L,am,M,aq,y,jq,Z,by omega,by omega,.inr (.inl hjg),fun w h=>hjD w (aS.1 h Dj (by simp)),fun w h=>by have h:=aS.1 h;rw[←List.append_assoc];exact(hjS w (h Dj (by simp))).snoc (a4 w (h D2 (by simp))),G,Hn⟩,by show q8+1- nv (.i (↑j+1))<q8+1- nv (ρ 57);rw[jc];simp only[nv];omega⟩
     ·
      have hsr:et big xs (⟨aF ((zs.drop 0).take 16),aF ((zs.drop 16).take 16),n8 big (zs.drop 32),z1,z2,n4 big (zs.drop 52),↑z3,↑z4,n4 big (zs.drop 64),[]⟩:SecD)=none:=by unfold et;rw[if_neg (show ¬(↑z4:Int).toNat=0 by omega),if_neg (show ¬(↑z3:Int).toNat+(↑z4:Int).toNat*8≤xs.length by rw[hr.1];omega)]
      refine aa (rz (base:=w.heap.size) (s:=(⟨aF ((zs.drop 0).take 16),aF ((zs.drop 16).take 16),n8 big (zs.drop 32),z1,z2,n4 big (zs.drop 52),↑z3,↑z4,n4 big (zs.drop 64),[]⟩:SecD)) (ro:=z3) (nr:=z4) big _ (Hp.loc (L1:= [an fb [.w (h 0),.w (h 1),.w (h 2),.w (h 3),.w (h 4),.w (h 5),.w (h 6),.e (bo big),.s r (nL+1) t,.s ASj (nS+j) cSj,sy,dy] 121,ay 125 1 (.s ASj (nS+j) cSj) (nS+j) (cK gsj),an u [.str (aF ((zs.drop 0).take 16)),.str (aF ((zs.drop 16).take 16)),.q (n8 big (zs.drop 32)),.q (↑z1),.w (↑z2),.w (n4 big (zs.drop 52)),.w (↑z3),.w (↑z4),.w (n4 big (zs.drop 64)),.ns,.n,.np] 135]) (L2:= [an gq [.sl gd o0 sz cr,.i (↑(72+80*j:Nat)+80),.i (-1)] 190,an d [.sl gd o0 sz cr,.w 25,.w (↑sz),.str (aF ((ys.drop 8).take 16)),.q (n8 big (ys.drop 24)),.q (n8 big (ys.drop 32)),.q (n8 big (ys.drop 40)),.q (n8 big (ys.drop 48)),.w (n4 big (ys.drop 56)),.w (n4 big (ys.drop 60)),.w (↑q8),.w (n4 big (ys.drop 68)),.n,.np] 181,ay 123 1 (.s r (nL+1) t) (nL+1) (vs++ [.f 160 (.pt d)]),Dj])) (Hp.re (L':= [an fb [.w (h 0),.w (h 1),.w (h 2),.w (h 3),.w (h 4),.w (h 5),.w (h 6),.e (bo big),.s r (nL+1) t,.s ASj (nS+j) cSj,sy,dy] 121,ay 125 1 (.s ASj (nS+j) cSj) (nS+j) (cK gsj),an u [.str (aF ((zs.drop 0).take 16)),.str (aF ((zs.drop 16).take 16)),.q (n8 big (zs.drop 32)),.q (↑z1),.w (↑z2),.w (n4 big (zs.drop 52)),.w (↑z3),.w (↑z4),.w (n4 big (zs.drop 64)),.ns,.n,.np] 135]) [0,1,2]).fresh (aG hrb) hw4 Hp.keep.size hA (bV hrb B.keep) (hG.keep B.keep fun k hk=>hk.elim) hNC hN (hr.keep0 B.keep) hby hft Z Z (by omega) (by omega) (by omega)) ?_
      rintro e cX ⟨T,ev,rfl,b4⟩
      have cl:=d6 (L1:= [an fb [.w (h 0),.w (h 1),.w (h 2),.w (h 3),.w (h 4),.w (h 5),.w (h 6),.e (bo big),.s r (nL+1) t,.s ASj (nS+j) cSj,sy,dy] 121,ay 125 1 (.s ASj (nS+j) cSj) (nS+j) (cK gsj),an u [.str (aF ((zs.drop 0).take 16)),.str (aF ((zs.drop 16).take 16)),.q (n8 big (zs.drop 32)),.q (↑z1),.w (↑z2),.w (n4 big (zs.drop 52)),.w (↑z3),.w (↑z4),.w (n4 big (zs.drop 64)),.ns,.n,.np] 135]) (L2:= [an gq [.sl gd o0 sz cr,.i (↑(72+80*j:Nat)+80),.i (-1)] 190,an d [.sl gd o0 sz cr,.w 25,.w (↑sz),.str (aF ((ys.drop 8).take 16)),.q (n8 big (ys.drop 24)),.q (n8 big (ys.drop 32)),.q (n8 big (ys.drop 40)),.q (n8 big (ys.drop 48)),.w (n4 big (ys.drop 56)),.w (n4 big (ys.drop 60)),.w (↑q8),.w (n4 big (ys.drop 68)),.n,.np] 181,ay 123 1 (.s r (nL+1) t) (nL+1) (vs++ [.f 160 (.pt d)]),Dj]) Hp b4
      refine⟨_,Z,av (.f T ev) Z (wn (sr (mv (.f T ev) Z (wv Z ((nn true bI Z (.inr ⟨_,_,Z⟩))) (wn (aB Z (sr (mv (.f T ev) Z (av (.np) Z (av (.f T ev) Z ?_))))))))))⟩
      refine wn (aY (aI (a7 (a7 (aI (aI (a7 ?_)))))))
      have hst:dk true big xs raw s=none:=by have e0:cG true big xs raw q8 72=none:=(by rw[hsec,show q8- j=(q8-(j+1))+1 by omega,kj (show ¬raw.length<72+80*j+80 by omega) (show et big xs (eP true big ((raw.drop (72+80*j)).take 80))= _ from by rw[←hzs,R];exact hsr)];rfl);exact gk hys hns e0
      exact hR hst _ _ _ _ Z Z cl.keep
   ·
    refine ae (mg jq Z (wv Z (aJ (v:= .pt gq) fu Z) (mg M Z (wE [.pt I,.f 109 (.pt gq),.e (bo big)] CK63 Z Z ?_))))
    have cm:=x.blk_ne (i:=0) (j:=1) rfl rfl (by decide)
    have J:=x.ge (i:=1) rfl
    have K:=x.ge (i:=0) rfl
    have hws:=x.keep.size
    refine aa (lf (ys:= []) (i:=72+80*j) (A:=some ⟨gd,o0,none⟩) (xs:=raw) big _ (x.g 0 Z) (x.g 1 Z) (hG.keep x.keep fun k hk=>hk.elim) hscr (by omega) ((fun w h=>hRaw w (hjD w h)) _ (x.g 6 Z)) hrby (fun a ha=>by injection ha with ha;subst ha;exact⟨Dj.live _ _ (x.g 6 Z) hjg,x.sepD (i:=1) (j:=6) Z Z (by decide) hjg,x.sepD (i:=0) (j:=6) Z Z (by decide) hjg⟩) (by omega) (by omega) (by omega) (by omega) (by omega)) ?_
    rintro e cY ⟨T,ev,rfl,b5⟩
    have cn:=x.ky 0 0 rfl rfl b5 (fun _ h=>h)
    refine⟨_,Z,av (.f T ev) Z (wn (sr (mv (.f T ev) Z (wv Z ((nn true bI Z (.inr ⟨_,_,Z⟩))) (wn (aB Z (sr (mv (.f T ev) Z (av (.np) Z (av (.f T ev) Z ?_))))))))))⟩
    refine wn (rq (aI (a7 (a7 (aI (aI (a7 ?_)))))))
    have hst:dk true big xs raw s=none:=by have e0:cG true big xs raw q8 72=none:=(by rw[hsec,show q8- j=(q8-(j+1))+1 by omega,iT (show raw.length<72+80*j+80 by omega)];rfl);exact gk hys hns e0
    exact hR hst _ _ _ _ Z Z cn.keep
  ·
   simp only[bx]at O
   refine bq (ar (ar (aQ (ak (ac (ad ?_))))))
   have hjn:j=q8:=by omega
   have e0:cG true big xs raw q8 72=some dn:=by rw[hsec,show q8- j=0 by omega];simp[cG]
   have hDj:NFD Dj.φ rb {s with secs:=s.secs++dn} gd o m ds vs gsj sy dy:=⟨fun w h=>hD.dat w (hjD w h),fun w h=>hD.ld w (hjD w h),hjS,hD.sy.mono hjD,hD.dy.mono hjD⟩
   refine ae (mg y Z (wv Z ((show Yv _ _ _ _ (.b true) _ from dD (p:=(some ⟨d,0,none⟩)) m5 Z)) (wn (aB Z (ad (ad ?_))))))
   by_cases hof40:n8 big (ys.drop 40)<9223372036854775808
   ·
    refine ae (mg y Z (wc Z (wf bw Z (wv Z (ab it Z) (wv Z (H3.ld 1 Z aP Z (.q (n8 big (ys.drop 40))) Z) (wv Z (ao db ip Z (a5 (by omega) (by omega))) (wv Z (bj Z Z (decide_eq_false (by omega))) (wn (al Z (wk (ad ?_)))))))))))
    refine ad ?_
    by_cases hof48:n8 big (ys.drop 48)<9223372036854775808
    ·
     refine ae (mg y Z (wc Z (wf bw Z (wv Z (ab ir Z) (wv Z (H3.ld 1 Z aP Z (.q (n8 big (ys.drop 48))) Z) (wv Z (ao db ip Z (a5 (by omega) (by omega))) (wv Z (bj Z Z (decide_eq_false (by omega))) (wn (al Z (wk (ad ?_)))))))))))
     have a8:=H3.drew
     refine aU MX (fun w'=>w'.cell? ⟨d,6,none⟩=some (.q (n8 big (ys.drop 40)))∧w'.cell? ⟨d,7,none⟩=some (.q (n8 big (ys.drop 48)))) (tr 0 14 (Pl.run 14 (Pl.take 15 (Pl.take 16 (Pl.run 17 Pl.done))))) (by kernel_rfl) (⟨a8.c 1 6 Z Z,a8.c 1 7 Z Z⟩) (qm (.pt d) Z y (qm (.f 109 (.pt rb)) Z j0 (qm (.pt d) Z y (qy Z (ah Z) (qy Z (ab (o:=0) bw Z) (qy Z (ab (o:=1) it Z) (qh Z (fun hS=>ag aP Z hS.1) (qy Z (ao (c:=n8 big (ys.drop 40)) db ip Z (a5 (by omega) (by omega))) (qm (.pt d) Z y (qy Z (ah Z) (qy Z (ab (o:=0) bw Z) ?_)))))))))))
     refine qy Z (ab (o:=1) ir Z) (qh Z (fun hS=>ag aP Z hS.2) (qy Z (ao (c:=n8 big (ys.drop 48)) db ip Z (a5 (by omega) (by omega))) (qr Z (ec wA (args:= [.f 109 (.pt rb),.i (n8 big (ys.drop 40)),.i (n8 big (ys.drop 48))]) Z (aa (zQ _ (by omega) (by omega) (by omega) (by omega)) ?_)))))
     rintro e cs ⟨z,cZ,rfl,a9⟩
     have P:=a8.cal0 a9
     refine⟨_,Z,⟨⟨P.c 2 6 Z Z,P.c 2 7 Z Z⟩,fun _=>trivial,qy Z (ah Z) (qy Z (ab (o:=0) mO Z) (dJ Z (es P 2 13 (.pt z) Z hZ (fun ct H=> ?_))))⟩⟩
     refine⟨⟨H.c 2 6 Z Z,H.c 2 7 Z Z⟩,fun _=>trivial,pn (ae (mg y Z (mg y Z (wc Z (wf mO Z (wv Z (H.ld 2 Z hZ Z (.pt z) Z) (wv Z (aJ (v:= .pt z) lE Z) (wc Z (wf ur Z (ws ?_))))))))))⟩
     refine es H 2 12 (.f 133 (.pt z)) Z jp (fun b6 b7=> ?_)
     refine bk ?_
     have hl:([25,↑sz,n8 big (ys.drop 24),n8 big (ys.drop 32),n8 big (ys.drop 40),n8 big (ys.drop 48),n4 big (ys.drop 56),n4 big (ys.drop 60),↑q8,n4 big (ys.drop 68)]:List Int)=ek true big ys:=by show _= [n4 big (ys.drop 0),n4 big (ys.drop 4),n8 big (ys.drop 24),n8 big (ys.drop 32),n8 big (ys.drop 40),n8 big (ys.drop 48),n4 big (ys.drop 56),n4 big (ys.drop 60),n4 big (ys.drop 64),n4 big (ys.drop 68)];rw[bF,bH,aj]
     have hst:dk true big xs raw s=some {s with loads:=s.loads++ [⟨1,raw,aF ((ys.drop 8).take 16),ek true big ys⟩],secs:=s.secs++dn}:=j3 (show ¬raw.length<72 by omega) hys hns e0 (by show ¬(_≤n8 big (ys.drop 40)∨ _≤n8 big (ys.drop 48));omega)
     have Hn:St w aR [an fb [.w (h 0),.w (h 1),.w (h 2),.w (h 3),.w (h 4),.w (h 5),.w (h 6),.e (bo big),.s r (nL+1) t,.s ASj (nS+j) cSj,sy,dy] 121,ay 123 1 (.s r (nL+1) t) (nL+1) (vs++ [.f 160 (.pt d)]),ay 125 1 (.s ASj (nS+j) cSj) (nS+j) (cK gsj),Res.all [an d [.sl gd o0 sz cr,.w 25,.w (↑sz),.str (aF ((ys.drop 8).take 16)),.q (n8 big (ys.drop 24)),.q (n8 big (ys.drop 32)),.q (n8 big (ys.drop 40)),.q (n8 big (ys.drop 48)),.w (n4 big (ys.drop 56)),.w (n4 big (ys.drop 60)),.w (↑q8),.w (n4 big (ys.drop 68)),.f 133 (.pt z),.pt z] 181,Dj]] b6:=(b7.reAll [2,6] [3,4,5]).re [1,2,3,0]
     have hsub: ∀w,(Res.all [an d [.sl gd o0 sz cr,.w 25,.w (↑sz),.str (aF ((ys.drop 8).take 16)),.q (n8 big (ys.drop 24)),.q (n8 big (ys.drop 32)),.q (n8 big (ys.drop 40)),.q (n8 big (ys.drop 48)),.w (n4 big (ys.drop 56)),.w (n4 big (ys.drop 60)),.w (↑q8),.w (n4 big (ys.drop 68)),.f 133 (.pt z),.pt z] 181,Dj]).φ w → Dj.φ w:=fun w hh=>aS.1 hh Dj (by simp)
     have hDn:NFD (Res.all [an d [.sl gd o0 sz cr,.w 25,.w (↑sz),.str (aF ((ys.drop 8).take 16)),.q (n8 big (ys.drop 24)),.q (n8 big (ys.drop 32)),.q (n8 big (ys.drop 40)),.q (n8 big (ys.drop 48)),.w (n4 big (ys.drop 56)),.w (n4 big (ys.drop 60)),.w (↑q8),.w (n4 big (ys.drop 68)),.f 133 (.pt z),.pt z] 181,Dj]).φ rb ({s with loads:=s.loads++ [⟨1,raw,aF ((ys.drop 8).take 16),ek true big ys⟩],secs:=s.secs++dn}) gd o m ds (vs++ [.f 160 (.pt d)]) gsj (sy) (dy):=⟨fun w hh=>hDj.dat w (hsub w hh),fun w hh=>(hDj.ld w (hsub w hh)).snoc (by have hh:=aS.1 hh;exact .inr (.inl ⟨_,_,_,raw,d,_,_,_,fun k=>([25,↑sz,n8 big (ys.drop 24),n8 big (ys.drop 32),n8 big (ys.drop 40),n8 big (ys.drop 48),n4 big (ys.drop 56),n4 big (ys.drop 60),↑q8,n4 big (ys.drop 68)]:List Int).getD k 0,rfl,gO (by rw[hl];exact wP hbys) (by decide),hh (an d [.sl gd o0 sz cr,.w 25,.w (↑sz),.str (aF ((ys.drop 8).take 16)),.q (n8 big (ys.drop 24)),.q (n8 big (ys.drop 32)),.q (n8 big (ys.drop 40)),.q (n8 big (ys.drop 48)),.w (n4 big (ys.drop 56)),.w (n4 big (ys.drop 60)),.w (↑q8),.w (n4 big (ys.drop 68)),.f 133 (.pt z),.pt z] 181) (by simp),(fun w h=>hRaw w (hjD w h)) _ (hsub _ (aS.2 hh)),by omega,congrArg (LoadD.mk 1 raw _) hl.symm⟩)),fun w hh=>hDj.sc w (hsub w hh),hDj.sy.mono hsub,hDj.dy.mono hsub⟩
     exact hQ _ _ _ hst ⟨j0,j4,⟨_,L,hof0,hof1⟩,am,M,aq⟩ ⟨Res.all [an d [.sl gd o0 sz cr,.w 25,.w (↑sz),.str (aF ((ys.drop 8).take 16)),.q (n8 big (ys.drop 24)),.q (n8 big (ys.drop 32)),.q (n8 big (ys.drop 40)),.q (n8 big (ys.drop 48)),.w (n4 big (ys.drop 56)),.w (n4 big (ys.drop 60)),.w (↑q8),.w (n4 big (ys.drop 68)),.f 133 (.pt z),.pt z] 181,Dj],_,_,_,_,_,_,vs++ [.f 160 (.pt d)],gsj,_,_,.inr (.inl hjg),by omega,by omega,hDn,Hn⟩
    ·
     refine ae (mg y Z (wc Z (wf bw Z (wv Z (ab ir Z) (wv Z (H3.ld 1 Z aP Z (.q (n8 big (ys.drop 48))) Z) (wv Z (ao (c:=n8 big (ys.drop 48)- 18446744073709551616) db ip Z (by rw[IntKind.wrap_i64];omega)) (wv Z (bj Z Z (decide_eq_true (by omega))) (wn (aB Z (ad ?_))))))))))
     have S:=H3.drew
     refine aU MX (fun w'=>w'.cell? ⟨d,7,none⟩=some (.q (n8 big (ys.drop 48)))) (tr 0 8 (Pl.take 10 (Pl.run 8 (Pl.take 9 (Pl.take 11 Pl.done))))) (by kernel_rfl) (S.c 1 7 Z Z) (qm (.i of) Z L (qm (.pt d) Z y (qy Z (ah Z) (qy Z (ab (o:=0) bw Z) (qy Z (ab (o:=1) ir Z) (qh Z (fun hS=>ag aP Z hS) (qy Z (aJ (v:= .q (n8 big (ys.drop 48))) TC43 Z) (qy Z (yb (ps:= [(0,.i of),(1,.string _),(2,.f 43 (.q (n8 big (ys.drop 48))))]) (cells:=#[.i of,.string (⟨#[105,110,118,97,108,105,100,32,115,101,99,116,105,111,110,32,102,105,108,101,32,115,105,122,101]⟩),.f 43 (.q (n8 big (ys.drop 48)))]) Z (by kernel_rfl)) (qa (.np) Z Z (qr Z (fq S (vs:= [.i of,.string _,.f 43 (.q (n8 big (ys.drop 48)))]) Z Z (fun U cu b9 V=> ?_))))))))))))
     refine⟨V.c 2 7 Z Z,fun _=>trivial,qy Z (aJ (v:= .pt U) jx Z) (qa (.f 154 (.pt U)) Z Z (pn (rq ?_)))⟩
     have hst:dk true big xs raw s=none:=j5 hys (.inr (show _≤n8 big (ys.drop 48) by omega))
     exact hR hst _ _ _ _ Z Z V.keep
   ·
    refine ae (mg y Z (wc Z (wf bw Z (wv Z (ab it Z) (wv Z (H3.ld 1 Z aP Z (.q (n8 big (ys.drop 40))) Z) (wv Z (ao (c:=n8 big (ys.drop 40)- 18446744073709551616) db ip Z (by rw[IntKind.wrap_i64];omega)) (wv Z (bj Z Z (decide_eq_true (by omega))) (wn (aB Z (ad ?_))))))))))
    have X:=H3.drew
    refine aU MX (fun w'=>w'.cell? ⟨d,6,none⟩=some (.q (n8 big (ys.drop 40)))) (tr 0 8 (Pl.take 10 (Pl.run 8 (Pl.take 9 (Pl.take 11 Pl.done))))) (by kernel_rfl) (X.c 1 6 Z Z) (qm (.i of) Z L (qm (.pt d) Z y (qy Z (ah Z) (qy Z (ab (o:=0) bw Z) (qy Z (ab (o:=1) it Z) (qh Z (fun hS=>ag aP Z hS) (qy Z (aJ (v:= .q (n8 big (ys.drop 40))) TC43 Z) (qy Z (yb (ps:= [(0,.i of),(1,.string _),(2,.f 43 (.q (n8 big (ys.drop 40))))]) (cells:=#[.i of,.string (⟨#[105,110,118,97,108,105,100,32,115,101,99,116,105,111,110,32,111,102,102,115,101,116]⟩),.f 43 (.q (n8 big (ys.drop 40)))]) Z (by kernel_rfl)) (qa (.np) Z Z (qr Z (fq X (vs:= [.i of,.string _,.f 43 (.q (n8 big (ys.drop 40)))]) Z Z (fun Y cv bB af=> ?_))))))))))))
    refine⟨af.c 2 6 Z Z,fun _=>trivial,qy Z (aJ (v:= .pt Y) jx Z) (qa (.f 154 (.pt Y)) Z Z (pn (rq ?_)))⟩
    have hst:dk true big xs raw s=none:=j5 hys (.inl (show _≤n8 big (ys.drop 40) by omega))
    exact hR hst _ _ _ _ Z Z af.keep
 ·
  refine ae (mp gq 0 Z (wv Z (aJ (v:= .pt gq) fu Z) (mg h16 Z (wE [.pt g1,.f 109 (.pt gq),.e (bo big)] CK62 Z Z ?_))))
  have bC:=H6.blk_ne (i:=0) (j:=1) rfl rfl (by decide)
  have J:=H6.ge (i:=0) rfl
  have K:=H6.ge (i:=1) rfl
  have hws:=H6.keep.size
  refine aa (lb (ys:= []) (i:=0) (A:=some ⟨gd,o0,none⟩) (xs:=raw) big _ (H6.g 1 Z) (H6.g 0 Z) (hG.keep H6.keep fun k hk=>hk.elim) hscr (by omega) (hRaw _ (H6.g 5 Z)) hrby (fun a ha=>by injection ha with ha;subst ha;exact⟨D.live _ _ (H6.g 5 Z) hDg,H6.sepD (i:=0) (j:=5) Z Z (by decide) hDg,H6.sepD (i:=1) (j:=5) Z Z (by decide) hDg⟩) (by omega) (by omega) (by omega) (by omega) (by omega)) ?_
  rintro e cw ⟨T,ev,rfl,aA⟩
  have b8:=H6.ky 1 0 rfl rfl aA (fun _ h=>h)
  refine⟨_,Z,av (.f T ev) Z (wn (sr (mv (.f T ev) Z (wv Z ((nn true bI Z (.inr ⟨_,_,Z⟩))) (wn (aB Z (sr (mv (.f T ev) Z (av (.np) Z (av (.f T ev) Z ?_))))))))))⟩
  refine wn (rq (aI (a7 ?_)))
  have hst:dk true big xs raw s=none:=if_pos (show raw.length<72 by omega)
  exact hR hst _ _ _ _ Z Z b8.keep
theorem xK:dA Tryd.prog 121 [.w 0,.w 0,.w 0,.w 0,.w 0,.w 0,.w 0,.e 0,.ns,.ns,.np,.np]:=bO (by kernel_rfl)
theorem xH:dA Tryd.prog 150 [.e 0,.e 0,.e 0,.e 0]:=bO (by kernel_rfl)
theorem sa:na Tryd.prog 150 4 5 1:=ox (by kernel_rfl)
theorem CK49:bg Tryd.prog 49:=aL (by kernel_rfl)
theorem y8{big:Bool}{l:List Int}:n4 big (l.take 4)=n4 big l:=cE (m:=4) (k:=0) (by omega)
theorem iB{a:Int}(h0:0≤a)(h1:a<4294967296):IntKind.u32.wrap (BitVec.ofInt IntKind.u32.bits a &&& ~~~ BitVec.ofInt IntKind.u32.bits 1).toNat=a / 2*2:=by
 have e: ∀x:BitVec 32,(x &&& ~~~ 1#32)=(x>>>1)<<<1:=fun x=>by
  apply BitVec.eq_of_getLsbD_eq
  intro i hi
  rw[BitVec.getLsbD_and,BitVec.getLsbD_not,BitVec.getLsbD_shiftLeft,BitVec.getLsbD_ushiftRight]
  cases i with
  |zero=>simp
  |succ i=>simp[hi,BitVec.getLsbD_one,Nat.add_comm]
 show IntKind.u32.wrap ((BitVec.ofInt 32 a &&& ~~~ 1#32).toNat:Int)=a / 2*2
 rw[e,BitVec.toNat_shiftLeft,BitVec.toNat_ushiftRight,fN (k:=32) h0 (by omega),Nat.shiftLeft_eq,Nat.shiftRight_eq_div_pow,dm (by omega) (by omega)]
 omega
section
variable{wd big:Bool}{xs ds raw:List Int}{s s':PSt}{sz k of q5:Nat}
theorem t5(h:ds.length<8):gf wd big xs (k+1) ds s=none:=by simp only[gf];rw[if_pos h]
theorem pU(hsz:(n4 big (ds.drop 4)).toNat=sz)(h:sz<8∨ds.length<sz):gf wd big xs (k+1) ds s=none:=by
 subst hsz;simp only[gf];split
 · rfl
 · first|rfl|rw[if_pos h]
theorem pT(hsz:(n4 big (ds.drop 4)).toNat=sz)(hst:cU wd big xs (n4 big ds) (ds.take sz) s=none):gf wd big xs (k+1) ds s=none:=by
 subst hsz;simp only[gf,hst];split
 · rfl
 · split<;>rfl
theorem km(h8: ¬ds.length<8)(hsz:(n4 big (ds.drop 4)).toNat=sz)(h: ¬(sz<8∨ds.length<sz))(hst:cU wd big xs (n4 big ds) (ds.take sz) s=some s'):gf wd big xs (k+1) ds s=gf wd big xs k (ds.drop sz) s':=by
 subst hsz;simp only[gf,hst];rw[if_neg h8,if_neg h]
theorem tA(h:xs.length<4):iM xs=none:=by unfold iM;rw[if_pos h]
theorem t9(hm:kQ xs=none):iM xs=none:=by
 unfold iM;split
 · rfl
 · rw[hm]
theorem pY(h:xs.length<28):iM xs=none:=by
 unfold iM;split
 · rfl
 · split
   · rfl
   · first|rfl|rw[if_pos h]
theorem t8(hm:kQ xs=some big)(hof:of=if fM (n4 big (xs.drop 0))then 32 else 28)(hq:(n4 big (xs.drop 20)).toNat=q5)(ha:jk xs of q5=none):iM xs=none:=by
 subst hof;subst hq;unfold iM;split
 · rfl
 · simp only[hm,ha];split<;>rfl
theorem fc(hm:kQ xs=some big)(hof:of=if fM (n4 big (xs.drop 0))then 32 else 28)(hq:(n4 big (xs.drop 20)).toNat=q5)(ha:jk xs of q5=some ds)(hk:(n4 big (xs.drop 16)).toNat=k)(hr:gf (fM (n4 big (xs.drop 0))) big xs k ds ⟨[],[],none,none⟩=none):iM xs=none:=by
 subst hof;subst hq;subst hk;unfold iM;split
 · rfl
 · simp only[hm,ha,hr];split<;>rfl
theorem t7(hl: ¬xs.length<28)(hm:kQ xs=some big)(hof:of=if fM (n4 big (xs.drop 0))then 32 else 28)(hq:(n4 big (xs.drop 20)).toNat=q5)(ha:jk xs of q5=some ds)(hk:(n4 big (xs.drop 16)).toNat=k)(hr:gf (fM (n4 big (xs.drop 0))) big xs k ds ⟨[],[],none,none⟩=some s):
 iM xs=some ⟨fun k=>n4 big (xs.drop (4*k)),big,s.loads,s.secs,s.syms.getD [],s.ind.getD []⟩:=by
 subst hof;subst hq;subst hk;unfold iM;rw[if_neg (by omega)];simp only[hm];rw[if_neg hl];simp only[ha,hr]
end
theorem yt{w w':World}{rb fb gd o m:Nat}{big:Bool}{h:Nat → Int}{ds:List Int}{s:PSt}(H:Mid w rb fb big h gd o m ds s w')(hb: ∀i,0≤h i∧h i≤4294967295):MFile w' rb fb ⟨h,big,s.loads,s.secs,s.syms.getD [],s.ind.getD []⟩:=by
 obtain⟨D,AL,AS,nL,cL,nS,cS,vs,gs,sy,dy,hDg,hnL,hnS,hD,H⟩:=H
 have hd:=H.g 3 rfl
 obtain⟨A1,c1,e1,r1,_⟩:=aw (H.g 1 rfl)
 obtain⟨A2,c2,e2,r2,_⟩:=aw (H.g 2 rfl)
 cases e1;cases e2
 refine⟨AL,AS,nL,cL,nS,cS,vs,gs,sy,dy,hb,H.g 0 Z,r1,by omega,(hD.ld _ hd).1,(hD.ld _ hd).2,r2,by omega,(hD.sc _ hd).1,(hD.sc _ hd).2,?_,?_⟩
 · rcases hD.sy with⟨rfl,e⟩|⟨gy,n,c,A,x0,x1,x2,x3,x4,x5,x6,ss,rfl,e,hn,hl,hf⟩
   · exact .inl ⟨Z,by rw[e];rfl⟩
   · exact .inr ⟨gy,n,c,A,x0,x1,x2,x3,x4,x5,x6,Z,(hf _ hd).1,by rw[e];exact(hf _ hd).2,by omega⟩
 · rcases hD.dy with⟨rfl,e⟩|⟨gy,n,c,a,z,q,ss,rfl,e,hn,hf⟩
   · exact .inl ⟨Z,by rw[e];rfl⟩
   · exact .inr ⟨gy,n,c,a,z,q,Z,(hf _ hd).1,by rw[e];exact(hf _ hd).2,hn⟩
theorem A0{rb N C fb gd o0 o m sz cr nL cL nS cS:Nat}{A AL AS:Option Addr}{i0 p0 of ii cmd:Int}{xs raw ds:List Int}{a0 a1:Addr}{h:Nat → Int}{vs:List Value}{gs:List Nat}{sy dy:Value}{D:Res}{s:PSt}(big:Bool)(w w1:World)(hrb:(an rb [.s A N C,.i i0,.i p0] 190).φ w)(hG:Glob 224 w a0 a1)(hNC:N≤C)(hN:N<10485760)(hr:RI .u8 w A N xs)(hby:Byt xs)(hA: ∀a,A=some a → a.block<w.heap.size)(hw4:4≤w.heap.size)
 (hDg:D.F gd) (hnL:nL+sz+m≤10485760) (hnS:nS+sz+m≤10485760) (hD:NFD D.φ rb s gd o m ds vs gs sy dy) (hRaw: ∀w,D.φ w → RI .u8 w (some ⟨gd,o0,none⟩) sz raw) (hrby:Byt raw) (hrl:raw.length=sz) (hscr:sz≤cr) (hsz8:8≤sz) (hof0:0≤of) (hof1:of+ ↑m≤10485800)
 (H1:St w aR (wX fb big h AL AS nL cL nS cS vs gs sy dy D) w1) {ρ:dv} (h0:ρ 0= .f 109 (.pt rb)) (h4:ρ 4= .pt fb) (h12:ρ 12= .i of) (h13:ρ 13= .sl gd o m m) (h16:ρ 16= .e (bo big)) (h17:ρ 17= .w ii) (h18:ρ 18= .w cmd) (h19:ρ 19= .w ↑sz) (h20:ρ 20= .sl gd o0 sz cr) (h21:ρ 21= .np) (hraw0:n4 big raw=cmd) (hraw4:n4 big (raw.drop 4)= ↑sz):
 W Tryd.prog 931 ((eF 3 (Tryd.f41.body.getD .skip)).getD .skip) (fun e ρ' w'=>(e= .normal∧∃s',cU (fM (h 0)) big xs cmd raw s=some s'∧Fr ρ' rb fb gd o m big ii∧Mid w rb fb big h gd o m ds s' w')∨(e= .ret∧cU (fM (h 0)) big xs cmd raw s=none∧ρ' 2= .np∧(∃T v,ρ' 3= .f T v)∧Keep w aR w')) ρ w1:=by
 by_cases hc2147483676:cmd=2147483676
 · subst hc2147483676
   exact y7 big w w1 hrb hG hNC hN hr hby hA hw4 hDg hnL hnS hD hRaw hrby hrl hscr hsz8 hof0 hof1 H1 h0 h4 h12 h13 h16 h17 h18 h19 h20 h21 (fun s' ρ' w' a b c=> .inl ⟨Z,s',by rw[←a];exact by unfold cU;rw[if_pos Z],b,c⟩) (fun a ρ' w' T v r2 r3 hk=> .inr ⟨Z,by rw[←a];exact by unfold cU;rw[if_pos Z],r2,⟨T,v,r3⟩,hk⟩)
 by_cases hc12:cmd=12
 · subst hc12
   exact Ao big w w1 hrb hG hNC hN hr hby hA hw4 hDg hnL hnS hD hRaw hrby hrl hscr hsz8 hof0 hof1 H1 h0 h4 h12 h13 h16 h17 h18 h19 h20 h21 (fun s' ρ' w' a b c=> .inl ⟨Z,s',by rw[←a];exact by unfold cU;rw[if_neg (by decide),if_pos Z],b,c⟩) (fun a ρ' w' T v r2 r3 hk=> .inr ⟨Z,by rw[←a];exact by unfold cU;rw[if_neg (by decide),if_pos Z],r2,⟨T,v,r3⟩,hk⟩)
 by_cases hc2:cmd=2
 · subst hc2
   by_cases hw:h 0=4277009103
   · have hwd:fM (h 0)=true:=decide_eq_true hw
     exact wS big w w1 hrb hG hNC hN hr hby hA hw4 hDg hnL hnS hD hRaw hrby hrl hscr hsz8 hof0 hof1 H1 h0 h4 h12 h13 h16 h17 h18 h19 h20 h21 hw (fun s' ρ' w' a b c=> .inl ⟨Z,s',by rw[←a];exact by rw[hwd];unfold cU;rw[if_neg (by decide),if_neg (by decide),if_pos Z],b,c⟩) (fun a ρ' w' T v r2 r3 hk=> .inr ⟨Z,by rw[←a];exact by rw[hwd];unfold cU;rw[if_neg (by decide),if_neg (by decide),if_pos Z],r2,⟨T,v,r3⟩,hk⟩)
   · have hwd:fM (h 0)=false:=decide_eq_false hw
     exact wT big w w1 hrb hG hNC hN hr hby hA hw4 hDg hnL hnS hD hRaw hrby hrl hscr hsz8 hof0 hof1 H1 h0 h4 h12 h13 h16 h17 h18 h19 h20 h21 hw (fun s' ρ' w' a b c=> .inl ⟨Z,s',by rw[←a];exact by rw[hwd];unfold cU;rw[if_neg (by decide),if_neg (by decide),if_pos Z],b,c⟩) (fun a ρ' w' T v r2 r3 hk=> .inr ⟨Z,by rw[←a];exact by rw[hwd];unfold cU;rw[if_neg (by decide),if_neg (by decide),if_pos Z],r2,⟨T,v,r3⟩,hk⟩)
 by_cases hc11:cmd=11
 · subst hc11
   exact Az big w w1 hrb hG hNC hN hr hby hA hw4 hDg hnL hnS hD hRaw hrby hrl hscr hsz8 hof0 hof1 H1 h0 h4 h12 h13 h16 h17 h18 h19 h20 h21 (fun s' ρ' w' a b c=> .inl ⟨Z,s',by rw[←a];exact by unfold cU;rw[if_neg (by decide),if_neg (by decide),if_neg (by decide),if_pos Z],b,c⟩) (fun a ρ' w' T v r2 r3 hk=> .inr ⟨Z,by rw[←a];exact by unfold cU;rw[if_neg (by decide),if_neg (by decide),if_neg (by decide),if_pos Z],r2,⟨T,v,r3⟩,hk⟩)
 by_cases hc1:cmd=1
 · subst hc1
   exact wV big w w1 hrb hG hNC hN hr hby hA hw4 hDg hnL hnS hD hRaw hrby hrl hscr hsz8 hof0 hof1 H1 h0 h4 h12 h13 h16 h17 h18 h19 h20 h21 hraw0 hraw4 (fun s' ρ' w' a b c=> .inl ⟨Z,s',by rw[←a];exact by unfold cU;rw[if_neg (by decide),if_neg (by decide),if_neg (by decide),if_neg (by decide),if_pos Z],b,c⟩) (fun a ρ' w' T v r2 r3 hk=> .inr ⟨Z,by rw[←a];exact by unfold cU;rw[if_neg (by decide),if_neg (by decide),if_neg (by decide),if_neg (by decide),if_pos Z],r2,⟨T,v,r3⟩,hk⟩)
 by_cases hc25:cmd=25
 · subst hc25
   exact wU big w w1 hrb hG hNC hN hr hby hA hw4 hDg hnL hnS hD hRaw hrby hrl hscr hsz8 hof0 hof1 H1 h0 h4 h12 h13 h16 h17 h18 h19 h20 h21 hraw0 hraw4 (fun s' ρ' w' a b c=> .inl ⟨Z,s',by rw[←a];exact by unfold cU;rw[if_neg (by decide),if_neg (by decide),if_neg (by decide),if_neg (by decide),if_neg (by decide),if_pos Z],b,c⟩) (fun a ρ' w' T v r2 r3 hk=> .inr ⟨Z,by rw[←a];exact by unfold cU;rw[if_neg (by decide),if_neg (by decide),if_neg (by decide),if_neg (by decide),if_neg (by decide),if_pos Z],r2,⟨T,v,r3⟩,hk⟩)
 exact wW big w w1 hrb hG hNC hN hr hby hA hw4 hDg hnL hnS hD hRaw hrby hrl hscr hsz8 hof0 hof1 H1 h0 h4 h12 h13 h16 h17 h18 h19 h20 h21 hc2147483676 hc12 hc2 hc11 hc1 hc25 (fun s' ρ' w' a b c=> .inl ⟨Z,s',by rw[←a];exact by unfold cU;rw[if_neg hc2147483676,if_neg hc12,if_neg hc2,if_neg hc11,if_neg hc1,if_neg hc25],b,c⟩) (fun a ρ' w' T v r2 r3 hk=> .inr ⟨Z,by rw[←a];exact by unfold cU;rw[if_neg hc2147483676,if_neg hc12,if_neg hc2,if_neg hc11,if_neg hc1,if_neg hc25],r2,⟨T,v,r3⟩,hk⟩)
def iL(o cap l:Nat):Nat:=if cap=l then o else o+l
theorem vc{P:Program}{ρ:dv}{w:World}{d:Option Tmp}{ty:TypeId}{pos:String}{af:Array Edge}{gd:Option (Nat × Bool)}{t e:Nat}{x lo:Operand}{g o len l:Nat}(ht:cJ P t e 1)(hx:ev ρ x= .sl g o len len)(hl:pL ρ (some lo) 0 l)(h1:l≤len):
 Yv P ⟨d,.slice t x (some lo) none none,ty,pos,af,gd⟩ ρ w (.sl g (iL o len l) (len- l) (len- l)) w:=by
 have:=eo (P:=P) (w:=w) (d:=d) (ty:=ty) (pos:=pos) (af:=af) (gd:=gd) ht hx hl (bu _ _) h1 (Nat.le_refl _)
 unfold dC at this
 unfold iL
 split at this
 · rename_i h;rw[if_pos h];exact this
 · rename_i h;rw[if_neg h];simpa[cH]using this
theorem RI.drop_o{k:IntKind}{w:World}{g o n:Nat}{xs:List Int}(h:RI k w (some ⟨g,o,none⟩) n xs)(l:Nat):RI k w (some ⟨g,iL o n l,none⟩) (n- l) (xs.drop l):=by
 unfold iL
 split
 · rename_i e;subst e;exact⟨by rw[List.length_drop,h.1],fun h0=>absurd h0 (by omega)⟩
 · exact h.drop_ l
theorem wY{big:Bool}{l:List Int}{m:Nat}(h:4≤m):n4 big (l.take m)=n4 big l:=cE (m:=m) (k:=0) (by omega)
theorem y9{big:Bool}{l:List Int}{m:Nat}(h:8≤m):n4 big ((l.take m).drop 4)=n4 big (l.drop 4):=cE (by omega)
theorem wl{rb N C:Nat}{A:Option Addr}{i0 p0:Int}{xs:List Int}{a0 a1:Addr}(w:World)(hrb:(an rb [.s A N C,.i i0,.i p0] 190).φ w)(hG:Glob 224 w a0 a1)(hNC:N≤C)(hN:N<10485760)(hr:RI .u8 w A N xs)(hby:Byt xs)(hA: ∀a,A=some a → a.block<w.heap.size)(hw4:4≤w.heap.size):
 Calls Tryd.prog 41 #[.f 109 (.pt rb)] w fun e w'=>(∃(I:MF) (fb:Nat),iM xs=some I∧e= .returned (.tuple #[.pt fb,.n])∧MFile w' rb fb I∧Keep w aR w')∨(iM xs=none∧(∃T v,e= .returned (.tuple #[.np,.f T v]))∧Keep w aR w'):=by
 refine aA (args:= [.f 109 (.pt rb)]) Tryd.func41 Z Z Z ?_
 have H0:=St.nil w aR
 refine sr (av (.np) Z (av (.n) Z (wn (sr (wm Z (aN H0 xK (fun g1 w2 cl H3=>ap g1 0 Z (wn (sr (mv (.f 109 (.pt rb)) Z (wE [.f 109 (.pt rb),.i 0,.i 9223372036854775807] wA Z Z ?_)))))))))))
 refine aa (yr (off:=0) (nn:=9223372036854775807) _ (by decide) (by decide) (by decide) (by decide)) ?_
 rintro e w5 ⟨sb,rfl,hsbg,b4⟩
 have H6:=H3.cal0 b4
 refine⟨_,Z,ap sb 0 Z (wn (sr (wm Z (aN H6 xH (fun g7 w8 cm H9=>wn (ad (ad ?_)))))))⟩
 by_cases V:4≤N
 ·
  obtain⟨ys,hys⟩: ∃q,q=xs.take 4:=⟨_,rfl⟩
  have hbys:Byt ys:=by rw[hys];exact hby.take _
  have hlys:ys.length=4:=by rw[hys,List.length_take,hr.1];omega
  have E:=H9.drew
  refine aU MX (fun w'=>True) (tr 0 5 (Pl.run 5 (tr 6 5 Pl.done))) (by kernel_rfl) (trivial) (qm (.f 109 (.pt rb)) Z Z (qt Z (fun _ hS=>(bP (o:=0) (l:=0) (h:=4) sa Z (bh (i:=0) Z (by omega) Z) (bu _ _) (by omega) (by omega):Yv _ _ _ _ (.sl g7 0 4 4) _)) (qy Z (qU (vs:= [.f 109 (.pt rb)]) Z Z) (qy Z (bp Z (eH _ _)) (qm (.f 109 (.pt rb)) Z Z (qr Z (ei (args:= [.sl g7 0 4 4,.i 0]) Z (co _ _) kG Z ?_)))))))
  have hge:=E.ge (i:=0) rfl
  have hrbl:=aG hrb
  refine aa (jh (off:=0) (q:=4) _ (bV hrb E.keep) (hG.keep E.keep fun k hk=>hk.elim) (by omega) (E.g 0 Z) (by omega) (by omega) (hr.keep0 E.keep) (fun a ha=>by have:=hA a ha;omega) hNC (ob:=0) (m:=4) (Nat.le_refl _) (by omega) (by omega) (by simp only[Nat.min_def];split<;>omega)) ?_
  rintro e cs ⟨rfl,Q⟩
  rw[show([.e 0,.e 0,.e 0,.e 0]:List Value).take 0++nums .u8 ((xs.drop 0).take 4)++([.e 0,.e 0,.e 0,.e 0]:List Value).drop (0+4)=nums .u8 ys by rw[hys];simp]at Q
  have aK:=E.kx 0 rfl Q (fun _ h=>h)
  refine⟨_,Z,⟨trivial,fun _=>trivial,qm (.tuple #[.i (↑4),.n]) Z Z (qy Z (aE (v:= .i (↑4)) Z Z) (qy Z (aE (v:= .n) Z Z) (qa (.i (↑4)) Z Z (qa (.n) Z Z (pn (sr (mv (.n) Z (wv Z ((nn false bI Z (.inl Z))) (wn ?_)))))))))⟩⟩
  refine al Z (wk (sr (wv Z ((bP (o:=0) (l:=0) (h:=4) sa Z (bh (i:=0) Z (by omega) Z) (bu _ _) (by omega) (by omega):Yv _ _ _ _ (.sl g7 0 4 4) _)) (wE [.e 1,.sl g7 0 4 4] bW Z Z (aa (aM true _ (aj (aK.g 0 Z) hlys) hbys (Nat.le_refl 4) (Nat.le_refl 4)) ?_)))))
  rintro e ct ⟨rfl,aL⟩
  have aP:=aK.cal0 aL
  refine⟨_,Z,av (.w (n4 true ys)) Z (wn (sr (wv Z ((bP (o:=0) (l:=0) (h:=4) sa Z (bh (i:=0) Z (by omega) Z) (bu _ _) (by omega) (by omega):Yv _ _ _ _ (.sl g7 0 4 4) _)) (wE [.e 0,.sl g7 0 4 4] bW Z Z (aa (aM false _ (aj (aP.g 0 Z) hlys) hbys (Nat.le_refl 4) (Nat.le_refl 4)) ?_)))))⟩
  rintro e cu ⟨rfl,aV⟩
  have W:=aP.cal0 aV
  refine⟨_,Z,av (.w (n4 false ys)) Z (wn ?_)⟩
  refine eh (fun ρ w'=> ∃(big:Bool) (fb sb:Nat) (v0:Value),4≤N∧kQ xs=some big∧ρ 0= .f 109 (.pt rb)∧ρ 4= .pt fb∧ρ 5= .pt sb∧St w aR [an fb [v0,.w 0,.w 0,.w 0,.w 0,.w 0,.w 0,.e (bo big),.ns,.ns,.np,.np] 121,an sb [.f 109 (.pt rb),.i 0,.i 0,.i (9223372036854775807+0),.i 9223372036854775807] 195] w') ?_ ?_
  ·
   refine a6 (ad ?_)
   have m1:=ba true hbys
   have m2:=ba false hbys
   have y1:n4 true ys=n4 true xs:=by rw[hys,y8]
   have y2:n4 false ys=n4 false xs:=by rw[hys,y8]
   by_cases hm1:n4 true ys / 2=2138504551
   ·
    refine ae (mv (.w (n4 true ys)) Z (wv Z (fi (k:= .u32) (c:=n4 true ys / 2*2) Z Z (iB (ba true hbys).1 (ba true hbys).2)) (wv Z (aT Z Z (beq_iff_eq.2 (by omega))) (av (.b true) Z (wn (aB Z (sr (mp g1 0 Z (wc Z (wf iz Z (ws ?_)))))))))))
    refine es W 2 7 (.e 1) Z jL (fun cv b5=> ?_)
    refine wn (ae (mp g1 0 Z (mv (.w (n4 true ys)) Z (wc Z (wf dE Z (wf i1 Z (ws (es b5 2 0 (.w (n4 true ys)) Z ax (fun cw b6=> ?_)))))))))
    refine bk (ak (ac ?_))
    exact⟨true,g1,sb,_,V,by unfold kQ;rw[if_pos (by rw[←y1];exact hm1)],Z,Z,Z,b6.re [2,1]⟩
   ·
    by_cases hm2:n4 false ys / 2=2138504551
    ·
     refine ae (mv (.w (n4 true ys)) Z (wv Z (fi (k:= .u32) (c:=n4 true ys / 2*2) Z Z (iB (ba true hbys).1 (ba true hbys).2)) (wv Z (aT Z Z (beq_eq_false_iff_ne.2 (by omega))) (av (.b false) Z (wn (al Z (sr (mv (.w (n4 false ys)) Z (wv Z (fi (k:= .u32) (c:=n4 false ys / 2*2) Z Z (iB (ba false hbys).1 (ba false hbys).2)) (wv Z (aT Z Z (beq_iff_eq.2 (by omega))) (av (.b true) Z ?_)))))))))))
     refine wn (aB Z (sr (mp g1 0 Z (wc Z (wf iz Z (ws (es W 2 7 (.e 0) Z jL (fun cx b7=> ?_))))))))
     refine wn (ae (mp g1 0 Z (mv (.w (n4 false ys)) Z (wc Z (wf dE Z (wf i1 Z (ws (es b7 2 0 (.w (n4 false ys)) Z ax (fun cy b8=> ?_)))))))))
     refine bk (ak (ac ?_))
     exact⟨false,g1,sb,_,V,by unfold kQ;rw[if_neg (by rw[←y1];exact hm1),if_pos (by rw[←y2];exact hm2)],Z,Z,Z,b8.re [2,1]⟩
    ·
     refine ae (mv (.w (n4 true ys)) Z (wv Z (fi (k:= .u32) (c:=n4 true ys / 2*2) Z Z (iB (ba true hbys).1 (ba true hbys).2)) (wv Z (aT Z Z (beq_eq_false_iff_ne.2 (by omega))) (av (.b false) Z (wn (al Z (sr (mv (.w (n4 false ys)) Z (wv Z (fi (k:= .u32) (c:=n4 false ys / 2*2) Z Z (iB (ba false hbys).1 (ba false hbys).2)) (wv Z (aT Z Z (beq_eq_false_iff_ne.2 (by omega))) (av (.b false) Z ?_)))))))))))
     refine wn (al Z (sr (wv Z (yz [.i 0,.string (⟨#[105,110,118,97,108,105,100,32,109,97,103,105,99,32,110,117,109,98,101,114]⟩),.n] Z (by kernel_rfl)) (wm Z (fq W (vs:= [.i 0,.string _,.n]) Z Z (fun X cz b9 bB=>wv Z (aJ (v:= .pt X) jx Z) (av (.np) Z (av (.f 154 (.pt X)) Z (wn (aY (aI ?_)))))))))))
     refine a7 ?_
     exact⟨.inr Z,_,r2 (.np) (.f 154 (.pt X)) Z _ _,.inr ⟨t9 (by unfold kQ;rw[if_neg (by rw[←y1];exact hm1),if_neg (by rw[←y2];exact hm2)]),⟨_,_,Z⟩,bB.keep⟩⟩
  ·
   rintro c0 w2 ⟨big,fb,sb,v0,V,hmag,g0,g4,g5,H2⟩
   refine ad (ad ?_)
   by_cases hN28:28≤N
   ·
    obtain⟨ys,hys⟩: ∃q,q=(xs.drop 0).take 28:=⟨_,rfl⟩
    obtain⟨h,hh⟩: ∃h:Nat → Int,h=fun k=>n4 big (xs.drop (4*k)):=⟨_,rfl⟩
    have hhb: ∀k,0≤h k∧h k<4294967296:=fun k=>by rw[hh];exact ba big (hby.drop _)
    have f0:n4 big (ys.drop 0)=h 0:=by rw[hys,cE (by omega),hh];rfl
    have f1:n4 big (ys.drop 4)=h 1:=by rw[hys,cE (by omega),hh];rfl
    have f2:n4 big (ys.drop 8)=h 2:=by rw[hys,cE (by omega),hh];rfl
    have f3:n4 big (ys.drop 12)=h 3:=by rw[hys,cE (by omega),hh];rfl
    have f4:n4 big (ys.drop 16)=h 4:=by rw[hys,cE (by omega),hh];rfl
    have f5:n4 big (ys.drop 20)=h 5:=by rw[hys,cE (by omega),hh];rfl
    have f6:n4 big (ys.drop 24)=h 6:=by rw[hys,cE (by omega),hh];rfl
    have d:=H2.drew
    refine aU MX (fun w'=>w'.cell? ⟨fb,7,none⟩=some (.e (bo big))) (tr 0 9 (Pl.run 9 (Pl.take 10 Pl.done))) (by kernel_rfl) (d.c 0 7 Z Z) (qm (.pt fb) Z g4 (qy Z (ah Z) (qy Z (ab (o:=0) dE Z) (qm (.pt sb) Z g5 (qy Z (aJ (v:= .pt sb) lE Z) (qm (.pt fb) Z g4 (qy Z (ah Z) (qy Z (ab (o:=0) iz Z) (qh Z (fun hS=>ag jL Z hS) (qr Z (ec CK49 (args:= [.pt fb,.f 133 (.pt sb),.e (bo big)]) Z ?_)))))))))))
    have aW:=d.ge (i:=0) rfl
    have bc:=d.ge (i:=1) rfl
    have hrbl:=aG hrb
    have hws:=d.keep.size
    have hfs:=d.blk_ne (i:=0) (j:=1) rfl rfl (by decide)
    refine aa (li (ys:=ys) (so:=0) big _ (d.g 0 Z) (d.g 1 Z) (bV hrb d.keep) (by omega) (by omega) (by omega) (by omega) (by omega) (hG.keep d.keep fun k hk=>hk.elim) hNC (by omega) (hr.keep0 d.keep) hby (fun a ha=>by have:=hA a ha;omega) (by omega) (by omega) (by omega) (by omega) (by omega) hys) ?_
    rintro e c1 ⟨rfl,R⟩
    rw[f0,f1,f2,f3,f4,f5,f6]at R
    have M:=d.ky 0 0 rfl rfl R (fun _ h=>h)
    refine⟨_,Z,⟨M.c 0 7 Z Z,fun _=>trivial,qa (.n) Z Z (pn (sr (mv (.n) Z (wv Z ((nn false bI Z (.inl Z))) (wn (al Z (wk (sr (ai 28 Z ?_)))))))))⟩⟩
    refine wn ?_
    refine eh (fun ρ w'=> ∃of:Nat,(of=if fM (n4 big (xs.drop 0))then 32 else 28)∧ρ 0= .f 109 (.pt rb)∧ρ 4= .pt fb∧ρ 12= .i ↑of∧St w aR [an fb [.w (h 0),.w (h 1),.w (h 2),.w (h 3),.w (h 4),.w (h 5),.w (h 6),.e (bo big),.ns,.ns,.np,.np] 121] w') ?_ ?_
    ·
     refine sr (mg g4 Z (wc Z (wf dE Z (wf i1 Z (wv Z (M.ld 0 Z ax Z (.w (h 0)) Z) (wv Z (iQ Z Z) (wn ?_)))))))
     refine bK Z (fun u=> ?_) (fun u=> ?_)
     ·
      simp only[bx]at u
      have Y:fM (n4 big (xs.drop 0))=true:=by have e:n4 big (xs.drop 0)=h 0:=by {rw[hh]};rw[e];unfold fM;simpa using u
      refine ae (ai 32 Z (wn ?_))
      exact⟨32,by rw[Y];rfl,g0,g4,Z,M.re [0]⟩
     ·
      simp only[bx]at u
      have Y:fM (n4 big (xs.drop 0))=false:=by have e:n4 big (xs.drop 0)=h 0:=by {rw[hh]};rw[e];unfold fM;simpa using u
      refine wk ?_
      exact⟨28,by rw[Y];rfl,g0,g4,Z,M.re [0]⟩
    ·
     rintro c2 w4 ⟨of,hof,g0,g4,x,H4⟩
     have cn:of≤32:=by rw[hof];split<;>omega
     obtain⟨q4,bC⟩: ∃q:Nat,(q:Int)=h 4:=⟨(h 4).toNat,Int.toNat_of_nonneg (hhb 4).1⟩
     have cp:=(hhb 4).2
     have y:(n4 big (xs.drop 16)).toNat=q4:=by have e:n4 big (xs.drop 16)=h 4:=by {rw[hh]};omega
     obtain⟨q5,bd⟩: ∃q:Nat,(q:Int)=h 5:=⟨(h 5).toNat,Int.toNat_of_nonneg (hhb 5).1⟩
     have cq:=(hhb 5).2
     have t:(n4 big (xs.drop 20)).toNat=q5:=by have e:n4 big (xs.drop 20)=h 5:=by {rw[hh]};omega
     refine ad ?_
     by_cases hf5:q5=0∨of+q5≤N
     ·
      obtain⟨z,B⟩: ∃q,q=(xs.drop of).take q5:=⟨_,rfl⟩
      have H:jk xs of q5=some z:=by rw[B];exact da (by rw[hr.1];exact hf5)
      refine ae (mg g0 Z (mg g4 Z (wc Z (wf dE Z (wf mX Z (wv Z (H4.ld 0 Z ax Z (.w (h 5)) Z) (wv Z (ao (c:= ↑q5) bv be Z (by rw[bd];exact aC (hhb 5).1 (by have:=(hhb 5).2;omega))) (mg x Z (wE [.f 109 (.pt rb),.q (↑q5),.i (↑of)] kH Z Z (aa (jM (n:=q5) (off:=of) _ (bV hrb H4.keep) (hG.keep H4.keep fun k hk=>hk.elim) hNC hN (hr.keep0 H4.keep) (fun a ha=>Nat.lt_of_lt_of_le (hA a ha) H4.keep.size) (Nat.le_trans hw4 H4.keep.size) (by omega) hf5) ?_))))))))))
      rintro e c3 ⟨gd,rfl,hgd,S⟩
      rw[←B]at S
      have bf:=H4.cal0 S
      refine⟨_,Z,mv (.tuple #[.sl gd 0 q5 q5,.n]) Z (we (.sl gd 0 q5 q5) Z Z (we (.n) Z Z (eL gd 0 q5 q5 Z (av (.n) Z (wn (ad (sr (mv (.n) Z (wv Z ((nn false bI Z (.inl Z))) (wn ?_))))))))))⟩
      refine al Z (wk (sr (mg g4 Z (wc Z (wf dE Z (wf mY Z (wv Z (bf.ld 1 Z ax Z (.w (h 4)) Z) (wv Z (ao (c:= ↑q4) bv be Z (by rw[bC];exact aC (hhb 4).1 (by have:=(hhb 4).2;omega))) (wE [.q 16,.q (↑q4)] BP Z Z (aa (rl _ (by omega)) ?_))))))))))
      rintro e c4 ⟨kk,rfl,hkk,bg⟩
      have bD:=bf.cal0 bg
      refine⟨_,Z,ai (↑kk) Z (wn (ad (sr (mi (↑kk) Z (wv Z (bj Z Z (decide_eq_false (by omega))) (wn (al Z (wk (sr (mg g4 Z ?_))))))))))⟩
      refine mi (↑kk) Z (wm Z (bJ bD (n:=0) (m:=kk) l4 lF Z Z Z Z Z (by omega) (by omega) (by omega) (fun af c5 bE bF=>wc Z (wf dR Z (ws (es bF 2 8 (.sl af 0 0 kk) Z eX (fun bi bl=> ?_)))))))
      refine wn (sr (mg g4 Z (wc Z (wf iz Z (wv Z (bl.ld 2 Z jL Z (.e (bo big)) Z) (av (.e (bo big)) Z (wn (ad (sr (av (.w 0) Z (wn ?_)))))))))))
      refine a6 ?_
      have Ha:=bl.rowOf (i:=0) (cap:=kk) (sz:=1) rfl (by rw[List.length_replicate,Nat.mul_one]) (by simp only[maxLen];omega)
      have Hb:St w aR [an fb [.w (h 0),.w (h 1),.w (h 2),.w (h 3),.w (h 4),.w (h 5),.w (h 6),.e (bo big),.sl af 0 0 kk,.ns,.np,.np] 121,ay 123 1 (.sl af 0 0 kk) 0 ([]),ay 125 1 (.ns) 0 (cK []),Res.all [an gd (nums .u8 z) 5]] bi:=((Ha.addRow 125 1).reAll [2] [3,1,0]).re [1,2,3,0]
      have bm:z.length=q5:=by rw[B,List.length_take,List.length_drop,hr.1];omega
      have bG:Mid w rb fb big h gd 0 q5 z ⟨[],[],none,none⟩ bi:=⟨Res.all [an gd (nums .u8 z) 5],_,_,0,_,0,_,[],[],_,_,.inl rfl,by omega,by omega,⟨fun w hd=>aj (aS.1 hd (an gd (nums .u8 z) 5) (by simp)) bm,fun w _=>⟨rfl,by simp⟩,fun w _=>⟨rfl,by simp⟩,.inl ⟨rfl,rfl⟩,.inl ⟨rfl,rfl⟩⟩,Hb⟩
      have O:n4 big (xs.drop 0)=h 0:=by rw[hh]
      refine bA (fun ρ w'=> ∃k:Nat,∃o:Nat,∃m:Nat,∃ds:List Int,∃s:PSt,Fr ρ rb fb gd o m big ↑k∧k≤q4∧Byt ds∧ds.length=m∧gf (fM (h 0)) big xs q4 z ⟨[],[],none,none⟩=gf (fM (h 0)) big xs (q4- k) ds s∧Mid w rb fb big h gd o m ds s w') (fun ρ _=>q4+1- nv (ρ 17)) (⟨0,0,q5,z,⟨[],[],none,none⟩,⟨g0,g4,⟨_,x,by omega,by omega⟩,Z,Z,Z⟩,by omega,by rw[B];exact(hby.drop _).take _,bm,Z,bG⟩) ?_
      rintro bH w5 ⟨k,o,m,ds,s,⟨g0,g4,⟨r,x,bL,bM⟩,F,au,aw⟩,hk,hdb,hdl,hrun,az⟩
      rw[←O]at hrun
      obtain⟨D,AL,AS,nL,cL,nS,cS,vs,gs,sy,dy,hDg,hnL,hnS,hD,H5⟩:=az
      have H6:St w aR [an fb [.w (h 0),.w (h 1),.w (h 2),.w (h 3),.w (h 4),.w (h 5),.w (h 6),.e (bo big),.s AL nL cL,.s AS nS cS,sy,dy] 121,ay 123 1 (.s AL nL cL) nL vs,ay 125 1 (.s AS nS cS) nS (cK gs),D] w5:=H5
      refine ad (ad ?_)
      have c6:=hhb 4
      refine ae (mg aw Z (mg g4 Z (wc Z (wf dE Z (wf mY Z (wv Z (H6.ld 0 Z ax Z (.w (h 4)) Z) (wv Z (bR Z Z) (wn ?_))))))))
      refine bK Z (fun J=> ?_) (fun J=> ?_)
      ·
       simp only[bx]at J
       refine wk (ad (a6 (ad (sr (mg F Z (wv Z (aO bU Z) (wv Z (bR Z Z) (wn ?_))))))))
       refine bK Z (fun K=> ?_) (fun K=> ?_)
       ·
        simp only[bx]at K
        refine sr (mg x Z (wv Z (yz [.i r,.string (⟨#[99,111,109,109,97,110,100,32,98,108,111,99,107,32,116,111,111,32,115,109,97,108,108]⟩),.n] Z (by kernel_rfl)) (wm Z (fq H6 (vs:= [.i r,.string _,.n]) Z Z (fun a2 c7 bN bO=>wv Z (aJ (v:= .pt a2) jx Z) (av (.np) Z (av (.f 154 (.pt a2)) Z (wn (rq (aI (a7 ?_)))))))))))
        refine a7 (aI (a7 ?_))
        exact⟨.inr Z,_,r2 (.np) (.f 154 (.pt a2)) Z _ _,.inr ⟨fc hmag hof t H y (by rw[hrun,show q4- k=(q4-(k+1))+1 by omega];exact t5 (by omega)),⟨_,_,Z⟩,bO.keep⟩⟩
       ·
        simp only[bx]at K
        refine wk (ad ?_)
        obtain⟨cmd,hcmd⟩: ∃c,c=n4 big ds:=⟨_,rfl⟩
        have bQ:=ba big (hdb.drop 4)
        obtain⟨sz,hsz⟩: ∃q:Nat,(q:Int)=n4 big (ds.drop 4):=⟨(n4 big (ds.drop 4)).toNat,Int.toNat_of_nonneg bQ.1⟩
        have hszn:(n4 big (ds.drop 4)).toNat=sz:=by omega
        have bn:=H6.drew
        refine aU MX (fun w'=>True) (tr 0 3 (tr 4 3 (Pl.run 3 (Pl.run 7 (Pl.take 8 (Pl.take 9 Pl.done)))))) (by kernel_rfl) (trivial) (qm (.e (bo big)) Z au (qm (.sl gd o m m) Z F (qt Z (fun _ hS=>(aq (l:=0) (h:=4) aZ Z (bs Z (by omega) Z) (bs Z (by omega) Z) (by omega) (by omega) (by omega) (by omega):Yv _ _ _ _ (.sl gd o 4 m) _)) (qm (.e (bo big)) Z au (qm (.sl gd o m m) Z F (qt Z (fun _ hS=>(aq (l:=4) (h:=8) aZ Z (bs Z (by omega) Z) (bs Z (by omega) Z) (by omega) (by omega) (by omega) (by omega):Yv _ _ _ _ (.sl gd (o+4) 4 (m- 4)) _)) (qr Z (ec bW (args:= [.e (bo big),.sl gd o 4 m]) Z (aa (by have h:=aM big _ ((hD.dat _ (bn.g 3 Z)).take (m:=4) (by omega)) (hdb.take 4) (Nat.le_refl 4) (c:=m) (by omega);rw[y8,←hcmd]at h;exact h) ?_)))))))))
        rintro e c8 ⟨rfl,br⟩
        have bt:=bn.cal0 br
        refine⟨_,Z,⟨trivial,fun _=>trivial,qr Z (ec bW (args:= [.e (bo big),.sl gd (o+4) 4 (m- 4)]) Z (aa (by have h:=aM big _ (((hD.dat _ (bt.g 3 Z)).drop_ 4).take (m:=4) (by omega)) ((hdb.drop 4).take 4) (Nat.le_refl 4) (c:=m- 4) (by omega);rw[y8,←hsz]at h;exact h) ?_))⟩⟩
        rintro e bS ⟨rfl,bw⟩
        have a3:=bt.cal0 bw
        refine⟨_,Z,⟨trivial,fun _=>trivial,qa (.w cmd) Z Z (qa (.w (↑sz)) Z Z (pn (ad (sr (mv (.w (↑sz)) Z (wv Z (bR Z Z) (mv (.b (decide ((↑sz:Int)<8))) Z ?_)))))))⟩⟩
        generalize U:(decide ((↑sz:Int)<8))=bb
        cases bb
        ·
         simp only[bx]at U
         refine aX Z Z (am (v:= .w (↑sz)) Z) (aX Z Z (am (v:= .sl gd o m m) F) (aX Z Z (aO bU Z) (aX Z Z (ao ej jR Z (dm (by omega) (by omega))) (aX Z Z (eM Z Z) (wv Z (aD (b:=false) (v:= .b (decide ((↑m:Int)< ↑sz))) Z Z) (wn ?_))))))
         refine bK Z (fun L=> ?_) (fun L=> ?_)
         ·
          simp only[bx]at L
          refine sr (mg x Z (wv Z (yz [.i r,.string (⟨#[105,110,118,97,108,105,100,32,99,111,109,109,97,110,100,32,98,108,111,99,107,32,115,105,122,101]⟩),.n] Z (by kernel_rfl)) (wm Z (fq a3 (vs:= [.i r,.string _,.n]) Z Z (fun a4 c9 bT bX=>wv Z (aJ (v:= .pt a4) jx Z) (av (.np) Z (av (.f 154 (.pt a4)) Z (wn (rq (aI (a7 ?_)))))))))))
          refine a7 (aI (a7 ?_))
          exact⟨.inr Z,_,r2 (.np) (.f 154 (.pt a4)) Z _ _,.inr ⟨fc hmag hof t H y (by rw[hrun,show q4- k=(q4-(k+1))+1 by omega];exact pU hszn (by omega)),⟨_,_,Z⟩,bX.keep⟩⟩
         ·
          simp only[bx]at L
          refine wk (sr (av (.ns) Z (wn (ad ?_))))
          have bY:=a3.drew
          refine aU MX (fun w'=>True) (tr 0 8 Pl.done) (by kernel_rfl) (trivial) (qm (.sl gd o m m) Z F (qm (.w (↑sz)) Z Z (qt Z (fun _ hS=>(aq (l:=0) (h:=sz) aZ Z (bs Z (by omega) Z) (bs Z (by omega) (Int.toNat_natCast _)) (by omega) (by omega) (by omega) (by omega):Yv _ _ _ _ (.sl gd o sz m) _)) (qm (.sl gd o m m) Z F (qm (.w (↑sz)) Z Z (qy Z (vc aZ Z (bh (i:= ↑sz) Z (by omega) (Int.toNat_natCast _)) (by omega)) (qa (.sl gd o sz m) Z Z (qa (.sl gd (iL o m sz) (m- sz) (m- sz)) Z Z (pn (sr (mg x Z ?_)))))))))))
          refine mv (.w (↑sz)) Z (wv Z (ao bv ip Z (a5 (by omega) (by omega))) (wv Z (aH (k:= .i64) (c:=r+ ↑sz) Z Z (a5 (by omega) (by omega))) (ai (r+ ↑sz) Z (wn (sr (av (.np) Z (wn ?_)))))))
          have Hc:St w aR (wX fb big h AL AS nL cL nS cS vs gs sy dy D) bS.drew:=bY.re [0,1,2,3]
          have bZ:NFD D.φ rb s gd (iL o m sz) (m- sz) (ds.drop sz) vs gs sy dy:=⟨fun w h=>(hD.dat w h).drop_o sz,hD.ld,hD.sc,hD.sy,hD.dy⟩
          have hRaw: ∀w,D.φ w → RI .u8 w (some ⟨gd,o,none⟩) sz (ds.take sz):=fun w h=>(hD.dat w h).take (by omega)
          refine xu (A0 (cr:=m) big w _ hrb hG hNC hN hr hby hA hw4 hDg (by omega) (by omega) bZ hRaw (hdb.take _) (by rw[List.length_take];omega) (by omega) (by omega) (show(0:Int)≤r+ ↑sz by omega) (show r+ ↑sz+ ↑(m- sz)≤10485800 by omega) Hc g0 g4 Z Z au aw Z Z Z Z (by rw[wY (by omega)];exact hcmd.symm) (by rw[y9 (by omega)];exact hsz.symm)) ?_
          rintro e cA w3 (⟨rfl,s3,hst,⟨k0,k4,⟨ca,cb,a8,a9⟩,cc,cd,ce⟩,hmid⟩|⟨rfl,hst,k2,⟨T,v,k3⟩,hkp⟩)
          ·
           rw[←O,hcmd]at hst
           refine ak (ac (ae (mg ce Z (wv Z (aH (k:= .u32) (c:= ↑k+1) Z Z (dm (by omega) (by omega))) (av (.w (↑k+1)) Z (wn ?_))))))
           exact⟨⟨k+1,iL o m sz,m- sz,ds.drop sz,s3,⟨k0,k4,⟨ca,cb,a8,a9⟩,cc,cd,Z⟩,by omega,hdb.drop _,by rw[List.length_drop];omega,by rw[←O,hrun,show q4- k=(q4-(k+1))+1 by omega];exact km (by omega) hszn (by omega) hst,hmid⟩,by show q4+1- nv (.w (↑k+1))<q4+1- nv (bH 17);rw[aw];simp only[nv];omega⟩
          ·
           rw[←O,hcmd]at hst
           refine aI (a7 (a7 (aI (a7 ?_))))
           exact⟨.inr Z,_,res2 Z (v:= .np) (v':= .f T v) (by exact k2) (by exact k3) _ _,.inr ⟨fc hmag hof t H y (by rw[hrun,show q4- k=(q4-(k+1))+1 by omega];exact pT hszn hst),⟨_,_,Z⟩,hkp⟩⟩
        ·
         simp only[bx]at U
         refine ck Z Z (ck Z Z (ck Z Z (ck Z Z (ck Z Z (wv Z (aD (b:=true) (v:= .b true) Z Z) (wn (aB Z (sr (mg x Z (wv Z (yz [.i r,.string (⟨#[105,110,118,97,108,105,100,32,99,111,109,109,97,110,100,32,98,108,111,99,107,32,115,105,122,101]⟩),.n] Z (by kernel_rfl)) (wm Z ?_)))))))))))
         refine fq a3 (vs:= [.i r,.string _,.n]) Z Z (fun aF cB cf cg=>wv Z (aJ (v:= .pt aF) jx Z) (av (.np) Z (av (.f 154 (.pt aF)) Z (wn (rq (aI (a7 (a7 (aI (a7 ?_))))))))))
         exact⟨.inr Z,_,r2 (.np) (.f 154 (.pt aF)) Z _ _,.inr ⟨fc hmag hof t H y (by rw[hrun,show q4- k=(q4-(k+1))+1 by omega];exact pU hszn (by omega)),⟨_,_,Z⟩,cg.keep⟩⟩
      ·
       simp only[bx]at J
       refine bq (ar (ar (aQ (ac (ad ?_)))))
       have hkq:k=q4:=by omega
       have hI:=t7 (by rw[hr.1];omega) hmag hof t H y (s:=s) (by rw[hrun,show q4- k=0 by omega];rfl)
       refine ae (mg g4 Z (ap fb 0 Z (av (.n) Z (wn (aY ?_)))))
       exact⟨.inr Z,_,r2 (.pt fb) (.n) Z _ _,.inl ⟨_,fb,hI,Z,by rw[←hh];exact yt (gd:=gd) (o:=o) (m:=m) (ds:=ds) ⟨D,AL,AS,nL,cL,nS,cS,vs,gs,sy,dy,hDg,hnL,hnS,hD,H6⟩ (fun i=>by have:=hhb i;omega),H6.keep⟩⟩
     ·
      refine ae (mg g0 Z (mg g4 Z (wc Z (wf dE Z (wf mX Z (wv Z (H4.ld 0 Z ax Z (.w (h 5)) Z) (wv Z (ao (c:= ↑q5) bv be Z (by rw[bd];exact aC (hhb 5).1 (by have:=(hhb 5).2;omega))) (mg x Z (wE [.f 109 (.pt rb),.q (↑q5),.i (↑of)] kH Z Z (aa (iI (n:=q5) (off:=of) _ (bV hrb H4.keep) (hG.keep H4.keep fun k hk=>hk.elim) hNC hN (hr.keep0 H4.keep) (fun a ha=>Nat.lt_of_lt_of_le (hA a ha) H4.keep.size) (Nat.le_trans hw4 H4.keep.size) (by omega) (by omega) (by omega) (by omega)) ?_))))))))))
      rintro e cC ⟨T,ev,rfl,bz⟩
      have ch:=H4.cal0 bz
      refine⟨_,Z,mv (.tuple #[.ns,.f T ev]) Z (we (.ns) Z Z (we (.f T ev) Z Z (av (.ns) Z (av (.f T ev) Z (wn (ad (sr (mv (.f T ev) Z (wv Z ((nn true bI Z (.inr ⟨_,_,Z⟩))) (wn ?_))))))))))⟩
      refine aB Z (sr (mv (.f T ev) Z (av (.np) Z (av (.f T ev) Z (wn (rq ?_))))))
      exact⟨.inr Z,_,r2 (.np) (.f T ev) Z _ _,.inr ⟨t8 hmag hof t (eR (by rw[hr.1];exact hf5)),⟨_,_,Z⟩,ch.keep⟩⟩
   ·
    have p:=H2.drew
    refine aU MX (fun w'=>w'.cell? ⟨fb,7,none⟩=some (.e (bo big))) (tr 0 9 (Pl.run 9 (Pl.take 10 Pl.done))) (by kernel_rfl) (p.c 0 7 Z Z) (qm (.pt fb) Z g4 (qy Z (ah Z) (qy Z (ab (o:=0) dE Z) (qm (.pt sb) Z g5 (qy Z (aJ (v:= .pt sb) lE Z) (qm (.pt fb) Z g4 (qy Z (ah Z) (qy Z (ab (o:=0) iz Z) (qh Z (fun hS=>ag jL Z hS) (qr Z (ec CK49 (args:= [.pt fb,.f 133 (.pt sb),.e (bo big)]) Z ?_)))))))))))
    have aW:=p.ge (i:=0) rfl
    have bc:=p.ge (i:=1) rfl
    have hrbl:=aG hrb
    have hws:=p.keep.size
    have hfs:=p.blk_ne (i:=0) (j:=1) rfl rfl (by decide)
    refine aa (kE (ys:= []) (so:=0) big _ (p.g 0 Z) (p.g 1 Z) (bV hrb p.keep) (by omega) (by omega) (by omega) (by omega) (by omega) (hG.keep p.keep fun k hk=>hk.elim) hNC (by omega) (hr.keep0 p.keep) hby (fun a ha=>by have:=hA a ha;omega) (by omega) (by omega) (by omega) (by omega) (by omega) (by omega)) ?_
    rintro e cD ⟨T,ev,rfl,b0⟩
    have b1:=p.ky 0 0 rfl rfl b0 (fun _ h=>h)
    refine⟨_,Z,⟨b1.c 0 7 Z Z,fun _=>trivial,qa (.f T ev) Z Z (pn (sr (mv (.f T ev) Z (wv Z ((nn true bI Z (.inr ⟨_,_,Z⟩))) (wn (aB Z (sr (mv (.f T ev) Z (av (.np) Z ?_)))))))))⟩⟩
    refine av (.f T ev) Z (wn (rq ?_))
    exact⟨.inr Z,_,r2 (.np) (.f T ev) Z _ _,.inr ⟨pY (by rw[hr.1];omega),⟨_,_,Z⟩,b1.keep⟩⟩
 ·
  by_cases hN0:N=0
  ·
   have P:=H9.drew
   refine aU MX (fun w'=>True) (tr 0 5 (Pl.run 5 (tr 6 5 Pl.done))) (by kernel_rfl) (trivial) (qm (.f 109 (.pt rb)) Z Z (qt Z (fun _ hS=>(bP (o:=0) (l:=0) (h:=4) sa Z (bh (i:=0) Z (by omega) Z) (bu _ _) (by omega) (by omega):Yv _ _ _ _ (.sl g7 0 4 4) _)) (qy Z (qU (vs:= [.f 109 (.pt rb)]) Z Z) (qy Z (bp Z (eH _ _)) (qm (.f 109 (.pt rb)) Z Z (qr Z (ei (args:= [.sl g7 0 4 4,.i 0]) Z (co _ _) kG Z ?_)))))))
   have hge:=P.ge (i:=0) rfl
   have hrbl:=aG hrb
   refine aa (gE (off:=0) _ (bV hrb P.keep) (hG.keep P.keep fun k hk=>hk.elim) (by omega) (by omega) _) ?_
   rintro e cF ⟨rfl,b2⟩
   have ci:=P.cal0 b2
   refine⟨_,Z,⟨trivial,fun _=>trivial,qm (.tuple #[.i 0,.f 224 (.pointer (some a1))]) Z Z (qy Z (aE (v:= .i 0) Z Z) (qy Z (aE (v:= .f 224 (.pointer (some a1))) Z Z) (qa (.i 0) Z Z (qa (.f 224 (.pointer (some a1))) Z Z (pn (sr (mv (.f 224 (.pointer (some a1))) Z (wv Z ((nn true bI Z (.inr ⟨_,_,Z⟩))) (wn ?_)))))))))⟩⟩
   refine aB Z (sr (mv (.f 224 (.pointer (some a1))) Z (av (.np) Z (av (.f 224 (.pointer (some a1))) Z (wn (rq ?_))))))
   exact⟨.inr Z,_,r2 (.np) (.f 224 (.pointer (some a1))) Z _ _,.inr ⟨tA (by rw[hr.1];omega),⟨_,_,Z⟩,ci.keep⟩⟩
  ·
   have G:=H9.drew
   refine aU MX (fun w'=>True) (tr 0 5 (Pl.run 5 (tr 6 5 Pl.done))) (by kernel_rfl) (trivial) (qm (.f 109 (.pt rb)) Z Z (qt Z (fun _ hS=>(bP (o:=0) (l:=0) (h:=4) sa Z (bh (i:=0) Z (by omega) Z) (bu _ _) (by omega) (by omega):Yv _ _ _ _ (.sl g7 0 4 4) _)) (qy Z (qU (vs:= [.f 109 (.pt rb)]) Z Z) (qy Z (bp Z (eH _ _)) (qm (.f 109 (.pt rb)) Z Z (qr Z (ei (args:= [.sl g7 0 4 4,.i 0]) Z (co _ _) kG Z ?_)))))))
   have hge:=G.ge (i:=0) rfl
   have hrbl:=aG hrb
   refine aa (fm (off:=0) (q:=N) _ (bV hrb G.keep) (hG.keep G.keep fun k hk=>hk.elim) (by omega) (G.g 0 Z) (by omega) (by omega) (hr.keep0 G.keep) (fun a ha=>by have:=hA a ha;omega) hNC (ob:=0) (m:=4) (Nat.le_refl _) (by omega) (by omega) (by simp only[Nat.min_def];split<;>omega)) ?_
   rintro e cG ⟨rfl,b3⟩
   have cj:=G.kx 0 rfl b3 (fun _ h=>h)
   refine⟨_,Z,⟨trivial,fun _=>trivial,qm (.tuple #[.i (↑N),.f 224 (.pointer (some a1))]) Z Z (qy Z (aE (v:= .i (↑N)) Z Z) (qy Z (aE (v:= .f 224 (.pointer (some a1))) Z Z) (qa (.i (↑N)) Z Z (qa (.f 224 (.pointer (some a1))) Z Z (pn (sr (mv (.f 224 (.pointer (some a1))) Z (wv Z ((nn true bI Z (.inr ⟨_,_,Z⟩))) (wn ?_)))))))))⟩⟩
   refine aB Z (sr (mv (.f 224 (.pointer (some a1))) Z (av (.np) Z (av (.f 224 (.pointer (some a1))) Z (wn (rq ?_))))))
   exact⟨.inr Z,_,r2 (.np) (.f 224 (.pointer (some a1))) Z _ _,.inr ⟨tA (by rw[hr.1];omega),⟨_,_,Z⟩,cj.keep⟩⟩
theorem CK41:bg Tryd.prog 41:=aL (by kernel_rfl)
theorem CK33:bg Tryd.prog 33:=aL (by kernel_rfl)
theorem CK35:bg Tryd.prog 35:=aL (by kernel_rfl)
theorem fQ{w w':World}(h:Keep w aR w'):St w aR [] w':=⟨h,by simp,by simp,.nil⟩
def MF.small(I:MF):Prop:=I.loads.length≤4294967295∧I.secs.length≤4294967295∧(∀s ∈ I.secs,s.rels.length≤4294967295)∧I.syms.length≤4294967295∧I.ind.length≤4294967295∧∀l ∈ I.loads,l.nums.length≤4294967295
theorem MFile.bound{w:World}{rb fb:Nat}{I:MF}(h:MFile w rb fb I):I.small:=by
 obtain⟨AL,AS,nL,cL,nS,cS,vs,gs,sy,dy,hq,hfb,hL,hnL,hlL,hLs,hS,hnS,hlS,hSs,hsy,hdy⟩:=h
 have h1:=hL.1
 have h2:=hS.1
 rw[List.length_map]at h2
 refine⟨by omega,by omega,fun s hs=> ?_,?_,?_,fun l hl=> ?_⟩
 · obtain⟨i,hi,e⟩:=List.mem_iff_getElem.1 hs
   have hg:i<gs.length:=by omega
   obtain⟨_,A,n,c,sb,so,sn,lim,_,hr,hn,_⟩:=hSs i gs[i] s (List.getElem?_eq_getElem hg) (by rw[List.getElem?_eq_getElem hi,e])
   have:=RV.len hr fC (by decide)
   omega
 · rcases hsy with⟨_,e⟩|⟨gy,n,c,A,x0,x1,x2,x3,x4,x5,x6,_,_,hr,hn⟩
   · rw[e];exact Nat.zero_le _
   · have:=RV.len hr Sym.len5 (by decide)
     omega
 · rcases hdy with⟨_,e⟩|⟨gy,n,c,a,z,q,_,_,hr,hn⟩
   · rw[e];exact Nat.zero_le _
   · have:=hr.1
     omega
 · obtain⟨i,hi,e⟩:=List.mem_iff_getElem.1 hl
   have hg:i<vs.length:=by omega
   have hm:=hLs i vs[i] l (List.getElem?_eq_getElem hg) (by rw[List.getElem?_eq_getElem hi,e])
   rcases hm with⟨A,n,c,xs,_,_,_,rfl⟩|⟨A,n,c,xs,gl,nm,ra,sp,q,_,_,_,_,_,rfl⟩|⟨A,n,c,xs,gl,nm,q,_,_,_,_,_,rfl⟩|⟨A,n,c,xs,gl,nm,_,_,_,_,rfl⟩|⟨A,n,c,xs,gl,sy,_,_,_,_,rfl⟩|⟨A,n,c,xs,gl,iy,q,_,_,_,_,_,rfl⟩<;>simp
theorem rF{N C:Nat}{A:Option Addr}{xs:List Int}{a0 a1:Addr}(w:World)(hG:Glob 224 w a0 a1)(hNC:N≤C)(hN:N<10485760)(hr:RI .u8 w A N xs)(hby:Byt xs)(hA: ∀a,A=some a → a.block<w.heap.size)(hw4:4≤w.heap.size):
 Calls Tryd.prog 33 #[.s A N C] w fun e w'=>(∃(I:MF) (fb rb:Nat),iM xs=some I∧e= .returned (.tuple #[.pt fb,.n])∧MFile w' rb fb I∧(an rb [.s A N C,.i 0,.i (-1)] 190).φ w'∧Keep w aR w')∨(iM xs=none∧(∃T v,e= .returned (.tuple #[.np,.f T v]))∧Keep w aR w'):=by
 refine aA (args:= [.s A N C]) Tryd.func33 Z Z Z ?_
 have H0:=St.nil w aR
 refine sr (av (.np) Z (av (.n) Z (wn (sr (mv (.s A N C) Z (wE [.s A N C] oR Z Z (aa (dB A N C _) ?_)))))))
 rintro e w2 ⟨rb,rfl,hgq,b⟩
 have H3:=H0.cal0 b
 refine⟨_,Z,wv Z (aJ (v:= .pt rb) fu Z) (wE [.f 109 (.pt rb)] CK41 Z Z (aa (wl _ (H3.g 0 Z) (hG.keep H3.keep fun k hk=>hk.elim) hNC hN (hr.keep0 H3.keep) hby (fun a ha=>Nat.lt_of_lt_of_le (hA a ha) H3.keep.size) (Nat.le_trans hw4 H3.keep.size)) ?_))⟩
 rintro e w4 (⟨I,fb,hI,rfl,hm,hk⟩|⟨hI,⟨T,v,rfl⟩,hk⟩)
 ·
  have HS:=fQ hk
  have H5:=H3.cal0 HS
  refine⟨_,Z,we (.pt fb) Z Z (we (.n) Z Z (ap fb 0 Z (av (.n) Z (wn (aY ?_)))))⟩
  exact⟨.inr Z,_,r2 (.pt fb) (.n) Z _ _,.inl ⟨I,fb,rb,hI,Z,hm,H5.g 0 Z,H5.keep⟩⟩
 ·
  have HS:=fQ hk
  have H6:=H3.cal0 HS
  refine⟨_,Z,we (.np) Z Z (we (.f T v) Z Z (av (.np) Z (av (.f T v) Z (wn (aY ?_)))))⟩
  exact⟨.inr Z,_,r2 (.np) (.f T v) Z _ _,.inr ⟨hI,⟨_,_,Z⟩,H6.keep⟩⟩
theorem ke{N C:Nat}{A:Option Addr}{xs:List Int}{a0 a1:Addr}(w:World)(hG:Glob 224 w a0 a1)(hNC:N≤C)(hN:N<10485760)(hr:RI .u8 w A N xs)(hby:Byt xs)(hw4:4≤w.heap.size):
 Calls Tryd.prog 13 #[.s A N C] w fun e w'=>(∃I:MF,iM xs=some I∧∃(c:List Value) (D:Res),e= .returned (.tuple #[.agg (List.toArray c),.b true])∧St w aR [D] w'∧I.small∧∀w,D.φ w → yu w c (I.told N xs))∨(iM xs=none∧e= .returned (.tuple #[.agg (List.toArray [.ns,.b false,.ns,.ns,.ns,.ns]),.b false])∧Keep w aR w'):=by
 refine aA (args:= [.s A N C]) Tryd.func13 Z Z Z ?_
 have H0:=St.nil w aR
 refine sr (wm Z (aN H0 jD (fun g1 w2 t H3=>av (.b false) Z (wn (sr (mv (.s A N C) Z (wE [.s A N C] mf Z Z (aa (fB _ (hr.keep0 H3.keep) hr.none0 (by omega)) ?_))))))))
 rintro e w5 ⟨v,rfl,h⟩
 obtain⟨A2,c2,rfl,hrv,d⟩:=aw (h.g 0 rfl)
 have H6:=H3.cal0 h
 refine⟨_,Z,wE [.s A2 N c2] CK33 Z Z ?_⟩
 have i:RI .u8 _ A2 N xs:=aV (H6.g 0 rfl)
 have j: ∀a,A2=some a → a.block<(w5).heap.size:=fun a ha=>(ay 5 1 (.s A2 N c2) N (nums .u8 xs)).live _ _ (H6.g 0 rfl) (by rw[ha];rfl)
 have u:=H6.keep.size
 refine aa (rF _ (hG.keep H6.keep fun k hk=>hk.elim) d hN i hby j (by omega)) ?_
 rintro e w7 (⟨I,fb,rb,hI,rfl,hm,hrb,hk⟩|⟨hI,⟨T,v,rfl⟩,hk⟩)
 ·
  have HS:=fQ hk
  have H8:=H6.cal0 HS
  refine⟨_,Z,mv (.tuple #[.pt fb,.n]) Z (we (.pt fb) Z Z (we (.n) Z Z (ap fb 0 Z (av (.n) Z (wn (ad (sr (mv (.n) Z (wv Z ((nn false bI Z (.inl Z))) (wn ?_))))))))))⟩
  refine al Z (wk (sr (mp fb 0 Z (wE [.pt fb] CK35 Z Z ?_))))
  have hks:=hk.size
  refine aa (xa _ hm hrb (hG.keep H8.keep fun k hk=>hk.elim) d hN (i.keep0 hk) (fun a ha=>Nat.lt_of_lt_of_le (j a ha) hk.size) (by omega)) ?_
  rintro e w9 ⟨c,D9,rfl,l,hf⟩
  obtain⟨vh,vl,vp,vs,vi,lx,ps,rfl,⟨_,_,_,e1,_⟩,⟨_,_,_,e2,_⟩,_,_,⟨_,_,_,e3,_⟩,_,_,⟨_,_,_,e4,_⟩,⟨_,_,_,e5,_⟩⟩:=hf _ (l.g 0 rfl)
  have q:=H8.cal0 l
  refine⟨_,Z,ws (bE q 2 (vs:= [vh,.b ((I.told N xs).big),vl,vp,vs,vi]) (m:=6) Z o1 Z Z Z (nl Z) (by simp[Value.oneCell',e1,e2,e3,e4,e5]) (cs':= [vh,.b ((I.told N xs).big),vl,vp,vs,vi]) Z (fun x o=> ?_))⟩
  refine av (.b true) Z (wn (aY ?_))
  exact⟨.inr Z,_,fy Z o7 (by exact Z) (o.g 2 Z) Z (by exact Z),.inl ⟨I,hI,_,D9,Z,o.re [0],hm.bound,hf⟩⟩
 ·
  have HS:=fQ hk
  have r:=H6.cal0 HS
  refine⟨_,Z,mv (.tuple #[.np,.f T v]) Z (we (.np) Z Z (we (.f T v) Z Z (av (.np) Z (av (.f T v) Z (wn (ad (sr (mv (.f T v) Z (wv Z ((nn true bI Z (.inr ⟨_,_,Z⟩))) (wn ?_))))))))))⟩
  refine aB Z (sr (wv Z (yb (ps:= []) (cells:=#[.ns,.b false,.ns,.ns,.ns,.ns]) Z (by kernel_rfl)) (ws (eN r 1 [.ns,.b false,.ns,.ns,.ns,.ns] Z o1 (fun y p=> ?_)))))
  refine av (.b false) Z (wn (rq ?_))
  exact⟨.inr Z,_,fy Z o7 (by exact Z) (p.g 1 Z) Z (by exact Z),.inr ⟨hI,Z,p.keep⟩⟩
end Go.Proofs.YtlndedfkgiafhaaDoor
