import Derived.Test.YtlndedfkgiafhaaDoorXAE
set_option linter.unusedVariables false
set_option linter.unusedSimpArgs false
set_option maxRecDepth 100000
set_option maxHeartbeats 4000000
namespace Go.Proofs.YtlndedfkgiafhaaDoor
open Go Go.RowKit Go.Proofs
theorem xM:Tryd.prog.underlying 117=some (.slice 125):=by kernel_rfl
theorem ya:(Tryd.prog.info? 125).map (fun i=>(i.zero,i.size,i.bytes))=some (some (.np),1,8):=by kernel_rfl
theorem wA:bg Tryd.prog 47:=aL (by kernel_rfl)
theorem qJ:FA 135 2 10:=fa (by kernel_rfl)
theorem oR:bg Tryd.prog 42:=aL (by kernel_rfl)
theorem TU130:Tryd.prog.underlying 130=some (.slice 192):=by kernel_rfl
theorem TB192:(Tryd.prog.info? 192).map (fun i=>(i.zero,i.size,i.bytes))=some (some (.agg #[.w 0,.w 0,.e 0,.e 0,.b false,.b false,.b false]),7,16):=by kernel_rfl
theorem xy:dA Tryd.prog 214 [.w 0,.w 0]:=bO (by kernel_rfl)
theorem fu:Tryd.prog.concrete 109=true:=by kernel_rfl
theorem CK70:bg Tryd.prog 70:=aL (by kernel_rfl)
theorem yq{rt:TypeId}{ru:Value}{off size:Nat}(w:World)(hof:off<4294967296)(hsz:size<18446744073709551616):
 Calls Tryd.prog 47 #[.f rt ru,.i ↑off,.i (IntKind.i64.wrap ↑size)] w fun e w'=> ∃(g:Nat) (lim sn:Int),e= .returned (.pt g)∧w.heap.size≤g∧(lim= ↑off+ ↑size∨(lim=9223372036854775807∧10485760≤size))∧lim≤9223372036854775807∧St w aR [an g [.f rt ru,.i ↑off,.i ↑off,.i lim,.i sn] 195] w':=by
 by_cases h1:size≤9223372036854775807
 · have hw:IntKind.i64.wrap (↑size:Int)= ↑size:=a5 (by omega) (by omega)
   rw[hw]
   by_cases h2:(off:Int)+ ↑size≤9223372036854775807
   · exact(yr w (by omega) (by omega) (by omega) h2).mono fun e w' ⟨g,h,hg,H⟩=>⟨g,_,_,h,hg,.inl (by omega),by omega,H⟩
   · exact(zR w (by omega) (by omega) (by omega) (by omega) (by omega)).mono fun e w' ⟨g,h,hg,H⟩=>⟨g,_,_,h,hg,.inr ⟨Z,by omega⟩,by omega,H⟩
 · have hw:IntKind.i64.wrap (↑size:Int)= ↑size- 18446744073709551616:=by rw[IntKind.wrap_i64];omega
   rw[hw]
   exact(NSR_c w (by omega) (by omega) (by omega) (by omega)).mono fun e w' ⟨g,h,hg,H⟩=>⟨g,_,_,h,hg,.inr ⟨Z,by omega⟩,by omega,H⟩
theorem pD{rb N C fb sh np cp ro nr base:Nat}{A Ap:Option Addr}{i p:Int}{xs0:List Int}{a0 a1:Addr}{h:Nat → Int}{lo sy dy:Value}{scs:List Value}{s:SecD}(big:Bool)(w:World)(h0:St w (Res.all [an fb [.w (h 0),.w (h 1),.w (h 2),.w (h 3),.w (h 4),.w (h 5),.w (h 6),.e (bo big),lo,.s Ap np cp,sy,dy] 121,ay 125 1 (.s Ap np cp) np scs,an sh [.str s.name,.str s.seg,.q s.addr,.q (↑s.size),.w (↑s.off),.w s.align,.w (↑ro),.w (↑nr),.w s.flags,.ns,.n,.np] 135]).F [an fb [.w (h 0),.w (h 1),.w (h 2),.w (h 3),.w (h 4),.w (h 5),.w (h 6),.e (bo big),lo,.s Ap np cp,sy,dy] 121,ay 125 1 (.s Ap np cp) np scs,an sh [.str s.name,.str s.seg,.q s.addr,.q (↑s.size),.w (↑s.off),.w s.align,.w (↑ro),.w (↑nr),.w s.flags,.ns,.n,.np] 135] w)(hB: ∀g,(Res.all [an fb [.w (h 0),.w (h 1),.w (h 2),.w (h 3),.w (h 4),.w (h 5),.w (h 6),.e (bo big),lo,.s Ap np cp,sy,dy] 121,ay 125 1 (.s Ap np cp) np scs,an sh [.str s.name,.str s.seg,.q s.addr,.q (↑s.size),.w (↑s.off),.w s.align,.w (↑ro),.w (↑nr),.w s.flags,.ns,.n,.np] 135]).F g → base≤g)(hrbb:rb<base)(hb4:4≤base)(hbw:base≤w.heap.size)(hA: ∀a,A=some a → a.block<base)(hrb:(an rb [.s A N C,.i i,.i p] 190).φ w)(hG:Glob 224 w a0 a1)(hNC:N≤C)(hN:N<10485760)(hr:RI .u8 w A N xs0)(hby:Byt xs0)(hs:s.fits)(hro:s.reloff= ↑ro)(hnr:s.nreloc= ↑nr)(hnp:np≤10485760)(hz:nr=0):
 Calls Tryd.prog 61 #[.pt fb,.pt sh,.f 109 (.pt rb)] w fun e w'=> ∃(Aq:Option Addr) (cq:Nat) (D:Res),e= .returned .n∧St w (Res.all [an fb [.w (h 0),.w (h 1),.w (h 2),.w (h 3),.w (h 4),.w (h 5),.w (h 6),.e (bo big),lo,.s Ap np cp,sy,dy] 121,ay 125 1 (.s Ap np cp) np scs,an sh [.str s.name,.str s.seg,.q s.addr,.q (↑s.size),.w (↑s.off),.w s.align,.w (↑ro),.w (↑nr),.w s.flags,.ns,.n,.np] 135]).F [D,an fb [.w (h 0),.w (h 1),.w (h 2),.w (h 3),.w (h 4),.w (h 5),.w (h 6),.e (bo big),lo,.s Aq (np+1) cq,sy,dy] 121,ay 125 1 (.s Aq (np+1) cq) (np+1) (scs++ [.pt sh])] w'∧∀w,D.φ w → MSec w rb sh {s with rels:= []}:=by
 obtain⟨ha,hsz,hof,hal,hro',hnr',hfl⟩:=hs
 have l:=hnr'
 have r:=hro'
 rw[hnr]at l
 rw[hro]at r
 refine aA (args:= [.pt fb,.pt sh,.f 109 (.pt rb)]) Tryd.func61 Z Z Z ?_
 have H0:St _ _ [an fb [.w (h 0),.w (h 1),.w (h 2),.w (h 3),.w (h 4),.w (h 5),.w (h 6),.e (bo big),lo,.s Ap np cp,sy,dy] 121,ay 125 1 (.s Ap np cp) np scs,an sh [.str s.name,.str s.seg,.q s.addr,.q (↑s.size),.w (↑s.off),.w s.align,.w (↑ro),.w (↑nr),.w s.flags,.ns,.n,.np] 135] _:=h0
 refine sr (av (.n) Z (wn (sr (mp fb 0 Z (mp fb 0 Z (wc Z (wf jJ Z (wv Z (H0.ld 0 Z la Z (.s Ap np cp) Z) (mp sh 0 Z (wm Z (eb H0 125 [.pt sh] Z (by kernel_rfl) (fun g1 w2 x H3=> ?_))))))))))))
 refine wm Z (bG H3 2 (m:=1) (news:= [.pt sh]) Z xM ya Z (by decide) Z Z Z (H3.news (i:=0) Z) (by simp[Value.oneCell']) (by simp only[maxLen];omega) (by omega) (fun v4 w5 H6=> ?_))
 obtain⟨A7,c8,rfl,_,_⟩:=aw (H6.g 2 rfl)
 refine wc Z (wf jJ Z (ws (es H6 1 9 (.s A7 (np+1) c8) Z la (fun y H9=> ?_))))
 refine wn (ad ?_)
 have d:=H9.drew
 refine aU MX (fun w'=>w'.cell? ⟨sh,4,none⟩=some (.w (↑s.off))∧w'.cell? ⟨sh,3,none⟩=some (.q (↑s.size))) (tr 0 14 (Pl.run 14 (Pl.take 15 (Pl.take 16 (Pl.run 17 Pl.done))))) (by kernel_rfl) (⟨d.c 3 4 Z Z,d.c 3 3 Z Z⟩) (qm (.pt sh) Z Z (qm (.f 109 (.pt rb)) Z Z (qm (.pt sh) Z Z (qy Z (ah Z) (qy Z (ab (o:=0) br Z) (qy Z (ab (o:=0) jH Z) (qh Z (fun hS=>ag ax Z hS.1) (qy Z (ao (c:= ↑s.off) bv ip Z (a5 (by omega) (by omega))) (qm (.pt sh) Z Z (qy Z (ah Z) (qy Z (ab (o:=0) br Z) ?_)))))))))))
 refine qy Z (ab (o:=0) iu Z) (qh Z (fun hS=>ag aP Z hS.2) (qy Z (ao (c:=IntKind.i64.wrap ↑s.size) db ip Z Z) (qr Z (ec wA (args:= [.f 109 (.pt rb),.i (↑s.off),.i (IntKind.i64.wrap ↑s.size)]) Z (aa (yq _ hof hsz) ?_)))))
 rintro e z ⟨gs,lim,sn,rfl,hgs,hlim,j,t⟩
 have k:=d.cal0 t
 refine⟨_,Z,⟨⟨k.c 4 4 Z Z,k.c 4 3 Z Z⟩,fun _=>trivial,qy Z (ah Z) (qy Z (ab (o:=0) jf Z) (dJ Z (es k 4 11 (.pt gs) Z hZ (fun B b=> ?_))))⟩⟩
 refine⟨⟨b.c 4 4 Z Z,b.c 4 3 Z Z⟩,fun _=>trivial,pn (sr (mp sh 0 Z (mp sh 0 Z (wc Z (wf jf Z (wv Z (b.ld 4 Z hZ Z (.pt gs) Z) (wv Z (aJ (v:= .pt gs) lE Z) (wc Z (wf qJ Z (ws ?_))))))))))⟩
 refine es b 4 10 (.f 133 (.pt gs)) Z jp (fun E u=> ?_)
 refine wn (ad (sr (mp sh 0 Z (wc Z (wf br Z (wf gK Z (wv Z (u.ld 4 Z ax Z (.w (↑nr)) Z) (wv Z (cQ Z Z (decide_eq_false (by omega))) (wn (al Z (wk ?_)))))))))))
 refine sr (av (.n) Z (wn (aY ?_)))
 exact⟨.inr Z,_,r1 (.n) Z _ _,⟨_,_,Res.all [an sh [.str s.name,.str s.seg,.q s.addr,.q (↑s.size),.w (↑s.off),.w s.align,.w (↑ro),.w (↑nr),.w s.flags,.ns,.f 133 (.pt gs),.pt gs] 135,an gs [.f 109 (.pt rb),.i (↑s.off),.i (↑s.off),.i lim,.i sn] 195],Z,u.reAll [4,0] [2,3],fun w hd=>by have hd:=aS.1 hd;exact⟨⟨ha,hsz,hof,hal,hro',hnr',hfl⟩,_,_,_,gs,_,_,_,by have:=hd (an sh [.str s.name,.str s.seg,.q s.addr,.q (↑s.size),.w (↑s.off),.w s.align,.w (↑ro),.w (↑nr),.w s.flags,.ns,.f 133 (.pt gs),.pt gs] 135) (by simp);rw[hro,hnr];exact this,RV.nil _ _ _,(Nat.zero_le _),hd (an gs [.f 109 (.pt rb),.i (↑s.off),.i (↑s.off),.i lim,.i sn] 195) (by simp),hlim,j⟩⟩⟩
theorem t6{rb N C fb sh np cp ro nr base:Nat}{A Ap:Option Addr}{i p:Int}{xs0:List Int}{a0 a1:Addr}{h:Nat → Int}{lo sy dy:Value}{scs:List Value}{s:SecD}(big:Bool)(w:World)(h0:St w (Res.all [an fb [.w (h 0),.w (h 1),.w (h 2),.w (h 3),.w (h 4),.w (h 5),.w (h 6),.e (bo big),lo,.s Ap np cp,sy,dy] 121,ay 125 1 (.s Ap np cp) np scs,an sh [.str s.name,.str s.seg,.q s.addr,.q (↑s.size),.w (↑s.off),.w s.align,.w (↑ro),.w (↑nr),.w s.flags,.ns,.n,.np] 135]).F [an fb [.w (h 0),.w (h 1),.w (h 2),.w (h 3),.w (h 4),.w (h 5),.w (h 6),.e (bo big),lo,.s Ap np cp,sy,dy] 121,ay 125 1 (.s Ap np cp) np scs,an sh [.str s.name,.str s.seg,.q s.addr,.q (↑s.size),.w (↑s.off),.w s.align,.w (↑ro),.w (↑nr),.w s.flags,.ns,.n,.np] 135] w)(hB: ∀g,(Res.all [an fb [.w (h 0),.w (h 1),.w (h 2),.w (h 3),.w (h 4),.w (h 5),.w (h 6),.e (bo big),lo,.s Ap np cp,sy,dy] 121,ay 125 1 (.s Ap np cp) np scs,an sh [.str s.name,.str s.seg,.q s.addr,.q (↑s.size),.w (↑s.off),.w s.align,.w (↑ro),.w (↑nr),.w s.flags,.ns,.n,.np] 135]).F g → base≤g)(hrbb:rb<base)(hb4:4≤base)(hbw:base≤w.heap.size)(hA: ∀a,A=some a → a.block<base)(hrb:(an rb [.s A N C,.i i,.i p] 190).φ w)(hG:Glob 224 w a0 a1)(hNC:N≤C)(hN:N<10485760)(hr:RI .u8 w A N xs0)(hby:Byt xs0)(hs:s.fits)(hro:s.reloff= ↑ro)(hnr:s.nreloc= ↑nr)(hnp:np≤10485760)(h0n:0<nr)(hfit:ro+nr*8≤N):
 Calls Tryd.prog 61 #[.pt fb,.pt sh,.f 109 (.pt rb)] w fun e w'=> ∃(Aq:Option Addr) (cq:Nat) (D:Res),e= .returned .n∧St w (Res.all [an fb [.w (h 0),.w (h 1),.w (h 2),.w (h 3),.w (h 4),.w (h 5),.w (h 6),.e (bo big),lo,.s Ap np cp,sy,dy] 121,ay 125 1 (.s Ap np cp) np scs,an sh [.str s.name,.str s.seg,.q s.addr,.q (↑s.size),.w (↑s.off),.w s.align,.w (↑ro),.w (↑nr),.w s.flags,.ns,.n,.np] 135]).F [D,an fb [.w (h 0),.w (h 1),.w (h 2),.w (h 3),.w (h 4),.w (h 5),.w (h 6),.e (bo big),lo,.s Aq (np+1) cq,sy,dy] 121,ay 125 1 (.s Aq (np+1) cq) (np+1) (scs++ [.pt sh])] w'∧∀w,D.φ w → MSec w rb sh {s with rels:=bT big nr ((xs0.drop ro).take (nr*8))}:=by
 obtain⟨ha,hsz,hof,hal,hro',hnr',hfl⟩:=hs
 have M:=hnr'
 have O:=hro'
 rw[hnr]at M
 rw[hro]at O
 refine aA (args:= [.pt fb,.pt sh,.f 109 (.pt rb)]) Tryd.func61 Z Z Z ?_
 have H0:St _ _ [an fb [.w (h 0),.w (h 1),.w (h 2),.w (h 3),.w (h 4),.w (h 5),.w (h 6),.e (bo big),lo,.s Ap np cp,sy,dy] 121,ay 125 1 (.s Ap np cp) np scs,an sh [.str s.name,.str s.seg,.q s.addr,.q (↑s.size),.w (↑s.off),.w s.align,.w (↑ro),.w (↑nr),.w s.flags,.ns,.n,.np] 135] _:=h0
 refine sr (av (.n) Z (wn (sr (mp fb 0 Z (mp fb 0 Z (wc Z (wf jJ Z (wv Z (H0.ld 0 Z la Z (.s Ap np cp) Z) (mp sh 0 Z (wm Z (eb H0 125 [.pt sh] Z (by kernel_rfl) (fun g1 w2 aX H3=> ?_))))))))))))
 refine wm Z (bG H3 2 (m:=1) (news:= [.pt sh]) Z xM ya Z (by decide) Z Z Z (H3.news (i:=0) Z) (by simp[Value.oneCell']) (by simp only[maxLen];omega) (by omega) (fun v4 w5 H6=> ?_))
 obtain⟨A7,c8,rfl,_,_⟩:=aw (H6.g 2 rfl)
 refine wc Z (wf jJ Z (ws (es H6 1 9 (.s A7 (np+1) c8) Z la (fun aZ H9=> ?_))))
 refine wn (ad ?_)
 have H:=H9.drew
 refine aU MX (fun w'=>w'.cell? ⟨sh,4,none⟩=some (.w (↑s.off))∧w'.cell? ⟨sh,3,none⟩=some (.q (↑s.size))) (tr 0 14 (Pl.run 14 (Pl.take 15 (Pl.take 16 (Pl.run 17 Pl.done))))) (by kernel_rfl) (⟨H.c 3 4 Z Z,H.c 3 3 Z Z⟩) (qm (.pt sh) Z Z (qm (.f 109 (.pt rb)) Z Z (qm (.pt sh) Z Z (qy Z (ah Z) (qy Z (ab (o:=0) br Z) (qy Z (ab (o:=0) jH Z) (qh Z (fun hS=>ag ax Z hS.1) (qy Z (ao (c:= ↑s.off) bv ip Z (a5 (by omega) (by omega))) (qm (.pt sh) Z Z (qy Z (ah Z) (qy Z (ab (o:=0) br Z) ?_)))))))))))
 refine qy Z (ab (o:=0) iu Z) (qh Z (fun hS=>ag aP Z hS.2) (qy Z (ao (c:=IntKind.i64.wrap ↑s.size) db ip Z Z) (qr Z (ec wA (args:= [.f 109 (.pt rb),.i (↑s.off),.i (IntKind.i64.wrap ↑s.size)]) Z (aa (yq _ hof hsz) ?_)))))
 rintro e bb ⟨gs,lim,sn,rfl,hgs,hlim,I,P⟩
 have J:=H.cal0 P
 refine⟨_,Z,⟨⟨J.c 4 4 Z Z,J.c 4 3 Z Z⟩,fun _=>trivial,qy Z (ah Z) (qy Z (ab (o:=0) jf Z) (dJ Z (es J 4 11 (.pt gs) Z hZ (fun bc y=> ?_))))⟩⟩
 refine⟨⟨y.c 4 4 Z Z,y.c 4 3 Z Z⟩,fun _=>trivial,pn (sr (mp sh 0 Z (mp sh 0 Z (wc Z (wf jf Z (wv Z (y.ld 4 Z hZ Z (.pt gs) Z) (wv Z (aJ (v:= .pt gs) lE Z) (wc Z (wf qJ Z (ws ?_))))))))))⟩
 refine es y 4 10 (.f 133 (.pt gs)) Z jp (fun bd Q=> ?_)
 refine wn (ad (sr (mp sh 0 Z (wc Z (wf br Z (wf gK Z (wv Z (Q.ld 4 Z ax Z (.w (↑nr)) Z) (wv Z (cQ Z Z (decide_eq_true (by omega))) (wn (aB Z (ad ?_)))))))))))
 have l:=Q.drew
 refine aU MX (fun w'=>w'.cell? ⟨sh,7,none⟩=some (.w (↑nr))∧w'.cell? ⟨sh,6,none⟩=some (.w (↑ro))) (tr 0 14 (Pl.run 14 (tr 15 5 Pl.done))) (by kernel_rfl) (⟨l.c 4 7 Z Z,l.c 4 6 Z Z⟩) (qm (.f 109 (.pt rb)) Z Z (qm (.pt sh) Z Z (qy Z (ah Z) (qy Z (ab (o:=0) br Z) (qy Z (ab (o:=0) gK Z) (qh Z (fun hS=>ag ax Z hS.1) (qy Z (ao (c:= ↑nr) bv be Z (aC (by omega) (by omega))) (qy Z (cM (k:= .u64) (c:= ↑(nr*8)) Z Z (by rw[aC (by omega) (by omega)];omega)) (qm (.pt sh) Z Z (qy Z (ah Z) (qy Z (ab (o:=0) br Z) ?_)))))))))))
 refine qy Z (ab (o:=0) kC Z) (qh Z (fun hS=>ag ax Z hS.2) (qy Z (ao (c:= ↑ro) bv ip Z (a5 (by omega) (by omega))) (qr Z (ec kH (args:= [.f 109 (.pt rb),.q (↑(nr*8)),.i (↑ro)]) Z (aa (jM (n:=nr*8) _ ((an _ _ _).stay _ _ hrb fun g hg=>l.keep.block g (by rw[show g=rb from hg];exact aG hrb) (by rw[show g=rb from hg];exact(fun h=>by have:=hB _ h;omega))) (hG.keep l.keep (fun k hk=>by have:=hB _ hk;omega)) hNC hN (hr.keep l.keep fun a ha h=>by have:=hB _ h;have:=hA a ha;omega) (fun a ha=>by have:=hA a ha;have:=l.keep.size;omega) (by have:=l.keep.size;omega) (by omega) (.inr hfit)) ?_)))))
 rintro e bf ⟨gd,rfl,hgd,R⟩
 have z:=l.cal0 R
 refine⟨_,Z,⟨⟨z.c 5 7 Z Z,z.c 5 6 Z Z⟩,fun _=>trivial,qm (.tuple #[.sl gd 0 (nr*8) (nr*8),.n]) Z Z (qy Z (aE (v:= .sl gd 0 (nr*8) (nr*8)) Z Z) (qy Z (aE (v:= .n) Z Z) (qa (.sl gd 0 (nr*8) (nr*8)) Z Z (qa (.n) Z Z (pn (ad (sr (mv (.n) Z (wv Z ((nn false bI Z (.inl Z))) ?_)))))))))⟩⟩
 refine wn (al Z (wk (sr (ms gd 0 (nr*8) (nr*8) Z (wE [.sl gd 0 (nr*8) (nr*8)] oR Z Z ?_)))))
 have bg:=z.keep.size
 refine aa (dB (some ⟨gd,0,none⟩) (nr*8) (nr*8) _) ?_
 rintro e bh ⟨gq,rfl,hgq,S⟩
 have K:=z.cal0 S
 refine⟨_,Z,ap gq 0 Z (wn (sr (mp fb 0 Z (wc Z (wf iz Z (wv Z (K.ld 4 Z jL Z (.e (bo big)) Z) (av (.e (bo big)) Z (wn (sr (mp sh 0 Z ?_))))))))))⟩
 refine mp sh 0 Z (wc Z (wf br Z (wf gK Z (wv Z (K.ld 6 Z ax Z (.w (↑nr)) Z) (wm Z (qf K TU130 TB192 Z Z (by omega) (by omega) (by omega) (by omega) (fun gr bj hgr T=> ?_)))))))
 rw[Int.toNat_natCast,show(Value.agg #[.w 0,.w 0,.e 0,.e 0,.b false,.b false,.b false]).cells=(Rel.cells Rel.zero).toArray from rfl,vG Rel.cells fC Rel.zero nr (by decide)]at T;rw[Int.toNat_natCast]
 refine wc Z (wf lD Z (ws (es T 7 9 (.sl gr 0 nr nr) Z oI (fun aM U=> ?_))))
 refine wn (sr (mp sh 0 Z (wc Z (wf lD Z (wv Z (U.ld 7 Z oI Z (.sl gr 0 nr nr) Z) (wv Z (aO zK Z) (mi 0 Z (wn (a6 ?_)))))))))
 have aR:St w (Res.all [an fb [.w (h 0),.w (h 1),.w (h 2),.w (h 3),.w (h 4),.w (h 5),.w (h 6),.e (bo big),lo,.s Ap np cp,sy,dy] 121,ay 125 1 (.s Ap np cp) np scs,an sh [.str s.name,.str s.seg,.q s.addr,.q (↑s.size),.w (↑s.off),.w s.align,.w (↑ro),.w (↑nr),.w s.flags,.ns,.n,.np] 135]).F [an gr (((bT big nr ((xs0.drop ro).take (nr*8))).take (0:Nat)++List.replicate (nr-(0:Nat)) Rel.zero).flatMap Rel.cells) 192,an gq [.sl gd 0 (nr*8) (nr*8),.i (↑(8*(0:Nat))),.i (-1)] 190,an gd (nums .u8 ((xs0.drop ro).take (nr*8))) 5,an gs [.f 109 (.pt rb),.i (↑s.off),.i (↑s.off),.i lim,.i sn] 195,an fb [.w (h 0),.w (h 1),.w (h 2),.w (h 3),.w (h 4),.w (h 5),.w (h 6),.e (bo big),lo,.s A7 (np+1) c8,sy,dy] 121,ay 125 1 (.s A7 (np+1) c8) (np+1) (scs++ [.pt sh]),an sh [.str s.name,.str s.seg,.q s.addr,.q (↑s.size),.w (↑s.off),.w s.align,.w (↑ro),.w (↑nr),.w s.flags,.sl gr 0 nr nr,.f 133 (.pt gs),.pt gs] 135] aM:=by have h:=U.re [0,1,2,3,5,6,7];simpa using h
 refine bA (fun ρ w'=> ∃j:Nat,ρ 0= .pt fb∧ρ 1= .pt sh∧ρ 9= .pt gq∧ρ 10= .e (bo big)∧ρ 96= .i ↑nr∧ρ 97= .i ↑j∧j≤nr∧St w (Res.all [an fb [.w (h 0),.w (h 1),.w (h 2),.w (h 3),.w (h 4),.w (h 5),.w (h 6),.e (bo big),lo,.s Ap np cp,sy,dy] 121,ay 125 1 (.s Ap np cp) np scs,an sh [.str s.name,.str s.seg,.q s.addr,.q (↑s.size),.w (↑s.off),.w s.align,.w (↑ro),.w (↑nr),.w s.flags,.ns,.n,.np] 135]).F [an gr (((bT big nr ((xs0.drop ro).take (nr*8))).take j++List.replicate (nr- j) Rel.zero).flatMap Rel.cells) 192,an gq [.sl gd 0 (nr*8) (nr*8),.i (↑(8*j)),.i (-1)] 190,an gd (nums .u8 ((xs0.drop ro).take (nr*8))) 5,an gs [.f 109 (.pt rb),.i (↑s.off),.i (↑s.off),.i lim,.i sn] 195,an fb [.w (h 0),.w (h 1),.w (h 2),.w (h 3),.w (h 4),.w (h 5),.w (h 6),.e (bo big),lo,.s A7 (np+1) c8,sy,dy] 121,ay 125 1 (.s A7 (np+1) c8) (np+1) (scs++ [.pt sh]),an sh [.str s.name,.str s.seg,.q s.addr,.q (↑s.size),.w (↑s.off),.w s.align,.w (↑ro),.w (↑nr),.w s.flags,.sl gr 0 nr nr,.f 133 (.pt gs),.pt gs] 135] w') (fun ρ _=>nr+1- nv (ρ 97)) (⟨0,Z,Z,Z,Z,Z,Z,by omega,aR⟩) ?_
 rintro ρ w3 ⟨j,L,B,E,u,G,r,hj,H3⟩
 refine sr (wv Z (bR r G) (wn (ad ?_)))
 refine bK Z (fun x=> ?_) (fun x=> ?_)
 ·
  simp only[bx]at x
  refine wk (ad (a6 (sr (mg r Z (ai (↑j) Z (wn (sr (mg B Z (wc Z (wf lD Z (wv Z (H3.ld 6 Z oI Z (.sl gr 0 nr nr) Z) ?_)))))))))))
  refine mi (↑j) Z (wv Z (bi j zJ Z Z Z (by omega) (Nat.zero_add _)) (ap gr (j*7) Z (wn (sr ?_))))
  have hjn:j<nr:=by omega
  obtain⟨ys,hys⟩: ∃ys,ys=(((xs0.drop ro).take (nr*8)).drop (8*j)).take 8:=⟨_,rfl⟩
  have hyl:((xs0.drop ro).take (nr*8)).length=nr*8:=by rw[List.length_take,List.length_drop,hr.1];omega
  have hbY:Byt ((xs0.drop ro).take (nr*8)):=(hby.drop _).take _
  have hbys:Byt ys:=by rw[hys];exact(hbY.drop _).take _
  obtain⟨bl,bm⟩:=ba big (hbys.drop 0)
  obtain⟨bn,bp⟩:=ba big (hbys.drop 4)
  have hgql:=H3.lt (i:=1) rfl
  have hgdl:=H3.lt (i:=2) rfl
  have hqd:gq≠gd:=H3.blk_ne (i:=1) (j:=2) rfl rfl (by decide)
  have bs:=H3.keep.size
  refine wm Z (aN H3 xy (fun V bt aV t=>wn (ad (sr (mg E Z (wv Z (aJ (v:= .pt gq) fu Z) (mg u Z (wE [.pt V,.f 109 (.pt gq),.e (bo big)] CK70 Z Z ?_))))))))
  have hws:=t.keep.size
  have hgl:=t.lt (i:=0) rfl
  have W:=t.lt (i:=3) rfl
  refine aa (lw (ys:=ys) (i:=8*j) (A:=some ⟨gd,0,none⟩) (xs:=(xs0.drop ro).take (nr*8)) big _ (t.g 0 Z) (t.g 2 Z) (hG.keep t.keep (fun k hk=>by have:=hB _ hk;omega)) (Nat.le_refl _) (by omega) (aj (t.g 3 Z) hyl) hbY (fun a ha=>by injection ha with ha;subst ha;exact⟨W,fun e=>hqd e.symm,by show gd≠V;omega⟩) (by omega) (by omega) (by omega) (by omega) (by omega) hys) ?_
  rintro e bu ⟨rfl,X⟩
  have d:=t.ky 0 1 rfl rfl X (fun _ h=>h)
  refine⟨_,Z,av (.n) Z (wn (sr (mv (.n) Z (wv Z ((nn false bI Z (.inl Z))) (wn (al Z (wk (ad ?_))))))))⟩
  rw[sU Rel.cells _ Rel.zero hjn]at d
  have hpl:(((bT big nr ((xs0.drop ro).take (nr*8))).take j).flatMap Rel.cells).length=j*7:=by rw[jT fC,List.length_take,f7,Nat.min_eq_left (by omega)]
  by_cases hsc:n4 big (ys.drop 0) / 2147483648%2=1
  ·
   refine ae (wf gH Z (wv Z (d.ld 0 Z ax Z (.w (n4 big (ys.drop 0))) Z) (wv Z (dG (k:= .u32) (c:=n4 big (ys.drop 0) / 2147483648%2*2147483648) Z Z (gU 31 Z (by omega) (by simp only[IntKind.bits];omega) (by decide) (by decide))) (wv Z (cg Z Z (bne_iff_ne.2 (by omega))) (wn (aB Z (sr (mp gr (j*7) Z (wf gH Z (wv Z (d.ld 0 Z ax Z (.w (n4 big (ys.drop 0))) Z) (wv Z (dG (k:= .u32) (c:=n4 big (ys.drop 0)%16777216) Z Z (c7 24 Z (by omega) (by simp only[IntKind.bits];omega) (by decide) (by decide) (by decide))) ?_)))))))))))
   refine wc Z (wv Z (ab mN Z) (ws (dx d 2 (k:=0) (cur':= [.w (n4 big (ys.drop 0)%16777216),.w 0,.e 0,.e 0,.b false,.b false,.b false]) (v:= .w (n4 big (ys.drop 0)%16777216)) Z hpl ax Z (nl Z) Z Z Z (fun bw Y=> ?_))))
   refine wn (sr (mp gr (j*7) Z (wf gH Z (wv Z (Y.ld 0 Z ax Z (.w (n4 big (ys.drop 0))) Z) (wv Z (dM (c:=n4 big (ys.drop 0) / 16777216) Z Z (by decide) (by rw[show(2:Int) ^ (min (24:Int).toNat IntKind.u32.bits)=16777216 from by decide,Int.fdiv_eq_ediv_of_nonneg _ (by decide)])) (wv Z (dG (k:= .u32) (c:=n4 big (ys.drop 0) / 16777216%16) Z Z (c7 4 Z (by omega) (by simp only[IntKind.bits];omega) (by decide) (by decide) (by decide))) (wv Z (ao bv lk Z (gM (by omega) (by omega))) (wc Z (wv Z (ab mL Z) (ws (dx Y 2 (k:=2) (cur':= [.w (n4 big (ys.drop 0)%16777216),.w 0,.e (n4 big (ys.drop 0) / 16777216%16),.e 0,.b false,.b false,.b false]) (v:= .e (n4 big (ys.drop 0) / 16777216%16)) Z hpl dq Z (nl Z) Z Z Z (fun bz af=> ?_))))))))))))
   refine wn (sr (mp gr (j*7) Z (wf gH Z (wv Z (af.ld 0 Z ax Z (.w (n4 big (ys.drop 0))) Z) (wv Z (dM (c:=n4 big (ys.drop 0) / 268435456) Z Z (by decide) (by rw[show(2:Int) ^ (min (28:Int).toNat IntKind.u32.bits)=268435456 from by decide,Int.fdiv_eq_ediv_of_nonneg _ (by decide)])) (wv Z (dG (k:= .u32) (c:=n4 big (ys.drop 0) / 268435456%4) Z Z (c7 2 Z (by omega) (by simp only[IntKind.bits];omega) (by decide) (by decide) (by decide))) (wv Z (ao bv lk Z (gM (by omega) (by omega))) (wc Z (wv Z (ab mK Z) (ws (dx af 2 (k:=3) (cur':= [.w (n4 big (ys.drop 0)%16777216),.w 0,.e (n4 big (ys.drop 0) / 16777216%16),.e (n4 big (ys.drop 0) / 268435456%4),.b false,.b false,.b false]) (v:= .e (n4 big (ys.drop 0) / 268435456%4)) Z hpl dq Z (nl Z) Z Z Z (fun b0 am=> ?_))))))))))))
   refine wn (sr (mp gr (j*7) Z (wf gH Z (wv Z (am.ld 0 Z ax Z (.w (n4 big (ys.drop 0))) Z) (wv Z (dG (k:= .u32) (c:=n4 big (ys.drop 0) / 1073741824%2*1073741824) Z Z (gU 30 Z (by omega) (by simp only[IntKind.bits];omega) (by decide) (by decide))) (wv Z ((rE (q:=n4 big (ys.drop 0) / 1073741824) (m:=1073741824) (by decide)▸mq (k:= .u32) Z Z)) (wc Z (wv Z (ab mJ Z) (ws (dx am 2 (k:=4) (cur':= [.w (n4 big (ys.drop 0)%16777216),.w 0,.e (n4 big (ys.drop 0) / 16777216%16),.e (n4 big (ys.drop 0) / 268435456%4),.b (decide (n4 big (ys.drop 0) / 1073741824%2=1)),.b false,.b false]) (v:= .b (decide (n4 big (ys.drop 0) / 1073741824%2=1))) Z hpl dc Z (nl Z) Z Z Z (fun b1 aq=> ?_)))))))))))
   refine wn (sr (mp gr (j*7) Z (wf fG Z (wv Z (aq.ld 0 Z ax Z (.w (n4 big (ys.drop 4))) Z) (wc Z (wv Z (ab mM Z) (ws (dx aq 2 (k:=1) (cur':= [.w (n4 big (ys.drop 0)%16777216),.w (n4 big (ys.drop 4)),.e (n4 big (ys.drop 0) / 16777216%16),.e (n4 big (ys.drop 0) / 268435456%4),.b (decide (n4 big (ys.drop 0) / 1073741824%2=1)),.b false,.b false]) (v:= .w (n4 big (ys.drop 4))) Z hpl ax Z (nl Z) Z Z Z (fun b2 aW=> ?_)))))))))
   refine wn (ae (mp gr (j*7) Z (wc Z (wv Z (ab tQ Z) (ws (dx aW 2 (k:=6) (cur':= [.w (n4 big (ys.drop 0)%16777216),.w (n4 big (ys.drop 4)),.e (n4 big (ys.drop 0) / 16777216%16),.e (n4 big (ys.drop 0) / 268435456%4),.b (decide (n4 big (ys.drop 0) / 1073741824%2=1)),.b false,.b true]) (v:= .b true) Z hpl dc Z (nl Z) Z Z Z (fun b3 au=> ?_)))))))
   refine bk (ak (ac (ae (wv Z (aH (k:= .i64) (c:= ↑j+1) r Z (a5 (by omega) (by omega))) (mi (↑j+1) Z (wn ?_))))))
   have hcur:([.w (n4 big (ys.drop 0)%16777216),.w (n4 big (ys.drop 4)),.e (n4 big (ys.drop 0) / 16777216%16),.e (n4 big (ys.drop 0) / 268435456%4),.b (decide (n4 big (ys.drop 0) / 1073741824%2=1)),.b false,.b true]:List Value)=Rel.cells (hJ big (n4 big (ys.drop 0)) (n4 big (ys.drop 4))):=by unfold hJ;rw[if_pos hsc];rfl
   have hd:(bT big nr ((xs0.drop ro).take (nr*8)))[j]? =some (hJ big (n4 big (ys.drop 0)) (n4 big (ys.drop 4))):=by rw[j7 hjn,←hys];rfl
   have htk:(bT big nr ((xs0.drop ro).take (nr*8))).take (j+1)=(bT big nr ((xs0.drop ro).take (nr*8))).take j++ [hJ big (n4 big (ys.drop 0)) (n4 big (ys.drop 4))]:=by rw[List.take_add_one,hd];rfl
   have e8:(↑(8*j):Int)+8= ↑(8*(j+1)):=by omega
   rw[hcur,lT,←htk,e8]at au
   exact⟨⟨j+1,L,B,E,u,G,Z,by omega,au.re [2,1,3,4,5,6,7]⟩,by show nr+1- nv (.i (↑j+1))<nr+1- nv (ρ 97);rw[r];simp only[nv];omega⟩
  ·
   by_cases hbg:big=true
   ·
    refine ae (wf gH Z (wv Z (d.ld 0 Z ax Z (.w (n4 big (ys.drop 0))) Z) (wv Z (dG (k:= .u32) (c:=n4 big (ys.drop 0) / 2147483648%2*2147483648) Z Z (gU 31 Z (by omega) (by simp only[IntKind.bits];omega) (by decide) (by decide))) (wv Z (cg Z Z (bne_eq_false_iff_eq.2 (by omega))) (wn (al Z (sr (mg u Z (wn (a6 (sr ?_)))))))))))
    refine wv Z (aT (c:=false) Z Z (by simp[bo,hbg])) (av (.b false) Z (wn (al Z (sr (wv Z (aT (c:=true) Z Z (by simp[bo,hbg])) (av (.b true) Z (wn (aB Z (sr (mp gr (j*7) Z (wf gH Z ?_)))))))))))
    refine wv Z (d.ld 0 Z ax Z (.w (n4 big (ys.drop 0))) Z) (wc Z (wv Z (ab mN Z) (ws (dx d 2 (k:=0) (cur':= [.w (n4 big (ys.drop 0)),.w 0,.e 0,.e 0,.b false,.b false,.b false]) (v:= .w (n4 big (ys.drop 0))) Z hpl ax Z (nl Z) Z Z Z (fun b4 az=> ?_)))))
    refine wn (sr (mp gr (j*7) Z (wf fG Z (wv Z (az.ld 0 Z ax Z (.w (n4 big (ys.drop 4))) Z) (wv Z (dM (c:=n4 big (ys.drop 4) / 256) Z Z (by decide) (by rw[show(2:Int) ^ (min (8:Int).toNat IntKind.u32.bits)=256 from by decide,Int.fdiv_eq_ediv_of_nonneg _ (by decide)])) (wc Z (wv Z (ab mM Z) (ws (dx az 2 (k:=1) (cur':= [.w (n4 big (ys.drop 0)),.w (n4 big (ys.drop 4) / 256),.e 0,.e 0,.b false,.b false,.b false]) (v:= .w (n4 big (ys.drop 4) / 256)) Z hpl ax Z (nl Z) Z Z Z (fun b5 a2=> ?_))))))))))
    refine wn (sr (mp gr (j*7) Z (wf fG Z (wv Z (a2.ld 0 Z ax Z (.w (n4 big (ys.drop 4))) Z) (wv Z (dG (k:= .u32) (c:=n4 big (ys.drop 4) / 128%2*128) Z Z (gU 7 Z (by omega) (by simp only[IntKind.bits];omega) (by decide) (by decide))) (wv Z ((rE (q:=n4 big (ys.drop 4) / 128) (m:=128) (by decide)▸mq (k:= .u32) Z Z)) (wc Z (wv Z (ab mJ Z) (ws (dx a2 2 (k:=4) (cur':= [.w (n4 big (ys.drop 0)),.w (n4 big (ys.drop 4) / 256),.e 0,.e 0,.b (decide (n4 big (ys.drop 4) / 128%2=1)),.b false,.b false]) (v:= .b (decide (n4 big (ys.drop 4) / 128%2=1))) Z hpl dc Z (nl Z) Z Z Z (fun b6 a3=> ?_)))))))))))
    refine wn (sr (mp gr (j*7) Z (wf fG Z (wv Z (a3.ld 0 Z ax Z (.w (n4 big (ys.drop 4))) Z) (wv Z (dM (c:=n4 big (ys.drop 4) / 32) Z Z (by decide) (by rw[show(2:Int) ^ (min (5:Int).toNat IntKind.u32.bits)=32 from by decide,Int.fdiv_eq_ediv_of_nonneg _ (by decide)])) (wv Z (dG (k:= .u32) (c:=n4 big (ys.drop 4) / 32%4) Z Z (c7 2 Z (by omega) (by simp only[IntKind.bits];omega) (by decide) (by decide) (by decide))) (wv Z (ao bv lk Z (gM (by omega) (by omega))) (wc Z (wv Z (ab mK Z) (ws (dx a3 2 (k:=3) (cur':= [.w (n4 big (ys.drop 0)),.w (n4 big (ys.drop 4) / 256),.e 0,.e (n4 big (ys.drop 4) / 32%4),.b (decide (n4 big (ys.drop 4) / 128%2=1)),.b false,.b false]) (v:= .e (n4 big (ys.drop 4) / 32%4)) Z hpl dq Z (nl Z) Z Z Z (fun b7 a4=> ?_))))))))))))
    refine wn (sr (mp gr (j*7) Z (wf fG Z (wv Z (a4.ld 0 Z ax Z (.w (n4 big (ys.drop 4))) Z) (wv Z (dG (k:= .u32) (c:=n4 big (ys.drop 4) / 16%2*16) Z Z (gU 4 Z (by omega) (by simp only[IntKind.bits];omega) (by decide) (by decide))) (wv Z ((rE (q:=n4 big (ys.drop 4) / 16) (m:=16) (by decide)▸mq (k:= .u32) Z Z)) (wc Z (wv Z (ab qx Z) (ws (dx a4 2 (k:=5) (cur':= [.w (n4 big (ys.drop 0)),.w (n4 big (ys.drop 4) / 256),.e 0,.e (n4 big (ys.drop 4) / 32%4),.b (decide (n4 big (ys.drop 4) / 128%2=1)),.b (decide (n4 big (ys.drop 4) / 16%2=1)),.b false]) (v:= .b (decide (n4 big (ys.drop 4) / 16%2=1))) Z hpl dc Z (nl Z) Z Z Z (fun b8 a7=> ?_)))))))))))
    refine wn (ae (mp gr (j*7) Z (wf fG Z (wv Z (a7.ld 0 Z ax Z (.w (n4 big (ys.drop 4))) Z) (wv Z (dG (k:= .u32) (c:=n4 big (ys.drop 4)%16) Z Z (c7 4 Z (by omega) (by simp only[IntKind.bits];omega) (by decide) (by decide) (by decide))) (wv Z (ao bv lk Z (gM (by omega) (by omega))) (wc Z (wv Z (ab mL Z) (ws (dx a7 2 (k:=2) (cur':= [.w (n4 big (ys.drop 0)),.w (n4 big (ys.drop 4) / 256),.e (n4 big (ys.drop 4)%16),.e (n4 big (ys.drop 4) / 32%4),.b (decide (n4 big (ys.drop 4) / 128%2=1)),.b (decide (n4 big (ys.drop 4) / 16%2=1)),.b false]) (v:= .e (n4 big (ys.drop 4)%16)) Z hpl dq Z (nl Z) Z Z Z (fun b9 a8=> ?_)))))))))))
    refine bk (ak (ak (ac (ae (wv Z (aH (k:= .i64) (c:= ↑j+1) r Z (a5 (by omega) (by omega))) (mi (↑j+1) Z (wn ?_)))))))
    have hcur:([.w (n4 big (ys.drop 0)),.w (n4 big (ys.drop 4) / 256),.e (n4 big (ys.drop 4)%16),.e (n4 big (ys.drop 4) / 32%4),.b (decide (n4 big (ys.drop 4) / 128%2=1)),.b (decide (n4 big (ys.drop 4) / 16%2=1)),.b false]:List Value)=Rel.cells (hJ big (n4 big (ys.drop 0)) (n4 big (ys.drop 4))):=by unfold hJ;rw[if_neg hsc,if_pos hbg];rfl
    have hd:(bT big nr ((xs0.drop ro).take (nr*8)))[j]? =some (hJ big (n4 big (ys.drop 0)) (n4 big (ys.drop 4))):=by rw[j7 hjn,←hys];rfl
    have htk:(bT big nr ((xs0.drop ro).take (nr*8))).take (j+1)=(bT big nr ((xs0.drop ro).take (nr*8))).take j++ [hJ big (n4 big (ys.drop 0)) (n4 big (ys.drop 4))]:=by rw[List.take_add_one,hd];rfl
    have e8:(↑(8*j):Int)+8= ↑(8*(j+1)):=by omega
    rw[hcur,lT,←htk,e8]at a8
    exact⟨⟨j+1,L,B,E,u,G,Z,by omega,a8.re [2,1,3,4,5,6,7]⟩,by show nr+1- nv (.i (↑j+1))<nr+1- nv (ρ 97);rw[r];simp only[nv];omega⟩
   ·
    refine ae (wf gH Z (wv Z (d.ld 0 Z ax Z (.w (n4 big (ys.drop 0))) Z) (wv Z (dG (k:= .u32) (c:=n4 big (ys.drop 0) / 2147483648%2*2147483648) Z Z (gU 31 Z (by omega) (by simp only[IntKind.bits];omega) (by decide) (by decide))) (wv Z (cg Z Z (bne_eq_false_iff_eq.2 (by omega))) (wn (al Z (sr (mg u Z (wn (a6 (sr ?_)))))))))))
    refine wv Z (aT (c:=true) Z Z (by simp[bo,hbg])) (av (.b true) Z (wn (aB Z (sr (mp gr (j*7) Z (wf gH Z (wv Z (d.ld 0 Z ax Z (.w (n4 big (ys.drop 0))) Z) (wc Z (wv Z (ab mN Z) (ws (dx d 2 (k:=0) (cur':= [.w (n4 big (ys.drop 0)),.w 0,.e 0,.e 0,.b false,.b false,.b false]) (v:= .w (n4 big (ys.drop 0))) Z hpl ax Z (nl Z) Z Z Z (fun bB a9=> ?_))))))))))))
    refine wn (sr (mp gr (j*7) Z (wf fG Z (wv Z (a9.ld 0 Z ax Z (.w (n4 big (ys.drop 4))) Z) (wv Z (dG (k:= .u32) (c:=n4 big (ys.drop 4)%16777216) Z Z (c7 24 Z (by omega) (by simp only[IntKind.bits];omega) (by decide) (by decide) (by decide))) (wc Z (wv Z (ab mM Z) (ws (dx a9 2 (k:=1) (cur':= [.w (n4 big (ys.drop 0)),.w (n4 big (ys.drop 4)%16777216),.e 0,.e 0,.b false,.b false,.b false]) (v:= .w (n4 big (ys.drop 4)%16777216)) Z hpl ax Z (nl Z) Z Z Z (fun bC aD=> ?_))))))))))
    refine wn (sr (mp gr (j*7) Z (wf fG Z (wv Z (aD.ld 0 Z ax Z (.w (n4 big (ys.drop 4))) Z) (wv Z (dG (k:= .u32) (c:=n4 big (ys.drop 4) / 16777216%2*16777216) Z Z (gU 24 Z (by omega) (by simp only[IntKind.bits];omega) (by decide) (by decide))) (wv Z ((rE (q:=n4 big (ys.drop 4) / 16777216) (m:=16777216) (by decide)▸mq (k:= .u32) Z Z)) (wc Z (wv Z (ab mJ Z) (ws (dx aD 2 (k:=4) (cur':= [.w (n4 big (ys.drop 0)),.w (n4 big (ys.drop 4)%16777216),.e 0,.e 0,.b (decide (n4 big (ys.drop 4) / 16777216%2=1)),.b false,.b false]) (v:= .b (decide (n4 big (ys.drop 4) / 16777216%2=1))) Z hpl dc Z (nl Z) Z Z Z (fun bD aF=> ?_)))))))))))
    refine wn (sr (mp gr (j*7) Z (wf fG Z (wv Z (aF.ld 0 Z ax Z (.w (n4 big (ys.drop 4))) Z) (wv Z (dM (c:=n4 big (ys.drop 4) / 33554432) Z Z (by decide) (by rw[show(2:Int) ^ (min (25:Int).toNat IntKind.u32.bits)=33554432 from by decide,Int.fdiv_eq_ediv_of_nonneg _ (by decide)])) (wv Z (dG (k:= .u32) (c:=n4 big (ys.drop 4) / 33554432%4) Z Z (c7 2 Z (by omega) (by simp only[IntKind.bits];omega) (by decide) (by decide) (by decide))) (wv Z (ao bv lk Z (gM (by omega) (by omega))) (wc Z (wv Z (ab mK Z) (ws (dx aF 2 (k:=3) (cur':= [.w (n4 big (ys.drop 0)),.w (n4 big (ys.drop 4)%16777216),.e 0,.e (n4 big (ys.drop 4) / 33554432%4),.b (decide (n4 big (ys.drop 4) / 16777216%2=1)),.b false,.b false]) (v:= .e (n4 big (ys.drop 4) / 33554432%4)) Z hpl dq Z (nl Z) Z Z Z (fun bE aI=> ?_))))))))))))
    refine wn (sr (mp gr (j*7) Z (wf fG Z (wv Z (aI.ld 0 Z ax Z (.w (n4 big (ys.drop 4))) Z) (wv Z (dG (k:= .u32) (c:=n4 big (ys.drop 4) / 134217728%2*134217728) Z Z (gU 27 Z (by omega) (by simp only[IntKind.bits];omega) (by decide) (by decide))) (wv Z ((rE (q:=n4 big (ys.drop 4) / 134217728) (m:=134217728) (by decide)▸mq (k:= .u32) Z Z)) (wc Z (wv Z (ab qx Z) (ws (dx aI 2 (k:=5) (cur':= [.w (n4 big (ys.drop 0)),.w (n4 big (ys.drop 4)%16777216),.e 0,.e (n4 big (ys.drop 4) / 33554432%4),.b (decide (n4 big (ys.drop 4) / 16777216%2=1)),.b (decide (n4 big (ys.drop 4) / 134217728%2=1)),.b false]) (v:= .b (decide (n4 big (ys.drop 4) / 134217728%2=1))) Z hpl dc Z (nl Z) Z Z Z (fun bF aK=> ?_)))))))))))
    refine wn (ae (mp gr (j*7) Z (wf fG Z (wv Z (aK.ld 0 Z ax Z (.w (n4 big (ys.drop 4))) Z) (wv Z (dM (c:=n4 big (ys.drop 4) / 268435456) Z Z (by decide) (by rw[show(2:Int) ^ (min (28:Int).toNat IntKind.u32.bits)=268435456 from by decide,Int.fdiv_eq_ediv_of_nonneg _ (by decide)])) (wv Z (dG (k:= .u32) (c:=n4 big (ys.drop 4) / 268435456%16) Z Z (c7 4 Z (by omega) (by simp only[IntKind.bits];omega) (by decide) (by decide) (by decide))) (wv Z (ao bv lk Z (gM (by omega) (by omega))) (wc Z (wv Z (ab mL Z) (ws (dx aK 2 (k:=2) (cur':= [.w (n4 big (ys.drop 0)),.w (n4 big (ys.drop 4)%16777216),.e (n4 big (ys.drop 4) / 268435456%16),.e (n4 big (ys.drop 4) / 33554432%4),.b (decide (n4 big (ys.drop 4) / 16777216%2=1)),.b (decide (n4 big (ys.drop 4) / 134217728%2=1)),.b false]) (v:= .e (n4 big (ys.drop 4) / 268435456%16)) Z hpl dq Z (nl Z) Z Z Z (fun bH aL=> ?_))))))))))))
    refine bk (ak (ak (ac (ae (wv Z (aH (k:= .i64) (c:= ↑j+1) r Z (a5 (by omega) (by omega))) (mi (↑j+1) Z (wn ?_)))))))
    have hcur:([.w (n4 big (ys.drop 0)),.w (n4 big (ys.drop 4)%16777216),.e (n4 big (ys.drop 4) / 268435456%16),.e (n4 big (ys.drop 4) / 33554432%4),.b (decide (n4 big (ys.drop 4) / 16777216%2=1)),.b (decide (n4 big (ys.drop 4) / 134217728%2=1)),.b false]:List Value)=Rel.cells (hJ big (n4 big (ys.drop 0)) (n4 big (ys.drop 4))):=by unfold hJ;rw[if_neg hsc,if_neg hbg];rfl
    have hd:(bT big nr ((xs0.drop ro).take (nr*8)))[j]? =some (hJ big (n4 big (ys.drop 0)) (n4 big (ys.drop 4))):=by rw[j7 hjn,←hys];rfl
    have htk:(bT big nr ((xs0.drop ro).take (nr*8))).take (j+1)=(bT big nr ((xs0.drop ro).take (nr*8))).take j++ [hJ big (n4 big (ys.drop 0)) (n4 big (ys.drop 4))]:=by rw[List.take_add_one,hd];rfl
    have e8:(↑(8*j):Int)+8= ↑(8*(j+1)):=by omega
    rw[hcur,lT,←htk,e8]at aL
    exact⟨⟨j+1,L,B,E,u,G,Z,by omega,aL.re [2,1,3,4,5,6,7]⟩,by show nr+1- nv (.i (↑j+1))<nr+1- nv (ρ 97);rw[r];simp only[nv];omega⟩
 ·
  simp only[bx]at x
  refine bq (ar (ar (aQ (ac (ad ?_)))))
  have hjn:j=nr:=by omega
  rw[hjn,Nat.sub_self,List.replicate_zero,List.append_nil,List.take_of_length_le (by rw[f7];omega)]at H3
  refine ae (av (.n) Z (wn (aY ?_)))
  exact⟨.inr Z,_,r1 (.n) Z _ _,⟨_,_,Res.all [an sh [.str s.name,.str s.seg,.q s.addr,.q (↑s.size),.w (↑s.off),.w s.align,.w (↑ro),.w (↑nr),.w s.flags,.sl gr 0 nr nr,.f 133 (.pt gs),.pt gs] 135,an gs [.f 109 (.pt rb),.i (↑s.off),.i (↑s.off),.i lim,.i sn] 195,an gr ((bT big nr ((xs0.drop ro).take (nr*8))).flatMap Rel.cells) 192],Z,H3.reAll [6,3,0] [4,5],fun w hd=>by have hd:=aS.1 hd;exact⟨⟨ha,hsz,hof,hal,hro',hnr',hfl⟩,_,_,_,gs,_,_,_,by have:=hd (an sh [.str s.name,.str s.seg,.q s.addr,.q (↑s.size),.w (↑s.off),.w s.align,.w (↑ro),.w (↑nr),.w s.flags,.sl gr 0 nr nr,.f 133 (.pt gs),.pt gs] 135) (by simp);rw[hro,hnr];exact this,RV.of_blk (hd (an gr ((bT big nr ((xs0.drop ro).take (nr*8))).flatMap Rel.cells) 192) (by simp)) (by rw[jT fC,f7]),(by omega),hd (an gs [.f 109 (.pt rb),.i (↑s.off),.i (↑s.off),.i lim,.i sn] 195) (by simp),hlim,I⟩⟩⟩
theorem rz{rb N C fb sh np cp ro nr base:Nat}{A Ap:Option Addr}{i p:Int}{xs0:List Int}{a0 a1:Addr}{h:Nat → Int}{lo sy dy:Value}{scs:List Value}{s:SecD}(big:Bool)(w:World)(h0:St w (Res.all [an fb [.w (h 0),.w (h 1),.w (h 2),.w (h 3),.w (h 4),.w (h 5),.w (h 6),.e (bo big),lo,.s Ap np cp,sy,dy] 121,ay 125 1 (.s Ap np cp) np scs,an sh [.str s.name,.str s.seg,.q s.addr,.q (↑s.size),.w (↑s.off),.w s.align,.w (↑ro),.w (↑nr),.w s.flags,.ns,.n,.np] 135]).F [an fb [.w (h 0),.w (h 1),.w (h 2),.w (h 3),.w (h 4),.w (h 5),.w (h 6),.e (bo big),lo,.s Ap np cp,sy,dy] 121,ay 125 1 (.s Ap np cp) np scs,an sh [.str s.name,.str s.seg,.q s.addr,.q (↑s.size),.w (↑s.off),.w s.align,.w (↑ro),.w (↑nr),.w s.flags,.ns,.n,.np] 135] w)(hB: ∀g,(Res.all [an fb [.w (h 0),.w (h 1),.w (h 2),.w (h 3),.w (h 4),.w (h 5),.w (h 6),.e (bo big),lo,.s Ap np cp,sy,dy] 121,ay 125 1 (.s Ap np cp) np scs,an sh [.str s.name,.str s.seg,.q s.addr,.q (↑s.size),.w (↑s.off),.w s.align,.w (↑ro),.w (↑nr),.w s.flags,.ns,.n,.np] 135]).F g → base≤g)(hrbb:rb<base)(hb4:4≤base)(hbw:base≤w.heap.size)(hA: ∀a,A=some a → a.block<base)(hrb:(an rb [.s A N C,.i i,.i p] 190).φ w)(hG:Glob 224 w a0 a1)(hNC:N≤C)(hN:N<10485760)(hr:RI .u8 w A N xs0)(hby:Byt xs0)(hs:s.fits)(hro:s.reloff= ↑ro)(hnr:s.nreloc= ↑nr)(hnp:np≤10485760)(h0n:0<nr)(hfit:N<ro+nr*8):
 Calls Tryd.prog 61 #[.pt fb,.pt sh,.f 109 (.pt rb)] w fun e w'=> ∃T v,e= .returned (.f T v)∧St w (Res.all [an fb [.w (h 0),.w (h 1),.w (h 2),.w (h 3),.w (h 4),.w (h 5),.w (h 6),.e (bo big),lo,.s Ap np cp,sy,dy] 121,ay 125 1 (.s Ap np cp) np scs,an sh [.str s.name,.str s.seg,.q s.addr,.q (↑s.size),.w (↑s.off),.w s.align,.w (↑ro),.w (↑nr),.w s.flags,.ns,.n,.np] 135]).F [] w':=by
 obtain⟨ha,hsz,hof,hal,hro',hnr',hfl⟩:=hs
 have t:=hnr'
 have u:=hro'
 rw[hnr]at t
 rw[hro]at u
 refine aA (args:= [.pt fb,.pt sh,.f 109 (.pt rb)]) Tryd.func61 Z Z Z ?_
 have H0:St _ _ [an fb [.w (h 0),.w (h 1),.w (h 2),.w (h 3),.w (h 4),.w (h 5),.w (h 6),.e (bo big),lo,.s Ap np cp,sy,dy] 121,ay 125 1 (.s Ap np cp) np scs,an sh [.str s.name,.str s.seg,.q s.addr,.q (↑s.size),.w (↑s.off),.w s.align,.w (↑ro),.w (↑nr),.w s.flags,.ns,.n,.np] 135] _:=h0
 refine sr (av (.n) Z (wn (sr (mp fb 0 Z (mp fb 0 Z (wc Z (wf jJ Z (wv Z (H0.ld 0 Z la Z (.s Ap np cp) Z) (mp sh 0 Z (wm Z (eb H0 125 [.pt sh] Z (by kernel_rfl) (fun g1 w2 D H3=> ?_))))))))))))
 refine wm Z (bG H3 2 (m:=1) (news:= [.pt sh]) Z xM ya Z (by decide) Z Z Z (H3.news (i:=0) Z) (by simp[Value.oneCell']) (by simp only[maxLen];omega) (by omega) (fun v4 w5 H6=> ?_))
 obtain⟨A7,c8,rfl,_,_⟩:=aw (H6.g 2 rfl)
 refine wc Z (wf jJ Z (ws (es H6 1 9 (.s A7 (np+1) c8) Z la (fun E H9=> ?_))))
 refine wn (ad ?_)
 have j:=H9.drew
 refine aU MX (fun w'=>w'.cell? ⟨sh,4,none⟩=some (.w (↑s.off))∧w'.cell? ⟨sh,3,none⟩=some (.q (↑s.size))) (tr 0 14 (Pl.run 14 (Pl.take 15 (Pl.take 16 (Pl.run 17 Pl.done))))) (by kernel_rfl) (⟨j.c 3 4 Z Z,j.c 3 3 Z Z⟩) (qm (.pt sh) Z Z (qm (.f 109 (.pt rb)) Z Z (qm (.pt sh) Z Z (qy Z (ah Z) (qy Z (ab (o:=0) br Z) (qy Z (ab (o:=0) jH Z) (qh Z (fun hS=>ag ax Z hS.1) (qy Z (ao (c:= ↑s.off) bv ip Z (a5 (by omega) (by omega))) (qm (.pt sh) Z Z (qy Z (ah Z) (qy Z (ab (o:=0) br Z) ?_)))))))))))
 refine qy Z (ab (o:=0) iu Z) (qh Z (fun hS=>ag aP Z hS.2) (qy Z (ao (c:=IntKind.i64.wrap ↑s.size) db ip Z Z) (qr Z (ec wA (args:= [.f 109 (.pt rb),.i (↑s.off),.i (IntKind.i64.wrap ↑s.size)]) Z (aa (yq _ hof hsz) ?_)))))
 rintro e G ⟨gs,lim,sn,rfl,hgs,hlim,B,x⟩
 have l:=j.cal0 x
 refine⟨_,Z,⟨⟨l.c 4 4 Z Z,l.c 4 3 Z Z⟩,fun _=>trivial,qy Z (ah Z) (qy Z (ab (o:=0) jf Z) (dJ Z (es l 4 11 (.pt gs) Z hZ (fun H d=> ?_))))⟩⟩
 refine⟨⟨d.c 4 4 Z Z,d.c 4 3 Z Z⟩,fun _=>trivial,pn (sr (mp sh 0 Z (mp sh 0 Z (wc Z (wf jf Z (wv Z (d.ld 4 Z hZ Z (.pt gs) Z) (wv Z (aJ (v:= .pt gs) lE Z) (wc Z (wf qJ Z (ws ?_))))))))))⟩
 refine es d 4 10 (.f 133 (.pt gs)) Z jp (fun I y=> ?_)
 refine wn (ad (sr (mp sh 0 Z (wc Z (wf br Z (wf gK Z (wv Z (y.ld 4 Z ax Z (.w (↑nr)) Z) (wv Z (cQ Z Z (decide_eq_true (by omega))) (wn (aB Z (ad ?_)))))))))))
 have b:=y.drew
 refine aU MX (fun w'=>w'.cell? ⟨sh,7,none⟩=some (.w (↑nr))∧w'.cell? ⟨sh,6,none⟩=some (.w (↑ro))) (tr 0 14 (Pl.run 14 (tr 15 5 Pl.done))) (by kernel_rfl) (⟨b.c 4 7 Z Z,b.c 4 6 Z Z⟩) (qm (.f 109 (.pt rb)) Z Z (qm (.pt sh) Z Z (qy Z (ah Z) (qy Z (ab (o:=0) br Z) (qy Z (ab (o:=0) gK Z) (qh Z (fun hS=>ag ax Z hS.1) (qy Z (ao (c:= ↑nr) bv be Z (aC (by omega) (by omega))) (qy Z (cM (k:= .u64) (c:= ↑(nr*8)) Z Z (by rw[aC (by omega) (by omega)];omega)) (qm (.pt sh) Z Z (qy Z (ah Z) (qy Z (ab (o:=0) br Z) ?_)))))))))))
 refine qy Z (ab (o:=0) kC Z) (qh Z (fun hS=>ag ax Z hS.2) (qy Z (ao (c:= ↑ro) bv ip Z (a5 (by omega) (by omega))) (qr Z (ec kH (args:= [.f 109 (.pt rb),.q (↑(nr*8)),.i (↑ro)]) Z (aa (iI (n:=nr*8) _ ((an _ _ _).stay _ _ hrb fun g hg=>b.keep.block g (by rw[show g=rb from hg];exact aG hrb) (by rw[show g=rb from hg];exact(fun h=>by have:=hB _ h;omega))) (hG.keep b.keep (fun k hk=>by have:=hB _ hk;omega)) hNC hN (hr.keep b.keep fun a ha h=>by have:=hB _ h;have:=hA a ha;omega) (fun a ha=>by have:=hA a ha;have:=b.keep.size;omega) (by have:=b.keep.size;omega) (by omega) (by omega) hfit (by omega)) ?_)))))
 rintro e J ⟨T,ev,rfl,z⟩
 have r:=b.cal0 z
 refine⟨_,Z,⟨⟨r.c 4 7 Z Z,r.c 4 6 Z Z⟩,fun _=>trivial,qm (.tuple #[.ns,.f T ev]) Z Z (qy Z (aE (v:= .ns) Z Z) (qy Z (aE (v:= .f T ev) Z Z) (qa (.ns) Z Z (qa (.f T ev) Z Z (pn (ad (sr (mv (.f T ev) Z (wv Z ((nn true bI Z (.inr ⟨_,_,Z⟩))) ?_)))))))))⟩⟩
 refine wn (aB Z (sr (mv (.f T ev) Z (av (.f T ev) Z (wn (rq (a7 ?_)))))))
 exact⟨.inr Z,_,r1 (.f T ev) Z _ _,⟨_,_,Z,r.sub (List.nil_sublist _)⟩⟩
theorem BP:bg Tryd.prog 51:=aL (by kernel_rfl)
theorem m4:Tryd.prog.underlying 142=some (.slice 193):=by kernel_rfl
theorem m6:(Tryd.prog.info? 193).map (fun i=>(i.zero,i.size,i.bytes))=some (some (.agg #[.string (⟨#[]⟩),.e 0,.e 0,.h 0,.q 0]),5,32):=by kernel_rfl
theorem rK:dA Tryd.prog 205 [.w 0,.e 0,.e 0,.h 0,.q 0]:=bO (by kernel_rfl)
theorem CK67:bg Tryd.prog 67:=aL (by kernel_rfl)
theorem zv:Tryd.prog.concrete 24=true:=by kernel_rfl
theorem jx:Tryd.prog.concrete 154=true:=by kernel_rfl
theorem pw:bg Tryd.prog 53:=aL (by kernel_rfl)
theorem CK69:bg Tryd.prog 69:=aL (by kernel_rfl)
theorem rM:dA Tryd.prog 144 [.ns,.w 0,.w 0,.w 0,.w 0,.w 0,.w 0,.ns]:=bO (by kernel_rfl)
theorem uN:FA 144 0 0:=fa (by kernel_rfl)
theorem xz:dA Tryd.prog 207 [.w 0,.e 0,.e 0,.h 0,.w 0]:=bO (by kernel_rfl)
theorem CK68:bg Tryd.prog 68:=aL (by kernel_rfl)
theorem y4{fb gy gt hd n nt ct nc cc:Nat}{Ac:Option Addr}{m0 of:Int}{xs st:List Int}{a0 a1:Addr}(big:Bool)(w:World)(hf0:w.cell? ⟨fb,0,none⟩=some (.w m0))(hf7:w.cell? ⟨fb,7,none⟩=some (.e (bo big)))(hm:m0=4277009103)(hd3:w.cell? ⟨hd,3,none⟩=some (.w ↑n))(hn:n<4294967296)(hG:Glob 224 w a0 a1)(hw4:4≤w.heap.size)(hr:RI .u8 w (some ⟨gy,0,none⟩) (16*n) xs)(hby:Byt xs)(hgy:gy<w.heap.size)(hst:RI .u8 w (some ⟨gt,0,none⟩) nt st)(hsb:Byt st)(hnt:nt≤ct)(hntN:nt<10485760):
 Calls Tryd.prog 56 #[.pt fb,.sl gy 0 (16*n) (16*n),.sl gt 0 nt ct,.s Ac nc cc,.pt hd,.i of] w fun e w'=>((∀k,k<n → ¬st.length≤(n4 big (eO true xs k)).toNat)∧∃(g:Nat) (Av:Option Addr) (cv:Nat) (D:Res),e= .returned (.tuple #[.pt g,.n])∧St w aR [D] w'∧∀w,D.φ w → (an g [.s Ac nc cc,.w 0,.w 0,.w 0,.w 0,.w 0,.w 0,.s Av n cv] 144).φ w∧RV w Av n 5 ((cR true big st xs n).flatMap Sym.cells))∨((∃k,k<n∧st.length≤(n4 big (eO true xs k)).toNat)∧∃T v,e= .returned (.tuple #[.np,.f T v])∧St w aR [] w'):=by
 refine aA (args:= [.pt fb,.sl gy 0 (16*n) (16*n),.sl gt 0 nt ct,.s Ac nc cc,.pt hd,.i of]) Tryd.func56 Z Z Z ?_
 have H0:=St.nil w aR
 refine sr (av (.np) Z (av (.n) Z (wn (sr (mp fb 0 Z (wc Z (wf iz Z (wv Z (ag jL Z (H0.kc hf7)) (av (.e (bo big)) Z (wn (sr ?_)))))))))))
 refine mp hd 0 Z (wc Z (wf gJ Z (wv Z (ag ax Z (H0.kc hd3)) (wv Z (ao bv be Z (aC (by omega) (by omega))) (wE [.q 32,.q (↑n)] BP Z Z (aa (mx _ hn) ?_))))))
 rintro e w2 ⟨kk,rfl,hkk,aj⟩
 have H3:=H0.cal0 aj
 refine⟨_,Z,ai (↑kk) Z (wn (ad (sr (mi (↑kk) Z (wv Z (bj Z Z (decide_eq_false (by omega))) (wn (al Z (wk (sr (mi (↑kk) Z ?_))))))))))⟩
 refine wm Z (qf H3 m4 m6 Z Z (by omega) (by omega) (by omega) (by omega) (fun gm w5 hgm H5=> ?_))
 rw[show(0:Int).toNat=0 from rfl,Int.toNat_natCast]
 have H6:St w aR [ay 193 5 (.sl gm 0 0 kk) 0 []] w5:=H5.rowOf (i:=0) (cap:=kk) rfl (by rw[Array.length_toList,size_madeCells,Int.toNat_natCast]) (by simp only[maxLen];omega)
 refine eL gm 0 0 kk Z (wn (sr (ms gy 0 (16*n) (16*n) Z (wE [.sl gy 0 (16*n) (16*n)] oR Z Z ?_))))
 have bm:=H6.keep.size
 refine aa (dB (some ⟨gy,0,none⟩) (16*n) (16*n) _) ?_
 rintro e w5 ⟨gq,rfl,hgq,au⟩
 have H6:=H6.cal0 au
 refine⟨_,Z,ap gq 0 Z (wn (ad (sr (ai 0 Z (wn (a6 ?_))))))⟩
 have az:St w aR [ay 193 5 (.sl gm 0 0 kk) 0 (((cR true big st xs n).take 0).flatMap Sym.cells),an gq [.sl gy 0 (16*n) (16*n),.i (↑(16*(0:Nat))),.i (-1)] 190] w5:=H6.re [1,0]
 refine bA (fun ρ w'=> ∃i:Nat,∃Av:Option Addr,∃cv:Nat,ρ 0= .pt fb∧ρ 2= .sl gt 0 nt ct∧ρ 3= .s Ac nc cc∧ρ 4= .pt hd∧ρ 5= .i of∧ρ 14= .e (bo big)∧ρ 16= .s Av i cv∧ρ 17= .pt gq∧ρ 18= .i ↑i∧i≤n∧(∀k,k<i → ¬st.length≤(n4 big (eO true xs k)).toNat)∧St w aR [ay 193 5 (.s Av i cv) i (((cR true big st xs n).take i).flatMap Sym.cells),an gq [.sl gy 0 (16*n) (16*n),.i (↑(16*i)),.i (-1)] 190] w') (fun ρ _=>n+1- nv (ρ 18)) (⟨0,_,_,Z,Z,Z,Z,Z,Z,Z,Z,Z,by omega,by omega,az⟩) ?_
 rintro ρ w3 ⟨i,Av,cv,C,y,E,F,G,H,I,J,x,hi,hgood,H3⟩
 refine ad (sr (mg x Z (mg F Z (wc Z (wf gJ Z (wv Z (ag ax Z (H3.kc hd3)) (wv Z (ao bv kK Z (a5 (by omega) (by omega))) (wv Z (bR Z Z) (wn ?_)))))))))
 refine bK Z (fun M=> ?_) (fun M=> ?_)
 ·
  simp only[bx]at M
  refine wk (ad (a6 (sr ?_)))
  have hin:i<n:=by omega
  obtain⟨ys,hys⟩: ∃ys,ys=eO true xs i:=⟨_,rfl⟩
  have K:ys=(xs.drop (16*i)).take 16:=hys
  have hbys:Byt ys:=by rw[K];exact(hby.drop _).take _
  obtain⟨a2,bp⟩:=ba big (hbys.drop 0)
  obtain⟨br,bs⟩:=ba big (hbys.drop 8)
  obtain⟨nm,hnm⟩:=Int.eq_ofNat_of_zero_le a2
  have hnm':(n4 big (ys.drop 0)).toNat=nm:=by omega
  have bt:=H3.keep.size
  have hgql:=H3.lt (i:=1) rfl
  have hNSb:Byt (aF (st.drop nm)):=(hsb.drop _).cst
  refine wm Z (aN H3 rK (fun g8 w9 bg p=>wn (ad (sr (mg C Z (wc Z (wf dE Z (wf i1 Z (wv Z (ag ax Z (p.kc hf0)) (wv Z (aT Z Z (beq_iff_eq.2 (by omega))) (wn ?_)))))))))))
  refine aB Z (sr (mg J Z (wv Z (aJ (v:= .pt gq) fu Z) (mg H Z (wE [.pt g8,.f 109 (.pt gq),.e (bo big)] CK67 Z Z ?_)))))
  have hws:=p.keep.size
  have hgl:=p.lt (i:=0) rfl
  have bi:=p.ge (i:=0) rfl
  have bl:=p.ge (i:=2) rfl
  have hgne:g8≠gq:=p.blk_ne (i:=0) (j:=2) rfl rfl (by decide)
  refine aa (m8 (ys:=ys) (i:=16*i) (A:=some ⟨gy,0,none⟩) (xs:=xs) big _ (p.g 0 Z) (p.g 2 Z) (hG.keep p.keep (fun k hk=>hk.elim)) (Nat.le_refl _) (by omega) (hr.keep0 p.keep) hby (fun a ha=>by injection ha with ha;subst ha;exact⟨by show gy< _;omega,by show gy≠gq;omega,by show gy≠g8;omega⟩) (by omega) (by omega) (by omega) (by omega) (by omega) K) ?_
  rintro e bu ⟨rfl,R⟩
  have z:=p.ky 0 1 rfl rfl R (fun _ h=>h)
  refine⟨_,Z,av (.n) Z (wn (sr (mv (.n) Z (wv Z ((nn false bI Z (.inl Z))) (wn (al Z (wk (ad (sr (wf jb Z ?_))))))))))⟩
  refine wv Z (z.ld 0 Z ax Z (.w (n4 big (ys.drop 0))) Z) (mg y Z (wv Z (aO bU Z) (wv Z (ao ej jR Z (dm (by omega) (by omega))) (wv Z (jO Z Z) (wn ?_)))))
  refine bK Z (fun B=> ?_) (fun B=> ?_)
  ·
   simp only[bx]at B
   refine ad ?_
   have S:=z.drew
   refine aU MX (fun w'=>w'.cell? ⟨g8,0,none⟩=some (.w (n4 big (ys.drop 0)))) (tr 0 5 (Pl.take 7 (Pl.run 5 (Pl.take 6 (Pl.take 8 Pl.done))))) (by kernel_rfl) (S.c 0 0 Z Z) (qm (.i of) Z G (qy Z (ab (o:=0) jb Z) (qh Z (fun hS=>ag ax Z hS) (qy Z (aJ (v:= .w (n4 big (ys.drop 0))) zv Z) (qy Z (yb (ps:= [(0,.i of),(1,.string _),(2,.f 24 (.w (n4 big (ys.drop 0))))]) (cells:=#[.i of,.string (⟨#[105,110,118,97,108,105,100,32,110,97,109,101,32,105,110,32,115,121,109,98,111,108,32,116,97,98,108,101]⟩),.f 24 (.w (n4 big (ys.drop 0)))]) Z (by kernel_rfl)) (qa (.np) Z Z (qr Z (fq S (vs:= [.i of,.string _,.f 24 (.w (n4 big (ys.drop 0)))]) Z Z (fun N bw a3 U=>⟨U.c 1 0 Z Z,fun _=>trivial,qy Z (aJ (v:= .pt N) jx Z) (qa (.f 154 (.pt N)) Z Z ?_)⟩)))))))))
   refine pn (rq (aI (a7 (a7 (aI (a7 ?_))))))
   exact⟨.inr Z,_,r2 (.np) (.f 154 (.pt N)) Z _ _,.inr ⟨⟨i,by omega,by rw[show eO true xs i=ys from hys.symm];show st.length≤(n4 big ys).toNat;rw[show(n4 big ys).toNat=nm from hnm'];rw[hst.1];omega⟩,_,_,Z,U.sub (List.nil_sublist _)⟩⟩
  ·
   simp only[bx]at B
   refine wk (sr (mg y Z (wf jb Z (wv Z (z.ld 0 Z ax Z (.w (n4 big (ys.drop 0))) Z) (wv Z ((aq (l:=nm) (h:=nt) aZ Z (bh Z (by omega) (by omega)) bn (by omega) (by omega) (by omega) (Nat.zero_add _):Yv _ _ _ _ (.sl gt nm (nt- nm) (ct- nm)) _)) (wE [.sl gt nm (nt- nm) (ct- nm)] pw Z Z (aa (eV _ (by have h:=(hst.keep0 z.keep).drop_ nm;rwa [Nat.zero_add]at h) (hsb.drop _) (by omega) (by omega)) ?_)))))))
   rintro e bz ⟨rfl,V⟩
   have a4:=z.cal0 V
   refine⟨_,Z,av (.str (aF (st.drop nm))) Z (wn (ad (sr (mv (.str (aF (st.drop nm))) Z (wE [.str (aF (st.drop nm)),.string (⟨#[46]⟩)] CK69 Z Z ?_)))))⟩
   have hNSl:(aF (st.drop nm)).length<9223372036854775807:=by have:=ou (st.drop nm);rw[List.length_drop,hst.1]at this;omega
   refine aa (lm _ hNSb hNSl) ?_
   rintro e b0 ⟨rfl,W⟩
   have d:=a4.cal0 W
   refine⟨_,Z,mv (.b (decide (46 ∈ (aF (st.drop nm))))) Z ?_⟩
   generalize r:(decide (46 ∈ (aF (st.drop nm))))=bb
   cases bb
   ·
    simp only[bx]at r
    refine ck Z Z (ck Z Z (ck Z Z (wv Z (aD (b:=false) (v:= .b false) Z Z) (wn (al Z (wk (ae (mg I Z (mv (.str (aF (st.drop nm))) Z (wf ja Z (wv Z (d.ld 0 Z dq Z (.e (ys.getD 4 0)) Z) ?_)))))))))))
    refine wf iZ Z (wv Z (d.ld 0 Z dq Z (.e (ys.getD 5 0)) Z) (wf iY Z (wv Z (d.ld 0 Z iF Z (.h (n2 big (ys.drop 6))) Z) (wf iX Z (wv Z (d.ld 0 Z aP Z (.q (n8 big (ys.drop 8))) Z) (wv Z (yz [.str (aF (st.drop nm)),.e (ys.getD 4 0),.e (ys.getD 5 0),.h (n2 big (ys.drop 6)),.q (n8 big (ys.drop 8))] Z (by kernel_rfl)) (wm Z (kt d (ps:= [(0,.agg #[.str (aF (st.drop nm)),.e (ys.getD 4 0),.e (ys.getD 5 0),.h (n2 big (ys.drop 6)),.q (n8 big (ys.drop 8))])]) (e:=193) (cs:= [.str (aF (st.drop nm)),.e (ys.getD 4 0),.e (ys.getD 5 0),.h (n2 big (ys.drop 6)),.q (n8 big (ys.drop 8))]) Z (by kernel_rfl) (fun b1 b2 a8 X=>wm Z (bG X 3 (m:=1) (news:= [.str (aF (st.drop nm)),.e (ys.getD 4 0),.e (ys.getD 5 0),.h (n2 big (ys.drop 6)),.q (n8 big (ys.drop 8))]) Z m4 m6 Z (by decide) Z Z Z (X.news (i:=0) Z) (by simp[Value.oneCell']) (by simp only[maxLen];omega) (by omega) (fun b3 b4 O=> ?_)))))))))))
    obtain⟨a9,aE,rfl,_,_⟩:=aw (O.g 3 rfl)
    refine av (.s a9 (i+1) aE) Z (bk (ak (ac (ae (mg x Z (wv Z (aH (k:= .i64) (c:= ↑i+1) Z Z (a5 (by omega) (by omega))) (ai (↑i+1) Z (wn ?_))))))))
    have hcur:([.str (aF (st.drop nm)),.e (ys.getD 4 0),.e (ys.getD 5 0),.h (n2 big (ys.drop 6)),.q (n8 big (ys.drop 8))]:List Value)=Sym.cells (gc true big st ys):=by unfold gc dZ;rw[show(n4 big ys).toNat=nm from hnm',if_neg (fun h=>r h.1)];rfl
    have hdd:(cR true big st xs n)[i]? =some (gc true big st ys):=by rw[fO (by omega),←hys]
    have e8:(↑(16*i):Int)+16= ↑(16*(i+1)):=by omega
    rw[hcur,←dV hdd,e8]at O
    exact⟨⟨i+1,_,_,C,y,E,F,G,H,Z,J,Z,by omega,fun k hk=>by rcases Nat.lt_or_eq_of_le (Nat.le_of_lt_succ hk)with h|h;exact hgood k h;subst h;rw[show eO true xs k=ys from hys.symm];show ¬st.length≤(n4 big ys).toNat;rw[show(n4 big ys).toNat=nm from hnm'];have hsl:=hst.1;omega,O.re [3,2]⟩,by show n+1- nv (.i (↑i+1))<n+1- nv (ρ 18);rw[x];simp only[nv];omega⟩
   ·
    simp only[bx]at r
    have L:0<(aF (st.drop nm)).length:=List.length_pos_of_mem r
    refine aX Z Z (am (v:= .str (aF (st.drop nm))) Z) (aX Z Z (ij (ns:=(aF (st.drop nm))) l3 Z Z L hNSb) (aX Z Z (iQ Z Z) (wv Z (aD (b:=true) (v:= .b ((aF (st.drop nm)).getD 0 0==95)) Z Z) (wn ?_))))
    refine bK Z (fun t=> ?_) (fun t=> ?_)
    ·
     simp only[bx]at t
     refine ae (mv (.str (aF (st.drop nm))) Z (wv Z (ig (ns:=(aF (st.drop nm))) l3 Z Z L) (av (.str ((aF (st.drop nm)).drop 1)) Z (wn (ae (mg I Z (mv (.str ((aF (st.drop nm)).drop 1)) Z (wf ja Z (wv Z (d.ld 0 Z dq Z (.e (ys.getD 4 0)) Z) (wf iZ Z (wv Z (d.ld 0 Z dq Z (.e (ys.getD 5 0)) Z) ?_)))))))))))
     refine wf iY Z (wv Z (d.ld 0 Z iF Z (.h (n2 big (ys.drop 6))) Z) (wf iX Z (wv Z (d.ld 0 Z aP Z (.q (n8 big (ys.drop 8))) Z) (wv Z (yz [.str ((aF (st.drop nm)).drop 1),.e (ys.getD 4 0),.e (ys.getD 5 0),.h (n2 big (ys.drop 6)),.q (n8 big (ys.drop 8))] Z (by kernel_rfl)) (wm Z (kt d (ps:= [(0,.agg #[.str ((aF (st.drop nm)).drop 1),.e (ys.getD 4 0),.e (ys.getD 5 0),.h (n2 big (ys.drop 6)),.q (n8 big (ys.drop 8))])]) (e:=193) (cs:= [.str ((aF (st.drop nm)).drop 1),.e (ys.getD 4 0),.e (ys.getD 5 0),.h (n2 big (ys.drop 6)),.q (n8 big (ys.drop 8))]) Z (by kernel_rfl) (fun b5 b6 aG Y=>wm Z (bG Y 3 (m:=1) (news:= [.str ((aF (st.drop nm)).drop 1),.e (ys.getD 4 0),.e (ys.getD 5 0),.h (n2 big (ys.drop 6)),.q (n8 big (ys.drop 8))]) Z m4 m6 Z (by decide) Z Z Z (Y.news (i:=0) Z) (by simp[Value.oneCell']) (by simp only[maxLen];omega) (by omega) (fun b7 b8 P=> ?_)))))))))
     obtain⟨aK,aL,rfl,_,_⟩:=aw (P.g 3 rfl)
     refine av (.s aK (i+1) aL) Z (bk (ak (ac (ae (mg x Z (wv Z (aH (k:= .i64) (c:= ↑i+1) Z Z (a5 (by omega) (by omega))) (ai (↑i+1) Z (wn ?_))))))))
     have hcur:([.str ((aF (st.drop nm)).drop 1),.e (ys.getD 4 0),.e (ys.getD 5 0),.h (n2 big (ys.drop 6)),.q (n8 big (ys.drop 8))]:List Value)=Sym.cells (gc true big st ys):=by unfold gc dZ;rw[show(n4 big ys).toNat=nm from hnm',if_pos ⟨r,t⟩];rfl
     have hdd:(cR true big st xs n)[i]? =some (gc true big st ys):=by rw[fO (by omega),←hys]
     have e8:(↑(16*i):Int)+16= ↑(16*(i+1)):=by omega
     rw[hcur,←dV hdd,e8]at P
     exact⟨⟨i+1,_,_,C,y,E,F,G,H,Z,J,Z,by omega,fun k hk=>by rcases Nat.lt_or_eq_of_le (Nat.le_of_lt_succ hk)with h|h;exact hgood k h;subst h;rw[show eO true xs k=ys from hys.symm];show ¬st.length≤(n4 big ys).toNat;rw[show(n4 big ys).toNat=nm from hnm'];have hsl:=hst.1;omega,P.re [3,2]⟩,by show n+1- nv (.i (↑i+1))<n+1- nv (ρ 18);rw[x];simp only[nv];omega⟩
    ·
     simp only[bx]at t
     refine wk (ae (mg I Z (mv (.str (aF (st.drop nm))) Z (wf ja Z (wv Z (d.ld 0 Z dq Z (.e (ys.getD 4 0)) Z) (wf iZ Z (wv Z (d.ld 0 Z dq Z (.e (ys.getD 5 0)) Z) (wf iY Z (wv Z (d.ld 0 Z iF Z (.h (n2 big (ys.drop 6))) Z) (wf iX Z (wv Z (d.ld 0 Z aP Z (.q (n8 big (ys.drop 8))) Z) ?_)))))))))))
     refine wv Z (yz [.str (aF (st.drop nm)),.e (ys.getD 4 0),.e (ys.getD 5 0),.h (n2 big (ys.drop 6)),.q (n8 big (ys.drop 8))] Z (by kernel_rfl)) (wm Z (kt d (ps:= [(0,.agg #[.str (aF (st.drop nm)),.e (ys.getD 4 0),.e (ys.getD 5 0),.h (n2 big (ys.drop 6)),.q (n8 big (ys.drop 8))])]) (e:=193) (cs:= [.str (aF (st.drop nm)),.e (ys.getD 4 0),.e (ys.getD 5 0),.h (n2 big (ys.drop 6)),.q (n8 big (ys.drop 8))]) Z (by kernel_rfl) (fun b9 bB aM af=>wm Z (bG af 3 (m:=1) (news:= [.str (aF (st.drop nm)),.e (ys.getD 4 0),.e (ys.getD 5 0),.h (n2 big (ys.drop 6)),.q (n8 big (ys.drop 8))]) Z m4 m6 Z (by decide) Z Z Z (af.news (i:=0) Z) (by simp[Value.oneCell']) (by simp only[maxLen];omega) (by omega) (fun bC bD Q=> ?_)))))
     obtain⟨aV,aW,rfl,_,_⟩:=aw (Q.g 3 rfl)
     refine av (.s aV (i+1) aW) Z (bk (ak (ac (ae (mg x Z (wv Z (aH (k:= .i64) (c:= ↑i+1) Z Z (a5 (by omega) (by omega))) (ai (↑i+1) Z (wn ?_))))))))
     have hcur:([.str (aF (st.drop nm)),.e (ys.getD 4 0),.e (ys.getD 5 0),.h (n2 big (ys.drop 6)),.q (n8 big (ys.drop 8))]:List Value)=Sym.cells (gc true big st ys):=by unfold gc dZ;rw[show(n4 big ys).toNat=nm from hnm',if_neg (fun h=>t h.2)];rfl
     have hdd:(cR true big st xs n)[i]? =some (gc true big st ys):=by rw[fO (by omega),←hys]
     have e8:(↑(16*i):Int)+16= ↑(16*(i+1)):=by omega
     rw[hcur,←dV hdd,e8]at Q
     exact⟨⟨i+1,_,_,C,y,E,F,G,H,Z,J,Z,by omega,fun k hk=>by rcases Nat.lt_or_eq_of_le (Nat.le_of_lt_succ hk)with h|h;exact hgood k h;subst h;rw[show eO true xs k=ys from hys.symm];show ¬st.length≤(n4 big ys).toNat;rw[show(n4 big ys).toNat=nm from hnm'];have hsl:=hst.1;omega,Q.re [3,2]⟩,by show n+1- nv (.i (↑i+1))<n+1- nv (ρ 18);rw[x];simp only[nv];omega⟩
 ·
  simp only[bx]at M
  refine bq (ar (ar (aQ (ac (sr (wm Z (aN H3 rM (fun u bE bc bd=>ap u 0 Z (wn (sr (mp u 0 Z ?_)))))))))))
  refine mg E Z (wc Z (wf uN Z (ws (es bd 0 0 (.s Ac nc cc) Z hX (fun bF bf=> ?_)))))
  refine wn (sr (mp u 0 Z (mg I Z (wc Z (wf lC Z (ws (es bf 0 7 (.s Av i cv) Z oH (fun bH ah=> ?_))))))))
  refine wn (sr (mp u 0 Z (ap u 0 Z (av (.n) Z (wn (aY ?_))))))
  have hin:i=n:=by omega
  rw[List.take_of_length_le (by rw[dX];omega)]at ah
  exact⟨.inr Z,_,r2 (.pt u) (.n) Z _ _,.inl ⟨fun k hk=>hgood k (by omega),_,_,_,Res.all [an u [.s Ac nc cc,.w 0,.w 0,.w 0,.w 0,.w 0,.w 0,.s Av i cv] 144,ay 193 5 (.s Av i cv) i ((cR true big st xs n).flatMap Sym.cells)],Z,ah.reAll [0,1] [],fun w hd=>by have hd:=aS.1 hd;subst hin;exact⟨hd (an u [.s Ac nc cc,.w 0,.w 0,.w 0,.w 0,.w 0,.w 0,.s Av i cv] 144) (by simp),by obtain⟨A,c,e,hv,_⟩:=aw (hd (ay 193 5 (.s Av i cv) i ((cR true big st xs i).flatMap Sym.cells)) (by simp));injection e with e;subst e;exact hv⟩⟩⟩
theorem y5{fb gy gt hd n nt ct nc cc:Nat}{Ac:Option Addr}{m0 of:Int}{xs st:List Int}{a0 a1:Addr}(big:Bool)(w:World)(hf0:w.cell? ⟨fb,0,none⟩=some (.w m0))(hf7:w.cell? ⟨fb,7,none⟩=some (.e (bo big)))(hm:m0≠4277009103)(hd3:w.cell? ⟨hd,3,none⟩=some (.w ↑n))(hn:n<4294967296)(hG:Glob 224 w a0 a1)(hw4:4≤w.heap.size)(hr:RI .u8 w (some ⟨gy,0,none⟩) (12*n) xs)(hby:Byt xs)(hgy:gy<w.heap.size)(hst:RI .u8 w (some ⟨gt,0,none⟩) nt st)(hsb:Byt st)(hnt:nt≤ct)(hntN:nt<10485760):
 Calls Tryd.prog 56 #[.pt fb,.sl gy 0 (12*n) (12*n),.sl gt 0 nt ct,.s Ac nc cc,.pt hd,.i of] w fun e w'=>((∀k,k<n → ¬st.length≤(n4 big (eO false xs k)).toNat)∧∃(g:Nat) (Av:Option Addr) (cv:Nat) (D:Res),e= .returned (.tuple #[.pt g,.n])∧St w aR [D] w'∧∀w,D.φ w → (an g [.s Ac nc cc,.w 0,.w 0,.w 0,.w 0,.w 0,.w 0,.s Av n cv] 144).φ w∧RV w Av n 5 ((cR false big st xs n).flatMap Sym.cells))∨((∃k,k<n∧st.length≤(n4 big (eO false xs k)).toNat)∧∃T v,e= .returned (.tuple #[.np,.f T v])∧St w aR [] w'):=by
 refine aA (args:= [.pt fb,.sl gy 0 (12*n) (12*n),.sl gt 0 nt ct,.s Ac nc cc,.pt hd,.i of]) Tryd.func56 Z Z Z ?_
 have H0:=St.nil w aR
 refine sr (av (.np) Z (av (.n) Z (wn (sr (mp fb 0 Z (wc Z (wf iz Z (wv Z (ag jL Z (H0.kc hf7)) (av (.e (bo big)) Z (wn (sr ?_)))))))))))
 refine mp hd 0 Z (wc Z (wf gJ Z (wv Z (ag ax Z (H0.kc hd3)) (wv Z (ao bv be Z (aC (by omega) (by omega))) (wE [.q 32,.q (↑n)] BP Z Z (aa (mx _ hn) ?_))))))
 rintro e w2 ⟨kk,rfl,hkk,a9⟩
 have H3:=H0.cal0 a9
 refine⟨_,Z,ai (↑kk) Z (wn (ad (sr (mi (↑kk) Z (wv Z (bj Z Z (decide_eq_false (by omega))) (wn (al Z (wk (sr (mi (↑kk) Z ?_))))))))))⟩
 refine wm Z (qf H3 m4 m6 Z Z (by omega) (by omega) (by omega) (by omega) (fun gm w5 hgm H5=> ?_))
 rw[show(0:Int).toNat=0 from rfl,Int.toNat_natCast]
 have H6:St w aR [ay 193 5 (.sl gm 0 0 kk) 0 []] w5:=H5.rowOf (i:=0) (cap:=kk) rfl (by rw[Array.length_toList,size_madeCells,Int.toNat_natCast]) (by simp only[maxLen];omega)
 refine eL gm 0 0 kk Z (wn (sr (ms gy 0 (12*n) (12*n) Z (wE [.sl gy 0 (12*n) (12*n)] oR Z Z ?_))))
 have bz:=H6.keep.size
 refine aa (dB (some ⟨gy,0,none⟩) (12*n) (12*n) _) ?_
 rintro e w5 ⟨gq,rfl,hgq,aB⟩
 have H6:=H6.cal0 aB
 refine⟨_,Z,ap gq 0 Z (wn (ad (sr (ai 0 Z (wn (a6 ?_))))))⟩
 have aE:St w aR [ay 193 5 (.sl gm 0 0 kk) 0 (((cR false big st xs n).take 0).flatMap Sym.cells),an gq [.sl gy 0 (12*n) (12*n),.i (↑(12*(0:Nat))),.i (-1)] 190] w5:=H6.re [1,0]
 refine bA (fun ρ w'=> ∃i:Nat,∃Av:Option Addr,∃cv:Nat,ρ 0= .pt fb∧ρ 2= .sl gt 0 nt ct∧ρ 3= .s Ac nc cc∧ρ 4= .pt hd∧ρ 5= .i of∧ρ 14= .e (bo big)∧ρ 16= .s Av i cv∧ρ 17= .pt gq∧ρ 18= .i ↑i∧i≤n∧(∀k,k<i → ¬st.length≤(n4 big (eO false xs k)).toNat)∧St w aR [ay 193 5 (.s Av i cv) i (((cR false big st xs n).take i).flatMap Sym.cells),an gq [.sl gy 0 (12*n) (12*n),.i (↑(12*i)),.i (-1)] 190] w') (fun ρ _=>n+1- nv (ρ 18)) (⟨0,_,_,Z,Z,Z,Z,Z,Z,Z,Z,Z,by omega,by omega,aE⟩) ?_
 rintro ρ w3 ⟨i,Av,cv,C,y,E,F,G,H,I,J,x,hi,hgood,H3⟩
 refine ad (sr (mg x Z (mg F Z (wc Z (wf gJ Z (wv Z (ag ax Z (H3.kc hd3)) (wv Z (ao bv kK Z (a5 (by omega) (by omega))) (wv Z (bR Z Z) (wn ?_)))))))))
 refine bK Z (fun M=> ?_) (fun M=> ?_)
 ·
  simp only[bx]at M
  refine wk (ad (a6 (sr ?_)))
  have hin:i<n:=by omega
  obtain⟨ys,hys⟩: ∃ys,ys=eO false xs i:=⟨_,rfl⟩
  have K:ys=(xs.drop (12*i)).take 12:=hys
  have hbys:Byt ys:=by rw[K];exact(hby.drop _).take _
  obtain⟨aG,b0⟩:=ba big (hbys.drop 0)
  obtain⟨b1,b2⟩:=ba big (hbys.drop 8)
  obtain⟨nm,hnm⟩:=Int.eq_ofNat_of_zero_le aG
  have hnm':(n4 big (ys.drop 0)).toNat=nm:=by omega
  have b3:=H3.keep.size
  have hgql:=H3.lt (i:=1) rfl
  have hNSb:Byt (aF (st.drop nm)):=(hsb.drop _).cst
  refine wm Z (aN H3 rK (fun g8 w9 bt S=>wn (ad (sr (mg C Z (wc Z (wf dE Z (wf i1 Z (wv Z (ag ax Z (S.kc hf0)) (wv Z (aT Z Z (beq_eq_false_iff_ne.2 (by omega))) (wn ?_)))))))))))
  refine al Z (sr (wm Z (aN S xz (fun N b4 aK p=>wn (ad (sr (mg J Z (wv Z (aJ (v:= .pt gq) fu Z) (mg H Z (wE [.pt N,.f 109 (.pt gq),.e (bo big)] CK68 Z Z ?_))))))))))
  have hws:=p.keep.size
  have hgl:=p.lt (i:=0) rfl
  have bu:=p.ge (i:=0) rfl
  have bw:=p.ge (i:=3) rfl
  have hgne:N≠gq:=p.blk_ne (i:=0) (j:=3) rfl rfl (by decide)
  refine aa (mA (ys:=ys) (i:=12*i) (A:=some ⟨gy,0,none⟩) (xs:=xs) big _ (p.g 0 Z) (p.g 3 Z) (hG.keep p.keep (fun k hk=>hk.elim)) (Nat.le_refl _) (by omega) (hr.keep0 p.keep) hby (fun a ha=>by injection ha with ha;subst ha;exact⟨by show gy< _;omega,by show gy≠gq;omega,by show gy≠N;omega⟩) (by omega) (by omega) (by omega) (by omega) (by omega) K) ?_
  rintro e b5 ⟨rfl,U⟩
  have V:=p.ky 0 2 rfl rfl U (fun _ h=>h)
  refine⟨_,Z,av (.n) Z (wn (sr (mv (.n) Z (wv Z ((nn false bI Z (.inl Z))) (wn (al Z (wk (sr (wf tP Z (wv Z (V.ld 0 Z ax Z (.w (n4 big (ys.drop 0))) Z) ?_))))))))))⟩
  refine wf jb Z (ws (es V 2 0 (.w (n4 big (ys.drop 0))) Z ax (fun b6 W=> ?_)))
  refine wn (sr (wf tO Z (wv Z (W.ld 0 Z dq Z (.e (ys.getD 4 0)) Z) (wf ja Z (ws (es W 2 1 (.e (ys.getD 4 0)) Z dq (fun b7 X=> ?_)))))))
  refine wn (sr (wf tN Z (wv Z (X.ld 0 Z dq Z (.e (ys.getD 5 0)) Z) (wf iZ Z (ws (es X 2 2 (.e (ys.getD 5 0)) Z dq (fun b8 Y=> ?_)))))))
  refine wn (sr (wf tM Z (wv Z (Y.ld 0 Z iF Z (.h (n2 big (ys.drop 6))) Z) (wf iY Z (ws (es Y 2 3 (.h (n2 big (ys.drop 6))) Z iF (fun b9 af=> ?_)))))))
  refine wn (ae (wf tL Z (wv Z (af.ld 0 Z ax Z (.w (n4 big (ys.drop 8))) Z) (wv Z (ao bv be Z (aC (by omega) (by omega))) (wf iX Z (ws (es af 2 4 (.q (n4 big (ys.drop 8))) Z aP (fun bB z=> ?_))))))))
  refine wn (ad (sr (wf jb Z (wv Z (z.ld 2 Z ax Z (.w (n4 big (ys.drop 0))) Z) (mg y Z (wv Z (aO bU Z) (wv Z (ao ej jR Z (dm (by omega) (by omega))) (wv Z (jO Z Z) (wn ?_)))))))))
  refine bK Z (fun B=> ?_) (fun B=> ?_)
  ·
   simp only[bx]at B
   refine ad ?_
   have ah:=z.drew
   refine aU MX (fun w'=>w'.cell? ⟨g8,0,none⟩=some (.w (n4 big (ys.drop 0)))) (tr 0 5 (Pl.take 7 (Pl.run 5 (Pl.take 6 (Pl.take 8 Pl.done))))) (by kernel_rfl) (ah.c 2 0 Z Z) (qm (.i of) Z G (qy Z (ab (o:=0) jb Z) (qh Z (fun hS=>ag ax Z hS) (qy Z (aJ (v:= .w (n4 big (ys.drop 0))) zv Z) (qy Z (yb (ps:= [(0,.i of),(1,.string _),(2,.f 24 (.w (n4 big (ys.drop 0))))]) (cells:=#[.i of,.string (⟨#[105,110,118,97,108,105,100,32,110,97,109,101,32,105,110,32,115,121,109,98,111,108,32,116,97,98,108,101]⟩),.f 24 (.w (n4 big (ys.drop 0)))]) Z (by kernel_rfl)) (qa (.np) Z Z (qr Z (fq ah (vs:= [.i of,.string _,.f 24 (.w (n4 big (ys.drop 0)))]) Z Z (fun O bC aL aj=>⟨aj.c 3 0 Z Z,fun _=>trivial,qy Z (aJ (v:= .pt O) jx Z) (qa (.f 154 (.pt O)) Z Z ?_)⟩)))))))))
   refine pn (rq (aI (a7 (a7 (aI (a7 ?_))))))
   exact⟨.inr Z,_,r2 (.np) (.f 154 (.pt O)) Z _ _,.inr ⟨⟨i,by omega,by rw[show eO false xs i=ys from hys.symm];show st.length≤(n4 big ys).toNat;rw[show(n4 big ys).toNat=nm from hnm'];rw[hst.1];omega⟩,_,_,Z,aj.sub (List.nil_sublist _)⟩⟩
  ·
   simp only[bx]at B
   refine wk (sr (mg y Z (wf jb Z (wv Z (z.ld 2 Z ax Z (.w (n4 big (ys.drop 0))) Z) (wv Z ((aq (l:=nm) (h:=nt) aZ Z (bh Z (by omega) (by omega)) bn (by omega) (by omega) (by omega) (Nat.zero_add _):Yv _ _ _ _ (.sl gt nm (nt- nm) (ct- nm)) _)) (wE [.sl gt nm (nt- nm) (ct- nm)] pw Z Z (aa (eV _ (by have h:=(hst.keep0 z.keep).drop_ nm;rwa [Nat.zero_add]at h) (hsb.drop _) (by omega) (by omega)) ?_)))))))
   rintro e bD ⟨rfl,au⟩
   have aM:=z.cal0 au
   refine⟨_,Z,av (.str (aF (st.drop nm))) Z (wn (ad (sr (mv (.str (aF (st.drop nm))) Z (wE [.str (aF (st.drop nm)),.string (⟨#[46]⟩)] CK69 Z Z ?_)))))⟩
   have hNSl:(aF (st.drop nm)).length<9223372036854775807:=by have:=ou (st.drop nm);rw[List.length_drop,hst.1]at this;omega
   refine aa (lm _ hNSb hNSl) ?_
   rintro e bE ⟨rfl,az⟩
   have d:=aM.cal0 az
   refine⟨_,Z,mv (.b (decide (46 ∈ (aF (st.drop nm))))) Z ?_⟩
   generalize r:(decide (46 ∈ (aF (st.drop nm))))=bb
   cases bb
   ·
    simp only[bx]at r
    refine ck Z Z (ck Z Z (ck Z Z (wv Z (aD (b:=false) (v:= .b false) Z Z) (wn (al Z (wk (ae (mg I Z (mv (.str (aF (st.drop nm))) Z (wf ja Z (wv Z (d.ld 2 Z dq Z (.e (ys.getD 4 0)) Z) ?_)))))))))))
    refine wf iZ Z (wv Z (d.ld 2 Z dq Z (.e (ys.getD 5 0)) Z) (wf iY Z (wv Z (d.ld 2 Z iF Z (.h (n2 big (ys.drop 6))) Z) (wf iX Z (wv Z (d.ld 2 Z aP Z (.q (n4 big (ys.drop 8))) Z) (wv Z (yz [.str (aF (st.drop nm)),.e (ys.getD 4 0),.e (ys.getD 5 0),.h (n2 big (ys.drop 6)),.q (n4 big (ys.drop 8))] Z (by kernel_rfl)) (wm Z (kt d (ps:= [(0,.agg #[.str (aF (st.drop nm)),.e (ys.getD 4 0),.e (ys.getD 5 0),.h (n2 big (ys.drop 6)),.q (n4 big (ys.drop 8))])]) (e:=193) (cs:= [.str (aF (st.drop nm)),.e (ys.getD 4 0),.e (ys.getD 5 0),.h (n2 big (ys.drop 6)),.q (n4 big (ys.drop 8))]) Z (by kernel_rfl) (fun bF bH aV a2=>wm Z (bG a2 4 (m:=1) (news:= [.str (aF (st.drop nm)),.e (ys.getD 4 0),.e (ys.getD 5 0),.h (n2 big (ys.drop 6)),.q (n4 big (ys.drop 8))]) Z m4 m6 Z (by decide) Z Z Z (a2.news (i:=0) Z) (by simp[Value.oneCell']) (by simp only[maxLen];omega) (by omega) (fun bJ bL P=> ?_)))))))))))
    obtain⟨aW,bc,rfl,_,_⟩:=aw (P.g 4 rfl)
    refine av (.s aW (i+1) bc) Z (bk (ak (ac (ae (mg x Z (wv Z (aH (k:= .i64) (c:= ↑i+1) Z Z (a5 (by omega) (by omega))) (ai (↑i+1) Z (wn ?_))))))))
    have hcur:([.str (aF (st.drop nm)),.e (ys.getD 4 0),.e (ys.getD 5 0),.h (n2 big (ys.drop 6)),.q (n4 big (ys.drop 8))]:List Value)=Sym.cells (gc false big st ys):=by unfold gc dZ;rw[show(n4 big ys).toNat=nm from hnm',if_neg (fun h=>r h.1)];rfl
    have hdd:(cR false big st xs n)[i]? =some (gc false big st ys):=by rw[fO (by omega),←hys]
    have e8:(↑(12*i):Int)+12= ↑(12*(i+1)):=by omega
    rw[hcur,←dV hdd,e8]at P
    exact⟨⟨i+1,_,_,C,y,E,F,G,H,Z,J,Z,by omega,fun k hk=>by rcases Nat.lt_or_eq_of_le (Nat.le_of_lt_succ hk)with h|h;exact hgood k h;subst h;rw[show eO false xs k=ys from hys.symm];show ¬st.length≤(n4 big ys).toNat;rw[show(n4 big ys).toNat=nm from hnm'];have hsl:=hst.1;omega,P.re [4,2]⟩,by show n+1- nv (.i (↑i+1))<n+1- nv (ρ 18);rw[x];simp only[nv];omega⟩
   ·
    simp only[bx]at r
    have L:0<(aF (st.drop nm)).length:=List.length_pos_of_mem r
    refine aX Z Z (am (v:= .str (aF (st.drop nm))) Z) (aX Z Z (ij (ns:=(aF (st.drop nm))) l3 Z Z L hNSb) (aX Z Z (iQ Z Z) (wv Z (aD (b:=true) (v:= .b ((aF (st.drop nm)).getD 0 0==95)) Z Z) (wn ?_))))
    refine bK Z (fun t=> ?_) (fun t=> ?_)
    ·
     simp only[bx]at t
     refine ae (mv (.str (aF (st.drop nm))) Z (wv Z (ig (ns:=(aF (st.drop nm))) l3 Z Z L) (av (.str ((aF (st.drop nm)).drop 1)) Z (wn (ae (mg I Z (mv (.str ((aF (st.drop nm)).drop 1)) Z (wf ja Z (wv Z (d.ld 2 Z dq Z (.e (ys.getD 4 0)) Z) (wf iZ Z (wv Z (d.ld 2 Z dq Z (.e (ys.getD 5 0)) Z) ?_)))))))))))
     refine wf iY Z (wv Z (d.ld 2 Z iF Z (.h (n2 big (ys.drop 6))) Z) (wf iX Z (wv Z (d.ld 2 Z aP Z (.q (n4 big (ys.drop 8))) Z) (wv Z (yz [.str ((aF (st.drop nm)).drop 1),.e (ys.getD 4 0),.e (ys.getD 5 0),.h (n2 big (ys.drop 6)),.q (n4 big (ys.drop 8))] Z (by kernel_rfl)) (wm Z (kt d (ps:= [(0,.agg #[.str ((aF (st.drop nm)).drop 1),.e (ys.getD 4 0),.e (ys.getD 5 0),.h (n2 big (ys.drop 6)),.q (n4 big (ys.drop 8))])]) (e:=193) (cs:= [.str ((aF (st.drop nm)).drop 1),.e (ys.getD 4 0),.e (ys.getD 5 0),.h (n2 big (ys.drop 6)),.q (n4 big (ys.drop 8))]) Z (by kernel_rfl) (fun bM bN bd a3=>wm Z (bG a3 4 (m:=1) (news:= [.str ((aF (st.drop nm)).drop 1),.e (ys.getD 4 0),.e (ys.getD 5 0),.h (n2 big (ys.drop 6)),.q (n4 big (ys.drop 8))]) Z m4 m6 Z (by decide) Z Z Z (a3.news (i:=0) Z) (by simp[Value.oneCell']) (by simp only[maxLen];omega) (by omega) (fun bO bP Q=> ?_)))))))))
     obtain⟨bf,bg,rfl,_,_⟩:=aw (Q.g 4 rfl)
     refine av (.s bf (i+1) bg) Z (bk (ak (ac (ae (mg x Z (wv Z (aH (k:= .i64) (c:= ↑i+1) Z Z (a5 (by omega) (by omega))) (ai (↑i+1) Z (wn ?_))))))))
     have hcur:([.str ((aF (st.drop nm)).drop 1),.e (ys.getD 4 0),.e (ys.getD 5 0),.h (n2 big (ys.drop 6)),.q (n4 big (ys.drop 8))]:List Value)=Sym.cells (gc false big st ys):=by unfold gc dZ;rw[show(n4 big ys).toNat=nm from hnm',if_pos ⟨r,t⟩];rfl
     have hdd:(cR false big st xs n)[i]? =some (gc false big st ys):=by rw[fO (by omega),←hys]
     have e8:(↑(12*i):Int)+12= ↑(12*(i+1)):=by omega
     rw[hcur,←dV hdd,e8]at Q
     exact⟨⟨i+1,_,_,C,y,E,F,G,H,Z,J,Z,by omega,fun k hk=>by rcases Nat.lt_or_eq_of_le (Nat.le_of_lt_succ hk)with h|h;exact hgood k h;subst h;rw[show eO false xs k=ys from hys.symm];show ¬st.length≤(n4 big ys).toNat;rw[show(n4 big ys).toNat=nm from hnm'];have hsl:=hst.1;omega,Q.re [4,2]⟩,by show n+1- nv (.i (↑i+1))<n+1- nv (ρ 18);rw[x];simp only[nv];omega⟩
    ·
     simp only[bx]at t
     refine wk (ae (mg I Z (mv (.str (aF (st.drop nm))) Z (wf ja Z (wv Z (d.ld 2 Z dq Z (.e (ys.getD 4 0)) Z) (wf iZ Z (wv Z (d.ld 2 Z dq Z (.e (ys.getD 5 0)) Z) (wf iY Z (wv Z (d.ld 2 Z iF Z (.h (n2 big (ys.drop 6))) Z) (wf iX Z (wv Z (d.ld 2 Z aP Z (.q (n4 big (ys.drop 8))) Z) ?_)))))))))))
     refine wv Z (yz [.str (aF (st.drop nm)),.e (ys.getD 4 0),.e (ys.getD 5 0),.h (n2 big (ys.drop 6)),.q (n4 big (ys.drop 8))] Z (by kernel_rfl)) (wm Z (kt d (ps:= [(0,.agg #[.str (aF (st.drop nm)),.e (ys.getD 4 0),.e (ys.getD 5 0),.h (n2 big (ys.drop 6)),.q (n4 big (ys.drop 8))])]) (e:=193) (cs:= [.str (aF (st.drop nm)),.e (ys.getD 4 0),.e (ys.getD 5 0),.h (n2 big (ys.drop 6)),.q (n4 big (ys.drop 8))]) Z (by kernel_rfl) (fun bQ bS bi a4=>wm Z (bG a4 4 (m:=1) (news:= [.str (aF (st.drop nm)),.e (ys.getD 4 0),.e (ys.getD 5 0),.h (n2 big (ys.drop 6)),.q (n4 big (ys.drop 8))]) Z m4 m6 Z (by decide) Z Z Z (a4.news (i:=0) Z) (by simp[Value.oneCell']) (by simp only[maxLen];omega) (by omega) (fun bT bV R=> ?_)))))
     obtain⟨bl,bm,rfl,_,_⟩:=aw (R.g 4 rfl)
     refine av (.s bl (i+1) bm) Z (bk (ak (ac (ae (mg x Z (wv Z (aH (k:= .i64) (c:= ↑i+1) Z Z (a5 (by omega) (by omega))) (ai (↑i+1) Z (wn ?_))))))))
     have hcur:([.str (aF (st.drop nm)),.e (ys.getD 4 0),.e (ys.getD 5 0),.h (n2 big (ys.drop 6)),.q (n4 big (ys.drop 8))]:List Value)=Sym.cells (gc false big st ys):=by unfold gc dZ;rw[show(n4 big ys).toNat=nm from hnm',if_neg (fun h=>t h.2)];rfl
     have hdd:(cR false big st xs n)[i]? =some (gc false big st ys):=by rw[fO (by omega),←hys]
     have e8:(↑(12*i):Int)+12= ↑(12*(i+1)):=by omega
     rw[hcur,←dV hdd,e8]at R
     exact⟨⟨i+1,_,_,C,y,E,F,G,H,Z,J,Z,by omega,fun k hk=>by rcases Nat.lt_or_eq_of_le (Nat.le_of_lt_succ hk)with h|h;exact hgood k h;subst h;rw[show eO false xs k=ys from hys.symm];show ¬st.length≤(n4 big ys).toNat;rw[show(n4 big ys).toNat=nm from hnm'];have hsl:=hst.1;omega,R.re [4,2]⟩,by show n+1- nv (.i (↑i+1))<n+1- nv (ρ 18);rw[x];simp only[nv];omega⟩
 ·
  simp only[bx]at M
  refine bq (ar (ar (aQ (ac (sr (wm Z (aN H3 rM (fun u bW bp br=>ap u 0 Z (wn (sr (mp u 0 Z ?_)))))))))))
  refine mg E Z (wc Z (wf uN Z (ws (es br 0 0 (.s Ac nc cc) Z hX (fun bX bs=> ?_)))))
  refine wn (sr (mp u 0 Z (mg I Z (wc Z (wf lC Z (ws (es bs 0 7 (.s Av i cv) Z oH (fun bY a8=> ?_))))))))
  refine wn (sr (mp u 0 Z (ap u 0 Z (av (.n) Z (wn (aY ?_))))))
  have hin:i=n:=by omega
  rw[List.take_of_length_le (by rw[dX];omega)]at a8
  exact⟨.inr Z,_,r2 (.pt u) (.n) Z _ _,.inl ⟨fun k hk=>hgood k (by omega),_,_,_,Res.all [an u [.s Ac nc cc,.w 0,.w 0,.w 0,.w 0,.w 0,.w 0,.s Av i cv] 144,ay 193 5 (.s Av i cv) i ((cR false big st xs n).flatMap Sym.cells)],Z,a8.reAll [0,1] [],fun w hd=>by have hd:=aS.1 hd;subst hin;exact⟨hd (an u [.s Ac nc cc,.w 0,.w 0,.w 0,.w 0,.w 0,.w 0,.s Av i cv] 144) (by simp),by obtain⟨A,c,e,hv,_⟩:=aw (hd (ay 193 5 (.s Av i cv) i ((cR false big st xs i).flatMap Sym.cells)) (by simp));injection e with e;subst e;exact hv⟩⟩⟩
theorem c6{A:Option Addr}{n c:Nat}{ns:List Int}(w:World)(hr:RI .u8 w A n ns)(hc:n≤c)(hn:n≤4294967295):
 Calls Tryd.prog 39 #[.s A n c] w fun e w'=>e= .returned (.str (aF ns))∧St w aR [] w':=by
 refine aA (args:= [.s A n c]) Tryd.func39 Z Z Z ?_
 have H0:=St.nil w aR
 refine sr (av (.string (⟨#[]⟩)) Z (wn (ad (sr (mv (.s A n c) Z (wv Z (aO bU Z) (mi 0 Z (wn (a6 (bA (fun ρ w'=> ∃i:Nat,ρ 0= .s A n c∧ρ 5= .s A n c∧ρ 6= .i ↑n∧ρ 7= .i ↑i∧i≤n∧(∀j,j<i → ns.getD j 0≠0)∧St w aR [] w') (fun ρ _=>n+1- nv (ρ 7)) (⟨0,Z,Z,Z,Z,by omega,by omega,H0⟩) ?_))))))))))
 rintro ρ w1 ⟨i,h0,h5,h6,h7,hi,hall,H1⟩
 refine sr (wv Z (bR h7 h6) (wn (ad ?_)))
 refine bK Z (fun b=> ?_) (fun b=> ?_)
 ·
  simp only[bx]at b
  refine wk (ad (a6 (sr ?_)))
  have hin:i<n:=by omega
  obtain⟨g,o,rfl,hcell⟩:=hr.at_ hin
  refine mg h7 Z (wv Z (bi i aZ h5 h7 Z (by omega) (by rw[Nat.mul_one])) (wv Z (ag dq Z (H1.kc hcell)) (ai (↑i) Z (av (.e (ns.getD i 0)) Z (wn (sr (mv (.e (ns.getD i 0)) Z (wv Z (iQ Z Z) (wn ?_)))))))))
  refine bK Z (fun a=> ?_) (fun a=> ?_)
  ·
   simp only[bx]at a
   have hz:=a
   refine sr (mg h0 Z (mi (↑i) Z (wv Z ((aq (l:=0) (h:=i) aZ Z bn (bh Z (by omega) (by omega)) (by omega) (by omega) (by omega) (Nat.add_zero _):Yv _ _ _ _ (.sl g o i c) _)) (wv Z (fh bB lk l3 Z (xs:=aF ns) (by rw[AH hall (by rw[hr.1];exact hin) hz];exact(hr.keep0 H1.keep).take (by omega)) (fun h=>by cases h)) (av (.str (aF ns)) Z (wn (aY (aI (a7 (a7 (aI ?_)))))))))))
   refine a7 ?_
   exact⟨.inr Z,_,r1 (.str (aF ns)) Z _ _,⟨Z,H1⟩⟩
  ·
   simp only[bx]at a
   refine dw (ak (ac (ae (wv Z (aH (k:= .i64) (c:= ↑i+1) h7 Z (a5 (by omega) (by omega))) (mi (↑i+1) Z (wn ?_))))))
   exact⟨⟨i+1,h0,h5,h6,Z,by omega,fun j hj=>by rcases Nat.lt_or_eq_of_le (Nat.le_of_lt_succ hj)with h|h;exact hall j h;subst h;assumption,H1⟩,by show n+1- nv (.i (↑i+1))<n+1- nv (ρ 7);rw[h7];simp only[nv];omega⟩
 ·
  simp only[bx]at b
  refine bq (ar (ar (aQ (ac (sr (mg h0 Z (wv Z (fh bB lk l3 Z (xs:=aF ns) (by rw[yC (fun j hj=>hall j (by rw[hr.1]at hj;omega))];exact hr.keep0 H1.keep) hr.none0) (av (.str (aF ns)) Z (wn (aY ?_))))))))))
  exact⟨.inr Z,_,r1 (.str (aF ns)) Z _ _,⟨Z,H1⟩⟩
theorem sw{A:Option Addr}{n c wd:Nat}{ns:List Int}(w:World)(hr:RI .u8 w A n ns)(hb:Byt ns)(hwd:wd≤n)(hw8:wd≤8):
 Calls Tryd.prog 25 #[.b true,.i ↑wd,.s A n c] w fun e w'=>e= .returned (.q (jl ns wd))∧St w aR [] w':=by
 refine aA (args:= [.b true,.i (↑wd),.s A n c]) Tryd.func25 Z Z Z ?_
 have H0:=St.nil w aR
 refine sr (au 0 Z (wn (sr (au 0 Z (wn (ad (sr (mi (↑wd) Z (mi 0 Z (wn (a6 ?_)))))))))))
 refine bA (fun ρ w'=> ∃i:Nat,ρ 0= .b true∧ρ 2= .s A n c∧ρ 7= .q (jl ns i)∧ρ 9= .i ↑wd∧ρ 10= .i ↑i∧i≤wd∧St w aR [] w') (fun ρ _=>wd+1- nv (ρ 10)) (⟨0,Z,Z,Z,Z,Z,by omega,H0⟩) ?_
 rintro ρ w1 ⟨i,h0,h2,h7,h9,a,hi,H1⟩
 refine sr (wv Z (bR a h9) (wn (ad ?_)))
 refine bK Z (fun d=> ?_) (fun d=> ?_)
 ·
  simp only[bx]at d
  refine wk (ad (a6 (sr ?_)))
  have hin:i<n:=by omega
  have f:i≤7:=by omega
  have hbi:=hb i
  obtain⟨g,o,rfl,hcell⟩:=hr.at_ hin
  refine mg a Z (ai (↑i) Z (wn (sr (mg h0 Z (wn (aB Z (ae (mg h7 Z (wv Z (lp (c:=jl ns i*256) (by exact Z) Z (by decide) (xr hb f)) (mg h2 Z (mi (↑i) Z ?_)))))))))))
  refine wv Z (bi i aZ Z Z Z (by omega) (by rw[Nat.mul_one])) (wv Z (ag dq Z (H1.kc hcell)) (wv Z (ao zL be Z (aC hbi.1 (by omega))) (wv Z (qW (c:=jl ns (i+1)) Z Z (yH hb f)) (au (jl ns (i+1)) Z (bk (ak (ac (ae (wv Z (aH (k:= .i64) (c:= ↑i+1) a Z (a5 (by omega) (by omega))) (mi (↑i+1) Z (wn ?_)))))))))))
  exact⟨⟨i+1,h0,h2,Z,h9,Z,by omega,H1⟩,by show wd+1- nv (.i (↑i+1))<wd+1- nv (ρ 10);rw[a];simp only[nv];omega⟩
 ·
  simp only[bx]at d
  refine bq (ar (ar (aQ (ac (sr (mg h7 Z (au (jl ns i) Z (wn (aY ?_)))))))))
  exact⟨.inr Z,_,r1 (.q (jl ns i)) Z _ _,⟨by rw[show i=wd by omega],H1⟩⟩
theorem qO{A:Option Addr}{n c wd:Nat}{ns:List Int}(w:World)(hr:RI .u8 w A n ns)(hb:Byt ns)(hwd:wd≤n)(hw8:wd≤8):
 Calls Tryd.prog 25 #[.b false,.i ↑wd,.s A n c] w fun e w'=>e= .returned (.q (j9 ns wd))∧St w aR [] w':=by
 refine aA (args:= [.b false,.i (↑wd),.s A n c]) Tryd.func25 Z Z Z ?_
 have H0:=St.nil w aR
 refine sr (au 0 Z (wn (sr (au 0 Z (wn (ad (sr (mi (↑wd) Z (mi 0 Z (wn (a6 ?_)))))))))))
 refine bA (fun ρ w'=> ∃i:Nat,ρ 0= .b false∧ρ 2= .s A n c∧ρ 7= .q (j9 ns i)∧ρ 9= .i ↑wd∧ρ 10= .i ↑i∧i≤wd∧St w aR [] w') (fun ρ _=>wd+1- nv (ρ 10)) (⟨0,Z,Z,Z,Z,Z,by omega,H0⟩) ?_
 rintro ρ w1 ⟨i,h0,h2,h7,h9,a,hi,H1⟩
 refine sr (wv Z (bR a h9) (wn (ad ?_)))
 refine bK Z (fun d=> ?_) (fun d=> ?_)
 ·
  simp only[bx]at d
  refine wk (ad (a6 (sr ?_)))
  have hin:i<n:=by omega
  have f:i≤7:=by omega
  have hbi:=hb i
  obtain⟨g,o,rfl,hcell⟩:=hr.at_ hin
  refine mg a Z (ai (↑i) Z (wn (sr (mg h0 Z (wn (al Z (ae (mg h7 Z (mg h2 Z (mi (↑i) Z (wv Z (bi i aZ Z Z Z (by omega) (by rw[Nat.mul_one])) ?_)))))))))))
  refine wv Z (ag dq Z (H1.kc hcell)) (wv Z (ao zL be Z (aC hbi.1 (by omega))) (mi (↑i) Z (wv Z (cM (k:= .i64) (c:=8* ↑i) Z Z (a5 (by omega) (by omega))) (wv Z (lp (c:=ns.getD i 0*256 ^ i) Z Z (by omega) (xq hb f)) (wv Z (qW (c:=j9 ns (i+1)) Z Z (yG hb f)) (au (j9 ns (i+1)) Z (bk (ak (ac (ae (wv Z (aH (k:= .i64) (c:= ↑i+1) a Z (a5 (by omega) (by omega))) ?_)))))))))))
  refine mi (↑i+1) Z (wn ?_)
  exact⟨⟨i+1,h0,h2,Z,h9,Z,by omega,H1⟩,by show wd+1- nv (.i (↑i+1))<wd+1- nv (ρ 10);rw[a];simp only[nv];omega⟩
 ·
  simp only[bx]at d
  refine bq (ar (ar (aQ (ac (sr (mg h7 Z (au (j9 ns i) Z (wn (aY ?_)))))))))
  exact⟨.inr Z,_,r1 (.q (j9 ns i)) Z _ _,⟨by rw[show i=wd by omega],H1⟩⟩
theorem ez(big:Bool){A:Option Addr}{n c wd:Nat}{ns:List Int}(w:World)(hr:RI .u8 w A n ns)(hb:Byt ns)(hwd:wd≤n)(hw8:wd≤8):
 Calls Tryd.prog 25 #[.b big,.i ↑wd,.s A n c] w fun e w'=>e= .returned (.q (qR big ns wd))∧St w aR [] w':=by
 cases big
 · exact qO w hr hb hwd hw8
 · exact sw w hr hb hwd hw8
theorem rf{A:Option Addr}{n c from_ size:Nat}(w:World)(hn:n≤4294967295)(hfs:from_+size<18446744073709551616)(hz:size=0):
 Calls Tryd.prog 28 #[.s A n c,.q ↑from_,.q ↑size] w fun e w'=>e= .returned (.b true)∧St w aR [] w':=by
 refine aA (args:= [.s A n c,.q (↑from_),.q (↑size)]) Tryd.func28 Z Z Z ?_
 have H0:=St.nil w aR
 refine sr (av (.b false) Z (wn (sr (mu (↑size) Z (wv Z (aT Z Z (beq_iff_eq.2 (by omega))) (mv (.b true) Z (ck Z Z (ck Z Z (ck Z Z (ck Z Z (ck Z Z ?_)))))))))))
 refine ck Z Z (ck Z Z (wv Z (aD (b:=true) (v:= .b true) Z Z) (av (.b true) Z (wn (aY ?_)))))
 exact⟨.inr Z,_,r1 (.b true) Z _ _,⟨Z,H0⟩⟩
theorem vo{A:Option Addr}{n c from_ size:Nat}(w:World)(hn:n≤4294967295)(hfs:from_+size<18446744073709551616)(hz:0<size)(hf:from_+size≤n):
 Calls Tryd.prog 28 #[.s A n c,.q ↑from_,.q ↑size] w fun e w'=>e= .returned (.b true)∧St w aR [] w':=by
 refine aA (args:= [.s A n c,.q (↑from_),.q (↑size)]) Tryd.func28 Z Z Z ?_
 have H0:=St.nil w aR
 refine sr (av (.b false) Z (wn (sr (mu (↑size) Z (wv Z (aT Z Z (beq_eq_false_iff_ne.2 (by omega))) (mv (.b false) Z (aX Z Z (am (v:= .q (↑from_)) Z) (aX Z Z (am (v:= .q (↑size)) Z) (aX Z Z (aH (k:= .u64) (c:= ↑from_+ ↑size) Z Z (aC (by omega) (by omega))) (aX Z Z (am (v:= .s A n c) Z) (aX Z Z (aO bU Z) ?_)))))))))))
 refine aX Z Z (ao ej be Z (aC (by omega) (by omega))) (aX Z Z (i8 Z Z (decide_eq_true (by omega))) (wv Z (aD (b:=false) (v:= .b true) Z Z) (av (.b true) Z (wn (aY ?_)))))
 exact⟨.inr Z,_,r1 (.b true) Z _ _,⟨Z,H0⟩⟩
theorem sI{A:Option Addr}{n c from_ size:Nat}(w:World)(hn:n≤4294967295)(hfs:from_+size<18446744073709551616)(hz:0<size)(hf:n<from_+size):
 Calls Tryd.prog 28 #[.s A n c,.q ↑from_,.q ↑size] w fun e w'=>e= .returned (.b false)∧St w aR [] w':=by
 refine aA (args:= [.s A n c,.q (↑from_),.q (↑size)]) Tryd.func28 Z Z Z ?_
 have H0:=St.nil w aR
 refine sr (av (.b false) Z (wn (sr (mu (↑size) Z (wv Z (aT Z Z (beq_eq_false_iff_ne.2 (by omega))) (mv (.b false) Z (aX Z Z (am (v:= .q (↑from_)) Z) (aX Z Z (am (v:= .q (↑size)) Z) (aX Z Z (aH (k:= .u64) (c:= ↑from_+ ↑size) Z Z (aC (by omega) (by omega))) (aX Z Z (am (v:= .s A n c) Z) (aX Z Z (aO bU Z) ?_)))))))))))
 refine aX Z Z (ao ej be Z (aC (by omega) (by omega))) (aX Z Z (i8 Z Z (decide_eq_false (by omega))) (wv Z (aD (b:=false) (v:= .b false) Z Z) (av (.b false) Z (wn (aY ?_)))))
 exact⟨.inr Z,_,r1 (.b false) Z _ _,⟨Z,H0⟩⟩
theorem qp:dA Tryd.prog 67 [.w 0,.w 0,.e 0,.e 0,.b false,.b false,.b false]:=bO (by kernel_rfl)
theorem AQ:(Tryd.prog.info? 67).map (·.size)=some 7:=by kernel_rfl
theorem yM:iJ Tryd.prog 67 7:=eG (by kernel_rfl)
theorem vV{big:Bool}{a b:Int}(w:World)(ha0:0≤a)(ha1:a<4294967296)(hb0:0≤b)(hb1:b<4294967296)(hsc:a / 2147483648%2=1):
 Calls Tryd.prog 19 #[.b big,.w a,.w b] w fun e w'=>e= .returned (.agg (hJ big a b).cells.toArray)∧St w aR [] w':=by
 refine aA (args:= [.b big,.w a,.w b]) Tryd.func19 Z Z Z ?_
 have H0:=St.nil w aR
 refine sr (wm Z (aN H0 qp (fun g1 w2 d H3=>wn (ad (a6 (sr (mv (.w a) Z (wv Z (dM (c:=a / 2147483648) Z Z (by decide) (by rw[show(2:Int) ^ (min (31:Int).toNat IntKind.u32.bits)=2147483648 from by decide,Int.fdiv_eq_ediv_of_nonneg _ (by decide)])) (wv Z (aT Z Z (beq_iff_eq.2 (by omega))) (av (.b true) Z (wn ?_)))))))))))
 refine aB Z (sr (mv (.w a) Z (wv Z (dG (k:= .u32) (c:=a%16777216) Z Z (c7 24 Z (by omega) (by simp only[IntKind.bits];omega) (by decide) (by decide) (by decide))) (mv (.w b) Z (mv (.w a) Z (wv Z (dM (c:=a / 16777216) Z Z (by decide) (by rw[show(2:Int) ^ (min (24:Int).toNat IntKind.u32.bits)=16777216 from by decide,Int.fdiv_eq_ediv_of_nonneg _ (by decide)])) (wv Z (dG (k:= .u32) (c:=a / 16777216%16) Z Z (c7 4 Z (by omega) (by simp only[IntKind.bits];omega) (by decide) (by decide) (by decide))) (wv Z (ao bv lk Z (gM (by omega) (by omega))) (mv (.w a) Z (wv Z (dM (c:=a / 268435456) Z Z (by decide) (by rw[show(2:Int) ^ (min (28:Int).toNat IntKind.u32.bits)=268435456 from by decide,Int.fdiv_eq_ediv_of_nonneg _ (by decide)])) (wv Z (dG (k:= .u32) (c:=a / 268435456%4) Z Z (c7 2 Z (by omega) (by simp only[IntKind.bits];omega) (by decide) (by decide) (by decide))) ?_)))))))))))
 refine wv Z (ao bv lk Z (gM (by omega) (by omega))) (mv (.w a) Z (wv Z (dM (c:=a / 1073741824) Z Z (by decide) (by rw[show(2:Int) ^ (min (30:Int).toNat IntKind.u32.bits)=1073741824 from by decide,Int.fdiv_eq_ediv_of_nonneg _ (by decide)])) (wv Z (dG (k:= .u32) (c:=a / 1073741824%2) Z Z (c7 1 Z (by omega) (by simp only[IntKind.bits];omega) (by decide) (by decide) (by decide))) (wv Z ((show Yv _ _ _ _ (.b (decide (a / 1073741824%2=1))) _ from iQ (k:= .u32) (a:=a / 1073741824%2) (b:=1) Z Z)) (wv Z (yb (ps:= [(0,.w (a%16777216)),(1,.w b),(2,.e (a / 16777216%16)),(3,.e (a / 268435456%4)),(4,.b (decide (a / 1073741824%2=1))),(6,.b true)]) (cells:=#[.w (a%16777216),.w b,.e (a / 16777216%16),.e (a / 268435456%4),.b (decide (a / 1073741824%2=1)),.b false,.b true]) Z (by kernel_rfl)) (ws (eN H3 0 [.w (a%16777216),.w b,.e (a / 16777216%16),.e (a / 268435456%4),.b (decide (a / 1073741824%2=1)),.b false,.b true] Z AQ (fun w5 H4=> ?_))))))))
 refine wn (aY (aI (a7 ?_)))
 exact⟨.inr Z,_,iK Z yM (by exact Z) (H4.g 0 Z) Z,⟨by unfold hJ;rw[if_pos hsc];rfl,H4.sub (List.nil_sublist _)⟩⟩
theorem vX{a b:Int}(w:World)(ha0:0≤a)(ha1:a<4294967296)(hb0:0≤b)(hb1:b<4294967296)(hsc: ¬a / 2147483648%2=1):
 Calls Tryd.prog 19 #[.b true,.w a,.w b] w fun e w'=>e= .returned (.agg (hJ true a b).cells.toArray)∧St w aR [] w':=by
 refine aA (args:= [.b true,.w a,.w b]) Tryd.func19 Z Z Z ?_
 have H0:=St.nil w aR
 refine sr (wm Z (aN H0 qp (fun g1 w2 d H3=>wn (ad (a6 (sr (mv (.w a) Z (wv Z (dM (c:=a / 2147483648) Z Z (by decide) (by rw[show(2:Int) ^ (min (31:Int).toNat IntKind.u32.bits)=2147483648 from by decide,Int.fdiv_eq_ediv_of_nonneg _ (by decide)])) (wv Z (aT Z Z (beq_eq_false_iff_ne.2 (by omega))) (av (.b false) Z (wn ?_)))))))))))
 refine al Z (sr (mv (.b true) Z (av (.b true) Z (wn (aB Z (sr (mv (.w a) Z (mv (.w b) Z (wv Z (dM (c:=b / 256) Z Z (by decide) (by rw[show(2:Int) ^ (min (8:Int).toNat IntKind.u32.bits)=256 from by decide,Int.fdiv_eq_ediv_of_nonneg _ (by decide)])) (mv (.w b) Z (wv Z (dG (k:= .u32) (c:=b%16) Z Z (c7 4 Z (by omega) (by simp only[IntKind.bits];omega) (by decide) (by decide) (by decide))) ?_)))))))))))
 refine wv Z (ao bv lk Z (gM (by omega) (by omega))) (mv (.w b) Z (wv Z (dM (c:=b / 32) Z Z (by decide) (by rw[show(2:Int) ^ (min (5:Int).toNat IntKind.u32.bits)=32 from by decide,Int.fdiv_eq_ediv_of_nonneg _ (by decide)])) (wv Z (dG (k:= .u32) (c:=b / 32%4) Z Z (c7 2 Z (by omega) (by simp only[IntKind.bits];omega) (by decide) (by decide) (by decide))) (wv Z (ao bv lk Z (gM (by omega) (by omega))) (mv (.w b) Z (wv Z (dM (c:=b / 128) Z Z (by decide) (by rw[show(2:Int) ^ (min (7:Int).toNat IntKind.u32.bits)=128 from by decide,Int.fdiv_eq_ediv_of_nonneg _ (by decide)])) (wv Z (dG (k:= .u32) (c:=b / 128%2) Z Z (c7 1 Z (by omega) (by simp only[IntKind.bits];omega) (by decide) (by decide) (by decide))) (wv Z ((show Yv _ _ _ _ (.b (decide (b / 128%2=1))) _ from iQ (k:= .u32) (a:=b / 128%2) (b:=1) Z Z)) (mv (.w b) Z (wv Z (dM (c:=b / 16) Z Z (by decide) (by rw[show(2:Int) ^ (min (4:Int).toNat IntKind.u32.bits)=16 from by decide,Int.fdiv_eq_ediv_of_nonneg _ (by decide)])) (wv Z (dG (k:= .u32) (c:=b / 16%2) Z Z (c7 1 Z (by omega) (by simp only[IntKind.bits];omega) (by decide) (by decide) (by decide))) ?_)))))))))))
 refine wv Z ((show Yv _ _ _ _ (.b (decide (b / 16%2=1))) _ from iQ (k:= .u32) (a:=b / 16%2) (b:=1) Z Z)) (wv Z (yb (ps:= [(0,.w a),(1,.w (b / 256)),(2,.e (b%16)),(3,.e (b / 32%4)),(4,.b (decide (b / 128%2=1))),(5,.b (decide (b / 16%2=1)))]) (cells:=#[.w a,.w (b / 256),.e (b%16),.e (b / 32%4),.b (decide (b / 128%2=1)),.b (decide (b / 16%2=1)),.b false]) Z (by kernel_rfl)) (ws (eN H3 0 [.w a,.w (b / 256),.e (b%16),.e (b / 32%4),.b (decide (b / 128%2=1)),.b (decide (b / 16%2=1)),.b false] Z AQ (fun w5 H4=> ?_))))
 refine wn (aY (aI (a7 ?_)))
 exact⟨.inr Z,_,iK Z yM (by exact Z) (H4.g 0 Z) Z,⟨by unfold hJ;rw[if_neg hsc,if_pos Z];rfl,H4.sub (List.nil_sublist _)⟩⟩
theorem vW{a b:Int}(w:World)(ha0:0≤a)(ha1:a<4294967296)(hb0:0≤b)(hb1:b<4294967296)(hsc: ¬a / 2147483648%2=1):
 Calls Tryd.prog 19 #[.b false,.w a,.w b] w fun e w'=>e= .returned (.agg (hJ false a b).cells.toArray)∧St w aR [] w':=by
 refine aA (args:= [.b false,.w a,.w b]) Tryd.func19 Z Z Z ?_
 have H0:=St.nil w aR
 refine sr (wm Z (aN H0 qp (fun g1 w2 d H3=>wn (ad (a6 (sr (mv (.w a) Z (wv Z (dM (c:=a / 2147483648) Z Z (by decide) (by rw[show(2:Int) ^ (min (31:Int).toNat IntKind.u32.bits)=2147483648 from by decide,Int.fdiv_eq_ediv_of_nonneg _ (by decide)])) (wv Z (aT Z Z (beq_eq_false_iff_ne.2 (by omega))) (av (.b false) Z (wn ?_)))))))))))
 refine al Z (sr (mv (.b false) Z (av (.b false) Z (wn (al Z (dw (ak (ac (sr (mv (.w a) Z (mv (.w b) Z ?_)))))))))))
 refine wv Z (dG (k:= .u32) (c:=b%16777216) Z Z (c7 24 Z (by omega) (by simp only[IntKind.bits];omega) (by decide) (by decide) (by decide))) (mv (.w b) Z (wv Z (dM (c:=b / 268435456) Z Z (by decide) (by rw[show(2:Int) ^ (min (28:Int).toNat IntKind.u32.bits)=268435456 from by decide,Int.fdiv_eq_ediv_of_nonneg _ (by decide)])) (wv Z (ao bv lk Z (gM (by omega) (by omega))) (mv (.w b) Z (wv Z (dM (c:=b / 33554432) Z Z (by decide) (by rw[show(2:Int) ^ (min (25:Int).toNat IntKind.u32.bits)=33554432 from by decide,Int.fdiv_eq_ediv_of_nonneg _ (by decide)])) (wv Z (dG (k:= .u32) (c:=b / 33554432%4) Z Z (c7 2 Z (by omega) (by simp only[IntKind.bits];omega) (by decide) (by decide) (by decide))) (wv Z (ao bv lk Z (gM (by omega) (by omega))) (mv (.w b) Z (wv Z (dM (c:=b / 16777216) Z Z (by decide) (by rw[show(2:Int) ^ (min (24:Int).toNat IntKind.u32.bits)=16777216 from by decide,Int.fdiv_eq_ediv_of_nonneg _ (by decide)])) (wv Z (dG (k:= .u32) (c:=b / 16777216%2) Z Z (c7 1 Z (by omega) (by simp only[IntKind.bits];omega) (by decide) (by decide) (by decide))) (wv Z ((show Yv _ _ _ _ (.b (decide (b / 16777216%2=1))) _ from iQ (k:= .u32) (a:=b / 16777216%2) (b:=1) Z Z)) ?_)))))))))))
 refine mv (.w b) Z (wv Z (dM (c:=b / 134217728) Z Z (by decide) (by rw[show(2:Int) ^ (min (27:Int).toNat IntKind.u32.bits)=134217728 from by decide,Int.fdiv_eq_ediv_of_nonneg _ (by decide)])) (wv Z (dG (k:= .u32) (c:=b / 134217728%2) Z Z (c7 1 Z (by omega) (by simp only[IntKind.bits];omega) (by decide) (by decide) (by decide))) (wv Z ((show Yv _ _ _ _ (.b (decide (b / 134217728%2=1))) _ from iQ (k:= .u32) (a:=b / 134217728%2) (b:=1) Z Z)) (wv Z (yb (ps:= [(0,.w a),(1,.w (b%16777216)),(2,.e (b / 268435456)),(3,.e (b / 33554432%4)),(4,.b (decide (b / 16777216%2=1))),(5,.b (decide (b / 134217728%2=1)))]) (cells:=#[.w a,.w (b%16777216),.e (b / 268435456),.e (b / 33554432%4),.b (decide (b / 16777216%2=1)),.b (decide (b / 134217728%2=1)),.b false]) Z (by kernel_rfl)) (ws (eN H3 0 [.w a,.w (b%16777216),.e (b / 268435456),.e (b / 33554432%4),.b (decide (b / 16777216%2=1)),.b (decide (b / 134217728%2=1)),.b false] Z AQ (fun w5 H4=> ?_)))))))
 refine wn (aY ?_)
 exact⟨.inr Z,_,iK Z yM (by exact Z) (H4.g 0 Z) Z,⟨by unfold hJ;rw[if_neg hsc,if_neg Bool.false_ne_true,show b / 268435456%16=b / 268435456 from by omega];rfl,H4.sub (List.nil_sublist _)⟩⟩
theorem ma(big:Bool){a b:Int}(w:World)(ha0:0≤a)(ha1:a<4294967296)(hb0:0≤b)(hb1:b<4294967296):
 Calls Tryd.prog 19 #[.b big,.w a,.w b] w fun e w'=>e= .returned (.agg (hJ big a b).cells.toArray)∧St w aR [] w':=by
 by_cases hsc:a / 2147483648%2=1
 · exact vV w ha0 ha1 hb0 hb1 hsc
 · cases big
   · exact vW w ha0 ha1 hb0 hb1 hsc
   · exact vX w ha0 ha1 hb0 hb1 hsc
theorem lV(w:World):
 Calls Tryd.prog 38 #[.b true] w fun e w'=>e= .returned (.i 8)∧St w aR [] w':=by
 refine aA (args:= [.b true]) Tryd.func38 Z Z Z ?_
 have H0:=St.nil w aR
 refine sr (ai 0 Z (wn (ad (sr (mv (.b true) Z (wn (aB Z (sr (ai 8 Z (wn (rq ?_)))))))))))
 exact⟨.inr Z,_,r1 (.i 8) Z _ _,⟨Z,H0⟩⟩
theorem kS(w:World):
 Calls Tryd.prog 38 #[.b false] w fun e w'=>e= .returned (.i 4)∧St w aR [] w':=by
 refine aA (args:= [.b false]) Tryd.func38 Z Z Z ?_
 have H0:=St.nil w aR
 refine sr (ai 0 Z (wn (ad (sr (mv (.b false) Z (wn (al Z (wk (sr (ai 4 Z (wn ?_)))))))))))
 refine aY ?_
 exact⟨.inr Z,_,r1 (.i 4) Z _ _,⟨Z,H0⟩⟩
theorem yK:Tryd.prog.underlying 59=some (.slice 3):=by kernel_rfl
theorem TB3:(Tryd.prog.info? 3).map (fun i=>(i.zero,i.size,i.bytes))=some (some (.i 0),1,8):=by kernel_rfl
theorem dK{n:Nat}(w:World)(hn:n≤1000):
 Calls Tryd.prog 23 #[.i ↑n] w fun e w'=> ∃(A:Option Addr) (c:Nat),e= .returned (.s A n c)∧St w aR [ay 3 1 (.s A n c) n (nums .i64 (List.replicate n 4))] w':=by
 refine aA (args:= [.i (↑n)]) Tryd.func23 Z Z Z ?_
 have H0:=St.nil w aR
 refine sr (av (.ns) Z (wn (sr (wm Z (eb H0 3 [] Z (by kernel_rfl) (fun g1 w2 h H3=>eL g1 0 0 0 Z (wn (ad (sr (mi (↑n) Z (mi 0 Z ?_)))))))))))
 refine wn (a6 ?_)
 have H5:St w aR [ay 3 1 (.sl g1 0 0 0) 0 (nums .i64 (List.replicate 0 4))] w2:=H3.rowOf (i:=0) (cap:=0) rfl rfl (by simp[maxLen])
 refine bA (fun ρ w'=> ∃i:Nat,∃Av:Option Addr,∃cv:Nat,ρ 3= .s Av i cv∧ρ 5= .i ↑n∧ρ 6= .i ↑i∧i≤n∧St w aR [ay 3 1 (.s Av i cv) i (nums .i64 (List.replicate i 4))] w') (fun ρ _=>n+1- nv (ρ 6)) (⟨0,_,_,Z,Z,Z,by omega,H5⟩) ?_
 rintro ρ w1 ⟨i,Av,cv,h3,h5,h6,hi,H1⟩
 refine sr (wv Z (bR h6 h5) (wn (ad ?_)))
 refine bK Z (fun a=> ?_) (fun a=> ?_)
 ·
  simp only[bx]at a
  refine wk (ad (a6 (ae (mg h3 Z (wm Z (eb H1 3 [.i 4] Z (by kernel_rfl) (fun g5 w6 j H7=>wm Z (bG H7 1 (m:=1) (news:= [.i 4]) Z yK TB3 Z (by decide) Z Z Z (H7.news (i:=0) Z) (by simp[Value.oneCell']) (by simp only[maxLen];omega) (by omega) (fun v8 w9 b=> ?_)))))))))
  obtain⟨d,f,rfl,_,_⟩:=aw (b.g 1 rfl)
  refine av (.s d (i+1) f) Z (bk (ak (ac (ae (wv Z (aH (k:= .i64) (c:= ↑i+1) h6 Z (a5 (by omega) (by omega))) (mi (↑i+1) Z (wn ?_)))))))
  have e4:nums .i64 (List.replicate i 4)++ [.i 4]=nums .i64 (List.replicate (i+1) 4):=by simp[nums,List.replicate_succ']
  rw[e4]at b
  exact⟨⟨i+1,_,_,Z,h5,Z,by omega,b.re [1]⟩,by show n+1- nv (.i (↑i+1))<n+1- nv (ρ 6);rw[h6];simp only[nv];omega⟩
 ·
  simp only[bx]at a
  refine bq (ar (ar (aQ (ac (sr (mg h3 Z (av (.s Av i cv) Z (wn (aY ?_)))))))))
  exact⟨.inr Z,_,r1 (.s Av i cv) Z _ _,⟨_,_,by rw[show i=n by omega],by rw[show i=n by omega]at H1;exact H1⟩⟩
theorem wB:bg Tryd.prog 38:=aL (by kernel_rfl)
theorem jN:bg Tryd.prog 23:=aL (by kernel_rfl)
theorem ff(w:World):
 Calls Tryd.prog 16 #[.b true] w fun e w'=> ∃(A:Option Addr) (n c:Nat) (D:Res),e= .returned (.s A n c)∧n≤c∧St w aR [D] w'∧∀w,D.φ w → RI .i64 w A n [4,4,-16,8,8,8,8,4,4,4,4]:=by
 refine aA (args:= [.b true]) Tryd.func16 Z Z Z ?_
 have H0:=St.nil w aR
 refine sr (av (.ns) Z (wn (sr (mv (.b true) Z (wE [.b true] wB Z Z (aa (lV _) ?_))))))
 rintro e w2 ⟨rfl,a⟩
 have H3:=H0.cal0 a
 refine⟨_,Z,ai 8 Z (wn (sr (mi 8 Z (mi 8 Z (mi 8 Z (mi 8 Z (wm Z (eb H3 3 [.i 4,.i 4,.i (-16),.i 8,.i 8,.i 8,.i 8,.i 4,.i 4,.i 4,.i 4] Z (by kernel_rfl) (fun g4 w5 d H6=>eL g4 0 11 11 Z (wn ?_))))))))))⟩
 refine aY ?_
 exact⟨.inr Z,_,r1 (.sl g4 0 11 11) Z _ _,⟨_,_,_,an g4 (nums .i64 [4,4,-16,8,8,8,8,4,4,4,4]) 3,Z,Nat.le_refl _,H6.re [0],fun w h=>aj h Z⟩⟩
theorem eI(w:World):
 Calls Tryd.prog 16 #[.b false] w fun e w'=> ∃(A:Option Addr) (n c:Nat) (D:Res),e= .returned (.s A n c)∧n≤c∧St w aR [D] w'∧∀w,D.φ w → RI .i64 w A n [4,4,-16,4,4,4,4,4,4,4,4]:=by
 refine aA (args:= [.b false]) Tryd.func16 Z Z Z ?_
 have H0:=St.nil w aR
 refine sr (av (.ns) Z (wn (sr (mv (.b false) Z (wE [.b false] wB Z Z (aa (kS _) ?_))))))
 rintro e w2 ⟨rfl,a⟩
 have H3:=H0.cal0 a
 refine⟨_,Z,ai 4 Z (wn (sr (mi 4 Z (mi 4 Z (mi 4 Z (mi 4 Z (wm Z (eb H3 3 [.i 4,.i 4,.i (-16),.i 4,.i 4,.i 4,.i 4,.i 4,.i 4,.i 4,.i 4] Z (by kernel_rfl) (fun g4 w5 d H6=>eL g4 0 11 11 Z (wn ?_))))))))))⟩
 refine aY ?_
 exact⟨.inr Z,_,r1 (.sl g4 0 11 11) Z _ _,⟨_,_,_,an g4 (nums .i64 [4,4,-16,4,4,4,4,4,4,4,4]) 3,Z,Nat.le_refl _,H6.re [0],fun w h=>aj h Z⟩⟩
theorem fH(w:World):
 Calls Tryd.prog 22 #[.b true] w fun e w'=> ∃(A:Option Addr) (n c:Nat) (D:Res),e= .returned (.s A n c)∧n≤c∧St w aR [D] w'∧∀w,D.φ w → RI .i64 w A n [4,1,1,2,8]:=by
 refine aA (args:= [.b true]) Tryd.func22 Z Z Z ?_
 have H0:=St.nil w aR
 refine sr (av (.ns) Z (wn (sr (mv (.b true) Z (wE [.b true] wB Z Z (aa (lV _) ?_))))))
 rintro e w2 ⟨rfl,a⟩
 have H3:=H0.cal0 a
 refine⟨_,Z,wm Z (eb H3 3 [.i 4,.i 1,.i 1,.i 2,.i 8] Z (by kernel_rfl) (fun g4 w5 d H6=>eL g4 0 5 5 Z (wn (aY ?_))))⟩
 exact⟨.inr Z,_,r1 (.sl g4 0 5 5) Z _ _,⟨_,_,_,an g4 (nums .i64 [4,1,1,2,8]) 3,Z,Nat.le_refl _,H6.re [0],fun w h=>aj h Z⟩⟩
theorem fo(w:World):
 Calls Tryd.prog 22 #[.b false] w fun e w'=> ∃(A:Option Addr) (n c:Nat) (D:Res),e= .returned (.s A n c)∧n≤c∧St w aR [D] w'∧∀w,D.φ w → RI .i64 w A n [4,1,1,2,4]:=by
 refine aA (args:= [.b false]) Tryd.func22 Z Z Z ?_
 have H0:=St.nil w aR
 refine sr (av (.ns) Z (wn (sr (mv (.b false) Z (wE [.b false] wB Z Z (aa (kS _) ?_))))))
 rintro e w2 ⟨rfl,a⟩
 have H3:=H0.cal0 a
 refine⟨_,Z,wm Z (eb H3 3 [.i 4,.i 1,.i 1,.i 2,.i 4] Z (by kernel_rfl) (fun g4 w5 d H6=>eL g4 0 5 5 Z (wn (aY ?_))))⟩
 exact⟨.inr Z,_,r1 (.sl g4 0 5 5) Z _ _,⟨_,_,_,an g4 (nums .i64 [4,1,1,2,4]) 3,Z,Nat.le_refl _,H6.re [0],fun w h=>aj h Z⟩⟩
theorem pu(w:World):
 Calls Tryd.prog 27 #[] w fun e w'=> ∃(A:Option Addr) (n c:Nat) (D:Res),e= .returned (.s A n c)∧n≤c∧St w aR [D] w'∧∀w,D.φ w → RI .i64 w A n (List.replicate 7 4):=by
 refine aA (args:= []) Tryd.func27 Z Z Z ?_
 have H0:=St.nil w aR
 refine sr (av (.ns) Z (wn (sr (wE [.i 7] jN Z Z (aa (dK (n:=7) _ (by omega)) ?_)))))
 rintro e w2 ⟨A,c,rfl,a⟩
 have H3:=H0.cal0 a
 refine⟨_,Z,av (.s A 7 c) Z (wn (aY ?_))⟩
 exact⟨.inr Z,_,r1 (.s A 7 c) Z _ _,⟨_,_,_,ay 3 1 (.s A 7 c) 7 (nums .i64 (List.replicate 7 4)),Z,by obtain⟨_,_,e,_,h⟩:=aw (H3.g 0 Z);injection e with _ _ e;omega,H3,fun w h=>aV h⟩⟩
theorem fg(w:World):
 Calls Tryd.prog 17 #[.b true] w fun e w'=> ∃(A:Option Addr) (n c:Nat) (D:Res),e= .returned (.s A n c)∧n≤c∧St w aR [D] w'∧∀w,D.φ w → RI .i64 w A n [-16,-16,8,8,4,4,4,4,4,4,4,4]:=by
 refine aA (args:= [.b true]) Tryd.func17 Z Z Z ?_
 have H0:=St.nil w aR
 refine sr (av (.ns) Z (wn (sr (mv (.b true) Z (wE [.b true] wB Z Z (aa (lV _) ?_))))))
 rintro e w2 ⟨rfl,p⟩
 have H3:=H0.cal0 p
 refine⟨_,Z,ai 8 Z (wn (sr (mi 8 Z (mi 8 Z (wm Z (eb H3 3 [.i (-16),.i (-16),.i 8,.i 8] Z (by kernel_rfl) (fun g4 w5 t H6=>wE [.i 7] jN Z Z (aa (dK (n:=7) _ (by omega)) ?_))))))))⟩
 rintro e w8 ⟨A4,c4,rfl,j⟩
 obtain⟨A5,c5,e5,q,_⟩:=aw (j.g 0 rfl)
 injection e5 with e5 _ e6;subst e5;subst e6;obtain⟨g5,o5,rfl,_⟩:=q.2 (by decide)
 have H9:=H6.cal0 j
 refine⟨_,Z,wm Z ?_⟩
 have k:St w aR [ay 3 1 (.sl g4 0 4 4) 4 [.i (-16),.i (-16),.i 8,.i 8],ay 3 1 (.sl g5 o5 7 c4) 7 (nums .i64 (List.replicate 7 4))] w8:=(H9.rowFull (i:=1) (n:=4) (sz:=1) rfl rfl (by simp[maxLen])).re [1,0]
 refine bG k 0 (m:=7) (news:=nums .i64 (List.replicate 7 4)) Z yK TB3 Z (by decide) Z Z Z ((aw (k.g 1 Z)).elim fun _ h=>h.elim fun _ h=>by obtain⟨e7,h7,_⟩:=h;injection e7 with e7 _ _;exact h7.news e7.symm) fA (by simp only[maxLen];omega) (by omega) (fun v u l=> ?_)
 obtain⟨A8,c8,rfl,_,_⟩:=aw (l.g 0 rfl)
 refine av (.s A8 (4+7) c8) Z (wn (ad (sr (mv (.b true) Z (wn (aB Z (ae (mv (.s A8 (4+7) c8) Z (wm Z (eb l 3 [.i 4] Z (by kernel_rfl) (fun x y r o=>wm Z ?_)))))))))))
 refine bG o 1 (m:=1) (news:= [.i 4]) Z yK TB3 Z (by decide) Z Z Z (o.news (i:=0) Z) (by simp[Value.oneCell']) (by simp only[maxLen];omega) (by omega) (fun z B f=> ?_)
 obtain⟨a,d,rfl,_,_⟩:=aw (f.g 1 rfl)
 refine av (.s a (4+7+1) d) Z (wn (sr (mv (.s a (4+7+1) d) Z (av (.s a (4+7+1) d) Z (wn (aY ?_))))))
 exact⟨.inr Z,_,r1 (.s a (4+7+1) d) Z _ _,⟨_,_,_,ay 3 1 (.s a (4+7+1) d) (4+7+1) (([.i (-16),.i (-16),.i 8,.i 8]++nums .i64 (List.replicate 7 4))++ [.i 4]),Z,by obtain⟨_,_,e,_,h⟩:=aw (f.g 1 Z);cases e;exact h,f.re [1],fun w h=>aV (xs:= [-16,-16,8,8,4,4,4,4,4,4,4,4]) h⟩⟩
theorem eJ(w:World):
 Calls Tryd.prog 17 #[.b false] w fun e w'=> ∃(A:Option Addr) (n c:Nat) (D:Res),e= .returned (.s A n c)∧n≤c∧St w aR [D] w'∧∀w,D.φ w → RI .i64 w A n [-16,-16,4,4,4,4,4,4,4,4,4]:=by
 refine aA (args:= [.b false]) Tryd.func17 Z Z Z ?_
 have H0:=St.nil w aR
 refine sr (av (.ns) Z (wn (sr (mv (.b false) Z (wE [.b false] wB Z Z (aa (kS _) ?_))))))
 rintro e w2 ⟨rfl,j⟩
 have H3:=H0.cal0 j
 refine⟨_,Z,ai 4 Z (wn (sr (mi 4 Z (mi 4 Z (wm Z (eb H3 3 [.i (-16),.i (-16),.i 4,.i 4] Z (by kernel_rfl) (fun g4 w5 l H6=>wE [.i 7] jN Z Z (aa (dK (n:=7) _ (by omega)) ?_))))))))⟩
 rintro e w8 ⟨A4,c4,rfl,d⟩
 obtain⟨A5,c5,e5,k,_⟩:=aw (d.g 0 rfl)
 injection e5 with e5 _ e6;subst e5;subst e6;obtain⟨g5,o5,rfl,_⟩:=k.2 (by decide)
 have H9:=H6.cal0 d
 refine⟨_,Z,wm Z ?_⟩
 have f:St w aR [ay 3 1 (.sl g4 0 4 4) 4 [.i (-16),.i (-16),.i 4,.i 4],ay 3 1 (.sl g5 o5 7 c4) 7 (nums .i64 (List.replicate 7 4))] w8:=(H9.rowFull (i:=1) (n:=4) (sz:=1) rfl rfl (by simp[maxLen])).re [1,0]
 refine bG f 0 (m:=7) (news:=nums .i64 (List.replicate 7 4)) Z yK TB3 Z (by decide) Z Z Z ((aw (f.g 1 Z)).elim fun _ h=>h.elim fun _ h=>by obtain⟨e7,h7,_⟩:=h;injection e7 with e7 _ _;exact h7.news e7.symm) fA (by simp only[maxLen];omega) (by omega) (fun v o a=> ?_)
 obtain⟨A8,c8,rfl,_,_⟩:=aw (a.g 0 rfl)
 refine av (.s A8 (4+7) c8) Z (wn (ad (sr (mv (.b false) Z (wn (al Z (wk (sr (mv (.s A8 (4+7) c8) Z (av (.s A8 (4+7) c8) Z (wn ?_)))))))))))
 refine aY ?_
 exact⟨.inr Z,_,r1 (.s A8 (4+7) c8) Z _ _,⟨_,_,_,ay 3 1 (.s A8 (4+7) c8) (4+7) ([.i (-16),.i (-16),.i 4,.i 4]++nums .i64 (List.replicate 7 4)),Z,by obtain⟨_,_,e,_,h⟩:=aw (a.g 0 Z);cases e;exact h,a.re [0],fun w h=>aV (xs:= [-16,-16,4,4,4,4,4,4,4,4,4]) h⟩⟩
theorem Bf:Tryd.prog.underlying 59=some (.slice (Tryd.prog.elem 59)):=by kernel_rfl
theorem Bb:cJ Tryd.prog 59 3 1:=bX (by kernel_rfl)
theorem mm:bg Tryd.prog 25:=aL (by kernel_rfl)
theorem eW:Tryd.prog.underlying 26=some (.slice 43):=by kernel_rfl
theorem jy:(Tryd.prog.info? 43).map (fun i=>(i.zero,i.size,i.bytes))=some (some (.q 0),1,8):=by kernel_rfl
theorem s8{AW A:Option Addr}{nW cW n c:Nat}{ws bs:List Int}(big:Bool)(w:World)(hrW:RI .i64 w AW nW ws)(hW: ∀i,-16≤ws.getD i 0∧ws.getD i 0≤8)(hnW:nW≤1000)(hr:RI .u8 w A n bs)(hc:n≤c)(hn:n≤4294967295)(hb:Byt bs):
 Calls Tryd.prog 26 #[.b big,.s AW nW cW,.s A n c] w fun e w'=>(∃r,dL big ws bs=some r∧∃(B:Option Addr) (m cB:Nat) (D:Res),e= .returned (.tuple #[.s B m cB,.b true])∧m≤cB∧St w aR [D] w'∧∀w,D.φ w → RI .u64 w B m r)∨(dL big ws bs=none∧e= .returned (.tuple #[.ns,.b false])∧St w aR [] w'):=by
 refine aA (args:= [.b big,.s AW nW cW,.s A n c]) Tryd.func26 Z Z Z ?_
 have H0:=St.nil w aR
 refine sr (av (.ns) Z (av (.b false) Z (wn (sr (wm Z (eb H0 43 [] Z (by kernel_rfl) (fun g1 w2 O H3=>eL g1 0 0 0 Z (wn (ad (sr (mv (.s AW nW cW) Z ?_)))))))))))
 refine wv Z (aO Bf Z) (mi 0 Z (wn (a6 ?_)))
 have H5:St w aR [ay 43 1 (.sl g1 0 0 0) 0 (nums .u64 [])] w2:=H3.rowOf (i:=0) (cap:=0) rfl rfl (by simp[maxLen])
 refine bA (fun ρ w'=> ∃i:Nat,∃Av:Option Addr,∃m:Nat,∃cv:Nat,∃done:List Int,∃A2:Option Addr,∃n2:Nat,∃c2:Nat,∃d:List Int,ρ 0= .b big∧ρ 2= .s A2 n2 c2∧ρ 8= .s Av m cv∧ρ 13= .s AW nW cW∧ρ 14= .i ↑nW∧ρ 15= .i ↑i∧i≤nW∧m≤i∧RI .u8 w A2 n2 d∧n2≤c2∧Byt d∧dL big ws bs=(dL big (ws.drop i) d).map (done++ ·)∧St w aR [ay 43 1 (.s Av m cv) m (nums .u64 done)] w') (fun ρ _=>nW+1- nv (ρ 15)) (⟨0,_,_,_,[],_,_,_,bs,Z,Z,Z,Z,Z,Z,by omega,by omega,hr,hc,hb,by simp,H5⟩) ?_
 rintro ρ w1 ⟨i,Av,m,cv,done,A2,n2,c2,d,h0,h2,h8,o,p,j,hi,hmi,f,G,t,hf,H1⟩
 refine sr (wv Z (bR j p) (wn (ad ?_)))
 refine bK Z (fun u=> ?_) (fun u=> ?_)
 ·
  simp only[bx]at u
  refine wk (ad (a6 (sr ?_)))
  have hiw:i<nW:=by omega
  obtain⟨gW,oW,rfl,hcW⟩:=hrW.at_ hiw
  obtain⟨v,hv⟩: ∃v,v=ws.getD i 0:=⟨_,rfl⟩
  rw[←hv]at hcW
  obtain⟨I,J⟩:=hW i
  rw[←hv]at I J
  have hdr:ws.drop i=v::ws.drop (i+1):=by rw[List.drop_eq_getElem_cons (by rw[hrW.1];exact hiw),hv];simp[List.getD_eq_getElem?_getD,List.getElem?_eq_getElem (show i<ws.length by rw[hrW.1];exact hiw)]
  refine wv Z (bi i Bb o j Z (by omega) (by rw[Nat.mul_one])) (wv Z (ag kD Z (H1.kc hcW)) (ai v Z (wn (sr (mi v Z (mi v Z (wv Z ((show Yv _ _ _ _ (.i (-v)) _ from(a5 (x:= -v) (by omega) (by omega))▸wG (k:= .i64) (a:=v) Z)) (wv Z (qY (c:= ↑v.natAbs) Z Z (by split<;>omega)) (ai (↑v.natAbs) Z (wn (ad ?_)))))))))))
  refine sr (mg h2 Z (wv Z (aO bU Z) (mi (↑v.natAbs) Z (wv Z (bR Z Z) (wn ?_)))))
  refine bK Z (fun y=> ?_) (fun y=> ?_)
  ·
   simp only[bx]at y
   refine sr (av (.ns) Z (av (.b false) Z (wn (rq (aI (a7 (a7 (aI (a7 ?_)))))))))
   exact⟨.inr Z,_,r2 (.ns) (.b false) Z _ _,.inr ⟨by rw[hf,hdr];simp only[dL];rw[if_pos (by rw[f.1];omega)];rfl,Z,H1.sub (List.nil_sublist _)⟩⟩
  ·
   simp only[bx]at y
   refine wk (ad (sr (mi v Z (wv Z (eM Z Z) (wn ?_)))))
   refine bK Z (fun z=> ?_) (fun z=> ?_)
   ·
    simp only[bx]at z
    refine ae (mg h8 Z (mg h0 Z (mi v Z (mg h2 Z (wE [.b big,.i v,.s A2 n2 c2] mm Z Z ?_)))))
    have hvn:((v.natAbs:Nat):Int)=v:=by omega
    refine aa (by have h:=ez big (wd:=v.natAbs) _ (f.keep0 H1.keep) (c:=c2) t (by omega) (by omega);rw[hvn]at h;exact h) ?_
    rintro e w8 ⟨rfl,K⟩
    have H9:=H1.cal0 K
    refine⟨_,Z,wm Z (eb H9 43 [.q (qR big d v.natAbs)] Z (by kernel_rfl) (fun P Q L H=>wm Z (bG H 1 (m:=1) (news:= [.q (qR big d v.natAbs)]) Z eW jy Z (by decide) Z Z Z (H.news (i:=0) Z) (by simp[Value.oneCell']) (by simp only[maxLen];omega) (by omega) (fun R S C=> ?_))))⟩
    obtain⟨M,N,rfl,_,_⟩:=aw (C.g 1 rfl)
    refine av (.s M (m+1) N) Z (wn (ae (mg h2 Z (mi (↑v.natAbs) Z (wv Z ((show Yv _ _ _ _ (.s (dC A2 c2 v.natAbs 1) (n2- v.natAbs) (c2- v.natAbs)) _ from eo (l:=v.natAbs) (h:=n2) aZ Z (bh Z (by omega) (by omega)) (bu _ _) (by omega) (by omega))) (av (.s (dC A2 c2 v.natAbs 1) (n2- v.natAbs) (c2- v.natAbs)) Z (bk (ak (ac (ae (wv Z (aH (k:= .i64) (c:= ↑i+1) j Z (a5 (by omega) (by omega))) ?_)))))))))))
    refine mi (↑i+1) Z (wn ?_)
    have E:RI .u8 w (dC A2 c2 v.natAbs 1) (n2- v.natAbs) (d.drop v.natAbs):=by have h:=f.cut (c:=c2) (l:=v.natAbs) (m:=n2) (by omega) (Nat.le_refl _) G;rwa [List.take_of_length_le (by rw[List.length_drop,f.1];omega)]at h
    have F:dL big ws bs=(dL big (ws.drop (i+1)) (d.drop v.natAbs)).map ((done++ [qR big d v.natAbs])++ ·):=by
     rw[hf,hdr];simp only[dL];rw[if_neg (by rw[f.1];omega)];cases dL big (ws.drop (i+1)) (d.drop v.natAbs)<;>simp;omega
    have e4:nums .u64 done++ [.q (qR big d v.natAbs)]=nums .u64 (done++ [qR big d v.natAbs]):=by simp[nums]
    rw[e4]at C
    exact⟨⟨i+1,_,_,_,_,_,_,_,_,h0,Z,Z,o,p,Z,by omega,by omega,E,by omega,t.drop _,F,C.re [1]⟩,by show nW+1- nv (.i (↑i+1))<nW+1- nv (ρ 15);rw[j];simp only[nv];omega⟩
   ·
    simp only[bx]at z
    refine wk (ae (mg h2 Z (mi (↑v.natAbs) Z (wv Z ((show Yv _ _ _ _ (.s (dC A2 c2 v.natAbs 1) (n2- v.natAbs) (c2- v.natAbs)) _ from eo (l:=v.natAbs) (h:=n2) aZ Z (bh Z (by omega) (by omega)) (bu _ _) (by omega) (by omega))) (av (.s (dC A2 c2 v.natAbs 1) (n2- v.natAbs) (c2- v.natAbs)) Z (bk (ak (ac (ae (wv Z (aH (k:= .i64) (c:= ↑i+1) j Z (a5 (by omega) (by omega))) (mi (↑i+1) Z ?_)))))))))))
    refine wn ?_
    have E:RI .u8 w (dC A2 c2 v.natAbs 1) (n2- v.natAbs) (d.drop v.natAbs):=by have h:=f.cut (c:=c2) (l:=v.natAbs) (m:=n2) (by omega) (Nat.le_refl _) G;rwa [List.take_of_length_le (by rw[List.length_drop,f.1];omega)]at h
    have F:dL big ws bs=(dL big (ws.drop (i+1)) (d.drop v.natAbs)).map (done++ ·):=by
     rw[hf,hdr];simp only[dL];rw[if_neg (by rw[f.1];omega)];cases dL big (ws.drop (i+1)) (d.drop v.natAbs)<;>simp;omega
    exact⟨⟨i+1,_,_,_,_,_,_,_,_,h0,Z,h8,o,p,Z,by omega,by omega,E,by omega,t.drop _,F,H1.re [0]⟩,by show nW+1- nv (.i (↑i+1))<nW+1- nv (ρ 15);rw[j];simp only[nv];omega⟩
 ·
  simp only[bx]at u
  refine bq (ar (ar (aQ (ac (sr (mg h8 Z (av (.s Av m cv) Z (av (.b true) Z (wn (aY ?_))))))))))
  exact⟨.inr Z,_,r2 (.s Av m cv) (.b true) Z _ _,.inl ⟨done,by rw[hf,List.drop_of_length_le (by rw[hrW.1];omega)];simp[dL],_,_,_,_,Z,by obtain⟨_,_,e,_,h⟩:=aw (H1.g 0 Z);cases e;exact h,H1,fun w h=>aV h⟩⟩
theorem gG{AW:Option Addr}{nW cW:Nat}{ws:List Int}(w:World)(hrW:RI .i64 w AW nW ws)(hW: ∀i,-16≤ws.getD i 0∧ws.getD i 0≤8)(hnW:nW≤1000):
 Calls Tryd.prog 15 #[.s AW nW cW] w fun e w'=>e= .returned (.i ↑(cF ws))∧St w aR [] w':=by
 refine aA (args:= [.s AW nW cW]) Tryd.func15 Z Z Z ?_
 have H0:=St.nil w aR
 refine sr (ai 0 Z (wn (sr (ai 0 Z (wn (ad (sr (mv (.s AW nW cW) Z (wv Z (aO Bf Z) (mi 0 Z (wn ?_)))))))))))
 refine a6 (bA (fun ρ w'=> ∃i:Nat,ρ 3= .i ↑(cF (ws.take i))∧ρ 6= .s AW nW cW∧ρ 7= .i ↑nW∧ρ 8= .i ↑i∧i≤nW∧St w aR [] w') (fun ρ _=>nW+1- nv (ρ 8)) (⟨0,Z,Z,Z,Z,by omega,H0⟩) ?_)
 rintro ρ w1 ⟨i,h3,h6,h7,h8,hi,H1⟩
 refine sr (wv Z (bR h8 h7) (wn (ad ?_)))
 refine bK Z (fun b=> ?_) (fun b=> ?_)
 ·
  simp only[bx]at b
  refine wk (ad (a6 (sr ?_)))
  have hiw:i<nW:=by omega
  obtain⟨gW,oW,rfl,hcW⟩:=hrW.at_ hiw
  obtain⟨v,hv⟩: ∃v,v=ws.getD i 0:=⟨_,rfl⟩
  rw[←hv]at hcW
  obtain⟨d,f⟩:=hW i
  rw[←hv]at d f
  have hwl:=p6 hW i (by rw[hrW.1];omega)
  refine wv Z (bi i Bb h6 h8 Z (by omega) (by rw[Nat.mul_one])) (wv Z (ag kD Z (H1.kc hcW)) (ai v Z (wn (ae (mg h3 Z (mi v Z (mi v Z (wv Z ((show Yv _ _ _ _ (.i (-v)) _ from(a5 (x:= -v) (by omega) (by omega))▸wG (k:= .i64) (a:=v) Z)) (wv Z (qY (c:= ↑v.natAbs) Z Z (by split<;>omega)) (wv Z (aH (k:= .i64) (c:= ↑(cF (ws.take i))+ ↑v.natAbs) Z Z (a5 (by omega) (by omega))) (ai (↑(cF (ws.take i))+ ↑v.natAbs) Z ?_)))))))))))
  refine bk (ak (ac (ae (wv Z (aH (k:= .i64) (c:= ↑i+1) h8 Z (a5 (by omega) (by omega))) (mi (↑i+1) Z (wn ?_))))))
  exact⟨⟨i+1,(show Value.i _= _ by rw[jS (by rw[hrW.1];omega),←hv];rfl),h6,h7,Z,by omega,H1⟩,by show nW+1- nv (.i (↑i+1))<nW+1- nv (ρ 8);rw[h8];simp only[nv];omega⟩
 ·
  simp only[bx]at b
  refine bq (ar (ar (aQ (ac (sr (mg h3 Z (ai (↑(cF (ws.take i))) Z (wn (aY ?_)))))))))
  exact⟨.inr Z,_,r1 (.i (↑(cF (ws.take i)))) Z _ _,⟨by rw[List.take_of_length_le (by rw[hrW.1];omega)],H1⟩⟩
theorem o4:Tryd.prog.underlying 26=some (.slice (Tryd.prog.elem 26)):=by kernel_rfl
theorem bL:cJ Tryd.prog 26 43 1:=bX (by kernel_rfl)
theorem zu:FA 101 0 0:=fa (by kernel_rfl)
theorem B9:FA 67 0 0:=fa (by kernel_rfl)
theorem zt:FA 101 1 1:=fa (by kernel_rfl)
theorem B8:FA 67 1 1:=fa (by kernel_rfl)
theorem zr:FA 101 2 2:=fa (by kernel_rfl)
theorem B7:FA 67 2 2:=fa (by kernel_rfl)
theorem zq:FA 101 3 3:=fa (by kernel_rfl)
theorem B6:FA 67 3 3:=fa (by kernel_rfl)
theorem zo:FA 101 4 4:=fa (by kernel_rfl)
theorem B5:FA 67 4 4:=fa (by kernel_rfl)
theorem TU4:Tryd.prog.underlying 4=some .bool:=by kernel_rfl
theorem zn:FA 101 5 5:=fa (by kernel_rfl)
theorem B4:FA 67 5 5:=fa (by kernel_rfl)
theorem zm:FA 101 6 6:=fa (by kernel_rfl)
theorem B3:FA 67 6 6:=fa (by kernel_rfl)
theorem sL{A A2:Option Addr}{n c c2:Nat}{xs:List Int}(w:World)(hr:RI .u64 w A n xs)(hr2:RI .u64 w A2 n xs)(hn:n≤4294967295):
 Calls Tryd.prog 36 #[.s A n c,.s A2 n c2] w fun e w'=>e= .returned (.b true)∧St w aR [] w':=by
 refine aA (args:= [.s A n c,.s A2 n c2]) Tryd.func36 Z Z Z ?_
 have H0:=St.nil w aR
 refine sr (av (.b false) Z (wn (ad (sr (mv (.s A n c) Z (wv Z (aO o4 Z) (mv (.s A2 n c2) Z (wv Z (aO o4 Z) (wv Z (cg Z Z (bne_eq_false_iff_eq.2 (Z))) (wn (al Z ?_)))))))))))
 refine wk (ad (sr (mv (.s A n c) Z (wv Z (aO o4 Z) (mi 0 Z (wn (a6 (bA (fun ρ w'=> ∃i:Nat,ρ 0= .s A n c∧ρ 1= .s A2 n c2∧ρ 12= .i ↑n∧ρ 13= .i ↑i∧i≤n∧St w aR [] w') (fun ρ _=>n+1- nv (ρ 13)) (⟨0,Z,Z,Z,Z,by omega,H0⟩) ?_))))))))
 rintro ρ w1 ⟨i,h0,h1,g,d,hi,H1⟩
 refine sr (wv Z (bR d g) (wn (ad ?_)))
 refine bK Z (fun f=> ?_) (fun f=> ?_)
 ·
  simp only[bx]at f
  refine wk (ad (a6 (sr ?_)))
  have hin:i<n:=by omega
  obtain⟨ga,oa,rfl,hca⟩:=hr.at_ hin
  obtain⟨gb,ob,rfl,hcb⟩:=hr2.at_ hin
  refine mg d Z (ai (↑i) Z (wn (ad ?_)))
  have H2:=H1.drew
  refine aU MX (fun w'=>w'.cell? ⟨ga,oa+i,none⟩=some (.q (xs.getD i 0))∧w'.cell? ⟨gb,ob+i,none⟩=some (.q (xs.getD i 0))) (tr 0 9 Pl.done) (by kernel_rfl) (⟨H2.kc hca,H2.kc hcb⟩) (qm (.sl ga oa n c) Z h0 (qm (.i (↑i)) Z Z (qy Z (bi i bL Z Z Z (by omega) (by rw[Nat.mul_one])) (qh Z (fun hS=>ag aP Z hS.1) (qm (.sl gb ob n c2) Z h1 (qm (.i (↑i)) Z Z (qy Z (bi i bL Z Z Z (by omega) (by rw[Nat.mul_one])) (qh Z (fun hS=>ag aP Z hS.2) (qy Z (cg (k:= .u64) (a:=xs.getD i 0) (b:=xs.getD i 0) (c:=false) Z Z (bne_eq_false_iff_eq.2 (Z))) (pn (al Z ?_)))))))))))
  refine dw (ak (ac (ae (wv Z (aH (k:= .i64) (c:= ↑i+1) d Z (a5 (by omega) (by omega))) (mi (↑i+1) Z (wn ?_))))))
  exact⟨⟨i+1,h0,h1,g,Z,by omega,H2⟩,by show n+1- nv (.i (↑i+1))<n+1- nv (ρ 13);rw[d];simp only[nv];omega⟩
 ·
  simp only[bx]at f
  refine bq (ar (ar (aQ (ac (sr (av (.b true) Z (wn (aY ?_))))))))
  exact⟨.inr Z,_,r1 (.b true) Z _ _,⟨Z,H1⟩⟩
theorem vz{r:Rel}(w:World):
 Calls Tryd.prog 37 #[.agg #[.w r.addr,.w r.value,.e r.type,.e r.len,.b r.pcrel,.b r.extern,.b r.scattered],.agg #[.w r.addr,.w r.value,.e r.type,.e r.len,.b r.pcrel,.b r.extern,.b r.scattered]] w fun e w'=>e= .returned (.b true)∧St w aR [] w':=by
 refine aA (args:= [.agg #[.w r.addr,.w r.value,.e r.type,.e r.len,.b r.pcrel,.b r.extern,.b r.scattered],.agg #[.w r.addr,.w r.value,.e r.type,.e r.len,.b r.pcrel,.b r.extern,.b r.scattered]]) Tryd.func37 Z Z Z ?_
 have H0:=St.nil w aR
 refine sr (wm Z (fq H0 (vs:= [.w r.addr,.w r.value,.e r.type,.e r.len,.b r.pcrel,.b r.extern,.b r.scattered]) Z Z (fun g1 w2 c H3=>wm Z (fq H3 (vs:= [.w r.addr,.w r.value,.e r.type,.e r.len,.b r.pcrel,.b r.extern,.b r.scattered]) Z Z (fun g4 w5 d H6=>av (.b false) Z (wn (sr (wf zu Z (wv Z (H6.ld 1 Z ax Z (.w r.addr) Z) (wf B9 Z (wv Z (H6.ld 0 Z ax Z (.w r.addr) Z) ?_)))))))))))
 refine wv Z (aT Z Z (beq_iff_eq.2 (Z))) (mv (.b true) Z (aX Z Z (ab zt Z) (aX Z Z (H6.ld 1 Z ax Z (.w r.value) Z) (aX Z Z (ab B8 Z) (aX Z Z (H6.ld 0 Z ax Z (.w r.value) Z) (aX Z Z (aT Z Z (beq_iff_eq.2 (Z))) (wv Z (aD (b:=true) (v:= .b true) Z Z) (mv (.b true) Z (aX Z Z (ab zr Z) (aX Z Z (H6.ld 1 Z dq Z (.e r.type) Z) (aX Z Z (ab B7 Z) ?_)))))))))))
 refine aX Z Z (H6.ld 0 Z dq Z (.e r.type) Z) (aX Z Z (aT Z Z (beq_iff_eq.2 (Z))) (wv Z (aD (b:=true) (v:= .b true) Z Z) (mv (.b true) Z (aX Z Z (ab zq Z) (aX Z Z (H6.ld 1 Z dq Z (.e r.len) Z) (aX Z Z (ab B6 Z) (aX Z Z (H6.ld 0 Z dq Z (.e r.len) Z) (aX Z Z (aT Z Z (beq_iff_eq.2 (Z))) (wv Z (aD (b:=true) (v:= .b true) Z Z) (mv (.b true) Z (aX Z Z (ab zo Z) ?_)))))))))))
 refine aX Z Z (H6.ld 1 Z dc Z (.b r.pcrel) Z) (aX Z Z (ab B5 Z) (aX Z Z (H6.ld 0 Z dc Z (.b r.pcrel) Z) (aX Z Z ((show Yv _ _ _ _ (.b true) _ from(beq_self_eq_true (r.pcrel))▸j1 (a:=r.pcrel) (b:=r.pcrel) TU4 Z Z)) (wv Z (aD (b:=true) (v:= .b true) Z Z) (mv (.b true) Z (aX Z Z (ab zn Z) (aX Z Z (H6.ld 1 Z dc Z (.b r.extern) Z) (aX Z Z (ab B4 Z) (aX Z Z (H6.ld 0 Z dc Z (.b r.extern) Z) (aX Z Z ((show Yv _ _ _ _ (.b true) _ from(beq_self_eq_true (r.extern))▸j1 (a:=r.extern) (b:=r.extern) TU4 Z Z)) (wv Z (aD (b:=true) (v:= .b true) Z Z) ?_)))))))))))
 refine mv (.b true) Z (aX Z Z (ab zm Z) (aX Z Z (H6.ld 1 Z dc Z (.b r.scattered) Z) (aX Z Z (ab B3 Z) (aX Z Z (H6.ld 0 Z dc Z (.b r.scattered) Z) (aX Z Z ((show Yv _ _ _ _ (.b true) _ from(beq_self_eq_true (r.scattered))▸j1 (a:=r.scattered) (b:=r.scattered) TU4 Z Z)) (wv Z (aD (b:=true) (v:= .b true) Z Z) (av (.b true) Z (wn (aY ?_)))))))))
 exact⟨.inr Z,_,r1 (.b true) Z _ _,⟨Z,H6.sub (List.nil_sublist _)⟩⟩
end Go.Proofs.YtlndedfkgiafhaaDoor
