import Derived.Test.YtlndedfkgiafhaaDoorXAD
set_option linter.unusedVariables false
set_option linter.unusedSimpArgs false
set_option maxRecDepth 100000
set_option maxHeartbeats 4000000
namespace Go.Proofs.YtlndedfkgiafhaaDoor
open Go Go.RowKit Go.Proofs
theorem zK:Tryd.prog.underlying 130=some (.slice (Tryd.prog.elem 130)):=by kernel_rfl
theorem zJ:cJ Tryd.prog 130 192 7:=bX (by kernel_rfl)
theorem TG192:iJ Tryd.prog 192 7:=eG (by kernel_rfl)
theorem x8:dA Tryd.prog 192 [.w 0,.w 0,.e 0,.e 0,.b false,.b false,.b false]:=bO (by kernel_rfl)
theorem TZ192:(Tryd.prog.info? 192).map (·.size)=some 7:=by kernel_rfl
theorem mN:FA 192 0 0:=fa (by kernel_rfl)
theorem mM:FA 192 1 1:=fa (by kernel_rfl)
theorem mL:FA 192 2 2:=fa (by kernel_rfl)
theorem mK:FA 192 3 3:=fa (by kernel_rfl)
theorem mJ:FA 192 4 4:=fa (by kernel_rfl)
theorem dc:dI Tryd.prog 4:=bN (by kernel_rfl)
theorem qx:FA 192 5 5:=fa (by kernel_rfl)
theorem tQ:FA 192 6 6:=fa (by kernel_rfl)
theorem TU97:Tryd.prog.underlying 97=some (.slice 101):=by kernel_rfl
theorem TB101:(Tryd.prog.info? 101).map (fun i=>(i.zero,i.size,i.bytes))=some (some (.agg #[.w 0,.w 0,.e 0,.e 0,.b false,.b false,.b false]),7,16):=by kernel_rfl
theorem xO:Tryd.prog.underlying 142=some (.slice (Tryd.prog.elem 142)):=by kernel_rfl
theorem TS142:cJ Tryd.prog 142 193 5:=bX (by kernel_rfl)
theorem TG193:iJ Tryd.prog 193 5:=eG (by kernel_rfl)
theorem x7:dA Tryd.prog 193 [.string (⟨#[]⟩),.e 0,.e 0,.h 0,.q 0]:=bO (by kernel_rfl)
theorem TZ193:(Tryd.prog.info? 193).map (·.size)=some 5:=by kernel_rfl
theorem yS:FA 193 0 0:=fa (by kernel_rfl)
theorem dP:dI Tryd.prog 9:=bN (by kernel_rfl)
theorem yR:FA 193 1 1:=fa (by kernel_rfl)
theorem yQ:FA 193 2 2:=fa (by kernel_rfl)
theorem yP:FA 193 3 3:=fa (by kernel_rfl)
theorem yO:FA 193 4 4:=fa (by kernel_rfl)
theorem TU52:Tryd.prog.underlying 52=some (.slice 102):=by kernel_rfl
theorem TB102:(Tryd.prog.info? 102).map (fun i=>(i.zero,i.size,i.bytes))=some (some (.agg #[.string (⟨#[]⟩),.e 0,.e 0,.h 0,.q 0]),5,32):=by kernel_rfl
theorem iV{c:Nat}(w:World):
 Calls Tryd.prog 34 #[.s none 0 c] w fun e w'=> ∃v',e= .returned v'∧St w aR [ay 5 1 v' 0 []] w':=by
 refine aA (args:= [.s none 0 c]) Tryd.func34 Z Z Z ?_
 have H0:=St.nil w aR
 refine sr (av (.ns) Z (wn (sr (mv (.s none 0 c) Z (wm Z (ic (oX bB wF Z Z (Nat.le_refl _)) (av (.ns) Z (wn (aY ?_)))))))))
 exact⟨.inr Z,_,r1 (.ns) Z _ _,⟨_,Z,H0.addRow 5 1⟩⟩
theorem rC{a:Addr}{n c:Nat}{xs:List Int}(w:World)(hr:RI .u8 w (some a) n xs)(hn:n≤140737488355328):
 Calls Tryd.prog 34 #[.s (some a) n c] w fun e w'=> ∃v',e= .returned v'∧St w aR [ay 5 1 v' n (nums .u8 xs)] w':=by
 refine aA (args:= [.s (some a) n c]) Tryd.func34 Z Z Z ?_
 have H0:=St.nil w aR
 refine sr (av (.ns) Z (wn (sr (mv (.s (some a) n c) Z (wm Z (bG (H0.addRow 5 1) 0 (m:=n) (a:=a) (news:=nums .u8 xs) Z bB fx Z (by decide) Z Z (by rw[bQ,hr.1,Nat.mul_one]) (fun j u hj=>H0.keep.cell (by have:=hr.src (a:=a) Z (l:=0) (m:=n) (by omega) j u (by rw[List.drop_zero,List.take_of_length_le (by rw[hr.1];omega)];exact hj);simpa[Addr.add]using this) (aW _)) fA (by simp only[maxLen];omega) (by omega) (fun v w1 H1=> ?_)))))))
 rw[Nat.zero_add,List.nil_append]at H1
 refine av v Z (wn (aY ?_))
 exact⟨.inr Z,_,r1 v Z _ _,⟨_,Z,H1⟩⟩
theorem fB{A:Option Addr}{n c:Nat}{xs:List Int}(w:World)(hr:RI .u8 w A n xs)(hA:A=none → n=0)(hn:n≤140737488355328):
 Calls Tryd.prog 34 #[.s A n c] w fun e w'=> ∃v',e= .returned v'∧St w aR [ay 5 1 v' n (nums .u8 xs)] w':=by
 cases A with
 |none=>
  have h0:=hA rfl
  subst h0
  have hx:xs= []:=List.eq_nil_of_length_eq_zero hr.1
  subst hx
  exact iV w
 |some a=>exact rC w hr hn
theorem j8{A:Option Addr}{n c:Nat}{ds:List Rel}(w:World)(hr:RV w A n 7 (ds.flatMap Rel.cells))(hn:n≤4294967295):
 Calls Tryd.prog 45 #[.s A n c] w fun e w'=> ∃v',e= .returned v'∧St w aR [ay 101 7 v' n (ds.flatMap Rel.cells)] w':=by
 refine aA (args:= [.s A n c]) Tryd.func45 Z Z Z ?_
 have H0:=St.nil w aR
 refine sr (av (.ns) Z (wn (sr (av (.ns) Z (wn (ad (sr (mv (.s A n c) Z (wv Z (aO zK Z) (mi 0 Z (wn ?_)))))))))))
 refine a6 (bA (fun ρ w'=> ∃i:Nat,∃v:Value,ρ 6= .s A n c∧ρ 7= .i ↑n∧ρ 8= .i ↑i∧ρ 3=v∧i≤n∧St w aR [ay 101 7 v i ((ds.take i).flatMap Rel.cells)] w') (fun ρ _=>n+1- nv (ρ 8)) (⟨0,_,Z,Z,Z,Z,by omega,H0.addRow 101 7⟩) ?_)
 rintro ρ w1 ⟨i,v,h6,h7,h8,h3,hi,H1⟩
 have hlen:=hr.len fC (by decide)
 refine sr (wv Z (bR h8 h7) (wn (ad ?_)))
 refine bK Z (fun a=> ?_) (fun a=> ?_)
 ·
  simp only[bx]at a
  refine wk (ad (a6 (sr ?_)))
  obtain⟨d,hd⟩: ∃d,ds[i]? =some d:=⟨ds[i]'(by omega),List.getElem?_eq_getElem _⟩
  obtain⟨hin,g,o,rfl,hcell⟩:=hr.at_ fC hd (by decide)
  refine wv Z (bi i zJ h6 h8 Z (by omega) Z) (wv Z ((show Yv _ _ _ _ (.agg #[.w d.addr,.w d.value,.e d.type,.e d.len,.b d.pcrel,.b d.extern,.b d.scattered]) _ from dQ (cs:=d.cells) TG192 Z (fun j v hj=>H1.keep.cell (hcell j v hj) (aW _)) Z)) (wm Z (aN H1 x8 (fun g2 w3 p H4=>ws (eN H4 0 [.w d.addr,.w d.value,.e d.type,.e d.len,.b d.pcrel,.b d.extern,.b d.scattered] Z TZ192 (fun w6 H5=> ?_))))))
  refine wn (ae (mg h3 Z (wf mN Z (wv Z (H5.ld 0 Z ax Z (.w d.addr) Z) (wf mM Z (wv Z (H5.ld 0 Z ax Z (.w d.value) Z) (wf mL Z (wv Z (H5.ld 0 Z dq Z (.e d.type) Z) (wf mK Z (wv Z (H5.ld 0 Z dq Z (.e d.len) Z) (wf mJ Z ?_)))))))))))
  refine wv Z (H5.ld 0 Z dc Z (.b d.pcrel) Z) (wf qx Z (wv Z (H5.ld 0 Z dc Z (.b d.extern) Z) (wf tQ Z (wv Z (H5.ld 0 Z dc Z (.b d.scattered) Z) (wv Z (yz [.w d.addr,.w d.value,.e d.type,.e d.len,.b d.pcrel,.b d.extern,.b d.scattered] Z (by kernel_rfl)) (wm Z (kt H5 (ps:= [(0,.agg #[.w d.addr,.w d.value,.e d.type,.e d.len,.b d.pcrel,.b d.extern,.b d.scattered])]) (e:=101) (cs:= [.w d.addr,.w d.value,.e d.type,.e d.len,.b d.pcrel,.b d.extern,.b d.scattered]) Z (by kernel_rfl) (fun g7 w8 q H9=>wm Z (bG H9 2 (m:=1) (news:= [.w d.addr,.w d.value,.e d.type,.e d.len,.b d.pcrel,.b d.extern,.b d.scattered]) Z TU97 TB101 Z (by decide) Z Z Z (H9.news (i:=0) Z) (by simp[Value.oneCell']) (by simp only[maxLen];omega) (by omega) (fun f h l=> ?_))))))))))
  refine av f Z (bk (ak (ac (ae (wv Z (aH (k:= .i64) (c:= ↑i+1) h8 Z (a5 (by omega) (by omega))) (mi (↑i+1) Z (wn ?_)))))))
  have Hnx:St w aR [ay 101 7 f (i+1) ((ds.take (i+1)).flatMap Rel.cells)] h:=by rw[dV hd];exact l.sub (.cons _ (.cons _ (List.Sublist.refl _)))
  exact⟨⟨i+1,_,h6,h7,Z,Z,by omega,Hnx⟩,by show n+1- nv (.i (↑i+1))<n+1- nv (ρ 8);rw[h8];simp only[nv];omega⟩
 ·
  simp only[bx]at a
  refine bq (ar (ar (aQ (ac (sr (mg h3 Z (av v Z (wn (aY ?_)))))))))
  exact⟨.inr Z,_,r1 v Z _ _,⟨_,Z,(by have hin:i=n:=(by omega);rw[List.take_of_length_le (by omega),hin]at H1;exact H1)⟩⟩
theorem rh{A:Option Addr}{n c:Nat}{ds:List Sym}(w:World)(hr:RV w A n 5 (ds.flatMap Sym.cells))(hn:n≤4294967295):
 Calls Tryd.prog 46 #[.s A n c] w fun e w'=> ∃v',e= .returned v'∧St w aR [ay 102 5 v' n (ds.flatMap Sym.cells)] w':=by
 refine aA (args:= [.s A n c]) Tryd.func46 Z Z Z ?_
 have H0:=St.nil w aR
 refine sr (av (.ns) Z (wn (sr (av (.ns) Z (wn (ad (sr (mv (.s A n c) Z (wv Z (aO xO Z) (mi 0 Z (wn ?_)))))))))))
 refine a6 (bA (fun ρ w'=> ∃i:Nat,∃v:Value,ρ 6= .s A n c∧ρ 7= .i ↑n∧ρ 8= .i ↑i∧ρ 3=v∧i≤n∧St w aR [ay 102 5 v i ((ds.take i).flatMap Sym.cells)] w') (fun ρ _=>n+1- nv (ρ 8)) (⟨0,_,Z,Z,Z,Z,by omega,H0.addRow 102 5⟩) ?_)
 rintro ρ w1 ⟨i,v,h6,h7,h8,h3,hi,H1⟩
 have hlen:=hr.len Sym.len5 (by decide)
 refine sr (wv Z (bR h8 h7) (wn (ad ?_)))
 refine bK Z (fun a=> ?_) (fun a=> ?_)
 ·
  simp only[bx]at a
  refine wk (ad (a6 (sr ?_)))
  obtain⟨d,hd⟩: ∃d,ds[i]? =some d:=⟨ds[i]'(by omega),List.getElem?_eq_getElem _⟩
  obtain⟨hin,g,o,rfl,hcell⟩:=hr.at_ Sym.len5 hd (by decide)
  refine wv Z (bi i TS142 h6 h8 Z (by omega) Z) (wv Z ((show Yv _ _ _ _ (.agg #[.str d.name,.e d.type,.e d.sect,.h d.desc,.q d.value]) _ from dQ (cs:=d.cells) TG193 Z (fun j v hj=>H1.keep.cell (hcell j v hj) (aW _)) Z)) (wm Z (aN H1 x7 (fun g2 w3 p H4=>ws (eN H4 0 [.str d.name,.e d.type,.e d.sect,.h d.desc,.q d.value] Z TZ193 (fun w6 H5=> ?_))))))
  refine wn (ae (mg h3 Z (wf yS Z (wv Z (H5.ld 0 Z dP Z (.str d.name) Z) (wf yR Z (wv Z (H5.ld 0 Z dq Z (.e d.type) Z) (wf yQ Z (wv Z (H5.ld 0 Z dq Z (.e d.sect) Z) (wf yP Z (wv Z (H5.ld 0 Z iF Z (.h d.desc) Z) (wf yO Z ?_)))))))))))
  refine wv Z (H5.ld 0 Z aP Z (.q d.value) Z) (wv Z (yz [.str d.name,.e d.type,.e d.sect,.h d.desc,.q d.value] Z (by kernel_rfl)) (wm Z (kt H5 (ps:= [(0,.agg #[.str d.name,.e d.type,.e d.sect,.h d.desc,.q d.value])]) (e:=102) (cs:= [.str d.name,.e d.type,.e d.sect,.h d.desc,.q d.value]) Z (by kernel_rfl) (fun g7 w8 r H9=>wm Z (bG H9 2 (m:=1) (news:= [.str d.name,.e d.type,.e d.sect,.h d.desc,.q d.value]) Z TU52 TB102 Z (by decide) Z Z Z (H9.news (i:=0) Z) (by simp[Value.oneCell']) (by simp only[maxLen];omega) (by omega) (fun b f l=> ?_))))))
  refine av b Z (bk (ak (ac (ae (wv Z (aH (k:= .i64) (c:= ↑i+1) h8 Z (a5 (by omega) (by omega))) (mi (↑i+1) Z (wn ?_)))))))
  have Hnx:St w aR [ay 102 5 b (i+1) ((ds.take (i+1)).flatMap Sym.cells)] f:=by rw[dV hd];exact l.sub (.cons _ (.cons _ (List.Sublist.refl _)))
  exact⟨⟨i+1,_,h6,h7,Z,Z,by omega,Hnx⟩,by show n+1- nv (.i (↑i+1))<n+1- nv (ρ 8);rw[h8];simp only[nv];omega⟩
 ·
  simp only[bx]at a
  refine bq (ar (ar (aQ (ac (sr (mg h3 Z (av v Z (wn (aY ?_)))))))))
  exact⟨.inr Z,_,r1 v Z _ _,⟨_,Z,(by have hin:i=n:=(by omega);rw[List.take_of_length_le (by omega),hin]at H1;exact H1)⟩⟩
theorem l5:Tryd.prog.underlying 25=some (.slice (Tryd.prog.elem 25)):=by kernel_rfl
theorem pk:cJ Tryd.prog 25 24 1:=bX (by kernel_rfl)
theorem rx{gx gd od n c:Nat}{ys:List Int}(big:Bool)(w:World)(hx:(an gx (List.replicate n (.w 0)) 24).φ w)(hr:RI .u8 w (some ⟨gd,od,none⟩) (4*n) ys)(hby:Byt ys)(hne:gd≠gx)(hc:4*n≤c)(hn:n≤4294967295):
 Calls Tryd.prog 58 #[.sl gd od (4*n) c,.e (bo big),.sl gx 0 n n] w fun e w'=>e= .returned .n∧St w (fun k=>k=gx) [an gx (nums .u32 (fp big n ys)) 24] w':=by
 refine aA (args:= [.sl gd od (4*n) c,.e (bo big),.sl gx 0 n n]) Tryd.func58 Z Z Z ?_
 have H0:St _ _ [an gx (List.replicate n (.w 0)) 24] _:=(St.nil w (fun k=>k=gx)).add _ hx (fun _ h=>h) (by simp)
 refine sr (av (.n) Z (wn (ad (sr (ms gx 0 n n Z (wv Z (aO l5 Z) (mi 0 Z (wn (a6 (bA (fun ρ w'=> ∃i:Nat,ρ 0= .sl gd od (4*n) c∧ρ 1= .e (bo big)∧ρ 2= .sl gx 0 n n∧ρ 9= .i ↑n∧ρ 10= .i ↑i∧i≤n∧St w (fun k=>k=gx) [an gx (nums .u32 (jP big n ys i)) 24] w') (fun ρ _=>n+1- nv (ρ 10)) (⟨0,Z,Z,Z,Z,Z,by omega,by rw[sH];exact H0⟩) ?_))))))))))
 rintro ρ w1 ⟨i,h0,h1,h2,h9,b,hi,H1⟩
 refine sr (wv Z (bR b h9) (wn (ad ?_)))
 refine bK Z (fun d=> ?_) (fun d=> ?_)
 ·
  simp only[bx]at d
  refine wk (ad (a6 (sr (mg b Z (ai (↑i) Z (wn (ad (sr (mg h0 Z (wv Z ((show Yv _ _ _ _ (.i (4* ↑n)) _ from zV bU Z)) (mi (↑i) Z ?_)))))))))))
  refine wv Z (aH (k:= .i64) (c:= ↑i+1) Z Z (a5 (by omega) (by omega))) (wv Z (cM (k:= .i64) (c:=4*(↑i+1)) Z Z (a5 (by omega) (by omega))) (wv Z (bj Z Z (decide_eq_false (by omega))) (wn (al Z (wk (ae (mg h2 Z (mi (↑i) Z (mg h1 Z (mg h0 Z (mi (↑i) Z ?_)))))))))))
  refine wv Z (cM (k:= .i64) (c:=4* ↑i) Z Z (a5 (by omega) (by omega))) (wv Z ((aq (l:=4*i) (h:=4*n) aZ Z (bh Z (by omega) (by omega)) bn (by omega) (by omega) (by omega) Z:Yv _ _ _ _ (.sl gd (od+4*i) (4*n- 4*i) (c- 4*i)) _)) (wE [.e (bo big),.sl gd (od+4*i) (4*n- 4*i) (c- 4*i)] bW Z Z (aa (aM big _ ((hr.keep H1.keep fun a ha h=>hne ((Addr.mk.inj (Option.some.inj ha)).1.trans h)).drop_ (4*i)) (hby.drop _) (by omega) (by omega)) ?_)))
  rintro e w3 ⟨rfl,f⟩
  have H4:=H1.cal0 f
  refine⟨_,Z,wv Z (bi i pk Z Z Z (by omega) (by rw[Nat.zero_add,Nat.mul_one])) (ws ?_)⟩
  refine qe H4 0 (g:=gx) (k:=i) (cs:=nums .u32 (jP big n ys i)) (T:=24) (v:= .w (n4 big (ys.drop (4*i)))) Z ax Z (by rw[bQ,fT];omega) Z Z (L':= [an gx (nums .u32 (jP big n ys (i+1))) 24]) (fun w9 H9=> ?_) (by rw[List.set_cons_zero,r8,vk (by omega)])
  refine bk (ak (ac (ae (wv Z (aH (k:= .i64) (c:= ↑i+1) b Z (a5 (by omega) (by omega))) (mi (↑i+1) Z (wn ?_))))))
  exact⟨⟨i+1,h0,h1,h2,h9,Z,by omega,H9⟩,by show n+1- nv (.i (↑i+1))<n+1- nv (ρ 10);rw[b];simp only[nv];omega⟩
 ·
  simp only[bx]at d
  refine bq (ar (ar (aQ (ac (sr (av (.n) Z (wn (aY ?_))))))))
  exact⟨.inr Z,_,r1 (.n) Z _ _,⟨Z,by have hin:i=n:=(by omega);rw[hin,vm]at H1;exact H1⟩⟩
theorem fk:dA Tryd.prog 96 [.i 0,.ns,.string (⟨#[]⟩),.ns]:=bO (by kernel_rfl)
theorem vS: ∀(A:Option Addr) (n c:Nat) (w:World),(method (Tryd.prog.types.size+Made.depth) 138 (.s A n c) "Raw").run Tryd.prog w= .ok (95,.s A n c) w:=fun A n c w=>by kernel_rfl
theorem wy:bg Tryd.prog 95:=aL (by kernel_rfl)
theorem mf:bg Tryd.prog 34:=aL (by kernel_rfl)
theorem jE:(Tryd.prog.info? 96).map (·.size)=some 4:=by kernel_rfl
theorem pO:AssertT Tryd.prog 160 (.np):=⟨by kernel_rfl,by kernel_rfl⟩
theorem sB:AssertT Tryd.prog 168 (.np):=⟨by kernel_rfl,by kernel_rfl⟩
theorem va:AssertT Tryd.prog 163 (.np):=⟨by kernel_rfl,by kernel_rfl⟩
theorem yx:AssertT Tryd.prog 118 (.np):=⟨by kernel_rfl,by kernel_rfl⟩
theorem zT:AssertT Tryd.prog 119 (.np):=⟨by kernel_rfl,by kernel_rfl⟩
theorem hU:iJ Tryd.prog 96 4:=eG (by kernel_rfl)
theorem wt: ∀(g:Nat) (w:World),(method (Tryd.prog.types.size+Made.depth) 160 (.pt g) "Raw").run Tryd.prog w=((loadVar 138 ⟨g,0,none⟩)>>=fun v=>pure (95,v)).run Tryd.prog w:=fun g w=>by kernel_rfl
theorem hX:dI Tryd.prog 138:=bN (by kernel_rfl)
theorem bw:FA 181 1 1:=fa (by kernel_rfl)
theorem qE:FA 179 2 2:=fa (by kernel_rfl)
theorem qG:FA 179 0 0:=fa (by kernel_rfl)
theorem xP:(Tryd.prog.underlying 139).isSome=true:=by kernel_rfl
theorem qF:FA 179 1 1:=fa (by kernel_rfl)
theorem qD:FA 179 3 3:=fa (by kernel_rfl)
theorem qC:FA 179 4 4:=fa (by kernel_rfl)
theorem it:FA 179 5 5:=fa (by kernel_rfl)
theorem ir:FA 179 6 6:=fa (by kernel_rfl)
theorem qB:FA 179 7 7:=fa (by kernel_rfl)
theorem qA:FA 179 8 8:=fa (by kernel_rfl)
theorem lA:FA 179 9 9:=fa (by kernel_rfl)
theorem oG:FA 179 10 10:=fa (by kernel_rfl)
theorem kW:FA 96 0 0:=fa (by kernel_rfl)
theorem lW:FA 96 2 2:=fa (by kernel_rfl)
theorem iD:FA 96 3 3:=fa (by kernel_rfl)
theorem eD:dI Tryd.prog 26:=bN (by kernel_rfl)
theorem wo: ∀(g:Nat) (w:World),(method (Tryd.prog.types.size+Made.depth) 168 (.pt g) "Raw").run Tryd.prog w=((loadVar 138 ⟨g,0,none⟩)>>=fun v=>pure (95,v)).run Tryd.prog w:=fun g w=>by kernel_rfl
theorem uA:FA 170 1 1:=fa (by kernel_rfl)
theorem u9:FA 170 2 2:=fa (by kernel_rfl)
theorem u7:FA 170 3 3:=fa (by kernel_rfl)
theorem u6:FA 170 4 4:=fa (by kernel_rfl)
theorem wq: ∀(g:Nat) (w:World),(method (Tryd.prog.types.size+Made.depth) 163 (.pt g) "Raw").run Tryd.prog w=((loadVar 138 ⟨g,0,none⟩)>>=fun v=>pure (95,v)).run Tryd.prog w:=fun g w=>by kernel_rfl
theorem uE:FA 165 1 1:=fa (by kernel_rfl)
theorem ww: ∀(g:Nat) (w:World),(method (Tryd.prog.types.size+Made.depth) 118 (.pt g) "Raw").run Tryd.prog w=((loadVar 138 ⟨g,0,none⟩)>>=fun v=>pure (95,v)).run Tryd.prog w:=fun g w=>by kernel_rfl
theorem kz:FA 144 1 1:=fa (by kernel_rfl)
theorem wu: ∀(g:Nat) (w:World),(method (Tryd.prog.types.size+Made.depth) 119 (.pt g) "Raw").run Tryd.prog w=((loadVar 138 ⟨g,0,none⟩)>>=fun v=>pure (95,v)).run Tryd.prog w:=fun g w=>by kernel_rfl
theorem dz:FA 148 1 1:=fa (by kernel_rfl)
theorem pN{v:Value}(w:World):
 Calls Tryd.prog 95 #[v] w fun e w'=>e= .returned v∧St w aR [] w':=by
 refine aA (args:= [v]) Tryd.func95 Z Z Z ?_
 have H0:=St.nil w aR
 refine sr (av (.ns) Z (wn (sr (mv v Z (av v Z (wn (aY ?_)))))))
 exact⟨.inr Z,_,r1 v Z _ _,⟨Z,H0⟩⟩
theorem qc{A:Option Addr}{n c:Nat}{xs:List Int}(w:World)(hr:RI .u8 w A n xs)(hn:n≤140737488355328):
 Calls Tryd.prog 43 #[.f 138 (.s A n c)] w fun e w'=> ∃(c:List Value) (D:Res),e= .returned (.agg c.toArray)∧(∀w,D.φ w → LoadC w c ⟨0,xs,[],[]⟩)∧St w aR [D] w':=by
 refine aA (args:= [.f 138 (.s A n c)]) Tryd.func43 Z Z Z ?_
 have H0:=St.nil w aR
 refine sr (wm Z (aN H0 fk (fun g1 w2 o H3=>wn (sr (mv (.f 138 (.s A n c)) Z (wm Z (ei (args:= []) Z (vS _ _ _ _) wy Z (aa (pN _) ?_))))))))
 rintro e w5 ⟨rfl,k⟩
 have H6:=H3.cal0 k
 refine⟨_,Z,wE [.s A n c] mf Z Z (aa (fB _ (hr.keep0 H6.keep) hr.none0 hn) ?_)⟩
 rintro e w8 ⟨v,rfl,a⟩
 obtain⟨A',c',rfl,p,q⟩:=aw (a.g 0 rfl)
 have H9:=H6.cal0 a
 refine⟨_,Z,wv Z (yb (ps:= [(1,.s A' n c')]) (cells:=#[.i 0,.s A' n c',.string (⟨#[]⟩),.ns]) Z (by kernel_rfl)) (wm Z (aN H9 fk (fun r t l m=>ws (eN m 0 [.i 0,.s A' n c',.string (⟨#[]⟩),.ns] Z jE (fun u d=> ?_)))))⟩
 refine wn (ad (sr (mv (.f 138 (.s A n c)) Z (wn (a6 (sr (wv Z (de pO Z Z) (we (.b false) Z Z (we (.np) Z Z (wn (al Z ?_)))))))))))
 refine sr (wv Z (de sB Z Z) (we (.b false) Z Z (we (.np) Z Z (wn (al Z (sr (wv Z (de va Z Z) (we (.b false) Z Z (we (.np) Z Z (wn (al Z ?_)))))))))))
 refine sr (wv Z (de yx Z Z) (we (.b false) Z Z (we (.np) Z Z (wn (al Z (sr (wv Z (de zT Z Z) (we (.b false) Z Z (we (.np) Z Z (wn (al Z ?_)))))))))))
 refine dw (ak (ac (sr (wv Z (d.loadA (i:=0) (vs:= [.i 0,.s A' n c',.string (⟨#[]⟩),.ns]) Z hU Z Z Z) (ws (eN d 2 [.i 0,.s A' n c',.string (⟨#[]⟩),.ns] Z jE (fun x j=> ?_)))))))
 refine wn (aY ?_)
 exact⟨.inr Z,_,iK Z hU (by exact Z) (j.g 2 Z) Z,⟨[.i 0,.s A' n c',.string (⟨#[]⟩),.ns],Res.all [ay 5 1 (.s A' n c') n (nums .u8 xs)],Z,fun w h=>LoadC.of (nm:= []) (ns:= []) (aS.1 h (ay 5 1 (.s A' n c') n (nums .u8 xs)) (by simp)) (RI.nil _ _ _),St.pool (L2:= []) (j.sub (.cons _ (.cons_cons _ (.cons _ (List.Sublist.slnil)))))⟩⟩
theorem sP{A:Option Addr}{n c gl:Nat}{xs:List Int}{nm:List Int}{ra:Value}{sp:Value}{q:Nat → Int}(hq: ∀i,0≤q i∧q i≤18446744073709551615)(w:World)(hb:(an gl [.s A n c,.w (q 0),.w (q 1),.str nm,.q (q 2),.q (q 3),.q (q 4),.q (q 5),.w (q 6),.w (q 7),.w (q 8),.w (q 9),ra,sp] 181).φ w)(hr:RI .u8 w A n xs)(hn:n≤140737488355328):
 Calls Tryd.prog 43 #[.f 160 (.pt gl)] w fun e w'=> ∃(c:List Value) (D:Res),e= .returned (.agg c.toArray)∧(∀w,D.φ w → LoadC w c ⟨1,xs,nm,[q 0,q 1,q 2,q 3,q 4,q 5,q 6,q 7,q 8,q 9]⟩)∧St w aR [D] w':=by
 refine aA (args:= [.f 160 (.pt gl)]) Tryd.func43 Z Z Z ?_
 have H0:=St.nil w aR
 refine sr (wm Z (aN H0 fk (fun g1 w2 Q H3=>wn (sr (mv (.f 160 (.pt gl)) Z (wm Z (oc (args:= []) Z (wt _ _) hX (H3.keep.cell (cZ hb (k:=0) Z) (aW _)) wy Z (aa (pN _) ?_))))))))
 rintro e w5 ⟨rfl,J⟩
 have H6:=H3.cal0 J
 refine⟨_,Z,wE [.s A n c] mf Z Z (aa (fB _ (hr.keep0 H6.keep) hr.none0 hn) ?_)⟩
 rintro e w8 ⟨v,rfl,F⟩
 obtain⟨A',c',rfl,R,S⟩:=aw (F.g 0 rfl)
 have H9:=H6.cal0 F
 refine⟨_,Z,wv Z (yb (ps:= [(1,.s A' n c')]) (cells:=#[.i 0,.s A' n c',.string (⟨#[]⟩),.ns]) Z (by kernel_rfl)) (wm Z (aN H9 fk (fun T U K L=>ws (eN L 0 [.i 0,.s A' n c',.string (⟨#[]⟩),.ns] Z jE (fun V M=> ?_)))))⟩
 refine wn (ad (sr (mv (.f 160 (.pt gl)) Z (wn (a6 (sr (wv Z (fS pO Z) (we (.b true) Z Z (we (.pt gl) Z Z (wn (aB Z ?_)))))))))))
 refine sr (ap gl 0 Z (wn ?_))
 have a:=M.drew
 refine aU MX (fun w'=>w'.cell? ⟨gl,3,none⟩=some (.str nm)∧w'.cell? ⟨gl,1,none⟩=some (.w (q 0))∧w'.cell? ⟨gl,2,none⟩=some (.w (q 1))∧w'.cell? ⟨gl,4,none⟩=some (.q (q 2))∧w'.cell? ⟨gl,5,none⟩=some (.q (q 3))∧w'.cell? ⟨gl,6,none⟩=some (.q (q 4))∧w'.cell? ⟨gl,7,none⟩=some (.q (q 5))∧w'.cell? ⟨gl,8,none⟩=some (.w (q 6))∧w'.cell? ⟨gl,9,none⟩=some (.w (q 7))∧w'.cell? ⟨gl,10,none⟩=some (.w (q 8))∧w'.cell? ⟨gl,11,none⟩=some (.w (q 9))) (tr 0 61 (Pl.take 62 (Pl.run2 61 (Pl.run 63 (Pl.take 64 (Pl.run 65 (Pl.take 66 (Pl.run 67 Pl.done))))) 63 (Pl.take 64 (Pl.run2 61 (Pl.run 65 (Pl.take 66 (Pl.run 67 Pl.done))) 65 (Pl.run 61 (Pl.take 66 (Pl.run 67 Pl.done)))))))) (by kernel_rfl) (⟨a.kb hb Z,a.kb hb Z,a.kb hb Z,a.kb hb Z,a.kb hb Z,a.kb hb Z,a.kb hb Z,a.kb hb Z,a.kb hb Z,a.kb hb Z,a.kb hb Z⟩) (qm (.pt gl) Z Z (qy Z (ah Z) (qy Z (ab (o:=0) bw Z) (qy Z (ab (o:=1) qE Z) (qh Z (fun hS=>ag dP Z hS.1) (qm (.pt gl) Z Z (qy Z (ah Z) (qy Z (ab (o:=0) bw Z) (qy Z (ab (o:=1) qG Z) (qh Z (fun hS=>ag iG Z hS.2.1) (qy Z (ao (c:=q 0) xP be Z (aC (hq 0).1 (hq 0).2)) ?_)))))))))))
 refine qm (.pt gl) Z Z (qy Z (ah Z) (qy Z (ab (o:=0) bw Z) (qy Z (ab (o:=1) qF Z) (qh Z (fun hS=>ag ax Z hS.2.2.1) (qy Z (ao (c:=q 1) bv be Z (aC (hq 1).1 (hq 1).2)) (qm (.pt gl) Z Z (qy Z (ah Z) (qy Z (ab (o:=0) bw Z) (qy Z (ab (o:=1) qD Z) (qh Z (fun hS=>ag aP Z hS.2.2.2.1) (qm (.pt gl) Z Z ?_)))))))))))
 refine qy Z (ah Z) (qy Z (ab (o:=0) bw Z) (qy Z (ab (o:=1) qC Z) (qh Z (fun hS=>ag aP Z hS.2.2.2.2.1) (qm (.pt gl) Z Z (qy Z (ah Z) (qy Z (ab (o:=0) bw Z) (qy Z (ab (o:=1) it Z) (qh Z (fun hS=>ag aP Z hS.2.2.2.2.2.1) (qm (.pt gl) Z Z (qy Z (ah Z) (qy Z (ab (o:=0) bw Z) ?_)))))))))))
 refine qy Z (ab (o:=1) ir Z) (qh Z (fun hS=>ag aP Z hS.2.2.2.2.2.2.1) (qm (.pt gl) Z Z (qy Z (ah Z) (qy Z (ab (o:=0) bw Z) (qy Z (ab (o:=1) qB Z) (qh Z (fun hS=>ag ax Z hS.2.2.2.2.2.2.2.1) (qy Z (ao (c:=q 6) bv be Z (aC (hq 6).1 (hq 6).2)) (qm (.pt gl) Z Z (qy Z (ah Z) (qy Z (ab (o:=0) bw Z) (qy Z (ab (o:=1) qA Z) ?_)))))))))))
 refine qh Z (fun hS=>ag ax Z hS.2.2.2.2.2.2.2.2.1) (qy Z (ao (c:=q 7) bv be Z (aC (hq 7).1 (hq 7).2)) (qm (.pt gl) Z Z (qy Z (ah Z) (qy Z (ab (o:=0) bw Z) (qy Z (ab (o:=1) lA Z) (qh Z (fun hS=>ag ax Z hS.2.2.2.2.2.2.2.2.2.1) (qy Z (ao (c:=q 8) bv be Z (aC (hq 8).1 (hq 8).2)) (qm (.pt gl) Z Z (qy Z (ah Z) (qy Z (ab (o:=0) bw Z) (qy Z (ab (o:=1) oG Z) ?_)))))))))))
 refine qh Z (fun hS=>ag ax Z hS.2.2.2.2.2.2.2.2.2.2) (qy Z (ao (c:=q 9) bv be Z (aC (hq 9).1 (hq 9).2)) (qy Z (ab (o:=0) kW Z) ?_))
 refine⟨?_,?_⟩
 ·
  refine po Z (eb a 43 [.q (q 0),.q (q 1),.q (q 2),.q (q 3),.q (q 4),.q (q 5),.q (q 6),.q (q 7),.q (q 8),.q (q 9)] Z (by kernel_rfl) (fun B W N p=>⟨⟨p.kb hb Z,p.kb hb Z,p.kb hb Z,p.kb hb Z,p.kb hb Z,p.kb hb Z,p.kb hb Z,p.kb hb Z,p.kb hb Z,p.kb hb Z,p.kb hb Z⟩,fun _=>trivial,dJ Z (es p 1 0 (.i 1) Z kD (fun X r=> ?_))⟩))
  refine⟨⟨r.kb hb Z,r.kb hb Z,r.kb hb Z,r.kb hb Z,r.kb hb Z,r.kb hb Z,r.kb hb Z,r.kb hb Z,r.kb hb Z,r.kb hb Z,r.kb hb Z⟩,fun _=>trivial,qy Z (ab (o:=0) lW Z) (dJ Z (es r 1 2 (.str nm) Z dP (fun Y t=> ?_)))⟩
  refine⟨⟨t.kb hb Z,t.kb hb Z,t.kb hb Z,t.kb hb Z,t.kb hb Z,t.kb hb Z,t.kb hb Z,t.kb hb Z,t.kb hb Z,t.kb hb Z,t.kb hb Z⟩,fun _=>trivial,qy Z (ab (o:=0) iD Z) (dJ Z (es t 1 3 (.sl B 0 10 10) Z eD (fun ae d=> ?_)))⟩
  refine⟨⟨d.kb hb Z,d.kb hb Z,d.kb hb Z,d.kb hb Z,d.kb hb Z,d.kb hb Z,d.kb hb Z,d.kb hb Z,d.kb hb Z,d.kb hb Z,d.kb hb Z⟩,fun _=>trivial,ca (ak (ac (sr (wv Z (d.loadA (i:=1) (vs:= [.i 1,.s A' n c',.str nm,.sl B 0 10 10]) Z hU Z Z Z) (ws (eN d 3 [.i 1,.s A' n c',.str nm,.sl B 0 10 10] Z jE (fun af G=> ?_)))))))⟩
  refine wn (aY ?_)
  exact⟨.inr Z,_,iK Z hU (by exact Z) (G.g 3 Z) Z,⟨[.i 1,.s A' n c',.str nm,.sl B 0 10 10],Res.all [an B (nums .u64 [q 0,q 1,q 2,q 3,q 4,q 5,q 6,q 7,q 8,q 9]) 43,ay 5 1 (.s A' n c') n (nums .u8 xs)],Z,fun w h=>LoadC.of (nm:=nm) (ns:= [q 0,q 1,q 2,q 3,q 4,q 5,q 6,q 7,q 8,q 9]) (aS.1 h (ay 5 1 (.s A' n c') n (nums .u8 xs)) (by simp)) (aj (aS.1 h (an B (nums .u64 [q 0,q 1,q 2,q 3,q 4,q 5,q 6,q 7,q 8,q 9]) 43) (by simp)) Z),St.pool (L2:= []) (G.sub (.cons_cons _ (.cons _ (.cons_cons _ (.cons _ (List.Sublist.slnil))))))⟩⟩
 ·
  refine vA Z (es a 0 0 (.i 1) Z kD (fun ai j=> ?_))
  refine⟨⟨j.kb hb Z,j.kb hb Z,j.kb hb Z,j.kb hb Z,j.kb hb Z,j.kb hb Z,j.kb hb Z,j.kb hb Z,j.kb hb Z,j.kb hb Z,j.kb hb Z⟩,fun _=>trivial,qy Z (ab (o:=0) lW Z) ?_⟩
  refine⟨?_,?_⟩
  ·
   refine po Z (eb j 43 [.q (q 0),.q (q 1),.q (q 2),.q (q 3),.q (q 4),.q (q 5),.q (q 6),.q (q 7),.q (q 8),.q (q 9)] Z (by kernel_rfl) (fun C al O u=>⟨⟨u.kb hb Z,u.kb hb Z,u.kb hb Z,u.kb hb Z,u.kb hb Z,u.kb hb Z,u.kb hb Z,u.kb hb Z,u.kb hb Z,u.kb hb Z,u.kb hb Z⟩,fun _=>trivial,dJ Z (es u 1 2 (.str nm) Z dP (fun am x=> ?_))⟩))
   refine⟨⟨x.kb hb Z,x.kb hb Z,x.kb hb Z,x.kb hb Z,x.kb hb Z,x.kb hb Z,x.kb hb Z,x.kb hb Z,x.kb hb Z,x.kb hb Z,x.kb hb Z⟩,fun _=>trivial,qy Z (ab (o:=0) iD Z) (dJ Z (es x 1 3 (.sl C 0 10 10) Z eD (fun aq l=> ?_)))⟩
   refine⟨⟨l.kb hb Z,l.kb hb Z,l.kb hb Z,l.kb hb Z,l.kb hb Z,l.kb hb Z,l.kb hb Z,l.kb hb Z,l.kb hb Z,l.kb hb Z,l.kb hb Z⟩,fun _=>trivial,ca (ak (ac (sr (wv Z (l.loadA (i:=1) (vs:= [.i 1,.s A' n c',.str nm,.sl C 0 10 10]) Z hU Z Z Z) (ws (eN l 3 [.i 1,.s A' n c',.str nm,.sl C 0 10 10] Z jE (fun ar H=> ?_)))))))⟩
   refine wn (aY ?_)
   exact⟨.inr Z,_,iK Z hU (by exact Z) (H.g 3 Z) Z,⟨[.i 1,.s A' n c',.str nm,.sl C 0 10 10],Res.all [an C (nums .u64 [q 0,q 1,q 2,q 3,q 4,q 5,q 6,q 7,q 8,q 9]) 43,ay 5 1 (.s A' n c') n (nums .u8 xs)],Z,fun w h=>LoadC.of (nm:=nm) (ns:= [q 0,q 1,q 2,q 3,q 4,q 5,q 6,q 7,q 8,q 9]) (aS.1 h (ay 5 1 (.s A' n c') n (nums .u8 xs)) (by simp)) (aj (aS.1 h (an C (nums .u64 [q 0,q 1,q 2,q 3,q 4,q 5,q 6,q 7,q 8,q 9]) 43) (by simp)) Z),St.pool (L2:= []) (H.sub (.cons_cons _ (.cons _ (.cons_cons _ (.cons _ (List.Sublist.slnil))))))⟩⟩
  ·
   refine vA Z (es j 0 2 (.str nm) Z dP (fun au y=> ?_))
   refine⟨⟨y.kb hb Z,y.kb hb Z,y.kb hb Z,y.kb hb Z,y.kb hb Z,y.kb hb Z,y.kb hb Z,y.kb hb Z,y.kb hb Z,y.kb hb Z,y.kb hb Z⟩,fun _=>trivial,qr Z (eb y 43 [.q (q 0),.q (q 1),.q (q 2),.q (q 3),.q (q 4),.q (q 5),.q (q 6),.q (q 7),.q (q 8),.q (q 9)] Z (by kernel_rfl) (fun E av P z=>⟨⟨z.kb hb Z,z.kb hb Z,z.kb hb Z,z.kb hb Z,z.kb hb Z,z.kb hb Z,z.kb hb Z,z.kb hb Z,z.kb hb Z,z.kb hb Z,z.kb hb Z⟩,fun _=>trivial,qy Z (ab (o:=0) iD Z) (dJ Z (es z 1 3 (.sl E 0 10 10) Z eD (fun az m=> ?_)))⟩))⟩
   refine⟨⟨m.kb hb Z,m.kb hb Z,m.kb hb Z,m.kb hb Z,m.kb hb Z,m.kb hb Z,m.kb hb Z,m.kb hb Z,m.kb hb Z,m.kb hb Z,m.kb hb Z⟩,fun _=>trivial,ca (ak (ac (sr (wv Z (m.loadA (i:=1) (vs:= [.i 1,.s A' n c',.str nm,.sl E 0 10 10]) Z hU Z Z Z) (ws (eN m 3 [.i 1,.s A' n c',.str nm,.sl E 0 10 10] Z jE (fun a0 I=> ?_)))))))⟩
   refine wn (aY ?_)
   exact⟨.inr Z,_,iK Z hU (by exact Z) (I.g 3 Z) Z,⟨[.i 1,.s A' n c',.str nm,.sl E 0 10 10],Res.all [an E (nums .u64 [q 0,q 1,q 2,q 3,q 4,q 5,q 6,q 7,q 8,q 9]) 43,ay 5 1 (.s A' n c') n (nums .u8 xs)],Z,fun w h=>LoadC.of (nm:=nm) (ns:= [q 0,q 1,q 2,q 3,q 4,q 5,q 6,q 7,q 8,q 9]) (aS.1 h (ay 5 1 (.s A' n c') n (nums .u8 xs)) (by simp)) (aj (aS.1 h (an E (nums .u64 [q 0,q 1,q 2,q 3,q 4,q 5,q 6,q 7,q 8,q 9]) 43) (by simp)) Z),St.pool (L2:= []) (I.sub (.cons_cons _ (.cons _ (.cons_cons _ (.cons _ (List.Sublist.slnil))))))⟩⟩
theorem sQ{A:Option Addr}{n c gl:Nat}{xs:List Int}{nm:List Int}{q:Nat → Int}(hq: ∀i,0≤q i∧q i≤18446744073709551615)(w:World)(hb:(an gl [.s A n c,.str nm,.w (q 0),.w (q 1),.w (q 2)] 170).φ w)(hr:RI .u8 w A n xs)(hn:n≤140737488355328):
 Calls Tryd.prog 43 #[.f 168 (.pt gl)] w fun e w'=> ∃(c:List Value) (D:Res),e= .returned (.agg c.toArray)∧(∀w,D.φ w → LoadC w c ⟨2,xs,nm,[q 0,q 1,q 2]⟩)∧St w aR [D] w':=by
 refine aA (args:= [.f 168 (.pt gl)]) Tryd.func43 Z Z Z ?_
 have H0:=St.nil w aR
 refine sr (wm Z (aN H0 fk (fun g1 w2 Q H3=>wn (sr (mv (.f 168 (.pt gl)) Z (wm Z (oc (args:= []) Z (wo _ _) hX (H3.keep.cell (cZ hb (k:=0) Z) (aW _)) wy Z (aa (pN _) ?_))))))))
 rintro e w5 ⟨rfl,J⟩
 have H6:=H3.cal0 J
 refine⟨_,Z,wE [.s A n c] mf Z Z (aa (fB _ (hr.keep0 H6.keep) hr.none0 hn) ?_)⟩
 rintro e w8 ⟨v,rfl,F⟩
 obtain⟨A',c',rfl,R,S⟩:=aw (F.g 0 rfl)
 have H9:=H6.cal0 F
 refine⟨_,Z,wv Z (yb (ps:= [(1,.s A' n c')]) (cells:=#[.i 0,.s A' n c',.string (⟨#[]⟩),.ns]) Z (by kernel_rfl)) (wm Z (aN H9 fk (fun T U K L=>ws (eN L 0 [.i 0,.s A' n c',.string (⟨#[]⟩),.ns] Z jE (fun V M=> ?_)))))⟩
 refine wn (ad (sr (mv (.f 168 (.pt gl)) Z (wn (a6 (sr (wv Z (de pO Z Z) (we (.b false) Z Z (we (.np) Z Z (wn (al Z ?_)))))))))))
 refine sr (wv Z (fS sB Z) (we (.b true) Z Z (we (.pt gl) Z Z (wn (aB Z (sr (ap gl 0 Z (wn ?_))))))))
 have a:=M.drew
 refine aU MX (fun w'=>w'.cell? ⟨gl,1,none⟩=some (.str nm)∧w'.cell? ⟨gl,2,none⟩=some (.w (q 0))∧w'.cell? ⟨gl,3,none⟩=some (.w (q 1))∧w'.cell? ⟨gl,4,none⟩=some (.w (q 2))) (tr 0 19 (Pl.take 20 (Pl.run2 19 (Pl.run 21 (Pl.take 22 (Pl.run 23 (Pl.take 24 (Pl.run 25 Pl.done))))) 21 (Pl.take 22 (Pl.run2 19 (Pl.run 23 (Pl.take 24 (Pl.run 25 Pl.done))) 23 (Pl.run 19 (Pl.take 24 (Pl.run 25 Pl.done)))))))) (by kernel_rfl) (⟨a.kb hb Z,a.kb hb Z,a.kb hb Z,a.kb hb Z⟩) (qm (.pt gl) Z Z (qy Z (ah Z) (qy Z (ab (o:=0) uA Z) (qh Z (fun hS=>ag dP Z hS.1) (qm (.pt gl) Z Z (qy Z (ah Z) (qy Z (ab (o:=0) u9 Z) (qh Z (fun hS=>ag ax Z hS.2.1) (qy Z (ao (c:=q 0) bv be Z (aC (hq 0).1 (hq 0).2)) (qm (.pt gl) Z Z (qy Z (ah Z) ?_)))))))))))
 refine qy Z (ab (o:=0) u7 Z) (qh Z (fun hS=>ag ax Z hS.2.2.1) (qy Z (ao (c:=q 1) bv be Z (aC (hq 1).1 (hq 1).2)) (qm (.pt gl) Z Z (qy Z (ah Z) (qy Z (ab (o:=0) u6 Z) (qh Z (fun hS=>ag ax Z hS.2.2.2) (qy Z (ao (c:=q 2) bv be Z (aC (hq 2).1 (hq 2).2)) (qy Z (ab (o:=0) kW Z) ?_))))))))
 refine⟨?_,?_⟩
 ·
  refine po Z (eb a 43 [.q (q 0),.q (q 1),.q (q 2)] Z (by kernel_rfl) (fun d W N u=>⟨⟨u.kb hb Z,u.kb hb Z,u.kb hb Z,u.kb hb Z⟩,fun _=>trivial,dJ Z (es u 1 0 (.i 2) Z kD (fun X x=> ?_))⟩))
  refine⟨⟨x.kb hb Z,x.kb hb Z,x.kb hb Z,x.kb hb Z⟩,fun _=>trivial,qy Z (ab (o:=0) lW Z) (dJ Z (es x 1 2 (.str nm) Z dP (fun Y y=> ?_)))⟩
  refine⟨⟨y.kb hb Z,y.kb hb Z,y.kb hb Z,y.kb hb Z⟩,fun _=>trivial,qy Z (ab (o:=0) iD Z) (dJ Z (es y 1 3 (.sl d 0 3 3) Z eD (fun ae j=> ?_)))⟩
  refine⟨⟨j.kb hb Z,j.kb hb Z,j.kb hb Z,j.kb hb Z⟩,fun _=>trivial,ca (ak (ac (sr (wv Z (j.loadA (i:=1) (vs:= [.i 2,.s A' n c',.str nm,.sl d 0 3 3]) Z hU Z Z Z) (ws (eN j 3 [.i 2,.s A' n c',.str nm,.sl d 0 3 3] Z jE (fun af G=> ?_)))))))⟩
  refine wn (aY ?_)
  exact⟨.inr Z,_,iK Z hU (by exact Z) (G.g 3 Z) Z,⟨[.i 2,.s A' n c',.str nm,.sl d 0 3 3],Res.all [an d (nums .u64 [q 0,q 1,q 2]) 43,ay 5 1 (.s A' n c') n (nums .u8 xs)],Z,fun w h=>LoadC.of (nm:=nm) (ns:= [q 0,q 1,q 2]) (aS.1 h (ay 5 1 (.s A' n c') n (nums .u8 xs)) (by simp)) (aj (aS.1 h (an d (nums .u64 [q 0,q 1,q 2]) 43) (by simp)) Z),St.pool (L2:= []) (G.sub (.cons_cons _ (.cons _ (.cons_cons _ (.cons _ (List.Sublist.slnil))))))⟩⟩
 ·
  refine vA Z (es a 0 0 (.i 2) Z kD (fun ai l=> ?_))
  refine⟨⟨l.kb hb Z,l.kb hb Z,l.kb hb Z,l.kb hb Z⟩,fun _=>trivial,qy Z (ab (o:=0) lW Z) ?_⟩
  refine⟨?_,?_⟩
  ·
   refine po Z (eb l 43 [.q (q 0),.q (q 1),.q (q 2)] Z (by kernel_rfl) (fun m am O z=>⟨⟨z.kb hb Z,z.kb hb Z,z.kb hb Z,z.kb hb Z⟩,fun _=>trivial,dJ Z (es z 1 2 (.str nm) Z dP (fun aq B=> ?_))⟩))
   refine⟨⟨B.kb hb Z,B.kb hb Z,B.kb hb Z,B.kb hb Z⟩,fun _=>trivial,qy Z (ab (o:=0) iD Z) (dJ Z (es B 1 3 (.sl m 0 3 3) Z eD (fun ar p=> ?_)))⟩
   refine⟨⟨p.kb hb Z,p.kb hb Z,p.kb hb Z,p.kb hb Z⟩,fun _=>trivial,ca (ak (ac (sr (wv Z (p.loadA (i:=1) (vs:= [.i 2,.s A' n c',.str nm,.sl m 0 3 3]) Z hU Z Z Z) (ws (eN p 3 [.i 2,.s A' n c',.str nm,.sl m 0 3 3] Z jE (fun au H=> ?_)))))))⟩
   refine wn (aY ?_)
   exact⟨.inr Z,_,iK Z hU (by exact Z) (H.g 3 Z) Z,⟨[.i 2,.s A' n c',.str nm,.sl m 0 3 3],Res.all [an m (nums .u64 [q 0,q 1,q 2]) 43,ay 5 1 (.s A' n c') n (nums .u8 xs)],Z,fun w h=>LoadC.of (nm:=nm) (ns:= [q 0,q 1,q 2]) (aS.1 h (ay 5 1 (.s A' n c') n (nums .u8 xs)) (by simp)) (aj (aS.1 h (an m (nums .u64 [q 0,q 1,q 2]) 43) (by simp)) Z),St.pool (L2:= []) (H.sub (.cons_cons _ (.cons _ (.cons_cons _ (.cons _ (List.Sublist.slnil))))))⟩⟩
  ·
   refine vA Z (es l 0 2 (.str nm) Z dP (fun av C=> ?_))
   refine⟨⟨C.kb hb Z,C.kb hb Z,C.kb hb Z,C.kb hb Z⟩,fun _=>trivial,qr Z (eb C 43 [.q (q 0),.q (q 1),.q (q 2)] Z (by kernel_rfl) (fun r az P E=>⟨⟨E.kb hb Z,E.kb hb Z,E.kb hb Z,E.kb hb Z⟩,fun _=>trivial,qy Z (ab (o:=0) iD Z) (dJ Z (es E 1 3 (.sl r 0 3 3) Z eD (fun a0 t=> ?_)))⟩))⟩
   refine⟨⟨t.kb hb Z,t.kb hb Z,t.kb hb Z,t.kb hb Z⟩,fun _=>trivial,ca (ak (ac (sr (wv Z (t.loadA (i:=1) (vs:= [.i 2,.s A' n c',.str nm,.sl r 0 3 3]) Z hU Z Z Z) (ws (eN t 3 [.i 2,.s A' n c',.str nm,.sl r 0 3 3] Z jE (fun a1 I=> ?_)))))))⟩
   refine wn (aY ?_)
   exact⟨.inr Z,_,iK Z hU (by exact Z) (I.g 3 Z) Z,⟨[.i 2,.s A' n c',.str nm,.sl r 0 3 3],Res.all [an r (nums .u64 [q 0,q 1,q 2]) 43,ay 5 1 (.s A' n c') n (nums .u8 xs)],Z,fun w h=>LoadC.of (nm:=nm) (ns:= [q 0,q 1,q 2]) (aS.1 h (ay 5 1 (.s A' n c') n (nums .u8 xs)) (by simp)) (aj (aS.1 h (an r (nums .u64 [q 0,q 1,q 2]) 43) (by simp)) Z),St.pool (L2:= []) (I.sub (.cons_cons _ (.cons _ (.cons_cons _ (.cons _ (List.Sublist.slnil))))))⟩⟩
theorem r9{A:Option Addr}{n c gl:Nat}{xs:List Int}{nm:List Int}(w:World)(hb:(an gl [.s A n c,.str nm] 165).φ w)(hr:RI .u8 w A n xs)(hn:n≤140737488355328):
 Calls Tryd.prog 43 #[.f 163 (.pt gl)] w fun e w'=> ∃(c:List Value) (D:Res),e= .returned (.agg c.toArray)∧(∀w,D.φ w → LoadC w c ⟨3,xs,nm,[]⟩)∧St w aR [D] w':=by
 refine aA (args:= [.f 163 (.pt gl)]) Tryd.func43 Z Z Z ?_
 have H0:=St.nil w aR
 refine sr (wm Z (aN H0 fk (fun g1 w2 u H3=>wn (sr (mv (.f 163 (.pt gl)) Z (wm Z (oc (args:= []) Z (wq _ _) hX (H3.keep.cell (cZ hb (k:=0) Z) (aW _)) wy Z (aa (pN _) ?_))))))))
 rintro e w5 ⟨rfl,p⟩
 have H6:=H3.cal0 p
 refine⟨_,Z,wE [.s A n c] mf Z Z (aa (fB _ (hr.keep0 H6.keep) hr.none0 hn) ?_)⟩
 rintro e w8 ⟨v,rfl,d⟩
 obtain⟨A',c',rfl,x,y⟩:=aw (d.g 0 rfl)
 have H9:=H6.cal0 d
 refine⟨_,Z,wv Z (yb (ps:= [(1,.s A' n c')]) (cells:=#[.i 0,.s A' n c',.string (⟨#[]⟩),.ns]) Z (by kernel_rfl)) (wm Z (aN H9 fk (fun z B q r=>ws (eN r 0 [.i 0,.s A' n c',.string (⟨#[]⟩),.ns] Z jE (fun C t=> ?_)))))⟩
 refine wn (ad (sr (mv (.f 163 (.pt gl)) Z (wn (a6 (sr (wv Z (de pO Z Z) (we (.b false) Z Z (we (.np) Z Z (wn (al Z ?_)))))))))))
 refine sr (wv Z (de sB Z Z) (we (.b false) Z Z (we (.np) Z Z (wn (al Z (sr (wv Z (fS va Z) (we (.b true) Z Z (we (.pt gl) Z Z (wn (aB Z ?_)))))))))))
 refine sr (ap gl 0 Z (wn ?_))
 have j:=t.drew
 refine aU MX (fun w'=>w'.cell? ⟨gl,1,none⟩=some (.str nm)) (tr 0 5 (Pl.run 5 (Pl.take 6 (Pl.run 7 Pl.done)))) (by kernel_rfl) (j.kb hb Z) (qm (.pt gl) Z Z (qy Z (ah Z) (qy Z (ab (o:=0) uE Z) (qh Z (fun hS=>ag dP Z hS) (qy Z (ab (o:=0) kW Z) (dJ Z (es j 0 0 (.i 3) Z kD (fun E l=> ?_))))))))
 refine⟨l.kb hb Z,fun _=>trivial,qy Z (ab (o:=0) lW Z) (dJ Z (es l 0 2 (.str nm) Z dP (fun F a=> ?_)))⟩
 refine⟨a.kb hb Z,fun _=>trivial,ca (ak (ac (sr (wv Z (a.loadA (i:=0) (vs:= [.i 3,.s A' n c',.str nm,.ns]) Z hU Z Z Z) (ws (eN a 2 [.i 3,.s A' n c',.str nm,.ns] Z jE (fun G m=> ?_)))))))⟩
 refine wn (aY ?_)
 exact⟨.inr Z,_,iK Z hU (by exact Z) (m.g 2 Z) Z,⟨[.i 3,.s A' n c',.str nm,.ns],Res.all [ay 5 1 (.s A' n c') n (nums .u8 xs)],Z,fun w h=>LoadC.of (nm:=nm) (ns:= []) (aS.1 h (ay 5 1 (.s A' n c') n (nums .u8 xs)) (by simp)) (RI.nil _ _ _),St.pool (L2:= []) (m.sub (.cons _ (.cons_cons _ (.cons _ (List.Sublist.slnil)))))⟩⟩
theorem sO{A:Option Addr}{n c gl:Nat}{xs:List Int}{sy:Value}(w:World)(hb:(an gl [.s A n c,.w 0,.w 0,.w 0,.w 0,.w 0,.w 0,sy] 144).φ w)(hr:RI .u8 w A n xs)(hn:n≤140737488355328):
 Calls Tryd.prog 43 #[.f 118 (.pt gl)] w fun e w'=> ∃(c:List Value) (D:Res),e= .returned (.agg c.toArray)∧(∀w,D.φ w → LoadC w c ⟨4,xs,[],[0,0,0,0,0,0]⟩)∧St w aR [D] w':=by
 refine aA (args:= [.f 118 (.pt gl)]) Tryd.func43 Z Z Z ?_
 have H0:=St.nil w aR
 refine sr (wm Z (aN H0 fk (fun g1 w2 I H3=>wn (sr (mv (.f 118 (.pt gl)) Z (wm Z (oc (args:= []) Z (ww _ _) hX (H3.keep.cell (cZ hb (k:=0) Z) (aW _)) wy Z (aa (pN _) ?_))))))))
 rintro e w5 ⟨rfl,B⟩
 have H6:=H3.cal0 B
 refine⟨_,Z,wE [.s A n c] mf Z Z (aa (fB _ (hr.keep0 H6.keep) hr.none0 hn) ?_)⟩
 rintro e w8 ⟨v,rfl,x⟩
 obtain⟨A',c',rfl,J,K⟩:=aw (x.g 0 rfl)
 have H9:=H6.cal0 x
 refine⟨_,Z,wv Z (yb (ps:= [(1,.s A' n c')]) (cells:=#[.i 0,.s A' n c',.string (⟨#[]⟩),.ns]) Z (by kernel_rfl)) (wm Z (aN H9 fk (fun L M C E=>ws (eN E 0 [.i 0,.s A' n c',.string (⟨#[]⟩),.ns] Z jE (fun N F=> ?_)))))⟩
 refine wn (ad (sr (mv (.f 118 (.pt gl)) Z (wn (a6 (sr (wv Z (de pO Z Z) (we (.b false) Z Z (we (.np) Z Z (wn (al Z ?_)))))))))))
 refine sr (wv Z (de sB Z Z) (we (.b false) Z Z (we (.np) Z Z (wn (al Z (sr (wv Z (de va Z Z) (we (.b false) Z Z (we (.np) Z Z (wn (al Z ?_)))))))))))
 refine sr (wv Z (fS yx Z) (we (.b true) Z Z (we (.pt gl) Z Z (wn (aB Z (sr (ap gl 0 Z (wn ?_))))))))
 have a:=F.drew
 refine aU MX (fun w'=>w'.cell? ⟨gl,1,none⟩=some (.w 0)∧w'.cell? ⟨gl,2,none⟩=some (.w 0)∧w'.cell? ⟨gl,3,none⟩=some (.w 0)∧w'.cell? ⟨gl,4,none⟩=some (.w 0)∧w'.cell? ⟨gl,5,none⟩=some (.w 0)∧w'.cell? ⟨gl,6,none⟩=some (.w 0)) (tr 0 36 (Pl.take 37 (Pl.run2 36 (Pl.run 38 (Pl.take 39 (Pl.run 40 Pl.done))) 38 (Pl.run 36 (Pl.take 39 (Pl.run 40 Pl.done)))))) (by kernel_rfl) (⟨a.kb hb Z,a.kb hb Z,a.kb hb Z,a.kb hb Z,a.kb hb Z,a.kb hb Z⟩) (qm (.pt gl) Z Z (qy Z (ah Z) (qy Z (ab (o:=0) kz Z) (qy Z (ab (o:=1) uP Z) (qh Z (fun hS=>ag iG Z hS.1) (qy Z (ao (c:=0) xP be Z Z) (qm (.pt gl) Z Z (qy Z (ah Z) (qy Z (ab (o:=0) kz Z) (qy Z (ab (o:=1) uO Z) (qh Z (fun hS=>ag ax Z hS.2.1) ?_)))))))))))
 refine qy Z (ao (c:=0) bv be Z Z) (qm (.pt gl) Z Z (qy Z (ah Z) (qy Z (ab (o:=0) kz Z) (qy Z (ab (o:=1) kB Z) (qh Z (fun hS=>ag ax Z hS.2.2.1) (qy Z (ao (c:=0) bv be Z Z) (qm (.pt gl) Z Z (qy Z (ah Z) (qy Z (ab (o:=0) kz Z) (qy Z (ab (o:=1) gJ Z) (qh Z (fun hS=>ag ax Z hS.2.2.2.1) ?_)))))))))))
 refine qy Z (ao (c:=0) bv be Z Z) (qm (.pt gl) Z Z (qy Z (ah Z) (qy Z (ab (o:=0) kz Z) (qy Z (ab (o:=1) kA Z) (qh Z (fun hS=>ag ax Z hS.2.2.2.2.1) (qy Z (ao (c:=0) bv be Z Z) (qm (.pt gl) Z Z (qy Z (ah Z) (qy Z (ab (o:=0) kz Z) (qy Z (ab (o:=1) k6 Z) (qh Z (fun hS=>ag ax Z hS.2.2.2.2.2) ?_)))))))))))
 refine qy Z (ao (c:=0) bv be Z Z) (qy Z (ab (o:=0) kW Z) ?_)
 refine⟨?_,?_⟩
 ·
  refine po Z (eb a 43 [.q 0,.q 0,.q 0,.q 0,.q 0,.q 0] Z (by kernel_rfl) (fun t O G l=>⟨⟨l.kb hb Z,l.kb hb Z,l.kb hb Z,l.kb hb Z,l.kb hb Z,l.kb hb Z⟩,fun _=>trivial,dJ Z (es l 1 0 (.i 4) Z kD (fun P m=> ?_))⟩))
  refine⟨⟨m.kb hb Z,m.kb hb Z,m.kb hb Z,m.kb hb Z,m.kb hb Z,m.kb hb Z⟩,fun _=>trivial,qy Z (ab (o:=0) iD Z) (dJ Z (es m 1 3 (.sl t 0 6 6) Z eD (fun Q d=> ?_)))⟩
  refine⟨⟨d.kb hb Z,d.kb hb Z,d.kb hb Z,d.kb hb Z,d.kb hb Z,d.kb hb Z⟩,fun _=>trivial,ca (ak (ac (sr (wv Z (d.loadA (i:=1) (vs:= [.i 4,.s A' n c',.string (⟨#[]⟩),.sl t 0 6 6]) Z hU Z Z Z) (ws (eN d 3 [.i 4,.s A' n c',.string (⟨#[]⟩),.sl t 0 6 6] Z jE (fun R y=> ?_)))))))⟩
  refine wn (aY ?_)
  exact⟨.inr Z,_,iK Z hU (by exact Z) (y.g 3 Z) Z,⟨[.i 4,.s A' n c',.string (⟨#[]⟩),.sl t 0 6 6],Res.all [an t (nums .u64 [0,0,0,0,0,0]) 43,ay 5 1 (.s A' n c') n (nums .u8 xs)],Z,fun w h=>LoadC.of (nm:= []) (ns:= [0,0,0,0,0,0]) (aS.1 h (ay 5 1 (.s A' n c') n (nums .u8 xs)) (by simp)) (aj (aS.1 h (an t (nums .u64 [0,0,0,0,0,0]) 43) (by simp)) Z),St.pool (L2:= []) (y.sub (.cons_cons _ (.cons _ (.cons_cons _ (.cons _ (List.Sublist.slnil))))))⟩⟩
 ·
  refine vA Z (es a 0 0 (.i 4) Z kD (fun S p=> ?_))
  refine⟨⟨p.kb hb Z,p.kb hb Z,p.kb hb Z,p.kb hb Z,p.kb hb Z,p.kb hb Z⟩,fun _=>trivial,qr Z (eb p 43 [.q 0,.q 0,.q 0,.q 0,.q 0,.q 0] Z (by kernel_rfl) (fun u T H r=>⟨⟨r.kb hb Z,r.kb hb Z,r.kb hb Z,r.kb hb Z,r.kb hb Z,r.kb hb Z⟩,fun _=>trivial,qy Z (ab (o:=0) iD Z) (dJ Z (es r 1 3 (.sl u 0 6 6) Z eD (fun U j=> ?_)))⟩))⟩
  refine⟨⟨j.kb hb Z,j.kb hb Z,j.kb hb Z,j.kb hb Z,j.kb hb Z,j.kb hb Z⟩,fun _=>trivial,ca (ak (ac (sr (wv Z (j.loadA (i:=1) (vs:= [.i 4,.s A' n c',.string (⟨#[]⟩),.sl u 0 6 6]) Z hU Z Z Z) (ws (eN j 3 [.i 4,.s A' n c',.string (⟨#[]⟩),.sl u 0 6 6] Z jE (fun V z=> ?_)))))))⟩
  refine wn (aY ?_)
  exact⟨.inr Z,_,iK Z hU (by exact Z) (z.g 3 Z) Z,⟨[.i 4,.s A' n c',.string (⟨#[]⟩),.sl u 0 6 6],Res.all [an u (nums .u64 [0,0,0,0,0,0]) 43,ay 5 1 (.s A' n c') n (nums .u8 xs)],Z,fun w h=>LoadC.of (nm:= []) (ns:= [0,0,0,0,0,0]) (aS.1 h (ay 5 1 (.s A' n c') n (nums .u8 xs)) (by simp)) (aj (aS.1 h (an u (nums .u64 [0,0,0,0,0,0]) 43) (by simp)) Z),St.pool (L2:= []) (z.sub (.cons_cons _ (.cons _ (.cons_cons _ (.cons _ (List.Sublist.slnil))))))⟩⟩
theorem sR{A:Option Addr}{n c gl:Nat}{xs:List Int}{iy:Value}{q:Nat → Int}(hq: ∀i,0≤q i∧q i≤18446744073709551615)(w:World)(hb:(an gl [.s A n c,.w (q 0),.w (q 1),.w (q 2),.w (q 3),.w (q 4),.w (q 5),.w (q 6),.w (q 7),.w (q 8),.w (q 9),.w (q 10),.w (q 11),.w (q 12),.w (q 13),.w (q 14),.w (q 15),.w (q 16),.w (q 17),.w (q 18),.w (q 19),iy] 148).φ w)(hr:RI .u8 w A n xs)(hn:n≤140737488355328):
 Calls Tryd.prog 43 #[.f 119 (.pt gl)] w fun e w'=> ∃(c:List Value) (D:Res),e= .returned (.agg c.toArray)∧(∀w,D.φ w → LoadC w c ⟨5,xs,[],[q 0,q 1,q 2,q 3,q 4,q 5,q 6,q 7,q 8,q 9,q 10,q 11,q 12,q 13,q 14,q 15,q 16,q 17,q 18,q 19]⟩)∧St w aR [D] w':=by
 refine aA (args:= [.f 119 (.pt gl)]) Tryd.func43 Z Z Z ?_
 have H0:=St.nil w aR
 refine sr (wm Z (aN H0 fk (fun g1 w2 I H3=>wn (sr (mv (.f 119 (.pt gl)) Z (wm Z (oc (args:= []) Z (wu _ _) hX (H3.keep.cell (cZ hb (k:=0) Z) (aW _)) wy Z (aa (pN _) ?_))))))))
 rintro e w5 ⟨rfl,B⟩
 have H6:=H3.cal0 B
 refine⟨_,Z,wE [.s A n c] mf Z Z (aa (fB _ (hr.keep0 H6.keep) hr.none0 hn) ?_)⟩
 rintro e w8 ⟨v,rfl,x⟩
 obtain⟨A',c',rfl,J,K⟩:=aw (x.g 0 rfl)
 have H9:=H6.cal0 x
 refine⟨_,Z,wv Z (yb (ps:= [(1,.s A' n c')]) (cells:=#[.i 0,.s A' n c',.string (⟨#[]⟩),.ns]) Z (by kernel_rfl)) (wm Z (aN H9 fk (fun L M C E=>ws (eN E 0 [.i 0,.s A' n c',.string (⟨#[]⟩),.ns] Z jE (fun N F=> ?_)))))⟩
 refine wn (ad (sr (mv (.f 119 (.pt gl)) Z (wn (a6 (sr (wv Z (de pO Z Z) (we (.b false) Z Z (we (.np) Z Z (wn (al Z ?_)))))))))))
 refine sr (wv Z (de sB Z Z) (we (.b false) Z Z (we (.np) Z Z (wn (al Z (sr (wv Z (de va Z Z) (we (.b false) Z Z (we (.np) Z Z (wn (al Z ?_)))))))))))
 refine sr (wv Z (de yx Z Z) (we (.b false) Z Z (we (.np) Z Z (wn (al Z (sr (wv Z (fS zT Z) (we (.b true) Z Z (we (.pt gl) Z Z (wn (aB Z ?_)))))))))))
 refine sr (ap gl 0 Z (wn ?_))
 have a:=F.drew
 refine aU MX (fun w'=>w'.cell? ⟨gl,1,none⟩=some (.w (q 0))∧w'.cell? ⟨gl,2,none⟩=some (.w (q 1))∧w'.cell? ⟨gl,3,none⟩=some (.w (q 2))∧w'.cell? ⟨gl,4,none⟩=some (.w (q 3))∧w'.cell? ⟨gl,5,none⟩=some (.w (q 4))∧w'.cell? ⟨gl,6,none⟩=some (.w (q 5))∧w'.cell? ⟨gl,7,none⟩=some (.w (q 6))∧w'.cell? ⟨gl,8,none⟩=some (.w (q 7))∧w'.cell? ⟨gl,9,none⟩=some (.w (q 8))∧w'.cell? ⟨gl,10,none⟩=some (.w (q 9))∧w'.cell? ⟨gl,11,none⟩=some (.w (q 10))∧w'.cell? ⟨gl,12,none⟩=some (.w (q 11))∧w'.cell? ⟨gl,13,none⟩=some (.w (q 12))∧w'.cell? ⟨gl,14,none⟩=some (.w (q 13))∧w'.cell? ⟨gl,15,none⟩=some (.w (q 14))∧w'.cell? ⟨gl,16,none⟩=some (.w (q 15))∧w'.cell? ⟨gl,17,none⟩=some (.w (q 16))∧w'.cell? ⟨gl,18,none⟩=some (.w (q 17))∧w'.cell? ⟨gl,19,none⟩=some (.w (q 18))∧w'.cell? ⟨gl,20,none⟩=some (.w (q 19))) (tr 0 120 (Pl.take 121 (Pl.run2 120 (Pl.run 122 (Pl.take 123 (Pl.run 124 Pl.done))) 122 (Pl.run 120 (Pl.take 123 (Pl.run 124 Pl.done)))))) (by kernel_rfl) (⟨a.kb hb Z,a.kb hb Z,a.kb hb Z,a.kb hb Z,a.kb hb Z,a.kb hb Z,a.kb hb Z,a.kb hb Z,a.kb hb Z,a.kb hb Z,a.kb hb Z,a.kb hb Z,a.kb hb Z,a.kb hb Z,a.kb hb Z,a.kb hb Z,a.kb hb Z,a.kb hb Z,a.kb hb Z,a.kb hb Z⟩) (qm (.pt gl) Z Z (qy Z (ah Z) (qy Z (ab (o:=0) dz Z) (qy Z (ab (o:=1) uM Z) (qh Z (fun hS=>ag iG Z hS.1) (qy Z (ao (c:=q 0) xP be Z (aC (hq 0).1 (hq 0).2)) (qm (.pt gl) Z Z (qy Z (ah Z) (qy Z (ab (o:=0) dz Z) (qy Z (ab (o:=1) uL Z) (qh Z (fun hS=>ag ax Z hS.2.1) ?_)))))))))))
 refine qy Z (ao (c:=q 1) bv be Z (aC (hq 1).1 (hq 1).2)) (qm (.pt gl) Z Z (qy Z (ah Z) (qy Z (ab (o:=0) dz Z) (qy Z (ab (o:=1) uK Z) (qh Z (fun hS=>ag ax Z hS.2.2.1) (qy Z (ao (c:=q 2) bv be Z (aC (hq 2).1 (hq 2).2)) (qm (.pt gl) Z Z (qy Z (ah Z) (qy Z (ab (o:=0) dz Z) (qy Z (ab (o:=1) uJ Z) (qh Z (fun hS=>ag ax Z hS.2.2.2.1) ?_)))))))))))
 refine qy Z (ao (c:=q 3) bv be Z (aC (hq 3).1 (hq 3).2)) (qm (.pt gl) Z Z (qy Z (ah Z) (qy Z (ab (o:=0) dz Z) (qy Z (ab (o:=1) uI Z) (qh Z (fun hS=>ag ax Z hS.2.2.2.2.1) (qy Z (ao (c:=q 4) bv be Z (aC (hq 4).1 (hq 4).2)) (qm (.pt gl) Z Z (qy Z (ah Z) (qy Z (ab (o:=0) dz Z) (qy Z (ab (o:=1) uH Z) (qh Z (fun hS=>ag ax Z hS.2.2.2.2.2.1) ?_)))))))))))
 refine qy Z (ao (c:=q 5) bv be Z (aC (hq 5).1 (hq 5).2)) (qm (.pt gl) Z Z (qy Z (ah Z) (qy Z (ab (o:=0) dz Z) (qy Z (ab (o:=1) mR Z) (qh Z (fun hS=>ag ax Z hS.2.2.2.2.2.2.1) (qy Z (ao (c:=q 6) bv be Z (aC (hq 6).1 (hq 6).2)) (qm (.pt gl) Z Z (qy Z (ah Z) (qy Z (ab (o:=0) dz Z) (qy Z (ab (o:=1) qI Z) (qh Z (fun hS=>ag ax Z hS.2.2.2.2.2.2.2.1) ?_)))))))))))
 refine qy Z (ao (c:=q 7) bv be Z (aC (hq 7).1 (hq 7).2)) (qm (.pt gl) Z Z (qy Z (ah Z) (qy Z (ab (o:=0) dz Z) (qy Z (ab (o:=1) uG Z) (qh Z (fun hS=>ag ax Z hS.2.2.2.2.2.2.2.2.1) (qy Z (ao (c:=q 8) bv be Z (aC (hq 8).1 (hq 8).2)) (qm (.pt gl) Z Z (qy Z (ah Z) (qy Z (ab (o:=0) dz Z) (qy Z (ab (o:=1) uF Z) (qh Z (fun hS=>ag ax Z hS.2.2.2.2.2.2.2.2.2.1) ?_)))))))))))
 refine qy Z (ao (c:=q 9) bv be Z (aC (hq 9).1 (hq 9).2)) (qm (.pt gl) Z Z (qy Z (ah Z) (qy Z (ab (o:=0) dz Z) (qy Z (ab (o:=1) rZ Z) (qh Z (fun hS=>ag ax Z hS.2.2.2.2.2.2.2.2.2.2.1) (qy Z (ao (c:=q 10) bv be Z (aC (hq 10).1 (hq 10).2)) (qm (.pt gl) Z Z (qy Z (ah Z) (qy Z (ab (o:=0) dz Z) (qy Z (ab (o:=1) rY Z) (qh Z (fun hS=>ag ax Z hS.2.2.2.2.2.2.2.2.2.2.2.1) ?_)))))))))))
 refine qy Z (ao (c:=q 11) bv be Z (aC (hq 11).1 (hq 11).2)) (qm (.pt gl) Z Z (qy Z (ah Z) (qy Z (ab (o:=0) dz Z) (qy Z (ab (o:=1) rX Z) (qh Z (fun hS=>ag ax Z hS.2.2.2.2.2.2.2.2.2.2.2.2.1) (qy Z (ao (c:=q 12) bv be Z (aC (hq 12).1 (hq 12).2)) (qm (.pt gl) Z Z (qy Z (ah Z) (qy Z (ab (o:=0) dz Z) (qy Z (ab (o:=1) rW Z) (qh Z (fun hS=>ag ax Z hS.2.2.2.2.2.2.2.2.2.2.2.2.2.1) ?_)))))))))))
 refine qy Z (ao (c:=q 13) bv be Z (aC (hq 13).1 (hq 13).2)) (qm (.pt gl) Z Z (qy Z (ah Z) (qy Z (ab (o:=0) dz Z) (qy Z (ab (o:=1) lB Z) (qh Z (fun hS=>ag ax Z hS.2.2.2.2.2.2.2.2.2.2.2.2.2.2.1) (qy Z (ao (c:=q 14) bv be Z (aC (hq 14).1 (hq 14).2)) (qm (.pt gl) Z Z (qy Z (ah Z) (qy Z (ab (o:=0) dz Z) (qy Z (ab (o:=1) jY Z) (qh Z (fun hS=>ag ax Z hS.2.2.2.2.2.2.2.2.2.2.2.2.2.2.2.1) ?_)))))))))))
 refine qy Z (ao (c:=q 15) bv be Z (aC (hq 15).1 (hq 15).2)) (qm (.pt gl) Z Z (qy Z (ah Z) (qy Z (ab (o:=0) dz Z) (qy Z (ab (o:=1) rV Z) (qh Z (fun hS=>ag ax Z hS.2.2.2.2.2.2.2.2.2.2.2.2.2.2.2.2.1) (qy Z (ao (c:=q 16) bv be Z (aC (hq 16).1 (hq 16).2)) (qm (.pt gl) Z Z (qy Z (ah Z) (qy Z (ab (o:=0) dz Z) (qy Z (ab (o:=1) rU Z) (qh Z (fun hS=>ag ax Z hS.2.2.2.2.2.2.2.2.2.2.2.2.2.2.2.2.2.1) ?_)))))))))))
 refine qy Z (ao (c:=q 17) bv be Z (aC (hq 17).1 (hq 17).2)) (qm (.pt gl) Z Z (qy Z (ah Z) (qy Z (ab (o:=0) dz Z) (qy Z (ab (o:=1) rT Z) (qh Z (fun hS=>ag ax Z hS.2.2.2.2.2.2.2.2.2.2.2.2.2.2.2.2.2.2.1) (qy Z (ao (c:=q 18) bv be Z (aC (hq 18).1 (hq 18).2)) (qm (.pt gl) Z Z (qy Z (ah Z) (qy Z (ab (o:=0) dz Z) (qy Z (ab (o:=1) rS Z) (qh Z (fun hS=>ag ax Z hS.2.2.2.2.2.2.2.2.2.2.2.2.2.2.2.2.2.2.2) ?_)))))))))))
 refine qy Z (ao (c:=q 19) bv be Z (aC (hq 19).1 (hq 19).2)) (qy Z (ab (o:=0) kW Z) ?_)
 refine⟨?_,?_⟩
 ·
  refine po Z (eb a 43 [.q (q 0),.q (q 1),.q (q 2),.q (q 3),.q (q 4),.q (q 5),.q (q 6),.q (q 7),.q (q 8),.q (q 9),.q (q 10),.q (q 11),.q (q 12),.q (q 13),.q (q 14),.q (q 15),.q (q 16),.q (q 17),.q (q 18),.q (q 19)] Z (by kernel_rfl) (fun t O G l=>⟨⟨l.kb hb Z,l.kb hb Z,l.kb hb Z,l.kb hb Z,l.kb hb Z,l.kb hb Z,l.kb hb Z,l.kb hb Z,l.kb hb Z,l.kb hb Z,l.kb hb Z,l.kb hb Z,l.kb hb Z,l.kb hb Z,l.kb hb Z,l.kb hb Z,l.kb hb Z,l.kb hb Z,l.kb hb Z,l.kb hb Z⟩,fun _=>trivial,dJ Z (es l 1 0 (.i 5) Z kD (fun P m=> ?_))⟩))
  refine⟨⟨m.kb hb Z,m.kb hb Z,m.kb hb Z,m.kb hb Z,m.kb hb Z,m.kb hb Z,m.kb hb Z,m.kb hb Z,m.kb hb Z,m.kb hb Z,m.kb hb Z,m.kb hb Z,m.kb hb Z,m.kb hb Z,m.kb hb Z,m.kb hb Z,m.kb hb Z,m.kb hb Z,m.kb hb Z,m.kb hb Z⟩,fun _=>trivial,qy Z (ab (o:=0) iD Z) (dJ Z (es m 1 3 (.sl t 0 20 20) Z eD (fun Q d=> ?_)))⟩
  refine⟨⟨d.kb hb Z,d.kb hb Z,d.kb hb Z,d.kb hb Z,d.kb hb Z,d.kb hb Z,d.kb hb Z,d.kb hb Z,d.kb hb Z,d.kb hb Z,d.kb hb Z,d.kb hb Z,d.kb hb Z,d.kb hb Z,d.kb hb Z,d.kb hb Z,d.kb hb Z,d.kb hb Z,d.kb hb Z,d.kb hb Z⟩,fun _=>trivial,ca (ak (ac (sr (wv Z (d.loadA (i:=1) (vs:= [.i 5,.s A' n c',.string (⟨#[]⟩),.sl t 0 20 20]) Z hU Z Z Z) (ws (eN d 3 [.i 5,.s A' n c',.string (⟨#[]⟩),.sl t 0 20 20] Z jE (fun R y=> ?_)))))))⟩
  refine wn (aY ?_)
  exact⟨.inr Z,_,iK Z hU (by exact Z) (y.g 3 Z) Z,⟨[.i 5,.s A' n c',.string (⟨#[]⟩),.sl t 0 20 20],Res.all [an t (nums .u64 [q 0,q 1,q 2,q 3,q 4,q 5,q 6,q 7,q 8,q 9,q 10,q 11,q 12,q 13,q 14,q 15,q 16,q 17,q 18,q 19]) 43,ay 5 1 (.s A' n c') n (nums .u8 xs)],Z,fun w h=>LoadC.of (nm:= []) (ns:= [q 0,q 1,q 2,q 3,q 4,q 5,q 6,q 7,q 8,q 9,q 10,q 11,q 12,q 13,q 14,q 15,q 16,q 17,q 18,q 19]) (aS.1 h (ay 5 1 (.s A' n c') n (nums .u8 xs)) (by simp)) (aj (aS.1 h (an t (nums .u64 [q 0,q 1,q 2,q 3,q 4,q 5,q 6,q 7,q 8,q 9,q 10,q 11,q 12,q 13,q 14,q 15,q 16,q 17,q 18,q 19]) 43) (by simp)) Z),St.pool (L2:= []) (y.sub (.cons_cons _ (.cons _ (.cons_cons _ (.cons _ (List.Sublist.slnil))))))⟩⟩
 ·
  refine vA Z (es a 0 0 (.i 5) Z kD (fun S p=> ?_))
  refine⟨⟨p.kb hb Z,p.kb hb Z,p.kb hb Z,p.kb hb Z,p.kb hb Z,p.kb hb Z,p.kb hb Z,p.kb hb Z,p.kb hb Z,p.kb hb Z,p.kb hb Z,p.kb hb Z,p.kb hb Z,p.kb hb Z,p.kb hb Z,p.kb hb Z,p.kb hb Z,p.kb hb Z,p.kb hb Z,p.kb hb Z⟩,fun _=>trivial,qr Z (eb p 43 [.q (q 0),.q (q 1),.q (q 2),.q (q 3),.q (q 4),.q (q 5),.q (q 6),.q (q 7),.q (q 8),.q (q 9),.q (q 10),.q (q 11),.q (q 12),.q (q 13),.q (q 14),.q (q 15),.q (q 16),.q (q 17),.q (q 18),.q (q 19)] Z (by kernel_rfl) (fun u T H r=>⟨⟨r.kb hb Z,r.kb hb Z,r.kb hb Z,r.kb hb Z,r.kb hb Z,r.kb hb Z,r.kb hb Z,r.kb hb Z,r.kb hb Z,r.kb hb Z,r.kb hb Z,r.kb hb Z,r.kb hb Z,r.kb hb Z,r.kb hb Z,r.kb hb Z,r.kb hb Z,r.kb hb Z,r.kb hb Z,r.kb hb Z⟩,fun _=>trivial,qy Z (ab (o:=0) iD Z) (dJ Z (es r 1 3 (.sl u 0 20 20) Z eD (fun U j=> ?_)))⟩))⟩
  refine⟨⟨j.kb hb Z,j.kb hb Z,j.kb hb Z,j.kb hb Z,j.kb hb Z,j.kb hb Z,j.kb hb Z,j.kb hb Z,j.kb hb Z,j.kb hb Z,j.kb hb Z,j.kb hb Z,j.kb hb Z,j.kb hb Z,j.kb hb Z,j.kb hb Z,j.kb hb Z,j.kb hb Z,j.kb hb Z,j.kb hb Z⟩,fun _=>trivial,ca (ak (ac (sr (wv Z (j.loadA (i:=1) (vs:= [.i 5,.s A' n c',.string (⟨#[]⟩),.sl u 0 20 20]) Z hU Z Z Z) (ws (eN j 3 [.i 5,.s A' n c',.string (⟨#[]⟩),.sl u 0 20 20] Z jE (fun V z=> ?_)))))))⟩
  refine wn (aY ?_)
  exact⟨.inr Z,_,iK Z hU (by exact Z) (z.g 3 Z) Z,⟨[.i 5,.s A' n c',.string (⟨#[]⟩),.sl u 0 20 20],Res.all [an u (nums .u64 [q 0,q 1,q 2,q 3,q 4,q 5,q 6,q 7,q 8,q 9,q 10,q 11,q 12,q 13,q 14,q 15,q 16,q 17,q 18,q 19]) 43,ay 5 1 (.s A' n c') n (nums .u8 xs)],Z,fun w h=>LoadC.of (nm:= []) (ns:= [q 0,q 1,q 2,q 3,q 4,q 5,q 6,q 7,q 8,q 9,q 10,q 11,q 12,q 13,q 14,q 15,q 16,q 17,q 18,q 19]) (aS.1 h (ay 5 1 (.s A' n c') n (nums .u8 xs)) (by simp)) (aj (aS.1 h (an u (nums .u64 [q 0,q 1,q 2,q 3,q 4,q 5,q 6,q 7,q 8,q 9,q 10,q 11,q 12,q 13,q 14,q 15,q 16,q 17,q 18,q 19]) 43) (by simp)) Z),St.pool (L2:= []) (z.sub (.cons_cons _ (.cons _ (.cons_cons _ (.cons _ (List.Sublist.slnil))))))⟩⟩
def MLoad(w:World)(v:Value)(l:LoadD):Prop:=
 (∃(A:Option Addr) (n:Nat) (c:Nat) (xs:List Int),v= .f 138 (.s A n c)∧RI .u8 w A n xs∧n≤140737488355328∧l=⟨0,xs,[],[]⟩)∨
 (∃(A:Option Addr) (n:Nat) (c:Nat) (xs:List Int) (gl:Nat) (nm:List Int) (ra:Value) (sp:Value) (q:Nat → Int),v= .f 160 (.pt gl)∧(∀i,0≤q i∧q i≤18446744073709551615)∧(an gl [.s A n c,.w (q 0),.w (q 1),.str nm,.q (q 2),.q (q 3),.q (q 4),.q (q 5),.w (q 6),.w (q 7),.w (q 8),.w (q 9),ra,sp] 181).φ w∧RI .u8 w A n xs∧n≤140737488355328∧l=⟨1,xs,nm,[q 0,q 1,q 2,q 3,q 4,q 5,q 6,q 7,q 8,q 9]⟩)∨
 (∃(A:Option Addr) (n:Nat) (c:Nat) (xs:List Int) (gl:Nat) (nm:List Int) (q:Nat → Int),v= .f 168 (.pt gl)∧(∀i,0≤q i∧q i≤18446744073709551615)∧(an gl [.s A n c,.str nm,.w (q 0),.w (q 1),.w (q 2)] 170).φ w∧RI .u8 w A n xs∧n≤140737488355328∧l=⟨2,xs,nm,[q 0,q 1,q 2]⟩)∨
 (∃(A:Option Addr) (n:Nat) (c:Nat) (xs:List Int) (gl:Nat) (nm:List Int),v= .f 163 (.pt gl)∧(an gl [.s A n c,.str nm] 165).φ w∧RI .u8 w A n xs∧n≤140737488355328∧l=⟨3,xs,nm,[]⟩)∨
 (∃(A:Option Addr) (n:Nat) (c:Nat) (xs:List Int) (gl:Nat) (sy:Value),v= .f 118 (.pt gl)∧(an gl [.s A n c,.w 0,.w 0,.w 0,.w 0,.w 0,.w 0,sy] 144).φ w∧RI .u8 w A n xs∧n≤140737488355328∧l=⟨4,xs,[],[0,0,0,0,0,0]⟩)∨
 (∃(A:Option Addr) (n:Nat) (c:Nat) (xs:List Int) (gl:Nat) (iy:Value) (q:Nat → Int),v= .f 119 (.pt gl)∧(∀i,0≤q i∧q i≤18446744073709551615)∧(an gl [.s A n c,.w (q 0),.w (q 1),.w (q 2),.w (q 3),.w (q 4),.w (q 5),.w (q 6),.w (q 7),.w (q 8),.w (q 9),.w (q 10),.w (q 11),.w (q 12),.w (q 13),.w (q 14),.w (q 15),.w (q 16),.w (q 17),.w (q 18),.w (q 19),iy] 148).φ w∧RI .u8 w A n xs∧n≤140737488355328∧l=⟨5,xs,[],[q 0,q 1,q 2,q 3,q 4,q 5,q 6,q 7,q 8,q 9,q 10,q 11,q 12,q 13,q 14,q 15,q 16,q 17,q 18,q 19]⟩)
theorem MLoad.keep{w w':World}{v:Value}{l:LoadD}(h:MLoad w v l)(hk:Keep w aR w'):MLoad w' v l:=by
 rcases h with⟨A,n,c,xs,rfl,hr,hn,rfl⟩|⟨A,n,c,xs,gl,nm,ra,sp,q,rfl,hq,hb,hr,hn,rfl⟩|⟨A,n,c,xs,gl,nm,q,rfl,hq,hb,hr,hn,rfl⟩|⟨A,n,c,xs,gl,nm,rfl,hb,hr,hn,rfl⟩|⟨A,n,c,xs,gl,sy,rfl,hb,hr,hn,rfl⟩|⟨A,n,c,xs,gl,iy,q,rfl,hq,hb,hr,hn,rfl⟩
 · exact .inl ⟨A,n,c,xs,Z,hr.keep0 hk,hn,Z⟩
 · exact .inr (.inl ⟨A,n,c,xs,gl,nm,ra,sp,q,Z,hq,(an _ _ _).stay _ _ hb (fun g hg=>hk.block g ((an _ _ _).live _ _ hb hg) (aW _)),hr.keep0 hk,hn,Z⟩)
 · exact .inr (.inr (.inl ⟨A,n,c,xs,gl,nm,q,Z,hq,(an _ _ _).stay _ _ hb (fun g hg=>hk.block g ((an _ _ _).live _ _ hb hg) (aW _)),hr.keep0 hk,hn,Z⟩))
 · exact .inr (.inr (.inr (.inl ⟨A,n,c,xs,gl,nm,Z,(an _ _ _).stay _ _ hb (fun g hg=>hk.block g ((an _ _ _).live _ _ hb hg) (aW _)),hr.keep0 hk,hn,Z⟩)))
 · exact .inr (.inr (.inr (.inr (.inl ⟨A,n,c,xs,gl,sy,Z,(an _ _ _).stay _ _ hb (fun g hg=>hk.block g ((an _ _ _).live _ _ hb hg) (aW _)),hr.keep0 hk,hn,Z⟩))))
 · exact .inr (.inr (.inr (.inr (.inr (⟨A,n,c,xs,gl,iy,q,Z,hq,(an _ _ _).stay _ _ hb (fun g hg=>hk.block g ((an _ _ _).live _ _ hb hg) (aW _)),hr.keep0 hk,hn,Z⟩)))))
structure LoadV where
 l:LoadD
 vr:Value
 vn:Value
def LoadV.cells(x:LoadV):List Value:= [.i x.l.kind,x.vr,.str x.l.name,x.vn]
def SlI(k:IntKind)(w:World)(v:Value)(xs:List Int):Prop:= ∃A n c,v= .s A n c∧RI k w A n xs∧n≤c
theorem SlI.keep{k:IntKind}{w w':World}{v:Value}{xs:List Int}(h:SlI k w v xs)(hk:Keep w aR w'):SlI k w' v xs:=by
 obtain⟨A,n,c,e,h1,h2⟩:=h
 exact⟨A,n,c,e,h1.keep0 hk,h2⟩
def LoadV.ok(w:World)(x:LoadV):Prop:=(∃A n c,x.vr= .s A n c∧RI .u8 w A n x.l.raw)∧∃A n c,x.vn= .s A n c∧RI .u64 w A n x.l.nums
theorem LoadV.of{c:List Value}{l:LoadD}{D:Res}{w:World}(hD:D.φ w)(h: ∀w,D.φ w → LoadC w c l): ∃x:LoadV,x.l=l∧c=x.cells∧∀w,D.φ w → x.ok w:=by
 obtain⟨A,n,cc,B,m,bc,e,_⟩:=h w hD
 refine⟨⟨l,.s A n cc,.s B m bc⟩,Z,e,fun w' h'=> ?_⟩
 obtain⟨A',n',cc',B',m',bc',e',h1,h2,_⟩:=h w' h'
 rw[e]at e'
 simp only[List.cons.injEq,Value.slice.injEq,and_true,true_and]at e'
 obtain⟨⟨rfl,rfl,rfl⟩,rfl,rfl,rfl⟩:=e'
 exact⟨⟨_,_,_,Z,h1⟩,_,_,_,Z,h2⟩
theorem wZ{v:Value}{l:LoadD}(w:World)(h:MLoad w v l):
 Calls Tryd.prog 43 #[v] w fun e w'=> ∃(x:LoadV) (D:Res),x.l=l∧e= .returned (.agg x.cells.toArray)∧(∀w,D.φ w → x.ok w)∧St w aR [D] w':=by
 have key:Calls Tryd.prog 43 #[v] w fun e w'=> ∃(c:List Value) (D:Res),e= .returned (.agg c.toArray)∧(∀w,D.φ w → LoadC w c l)∧St w aR [D] w':=by
  rcases h with⟨A,n,c,xs,rfl,hr,hn,rfl⟩|⟨A,n,c,xs,gl,nm,ra,sp,q,rfl,hq,hb,hr,hn,rfl⟩|⟨A,n,c,xs,gl,nm,q,rfl,hq,hb,hr,hn,rfl⟩|⟨A,n,c,xs,gl,nm,rfl,hb,hr,hn,rfl⟩|⟨A,n,c,xs,gl,sy,rfl,hb,hr,hn,rfl⟩|⟨A,n,c,xs,gl,iy,q,rfl,hq,hb,hr,hn,rfl⟩
  · exact qc w hr hn
  · exact sP hq w hb hr hn
  · exact sQ hq w hb hr hn
  · exact r9 w hb hr hn
  · exact sO w hb hr hn
  · exact sR hq w hb hr hn
 refine key.mono ?_
 rintro e w' ⟨c,D,rfl,hc,H⟩
 obtain⟨x,hx,rfl,hok⟩:=LoadV.of (H.g 0 rfl) hc
 exact⟨x,D,hx,Z,hok,H⟩
structure SecD where
 name:List Int
 seg:List Int
 addr:Int
 size:Nat
 off:Nat
 align:Int
 reloff:Int
 nreloc:Int
 flags:Int
 rels:List Rel
def SecD.fits(s:SecD):Prop:=(0≤s.addr∧s.addr≤18446744073709551615)∧s.size<18446744073709551616∧s.off<4294967296∧(0≤s.align∧s.align≤4294967295)∧(0≤s.reloff∧s.reloff≤4294967295)∧(0≤s.nreloc∧s.nreloc≤4294967295)∧0≤s.flags∧s.flags≤4294967295
def MSec(w:World)(rb g:Nat)(s:SecD):Prop:=
 s.fits∧∃(A:Option Addr) (n c sb:Nat) (so sn lim:Int),(an g [.str s.name,.str s.seg,.q s.addr,.q ↑s.size,.w ↑s.off,.w s.align,.w s.reloff,.w s.nreloc,.w s.flags,.s A n c,.f 133 (.pt sb),.pt sb] 135).φ w∧
  RV w A n 7 (s.rels.flatMap Rel.cells)∧n≤4294967295∧(an sb [.f 109 (.pt rb),.i ↑s.off,.i so,.i lim,.i sn] 195).φ w∧(lim= ↑s.off+ ↑s.size∨(lim=9223372036854775807∧10485760≤s.size))∧lim≤9223372036854775807
theorem bV{w w':World}{g:Nat}{cs:List Value}{T:TypeId}(h:(an g cs T).φ w)(hk:Keep w aR w'):(an g cs T).φ w':=(an g cs T).stay _ _ h fun k hg=>hk.block k ((an g cs T).live _ _ h hg) (aW _)
theorem MSec.keep{w w':World}{rb g:Nat}{s:SecD}(h:MSec w rb g s)(hk:Keep w aR w'):MSec w' rb g s:=by
 obtain⟨h0,A,n,c,sb,so,sn,lim,h1,h2,h3,h4,h5,h6⟩:=h
 exact⟨h0,A,n,c,sb,so,sn,lim,bV h1 hk,h2.keep0 hk,h3,bV h4 hk,h5,h6⟩
theorem jD:dA Tryd.prog 54 [.ns,.b false,.ns,.ns,.ns,.ns]:=bO (by kernel_rfl)
theorem dE:FA 121 0 0:=fa (by kernel_rfl)
theorem TI111:(Tryd.prog.underlying 111).isSome=true:=by kernel_rfl
theorem TI112:(Tryd.prog.underlying 112).isSome=true:=by kernel_rfl
theorem iz:FA 121 1 7:=fa (by kernel_rfl)
theorem jL:dI Tryd.prog 115:=bN (by kernel_rfl)
theorem o1:(Tryd.prog.info? 54).map (·.size)=some 6:=by kernel_rfl
theorem dR:FA 121 2 8:=fa (by kernel_rfl)
theorem eX:dI Tryd.prog 116:=bN (by kernel_rfl)
theorem TL116:Tryd.prog.underlying 116=some (.slice (Tryd.prog.elem 116)):=by kernel_rfl
theorem TS116:cJ Tryd.prog 116 123 1:=bX (by kernel_rfl)
theorem BM:dI Tryd.prog 123:=bN (by kernel_rfl)
theorem qu:FA 54 2 2:=fa (by kernel_rfl)
theorem uU:dI Tryd.prog 50:=bN (by kernel_rfl)
theorem CK43:bg Tryd.prog 43:=aL (by kernel_rfl)
theorem TU50:Tryd.prog.underlying 50=some (.slice 96):=by kernel_rfl
theorem TB96:(Tryd.prog.info? 96).map (fun i=>(i.zero,i.size,i.bytes))=some (some (.agg #[.i 0,.ns,.string (⟨#[]⟩),.ns]),4,72):=by kernel_rfl
theorem jJ:FA 121 3 9:=fa (by kernel_rfl)
theorem la:dI Tryd.prog 117:=bN (by kernel_rfl)
theorem TL117:Tryd.prog.underlying 117=some (.slice (Tryd.prog.elem 117)):=by kernel_rfl
theorem TS117:cJ Tryd.prog 117 125 1:=bX (by kernel_rfl)
theorem BL:dI Tryd.prog 125:=bN (by kernel_rfl)
theorem CK44:bg Tryd.prog 44:=aL (by kernel_rfl)
theorem jn:FA 54 3 3:=fa (by kernel_rfl)
theorem kL:dI Tryd.prog 51:=bN (by kernel_rfl)
theorem mW:FA 129 0 0:=fa (by kernel_rfl)
theorem mV:FA 129 1 1:=fa (by kernel_rfl)
theorem mU:FA 129 2 2:=fa (by kernel_rfl)
theorem jH:FA 129 4 4:=fa (by kernel_rfl)
theorem mT:FA 129 5 5:=fa (by kernel_rfl)
theorem kC:FA 129 6 6:=fa (by kernel_rfl)
theorem gK:FA 129 7 7:=fa (by kernel_rfl)
theorem mS:FA 129 8 8:=fa (by kernel_rfl)
theorem lD:FA 135 1 9:=fa (by kernel_rfl)
theorem oI:dI Tryd.prog 130:=bN (by kernel_rfl)
theorem zD:bg Tryd.prog 45:=aL (by kernel_rfl)
theorem vR:Tryd.prog.underlying 51=some (.slice 99):=by kernel_rfl
theorem vT:(Tryd.prog.info? 99).map (fun i=>(i.zero,i.size,i.bytes))=some (some (.agg #[.string (⟨#[]⟩),.string (⟨#[]⟩),.ns,.ns,.ns,.b false]),6,112):=by kernel_rfl
theorem iw:FA 121 4 10:=fa (by kernel_rfl)
theorem jK:dI Tryd.prog 118:=bN (by kernel_rfl)
theorem tK:Tryd.prog.underlying 118=some (.pointer (Tryd.prog.pointee 118)):=by kernel_rfl
theorem jI:FA 121 5 11:=fa (by kernel_rfl)
theorem kZ:dI Tryd.prog 119:=bN (by kernel_rfl)
theorem tJ:Tryd.prog.underlying 119=some (.pointer (Tryd.prog.pointee 119)):=by kernel_rfl
theorem o7:iJ Tryd.prog 54 6:=eG (by kernel_rfl)
theorem qH:FA 148 2 21:=fa (by kernel_rfl)
theorem eE:dI Tryd.prog 25:=bN (by kernel_rfl)
theorem tc:Tryd.prog.underlying 25=some (.slice 24):=by kernel_rfl
theorem vU:(Tryd.prog.info? 24).map (fun i=>(i.zero,i.size,i.bytes))=some (some (.w 0),1,4):=by kernel_rfl
theorem o9:FA 54 5 5:=fa (by kernel_rfl)
theorem lC:FA 144 2 7:=fa (by kernel_rfl)
theorem oH:dI Tryd.prog 142:=bN (by kernel_rfl)
theorem CK46:bg Tryd.prog 46:=aL (by kernel_rfl)
theorem ti:FA 54 4 4:=fa (by kernel_rfl)
theorem ye:dI Tryd.prog 52:=bN (by kernel_rfl)
def SecD.part(s:SecD)(N:Nat)(xs:List Int):PartD:=⟨s.name,s.seg,[s.addr,↑s.size,↑s.off,s.align,s.reloff,s.nreloc,s.flags],s.rels,if s.size=0∨s.off+s.size≤N then(xs.drop s.off).take s.size else[],decide (s.size=0∨s.off+s.size≤N)⟩
structure MF where
 h:Nat → Int
 big:Bool
 loads:List LoadD
 secs:List SecD
 syms:List Sym
 ind:List Int
def MFile(w:World)(rb fb:Nat)(I:MF):Prop:= ∃(AL AS:Option Addr) (nL cL nS cS:Nat) (vs:List Value) (gs:List Nat) (sy dy:Value),
 (∀i,0≤I.h i∧I.h i≤4294967295)∧
 (an fb [.w (I.h 0),.w (I.h 1),.w (I.h 2),.w (I.h 3),.w (I.h 4),.w (I.h 5),.w (I.h 6),.e (bo I.big),.s AL nL cL,.s AS nS cS,sy,dy] 121).φ w∧
 RV w AL nL 1 vs∧nL≤4294967295∧vs.length=I.loads.length∧(∀(i:Nat) (v:Value) (l:LoadD),vs[i]? =some v → I.loads[i]? =some l → MLoad w v l)∧
 RV w AS nS 1 (gs.map fun g=> .pt g)∧nS≤4294967295∧gs.length=I.secs.length∧(∀(i g:Nat) (s:SecD),gs[i]? =some g → I.secs[i]? =some s → MSec w rb g s)∧
 ((sy= .np∧I.syms= [])∨∃(gy n c:Nat) (A:Option Addr) (x0 x1 x2 x3 x4 x5 x6:Value),sy= .pt gy∧(an gy [x0,x1,x2,x3,x4,x5,x6,.s A n c] 144).φ w∧RV w A n 5 (I.syms.flatMap Sym.cells)∧n≤4294967295)∧
 ((dy= .np∧I.ind= [])∨∃(gy n c:Nat) (a:Addr) (z:Value) (q:Nat → Value),dy= .pt gy∧(an gy [z,q 0,q 1,q 2,q 3,q 4,q 5,q 6,q 7,q 8,q 9,q 10,q 11,q 12,q 13,q 14,q 15,q 16,q 17,q 18,q 19,.s (some a) n c] 148).φ w∧RI .u32 w (some a) n I.ind∧n≤4294967295)
structure FD where
 header:List Int
 big:Bool
 loads:List LoadD
 parts:List PartD
 syms:List Sym
 ind:List Int
def yu(w:World)(c:List Value)(F:FD):Prop:= ∃(vh vl vp vs vi:Value) (xs:List LoadV) (ps:List PartV),c= [vh,.b F.big,vl,vp,vs,vi]∧SlI' .u64 w vh F.header∧
 SlV w vl 4 (xs.flatMap LoadV.cells)∧xs.map LoadV.l=F.loads∧(∀x ∈ xs,x.ok w)∧SlV w vp 6 (ps.flatMap PartV.cells)∧ps.map PartV.p=F.parts∧(∀x ∈ ps,x.ok w)∧SlV w vs 5 (F.syms.flatMap Sym.cells)∧SlI' .u32 w vi F.ind
def MF.told(I:MF)(N:Nat)(xs:List Int):FD:=⟨[I.h 0,I.h 1,I.h 2,I.h 3,I.h 4,I.h 5,I.h 6],I.big,I.loads,I.secs.map fun s=>s.part N xs,I.syms,I.ind⟩
theorem LoadV.len4(x:LoadV):x.cells.length=4:=rfl
theorem xa{rb fb N C:Nat}{A:Option Addr}{i0 p0:Int}{xs0:List Int}{a0 a1:Addr}{I:MF}(w:World)(hm:MFile w rb fb I)(hrb:(an rb [.s A N C,.i i0,.i p0] 190).φ w)(hG:Glob 224 w a0 a1)(hNC:N≤C)(hN:N<10485760)(hr:RI .u8 w A N xs0)(hA: ∀a,A=some a → a.block<w.heap.size)(hw4:4≤w.heap.size):
 Calls Tryd.prog 35 #[.pt fb] w fun e w'=> ∃(c:List Value) (D:Res),e= .returned (.agg c.toArray)∧St w aR [D] w'∧∀w,D.φ w → yu w c (I.told N xs0):=by
 obtain⟨AL,AS,nL,cL,nS,cS,vs,gs,sy,dy,hq,hfb,hL,hnL,hlL,hLs,hS,hnS,hlS,hSs,hsy,hdy⟩:=hm
 refine aA (args:= [.pt fb]) Tryd.func35 Z Z Z ?_
 have H0:=St.nil w aR
 refine sr (wm Z (aN H0 jD (fun g1 w2 dp H3=>wn ?_)))
 refine eh (fun ρ w'=> ∃(go gh:Nat),ρ 0= .pt fb∧ρ 2= .pt g1∧ρ 3= .pt go∧St w aR [an go [.sl gh 0 7 7,.b I.big,.ns,.ns,.ns,.ns] 54,an gh (nums .u64 [I.h 0,I.h 1,I.h 2,I.h 3,I.h 4,I.h 5,I.h 6]) 43,an g1 [.ns,.b false,.ns,.ns,.ns,.ns] 54] w') ?_ ?_
 ·
  have H4:=H3.drew
  refine aU MX (fun w'=>w'.cell? ⟨fb,0,none⟩=some (.w (I.h 0))∧w'.cell? ⟨fb,1,none⟩=some (.w (I.h 1))∧w'.cell? ⟨fb,2,none⟩=some (.w (I.h 2))∧w'.cell? ⟨fb,3,none⟩=some (.w (I.h 3))∧w'.cell? ⟨fb,4,none⟩=some (.w (I.h 4))∧w'.cell? ⟨fb,5,none⟩=some (.w (I.h 5))∧w'.cell? ⟨fb,6,none⟩=some (.w (I.h 6))∧w'.cell? ⟨fb,7,none⟩=some (.e (bo I.big))) (tr 0 42 (tr 43 5 (Pl.run2 42 (Pl.take 48 (Pl.run 49 (Pl.run 50 Pl.done))) 49 (Pl.run 42 (Pl.take 48 (Pl.run 50 Pl.done)))))) (by kernel_rfl) (⟨H4.kb hfb Z,H4.kb hfb Z,H4.kb hfb Z,H4.kb hfb Z,H4.kb hfb Z,H4.kb hfb Z,H4.kb hfb Z,H4.kb hfb Z⟩) (qm (.pt fb) Z Z (qy Z (ah Z) (qy Z (ab (o:=0) dE Z) (qy Z (ab (o:=0) i1 Z) (qh Z (fun hS=>ag ax Z hS.1) (qy Z (ao (c:=I.h 0) bv be Z (aC (hq 0).1 (by have:=(hq 0).2;omega))) (qm (.pt fb) Z Z (qy Z (ah Z) (qy Z (ab (o:=0) dE Z) (qy Z (ab (o:=0) uT Z) (qh Z (fun hS=>ag yg Z hS.2.1) ?_)))))))))))
  refine qy Z (ao (c:=I.h 1) TI111 be Z (aC (hq 1).1 (by have:=(hq 1).2;omega))) (qm (.pt fb) Z Z (qy Z (ah Z) (qy Z (ab (o:=0) dE Z) (qy Z (ab (o:=0) uS Z) (qh Z (fun hS=>ag ax Z hS.2.2.1) (qy Z (ao (c:=I.h 2) bv be Z (aC (hq 2).1 (by have:=(hq 2).2;omega))) (qm (.pt fb) Z Z (qy Z (ah Z) (qy Z (ab (o:=0) dE Z) (qy Z (ab (o:=0) uR Z) (qh Z (fun hS=>ag yf Z hS.2.2.2.1) ?_)))))))))))
  refine qy Z (ao (c:=I.h 3) TI112 be Z (aC (hq 3).1 (by have:=(hq 3).2;omega))) (qm (.pt fb) Z Z (qy Z (ah Z) (qy Z (ab (o:=0) dE Z) (qy Z (ab (o:=0) mY Z) (qh Z (fun hS=>ag ax Z hS.2.2.2.2.1) (qy Z (ao (c:=I.h 4) bv be Z (aC (hq 4).1 (by have:=(hq 4).2;omega))) (qm (.pt fb) Z Z (qy Z (ah Z) (qy Z (ab (o:=0) dE Z) (qy Z (ab (o:=0) mX Z) (qh Z (fun hS=>ag ax Z hS.2.2.2.2.2.1) ?_)))))))))))
  refine qy Z (ao (c:=I.h 5) bv be Z (aC (hq 5).1 (by have:=(hq 5).2;omega))) (qm (.pt fb) Z Z (qy Z (ah Z) (qy Z (ab (o:=0) dE Z) (qy Z (ab (o:=0) uQ Z) (qh Z (fun hS=>ag ax Z hS.2.2.2.2.2.2.1) (qy Z (ao (c:=I.h 6) bv be Z (aC (hq 6).1 (by have:=(hq 6).2;omega))) (qm (.pt fb) Z Z (qy Z (ah Z) (qy Z (ab (o:=0) iz Z) (qh Z (fun hS=>ag jL Z hS.2.2.2.2.2.2.2) (qy Z (aT (c:=I.big) Z Z (by cases I.big<;>rfl)) ?_)))))))))))
  refine⟨?_,?_⟩
  ·
   refine po Z (eb H4 43 [.q (I.h 0),.q (I.h 1),.q (I.h 2),.q (I.h 3),.q (I.h 4),.q (I.h 5),.q (I.h 6)] Z (by kernel_rfl) (fun g5 w6 dq H7=>⟨⟨H7.kb hfb Z,H7.kb hfb Z,H7.kb hfb Z,H7.kb hfb Z,H7.kb hfb Z,H7.kb hfb Z,H7.kb hfb Z,H7.kb hfb Z⟩,fun _=>trivial,qy Z (yb (ps:= [(0,.sl g5 0 7 7),(1,.b I.big)]) (cells:=#[.sl g5 0 7 7,.b I.big,.ns,.ns,.ns,.ns]) Z (by kernel_rfl)) (qr Z (aN H7 jD (fun g8 w9 dr b9=>⟨⟨b9.kb hfb Z,b9.kb hfb Z,b9.kb hfb Z,b9.kb hfb Z,b9.kb hfb Z,b9.kb hfb Z,b9.kb hfb Z,b9.kb hfb Z⟩,fun _=>trivial,dJ Z (eN b9 0 [.sl g5 0 7 7,.b I.big,.ns,.ns,.ns,.ns] Z o1 (fun dU bB=> ?_))⟩)))⟩))
   refine⟨⟨bB.kb hfb Z,bB.kb hfb Z,bB.kb hfb Z,bB.kb hfb Z,bB.kb hfb Z,bB.kb hfb Z,bB.kb hfb Z,bB.kb hfb Z⟩,fun _=>trivial,pn ?_⟩
   exact⟨g8,g5,Z,Z,Z,bB.re [0,1,2]⟩
  ·
   refine po Z (aN H4 jD (fun cX dV cY bC=>⟨⟨bC.kb hfb Z,bC.kb hfb Z,bC.kb hfb Z,bC.kb hfb Z,bC.kb hfb Z,bC.kb hfb Z,bC.kb hfb Z,bC.kb hfb Z⟩,fun _=>trivial,qr Z (eb bC 43 [.q (I.h 0),.q (I.h 1),.q (I.h 2),.q (I.h 3),.q (I.h 4),.q (I.h 5),.q (I.h 6)] Z (by kernel_rfl) (fun ci dW da bD=>⟨⟨bD.kb hfb Z,bD.kb hfb Z,bD.kb hfb Z,bD.kb hfb Z,bD.kb hfb Z,bD.kb hfb Z,bD.kb hfb Z,bD.kb hfb Z⟩,fun _=>trivial,qy Z (yb (ps:= [(0,.sl ci 0 7 7),(1,.b I.big)]) (cells:=#[.sl ci 0 7 7,.b I.big,.ns,.ns,.ns,.ns]) Z (by kernel_rfl)) (dJ Z (eN bD 1 [.sl ci 0 7 7,.b I.big,.ns,.ns,.ns,.ns] Z o1 (fun dX bF=> ?_)))⟩))⟩))
   refine⟨⟨bF.kb hfb Z,bF.kb hfb Z,bF.kb hfb Z,bF.kb hfb Z,bF.kb hfb Z,bF.kb hfb Z,bF.kb hfb Z,bF.kb hfb Z⟩,fun _=>trivial,pn ?_⟩
   exact⟨cX,ci,Z,Z,Z,bF.re [1,0,2]⟩
 ·
  rintro ρ w0 ⟨go,gh,h0,h2,h3,H0⟩
  refine ad (sr (mg h0 Z (wc Z (wf dR Z (wv Z (ag eX Z (H0.kb hfb Z)) (wv Z (aO TL116 Z) (mi 0 Z (wn (a6 ?_)))))))))
  have H9:St w aR [Res.all [],ay 96 4 (.ns) 0 [],an go [.sl gh 0 7 7,.b I.big,.ns,.ns,.ns,.ns] 54,an gh (nums .u64 [I.h 0,I.h 1,I.h 2,I.h 3,I.h 4,I.h 5,I.h 6]) 43,an g1 [.ns,.b false,.ns,.ns,.ns,.ns] 54] w0:=(H0.addRow 96 4).reAll [] [0,1,2,3]
  refine bA (fun ρ w'=> ∃i:Nat,∃A1:Option Addr,∃c1:Nat,∃xs:List LoadV,∃D:Res,ρ 0= .pt fb∧ρ 2= .pt g1∧ρ 3= .pt go∧ρ 62= .s AL nL cL∧ρ 63= .i ↑nL∧ρ 64= .i ↑i∧i≤nL∧xs.map LoadV.l=I.loads.take i∧(∀w,D.φ w → ∀x ∈ xs,x.ok w)∧St w aR [D,ay 96 4 (.s A1 i c1) i (xs.flatMap LoadV.cells),an go [.sl gh 0 7 7,.b I.big,.s A1 i c1,.ns,.ns,.ns] 54,an gh (nums .u64 [I.h 0,I.h 1,I.h 2,I.h 3,I.h 4,I.h 5,I.h 6]) 43,an g1 [.ns,.b false,.ns,.ns,.ns,.ns] 54] w') (fun ρ _=>nL+1- nv (ρ 64)) (⟨0,none,0,[],Res.all [],h0,h2,h3,Z,Z,Z,by omega,Z,by simp,H9⟩) ?_
  rintro ρ w1 ⟨i,A1,c1,xs,D,h0,h2,h3,cE,cF,cj,hi,hxs,hD,H1⟩
  refine sr (wv Z (bR cj cF) (wn (ad ?_)))
  refine bK Z (fun bL=> ?_) (fun bL=> ?_)
  ·
   simp only[bx]at bL
   refine wk (ad (a6 (sr ?_)))
   obtain⟨lv,hlv⟩: ∃v,vs[i]? =some v:=⟨vs[i]'(by have:=hL.1;omega),List.getElem?_eq_getElem _⟩
   obtain⟨l,hl⟩: ∃l,I.loads[i]? =some l:=⟨I.loads[i]'(by have:=hL.1;omega),List.getElem?_eq_getElem _⟩
   obtain⟨_,gL,oL,rfl,hcL⟩:=hL.at1 hlv
   refine wv Z (bi i TS116 cE cj Z (by omega) (by rw[Nat.mul_one])) (wv Z (ag BM Z (H1.kc hcL)) (av lv Z (wn ?_)))
   have c0:=H1.drew
   refine dt MX (fun w'=>w'.cell? ⟨go,2,none⟩=some (.s A1 i c1)) (fun w'=>True) 7 (Pl.take 0 (Pl.takeS 1 (Pl.take 2 (Pl.run 3 (Pl.run 4 (Pl.run 5 (Pl.take 6 (Pl.run 7 Pl.done)))))))) (by kernel_rfl) Z (c0.c 2 2 Z Z) (trivial) (qy Z (ab (o:=0) qu h3) (qs Z Z (fun _ hS=>ag uU Z hS) (qm lv Z Z (qr Z (ec CK43 (args:= [lv]) Z (aa (wZ _ ((hLs i lv l hlv hl).keep c0.keep)) ?_))))))
   rintro e dY ⟨x,D2,hxl,rfl,hok,cl⟩
   obtain⟨⟨A2,n2,c2,e2,_⟩,A3,n3,c3,e3,_⟩:=hok _ (cl.g 0 rfl)
   have cG:=c0.cal0 cl
   refine⟨_,Z,⟨trivial,fun _=>cG.c 3 2 Z Z,qr Z (kt cG (ps:= [(0,.agg #[.i x.l.kind,x.vr,.str x.l.name,x.vn])]) (e:=96) (cs:= [.i x.l.kind,x.vr,.str x.l.name,x.vn]) Z (by kernel_rfl) (fun dZ ea db c4=>⟨trivial,fun _=>c4.c 4 2 Z Z,qr Z (bG c4 3 (m:=1) (news:= [.i x.l.kind,x.vr,.str x.l.name,x.vn]) Z TU50 TB96 Z (by decide) Z Z Z (c4.news (i:=0) Z) (by simp[Value.oneCell',e2,e3]) (by simp only[maxLen];omega) (by omega) (fun ed ee c6=> ?_))⟩))⟩⟩
   obtain⟨c7,c8,rfl,_,_⟩:=aw (c6.g 3 rfl)
   refine⟨trivial,fun _=>c6.c 4 2 Z Z,qy Z (ab (o:=0) qu h3) (dJ Z (es c6 4 2 (.s c7 (i+1) c8) Z uU (fun dc dd=> ?_)))⟩
   refine⟨trivial,fun h=>absurd h (by decide),ca (ak (ac (ae (wv Z (aH (k:= .i64) (c:= ↑i+1) cj Z (a5 (by omega) (by omega))) (mi (↑i+1) Z (wn ?_))))))⟩
   have Hn:St w aR [Res.all [D2,D],ay 96 4 (.s c7 (i+1) c8) (i+1) ((xs++ [x]).flatMap LoadV.cells),an go [.sl gh 0 7 7,.b I.big,.s c7 (i+1) c8,.ns,.ns,.ns] 54,an gh (nums .u64 [I.h 0,I.h 1,I.h 2,I.h 3,I.h 4,I.h 5,I.h 6]) 43,an g1 [.ns,.b false,.ns,.ns,.ns,.ns] 54] dc:=by
    rw[List.flatMap_append,List.flatMap_singleton]
    exact dd.reAll [1,2] [3,4,5,6]
   exact⟨⟨i+1,_,_,xs++ [x],Res.all [D2,D],h0,h2,h3,cE,cF,Z,by omega,by rw[List.map_append,hxs,List.map_singleton,hxl,List.take_add_one,hl];rfl,fun w h y hy=>by have h:=aS.1 h;rcases List.mem_append.1 hy with hy|hy;exact hD w (h D (by simp)) y hy;rw[List.mem_singleton.1 hy];exact hok w (h D2 (by simp)),Hn⟩,by show nL+1- nv (.i (↑i+1))<nL+1- nv (ρ 64);rw[cj];simp only[nv];omega⟩
  ·
   simp only[bx]at bL
   refine bq (ar (ar (aQ (ac (ad (ad ?_))))))
   have hin:i=nL:=by omega
   have cH:St w aR [Res.all [D,ay 96 4 (.s A1 i c1) i (xs.flatMap LoadV.cells),an gh (nums .u64 [I.h 0,I.h 1,I.h 2,I.h 3,I.h 4,I.h 5,I.h 6]) 43],an go [.sl gh 0 7 7,.b I.big,.s A1 i c1,.ns,.ns,.ns] 54,an g1 [.ns,.b false,.ns,.ns,.ns,.ns] 54] w1:=H1.reAll [0,1,3] [2,4]
   refine ae (mg h0 Z (wc Z (wf jJ Z (wv Z (ag la Z (cH.kb hfb Z)) (wv Z (aO TL117 Z) (mi 0 Z (wn (a6 ?_))))))))
   have de:St w aR [Res.all [],ay 99 6 (.ns) 0 [],an go [.sl gh 0 7 7,.b I.big,.s A1 i c1,.ns,.ns,.ns] 54,Res.all [D,ay 96 4 (.s A1 i c1) i (xs.flatMap LoadV.cells),an gh (nums .u64 [I.h 0,I.h 1,I.h 2,I.h 3,I.h 4,I.h 5,I.h 6]) 43],an g1 [.ns,.b false,.ns,.ns,.ns,.ns] 54] w1:=(cH.addRow 99 6).reAll [] [0,2,1,3]
   refine bA (fun ρ w'=> ∃j:Nat,∃A2:Option Addr,∃c2:Nat,∃ps:List PartV,∃E:Res,ρ 0= .pt fb∧ρ 2= .pt g1∧ρ 3= .pt go∧ρ 79= .s AS nS cS∧ρ 80= .i ↑nS∧ρ 81= .i ↑j∧j≤nS∧ps.map PartV.p=(I.secs.take j).map (fun s=>s.part N xs0)∧(∀w,E.φ w → ∀x ∈ ps,x.ok w)∧St w aR [E,ay 99 6 (.s A2 j c2) j (ps.flatMap PartV.cells),an go [.sl gh 0 7 7,.b I.big,.s A1 i c1,.s A2 j c2,.ns,.ns] 54,Res.all [D,ay 96 4 (.s A1 i c1) i (xs.flatMap LoadV.cells),an gh (nums .u64 [I.h 0,I.h 1,I.h 2,I.h 3,I.h 4,I.h 5,I.h 6]) 43],an g1 [.ns,.b false,.ns,.ns,.ns,.ns] 54] w') (fun ρ _=>nS+1- nv (ρ 81)) (⟨0,none,0,[],Res.all [],h0,h2,h3,Z,Z,Z,by omega,Z,by simp,de⟩) ?_
   rintro ρ w2 ⟨j,A2,c2,ps,E,h0,h2,h3,bH,bJ,aK,hj,hps,hE,H2⟩
   refine sr (wv Z (bR aK bJ) (wn (ad ?_)))
   refine bK Z (fun bM=> ?_) (fun bM=> ?_)
   ·
    simp only[bx]at bM
    refine wk (ad (a6 (sr ?_)))
    obtain⟨sg,hsg⟩: ∃v,gs[j]? =some v:=⟨gs[j]'(by have:=hS.1;simp at this;omega),List.getElem?_eq_getElem _⟩
    obtain⟨s,hsd⟩: ∃l,I.secs[j]? =some l:=⟨I.secs[j]'(by have:=hS.1;simp at this;omega),List.getElem?_eq_getElem _⟩
    obtain⟨_,gS,oS,rfl,hcS⟩:=hS.at1 (i:=j) (v:= .pt sg) (by rw[List.getElem?_map,hsg];rfl)
    obtain⟨⟨ha,hsz,hof,hal,hro,hnr,hfl⟩,A5,n5,c5,sb,so,sn,lim,hsec,hrel,ck,hsb,hlim,bN⟩:=hSs j sg s hsg hsd
    refine wv Z (bi j TS117 bH aK Z (by omega) (by rw[Nat.mul_one])) (wv Z (ag BL Z (H2.kc hcS)) (ap sg 0 Z (wn (sr (mp sg 0 Z (wE [.pt sg] CK44 Z Z ?_))))))
    by_cases hfit:s.size=0∨s.off+s.size≤N
    ·
     refine aa (z8 _ (bV hrb H2.keep) (hG.keep H2.keep fun k hk=>hk.elim) hNC hN (hr.keep0 H2.keep) (fun a ha=>Nat.lt_of_lt_of_le (hA a ha) H2.keep.size) (Nat.le_trans hw4 H2.keep.size) hof (bV hsb H2.keep) hlim bN (H2.keep.cell (cZ hsec (k:=3) Z) (aW _)) (H2.keep.cell (cZ hsec (k:=11) Z) (aW _)) hfit) ?_
     rintro e ef ⟨gd,rfl,hgd,cI⟩
     have df:=H2.cal0 cI
     refine⟨_,Z,mv (.tuple #[.sl gd 0 s.size s.size,.n]) Z (we (.sl gd 0 s.size s.size) Z Z (we (.n) Z Z (eL gd 0 s.size s.size Z (av (.n) Z (wn ?_)))))⟩
     have aL:=df.drew
     refine dt MX (fun w'=>w'.cell? ⟨go,3,none⟩=some (.s A2 j c2)) (fun w'=>w'.cell? ⟨sg,0,none⟩=some (.str s.name)∧w'.cell? ⟨sg,1,none⟩=some (.str s.seg)∧w'.cell? ⟨sg,2,none⟩=some (.q s.addr)∧w'.cell? ⟨sg,3,none⟩=some (.q (↑s.size))∧w'.cell? ⟨sg,4,none⟩=some (.w (↑s.off))∧w'.cell? ⟨sg,5,none⟩=some (.w s.align)∧w'.cell? ⟨sg,6,none⟩=some (.w s.reloff)∧w'.cell? ⟨sg,7,none⟩=some (.w s.nreloc)∧w'.cell? ⟨sg,8,none⟩=some (.w s.flags)∧w'.cell? ⟨sg,9,none⟩=some (.s A5 n5 c5)) 66 (Pl.take 0 (Pl.takeS 1 (tr 2 50 (tr 53 4 (Pl.take 58 (Pl.take 60 (Pl.take 61 (Pl.run2 52 (Pl.run 57 (Pl.run 59 (Pl.take 62 (Pl.run 63 (Pl.run 64 (Pl.take 65 (Pl.run 66 Pl.done))))))) 57 (Pl.run2 52 (Pl.run 59 (Pl.take 62 (Pl.run 63 (Pl.run 64 (Pl.take 65 (Pl.run 66 Pl.done)))))) 59 (Pl.run 52 (Pl.take 62 (Pl.run 63 (Pl.run 64 (Pl.take 65 (Pl.run 66 Pl.done))))))))))))))) (by kernel_rfl) Z (aL.c 3 3 Z Z) (⟨aL.kb hsec Z,aL.kb hsec Z,aL.kb hsec Z,aL.kb hsec Z,aL.kb hsec Z,aL.kb hsec Z,aL.kb hsec Z,aL.kb hsec Z,aL.kb hsec Z,aL.kb hsec Z⟩) (qy Z (ab (o:=0) jn h3) (qs Z Z (fun _ hS=>ag kL Z hS) (qm (.pt sg) Z Z (qy Z (ah Z) (qy Z (ab (o:=0) br Z) (qy Z (ab (o:=0) mW Z) (qh Z (fun hS=>ag dP Z hS.1) (qm (.pt sg) Z Z (qy Z (ah Z) (qy Z (ab (o:=0) br Z) (qy Z (ab (o:=0) mV Z) ?_)))))))))))
     refine qh Z (fun hS=>ag dP Z hS.2.1) (qm (.pt sg) Z Z (qy Z (ah Z) (qy Z (ab (o:=0) br Z) (qy Z (ab (o:=0) mU Z) (qh Z (fun hS=>ag aP Z hS.2.2.1) (qm (.pt sg) Z Z (qy Z (ah Z) (qy Z (ab (o:=0) br Z) (qy Z (ab (o:=0) iu Z) (qh Z (fun hS=>ag aP Z hS.2.2.2.1) (qm (.pt sg) Z Z ?_)))))))))))
     refine qy Z (ah Z) (qy Z (ab (o:=0) br Z) (qy Z (ab (o:=0) jH Z) (qh Z (fun hS=>ag ax Z hS.2.2.2.2.1) (qy Z (ao (c:= ↑s.off) bv be Z (aC (by omega) (by omega))) (qm (.pt sg) Z Z (qy Z (ah Z) (qy Z (ab (o:=0) br Z) (qy Z (ab (o:=0) mT Z) (qh Z (fun hS=>ag ax Z hS.2.2.2.2.2.1) (qy Z (ao (c:=s.align) bv be Z (aC hal.1 (by omega))) (qm (.pt sg) Z Z ?_)))))))))))
     refine qy Z (ah Z) (qy Z (ab (o:=0) br Z) (qy Z (ab (o:=0) kC Z) (qh Z (fun hS=>ag ax Z hS.2.2.2.2.2.2.1) (qy Z (ao (c:=s.reloff) bv be Z (aC hro.1 (by omega))) (qm (.pt sg) Z Z (qy Z (ah Z) (qy Z (ab (o:=0) br Z) (qy Z (ab (o:=0) gK Z) (qh Z (fun hS=>ag ax Z hS.2.2.2.2.2.2.2.1) (qy Z (ao (c:=s.nreloc) bv be Z (aC hnr.1 (by omega))) (qm (.pt sg) Z Z ?_)))))))))))
     refine qy Z (ah Z) (qy Z (ab (o:=0) br Z) (qy Z (ab (o:=0) mS Z) (qh Z (fun hS=>ag ax Z hS.2.2.2.2.2.2.2.2.1) (qy Z (ao (c:=s.flags) bv be Z (aC hfl.1 (by omega))) (qm (.pt sg) Z Z (qy Z (ah Z) (qy Z (ab (o:=0) lD Z) (qh Z (fun hS=>ag oI Z hS.2.2.2.2.2.2.2.2.2) (qm (.sl gd 0 s.size s.size) Z Z (qm (.n) Z Z (qt Z (fun _ hS=>(ep bI Z (.inl Z):Yv _ _ _ _ (.b true) _)) ?_)))))))))))
     refine⟨?_,?_⟩
     ·
      refine po Z (eb aL 43 [.q s.addr,.q (↑s.size),.q (↑s.off),.q s.align,.q s.reloff,.q s.nreloc,.q s.flags] Z (by kernel_rfl) (fun aM eg dg bp=>⟨⟨bp.kb hsec Z,bp.kb hsec Z,bp.kb hsec Z,bp.kb hsec Z,bp.kb hsec Z,bp.kb hsec Z,bp.kb hsec Z,bp.kb hsec Z,bp.kb hsec Z,bp.kb hsec Z⟩,fun _=>bp.c 4 3 Z Z,qr Z (ec zD (args:= [.s A5 n5 c5]) Z (aa (j8 _ (hrel.keep0 bp.keep) ck) ?_))⟩))
      rintro e ei ⟨v,rfl,cm⟩
      obtain⟨aV,aX,rfl,_,_⟩:=aw (cm.g 0 rfl)
      have bs:=bp.cal0 cm
      refine⟨_,Z,⟨⟨bs.kb hsec Z,bs.kb hsec Z,bs.kb hsec Z,bs.kb hsec Z,bs.kb hsec Z,bs.kb hsec Z,bs.kb hsec Z,bs.kb hsec Z,bs.kb hsec Z,bs.kb hsec Z⟩,fun _=>bs.c 5 3 Z Z,qr Z (ec mf (args:= [.sl gd 0 s.size s.size]) Z (aa (fB _ (aj (bs.g 2 Z) (by rw[List.length_take,List.length_drop,hr.1];omega)) (fun h=>by cases h) (by omega)) ?_))⟩⟩
      rintro e ej ⟨v,rfl,cn⟩
      obtain⟨aZ,ba,rfl,_,_⟩:=aw (cn.g 0 rfl)
      have b3:=bs.cal0 cn
      refine⟨_,Z,⟨⟨b3.kb hsec Z,b3.kb hsec Z,b3.kb hsec Z,b3.kb hsec Z,b3.kb hsec Z,b3.kb hsec Z,b3.kb hsec Z,b3.kb hsec Z,b3.kb hsec Z,b3.kb hsec Z⟩,fun _=>b3.c 6 3 Z Z,qy Z (yb (ps:= [(0,.str s.name),(1,.str s.seg),(2,.sl aM 0 7 7),(3,.s aV n5 aX),(4,.s aZ s.size ba),(5,.b true)]) (cells:=#[.str s.name,.str s.seg,.sl aM 0 7 7,.s aV n5 aX,.s aZ s.size ba,.b true]) Z (by kernel_rfl)) (qr Z (kt b3 (ps:= [(0,.agg #[.str s.name,.str s.seg,.sl aM 0 7 7,.s aV n5 aX,.s aZ s.size ba,.b true])]) (e:=99) (cs:= [.str s.name,.str s.seg,.sl aM 0 7 7,.s aV n5 aX,.s aZ s.size ba,.b true]) Z (by kernel_rfl) (fun ek el dh bt=>⟨⟨bt.kb hsec Z,bt.kb hsec Z,bt.kb hsec Z,bt.kb hsec Z,bt.kb hsec Z,bt.kb hsec Z,bt.kb hsec Z,bt.kb hsec Z,bt.kb hsec Z,bt.kb hsec Z⟩,fun _=>bt.c 7 3 Z Z,qr Z (bG bt 6 (m:=1) (news:= [.str s.name,.str s.seg,.sl aM 0 7 7,.s aV n5 aX,.s aZ s.size ba,.b true]) Z vR vT Z (by decide) Z Z Z (bt.news (i:=0) Z) (by simp[Value.oneCell']) (by simp only[maxLen];omega) (by omega) (fun em en bu=> ?_))⟩)))⟩⟩
      obtain⟨c9,cA,rfl,_,_⟩:=aw (bu.g 6 rfl)
      refine⟨⟨bu.kb hsec Z,bu.kb hsec Z,bu.kb hsec Z,bu.kb hsec Z,bu.kb hsec Z,bu.kb hsec Z,bu.kb hsec Z,bu.kb hsec Z,bu.kb hsec Z,bu.kb hsec Z⟩,fun _=>bu.c 7 3 Z Z,qy Z (ab (o:=0) jn h3) (dJ Z (es bu 7 3 (.s c9 (j+1) cA) Z kL (fun di b7=> ?_)))⟩
      refine⟨⟨b7.kb hsec Z,b7.kb hsec Z,b7.kb hsec Z,b7.kb hsec Z,b7.kb hsec Z,b7.kb hsec Z,b7.kb hsec Z,b7.kb hsec Z,b7.kb hsec Z,b7.kb hsec Z⟩,fun h=>absurd h (by decide),ca (ak (ac (ae (wv Z (aH (k:= .i64) (c:= ↑j+1) aK Z (a5 (by omega) (by omega))) (mi (↑j+1) Z (wn ?_))))))⟩
      have hcl:PartV.cells (PartV.mk (s.part N xs0) (.sl aM 0 7 7) (.s aV n5 aX) (.s aZ s.size ba))= [.str s.name,.str s.seg,.sl aM 0 7 7,.s aV n5 aX,.s aZ s.size ba,.b true]:=by simp[PartV.cells,SecD.part,hfit]
      have Hn:St w aR [Res.all [an aM (nums .u64 (s.part N xs0).nums) 43,ay 101 7 (.s aV n5 aX) n5 (s.rels.flatMap Rel.cells),ay 5 1 (.s aZ s.size ba) s.size (nums .u8 ((xs0.drop s.off).take s.size)),E],ay 99 6 (.s c9 (j+1) cA) (j+1) ((ps++ [(PartV.mk (s.part N xs0) (.sl aM 0 7 7) (.s aV n5 aX) (.s aZ s.size ba))]).flatMap PartV.cells),an go [.sl gh 0 7 7,.b I.big,.s A1 i c1,.s c9 (j+1) cA,.ns,.ns] 54,Res.all [D,ay 96 4 (.s A1 i c1) i (xs.flatMap LoadV.cells),an gh (nums .u64 [I.h 0,I.h 1,I.h 2,I.h 3,I.h 4,I.h 5,I.h 6]) 43],an g1 [.ns,.b false,.ns,.ns,.ns,.ns] 54] di:=by
       rw[List.flatMap_append,List.flatMap_singleton,hcl]
       exact b7.reAll [3,2,1,5] [6,7,8,9]
      have hxo: ∀w,(Res.all [an aM (nums .u64 (s.part N xs0).nums) 43,ay 101 7 (.s aV n5 aX) n5 (s.rels.flatMap Rel.cells),ay 5 1 (.s aZ s.size ba) s.size (nums .u8 ((xs0.drop s.off).take s.size)),E]).φ w → PartV.ok w (PartV.mk (s.part N xs0) (.sl aM 0 7 7) (.s aV n5 aX) (.s aZ s.size ba)):=fun w h=>by
       have h:=aS.1 h
       refine⟨⟨_,_,_,Z,aj (h (an aM (nums .u64 (s.part N xs0).nums) 43) (by simp)) Z⟩,?_,?_⟩
       · obtain⟨A,c,e,hv,_⟩:=aw (h (ay 101 7 (.s aV n5 aX) n5 (s.rels.flatMap Rel.cells)) (by simp));exact⟨A,_,c,e,hv⟩
       · obtain⟨A,c,e,hv,_⟩:=aw (h (ay 5 1 (.s aZ s.size ba) s.size (nums .u8 ((xs0.drop s.off).take s.size))) (by simp));exact⟨A,_,c,e,by have:=(show RV w A _ 1 (nums .u8 ((xs0.drop s.off).take s.size))from hv).ri;simpa[SecD.part,hfit]using this⟩
      exact⟨⟨j+1,_,_,ps++ [(PartV.mk (s.part N xs0) (.sl aM 0 7 7) (.s aV n5 aX) (.s aZ s.size ba))],Res.all [an aM (nums .u64 (s.part N xs0).nums) 43,ay 101 7 (.s aV n5 aX) n5 (s.rels.flatMap Rel.cells),ay 5 1 (.s aZ s.size ba) s.size (nums .u8 ((xs0.drop s.off).take s.size)),E],h0,h2,h3,bH,bJ,Z,by omega,by rw[List.map_append,hps,List.map_singleton,List.take_add_one,List.map_append,hsd];rfl,fun w h y hy=>by rcases List.mem_append.1 hy with hy|hy;exact hE w (aS.1 h E (by simp)) y hy;rw[List.mem_singleton.1 hy];exact hxo w h,Hn⟩,by show nS+1- nv (.i (↑j+1))<nS+1- nv (ρ 81);rw[aK];simp only[nv];omega⟩
     ·
      refine po Z (ec zD (args:= [.s A5 n5 c5]) Z (aa (j8 _ (hrel.keep0 aL.keep) ck) ?_))
      rintro e eo ⟨v,rfl,co⟩
      obtain⟨t,B,rfl,_,_⟩:=aw (co.g 0 rfl)
      have bb:=aL.cal0 co
      refine⟨_,Z,⟨⟨bb.kb hsec Z,bb.kb hsec Z,bb.kb hsec Z,bb.kb hsec Z,bb.kb hsec Z,bb.kb hsec Z,bb.kb hsec Z,bb.kb hsec Z,bb.kb hsec Z,bb.kb hsec Z⟩,fun _=>bb.c 4 3 Z Z,?_⟩⟩
      refine⟨?_,?_⟩
      ·
       refine po Z (eb bb 43 [.q s.addr,.q (↑s.size),.q (↑s.off),.q s.align,.q s.reloff,.q s.nreloc,.q s.flags] Z (by kernel_rfl) (fun bc er dj bw=>⟨⟨bw.kb hsec Z,bw.kb hsec Z,bw.kb hsec Z,bw.kb hsec Z,bw.kb hsec Z,bw.kb hsec Z,bw.kb hsec Z,bw.kb hsec Z,bw.kb hsec Z,bw.kb hsec Z⟩,fun _=>bw.c 5 3 Z Z,qr Z (ec mf (args:= [.sl gd 0 s.size s.size]) Z (aa (fB _ (aj (bw.g 2 Z) (by rw[List.length_take,List.length_drop,hr.1];omega)) (fun h=>by cases h) (by omega)) ?_))⟩))
       rintro e et ⟨v,rfl,cp⟩
       obtain⟨bd,bf,rfl,_,_⟩:=aw (cp.g 0 rfl)
       have b4:=bw.cal0 cp
       refine⟨_,Z,⟨⟨b4.kb hsec Z,b4.kb hsec Z,b4.kb hsec Z,b4.kb hsec Z,b4.kb hsec Z,b4.kb hsec Z,b4.kb hsec Z,b4.kb hsec Z,b4.kb hsec Z,b4.kb hsec Z⟩,fun _=>b4.c 6 3 Z Z,qy Z (yb (ps:= [(0,.str s.name),(1,.str s.seg),(2,.sl bc 0 7 7),(3,.s t n5 B),(4,.s bd s.size bf),(5,.b true)]) (cells:=#[.str s.name,.str s.seg,.sl bc 0 7 7,.s t n5 B,.s bd s.size bf,.b true]) Z (by kernel_rfl)) (qr Z (kt b4 (ps:= [(0,.agg #[.str s.name,.str s.seg,.sl bc 0 7 7,.s t n5 B,.s bd s.size bf,.b true])]) (e:=99) (cs:= [.str s.name,.str s.seg,.sl bc 0 7 7,.s t n5 B,.s bd s.size bf,.b true]) Z (by kernel_rfl) (fun eu ew dk bz=>⟨⟨bz.kb hsec Z,bz.kb hsec Z,bz.kb hsec Z,bz.kb hsec Z,bz.kb hsec Z,bz.kb hsec Z,bz.kb hsec Z,bz.kb hsec Z,bz.kb hsec Z,bz.kb hsec Z⟩,fun _=>bz.c 7 3 Z Z,qr Z (bG bz 6 (m:=1) (news:= [.str s.name,.str s.seg,.sl bc 0 7 7,.s t n5 B,.s bd s.size bf,.b true]) Z vR vT Z (by decide) Z Z Z (bz.news (i:=0) Z) (by simp[Value.oneCell']) (by simp only[maxLen];omega) (by omega) (fun ex ey b0=> ?_))⟩)))⟩⟩
       obtain⟨cB,cC,rfl,_,_⟩:=aw (b0.g 6 rfl)
       refine⟨⟨b0.kb hsec Z,b0.kb hsec Z,b0.kb hsec Z,b0.kb hsec Z,b0.kb hsec Z,b0.kb hsec Z,b0.kb hsec Z,b0.kb hsec Z,b0.kb hsec Z,b0.kb hsec Z⟩,fun _=>b0.c 7 3 Z Z,qy Z (ab (o:=0) jn h3) (dJ Z (es b0 7 3 (.s cB (j+1) cC) Z kL (fun dl b8=> ?_)))⟩
       refine⟨⟨b8.kb hsec Z,b8.kb hsec Z,b8.kb hsec Z,b8.kb hsec Z,b8.kb hsec Z,b8.kb hsec Z,b8.kb hsec Z,b8.kb hsec Z,b8.kb hsec Z,b8.kb hsec Z⟩,fun h=>absurd h (by decide),ca (ak (ac (ae (wv Z (aH (k:= .i64) (c:= ↑j+1) aK Z (a5 (by omega) (by omega))) (mi (↑j+1) Z (wn ?_))))))⟩
       have hcl:PartV.cells (PartV.mk (s.part N xs0) (.sl bc 0 7 7) (.s t n5 B) (.s bd s.size bf))= [.str s.name,.str s.seg,.sl bc 0 7 7,.s t n5 B,.s bd s.size bf,.b true]:=by simp[PartV.cells,SecD.part,hfit]
       have Hn:St w aR [Res.all [an bc (nums .u64 (s.part N xs0).nums) 43,ay 101 7 (.s t n5 B) n5 (s.rels.flatMap Rel.cells),ay 5 1 (.s bd s.size bf) s.size (nums .u8 ((xs0.drop s.off).take s.size)),E],ay 99 6 (.s cB (j+1) cC) (j+1) ((ps++ [(PartV.mk (s.part N xs0) (.sl bc 0 7 7) (.s t n5 B) (.s bd s.size bf))]).flatMap PartV.cells),an go [.sl gh 0 7 7,.b I.big,.s A1 i c1,.s cB (j+1) cC,.ns,.ns] 54,Res.all [D,ay 96 4 (.s A1 i c1) i (xs.flatMap LoadV.cells),an gh (nums .u64 [I.h 0,I.h 1,I.h 2,I.h 3,I.h 4,I.h 5,I.h 6]) 43],an g1 [.ns,.b false,.ns,.ns,.ns,.ns] 54] dl:=by
        rw[List.flatMap_append,List.flatMap_singleton,hcl]
        exact b8.reAll [2,3,1,5] [6,7,8,9]
       have hxo: ∀w,(Res.all [an bc (nums .u64 (s.part N xs0).nums) 43,ay 101 7 (.s t n5 B) n5 (s.rels.flatMap Rel.cells),ay 5 1 (.s bd s.size bf) s.size (nums .u8 ((xs0.drop s.off).take s.size)),E]).φ w → PartV.ok w (PartV.mk (s.part N xs0) (.sl bc 0 7 7) (.s t n5 B) (.s bd s.size bf)):=fun w h=>by
        have h:=aS.1 h
        refine⟨⟨_,_,_,Z,aj (h (an bc (nums .u64 (s.part N xs0).nums) 43) (by simp)) Z⟩,?_,?_⟩
        · obtain⟨A,c,e,hv,_⟩:=aw (h (ay 101 7 (.s t n5 B) n5 (s.rels.flatMap Rel.cells)) (by simp));exact⟨A,_,c,e,hv⟩
        · obtain⟨A,c,e,hv,_⟩:=aw (h (ay 5 1 (.s bd s.size bf) s.size (nums .u8 ((xs0.drop s.off).take s.size))) (by simp));exact⟨A,_,c,e,by have:=(show RV w A _ 1 (nums .u8 ((xs0.drop s.off).take s.size))from hv).ri;simpa[SecD.part,hfit]using this⟩
       exact⟨⟨j+1,_,_,ps++ [(PartV.mk (s.part N xs0) (.sl bc 0 7 7) (.s t n5 B) (.s bd s.size bf))],Res.all [an bc (nums .u64 (s.part N xs0).nums) 43,ay 101 7 (.s t n5 B) n5 (s.rels.flatMap Rel.cells),ay 5 1 (.s bd s.size bf) s.size (nums .u8 ((xs0.drop s.off).take s.size)),E],h0,h2,h3,bH,bJ,Z,by omega,by rw[List.map_append,hps,List.map_singleton,List.take_add_one,List.map_append,hsd];rfl,fun w h y hy=>by rcases List.mem_append.1 hy with hy|hy;exact hE w (aS.1 h E (by simp)) y hy;rw[List.mem_singleton.1 hy];exact hxo w h,Hn⟩,by show nS+1- nv (.i (↑j+1))<nS+1- nv (ρ 81);rw[aK];simp only[nv];omega⟩
      ·
       refine po Z (ec mf (args:= [.sl gd 0 s.size s.size]) Z (aa (fB _ (aj (bb.g 1 Z) (by rw[List.length_take,List.length_drop,hr.1];omega)) (fun h=>by cases h) (by omega)) ?_))
       rintro e ez ⟨v,rfl,cq⟩
       obtain⟨bg,bh,rfl,_,_⟩:=aw (cq.g 0 rfl)
       have b5:=bb.cal0 cq
       refine⟨_,Z,⟨⟨b5.kb hsec Z,b5.kb hsec Z,b5.kb hsec Z,b5.kb hsec Z,b5.kb hsec Z,b5.kb hsec Z,b5.kb hsec Z,b5.kb hsec Z,b5.kb hsec Z,b5.kb hsec Z⟩,fun _=>b5.c 5 3 Z Z,qr Z (eb b5 43 [.q s.addr,.q (↑s.size),.q (↑s.off),.q s.align,.q s.reloff,.q s.nreloc,.q s.flags] Z (by kernel_rfl) (fun bj e0 dm b6=>⟨⟨b6.kb hsec Z,b6.kb hsec Z,b6.kb hsec Z,b6.kb hsec Z,b6.kb hsec Z,b6.kb hsec Z,b6.kb hsec Z,b6.kb hsec Z,b6.kb hsec Z,b6.kb hsec Z⟩,fun _=>b6.c 6 3 Z Z,qy Z (yb (ps:= [(0,.str s.name),(1,.str s.seg),(2,.sl bj 0 7 7),(3,.s t n5 B),(4,.s bg s.size bh),(5,.b true)]) (cells:=#[.str s.name,.str s.seg,.sl bj 0 7 7,.s t n5 B,.s bg s.size bh,.b true]) Z (by kernel_rfl)) (qr Z (kt b6 (ps:= [(0,.agg #[.str s.name,.str s.seg,.sl bj 0 7 7,.s t n5 B,.s bg s.size bh,.b true])]) (e:=99) (cs:= [.str s.name,.str s.seg,.sl bj 0 7 7,.s t n5 B,.s bg s.size bh,.b true]) Z (by kernel_rfl) (fun e1 e4 dn b1=>⟨⟨b1.kb hsec Z,b1.kb hsec Z,b1.kb hsec Z,b1.kb hsec Z,b1.kb hsec Z,b1.kb hsec Z,b1.kb hsec Z,b1.kb hsec Z,b1.kb hsec Z,b1.kb hsec Z⟩,fun _=>b1.c 7 3 Z Z,qr Z (bG b1 6 (m:=1) (news:= [.str s.name,.str s.seg,.sl bj 0 7 7,.s t n5 B,.s bg s.size bh,.b true]) Z vR vT Z (by decide) Z Z Z (b1.news (i:=0) Z) (by simp[Value.oneCell']) (by simp only[maxLen];omega) (by omega) (fun e5 e6 W=> ?_))⟩)))⟩))⟩⟩
       obtain⟨bO,bP,rfl,_,_⟩:=aw (W.g 6 rfl)
       refine⟨⟨W.kb hsec Z,W.kb hsec Z,W.kb hsec Z,W.kb hsec Z,W.kb hsec Z,W.kb hsec Z,W.kb hsec Z,W.kb hsec Z,W.kb hsec Z,W.kb hsec Z⟩,fun _=>W.c 7 3 Z Z,qy Z (ab (o:=0) jn h3) (dJ Z (es W 7 3 (.s bO (j+1) bP) Z kL (fun cJ aE=> ?_)))⟩
       refine⟨⟨aE.kb hsec Z,aE.kb hsec Z,aE.kb hsec Z,aE.kb hsec Z,aE.kb hsec Z,aE.kb hsec Z,aE.kb hsec Z,aE.kb hsec Z,aE.kb hsec Z,aE.kb hsec Z⟩,fun h=>absurd h (by decide),ca (ak (ac (ae (wv Z (aH (k:= .i64) (c:= ↑j+1) aK Z (a5 (by omega) (by omega))) (mi (↑j+1) Z (wn ?_))))))⟩
       have hcl:PartV.cells (PartV.mk (s.part N xs0) (.sl bj 0 7 7) (.s t n5 B) (.s bg s.size bh))= [.str s.name,.str s.seg,.sl bj 0 7 7,.s t n5 B,.s bg s.size bh,.b true]:=by simp[PartV.cells,SecD.part,hfit]
       have Hn:St w aR [Res.all [an bj (nums .u64 (s.part N xs0).nums) 43,ay 101 7 (.s t n5 B) n5 (s.rels.flatMap Rel.cells),ay 5 1 (.s bg s.size bh) s.size (nums .u8 ((xs0.drop s.off).take s.size)),E],ay 99 6 (.s bO (j+1) bP) (j+1) ((ps++ [(PartV.mk (s.part N xs0) (.sl bj 0 7 7) (.s t n5 B) (.s bg s.size bh))]).flatMap PartV.cells),an go [.sl gh 0 7 7,.b I.big,.s A1 i c1,.s bO (j+1) bP,.ns,.ns] 54,Res.all [D,ay 96 4 (.s A1 i c1) i (xs.flatMap LoadV.cells),an gh (nums .u64 [I.h 0,I.h 1,I.h 2,I.h 3,I.h 4,I.h 5,I.h 6]) 43],an g1 [.ns,.b false,.ns,.ns,.ns,.ns] 54] cJ:=by
        rw[List.flatMap_append,List.flatMap_singleton,hcl]
        exact aE.reAll [1,3,2,5] [6,7,8,9]
       have hxo: ∀w,(Res.all [an bj (nums .u64 (s.part N xs0).nums) 43,ay 101 7 (.s t n5 B) n5 (s.rels.flatMap Rel.cells),ay 5 1 (.s bg s.size bh) s.size (nums .u8 ((xs0.drop s.off).take s.size)),E]).φ w → PartV.ok w (PartV.mk (s.part N xs0) (.sl bj 0 7 7) (.s t n5 B) (.s bg s.size bh)):=fun w h=>by
        have h:=aS.1 h
        refine⟨⟨_,_,_,Z,aj (h (an bj (nums .u64 (s.part N xs0).nums) 43) (by simp)) Z⟩,?_,?_⟩
        · obtain⟨A,c,e,hv,_⟩:=aw (h (ay 101 7 (.s t n5 B) n5 (s.rels.flatMap Rel.cells)) (by simp));exact⟨A,_,c,e,hv⟩
        · obtain⟨A,c,e,hv,_⟩:=aw (h (ay 5 1 (.s bg s.size bh) s.size (nums .u8 ((xs0.drop s.off).take s.size))) (by simp));exact⟨A,_,c,e,by have:=(show RV w A _ 1 (nums .u8 ((xs0.drop s.off).take s.size))from hv).ri;simpa[SecD.part,hfit]using this⟩
       exact⟨⟨j+1,_,_,ps++ [(PartV.mk (s.part N xs0) (.sl bj 0 7 7) (.s t n5 B) (.s bg s.size bh))],Res.all [an bj (nums .u64 (s.part N xs0).nums) 43,ay 101 7 (.s t n5 B) n5 (s.rels.flatMap Rel.cells),ay 5 1 (.s bg s.size bh) s.size (nums .u8 ((xs0.drop s.off).take s.size)),E],h0,h2,h3,bH,bJ,Z,by omega,by rw[List.map_append,hps,List.map_singleton,List.take_add_one,List.map_append,hsd];rfl,fun w h y hy=>by rcases List.mem_append.1 hy with hy|hy;exact hE w (aS.1 h E (by simp)) y hy;rw[List.mem_singleton.1 hy];exact hxo w h,Hn⟩,by show nS+1- nv (.i (↑j+1))<nS+1- nv (ρ 81);rw[aK];simp only[nv];omega⟩
    ·
     refine aa (yv _ (bV hrb H2.keep) (hG.keep H2.keep fun k hk=>hk.elim) hNC hN (hr.keep0 H2.keep) (fun a ha=>Nat.lt_of_lt_of_le (hA a ha) H2.keep.size) (Nat.le_trans hw4 H2.keep.size) hof (bV hsb H2.keep) hlim bN (H2.keep.cell (cZ hsec (k:=3) Z) (aW _)) (H2.keep.cell (cZ hsec (k:=11) Z) (aW _)) (by omega) (by omega) hsz) ?_
     rintro e ds ⟨T,ev,rfl,cD⟩
     have cK:=H2.cal0 cD
     refine⟨_,Z,mv (.tuple #[.ns,.f T ev]) Z (we (.ns) Z Z (we (.f T ev) Z Z (av (.ns) Z (av (.f T ev) Z (wn ?_)))))⟩
     have H:=cK.drew
     refine dt MX (fun w'=>w'.cell? ⟨go,3,none⟩=some (.s A2 j c2)) (fun w'=>w'.cell? ⟨sg,0,none⟩=some (.str s.name)∧w'.cell? ⟨sg,1,none⟩=some (.str s.seg)∧w'.cell? ⟨sg,2,none⟩=some (.q s.addr)∧w'.cell? ⟨sg,3,none⟩=some (.q (↑s.size))∧w'.cell? ⟨sg,4,none⟩=some (.w (↑s.off))∧w'.cell? ⟨sg,5,none⟩=some (.w s.align)∧w'.cell? ⟨sg,6,none⟩=some (.w s.reloff)∧w'.cell? ⟨sg,7,none⟩=some (.w s.nreloc)∧w'.cell? ⟨sg,8,none⟩=some (.w s.flags)∧w'.cell? ⟨sg,9,none⟩=some (.s A5 n5 c5)) 66 (Pl.take 0 (Pl.takeS 1 (tr 2 50 (tr 53 4 (Pl.take 58 (Pl.take 60 (Pl.take 61 (Pl.run2 52 (Pl.run 57 (Pl.run 59 (Pl.take 62 (Pl.run 63 (Pl.run 64 (Pl.take 65 (Pl.run 66 Pl.done))))))) 57 (Pl.run2 52 (Pl.run 59 (Pl.take 62 (Pl.run 63 (Pl.run 64 (Pl.take 65 (Pl.run 66 Pl.done)))))) 59 (Pl.run 52 (Pl.take 62 (Pl.run 63 (Pl.run 64 (Pl.take 65 (Pl.run 66 Pl.done))))))))))))))) (by kernel_rfl) Z (H.c 2 3 Z Z) (⟨H.kb hsec Z,H.kb hsec Z,H.kb hsec Z,H.kb hsec Z,H.kb hsec Z,H.kb hsec Z,H.kb hsec Z,H.kb hsec Z,H.kb hsec Z,H.kb hsec Z⟩) (qy Z (ab (o:=0) jn h3) (qs Z Z (fun _ hS=>ag kL Z hS) (qm (.pt sg) Z Z (qy Z (ah Z) (qy Z (ab (o:=0) br Z) (qy Z (ab (o:=0) mW Z) (qh Z (fun hS=>ag dP Z hS.1) (qm (.pt sg) Z Z (qy Z (ah Z) (qy Z (ab (o:=0) br Z) (qy Z (ab (o:=0) mV Z) ?_)))))))))))
     refine qh Z (fun hS=>ag dP Z hS.2.1) (qm (.pt sg) Z Z (qy Z (ah Z) (qy Z (ab (o:=0) br Z) (qy Z (ab (o:=0) mU Z) (qh Z (fun hS=>ag aP Z hS.2.2.1) (qm (.pt sg) Z Z (qy Z (ah Z) (qy Z (ab (o:=0) br Z) (qy Z (ab (o:=0) iu Z) (qh Z (fun hS=>ag aP Z hS.2.2.2.1) (qm (.pt sg) Z Z ?_)))))))))))
     refine qy Z (ah Z) (qy Z (ab (o:=0) br Z) (qy Z (ab (o:=0) jH Z) (qh Z (fun hS=>ag ax Z hS.2.2.2.2.1) (qy Z (ao (c:= ↑s.off) bv be Z (aC (by omega) (by omega))) (qm (.pt sg) Z Z (qy Z (ah Z) (qy Z (ab (o:=0) br Z) (qy Z (ab (o:=0) mT Z) (qh Z (fun hS=>ag ax Z hS.2.2.2.2.2.1) (qy Z (ao (c:=s.align) bv be Z (aC hal.1 (by omega))) (qm (.pt sg) Z Z ?_)))))))))))
     refine qy Z (ah Z) (qy Z (ab (o:=0) br Z) (qy Z (ab (o:=0) kC Z) (qh Z (fun hS=>ag ax Z hS.2.2.2.2.2.2.1) (qy Z (ao (c:=s.reloff) bv be Z (aC hro.1 (by omega))) (qm (.pt sg) Z Z (qy Z (ah Z) (qy Z (ab (o:=0) br Z) (qy Z (ab (o:=0) gK Z) (qh Z (fun hS=>ag ax Z hS.2.2.2.2.2.2.2.1) (qy Z (ao (c:=s.nreloc) bv be Z (aC hnr.1 (by omega))) (qm (.pt sg) Z Z ?_)))))))))))
     refine qy Z (ah Z) (qy Z (ab (o:=0) br Z) (qy Z (ab (o:=0) mS Z) (qh Z (fun hS=>ag ax Z hS.2.2.2.2.2.2.2.2.1) (qy Z (ao (c:=s.flags) bv be Z (aC hfl.1 (by omega))) (qm (.pt sg) Z Z (qy Z (ah Z) (qy Z (ab (o:=0) lD Z) (qh Z (fun hS=>ag oI Z hS.2.2.2.2.2.2.2.2.2) (qm (.ns) Z Z (qm (.f T ev) Z Z (qt Z (fun _ hS=>(ep bI Z (.inr ⟨_,_,Z⟩):Yv _ _ _ _ (.b false) _)) ?_)))))))))))
     refine⟨?_,?_⟩
     ·
      refine po Z (eb H 43 [.q s.addr,.q (↑s.size),.q (↑s.off),.q s.align,.q s.reloff,.q s.nreloc,.q s.flags] Z (by kernel_rfl) (fun J du cQ X=>⟨⟨X.kb hsec Z,X.kb hsec Z,X.kb hsec Z,X.kb hsec Z,X.kb hsec Z,X.kb hsec Z,X.kb hsec Z,X.kb hsec Z,X.kb hsec Z,X.kb hsec Z⟩,fun _=>X.c 3 3 Z Z,qr Z (ec zD (args:= [.s A5 n5 c5]) Z (aa (j8 _ (hrel.keep0 X.keep) ck) ?_))⟩))
      rintro e dv ⟨v,rfl,bS⟩
      obtain⟨K,L,rfl,_,_⟩:=aw (bS.g 0 rfl)
      have a3:=X.cal0 bS
      refine⟨_,Z,⟨⟨a3.kb hsec Z,a3.kb hsec Z,a3.kb hsec Z,a3.kb hsec Z,a3.kb hsec Z,a3.kb hsec Z,a3.kb hsec Z,a3.kb hsec Z,a3.kb hsec Z,a3.kb hsec Z⟩,fun _=>a3.c 4 3 Z Z,qr Z (ec mf (args:= [.ns]) Z (aa (iV _) ?_))⟩⟩
      rintro e dw ⟨v,rfl,bT⟩
      obtain⟨M,O,rfl,_,_⟩:=aw (bT.g 0 rfl)
      have a4:=a3.cal0 bT
      refine⟨_,Z,⟨⟨a4.kb hsec Z,a4.kb hsec Z,a4.kb hsec Z,a4.kb hsec Z,a4.kb hsec Z,a4.kb hsec Z,a4.kb hsec Z,a4.kb hsec Z,a4.kb hsec Z,a4.kb hsec Z⟩,fun _=>a4.c 5 3 Z Z,qy Z (yb (ps:= [(0,.str s.name),(1,.str s.seg),(2,.sl J 0 7 7),(3,.s K n5 L),(4,.s M 0 O),(5,.b false)]) (cells:=#[.str s.name,.str s.seg,.sl J 0 7 7,.s K n5 L,.s M 0 O,.b false]) Z (by kernel_rfl)) (qr Z (kt a4 (ps:= [(0,.agg #[.str s.name,.str s.seg,.sl J 0 7 7,.s K n5 L,.s M 0 O,.b false])]) (e:=99) (cs:= [.str s.name,.str s.seg,.sl J 0 7 7,.s K n5 L,.s M 0 O,.b false]) Z (by kernel_rfl) (fun dx dz cR Y=>⟨⟨Y.kb hsec Z,Y.kb hsec Z,Y.kb hsec Z,Y.kb hsec Z,Y.kb hsec Z,Y.kb hsec Z,Y.kb hsec Z,Y.kb hsec Z,Y.kb hsec Z,Y.kb hsec Z⟩,fun _=>Y.c 6 3 Z Z,qr Z (bG Y 5 (m:=1) (news:= [.str s.name,.str s.seg,.sl J 0 7 7,.s K n5 L,.s M 0 O,.b false]) Z vR vT Z (by decide) Z Z Z (Y.news (i:=0) Z) (by simp[Value.oneCell']) (by simp only[maxLen];omega) (by omega) (fun d0 d1 af=> ?_))⟩)))⟩⟩
      obtain⟨bU,bW,rfl,_,_⟩:=aw (af.g 5 rfl)
      refine⟨⟨af.kb hsec Z,af.kb hsec Z,af.kb hsec Z,af.kb hsec Z,af.kb hsec Z,af.kb hsec Z,af.kb hsec Z,af.kb hsec Z,af.kb hsec Z,af.kb hsec Z⟩,fun _=>af.c 6 3 Z Z,qy Z (ab (o:=0) jn h3) (dJ Z (es af 6 3 (.s bU (j+1) bW) Z kL (fun cM aF=> ?_)))⟩
      refine⟨⟨aF.kb hsec Z,aF.kb hsec Z,aF.kb hsec Z,aF.kb hsec Z,aF.kb hsec Z,aF.kb hsec Z,aF.kb hsec Z,aF.kb hsec Z,aF.kb hsec Z,aF.kb hsec Z⟩,fun h=>absurd h (by decide),ca (ak (ac (ae (wv Z (aH (k:= .i64) (c:= ↑j+1) aK Z (a5 (by omega) (by omega))) (mi (↑j+1) Z (wn ?_))))))⟩
      have hcl:PartV.cells (PartV.mk (s.part N xs0) (.sl J 0 7 7) (.s K n5 L) (.s M 0 O))= [.str s.name,.str s.seg,.sl J 0 7 7,.s K n5 L,.s M 0 O,.b false]:=by simp[PartV.cells,SecD.part,hfit]
      have Hn:St w aR [Res.all [an J (nums .u64 (s.part N xs0).nums) 43,ay 101 7 (.s K n5 L) n5 (s.rels.flatMap Rel.cells),ay 5 1 (.s M 0 O) 0 ([]),E],ay 99 6 (.s bU (j+1) bW) (j+1) ((ps++ [(PartV.mk (s.part N xs0) (.sl J 0 7 7) (.s K n5 L) (.s M 0 O))]).flatMap PartV.cells),an go [.sl gh 0 7 7,.b I.big,.s A1 i c1,.s bU (j+1) bW,.ns,.ns] 54,Res.all [D,ay 96 4 (.s A1 i c1) i (xs.flatMap LoadV.cells),an gh (nums .u64 [I.h 0,I.h 1,I.h 2,I.h 3,I.h 4,I.h 5,I.h 6]) 43],an g1 [.ns,.b false,.ns,.ns,.ns,.ns] 54] cM:=by
       rw[List.flatMap_append,List.flatMap_singleton,hcl]
       exact aF.reAll [3,2,1,4] [5,6,7,8]
      have hxo: ∀w,(Res.all [an J (nums .u64 (s.part N xs0).nums) 43,ay 101 7 (.s K n5 L) n5 (s.rels.flatMap Rel.cells),ay 5 1 (.s M 0 O) 0 ([]),E]).φ w → PartV.ok w (PartV.mk (s.part N xs0) (.sl J 0 7 7) (.s K n5 L) (.s M 0 O)):=fun w h=>by
       have h:=aS.1 h
       refine⟨⟨_,_,_,Z,aj (h (an J (nums .u64 (s.part N xs0).nums) 43) (by simp)) Z⟩,?_,?_⟩
       · obtain⟨A,c,e,hv,_⟩:=aw (h (ay 101 7 (.s K n5 L) n5 (s.rels.flatMap Rel.cells)) (by simp));exact⟨A,_,c,e,hv⟩
       · obtain⟨A,c,e,hv,_⟩:=aw (h (ay 5 1 (.s M 0 O) 0 ([])) (by simp));exact⟨A,_,c,e,by have:=(show RV w A _ 1 (nums .u8 [])from hv).ri;simpa[SecD.part,hfit]using this⟩
      exact⟨⟨j+1,_,_,ps++ [(PartV.mk (s.part N xs0) (.sl J 0 7 7) (.s K n5 L) (.s M 0 O))],Res.all [an J (nums .u64 (s.part N xs0).nums) 43,ay 101 7 (.s K n5 L) n5 (s.rels.flatMap Rel.cells),ay 5 1 (.s M 0 O) 0 ([]),E],h0,h2,h3,bH,bJ,Z,by omega,by rw[List.map_append,hps,List.map_singleton,List.take_add_one,List.map_append,hsd];rfl,fun w h y hy=>by rcases List.mem_append.1 hy with hy|hy;exact hE w (aS.1 h E (by simp)) y hy;rw[List.mem_singleton.1 hy];exact hxo w h,Hn⟩,by show nS+1- nv (.i (↑j+1))<nS+1- nv (ρ 81);rw[aK];simp only[nv];omega⟩
     ·
      refine po Z (ec zD (args:= [.s A5 n5 c5]) Z (aa (j8 _ (hrel.keep0 H.keep) ck) ?_))
      rintro e d2 ⟨v,rfl,bX⟩
      obtain⟨d,r,rfl,_,_⟩:=aw (bX.g 0 rfl)
      have ai:=H.cal0 bX
      refine⟨_,Z,⟨⟨ai.kb hsec Z,ai.kb hsec Z,ai.kb hsec Z,ai.kb hsec Z,ai.kb hsec Z,ai.kb hsec Z,ai.kb hsec Z,ai.kb hsec Z,ai.kb hsec Z,ai.kb hsec Z⟩,fun _=>ai.c 3 3 Z Z,?_⟩⟩
      refine⟨?_,?_⟩
      ·
       refine po Z (eb ai 43 [.q s.addr,.q (↑s.size),.q (↑s.off),.q s.align,.q s.reloff,.q s.nreloc,.q s.flags] Z (by kernel_rfl) (fun P d3 cT a7=>⟨⟨a7.kb hsec Z,a7.kb hsec Z,a7.kb hsec Z,a7.kb hsec Z,a7.kb hsec Z,a7.kb hsec Z,a7.kb hsec Z,a7.kb hsec Z,a7.kb hsec Z,a7.kb hsec Z⟩,fun _=>a7.c 4 3 Z Z,qr Z (ec mf (args:= [.ns]) Z (aa (iV _) ?_))⟩))
       rintro e d4 ⟨v,rfl,bY⟩
       obtain⟨Q,R,rfl,_,_⟩:=aw (bY.g 0 rfl)
       have a8:=a7.cal0 bY
       refine⟨_,Z,⟨⟨a8.kb hsec Z,a8.kb hsec Z,a8.kb hsec Z,a8.kb hsec Z,a8.kb hsec Z,a8.kb hsec Z,a8.kb hsec Z,a8.kb hsec Z,a8.kb hsec Z,a8.kb hsec Z⟩,fun _=>a8.c 5 3 Z Z,qy Z (yb (ps:= [(0,.str s.name),(1,.str s.seg),(2,.sl P 0 7 7),(3,.s d n5 r),(4,.s Q 0 R),(5,.b false)]) (cells:=#[.str s.name,.str s.seg,.sl P 0 7 7,.s d n5 r,.s Q 0 R,.b false]) Z (by kernel_rfl)) (qr Z (kt a8 (ps:= [(0,.agg #[.str s.name,.str s.seg,.sl P 0 7 7,.s d n5 r,.s Q 0 R,.b false])]) (e:=99) (cs:= [.str s.name,.str s.seg,.sl P 0 7 7,.s d n5 r,.s Q 0 R,.b false]) Z (by kernel_rfl) (fun d5 d6 cU am=>⟨⟨am.kb hsec Z,am.kb hsec Z,am.kb hsec Z,am.kb hsec Z,am.kb hsec Z,am.kb hsec Z,am.kb hsec Z,am.kb hsec Z,am.kb hsec Z,am.kb hsec Z⟩,fun _=>am.c 6 3 Z Z,qr Z (bG am 5 (m:=1) (news:= [.str s.name,.str s.seg,.sl P 0 7 7,.s d n5 r,.s Q 0 R,.b false]) Z vR vT Z (by decide) Z Z Z (am.news (i:=0) Z) (by simp[Value.oneCell']) (by simp only[maxLen];omega) (by omega) (fun d7 d8 aq=> ?_))⟩)))⟩⟩
       obtain⟨bZ,cb,rfl,_,_⟩:=aw (aq.g 5 rfl)
       refine⟨⟨aq.kb hsec Z,aq.kb hsec Z,aq.kb hsec Z,aq.kb hsec Z,aq.kb hsec Z,aq.kb hsec Z,aq.kb hsec Z,aq.kb hsec Z,aq.kb hsec Z,aq.kb hsec Z⟩,fun _=>aq.c 6 3 Z Z,qy Z (ab (o:=0) jn h3) (dJ Z (es aq 6 3 (.s bZ (j+1) cb) Z kL (fun cN aG=> ?_)))⟩
       refine⟨⟨aG.kb hsec Z,aG.kb hsec Z,aG.kb hsec Z,aG.kb hsec Z,aG.kb hsec Z,aG.kb hsec Z,aG.kb hsec Z,aG.kb hsec Z,aG.kb hsec Z,aG.kb hsec Z⟩,fun h=>absurd h (by decide),ca (ak (ac (ae (wv Z (aH (k:= .i64) (c:= ↑j+1) aK Z (a5 (by omega) (by omega))) (mi (↑j+1) Z (wn ?_))))))⟩
       have hcl:PartV.cells (PartV.mk (s.part N xs0) (.sl P 0 7 7) (.s d n5 r) (.s Q 0 R))= [.str s.name,.str s.seg,.sl P 0 7 7,.s d n5 r,.s Q 0 R,.b false]:=by simp[PartV.cells,SecD.part,hfit]
       have Hn:St w aR [Res.all [an P (nums .u64 (s.part N xs0).nums) 43,ay 101 7 (.s d n5 r) n5 (s.rels.flatMap Rel.cells),ay 5 1 (.s Q 0 R) 0 ([]),E],ay 99 6 (.s bZ (j+1) cb) (j+1) ((ps++ [(PartV.mk (s.part N xs0) (.sl P 0 7 7) (.s d n5 r) (.s Q 0 R))]).flatMap PartV.cells),an go [.sl gh 0 7 7,.b I.big,.s A1 i c1,.s bZ (j+1) cb,.ns,.ns] 54,Res.all [D,ay 96 4 (.s A1 i c1) i (xs.flatMap LoadV.cells),an gh (nums .u64 [I.h 0,I.h 1,I.h 2,I.h 3,I.h 4,I.h 5,I.h 6]) 43],an g1 [.ns,.b false,.ns,.ns,.ns,.ns] 54] cN:=by
        rw[List.flatMap_append,List.flatMap_singleton,hcl]
        exact aG.reAll [2,3,1,4] [5,6,7,8]
       have hxo: ∀w,(Res.all [an P (nums .u64 (s.part N xs0).nums) 43,ay 101 7 (.s d n5 r) n5 (s.rels.flatMap Rel.cells),ay 5 1 (.s Q 0 R) 0 ([]),E]).φ w → PartV.ok w (PartV.mk (s.part N xs0) (.sl P 0 7 7) (.s d n5 r) (.s Q 0 R)):=fun w h=>by
        have h:=aS.1 h
        refine⟨⟨_,_,_,Z,aj (h (an P (nums .u64 (s.part N xs0).nums) 43) (by simp)) Z⟩,?_,?_⟩
        · obtain⟨A,c,e,hv,_⟩:=aw (h (ay 101 7 (.s d n5 r) n5 (s.rels.flatMap Rel.cells)) (by simp));exact⟨A,_,c,e,hv⟩
        · obtain⟨A,c,e,hv,_⟩:=aw (h (ay 5 1 (.s Q 0 R) 0 ([])) (by simp));exact⟨A,_,c,e,by have:=(show RV w A _ 1 (nums .u8 [])from hv).ri;simpa[SecD.part,hfit]using this⟩
       exact⟨⟨j+1,_,_,ps++ [(PartV.mk (s.part N xs0) (.sl P 0 7 7) (.s d n5 r) (.s Q 0 R))],Res.all [an P (nums .u64 (s.part N xs0).nums) 43,ay 101 7 (.s d n5 r) n5 (s.rels.flatMap Rel.cells),ay 5 1 (.s Q 0 R) 0 ([]),E],h0,h2,h3,bH,bJ,Z,by omega,by rw[List.map_append,hps,List.map_singleton,List.take_add_one,List.map_append,hsd];rfl,fun w h y hy=>by rcases List.mem_append.1 hy with hy|hy;exact hE w (aS.1 h E (by simp)) y hy;rw[List.mem_singleton.1 hy];exact hxo w h,Hn⟩,by show nS+1- nv (.i (↑j+1))<nS+1- nv (ρ 81);rw[aK];simp only[nv];omega⟩
      ·
       refine po Z (ec mf (args:= [.ns]) Z (aa (iV _) ?_))
       rintro e d9 ⟨v,rfl,cc⟩
       obtain⟨S,U,rfl,_,_⟩:=aw (cc.g 0 rfl)
       have a9:=ai.cal0 cc
       refine⟨_,Z,⟨⟨a9.kb hsec Z,a9.kb hsec Z,a9.kb hsec Z,a9.kb hsec Z,a9.kb hsec Z,a9.kb hsec Z,a9.kb hsec Z,a9.kb hsec Z,a9.kb hsec Z,a9.kb hsec Z⟩,fun _=>a9.c 4 3 Z Z,qr Z (eb a9 43 [.q s.addr,.q (↑s.size),.q (↑s.off),.q s.align,.q s.reloff,.q s.nreloc,.q s.flags] Z (by kernel_rfl) (fun V dA cV aD=>⟨⟨aD.kb hsec Z,aD.kb hsec Z,aD.kb hsec Z,aD.kb hsec Z,aD.kb hsec Z,aD.kb hsec Z,aD.kb hsec Z,aD.kb hsec Z,aD.kb hsec Z,aD.kb hsec Z⟩,fun _=>aD.c 5 3 Z Z,qy Z (yb (ps:= [(0,.str s.name),(1,.str s.seg),(2,.sl V 0 7 7),(3,.s d n5 r),(4,.s S 0 U),(5,.b false)]) (cells:=#[.str s.name,.str s.seg,.sl V 0 7 7,.s d n5 r,.s S 0 U,.b false]) Z (by kernel_rfl)) (qr Z (kt aD (ps:= [(0,.agg #[.str s.name,.str s.seg,.sl V 0 7 7,.s d n5 r,.s S 0 U,.b false])]) (e:=99) (cs:= [.str s.name,.str s.seg,.sl V 0 7 7,.s d n5 r,.s S 0 U,.b false]) Z (by kernel_rfl) (fun dB dC cW au=>⟨⟨au.kb hsec Z,au.kb hsec Z,au.kb hsec Z,au.kb hsec Z,au.kb hsec Z,au.kb hsec Z,au.kb hsec Z,au.kb hsec Z,au.kb hsec Z,au.kb hsec Z⟩,fun _=>au.c 6 3 Z Z,qr Z (bG au 5 (m:=1) (news:= [.str s.name,.str s.seg,.sl V 0 7 7,.s d n5 r,.s S 0 U,.b false]) Z vR vT Z (by decide) Z Z Z (au.news (i:=0) Z) (by simp[Value.oneCell']) (by simp only[maxLen];omega) (by omega) (fun dF dG a2=> ?_))⟩)))⟩))⟩⟩
       obtain⟨cd,ce,rfl,_,_⟩:=aw (a2.g 5 rfl)
       refine⟨⟨a2.kb hsec Z,a2.kb hsec Z,a2.kb hsec Z,a2.kb hsec Z,a2.kb hsec Z,a2.kb hsec Z,a2.kb hsec Z,a2.kb hsec Z,a2.kb hsec Z,a2.kb hsec Z⟩,fun _=>a2.c 6 3 Z Z,qy Z (ab (o:=0) jn h3) (dJ Z (es a2 6 3 (.s cd (j+1) ce) Z kL (fun cO aI=> ?_)))⟩
       refine⟨⟨aI.kb hsec Z,aI.kb hsec Z,aI.kb hsec Z,aI.kb hsec Z,aI.kb hsec Z,aI.kb hsec Z,aI.kb hsec Z,aI.kb hsec Z,aI.kb hsec Z,aI.kb hsec Z⟩,fun h=>absurd h (by decide),ca (ak (ac (ae (wv Z (aH (k:= .i64) (c:= ↑j+1) aK Z (a5 (by omega) (by omega))) (mi (↑j+1) Z (wn ?_))))))⟩
       have hcl:PartV.cells (PartV.mk (s.part N xs0) (.sl V 0 7 7) (.s d n5 r) (.s S 0 U))= [.str s.name,.str s.seg,.sl V 0 7 7,.s d n5 r,.s S 0 U,.b false]:=by simp[PartV.cells,SecD.part,hfit]
       have Hn:St w aR [Res.all [an V (nums .u64 (s.part N xs0).nums) 43,ay 101 7 (.s d n5 r) n5 (s.rels.flatMap Rel.cells),ay 5 1 (.s S 0 U) 0 ([]),E],ay 99 6 (.s cd (j+1) ce) (j+1) ((ps++ [(PartV.mk (s.part N xs0) (.sl V 0 7 7) (.s d n5 r) (.s S 0 U))]).flatMap PartV.cells),an go [.sl gh 0 7 7,.b I.big,.s A1 i c1,.s cd (j+1) ce,.ns,.ns] 54,Res.all [D,ay 96 4 (.s A1 i c1) i (xs.flatMap LoadV.cells),an gh (nums .u64 [I.h 0,I.h 1,I.h 2,I.h 3,I.h 4,I.h 5,I.h 6]) 43],an g1 [.ns,.b false,.ns,.ns,.ns,.ns] 54] cO:=by
        rw[List.flatMap_append,List.flatMap_singleton,hcl]
        exact aI.reAll [1,3,2,4] [5,6,7,8]
       have hxo: ∀w,(Res.all [an V (nums .u64 (s.part N xs0).nums) 43,ay 101 7 (.s d n5 r) n5 (s.rels.flatMap Rel.cells),ay 5 1 (.s S 0 U) 0 ([]),E]).φ w → PartV.ok w (PartV.mk (s.part N xs0) (.sl V 0 7 7) (.s d n5 r) (.s S 0 U)):=fun w h=>by
        have h:=aS.1 h
        refine⟨⟨_,_,_,Z,aj (h (an V (nums .u64 (s.part N xs0).nums) 43) (by simp)) Z⟩,?_,?_⟩
        · obtain⟨A,c,e,hv,_⟩:=aw (h (ay 101 7 (.s d n5 r) n5 (s.rels.flatMap Rel.cells)) (by simp));exact⟨A,_,c,e,hv⟩
        · obtain⟨A,c,e,hv,_⟩:=aw (h (ay 5 1 (.s S 0 U) 0 ([])) (by simp));exact⟨A,_,c,e,by have:=(show RV w A _ 1 (nums .u8 [])from hv).ri;simpa[SecD.part,hfit]using this⟩
       exact⟨⟨j+1,_,_,ps++ [(PartV.mk (s.part N xs0) (.sl V 0 7 7) (.s d n5 r) (.s S 0 U))],Res.all [an V (nums .u64 (s.part N xs0).nums) 43,ay 101 7 (.s d n5 r) n5 (s.rels.flatMap Rel.cells),ay 5 1 (.s S 0 U) 0 ([]),E],h0,h2,h3,bH,bJ,Z,by omega,by rw[List.map_append,hps,List.map_singleton,List.take_add_one,List.map_append,hsd];rfl,fun w h y hy=>by rcases List.mem_append.1 hy with hy|hy;exact hE w (aS.1 h E (by simp)) y hy;rw[List.mem_singleton.1 hy];exact hxo w h,Hn⟩,by show nS+1- nv (.i (↑j+1))<nS+1- nv (ρ 81);rw[aK];simp only[nv];omega⟩
   ·
    simp only[bx]at bM
    refine bq (ar (ar (aQ (ac (ad (ad ?_))))))
    have hjn:j=nS:=by omega
    rcases hsy with⟨rfl,hsy⟩|⟨gy,ny,cy,Ay,x0,x1,x2,x3,x4,x5,x6,rfl,hby,hry,hny⟩
    ·
     refine ae (mg h0 Z (wc Z (wf iw Z (wv Z (ag jK Z (H2.kb hfb Z)) (wv Z ((show Yv _ _ _ _ (.b false) _ from dD (p:=none) tK Z)) (wn (al Z (wk (ad (ad ?_))))))))))
     rcases hdy with⟨rfl,hdy⟩|⟨gz,nz,cz,az,z,q,rfl,hbz,hrz,hnz⟩
     ·
      refine ae (mg h0 Z (wc Z (wf jI Z (wv Z (ag kZ Z (H2.kb hfb Z)) (wv Z ((show Yv _ _ _ _ (.b false) _ from dD (p:=none) tJ Z)) (wn (al Z (wk (sr (wv Z (H2.loadA (i:=2) (vs:= [.sl gh 0 7 7,.b I.big,.s A1 i c1,.s A2 j c2,.ns,.ns]) Z o7 h3 Z Z) (ws ?_)))))))))))
      refine bE H2 4 (vs:= [.sl gh 0 7 7,.b I.big,.s A1 i c1,.s A2 j c2,.ns,.ns]) (m:=6) Z o1 h2 Z Z (nl Z) (by simp[Value.oneCell']) (cs':= [.sl gh 0 7 7,.b I.big,.s A1 i c1,.s A2 j c2,.ns,.ns]) Z (fun dH cr=> ?_)
      refine wn (aY ?_)
      exact⟨.inr Z,_,iK Z o7 (by exact h2) (cr.g 4 Z) Z,⟨[.sl gh 0 7 7,.b I.big,.s A1 i c1,.s A2 j c2,.ns,.ns],Res.all [E,ay 99 6 (.s A2 j c2) j (ps.flatMap PartV.cells),an go [.sl gh 0 7 7,.b I.big,.s A1 i c1,.s A2 j c2,.ns,.ns] 54,Res.all [D,ay 96 4 (.s A1 i c1) i (xs.flatMap LoadV.cells),an gh (nums .u64 [I.h 0,I.h 1,I.h 2,I.h 3,I.h 4,I.h 5,I.h 6]) 43],an g1 [.sl gh 0 7 7,.b I.big,.s A1 i c1,.s A2 j c2,.ns,.ns] 54],Z,cr.reAll [0,1,2,3,4] [],fun w hdd=>by have hdd:=aS.1 hdd;have aJ:=aS.1 (hdd (Res.all [D,ay 96 4 (.s A1 i c1) i (xs.flatMap LoadV.cells),an gh (nums .u64 [I.h 0,I.h 1,I.h 2,I.h 3,I.h 4,I.h 5,I.h 6]) 43]) (by simp));exact⟨_,_,_,_,_,xs,ps,Z,⟨_,_,_,Z,aj (aJ (an gh (nums .u64 [I.h 0,I.h 1,I.h 2,I.h 3,I.h 4,I.h 5,I.h 6]) 43) (by simp)) Z⟩,by obtain⟨A,c,e,hv,_⟩:=aw (aJ (ay 96 4 (.s A1 i c1) i (xs.flatMap LoadV.cells)) (by simp));exact⟨A,_,c,e,hv⟩,by rw[hxs,List.take_of_length_le (by have:=hL.1;omega)];rfl,hD _ (aJ D (by simp)),by obtain⟨A,c,e,hv,_⟩:=aw (hdd (ay 99 6 (.s A2 j c2) j (ps.flatMap PartV.cells)) (by simp));exact⟨A,_,c,e,hv⟩,by rw[hps,List.take_of_length_le (by have:=hS.1;simp at this;omega)];rfl,hE _ (hdd E (by simp)),⟨_,_,_,Z,by show RV _ _ _ _ (I.syms.flatMap Sym.cells);rw[hsy];exact RV.nil _ _ _⟩,⟨_,_,_,Z,by show RI _ _ _ _ I.ind;rw[hdy];exact RI.nil _ _ _⟩⟩⟩⟩
     ·
      refine ae (mg h0 Z (wc Z (wf jI Z (wv Z (ag kZ Z (H2.kb hfb Z)) (wv Z ((show Yv _ _ _ _ (.b true) _ from dD (p:=(some ⟨gz,0,none⟩)) tJ Z)) (wn (aB Z (ae (mg h0 Z (wc Z (wf jI Z ?_)))))))))))
      refine wv Z (ag kZ Z (H2.kb hfb Z)) (wc Z (wf qH Z (wv Z (ag eE Z (H2.kb hbz Z)) (wm Z (bG (H2.addRow 24 1) 0 (m:=nz) (a:=az) (news:=nums .u32 I.ind) Z tc vU Z (by decide) Z Z (by rw[bQ,hrz.1,Nat.mul_one]) (fun j u hj=>H2.keep.cell (by have:=hrz.src (a:=az) Z (l:=0) (m:=nz) (by omega) j u (by rw[List.drop_zero,List.take_of_length_le (by rw[hrz.1];omega)];exact hj);simpa[Addr.add]using this) (aW _)) fA (by simp only[maxLen];omega) (by omega) (fun v dI cf=> ?_))))))
      rw[Nat.zero_add,List.nil_append]at cf
      obtain⟨bk,bl,rfl,_,_⟩:=aw (cf.g 0 rfl)
      refine wv Z (ab o9 h3) (ws (es cf 3 5 (.s bk nz bl) Z eE (fun dK ct=> ?_)))
      refine wn (sr (wv Z (ct.loadA (i:=3) (vs:= [.sl gh 0 7 7,.b I.big,.s A1 i c1,.s A2 j c2,.ns,.s bk nz bl]) Z o7 h3 Z Z) (ws (bE ct 5 (vs:= [.sl gh 0 7 7,.b I.big,.s A1 i c1,.s A2 j c2,.ns,.s bk nz bl]) (m:=6) Z o1 h2 Z Z (nl Z) (by simp[Value.oneCell']) (cs':= [.sl gh 0 7 7,.b I.big,.s A1 i c1,.s A2 j c2,.ns,.s bk nz bl]) Z (fun dL cu=> ?_)))))
      refine wn (aY ?_)
      exact⟨.inr Z,_,iK Z o7 (by exact h2) (cu.g 5 Z) Z,⟨[.sl gh 0 7 7,.b I.big,.s A1 i c1,.s A2 j c2,.ns,.s bk nz bl],Res.all [ay 24 1 (.s bk nz bl) nz (nums .u32 I.ind),E,ay 99 6 (.s A2 j c2) j (ps.flatMap PartV.cells),an go [.sl gh 0 7 7,.b I.big,.s A1 i c1,.s A2 j c2,.ns,.s bk nz bl] 54,Res.all [D,ay 96 4 (.s A1 i c1) i (xs.flatMap LoadV.cells),an gh (nums .u64 [I.h 0,I.h 1,I.h 2,I.h 3,I.h 4,I.h 5,I.h 6]) 43],an g1 [.sl gh 0 7 7,.b I.big,.s A1 i c1,.s A2 j c2,.ns,.s bk nz bl] 54],Z,cu.reAll [0,1,2,3,4,5] [],fun w hdd=>by have hdd:=aS.1 hdd;have aJ:=aS.1 (hdd (Res.all [D,ay 96 4 (.s A1 i c1) i (xs.flatMap LoadV.cells),an gh (nums .u64 [I.h 0,I.h 1,I.h 2,I.h 3,I.h 4,I.h 5,I.h 6]) 43]) (by simp));exact⟨_,_,_,_,_,xs,ps,Z,⟨_,_,_,Z,aj (aJ (an gh (nums .u64 [I.h 0,I.h 1,I.h 2,I.h 3,I.h 4,I.h 5,I.h 6]) 43) (by simp)) Z⟩,by obtain⟨A,c,e,hv,_⟩:=aw (aJ (ay 96 4 (.s A1 i c1) i (xs.flatMap LoadV.cells)) (by simp));exact⟨A,_,c,e,hv⟩,by rw[hxs,List.take_of_length_le (by have:=hL.1;omega)];rfl,hD _ (aJ D (by simp)),by obtain⟨A,c,e,hv,_⟩:=aw (hdd (ay 99 6 (.s A2 j c2) j (ps.flatMap PartV.cells)) (by simp));exact⟨A,_,c,e,hv⟩,by rw[hps,List.take_of_length_le (by have:=hS.1;simp at this;omega)];rfl,hE _ (hdd E (by simp)),⟨_,_,_,Z,by show RV _ _ _ _ (I.syms.flatMap Sym.cells);rw[hsy];exact RV.nil _ _ _⟩,by obtain⟨A,c,e,hv,_⟩:=aw (hdd (ay 24 1 (.s bk nz bl) nz (nums .u32 I.ind)) (by simp));exact⟨A,_,c,e,hv.ri⟩⟩⟩⟩
    ·
     refine ae (mg h0 Z (wc Z (wf iw Z (wv Z (ag jK Z (H2.kb hfb Z)) (wv Z ((show Yv _ _ _ _ (.b true) _ from dD (p:=(some ⟨gy,0,none⟩)) tK Z)) (wn (aB Z (ae (mg h0 Z (wc Z (wf iw Z ?_)))))))))))
     refine wv Z (ag jK Z (H2.kb hfb Z)) (wc Z (wf lC Z (wv Z (ag oH Z (H2.kb hby Z)) (wE [.s Ay ny cy] CK46 Z Z (aa (rh _ (hry.keep0 H2.keep) hny) ?_)))))
     rintro e dM ⟨v,rfl,cg⟩
     obtain⟨F,G,rfl,_,_⟩:=aw (cg.g 0 rfl)
     have cP:=H2.cal0 cg
     refine⟨_,Z,wv Z (ab ti h3) (ws (es cP 3 4 (.s F ny G) Z ye (fun dN b2=> ?_)))⟩
     refine wn (ad (ad ?_))
     rcases hdy with⟨rfl,hdy⟩|⟨gz,nz,cz,az,z,q,rfl,hbz,hrz,hnz⟩
     ·
      refine ae (mg h0 Z (wc Z (wf jI Z (wv Z (ag kZ Z (b2.kb hfb Z)) (wv Z ((show Yv _ _ _ _ (.b false) _ from dD (p:=none) tJ Z)) (wn (al Z (wk (sr (wv Z (b2.loadA (i:=3) (vs:= [.sl gh 0 7 7,.b I.big,.s A1 i c1,.s A2 j c2,.s F ny G,.ns]) Z o7 h3 Z Z) (ws ?_)))))))))))
      refine bE b2 5 (vs:= [.sl gh 0 7 7,.b I.big,.s A1 i c1,.s A2 j c2,.s F ny G,.ns]) (m:=6) Z o1 h2 Z Z (nl Z) (by simp[Value.oneCell']) (cs':= [.sl gh 0 7 7,.b I.big,.s A1 i c1,.s A2 j c2,.s F ny G,.ns]) Z (fun dO cv=> ?_)
      refine wn (aY ?_)
      exact⟨.inr Z,_,iK Z o7 (by exact h2) (cv.g 5 Z) Z,⟨[.sl gh 0 7 7,.b I.big,.s A1 i c1,.s A2 j c2,.s F ny G,.ns],Res.all [ay 102 5 (.s F ny G) ny (I.syms.flatMap Sym.cells),E,ay 99 6 (.s A2 j c2) j (ps.flatMap PartV.cells),an go [.sl gh 0 7 7,.b I.big,.s A1 i c1,.s A2 j c2,.s F ny G,.ns] 54,Res.all [D,ay 96 4 (.s A1 i c1) i (xs.flatMap LoadV.cells),an gh (nums .u64 [I.h 0,I.h 1,I.h 2,I.h 3,I.h 4,I.h 5,I.h 6]) 43],an g1 [.sl gh 0 7 7,.b I.big,.s A1 i c1,.s A2 j c2,.s F ny G,.ns] 54],Z,cv.reAll [0,1,2,3,4,5] [],fun w hdd=>by have hdd:=aS.1 hdd;have aJ:=aS.1 (hdd (Res.all [D,ay 96 4 (.s A1 i c1) i (xs.flatMap LoadV.cells),an gh (nums .u64 [I.h 0,I.h 1,I.h 2,I.h 3,I.h 4,I.h 5,I.h 6]) 43]) (by simp));exact⟨_,_,_,_,_,xs,ps,Z,⟨_,_,_,Z,aj (aJ (an gh (nums .u64 [I.h 0,I.h 1,I.h 2,I.h 3,I.h 4,I.h 5,I.h 6]) 43) (by simp)) Z⟩,by obtain⟨A,c,e,hv,_⟩:=aw (aJ (ay 96 4 (.s A1 i c1) i (xs.flatMap LoadV.cells)) (by simp));exact⟨A,_,c,e,hv⟩,by rw[hxs,List.take_of_length_le (by have:=hL.1;omega)];rfl,hD _ (aJ D (by simp)),by obtain⟨A,c,e,hv,_⟩:=aw (hdd (ay 99 6 (.s A2 j c2) j (ps.flatMap PartV.cells)) (by simp));exact⟨A,_,c,e,hv⟩,by rw[hps,List.take_of_length_le (by have:=hS.1;simp at this;omega)];rfl,hE _ (hdd E (by simp)),by obtain⟨A,c,e,hv,_⟩:=aw (hdd (ay 102 5 (.s F ny G) ny (I.syms.flatMap Sym.cells)) (by simp));exact⟨A,_,c,e,hv⟩,⟨_,_,_,Z,by show RI _ _ _ _ I.ind;rw[hdy];exact RI.nil _ _ _⟩⟩⟩⟩
     ·
      refine ae (mg h0 Z (wc Z (wf jI Z (wv Z (ag kZ Z (b2.kb hfb Z)) (wv Z ((show Yv _ _ _ _ (.b true) _ from dD (p:=(some ⟨gz,0,none⟩)) tJ Z)) (wn (aB Z (ae (mg h0 Z (wc Z (wf jI Z ?_)))))))))))
      refine wv Z (ag kZ Z (b2.kb hfb Z)) (wc Z (wf qH Z (wv Z (ag eE Z (b2.kb hbz Z)) (wm Z (bG (b2.addRow 24 1) 0 (m:=nz) (a:=az) (news:=nums .u32 I.ind) Z tc vU Z (by decide) Z Z (by rw[bQ,hrz.1,Nat.mul_one]) (fun j u hj=>b2.keep.cell (by have:=hrz.src (a:=az) Z (l:=0) (m:=nz) (by omega) j u (by rw[List.drop_zero,List.take_of_length_le (by rw[hrz.1];omega)];exact hj);simpa[Addr.add]using this) (aW _)) fA (by simp only[maxLen];omega) (by omega) (fun v dQ ch=> ?_))))))
      rw[Nat.zero_add,List.nil_append]at ch
      obtain⟨bm,bn,rfl,_,_⟩:=aw (ch.g 0 rfl)
      refine wv Z (ab o9 h3) (ws (es ch 4 5 (.s bm nz bn) Z eE (fun dS cw=> ?_)))
      refine wn (sr (wv Z (cw.loadA (i:=4) (vs:= [.sl gh 0 7 7,.b I.big,.s A1 i c1,.s A2 j c2,.s F ny G,.s bm nz bn]) Z o7 h3 Z Z) (ws (bE cw 6 (vs:= [.sl gh 0 7 7,.b I.big,.s A1 i c1,.s A2 j c2,.s F ny G,.s bm nz bn]) (m:=6) Z o1 h2 Z Z (nl Z) (by simp[Value.oneCell']) (cs':= [.sl gh 0 7 7,.b I.big,.s A1 i c1,.s A2 j c2,.s F ny G,.s bm nz bn]) Z (fun dT cx=> ?_)))))
      refine wn (aY ?_)
      exact⟨.inr Z,_,iK Z o7 (by exact h2) (cx.g 6 Z) Z,⟨[.sl gh 0 7 7,.b I.big,.s A1 i c1,.s A2 j c2,.s F ny G,.s bm nz bn],Res.all [ay 24 1 (.s bm nz bn) nz (nums .u32 I.ind),ay 102 5 (.s F ny G) ny (I.syms.flatMap Sym.cells),E,ay 99 6 (.s A2 j c2) j (ps.flatMap PartV.cells),an go [.sl gh 0 7 7,.b I.big,.s A1 i c1,.s A2 j c2,.s F ny G,.s bm nz bn] 54,Res.all [D,ay 96 4 (.s A1 i c1) i (xs.flatMap LoadV.cells),an gh (nums .u64 [I.h 0,I.h 1,I.h 2,I.h 3,I.h 4,I.h 5,I.h 6]) 43],an g1 [.sl gh 0 7 7,.b I.big,.s A1 i c1,.s A2 j c2,.s F ny G,.s bm nz bn] 54],Z,cx.reAll [0,1,2,3,4,5,6] [],fun w hdd=>by have hdd:=aS.1 hdd;have aJ:=aS.1 (hdd (Res.all [D,ay 96 4 (.s A1 i c1) i (xs.flatMap LoadV.cells),an gh (nums .u64 [I.h 0,I.h 1,I.h 2,I.h 3,I.h 4,I.h 5,I.h 6]) 43]) (by simp));exact⟨_,_,_,_,_,xs,ps,Z,⟨_,_,_,Z,aj (aJ (an gh (nums .u64 [I.h 0,I.h 1,I.h 2,I.h 3,I.h 4,I.h 5,I.h 6]) 43) (by simp)) Z⟩,by obtain⟨A,c,e,hv,_⟩:=aw (aJ (ay 96 4 (.s A1 i c1) i (xs.flatMap LoadV.cells)) (by simp));exact⟨A,_,c,e,hv⟩,by rw[hxs,List.take_of_length_le (by have:=hL.1;omega)];rfl,hD _ (aJ D (by simp)),by obtain⟨A,c,e,hv,_⟩:=aw (hdd (ay 99 6 (.s A2 j c2) j (ps.flatMap PartV.cells)) (by simp));exact⟨A,_,c,e,hv⟩,by rw[hps,List.take_of_length_le (by have:=hS.1;simp at this;omega)];rfl,hE _ (hdd E (by simp)),by obtain⟨A,c,e,hv,_⟩:=aw (hdd (ay 102 5 (.s F ny G) ny (I.syms.flatMap Sym.cells)) (by simp));exact⟨A,_,c,e,hv⟩,by obtain⟨A,c,e,hv,_⟩:=aw (hdd (ay 24 1 (.s bm nz bn) nz (nums .u32 I.ind)) (by simp));exact⟨A,_,c,e,hv.ri⟩⟩⟩⟩
end Go.Proofs.YtlndedfkgiafhaaDoor
