import Derived.Test.YtlndedfkgiafhaaDoorXAC
set_option linter.unusedVariables false
set_option linter.unusedSimpArgs false
set_option maxRecDepth 100000
set_option maxHeartbeats 4000000
namespace Go.Proofs.YtlndedfkgiafhaaDoor
open Go Go.RowKit Go.Proofs
theorem jr:bg Tryd.prog 65:=aL (by kernel_rfl)
theorem zf:FA 162 0 0:=fa (by kernel_rfl)
theorem iG:dI Tryd.prog 139:=bN (by kernel_rfl)
theorem ze:FA 162 1 1:=fa (by kernel_rfl)
theorem ax:dI Tryd.prog 24:=bN (by kernel_rfl)
theorem mQ:FA 162 2 2:=fa (by kernel_rfl)
theorem zc:FA 167 0 0:=fa (by kernel_rfl)
theorem zb:FA 167 1 1:=fa (by kernel_rfl)
theorem mP:FA 167 2 2:=fa (by kernel_rfl)
theorem uD:FA 167 3 3:=fa (by kernel_rfl)
theorem uC:FA 167 4 4:=fa (by kernel_rfl)
theorem uB:FA 167 5 5:=fa (by kernel_rfl)
theorem uP:FA 141 0 0:=fa (by kernel_rfl)
theorem uO:FA 141 1 1:=fa (by kernel_rfl)
theorem kB:FA 141 2 2:=fa (by kernel_rfl)
theorem gJ:FA 141 3 3:=fa (by kernel_rfl)
theorem kA:FA 141 4 4:=fa (by kernel_rfl)
theorem k6:FA 141 5 5:=fa (by kernel_rfl)
theorem uM:FA 146 0 0:=fa (by kernel_rfl)
theorem uL:FA 146 1 1:=fa (by kernel_rfl)
theorem uK:FA 146 2 2:=fa (by kernel_rfl)
theorem uJ:FA 146 3 3:=fa (by kernel_rfl)
theorem uI:FA 146 4 4:=fa (by kernel_rfl)
theorem uH:FA 146 5 5:=fa (by kernel_rfl)
theorem mR:FA 146 6 6:=fa (by kernel_rfl)
theorem qI:FA 146 7 7:=fa (by kernel_rfl)
theorem uG:FA 146 8 8:=fa (by kernel_rfl)
theorem uF:FA 146 9 9:=fa (by kernel_rfl)
theorem rZ:FA 146 10 10:=fa (by kernel_rfl)
theorem rY:FA 146 11 11:=fa (by kernel_rfl)
theorem rX:FA 146 12 12:=fa (by kernel_rfl)
theorem rW:FA 146 13 13:=fa (by kernel_rfl)
theorem lB:FA 146 14 14:=fa (by kernel_rfl)
theorem jY:FA 146 15 15:=fa (by kernel_rfl)
theorem rV:FA 146 16 16:=fa (by kernel_rfl)
theorem rU:FA 146 17 17:=fa (by kernel_rfl)
theorem rT:FA 146 18 18:=fa (by kernel_rfl)
theorem rS:FA 146 19 19:=fa (by kernel_rfl)
theorem yZ:FA 177 0 0:=fa (by kernel_rfl)
theorem yY:FA 177 1 1:=fa (by kernel_rfl)
theorem u5:FA 177 2 2:=fa (by kernel_rfl)
theorem jQ:na Tryd.prog 175 16 5 1:=ox (by kernel_rfl)
theorem u0:FA 177 3 18:=fa (by kernel_rfl)
theorem uz:FA 177 4 19:=fa (by kernel_rfl)
theorem uy:FA 177 5 20:=fa (by kernel_rfl)
theorem ux:FA 177 6 21:=fa (by kernel_rfl)
theorem uw:FA 177 7 22:=fa (by kernel_rfl)
theorem uv:FA 177 8 23:=fa (by kernel_rfl)
theorem uu:FA 177 9 24:=fa (by kernel_rfl)
theorem rR:FA 177 10 25:=fa (by kernel_rfl)
theorem yW:FA 186 0 0:=fa (by kernel_rfl)
theorem yV:FA 186 1 1:=fa (by kernel_rfl)
theorem uh:FA 186 2 2:=fa (by kernel_rfl)
theorem tu:bg Tryd.prog 71:=aL (by kernel_rfl)
theorem ug:FA 186 3 18:=fa (by kernel_rfl)
theorem uf:FA 186 4 19:=fa (by kernel_rfl)
theorem ue:FA 186 5 20:=fa (by kernel_rfl)
theorem ud:FA 186 6 21:=fa (by kernel_rfl)
theorem uc:FA 186 7 22:=fa (by kernel_rfl)
theorem ub:FA 186 8 23:=fa (by kernel_rfl)
theorem ua:FA 186 9 24:=fa (by kernel_rfl)
theorem rQ:FA 186 10 25:=fa (by kernel_rfl)
theorem uq:FA 183 0 0:=fa (by kernel_rfl)
theorem up:FA 183 1 16:=fa (by kernel_rfl)
theorem uo:FA 183 2 32:=fa (by kernel_rfl)
theorem un:FA 183 3 33:=fa (by kernel_rfl)
theorem um:FA 183 4 34:=fa (by kernel_rfl)
theorem ul:FA 183 5 35:=fa (by kernel_rfl)
theorem uk:FA 183 6 36:=fa (by kernel_rfl)
theorem uj:FA 183 7 37:=fa (by kernel_rfl)
theorem ui:FA 183 8 38:=fa (by kernel_rfl)
theorem yX:FA 183 9 39:=fa (by kernel_rfl)
theorem xZ:FA 183 10 40:=fa (by kernel_rfl)
theorem tZ:FA 188 0 0:=fa (by kernel_rfl)
theorem tY:FA 188 1 16:=fa (by kernel_rfl)
theorem tX:FA 188 2 32:=fa (by kernel_rfl)
theorem tW:FA 188 3 33:=fa (by kernel_rfl)
theorem tV:FA 188 4 34:=fa (by kernel_rfl)
theorem tU:FA 188 5 35:=fa (by kernel_rfl)
theorem tT:FA 188 6 36:=fa (by kernel_rfl)
theorem tS:FA 188 7 37:=fa (by kernel_rfl)
theorem tR:FA 188 8 38:=fa (by kernel_rfl)
theorem yU:FA 188 9 39:=fa (by kernel_rfl)
theorem xY:FA 188 10 40:=fa (by kernel_rfl)
theorem xX:FA 188 11 41:=fa (by kernel_rfl)
theorem tP:FA 207 0 0:=fa (by kernel_rfl)
theorem tO:FA 207 1 1:=fa (by kernel_rfl)
theorem tN:FA 207 2 2:=fa (by kernel_rfl)
theorem tM:FA 207 3 3:=fa (by kernel_rfl)
theorem iF:dI Tryd.prog 27:=bN (by kernel_rfl)
theorem tL:FA 207 4 4:=fa (by kernel_rfl)
theorem jb:FA 205 0 0:=fa (by kernel_rfl)
theorem ja:FA 205 1 1:=fa (by kernel_rfl)
theorem iZ:FA 205 2 2:=fa (by kernel_rfl)
theorem iY:FA 205 3 3:=fa (by kernel_rfl)
theorem iX:FA 205 4 4:=fa (by kernel_rfl)
theorem gH:FA 214 0 0:=fa (by kernel_rfl)
theorem fG:FA 214 1 1:=fa (by kernel_rfl)
theorem i1:FA 114 0 0:=fa (by kernel_rfl)
theorem uT:FA 114 1 1:=fa (by kernel_rfl)
theorem yg:dI Tryd.prog 111:=bN (by kernel_rfl)
theorem uS:FA 114 2 2:=fa (by kernel_rfl)
theorem uR:FA 114 3 3:=fa (by kernel_rfl)
theorem yf:dI Tryd.prog 112:=bN (by kernel_rfl)
theorem mY:FA 114 4 4:=fa (by kernel_rfl)
theorem mX:FA 114 5 5:=fa (by kernel_rfl)
theorem uQ:FA 114 6 6:=fa (by kernel_rfl)
theorem rI(big:Bool){g o n c:Nat}{xs:List Int}(w:World)(hr:RI .u8 w (some ⟨g,o,none⟩) n xs)(hx:Byt xs)(hn:2≤n)(hc:n≤c):
 Calls Tryd.prog 64 #[.e (bo big),.sl g o n c] w fun e w'=>e= .returned (.h (n2 big xs))∧St w aR [] w':=by
 have hcell: ∀j,j<n → w.cell? ⟨g,o+j,none⟩=some (.e (xs.getD j 0)):=by
  obtain⟨g',o',e,h⟩:=hr.2 (by omega)
  simp only[Option.some.injEq,Addr.mk.injEq,and_true]at e
  obtain⟨rfl,rfl⟩:=e
  exact h
 cases big
 · exact jC w hcell hx hn hc
 · exact jV w hcell hx hn hc
theorem aM(big:Bool){g o n c:Nat}{xs:List Int}(w:World)(hr:RI .u8 w (some ⟨g,o,none⟩) n xs)(hx:Byt xs)(hn:4≤n)(hc:n≤c):
 Calls Tryd.prog 48 #[.e (bo big),.sl g o n c] w fun e w'=>e= .returned (.w (n4 big xs))∧St w aR [] w':=by
 have hcell: ∀j,j<n → w.cell? ⟨g,o+j,none⟩=some (.e (xs.getD j 0)):=by
  obtain⟨g',o',e,h⟩:=hr.2 (by omega)
  simp only[Option.some.injEq,Addr.mk.injEq,and_true]at e
  obtain⟨rfl,rfl⟩:=e
  exact h
 cases big
 · exact jB w hcell hx hn hc
 · exact jU w hcell hx hn hc
theorem iC(big:Bool){g o n c:Nat}{xs:List Int}(w:World)(hr:RI .u8 w (some ⟨g,o,none⟩) n xs)(hx:Byt xs)(hn:8≤n)(hc:n≤c):
 Calls Tryd.prog 71 #[.e (bo big),.sl g o n c] w fun e w'=>e= .returned (.q (n8 big xs))∧St w aR [] w':=by
 have hcell: ∀j,j<n → w.cell? ⟨g,o+j,none⟩=some (.e (xs.getD j 0)):=by
  obtain⟨g',o',e,h⟩:=hr.2 (by omega)
  simp only[Option.some.injEq,Addr.mk.injEq,and_true]at e
  obtain⟨rfl,rfl⟩:=e
  exact h
 cases big
 · exact qn w hcell hx hn hc
 · exact rH w hcell hx hn hc
theorem lZ{hb rb N C i:Nat}{A:Option Addr}{p:Int}{xs ys:List Int}{a0 a1:Addr}(big:Bool)(w:World)(hh:(an hb [.w 0,.w 0,.w 0] 162).φ w)(hrb:(an rb [.s A N C,.i (↑i),.i (p)] 190).φ w)(hG:Glob 224 w a0 a1)(hNC:N≤C)(hN63:N≤9223372036854775807)(hr:RI .u8 w A N xs)(hby0:Byt xs)(hA: ∀a,A=some a → a.block<w.heap.size∧a.block≠rb∧a.block≠hb)(hb4:4≤hb)(hw4:4≤w.heap.size)(h4:4≤rb)(hne:hb≠rb)(ho:i+12≤N)(hys:ys=(xs.drop i).take 12):
 Calls Tryd.prog 52 #[.pt hb,.f 109 (.pt rb),.e (bo big)] w fun e w'=>e= .returned .n∧St w (fun k=>k=hb∨k=rb) [an hb [.w (n4 big (ys.drop 0)),.w (n4 big (ys.drop 4)),.w (n4 big (ys.drop 8))] 162,an rb [.s A N C,.i (↑i+12),.i (-1)] 190] w':=by
 have hyl:ys.length=12:=by rw[hys,List.length_take,List.length_drop,hr.1];omega
 have hby:Byt ys:=by rw[hys];exact(hby0.drop _).take _
 refine aA (args:= [.pt hb,.f 109 (.pt rb),.e (bo big)]) Tryd.func52 Z Z Z ?_
 have H0:St _ _ [an hb [.w 0,.w 0,.w 0] 162,an rb [.s A N C,.i (↑i),.i p] 190] _:=((St.nil w (fun k=>k=hb∨k=rb)).add _ hrb (fun _ h=> .inr h) (by simp)).add _ hh (fun _ h=> .inl h) (by simp only[List.mem_singleton];rintro s rfl g h1 h2;exact hne (h1.symm.trans h2))
 refine sr (av (.n) Z (wn (sr (wm Z (bJ H0 (n:=12) (m:=12) bB fx Z Z Z Z Z (by omega) (by omega) (by omega) (fun g1 w2 b H3=>eL g1 0 12 12 Z (wn (ad (sr (mv (.f 109 (.pt rb)) Z (ms g1 0 12 12 Z ?_)))))))))))
 refine wE [.f 109 (.pt rb),.sl g1 0 12 12] jr Z Z ?_
 have hgw:w.heap.size≤g1:=Nat.le_trans H0.keep.size b
 have hbl:hb<w.heap.size:=aG hh
 have hrl:rb<w.heap.size:=aG hrb
 refine aa (ka _ (H3.g 2 Z) (hG.keep H3.keep (fun k hk=>by rcases hk with h|h<;>omega)) hN63 (H3.g 0 Z) (by omega) h4 (by omega) (hr.keep H3.keep fun a ha h=>by have:=hA a ha;rcases h with h|h<;>omega) (fun a ha=>by have:=hA a ha;omega) hNC (by simp) (by omega) (by omega) (by omega) ho) ?_
 rintro e w5 ⟨rfl,c⟩
 rw[←hys]at c
 have H6:=H3.ky 2 0 rfl rfl c (fun _ h=>h)
 refine⟨_,Z,mv (.tuple #[.i 12,.n]) Z (we (.i 12) Z Z (we (.n) Z Z (ai 12 Z (av (.n) Z (wn (sr (mv (.n) Z (wv Z ((nn false bI Z (.inl Z))) (wn (al Z ?_))))))))))⟩
 refine wk (sr (mp hb 0 Z (mv (.e (bo big)) Z (ms g1 0 12 12 Z (wv Z ((aq (l:=0) (h:=12) aZ Z (bs Z (by omega) Z) bn (by omega) (by omega) (by omega) Z:Yv _ _ _ _ (.sl g1 0 12 12) _)) (wE [.e (bo big),.sl g1 0 12 12] bW Z Z (aa (aM big _ ((aj (H6.g 1 Z) hyl).drop_ 0) (hby.drop 0) (by omega) (by omega)) ?_)))))))
 rintro e w8 ⟨rfl,r⟩
 have H9:=H6.cal0 r
 refine⟨_,Z,wc Z (wf zf Z (ws (es H9 2 0 (.w (n4 big (ys.drop 0))) Z iG (fun x d=> ?_))))⟩
 refine wn (sr (mp hb 0 Z (mv (.e (bo big)) Z (ms g1 0 12 12 Z (wv Z ((aq (l:=4) (h:=12) aZ Z (bs Z (by omega) Z) bn (by omega) (by omega) (by omega) Z:Yv _ _ _ _ (.sl g1 4 8 8) _)) (wE [.e (bo big),.sl g1 4 8 8] bW Z Z (aa (aM big _ ((aj (d.g 1 Z) hyl).drop_ 4) (hby.drop 4) (by omega) (by omega)) ?_)))))))
 rintro e y ⟨rfl,j⟩
 have t:=d.cal0 j
 refine⟨_,Z,wc Z (wf ze Z (ws (es t 2 1 (.w (n4 big (ys.drop 4))) Z ax (fun z o=> ?_))))⟩
 refine wn (sr (mp hb 0 Z (mv (.e (bo big)) Z (ms g1 0 12 12 Z (wv Z ((aq (l:=8) (h:=12) aZ Z (bs Z (by omega) Z) bn (by omega) (by omega) (by omega) Z:Yv _ _ _ _ (.sl g1 8 4 4) _)) (wE [.e (bo big),.sl g1 8 4 4] bW Z Z (aa (aM big _ ((aj (o.g 1 Z) hyl).drop_ 8) (hby.drop 8) (by omega) (by omega)) ?_)))))))
 rintro e B ⟨rfl,q⟩
 have u:=o.cal0 q
 refine⟨_,Z,wc Z (wf mQ Z (ws (es u 2 2 (.w (n4 big (ys.drop 8))) Z ax (fun D v=> ?_))))⟩
 refine wn (sr (av (.n) Z (wn (aY ?_))))
 exact⟨.inr Z,_,r1 (.n) Z _ _,⟨Z,(v.drop 1).perm (.swap ..)⟩⟩
theorem lL{hb rb N C i:Nat}{A:Option Addr}{p:Int}{xs ys:List Int}{a0 a1:Addr}(big:Bool)(w:World)(hh:(an hb [.w 0,.w 0,.w 0] 162).φ w)(hrb:(an rb [.s A N C,.i (↑i),.i (p)] 190).φ w)(hG:Glob 224 w a0 a1)(hNC:N≤C)(hN63:N≤9223372036854775807)(hr:RI .u8 w A N xs)(hby0:Byt xs)(hA: ∀a,A=some a → a.block<w.heap.size∧a.block≠rb∧a.block≠hb)(hb4:4≤hb)(hw4:4≤w.heap.size)(h4:4≤rb)(hne:hb≠rb)(ho:N<i+12):
 Calls Tryd.prog 52 #[.pt hb,.f 109 (.pt rb),.e (bo big)] w fun e w'=> ∃T v,e= .returned (.f T v)∧St w (fun k=>k=hb∨k=rb) [] w':=by
 refine aA (args:= [.pt hb,.f 109 (.pt rb),.e (bo big)]) Tryd.func52 Z Z Z ?_
 have H0:St _ _ [an hb [.w 0,.w 0,.w 0] 162,an rb [.s A N C,.i (↑i),.i p] 190] _:=((St.nil w (fun k=>k=hb∨k=rb)).add _ hrb (fun _ h=> .inr h) (by simp)).add _ hh (fun _ h=> .inl h) (by simp only[List.mem_singleton];rintro s rfl g h1 h2;exact hne (h1.symm.trans h2))
 refine sr (av (.n) Z (wn (sr (wm Z (bJ H0 (n:=12) (m:=12) bB fx Z Z Z Z Z (by omega) (by omega) (by omega) (fun g1 w2 b H3=>eL g1 0 12 12 Z (wn (ad (sr (mv (.f 109 (.pt rb)) Z (ms g1 0 12 12 Z ?_)))))))))))
 refine wE [.f 109 (.pt rb),.sl g1 0 12 12] jr Z Z ?_
 have hgw:w.heap.size≤g1:=Nat.le_trans H0.keep.size b
 have hbl:hb<w.heap.size:=aG hh
 have hrl:rb<w.heap.size:=aG hrb
 refine aa (kd _ (H3.g 2 Z) (hG.keep H3.keep (fun k hk=>by rcases hk with h|h<;>omega)) hN63 (H3.g 0 Z) (by omega) h4 (by omega) (hr.keep H3.keep fun a ha h=>by have:=hA a ha;rcases h with h|h<;>omega) (fun a ha=>by have:=hA a ha;omega) hNC (by simp) (by omega) (by omega) (by omega) ho) ?_
 rintro e w5 ⟨x,T,v,rfl,c⟩
 have H6:=H3.ky 2 0 rfl rfl c (fun _ h=>h)
 refine⟨_,Z,mv (.tuple #[x,.f T v]) Z (we x Z Z (we (.f T v) Z Z (av x Z (av (.f T v) Z (wn (sr (mv (.f T v) Z (wv Z ((nn true bI Z (.inr ⟨_,_,Z⟩))) (wn (aB Z ?_))))))))))⟩
 refine sr (mv (.f T v) Z (av (.f T v) Z (wn (rq ?_))))
 exact⟨.inr Z,_,r1 (.f T v) Z _ _,⟨_,_,Z,H6.sub (List.nil_sublist _)⟩⟩
theorem me{hb rb N C i:Nat}{A:Option Addr}{p:Int}{xs ys:List Int}{a0 a1:Addr}(big:Bool)(w:World)(hh:(an hb [.w 0,.w 0,.w 0,.w 0,.w 0,.w 0] 167).φ w)(hrb:(an rb [.s A N C,.i (↑i),.i (p)] 190).φ w)(hG:Glob 224 w a0 a1)(hNC:N≤C)(hN63:N≤9223372036854775807)(hr:RI .u8 w A N xs)(hby0:Byt xs)(hA: ∀a,A=some a → a.block<w.heap.size∧a.block≠rb∧a.block≠hb)(hb4:4≤hb)(hw4:4≤w.heap.size)(h4:4≤rb)(hne:hb≠rb)(ho:i+24≤N)(hys:ys=(xs.drop i).take 24):
 Calls Tryd.prog 54 #[.pt hb,.f 109 (.pt rb),.e (bo big)] w fun e w'=>e= .returned .n∧St w (fun k=>k=hb∨k=rb) [an hb [.w (n4 big (ys.drop 0)),.w (n4 big (ys.drop 4)),.w (n4 big (ys.drop 8)),.w (n4 big (ys.drop 12)),.w (n4 big (ys.drop 16)),.w (n4 big (ys.drop 20))] 167,an rb [.s A N C,.i (↑i+24),.i (-1)] 190] w':=by
 have hyl:ys.length=24:=by rw[hys,List.length_take,List.length_drop,hr.1];omega
 have hby:Byt ys:=by rw[hys];exact(hby0.drop _).take _
 refine aA (args:= [.pt hb,.f 109 (.pt rb),.e (bo big)]) Tryd.func54 Z Z Z ?_
 have H0:St _ _ [an hb [.w 0,.w 0,.w 0,.w 0,.w 0,.w 0] 167,an rb [.s A N C,.i (↑i),.i p] 190] _:=((St.nil w (fun k=>k=hb∨k=rb)).add _ hrb (fun _ h=> .inr h) (by simp)).add _ hh (fun _ h=> .inl h) (by simp only[List.mem_singleton];rintro s rfl g h1 h2;exact hne (h1.symm.trans h2))
 refine sr (av (.n) Z (wn (sr (wm Z (bJ H0 (n:=24) (m:=24) bB fx Z Z Z Z Z (by omega) (by omega) (by omega) (fun g1 w2 b H3=>eL g1 0 24 24 Z (wn (ad (sr (mv (.f 109 (.pt rb)) Z (ms g1 0 24 24 Z ?_)))))))))))
 refine wE [.f 109 (.pt rb),.sl g1 0 24 24] jr Z Z ?_
 have hgw:w.heap.size≤g1:=Nat.le_trans H0.keep.size b
 have hbl:hb<w.heap.size:=aG hh
 have hrl:rb<w.heap.size:=aG hrb
 refine aa (ka _ (H3.g 2 Z) (hG.keep H3.keep (fun k hk=>by rcases hk with h|h<;>omega)) hN63 (H3.g 0 Z) (by omega) h4 (by omega) (hr.keep H3.keep fun a ha h=>by have:=hA a ha;rcases h with h|h<;>omega) (fun a ha=>by have:=hA a ha;omega) hNC (by simp) (by omega) (by omega) (by omega) ho) ?_
 rintro e w5 ⟨rfl,c⟩
 rw[←hys]at c
 have H6:=H3.ky 2 0 rfl rfl c (fun _ h=>h)
 refine⟨_,Z,mv (.tuple #[.i 24,.n]) Z (we (.i 24) Z Z (we (.n) Z Z (ai 24 Z (av (.n) Z (wn (sr (mv (.n) Z (wv Z ((nn false bI Z (.inl Z))) (wn (al Z ?_))))))))))⟩
 refine wk (sr (mp hb 0 Z (mv (.e (bo big)) Z (ms g1 0 24 24 Z (wv Z ((aq (l:=0) (h:=24) aZ Z (bs Z (by omega) Z) bn (by omega) (by omega) (by omega) Z:Yv _ _ _ _ (.sl g1 0 24 24) _)) (wE [.e (bo big),.sl g1 0 24 24] bW Z Z (aa (aM big _ ((aj (H6.g 1 Z) hyl).drop_ 0) (hby.drop 0) (by omega) (by omega)) ?_)))))))
 rintro e w8 ⟨rfl,z⟩
 have H9:=H6.cal0 z
 refine⟨_,Z,wc Z (wf zc Z (ws (es H9 2 0 (.w (n4 big (ys.drop 0))) Z iG (fun I d=> ?_))))⟩
 refine wn (sr (mp hb 0 Z (mv (.e (bo big)) Z (ms g1 0 24 24 Z (wv Z ((aq (l:=4) (h:=24) aZ Z (bs Z (by omega) Z) bn (by omega) (by omega) (by omega) Z:Yv _ _ _ _ (.sl g1 4 20 20) _)) (wE [.e (bo big),.sl g1 4 20 20] bW Z Z (aa (aM big _ ((aj (d.g 1 Z) hyl).drop_ 4) (hby.drop 4) (by omega) (by omega)) ?_)))))))
 rintro e J ⟨rfl,j⟩
 have B:=d.cal0 j
 refine⟨_,Z,wc Z (wf zb Z (ws (es B 2 1 (.w (n4 big (ys.drop 4))) Z ax (fun K o=> ?_))))⟩
 refine wn (sr (mp hb 0 Z (mv (.e (bo big)) Z (ms g1 0 24 24 Z (wv Z ((aq (l:=8) (h:=24) aZ Z (bs Z (by omega) Z) bn (by omega) (by omega) (by omega) Z:Yv _ _ _ _ (.sl g1 8 16 16) _)) (wE [.e (bo big),.sl g1 8 16 16] bW Z Z (aa (aM big _ ((aj (o.g 1 Z) hyl).drop_ 8) (hby.drop 8) (by omega) (by omega)) ?_)))))))
 rintro e L ⟨rfl,q⟩
 have D:=o.cal0 q
 refine⟨_,Z,wc Z (wf mP Z (ws (es D 2 2 (.w (n4 big (ys.drop 8))) Z ax (fun M r=> ?_))))⟩
 refine wn (sr (mp hb 0 Z (mv (.e (bo big)) Z (ms g1 0 24 24 Z (wv Z ((aq (l:=12) (h:=24) aZ Z (bs Z (by omega) Z) bn (by omega) (by omega) (by omega) Z:Yv _ _ _ _ (.sl g1 12 12 12) _)) (wE [.e (bo big),.sl g1 12 12 12] bW Z Z (aa (aM big _ ((aj (r.g 1 Z) hyl).drop_ 12) (hby.drop 12) (by omega) (by omega)) ?_)))))))
 rintro e O ⟨rfl,t⟩
 have E:=r.cal0 t
 refine⟨_,Z,wc Z (wf uD Z (ws (es E 2 3 (.w (n4 big (ys.drop 12))) Z ax (fun P u=> ?_))))⟩
 refine wn (sr (mp hb 0 Z (mv (.e (bo big)) Z (ms g1 0 24 24 Z (wv Z ((aq (l:=16) (h:=24) aZ Z (bs Z (by omega) Z) bn (by omega) (by omega) (by omega) Z:Yv _ _ _ _ (.sl g1 16 8 8) _)) (wE [.e (bo big),.sl g1 16 8 8] bW Z Z (aa (aM big _ ((aj (u.g 1 Z) hyl).drop_ 16) (hby.drop 16) (by omega) (by omega)) ?_)))))))
 rintro e Q ⟨rfl,v⟩
 have F:=u.cal0 v
 refine⟨_,Z,wc Z (wf uC Z (ws (es F 2 4 (.w (n4 big (ys.drop 16))) Z ax (fun R x=> ?_))))⟩
 refine wn (sr (mp hb 0 Z (mv (.e (bo big)) Z (ms g1 0 24 24 Z (wv Z ((aq (l:=20) (h:=24) aZ Z (bs Z (by omega) Z) bn (by omega) (by omega) (by omega) Z:Yv _ _ _ _ (.sl g1 20 4 4) _)) (wE [.e (bo big),.sl g1 20 4 4] bW Z Z (aa (aM big _ ((aj (x.g 1 Z) hyl).drop_ 20) (hby.drop 20) (by omega) (by omega)) ?_)))))))
 rintro e S ⟨rfl,y⟩
 have G:=x.cal0 y
 refine⟨_,Z,wc Z (wf uB Z (ws (es G 2 5 (.w (n4 big (ys.drop 20))) Z ax (fun T H=> ?_))))⟩
 refine wn (sr (av (.n) Z (wn (aY ?_))))
 exact⟨.inr Z,_,r1 (.n) Z _ _,⟨Z,(H.drop 1).perm (.swap ..)⟩⟩
theorem lM{hb rb N C i:Nat}{A:Option Addr}{p:Int}{xs ys:List Int}{a0 a1:Addr}(big:Bool)(w:World)(hh:(an hb [.w 0,.w 0,.w 0,.w 0,.w 0,.w 0] 167).φ w)(hrb:(an rb [.s A N C,.i (↑i),.i (p)] 190).φ w)(hG:Glob 224 w a0 a1)(hNC:N≤C)(hN63:N≤9223372036854775807)(hr:RI .u8 w A N xs)(hby0:Byt xs)(hA: ∀a,A=some a → a.block<w.heap.size∧a.block≠rb∧a.block≠hb)(hb4:4≤hb)(hw4:4≤w.heap.size)(h4:4≤rb)(hne:hb≠rb)(ho:N<i+24):
 Calls Tryd.prog 54 #[.pt hb,.f 109 (.pt rb),.e (bo big)] w fun e w'=> ∃T v,e= .returned (.f T v)∧St w (fun k=>k=hb∨k=rb) [] w':=by
 refine aA (args:= [.pt hb,.f 109 (.pt rb),.e (bo big)]) Tryd.func54 Z Z Z ?_
 have H0:St _ _ [an hb [.w 0,.w 0,.w 0,.w 0,.w 0,.w 0] 167,an rb [.s A N C,.i (↑i),.i p] 190] _:=((St.nil w (fun k=>k=hb∨k=rb)).add _ hrb (fun _ h=> .inr h) (by simp)).add _ hh (fun _ h=> .inl h) (by simp only[List.mem_singleton];rintro s rfl g h1 h2;exact hne (h1.symm.trans h2))
 refine sr (av (.n) Z (wn (sr (wm Z (bJ H0 (n:=24) (m:=24) bB fx Z Z Z Z Z (by omega) (by omega) (by omega) (fun g1 w2 b H3=>eL g1 0 24 24 Z (wn (ad (sr (mv (.f 109 (.pt rb)) Z (ms g1 0 24 24 Z ?_)))))))))))
 refine wE [.f 109 (.pt rb),.sl g1 0 24 24] jr Z Z ?_
 have hgw:w.heap.size≤g1:=Nat.le_trans H0.keep.size b
 have hbl:hb<w.heap.size:=aG hh
 have hrl:rb<w.heap.size:=aG hrb
 refine aa (kd _ (H3.g 2 Z) (hG.keep H3.keep (fun k hk=>by rcases hk with h|h<;>omega)) hN63 (H3.g 0 Z) (by omega) h4 (by omega) (hr.keep H3.keep fun a ha h=>by have:=hA a ha;rcases h with h|h<;>omega) (fun a ha=>by have:=hA a ha;omega) hNC (by simp) (by omega) (by omega) (by omega) ho) ?_
 rintro e w5 ⟨x,T,v,rfl,c⟩
 have H6:=H3.ky 2 0 rfl rfl c (fun _ h=>h)
 refine⟨_,Z,mv (.tuple #[x,.f T v]) Z (we x Z Z (we (.f T v) Z Z (av x Z (av (.f T v) Z (wn (sr (mv (.f T v) Z (wv Z ((nn true bI Z (.inr ⟨_,_,Z⟩))) (wn (aB Z ?_))))))))))⟩
 refine sr (mv (.f T v) Z (av (.f T v) Z (wn (rq ?_))))
 exact⟨.inr Z,_,r1 (.f T v) Z _ _,⟨_,_,Z,H6.sub (List.nil_sublist _)⟩⟩
theorem jg{hb rb N C i:Nat}{A:Option Addr}{p:Int}{xs ys:List Int}{a0 a1:Addr}(big:Bool)(w:World)(hh:(an hb [.w 0,.w 0,.w 0,.w 0,.w 0,.w 0] 141).φ w)(hrb:(an rb [.s A N C,.i (↑i),.i (p)] 190).φ w)(hG:Glob 224 w a0 a1)(hNC:N≤C)(hN63:N≤9223372036854775807)(hr:RI .u8 w A N xs)(hby0:Byt xs)(hA: ∀a,A=some a → a.block<w.heap.size∧a.block≠rb∧a.block≠hb)(hb4:4≤hb)(hw4:4≤w.heap.size)(h4:4≤rb)(hne:hb≠rb)(ho:i+24≤N)(hys:ys=(xs.drop i).take 24):
 Calls Tryd.prog 55 #[.pt hb,.f 109 (.pt rb),.e (bo big)] w fun e w'=>e= .returned .n∧St w (fun k=>k=hb∨k=rb) [an hb [.w (n4 big (ys.drop 0)),.w (n4 big (ys.drop 4)),.w (n4 big (ys.drop 8)),.w (n4 big (ys.drop 12)),.w (n4 big (ys.drop 16)),.w (n4 big (ys.drop 20))] 141,an rb [.s A N C,.i (↑i+24),.i (-1)] 190] w':=by
 have hyl:ys.length=24:=by rw[hys,List.length_take,List.length_drop,hr.1];omega
 have hby:Byt ys:=by rw[hys];exact(hby0.drop _).take _
 refine aA (args:= [.pt hb,.f 109 (.pt rb),.e (bo big)]) Tryd.func55 Z Z Z ?_
 have H0:St _ _ [an hb [.w 0,.w 0,.w 0,.w 0,.w 0,.w 0] 141,an rb [.s A N C,.i (↑i),.i p] 190] _:=((St.nil w (fun k=>k=hb∨k=rb)).add _ hrb (fun _ h=> .inr h) (by simp)).add _ hh (fun _ h=> .inl h) (by simp only[List.mem_singleton];rintro s rfl g h1 h2;exact hne (h1.symm.trans h2))
 refine sr (av (.n) Z (wn (sr (wm Z (bJ H0 (n:=24) (m:=24) bB fx Z Z Z Z Z (by omega) (by omega) (by omega) (fun g1 w2 b H3=>eL g1 0 24 24 Z (wn (ad (sr (mv (.f 109 (.pt rb)) Z (ms g1 0 24 24 Z ?_)))))))))))
 refine wE [.f 109 (.pt rb),.sl g1 0 24 24] jr Z Z ?_
 have hgw:w.heap.size≤g1:=Nat.le_trans H0.keep.size b
 have hbl:hb<w.heap.size:=aG hh
 have hrl:rb<w.heap.size:=aG hrb
 refine aa (ka _ (H3.g 2 Z) (hG.keep H3.keep (fun k hk=>by rcases hk with h|h<;>omega)) hN63 (H3.g 0 Z) (by omega) h4 (by omega) (hr.keep H3.keep fun a ha h=>by have:=hA a ha;rcases h with h|h<;>omega) (fun a ha=>by have:=hA a ha;omega) hNC (by simp) (by omega) (by omega) (by omega) ho) ?_
 rintro e w5 ⟨rfl,c⟩
 rw[←hys]at c
 have H6:=H3.ky 2 0 rfl rfl c (fun _ h=>h)
 refine⟨_,Z,mv (.tuple #[.i 24,.n]) Z (we (.i 24) Z Z (we (.n) Z Z (ai 24 Z (av (.n) Z (wn (sr (mv (.n) Z (wv Z ((nn false bI Z (.inl Z))) (wn (al Z ?_))))))))))⟩
 refine wk (sr (mp hb 0 Z (mv (.e (bo big)) Z (ms g1 0 24 24 Z (wv Z ((aq (l:=0) (h:=24) aZ Z (bs Z (by omega) Z) bn (by omega) (by omega) (by omega) Z:Yv _ _ _ _ (.sl g1 0 24 24) _)) (wE [.e (bo big),.sl g1 0 24 24] bW Z Z (aa (aM big _ ((aj (H6.g 1 Z) hyl).drop_ 0) (hby.drop 0) (by omega) (by omega)) ?_)))))))
 rintro e w8 ⟨rfl,z⟩
 have H9:=H6.cal0 z
 refine⟨_,Z,wc Z (wf uP Z (ws (es H9 2 0 (.w (n4 big (ys.drop 0))) Z iG (fun I d=> ?_))))⟩
 refine wn (sr (mp hb 0 Z (mv (.e (bo big)) Z (ms g1 0 24 24 Z (wv Z ((aq (l:=4) (h:=24) aZ Z (bs Z (by omega) Z) bn (by omega) (by omega) (by omega) Z:Yv _ _ _ _ (.sl g1 4 20 20) _)) (wE [.e (bo big),.sl g1 4 20 20] bW Z Z (aa (aM big _ ((aj (d.g 1 Z) hyl).drop_ 4) (hby.drop 4) (by omega) (by omega)) ?_)))))))
 rintro e J ⟨rfl,j⟩
 have B:=d.cal0 j
 refine⟨_,Z,wc Z (wf uO Z (ws (es B 2 1 (.w (n4 big (ys.drop 4))) Z ax (fun K o=> ?_))))⟩
 refine wn (sr (mp hb 0 Z (mv (.e (bo big)) Z (ms g1 0 24 24 Z (wv Z ((aq (l:=8) (h:=24) aZ Z (bs Z (by omega) Z) bn (by omega) (by omega) (by omega) Z:Yv _ _ _ _ (.sl g1 8 16 16) _)) (wE [.e (bo big),.sl g1 8 16 16] bW Z Z (aa (aM big _ ((aj (o.g 1 Z) hyl).drop_ 8) (hby.drop 8) (by omega) (by omega)) ?_)))))))
 rintro e L ⟨rfl,q⟩
 have D:=o.cal0 q
 refine⟨_,Z,wc Z (wf kB Z (ws (es D 2 2 (.w (n4 big (ys.drop 8))) Z ax (fun M r=> ?_))))⟩
 refine wn (sr (mp hb 0 Z (mv (.e (bo big)) Z (ms g1 0 24 24 Z (wv Z ((aq (l:=12) (h:=24) aZ Z (bs Z (by omega) Z) bn (by omega) (by omega) (by omega) Z:Yv _ _ _ _ (.sl g1 12 12 12) _)) (wE [.e (bo big),.sl g1 12 12 12] bW Z Z (aa (aM big _ ((aj (r.g 1 Z) hyl).drop_ 12) (hby.drop 12) (by omega) (by omega)) ?_)))))))
 rintro e O ⟨rfl,t⟩
 have E:=r.cal0 t
 refine⟨_,Z,wc Z (wf gJ Z (ws (es E 2 3 (.w (n4 big (ys.drop 12))) Z ax (fun P u=> ?_))))⟩
 refine wn (sr (mp hb 0 Z (mv (.e (bo big)) Z (ms g1 0 24 24 Z (wv Z ((aq (l:=16) (h:=24) aZ Z (bs Z (by omega) Z) bn (by omega) (by omega) (by omega) Z:Yv _ _ _ _ (.sl g1 16 8 8) _)) (wE [.e (bo big),.sl g1 16 8 8] bW Z Z (aa (aM big _ ((aj (u.g 1 Z) hyl).drop_ 16) (hby.drop 16) (by omega) (by omega)) ?_)))))))
 rintro e Q ⟨rfl,v⟩
 have F:=u.cal0 v
 refine⟨_,Z,wc Z (wf kA Z (ws (es F 2 4 (.w (n4 big (ys.drop 16))) Z ax (fun R x=> ?_))))⟩
 refine wn (sr (mp hb 0 Z (mv (.e (bo big)) Z (ms g1 0 24 24 Z (wv Z ((aq (l:=20) (h:=24) aZ Z (bs Z (by omega) Z) bn (by omega) (by omega) (by omega) Z:Yv _ _ _ _ (.sl g1 20 4 4) _)) (wE [.e (bo big),.sl g1 20 4 4] bW Z Z (aa (aM big _ ((aj (x.g 1 Z) hyl).drop_ 20) (hby.drop 20) (by omega) (by omega)) ?_)))))))
 rintro e S ⟨rfl,y⟩
 have G:=x.cal0 y
 refine⟨_,Z,wc Z (wf k6 Z (ws (es G 2 5 (.w (n4 big (ys.drop 20))) Z ax (fun T H=> ?_))))⟩
 refine wn (sr (av (.n) Z (wn (aY ?_))))
 exact⟨.inr Z,_,r1 (.n) Z _ _,⟨Z,(H.drop 1).perm (.swap ..)⟩⟩
theorem iH{hb rb N C i:Nat}{A:Option Addr}{p:Int}{xs ys:List Int}{a0 a1:Addr}(big:Bool)(w:World)(hh:(an hb [.w 0,.w 0,.w 0,.w 0,.w 0,.w 0] 141).φ w)(hrb:(an rb [.s A N C,.i (↑i),.i (p)] 190).φ w)(hG:Glob 224 w a0 a1)(hNC:N≤C)(hN63:N≤9223372036854775807)(hr:RI .u8 w A N xs)(hby0:Byt xs)(hA: ∀a,A=some a → a.block<w.heap.size∧a.block≠rb∧a.block≠hb)(hb4:4≤hb)(hw4:4≤w.heap.size)(h4:4≤rb)(hne:hb≠rb)(ho:N<i+24):
 Calls Tryd.prog 55 #[.pt hb,.f 109 (.pt rb),.e (bo big)] w fun e w'=> ∃T v,e= .returned (.f T v)∧St w (fun k=>k=hb∨k=rb) [] w':=by
 refine aA (args:= [.pt hb,.f 109 (.pt rb),.e (bo big)]) Tryd.func55 Z Z Z ?_
 have H0:St _ _ [an hb [.w 0,.w 0,.w 0,.w 0,.w 0,.w 0] 141,an rb [.s A N C,.i (↑i),.i p] 190] _:=((St.nil w (fun k=>k=hb∨k=rb)).add _ hrb (fun _ h=> .inr h) (by simp)).add _ hh (fun _ h=> .inl h) (by simp only[List.mem_singleton];rintro s rfl g h1 h2;exact hne (h1.symm.trans h2))
 refine sr (av (.n) Z (wn (sr (wm Z (bJ H0 (n:=24) (m:=24) bB fx Z Z Z Z Z (by omega) (by omega) (by omega) (fun g1 w2 b H3=>eL g1 0 24 24 Z (wn (ad (sr (mv (.f 109 (.pt rb)) Z (ms g1 0 24 24 Z ?_)))))))))))
 refine wE [.f 109 (.pt rb),.sl g1 0 24 24] jr Z Z ?_
 have hgw:w.heap.size≤g1:=Nat.le_trans H0.keep.size b
 have hbl:hb<w.heap.size:=aG hh
 have hrl:rb<w.heap.size:=aG hrb
 refine aa (kd _ (H3.g 2 Z) (hG.keep H3.keep (fun k hk=>by rcases hk with h|h<;>omega)) hN63 (H3.g 0 Z) (by omega) h4 (by omega) (hr.keep H3.keep fun a ha h=>by have:=hA a ha;rcases h with h|h<;>omega) (fun a ha=>by have:=hA a ha;omega) hNC (by simp) (by omega) (by omega) (by omega) ho) ?_
 rintro e w5 ⟨x,T,v,rfl,c⟩
 have H6:=H3.ky 2 0 rfl rfl c (fun _ h=>h)
 refine⟨_,Z,mv (.tuple #[x,.f T v]) Z (we x Z Z (we (.f T v) Z Z (av x Z (av (.f T v) Z (wn (sr (mv (.f T v) Z (wv Z ((nn true bI Z (.inr ⟨_,_,Z⟩))) (wn (aB Z ?_))))))))))⟩
 refine sr (mv (.f T v) Z (av (.f T v) Z (wn (rq ?_))))
 exact⟨.inr Z,_,r1 (.f T v) Z _ _,⟨_,_,Z,H6.sub (List.nil_sublist _)⟩⟩
theorem kF{hb rb N C i:Nat}{A:Option Addr}{p:Int}{xs ys:List Int}{a0 a1:Addr}(big:Bool)(w:World)(hh:(an hb [.w 0,.w 0,.w 0,.w 0,.w 0,.w 0,.w 0,.w 0,.w 0,.w 0,.w 0,.w 0,.w 0,.w 0,.w 0,.w 0,.w 0,.w 0,.w 0,.w 0] 146).φ w)(hrb:(an rb [.s A N C,.i (↑i),.i (p)] 190).φ w)(hG:Glob 224 w a0 a1)(hNC:N≤C)(hN63:N≤9223372036854775807)(hr:RI .u8 w A N xs)(hby0:Byt xs)(hA: ∀a,A=some a → a.block<w.heap.size∧a.block≠rb∧a.block≠hb)(hb4:4≤hb)(hw4:4≤w.heap.size)(h4:4≤rb)(hne:hb≠rb)(ho:i+80≤N)(hys:ys=(xs.drop i).take 80):
 Calls Tryd.prog 57 #[.pt hb,.f 109 (.pt rb),.e (bo big)] w fun e w'=>e= .returned .n∧St w (fun k=>k=hb∨k=rb) [an hb [.w (n4 big (ys.drop 0)),.w (n4 big (ys.drop 4)),.w (n4 big (ys.drop 8)),.w (n4 big (ys.drop 12)),.w (n4 big (ys.drop 16)),.w (n4 big (ys.drop 20)),.w (n4 big (ys.drop 24)),.w (n4 big (ys.drop 28)),.w (n4 big (ys.drop 32)),.w (n4 big (ys.drop 36)),.w (n4 big (ys.drop 40)),.w (n4 big (ys.drop 44)),.w (n4 big (ys.drop 48)),.w (n4 big (ys.drop 52)),.w (n4 big (ys.drop 56)),.w (n4 big (ys.drop 60)),.w (n4 big (ys.drop 64)),.w (n4 big (ys.drop 68)),.w (n4 big (ys.drop 72)),.w (n4 big (ys.drop 76))] 146,an rb [.s A N C,.i (↑i+80),.i (-1)] 190] w':=by
 have hyl:ys.length=80:=by rw[hys,List.length_take,List.length_drop,hr.1];omega
 have hby:Byt ys:=by rw[hys];exact(hby0.drop _).take _
 refine aA (args:= [.pt hb,.f 109 (.pt rb),.e (bo big)]) Tryd.func57 Z Z Z ?_
 have H0:St _ _ [an hb [.w 0,.w 0,.w 0,.w 0,.w 0,.w 0,.w 0,.w 0,.w 0,.w 0,.w 0,.w 0,.w 0,.w 0,.w 0,.w 0,.w 0,.w 0,.w 0,.w 0] 146,an rb [.s A N C,.i (↑i),.i p] 190] _:=((St.nil w (fun k=>k=hb∨k=rb)).add _ hrb (fun _ h=> .inr h) (by simp)).add _ hh (fun _ h=> .inl h) (by simp only[List.mem_singleton];rintro s rfl g h1 h2;exact hne (h1.symm.trans h2))
 refine sr (av (.n) Z (wn (sr (wm Z (bJ H0 (n:=80) (m:=80) bB fx Z Z Z Z Z (by omega) (by omega) (by omega) (fun g1 w2 d H3=>eL g1 0 80 80 Z (wn (ad (sr (mv (.f 109 (.pt rb)) Z (ms g1 0 80 80 Z ?_)))))))))))
 refine wE [.f 109 (.pt rb),.sl g1 0 80 80] jr Z Z ?_
 have hgw:w.heap.size≤g1:=Nat.le_trans H0.keep.size d
 have hbl:hb<w.heap.size:=aG hh
 have hrl:rb<w.heap.size:=aG hrb
 refine aa (ka _ (H3.g 2 Z) (hG.keep H3.keep (fun k hk=>by rcases hk with h|h<;>omega)) hN63 (H3.g 0 Z) (by omega) h4 (by omega) (hr.keep H3.keep fun a ha h=>by have:=hA a ha;rcases h with h|h<;>omega) (fun a ha=>by have:=hA a ha;omega) hNC (by simp) (by omega) (by omega) (by omega) ho) ?_
 rintro e w5 ⟨rfl,j⟩
 rw[←hys]at j
 have H6:=H3.ky 2 0 rfl rfl j (fun _ h=>h)
 refine⟨_,Z,mv (.tuple #[.i 80,.n]) Z (we (.i 80) Z Z (we (.n) Z Z (ai 80 Z (av (.n) Z (wn (sr (mv (.n) Z (wv Z ((nn false bI Z (.inl Z))) (wn (al Z ?_))))))))))⟩
 refine wk (sr (mp hb 0 Z (mv (.e (bo big)) Z (ms g1 0 80 80 Z (wv Z ((aq (l:=0) (h:=80) aZ Z (bs Z (by omega) Z) bn (by omega) (by omega) (by omega) Z:Yv _ _ _ _ (.sl g1 0 80 80) _)) (wE [.e (bo big),.sl g1 0 80 80] bW Z Z (aa (aM big _ ((aj (H6.g 1 Z) hyl).drop_ 0) (hby.drop 0) (by omega) (by omega)) ?_)))))))
 rintro e w8 ⟨rfl,am⟩
 have H9:=H6.cal0 am
 refine⟨_,Z,wc Z (wf uM Z (ws (es H9 2 0 (.w (n4 big (ys.drop 0))) Z iG (fun aI o=> ?_))))⟩
 refine wn (sr (mp hb 0 Z (mv (.e (bo big)) Z (ms g1 0 80 80 Z (wv Z ((aq (l:=4) (h:=80) aZ Z (bs Z (by omega) Z) bn (by omega) (by omega) (by omega) Z:Yv _ _ _ _ (.sl g1 4 76 76) _)) (wE [.e (bo big),.sl g1 4 76 76] bW Z Z (aa (aM big _ ((aj (o.g 1 Z) hyl).drop_ 4) (hby.drop 4) (by omega) (by omega)) ?_)))))))
 rintro e aJ ⟨rfl,q⟩
 have ao:=o.cal0 q
 refine⟨_,Z,wc Z (wf uL Z (ws (es ao 2 1 (.w (n4 big (ys.drop 4))) Z ax (fun aK r=> ?_))))⟩
 refine wn (sr (mp hb 0 Z (mv (.e (bo big)) Z (ms g1 0 80 80 Z (wv Z ((aq (l:=8) (h:=80) aZ Z (bs Z (by omega) Z) bn (by omega) (by omega) (by omega) Z:Yv _ _ _ _ (.sl g1 8 72 72) _)) (wE [.e (bo big),.sl g1 8 72 72] bW Z Z (aa (aM big _ ((aj (r.g 1 Z) hyl).drop_ 8) (hby.drop 8) (by omega) (by omega)) ?_)))))))
 rintro e aL ⟨rfl,t⟩
 have ap:=r.cal0 t
 refine⟨_,Z,wc Z (wf uK Z (ws (es ap 2 2 (.w (n4 big (ys.drop 8))) Z ax (fun aN u=> ?_))))⟩
 refine wn (sr (mp hb 0 Z (mv (.e (bo big)) Z (ms g1 0 80 80 Z (wv Z ((aq (l:=12) (h:=80) aZ Z (bs Z (by omega) Z) bn (by omega) (by omega) (by omega) Z:Yv _ _ _ _ (.sl g1 12 68 68) _)) (wE [.e (bo big),.sl g1 12 68 68] bW Z Z (aa (aM big _ ((aj (u.g 1 Z) hyl).drop_ 12) (hby.drop 12) (by omega) (by omega)) ?_)))))))
 rintro e aO ⟨rfl,v⟩
 have ar:=u.cal0 v
 refine⟨_,Z,wc Z (wf uJ Z (ws (es ar 2 3 (.w (n4 big (ys.drop 12))) Z ax (fun aP x=> ?_))))⟩
 refine wn (sr (mp hb 0 Z (mv (.e (bo big)) Z (ms g1 0 80 80 Z (wv Z ((aq (l:=16) (h:=80) aZ Z (bs Z (by omega) Z) bn (by omega) (by omega) (by omega) Z:Yv _ _ _ _ (.sl g1 16 64 64) _)) (wE [.e (bo big),.sl g1 16 64 64] bW Z Z (aa (aM big _ ((aj (x.g 1 Z) hyl).drop_ 16) (hby.drop 16) (by omega) (by omega)) ?_)))))))
 rintro e aQ ⟨rfl,y⟩
 have au:=x.cal0 y
 refine⟨_,Z,wc Z (wf uI Z (ws (es au 2 4 (.w (n4 big (ys.drop 16))) Z ax (fun aR z=> ?_))))⟩
 refine wn (sr (mp hb 0 Z (mv (.e (bo big)) Z (ms g1 0 80 80 Z (wv Z ((aq (l:=20) (h:=80) aZ Z (bs Z (by omega) Z) bn (by omega) (by omega) (by omega) Z:Yv _ _ _ _ (.sl g1 20 60 60) _)) (wE [.e (bo big),.sl g1 20 60 60] bW Z Z (aa (aM big _ ((aj (z.g 1 Z) hyl).drop_ 20) (hby.drop 20) (by omega) (by omega)) ?_)))))))
 rintro e aS ⟨rfl,B⟩
 have aw:=z.cal0 B
 refine⟨_,Z,wc Z (wf uH Z (ws (es aw 2 5 (.w (n4 big (ys.drop 20))) Z ax (fun aT D=> ?_))))⟩
 refine wn (sr (mp hb 0 Z (mv (.e (bo big)) Z (ms g1 0 80 80 Z (wv Z ((aq (l:=24) (h:=80) aZ Z (bs Z (by omega) Z) bn (by omega) (by omega) (by omega) Z:Yv _ _ _ _ (.sl g1 24 56 56) _)) (wE [.e (bo big),.sl g1 24 56 56] bW Z Z (aa (aM big _ ((aj (D.g 1 Z) hyl).drop_ 24) (hby.drop 24) (by omega) (by omega)) ?_)))))))
 rintro e aU ⟨rfl,E⟩
 have ay:=D.cal0 E
 refine⟨_,Z,wc Z (wf mR Z (ws (es ay 2 6 (.w (n4 big (ys.drop 24))) Z ax (fun aV F=> ?_))))⟩
 refine wn (sr (mp hb 0 Z (mv (.e (bo big)) Z (ms g1 0 80 80 Z (wv Z ((aq (l:=28) (h:=80) aZ Z (bs Z (by omega) Z) bn (by omega) (by omega) (by omega) Z:Yv _ _ _ _ (.sl g1 28 52 52) _)) (wE [.e (bo big),.sl g1 28 52 52] bW Z Z (aa (aM big _ ((aj (F.g 1 Z) hyl).drop_ 28) (hby.drop 28) (by omega) (by omega)) ?_)))))))
 rintro e aW ⟨rfl,G⟩
 have az:=F.cal0 G
 refine⟨_,Z,wc Z (wf qI Z (ws (es az 2 7 (.w (n4 big (ys.drop 28))) Z ax (fun aX H=> ?_))))⟩
 refine wn (sr (mp hb 0 Z (mv (.e (bo big)) Z (ms g1 0 80 80 Z (wv Z ((aq (l:=32) (h:=80) aZ Z (bs Z (by omega) Z) bn (by omega) (by omega) (by omega) Z:Yv _ _ _ _ (.sl g1 32 48 48) _)) (wE [.e (bo big),.sl g1 32 48 48] bW Z Z (aa (aM big _ ((aj (H.g 1 Z) hyl).drop_ 32) (hby.drop 32) (by omega) (by omega)) ?_)))))))
 rintro e ba ⟨rfl,I⟩
 have a2:=H.cal0 I
 refine⟨_,Z,wc Z (wf uG Z (ws (es a2 2 8 (.w (n4 big (ys.drop 32))) Z ax (fun bb J=> ?_))))⟩
 refine wn (sr (mp hb 0 Z (mv (.e (bo big)) Z (ms g1 0 80 80 Z (wv Z ((aq (l:=36) (h:=80) aZ Z (bs Z (by omega) Z) bn (by omega) (by omega) (by omega) Z:Yv _ _ _ _ (.sl g1 36 44 44) _)) (wE [.e (bo big),.sl g1 36 44 44] bW Z Z (aa (aM big _ ((aj (J.g 1 Z) hyl).drop_ 36) (hby.drop 36) (by omega) (by omega)) ?_)))))))
 rintro e bc ⟨rfl,K⟩
 have a3:=J.cal0 K
 refine⟨_,Z,wc Z (wf uF Z (ws (es a3 2 9 (.w (n4 big (ys.drop 36))) Z ax (fun bd L=> ?_))))⟩
 refine wn (sr (mp hb 0 Z (mv (.e (bo big)) Z (ms g1 0 80 80 Z (wv Z ((aq (l:=40) (h:=80) aZ Z (bs Z (by omega) Z) bn (by omega) (by omega) (by omega) Z:Yv _ _ _ _ (.sl g1 40 40 40) _)) (wE [.e (bo big),.sl g1 40 40 40] bW Z Z (aa (aM big _ ((aj (L.g 1 Z) hyl).drop_ 40) (hby.drop 40) (by omega) (by omega)) ?_)))))))
 rintro e be ⟨rfl,M⟩
 have a4:=L.cal0 M
 refine⟨_,Z,wc Z (wf rZ Z (ws (es a4 2 10 (.w (n4 big (ys.drop 40))) Z ax (fun bf O=> ?_))))⟩
 refine wn (sr (mp hb 0 Z (mv (.e (bo big)) Z (ms g1 0 80 80 Z (wv Z ((aq (l:=44) (h:=80) aZ Z (bs Z (by omega) Z) bn (by omega) (by omega) (by omega) Z:Yv _ _ _ _ (.sl g1 44 36 36) _)) (wE [.e (bo big),.sl g1 44 36 36] bW Z Z (aa (aM big _ ((aj (O.g 1 Z) hyl).drop_ 44) (hby.drop 44) (by omega) (by omega)) ?_)))))))
 rintro e bg ⟨rfl,P⟩
 have a5:=O.cal0 P
 refine⟨_,Z,wc Z (wf rY Z (ws (es a5 2 11 (.w (n4 big (ys.drop 44))) Z ax (fun bh Q=> ?_))))⟩
 refine wn (sr (mp hb 0 Z (mv (.e (bo big)) Z (ms g1 0 80 80 Z (wv Z ((aq (l:=48) (h:=80) aZ Z (bs Z (by omega) Z) bn (by omega) (by omega) (by omega) Z:Yv _ _ _ _ (.sl g1 48 32 32) _)) (wE [.e (bo big),.sl g1 48 32 32] bW Z Z (aa (aM big _ ((aj (Q.g 1 Z) hyl).drop_ 48) (hby.drop 48) (by omega) (by omega)) ?_)))))))
 rintro e bi ⟨rfl,R⟩
 have a6:=Q.cal0 R
 refine⟨_,Z,wc Z (wf rX Z (ws (es a6 2 12 (.w (n4 big (ys.drop 48))) Z ax (fun bj S=> ?_))))⟩
 refine wn (sr (mp hb 0 Z (mv (.e (bo big)) Z (ms g1 0 80 80 Z (wv Z ((aq (l:=52) (h:=80) aZ Z (bs Z (by omega) Z) bn (by omega) (by omega) (by omega) Z:Yv _ _ _ _ (.sl g1 52 28 28) _)) (wE [.e (bo big),.sl g1 52 28 28] bW Z Z (aa (aM big _ ((aj (S.g 1 Z) hyl).drop_ 52) (hby.drop 52) (by omega) (by omega)) ?_)))))))
 rintro e bk ⟨rfl,T⟩
 have a7:=S.cal0 T
 refine⟨_,Z,wc Z (wf rW Z (ws (es a7 2 13 (.w (n4 big (ys.drop 52))) Z ax (fun bl U=> ?_))))⟩
 refine wn (sr (mp hb 0 Z (mv (.e (bo big)) Z (ms g1 0 80 80 Z (wv Z ((aq (l:=56) (h:=80) aZ Z (bs Z (by omega) Z) bn (by omega) (by omega) (by omega) Z:Yv _ _ _ _ (.sl g1 56 24 24) _)) (wE [.e (bo big),.sl g1 56 24 24] bW Z Z (aa (aM big _ ((aj (U.g 1 Z) hyl).drop_ 56) (hby.drop 56) (by omega) (by omega)) ?_)))))))
 rintro e bm ⟨rfl,V⟩
 have a8:=U.cal0 V
 refine⟨_,Z,wc Z (wf lB Z (ws (es a8 2 14 (.w (n4 big (ys.drop 56))) Z ax (fun bp W=> ?_))))⟩
 refine wn (sr (mp hb 0 Z (mv (.e (bo big)) Z (ms g1 0 80 80 Z (wv Z ((aq (l:=60) (h:=80) aZ Z (bs Z (by omega) Z) bn (by omega) (by omega) (by omega) Z:Yv _ _ _ _ (.sl g1 60 20 20) _)) (wE [.e (bo big),.sl g1 60 20 20] bW Z Z (aa (aM big _ ((aj (W.g 1 Z) hyl).drop_ 60) (hby.drop 60) (by omega) (by omega)) ?_)))))))
 rintro e bq ⟨rfl,X⟩
 have a9:=W.cal0 X
 refine⟨_,Z,wc Z (wf jY Z (ws (es a9 2 15 (.w (n4 big (ys.drop 60))) Z ax (fun br Y=> ?_))))⟩
 refine wn (sr (mp hb 0 Z (mv (.e (bo big)) Z (ms g1 0 80 80 Z (wv Z ((aq (l:=64) (h:=80) aZ Z (bs Z (by omega) Z) bn (by omega) (by omega) (by omega) Z:Yv _ _ _ _ (.sl g1 64 16 16) _)) (wE [.e (bo big),.sl g1 64 16 16] bW Z Z (aa (aM big _ ((aj (Y.g 1 Z) hyl).drop_ 64) (hby.drop 64) (by omega) (by omega)) ?_)))))))
 rintro e bt ⟨rfl,ab⟩
 have aB:=Y.cal0 ab
 refine⟨_,Z,wc Z (wf rV Z (ws (es aB 2 16 (.w (n4 big (ys.drop 64))) Z ax (fun bu ac=> ?_))))⟩
 refine wn (sr (mp hb 0 Z (mv (.e (bo big)) Z (ms g1 0 80 80 Z (wv Z ((aq (l:=68) (h:=80) aZ Z (bs Z (by omega) Z) bn (by omega) (by omega) (by omega) Z:Yv _ _ _ _ (.sl g1 68 12 12) _)) (wE [.e (bo big),.sl g1 68 12 12] bW Z Z (aa (aM big _ ((aj (ac.g 1 Z) hyl).drop_ 68) (hby.drop 68) (by omega) (by omega)) ?_)))))))
 rintro e bv ⟨rfl,ae⟩
 have aC:=ac.cal0 ae
 refine⟨_,Z,wc Z (wf rU Z (ws (es aC 2 17 (.w (n4 big (ys.drop 68))) Z ax (fun bw af=> ?_))))⟩
 refine wn (sr (mp hb 0 Z (mv (.e (bo big)) Z (ms g1 0 80 80 Z (wv Z ((aq (l:=72) (h:=80) aZ Z (bs Z (by omega) Z) bn (by omega) (by omega) (by omega) Z:Yv _ _ _ _ (.sl g1 72 8 8) _)) (wE [.e (bo big),.sl g1 72 8 8] bW Z Z (aa (aM big _ ((aj (af.g 1 Z) hyl).drop_ 72) (hby.drop 72) (by omega) (by omega)) ?_)))))))
 rintro e bx ⟨rfl,ag⟩
 have aD:=af.cal0 ag
 refine⟨_,Z,wc Z (wf rT Z (ws (es aD 2 18 (.w (n4 big (ys.drop 72))) Z ax (fun aE b=> ?_))))⟩
 refine wn (sr (mp hb 0 Z (mv (.e (bo big)) Z (ms g1 0 80 80 Z (wv Z ((aq (l:=76) (h:=80) aZ Z (bs Z (by omega) Z) bn (by omega) (by omega) (by omega) Z:Yv _ _ _ _ (.sl g1 76 4 4) _)) (wE [.e (bo big),.sl g1 76 4 4] bW Z Z (aa (aM big _ ((aj (b.g 1 Z) hyl).drop_ 76) (hby.drop 76) (by omega) (by omega)) ?_)))))))
 rintro e aF ⟨rfl,c⟩
 have ah:=b.cal0 c
 refine⟨_,Z,wc Z (wf rS Z (ws (es ah 2 19 (.w (n4 big (ys.drop 76))) Z ax (fun aH ak=> ?_))))⟩
 refine wn (sr (av (.n) Z (wn (aY ?_))))
 exact⟨.inr Z,_,r1 (.n) Z _ _,⟨Z,(ak.drop 1).perm (.swap ..)⟩⟩
theorem kf{hb rb N C i:Nat}{A:Option Addr}{p:Int}{xs ys:List Int}{a0 a1:Addr}(big:Bool)(w:World)(hh:(an hb [.w 0,.w 0,.w 0,.w 0,.w 0,.w 0,.w 0,.w 0,.w 0,.w 0,.w 0,.w 0,.w 0,.w 0,.w 0,.w 0,.w 0,.w 0,.w 0,.w 0] 146).φ w)(hrb:(an rb [.s A N C,.i (↑i),.i (p)] 190).φ w)(hG:Glob 224 w a0 a1)(hNC:N≤C)(hN63:N≤9223372036854775807)(hr:RI .u8 w A N xs)(hby0:Byt xs)(hA: ∀a,A=some a → a.block<w.heap.size∧a.block≠rb∧a.block≠hb)(hb4:4≤hb)(hw4:4≤w.heap.size)(h4:4≤rb)(hne:hb≠rb)(ho:N<i+80):
 Calls Tryd.prog 57 #[.pt hb,.f 109 (.pt rb),.e (bo big)] w fun e w'=> ∃T v,e= .returned (.f T v)∧St w (fun k=>k=hb∨k=rb) [] w':=by
 refine aA (args:= [.pt hb,.f 109 (.pt rb),.e (bo big)]) Tryd.func57 Z Z Z ?_
 have H0:St _ _ [an hb [.w 0,.w 0,.w 0,.w 0,.w 0,.w 0,.w 0,.w 0,.w 0,.w 0,.w 0,.w 0,.w 0,.w 0,.w 0,.w 0,.w 0,.w 0,.w 0,.w 0] 146,an rb [.s A N C,.i (↑i),.i p] 190] _:=((St.nil w (fun k=>k=hb∨k=rb)).add _ hrb (fun _ h=> .inr h) (by simp)).add _ hh (fun _ h=> .inl h) (by simp only[List.mem_singleton];rintro s rfl g h1 h2;exact hne (h1.symm.trans h2))
 refine sr (av (.n) Z (wn (sr (wm Z (bJ H0 (n:=80) (m:=80) bB fx Z Z Z Z Z (by omega) (by omega) (by omega) (fun g1 w2 b H3=>eL g1 0 80 80 Z (wn (ad (sr (mv (.f 109 (.pt rb)) Z (ms g1 0 80 80 Z ?_)))))))))))
 refine wE [.f 109 (.pt rb),.sl g1 0 80 80] jr Z Z ?_
 have hgw:w.heap.size≤g1:=Nat.le_trans H0.keep.size b
 have hbl:hb<w.heap.size:=aG hh
 have hrl:rb<w.heap.size:=aG hrb
 refine aa (kd _ (H3.g 2 Z) (hG.keep H3.keep (fun k hk=>by rcases hk with h|h<;>omega)) hN63 (H3.g 0 Z) (by omega) h4 (by omega) (hr.keep H3.keep fun a ha h=>by have:=hA a ha;rcases h with h|h<;>omega) (fun a ha=>by have:=hA a ha;omega) hNC (by simp) (by omega) (by omega) (by omega) ho) ?_
 rintro e w5 ⟨x,T,v,rfl,c⟩
 have H6:=H3.ky 2 0 rfl rfl c (fun _ h=>h)
 refine⟨_,Z,mv (.tuple #[x,.f T v]) Z (we x Z Z (we (.f T v) Z Z (av x Z (av (.f T v) Z (wn (sr (mv (.f T v) Z (wv Z ((nn true bI Z (.inr ⟨_,_,Z⟩))) (wn (aB Z ?_))))))))))⟩
 refine sr (mv (.f T v) Z (av (.f T v) Z (wn (rq ?_))))
 exact⟨.inr Z,_,r1 (.f T v) Z _ _,⟨_,_,Z,H6.sub (List.nil_sublist _)⟩⟩
theorem lH{hb rb N C i:Nat}{A:Option Addr}{p:Int}{xs ys:List Int}{a0 a1:Addr}(big:Bool)(w:World)(hh:(an hb [.w 0,.w 0,.e 0,.e 0,.e 0,.e 0,.e 0,.e 0,.e 0,.e 0,.e 0,.e 0,.e 0,.e 0,.e 0,.e 0,.e 0,.e 0,.w 0,.w 0,.w 0,.w 0,.w 0,.w 0,.w 0,.w 0] 177).φ w)(hrb:(an rb [.s A N C,.i (↑i),.i (p)] 190).φ w)(hG:Glob 224 w a0 a1)(hNC:N≤C)(hN63:N≤9223372036854775807)(hr:RI .u8 w A N xs)(hby0:Byt xs)(hA: ∀a,A=some a → a.block<w.heap.size∧a.block≠rb∧a.block≠hb)(hb4:4≤hb)(hw4:4≤w.heap.size)(h4:4≤rb)(hne:hb≠rb)(ho:i+56≤N)(hys:ys=(xs.drop i).take 56):
 Calls Tryd.prog 59 #[.pt hb,.f 109 (.pt rb),.e (bo big)] w fun e w'=>e= .returned .n∧St w (fun k=>k=hb∨k=rb) [an hb [.w (n4 big (ys.drop 0)),.w (n4 big (ys.drop 4)),.e (ys.getD (8+0) 0),.e (ys.getD (8+1) 0),.e (ys.getD (8+2) 0),.e (ys.getD (8+3) 0),.e (ys.getD (8+4) 0),.e (ys.getD (8+5) 0),.e (ys.getD (8+6) 0),.e (ys.getD (8+7) 0),.e (ys.getD (8+8) 0),.e (ys.getD (8+9) 0),.e (ys.getD (8+10) 0),.e (ys.getD (8+11) 0),.e (ys.getD (8+12) 0),.e (ys.getD (8+13) 0),.e (ys.getD (8+14) 0),.e (ys.getD (8+15) 0),.w (n4 big (ys.drop 24)),.w (n4 big (ys.drop 28)),.w (n4 big (ys.drop 32)),.w (n4 big (ys.drop 36)),.w (n4 big (ys.drop 40)),.w (n4 big (ys.drop 44)),.w (n4 big (ys.drop 48)),.w (n4 big (ys.drop 52))] 177,an rb [.s A N C,.i (↑i+56),.i (-1)] 190] w':=by
 have hyl:ys.length=56:=by rw[hys,List.length_take,List.length_drop,hr.1];omega
 have hby:Byt ys:=by rw[hys];exact(hby0.drop _).take _
 refine aA (args:= [.pt hb,.f 109 (.pt rb),.e (bo big)]) Tryd.func59 Z Z Z ?_
 have H0:St _ _ [an hb [.w 0,.w 0,.e 0,.e 0,.e 0,.e 0,.e 0,.e 0,.e 0,.e 0,.e 0,.e 0,.e 0,.e 0,.e 0,.e 0,.e 0,.e 0,.w 0,.w 0,.w 0,.w 0,.w 0,.w 0,.w 0,.w 0] 177,an rb [.s A N C,.i (↑i),.i p] 190] _:=((St.nil w (fun k=>k=hb∨k=rb)).add _ hrb (fun _ h=> .inr h) (by simp)).add _ hh (fun _ h=> .inl h) (by simp only[List.mem_singleton];rintro s rfl g h1 h2;exact hne (h1.symm.trans h2))
 refine sr (av (.n) Z (wn (sr (wm Z (bJ H0 (n:=56) (m:=56) bB fx Z Z Z Z Z (by omega) (by omega) (by omega) (fun g1 w2 c H3=>eL g1 0 56 56 Z (wn (ad (sr (mv (.f 109 (.pt rb)) Z (ms g1 0 56 56 Z ?_)))))))))))
 refine wE [.f 109 (.pt rb),.sl g1 0 56 56] jr Z Z ?_
 have hgw:w.heap.size≤g1:=Nat.le_trans H0.keep.size c
 have hbl:hb<w.heap.size:=aG hh
 have hrl:rb<w.heap.size:=aG hrb
 refine aa (ka _ (H3.g 2 Z) (hG.keep H3.keep (fun k hk=>by rcases hk with h|h<;>omega)) hN63 (H3.g 0 Z) (by omega) h4 (by omega) (hr.keep H3.keep fun a ha h=>by have:=hA a ha;rcases h with h|h<;>omega) (fun a ha=>by have:=hA a ha;omega) hNC (by simp) (by omega) (by omega) (by omega) ho) ?_
 rintro e w5 ⟨rfl,d⟩
 rw[←hys]at d
 have H6:=H3.ky 2 0 rfl rfl d (fun _ h=>h)
 refine⟨_,Z,mv (.tuple #[.i 56,.n]) Z (we (.i 56) Z Z (we (.n) Z Z (ai 56 Z (av (.n) Z (wn (sr (mv (.n) Z (wv Z ((nn false bI Z (.inl Z))) (wn (al Z ?_))))))))))⟩
 refine wk (sr (mp hb 0 Z (mv (.e (bo big)) Z (ms g1 0 56 56 Z (wv Z ((aq (l:=0) (h:=56) aZ Z (bs Z (by omega) Z) bn (by omega) (by omega) (by omega) Z:Yv _ _ _ _ (.sl g1 0 56 56) _)) (wE [.e (bo big),.sl g1 0 56 56] bW Z Z (aa (aM big _ ((aj (H6.g 1 Z) hyl).drop_ 0) (hby.drop 0) (by omega) (by omega)) ?_)))))))
 rintro e w8 ⟨rfl,P⟩
 have H9:=H6.cal0 P
 refine⟨_,Z,wc Z (wf yZ Z (ws (es H9 2 0 (.w (n4 big (ys.drop 0))) Z iG (fun ao j=> ?_))))⟩
 refine wn (sr (mp hb 0 Z (mv (.e (bo big)) Z (ms g1 0 56 56 Z (wv Z ((aq (l:=4) (h:=56) aZ Z (bs Z (by omega) Z) bn (by omega) (by omega) (by omega) Z:Yv _ _ _ _ (.sl g1 4 52 52) _)) (wE [.e (bo big),.sl g1 4 52 52] bW Z Z (aa (aM big _ ((aj (j.g 1 Z) hyl).drop_ 4) (hby.drop 4) (by omega) (by omega)) ?_)))))))
 rintro e ap ⟨rfl,q⟩
 have Q:=j.cal0 q
 refine⟨_,Z,wc Z (wf yY Z (ws (es Q 2 1 (.w (n4 big (ys.drop 4))) Z ax (fun R S=> ?_))))⟩
 refine wn (ad (bZ MX (fun w'=>True) (tp 0 6 (Plan.run 6 Plan.done)) (by kernel_rfl) ?_))
 have r:=S.drew
 have b:(fun w'=>True) R.drew:=trivial
 refine py Z b (am (v:= .pt hb) Z) (py Z b (ah Z) (py Z b (ab (o:=0) u5 Z) (pt Z b (fun _ hS=>(bP (o:=2) (l:=0) (h:=16) jQ Z (bu _ _) (bu _ _) (by omega) (by omega):Yv _ _ _ _ (.sl hb 2 16 16) _)) (py Z b (am (v:= .sl g1 0 56 56) Z) (pt Z b (fun _ hS=>(aq (l:=8) (h:=24) aZ Z (bs Z (by omega) Z) (bs Z (by omega) Z) (by omega) (by omega) (by omega) Z:Yv _ _ _ _ (.sl g1 8 16 48) _)) (pr Z (ku r 2 (m:=16) (k:=8) (cs':= [.w (n4 big (ys.drop 0)),.w (n4 big (ys.drop 4)),.e (ys.getD (8+0) 0),.e (ys.getD (8+1) 0),.e (ys.getD (8+2) 0),.e (ys.getD (8+3) 0),.e (ys.getD (8+4) 0),.e (ys.getD (8+5) 0),.e (ys.getD (8+6) 0),.e (ys.getD (8+7) 0),.e (ys.getD (8+8) 0),.e (ys.getD (8+9) 0),.e (ys.getD (8+10) 0),.e (ys.getD (8+11) 0),.e (ys.getD (8+12) 0),.e (ys.getD (8+13) 0),.e (ys.getD (8+14) 0),.e (ys.getD (8+15) 0),.w 0,.w 0,.w 0,.w 0,.w 0,.w 0,.w 0,.w 0]) Z bB wF Z Z (aj (r.g 1 Z) hyl) Z (by omega) (nl Z) Z (fun T t=> ?_))))))))
 have u:(fun w'=>True) T:=trivial
 refine⟨u,bC (ac (sr (mp hb 0 Z (mv (.e (bo big)) Z (ms g1 0 56 56 Z (wv Z ((aq (l:=24) (h:=56) aZ Z (bs Z (by omega) Z) bn (by omega) (by omega) (by omega) Z:Yv _ _ _ _ (.sl g1 24 32 32) _)) (wE [.e (bo big),.sl g1 24 32 32] bW Z Z (aa (aM big _ ((aj (t.g 1 Z) hyl).drop_ 24) (hby.drop 24) (by omega) (by omega)) ?_))))))))⟩
 rintro e ar ⟨rfl,x⟩
 have U:=t.cal0 x
 refine⟨_,Z,wc Z (wf u0 Z (ws (es U 2 18 (.w (n4 big (ys.drop 24))) Z ax (fun au y=> ?_))))⟩
 refine wn (sr (mp hb 0 Z (mv (.e (bo big)) Z (ms g1 0 56 56 Z (wv Z ((aq (l:=28) (h:=56) aZ Z (bs Z (by omega) Z) bn (by omega) (by omega) (by omega) Z:Yv _ _ _ _ (.sl g1 28 28 28) _)) (wE [.e (bo big),.sl g1 28 28 28] bW Z Z (aa (aM big _ ((aj (y.g 1 Z) hyl).drop_ 28) (hby.drop 28) (by omega) (by omega)) ?_)))))))
 rintro e aw ⟨rfl,z⟩
 have V:=y.cal0 z
 refine⟨_,Z,wc Z (wf uz Z (ws (es V 2 19 (.w (n4 big (ys.drop 28))) Z ax (fun ay B=> ?_))))⟩
 refine wn (sr (mp hb 0 Z (mv (.e (bo big)) Z (ms g1 0 56 56 Z (wv Z ((aq (l:=32) (h:=56) aZ Z (bs Z (by omega) Z) bn (by omega) (by omega) (by omega) Z:Yv _ _ _ _ (.sl g1 32 24 24) _)) (wE [.e (bo big),.sl g1 32 24 24] bW Z Z (aa (aM big _ ((aj (B.g 1 Z) hyl).drop_ 32) (hby.drop 32) (by omega) (by omega)) ?_)))))))
 rintro e az ⟨rfl,D⟩
 have W:=B.cal0 D
 refine⟨_,Z,wc Z (wf uy Z (ws (es W 2 20 (.w (n4 big (ys.drop 32))) Z ax (fun a2 E=> ?_))))⟩
 refine wn (sr (mp hb 0 Z (mv (.e (bo big)) Z (ms g1 0 56 56 Z (wv Z ((aq (l:=36) (h:=56) aZ Z (bs Z (by omega) Z) bn (by omega) (by omega) (by omega) Z:Yv _ _ _ _ (.sl g1 36 20 20) _)) (wE [.e (bo big),.sl g1 36 20 20] bW Z Z (aa (aM big _ ((aj (E.g 1 Z) hyl).drop_ 36) (hby.drop 36) (by omega) (by omega)) ?_)))))))
 rintro e a3 ⟨rfl,F⟩
 have X:=E.cal0 F
 refine⟨_,Z,wc Z (wf ux Z (ws (es X 2 21 (.w (n4 big (ys.drop 36))) Z ax (fun a4 G=> ?_))))⟩
 refine wn (sr (mp hb 0 Z (mv (.e (bo big)) Z (ms g1 0 56 56 Z (wv Z ((aq (l:=40) (h:=56) aZ Z (bs Z (by omega) Z) bn (by omega) (by omega) (by omega) Z:Yv _ _ _ _ (.sl g1 40 16 16) _)) (wE [.e (bo big),.sl g1 40 16 16] bW Z Z (aa (aM big _ ((aj (G.g 1 Z) hyl).drop_ 40) (hby.drop 40) (by omega) (by omega)) ?_)))))))
 rintro e a5 ⟨rfl,H⟩
 have Y:=G.cal0 H
 refine⟨_,Z,wc Z (wf uw Z (ws (es Y 2 22 (.w (n4 big (ys.drop 40))) Z ax (fun a6 I=> ?_))))⟩
 refine wn (sr (mp hb 0 Z (mv (.e (bo big)) Z (ms g1 0 56 56 Z (wv Z ((aq (l:=44) (h:=56) aZ Z (bs Z (by omega) Z) bn (by omega) (by omega) (by omega) Z:Yv _ _ _ _ (.sl g1 44 12 12) _)) (wE [.e (bo big),.sl g1 44 12 12] bW Z Z (aa (aM big _ ((aj (I.g 1 Z) hyl).drop_ 44) (hby.drop 44) (by omega) (by omega)) ?_)))))))
 rintro e a7 ⟨rfl,J⟩
 have ae:=I.cal0 J
 refine⟨_,Z,wc Z (wf uv Z (ws (es ae 2 23 (.w (n4 big (ys.drop 44))) Z ax (fun a8 K=> ?_))))⟩
 refine wn (sr (mp hb 0 Z (mv (.e (bo big)) Z (ms g1 0 56 56 Z (wv Z ((aq (l:=48) (h:=56) aZ Z (bs Z (by omega) Z) bn (by omega) (by omega) (by omega) Z:Yv _ _ _ _ (.sl g1 48 8 8) _)) (wE [.e (bo big),.sl g1 48 8 8] bW Z Z (aa (aM big _ ((aj (K.g 1 Z) hyl).drop_ 48) (hby.drop 48) (by omega) (by omega)) ?_)))))))
 rintro e a9 ⟨rfl,L⟩
 have af:=K.cal0 L
 refine⟨_,Z,wc Z (wf uu Z (ws (es af 2 24 (.w (n4 big (ys.drop 48))) Z ax (fun aB M=> ?_))))⟩
 refine wn (sr (mp hb 0 Z (mv (.e (bo big)) Z (ms g1 0 56 56 Z (wv Z ((aq (l:=52) (h:=56) aZ Z (bs Z (by omega) Z) bn (by omega) (by omega) (by omega) Z:Yv _ _ _ _ (.sl g1 52 4 4) _)) (wE [.e (bo big),.sl g1 52 4 4] bW Z Z (aa (aM big _ ((aj (M.g 1 Z) hyl).drop_ 52) (hby.drop 52) (by omega) (by omega)) ?_)))))))
 rintro e aC ⟨rfl,O⟩
 have ag:=M.cal0 O
 refine⟨_,Z,wc Z (wf rR Z (ws (es ag 2 25 (.w (n4 big (ys.drop 52))) Z ax (fun aD ak=> ?_))))⟩
 refine wn (sr (av (.n) Z (wn (aY ?_))))
 exact⟨.inr Z,_,r1 (.n) Z _ _,⟨Z,(ak.drop 1).perm (.swap ..)⟩⟩
theorem lc{hb rb N C i:Nat}{A:Option Addr}{p:Int}{xs ys:List Int}{a0 a1:Addr}(big:Bool)(w:World)(hh:(an hb [.w 0,.w 0,.e 0,.e 0,.e 0,.e 0,.e 0,.e 0,.e 0,.e 0,.e 0,.e 0,.e 0,.e 0,.e 0,.e 0,.e 0,.e 0,.w 0,.w 0,.w 0,.w 0,.w 0,.w 0,.w 0,.w 0] 177).φ w)(hrb:(an rb [.s A N C,.i (↑i),.i (p)] 190).φ w)(hG:Glob 224 w a0 a1)(hNC:N≤C)(hN63:N≤9223372036854775807)(hr:RI .u8 w A N xs)(hby0:Byt xs)(hA: ∀a,A=some a → a.block<w.heap.size∧a.block≠rb∧a.block≠hb)(hb4:4≤hb)(hw4:4≤w.heap.size)(h4:4≤rb)(hne:hb≠rb)(ho:N<i+56):
 Calls Tryd.prog 59 #[.pt hb,.f 109 (.pt rb),.e (bo big)] w fun e w'=> ∃T v,e= .returned (.f T v)∧St w (fun k=>k=hb∨k=rb) [] w':=by
 refine aA (args:= [.pt hb,.f 109 (.pt rb),.e (bo big)]) Tryd.func59 Z Z Z ?_
 have H0:St _ _ [an hb [.w 0,.w 0,.e 0,.e 0,.e 0,.e 0,.e 0,.e 0,.e 0,.e 0,.e 0,.e 0,.e 0,.e 0,.e 0,.e 0,.e 0,.e 0,.w 0,.w 0,.w 0,.w 0,.w 0,.w 0,.w 0,.w 0] 177,an rb [.s A N C,.i (↑i),.i p] 190] _:=((St.nil w (fun k=>k=hb∨k=rb)).add _ hrb (fun _ h=> .inr h) (by simp)).add _ hh (fun _ h=> .inl h) (by simp only[List.mem_singleton];rintro s rfl g h1 h2;exact hne (h1.symm.trans h2))
 refine sr (av (.n) Z (wn (sr (wm Z (bJ H0 (n:=56) (m:=56) bB fx Z Z Z Z Z (by omega) (by omega) (by omega) (fun g1 w2 b H3=>eL g1 0 56 56 Z (wn (ad (sr (mv (.f 109 (.pt rb)) Z (ms g1 0 56 56 Z ?_)))))))))))
 refine wE [.f 109 (.pt rb),.sl g1 0 56 56] jr Z Z ?_
 have hgw:w.heap.size≤g1:=Nat.le_trans H0.keep.size b
 have hbl:hb<w.heap.size:=aG hh
 have hrl:rb<w.heap.size:=aG hrb
 refine aa (kd _ (H3.g 2 Z) (hG.keep H3.keep (fun k hk=>by rcases hk with h|h<;>omega)) hN63 (H3.g 0 Z) (by omega) h4 (by omega) (hr.keep H3.keep fun a ha h=>by have:=hA a ha;rcases h with h|h<;>omega) (fun a ha=>by have:=hA a ha;omega) hNC (by simp) (by omega) (by omega) (by omega) ho) ?_
 rintro e w5 ⟨x,T,v,rfl,c⟩
 have H6:=H3.ky 2 0 rfl rfl c (fun _ h=>h)
 refine⟨_,Z,mv (.tuple #[x,.f T v]) Z (we x Z Z (we (.f T v) Z Z (av x Z (av (.f T v) Z (wn (sr (mv (.f T v) Z (wv Z ((nn true bI Z (.inr ⟨_,_,Z⟩))) (wn (aB Z ?_))))))))))⟩
 refine sr (mv (.f T v) Z (av (.f T v) Z (wn (rq ?_))))
 exact⟨.inr Z,_,r1 (.f T v) Z _ _,⟨_,_,Z,H6.sub (List.nil_sublist _)⟩⟩
theorem lG{hb rb N C i:Nat}{A:Option Addr}{p:Int}{xs ys:List Int}{a0 a1:Addr}(big:Bool)(w:World)(hh:(an hb [.w 0,.w 0,.e 0,.e 0,.e 0,.e 0,.e 0,.e 0,.e 0,.e 0,.e 0,.e 0,.e 0,.e 0,.e 0,.e 0,.e 0,.e 0,.q 0,.q 0,.q 0,.q 0,.w 0,.w 0,.w 0,.w 0] 186).φ w)(hrb:(an rb [.s A N C,.i (↑i),.i (p)] 190).φ w)(hG:Glob 224 w a0 a1)(hNC:N≤C)(hN63:N≤9223372036854775807)(hr:RI .u8 w A N xs)(hby0:Byt xs)(hA: ∀a,A=some a → a.block<w.heap.size∧a.block≠rb∧a.block≠hb)(hb4:4≤hb)(hw4:4≤w.heap.size)(h4:4≤rb)(hne:hb≠rb)(ho:i+72≤N)(hys:ys=(xs.drop i).take 72):
 Calls Tryd.prog 62 #[.pt hb,.f 109 (.pt rb),.e (bo big)] w fun e w'=>e= .returned .n∧St w (fun k=>k=hb∨k=rb) [an hb [.w (n4 big (ys.drop 0)),.w (n4 big (ys.drop 4)),.e (ys.getD (8+0) 0),.e (ys.getD (8+1) 0),.e (ys.getD (8+2) 0),.e (ys.getD (8+3) 0),.e (ys.getD (8+4) 0),.e (ys.getD (8+5) 0),.e (ys.getD (8+6) 0),.e (ys.getD (8+7) 0),.e (ys.getD (8+8) 0),.e (ys.getD (8+9) 0),.e (ys.getD (8+10) 0),.e (ys.getD (8+11) 0),.e (ys.getD (8+12) 0),.e (ys.getD (8+13) 0),.e (ys.getD (8+14) 0),.e (ys.getD (8+15) 0),.q (n8 big (ys.drop 24)),.q (n8 big (ys.drop 32)),.q (n8 big (ys.drop 40)),.q (n8 big (ys.drop 48)),.w (n4 big (ys.drop 56)),.w (n4 big (ys.drop 60)),.w (n4 big (ys.drop 64)),.w (n4 big (ys.drop 68))] 186,an rb [.s A N C,.i (↑i+72),.i (-1)] 190] w':=by
 have hyl:ys.length=72:=by rw[hys,List.length_take,List.length_drop,hr.1];omega
 have hby:Byt ys:=by rw[hys];exact(hby0.drop _).take _
 refine aA (args:= [.pt hb,.f 109 (.pt rb),.e (bo big)]) Tryd.func62 Z Z Z ?_
 have H0:St _ _ [an hb [.w 0,.w 0,.e 0,.e 0,.e 0,.e 0,.e 0,.e 0,.e 0,.e 0,.e 0,.e 0,.e 0,.e 0,.e 0,.e 0,.e 0,.e 0,.q 0,.q 0,.q 0,.q 0,.w 0,.w 0,.w 0,.w 0] 186,an rb [.s A N C,.i (↑i),.i p] 190] _:=((St.nil w (fun k=>k=hb∨k=rb)).add _ hrb (fun _ h=> .inr h) (by simp)).add _ hh (fun _ h=> .inl h) (by simp only[List.mem_singleton];rintro s rfl g h1 h2;exact hne (h1.symm.trans h2))
 refine sr (av (.n) Z (wn (sr (wm Z (bJ H0 (n:=72) (m:=72) bB fx Z Z Z Z Z (by omega) (by omega) (by omega) (fun g1 w2 c H3=>eL g1 0 72 72 Z (wn (ad (sr (mv (.f 109 (.pt rb)) Z (ms g1 0 72 72 Z ?_)))))))))))
 refine wE [.f 109 (.pt rb),.sl g1 0 72 72] jr Z Z ?_
 have hgw:w.heap.size≤g1:=Nat.le_trans H0.keep.size c
 have hbl:hb<w.heap.size:=aG hh
 have hrl:rb<w.heap.size:=aG hrb
 refine aa (ka _ (H3.g 2 Z) (hG.keep H3.keep (fun k hk=>by rcases hk with h|h<;>omega)) hN63 (H3.g 0 Z) (by omega) h4 (by omega) (hr.keep H3.keep fun a ha h=>by have:=hA a ha;rcases h with h|h<;>omega) (fun a ha=>by have:=hA a ha;omega) hNC (by simp) (by omega) (by omega) (by omega) ho) ?_
 rintro e w5 ⟨rfl,d⟩
 rw[←hys]at d
 have H6:=H3.ky 2 0 rfl rfl d (fun _ h=>h)
 refine⟨_,Z,mv (.tuple #[.i 72,.n]) Z (we (.i 72) Z Z (we (.n) Z Z (ai 72 Z (av (.n) Z (wn (sr (mv (.n) Z (wv Z ((nn false bI Z (.inl Z))) (wn (al Z ?_))))))))))⟩
 refine wk (sr (mp hb 0 Z (mv (.e (bo big)) Z (ms g1 0 72 72 Z (wv Z ((aq (l:=0) (h:=72) aZ Z (bs Z (by omega) Z) bn (by omega) (by omega) (by omega) Z:Yv _ _ _ _ (.sl g1 0 72 72) _)) (wE [.e (bo big),.sl g1 0 72 72] bW Z Z (aa (aM big _ ((aj (H6.g 1 Z) hyl).drop_ 0) (hby.drop 0) (by omega) (by omega)) ?_)))))))
 rintro e w8 ⟨rfl,Q⟩
 have H9:=H6.cal0 Q
 refine⟨_,Z,wc Z (wf yW Z (ws (es H9 2 0 (.w (n4 big (ys.drop 0))) Z iG (fun ap j=> ?_))))⟩
 refine wn (sr (mp hb 0 Z (mv (.e (bo big)) Z (ms g1 0 72 72 Z (wv Z ((aq (l:=4) (h:=72) aZ Z (bs Z (by omega) Z) bn (by omega) (by omega) (by omega) Z:Yv _ _ _ _ (.sl g1 4 68 68) _)) (wE [.e (bo big),.sl g1 4 68 68] bW Z Z (aa (aM big _ ((aj (j.g 1 Z) hyl).drop_ 4) (hby.drop 4) (by omega) (by omega)) ?_)))))))
 rintro e ar ⟨rfl,r⟩
 have R:=j.cal0 r
 refine⟨_,Z,wc Z (wf yV Z (ws (es R 2 1 (.w (n4 big (ys.drop 4))) Z ax (fun S T=> ?_))))⟩
 refine wn (ad (bZ MX (fun w'=>True) (tp 0 6 (Plan.run 6 Plan.done)) (by kernel_rfl) ?_))
 have t:=T.drew
 have b:(fun w'=>True) S.drew:=trivial
 refine py Z b (am (v:= .pt hb) Z) (py Z b (ah Z) (py Z b (ab (o:=0) uh Z) (pt Z b (fun _ hS=>(bP (o:=2) (l:=0) (h:=16) jQ Z (bu _ _) (bu _ _) (by omega) (by omega):Yv _ _ _ _ (.sl hb 2 16 16) _)) (py Z b (am (v:= .sl g1 0 72 72) Z) (pt Z b (fun _ hS=>(aq (l:=8) (h:=24) aZ Z (bs Z (by omega) Z) (bs Z (by omega) Z) (by omega) (by omega) (by omega) Z:Yv _ _ _ _ (.sl g1 8 16 64) _)) (pr Z (ku t 2 (m:=16) (k:=8) (cs':= [.w (n4 big (ys.drop 0)),.w (n4 big (ys.drop 4)),.e (ys.getD (8+0) 0),.e (ys.getD (8+1) 0),.e (ys.getD (8+2) 0),.e (ys.getD (8+3) 0),.e (ys.getD (8+4) 0),.e (ys.getD (8+5) 0),.e (ys.getD (8+6) 0),.e (ys.getD (8+7) 0),.e (ys.getD (8+8) 0),.e (ys.getD (8+9) 0),.e (ys.getD (8+10) 0),.e (ys.getD (8+11) 0),.e (ys.getD (8+12) 0),.e (ys.getD (8+13) 0),.e (ys.getD (8+14) 0),.e (ys.getD (8+15) 0),.q 0,.q 0,.q 0,.q 0,.w 0,.w 0,.w 0,.w 0]) Z bB wF Z Z (aj (t.g 1 Z) hyl) Z (by omega) (nl Z) Z (fun U u=> ?_))))))))
 have x:(fun w'=>True) U:=trivial
 refine⟨x,bC (ac (sr (mp hb 0 Z (mv (.e (bo big)) Z (ms g1 0 72 72 Z (wv Z ((aq (l:=24) (h:=72) aZ Z (bs Z (by omega) Z) bn (by omega) (by omega) (by omega) Z:Yv _ _ _ _ (.sl g1 24 48 48) _)) (wE [.e (bo big),.sl g1 24 48 48] tu Z Z (aa (iC big _ ((aj (u.g 1 Z) hyl).drop_ 24) (hby.drop 24) (by omega) (by omega)) ?_))))))))⟩
 rintro e au ⟨rfl,y⟩
 have V:=u.cal0 y
 refine⟨_,Z,wc Z (wf ug Z (ws (es V 2 18 (.q (n8 big (ys.drop 24))) Z aP (fun aw z=> ?_))))⟩
 refine wn (sr (mp hb 0 Z (mv (.e (bo big)) Z (ms g1 0 72 72 Z (wv Z ((aq (l:=32) (h:=72) aZ Z (bs Z (by omega) Z) bn (by omega) (by omega) (by omega) Z:Yv _ _ _ _ (.sl g1 32 40 40) _)) (wE [.e (bo big),.sl g1 32 40 40] tu Z Z (aa (iC big _ ((aj (z.g 1 Z) hyl).drop_ 32) (hby.drop 32) (by omega) (by omega)) ?_)))))))
 rintro e ay ⟨rfl,B⟩
 have W:=z.cal0 B
 refine⟨_,Z,wc Z (wf uf Z (ws (es W 2 19 (.q (n8 big (ys.drop 32))) Z aP (fun az D=> ?_))))⟩
 refine wn (sr (mp hb 0 Z (mv (.e (bo big)) Z (ms g1 0 72 72 Z (wv Z ((aq (l:=40) (h:=72) aZ Z (bs Z (by omega) Z) bn (by omega) (by omega) (by omega) Z:Yv _ _ _ _ (.sl g1 40 32 32) _)) (wE [.e (bo big),.sl g1 40 32 32] tu Z Z (aa (iC big _ ((aj (D.g 1 Z) hyl).drop_ 40) (hby.drop 40) (by omega) (by omega)) ?_)))))))
 rintro e a2 ⟨rfl,E⟩
 have X:=D.cal0 E
 refine⟨_,Z,wc Z (wf ue Z (ws (es X 2 20 (.q (n8 big (ys.drop 40))) Z aP (fun a3 F=> ?_))))⟩
 refine wn (sr (mp hb 0 Z (mv (.e (bo big)) Z (ms g1 0 72 72 Z (wv Z ((aq (l:=48) (h:=72) aZ Z (bs Z (by omega) Z) bn (by omega) (by omega) (by omega) Z:Yv _ _ _ _ (.sl g1 48 24 24) _)) (wE [.e (bo big),.sl g1 48 24 24] tu Z Z (aa (iC big _ ((aj (F.g 1 Z) hyl).drop_ 48) (hby.drop 48) (by omega) (by omega)) ?_)))))))
 rintro e a4 ⟨rfl,G⟩
 have Y:=F.cal0 G
 refine⟨_,Z,wc Z (wf ud Z (ws (es Y 2 21 (.q (n8 big (ys.drop 48))) Z aP (fun a5 H=> ?_))))⟩
 refine wn (sr (mp hb 0 Z (mv (.e (bo big)) Z (ms g1 0 72 72 Z (wv Z ((aq (l:=56) (h:=72) aZ Z (bs Z (by omega) Z) bn (by omega) (by omega) (by omega) Z:Yv _ _ _ _ (.sl g1 56 16 16) _)) (wE [.e (bo big),.sl g1 56 16 16] bW Z Z (aa (aM big _ ((aj (H.g 1 Z) hyl).drop_ 56) (hby.drop 56) (by omega) (by omega)) ?_)))))))
 rintro e a6 ⟨rfl,I⟩
 have ae:=H.cal0 I
 refine⟨_,Z,wc Z (wf uc Z (ws (es ae 2 22 (.w (n4 big (ys.drop 56))) Z ax (fun a7 J=> ?_))))⟩
 refine wn (sr (mp hb 0 Z (mv (.e (bo big)) Z (ms g1 0 72 72 Z (wv Z ((aq (l:=60) (h:=72) aZ Z (bs Z (by omega) Z) bn (by omega) (by omega) (by omega) Z:Yv _ _ _ _ (.sl g1 60 12 12) _)) (wE [.e (bo big),.sl g1 60 12 12] bW Z Z (aa (aM big _ ((aj (J.g 1 Z) hyl).drop_ 60) (hby.drop 60) (by omega) (by omega)) ?_)))))))
 rintro e a8 ⟨rfl,K⟩
 have af:=J.cal0 K
 refine⟨_,Z,wc Z (wf ub Z (ws (es af 2 23 (.w (n4 big (ys.drop 60))) Z ax (fun a9 L=> ?_))))⟩
 refine wn (sr (mp hb 0 Z (mv (.e (bo big)) Z (ms g1 0 72 72 Z (wv Z ((aq (l:=64) (h:=72) aZ Z (bs Z (by omega) Z) bn (by omega) (by omega) (by omega) Z:Yv _ _ _ _ (.sl g1 64 8 8) _)) (wE [.e (bo big),.sl g1 64 8 8] bW Z Z (aa (aM big _ ((aj (L.g 1 Z) hyl).drop_ 64) (hby.drop 64) (by omega) (by omega)) ?_)))))))
 rintro e aB ⟨rfl,M⟩
 have ag:=L.cal0 M
 refine⟨_,Z,wc Z (wf ua Z (ws (es ag 2 24 (.w (n4 big (ys.drop 64))) Z ax (fun aC O=> ?_))))⟩
 refine wn (sr (mp hb 0 Z (mv (.e (bo big)) Z (ms g1 0 72 72 Z (wv Z ((aq (l:=68) (h:=72) aZ Z (bs Z (by omega) Z) bn (by omega) (by omega) (by omega) Z:Yv _ _ _ _ (.sl g1 68 4 4) _)) (wE [.e (bo big),.sl g1 68 4 4] bW Z Z (aa (aM big _ ((aj (O.g 1 Z) hyl).drop_ 68) (hby.drop 68) (by omega) (by omega)) ?_)))))))
 rintro e aD ⟨rfl,P⟩
 have ak:=O.cal0 P
 refine⟨_,Z,wc Z (wf rQ Z (ws (es ak 2 25 (.w (n4 big (ys.drop 68))) Z ax (fun aE ao=> ?_))))⟩
 refine wn (sr (av (.n) Z (wn (aY ?_))))
 exact⟨.inr Z,_,r1 (.n) Z _ _,⟨Z,(ao.drop 1).perm (.swap ..)⟩⟩
theorem lb{hb rb N C i:Nat}{A:Option Addr}{p:Int}{xs ys:List Int}{a0 a1:Addr}(big:Bool)(w:World)(hh:(an hb [.w 0,.w 0,.e 0,.e 0,.e 0,.e 0,.e 0,.e 0,.e 0,.e 0,.e 0,.e 0,.e 0,.e 0,.e 0,.e 0,.e 0,.e 0,.q 0,.q 0,.q 0,.q 0,.w 0,.w 0,.w 0,.w 0] 186).φ w)(hrb:(an rb [.s A N C,.i (↑i),.i (p)] 190).φ w)(hG:Glob 224 w a0 a1)(hNC:N≤C)(hN63:N≤9223372036854775807)(hr:RI .u8 w A N xs)(hby0:Byt xs)(hA: ∀a,A=some a → a.block<w.heap.size∧a.block≠rb∧a.block≠hb)(hb4:4≤hb)(hw4:4≤w.heap.size)(h4:4≤rb)(hne:hb≠rb)(ho:N<i+72):
 Calls Tryd.prog 62 #[.pt hb,.f 109 (.pt rb),.e (bo big)] w fun e w'=> ∃T v,e= .returned (.f T v)∧St w (fun k=>k=hb∨k=rb) [] w':=by
 refine aA (args:= [.pt hb,.f 109 (.pt rb),.e (bo big)]) Tryd.func62 Z Z Z ?_
 have H0:St _ _ [an hb [.w 0,.w 0,.e 0,.e 0,.e 0,.e 0,.e 0,.e 0,.e 0,.e 0,.e 0,.e 0,.e 0,.e 0,.e 0,.e 0,.e 0,.e 0,.q 0,.q 0,.q 0,.q 0,.w 0,.w 0,.w 0,.w 0] 186,an rb [.s A N C,.i (↑i),.i p] 190] _:=((St.nil w (fun k=>k=hb∨k=rb)).add _ hrb (fun _ h=> .inr h) (by simp)).add _ hh (fun _ h=> .inl h) (by simp only[List.mem_singleton];rintro s rfl g h1 h2;exact hne (h1.symm.trans h2))
 refine sr (av (.n) Z (wn (sr (wm Z (bJ H0 (n:=72) (m:=72) bB fx Z Z Z Z Z (by omega) (by omega) (by omega) (fun g1 w2 b H3=>eL g1 0 72 72 Z (wn (ad (sr (mv (.f 109 (.pt rb)) Z (ms g1 0 72 72 Z ?_)))))))))))
 refine wE [.f 109 (.pt rb),.sl g1 0 72 72] jr Z Z ?_
 have hgw:w.heap.size≤g1:=Nat.le_trans H0.keep.size b
 have hbl:hb<w.heap.size:=aG hh
 have hrl:rb<w.heap.size:=aG hrb
 refine aa (kd _ (H3.g 2 Z) (hG.keep H3.keep (fun k hk=>by rcases hk with h|h<;>omega)) hN63 (H3.g 0 Z) (by omega) h4 (by omega) (hr.keep H3.keep fun a ha h=>by have:=hA a ha;rcases h with h|h<;>omega) (fun a ha=>by have:=hA a ha;omega) hNC (by simp) (by omega) (by omega) (by omega) ho) ?_
 rintro e w5 ⟨x,T,v,rfl,c⟩
 have H6:=H3.ky 2 0 rfl rfl c (fun _ h=>h)
 refine⟨_,Z,mv (.tuple #[x,.f T v]) Z (we x Z Z (we (.f T v) Z Z (av x Z (av (.f T v) Z (wn (sr (mv (.f T v) Z (wv Z ((nn true bI Z (.inr ⟨_,_,Z⟩))) (wn (aB Z ?_))))))))))⟩
 refine sr (mv (.f T v) Z (av (.f T v) Z (wn (rq ?_))))
 exact⟨.inr Z,_,r1 (.f T v) Z _ _,⟨_,_,Z,H6.sub (List.nil_sublist _)⟩⟩
theorem lJ{hb rb N C i:Nat}{A:Option Addr}{p:Int}{xs ys:List Int}{a0 a1:Addr}(big:Bool)(w:World)(hh:(an hb [.e 0,.e 0,.e 0,.e 0,.e 0,.e 0,.e 0,.e 0,.e 0,.e 0,.e 0,.e 0,.e 0,.e 0,.e 0,.e 0,.e 0,.e 0,.e 0,.e 0,.e 0,.e 0,.e 0,.e 0,.e 0,.e 0,.e 0,.e 0,.e 0,.e 0,.e 0,.e 0,.w 0,.w 0,.w 0,.w 0,.w 0,.w 0,.w 0,.w 0,.w 0] 183).φ w)(hrb:(an rb [.s A N C,.i (↑i),.i (p)] 190).φ w)(hG:Glob 224 w a0 a1)(hNC:N≤C)(hN63:N≤9223372036854775807)(hr:RI .u8 w A N xs)(hby0:Byt xs)(hA: ∀a,A=some a → a.block<w.heap.size∧a.block≠rb∧a.block≠hb)(hb4:4≤hb)(hw4:4≤w.heap.size)(h4:4≤rb)(hne:hb≠rb)(ho:i+68≤N)(hys:ys=(xs.drop i).take 68):
 Calls Tryd.prog 60 #[.pt hb,.f 109 (.pt rb),.e (bo big)] w fun e w'=>e= .returned .n∧St w (fun k=>k=hb∨k=rb) [an hb [.e (ys.getD (0+0) 0),.e (ys.getD (0+1) 0),.e (ys.getD (0+2) 0),.e (ys.getD (0+3) 0),.e (ys.getD (0+4) 0),.e (ys.getD (0+5) 0),.e (ys.getD (0+6) 0),.e (ys.getD (0+7) 0),.e (ys.getD (0+8) 0),.e (ys.getD (0+9) 0),.e (ys.getD (0+10) 0),.e (ys.getD (0+11) 0),.e (ys.getD (0+12) 0),.e (ys.getD (0+13) 0),.e (ys.getD (0+14) 0),.e (ys.getD (0+15) 0),.e (ys.getD (16+0) 0),.e (ys.getD (16+1) 0),.e (ys.getD (16+2) 0),.e (ys.getD (16+3) 0),.e (ys.getD (16+4) 0),.e (ys.getD (16+5) 0),.e (ys.getD (16+6) 0),.e (ys.getD (16+7) 0),.e (ys.getD (16+8) 0),.e (ys.getD (16+9) 0),.e (ys.getD (16+10) 0),.e (ys.getD (16+11) 0),.e (ys.getD (16+12) 0),.e (ys.getD (16+13) 0),.e (ys.getD (16+14) 0),.e (ys.getD (16+15) 0),.w (n4 big (ys.drop 32)),.w (n4 big (ys.drop 36)),.w (n4 big (ys.drop 40)),.w (n4 big (ys.drop 44)),.w (n4 big (ys.drop 48)),.w (n4 big (ys.drop 52)),.w (n4 big (ys.drop 56)),.w (n4 big (ys.drop 60)),.w (n4 big (ys.drop 64))] 183,an rb [.s A N C,.i (↑i+68),.i (-1)] 190] w':=by
 have hyl:ys.length=68:=by rw[hys,List.length_take,List.length_drop,hr.1];omega
 have hby:Byt ys:=by rw[hys];exact(hby0.drop _).take _
 refine aA (args:= [.pt hb,.f 109 (.pt rb),.e (bo big)]) Tryd.func60 Z Z Z ?_
 have H0:St _ _ [an hb [.e 0,.e 0,.e 0,.e 0,.e 0,.e 0,.e 0,.e 0,.e 0,.e 0,.e 0,.e 0,.e 0,.e 0,.e 0,.e 0,.e 0,.e 0,.e 0,.e 0,.e 0,.e 0,.e 0,.e 0,.e 0,.e 0,.e 0,.e 0,.e 0,.e 0,.e 0,.e 0,.w 0,.w 0,.w 0,.w 0,.w 0,.w 0,.w 0,.w 0,.w 0] 183,an rb [.s A N C,.i (↑i),.i p] 190] _:=((St.nil w (fun k=>k=hb∨k=rb)).add _ hrb (fun _ h=> .inr h) (by simp)).add _ hh (fun _ h=> .inl h) (by simp only[List.mem_singleton];rintro s rfl g h1 h2;exact hne (h1.symm.trans h2))
 refine sr (av (.n) Z (wn (sr (wm Z (bJ H0 (n:=68) (m:=68) bB fx Z Z Z Z Z (by omega) (by omega) (by omega) (fun g1 w2 d H3=>eL g1 0 68 68 Z (wn (ad (sr (mv (.f 109 (.pt rb)) Z (ms g1 0 68 68 Z ?_)))))))))))
 refine wE [.f 109 (.pt rb),.sl g1 0 68 68] jr Z Z ?_
 have hgw:w.heap.size≤g1:=Nat.le_trans H0.keep.size d
 have hbl:hb<w.heap.size:=aG hh
 have hrl:rb<w.heap.size:=aG hrb
 refine aa (ka _ (H3.g 2 Z) (hG.keep H3.keep (fun k hk=>by rcases hk with h|h<;>omega)) hN63 (H3.g 0 Z) (by omega) h4 (by omega) (hr.keep H3.keep fun a ha h=>by have:=hA a ha;rcases h with h|h<;>omega) (fun a ha=>by have:=hA a ha;omega) hNC (by simp) (by omega) (by omega) (by omega) ho) ?_
 rintro e w5 ⟨rfl,j⟩
 rw[←hys]at j
 have H6:=H3.ky 2 0 rfl rfl j (fun _ h=>h)
 refine⟨_,Z,mv (.tuple #[.i 68,.n]) Z (we (.i 68) Z Z (we (.n) Z Z (ai 68 Z (av (.n) Z (wn (sr (mv (.n) Z (wv Z ((nn false bI Z (.inl Z))) (wn (al Z ?_))))))))))⟩
 refine wk (ad (bZ MX (fun w'=>True) (tp 0 6 (Plan.run 6 Plan.done)) (by kernel_rfl) ?_))
 have H7:=H6.drew
 have c:(fun w'=>True) w5.drew:=trivial
 refine py Z c (am (v:= .pt hb) Z) (py Z c (ah Z) (py Z c (ab (o:=0) uq Z) (pt Z c (fun _ hS=>(bP (o:=0) (l:=0) (h:=16) jQ Z (bu _ _) (bu _ _) (by omega) (by omega):Yv _ _ _ _ (.sl hb 0 16 16) _)) (py Z c (am (v:= .sl g1 0 68 68) Z) (pt Z c (fun _ hS=>(aq (l:=0) (h:=16) aZ Z (bs Z (by omega) Z) (bs Z (by omega) Z) (by omega) (by omega) (by omega) Z:Yv _ _ _ _ (.sl g1 0 16 68) _)) (pr Z (ku H7 2 (m:=16) (k:=0) (cs':= [.e (ys.getD (0+0) 0),.e (ys.getD (0+1) 0),.e (ys.getD (0+2) 0),.e (ys.getD (0+3) 0),.e (ys.getD (0+4) 0),.e (ys.getD (0+5) 0),.e (ys.getD (0+6) 0),.e (ys.getD (0+7) 0),.e (ys.getD (0+8) 0),.e (ys.getD (0+9) 0),.e (ys.getD (0+10) 0),.e (ys.getD (0+11) 0),.e (ys.getD (0+12) 0),.e (ys.getD (0+13) 0),.e (ys.getD (0+14) 0),.e (ys.getD (0+15) 0),.e 0,.e 0,.e 0,.e 0,.e 0,.e 0,.e 0,.e 0,.e 0,.e 0,.e 0,.e 0,.e 0,.e 0,.e 0,.e 0,.w 0,.w 0,.w 0,.w 0,.w 0,.w 0,.w 0,.w 0,.w 0]) Z bB wF Z Z (aj (H7.g 1 Z) hyl) Z (by omega) (nl Z) Z (fun w9 R=> ?_))))))))
 have q:(fun w'=>True) w9:=trivial
 refine⟨q,bC (ac (ad (bZ MX (fun w'=>True) (tp 0 6 (Plan.run 6 Plan.done)) (by kernel_rfl) ?_)))⟩
 have r:=R.drew
 have b:(fun w'=>True) w9.drew:=trivial
 refine py Z b (am (v:= .pt hb) Z) (py Z b (ah Z) (py Z b (ab (o:=0) up Z) (pt Z b (fun _ hS=>(bP (o:=16) (l:=0) (h:=16) jQ Z (bu _ _) (bu _ _) (by omega) (by omega):Yv _ _ _ _ (.sl hb 16 16 16) _)) (py Z b (am (v:= .sl g1 0 68 68) Z) (pt Z b (fun _ hS=>(aq (l:=16) (h:=32) aZ Z (bs Z (by omega) Z) (bs Z (by omega) Z) (by omega) (by omega) (by omega) Z:Yv _ _ _ _ (.sl g1 16 16 52) _)) (pr Z (ku r 2 (m:=16) (k:=16) (cs':= [.e (ys.getD (0+0) 0),.e (ys.getD (0+1) 0),.e (ys.getD (0+2) 0),.e (ys.getD (0+3) 0),.e (ys.getD (0+4) 0),.e (ys.getD (0+5) 0),.e (ys.getD (0+6) 0),.e (ys.getD (0+7) 0),.e (ys.getD (0+8) 0),.e (ys.getD (0+9) 0),.e (ys.getD (0+10) 0),.e (ys.getD (0+11) 0),.e (ys.getD (0+12) 0),.e (ys.getD (0+13) 0),.e (ys.getD (0+14) 0),.e (ys.getD (0+15) 0),.e (ys.getD (16+0) 0),.e (ys.getD (16+1) 0),.e (ys.getD (16+2) 0),.e (ys.getD (16+3) 0),.e (ys.getD (16+4) 0),.e (ys.getD (16+5) 0),.e (ys.getD (16+6) 0),.e (ys.getD (16+7) 0),.e (ys.getD (16+8) 0),.e (ys.getD (16+9) 0),.e (ys.getD (16+10) 0),.e (ys.getD (16+11) 0),.e (ys.getD (16+12) 0),.e (ys.getD (16+13) 0),.e (ys.getD (16+14) 0),.e (ys.getD (16+15) 0),.w 0,.w 0,.w 0,.w 0,.w 0,.w 0,.w 0,.w 0,.w 0]) Z bB wF Z Z (aj (r.g 1 Z) hyl) Z (by omega) (nl Z) Z (fun S t=> ?_))))))))
 have u:(fun w'=>True) S:=trivial
 refine⟨u,bC (ac (sr (mp hb 0 Z (mv (.e (bo big)) Z (ms g1 0 68 68 Z (wv Z ((aq (l:=32) (h:=68) aZ Z (bs Z (by omega) Z) bn (by omega) (by omega) (by omega) Z:Yv _ _ _ _ (.sl g1 32 36 36) _)) (wE [.e (bo big),.sl g1 32 36 36] bW Z Z (aa (aM big _ ((aj (t.g 1 Z) hyl).drop_ 32) (hby.drop 32) (by omega) (by omega)) ?_))))))))⟩
 rintro e ao ⟨rfl,x⟩
 have T:=t.cal0 x
 refine⟨_,Z,wc Z (wf uo Z (ws (es T 2 32 (.w (n4 big (ys.drop 32))) Z ax (fun ap y=> ?_))))⟩
 refine wn (sr (mp hb 0 Z (mv (.e (bo big)) Z (ms g1 0 68 68 Z (wv Z ((aq (l:=36) (h:=68) aZ Z (bs Z (by omega) Z) bn (by omega) (by omega) (by omega) Z:Yv _ _ _ _ (.sl g1 36 32 32) _)) (wE [.e (bo big),.sl g1 36 32 32] bW Z Z (aa (aM big _ ((aj (y.g 1 Z) hyl).drop_ 36) (hby.drop 36) (by omega) (by omega)) ?_)))))))
 rintro e ar ⟨rfl,z⟩
 have U:=y.cal0 z
 refine⟨_,Z,wc Z (wf un Z (ws (es U 2 33 (.w (n4 big (ys.drop 36))) Z ax (fun au B=> ?_))))⟩
 refine wn (sr (mp hb 0 Z (mv (.e (bo big)) Z (ms g1 0 68 68 Z (wv Z ((aq (l:=40) (h:=68) aZ Z (bs Z (by omega) Z) bn (by omega) (by omega) (by omega) Z:Yv _ _ _ _ (.sl g1 40 28 28) _)) (wE [.e (bo big),.sl g1 40 28 28] bW Z Z (aa (aM big _ ((aj (B.g 1 Z) hyl).drop_ 40) (hby.drop 40) (by omega) (by omega)) ?_)))))))
 rintro e aw ⟨rfl,D⟩
 have V:=B.cal0 D
 refine⟨_,Z,wc Z (wf um Z (ws (es V 2 34 (.w (n4 big (ys.drop 40))) Z ax (fun ay E=> ?_))))⟩
 refine wn (sr (mp hb 0 Z (mv (.e (bo big)) Z (ms g1 0 68 68 Z (wv Z ((aq (l:=44) (h:=68) aZ Z (bs Z (by omega) Z) bn (by omega) (by omega) (by omega) Z:Yv _ _ _ _ (.sl g1 44 24 24) _)) (wE [.e (bo big),.sl g1 44 24 24] bW Z Z (aa (aM big _ ((aj (E.g 1 Z) hyl).drop_ 44) (hby.drop 44) (by omega) (by omega)) ?_)))))))
 rintro e az ⟨rfl,F⟩
 have W:=E.cal0 F
 refine⟨_,Z,wc Z (wf ul Z (ws (es W 2 35 (.w (n4 big (ys.drop 44))) Z ax (fun a2 G=> ?_))))⟩
 refine wn (sr (mp hb 0 Z (mv (.e (bo big)) Z (ms g1 0 68 68 Z (wv Z ((aq (l:=48) (h:=68) aZ Z (bs Z (by omega) Z) bn (by omega) (by omega) (by omega) Z:Yv _ _ _ _ (.sl g1 48 20 20) _)) (wE [.e (bo big),.sl g1 48 20 20] bW Z Z (aa (aM big _ ((aj (G.g 1 Z) hyl).drop_ 48) (hby.drop 48) (by omega) (by omega)) ?_)))))))
 rintro e a3 ⟨rfl,H⟩
 have X:=G.cal0 H
 refine⟨_,Z,wc Z (wf uk Z (ws (es X 2 36 (.w (n4 big (ys.drop 48))) Z ax (fun a4 I=> ?_))))⟩
 refine wn (sr (mp hb 0 Z (mv (.e (bo big)) Z (ms g1 0 68 68 Z (wv Z ((aq (l:=52) (h:=68) aZ Z (bs Z (by omega) Z) bn (by omega) (by omega) (by omega) Z:Yv _ _ _ _ (.sl g1 52 16 16) _)) (wE [.e (bo big),.sl g1 52 16 16] bW Z Z (aa (aM big _ ((aj (I.g 1 Z) hyl).drop_ 52) (hby.drop 52) (by omega) (by omega)) ?_)))))))
 rintro e a5 ⟨rfl,J⟩
 have Y:=I.cal0 J
 refine⟨_,Z,wc Z (wf uj Z (ws (es Y 2 37 (.w (n4 big (ys.drop 52))) Z ax (fun a6 K=> ?_))))⟩
 refine wn (sr (mp hb 0 Z (mv (.e (bo big)) Z (ms g1 0 68 68 Z (wv Z ((aq (l:=56) (h:=68) aZ Z (bs Z (by omega) Z) bn (by omega) (by omega) (by omega) Z:Yv _ _ _ _ (.sl g1 56 12 12) _)) (wE [.e (bo big),.sl g1 56 12 12] bW Z Z (aa (aM big _ ((aj (K.g 1 Z) hyl).drop_ 56) (hby.drop 56) (by omega) (by omega)) ?_)))))))
 rintro e a7 ⟨rfl,L⟩
 have ae:=K.cal0 L
 refine⟨_,Z,wc Z (wf ui Z (ws (es ae 2 38 (.w (n4 big (ys.drop 56))) Z ax (fun a8 M=> ?_))))⟩
 refine wn (sr (mp hb 0 Z (mv (.e (bo big)) Z (ms g1 0 68 68 Z (wv Z ((aq (l:=60) (h:=68) aZ Z (bs Z (by omega) Z) bn (by omega) (by omega) (by omega) Z:Yv _ _ _ _ (.sl g1 60 8 8) _)) (wE [.e (bo big),.sl g1 60 8 8] bW Z Z (aa (aM big _ ((aj (M.g 1 Z) hyl).drop_ 60) (hby.drop 60) (by omega) (by omega)) ?_)))))))
 rintro e a9 ⟨rfl,O⟩
 have af:=M.cal0 O
 refine⟨_,Z,wc Z (wf yX Z (ws (es af 2 39 (.w (n4 big (ys.drop 60))) Z ax (fun aB P=> ?_))))⟩
 refine wn (sr (mp hb 0 Z (mv (.e (bo big)) Z (ms g1 0 68 68 Z (wv Z ((aq (l:=64) (h:=68) aZ Z (bs Z (by omega) Z) bn (by omega) (by omega) (by omega) Z:Yv _ _ _ _ (.sl g1 64 4 4) _)) (wE [.e (bo big),.sl g1 64 4 4] bW Z Z (aa (aM big _ ((aj (P.g 1 Z) hyl).drop_ 64) (hby.drop 64) (by omega) (by omega)) ?_)))))))
 rintro e aC ⟨rfl,Q⟩
 have ag:=P.cal0 Q
 refine⟨_,Z,wc Z (wf xZ Z (ws (es ag 2 40 (.w (n4 big (ys.drop 64))) Z ax (fun aD ak=> ?_))))⟩
 refine wn (sr (av (.n) Z (wn (aY ?_))))
 exact⟨.inr Z,_,r1 (.n) Z _ _,⟨Z,(ak.drop 1).perm (.swap ..)⟩⟩
theorem lg{hb rb N C i:Nat}{A:Option Addr}{p:Int}{xs ys:List Int}{a0 a1:Addr}(big:Bool)(w:World)(hh:(an hb [.e 0,.e 0,.e 0,.e 0,.e 0,.e 0,.e 0,.e 0,.e 0,.e 0,.e 0,.e 0,.e 0,.e 0,.e 0,.e 0,.e 0,.e 0,.e 0,.e 0,.e 0,.e 0,.e 0,.e 0,.e 0,.e 0,.e 0,.e 0,.e 0,.e 0,.e 0,.e 0,.w 0,.w 0,.w 0,.w 0,.w 0,.w 0,.w 0,.w 0,.w 0] 183).φ w)(hrb:(an rb [.s A N C,.i (↑i),.i (p)] 190).φ w)(hG:Glob 224 w a0 a1)(hNC:N≤C)(hN63:N≤9223372036854775807)(hr:RI .u8 w A N xs)(hby0:Byt xs)(hA: ∀a,A=some a → a.block<w.heap.size∧a.block≠rb∧a.block≠hb)(hb4:4≤hb)(hw4:4≤w.heap.size)(h4:4≤rb)(hne:hb≠rb)(ho:N<i+68):
 Calls Tryd.prog 60 #[.pt hb,.f 109 (.pt rb),.e (bo big)] w fun e w'=> ∃T v,e= .returned (.f T v)∧St w (fun k=>k=hb∨k=rb) [] w':=by
 refine aA (args:= [.pt hb,.f 109 (.pt rb),.e (bo big)]) Tryd.func60 Z Z Z ?_
 have H0:St _ _ [an hb [.e 0,.e 0,.e 0,.e 0,.e 0,.e 0,.e 0,.e 0,.e 0,.e 0,.e 0,.e 0,.e 0,.e 0,.e 0,.e 0,.e 0,.e 0,.e 0,.e 0,.e 0,.e 0,.e 0,.e 0,.e 0,.e 0,.e 0,.e 0,.e 0,.e 0,.e 0,.e 0,.w 0,.w 0,.w 0,.w 0,.w 0,.w 0,.w 0,.w 0,.w 0] 183,an rb [.s A N C,.i (↑i),.i p] 190] _:=((St.nil w (fun k=>k=hb∨k=rb)).add _ hrb (fun _ h=> .inr h) (by simp)).add _ hh (fun _ h=> .inl h) (by simp only[List.mem_singleton];rintro s rfl g h1 h2;exact hne (h1.symm.trans h2))
 refine sr (av (.n) Z (wn (sr (wm Z (bJ H0 (n:=68) (m:=68) bB fx Z Z Z Z Z (by omega) (by omega) (by omega) (fun g1 w2 b H3=>eL g1 0 68 68 Z (wn (ad (sr (mv (.f 109 (.pt rb)) Z (ms g1 0 68 68 Z ?_)))))))))))
 refine wE [.f 109 (.pt rb),.sl g1 0 68 68] jr Z Z ?_
 have hgw:w.heap.size≤g1:=Nat.le_trans H0.keep.size b
 have hbl:hb<w.heap.size:=aG hh
 have hrl:rb<w.heap.size:=aG hrb
 refine aa (kd _ (H3.g 2 Z) (hG.keep H3.keep (fun k hk=>by rcases hk with h|h<;>omega)) hN63 (H3.g 0 Z) (by omega) h4 (by omega) (hr.keep H3.keep fun a ha h=>by have:=hA a ha;rcases h with h|h<;>omega) (fun a ha=>by have:=hA a ha;omega) hNC (by simp) (by omega) (by omega) (by omega) ho) ?_
 rintro e w5 ⟨x,T,v,rfl,c⟩
 have H6:=H3.ky 2 0 rfl rfl c (fun _ h=>h)
 refine⟨_,Z,mv (.tuple #[x,.f T v]) Z (we x Z Z (we (.f T v) Z Z (av x Z (av (.f T v) Z (wn (sr (mv (.f T v) Z (wv Z ((nn true bI Z (.inr ⟨_,_,Z⟩))) (wn (aB Z ?_))))))))))⟩
 refine sr (mv (.f T v) Z (av (.f T v) Z (wn (rq ?_))))
 exact⟨.inr Z,_,r1 (.f T v) Z _ _,⟨_,_,Z,H6.sub (List.nil_sublist _)⟩⟩
theorem lI{hb rb N C i:Nat}{A:Option Addr}{p:Int}{xs ys:List Int}{a0 a1:Addr}(big:Bool)(w:World)(hh:(an hb [.e 0,.e 0,.e 0,.e 0,.e 0,.e 0,.e 0,.e 0,.e 0,.e 0,.e 0,.e 0,.e 0,.e 0,.e 0,.e 0,.e 0,.e 0,.e 0,.e 0,.e 0,.e 0,.e 0,.e 0,.e 0,.e 0,.e 0,.e 0,.e 0,.e 0,.e 0,.e 0,.q 0,.q 0,.w 0,.w 0,.w 0,.w 0,.w 0,.w 0,.w 0,.w 0] 188).φ w)(hrb:(an rb [.s A N C,.i (↑i),.i (p)] 190).φ w)(hG:Glob 224 w a0 a1)(hNC:N≤C)(hN63:N≤9223372036854775807)(hr:RI .u8 w A N xs)(hby0:Byt xs)(hA: ∀a,A=some a → a.block<w.heap.size∧a.block≠rb∧a.block≠hb)(hb4:4≤hb)(hw4:4≤w.heap.size)(h4:4≤rb)(hne:hb≠rb)(ho:i+80≤N)(hys:ys=(xs.drop i).take 80):
 Calls Tryd.prog 63 #[.pt hb,.f 109 (.pt rb),.e (bo big)] w fun e w'=>e= .returned .n∧St w (fun k=>k=hb∨k=rb) [an hb [.e (ys.getD (0+0) 0),.e (ys.getD (0+1) 0),.e (ys.getD (0+2) 0),.e (ys.getD (0+3) 0),.e (ys.getD (0+4) 0),.e (ys.getD (0+5) 0),.e (ys.getD (0+6) 0),.e (ys.getD (0+7) 0),.e (ys.getD (0+8) 0),.e (ys.getD (0+9) 0),.e (ys.getD (0+10) 0),.e (ys.getD (0+11) 0),.e (ys.getD (0+12) 0),.e (ys.getD (0+13) 0),.e (ys.getD (0+14) 0),.e (ys.getD (0+15) 0),.e (ys.getD (16+0) 0),.e (ys.getD (16+1) 0),.e (ys.getD (16+2) 0),.e (ys.getD (16+3) 0),.e (ys.getD (16+4) 0),.e (ys.getD (16+5) 0),.e (ys.getD (16+6) 0),.e (ys.getD (16+7) 0),.e (ys.getD (16+8) 0),.e (ys.getD (16+9) 0),.e (ys.getD (16+10) 0),.e (ys.getD (16+11) 0),.e (ys.getD (16+12) 0),.e (ys.getD (16+13) 0),.e (ys.getD (16+14) 0),.e (ys.getD (16+15) 0),.q (n8 big (ys.drop 32)),.q (n8 big (ys.drop 40)),.w (n4 big (ys.drop 48)),.w (n4 big (ys.drop 52)),.w (n4 big (ys.drop 56)),.w (n4 big (ys.drop 60)),.w (n4 big (ys.drop 64)),.w (n4 big (ys.drop 68)),.w (n4 big (ys.drop 72)),.w (n4 big (ys.drop 76))] 188,an rb [.s A N C,.i (↑i+80),.i (-1)] 190] w':=by
 have hyl:ys.length=80:=by rw[hys,List.length_take,List.length_drop,hr.1];omega
 have hby:Byt ys:=by rw[hys];exact(hby0.drop _).take _
 refine aA (args:= [.pt hb,.f 109 (.pt rb),.e (bo big)]) Tryd.func63 Z Z Z ?_
 have H0:St _ _ [an hb [.e 0,.e 0,.e 0,.e 0,.e 0,.e 0,.e 0,.e 0,.e 0,.e 0,.e 0,.e 0,.e 0,.e 0,.e 0,.e 0,.e 0,.e 0,.e 0,.e 0,.e 0,.e 0,.e 0,.e 0,.e 0,.e 0,.e 0,.e 0,.e 0,.e 0,.e 0,.e 0,.q 0,.q 0,.w 0,.w 0,.w 0,.w 0,.w 0,.w 0,.w 0,.w 0] 188,an rb [.s A N C,.i (↑i),.i p] 190] _:=((St.nil w (fun k=>k=hb∨k=rb)).add _ hrb (fun _ h=> .inr h) (by simp)).add _ hh (fun _ h=> .inl h) (by simp only[List.mem_singleton];rintro s rfl g h1 h2;exact hne (h1.symm.trans h2))
 refine sr (av (.n) Z (wn (sr (wm Z (bJ H0 (n:=80) (m:=80) bB fx Z Z Z Z Z (by omega) (by omega) (by omega) (fun g1 w2 d H3=>eL g1 0 80 80 Z (wn (ad (sr (mv (.f 109 (.pt rb)) Z (ms g1 0 80 80 Z ?_)))))))))))
 refine wE [.f 109 (.pt rb),.sl g1 0 80 80] jr Z Z ?_
 have hgw:w.heap.size≤g1:=Nat.le_trans H0.keep.size d
 have hbl:hb<w.heap.size:=aG hh
 have hrl:rb<w.heap.size:=aG hrb
 refine aa (ka _ (H3.g 2 Z) (hG.keep H3.keep (fun k hk=>by rcases hk with h|h<;>omega)) hN63 (H3.g 0 Z) (by omega) h4 (by omega) (hr.keep H3.keep fun a ha h=>by have:=hA a ha;rcases h with h|h<;>omega) (fun a ha=>by have:=hA a ha;omega) hNC (by simp) (by omega) (by omega) (by omega) ho) ?_
 rintro e w5 ⟨rfl,j⟩
 rw[←hys]at j
 have H6:=H3.ky 2 0 rfl rfl j (fun _ h=>h)
 refine⟨_,Z,mv (.tuple #[.i 80,.n]) Z (we (.i 80) Z Z (we (.n) Z Z (ai 80 Z (av (.n) Z (wn (sr (mv (.n) Z (wv Z ((nn false bI Z (.inl Z))) (wn (al Z ?_))))))))))⟩
 refine wk (ad (bZ MX (fun w'=>True) (tp 0 6 (Plan.run 6 Plan.done)) (by kernel_rfl) ?_))
 have H7:=H6.drew
 have c:(fun w'=>True) w5.drew:=trivial
 refine py Z c (am (v:= .pt hb) Z) (py Z c (ah Z) (py Z c (ab (o:=0) tZ Z) (pt Z c (fun _ hS=>(bP (o:=0) (l:=0) (h:=16) jQ Z (bu _ _) (bu _ _) (by omega) (by omega):Yv _ _ _ _ (.sl hb 0 16 16) _)) (py Z c (am (v:= .sl g1 0 80 80) Z) (pt Z c (fun _ hS=>(aq (l:=0) (h:=16) aZ Z (bs Z (by omega) Z) (bs Z (by omega) Z) (by omega) (by omega) (by omega) Z:Yv _ _ _ _ (.sl g1 0 16 80) _)) (pr Z (ku H7 2 (m:=16) (k:=0) (cs':= [.e (ys.getD (0+0) 0),.e (ys.getD (0+1) 0),.e (ys.getD (0+2) 0),.e (ys.getD (0+3) 0),.e (ys.getD (0+4) 0),.e (ys.getD (0+5) 0),.e (ys.getD (0+6) 0),.e (ys.getD (0+7) 0),.e (ys.getD (0+8) 0),.e (ys.getD (0+9) 0),.e (ys.getD (0+10) 0),.e (ys.getD (0+11) 0),.e (ys.getD (0+12) 0),.e (ys.getD (0+13) 0),.e (ys.getD (0+14) 0),.e (ys.getD (0+15) 0),.e 0,.e 0,.e 0,.e 0,.e 0,.e 0,.e 0,.e 0,.e 0,.e 0,.e 0,.e 0,.e 0,.e 0,.e 0,.e 0,.q 0,.q 0,.w 0,.w 0,.w 0,.w 0,.w 0,.w 0,.w 0,.w 0]) Z bB wF Z Z (aj (H7.g 1 Z) hyl) Z (by omega) (nl Z) Z (fun w9 U=> ?_))))))))
 have r:(fun w'=>True) w9:=trivial
 refine⟨r,bC (ac (ad (bZ MX (fun w'=>True) (tp 0 6 (Plan.run 6 Plan.done)) (by kernel_rfl) ?_)))⟩
 have t:=U.drew
 have b:(fun w'=>True) w9.drew:=trivial
 refine py Z b (am (v:= .pt hb) Z) (py Z b (ah Z) (py Z b (ab (o:=0) tY Z) (pt Z b (fun _ hS=>(bP (o:=16) (l:=0) (h:=16) jQ Z (bu _ _) (bu _ _) (by omega) (by omega):Yv _ _ _ _ (.sl hb 16 16 16) _)) (py Z b (am (v:= .sl g1 0 80 80) Z) (pt Z b (fun _ hS=>(aq (l:=16) (h:=32) aZ Z (bs Z (by omega) Z) (bs Z (by omega) Z) (by omega) (by omega) (by omega) Z:Yv _ _ _ _ (.sl g1 16 16 64) _)) (pr Z (ku t 2 (m:=16) (k:=16) (cs':= [.e (ys.getD (0+0) 0),.e (ys.getD (0+1) 0),.e (ys.getD (0+2) 0),.e (ys.getD (0+3) 0),.e (ys.getD (0+4) 0),.e (ys.getD (0+5) 0),.e (ys.getD (0+6) 0),.e (ys.getD (0+7) 0),.e (ys.getD (0+8) 0),.e (ys.getD (0+9) 0),.e (ys.getD (0+10) 0),.e (ys.getD (0+11) 0),.e (ys.getD (0+12) 0),.e (ys.getD (0+13) 0),.e (ys.getD (0+14) 0),.e (ys.getD (0+15) 0),.e (ys.getD (16+0) 0),.e (ys.getD (16+1) 0),.e (ys.getD (16+2) 0),.e (ys.getD (16+3) 0),.e (ys.getD (16+4) 0),.e (ys.getD (16+5) 0),.e (ys.getD (16+6) 0),.e (ys.getD (16+7) 0),.e (ys.getD (16+8) 0),.e (ys.getD (16+9) 0),.e (ys.getD (16+10) 0),.e (ys.getD (16+11) 0),.e (ys.getD (16+12) 0),.e (ys.getD (16+13) 0),.e (ys.getD (16+14) 0),.e (ys.getD (16+15) 0),.q 0,.q 0,.w 0,.w 0,.w 0,.w 0,.w 0,.w 0,.w 0,.w 0]) Z bB wF Z Z (aj (t.g 1 Z) hyl) Z (by omega) (nl Z) Z (fun V u=> ?_))))))))
 have x:(fun w'=>True) V:=trivial
 refine⟨x,bC (ac (sr (mp hb 0 Z (mv (.e (bo big)) Z (ms g1 0 80 80 Z (wv Z ((aq (l:=32) (h:=80) aZ Z (bs Z (by omega) Z) bn (by omega) (by omega) (by omega) Z:Yv _ _ _ _ (.sl g1 32 48 48) _)) (wE [.e (bo big),.sl g1 32 48 48] tu Z Z (aa (iC big _ ((aj (u.g 1 Z) hyl).drop_ 32) (hby.drop 32) (by omega) (by omega)) ?_))))))))⟩
 rintro e aw ⟨rfl,y⟩
 have W:=u.cal0 y
 refine⟨_,Z,wc Z (wf tX Z (ws (es W 2 32 (.q (n8 big (ys.drop 32))) Z aP (fun ay z=> ?_))))⟩
 refine wn (sr (mp hb 0 Z (mv (.e (bo big)) Z (ms g1 0 80 80 Z (wv Z ((aq (l:=40) (h:=80) aZ Z (bs Z (by omega) Z) bn (by omega) (by omega) (by omega) Z:Yv _ _ _ _ (.sl g1 40 40 40) _)) (wE [.e (bo big),.sl g1 40 40 40] tu Z Z (aa (iC big _ ((aj (z.g 1 Z) hyl).drop_ 40) (hby.drop 40) (by omega) (by omega)) ?_)))))))
 rintro e az ⟨rfl,B⟩
 have X:=z.cal0 B
 refine⟨_,Z,wc Z (wf tW Z (ws (es X 2 33 (.q (n8 big (ys.drop 40))) Z aP (fun a2 D=> ?_))))⟩
 refine wn (sr (mp hb 0 Z (mv (.e (bo big)) Z (ms g1 0 80 80 Z (wv Z ((aq (l:=48) (h:=80) aZ Z (bs Z (by omega) Z) bn (by omega) (by omega) (by omega) Z:Yv _ _ _ _ (.sl g1 48 32 32) _)) (wE [.e (bo big),.sl g1 48 32 32] bW Z Z (aa (aM big _ ((aj (D.g 1 Z) hyl).drop_ 48) (hby.drop 48) (by omega) (by omega)) ?_)))))))
 rintro e a3 ⟨rfl,E⟩
 have Y:=D.cal0 E
 refine⟨_,Z,wc Z (wf tV Z (ws (es Y 2 34 (.w (n4 big (ys.drop 48))) Z ax (fun a4 F=> ?_))))⟩
 refine wn (sr (mp hb 0 Z (mv (.e (bo big)) Z (ms g1 0 80 80 Z (wv Z ((aq (l:=52) (h:=80) aZ Z (bs Z (by omega) Z) bn (by omega) (by omega) (by omega) Z:Yv _ _ _ _ (.sl g1 52 28 28) _)) (wE [.e (bo big),.sl g1 52 28 28] bW Z Z (aa (aM big _ ((aj (F.g 1 Z) hyl).drop_ 52) (hby.drop 52) (by omega) (by omega)) ?_)))))))
 rintro e a5 ⟨rfl,G⟩
 have ae:=F.cal0 G
 refine⟨_,Z,wc Z (wf tU Z (ws (es ae 2 35 (.w (n4 big (ys.drop 52))) Z ax (fun a6 H=> ?_))))⟩
 refine wn (sr (mp hb 0 Z (mv (.e (bo big)) Z (ms g1 0 80 80 Z (wv Z ((aq (l:=56) (h:=80) aZ Z (bs Z (by omega) Z) bn (by omega) (by omega) (by omega) Z:Yv _ _ _ _ (.sl g1 56 24 24) _)) (wE [.e (bo big),.sl g1 56 24 24] bW Z Z (aa (aM big _ ((aj (H.g 1 Z) hyl).drop_ 56) (hby.drop 56) (by omega) (by omega)) ?_)))))))
 rintro e a7 ⟨rfl,I⟩
 have af:=H.cal0 I
 refine⟨_,Z,wc Z (wf tT Z (ws (es af 2 36 (.w (n4 big (ys.drop 56))) Z ax (fun a8 J=> ?_))))⟩
 refine wn (sr (mp hb 0 Z (mv (.e (bo big)) Z (ms g1 0 80 80 Z (wv Z ((aq (l:=60) (h:=80) aZ Z (bs Z (by omega) Z) bn (by omega) (by omega) (by omega) Z:Yv _ _ _ _ (.sl g1 60 20 20) _)) (wE [.e (bo big),.sl g1 60 20 20] bW Z Z (aa (aM big _ ((aj (J.g 1 Z) hyl).drop_ 60) (hby.drop 60) (by omega) (by omega)) ?_)))))))
 rintro e a9 ⟨rfl,K⟩
 have ag:=J.cal0 K
 refine⟨_,Z,wc Z (wf tS Z (ws (es ag 2 37 (.w (n4 big (ys.drop 60))) Z ax (fun aB L=> ?_))))⟩
 refine wn (sr (mp hb 0 Z (mv (.e (bo big)) Z (ms g1 0 80 80 Z (wv Z ((aq (l:=64) (h:=80) aZ Z (bs Z (by omega) Z) bn (by omega) (by omega) (by omega) Z:Yv _ _ _ _ (.sl g1 64 16 16) _)) (wE [.e (bo big),.sl g1 64 16 16] bW Z Z (aa (aM big _ ((aj (L.g 1 Z) hyl).drop_ 64) (hby.drop 64) (by omega) (by omega)) ?_)))))))
 rintro e aC ⟨rfl,M⟩
 have ak:=L.cal0 M
 refine⟨_,Z,wc Z (wf tR Z (ws (es ak 2 38 (.w (n4 big (ys.drop 64))) Z ax (fun aD O=> ?_))))⟩
 refine wn (sr (mp hb 0 Z (mv (.e (bo big)) Z (ms g1 0 80 80 Z (wv Z ((aq (l:=68) (h:=80) aZ Z (bs Z (by omega) Z) bn (by omega) (by omega) (by omega) Z:Yv _ _ _ _ (.sl g1 68 12 12) _)) (wE [.e (bo big),.sl g1 68 12 12] bW Z Z (aa (aM big _ ((aj (O.g 1 Z) hyl).drop_ 68) (hby.drop 68) (by omega) (by omega)) ?_)))))))
 rintro e aE ⟨rfl,P⟩
 have ao:=O.cal0 P
 refine⟨_,Z,wc Z (wf yU Z (ws (es ao 2 39 (.w (n4 big (ys.drop 68))) Z ax (fun aF Q=> ?_))))⟩
 refine wn (sr (mp hb 0 Z (mv (.e (bo big)) Z (ms g1 0 80 80 Z (wv Z ((aq (l:=72) (h:=80) aZ Z (bs Z (by omega) Z) bn (by omega) (by omega) (by omega) Z:Yv _ _ _ _ (.sl g1 72 8 8) _)) (wE [.e (bo big),.sl g1 72 8 8] bW Z Z (aa (aM big _ ((aj (Q.g 1 Z) hyl).drop_ 72) (hby.drop 72) (by omega) (by omega)) ?_)))))))
 rintro e aH ⟨rfl,R⟩
 have ap:=Q.cal0 R
 refine⟨_,Z,wc Z (wf xY Z (ws (es ap 2 40 (.w (n4 big (ys.drop 72))) Z ax (fun aI S=> ?_))))⟩
 refine wn (sr (mp hb 0 Z (mv (.e (bo big)) Z (ms g1 0 80 80 Z (wv Z ((aq (l:=76) (h:=80) aZ Z (bs Z (by omega) Z) bn (by omega) (by omega) (by omega) Z:Yv _ _ _ _ (.sl g1 76 4 4) _)) (wE [.e (bo big),.sl g1 76 4 4] bW Z Z (aa (aM big _ ((aj (S.g 1 Z) hyl).drop_ 76) (hby.drop 76) (by omega) (by omega)) ?_)))))))
 rintro e aJ ⟨rfl,T⟩
 have ar:=S.cal0 T
 refine⟨_,Z,wc Z (wf xX Z (ws (es ar 2 41 (.w (n4 big (ys.drop 76))) Z ax (fun aK au=> ?_))))⟩
 refine wn (sr (av (.n) Z (wn (aY ?_))))
 exact⟨.inr Z,_,r1 (.n) Z _ _,⟨Z,(au.drop 1).perm (.swap ..)⟩⟩
theorem lf{hb rb N C i:Nat}{A:Option Addr}{p:Int}{xs ys:List Int}{a0 a1:Addr}(big:Bool)(w:World)(hh:(an hb [.e 0,.e 0,.e 0,.e 0,.e 0,.e 0,.e 0,.e 0,.e 0,.e 0,.e 0,.e 0,.e 0,.e 0,.e 0,.e 0,.e 0,.e 0,.e 0,.e 0,.e 0,.e 0,.e 0,.e 0,.e 0,.e 0,.e 0,.e 0,.e 0,.e 0,.e 0,.e 0,.q 0,.q 0,.w 0,.w 0,.w 0,.w 0,.w 0,.w 0,.w 0,.w 0] 188).φ w)(hrb:(an rb [.s A N C,.i (↑i),.i (p)] 190).φ w)(hG:Glob 224 w a0 a1)(hNC:N≤C)(hN63:N≤9223372036854775807)(hr:RI .u8 w A N xs)(hby0:Byt xs)(hA: ∀a,A=some a → a.block<w.heap.size∧a.block≠rb∧a.block≠hb)(hb4:4≤hb)(hw4:4≤w.heap.size)(h4:4≤rb)(hne:hb≠rb)(ho:N<i+80):
 Calls Tryd.prog 63 #[.pt hb,.f 109 (.pt rb),.e (bo big)] w fun e w'=> ∃T v,e= .returned (.f T v)∧St w (fun k=>k=hb∨k=rb) [] w':=by
 refine aA (args:= [.pt hb,.f 109 (.pt rb),.e (bo big)]) Tryd.func63 Z Z Z ?_
 have H0:St _ _ [an hb [.e 0,.e 0,.e 0,.e 0,.e 0,.e 0,.e 0,.e 0,.e 0,.e 0,.e 0,.e 0,.e 0,.e 0,.e 0,.e 0,.e 0,.e 0,.e 0,.e 0,.e 0,.e 0,.e 0,.e 0,.e 0,.e 0,.e 0,.e 0,.e 0,.e 0,.e 0,.e 0,.q 0,.q 0,.w 0,.w 0,.w 0,.w 0,.w 0,.w 0,.w 0,.w 0] 188,an rb [.s A N C,.i (↑i),.i p] 190] _:=((St.nil w (fun k=>k=hb∨k=rb)).add _ hrb (fun _ h=> .inr h) (by simp)).add _ hh (fun _ h=> .inl h) (by simp only[List.mem_singleton];rintro s rfl g h1 h2;exact hne (h1.symm.trans h2))
 refine sr (av (.n) Z (wn (sr (wm Z (bJ H0 (n:=80) (m:=80) bB fx Z Z Z Z Z (by omega) (by omega) (by omega) (fun g1 w2 b H3=>eL g1 0 80 80 Z (wn (ad (sr (mv (.f 109 (.pt rb)) Z (ms g1 0 80 80 Z ?_)))))))))))
 refine wE [.f 109 (.pt rb),.sl g1 0 80 80] jr Z Z ?_
 have hgw:w.heap.size≤g1:=Nat.le_trans H0.keep.size b
 have hbl:hb<w.heap.size:=aG hh
 have hrl:rb<w.heap.size:=aG hrb
 refine aa (kd _ (H3.g 2 Z) (hG.keep H3.keep (fun k hk=>by rcases hk with h|h<;>omega)) hN63 (H3.g 0 Z) (by omega) h4 (by omega) (hr.keep H3.keep fun a ha h=>by have:=hA a ha;rcases h with h|h<;>omega) (fun a ha=>by have:=hA a ha;omega) hNC (by simp) (by omega) (by omega) (by omega) ho) ?_
 rintro e w5 ⟨x,T,v,rfl,c⟩
 have H6:=H3.ky 2 0 rfl rfl c (fun _ h=>h)
 refine⟨_,Z,mv (.tuple #[x,.f T v]) Z (we x Z Z (we (.f T v) Z Z (av x Z (av (.f T v) Z (wn (sr (mv (.f T v) Z (wv Z ((nn true bI Z (.inr ⟨_,_,Z⟩))) (wn (aB Z ?_))))))))))⟩
 refine sr (mv (.f T v) Z (av (.f T v) Z (wn (rq ?_))))
 exact⟨.inr Z,_,r1 (.f T v) Z _ _,⟨_,_,Z,H6.sub (List.nil_sublist _)⟩⟩
theorem mA{hb rb N C i:Nat}{A:Option Addr}{p:Int}{xs ys:List Int}{a0 a1:Addr}(big:Bool)(w:World)(hh:(an hb [.w 0,.e 0,.e 0,.h 0,.w 0] 207).φ w)(hrb:(an rb [.s A N C,.i (↑i),.i (p)] 190).φ w)(hG:Glob 224 w a0 a1)(hNC:N≤C)(hN63:N≤9223372036854775807)(hr:RI .u8 w A N xs)(hby0:Byt xs)(hA: ∀a,A=some a → a.block<w.heap.size∧a.block≠rb∧a.block≠hb)(hb4:4≤hb)(hw4:4≤w.heap.size)(h4:4≤rb)(hne:hb≠rb)(ho:i+12≤N)(hys:ys=(xs.drop i).take 12):
 Calls Tryd.prog 68 #[.pt hb,.f 109 (.pt rb),.e (bo big)] w fun e w'=>e= .returned .n∧St w (fun k=>k=hb∨k=rb) [an hb [.w (n4 big (ys.drop 0)),.e (ys.getD 4 0),.e (ys.getD 5 0),.h (n2 big (ys.drop 6)),.w (n4 big (ys.drop 8))] 207,an rb [.s A N C,.i (↑i+12),.i (-1)] 190] w':=by
 have hyl:ys.length=12:=by rw[hys,List.length_take,List.length_drop,hr.1];omega
 have hby:Byt ys:=by rw[hys];exact(hby0.drop _).take _
 refine aA (args:= [.pt hb,.f 109 (.pt rb),.e (bo big)]) Tryd.func68 Z Z Z ?_
 have H0:St _ _ [an hb [.w 0,.e 0,.e 0,.h 0,.w 0] 207,an rb [.s A N C,.i (↑i),.i p] 190] _:=((St.nil w (fun k=>k=hb∨k=rb)).add _ hrb (fun _ h=> .inr h) (by simp)).add _ hh (fun _ h=> .inl h) (by simp only[List.mem_singleton];rintro s rfl g h1 h2;exact hne (h1.symm.trans h2))
 refine sr (av (.n) Z (wn (sr (wm Z (bJ H0 (n:=12) (m:=12) bB fx Z Z Z Z Z (by omega) (by omega) (by omega) (fun g1 w2 b H3=>eL g1 0 12 12 Z (wn (ad (sr (mv (.f 109 (.pt rb)) Z (ms g1 0 12 12 Z ?_)))))))))))
 refine wE [.f 109 (.pt rb),.sl g1 0 12 12] jr Z Z ?_
 have hgw:w.heap.size≤g1:=Nat.le_trans H0.keep.size b
 have hbl:hb<w.heap.size:=aG hh
 have hrl:rb<w.heap.size:=aG hrb
 refine aa (ka _ (H3.g 2 Z) (hG.keep H3.keep (fun k hk=>by rcases hk with h|h<;>omega)) hN63 (H3.g 0 Z) (by omega) h4 (by omega) (hr.keep H3.keep fun a ha h=>by have:=hA a ha;rcases h with h|h<;>omega) (fun a ha=>by have:=hA a ha;omega) hNC (by simp) (by omega) (by omega) (by omega) ho) ?_
 rintro e w5 ⟨rfl,c⟩
 rw[←hys]at c
 have H6:=H3.ky 2 0 rfl rfl c (fun _ h=>h)
 refine⟨_,Z,mv (.tuple #[.i 12,.n]) Z (we (.i 12) Z Z (we (.n) Z Z (ai 12 Z (av (.n) Z (wn (sr (mv (.n) Z (wv Z ((nn false bI Z (.inl Z))) (wn (al Z ?_))))))))))⟩
 refine wk (sr (mp hb 0 Z (mv (.e (bo big)) Z (ms g1 0 12 12 Z (wv Z ((aq (l:=0) (h:=12) aZ Z (bs Z (by omega) Z) bn (by omega) (by omega) (by omega) Z:Yv _ _ _ _ (.sl g1 0 12 12) _)) (wE [.e (bo big),.sl g1 0 12 12] bW Z Z (aa (aM big _ ((aj (H6.g 1 Z) hyl).drop_ 0) (hby.drop 0) (by omega) (by omega)) ?_)))))))
 rintro e w8 ⟨rfl,u⟩
 have H9:=H6.cal0 u
 refine⟨_,Z,wc Z (wf tP Z (ws (es H9 2 0 (.w (n4 big (ys.drop 0))) Z ax (fun B d=> ?_))))⟩
 refine wn (sr (mp hb 0 Z (ms g1 0 12 12 Z (wv Z (aK aZ Z Z (by omega) (by omega)) (wv Z (d.load (i:=1) (k:=4) (v:= .e (ys.getD 4 0)) Z dq Z (fV (by omega))) (wc Z (wf tO Z (ws (es d 2 1 (.e (ys.getD 4 0)) Z dq (fun D j=> ?_))))))))))
 refine wn (sr (mp hb 0 Z (ms g1 0 12 12 Z (wv Z (aK aZ Z Z (by omega) (by omega)) (wv Z (j.load (i:=1) (k:=5) (v:= .e (ys.getD 5 0)) Z dq Z (fV (by omega))) (wc Z (wf tN Z (ws (es j 2 2 (.e (ys.getD 5 0)) Z dq (fun E o=> ?_))))))))))
 refine wn (sr (mp hb 0 Z (mv (.e (bo big)) Z (ms g1 0 12 12 Z (wv Z ((aq (l:=6) (h:=12) aZ Z (bs Z (by omega) Z) bn (by omega) (by omega) (by omega) Z:Yv _ _ _ _ (.sl g1 6 6 6) _)) (wE [.e (bo big),.sl g1 6 6 6] wz Z Z (aa (rI big _ ((aj (o.g 1 Z) hyl).drop_ 6) (hby.drop 6) (by omega) (by omega)) ?_)))))))
 rintro e F ⟨rfl,q⟩
 have x:=o.cal0 q
 refine⟨_,Z,wc Z (wf tM Z (ws (es x 2 3 (.h (n2 big (ys.drop 6))) Z iF (fun G r=> ?_))))⟩
 refine wn (sr (mp hb 0 Z (mv (.e (bo big)) Z (ms g1 0 12 12 Z (wv Z ((aq (l:=8) (h:=12) aZ Z (bs Z (by omega) Z) bn (by omega) (by omega) (by omega) Z:Yv _ _ _ _ (.sl g1 8 4 4) _)) (wE [.e (bo big),.sl g1 8 4 4] bW Z Z (aa (aM big _ ((aj (r.g 1 Z) hyl).drop_ 8) (hby.drop 8) (by omega) (by omega)) ?_)))))))
 rintro e H ⟨rfl,t⟩
 have y:=r.cal0 t
 refine⟨_,Z,wc Z (wf tL Z (ws (es y 2 4 (.w (n4 big (ys.drop 8))) Z ax (fun I z=> ?_))))⟩
 refine wn (sr (av (.n) Z (wn (aY ?_))))
 exact⟨.inr Z,_,r1 (.n) Z _ _,⟨Z,(z.drop 1).perm (.swap ..)⟩⟩
theorem m8{hb rb N C i:Nat}{A:Option Addr}{p:Int}{xs ys:List Int}{a0 a1:Addr}(big:Bool)(w:World)(hh:(an hb [.w 0,.e 0,.e 0,.h 0,.q 0] 205).φ w)(hrb:(an rb [.s A N C,.i (↑i),.i (p)] 190).φ w)(hG:Glob 224 w a0 a1)(hNC:N≤C)(hN63:N≤9223372036854775807)(hr:RI .u8 w A N xs)(hby0:Byt xs)(hA: ∀a,A=some a → a.block<w.heap.size∧a.block≠rb∧a.block≠hb)(hb4:4≤hb)(hw4:4≤w.heap.size)(h4:4≤rb)(hne:hb≠rb)(ho:i+16≤N)(hys:ys=(xs.drop i).take 16):
 Calls Tryd.prog 67 #[.pt hb,.f 109 (.pt rb),.e (bo big)] w fun e w'=>e= .returned .n∧St w (fun k=>k=hb∨k=rb) [an hb [.w (n4 big (ys.drop 0)),.e (ys.getD 4 0),.e (ys.getD 5 0),.h (n2 big (ys.drop 6)),.q (n8 big (ys.drop 8))] 205,an rb [.s A N C,.i (↑i+16),.i (-1)] 190] w':=by
 have hyl:ys.length=16:=by rw[hys,List.length_take,List.length_drop,hr.1];omega
 have hby:Byt ys:=by rw[hys];exact(hby0.drop _).take _
 refine aA (args:= [.pt hb,.f 109 (.pt rb),.e (bo big)]) Tryd.func67 Z Z Z ?_
 have H0:St _ _ [an hb [.w 0,.e 0,.e 0,.h 0,.q 0] 205,an rb [.s A N C,.i (↑i),.i p] 190] _:=((St.nil w (fun k=>k=hb∨k=rb)).add _ hrb (fun _ h=> .inr h) (by simp)).add _ hh (fun _ h=> .inl h) (by simp only[List.mem_singleton];rintro s rfl g h1 h2;exact hne (h1.symm.trans h2))
 refine sr (av (.n) Z (wn (sr (wm Z (bJ H0 (n:=16) (m:=16) bB fx Z Z Z Z Z (by omega) (by omega) (by omega) (fun g1 w2 b H3=>eL g1 0 16 16 Z (wn (ad (sr (mv (.f 109 (.pt rb)) Z (ms g1 0 16 16 Z ?_)))))))))))
 refine wE [.f 109 (.pt rb),.sl g1 0 16 16] jr Z Z ?_
 have hgw:w.heap.size≤g1:=Nat.le_trans H0.keep.size b
 have hbl:hb<w.heap.size:=aG hh
 have hrl:rb<w.heap.size:=aG hrb
 refine aa (ka _ (H3.g 2 Z) (hG.keep H3.keep (fun k hk=>by rcases hk with h|h<;>omega)) hN63 (H3.g 0 Z) (by omega) h4 (by omega) (hr.keep H3.keep fun a ha h=>by have:=hA a ha;rcases h with h|h<;>omega) (fun a ha=>by have:=hA a ha;omega) hNC (by simp) (by omega) (by omega) (by omega) ho) ?_
 rintro e w5 ⟨rfl,c⟩
 rw[←hys]at c
 have H6:=H3.ky 2 0 rfl rfl c (fun _ h=>h)
 refine⟨_,Z,mv (.tuple #[.i 16,.n]) Z (we (.i 16) Z Z (we (.n) Z Z (ai 16 Z (av (.n) Z (wn (sr (mv (.n) Z (wv Z ((nn false bI Z (.inl Z))) (wn (al Z ?_))))))))))⟩
 refine wk (sr (mp hb 0 Z (mv (.e (bo big)) Z (ms g1 0 16 16 Z (wv Z ((aq (l:=0) (h:=16) aZ Z (bs Z (by omega) Z) bn (by omega) (by omega) (by omega) Z:Yv _ _ _ _ (.sl g1 0 16 16) _)) (wE [.e (bo big),.sl g1 0 16 16] bW Z Z (aa (aM big _ ((aj (H6.g 1 Z) hyl).drop_ 0) (hby.drop 0) (by omega) (by omega)) ?_)))))))
 rintro e w8 ⟨rfl,x⟩
 have H9:=H6.cal0 x
 refine⟨_,Z,wc Z (wf jb Z (ws (es H9 2 0 (.w (n4 big (ys.drop 0))) Z ax (fun D d=> ?_))))⟩
 refine wn (sr (mp hb 0 Z (ms g1 0 16 16 Z (wv Z (aK aZ Z Z (by omega) (by omega)) (wv Z (d.load (i:=1) (k:=4) (v:= .e (ys.getD 4 0)) Z dq Z (fV (by omega))) (wc Z (wf ja Z (ws (es d 2 1 (.e (ys.getD 4 0)) Z dq (fun E j=> ?_))))))))))
 refine wn (sr (mp hb 0 Z (ms g1 0 16 16 Z (wv Z (aK aZ Z Z (by omega) (by omega)) (wv Z (j.load (i:=1) (k:=5) (v:= .e (ys.getD 5 0)) Z dq Z (fV (by omega))) (wc Z (wf iZ Z (ws (es j 2 2 (.e (ys.getD 5 0)) Z dq (fun F o=> ?_))))))))))
 refine wn (sr (mp hb 0 Z (mv (.e (bo big)) Z (ms g1 0 16 16 Z (wv Z ((aq (l:=6) (h:=16) aZ Z (bs Z (by omega) Z) bn (by omega) (by omega) (by omega) Z:Yv _ _ _ _ (.sl g1 6 10 10) _)) (wE [.e (bo big),.sl g1 6 10 10] wz Z Z (aa (rI big _ ((aj (o.g 1 Z) hyl).drop_ 6) (hby.drop 6) (by omega) (by omega)) ?_)))))))
 rintro e G ⟨rfl,r⟩
 have y:=o.cal0 r
 refine⟨_,Z,wc Z (wf iY Z (ws (es y 2 3 (.h (n2 big (ys.drop 6))) Z iF (fun H t=> ?_))))⟩
 refine wn (sr (mp hb 0 Z (mv (.e (bo big)) Z (ms g1 0 16 16 Z (wv Z ((aq (l:=8) (h:=16) aZ Z (bs Z (by omega) Z) bn (by omega) (by omega) (by omega) Z:Yv _ _ _ _ (.sl g1 8 8 8) _)) (wE [.e (bo big),.sl g1 8 8 8] tu Z Z (aa (iC big _ ((aj (t.g 1 Z) hyl).drop_ 8) (hby.drop 8) (by omega) (by omega)) ?_)))))))
 rintro e I ⟨rfl,u⟩
 have z:=t.cal0 u
 refine⟨_,Z,wc Z (wf iX Z (ws (es z 2 4 (.q (n8 big (ys.drop 8))) Z aP (fun J B=> ?_))))⟩
 refine wn (sr (av (.n) Z (wn (aY ?_))))
 exact⟨.inr Z,_,r1 (.n) Z _ _,⟨Z,(B.drop 1).perm (.swap ..)⟩⟩
theorem lw{hb rb N C i:Nat}{A:Option Addr}{p:Int}{xs ys:List Int}{a0 a1:Addr}(big:Bool)(w:World)(hh:(an hb [.w 0,.w 0] 214).φ w)(hrb:(an rb [.s A N C,.i (↑i),.i (p)] 190).φ w)(hG:Glob 224 w a0 a1)(hNC:N≤C)(hN63:N≤9223372036854775807)(hr:RI .u8 w A N xs)(hby0:Byt xs)(hA: ∀a,A=some a → a.block<w.heap.size∧a.block≠rb∧a.block≠hb)(hb4:4≤hb)(hw4:4≤w.heap.size)(h4:4≤rb)(hne:hb≠rb)(ho:i+8≤N)(hys:ys=(xs.drop i).take 8):
 Calls Tryd.prog 70 #[.pt hb,.f 109 (.pt rb),.e (bo big)] w fun e w'=>e= .returned .n∧St w (fun k=>k=hb∨k=rb) [an hb [.w (n4 big (ys.drop 0)),.w (n4 big (ys.drop 4))] 214,an rb [.s A N C,.i (↑i+8),.i (-1)] 190] w':=by
 have hyl:ys.length=8:=by rw[hys,List.length_take,List.length_drop,hr.1];omega
 have hby:Byt ys:=by rw[hys];exact(hby0.drop _).take _
 refine aA (args:= [.pt hb,.f 109 (.pt rb),.e (bo big)]) Tryd.func70 Z Z Z ?_
 have H0:St _ _ [an hb [.w 0,.w 0] 214,an rb [.s A N C,.i (↑i),.i p] 190] _:=((St.nil w (fun k=>k=hb∨k=rb)).add _ hrb (fun _ h=> .inr h) (by simp)).add _ hh (fun _ h=> .inl h) (by simp only[List.mem_singleton];rintro s rfl g h1 h2;exact hne (h1.symm.trans h2))
 refine sr (av (.n) Z (wn (sr (wm Z (bJ H0 (n:=8) (m:=8) bB fx Z Z Z Z Z (by omega) (by omega) (by omega) (fun g1 w2 b H3=>eL g1 0 8 8 Z (wn (ad (sr (mv (.f 109 (.pt rb)) Z (ms g1 0 8 8 Z ?_)))))))))))
 refine wE [.f 109 (.pt rb),.sl g1 0 8 8] jr Z Z ?_
 have hgw:w.heap.size≤g1:=Nat.le_trans H0.keep.size b
 have hbl:hb<w.heap.size:=aG hh
 have hrl:rb<w.heap.size:=aG hrb
 refine aa (ka _ (H3.g 2 Z) (hG.keep H3.keep (fun k hk=>by rcases hk with h|h<;>omega)) hN63 (H3.g 0 Z) (by omega) h4 (by omega) (hr.keep H3.keep fun a ha h=>by have:=hA a ha;rcases h with h|h<;>omega) (fun a ha=>by have:=hA a ha;omega) hNC (by simp) (by omega) (by omega) (by omega) ho) ?_
 rintro e w5 ⟨rfl,c⟩
 rw[←hys]at c
 have H6:=H3.ky 2 0 rfl rfl c (fun _ h=>h)
 refine⟨_,Z,mv (.tuple #[.i 8,.n]) Z (we (.i 8) Z Z (we (.n) Z Z (ai 8 Z (av (.n) Z (wn (sr (mv (.n) Z (wv Z ((nn false bI Z (.inl Z))) (wn (al Z ?_))))))))))⟩
 refine wk (sr (mp hb 0 Z (mv (.e (bo big)) Z (ms g1 0 8 8 Z (wv Z ((aq (l:=0) (h:=8) aZ Z (bs Z (by omega) Z) bn (by omega) (by omega) (by omega) Z:Yv _ _ _ _ (.sl g1 0 8 8) _)) (wE [.e (bo big),.sl g1 0 8 8] bW Z Z (aa (aM big _ ((aj (H6.g 1 Z) hyl).drop_ 0) (hby.drop 0) (by omega) (by omega)) ?_)))))))
 rintro e w8 ⟨rfl,o⟩
 have H9:=H6.cal0 o
 refine⟨_,Z,wc Z (wf gH Z (ws (es H9 2 0 (.w (n4 big (ys.drop 0))) Z ax (fun t d=> ?_))))⟩
 refine wn (sr (mp hb 0 Z (mv (.e (bo big)) Z (ms g1 0 8 8 Z (wv Z ((aq (l:=4) (h:=8) aZ Z (bs Z (by omega) Z) bn (by omega) (by omega) (by omega) Z:Yv _ _ _ _ (.sl g1 4 4 4) _)) (wE [.e (bo big),.sl g1 4 4 4] bW Z Z (aa (aM big _ ((aj (d.g 1 Z) hyl).drop_ 4) (hby.drop 4) (by omega) (by omega)) ?_)))))))
 rintro e u ⟨rfl,j⟩
 have q:=d.cal0 j
 refine⟨_,Z,wc Z (wf fG Z (ws (es q 2 1 (.w (n4 big (ys.drop 4))) Z ax (fun v r=> ?_))))⟩
 refine wn (sr (av (.n) Z (wn (aY ?_))))
 exact⟨.inr Z,_,r1 (.n) Z _ _,⟨Z,(r.drop 1).perm (.swap ..)⟩⟩
theorem li{hb sb rb N C so:Nat}{A:Option Addr}{i p base lim sn:Int}{xs ys:List Int}{a0 a1:Addr}{v0 v7 v8 v9 v10 v11:Value}(big:Bool)(w:World)(hh:(an hb [v0,.w 0,.w 0,.w 0,.w 0,.w 0,.w 0,v7,v8,v9,v10,v11] 121).φ w)(hsb:(an sb [.f 109 (.pt rb),.i base,.i (↑so),.i lim,.i sn] 195).φ w)(hrb:(an rb [.s A N C,.i (i),.i (p)] 190).φ w)(hl1:(↑so:Int)<lim)(hl2:(↑so:Int)+28≤lim)(hl3:lim≤9223372036854775807)(hsr:rb≠sb)(hbr:hb≠rb)(hG:Glob 224 w a0 a1)(hNC:N≤C)(hN63:N≤9223372036854775807)(hr:RI .u8 w A N xs)(hby0:Byt xs)(hA: ∀a,A=some a → a.block<w.heap.size∧a.block≠sb∧a.block≠hb)(hb4:4≤hb)(hw4:4≤w.heap.size)(h4:4≤sb)(hne:hb≠sb)(ho:so+28≤N)(hys:ys=(xs.drop so).take 28):
 Calls Tryd.prog 49 #[.pt hb,.f 133 (.pt sb),.e (bo big)] w fun e w'=>e= .returned .n∧St w (fun k=>k=hb∨k=sb) [an hb [.w (n4 big (ys.drop 0)),.w (n4 big (ys.drop 4)),.w (n4 big (ys.drop 8)),.w (n4 big (ys.drop 12)),.w (n4 big (ys.drop 16)),.w (n4 big (ys.drop 20)),.w (n4 big (ys.drop 24)),v7,v8,v9,v10,v11] 121,an sb [.f 109 (.pt rb),.i base,.i (↑so+28),.i lim,.i sn] 195] w':=by
 have hyl:ys.length=28:=by rw[hys,List.length_take,List.length_drop,hr.1];omega
 have hby:Byt ys:=by rw[hys];exact(hby0.drop _).take _
 refine aA (args:= [.pt hb,.f 133 (.pt sb),.e (bo big)]) Tryd.func49 Z Z Z ?_
 have H0:St _ _ [an hb [v0,.w 0,.w 0,.w 0,.w 0,.w 0,.w 0,v7,v8,v9,v10,v11] 121,an sb [.f 109 (.pt rb),.i base,.i (↑so),.i lim,.i sn] 195] _:=((St.nil w (fun k=>k=hb∨k=sb)).add _ hsb (fun _ h=> .inr h) (by simp)).add _ hh (fun _ h=> .inl h) (by simp only[List.mem_singleton];rintro s rfl g h1 h2;exact hne (h1.symm.trans h2))
 refine sr (av (.n) Z (wn (sr (wm Z (bJ H0 (n:=28) (m:=28) bB fx Z Z Z Z Z (by omega) (by omega) (by omega) (fun g1 w2 b H3=>eL g1 0 28 28 Z (wn (ad (sr (mv (.f 133 (.pt sb)) Z (ms g1 0 28 28 Z ?_)))))))))))
 refine wE [.f 133 (.pt sb),.sl g1 0 28 28] jr Z Z ?_
 have hgw:w.heap.size≤g1:=Nat.le_trans H0.keep.size b
 have hbl:hb<w.heap.size:=aG hh
 have hrl:rb<w.heap.size:=aG hrb
 have hsl:sb<w.heap.size:=aG hsb
 refine aa (yj _ (H3.g 2 Z) hl1 hl2 hl3 ((an _ _ _).stay _ _ hrb fun g hg=>H3.keep.block g (by rw[show g=rb from hg];exact aG hrb) (by rw[show g=rb from hg];exact(fun h=>by rcases h with h|h<;>omega))) (hG.keep H3.keep (fun k hk=>by rcases hk with h|h<;>omega)) hN63 (H3.g 0 Z) (by omega) (by omega) (by omega) (by omega) (by omega) (hr.keep H3.keep fun a ha h=>by have:=hA a ha;rcases h with h|h<;>omega) (fun a ha=>by have:=hA a ha;omega) hNC (by simp) (by omega) (by omega) (by omega) ho) ?_
 rintro e w5 ⟨rfl,c⟩
 rw[←hys]at c
 have H6:=H3.ky 2 0 rfl rfl c (fun _ h=>h)
 refine⟨_,Z,mv (.tuple #[.i 28,.n]) Z (we (.i 28) Z Z (we (.n) Z Z (ai 28 Z (av (.n) Z (wn (sr (mv (.n) Z (wv Z ((nn false bI Z (.inl Z))) (wn (al Z ?_))))))))))⟩
 refine wk (sr (mp hb 0 Z (mv (.e (bo big)) Z (ms g1 0 28 28 Z (wv Z ((aq (l:=0) (h:=28) aZ Z (bs Z (by omega) Z) bn (by omega) (by omega) (by omega) Z:Yv _ _ _ _ (.sl g1 0 28 28) _)) (wE [.e (bo big),.sl g1 0 28 28] bW Z Z (aa (aM big _ ((aj (H6.g 1 Z) hyl).drop_ 0) (hby.drop 0) (by omega) (by omega)) ?_)))))))
 rintro e w8 ⟨rfl,D⟩
 have H9:=H6.cal0 D
 refine⟨_,Z,wc Z (wf i1 Z (ws (es H9 2 0 (.w (n4 big (ys.drop 0))) Z ax (fun L d=> ?_))))⟩
 refine wn (sr (mp hb 0 Z (mv (.e (bo big)) Z (ms g1 0 28 28 Z (wv Z ((aq (l:=4) (h:=28) aZ Z (bs Z (by omega) Z) bn (by omega) (by omega) (by omega) Z:Yv _ _ _ _ (.sl g1 4 24 24) _)) (wE [.e (bo big),.sl g1 4 24 24] bW Z Z (aa (aM big _ ((aj (d.g 1 Z) hyl).drop_ 4) (hby.drop 4) (by omega) (by omega)) ?_)))))))
 rintro e M ⟨rfl,j⟩
 have E:=d.cal0 j
 refine⟨_,Z,wc Z (wf uT Z (ws (es E 2 1 (.w (n4 big (ys.drop 4))) Z yg (fun O o=> ?_))))⟩
 refine wn (sr (mp hb 0 Z (mv (.e (bo big)) Z (ms g1 0 28 28 Z (wv Z ((aq (l:=8) (h:=28) aZ Z (bs Z (by omega) Z) bn (by omega) (by omega) (by omega) Z:Yv _ _ _ _ (.sl g1 8 20 20) _)) (wE [.e (bo big),.sl g1 8 20 20] bW Z Z (aa (aM big _ ((aj (o.g 1 Z) hyl).drop_ 8) (hby.drop 8) (by omega) (by omega)) ?_)))))))
 rintro e P ⟨rfl,q⟩
 have F:=o.cal0 q
 refine⟨_,Z,wc Z (wf uS Z (ws (es F 2 2 (.w (n4 big (ys.drop 8))) Z ax (fun Q r=> ?_))))⟩
 refine wn (sr (mp hb 0 Z (mv (.e (bo big)) Z (ms g1 0 28 28 Z (wv Z ((aq (l:=12) (h:=28) aZ Z (bs Z (by omega) Z) bn (by omega) (by omega) (by omega) Z:Yv _ _ _ _ (.sl g1 12 16 16) _)) (wE [.e (bo big),.sl g1 12 16 16] bW Z Z (aa (aM big _ ((aj (r.g 1 Z) hyl).drop_ 12) (hby.drop 12) (by omega) (by omega)) ?_)))))))
 rintro e R ⟨rfl,t⟩
 have G:=r.cal0 t
 refine⟨_,Z,wc Z (wf uR Z (ws (es G 2 3 (.w (n4 big (ys.drop 12))) Z yf (fun S u=> ?_))))⟩
 refine wn (sr (mp hb 0 Z (mv (.e (bo big)) Z (ms g1 0 28 28 Z (wv Z ((aq (l:=16) (h:=28) aZ Z (bs Z (by omega) Z) bn (by omega) (by omega) (by omega) Z:Yv _ _ _ _ (.sl g1 16 12 12) _)) (wE [.e (bo big),.sl g1 16 12 12] bW Z Z (aa (aM big _ ((aj (u.g 1 Z) hyl).drop_ 16) (hby.drop 16) (by omega) (by omega)) ?_)))))))
 rintro e T ⟨rfl,v⟩
 have H:=u.cal0 v
 refine⟨_,Z,wc Z (wf mY Z (ws (es H 2 4 (.w (n4 big (ys.drop 16))) Z ax (fun U x=> ?_))))⟩
 refine wn (sr (mp hb 0 Z (mv (.e (bo big)) Z (ms g1 0 28 28 Z (wv Z ((aq (l:=20) (h:=28) aZ Z (bs Z (by omega) Z) bn (by omega) (by omega) (by omega) Z:Yv _ _ _ _ (.sl g1 20 8 8) _)) (wE [.e (bo big),.sl g1 20 8 8] bW Z Z (aa (aM big _ ((aj (x.g 1 Z) hyl).drop_ 20) (hby.drop 20) (by omega) (by omega)) ?_)))))))
 rintro e V ⟨rfl,y⟩
 have I:=x.cal0 y
 refine⟨_,Z,wc Z (wf mX Z (ws (es I 2 5 (.w (n4 big (ys.drop 20))) Z ax (fun W z=> ?_))))⟩
 refine wn (sr (mp hb 0 Z (mv (.e (bo big)) Z (ms g1 0 28 28 Z (wv Z ((aq (l:=24) (h:=28) aZ Z (bs Z (by omega) Z) bn (by omega) (by omega) (by omega) Z:Yv _ _ _ _ (.sl g1 24 4 4) _)) (wE [.e (bo big),.sl g1 24 4 4] bW Z Z (aa (aM big _ ((aj (z.g 1 Z) hyl).drop_ 24) (hby.drop 24) (by omega) (by omega)) ?_)))))))
 rintro e X ⟨rfl,B⟩
 have J:=z.cal0 B
 refine⟨_,Z,wc Z (wf uQ Z (ws (es J 2 6 (.w (n4 big (ys.drop 24))) Z ax (fun Y K=> ?_))))⟩
 refine wn (sr (av (.n) Z (wn (aY ?_))))
 exact⟨.inr Z,_,r1 (.n) Z _ _,⟨Z,(K.drop 1).perm (.swap ..)⟩⟩
theorem kE{hb sb rb N C so:Nat}{A:Option Addr}{i p base lim sn:Int}{xs ys:List Int}{a0 a1:Addr}{v0 v7 v8 v9 v10 v11:Value}(big:Bool)(w:World)(hh:(an hb [v0,.w 0,.w 0,.w 0,.w 0,.w 0,.w 0,v7,v8,v9,v10,v11] 121).φ w)(hsb:(an sb [.f 109 (.pt rb),.i base,.i (↑so),.i lim,.i sn] 195).φ w)(hrb:(an rb [.s A N C,.i (i),.i (p)] 190).φ w)(hl1:(↑so:Int)<lim)(hl2:(↑so:Int)+28≤lim)(hl3:lim≤9223372036854775807)(hsr:rb≠sb)(hbr:hb≠rb)(hG:Glob 224 w a0 a1)(hNC:N≤C)(hN63:N≤9223372036854775807)(hr:RI .u8 w A N xs)(hby0:Byt xs)(hA: ∀a,A=some a → a.block<w.heap.size∧a.block≠sb∧a.block≠hb)(hb4:4≤hb)(hw4:4≤w.heap.size)(h4:4≤sb)(hne:hb≠sb)(ho:N<so+28)(hon:so<N):
 Calls Tryd.prog 49 #[.pt hb,.f 133 (.pt sb),.e (bo big)] w fun e w'=> ∃T v,e= .returned (.f T v)∧St w (fun k=>k=hb∨k=sb) [an hb [v0,.w 0,.w 0,.w 0,.w 0,.w 0,.w 0,v7,v8,v9,v10,v11] 121] w':=by
 refine aA (args:= [.pt hb,.f 133 (.pt sb),.e (bo big)]) Tryd.func49 Z Z Z ?_
 have H0:St _ _ [an hb [v0,.w 0,.w 0,.w 0,.w 0,.w 0,.w 0,v7,v8,v9,v10,v11] 121,an sb [.f 109 (.pt rb),.i base,.i (↑so),.i lim,.i sn] 195] _:=((St.nil w (fun k=>k=hb∨k=sb)).add _ hsb (fun _ h=> .inr h) (by simp)).add _ hh (fun _ h=> .inl h) (by simp only[List.mem_singleton];rintro s rfl g h1 h2;exact hne (h1.symm.trans h2))
 refine sr (av (.n) Z (wn (sr (wm Z (bJ H0 (n:=28) (m:=28) bB fx Z Z Z Z Z (by omega) (by omega) (by omega) (fun g1 w2 b H3=>eL g1 0 28 28 Z (wn (ad (sr (mv (.f 133 (.pt sb)) Z (ms g1 0 28 28 Z ?_)))))))))))
 refine wE [.f 133 (.pt sb),.sl g1 0 28 28] jr Z Z ?_
 have hgw:w.heap.size≤g1:=Nat.le_trans H0.keep.size b
 have hbl:hb<w.heap.size:=aG hh
 have hrl:rb<w.heap.size:=aG hrb
 have hsl:sb<w.heap.size:=aG hsb
 refine aa (vY _ (H3.g 2 Z) hl1 hl2 hl3 ((an _ _ _).stay _ _ hrb fun g hg=>H3.keep.block g (by rw[show g=rb from hg];exact aG hrb) (by rw[show g=rb from hg];exact(fun h=>by rcases h with h|h<;>omega))) (hG.keep H3.keep (fun k hk=>by rcases hk with h|h<;>omega)) hN63 (H3.g 0 Z) (by omega) (by omega) (by omega) (by omega) (by omega) (hr.keep H3.keep fun a ha h=>by have:=hA a ha;rcases h with h|h<;>omega) (fun a ha=>by have:=hA a ha;omega) hNC (by simp) (by omega) (by omega) (by omega) ho hon) ?_
 rintro e w5 ⟨x,T,v,rfl,c⟩
 have H6:=H3.ky 2 0 rfl rfl c (fun _ h=>h)
 refine⟨_,Z,mv (.tuple #[x,.f T v]) Z (we x Z Z (we (.f T v) Z Z (av x Z (av (.f T v) Z (wn (sr (mv (.f T v) Z (wv Z ((nn true bI Z (.inr ⟨_,_,Z⟩))) (wn (aB Z ?_))))))))))⟩
 refine sr (mv (.f T v) Z (av (.f T v) Z (wn (rq ?_))))
 exact⟨.inr Z,_,r1 (.f T v) Z _ _,⟨_,_,Z,H6.sub (.cons_cons _ (List.Sublist.slnil))⟩⟩
theorem IB73:IbOk Tryd.prog 73:=⟨_,Tryd.func73,rfl,rfl,rfl,rfl⟩
theorem CK66:bg Tryd.prog 66:=aL (by kernel_rfl)
theorem lk:Tryd.prog.underlying 5=some (.int .u8):=by kernel_rfl
theorem l3:Tryd.prog.underlying 9=some .string:=by kernel_rfl
theorem s7{g o n c:Nat}{ns:List Int}(w:World)(hr:RI .u8 w (some ⟨g,o,none⟩) n ns)(hb:Byt ns)(hc:n≤c)(hn:n≤9223372036854775807)(hz:(aF ns).length<n):
 Calls Tryd.prog 66 #[.sl g o n c,.e 0] w fun e w'=>e= .returned (.i (↑(aF ns).length))∧St w aR [] w':=by
 refine aA (args:= [.sl g o n c,.e 0]) Tryd.func66 Z Z Z ?_
 have H0:=St.nil w aR
 refine sr (ai 0 Z (wn (sr (ms g o n c Z (mv (.e 0) Z (wm Z (e_ib IB73 (g:=g) (o:=o) (n:=n) (c:=c) (ns:=ns) Z hr hb ?_)))))))
 rw[if_pos (by rw[hr.1];omega)]
 refine ai (↑(aF ns).length) Z (wn (aY ?_))
 exact⟨.inr Z,_,r1 (.i (↑(aF ns).length)) Z _ _,⟨Z,H0⟩⟩
theorem s5{g o n c:Nat}{ns:List Int}(w:World)(hr:RI .u8 w (some ⟨g,o,none⟩) n ns)(hb:Byt ns)(hc:n≤c)(hn:n≤9223372036854775807)(hz:(aF ns).length=n):
 Calls Tryd.prog 66 #[.sl g o n c,.e 0] w fun e w'=>e= .returned (.i (-1))∧St w aR [] w':=by
 refine aA (args:= [.sl g o n c,.e 0]) Tryd.func66 Z Z Z ?_
 have H0:=St.nil w aR
 refine sr (ai 0 Z (wn (sr (ms g o n c Z (mv (.e 0) Z (wm Z (e_ib IB73 (g:=g) (o:=o) (n:=n) (c:=c) (ns:=ns) Z hr hb ?_)))))))
 rw[if_neg (by rw[hr.1];omega)]
 refine ai (-1) Z (wn (aY ?_))
 exact⟨.inr Z,_,r1 (.i (-1)) Z _ _,⟨Z,H0⟩⟩
theorem vM{g o n c:Nat}{ns:List Int}(w:World)(hr:RI .u8 w (some ⟨g,o,none⟩) n ns)(hb:Byt ns)(hc:n≤c)(hn:n≤9223372036854775807)(hz:(aF ns).length<n):
 Calls Tryd.prog 53 #[.sl g o n c] w fun e w'=>e= .returned (.str (aF ns))∧St w aR [] w':=by
 refine aA (args:= [.sl g o n c]) Tryd.func53 Z Z Z ?_
 have H0:=St.nil w aR
 refine sr (av (.string (⟨#[]⟩)) Z (wn (sr (ms g o n c Z (wE [.sl g o n c,.e 0] CK66 Z Z (aa (s7 w hr hb hc hn hz) ?_))))))
 rintro e w2 ⟨rfl,b⟩
 have H3:=H0.cal0 b
 refine⟨_,Z,ai (↑(aF ns).length) Z (wn (ad (sr (mi (↑(aF ns).length) Z (wv Z (aT Z Z (beq_eq_false_iff_ne.2 (by omega))) (wn (al Z (wk (sr (ms g o n c Z ?_))))))))))⟩
 refine mi (↑(aF ns).length) Z (wv Z ((aq (l:=0) (h:=(aF ns).length) aZ Z (bs Z (by omega) Z) (bs Z (by omega) (Int.toNat_natCast _)) (by omega) (by omega) (by omega) (by omega):Yv _ _ _ _ (.sl g o ((aF ns).length) c) _)) (wv Z (fh bB lk l3 Z (xs:=aF ns) (by have h:=(hr.keep H3.keep fun a ha=>aW _).take (m:=(aF ns).length) (by have:=ou ns;rw[hr.1]at this;exact this);rw[oo]at h;exact h) (fun h=>by cases h)) (av (.str (aF ns)) Z (wn (aY ?_)))))
 exact⟨.inr Z,_,r1 (.str (aF ns)) Z _ _,⟨Z,H3⟩⟩
theorem vL{g o n c:Nat}{ns:List Int}(w:World)(hr:RI .u8 w (some ⟨g,o,none⟩) n ns)(hb:Byt ns)(hc:n≤c)(hn:n≤9223372036854775807)(hz:(aF ns).length=n):
 Calls Tryd.prog 53 #[.sl g o n c] w fun e w'=>e= .returned (.str (aF ns))∧St w aR [] w':=by
 refine aA (args:= [.sl g o n c]) Tryd.func53 Z Z Z ?_
 have H0:=St.nil w aR
 refine sr (av (.string (⟨#[]⟩)) Z (wn (sr (ms g o n c Z (wE [.sl g o n c,.e 0] CK66 Z Z (aa (s5 w hr hb hc hn hz) ?_))))))
 rintro e w2 ⟨rfl,b⟩
 have H3:=H0.cal0 b
 refine⟨_,Z,ai (-1) Z (wn (ad (sr (mi (-1) Z (wv Z (aT (c:=true) Z Z Z) (wn (aB Z (ae (ms g o n c Z (wv Z (aO bU Z) ?_))))))))))⟩
 refine ai (↑n) Z (wn (sr (ms g o n c Z (mi (↑n) Z (wv Z ((aq (l:=0) (h:=n) aZ Z (bs Z (by omega) Z) (bs Z (by omega) (Int.toNat_natCast _)) (by omega) (by omega) (by omega) (by omega):Yv _ _ _ _ (.sl g o n c) _)) (wv Z (fh bB lk l3 Z (xs:=aF ns) (by have h:=(hr.keep H3.keep fun a ha=>aW _).take (m:=(aF ns).length) (by have:=ou ns;rw[hr.1]at this;exact this);rw[oo]at h;rw[hz]at h;exact h) (fun h=>by cases h)) (av (.str (aF ns)) Z (wn (aY ?_)))))))))
 exact⟨.inr Z,_,r1 (.str (aF ns)) Z _ _,⟨Z,H3⟩⟩
theorem eV{g o n c:Nat}{ns:List Int}(w:World)(hr:RI .u8 w (some ⟨g,o,none⟩) n ns)(hb:Byt ns)(hc:n≤c)(hn:n≤9223372036854775807):
 Calls Tryd.prog 53 #[.sl g o n c] w fun e w'=>e= .returned (.str (aF ns))∧St w aR [] w':=by
 have hl:=ou ns
 rw[hr.1]at hl
 rcases Nat.lt_or_eq_of_le hl with h|h
 · exact vM w hr hb hc hn h
 · exact vL w hr hb hc hn h
theorem rl{c:Nat}(w:World)(h32:c<4294967296):
 Calls Tryd.prog 51 #[.q 16,.q ↑c] w fun e w'=> ∃k:Nat,e= .returned (.i ↑k)∧k≤655360∧St w aR [] w':=by
 refine aA (args:= [.q 16,.q (↑c)]) Tryd.func51 Z Z Z ?_
 have H0:=St.nil w aR
 refine sr (ai 0 Z (wn (ad (sr (mu (↑c) Z (wv Z (ao db ip Z (a5 (by omega) (by omega))) (wv Z (bj Z Z (decide_eq_false (by omega))) (mv (.b false) Z (aX Z Z (am (v:= .q (↑c)) Z) (aX Z Z (am (v:= .q (↑c)) Z) (aX Z Z (ao db kK Z (a5 (by omega) (by omega))) ?_)))))))))))
 refine aX Z Z (ao ej be Z (aC (by omega) (by omega))) (aX Z Z (cg Z Z (bne_eq_false_iff_eq.2 (by omega))) (wv Z (aD (b:=false) (v:= .b false) Z Z) (wn (al Z (wk (ad (sr (mu 16 Z (wv Z (cQ (c:=true) Z Z Z) (mv (.b true) Z (aX Z Z (am (v:= .q (↑c)) Z) ?_)))))))))))
 refine aX Z Z (am (v:= .q 16) Z) (aX Z Z (px (c:=1152921504606846975) Z Z (by decide) (by decide)) (aX Z Z (cQ Z Z (decide_eq_false (by omega))) (wv Z (aD (b:=true) (v:= .b false) Z Z) (wn (al Z (wk (ad (sr (mu (↑c) Z (mu 16 Z (wv Z (cM (k:= .u64) (c:= ↑c*16) Z Z (aC (by omega) (by omega))) ?_)))))))))))
 refine wv Z (eM Z Z) (wn ?_)
 refine bK Z (fun a=> ?_) (fun a=> ?_)
 ·
  simp only[bx]at a
  refine sr (mu 16 Z (wv Z (px (c:=655360) Z Z (by decide) (by decide)) (au 655360 Z (wn (sr (mu 655360 Z (wv Z (aT (c:=false) Z Z Z) (wn (al Z (wk (sr ?_)))))))))))
  refine mu 655360 Z (wv Z (ao (c:=655360) db kK Z Z) (ai 655360 Z (wn (aY ?_))))
  exact⟨.inr Z,_,r1 (.i 655360) Z _ _,⟨655360,Z,by omega,H0⟩⟩
 ·
  simp only[bx]at a
  refine wk (sr (mu (↑c) Z (wv Z (ao db kK Z (a5 (by omega) (by omega))) (ai (↑c) Z (wn (aY ?_))))))
  exact⟨.inr Z,_,r1 (.i (↑c)) Z _ _,⟨c,Z,by omega,H0⟩⟩
theorem mx{c:Nat}(w:World)(h32:c<4294967296):
 Calls Tryd.prog 51 #[.q 32,.q ↑c] w fun e w'=> ∃k:Nat,e= .returned (.i ↑k)∧k≤655360∧St w aR [] w':=by
 refine aA (args:= [.q 32,.q (↑c)]) Tryd.func51 Z Z Z ?_
 have H0:=St.nil w aR
 refine sr (ai 0 Z (wn (ad (sr (mu (↑c) Z (wv Z (ao db ip Z (a5 (by omega) (by omega))) (wv Z (bj Z Z (decide_eq_false (by omega))) (mv (.b false) Z (aX Z Z (am (v:= .q (↑c)) Z) (aX Z Z (am (v:= .q (↑c)) Z) (aX Z Z (ao db kK Z (a5 (by omega) (by omega))) ?_)))))))))))
 refine aX Z Z (ao ej be Z (aC (by omega) (by omega))) (aX Z Z (cg Z Z (bne_eq_false_iff_eq.2 (by omega))) (wv Z (aD (b:=false) (v:= .b false) Z Z) (wn (al Z (wk (ad (sr (mu 32 Z (wv Z (cQ (c:=true) Z Z Z) (mv (.b true) Z (aX Z Z (am (v:= .q (↑c)) Z) ?_)))))))))))
 refine aX Z Z (am (v:= .q 32) Z) (aX Z Z (px (c:=576460752303423487) Z Z (by decide) (by decide)) (aX Z Z (cQ Z Z (decide_eq_false (by omega))) (wv Z (aD (b:=true) (v:= .b false) Z Z) (wn (al Z (wk (ad (sr (mu (↑c) Z (mu 32 Z (wv Z (cM (k:= .u64) (c:= ↑c*32) Z Z (aC (by omega) (by omega))) ?_)))))))))))
 refine wv Z (eM Z Z) (wn ?_)
 refine bK Z (fun a=> ?_) (fun a=> ?_)
 ·
  simp only[bx]at a
  refine sr (mu 32 Z (wv Z (px (c:=327680) Z Z (by decide) (by decide)) (au 327680 Z (wn (sr (mu 327680 Z (wv Z (aT (c:=false) Z Z Z) (wn (al Z (wk (sr ?_)))))))))))
  refine mu 327680 Z (wv Z (ao (c:=327680) db kK Z Z) (ai 327680 Z (wn (aY ?_))))
  exact⟨.inr Z,_,r1 (.i 327680) Z _ _,⟨327680,Z,by omega,H0⟩⟩
 ·
  simp only[bx]at a
  refine wk (sr (mu (↑c) Z (wv Z (ao db kK Z (a5 (by omega) (by omega))) (ai (↑c) Z (wn (aY ?_))))))
  exact⟨.inr Z,_,r1 (.i (↑c)) Z _ _,⟨c,Z,by omega,H0⟩⟩
theorem CK74:bg Tryd.prog 74:=aL (by kernel_rfl)
theorem vb{ns:List Int}(w:World)(hb:Byt ns)(hn:ns.length<9223372036854775807):
 Calls Tryd.prog 74 #[.str ns,.string (⟨#[46]⟩)] w fun e w'=> ∃r:Int,e= .returned (.i r)∧(0≤r ↔ 46 ∈ ns)∧St w aR [] w':=by
 refine aA (args:= [.str ns,.string (⟨#[46]⟩)]) Tryd.func74 Z Z Z ?_
 have H0:=St.nil w aR
 refine sr (ai 0 Z (wn (ad (sr (ai 0 Z (wn (a6 (bA (fun ρ w'=> ∃i:Nat,ρ 0= .str ns∧ρ 1= .string (⟨#[46]⟩)∧ρ 5= .i ↑i∧i≤ns.length∧(∀j,j<i → ns.getD j 0≠46)∧St w aR [] w') (fun ρ _=>ns.length+1- nv (ρ 5)) (⟨0,Z,Z,Z,by omega,by omega,H0⟩) ?_))))))))
 rintro ρ w1 ⟨i,h0,h1,h5,hi,hall,H1⟩
 refine ad (sr (mg h5 Z (mg h1 Z (wv Z ((show Yv _ _ _ _ (.i 1) _ from lO (s:=⟨#[46]⟩) l3 Z)) (wv Z (aH (k:= .i64) (c:= ↑i+1) Z Z (a5 (by omega) (by omega))) (mg h0 Z (wv Z (sF l3 Z) (wv Z (qZ Z Z) (wn ?_)))))))))
 refine bK Z (fun a=> ?_) (fun a=> ?_)
 ·
  simp only[bx]at a
  refine wk (ad (a6 (sr (mg h0 Z (mg h5 Z (mg h5 Z (mg h1 Z (wv Z ((show Yv _ _ _ _ (.i 1) _ from lO (s:=⟨#[46]⟩) l3 Z)) (wv Z (aH (k:= .i64) (c:= ↑i+1) Z Z (a5 (by omega) (by omega))) (wv Z (iO (l:=i) (h:=i+1) l3 Z (bh Z (by omega) (by omega)) (bh Z (by omega) (by omega)) (by omega) (by rw[strOfNums_size];omega)) (mg h1 Z ?_)))))))))))
  refine wv Z ((yA hb (i:=i) (by omega)▸vg Z Z)) (wn ?_)
  refine bK Z (fun b=> ?_) (fun b=> ?_)
  ·
   simp only[bx]at b
   refine sr (mg h5 Z (ai (↑i) Z (wn (aY (aI (a7 (a7 (aI (a7 ?_)))))))))
   exact⟨.inr Z,_,r1 (.i (↑i)) Z _ _,⟨_,Z,⟨fun _=>ly.2 ⟨i,by omega,by assumption⟩,fun _=>by omega⟩,H1⟩⟩
  ·
   simp only[bx]at b
   refine dw (ak (ac (ae (mg h5 Z (wv Z (aH (k:= .i64) (c:= ↑i+1) Z Z (a5 (by omega) (by omega))) (ai (↑i+1) Z (wn ?_)))))))
   exact⟨⟨i+1,h0,h1,Z,by omega,fun j hj=>by rcases Nat.lt_or_eq_of_le (Nat.le_of_lt_succ hj)with h|h;exact hall j h;subst h;assumption,H1⟩,by show ns.length+1- nv (.i (↑i+1))<ns.length+1- nv (ρ 5);rw[h5];simp only[nv];omega⟩
 ·
  simp only[bx]at a
  refine bq (ar (ar (aQ (ac (sr (ai (-1) Z (wn (aY ?_))))))))
  exact⟨.inr Z,_,r1 (.i (-1)) Z _ _,⟨_,Z,⟨fun h=>absurd h (by omega),fun h=>by obtain⟨j,hj,e⟩:=ly.1 h;exact absurd e (hall j (by omega))⟩,H1⟩⟩
theorem lm{ns:List Int}(w:World)(hb:Byt ns)(hn:ns.length<9223372036854775807):
 Calls Tryd.prog 69 #[.str ns,.string (⟨#[46]⟩)] w fun e w'=>e= .returned (.b (decide (46 ∈ ns)))∧St w aR [] w':=by
 refine aA (args:= [.str ns,.string (⟨#[46]⟩)]) Tryd.func69 Z Z Z ?_
 have H0:=St.nil w aR
 refine sr (av (.b false) Z (wn (sr (mv (.str ns) Z (mv (.string (⟨#[46]⟩)) Z (wE [.str ns,.string (⟨#[46]⟩)] CK74 Z Z (aa (vb w hb hn) ?_)))))))
 rintro e w1 ⟨r,rfl,hr,HS⟩
 have H2:=H0.cal0 HS
 refine⟨_,Z,wv Z (jO Z Z) (av (.b (decide (0≤r))) Z (wn (aY ?_)))⟩
 exact⟨.inr Z,_,r1 (.b (decide (0≤r))) Z _ _,⟨by rw[show decide (0≤r)=decide (46 ∈ ns)from decide_eq_decide.2 hr],H2⟩⟩
end Go.Proofs.YtlndedfkgiafhaaDoor
