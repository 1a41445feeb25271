import Derived.Test.YtlndedfkgiafhaaDoorXAB
set_option linter.unusedVariables false
set_option linter.unusedSimpArgs false
set_option maxRecDepth 100000
set_option maxHeartbeats 4000000
namespace Go.Proofs.YtlndedfkgiafhaaDoor
open Go Go.RowKit Go.Proofs
theorem o6: ∀(a:Addr) (w:World),(nilAhead (Tryd.prog.types.size+Made.depth) 133 (.pointer (some a)) "Read").run Tryd.prog w= .ok (some false) w:=fun a w=>by kernel_rfl
theorem o3: ∀(a:Addr) (w:World),(method (Tryd.prog.types.size+Made.depth) 133 (.pointer (some a)) "Read").run Tryd.prog w= .ok (97,.pointer (some a)) w:=fun a w=>by kernel_rfl
theorem CK97:bg Tryd.prog 97:=aL (by kernel_rfl)
theorem zB:bg Tryd.prog 72:=aL (by kernel_rfl)
theorem wj{sb rb gb m cm n c so:Nat}{A:Option Addr}{i p base lim sn:Int}{cs:List Value}{Tb:TypeId}{xs:List Int}{a0 a1:Addr}(w:World)(hsb:(an sb [.f 109 (.pt rb),.i base,.i (↑so),.i lim,.i sn] 195).φ w)(hl1:(↑so:Int)<lim)(hl2:(↑so:Int)+ ↑m≤lim)(hl3:lim≤9223372036854775807)(hrb:(an rb [.s A n c,.i i,.i p] 190).φ w)(hG:Glob 224 w a0 a1)(hn63:n≤9223372036854775807)(hgb:(an gb cs Tb).φ w)(hg4:4≤gb)(hs4:4≤sb)(hne:rb≠gb)(hsg:sb≠gb)(hsr:rb≠sb)(hr:RI .u8 w A n xs)(hA: ∀a,A=some a → a.block≠gb∧a.block≠sb)(hnc:n≤c)(hm:cs.length=m)(hm0:0<m)(hm63:m≤9223372036854775807)(hcm:m≤cm)(ho:so+m≤n):
 Calls Tryd.prog 72 #[.f 133 (.pt sb),.sl gb 0 m cm,.i ↑m] w fun e w'=>e= .returned (.tuple #[.i ↑m,.n])∧St w (fun k=>k=sb∨k=gb) [an sb [.f 109 (.pt rb),.i base,.i (↑so+ ↑m),.i lim,.i sn] 195,an gb (nums .u8 ((xs.drop so).take m)) Tb] w':=by
 refine aA (args:= [.f 133 (.pt sb),.sl gb 0 m cm,.i (↑m)]) Tryd.func72 Z Z Z ?_
 have H0:St _ _ [an sb [.f 109 (.pt rb),.i base,.i (↑so),.i lim,.i sn] 195,an gb cs Tb] _:=((St.nil w (fun k=>k=sb∨k=gb)).add _ hgb (fun _ h=> .inr h) (by simp)).add _ hsb (fun _ h=> .inl h) (by simp only[List.mem_singleton];rintro s rfl g h1 h2;exact hsg (h1.symm.trans h2))
 refine sr (ai 0 Z (av (.n) Z (wn (ad (sr (ms gb 0 m cm Z (wv Z (aO bU Z) (mi (↑m) Z (wv Z (bj Z Z (decide_eq_false (by omega))) (wn (al Z ?_)))))))))))
 refine wk (ad (a6 (ew 2 (du (ad (sr (mi 0 Z (mi (↑m) Z (wv Z (bj Z Z (decide_eq_true (by omega))) (mv (.b true) Z (aX Z Z (am (v:= .n) Z) ?_)))))))))))
 refine aX Z Z ((ep bI Z (.inl Z):Yv _ _ _ _ (.b true) _)) (wv Z (aD (b:=true) (v:= .b true) Z Z) (wn (aB Z (wk (a6 (sr (ai 0 Z (wn (ad (bZ MX (fun w'=>True) (tp 0 7 (Plan.run 7 (tp 8 5 Plan.done))) (by kernel_rfl) ?_))))))))))
 have H1:=H0.drew
 have d:(fun w'=>True) w.drew:=trivial
 refine py Z d (am (v:= .f 133 (.pt sb)) Z) (py Z d (am (v:= .sl gb 0 m cm) Z) (py Z d (am (v:= .i 0) Z) (pt Z d (fun _ hS=>(aq (l:=0) (h:=m) aZ Z (bs Z (by omega) Z) bn (by omega) (by omega) (by omega) Z:Yv _ _ _ _ (.sl gb 0 m cm) _)) (py Z d (qU (vs:= [.f 133 (.pt sb)]) Z Z) (py Z d (bp Z (o6 _ _)) (py Z d (am (v:= .f 133 (.pt sb)) Z) (pr Z (ei (args:= [.sl gb 0 m cm]) Z (o3 _ _) CK97 Z (aa (se (q:=m) (ob:=0) _ (H1.g 0 Z) (by omega) (by omega) (by omega) ((an _ _ _).stay _ _ hrb fun g hg=>H1.keep.block g (by rw[show g=rb from hg];exact aG hrb) (by rw[show g=rb from hg];exact(fun h=>by rcases h with h|h<;>omega))) (hG.keep H1.keep (fun k hk=>by rcases hk with h|h<;>omega)) hn63 (H1.g 1 Z) hg4 hs4 hne hsg hsr (hr.keep H1.keep fun a ha h=>by have:=hA a ha;rcases h with h|h<;>omega) hA hnc (by omega) (by omega) (by omega) (by simp only[Nat.min_def];split<;>omega)) ?_)))))))))
 rintro e w4 ⟨rfl,o⟩
 have H5:=H1.ky 0 0 rfl rfl o (fun _ h=>h)
 refine⟨_,Z,?_⟩
 have j:(fun w'=>True) w4:=trivial
 refine⟨j,py Z j (am (v:= .tuple #[.i (↑m),.n]) Z) (py Z j (aE (v:= .i (↑m)) Z Z) (py Z j (aE (v:= .n) Z Z) (py Z j (bd (v:= .i (↑m)) Z) (py Z j (bd (v:= .n) Z) (bC (ac (ae (mi 0 Z (mi (↑m) Z (wv Z (aH (k:= .i64) (c:= ↑m) Z Z (by rw[Int.zero_add];exact a5 (by omega) (by omega))) ?_))))))))))⟩
 refine ai (↑m) Z (bk (ak (ac (du (ad (sr (mi (↑m) Z (mi (↑m) Z (wv Z (bj Z Z (decide_eq_false (by omega))) (mv (.b false) Z (ck Z Z ?_)))))))))))
 refine ck Z Z (wv Z (aD (b:=false) (v:= .b false) Z Z) (wn (al Z (bq (ar (ar (aQ (ac (ad (sr (mi (↑m) Z ?_)))))))))))
 refine mi (↑m) Z (wv Z (fv Z Z (decide_eq_true (by omega))) (wn (aB Z (ae (av (.n) Z (wn (aY ?_)))))))
 exact⟨.inr Z,_,r2 (.i (↑m)) (.n) Z _ _,⟨Z,by simpa[List.drop_of_length_le (Nat.le_of_eq hm)]using H5⟩⟩
theorem yj{sb rb gb m cm n c so:Nat}{A:Option Addr}{i p base lim sn:Int}{cs:List Value}{Tb:TypeId}{xs:List Int}{a0 a1:Addr}(w:World)(hsb:(an sb [.f 109 (.pt rb),.i base,.i (↑so),.i lim,.i sn] 195).φ w)(hl1:(↑so:Int)<lim)(hl2:(↑so:Int)+ ↑m≤lim)(hl3:lim≤9223372036854775807)(hrb:(an rb [.s A n c,.i i,.i p] 190).φ w)(hG:Glob 224 w a0 a1)(hn63:n≤9223372036854775807)(hgb:(an gb cs Tb).φ w)(hg4:4≤gb)(hs4:4≤sb)(hne:rb≠gb)(hsg:sb≠gb)(hsr:rb≠sb)(hr:RI .u8 w A n xs)(hA: ∀a,A=some a → a.block≠gb∧a.block≠sb)(hnc:n≤c)(hm:cs.length=m)(hm0:0<m)(hm63:m≤9223372036854775807)(hcm:m≤cm)(ho:so+m≤n):
 Calls Tryd.prog 65 #[.f 133 (.pt sb),.sl gb 0 m cm] w fun e w'=>e= .returned (.tuple #[.i ↑m,.n])∧St w (fun k=>k=sb∨k=gb) [an sb [.f 109 (.pt rb),.i base,.i (↑so+ ↑m),.i lim,.i sn] 195,an gb (nums .u8 ((xs.drop so).take m)) Tb] w':=by
 refine aA (args:= [.f 133 (.pt sb),.sl gb 0 m cm]) Tryd.func65 Z Z Z ?_
 have H0:=trivial
 refine sr (ai 0 Z (av (.n) Z (wn (sr (mv (.f 133 (.pt sb)) Z (ms gb 0 m cm Z (ms gb 0 m cm Z (wv Z (aO bU Z) (wE [.f 133 (.pt sb),.sl gb 0 m cm,.i (↑m)] zB Z Z (aa (wj w hsb hl1 hl2 hl3 hrb hG hn63 hgb hg4 hs4 hne hsg hsr hr hA hnc hm hm0 hm63 hcm ho) ?_))))))))))
 rintro e w2 ⟨rfl,b⟩
 refine⟨_,Z,we (.i (↑m)) Z Z (we (.n) Z Z (ai (↑m) Z (av (.n) Z (wn (aY ?_)))))⟩
 exact⟨.inr Z,_,r2 (.i (↑m)) (.n) Z _ _,⟨Z,b⟩⟩
theorem tl{sb rb gb m cm n c so:Nat}{A:Option Addr}{i p base lim sn:Int}{cs:List Value}{Tb:TypeId}{xs:List Int}{a0 a1:Addr}(w:World)(hsb:(an sb [.f 109 (.pt rb),.i base,.i (↑so),.i lim,.i sn] 195).φ w)(hl1:(↑so:Int)<lim)(hl2:(↑so:Int)+ ↑m≤lim)(hl3:lim≤9223372036854775807)(hrb:(an rb [.s A n c,.i i,.i p] 190).φ w)(hG:Glob 224 w a0 a1)(hn63:n≤9223372036854775807)(hgb:(an gb cs Tb).φ w)(hg4:4≤gb)(hs4:4≤sb)(hne:rb≠gb)(hsg:sb≠gb)(hsr:rb≠sb)(hr:RI .u8 w A n xs)(hA: ∀a,A=some a → a.block≠gb∧a.block≠sb)(hnc:n≤c)(hm:cs.length=m)(hm0:0<m)(hm63:m≤9223372036854775807)(hcm:m≤cm)(ho:n<so+m)(hon:so<n):
 Calls Tryd.prog 72 #[.f 133 (.pt sb),.sl gb 0 m cm,.i ↑m] w fun e w'=> ∃x T v,e= .returned (.tuple #[x,.f T v])∧St w (fun k=>k=sb∨k=gb) [] w':=by
 refine aA (args:= [.f 133 (.pt sb),.sl gb 0 m cm,.i (↑m)]) Tryd.func72 Z Z Z ?_
 have H0:St _ _ [an sb [.f 109 (.pt rb),.i base,.i (↑so),.i lim,.i sn] 195,an gb cs Tb] _:=((St.nil w (fun k=>k=sb∨k=gb)).add _ hgb (fun _ h=> .inr h) (by simp)).add _ hsb (fun _ h=> .inl h) (by simp only[List.mem_singleton];rintro s rfl g h1 h2;exact hsg (h1.symm.trans h2))
 refine sr (ai 0 Z (av (.n) Z (wn (ad (sr (ms gb 0 m cm Z (wv Z (aO bU Z) (mi (↑m) Z (wv Z (bj Z Z (decide_eq_false (by omega))) (wn (al Z ?_)))))))))))
 refine wk (ad (a6 (ew 2 (du (ad (sr (mi 0 Z (mi (↑m) Z (wv Z (bj Z Z (decide_eq_true (by omega))) (mv (.b true) Z (aX Z Z (am (v:= .n) Z) ?_)))))))))))
 refine aX Z Z ((ep bI Z (.inl Z):Yv _ _ _ _ (.b true) _)) (wv Z (aD (b:=true) (v:= .b true) Z Z) (wn (aB Z (wk (a6 (sr (ai 0 Z (wn (ad (bZ MX (fun w'=>True) (tp 0 7 (Plan.run 7 (tp 8 5 Plan.done))) (by kernel_rfl) ?_))))))))))
 have H1:=H0.drew
 have d:(fun w'=>True) w.drew:=trivial
 refine py Z d (am (v:= .f 133 (.pt sb)) Z) (py Z d (am (v:= .sl gb 0 m cm) Z) (py Z d (am (v:= .i 0) Z) (pt Z d (fun _ hS=>(aq (l:=0) (h:=m) aZ Z (bs Z (by omega) Z) bn (by omega) (by omega) (by omega) Z:Yv _ _ _ _ (.sl gb 0 m cm) _)) (py Z d (qU (vs:= [.f 133 (.pt sb)]) Z Z) (py Z d (bp Z (o6 _ _)) (py Z d (am (v:= .f 133 (.pt sb)) Z) (pr Z (ei (args:= [.sl gb 0 m cm]) Z (o3 _ _) CK97 Z (aa (qK (q:=(n- so)) (ob:=0) _ (H1.g 0 Z) (by omega) (by omega) (by omega) ((an _ _ _).stay _ _ hrb fun g hg=>H1.keep.block g (by rw[show g=rb from hg];exact aG hrb) (by rw[show g=rb from hg];exact(fun h=>by rcases h with h|h<;>omega))) (hG.keep H1.keep (fun k hk=>by rcases hk with h|h<;>omega)) hn63 (H1.g 1 Z) hg4 hs4 hne hsg hsr (hr.keep H1.keep fun a ha h=>by have:=hA a ha;rcases h with h|h<;>omega) hA hnc (by omega) (by omega) (by omega) (by simp only[Nat.min_def];split<;>omega)) ?_)))))))))
 rintro e w4 ⟨rfl,o⟩
 have H5:=H1.ky 0 0 rfl rfl o (fun _ h=>h)
 refine⟨_,Z,?_⟩
 have j:(fun w'=>True) w4:=trivial
 refine⟨j,py Z j (am (v:= .tuple #[.i (↑(n- so)),.f 224 (.pointer (some a1))]) Z) (py Z j (aE (v:= .i (↑(n- so))) Z Z) (py Z j (aE (v:= .f 224 (.pointer (some a1))) Z Z) (py Z j (bd (v:= .i (↑(n- so))) Z) (py Z j (bd (v:= .f 224 (.pointer (some a1))) Z) (bC (ac (ae (mi 0 Z (mi (↑(n- so)) Z (wv Z (aH (k:= .i64) (c:= ↑(n- so)) Z Z (by rw[Int.zero_add];exact a5 (by omega) (by omega))) ?_))))))))))⟩
 refine ai (↑(n- so)) Z (bk (ak (ac (du (ad (sr (mi (↑(n- so)) Z (mi (↑m) Z (wv Z (bj Z Z (decide_eq_true (by omega))) (mv (.b true) Z (aX Z Z (am (v:= .f 224 (.pointer (some a1))) Z) ?_)))))))))))
 refine aX Z Z ((ep bI Z (.inr ⟨_,_,Z⟩):Yv _ _ _ _ (.b false) _)) (wv Z (aD (b:=true) (v:= .b false) Z Z) (wn (al Z (bq (ar (ar (aQ (ac (ad (sr (mi (↑(n- so)) Z ?_)))))))))))
 refine mi (↑m) Z (wv Z (fv Z Z (decide_eq_false (by omega))) (wn (al Z (sr (mi (↑(n- so)) Z (wv Z (cQ Z Z (decide_eq_true (by omega))) (mv (.b true) Z (aX Z Z (am (v:= .f 224 (.pointer (some a1))) Z) (aX Z Z (ag ib Z (H5.keep.cell (hG.2) ((fun h=>by rcases h with h|h<;>simp at h<;>omega)))) (aX Z Z (mt gX Z Z) (wv Z (aD (b:=true) (v:= .b true) Z Z) ?_)))))))))))
 refine wn (aB Z (ae (wv Z (ag ib Z (H5.keep.cell (hG.1) ((fun h=>by rcases h with h|h<;>simp at h<;>omega)))) (av (.f 224 (.pointer (some a0))) Z (wn (aY ?_))))))
 exact⟨.inr Z,_,r2 (.i (↑(n- so))) (.f 224 (.pointer (some a0))) Z _ _,⟨_,_,_,Z,H5.sub (List.nil_sublist _)⟩⟩
theorem vY{sb rb gb m cm n c so:Nat}{A:Option Addr}{i p base lim sn:Int}{cs:List Value}{Tb:TypeId}{xs:List Int}{a0 a1:Addr}(w:World)(hsb:(an sb [.f 109 (.pt rb),.i base,.i (↑so),.i lim,.i sn] 195).φ w)(hl1:(↑so:Int)<lim)(hl2:(↑so:Int)+ ↑m≤lim)(hl3:lim≤9223372036854775807)(hrb:(an rb [.s A n c,.i i,.i p] 190).φ w)(hG:Glob 224 w a0 a1)(hn63:n≤9223372036854775807)(hgb:(an gb cs Tb).φ w)(hg4:4≤gb)(hs4:4≤sb)(hne:rb≠gb)(hsg:sb≠gb)(hsr:rb≠sb)(hr:RI .u8 w A n xs)(hA: ∀a,A=some a → a.block≠gb∧a.block≠sb)(hnc:n≤c)(hm:cs.length=m)(hm0:0<m)(hm63:m≤9223372036854775807)(hcm:m≤cm)(ho:n<so+m)(hon:so<n):
 Calls Tryd.prog 65 #[.f 133 (.pt sb),.sl gb 0 m cm] w fun e w'=> ∃x T v,e= .returned (.tuple #[x,.f T v])∧St w (fun k=>k=sb∨k=gb) [] w':=by
 refine aA (args:= [.f 133 (.pt sb),.sl gb 0 m cm]) Tryd.func65 Z Z Z ?_
 have H0:=trivial
 refine sr (ai 0 Z (av (.n) Z (wn (sr (mv (.f 133 (.pt sb)) Z (ms gb 0 m cm Z (ms gb 0 m cm Z (wv Z (aO bU Z) (wE [.f 133 (.pt sb),.sl gb 0 m cm,.i (↑m)] zB Z Z (aa (tl w hsb hl1 hl2 hl3 hrb hG hn63 hgb hg4 hs4 hne hsg hsr hr hA hnc hm hm0 hm63 hcm ho hon) ?_))))))))))
 rintro e w2 ⟨x,T,v,rfl,b⟩
 refine⟨_,Z,we x Z Z (we (.f T v) Z Z (av x Z (av (.f T v) Z (wn (aY ?_)))))⟩
 exact⟨.inr Z,_,r2 x (.f T v) Z _ _,⟨_,_,_,Z,b⟩⟩
theorem ka{rb gb m cm n c i:Nat}{A:Option Addr}{p:Int}{cs:List Value}{Tb:TypeId}{xs:List Int}{a0 a1:Addr}(w:World)(hrb:(an rb [.s A n c,.i (↑i),.i (p)] 190).φ w)(hG:Glob 224 w a0 a1)(hn63:n≤9223372036854775807)(hgb:(an gb cs Tb).φ w)(hg4:4≤gb)(h4:4≤rb)(hne:rb≠gb)(hr:RI .u8 w A n xs)(hA: ∀a,A=some a → a.block≠rb∧a.block≠gb)(hnc:n≤c)(hm:cs.length=m)(hm0:0<m)(hm63:m≤9223372036854775807)(hcm:m≤cm)(ho:i+m≤n):
 Calls Tryd.prog 65 #[.f 109 (.pt rb),.sl gb 0 m cm] w fun e w'=>e= .returned (.tuple #[.i ↑m,.n])∧St w (fun k=>k=rb∨k=gb) [an rb [.s A n c,.i (↑i+ ↑m),.i (-1)] 190,an gb (nums .u8 ((xs.drop i).take m)) Tb] w':=by
 refine aA (args:= [.f 109 (.pt rb),.sl gb 0 m cm]) Tryd.func65 Z Z Z ?_
 have H0:=trivial
 refine sr (ai 0 Z (av (.n) Z (wn (sr (mv (.f 109 (.pt rb)) Z (ms gb 0 m cm Z (ms gb 0 m cm Z (wv Z (aO bU Z) (wE [.f 109 (.pt rb),.sl gb 0 m cm,.i (↑m)] zB Z Z (aa (BO w hrb hG hn63 hgb hg4 h4 hne hr hA hnc (by omega) hm0 hm63 hcm ho) ?_))))))))))
 rintro e w2 ⟨rfl,b⟩
 refine⟨_,Z,we (.i (↑m)) Z Z (we (.n) Z Z (ai (↑m) Z (av (.n) Z (wn (aY ?_)))))⟩
 exact⟨.inr Z,_,r2 (.i (↑m)) (.n) Z _ _,⟨Z,by simpa[List.drop_of_length_le (Nat.le_of_eq hm)]using b⟩⟩
theorem z0{rb gb m cm n c i:Nat}{A:Option Addr}{p:Int}{cs:List Value}{Tb:TypeId}{xs:List Int}{a0 a1:Addr}(w:World)(hrb:(an rb [.s A n c,.i (↑i),.i (p)] 190).φ w)(hG:Glob 224 w a0 a1)(hn63:n≤9223372036854775807)(hgb:(an gb cs Tb).φ w)(hg4:4≤gb)(h4:4≤rb)(hne:rb≠gb)(hr:RI .u8 w A n xs)(hA: ∀a,A=some a → a.block≠rb∧a.block≠gb)(hnc:n≤c)(hm:m≤cs.length)(hm0:0<m)(hm63:m≤9223372036854775807)(hcm:m≤cm)(ho:n<i+m):
 Calls Tryd.prog 72 #[.f 109 (.pt rb),.sl gb 0 m cm,.i ↑m] w fun e w'=> ∃x T v,e= .returned (.tuple #[x,.f T v])∧St w (fun k=>k=rb∨k=gb) [] w':=by
 rcases Nat.lt_or_ge i n with hi|hi
 · exact yo w hrb hG hn63 hgb hg4 h4 hne hr hA hnc hm hm0 hm63 hcm ho hi
 · exact zz w hrb hG hn63 hgb hg4 h4 hne hr hA hnc hm hm0 hm63 hcm hi
theorem kd{rb gb m cm n c i:Nat}{A:Option Addr}{p:Int}{cs:List Value}{Tb:TypeId}{xs:List Int}{a0 a1:Addr}(w:World)(hrb:(an rb [.s A n c,.i (↑i),.i (p)] 190).φ w)(hG:Glob 224 w a0 a1)(hn63:n≤9223372036854775807)(hgb:(an gb cs Tb).φ w)(hg4:4≤gb)(h4:4≤rb)(hne:rb≠gb)(hr:RI .u8 w A n xs)(hA: ∀a,A=some a → a.block≠rb∧a.block≠gb)(hnc:n≤c)(hm:cs.length=m)(hm0:0<m)(hm63:m≤9223372036854775807)(hcm:m≤cm)(ho:n<i+m):
 Calls Tryd.prog 65 #[.f 109 (.pt rb),.sl gb 0 m cm] w fun e w'=> ∃x T v,e= .returned (.tuple #[x,.f T v])∧St w (fun k=>k=rb∨k=gb) [] w':=by
 refine aA (args:= [.f 109 (.pt rb),.sl gb 0 m cm]) Tryd.func65 Z Z Z ?_
 have H0:=trivial
 refine sr (ai 0 Z (av (.n) Z (wn (sr (mv (.f 109 (.pt rb)) Z (ms gb 0 m cm Z (ms gb 0 m cm Z (wv Z (aO bU Z) (wE [.f 109 (.pt rb),.sl gb 0 m cm,.i (↑m)] zB Z Z (aa (z0 w hrb hG hn63 hgb hg4 h4 hne hr hA hnc (by omega) hm0 hm63 hcm ho) ?_))))))))))
 rintro e w2 ⟨x,T,v,rfl,b⟩
 refine⟨_,Z,we x Z Z (we (.f T v) Z Z (av x Z (av (.f T v) Z (wn (aY ?_)))))⟩
 exact⟨.inr Z,_,r2 x (.f T v) Z _ _,⟨_,_,_,Z,b⟩⟩
theorem db:(Tryd.prog.underlying 43).isSome=true:=by kernel_rfl
theorem ip:Tryd.prog.underlying 2=some (.int .i64):=by kernel_rfl
theorem kK:Tryd.prog.underlying 3=some (.int .i64):=by kernel_rfl
theorem ej:(Tryd.prog.underlying 3).isSome=true:=by kernel_rfl
theorem fx:(Tryd.prog.info? 5).map (fun i=>(i.zero,i.size,i.bytes))=some (some (.e 0),1,1):=by kernel_rfl
theorem eH: ∀(a:Addr) (w:World),(nilAhead (Tryd.prog.types.size+Made.depth) 109 (.pointer (some a)) "ReadAt").run Tryd.prog w= .ok (some false) w:=fun a w=>by kernel_rfl
theorem ef: ∀(a:Addr) (w:World),(method (Tryd.prog.types.size+Made.depth) 133 (.pointer (some a)) "ReadAt").run Tryd.prog w= .ok (98,.pointer (some a)) w:=fun a w=>by kernel_rfl
theorem s9:bg Tryd.prog 98:=aL (by kernel_rfl)
theorem iq: ∀(a:Addr) (w:World),(nilAhead (Tryd.prog.types.size+Made.depth) 133 (.pointer (some a)) "ReadAt").run Tryd.prog w= .ok (some false) w:=fun a w=>by kernel_rfl
theorem jf:FA 135 3 11:=fa (by kernel_rfl)
theorem hZ:dI Tryd.prog 133:=bN (by kernel_rfl)
theorem lE:Tryd.prog.concrete 133=true:=by kernel_rfl
theorem br:FA 135 0 0:=fa (by kernel_rfl)
theorem iu:FA 129 3 3:=fa (by kernel_rfl)
theorem aP:dI Tryd.prog 43:=bN (by kernel_rfl)
theorem kH:bg Tryd.prog 50:=aL (by kernel_rfl)
theorem wi{rb N C off n:Nat}{A:Option Addr}{i p:Int}{xs:List Int}{a0 a1:Addr}(w:World)(hrb:(an rb [.s A N C,.i i,.i p] 190).φ w)(hG:Glob 224 w a0 a1)(hNC:N≤C)(hN:N<10485760)(hr:RI .u8 w A N xs)(hA: ∀a,A=some a → a.block<w.heap.size)(hw4:4≤w.heap.size)(ho63:off<4294967296)(hn:off+n≤N)(hon:off<N):
 Calls Tryd.prog 50 #[.f 109 (.pt rb),.q ↑n,.i (↑off)] w fun e w'=> ∃g,e= .returned (.tuple #[.sl g 0 n n,.n])∧w.heap.size≤g∧St w aR [an g (nums .u8 ((xs.drop off).take n)) 5] w':=by
 refine aA (args:= [.f 109 (.pt rb),.q (↑n),.i (↑off)]) Tryd.func50 Z Z Z ?_
 have H0:=St.nil w aR
 refine sr (av (.ns) Z (av (.n) Z (wn (ad (sr (mu (↑n) Z (wv Z (ao db ip Z (a5 (by omega) (by omega))) (wv Z (bj Z Z (decide_eq_false (by omega))) (mv (.b false) Z (aX Z Z (am (v:= .q (↑n)) Z) (aX Z Z (am (v:= .q (↑n)) Z) ?_)))))))))))
 refine aX Z Z (ao db kK Z (a5 (by omega) (by omega))) (aX Z Z (ao ej be Z (aC (by omega) (by omega))) (aX Z Z (cg Z Z (bne_eq_false_iff_eq.2 (by omega))) (wv Z (aD (b:=false) (v:= .b false) Z Z) (wn (al Z (wk (ad (sr (mu (↑n) Z (wv Z (bj Z Z (decide_eq_true (by omega))) (wn ?_)))))))))))
 refine aB Z (sr (mu (↑n) Z (wm Z (bJ H0 (n:=n) (m:=n) bB fx Z Z Z Z Z (by omega) (by omega) (by omega) (fun g1 w2 c H3=>eL g1 0 n n Z (wn (sr (mv (.f 109 (.pt rb)) Z (ms g1 0 n n Z (mi (↑off) Z (wm Z ?_)))))))))))
 refine ei (args:= [.sl g1 0 n n,.i (↑off)]) Z (co _ _) kG Z ?_
 have hgw:w.heap.size≤g1:=Nat.le_trans H0.keep.size c
 have hrl:rb<w.heap.size:=aG hrb
 refine aa (jh _ ((an _ _ _).stay _ _ hrb fun g hg=>H3.keep.block g (by rw[show g=rb from hg];exact aG hrb) (by rw[show g=rb from hg];exact(aW _))) (hG.keep H3.keep (fun k hk=>hk.elim)) (by omega) (H3.g 0 Z) (by omega) (by omega) (hr.keep H3.keep fun a ha=>aW _) (fun a ha=>by have:=hA a ha;omega) hNC (ob:=0) (m:=n) (by rw[List.length_replicate];omega) (by omega) (by omega) (q:=n) (by simp only[Nat.min_def];split<;>omega)) ?_
 rintro e w5 ⟨rfl,d⟩
 have H6:=H3.kx 0 rfl d (fun _ h=>h)
 refine⟨_,Z,mv (.tuple #[.i (↑n),.n]) Z (we (.i (↑n)) Z Z (we (.n) Z Z (ai (↑n) Z (av (.n) Z (wn (ad (sr (mv (.n) Z (wv Z ((nn false bI Z (.inl Z))) (wn ?_))))))))))⟩
 refine al Z (wk (sr (ms g1 0 n n Z (eL g1 0 n n Z (av (.n) Z (wn (rq ?_)))))))
 exact⟨.inr Z,_,r2 (.sl g1 0 n n) (.n) Z _ _,⟨_,Z,hgw,by simpa[nums]using H6⟩⟩
theorem wg{rb N C off n:Nat}{A:Option Addr}{i p:Int}{xs:List Int}{a0 a1:Addr}(w:World)(hrb:(an rb [.s A N C,.i i,.i p] 190).φ w)(hG:Glob 224 w a0 a1)(hNC:N≤C)(hN:N<10485760)(hr:RI .u8 w A N xs)(hA: ∀a,A=some a → a.block<w.heap.size)(hw4:4≤w.heap.size)(ho63:off<4294967296)(hn:n=0)(hon:N≤off):
 Calls Tryd.prog 50 #[.f 109 (.pt rb),.q ↑n,.i (↑off)] w fun e w'=> ∃g,e= .returned (.tuple #[.sl g 0 n n,.n])∧w.heap.size≤g∧St w aR [an g (nums .u8 ((xs.drop off).take n)) 5] w':=by
 refine aA (args:= [.f 109 (.pt rb),.q (↑n),.i (↑off)]) Tryd.func50 Z Z Z ?_
 have H0:=St.nil w aR
 refine sr (av (.ns) Z (av (.n) Z (wn (ad (sr (mu (↑n) Z (wv Z (ao db ip Z (a5 (by omega) (by omega))) (wv Z (bj Z Z (decide_eq_false (by omega))) (mv (.b false) Z (aX Z Z (am (v:= .q (↑n)) Z) (aX Z Z (am (v:= .q (↑n)) Z) ?_)))))))))))
 refine aX Z Z (ao db kK Z (a5 (by omega) (by omega))) (aX Z Z (ao ej be Z (aC (by omega) (by omega))) (aX Z Z (cg Z Z (bne_eq_false_iff_eq.2 (by omega))) (wv Z (aD (b:=false) (v:= .b false) Z Z) (wn (al Z (wk (ad (sr (mu (↑n) Z (wv Z (bj Z Z (decide_eq_true (by omega))) (wn ?_)))))))))))
 refine aB Z (sr (mu (↑n) Z (wm Z (bJ H0 (n:=n) (m:=n) bB fx Z Z Z Z Z (by omega) (by omega) (by omega) (fun g1 w2 c H3=>eL g1 0 n n Z (wn (sr (mv (.f 109 (.pt rb)) Z (ms g1 0 n n Z (mi (↑off) Z (wm Z ?_)))))))))))
 refine ei (args:= [.sl g1 0 n n,.i (↑off)]) Z (co _ _) kG Z ?_
 have hgw:w.heap.size≤g1:=Nat.le_trans H0.keep.size c
 have hrl:rb<w.heap.size:=aG hrb
 refine aa (gE _ ((an _ _ _).stay _ _ hrb fun g hg=>H3.keep.block g (by rw[show g=rb from hg];exact aG hrb) (by rw[show g=rb from hg];exact(aW _))) (hG.keep H3.keep (fun k hk=>hk.elim)) (by omega) (by omega) _) ?_
 rintro e w5 ⟨rfl,d⟩
 have H6:=H3.cal0 d
 refine⟨_,Z,mv (.tuple #[.i 0,.f 224 (.pointer (some a1))]) Z (we (.i 0) Z Z (we (.f 224 (.pointer (some a1))) Z Z (ai 0 Z (av (.f 224 (.pointer (some a1))) Z (wn (ad (sr (mv (.f 224 (.pointer (some a1))) Z (wv Z ((nn true bI Z (.inr ⟨_,_,Z⟩))) (wn ?_))))))))))⟩
 refine aB Z (sr (mv (.f 224 (.pointer (some a1))) Z (wv Z (ag ib Z (H6.keep.cell (hG.2) (aW _))) (wv Z (fL gX Z Z) (mv (.b false) Z (aX Z Z (am (v:= .q (↑n)) Z) (aX Z Z (cQ Z Z (decide_eq_false (by omega))) (wv Z (aD (b:=false) (v:= .b false) Z Z) (wn (al Z (wk ?_)))))))))))
 refine sr (ms g1 0 n n Z (eL g1 0 n n Z (av (.n) Z (wn (rq ?_)))))
 exact⟨.inr Z,_,r2 (.sl g1 0 n n) (.n) Z _ _,⟨_,Z,hgw,by subst hn;simpa[nums]using H6⟩⟩
theorem wh{rb N C off n:Nat}{A:Option Addr}{i p:Int}{xs:List Int}{a0 a1:Addr}(w:World)(hrb:(an rb [.s A N C,.i i,.i p] 190).φ w)(hG:Glob 224 w a0 a1)(hNC:N≤C)(hN:N<10485760)(hr:RI .u8 w A N xs)(hA: ∀a,A=some a → a.block<w.heap.size)(hw4:4≤w.heap.size)(ho63:off<4294967296)(hn:9223372036854775808≤n)(hn64:n<18446744073709551616):
 Calls Tryd.prog 50 #[.f 109 (.pt rb),.q ↑n,.i (↑off)] w fun e w'=> ∃T v,e= .returned (.tuple #[.ns,.f T v])∧St w aR [] w':=by
 refine aA (args:= [.f 109 (.pt rb),.q (↑n),.i (↑off)]) Tryd.func50 Z Z Z ?_
 have H0:=St.nil w aR
 refine sr (av (.ns) Z (av (.n) Z (wn (ad (sr (mu (↑n) Z (wv Z (ao (c:= ↑n- 18446744073709551616) db ip Z (by rw[IntKind.wrap_i64];omega)) (wv Z (bj Z Z (decide_eq_true (by omega))) (mv (.b true) Z (ck Z Z (ck Z Z ?_)))))))))))
 refine ck Z Z (ck Z Z (ck Z Z (wv Z (aD (b:=true) (v:= .b true) Z Z) (wn (aB Z (ad (bZ MX (fun w'=>w'.cell? ⟨0,0,none⟩=some (.f 224 (.pointer (some a0)))) (tp 0 3 Plan.done) (by kernel_rfl) ?_)))))))
 have H1:=H0.drew
 have d:(fun w'=>w'.cell? ⟨0,0,none⟩=some (.f 224 (.pointer (some a0)))) w.drew:=H1.keep.cell (hG.1) (aW _)
 refine ph Z d (fun hS=>ag ib Z hS) (py Z d (bd (v:= .ns) Z) (py Z d (bd (v:= .f 224 (.pointer (some a0))) Z) (bC (ac (rq ?_)))))
 exact⟨.inr Z,_,r2 (.ns) (.f 224 (.pointer (some a0))) Z _ _,⟨_,_,Z,H1.sub (List.nil_sublist _)⟩⟩
theorem tk{rb N C off n:Nat}{A:Option Addr}{i p:Int}{xs:List Int}{a0 a1:Addr}(w:World)(hrb:(an rb [.s A N C,.i i,.i p] 190).φ w)(hG:Glob 224 w a0 a1)(hNC:N≤C)(hN:N<10485760)(hr:RI .u8 w A N xs)(hA: ∀a,A=some a → a.block<w.heap.size)(hw4:4≤w.heap.size)(ho63:off<4294967296)(hn:n<10485760)(ho:N<off+n)(hon:off<N):
 Calls Tryd.prog 50 #[.f 109 (.pt rb),.q ↑n,.i (↑off)] w fun e w'=> ∃T v,e= .returned (.tuple #[.ns,.f T v])∧St w aR [] w':=by
 refine aA (args:= [.f 109 (.pt rb),.q (↑n),.i (↑off)]) Tryd.func50 Z Z Z ?_
 have H0:=St.nil w aR
 refine sr (av (.ns) Z (av (.n) Z (wn (ad (sr (mu (↑n) Z (wv Z (ao db ip Z (a5 (by omega) (by omega))) (wv Z (bj Z Z (decide_eq_false (by omega))) (mv (.b false) Z (aX Z Z (am (v:= .q (↑n)) Z) (aX Z Z (am (v:= .q (↑n)) Z) ?_)))))))))))
 refine aX Z Z (ao db kK Z (a5 (by omega) (by omega))) (aX Z Z (ao ej be Z (aC (by omega) (by omega))) (aX Z Z (cg Z Z (bne_eq_false_iff_eq.2 (by omega))) (wv Z (aD (b:=false) (v:= .b false) Z Z) (wn (al Z (wk (ad (sr (mu (↑n) Z (wv Z (bj Z Z (decide_eq_true (by omega))) (wn ?_)))))))))))
 refine aB Z (sr (mu (↑n) Z (wm Z (bJ H0 (n:=n) (m:=n) bB fx Z Z Z Z Z (by omega) (by omega) (by omega) (fun g1 w2 c H3=>eL g1 0 n n Z (wn (sr (mv (.f 109 (.pt rb)) Z (ms g1 0 n n Z (mi (↑off) Z (wm Z ?_)))))))))))
 refine ei (args:= [.sl g1 0 n n,.i (↑off)]) Z (co _ _) kG Z ?_
 have hgw:w.heap.size≤g1:=Nat.le_trans H0.keep.size c
 have hrl:rb<w.heap.size:=aG hrb
 refine aa (fm _ ((an _ _ _).stay _ _ hrb fun g hg=>H3.keep.block g (by rw[show g=rb from hg];exact aG hrb) (by rw[show g=rb from hg];exact(aW _))) (hG.keep H3.keep (fun k hk=>hk.elim)) (by omega) (H3.g 0 Z) (by omega) (by omega) (hr.keep H3.keep fun a ha=>aW _) (fun a ha=>by have:=hA a ha;omega) hNC (ob:=0) (m:=n) (by rw[List.length_replicate];omega) (by omega) (by omega) (q:=(N- off)) (by simp only[Nat.min_def];split<;>omega)) ?_
 rintro e w5 ⟨rfl,d⟩
 have H6:=H3.kx 0 rfl d (fun _ h=>h)
 refine⟨_,Z,mv (.tuple #[.i (↑(N- off)),.f 224 (.pointer (some a1))]) Z (we (.i (↑(N- off))) Z Z (we (.f 224 (.pointer (some a1))) Z Z (ai (↑(N- off)) Z (av (.f 224 (.pointer (some a1))) Z (wn (ad (sr (mv (.f 224 (.pointer (some a1))) Z (wv Z ((nn true bI Z (.inr ⟨_,_,Z⟩))) (wn ?_))))))))))⟩
 refine aB Z (sr (mv (.f 224 (.pointer (some a1))) Z (wv Z (ag ib Z (H6.keep.cell (hG.2) (aW _))) (wv Z (fL gX Z Z) (mv (.b false) Z (aX Z Z (am (v:= .q (↑n)) Z) (aX Z Z (cQ Z Z (decide_eq_true (by omega))) (wv Z (aD (b:=false) (v:= .b true) Z Z) (wn (aB Z (sr ?_)))))))))))
 refine mv (.f 224 (.pointer (some a1))) Z (av (.ns) Z (av (.f 224 (.pointer (some a1))) Z (wn (rq (a7 ?_)))))
 exact⟨.inr Z,_,r2 (.ns) (.f 224 (.pointer (some a1))) Z _ _,⟨_,_,Z,H6.sub (List.nil_sublist _)⟩⟩
theorem yn{rb N C off n:Nat}{A:Option Addr}{i p:Int}{xs:List Int}{a0 a1:Addr}(w:World)(hrb:(an rb [.s A N C,.i i,.i p] 190).φ w)(hG:Glob 224 w a0 a1)(hNC:N≤C)(hN:N<10485760)(hr:RI .u8 w A N xs)(hA: ∀a,A=some a → a.block<w.heap.size)(hw4:4≤w.heap.size)(ho63:off<4294967296)(hn:n<10485760)(h0:0<n)(hon:N≤off):
 Calls Tryd.prog 50 #[.f 109 (.pt rb),.q ↑n,.i (↑off)] w fun e w'=> ∃T v,e= .returned (.tuple #[.ns,.f T v])∧St w aR [] w':=by
 refine aA (args:= [.f 109 (.pt rb),.q (↑n),.i (↑off)]) Tryd.func50 Z Z Z ?_
 have H0:=St.nil w aR
 refine sr (av (.ns) Z (av (.n) Z (wn (ad (sr (mu (↑n) Z (wv Z (ao db ip Z (a5 (by omega) (by omega))) (wv Z (bj Z Z (decide_eq_false (by omega))) (mv (.b false) Z (aX Z Z (am (v:= .q (↑n)) Z) (aX Z Z (am (v:= .q (↑n)) Z) ?_)))))))))))
 refine aX Z Z (ao db kK Z (a5 (by omega) (by omega))) (aX Z Z (ao ej be Z (aC (by omega) (by omega))) (aX Z Z (cg Z Z (bne_eq_false_iff_eq.2 (by omega))) (wv Z (aD (b:=false) (v:= .b false) Z Z) (wn (al Z (wk (ad (sr (mu (↑n) Z (wv Z (bj Z Z (decide_eq_true (by omega))) (wn ?_)))))))))))
 refine aB Z (sr (mu (↑n) Z (wm Z (bJ H0 (n:=n) (m:=n) bB fx Z Z Z Z Z (by omega) (by omega) (by omega) (fun g1 w2 c H3=>eL g1 0 n n Z (wn (sr (mv (.f 109 (.pt rb)) Z (ms g1 0 n n Z (mi (↑off) Z (wm Z ?_)))))))))))
 refine ei (args:= [.sl g1 0 n n,.i (↑off)]) Z (co _ _) kG Z ?_
 have hgw:w.heap.size≤g1:=Nat.le_trans H0.keep.size c
 have hrl:rb<w.heap.size:=aG hrb
 refine aa (gE _ ((an _ _ _).stay _ _ hrb fun g hg=>H3.keep.block g (by rw[show g=rb from hg];exact aG hrb) (by rw[show g=rb from hg];exact(aW _))) (hG.keep H3.keep (fun k hk=>hk.elim)) (by omega) (by omega) _) ?_
 rintro e w5 ⟨rfl,d⟩
 have H6:=H3.cal0 d
 refine⟨_,Z,mv (.tuple #[.i 0,.f 224 (.pointer (some a1))]) Z (we (.i 0) Z Z (we (.f 224 (.pointer (some a1))) Z Z (ai 0 Z (av (.f 224 (.pointer (some a1))) Z (wn (ad (sr (mv (.f 224 (.pointer (some a1))) Z (wv Z ((nn true bI Z (.inr ⟨_,_,Z⟩))) (wn ?_))))))))))⟩
 refine aB Z (sr (mv (.f 224 (.pointer (some a1))) Z (wv Z (ag ib Z (H6.keep.cell (hG.2) (aW _))) (wv Z (fL gX Z Z) (mv (.b false) Z (aX Z Z (am (v:= .q (↑n)) Z) (aX Z Z (cQ Z Z (decide_eq_true (by omega))) (wv Z (aD (b:=false) (v:= .b true) Z Z) (wn (aB Z (sr ?_)))))))))))
 refine mv (.f 224 (.pointer (some a1))) Z (av (.ns) Z (av (.f 224 (.pointer (some a1))) Z (wn (rq (a7 ?_)))))
 exact⟨.inr Z,_,r2 (.ns) (.f 224 (.pointer (some a1))) Z _ _,⟨_,_,Z,H6.sub (List.nil_sublist _)⟩⟩
theorem oM{rb N C off n:Nat}{A:Option Addr}{i p:Int}{xs:List Int}{a0 a1:Addr}(w:World)(hrb:(an rb [.s A N C,.i i,.i p] 190).φ w)(hG:Glob 224 w a0 a1)(hNC:N≤C)(hN:N<10485760)(hr:RI .u8 w A N xs)(hA: ∀a,A=some a → a.block<w.heap.size)(hw4:4≤w.heap.size)(ho63:off<4294967296)(hn:10485760<n)(hn63:n<9223372036854775808)(hon:off<N):
 Calls Tryd.prog 50 #[.f 109 (.pt rb),.q ↑n,.i (↑off)] w fun e w'=> ∃T v,e= .returned (.tuple #[.ns,.f T v])∧St w aR [] w':=by
 refine aA (args:= [.f 109 (.pt rb),.q (↑n),.i (↑off)]) Tryd.func50 Z Z Z ?_
 have H0:=St.nil w aR
 refine sr (av (.ns) Z (av (.n) Z (wn (ad (sr (mu (↑n) Z (wv Z (ao db ip Z (a5 (by omega) (by omega))) (wv Z (bj Z Z (decide_eq_false (by omega))) (mv (.b false) Z (aX Z Z (am (v:= .q (↑n)) Z) (aX Z Z (am (v:= .q (↑n)) Z) ?_)))))))))))
 refine aX Z Z (ao db kK Z (a5 (by omega) (by omega))) (aX Z Z (ao ej be Z (aC (by omega) (by omega))) (aX Z Z (cg Z Z (bne_eq_false_iff_eq.2 (by omega))) (wv Z (aD (b:=false) (v:= .b false) Z Z) (wn (al Z (wk (ad (sr (mu (↑n) Z (wv Z (bj Z Z (decide_eq_false (by omega))) (wn ?_)))))))))))
 refine al Z (wk (sr (av (.ns) Z (wn (sr (wm Z (bJ H0 (n:=10485760) (m:=10485760) bB fx Z Z Z Z Z (by omega) (by omega) (by omega) (fun g1 w2 j H3=>eL g1 0 10485760 10485760 Z (wn (ad (a6 ?_)))))))))))
 refine ew 1 (du (ad (sr (mu (↑n) Z (wv Z (cQ Z Z (decide_eq_true (by omega))) (wn (aB Z (wk (a6 (sr (mu (↑n) Z ?_)))))))))))
 refine au (↑n) Z (wn (ad (sr (mu (↑n) Z (wv Z (cQ Z Z (decide_eq_true (by omega))) (wn (aB Z (ae (au 10485760 Z (wn (ad ?_)))))))))))
 refine bZ MX (fun w'=>True) (tp 0 8 (Plan.run 8 (tp 9 5 Plan.done))) (by kernel_rfl) ?_
 have H4:=H3.drew
 have c:(fun w'=>True) w2.drew:=trivial
 refine py Z c (am (v:= .f 109 (.pt rb)) Z) (py Z c (am (v:= .sl g1 0 10485760 10485760) Z) (py Z c (am (v:= .q 10485760) Z) (pt Z c (fun _ hS=>(aq (l:=0) (h:=10485760) aZ Z bn (bs Z (by omega) Z) (by omega) (by omega) (by omega) Z:Yv _ _ _ _ (.sl g1 0 10485760 10485760) _)) (py Z c (am (v:= .i (↑off)) Z) (py Z c (qU (vs:= [.f 109 (.pt rb)]) Z Z) (py Z c (bp Z (eH _ _)) (py Z c (am (v:= .f 109 (.pt rb)) Z) (pr Z (ei (args:= [.sl g1 0 10485760 10485760,.i (↑off)]) Z (co _ _) kG Z ?_)))))))))
 have hgw:w.heap.size≤g1:=Nat.le_trans H0.keep.size j
 have hrl:rb<w.heap.size:=aG hrb
 refine aa (fm _ ((an _ _ _).stay _ _ hrb fun g hg=>H4.keep.block g (by rw[show g=rb from hg];exact aG hrb) (by rw[show g=rb from hg];exact(aW _))) (hG.keep H4.keep (fun k hk=>hk.elim)) (by omega) (H4.g 0 Z) (by omega) (by omega) (hr.keep H4.keep fun a ha=>aW _) (fun a ha=>by have:=hA a ha;omega) hNC (ob:=0) (m:=10485760) (by rw[List.length_replicate];omega) (by omega) (by omega) (q:=(N- off)) (by simp only[Nat.min_def];split<;>omega)) ?_
 rintro e w7 ⟨rfl,o⟩
 have H8:=H4.kx 0 rfl o (fun _ h=>h)
 refine⟨_,Z,?_⟩
 have d:(fun w'=>True) w7:=trivial
 refine⟨d,py Z d (am (v:= .tuple #[.i (↑(N- off)),.f 224 (.pointer (some a1))]) Z) (py Z d (aE (v:= .i (↑(N- off))) Z Z) (py Z d (aE (v:= .f 224 (.pointer (some a1))) Z Z) (py Z d (bd (v:= .i (↑(N- off))) Z) (py Z d (bd (v:= .f 224 (.pointer (some a1))) Z) (bC (ac (ad (sr (mv (.f 224 (.pointer (some a1))) Z (wv Z ((nn true bI Z (.inr ⟨_,_,Z⟩))) ?_))))))))))⟩
 refine wn (aB Z (sr (mv (.f 224 (.pointer (some a1))) Z (av (.ns) Z (av (.f 224 (.pointer (some a1))) Z (wn (rq (aI (a7 (aI (a7 ?_)))))))))))
 exact⟨.inr Z,_,r2 (.ns) (.f 224 (.pointer (some a1))) Z _ _,⟨_,_,Z,H8.sub (List.nil_sublist _)⟩⟩
theorem pq{rb N C off n:Nat}{A:Option Addr}{i p:Int}{xs:List Int}{a0 a1:Addr}(w:World)(hrb:(an rb [.s A N C,.i i,.i p] 190).φ w)(hG:Glob 224 w a0 a1)(hNC:N≤C)(hN:N<10485760)(hr:RI .u8 w A N xs)(hA: ∀a,A=some a → a.block<w.heap.size)(hw4:4≤w.heap.size)(ho63:off<4294967296)(hn:n=10485760)(hon:off<N):
 Calls Tryd.prog 50 #[.f 109 (.pt rb),.q ↑n,.i (↑off)] w fun e w'=> ∃T v,e= .returned (.tuple #[.ns,.f T v])∧St w aR [] w':=by
 refine aA (args:= [.f 109 (.pt rb),.q (↑n),.i (↑off)]) Tryd.func50 Z Z Z ?_
 have H0:=St.nil w aR
 refine sr (av (.ns) Z (av (.n) Z (wn (ad (sr (mu (↑n) Z (wv Z (ao db ip Z (a5 (by omega) (by omega))) (wv Z (bj Z Z (decide_eq_false (by omega))) (mv (.b false) Z (aX Z Z (am (v:= .q (↑n)) Z) (aX Z Z (am (v:= .q (↑n)) Z) ?_)))))))))))
 refine aX Z Z (ao db kK Z (a5 (by omega) (by omega))) (aX Z Z (ao ej be Z (aC (by omega) (by omega))) (aX Z Z (cg Z Z (bne_eq_false_iff_eq.2 (by omega))) (wv Z (aD (b:=false) (v:= .b false) Z Z) (wn (al Z (wk (ad (sr (mu (↑n) Z (wv Z (bj Z Z (decide_eq_false (by omega))) (wn ?_)))))))))))
 refine al Z (wk (sr (av (.ns) Z (wn (sr (wm Z (bJ H0 (n:=10485760) (m:=10485760) bB fx Z Z Z Z Z (by omega) (by omega) (by omega) (fun g1 w2 j H3=>eL g1 0 10485760 10485760 Z (wn (ad (a6 ?_)))))))))))
 refine ew 1 (du (ad (sr (mu (↑n) Z (wv Z (cQ Z Z (decide_eq_true (by omega))) (wn (aB Z (wk (a6 (sr (mu (↑n) Z ?_)))))))))))
 refine au (↑n) Z (wn (ad (sr (mu (↑n) Z (wv Z (cQ Z Z (decide_eq_false (by omega))) (wn (al Z (wk (ad (bZ MX (fun w'=>True) (tp 0 8 (Plan.run 8 (tp 9 5 Plan.done))) (by kernel_rfl) ?_))))))))))
 have H4:=H3.drew
 have c:(fun w'=>True) w2.drew:=trivial
 refine py Z c (am (v:= .f 109 (.pt rb)) Z) (py Z c (am (v:= .sl g1 0 10485760 10485760) Z) (py Z c (am (v:= .q (↑n)) Z) (pt Z c (fun _ hS=>(aq (l:=0) (h:=n) aZ Z bn (bs Z (by omega) (Int.toNat_natCast _)) (by omega) (by omega) (by omega) Z:Yv _ _ _ _ (.sl g1 0 n 10485760) _)) (py Z c (am (v:= .i (↑off)) Z) (py Z c (qU (vs:= [.f 109 (.pt rb)]) Z Z) (py Z c (bp Z (eH _ _)) (py Z c (am (v:= .f 109 (.pt rb)) Z) (pr Z (ei (args:= [.sl g1 0 n 10485760,.i (↑off)]) Z (co _ _) kG Z ?_)))))))))
 have hgw:w.heap.size≤g1:=Nat.le_trans H0.keep.size j
 have hrl:rb<w.heap.size:=aG hrb
 refine aa (fm _ ((an _ _ _).stay _ _ hrb fun g hg=>H4.keep.block g (by rw[show g=rb from hg];exact aG hrb) (by rw[show g=rb from hg];exact(aW _))) (hG.keep H4.keep (fun k hk=>hk.elim)) (by omega) (H4.g 0 Z) (by omega) (by omega) (hr.keep H4.keep fun a ha=>aW _) (fun a ha=>by have:=hA a ha;omega) hNC (ob:=0) (m:=n) (by rw[List.length_replicate];omega) (by omega) (by omega) (q:=(N- off)) (by simp only[Nat.min_def];split<;>omega)) ?_
 rintro e w7 ⟨rfl,o⟩
 have H8:=H4.kx 0 rfl o (fun _ h=>h)
 refine⟨_,Z,?_⟩
 have d:(fun w'=>True) w7:=trivial
 refine⟨d,py Z d (am (v:= .tuple #[.i (↑(N- off)),.f 224 (.pointer (some a1))]) Z) (py Z d (aE (v:= .i (↑(N- off))) Z Z) (py Z d (aE (v:= .f 224 (.pointer (some a1))) Z Z) (py Z d (bd (v:= .i (↑(N- off))) Z) (py Z d (bd (v:= .f 224 (.pointer (some a1))) Z) (bC (ac (ad (sr (mv (.f 224 (.pointer (some a1))) Z (wv Z ((nn true bI Z (.inr ⟨_,_,Z⟩))) ?_))))))))))⟩
 refine wn (aB Z (sr (mv (.f 224 (.pointer (some a1))) Z (av (.ns) Z (av (.f 224 (.pointer (some a1))) Z (wn (rq (aI (a7 (aI (a7 ?_)))))))))))
 exact⟨.inr Z,_,r2 (.ns) (.f 224 (.pointer (some a1))) Z _ _,⟨_,_,Z,H8.sub (List.nil_sublist _)⟩⟩
theorem qN{rb N C off n:Nat}{A:Option Addr}{i p:Int}{xs:List Int}{a0 a1:Addr}(w:World)(hrb:(an rb [.s A N C,.i i,.i p] 190).φ w)(hG:Glob 224 w a0 a1)(hNC:N≤C)(hN:N<10485760)(hr:RI .u8 w A N xs)(hA: ∀a,A=some a → a.block<w.heap.size)(hw4:4≤w.heap.size)(ho63:off<4294967296)(hn:10485760<n)(hn63:n<9223372036854775808)(hon:N≤off):
 Calls Tryd.prog 50 #[.f 109 (.pt rb),.q ↑n,.i (↑off)] w fun e w'=> ∃T v,e= .returned (.tuple #[.ns,.f T v])∧St w aR [] w':=by
 refine aA (args:= [.f 109 (.pt rb),.q (↑n),.i (↑off)]) Tryd.func50 Z Z Z ?_
 have H0:=St.nil w aR
 refine sr (av (.ns) Z (av (.n) Z (wn (ad (sr (mu (↑n) Z (wv Z (ao db ip Z (a5 (by omega) (by omega))) (wv Z (bj Z Z (decide_eq_false (by omega))) (mv (.b false) Z (aX Z Z (am (v:= .q (↑n)) Z) (aX Z Z (am (v:= .q (↑n)) Z) ?_)))))))))))
 refine aX Z Z (ao db kK Z (a5 (by omega) (by omega))) (aX Z Z (ao ej be Z (aC (by omega) (by omega))) (aX Z Z (cg Z Z (bne_eq_false_iff_eq.2 (by omega))) (wv Z (aD (b:=false) (v:= .b false) Z Z) (wn (al Z (wk (ad (sr (mu (↑n) Z (wv Z (bj Z Z (decide_eq_false (by omega))) (wn ?_)))))))))))
 refine al Z (wk (sr (av (.ns) Z (wn (sr (wm Z (bJ H0 (n:=10485760) (m:=10485760) bB fx Z Z Z Z Z (by omega) (by omega) (by omega) (fun g1 w2 j H3=>eL g1 0 10485760 10485760 Z (wn (ad (a6 ?_)))))))))))
 refine ew 1 (du (ad (sr (mu (↑n) Z (wv Z (cQ Z Z (decide_eq_true (by omega))) (wn (aB Z (wk (a6 (sr (mu (↑n) Z ?_)))))))))))
 refine au (↑n) Z (wn (ad (sr (mu (↑n) Z (wv Z (cQ Z Z (decide_eq_true (by omega))) (wn (aB Z (ae (au 10485760 Z (wn (ad ?_)))))))))))
 refine bZ MX (fun w'=>True) (tp 0 8 (Plan.run 8 (tp 9 5 Plan.done))) (by kernel_rfl) ?_
 have H4:=H3.drew
 have c:(fun w'=>True) w2.drew:=trivial
 refine py Z c (am (v:= .f 109 (.pt rb)) Z) (py Z c (am (v:= .sl g1 0 10485760 10485760) Z) (py Z c (am (v:= .q 10485760) Z) (pt Z c (fun _ hS=>(aq (l:=0) (h:=10485760) aZ Z bn (bs Z (by omega) Z) (by omega) (by omega) (by omega) Z:Yv _ _ _ _ (.sl g1 0 10485760 10485760) _)) (py Z c (am (v:= .i (↑off)) Z) (py Z c (qU (vs:= [.f 109 (.pt rb)]) Z Z) (py Z c (bp Z (eH _ _)) (py Z c (am (v:= .f 109 (.pt rb)) Z) (pr Z (ei (args:= [.sl g1 0 10485760 10485760,.i (↑off)]) Z (co _ _) kG Z ?_)))))))))
 have hgw:w.heap.size≤g1:=Nat.le_trans H0.keep.size j
 have hrl:rb<w.heap.size:=aG hrb
 refine aa (gE _ ((an _ _ _).stay _ _ hrb fun g hg=>H4.keep.block g (by rw[show g=rb from hg];exact aG hrb) (by rw[show g=rb from hg];exact(aW _))) (hG.keep H4.keep (fun k hk=>hk.elim)) (by omega) (by omega) _) ?_
 rintro e w7 ⟨rfl,o⟩
 have H8:=H4.cal0 o
 refine⟨_,Z,?_⟩
 have d:(fun w'=>True) w7:=trivial
 refine⟨d,py Z d (am (v:= .tuple #[.i 0,.f 224 (.pointer (some a1))]) Z) (py Z d (aE (v:= .i 0) Z Z) (py Z d (aE (v:= .f 224 (.pointer (some a1))) Z Z) (py Z d (bd (v:= .i 0) Z) (py Z d (bd (v:= .f 224 (.pointer (some a1))) Z) (bC (ac (ad (sr (mv (.f 224 (.pointer (some a1))) Z (wv Z ((nn true bI Z (.inr ⟨_,_,Z⟩))) ?_))))))))))⟩
 refine wn (aB Z (sr (mv (.f 224 (.pointer (some a1))) Z (av (.ns) Z (av (.f 224 (.pointer (some a1))) Z (wn (rq (aI (a7 (aI (a7 ?_)))))))))))
 exact⟨.inr Z,_,r2 (.ns) (.f 224 (.pointer (some a1))) Z _ _,⟨_,_,Z,H8.sub (List.nil_sublist _)⟩⟩
theorem su{rb N C off n:Nat}{A:Option Addr}{i p:Int}{xs:List Int}{a0 a1:Addr}(w:World)(hrb:(an rb [.s A N C,.i i,.i p] 190).φ w)(hG:Glob 224 w a0 a1)(hNC:N≤C)(hN:N<10485760)(hr:RI .u8 w A N xs)(hA: ∀a,A=some a → a.block<w.heap.size)(hw4:4≤w.heap.size)(ho63:off<4294967296)(hn:n=10485760)(hon:N≤off):
 Calls Tryd.prog 50 #[.f 109 (.pt rb),.q ↑n,.i (↑off)] w fun e w'=> ∃T v,e= .returned (.tuple #[.ns,.f T v])∧St w aR [] w':=by
 refine aA (args:= [.f 109 (.pt rb),.q (↑n),.i (↑off)]) Tryd.func50 Z Z Z ?_
 have H0:=St.nil w aR
 refine sr (av (.ns) Z (av (.n) Z (wn (ad (sr (mu (↑n) Z (wv Z (ao db ip Z (a5 (by omega) (by omega))) (wv Z (bj Z Z (decide_eq_false (by omega))) (mv (.b false) Z (aX Z Z (am (v:= .q (↑n)) Z) (aX Z Z (am (v:= .q (↑n)) Z) ?_)))))))))))
 refine aX Z Z (ao db kK Z (a5 (by omega) (by omega))) (aX Z Z (ao ej be Z (aC (by omega) (by omega))) (aX Z Z (cg Z Z (bne_eq_false_iff_eq.2 (by omega))) (wv Z (aD (b:=false) (v:= .b false) Z Z) (wn (al Z (wk (ad (sr (mu (↑n) Z (wv Z (bj Z Z (decide_eq_false (by omega))) (wn ?_)))))))))))
 refine al Z (wk (sr (av (.ns) Z (wn (sr (wm Z (bJ H0 (n:=10485760) (m:=10485760) bB fx Z Z Z Z Z (by omega) (by omega) (by omega) (fun g1 w2 j H3=>eL g1 0 10485760 10485760 Z (wn (ad (a6 ?_)))))))))))
 refine ew 1 (du (ad (sr (mu (↑n) Z (wv Z (cQ Z Z (decide_eq_true (by omega))) (wn (aB Z (wk (a6 (sr (mu (↑n) Z ?_)))))))))))
 refine au (↑n) Z (wn (ad (sr (mu (↑n) Z (wv Z (cQ Z Z (decide_eq_false (by omega))) (wn (al Z (wk (ad (bZ MX (fun w'=>True) (tp 0 8 (Plan.run 8 (tp 9 5 Plan.done))) (by kernel_rfl) ?_))))))))))
 have H4:=H3.drew
 have c:(fun w'=>True) w2.drew:=trivial
 refine py Z c (am (v:= .f 109 (.pt rb)) Z) (py Z c (am (v:= .sl g1 0 10485760 10485760) Z) (py Z c (am (v:= .q (↑n)) Z) (pt Z c (fun _ hS=>(aq (l:=0) (h:=n) aZ Z bn (bs Z (by omega) (Int.toNat_natCast _)) (by omega) (by omega) (by omega) Z:Yv _ _ _ _ (.sl g1 0 n 10485760) _)) (py Z c (am (v:= .i (↑off)) Z) (py Z c (qU (vs:= [.f 109 (.pt rb)]) Z Z) (py Z c (bp Z (eH _ _)) (py Z c (am (v:= .f 109 (.pt rb)) Z) (pr Z (ei (args:= [.sl g1 0 n 10485760,.i (↑off)]) Z (co _ _) kG Z ?_)))))))))
 have hgw:w.heap.size≤g1:=Nat.le_trans H0.keep.size j
 have hrl:rb<w.heap.size:=aG hrb
 refine aa (gE _ ((an _ _ _).stay _ _ hrb fun g hg=>H4.keep.block g (by rw[show g=rb from hg];exact aG hrb) (by rw[show g=rb from hg];exact(aW _))) (hG.keep H4.keep (fun k hk=>hk.elim)) (by omega) (by omega) _) ?_
 rintro e w7 ⟨rfl,o⟩
 have H8:=H4.cal0 o
 refine⟨_,Z,?_⟩
 have d:(fun w'=>True) w7:=trivial
 refine⟨d,py Z d (am (v:= .tuple #[.i 0,.f 224 (.pointer (some a1))]) Z) (py Z d (aE (v:= .i 0) Z Z) (py Z d (aE (v:= .f 224 (.pointer (some a1))) Z Z) (py Z d (bd (v:= .i 0) Z) (py Z d (bd (v:= .f 224 (.pointer (some a1))) Z) (bC (ac (ad (sr (mv (.f 224 (.pointer (some a1))) Z (wv Z ((nn true bI Z (.inr ⟨_,_,Z⟩))) ?_))))))))))⟩
 refine wn (aB Z (sr (mv (.f 224 (.pointer (some a1))) Z (av (.ns) Z (av (.f 224 (.pointer (some a1))) Z (wn (rq (aI (a7 (aI (a7 ?_)))))))))))
 exact⟨.inr Z,_,r2 (.ns) (.f 224 (.pointer (some a1))) Z _ _,⟨_,_,Z,H8.sub (List.nil_sublist _)⟩⟩
theorem jM{rb N C off n:Nat}{A:Option Addr}{i p:Int}{xs:List Int}{a0 a1:Addr}(w:World)(hrb:(an rb [.s A N C,.i i,.i p] 190).φ w)(hG:Glob 224 w a0 a1)(hNC:N≤C)(hN:N<10485760)(hr:RI .u8 w A N xs)(hA: ∀a,A=some a → a.block<w.heap.size)(hw4:4≤w.heap.size)(ho63:off<4294967296)(h:n=0∨off+n≤N):
 Calls Tryd.prog 50 #[.f 109 (.pt rb),.q ↑n,.i (↑off)] w fun e w'=> ∃g,e= .returned (.tuple #[.sl g 0 n n,.n])∧w.heap.size≤g∧St w aR [an g (nums .u8 ((xs.drop off).take n)) 5] w':=by
 by_cases hf:off+n≤N∧off<N
 · exact wi w hrb hG hNC hN hr hA hw4 ho63 hf.1 hf.2
 · exact wg w hrb hG hNC hN hr hA hw4 ho63 (by omega) (by omega)
theorem iI{rb N C off n:Nat}{A:Option Addr}{i p:Int}{xs:List Int}{a0 a1:Addr}(w:World)(hrb:(an rb [.s A N C,.i i,.i p] 190).φ w)(hG:Glob 224 w a0 a1)(hNC:N≤C)(hN:N<10485760)(hr:RI .u8 w A N xs)(hA: ∀a,A=some a → a.block<w.heap.size)(hw4:4≤w.heap.size)(ho63:off<4294967296)(h0:n≠0)(h:N<off+n)(hn64:n<18446744073709551616):
 Calls Tryd.prog 50 #[.f 109 (.pt rb),.q ↑n,.i (↑off)] w fun e w'=> ∃T v,e= .returned (.tuple #[.ns,.f T v])∧St w aR [] w':=by
 by_cases h1:9223372036854775808≤n
 · exact wh w hrb hG hNC hN hr hA hw4 ho63 h1 hn64
 by_cases h2:off<N
 · rcases Nat.lt_trichotomy n 10485760 with h3|h3|h3
   · exact tk w hrb hG hNC hN hr hA hw4 ho63 h3 h h2
   · exact pq w hrb hG hNC hN hr hA hw4 ho63 h3 h2
   · exact oM w hrb hG hNC hN hr hA hw4 ho63 h3 (by omega) h2
 · rcases Nat.lt_trichotomy n 10485760 with h3|h3|h3
   · exact yn w hrb hG hNC hN hr hA hw4 ho63 h3 (by omega) (by omega)
   · exact su w hrb hG hNC hN hr hA hw4 ho63 h3 (by omega)
   · exact qN w hrb hG hNC hN hr hA hw4 ho63 h3 (by omega) (by omega)
theorem wb{rb N C off n:Nat}{A:Option Addr}{i p:Int}{xs:List Int}{a0 a1:Addr}(w:World)(hrb:(an rb [.s A N C,.i i,.i p] 190).φ w)(hG:Glob 224 w a0 a1)(hNC:N≤C)(hN:N<10485760)(hr:RI .u8 w A N xs)(hA: ∀a,A=some a → a.block<w.heap.size)(hw4:4≤w.heap.size)(ho63:off<4294967296){sb:Nat}{so sn lim:Int}(hsb:(an sb [.f 109 (.pt rb),.i ↑off,.i so,.i lim,.i sn] 195).φ w)(hl:lim= ↑off+ ↑n∨(lim=9223372036854775807∧10485760≤n))(hl3:lim≤9223372036854775807)(hn:off+n≤N)(h0:0<n):
 Calls Tryd.prog 50 #[.f 133 (.pt sb),.q ↑n,.i 0] w fun e w'=> ∃g,e= .returned (.tuple #[.sl g 0 n n,.n])∧w.heap.size≤g∧St w aR [an g (nums .u8 ((xs.drop off).take n)) 5] w':=by
 refine aA (args:= [.f 133 (.pt sb),.q (↑n),.i 0]) Tryd.func50 Z Z Z ?_
 have H0:=St.nil w aR
 refine sr (av (.ns) Z (av (.n) Z (wn (ad (sr (mu (↑n) Z (wv Z (ao db ip Z (a5 (by omega) (by omega))) (wv Z (bj Z Z (decide_eq_false (by omega))) (mv (.b false) Z (aX Z Z (am (v:= .q (↑n)) Z) (aX Z Z (am (v:= .q (↑n)) Z) ?_)))))))))))
 refine aX Z Z (ao db kK Z (a5 (by omega) (by omega))) (aX Z Z (ao ej be Z (aC (by omega) (by omega))) (aX Z Z (cg Z Z (bne_eq_false_iff_eq.2 (by omega))) (wv Z (aD (b:=false) (v:= .b false) Z Z) (wn (al Z (wk (ad (sr (mu (↑n) Z (wv Z (bj Z Z (decide_eq_true (by omega))) (wn ?_)))))))))))
 refine aB Z (sr (mu (↑n) Z (wm Z (bJ H0 (n:=n) (m:=n) bB fx Z Z Z Z Z (by omega) (by omega) (by omega) (fun g1 w2 c H3=>eL g1 0 n n Z (wn (sr (mv (.f 133 (.pt sb)) Z (ms g1 0 n n Z (mi 0 Z (wm Z ?_)))))))))))
 refine ei (args:= [.sl g1 0 n n,.i 0]) Z (ef _ _) s9 Z ?_
 have hgw:w.heap.size≤g1:=Nat.le_trans H0.keep.size c
 have hrl:rb<w.heap.size:=aG hrb
 have hsl:sb<w.heap.size:=aG hsb
 refine aa (yi _ ((an _ _ _).stay _ _ hsb fun g hg=>H3.keep.block g (by rw[show g=sb from hg];exact aG hsb) (by rw[show g=sb from hg];exact(aW _))) (by omega) (by omega) hl3 (by omega) ((an _ _ _).stay _ _ hrb fun g hg=>H3.keep.block g (by rw[show g=rb from hg];exact aG hrb) (by rw[show g=rb from hg];exact(aW _))) (hG.keep H3.keep (fun k hk=>hk.elim)) (by omega) (H3.g 0 Z) (by omega) (by omega) (hr.keep H3.keep fun a ha=>aW _) (fun a ha=>by have:=hA a ha;omega) hNC (ob:=0) (m:=n) (by rw[List.length_replicate];omega) (by omega) (by omega) (q:=n) (by simp only[Nat.min_def];split<;>omega)) ?_
 rintro e w5 ⟨rfl,d⟩
 have H6:=H3.kx 0 rfl d (fun _ h=>h)
 refine⟨_,Z,mv (.tuple #[.i (↑n),.n]) Z (we (.i (↑n)) Z Z (we (.n) Z Z (ai (↑n) Z (av (.n) Z (wn (ad (sr (mv (.n) Z (wv Z ((nn false bI Z (.inl Z))) (wn ?_))))))))))⟩
 refine al Z (wk (sr (ms g1 0 n n Z (eL g1 0 n n Z (av (.n) Z (wn (rq ?_)))))))
 exact⟨.inr Z,_,r2 (.sl g1 0 n n) (.n) Z _ _,⟨_,Z,hgw,by simpa[nums]using H6⟩⟩
theorem vZ{rb N C off n:Nat}{A:Option Addr}{i p:Int}{xs:List Int}{a0 a1:Addr}(w:World)(hrb:(an rb [.s A N C,.i i,.i p] 190).φ w)(hG:Glob 224 w a0 a1)(hNC:N≤C)(hN:N<10485760)(hr:RI .u8 w A N xs)(hA: ∀a,A=some a → a.block<w.heap.size)(hw4:4≤w.heap.size)(ho63:off<4294967296){sb:Nat}{so sn lim:Int}(hsb:(an sb [.f 109 (.pt rb),.i ↑off,.i so,.i lim,.i sn] 195).φ w)(hl:lim= ↑off+ ↑n∨(lim=9223372036854775807∧10485760≤n))(hl3:lim≤9223372036854775807)(hn:n=0):
 Calls Tryd.prog 50 #[.f 133 (.pt sb),.q ↑n,.i 0] w fun e w'=> ∃g,e= .returned (.tuple #[.sl g 0 n n,.n])∧w.heap.size≤g∧St w aR [an g (nums .u8 ((xs.drop off).take n)) 5] w':=by
 refine aA (args:= [.f 133 (.pt sb),.q (↑n),.i 0]) Tryd.func50 Z Z Z ?_
 have H0:=St.nil w aR
 refine sr (av (.ns) Z (av (.n) Z (wn (ad (sr (mu (↑n) Z (wv Z (ao db ip Z (a5 (by omega) (by omega))) (wv Z (bj Z Z (decide_eq_false (by omega))) (mv (.b false) Z (aX Z Z (am (v:= .q (↑n)) Z) (aX Z Z (am (v:= .q (↑n)) Z) ?_)))))))))))
 refine aX Z Z (ao db kK Z (a5 (by omega) (by omega))) (aX Z Z (ao ej be Z (aC (by omega) (by omega))) (aX Z Z (cg Z Z (bne_eq_false_iff_eq.2 (by omega))) (wv Z (aD (b:=false) (v:= .b false) Z Z) (wn (al Z (wk (ad (sr (mu (↑n) Z (wv Z (bj Z Z (decide_eq_true (by omega))) (wn ?_)))))))))))
 refine aB Z (sr (mu (↑n) Z (wm Z (bJ H0 (n:=n) (m:=n) bB fx Z Z Z Z Z (by omega) (by omega) (by omega) (fun g1 w2 c H3=>eL g1 0 n n Z (wn (sr (mv (.f 133 (.pt sb)) Z (ms g1 0 n n Z (mi 0 Z (wm Z ?_)))))))))))
 refine ei (args:= [.sl g1 0 n n,.i 0]) Z (ef _ _) s9 Z ?_
 have hgw:w.heap.size≤g1:=Nat.le_trans H0.keep.size c
 have hrl:rb<w.heap.size:=aG hrb
 have hsl:sb<w.heap.size:=aG hsb
 refine aa (yh _ ((an _ _ _).stay _ _ hsb fun g hg=>H3.keep.block g (by rw[show g=sb from hg];exact aG hsb) (by rw[show g=sb from hg];exact(aW _))) (by omega) hl3 (hG.keep H3.keep (fun k hk=>hk.elim)) _) ?_
 rintro e w5 ⟨rfl,d⟩
 have H6:=H3.cal0 d
 refine⟨_,Z,mv (.tuple #[.i 0,.f 224 (.pointer (some a1))]) Z (we (.i 0) Z Z (we (.f 224 (.pointer (some a1))) Z Z (ai 0 Z (av (.f 224 (.pointer (some a1))) Z (wn (ad (sr (mv (.f 224 (.pointer (some a1))) Z (wv Z ((nn true bI Z (.inr ⟨_,_,Z⟩))) (wn ?_))))))))))⟩
 refine aB Z (sr (mv (.f 224 (.pointer (some a1))) Z (wv Z (ag ib Z (H6.keep.cell (hG.2) (aW _))) (wv Z (fL gX Z Z) (mv (.b false) Z (aX Z Z (am (v:= .q (↑n)) Z) (aX Z Z (cQ Z Z (decide_eq_false (by omega))) (wv Z (aD (b:=false) (v:= .b false) Z Z) (wn (al Z (wk ?_)))))))))))
 refine sr (ms g1 0 n n Z (eL g1 0 n n Z (av (.n) Z (wn (rq ?_)))))
 exact⟨.inr Z,_,r2 (.sl g1 0 n n) (.n) Z _ _,⟨_,Z,hgw,by subst hn;simpa[nums]using H6⟩⟩
theorem wa{rb N C off n:Nat}{A:Option Addr}{i p:Int}{xs:List Int}{a0 a1:Addr}(w:World)(hrb:(an rb [.s A N C,.i i,.i p] 190).φ w)(hG:Glob 224 w a0 a1)(hNC:N≤C)(hN:N<10485760)(hr:RI .u8 w A N xs)(hA: ∀a,A=some a → a.block<w.heap.size)(hw4:4≤w.heap.size)(ho63:off<4294967296){sb:Nat}{so sn lim:Int}(hsb:(an sb [.f 109 (.pt rb),.i ↑off,.i so,.i lim,.i sn] 195).φ w)(hl:lim= ↑off+ ↑n∨(lim=9223372036854775807∧10485760≤n))(hl3:lim≤9223372036854775807)(hn:9223372036854775808≤n)(hn64:n<18446744073709551616):
 Calls Tryd.prog 50 #[.f 133 (.pt sb),.q ↑n,.i 0] w fun e w'=> ∃T v,e= .returned (.tuple #[.ns,.f T v])∧St w aR [] w':=by
 refine aA (args:= [.f 133 (.pt sb),.q (↑n),.i 0]) Tryd.func50 Z Z Z ?_
 have H0:=St.nil w aR
 refine sr (av (.ns) Z (av (.n) Z (wn (ad (sr (mu (↑n) Z (wv Z (ao (c:= ↑n- 18446744073709551616) db ip Z (by rw[IntKind.wrap_i64];omega)) (wv Z (bj Z Z (decide_eq_true (by omega))) (mv (.b true) Z (ck Z Z (ck Z Z ?_)))))))))))
 refine ck Z Z (ck Z Z (ck Z Z (wv Z (aD (b:=true) (v:= .b true) Z Z) (wn (aB Z (ad (bZ MX (fun w'=>w'.cell? ⟨0,0,none⟩=some (.f 224 (.pointer (some a0)))) (tp 0 3 Plan.done) (by kernel_rfl) ?_)))))))
 have H1:=H0.drew
 have d:(fun w'=>w'.cell? ⟨0,0,none⟩=some (.f 224 (.pointer (some a0)))) w.drew:=H1.keep.cell (hG.1) (aW _)
 refine ph Z d (fun hS=>ag ib Z hS) (py Z d (bd (v:= .ns) Z) (py Z d (bd (v:= .f 224 (.pointer (some a0))) Z) (bC (ac (rq ?_)))))
 exact⟨.inr Z,_,r2 (.ns) (.f 224 (.pointer (some a0))) Z _ _,⟨_,_,Z,H1.sub (List.nil_sublist _)⟩⟩
theorem tj{rb N C off n:Nat}{A:Option Addr}{i p:Int}{xs:List Int}{a0 a1:Addr}(w:World)(hrb:(an rb [.s A N C,.i i,.i p] 190).φ w)(hG:Glob 224 w a0 a1)(hNC:N≤C)(hN:N<10485760)(hr:RI .u8 w A N xs)(hA: ∀a,A=some a → a.block<w.heap.size)(hw4:4≤w.heap.size)(ho63:off<4294967296){sb:Nat}{so sn lim:Int}(hsb:(an sb [.f 109 (.pt rb),.i ↑off,.i so,.i lim,.i sn] 195).φ w)(hl:lim= ↑off+ ↑n∨(lim=9223372036854775807∧10485760≤n))(hl3:lim≤9223372036854775807)(hn:n<10485760)(ho:N<off+n)(hon:off<N):
 Calls Tryd.prog 50 #[.f 133 (.pt sb),.q ↑n,.i 0] w fun e w'=> ∃T v,e= .returned (.tuple #[.ns,.f T v])∧St w aR [] w':=by
 refine aA (args:= [.f 133 (.pt sb),.q (↑n),.i 0]) Tryd.func50 Z Z Z ?_
 have H0:=St.nil w aR
 refine sr (av (.ns) Z (av (.n) Z (wn (ad (sr (mu (↑n) Z (wv Z (ao db ip Z (a5 (by omega) (by omega))) (wv Z (bj Z Z (decide_eq_false (by omega))) (mv (.b false) Z (aX Z Z (am (v:= .q (↑n)) Z) (aX Z Z (am (v:= .q (↑n)) Z) ?_)))))))))))
 refine aX Z Z (ao db kK Z (a5 (by omega) (by omega))) (aX Z Z (ao ej be Z (aC (by omega) (by omega))) (aX Z Z (cg Z Z (bne_eq_false_iff_eq.2 (by omega))) (wv Z (aD (b:=false) (v:= .b false) Z Z) (wn (al Z (wk (ad (sr (mu (↑n) Z (wv Z (bj Z Z (decide_eq_true (by omega))) (wn ?_)))))))))))
 refine aB Z (sr (mu (↑n) Z (wm Z (bJ H0 (n:=n) (m:=n) bB fx Z Z Z Z Z (by omega) (by omega) (by omega) (fun g1 w2 c H3=>eL g1 0 n n Z (wn (sr (mv (.f 133 (.pt sb)) Z (ms g1 0 n n Z (mi 0 Z (wm Z ?_)))))))))))
 refine ei (args:= [.sl g1 0 n n,.i 0]) Z (ef _ _) s9 Z ?_
 have hgw:w.heap.size≤g1:=Nat.le_trans H0.keep.size c
 have hrl:rb<w.heap.size:=aG hrb
 have hsl:sb<w.heap.size:=aG hsb
 refine aa (lY _ ((an _ _ _).stay _ _ hsb fun g hg=>H3.keep.block g (by rw[show g=sb from hg];exact aG hsb) (by rw[show g=sb from hg];exact(aW _))) (by omega) (by omega) hl3 (by omega) ((an _ _ _).stay _ _ hrb fun g hg=>H3.keep.block g (by rw[show g=rb from hg];exact aG hrb) (by rw[show g=rb from hg];exact(aW _))) (hG.keep H3.keep (fun k hk=>hk.elim)) (by omega) (H3.g 0 Z) (by omega) (by omega) (hr.keep H3.keep fun a ha=>aW _) (fun a ha=>by have:=hA a ha;omega) hNC (ob:=0) (m:=n) (by rw[List.length_replicate];omega) (by omega) (by omega) (q:=(N- off)) (by simp only[Nat.min_def];split<;>omega)) ?_
 rintro e w5 ⟨rfl,d⟩
 have H6:=H3.kx 0 rfl d (fun _ h=>h)
 refine⟨_,Z,mv (.tuple #[.i (↑(N- off)),.f 224 (.pointer (some a1))]) Z (we (.i (↑(N- off))) Z Z (we (.f 224 (.pointer (some a1))) Z Z (ai (↑(N- off)) Z (av (.f 224 (.pointer (some a1))) Z (wn (ad (sr (mv (.f 224 (.pointer (some a1))) Z (wv Z ((nn true bI Z (.inr ⟨_,_,Z⟩))) (wn ?_))))))))))⟩
 refine aB Z (sr (mv (.f 224 (.pointer (some a1))) Z (wv Z (ag ib Z (H6.keep.cell (hG.2) (aW _))) (wv Z (fL gX Z Z) (mv (.b false) Z (aX Z Z (am (v:= .q (↑n)) Z) (aX Z Z (cQ Z Z (decide_eq_true (by omega))) (wv Z (aD (b:=false) (v:= .b true) Z Z) (wn (aB Z (sr ?_)))))))))))
 refine mv (.f 224 (.pointer (some a1))) Z (av (.ns) Z (av (.f 224 (.pointer (some a1))) Z (wn (rq (a7 ?_)))))
 exact⟨.inr Z,_,r2 (.ns) (.f 224 (.pointer (some a1))) Z _ _,⟨_,_,Z,H6.sub (List.nil_sublist _)⟩⟩
theorem yk{rb N C off n:Nat}{A:Option Addr}{i p:Int}{xs:List Int}{a0 a1:Addr}(w:World)(hrb:(an rb [.s A N C,.i i,.i p] 190).φ w)(hG:Glob 224 w a0 a1)(hNC:N≤C)(hN:N<10485760)(hr:RI .u8 w A N xs)(hA: ∀a,A=some a → a.block<w.heap.size)(hw4:4≤w.heap.size)(ho63:off<4294967296){sb:Nat}{so sn lim:Int}(hsb:(an sb [.f 109 (.pt rb),.i ↑off,.i so,.i lim,.i sn] 195).φ w)(hl:lim= ↑off+ ↑n∨(lim=9223372036854775807∧10485760≤n))(hl3:lim≤9223372036854775807)(hn:n<10485760)(h0:0<n)(hon:N≤off):
 Calls Tryd.prog 50 #[.f 133 (.pt sb),.q ↑n,.i 0] w fun e w'=> ∃T v,e= .returned (.tuple #[.ns,.f T v])∧St w aR [] w':=by
 refine aA (args:= [.f 133 (.pt sb),.q (↑n),.i 0]) Tryd.func50 Z Z Z ?_
 have H0:=St.nil w aR
 refine sr (av (.ns) Z (av (.n) Z (wn (ad (sr (mu (↑n) Z (wv Z (ao db ip Z (a5 (by omega) (by omega))) (wv Z (bj Z Z (decide_eq_false (by omega))) (mv (.b false) Z (aX Z Z (am (v:= .q (↑n)) Z) (aX Z Z (am (v:= .q (↑n)) Z) ?_)))))))))))
 refine aX Z Z (ao db kK Z (a5 (by omega) (by omega))) (aX Z Z (ao ej be Z (aC (by omega) (by omega))) (aX Z Z (cg Z Z (bne_eq_false_iff_eq.2 (by omega))) (wv Z (aD (b:=false) (v:= .b false) Z Z) (wn (al Z (wk (ad (sr (mu (↑n) Z (wv Z (bj Z Z (decide_eq_true (by omega))) (wn ?_)))))))))))
 refine aB Z (sr (mu (↑n) Z (wm Z (bJ H0 (n:=n) (m:=n) bB fx Z Z Z Z Z (by omega) (by omega) (by omega) (fun g1 w2 c H3=>eL g1 0 n n Z (wn (sr (mv (.f 133 (.pt sb)) Z (ms g1 0 n n Z (mi 0 Z (wm Z ?_)))))))))))
 refine ei (args:= [.sl g1 0 n n,.i 0]) Z (ef _ _) s9 Z ?_
 have hgw:w.heap.size≤g1:=Nat.le_trans H0.keep.size c
 have hrl:rb<w.heap.size:=aG hrb
 have hsl:sb<w.heap.size:=aG hsb
 refine aa (qL (xs:= []) (Tb:=0) (cs:= []) (gb:=0) (ob:=0) (m:=n) (Ab:=some ⟨g1,0,none⟩) _ ((an _ _ _).stay _ _ hsb fun g hg=>H3.keep.block g (by rw[show g=sb from hg];exact aG hsb) (by rw[show g=sb from hg];exact(aW _))) (by omega) (by omega) hl3 ((an _ _ _).stay _ _ hrb fun g hg=>H3.keep.block g (by rw[show g=rb from hg];exact aG hrb) (by rw[show g=rb from hg];exact(aW _))) (hG.keep H3.keep (fun k hk=>hk.elim)) (by omega) (by omega)) ?_
 rintro e w5 ⟨rfl,d⟩
 have H6:=H3.cal0 d
 refine⟨_,Z,mv (.tuple #[.i 0,.f 224 (.pointer (some a1))]) Z (we (.i 0) Z Z (we (.f 224 (.pointer (some a1))) Z Z (ai 0 Z (av (.f 224 (.pointer (some a1))) Z (wn (ad (sr (mv (.f 224 (.pointer (some a1))) Z (wv Z ((nn true bI Z (.inr ⟨_,_,Z⟩))) (wn ?_))))))))))⟩
 refine aB Z (sr (mv (.f 224 (.pointer (some a1))) Z (wv Z (ag ib Z (H6.keep.cell (hG.2) (aW _))) (wv Z (fL gX Z Z) (mv (.b false) Z (aX Z Z (am (v:= .q (↑n)) Z) (aX Z Z (cQ Z Z (decide_eq_true (by omega))) (wv Z (aD (b:=false) (v:= .b true) Z Z) (wn (aB Z (sr ?_)))))))))))
 refine mv (.f 224 (.pointer (some a1))) Z (av (.ns) Z (av (.f 224 (.pointer (some a1))) Z (wn (rq (a7 ?_)))))
 exact⟨.inr Z,_,r2 (.ns) (.f 224 (.pointer (some a1))) Z _ _,⟨_,_,Z,H6.sub (List.nil_sublist _)⟩⟩
theorem oK{rb N C off n:Nat}{A:Option Addr}{i p:Int}{xs:List Int}{a0 a1:Addr}(w:World)(hrb:(an rb [.s A N C,.i i,.i p] 190).φ w)(hG:Glob 224 w a0 a1)(hNC:N≤C)(hN:N<10485760)(hr:RI .u8 w A N xs)(hA: ∀a,A=some a → a.block<w.heap.size)(hw4:4≤w.heap.size)(ho63:off<4294967296){sb:Nat}{so sn lim:Int}(hsb:(an sb [.f 109 (.pt rb),.i ↑off,.i so,.i lim,.i sn] 195).φ w)(hl:lim= ↑off+ ↑n∨(lim=9223372036854775807∧10485760≤n))(hl3:lim≤9223372036854775807)(hn:10485760<n)(hn63:n<9223372036854775808)(hon:off<N):
 Calls Tryd.prog 50 #[.f 133 (.pt sb),.q ↑n,.i 0] w fun e w'=> ∃T v,e= .returned (.tuple #[.ns,.f T v])∧St w aR [] w':=by
 refine aA (args:= [.f 133 (.pt sb),.q (↑n),.i 0]) Tryd.func50 Z Z Z ?_
 have H0:=St.nil w aR
 refine sr (av (.ns) Z (av (.n) Z (wn (ad (sr (mu (↑n) Z (wv Z (ao db ip Z (a5 (by omega) (by omega))) (wv Z (bj Z Z (decide_eq_false (by omega))) (mv (.b false) Z (aX Z Z (am (v:= .q (↑n)) Z) (aX Z Z (am (v:= .q (↑n)) Z) ?_)))))))))))
 refine aX Z Z (ao db kK Z (a5 (by omega) (by omega))) (aX Z Z (ao ej be Z (aC (by omega) (by omega))) (aX Z Z (cg Z Z (bne_eq_false_iff_eq.2 (by omega))) (wv Z (aD (b:=false) (v:= .b false) Z Z) (wn (al Z (wk (ad (sr (mu (↑n) Z (wv Z (bj Z Z (decide_eq_false (by omega))) (wn ?_)))))))))))
 refine al Z (wk (sr (av (.ns) Z (wn (sr (wm Z (bJ H0 (n:=10485760) (m:=10485760) bB fx Z Z Z Z Z (by omega) (by omega) (by omega) (fun g1 w2 j H3=>eL g1 0 10485760 10485760 Z (wn (ad (a6 ?_)))))))))))
 refine ew 1 (du (ad (sr (mu (↑n) Z (wv Z (cQ Z Z (decide_eq_true (by omega))) (wn (aB Z (wk (a6 (sr (mu (↑n) Z ?_)))))))))))
 refine au (↑n) Z (wn (ad (sr (mu (↑n) Z (wv Z (cQ Z Z (decide_eq_true (by omega))) (wn (aB Z (ae (au 10485760 Z (wn (ad ?_)))))))))))
 refine bZ MX (fun w'=>True) (tp 0 8 (Plan.run 8 (tp 9 5 Plan.done))) (by kernel_rfl) ?_
 have H4:=H3.drew
 have c:(fun w'=>True) w2.drew:=trivial
 refine py Z c (am (v:= .f 133 (.pt sb)) Z) (py Z c (am (v:= .sl g1 0 10485760 10485760) Z) (py Z c (am (v:= .q 10485760) Z) (pt Z c (fun _ hS=>(aq (l:=0) (h:=10485760) aZ Z bn (bs Z (by omega) Z) (by omega) (by omega) (by omega) Z:Yv _ _ _ _ (.sl g1 0 10485760 10485760) _)) (py Z c (am (v:= .i 0) Z) (py Z c (qU (vs:= [.f 133 (.pt sb)]) Z Z) (py Z c (bp Z (iq _ _)) (py Z c (am (v:= .f 133 (.pt sb)) Z) (pr Z (ei (args:= [.sl g1 0 10485760 10485760,.i 0]) Z (ef _ _) s9 Z ?_)))))))))
 have hgw:w.heap.size≤g1:=Nat.le_trans H0.keep.size j
 have hrl:rb<w.heap.size:=aG hrb
 have hsl:sb<w.heap.size:=aG hsb
 refine aa (lY _ ((an _ _ _).stay _ _ hsb fun g hg=>H4.keep.block g (by rw[show g=sb from hg];exact aG hsb) (by rw[show g=sb from hg];exact(aW _))) (by omega) (by omega) hl3 (by omega) ((an _ _ _).stay _ _ hrb fun g hg=>H4.keep.block g (by rw[show g=rb from hg];exact aG hrb) (by rw[show g=rb from hg];exact(aW _))) (hG.keep H4.keep (fun k hk=>hk.elim)) (by omega) (H4.g 0 Z) (by omega) (by omega) (hr.keep H4.keep fun a ha=>aW _) (fun a ha=>by have:=hA a ha;omega) hNC (ob:=0) (m:=10485760) (by rw[List.length_replicate];omega) (by omega) (by omega) (q:=(N- off)) (by simp only[Nat.min_def];split<;>omega)) ?_
 rintro e w7 ⟨rfl,o⟩
 have H8:=H4.kx 0 rfl o (fun _ h=>h)
 refine⟨_,Z,?_⟩
 have d:(fun w'=>True) w7:=trivial
 refine⟨d,py Z d (am (v:= .tuple #[.i (↑(N- off)),.f 224 (.pointer (some a1))]) Z) (py Z d (aE (v:= .i (↑(N- off))) Z Z) (py Z d (aE (v:= .f 224 (.pointer (some a1))) Z Z) (py Z d (bd (v:= .i (↑(N- off))) Z) (py Z d (bd (v:= .f 224 (.pointer (some a1))) Z) (bC (ac (ad (sr (mv (.f 224 (.pointer (some a1))) Z (wv Z ((nn true bI Z (.inr ⟨_,_,Z⟩))) ?_))))))))))⟩
 refine wn (aB Z (sr (mv (.f 224 (.pointer (some a1))) Z (av (.ns) Z (av (.f 224 (.pointer (some a1))) Z (wn (rq (aI (a7 (aI (a7 ?_)))))))))))
 exact⟨.inr Z,_,r2 (.ns) (.f 224 (.pointer (some a1))) Z _ _,⟨_,_,Z,H8.sub (List.nil_sublist _)⟩⟩
theorem pp{rb N C off n:Nat}{A:Option Addr}{i p:Int}{xs:List Int}{a0 a1:Addr}(w:World)(hrb:(an rb [.s A N C,.i i,.i p] 190).φ w)(hG:Glob 224 w a0 a1)(hNC:N≤C)(hN:N<10485760)(hr:RI .u8 w A N xs)(hA: ∀a,A=some a → a.block<w.heap.size)(hw4:4≤w.heap.size)(ho63:off<4294967296){sb:Nat}{so sn lim:Int}(hsb:(an sb [.f 109 (.pt rb),.i ↑off,.i so,.i lim,.i sn] 195).φ w)(hl:lim= ↑off+ ↑n∨(lim=9223372036854775807∧10485760≤n))(hl3:lim≤9223372036854775807)(hn:n=10485760)(hon:off<N):
 Calls Tryd.prog 50 #[.f 133 (.pt sb),.q ↑n,.i 0] w fun e w'=> ∃T v,e= .returned (.tuple #[.ns,.f T v])∧St w aR [] w':=by
 refine aA (args:= [.f 133 (.pt sb),.q (↑n),.i 0]) Tryd.func50 Z Z Z ?_
 have H0:=St.nil w aR
 refine sr (av (.ns) Z (av (.n) Z (wn (ad (sr (mu (↑n) Z (wv Z (ao db ip Z (a5 (by omega) (by omega))) (wv Z (bj Z Z (decide_eq_false (by omega))) (mv (.b false) Z (aX Z Z (am (v:= .q (↑n)) Z) (aX Z Z (am (v:= .q (↑n)) Z) ?_)))))))))))
 refine aX Z Z (ao db kK Z (a5 (by omega) (by omega))) (aX Z Z (ao ej be Z (aC (by omega) (by omega))) (aX Z Z (cg Z Z (bne_eq_false_iff_eq.2 (by omega))) (wv Z (aD (b:=false) (v:= .b false) Z Z) (wn (al Z (wk (ad (sr (mu (↑n) Z (wv Z (bj Z Z (decide_eq_false (by omega))) (wn ?_)))))))))))
 refine al Z (wk (sr (av (.ns) Z (wn (sr (wm Z (bJ H0 (n:=10485760) (m:=10485760) bB fx Z Z Z Z Z (by omega) (by omega) (by omega) (fun g1 w2 j H3=>eL g1 0 10485760 10485760 Z (wn (ad (a6 ?_)))))))))))
 refine ew 1 (du (ad (sr (mu (↑n) Z (wv Z (cQ Z Z (decide_eq_true (by omega))) (wn (aB Z (wk (a6 (sr (mu (↑n) Z ?_)))))))))))
 refine au (↑n) Z (wn (ad (sr (mu (↑n) Z (wv Z (cQ Z Z (decide_eq_false (by omega))) (wn (al Z (wk (ad (bZ MX (fun w'=>True) (tp 0 8 (Plan.run 8 (tp 9 5 Plan.done))) (by kernel_rfl) ?_))))))))))
 have H4:=H3.drew
 have c:(fun w'=>True) w2.drew:=trivial
 refine py Z c (am (v:= .f 133 (.pt sb)) Z) (py Z c (am (v:= .sl g1 0 10485760 10485760) Z) (py Z c (am (v:= .q (↑n)) Z) (pt Z c (fun _ hS=>(aq (l:=0) (h:=n) aZ Z bn (bs Z (by omega) (Int.toNat_natCast _)) (by omega) (by omega) (by omega) Z:Yv _ _ _ _ (.sl g1 0 n 10485760) _)) (py Z c (am (v:= .i 0) Z) (py Z c (qU (vs:= [.f 133 (.pt sb)]) Z Z) (py Z c (bp Z (iq _ _)) (py Z c (am (v:= .f 133 (.pt sb)) Z) (pr Z (ei (args:= [.sl g1 0 n 10485760,.i 0]) Z (ef _ _) s9 Z ?_)))))))))
 have hgw:w.heap.size≤g1:=Nat.le_trans H0.keep.size j
 have hrl:rb<w.heap.size:=aG hrb
 have hsl:sb<w.heap.size:=aG hsb
 refine aa (lY _ ((an _ _ _).stay _ _ hsb fun g hg=>H4.keep.block g (by rw[show g=sb from hg];exact aG hsb) (by rw[show g=sb from hg];exact(aW _))) (by omega) (by omega) hl3 (by omega) ((an _ _ _).stay _ _ hrb fun g hg=>H4.keep.block g (by rw[show g=rb from hg];exact aG hrb) (by rw[show g=rb from hg];exact(aW _))) (hG.keep H4.keep (fun k hk=>hk.elim)) (by omega) (H4.g 0 Z) (by omega) (by omega) (hr.keep H4.keep fun a ha=>aW _) (fun a ha=>by have:=hA a ha;omega) hNC (ob:=0) (m:=n) (by rw[List.length_replicate];omega) (by omega) (by omega) (q:=(N- off)) (by simp only[Nat.min_def];split<;>omega)) ?_
 rintro e w7 ⟨rfl,o⟩
 have H8:=H4.kx 0 rfl o (fun _ h=>h)
 refine⟨_,Z,?_⟩
 have d:(fun w'=>True) w7:=trivial
 refine⟨d,py Z d (am (v:= .tuple #[.i (↑(N- off)),.f 224 (.pointer (some a1))]) Z) (py Z d (aE (v:= .i (↑(N- off))) Z Z) (py Z d (aE (v:= .f 224 (.pointer (some a1))) Z Z) (py Z d (bd (v:= .i (↑(N- off))) Z) (py Z d (bd (v:= .f 224 (.pointer (some a1))) Z) (bC (ac (ad (sr (mv (.f 224 (.pointer (some a1))) Z (wv Z ((nn true bI Z (.inr ⟨_,_,Z⟩))) ?_))))))))))⟩
 refine wn (aB Z (sr (mv (.f 224 (.pointer (some a1))) Z (av (.ns) Z (av (.f 224 (.pointer (some a1))) Z (wn (rq (aI (a7 (aI (a7 ?_)))))))))))
 exact⟨.inr Z,_,r2 (.ns) (.f 224 (.pointer (some a1))) Z _ _,⟨_,_,Z,H8.sub (List.nil_sublist _)⟩⟩
theorem qM{rb N C off n:Nat}{A:Option Addr}{i p:Int}{xs:List Int}{a0 a1:Addr}(w:World)(hrb:(an rb [.s A N C,.i i,.i p] 190).φ w)(hG:Glob 224 w a0 a1)(hNC:N≤C)(hN:N<10485760)(hr:RI .u8 w A N xs)(hA: ∀a,A=some a → a.block<w.heap.size)(hw4:4≤w.heap.size)(ho63:off<4294967296){sb:Nat}{so sn lim:Int}(hsb:(an sb [.f 109 (.pt rb),.i ↑off,.i so,.i lim,.i sn] 195).φ w)(hl:lim= ↑off+ ↑n∨(lim=9223372036854775807∧10485760≤n))(hl3:lim≤9223372036854775807)(hn:10485760<n)(hn63:n<9223372036854775808)(hon:N≤off):
 Calls Tryd.prog 50 #[.f 133 (.pt sb),.q ↑n,.i 0] w fun e w'=> ∃T v,e= .returned (.tuple #[.ns,.f T v])∧St w aR [] w':=by
 refine aA (args:= [.f 133 (.pt sb),.q (↑n),.i 0]) Tryd.func50 Z Z Z ?_
 have H0:=St.nil w aR
 refine sr (av (.ns) Z (av (.n) Z (wn (ad (sr (mu (↑n) Z (wv Z (ao db ip Z (a5 (by omega) (by omega))) (wv Z (bj Z Z (decide_eq_false (by omega))) (mv (.b false) Z (aX Z Z (am (v:= .q (↑n)) Z) (aX Z Z (am (v:= .q (↑n)) Z) ?_)))))))))))
 refine aX Z Z (ao db kK Z (a5 (by omega) (by omega))) (aX Z Z (ao ej be Z (aC (by omega) (by omega))) (aX Z Z (cg Z Z (bne_eq_false_iff_eq.2 (by omega))) (wv Z (aD (b:=false) (v:= .b false) Z Z) (wn (al Z (wk (ad (sr (mu (↑n) Z (wv Z (bj Z Z (decide_eq_false (by omega))) (wn ?_)))))))))))
 refine al Z (wk (sr (av (.ns) Z (wn (sr (wm Z (bJ H0 (n:=10485760) (m:=10485760) bB fx Z Z Z Z Z (by omega) (by omega) (by omega) (fun g1 w2 j H3=>eL g1 0 10485760 10485760 Z (wn (ad (a6 ?_)))))))))))
 refine ew 1 (du (ad (sr (mu (↑n) Z (wv Z (cQ Z Z (decide_eq_true (by omega))) (wn (aB Z (wk (a6 (sr (mu (↑n) Z ?_)))))))))))
 refine au (↑n) Z (wn (ad (sr (mu (↑n) Z (wv Z (cQ Z Z (decide_eq_true (by omega))) (wn (aB Z (ae (au 10485760 Z (wn (ad ?_)))))))))))
 refine bZ MX (fun w'=>True) (tp 0 8 (Plan.run 8 (tp 9 5 Plan.done))) (by kernel_rfl) ?_
 have H4:=H3.drew
 have c:(fun w'=>True) w2.drew:=trivial
 refine py Z c (am (v:= .f 133 (.pt sb)) Z) (py Z c (am (v:= .sl g1 0 10485760 10485760) Z) (py Z c (am (v:= .q 10485760) Z) (pt Z c (fun _ hS=>(aq (l:=0) (h:=10485760) aZ Z bn (bs Z (by omega) Z) (by omega) (by omega) (by omega) Z:Yv _ _ _ _ (.sl g1 0 10485760 10485760) _)) (py Z c (am (v:= .i 0) Z) (py Z c (qU (vs:= [.f 133 (.pt sb)]) Z Z) (py Z c (bp Z (iq _ _)) (py Z c (am (v:= .f 133 (.pt sb)) Z) (pr Z (ei (args:= [.sl g1 0 10485760 10485760,.i 0]) Z (ef _ _) s9 Z ?_)))))))))
 have hgw:w.heap.size≤g1:=Nat.le_trans H0.keep.size j
 have hrl:rb<w.heap.size:=aG hrb
 have hsl:sb<w.heap.size:=aG hsb
 refine aa (qL (xs:= []) (Tb:=0) (cs:= []) (gb:=0) (ob:=0) (m:=10485760) (Ab:=some ⟨g1,0,none⟩) _ ((an _ _ _).stay _ _ hsb fun g hg=>H4.keep.block g (by rw[show g=sb from hg];exact aG hsb) (by rw[show g=sb from hg];exact(aW _))) (by omega) (by omega) hl3 ((an _ _ _).stay _ _ hrb fun g hg=>H4.keep.block g (by rw[show g=rb from hg];exact aG hrb) (by rw[show g=rb from hg];exact(aW _))) (hG.keep H4.keep (fun k hk=>hk.elim)) (by omega) (by omega)) ?_
 rintro e w7 ⟨rfl,o⟩
 have H8:=H4.cal0 o
 refine⟨_,Z,?_⟩
 have d:(fun w'=>True) w7:=trivial
 refine⟨d,py Z d (am (v:= .tuple #[.i 0,.f 224 (.pointer (some a1))]) Z) (py Z d (aE (v:= .i 0) Z Z) (py Z d (aE (v:= .f 224 (.pointer (some a1))) Z Z) (py Z d (bd (v:= .i 0) Z) (py Z d (bd (v:= .f 224 (.pointer (some a1))) Z) (bC (ac (ad (sr (mv (.f 224 (.pointer (some a1))) Z (wv Z ((nn true bI Z (.inr ⟨_,_,Z⟩))) ?_))))))))))⟩
 refine wn (aB Z (sr (mv (.f 224 (.pointer (some a1))) Z (av (.ns) Z (av (.f 224 (.pointer (some a1))) Z (wn (rq (aI (a7 (aI (a7 ?_)))))))))))
 exact⟨.inr Z,_,r2 (.ns) (.f 224 (.pointer (some a1))) Z _ _,⟨_,_,Z,H8.sub (List.nil_sublist _)⟩⟩
theorem sq{rb N C off n:Nat}{A:Option Addr}{i p:Int}{xs:List Int}{a0 a1:Addr}(w:World)(hrb:(an rb [.s A N C,.i i,.i p] 190).φ w)(hG:Glob 224 w a0 a1)(hNC:N≤C)(hN:N<10485760)(hr:RI .u8 w A N xs)(hA: ∀a,A=some a → a.block<w.heap.size)(hw4:4≤w.heap.size)(ho63:off<4294967296){sb:Nat}{so sn lim:Int}(hsb:(an sb [.f 109 (.pt rb),.i ↑off,.i so,.i lim,.i sn] 195).φ w)(hl:lim= ↑off+ ↑n∨(lim=9223372036854775807∧10485760≤n))(hl3:lim≤9223372036854775807)(hn:n=10485760)(hon:N≤off):
 Calls Tryd.prog 50 #[.f 133 (.pt sb),.q ↑n,.i 0] w fun e w'=> ∃T v,e= .returned (.tuple #[.ns,.f T v])∧St w aR [] w':=by
 refine aA (args:= [.f 133 (.pt sb),.q (↑n),.i 0]) Tryd.func50 Z Z Z ?_
 have H0:=St.nil w aR
 refine sr (av (.ns) Z (av (.n) Z (wn (ad (sr (mu (↑n) Z (wv Z (ao db ip Z (a5 (by omega) (by omega))) (wv Z (bj Z Z (decide_eq_false (by omega))) (mv (.b false) Z (aX Z Z (am (v:= .q (↑n)) Z) (aX Z Z (am (v:= .q (↑n)) Z) ?_)))))))))))
 refine aX Z Z (ao db kK Z (a5 (by omega) (by omega))) (aX Z Z (ao ej be Z (aC (by omega) (by omega))) (aX Z Z (cg Z Z (bne_eq_false_iff_eq.2 (by omega))) (wv Z (aD (b:=false) (v:= .b false) Z Z) (wn (al Z (wk (ad (sr (mu (↑n) Z (wv Z (bj Z Z (decide_eq_false (by omega))) (wn ?_)))))))))))
 refine al Z (wk (sr (av (.ns) Z (wn (sr (wm Z (bJ H0 (n:=10485760) (m:=10485760) bB fx Z Z Z Z Z (by omega) (by omega) (by omega) (fun g1 w2 j H3=>eL g1 0 10485760 10485760 Z (wn (ad (a6 ?_)))))))))))
 refine ew 1 (du (ad (sr (mu (↑n) Z (wv Z (cQ Z Z (decide_eq_true (by omega))) (wn (aB Z (wk (a6 (sr (mu (↑n) Z ?_)))))))))))
 refine au (↑n) Z (wn (ad (sr (mu (↑n) Z (wv Z (cQ Z Z (decide_eq_false (by omega))) (wn (al Z (wk (ad (bZ MX (fun w'=>True) (tp 0 8 (Plan.run 8 (tp 9 5 Plan.done))) (by kernel_rfl) ?_))))))))))
 have H4:=H3.drew
 have c:(fun w'=>True) w2.drew:=trivial
 refine py Z c (am (v:= .f 133 (.pt sb)) Z) (py Z c (am (v:= .sl g1 0 10485760 10485760) Z) (py Z c (am (v:= .q (↑n)) Z) (pt Z c (fun _ hS=>(aq (l:=0) (h:=n) aZ Z bn (bs Z (by omega) (Int.toNat_natCast _)) (by omega) (by omega) (by omega) Z:Yv _ _ _ _ (.sl g1 0 n 10485760) _)) (py Z c (am (v:= .i 0) Z) (py Z c (qU (vs:= [.f 133 (.pt sb)]) Z Z) (py Z c (bp Z (iq _ _)) (py Z c (am (v:= .f 133 (.pt sb)) Z) (pr Z (ei (args:= [.sl g1 0 n 10485760,.i 0]) Z (ef _ _) s9 Z ?_)))))))))
 have hgw:w.heap.size≤g1:=Nat.le_trans H0.keep.size j
 have hrl:rb<w.heap.size:=aG hrb
 have hsl:sb<w.heap.size:=aG hsb
 refine aa (qL (xs:= []) (Tb:=0) (cs:= []) (gb:=0) (ob:=0) (m:=n) (Ab:=some ⟨g1,0,none⟩) _ ((an _ _ _).stay _ _ hsb fun g hg=>H4.keep.block g (by rw[show g=sb from hg];exact aG hsb) (by rw[show g=sb from hg];exact(aW _))) (by omega) (by omega) hl3 ((an _ _ _).stay _ _ hrb fun g hg=>H4.keep.block g (by rw[show g=rb from hg];exact aG hrb) (by rw[show g=rb from hg];exact(aW _))) (hG.keep H4.keep (fun k hk=>hk.elim)) (by omega) (by omega)) ?_
 rintro e w7 ⟨rfl,o⟩
 have H8:=H4.cal0 o
 refine⟨_,Z,?_⟩
 have d:(fun w'=>True) w7:=trivial
 refine⟨d,py Z d (am (v:= .tuple #[.i 0,.f 224 (.pointer (some a1))]) Z) (py Z d (aE (v:= .i 0) Z Z) (py Z d (aE (v:= .f 224 (.pointer (some a1))) Z Z) (py Z d (bd (v:= .i 0) Z) (py Z d (bd (v:= .f 224 (.pointer (some a1))) Z) (bC (ac (ad (sr (mv (.f 224 (.pointer (some a1))) Z (wv Z ((nn true bI Z (.inr ⟨_,_,Z⟩))) ?_))))))))))⟩
 refine wn (aB Z (sr (mv (.f 224 (.pointer (some a1))) Z (av (.ns) Z (av (.f 224 (.pointer (some a1))) Z (wn (rq (aI (a7 (aI (a7 ?_)))))))))))
 exact⟨.inr Z,_,r2 (.ns) (.f 224 (.pointer (some a1))) Z _ _,⟨_,_,Z,H8.sub (List.nil_sublist _)⟩⟩
theorem zy{rb N C off n:Nat}{A:Option Addr}{i p:Int}{xs:List Int}{a0 a1:Addr}(w:World)(hrb:(an rb [.s A N C,.i i,.i p] 190).φ w)(hG:Glob 224 w a0 a1)(hNC:N≤C)(hN:N<10485760)(hr:RI .u8 w A N xs)(hA: ∀a,A=some a → a.block<w.heap.size)(hw4:4≤w.heap.size)(ho63:off<4294967296){sb:Nat}{so sn lim:Int}(hsb:(an sb [.f 109 (.pt rb),.i ↑off,.i so,.i lim,.i sn] 195).φ w)(hl:lim= ↑off+ ↑n∨(lim=9223372036854775807∧10485760≤n))(hl3:lim≤9223372036854775807)(h:n=0∨off+n≤N):
 Calls Tryd.prog 50 #[.f 133 (.pt sb),.q ↑n,.i 0] w fun e w'=> ∃g,e= .returned (.tuple #[.sl g 0 n n,.n])∧w.heap.size≤g∧St w aR [an g (nums .u8 ((xs.drop off).take n)) 5] w':=by
 by_cases hf:n=0
 · exact vZ w hrb hG hNC hN hr hA hw4 ho63 hsb hl hl3 hf
 · exact wb w hrb hG hNC hN hr hA hw4 ho63 hsb hl hl3 (by omega) (by omega)
theorem ym{rb N C off n:Nat}{A:Option Addr}{i p:Int}{xs:List Int}{a0 a1:Addr}(w:World)(hrb:(an rb [.s A N C,.i i,.i p] 190).φ w)(hG:Glob 224 w a0 a1)(hNC:N≤C)(hN:N<10485760)(hr:RI .u8 w A N xs)(hA: ∀a,A=some a → a.block<w.heap.size)(hw4:4≤w.heap.size)(ho63:off<4294967296){sb:Nat}{so sn lim:Int}(hsb:(an sb [.f 109 (.pt rb),.i ↑off,.i so,.i lim,.i sn] 195).φ w)(hl:lim= ↑off+ ↑n∨(lim=9223372036854775807∧10485760≤n))(hl3:lim≤9223372036854775807)(h0:n≠0)(h:N<off+n)(hn64:n<18446744073709551616):
 Calls Tryd.prog 50 #[.f 133 (.pt sb),.q ↑n,.i 0] w fun e w'=> ∃T v,e= .returned (.tuple #[.ns,.f T v])∧St w aR [] w':=by
 by_cases h1:9223372036854775808≤n
 · exact wa w hrb hG hNC hN hr hA hw4 ho63 hsb hl hl3 h1 hn64
 by_cases h2:off<N
 · rcases Nat.lt_trichotomy n 10485760 with h3|h3|h3
   · exact tj w hrb hG hNC hN hr hA hw4 ho63 hsb hl hl3 h3 h h2
   · exact pp w hrb hG hNC hN hr hA hw4 ho63 hsb hl hl3 h3 h2
   · exact oK w hrb hG hNC hN hr hA hw4 ho63 hsb hl hl3 h3 (by omega) h2
 · rcases Nat.lt_trichotomy n 10485760 with h3|h3|h3
   · exact yk w hrb hG hNC hN hr hA hw4 ho63 hsb hl hl3 h3 (by omega) (by omega)
   · exact sq w hrb hG hNC hN hr hA hw4 ho63 hsb hl hl3 h3 (by omega)
   · exact qM w hrb hG hNC hN hr hA hw4 ho63 hsb hl hl3 h3 (by omega) (by omega)
theorem z8{rb N C off n:Nat}{A:Option Addr}{i p:Int}{xs:List Int}{a0 a1:Addr}(w:World)(hrb:(an rb [.s A N C,.i i,.i p] 190).φ w)(hG:Glob 224 w a0 a1)(hNC:N≤C)(hN:N<10485760)(hr:RI .u8 w A N xs)(hA: ∀a,A=some a → a.block<w.heap.size)(hw4:4≤w.heap.size)(ho63:off<4294967296){sb:Nat}{so sn lim:Int}(hsb:(an sb [.f 109 (.pt rb),.i ↑off,.i so,.i lim,.i sn] 195).φ w)(hl:lim= ↑off+ ↑n∨(lim=9223372036854775807∧10485760≤n))(hl3:lim≤9223372036854775807){sec:Nat}(hc3:w.cell? ⟨sec,3,none⟩=some (.q ↑n))(hc11:w.cell? ⟨sec,11,none⟩=some (.pt sb))(h:n=0∨off+n≤N):
 Calls Tryd.prog 44 #[.pt sec] w fun e w'=> ∃g,e= .returned (.tuple #[.sl g 0 n n,.n])∧w.heap.size≤g∧St w aR [an g (nums .u8 ((xs.drop off).take n)) 5] w':=by
 refine aA (args:= [.pt sec]) Tryd.func44 Z Z Z ?_
 have H0:=St.nil w aR
 refine sr (av (.ns) Z (av (.n) Z (wn (ad (bZ MX (fun w'=>w'.cell? ⟨sec,11,none⟩=some (.pt sb)∧w'.cell? ⟨sec,3,none⟩=some (.q (↑n))) (tp 0 10 (Plan.run 10 (tp 11 4 Plan.done))) (by kernel_rfl) ?_)))))
 have H1:=H0.drew
 have b:(fun w'=>w'.cell? ⟨sec,11,none⟩=some (.pt sb)∧w'.cell? ⟨sec,3,none⟩=some (.q (↑n))) w.drew:=⟨H1.kc hc11,H1.kc hc3⟩
 refine py Z b (am (v:= .pt sec) Z) (py Z b (ah Z) (py Z b (ab (o:=0) jf Z) (ph Z b (fun hS=>ag hZ Z hS.1) (py Z b (aJ (v:= .pt sb) lE Z) (py Z b (am (v:= .pt sec) Z) (py Z b (ah Z) (py Z b (ab (o:=0) br Z) (py Z b (ab (o:=0) iu Z) (ph Z b (fun hS=>ag aP Z hS.2) (pr Z (ec kH (args:= [.f 133 (.pt sb),.q (↑n),.i 0]) Z ?_)))))))))))
 refine aa (zy _ ((an _ _ _).stay _ _ hrb fun g hg=>H1.keep.block g (by rw[show g=rb from hg];exact aG hrb) (by rw[show g=rb from hg];exact(aW _))) (hG.keep H1.keep (fun k hk=>hk.elim)) hNC hN (hr.keep H1.keep fun a ha=>aW _) (fun a ha=>Nat.lt_of_lt_of_le (hA a ha) H1.keep.size) (Nat.le_trans hw4 H1.keep.size) ho63 ((an _ _ _).stay _ _ hsb fun g hg=>H1.keep.block g (by rw[show g=sb from hg];exact aG hsb) (by rw[show g=sb from hg];exact(aW _))) hl hl3 h) ?_
 rintro e w4 ⟨gd,rfl,hgd,d⟩
 have H5:=H1.cal0 d
 refine⟨_,Z,?_⟩
 have c:(fun w'=>w'.cell? ⟨sec,11,none⟩=some (.pt sb)∧w'.cell? ⟨sec,3,none⟩=some (.q (↑n))) w4:=⟨H5.kc hc11,H5.kc hc3⟩
 refine⟨c,py Z c (aE (v:= .sl gd 0 n n) Z Z) (py Z c (aE (v:= .n) Z Z) (py Z c (bd (v:= .sl gd 0 n n) Z) (py Z c (bd (v:= .n) Z) (bC (ac (aY ?_))))))⟩
 exact⟨.inr Z,_,r2 (.sl gd 0 n n) (.n) Z _ _,⟨_,Z,Nat.le_trans H1.keep.size hgd,H5⟩⟩
theorem yv{rb N C off n:Nat}{A:Option Addr}{i p:Int}{xs:List Int}{a0 a1:Addr}(w:World)(hrb:(an rb [.s A N C,.i i,.i p] 190).φ w)(hG:Glob 224 w a0 a1)(hNC:N≤C)(hN:N<10485760)(hr:RI .u8 w A N xs)(hA: ∀a,A=some a → a.block<w.heap.size)(hw4:4≤w.heap.size)(ho63:off<4294967296){sb:Nat}{so sn lim:Int}(hsb:(an sb [.f 109 (.pt rb),.i ↑off,.i so,.i lim,.i sn] 195).φ w)(hl:lim= ↑off+ ↑n∨(lim=9223372036854775807∧10485760≤n))(hl3:lim≤9223372036854775807){sec:Nat}(hc3:w.cell? ⟨sec,3,none⟩=some (.q ↑n))(hc11:w.cell? ⟨sec,11,none⟩=some (.pt sb))(h0:n≠0)(h:N<off+n)(hn64:n<18446744073709551616):
 Calls Tryd.prog 44 #[.pt sec] w fun e w'=> ∃T v,e= .returned (.tuple #[.ns,.f T v])∧St w aR [] w':=by
 refine aA (args:= [.pt sec]) Tryd.func44 Z Z Z ?_
 have H0:=St.nil w aR
 refine sr (av (.ns) Z (av (.n) Z (wn (ad (bZ MX (fun w'=>w'.cell? ⟨sec,11,none⟩=some (.pt sb)∧w'.cell? ⟨sec,3,none⟩=some (.q (↑n))) (tp 0 10 (Plan.run 10 (tp 11 4 Plan.done))) (by kernel_rfl) ?_)))))
 have H1:=H0.drew
 have b:(fun w'=>w'.cell? ⟨sec,11,none⟩=some (.pt sb)∧w'.cell? ⟨sec,3,none⟩=some (.q (↑n))) w.drew:=⟨H1.kc hc11,H1.kc hc3⟩
 refine py Z b (am (v:= .pt sec) Z) (py Z b (ah Z) (py Z b (ab (o:=0) jf Z) (ph Z b (fun hS=>ag hZ Z hS.1) (py Z b (aJ (v:= .pt sb) lE Z) (py Z b (am (v:= .pt sec) Z) (py Z b (ah Z) (py Z b (ab (o:=0) br Z) (py Z b (ab (o:=0) iu Z) (ph Z b (fun hS=>ag aP Z hS.2) (pr Z (ec kH (args:= [.f 133 (.pt sb),.q (↑n),.i 0]) Z ?_)))))))))))
 refine aa (ym _ ((an _ _ _).stay _ _ hrb fun g hg=>H1.keep.block g (by rw[show g=rb from hg];exact aG hrb) (by rw[show g=rb from hg];exact(aW _))) (hG.keep H1.keep (fun k hk=>hk.elim)) hNC hN (hr.keep H1.keep fun a ha=>aW _) (fun a ha=>Nat.lt_of_lt_of_le (hA a ha) H1.keep.size) (Nat.le_trans hw4 H1.keep.size) ho63 ((an _ _ _).stay _ _ hsb fun g hg=>H1.keep.block g (by rw[show g=sb from hg];exact aG hsb) (by rw[show g=sb from hg];exact(aW _))) hl hl3 h0 h hn64) ?_
 rintro e w4 ⟨T,v,rfl,d⟩
 have H5:=H1.cal0 d
 refine⟨_,Z,?_⟩
 have c:(fun w'=>w'.cell? ⟨sec,11,none⟩=some (.pt sb)∧w'.cell? ⟨sec,3,none⟩=some (.q (↑n))) w4:=⟨H5.kc hc11,H5.kc hc3⟩
 refine⟨c,py Z c (aE (v:= .ns) Z Z) (py Z c (aE (v:= .f T v) Z Z) (py Z c (bd (v:= .ns) Z) (py Z c (bd (v:= .f T v) Z) (bC (ac (aY ?_))))))⟩
 exact⟨.inr Z,_,r2 (.ns) (.f T v) Z _ _,⟨_,_,Z,H5⟩⟩
end Go.Proofs.YtlndedfkgiafhaaDoor
