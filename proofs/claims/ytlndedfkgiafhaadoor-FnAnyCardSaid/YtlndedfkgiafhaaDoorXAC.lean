import Derived.Test.YtlndedfkgiafhaaDoorXAB
set_option linter.unusedVariables false
set_option linter.unusedSimpArgs false
set_option maxRecDepth 100000
set_option maxHeartbeats 4000000
namespace Go.Proofs.YtlndedfkgiafhaaDoor
open Go Go.RowKit Go.Proofs
theorem vt : aX Tryd.prog 99 := aJ (by kernel_rfl)
theorem j9 : FA 195 0 0 := fa (by kernel_rfl)
theorem gJ : cY Tryd.prog 132 := bz (by kernel_rfl)
theorem bD : ∀ (a : Addr) (w : World), (method (Tryd.prog.types.size + Made.depth) 109 (.pointer (some a)) "ReadAt").run Tryd.prog w = .ok (93, .pointer (some a)) w := fun a w => by kernel_rfl
theorem iY : aX Tryd.prog 93 := aJ (by kernel_rfl)
theorem tV {sb rb gb ob m cm n c off : Nat} {A : Option Addr} {i p so sn lim : Int} {cs : List Value} {Tb : TypeId} {xs : List Int} {a0 a1 : Addr} (w : World) (hsb : (aq sb [.iface 109 (.pt rb), .i64 ↑off, .i64 so, .i64 lim, .i64 sn] 195).φ w) (hl1 : (↑off : Int) < lim) (hl2 : (↑off : Int) + ↑m ≤ lim) (hl3 : lim ≤ 9223372036854775807) (hsg : sb ≠ gb) (hrb : (aq rb [.slice A n c, .i64 i, .i64 p] 190).φ w) (hG : Glob 224 w a0 a1) (hn63 : n ≤ 9223372036854775807) (hgb : (aq gb cs Tb).φ w) (hg4 : 4 ≤ gb) (hne : rb ≠ gb) (hr : RI .u8 w A n xs) (hA : ∀ a, A = some a → a.block ≠ gb) (hnc : n ≤ c) (hm : ob + m ≤ cs.length) (ho : off + m ≤ n) (hon : off < n) {q : Nat} (hq : q = Nat.min (n - off) m) :
 Calls Tryd.prog 98 #[.pt sb, .sl gb ob m cm, .i64 0] w fun e w' => e = .returned (.tuple #[.i64 ↑q, .nilIface]) ∧ St w (fun k => k = gb) [aq gb (cs.take ob ++ nums .u8 ((xs.drop off).take q) ++ cs.drop (ob + q)) Tb] w' := by
 refine a5 (args := [.pt sb, .sl gb ob m cm, .i64 0]) Tryd.func98 rfl rfl rfl ?_
 have H0 : St _ _ [aq gb cs Tb] _ := (St.nil w (fun k => k = gb)).add _ hgb (fun _ h => h) (by simp)
 refine sr (ai 0 rfl (av (.nilIface) rfl (wn (ad (sr (mi 0 rfl (wv rfl (aZ (c := false) rfl rfl rfl) (mv (.bool false) rfl (aP rfl rfl (al (v := .i64 0) rfl) (aP rfl rfl (al (v := .pt sb) rfl) (sJ rfl rfl ?_)))))))))))
 refine ec vt (args := [.pt sb]) rfl (aa (jL (base := ↑off) (lim := lim) _ ((aq _ _ _).stay _ _ hsb fun g hg => H0.keep.block g (by rw [show g = sb from hg]; exact aA hsb) (fun h => hsg ((show g = sb from hg).symm.trans h))) (by omega) (by omega) (by omega)) ?_)
 rintro e w3 ⟨rfl, HS1⟩
 have H2 := H0.cal0 HS1
 refine ⟨_, rfl, ?_⟩
 refine aP rfl rfl (dX rfl rfl (decide_eq_false (by omega))) (wv rfl (aD (b := false) (v := .bool false) rfl rfl) (wn (aj rfl (wk (sr (mi 0 rfl (mp sb 0 rfl (wc rfl (wf kH rfl (wv rfl (ah eX rfl (H2.keep.cell (bS hsb rfl) ((fun h => hsg h)))) (wv rfl (aT (k := .i64) (c := ↑off) rfl rfl (by rw [Int.zero_add]; exact aE (by omega) (by omega))) ?_)))))))))))
 refine ai (↑off) rfl (wn (ad (sr (mp sb 0 rfl (wc rfl (wf gv rfl (wv rfl (ah eX rfl (H2.keep.cell (bS hsb rfl) ((fun h => hsg h)))) (mi (↑off) rfl (wv rfl (gV (k := .i64) (c := lim - ↑off) rfl rfl (aE (by omega) (by omega))) (ai (lim - ↑off) rfl (wn ?_)))))))))))
 refine sr (ms gb ob m cm rfl (wv rfl (ba co rfl) (mi (lim - ↑off) rfl (wv rfl (bN rfl rfl (decide_eq_false (by omega))) (wn (aj rfl (wk (sr (mp sb 0 rfl (wc rfl (wf j9 rfl ?_)))))))))))
 refine wv rfl (ah gJ rfl (H2.keep.cell (bS hsb rfl) ((fun h => hsg h)))) (ms gb ob m cm rfl (mi (↑off) rfl (wm rfl (ei (args := [.sl gb ob m cm, .i64 (↑off)]) rfl (bD _ _) iY rfl (aa (gD (q := q) _ ((aq _ _ _).stay _ _ hrb fun g hg => H2.keep.block g (by rw [show g = rb from hg]; exact aA hrb) (fun h => hne ((show g = rb from hg).symm.trans h))) (hG.keep H2.keep fun k hk => by rw [show k = gb from hk]; exact hg4) hn63 (H2.g 0 rfl) hg4 hne (hr.keep H2.keep fun a ha h => hA a ha h) hA hnc hm ho hon hq) ?_)))))
 rintro e w6 ⟨rfl, HS4⟩
 have H5 := H2.kx 0 rfl HS4 (fun _ h => h)
 refine ⟨_, rfl, ?_⟩
 refine we (.i64 (↑q)) rfl rfl (we (.nilIface) rfl rfl (ai (↑q) rfl (av (.nilIface) rfl (wn (aQ ?_)))))
 exact ⟨.inr rfl, _, r2 (.i64 (↑q)) (.nilIface) rfl _ _, ⟨rfl, H5⟩⟩
theorem jZ {sb rb gb ob m cm n c off : Nat} {A : Option Addr} {i p so sn lim : Int} {cs : List Value} {Tb : TypeId} {xs : List Int} {a0 a1 : Addr} (w : World) (hsb : (aq sb [.iface 109 (.pt rb), .i64 ↑off, .i64 so, .i64 lim, .i64 sn] 195).φ w) (hl1 : (↑off : Int) < lim) (hl2 : (↑off : Int) + ↑m ≤ lim) (hl3 : lim ≤ 9223372036854775807) (hsg : sb ≠ gb) (hrb : (aq rb [.slice A n c, .i64 i, .i64 p] 190).φ w) (hG : Glob 224 w a0 a1) (hn63 : n ≤ 9223372036854775807) (hgb : (aq gb cs Tb).φ w) (hg4 : 4 ≤ gb) (hne : rb ≠ gb) (hr : RI .u8 w A n xs) (hA : ∀ a, A = some a → a.block ≠ gb) (hnc : n ≤ c) (hm : ob + m ≤ cs.length) (ho : n < off + m) (hon : off < n) {q : Nat} (hq : q = Nat.min (n - off) m) :
 Calls Tryd.prog 98 #[.pt sb, .sl gb ob m cm, .i64 0] w fun e w' => e = .returned (.tuple #[.i64 ↑q, .iface 224 (.pointer (some a1))]) ∧ St w (fun k => k = gb) [aq gb (cs.take ob ++ nums .u8 ((xs.drop off).take q) ++ cs.drop (ob + q)) Tb] w' := by
 refine a5 (args := [.pt sb, .sl gb ob m cm, .i64 0]) Tryd.func98 rfl rfl rfl ?_
 have H0 : St _ _ [aq gb cs Tb] _ := (St.nil w (fun k => k = gb)).add _ hgb (fun _ h => h) (by simp)
 refine sr (ai 0 rfl (av (.nilIface) rfl (wn (ad (sr (mi 0 rfl (wv rfl (aZ (c := false) rfl rfl rfl) (mv (.bool false) rfl (aP rfl rfl (al (v := .i64 0) rfl) (aP rfl rfl (al (v := .pt sb) rfl) (sJ rfl rfl ?_)))))))))))
 refine ec vt (args := [.pt sb]) rfl (aa (jL (base := ↑off) (lim := lim) _ ((aq _ _ _).stay _ _ hsb fun g hg => H0.keep.block g (by rw [show g = sb from hg]; exact aA hsb) (fun h => hsg ((show g = sb from hg).symm.trans h))) (by omega) (by omega) (by omega)) ?_)
 rintro e w3 ⟨rfl, HS1⟩
 have H2 := H0.cal0 HS1
 refine ⟨_, rfl, ?_⟩
 refine aP rfl rfl (dX rfl rfl (decide_eq_false (by omega))) (wv rfl (aD (b := false) (v := .bool false) rfl rfl) (wn (aj rfl (wk (sr (mi 0 rfl (mp sb 0 rfl (wc rfl (wf kH rfl (wv rfl (ah eX rfl (H2.keep.cell (bS hsb rfl) ((fun h => hsg h)))) (wv rfl (aT (k := .i64) (c := ↑off) rfl rfl (by rw [Int.zero_add]; exact aE (by omega) (by omega))) ?_)))))))))))
 refine ai (↑off) rfl (wn (ad (sr (mp sb 0 rfl (wc rfl (wf gv rfl (wv rfl (ah eX rfl (H2.keep.cell (bS hsb rfl) ((fun h => hsg h)))) (mi (↑off) rfl (wv rfl (gV (k := .i64) (c := lim - ↑off) rfl rfl (aE (by omega) (by omega))) (ai (lim - ↑off) rfl (wn ?_)))))))))))
 refine sr (ms gb ob m cm rfl (wv rfl (ba co rfl) (mi (lim - ↑off) rfl (wv rfl (bN rfl rfl (decide_eq_false (by omega))) (wn (aj rfl (wk (sr (mp sb 0 rfl (wc rfl (wf j9 rfl ?_)))))))))))
 refine wv rfl (ah gJ rfl (H2.keep.cell (bS hsb rfl) ((fun h => hsg h)))) (ms gb ob m cm rfl (mi (↑off) rfl (wm rfl (ei (args := [.sl gb ob m cm, .i64 (↑off)]) rfl (bD _ _) iY rfl (aa (dU (q := q) _ ((aq _ _ _).stay _ _ hrb fun g hg => H2.keep.block g (by rw [show g = rb from hg]; exact aA hrb) (fun h => hne ((show g = rb from hg).symm.trans h))) (hG.keep H2.keep fun k hk => by rw [show k = gb from hk]; exact hg4) hn63 (H2.g 0 rfl) hg4 hne (hr.keep H2.keep fun a ha h => hA a ha h) hA hnc hm ho hon hq) ?_)))))
 rintro e w6 ⟨rfl, HS4⟩
 have H5 := H2.kx 0 rfl HS4 (fun _ h => h)
 refine ⟨_, rfl, ?_⟩
 refine we (.i64 (↑q)) rfl rfl (we (.iface 224 (.pointer (some a1))) rfl rfl (ai (↑q) rfl (av (.iface 224 (.pointer (some a1))) rfl (wn (aQ ?_)))))
 exact ⟨.inr rfl, _, r2 (.i64 (↑q)) (.iface 224 (.pointer (some a1))) rfl _ _, ⟨rfl, H5⟩⟩
theorem nk {sb rb gb ob m cm n c off : Nat} {A : Option Addr} {i p so sn lim : Int} {cs : List Value} {Tb : TypeId} {xs : List Int} {a0 a1 : Addr} (w : World) (hsb : (aq sb [.iface 109 (.pt rb), .i64 ↑off, .i64 so, .i64 lim, .i64 sn] 195).φ w) (hl1 : (↑off : Int) < lim) (hl2 : (↑off : Int) + ↑m ≤ lim) (hl3 : lim ≤ 9223372036854775807) (hrb : (aq rb [.slice A n c, .i64 i, .i64 p] 190).φ w) (hG : Glob 224 w a0 a1) (hn63 : n ≤ 9223372036854775807)  (ho : n ≤ off) {Ab : Option Addr} :
 Calls Tryd.prog 98 #[.pt sb, .slice Ab m cm, .i64 0] w fun e w' => e = .returned (.tuple #[.i64 0, .iface 224 (.pointer (some a1))]) ∧ St w aW [] w' := by
 refine a5 (args := [.pt sb, .slice Ab m cm, .i64 0]) Tryd.func98 rfl rfl rfl ?_
 have H0 := St.nil w aW
 refine sr (ai 0 rfl (av (.nilIface) rfl (wn (ad (sr (mi 0 rfl (wv rfl (aZ (c := false) rfl rfl rfl) (mv (.bool false) rfl (aP rfl rfl (al (v := .i64 0) rfl) (aP rfl rfl (al (v := .pt sb) rfl) (sJ rfl rfl ?_)))))))))))
 refine ec vt (args := [.pt sb]) rfl (aa (jL (base := ↑off) (lim := lim) _ ((aq _ _ _).stay _ _ hsb fun g hg => H0.keep.block g (by rw [show g = sb from hg]; exact aA hsb) (aN _)) (by omega) (by omega) (by omega)) ?_)
 rintro e w3 ⟨rfl, HS1⟩
 have H2 := H0.cal0 HS1
 refine ⟨_, rfl, ?_⟩
 refine aP rfl rfl (dX rfl rfl (decide_eq_false (by omega))) (wv rfl (aD (b := false) (v := .bool false) rfl rfl) (wn (aj rfl (wk (sr (mi 0 rfl (mp sb 0 rfl (wc rfl (wf kH rfl (wv rfl (ah eX rfl (H2.keep.cell (bS hsb rfl) ((aN _)))) (wv rfl (aT (k := .i64) (c := ↑off) rfl rfl (by rw [Int.zero_add]; exact aE (by omega) (by omega))) ?_)))))))))))
 refine ai (↑off) rfl (wn (ad (sr (mp sb 0 rfl (wc rfl (wf gv rfl (wv rfl (ah eX rfl (H2.keep.cell (bS hsb rfl) ((aN _)))) (mi (↑off) rfl (wv rfl (gV (k := .i64) (c := lim - ↑off) rfl rfl (aE (by omega) (by omega))) (ai (lim - ↑off) rfl (wn ?_)))))))))))
 refine sr (mv (.slice Ab m cm) rfl (wv rfl (ba co rfl) (mi (lim - ↑off) rfl (wv rfl (bN rfl rfl (decide_eq_false (by omega))) (wn (aj rfl (wk (sr (mp sb 0 rfl (wc rfl (wf j9 rfl ?_)))))))))))
 refine wv rfl (ah gJ rfl (H2.keep.cell (bS hsb rfl) ((aN _)))) (mv (.slice Ab m cm) rfl (mi (↑off) rfl (wm rfl (ei (args := [.slice Ab m cm, .i64 (↑off)]) rfl (bD _ _) iY rfl (aa (eY _ ((aq _ _ _).stay _ _ hrb fun g hg => H2.keep.block g (by rw [show g = rb from hg]; exact aA hrb) (aN _)) (hG.keep H2.keep fun k hk => hk.elim) hn63 ho _) ?_)))))
 rintro e w6 ⟨rfl, HS4⟩
 have H5 := H2.cal0 HS4
 refine ⟨_, rfl, ?_⟩
 refine we (.i64 0) rfl rfl (we (.iface 224 (.pointer (some a1))) rfl rfl (ai 0 rfl (av (.iface 224 (.pointer (some a1))) rfl (wn (aQ ?_)))))
 exact ⟨.inr rfl, _, r2 (.i64 0) (.iface 224 (.pointer (some a1))) rfl _ _, ⟨rfl, H5⟩⟩
theorem tU {sb off : Nat} {rt : TypeId} {ru : Value} {so sn lim : Int} {a0 a1 : Addr} (w : World) (hsb : (aq sb [.iface rt ru, .i64 ↑off, .i64 so, .i64 lim, .i64 sn] 195).φ w) (hl1 : lim = ↑off) (hl3 : lim ≤ 9223372036854775807) (hG : Glob 224 w a0 a1) (hv : Value) :
 Calls Tryd.prog 98 #[.pt sb, hv, .i64 0] w fun e w' => e = .returned (.tuple #[.i64 0, .iface 224 (.pointer (some a1))]) ∧ St w aW [] w' := by
 refine a5 (args := [.pt sb, hv, .i64 0]) Tryd.func98 rfl rfl rfl ?_
 have H0 := St.nil w aW
 refine sr (ai 0 rfl (av (.nilIface) rfl (wn (ad (sr (mi 0 rfl (wv rfl (aZ (c := false) rfl rfl rfl) (mv (.bool false) rfl (aP rfl rfl (al (v := .i64 0) rfl) (aP rfl rfl (al (v := .pt sb) rfl) (sJ rfl rfl ?_)))))))))))
 refine ec vt (args := [.pt sb]) rfl (aa (jL (base := ↑off) (lim := lim) _ ((aq _ _ _).stay _ _ hsb fun g hg => H0.keep.block g (by rw [show g = sb from hg]; exact aA hsb) (aN _)) (by omega) (by omega) (by omega)) ?_)
 rintro e w3 ⟨rfl, HS1⟩
 have H2 := H0.cal0 HS1
 refine ⟨_, rfl, ?_⟩
 refine aP rfl rfl (dX rfl rfl (decide_eq_true (by omega))) (wv rfl (aD (b := false) (v := .bool true) rfl rfl) (wn (ay rfl (ad (bC MX (fun w' => w'.cell? ⟨1, 0, none⟩ = some (.iface 224 (.pointer (some a1)))) (tp 0 3 Plan.done) (by kernel_rfl) ?_)))))
 have H4 := H2.drew
 have hS5 : (fun w' => w'.cell? ⟨1, 0, none⟩ = some (.iface 224 (.pointer (some a1)))) w3.drew := H4.keep.cell (hG.2) (aN _)
 refine ph rfl hS5 (fun hS => ah fx rfl hS) (py rfl hS5 (aS (v := .i64 0) rfl) (py rfl hS5 (aS (v := .iface 224 (.pointer (some a1))) rfl) (bj (ac (rq ?_)))))
 exact ⟨.inr rfl, _, r2 (.i64 0) (.iface 224 (.pointer (some a1))) rfl _ _, ⟨rfl, H4⟩⟩
end Go.Proofs.YtlndedfkgiafhaaDoor
namespace Go.Proofs.YtlndedfkgiafhaaDoor
open Go Go.RowKit Go.Proofs
theorem fg : FA 195 2 2 := fa (by kernel_rfl)
theorem bq : jt Tryd.prog 90 := by unfold jt; kernel_rfl
theorem ig : ∀ (a : Addr) (w : World), (nilAhead (Tryd.prog.types.size + Made.depth) 109 (.pointer (some a)) "Read").run Tryd.prog w = .ok (some false) w := fun a w => by kernel_rfl
theorem ie : ∀ (a : Addr) (w : World), (method (Tryd.prog.types.size + Made.depth) 109 (.pointer (some a)) "Read").run Tryd.prog w = .ok (92, .pointer (some a)) w := fun a w => by kernel_rfl
theorem vu : aX Tryd.prog 92 := aJ (by kernel_rfl)
theorem fo : rx Tryd.prog 90 224 := tc bq (by kernel_rfl)
theorem oC {sb rb gb ob m cm n c so : Nat} {A : Option Addr} {i p base lim sn : Int} {cs : List Value} {Tb : TypeId} {xs : List Int} {a0 a1 : Addr} (w : World) (hsb : (aq sb [.iface 109 (.pt rb), .i64 base, .i64 (↑so), .i64 lim, .i64 sn] 195).φ w) (hl1 : (↑so : Int) < lim) (hl2 : (↑so : Int) + ↑m ≤ lim) (hl3 : lim ≤ 9223372036854775807) (hrb : (aq rb [.slice A n c, .i64 i, .i64 p] 190).φ w) (hG : Glob 224 w a0 a1) (hn63 : n ≤ 9223372036854775807) (hgb : (aq gb cs Tb).φ w) (hg4 : 4 ≤ gb) (hs4 : 4 ≤ sb) (hne : rb ≠ gb) (hsg : sb ≠ gb) (hsr : rb ≠ sb) (hr : RI .u8 w A n xs) (hA : ∀ a, A = some a → a.block ≠ gb ∧ a.block ≠ sb) (hnc : n ≤ c) (hm : ob + m ≤ cs.length) (ho : so + m ≤ n) (hon : so < n) {q : Nat} (hq : q = Nat.min (n - so) m) :
 Calls Tryd.prog 97 #[.pt sb, .sl gb ob m cm] w fun e w' => e = .returned (.tuple #[.i64 ↑q, .nilIface]) ∧ St w (fun k => k = sb ∨ k = gb) [aq sb [.iface 109 (.pt rb), .i64 base, .i64 (↑so + ↑q), .i64 lim, .i64 sn] 195, aq gb (cs.take ob ++ nums .u8 ((xs.drop so).take q) ++ cs.drop (ob + q)) Tb] w' := by
 have hqm : q ≤ m := by rw [hq]; exact Nat.min_le_right _ _
 refine a5 (args := [.pt sb, .sl gb ob m cm]) Tryd.func97 rfl rfl rfl ?_
 have H0 : St _ _ [aq sb [.iface 109 (.pt rb), .i64 base, .i64 (↑so), .i64 lim, .i64 sn] 195, aq gb cs Tb] _ := ((St.nil w (fun k => k = sb ∨ k = gb)).add _ hgb (fun _ h => .inr h) (by simp)).add _ hsb (fun _ h => .inl h) (by simp only [List.mem_singleton]; rintro s rfl g h1 h2; exact hsg (h1.symm.trans h2))
 refine sr (ai 0 rfl (av (.nilIface) rfl (wn (ad (ad (bC MX (fun w' => w'.cell? ⟨sb, 2, none⟩ = some (.i64 (↑so)) ∧ w'.cell? ⟨sb, 3, none⟩ = some (.i64 lim)) (tp 0 9 Plan.done) (by kernel_rfl) ?_))))))
 have H1 := H0.drew
 have hS2 : (fun w' => w'.cell? ⟨sb, 2, none⟩ = some (.i64 (↑so)) ∧ w'.cell? ⟨sb, 3, none⟩ = some (.i64 lim)) w.drew := ⟨H1.c 0 2 rfl rfl, H1.c 0 3 rfl rfl⟩
 refine py rfl hS2 (al (v := .pt sb) rfl) (py rfl hS2 (ag rfl) (py rfl hS2 (ab (o := 0) fg rfl) (ph rfl hS2 (fun hS => ah eX rfl hS.1) (py rfl hS2 (al (v := .pt sb) rfl) (py rfl hS2 (ag rfl) (py rfl hS2 (ab (o := 0) gv rfl) (ph rfl hS2 (fun hS => ah eX rfl hS.2) (py rfl hS2 (dX (k := .i64) (a := ↑so) (b := lim) (c := false) rfl rfl (decide_eq_false (by omega))) (bj (ac (aj rfl ?_)))))))))))
 refine wk (ad (ad (bC MX (fun w' => w'.cell? ⟨sb, 3, none⟩ = some (.i64 lim) ∧ w'.cell? ⟨sb, 2, none⟩ = some (.i64 (↑so))) (tp 0 10 Plan.done) (by kernel_rfl) ?_)))
 have H3 := H1.drew
 have hS4 : (fun w' => w'.cell? ⟨sb, 3, none⟩ = some (.i64 lim) ∧ w'.cell? ⟨sb, 2, none⟩ = some (.i64 (↑so))) w.drew.drew := ⟨H3.c 0 3 rfl rfl, H3.c 0 2 rfl rfl⟩
 refine py rfl hS4 (al (v := .pt sb) rfl) (py rfl hS4 (ag rfl) (py rfl hS4 (ab (o := 0) gv rfl) (ph rfl hS4 (fun hS => ah eX rfl hS.1) (py rfl hS4 (al (v := .pt sb) rfl) (py rfl hS4 (ag rfl) (py rfl hS4 (ab (o := 0) fg rfl) (ph rfl hS4 (fun hS => ah eX rfl hS.2) (py rfl hS4 (gV (k := .i64) (c := lim - ↑so) rfl rfl (aE (by omega) (by omega))) (py rfl hS4 (aS (v := .i64 (lim - ↑so)) rfl) (bj (ac ?_)))))))))))
 refine sr (ms gb ob m cm rfl (wv rfl (ba co rfl) (mi (lim - ↑so) rfl (wv rfl (bN rfl rfl (decide_eq_false (by omega))) (wn (aj rfl (wk (ad (bC MX (fun w' => w'.cell? ⟨sb, 0, none⟩ = some (.iface 109 (.pt rb)) ∧ w'.cell? ⟨sb, 2, none⟩ = some (.i64 (↑so))) (tp 0 11 (Plan.run 11 (tp 12 5 Plan.done))) (by kernel_rfl) ?_)))))))))
 have H5 := H3.drew
 have hS6 : (fun w' => w'.cell? ⟨sb, 0, none⟩ = some (.iface 109 (.pt rb)) ∧ w'.cell? ⟨sb, 2, none⟩ = some (.i64 (↑so))) w.drew.drew.drew := ⟨H5.c 0 0 rfl rfl, H5.c 0 2 rfl rfl⟩
 refine py rfl hS6 (al (v := .pt sb) rfl) (py rfl hS6 (ag rfl) (py rfl hS6 (ab (o := 0) j9 rfl) (ph rfl hS6 (fun hS => ah gJ rfl hS.1) (py rfl hS6 (al (v := .sl gb ob m cm) rfl) (py rfl hS6 (al (v := .pt sb) rfl) (py rfl hS6 (ag rfl) (py rfl hS6 (ab (o := 0) fg rfl) (ph rfl hS6 (fun hS => ah eX rfl hS.2) (py rfl hS6 (gO rfl) (py rfl hS6 (al (v := .iface 109 (.pt rb)) rfl) (pr rfl ?_)))))))))))
 refine ei (args := [.sl gb ob m cm, .i64 (↑so)]) rfl (bD _ _) iY rfl (aa (gD (q := q) _ ((aq _ _ _).stay _ _ hrb fun g hg => H5.keep.block g (by rw [show g = rb from hg]; exact aA hrb) (by rw [show g = rb from hg]; exact (fun h => by rcases h with h | h <;> omega))) (hG.keep H5.keep (fun k hk => by rcases hk with h | h <;> omega)) hn63 (H5.g 1 rfl) hg4 hne (hr.keep H5.keep fun a ha h => by have := hA a ha; rcases h with h | h <;> omega) (fun a ha => (hA a ha).1) hnc hm ho hon hq) ?_)
 rintro e w8 ⟨rfl, HS7⟩
 have H9 := H5.kx 1 rfl HS7 (fun _ h => h)
 refine ⟨_, rfl, ?_⟩
 have hS10 : (fun w' => w'.cell? ⟨sb, 0, none⟩ = some (.iface 109 (.pt rb)) ∧ w'.cell? ⟨sb, 2, none⟩ = some (.i64 (↑so))) w8 := ⟨H9.c 1 0 rfl rfl, H9.c 1 2 rfl rfl⟩
 refine ⟨hS10, ?_⟩
 refine py rfl hS10 (al (v := .tuple #[.i64 (↑q), .nilIface]) rfl) (py rfl hS10 (a7 (v := .i64 (↑q)) rfl rfl) (py rfl hS10 (a7 (v := .nilIface) rfl rfl) (py rfl hS10 (aS (v := .i64 (↑q)) rfl) (py rfl hS10 (aS (v := .nilIface) rfl) (bj (ac (sr (mp sb 0 rfl (wc rfl (wf fg rfl (wv rfl (H9.ld 1 rfl eX rfl (.i64 (↑so)) rfl) ?_)))))))))))
 refine mi (↑q) rfl (wv rfl (aT (k := .i64) (c := ↑so + ↑q) rfl rfl (aE (by omega) (by omega))) (wc rfl (wf fg rfl (ws (es H9 1 2 (.i64 (↑so + ↑q)) rfl eX (fun w12 H11 =>  ?_))))))
 refine wn (aQ ?_)
 exact ⟨.inr rfl, _, r2 (.i64 (↑q)) (.nilIface) rfl _ _, ⟨rfl, H11.perm (.swap ..)⟩⟩
theorem nj {sb rb gb ob m cm n c so : Nat} {A : Option Addr} {i p base lim sn : Int} {cs : List Value} {Tb : TypeId} {xs : List Int} {a0 a1 : Addr} (w : World) (hsb : (aq sb [.iface 109 (.pt rb), .i64 base, .i64 (↑so), .i64 lim, .i64 sn] 195).φ w) (hl1 : (↑so : Int) < lim) (hl2 : (↑so : Int) + ↑m ≤ lim) (hl3 : lim ≤ 9223372036854775807) (hrb : (aq rb [.slice A n c, .i64 i, .i64 p] 190).φ w) (hG : Glob 224 w a0 a1) (hn63 : n ≤ 9223372036854775807) (hgb : (aq gb cs Tb).φ w) (hg4 : 4 ≤ gb) (hs4 : 4 ≤ sb) (hne : rb ≠ gb) (hsg : sb ≠ gb) (hsr : rb ≠ sb) (hr : RI .u8 w A n xs) (hA : ∀ a, A = some a → a.block ≠ gb ∧ a.block ≠ sb) (hnc : n ≤ c) (hm : ob + m ≤ cs.length) (ho : n < so + m) (hon : so < n) {q : Nat} (hq : q = Nat.min (n - so) m) :
 Calls Tryd.prog 97 #[.pt sb, .sl gb ob m cm] w fun e w' => e = .returned (.tuple #[.i64 ↑q, .iface 224 (.pointer (some a1))]) ∧ St w (fun k => k = sb ∨ k = gb) [aq sb [.iface 109 (.pt rb), .i64 base, .i64 (↑so + ↑q), .i64 lim, .i64 sn] 195, aq gb (cs.take ob ++ nums .u8 ((xs.drop so).take q) ++ cs.drop (ob + q)) Tb] w' := by
 have hqm : q ≤ m := by rw [hq]; exact Nat.min_le_right _ _
 refine a5 (args := [.pt sb, .sl gb ob m cm]) Tryd.func97 rfl rfl rfl ?_
 have H0 : St _ _ [aq sb [.iface 109 (.pt rb), .i64 base, .i64 (↑so), .i64 lim, .i64 sn] 195, aq gb cs Tb] _ := ((St.nil w (fun k => k = sb ∨ k = gb)).add _ hgb (fun _ h => .inr h) (by simp)).add _ hsb (fun _ h => .inl h) (by simp only [List.mem_singleton]; rintro s rfl g h1 h2; exact hsg (h1.symm.trans h2))
 refine sr (ai 0 rfl (av (.nilIface) rfl (wn (ad (ad (bC MX (fun w' => w'.cell? ⟨sb, 2, none⟩ = some (.i64 (↑so)) ∧ w'.cell? ⟨sb, 3, none⟩ = some (.i64 lim)) (tp 0 9 Plan.done) (by kernel_rfl) ?_))))))
 have H1 := H0.drew
 have hS2 : (fun w' => w'.cell? ⟨sb, 2, none⟩ = some (.i64 (↑so)) ∧ w'.cell? ⟨sb, 3, none⟩ = some (.i64 lim)) w.drew := ⟨H1.c 0 2 rfl rfl, H1.c 0 3 rfl rfl⟩
 refine py rfl hS2 (al (v := .pt sb) rfl) (py rfl hS2 (ag rfl) (py rfl hS2 (ab (o := 0) fg rfl) (ph rfl hS2 (fun hS => ah eX rfl hS.1) (py rfl hS2 (al (v := .pt sb) rfl) (py rfl hS2 (ag rfl) (py rfl hS2 (ab (o := 0) gv rfl) (ph rfl hS2 (fun hS => ah eX rfl hS.2) (py rfl hS2 (dX (k := .i64) (a := ↑so) (b := lim) (c := false) rfl rfl (decide_eq_false (by omega))) (bj (ac (aj rfl ?_)))))))))))
 refine wk (ad (ad (bC MX (fun w' => w'.cell? ⟨sb, 3, none⟩ = some (.i64 lim) ∧ w'.cell? ⟨sb, 2, none⟩ = some (.i64 (↑so))) (tp 0 10 Plan.done) (by kernel_rfl) ?_)))
 have H3 := H1.drew
 have hS4 : (fun w' => w'.cell? ⟨sb, 3, none⟩ = some (.i64 lim) ∧ w'.cell? ⟨sb, 2, none⟩ = some (.i64 (↑so))) w.drew.drew := ⟨H3.c 0 3 rfl rfl, H3.c 0 2 rfl rfl⟩
 refine py rfl hS4 (al (v := .pt sb) rfl) (py rfl hS4 (ag rfl) (py rfl hS4 (ab (o := 0) gv rfl) (ph rfl hS4 (fun hS => ah eX rfl hS.1) (py rfl hS4 (al (v := .pt sb) rfl) (py rfl hS4 (ag rfl) (py rfl hS4 (ab (o := 0) fg rfl) (ph rfl hS4 (fun hS => ah eX rfl hS.2) (py rfl hS4 (gV (k := .i64) (c := lim - ↑so) rfl rfl (aE (by omega) (by omega))) (py rfl hS4 (aS (v := .i64 (lim - ↑so)) rfl) (bj (ac ?_)))))))))))
 refine sr (ms gb ob m cm rfl (wv rfl (ba co rfl) (mi (lim - ↑so) rfl (wv rfl (bN rfl rfl (decide_eq_false (by omega))) (wn (aj rfl (wk (ad (bC MX (fun w' => w'.cell? ⟨sb, 0, none⟩ = some (.iface 109 (.pt rb)) ∧ w'.cell? ⟨sb, 2, none⟩ = some (.i64 (↑so))) (tp 0 11 (Plan.run 11 (tp 12 5 Plan.done))) (by kernel_rfl) ?_)))))))))
 have H5 := H3.drew
 have hS6 : (fun w' => w'.cell? ⟨sb, 0, none⟩ = some (.iface 109 (.pt rb)) ∧ w'.cell? ⟨sb, 2, none⟩ = some (.i64 (↑so))) w.drew.drew.drew := ⟨H5.c 0 0 rfl rfl, H5.c 0 2 rfl rfl⟩
 refine py rfl hS6 (al (v := .pt sb) rfl) (py rfl hS6 (ag rfl) (py rfl hS6 (ab (o := 0) j9 rfl) (ph rfl hS6 (fun hS => ah gJ rfl hS.1) (py rfl hS6 (al (v := .sl gb ob m cm) rfl) (py rfl hS6 (al (v := .pt sb) rfl) (py rfl hS6 (ag rfl) (py rfl hS6 (ab (o := 0) fg rfl) (ph rfl hS6 (fun hS => ah eX rfl hS.2) (py rfl hS6 (gO rfl) (py rfl hS6 (al (v := .iface 109 (.pt rb)) rfl) (pr rfl ?_)))))))))))
 refine ei (args := [.sl gb ob m cm, .i64 (↑so)]) rfl (bD _ _) iY rfl (aa (dU (q := q) _ ((aq _ _ _).stay _ _ hrb fun g hg => H5.keep.block g (by rw [show g = rb from hg]; exact aA hrb) (by rw [show g = rb from hg]; exact (fun h => by rcases h with h | h <;> omega))) (hG.keep H5.keep (fun k hk => by rcases hk with h | h <;> omega)) hn63 (H5.g 1 rfl) hg4 hne (hr.keep H5.keep fun a ha h => by have := hA a ha; rcases h with h | h <;> omega) (fun a ha => (hA a ha).1) hnc hm ho hon hq) ?_)
 rintro e w8 ⟨rfl, HS7⟩
 have H9 := H5.kx 1 rfl HS7 (fun _ h => h)
 refine ⟨_, rfl, ?_⟩
 have hS10 : (fun w' => w'.cell? ⟨sb, 0, none⟩ = some (.iface 109 (.pt rb)) ∧ w'.cell? ⟨sb, 2, none⟩ = some (.i64 (↑so))) w8 := ⟨H9.c 1 0 rfl rfl, H9.c 1 2 rfl rfl⟩
 refine ⟨hS10, ?_⟩
 refine py rfl hS10 (al (v := .tuple #[.i64 (↑q), .iface 224 (.pointer (some a1))]) rfl) (py rfl hS10 (a7 (v := .i64 (↑q)) rfl rfl) (py rfl hS10 (a7 (v := .iface 224 (.pointer (some a1))) rfl rfl) (py rfl hS10 (aS (v := .i64 (↑q)) rfl) (py rfl hS10 (aS (v := .iface 224 (.pointer (some a1))) rfl) (bj (ac (sr (mp sb 0 rfl (wc rfl (wf fg rfl (wv rfl (H9.ld 1 rfl eX rfl (.i64 (↑so)) rfl) ?_)))))))))))
 refine mi (↑q) rfl (wv rfl (aT (k := .i64) (c := ↑so + ↑q) rfl rfl (aE (by omega) (by omega))) (wc rfl (wf fg rfl (ws (es H9 1 2 (.i64 (↑so + ↑q)) rfl eX (fun w12 H11 =>  ?_))))))
 refine wn (aQ ?_)
 exact ⟨.inr rfl, _, r2 (.i64 (↑q)) (.iface 224 (.pointer (some a1))) rfl _ _, ⟨rfl, H11.perm (.swap ..)⟩⟩
theorem wQ {rb gb m cm n c i : Nat} {A : Option Addr} {p : Int} {cs : List Value} {Tb : TypeId} {xs : List Int} {a0 a1 : Addr} (w : World) (hrb : (aq rb [.slice A n c, .i64 (↑i), .i64 (p)] 190).φ w) (hG : Glob 224 w a0 a1) (hn63 : n ≤ 9223372036854775807) (hgb : (aq gb cs Tb).φ w) (hg4 : 4 ≤ gb) (h4 : 4 ≤ rb) (hne : rb ≠ gb) (hr : RI .u8 w A n xs) (hA : ∀ a, A = some a → a.block ≠ rb ∧ a.block ≠ gb) (hnc : n ≤ c) (hm : m ≤ cs.length) (hm0 : 0 < m) (hm63 : m ≤ 9223372036854775807) (hcm : m ≤ cm) (ho : i + m ≤ n) :
 Calls Tryd.prog 72 #[.iface 109 (.pt rb), .sl gb 0 m cm, .i64 ↑m] w fun e w' => e = .returned (.tuple #[.i64 ↑m, .nilIface]) ∧ St w (fun k => k = rb ∨ k = gb) [aq rb [.slice A n c, .i64 (↑i + ↑m), .i64 (-1)] 190, aq gb (cs.take 0 ++ nums .u8 ((xs.drop i).take m) ++ cs.drop (0 + m)) Tb] w' := by
 refine a5 (args := [.iface 109 (.pt rb), .sl gb 0 m cm, .i64 (↑m)]) Tryd.func72 rfl rfl rfl ?_
 have H0 : St _ _ [aq rb [.slice A n c, .i64 (↑i), .i64 p] 190, aq gb cs Tb] _ := ((St.nil w (fun k => k = rb ∨ k = gb)).add _ hgb (fun _ h => .inr h) (by simp)).add _ hrb (fun _ h => .inl h) (by simp only [List.mem_singleton]; rintro s rfl g h1 h2; exact hne (h1.symm.trans h2))
 refine sr (ai 0 rfl (av (.nilIface) rfl (wn (ad (sr (ms gb 0 m cm rfl (wv rfl (ba co rfl) (mi (↑m) rfl (wv rfl (aZ rfl rfl (decide_eq_false (by omega))) (wn (aj rfl ?_)))))))))))
 refine wk (ad (aC (du 3 (cw (ad (sr (mi 0 rfl (mi (↑m) rfl (wv rfl (aZ rfl rfl (decide_eq_true (by omega))) (mv (.bool true) rfl (aP rfl rfl (al (v := .nilIface) rfl) ?_)))))))))))
 refine aP rfl rfl ((dq bq rfl (.inl rfl) : Yv _ _ _ _ (.bool true) _)) (wv rfl (aD (b := true) (v := .bool true) rfl rfl) (wn (ay rfl (wk (aC (sr (ai 0 rfl (wn (ad (bC MX (fun w' => True) (tp 0 7 (Plan.run 7 (tp 8 5 Plan.done))) (by kernel_rfl) ?_))))))))))
 have H1 := H0.drew
 have hS2 : (fun w' => True) w.drew := trivial
 refine py rfl hS2 (al (v := .iface 109 (.pt rb)) rfl) (py rfl hS2 (al (v := .sl gb 0 m cm) rfl) (py rfl hS2 (al (v := .i64 0) rfl) (pt rfl hS2 (fun _ hS => (am (l := 0) (h := m) aU rfl (bs rfl (by omega) rfl) bn (by omega) (by omega) (by omega) rfl : Yv _ _ _ _ (.sl gb 0 m cm) _)) (py rfl hS2 (n7 (vs := [.iface 109 (.pt rb)]) rfl rfl) (py rfl hS2 (bd rfl (ig _ _)) (py rfl hS2 (al (v := .iface 109 (.pt rb)) rfl) (pr rfl (ei (args := [.sl gb 0 m cm]) rfl (ie _ _) vu rfl (aa (rs (q := m) (ob := 0) _ (H1.g 0 rfl) (hG.keep H1.keep (fun k hk => by rcases hk with h | h <;> omega)) h4 (H1.g 1 rfl) hne (hr.keep H1.keep fun a ha h => by have := hA a ha; rcases h with h | h <;> omega) hA (by omega) hnc hn63 (by omega) (by simp only [Nat.min_def]; split <;> omega)) ?_)))))))))
 rintro e w4 ⟨rfl, HS3⟩
 have H5 := H1.ky 0 0 rfl rfl HS3 (fun _ h => h)
 refine ⟨_, rfl, ?_⟩
 have hS6 : (fun w' => True) w4 := trivial
 refine ⟨hS6, ?_⟩
 refine py rfl hS6 (al (v := .tuple #[.i64 (↑m), .nilIface]) rfl) (py rfl hS6 (a7 (v := .i64 (↑m)) rfl rfl) (py rfl hS6 (a7 (v := .nilIface) rfl rfl) (py rfl hS6 (aS (v := .i64 (↑m)) rfl) (py rfl hS6 (aS (v := .nilIface) rfl) (bj (ac (ae (mi 0 rfl (mi (↑m) rfl (wv rfl (aT (k := .i64) (c := ↑m) rfl rfl (by rw [Int.zero_add]; exact aE (by omega) (by omega))) (ai (↑m) rfl ?_)))))))))))
 refine bl (ao (ac (cw (ad (sr (mi (↑m) rfl (mi (↑m) rfl (wv rfl (aZ rfl rfl (decide_eq_false (by omega))) (mv (.bool false) rfl (cM rfl rfl (cM rfl rfl ?_)))))))))))
 refine wv rfl (aD (b := false) (v := .bool false) rfl rfl) (wn (aj rfl (bF (a8 (a8 (aY (ac (ad (sr (mi (↑m) rfl (mi (↑m) rfl ?_)))))))))))
 refine wv rfl (dX rfl rfl (decide_eq_true (by omega))) (wn (ay rfl (ae (av (.nilIface) rfl (wn (aQ ?_))))))
 exact ⟨.inr rfl, _, r2 (.i64 (↑m)) (.nilIface) rfl _ _, ⟨rfl, H5⟩⟩
theorem ua {rb gb m cm n c i : Nat} {A : Option Addr} {p : Int} {cs : List Value} {Tb : TypeId} {xs : List Int} {a0 a1 : Addr} (w : World) (hrb : (aq rb [.slice A n c, .i64 (↑i), .i64 (p)] 190).φ w) (hG : Glob 224 w a0 a1) (hn63 : n ≤ 9223372036854775807) (hgb : (aq gb cs Tb).φ w) (hg4 : 4 ≤ gb) (h4 : 4 ≤ rb) (hne : rb ≠ gb) (hr : RI .u8 w A n xs) (hA : ∀ a, A = some a → a.block ≠ rb ∧ a.block ≠ gb) (hnc : n ≤ c) (hm : m ≤ cs.length) (hm0 : 0 < m) (hm63 : m ≤ 9223372036854775807) (hcm : m ≤ cm) (ho : n < i + m) (hi : i < n) :
 Calls Tryd.prog 72 #[.iface 109 (.pt rb), .sl gb 0 m cm, .i64 ↑m] w fun e w' => ∃ x T v, e = .returned (.tuple #[x, .iface T v]) ∧ St w (fun k => k = rb ∨ k = gb) [] w' := by
 refine a5 (args := [.iface 109 (.pt rb), .sl gb 0 m cm, .i64 (↑m)]) Tryd.func72 rfl rfl rfl ?_
 have H0 : St _ _ [aq rb [.slice A n c, .i64 (↑i), .i64 p] 190, aq gb cs Tb] _ := ((St.nil w (fun k => k = rb ∨ k = gb)).add _ hgb (fun _ h => .inr h) (by simp)).add _ hrb (fun _ h => .inl h) (by simp only [List.mem_singleton]; rintro s rfl g h1 h2; exact hne (h1.symm.trans h2))
 refine sr (ai 0 rfl (av (.nilIface) rfl (wn (ad (sr (ms gb 0 m cm rfl (wv rfl (ba co rfl) (mi (↑m) rfl (wv rfl (aZ rfl rfl (decide_eq_false (by omega))) (wn (aj rfl ?_)))))))))))
 refine wk (ad (aC (du 3 (cw (ad (sr (mi 0 rfl (mi (↑m) rfl (wv rfl (aZ rfl rfl (decide_eq_true (by omega))) (mv (.bool true) rfl (aP rfl rfl (al (v := .nilIface) rfl) ?_)))))))))))
 refine aP rfl rfl ((dq bq rfl (.inl rfl) : Yv _ _ _ _ (.bool true) _)) (wv rfl (aD (b := true) (v := .bool true) rfl rfl) (wn (ay rfl (wk (aC (sr (ai 0 rfl (wn (ad (bC MX (fun w' => True) (tp 0 7 (Plan.run 7 (tp 8 5 Plan.done))) (by kernel_rfl) ?_))))))))))
 have H1 := H0.drew
 have hS2 : (fun w' => True) w.drew := trivial
 refine py rfl hS2 (al (v := .iface 109 (.pt rb)) rfl) (py rfl hS2 (al (v := .sl gb 0 m cm) rfl) (py rfl hS2 (al (v := .i64 0) rfl) (pt rfl hS2 (fun _ hS => (am (l := 0) (h := m) aU rfl (bs rfl (by omega) rfl) bn (by omega) (by omega) (by omega) rfl : Yv _ _ _ _ (.sl gb 0 m cm) _)) (py rfl hS2 (n7 (vs := [.iface 109 (.pt rb)]) rfl rfl) (py rfl hS2 (bd rfl (ig _ _)) (py rfl hS2 (al (v := .iface 109 (.pt rb)) rfl) (pr rfl (ei (args := [.sl gb 0 m cm]) rfl (ie _ _) vu rfl (aa (rs (q := (n - i)) (ob := 0) _ (H1.g 0 rfl) (hG.keep H1.keep (fun k hk => by rcases hk with h | h <;> omega)) h4 (H1.g 1 rfl) hne (hr.keep H1.keep fun a ha h => by have := hA a ha; rcases h with h | h <;> omega) hA (by omega) hnc hn63 (by omega) (by simp only [Nat.min_def]; split <;> omega)) ?_)))))))))
 rintro e w4 ⟨rfl, HS3⟩
 have H5 := H1.ky 0 0 rfl rfl HS3 (fun _ h => h)
 refine ⟨_, rfl, ?_⟩
 have hS6 : (fun w' => True) w4 := trivial
 refine ⟨hS6, ?_⟩
 refine py rfl hS6 (al (v := .tuple #[.i64 (↑(n - i)), .nilIface]) rfl) (py rfl hS6 (a7 (v := .i64 (↑(n - i))) rfl rfl) (py rfl hS6 (a7 (v := .nilIface) rfl rfl) (py rfl hS6 (aS (v := .i64 (↑(n - i))) rfl) (py rfl hS6 (aS (v := .nilIface) rfl) (bj (ac (ae (mi 0 rfl (mi (↑(n - i)) rfl (wv rfl (aT (k := .i64) (c := ↑(n - i)) rfl rfl (by rw [Int.zero_add]; exact aE (by omega) (by omega))) (ai (↑(n - i)) rfl ?_)))))))))))
 refine bl (ao (ac (cw (ad (sr (mi (↑(n - i)) rfl (mi (↑m) rfl (wv rfl (aZ rfl rfl (decide_eq_true (by omega))) (mv (.bool true) rfl (aP rfl rfl (al (v := .nilIface) rfl) (aP rfl rfl ((dq bq rfl (.inl rfl) : Yv _ _ _ _ (.bool true) _)) ?_)))))))))))
 refine wv rfl (aD (b := true) (v := .bool true) rfl rfl) (wn (ay rfl (wk (aC (sr (ai 0 rfl (wn (ad (bC MX (fun w' => True) (tp 0 7 (Plan.run 7 (tp 8 5 Plan.done))) (by kernel_rfl) ?_)))))))))
 have H7 := H5.drew
 have hS8 : (fun w' => True) w4.drew := trivial
 refine py rfl hS8 (al (v := .iface 109 (.pt rb)) rfl) (py rfl hS8 (al (v := .sl gb 0 m cm) rfl) (py rfl hS8 (al (v := .i64 (↑(n - i))) rfl) (pt rfl hS8 (fun _ hS => (am (l := (n - i)) (h := m) aU rfl (bs rfl (by omega) (Int.toNat_natCast _)) bn (by omega) (by omega) (by omega) (by omega) : Yv _ _ _ _ (.sl gb (n - i) (m - (n - i)) (cm - (n - i))) _)) (py rfl hS8 (n7 (vs := [.iface 109 (.pt rb)]) rfl rfl) (py rfl hS8 (bd rfl (ig _ _)) (py rfl hS8 (al (v := .iface 109 (.pt rb)) rfl) (pr rfl (ei (args := [.sl gb (n - i) (m - (n - i)) (cm - (n - i))]) rfl (ie _ _) vu rfl (aa (oD _ (H7.g 0 rfl) (hG.keep H7.keep (fun k hk => by rcases hk with h | h <;> omega)) h4 (by omega) _) ?_)))))))))
 rintro e w10 ⟨rfl, HS9⟩
 have H11 := H7.kx 0 rfl HS9 (fun _ h => h)
 refine ⟨_, rfl, ?_⟩
 have hS12 : (fun w' => True) w10 := trivial
 refine ⟨hS12, ?_⟩
 refine py rfl hS12 (al (v := .tuple #[.i64 0, .iface 224 (.pointer (some a1))]) rfl) (py rfl hS12 (a7 (v := .i64 0) rfl rfl) (py rfl hS12 (a7 (v := .iface 224 (.pointer (some a1))) rfl rfl) (py rfl hS12 (aS (v := .i64 0) rfl) (py rfl hS12 (aS (v := .iface 224 (.pointer (some a1))) rfl) (bj (ac (ae (mi (↑(n - i)) rfl (mi 0 rfl (wv rfl (aT (k := .i64) (c := ↑(n - i)) rfl rfl (by rw [Int.add_zero]; exact aE (by omega) (by omega))) (ai (↑(n - i)) rfl ?_)))))))))))
 refine bl (ao (ac (cw (ad (sr (mi (↑(n - i)) rfl (mi (↑m) rfl (wv rfl (aZ rfl rfl (decide_eq_true (by omega))) (mv (.bool true) rfl (aP rfl rfl (al (v := .iface 224 (.pointer (some a1))) rfl) (aP rfl rfl ((dq bq rfl (.inr ⟨_, _, rfl⟩) : Yv _ _ _ _ (.bool false) _)) ?_)))))))))))
 refine wv rfl (aD (b := true) (v := .bool false) rfl rfl) (wn (aj rfl (bF (a8 (a8 (aY (ac (ad (sr (mi (↑(n - i)) rfl (mi (↑m) rfl ?_)))))))))))
 refine wv rfl (dX rfl rfl (decide_eq_false (by omega))) (wn (aj rfl (sr (mi (↑(n - i)) rfl (wv rfl (bN rfl rfl (decide_eq_true (by omega))) (mv (.bool true) rfl (aP rfl rfl (al (v := .iface 224 (.pointer (some a1))) rfl) (aP rfl rfl (ah fx rfl (H11.keep.cell (hG.2) ((fun h => by rcases h with h | h <;> simp at h <;> omega)))) (aP rfl rfl (ko fo rfl rfl) (wv rfl (aD (b := true) (v := .bool true) rfl rfl) (wn ?_)))))))))))
 refine ay rfl (ae (wv rfl (ah fx rfl (H11.keep.cell (hG.1) ((fun h => by rcases h with h | h <;> simp at h <;> omega)))) (av (.iface 224 (.pointer (some a0))) rfl (wn (aQ ?_)))))
 exact ⟨.inr rfl, _, r2 (.i64 (↑(n - i))) (.iface 224 (.pointer (some a0))) rfl _ _, ⟨_, _, _, rfl, H11.sub (List.nil_sublist _)⟩⟩
theorem vj {rb gb m cm n c i : Nat} {A : Option Addr} {p : Int} {cs : List Value} {Tb : TypeId} {xs : List Int} {a0 a1 : Addr} (w : World) (hrb : (aq rb [.slice A n c, .i64 (↑i), .i64 (p)] 190).φ w) (hG : Glob 224 w a0 a1) (hn63 : n ≤ 9223372036854775807) (hgb : (aq gb cs Tb).φ w) (hg4 : 4 ≤ gb) (h4 : 4 ≤ rb) (hne : rb ≠ gb) (hr : RI .u8 w A n xs) (hA : ∀ a, A = some a → a.block ≠ rb ∧ a.block ≠ gb) (hnc : n ≤ c) (hm : m ≤ cs.length) (hm0 : 0 < m) (hm63 : m ≤ 9223372036854775807) (hcm : m ≤ cm) (ho : n ≤ i) :
 Calls Tryd.prog 72 #[.iface 109 (.pt rb), .sl gb 0 m cm, .i64 ↑m] w fun e w' => ∃ x T v, e = .returned (.tuple #[x, .iface T v]) ∧ St w (fun k => k = rb ∨ k = gb) [] w' := by
 refine a5 (args := [.iface 109 (.pt rb), .sl gb 0 m cm, .i64 (↑m)]) Tryd.func72 rfl rfl rfl ?_
 have H0 : St _ _ [aq rb [.slice A n c, .i64 (↑i), .i64 p] 190, aq gb cs Tb] _ := ((St.nil w (fun k => k = rb ∨ k = gb)).add _ hgb (fun _ h => .inr h) (by simp)).add _ hrb (fun _ h => .inl h) (by simp only [List.mem_singleton]; rintro s rfl g h1 h2; exact hne (h1.symm.trans h2))
 refine sr (ai 0 rfl (av (.nilIface) rfl (wn (ad (sr (ms gb 0 m cm rfl (wv rfl (ba co rfl) (mi (↑m) rfl (wv rfl (aZ rfl rfl (decide_eq_false (by omega))) (wn (aj rfl ?_)))))))))))
 refine wk (ad (aC (du 3 (cw (ad (sr (mi 0 rfl (mi (↑m) rfl (wv rfl (aZ rfl rfl (decide_eq_true (by omega))) (mv (.bool true) rfl (aP rfl rfl (al (v := .nilIface) rfl) ?_)))))))))))
 refine aP rfl rfl ((dq bq rfl (.inl rfl) : Yv _ _ _ _ (.bool true) _)) (wv rfl (aD (b := true) (v := .bool true) rfl rfl) (wn (ay rfl (wk (aC (sr (ai 0 rfl (wn (ad (bC MX (fun w' => True) (tp 0 7 (Plan.run 7 (tp 8 5 Plan.done))) (by kernel_rfl) ?_))))))))))
 have H1 := H0.drew
 have hS2 : (fun w' => True) w.drew := trivial
 refine py rfl hS2 (al (v := .iface 109 (.pt rb)) rfl) (py rfl hS2 (al (v := .sl gb 0 m cm) rfl) (py rfl hS2 (al (v := .i64 0) rfl) (pt rfl hS2 (fun _ hS => (am (l := 0) (h := m) aU rfl (bs rfl (by omega) rfl) bn (by omega) (by omega) (by omega) rfl : Yv _ _ _ _ (.sl gb 0 m cm) _)) (py rfl hS2 (n7 (vs := [.iface 109 (.pt rb)]) rfl rfl) (py rfl hS2 (bd rfl (ig _ _)) (py rfl hS2 (al (v := .iface 109 (.pt rb)) rfl) (pr rfl (ei (args := [.sl gb 0 m cm]) rfl (ie _ _) vu rfl (aa (oD _ (H1.g 0 rfl) (hG.keep H1.keep (fun k hk => by rcases hk with h | h <;> omega)) h4 (by omega) _) ?_)))))))))
 rintro e w4 ⟨rfl, HS3⟩
 have H5 := H1.kx 0 rfl HS3 (fun _ h => h)
 refine ⟨_, rfl, ?_⟩
 have hS6 : (fun w' => True) w4 := trivial
 refine ⟨hS6, ?_⟩
 refine py rfl hS6 (al (v := .tuple #[.i64 0, .iface 224 (.pointer (some a1))]) rfl) (py rfl hS6 (a7 (v := .i64 0) rfl rfl) (py rfl hS6 (a7 (v := .iface 224 (.pointer (some a1))) rfl rfl) (py rfl hS6 (aS (v := .i64 0) rfl) (py rfl hS6 (aS (v := .iface 224 (.pointer (some a1))) rfl) (bj (ac (ae (mi 0 rfl (mi 0 rfl (wv rfl (aT (k := .i64) (c := 0) rfl rfl (by rw [Int.add_zero]; exact aE (by omega) (by omega))) (ai 0 rfl ?_)))))))))))
 refine bl (ao (ac (cw (ad (sr (mi 0 rfl (mi (↑m) rfl (wv rfl (aZ rfl rfl (decide_eq_true (by omega))) (mv (.bool true) rfl (aP rfl rfl (al (v := .iface 224 (.pointer (some a1))) rfl) (aP rfl rfl ((dq bq rfl (.inr ⟨_, _, rfl⟩) : Yv _ _ _ _ (.bool false) _)) ?_)))))))))))
 refine wv rfl (aD (b := true) (v := .bool false) rfl rfl) (wn (aj rfl (bF (a8 (a8 (aY (ac (ad (sr (mi 0 rfl (mi (↑m) rfl ?_)))))))))))
 refine wv rfl (dX rfl rfl (decide_eq_false (by omega))) (wn (aj rfl (sr (mi 0 rfl (wv rfl (bN (c := false) rfl rfl rfl) (mv (.bool false) rfl (cM rfl rfl (cM rfl rfl (cM rfl rfl (wv rfl (aD (b := false) (v := .bool false) rfl rfl) (wn ?_)))))))))))
 refine aj rfl (wk (aQ ?_))
 exact ⟨.inr rfl, _, r2 (.i64 0) (.iface 224 (.pointer (some a1))) rfl _ _, ⟨_, _, _, rfl, H5.sub (List.nil_sublist _)⟩⟩
end Go.Proofs.YtlndedfkgiafhaaDoor
namespace Go.Proofs.YtlndedfkgiafhaaDoor
open Go Go.RowKit Go.Proofs
theorem l9 : ∀ (a : Addr) (w : World), (nilAhead (Tryd.prog.types.size + Made.depth) 133 (.pointer (some a)) "Read").run Tryd.prog w = .ok (some false) w := fun a w => by kernel_rfl
theorem l8 : ∀ (a : Addr) (w : World), (method (Tryd.prog.types.size + Made.depth) 133 (.pointer (some a)) "Read").run Tryd.prog w = .ok (97, .pointer (some a)) w := fun a w => by kernel_rfl
theorem CK97 : aX Tryd.prog 97 := aJ (by kernel_rfl)
theorem vv : aX Tryd.prog 72 := aJ (by kernel_rfl)
theorem s4 {sb rb gb m cm n c so : Nat} {A : Option Addr} {i p base lim sn : Int} {cs : List Value} {Tb : TypeId} {xs : List Int} {a0 a1 : Addr} (w : World) (hsb : (aq sb [.iface 109 (.pt rb), .i64 base, .i64 (↑so), .i64 lim, .i64 sn] 195).φ w) (hl1 : (↑so : Int) < lim) (hl2 : (↑so : Int) + ↑m ≤ lim) (hl3 : lim ≤ 9223372036854775807) (hrb : (aq rb [.slice A n c, .i64 i, .i64 p] 190).φ w) (hG : Glob 224 w a0 a1) (hn63 : n ≤ 9223372036854775807) (hgb : (aq gb cs Tb).φ w) (hg4 : 4 ≤ gb) (hs4 : 4 ≤ sb) (hne : rb ≠ gb) (hsg : sb ≠ gb) (hsr : rb ≠ sb) (hr : RI .u8 w A n xs) (hA : ∀ a, A = some a → a.block ≠ gb ∧ a.block ≠ sb) (hnc : n ≤ c) (hm : cs.length = m) (hm0 : 0 < m) (hm63 : m ≤ 9223372036854775807) (hcm : m ≤ cm) (ho : so + m ≤ n) :
 Calls Tryd.prog 72 #[.iface 133 (.pt sb), .sl gb 0 m cm, .i64 ↑m] w fun e w' => e = .returned (.tuple #[.i64 ↑m, .nilIface]) ∧ St w (fun k => k = sb ∨ k = gb) [aq sb [.iface 109 (.pt rb), .i64 base, .i64 (↑so + ↑m), .i64 lim, .i64 sn] 195, aq gb (nums .u8 ((xs.drop so).take m)) Tb] w' := by
 refine a5 (args := [.iface 133 (.pt sb), .sl gb 0 m cm, .i64 (↑m)]) Tryd.func72 rfl rfl rfl ?_
 have H0 : St _ _ [aq sb [.iface 109 (.pt rb), .i64 base, .i64 (↑so), .i64 lim, .i64 sn] 195, aq gb cs Tb] _ := ((St.nil w (fun k => k = sb ∨ k = gb)).add _ hgb (fun _ h => .inr h) (by simp)).add _ hsb (fun _ h => .inl h) (by simp only [List.mem_singleton]; rintro s rfl g h1 h2; exact hsg (h1.symm.trans h2))
 refine sr (ai 0 rfl (av (.nilIface) rfl (wn (ad (sr (ms gb 0 m cm rfl (wv rfl (ba co rfl) (mi (↑m) rfl (wv rfl (aZ rfl rfl (decide_eq_false (by omega))) (wn (aj rfl ?_)))))))))))
 refine wk (ad (aC (du 2 (cw (ad (sr (mi 0 rfl (mi (↑m) rfl (wv rfl (aZ rfl rfl (decide_eq_true (by omega))) (mv (.bool true) rfl (aP rfl rfl (al (v := .nilIface) rfl) ?_)))))))))))
 refine aP rfl rfl ((dq bq rfl (.inl rfl) : Yv _ _ _ _ (.bool true) _)) (wv rfl (aD (b := true) (v := .bool true) rfl rfl) (wn (ay rfl (wk (aC (sr (ai 0 rfl (wn (ad (bC MX (fun w' => True) (tp 0 7 (Plan.run 7 (tp 8 5 Plan.done))) (by kernel_rfl) ?_))))))))))
 have H1 := H0.drew
 have hS2 : (fun w' => True) w.drew := trivial
 refine py rfl hS2 (al (v := .iface 133 (.pt sb)) rfl) (py rfl hS2 (al (v := .sl gb 0 m cm) rfl) (py rfl hS2 (al (v := .i64 0) rfl) (pt rfl hS2 (fun _ hS => (am (l := 0) (h := m) aU rfl (bs rfl (by omega) rfl) bn (by omega) (by omega) (by omega) rfl : Yv _ _ _ _ (.sl gb 0 m cm) _)) (py rfl hS2 (n7 (vs := [.iface 133 (.pt sb)]) rfl rfl) (py rfl hS2 (bd rfl (l9 _ _)) (py rfl hS2 (al (v := .iface 133 (.pt sb)) rfl) (pr rfl (ei (args := [.sl gb 0 m cm]) rfl (l8 _ _) CK97 rfl (aa (oC (q := m) (ob := 0) _ (H1.g 0 rfl) (by omega) (by omega) (by omega) ((aq _ _ _).stay _ _ hrb fun g hg => H1.keep.block g (by rw [show g = rb from hg]; exact aA hrb) (by rw [show g = rb from hg]; exact (fun h => by rcases h with h | h <;> omega))) (hG.keep H1.keep (fun k hk => by rcases hk with h | h <;> omega)) hn63 (H1.g 1 rfl) hg4 hs4 hne hsg hsr (hr.keep H1.keep fun a ha h => by have := hA a ha; rcases h with h | h <;> omega) hA hnc (by omega) (by omega) (by omega) (by simp only [Nat.min_def]; split <;> omega)) ?_)))))))))
 rintro e w4 ⟨rfl, HS3⟩
 have H5 := H1.ky 0 0 rfl rfl HS3 (fun _ h => h)
 refine ⟨_, rfl, ?_⟩
 have hS6 : (fun w' => True) w4 := trivial
 refine ⟨hS6, ?_⟩
 refine py rfl hS6 (al (v := .tuple #[.i64 (↑m), .nilIface]) rfl) (py rfl hS6 (a7 (v := .i64 (↑m)) rfl rfl) (py rfl hS6 (a7 (v := .nilIface) rfl rfl) (py rfl hS6 (aS (v := .i64 (↑m)) rfl) (py rfl hS6 (aS (v := .nilIface) rfl) (bj (ac (ae (mi 0 rfl (mi (↑m) rfl (wv rfl (aT (k := .i64) (c := ↑m) rfl rfl (by rw [Int.zero_add]; exact aE (by omega) (by omega))) (ai (↑m) rfl ?_)))))))))))
 refine bl (ao (ac (cw (ad (sr (mi (↑m) rfl (mi (↑m) rfl (wv rfl (aZ rfl rfl (decide_eq_false (by omega))) (mv (.bool false) rfl (cM rfl rfl (cM rfl rfl ?_)))))))))))
 refine wv rfl (aD (b := false) (v := .bool false) rfl rfl) (wn (aj rfl (bF (a8 (a8 (aY (ac (ad (sr (mi (↑m) rfl (mi (↑m) rfl ?_)))))))))))
 refine wv rfl (dX rfl rfl (decide_eq_true (by omega))) (wn (ay rfl (ae (av (.nilIface) rfl (wn (aQ ?_))))))
 exact ⟨.inr rfl, _, r2 (.i64 (↑m)) (.nilIface) rfl _ _, ⟨rfl, by simpa [List.drop_of_length_le (Nat.le_of_eq hm)] using H5⟩⟩
theorem tW {sb rb gb m cm n c so : Nat} {A : Option Addr} {i p base lim sn : Int} {cs : List Value} {Tb : TypeId} {xs : List Int} {a0 a1 : Addr} (w : World) (hsb : (aq sb [.iface 109 (.pt rb), .i64 base, .i64 (↑so), .i64 lim, .i64 sn] 195).φ w) (hl1 : (↑so : Int) < lim) (hl2 : (↑so : Int) + ↑m ≤ lim) (hl3 : lim ≤ 9223372036854775807) (hrb : (aq rb [.slice A n c, .i64 i, .i64 p] 190).φ w) (hG : Glob 224 w a0 a1) (hn63 : n ≤ 9223372036854775807) (hgb : (aq gb cs Tb).φ w) (hg4 : 4 ≤ gb) (hs4 : 4 ≤ sb) (hne : rb ≠ gb) (hsg : sb ≠ gb) (hsr : rb ≠ sb) (hr : RI .u8 w A n xs) (hA : ∀ a, A = some a → a.block ≠ gb ∧ a.block ≠ sb) (hnc : n ≤ c) (hm : cs.length = m) (hm0 : 0 < m) (hm63 : m ≤ 9223372036854775807) (hcm : m ≤ cm) (ho : so + m ≤ n) :
 Calls Tryd.prog 65 #[.iface 133 (.pt sb), .sl gb 0 m cm] w fun e w' => e = .returned (.tuple #[.i64 ↑m, .nilIface]) ∧ St w (fun k => k = sb ∨ k = gb) [aq sb [.iface 109 (.pt rb), .i64 base, .i64 (↑so + ↑m), .i64 lim, .i64 sn] 195, aq gb (nums .u8 ((xs.drop so).take m)) Tb] w' := by
 refine a5 (args := [.iface 133 (.pt sb), .sl gb 0 m cm]) Tryd.func65 rfl rfl rfl ?_
 have H0 := trivial
 refine sr (ai 0 rfl (av (.nilIface) rfl (wn (sr (mv (.iface 133 (.pt sb)) rfl (ms gb 0 m cm rfl (ms gb 0 m cm rfl (wv rfl (ba co rfl) (wE [.iface 133 (.pt sb), .sl gb 0 m cm, .i64 (↑m)] vv rfl rfl (aa (s4 w hsb hl1 hl2 hl3 hrb hG hn63 hgb hg4 hs4 hne hsg hsr hr hA hnc hm hm0 hm63 hcm ho) ?_))))))))))
 rintro e w2 ⟨rfl, HS1⟩
 refine ⟨_, rfl, ?_⟩
 refine we (.i64 (↑m)) rfl rfl (we (.nilIface) rfl rfl (ai (↑m) rfl (av (.nilIface) rfl (wn (aQ ?_)))))
 exact ⟨.inr rfl, _, r2 (.i64 (↑m)) (.nilIface) rfl _ _, ⟨rfl, HS1⟩⟩
theorem p6 {sb rb gb m cm n c so : Nat} {A : Option Addr} {i p base lim sn : Int} {cs : List Value} {Tb : TypeId} {xs : List Int} {a0 a1 : Addr} (w : World) (hsb : (aq sb [.iface 109 (.pt rb), .i64 base, .i64 (↑so), .i64 lim, .i64 sn] 195).φ w) (hl1 : (↑so : Int) < lim) (hl2 : (↑so : Int) + ↑m ≤ lim) (hl3 : lim ≤ 9223372036854775807) (hrb : (aq rb [.slice A n c, .i64 i, .i64 p] 190).φ w) (hG : Glob 224 w a0 a1) (hn63 : n ≤ 9223372036854775807) (hgb : (aq gb cs Tb).φ w) (hg4 : 4 ≤ gb) (hs4 : 4 ≤ sb) (hne : rb ≠ gb) (hsg : sb ≠ gb) (hsr : rb ≠ sb) (hr : RI .u8 w A n xs) (hA : ∀ a, A = some a → a.block ≠ gb ∧ a.block ≠ sb) (hnc : n ≤ c) (hm : cs.length = m) (hm0 : 0 < m) (hm63 : m ≤ 9223372036854775807) (hcm : m ≤ cm) (ho : n < so + m) (hon : so < n) :
 Calls Tryd.prog 72 #[.iface 133 (.pt sb), .sl gb 0 m cm, .i64 ↑m] w fun e w' => ∃ x T v, e = .returned (.tuple #[x, .iface T v]) ∧ St w (fun k => k = sb ∨ k = gb) [] w' := by
 refine a5 (args := [.iface 133 (.pt sb), .sl gb 0 m cm, .i64 (↑m)]) Tryd.func72 rfl rfl rfl ?_
 have H0 : St _ _ [aq sb [.iface 109 (.pt rb), .i64 base, .i64 (↑so), .i64 lim, .i64 sn] 195, aq gb cs Tb] _ := ((St.nil w (fun k => k = sb ∨ k = gb)).add _ hgb (fun _ h => .inr h) (by simp)).add _ hsb (fun _ h => .inl h) (by simp only [List.mem_singleton]; rintro s rfl g h1 h2; exact hsg (h1.symm.trans h2))
 refine sr (ai 0 rfl (av (.nilIface) rfl (wn (ad (sr (ms gb 0 m cm rfl (wv rfl (ba co rfl) (mi (↑m) rfl (wv rfl (aZ rfl rfl (decide_eq_false (by omega))) (wn (aj rfl ?_)))))))))))
 refine wk (ad (aC (du 2 (cw (ad (sr (mi 0 rfl (mi (↑m) rfl (wv rfl (aZ rfl rfl (decide_eq_true (by omega))) (mv (.bool true) rfl (aP rfl rfl (al (v := .nilIface) rfl) ?_)))))))))))
 refine aP rfl rfl ((dq bq rfl (.inl rfl) : Yv _ _ _ _ (.bool true) _)) (wv rfl (aD (b := true) (v := .bool true) rfl rfl) (wn (ay rfl (wk (aC (sr (ai 0 rfl (wn (ad (bC MX (fun w' => True) (tp 0 7 (Plan.run 7 (tp 8 5 Plan.done))) (by kernel_rfl) ?_))))))))))
 have H1 := H0.drew
 have hS2 : (fun w' => True) w.drew := trivial
 refine py rfl hS2 (al (v := .iface 133 (.pt sb)) rfl) (py rfl hS2 (al (v := .sl gb 0 m cm) rfl) (py rfl hS2 (al (v := .i64 0) rfl) (pt rfl hS2 (fun _ hS => (am (l := 0) (h := m) aU rfl (bs rfl (by omega) rfl) bn (by omega) (by omega) (by omega) rfl : Yv _ _ _ _ (.sl gb 0 m cm) _)) (py rfl hS2 (n7 (vs := [.iface 133 (.pt sb)]) rfl rfl) (py rfl hS2 (bd rfl (l9 _ _)) (py rfl hS2 (al (v := .iface 133 (.pt sb)) rfl) (pr rfl (ei (args := [.sl gb 0 m cm]) rfl (l8 _ _) CK97 rfl (aa (nj (q := (n - so)) (ob := 0) _ (H1.g 0 rfl) (by omega) (by omega) (by omega) ((aq _ _ _).stay _ _ hrb fun g hg => H1.keep.block g (by rw [show g = rb from hg]; exact aA hrb) (by rw [show g = rb from hg]; exact (fun h => by rcases h with h | h <;> omega))) (hG.keep H1.keep (fun k hk => by rcases hk with h | h <;> omega)) hn63 (H1.g 1 rfl) hg4 hs4 hne hsg hsr (hr.keep H1.keep fun a ha h => by have := hA a ha; rcases h with h | h <;> omega) hA hnc (by omega) (by omega) (by omega) (by simp only [Nat.min_def]; split <;> omega)) ?_)))))))))
 rintro e w4 ⟨rfl, HS3⟩
 have H5 := H1.ky 0 0 rfl rfl HS3 (fun _ h => h)
 refine ⟨_, rfl, ?_⟩
 have hS6 : (fun w' => True) w4 := trivial
 refine ⟨hS6, ?_⟩
 refine py rfl hS6 (al (v := .tuple #[.i64 (↑(n - so)), .iface 224 (.pointer (some a1))]) rfl) (py rfl hS6 (a7 (v := .i64 (↑(n - so))) rfl rfl) (py rfl hS6 (a7 (v := .iface 224 (.pointer (some a1))) rfl rfl) (py rfl hS6 (aS (v := .i64 (↑(n - so))) rfl) (py rfl hS6 (aS (v := .iface 224 (.pointer (some a1))) rfl) (bj (ac (ae (mi 0 rfl (mi (↑(n - so)) rfl (wv rfl (aT (k := .i64) (c := ↑(n - so)) rfl rfl (by rw [Int.zero_add]; exact aE (by omega) (by omega))) (ai (↑(n - so)) rfl ?_)))))))))))
 refine bl (ao (ac (cw (ad (sr (mi (↑(n - so)) rfl (mi (↑m) rfl (wv rfl (aZ rfl rfl (decide_eq_true (by omega))) (mv (.bool true) rfl (aP rfl rfl (al (v := .iface 224 (.pointer (some a1))) rfl) (aP rfl rfl ((dq bq rfl (.inr ⟨_, _, rfl⟩) : Yv _ _ _ _ (.bool false) _)) ?_)))))))))))
 refine wv rfl (aD (b := true) (v := .bool false) rfl rfl) (wn (aj rfl (bF (a8 (a8 (aY (ac (ad (sr (mi (↑(n - so)) rfl (mi (↑m) rfl ?_)))))))))))
 refine wv rfl (dX rfl rfl (decide_eq_false (by omega))) (wn (aj rfl (sr (mi (↑(n - so)) rfl (wv rfl (bN rfl rfl (decide_eq_true (by omega))) (mv (.bool true) rfl (aP rfl rfl (al (v := .iface 224 (.pointer (some a1))) rfl) (aP rfl rfl (ah fx rfl (H5.keep.cell (hG.2) ((fun h => by rcases h with h | h <;> simp at h <;> omega)))) (aP rfl rfl (ko fo rfl rfl) (wv rfl (aD (b := true) (v := .bool true) rfl rfl) (wn ?_)))))))))))
 refine ay rfl (ae (wv rfl (ah fx rfl (H5.keep.cell (hG.1) ((fun h => by rcases h with h | h <;> simp at h <;> omega)))) (av (.iface 224 (.pointer (some a0))) rfl (wn (aQ ?_)))))
 exact ⟨.inr rfl, _, r2 (.i64 (↑(n - so))) (.iface 224 (.pointer (some a0))) rfl _ _, ⟨_, _, _, rfl, H5.sub (List.nil_sublist _)⟩⟩
theorem sj {sb rb gb m cm n c so : Nat} {A : Option Addr} {i p base lim sn : Int} {cs : List Value} {Tb : TypeId} {xs : List Int} {a0 a1 : Addr} (w : World) (hsb : (aq sb [.iface 109 (.pt rb), .i64 base, .i64 (↑so), .i64 lim, .i64 sn] 195).φ w) (hl1 : (↑so : Int) < lim) (hl2 : (↑so : Int) + ↑m ≤ lim) (hl3 : lim ≤ 9223372036854775807) (hrb : (aq rb [.slice A n c, .i64 i, .i64 p] 190).φ w) (hG : Glob 224 w a0 a1) (hn63 : n ≤ 9223372036854775807) (hgb : (aq gb cs Tb).φ w) (hg4 : 4 ≤ gb) (hs4 : 4 ≤ sb) (hne : rb ≠ gb) (hsg : sb ≠ gb) (hsr : rb ≠ sb) (hr : RI .u8 w A n xs) (hA : ∀ a, A = some a → a.block ≠ gb ∧ a.block ≠ sb) (hnc : n ≤ c) (hm : cs.length = m) (hm0 : 0 < m) (hm63 : m ≤ 9223372036854775807) (hcm : m ≤ cm) (ho : n < so + m) (hon : so < n) :
 Calls Tryd.prog 65 #[.iface 133 (.pt sb), .sl gb 0 m cm] w fun e w' => ∃ x T v, e = .returned (.tuple #[x, .iface T v]) ∧ St w (fun k => k = sb ∨ k = gb) [] w' := by
 refine a5 (args := [.iface 133 (.pt sb), .sl gb 0 m cm]) Tryd.func65 rfl rfl rfl ?_
 have H0 := trivial
 refine sr (ai 0 rfl (av (.nilIface) rfl (wn (sr (mv (.iface 133 (.pt sb)) rfl (ms gb 0 m cm rfl (ms gb 0 m cm rfl (wv rfl (ba co rfl) (wE [.iface 133 (.pt sb), .sl gb 0 m cm, .i64 (↑m)] vv rfl rfl (aa (p6 w hsb hl1 hl2 hl3 hrb hG hn63 hgb hg4 hs4 hne hsg hsr hr hA hnc hm hm0 hm63 hcm ho hon) ?_))))))))))
 rintro e w2 ⟨x, T, v, rfl, HS1⟩
 refine ⟨_, rfl, ?_⟩
 refine we x rfl rfl (we (.iface T v) rfl rfl (av x rfl (av (.iface T v) rfl (wn (aQ ?_)))))
 exact ⟨.inr rfl, _, r2 x (.iface T v) rfl _ _, ⟨_, _, _, rfl, HS1⟩⟩
theorem iE {rb gb m cm n c i : Nat} {A : Option Addr} {p : Int} {cs : List Value} {Tb : TypeId} {xs : List Int} {a0 a1 : Addr} (w : World) (hrb : (aq rb [.slice A n c, .i64 (↑i), .i64 (p)] 190).φ w) (hG : Glob 224 w a0 a1) (hn63 : n ≤ 9223372036854775807) (hgb : (aq gb cs Tb).φ w) (hg4 : 4 ≤ gb) (h4 : 4 ≤ rb) (hne : rb ≠ gb) (hr : RI .u8 w A n xs) (hA : ∀ a, A = some a → a.block ≠ rb ∧ a.block ≠ gb) (hnc : n ≤ c) (hm : cs.length = m) (hm0 : 0 < m) (hm63 : m ≤ 9223372036854775807) (hcm : m ≤ cm) (ho : i + m ≤ n) :
 Calls Tryd.prog 65 #[.iface 109 (.pt rb), .sl gb 0 m cm] w fun e w' => e = .returned (.tuple #[.i64 ↑m, .nilIface]) ∧ St w (fun k => k = rb ∨ k = gb) [aq rb [.slice A n c, .i64 (↑i + ↑m), .i64 (-1)] 190, aq gb (nums .u8 ((xs.drop i).take m)) Tb] w' := by
 refine a5 (args := [.iface 109 (.pt rb), .sl gb 0 m cm]) Tryd.func65 rfl rfl rfl ?_
 have H0 := trivial
 refine sr (ai 0 rfl (av (.nilIface) rfl (wn (sr (mv (.iface 109 (.pt rb)) rfl (ms gb 0 m cm rfl (ms gb 0 m cm rfl (wv rfl (ba co rfl) (wE [.iface 109 (.pt rb), .sl gb 0 m cm, .i64 (↑m)] vv rfl rfl (aa (wQ w hrb hG hn63 hgb hg4 h4 hne hr hA hnc (by omega) hm0 hm63 hcm ho) ?_))))))))))
 rintro e w2 ⟨rfl, HS1⟩
 refine ⟨_, rfl, ?_⟩
 refine we (.i64 (↑m)) rfl rfl (we (.nilIface) rfl rfl (ai (↑m) rfl (av (.nilIface) rfl (wn (aQ ?_)))))
 exact ⟨.inr rfl, _, r2 (.i64 (↑m)) (.nilIface) rfl _ _, ⟨rfl, by simpa [List.drop_of_length_le (Nat.le_of_eq hm)] using HS1⟩⟩
theorem vk {rb gb m cm n c i : Nat} {A : Option Addr} {p : Int} {cs : List Value} {Tb : TypeId} {xs : List Int} {a0 a1 : Addr} (w : World) (hrb : (aq rb [.slice A n c, .i64 (↑i), .i64 (p)] 190).φ w) (hG : Glob 224 w a0 a1) (hn63 : n ≤ 9223372036854775807) (hgb : (aq gb cs Tb).φ w) (hg4 : 4 ≤ gb) (h4 : 4 ≤ rb) (hne : rb ≠ gb) (hr : RI .u8 w A n xs) (hA : ∀ a, A = some a → a.block ≠ rb ∧ a.block ≠ gb) (hnc : n ≤ c) (hm : m ≤ cs.length) (hm0 : 0 < m) (hm63 : m ≤ 9223372036854775807) (hcm : m ≤ cm) (ho : n < i + m) :
 Calls Tryd.prog 72 #[.iface 109 (.pt rb), .sl gb 0 m cm, .i64 ↑m] w fun e w' => ∃ x T v, e = .returned (.tuple #[x, .iface T v]) ∧ St w (fun k => k = rb ∨ k = gb) [] w' := by
 rcases Nat.lt_or_ge i n with hi | hi
 · exact ua w hrb hG hn63 hgb hg4 h4 hne hr hA hnc hm hm0 hm63 hcm ho hi
 · exact vj w hrb hG hn63 hgb hg4 h4 hne hr hA hnc hm hm0 hm63 hcm hi
theorem iF {rb gb m cm n c i : Nat} {A : Option Addr} {p : Int} {cs : List Value} {Tb : TypeId} {xs : List Int} {a0 a1 : Addr} (w : World) (hrb : (aq rb [.slice A n c, .i64 (↑i), .i64 (p)] 190).φ w) (hG : Glob 224 w a0 a1) (hn63 : n ≤ 9223372036854775807) (hgb : (aq gb cs Tb).φ w) (hg4 : 4 ≤ gb) (h4 : 4 ≤ rb) (hne : rb ≠ gb) (hr : RI .u8 w A n xs) (hA : ∀ a, A = some a → a.block ≠ rb ∧ a.block ≠ gb) (hnc : n ≤ c) (hm : cs.length = m) (hm0 : 0 < m) (hm63 : m ≤ 9223372036854775807) (hcm : m ≤ cm) (ho : n < i + m) :
 Calls Tryd.prog 65 #[.iface 109 (.pt rb), .sl gb 0 m cm] w fun e w' => ∃ x T v, e = .returned (.tuple #[x, .iface T v]) ∧ St w (fun k => k = rb ∨ k = gb) [] w' := by
 refine a5 (args := [.iface 109 (.pt rb), .sl gb 0 m cm]) Tryd.func65 rfl rfl rfl ?_
 have H0 := trivial
 refine sr (ai 0 rfl (av (.nilIface) rfl (wn (sr (mv (.iface 109 (.pt rb)) rfl (ms gb 0 m cm rfl (ms gb 0 m cm rfl (wv rfl (ba co rfl) (wE [.iface 109 (.pt rb), .sl gb 0 m cm, .i64 (↑m)] vv rfl rfl (aa (vk w hrb hG hn63 hgb hg4 h4 hne hr hA hnc (by omega) hm0 hm63 hcm ho) ?_))))))))))
 rintro e w2 ⟨x, T, v, rfl, HS1⟩
 refine ⟨_, rfl, ?_⟩
 refine we x rfl rfl (we (.iface T v) rfl rfl (av x rfl (av (.iface T v) rfl (wn (aQ ?_)))))
 exact ⟨.inr rfl, _, r2 x (.iface T v) rfl _ _, ⟨_, _, _, rfl, HS1⟩⟩
end Go.Proofs.YtlndedfkgiafhaaDoor
