import Derived.Test.YtlndedfkgiafhaaDoorXAC
set_option linter.unusedVariables false
set_option linter.unusedSimpArgs false
set_option maxRecDepth 100000
set_option maxHeartbeats 4000000
namespace Go.Proofs.YtlndedfkgiafhaaDoor
open Go Go.RowKit Go.Proofs
theorem cb : (Tryd.prog.underlying 43).isSome = true := by kernel_rfl
theorem f9 : Tryd.prog.underlying 2 = some (.int .i64) := by kernel_rfl
theorem kw : Tryd.prog.underlying 3 = some (.int .i64) := by kernel_rfl
theorem eL : (Tryd.prog.underlying 3).isSome = true := by kernel_rfl
theorem i1 : (Tryd.prog.info? 5).map (fun i => (i.zero, i.size, i.bytes)) = some (some (.u8 0), 1, 1) := by kernel_rfl
theorem d8 : ∀ (a : Addr) (w : World), (nilAhead (Tryd.prog.types.size + Made.depth) 109 (.pointer (some a)) "ReadAt").run Tryd.prog w = .ok (some false) w := fun a w => by kernel_rfl
theorem dg : ∀ (a : Addr) (w : World), (method (Tryd.prog.types.size + Made.depth) 133 (.pointer (some a)) "ReadAt").run Tryd.prog w = .ok (98, .pointer (some a)) w := fun a w => by kernel_rfl
theorem oO : aX Tryd.prog 98 := aJ (by kernel_rfl)
theorem fA : ∀ (a : Addr) (w : World), (nilAhead (Tryd.prog.types.size + Made.depth) 133 (.pointer (some a)) "ReadAt").run Tryd.prog w = .ok (some false) w := fun a w => by kernel_rfl
theorem gA : FA 135 3 11 := fa (by kernel_rfl)
theorem fu : cY Tryd.prog 133 := bz (by kernel_rfl)
theorem jF : Tryd.prog.concrete 133 = true := by kernel_rfl
theorem bf : FA 135 0 0 := fa (by kernel_rfl)
theorem fD : FA 129 3 3 := fa (by kernel_rfl)
theorem aM : cY Tryd.prog 43 := bz (by kernel_rfl)
theorem iZ : aX Tryd.prog 50 := aJ (by kernel_rfl)
theorem sw {rb N C off n : Nat} {A : Option Addr} {i p : Int} {xs : List Int} {a0 a1 : Addr} (w : World) (hrb : (aq rb [.slice A N C, .i64 i, .i64 p] 190).φ w) (hG : Glob 224 w a0 a1) (hNC : N ≤ C) (hN : N < 10485760) (hr : RI .u8 w A N xs) (hA : ∀ a, A = some a → a.block < w.heap.size) (hw4 : 4 ≤ w.heap.size) (ho63 : off < 4294967296) (hn : off + n ≤ N) (hon : off < N) :
 Calls Tryd.prog 50 #[.iface 109 (.pt rb), .u64 ↑n, .i64 (↑off)] w fun e w' => ∃ g, e = .returned (.tuple #[.sl g 0 n n, .nilIface]) ∧ w.heap.size ≤ g ∧ St w aW [aq g (nums .u8 ((xs.drop off).take n)) 5] w' := by
 refine a5 (args := [.iface 109 (.pt rb), .u64 (↑n), .i64 (↑off)]) Tryd.func50 rfl rfl rfl ?_
 have H0 := St.nil w aW
 refine sr (av (.ns) rfl (av (.nilIface) rfl (wn (ad (sr (mu (↑n) rfl (wv rfl (an cb f9 rfl (aE (by omega) (by omega))) (wv rfl (aZ rfl rfl (decide_eq_false (by omega))) (mv (.bool false) rfl (aP rfl rfl (al (v := .u64 (↑n)) rfl) (aP rfl rfl (al (v := .u64 (↑n)) rfl) ?_)))))))))))
 refine aP rfl rfl (an cb kw rfl (aE (by omega) (by omega))) (aP rfl rfl (an eL be rfl (a6 (by omega) (by omega))) (aP rfl rfl (bJ rfl rfl (bne_eq_false_iff_eq.2 (by omega))) (wv rfl (aD (b := false) (v := .bool false) rfl rfl) (wn (aj rfl (wk (ad (sr (mu (↑n) rfl (wv rfl (aZ rfl rfl (decide_eq_true (by omega))) (wn ?_)))))))))))
 refine ay rfl (sr (mu (↑n) rfl (wm rfl (bt H0 (n := n) (m := n) cA i1 rfl rfl rfl rfl rfl (by omega) (by omega) (by omega) (fun g1 w2 hgg1 H3 =>  eh g1 0 n n rfl (wn (sr (mv (.iface 109 (.pt rb)) rfl (ms g1 0 n n rfl (mi (↑off) rfl (wm rfl ?_)))))))))))
 refine ei (args := [.sl g1 0 n n, .i64 (↑off)]) rfl (bD _ _) iY rfl ?_
 have hgw : w.heap.size ≤ g1 := Nat.le_trans H0.keep.size hgg1
 have hrl : rb < w.heap.size := aA hrb
 refine aa (gD _ ((aq _ _ _).stay _ _ hrb fun g hg => H3.keep.block g (by rw [show g = rb from hg]; exact aA hrb) (by rw [show g = rb from hg]; exact (aN _))) (hG.keep H3.keep (fun k hk => hk.elim)) (by omega) (H3.g 0 rfl) (by omega) (by omega) (hr.keep H3.keep fun a ha => aN _) (fun a ha => by have := hA a ha; omega) hNC (ob := 0) (m := n) (by rw [List.length_replicate]; omega) (by omega) (by omega) (q := n) (by simp only [Nat.min_def]; split <;> omega)) ?_
 rintro e w5 ⟨rfl, HS4⟩
 have H6 := H3.kx 0 rfl HS4 (fun _ h => h)
 refine ⟨_, rfl, ?_⟩
 refine mv (.tuple #[.i64 (↑n), .nilIface]) rfl (we (.i64 (↑n)) rfl rfl (we (.nilIface) rfl rfl (ai (↑n) rfl (av (.nilIface) rfl (wn (ad (sr (mv (.nilIface) rfl (wv rfl ((nn false bq rfl (.inl rfl))) (wn (aj rfl ?_)))))))))))
 refine wk (sr (ms g1 0 n n rfl (eh g1 0 n n rfl (av (.nilIface) rfl (wn (rq ?_))))))
 exact ⟨.inr rfl, _, r2 (.sl g1 0 n n) (.nilIface) rfl _ _, ⟨_, rfl, hgw, by simpa [nums] using H6⟩⟩
theorem su {rb N C off n : Nat} {A : Option Addr} {i p : Int} {xs : List Int} {a0 a1 : Addr} (w : World) (hrb : (aq rb [.slice A N C, .i64 i, .i64 p] 190).φ w) (hG : Glob 224 w a0 a1) (hNC : N ≤ C) (hN : N < 10485760) (hr : RI .u8 w A N xs) (hA : ∀ a, A = some a → a.block < w.heap.size) (hw4 : 4 ≤ w.heap.size) (ho63 : off < 4294967296) (hn : n = 0) (hon : N ≤ off) :
 Calls Tryd.prog 50 #[.iface 109 (.pt rb), .u64 ↑n, .i64 (↑off)] w fun e w' => ∃ g, e = .returned (.tuple #[.sl g 0 n n, .nilIface]) ∧ w.heap.size ≤ g ∧ St w aW [aq g (nums .u8 ((xs.drop off).take n)) 5] w' := by
 refine a5 (args := [.iface 109 (.pt rb), .u64 (↑n), .i64 (↑off)]) Tryd.func50 rfl rfl rfl ?_
 have H0 := St.nil w aW
 refine sr (av (.ns) rfl (av (.nilIface) rfl (wn (ad (sr (mu (↑n) rfl (wv rfl (an cb f9 rfl (aE (by omega) (by omega))) (wv rfl (aZ rfl rfl (decide_eq_false (by omega))) (mv (.bool false) rfl (aP rfl rfl (al (v := .u64 (↑n)) rfl) (aP rfl rfl (al (v := .u64 (↑n)) rfl) ?_)))))))))))
 refine aP rfl rfl (an cb kw rfl (aE (by omega) (by omega))) (aP rfl rfl (an eL be rfl (a6 (by omega) (by omega))) (aP rfl rfl (bJ rfl rfl (bne_eq_false_iff_eq.2 (by omega))) (wv rfl (aD (b := false) (v := .bool false) rfl rfl) (wn (aj rfl (wk (ad (sr (mu (↑n) rfl (wv rfl (aZ rfl rfl (decide_eq_true (by omega))) (wn ?_)))))))))))
 refine ay rfl (sr (mu (↑n) rfl (wm rfl (bt H0 (n := n) (m := n) cA i1 rfl rfl rfl rfl rfl (by omega) (by omega) (by omega) (fun g1 w2 hgg1 H3 =>  eh g1 0 n n rfl (wn (sr (mv (.iface 109 (.pt rb)) rfl (ms g1 0 n n rfl (mi (↑off) rfl (wm rfl ?_)))))))))))
 refine ei (args := [.sl g1 0 n n, .i64 (↑off)]) rfl (bD _ _) iY rfl ?_
 have hgw : w.heap.size ≤ g1 := Nat.le_trans H0.keep.size hgg1
 have hrl : rb < w.heap.size := aA hrb
 refine aa (eY _ ((aq _ _ _).stay _ _ hrb fun g hg => H3.keep.block g (by rw [show g = rb from hg]; exact aA hrb) (by rw [show g = rb from hg]; exact (aN _))) (hG.keep H3.keep (fun k hk => hk.elim)) (by omega) (by omega) _) ?_
 rintro e w5 ⟨rfl, HS4⟩
 have H6 := H3.cal0 HS4
 refine ⟨_, rfl, ?_⟩
 refine mv (.tuple #[.i64 0, .iface 224 (.pointer (some a1))]) rfl (we (.i64 0) rfl rfl (we (.iface 224 (.pointer (some a1))) rfl rfl (ai 0 rfl (av (.iface 224 (.pointer (some a1))) rfl (wn (ad (sr (mv (.iface 224 (.pointer (some a1))) rfl (wv rfl ((nn true bq rfl (.inr ⟨_, _, rfl⟩))) (wn (ay rfl ?_)))))))))))
 refine sr (mv (.iface 224 (.pointer (some a1))) rfl (wv rfl (ah fx rfl (H6.keep.cell (hG.2) (aN _))) (wv rfl (ex fo rfl rfl) (mv (.bool false) rfl (aP rfl rfl (al (v := .u64 (↑n)) rfl) (aP rfl rfl (bN rfl rfl (decide_eq_false (by omega))) (wv rfl (aD (b := false) (v := .bool false) rfl rfl) (wn (aj rfl (wk (sr ?_)))))))))))
 refine ms g1 0 n n rfl (eh g1 0 n n rfl (av (.nilIface) rfl (wn (rq ?_))))
 exact ⟨.inr rfl, _, r2 (.sl g1 0 n n) (.nilIface) rfl _ _, ⟨_, rfl, hgw, by subst hn; simpa [nums] using H6⟩⟩
theorem sv {rb N C off n : Nat} {A : Option Addr} {i p : Int} {xs : List Int} {a0 a1 : Addr} (w : World) (hrb : (aq rb [.slice A N C, .i64 i, .i64 p] 190).φ w) (hG : Glob 224 w a0 a1) (hNC : N ≤ C) (hN : N < 10485760) (hr : RI .u8 w A N xs) (hA : ∀ a, A = some a → a.block < w.heap.size) (hw4 : 4 ≤ w.heap.size) (ho63 : off < 4294967296) (hn : 9223372036854775808 ≤ n) (hn64 : n < 18446744073709551616) :
 Calls Tryd.prog 50 #[.iface 109 (.pt rb), .u64 ↑n, .i64 (↑off)] w fun e w' => ∃ T v, e = .returned (.tuple #[.ns, .iface T v]) ∧ St w aW [] w' := by
 refine a5 (args := [.iface 109 (.pt rb), .u64 (↑n), .i64 (↑off)]) Tryd.func50 rfl rfl rfl ?_
 have H0 := St.nil w aW
 refine sr (av (.ns) rfl (av (.nilIface) rfl (wn (ad (sr (mu (↑n) rfl (wv rfl (an (c := ↑n - 18446744073709551616) cb f9 rfl (by rw [IntKind.wrap_i64]; omega)) (wv rfl (aZ rfl rfl (decide_eq_true (by omega))) (mv (.bool true) rfl (cM rfl rfl (cM rfl rfl ?_)))))))))))
 refine cM rfl rfl (cM rfl rfl (cM rfl rfl (wv rfl (aD (b := true) (v := .bool true) rfl rfl) (wn (ay rfl (ad (bC MX (fun w' => w'.cell? ⟨0, 0, none⟩ = some (.iface 224 (.pointer (some a0)))) (tp 0 3 Plan.done) (by kernel_rfl) ?_)))))))
 have H1 := H0.drew
 have hS2 : (fun w' => w'.cell? ⟨0, 0, none⟩ = some (.iface 224 (.pointer (some a0)))) w.drew := H1.keep.cell (hG.1) (aN _)
 refine ph rfl hS2 (fun hS => ah fx rfl hS) (py rfl hS2 (aS (v := .ns) rfl) (py rfl hS2 (aS (v := .iface 224 (.pointer (some a0))) rfl) (bj (ac (rq ?_)))))
 exact ⟨.inr rfl, _, r2 (.ns) (.iface 224 (.pointer (some a0))) rfl _ _, ⟨_, _, rfl, H1.sub (List.nil_sublist _)⟩⟩
theorem p5 {rb N C off n : Nat} {A : Option Addr} {i p : Int} {xs : List Int} {a0 a1 : Addr} (w : World) (hrb : (aq rb [.slice A N C, .i64 i, .i64 p] 190).φ w) (hG : Glob 224 w a0 a1) (hNC : N ≤ C) (hN : N < 10485760) (hr : RI .u8 w A N xs) (hA : ∀ a, A = some a → a.block < w.heap.size) (hw4 : 4 ≤ w.heap.size) (ho63 : off < 4294967296) (hn : n < 10485760) (ho : N < off + n) (hon : off < N) :
 Calls Tryd.prog 50 #[.iface 109 (.pt rb), .u64 ↑n, .i64 (↑off)] w fun e w' => ∃ T v, e = .returned (.tuple #[.ns, .iface T v]) ∧ St w aW [] w' := by
 refine a5 (args := [.iface 109 (.pt rb), .u64 (↑n), .i64 (↑off)]) Tryd.func50 rfl rfl rfl ?_
 have H0 := St.nil w aW
 refine sr (av (.ns) rfl (av (.nilIface) rfl (wn (ad (sr (mu (↑n) rfl (wv rfl (an cb f9 rfl (aE (by omega) (by omega))) (wv rfl (aZ rfl rfl (decide_eq_false (by omega))) (mv (.bool false) rfl (aP rfl rfl (al (v := .u64 (↑n)) rfl) (aP rfl rfl (al (v := .u64 (↑n)) rfl) ?_)))))))))))
 refine aP rfl rfl (an cb kw rfl (aE (by omega) (by omega))) (aP rfl rfl (an eL be rfl (a6 (by omega) (by omega))) (aP rfl rfl (bJ rfl rfl (bne_eq_false_iff_eq.2 (by omega))) (wv rfl (aD (b := false) (v := .bool false) rfl rfl) (wn (aj rfl (wk (ad (sr (mu (↑n) rfl (wv rfl (aZ rfl rfl (decide_eq_true (by omega))) (wn ?_)))))))))))
 refine ay rfl (sr (mu (↑n) rfl (wm rfl (bt H0 (n := n) (m := n) cA i1 rfl rfl rfl rfl rfl (by omega) (by omega) (by omega) (fun g1 w2 hgg1 H3 =>  eh g1 0 n n rfl (wn (sr (mv (.iface 109 (.pt rb)) rfl (ms g1 0 n n rfl (mi (↑off) rfl (wm rfl ?_)))))))))))
 refine ei (args := [.sl g1 0 n n, .i64 (↑off)]) rfl (bD _ _) iY rfl ?_
 have hgw : w.heap.size ≤ g1 := Nat.le_trans H0.keep.size hgg1
 have hrl : rb < w.heap.size := aA hrb
 refine aa (dU _ ((aq _ _ _).stay _ _ hrb fun g hg => H3.keep.block g (by rw [show g = rb from hg]; exact aA hrb) (by rw [show g = rb from hg]; exact (aN _))) (hG.keep H3.keep (fun k hk => hk.elim)) (by omega) (H3.g 0 rfl) (by omega) (by omega) (hr.keep H3.keep fun a ha => aN _) (fun a ha => by have := hA a ha; omega) hNC (ob := 0) (m := n) (by rw [List.length_replicate]; omega) (by omega) (by omega) (q := (N - off)) (by simp only [Nat.min_def]; split <;> omega)) ?_
 rintro e w5 ⟨rfl, HS4⟩
 have H6 := H3.kx 0 rfl HS4 (fun _ h => h)
 refine ⟨_, rfl, ?_⟩
 refine mv (.tuple #[.i64 (↑(N - off)), .iface 224 (.pointer (some a1))]) rfl (we (.i64 (↑(N - off))) rfl rfl (we (.iface 224 (.pointer (some a1))) rfl rfl (ai (↑(N - off)) rfl (av (.iface 224 (.pointer (some a1))) rfl (wn (ad (sr (mv (.iface 224 (.pointer (some a1))) rfl (wv rfl ((nn true bq rfl (.inr ⟨_, _, rfl⟩))) (wn (ay rfl ?_)))))))))))
 refine sr (mv (.iface 224 (.pointer (some a1))) rfl (wv rfl (ah fx rfl (H6.keep.cell (hG.2) (aN _))) (wv rfl (ex fo rfl rfl) (mv (.bool false) rfl (aP rfl rfl (al (v := .u64 (↑n)) rfl) (aP rfl rfl (bN rfl rfl (decide_eq_true (by omega))) (wv rfl (aD (b := false) (v := .bool true) rfl rfl) (wn (ay rfl (sr (mv (.iface 224 (.pointer (some a1))) rfl ?_)))))))))))
 refine av (.ns) rfl (av (.iface 224 (.pointer (some a1))) rfl (wn (rq (ax ?_))))
 exact ⟨.inr rfl, _, r2 (.ns) (.iface 224 (.pointer (some a1))) rfl _ _, ⟨_, _, rfl, H6.sub (List.nil_sublist _)⟩⟩
theorem tZ {rb N C off n : Nat} {A : Option Addr} {i p : Int} {xs : List Int} {a0 a1 : Addr} (w : World) (hrb : (aq rb [.slice A N C, .i64 i, .i64 p] 190).φ w) (hG : Glob 224 w a0 a1) (hNC : N ≤ C) (hN : N < 10485760) (hr : RI .u8 w A N xs) (hA : ∀ a, A = some a → a.block < w.heap.size) (hw4 : 4 ≤ w.heap.size) (ho63 : off < 4294967296) (hn : n < 10485760) (h0 : 0 < n) (hon : N ≤ off) :
 Calls Tryd.prog 50 #[.iface 109 (.pt rb), .u64 ↑n, .i64 (↑off)] w fun e w' => ∃ T v, e = .returned (.tuple #[.ns, .iface T v]) ∧ St w aW [] w' := by
 refine a5 (args := [.iface 109 (.pt rb), .u64 (↑n), .i64 (↑off)]) Tryd.func50 rfl rfl rfl ?_
 have H0 := St.nil w aW
 refine sr (av (.ns) rfl (av (.nilIface) rfl (wn (ad (sr (mu (↑n) rfl (wv rfl (an cb f9 rfl (aE (by omega) (by omega))) (wv rfl (aZ rfl rfl (decide_eq_false (by omega))) (mv (.bool false) rfl (aP rfl rfl (al (v := .u64 (↑n)) rfl) (aP rfl rfl (al (v := .u64 (↑n)) rfl) ?_)))))))))))
 refine aP rfl rfl (an cb kw rfl (aE (by omega) (by omega))) (aP rfl rfl (an eL be rfl (a6 (by omega) (by omega))) (aP rfl rfl (bJ rfl rfl (bne_eq_false_iff_eq.2 (by omega))) (wv rfl (aD (b := false) (v := .bool false) rfl rfl) (wn (aj rfl (wk (ad (sr (mu (↑n) rfl (wv rfl (aZ rfl rfl (decide_eq_true (by omega))) (wn ?_)))))))))))
 refine ay rfl (sr (mu (↑n) rfl (wm rfl (bt H0 (n := n) (m := n) cA i1 rfl rfl rfl rfl rfl (by omega) (by omega) (by omega) (fun g1 w2 hgg1 H3 =>  eh g1 0 n n rfl (wn (sr (mv (.iface 109 (.pt rb)) rfl (ms g1 0 n n rfl (mi (↑off) rfl (wm rfl ?_)))))))))))
 refine ei (args := [.sl g1 0 n n, .i64 (↑off)]) rfl (bD _ _) iY rfl ?_
 have hgw : w.heap.size ≤ g1 := Nat.le_trans H0.keep.size hgg1
 have hrl : rb < w.heap.size := aA hrb
 refine aa (eY _ ((aq _ _ _).stay _ _ hrb fun g hg => H3.keep.block g (by rw [show g = rb from hg]; exact aA hrb) (by rw [show g = rb from hg]; exact (aN _))) (hG.keep H3.keep (fun k hk => hk.elim)) (by omega) (by omega) _) ?_
 rintro e w5 ⟨rfl, HS4⟩
 have H6 := H3.cal0 HS4
 refine ⟨_, rfl, ?_⟩
 refine mv (.tuple #[.i64 0, .iface 224 (.pointer (some a1))]) rfl (we (.i64 0) rfl rfl (we (.iface 224 (.pointer (some a1))) rfl rfl (ai 0 rfl (av (.iface 224 (.pointer (some a1))) rfl (wn (ad (sr (mv (.iface 224 (.pointer (some a1))) rfl (wv rfl ((nn true bq rfl (.inr ⟨_, _, rfl⟩))) (wn (ay rfl ?_)))))))))))
 refine sr (mv (.iface 224 (.pointer (some a1))) rfl (wv rfl (ah fx rfl (H6.keep.cell (hG.2) (aN _))) (wv rfl (ex fo rfl rfl) (mv (.bool false) rfl (aP rfl rfl (al (v := .u64 (↑n)) rfl) (aP rfl rfl (bN rfl rfl (decide_eq_true (by omega))) (wv rfl (aD (b := false) (v := .bool true) rfl rfl) (wn (ay rfl (sr (mv (.iface 224 (.pointer (some a1))) rfl ?_)))))))))))
 refine av (.ns) rfl (av (.iface 224 (.pointer (some a1))) rfl (wn (rq (ax ?_))))
 exact ⟨.inr rfl, _, r2 (.ns) (.iface 224 (.pointer (some a1))) rfl _ _, ⟨_, _, rfl, H6.sub (List.nil_sublist _)⟩⟩
theorem lJ {rb N C off n : Nat} {A : Option Addr} {i p : Int} {xs : List Int} {a0 a1 : Addr} (w : World) (hrb : (aq rb [.slice A N C, .i64 i, .i64 p] 190).φ w) (hG : Glob 224 w a0 a1) (hNC : N ≤ C) (hN : N < 10485760) (hr : RI .u8 w A N xs) (hA : ∀ a, A = some a → a.block < w.heap.size) (hw4 : 4 ≤ w.heap.size) (ho63 : off < 4294967296) (hn : 10485760 < n) (hn63 : n < 9223372036854775808) (hon : off < N) :
 Calls Tryd.prog 50 #[.iface 109 (.pt rb), .u64 ↑n, .i64 (↑off)] w fun e w' => ∃ T v, e = .returned (.tuple #[.ns, .iface T v]) ∧ St w aW [] w' := by
 refine a5 (args := [.iface 109 (.pt rb), .u64 (↑n), .i64 (↑off)]) Tryd.func50 rfl rfl rfl ?_
 have H0 := St.nil w aW
 refine sr (av (.ns) rfl (av (.nilIface) rfl (wn (ad (sr (mu (↑n) rfl (wv rfl (an cb f9 rfl (aE (by omega) (by omega))) (wv rfl (aZ rfl rfl (decide_eq_false (by omega))) (mv (.bool false) rfl (aP rfl rfl (al (v := .u64 (↑n)) rfl) (aP rfl rfl (al (v := .u64 (↑n)) rfl) ?_)))))))))))
 refine aP rfl rfl (an cb kw rfl (aE (by omega) (by omega))) (aP rfl rfl (an eL be rfl (a6 (by omega) (by omega))) (aP rfl rfl (bJ rfl rfl (bne_eq_false_iff_eq.2 (by omega))) (wv rfl (aD (b := false) (v := .bool false) rfl rfl) (wn (aj rfl (wk (ad (sr (mu (↑n) rfl (wv rfl (aZ rfl rfl (decide_eq_false (by omega))) (wn ?_)))))))))))
 refine aj rfl (wk (sr (av (.ns) rfl (wn (sr (wm rfl (bt H0 (n := 10485760) (m := 10485760) cA i1 rfl rfl rfl rfl rfl (by omega) (by omega) (by omega) (fun g1 w2 hgg1 H3 =>  eh g1 0 10485760 10485760 rfl (wn (ad (aC ?_)))))))))))
 refine du 1 (cw (ad (sr (mu (↑n) rfl (wv rfl (bN rfl rfl (decide_eq_true (by omega))) (wn (ay rfl (wk (aC (sr (mu (↑n) rfl ?_)))))))))))
 refine au (↑n) rfl (wn (ad (sr (mu (↑n) rfl (wv rfl (bN rfl rfl (decide_eq_true (by omega))) (wn (ay rfl (ae (au 10485760 rfl (wn (ad ?_)))))))))))
 refine bC MX (fun w' => True) (tp 0 8 (Plan.run 8 (tp 9 5 Plan.done))) (by kernel_rfl) ?_
 have H4 := H3.drew
 have hS5 : (fun w' => True) w2.drew := trivial
 refine py rfl hS5 (al (v := .iface 109 (.pt rb)) rfl) (py rfl hS5 (al (v := .sl g1 0 10485760 10485760) rfl) (py rfl hS5 (al (v := .u64 10485760) rfl) (pt rfl hS5 (fun _ hS => (am (l := 0) (h := 10485760) aU rfl bn (bs rfl (by omega) rfl) (by omega) (by omega) (by omega) rfl : Yv _ _ _ _ (.sl g1 0 10485760 10485760) _)) (py rfl hS5 (al (v := .i64 (↑off)) rfl) (py rfl hS5 (n7 (vs := [.iface 109 (.pt rb)]) rfl rfl) (py rfl hS5 (bd rfl (d8 _ _)) (py rfl hS5 (al (v := .iface 109 (.pt rb)) rfl) (pr rfl (ei (args := [.sl g1 0 10485760 10485760, .i64 (↑off)]) rfl (bD _ _) iY rfl ?_)))))))))
 have hgw : w.heap.size ≤ g1 := Nat.le_trans H0.keep.size hgg1
 have hrl : rb < w.heap.size := aA hrb
 refine aa (dU _ ((aq _ _ _).stay _ _ hrb fun g hg => H4.keep.block g (by rw [show g = rb from hg]; exact aA hrb) (by rw [show g = rb from hg]; exact (aN _))) (hG.keep H4.keep (fun k hk => hk.elim)) (by omega) (H4.g 0 rfl) (by omega) (by omega) (hr.keep H4.keep fun a ha => aN _) (fun a ha => by have := hA a ha; omega) hNC (ob := 0) (m := 10485760) (by rw [List.length_replicate]; omega) (by omega) (by omega) (q := (N - off)) (by simp only [Nat.min_def]; split <;> omega)) ?_
 rintro e w7 ⟨rfl, HS6⟩
 have H8 := H4.kx 0 rfl HS6 (fun _ h => h)
 refine ⟨_, rfl, ?_⟩
 have hS9 : (fun w' => True) w7 := trivial
 refine ⟨hS9, ?_⟩
 refine py rfl hS9 (al (v := .tuple #[.i64 (↑(N - off)), .iface 224 (.pointer (some a1))]) rfl) (py rfl hS9 (a7 (v := .i64 (↑(N - off))) rfl rfl) (py rfl hS9 (a7 (v := .iface 224 (.pointer (some a1))) rfl rfl) (py rfl hS9 (aS (v := .i64 (↑(N - off))) rfl) (py rfl hS9 (aS (v := .iface 224 (.pointer (some a1))) rfl) (bj (ac (ad (sr (mv (.iface 224 (.pointer (some a1))) rfl (wv rfl ((nn true bq rfl (.inr ⟨_, _, rfl⟩))) (wn ?_)))))))))))
 refine ay rfl (sr (mv (.iface 224 (.pointer (some a1))) rfl (av (.ns) rfl (av (.iface 224 (.pointer (some a1))) rfl (wn (rq (aB (ax (aB (ax ?_))))))))))
 exact ⟨.inr rfl, _, r2 (.ns) (.iface 224 (.pointer (some a1))) rfl _ _, ⟨_, _, rfl, H8.sub (List.nil_sublist _)⟩⟩
theorem lV {rb N C off n : Nat} {A : Option Addr} {i p : Int} {xs : List Int} {a0 a1 : Addr} (w : World) (hrb : (aq rb [.slice A N C, .i64 i, .i64 p] 190).φ w) (hG : Glob 224 w a0 a1) (hNC : N ≤ C) (hN : N < 10485760) (hr : RI .u8 w A N xs) (hA : ∀ a, A = some a → a.block < w.heap.size) (hw4 : 4 ≤ w.heap.size) (ho63 : off < 4294967296) (hn : n = 10485760) (hon : off < N) :
 Calls Tryd.prog 50 #[.iface 109 (.pt rb), .u64 ↑n, .i64 (↑off)] w fun e w' => ∃ T v, e = .returned (.tuple #[.ns, .iface T v]) ∧ St w aW [] w' := by
 refine a5 (args := [.iface 109 (.pt rb), .u64 (↑n), .i64 (↑off)]) Tryd.func50 rfl rfl rfl ?_
 have H0 := St.nil w aW
 refine sr (av (.ns) rfl (av (.nilIface) rfl (wn (ad (sr (mu (↑n) rfl (wv rfl (an cb f9 rfl (aE (by omega) (by omega))) (wv rfl (aZ rfl rfl (decide_eq_false (by omega))) (mv (.bool false) rfl (aP rfl rfl (al (v := .u64 (↑n)) rfl) (aP rfl rfl (al (v := .u64 (↑n)) rfl) ?_)))))))))))
 refine aP rfl rfl (an cb kw rfl (aE (by omega) (by omega))) (aP rfl rfl (an eL be rfl (a6 (by omega) (by omega))) (aP rfl rfl (bJ rfl rfl (bne_eq_false_iff_eq.2 (by omega))) (wv rfl (aD (b := false) (v := .bool false) rfl rfl) (wn (aj rfl (wk (ad (sr (mu (↑n) rfl (wv rfl (aZ rfl rfl (decide_eq_false (by omega))) (wn ?_)))))))))))
 refine aj rfl (wk (sr (av (.ns) rfl (wn (sr (wm rfl (bt H0 (n := 10485760) (m := 10485760) cA i1 rfl rfl rfl rfl rfl (by omega) (by omega) (by omega) (fun g1 w2 hgg1 H3 =>  eh g1 0 10485760 10485760 rfl (wn (ad (aC ?_)))))))))))
 refine du 1 (cw (ad (sr (mu (↑n) rfl (wv rfl (bN rfl rfl (decide_eq_true (by omega))) (wn (ay rfl (wk (aC (sr (mu (↑n) rfl ?_)))))))))))
 refine au (↑n) rfl (wn (ad (sr (mu (↑n) rfl (wv rfl (bN rfl rfl (decide_eq_false (by omega))) (wn (aj rfl (wk (ad (bC MX (fun w' => True) (tp 0 8 (Plan.run 8 (tp 9 5 Plan.done))) (by kernel_rfl) ?_))))))))))
 have H4 := H3.drew
 have hS5 : (fun w' => True) w2.drew := trivial
 refine py rfl hS5 (al (v := .iface 109 (.pt rb)) rfl) (py rfl hS5 (al (v := .sl g1 0 10485760 10485760) rfl) (py rfl hS5 (al (v := .u64 (↑n)) rfl) (pt rfl hS5 (fun _ hS => (am (l := 0) (h := n) aU rfl bn (bs rfl (by omega) (Int.toNat_natCast _)) (by omega) (by omega) (by omega) rfl : Yv _ _ _ _ (.sl g1 0 n 10485760) _)) (py rfl hS5 (al (v := .i64 (↑off)) rfl) (py rfl hS5 (n7 (vs := [.iface 109 (.pt rb)]) rfl rfl) (py rfl hS5 (bd rfl (d8 _ _)) (py rfl hS5 (al (v := .iface 109 (.pt rb)) rfl) (pr rfl (ei (args := [.sl g1 0 n 10485760, .i64 (↑off)]) rfl (bD _ _) iY rfl ?_)))))))))
 have hgw : w.heap.size ≤ g1 := Nat.le_trans H0.keep.size hgg1
 have hrl : rb < w.heap.size := aA hrb
 refine aa (dU _ ((aq _ _ _).stay _ _ hrb fun g hg => H4.keep.block g (by rw [show g = rb from hg]; exact aA hrb) (by rw [show g = rb from hg]; exact (aN _))) (hG.keep H4.keep (fun k hk => hk.elim)) (by omega) (H4.g 0 rfl) (by omega) (by omega) (hr.keep H4.keep fun a ha => aN _) (fun a ha => by have := hA a ha; omega) hNC (ob := 0) (m := n) (by rw [List.length_replicate]; omega) (by omega) (by omega) (q := (N - off)) (by simp only [Nat.min_def]; split <;> omega)) ?_
 rintro e w7 ⟨rfl, HS6⟩
 have H8 := H4.kx 0 rfl HS6 (fun _ h => h)
 refine ⟨_, rfl, ?_⟩
 have hS9 : (fun w' => True) w7 := trivial
 refine ⟨hS9, ?_⟩
 refine py rfl hS9 (al (v := .tuple #[.i64 (↑(N - off)), .iface 224 (.pointer (some a1))]) rfl) (py rfl hS9 (a7 (v := .i64 (↑(N - off))) rfl rfl) (py rfl hS9 (a7 (v := .iface 224 (.pointer (some a1))) rfl rfl) (py rfl hS9 (aS (v := .i64 (↑(N - off))) rfl) (py rfl hS9 (aS (v := .iface 224 (.pointer (some a1))) rfl) (bj (ac (ad (sr (mv (.iface 224 (.pointer (some a1))) rfl (wv rfl ((nn true bq rfl (.inr ⟨_, _, rfl⟩))) (wn ?_)))))))))))
 refine ay rfl (sr (mv (.iface 224 (.pointer (some a1))) rfl (av (.ns) rfl (av (.iface 224 (.pointer (some a1))) rfl (wn (rq (aB (ax (aB (ax ?_))))))))))
 exact ⟨.inr rfl, _, r2 (.ns) (.iface 224 (.pointer (some a1))) rfl _ _, ⟨_, _, rfl, H8.sub (List.nil_sublist _)⟩⟩
theorem nq {rb N C off n : Nat} {A : Option Addr} {i p : Int} {xs : List Int} {a0 a1 : Addr} (w : World) (hrb : (aq rb [.slice A N C, .i64 i, .i64 p] 190).φ w) (hG : Glob 224 w a0 a1) (hNC : N ≤ C) (hN : N < 10485760) (hr : RI .u8 w A N xs) (hA : ∀ a, A = some a → a.block < w.heap.size) (hw4 : 4 ≤ w.heap.size) (ho63 : off < 4294967296) (hn : 10485760 < n) (hn63 : n < 9223372036854775808) (hon : N ≤ off) :
 Calls Tryd.prog 50 #[.iface 109 (.pt rb), .u64 ↑n, .i64 (↑off)] w fun e w' => ∃ T v, e = .returned (.tuple #[.ns, .iface T v]) ∧ St w aW [] w' := by
 refine a5 (args := [.iface 109 (.pt rb), .u64 (↑n), .i64 (↑off)]) Tryd.func50 rfl rfl rfl ?_
 have H0 := St.nil w aW
 refine sr (av (.ns) rfl (av (.nilIface) rfl (wn (ad (sr (mu (↑n) rfl (wv rfl (an cb f9 rfl (aE (by omega) (by omega))) (wv rfl (aZ rfl rfl (decide_eq_false (by omega))) (mv (.bool false) rfl (aP rfl rfl (al (v := .u64 (↑n)) rfl) (aP rfl rfl (al (v := .u64 (↑n)) rfl) ?_)))))))))))
 refine aP rfl rfl (an cb kw rfl (aE (by omega) (by omega))) (aP rfl rfl (an eL be rfl (a6 (by omega) (by omega))) (aP rfl rfl (bJ rfl rfl (bne_eq_false_iff_eq.2 (by omega))) (wv rfl (aD (b := false) (v := .bool false) rfl rfl) (wn (aj rfl (wk (ad (sr (mu (↑n) rfl (wv rfl (aZ rfl rfl (decide_eq_false (by omega))) (wn ?_)))))))))))
 refine aj rfl (wk (sr (av (.ns) rfl (wn (sr (wm rfl (bt H0 (n := 10485760) (m := 10485760) cA i1 rfl rfl rfl rfl rfl (by omega) (by omega) (by omega) (fun g1 w2 hgg1 H3 =>  eh g1 0 10485760 10485760 rfl (wn (ad (aC ?_)))))))))))
 refine du 1 (cw (ad (sr (mu (↑n) rfl (wv rfl (bN rfl rfl (decide_eq_true (by omega))) (wn (ay rfl (wk (aC (sr (mu (↑n) rfl ?_)))))))))))
 refine au (↑n) rfl (wn (ad (sr (mu (↑n) rfl (wv rfl (bN rfl rfl (decide_eq_true (by omega))) (wn (ay rfl (ae (au 10485760 rfl (wn (ad ?_)))))))))))
 refine bC MX (fun w' => True) (tp 0 8 (Plan.run 8 (tp 9 5 Plan.done))) (by kernel_rfl) ?_
 have H4 := H3.drew
 have hS5 : (fun w' => True) w2.drew := trivial
 refine py rfl hS5 (al (v := .iface 109 (.pt rb)) rfl) (py rfl hS5 (al (v := .sl g1 0 10485760 10485760) rfl) (py rfl hS5 (al (v := .u64 10485760) rfl) (pt rfl hS5 (fun _ hS => (am (l := 0) (h := 10485760) aU rfl bn (bs rfl (by omega) rfl) (by omega) (by omega) (by omega) rfl : Yv _ _ _ _ (.sl g1 0 10485760 10485760) _)) (py rfl hS5 (al (v := .i64 (↑off)) rfl) (py rfl hS5 (n7 (vs := [.iface 109 (.pt rb)]) rfl rfl) (py rfl hS5 (bd rfl (d8 _ _)) (py rfl hS5 (al (v := .iface 109 (.pt rb)) rfl) (pr rfl (ei (args := [.sl g1 0 10485760 10485760, .i64 (↑off)]) rfl (bD _ _) iY rfl ?_)))))))))
 have hgw : w.heap.size ≤ g1 := Nat.le_trans H0.keep.size hgg1
 have hrl : rb < w.heap.size := aA hrb
 refine aa (eY _ ((aq _ _ _).stay _ _ hrb fun g hg => H4.keep.block g (by rw [show g = rb from hg]; exact aA hrb) (by rw [show g = rb from hg]; exact (aN _))) (hG.keep H4.keep (fun k hk => hk.elim)) (by omega) (by omega) _) ?_
 rintro e w7 ⟨rfl, HS6⟩
 have H8 := H4.cal0 HS6
 refine ⟨_, rfl, ?_⟩
 have hS9 : (fun w' => True) w7 := trivial
 refine ⟨hS9, ?_⟩
 refine py rfl hS9 (al (v := .tuple #[.i64 0, .iface 224 (.pointer (some a1))]) rfl) (py rfl hS9 (a7 (v := .i64 0) rfl rfl) (py rfl hS9 (a7 (v := .iface 224 (.pointer (some a1))) rfl rfl) (py rfl hS9 (aS (v := .i64 0) rfl) (py rfl hS9 (aS (v := .iface 224 (.pointer (some a1))) rfl) (bj (ac (ad (sr (mv (.iface 224 (.pointer (some a1))) rfl (wv rfl ((nn true bq rfl (.inr ⟨_, _, rfl⟩))) (wn ?_)))))))))))
 refine ay rfl (sr (mv (.iface 224 (.pointer (some a1))) rfl (av (.ns) rfl (av (.iface 224 (.pointer (some a1))) rfl (wn (rq (aB (ax (aB (ax ?_))))))))))
 exact ⟨.inr rfl, _, r2 (.ns) (.iface 224 (.pointer (some a1))) rfl _ _, ⟨_, _, rfl, H8.sub (List.nil_sublist _)⟩⟩
theorem oH {rb N C off n : Nat} {A : Option Addr} {i p : Int} {xs : List Int} {a0 a1 : Addr} (w : World) (hrb : (aq rb [.slice A N C, .i64 i, .i64 p] 190).φ w) (hG : Glob 224 w a0 a1) (hNC : N ≤ C) (hN : N < 10485760) (hr : RI .u8 w A N xs) (hA : ∀ a, A = some a → a.block < w.heap.size) (hw4 : 4 ≤ w.heap.size) (ho63 : off < 4294967296) (hn : n = 10485760) (hon : N ≤ off) :
 Calls Tryd.prog 50 #[.iface 109 (.pt rb), .u64 ↑n, .i64 (↑off)] w fun e w' => ∃ T v, e = .returned (.tuple #[.ns, .iface T v]) ∧ St w aW [] w' := by
 refine a5 (args := [.iface 109 (.pt rb), .u64 (↑n), .i64 (↑off)]) Tryd.func50 rfl rfl rfl ?_
 have H0 := St.nil w aW
 refine sr (av (.ns) rfl (av (.nilIface) rfl (wn (ad (sr (mu (↑n) rfl (wv rfl (an cb f9 rfl (aE (by omega) (by omega))) (wv rfl (aZ rfl rfl (decide_eq_false (by omega))) (mv (.bool false) rfl (aP rfl rfl (al (v := .u64 (↑n)) rfl) (aP rfl rfl (al (v := .u64 (↑n)) rfl) ?_)))))))))))
 refine aP rfl rfl (an cb kw rfl (aE (by omega) (by omega))) (aP rfl rfl (an eL be rfl (a6 (by omega) (by omega))) (aP rfl rfl (bJ rfl rfl (bne_eq_false_iff_eq.2 (by omega))) (wv rfl (aD (b := false) (v := .bool false) rfl rfl) (wn (aj rfl (wk (ad (sr (mu (↑n) rfl (wv rfl (aZ rfl rfl (decide_eq_false (by omega))) (wn ?_)))))))))))
 refine aj rfl (wk (sr (av (.ns) rfl (wn (sr (wm rfl (bt H0 (n := 10485760) (m := 10485760) cA i1 rfl rfl rfl rfl rfl (by omega) (by omega) (by omega) (fun g1 w2 hgg1 H3 =>  eh g1 0 10485760 10485760 rfl (wn (ad (aC ?_)))))))))))
 refine du 1 (cw (ad (sr (mu (↑n) rfl (wv rfl (bN rfl rfl (decide_eq_true (by omega))) (wn (ay rfl (wk (aC (sr (mu (↑n) rfl ?_)))))))))))
 refine au (↑n) rfl (wn (ad (sr (mu (↑n) rfl (wv rfl (bN rfl rfl (decide_eq_false (by omega))) (wn (aj rfl (wk (ad (bC MX (fun w' => True) (tp 0 8 (Plan.run 8 (tp 9 5 Plan.done))) (by kernel_rfl) ?_))))))))))
 have H4 := H3.drew
 have hS5 : (fun w' => True) w2.drew := trivial
 refine py rfl hS5 (al (v := .iface 109 (.pt rb)) rfl) (py rfl hS5 (al (v := .sl g1 0 10485760 10485760) rfl) (py rfl hS5 (al (v := .u64 (↑n)) rfl) (pt rfl hS5 (fun _ hS => (am (l := 0) (h := n) aU rfl bn (bs rfl (by omega) (Int.toNat_natCast _)) (by omega) (by omega) (by omega) rfl : Yv _ _ _ _ (.sl g1 0 n 10485760) _)) (py rfl hS5 (al (v := .i64 (↑off)) rfl) (py rfl hS5 (n7 (vs := [.iface 109 (.pt rb)]) rfl rfl) (py rfl hS5 (bd rfl (d8 _ _)) (py rfl hS5 (al (v := .iface 109 (.pt rb)) rfl) (pr rfl (ei (args := [.sl g1 0 n 10485760, .i64 (↑off)]) rfl (bD _ _) iY rfl ?_)))))))))
 have hgw : w.heap.size ≤ g1 := Nat.le_trans H0.keep.size hgg1
 have hrl : rb < w.heap.size := aA hrb
 refine aa (eY _ ((aq _ _ _).stay _ _ hrb fun g hg => H4.keep.block g (by rw [show g = rb from hg]; exact aA hrb) (by rw [show g = rb from hg]; exact (aN _))) (hG.keep H4.keep (fun k hk => hk.elim)) (by omega) (by omega) _) ?_
 rintro e w7 ⟨rfl, HS6⟩
 have H8 := H4.cal0 HS6
 refine ⟨_, rfl, ?_⟩
 have hS9 : (fun w' => True) w7 := trivial
 refine ⟨hS9, ?_⟩
 refine py rfl hS9 (al (v := .tuple #[.i64 0, .iface 224 (.pointer (some a1))]) rfl) (py rfl hS9 (a7 (v := .i64 0) rfl rfl) (py rfl hS9 (a7 (v := .iface 224 (.pointer (some a1))) rfl rfl) (py rfl hS9 (aS (v := .i64 0) rfl) (py rfl hS9 (aS (v := .iface 224 (.pointer (some a1))) rfl) (bj (ac (ad (sr (mv (.iface 224 (.pointer (some a1))) rfl (wv rfl ((nn true bq rfl (.inr ⟨_, _, rfl⟩))) (wn ?_)))))))))))
 refine ay rfl (sr (mv (.iface 224 (.pointer (some a1))) rfl (av (.ns) rfl (av (.iface 224 (.pointer (some a1))) rfl (wn (rq (aB (ax (aB (ax ?_))))))))))
 exact ⟨.inr rfl, _, r2 (.ns) (.iface 224 (.pointer (some a1))) rfl _ _, ⟨_, _, rfl, H8.sub (List.nil_sublist _)⟩⟩
theorem ir {rb N C off n : Nat} {A : Option Addr} {i p : Int} {xs : List Int} {a0 a1 : Addr} (w : World) (hrb : (aq rb [.slice A N C, .i64 i, .i64 p] 190).φ w) (hG : Glob 224 w a0 a1) (hNC : N ≤ C) (hN : N < 10485760) (hr : RI .u8 w A N xs) (hA : ∀ a, A = some a → a.block < w.heap.size) (hw4 : 4 ≤ w.heap.size) (ho63 : off < 4294967296) (h : n = 0 ∨ off + n ≤ N) :
 Calls Tryd.prog 50 #[.iface 109 (.pt rb), .u64 ↑n, .i64 (↑off)] w fun e w' => ∃ g, e = .returned (.tuple #[.sl g 0 n n, .nilIface]) ∧ w.heap.size ≤ g ∧ St w aW [aq g (nums .u8 ((xs.drop off).take n)) 5] w' := by
 by_cases hf : off + n ≤ N ∧ off < N
 · exact sw w hrb hG hNC hN hr hA hw4 ho63 hf.1 hf.2
 · exact su w hrb hG hNC hN hr hA hw4 ho63 (by omega) (by omega)
theorem fS {rb N C off n : Nat} {A : Option Addr} {i p : Int} {xs : List Int} {a0 a1 : Addr} (w : World) (hrb : (aq rb [.slice A N C, .i64 i, .i64 p] 190).φ w) (hG : Glob 224 w a0 a1) (hNC : N ≤ C) (hN : N < 10485760) (hr : RI .u8 w A N xs) (hA : ∀ a, A = some a → a.block < w.heap.size) (hw4 : 4 ≤ w.heap.size) (ho63 : off < 4294967296) (h0 : n ≠ 0) (h : N < off + n) (hn64 : n < 18446744073709551616) :
 Calls Tryd.prog 50 #[.iface 109 (.pt rb), .u64 ↑n, .i64 (↑off)] w fun e w' => ∃ T v, e = .returned (.tuple #[.ns, .iface T v]) ∧ St w aW [] w' := by
 by_cases h1 : 9223372036854775808 ≤ n
 · exact sv w hrb hG hNC hN hr hA hw4 ho63 h1 hn64
 by_cases h2 : off < N
 · rcases Nat.lt_trichotomy n 10485760 with h3 | h3 | h3
   · exact p5 w hrb hG hNC hN hr hA hw4 ho63 h3 h h2
   · exact lV w hrb hG hNC hN hr hA hw4 ho63 h3 h2
   · exact lJ w hrb hG hNC hN hr hA hw4 ho63 h3 (by omega) h2
 · rcases Nat.lt_trichotomy n 10485760 with h3 | h3 | h3
   · exact tZ w hrb hG hNC hN hr hA hw4 ho63 h3 (by omega) (by omega)
   · exact oH w hrb hG hNC hN hr hA hw4 ho63 h3 (by omega)
   · exact nq w hrb hG hNC hN hr hA hw4 ho63 h3 (by omega) (by omega)
theorem sq {rb N C off n : Nat} {A : Option Addr} {i p : Int} {xs : List Int} {a0 a1 : Addr} (w : World) (hrb : (aq rb [.slice A N C, .i64 i, .i64 p] 190).φ w) (hG : Glob 224 w a0 a1) (hNC : N ≤ C) (hN : N < 10485760) (hr : RI .u8 w A N xs) (hA : ∀ a, A = some a → a.block < w.heap.size) (hw4 : 4 ≤ w.heap.size) (ho63 : off < 4294967296) {sb : Nat} {so sn lim : Int} (hsb : (aq sb [.iface 109 (.pt rb), .i64 ↑off, .i64 so, .i64 lim, .i64 sn] 195).φ w) (hl : lim = ↑off + ↑n ∨ (lim = 9223372036854775807 ∧ 10485760 ≤ n)) (hl3 : lim ≤ 9223372036854775807) (hn : off + n ≤ N) (h0 : 0 < n) :
 Calls Tryd.prog 50 #[.iface 133 (.pt sb), .u64 ↑n, .i64 0] w fun e w' => ∃ g, e = .returned (.tuple #[.sl g 0 n n, .nilIface]) ∧ w.heap.size ≤ g ∧ St w aW [aq g (nums .u8 ((xs.drop off).take n)) 5] w' := by
 refine a5 (args := [.iface 133 (.pt sb), .u64 (↑n), .i64 0]) Tryd.func50 rfl rfl rfl ?_
 have H0 := St.nil w aW
 refine sr (av (.ns) rfl (av (.nilIface) rfl (wn (ad (sr (mu (↑n) rfl (wv rfl (an cb f9 rfl (aE (by omega) (by omega))) (wv rfl (aZ rfl rfl (decide_eq_false (by omega))) (mv (.bool false) rfl (aP rfl rfl (al (v := .u64 (↑n)) rfl) (aP rfl rfl (al (v := .u64 (↑n)) rfl) ?_)))))))))))
 refine aP rfl rfl (an cb kw rfl (aE (by omega) (by omega))) (aP rfl rfl (an eL be rfl (a6 (by omega) (by omega))) (aP rfl rfl (bJ rfl rfl (bne_eq_false_iff_eq.2 (by omega))) (wv rfl (aD (b := false) (v := .bool false) rfl rfl) (wn (aj rfl (wk (ad (sr (mu (↑n) rfl (wv rfl (aZ rfl rfl (decide_eq_true (by omega))) (wn ?_)))))))))))
 refine ay rfl (sr (mu (↑n) rfl (wm rfl (bt H0 (n := n) (m := n) cA i1 rfl rfl rfl rfl rfl (by omega) (by omega) (by omega) (fun g1 w2 hgg1 H3 =>  eh g1 0 n n rfl (wn (sr (mv (.iface 133 (.pt sb)) rfl (ms g1 0 n n rfl (mi 0 rfl (wm rfl ?_)))))))))))
 refine ei (args := [.sl g1 0 n n, .i64 0]) rfl (dg _ _) oO rfl ?_
 have hgw : w.heap.size ≤ g1 := Nat.le_trans H0.keep.size hgg1
 have hrl : rb < w.heap.size := aA hrb
 have hsl : sb < w.heap.size := aA hsb
 refine aa (tV _ ((aq _ _ _).stay _ _ hsb fun g hg => H3.keep.block g (by rw [show g = sb from hg]; exact aA hsb) (by rw [show g = sb from hg]; exact (aN _))) (by omega) (by omega) hl3 (by omega) ((aq _ _ _).stay _ _ hrb fun g hg => H3.keep.block g (by rw [show g = rb from hg]; exact aA hrb) (by rw [show g = rb from hg]; exact (aN _))) (hG.keep H3.keep (fun k hk => hk.elim)) (by omega) (H3.g 0 rfl) (by omega) (by omega) (hr.keep H3.keep fun a ha => aN _) (fun a ha => by have := hA a ha; omega) hNC (ob := 0) (m := n) (by rw [List.length_replicate]; omega) (by omega) (by omega) (q := n) (by simp only [Nat.min_def]; split <;> omega)) ?_
 rintro e w5 ⟨rfl, HS4⟩
 have H6 := H3.kx 0 rfl HS4 (fun _ h => h)
 refine ⟨_, rfl, ?_⟩
 refine mv (.tuple #[.i64 (↑n), .nilIface]) rfl (we (.i64 (↑n)) rfl rfl (we (.nilIface) rfl rfl (ai (↑n) rfl (av (.nilIface) rfl (wn (ad (sr (mv (.nilIface) rfl (wv rfl ((nn false bq rfl (.inl rfl))) (wn (aj rfl ?_)))))))))))
 refine wk (sr (ms g1 0 n n rfl (eh g1 0 n n rfl (av (.nilIface) rfl (wn (rq ?_))))))
 exact ⟨.inr rfl, _, r2 (.sl g1 0 n n) (.nilIface) rfl _ _, ⟨_, rfl, hgw, by simpa [nums] using H6⟩⟩
theorem sk {rb N C off n : Nat} {A : Option Addr} {i p : Int} {xs : List Int} {a0 a1 : Addr} (w : World) (hrb : (aq rb [.slice A N C, .i64 i, .i64 p] 190).φ w) (hG : Glob 224 w a0 a1) (hNC : N ≤ C) (hN : N < 10485760) (hr : RI .u8 w A N xs) (hA : ∀ a, A = some a → a.block < w.heap.size) (hw4 : 4 ≤ w.heap.size) (ho63 : off < 4294967296) {sb : Nat} {so sn lim : Int} (hsb : (aq sb [.iface 109 (.pt rb), .i64 ↑off, .i64 so, .i64 lim, .i64 sn] 195).φ w) (hl : lim = ↑off + ↑n ∨ (lim = 9223372036854775807 ∧ 10485760 ≤ n)) (hl3 : lim ≤ 9223372036854775807) (hn : n = 0) :
 Calls Tryd.prog 50 #[.iface 133 (.pt sb), .u64 ↑n, .i64 0] w fun e w' => ∃ g, e = .returned (.tuple #[.sl g 0 n n, .nilIface]) ∧ w.heap.size ≤ g ∧ St w aW [aq g (nums .u8 ((xs.drop off).take n)) 5] w' := by
 refine a5 (args := [.iface 133 (.pt sb), .u64 (↑n), .i64 0]) Tryd.func50 rfl rfl rfl ?_
 have H0 := St.nil w aW
 refine sr (av (.ns) rfl (av (.nilIface) rfl (wn (ad (sr (mu (↑n) rfl (wv rfl (an cb f9 rfl (aE (by omega) (by omega))) (wv rfl (aZ rfl rfl (decide_eq_false (by omega))) (mv (.bool false) rfl (aP rfl rfl (al (v := .u64 (↑n)) rfl) (aP rfl rfl (al (v := .u64 (↑n)) rfl) ?_)))))))))))
 refine aP rfl rfl (an cb kw rfl (aE (by omega) (by omega))) (aP rfl rfl (an eL be rfl (a6 (by omega) (by omega))) (aP rfl rfl (bJ rfl rfl (bne_eq_false_iff_eq.2 (by omega))) (wv rfl (aD (b := false) (v := .bool false) rfl rfl) (wn (aj rfl (wk (ad (sr (mu (↑n) rfl (wv rfl (aZ rfl rfl (decide_eq_true (by omega))) (wn ?_)))))))))))
 refine ay rfl (sr (mu (↑n) rfl (wm rfl (bt H0 (n := n) (m := n) cA i1 rfl rfl rfl rfl rfl (by omega) (by omega) (by omega) (fun g1 w2 hgg1 H3 =>  eh g1 0 n n rfl (wn (sr (mv (.iface 133 (.pt sb)) rfl (ms g1 0 n n rfl (mi 0 rfl (wm rfl ?_)))))))))))
 refine ei (args := [.sl g1 0 n n, .i64 0]) rfl (dg _ _) oO rfl ?_
 have hgw : w.heap.size ≤ g1 := Nat.le_trans H0.keep.size hgg1
 have hrl : rb < w.heap.size := aA hrb
 have hsl : sb < w.heap.size := aA hsb
 refine aa (tU _ ((aq _ _ _).stay _ _ hsb fun g hg => H3.keep.block g (by rw [show g = sb from hg]; exact aA hsb) (by rw [show g = sb from hg]; exact (aN _))) (by omega) hl3 (hG.keep H3.keep (fun k hk => hk.elim)) _) ?_
 rintro e w5 ⟨rfl, HS4⟩
 have H6 := H3.cal0 HS4
 refine ⟨_, rfl, ?_⟩
 refine mv (.tuple #[.i64 0, .iface 224 (.pointer (some a1))]) rfl (we (.i64 0) rfl rfl (we (.iface 224 (.pointer (some a1))) rfl rfl (ai 0 rfl (av (.iface 224 (.pointer (some a1))) rfl (wn (ad (sr (mv (.iface 224 (.pointer (some a1))) rfl (wv rfl ((nn true bq rfl (.inr ⟨_, _, rfl⟩))) (wn (ay rfl ?_)))))))))))
 refine sr (mv (.iface 224 (.pointer (some a1))) rfl (wv rfl (ah fx rfl (H6.keep.cell (hG.2) (aN _))) (wv rfl (ex fo rfl rfl) (mv (.bool false) rfl (aP rfl rfl (al (v := .u64 (↑n)) rfl) (aP rfl rfl (bN rfl rfl (decide_eq_false (by omega))) (wv rfl (aD (b := false) (v := .bool false) rfl rfl) (wn (aj rfl (wk (sr ?_)))))))))))
 refine ms g1 0 n n rfl (eh g1 0 n n rfl (av (.nilIface) rfl (wn (rq ?_))))
 exact ⟨.inr rfl, _, r2 (.sl g1 0 n n) (.nilIface) rfl _ _, ⟨_, rfl, hgw, by subst hn; simpa [nums] using H6⟩⟩
theorem sm {rb N C off n : Nat} {A : Option Addr} {i p : Int} {xs : List Int} {a0 a1 : Addr} (w : World) (hrb : (aq rb [.slice A N C, .i64 i, .i64 p] 190).φ w) (hG : Glob 224 w a0 a1) (hNC : N ≤ C) (hN : N < 10485760) (hr : RI .u8 w A N xs) (hA : ∀ a, A = some a → a.block < w.heap.size) (hw4 : 4 ≤ w.heap.size) (ho63 : off < 4294967296) {sb : Nat} {so sn lim : Int} (hsb : (aq sb [.iface 109 (.pt rb), .i64 ↑off, .i64 so, .i64 lim, .i64 sn] 195).φ w) (hl : lim = ↑off + ↑n ∨ (lim = 9223372036854775807 ∧ 10485760 ≤ n)) (hl3 : lim ≤ 9223372036854775807) (hn : 9223372036854775808 ≤ n) (hn64 : n < 18446744073709551616) :
 Calls Tryd.prog 50 #[.iface 133 (.pt sb), .u64 ↑n, .i64 0] w fun e w' => ∃ T v, e = .returned (.tuple #[.ns, .iface T v]) ∧ St w aW [] w' := by
 refine a5 (args := [.iface 133 (.pt sb), .u64 (↑n), .i64 0]) Tryd.func50 rfl rfl rfl ?_
 have H0 := St.nil w aW
 refine sr (av (.ns) rfl (av (.nilIface) rfl (wn (ad (sr (mu (↑n) rfl (wv rfl (an (c := ↑n - 18446744073709551616) cb f9 rfl (by rw [IntKind.wrap_i64]; omega)) (wv rfl (aZ rfl rfl (decide_eq_true (by omega))) (mv (.bool true) rfl (cM rfl rfl (cM rfl rfl ?_)))))))))))
 refine cM rfl rfl (cM rfl rfl (cM rfl rfl (wv rfl (aD (b := true) (v := .bool true) rfl rfl) (wn (ay rfl (ad (bC MX (fun w' => w'.cell? ⟨0, 0, none⟩ = some (.iface 224 (.pointer (some a0)))) (tp 0 3 Plan.done) (by kernel_rfl) ?_)))))))
 have H1 := H0.drew
 have hS2 : (fun w' => w'.cell? ⟨0, 0, none⟩ = some (.iface 224 (.pointer (some a0)))) w.drew := H1.keep.cell (hG.1) (aN _)
 refine ph rfl hS2 (fun hS => ah fx rfl hS) (py rfl hS2 (aS (v := .ns) rfl) (py rfl hS2 (aS (v := .iface 224 (.pointer (some a0))) rfl) (bj (ac (rq ?_)))))
 exact ⟨.inr rfl, _, r2 (.ns) (.iface 224 (.pointer (some a0))) rfl _ _, ⟨_, _, rfl, H1.sub (List.nil_sublist _)⟩⟩
theorem p4 {rb N C off n : Nat} {A : Option Addr} {i p : Int} {xs : List Int} {a0 a1 : Addr} (w : World) (hrb : (aq rb [.slice A N C, .i64 i, .i64 p] 190).φ w) (hG : Glob 224 w a0 a1) (hNC : N ≤ C) (hN : N < 10485760) (hr : RI .u8 w A N xs) (hA : ∀ a, A = some a → a.block < w.heap.size) (hw4 : 4 ≤ w.heap.size) (ho63 : off < 4294967296) {sb : Nat} {so sn lim : Int} (hsb : (aq sb [.iface 109 (.pt rb), .i64 ↑off, .i64 so, .i64 lim, .i64 sn] 195).φ w) (hl : lim = ↑off + ↑n ∨ (lim = 9223372036854775807 ∧ 10485760 ≤ n)) (hl3 : lim ≤ 9223372036854775807) (hn : n < 10485760) (ho : N < off + n) (hon : off < N) :
 Calls Tryd.prog 50 #[.iface 133 (.pt sb), .u64 ↑n, .i64 0] w fun e w' => ∃ T v, e = .returned (.tuple #[.ns, .iface T v]) ∧ St w aW [] w' := by
 refine a5 (args := [.iface 133 (.pt sb), .u64 (↑n), .i64 0]) Tryd.func50 rfl rfl rfl ?_
 have H0 := St.nil w aW
 refine sr (av (.ns) rfl (av (.nilIface) rfl (wn (ad (sr (mu (↑n) rfl (wv rfl (an cb f9 rfl (aE (by omega) (by omega))) (wv rfl (aZ rfl rfl (decide_eq_false (by omega))) (mv (.bool false) rfl (aP rfl rfl (al (v := .u64 (↑n)) rfl) (aP rfl rfl (al (v := .u64 (↑n)) rfl) ?_)))))))))))
 refine aP rfl rfl (an cb kw rfl (aE (by omega) (by omega))) (aP rfl rfl (an eL be rfl (a6 (by omega) (by omega))) (aP rfl rfl (bJ rfl rfl (bne_eq_false_iff_eq.2 (by omega))) (wv rfl (aD (b := false) (v := .bool false) rfl rfl) (wn (aj rfl (wk (ad (sr (mu (↑n) rfl (wv rfl (aZ rfl rfl (decide_eq_true (by omega))) (wn ?_)))))))))))
 refine ay rfl (sr (mu (↑n) rfl (wm rfl (bt H0 (n := n) (m := n) cA i1 rfl rfl rfl rfl rfl (by omega) (by omega) (by omega) (fun g1 w2 hgg1 H3 =>  eh g1 0 n n rfl (wn (sr (mv (.iface 133 (.pt sb)) rfl (ms g1 0 n n rfl (mi 0 rfl (wm rfl ?_)))))))))))
 refine ei (args := [.sl g1 0 n n, .i64 0]) rfl (dg _ _) oO rfl ?_
 have hgw : w.heap.size ≤ g1 := Nat.le_trans H0.keep.size hgg1
 have hrl : rb < w.heap.size := aA hrb
 have hsl : sb < w.heap.size := aA hsb
 refine aa (jZ _ ((aq _ _ _).stay _ _ hsb fun g hg => H3.keep.block g (by rw [show g = sb from hg]; exact aA hsb) (by rw [show g = sb from hg]; exact (aN _))) (by omega) (by omega) hl3 (by omega) ((aq _ _ _).stay _ _ hrb fun g hg => H3.keep.block g (by rw [show g = rb from hg]; exact aA hrb) (by rw [show g = rb from hg]; exact (aN _))) (hG.keep H3.keep (fun k hk => hk.elim)) (by omega) (H3.g 0 rfl) (by omega) (by omega) (hr.keep H3.keep fun a ha => aN _) (fun a ha => by have := hA a ha; omega) hNC (ob := 0) (m := n) (by rw [List.length_replicate]; omega) (by omega) (by omega) (q := (N - off)) (by simp only [Nat.min_def]; split <;> omega)) ?_
 rintro e w5 ⟨rfl, HS4⟩
 have H6 := H3.kx 0 rfl HS4 (fun _ h => h)
 refine ⟨_, rfl, ?_⟩
 refine mv (.tuple #[.i64 (↑(N - off)), .iface 224 (.pointer (some a1))]) rfl (we (.i64 (↑(N - off))) rfl rfl (we (.iface 224 (.pointer (some a1))) rfl rfl (ai (↑(N - off)) rfl (av (.iface 224 (.pointer (some a1))) rfl (wn (ad (sr (mv (.iface 224 (.pointer (some a1))) rfl (wv rfl ((nn true bq rfl (.inr ⟨_, _, rfl⟩))) (wn (ay rfl ?_)))))))))))
 refine sr (mv (.iface 224 (.pointer (some a1))) rfl (wv rfl (ah fx rfl (H6.keep.cell (hG.2) (aN _))) (wv rfl (ex fo rfl rfl) (mv (.bool false) rfl (aP rfl rfl (al (v := .u64 (↑n)) rfl) (aP rfl rfl (bN rfl rfl (decide_eq_true (by omega))) (wv rfl (aD (b := false) (v := .bool true) rfl rfl) (wn (ay rfl (sr (mv (.iface 224 (.pointer (some a1))) rfl ?_)))))))))))
 refine av (.ns) rfl (av (.iface 224 (.pointer (some a1))) rfl (wn (rq (ax ?_))))
 exact ⟨.inr rfl, _, r2 (.ns) (.iface 224 (.pointer (some a1))) rfl _ _, ⟨_, _, rfl, H6.sub (List.nil_sublist _)⟩⟩
theorem tX {rb N C off n : Nat} {A : Option Addr} {i p : Int} {xs : List Int} {a0 a1 : Addr} (w : World) (hrb : (aq rb [.slice A N C, .i64 i, .i64 p] 190).φ w) (hG : Glob 224 w a0 a1) (hNC : N ≤ C) (hN : N < 10485760) (hr : RI .u8 w A N xs) (hA : ∀ a, A = some a → a.block < w.heap.size) (hw4 : 4 ≤ w.heap.size) (ho63 : off < 4294967296) {sb : Nat} {so sn lim : Int} (hsb : (aq sb [.iface 109 (.pt rb), .i64 ↑off, .i64 so, .i64 lim, .i64 sn] 195).φ w) (hl : lim = ↑off + ↑n ∨ (lim = 9223372036854775807 ∧ 10485760 ≤ n)) (hl3 : lim ≤ 9223372036854775807) (hn : n < 10485760) (h0 : 0 < n) (hon : N ≤ off) :
 Calls Tryd.prog 50 #[.iface 133 (.pt sb), .u64 ↑n, .i64 0] w fun e w' => ∃ T v, e = .returned (.tuple #[.ns, .iface T v]) ∧ St w aW [] w' := by
 refine a5 (args := [.iface 133 (.pt sb), .u64 (↑n), .i64 0]) Tryd.func50 rfl rfl rfl ?_
 have H0 := St.nil w aW
 refine sr (av (.ns) rfl (av (.nilIface) rfl (wn (ad (sr (mu (↑n) rfl (wv rfl (an cb f9 rfl (aE (by omega) (by omega))) (wv rfl (aZ rfl rfl (decide_eq_false (by omega))) (mv (.bool false) rfl (aP rfl rfl (al (v := .u64 (↑n)) rfl) (aP rfl rfl (al (v := .u64 (↑n)) rfl) ?_)))))))))))
 refine aP rfl rfl (an cb kw rfl (aE (by omega) (by omega))) (aP rfl rfl (an eL be rfl (a6 (by omega) (by omega))) (aP rfl rfl (bJ rfl rfl (bne_eq_false_iff_eq.2 (by omega))) (wv rfl (aD (b := false) (v := .bool false) rfl rfl) (wn (aj rfl (wk (ad (sr (mu (↑n) rfl (wv rfl (aZ rfl rfl (decide_eq_true (by omega))) (wn ?_)))))))))))
 refine ay rfl (sr (mu (↑n) rfl (wm rfl (bt H0 (n := n) (m := n) cA i1 rfl rfl rfl rfl rfl (by omega) (by omega) (by omega) (fun g1 w2 hgg1 H3 =>  eh g1 0 n n rfl (wn (sr (mv (.iface 133 (.pt sb)) rfl (ms g1 0 n n rfl (mi 0 rfl (wm rfl ?_)))))))))))
 refine ei (args := [.sl g1 0 n n, .i64 0]) rfl (dg _ _) oO rfl ?_
 have hgw : w.heap.size ≤ g1 := Nat.le_trans H0.keep.size hgg1
 have hrl : rb < w.heap.size := aA hrb
 have hsl : sb < w.heap.size := aA hsb
 refine aa (nk (xs := []) (Tb := 0) (cs := []) (gb := 0) (ob := 0) (m := n) (Ab := some ⟨g1, 0, none⟩) _ ((aq _ _ _).stay _ _ hsb fun g hg => H3.keep.block g (by rw [show g = sb from hg]; exact aA hsb) (by rw [show g = sb from hg]; exact (aN _))) (by omega) (by omega) hl3 ((aq _ _ _).stay _ _ hrb fun g hg => H3.keep.block g (by rw [show g = rb from hg]; exact aA hrb) (by rw [show g = rb from hg]; exact (aN _))) (hG.keep H3.keep (fun k hk => hk.elim)) (by omega) (by omega)) ?_
 rintro e w5 ⟨rfl, HS4⟩
 have H6 := H3.cal0 HS4
 refine ⟨_, rfl, ?_⟩
 refine mv (.tuple #[.i64 0, .iface 224 (.pointer (some a1))]) rfl (we (.i64 0) rfl rfl (we (.iface 224 (.pointer (some a1))) rfl rfl (ai 0 rfl (av (.iface 224 (.pointer (some a1))) rfl (wn (ad (sr (mv (.iface 224 (.pointer (some a1))) rfl (wv rfl ((nn true bq rfl (.inr ⟨_, _, rfl⟩))) (wn (ay rfl ?_)))))))))))
 refine sr (mv (.iface 224 (.pointer (some a1))) rfl (wv rfl (ah fx rfl (H6.keep.cell (hG.2) (aN _))) (wv rfl (ex fo rfl rfl) (mv (.bool false) rfl (aP rfl rfl (al (v := .u64 (↑n)) rfl) (aP rfl rfl (bN rfl rfl (decide_eq_true (by omega))) (wv rfl (aD (b := false) (v := .bool true) rfl rfl) (wn (ay rfl (sr (mv (.iface 224 (.pointer (some a1))) rfl ?_)))))))))))
 refine av (.ns) rfl (av (.iface 224 (.pointer (some a1))) rfl (wn (rq (ax ?_))))
 exact ⟨.inr rfl, _, r2 (.ns) (.iface 224 (.pointer (some a1))) rfl _ _, ⟨_, _, rfl, H6.sub (List.nil_sublist _)⟩⟩
theorem lI {rb N C off n : Nat} {A : Option Addr} {i p : Int} {xs : List Int} {a0 a1 : Addr} (w : World) (hrb : (aq rb [.slice A N C, .i64 i, .i64 p] 190).φ w) (hG : Glob 224 w a0 a1) (hNC : N ≤ C) (hN : N < 10485760) (hr : RI .u8 w A N xs) (hA : ∀ a, A = some a → a.block < w.heap.size) (hw4 : 4 ≤ w.heap.size) (ho63 : off < 4294967296) {sb : Nat} {so sn lim : Int} (hsb : (aq sb [.iface 109 (.pt rb), .i64 ↑off, .i64 so, .i64 lim, .i64 sn] 195).φ w) (hl : lim = ↑off + ↑n ∨ (lim = 9223372036854775807 ∧ 10485760 ≤ n)) (hl3 : lim ≤ 9223372036854775807) (hn : 10485760 < n) (hn63 : n < 9223372036854775808) (hon : off < N) :
 Calls Tryd.prog 50 #[.iface 133 (.pt sb), .u64 ↑n, .i64 0] w fun e w' => ∃ T v, e = .returned (.tuple #[.ns, .iface T v]) ∧ St w aW [] w' := by
 refine a5 (args := [.iface 133 (.pt sb), .u64 (↑n), .i64 0]) Tryd.func50 rfl rfl rfl ?_
 have H0 := St.nil w aW
 refine sr (av (.ns) rfl (av (.nilIface) rfl (wn (ad (sr (mu (↑n) rfl (wv rfl (an cb f9 rfl (aE (by omega) (by omega))) (wv rfl (aZ rfl rfl (decide_eq_false (by omega))) (mv (.bool false) rfl (aP rfl rfl (al (v := .u64 (↑n)) rfl) (aP rfl rfl (al (v := .u64 (↑n)) rfl) ?_)))))))))))
 refine aP rfl rfl (an cb kw rfl (aE (by omega) (by omega))) (aP rfl rfl (an eL be rfl (a6 (by omega) (by omega))) (aP rfl rfl (bJ rfl rfl (bne_eq_false_iff_eq.2 (by omega))) (wv rfl (aD (b := false) (v := .bool false) rfl rfl) (wn (aj rfl (wk (ad (sr (mu (↑n) rfl (wv rfl (aZ rfl rfl (decide_eq_false (by omega))) (wn ?_)))))))))))
 refine aj rfl (wk (sr (av (.ns) rfl (wn (sr (wm rfl (bt H0 (n := 10485760) (m := 10485760) cA i1 rfl rfl rfl rfl rfl (by omega) (by omega) (by omega) (fun g1 w2 hgg1 H3 =>  eh g1 0 10485760 10485760 rfl (wn (ad (aC ?_)))))))))))
 refine du 1 (cw (ad (sr (mu (↑n) rfl (wv rfl (bN rfl rfl (decide_eq_true (by omega))) (wn (ay rfl (wk (aC (sr (mu (↑n) rfl ?_)))))))))))
 refine au (↑n) rfl (wn (ad (sr (mu (↑n) rfl (wv rfl (bN rfl rfl (decide_eq_true (by omega))) (wn (ay rfl (ae (au 10485760 rfl (wn (ad ?_)))))))))))
 refine bC MX (fun w' => True) (tp 0 8 (Plan.run 8 (tp 9 5 Plan.done))) (by kernel_rfl) ?_
 have H4 := H3.drew
 have hS5 : (fun w' => True) w2.drew := trivial
 refine py rfl hS5 (al (v := .iface 133 (.pt sb)) rfl) (py rfl hS5 (al (v := .sl g1 0 10485760 10485760) rfl) (py rfl hS5 (al (v := .u64 10485760) rfl) (pt rfl hS5 (fun _ hS => (am (l := 0) (h := 10485760) aU rfl bn (bs rfl (by omega) rfl) (by omega) (by omega) (by omega) rfl : Yv _ _ _ _ (.sl g1 0 10485760 10485760) _)) (py rfl hS5 (al (v := .i64 0) rfl) (py rfl hS5 (n7 (vs := [.iface 133 (.pt sb)]) rfl rfl) (py rfl hS5 (bd rfl (fA _ _)) (py rfl hS5 (al (v := .iface 133 (.pt sb)) rfl) (pr rfl (ei (args := [.sl g1 0 10485760 10485760, .i64 0]) rfl (dg _ _) oO rfl ?_)))))))))
 have hgw : w.heap.size ≤ g1 := Nat.le_trans H0.keep.size hgg1
 have hrl : rb < w.heap.size := aA hrb
 have hsl : sb < w.heap.size := aA hsb
 refine aa (jZ _ ((aq _ _ _).stay _ _ hsb fun g hg => H4.keep.block g (by rw [show g = sb from hg]; exact aA hsb) (by rw [show g = sb from hg]; exact (aN _))) (by omega) (by omega) hl3 (by omega) ((aq _ _ _).stay _ _ hrb fun g hg => H4.keep.block g (by rw [show g = rb from hg]; exact aA hrb) (by rw [show g = rb from hg]; exact (aN _))) (hG.keep H4.keep (fun k hk => hk.elim)) (by omega) (H4.g 0 rfl) (by omega) (by omega) (hr.keep H4.keep fun a ha => aN _) (fun a ha => by have := hA a ha; omega) hNC (ob := 0) (m := 10485760) (by rw [List.length_replicate]; omega) (by omega) (by omega) (q := (N - off)) (by simp only [Nat.min_def]; split <;> omega)) ?_
 rintro e w7 ⟨rfl, HS6⟩
 have H8 := H4.kx 0 rfl HS6 (fun _ h => h)
 refine ⟨_, rfl, ?_⟩
 have hS9 : (fun w' => True) w7 := trivial
 refine ⟨hS9, ?_⟩
 refine py rfl hS9 (al (v := .tuple #[.i64 (↑(N - off)), .iface 224 (.pointer (some a1))]) rfl) (py rfl hS9 (a7 (v := .i64 (↑(N - off))) rfl rfl) (py rfl hS9 (a7 (v := .iface 224 (.pointer (some a1))) rfl rfl) (py rfl hS9 (aS (v := .i64 (↑(N - off))) rfl) (py rfl hS9 (aS (v := .iface 224 (.pointer (some a1))) rfl) (bj (ac (ad (sr (mv (.iface 224 (.pointer (some a1))) rfl (wv rfl ((nn true bq rfl (.inr ⟨_, _, rfl⟩))) (wn ?_)))))))))))
 refine ay rfl (sr (mv (.iface 224 (.pointer (some a1))) rfl (av (.ns) rfl (av (.iface 224 (.pointer (some a1))) rfl (wn (rq (aB (ax (aB (ax ?_))))))))))
 exact ⟨.inr rfl, _, r2 (.ns) (.iface 224 (.pointer (some a1))) rfl _ _, ⟨_, _, rfl, H8.sub (List.nil_sublist _)⟩⟩
theorem lU {rb N C off n : Nat} {A : Option Addr} {i p : Int} {xs : List Int} {a0 a1 : Addr} (w : World) (hrb : (aq rb [.slice A N C, .i64 i, .i64 p] 190).φ w) (hG : Glob 224 w a0 a1) (hNC : N ≤ C) (hN : N < 10485760) (hr : RI .u8 w A N xs) (hA : ∀ a, A = some a → a.block < w.heap.size) (hw4 : 4 ≤ w.heap.size) (ho63 : off < 4294967296) {sb : Nat} {so sn lim : Int} (hsb : (aq sb [.iface 109 (.pt rb), .i64 ↑off, .i64 so, .i64 lim, .i64 sn] 195).φ w) (hl : lim = ↑off + ↑n ∨ (lim = 9223372036854775807 ∧ 10485760 ≤ n)) (hl3 : lim ≤ 9223372036854775807) (hn : n = 10485760) (hon : off < N) :
 Calls Tryd.prog 50 #[.iface 133 (.pt sb), .u64 ↑n, .i64 0] w fun e w' => ∃ T v, e = .returned (.tuple #[.ns, .iface T v]) ∧ St w aW [] w' := by
 refine a5 (args := [.iface 133 (.pt sb), .u64 (↑n), .i64 0]) Tryd.func50 rfl rfl rfl ?_
 have H0 := St.nil w aW
 refine sr (av (.ns) rfl (av (.nilIface) rfl (wn (ad (sr (mu (↑n) rfl (wv rfl (an cb f9 rfl (aE (by omega) (by omega))) (wv rfl (aZ rfl rfl (decide_eq_false (by omega))) (mv (.bool false) rfl (aP rfl rfl (al (v := .u64 (↑n)) rfl) (aP rfl rfl (al (v := .u64 (↑n)) rfl) ?_)))))))))))
 refine aP rfl rfl (an cb kw rfl (aE (by omega) (by omega))) (aP rfl rfl (an eL be rfl (a6 (by omega) (by omega))) (aP rfl rfl (bJ rfl rfl (bne_eq_false_iff_eq.2 (by omega))) (wv rfl (aD (b := false) (v := .bool false) rfl rfl) (wn (aj rfl (wk (ad (sr (mu (↑n) rfl (wv rfl (aZ rfl rfl (decide_eq_false (by omega))) (wn ?_)))))))))))
 refine aj rfl (wk (sr (av (.ns) rfl (wn (sr (wm rfl (bt H0 (n := 10485760) (m := 10485760) cA i1 rfl rfl rfl rfl rfl (by omega) (by omega) (by omega) (fun g1 w2 hgg1 H3 =>  eh g1 0 10485760 10485760 rfl (wn (ad (aC ?_)))))))))))
 refine du 1 (cw (ad (sr (mu (↑n) rfl (wv rfl (bN rfl rfl (decide_eq_true (by omega))) (wn (ay rfl (wk (aC (sr (mu (↑n) rfl ?_)))))))))))
 refine au (↑n) rfl (wn (ad (sr (mu (↑n) rfl (wv rfl (bN rfl rfl (decide_eq_false (by omega))) (wn (aj rfl (wk (ad (bC MX (fun w' => True) (tp 0 8 (Plan.run 8 (tp 9 5 Plan.done))) (by kernel_rfl) ?_))))))))))
 have H4 := H3.drew
 have hS5 : (fun w' => True) w2.drew := trivial
 refine py rfl hS5 (al (v := .iface 133 (.pt sb)) rfl) (py rfl hS5 (al (v := .sl g1 0 10485760 10485760) rfl) (py rfl hS5 (al (v := .u64 (↑n)) rfl) (pt rfl hS5 (fun _ hS => (am (l := 0) (h := n) aU rfl bn (bs rfl (by omega) (Int.toNat_natCast _)) (by omega) (by omega) (by omega) rfl : Yv _ _ _ _ (.sl g1 0 n 10485760) _)) (py rfl hS5 (al (v := .i64 0) rfl) (py rfl hS5 (n7 (vs := [.iface 133 (.pt sb)]) rfl rfl) (py rfl hS5 (bd rfl (fA _ _)) (py rfl hS5 (al (v := .iface 133 (.pt sb)) rfl) (pr rfl (ei (args := [.sl g1 0 n 10485760, .i64 0]) rfl (dg _ _) oO rfl ?_)))))))))
 have hgw : w.heap.size ≤ g1 := Nat.le_trans H0.keep.size hgg1
 have hrl : rb < w.heap.size := aA hrb
 have hsl : sb < w.heap.size := aA hsb
 refine aa (jZ _ ((aq _ _ _).stay _ _ hsb fun g hg => H4.keep.block g (by rw [show g = sb from hg]; exact aA hsb) (by rw [show g = sb from hg]; exact (aN _))) (by omega) (by omega) hl3 (by omega) ((aq _ _ _).stay _ _ hrb fun g hg => H4.keep.block g (by rw [show g = rb from hg]; exact aA hrb) (by rw [show g = rb from hg]; exact (aN _))) (hG.keep H4.keep (fun k hk => hk.elim)) (by omega) (H4.g 0 rfl) (by omega) (by omega) (hr.keep H4.keep fun a ha => aN _) (fun a ha => by have := hA a ha; omega) hNC (ob := 0) (m := n) (by rw [List.length_replicate]; omega) (by omega) (by omega) (q := (N - off)) (by simp only [Nat.min_def]; split <;> omega)) ?_
 rintro e w7 ⟨rfl, HS6⟩
 have H8 := H4.kx 0 rfl HS6 (fun _ h => h)
 refine ⟨_, rfl, ?_⟩
 have hS9 : (fun w' => True) w7 := trivial
 refine ⟨hS9, ?_⟩
 refine py rfl hS9 (al (v := .tuple #[.i64 (↑(N - off)), .iface 224 (.pointer (some a1))]) rfl) (py rfl hS9 (a7 (v := .i64 (↑(N - off))) rfl rfl) (py rfl hS9 (a7 (v := .iface 224 (.pointer (some a1))) rfl rfl) (py rfl hS9 (aS (v := .i64 (↑(N - off))) rfl) (py rfl hS9 (aS (v := .iface 224 (.pointer (some a1))) rfl) (bj (ac (ad (sr (mv (.iface 224 (.pointer (some a1))) rfl (wv rfl ((nn true bq rfl (.inr ⟨_, _, rfl⟩))) (wn ?_)))))))))))
 refine ay rfl (sr (mv (.iface 224 (.pointer (some a1))) rfl (av (.ns) rfl (av (.iface 224 (.pointer (some a1))) rfl (wn (rq (aB (ax (aB (ax ?_))))))))))
 exact ⟨.inr rfl, _, r2 (.ns) (.iface 224 (.pointer (some a1))) rfl _ _, ⟨_, _, rfl, H8.sub (List.nil_sublist _)⟩⟩
theorem no {rb N C off n : Nat} {A : Option Addr} {i p : Int} {xs : List Int} {a0 a1 : Addr} (w : World) (hrb : (aq rb [.slice A N C, .i64 i, .i64 p] 190).φ w) (hG : Glob 224 w a0 a1) (hNC : N ≤ C) (hN : N < 10485760) (hr : RI .u8 w A N xs) (hA : ∀ a, A = some a → a.block < w.heap.size) (hw4 : 4 ≤ w.heap.size) (ho63 : off < 4294967296) {sb : Nat} {so sn lim : Int} (hsb : (aq sb [.iface 109 (.pt rb), .i64 ↑off, .i64 so, .i64 lim, .i64 sn] 195).φ w) (hl : lim = ↑off + ↑n ∨ (lim = 9223372036854775807 ∧ 10485760 ≤ n)) (hl3 : lim ≤ 9223372036854775807) (hn : 10485760 < n) (hn63 : n < 9223372036854775808) (hon : N ≤ off) :
 Calls Tryd.prog 50 #[.iface 133 (.pt sb), .u64 ↑n, .i64 0] w fun e w' => ∃ T v, e = .returned (.tuple #[.ns, .iface T v]) ∧ St w aW [] w' := by
 refine a5 (args := [.iface 133 (.pt sb), .u64 (↑n), .i64 0]) Tryd.func50 rfl rfl rfl ?_
 have H0 := St.nil w aW
 refine sr (av (.ns) rfl (av (.nilIface) rfl (wn (ad (sr (mu (↑n) rfl (wv rfl (an cb f9 rfl (aE (by omega) (by omega))) (wv rfl (aZ rfl rfl (decide_eq_false (by omega))) (mv (.bool false) rfl (aP rfl rfl (al (v := .u64 (↑n)) rfl) (aP rfl rfl (al (v := .u64 (↑n)) rfl) ?_)))))))))))
 refine aP rfl rfl (an cb kw rfl (aE (by omega) (by omega))) (aP rfl rfl (an eL be rfl (a6 (by omega) (by omega))) (aP rfl rfl (bJ rfl rfl (bne_eq_false_iff_eq.2 (by omega))) (wv rfl (aD (b := false) (v := .bool false) rfl rfl) (wn (aj rfl (wk (ad (sr (mu (↑n) rfl (wv rfl (aZ rfl rfl (decide_eq_false (by omega))) (wn ?_)))))))))))
 refine aj rfl (wk (sr (av (.ns) rfl (wn (sr (wm rfl (bt H0 (n := 10485760) (m := 10485760) cA i1 rfl rfl rfl rfl rfl (by omega) (by omega) (by omega) (fun g1 w2 hgg1 H3 =>  eh g1 0 10485760 10485760 rfl (wn (ad (aC ?_)))))))))))
 refine du 1 (cw (ad (sr (mu (↑n) rfl (wv rfl (bN rfl rfl (decide_eq_true (by omega))) (wn (ay rfl (wk (aC (sr (mu (↑n) rfl ?_)))))))))))
 refine au (↑n) rfl (wn (ad (sr (mu (↑n) rfl (wv rfl (bN rfl rfl (decide_eq_true (by omega))) (wn (ay rfl (ae (au 10485760 rfl (wn (ad ?_)))))))))))
 refine bC MX (fun w' => True) (tp 0 8 (Plan.run 8 (tp 9 5 Plan.done))) (by kernel_rfl) ?_
 have H4 := H3.drew
 have hS5 : (fun w' => True) w2.drew := trivial
 refine py rfl hS5 (al (v := .iface 133 (.pt sb)) rfl) (py rfl hS5 (al (v := .sl g1 0 10485760 10485760) rfl) (py rfl hS5 (al (v := .u64 10485760) rfl) (pt rfl hS5 (fun _ hS => (am (l := 0) (h := 10485760) aU rfl bn (bs rfl (by omega) rfl) (by omega) (by omega) (by omega) rfl : Yv _ _ _ _ (.sl g1 0 10485760 10485760) _)) (py rfl hS5 (al (v := .i64 0) rfl) (py rfl hS5 (n7 (vs := [.iface 133 (.pt sb)]) rfl rfl) (py rfl hS5 (bd rfl (fA _ _)) (py rfl hS5 (al (v := .iface 133 (.pt sb)) rfl) (pr rfl (ei (args := [.sl g1 0 10485760 10485760, .i64 0]) rfl (dg _ _) oO rfl ?_)))))))))
 have hgw : w.heap.size ≤ g1 := Nat.le_trans H0.keep.size hgg1
 have hrl : rb < w.heap.size := aA hrb
 have hsl : sb < w.heap.size := aA hsb
 refine aa (nk (xs := []) (Tb := 0) (cs := []) (gb := 0) (ob := 0) (m := 10485760) (Ab := some ⟨g1, 0, none⟩) _ ((aq _ _ _).stay _ _ hsb fun g hg => H4.keep.block g (by rw [show g = sb from hg]; exact aA hsb) (by rw [show g = sb from hg]; exact (aN _))) (by omega) (by omega) hl3 ((aq _ _ _).stay _ _ hrb fun g hg => H4.keep.block g (by rw [show g = rb from hg]; exact aA hrb) (by rw [show g = rb from hg]; exact (aN _))) (hG.keep H4.keep (fun k hk => hk.elim)) (by omega) (by omega)) ?_
 rintro e w7 ⟨rfl, HS6⟩
 have H8 := H4.cal0 HS6
 refine ⟨_, rfl, ?_⟩
 have hS9 : (fun w' => True) w7 := trivial
 refine ⟨hS9, ?_⟩
 refine py rfl hS9 (al (v := .tuple #[.i64 0, .iface 224 (.pointer (some a1))]) rfl) (py rfl hS9 (a7 (v := .i64 0) rfl rfl) (py rfl hS9 (a7 (v := .iface 224 (.pointer (some a1))) rfl rfl) (py rfl hS9 (aS (v := .i64 0) rfl) (py rfl hS9 (aS (v := .iface 224 (.pointer (some a1))) rfl) (bj (ac (ad (sr (mv (.iface 224 (.pointer (some a1))) rfl (wv rfl ((nn true bq rfl (.inr ⟨_, _, rfl⟩))) (wn ?_)))))))))))
 refine ay rfl (sr (mv (.iface 224 (.pointer (some a1))) rfl (av (.ns) rfl (av (.iface 224 (.pointer (some a1))) rfl (wn (rq (aB (ax (aB (ax ?_))))))))))
 exact ⟨.inr rfl, _, r2 (.ns) (.iface 224 (.pointer (some a1))) rfl _ _, ⟨_, _, rfl, H8.sub (List.nil_sublist _)⟩⟩
theorem oG {rb N C off n : Nat} {A : Option Addr} {i p : Int} {xs : List Int} {a0 a1 : Addr} (w : World) (hrb : (aq rb [.slice A N C, .i64 i, .i64 p] 190).φ w) (hG : Glob 224 w a0 a1) (hNC : N ≤ C) (hN : N < 10485760) (hr : RI .u8 w A N xs) (hA : ∀ a, A = some a → a.block < w.heap.size) (hw4 : 4 ≤ w.heap.size) (ho63 : off < 4294967296) {sb : Nat} {so sn lim : Int} (hsb : (aq sb [.iface 109 (.pt rb), .i64 ↑off, .i64 so, .i64 lim, .i64 sn] 195).φ w) (hl : lim = ↑off + ↑n ∨ (lim = 9223372036854775807 ∧ 10485760 ≤ n)) (hl3 : lim ≤ 9223372036854775807) (hn : n = 10485760) (hon : N ≤ off) :
 Calls Tryd.prog 50 #[.iface 133 (.pt sb), .u64 ↑n, .i64 0] w fun e w' => ∃ T v, e = .returned (.tuple #[.ns, .iface T v]) ∧ St w aW [] w' := by
 refine a5 (args := [.iface 133 (.pt sb), .u64 (↑n), .i64 0]) Tryd.func50 rfl rfl rfl ?_
 have H0 := St.nil w aW
 refine sr (av (.ns) rfl (av (.nilIface) rfl (wn (ad (sr (mu (↑n) rfl (wv rfl (an cb f9 rfl (aE (by omega) (by omega))) (wv rfl (aZ rfl rfl (decide_eq_false (by omega))) (mv (.bool false) rfl (aP rfl rfl (al (v := .u64 (↑n)) rfl) (aP rfl rfl (al (v := .u64 (↑n)) rfl) ?_)))))))))))
 refine aP rfl rfl (an cb kw rfl (aE (by omega) (by omega))) (aP rfl rfl (an eL be rfl (a6 (by omega) (by omega))) (aP rfl rfl (bJ rfl rfl (bne_eq_false_iff_eq.2 (by omega))) (wv rfl (aD (b := false) (v := .bool false) rfl rfl) (wn (aj rfl (wk (ad (sr (mu (↑n) rfl (wv rfl (aZ rfl rfl (decide_eq_false (by omega))) (wn ?_)))))))))))
 refine aj rfl (wk (sr (av (.ns) rfl (wn (sr (wm rfl (bt H0 (n := 10485760) (m := 10485760) cA i1 rfl rfl rfl rfl rfl (by omega) (by omega) (by omega) (fun g1 w2 hgg1 H3 =>  eh g1 0 10485760 10485760 rfl (wn (ad (aC ?_)))))))))))
 refine du 1 (cw (ad (sr (mu (↑n) rfl (wv rfl (bN rfl rfl (decide_eq_true (by omega))) (wn (ay rfl (wk (aC (sr (mu (↑n) rfl ?_)))))))))))
 refine au (↑n) rfl (wn (ad (sr (mu (↑n) rfl (wv rfl (bN rfl rfl (decide_eq_false (by omega))) (wn (aj rfl (wk (ad (bC MX (fun w' => True) (tp 0 8 (Plan.run 8 (tp 9 5 Plan.done))) (by kernel_rfl) ?_))))))))))
 have H4 := H3.drew
 have hS5 : (fun w' => True) w2.drew := trivial
 refine py rfl hS5 (al (v := .iface 133 (.pt sb)) rfl) (py rfl hS5 (al (v := .sl g1 0 10485760 10485760) rfl) (py rfl hS5 (al (v := .u64 (↑n)) rfl) (pt rfl hS5 (fun _ hS => (am (l := 0) (h := n) aU rfl bn (bs rfl (by omega) (Int.toNat_natCast _)) (by omega) (by omega) (by omega) rfl : Yv _ _ _ _ (.sl g1 0 n 10485760) _)) (py rfl hS5 (al (v := .i64 0) rfl) (py rfl hS5 (n7 (vs := [.iface 133 (.pt sb)]) rfl rfl) (py rfl hS5 (bd rfl (fA _ _)) (py rfl hS5 (al (v := .iface 133 (.pt sb)) rfl) (pr rfl (ei (args := [.sl g1 0 n 10485760, .i64 0]) rfl (dg _ _) oO rfl ?_)))))))))
 have hgw : w.heap.size ≤ g1 := Nat.le_trans H0.keep.size hgg1
 have hrl : rb < w.heap.size := aA hrb
 have hsl : sb < w.heap.size := aA hsb
 refine aa (nk (xs := []) (Tb := 0) (cs := []) (gb := 0) (ob := 0) (m := n) (Ab := some ⟨g1, 0, none⟩) _ ((aq _ _ _).stay _ _ hsb fun g hg => H4.keep.block g (by rw [show g = sb from hg]; exact aA hsb) (by rw [show g = sb from hg]; exact (aN _))) (by omega) (by omega) hl3 ((aq _ _ _).stay _ _ hrb fun g hg => H4.keep.block g (by rw [show g = rb from hg]; exact aA hrb) (by rw [show g = rb from hg]; exact (aN _))) (hG.keep H4.keep (fun k hk => hk.elim)) (by omega) (by omega)) ?_
 rintro e w7 ⟨rfl, HS6⟩
 have H8 := H4.cal0 HS6
 refine ⟨_, rfl, ?_⟩
 have hS9 : (fun w' => True) w7 := trivial
 refine ⟨hS9, ?_⟩
 refine py rfl hS9 (al (v := .tuple #[.i64 0, .iface 224 (.pointer (some a1))]) rfl) (py rfl hS9 (a7 (v := .i64 0) rfl rfl) (py rfl hS9 (a7 (v := .iface 224 (.pointer (some a1))) rfl rfl) (py rfl hS9 (aS (v := .i64 0) rfl) (py rfl hS9 (aS (v := .iface 224 (.pointer (some a1))) rfl) (bj (ac (ad (sr (mv (.iface 224 (.pointer (some a1))) rfl (wv rfl ((nn true bq rfl (.inr ⟨_, _, rfl⟩))) (wn ?_)))))))))))
 refine ay rfl (sr (mv (.iface 224 (.pointer (some a1))) rfl (av (.ns) rfl (av (.iface 224 (.pointer (some a1))) rfl (wn (rq (aB (ax (aB (ax ?_))))))))))
 exact ⟨.inr rfl, _, r2 (.ns) (.iface 224 (.pointer (some a1))) rfl _ _, ⟨_, _, rfl, H8.sub (List.nil_sublist _)⟩⟩
theorem vg {rb N C off n : Nat} {A : Option Addr} {i p : Int} {xs : List Int} {a0 a1 : Addr} (w : World) (hrb : (aq rb [.slice A N C, .i64 i, .i64 p] 190).φ w) (hG : Glob 224 w a0 a1) (hNC : N ≤ C) (hN : N < 10485760) (hr : RI .u8 w A N xs) (hA : ∀ a, A = some a → a.block < w.heap.size) (hw4 : 4 ≤ w.heap.size) (ho63 : off < 4294967296) {sb : Nat} {so sn lim : Int} (hsb : (aq sb [.iface 109 (.pt rb), .i64 ↑off, .i64 so, .i64 lim, .i64 sn] 195).φ w) (hl : lim = ↑off + ↑n ∨ (lim = 9223372036854775807 ∧ 10485760 ≤ n)) (hl3 : lim ≤ 9223372036854775807) (h : n = 0 ∨ off + n ≤ N) :
 Calls Tryd.prog 50 #[.iface 133 (.pt sb), .u64 ↑n, .i64 0] w fun e w' => ∃ g, e = .returned (.tuple #[.sl g 0 n n, .nilIface]) ∧ w.heap.size ≤ g ∧ St w aW [aq g (nums .u8 ((xs.drop off).take n)) 5] w' := by
 by_cases hf : n = 0
 · exact sk w hrb hG hNC hN hr hA hw4 ho63 hsb hl hl3 hf
 · exact sq w hrb hG hNC hN hr hA hw4 ho63 hsb hl hl3 (by omega) (by omega)
theorem tY {rb N C off n : Nat} {A : Option Addr} {i p : Int} {xs : List Int} {a0 a1 : Addr} (w : World) (hrb : (aq rb [.slice A N C, .i64 i, .i64 p] 190).φ w) (hG : Glob 224 w a0 a1) (hNC : N ≤ C) (hN : N < 10485760) (hr : RI .u8 w A N xs) (hA : ∀ a, A = some a → a.block < w.heap.size) (hw4 : 4 ≤ w.heap.size) (ho63 : off < 4294967296) {sb : Nat} {so sn lim : Int} (hsb : (aq sb [.iface 109 (.pt rb), .i64 ↑off, .i64 so, .i64 lim, .i64 sn] 195).φ w) (hl : lim = ↑off + ↑n ∨ (lim = 9223372036854775807 ∧ 10485760 ≤ n)) (hl3 : lim ≤ 9223372036854775807) (h0 : n ≠ 0) (h : N < off + n) (hn64 : n < 18446744073709551616) :
 Calls Tryd.prog 50 #[.iface 133 (.pt sb), .u64 ↑n, .i64 0] w fun e w' => ∃ T v, e = .returned (.tuple #[.ns, .iface T v]) ∧ St w aW [] w' := by
 by_cases h1 : 9223372036854775808 ≤ n
 · exact sm w hrb hG hNC hN hr hA hw4 ho63 hsb hl hl3 h1 hn64
 by_cases h2 : off < N
 · rcases Nat.lt_trichotomy n 10485760 with h3 | h3 | h3
   · exact p4 w hrb hG hNC hN hr hA hw4 ho63 hsb hl hl3 h3 h h2
   · exact lU w hrb hG hNC hN hr hA hw4 ho63 hsb hl hl3 h3 h2
   · exact lI w hrb hG hNC hN hr hA hw4 ho63 hsb hl hl3 h3 (by omega) h2
 · rcases Nat.lt_trichotomy n 10485760 with h3 | h3 | h3
   · exact tX w hrb hG hNC hN hr hA hw4 ho63 hsb hl hl3 h3 (by omega) (by omega)
   · exact oG w hrb hG hNC hN hr hA hw4 ho63 hsb hl hl3 h3 (by omega)
   · exact no w hrb hG hNC hN hr hA hw4 ho63 hsb hl hl3 h3 (by omega) (by omega)
theorem vq {rb N C off n : Nat} {A : Option Addr} {i p : Int} {xs : List Int} {a0 a1 : Addr} (w : World) (hrb : (aq rb [.slice A N C, .i64 i, .i64 p] 190).φ w) (hG : Glob 224 w a0 a1) (hNC : N ≤ C) (hN : N < 10485760) (hr : RI .u8 w A N xs) (hA : ∀ a, A = some a → a.block < w.heap.size) (hw4 : 4 ≤ w.heap.size) (ho63 : off < 4294967296) {sb : Nat} {so sn lim : Int} (hsb : (aq sb [.iface 109 (.pt rb), .i64 ↑off, .i64 so, .i64 lim, .i64 sn] 195).φ w) (hl : lim = ↑off + ↑n ∨ (lim = 9223372036854775807 ∧ 10485760 ≤ n)) (hl3 : lim ≤ 9223372036854775807) {sec : Nat} (hc3 : w.cell? ⟨sec, 3, none⟩ = some (.u64 ↑n)) (hc11 : w.cell? ⟨sec, 11, none⟩ = some (.pt sb)) (h : n = 0 ∨ off + n ≤ N) :
 Calls Tryd.prog 44 #[.pt sec] w fun e w' => ∃ g, e = .returned (.tuple #[.sl g 0 n n, .nilIface]) ∧ w.heap.size ≤ g ∧ St w aW [aq g (nums .u8 ((xs.drop off).take n)) 5] w' := by
 refine a5 (args := [.pt sec]) Tryd.func44 rfl rfl rfl ?_
 have H0 := St.nil w aW
 refine sr (av (.ns) rfl (av (.nilIface) rfl (wn (ad (bC MX (fun w' => w'.cell? ⟨sec, 11, none⟩ = some (.pt sb) ∧ w'.cell? ⟨sec, 3, none⟩ = some (.u64 (↑n))) (tp 0 10 (Plan.run 10 (tp 11 4 Plan.done))) (by kernel_rfl) ?_)))))
 have H1 := H0.drew
 have hS2 : (fun w' => w'.cell? ⟨sec, 11, none⟩ = some (.pt sb) ∧ w'.cell? ⟨sec, 3, none⟩ = some (.u64 (↑n))) w.drew := ⟨H1.kc hc11, H1.kc hc3⟩
 refine py rfl hS2 (al (v := .pt sec) rfl) (py rfl hS2 (ag rfl) (py rfl hS2 (ab (o := 0) gA rfl) (ph rfl hS2 (fun hS => ah fu rfl hS.1) (py rfl hS2 (aF (v := .pt sb) jF rfl) (py rfl hS2 (al (v := .pt sec) rfl) (py rfl hS2 (ag rfl) (py rfl hS2 (ab (o := 0) bf rfl) (py rfl hS2 (ab (o := 0) fD rfl) (ph rfl hS2 (fun hS => ah aM rfl hS.2) (pr rfl (ec iZ (args := [.iface 133 (.pt sb), .u64 (↑n), .i64 0]) rfl ?_)))))))))))
 refine aa (vg _ ((aq _ _ _).stay _ _ hrb fun g hg => H1.keep.block g (by rw [show g = rb from hg]; exact aA hrb) (by rw [show g = rb from hg]; exact (aN _))) (hG.keep H1.keep (fun k hk => hk.elim)) hNC hN (hr.keep H1.keep fun a ha => aN _) (fun a ha => Nat.lt_of_lt_of_le (hA a ha) H1.keep.size) (Nat.le_trans hw4 H1.keep.size) ho63 ((aq _ _ _).stay _ _ hsb fun g hg => H1.keep.block g (by rw [show g = sb from hg]; exact aA hsb) (by rw [show g = sb from hg]; exact (aN _))) hl hl3 h) ?_
 rintro e w4 ⟨gd, rfl, hgd, HS3⟩
 have H5 := H1.cal0 HS3
 refine ⟨_, rfl, ?_⟩
 have hS6 : (fun w' => w'.cell? ⟨sec, 11, none⟩ = some (.pt sb) ∧ w'.cell? ⟨sec, 3, none⟩ = some (.u64 (↑n))) w4 := ⟨H5.kc hc11, H5.kc hc3⟩
 refine ⟨hS6, ?_⟩
 refine py rfl hS6 (a7 (v := .sl gd 0 n n) rfl rfl) (py rfl hS6 (a7 (v := .nilIface) rfl rfl) (py rfl hS6 (aS (v := .sl gd 0 n n) rfl) (py rfl hS6 (aS (v := .nilIface) rfl) (bj (ac (aQ ?_))))))
 exact ⟨.inr rfl, _, r2 (.sl gd 0 n n) (.nilIface) rfl _ _, ⟨_, rfl, Nat.le_trans H1.keep.size hgd, H5⟩⟩
theorem ug {rb N C off n : Nat} {A : Option Addr} {i p : Int} {xs : List Int} {a0 a1 : Addr} (w : World) (hrb : (aq rb [.slice A N C, .i64 i, .i64 p] 190).φ w) (hG : Glob 224 w a0 a1) (hNC : N ≤ C) (hN : N < 10485760) (hr : RI .u8 w A N xs) (hA : ∀ a, A = some a → a.block < w.heap.size) (hw4 : 4 ≤ w.heap.size) (ho63 : off < 4294967296) {sb : Nat} {so sn lim : Int} (hsb : (aq sb [.iface 109 (.pt rb), .i64 ↑off, .i64 so, .i64 lim, .i64 sn] 195).φ w) (hl : lim = ↑off + ↑n ∨ (lim = 9223372036854775807 ∧ 10485760 ≤ n)) (hl3 : lim ≤ 9223372036854775807) {sec : Nat} (hc3 : w.cell? ⟨sec, 3, none⟩ = some (.u64 ↑n)) (hc11 : w.cell? ⟨sec, 11, none⟩ = some (.pt sb)) (h0 : n ≠ 0) (h : N < off + n) (hn64 : n < 18446744073709551616) :
 Calls Tryd.prog 44 #[.pt sec] w fun e w' => ∃ T v, e = .returned (.tuple #[.ns, .iface T v]) ∧ St w aW [] w' := by
 refine a5 (args := [.pt sec]) Tryd.func44 rfl rfl rfl ?_
 have H0 := St.nil w aW
 refine sr (av (.ns) rfl (av (.nilIface) rfl (wn (ad (bC MX (fun w' => w'.cell? ⟨sec, 11, none⟩ = some (.pt sb) ∧ w'.cell? ⟨sec, 3, none⟩ = some (.u64 (↑n))) (tp 0 10 (Plan.run 10 (tp 11 4 Plan.done))) (by kernel_rfl) ?_)))))
 have H1 := H0.drew
 have hS2 : (fun w' => w'.cell? ⟨sec, 11, none⟩ = some (.pt sb) ∧ w'.cell? ⟨sec, 3, none⟩ = some (.u64 (↑n))) w.drew := ⟨H1.kc hc11, H1.kc hc3⟩
 refine py rfl hS2 (al (v := .pt sec) rfl) (py rfl hS2 (ag rfl) (py rfl hS2 (ab (o := 0) gA rfl) (ph rfl hS2 (fun hS => ah fu rfl hS.1) (py rfl hS2 (aF (v := .pt sb) jF rfl) (py rfl hS2 (al (v := .pt sec) rfl) (py rfl hS2 (ag rfl) (py rfl hS2 (ab (o := 0) bf rfl) (py rfl hS2 (ab (o := 0) fD rfl) (ph rfl hS2 (fun hS => ah aM rfl hS.2) (pr rfl (ec iZ (args := [.iface 133 (.pt sb), .u64 (↑n), .i64 0]) rfl ?_)))))))))))
 refine aa (tY _ ((aq _ _ _).stay _ _ hrb fun g hg => H1.keep.block g (by rw [show g = rb from hg]; exact aA hrb) (by rw [show g = rb from hg]; exact (aN _))) (hG.keep H1.keep (fun k hk => hk.elim)) hNC hN (hr.keep H1.keep fun a ha => aN _) (fun a ha => Nat.lt_of_lt_of_le (hA a ha) H1.keep.size) (Nat.le_trans hw4 H1.keep.size) ho63 ((aq _ _ _).stay _ _ hsb fun g hg => H1.keep.block g (by rw [show g = sb from hg]; exact aA hsb) (by rw [show g = sb from hg]; exact (aN _))) hl hl3 h0 h hn64) ?_
 rintro e w4 ⟨T, v, rfl, HS3⟩
 have H5 := H1.cal0 HS3
 refine ⟨_, rfl, ?_⟩
 have hS6 : (fun w' => w'.cell? ⟨sec, 11, none⟩ = some (.pt sb) ∧ w'.cell? ⟨sec, 3, none⟩ = some (.u64 (↑n))) w4 := ⟨H5.kc hc11, H5.kc hc3⟩
 refine ⟨hS6, ?_⟩
 refine py rfl hS6 (a7 (v := .ns) rfl rfl) (py rfl hS6 (a7 (v := .iface T v) rfl rfl) (py rfl hS6 (aS (v := .ns) rfl) (py rfl hS6 (aS (v := .iface T v) rfl) (bj (ac (aQ ?_))))))
 exact ⟨.inr rfl, _, r2 (.ns) (.iface T v) rfl _ _, ⟨_, _, rfl, H5⟩⟩
end Go.Proofs.YtlndedfkgiafhaaDoor
