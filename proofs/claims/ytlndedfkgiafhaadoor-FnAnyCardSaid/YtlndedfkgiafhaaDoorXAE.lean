import Derived.Test.YtlndedfkgiafhaaDoorXAD
set_option linter.unusedVariables false
set_option linter.unusedSimpArgs false
set_option maxRecDepth 100000
set_option maxHeartbeats 4000000
namespace Go.Proofs.YtlndedfkgiafhaaDoor
open Go Go.RowKit Go.Proofs
theorem gK : aX Tryd.prog 65 := aJ (by kernel_rfl)
theorem uP : FA 162 0 0 := fa (by kernel_rfl)
theorem fP : cY Tryd.prog 139 := bz (by kernel_rfl)
theorem uO : FA 162 1 1 := fa (by kernel_rfl)
theorem ar : cY Tryd.prog 24 := bz (by kernel_rfl)
theorem kP : FA 162 2 2 := fa (by kernel_rfl)
theorem uM : FA 167 0 0 := fa (by kernel_rfl)
theorem uL : FA 167 1 1 := fa (by kernel_rfl)
theorem kO : FA 167 2 2 := fa (by kernel_rfl)
theorem qT : FA 167 3 3 := fa (by kernel_rfl)
theorem qS : FA 167 4 4 := fa (by kernel_rfl)
theorem qR : FA 167 5 5 := fa (by kernel_rfl)
theorem rj : FA 141 0 0 := fa (by kernel_rfl)
theorem rh : FA 141 1 1 := fa (by kernel_rfl)
theorem iT : FA 141 2 2 := fa (by kernel_rfl)
theorem fh : FA 141 3 3 := fa (by kernel_rfl)
theorem iS : FA 141 4 4 := fa (by kernel_rfl)
theorem iR : FA 141 5 5 := fa (by kernel_rfl)
theorem rf : FA 146 0 0 := fa (by kernel_rfl)
theorem rd : FA 146 1 1 := fa (by kernel_rfl)
theorem rc : FA 146 2 2 := fa (by kernel_rfl)
theorem qZ : FA 146 3 3 := fa (by kernel_rfl)
theorem qY : FA 146 4 4 := fa (by kernel_rfl)
theorem qX : FA 146 5 5 := fa (by kernel_rfl)
theorem kQ : FA 146 6 6 := fa (by kernel_rfl)
theorem nf : FA 146 7 7 := fa (by kernel_rfl)
theorem qW : FA 146 8 8 := fa (by kernel_rfl)
theorem qV : FA 146 9 9 := fa (by kernel_rfl)
theorem o9 : FA 146 10 10 := fa (by kernel_rfl)
theorem o8 : FA 146 11 11 := fa (by kernel_rfl)
theorem o7 : FA 146 12 12 := fa (by kernel_rfl)
theorem o6 : FA 146 13 13 := fa (by kernel_rfl)
theorem jC : FA 146 14 14 := fa (by kernel_rfl)
theorem iC : FA 146 15 15 := fa (by kernel_rfl)
theorem o4 : FA 146 16 16 := fa (by kernel_rfl)
theorem o3 : FA 146 17 17 := fa (by kernel_rfl)
theorem o2 : FA 146 18 18 := fa (by kernel_rfl)
theorem o1 : FA 146 19 19 := fa (by kernel_rfl)
theorem uJ : FA 177 0 0 := fa (by kernel_rfl)
theorem uI : FA 177 1 1 := fa (by kernel_rfl)
theorem qM : FA 177 2 2 := fa (by kernel_rfl)
theorem i2 : kZ Tryd.prog 175 16 5 1 := l5 (by kernel_rfl)
theorem qL : FA 177 3 18 := fa (by kernel_rfl)
theorem qK : FA 177 4 19 := fa (by kernel_rfl)
theorem qJ : FA 177 5 20 := fa (by kernel_rfl)
theorem qI : FA 177 6 21 := fa (by kernel_rfl)
theorem qH : FA 177 7 22 := fa (by kernel_rfl)
theorem qG : FA 177 8 23 := fa (by kernel_rfl)
theorem qF : FA 177 9 24 := fa (by kernel_rfl)
theorem oz : FA 177 10 25 := fa (by kernel_rfl)
theorem uG : FA 186 0 0 := fa (by kernel_rfl)
theorem uF : FA 186 1 1 := fa (by kernel_rfl)
theorem qp : FA 186 2 2 := fa (by kernel_rfl)
theorem p7 : aX Tryd.prog 71 := aJ (by kernel_rfl)
theorem qo : FA 186 3 18 := fa (by kernel_rfl)
theorem qn : FA 186 4 19 := fa (by kernel_rfl)
theorem ql : FA 186 5 20 := fa (by kernel_rfl)
theorem qk : FA 186 6 21 := fa (by kernel_rfl)
theorem qj : FA 186 7 22 := fa (by kernel_rfl)
theorem qi : FA 186 8 23 := fa (by kernel_rfl)
theorem qg : FA 186 9 24 := fa (by kernel_rfl)
theorem oy : FA 186 10 25 := fa (by kernel_rfl)
theorem qC : FA 183 0 0 := fa (by kernel_rfl)
theorem qB : FA 183 1 16 := fa (by kernel_rfl)
theorem qA : FA 183 2 32 := fa (by kernel_rfl)
theorem q0 : FA 183 3 33 := fa (by kernel_rfl)
theorem qx : FA 183 4 34 := fa (by kernel_rfl)
theorem qw : FA 183 5 35 := fa (by kernel_rfl)
theorem qv : FA 183 6 36 := fa (by kernel_rfl)
theorem qu : FA 183 7 37 := fa (by kernel_rfl)
theorem qq : FA 183 8 38 := fa (by kernel_rfl)
theorem uH : FA 183 9 39 := fa (by kernel_rfl)
theorem tO : FA 183 10 40 := fa (by kernel_rfl)
theorem qf : FA 188 0 0 := fa (by kernel_rfl)
theorem qe : FA 188 1 16 := fa (by kernel_rfl)
theorem qd : FA 188 2 32 := fa (by kernel_rfl)
theorem qc : FA 188 3 33 := fa (by kernel_rfl)
theorem qb : FA 188 4 34 := fa (by kernel_rfl)
theorem pZ : FA 188 5 35 := fa (by kernel_rfl)
theorem pY : FA 188 6 36 := fa (by kernel_rfl)
theorem pX : FA 188 7 37 := fa (by kernel_rfl)
theorem pW : FA 188 8 38 := fa (by kernel_rfl)
theorem uE : FA 188 9 39 := fa (by kernel_rfl)
theorem tN : FA 188 10 40 := fa (by kernel_rfl)
theorem tM : FA 188 11 41 := fa (by kernel_rfl)
theorem pU : FA 207 0 0 := fa (by kernel_rfl)
theorem pT : FA 207 1 1 := fa (by kernel_rfl)
theorem pS : FA 207 2 2 := fa (by kernel_rfl)
theorem pR : FA 207 3 3 := fa (by kernel_rfl)
theorem gT : cY Tryd.prog 27 := bz (by kernel_rfl)
theorem pQ : FA 207 4 4 := fa (by kernel_rfl)
theorem gu : FA 205 0 0 := fa (by kernel_rfl)
theorem gk : FA 205 1 1 := fa (by kernel_rfl)
theorem gj : FA 205 2 2 := fa (by kernel_rfl)
theorem gi : FA 205 3 3 := fa (by kernel_rfl)
theorem gg : FA 205 4 4 := fa (by kernel_rfl)
theorem ff : FA 214 0 0 := fa (by kernel_rfl)
theorem ej : FA 214 1 1 := fa (by kernel_rfl)
theorem fG : FA 114 0 0 := fa (by kernel_rfl)
theorem rn : FA 114 1 1 := fa (by kernel_rfl)
theorem tT : cY Tryd.prog 111 := bz (by kernel_rfl)
theorem rm : FA 114 2 2 := fa (by kernel_rfl)
theorem rl : FA 114 3 3 := fa (by kernel_rfl)
theorem tS : cY Tryd.prog 112 := bz (by kernel_rfl)
theorem kX : FA 114 4 4 := fa (by kernel_rfl)
theorem kW : FA 114 5 5 := fa (by kernel_rfl)
theorem rk : FA 114 6 6 := fa (by kernel_rfl)
theorem oe (big : Bool) {g o n c : Nat} {xs : List Int} (w : World) (hr : RI .u8 w (some ⟨g, o, none⟩) n xs) (hx : Byt xs) (hn : 2 ≤ n) (hc : n ≤ c) :
 Calls Tryd.prog 64 #[.u8 (bo big), .sl g o n c] w fun e w' => e = .returned (.u16 (n2 big xs)) ∧ St w aW [] w' := by
 have hcell : ∀ j, j < n → w.cell? ⟨g, o + j, none⟩ = some (.u8 (xs.getD j 0)) := by
  obtain ⟨g', o', e, h⟩ := hr.2 (by omega)
  simp only [Option.some.injEq, Addr.mk.injEq, and_true] at e
  obtain ⟨rfl, rfl⟩ := e
  exact h
 cases big
 · exact hZ w hcell hx hn hc
 · exact iA w hcell hx hn hc
theorem aG (big : Bool) {g o n c : Nat} {xs : List Int} (w : World) (hr : RI .u8 w (some ⟨g, o, none⟩) n xs) (hx : Byt xs) (hn : 4 ≤ n) (hc : n ≤ c) :
 Calls Tryd.prog 48 #[.u8 (bo big), .sl g o n c] w fun e w' => e = .returned (.u32 (n4 big xs)) ∧ St w aW [] w' := by
 have hcell : ∀ j, j < n → w.cell? ⟨g, o + j, none⟩ = some (.u8 (xs.getD j 0)) := by
  obtain ⟨g', o', e, h⟩ := hr.2 (by omega)
  simp only [Option.some.injEq, Addr.mk.injEq, and_true] at e
  obtain ⟨rfl, rfl⟩ := e
  exact h
 cases big
 · exact hY w hcell hx hn hc
 · exact i9 w hcell hx hn hc
theorem fM (big : Bool) {g o n c : Nat} {xs : List Int} (w : World) (hr : RI .u8 w (some ⟨g, o, none⟩) n xs) (hx : Byt xs) (hn : 8 ≤ n) (hc : n ≤ c) :
 Calls Tryd.prog 71 #[.u8 (bo big), .sl g o n c] w fun e w' => e = .returned (.u64 (n8 big xs)) ∧ St w aW [] w' := by
 have hcell : ∀ j, j < n → w.cell? ⟨g, o + j, none⟩ = some (.u8 (xs.getD j 0)) := by
  obtain ⟨g', o', e, h⟩ := hr.2 (by omega)
  simp only [Option.some.injEq, Addr.mk.injEq, and_true] at e
  obtain ⟨rfl, rfl⟩ := e
  exact h
 cases big
 · exact mP w hcell hx hn hc
 · exact oc w hcell hx hn hc
theorem ka {hb rb N C i : Nat} {A : Option Addr} {p : Int} {xs ys : List Int} {a0 a1 : Addr} (big : Bool) (w : World) (hh : (aq hb [.u32 0, .u32 0, .u32 0] 162).φ w) (hrb : (aq rb [.slice A N C, .i64 (↑i), .i64 (p)] 190).φ w) (hG : Glob 224 w a0 a1) (hNC : N ≤ C) (hN63 : N ≤ 9223372036854775807) (hr : RI .u8 w A N xs) (hby0 : Byt xs) (hA : ∀ a, A = some a → a.block < w.heap.size ∧ a.block ≠ rb ∧ a.block ≠ hb) (hb4 : 4 ≤ hb) (hw4 : 4 ≤ w.heap.size) (h4 : 4 ≤ rb) (hne : hb ≠ rb) (ho : i + 12 ≤ N) (hys : ys = (xs.drop i).take 12) :
 Calls Tryd.prog 52 #[.pt hb, .iface 109 (.pt rb), .u8 (bo big)] w fun e w' => e = .returned .nilIface ∧ St w (fun k => k = hb ∨ k = rb) [aq hb [.u32 (n4 big (ys.drop 0)), .u32 (n4 big (ys.drop 4)), .u32 (n4 big (ys.drop 8))] 162, aq rb [.slice A N C, .i64 (↑i + 12), .i64 (-1)] 190] w' := by
 have hyl : ys.length = 12 := by rw [hys, List.length_take, List.length_drop, hr.1]; omega
 have hby : Byt ys := by rw [hys]; exact (hby0.drop _).take _
 refine a5 (args := [.pt hb, .iface 109 (.pt rb), .u8 (bo big)]) Tryd.func52 rfl rfl rfl ?_
 have H0 : St _ _ [aq hb [.u32 0, .u32 0, .u32 0] 162, aq rb [.slice A N C, .i64 (↑i), .i64 p] 190] _ := ((St.nil w (fun k => k = hb ∨ k = rb)).add _ hrb (fun _ h => .inr h) (by simp)).add _ hh (fun _ h => .inl h) (by simp only [List.mem_singleton]; rintro s rfl g h1 h2; exact hne (h1.symm.trans h2))
 refine sr (av (.nilIface) rfl (wn (sr (wm rfl (bt H0 (n := 12) (m := 12) cA i1 rfl rfl rfl rfl rfl (by omega) (by omega) (by omega) (fun g1 w2 hgg1 H3 =>  eh g1 0 12 12 rfl (wn (ad (sr (mv (.iface 109 (.pt rb)) rfl (ms g1 0 12 12 rfl ?_)))))))))))
 refine wE [.iface 109 (.pt rb), .sl g1 0 12 12] gK rfl rfl ?_
 have hgw : w.heap.size ≤ g1 := Nat.le_trans H0.keep.size hgg1
 have hbl : hb < w.heap.size := aA hh
 have hrl : rb < w.heap.size := aA hrb
 refine aa (iE _ (H3.g 2 rfl) (hG.keep H3.keep (fun k hk => by rcases hk with h | h <;> omega)) hN63 (H3.g 0 rfl) (by omega) h4 (by omega) (hr.keep H3.keep fun a ha h => by have := hA a ha; rcases h with h | h <;> omega) (fun a ha => by have := hA a ha; omega) hNC (by simp) (by omega) (by omega) (by omega) ho) ?_
 rintro e w5 ⟨rfl, HS4⟩
 rw [← hys] at HS4
 have H6 := H3.ky 2 0 rfl rfl HS4 (fun _ h => h)
 refine ⟨_, rfl, ?_⟩
 refine mv (.tuple #[.i64 12, .nilIface]) rfl (we (.i64 12) rfl rfl (we (.nilIface) rfl rfl (ai 12 rfl (av (.nilIface) rfl (wn (sr (mv (.nilIface) rfl (wv rfl ((nn false bq rfl (.inl rfl))) (wn (aj rfl (wk ?_)))))))))))
 refine sr (mp hb 0 rfl (mv (.u8 (bo big)) rfl (ms g1 0 12 12 rfl (wv rfl ((am (l := 0) (h := 12) aU rfl (bs rfl (by omega) rfl) bn (by omega) (by omega) (by omega) rfl : Yv _ _ _ _ (.sl g1 0 12 12) _)) (wE [.u8 (bo big), .sl g1 0 12 12] b9 rfl rfl (aa (aG big _ ((ak (H6.g 1 rfl) hyl).drop_ 0) (hby.drop 0) (by omega) (by omega)) ?_))))))
 rintro e w8 ⟨rfl, HS7⟩
 have H9 := H6.cal0 HS7
 refine ⟨_, rfl, ?_⟩
 refine wc rfl (wf uP rfl (ws (es H9 2 0 (.u32 (n4 big (ys.drop 0))) rfl fP (fun w11 H10 =>  ?_))))
 refine wn (sr (mp hb 0 rfl (mv (.u8 (bo big)) rfl (ms g1 0 12 12 rfl (wv rfl ((am (l := 4) (h := 12) aU rfl (bs rfl (by omega) rfl) bn (by omega) (by omega) (by omega) rfl : Yv _ _ _ _ (.sl g1 4 8 8) _)) (wE [.u8 (bo big), .sl g1 4 8 8] b9 rfl rfl (aa (aG big _ ((ak (H10.g 1 rfl) hyl).drop_ 4) (hby.drop 4) (by omega) (by omega)) ?_)))))))
 rintro e w13 ⟨rfl, HS12⟩
 have H14 := H10.cal0 HS12
 refine ⟨_, rfl, ?_⟩
 refine wc rfl (wf uO rfl (ws (es H14 2 1 (.u32 (n4 big (ys.drop 4))) rfl ar (fun w16 H15 =>  ?_))))
 refine wn (sr (mp hb 0 rfl (mv (.u8 (bo big)) rfl (ms g1 0 12 12 rfl (wv rfl ((am (l := 8) (h := 12) aU rfl (bs rfl (by omega) rfl) bn (by omega) (by omega) (by omega) rfl : Yv _ _ _ _ (.sl g1 8 4 4) _)) (wE [.u8 (bo big), .sl g1 8 4 4] b9 rfl rfl (aa (aG big _ ((ak (H15.g 1 rfl) hyl).drop_ 8) (hby.drop 8) (by omega) (by omega)) ?_)))))))
 rintro e w18 ⟨rfl, HS17⟩
 have H19 := H15.cal0 HS17
 refine ⟨_, rfl, ?_⟩
 refine wc rfl (wf kP rfl (ws (es H19 2 2 (.u32 (n4 big (ys.drop 8))) rfl ar (fun w21 H20 =>  ?_))))
 refine wn (sr (av (.nilIface) rfl (wn (aQ ?_))))
 exact ⟨.inr rfl, _, r1 (.nilIface) rfl _ _, ⟨rfl, (H20.drop 1).perm (.swap ..)⟩⟩
theorem jM {hb rb N C i : Nat} {A : Option Addr} {p : Int} {xs ys : List Int} {a0 a1 : Addr} (big : Bool) (w : World) (hh : (aq hb [.u32 0, .u32 0, .u32 0] 162).φ w) (hrb : (aq rb [.slice A N C, .i64 (↑i), .i64 (p)] 190).φ w) (hG : Glob 224 w a0 a1) (hNC : N ≤ C) (hN63 : N ≤ 9223372036854775807) (hr : RI .u8 w A N xs) (hby0 : Byt xs) (hA : ∀ a, A = some a → a.block < w.heap.size ∧ a.block ≠ rb ∧ a.block ≠ hb) (hb4 : 4 ≤ hb) (hw4 : 4 ≤ w.heap.size) (h4 : 4 ≤ rb) (hne : hb ≠ rb) (ho : N < i + 12) :
 Calls Tryd.prog 52 #[.pt hb, .iface 109 (.pt rb), .u8 (bo big)] w fun e w' => ∃ T v, e = .returned (.iface T v) ∧ St w (fun k => k = hb ∨ k = rb) [] w' := by
 refine a5 (args := [.pt hb, .iface 109 (.pt rb), .u8 (bo big)]) Tryd.func52 rfl rfl rfl ?_
 have H0 : St _ _ [aq hb [.u32 0, .u32 0, .u32 0] 162, aq rb [.slice A N C, .i64 (↑i), .i64 p] 190] _ := ((St.nil w (fun k => k = hb ∨ k = rb)).add _ hrb (fun _ h => .inr h) (by simp)).add _ hh (fun _ h => .inl h) (by simp only [List.mem_singleton]; rintro s rfl g h1 h2; exact hne (h1.symm.trans h2))
 refine sr (av (.nilIface) rfl (wn (sr (wm rfl (bt H0 (n := 12) (m := 12) cA i1 rfl rfl rfl rfl rfl (by omega) (by omega) (by omega) (fun g1 w2 hgg1 H3 =>  eh g1 0 12 12 rfl (wn (ad (sr (mv (.iface 109 (.pt rb)) rfl (ms g1 0 12 12 rfl ?_)))))))))))
 refine wE [.iface 109 (.pt rb), .sl g1 0 12 12] gK rfl rfl ?_
 have hgw : w.heap.size ≤ g1 := Nat.le_trans H0.keep.size hgg1
 have hbl : hb < w.heap.size := aA hh
 have hrl : rb < w.heap.size := aA hrb
 refine aa (iF _ (H3.g 2 rfl) (hG.keep H3.keep (fun k hk => by rcases hk with h | h <;> omega)) hN63 (H3.g 0 rfl) (by omega) h4 (by omega) (hr.keep H3.keep fun a ha h => by have := hA a ha; rcases h with h | h <;> omega) (fun a ha => by have := hA a ha; omega) hNC (by simp) (by omega) (by omega) (by omega) ho) ?_
 rintro e w5 ⟨x, T, v, rfl, HS4⟩
 have H6 := H3.ky 2 0 rfl rfl HS4 (fun _ h => h)
 refine ⟨_, rfl, ?_⟩
 refine mv (.tuple #[x, .iface T v]) rfl (we x rfl rfl (we (.iface T v) rfl rfl (av x rfl (av (.iface T v) rfl (wn (sr (mv (.iface T v) rfl (wv rfl ((nn true bq rfl (.inr ⟨_, _, rfl⟩))) (wn (ay rfl (sr ?_)))))))))))
 refine mv (.iface T v) rfl (av (.iface T v) rfl (wn (rq ?_)))
 exact ⟨.inr rfl, _, r1 (.iface T v) rfl _ _, ⟨_, _, rfl, H6.sub (List.nil_sublist _)⟩⟩
theorem kd {hb rb N C i : Nat} {A : Option Addr} {p : Int} {xs ys : List Int} {a0 a1 : Addr} (big : Bool) (w : World) (hh : (aq hb [.u32 0, .u32 0, .u32 0, .u32 0, .u32 0, .u32 0] 167).φ w) (hrb : (aq rb [.slice A N C, .i64 (↑i), .i64 (p)] 190).φ w) (hG : Glob 224 w a0 a1) (hNC : N ≤ C) (hN63 : N ≤ 9223372036854775807) (hr : RI .u8 w A N xs) (hby0 : Byt xs) (hA : ∀ a, A = some a → a.block < w.heap.size ∧ a.block ≠ rb ∧ a.block ≠ hb) (hb4 : 4 ≤ hb) (hw4 : 4 ≤ w.heap.size) (h4 : 4 ≤ rb) (hne : hb ≠ rb) (ho : i + 24 ≤ N) (hys : ys = (xs.drop i).take 24) :
 Calls Tryd.prog 54 #[.pt hb, .iface 109 (.pt rb), .u8 (bo big)] w fun e w' => e = .returned .nilIface ∧ St w (fun k => k = hb ∨ k = rb) [aq hb [.u32 (n4 big (ys.drop 0)), .u32 (n4 big (ys.drop 4)), .u32 (n4 big (ys.drop 8)), .u32 (n4 big (ys.drop 12)), .u32 (n4 big (ys.drop 16)), .u32 (n4 big (ys.drop 20))] 167, aq rb [.slice A N C, .i64 (↑i + 24), .i64 (-1)] 190] w' := by
 have hyl : ys.length = 24 := by rw [hys, List.length_take, List.length_drop, hr.1]; omega
 have hby : Byt ys := by rw [hys]; exact (hby0.drop _).take _
 refine a5 (args := [.pt hb, .iface 109 (.pt rb), .u8 (bo big)]) Tryd.func54 rfl rfl rfl ?_
 have H0 : St _ _ [aq hb [.u32 0, .u32 0, .u32 0, .u32 0, .u32 0, .u32 0] 167, aq rb [.slice A N C, .i64 (↑i), .i64 p] 190] _ := ((St.nil w (fun k => k = hb ∨ k = rb)).add _ hrb (fun _ h => .inr h) (by simp)).add _ hh (fun _ h => .inl h) (by simp only [List.mem_singleton]; rintro s rfl g h1 h2; exact hne (h1.symm.trans h2))
 refine sr (av (.nilIface) rfl (wn (sr (wm rfl (bt H0 (n := 24) (m := 24) cA i1 rfl rfl rfl rfl rfl (by omega) (by omega) (by omega) (fun g1 w2 hgg1 H3 =>  eh g1 0 24 24 rfl (wn (ad (sr (mv (.iface 109 (.pt rb)) rfl (ms g1 0 24 24 rfl ?_)))))))))))
 refine wE [.iface 109 (.pt rb), .sl g1 0 24 24] gK rfl rfl ?_
 have hgw : w.heap.size ≤ g1 := Nat.le_trans H0.keep.size hgg1
 have hbl : hb < w.heap.size := aA hh
 have hrl : rb < w.heap.size := aA hrb
 refine aa (iE _ (H3.g 2 rfl) (hG.keep H3.keep (fun k hk => by rcases hk with h | h <;> omega)) hN63 (H3.g 0 rfl) (by omega) h4 (by omega) (hr.keep H3.keep fun a ha h => by have := hA a ha; rcases h with h | h <;> omega) (fun a ha => by have := hA a ha; omega) hNC (by simp) (by omega) (by omega) (by omega) ho) ?_
 rintro e w5 ⟨rfl, HS4⟩
 rw [← hys] at HS4
 have H6 := H3.ky 2 0 rfl rfl HS4 (fun _ h => h)
 refine ⟨_, rfl, ?_⟩
 refine mv (.tuple #[.i64 24, .nilIface]) rfl (we (.i64 24) rfl rfl (we (.nilIface) rfl rfl (ai 24 rfl (av (.nilIface) rfl (wn (sr (mv (.nilIface) rfl (wv rfl ((nn false bq rfl (.inl rfl))) (wn (aj rfl (wk ?_)))))))))))
 refine sr (mp hb 0 rfl (mv (.u8 (bo big)) rfl (ms g1 0 24 24 rfl (wv rfl ((am (l := 0) (h := 24) aU rfl (bs rfl (by omega) rfl) bn (by omega) (by omega) (by omega) rfl : Yv _ _ _ _ (.sl g1 0 24 24) _)) (wE [.u8 (bo big), .sl g1 0 24 24] b9 rfl rfl (aa (aG big _ ((ak (H6.g 1 rfl) hyl).drop_ 0) (hby.drop 0) (by omega) (by omega)) ?_))))))
 rintro e w8 ⟨rfl, HS7⟩
 have H9 := H6.cal0 HS7
 refine ⟨_, rfl, ?_⟩
 refine wc rfl (wf uM rfl (ws (es H9 2 0 (.u32 (n4 big (ys.drop 0))) rfl fP (fun w11 H10 =>  ?_))))
 refine wn (sr (mp hb 0 rfl (mv (.u8 (bo big)) rfl (ms g1 0 24 24 rfl (wv rfl ((am (l := 4) (h := 24) aU rfl (bs rfl (by omega) rfl) bn (by omega) (by omega) (by omega) rfl : Yv _ _ _ _ (.sl g1 4 20 20) _)) (wE [.u8 (bo big), .sl g1 4 20 20] b9 rfl rfl (aa (aG big _ ((ak (H10.g 1 rfl) hyl).drop_ 4) (hby.drop 4) (by omega) (by omega)) ?_)))))))
 rintro e w13 ⟨rfl, HS12⟩
 have H14 := H10.cal0 HS12
 refine ⟨_, rfl, ?_⟩
 refine wc rfl (wf uL rfl (ws (es H14 2 1 (.u32 (n4 big (ys.drop 4))) rfl ar (fun w16 H15 =>  ?_))))
 refine wn (sr (mp hb 0 rfl (mv (.u8 (bo big)) rfl (ms g1 0 24 24 rfl (wv rfl ((am (l := 8) (h := 24) aU rfl (bs rfl (by omega) rfl) bn (by omega) (by omega) (by omega) rfl : Yv _ _ _ _ (.sl g1 8 16 16) _)) (wE [.u8 (bo big), .sl g1 8 16 16] b9 rfl rfl (aa (aG big _ ((ak (H15.g 1 rfl) hyl).drop_ 8) (hby.drop 8) (by omega) (by omega)) ?_)))))))
 rintro e w18 ⟨rfl, HS17⟩
 have H19 := H15.cal0 HS17
 refine ⟨_, rfl, ?_⟩
 refine wc rfl (wf kO rfl (ws (es H19 2 2 (.u32 (n4 big (ys.drop 8))) rfl ar (fun w21 H20 =>  ?_))))
 refine wn (sr (mp hb 0 rfl (mv (.u8 (bo big)) rfl (ms g1 0 24 24 rfl (wv rfl ((am (l := 12) (h := 24) aU rfl (bs rfl (by omega) rfl) bn (by omega) (by omega) (by omega) rfl : Yv _ _ _ _ (.sl g1 12 12 12) _)) (wE [.u8 (bo big), .sl g1 12 12 12] b9 rfl rfl (aa (aG big _ ((ak (H20.g 1 rfl) hyl).drop_ 12) (hby.drop 12) (by omega) (by omega)) ?_)))))))
 rintro e w23 ⟨rfl, HS22⟩
 have H24 := H20.cal0 HS22
 refine ⟨_, rfl, ?_⟩
 refine wc rfl (wf qT rfl (ws (es H24 2 3 (.u32 (n4 big (ys.drop 12))) rfl ar (fun w26 H25 =>  ?_))))
 refine wn (sr (mp hb 0 rfl (mv (.u8 (bo big)) rfl (ms g1 0 24 24 rfl (wv rfl ((am (l := 16) (h := 24) aU rfl (bs rfl (by omega) rfl) bn (by omega) (by omega) (by omega) rfl : Yv _ _ _ _ (.sl g1 16 8 8) _)) (wE [.u8 (bo big), .sl g1 16 8 8] b9 rfl rfl (aa (aG big _ ((ak (H25.g 1 rfl) hyl).drop_ 16) (hby.drop 16) (by omega) (by omega)) ?_)))))))
 rintro e w28 ⟨rfl, HS27⟩
 have H29 := H25.cal0 HS27
 refine ⟨_, rfl, ?_⟩
 refine wc rfl (wf qS rfl (ws (es H29 2 4 (.u32 (n4 big (ys.drop 16))) rfl ar (fun w31 H30 =>  ?_))))
 refine wn (sr (mp hb 0 rfl (mv (.u8 (bo big)) rfl (ms g1 0 24 24 rfl (wv rfl ((am (l := 20) (h := 24) aU rfl (bs rfl (by omega) rfl) bn (by omega) (by omega) (by omega) rfl : Yv _ _ _ _ (.sl g1 20 4 4) _)) (wE [.u8 (bo big), .sl g1 20 4 4] b9 rfl rfl (aa (aG big _ ((ak (H30.g 1 rfl) hyl).drop_ 20) (hby.drop 20) (by omega) (by omega)) ?_)))))))
 rintro e w33 ⟨rfl, HS32⟩
 have H34 := H30.cal0 HS32
 refine ⟨_, rfl, ?_⟩
 refine wc rfl (wf qR rfl (ws (es H34 2 5 (.u32 (n4 big (ys.drop 20))) rfl ar (fun w36 H35 =>  ?_))))
 refine wn (sr (av (.nilIface) rfl (wn (aQ ?_))))
 exact ⟨.inr rfl, _, r1 (.nilIface) rfl _ _, ⟨rfl, (H35.drop 1).perm (.swap ..)⟩⟩
theorem jN {hb rb N C i : Nat} {A : Option Addr} {p : Int} {xs ys : List Int} {a0 a1 : Addr} (big : Bool) (w : World) (hh : (aq hb [.u32 0, .u32 0, .u32 0, .u32 0, .u32 0, .u32 0] 167).φ w) (hrb : (aq rb [.slice A N C, .i64 (↑i), .i64 (p)] 190).φ w) (hG : Glob 224 w a0 a1) (hNC : N ≤ C) (hN63 : N ≤ 9223372036854775807) (hr : RI .u8 w A N xs) (hby0 : Byt xs) (hA : ∀ a, A = some a → a.block < w.heap.size ∧ a.block ≠ rb ∧ a.block ≠ hb) (hb4 : 4 ≤ hb) (hw4 : 4 ≤ w.heap.size) (h4 : 4 ≤ rb) (hne : hb ≠ rb) (ho : N < i + 24) :
 Calls Tryd.prog 54 #[.pt hb, .iface 109 (.pt rb), .u8 (bo big)] w fun e w' => ∃ T v, e = .returned (.iface T v) ∧ St w (fun k => k = hb ∨ k = rb) [] w' := by
 refine a5 (args := [.pt hb, .iface 109 (.pt rb), .u8 (bo big)]) Tryd.func54 rfl rfl rfl ?_
 have H0 : St _ _ [aq hb [.u32 0, .u32 0, .u32 0, .u32 0, .u32 0, .u32 0] 167, aq rb [.slice A N C, .i64 (↑i), .i64 p] 190] _ := ((St.nil w (fun k => k = hb ∨ k = rb)).add _ hrb (fun _ h => .inr h) (by simp)).add _ hh (fun _ h => .inl h) (by simp only [List.mem_singleton]; rintro s rfl g h1 h2; exact hne (h1.symm.trans h2))
 refine sr (av (.nilIface) rfl (wn (sr (wm rfl (bt H0 (n := 24) (m := 24) cA i1 rfl rfl rfl rfl rfl (by omega) (by omega) (by omega) (fun g1 w2 hgg1 H3 =>  eh g1 0 24 24 rfl (wn (ad (sr (mv (.iface 109 (.pt rb)) rfl (ms g1 0 24 24 rfl ?_)))))))))))
 refine wE [.iface 109 (.pt rb), .sl g1 0 24 24] gK rfl rfl ?_
 have hgw : w.heap.size ≤ g1 := Nat.le_trans H0.keep.size hgg1
 have hbl : hb < w.heap.size := aA hh
 have hrl : rb < w.heap.size := aA hrb
 refine aa (iF _ (H3.g 2 rfl) (hG.keep H3.keep (fun k hk => by rcases hk with h | h <;> omega)) hN63 (H3.g 0 rfl) (by omega) h4 (by omega) (hr.keep H3.keep fun a ha h => by have := hA a ha; rcases h with h | h <;> omega) (fun a ha => by have := hA a ha; omega) hNC (by simp) (by omega) (by omega) (by omega) ho) ?_
 rintro e w5 ⟨x, T, v, rfl, HS4⟩
 have H6 := H3.ky 2 0 rfl rfl HS4 (fun _ h => h)
 refine ⟨_, rfl, ?_⟩
 refine mv (.tuple #[x, .iface T v]) rfl (we x rfl rfl (we (.iface T v) rfl rfl (av x rfl (av (.iface T v) rfl (wn (sr (mv (.iface T v) rfl (wv rfl ((nn true bq rfl (.inr ⟨_, _, rfl⟩))) (wn (ay rfl (sr ?_)))))))))))
 refine mv (.iface T v) rfl (av (.iface T v) rfl (wn (rq ?_)))
 exact ⟨.inr rfl, _, r1 (.iface T v) rfl _ _, ⟨_, _, rfl, H6.sub (List.nil_sublist _)⟩⟩
theorem gC {hb rb N C i : Nat} {A : Option Addr} {p : Int} {xs ys : List Int} {a0 a1 : Addr} (big : Bool) (w : World) (hh : (aq hb [.u32 0, .u32 0, .u32 0, .u32 0, .u32 0, .u32 0] 141).φ w) (hrb : (aq rb [.slice A N C, .i64 (↑i), .i64 (p)] 190).φ w) (hG : Glob 224 w a0 a1) (hNC : N ≤ C) (hN63 : N ≤ 9223372036854775807) (hr : RI .u8 w A N xs) (hby0 : Byt xs) (hA : ∀ a, A = some a → a.block < w.heap.size ∧ a.block ≠ rb ∧ a.block ≠ hb) (hb4 : 4 ≤ hb) (hw4 : 4 ≤ w.heap.size) (h4 : 4 ≤ rb) (hne : hb ≠ rb) (ho : i + 24 ≤ N) (hys : ys = (xs.drop i).take 24) :
 Calls Tryd.prog 55 #[.pt hb, .iface 109 (.pt rb), .u8 (bo big)] w fun e w' => e = .returned .nilIface ∧ St w (fun k => k = hb ∨ k = rb) [aq hb [.u32 (n4 big (ys.drop 0)), .u32 (n4 big (ys.drop 4)), .u32 (n4 big (ys.drop 8)), .u32 (n4 big (ys.drop 12)), .u32 (n4 big (ys.drop 16)), .u32 (n4 big (ys.drop 20))] 141, aq rb [.slice A N C, .i64 (↑i + 24), .i64 (-1)] 190] w' := by
 have hyl : ys.length = 24 := by rw [hys, List.length_take, List.length_drop, hr.1]; omega
 have hby : Byt ys := by rw [hys]; exact (hby0.drop _).take _
 refine a5 (args := [.pt hb, .iface 109 (.pt rb), .u8 (bo big)]) Tryd.func55 rfl rfl rfl ?_
 have H0 : St _ _ [aq hb [.u32 0, .u32 0, .u32 0, .u32 0, .u32 0, .u32 0] 141, aq rb [.slice A N C, .i64 (↑i), .i64 p] 190] _ := ((St.nil w (fun k => k = hb ∨ k = rb)).add _ hrb (fun _ h => .inr h) (by simp)).add _ hh (fun _ h => .inl h) (by simp only [List.mem_singleton]; rintro s rfl g h1 h2; exact hne (h1.symm.trans h2))
 refine sr (av (.nilIface) rfl (wn (sr (wm rfl (bt H0 (n := 24) (m := 24) cA i1 rfl rfl rfl rfl rfl (by omega) (by omega) (by omega) (fun g1 w2 hgg1 H3 =>  eh g1 0 24 24 rfl (wn (ad (sr (mv (.iface 109 (.pt rb)) rfl (ms g1 0 24 24 rfl ?_)))))))))))
 refine wE [.iface 109 (.pt rb), .sl g1 0 24 24] gK rfl rfl ?_
 have hgw : w.heap.size ≤ g1 := Nat.le_trans H0.keep.size hgg1
 have hbl : hb < w.heap.size := aA hh
 have hrl : rb < w.heap.size := aA hrb
 refine aa (iE _ (H3.g 2 rfl) (hG.keep H3.keep (fun k hk => by rcases hk with h | h <;> omega)) hN63 (H3.g 0 rfl) (by omega) h4 (by omega) (hr.keep H3.keep fun a ha h => by have := hA a ha; rcases h with h | h <;> omega) (fun a ha => by have := hA a ha; omega) hNC (by simp) (by omega) (by omega) (by omega) ho) ?_
 rintro e w5 ⟨rfl, HS4⟩
 rw [← hys] at HS4
 have H6 := H3.ky 2 0 rfl rfl HS4 (fun _ h => h)
 refine ⟨_, rfl, ?_⟩
 refine mv (.tuple #[.i64 24, .nilIface]) rfl (we (.i64 24) rfl rfl (we (.nilIface) rfl rfl (ai 24 rfl (av (.nilIface) rfl (wn (sr (mv (.nilIface) rfl (wv rfl ((nn false bq rfl (.inl rfl))) (wn (aj rfl (wk ?_)))))))))))
 refine sr (mp hb 0 rfl (mv (.u8 (bo big)) rfl (ms g1 0 24 24 rfl (wv rfl ((am (l := 0) (h := 24) aU rfl (bs rfl (by omega) rfl) bn (by omega) (by omega) (by omega) rfl : Yv _ _ _ _ (.sl g1 0 24 24) _)) (wE [.u8 (bo big), .sl g1 0 24 24] b9 rfl rfl (aa (aG big _ ((ak (H6.g 1 rfl) hyl).drop_ 0) (hby.drop 0) (by omega) (by omega)) ?_))))))
 rintro e w8 ⟨rfl, HS7⟩
 have H9 := H6.cal0 HS7
 refine ⟨_, rfl, ?_⟩
 refine wc rfl (wf rj rfl (ws (es H9 2 0 (.u32 (n4 big (ys.drop 0))) rfl fP (fun w11 H10 =>  ?_))))
 refine wn (sr (mp hb 0 rfl (mv (.u8 (bo big)) rfl (ms g1 0 24 24 rfl (wv rfl ((am (l := 4) (h := 24) aU rfl (bs rfl (by omega) rfl) bn (by omega) (by omega) (by omega) rfl : Yv _ _ _ _ (.sl g1 4 20 20) _)) (wE [.u8 (bo big), .sl g1 4 20 20] b9 rfl rfl (aa (aG big _ ((ak (H10.g 1 rfl) hyl).drop_ 4) (hby.drop 4) (by omega) (by omega)) ?_)))))))
 rintro e w13 ⟨rfl, HS12⟩
 have H14 := H10.cal0 HS12
 refine ⟨_, rfl, ?_⟩
 refine wc rfl (wf rh rfl (ws (es H14 2 1 (.u32 (n4 big (ys.drop 4))) rfl ar (fun w16 H15 =>  ?_))))
 refine wn (sr (mp hb 0 rfl (mv (.u8 (bo big)) rfl (ms g1 0 24 24 rfl (wv rfl ((am (l := 8) (h := 24) aU rfl (bs rfl (by omega) rfl) bn (by omega) (by omega) (by omega) rfl : Yv _ _ _ _ (.sl g1 8 16 16) _)) (wE [.u8 (bo big), .sl g1 8 16 16] b9 rfl rfl (aa (aG big _ ((ak (H15.g 1 rfl) hyl).drop_ 8) (hby.drop 8) (by omega) (by omega)) ?_)))))))
 rintro e w18 ⟨rfl, HS17⟩
 have H19 := H15.cal0 HS17
 refine ⟨_, rfl, ?_⟩
 refine wc rfl (wf iT rfl (ws (es H19 2 2 (.u32 (n4 big (ys.drop 8))) rfl ar (fun w21 H20 =>  ?_))))
 refine wn (sr (mp hb 0 rfl (mv (.u8 (bo big)) rfl (ms g1 0 24 24 rfl (wv rfl ((am (l := 12) (h := 24) aU rfl (bs rfl (by omega) rfl) bn (by omega) (by omega) (by omega) rfl : Yv _ _ _ _ (.sl g1 12 12 12) _)) (wE [.u8 (bo big), .sl g1 12 12 12] b9 rfl rfl (aa (aG big _ ((ak (H20.g 1 rfl) hyl).drop_ 12) (hby.drop 12) (by omega) (by omega)) ?_)))))))
 rintro e w23 ⟨rfl, HS22⟩
 have H24 := H20.cal0 HS22
 refine ⟨_, rfl, ?_⟩
 refine wc rfl (wf fh rfl (ws (es H24 2 3 (.u32 (n4 big (ys.drop 12))) rfl ar (fun w26 H25 =>  ?_))))
 refine wn (sr (mp hb 0 rfl (mv (.u8 (bo big)) rfl (ms g1 0 24 24 rfl (wv rfl ((am (l := 16) (h := 24) aU rfl (bs rfl (by omega) rfl) bn (by omega) (by omega) (by omega) rfl : Yv _ _ _ _ (.sl g1 16 8 8) _)) (wE [.u8 (bo big), .sl g1 16 8 8] b9 rfl rfl (aa (aG big _ ((ak (H25.g 1 rfl) hyl).drop_ 16) (hby.drop 16) (by omega) (by omega)) ?_)))))))
 rintro e w28 ⟨rfl, HS27⟩
 have H29 := H25.cal0 HS27
 refine ⟨_, rfl, ?_⟩
 refine wc rfl (wf iS rfl (ws (es H29 2 4 (.u32 (n4 big (ys.drop 16))) rfl ar (fun w31 H30 =>  ?_))))
 refine wn (sr (mp hb 0 rfl (mv (.u8 (bo big)) rfl (ms g1 0 24 24 rfl (wv rfl ((am (l := 20) (h := 24) aU rfl (bs rfl (by omega) rfl) bn (by omega) (by omega) (by omega) rfl : Yv _ _ _ _ (.sl g1 20 4 4) _)) (wE [.u8 (bo big), .sl g1 20 4 4] b9 rfl rfl (aa (aG big _ ((ak (H30.g 1 rfl) hyl).drop_ 20) (hby.drop 20) (by omega) (by omega)) ?_)))))))
 rintro e w33 ⟨rfl, HS32⟩
 have H34 := H30.cal0 HS32
 refine ⟨_, rfl, ?_⟩
 refine wc rfl (wf iR rfl (ws (es H34 2 5 (.u32 (n4 big (ys.drop 20))) rfl ar (fun w36 H35 =>  ?_))))
 refine wn (sr (av (.nilIface) rfl (wn (aQ ?_))))
 exact ⟨.inr rfl, _, r1 (.nilIface) rfl _ _, ⟨rfl, (H35.drop 1).perm (.swap ..)⟩⟩
theorem fQ {hb rb N C i : Nat} {A : Option Addr} {p : Int} {xs ys : List Int} {a0 a1 : Addr} (big : Bool) (w : World) (hh : (aq hb [.u32 0, .u32 0, .u32 0, .u32 0, .u32 0, .u32 0] 141).φ w) (hrb : (aq rb [.slice A N C, .i64 (↑i), .i64 (p)] 190).φ w) (hG : Glob 224 w a0 a1) (hNC : N ≤ C) (hN63 : N ≤ 9223372036854775807) (hr : RI .u8 w A N xs) (hby0 : Byt xs) (hA : ∀ a, A = some a → a.block < w.heap.size ∧ a.block ≠ rb ∧ a.block ≠ hb) (hb4 : 4 ≤ hb) (hw4 : 4 ≤ w.heap.size) (h4 : 4 ≤ rb) (hne : hb ≠ rb) (ho : N < i + 24) :
 Calls Tryd.prog 55 #[.pt hb, .iface 109 (.pt rb), .u8 (bo big)] w fun e w' => ∃ T v, e = .returned (.iface T v) ∧ St w (fun k => k = hb ∨ k = rb) [] w' := by
 refine a5 (args := [.pt hb, .iface 109 (.pt rb), .u8 (bo big)]) Tryd.func55 rfl rfl rfl ?_
 have H0 : St _ _ [aq hb [.u32 0, .u32 0, .u32 0, .u32 0, .u32 0, .u32 0] 141, aq rb [.slice A N C, .i64 (↑i), .i64 p] 190] _ := ((St.nil w (fun k => k = hb ∨ k = rb)).add _ hrb (fun _ h => .inr h) (by simp)).add _ hh (fun _ h => .inl h) (by simp only [List.mem_singleton]; rintro s rfl g h1 h2; exact hne (h1.symm.trans h2))
 refine sr (av (.nilIface) rfl (wn (sr (wm rfl (bt H0 (n := 24) (m := 24) cA i1 rfl rfl rfl rfl rfl (by omega) (by omega) (by omega) (fun g1 w2 hgg1 H3 =>  eh g1 0 24 24 rfl (wn (ad (sr (mv (.iface 109 (.pt rb)) rfl (ms g1 0 24 24 rfl ?_)))))))))))
 refine wE [.iface 109 (.pt rb), .sl g1 0 24 24] gK rfl rfl ?_
 have hgw : w.heap.size ≤ g1 := Nat.le_trans H0.keep.size hgg1
 have hbl : hb < w.heap.size := aA hh
 have hrl : rb < w.heap.size := aA hrb
 refine aa (iF _ (H3.g 2 rfl) (hG.keep H3.keep (fun k hk => by rcases hk with h | h <;> omega)) hN63 (H3.g 0 rfl) (by omega) h4 (by omega) (hr.keep H3.keep fun a ha h => by have := hA a ha; rcases h with h | h <;> omega) (fun a ha => by have := hA a ha; omega) hNC (by simp) (by omega) (by omega) (by omega) ho) ?_
 rintro e w5 ⟨x, T, v, rfl, HS4⟩
 have H6 := H3.ky 2 0 rfl rfl HS4 (fun _ h => h)
 refine ⟨_, rfl, ?_⟩
 refine mv (.tuple #[x, .iface T v]) rfl (we x rfl rfl (we (.iface T v) rfl rfl (av x rfl (av (.iface T v) rfl (wn (sr (mv (.iface T v) rfl (wv rfl ((nn true bq rfl (.inr ⟨_, _, rfl⟩))) (wn (ay rfl (sr ?_)))))))))))
 refine mv (.iface T v) rfl (av (.iface T v) rfl (wn (rq ?_)))
 exact ⟨.inr rfl, _, r1 (.iface T v) rfl _ _, ⟨_, _, rfl, H6.sub (List.nil_sublist _)⟩⟩
theorem iX {hb rb N C i : Nat} {A : Option Addr} {p : Int} {xs ys : List Int} {a0 a1 : Addr} (big : Bool) (w : World) (hh : (aq hb [.u32 0, .u32 0, .u32 0, .u32 0, .u32 0, .u32 0, .u32 0, .u32 0, .u32 0, .u32 0, .u32 0, .u32 0, .u32 0, .u32 0, .u32 0, .u32 0, .u32 0, .u32 0, .u32 0, .u32 0] 146).φ w) (hrb : (aq rb [.slice A N C, .i64 (↑i), .i64 (p)] 190).φ w) (hG : Glob 224 w a0 a1) (hNC : N ≤ C) (hN63 : N ≤ 9223372036854775807) (hr : RI .u8 w A N xs) (hby0 : Byt xs) (hA : ∀ a, A = some a → a.block < w.heap.size ∧ a.block ≠ rb ∧ a.block ≠ hb) (hb4 : 4 ≤ hb) (hw4 : 4 ≤ w.heap.size) (h4 : 4 ≤ rb) (hne : hb ≠ rb) (ho : i + 80 ≤ N) (hys : ys = (xs.drop i).take 80) :
 Calls Tryd.prog 57 #[.pt hb, .iface 109 (.pt rb), .u8 (bo big)] w fun e w' => e = .returned .nilIface ∧ St w (fun k => k = hb ∨ k = rb) [aq hb [.u32 (n4 big (ys.drop 0)), .u32 (n4 big (ys.drop 4)), .u32 (n4 big (ys.drop 8)), .u32 (n4 big (ys.drop 12)), .u32 (n4 big (ys.drop 16)), .u32 (n4 big (ys.drop 20)), .u32 (n4 big (ys.drop 24)), .u32 (n4 big (ys.drop 28)), .u32 (n4 big (ys.drop 32)), .u32 (n4 big (ys.drop 36)), .u32 (n4 big (ys.drop 40)), .u32 (n4 big (ys.drop 44)), .u32 (n4 big (ys.drop 48)), .u32 (n4 big (ys.drop 52)), .u32 (n4 big (ys.drop 56)), .u32 (n4 big (ys.drop 60)), .u32 (n4 big (ys.drop 64)), .u32 (n4 big (ys.drop 68)), .u32 (n4 big (ys.drop 72)), .u32 (n4 big (ys.drop 76))] 146, aq rb [.slice A N C, .i64 (↑i + 80), .i64 (-1)] 190] w' := by
 have hyl : ys.length = 80 := by rw [hys, List.length_take, List.length_drop, hr.1]; omega
 have hby : Byt ys := by rw [hys]; exact (hby0.drop _).take _
 refine a5 (args := [.pt hb, .iface 109 (.pt rb), .u8 (bo big)]) Tryd.func57 rfl rfl rfl ?_
 have H0 : St _ _ [aq hb [.u32 0, .u32 0, .u32 0, .u32 0, .u32 0, .u32 0, .u32 0, .u32 0, .u32 0, .u32 0, .u32 0, .u32 0, .u32 0, .u32 0, .u32 0, .u32 0, .u32 0, .u32 0, .u32 0, .u32 0] 146, aq rb [.slice A N C, .i64 (↑i), .i64 p] 190] _ := ((St.nil w (fun k => k = hb ∨ k = rb)).add _ hrb (fun _ h => .inr h) (by simp)).add _ hh (fun _ h => .inl h) (by simp only [List.mem_singleton]; rintro s rfl g h1 h2; exact hne (h1.symm.trans h2))
 refine sr (av (.nilIface) rfl (wn (sr (wm rfl (bt H0 (n := 80) (m := 80) cA i1 rfl rfl rfl rfl rfl (by omega) (by omega) (by omega) (fun g1 w2 hgg1 H3 =>  eh g1 0 80 80 rfl (wn (ad (sr (mv (.iface 109 (.pt rb)) rfl (ms g1 0 80 80 rfl ?_)))))))))))
 refine wE [.iface 109 (.pt rb), .sl g1 0 80 80] gK rfl rfl ?_
 have hgw : w.heap.size ≤ g1 := Nat.le_trans H0.keep.size hgg1
 have hbl : hb < w.heap.size := aA hh
 have hrl : rb < w.heap.size := aA hrb
 refine aa (iE _ (H3.g 2 rfl) (hG.keep H3.keep (fun k hk => by rcases hk with h | h <;> omega)) hN63 (H3.g 0 rfl) (by omega) h4 (by omega) (hr.keep H3.keep fun a ha h => by have := hA a ha; rcases h with h | h <;> omega) (fun a ha => by have := hA a ha; omega) hNC (by simp) (by omega) (by omega) (by omega) ho) ?_
 rintro e w5 ⟨rfl, HS4⟩
 rw [← hys] at HS4
 have H6 := H3.ky 2 0 rfl rfl HS4 (fun _ h => h)
 refine ⟨_, rfl, ?_⟩
 refine mv (.tuple #[.i64 80, .nilIface]) rfl (we (.i64 80) rfl rfl (we (.nilIface) rfl rfl (ai 80 rfl (av (.nilIface) rfl (wn (sr (mv (.nilIface) rfl (wv rfl ((nn false bq rfl (.inl rfl))) (wn (aj rfl (wk ?_)))))))))))
 refine sr (mp hb 0 rfl (mv (.u8 (bo big)) rfl (ms g1 0 80 80 rfl (wv rfl ((am (l := 0) (h := 80) aU rfl (bs rfl (by omega) rfl) bn (by omega) (by omega) (by omega) rfl : Yv _ _ _ _ (.sl g1 0 80 80) _)) (wE [.u8 (bo big), .sl g1 0 80 80] b9 rfl rfl (aa (aG big _ ((ak (H6.g 1 rfl) hyl).drop_ 0) (hby.drop 0) (by omega) (by omega)) ?_))))))
 rintro e w8 ⟨rfl, HS7⟩
 have H9 := H6.cal0 HS7
 refine ⟨_, rfl, ?_⟩
 refine wc rfl (wf rf rfl (ws (es H9 2 0 (.u32 (n4 big (ys.drop 0))) rfl fP (fun w11 H10 =>  ?_))))
 refine wn (sr (mp hb 0 rfl (mv (.u8 (bo big)) rfl (ms g1 0 80 80 rfl (wv rfl ((am (l := 4) (h := 80) aU rfl (bs rfl (by omega) rfl) bn (by omega) (by omega) (by omega) rfl : Yv _ _ _ _ (.sl g1 4 76 76) _)) (wE [.u8 (bo big), .sl g1 4 76 76] b9 rfl rfl (aa (aG big _ ((ak (H10.g 1 rfl) hyl).drop_ 4) (hby.drop 4) (by omega) (by omega)) ?_)))))))
 rintro e w13 ⟨rfl, HS12⟩
 have H14 := H10.cal0 HS12
 refine ⟨_, rfl, ?_⟩
 refine wc rfl (wf rd rfl (ws (es H14 2 1 (.u32 (n4 big (ys.drop 4))) rfl ar (fun w16 H15 =>  ?_))))
 refine wn (sr (mp hb 0 rfl (mv (.u8 (bo big)) rfl (ms g1 0 80 80 rfl (wv rfl ((am (l := 8) (h := 80) aU rfl (bs rfl (by omega) rfl) bn (by omega) (by omega) (by omega) rfl : Yv _ _ _ _ (.sl g1 8 72 72) _)) (wE [.u8 (bo big), .sl g1 8 72 72] b9 rfl rfl (aa (aG big _ ((ak (H15.g 1 rfl) hyl).drop_ 8) (hby.drop 8) (by omega) (by omega)) ?_)))))))
 rintro e w18 ⟨rfl, HS17⟩
 have H19 := H15.cal0 HS17
 refine ⟨_, rfl, ?_⟩
 refine wc rfl (wf rc rfl (ws (es H19 2 2 (.u32 (n4 big (ys.drop 8))) rfl ar (fun w21 H20 =>  ?_))))
 refine wn (sr (mp hb 0 rfl (mv (.u8 (bo big)) rfl (ms g1 0 80 80 rfl (wv rfl ((am (l := 12) (h := 80) aU rfl (bs rfl (by omega) rfl) bn (by omega) (by omega) (by omega) rfl : Yv _ _ _ _ (.sl g1 12 68 68) _)) (wE [.u8 (bo big), .sl g1 12 68 68] b9 rfl rfl (aa (aG big _ ((ak (H20.g 1 rfl) hyl).drop_ 12) (hby.drop 12) (by omega) (by omega)) ?_)))))))
 rintro e w23 ⟨rfl, HS22⟩
 have H24 := H20.cal0 HS22
 refine ⟨_, rfl, ?_⟩
 refine wc rfl (wf qZ rfl (ws (es H24 2 3 (.u32 (n4 big (ys.drop 12))) rfl ar (fun w26 H25 =>  ?_))))
 refine wn (sr (mp hb 0 rfl (mv (.u8 (bo big)) rfl (ms g1 0 80 80 rfl (wv rfl ((am (l := 16) (h := 80) aU rfl (bs rfl (by omega) rfl) bn (by omega) (by omega) (by omega) rfl : Yv _ _ _ _ (.sl g1 16 64 64) _)) (wE [.u8 (bo big), .sl g1 16 64 64] b9 rfl rfl (aa (aG big _ ((ak (H25.g 1 rfl) hyl).drop_ 16) (hby.drop 16) (by omega) (by omega)) ?_)))))))
 rintro e w28 ⟨rfl, HS27⟩
 have H29 := H25.cal0 HS27
 refine ⟨_, rfl, ?_⟩
 refine wc rfl (wf qY rfl (ws (es H29 2 4 (.u32 (n4 big (ys.drop 16))) rfl ar (fun w31 H30 =>  ?_))))
 refine wn (sr (mp hb 0 rfl (mv (.u8 (bo big)) rfl (ms g1 0 80 80 rfl (wv rfl ((am (l := 20) (h := 80) aU rfl (bs rfl (by omega) rfl) bn (by omega) (by omega) (by omega) rfl : Yv _ _ _ _ (.sl g1 20 60 60) _)) (wE [.u8 (bo big), .sl g1 20 60 60] b9 rfl rfl (aa (aG big _ ((ak (H30.g 1 rfl) hyl).drop_ 20) (hby.drop 20) (by omega) (by omega)) ?_)))))))
 rintro e w33 ⟨rfl, HS32⟩
 have H34 := H30.cal0 HS32
 refine ⟨_, rfl, ?_⟩
 refine wc rfl (wf qX rfl (ws (es H34 2 5 (.u32 (n4 big (ys.drop 20))) rfl ar (fun w36 H35 =>  ?_))))
 refine wn (sr (mp hb 0 rfl (mv (.u8 (bo big)) rfl (ms g1 0 80 80 rfl (wv rfl ((am (l := 24) (h := 80) aU rfl (bs rfl (by omega) rfl) bn (by omega) (by omega) (by omega) rfl : Yv _ _ _ _ (.sl g1 24 56 56) _)) (wE [.u8 (bo big), .sl g1 24 56 56] b9 rfl rfl (aa (aG big _ ((ak (H35.g 1 rfl) hyl).drop_ 24) (hby.drop 24) (by omega) (by omega)) ?_)))))))
 rintro e w38 ⟨rfl, HS37⟩
 have H39 := H35.cal0 HS37
 refine ⟨_, rfl, ?_⟩
 refine wc rfl (wf kQ rfl (ws (es H39 2 6 (.u32 (n4 big (ys.drop 24))) rfl ar (fun w41 H40 =>  ?_))))
 refine wn (sr (mp hb 0 rfl (mv (.u8 (bo big)) rfl (ms g1 0 80 80 rfl (wv rfl ((am (l := 28) (h := 80) aU rfl (bs rfl (by omega) rfl) bn (by omega) (by omega) (by omega) rfl : Yv _ _ _ _ (.sl g1 28 52 52) _)) (wE [.u8 (bo big), .sl g1 28 52 52] b9 rfl rfl (aa (aG big _ ((ak (H40.g 1 rfl) hyl).drop_ 28) (hby.drop 28) (by omega) (by omega)) ?_)))))))
 rintro e w43 ⟨rfl, HS42⟩
 have H44 := H40.cal0 HS42
 refine ⟨_, rfl, ?_⟩
 refine wc rfl (wf nf rfl (ws (es H44 2 7 (.u32 (n4 big (ys.drop 28))) rfl ar (fun w46 H45 =>  ?_))))
 refine wn (sr (mp hb 0 rfl (mv (.u8 (bo big)) rfl (ms g1 0 80 80 rfl (wv rfl ((am (l := 32) (h := 80) aU rfl (bs rfl (by omega) rfl) bn (by omega) (by omega) (by omega) rfl : Yv _ _ _ _ (.sl g1 32 48 48) _)) (wE [.u8 (bo big), .sl g1 32 48 48] b9 rfl rfl (aa (aG big _ ((ak (H45.g 1 rfl) hyl).drop_ 32) (hby.drop 32) (by omega) (by omega)) ?_)))))))
 rintro e w48 ⟨rfl, HS47⟩
 have H49 := H45.cal0 HS47
 refine ⟨_, rfl, ?_⟩
 refine wc rfl (wf qW rfl (ws (es H49 2 8 (.u32 (n4 big (ys.drop 32))) rfl ar (fun w51 H50 =>  ?_))))
 refine wn (sr (mp hb 0 rfl (mv (.u8 (bo big)) rfl (ms g1 0 80 80 rfl (wv rfl ((am (l := 36) (h := 80) aU rfl (bs rfl (by omega) rfl) bn (by omega) (by omega) (by omega) rfl : Yv _ _ _ _ (.sl g1 36 44 44) _)) (wE [.u8 (bo big), .sl g1 36 44 44] b9 rfl rfl (aa (aG big _ ((ak (H50.g 1 rfl) hyl).drop_ 36) (hby.drop 36) (by omega) (by omega)) ?_)))))))
 rintro e w53 ⟨rfl, HS52⟩
 have H54 := H50.cal0 HS52
 refine ⟨_, rfl, ?_⟩
 refine wc rfl (wf qV rfl (ws (es H54 2 9 (.u32 (n4 big (ys.drop 36))) rfl ar (fun w56 H55 =>  ?_))))
 refine wn (sr (mp hb 0 rfl (mv (.u8 (bo big)) rfl (ms g1 0 80 80 rfl (wv rfl ((am (l := 40) (h := 80) aU rfl (bs rfl (by omega) rfl) bn (by omega) (by omega) (by omega) rfl : Yv _ _ _ _ (.sl g1 40 40 40) _)) (wE [.u8 (bo big), .sl g1 40 40 40] b9 rfl rfl (aa (aG big _ ((ak (H55.g 1 rfl) hyl).drop_ 40) (hby.drop 40) (by omega) (by omega)) ?_)))))))
 rintro e w58 ⟨rfl, HS57⟩
 have H59 := H55.cal0 HS57
 refine ⟨_, rfl, ?_⟩
 refine wc rfl (wf o9 rfl (ws (es H59 2 10 (.u32 (n4 big (ys.drop 40))) rfl ar (fun w61 H60 =>  ?_))))
 refine wn (sr (mp hb 0 rfl (mv (.u8 (bo big)) rfl (ms g1 0 80 80 rfl (wv rfl ((am (l := 44) (h := 80) aU rfl (bs rfl (by omega) rfl) bn (by omega) (by omega) (by omega) rfl : Yv _ _ _ _ (.sl g1 44 36 36) _)) (wE [.u8 (bo big), .sl g1 44 36 36] b9 rfl rfl (aa (aG big _ ((ak (H60.g 1 rfl) hyl).drop_ 44) (hby.drop 44) (by omega) (by omega)) ?_)))))))
 rintro e w63 ⟨rfl, HS62⟩
 have H64 := H60.cal0 HS62
 refine ⟨_, rfl, ?_⟩
 refine wc rfl (wf o8 rfl (ws (es H64 2 11 (.u32 (n4 big (ys.drop 44))) rfl ar (fun w66 H65 =>  ?_))))
 refine wn (sr (mp hb 0 rfl (mv (.u8 (bo big)) rfl (ms g1 0 80 80 rfl (wv rfl ((am (l := 48) (h := 80) aU rfl (bs rfl (by omega) rfl) bn (by omega) (by omega) (by omega) rfl : Yv _ _ _ _ (.sl g1 48 32 32) _)) (wE [.u8 (bo big), .sl g1 48 32 32] b9 rfl rfl (aa (aG big _ ((ak (H65.g 1 rfl) hyl).drop_ 48) (hby.drop 48) (by omega) (by omega)) ?_)))))))
 rintro e w68 ⟨rfl, HS67⟩
 have H69 := H65.cal0 HS67
 refine ⟨_, rfl, ?_⟩
 refine wc rfl (wf o7 rfl (ws (es H69 2 12 (.u32 (n4 big (ys.drop 48))) rfl ar (fun w71 H70 =>  ?_))))
 refine wn (sr (mp hb 0 rfl (mv (.u8 (bo big)) rfl (ms g1 0 80 80 rfl (wv rfl ((am (l := 52) (h := 80) aU rfl (bs rfl (by omega) rfl) bn (by omega) (by omega) (by omega) rfl : Yv _ _ _ _ (.sl g1 52 28 28) _)) (wE [.u8 (bo big), .sl g1 52 28 28] b9 rfl rfl (aa (aG big _ ((ak (H70.g 1 rfl) hyl).drop_ 52) (hby.drop 52) (by omega) (by omega)) ?_)))))))
 rintro e w73 ⟨rfl, HS72⟩
 have H74 := H70.cal0 HS72
 refine ⟨_, rfl, ?_⟩
 refine wc rfl (wf o6 rfl (ws (es H74 2 13 (.u32 (n4 big (ys.drop 52))) rfl ar (fun w76 H75 =>  ?_))))
 refine wn (sr (mp hb 0 rfl (mv (.u8 (bo big)) rfl (ms g1 0 80 80 rfl (wv rfl ((am (l := 56) (h := 80) aU rfl (bs rfl (by omega) rfl) bn (by omega) (by omega) (by omega) rfl : Yv _ _ _ _ (.sl g1 56 24 24) _)) (wE [.u8 (bo big), .sl g1 56 24 24] b9 rfl rfl (aa (aG big _ ((ak (H75.g 1 rfl) hyl).drop_ 56) (hby.drop 56) (by omega) (by omega)) ?_)))))))
 rintro e w78 ⟨rfl, HS77⟩
 have H79 := H75.cal0 HS77
 refine ⟨_, rfl, ?_⟩
 refine wc rfl (wf jC rfl (ws (es H79 2 14 (.u32 (n4 big (ys.drop 56))) rfl ar (fun w81 H80 =>  ?_))))
 refine wn (sr (mp hb 0 rfl (mv (.u8 (bo big)) rfl (ms g1 0 80 80 rfl (wv rfl ((am (l := 60) (h := 80) aU rfl (bs rfl (by omega) rfl) bn (by omega) (by omega) (by omega) rfl : Yv _ _ _ _ (.sl g1 60 20 20) _)) (wE [.u8 (bo big), .sl g1 60 20 20] b9 rfl rfl (aa (aG big _ ((ak (H80.g 1 rfl) hyl).drop_ 60) (hby.drop 60) (by omega) (by omega)) ?_)))))))
 rintro e w83 ⟨rfl, HS82⟩
 have H84 := H80.cal0 HS82
 refine ⟨_, rfl, ?_⟩
 refine wc rfl (wf iC rfl (ws (es H84 2 15 (.u32 (n4 big (ys.drop 60))) rfl ar (fun w86 H85 =>  ?_))))
 refine wn (sr (mp hb 0 rfl (mv (.u8 (bo big)) rfl (ms g1 0 80 80 rfl (wv rfl ((am (l := 64) (h := 80) aU rfl (bs rfl (by omega) rfl) bn (by omega) (by omega) (by omega) rfl : Yv _ _ _ _ (.sl g1 64 16 16) _)) (wE [.u8 (bo big), .sl g1 64 16 16] b9 rfl rfl (aa (aG big _ ((ak (H85.g 1 rfl) hyl).drop_ 64) (hby.drop 64) (by omega) (by omega)) ?_)))))))
 rintro e w88 ⟨rfl, HS87⟩
 have H89 := H85.cal0 HS87
 refine ⟨_, rfl, ?_⟩
 refine wc rfl (wf o4 rfl (ws (es H89 2 16 (.u32 (n4 big (ys.drop 64))) rfl ar (fun w91 H90 =>  ?_))))
 refine wn (sr (mp hb 0 rfl (mv (.u8 (bo big)) rfl (ms g1 0 80 80 rfl (wv rfl ((am (l := 68) (h := 80) aU rfl (bs rfl (by omega) rfl) bn (by omega) (by omega) (by omega) rfl : Yv _ _ _ _ (.sl g1 68 12 12) _)) (wE [.u8 (bo big), .sl g1 68 12 12] b9 rfl rfl (aa (aG big _ ((ak (H90.g 1 rfl) hyl).drop_ 68) (hby.drop 68) (by omega) (by omega)) ?_)))))))
 rintro e w93 ⟨rfl, HS92⟩
 have H94 := H90.cal0 HS92
 refine ⟨_, rfl, ?_⟩
 refine wc rfl (wf o3 rfl (ws (es H94 2 17 (.u32 (n4 big (ys.drop 68))) rfl ar (fun w96 H95 =>  ?_))))
 refine wn (sr (mp hb 0 rfl (mv (.u8 (bo big)) rfl (ms g1 0 80 80 rfl (wv rfl ((am (l := 72) (h := 80) aU rfl (bs rfl (by omega) rfl) bn (by omega) (by omega) (by omega) rfl : Yv _ _ _ _ (.sl g1 72 8 8) _)) (wE [.u8 (bo big), .sl g1 72 8 8] b9 rfl rfl (aa (aG big _ ((ak (H95.g 1 rfl) hyl).drop_ 72) (hby.drop 72) (by omega) (by omega)) ?_)))))))
 rintro e w98 ⟨rfl, HS97⟩
 have H99 := H95.cal0 HS97
 refine ⟨_, rfl, ?_⟩
 refine wc rfl (wf o2 rfl (ws (es H99 2 18 (.u32 (n4 big (ys.drop 72))) rfl ar (fun w101 H100 =>  ?_))))
 refine wn (sr (mp hb 0 rfl (mv (.u8 (bo big)) rfl (ms g1 0 80 80 rfl (wv rfl ((am (l := 76) (h := 80) aU rfl (bs rfl (by omega) rfl) bn (by omega) (by omega) (by omega) rfl : Yv _ _ _ _ (.sl g1 76 4 4) _)) (wE [.u8 (bo big), .sl g1 76 4 4] b9 rfl rfl (aa (aG big _ ((ak (H100.g 1 rfl) hyl).drop_ 76) (hby.drop 76) (by omega) (by omega)) ?_)))))))
 rintro e w103 ⟨rfl, HS102⟩
 have H104 := H100.cal0 HS102
 refine ⟨_, rfl, ?_⟩
 refine wc rfl (wf o1 rfl (ws (es H104 2 19 (.u32 (n4 big (ys.drop 76))) rfl ar (fun w106 H105 =>  ?_))))
 refine wn (sr (av (.nilIface) rfl (wn (aQ ?_))))
 exact ⟨.inr rfl, _, r1 (.nilIface) rfl _ _, ⟨rfl, (H105.drop 1).perm (.swap ..)⟩⟩
theorem iH {hb rb N C i : Nat} {A : Option Addr} {p : Int} {xs ys : List Int} {a0 a1 : Addr} (big : Bool) (w : World) (hh : (aq hb [.u32 0, .u32 0, .u32 0, .u32 0, .u32 0, .u32 0, .u32 0, .u32 0, .u32 0, .u32 0, .u32 0, .u32 0, .u32 0, .u32 0, .u32 0, .u32 0, .u32 0, .u32 0, .u32 0, .u32 0] 146).φ w) (hrb : (aq rb [.slice A N C, .i64 (↑i), .i64 (p)] 190).φ w) (hG : Glob 224 w a0 a1) (hNC : N ≤ C) (hN63 : N ≤ 9223372036854775807) (hr : RI .u8 w A N xs) (hby0 : Byt xs) (hA : ∀ a, A = some a → a.block < w.heap.size ∧ a.block ≠ rb ∧ a.block ≠ hb) (hb4 : 4 ≤ hb) (hw4 : 4 ≤ w.heap.size) (h4 : 4 ≤ rb) (hne : hb ≠ rb) (ho : N < i + 80) :
 Calls Tryd.prog 57 #[.pt hb, .iface 109 (.pt rb), .u8 (bo big)] w fun e w' => ∃ T v, e = .returned (.iface T v) ∧ St w (fun k => k = hb ∨ k = rb) [] w' := by
 refine a5 (args := [.pt hb, .iface 109 (.pt rb), .u8 (bo big)]) Tryd.func57 rfl rfl rfl ?_
 have H0 : St _ _ [aq hb [.u32 0, .u32 0, .u32 0, .u32 0, .u32 0, .u32 0, .u32 0, .u32 0, .u32 0, .u32 0, .u32 0, .u32 0, .u32 0, .u32 0, .u32 0, .u32 0, .u32 0, .u32 0, .u32 0, .u32 0] 146, aq rb [.slice A N C, .i64 (↑i), .i64 p] 190] _ := ((St.nil w (fun k => k = hb ∨ k = rb)).add _ hrb (fun _ h => .inr h) (by simp)).add _ hh (fun _ h => .inl h) (by simp only [List.mem_singleton]; rintro s rfl g h1 h2; exact hne (h1.symm.trans h2))
 refine sr (av (.nilIface) rfl (wn (sr (wm rfl (bt H0 (n := 80) (m := 80) cA i1 rfl rfl rfl rfl rfl (by omega) (by omega) (by omega) (fun g1 w2 hgg1 H3 =>  eh g1 0 80 80 rfl (wn (ad (sr (mv (.iface 109 (.pt rb)) rfl (ms g1 0 80 80 rfl ?_)))))))))))
 refine wE [.iface 109 (.pt rb), .sl g1 0 80 80] gK rfl rfl ?_
 have hgw : w.heap.size ≤ g1 := Nat.le_trans H0.keep.size hgg1
 have hbl : hb < w.heap.size := aA hh
 have hrl : rb < w.heap.size := aA hrb
 refine aa (iF _ (H3.g 2 rfl) (hG.keep H3.keep (fun k hk => by rcases hk with h | h <;> omega)) hN63 (H3.g 0 rfl) (by omega) h4 (by omega) (hr.keep H3.keep fun a ha h => by have := hA a ha; rcases h with h | h <;> omega) (fun a ha => by have := hA a ha; omega) hNC (by simp) (by omega) (by omega) (by omega) ho) ?_
 rintro e w5 ⟨x, T, v, rfl, HS4⟩
 have H6 := H3.ky 2 0 rfl rfl HS4 (fun _ h => h)
 refine ⟨_, rfl, ?_⟩
 refine mv (.tuple #[x, .iface T v]) rfl (we x rfl rfl (we (.iface T v) rfl rfl (av x rfl (av (.iface T v) rfl (wn (sr (mv (.iface T v) rfl (wv rfl ((nn true bq rfl (.inr ⟨_, _, rfl⟩))) (wn (ay rfl (sr ?_)))))))))))
 refine mv (.iface T v) rfl (av (.iface T v) rfl (wn (rq ?_)))
 exact ⟨.inr rfl, _, r1 (.iface T v) rfl _ _, ⟨_, _, rfl, H6.sub (List.nil_sublist _)⟩⟩
theorem jI {hb rb N C i : Nat} {A : Option Addr} {p : Int} {xs ys : List Int} {a0 a1 : Addr} (big : Bool) (w : World) (hh : (aq hb [.u32 0, .u32 0, .u8 0, .u8 0, .u8 0, .u8 0, .u8 0, .u8 0, .u8 0, .u8 0, .u8 0, .u8 0, .u8 0, .u8 0, .u8 0, .u8 0, .u8 0, .u8 0, .u32 0, .u32 0, .u32 0, .u32 0, .u32 0, .u32 0, .u32 0, .u32 0] 177).φ w) (hrb : (aq rb [.slice A N C, .i64 (↑i), .i64 (p)] 190).φ w) (hG : Glob 224 w a0 a1) (hNC : N ≤ C) (hN63 : N ≤ 9223372036854775807) (hr : RI .u8 w A N xs) (hby0 : Byt xs) (hA : ∀ a, A = some a → a.block < w.heap.size ∧ a.block ≠ rb ∧ a.block ≠ hb) (hb4 : 4 ≤ hb) (hw4 : 4 ≤ w.heap.size) (h4 : 4 ≤ rb) (hne : hb ≠ rb) (ho : i + 56 ≤ N) (hys : ys = (xs.drop i).take 56) :
 Calls Tryd.prog 59 #[.pt hb, .iface 109 (.pt rb), .u8 (bo big)] w fun e w' => e = .returned .nilIface ∧ St w (fun k => k = hb ∨ k = rb) [aq hb [.u32 (n4 big (ys.drop 0)), .u32 (n4 big (ys.drop 4)), .u8 (ys.getD (8 + 0) 0), .u8 (ys.getD (8 + 1) 0), .u8 (ys.getD (8 + 2) 0), .u8 (ys.getD (8 + 3) 0), .u8 (ys.getD (8 + 4) 0), .u8 (ys.getD (8 + 5) 0), .u8 (ys.getD (8 + 6) 0), .u8 (ys.getD (8 + 7) 0), .u8 (ys.getD (8 + 8) 0), .u8 (ys.getD (8 + 9) 0), .u8 (ys.getD (8 + 10) 0), .u8 (ys.getD (8 + 11) 0), .u8 (ys.getD (8 + 12) 0), .u8 (ys.getD (8 + 13) 0), .u8 (ys.getD (8 + 14) 0), .u8 (ys.getD (8 + 15) 0), .u32 (n4 big (ys.drop 24)), .u32 (n4 big (ys.drop 28)), .u32 (n4 big (ys.drop 32)), .u32 (n4 big (ys.drop 36)), .u32 (n4 big (ys.drop 40)), .u32 (n4 big (ys.drop 44)), .u32 (n4 big (ys.drop 48)), .u32 (n4 big (ys.drop 52))] 177, aq rb [.slice A N C, .i64 (↑i + 56), .i64 (-1)] 190] w' := by
 have hyl : ys.length = 56 := by rw [hys, List.length_take, List.length_drop, hr.1]; omega
 have hby : Byt ys := by rw [hys]; exact (hby0.drop _).take _
 refine a5 (args := [.pt hb, .iface 109 (.pt rb), .u8 (bo big)]) Tryd.func59 rfl rfl rfl ?_
 have H0 : St _ _ [aq hb [.u32 0, .u32 0, .u8 0, .u8 0, .u8 0, .u8 0, .u8 0, .u8 0, .u8 0, .u8 0, .u8 0, .u8 0, .u8 0, .u8 0, .u8 0, .u8 0, .u8 0, .u8 0, .u32 0, .u32 0, .u32 0, .u32 0, .u32 0, .u32 0, .u32 0, .u32 0] 177, aq rb [.slice A N C, .i64 (↑i), .i64 p] 190] _ := ((St.nil w (fun k => k = hb ∨ k = rb)).add _ hrb (fun _ h => .inr h) (by simp)).add _ hh (fun _ h => .inl h) (by simp only [List.mem_singleton]; rintro s rfl g h1 h2; exact hne (h1.symm.trans h2))
 refine sr (av (.nilIface) rfl (wn (sr (wm rfl (bt H0 (n := 56) (m := 56) cA i1 rfl rfl rfl rfl rfl (by omega) (by omega) (by omega) (fun g1 w2 hgg1 H3 =>  eh g1 0 56 56 rfl (wn (ad (sr (mv (.iface 109 (.pt rb)) rfl (ms g1 0 56 56 rfl ?_)))))))))))
 refine wE [.iface 109 (.pt rb), .sl g1 0 56 56] gK rfl rfl ?_
 have hgw : w.heap.size ≤ g1 := Nat.le_trans H0.keep.size hgg1
 have hbl : hb < w.heap.size := aA hh
 have hrl : rb < w.heap.size := aA hrb
 refine aa (iE _ (H3.g 2 rfl) (hG.keep H3.keep (fun k hk => by rcases hk with h | h <;> omega)) hN63 (H3.g 0 rfl) (by omega) h4 (by omega) (hr.keep H3.keep fun a ha h => by have := hA a ha; rcases h with h | h <;> omega) (fun a ha => by have := hA a ha; omega) hNC (by simp) (by omega) (by omega) (by omega) ho) ?_
 rintro e w5 ⟨rfl, HS4⟩
 rw [← hys] at HS4
 have H6 := H3.ky 2 0 rfl rfl HS4 (fun _ h => h)
 refine ⟨_, rfl, ?_⟩
 refine mv (.tuple #[.i64 56, .nilIface]) rfl (we (.i64 56) rfl rfl (we (.nilIface) rfl rfl (ai 56 rfl (av (.nilIface) rfl (wn (sr (mv (.nilIface) rfl (wv rfl ((nn false bq rfl (.inl rfl))) (wn (aj rfl (wk ?_)))))))))))
 refine sr (mp hb 0 rfl (mv (.u8 (bo big)) rfl (ms g1 0 56 56 rfl (wv rfl ((am (l := 0) (h := 56) aU rfl (bs rfl (by omega) rfl) bn (by omega) (by omega) (by omega) rfl : Yv _ _ _ _ (.sl g1 0 56 56) _)) (wE [.u8 (bo big), .sl g1 0 56 56] b9 rfl rfl (aa (aG big _ ((ak (H6.g 1 rfl) hyl).drop_ 0) (hby.drop 0) (by omega) (by omega)) ?_))))))
 rintro e w8 ⟨rfl, HS7⟩
 have H9 := H6.cal0 HS7
 refine ⟨_, rfl, ?_⟩
 refine wc rfl (wf uJ rfl (ws (es H9 2 0 (.u32 (n4 big (ys.drop 0))) rfl fP (fun w11 H10 =>  ?_))))
 refine wn (sr (mp hb 0 rfl (mv (.u8 (bo big)) rfl (ms g1 0 56 56 rfl (wv rfl ((am (l := 4) (h := 56) aU rfl (bs rfl (by omega) rfl) bn (by omega) (by omega) (by omega) rfl : Yv _ _ _ _ (.sl g1 4 52 52) _)) (wE [.u8 (bo big), .sl g1 4 52 52] b9 rfl rfl (aa (aG big _ ((ak (H10.g 1 rfl) hyl).drop_ 4) (hby.drop 4) (by omega) (by omega)) ?_)))))))
 rintro e w13 ⟨rfl, HS12⟩
 have H14 := H10.cal0 HS12
 refine ⟨_, rfl, ?_⟩
 refine wc rfl (wf uI rfl (ws (es H14 2 1 (.u32 (n4 big (ys.drop 4))) rfl ar (fun w16 H15 =>  ?_))))
 refine wn (ad (bC MX (fun w' => True) (tp 0 6 (Plan.run 6 Plan.done)) (by kernel_rfl) ?_))
 have H17 := H15.drew
 have hS18 : (fun w' => True) w16.drew := trivial
 refine py rfl hS18 (al (v := .pt hb) rfl) (py rfl hS18 (ag rfl) (py rfl hS18 (ab (o := 0) qM rfl) (pt rfl hS18 (fun _ hS => (bu (o := 2) (l := 0) (h := 16) i2 rfl (bh _ _) (bh _ _) (by omega) (by omega) : Yv _ _ _ _ (.sl hb 2 16 16) _)) (py rfl hS18 (al (v := .sl g1 0 56 56) rfl) (pt rfl hS18 (fun _ hS => (am (l := 8) (h := 24) aU rfl (bs rfl (by omega) rfl) (bs rfl (by omega) rfl) (by omega) (by omega) (by omega) rfl : Yv _ _ _ _ (.sl g1 8 16 48) _)) (pr rfl (iO H17 2 (m := 16) (k := 8) (cs' := [.u32 (n4 big (ys.drop 0)), .u32 (n4 big (ys.drop 4)), .u8 (ys.getD (8 + 0) 0), .u8 (ys.getD (8 + 1) 0), .u8 (ys.getD (8 + 2) 0), .u8 (ys.getD (8 + 3) 0), .u8 (ys.getD (8 + 4) 0), .u8 (ys.getD (8 + 5) 0), .u8 (ys.getD (8 + 6) 0), .u8 (ys.getD (8 + 7) 0), .u8 (ys.getD (8 + 8) 0), .u8 (ys.getD (8 + 9) 0), .u8 (ys.getD (8 + 10) 0), .u8 (ys.getD (8 + 11) 0), .u8 (ys.getD (8 + 12) 0), .u8 (ys.getD (8 + 13) 0), .u8 (ys.getD (8 + 14) 0), .u8 (ys.getD (8 + 15) 0), .u32 0, .u32 0, .u32 0, .u32 0, .u32 0, .u32 0, .u32 0, .u32 0]) rfl cA ui rfl rfl (ak (H17.g 1 rfl) hyl) rfl (by omega) (nl rfl) rfl (fun w19 H20 =>  ?_))))))))
 have hS21 : (fun w' => True) w19 := trivial
 refine ⟨hS21, ?_⟩
 refine bj (ac (sr (mp hb 0 rfl (mv (.u8 (bo big)) rfl (ms g1 0 56 56 rfl (wv rfl ((am (l := 24) (h := 56) aU rfl (bs rfl (by omega) rfl) bn (by omega) (by omega) (by omega) rfl : Yv _ _ _ _ (.sl g1 24 32 32) _)) (wE [.u8 (bo big), .sl g1 24 32 32] b9 rfl rfl (aa (aG big _ ((ak (H20.g 1 rfl) hyl).drop_ 24) (hby.drop 24) (by omega) (by omega)) ?_))))))))
 rintro e w23 ⟨rfl, HS22⟩
 have H24 := H20.cal0 HS22
 refine ⟨_, rfl, ?_⟩
 refine wc rfl (wf qL rfl (ws (es H24 2 18 (.u32 (n4 big (ys.drop 24))) rfl ar (fun w26 H25 =>  ?_))))
 refine wn (sr (mp hb 0 rfl (mv (.u8 (bo big)) rfl (ms g1 0 56 56 rfl (wv rfl ((am (l := 28) (h := 56) aU rfl (bs rfl (by omega) rfl) bn (by omega) (by omega) (by omega) rfl : Yv _ _ _ _ (.sl g1 28 28 28) _)) (wE [.u8 (bo big), .sl g1 28 28 28] b9 rfl rfl (aa (aG big _ ((ak (H25.g 1 rfl) hyl).drop_ 28) (hby.drop 28) (by omega) (by omega)) ?_)))))))
 rintro e w28 ⟨rfl, HS27⟩
 have H29 := H25.cal0 HS27
 refine ⟨_, rfl, ?_⟩
 refine wc rfl (wf qK rfl (ws (es H29 2 19 (.u32 (n4 big (ys.drop 28))) rfl ar (fun w31 H30 =>  ?_))))
 refine wn (sr (mp hb 0 rfl (mv (.u8 (bo big)) rfl (ms g1 0 56 56 rfl (wv rfl ((am (l := 32) (h := 56) aU rfl (bs rfl (by omega) rfl) bn (by omega) (by omega) (by omega) rfl : Yv _ _ _ _ (.sl g1 32 24 24) _)) (wE [.u8 (bo big), .sl g1 32 24 24] b9 rfl rfl (aa (aG big _ ((ak (H30.g 1 rfl) hyl).drop_ 32) (hby.drop 32) (by omega) (by omega)) ?_)))))))
 rintro e w33 ⟨rfl, HS32⟩
 have H34 := H30.cal0 HS32
 refine ⟨_, rfl, ?_⟩
 refine wc rfl (wf qJ rfl (ws (es H34 2 20 (.u32 (n4 big (ys.drop 32))) rfl ar (fun w36 H35 =>  ?_))))
 refine wn (sr (mp hb 0 rfl (mv (.u8 (bo big)) rfl (ms g1 0 56 56 rfl (wv rfl ((am (l := 36) (h := 56) aU rfl (bs rfl (by omega) rfl) bn (by omega) (by omega) (by omega) rfl : Yv _ _ _ _ (.sl g1 36 20 20) _)) (wE [.u8 (bo big), .sl g1 36 20 20] b9 rfl rfl (aa (aG big _ ((ak (H35.g 1 rfl) hyl).drop_ 36) (hby.drop 36) (by omega) (by omega)) ?_)))))))
 rintro e w38 ⟨rfl, HS37⟩
 have H39 := H35.cal0 HS37
 refine ⟨_, rfl, ?_⟩
 refine wc rfl (wf qI rfl (ws (es H39 2 21 (.u32 (n4 big (ys.drop 36))) rfl ar (fun w41 H40 =>  ?_))))
 refine wn (sr (mp hb 0 rfl (mv (.u8 (bo big)) rfl (ms g1 0 56 56 rfl (wv rfl ((am (l := 40) (h := 56) aU rfl (bs rfl (by omega) rfl) bn (by omega) (by omega) (by omega) rfl : Yv _ _ _ _ (.sl g1 40 16 16) _)) (wE [.u8 (bo big), .sl g1 40 16 16] b9 rfl rfl (aa (aG big _ ((ak (H40.g 1 rfl) hyl).drop_ 40) (hby.drop 40) (by omega) (by omega)) ?_)))))))
 rintro e w43 ⟨rfl, HS42⟩
 have H44 := H40.cal0 HS42
 refine ⟨_, rfl, ?_⟩
 refine wc rfl (wf qH rfl (ws (es H44 2 22 (.u32 (n4 big (ys.drop 40))) rfl ar (fun w46 H45 =>  ?_))))
 refine wn (sr (mp hb 0 rfl (mv (.u8 (bo big)) rfl (ms g1 0 56 56 rfl (wv rfl ((am (l := 44) (h := 56) aU rfl (bs rfl (by omega) rfl) bn (by omega) (by omega) (by omega) rfl : Yv _ _ _ _ (.sl g1 44 12 12) _)) (wE [.u8 (bo big), .sl g1 44 12 12] b9 rfl rfl (aa (aG big _ ((ak (H45.g 1 rfl) hyl).drop_ 44) (hby.drop 44) (by omega) (by omega)) ?_)))))))
 rintro e w48 ⟨rfl, HS47⟩
 have H49 := H45.cal0 HS47
 refine ⟨_, rfl, ?_⟩
 refine wc rfl (wf qG rfl (ws (es H49 2 23 (.u32 (n4 big (ys.drop 44))) rfl ar (fun w51 H50 =>  ?_))))
 refine wn (sr (mp hb 0 rfl (mv (.u8 (bo big)) rfl (ms g1 0 56 56 rfl (wv rfl ((am (l := 48) (h := 56) aU rfl (bs rfl (by omega) rfl) bn (by omega) (by omega) (by omega) rfl : Yv _ _ _ _ (.sl g1 48 8 8) _)) (wE [.u8 (bo big), .sl g1 48 8 8] b9 rfl rfl (aa (aG big _ ((ak (H50.g 1 rfl) hyl).drop_ 48) (hby.drop 48) (by omega) (by omega)) ?_)))))))
 rintro e w53 ⟨rfl, HS52⟩
 have H54 := H50.cal0 HS52
 refine ⟨_, rfl, ?_⟩
 refine wc rfl (wf qF rfl (ws (es H54 2 24 (.u32 (n4 big (ys.drop 48))) rfl ar (fun w56 H55 =>  ?_))))
 refine wn (sr (mp hb 0 rfl (mv (.u8 (bo big)) rfl (ms g1 0 56 56 rfl (wv rfl ((am (l := 52) (h := 56) aU rfl (bs rfl (by omega) rfl) bn (by omega) (by omega) (by omega) rfl : Yv _ _ _ _ (.sl g1 52 4 4) _)) (wE [.u8 (bo big), .sl g1 52 4 4] b9 rfl rfl (aa (aG big _ ((ak (H55.g 1 rfl) hyl).drop_ 52) (hby.drop 52) (by omega) (by omega)) ?_)))))))
 rintro e w58 ⟨rfl, HS57⟩
 have H59 := H55.cal0 HS57
 refine ⟨_, rfl, ?_⟩
 refine wc rfl (wf oz rfl (ws (es H59 2 25 (.u32 (n4 big (ys.drop 52))) rfl ar (fun w61 H60 =>  ?_))))
 refine wn (sr (av (.nilIface) rfl (wn (aQ ?_))))
 exact ⟨.inr rfl, _, r1 (.nilIface) rfl _ _, ⟨rfl, (H60.drop 1).perm (.swap ..)⟩⟩
theorem jo {hb rb N C i : Nat} {A : Option Addr} {p : Int} {xs ys : List Int} {a0 a1 : Addr} (big : Bool) (w : World) (hh : (aq hb [.u32 0, .u32 0, .u8 0, .u8 0, .u8 0, .u8 0, .u8 0, .u8 0, .u8 0, .u8 0, .u8 0, .u8 0, .u8 0, .u8 0, .u8 0, .u8 0, .u8 0, .u8 0, .u32 0, .u32 0, .u32 0, .u32 0, .u32 0, .u32 0, .u32 0, .u32 0] 177).φ w) (hrb : (aq rb [.slice A N C, .i64 (↑i), .i64 (p)] 190).φ w) (hG : Glob 224 w a0 a1) (hNC : N ≤ C) (hN63 : N ≤ 9223372036854775807) (hr : RI .u8 w A N xs) (hby0 : Byt xs) (hA : ∀ a, A = some a → a.block < w.heap.size ∧ a.block ≠ rb ∧ a.block ≠ hb) (hb4 : 4 ≤ hb) (hw4 : 4 ≤ w.heap.size) (h4 : 4 ≤ rb) (hne : hb ≠ rb) (ho : N < i + 56) :
 Calls Tryd.prog 59 #[.pt hb, .iface 109 (.pt rb), .u8 (bo big)] w fun e w' => ∃ T v, e = .returned (.iface T v) ∧ St w (fun k => k = hb ∨ k = rb) [] w' := by
 refine a5 (args := [.pt hb, .iface 109 (.pt rb), .u8 (bo big)]) Tryd.func59 rfl rfl rfl ?_
 have H0 : St _ _ [aq hb [.u32 0, .u32 0, .u8 0, .u8 0, .u8 0, .u8 0, .u8 0, .u8 0, .u8 0, .u8 0, .u8 0, .u8 0, .u8 0, .u8 0, .u8 0, .u8 0, .u8 0, .u8 0, .u32 0, .u32 0, .u32 0, .u32 0, .u32 0, .u32 0, .u32 0, .u32 0] 177, aq rb [.slice A N C, .i64 (↑i), .i64 p] 190] _ := ((St.nil w (fun k => k = hb ∨ k = rb)).add _ hrb (fun _ h => .inr h) (by simp)).add _ hh (fun _ h => .inl h) (by simp only [List.mem_singleton]; rintro s rfl g h1 h2; exact hne (h1.symm.trans h2))
 refine sr (av (.nilIface) rfl (wn (sr (wm rfl (bt H0 (n := 56) (m := 56) cA i1 rfl rfl rfl rfl rfl (by omega) (by omega) (by omega) (fun g1 w2 hgg1 H3 =>  eh g1 0 56 56 rfl (wn (ad (sr (mv (.iface 109 (.pt rb)) rfl (ms g1 0 56 56 rfl ?_)))))))))))
 refine wE [.iface 109 (.pt rb), .sl g1 0 56 56] gK rfl rfl ?_
 have hgw : w.heap.size ≤ g1 := Nat.le_trans H0.keep.size hgg1
 have hbl : hb < w.heap.size := aA hh
 have hrl : rb < w.heap.size := aA hrb
 refine aa (iF _ (H3.g 2 rfl) (hG.keep H3.keep (fun k hk => by rcases hk with h | h <;> omega)) hN63 (H3.g 0 rfl) (by omega) h4 (by omega) (hr.keep H3.keep fun a ha h => by have := hA a ha; rcases h with h | h <;> omega) (fun a ha => by have := hA a ha; omega) hNC (by simp) (by omega) (by omega) (by omega) ho) ?_
 rintro e w5 ⟨x, T, v, rfl, HS4⟩
 have H6 := H3.ky 2 0 rfl rfl HS4 (fun _ h => h)
 refine ⟨_, rfl, ?_⟩
 refine mv (.tuple #[x, .iface T v]) rfl (we x rfl rfl (we (.iface T v) rfl rfl (av x rfl (av (.iface T v) rfl (wn (sr (mv (.iface T v) rfl (wv rfl ((nn true bq rfl (.inr ⟨_, _, rfl⟩))) (wn (ay rfl (sr ?_)))))))))))
 refine mv (.iface T v) rfl (av (.iface T v) rfl (wn (rq ?_)))
 exact ⟨.inr rfl, _, r1 (.iface T v) rfl _ _, ⟨_, _, rfl, H6.sub (List.nil_sublist _)⟩⟩
theorem jH {hb rb N C i : Nat} {A : Option Addr} {p : Int} {xs ys : List Int} {a0 a1 : Addr} (big : Bool) (w : World) (hh : (aq hb [.u32 0, .u32 0, .u8 0, .u8 0, .u8 0, .u8 0, .u8 0, .u8 0, .u8 0, .u8 0, .u8 0, .u8 0, .u8 0, .u8 0, .u8 0, .u8 0, .u8 0, .u8 0, .u64 0, .u64 0, .u64 0, .u64 0, .u32 0, .u32 0, .u32 0, .u32 0] 186).φ w) (hrb : (aq rb [.slice A N C, .i64 (↑i), .i64 (p)] 190).φ w) (hG : Glob 224 w a0 a1) (hNC : N ≤ C) (hN63 : N ≤ 9223372036854775807) (hr : RI .u8 w A N xs) (hby0 : Byt xs) (hA : ∀ a, A = some a → a.block < w.heap.size ∧ a.block ≠ rb ∧ a.block ≠ hb) (hb4 : 4 ≤ hb) (hw4 : 4 ≤ w.heap.size) (h4 : 4 ≤ rb) (hne : hb ≠ rb) (ho : i + 72 ≤ N) (hys : ys = (xs.drop i).take 72) :
 Calls Tryd.prog 62 #[.pt hb, .iface 109 (.pt rb), .u8 (bo big)] w fun e w' => e = .returned .nilIface ∧ St w (fun k => k = hb ∨ k = rb) [aq hb [.u32 (n4 big (ys.drop 0)), .u32 (n4 big (ys.drop 4)), .u8 (ys.getD (8 + 0) 0), .u8 (ys.getD (8 + 1) 0), .u8 (ys.getD (8 + 2) 0), .u8 (ys.getD (8 + 3) 0), .u8 (ys.getD (8 + 4) 0), .u8 (ys.getD (8 + 5) 0), .u8 (ys.getD (8 + 6) 0), .u8 (ys.getD (8 + 7) 0), .u8 (ys.getD (8 + 8) 0), .u8 (ys.getD (8 + 9) 0), .u8 (ys.getD (8 + 10) 0), .u8 (ys.getD (8 + 11) 0), .u8 (ys.getD (8 + 12) 0), .u8 (ys.getD (8 + 13) 0), .u8 (ys.getD (8 + 14) 0), .u8 (ys.getD (8 + 15) 0), .u64 (n8 big (ys.drop 24)), .u64 (n8 big (ys.drop 32)), .u64 (n8 big (ys.drop 40)), .u64 (n8 big (ys.drop 48)), .u32 (n4 big (ys.drop 56)), .u32 (n4 big (ys.drop 60)), .u32 (n4 big (ys.drop 64)), .u32 (n4 big (ys.drop 68))] 186, aq rb [.slice A N C, .i64 (↑i + 72), .i64 (-1)] 190] w' := by
 have hyl : ys.length = 72 := by rw [hys, List.length_take, List.length_drop, hr.1]; omega
 have hby : Byt ys := by rw [hys]; exact (hby0.drop _).take _
 refine a5 (args := [.pt hb, .iface 109 (.pt rb), .u8 (bo big)]) Tryd.func62 rfl rfl rfl ?_
 have H0 : St _ _ [aq hb [.u32 0, .u32 0, .u8 0, .u8 0, .u8 0, .u8 0, .u8 0, .u8 0, .u8 0, .u8 0, .u8 0, .u8 0, .u8 0, .u8 0, .u8 0, .u8 0, .u8 0, .u8 0, .u64 0, .u64 0, .u64 0, .u64 0, .u32 0, .u32 0, .u32 0, .u32 0] 186, aq rb [.slice A N C, .i64 (↑i), .i64 p] 190] _ := ((St.nil w (fun k => k = hb ∨ k = rb)).add _ hrb (fun _ h => .inr h) (by simp)).add _ hh (fun _ h => .inl h) (by simp only [List.mem_singleton]; rintro s rfl g h1 h2; exact hne (h1.symm.trans h2))
 refine sr (av (.nilIface) rfl (wn (sr (wm rfl (bt H0 (n := 72) (m := 72) cA i1 rfl rfl rfl rfl rfl (by omega) (by omega) (by omega) (fun g1 w2 hgg1 H3 =>  eh g1 0 72 72 rfl (wn (ad (sr (mv (.iface 109 (.pt rb)) rfl (ms g1 0 72 72 rfl ?_)))))))))))
 refine wE [.iface 109 (.pt rb), .sl g1 0 72 72] gK rfl rfl ?_
 have hgw : w.heap.size ≤ g1 := Nat.le_trans H0.keep.size hgg1
 have hbl : hb < w.heap.size := aA hh
 have hrl : rb < w.heap.size := aA hrb
 refine aa (iE _ (H3.g 2 rfl) (hG.keep H3.keep (fun k hk => by rcases hk with h | h <;> omega)) hN63 (H3.g 0 rfl) (by omega) h4 (by omega) (hr.keep H3.keep fun a ha h => by have := hA a ha; rcases h with h | h <;> omega) (fun a ha => by have := hA a ha; omega) hNC (by simp) (by omega) (by omega) (by omega) ho) ?_
 rintro e w5 ⟨rfl, HS4⟩
 rw [← hys] at HS4
 have H6 := H3.ky 2 0 rfl rfl HS4 (fun _ h => h)
 refine ⟨_, rfl, ?_⟩
 refine mv (.tuple #[.i64 72, .nilIface]) rfl (we (.i64 72) rfl rfl (we (.nilIface) rfl rfl (ai 72 rfl (av (.nilIface) rfl (wn (sr (mv (.nilIface) rfl (wv rfl ((nn false bq rfl (.inl rfl))) (wn (aj rfl (wk ?_)))))))))))
 refine sr (mp hb 0 rfl (mv (.u8 (bo big)) rfl (ms g1 0 72 72 rfl (wv rfl ((am (l := 0) (h := 72) aU rfl (bs rfl (by omega) rfl) bn (by omega) (by omega) (by omega) rfl : Yv _ _ _ _ (.sl g1 0 72 72) _)) (wE [.u8 (bo big), .sl g1 0 72 72] b9 rfl rfl (aa (aG big _ ((ak (H6.g 1 rfl) hyl).drop_ 0) (hby.drop 0) (by omega) (by omega)) ?_))))))
 rintro e w8 ⟨rfl, HS7⟩
 have H9 := H6.cal0 HS7
 refine ⟨_, rfl, ?_⟩
 refine wc rfl (wf uG rfl (ws (es H9 2 0 (.u32 (n4 big (ys.drop 0))) rfl fP (fun w11 H10 =>  ?_))))
 refine wn (sr (mp hb 0 rfl (mv (.u8 (bo big)) rfl (ms g1 0 72 72 rfl (wv rfl ((am (l := 4) (h := 72) aU rfl (bs rfl (by omega) rfl) bn (by omega) (by omega) (by omega) rfl : Yv _ _ _ _ (.sl g1 4 68 68) _)) (wE [.u8 (bo big), .sl g1 4 68 68] b9 rfl rfl (aa (aG big _ ((ak (H10.g 1 rfl) hyl).drop_ 4) (hby.drop 4) (by omega) (by omega)) ?_)))))))
 rintro e w13 ⟨rfl, HS12⟩
 have H14 := H10.cal0 HS12
 refine ⟨_, rfl, ?_⟩
 refine wc rfl (wf uF rfl (ws (es H14 2 1 (.u32 (n4 big (ys.drop 4))) rfl ar (fun w16 H15 =>  ?_))))
 refine wn (ad (bC MX (fun w' => True) (tp 0 6 (Plan.run 6 Plan.done)) (by kernel_rfl) ?_))
 have H17 := H15.drew
 have hS18 : (fun w' => True) w16.drew := trivial
 refine py rfl hS18 (al (v := .pt hb) rfl) (py rfl hS18 (ag rfl) (py rfl hS18 (ab (o := 0) qp rfl) (pt rfl hS18 (fun _ hS => (bu (o := 2) (l := 0) (h := 16) i2 rfl (bh _ _) (bh _ _) (by omega) (by omega) : Yv _ _ _ _ (.sl hb 2 16 16) _)) (py rfl hS18 (al (v := .sl g1 0 72 72) rfl) (pt rfl hS18 (fun _ hS => (am (l := 8) (h := 24) aU rfl (bs rfl (by omega) rfl) (bs rfl (by omega) rfl) (by omega) (by omega) (by omega) rfl : Yv _ _ _ _ (.sl g1 8 16 64) _)) (pr rfl (iO H17 2 (m := 16) (k := 8) (cs' := [.u32 (n4 big (ys.drop 0)), .u32 (n4 big (ys.drop 4)), .u8 (ys.getD (8 + 0) 0), .u8 (ys.getD (8 + 1) 0), .u8 (ys.getD (8 + 2) 0), .u8 (ys.getD (8 + 3) 0), .u8 (ys.getD (8 + 4) 0), .u8 (ys.getD (8 + 5) 0), .u8 (ys.getD (8 + 6) 0), .u8 (ys.getD (8 + 7) 0), .u8 (ys.getD (8 + 8) 0), .u8 (ys.getD (8 + 9) 0), .u8 (ys.getD (8 + 10) 0), .u8 (ys.getD (8 + 11) 0), .u8 (ys.getD (8 + 12) 0), .u8 (ys.getD (8 + 13) 0), .u8 (ys.getD (8 + 14) 0), .u8 (ys.getD (8 + 15) 0), .u64 0, .u64 0, .u64 0, .u64 0, .u32 0, .u32 0, .u32 0, .u32 0]) rfl cA ui rfl rfl (ak (H17.g 1 rfl) hyl) rfl (by omega) (nl rfl) rfl (fun w19 H20 =>  ?_))))))))
 have hS21 : (fun w' => True) w19 := trivial
 refine ⟨hS21, ?_⟩
 refine bj (ac (sr (mp hb 0 rfl (mv (.u8 (bo big)) rfl (ms g1 0 72 72 rfl (wv rfl ((am (l := 24) (h := 72) aU rfl (bs rfl (by omega) rfl) bn (by omega) (by omega) (by omega) rfl : Yv _ _ _ _ (.sl g1 24 48 48) _)) (wE [.u8 (bo big), .sl g1 24 48 48] p7 rfl rfl (aa (fM big _ ((ak (H20.g 1 rfl) hyl).drop_ 24) (hby.drop 24) (by omega) (by omega)) ?_))))))))
 rintro e w23 ⟨rfl, HS22⟩
 have H24 := H20.cal0 HS22
 refine ⟨_, rfl, ?_⟩
 refine wc rfl (wf qo rfl (ws (es H24 2 18 (.u64 (n8 big (ys.drop 24))) rfl aM (fun w26 H25 =>  ?_))))
 refine wn (sr (mp hb 0 rfl (mv (.u8 (bo big)) rfl (ms g1 0 72 72 rfl (wv rfl ((am (l := 32) (h := 72) aU rfl (bs rfl (by omega) rfl) bn (by omega) (by omega) (by omega) rfl : Yv _ _ _ _ (.sl g1 32 40 40) _)) (wE [.u8 (bo big), .sl g1 32 40 40] p7 rfl rfl (aa (fM big _ ((ak (H25.g 1 rfl) hyl).drop_ 32) (hby.drop 32) (by omega) (by omega)) ?_)))))))
 rintro e w28 ⟨rfl, HS27⟩
 have H29 := H25.cal0 HS27
 refine ⟨_, rfl, ?_⟩
 refine wc rfl (wf qn rfl (ws (es H29 2 19 (.u64 (n8 big (ys.drop 32))) rfl aM (fun w31 H30 =>  ?_))))
 refine wn (sr (mp hb 0 rfl (mv (.u8 (bo big)) rfl (ms g1 0 72 72 rfl (wv rfl ((am (l := 40) (h := 72) aU rfl (bs rfl (by omega) rfl) bn (by omega) (by omega) (by omega) rfl : Yv _ _ _ _ (.sl g1 40 32 32) _)) (wE [.u8 (bo big), .sl g1 40 32 32] p7 rfl rfl (aa (fM big _ ((ak (H30.g 1 rfl) hyl).drop_ 40) (hby.drop 40) (by omega) (by omega)) ?_)))))))
 rintro e w33 ⟨rfl, HS32⟩
 have H34 := H30.cal0 HS32
 refine ⟨_, rfl, ?_⟩
 refine wc rfl (wf ql rfl (ws (es H34 2 20 (.u64 (n8 big (ys.drop 40))) rfl aM (fun w36 H35 =>  ?_))))
 refine wn (sr (mp hb 0 rfl (mv (.u8 (bo big)) rfl (ms g1 0 72 72 rfl (wv rfl ((am (l := 48) (h := 72) aU rfl (bs rfl (by omega) rfl) bn (by omega) (by omega) (by omega) rfl : Yv _ _ _ _ (.sl g1 48 24 24) _)) (wE [.u8 (bo big), .sl g1 48 24 24] p7 rfl rfl (aa (fM big _ ((ak (H35.g 1 rfl) hyl).drop_ 48) (hby.drop 48) (by omega) (by omega)) ?_)))))))
 rintro e w38 ⟨rfl, HS37⟩
 have H39 := H35.cal0 HS37
 refine ⟨_, rfl, ?_⟩
 refine wc rfl (wf qk rfl (ws (es H39 2 21 (.u64 (n8 big (ys.drop 48))) rfl aM (fun w41 H40 =>  ?_))))
 refine wn (sr (mp hb 0 rfl (mv (.u8 (bo big)) rfl (ms g1 0 72 72 rfl (wv rfl ((am (l := 56) (h := 72) aU rfl (bs rfl (by omega) rfl) bn (by omega) (by omega) (by omega) rfl : Yv _ _ _ _ (.sl g1 56 16 16) _)) (wE [.u8 (bo big), .sl g1 56 16 16] b9 rfl rfl (aa (aG big _ ((ak (H40.g 1 rfl) hyl).drop_ 56) (hby.drop 56) (by omega) (by omega)) ?_)))))))
 rintro e w43 ⟨rfl, HS42⟩
 have H44 := H40.cal0 HS42
 refine ⟨_, rfl, ?_⟩
 refine wc rfl (wf qj rfl (ws (es H44 2 22 (.u32 (n4 big (ys.drop 56))) rfl ar (fun w46 H45 =>  ?_))))
 refine wn (sr (mp hb 0 rfl (mv (.u8 (bo big)) rfl (ms g1 0 72 72 rfl (wv rfl ((am (l := 60) (h := 72) aU rfl (bs rfl (by omega) rfl) bn (by omega) (by omega) (by omega) rfl : Yv _ _ _ _ (.sl g1 60 12 12) _)) (wE [.u8 (bo big), .sl g1 60 12 12] b9 rfl rfl (aa (aG big _ ((ak (H45.g 1 rfl) hyl).drop_ 60) (hby.drop 60) (by omega) (by omega)) ?_)))))))
 rintro e w48 ⟨rfl, HS47⟩
 have H49 := H45.cal0 HS47
 refine ⟨_, rfl, ?_⟩
 refine wc rfl (wf qi rfl (ws (es H49 2 23 (.u32 (n4 big (ys.drop 60))) rfl ar (fun w51 H50 =>  ?_))))
 refine wn (sr (mp hb 0 rfl (mv (.u8 (bo big)) rfl (ms g1 0 72 72 rfl (wv rfl ((am (l := 64) (h := 72) aU rfl (bs rfl (by omega) rfl) bn (by omega) (by omega) (by omega) rfl : Yv _ _ _ _ (.sl g1 64 8 8) _)) (wE [.u8 (bo big), .sl g1 64 8 8] b9 rfl rfl (aa (aG big _ ((ak (H50.g 1 rfl) hyl).drop_ 64) (hby.drop 64) (by omega) (by omega)) ?_)))))))
 rintro e w53 ⟨rfl, HS52⟩
 have H54 := H50.cal0 HS52
 refine ⟨_, rfl, ?_⟩
 refine wc rfl (wf qg rfl (ws (es H54 2 24 (.u32 (n4 big (ys.drop 64))) rfl ar (fun w56 H55 =>  ?_))))
 refine wn (sr (mp hb 0 rfl (mv (.u8 (bo big)) rfl (ms g1 0 72 72 rfl (wv rfl ((am (l := 68) (h := 72) aU rfl (bs rfl (by omega) rfl) bn (by omega) (by omega) (by omega) rfl : Yv _ _ _ _ (.sl g1 68 4 4) _)) (wE [.u8 (bo big), .sl g1 68 4 4] b9 rfl rfl (aa (aG big _ ((ak (H55.g 1 rfl) hyl).drop_ 68) (hby.drop 68) (by omega) (by omega)) ?_)))))))
 rintro e w58 ⟨rfl, HS57⟩
 have H59 := H55.cal0 HS57
 refine ⟨_, rfl, ?_⟩
 refine wc rfl (wf oy rfl (ws (es H59 2 25 (.u32 (n4 big (ys.drop 68))) rfl ar (fun w61 H60 =>  ?_))))
 refine wn (sr (av (.nilIface) rfl (wn (aQ ?_))))
 exact ⟨.inr rfl, _, r1 (.nilIface) rfl _ _, ⟨rfl, (H60.drop 1).perm (.swap ..)⟩⟩
theorem jn {hb rb N C i : Nat} {A : Option Addr} {p : Int} {xs ys : List Int} {a0 a1 : Addr} (big : Bool) (w : World) (hh : (aq hb [.u32 0, .u32 0, .u8 0, .u8 0, .u8 0, .u8 0, .u8 0, .u8 0, .u8 0, .u8 0, .u8 0, .u8 0, .u8 0, .u8 0, .u8 0, .u8 0, .u8 0, .u8 0, .u64 0, .u64 0, .u64 0, .u64 0, .u32 0, .u32 0, .u32 0, .u32 0] 186).φ w) (hrb : (aq rb [.slice A N C, .i64 (↑i), .i64 (p)] 190).φ w) (hG : Glob 224 w a0 a1) (hNC : N ≤ C) (hN63 : N ≤ 9223372036854775807) (hr : RI .u8 w A N xs) (hby0 : Byt xs) (hA : ∀ a, A = some a → a.block < w.heap.size ∧ a.block ≠ rb ∧ a.block ≠ hb) (hb4 : 4 ≤ hb) (hw4 : 4 ≤ w.heap.size) (h4 : 4 ≤ rb) (hne : hb ≠ rb) (ho : N < i + 72) :
 Calls Tryd.prog 62 #[.pt hb, .iface 109 (.pt rb), .u8 (bo big)] w fun e w' => ∃ T v, e = .returned (.iface T v) ∧ St w (fun k => k = hb ∨ k = rb) [] w' := by
 refine a5 (args := [.pt hb, .iface 109 (.pt rb), .u8 (bo big)]) Tryd.func62 rfl rfl rfl ?_
 have H0 : St _ _ [aq hb [.u32 0, .u32 0, .u8 0, .u8 0, .u8 0, .u8 0, .u8 0, .u8 0, .u8 0, .u8 0, .u8 0, .u8 0, .u8 0, .u8 0, .u8 0, .u8 0, .u8 0, .u8 0, .u64 0, .u64 0, .u64 0, .u64 0, .u32 0, .u32 0, .u32 0, .u32 0] 186, aq rb [.slice A N C, .i64 (↑i), .i64 p] 190] _ := ((St.nil w (fun k => k = hb ∨ k = rb)).add _ hrb (fun _ h => .inr h) (by simp)).add _ hh (fun _ h => .inl h) (by simp only [List.mem_singleton]; rintro s rfl g h1 h2; exact hne (h1.symm.trans h2))
 refine sr (av (.nilIface) rfl (wn (sr (wm rfl (bt H0 (n := 72) (m := 72) cA i1 rfl rfl rfl rfl rfl (by omega) (by omega) (by omega) (fun g1 w2 hgg1 H3 =>  eh g1 0 72 72 rfl (wn (ad (sr (mv (.iface 109 (.pt rb)) rfl (ms g1 0 72 72 rfl ?_)))))))))))
 refine wE [.iface 109 (.pt rb), .sl g1 0 72 72] gK rfl rfl ?_
 have hgw : w.heap.size ≤ g1 := Nat.le_trans H0.keep.size hgg1
 have hbl : hb < w.heap.size := aA hh
 have hrl : rb < w.heap.size := aA hrb
 refine aa (iF _ (H3.g 2 rfl) (hG.keep H3.keep (fun k hk => by rcases hk with h | h <;> omega)) hN63 (H3.g 0 rfl) (by omega) h4 (by omega) (hr.keep H3.keep fun a ha h => by have := hA a ha; rcases h with h | h <;> omega) (fun a ha => by have := hA a ha; omega) hNC (by simp) (by omega) (by omega) (by omega) ho) ?_
 rintro e w5 ⟨x, T, v, rfl, HS4⟩
 have H6 := H3.ky 2 0 rfl rfl HS4 (fun _ h => h)
 refine ⟨_, rfl, ?_⟩
 refine mv (.tuple #[x, .iface T v]) rfl (we x rfl rfl (we (.iface T v) rfl rfl (av x rfl (av (.iface T v) rfl (wn (sr (mv (.iface T v) rfl (wv rfl ((nn true bq rfl (.inr ⟨_, _, rfl⟩))) (wn (ay rfl (sr ?_)))))))))))
 refine mv (.iface T v) rfl (av (.iface T v) rfl (wn (rq ?_)))
 exact ⟨.inr rfl, _, r1 (.iface T v) rfl _ _, ⟨_, _, rfl, H6.sub (List.nil_sublist _)⟩⟩
theorem jK {hb rb N C i : Nat} {A : Option Addr} {p : Int} {xs ys : List Int} {a0 a1 : Addr} (big : Bool) (w : World) (hh : (aq hb [.u8 0, .u8 0, .u8 0, .u8 0, .u8 0, .u8 0, .u8 0, .u8 0, .u8 0, .u8 0, .u8 0, .u8 0, .u8 0, .u8 0, .u8 0, .u8 0, .u8 0, .u8 0, .u8 0, .u8 0, .u8 0, .u8 0, .u8 0, .u8 0, .u8 0, .u8 0, .u8 0, .u8 0, .u8 0, .u8 0, .u8 0, .u8 0, .u32 0, .u32 0, .u32 0, .u32 0, .u32 0, .u32 0, .u32 0, .u32 0, .u32 0] 183).φ w) (hrb : (aq rb [.slice A N C, .i64 (↑i), .i64 (p)] 190).φ w) (hG : Glob 224 w a0 a1) (hNC : N ≤ C) (hN63 : N ≤ 9223372036854775807) (hr : RI .u8 w A N xs) (hby0 : Byt xs) (hA : ∀ a, A = some a → a.block < w.heap.size ∧ a.block ≠ rb ∧ a.block ≠ hb) (hb4 : 4 ≤ hb) (hw4 : 4 ≤ w.heap.size) (h4 : 4 ≤ rb) (hne : hb ≠ rb) (ho : i + 68 ≤ N) (hys : ys = (xs.drop i).take 68) :
 Calls Tryd.prog 60 #[.pt hb, .iface 109 (.pt rb), .u8 (bo big)] w fun e w' => e = .returned .nilIface ∧ St w (fun k => k = hb ∨ k = rb) [aq hb [.u8 (ys.getD (0 + 0) 0), .u8 (ys.getD (0 + 1) 0), .u8 (ys.getD (0 + 2) 0), .u8 (ys.getD (0 + 3) 0), .u8 (ys.getD (0 + 4) 0), .u8 (ys.getD (0 + 5) 0), .u8 (ys.getD (0 + 6) 0), .u8 (ys.getD (0 + 7) 0), .u8 (ys.getD (0 + 8) 0), .u8 (ys.getD (0 + 9) 0), .u8 (ys.getD (0 + 10) 0), .u8 (ys.getD (0 + 11) 0), .u8 (ys.getD (0 + 12) 0), .u8 (ys.getD (0 + 13) 0), .u8 (ys.getD (0 + 14) 0), .u8 (ys.getD (0 + 15) 0), .u8 (ys.getD (16 + 0) 0), .u8 (ys.getD (16 + 1) 0), .u8 (ys.getD (16 + 2) 0), .u8 (ys.getD (16 + 3) 0), .u8 (ys.getD (16 + 4) 0), .u8 (ys.getD (16 + 5) 0), .u8 (ys.getD (16 + 6) 0), .u8 (ys.getD (16 + 7) 0), .u8 (ys.getD (16 + 8) 0), .u8 (ys.getD (16 + 9) 0), .u8 (ys.getD (16 + 10) 0), .u8 (ys.getD (16 + 11) 0), .u8 (ys.getD (16 + 12) 0), .u8 (ys.getD (16 + 13) 0), .u8 (ys.getD (16 + 14) 0), .u8 (ys.getD (16 + 15) 0), .u32 (n4 big (ys.drop 32)), .u32 (n4 big (ys.drop 36)), .u32 (n4 big (ys.drop 40)), .u32 (n4 big (ys.drop 44)), .u32 (n4 big (ys.drop 48)), .u32 (n4 big (ys.drop 52)), .u32 (n4 big (ys.drop 56)), .u32 (n4 big (ys.drop 60)), .u32 (n4 big (ys.drop 64))] 183, aq rb [.slice A N C, .i64 (↑i + 68), .i64 (-1)] 190] w' := by
 have hyl : ys.length = 68 := by rw [hys, List.length_take, List.length_drop, hr.1]; omega
 have hby : Byt ys := by rw [hys]; exact (hby0.drop _).take _
 refine a5 (args := [.pt hb, .iface 109 (.pt rb), .u8 (bo big)]) Tryd.func60 rfl rfl rfl ?_
 have H0 : St _ _ [aq hb [.u8 0, .u8 0, .u8 0, .u8 0, .u8 0, .u8 0, .u8 0, .u8 0, .u8 0, .u8 0, .u8 0, .u8 0, .u8 0, .u8 0, .u8 0, .u8 0, .u8 0, .u8 0, .u8 0, .u8 0, .u8 0, .u8 0, .u8 0, .u8 0, .u8 0, .u8 0, .u8 0, .u8 0, .u8 0, .u8 0, .u8 0, .u8 0, .u32 0, .u32 0, .u32 0, .u32 0, .u32 0, .u32 0, .u32 0, .u32 0, .u32 0] 183, aq rb [.slice A N C, .i64 (↑i), .i64 p] 190] _ := ((St.nil w (fun k => k = hb ∨ k = rb)).add _ hrb (fun _ h => .inr h) (by simp)).add _ hh (fun _ h => .inl h) (by simp only [List.mem_singleton]; rintro s rfl g h1 h2; exact hne (h1.symm.trans h2))
 refine sr (av (.nilIface) rfl (wn (sr (wm rfl (bt H0 (n := 68) (m := 68) cA i1 rfl rfl rfl rfl rfl (by omega) (by omega) (by omega) (fun g1 w2 hgg1 H3 =>  eh g1 0 68 68 rfl (wn (ad (sr (mv (.iface 109 (.pt rb)) rfl (ms g1 0 68 68 rfl ?_)))))))))))
 refine wE [.iface 109 (.pt rb), .sl g1 0 68 68] gK rfl rfl ?_
 have hgw : w.heap.size ≤ g1 := Nat.le_trans H0.keep.size hgg1
 have hbl : hb < w.heap.size := aA hh
 have hrl : rb < w.heap.size := aA hrb
 refine aa (iE _ (H3.g 2 rfl) (hG.keep H3.keep (fun k hk => by rcases hk with h | h <;> omega)) hN63 (H3.g 0 rfl) (by omega) h4 (by omega) (hr.keep H3.keep fun a ha h => by have := hA a ha; rcases h with h | h <;> omega) (fun a ha => by have := hA a ha; omega) hNC (by simp) (by omega) (by omega) (by omega) ho) ?_
 rintro e w5 ⟨rfl, HS4⟩
 rw [← hys] at HS4
 have H6 := H3.ky 2 0 rfl rfl HS4 (fun _ h => h)
 refine ⟨_, rfl, ?_⟩
 refine mv (.tuple #[.i64 68, .nilIface]) rfl (we (.i64 68) rfl rfl (we (.nilIface) rfl rfl (ai 68 rfl (av (.nilIface) rfl (wn (sr (mv (.nilIface) rfl (wv rfl ((nn false bq rfl (.inl rfl))) (wn (aj rfl (wk ?_)))))))))))
 refine ad (bC MX (fun w' => True) (tp 0 6 (Plan.run 6 Plan.done)) (by kernel_rfl) ?_)
 have H7 := H6.drew
 have hS8 : (fun w' => True) w5.drew := trivial
 refine py rfl hS8 (al (v := .pt hb) rfl) (py rfl hS8 (ag rfl) (py rfl hS8 (ab (o := 0) qC rfl) (pt rfl hS8 (fun _ hS => (bu (o := 0) (l := 0) (h := 16) i2 rfl (bh _ _) (bh _ _) (by omega) (by omega) : Yv _ _ _ _ (.sl hb 0 16 16) _)) (py rfl hS8 (al (v := .sl g1 0 68 68) rfl) (pt rfl hS8 (fun _ hS => (am (l := 0) (h := 16) aU rfl (bs rfl (by omega) rfl) (bs rfl (by omega) rfl) (by omega) (by omega) (by omega) rfl : Yv _ _ _ _ (.sl g1 0 16 68) _)) (pr rfl (iO H7 2 (m := 16) (k := 0) (cs' := [.u8 (ys.getD (0 + 0) 0), .u8 (ys.getD (0 + 1) 0), .u8 (ys.getD (0 + 2) 0), .u8 (ys.getD (0 + 3) 0), .u8 (ys.getD (0 + 4) 0), .u8 (ys.getD (0 + 5) 0), .u8 (ys.getD (0 + 6) 0), .u8 (ys.getD (0 + 7) 0), .u8 (ys.getD (0 + 8) 0), .u8 (ys.getD (0 + 9) 0), .u8 (ys.getD (0 + 10) 0), .u8 (ys.getD (0 + 11) 0), .u8 (ys.getD (0 + 12) 0), .u8 (ys.getD (0 + 13) 0), .u8 (ys.getD (0 + 14) 0), .u8 (ys.getD (0 + 15) 0), .u8 0, .u8 0, .u8 0, .u8 0, .u8 0, .u8 0, .u8 0, .u8 0, .u8 0, .u8 0, .u8 0, .u8 0, .u8 0, .u8 0, .u8 0, .u8 0, .u32 0, .u32 0, .u32 0, .u32 0, .u32 0, .u32 0, .u32 0, .u32 0, .u32 0]) rfl cA ui rfl rfl (ak (H7.g 1 rfl) hyl) rfl (by omega) (nl rfl) rfl (fun w9 H10 =>  ?_))))))))
 have hS11 : (fun w' => True) w9 := trivial
 refine ⟨hS11, ?_⟩
 refine bj (ac (ad (bC MX (fun w' => True) (tp 0 6 (Plan.run 6 Plan.done)) (by kernel_rfl) ?_)))
 have H12 := H10.drew
 have hS13 : (fun w' => True) w9.drew := trivial
 refine py rfl hS13 (al (v := .pt hb) rfl) (py rfl hS13 (ag rfl) (py rfl hS13 (ab (o := 0) qB rfl) (pt rfl hS13 (fun _ hS => (bu (o := 16) (l := 0) (h := 16) i2 rfl (bh _ _) (bh _ _) (by omega) (by omega) : Yv _ _ _ _ (.sl hb 16 16 16) _)) (py rfl hS13 (al (v := .sl g1 0 68 68) rfl) (pt rfl hS13 (fun _ hS => (am (l := 16) (h := 32) aU rfl (bs rfl (by omega) rfl) (bs rfl (by omega) rfl) (by omega) (by omega) (by omega) rfl : Yv _ _ _ _ (.sl g1 16 16 52) _)) (pr rfl (iO H12 2 (m := 16) (k := 16) (cs' := [.u8 (ys.getD (0 + 0) 0), .u8 (ys.getD (0 + 1) 0), .u8 (ys.getD (0 + 2) 0), .u8 (ys.getD (0 + 3) 0), .u8 (ys.getD (0 + 4) 0), .u8 (ys.getD (0 + 5) 0), .u8 (ys.getD (0 + 6) 0), .u8 (ys.getD (0 + 7) 0), .u8 (ys.getD (0 + 8) 0), .u8 (ys.getD (0 + 9) 0), .u8 (ys.getD (0 + 10) 0), .u8 (ys.getD (0 + 11) 0), .u8 (ys.getD (0 + 12) 0), .u8 (ys.getD (0 + 13) 0), .u8 (ys.getD (0 + 14) 0), .u8 (ys.getD (0 + 15) 0), .u8 (ys.getD (16 + 0) 0), .u8 (ys.getD (16 + 1) 0), .u8 (ys.getD (16 + 2) 0), .u8 (ys.getD (16 + 3) 0), .u8 (ys.getD (16 + 4) 0), .u8 (ys.getD (16 + 5) 0), .u8 (ys.getD (16 + 6) 0), .u8 (ys.getD (16 + 7) 0), .u8 (ys.getD (16 + 8) 0), .u8 (ys.getD (16 + 9) 0), .u8 (ys.getD (16 + 10) 0), .u8 (ys.getD (16 + 11) 0), .u8 (ys.getD (16 + 12) 0), .u8 (ys.getD (16 + 13) 0), .u8 (ys.getD (16 + 14) 0), .u8 (ys.getD (16 + 15) 0), .u32 0, .u32 0, .u32 0, .u32 0, .u32 0, .u32 0, .u32 0, .u32 0, .u32 0]) rfl cA ui rfl rfl (ak (H12.g 1 rfl) hyl) rfl (by omega) (nl rfl) rfl (fun w14 H15 =>  ?_))))))))
 have hS16 : (fun w' => True) w14 := trivial
 refine ⟨hS16, ?_⟩
 refine bj (ac (sr (mp hb 0 rfl (mv (.u8 (bo big)) rfl (ms g1 0 68 68 rfl (wv rfl ((am (l := 32) (h := 68) aU rfl (bs rfl (by omega) rfl) bn (by omega) (by omega) (by omega) rfl : Yv _ _ _ _ (.sl g1 32 36 36) _)) (wE [.u8 (bo big), .sl g1 32 36 36] b9 rfl rfl (aa (aG big _ ((ak (H15.g 1 rfl) hyl).drop_ 32) (hby.drop 32) (by omega) (by omega)) ?_))))))))
 rintro e w18 ⟨rfl, HS17⟩
 have H19 := H15.cal0 HS17
 refine ⟨_, rfl, ?_⟩
 refine wc rfl (wf qA rfl (ws (es H19 2 32 (.u32 (n4 big (ys.drop 32))) rfl ar (fun w21 H20 =>  ?_))))
 refine wn (sr (mp hb 0 rfl (mv (.u8 (bo big)) rfl (ms g1 0 68 68 rfl (wv rfl ((am (l := 36) (h := 68) aU rfl (bs rfl (by omega) rfl) bn (by omega) (by omega) (by omega) rfl : Yv _ _ _ _ (.sl g1 36 32 32) _)) (wE [.u8 (bo big), .sl g1 36 32 32] b9 rfl rfl (aa (aG big _ ((ak (H20.g 1 rfl) hyl).drop_ 36) (hby.drop 36) (by omega) (by omega)) ?_)))))))
 rintro e w23 ⟨rfl, HS22⟩
 have H24 := H20.cal0 HS22
 refine ⟨_, rfl, ?_⟩
 refine wc rfl (wf q0 rfl (ws (es H24 2 33 (.u32 (n4 big (ys.drop 36))) rfl ar (fun w26 H25 =>  ?_))))
 refine wn (sr (mp hb 0 rfl (mv (.u8 (bo big)) rfl (ms g1 0 68 68 rfl (wv rfl ((am (l := 40) (h := 68) aU rfl (bs rfl (by omega) rfl) bn (by omega) (by omega) (by omega) rfl : Yv _ _ _ _ (.sl g1 40 28 28) _)) (wE [.u8 (bo big), .sl g1 40 28 28] b9 rfl rfl (aa (aG big _ ((ak (H25.g 1 rfl) hyl).drop_ 40) (hby.drop 40) (by omega) (by omega)) ?_)))))))
 rintro e w28 ⟨rfl, HS27⟩
 have H29 := H25.cal0 HS27
 refine ⟨_, rfl, ?_⟩
 refine wc rfl (wf qx rfl (ws (es H29 2 34 (.u32 (n4 big (ys.drop 40))) rfl ar (fun w31 H30 =>  ?_))))
 refine wn (sr (mp hb 0 rfl (mv (.u8 (bo big)) rfl (ms g1 0 68 68 rfl (wv rfl ((am (l := 44) (h := 68) aU rfl (bs rfl (by omega) rfl) bn (by omega) (by omega) (by omega) rfl : Yv _ _ _ _ (.sl g1 44 24 24) _)) (wE [.u8 (bo big), .sl g1 44 24 24] b9 rfl rfl (aa (aG big _ ((ak (H30.g 1 rfl) hyl).drop_ 44) (hby.drop 44) (by omega) (by omega)) ?_)))))))
 rintro e w33 ⟨rfl, HS32⟩
 have H34 := H30.cal0 HS32
 refine ⟨_, rfl, ?_⟩
 refine wc rfl (wf qw rfl (ws (es H34 2 35 (.u32 (n4 big (ys.drop 44))) rfl ar (fun w36 H35 =>  ?_))))
 refine wn (sr (mp hb 0 rfl (mv (.u8 (bo big)) rfl (ms g1 0 68 68 rfl (wv rfl ((am (l := 48) (h := 68) aU rfl (bs rfl (by omega) rfl) bn (by omega) (by omega) (by omega) rfl : Yv _ _ _ _ (.sl g1 48 20 20) _)) (wE [.u8 (bo big), .sl g1 48 20 20] b9 rfl rfl (aa (aG big _ ((ak (H35.g 1 rfl) hyl).drop_ 48) (hby.drop 48) (by omega) (by omega)) ?_)))))))
 rintro e w38 ⟨rfl, HS37⟩
 have H39 := H35.cal0 HS37
 refine ⟨_, rfl, ?_⟩
 refine wc rfl (wf qv rfl (ws (es H39 2 36 (.u32 (n4 big (ys.drop 48))) rfl ar (fun w41 H40 =>  ?_))))
 refine wn (sr (mp hb 0 rfl (mv (.u8 (bo big)) rfl (ms g1 0 68 68 rfl (wv rfl ((am (l := 52) (h := 68) aU rfl (bs rfl (by omega) rfl) bn (by omega) (by omega) (by omega) rfl : Yv _ _ _ _ (.sl g1 52 16 16) _)) (wE [.u8 (bo big), .sl g1 52 16 16] b9 rfl rfl (aa (aG big _ ((ak (H40.g 1 rfl) hyl).drop_ 52) (hby.drop 52) (by omega) (by omega)) ?_)))))))
 rintro e w43 ⟨rfl, HS42⟩
 have H44 := H40.cal0 HS42
 refine ⟨_, rfl, ?_⟩
 refine wc rfl (wf qu rfl (ws (es H44 2 37 (.u32 (n4 big (ys.drop 52))) rfl ar (fun w46 H45 =>  ?_))))
 refine wn (sr (mp hb 0 rfl (mv (.u8 (bo big)) rfl (ms g1 0 68 68 rfl (wv rfl ((am (l := 56) (h := 68) aU rfl (bs rfl (by omega) rfl) bn (by omega) (by omega) (by omega) rfl : Yv _ _ _ _ (.sl g1 56 12 12) _)) (wE [.u8 (bo big), .sl g1 56 12 12] b9 rfl rfl (aa (aG big _ ((ak (H45.g 1 rfl) hyl).drop_ 56) (hby.drop 56) (by omega) (by omega)) ?_)))))))
 rintro e w48 ⟨rfl, HS47⟩
 have H49 := H45.cal0 HS47
 refine ⟨_, rfl, ?_⟩
 refine wc rfl (wf qq rfl (ws (es H49 2 38 (.u32 (n4 big (ys.drop 56))) rfl ar (fun w51 H50 =>  ?_))))
 refine wn (sr (mp hb 0 rfl (mv (.u8 (bo big)) rfl (ms g1 0 68 68 rfl (wv rfl ((am (l := 60) (h := 68) aU rfl (bs rfl (by omega) rfl) bn (by omega) (by omega) (by omega) rfl : Yv _ _ _ _ (.sl g1 60 8 8) _)) (wE [.u8 (bo big), .sl g1 60 8 8] b9 rfl rfl (aa (aG big _ ((ak (H50.g 1 rfl) hyl).drop_ 60) (hby.drop 60) (by omega) (by omega)) ?_)))))))
 rintro e w53 ⟨rfl, HS52⟩
 have H54 := H50.cal0 HS52
 refine ⟨_, rfl, ?_⟩
 refine wc rfl (wf uH rfl (ws (es H54 2 39 (.u32 (n4 big (ys.drop 60))) rfl ar (fun w56 H55 =>  ?_))))
 refine wn (sr (mp hb 0 rfl (mv (.u8 (bo big)) rfl (ms g1 0 68 68 rfl (wv rfl ((am (l := 64) (h := 68) aU rfl (bs rfl (by omega) rfl) bn (by omega) (by omega) (by omega) rfl : Yv _ _ _ _ (.sl g1 64 4 4) _)) (wE [.u8 (bo big), .sl g1 64 4 4] b9 rfl rfl (aa (aG big _ ((ak (H55.g 1 rfl) hyl).drop_ 64) (hby.drop 64) (by omega) (by omega)) ?_)))))))
 rintro e w58 ⟨rfl, HS57⟩
 have H59 := H55.cal0 HS57
 refine ⟨_, rfl, ?_⟩
 refine wc rfl (wf tO rfl (ws (es H59 2 40 (.u32 (n4 big (ys.drop 64))) rfl ar (fun w61 H60 =>  ?_))))
 refine wn (sr (av (.nilIface) rfl (wn (aQ ?_))))
 exact ⟨.inr rfl, _, r1 (.nilIface) rfl _ _, ⟨rfl, (H60.drop 1).perm (.swap ..)⟩⟩
theorem jr {hb rb N C i : Nat} {A : Option Addr} {p : Int} {xs ys : List Int} {a0 a1 : Addr} (big : Bool) (w : World) (hh : (aq hb [.u8 0, .u8 0, .u8 0, .u8 0, .u8 0, .u8 0, .u8 0, .u8 0, .u8 0, .u8 0, .u8 0, .u8 0, .u8 0, .u8 0, .u8 0, .u8 0, .u8 0, .u8 0, .u8 0, .u8 0, .u8 0, .u8 0, .u8 0, .u8 0, .u8 0, .u8 0, .u8 0, .u8 0, .u8 0, .u8 0, .u8 0, .u8 0, .u32 0, .u32 0, .u32 0, .u32 0, .u32 0, .u32 0, .u32 0, .u32 0, .u32 0] 183).φ w) (hrb : (aq rb [.slice A N C, .i64 (↑i), .i64 (p)] 190).φ w) (hG : Glob 224 w a0 a1) (hNC : N ≤ C) (hN63 : N ≤ 9223372036854775807) (hr : RI .u8 w A N xs) (hby0 : Byt xs) (hA : ∀ a, A = some a → a.block < w.heap.size ∧ a.block ≠ rb ∧ a.block ≠ hb) (hb4 : 4 ≤ hb) (hw4 : 4 ≤ w.heap.size) (h4 : 4 ≤ rb) (hne : hb ≠ rb) (ho : N < i + 68) :
 Calls Tryd.prog 60 #[.pt hb, .iface 109 (.pt rb), .u8 (bo big)] w fun e w' => ∃ T v, e = .returned (.iface T v) ∧ St w (fun k => k = hb ∨ k = rb) [] w' := by
 refine a5 (args := [.pt hb, .iface 109 (.pt rb), .u8 (bo big)]) Tryd.func60 rfl rfl rfl ?_
 have H0 : St _ _ [aq hb [.u8 0, .u8 0, .u8 0, .u8 0, .u8 0, .u8 0, .u8 0, .u8 0, .u8 0, .u8 0, .u8 0, .u8 0, .u8 0, .u8 0, .u8 0, .u8 0, .u8 0, .u8 0, .u8 0, .u8 0, .u8 0, .u8 0, .u8 0, .u8 0, .u8 0, .u8 0, .u8 0, .u8 0, .u8 0, .u8 0, .u8 0, .u8 0, .u32 0, .u32 0, .u32 0, .u32 0, .u32 0, .u32 0, .u32 0, .u32 0, .u32 0] 183, aq rb [.slice A N C, .i64 (↑i), .i64 p] 190] _ := ((St.nil w (fun k => k = hb ∨ k = rb)).add _ hrb (fun _ h => .inr h) (by simp)).add _ hh (fun _ h => .inl h) (by simp only [List.mem_singleton]; rintro s rfl g h1 h2; exact hne (h1.symm.trans h2))
 refine sr (av (.nilIface) rfl (wn (sr (wm rfl (bt H0 (n := 68) (m := 68) cA i1 rfl rfl rfl rfl rfl (by omega) (by omega) (by omega) (fun g1 w2 hgg1 H3 =>  eh g1 0 68 68 rfl (wn (ad (sr (mv (.iface 109 (.pt rb)) rfl (ms g1 0 68 68 rfl ?_)))))))))))
 refine wE [.iface 109 (.pt rb), .sl g1 0 68 68] gK rfl rfl ?_
 have hgw : w.heap.size ≤ g1 := Nat.le_trans H0.keep.size hgg1
 have hbl : hb < w.heap.size := aA hh
 have hrl : rb < w.heap.size := aA hrb
 refine aa (iF _ (H3.g 2 rfl) (hG.keep H3.keep (fun k hk => by rcases hk with h | h <;> omega)) hN63 (H3.g 0 rfl) (by omega) h4 (by omega) (hr.keep H3.keep fun a ha h => by have := hA a ha; rcases h with h | h <;> omega) (fun a ha => by have := hA a ha; omega) hNC (by simp) (by omega) (by omega) (by omega) ho) ?_
 rintro e w5 ⟨x, T, v, rfl, HS4⟩
 have H6 := H3.ky 2 0 rfl rfl HS4 (fun _ h => h)
 refine ⟨_, rfl, ?_⟩
 refine mv (.tuple #[x, .iface T v]) rfl (we x rfl rfl (we (.iface T v) rfl rfl (av x rfl (av (.iface T v) rfl (wn (sr (mv (.iface T v) rfl (wv rfl ((nn true bq rfl (.inr ⟨_, _, rfl⟩))) (wn (ay rfl (sr ?_)))))))))))
 refine mv (.iface T v) rfl (av (.iface T v) rfl (wn (rq ?_)))
 exact ⟨.inr rfl, _, r1 (.iface T v) rfl _ _, ⟨_, _, rfl, H6.sub (List.nil_sublist _)⟩⟩
theorem jJ {hb rb N C i : Nat} {A : Option Addr} {p : Int} {xs ys : List Int} {a0 a1 : Addr} (big : Bool) (w : World) (hh : (aq hb [.u8 0, .u8 0, .u8 0, .u8 0, .u8 0, .u8 0, .u8 0, .u8 0, .u8 0, .u8 0, .u8 0, .u8 0, .u8 0, .u8 0, .u8 0, .u8 0, .u8 0, .u8 0, .u8 0, .u8 0, .u8 0, .u8 0, .u8 0, .u8 0, .u8 0, .u8 0, .u8 0, .u8 0, .u8 0, .u8 0, .u8 0, .u8 0, .u64 0, .u64 0, .u32 0, .u32 0, .u32 0, .u32 0, .u32 0, .u32 0, .u32 0, .u32 0] 188).φ w) (hrb : (aq rb [.slice A N C, .i64 (↑i), .i64 (p)] 190).φ w) (hG : Glob 224 w a0 a1) (hNC : N ≤ C) (hN63 : N ≤ 9223372036854775807) (hr : RI .u8 w A N xs) (hby0 : Byt xs) (hA : ∀ a, A = some a → a.block < w.heap.size ∧ a.block ≠ rb ∧ a.block ≠ hb) (hb4 : 4 ≤ hb) (hw4 : 4 ≤ w.heap.size) (h4 : 4 ≤ rb) (hne : hb ≠ rb) (ho : i + 80 ≤ N) (hys : ys = (xs.drop i).take 80) :
 Calls Tryd.prog 63 #[.pt hb, .iface 109 (.pt rb), .u8 (bo big)] w fun e w' => e = .returned .nilIface ∧ St w (fun k => k = hb ∨ k = rb) [aq hb [.u8 (ys.getD (0 + 0) 0), .u8 (ys.getD (0 + 1) 0), .u8 (ys.getD (0 + 2) 0), .u8 (ys.getD (0 + 3) 0), .u8 (ys.getD (0 + 4) 0), .u8 (ys.getD (0 + 5) 0), .u8 (ys.getD (0 + 6) 0), .u8 (ys.getD (0 + 7) 0), .u8 (ys.getD (0 + 8) 0), .u8 (ys.getD (0 + 9) 0), .u8 (ys.getD (0 + 10) 0), .u8 (ys.getD (0 + 11) 0), .u8 (ys.getD (0 + 12) 0), .u8 (ys.getD (0 + 13) 0), .u8 (ys.getD (0 + 14) 0), .u8 (ys.getD (0 + 15) 0), .u8 (ys.getD (16 + 0) 0), .u8 (ys.getD (16 + 1) 0), .u8 (ys.getD (16 + 2) 0), .u8 (ys.getD (16 + 3) 0), .u8 (ys.getD (16 + 4) 0), .u8 (ys.getD (16 + 5) 0), .u8 (ys.getD (16 + 6) 0), .u8 (ys.getD (16 + 7) 0), .u8 (ys.getD (16 + 8) 0), .u8 (ys.getD (16 + 9) 0), .u8 (ys.getD (16 + 10) 0), .u8 (ys.getD (16 + 11) 0), .u8 (ys.getD (16 + 12) 0), .u8 (ys.getD (16 + 13) 0), .u8 (ys.getD (16 + 14) 0), .u8 (ys.getD (16 + 15) 0), .u64 (n8 big (ys.drop 32)), .u64 (n8 big (ys.drop 40)), .u32 (n4 big (ys.drop 48)), .u32 (n4 big (ys.drop 52)), .u32 (n4 big (ys.drop 56)), .u32 (n4 big (ys.drop 60)), .u32 (n4 big (ys.drop 64)), .u32 (n4 big (ys.drop 68)), .u32 (n4 big (ys.drop 72)), .u32 (n4 big (ys.drop 76))] 188, aq rb [.slice A N C, .i64 (↑i + 80), .i64 (-1)] 190] w' := by
 have hyl : ys.length = 80 := by rw [hys, List.length_take, List.length_drop, hr.1]; omega
 have hby : Byt ys := by rw [hys]; exact (hby0.drop _).take _
 refine a5 (args := [.pt hb, .iface 109 (.pt rb), .u8 (bo big)]) Tryd.func63 rfl rfl rfl ?_
 have H0 : St _ _ [aq hb [.u8 0, .u8 0, .u8 0, .u8 0, .u8 0, .u8 0, .u8 0, .u8 0, .u8 0, .u8 0, .u8 0, .u8 0, .u8 0, .u8 0, .u8 0, .u8 0, .u8 0, .u8 0, .u8 0, .u8 0, .u8 0, .u8 0, .u8 0, .u8 0, .u8 0, .u8 0, .u8 0, .u8 0, .u8 0, .u8 0, .u8 0, .u8 0, .u64 0, .u64 0, .u32 0, .u32 0, .u32 0, .u32 0, .u32 0, .u32 0, .u32 0, .u32 0] 188, aq rb [.slice A N C, .i64 (↑i), .i64 p] 190] _ := ((St.nil w (fun k => k = hb ∨ k = rb)).add _ hrb (fun _ h => .inr h) (by simp)).add _ hh (fun _ h => .inl h) (by simp only [List.mem_singleton]; rintro s rfl g h1 h2; exact hne (h1.symm.trans h2))
 refine sr (av (.nilIface) rfl (wn (sr (wm rfl (bt H0 (n := 80) (m := 80) cA i1 rfl rfl rfl rfl rfl (by omega) (by omega) (by omega) (fun g1 w2 hgg1 H3 =>  eh g1 0 80 80 rfl (wn (ad (sr (mv (.iface 109 (.pt rb)) rfl (ms g1 0 80 80 rfl ?_)))))))))))
 refine wE [.iface 109 (.pt rb), .sl g1 0 80 80] gK rfl rfl ?_
 have hgw : w.heap.size ≤ g1 := Nat.le_trans H0.keep.size hgg1
 have hbl : hb < w.heap.size := aA hh
 have hrl : rb < w.heap.size := aA hrb
 refine aa (iE _ (H3.g 2 rfl) (hG.keep H3.keep (fun k hk => by rcases hk with h | h <;> omega)) hN63 (H3.g 0 rfl) (by omega) h4 (by omega) (hr.keep H3.keep fun a ha h => by have := hA a ha; rcases h with h | h <;> omega) (fun a ha => by have := hA a ha; omega) hNC (by simp) (by omega) (by omega) (by omega) ho) ?_
 rintro e w5 ⟨rfl, HS4⟩
 rw [← hys] at HS4
 have H6 := H3.ky 2 0 rfl rfl HS4 (fun _ h => h)
 refine ⟨_, rfl, ?_⟩
 refine mv (.tuple #[.i64 80, .nilIface]) rfl (we (.i64 80) rfl rfl (we (.nilIface) rfl rfl (ai 80 rfl (av (.nilIface) rfl (wn (sr (mv (.nilIface) rfl (wv rfl ((nn false bq rfl (.inl rfl))) (wn (aj rfl (wk ?_)))))))))))
 refine ad (bC MX (fun w' => True) (tp 0 6 (Plan.run 6 Plan.done)) (by kernel_rfl) ?_)
 have H7 := H6.drew
 have hS8 : (fun w' => True) w5.drew := trivial
 refine py rfl hS8 (al (v := .pt hb) rfl) (py rfl hS8 (ag rfl) (py rfl hS8 (ab (o := 0) qf rfl) (pt rfl hS8 (fun _ hS => (bu (o := 0) (l := 0) (h := 16) i2 rfl (bh _ _) (bh _ _) (by omega) (by omega) : Yv _ _ _ _ (.sl hb 0 16 16) _)) (py rfl hS8 (al (v := .sl g1 0 80 80) rfl) (pt rfl hS8 (fun _ hS => (am (l := 0) (h := 16) aU rfl (bs rfl (by omega) rfl) (bs rfl (by omega) rfl) (by omega) (by omega) (by omega) rfl : Yv _ _ _ _ (.sl g1 0 16 80) _)) (pr rfl (iO H7 2 (m := 16) (k := 0) (cs' := [.u8 (ys.getD (0 + 0) 0), .u8 (ys.getD (0 + 1) 0), .u8 (ys.getD (0 + 2) 0), .u8 (ys.getD (0 + 3) 0), .u8 (ys.getD (0 + 4) 0), .u8 (ys.getD (0 + 5) 0), .u8 (ys.getD (0 + 6) 0), .u8 (ys.getD (0 + 7) 0), .u8 (ys.getD (0 + 8) 0), .u8 (ys.getD (0 + 9) 0), .u8 (ys.getD (0 + 10) 0), .u8 (ys.getD (0 + 11) 0), .u8 (ys.getD (0 + 12) 0), .u8 (ys.getD (0 + 13) 0), .u8 (ys.getD (0 + 14) 0), .u8 (ys.getD (0 + 15) 0), .u8 0, .u8 0, .u8 0, .u8 0, .u8 0, .u8 0, .u8 0, .u8 0, .u8 0, .u8 0, .u8 0, .u8 0, .u8 0, .u8 0, .u8 0, .u8 0, .u64 0, .u64 0, .u32 0, .u32 0, .u32 0, .u32 0, .u32 0, .u32 0, .u32 0, .u32 0]) rfl cA ui rfl rfl (ak (H7.g 1 rfl) hyl) rfl (by omega) (nl rfl) rfl (fun w9 H10 =>  ?_))))))))
 have hS11 : (fun w' => True) w9 := trivial
 refine ⟨hS11, ?_⟩
 refine bj (ac (ad (bC MX (fun w' => True) (tp 0 6 (Plan.run 6 Plan.done)) (by kernel_rfl) ?_)))
 have H12 := H10.drew
 have hS13 : (fun w' => True) w9.drew := trivial
 refine py rfl hS13 (al (v := .pt hb) rfl) (py rfl hS13 (ag rfl) (py rfl hS13 (ab (o := 0) qe rfl) (pt rfl hS13 (fun _ hS => (bu (o := 16) (l := 0) (h := 16) i2 rfl (bh _ _) (bh _ _) (by omega) (by omega) : Yv _ _ _ _ (.sl hb 16 16 16) _)) (py rfl hS13 (al (v := .sl g1 0 80 80) rfl) (pt rfl hS13 (fun _ hS => (am (l := 16) (h := 32) aU rfl (bs rfl (by omega) rfl) (bs rfl (by omega) rfl) (by omega) (by omega) (by omega) rfl : Yv _ _ _ _ (.sl g1 16 16 64) _)) (pr rfl (iO H12 2 (m := 16) (k := 16) (cs' := [.u8 (ys.getD (0 + 0) 0), .u8 (ys.getD (0 + 1) 0), .u8 (ys.getD (0 + 2) 0), .u8 (ys.getD (0 + 3) 0), .u8 (ys.getD (0 + 4) 0), .u8 (ys.getD (0 + 5) 0), .u8 (ys.getD (0 + 6) 0), .u8 (ys.getD (0 + 7) 0), .u8 (ys.getD (0 + 8) 0), .u8 (ys.getD (0 + 9) 0), .u8 (ys.getD (0 + 10) 0), .u8 (ys.getD (0 + 11) 0), .u8 (ys.getD (0 + 12) 0), .u8 (ys.getD (0 + 13) 0), .u8 (ys.getD (0 + 14) 0), .u8 (ys.getD (0 + 15) 0), .u8 (ys.getD (16 + 0) 0), .u8 (ys.getD (16 + 1) 0), .u8 (ys.getD (16 + 2) 0), .u8 (ys.getD (16 + 3) 0), .u8 (ys.getD (16 + 4) 0), .u8 (ys.getD (16 + 5) 0), .u8 (ys.getD (16 + 6) 0), .u8 (ys.getD (16 + 7) 0), .u8 (ys.getD (16 + 8) 0), .u8 (ys.getD (16 + 9) 0), .u8 (ys.getD (16 + 10) 0), .u8 (ys.getD (16 + 11) 0), .u8 (ys.getD (16 + 12) 0), .u8 (ys.getD (16 + 13) 0), .u8 (ys.getD (16 + 14) 0), .u8 (ys.getD (16 + 15) 0), .u64 0, .u64 0, .u32 0, .u32 0, .u32 0, .u32 0, .u32 0, .u32 0, .u32 0, .u32 0]) rfl cA ui rfl rfl (ak (H12.g 1 rfl) hyl) rfl (by omega) (nl rfl) rfl (fun w14 H15 =>  ?_))))))))
 have hS16 : (fun w' => True) w14 := trivial
 refine ⟨hS16, ?_⟩
 refine bj (ac (sr (mp hb 0 rfl (mv (.u8 (bo big)) rfl (ms g1 0 80 80 rfl (wv rfl ((am (l := 32) (h := 80) aU rfl (bs rfl (by omega) rfl) bn (by omega) (by omega) (by omega) rfl : Yv _ _ _ _ (.sl g1 32 48 48) _)) (wE [.u8 (bo big), .sl g1 32 48 48] p7 rfl rfl (aa (fM big _ ((ak (H15.g 1 rfl) hyl).drop_ 32) (hby.drop 32) (by omega) (by omega)) ?_))))))))
 rintro e w18 ⟨rfl, HS17⟩
 have H19 := H15.cal0 HS17
 refine ⟨_, rfl, ?_⟩
 refine wc rfl (wf qd rfl (ws (es H19 2 32 (.u64 (n8 big (ys.drop 32))) rfl aM (fun w21 H20 =>  ?_))))
 refine wn (sr (mp hb 0 rfl (mv (.u8 (bo big)) rfl (ms g1 0 80 80 rfl (wv rfl ((am (l := 40) (h := 80) aU rfl (bs rfl (by omega) rfl) bn (by omega) (by omega) (by omega) rfl : Yv _ _ _ _ (.sl g1 40 40 40) _)) (wE [.u8 (bo big), .sl g1 40 40 40] p7 rfl rfl (aa (fM big _ ((ak (H20.g 1 rfl) hyl).drop_ 40) (hby.drop 40) (by omega) (by omega)) ?_)))))))
 rintro e w23 ⟨rfl, HS22⟩
 have H24 := H20.cal0 HS22
 refine ⟨_, rfl, ?_⟩
 refine wc rfl (wf qc rfl (ws (es H24 2 33 (.u64 (n8 big (ys.drop 40))) rfl aM (fun w26 H25 =>  ?_))))
 refine wn (sr (mp hb 0 rfl (mv (.u8 (bo big)) rfl (ms g1 0 80 80 rfl (wv rfl ((am (l := 48) (h := 80) aU rfl (bs rfl (by omega) rfl) bn (by omega) (by omega) (by omega) rfl : Yv _ _ _ _ (.sl g1 48 32 32) _)) (wE [.u8 (bo big), .sl g1 48 32 32] b9 rfl rfl (aa (aG big _ ((ak (H25.g 1 rfl) hyl).drop_ 48) (hby.drop 48) (by omega) (by omega)) ?_)))))))
 rintro e w28 ⟨rfl, HS27⟩
 have H29 := H25.cal0 HS27
 refine ⟨_, rfl, ?_⟩
 refine wc rfl (wf qb rfl (ws (es H29 2 34 (.u32 (n4 big (ys.drop 48))) rfl ar (fun w31 H30 =>  ?_))))
 refine wn (sr (mp hb 0 rfl (mv (.u8 (bo big)) rfl (ms g1 0 80 80 rfl (wv rfl ((am (l := 52) (h := 80) aU rfl (bs rfl (by omega) rfl) bn (by omega) (by omega) (by omega) rfl : Yv _ _ _ _ (.sl g1 52 28 28) _)) (wE [.u8 (bo big), .sl g1 52 28 28] b9 rfl rfl (aa (aG big _ ((ak (H30.g 1 rfl) hyl).drop_ 52) (hby.drop 52) (by omega) (by omega)) ?_)))))))
 rintro e w33 ⟨rfl, HS32⟩
 have H34 := H30.cal0 HS32
 refine ⟨_, rfl, ?_⟩
 refine wc rfl (wf pZ rfl (ws (es H34 2 35 (.u32 (n4 big (ys.drop 52))) rfl ar (fun w36 H35 =>  ?_))))
 refine wn (sr (mp hb 0 rfl (mv (.u8 (bo big)) rfl (ms g1 0 80 80 rfl (wv rfl ((am (l := 56) (h := 80) aU rfl (bs rfl (by omega) rfl) bn (by omega) (by omega) (by omega) rfl : Yv _ _ _ _ (.sl g1 56 24 24) _)) (wE [.u8 (bo big), .sl g1 56 24 24] b9 rfl rfl (aa (aG big _ ((ak (H35.g 1 rfl) hyl).drop_ 56) (hby.drop 56) (by omega) (by omega)) ?_)))))))
 rintro e w38 ⟨rfl, HS37⟩
 have H39 := H35.cal0 HS37
 refine ⟨_, rfl, ?_⟩
 refine wc rfl (wf pY rfl (ws (es H39 2 36 (.u32 (n4 big (ys.drop 56))) rfl ar (fun w41 H40 =>  ?_))))
 refine wn (sr (mp hb 0 rfl (mv (.u8 (bo big)) rfl (ms g1 0 80 80 rfl (wv rfl ((am (l := 60) (h := 80) aU rfl (bs rfl (by omega) rfl) bn (by omega) (by omega) (by omega) rfl : Yv _ _ _ _ (.sl g1 60 20 20) _)) (wE [.u8 (bo big), .sl g1 60 20 20] b9 rfl rfl (aa (aG big _ ((ak (H40.g 1 rfl) hyl).drop_ 60) (hby.drop 60) (by omega) (by omega)) ?_)))))))
 rintro e w43 ⟨rfl, HS42⟩
 have H44 := H40.cal0 HS42
 refine ⟨_, rfl, ?_⟩
 refine wc rfl (wf pX rfl (ws (es H44 2 37 (.u32 (n4 big (ys.drop 60))) rfl ar (fun w46 H45 =>  ?_))))
 refine wn (sr (mp hb 0 rfl (mv (.u8 (bo big)) rfl (ms g1 0 80 80 rfl (wv rfl ((am (l := 64) (h := 80) aU rfl (bs rfl (by omega) rfl) bn (by omega) (by omega) (by omega) rfl : Yv _ _ _ _ (.sl g1 64 16 16) _)) (wE [.u8 (bo big), .sl g1 64 16 16] b9 rfl rfl (aa (aG big _ ((ak (H45.g 1 rfl) hyl).drop_ 64) (hby.drop 64) (by omega) (by omega)) ?_)))))))
 rintro e w48 ⟨rfl, HS47⟩
 have H49 := H45.cal0 HS47
 refine ⟨_, rfl, ?_⟩
 refine wc rfl (wf pW rfl (ws (es H49 2 38 (.u32 (n4 big (ys.drop 64))) rfl ar (fun w51 H50 =>  ?_))))
 refine wn (sr (mp hb 0 rfl (mv (.u8 (bo big)) rfl (ms g1 0 80 80 rfl (wv rfl ((am (l := 68) (h := 80) aU rfl (bs rfl (by omega) rfl) bn (by omega) (by omega) (by omega) rfl : Yv _ _ _ _ (.sl g1 68 12 12) _)) (wE [.u8 (bo big), .sl g1 68 12 12] b9 rfl rfl (aa (aG big _ ((ak (H50.g 1 rfl) hyl).drop_ 68) (hby.drop 68) (by omega) (by omega)) ?_)))))))
 rintro e w53 ⟨rfl, HS52⟩
 have H54 := H50.cal0 HS52
 refine ⟨_, rfl, ?_⟩
 refine wc rfl (wf uE rfl (ws (es H54 2 39 (.u32 (n4 big (ys.drop 68))) rfl ar (fun w56 H55 =>  ?_))))
 refine wn (sr (mp hb 0 rfl (mv (.u8 (bo big)) rfl (ms g1 0 80 80 rfl (wv rfl ((am (l := 72) (h := 80) aU rfl (bs rfl (by omega) rfl) bn (by omega) (by omega) (by omega) rfl : Yv _ _ _ _ (.sl g1 72 8 8) _)) (wE [.u8 (bo big), .sl g1 72 8 8] b9 rfl rfl (aa (aG big _ ((ak (H55.g 1 rfl) hyl).drop_ 72) (hby.drop 72) (by omega) (by omega)) ?_)))))))
 rintro e w58 ⟨rfl, HS57⟩
 have H59 := H55.cal0 HS57
 refine ⟨_, rfl, ?_⟩
 refine wc rfl (wf tN rfl (ws (es H59 2 40 (.u32 (n4 big (ys.drop 72))) rfl ar (fun w61 H60 =>  ?_))))
 refine wn (sr (mp hb 0 rfl (mv (.u8 (bo big)) rfl (ms g1 0 80 80 rfl (wv rfl ((am (l := 76) (h := 80) aU rfl (bs rfl (by omega) rfl) bn (by omega) (by omega) (by omega) rfl : Yv _ _ _ _ (.sl g1 76 4 4) _)) (wE [.u8 (bo big), .sl g1 76 4 4] b9 rfl rfl (aa (aG big _ ((ak (H60.g 1 rfl) hyl).drop_ 76) (hby.drop 76) (by omega) (by omega)) ?_)))))))
 rintro e w63 ⟨rfl, HS62⟩
 have H64 := H60.cal0 HS62
 refine ⟨_, rfl, ?_⟩
 refine wc rfl (wf tM rfl (ws (es H64 2 41 (.u32 (n4 big (ys.drop 76))) rfl ar (fun w66 H65 =>  ?_))))
 refine wn (sr (av (.nilIface) rfl (wn (aQ ?_))))
 exact ⟨.inr rfl, _, r1 (.nilIface) rfl _ _, ⟨rfl, (H65.drop 1).perm (.swap ..)⟩⟩
theorem jp {hb rb N C i : Nat} {A : Option Addr} {p : Int} {xs ys : List Int} {a0 a1 : Addr} (big : Bool) (w : World) (hh : (aq hb [.u8 0, .u8 0, .u8 0, .u8 0, .u8 0, .u8 0, .u8 0, .u8 0, .u8 0, .u8 0, .u8 0, .u8 0, .u8 0, .u8 0, .u8 0, .u8 0, .u8 0, .u8 0, .u8 0, .u8 0, .u8 0, .u8 0, .u8 0, .u8 0, .u8 0, .u8 0, .u8 0, .u8 0, .u8 0, .u8 0, .u8 0, .u8 0, .u64 0, .u64 0, .u32 0, .u32 0, .u32 0, .u32 0, .u32 0, .u32 0, .u32 0, .u32 0] 188).φ w) (hrb : (aq rb [.slice A N C, .i64 (↑i), .i64 (p)] 190).φ w) (hG : Glob 224 w a0 a1) (hNC : N ≤ C) (hN63 : N ≤ 9223372036854775807) (hr : RI .u8 w A N xs) (hby0 : Byt xs) (hA : ∀ a, A = some a → a.block < w.heap.size ∧ a.block ≠ rb ∧ a.block ≠ hb) (hb4 : 4 ≤ hb) (hw4 : 4 ≤ w.heap.size) (h4 : 4 ≤ rb) (hne : hb ≠ rb) (ho : N < i + 80) :
 Calls Tryd.prog 63 #[.pt hb, .iface 109 (.pt rb), .u8 (bo big)] w fun e w' => ∃ T v, e = .returned (.iface T v) ∧ St w (fun k => k = hb ∨ k = rb) [] w' := by
 refine a5 (args := [.pt hb, .iface 109 (.pt rb), .u8 (bo big)]) Tryd.func63 rfl rfl rfl ?_
 have H0 : St _ _ [aq hb [.u8 0, .u8 0, .u8 0, .u8 0, .u8 0, .u8 0, .u8 0, .u8 0, .u8 0, .u8 0, .u8 0, .u8 0, .u8 0, .u8 0, .u8 0, .u8 0, .u8 0, .u8 0, .u8 0, .u8 0, .u8 0, .u8 0, .u8 0, .u8 0, .u8 0, .u8 0, .u8 0, .u8 0, .u8 0, .u8 0, .u8 0, .u8 0, .u64 0, .u64 0, .u32 0, .u32 0, .u32 0, .u32 0, .u32 0, .u32 0, .u32 0, .u32 0] 188, aq rb [.slice A N C, .i64 (↑i), .i64 p] 190] _ := ((St.nil w (fun k => k = hb ∨ k = rb)).add _ hrb (fun _ h => .inr h) (by simp)).add _ hh (fun _ h => .inl h) (by simp only [List.mem_singleton]; rintro s rfl g h1 h2; exact hne (h1.symm.trans h2))
 refine sr (av (.nilIface) rfl (wn (sr (wm rfl (bt H0 (n := 80) (m := 80) cA i1 rfl rfl rfl rfl rfl (by omega) (by omega) (by omega) (fun g1 w2 hgg1 H3 =>  eh g1 0 80 80 rfl (wn (ad (sr (mv (.iface 109 (.pt rb)) rfl (ms g1 0 80 80 rfl ?_)))))))))))
 refine wE [.iface 109 (.pt rb), .sl g1 0 80 80] gK rfl rfl ?_
 have hgw : w.heap.size ≤ g1 := Nat.le_trans H0.keep.size hgg1
 have hbl : hb < w.heap.size := aA hh
 have hrl : rb < w.heap.size := aA hrb
 refine aa (iF _ (H3.g 2 rfl) (hG.keep H3.keep (fun k hk => by rcases hk with h | h <;> omega)) hN63 (H3.g 0 rfl) (by omega) h4 (by omega) (hr.keep H3.keep fun a ha h => by have := hA a ha; rcases h with h | h <;> omega) (fun a ha => by have := hA a ha; omega) hNC (by simp) (by omega) (by omega) (by omega) ho) ?_
 rintro e w5 ⟨x, T, v, rfl, HS4⟩
 have H6 := H3.ky 2 0 rfl rfl HS4 (fun _ h => h)
 refine ⟨_, rfl, ?_⟩
 refine mv (.tuple #[x, .iface T v]) rfl (we x rfl rfl (we (.iface T v) rfl rfl (av x rfl (av (.iface T v) rfl (wn (sr (mv (.iface T v) rfl (wv rfl ((nn true bq rfl (.inr ⟨_, _, rfl⟩))) (wn (ay rfl (sr ?_)))))))))))
 refine mv (.iface T v) rfl (av (.iface T v) rfl (wn (rq ?_)))
 exact ⟨.inr rfl, _, r1 (.iface T v) rfl _ _, ⟨_, _, rfl, H6.sub (List.nil_sublist _)⟩⟩
theorem kC {hb rb N C i : Nat} {A : Option Addr} {p : Int} {xs ys : List Int} {a0 a1 : Addr} (big : Bool) (w : World) (hh : (aq hb [.u32 0, .u8 0, .u8 0, .u16 0, .u32 0] 207).φ w) (hrb : (aq rb [.slice A N C, .i64 (↑i), .i64 (p)] 190).φ w) (hG : Glob 224 w a0 a1) (hNC : N ≤ C) (hN63 : N ≤ 9223372036854775807) (hr : RI .u8 w A N xs) (hby0 : Byt xs) (hA : ∀ a, A = some a → a.block < w.heap.size ∧ a.block ≠ rb ∧ a.block ≠ hb) (hb4 : 4 ≤ hb) (hw4 : 4 ≤ w.heap.size) (h4 : 4 ≤ rb) (hne : hb ≠ rb) (ho : i + 12 ≤ N) (hys : ys = (xs.drop i).take 12) :
 Calls Tryd.prog 68 #[.pt hb, .iface 109 (.pt rb), .u8 (bo big)] w fun e w' => e = .returned .nilIface ∧ St w (fun k => k = hb ∨ k = rb) [aq hb [.u32 (n4 big (ys.drop 0)), .u8 (ys.getD 4 0), .u8 (ys.getD 5 0), .u16 (n2 big (ys.drop 6)), .u32 (n4 big (ys.drop 8))] 207, aq rb [.slice A N C, .i64 (↑i + 12), .i64 (-1)] 190] w' := by
 have hyl : ys.length = 12 := by rw [hys, List.length_take, List.length_drop, hr.1]; omega
 have hby : Byt ys := by rw [hys]; exact (hby0.drop _).take _
 refine a5 (args := [.pt hb, .iface 109 (.pt rb), .u8 (bo big)]) Tryd.func68 rfl rfl rfl ?_
 have H0 : St _ _ [aq hb [.u32 0, .u8 0, .u8 0, .u16 0, .u32 0] 207, aq rb [.slice A N C, .i64 (↑i), .i64 p] 190] _ := ((St.nil w (fun k => k = hb ∨ k = rb)).add _ hrb (fun _ h => .inr h) (by simp)).add _ hh (fun _ h => .inl h) (by simp only [List.mem_singleton]; rintro s rfl g h1 h2; exact hne (h1.symm.trans h2))
 refine sr (av (.nilIface) rfl (wn (sr (wm rfl (bt H0 (n := 12) (m := 12) cA i1 rfl rfl rfl rfl rfl (by omega) (by omega) (by omega) (fun g1 w2 hgg1 H3 =>  eh g1 0 12 12 rfl (wn (ad (sr (mv (.iface 109 (.pt rb)) rfl (ms g1 0 12 12 rfl ?_)))))))))))
 refine wE [.iface 109 (.pt rb), .sl g1 0 12 12] gK rfl rfl ?_
 have hgw : w.heap.size ≤ g1 := Nat.le_trans H0.keep.size hgg1
 have hbl : hb < w.heap.size := aA hh
 have hrl : rb < w.heap.size := aA hrb
 refine aa (iE _ (H3.g 2 rfl) (hG.keep H3.keep (fun k hk => by rcases hk with h | h <;> omega)) hN63 (H3.g 0 rfl) (by omega) h4 (by omega) (hr.keep H3.keep fun a ha h => by have := hA a ha; rcases h with h | h <;> omega) (fun a ha => by have := hA a ha; omega) hNC (by simp) (by omega) (by omega) (by omega) ho) ?_
 rintro e w5 ⟨rfl, HS4⟩
 rw [← hys] at HS4
 have H6 := H3.ky 2 0 rfl rfl HS4 (fun _ h => h)
 refine ⟨_, rfl, ?_⟩
 refine mv (.tuple #[.i64 12, .nilIface]) rfl (we (.i64 12) rfl rfl (we (.nilIface) rfl rfl (ai 12 rfl (av (.nilIface) rfl (wn (sr (mv (.nilIface) rfl (wv rfl ((nn false bq rfl (.inl rfl))) (wn (aj rfl (wk ?_)))))))))))
 refine sr (mp hb 0 rfl (mv (.u8 (bo big)) rfl (ms g1 0 12 12 rfl (wv rfl ((am (l := 0) (h := 12) aU rfl (bs rfl (by omega) rfl) bn (by omega) (by omega) (by omega) rfl : Yv _ _ _ _ (.sl g1 0 12 12) _)) (wE [.u8 (bo big), .sl g1 0 12 12] b9 rfl rfl (aa (aG big _ ((ak (H6.g 1 rfl) hyl).drop_ 0) (hby.drop 0) (by omega) (by omega)) ?_))))))
 rintro e w8 ⟨rfl, HS7⟩
 have H9 := H6.cal0 HS7
 refine ⟨_, rfl, ?_⟩
 refine wc rfl (wf pU rfl (ws (es H9 2 0 (.u32 (n4 big (ys.drop 0))) rfl ar (fun w11 H10 =>  ?_))))
 refine wn (sr (mp hb 0 rfl (ms g1 0 12 12 rfl (wv rfl (aI aU rfl rfl (by omega) (by omega)) (wv rfl (H10.load (i := 1) (k := 4) (v := .u8 (ys.getD 4 0)) rfl cC rfl (fI (by omega))) (wc rfl (wf pT rfl (ws (es H10 2 1 (.u8 (ys.getD 4 0)) rfl cC (fun w13 H12 =>  ?_))))))))))
 refine wn (sr (mp hb 0 rfl (ms g1 0 12 12 rfl (wv rfl (aI aU rfl rfl (by omega) (by omega)) (wv rfl (H12.load (i := 1) (k := 5) (v := .u8 (ys.getD 5 0)) rfl cC rfl (fI (by omega))) (wc rfl (wf pS rfl (ws (es H12 2 2 (.u8 (ys.getD 5 0)) rfl cC (fun w15 H14 =>  ?_))))))))))
 refine wn (sr (mp hb 0 rfl (mv (.u8 (bo big)) rfl (ms g1 0 12 12 rfl (wv rfl ((am (l := 6) (h := 12) aU rfl (bs rfl (by omega) rfl) bn (by omega) (by omega) (by omega) rfl : Yv _ _ _ _ (.sl g1 6 6 6) _)) (wE [.u8 (bo big), .sl g1 6 6 6] sD rfl rfl (aa (oe big _ ((ak (H14.g 1 rfl) hyl).drop_ 6) (hby.drop 6) (by omega) (by omega)) ?_)))))))
 rintro e w17 ⟨rfl, HS16⟩
 have H18 := H14.cal0 HS16
 refine ⟨_, rfl, ?_⟩
 refine wc rfl (wf pR rfl (ws (es H18 2 3 (.u16 (n2 big (ys.drop 6))) rfl gT (fun w20 H19 =>  ?_))))
 refine wn (sr (mp hb 0 rfl (mv (.u8 (bo big)) rfl (ms g1 0 12 12 rfl (wv rfl ((am (l := 8) (h := 12) aU rfl (bs rfl (by omega) rfl) bn (by omega) (by omega) (by omega) rfl : Yv _ _ _ _ (.sl g1 8 4 4) _)) (wE [.u8 (bo big), .sl g1 8 4 4] b9 rfl rfl (aa (aG big _ ((ak (H19.g 1 rfl) hyl).drop_ 8) (hby.drop 8) (by omega) (by omega)) ?_)))))))
 rintro e w22 ⟨rfl, HS21⟩
 have H23 := H19.cal0 HS21
 refine ⟨_, rfl, ?_⟩
 refine wc rfl (wf pQ rfl (ws (es H23 2 4 (.u32 (n4 big (ys.drop 8))) rfl ar (fun w25 H24 =>  ?_))))
 refine wn (sr (av (.nilIface) rfl (wn (aQ ?_))))
 exact ⟨.inr rfl, _, r1 (.nilIface) rfl _ _, ⟨rfl, (H24.drop 1).perm (.swap ..)⟩⟩
theorem kB {hb rb N C i : Nat} {A : Option Addr} {p : Int} {xs ys : List Int} {a0 a1 : Addr} (big : Bool) (w : World) (hh : (aq hb [.u32 0, .u8 0, .u8 0, .u16 0, .u64 0] 205).φ w) (hrb : (aq rb [.slice A N C, .i64 (↑i), .i64 (p)] 190).φ w) (hG : Glob 224 w a0 a1) (hNC : N ≤ C) (hN63 : N ≤ 9223372036854775807) (hr : RI .u8 w A N xs) (hby0 : Byt xs) (hA : ∀ a, A = some a → a.block < w.heap.size ∧ a.block ≠ rb ∧ a.block ≠ hb) (hb4 : 4 ≤ hb) (hw4 : 4 ≤ w.heap.size) (h4 : 4 ≤ rb) (hne : hb ≠ rb) (ho : i + 16 ≤ N) (hys : ys = (xs.drop i).take 16) :
 Calls Tryd.prog 67 #[.pt hb, .iface 109 (.pt rb), .u8 (bo big)] w fun e w' => e = .returned .nilIface ∧ St w (fun k => k = hb ∨ k = rb) [aq hb [.u32 (n4 big (ys.drop 0)), .u8 (ys.getD 4 0), .u8 (ys.getD 5 0), .u16 (n2 big (ys.drop 6)), .u64 (n8 big (ys.drop 8))] 205, aq rb [.slice A N C, .i64 (↑i + 16), .i64 (-1)] 190] w' := by
 have hyl : ys.length = 16 := by rw [hys, List.length_take, List.length_drop, hr.1]; omega
 have hby : Byt ys := by rw [hys]; exact (hby0.drop _).take _
 refine a5 (args := [.pt hb, .iface 109 (.pt rb), .u8 (bo big)]) Tryd.func67 rfl rfl rfl ?_
 have H0 : St _ _ [aq hb [.u32 0, .u8 0, .u8 0, .u16 0, .u64 0] 205, aq rb [.slice A N C, .i64 (↑i), .i64 p] 190] _ := ((St.nil w (fun k => k = hb ∨ k = rb)).add _ hrb (fun _ h => .inr h) (by simp)).add _ hh (fun _ h => .inl h) (by simp only [List.mem_singleton]; rintro s rfl g h1 h2; exact hne (h1.symm.trans h2))
 refine sr (av (.nilIface) rfl (wn (sr (wm rfl (bt H0 (n := 16) (m := 16) cA i1 rfl rfl rfl rfl rfl (by omega) (by omega) (by omega) (fun g1 w2 hgg1 H3 =>  eh g1 0 16 16 rfl (wn (ad (sr (mv (.iface 109 (.pt rb)) rfl (ms g1 0 16 16 rfl ?_)))))))))))
 refine wE [.iface 109 (.pt rb), .sl g1 0 16 16] gK rfl rfl ?_
 have hgw : w.heap.size ≤ g1 := Nat.le_trans H0.keep.size hgg1
 have hbl : hb < w.heap.size := aA hh
 have hrl : rb < w.heap.size := aA hrb
 refine aa (iE _ (H3.g 2 rfl) (hG.keep H3.keep (fun k hk => by rcases hk with h | h <;> omega)) hN63 (H3.g 0 rfl) (by omega) h4 (by omega) (hr.keep H3.keep fun a ha h => by have := hA a ha; rcases h with h | h <;> omega) (fun a ha => by have := hA a ha; omega) hNC (by simp) (by omega) (by omega) (by omega) ho) ?_
 rintro e w5 ⟨rfl, HS4⟩
 rw [← hys] at HS4
 have H6 := H3.ky 2 0 rfl rfl HS4 (fun _ h => h)
 refine ⟨_, rfl, ?_⟩
 refine mv (.tuple #[.i64 16, .nilIface]) rfl (we (.i64 16) rfl rfl (we (.nilIface) rfl rfl (ai 16 rfl (av (.nilIface) rfl (wn (sr (mv (.nilIface) rfl (wv rfl ((nn false bq rfl (.inl rfl))) (wn (aj rfl (wk ?_)))))))))))
 refine sr (mp hb 0 rfl (mv (.u8 (bo big)) rfl (ms g1 0 16 16 rfl (wv rfl ((am (l := 0) (h := 16) aU rfl (bs rfl (by omega) rfl) bn (by omega) (by omega) (by omega) rfl : Yv _ _ _ _ (.sl g1 0 16 16) _)) (wE [.u8 (bo big), .sl g1 0 16 16] b9 rfl rfl (aa (aG big _ ((ak (H6.g 1 rfl) hyl).drop_ 0) (hby.drop 0) (by omega) (by omega)) ?_))))))
 rintro e w8 ⟨rfl, HS7⟩
 have H9 := H6.cal0 HS7
 refine ⟨_, rfl, ?_⟩
 refine wc rfl (wf gu rfl (ws (es H9 2 0 (.u32 (n4 big (ys.drop 0))) rfl ar (fun w11 H10 =>  ?_))))
 refine wn (sr (mp hb 0 rfl (ms g1 0 16 16 rfl (wv rfl (aI aU rfl rfl (by omega) (by omega)) (wv rfl (H10.load (i := 1) (k := 4) (v := .u8 (ys.getD 4 0)) rfl cC rfl (fI (by omega))) (wc rfl (wf gk rfl (ws (es H10 2 1 (.u8 (ys.getD 4 0)) rfl cC (fun w13 H12 =>  ?_))))))))))
 refine wn (sr (mp hb 0 rfl (ms g1 0 16 16 rfl (wv rfl (aI aU rfl rfl (by omega) (by omega)) (wv rfl (H12.load (i := 1) (k := 5) (v := .u8 (ys.getD 5 0)) rfl cC rfl (fI (by omega))) (wc rfl (wf gj rfl (ws (es H12 2 2 (.u8 (ys.getD 5 0)) rfl cC (fun w15 H14 =>  ?_))))))))))
 refine wn (sr (mp hb 0 rfl (mv (.u8 (bo big)) rfl (ms g1 0 16 16 rfl (wv rfl ((am (l := 6) (h := 16) aU rfl (bs rfl (by omega) rfl) bn (by omega) (by omega) (by omega) rfl : Yv _ _ _ _ (.sl g1 6 10 10) _)) (wE [.u8 (bo big), .sl g1 6 10 10] sD rfl rfl (aa (oe big _ ((ak (H14.g 1 rfl) hyl).drop_ 6) (hby.drop 6) (by omega) (by omega)) ?_)))))))
 rintro e w17 ⟨rfl, HS16⟩
 have H18 := H14.cal0 HS16
 refine ⟨_, rfl, ?_⟩
 refine wc rfl (wf gi rfl (ws (es H18 2 3 (.u16 (n2 big (ys.drop 6))) rfl gT (fun w20 H19 =>  ?_))))
 refine wn (sr (mp hb 0 rfl (mv (.u8 (bo big)) rfl (ms g1 0 16 16 rfl (wv rfl ((am (l := 8) (h := 16) aU rfl (bs rfl (by omega) rfl) bn (by omega) (by omega) (by omega) rfl : Yv _ _ _ _ (.sl g1 8 8 8) _)) (wE [.u8 (bo big), .sl g1 8 8 8] p7 rfl rfl (aa (fM big _ ((ak (H19.g 1 rfl) hyl).drop_ 8) (hby.drop 8) (by omega) (by omega)) ?_)))))))
 rintro e w22 ⟨rfl, HS21⟩
 have H23 := H19.cal0 HS21
 refine ⟨_, rfl, ?_⟩
 refine wc rfl (wf gg rfl (ws (es H23 2 4 (.u64 (n8 big (ys.drop 8))) rfl aM (fun w25 H24 =>  ?_))))
 refine wn (sr (av (.nilIface) rfl (wn (aQ ?_))))
 exact ⟨.inr rfl, _, r1 (.nilIface) rfl _ _, ⟨rfl, (H24.drop 1).perm (.swap ..)⟩⟩
theorem jz {hb rb N C i : Nat} {A : Option Addr} {p : Int} {xs ys : List Int} {a0 a1 : Addr} (big : Bool) (w : World) (hh : (aq hb [.u32 0, .u32 0] 214).φ w) (hrb : (aq rb [.slice A N C, .i64 (↑i), .i64 (p)] 190).φ w) (hG : Glob 224 w a0 a1) (hNC : N ≤ C) (hN63 : N ≤ 9223372036854775807) (hr : RI .u8 w A N xs) (hby0 : Byt xs) (hA : ∀ a, A = some a → a.block < w.heap.size ∧ a.block ≠ rb ∧ a.block ≠ hb) (hb4 : 4 ≤ hb) (hw4 : 4 ≤ w.heap.size) (h4 : 4 ≤ rb) (hne : hb ≠ rb) (ho : i + 8 ≤ N) (hys : ys = (xs.drop i).take 8) :
 Calls Tryd.prog 70 #[.pt hb, .iface 109 (.pt rb), .u8 (bo big)] w fun e w' => e = .returned .nilIface ∧ St w (fun k => k = hb ∨ k = rb) [aq hb [.u32 (n4 big (ys.drop 0)), .u32 (n4 big (ys.drop 4))] 214, aq rb [.slice A N C, .i64 (↑i + 8), .i64 (-1)] 190] w' := by
 have hyl : ys.length = 8 := by rw [hys, List.length_take, List.length_drop, hr.1]; omega
 have hby : Byt ys := by rw [hys]; exact (hby0.drop _).take _
 refine a5 (args := [.pt hb, .iface 109 (.pt rb), .u8 (bo big)]) Tryd.func70 rfl rfl rfl ?_
 have H0 : St _ _ [aq hb [.u32 0, .u32 0] 214, aq rb [.slice A N C, .i64 (↑i), .i64 p] 190] _ := ((St.nil w (fun k => k = hb ∨ k = rb)).add _ hrb (fun _ h => .inr h) (by simp)).add _ hh (fun _ h => .inl h) (by simp only [List.mem_singleton]; rintro s rfl g h1 h2; exact hne (h1.symm.trans h2))
 refine sr (av (.nilIface) rfl (wn (sr (wm rfl (bt H0 (n := 8) (m := 8) cA i1 rfl rfl rfl rfl rfl (by omega) (by omega) (by omega) (fun g1 w2 hgg1 H3 =>  eh g1 0 8 8 rfl (wn (ad (sr (mv (.iface 109 (.pt rb)) rfl (ms g1 0 8 8 rfl ?_)))))))))))
 refine wE [.iface 109 (.pt rb), .sl g1 0 8 8] gK rfl rfl ?_
 have hgw : w.heap.size ≤ g1 := Nat.le_trans H0.keep.size hgg1
 have hbl : hb < w.heap.size := aA hh
 have hrl : rb < w.heap.size := aA hrb
 refine aa (iE _ (H3.g 2 rfl) (hG.keep H3.keep (fun k hk => by rcases hk with h | h <;> omega)) hN63 (H3.g 0 rfl) (by omega) h4 (by omega) (hr.keep H3.keep fun a ha h => by have := hA a ha; rcases h with h | h <;> omega) (fun a ha => by have := hA a ha; omega) hNC (by simp) (by omega) (by omega) (by omega) ho) ?_
 rintro e w5 ⟨rfl, HS4⟩
 rw [← hys] at HS4
 have H6 := H3.ky 2 0 rfl rfl HS4 (fun _ h => h)
 refine ⟨_, rfl, ?_⟩
 refine mv (.tuple #[.i64 8, .nilIface]) rfl (we (.i64 8) rfl rfl (we (.nilIface) rfl rfl (ai 8 rfl (av (.nilIface) rfl (wn (sr (mv (.nilIface) rfl (wv rfl ((nn false bq rfl (.inl rfl))) (wn (aj rfl (wk ?_)))))))))))
 refine sr (mp hb 0 rfl (mv (.u8 (bo big)) rfl (ms g1 0 8 8 rfl (wv rfl ((am (l := 0) (h := 8) aU rfl (bs rfl (by omega) rfl) bn (by omega) (by omega) (by omega) rfl : Yv _ _ _ _ (.sl g1 0 8 8) _)) (wE [.u8 (bo big), .sl g1 0 8 8] b9 rfl rfl (aa (aG big _ ((ak (H6.g 1 rfl) hyl).drop_ 0) (hby.drop 0) (by omega) (by omega)) ?_))))))
 rintro e w8 ⟨rfl, HS7⟩
 have H9 := H6.cal0 HS7
 refine ⟨_, rfl, ?_⟩
 refine wc rfl (wf ff rfl (ws (es H9 2 0 (.u32 (n4 big (ys.drop 0))) rfl ar (fun w11 H10 =>  ?_))))
 refine wn (sr (mp hb 0 rfl (mv (.u8 (bo big)) rfl (ms g1 0 8 8 rfl (wv rfl ((am (l := 4) (h := 8) aU rfl (bs rfl (by omega) rfl) bn (by omega) (by omega) (by omega) rfl : Yv _ _ _ _ (.sl g1 4 4 4) _)) (wE [.u8 (bo big), .sl g1 4 4 4] b9 rfl rfl (aa (aG big _ ((ak (H10.g 1 rfl) hyl).drop_ 4) (hby.drop 4) (by omega) (by omega)) ?_)))))))
 rintro e w13 ⟨rfl, HS12⟩
 have H14 := H10.cal0 HS12
 refine ⟨_, rfl, ?_⟩
 refine wc rfl (wf ej rfl (ws (es H14 2 1 (.u32 (n4 big (ys.drop 4))) rfl ar (fun w16 H15 =>  ?_))))
 refine wn (sr (av (.nilIface) rfl (wn (aQ ?_))))
 exact ⟨.inr rfl, _, r1 (.nilIface) rfl _ _, ⟨rfl, (H15.drop 1).perm (.swap ..)⟩⟩
theorem ju {hb sb rb N C so : Nat} {A : Option Addr} {i p base lim sn : Int} {xs ys : List Int} {a0 a1 : Addr} {v0 v7 v8 v9 v10 v11 : Value} (big : Bool) (w : World) (hh : (aq hb [v0, .u32 0, .u32 0, .u32 0, .u32 0, .u32 0, .u32 0, v7, v8, v9, v10, v11] 121).φ w) (hsb : (aq sb [.iface 109 (.pt rb), .i64 base, .i64 (↑so), .i64 lim, .i64 sn] 195).φ w) (hrb : (aq rb [.slice A N C, .i64 (i), .i64 (p)] 190).φ w) (hl1 : (↑so : Int) < lim) (hl2 : (↑so : Int) + 28 ≤ lim) (hl3 : lim ≤ 9223372036854775807) (hsr : rb ≠ sb) (hbr : hb ≠ rb) (hG : Glob 224 w a0 a1) (hNC : N ≤ C) (hN63 : N ≤ 9223372036854775807) (hr : RI .u8 w A N xs) (hby0 : Byt xs) (hA : ∀ a, A = some a → a.block < w.heap.size ∧ a.block ≠ sb ∧ a.block ≠ hb) (hb4 : 4 ≤ hb) (hw4 : 4 ≤ w.heap.size) (h4 : 4 ≤ sb) (hne : hb ≠ sb) (ho : so + 28 ≤ N) (hys : ys = (xs.drop so).take 28) :
 Calls Tryd.prog 49 #[.pt hb, .iface 133 (.pt sb), .u8 (bo big)] w fun e w' => e = .returned .nilIface ∧ St w (fun k => k = hb ∨ k = sb) [aq hb [.u32 (n4 big (ys.drop 0)), .u32 (n4 big (ys.drop 4)), .u32 (n4 big (ys.drop 8)), .u32 (n4 big (ys.drop 12)), .u32 (n4 big (ys.drop 16)), .u32 (n4 big (ys.drop 20)), .u32 (n4 big (ys.drop 24)), v7, v8, v9, v10, v11] 121, aq sb [.iface 109 (.pt rb), .i64 base, .i64 (↑so + 28), .i64 lim, .i64 sn] 195] w' := by
 have hyl : ys.length = 28 := by rw [hys, List.length_take, List.length_drop, hr.1]; omega
 have hby : Byt ys := by rw [hys]; exact (hby0.drop _).take _
 refine a5 (args := [.pt hb, .iface 133 (.pt sb), .u8 (bo big)]) Tryd.func49 rfl rfl rfl ?_
 have H0 : St _ _ [aq hb [v0, .u32 0, .u32 0, .u32 0, .u32 0, .u32 0, .u32 0, v7, v8, v9, v10, v11] 121, aq sb [.iface 109 (.pt rb), .i64 base, .i64 (↑so), .i64 lim, .i64 sn] 195] _ := ((St.nil w (fun k => k = hb ∨ k = sb)).add _ hsb (fun _ h => .inr h) (by simp)).add _ hh (fun _ h => .inl h) (by simp only [List.mem_singleton]; rintro s rfl g h1 h2; exact hne (h1.symm.trans h2))
 refine sr (av (.nilIface) rfl (wn (sr (wm rfl (bt H0 (n := 28) (m := 28) cA i1 rfl rfl rfl rfl rfl (by omega) (by omega) (by omega) (fun g1 w2 hgg1 H3 =>  eh g1 0 28 28 rfl (wn (ad (sr (mv (.iface 133 (.pt sb)) rfl (ms g1 0 28 28 rfl ?_)))))))))))
 refine wE [.iface 133 (.pt sb), .sl g1 0 28 28] gK rfl rfl ?_
 have hgw : w.heap.size ≤ g1 := Nat.le_trans H0.keep.size hgg1
 have hbl : hb < w.heap.size := aA hh
 have hrl : rb < w.heap.size := aA hrb
 have hsl : sb < w.heap.size := aA hsb
 refine aa (tW _ (H3.g 2 rfl) hl1 hl2 hl3 ((aq _ _ _).stay _ _ hrb fun g hg => H3.keep.block g (by rw [show g = rb from hg]; exact aA hrb) (by rw [show g = rb from hg]; exact (fun h => by rcases h with h | h <;> omega))) (hG.keep H3.keep (fun k hk => by rcases hk with h | h <;> omega)) hN63 (H3.g 0 rfl) (by omega) (by omega) (by omega) (by omega) (by omega) (hr.keep H3.keep fun a ha h => by have := hA a ha; rcases h with h | h <;> omega) (fun a ha => by have := hA a ha; omega) hNC (by simp) (by omega) (by omega) (by omega) ho) ?_
 rintro e w5 ⟨rfl, HS4⟩
 rw [← hys] at HS4
 have H6 := H3.ky 2 0 rfl rfl HS4 (fun _ h => h)
 refine ⟨_, rfl, ?_⟩
 refine mv (.tuple #[.i64 28, .nilIface]) rfl (we (.i64 28) rfl rfl (we (.nilIface) rfl rfl (ai 28 rfl (av (.nilIface) rfl (wn (sr (mv (.nilIface) rfl (wv rfl ((nn false bq rfl (.inl rfl))) (wn (aj rfl (wk ?_)))))))))))
 refine sr (mp hb 0 rfl (mv (.u8 (bo big)) rfl (ms g1 0 28 28 rfl (wv rfl ((am (l := 0) (h := 28) aU rfl (bs rfl (by omega) rfl) bn (by omega) (by omega) (by omega) rfl : Yv _ _ _ _ (.sl g1 0 28 28) _)) (wE [.u8 (bo big), .sl g1 0 28 28] b9 rfl rfl (aa (aG big _ ((ak (H6.g 1 rfl) hyl).drop_ 0) (hby.drop 0) (by omega) (by omega)) ?_))))))
 rintro e w8 ⟨rfl, HS7⟩
 have H9 := H6.cal0 HS7
 refine ⟨_, rfl, ?_⟩
 refine wc rfl (wf fG rfl (ws (es H9 2 0 (.u32 (n4 big (ys.drop 0))) rfl ar (fun w11 H10 =>  ?_))))
 refine wn (sr (mp hb 0 rfl (mv (.u8 (bo big)) rfl (ms g1 0 28 28 rfl (wv rfl ((am (l := 4) (h := 28) aU rfl (bs rfl (by omega) rfl) bn (by omega) (by omega) (by omega) rfl : Yv _ _ _ _ (.sl g1 4 24 24) _)) (wE [.u8 (bo big), .sl g1 4 24 24] b9 rfl rfl (aa (aG big _ ((ak (H10.g 1 rfl) hyl).drop_ 4) (hby.drop 4) (by omega) (by omega)) ?_)))))))
 rintro e w13 ⟨rfl, HS12⟩
 have H14 := H10.cal0 HS12
 refine ⟨_, rfl, ?_⟩
 refine wc rfl (wf rn rfl (ws (es H14 2 1 (.u32 (n4 big (ys.drop 4))) rfl tT (fun w16 H15 =>  ?_))))
 refine wn (sr (mp hb 0 rfl (mv (.u8 (bo big)) rfl (ms g1 0 28 28 rfl (wv rfl ((am (l := 8) (h := 28) aU rfl (bs rfl (by omega) rfl) bn (by omega) (by omega) (by omega) rfl : Yv _ _ _ _ (.sl g1 8 20 20) _)) (wE [.u8 (bo big), .sl g1 8 20 20] b9 rfl rfl (aa (aG big _ ((ak (H15.g 1 rfl) hyl).drop_ 8) (hby.drop 8) (by omega) (by omega)) ?_)))))))
 rintro e w18 ⟨rfl, HS17⟩
 have H19 := H15.cal0 HS17
 refine ⟨_, rfl, ?_⟩
 refine wc rfl (wf rm rfl (ws (es H19 2 2 (.u32 (n4 big (ys.drop 8))) rfl ar (fun w21 H20 =>  ?_))))
 refine wn (sr (mp hb 0 rfl (mv (.u8 (bo big)) rfl (ms g1 0 28 28 rfl (wv rfl ((am (l := 12) (h := 28) aU rfl (bs rfl (by omega) rfl) bn (by omega) (by omega) (by omega) rfl : Yv _ _ _ _ (.sl g1 12 16 16) _)) (wE [.u8 (bo big), .sl g1 12 16 16] b9 rfl rfl (aa (aG big _ ((ak (H20.g 1 rfl) hyl).drop_ 12) (hby.drop 12) (by omega) (by omega)) ?_)))))))
 rintro e w23 ⟨rfl, HS22⟩
 have H24 := H20.cal0 HS22
 refine ⟨_, rfl, ?_⟩
 refine wc rfl (wf rl rfl (ws (es H24 2 3 (.u32 (n4 big (ys.drop 12))) rfl tS (fun w26 H25 =>  ?_))))
 refine wn (sr (mp hb 0 rfl (mv (.u8 (bo big)) rfl (ms g1 0 28 28 rfl (wv rfl ((am (l := 16) (h := 28) aU rfl (bs rfl (by omega) rfl) bn (by omega) (by omega) (by omega) rfl : Yv _ _ _ _ (.sl g1 16 12 12) _)) (wE [.u8 (bo big), .sl g1 16 12 12] b9 rfl rfl (aa (aG big _ ((ak (H25.g 1 rfl) hyl).drop_ 16) (hby.drop 16) (by omega) (by omega)) ?_)))))))
 rintro e w28 ⟨rfl, HS27⟩
 have H29 := H25.cal0 HS27
 refine ⟨_, rfl, ?_⟩
 refine wc rfl (wf kX rfl (ws (es H29 2 4 (.u32 (n4 big (ys.drop 16))) rfl ar (fun w31 H30 =>  ?_))))
 refine wn (sr (mp hb 0 rfl (mv (.u8 (bo big)) rfl (ms g1 0 28 28 rfl (wv rfl ((am (l := 20) (h := 28) aU rfl (bs rfl (by omega) rfl) bn (by omega) (by omega) (by omega) rfl : Yv _ _ _ _ (.sl g1 20 8 8) _)) (wE [.u8 (bo big), .sl g1 20 8 8] b9 rfl rfl (aa (aG big _ ((ak (H30.g 1 rfl) hyl).drop_ 20) (hby.drop 20) (by omega) (by omega)) ?_)))))))
 rintro e w33 ⟨rfl, HS32⟩
 have H34 := H30.cal0 HS32
 refine ⟨_, rfl, ?_⟩
 refine wc rfl (wf kW rfl (ws (es H34 2 5 (.u32 (n4 big (ys.drop 20))) rfl ar (fun w36 H35 =>  ?_))))
 refine wn (sr (mp hb 0 rfl (mv (.u8 (bo big)) rfl (ms g1 0 28 28 rfl (wv rfl ((am (l := 24) (h := 28) aU rfl (bs rfl (by omega) rfl) bn (by omega) (by omega) (by omega) rfl : Yv _ _ _ _ (.sl g1 24 4 4) _)) (wE [.u8 (bo big), .sl g1 24 4 4] b9 rfl rfl (aa (aG big _ ((ak (H35.g 1 rfl) hyl).drop_ 24) (hby.drop 24) (by omega) (by omega)) ?_)))))))
 rintro e w38 ⟨rfl, HS37⟩
 have H39 := H35.cal0 HS37
 refine ⟨_, rfl, ?_⟩
 refine wc rfl (wf rk rfl (ws (es H39 2 6 (.u32 (n4 big (ys.drop 24))) rfl ar (fun w41 H40 =>  ?_))))
 refine wn (sr (av (.nilIface) rfl (wn (aQ ?_))))
 exact ⟨.inr rfl, _, r1 (.nilIface) rfl _ _, ⟨rfl, (H40.drop 1).perm (.swap ..)⟩⟩
theorem iW {hb sb rb N C so : Nat} {A : Option Addr} {i p base lim sn : Int} {xs ys : List Int} {a0 a1 : Addr} {v0 v7 v8 v9 v10 v11 : Value} (big : Bool) (w : World) (hh : (aq hb [v0, .u32 0, .u32 0, .u32 0, .u32 0, .u32 0, .u32 0, v7, v8, v9, v10, v11] 121).φ w) (hsb : (aq sb [.iface 109 (.pt rb), .i64 base, .i64 (↑so), .i64 lim, .i64 sn] 195).φ w) (hrb : (aq rb [.slice A N C, .i64 (i), .i64 (p)] 190).φ w) (hl1 : (↑so : Int) < lim) (hl2 : (↑so : Int) + 28 ≤ lim) (hl3 : lim ≤ 9223372036854775807) (hsr : rb ≠ sb) (hbr : hb ≠ rb) (hG : Glob 224 w a0 a1) (hNC : N ≤ C) (hN63 : N ≤ 9223372036854775807) (hr : RI .u8 w A N xs) (hby0 : Byt xs) (hA : ∀ a, A = some a → a.block < w.heap.size ∧ a.block ≠ sb ∧ a.block ≠ hb) (hb4 : 4 ≤ hb) (hw4 : 4 ≤ w.heap.size) (h4 : 4 ≤ sb) (hne : hb ≠ sb) (ho : N < so + 28) (hon : so < N) :
 Calls Tryd.prog 49 #[.pt hb, .iface 133 (.pt sb), .u8 (bo big)] w fun e w' => ∃ T v, e = .returned (.iface T v) ∧ St w (fun k => k = hb ∨ k = sb) [aq hb [v0, .u32 0, .u32 0, .u32 0, .u32 0, .u32 0, .u32 0, v7, v8, v9, v10, v11] 121] w' := by
 refine a5 (args := [.pt hb, .iface 133 (.pt sb), .u8 (bo big)]) Tryd.func49 rfl rfl rfl ?_
 have H0 : St _ _ [aq hb [v0, .u32 0, .u32 0, .u32 0, .u32 0, .u32 0, .u32 0, v7, v8, v9, v10, v11] 121, aq sb [.iface 109 (.pt rb), .i64 base, .i64 (↑so), .i64 lim, .i64 sn] 195] _ := ((St.nil w (fun k => k = hb ∨ k = sb)).add _ hsb (fun _ h => .inr h) (by simp)).add _ hh (fun _ h => .inl h) (by simp only [List.mem_singleton]; rintro s rfl g h1 h2; exact hne (h1.symm.trans h2))
 refine sr (av (.nilIface) rfl (wn (sr (wm rfl (bt H0 (n := 28) (m := 28) cA i1 rfl rfl rfl rfl rfl (by omega) (by omega) (by omega) (fun g1 w2 hgg1 H3 =>  eh g1 0 28 28 rfl (wn (ad (sr (mv (.iface 133 (.pt sb)) rfl (ms g1 0 28 28 rfl ?_)))))))))))
 refine wE [.iface 133 (.pt sb), .sl g1 0 28 28] gK rfl rfl ?_
 have hgw : w.heap.size ≤ g1 := Nat.le_trans H0.keep.size hgg1
 have hbl : hb < w.heap.size := aA hh
 have hrl : rb < w.heap.size := aA hrb
 have hsl : sb < w.heap.size := aA hsb
 refine aa (sj _ (H3.g 2 rfl) hl1 hl2 hl3 ((aq _ _ _).stay _ _ hrb fun g hg => H3.keep.block g (by rw [show g = rb from hg]; exact aA hrb) (by rw [show g = rb from hg]; exact (fun h => by rcases h with h | h <;> omega))) (hG.keep H3.keep (fun k hk => by rcases hk with h | h <;> omega)) hN63 (H3.g 0 rfl) (by omega) (by omega) (by omega) (by omega) (by omega) (hr.keep H3.keep fun a ha h => by have := hA a ha; rcases h with h | h <;> omega) (fun a ha => by have := hA a ha; omega) hNC (by simp) (by omega) (by omega) (by omega) ho hon) ?_
 rintro e w5 ⟨x, T, v, rfl, HS4⟩
 have H6 := H3.ky 2 0 rfl rfl HS4 (fun _ h => h)
 refine ⟨_, rfl, ?_⟩
 refine mv (.tuple #[x, .iface T v]) rfl (we x rfl rfl (we (.iface T v) rfl rfl (av x rfl (av (.iface T v) rfl (wn (sr (mv (.iface T v) rfl (wv rfl ((nn true bq rfl (.inr ⟨_, _, rfl⟩))) (wn (ay rfl (sr ?_)))))))))))
 refine mv (.iface T v) rfl (av (.iface T v) rfl (wn (rq ?_)))
 exact ⟨.inr rfl, _, r1 (.iface T v) rfl _ _, ⟨_, _, rfl, H6.sub (.cons_cons _ (List.Sublist.slnil))⟩⟩
end Go.Proofs.YtlndedfkgiafhaaDoor
