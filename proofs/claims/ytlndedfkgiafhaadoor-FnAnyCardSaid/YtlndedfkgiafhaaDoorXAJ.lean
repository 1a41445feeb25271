import Derived.Test.YtlndedfkgiafhaaDoorXAI
set_option linter.unusedVariables false
set_option linter.unusedSimpArgs false
set_option maxRecDepth 100000
set_option maxHeartbeats 4000000
namespace Go.Proofs.YtlndedfkgiafhaaDoor
open Go Go.RowKit Go.Proofs
theorem ov : cQ Tryd.prog 141 [.u32 0, .u32 0, .u32 0, .u32 0, .u32 0, .u32 0] := bv (by kernel_rfl)
theorem vw : aX Tryd.prog 55 := aJ (by kernel_rfl)
theorem CK56 : aX Tryd.prog 56 := aJ (by kernel_rfl)
theorem vF : Tryd.prog.concrete 118 = true := by kernel_rfl
theorem tF : cQ Tryd.prog 146 [.u32 0, .u32 0, .u32 0, .u32 0, .u32 0, .u32 0, .u32 0, .u32 0, .u32 0, .u32 0, .u32 0, .u32 0, .u32 0, .u32 0, .u32 0, .u32 0, .u32 0, .u32 0, .u32 0, .u32 0] := bv (by kernel_rfl)
theorem CK57 : aX Tryd.prog 57 := aJ (by kernel_rfl)
theorem CK58 : aX Tryd.prog 58 := aJ (by kernel_rfl)
theorem tE : cQ Tryd.prog 148 [.ns, .u32 0, .u32 0, .u32 0, .u32 0, .u32 0, .u32 0, .u32 0, .u32 0, .u32 0, .u32 0, .u32 0, .u32 0, .u32 0, .u32 0, .u32 0, .u32 0, .u32 0, .u32 0, .u32 0, .u32 0, .ns] := bv (by kernel_rfl)
theorem uQ : FA 148 0 0 := fa (by kernel_rfl)
theorem TG146 : gN Tryd.prog 146 20 := dR (by kernel_rfl)
theorem TZ146 : (Tryd.prog.info? 146).map (·.size) = some 20 := by kernel_rfl
theorem TC119 : Tryd.prog.concrete 119 = true := by kernel_rfl
theorem sS {rb N C fb gd o0 o m sz cr nL cL nS cS : Nat} {A AL AS : Option Addr} {i0 p0 of ii : Int} {xs raw ds : List Int} {a0 a1 : Addr} {h : Nat → Int} {vs : List Value} {gs : List Nat} {sy dy : Value} {D : Res} {s : PSt} (big : Bool) (w w1 : World) (hrb : (aq rb [.slice A N C, .i64 i0, .i64 p0] 190).φ w) (hG : Glob 224 w a0 a1) (hNC : N ≤ C) (hN : N < 10485760) (hr : RI .u8 w A N xs) (hby : Byt xs) (hA : ∀ a, A = some a → a.block < w.heap.size) (hw4 : 4 ≤ w.heap.size)
 (hDg : D.F gd) (hnL : nL + sz + m ≤ 10485760) (hnS : nS + sz + m ≤ 10485760) (hD : NFD D.φ rb s gd o m ds vs gs sy dy) (hRaw : ∀ w, D.φ w → RI .u8 w (some ⟨gd, o0, none⟩) sz raw) (hrby : Byt raw) (hrl : raw.length = sz) (hscr : sz ≤ cr) (hsz8 : 8 ≤ sz) (hof0 : 0 ≤ of) (hof1 : of + ↑m ≤ 10485800)
 (H1 : St w aW (sY fb big h AL AS nL cL nS cS vs gs sy dy D) w1) {ρ : cF} (h0 : ρ 0 = .iface 109 (.pt rb)) (h4 : ρ 4 = .pt fb) (h12 : ρ 12 = .i64 of) (h13 : ρ 13 = .sl gd o m m) (h16 : ρ 16 = .u8 (bo big)) (h17 : ρ 17 = .u32 ii) (h18 : ρ 18 = .u32 2) (h19 : ρ 19 = .u32 ↑sz) (h20 : ρ 20 = .sl gd o0 sz cr) (h21 : ρ 21 = .np) (hw : h 0 = 4277009103)
 {Q : QE} (hQ : ∀ s' ρ' w', br true big xs raw s = some s' → Fr ρ' rb fb gd o m big ii → Mid w rb fb big h gd o m ds s' w' → Q .normal ρ' w') (hR : br true big xs raw s = none → ∀ ρ' w' T v, ρ' 2 = .np → ρ' 3 = .iface T v → Keep w aW w' → Q .ret ρ' w') :
 W Tryd.prog 931 ((d7 3 (Tryd.f41.body.getD .skip)).getD .skip) Q ρ w1 := by
 refine nZ rfl ?_
 have H0 : St w aW [aq fb [.u32 (h 0), .u32 (h 1), .u32 (h 2), .u32 (h 3), .u32 (h 4), .u32 (h 5), .u32 (h 6), .u8 (bo big), .slice AL nL cL, .slice AS nS cS, sy, dy] 121, aH 123 1 (.slice AL nL cL) nL vs, aH 125 1 (.slice AS nS cS) nS (bM gs), D] w1 := H1
 refine ad (sr (mg h18 rfl (wn (aC (sr (wv rfl (aL (c := false) rfl rfl rfl) (av (.bool false) rfl (wn (aj rfl (sr (wv rfl (aL (c := false) rfl rfl rfl) ?_)))))))))))
 refine av (.bool false) rfl (wn (aj rfl (sr (wv rfl (aL (c := true) rfl rfl rfl) (av (.bool true) rfl (wn (ay rfl (sr (wm rfl (aK H0 ov (fun g1 w2 hgg1 H3 =>  wn ?_)))))))))))
 refine sr (mg h20 rfl (wE [.sl gd o0 sz cr] lN rfl rfl (aa (cH (some ⟨gd, o0, none⟩) sz cr _) ?_)))
 rintro e w5 ⟨gq, rfl, hgq, HS4⟩
 have H6 := H3.cal0 HS4
 refine ⟨_, rfl, ?_⟩
 refine ap gq 0 rfl (wn (ad (ad ?_)))
 by_cases hfit : 0 + 24 ≤ sz
 ·
  obtain ⟨ys, hys⟩ : ∃ q, q = (raw.drop (0)).take 24 := ⟨_, rfl⟩
  have hbys : Byt ys := by rw [hys]; exact (hrby.drop _).take _
  have hlys : ys.length = 24 := by rw [hys, List.length_take, List.length_drop, hrl]; omega
  obtain ⟨q8, hq8⟩ : ∃ q : Nat, (q : Int) = n4 big (ys.drop 8) := ⟨(n4 big (ys.drop 8)).toNat, Int.toNat_of_nonneg (aR big (hbys.drop _)).1⟩
  have hltq8 : (q8 : Int) < 4294967296 := by rw [hq8]; exact (aR big (hbys.drop _)).2
  obtain ⟨q12, hq12⟩ : ∃ q : Nat, (q : Int) = n4 big (ys.drop 12) := ⟨(n4 big (ys.drop 12)).toNat, Int.toNat_of_nonneg (aR big (hbys.drop _)).1⟩
  have hltq12 : (q12 : Int) < 4294967296 := by rw [hq12]; exact (aR big (hbys.drop _)).2
  obtain ⟨q16, hq16⟩ : ∃ q : Nat, (q : Int) = n4 big (ys.drop 16) := ⟨(n4 big (ys.drop 16)).toNat, Int.toNat_of_nonneg (aR big (hbys.drop _)).1⟩
  have hltq16 : (q16 : Int) < 4294967296 := by rw [hq16]; exact (aR big (hbys.drop _)).2
  obtain ⟨q20, hq20⟩ : ∃ q : Nat, (q : Int) = n4 big (ys.drop 20) := ⟨(n4 big (ys.drop 20)).toNat, Int.toNat_of_nonneg (aR big (hbys.drop _)).1⟩
  have hltq20 : (q20 : Int) < 4294967296 := by rw [hq20]; exact (aR big (hbys.drop _)).2
  refine ae (mp gq 0 rfl (wv rfl (aF (v := .pt gq) dW rfl) (mg h16 rfl (wE [.pt g1, .iface 109 (.pt gq), .u8 (bo big)] vw rfl rfl ?_))))
  have hne8 := H6.blk_ne (i := 0) (j := 1) rfl rfl (by decide)
  have hge1 := H6.ge (i := 0) rfl
  have hge2 := H6.ge (i := 1) rfl
  have hws := H6.keep.size
  refine aa (gC (ys := ys) (i := 0) (A := some ⟨gd, o0, none⟩) (xs := raw) big _ (H6.g 1 rfl) (H6.g 0 rfl) (hG.keep H6.keep fun k hk => hk.elim) hscr (by omega) (hRaw _ (H6.g 5 rfl)) hrby (fun a ha => by injection ha with ha; subst ha; exact ⟨D.live _ _ (H6.g 5 rfl) hDg, H6.sepD (i := 0) (j := 5) rfl rfl (by decide) hDg, H6.sepD (i := 1) (j := 5) rfl rfl (by decide) hDg⟩) (by omega) (by omega) (by omega) (by omega) (by omega) hys) ?_
  rintro e w9 ⟨rfl, HS7⟩
  rw [← hq8] at HS7
  rw [← hq12] at HS7
  rw [← hq16] at HS7
  rw [← hq20] at HS7
  have H10 := H6.ky 1 0 rfl rfl HS7 (fun _ h => h)
  refine ⟨_, rfl, ?_⟩
  refine av (.nilIface) rfl (wn (sr (mv (.nilIface) rfl (wv rfl ((nn false bq rfl (.inl rfl))) (wn (aj rfl (wk (ad ?_))))))))
  by_cases hf1 : q20 = 0 ∨ q16 + q20 ≤ N
  ·
   refine ae (mg h0 rfl (wf iR rfl (wv rfl (H10.ld 0 rfl ar rfl (.u32 (↑q20)) rfl) (wv rfl (an bm be rfl (a6 (by omega) (by omega))) (wf iS rfl (wv rfl (H10.ld 0 rfl ar rfl (.u32 (↑q16)) rfl) (wv rfl (an bm f9 rfl (aE (by omega) (by omega))) (wE [.iface 109 (.pt rb), .u64 (↑q20), .i64 (↑q16)] iZ rfl rfl (aa (ir (n := q20) (off := q16) _ (b7 hrb H10.keep) (hG.keep H10.keep fun k hk => hk.elim) hNC hN (hr.keep0 H10.keep) (fun a ha => Nat.lt_of_lt_of_le (hA a ha) H10.keep.size) (Nat.le_trans hw4 H10.keep.size) (by omega) hf1) ?_)))))))))
   rintro e w13 ⟨gt12, rfl, hggt12, HS11⟩
   have H14 := H10.cal0 HS11
   refine ⟨_, rfl, ?_⟩
   refine mv (.tuple #[.sl gt12 0 q20 q20, .nilIface]) rfl (we (.sl gt12 0 q20 q20) rfl rfl (we (.nilIface) rfl rfl (eh gt12 0 q20 q20 rfl (av (.nilIface) rfl (wn (ad (sr (mv (.nilIface) rfl (wv rfl ((nn false bq rfl (.inl rfl))) (wn (aj rfl ?_)))))))))))
   refine wk (sr (ai 0 rfl (wn (ad (sr (mg h4 rfl (wc rfl (wf cK rfl (wf fG rfl (wv rfl (H14.ld 3 rfl ar rfl (.u32 (h 0)) rfl) (wv rfl (aL rfl rfl (beq_iff_eq.2 (hw))) ?_)))))))))))
   refine wn (ay rfl (ae (ai 16 rfl (wn (ad ?_)))))
   by_cases hf2 : 16 * q12 = 0 ∨ q8 + 16 * q12 ≤ N
   ·
    refine ae (mg h0 rfl (wf fh rfl (wv rfl (H14.ld 1 rfl ar rfl (.u32 (↑q12)) rfl) (wv rfl (an bm be rfl (a6 (by omega) (by omega))) (mi 16 rfl (wv rfl (an (c := 16) eL be rfl rfl) (wv rfl (c6 (k := .u64) (c := ↑(16 * q12)) rfl rfl (by rw [a6 (by omega) (by omega)]; omega)) (wf iT rfl (wv rfl (H14.ld 1 rfl ar rfl (.u32 (↑q8)) rfl) (wv rfl (an bm f9 rfl (aE (by omega) (by omega))) (wE [.iface 109 (.pt rb), .u64 (↑(16 * q12)), .i64 (↑q8)] iZ rfl rfl ?_)))))))))))
    refine aa (ir (n := 16 * q12) (off := q8) _ (b7 hrb H14.keep) (hG.keep H14.keep fun k hk => hk.elim) hNC hN (hr.keep0 H14.keep) (fun a ha => Nat.lt_of_lt_of_le (hA a ha) H14.keep.size) (Nat.le_trans hw4 H14.keep.size) (by omega) hf2) ?_
    rintro e w17 ⟨gt16, rfl, hggt16, HS15⟩
    have H18 := H14.cal0 HS15
    refine ⟨_, rfl, ?_⟩
    refine mv (.tuple #[.sl gt16 0 (16 * q12) (16 * q12), .nilIface]) rfl (we (.sl gt16 0 (16 * q12) (16 * q12)) rfl rfl (we (.nilIface) rfl rfl (eh gt16 0 (16 * q12) (16 * q12) rfl (av (.nilIface) rfl (wn (ad (sr (mv (.nilIface) rfl (wv rfl ((nn false bq rfl (.inl rfl))) (wn (aj rfl ?_)))))))))))
    refine wk (sr (mg h4 rfl (ms gt16 0 (16 * q12) (16 * q12) rfl (ms gt12 0 q20 q20 rfl (mg h20 rfl (mg h12 rfl (wE [.pt fb, .sl gt16 0 (16 * q12) (16 * q12), .sl gt12 0 q20 q20, .sl gd o0 sz cr, .pt g1, .i64 of] CK56 rfl rfl (aa (um (xs := ((xs.drop q8).take (16 * q12))) (st := ((xs.drop q16).take q20)) big _ (H18.c 4 0 rfl rfl) (H18.c 4 7 rfl rfl) hw (H18.c 2 3 rfl rfl) (by omega) (hG.keep H18.keep fun k hk => hk.elim) (Nat.le_trans hw4 H18.keep.size) (ak (H18.g 0 rfl) (by rw [List.length_take, List.length_drop, hr.1]; omega)) ((hby.drop _).take _) (H18.lt (i := 0) rfl) (ak (H18.g 1 rfl) (by rw [List.length_take, List.length_drop, hr.1]; omega)) ((hby.drop _).take _) (Nat.le_refl _) (by omega)) ?_))))))))
    rintro e w20 (⟨hgood, gsy, Av, cv, D2, rfl, HS19, hD2⟩ | ⟨hbad, T, ev, rfl, HS19⟩)
    ·
     have H21 := H18.cal0 HS19
     refine ⟨_, rfl, ?_⟩
     refine mv (.tuple #[.pt gsy, .nilIface]) rfl (we (.pt gsy) rfl rfl (we (.nilIface) rfl rfl (ap gsy 0 rfl (av (.nilIface) rfl (wn (ad (sr (mv (.nilIface) rfl (wv rfl ((nn false bq rfl (.inl rfl))) (wn (aj rfl ?_)))))))))))
     refine wk (sr (mg h4 rfl (mg h4 rfl (wc rfl (wf cT rfl (wv rfl (H21.ld 5 rfl dG rfl (.slice AL nL cL) rfl) (mp gsy 0 rfl (wv rfl (aF (v := .pt gsy) vF rfl) (wm rfl (eb H21 123 [.iface 118 (.pt gsy)] rfl (by kernel_rfl) (fun g22 w23 hgg22 H24 =>  wm rfl ?_)))))))))))
     refine bR H24 7 (m := 1) (news := [.iface 118 (.pt gsy)]) rfl j8 jG rfl (by decide) rfl rfl rfl (H24.news (i := 0) rfl) (by simp [Value.oneCell']) (by simp only [maxLen]; omega) (by omega) (fun v25 w26 H27 =>  ?_)
     obtain ⟨A28, c29, rfl, _, _⟩ := aw (H27.g 7 rfl)
     refine wc rfl (wf cT rfl (ws (es H27 6 8 (.slice A28 (nL + 1) c29) rfl dG (fun w31 H30 =>  ?_))))
     refine wn (ae (mg h4 rfl (mp gsy 0 rfl (wc rfl (wf fE rfl (ws (es H30 6 10 (.pt gsy) rfl ip (fun w33 H32 =>  ?_))))))))
     refine bl (ao (ac (sr (mg h21 rfl (wv rfl ((show Yv _ _ _ _ (.bool false) _ from cJ (p := none) k6 rfl)) (wn (aj rfl (cG ?_))))))))
     have hst : br true big xs raw s = some { s with loads := s.loads ++ [⟨4, raw, [], [0, 0, 0, 0, 0, 0]⟩], syms := some (bO true big ((xs.drop q16).take q20) ((xs.drop q8).take (16 * q12)) q12) } := by have e1 : gG xs q16 q20 = some ((xs.drop q16).take q20) := bT (by rw [hr.1]; exact hf1); have e2 : gG xs q8 (ep true * q12) = some ((xs.drop q8).take (16 * q12)) := bT (by rw [hr.1]; exact hf2); have e3 : m7 true big ((xs.drop q16).take q20) ((xs.drop q8).take (16 * q12)) q12 = some (bO true big ((xs.drop q16).take q20) ((xs.drop q8).take (16 * q12)) q12) := if_pos hgood; simp only [br, ← hys, ← hq8, ← hq12, ← hq16, ← hq20, Int.toNat_natCast, e1, e2, e3]; rw [if_neg (by omega)]
     have Hn : St w aW [aq fb [.u32 (h 0), .u32 (h 1), .u32 (h 2), .u32 (h 3), .u32 (h 4), .u32 (h 5), .u32 (h 6), .u8 (bo big), .slice A28 (nL + 1) c29, .slice AS nS cS, .pt gsy, dy] 121, aH 123 1 (.slice A28 (nL + 1) c29) (nL + 1) (vs ++ [.iface 118 (.pt gsy)]), aH 125 1 (.slice AS nS cS) nS (bM gs), Res.all [D2, D]] w33 := (H32.reAll [1, 9] [6, 7, 8]).re [1, 2, 3, 0]
     have hsub : ∀ w, (Res.all [D2, D]).φ w → D.φ w := fun w hh => aV.1 hh D (by simp)
     have hDn : NFD (Res.all [D2, D]).φ rb ({ s with loads := s.loads ++ [⟨4, raw, [], [0, 0, 0, 0, 0, 0]⟩], syms := some (bO true big ((xs.drop q16).take q20) ((xs.drop q8).take (16 * q12)) q12) }) gd o m ds (vs ++ [.iface 118 (.pt gsy)]) gs (.pt gsy) (dy) := ⟨fun w hh => hD.dat w (hsub w hh), fun w hh => (hD.ld w (hsub w hh)).snoc (by have hh := aV.1 hh; exact .inr (.inr (.inr (.inr (.inl ⟨_, _, _, raw, gsy, _, rfl, (hD2 _ (hh D2 (by simp))).1, hRaw _ (hsub _ (aV.2 hh)), by omega, rfl⟩))))), fun w hh => hD.sc w (hsub w hh), .inr ⟨gsy, q12, cv, Av, _, _, _, _, _, _, _, _, rfl, rfl, by omega, by rw [dc], fun w hh => hD2 w (aV.1 hh D2 (by simp))⟩, hD.dy.mono hsub⟩
     exact hQ _ _ _ hst ⟨h0, h4, ⟨_, h12, hof0, hof1⟩, h13, h16, h17⟩ ⟨Res.all [D2, D], _, _, _, _, _, _, vs ++ [.iface 118 (.pt gsy)], gs, _, _, .inr (.inl hDg), by omega, by omega, hDn, Hn⟩
    ·
     have H34 := H18.cal0 HS19
     refine ⟨_, rfl, ?_⟩
     refine mv (.tuple #[.np, .iface T ev]) rfl (we (.np) rfl rfl (we (.iface T ev) rfl rfl (av (.np) rfl (av (.iface T ev) rfl (wn (ad (sr (mv (.iface T ev) rfl (wv rfl ((nn true bq rfl (.inr ⟨_, _, rfl⟩))) (wn (ay rfl ?_)))))))))))
     refine sr (mv (.iface T ev) rfl (av (.np) rfl (av (.iface T ev) rfl (wn (rq (aB (ax ?_)))))))
     have hst : br true big xs raw s = none := by have e1 : gG xs q16 q20 = some ((xs.drop q16).take q20) := bT (by rw [hr.1]; exact hf1); have e2 : gG xs q8 (ep true * q12) = some ((xs.drop q8).take (16 * q12)) := bT (by rw [hr.1]; exact hf2); have e3 : m7 true big ((xs.drop q16).take q20) ((xs.drop q8).take (16 * q12)) q12 = none := if_neg (fun h => by obtain ⟨k, hk, hb⟩ := hbad; exact h k hk hb); simp only [br, ← hys, ← hq8, ← hq12, ← hq16, ← hq20, Int.toNat_natCast, e1, e2, e3]; rw [if_neg (by omega)]
     exact hR hst _ _ _ _ rfl rfl H34.keep
   ·
    refine ae (mg h0 rfl (wf fh rfl (wv rfl (H14.ld 1 rfl ar rfl (.u32 (↑q12)) rfl) (wv rfl (an bm be rfl (a6 (by omega) (by omega))) (mi 16 rfl (wv rfl (an (c := 16) eL be rfl rfl) (wv rfl (c6 (k := .u64) (c := ↑(16 * q12)) rfl rfl (by rw [a6 (by omega) (by omega)]; omega)) (wf iT rfl (wv rfl (H14.ld 1 rfl ar rfl (.u32 (↑q8)) rfl) (wv rfl (an bm f9 rfl (aE (by omega) (by omega))) (wE [.iface 109 (.pt rb), .u64 (↑(16 * q12)), .i64 (↑q8)] iZ rfl rfl ?_)))))))))))
    refine aa (fS (n := 16 * q12) (off := q8) _ (b7 hrb H14.keep) (hG.keep H14.keep fun k hk => hk.elim) hNC hN (hr.keep0 H14.keep) (fun a ha => Nat.lt_of_lt_of_le (hA a ha) H14.keep.size) (Nat.le_trans hw4 H14.keep.size) (by omega) (by omega) (by omega) (by omega)) ?_
    rintro e w37 ⟨T, ev, rfl, HS35⟩
    have H38 := H14.cal0 HS35
    refine ⟨_, rfl, ?_⟩
    refine mv (.tuple #[.ns, .iface T ev]) rfl (we (.ns) rfl rfl (we (.iface T ev) rfl rfl (av (.ns) rfl (av (.iface T ev) rfl (wn (ad (sr (mv (.iface T ev) rfl (wv rfl ((nn true bq rfl (.inr ⟨_, _, rfl⟩))) (wn (ay rfl ?_)))))))))))
    refine sr (mv (.iface T ev) rfl (av (.np) rfl (av (.iface T ev) rfl (wn (rq (aB (ax ?_)))))))
    have hst : br true big xs raw s = none := by have e1 : gG xs q16 q20 = some ((xs.drop q16).take q20) := bT (by rw [hr.1]; exact hf1); have e2 : gG xs q8 (ep true * q12) = none := dD (by rw [hr.1]; exact hf2); simp only [br, ← hys, ← hq8, ← hq12, ← hq16, ← hq20, Int.toNat_natCast, e1, e2]; rw [if_neg (by omega)]
    exact hR hst _ _ _ _ rfl rfl H38.keep
  ·
   refine ae (mg h0 rfl (wf iR rfl (wv rfl (H10.ld 0 rfl ar rfl (.u32 (↑q20)) rfl) (wv rfl (an bm be rfl (a6 (by omega) (by omega))) (wf iS rfl (wv rfl (H10.ld 0 rfl ar rfl (.u32 (↑q16)) rfl) (wv rfl (an bm f9 rfl (aE (by omega) (by omega))) (wE [.iface 109 (.pt rb), .u64 (↑q20), .i64 (↑q16)] iZ rfl rfl (aa (fS (n := q20) (off := q16) _ (b7 hrb H10.keep) (hG.keep H10.keep fun k hk => hk.elim) hNC hN (hr.keep0 H10.keep) (fun a ha => Nat.lt_of_lt_of_le (hA a ha) H10.keep.size) (Nat.le_trans hw4 H10.keep.size) (by omega) (by omega) (by omega) (by omega)) ?_)))))))))
   rintro e w41 ⟨T, ev, rfl, HS39⟩
   have H42 := H10.cal0 HS39
   refine ⟨_, rfl, ?_⟩
   refine mv (.tuple #[.ns, .iface T ev]) rfl (we (.ns) rfl rfl (we (.iface T ev) rfl rfl (av (.ns) rfl (av (.iface T ev) rfl (wn (ad (sr (mv (.iface T ev) rfl (wv rfl ((nn true bq rfl (.inr ⟨_, _, rfl⟩))) (wn (ay rfl ?_)))))))))))
   refine sr (mv (.iface T ev) rfl (av (.np) rfl (av (.iface T ev) rfl (wn (rq (aB (ax ?_)))))))
   have hst : br true big xs raw s = none := by have e1 : gG xs q16 q20 = none := dD (by rw [hr.1]; exact hf1); simp only [br, ← hys, ← hq8, ← hq12, ← hq16, ← hq20, Int.toNat_natCast, e1]; rw [if_neg (by omega)]
   exact hR hst _ _ _ _ rfl rfl H42.keep
 ·
  refine ae (mp gq 0 rfl (wv rfl (aF (v := .pt gq) dW rfl) (mg h16 rfl (wE [.pt g1, .iface 109 (.pt gq), .u8 (bo big)] vw rfl rfl ?_))))
  have hne44 := H6.blk_ne (i := 0) (j := 1) rfl rfl (by decide)
  have hge1 := H6.ge (i := 0) rfl
  have hge2 := H6.ge (i := 1) rfl
  have hws := H6.keep.size
  refine aa (fQ (ys := []) (i := 0) (A := some ⟨gd, o0, none⟩) (xs := raw) big _ (H6.g 1 rfl) (H6.g 0 rfl) (hG.keep H6.keep fun k hk => hk.elim) hscr (by omega) (hRaw _ (H6.g 5 rfl)) hrby (fun a ha => by injection ha with ha; subst ha; exact ⟨D.live _ _ (H6.g 5 rfl) hDg, H6.sepD (i := 0) (j := 5) rfl rfl (by decide) hDg, H6.sepD (i := 1) (j := 5) rfl rfl (by decide) hDg⟩) (by omega) (by omega) (by omega) (by omega) (by omega)) ?_
  rintro e w45 ⟨T, ev, rfl, HS43⟩
  have H46 := H6.ky 1 0 rfl rfl HS43 (fun _ h => h)
  refine ⟨_, rfl, ?_⟩
  refine av (.iface T ev) rfl (wn (sr (mv (.iface T ev) rfl (wv rfl ((nn true bq rfl (.inr ⟨_, _, rfl⟩))) (wn (ay rfl (sr (mv (.iface T ev) rfl (av (.np) rfl (av (.iface T ev) rfl (wn ?_)))))))))))
  refine rq (aB (ax ?_))
  have hst : br true big xs raw s = none := by unfold br; rw [if_pos (by omega)]
  exact hR hst _ _ _ _ rfl rfl H46.keep
theorem sU {rb N C fb gd o0 o m sz cr nL cL nS cS : Nat} {A AL AS : Option Addr} {i0 p0 of ii : Int} {xs raw ds : List Int} {a0 a1 : Addr} {h : Nat → Int} {vs : List Value} {gs : List Nat} {sy dy : Value} {D : Res} {s : PSt} (big : Bool) (w w1 : World) (hrb : (aq rb [.slice A N C, .i64 i0, .i64 p0] 190).φ w) (hG : Glob 224 w a0 a1) (hNC : N ≤ C) (hN : N < 10485760) (hr : RI .u8 w A N xs) (hby : Byt xs) (hA : ∀ a, A = some a → a.block < w.heap.size) (hw4 : 4 ≤ w.heap.size)
 (hDg : D.F gd) (hnL : nL + sz + m ≤ 10485760) (hnS : nS + sz + m ≤ 10485760) (hD : NFD D.φ rb s gd o m ds vs gs sy dy) (hRaw : ∀ w, D.φ w → RI .u8 w (some ⟨gd, o0, none⟩) sz raw) (hrby : Byt raw) (hrl : raw.length = sz) (hscr : sz ≤ cr) (hsz8 : 8 ≤ sz) (hof0 : 0 ≤ of) (hof1 : of + ↑m ≤ 10485800)
 (H1 : St w aW (sY fb big h AL AS nL cL nS cS vs gs sy dy D) w1) {ρ : cF} (h0 : ρ 0 = .iface 109 (.pt rb)) (h4 : ρ 4 = .pt fb) (h12 : ρ 12 = .i64 of) (h13 : ρ 13 = .sl gd o m m) (h16 : ρ 16 = .u8 (bo big)) (h17 : ρ 17 = .u32 ii) (h18 : ρ 18 = .u32 2) (h19 : ρ 19 = .u32 ↑sz) (h20 : ρ 20 = .sl gd o0 sz cr) (h21 : ρ 21 = .np) (hw : h 0 ≠ 4277009103)
 {Q : QE} (hQ : ∀ s' ρ' w', br false big xs raw s = some s' → Fr ρ' rb fb gd o m big ii → Mid w rb fb big h gd o m ds s' w' → Q .normal ρ' w') (hR : br false big xs raw s = none → ∀ ρ' w' T v, ρ' 2 = .np → ρ' 3 = .iface T v → Keep w aW w' → Q .ret ρ' w') :
 W Tryd.prog 931 ((d7 3 (Tryd.f41.body.getD .skip)).getD .skip) Q ρ w1 := by
 refine nZ rfl ?_
 have H0 : St w aW [aq fb [.u32 (h 0), .u32 (h 1), .u32 (h 2), .u32 (h 3), .u32 (h 4), .u32 (h 5), .u32 (h 6), .u8 (bo big), .slice AL nL cL, .slice AS nS cS, sy, dy] 121, aH 123 1 (.slice AL nL cL) nL vs, aH 125 1 (.slice AS nS cS) nS (bM gs), D] w1 := H1
 refine ad (sr (mg h18 rfl (wn (aC (sr (wv rfl (aL (c := false) rfl rfl rfl) (av (.bool false) rfl (wn (aj rfl (sr (wv rfl (aL (c := false) rfl rfl rfl) ?_)))))))))))
 refine av (.bool false) rfl (wn (aj rfl (sr (wv rfl (aL (c := true) rfl rfl rfl) (av (.bool true) rfl (wn (ay rfl (sr (wm rfl (aK H0 ov (fun g1 w2 hgg1 H3 =>  wn ?_)))))))))))
 refine sr (mg h20 rfl (wE [.sl gd o0 sz cr] lN rfl rfl (aa (cH (some ⟨gd, o0, none⟩) sz cr _) ?_)))
 rintro e w5 ⟨gq, rfl, hgq, HS4⟩
 have H6 := H3.cal0 HS4
 refine ⟨_, rfl, ?_⟩
 refine ap gq 0 rfl (wn (ad (ad ?_)))
 by_cases hfit : 0 + 24 ≤ sz
 ·
  obtain ⟨ys, hys⟩ : ∃ q, q = (raw.drop (0)).take 24 := ⟨_, rfl⟩
  have hbys : Byt ys := by rw [hys]; exact (hrby.drop _).take _
  have hlys : ys.length = 24 := by rw [hys, List.length_take, List.length_drop, hrl]; omega
  obtain ⟨q8, hq8⟩ : ∃ q : Nat, (q : Int) = n4 big (ys.drop 8) := ⟨(n4 big (ys.drop 8)).toNat, Int.toNat_of_nonneg (aR big (hbys.drop _)).1⟩
  have hltq8 : (q8 : Int) < 4294967296 := by rw [hq8]; exact (aR big (hbys.drop _)).2
  obtain ⟨q12, hq12⟩ : ∃ q : Nat, (q : Int) = n4 big (ys.drop 12) := ⟨(n4 big (ys.drop 12)).toNat, Int.toNat_of_nonneg (aR big (hbys.drop _)).1⟩
  have hltq12 : (q12 : Int) < 4294967296 := by rw [hq12]; exact (aR big (hbys.drop _)).2
  obtain ⟨q16, hq16⟩ : ∃ q : Nat, (q : Int) = n4 big (ys.drop 16) := ⟨(n4 big (ys.drop 16)).toNat, Int.toNat_of_nonneg (aR big (hbys.drop _)).1⟩
  have hltq16 : (q16 : Int) < 4294967296 := by rw [hq16]; exact (aR big (hbys.drop _)).2
  obtain ⟨q20, hq20⟩ : ∃ q : Nat, (q : Int) = n4 big (ys.drop 20) := ⟨(n4 big (ys.drop 20)).toNat, Int.toNat_of_nonneg (aR big (hbys.drop _)).1⟩
  have hltq20 : (q20 : Int) < 4294967296 := by rw [hq20]; exact (aR big (hbys.drop _)).2
  refine ae (mp gq 0 rfl (wv rfl (aF (v := .pt gq) dW rfl) (mg h16 rfl (wE [.pt g1, .iface 109 (.pt gq), .u8 (bo big)] vw rfl rfl ?_))))
  have hne8 := H6.blk_ne (i := 0) (j := 1) rfl rfl (by decide)
  have hge1 := H6.ge (i := 0) rfl
  have hge2 := H6.ge (i := 1) rfl
  have hws := H6.keep.size
  refine aa (gC (ys := ys) (i := 0) (A := some ⟨gd, o0, none⟩) (xs := raw) big _ (H6.g 1 rfl) (H6.g 0 rfl) (hG.keep H6.keep fun k hk => hk.elim) hscr (by omega) (hRaw _ (H6.g 5 rfl)) hrby (fun a ha => by injection ha with ha; subst ha; exact ⟨D.live _ _ (H6.g 5 rfl) hDg, H6.sepD (i := 0) (j := 5) rfl rfl (by decide) hDg, H6.sepD (i := 1) (j := 5) rfl rfl (by decide) hDg⟩) (by omega) (by omega) (by omega) (by omega) (by omega) hys) ?_
  rintro e w9 ⟨rfl, HS7⟩
  rw [← hq8] at HS7
  rw [← hq12] at HS7
  rw [← hq16] at HS7
  rw [← hq20] at HS7
  have H10 := H6.ky 1 0 rfl rfl HS7 (fun _ h => h)
  refine ⟨_, rfl, ?_⟩
  refine av (.nilIface) rfl (wn (sr (mv (.nilIface) rfl (wv rfl ((nn false bq rfl (.inl rfl))) (wn (aj rfl (wk (ad ?_))))))))
  by_cases hf1 : q20 = 0 ∨ q16 + q20 ≤ N
  ·
   refine ae (mg h0 rfl (wf iR rfl (wv rfl (H10.ld 0 rfl ar rfl (.u32 (↑q20)) rfl) (wv rfl (an bm be rfl (a6 (by omega) (by omega))) (wf iS rfl (wv rfl (H10.ld 0 rfl ar rfl (.u32 (↑q16)) rfl) (wv rfl (an bm f9 rfl (aE (by omega) (by omega))) (wE [.iface 109 (.pt rb), .u64 (↑q20), .i64 (↑q16)] iZ rfl rfl (aa (ir (n := q20) (off := q16) _ (b7 hrb H10.keep) (hG.keep H10.keep fun k hk => hk.elim) hNC hN (hr.keep0 H10.keep) (fun a ha => Nat.lt_of_lt_of_le (hA a ha) H10.keep.size) (Nat.le_trans hw4 H10.keep.size) (by omega) hf1) ?_)))))))))
   rintro e w13 ⟨gt12, rfl, hggt12, HS11⟩
   have H14 := H10.cal0 HS11
   refine ⟨_, rfl, ?_⟩
   refine mv (.tuple #[.sl gt12 0 q20 q20, .nilIface]) rfl (we (.sl gt12 0 q20 q20) rfl rfl (we (.nilIface) rfl rfl (eh gt12 0 q20 q20 rfl (av (.nilIface) rfl (wn (ad (sr (mv (.nilIface) rfl (wv rfl ((nn false bq rfl (.inl rfl))) (wn (aj rfl ?_)))))))))))
   refine wk (sr (ai 0 rfl (wn (ad (sr (mg h4 rfl (wc rfl (wf cK rfl (wf fG rfl (wv rfl (H14.ld 3 rfl ar rfl (.u32 (h 0)) rfl) (wv rfl (aL rfl rfl (beq_eq_false_iff_ne.2 (hw))) ?_)))))))))))
   refine wn (aj rfl (ae (ai 12 rfl (wn (ad ?_)))))
   by_cases hf2 : 12 * q12 = 0 ∨ q8 + 12 * q12 ≤ N
   ·
    refine ae (mg h0 rfl (wf fh rfl (wv rfl (H14.ld 1 rfl ar rfl (.u32 (↑q12)) rfl) (wv rfl (an bm be rfl (a6 (by omega) (by omega))) (mi 12 rfl (wv rfl (an (c := 12) eL be rfl rfl) (wv rfl (c6 (k := .u64) (c := ↑(12 * q12)) rfl rfl (by rw [a6 (by omega) (by omega)]; omega)) (wf iT rfl (wv rfl (H14.ld 1 rfl ar rfl (.u32 (↑q8)) rfl) (wv rfl (an bm f9 rfl (aE (by omega) (by omega))) (wE [.iface 109 (.pt rb), .u64 (↑(12 * q12)), .i64 (↑q8)] iZ rfl rfl ?_)))))))))))
    refine aa (ir (n := 12 * q12) (off := q8) _ (b7 hrb H14.keep) (hG.keep H14.keep fun k hk => hk.elim) hNC hN (hr.keep0 H14.keep) (fun a ha => Nat.lt_of_lt_of_le (hA a ha) H14.keep.size) (Nat.le_trans hw4 H14.keep.size) (by omega) hf2) ?_
    rintro e w17 ⟨gt16, rfl, hggt16, HS15⟩
    have H18 := H14.cal0 HS15
    refine ⟨_, rfl, ?_⟩
    refine mv (.tuple #[.sl gt16 0 (12 * q12) (12 * q12), .nilIface]) rfl (we (.sl gt16 0 (12 * q12) (12 * q12)) rfl rfl (we (.nilIface) rfl rfl (eh gt16 0 (12 * q12) (12 * q12) rfl (av (.nilIface) rfl (wn (ad (sr (mv (.nilIface) rfl (wv rfl ((nn false bq rfl (.inl rfl))) (wn (aj rfl ?_)))))))))))
    refine wk (sr (mg h4 rfl (ms gt16 0 (12 * q12) (12 * q12) rfl (ms gt12 0 q20 q20 rfl (mg h20 rfl (mg h12 rfl (wE [.pt fb, .sl gt16 0 (12 * q12) (12 * q12), .sl gt12 0 q20 q20, .sl gd o0 sz cr, .pt g1, .i64 of] CK56 rfl rfl (aa (un (xs := ((xs.drop q8).take (12 * q12))) (st := ((xs.drop q16).take q20)) big _ (H18.c 4 0 rfl rfl) (H18.c 4 7 rfl rfl) hw (H18.c 2 3 rfl rfl) (by omega) (hG.keep H18.keep fun k hk => hk.elim) (Nat.le_trans hw4 H18.keep.size) (ak (H18.g 0 rfl) (by rw [List.length_take, List.length_drop, hr.1]; omega)) ((hby.drop _).take _) (H18.lt (i := 0) rfl) (ak (H18.g 1 rfl) (by rw [List.length_take, List.length_drop, hr.1]; omega)) ((hby.drop _).take _) (Nat.le_refl _) (by omega)) ?_))))))))
    rintro e w20 (⟨hgood, gsy, Av, cv, D2, rfl, HS19, hD2⟩ | ⟨hbad, T, ev, rfl, HS19⟩)
    ·
     have H21 := H18.cal0 HS19
     refine ⟨_, rfl, ?_⟩
     refine mv (.tuple #[.pt gsy, .nilIface]) rfl (we (.pt gsy) rfl rfl (we (.nilIface) rfl rfl (ap gsy 0 rfl (av (.nilIface) rfl (wn (ad (sr (mv (.nilIface) rfl (wv rfl ((nn false bq rfl (.inl rfl))) (wn (aj rfl ?_)))))))))))
     refine wk (sr (mg h4 rfl (mg h4 rfl (wc rfl (wf cT rfl (wv rfl (H21.ld 5 rfl dG rfl (.slice AL nL cL) rfl) (mp gsy 0 rfl (wv rfl (aF (v := .pt gsy) vF rfl) (wm rfl (eb H21 123 [.iface 118 (.pt gsy)] rfl (by kernel_rfl) (fun g22 w23 hgg22 H24 =>  wm rfl ?_)))))))))))
     refine bR H24 7 (m := 1) (news := [.iface 118 (.pt gsy)]) rfl j8 jG rfl (by decide) rfl rfl rfl (H24.news (i := 0) rfl) (by simp [Value.oneCell']) (by simp only [maxLen]; omega) (by omega) (fun v25 w26 H27 =>  ?_)
     obtain ⟨A28, c29, rfl, _, _⟩ := aw (H27.g 7 rfl)
     refine wc rfl (wf cT rfl (ws (es H27 6 8 (.slice A28 (nL + 1) c29) rfl dG (fun w31 H30 =>  ?_))))
     refine wn (ae (mg h4 rfl (mp gsy 0 rfl (wc rfl (wf fE rfl (ws (es H30 6 10 (.pt gsy) rfl ip (fun w33 H32 =>  ?_))))))))
     refine bl (ao (ac (sr (mg h21 rfl (wv rfl ((show Yv _ _ _ _ (.bool false) _ from cJ (p := none) k6 rfl)) (wn (aj rfl (cG ?_))))))))
     have hst : br false big xs raw s = some { s with loads := s.loads ++ [⟨4, raw, [], [0, 0, 0, 0, 0, 0]⟩], syms := some (bO false big ((xs.drop q16).take q20) ((xs.drop q8).take (12 * q12)) q12) } := by have e1 : gG xs q16 q20 = some ((xs.drop q16).take q20) := bT (by rw [hr.1]; exact hf1); have e2 : gG xs q8 (ep false * q12) = some ((xs.drop q8).take (12 * q12)) := bT (by rw [hr.1]; exact hf2); have e3 : m7 false big ((xs.drop q16).take q20) ((xs.drop q8).take (12 * q12)) q12 = some (bO false big ((xs.drop q16).take q20) ((xs.drop q8).take (12 * q12)) q12) := if_pos hgood; simp only [br, ← hys, ← hq8, ← hq12, ← hq16, ← hq20, Int.toNat_natCast, e1, e2, e3]; rw [if_neg (by omega)]
     have Hn : St w aW [aq fb [.u32 (h 0), .u32 (h 1), .u32 (h 2), .u32 (h 3), .u32 (h 4), .u32 (h 5), .u32 (h 6), .u8 (bo big), .slice A28 (nL + 1) c29, .slice AS nS cS, .pt gsy, dy] 121, aH 123 1 (.slice A28 (nL + 1) c29) (nL + 1) (vs ++ [.iface 118 (.pt gsy)]), aH 125 1 (.slice AS nS cS) nS (bM gs), Res.all [D2, D]] w33 := (H32.reAll [1, 9] [6, 7, 8]).re [1, 2, 3, 0]
     have hsub : ∀ w, (Res.all [D2, D]).φ w → D.φ w := fun w hh => aV.1 hh D (by simp)
     have hDn : NFD (Res.all [D2, D]).φ rb ({ s with loads := s.loads ++ [⟨4, raw, [], [0, 0, 0, 0, 0, 0]⟩], syms := some (bO false big ((xs.drop q16).take q20) ((xs.drop q8).take (12 * q12)) q12) }) gd o m ds (vs ++ [.iface 118 (.pt gsy)]) gs (.pt gsy) (dy) := ⟨fun w hh => hD.dat w (hsub w hh), fun w hh => (hD.ld w (hsub w hh)).snoc (by have hh := aV.1 hh; exact .inr (.inr (.inr (.inr (.inl ⟨_, _, _, raw, gsy, _, rfl, (hD2 _ (hh D2 (by simp))).1, hRaw _ (hsub _ (aV.2 hh)), by omega, rfl⟩))))), fun w hh => hD.sc w (hsub w hh), .inr ⟨gsy, q12, cv, Av, _, _, _, _, _, _, _, _, rfl, rfl, by omega, by rw [dc], fun w hh => hD2 w (aV.1 hh D2 (by simp))⟩, hD.dy.mono hsub⟩
     exact hQ _ _ _ hst ⟨h0, h4, ⟨_, h12, hof0, hof1⟩, h13, h16, h17⟩ ⟨Res.all [D2, D], _, _, _, _, _, _, vs ++ [.iface 118 (.pt gsy)], gs, _, _, .inr (.inl hDg), by omega, by omega, hDn, Hn⟩
    ·
     have H34 := H18.cal0 HS19
     refine ⟨_, rfl, ?_⟩
     refine mv (.tuple #[.np, .iface T ev]) rfl (we (.np) rfl rfl (we (.iface T ev) rfl rfl (av (.np) rfl (av (.iface T ev) rfl (wn (ad (sr (mv (.iface T ev) rfl (wv rfl ((nn true bq rfl (.inr ⟨_, _, rfl⟩))) (wn (ay rfl ?_)))))))))))
     refine sr (mv (.iface T ev) rfl (av (.np) rfl (av (.iface T ev) rfl (wn (rq (aB (ax ?_)))))))
     have hst : br false big xs raw s = none := by have e1 : gG xs q16 q20 = some ((xs.drop q16).take q20) := bT (by rw [hr.1]; exact hf1); have e2 : gG xs q8 (ep false * q12) = some ((xs.drop q8).take (12 * q12)) := bT (by rw [hr.1]; exact hf2); have e3 : m7 false big ((xs.drop q16).take q20) ((xs.drop q8).take (12 * q12)) q12 = none := if_neg (fun h => by obtain ⟨k, hk, hb⟩ := hbad; exact h k hk hb); simp only [br, ← hys, ← hq8, ← hq12, ← hq16, ← hq20, Int.toNat_natCast, e1, e2, e3]; rw [if_neg (by omega)]
     exact hR hst _ _ _ _ rfl rfl H34.keep
   ·
    refine ae (mg h0 rfl (wf fh rfl (wv rfl (H14.ld 1 rfl ar rfl (.u32 (↑q12)) rfl) (wv rfl (an bm be rfl (a6 (by omega) (by omega))) (mi 12 rfl (wv rfl (an (c := 12) eL be rfl rfl) (wv rfl (c6 (k := .u64) (c := ↑(12 * q12)) rfl rfl (by rw [a6 (by omega) (by omega)]; omega)) (wf iT rfl (wv rfl (H14.ld 1 rfl ar rfl (.u32 (↑q8)) rfl) (wv rfl (an bm f9 rfl (aE (by omega) (by omega))) (wE [.iface 109 (.pt rb), .u64 (↑(12 * q12)), .i64 (↑q8)] iZ rfl rfl ?_)))))))))))
    refine aa (fS (n := 12 * q12) (off := q8) _ (b7 hrb H14.keep) (hG.keep H14.keep fun k hk => hk.elim) hNC hN (hr.keep0 H14.keep) (fun a ha => Nat.lt_of_lt_of_le (hA a ha) H14.keep.size) (Nat.le_trans hw4 H14.keep.size) (by omega) (by omega) (by omega) (by omega)) ?_
    rintro e w37 ⟨T, ev, rfl, HS35⟩
    have H38 := H14.cal0 HS35
    refine ⟨_, rfl, ?_⟩
    refine mv (.tuple #[.ns, .iface T ev]) rfl (we (.ns) rfl rfl (we (.iface T ev) rfl rfl (av (.ns) rfl (av (.iface T ev) rfl (wn (ad (sr (mv (.iface T ev) rfl (wv rfl ((nn true bq rfl (.inr ⟨_, _, rfl⟩))) (wn (ay rfl ?_)))))))))))
    refine sr (mv (.iface T ev) rfl (av (.np) rfl (av (.iface T ev) rfl (wn (rq (aB (ax ?_)))))))
    have hst : br false big xs raw s = none := by have e1 : gG xs q16 q20 = some ((xs.drop q16).take q20) := bT (by rw [hr.1]; exact hf1); have e2 : gG xs q8 (ep false * q12) = none := dD (by rw [hr.1]; exact hf2); simp only [br, ← hys, ← hq8, ← hq12, ← hq16, ← hq20, Int.toNat_natCast, e1, e2]; rw [if_neg (by omega)]
    exact hR hst _ _ _ _ rfl rfl H38.keep
  ·
   refine ae (mg h0 rfl (wf iR rfl (wv rfl (H10.ld 0 rfl ar rfl (.u32 (↑q20)) rfl) (wv rfl (an bm be rfl (a6 (by omega) (by omega))) (wf iS rfl (wv rfl (H10.ld 0 rfl ar rfl (.u32 (↑q16)) rfl) (wv rfl (an bm f9 rfl (aE (by omega) (by omega))) (wE [.iface 109 (.pt rb), .u64 (↑q20), .i64 (↑q16)] iZ rfl rfl (aa (fS (n := q20) (off := q16) _ (b7 hrb H10.keep) (hG.keep H10.keep fun k hk => hk.elim) hNC hN (hr.keep0 H10.keep) (fun a ha => Nat.lt_of_lt_of_le (hA a ha) H10.keep.size) (Nat.le_trans hw4 H10.keep.size) (by omega) (by omega) (by omega) (by omega)) ?_)))))))))
   rintro e w41 ⟨T, ev, rfl, HS39⟩
   have H42 := H10.cal0 HS39
   refine ⟨_, rfl, ?_⟩
   refine mv (.tuple #[.ns, .iface T ev]) rfl (we (.ns) rfl rfl (we (.iface T ev) rfl rfl (av (.ns) rfl (av (.iface T ev) rfl (wn (ad (sr (mv (.iface T ev) rfl (wv rfl ((nn true bq rfl (.inr ⟨_, _, rfl⟩))) (wn (ay rfl ?_)))))))))))
   refine sr (mv (.iface T ev) rfl (av (.np) rfl (av (.iface T ev) rfl (wn (rq (aB (ax ?_)))))))
   have hst : br false big xs raw s = none := by have e1 : gG xs q16 q20 = none := dD (by rw [hr.1]; exact hf1); simp only [br, ← hys, ← hq8, ← hq12, ← hq16, ← hq20, Int.toNat_natCast, e1]; rw [if_neg (by omega)]
   exact hR hst _ _ _ _ rfl rfl H42.keep
 ·
  refine ae (mp gq 0 rfl (wv rfl (aF (v := .pt gq) dW rfl) (mg h16 rfl (wE [.pt g1, .iface 109 (.pt gq), .u8 (bo big)] vw rfl rfl ?_))))
  have hne44 := H6.blk_ne (i := 0) (j := 1) rfl rfl (by decide)
  have hge1 := H6.ge (i := 0) rfl
  have hge2 := H6.ge (i := 1) rfl
  have hws := H6.keep.size
  refine aa (fQ (ys := []) (i := 0) (A := some ⟨gd, o0, none⟩) (xs := raw) big _ (H6.g 1 rfl) (H6.g 0 rfl) (hG.keep H6.keep fun k hk => hk.elim) hscr (by omega) (hRaw _ (H6.g 5 rfl)) hrby (fun a ha => by injection ha with ha; subst ha; exact ⟨D.live _ _ (H6.g 5 rfl) hDg, H6.sepD (i := 0) (j := 5) rfl rfl (by decide) hDg, H6.sepD (i := 1) (j := 5) rfl rfl (by decide) hDg⟩) (by omega) (by omega) (by omega) (by omega) (by omega)) ?_
  rintro e w45 ⟨T, ev, rfl, HS43⟩
  have H46 := H6.ky 1 0 rfl rfl HS43 (fun _ h => h)
  refine ⟨_, rfl, ?_⟩
  refine av (.iface T ev) rfl (wn (sr (mv (.iface T ev) rfl (wv rfl ((nn true bq rfl (.inr ⟨_, _, rfl⟩))) (wn (ay rfl (sr (mv (.iface T ev) rfl (av (.np) rfl (av (.iface T ev) rfl (wn ?_)))))))))))
  refine rq (aB (ax ?_))
  have hst : br false big xs raw s = none := by unfold br; rw [if_pos (by omega)]
  exact hR hst _ _ _ _ rfl rfl H46.keep
theorem vP {rb N C fb gd o0 o m sz cr nL cL nS cS : Nat} {A AL AS : Option Addr} {i0 p0 of ii : Int} {xs raw ds : List Int} {a0 a1 : Addr} {h : Nat → Int} {vs : List Value} {gs : List Nat} {sy dy : Value} {D : Res} {s : PSt} (big : Bool) (w w1 : World) (hrb : (aq rb [.slice A N C, .i64 i0, .i64 p0] 190).φ w) (hG : Glob 224 w a0 a1) (hNC : N ≤ C) (hN : N < 10485760) (hr : RI .u8 w A N xs) (hby : Byt xs) (hA : ∀ a, A = some a → a.block < w.heap.size) (hw4 : 4 ≤ w.heap.size)
 (hDg : D.F gd) (hnL : nL + sz + m ≤ 10485760) (hnS : nS + sz + m ≤ 10485760) (hD : NFD D.φ rb s gd o m ds vs gs sy dy) (hRaw : ∀ w, D.φ w → RI .u8 w (some ⟨gd, o0, none⟩) sz raw) (hrby : Byt raw) (hrl : raw.length = sz) (hscr : sz ≤ cr) (hsz8 : 8 ≤ sz) (hof0 : 0 ≤ of) (hof1 : of + ↑m ≤ 10485800)
 (H1 : St w aW (sY fb big h AL AS nL cL nS cS vs gs sy dy D) w1) {ρ : cF} (h0 : ρ 0 = .iface 109 (.pt rb)) (h4 : ρ 4 = .pt fb) (h12 : ρ 12 = .i64 of) (h13 : ρ 13 = .sl gd o m m) (h16 : ρ 16 = .u8 (bo big)) (h17 : ρ 17 = .u32 ii) (h18 : ρ 18 = .u32 11) (h19 : ρ 19 = .u32 ↑sz) (h20 : ρ 20 = .sl gd o0 sz cr) (h21 : ρ 21 = .np)
 {Q : QE} (hQ : ∀ s' ρ' w', bQ big xs raw s = some s' → Fr ρ' rb fb gd o m big ii → Mid w rb fb big h gd o m ds s' w' → Q .normal ρ' w') (hR : bQ big xs raw s = none → ∀ ρ' w' T v, ρ' 2 = .np → ρ' 3 = .iface T v → Keep w aW w' → Q .ret ρ' w') :
 W Tryd.prog 931 ((d7 3 (Tryd.f41.body.getD .skip)).getD .skip) Q ρ w1 := by
 refine nZ rfl ?_
 have H0 : St w aW [aq fb [.u32 (h 0), .u32 (h 1), .u32 (h 2), .u32 (h 3), .u32 (h 4), .u32 (h 5), .u32 (h 6), .u8 (bo big), .slice AL nL cL, .slice AS nS cS, sy, dy] 121, aH 123 1 (.slice AL nL cL) nL vs, aH 125 1 (.slice AS nS cS) nS (bM gs), D] w1 := H1
 refine ad (sr (mg h18 rfl (wn (aC (sr (wv rfl (aL (c := false) rfl rfl rfl) (av (.bool false) rfl (wn (aj rfl (sr (wv rfl (aL (c := false) rfl rfl rfl) ?_)))))))))))
 refine av (.bool false) rfl (wn (aj rfl (sr (wv rfl (aL (c := false) rfl rfl rfl) (av (.bool false) rfl (wn (aj rfl (sr (wv rfl (aL (c := true) rfl rfl rfl) (av (.bool true) rfl (wn ?_)))))))))))
 refine ay rfl (sr (wm rfl (aK H0 tF (fun g1 w2 hgg1 H3 =>  wn (sr (mg h20 rfl (wE [.sl gd o0 sz cr] lN rfl rfl (aa (cH (some ⟨gd, o0, none⟩) sz cr _) ?_))))))))
 rintro e w5 ⟨gq, rfl, hgq, HS4⟩
 have H6 := H3.cal0 HS4
 refine ⟨_, rfl, ?_⟩
 refine ap gq 0 rfl (wn (ad (ad ?_)))
 by_cases hfit : 0 + 80 ≤ sz
 ·
  obtain ⟨ys, hys⟩ : ∃ q, q = (raw.drop (0)).take 80 := ⟨_, rfl⟩
  have hbys : Byt ys := by rw [hys]; exact (hrby.drop _).take _
  have hlys : ys.length = 80 := by rw [hys, List.length_take, List.length_drop, hrl]; omega
  obtain ⟨q24, hq24⟩ : ∃ q : Nat, (q : Int) = n4 big (ys.drop 24) := ⟨(n4 big (ys.drop 24)).toNat, Int.toNat_of_nonneg (aR big (hbys.drop _)).1⟩
  have hltq24 : (q24 : Int) < 4294967296 := by rw [hq24]; exact (aR big (hbys.drop _)).2
  obtain ⟨q28, hq28⟩ : ∃ q : Nat, (q : Int) = n4 big (ys.drop 28) := ⟨(n4 big (ys.drop 28)).toNat, Int.toNat_of_nonneg (aR big (hbys.drop _)).1⟩
  have hltq28 : (q28 : Int) < 4294967296 := by rw [hq28]; exact (aR big (hbys.drop _)).2
  obtain ⟨q56, hq56⟩ : ∃ q : Nat, (q : Int) = n4 big (ys.drop 56) := ⟨(n4 big (ys.drop 56)).toNat, Int.toNat_of_nonneg (aR big (hbys.drop _)).1⟩
  have hltq56 : (q56 : Int) < 4294967296 := by rw [hq56]; exact (aR big (hbys.drop _)).2
  obtain ⟨q60, hq60⟩ : ∃ q : Nat, (q : Int) = n4 big (ys.drop 60) := ⟨(n4 big (ys.drop 60)).toNat, Int.toNat_of_nonneg (aR big (hbys.drop _)).1⟩
  have hltq60 : (q60 : Int) < 4294967296 := by rw [hq60]; exact (aR big (hbys.drop _)).2
  refine ae (mp gq 0 rfl (wv rfl (aF (v := .pt gq) dW rfl) (mg h16 rfl (wE [.pt g1, .iface 109 (.pt gq), .u8 (bo big)] CK57 rfl rfl ?_))))
  have hne8 := H6.blk_ne (i := 0) (j := 1) rfl rfl (by decide)
  have hge1 := H6.ge (i := 0) rfl
  have hge2 := H6.ge (i := 1) rfl
  have hws := H6.keep.size
  refine aa (iX (ys := ys) (i := 0) (A := some ⟨gd, o0, none⟩) (xs := raw) big _ (H6.g 1 rfl) (H6.g 0 rfl) (hG.keep H6.keep fun k hk => hk.elim) hscr (by omega) (hRaw _ (H6.g 5 rfl)) hrby (fun a ha => by injection ha with ha; subst ha; exact ⟨D.live _ _ (H6.g 5 rfl) hDg, H6.sepD (i := 0) (j := 5) rfl rfl (by decide) hDg, H6.sepD (i := 1) (j := 5) rfl rfl (by decide) hDg⟩) (by omega) (by omega) (by omega) (by omega) (by omega) hys) ?_
  rintro e w9 ⟨rfl, HS7⟩
  rw [← hq24] at HS7
  rw [← hq28] at HS7
  rw [← hq56] at HS7
  rw [← hq60] at HS7
  have H10 := H6.ky 1 0 rfl rfl HS7 (fun _ h => h)
  refine ⟨_, rfl, ?_⟩
  refine av (.nilIface) rfl (wn (sr (mv (.nilIface) rfl (wv rfl ((nn false bq rfl (.inl rfl))) (wn (aj rfl (wk (ad (ad ?_)))))))))
  rcases hD.sy with ⟨rfl, hss⟩ | ⟨gyy, ny, cyy, Ayy, x0, x1, x2, x3, x4, x5, x6, ss, rfl, hss, hny, hsl, hfy⟩
  ·
   refine ae (mg h4 rfl (wc rfl (wf fE rfl (wv rfl (H10.ld 2 rfl ip rfl (.np) rfl) (wv rfl ((show Yv _ _ _ _ (.bool true) _ from lZ (p := none) pP rfl)) (wn (ay rfl (sr (mg h12 rfl (wv rfl (yz [.i64 of, .string (⟨#[100, 121, 110, 97, 109, 105, 99, 32, 115, 121, 109, 98, 111, 108, 32, 116, 97, 98, 108, 101, 32, 115, 101, 101, 110, 32, 98, 101, 102, 111, 114, 101, 32, 97, 110, 121, 32, 111, 114, 100, 105, 110, 97, 114, 121, 32, 115, 121, 109, 98, 111, 108, 32, 116, 97, 98, 108, 101]⟩), .nilIface] rfl (by kernel_rfl)) (wm rfl ?_)))))))))))
   refine ee H10 (vs := [.i64 of, .string _, .nilIface]) rfl rfl (fun g11 w12 hgg11 H13 =>  wv rfl (aF (v := .pt g11) gR rfl) (av (.np) rfl (av (.iface 154 (.pt g11)) rfl (wn (rq (aB (ax ?_)))))))
   have hst : bQ big xs raw s = none := by simp only [bQ, ← hys, ← hq24, ← hq28, ← hq56, ← hq60, Int.toNat_natCast, hss, if_neg (show ¬ raw.length < 80 by omega)]
   exact hR hst _ _ _ _ rfl rfl H13.keep
  ·
   refine ae (mg h4 rfl (wc rfl (wf fE rfl (wv rfl (H10.ld 2 rfl ip rfl (.pt gyy) rfl) (wv rfl ((show Yv _ _ _ _ (.bool false) _ from lZ (p := (some ⟨gyy, 0, none⟩)) pP rfl)) (wn (aj rfl (ad ?_))))))))
   have H14 := H10.drew
   refine aO MX (fun w' => w'.cell? ⟨g1, 6, none⟩ = some (.u32 (↑q24)) ∧ w'.cell? ⟨fb, 10, none⟩ = some (.pt gyy) ∧ w'.cell? ⟨gyy, 7, none⟩ = some (.slice Ayy ny cyy)) (tr 0 12 Pl.done) (by kernel_rfl) (⟨H14.c 0 6 rfl rfl, H14.c 2 10 rfl rfl, bS (hfy _ (H14.g 5 rfl)).1 rfl⟩) (qy rfl (ab (o := 0) kQ rfl) (qh rfl (fun hS => ah ar rfl hS.1) (qm (.pt fb) rfl h4 (qy rfl (ag rfl) (qy rfl (ab (o := 0) fE rfl) (qh rfl (fun hS => ah ip rfl hS.2.1) (qy rfl (ag rfl) (qy rfl (ab (o := 0) jD rfl) (qh rfl (fun hS => ah lF rfl hS.2.2) (qy rfl (ba (n := ny) tK rfl) (qy rfl (an (c := ↑ny) eL iV rfl (d6 (by omega) (by omega))) ?_)))))))))))
   refine qy rfl (gP (k := .u32) (a := ↑q24) (b := ↑ny) rfl rfl) (pn ?_)
   refine cf rfl (fun hb15 => ?_) (fun hb15 => ?_)
   ·
    simp only [bx] at hb15
    refine sr (mg h12 rfl (wv rfl (yz [.i64 of, .string (⟨#[117, 110, 100, 101, 102, 105, 110, 101, 100, 32, 115, 121, 109, 98, 111, 108, 115, 32, 105, 110, 100, 101, 120, 32, 105, 110, 32, 100, 121, 110, 97, 109, 105, 99, 32, 115, 121, 109, 98, 111, 108, 32, 116, 97, 98, 108, 101, 32, 99, 111, 109, 109, 97, 110, 100, 32, 105, 115, 32, 103, 114, 101, 97, 116, 101, 114, 32, 116, 104, 97, 110, 32, 115, 121, 109, 98, 111, 108, 32, 116, 97, 98, 108, 101, 32, 108, 101, 110, 103, 116, 104]⟩), .nilIface] rfl (by kernel_rfl)) (wm rfl (ee H14 (vs := [.i64 of, .string _, .nilIface]) rfl rfl (fun g16 w17 hgg16 H18 =>  wv rfl (aF (v := .pt g16) gR rfl) (av (.np) rfl (av (.iface 154 (.pt g16)) rfl (wn (rq (aB (ax ?_)))))))))))
    have hst : bQ big xs raw s = none := by simp only [bQ, ← hys, ← hq24, ← hq28, ← hq56, ← hq60, Int.toNat_natCast, hss, if_neg (show ¬ raw.length < 80 by omega), if_pos (show ss.length < q24 by omega)]
    exact hR hst _ _ _ _ rfl rfl H18.keep
   ·
    simp only [bx] at hb15
    refine ad ?_
    have H19 := H14.drew
    refine aO MX (fun w' => w'.cell? ⟨g1, 6, none⟩ = some (.u32 (↑q24)) ∧ w'.cell? ⟨g1, 7, none⟩ = some (.u32 (↑q28)) ∧ w'.cell? ⟨fb, 10, none⟩ = some (.pt gyy) ∧ w'.cell? ⟨gyy, 7, none⟩ = some (.slice Ayy ny cyy)) (tr 0 15 Pl.done) (by kernel_rfl) (⟨H19.c 0 6 rfl rfl, H19.c 0 7 rfl rfl, H19.c 2 10 rfl rfl, bS (hfy _ (H19.g 5 rfl)).1 rfl⟩) (qy rfl (ab (o := 0) kQ rfl) (qh rfl (fun hS => ah ar rfl hS.1) (qy rfl (ab (o := 0) nf rfl) (qh rfl (fun hS => ah ar rfl hS.2.1) (qy rfl (aT (k := .u32) (c := (↑q24 + ↑q28) % 4294967296) rfl rfl rfl) (qm (.pt fb) rfl h4 (qy rfl (ag rfl) (qy rfl (ab (o := 0) fE rfl) (qh rfl (fun hS => ah ip rfl hS.2.2.1) (qy rfl (ag rfl) (qy rfl (ab (o := 0) jD rfl) ?_)))))))))))
    refine qh rfl (fun hS => ah lF rfl hS.2.2.2) (qy rfl (ba (n := ny) tK rfl) (qy rfl (an (c := ↑ny) eL iV rfl (d6 (by omega) (by omega))) (qy rfl (gP (k := .u32) (a := (↑q24 + ↑q28) % 4294967296) (b := ↑ny) rfl rfl) (pn ?_))))
    refine cf rfl (fun hb20 => ?_) (fun hb20 => ?_)
    ·
     simp only [bx] at hb20
     refine sr (mg h12 rfl (wv rfl (yz [.i64 of, .string (⟨#[110, 117, 109, 98, 101, 114, 32, 111, 102, 32, 117, 110, 100, 101, 102, 105, 110, 101, 100, 32, 115, 121, 109, 98, 111, 108, 115, 32, 97, 102, 116, 101, 114, 32, 105, 110, 100, 101, 120, 32, 105, 110, 32, 100, 121, 110, 97, 109, 105, 99, 32, 115, 121, 109, 98, 111, 108, 32, 116, 97, 98, 108, 101, 32, 99, 111, 109, 109, 97, 110, 100, 32, 105, 115, 32, 103, 114, 101, 97, 116, 101, 114, 32, 116, 104, 97, 110, 32, 115, 121, 109, 98, 111, 108, 32, 116, 97, 98, 108, 101, 32, 108, 101, 110, 103, 116, 104]⟩), .nilIface] rfl (by kernel_rfl)) (wm rfl (ee H19 (vs := [.i64 of, .string _, .nilIface]) rfl rfl (fun g21 w22 hgg21 H23 =>  wv rfl (aF (v := .pt g21) gR rfl) (av (.np) rfl (av (.iface 154 (.pt g21)) rfl (wn (rq (aB (ax ?_)))))))))))
     have hst : bQ big xs raw s = none := by simp only [bQ, ← hys, ← hq24, ← hq28, ← hq56, ← hq60, Int.toNat_natCast, hss, if_neg (show ¬ raw.length < 80 by omega), if_neg (show ¬ ss.length < q24 by omega), if_pos (show ss.length < ((↑q24 + ↑q28 : Int) % 4294967296).toNat by omega)]
     exact hR hst _ _ _ _ rfl rfl H23.keep
    ·
     simp only [bx] at hb20
     refine wk (ad ?_)
     by_cases hf1 : 4 * q60 = 0 ∨ q56 + 4 * q60 ≤ N
     ·
      refine ae (mg h0 rfl (wf iC rfl (wv rfl (H19.ld 0 rfl ar rfl (.u32 (↑q60)) rfl) (wv rfl (an bm be rfl (a6 (by omega) (by omega))) (wv rfl (c6 (k := .u64) (c := ↑(4 * q60)) rfl rfl (by rw [a6 (by omega) (by omega)]; omega)) (wf jC rfl (wv rfl (H19.ld 0 rfl ar rfl (.u32 (↑q56)) rfl) (wv rfl (an bm f9 rfl (aE (by omega) (by omega))) (wE [.iface 109 (.pt rb), .u64 (↑(4 * q60)), .i64 (↑q56)] iZ rfl rfl (aa (ir (n := 4 * q60) (off := q56) _ (b7 hrb H19.keep) (hG.keep H19.keep fun k hk => hk.elim) hNC hN (hr.keep0 H19.keep) (fun a ha => Nat.lt_of_lt_of_le (hA a ha) H19.keep.size) (Nat.le_trans hw4 H19.keep.size) (by omega) hf1) ?_))))))))))
      rintro e w26 ⟨gt25, rfl, hggt25, HS24⟩
      have H27 := H19.cal0 HS24
      refine ⟨_, rfl, ?_⟩
      refine mv (.tuple #[.sl gt25 0 (4 * q60) (4 * q60), .nilIface]) rfl (we (.sl gt25 0 (4 * q60) (4 * q60)) rfl rfl (we (.nilIface) rfl rfl (eh gt25 0 (4 * q60) (4 * q60) rfl (av (.nilIface) rfl (wn (ad (sr (mv (.nilIface) rfl (wv rfl ((nn false bq rfl (.inl rfl))) (wn (aj rfl ?_)))))))))))
      refine wk (sr (wf iC rfl (wv rfl (H27.ld 1 rfl ar rfl (.u32 (↑q60)) rfl) (wm rfl (bt H27 (n := q60) (m := q60) u0 vf rfl rfl rfl rfl rfl (by omega) (by omega) (by omega) (fun g28 w29 hgg28 H30 =>  eh g28 0 q60 q60 rfl (wn (ad (sr (ms gt25 0 (4 * q60) (4 * q60) rfl (mg h16 rfl ?_)))))))))))
      refine ms g28 0 q60 q60 rfl (wE [.sl gt25 0 (4 * q60) (4 * q60), .u8 (bo big), .sl g28 0 q60 q60] CK58 rfl rfl (aa (nM big _ (H30.g 0 rfl) (ak (H30.g 1 rfl) (by rw [List.length_take, List.length_drop, hr.1]; omega)) ((hby.drop _).take _) (fun e => H30.blk_ne (i := 0) (j := 1) rfl rfl (by decide) e.symm) (Nat.le_refl _) (by omega)) ?_))
      rintro e w32 ⟨rfl, HS31⟩
      have H33 := H30.kx 0 rfl HS31 (fun _ h => h)
      refine ⟨_, rfl, ?_⟩
      refine av (.nilIface) rfl (wn (sr (mv (.nilIface) rfl (wv rfl ((nn false bq rfl (.inl rfl))) (wn (aj rfl (wk (sr (wm rfl (aK H33 tE (fun g34 w35 hgg34 H36 =>  ap g34 0 rfl ?_)))))))))))
      refine wn (sr (mp g34 0 rfl (mg h20 rfl (wc rfl (wf uQ rfl (ws (es H36 0 0 (.sl gd o0 sz cr) rfl fq (fun w38 H37 =>  ?_))))))))
      refine wn (sr (mp g34 0 rfl (wv rfl (H37.loadA (i := 3) (vs := [.u32 (n4 big (ys.drop 0)), .u32 (n4 big (ys.drop 4)), .u32 (n4 big (ys.drop 8)), .u32 (n4 big (ys.drop 12)), .u32 (n4 big (ys.drop 16)), .u32 (n4 big (ys.drop 20)), .u32 (↑q24), .u32 (↑q28), .u32 (n4 big (ys.drop 32)), .u32 (n4 big (ys.drop 36)), .u32 (n4 big (ys.drop 40)), .u32 (n4 big (ys.drop 44)), .u32 (n4 big (ys.drop 48)), .u32 (n4 big (ys.drop 52)), .u32 (↑q56), .u32 (↑q60), .u32 (n4 big (ys.drop 64)), .u32 (n4 big (ys.drop 68)), .u32 (n4 big (ys.drop 72)), .u32 (n4 big (ys.drop 76))]) rfl TG146 rfl rfl rfl) (wc rfl (wf cD rfl (ws (bE H37 0 (vs := [.u32 (n4 big (ys.drop 0)), .u32 (n4 big (ys.drop 4)), .u32 (n4 big (ys.drop 8)), .u32 (n4 big (ys.drop 12)), .u32 (n4 big (ys.drop 16)), .u32 (n4 big (ys.drop 20)), .u32 (↑q24), .u32 (↑q28), .u32 (n4 big (ys.drop 32)), .u32 (n4 big (ys.drop 36)), .u32 (n4 big (ys.drop 40)), .u32 (n4 big (ys.drop 44)), .u32 (n4 big (ys.drop 48)), .u32 (n4 big (ys.drop 52)), .u32 (↑q56), .u32 (↑q60), .u32 (n4 big (ys.drop 64)), .u32 (n4 big (ys.drop 68)), .u32 (n4 big (ys.drop 72)), .u32 (n4 big (ys.drop 76))]) (m := 20) rfl TZ146 rfl rfl rfl (nl rfl) (by simp [Value.oneCell']) (cs' := [.sl gd o0 sz cr, .u32 (n4 big (ys.drop 0)), .u32 (n4 big (ys.drop 4)), .u32 (n4 big (ys.drop 8)), .u32 (n4 big (ys.drop 12)), .u32 (n4 big (ys.drop 16)), .u32 (n4 big (ys.drop 20)), .u32 (↑q24), .u32 (↑q28), .u32 (n4 big (ys.drop 32)), .u32 (n4 big (ys.drop 36)), .u32 (n4 big (ys.drop 40)), .u32 (n4 big (ys.drop 44)), .u32 (n4 big (ys.drop 48)), .u32 (n4 big (ys.drop 52)), .u32 (↑q56), .u32 (↑q60), .u32 (n4 big (ys.drop 64)), .u32 (n4 big (ys.drop 68)), .u32 (n4 big (ys.drop 72)), .u32 (n4 big (ys.drop 76)), .ns]) rfl (fun w40 H39 =>  ?_))))))))
      refine wn (sr (mp g34 0 rfl (ms g28 0 q60 q60 rfl (wc rfl (wf nb rfl (ws (es H39 0 21 (.sl g28 0 q60 q60) rfl gU (fun w42 H41 =>  ?_))))))))
      refine wn (sr (mg h4 rfl (mg h4 rfl (wc rfl (wf cT rfl (wv rfl (H41.ld 5 rfl dG rfl (.slice AL nL cL) rfl) (mp g34 0 rfl (wv rfl (aF (v := .pt g34) TC119 rfl) (wm rfl (eb H41 123 [.iface 119 (.pt g34)] rfl (by kernel_rfl) (fun g43 w44 hgg43 H45 =>  wm rfl ?_)))))))))))
      refine bR H45 7 (m := 1) (news := [.iface 119 (.pt g34)]) rfl j8 jG rfl (by decide) rfl rfl rfl (H45.news (i := 0) rfl) (by simp [Value.oneCell']) (by simp only [maxLen]; omega) (by omega) (fun v46 w47 H48 =>  ?_)
      obtain ⟨A49, c50, rfl, _, _⟩ := aw (H48.g 7 rfl)
      refine wc rfl (wf cT rfl (ws (es H48 6 8 (.slice A49 (nL + 1) c50) rfl dG (fun w52 H51 =>  ?_))))
      refine wn (ae (mg h4 rfl (mp g34 0 rfl (wc rfl (wf il rfl (ws (es H51 6 11 (.pt g34) rfl jl (fun w54 H53 =>  ?_))))))))
      refine bl (ao (ac (sr (mg h21 rfl (wv rfl ((show Yv _ _ _ _ (.bool false) _ from cJ (p := none) k6 rfl)) (wn (aj rfl (cG ?_))))))))
      have hst : bQ big xs raw s = some { s with loads := s.loads ++ [⟨5, raw, [], rS big ys⟩], ind := some (dV big q60 ((xs.drop q56).take (4 * q60))) } := by have e1 : gG xs q56 (4 * q60) = some ((xs.drop q56).take (4 * q60)) := bT (by rw [hr.1]; exact hf1); simp only [bQ, ← hys, ← hq24, ← hq28, ← hq56, ← hq60, Int.toNat_natCast, hss, if_neg (show ¬ raw.length < 80 by omega), if_neg (show ¬ ss.length < q24 by omega), if_neg (show ¬ ss.length < ((↑q24 + ↑q28 : Int) % 4294967296).toNat by omega), e1]
      rw [hq24] at H53
      rw [hq28] at H53
      rw [hq56] at H53
      rw [hq60] at H53
      have Hn : St w aW [aq fb [.u32 (h 0), .u32 (h 1), .u32 (h 2), .u32 (h 3), .u32 (h 4), .u32 (h 5), .u32 (h 6), .u8 (bo big), .slice A49 (nL + 1) c50, .slice AS nS cS, .pt gyy, .pt g34] 121, aH 123 1 (.slice A49 (nL + 1) c50) (nL + 1) (vs ++ [.iface 119 (.pt g34)]), aH 125 1 (.slice AS nS cS) nS (bM gs), Res.all [aq g34 [.sl gd o0 sz cr, .u32 (n4 big (ys.drop 0)), .u32 (n4 big (ys.drop 4)), .u32 (n4 big (ys.drop 8)), .u32 (n4 big (ys.drop 12)), .u32 (n4 big (ys.drop 16)), .u32 (n4 big (ys.drop 20)), .u32 (n4 big (ys.drop 24)), .u32 (n4 big (ys.drop 28)), .u32 (n4 big (ys.drop 32)), .u32 (n4 big (ys.drop 36)), .u32 (n4 big (ys.drop 40)), .u32 (n4 big (ys.drop 44)), .u32 (n4 big (ys.drop 48)), .u32 (n4 big (ys.drop 52)), .u32 (n4 big (ys.drop 56)), .u32 (n4 big (ys.drop 60)), .u32 (n4 big (ys.drop 64)), .u32 (n4 big (ys.drop 68)), .u32 (n4 big (ys.drop 72)), .u32 (n4 big (ys.drop 76)), .sl g28 0 q60 q60] 148, aq g28 (nums .u32 (dV big q60 ((xs.drop q56).take (4 * q60)))) 24, D]] w54 := (H53.reAll [1, 2, 9] [6, 7, 8]).re [1, 2, 3, 0]
      have hsub : ∀ w, (Res.all [aq g34 [.sl gd o0 sz cr, .u32 (n4 big (ys.drop 0)), .u32 (n4 big (ys.drop 4)), .u32 (n4 big (ys.drop 8)), .u32 (n4 big (ys.drop 12)), .u32 (n4 big (ys.drop 16)), .u32 (n4 big (ys.drop 20)), .u32 (n4 big (ys.drop 24)), .u32 (n4 big (ys.drop 28)), .u32 (n4 big (ys.drop 32)), .u32 (n4 big (ys.drop 36)), .u32 (n4 big (ys.drop 40)), .u32 (n4 big (ys.drop 44)), .u32 (n4 big (ys.drop 48)), .u32 (n4 big (ys.drop 52)), .u32 (n4 big (ys.drop 56)), .u32 (n4 big (ys.drop 60)), .u32 (n4 big (ys.drop 64)), .u32 (n4 big (ys.drop 68)), .u32 (n4 big (ys.drop 72)), .u32 (n4 big (ys.drop 76)), .sl g28 0 q60 q60] 148, aq g28 (nums .u32 (dV big q60 ((xs.drop q56).take (4 * q60)))) 24, D]).φ w → D.φ w := fun w hh => aV.1 hh D (by simp)
      have hDn : NFD (Res.all [aq g34 [.sl gd o0 sz cr, .u32 (n4 big (ys.drop 0)), .u32 (n4 big (ys.drop 4)), .u32 (n4 big (ys.drop 8)), .u32 (n4 big (ys.drop 12)), .u32 (n4 big (ys.drop 16)), .u32 (n4 big (ys.drop 20)), .u32 (n4 big (ys.drop 24)), .u32 (n4 big (ys.drop 28)), .u32 (n4 big (ys.drop 32)), .u32 (n4 big (ys.drop 36)), .u32 (n4 big (ys.drop 40)), .u32 (n4 big (ys.drop 44)), .u32 (n4 big (ys.drop 48)), .u32 (n4 big (ys.drop 52)), .u32 (n4 big (ys.drop 56)), .u32 (n4 big (ys.drop 60)), .u32 (n4 big (ys.drop 64)), .u32 (n4 big (ys.drop 68)), .u32 (n4 big (ys.drop 72)), .u32 (n4 big (ys.drop 76)), .sl g28 0 q60 q60] 148, aq g28 (nums .u32 (dV big q60 ((xs.drop q56).take (4 * q60)))) 24, D]).φ rb ({ s with loads := s.loads ++ [⟨5, raw, [], rS big ys⟩], ind := some (dV big q60 ((xs.drop q56).take (4 * q60))) }) gd o m ds (vs ++ [.iface 119 (.pt g34)]) gs (.pt gyy) (.pt g34) := ⟨fun w hh => hD.dat w (hsub w hh), fun w hh => (hD.ld w (hsub w hh)).snoc (by have hh := aV.1 hh; exact .inr (.inr (.inr (.inr (.inr (⟨_, _, _, raw, g34, _, fun k => n4 big (ys.drop (4 * k)), rfl, fun k => ⟨(aR big (hbys.drop (4 * k))).1, Int.le_trans (Int.le_of_lt (aR big (hbys.drop (4 * k))).2) (by decide)⟩, hh (aq g34 [.sl gd o0 sz cr, .u32 (n4 big (ys.drop 0)), .u32 (n4 big (ys.drop 4)), .u32 (n4 big (ys.drop 8)), .u32 (n4 big (ys.drop 12)), .u32 (n4 big (ys.drop 16)), .u32 (n4 big (ys.drop 20)), .u32 (n4 big (ys.drop 24)), .u32 (n4 big (ys.drop 28)), .u32 (n4 big (ys.drop 32)), .u32 (n4 big (ys.drop 36)), .u32 (n4 big (ys.drop 40)), .u32 (n4 big (ys.drop 44)), .u32 (n4 big (ys.drop 48)), .u32 (n4 big (ys.drop 52)), .u32 (n4 big (ys.drop 56)), .u32 (n4 big (ys.drop 60)), .u32 (n4 big (ys.drop 64)), .u32 (n4 big (ys.drop 68)), .u32 (n4 big (ys.drop 72)), .u32 (n4 big (ys.drop 76)), .sl g28 0 q60 q60] 148) (by simp), hRaw _ (hsub _ (aV.2 hh)), by omega, rfl⟩)))))), fun w hh => hD.sc w (hsub w hh), hD.sy.mono hsub, .inr ⟨g34, q60, q60, ⟨g28, 0, none⟩, _, fun k => .u32 (n4 big (ys.drop (4 * k))), _, rfl, rfl, by omega, fun w hh => by have hh := aV.1 hh; exact ⟨hh (aq g34 [.sl gd o0 sz cr, .u32 (n4 big (ys.drop 0)), .u32 (n4 big (ys.drop 4)), .u32 (n4 big (ys.drop 8)), .u32 (n4 big (ys.drop 12)), .u32 (n4 big (ys.drop 16)), .u32 (n4 big (ys.drop 20)), .u32 (n4 big (ys.drop 24)), .u32 (n4 big (ys.drop 28)), .u32 (n4 big (ys.drop 32)), .u32 (n4 big (ys.drop 36)), .u32 (n4 big (ys.drop 40)), .u32 (n4 big (ys.drop 44)), .u32 (n4 big (ys.drop 48)), .u32 (n4 big (ys.drop 52)), .u32 (n4 big (ys.drop 56)), .u32 (n4 big (ys.drop 60)), .u32 (n4 big (ys.drop 64)), .u32 (n4 big (ys.drop 68)), .u32 (n4 big (ys.drop 72)), .u32 (n4 big (ys.drop 76)), .sl g28 0 q60 q60] 148) (by simp), ak (hh (aq g28 (nums .u32 (dV big q60 ((xs.drop q56).take (4 * q60)))) 24) (by simp)) (by simp [dV])⟩⟩⟩
      exact hQ _ _ _ hst ⟨h0, h4, ⟨_, h12, hof0, hof1⟩, h13, h16, h17⟩ ⟨Res.all [aq g34 [.sl gd o0 sz cr, .u32 (n4 big (ys.drop 0)), .u32 (n4 big (ys.drop 4)), .u32 (n4 big (ys.drop 8)), .u32 (n4 big (ys.drop 12)), .u32 (n4 big (ys.drop 16)), .u32 (n4 big (ys.drop 20)), .u32 (n4 big (ys.drop 24)), .u32 (n4 big (ys.drop 28)), .u32 (n4 big (ys.drop 32)), .u32 (n4 big (ys.drop 36)), .u32 (n4 big (ys.drop 40)), .u32 (n4 big (ys.drop 44)), .u32 (n4 big (ys.drop 48)), .u32 (n4 big (ys.drop 52)), .u32 (n4 big (ys.drop 56)), .u32 (n4 big (ys.drop 60)), .u32 (n4 big (ys.drop 64)), .u32 (n4 big (ys.drop 68)), .u32 (n4 big (ys.drop 72)), .u32 (n4 big (ys.drop 76)), .sl g28 0 q60 q60] 148, aq g28 (nums .u32 (dV big q60 ((xs.drop q56).take (4 * q60)))) 24, D], _, _, _, _, _, _, vs ++ [.iface 119 (.pt g34)], gs, _, _, .inr (.inr (.inl hDg)), by omega, by omega, hDn, Hn⟩
     ·
      refine ae (mg h0 rfl (wf iC rfl (wv rfl (H19.ld 0 rfl ar rfl (.u32 (↑q60)) rfl) (wv rfl (an bm be rfl (a6 (by omega) (by omega))) (wv rfl (c6 (k := .u64) (c := ↑(4 * q60)) rfl rfl (by rw [a6 (by omega) (by omega)]; omega)) (wf jC rfl (wv rfl (H19.ld 0 rfl ar rfl (.u32 (↑q56)) rfl) (wv rfl (an bm f9 rfl (aE (by omega) (by omega))) (wE [.iface 109 (.pt rb), .u64 (↑(4 * q60)), .i64 (↑q56)] iZ rfl rfl (aa (fS (n := 4 * q60) (off := q56) _ (b7 hrb H19.keep) (hG.keep H19.keep fun k hk => hk.elim) hNC hN (hr.keep0 H19.keep) (fun a ha => Nat.lt_of_lt_of_le (hA a ha) H19.keep.size) (Nat.le_trans hw4 H19.keep.size) (by omega) (by omega) (by omega) (by omega)) ?_))))))))))
      rintro e w57 ⟨T, ev, rfl, HS55⟩
      have H58 := H19.cal0 HS55
      refine ⟨_, rfl, ?_⟩
      refine mv (.tuple #[.ns, .iface T ev]) rfl (we (.ns) rfl rfl (we (.iface T ev) rfl rfl (av (.ns) rfl (av (.iface T ev) rfl (wn (ad (sr (mv (.iface T ev) rfl (wv rfl ((nn true bq rfl (.inr ⟨_, _, rfl⟩))) (wn (ay rfl ?_)))))))))))
      refine sr (mv (.iface T ev) rfl (av (.np) rfl (av (.iface T ev) rfl (wn (rq (aB (ax ?_)))))))
      have hst : bQ big xs raw s = none := by have e1 : gG xs q56 (4 * q60) = none := dD (by rw [hr.1]; exact hf1); simp only [bQ, ← hys, ← hq24, ← hq28, ← hq56, ← hq60, Int.toNat_natCast, hss, if_neg (show ¬ raw.length < 80 by omega), if_neg (show ¬ ss.length < q24 by omega), if_neg (show ¬ ss.length < ((↑q24 + ↑q28 : Int) % 4294967296).toNat by omega), e1]
      exact hR hst _ _ _ _ rfl rfl H58.keep
 ·
  refine ae (mp gq 0 rfl (wv rfl (aF (v := .pt gq) dW rfl) (mg h16 rfl (wE [.pt g1, .iface 109 (.pt gq), .u8 (bo big)] CK57 rfl rfl ?_))))
  have hne60 := H6.blk_ne (i := 0) (j := 1) rfl rfl (by decide)
  have hge1 := H6.ge (i := 0) rfl
  have hge2 := H6.ge (i := 1) rfl
  have hws := H6.keep.size
  refine aa (iH (ys := []) (i := 0) (A := some ⟨gd, o0, none⟩) (xs := raw) big _ (H6.g 1 rfl) (H6.g 0 rfl) (hG.keep H6.keep fun k hk => hk.elim) hscr (by omega) (hRaw _ (H6.g 5 rfl)) hrby (fun a ha => by injection ha with ha; subst ha; exact ⟨D.live _ _ (H6.g 5 rfl) hDg, H6.sepD (i := 0) (j := 5) rfl rfl (by decide) hDg, H6.sepD (i := 1) (j := 5) rfl rfl (by decide) hDg⟩) (by omega) (by omega) (by omega) (by omega) (by omega)) ?_
  rintro e w61 ⟨T, ev, rfl, HS59⟩
  have H62 := H6.ky 1 0 rfl rfl HS59 (fun _ h => h)
  refine ⟨_, rfl, ?_⟩
  refine av (.iface T ev) rfl (wn (sr (mv (.iface T ev) rfl (wv rfl ((nn true bq rfl (.inr ⟨_, _, rfl⟩))) (wn (ay rfl (sr (mv (.iface T ev) rfl (av (.np) rfl (av (.iface T ev) rfl (wn ?_)))))))))))
  refine rq (aB (ax ?_))
  have hst : bQ big xs raw s = none := by unfold bQ; rw [if_pos (by omega)]
  exact hR hst _ _ _ _ rfl rfl H62.keep
end Go.Proofs.YtlndedfkgiafhaaDoor
