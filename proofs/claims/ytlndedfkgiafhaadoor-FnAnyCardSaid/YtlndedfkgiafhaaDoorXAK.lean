import Derived.Test.YtlndedfkgiafhaaDoorXAJ
set_option linter.unusedVariables false
set_option linter.unusedSimpArgs false
set_option maxRecDepth 100000
set_option maxHeartbeats 4000000
namespace Go.Proofs.YtlndedfkgiafhaaDoor
open Go Go.RowKit Go.Proofs
theorem t8 : cQ Tryd.prog 177 [.u32 0, .u32 0, .u8 0, .u8 0, .u8 0, .u8 0, .u8 0, .u8 0, .u8 0, .u8 0, .u8 0, .u8 0, .u8 0, .u8 0, .u8 0, .u8 0, .u8 0, .u8 0, .u32 0, .u32 0, .u32 0, .u32 0, .u32 0, .u32 0, .u32 0, .u32 0] := bv (by kernel_rfl)
theorem CK59 : aX Tryd.prog 59 := aJ (by kernel_rfl)
theorem oo : cQ Tryd.prog 181 [.ns, .u32 0, .u32 0, .string (⟨#[]⟩), .u64 0, .u64 0, .u64 0, .u64 0, .u32 0, .u32 0, .u32 0, .u32 0, .nilIface, .np] := bv (by kernel_rfl)
theorem qE : FA 181 0 0 := fa (by kernel_rfl)
theorem vE : Tryd.prog.concrete 160 = true := by kernel_rfl
theorem t7 : cQ Tryd.prog 183 [.u8 0, .u8 0, .u8 0, .u8 0, .u8 0, .u8 0, .u8 0, .u8 0, .u8 0, .u8 0, .u8 0, .u8 0, .u8 0, .u8 0, .u8 0, .u8 0, .u8 0, .u8 0, .u8 0, .u8 0, .u8 0, .u8 0, .u8 0, .u8 0, .u8 0, .u8 0, .u8 0, .u8 0, .u8 0, .u8 0, .u8 0, .u8 0, .u32 0, .u32 0, .u32 0, .u32 0, .u32 0, .u32 0, .u32 0, .u32 0, .u32 0] := bv (by kernel_rfl)
theorem CK60 : aX Tryd.prog 60 := aJ (by kernel_rfl)
theorem ow : cQ Tryd.prog 135 [.string (⟨#[]⟩), .string (⟨#[]⟩), .u64 0, .u64 0, .u32 0, .u32 0, .u32 0, .u32 0, .u32 0, .ns, .nilIface, .np] := bv (by kernel_rfl)
theorem CK61 : aX Tryd.prog 61 := aJ (by kernel_rfl)
theorem kN : FA 181 3 13 := fa (by kernel_rfl)
theorem qD : FA 181 2 12 := fa (by kernel_rfl)
theorem t6 : cQ Tryd.prog 186 [.u32 0, .u32 0, .u8 0, .u8 0, .u8 0, .u8 0, .u8 0, .u8 0, .u8 0, .u8 0, .u8 0, .u8 0, .u8 0, .u8 0, .u8 0, .u8 0, .u8 0, .u8 0, .u64 0, .u64 0, .u64 0, .u64 0, .u32 0, .u32 0, .u32 0, .u32 0] := bv (by kernel_rfl)
theorem CK62 : aX Tryd.prog 62 := aJ (by kernel_rfl)
theorem t5 : cQ Tryd.prog 188 [.u8 0, .u8 0, .u8 0, .u8 0, .u8 0, .u8 0, .u8 0, .u8 0, .u8 0, .u8 0, .u8 0, .u8 0, .u8 0, .u8 0, .u8 0, .u8 0, .u8 0, .u8 0, .u8 0, .u8 0, .u8 0, .u8 0, .u8 0, .u8 0, .u8 0, .u8 0, .u8 0, .u8 0, .u8 0, .u8 0, .u8 0, .u8 0, .u64 0, .u64 0, .u32 0, .u32 0, .u32 0, .u32 0, .u32 0, .u32 0, .u32 0, .u32 0] := bv (by kernel_rfl)
theorem CK63 : aX Tryd.prog 63 := aJ (by kernel_rfl)
theorem TC43 : Tryd.prog.concrete 43 = true := by kernel_rfl
theorem hH (gs : List Nat) (g : Nat) : bM (gs ++ [g]) = bM gs ++ [.pt g] := by simp [bM]
section
variable {wide big : Bool} {xs raw ys : List Int} {s : PSt} {ns k a : Nat} {l : List SecD} {s3 : SecD}
theorem fY (h : raw.length < a + eQ wide) : bL wide big xs raw (k + 1) a = none := by simp only [bL]; rw [if_pos h]
theorem iJ (h : ¬ raw.length < a + eQ wide) (hs : dt big xs (dC wide big ((raw.drop a).take (eQ wide))) = none) : bL wide big xs raw (k + 1) a = none := by simp only [bL, hs]; rw [if_neg h]
theorem eV (h : ¬ raw.length < a + eQ wide) (hs : dt big xs (dC wide big ((raw.drop a).take (eQ wide))) = some s3) : bL wide big xs raw (k + 1) a = (bL wide big xs raw k (a + eQ wide)).map (s3 :: ·) := by simp only [bL, hs]; rw [if_neg h]
theorem eU (hys : ys = (raw.drop 0).take (i7 wide)) (hns : ((dk wide big ys).getD 8 0).toNat = ns) (e0 : bL wide big xs raw ns (i7 wide) = none) : ca wide big xs raw s = none := by
 subst hys; subst hns; unfold ca; split
 · rfl
 · simp only [e0]
theorem gZ (hys : ys = (raw.drop 0).take (i7 wide)) (h : 9223372036854775808 ≤ (dk wide big ys).getD 4 0 ∨ 9223372036854775808 ≤ (dk wide big ys).getD 5 0) : ca wide big xs raw s = none := by
 subst hys; unfold ca; split
 · rfl
 · split
   · rfl
   · first | rfl | rw [if_pos h]
theorem gY (hl : ¬ raw.length < i7 wide) (hys : ys = (raw.drop 0).take (i7 wide)) (hns : ((dk wide big ys).getD 8 0).toNat = ns) (e0 : bL wide big xs raw ns (i7 wide) = some l) (h : ¬ (9223372036854775808 ≤ (dk wide big ys).getD 4 0 ∨ 9223372036854775808 ≤ (dk wide big ys).getD 5 0)) :
 ca wide big xs raw s = some { s with loads := s.loads ++ [⟨1, raw, a9 ((ys.drop 8).take 16), dk wide big ys⟩], secs := s.secs ++ l } := by
 subst hys; subst hns; unfold ca; rw [if_neg hl]; simp only [e0]; rw [if_neg h]
end
theorem sW {rb N C fb gd o0 o m sz cr nL cL nS cS : Nat} {A AL AS : Option Addr} {i0 p0 of ii : Int} {xs raw ds : List Int} {a0 a1 : Addr} {h : Nat → Int} {vs : List Value} {gs : List Nat} {sy dy : Value} {D : Res} {s : PSt} (big : Bool) (w w1 : World) (hrb : (aq rb [.slice A N C, .i64 i0, .i64 p0] 190).φ w) (hG : Glob 224 w a0 a1) (hNC : N ≤ C) (hN : N < 10485760) (hr : RI .u8 w A N xs) (hby : Byt xs) (hA : ∀ a, A = some a → a.block < w.heap.size) (hw4 : 4 ≤ w.heap.size)
 (hDg : D.F gd) (hnL : nL + sz + m ≤ 10485760) (hnS : nS + sz + m ≤ 10485760) (hD : NFD D.φ rb s gd o m ds vs gs sy dy) (hRaw : ∀ w, D.φ w → RI .u8 w (some ⟨gd, o0, none⟩) sz raw) (hrby : Byt raw) (hrl : raw.length = sz) (hscr : sz ≤ cr) (hsz8 : 8 ≤ sz) (hof0 : 0 ≤ of) (hof1 : of + ↑m ≤ 10485800)
 (H1 : St w aW (sY fb big h AL AS nL cL nS cS vs gs sy dy D) w1) {ρ : cF} (h0 : ρ 0 = .iface 109 (.pt rb)) (h4 : ρ 4 = .pt fb) (h12 : ρ 12 = .i64 of) (h13 : ρ 13 = .sl gd o m m) (h16 : ρ 16 = .u8 (bo big)) (h17 : ρ 17 = .u32 ii) (h18 : ρ 18 = .u32 1) (h19 : ρ 19 = .u32 ↑sz) (h20 : ρ 20 = .sl gd o0 sz cr) (h21 : ρ 21 = .np) (hraw0 : n4 big raw = 1) (hraw4 : n4 big (raw.drop 4) = ↑sz)
 {Q : QE} (hQ : ∀ s' ρ' w', ca false big xs raw s = some s' → Fr ρ' rb fb gd o m big ii → Mid w rb fb big h gd o m ds s' w' → Q .normal ρ' w') (hR : ca false big xs raw s = none → ∀ ρ' w' T v, ρ' 2 = .np → ρ' 3 = .iface T v → Keep w aW w' → Q .ret ρ' w') :
 W Tryd.prog 931 ((d7 3 (Tryd.f41.body.getD .skip)).getD .skip) Q ρ w1 := by
 refine nZ rfl ?_
 have H0 : St w aW [aq fb [.u32 (h 0), .u32 (h 1), .u32 (h 2), .u32 (h 3), .u32 (h 4), .u32 (h 5), .u32 (h 6), .u8 (bo big), .slice AL nL cL, .slice AS nS cS, sy, dy] 121, aH 123 1 (.slice AL nL cL) nL vs, aH 125 1 (.slice AS nS cS) nS (bM gs), D] w1 := H1
 refine ad (sr (mg h18 rfl (wn (aC (sr (wv rfl (aL (c := false) rfl rfl rfl) (av (.bool false) rfl (wn (aj rfl (sr (wv rfl (aL (c := false) rfl rfl rfl) ?_)))))))))))
 refine av (.bool false) rfl (wn (aj rfl (sr (wv rfl (aL (c := false) rfl rfl rfl) (av (.bool false) rfl (wn (aj rfl (sr (wv rfl (aL (c := false) rfl rfl rfl) (av (.bool false) rfl (wn ?_)))))))))))
 refine aj rfl (sr (wv rfl (aL (c := true) rfl rfl rfl) (av (.bool true) rfl (wn (ay rfl (sr (wm rfl (aK H0 t8 (fun g1 w2 hgg1 H3 =>  wn (sr (mg h20 rfl ?_)))))))))))
 refine wE [.sl gd o0 sz cr] lN rfl rfl (aa (cH (some ⟨gd, o0, none⟩) sz cr _) ?_)
 rintro e w5 ⟨gq, rfl, hgq, HS4⟩
 have H6 := H3.cal0 HS4
 refine ⟨_, rfl, ?_⟩
 refine ap gq 0 rfl (wn (ad (ad ?_)))
 by_cases hfit : 0 + 56 ≤ sz
 ·
  obtain ⟨ys, hys⟩ : ∃ q, q = (raw.drop (0)).take 56 := ⟨_, rfl⟩
  have hbys : Byt ys := by rw [hys]; exact (hrby.drop _).take _
  have hlys : ys.length = 56 := by rw [hys, List.length_take, List.length_drop, hrl]; omega
  obtain ⟨q8, hq8⟩ : ∃ q : Nat, (q : Int) = n4 big (ys.drop 48) := ⟨(n4 big (ys.drop 48)).toNat, Int.toNat_of_nonneg (aR big (hbys.drop _)).1⟩
  have hltq8 : (q8 : Int) < 4294967296 := by rw [hq8]; exact (aR big (hbys.drop _)).2
  have hns : ((dk false big ys).getD 8 0).toNat = q8 := by show (n4 big (ys.drop 48)).toNat = q8; omega
  have hc0 : n4 big (ys.drop 0) = 1 := by rw [hys, bK (by omega)]; exact hraw0
  have hc4 : n4 big (ys.drop 4) = ↑sz := by rw [hys, bK (by omega)]; exact hraw4
  have := aR big (hbys.drop 32)
  have := aR big (hbys.drop 36)
  refine ae (mp gq 0 rfl (wv rfl (aF (v := .pt gq) dW rfl) (mg h16 rfl (wE [.pt g1, .iface 109 (.pt gq), .u8 (bo big)] CK59 rfl rfl ?_))))
  have hne8 := H6.blk_ne (i := 0) (j := 1) rfl rfl (by decide)
  have hge1 := H6.ge (i := 0) rfl
  have hge2 := H6.ge (i := 1) rfl
  have hws := H6.keep.size
  refine aa (jI (ys := ys) (i := 0) (A := some ⟨gd, o0, none⟩) (xs := raw) big _ (H6.g 1 rfl) (H6.g 0 rfl) (hG.keep H6.keep fun k hk => hk.elim) hscr (by omega) (hRaw _ (H6.g 5 rfl)) hrby (fun a ha => by injection ha with ha; subst ha; exact ⟨D.live _ _ (H6.g 5 rfl) hDg, H6.sepD (i := 0) (j := 5) rfl rfl (by decide) hDg, H6.sepD (i := 1) (j := 5) rfl rfl (by decide) hDg⟩) (by omega) (by omega) (by omega) (by omega) (by omega) hys) ?_
  rintro e w9 ⟨rfl, HS7⟩
  rw [← hq8] at HS7
  have H10 := H6.ky 1 0 rfl rfl HS7 (fun _ h => h)
  refine ⟨_, rfl, ?_⟩
  refine av (.nilIface) rfl (wn (sr (mv (.nilIface) rfl (wv rfl ((nn false bq rfl (.inl rfl))) (wn (aj rfl (wk (sr (wm rfl (aK H10 oo (fun g11 w12 hgg11 H13 =>  ap g11 0 rfl ?_)))))))))))
  refine wn (sr (mp g11 0 rfl (mg h20 rfl (wc rfl (wf qE rfl (ws (es H13 0 0 (.sl gd o0 sz cr) rfl fq (fun w15 H14 =>  ?_))))))))
  refine wn (sr (mp g11 0 rfl (mg h18 rfl (wc rfl (wf bi rfl (wv rfl (ab na rfl) (ws (es H14 0 1 (.u32 1) rfl fP (fun w17 H16 =>  ?_)))))))))
  refine wn (sr (mp g11 0 rfl (mg h19 rfl (wc rfl (wf bi rfl (wv rfl (ab mZ rfl) (ws (es H16 0 2 (.u32 (↑sz)) rfl ar (fun w19 H18 =>  ?_)))))))))
  refine wn (sr (mp g11 0 rfl (wf qM rfl (wv rfl ((bu (o := 2) (l := 0) (h := 16) i2 rfl (bg (i := 0) rfl (by omega) rfl) (bh _ _) (by omega) (by omega) : Yv _ _ _ _ (.sl g1 2 16 16) _)) (wE [.sl g1 2 16 16] lY rfl rfl (aa (dE _ (eE (ys := ys) (k := 8) (m := 16) (H18.g 1 rfl) rfl (by omega)) ((hbys.drop _).take _) (by omega) (by omega)) ?_))))))
  rintro e w21 ⟨rfl, HS20⟩
  have H22 := H18.cal0 HS20
  refine ⟨_, rfl, ?_⟩
  refine wc rfl (wf bi rfl (wv rfl (ab mY rfl) (ws (es H22 0 3 (.str (a9 ((ys.drop 8).take 16))) rfl d9 (fun w24 H23 =>  ?_)))))
  refine wn (sr (mp g11 0 rfl (wf qL rfl (wv rfl (H23.ld 1 rfl ar rfl (.u32 (n4 big (ys.drop 24))) rfl) (wv rfl (an bm be rfl (a6 (aR big (hbys.drop _)).1 (by have := (aR big (hbys.drop 24)).2; omega))) (wc rfl (wf bi rfl (wv rfl (ab mX rfl) (ws (es H23 0 4 (.u64 (n4 big (ys.drop 24))) rfl aM (fun w26 H25 =>  ?_)))))))))))
  refine wn (sr (mp g11 0 rfl (wf qK rfl (wv rfl (H25.ld 1 rfl ar rfl (.u32 (n4 big (ys.drop 28))) rfl) (wv rfl (an bm be rfl (a6 (aR big (hbys.drop _)).1 (by have := (aR big (hbys.drop 28)).2; omega))) (wc rfl (wf bi rfl (wv rfl (ab mW rfl) (ws (es H25 0 5 (.u64 (n4 big (ys.drop 28))) rfl aM (fun w28 H27 =>  ?_)))))))))))
  refine wn (sr (mp g11 0 rfl (wf qJ rfl (wv rfl (H27.ld 1 rfl ar rfl (.u32 (n4 big (ys.drop 32))) rfl) (wv rfl (an bm be rfl (a6 (aR big (hbys.drop _)).1 (by have := (aR big (hbys.drop 32)).2; omega))) (wc rfl (wf bi rfl (wv rfl (ab fC rfl) (ws (es H27 0 6 (.u64 (n4 big (ys.drop 32))) rfl aM (fun w30 H29 =>  ?_)))))))))))
  refine wn (sr (mp g11 0 rfl (wf qI rfl (wv rfl (H29.ld 1 rfl ar rfl (.u32 (n4 big (ys.drop 36))) rfl) (wv rfl (an bm be rfl (a6 (aR big (hbys.drop _)).1 (by have := (aR big (hbys.drop 36)).2; omega))) (wc rfl (wf bi rfl (wv rfl (ab fB rfl) (ws (es H29 0 7 (.u64 (n4 big (ys.drop 36))) rfl aM (fun w32 H31 =>  ?_)))))))))))
  refine wn (sr (mp g11 0 rfl (wf qH rfl (wv rfl (H31.ld 1 rfl ar rfl (.u32 (n4 big (ys.drop 40))) rfl) (wc rfl (wf bi rfl (wv rfl (ab mV rfl) (ws (es H31 0 8 (.u32 (n4 big (ys.drop 40))) rfl ar (fun w34 H33 =>  ?_))))))))))
  refine wn (sr (mp g11 0 rfl (wf qG rfl (wv rfl (H33.ld 1 rfl ar rfl (.u32 (n4 big (ys.drop 44))) rfl) (wc rfl (wf bi rfl (wv rfl (ab mU rfl) (ws (es H33 0 9 (.u32 (n4 big (ys.drop 44))) rfl ar (fun w36 H35 =>  ?_))))))))))
  refine wn (sr (mp g11 0 rfl (wf qF rfl (wv rfl (H35.ld 1 rfl ar rfl (.u32 (↑q8)) rfl) (wc rfl (wf bi rfl (wv rfl (ab jB rfl) (ws (es H35 0 10 (.u32 (↑q8)) rfl ar (fun w38 H37 =>  ?_))))))))))
  refine wn (sr (mp g11 0 rfl (wf oz rfl (wv rfl (H37.ld 1 rfl ar rfl (.u32 (n4 big (ys.drop 52))) rfl) (wc rfl (wf bi rfl (wv rfl (ab lE rfl) (ws (es H37 0 11 (.u32 (n4 big (ys.drop 52))) rfl ar (fun w40 H39 =>  ?_))))))))))
  refine wn (sr (mg h4 rfl (mg h4 rfl (wc rfl (wf cT rfl (wv rfl (H39.ld 3 rfl dG rfl (.slice AL nL cL) rfl) (mp g11 0 rfl (wv rfl (aF (v := .pt g11) vE rfl) (wm rfl (eb H39 123 [.iface 160 (.pt g11)] rfl (by kernel_rfl) (fun g41 w42 hgg41 H43 =>  wm rfl ?_)))))))))))
  refine bR H43 5 (m := 1) (news := [.iface 160 (.pt g11)]) rfl j8 jG rfl (by decide) rfl rfl rfl (H43.news (i := 0) rfl) (by simp [Value.oneCell']) (by simp only [maxLen]; omega) (by omega) (fun v44 w45 H46 =>  ?_)
  obtain ⟨A47, c48, rfl, _, _⟩ := aw (H46.g 5 rfl)
  refine wc rfl (wf cT rfl (ws (es H46 4 8 (.slice A47 (nL + 1) c48) rfl dG (fun w50 H49 =>  ?_))))
  refine wn (sr (ai 0 rfl (wn (aC ?_))))
  have H30 : St w aW [aq gq [.sl gd o0 sz cr, .i64 (↑(56 + 68 * (0 : Nat))), .i64 (-1)] 190, aq g11 [.sl gd o0 sz cr, .u32 1, .u32 (↑sz), .str (a9 ((ys.drop 8).take 16)), .u64 (n4 big (ys.drop 24)), .u64 (n4 big (ys.drop 28)), .u64 (n4 big (ys.drop 32)), .u64 (n4 big (ys.drop 36)), .u32 (n4 big (ys.drop 40)), .u32 (n4 big (ys.drop 44)), .u32 (↑q8), .u32 (n4 big (ys.drop 52)), .nilIface, .np] 181, aq fb [.u32 (h 0), .u32 (h 1), .u32 (h 2), .u32 (h 3), .u32 (h 4), .u32 (h 5), .u32 (h 6), .u8 (bo big), .slice A47 (nL + 1) c48, .slice AS (nS + (0 : Nat)) cS, sy, dy] 121, aH 123 1 (.slice A47 (nL + 1) c48) (nL + 1) (vs ++ [.iface 160 (.pt g11)]), aH 125 1 (.slice AS (nS + (0 : Nat)) cS) (nS + (0 : Nat)) (bM gs), D] w50 := H49.re [3, 1, 4, 5, 6, 7]
  refine bW (fun ρ w' => ∃ j : Nat, ∃ ASj : Option Addr, ∃ cSj : Nat, ∃ gsj : List Nat, ∃ dn : List SecD, ∃ Dj : Res, ρ 0 = .iface 109 (.pt rb) ∧ ρ 4 = .pt fb ∧ ρ 12 = .i64 of ∧ ρ 13 = .sl gd o m m ∧ ρ 16 = .u8 (bo big) ∧ ρ 17 = .u32 ii ∧ ρ 21 = .pt g11 ∧ ρ 47 = .pt gq ∧ ρ 49 = .i64 ↑j ∧ j ≤ q8 ∧ 56 + 68 * j ≤ sz ∧ Dj.F gd ∧ (∀ w, Dj.φ w → D.φ w) ∧ (∀ w, Dj.φ w → ScS w rb gsj (s.secs ++ dn)) ∧ bL false big xs raw q8 56 = (bL false big xs raw (q8 - j) (56 + 68 * j)).map (dn ++ ·) ∧ St w aW [aq gq [.sl gd o0 sz cr, .i64 (↑(56 + 68 * j)), .i64 (-1)] 190, aq g11 [.sl gd o0 sz cr, .u32 1, .u32 (↑sz), .str (a9 ((ys.drop 8).take 16)), .u64 (n4 big (ys.drop 24)), .u64 (n4 big (ys.drop 28)), .u64 (n4 big (ys.drop 32)), .u64 (n4 big (ys.drop 36)), .u32 (n4 big (ys.drop 40)), .u32 (n4 big (ys.drop 44)), .u32 (↑q8), .u32 (n4 big (ys.drop 52)), .nilIface, .np] 181, aq fb [.u32 (h 0), .u32 (h 1), .u32 (h 2), .u32 (h 3), .u32 (h 4), .u32 (h 5), .u32 (h 6), .u8 (bo big), .slice A47 (nL + 1) c48, .slice ASj (nS + j) cSj, sy, dy] 121, aH 123 1 (.slice A47 (nL + 1) c48) (nL + 1) (vs ++ [.iface 160 (.pt g11)]), aH 125 1 (.slice ASj (nS + j) cSj) (nS + j) (bM gsj), Dj] w') (fun ρ _ => q8 + 1 - nv (ρ 49)) (⟨0, AS, cS, gs, [], D, h0, h4, h12, h13, h16, h17, rfl, rfl, rfl, by omega, by omega, hDg, fun _ h => h, fun w h => by rw [List.append_nil]; exact hD.sc w h, by simp, H30⟩) ?_
  rintro ρ w3 ⟨j, ASj, cSj, gsj, dn, Dj, j0, j4, j12, j13, j16, j17, j21, jq, jc, hj, hjz, hjg, hjD, hjS, hsec, H3⟩
  refine ad (sr (mg jc rfl (mg j21 rfl (wc rfl (wf bi rfl (wv rfl (ab jB rfl) (wv rfl (H3.ld 1 rfl ar rfl (.u32 (↑q8)) rfl) (wv rfl (an bm kw rfl (aE (by omega) (by omega))) (wv rfl (cx rfl rfl) (wn ?_))))))))))
  refine cf rfl (fun hb51 => ?_) (fun hb51 => ?_)
  ·
   simp only [bx] at hb51
   refine wk (ad (aC (sr (wm rfl (aK H3 t7 (fun g52 w53 hgg52 H54 =>  wn (ad (ad ?_))))))))
   have hjn : j < q8 := by omega
   by_cases hfit : 56 + 68 * j + 68 ≤ sz
   ·
    obtain ⟨zs, hzs⟩ : ∃ q, q = (raw.drop (56 + 68 * j)).take 68 := ⟨_, rfl⟩
    have hbzs : Byt zs := by rw [hzs]; exact (hrby.drop _).take _
    have hlzs : zs.length = 68 := by rw [hzs, List.length_take, List.length_drop, hrl]; omega
    obtain ⟨z1, hz1⟩ : ∃ q : Nat, (q : Int) = n4 big (zs.drop 36) := ⟨(n4 big (zs.drop 36)).toNat, Int.toNat_of_nonneg (aR big (hbzs.drop _)).1⟩
    have hltz1 : (z1 : Int) < 4294967296 := by rw [hz1]; exact (aR big (hbzs.drop _)).2
    obtain ⟨z2, hz2⟩ : ∃ q : Nat, (q : Int) = n4 big (zs.drop 40) := ⟨(n4 big (zs.drop 40)).toNat, Int.toNat_of_nonneg (aR big (hbzs.drop _)).1⟩
    have hltz2 : (z2 : Int) < 4294967296 := by rw [hz2]; exact (aR big (hbzs.drop _)).2
    obtain ⟨z3, hz3⟩ : ∃ q : Nat, (q : Int) = n4 big (zs.drop 48) := ⟨(n4 big (zs.drop 48)).toNat, Int.toNat_of_nonneg (aR big (hbzs.drop _)).1⟩
    have hltz3 : (z3 : Int) < 4294967296 := by rw [hz3]; exact (aR big (hbzs.drop _)).2
    obtain ⟨z4, hz4⟩ : ∃ q : Nat, (q : Int) = n4 big (zs.drop 52) := ⟨(n4 big (zs.drop 52)).toNat, Int.toNat_of_nonneg (aR big (hbzs.drop _)).1⟩
    have hltz4 : (z4 : Int) < 4294967296 := by rw [hz4]; exact (aR big (hbzs.drop _)).2
    refine ae (mg jq rfl (wv rfl (aF (v := .pt gq) dW rfl) (mg j16 rfl (wE [.pt g52, .iface 109 (.pt gq), .u8 (bo big)] CK60 rfl rfl ?_))))
    have hne56 := H54.blk_ne (i := 0) (j := 1) rfl rfl (by decide)
    have hge1 := H54.ge (i := 1) rfl
    have hge2 := H54.ge (i := 0) rfl
    have hws := H54.keep.size
    refine aa (jK (ys := zs) (i := 56 + 68 * j) (A := some ⟨gd, o0, none⟩) (xs := raw) big _ (H54.g 0 rfl) (H54.g 1 rfl) (hG.keep H54.keep fun k hk => hk.elim) hscr (by omega) ((fun w h => hRaw w (hjD w h)) _ (H54.g 6 rfl)) hrby (fun a ha => by injection ha with ha; subst ha; exact ⟨Dj.live _ _ (H54.g 6 rfl) hjg, H54.sepD (i := 1) (j := 6) rfl rfl (by decide) hjg, H54.sepD (i := 0) (j := 6) rfl rfl (by decide) hjg⟩) (by omega) (by omega) (by omega) (by omega) (by omega) hzs) ?_
    rintro e w57 ⟨rfl, HS55⟩
    rw [← hz1] at HS55
    rw [← hz2] at HS55
    rw [← hz3] at HS55
    rw [← hz4] at HS55
    have H58 := H54.ky 0 0 rfl rfl HS55 (fun _ h => h)
    refine ⟨_, rfl, ?_⟩
    refine av (.nilIface) rfl (wn (sr (mv (.nilIface) rfl (wv rfl ((nn false bq rfl (.inl rfl))) (wn (aj rfl (wk (sr (wm rfl (aK H58 ow (fun g59 w60 hgg59 H61 =>  ap g59 0 rfl ?_)))))))))))
    refine wn (sr (mp g59 0 rfl (wf qC rfl (wv rfl ((bu (o := 0) (l := 0) (h := 16) i2 rfl (bg (i := 0) rfl (by omega) rfl) (bh _ _) (by omega) (by omega) : Yv _ _ _ _ (.sl g52 0 16 16) _)) (wE [.sl g52 0 16 16] lY rfl rfl (aa (dE _ (eE (ys := zs) (k := 0) (m := 16) (H61.g 1 rfl) rfl (by omega)) ((hbzs.drop _).take _) (by omega) (by omega)) ?_))))))
    rintro e w63 ⟨rfl, HS62⟩
    have H64 := H61.cal0 HS62
    refine ⟨_, rfl, ?_⟩
    refine wc rfl (wf bf rfl (wf kV rfl (ws (es H64 0 0 (.str (a9 ((zs.drop 0).take 16))) rfl d9 (fun w66 H65 =>  ?_)))))
    refine wn (sr (mp g59 0 rfl (wf qB rfl (wv rfl ((bu (o := 16) (l := 0) (h := 16) i2 rfl (bg (i := 0) rfl (by omega) rfl) (bh _ _) (by omega) (by omega) : Yv _ _ _ _ (.sl g52 16 16 16) _)) (wE [.sl g52 16 16 16] lY rfl rfl (aa (dE _ (eE (ys := zs) (k := 16) (m := 16) (H65.g 1 rfl) rfl (by omega)) ((hbzs.drop _).take _) (by omega) (by omega)) ?_))))))
    rintro e w68 ⟨rfl, HS67⟩
    have H69 := H65.cal0 HS67
    refine ⟨_, rfl, ?_⟩
    refine wc rfl (wf bf rfl (wf kU rfl (ws (es H69 0 1 (.str (a9 ((zs.drop 16).take 16))) rfl d9 (fun w71 H70 =>  ?_)))))
    refine wn (sr (mp g59 0 rfl (wf qA rfl (wv rfl (H70.ld 1 rfl ar rfl (.u32 (n4 big (zs.drop 32))) rfl) (wv rfl (an bm be rfl (a6 (aR big (hbzs.drop _)).1 (by have := (aR big (hbzs.drop 32)).2; omega))) (wc rfl (wf bf rfl (wf kT rfl (ws (es H70 0 2 (.u64 (n4 big (zs.drop 32))) rfl aM (fun w73 H72 =>  ?_)))))))))))
    refine wn (sr (mp g59 0 rfl (wf q0 rfl (wv rfl (H72.ld 1 rfl ar rfl (.u32 (↑z1)) rfl) (wv rfl (an bm be rfl (a6 (by omega) (by omega))) (wc rfl (wf bf rfl (wf fD rfl (ws (es H72 0 3 (.u64 (↑z1)) rfl aM (fun w75 H74 =>  ?_)))))))))))
    refine wn (sr (mp g59 0 rfl (wf qx rfl (wv rfl (H74.ld 1 rfl ar rfl (.u32 (↑z2)) rfl) (wc rfl (wf bf rfl (wf ik rfl (ws (es H74 0 4 (.u32 (↑z2)) rfl ar (fun w77 H76 =>  ?_))))))))))
    refine wn (sr (mp g59 0 rfl (wf qw rfl (wv rfl (H76.ld 1 rfl ar rfl (.u32 (n4 big (zs.drop 44))) rfl) (wc rfl (wf bf rfl (wf kS rfl (ws (es H76 0 5 (.u32 (n4 big (zs.drop 44))) rfl ar (fun w79 H78 =>  ?_))))))))))
    refine wn (sr (mp g59 0 rfl (wf qv rfl (wv rfl (H78.ld 1 rfl ar rfl (.u32 (↑z3)) rfl) (wc rfl (wf bf rfl (wf iU rfl (ws (es H78 0 6 (.u32 (↑z3)) rfl ar (fun w81 H80 =>  ?_))))))))))
    refine wn (sr (mp g59 0 rfl (wf qu rfl (wv rfl (H80.ld 1 rfl ar rfl (.u32 (↑z4)) rfl) (wc rfl (wf bf rfl (wf fi rfl (ws (es H80 0 7 (.u32 (↑z4)) rfl ar (fun w83 H82 =>  ?_))))))))))
    refine wn (sr (mp g59 0 rfl (wf qq rfl (wv rfl (H82.ld 1 rfl ar rfl (.u32 (n4 big (zs.drop 56))) rfl) (wc rfl (wf bf rfl (wf kR rfl (ws (es H82 0 8 (.u32 (n4 big (zs.drop 56))) rfl ar (fun w85 H84 =>  ?_))))))))))
    refine wn (sr (mg j4 rfl (mp g59 0 rfl (mg j0 rfl (wE [.pt fb, .pt g59, .iface 109 (.pt rb)] CK61 rfl rfl ?_)))))
    have Hp : St w aW ([aq fb [.u32 (h 0), .u32 (h 1), .u32 (h 2), .u32 (h 3), .u32 (h 4), .u32 (h 5), .u32 (h 6), .u8 (bo big), .slice A47 (nL + 1) c48, .slice ASj (nS + j) cSj, sy, dy] 121, aH 125 1 (.slice ASj (nS + j) cSj) (nS + j) (bM gsj), aq g59 [.str (a9 ((zs.drop 0).take 16)), .str (a9 ((zs.drop 16).take 16)), .u64 (n4 big (zs.drop 32)), .u64 (↑z1), .u32 (↑z2), .u32 (n4 big (zs.drop 44)), .u32 (↑z3), .u32 (↑z4), .u32 (n4 big (zs.drop 56)), .ns, .nilIface, .np] 135] ++ [aq gq [.sl gd o0 sz cr, .i64 (↑(56 + 68 * j : Nat) + 68), .i64 (-1)] 190, aq g11 [.sl gd o0 sz cr, .u32 1, .u32 (↑sz), .str (a9 ((ys.drop 8).take 16)), .u64 (n4 big (ys.drop 24)), .u64 (n4 big (ys.drop 28)), .u64 (n4 big (ys.drop 32)), .u64 (n4 big (ys.drop 36)), .u32 (n4 big (ys.drop 40)), .u32 (n4 big (ys.drop 44)), .u32 (↑q8), .u32 (n4 big (ys.drop 52)), .nilIface, .np] 181, aH 123 1 (.slice A47 (nL + 1) c48) (nL + 1) (vs ++ [.iface 160 (.pt g11)]), Dj]) w85 := H84.re [4, 6, 0, 2, 3, 5, 7]
    have hs2 : dC false big zs = (⟨a9 ((zs.drop 0).take 16), a9 ((zs.drop 16).take 16), n4 big (zs.drop 32), z1, z2, n4 big (zs.drop 44), ↑z3, ↑z4, n4 big (zs.drop 56), []⟩ : SecD) := by simp only [dC, ← hz1, ← hz2, ← hz3, ← hz4, Int.toNat_natCast, if_true, if_false, Bool.false_eq_true]
    have hft : SecD.fits (⟨a9 ((zs.drop 0).take 16), a9 ((zs.drop 16).take 16), n4 big (zs.drop 32), z1, z2, n4 big (zs.drop 44), ↑z3, ↑z4, n4 big (zs.drop 56), []⟩ : SecD) := by rw [← hs2]; exact mf hbzs
    by_cases hc1 : z4 = 0
    ·
     have hsr : dt big xs (⟨a9 ((zs.drop 0).take 16), a9 ((zs.drop 16).take 16), n4 big (zs.drop 32), z1, z2, n4 big (zs.drop 44), ↑z3, ↑z4, n4 big (zs.drop 56), []⟩ : SecD) = some { (⟨a9 ((zs.drop 0).take 16), a9 ((zs.drop 16).take 16), n4 big (zs.drop 32), z1, z2, n4 big (zs.drop 44), ↑z3, ↑z4, n4 big (zs.drop 56), []⟩ : SecD) with rels := [] } := by unfold dt; rw [if_pos (show (↑z4 : Int).toNat = 0 by omega)]
     refine aa (mm (base := w.heap.size) (s := (⟨a9 ((zs.drop 0).take 16), a9 ((zs.drop 16).take 16), n4 big (zs.drop 32), z1, z2, n4 big (zs.drop 44), ↑z3, ↑z4, n4 big (zs.drop 56), []⟩ : SecD)) (ro := z3) (nr := z4) big _ (Hp.loc (L1 := [aq fb [.u32 (h 0), .u32 (h 1), .u32 (h 2), .u32 (h 3), .u32 (h 4), .u32 (h 5), .u32 (h 6), .u8 (bo big), .slice A47 (nL + 1) c48, .slice ASj (nS + j) cSj, sy, dy] 121, aH 125 1 (.slice ASj (nS + j) cSj) (nS + j) (bM gsj), aq g59 [.str (a9 ((zs.drop 0).take 16)), .str (a9 ((zs.drop 16).take 16)), .u64 (n4 big (zs.drop 32)), .u64 (↑z1), .u32 (↑z2), .u32 (n4 big (zs.drop 44)), .u32 (↑z3), .u32 (↑z4), .u32 (n4 big (zs.drop 56)), .ns, .nilIface, .np] 135]) (L2 := [aq gq [.sl gd o0 sz cr, .i64 (↑(56 + 68 * j : Nat) + 68), .i64 (-1)] 190, aq g11 [.sl gd o0 sz cr, .u32 1, .u32 (↑sz), .str (a9 ((ys.drop 8).take 16)), .u64 (n4 big (ys.drop 24)), .u64 (n4 big (ys.drop 28)), .u64 (n4 big (ys.drop 32)), .u64 (n4 big (ys.drop 36)), .u32 (n4 big (ys.drop 40)), .u32 (n4 big (ys.drop 44)), .u32 (↑q8), .u32 (n4 big (ys.drop 52)), .nilIface, .np] 181, aH 123 1 (.slice A47 (nL + 1) c48) (nL + 1) (vs ++ [.iface 160 (.pt g11)]), Dj])) (Hp.re (L' := [aq fb [.u32 (h 0), .u32 (h 1), .u32 (h 2), .u32 (h 3), .u32 (h 4), .u32 (h 5), .u32 (h 6), .u8 (bo big), .slice A47 (nL + 1) c48, .slice ASj (nS + j) cSj, sy, dy] 121, aH 125 1 (.slice ASj (nS + j) cSj) (nS + j) (bM gsj), aq g59 [.str (a9 ((zs.drop 0).take 16)), .str (a9 ((zs.drop 16).take 16)), .u64 (n4 big (zs.drop 32)), .u64 (↑z1), .u32 (↑z2), .u32 (n4 big (zs.drop 44)), .u32 (↑z3), .u32 (↑z4), .u32 (n4 big (zs.drop 56)), .ns, .nilIface, .np] 135]) [0, 1, 2]).fresh (aA hrb) hw4 Hp.keep.size hA (b7 hrb H84.keep) (hG.keep H84.keep fun k hk => hk.elim) hNC hN (hr.keep0 H84.keep) hby hft rfl rfl (by omega) hc1) ?_
     rintro e w88 ⟨Aq, cq, D2, rfl, HS86, hD2⟩
     have H87 := cE (L1 := [aq fb [.u32 (h 0), .u32 (h 1), .u32 (h 2), .u32 (h 3), .u32 (h 4), .u32 (h 5), .u32 (h 6), .u8 (bo big), .slice A47 (nL + 1) c48, .slice ASj (nS + j) cSj, sy, dy] 121, aH 125 1 (.slice ASj (nS + j) cSj) (nS + j) (bM gsj), aq g59 [.str (a9 ((zs.drop 0).take 16)), .str (a9 ((zs.drop 16).take 16)), .u64 (n4 big (zs.drop 32)), .u64 (↑z1), .u32 (↑z2), .u32 (n4 big (zs.drop 44)), .u32 (↑z3), .u32 (↑z4), .u32 (n4 big (zs.drop 56)), .ns, .nilIface, .np] 135]) (L2 := [aq gq [.sl gd o0 sz cr, .i64 (↑(56 + 68 * j : Nat) + 68), .i64 (-1)] 190, aq g11 [.sl gd o0 sz cr, .u32 1, .u32 (↑sz), .str (a9 ((ys.drop 8).take 16)), .u64 (n4 big (ys.drop 24)), .u64 (n4 big (ys.drop 28)), .u64 (n4 big (ys.drop 32)), .u64 (n4 big (ys.drop 36)), .u32 (n4 big (ys.drop 40)), .u32 (n4 big (ys.drop 44)), .u32 (↑q8), .u32 (n4 big (ys.drop 52)), .nilIface, .np] 181, aH 123 1 (.slice A47 (nL + 1) c48) (nL + 1) (vs ++ [.iface 160 (.pt g11)]), Dj]) Hp HS86
     refine ⟨_, rfl, ?_⟩
     refine av (.nilIface) rfl (wn (sr (mv (.nilIface) rfl (wv rfl ((nn false bq rfl (.inl rfl))) (wn (aj rfl (cG (ao (ac (ae (mg jc rfl ?_)))))))))))
     refine wv rfl (aT (k := .i64) (c := ↑j + 1) rfl rfl (aE (by omega) (by omega))) (ai (↑j + 1) rfl (wn ?_))
     have e8 : (↑(56 + 68 * j : Nat) : Int) + 68 = ↑(56 + 68 * (j + 1)) := by omega
     rw [e8, ← hH] at H87
     have Hn : St w aW [aq gq [.sl gd o0 sz cr, .i64 (↑(56 + 68 * (j + 1))), .i64 (-1)] 190, aq g11 [.sl gd o0 sz cr, .u32 1, .u32 (↑sz), .str (a9 ((ys.drop 8).take 16)), .u64 (n4 big (ys.drop 24)), .u64 (n4 big (ys.drop 28)), .u64 (n4 big (ys.drop 32)), .u64 (n4 big (ys.drop 36)), .u32 (n4 big (ys.drop 40)), .u32 (n4 big (ys.drop 44)), .u32 (↑q8), .u32 (n4 big (ys.drop 52)), .nilIface, .np] 181, aq fb [.u32 (h 0), .u32 (h 1), .u32 (h 2), .u32 (h 3), .u32 (h 4), .u32 (h 5), .u32 (h 6), .u8 (bo big), .slice A47 (nL + 1) c48, .slice Aq (nS + (j + 1)) cq, sy, dy] 121, aH 123 1 (.slice A47 (nL + 1) c48) (nL + 1) (vs ++ [.iface 160 (.pt g11)]), aH 125 1 (.slice Aq (nS + (j + 1)) cq) (nS + (j + 1)) (bM (gsj ++ [g59])), Res.all [D2, Dj]] w88 := (H87.reAll [0, 6] [3, 4, 1, 5, 2]).re [1, 2, 3, 4, 5, 0]
     have hsec2 : bL false big xs raw q8 56 = (bL false big xs raw (q8 - (j + 1)) (56 + 68 * (j + 1))).map ((dn ++ [{ (⟨a9 ((zs.drop 0).take 16), a9 ((zs.drop 16).take 16), n4 big (zs.drop 32), z1, z2, n4 big (zs.drop 44), ↑z3, ↑z4, n4 big (zs.drop 56), []⟩ : SecD) with rels := [] }]) ++ ·) := by
      rw [hsec, show q8 - j = (q8 - (j + 1)) + 1 by omega, eV (show ¬ raw.length < 56 + 68 * j + 68 by omega) (show dt big xs (dC false big ((raw.drop (56 + 68 * j)).take 68)) = _ from by rw [← hzs, hs2]; exact hsr), show 56 + 68 * j + eQ false = 56 + 68 * (j + 1) from by show 56 + 68 * j + 68 = _; omega]; cases bL false big xs raw (q8 - (j + 1)) (56 + 68 * (j + 1)) <;> simp
     exact ⟨⟨j + 1, _, _, gsj ++ [g59], dn ++ [{ (⟨a9 ((zs.drop 0).take 16), a9 ((zs.drop 16).take 16), n4 big (zs.drop 32), z1, z2, n4 big (zs.drop 44), ↑z3, ↑z4, n4 big (zs.drop 56), []⟩ : SecD) with rels := [] }], Res.all [D2, Dj], j0, j4, j12, j13, j16, j17, j21, jq, rfl, by omega, by omega, .inr (.inl hjg), fun w h => hjD w (aV.1 h Dj (by simp)), fun w h => by have h := aV.1 h; rw [← List.append_assoc]; exact (hjS w (h Dj (by simp))).snoc (hD2 w (h D2 (by simp))), hsec2, Hn⟩, by show q8 + 1 - nv (.i64 (↑j + 1)) < q8 + 1 - nv (ρ 49); rw [jc]; simp only [nv]; omega⟩
    ·
     by_cases hc2 : z3 + z4 * 8 ≤ N
     ·
      have hsr : dt big xs (⟨a9 ((zs.drop 0).take 16), a9 ((zs.drop 16).take 16), n4 big (zs.drop 32), z1, z2, n4 big (zs.drop 44), ↑z3, ↑z4, n4 big (zs.drop 56), []⟩ : SecD) = some { (⟨a9 ((zs.drop 0).take 16), a9 ((zs.drop 16).take 16), n4 big (zs.drop 32), z1, z2, n4 big (zs.drop 44), ↑z3, ↑z4, n4 big (zs.drop 56), []⟩ : SecD) with rels := bw big z4 ((xs.drop z3).take (z4 * 8)) } := by unfold dt; rw [if_neg (show ¬ (↑z4 : Int).toNat = 0 by omega), if_pos (show (↑z3 : Int).toNat + (↑z4 : Int).toNat * 8 ≤ xs.length by rw [hr.1]; omega)]; simp only [Int.toNat_natCast]
      refine aa (pD (base := w.heap.size) (s := (⟨a9 ((zs.drop 0).take 16), a9 ((zs.drop 16).take 16), n4 big (zs.drop 32), z1, z2, n4 big (zs.drop 44), ↑z3, ↑z4, n4 big (zs.drop 56), []⟩ : SecD)) (ro := z3) (nr := z4) big _ (Hp.loc (L1 := [aq fb [.u32 (h 0), .u32 (h 1), .u32 (h 2), .u32 (h 3), .u32 (h 4), .u32 (h 5), .u32 (h 6), .u8 (bo big), .slice A47 (nL + 1) c48, .slice ASj (nS + j) cSj, sy, dy] 121, aH 125 1 (.slice ASj (nS + j) cSj) (nS + j) (bM gsj), aq g59 [.str (a9 ((zs.drop 0).take 16)), .str (a9 ((zs.drop 16).take 16)), .u64 (n4 big (zs.drop 32)), .u64 (↑z1), .u32 (↑z2), .u32 (n4 big (zs.drop 44)), .u32 (↑z3), .u32 (↑z4), .u32 (n4 big (zs.drop 56)), .ns, .nilIface, .np] 135]) (L2 := [aq gq [.sl gd o0 sz cr, .i64 (↑(56 + 68 * j : Nat) + 68), .i64 (-1)] 190, aq g11 [.sl gd o0 sz cr, .u32 1, .u32 (↑sz), .str (a9 ((ys.drop 8).take 16)), .u64 (n4 big (ys.drop 24)), .u64 (n4 big (ys.drop 28)), .u64 (n4 big (ys.drop 32)), .u64 (n4 big (ys.drop 36)), .u32 (n4 big (ys.drop 40)), .u32 (n4 big (ys.drop 44)), .u32 (↑q8), .u32 (n4 big (ys.drop 52)), .nilIface, .np] 181, aH 123 1 (.slice A47 (nL + 1) c48) (nL + 1) (vs ++ [.iface 160 (.pt g11)]), Dj])) (Hp.re (L' := [aq fb [.u32 (h 0), .u32 (h 1), .u32 (h 2), .u32 (h 3), .u32 (h 4), .u32 (h 5), .u32 (h 6), .u8 (bo big), .slice A47 (nL + 1) c48, .slice ASj (nS + j) cSj, sy, dy] 121, aH 125 1 (.slice ASj (nS + j) cSj) (nS + j) (bM gsj), aq g59 [.str (a9 ((zs.drop 0).take 16)), .str (a9 ((zs.drop 16).take 16)), .u64 (n4 big (zs.drop 32)), .u64 (↑z1), .u32 (↑z2), .u32 (n4 big (zs.drop 44)), .u32 (↑z3), .u32 (↑z4), .u32 (n4 big (zs.drop 56)), .ns, .nilIface, .np] 135]) [0, 1, 2]).fresh (aA hrb) hw4 Hp.keep.size hA (b7 hrb H84.keep) (hG.keep H84.keep fun k hk => hk.elim) hNC hN (hr.keep0 H84.keep) hby hft rfl rfl (by omega) (by omega) hc2) ?_
      rintro e w91 ⟨Aq, cq, D2, rfl, HS89, hD2⟩
      have H90 := cE (L1 := [aq fb [.u32 (h 0), .u32 (h 1), .u32 (h 2), .u32 (h 3), .u32 (h 4), .u32 (h 5), .u32 (h 6), .u8 (bo big), .slice A47 (nL + 1) c48, .slice ASj (nS + j) cSj, sy, dy] 121, aH 125 1 (.slice ASj (nS + j) cSj) (nS + j) (bM gsj), aq g59 [.str (a9 ((zs.drop 0).take 16)), .str (a9 ((zs.drop 16).take 16)), .u64 (n4 big (zs.drop 32)), .u64 (↑z1), .u32 (↑z2), .u32 (n4 big (zs.drop 44)), .u32 (↑z3), .u32 (↑z4), .u32 (n4 big (zs.drop 56)), .ns, .nilIface, .np] 135]) (L2 := [aq gq [.sl gd o0 sz cr, .i64 (↑(56 + 68 * j : Nat) + 68), .i64 (-1)] 190, aq g11 [.sl gd o0 sz cr, .u32 1, .u32 (↑sz), .str (a9 ((ys.drop 8).take 16)), .u64 (n4 big (ys.drop 24)), .u64 (n4 big (ys.drop 28)), .u64 (n4 big (ys.drop 32)), .u64 (n4 big (ys.drop 36)), .u32 (n4 big (ys.drop 40)), .u32 (n4 big (ys.drop 44)), .u32 (↑q8), .u32 (n4 big (ys.drop 52)), .nilIface, .np] 181, aH 123 1 (.slice A47 (nL + 1) c48) (nL + 1) (vs ++ [.iface 160 (.pt g11)]), Dj]) Hp HS89
      refine ⟨_, rfl, ?_⟩
      refine av (.nilIface) rfl (wn (sr (mv (.nilIface) rfl (wv rfl ((nn false bq rfl (.inl rfl))) (wn (aj rfl (cG (ao (ac (ae (mg jc rfl ?_)))))))))))
      refine wv rfl (aT (k := .i64) (c := ↑j + 1) rfl rfl (aE (by omega) (by omega))) (ai (↑j + 1) rfl (wn ?_))
      have e8 : (↑(56 + 68 * j : Nat) : Int) + 68 = ↑(56 + 68 * (j + 1)) := by omega
      rw [e8, ← hH] at H90
      have Hn : St w aW [aq gq [.sl gd o0 sz cr, .i64 (↑(56 + 68 * (j + 1))), .i64 (-1)] 190, aq g11 [.sl gd o0 sz cr, .u32 1, .u32 (↑sz), .str (a9 ((ys.drop 8).take 16)), .u64 (n4 big (ys.drop 24)), .u64 (n4 big (ys.drop 28)), .u64 (n4 big (ys.drop 32)), .u64 (n4 big (ys.drop 36)), .u32 (n4 big (ys.drop 40)), .u32 (n4 big (ys.drop 44)), .u32 (↑q8), .u32 (n4 big (ys.drop 52)), .nilIface, .np] 181, aq fb [.u32 (h 0), .u32 (h 1), .u32 (h 2), .u32 (h 3), .u32 (h 4), .u32 (h 5), .u32 (h 6), .u8 (bo big), .slice A47 (nL + 1) c48, .slice Aq (nS + (j + 1)) cq, sy, dy] 121, aH 123 1 (.slice A47 (nL + 1) c48) (nL + 1) (vs ++ [.iface 160 (.pt g11)]), aH 125 1 (.slice Aq (nS + (j + 1)) cq) (nS + (j + 1)) (bM (gsj ++ [g59])), Res.all [D2, Dj]] w91 := (H90.reAll [0, 6] [3, 4, 1, 5, 2]).re [1, 2, 3, 4, 5, 0]
      have hsec2 : bL false big xs raw q8 56 = (bL false big xs raw (q8 - (j + 1)) (56 + 68 * (j + 1))).map ((dn ++ [{ (⟨a9 ((zs.drop 0).take 16), a9 ((zs.drop 16).take 16), n4 big (zs.drop 32), z1, z2, n4 big (zs.drop 44), ↑z3, ↑z4, n4 big (zs.drop 56), []⟩ : SecD) with rels := bw big z4 ((xs.drop z3).take (z4 * 8)) }]) ++ ·) := by
       rw [hsec, show q8 - j = (q8 - (j + 1)) + 1 by omega, eV (show ¬ raw.length < 56 + 68 * j + 68 by omega) (show dt big xs (dC false big ((raw.drop (56 + 68 * j)).take 68)) = _ from by rw [← hzs, hs2]; exact hsr), show 56 + 68 * j + eQ false = 56 + 68 * (j + 1) from by show 56 + 68 * j + 68 = _; omega]; cases bL false big xs raw (q8 - (j + 1)) (56 + 68 * (j + 1)) <;> simp
      exact ⟨⟨j + 1, _, _, gsj ++ [g59], dn ++ [{ (⟨a9 ((zs.drop 0).take 16), a9 ((zs.drop 16).take 16), n4 big (zs.drop 32), z1, z2, n4 big (zs.drop 44), ↑z3, ↑z4, n4 big (zs.drop 56), []⟩ : SecD) with rels := bw big z4 ((xs.drop z3).take (z4 * 8)) }], Res.all [D2, Dj], j0, j4, j12, j13, j16, j17, j21, jq, rfl, by omega, by omega, .inr (.inl hjg), fun w h => hjD w (aV.1 h Dj (by simp)), fun w h => by have h := aV.1 h; rw [← List.append_assoc]; exact (hjS w (h Dj (by simp))).snoc (hD2 w (h D2 (by simp))), hsec2, Hn⟩, by show q8 + 1 - nv (.i64 (↑j + 1)) < q8 + 1 - nv (ρ 49); rw [jc]; simp only [nv]; omega⟩
     ·
      have hsr : dt big xs (⟨a9 ((zs.drop 0).take 16), a9 ((zs.drop 16).take 16), n4 big (zs.drop 32), z1, z2, n4 big (zs.drop 44), ↑z3, ↑z4, n4 big (zs.drop 56), []⟩ : SecD) = none := by unfold dt; rw [if_neg (show ¬ (↑z4 : Int).toNat = 0 by omega), if_neg (show ¬ (↑z3 : Int).toNat + (↑z4 : Int).toNat * 8 ≤ xs.length by rw [hr.1]; omega)]
      refine aa (nO (base := w.heap.size) (s := (⟨a9 ((zs.drop 0).take 16), a9 ((zs.drop 16).take 16), n4 big (zs.drop 32), z1, z2, n4 big (zs.drop 44), ↑z3, ↑z4, n4 big (zs.drop 56), []⟩ : SecD)) (ro := z3) (nr := z4) big _ (Hp.loc (L1 := [aq fb [.u32 (h 0), .u32 (h 1), .u32 (h 2), .u32 (h 3), .u32 (h 4), .u32 (h 5), .u32 (h 6), .u8 (bo big), .slice A47 (nL + 1) c48, .slice ASj (nS + j) cSj, sy, dy] 121, aH 125 1 (.slice ASj (nS + j) cSj) (nS + j) (bM gsj), aq g59 [.str (a9 ((zs.drop 0).take 16)), .str (a9 ((zs.drop 16).take 16)), .u64 (n4 big (zs.drop 32)), .u64 (↑z1), .u32 (↑z2), .u32 (n4 big (zs.drop 44)), .u32 (↑z3), .u32 (↑z4), .u32 (n4 big (zs.drop 56)), .ns, .nilIface, .np] 135]) (L2 := [aq gq [.sl gd o0 sz cr, .i64 (↑(56 + 68 * j : Nat) + 68), .i64 (-1)] 190, aq g11 [.sl gd o0 sz cr, .u32 1, .u32 (↑sz), .str (a9 ((ys.drop 8).take 16)), .u64 (n4 big (ys.drop 24)), .u64 (n4 big (ys.drop 28)), .u64 (n4 big (ys.drop 32)), .u64 (n4 big (ys.drop 36)), .u32 (n4 big (ys.drop 40)), .u32 (n4 big (ys.drop 44)), .u32 (↑q8), .u32 (n4 big (ys.drop 52)), .nilIface, .np] 181, aH 123 1 (.slice A47 (nL + 1) c48) (nL + 1) (vs ++ [.iface 160 (.pt g11)]), Dj])) (Hp.re (L' := [aq fb [.u32 (h 0), .u32 (h 1), .u32 (h 2), .u32 (h 3), .u32 (h 4), .u32 (h 5), .u32 (h 6), .u8 (bo big), .slice A47 (nL + 1) c48, .slice ASj (nS + j) cSj, sy, dy] 121, aH 125 1 (.slice ASj (nS + j) cSj) (nS + j) (bM gsj), aq g59 [.str (a9 ((zs.drop 0).take 16)), .str (a9 ((zs.drop 16).take 16)), .u64 (n4 big (zs.drop 32)), .u64 (↑z1), .u32 (↑z2), .u32 (n4 big (zs.drop 44)), .u32 (↑z3), .u32 (↑z4), .u32 (n4 big (zs.drop 56)), .ns, .nilIface, .np] 135]) [0, 1, 2]).fresh (aA hrb) hw4 Hp.keep.size hA (b7 hrb H84.keep) (hG.keep H84.keep fun k hk => hk.elim) hNC hN (hr.keep0 H84.keep) hby hft rfl rfl (by omega) (by omega) (by omega)) ?_
      rintro e w94 ⟨T, ev, rfl, HS92⟩
      have H93 := cE (L1 := [aq fb [.u32 (h 0), .u32 (h 1), .u32 (h 2), .u32 (h 3), .u32 (h 4), .u32 (h 5), .u32 (h 6), .u8 (bo big), .slice A47 (nL + 1) c48, .slice ASj (nS + j) cSj, sy, dy] 121, aH 125 1 (.slice ASj (nS + j) cSj) (nS + j) (bM gsj), aq g59 [.str (a9 ((zs.drop 0).take 16)), .str (a9 ((zs.drop 16).take 16)), .u64 (n4 big (zs.drop 32)), .u64 (↑z1), .u32 (↑z2), .u32 (n4 big (zs.drop 44)), .u32 (↑z3), .u32 (↑z4), .u32 (n4 big (zs.drop 56)), .ns, .nilIface, .np] 135]) (L2 := [aq gq [.sl gd o0 sz cr, .i64 (↑(56 + 68 * j : Nat) + 68), .i64 (-1)] 190, aq g11 [.sl gd o0 sz cr, .u32 1, .u32 (↑sz), .str (a9 ((ys.drop 8).take 16)), .u64 (n4 big (ys.drop 24)), .u64 (n4 big (ys.drop 28)), .u64 (n4 big (ys.drop 32)), .u64 (n4 big (ys.drop 36)), .u32 (n4 big (ys.drop 40)), .u32 (n4 big (ys.drop 44)), .u32 (↑q8), .u32 (n4 big (ys.drop 52)), .nilIface, .np] 181, aH 123 1 (.slice A47 (nL + 1) c48) (nL + 1) (vs ++ [.iface 160 (.pt g11)]), Dj]) Hp HS92
      refine ⟨_, rfl, ?_⟩
      refine av (.iface T ev) rfl (wn (sr (mv (.iface T ev) rfl (wv rfl ((nn true bq rfl (.inr ⟨_, _, rfl⟩))) (wn (ay rfl (sr (mv (.iface T ev) rfl (av (.np) rfl (av (.iface T ev) rfl (wn ?_)))))))))))
      refine aQ (aB (ax (ax (aB (aB (ax ?_))))))
      have hst : ca false big xs raw s = none := by have e0 : bL false big xs raw q8 56 = none := (by rw [hsec, show q8 - j = (q8 - (j + 1)) + 1 by omega, iJ (show ¬ raw.length < 56 + 68 * j + 68 by omega) (show dt big xs (dC false big ((raw.drop (56 + 68 * j)).take 68)) = _ from by rw [← hzs, hs2]; exact hsr)]; rfl); exact eU hys hns e0
      exact hR hst _ _ _ _ rfl rfl H93.keep
   ·
    refine ae (mg jq rfl (wv rfl (aF (v := .pt gq) dW rfl) (mg j16 rfl (wE [.pt g52, .iface 109 (.pt gq), .u8 (bo big)] CK60 rfl rfl ?_))))
    have hne96 := H54.blk_ne (i := 0) (j := 1) rfl rfl (by decide)
    have hge1 := H54.ge (i := 1) rfl
    have hge2 := H54.ge (i := 0) rfl
    have hws := H54.keep.size
    refine aa (jr (ys := []) (i := 56 + 68 * j) (A := some ⟨gd, o0, none⟩) (xs := raw) big _ (H54.g 0 rfl) (H54.g 1 rfl) (hG.keep H54.keep fun k hk => hk.elim) hscr (by omega) ((fun w h => hRaw w (hjD w h)) _ (H54.g 6 rfl)) hrby (fun a ha => by injection ha with ha; subst ha; exact ⟨Dj.live _ _ (H54.g 6 rfl) hjg, H54.sepD (i := 1) (j := 6) rfl rfl (by decide) hjg, H54.sepD (i := 0) (j := 6) rfl rfl (by decide) hjg⟩) (by omega) (by omega) (by omega) (by omega) (by omega)) ?_
    rintro e w97 ⟨T, ev, rfl, HS95⟩
    have H98 := H54.ky 0 0 rfl rfl HS95 (fun _ h => h)
    refine ⟨_, rfl, ?_⟩
    refine av (.iface T ev) rfl (wn (sr (mv (.iface T ev) rfl (wv rfl ((nn true bq rfl (.inr ⟨_, _, rfl⟩))) (wn (ay rfl (sr (mv (.iface T ev) rfl (av (.np) rfl (av (.iface T ev) rfl (wn ?_)))))))))))
    refine rq (aB (ax (ax (aB (aB (ax ?_))))))
    have hst : ca false big xs raw s = none := by have e0 : bL false big xs raw q8 56 = none := (by rw [hsec, show q8 - j = (q8 - (j + 1)) + 1 by omega, fY (show raw.length < 56 + 68 * j + 68 by omega)]; rfl); exact eU hys hns e0
    exact hR hst _ _ _ _ rfl rfl H98.keep
  ·
   simp only [bx] at hb51
   refine bF (a8 (a8 (aY (ao (ac (ad ?_))))))
   have hjn : j = q8 := by omega
   have e0 : bL false big xs raw q8 56 = some dn := by rw [hsec, show q8 - j = 0 by omega]; simp [bL]
   have hDj : NFD Dj.φ rb { s with secs := s.secs ++ dn } gd o m ds vs gsj sy dy := ⟨fun w h => hD.dat w (hjD w h), fun w h => hD.ld w (hjD w h), hjS, hD.sy.mono hjD, hD.dy.mono hjD⟩
   refine ae (mg j21 rfl (wv rfl ((show Yv _ _ _ _ (.bool true) _ from cJ (p := (some ⟨g11, 0, none⟩)) k6 rfl)) (wn (ay rfl (ad (sr (mg j21 rfl (wc rfl (wf bi rfl (wv rfl (ab fC rfl) (wv rfl (H3.ld 1 rfl aM rfl (.u64 (n4 big (ys.drop 32))) rfl) ?_)))))))))))
   refine wv rfl (an cb f9 rfl (aE (by omega) (by omega))) (wv rfl (aZ rfl rfl (decide_eq_false (by omega))) (wn (aj rfl (wk (ad (sr (mg j21 rfl (wc rfl (wf bi rfl (wv rfl (ab fB rfl) (wv rfl (H3.ld 1 rfl aM rfl (.u64 (n4 big (ys.drop 36))) rfl) ?_)))))))))))
   refine wv rfl (an cb f9 rfl (aE (by omega) (by omega))) (wv rfl (aZ rfl rfl (decide_eq_false (by omega))) (wn (aj rfl (wk (ad ?_)))))
   have H99 := H3.drew
   refine aO MX (fun w' => w'.cell? ⟨g11, 6, none⟩ = some (.u64 (n4 big (ys.drop 32))) ∧ w'.cell? ⟨g11, 7, none⟩ = some (.u64 (n4 big (ys.drop 36)))) (tr 0 14 (Pl.run 14 (Pl.take 15 (Pl.take 16 (Pl.run 17 Pl.done))))) (by kernel_rfl) (⟨H99.c 1 6 rfl rfl, H99.c 1 7 rfl rfl⟩) (qm (.pt g11) rfl j21 (qm (.iface 109 (.pt rb)) rfl j0 (qm (.pt g11) rfl j21 (qy rfl (ag rfl) (qy rfl (ab (o := 0) bi rfl) (qy rfl (ab (o := 1) fC rfl) (qh rfl (fun hS => ah aM rfl hS.1) (qy rfl (an (c := n4 big (ys.drop 32)) cb f9 rfl (aE (by omega) (by omega))) (qm (.pt g11) rfl j21 (qy rfl (ag rfl) (qy rfl (ab (o := 0) bi rfl) ?_)))))))))))
   refine qy rfl (ab (o := 1) fB rfl) (qh rfl (fun hS => ah aM rfl hS.2) (qy rfl (an (c := n4 big (ys.drop 36)) cb f9 rfl (aE (by omega) (by omega))) (qr rfl (ec sE (args := [.iface 109 (.pt rb), .i64 (n4 big (ys.drop 32)), .i64 (n4 big (ys.drop 36))]) rfl (aa (vH _ (by omega) (by omega) (by omega) (by omega)) ?_)))))
   rintro e w101 ⟨gs2, rs2, rfl, HS100⟩
   have H102 := H99.cal0 HS100
   refine ⟨_, rfl, ?_⟩
   refine ⟨⟨H102.c 2 6 rfl rfl, H102.c 2 7 rfl rfl⟩, fun _ => trivial, ?_⟩
   refine qy rfl (ag rfl) (qy rfl (ab (o := 0) kN rfl) (dx rfl (es H102 2 13 (.pt gs2) rfl fu (fun w104 H103 =>  ?_))))
   refine ⟨⟨H103.c 2 6 rfl rfl, H103.c 2 7 rfl rfl⟩, fun _ => trivial, ?_⟩
   refine pn (ae (mg j21 rfl (mg j21 rfl (wc rfl (wf kN rfl (wv rfl (H103.ld 2 rfl fu rfl (.pt gs2) rfl) (wv rfl (aF (v := .pt gs2) jF rfl) (wc rfl (wf qD rfl (ws (es H103 2 12 (.iface 133 (.pt gs2)) rfl gJ (fun w106 H105 =>  ?_))))))))))))
   refine bl ?_
   have hl : ([1, ↑sz, n4 big (ys.drop 24), n4 big (ys.drop 28), n4 big (ys.drop 32), n4 big (ys.drop 36), n4 big (ys.drop 40), n4 big (ys.drop 44), ↑q8, n4 big (ys.drop 52)] : List Int) = dk false big ys := by show _ = [n4 big (ys.drop 0), n4 big (ys.drop 4), n4 big (ys.drop 24), n4 big (ys.drop 28), n4 big (ys.drop 32), n4 big (ys.drop 36), n4 big (ys.drop 40), n4 big (ys.drop 44), n4 big (ys.drop 48), n4 big (ys.drop 52)]; rw [hc0, hc4, hq8]
   have hst : ca false big xs raw s = some { s with loads := s.loads ++ [⟨1, raw, a9 ((ys.drop 8).take 16), dk false big ys⟩], secs := s.secs ++ dn } := gY (show ¬ raw.length < 56 by omega) hys hns e0 (by show ¬ (_ ≤ n4 big (ys.drop 32) ∨ _ ≤ n4 big (ys.drop 36)); omega)
   have Hn : St w aW [aq fb [.u32 (h 0), .u32 (h 1), .u32 (h 2), .u32 (h 3), .u32 (h 4), .u32 (h 5), .u32 (h 6), .u8 (bo big), .slice A47 (nL + 1) c48, .slice ASj (nS + j) cSj, sy, dy] 121, aH 123 1 (.slice A47 (nL + 1) c48) (nL + 1) (vs ++ [.iface 160 (.pt g11)]), aH 125 1 (.slice ASj (nS + j) cSj) (nS + j) (bM gsj), Res.all [aq g11 [.sl gd o0 sz cr, .u32 1, .u32 (↑sz), .str (a9 ((ys.drop 8).take 16)), .u64 (n4 big (ys.drop 24)), .u64 (n4 big (ys.drop 28)), .u64 (n4 big (ys.drop 32)), .u64 (n4 big (ys.drop 36)), .u32 (n4 big (ys.drop 40)), .u32 (n4 big (ys.drop 44)), .u32 (↑q8), .u32 (n4 big (ys.drop 52)), .iface 133 (.pt gs2), .pt gs2] 181, Dj]] w106 := (H105.reAll [2, 6] [3, 4, 5]).re [1, 2, 3, 0]
   have hsub : ∀ w, (Res.all [aq g11 [.sl gd o0 sz cr, .u32 1, .u32 (↑sz), .str (a9 ((ys.drop 8).take 16)), .u64 (n4 big (ys.drop 24)), .u64 (n4 big (ys.drop 28)), .u64 (n4 big (ys.drop 32)), .u64 (n4 big (ys.drop 36)), .u32 (n4 big (ys.drop 40)), .u32 (n4 big (ys.drop 44)), .u32 (↑q8), .u32 (n4 big (ys.drop 52)), .iface 133 (.pt gs2), .pt gs2] 181, Dj]).φ w → Dj.φ w := fun w hh => aV.1 hh Dj (by simp)
   have hDn : NFD (Res.all [aq g11 [.sl gd o0 sz cr, .u32 1, .u32 (↑sz), .str (a9 ((ys.drop 8).take 16)), .u64 (n4 big (ys.drop 24)), .u64 (n4 big (ys.drop 28)), .u64 (n4 big (ys.drop 32)), .u64 (n4 big (ys.drop 36)), .u32 (n4 big (ys.drop 40)), .u32 (n4 big (ys.drop 44)), .u32 (↑q8), .u32 (n4 big (ys.drop 52)), .iface 133 (.pt gs2), .pt gs2] 181, Dj]).φ rb ({ s with loads := s.loads ++ [⟨1, raw, a9 ((ys.drop 8).take 16), dk false big ys⟩], secs := s.secs ++ dn }) gd o m ds (vs ++ [.iface 160 (.pt g11)]) gsj (sy) (dy) := ⟨fun w hh => hDj.dat w (hsub w hh), fun w hh => (hDj.ld w (hsub w hh)).snoc (by have hh := aV.1 hh; exact .inr (.inl ⟨_, _, _, raw, g11, _, _, _, fun k => ([1, ↑sz, n4 big (ys.drop 24), n4 big (ys.drop 28), n4 big (ys.drop 32), n4 big (ys.drop 36), n4 big (ys.drop 40), n4 big (ys.drop 44), ↑q8, n4 big (ys.drop 52)] : List Int).getD k 0, rfl, ly (by rw [hl]; exact sP hbys) (by decide), hh (aq g11 [.sl gd o0 sz cr, .u32 1, .u32 (↑sz), .str (a9 ((ys.drop 8).take 16)), .u64 (n4 big (ys.drop 24)), .u64 (n4 big (ys.drop 28)), .u64 (n4 big (ys.drop 32)), .u64 (n4 big (ys.drop 36)), .u32 (n4 big (ys.drop 40)), .u32 (n4 big (ys.drop 44)), .u32 (↑q8), .u32 (n4 big (ys.drop 52)), .iface 133 (.pt gs2), .pt gs2] 181) (by simp), (fun w h => hRaw w (hjD w h)) _ (hsub _ (aV.2 hh)), by omega, congrArg (LoadD.mk 1 raw _) hl.symm⟩)), fun w hh => hDj.sc w (hsub w hh), hDj.sy.mono hsub, hDj.dy.mono hsub⟩
   exact hQ _ _ _ hst ⟨j0, j4, ⟨_, j12, hof0, hof1⟩, j13, j16, j17⟩ ⟨Res.all [aq g11 [.sl gd o0 sz cr, .u32 1, .u32 (↑sz), .str (a9 ((ys.drop 8).take 16)), .u64 (n4 big (ys.drop 24)), .u64 (n4 big (ys.drop 28)), .u64 (n4 big (ys.drop 32)), .u64 (n4 big (ys.drop 36)), .u32 (n4 big (ys.drop 40)), .u32 (n4 big (ys.drop 44)), .u32 (↑q8), .u32 (n4 big (ys.drop 52)), .iface 133 (.pt gs2), .pt gs2] 181, Dj], _, _, _, _, _, _, vs ++ [.iface 160 (.pt g11)], gsj, _, _, .inr (.inl hjg), by omega, by omega, hDn, Hn⟩
 ·
  refine ae (mp gq 0 rfl (wv rfl (aF (v := .pt gq) dW rfl) (mg h16 rfl (wE [.pt g1, .iface 109 (.pt gq), .u8 (bo big)] CK59 rfl rfl ?_))))
  have hne108 := H6.blk_ne (i := 0) (j := 1) rfl rfl (by decide)
  have hge1 := H6.ge (i := 0) rfl
  have hge2 := H6.ge (i := 1) rfl
  have hws := H6.keep.size
  refine aa (jo (ys := []) (i := 0) (A := some ⟨gd, o0, none⟩) (xs := raw) big _ (H6.g 1 rfl) (H6.g 0 rfl) (hG.keep H6.keep fun k hk => hk.elim) hscr (by omega) (hRaw _ (H6.g 5 rfl)) hrby (fun a ha => by injection ha with ha; subst ha; exact ⟨D.live _ _ (H6.g 5 rfl) hDg, H6.sepD (i := 0) (j := 5) rfl rfl (by decide) hDg, H6.sepD (i := 1) (j := 5) rfl rfl (by decide) hDg⟩) (by omega) (by omega) (by omega) (by omega) (by omega)) ?_
  rintro e w109 ⟨T, ev, rfl, HS107⟩
  have H110 := H6.ky 1 0 rfl rfl HS107 (fun _ h => h)
  refine ⟨_, rfl, ?_⟩
  refine av (.iface T ev) rfl (wn (sr (mv (.iface T ev) rfl (wv rfl ((nn true bq rfl (.inr ⟨_, _, rfl⟩))) (wn (ay rfl (sr (mv (.iface T ev) rfl (av (.np) rfl (av (.iface T ev) rfl (wn ?_)))))))))))
  refine rq (aB (ax ?_))
  have hst : ca false big xs raw s = none := if_pos (show raw.length < 56 by omega)
  exact hR hst _ _ _ _ rfl rfl H110.keep
theorem sV {rb N C fb gd o0 o m sz cr nL cL nS cS : Nat} {A AL AS : Option Addr} {i0 p0 of ii : Int} {xs raw ds : List Int} {a0 a1 : Addr} {h : Nat → Int} {vs : List Value} {gs : List Nat} {sy dy : Value} {D : Res} {s : PSt} (big : Bool) (w w1 : World) (hrb : (aq rb [.slice A N C, .i64 i0, .i64 p0] 190).φ w) (hG : Glob 224 w a0 a1) (hNC : N ≤ C) (hN : N < 10485760) (hr : RI .u8 w A N xs) (hby : Byt xs) (hA : ∀ a, A = some a → a.block < w.heap.size) (hw4 : 4 ≤ w.heap.size)
 (hDg : D.F gd) (hnL : nL + sz + m ≤ 10485760) (hnS : nS + sz + m ≤ 10485760) (hD : NFD D.φ rb s gd o m ds vs gs sy dy) (hRaw : ∀ w, D.φ w → RI .u8 w (some ⟨gd, o0, none⟩) sz raw) (hrby : Byt raw) (hrl : raw.length = sz) (hscr : sz ≤ cr) (hsz8 : 8 ≤ sz) (hof0 : 0 ≤ of) (hof1 : of + ↑m ≤ 10485800)
 (H1 : St w aW (sY fb big h AL AS nL cL nS cS vs gs sy dy D) w1) {ρ : cF} (h0 : ρ 0 = .iface 109 (.pt rb)) (h4 : ρ 4 = .pt fb) (h12 : ρ 12 = .i64 of) (h13 : ρ 13 = .sl gd o m m) (h16 : ρ 16 = .u8 (bo big)) (h17 : ρ 17 = .u32 ii) (h18 : ρ 18 = .u32 25) (h19 : ρ 19 = .u32 ↑sz) (h20 : ρ 20 = .sl gd o0 sz cr) (h21 : ρ 21 = .np) (hraw0 : n4 big raw = 25) (hraw4 : n4 big (raw.drop 4) = ↑sz)
 {Q : QE} (hQ : ∀ s' ρ' w', ca true big xs raw s = some s' → Fr ρ' rb fb gd o m big ii → Mid w rb fb big h gd o m ds s' w' → Q .normal ρ' w') (hR : ca true big xs raw s = none → ∀ ρ' w' T v, ρ' 2 = .np → ρ' 3 = .iface T v → Keep w aW w' → Q .ret ρ' w') :
 W Tryd.prog 931 ((d7 3 (Tryd.f41.body.getD .skip)).getD .skip) Q ρ w1 := by
 refine nZ rfl ?_
 have H0 : St w aW [aq fb [.u32 (h 0), .u32 (h 1), .u32 (h 2), .u32 (h 3), .u32 (h 4), .u32 (h 5), .u32 (h 6), .u8 (bo big), .slice AL nL cL, .slice AS nS cS, sy, dy] 121, aH 123 1 (.slice AL nL cL) nL vs, aH 125 1 (.slice AS nS cS) nS (bM gs), D] w1 := H1
 refine ad (sr (mg h18 rfl (wn (aC (sr (wv rfl (aL (c := false) rfl rfl rfl) (av (.bool false) rfl (wn (aj rfl (sr (wv rfl (aL (c := false) rfl rfl rfl) ?_)))))))))))
 refine av (.bool false) rfl (wn (aj rfl (sr (wv rfl (aL (c := false) rfl rfl rfl) (av (.bool false) rfl (wn (aj rfl (sr (wv rfl (aL (c := false) rfl rfl rfl) (av (.bool false) rfl (wn ?_)))))))))))
 refine aj rfl (sr (wv rfl (aL (c := false) rfl rfl rfl) (av (.bool false) rfl (wn (aj rfl (sr (wv rfl (aL (c := true) rfl rfl rfl) (av (.bool true) rfl (wn (ay rfl (sr ?_)))))))))))
 refine wm rfl (aK H0 t6 (fun g1 w2 hgg1 H3 =>  wn (sr (mg h20 rfl (wE [.sl gd o0 sz cr] lN rfl rfl (aa (cH (some ⟨gd, o0, none⟩) sz cr _) ?_))))))
 rintro e w5 ⟨gq, rfl, hgq, HS4⟩
 have H6 := H3.cal0 HS4
 refine ⟨_, rfl, ?_⟩
 refine ap gq 0 rfl (wn (ad (ad ?_)))
 by_cases hfit : 0 + 72 ≤ sz
 ·
  obtain ⟨ys, hys⟩ : ∃ q, q = (raw.drop (0)).take 72 := ⟨_, rfl⟩
  have hbys : Byt ys := by rw [hys]; exact (hrby.drop _).take _
  have hlys : ys.length = 72 := by rw [hys, List.length_take, List.length_drop, hrl]; omega
  obtain ⟨q8, hq8⟩ : ∃ q : Nat, (q : Int) = n4 big (ys.drop 64) := ⟨(n4 big (ys.drop 64)).toNat, Int.toNat_of_nonneg (aR big (hbys.drop _)).1⟩
  have hltq8 : (q8 : Int) < 4294967296 := by rw [hq8]; exact (aR big (hbys.drop _)).2
  have hns : ((dk true big ys).getD 8 0).toNat = q8 := by show (n4 big (ys.drop 64)).toNat = q8; omega
  have hc0 : n4 big (ys.drop 0) = 25 := by rw [hys, bK (by omega)]; exact hraw0
  have hc4 : n4 big (ys.drop 4) = ↑sz := by rw [hys, bK (by omega)]; exact hraw4
  have := ln big (hbys.drop 40)
  have := ln big (hbys.drop 48)
  refine ae (mp gq 0 rfl (wv rfl (aF (v := .pt gq) dW rfl) (mg h16 rfl (wE [.pt g1, .iface 109 (.pt gq), .u8 (bo big)] CK62 rfl rfl ?_))))
  have hne8 := H6.blk_ne (i := 0) (j := 1) rfl rfl (by decide)
  have hge1 := H6.ge (i := 0) rfl
  have hge2 := H6.ge (i := 1) rfl
  have hws := H6.keep.size
  refine aa (jH (ys := ys) (i := 0) (A := some ⟨gd, o0, none⟩) (xs := raw) big _ (H6.g 1 rfl) (H6.g 0 rfl) (hG.keep H6.keep fun k hk => hk.elim) hscr (by omega) (hRaw _ (H6.g 5 rfl)) hrby (fun a ha => by injection ha with ha; subst ha; exact ⟨D.live _ _ (H6.g 5 rfl) hDg, H6.sepD (i := 0) (j := 5) rfl rfl (by decide) hDg, H6.sepD (i := 1) (j := 5) rfl rfl (by decide) hDg⟩) (by omega) (by omega) (by omega) (by omega) (by omega) hys) ?_
  rintro e w9 ⟨rfl, HS7⟩
  rw [← hq8] at HS7
  have H10 := H6.ky 1 0 rfl rfl HS7 (fun _ h => h)
  refine ⟨_, rfl, ?_⟩
  refine av (.nilIface) rfl (wn (sr (mv (.nilIface) rfl (wv rfl ((nn false bq rfl (.inl rfl))) (wn (aj rfl (wk (sr (wm rfl (aK H10 oo (fun g11 w12 hgg11 H13 =>  ap g11 0 rfl ?_)))))))))))
  refine wn (sr (mp g11 0 rfl (mg h20 rfl (wc rfl (wf qE rfl (ws (es H13 0 0 (.sl gd o0 sz cr) rfl fq (fun w15 H14 =>  ?_))))))))
  refine wn (sr (mp g11 0 rfl (mg h18 rfl (wc rfl (wf bi rfl (wv rfl (ab na rfl) (ws (es H14 0 1 (.u32 25) rfl fP (fun w17 H16 =>  ?_)))))))))
  refine wn (sr (mp g11 0 rfl (mg h19 rfl (wc rfl (wf bi rfl (wv rfl (ab mZ rfl) (ws (es H16 0 2 (.u32 (↑sz)) rfl ar (fun w19 H18 =>  ?_)))))))))
  refine wn (sr (mp g11 0 rfl (wf qp rfl (wv rfl ((bu (o := 2) (l := 0) (h := 16) i2 rfl (bg (i := 0) rfl (by omega) rfl) (bh _ _) (by omega) (by omega) : Yv _ _ _ _ (.sl g1 2 16 16) _)) (wE [.sl g1 2 16 16] lY rfl rfl (aa (dE _ (eE (ys := ys) (k := 8) (m := 16) (H18.g 1 rfl) rfl (by omega)) ((hbys.drop _).take _) (by omega) (by omega)) ?_))))))
  rintro e w21 ⟨rfl, HS20⟩
  have H22 := H18.cal0 HS20
  refine ⟨_, rfl, ?_⟩
  refine wc rfl (wf bi rfl (wv rfl (ab mY rfl) (ws (es H22 0 3 (.str (a9 ((ys.drop 8).take 16))) rfl d9 (fun w24 H23 =>  ?_)))))
  refine wn (sr (mp g11 0 rfl (wf qo rfl (wv rfl (H23.ld 1 rfl aM rfl (.u64 (n8 big (ys.drop 24))) rfl) (wc rfl (wf bi rfl (wv rfl (ab mX rfl) (ws (es H23 0 4 (.u64 (n8 big (ys.drop 24))) rfl aM (fun w26 H25 =>  ?_))))))))))
  refine wn (sr (mp g11 0 rfl (wf qn rfl (wv rfl (H25.ld 1 rfl aM rfl (.u64 (n8 big (ys.drop 32))) rfl) (wc rfl (wf bi rfl (wv rfl (ab mW rfl) (ws (es H25 0 5 (.u64 (n8 big (ys.drop 32))) rfl aM (fun w28 H27 =>  ?_))))))))))
  refine wn (sr (mp g11 0 rfl (wf ql rfl (wv rfl (H27.ld 1 rfl aM rfl (.u64 (n8 big (ys.drop 40))) rfl) (wc rfl (wf bi rfl (wv rfl (ab fC rfl) (ws (es H27 0 6 (.u64 (n8 big (ys.drop 40))) rfl aM (fun w30 H29 =>  ?_))))))))))
  refine wn (sr (mp g11 0 rfl (wf qk rfl (wv rfl (H29.ld 1 rfl aM rfl (.u64 (n8 big (ys.drop 48))) rfl) (wc rfl (wf bi rfl (wv rfl (ab fB rfl) (ws (es H29 0 7 (.u64 (n8 big (ys.drop 48))) rfl aM (fun w32 H31 =>  ?_))))))))))
  refine wn (sr (mp g11 0 rfl (wf qj rfl (wv rfl (H31.ld 1 rfl ar rfl (.u32 (n4 big (ys.drop 56))) rfl) (wc rfl (wf bi rfl (wv rfl (ab mV rfl) (ws (es H31 0 8 (.u32 (n4 big (ys.drop 56))) rfl ar (fun w34 H33 =>  ?_))))))))))
  refine wn (sr (mp g11 0 rfl (wf qi rfl (wv rfl (H33.ld 1 rfl ar rfl (.u32 (n4 big (ys.drop 60))) rfl) (wc rfl (wf bi rfl (wv rfl (ab mU rfl) (ws (es H33 0 9 (.u32 (n4 big (ys.drop 60))) rfl ar (fun w36 H35 =>  ?_))))))))))
  refine wn (sr (mp g11 0 rfl (wf qg rfl (wv rfl (H35.ld 1 rfl ar rfl (.u32 (↑q8)) rfl) (wc rfl (wf bi rfl (wv rfl (ab jB rfl) (ws (es H35 0 10 (.u32 (↑q8)) rfl ar (fun w38 H37 =>  ?_))))))))))
  refine wn (sr (mp g11 0 rfl (wf oy rfl (wv rfl (H37.ld 1 rfl ar rfl (.u32 (n4 big (ys.drop 68))) rfl) (wc rfl (wf bi rfl (wv rfl (ab lE rfl) (ws (es H37 0 11 (.u32 (n4 big (ys.drop 68))) rfl ar (fun w40 H39 =>  ?_))))))))))
  refine wn (sr (mg h4 rfl (mg h4 rfl (wc rfl (wf cT rfl (wv rfl (H39.ld 3 rfl dG rfl (.slice AL nL cL) rfl) (mp g11 0 rfl (wv rfl (aF (v := .pt g11) vE rfl) (wm rfl (eb H39 123 [.iface 160 (.pt g11)] rfl (by kernel_rfl) (fun g41 w42 hgg41 H43 =>  wm rfl ?_)))))))))))
  refine bR H43 5 (m := 1) (news := [.iface 160 (.pt g11)]) rfl j8 jG rfl (by decide) rfl rfl rfl (H43.news (i := 0) rfl) (by simp [Value.oneCell']) (by simp only [maxLen]; omega) (by omega) (fun v44 w45 H46 =>  ?_)
  obtain ⟨A47, c48, rfl, _, _⟩ := aw (H46.g 5 rfl)
  refine wc rfl (wf cT rfl (ws (es H46 4 8 (.slice A47 (nL + 1) c48) rfl dG (fun w50 H49 =>  ?_))))
  refine wn (sr (ai 0 rfl (wn (aC ?_))))
  have H30 : St w aW [aq gq [.sl gd o0 sz cr, .i64 (↑(72 + 80 * (0 : Nat))), .i64 (-1)] 190, aq g11 [.sl gd o0 sz cr, .u32 25, .u32 (↑sz), .str (a9 ((ys.drop 8).take 16)), .u64 (n8 big (ys.drop 24)), .u64 (n8 big (ys.drop 32)), .u64 (n8 big (ys.drop 40)), .u64 (n8 big (ys.drop 48)), .u32 (n4 big (ys.drop 56)), .u32 (n4 big (ys.drop 60)), .u32 (↑q8), .u32 (n4 big (ys.drop 68)), .nilIface, .np] 181, aq fb [.u32 (h 0), .u32 (h 1), .u32 (h 2), .u32 (h 3), .u32 (h 4), .u32 (h 5), .u32 (h 6), .u8 (bo big), .slice A47 (nL + 1) c48, .slice AS (nS + (0 : Nat)) cS, sy, dy] 121, aH 123 1 (.slice A47 (nL + 1) c48) (nL + 1) (vs ++ [.iface 160 (.pt g11)]), aH 125 1 (.slice AS (nS + (0 : Nat)) cS) (nS + (0 : Nat)) (bM gs), D] w50 := H49.re [3, 1, 4, 5, 6, 7]
  refine bW (fun ρ w' => ∃ j : Nat, ∃ ASj : Option Addr, ∃ cSj : Nat, ∃ gsj : List Nat, ∃ dn : List SecD, ∃ Dj : Res, ρ 0 = .iface 109 (.pt rb) ∧ ρ 4 = .pt fb ∧ ρ 12 = .i64 of ∧ ρ 13 = .sl gd o m m ∧ ρ 16 = .u8 (bo big) ∧ ρ 17 = .u32 ii ∧ ρ 21 = .pt g11 ∧ ρ 55 = .pt gq ∧ ρ 57 = .i64 ↑j ∧ j ≤ q8 ∧ 72 + 80 * j ≤ sz ∧ Dj.F gd ∧ (∀ w, Dj.φ w → D.φ w) ∧ (∀ w, Dj.φ w → ScS w rb gsj (s.secs ++ dn)) ∧ bL true big xs raw q8 72 = (bL true big xs raw (q8 - j) (72 + 80 * j)).map (dn ++ ·) ∧ St w aW [aq gq [.sl gd o0 sz cr, .i64 (↑(72 + 80 * j)), .i64 (-1)] 190, aq g11 [.sl gd o0 sz cr, .u32 25, .u32 (↑sz), .str (a9 ((ys.drop 8).take 16)), .u64 (n8 big (ys.drop 24)), .u64 (n8 big (ys.drop 32)), .u64 (n8 big (ys.drop 40)), .u64 (n8 big (ys.drop 48)), .u32 (n4 big (ys.drop 56)), .u32 (n4 big (ys.drop 60)), .u32 (↑q8), .u32 (n4 big (ys.drop 68)), .nilIface, .np] 181, aq fb [.u32 (h 0), .u32 (h 1), .u32 (h 2), .u32 (h 3), .u32 (h 4), .u32 (h 5), .u32 (h 6), .u8 (bo big), .slice A47 (nL + 1) c48, .slice ASj (nS + j) cSj, sy, dy] 121, aH 123 1 (.slice A47 (nL + 1) c48) (nL + 1) (vs ++ [.iface 160 (.pt g11)]), aH 125 1 (.slice ASj (nS + j) cSj) (nS + j) (bM gsj), Dj] w') (fun ρ _ => q8 + 1 - nv (ρ 57)) (⟨0, AS, cS, gs, [], D, h0, h4, h12, h13, h16, h17, rfl, rfl, rfl, by omega, by omega, hDg, fun _ h => h, fun w h => by rw [List.append_nil]; exact hD.sc w h, by simp, H30⟩) ?_
  rintro ρ w3 ⟨j, ASj, cSj, gsj, dn, Dj, j0, j4, j12, j13, j16, j17, j21, jq, jc, hj, hjz, hjg, hjD, hjS, hsec, H3⟩
  refine ad (sr (mg jc rfl (mg j21 rfl (wc rfl (wf bi rfl (wv rfl (ab jB rfl) (wv rfl (H3.ld 1 rfl ar rfl (.u32 (↑q8)) rfl) (wv rfl (an bm kw rfl (aE (by omega) (by omega))) (wv rfl (cx rfl rfl) (wn ?_))))))))))
  refine cf rfl (fun hb51 => ?_) (fun hb51 => ?_)
  ·
   simp only [bx] at hb51
   refine wk (ad (aC (sr (wm rfl (aK H3 t5 (fun g52 w53 hgg52 H54 =>  wn (ad (ad ?_))))))))
   have hjn : j < q8 := by omega
   by_cases hfit : 72 + 80 * j + 80 ≤ sz
   ·
    obtain ⟨zs, hzs⟩ : ∃ q, q = (raw.drop (72 + 80 * j)).take 80 := ⟨_, rfl⟩
    have hbzs : Byt zs := by rw [hzs]; exact (hrby.drop _).take _
    have hlzs : zs.length = 80 := by rw [hzs, List.length_take, List.length_drop, hrl]; omega
    obtain ⟨z1, hz1⟩ : ∃ q : Nat, (q : Int) = n8 big (zs.drop 40) := ⟨(n8 big (zs.drop 40)).toNat, Int.toNat_of_nonneg (ln big (hbzs.drop _)).1⟩
    have hltz1 : (z1 : Int) < 18446744073709551616 := by rw [hz1]; exact (ln big (hbzs.drop _)).2
    obtain ⟨z2, hz2⟩ : ∃ q : Nat, (q : Int) = n4 big (zs.drop 48) := ⟨(n4 big (zs.drop 48)).toNat, Int.toNat_of_nonneg (aR big (hbzs.drop _)).1⟩
    have hltz2 : (z2 : Int) < 4294967296 := by rw [hz2]; exact (aR big (hbzs.drop _)).2
    obtain ⟨z3, hz3⟩ : ∃ q : Nat, (q : Int) = n4 big (zs.drop 56) := ⟨(n4 big (zs.drop 56)).toNat, Int.toNat_of_nonneg (aR big (hbzs.drop _)).1⟩
    have hltz3 : (z3 : Int) < 4294967296 := by rw [hz3]; exact (aR big (hbzs.drop _)).2
    obtain ⟨z4, hz4⟩ : ∃ q : Nat, (q : Int) = n4 big (zs.drop 60) := ⟨(n4 big (zs.drop 60)).toNat, Int.toNat_of_nonneg (aR big (hbzs.drop _)).1⟩
    have hltz4 : (z4 : Int) < 4294967296 := by rw [hz4]; exact (aR big (hbzs.drop _)).2
    refine ae (mg jq rfl (wv rfl (aF (v := .pt gq) dW rfl) (mg j16 rfl (wE [.pt g52, .iface 109 (.pt gq), .u8 (bo big)] CK63 rfl rfl ?_))))
    have hne56 := H54.blk_ne (i := 0) (j := 1) rfl rfl (by decide)
    have hge1 := H54.ge (i := 1) rfl
    have hge2 := H54.ge (i := 0) rfl
    have hws := H54.keep.size
    refine aa (jJ (ys := zs) (i := 72 + 80 * j) (A := some ⟨gd, o0, none⟩) (xs := raw) big _ (H54.g 0 rfl) (H54.g 1 rfl) (hG.keep H54.keep fun k hk => hk.elim) hscr (by omega) ((fun w h => hRaw w (hjD w h)) _ (H54.g 6 rfl)) hrby (fun a ha => by injection ha with ha; subst ha; exact ⟨Dj.live _ _ (H54.g 6 rfl) hjg, H54.sepD (i := 1) (j := 6) rfl rfl (by decide) hjg, H54.sepD (i := 0) (j := 6) rfl rfl (by decide) hjg⟩) (by omega) (by omega) (by omega) (by omega) (by omega) hzs) ?_
    rintro e w57 ⟨rfl, HS55⟩
    rw [← hz1] at HS55
    rw [← hz2] at HS55
    rw [← hz3] at HS55
    rw [← hz4] at HS55
    have H58 := H54.ky 0 0 rfl rfl HS55 (fun _ h => h)
    refine ⟨_, rfl, ?_⟩
    refine av (.nilIface) rfl (wn (sr (mv (.nilIface) rfl (wv rfl ((nn false bq rfl (.inl rfl))) (wn (aj rfl (wk (sr (wm rfl (aK H58 ow (fun g59 w60 hgg59 H61 =>  ap g59 0 rfl ?_)))))))))))
    refine wn (sr (mp g59 0 rfl (wf qf rfl (wv rfl ((bu (o := 0) (l := 0) (h := 16) i2 rfl (bg (i := 0) rfl (by omega) rfl) (bh _ _) (by omega) (by omega) : Yv _ _ _ _ (.sl g52 0 16 16) _)) (wE [.sl g52 0 16 16] lY rfl rfl (aa (dE _ (eE (ys := zs) (k := 0) (m := 16) (H61.g 1 rfl) rfl (by omega)) ((hbzs.drop _).take _) (by omega) (by omega)) ?_))))))
    rintro e w63 ⟨rfl, HS62⟩
    have H64 := H61.cal0 HS62
    refine ⟨_, rfl, ?_⟩
    refine wc rfl (wf bf rfl (wf kV rfl (ws (es H64 0 0 (.str (a9 ((zs.drop 0).take 16))) rfl d9 (fun w66 H65 =>  ?_)))))
    refine wn (sr (mp g59 0 rfl (wf qe rfl (wv rfl ((bu (o := 16) (l := 0) (h := 16) i2 rfl (bg (i := 0) rfl (by omega) rfl) (bh _ _) (by omega) (by omega) : Yv _ _ _ _ (.sl g52 16 16 16) _)) (wE [.sl g52 16 16 16] lY rfl rfl (aa (dE _ (eE (ys := zs) (k := 16) (m := 16) (H65.g 1 rfl) rfl (by omega)) ((hbzs.drop _).take _) (by omega) (by omega)) ?_))))))
    rintro e w68 ⟨rfl, HS67⟩
    have H69 := H65.cal0 HS67
    refine ⟨_, rfl, ?_⟩
    refine wc rfl (wf bf rfl (wf kU rfl (ws (es H69 0 1 (.str (a9 ((zs.drop 16).take 16))) rfl d9 (fun w71 H70 =>  ?_)))))
    refine wn (sr (mp g59 0 rfl (wf qd rfl (wv rfl (H70.ld 1 rfl aM rfl (.u64 (n8 big (zs.drop 32))) rfl) (wc rfl (wf bf rfl (wf kT rfl (ws (es H70 0 2 (.u64 (n8 big (zs.drop 32))) rfl aM (fun w73 H72 =>  ?_))))))))))
    refine wn (sr (mp g59 0 rfl (wf qc rfl (wv rfl (H72.ld 1 rfl aM rfl (.u64 (↑z1)) rfl) (wc rfl (wf bf rfl (wf fD rfl (ws (es H72 0 3 (.u64 (↑z1)) rfl aM (fun w75 H74 =>  ?_))))))))))
    refine wn (sr (mp g59 0 rfl (wf qb rfl (wv rfl (H74.ld 1 rfl ar rfl (.u32 (↑z2)) rfl) (wc rfl (wf bf rfl (wf ik rfl (ws (es H74 0 4 (.u32 (↑z2)) rfl ar (fun w77 H76 =>  ?_))))))))))
    refine wn (sr (mp g59 0 rfl (wf pZ rfl (wv rfl (H76.ld 1 rfl ar rfl (.u32 (n4 big (zs.drop 52))) rfl) (wc rfl (wf bf rfl (wf kS rfl (ws (es H76 0 5 (.u32 (n4 big (zs.drop 52))) rfl ar (fun w79 H78 =>  ?_))))))))))
    refine wn (sr (mp g59 0 rfl (wf pY rfl (wv rfl (H78.ld 1 rfl ar rfl (.u32 (↑z3)) rfl) (wc rfl (wf bf rfl (wf iU rfl (ws (es H78 0 6 (.u32 (↑z3)) rfl ar (fun w81 H80 =>  ?_))))))))))
    refine wn (sr (mp g59 0 rfl (wf pX rfl (wv rfl (H80.ld 1 rfl ar rfl (.u32 (↑z4)) rfl) (wc rfl (wf bf rfl (wf fi rfl (ws (es H80 0 7 (.u32 (↑z4)) rfl ar (fun w83 H82 =>  ?_))))))))))
    refine wn (sr (mp g59 0 rfl (wf pW rfl (wv rfl (H82.ld 1 rfl ar rfl (.u32 (n4 big (zs.drop 64))) rfl) (wc rfl (wf bf rfl (wf kR rfl (ws (es H82 0 8 (.u32 (n4 big (zs.drop 64))) rfl ar (fun w85 H84 =>  ?_))))))))))
    refine wn (sr (mg j4 rfl (mp g59 0 rfl (mg j0 rfl (wE [.pt fb, .pt g59, .iface 109 (.pt rb)] CK61 rfl rfl ?_)))))
    have Hp : St w aW ([aq fb [.u32 (h 0), .u32 (h 1), .u32 (h 2), .u32 (h 3), .u32 (h 4), .u32 (h 5), .u32 (h 6), .u8 (bo big), .slice A47 (nL + 1) c48, .slice ASj (nS + j) cSj, sy, dy] 121, aH 125 1 (.slice ASj (nS + j) cSj) (nS + j) (bM gsj), aq g59 [.str (a9 ((zs.drop 0).take 16)), .str (a9 ((zs.drop 16).take 16)), .u64 (n8 big (zs.drop 32)), .u64 (↑z1), .u32 (↑z2), .u32 (n4 big (zs.drop 52)), .u32 (↑z3), .u32 (↑z4), .u32 (n4 big (zs.drop 64)), .ns, .nilIface, .np] 135] ++ [aq gq [.sl gd o0 sz cr, .i64 (↑(72 + 80 * j : Nat) + 80), .i64 (-1)] 190, aq g11 [.sl gd o0 sz cr, .u32 25, .u32 (↑sz), .str (a9 ((ys.drop 8).take 16)), .u64 (n8 big (ys.drop 24)), .u64 (n8 big (ys.drop 32)), .u64 (n8 big (ys.drop 40)), .u64 (n8 big (ys.drop 48)), .u32 (n4 big (ys.drop 56)), .u32 (n4 big (ys.drop 60)), .u32 (↑q8), .u32 (n4 big (ys.drop 68)), .nilIface, .np] 181, aH 123 1 (.slice A47 (nL + 1) c48) (nL + 1) (vs ++ [.iface 160 (.pt g11)]), Dj]) w85 := H84.re [4, 6, 0, 2, 3, 5, 7]
    have hs2 : dC true big zs = (⟨a9 ((zs.drop 0).take 16), a9 ((zs.drop 16).take 16), n8 big (zs.drop 32), z1, z2, n4 big (zs.drop 52), ↑z3, ↑z4, n4 big (zs.drop 64), []⟩ : SecD) := by simp only [dC, ← hz1, ← hz2, ← hz3, ← hz4, Int.toNat_natCast, if_true, if_false, Bool.false_eq_true]
    have hft : SecD.fits (⟨a9 ((zs.drop 0).take 16), a9 ((zs.drop 16).take 16), n8 big (zs.drop 32), z1, z2, n4 big (zs.drop 52), ↑z3, ↑z4, n4 big (zs.drop 64), []⟩ : SecD) := by rw [← hs2]; exact mf hbzs
    by_cases hc1 : z4 = 0
    ·
     have hsr : dt big xs (⟨a9 ((zs.drop 0).take 16), a9 ((zs.drop 16).take 16), n8 big (zs.drop 32), z1, z2, n4 big (zs.drop 52), ↑z3, ↑z4, n4 big (zs.drop 64), []⟩ : SecD) = some { (⟨a9 ((zs.drop 0).take 16), a9 ((zs.drop 16).take 16), n8 big (zs.drop 32), z1, z2, n4 big (zs.drop 52), ↑z3, ↑z4, n4 big (zs.drop 64), []⟩ : SecD) with rels := [] } := by unfold dt; rw [if_pos (show (↑z4 : Int).toNat = 0 by omega)]
     refine aa (mm (base := w.heap.size) (s := (⟨a9 ((zs.drop 0).take 16), a9 ((zs.drop 16).take 16), n8 big (zs.drop 32), z1, z2, n4 big (zs.drop 52), ↑z3, ↑z4, n4 big (zs.drop 64), []⟩ : SecD)) (ro := z3) (nr := z4) big _ (Hp.loc (L1 := [aq fb [.u32 (h 0), .u32 (h 1), .u32 (h 2), .u32 (h 3), .u32 (h 4), .u32 (h 5), .u32 (h 6), .u8 (bo big), .slice A47 (nL + 1) c48, .slice ASj (nS + j) cSj, sy, dy] 121, aH 125 1 (.slice ASj (nS + j) cSj) (nS + j) (bM gsj), aq g59 [.str (a9 ((zs.drop 0).take 16)), .str (a9 ((zs.drop 16).take 16)), .u64 (n8 big (zs.drop 32)), .u64 (↑z1), .u32 (↑z2), .u32 (n4 big (zs.drop 52)), .u32 (↑z3), .u32 (↑z4), .u32 (n4 big (zs.drop 64)), .ns, .nilIface, .np] 135]) (L2 := [aq gq [.sl gd o0 sz cr, .i64 (↑(72 + 80 * j : Nat) + 80), .i64 (-1)] 190, aq g11 [.sl gd o0 sz cr, .u32 25, .u32 (↑sz), .str (a9 ((ys.drop 8).take 16)), .u64 (n8 big (ys.drop 24)), .u64 (n8 big (ys.drop 32)), .u64 (n8 big (ys.drop 40)), .u64 (n8 big (ys.drop 48)), .u32 (n4 big (ys.drop 56)), .u32 (n4 big (ys.drop 60)), .u32 (↑q8), .u32 (n4 big (ys.drop 68)), .nilIface, .np] 181, aH 123 1 (.slice A47 (nL + 1) c48) (nL + 1) (vs ++ [.iface 160 (.pt g11)]), Dj])) (Hp.re (L' := [aq fb [.u32 (h 0), .u32 (h 1), .u32 (h 2), .u32 (h 3), .u32 (h 4), .u32 (h 5), .u32 (h 6), .u8 (bo big), .slice A47 (nL + 1) c48, .slice ASj (nS + j) cSj, sy, dy] 121, aH 125 1 (.slice ASj (nS + j) cSj) (nS + j) (bM gsj), aq g59 [.str (a9 ((zs.drop 0).take 16)), .str (a9 ((zs.drop 16).take 16)), .u64 (n8 big (zs.drop 32)), .u64 (↑z1), .u32 (↑z2), .u32 (n4 big (zs.drop 52)), .u32 (↑z3), .u32 (↑z4), .u32 (n4 big (zs.drop 64)), .ns, .nilIface, .np] 135]) [0, 1, 2]).fresh (aA hrb) hw4 Hp.keep.size hA (b7 hrb H84.keep) (hG.keep H84.keep fun k hk => hk.elim) hNC hN (hr.keep0 H84.keep) hby hft rfl rfl (by omega) hc1) ?_
     rintro e w88 ⟨Aq, cq, D2, rfl, HS86, hD2⟩
     have H87 := cE (L1 := [aq fb [.u32 (h 0), .u32 (h 1), .u32 (h 2), .u32 (h 3), .u32 (h 4), .u32 (h 5), .u32 (h 6), .u8 (bo big), .slice A47 (nL + 1) c48, .slice ASj (nS + j) cSj, sy, dy] 121, aH 125 1 (.slice ASj (nS + j) cSj) (nS + j) (bM gsj), aq g59 [.str (a9 ((zs.drop 0).take 16)), .str (a9 ((zs.drop 16).take 16)), .u64 (n8 big (zs.drop 32)), .u64 (↑z1), .u32 (↑z2), .u32 (n4 big (zs.drop 52)), .u32 (↑z3), .u32 (↑z4), .u32 (n4 big (zs.drop 64)), .ns, .nilIface, .np] 135]) (L2 := [aq gq [.sl gd o0 sz cr, .i64 (↑(72 + 80 * j : Nat) + 80), .i64 (-1)] 190, aq g11 [.sl gd o0 sz cr, .u32 25, .u32 (↑sz), .str (a9 ((ys.drop 8).take 16)), .u64 (n8 big (ys.drop 24)), .u64 (n8 big (ys.drop 32)), .u64 (n8 big (ys.drop 40)), .u64 (n8 big (ys.drop 48)), .u32 (n4 big (ys.drop 56)), .u32 (n4 big (ys.drop 60)), .u32 (↑q8), .u32 (n4 big (ys.drop 68)), .nilIface, .np] 181, aH 123 1 (.slice A47 (nL + 1) c48) (nL + 1) (vs ++ [.iface 160 (.pt g11)]), Dj]) Hp HS86
     refine ⟨_, rfl, ?_⟩
     refine av (.nilIface) rfl (wn (sr (mv (.nilIface) rfl (wv rfl ((nn false bq rfl (.inl rfl))) (wn (aj rfl (cG (ao (ac (ae (mg jc rfl ?_)))))))))))
     refine wv rfl (aT (k := .i64) (c := ↑j + 1) rfl rfl (aE (by omega) (by omega))) (ai (↑j + 1) rfl (wn ?_))
     have e8 : (↑(72 + 80 * j : Nat) : Int) + 80 = ↑(72 + 80 * (j + 1)) := by omega
     rw [e8, ← hH] at H87
     have Hn : St w aW [aq gq [.sl gd o0 sz cr, .i64 (↑(72 + 80 * (j + 1))), .i64 (-1)] 190, aq g11 [.sl gd o0 sz cr, .u32 25, .u32 (↑sz), .str (a9 ((ys.drop 8).take 16)), .u64 (n8 big (ys.drop 24)), .u64 (n8 big (ys.drop 32)), .u64 (n8 big (ys.drop 40)), .u64 (n8 big (ys.drop 48)), .u32 (n4 big (ys.drop 56)), .u32 (n4 big (ys.drop 60)), .u32 (↑q8), .u32 (n4 big (ys.drop 68)), .nilIface, .np] 181, aq fb [.u32 (h 0), .u32 (h 1), .u32 (h 2), .u32 (h 3), .u32 (h 4), .u32 (h 5), .u32 (h 6), .u8 (bo big), .slice A47 (nL + 1) c48, .slice Aq (nS + (j + 1)) cq, sy, dy] 121, aH 123 1 (.slice A47 (nL + 1) c48) (nL + 1) (vs ++ [.iface 160 (.pt g11)]), aH 125 1 (.slice Aq (nS + (j + 1)) cq) (nS + (j + 1)) (bM (gsj ++ [g59])), Res.all [D2, Dj]] w88 := (H87.reAll [0, 6] [3, 4, 1, 5, 2]).re [1, 2, 3, 4, 5, 0]
     have hsec2 : bL true big xs raw q8 72 = (bL true big xs raw (q8 - (j + 1)) (72 + 80 * (j + 1))).map ((dn ++ [{ (⟨a9 ((zs.drop 0).take 16), a9 ((zs.drop 16).take 16), n8 big (zs.drop 32), z1, z2, n4 big (zs.drop 52), ↑z3, ↑z4, n4 big (zs.drop 64), []⟩ : SecD) with rels := [] }]) ++ ·) := by
      rw [hsec, show q8 - j = (q8 - (j + 1)) + 1 by omega, eV (show ¬ raw.length < 72 + 80 * j + 80 by omega) (show dt big xs (dC true big ((raw.drop (72 + 80 * j)).take 80)) = _ from by rw [← hzs, hs2]; exact hsr), show 72 + 80 * j + eQ true = 72 + 80 * (j + 1) from by show 72 + 80 * j + 80 = _; omega]; cases bL true big xs raw (q8 - (j + 1)) (72 + 80 * (j + 1)) <;> simp
     exact ⟨⟨j + 1, _, _, gsj ++ [g59], dn ++ [{ (⟨a9 ((zs.drop 0).take 16), a9 ((zs.drop 16).take 16), n8 big (zs.drop 32), z1, z2, n4 big (zs.drop 52), ↑z3, ↑z4, n4 big (zs.drop 64), []⟩ : SecD) with rels := [] }], Res.all [D2, Dj], j0, j4, j12, j13, j16, j17, j21, jq, rfl, by omega, by omega, .inr (.inl hjg), fun w h => hjD w (aV.1 h Dj (by simp)), fun w h => by have h := aV.1 h; rw [← List.append_assoc]; exact (hjS w (h Dj (by simp))).snoc (hD2 w (h D2 (by simp))), hsec2, Hn⟩, by show q8 + 1 - nv (.i64 (↑j + 1)) < q8 + 1 - nv (ρ 57); rw [jc]; simp only [nv]; omega⟩
    ·
     by_cases hc2 : z3 + z4 * 8 ≤ N
     ·
      have hsr : dt big xs (⟨a9 ((zs.drop 0).take 16), a9 ((zs.drop 16).take 16), n8 big (zs.drop 32), z1, z2, n4 big (zs.drop 52), ↑z3, ↑z4, n4 big (zs.drop 64), []⟩ : SecD) = some { (⟨a9 ((zs.drop 0).take 16), a9 ((zs.drop 16).take 16), n8 big (zs.drop 32), z1, z2, n4 big (zs.drop 52), ↑z3, ↑z4, n4 big (zs.drop 64), []⟩ : SecD) with rels := bw big z4 ((xs.drop z3).take (z4 * 8)) } := by unfold dt; rw [if_neg (show ¬ (↑z4 : Int).toNat = 0 by omega), if_pos (show (↑z3 : Int).toNat + (↑z4 : Int).toNat * 8 ≤ xs.length by rw [hr.1]; omega)]; simp only [Int.toNat_natCast]
      refine aa (pD (base := w.heap.size) (s := (⟨a9 ((zs.drop 0).take 16), a9 ((zs.drop 16).take 16), n8 big (zs.drop 32), z1, z2, n4 big (zs.drop 52), ↑z3, ↑z4, n4 big (zs.drop 64), []⟩ : SecD)) (ro := z3) (nr := z4) big _ (Hp.loc (L1 := [aq fb [.u32 (h 0), .u32 (h 1), .u32 (h 2), .u32 (h 3), .u32 (h 4), .u32 (h 5), .u32 (h 6), .u8 (bo big), .slice A47 (nL + 1) c48, .slice ASj (nS + j) cSj, sy, dy] 121, aH 125 1 (.slice ASj (nS + j) cSj) (nS + j) (bM gsj), aq g59 [.str (a9 ((zs.drop 0).take 16)), .str (a9 ((zs.drop 16).take 16)), .u64 (n8 big (zs.drop 32)), .u64 (↑z1), .u32 (↑z2), .u32 (n4 big (zs.drop 52)), .u32 (↑z3), .u32 (↑z4), .u32 (n4 big (zs.drop 64)), .ns, .nilIface, .np] 135]) (L2 := [aq gq [.sl gd o0 sz cr, .i64 (↑(72 + 80 * j : Nat) + 80), .i64 (-1)] 190, aq g11 [.sl gd o0 sz cr, .u32 25, .u32 (↑sz), .str (a9 ((ys.drop 8).take 16)), .u64 (n8 big (ys.drop 24)), .u64 (n8 big (ys.drop 32)), .u64 (n8 big (ys.drop 40)), .u64 (n8 big (ys.drop 48)), .u32 (n4 big (ys.drop 56)), .u32 (n4 big (ys.drop 60)), .u32 (↑q8), .u32 (n4 big (ys.drop 68)), .nilIface, .np] 181, aH 123 1 (.slice A47 (nL + 1) c48) (nL + 1) (vs ++ [.iface 160 (.pt g11)]), Dj])) (Hp.re (L' := [aq fb [.u32 (h 0), .u32 (h 1), .u32 (h 2), .u32 (h 3), .u32 (h 4), .u32 (h 5), .u32 (h 6), .u8 (bo big), .slice A47 (nL + 1) c48, .slice ASj (nS + j) cSj, sy, dy] 121, aH 125 1 (.slice ASj (nS + j) cSj) (nS + j) (bM gsj), aq g59 [.str (a9 ((zs.drop 0).take 16)), .str (a9 ((zs.drop 16).take 16)), .u64 (n8 big (zs.drop 32)), .u64 (↑z1), .u32 (↑z2), .u32 (n4 big (zs.drop 52)), .u32 (↑z3), .u32 (↑z4), .u32 (n4 big (zs.drop 64)), .ns, .nilIface, .np] 135]) [0, 1, 2]).fresh (aA hrb) hw4 Hp.keep.size hA (b7 hrb H84.keep) (hG.keep H84.keep fun k hk => hk.elim) hNC hN (hr.keep0 H84.keep) hby hft rfl rfl (by omega) (by omega) hc2) ?_
      rintro e w91 ⟨Aq, cq, D2, rfl, HS89, hD2⟩
      have H90 := cE (L1 := [aq fb [.u32 (h 0), .u32 (h 1), .u32 (h 2), .u32 (h 3), .u32 (h 4), .u32 (h 5), .u32 (h 6), .u8 (bo big), .slice A47 (nL + 1) c48, .slice ASj (nS + j) cSj, sy, dy] 121, aH 125 1 (.slice ASj (nS + j) cSj) (nS + j) (bM gsj), aq g59 [.str (a9 ((zs.drop 0).take 16)), .str (a9 ((zs.drop 16).take 16)), .u64 (n8 big (zs.drop 32)), .u64 (↑z1), .u32 (↑z2), .u32 (n4 big (zs.drop 52)), .u32 (↑z3), .u32 (↑z4), .u32 (n4 big (zs.drop 64)), .ns, .nilIface, .np] 135]) (L2 := [aq gq [.sl gd o0 sz cr, .i64 (↑(72 + 80 * j : Nat) + 80), .i64 (-1)] 190, aq g11 [.sl gd o0 sz cr, .u32 25, .u32 (↑sz), .str (a9 ((ys.drop 8).take 16)), .u64 (n8 big (ys.drop 24)), .u64 (n8 big (ys.drop 32)), .u64 (n8 big (ys.drop 40)), .u64 (n8 big (ys.drop 48)), .u32 (n4 big (ys.drop 56)), .u32 (n4 big (ys.drop 60)), .u32 (↑q8), .u32 (n4 big (ys.drop 68)), .nilIface, .np] 181, aH 123 1 (.slice A47 (nL + 1) c48) (nL + 1) (vs ++ [.iface 160 (.pt g11)]), Dj]) Hp HS89
      refine ⟨_, rfl, ?_⟩
      refine av (.nilIface) rfl (wn (sr (mv (.nilIface) rfl (wv rfl ((nn false bq rfl (.inl rfl))) (wn (aj rfl (cG (ao (ac (ae (mg jc rfl ?_)))))))))))
      refine wv rfl (aT (k := .i64) (c := ↑j + 1) rfl rfl (aE (by omega) (by omega))) (ai (↑j + 1) rfl (wn ?_))
      have e8 : (↑(72 + 80 * j : Nat) : Int) + 80 = ↑(72 + 80 * (j + 1)) := by omega
      rw [e8, ← hH] at H90
      have Hn : St w aW [aq gq [.sl gd o0 sz cr, .i64 (↑(72 + 80 * (j + 1))), .i64 (-1)] 190, aq g11 [.sl gd o0 sz cr, .u32 25, .u32 (↑sz), .str (a9 ((ys.drop 8).take 16)), .u64 (n8 big (ys.drop 24)), .u64 (n8 big (ys.drop 32)), .u64 (n8 big (ys.drop 40)), .u64 (n8 big (ys.drop 48)), .u32 (n4 big (ys.drop 56)), .u32 (n4 big (ys.drop 60)), .u32 (↑q8), .u32 (n4 big (ys.drop 68)), .nilIface, .np] 181, aq fb [.u32 (h 0), .u32 (h 1), .u32 (h 2), .u32 (h 3), .u32 (h 4), .u32 (h 5), .u32 (h 6), .u8 (bo big), .slice A47 (nL + 1) c48, .slice Aq (nS + (j + 1)) cq, sy, dy] 121, aH 123 1 (.slice A47 (nL + 1) c48) (nL + 1) (vs ++ [.iface 160 (.pt g11)]), aH 125 1 (.slice Aq (nS + (j + 1)) cq) (nS + (j + 1)) (bM (gsj ++ [g59])), Res.all [D2, Dj]] w91 := (H90.reAll [0, 6] [3, 4, 1, 5, 2]).re [1, 2, 3, 4, 5, 0]
      have hsec2 : bL true big xs raw q8 72 = (bL true big xs raw (q8 - (j + 1)) (72 + 80 * (j + 1))).map ((dn ++ [{ (⟨a9 ((zs.drop 0).take 16), a9 ((zs.drop 16).take 16), n8 big (zs.drop 32), z1, z2, n4 big (zs.drop 52), ↑z3, ↑z4, n4 big (zs.drop 64), []⟩ : SecD) with rels := bw big z4 ((xs.drop z3).take (z4 * 8)) }]) ++ ·) := by
       rw [hsec, show q8 - j = (q8 - (j + 1)) + 1 by omega, eV (show ¬ raw.length < 72 + 80 * j + 80 by omega) (show dt big xs (dC true big ((raw.drop (72 + 80 * j)).take 80)) = _ from by rw [← hzs, hs2]; exact hsr), show 72 + 80 * j + eQ true = 72 + 80 * (j + 1) from by show 72 + 80 * j + 80 = _; omega]; cases bL true big xs raw (q8 - (j + 1)) (72 + 80 * (j + 1)) <;> simp
      exact ⟨⟨j + 1, _, _, gsj ++ [g59], dn ++ [{ (⟨a9 ((zs.drop 0).take 16), a9 ((zs.drop 16).take 16), n8 big (zs.drop 32), z1, z2, n4 big (zs.drop 52), ↑z3, ↑z4, n4 big (zs.drop 64), []⟩ : SecD) with rels := bw big z4 ((xs.drop z3).take (z4 * 8)) }], Res.all [D2, Dj], j0, j4, j12, j13, j16, j17, j21, jq, rfl, by omega, by omega, .inr (.inl hjg), fun w h => hjD w (aV.1 h Dj (by simp)), fun w h => by have h := aV.1 h; rw [← List.append_assoc]; exact (hjS w (h Dj (by simp))).snoc (hD2 w (h D2 (by simp))), hsec2, Hn⟩, by show q8 + 1 - nv (.i64 (↑j + 1)) < q8 + 1 - nv (ρ 57); rw [jc]; simp only [nv]; omega⟩
     ·
      have hsr : dt big xs (⟨a9 ((zs.drop 0).take 16), a9 ((zs.drop 16).take 16), n8 big (zs.drop 32), z1, z2, n4 big (zs.drop 52), ↑z3, ↑z4, n4 big (zs.drop 64), []⟩ : SecD) = none := by unfold dt; rw [if_neg (show ¬ (↑z4 : Int).toNat = 0 by omega), if_neg (show ¬ (↑z3 : Int).toNat + (↑z4 : Int).toNat * 8 ≤ xs.length by rw [hr.1]; omega)]
      refine aa (nO (base := w.heap.size) (s := (⟨a9 ((zs.drop 0).take 16), a9 ((zs.drop 16).take 16), n8 big (zs.drop 32), z1, z2, n4 big (zs.drop 52), ↑z3, ↑z4, n4 big (zs.drop 64), []⟩ : SecD)) (ro := z3) (nr := z4) big _ (Hp.loc (L1 := [aq fb [.u32 (h 0), .u32 (h 1), .u32 (h 2), .u32 (h 3), .u32 (h 4), .u32 (h 5), .u32 (h 6), .u8 (bo big), .slice A47 (nL + 1) c48, .slice ASj (nS + j) cSj, sy, dy] 121, aH 125 1 (.slice ASj (nS + j) cSj) (nS + j) (bM gsj), aq g59 [.str (a9 ((zs.drop 0).take 16)), .str (a9 ((zs.drop 16).take 16)), .u64 (n8 big (zs.drop 32)), .u64 (↑z1), .u32 (↑z2), .u32 (n4 big (zs.drop 52)), .u32 (↑z3), .u32 (↑z4), .u32 (n4 big (zs.drop 64)), .ns, .nilIface, .np] 135]) (L2 := [aq gq [.sl gd o0 sz cr, .i64 (↑(72 + 80 * j : Nat) + 80), .i64 (-1)] 190, aq g11 [.sl gd o0 sz cr, .u32 25, .u32 (↑sz), .str (a9 ((ys.drop 8).take 16)), .u64 (n8 big (ys.drop 24)), .u64 (n8 big (ys.drop 32)), .u64 (n8 big (ys.drop 40)), .u64 (n8 big (ys.drop 48)), .u32 (n4 big (ys.drop 56)), .u32 (n4 big (ys.drop 60)), .u32 (↑q8), .u32 (n4 big (ys.drop 68)), .nilIface, .np] 181, aH 123 1 (.slice A47 (nL + 1) c48) (nL + 1) (vs ++ [.iface 160 (.pt g11)]), Dj])) (Hp.re (L' := [aq fb [.u32 (h 0), .u32 (h 1), .u32 (h 2), .u32 (h 3), .u32 (h 4), .u32 (h 5), .u32 (h 6), .u8 (bo big), .slice A47 (nL + 1) c48, .slice ASj (nS + j) cSj, sy, dy] 121, aH 125 1 (.slice ASj (nS + j) cSj) (nS + j) (bM gsj), aq g59 [.str (a9 ((zs.drop 0).take 16)), .str (a9 ((zs.drop 16).take 16)), .u64 (n8 big (zs.drop 32)), .u64 (↑z1), .u32 (↑z2), .u32 (n4 big (zs.drop 52)), .u32 (↑z3), .u32 (↑z4), .u32 (n4 big (zs.drop 64)), .ns, .nilIface, .np] 135]) [0, 1, 2]).fresh (aA hrb) hw4 Hp.keep.size hA (b7 hrb H84.keep) (hG.keep H84.keep fun k hk => hk.elim) hNC hN (hr.keep0 H84.keep) hby hft rfl rfl (by omega) (by omega) (by omega)) ?_
      rintro e w94 ⟨T, ev, rfl, HS92⟩
      have H93 := cE (L1 := [aq fb [.u32 (h 0), .u32 (h 1), .u32 (h 2), .u32 (h 3), .u32 (h 4), .u32 (h 5), .u32 (h 6), .u8 (bo big), .slice A47 (nL + 1) c48, .slice ASj (nS + j) cSj, sy, dy] 121, aH 125 1 (.slice ASj (nS + j) cSj) (nS + j) (bM gsj), aq g59 [.str (a9 ((zs.drop 0).take 16)), .str (a9 ((zs.drop 16).take 16)), .u64 (n8 big (zs.drop 32)), .u64 (↑z1), .u32 (↑z2), .u32 (n4 big (zs.drop 52)), .u32 (↑z3), .u32 (↑z4), .u32 (n4 big (zs.drop 64)), .ns, .nilIface, .np] 135]) (L2 := [aq gq [.sl gd o0 sz cr, .i64 (↑(72 + 80 * j : Nat) + 80), .i64 (-1)] 190, aq g11 [.sl gd o0 sz cr, .u32 25, .u32 (↑sz), .str (a9 ((ys.drop 8).take 16)), .u64 (n8 big (ys.drop 24)), .u64 (n8 big (ys.drop 32)), .u64 (n8 big (ys.drop 40)), .u64 (n8 big (ys.drop 48)), .u32 (n4 big (ys.drop 56)), .u32 (n4 big (ys.drop 60)), .u32 (↑q8), .u32 (n4 big (ys.drop 68)), .nilIface, .np] 181, aH 123 1 (.slice A47 (nL + 1) c48) (nL + 1) (vs ++ [.iface 160 (.pt g11)]), Dj]) Hp HS92
      refine ⟨_, rfl, ?_⟩
      refine av (.iface T ev) rfl (wn (sr (mv (.iface T ev) rfl (wv rfl ((nn true bq rfl (.inr ⟨_, _, rfl⟩))) (wn (ay rfl (sr (mv (.iface T ev) rfl (av (.np) rfl (av (.iface T ev) rfl (wn ?_)))))))))))
      refine aQ (aB (ax (ax (aB (aB (ax ?_))))))
      have hst : ca true big xs raw s = none := by have e0 : bL true big xs raw q8 72 = none := (by rw [hsec, show q8 - j = (q8 - (j + 1)) + 1 by omega, iJ (show ¬ raw.length < 72 + 80 * j + 80 by omega) (show dt big xs (dC true big ((raw.drop (72 + 80 * j)).take 80)) = _ from by rw [← hzs, hs2]; exact hsr)]; rfl); exact eU hys hns e0
      exact hR hst _ _ _ _ rfl rfl H93.keep
   ·
    refine ae (mg jq rfl (wv rfl (aF (v := .pt gq) dW rfl) (mg j16 rfl (wE [.pt g52, .iface 109 (.pt gq), .u8 (bo big)] CK63 rfl rfl ?_))))
    have hne96 := H54.blk_ne (i := 0) (j := 1) rfl rfl (by decide)
    have hge1 := H54.ge (i := 1) rfl
    have hge2 := H54.ge (i := 0) rfl
    have hws := H54.keep.size
    refine aa (jp (ys := []) (i := 72 + 80 * j) (A := some ⟨gd, o0, none⟩) (xs := raw) big _ (H54.g 0 rfl) (H54.g 1 rfl) (hG.keep H54.keep fun k hk => hk.elim) hscr (by omega) ((fun w h => hRaw w (hjD w h)) _ (H54.g 6 rfl)) hrby (fun a ha => by injection ha with ha; subst ha; exact ⟨Dj.live _ _ (H54.g 6 rfl) hjg, H54.sepD (i := 1) (j := 6) rfl rfl (by decide) hjg, H54.sepD (i := 0) (j := 6) rfl rfl (by decide) hjg⟩) (by omega) (by omega) (by omega) (by omega) (by omega)) ?_
    rintro e w97 ⟨T, ev, rfl, HS95⟩
    have H98 := H54.ky 0 0 rfl rfl HS95 (fun _ h => h)
    refine ⟨_, rfl, ?_⟩
    refine av (.iface T ev) rfl (wn (sr (mv (.iface T ev) rfl (wv rfl ((nn true bq rfl (.inr ⟨_, _, rfl⟩))) (wn (ay rfl (sr (mv (.iface T ev) rfl (av (.np) rfl (av (.iface T ev) rfl (wn ?_)))))))))))
    refine rq (aB (ax (ax (aB (aB (ax ?_))))))
    have hst : ca true big xs raw s = none := by have e0 : bL true big xs raw q8 72 = none := (by rw [hsec, show q8 - j = (q8 - (j + 1)) + 1 by omega, fY (show raw.length < 72 + 80 * j + 80 by omega)]; rfl); exact eU hys hns e0
    exact hR hst _ _ _ _ rfl rfl H98.keep
  ·
   simp only [bx] at hb51
   refine bF (a8 (a8 (aY (ao (ac (ad ?_))))))
   have hjn : j = q8 := by omega
   have e0 : bL true big xs raw q8 72 = some dn := by rw [hsec, show q8 - j = 0 by omega]; simp [bL]
   have hDj : NFD Dj.φ rb { s with secs := s.secs ++ dn } gd o m ds vs gsj sy dy := ⟨fun w h => hD.dat w (hjD w h), fun w h => hD.ld w (hjD w h), hjS, hD.sy.mono hjD, hD.dy.mono hjD⟩
   refine ae (mg j21 rfl (wv rfl ((show Yv _ _ _ _ (.bool true) _ from cJ (p := (some ⟨g11, 0, none⟩)) k6 rfl)) (wn (ay rfl (ad (ad ?_))))))
   by_cases hof40 : n8 big (ys.drop 40) < 9223372036854775808
   ·
    refine ae (mg j21 rfl (wc rfl (wf bi rfl (wv rfl (ab fC rfl) (wv rfl (H3.ld 1 rfl aM rfl (.u64 (n8 big (ys.drop 40))) rfl) (wv rfl (an cb f9 rfl (aE (by omega) (by omega))) (wv rfl (aZ rfl rfl (decide_eq_false (by omega))) (wn (aj rfl (wk (ad ?_)))))))))))
    refine ad ?_
    by_cases hof48 : n8 big (ys.drop 48) < 9223372036854775808
    ·
     refine ae (mg j21 rfl (wc rfl (wf bi rfl (wv rfl (ab fB rfl) (wv rfl (H3.ld 1 rfl aM rfl (.u64 (n8 big (ys.drop 48))) rfl) (wv rfl (an cb f9 rfl (aE (by omega) (by omega))) (wv rfl (aZ rfl rfl (decide_eq_false (by omega))) (wn (aj rfl (wk (ad ?_)))))))))))
     have H99 := H3.drew
     refine aO MX (fun w' => w'.cell? ⟨g11, 6, none⟩ = some (.u64 (n8 big (ys.drop 40))) ∧ w'.cell? ⟨g11, 7, none⟩ = some (.u64 (n8 big (ys.drop 48)))) (tr 0 14 (Pl.run 14 (Pl.take 15 (Pl.take 16 (Pl.run 17 Pl.done))))) (by kernel_rfl) (⟨H99.c 1 6 rfl rfl, H99.c 1 7 rfl rfl⟩) (qm (.pt g11) rfl j21 (qm (.iface 109 (.pt rb)) rfl j0 (qm (.pt g11) rfl j21 (qy rfl (ag rfl) (qy rfl (ab (o := 0) bi rfl) (qy rfl (ab (o := 1) fC rfl) (qh rfl (fun hS => ah aM rfl hS.1) (qy rfl (an (c := n8 big (ys.drop 40)) cb f9 rfl (aE (by omega) (by omega))) (qm (.pt g11) rfl j21 (qy rfl (ag rfl) (qy rfl (ab (o := 0) bi rfl) ?_)))))))))))
     refine qy rfl (ab (o := 1) fB rfl) (qh rfl (fun hS => ah aM rfl hS.2) (qy rfl (an (c := n8 big (ys.drop 48)) cb f9 rfl (aE (by omega) (by omega))) (qr rfl (ec sE (args := [.iface 109 (.pt rb), .i64 (n8 big (ys.drop 40)), .i64 (n8 big (ys.drop 48))]) rfl (aa (vH _ (by omega) (by omega) (by omega) (by omega)) ?_)))))
     rintro e w101 ⟨gs2, rs2, rfl, HS100⟩
     have H102 := H99.cal0 HS100
     refine ⟨_, rfl, ?_⟩
     refine ⟨⟨H102.c 2 6 rfl rfl, H102.c 2 7 rfl rfl⟩, fun _ => trivial, ?_⟩
     refine qy rfl (ag rfl) (qy rfl (ab (o := 0) kN rfl) (dx rfl (es H102 2 13 (.pt gs2) rfl fu (fun w104 H103 =>  ?_))))
     refine ⟨⟨H103.c 2 6 rfl rfl, H103.c 2 7 rfl rfl⟩, fun _ => trivial, ?_⟩
     refine pn (ae (mg j21 rfl (mg j21 rfl (wc rfl (wf kN rfl (wv rfl (H103.ld 2 rfl fu rfl (.pt gs2) rfl) (wv rfl (aF (v := .pt gs2) jF rfl) (wc rfl (wf qD rfl (ws (es H103 2 12 (.iface 133 (.pt gs2)) rfl gJ (fun w106 H105 =>  ?_))))))))))))
     refine bl ?_
     have hl : ([25, ↑sz, n8 big (ys.drop 24), n8 big (ys.drop 32), n8 big (ys.drop 40), n8 big (ys.drop 48), n4 big (ys.drop 56), n4 big (ys.drop 60), ↑q8, n4 big (ys.drop 68)] : List Int) = dk true big ys := by show _ = [n4 big (ys.drop 0), n4 big (ys.drop 4), n8 big (ys.drop 24), n8 big (ys.drop 32), n8 big (ys.drop 40), n8 big (ys.drop 48), n4 big (ys.drop 56), n4 big (ys.drop 60), n4 big (ys.drop 64), n4 big (ys.drop 68)]; rw [hc0, hc4, hq8]
     have hst : ca true big xs raw s = some { s with loads := s.loads ++ [⟨1, raw, a9 ((ys.drop 8).take 16), dk true big ys⟩], secs := s.secs ++ dn } := gY (show ¬ raw.length < 72 by omega) hys hns e0 (by show ¬ (_ ≤ n8 big (ys.drop 40) ∨ _ ≤ n8 big (ys.drop 48)); omega)
     have Hn : St w aW [aq fb [.u32 (h 0), .u32 (h 1), .u32 (h 2), .u32 (h 3), .u32 (h 4), .u32 (h 5), .u32 (h 6), .u8 (bo big), .slice A47 (nL + 1) c48, .slice ASj (nS + j) cSj, sy, dy] 121, aH 123 1 (.slice A47 (nL + 1) c48) (nL + 1) (vs ++ [.iface 160 (.pt g11)]), aH 125 1 (.slice ASj (nS + j) cSj) (nS + j) (bM gsj), Res.all [aq g11 [.sl gd o0 sz cr, .u32 25, .u32 (↑sz), .str (a9 ((ys.drop 8).take 16)), .u64 (n8 big (ys.drop 24)), .u64 (n8 big (ys.drop 32)), .u64 (n8 big (ys.drop 40)), .u64 (n8 big (ys.drop 48)), .u32 (n4 big (ys.drop 56)), .u32 (n4 big (ys.drop 60)), .u32 (↑q8), .u32 (n4 big (ys.drop 68)), .iface 133 (.pt gs2), .pt gs2] 181, Dj]] w106 := (H105.reAll [2, 6] [3, 4, 5]).re [1, 2, 3, 0]
     have hsub : ∀ w, (Res.all [aq g11 [.sl gd o0 sz cr, .u32 25, .u32 (↑sz), .str (a9 ((ys.drop 8).take 16)), .u64 (n8 big (ys.drop 24)), .u64 (n8 big (ys.drop 32)), .u64 (n8 big (ys.drop 40)), .u64 (n8 big (ys.drop 48)), .u32 (n4 big (ys.drop 56)), .u32 (n4 big (ys.drop 60)), .u32 (↑q8), .u32 (n4 big (ys.drop 68)), .iface 133 (.pt gs2), .pt gs2] 181, Dj]).φ w → Dj.φ w := fun w hh => aV.1 hh Dj (by simp)
     have hDn : NFD (Res.all [aq g11 [.sl gd o0 sz cr, .u32 25, .u32 (↑sz), .str (a9 ((ys.drop 8).take 16)), .u64 (n8 big (ys.drop 24)), .u64 (n8 big (ys.drop 32)), .u64 (n8 big (ys.drop 40)), .u64 (n8 big (ys.drop 48)), .u32 (n4 big (ys.drop 56)), .u32 (n4 big (ys.drop 60)), .u32 (↑q8), .u32 (n4 big (ys.drop 68)), .iface 133 (.pt gs2), .pt gs2] 181, Dj]).φ rb ({ s with loads := s.loads ++ [⟨1, raw, a9 ((ys.drop 8).take 16), dk true big ys⟩], secs := s.secs ++ dn }) gd o m ds (vs ++ [.iface 160 (.pt g11)]) gsj (sy) (dy) := ⟨fun w hh => hDj.dat w (hsub w hh), fun w hh => (hDj.ld w (hsub w hh)).snoc (by have hh := aV.1 hh; exact .inr (.inl ⟨_, _, _, raw, g11, _, _, _, fun k => ([25, ↑sz, n8 big (ys.drop 24), n8 big (ys.drop 32), n8 big (ys.drop 40), n8 big (ys.drop 48), n4 big (ys.drop 56), n4 big (ys.drop 60), ↑q8, n4 big (ys.drop 68)] : List Int).getD k 0, rfl, ly (by rw [hl]; exact sP hbys) (by decide), hh (aq g11 [.sl gd o0 sz cr, .u32 25, .u32 (↑sz), .str (a9 ((ys.drop 8).take 16)), .u64 (n8 big (ys.drop 24)), .u64 (n8 big (ys.drop 32)), .u64 (n8 big (ys.drop 40)), .u64 (n8 big (ys.drop 48)), .u32 (n4 big (ys.drop 56)), .u32 (n4 big (ys.drop 60)), .u32 (↑q8), .u32 (n4 big (ys.drop 68)), .iface 133 (.pt gs2), .pt gs2] 181) (by simp), (fun w h => hRaw w (hjD w h)) _ (hsub _ (aV.2 hh)), by omega, congrArg (LoadD.mk 1 raw _) hl.symm⟩)), fun w hh => hDj.sc w (hsub w hh), hDj.sy.mono hsub, hDj.dy.mono hsub⟩
     exact hQ _ _ _ hst ⟨j0, j4, ⟨_, j12, hof0, hof1⟩, j13, j16, j17⟩ ⟨Res.all [aq g11 [.sl gd o0 sz cr, .u32 25, .u32 (↑sz), .str (a9 ((ys.drop 8).take 16)), .u64 (n8 big (ys.drop 24)), .u64 (n8 big (ys.drop 32)), .u64 (n8 big (ys.drop 40)), .u64 (n8 big (ys.drop 48)), .u32 (n4 big (ys.drop 56)), .u32 (n4 big (ys.drop 60)), .u32 (↑q8), .u32 (n4 big (ys.drop 68)), .iface 133 (.pt gs2), .pt gs2] 181, Dj], _, _, _, _, _, _, vs ++ [.iface 160 (.pt g11)], gsj, _, _, .inr (.inl hjg), by omega, by omega, hDn, Hn⟩
    ·
     refine ae (mg j21 rfl (wc rfl (wf bi rfl (wv rfl (ab fB rfl) (wv rfl (H3.ld 1 rfl aM rfl (.u64 (n8 big (ys.drop 48))) rfl) (wv rfl (an (c := n8 big (ys.drop 48) - 18446744073709551616) cb f9 rfl (by rw [IntKind.wrap_i64]; omega)) (wv rfl (aZ rfl rfl (decide_eq_true (by omega))) (wn (ay rfl (ad ?_))))))))))
     have H107 := H3.drew
     refine aO MX (fun w' => w'.cell? ⟨g11, 7, none⟩ = some (.u64 (n8 big (ys.drop 48)))) (tr 0 8 (Pl.take 10 (Pl.run 8 (Pl.take 9 (Pl.take 11 Pl.done))))) (by kernel_rfl) (H107.c 1 7 rfl rfl) (qm (.i64 of) rfl j12 (qm (.pt g11) rfl j21 (qy rfl (ag rfl) (qy rfl (ab (o := 0) bi rfl) (qy rfl (ab (o := 1) fB rfl) (qh rfl (fun hS => ah aM rfl hS) (qy rfl (aF (v := .u64 (n8 big (ys.drop 48))) TC43 rfl) (qy rfl (yb (ps := [(0, .i64 of), (1, .string _), (2, .iface 43 (.u64 (n8 big (ys.drop 48))))]) (cells := #[.i64 of, .string (⟨#[105, 110, 118, 97, 108, 105, 100, 32, 115, 101, 99, 116, 105, 111, 110, 32, 102, 105, 108, 101, 32, 115, 105, 122, 101]⟩), .iface 43 (.u64 (n8 big (ys.drop 48)))]) rfl (by kernel_rfl)) (qa (.np) rfl rfl (qr rfl (ee H107 (vs := [.i64 of, .string _, .iface 43 (.u64 (n8 big (ys.drop 48)))]) rfl rfl (fun g108 w109 hgg108 H110 =>  ?_))))))))))))
     refine ⟨H110.c 2 7 rfl rfl, fun _ => trivial, ?_⟩
     refine qy rfl (aF (v := .pt g108) gR rfl) (qa (.iface 154 (.pt g108)) rfl rfl (pn (rq ?_)))
     have hst : ca true big xs raw s = none := gZ hys (.inr (show _ ≤ n8 big (ys.drop 48) by omega))
     exact hR hst _ _ _ _ rfl rfl H110.keep
   ·
    refine ae (mg j21 rfl (wc rfl (wf bi rfl (wv rfl (ab fC rfl) (wv rfl (H3.ld 1 rfl aM rfl (.u64 (n8 big (ys.drop 40))) rfl) (wv rfl (an (c := n8 big (ys.drop 40) - 18446744073709551616) cb f9 rfl (by rw [IntKind.wrap_i64]; omega)) (wv rfl (aZ rfl rfl (decide_eq_true (by omega))) (wn (ay rfl (ad ?_))))))))))
    have H111 := H3.drew
    refine aO MX (fun w' => w'.cell? ⟨g11, 6, none⟩ = some (.u64 (n8 big (ys.drop 40)))) (tr 0 8 (Pl.take 10 (Pl.run 8 (Pl.take 9 (Pl.take 11 Pl.done))))) (by kernel_rfl) (H111.c 1 6 rfl rfl) (qm (.i64 of) rfl j12 (qm (.pt g11) rfl j21 (qy rfl (ag rfl) (qy rfl (ab (o := 0) bi rfl) (qy rfl (ab (o := 1) fC rfl) (qh rfl (fun hS => ah aM rfl hS) (qy rfl (aF (v := .u64 (n8 big (ys.drop 40))) TC43 rfl) (qy rfl (yb (ps := [(0, .i64 of), (1, .string _), (2, .iface 43 (.u64 (n8 big (ys.drop 40))))]) (cells := #[.i64 of, .string (⟨#[105, 110, 118, 97, 108, 105, 100, 32, 115, 101, 99, 116, 105, 111, 110, 32, 111, 102, 102, 115, 101, 116]⟩), .iface 43 (.u64 (n8 big (ys.drop 40)))]) rfl (by kernel_rfl)) (qa (.np) rfl rfl (qr rfl (ee H111 (vs := [.i64 of, .string _, .iface 43 (.u64 (n8 big (ys.drop 40)))]) rfl rfl (fun g112 w113 hgg112 H114 =>  ?_))))))))))))
    refine ⟨H114.c 2 6 rfl rfl, fun _ => trivial, ?_⟩
    refine qy rfl (aF (v := .pt g112) gR rfl) (qa (.iface 154 (.pt g112)) rfl rfl (pn (rq ?_)))
    have hst : ca true big xs raw s = none := gZ hys (.inl (show _ ≤ n8 big (ys.drop 40) by omega))
    exact hR hst _ _ _ _ rfl rfl H114.keep
 ·
  refine ae (mp gq 0 rfl (wv rfl (aF (v := .pt gq) dW rfl) (mg h16 rfl (wE [.pt g1, .iface 109 (.pt gq), .u8 (bo big)] CK62 rfl rfl ?_))))
  have hne116 := H6.blk_ne (i := 0) (j := 1) rfl rfl (by decide)
  have hge1 := H6.ge (i := 0) rfl
  have hge2 := H6.ge (i := 1) rfl
  have hws := H6.keep.size
  refine aa (jn (ys := []) (i := 0) (A := some ⟨gd, o0, none⟩) (xs := raw) big _ (H6.g 1 rfl) (H6.g 0 rfl) (hG.keep H6.keep fun k hk => hk.elim) hscr (by omega) (hRaw _ (H6.g 5 rfl)) hrby (fun a ha => by injection ha with ha; subst ha; exact ⟨D.live _ _ (H6.g 5 rfl) hDg, H6.sepD (i := 0) (j := 5) rfl rfl (by decide) hDg, H6.sepD (i := 1) (j := 5) rfl rfl (by decide) hDg⟩) (by omega) (by omega) (by omega) (by omega) (by omega)) ?_
  rintro e w117 ⟨T, ev, rfl, HS115⟩
  have H118 := H6.ky 1 0 rfl rfl HS115 (fun _ h => h)
  refine ⟨_, rfl, ?_⟩
  refine av (.iface T ev) rfl (wn (sr (mv (.iface T ev) rfl (wv rfl ((nn true bq rfl (.inr ⟨_, _, rfl⟩))) (wn (ay rfl (sr (mv (.iface T ev) rfl (av (.np) rfl (av (.iface T ev) rfl (wn ?_)))))))))))
  refine rq (aB (ax ?_))
  have hst : ca true big xs raw s = none := if_pos (show raw.length < 72 by omega)
  exact hR hst _ _ _ _ rfl rfl H118.keep
end Go.Proofs.YtlndedfkgiafhaaDoor
