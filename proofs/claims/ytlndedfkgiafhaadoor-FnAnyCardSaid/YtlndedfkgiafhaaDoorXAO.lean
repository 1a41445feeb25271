import Derived.Test.YtlndedfkgiafhaaDoorXAN
set_option linter.unusedVariables false
set_option linter.unusedSimpArgs false
set_option maxRecDepth 100000
set_option maxHeartbeats 4000000
namespace Go.Proofs.YtlndedfkgiafhaaDoor
open Go Go.RowKit Go.Proofs
theorem sG : aX Tryd.prog 22 := aJ (by kernel_rfl)
theorem j7 : cQ Tryd.prog 76 [.string (⟨#[]⟩), .u8 0, .u8 0, .u16 0, .u64 0] := bv (by kernel_rfl)
theorem tI : (Tryd.prog.info? 76).map (·.size) = some 5 := by kernel_rfl
theorem ij : FA 76 0 0 := fa (by kernel_rfl)
theorem wb : gN Tryd.prog 76 5 := dR (by kernel_rfl)
theorem TU31 : Tryd.prog.underlying 31 = some (.slice 76) := by kernel_rfl
theorem TB76 : (Tryd.prog.info? 76).map (fun i => (i.zero, i.size, i.bytes)) = some (some (.agg #[.string (⟨#[]⟩), .u8 0, .u8 0, .u16 0, .u64 0]), 5, 32) := by kernel_rfl
theorem rE {fb gr or_ nr cr base : Nat} {gb ob N C nL cL : Nat} {AL : Option Addr} {xs : List Int} {lv : List LoadV} {vh vp vs vi : Value} {raw : List Int} (big : Bool) (w : World) (h0 : St w (Res.all [aq fb [vh, .bool big, .slice AL nL cL, vp, vs, vi] 33, aH 74 4 (.slice AL nL cL) nL (lv.flatMap LoadV.cells)]).F [aq fb [vh, .bool big, .slice AL nL cL, vp, vs, vi] 33, aH 74 4 (.slice AL nL cL) nL (lv.flatMap LoadV.cells)] w) (hB : ∀ g, (Res.all [aq fb [vh, .bool big, .slice AL nL cL, vp, vs, vi] 33, aH 74 4 (.slice AL nL cL) nL (lv.flatMap LoadV.cells)]).F g → base ≤ g) (hbw : base ≤ w.heap.size) (hrr : RI .u8 w (some ⟨gr, or_, none⟩) nr raw) (hrb : Byt raw) (hnr : nr ≤ cr) (hnN : nr < 10485760) (hgr : gr < base) (hr : RI .u8 w (some ⟨gb, ob, none⟩) N xs) (hby : Byt xs) (hNC : N ≤ C) (hN : N < 10485760) (hgb : gb < base) (hnL : nL ≤ 10485760) :
 Calls Tryd.prog 30 #[.pt fb, .sl gb ob N C, .bool false, .sl gr or_ nr cr] w fun e w' => (∃ (nn : List Int) (x : LoadV) (ss : List Sym) (AL2 AS2 : Option Addr) (cL2 nS2 cS2 : Nat) (D : Res), (∀ s, br false big xs raw s = some { s with loads := s.loads ++ [⟨4, raw, [], [0, 0, 0, 0, 0, 0]⟩], syms := some ss }) ∧ x.l = ⟨4, raw, [], nn⟩ ∧ x.vr = .sl gr or_ nr cr ∧ ss.length = nS2 ∧ nS2 ≤ 10485760 ∧ e = .returned (.bool true) ∧ St w (Res.all [aq fb [vh, .bool big, .slice AL nL cL, vp, vs, vi] 33, aH 74 4 (.slice AL nL cL) nL (lv.flatMap LoadV.cells)]).F [D, aq fb [vh, .bool big, .slice AL2 (nL + 1) cL2, vp, .slice AS2 nS2 cS2, vi] 33, aH 74 4 (.slice AL2 (nL + 1) cL2) (nL + 1) ((lv ++ [x]).flatMap LoadV.cells)] w' ∧ ∀ w, D.φ w → SlI' .u64 w x.vn nn ∧ RV w AS2 nS2 5 (ss.flatMap Sym.cells)) ∨ ((∀ s, br false big xs raw s = none) ∧ e = .returned (.bool false) ∧ St w (Res.all [aq fb [vh, .bool big, .slice AL nL cL, vp, vs, vi] 33, aH 74 4 (.slice AL nL cL) nL (lv.flatMap LoadV.cells)]).F [] w') := by
 refine a5 (args := [.pt fb, .sl gb ob N C, .bool false, .sl gr or_ nr cr]) Tryd.func30 rfl rfl rfl ?_
 have H0 : St _ _ [aq fb [vh, .bool big, .slice AL nL cL, vp, vs, vi] 33, aH 74 4 (.slice AL nL cL) nL (lv.flatMap LoadV.cells)] _ := h0
 refine sr (av (.bool false) rfl (wn (ad ?_)))
 have hrl := hrr.1
 by_cases hfit : 24 ≤ nr
 ·
  obtain ⟨ys, hys⟩ : ∃ q, q = (raw.drop 0).take 24 := ⟨_, rfl⟩
  have hbys : Byt ys := by rw [hys]; exact (hrb.drop _).take _
  obtain ⟨q8, hq8⟩ : ∃ q : Nat, (q : Int) = n4 big (ys.drop 8) := ⟨(n4 big (ys.drop 8)).toNat, Int.toNat_of_nonneg (aR big (hbys.drop _)).1⟩
  have hltq8 : (q8 : Int) < 4294967296 := by rw [hq8]; exact (aR big (hbys.drop _)).2
  obtain ⟨q12, hq12⟩ : ∃ q : Nat, (q : Int) = n4 big (ys.drop 12) := ⟨(n4 big (ys.drop 12)).toNat, Int.toNat_of_nonneg (aR big (hbys.drop _)).1⟩
  have hltq12 : (q12 : Int) < 4294967296 := by rw [hq12]; exact (aR big (hbys.drop _)).2
  obtain ⟨q16, hq16⟩ : ∃ q : Nat, (q : Int) = n4 big (ys.drop 16) := ⟨(n4 big (ys.drop 16)).toNat, Int.toNat_of_nonneg (aR big (hbys.drop _)).1⟩
  have hltq16 : (q16 : Int) < 4294967296 := by rw [hq16]; exact (aR big (hbys.drop _)).2
  obtain ⟨q20, hq20⟩ : ∃ q : Nat, (q : Int) = n4 big (ys.drop 20) := ⟨(n4 big (ys.drop 20)).toNat, Int.toNat_of_nonneg (aR big (hbys.drop _)).1⟩
  have hltq20 : (q20 : Int) < 4294967296 := by rw [hq20]; exact (aR big (hbys.drop _)).2
  have hNL : bp big (List.replicate 6 4) raw = [n4 big (ys.drop 0), n4 big (ys.drop 4), ↑q8, ↑q12, ↑q16, ↑q20] := by rw [hq8, hq12, hq16, hq20, hys]; exact lz big 6 24 (by omega) raw
  have H1 := H0.drew
  refine aO MX (fun w' => w'.cell? ⟨fb, 1, none⟩ = some (.bool big)) (tr 0 4 (Pl.take 5 (Pl.run 4 (Pl.run 6 (tr 7 5 Pl.done))))) (by kernel_rfl) (H1.c 0 1 rfl rfl) (qm (.pt fb) rfl rfl (qy rfl (ag rfl) (qy rfl (ab (o := 0) cO rfl) (qh rfl (fun hS => ah cU rfl hS) (qm (.sl gr or_ nr cr) rfl rfl (qr rfl (ec kg (args := [.i64 6]) rfl (aa (dQ (n := 6) _ (by omega)) ?_))))))))
  rintro e w3 ⟨A4, c4, rfl, HS2⟩
  have H4 := H1.cal0 HS2
  refine ⟨_, rfl, ?_⟩
  refine ⟨H4.c 1 1 rfl rfl, fun _ => trivial, ?_⟩
  refine qr rfl (ec gM (args := [.bool big, .slice A4 6 c4, .sl gr or_ nr cr]) rfl (aa (db (ws := List.replicate 6 4) (bs := raw) big _ (ce (H4.g 0 rfl)) (eJ _) (hrr.keepB H4.keep hB hgr) hnr (by omega) hrb (by decide) (K := 6) (by rw [eI]; omega) (by rw [hNL]; rfl) (by omega)) ?_))
  rintro e w6 ⟨gn, on, cB, Dn, rfl, hcB, HS5, hDn⟩
  rw [hNL] at hDn
  have H7 := H4.cal0 HS5
  refine ⟨_, rfl, ?_⟩
  refine ⟨H7.c 2 1 rfl rfl, fun _ => trivial, ?_⟩
  refine qm (.tuple #[.sl gn on 6 cB, .bool true]) rfl rfl (qy rfl (a7 (v := .sl gn on 6 cB) rfl rfl) (qy rfl (a7 (v := .bool true) rfl rfl) (qa (.sl gn on 6 cB) rfl rfl (qa (.bool true) rfl rfl (pn (sr (mv (.bool false) rfl (wE [.bool false] sG rfl rfl (aa (eZ _) ?_)))))))))
  rintro e w10 ⟨ADW8, nDW8, cDW8, DW8, rfl, h1DW8, HS9, hDW8⟩
  have H11 := H7.cal0 HS9
  refine ⟨_, rfl, ?_⟩
  refine wE [.slice ADW8 nDW8 cDW8] oP rfl rfl (aa (by have h := gf (ws := ll false) (cW := cDW8) _ (hDW8 _ (H11.g 0 rfl)) (dZ (jS false)) (by rw [← (hDW8 _ (H11.g 0 rfl)).1]; decide); rw [mG, show ((ep false : Nat) : Int) = 12 from rfl] at h; exact h) ?_)
  rintro e w13 ⟨rfl, HS12⟩
  have H14 := H11.cal0 HS12
  refine ⟨_, rfl, ?_⟩
  refine wv rfl (an (c := 12) eL be rfl rfl) (au 12 rfl (wn (ad (ad ?_))))
  by_cases hf1 : q20 = 0 ∨ q16 + q20 ≤ N
  ·
   by_cases hf2 : 12 * q12 = 0 ∨ q8 + 12 * q12 ≤ N
   ·
    have H15 := H14.drew
    refine aO MX (fun w' => w'.cell? ⟨gn, on + 4, none⟩ = some (.u64 (↑q16)) ∧ w'.cell? ⟨gn, on + 5, none⟩ = some (.u64 (↑q20)) ∧ w'.cell? ⟨gn, on + 2, none⟩ = some (.u64 (↑q8)) ∧ w'.cell? ⟨gn, on + 3, none⟩ = some (.u64 (↑q12))) (tr 0 10 (Pl.run 10 (tr 11 12 (Pl.run 23 (Pl.take 24 (Pl.take 25 Pl.done)))))) (by kernel_rfl) (⟨show World.cell? _ _ = some (.u64 (↑q16)) from (hDn _ (H15.g 1 rfl)).cellAt 4 (by omega), show World.cell? _ _ = some (.u64 (↑q20)) from (hDn _ (H15.g 1 rfl)).cellAt 5 (by omega), show World.cell? _ _ = some (.u64 (↑q8)) from (hDn _ (H15.g 1 rfl)).cellAt 2 (by omega), show World.cell? _ _ = some (.u64 (↑q12)) from (hDn _ (H15.g 1 rfl)).cellAt 3 (by omega)⟩) (qm (.bool true) rfl rfl (qy rfl (bB rfl) (qm (.bool false) rfl rfl (qz rfl rfl (al (v := .sl gb ob N C) rfl) (qz rfl rfl (al (v := .sl gn on 6 cB) rfl) (qz rfl rfl (aI (a := ⟨gn, on, none⟩) (i := 4) bA rfl rfl (by omega) (by omega)) (jQ rfl rfl (fun _ hS => ah aM rfl hS.1) (qz rfl rfl (al (v := .sl gn on 6 cB) rfl) (qz rfl rfl (aI (a := ⟨gn, on, none⟩) (i := 5) bA rfl rfl (by omega) (by omega)) (jQ rfl rfl (fun _ hS => ah aM rfl hS.2.1) (sK rfl rfl ?_)))))))))))
    refine ec fV (args := [.sl gb ob N C, .u64 (↑q16), .u64 (↑q20)]) rfl (aa (cZ _ (by omega) (by omega) hf1) ?_)
    rintro e w17 ⟨rfl, HS16⟩
    have H18 := H15.cal0 HS16
    refine ⟨_, rfl, ?_⟩
    refine ⟨⟨show World.cell? _ _ = some (.u64 (↑q16)) from (hDn _ (H18.g 1 rfl)).cellAt 4 (by omega), show World.cell? _ _ = some (.u64 (↑q20)) from (hDn _ (H18.g 1 rfl)).cellAt 5 (by omega), show World.cell? _ _ = some (.u64 (↑q8)) from (hDn _ (H18.g 1 rfl)).cellAt 2 (by omega), show World.cell? _ _ = some (.u64 (↑q12)) from (hDn _ (H18.g 1 rfl)).cellAt 3 (by omega)⟩, fun _ => trivial, ?_⟩
    refine qz rfl rfl (bB rfl) (qy rfl (aD (b := false) (v := .bool false) rfl rfl) (qm (.bool false) rfl rfl (qz rfl rfl (al (v := .sl gb ob N C) rfl) (qz rfl rfl (al (v := .sl gn on 6 cB) rfl) (qz rfl rfl (aI (a := ⟨gn, on, none⟩) (i := 2) bA rfl rfl (by omega) (by omega)) (jQ rfl rfl (fun _ hS => ah aM rfl hS.2.2.1) (qz rfl rfl (al (v := .u64 12) rfl) (qz rfl rfl (al (v := .sl gn on 6 cB) rfl) (qz rfl rfl (aI (a := ⟨gn, on, none⟩) (i := 3) bA rfl rfl (by omega) (by omega)) (jQ rfl rfl (fun _ hS => ah aM rfl hS.2.2.2) (qz rfl rfl (c6 (k := .u64) (c := ↑(12 * q12)) rfl rfl (by rw [a6 (by omega) (by omega)]; omega)) ?_)))))))))))
    refine sK rfl rfl (ec fV (args := [.sl gb ob N C, .u64 (↑q8), .u64 (↑(12 * q12))]) rfl (aa (cZ _ (by omega) (by omega) hf2) ?_))
    rintro e w20 ⟨rfl, HS19⟩
    have H21 := H18.cal0 HS19
    refine ⟨_, rfl, ?_⟩
    refine ⟨⟨show World.cell? _ _ = some (.u64 (↑q16)) from (hDn _ (H21.g 1 rfl)).cellAt 4 (by omega), show World.cell? _ _ = some (.u64 (↑q20)) from (hDn _ (H21.g 1 rfl)).cellAt 5 (by omega), show World.cell? _ _ = some (.u64 (↑q8)) from (hDn _ (H21.g 1 rfl)).cellAt 2 (by omega), show World.cell? _ _ = some (.u64 (↑q12)) from (hDn _ (H21.g 1 rfl)).cellAt 3 (by omega)⟩, fun _ => trivial, ?_⟩
    refine qz rfl rfl (bB rfl) (qy rfl (aD (b := false) (v := .bool false) rfl rfl) (pn (aj rfl (wk (ad ?_)))))
    obtain ⟨m0, hm0⟩ : ∃ m, m = min q16 N := ⟨_, rfl⟩
    obtain ⟨m1, hm1⟩ : ∃ m, m = min (q16 + q20) N := ⟨_, rfl⟩
    obtain ⟨ot, hot⟩ : ∃ ot, cR (some ⟨gb, ob, none⟩) C m0 1 = some ⟨gb, ot, none⟩ := by unfold cR; split; exact ⟨_, rfl⟩; exact ⟨ob + m0, by simp [bY]⟩
    obtain ⟨nt, hnt⟩ : ∃ m, m = m1 - m0 := ⟨_, rfl⟩
    obtain ⟨ct, hct⟩ : ∃ m, m = C - m0 := ⟨_, rfl⟩
    have hst : RI .u8 w (some ⟨gb, ot, none⟩) nt ((xs.drop q16).take q20) := by
     have h := hr.cut (c := C) (l := m0) (m := m1) (by omega) (by omega) hNC; rw [hot, ← hnt] at h
     rcases hf1 with e0 | e0
     · have : nt = 0 := by omega
       rw [this, List.take_zero] at h; rw [e0, List.take_zero, this]; exact h
     · have e1 : m0 = q16 := by omega
       have e2 : nt = q20 := by omega
       rw [e1, e2] at h; rw [e2]; exact h
    have hsb : Byt ((xs.drop q16).take q20) := (hby.drop _).take _
    have hsl := hst.1
    have H22 := H21.drew
    refine aO MX (fun w' => w'.cell? ⟨gn, on + 4, none⟩ = some (.u64 (↑q16)) ∧ w'.cell? ⟨gn, on + 5, none⟩ = some (.u64 (↑q20))) (tr 0 21 Pl.done) (by kernel_rfl) (⟨show World.cell? _ _ = some (.u64 (↑q16)) from (hDn _ (H22.g 1 rfl)).cellAt 4 (by omega), show World.cell? _ _ = some (.u64 (↑q20)) from (hDn _ (H22.g 1 rfl)).cellAt 5 (by omega)⟩) (qm (.sl gb ob N C) rfl rfl (qm (.sl gn on 6 cB) rfl rfl (qy rfl (aI (a := ⟨gn, on, none⟩) (i := 4) bA rfl rfl (by omega) (by omega)) (qh rfl (fun hS => ah aM rfl hS.1) (qm (.sl gb ob N C) rfl rfl (qy rfl (ba (n := N) co rfl) (qy rfl (an (c := ↑N) eL be rfl (a6 (by omega) (by omega))) (qy rfl (iu (c := ↑m0) rfl rfl (by split <;> omega)) (qm (.sl gn on 6 cB) rfl rfl (qy rfl (aI (a := ⟨gn, on, none⟩) (i := 4) bA rfl rfl (by omega) (by omega)) (qh rfl (fun hS => ah aM rfl hS.1) ?_)))))))))))
    refine qm (.sl gn on 6 cB) rfl rfl (qy rfl (aI (a := ⟨gn, on, none⟩) (i := 5) bA rfl rfl (by omega) (by omega)) (qh rfl (fun hS => ah aM rfl hS.2) (qy rfl (aT (k := .u64) (c := ↑(q16 + q20)) rfl rfl (by rw [a6 (by omega) (by omega)]; omega)) (qm (.sl gb ob N C) rfl rfl (qy rfl (ba (n := N) co rfl) (qy rfl (an (c := ↑N) eL be rfl (a6 (by omega) (by omega))) (qy rfl (iu (c := ↑m1) rfl rfl (by split <;> omega)) (qy rfl ((show Yv _ _ _ _ (Value.slice (some ⟨gb, ot, none⟩) nt ct) _ from by rw [← hot, hnt, hct]; exact dH (l := m0) (h := m1) aU rfl (bg rfl (by omega) (Int.toNat_natCast _)) (bg rfl (by omega) (Int.toNat_natCast _)) (by omega) (by omega))) (qa (.sl gb ot nt ct) rfl rfl (pn (sr ?_)))))))))))
    refine mp fb 0 rfl (wm rfl (eb H22 76 [] rfl (by kernel_rfl) (fun g23 w24 hgg23 H25 =>  wc rfl (wf fO rfl (ws (es H25 4 4 (.sl g23 0 0 0) rfl iD (fun w27 H26 =>  ?_)))))))
    refine wn (ad (sr (ms gn on 6 cB rfl (wv rfl (aI bA rfl rfl (by omega) (by omega)) (wv rfl (ah aM rfl (show World.cell? _ _ = some (.u64 (↑q12)) from (hDn _ (H26.g 2 rfl)).cellAt 3 (by omega))) (mu 0 rfl (wn (aC ?_))))))))
    have H30 : St w (Res.all [aq fb [vh, .bool big, .slice AL nL cL, vp, vs, vi] 33, aH 74 4 (.slice AL nL cL) nL (lv.flatMap LoadV.cells)]).F [aq fb [vh, .bool big, .slice AL nL cL, vp, .sl g23 0 0 0, vi] 33, aH 74 4 (.slice AL nL cL) nL (lv.flatMap LoadV.cells), aH 76 5 (.sl g23 0 0 0) 0 (((bO false big ((xs.drop q16).take q20) ((xs.drop q8).take (12 * q12)) q12).take 0).flatMap Sym.cells), Dn] w27 := (H26.rowOf (i := 0) (cap := 0) (sz := 5) rfl rfl (by simp [maxLen])).re [4, 5, 0, 2]
    refine bW (fun ρ w' => ∃ j : Nat, ∃ As : Option Addr, ∃ cs : Nat, ρ 0 = .pt fb ∧ ρ 1 = .sl gb ob N C ∧ ρ 2 = .bool false ∧ ρ 3 = .sl gr or_ nr cr ∧ ρ 9 = .sl gn on 6 cB ∧ ρ 11 = .u64 12 ∧ ρ 12 = .sl gb ot nt ct ∧ ρ 85 = .u64 (↑q12) ∧ ρ 86 = .u64 (↑j) ∧ j ≤ q12 ∧ (∀ k, k < j → ¬ ((xs.drop q16).take q20).length ≤ (n4 big (dB false ((xs.drop q8).take (12 * q12)) k)).toNat) ∧ St w (Res.all [aq fb [vh, .bool big, .slice AL nL cL, vp, vs, vi] 33, aH 74 4 (.slice AL nL cL) nL (lv.flatMap LoadV.cells)]).F [aq fb [vh, .bool big, .slice AL nL cL, vp, .slice As j cs, vi] 33, aH 74 4 (.slice AL nL cL) nL (lv.flatMap LoadV.cells), aH 76 5 (.slice As j cs) j (((bO false big ((xs.drop q16).take q20) ((xs.drop q8).take (12 * q12)) q12).take j).flatMap Sym.cells), Dn] w') (fun ρ _ => q12 + 1 - nv (ρ 86)) (⟨0, _, _, rfl, rfl, rfl, rfl, rfl, rfl, rfl, rfl, rfl, by omega, by omega, H30⟩) ?_
    rintro ρ w3 ⟨j, As, cs, g0, g1, g2, g3, g9, g11, g12, g85, g86, hj, hgood, H3⟩
    refine sr (wv rfl (cx g86 g85) (wn (ad ?_)))
    refine cf rfl (fun hb28 => ?_) (fun hb28 => ?_)
    ·
     simp only [bx] at hb28
     refine wk (ad (aC (sr (mg g86 rfl (au (↑j) rfl (wn (ad ?_)))))))
     have hjn : j < q12 := by omega
     obtain ⟨zs, hzs⟩ : ∃ z, z = (xs.drop (q8 + (12 * j))).take 12 := ⟨_, rfl⟩
     have hbzs : Byt zs := by rw [hzs]; exact (hby.drop _).take _
     have hn4 := aR big hbzs
     obtain ⟨nm, hnm⟩ : ∃ q : Nat, (q : Int) = n4 big zs := ⟨(n4 big zs).toNat, Int.toNat_of_nonneg hn4.1⟩
     have hnmn : (n4 big zs).toNat = nm := by omega
     have hNL2 : bp big (ll false) (xs.drop (q8 + (12 * j))) = [↑nm, zs.getD 4 0, zs.getD 5 0, n2 big (zs.drop 6), n4 big (zs.drop 8)] := by rw [hnm, hzs]; exact nlV false big _
     have hzy : dB false ((xs.drop q8).take (12 * q12)) j = zs := by rw [hzs]; exact nI (wide := false) hjn
     have b4 := hbzs 4
     have b5 := hbzs 5
     have b6 := lT big (hbzs.drop 6)
     have hNSb : Byt (a9 (((xs.drop q16).take q20).drop nm)) := (hsb.drop _).cst
     have H29 := H3.drew
     refine aO MX (fun w' => w'.cell? ⟨fb, 1, none⟩ = some (.bool big) ∧ w'.cell? ⟨gn, on + 2, none⟩ = some (.u64 (↑q8))) (tr 0 5 (tr 6 9 (Pl.run 5 (Pl.run 15 (tr 16 5 Pl.done))))) (by kernel_rfl) (⟨H29.c 0 1 rfl rfl, show World.cell? _ _ = some (.u64 (↑q8)) from (hDn _ (H29.g 3 rfl)).cellAt 2 (by omega)⟩) (qm (.pt fb) rfl g0 (qy rfl (ag rfl) (qy rfl (ab (o := 0) cO rfl) (qh rfl (fun hS => ah cU rfl hS.1) (qm (.bool false) rfl g2 (qm (.sl gb ob N C) rfl g1 (qm (.sl gn on 6 cB) rfl g9 (qy rfl (aI (a := ⟨gn, on, none⟩) (i := 2) bA rfl rfl (by omega) (by omega)) (qh rfl (fun hS => ah aM rfl hS.2) (qm (.u64 12) rfl g11 (qm (.u64 (↑j)) rfl rfl ?_)))))))))))
     refine qy rfl (c6 (k := .u64) (c := ↑(12 * j)) rfl rfl (by rw [a6 (by omega) (by omega)]; omega)) (qy rfl (aT (k := .u64) (c := ↑(q8 + (12 * j))) rfl rfl (by rw [a6 (by omega) (by omega)]; omega)) (qt rfl (fun _ hS => (am (l := (q8 + (12 * j))) (h := N) aU rfl (bs rfl (by omega) (Int.toNat_natCast _)) bn (by omega) (by omega) (by omega) (by omega) : Yv _ _ _ _ (.sl gb (ob + (q8 + (12 * j))) (N - (q8 + (12 * j))) (C - (q8 + (12 * j)))) _)) (qr rfl (ec sG (args := [.bool false]) rfl (aa (eZ _) ?_)))))
     rintro e w32 ⟨ADW30, nDW30, cDW30, DW30, rfl, h1DW30, HS31, hDW30⟩
     have H33 := H29.cal0 HS31
     refine ⟨_, rfl, ?_⟩
     refine ⟨⟨H33.c 1 1 rfl rfl, show World.cell? _ _ = some (.u64 (↑q8)) from (hDn _ (H33.g 4 rfl)).cellAt 2 (by omega)⟩, fun _ => trivial, ?_⟩
     refine qr rfl (ec gM (args := [.bool big, .slice ADW30 nDW30 cDW30, .sl gb (ob + (q8 + (12 * j))) (N - (q8 + (12 * j))) (C - (q8 + (12 * j)))]) rfl (aa (db (ws := ll false) (bs := xs.drop (q8 + (12 * j))) (K := 5) big _ (hDW30 _ (H33.g 0 rfl)) (jS _) ((hr.keepB H33.keep hB hgb).drop_ (q8 + (12 * j))) (by omega) (by omega) (hby.drop _) (by decide) (show 12 ≤ N - (q8 + (12 * j)) by omega) (by rw [hNL2]; rfl) (by omega)) ?_))
     rintro e w35 ⟨gm, om, cm, Dm, rfl, hcm, HS34, hDm⟩
     rw [hNL2] at hDm
     have H36 := H33.cal0 HS34
     refine ⟨_, rfl, ?_⟩
     refine ⟨⟨H36.c 2 1 rfl rfl, show World.cell? _ _ = some (.u64 (↑q8)) from (hDn _ (H36.g 5 rfl)).cellAt 2 (by omega)⟩, fun _ => trivial, ?_⟩
     refine qm (.tuple #[.sl gm om 5 cm, .bool true]) rfl rfl (qy rfl (a7 (v := .sl gm om 5 cm) rfl rfl) (qy rfl (a7 (v := .bool true) rfl rfl) (qa (.sl gm om 5 cm) rfl rfl (qa (.bool true) rfl rfl (pn (ad (sr (ms gm om 5 cm rfl (wv rfl (aI bA rfl rfl (by omega) (by omega)) (wv rfl (ah aM rfl (show World.cell? _ _ = some (.u64 (↑nm)) from (hDm _ (H36.g 0 rfl)).cellAt 0 (by omega))) (mg g12 rfl ?_)))))))))))
     refine wv rfl (ba co rfl) (wv rfl (an eL be rfl (a6 (by omega) (by omega))) (wv rfl (i5 rfl rfl) (wn ?_)))
     refine cf rfl (fun hb37 => ?_) (fun hb37 => ?_)
     ·
      simp only [bx] at hb37
      refine sr (av (.bool false) rfl (wn (rq (aB (ax (ax (aB (ax ?_))))))))
      exact ⟨.inr rfl, _, r1 (.bool false) rfl _ _, .inr ⟨fun s => by have e1 : gG xs q16 q20 = some ((xs.drop q16).take q20) := bT (by rw [hr.1]; exact hf1); have e2 : gG xs q8 (ep false * q12) = some ((xs.drop q8).take (12 * q12)) := bT (by rw [hr.1]; exact hf2); have e3 : m7 false big ((xs.drop q16).take q20) ((xs.drop q8).take (12 * q12)) q12 = none := if_neg (fun h => h j hjn (by rw [hzy]; omega)); simp only [br, ← hys, ← hq8, ← hq12, ← hq16, ← hq20, Int.toNat_natCast, e1, e2, e3]; rw [if_neg (by omega)], rfl, H36.sub (List.nil_sublist _)⟩⟩
     ·
      simp only [bx] at hb37
      refine wk ?_
      refine fm (fun ρ w' => ∃ (g16 : Nat), ρ 0 = .pt fb ∧ ρ 1 = .sl gb ob N C ∧ ρ 2 = .bool false ∧ ρ 3 = .sl gr or_ nr cr ∧ ρ 9 = .sl gn on 6 cB ∧ ρ 11 = .u64 12 ∧ ρ 12 = .sl gb ot nt ct ∧ ρ 85 = .u64 (↑q12) ∧ ρ 86 = .u64 (↑j) ∧ ρ 16 = .pt g16 ∧ St w (Res.all [aq fb [vh, .bool big, .slice AL nL cL, vp, vs, vi] 33, aH 74 4 (.slice AL nL cL) nL (lv.flatMap LoadV.cells)]).F [aq g16 [.str (a9 (((xs.drop q16).take q20).drop nm)), .u8 (zs.getD 4 0), .u8 (zs.getD 5 0), .u16 (n2 big (zs.drop 6)), .u64 (n4 big (zs.drop 8))] 76, aq fb [vh, .bool big, .slice AL nL cL, vp, .slice As j cs, vi] 33, aH 74 4 (.slice AL nL cL) nL (lv.flatMap LoadV.cells), aH 76 5 (.slice As j cs) j (((bO false big ((xs.drop q16).take q20) ((xs.drop q8).take (12 * q12)) q12).take j).flatMap Sym.cells), Dn] w') ?_ ?_
      ·
       have H38 := H36.drew
       refine aO MX (fun w' => w'.cell? ⟨gm, om, none⟩ = some (.u64 (↑nm)) ∧ w'.cell? ⟨gm, om + 1, none⟩ = some (.u64 (zs.getD 4 0)) ∧ w'.cell? ⟨gm, om + 2, none⟩ = some (.u64 (zs.getD 5 0)) ∧ w'.cell? ⟨gm, om + 3, none⟩ = some (.u64 (n2 big (zs.drop 6))) ∧ w'.cell? ⟨gm, om + 4, none⟩ = some (.u64 (n4 big (zs.drop 8)))) (tr 0 5 (tr 6 15 (Pl.run2 5 (Pl.take 21 (Pl.run 22 (Pl.run 23 Pl.done))) 22 (Pl.run 5 (Pl.take 21 (Pl.run 23 Pl.done)))))) (by kernel_rfl) (⟨show World.cell? _ _ = some (.u64 (↑nm)) from (hDm _ (H38.g 0 rfl)).cellAt 0 (by omega), show World.cell? _ _ = some (.u64 (zs.getD 4 0)) from (hDm _ (H38.g 0 rfl)).cellAt 1 (by omega), show World.cell? _ _ = some (.u64 (zs.getD 5 0)) from (hDm _ (H38.g 0 rfl)).cellAt 2 (by omega), show World.cell? _ _ = some (.u64 (n2 big (zs.drop 6))) from (hDm _ (H38.g 0 rfl)).cellAt 3 (by omega), show World.cell? _ _ = some (.u64 (n4 big (zs.drop 8))) from (hDm _ (H38.g 0 rfl)).cellAt 4 (by omega)⟩) (qm (.sl gb ot nt ct) rfl g12 (qm (.sl gm om 5 cm) rfl rfl (qy rfl (aI (a := ⟨gm, om, none⟩) (i := 0) bA rfl rfl (by omega) (by omega)) (qh rfl (fun hS => ah aM rfl hS.1) (qt rfl (fun _ hS => (am (l := nm) (h := nt) aU rfl (bs rfl (by omega) (Int.toNat_natCast _)) bn (by omega) (by omega) (by omega) (by omega) : Yv _ _ _ _ (.sl gb (ot + nm) (nt - nm) (ct - nm)) _)) (qm (.sl gm om 5 cm) rfl rfl (qy rfl (aI (a := ⟨gm, om, none⟩) (i := 1) bA rfl rfl (by omega) (by omega)) (qh rfl (fun hS => ah aM rfl hS.2.1) (qy rfl (an (c := zs.getD 4 0) cb kG rfl (fw (by omega) (by omega))) (qm (.sl gm om 5 cm) rfl rfl (qy rfl (aI (a := ⟨gm, om, none⟩) (i := 2) bA rfl rfl (by omega) (by omega)) ?_)))))))))))
       refine qh rfl (fun hS => ah aM rfl hS.2.2.1) (qy rfl (an (c := zs.getD 5 0) cb kG rfl (fw (by omega) (by omega))) (qm (.sl gm om 5 cm) rfl rfl (qy rfl (aI (a := ⟨gm, om, none⟩) (i := 3) bA rfl rfl (by omega) (by omega)) (qh rfl (fun hS => ah aM rfl hS.2.2.2.1) (qy rfl (an (c := n2 big (zs.drop 6)) cb rZ rfl (jd (by omega) (by omega))) (qm (.sl gm om 5 cm) rfl rfl (qy rfl (aI (a := ⟨gm, om, none⟩) (i := 4) bA rfl rfl (by omega) (by omega)) (qh rfl (fun hS => ah aM rfl hS.2.2.2.2) ?_))))))))
       refine ⟨?_, ?_⟩
       ·
        refine po rfl (ec dz (args := [.sl gb (ot + nm) (nt - nm) (ct - nm)]) rfl (aa (bG _ ((hst.keepB H38.keep hB hgb).drop_ nm) (by omega) (by omega)) ?_))
        rintro e w40 ⟨rfl, HS39⟩
        have H41 := H38.cal0 HS39
        refine ⟨_, rfl, ?_⟩
        refine ⟨⟨show World.cell? _ _ = some (.u64 (↑nm)) from (hDm _ (H41.g 0 rfl)).cellAt 0 (by omega), show World.cell? _ _ = some (.u64 (zs.getD 4 0)) from (hDm _ (H41.g 0 rfl)).cellAt 1 (by omega), show World.cell? _ _ = some (.u64 (zs.getD 5 0)) from (hDm _ (H41.g 0 rfl)).cellAt 2 (by omega), show World.cell? _ _ = some (.u64 (n2 big (zs.drop 6))) from (hDm _ (H41.g 0 rfl)).cellAt 3 (by omega), show World.cell? _ _ = some (.u64 (n4 big (zs.drop 8))) from (hDm _ (H41.g 0 rfl)).cellAt 4 (by omega)⟩, fun _ => trivial, ?_⟩
        refine qy rfl (yb (ps := [(0, .str (a9 (((xs.drop q16).take q20).drop nm))), (1, .u8 (zs.getD 4 0)), (2, .u8 (zs.getD 5 0)), (3, .u16 (n2 big (zs.drop 6))), (4, .u64 (n4 big (zs.drop 8)))]) (cells := #[.str (a9 (((xs.drop q16).take q20).drop nm)), .u8 (zs.getD 4 0), .u8 (zs.getD 5 0), .u16 (n2 big (zs.drop 6)), .u64 (n4 big (zs.drop 8))]) rfl (by kernel_rfl)) (qr rfl (aK H41 j7 (fun g42 w43 hgg42 H44 =>  ?_)))
        refine ⟨⟨show World.cell? _ _ = some (.u64 (↑nm)) from (hDm _ (H44.g 1 rfl)).cellAt 0 (by omega), show World.cell? _ _ = some (.u64 (zs.getD 4 0)) from (hDm _ (H44.g 1 rfl)).cellAt 1 (by omega), show World.cell? _ _ = some (.u64 (zs.getD 5 0)) from (hDm _ (H44.g 1 rfl)).cellAt 2 (by omega), show World.cell? _ _ = some (.u64 (n2 big (zs.drop 6))) from (hDm _ (H44.g 1 rfl)).cellAt 3 (by omega), show World.cell? _ _ = some (.u64 (n4 big (zs.drop 8))) from (hDm _ (H44.g 1 rfl)).cellAt 4 (by omega)⟩, fun _ => trivial, ?_⟩
        refine dx rfl (eN H44 0 [.str (a9 (((xs.drop q16).take q20).drop nm)), .u8 (zs.getD 4 0), .u8 (zs.getD 5 0), .u16 (n2 big (zs.drop 6)), .u64 (n4 big (zs.drop 8))] rfl tI (fun w46 H45 =>  ?_))
        refine ⟨⟨show World.cell? _ _ = some (.u64 (↑nm)) from (hDm _ (H45.g 1 rfl)).cellAt 0 (by omega), show World.cell? _ _ = some (.u64 (zs.getD 4 0)) from (hDm _ (H45.g 1 rfl)).cellAt 1 (by omega), show World.cell? _ _ = some (.u64 (zs.getD 5 0)) from (hDm _ (H45.g 1 rfl)).cellAt 2 (by omega), show World.cell? _ _ = some (.u64 (n2 big (zs.drop 6))) from (hDm _ (H45.g 1 rfl)).cellAt 3 (by omega), show World.cell? _ _ = some (.u64 (n4 big (zs.drop 8))) from (hDm _ (H45.g 1 rfl)).cellAt 4 (by omega)⟩, fun _ => trivial, ?_⟩
        refine pn ?_
        exact ⟨_, g0, g1, g2, g3, g9, g11, g12, g85, g86, rfl, H45.re [0, 3, 4, 5, 6]⟩
       ·
        refine po rfl (aK H38 j7 (fun g47 w48 hgg47 H49 =>  ?_))
        refine ⟨⟨show World.cell? _ _ = some (.u64 (↑nm)) from (hDm _ (H49.g 1 rfl)).cellAt 0 (by omega), show World.cell? _ _ = some (.u64 (zs.getD 4 0)) from (hDm _ (H49.g 1 rfl)).cellAt 1 (by omega), show World.cell? _ _ = some (.u64 (zs.getD 5 0)) from (hDm _ (H49.g 1 rfl)).cellAt 2 (by omega), show World.cell? _ _ = some (.u64 (n2 big (zs.drop 6))) from (hDm _ (H49.g 1 rfl)).cellAt 3 (by omega), show World.cell? _ _ = some (.u64 (n4 big (zs.drop 8))) from (hDm _ (H49.g 1 rfl)).cellAt 4 (by omega)⟩, fun _ => trivial, ?_⟩
        refine qr rfl (ec dz (args := [.sl gb (ot + nm) (nt - nm) (ct - nm)]) rfl (aa (bG _ ((hst.keepB H49.keep hB hgb).drop_ nm) (by omega) (by omega)) ?_))
        rintro e w51 ⟨rfl, HS50⟩
        have H52 := H49.cal0 HS50
        refine ⟨_, rfl, ?_⟩
        refine ⟨⟨show World.cell? _ _ = some (.u64 (↑nm)) from (hDm _ (H52.g 1 rfl)).cellAt 0 (by omega), show World.cell? _ _ = some (.u64 (zs.getD 4 0)) from (hDm _ (H52.g 1 rfl)).cellAt 1 (by omega), show World.cell? _ _ = some (.u64 (zs.getD 5 0)) from (hDm _ (H52.g 1 rfl)).cellAt 2 (by omega), show World.cell? _ _ = some (.u64 (n2 big (zs.drop 6))) from (hDm _ (H52.g 1 rfl)).cellAt 3 (by omega), show World.cell? _ _ = some (.u64 (n4 big (zs.drop 8))) from (hDm _ (H52.g 1 rfl)).cellAt 4 (by omega)⟩, fun _ => trivial, ?_⟩
        refine qy rfl (yb (ps := [(0, .str (a9 (((xs.drop q16).take q20).drop nm))), (1, .u8 (zs.getD 4 0)), (2, .u8 (zs.getD 5 0)), (3, .u16 (n2 big (zs.drop 6))), (4, .u64 (n4 big (zs.drop 8)))]) (cells := #[.str (a9 (((xs.drop q16).take q20).drop nm)), .u8 (zs.getD 4 0), .u8 (zs.getD 5 0), .u16 (n2 big (zs.drop 6)), .u64 (n4 big (zs.drop 8))]) rfl (by kernel_rfl)) (dx rfl (eN H52 0 [.str (a9 (((xs.drop q16).take q20).drop nm)), .u8 (zs.getD 4 0), .u8 (zs.getD 5 0), .u16 (n2 big (zs.drop 6)), .u64 (n4 big (zs.drop 8))] rfl tI (fun w54 H53 =>  ?_)))
        refine ⟨⟨show World.cell? _ _ = some (.u64 (↑nm)) from (hDm _ (H53.g 1 rfl)).cellAt 0 (by omega), show World.cell? _ _ = some (.u64 (zs.getD 4 0)) from (hDm _ (H53.g 1 rfl)).cellAt 1 (by omega), show World.cell? _ _ = some (.u64 (zs.getD 5 0)) from (hDm _ (H53.g 1 rfl)).cellAt 2 (by omega), show World.cell? _ _ = some (.u64 (n2 big (zs.drop 6))) from (hDm _ (H53.g 1 rfl)).cellAt 3 (by omega), show World.cell? _ _ = some (.u64 (n4 big (zs.drop 8))) from (hDm _ (H53.g 1 rfl)).cellAt 4 (by omega)⟩, fun _ => trivial, ?_⟩
        refine pn ?_
        exact ⟨_, g0, g1, g2, g3, g9, g11, g12, g85, g86, rfl, H53.re [0, 3, 4, 5, 6]⟩
      ·
       rintro ρ4 w4 ⟨g16, k0, k1, k2, k3, k9, k11, k12, k85, k86, k16, H4⟩
       refine fm (fun ρ w' => ρ 0 = .pt fb ∧ ρ 1 = .sl gb ob N C ∧ ρ 2 = .bool false ∧ ρ 3 = .sl gr or_ nr cr ∧ ρ 9 = .sl gn on 6 cB ∧ ρ 11 = .u64 12 ∧ ρ 12 = .sl gb ot nt ct ∧ ρ 85 = .u64 (↑q12) ∧ ρ 86 = .u64 (↑j) ∧ ρ 16 = .pt g16 ∧ St w (Res.all [aq fb [vh, .bool big, .slice AL nL cL, vp, vs, vi] 33, aH 74 4 (.slice AL nL cL) nL (lv.flatMap LoadV.cells)]).F [aq g16 [.str (de (a9 (((xs.drop q16).take q20).drop nm))), .u8 (zs.getD 4 0), .u8 (zs.getD 5 0), .u16 (n2 big (zs.drop 6)), .u64 (n4 big (zs.drop 8))] 76, aq fb [vh, .bool big, .slice AL nL cL, vp, .slice As j cs, vi] 33, aH 74 4 (.slice AL nL cL) nL (lv.flatMap LoadV.cells), aH 76 5 (.slice As j cs) j (((bO false big ((xs.drop q16).take q20) ((xs.drop q8).take (12 * q12)) q12).take j).flatMap Sym.cells), Dn] w') ?_ ?_
       ·
        refine sr (wv rfl (ab ij k16) (wv rfl (H4.ld 0 rfl d9 rfl (.str (a9 (((xs.drop q16).take q20).drop nm))) rfl) (wm rfl (pL H4 lO rfl (fun g55 w56 H57 =>  wn (aC ?_))))))
        have H50 : St w (Res.all [aq fb [vh, .bool big, .slice AL nL cL, vp, vs, vi] 33, aH 74 4 (.slice AL nL cL) nL (lv.flatMap LoadV.cells)]).F [j2 g55 (strOfNums (a9 (((xs.drop q16).take q20).drop nm))) 0, aq g16 [.str (a9 (((xs.drop q16).take q20).drop nm)), .u8 (zs.getD 4 0), .u8 (zs.getD 5 0), .u16 (n2 big (zs.drop 6)), .u64 (n4 big (zs.drop 8))] 76, aq fb [vh, .bool big, .slice AL nL cL, vp, .slice As j cs, vi] 33, aH 74 4 (.slice AL nL cL) nL (lv.flatMap LoadV.cells), aH 76 5 (.slice As j cs) j (((bO false big ((xs.drop q16).take q20) ((xs.drop q8).take (12 * q12)) q12).take j).flatMap Sym.cells), Dn] w56 := H57.re [0, 1, 2, 3, 4, 5]
        refine bW (fun ρ w' => ∃ p : Nat, ρ 0 = .pt fb ∧ ρ 1 = .sl gb ob N C ∧ ρ 2 = .bool false ∧ ρ 3 = .sl gr or_ nr cr ∧ ρ 9 = .sl gn on 6 cB ∧ ρ 11 = .u64 12 ∧ ρ 12 = .sl gb ot nt ct ∧ ρ 85 = .u64 (↑q12) ∧ ρ 86 = .u64 (↑j) ∧ ρ 16 = .pt g16 ∧ ρ 139 = .pt g55 ∧ (∀ i, i < p → (a9 (((xs.drop q16).take q20).drop nm)).getD i 0 = 46 → (a9 (((xs.drop q16).take q20).drop nm)).getD 0 0 ≠ 95) ∧ St w (Res.all [aq fb [vh, .bool big, .slice AL nL cL, vp, vs, vi] 33, aH 74 4 (.slice AL nL cL) nL (lv.flatMap LoadV.cells)]).F [j2 g55 (strOfNums (a9 (((xs.drop q16).take q20).drop nm))) p, aq g16 [.str (a9 (((xs.drop q16).take q20).drop nm)), .u8 (zs.getD 4 0), .u8 (zs.getD 5 0), .u16 (n2 big (zs.drop 6)), .u64 (n4 big (zs.drop 8))] 76, aq fb [vh, .bool big, .slice AL nL cL, vp, .slice As j cs, vi] 33, aH 74 4 (.slice AL nL cL) nL (lv.flatMap LoadV.cells), aH 76 5 (.slice As j cs) j (((bO false big ((xs.drop q16).take q20) ((xs.drop q8).take (12 * q12)) q12).take j).flatMap Sym.cells), Dn] w') (fun ρ w' => (a9 (((xs.drop q16).take q20).drop nm)).length - w'.iterPos g55) ⟨0, k0, k1, k2, k3, k9, k11, k12, k85, k86, k16, rfl, by omega, H50⟩ ?_
        rintro ρ6 w6 ⟨p, n0, n1, n2, n3, n9, n11, n12, n85, n86, n16, n139, hpd, H6⟩
        refine ad ?_
        by_cases hpl : p < (a9 (((xs.drop q16).take q20).drop nm)).length
        ·
         have hns0 : 0 < (a9 (((xs.drop q16).take q20).drop nm)).length := by omega
         refine ae (wm rfl (tf H6 0 rfl n139 (by rw [strOfNums_size]; exact hpl) (fun w59 H58 =>  we (.bool true) rfl rfl (wn (ad (ay rfl (wk (aC (sr (we (.i32 (↑(Utf8.decode (strOfNums (a9 (((xs.drop q16).take q20).drop nm))) p).1 : Int)) rfl rfl (av (.i32 (↑(Utf8.decode (strOfNums (a9 (((xs.drop q16).take q20).drop nm))) p).1 : Int)) rfl ?_)))))))))))
         refine wn (sr (mv (.i32 (↑(Utf8.decode (strOfNums (a9 (((xs.drop q16).take q20).drop nm))) p).1 : Int)) rfl (wv rfl (fW rfl rfl) (mv (.bool ((↑(Utf8.decode (strOfNums (a9 (((xs.drop q16).take q20).drop nm))) p).1 : Int) == 46)) rfl ?_))))
         generalize hb60 : ((↑(Utf8.decode (strOfNums (a9 (((xs.drop q16).take q20).drop nm))) p).1 : Int) == 46) = bb
         cases bb
         ·
          simp only [bx] at hb60
          refine cM rfl rfl (cM rfl rfl (cM rfl rfl (cM rfl rfl (wv rfl (aD (b := false) (v := .bool false) rfl rfl) (wn (aj rfl (cG (ao (ac ?_)))))))))
          have it0 : w6.iterPos g55 = p := by have h : w6.heap[g55]? = some (.stringIter (strOfNums (a9 (((xs.drop q16).take q20).drop nm))) p) := H6.g 0 rfl; simp [World.iterPos, h]
          have it1 : (w59).iterPos g55 = p + (Utf8.decode (strOfNums (a9 (((xs.drop q16).take q20).drop nm))) p).2 := by have h : (w59).heap[g55]? = some (.stringIter (strOfNums (a9 (((xs.drop q16).take q20).drop nm))) (p + (Utf8.decode (strOfNums (a9 (((xs.drop q16).take q20).drop nm))) p).2)) := H58.g 0 rfl; simp [World.iterPos, h]
          have hw1 := (eC (strOfNums (a9 (((xs.drop q16).take q20).drop nm))) p).1
          exact ⟨⟨_, n0, n1, n2, n3, n9, n11, n12, n85, n86, n16, n139, iP hNSb hpl hpd (fun he => absurd (Int.ofNat_inj.2 he) hb60), H58.re [0, 1, 2, 3, 4, 5]⟩, by rw [it0, it1]; omega⟩
         ·
          simp only [bx] at hb60
          refine aP rfl rfl (ab ij n16) (aP rfl rfl (H58.ld 1 rfl d9 rfl (.str (a9 (((xs.drop q16).take q20).drop nm))) rfl) (aP rfl rfl (fz (ns := (a9 (((xs.drop q16).take q20).drop nm))) lO rfl rfl hns0 hNSb) (aP rfl rfl (fW rfl rfl) (wv rfl (aD (b := true) (v := .bool ((a9 (((xs.drop q16).take q20).drop nm)).getD 0 0 == 95)) rfl rfl) (wn ?_)))))
          refine cf rfl (fun hb61 => ?_) (fun hb61 => ?_)
          ·
           simp only [bx] at hb61
           refine sr (wv rfl (ab ij n16) (wv rfl (H58.ld 1 rfl d9 rfl (.str (a9 (((xs.drop q16).take q20).drop nm))) rfl) (wv rfl (fy (ns := (a9 (((xs.drop q16).take q20).drop nm))) lO rfl rfl hns0) (wv rfl (ab ij n16) (ws (es H58 1 0 (.str ((a9 (((xs.drop q16).take q20).drop nm)).drop 1)) rfl d9 (fun w63 H62 =>  ?_)))))))
           refine wn (bF (lq rfl (a8 (aY (ac ?_)))))
           have hsp : (a9 (((xs.drop q16).take q20).drop nm)).drop 1 = de (a9 (((xs.drop q16).take q20).drop nm)) := by unfold de; rw [if_pos ⟨nU hNSb hpl (by have := hb60; omega), hb61⟩]
           rw [hsp] at H62
           exact ⟨n0, n1, n2, n3, n9, n11, n12, n85, n86, n16, by have h := H62.re [1, 2, 3, 4, 5]; exact h⟩
          ·
           simp only [bx] at hb61
           refine cG (ao (ac ?_))
           have it0 : w6.iterPos g55 = p := by have h : w6.heap[g55]? = some (.stringIter (strOfNums (a9 (((xs.drop q16).take q20).drop nm))) p) := H6.g 0 rfl; simp [World.iterPos, h]
           have it1 : (w59).iterPos g55 = p + (Utf8.decode (strOfNums (a9 (((xs.drop q16).take q20).drop nm))) p).2 := by have h : (w59).heap[g55]? = some (.stringIter (strOfNums (a9 (((xs.drop q16).take q20).drop nm))) (p + (Utf8.decode (strOfNums (a9 (((xs.drop q16).take q20).drop nm))) p).2)) := H58.g 0 rfl; simp [World.iterPos, h]
           have hw1 := (eC (strOfNums (a9 (((xs.drop q16).take q20).drop nm))) p).1
           exact ⟨⟨_, n0, n1, n2, n3, n9, n11, n12, n85, n86, n16, n139, iP hNSb hpl hpd (fun he => hb61), H58.re [0, 1, 2, 3, 4, 5]⟩, by rw [it0, it1]; omega⟩
        ·
         refine ae (wm rfl (i3 (kn H6 0 rfl n139 (by rw [strOfNums_size]; exact hpl)) (we (.bool false) rfl rfl (wn (ad (aj rfl (bF (a8 (a8 (aY (ac ?_)))))))))))
         have hsp : de (a9 (((xs.drop q16).take q20).drop nm)) = (a9 (((xs.drop q16).take q20).drop nm)) := l1 (fun i hi => hpd i (by omega))
         exact ⟨n0, n1, n2, n3, n9, n11, n12, n85, n86, n16, by have h := H6.re [1, 2, 3, 4, 5]; rw [hsp]; exact h⟩
       ·
        rintro ρ7 w7 ⟨m0, m1, m2, m3, m9, m11, m12, m85, m86, m16, H7⟩
        have hsym : ([.str (de (a9 (((xs.drop q16).take q20).drop nm))), .u8 (zs.getD 4 0), .u8 (zs.getD 5 0), .u16 (n2 big (zs.drop 6)), .u64 (n4 big (zs.drop 8))] : List Value) = Sym.cells (eP false big ((xs.drop q16).take q20) zs) := by unfold eP; rw [hnmn]; rfl
        have H64 := H7.drew
        refine dL MX (fun w' => w'.cell? ⟨fb, 4, none⟩ = some (.slice As j cs)) (fun w' => w'.cell? ⟨g16, 0, none⟩ = some (.str (de (a9 (((xs.drop q16).take q20).drop nm)))) ∧ w'.cell? ⟨g16, 1, none⟩ = some (.u8 (zs.getD 4 0)) ∧ w'.cell? ⟨g16, 2, none⟩ = some (.u8 (zs.getD 5 0)) ∧ w'.cell? ⟨g16, 3, none⟩ = some (.u16 (n2 big (zs.drop 6))) ∧ w'.cell? ⟨g16, 4, none⟩ = some (.u64 (n4 big (zs.drop 8)))) 10 (tr 0 4 (Pl.takeS 4 (Pl.take 5 (Pl.run 6 (Pl.run 7 (Pl.take 8 (Pl.take 9 (Pl.run 10 Pl.done)))))))) (by kernel_rfl) rfl (H64.c 1 4 rfl rfl) (⟨H64.c 0 0 rfl rfl, H64.c 0 1 rfl rfl, H64.c 0 2 rfl rfl, H64.c 0 3 rfl rfl, H64.c 0 4 rfl rfl⟩) (qm (.pt fb) rfl m0 (qm (.pt fb) rfl m0 (qy rfl (ag rfl) (qy rfl (ab (o := 0) fO rfl) (qs rfl rfl (fun _ hS => ah iD rfl hS) (qh rfl (fun hS => dI (o := 0) wb m16 (tk hS.1 hS.2.1 hS.2.2.1 hS.2.2.2.1 hS.2.2.2.2) rfl) (qr rfl (jv H64 (ps := [(0, .agg #[.str (de (a9 (((xs.drop q16).take q20).drop nm))), .u8 (zs.getD 4 0), .u8 (zs.getD 5 0), .u16 (n2 big (zs.drop 6)), .u64 (n4 big (zs.drop 8))])]) (e := 76) (cs := [.str (de (a9 (((xs.drop q16).take q20).drop nm))), .u8 (zs.getD 4 0), .u8 (zs.getD 5 0), .u16 (n2 big (zs.drop 6)), .u64 (n4 big (zs.drop 8))]) rfl (by kernel_rfl) (fun g65 w66 hgg65 H67 =>  ?_)))))))))
        refine ⟨⟨H67.c 1 0 rfl rfl, H67.c 1 1 rfl rfl, H67.c 1 2 rfl rfl, H67.c 1 3 rfl rfl, H67.c 1 4 rfl rfl⟩, fun _ => H67.c 2 4 rfl rfl, ?_⟩
        refine qr rfl (bR H67 4 (m := 1) (news := [.str (de (a9 (((xs.drop q16).take q20).drop nm))), .u8 (zs.getD 4 0), .u8 (zs.getD 5 0), .u16 (n2 big (zs.drop 6)), .u64 (n4 big (zs.drop 8))]) rfl TU31 TB76 rfl (by decide) rfl rfl rfl (H67.news (i := 0) rfl) (by simp [Value.oneCell']) (by simp only [maxLen]; omega) (by omega) (fun v68 w69 H70 =>  ?_))
        obtain ⟨A71, c72, rfl, _, _⟩ := aw (H70.g 4 rfl)
        refine ⟨⟨H70.c 1 0 rfl rfl, H70.c 1 1 rfl rfl, H70.c 1 2 rfl rfl, H70.c 1 3 rfl rfl, H70.c 1 4 rfl rfl⟩, fun _ => H70.c 2 4 rfl rfl, ?_⟩
        refine qy rfl (ag rfl) (qy rfl (ab (o := 0) fO rfl) (dx rfl (es H70 2 4 (.slice A71 (j + 1) c72) rfl iD (fun w74 H73 =>  ?_))))
        refine ⟨⟨H73.c 1 0 rfl rfl, H73.c 1 1 rfl rfl, H73.c 1 2 rfl rfl, H73.c 1 3 rfl rfl, H73.c 1 4 rfl rfl⟩, fun h => absurd h (by decide), ?_⟩
        refine ck (ao (ac (ae (wv rfl (aT (k := .u64) (c := ↑j + 1) m86 rfl (a6 (by omega) (by omega))) (mu (↑j + 1) rfl (wn ?_))))))
        have hd : (bO false big ((xs.drop q16).take q20) ((xs.drop q8).take (12 * q12)) q12)[j]? = some (eP false big ((xs.drop q16).take q20) zs) := by rw [eA (by omega), hzy]
        rw [show ([.str (de (a9 (((xs.drop q16).take q20).drop nm))), .u8 (zs.getD 4 0), .u8 (zs.getD 5 0), .u16 (n2 big (zs.drop 6)), .u64 (n4 big (zs.drop 8))] : List Value) = Sym.cells (eP false big ((xs.drop q16).take q20) zs) from hsym, ← da hd] at H73
        exact ⟨⟨j + 1, _, _, m0, m1, m2, m3, m9, m11, m12, m85, rfl, by omega, fun k hk => by rcases Nat.lt_or_eq_of_le (Nat.le_of_lt_succ hk) with h | h; exact hgood k h; subst h; rw [hzy]; omega, H73.re [2, 3, 4, 5]⟩, by show q12 + 1 - nv (.u64 (↑j + 1)) < q12 + 1 - nv (ρ 86); rw [g86]; simp only [nv]; omega⟩
    ·
     simp only [bx] at hb28
     refine bF (a8 (a8 (aY (ac (sr (mg g0 rfl (mg g0 rfl (wc rfl (wf dF rfl (wv rfl (H3.ld 0 rfl eS rfl (.slice AL nL cL) rfl) (mg g3 rfl ?_)))))))))))
     refine mg g9 rfl (wv rfl (yz [.i64 4, .sl gr or_ nr cr, .string (⟨#[]⟩), .sl gn on 6 cB] rfl (by kernel_rfl)) (wm rfl (jv H3 (ps := [(0, .agg #[.i64 4, .sl gr or_ nr cr, .string (⟨#[]⟩), .sl gn on 6 cB])]) (e := 74) (cs := [.i64 4, .sl gr or_ nr cr, .string (⟨#[]⟩), .sl gn on 6 cB]) rfl (by kernel_rfl) (fun g75 w76 hgg75 H77 =>  wm rfl (bR H77 2 (m := 1) (news := [.i64 4, .sl gr or_ nr cr, .string (⟨#[]⟩), .sl gn on 6 cB]) rfl ox oA rfl (by decide) rfl rfl rfl (H77.news (i := 0) rfl) (by simp [Value.oneCell']) (by simp only [maxLen]; omega) (by omega) (fun v78 w79 H80 =>  ?_))))))
     obtain ⟨A81, c82, rfl, _, _⟩ := aw (H80.g 2 rfl)
     refine wc rfl (wf dF rfl (ws (es H80 1 2 (.slice A81 (nL + 1) c82) rfl eS (fun w84 H83 =>  ?_))))
     refine wn (sr (av (.bool true) rfl (wn (aQ ?_))))
     have hcur : lv.flatMap LoadV.cells ++ [.i64 4, .sl gr or_ nr cr, .string (⟨#[]⟩), .sl gn on 6 cB] = (lv ++ [(LoadV.mk (⟨4, raw, [], [n4 big (ys.drop 0), n4 big (ys.drop 4), ↑q8, ↑q12, ↑q16, ↑q20]⟩ : LoadD) (.sl gr or_ nr cr) (.sl gn on 6 cB))]).flatMap LoadV.cells := by rw [List.flatMap_append, List.flatMap_singleton]; rfl
     rw [hcur] at H83
     have hjq : j = q12 := by omega
     rw [List.take_of_length_le (by rw [dc]; omega)] at H83
     exact ⟨.inr rfl, _, r1 (.bool true) rfl _ _, .inl ⟨[n4 big (ys.drop 0), n4 big (ys.drop 4), ↑q8, ↑q12, ↑q16, ↑q20], (LoadV.mk (⟨4, raw, [], [n4 big (ys.drop 0), n4 big (ys.drop 4), ↑q8, ↑q12, ↑q16, ↑q20]⟩ : LoadD) (.sl gr or_ nr cr) (.sl gn on 6 cB)), bO false big ((xs.drop q16).take q20) ((xs.drop q8).take (12 * q12)) q12, _, As, _, j, cs, Res.all [aH 76 5 (.slice As j cs) j ((bO false big ((xs.drop q16).take q20) ((xs.drop q8).take (12 * q12)) q12).flatMap Sym.cells), Dn], fun s => by have e1 : gG xs q16 q20 = some ((xs.drop q16).take q20) := bT (by rw [hr.1]; exact hf1); have e2 : gG xs q8 (ep false * q12) = some ((xs.drop q8).take (12 * q12)) := bT (by rw [hr.1]; exact hf2); have e3 : m7 false big ((xs.drop q16).take q20) ((xs.drop q8).take (12 * q12)) q12 = some (bO false big ((xs.drop q16).take q20) ((xs.drop q8).take (12 * q12)) q12) := if_pos (fun k hk => hgood k (by omega)); simp only [br, ← hys, ← hq8, ← hq12, ← hq16, ← hq20, Int.toNat_natCast, e1, e2, e3]; rw [if_neg (by omega)], rfl, rfl, by rw [dc]; exact hjq.symm, by omega, rfl, H83.reAll [3, 4] [1, 2], fun w hh => by have hh := aV.1 hh; exact ⟨⟨_, _, _, rfl, hDn w (hh Dn (by simp))⟩, by obtain ⟨A, c, e, hv, _⟩ := aw (hh (aH 76 5 (.slice As j cs) j ((bO false big ((xs.drop q16).take q20) ((xs.drop q8).take (12 * q12)) q12).flatMap Sym.cells)) (by simp)); injection e with e; subst e; exact hv⟩⟩⟩
   ·
    have H85 := H14.drew
    refine aO MX (fun w' => w'.cell? ⟨gn, on + 4, none⟩ = some (.u64 (↑q16)) ∧ w'.cell? ⟨gn, on + 5, none⟩ = some (.u64 (↑q20)) ∧ w'.cell? ⟨gn, on + 2, none⟩ = some (.u64 (↑q8)) ∧ w'.cell? ⟨gn, on + 3, none⟩ = some (.u64 (↑q12))) (tr 0 10 (Pl.run 10 (tr 11 12 (Pl.run 23 (Pl.take 24 (Pl.take 25 Pl.done)))))) (by kernel_rfl) (⟨show World.cell? _ _ = some (.u64 (↑q16)) from (hDn _ (H85.g 1 rfl)).cellAt 4 (by omega), show World.cell? _ _ = some (.u64 (↑q20)) from (hDn _ (H85.g 1 rfl)).cellAt 5 (by omega), show World.cell? _ _ = some (.u64 (↑q8)) from (hDn _ (H85.g 1 rfl)).cellAt 2 (by omega), show World.cell? _ _ = some (.u64 (↑q12)) from (hDn _ (H85.g 1 rfl)).cellAt 3 (by omega)⟩) (qm (.bool true) rfl rfl (qy rfl (bB rfl) (qm (.bool false) rfl rfl (qz rfl rfl (al (v := .sl gb ob N C) rfl) (qz rfl rfl (al (v := .sl gn on 6 cB) rfl) (qz rfl rfl (aI (a := ⟨gn, on, none⟩) (i := 4) bA rfl rfl (by omega) (by omega)) (jQ rfl rfl (fun _ hS => ah aM rfl hS.1) (qz rfl rfl (al (v := .sl gn on 6 cB) rfl) (qz rfl rfl (aI (a := ⟨gn, on, none⟩) (i := 5) bA rfl rfl (by omega) (by omega)) (jQ rfl rfl (fun _ hS => ah aM rfl hS.2.1) (sK rfl rfl ?_)))))))))))
    refine ec fV (args := [.sl gb ob N C, .u64 (↑q16), .u64 (↑q20)]) rfl (aa (cZ _ (by omega) (by omega) hf1) ?_)
    rintro e w87 ⟨rfl, HS86⟩
    have H88 := H85.cal0 HS86
    refine ⟨_, rfl, ?_⟩
    refine ⟨⟨show World.cell? _ _ = some (.u64 (↑q16)) from (hDn _ (H88.g 1 rfl)).cellAt 4 (by omega), show World.cell? _ _ = some (.u64 (↑q20)) from (hDn _ (H88.g 1 rfl)).cellAt 5 (by omega), show World.cell? _ _ = some (.u64 (↑q8)) from (hDn _ (H88.g 1 rfl)).cellAt 2 (by omega), show World.cell? _ _ = some (.u64 (↑q12)) from (hDn _ (H88.g 1 rfl)).cellAt 3 (by omega)⟩, fun _ => trivial, ?_⟩
    refine qz rfl rfl (bB rfl) (qy rfl (aD (b := false) (v := .bool false) rfl rfl) (qm (.bool false) rfl rfl (qz rfl rfl (al (v := .sl gb ob N C) rfl) (qz rfl rfl (al (v := .sl gn on 6 cB) rfl) (qz rfl rfl (aI (a := ⟨gn, on, none⟩) (i := 2) bA rfl rfl (by omega) (by omega)) (jQ rfl rfl (fun _ hS => ah aM rfl hS.2.2.1) (qz rfl rfl (al (v := .u64 12) rfl) (qz rfl rfl (al (v := .sl gn on 6 cB) rfl) (qz rfl rfl (aI (a := ⟨gn, on, none⟩) (i := 3) bA rfl rfl (by omega) (by omega)) (jQ rfl rfl (fun _ hS => ah aM rfl hS.2.2.2) (qz rfl rfl (c6 (k := .u64) (c := ↑(12 * q12)) rfl rfl (by rw [a6 (by omega) (by omega)]; omega)) ?_)))))))))))
    refine sK rfl rfl (ec fV (args := [.sl gb ob N C, .u64 (↑q8), .u64 (↑(12 * q12))]) rfl (aa (dj _ (by omega) (by omega) hf2) ?_))
    rintro e w90 ⟨rfl, HS89⟩
    have H91 := H88.cal0 HS89
    refine ⟨_, rfl, ?_⟩
    refine ⟨⟨show World.cell? _ _ = some (.u64 (↑q16)) from (hDn _ (H91.g 1 rfl)).cellAt 4 (by omega), show World.cell? _ _ = some (.u64 (↑q20)) from (hDn _ (H91.g 1 rfl)).cellAt 5 (by omega), show World.cell? _ _ = some (.u64 (↑q8)) from (hDn _ (H91.g 1 rfl)).cellAt 2 (by omega), show World.cell? _ _ = some (.u64 (↑q12)) from (hDn _ (H91.g 1 rfl)).cellAt 3 (by omega)⟩, fun _ => trivial, ?_⟩
    refine qz rfl rfl (bB rfl) (qy rfl (aD (b := false) (v := .bool true) rfl rfl) (pn (ay rfl (sr (av (.bool false) rfl (wn (rq ?_)))))))
    exact ⟨.inr rfl, _, r1 (.bool false) rfl _ _, .inr ⟨fun s => by have e1 : gG xs q16 q20 = some ((xs.drop q16).take q20) := bT (by rw [hr.1]; exact hf1); have e2 : gG xs q8 (ep false * q12) = none := dD (by rw [hr.1]; exact hf2); simp only [br, ← hys, ← hq8, ← hq12, ← hq16, ← hq20, Int.toNat_natCast, e1, e2]; rw [if_neg (by omega)], rfl, H91.sub (List.nil_sublist _)⟩⟩
  ·
   have H92 := H14.drew
   refine aO MX (fun w' => w'.cell? ⟨gn, on + 4, none⟩ = some (.u64 (↑q16)) ∧ w'.cell? ⟨gn, on + 5, none⟩ = some (.u64 (↑q20)) ∧ w'.cell? ⟨gn, on + 2, none⟩ = some (.u64 (↑q8)) ∧ w'.cell? ⟨gn, on + 3, none⟩ = some (.u64 (↑q12))) (tr 0 10 (Pl.run 10 (tr 11 12 (Pl.run 23 (Pl.take 24 (Pl.take 25 Pl.done)))))) (by kernel_rfl) (⟨show World.cell? _ _ = some (.u64 (↑q16)) from (hDn _ (H92.g 1 rfl)).cellAt 4 (by omega), show World.cell? _ _ = some (.u64 (↑q20)) from (hDn _ (H92.g 1 rfl)).cellAt 5 (by omega), show World.cell? _ _ = some (.u64 (↑q8)) from (hDn _ (H92.g 1 rfl)).cellAt 2 (by omega), show World.cell? _ _ = some (.u64 (↑q12)) from (hDn _ (H92.g 1 rfl)).cellAt 3 (by omega)⟩) (qm (.bool true) rfl rfl (qy rfl (bB rfl) (qm (.bool false) rfl rfl (qz rfl rfl (al (v := .sl gb ob N C) rfl) (qz rfl rfl (al (v := .sl gn on 6 cB) rfl) (qz rfl rfl (aI (a := ⟨gn, on, none⟩) (i := 4) bA rfl rfl (by omega) (by omega)) (jQ rfl rfl (fun _ hS => ah aM rfl hS.1) (qz rfl rfl (al (v := .sl gn on 6 cB) rfl) (qz rfl rfl (aI (a := ⟨gn, on, none⟩) (i := 5) bA rfl rfl (by omega) (by omega)) (jQ rfl rfl (fun _ hS => ah aM rfl hS.2.1) (sK rfl rfl ?_)))))))))))
   refine ec fV (args := [.sl gb ob N C, .u64 (↑q16), .u64 (↑q20)]) rfl (aa (dj _ (by omega) (by omega) hf1) ?_)
   rintro e w94 ⟨rfl, HS93⟩
   have H95 := H92.cal0 HS93
   refine ⟨_, rfl, ?_⟩
   refine ⟨⟨show World.cell? _ _ = some (.u64 (↑q16)) from (hDn _ (H95.g 1 rfl)).cellAt 4 (by omega), show World.cell? _ _ = some (.u64 (↑q20)) from (hDn _ (H95.g 1 rfl)).cellAt 5 (by omega), show World.cell? _ _ = some (.u64 (↑q8)) from (hDn _ (H95.g 1 rfl)).cellAt 2 (by omega), show World.cell? _ _ = some (.u64 (↑q12)) from (hDn _ (H95.g 1 rfl)).cellAt 3 (by omega)⟩, fun _ => trivial, ?_⟩
   refine qz rfl rfl (bB rfl) (qy rfl (aD (b := false) (v := .bool true) rfl rfl) (qm (.bool true) rfl rfl (bk rfl rfl (bk rfl rfl (bk rfl rfl (bk rfl rfl (bk rfl rfl (bk rfl rfl (bk rfl rfl (bk rfl rfl (bk rfl rfl ?_)))))))))))
   refine nN rfl rfl (⟨show World.cell? _ _ = some (.u64 (↑q16)) from (hDn _ (H95.g 1 rfl)).cellAt 4 (by omega), show World.cell? _ _ = some (.u64 (↑q20)) from (hDn _ (H95.g 1 rfl)).cellAt 5 (by omega), show World.cell? _ _ = some (.u64 (↑q8)) from (hDn _ (H95.g 1 rfl)).cellAt 2 (by omega), show World.cell? _ _ = some (.u64 (↑q12)) from (hDn _ (H95.g 1 rfl)).cellAt 3 (by omega)⟩) (fun _ => trivial) (bk rfl rfl (qy rfl (aD (b := true) (v := .bool true) rfl rfl) (pn (ay rfl (sr (av (.bool false) rfl (wn (rq ?_))))))))
   exact ⟨.inr rfl, _, r1 (.bool false) rfl _ _, .inr ⟨fun s => by have e1 : gG xs q16 q20 = none := dD (by rw [hr.1]; exact hf1); simp only [br, ← hys, ← hq8, ← hq12, ← hq16, ← hq20, Int.toNat_natCast, e1]; rw [if_neg (by omega)], rfl, H95.sub (List.nil_sublist _)⟩⟩
 ·
  have H96 := H0.drew
  refine aO MX (fun w' => w'.cell? ⟨fb, 1, none⟩ = some (.bool big)) (tr 0 4 (Pl.take 5 (Pl.run 4 (Pl.run 6 (tr 7 5 Pl.done))))) (by kernel_rfl) (H96.c 0 1 rfl rfl) (qm (.pt fb) rfl rfl (qy rfl (ag rfl) (qy rfl (ab (o := 0) cO rfl) (qh rfl (fun hS => ah cU rfl hS) (qm (.sl gr or_ nr cr) rfl rfl (qr rfl (ec kg (args := [.i64 6]) rfl (aa (dQ (n := 6) _ (by omega)) ?_))))))))
  rintro e w98 ⟨A4, c4, rfl, HS97⟩
  have H99 := H96.cal0 HS97
  refine ⟨_, rfl, ?_⟩
  refine ⟨H99.c 1 1 rfl rfl, fun _ => trivial, ?_⟩
  refine qr rfl (ec gM (args := [.bool big, .slice A4 6 c4, .sl gr or_ nr cr]) rfl (aa (dA (ws := List.replicate 6 4) (bs := raw) big _ (ce (H99.g 0 rfl)) (eJ _) (hrr.keepB H99.keep hB hgr) hnr (by omega) hrb (by decide) (by rw [eI]; omega)) ?_))
  rintro e w101 ⟨rfl, HS100⟩
  have H102 := H99.cal0 HS100
  refine ⟨_, rfl, ?_⟩
  refine ⟨H102.c 1 1 rfl rfl, fun _ => trivial, ?_⟩
  refine qm (.tuple #[.ns, .bool false]) rfl rfl (qy rfl (a7 (v := .ns) rfl rfl) (qy rfl (a7 (v := .bool false) rfl rfl) (qa (.ns) rfl rfl (qa (.bool false) rfl rfl (pn (sr (mv (.bool false) rfl (wE [.bool false] sG rfl rfl (aa (eZ _) ?_)))))))))
  rintro e w105 ⟨ADW103, nDW103, cDW103, DW103, rfl, h1DW103, HS104, hDW103⟩
  have H106 := H102.cal0 HS104
  refine ⟨_, rfl, ?_⟩
  refine wE [.slice ADW103 nDW103 cDW103] oP rfl rfl (aa (by have h := gf (ws := ll false) (cW := cDW103) _ (hDW103 _ (H106.g 0 rfl)) (dZ (jS false)) (by rw [← (hDW103 _ (H106.g 0 rfl)).1]; decide); rw [mG, show ((ep false : Nat) : Int) = 12 from rfl] at h; exact h) ?_)
  rintro e w108 ⟨rfl, HS107⟩
  have H109 := H106.cal0 HS107
  refine ⟨_, rfl, ?_⟩
  refine wv rfl (an (c := 12) eL be rfl rfl) (au 12 rfl (wn (ad (ad ?_))))
  have H110 := H109.drew
  refine aO MX (fun w' => True) (tr 0 10 (Pl.run 10 (tr 11 12 (Pl.run 23 (Pl.take 24 (Pl.take 25 Pl.done)))))) (by kernel_rfl) (trivial) (qm (.bool false) rfl rfl (qy rfl (bB rfl) (qm (.bool true) rfl rfl (bk rfl rfl (bk rfl rfl (bk rfl rfl (bk rfl rfl (bk rfl rfl (bk rfl rfl (bk rfl rfl (nN rfl rfl (trivial) (fun _ => trivial) ?_)))))))))))
  refine bk rfl rfl (qy rfl (aD (b := true) (v := .bool true) rfl rfl) (qm (.bool true) rfl rfl (bk rfl rfl (bk rfl rfl (bk rfl rfl (bk rfl rfl (bk rfl rfl (bk rfl rfl (bk rfl rfl (bk rfl rfl (bk rfl rfl ?_)))))))))))
  refine nN rfl rfl (trivial) (fun _ => trivial) (bk rfl rfl (qy rfl (aD (b := true) (v := .bool true) rfl rfl) (pn (ay rfl (sr (av (.bool false) rfl (wn (rq ?_))))))))
  exact ⟨.inr rfl, _, r1 (.bool false) rfl _ _, .inr ⟨fun s => by unfold br; rw [if_pos (by omega)], rfl, H110.sub (List.nil_sublist _)⟩⟩
theorem rD {fb gr or_ nr cr base : Nat} {gb ob N C nL cL : Nat} {AL : Option Addr} {xs : List Int} {lv : List LoadV} {vh vp vs vi : Value} {raw : List Int} (big : Bool) (w : World) (h0 : St w (Res.all [aq fb [vh, .bool big, .slice AL nL cL, vp, vs, vi] 33, aH 74 4 (.slice AL nL cL) nL (lv.flatMap LoadV.cells)]).F [aq fb [vh, .bool big, .slice AL nL cL, vp, vs, vi] 33, aH 74 4 (.slice AL nL cL) nL (lv.flatMap LoadV.cells)] w) (hB : ∀ g, (Res.all [aq fb [vh, .bool big, .slice AL nL cL, vp, vs, vi] 33, aH 74 4 (.slice AL nL cL) nL (lv.flatMap LoadV.cells)]).F g → base ≤ g) (hbw : base ≤ w.heap.size) (hrr : RI .u8 w (some ⟨gr, or_, none⟩) nr raw) (hrb : Byt raw) (hnr : nr ≤ cr) (hnN : nr < 10485760) (hgr : gr < base) (hr : RI .u8 w (some ⟨gb, ob, none⟩) N xs) (hby : Byt xs) (hNC : N ≤ C) (hN : N < 10485760) (hgb : gb < base) (hnL : nL ≤ 10485760) :
 Calls Tryd.prog 30 #[.pt fb, .sl gb ob N C, .bool true, .sl gr or_ nr cr] w fun e w' => (∃ (nn : List Int) (x : LoadV) (ss : List Sym) (AL2 AS2 : Option Addr) (cL2 nS2 cS2 : Nat) (D : Res), (∀ s, br true big xs raw s = some { s with loads := s.loads ++ [⟨4, raw, [], [0, 0, 0, 0, 0, 0]⟩], syms := some ss }) ∧ x.l = ⟨4, raw, [], nn⟩ ∧ x.vr = .sl gr or_ nr cr ∧ ss.length = nS2 ∧ nS2 ≤ 10485760 ∧ e = .returned (.bool true) ∧ St w (Res.all [aq fb [vh, .bool big, .slice AL nL cL, vp, vs, vi] 33, aH 74 4 (.slice AL nL cL) nL (lv.flatMap LoadV.cells)]).F [D, aq fb [vh, .bool big, .slice AL2 (nL + 1) cL2, vp, .slice AS2 nS2 cS2, vi] 33, aH 74 4 (.slice AL2 (nL + 1) cL2) (nL + 1) ((lv ++ [x]).flatMap LoadV.cells)] w' ∧ ∀ w, D.φ w → SlI' .u64 w x.vn nn ∧ RV w AS2 nS2 5 (ss.flatMap Sym.cells)) ∨ ((∀ s, br true big xs raw s = none) ∧ e = .returned (.bool false) ∧ St w (Res.all [aq fb [vh, .bool big, .slice AL nL cL, vp, vs, vi] 33, aH 74 4 (.slice AL nL cL) nL (lv.flatMap LoadV.cells)]).F [] w') := by
 refine a5 (args := [.pt fb, .sl gb ob N C, .bool true, .sl gr or_ nr cr]) Tryd.func30 rfl rfl rfl ?_
 have H0 : St _ _ [aq fb [vh, .bool big, .slice AL nL cL, vp, vs, vi] 33, aH 74 4 (.slice AL nL cL) nL (lv.flatMap LoadV.cells)] _ := h0
 refine sr (av (.bool false) rfl (wn (ad ?_)))
 have hrl := hrr.1
 by_cases hfit : 24 ≤ nr
 ·
  obtain ⟨ys, hys⟩ : ∃ q, q = (raw.drop 0).take 24 := ⟨_, rfl⟩
  have hbys : Byt ys := by rw [hys]; exact (hrb.drop _).take _
  obtain ⟨q8, hq8⟩ : ∃ q : Nat, (q : Int) = n4 big (ys.drop 8) := ⟨(n4 big (ys.drop 8)).toNat, Int.toNat_of_nonneg (aR big (hbys.drop _)).1⟩
  have hltq8 : (q8 : Int) < 4294967296 := by rw [hq8]; exact (aR big (hbys.drop _)).2
  obtain ⟨q12, hq12⟩ : ∃ q : Nat, (q : Int) = n4 big (ys.drop 12) := ⟨(n4 big (ys.drop 12)).toNat, Int.toNat_of_nonneg (aR big (hbys.drop _)).1⟩
  have hltq12 : (q12 : Int) < 4294967296 := by rw [hq12]; exact (aR big (hbys.drop _)).2
  obtain ⟨q16, hq16⟩ : ∃ q : Nat, (q : Int) = n4 big (ys.drop 16) := ⟨(n4 big (ys.drop 16)).toNat, Int.toNat_of_nonneg (aR big (hbys.drop _)).1⟩
  have hltq16 : (q16 : Int) < 4294967296 := by rw [hq16]; exact (aR big (hbys.drop _)).2
  obtain ⟨q20, hq20⟩ : ∃ q : Nat, (q : Int) = n4 big (ys.drop 20) := ⟨(n4 big (ys.drop 20)).toNat, Int.toNat_of_nonneg (aR big (hbys.drop _)).1⟩
  have hltq20 : (q20 : Int) < 4294967296 := by rw [hq20]; exact (aR big (hbys.drop _)).2
  have hNL : bp big (List.replicate 6 4) raw = [n4 big (ys.drop 0), n4 big (ys.drop 4), ↑q8, ↑q12, ↑q16, ↑q20] := by rw [hq8, hq12, hq16, hq20, hys]; exact lz big 6 24 (by omega) raw
  have H1 := H0.drew
  refine aO MX (fun w' => w'.cell? ⟨fb, 1, none⟩ = some (.bool big)) (tr 0 4 (Pl.take 5 (Pl.run 4 (Pl.run 6 (tr 7 5 Pl.done))))) (by kernel_rfl) (H1.c 0 1 rfl rfl) (qm (.pt fb) rfl rfl (qy rfl (ag rfl) (qy rfl (ab (o := 0) cO rfl) (qh rfl (fun hS => ah cU rfl hS) (qm (.sl gr or_ nr cr) rfl rfl (qr rfl (ec kg (args := [.i64 6]) rfl (aa (dQ (n := 6) _ (by omega)) ?_))))))))
  rintro e w3 ⟨A4, c4, rfl, HS2⟩
  have H4 := H1.cal0 HS2
  refine ⟨_, rfl, ?_⟩
  refine ⟨H4.c 1 1 rfl rfl, fun _ => trivial, ?_⟩
  refine qr rfl (ec gM (args := [.bool big, .slice A4 6 c4, .sl gr or_ nr cr]) rfl (aa (db (ws := List.replicate 6 4) (bs := raw) big _ (ce (H4.g 0 rfl)) (eJ _) (hrr.keepB H4.keep hB hgr) hnr (by omega) hrb (by decide) (K := 6) (by rw [eI]; omega) (by rw [hNL]; rfl) (by omega)) ?_))
  rintro e w6 ⟨gn, on, cB, Dn, rfl, hcB, HS5, hDn⟩
  rw [hNL] at hDn
  have H7 := H4.cal0 HS5
  refine ⟨_, rfl, ?_⟩
  refine ⟨H7.c 2 1 rfl rfl, fun _ => trivial, ?_⟩
  refine qm (.tuple #[.sl gn on 6 cB, .bool true]) rfl rfl (qy rfl (a7 (v := .sl gn on 6 cB) rfl rfl) (qy rfl (a7 (v := .bool true) rfl rfl) (qa (.sl gn on 6 cB) rfl rfl (qa (.bool true) rfl rfl (pn (sr (mv (.bool true) rfl (wE [.bool true] sG rfl rfl (aa (fv _) ?_)))))))))
  rintro e w10 ⟨ADW8, nDW8, cDW8, DW8, rfl, h1DW8, HS9, hDW8⟩
  have H11 := H7.cal0 HS9
  refine ⟨_, rfl, ?_⟩
  refine wE [.slice ADW8 nDW8 cDW8] oP rfl rfl (aa (by have h := gf (ws := ll true) (cW := cDW8) _ (hDW8 _ (H11.g 0 rfl)) (dZ (jS true)) (by rw [← (hDW8 _ (H11.g 0 rfl)).1]; decide); rw [mG, show ((ep true : Nat) : Int) = 16 from rfl] at h; exact h) ?_)
  rintro e w13 ⟨rfl, HS12⟩
  have H14 := H11.cal0 HS12
  refine ⟨_, rfl, ?_⟩
  refine wv rfl (an (c := 16) eL be rfl rfl) (au 16 rfl (wn (ad (ad ?_))))
  by_cases hf1 : q20 = 0 ∨ q16 + q20 ≤ N
  ·
   by_cases hf2 : 16 * q12 = 0 ∨ q8 + 16 * q12 ≤ N
   ·
    have H15 := H14.drew
    refine aO MX (fun w' => w'.cell? ⟨gn, on + 4, none⟩ = some (.u64 (↑q16)) ∧ w'.cell? ⟨gn, on + 5, none⟩ = some (.u64 (↑q20)) ∧ w'.cell? ⟨gn, on + 2, none⟩ = some (.u64 (↑q8)) ∧ w'.cell? ⟨gn, on + 3, none⟩ = some (.u64 (↑q12))) (tr 0 10 (Pl.run 10 (tr 11 12 (Pl.run 23 (Pl.take 24 (Pl.take 25 Pl.done)))))) (by kernel_rfl) (⟨show World.cell? _ _ = some (.u64 (↑q16)) from (hDn _ (H15.g 1 rfl)).cellAt 4 (by omega), show World.cell? _ _ = some (.u64 (↑q20)) from (hDn _ (H15.g 1 rfl)).cellAt 5 (by omega), show World.cell? _ _ = some (.u64 (↑q8)) from (hDn _ (H15.g 1 rfl)).cellAt 2 (by omega), show World.cell? _ _ = some (.u64 (↑q12)) from (hDn _ (H15.g 1 rfl)).cellAt 3 (by omega)⟩) (qm (.bool true) rfl rfl (qy rfl (bB rfl) (qm (.bool false) rfl rfl (qz rfl rfl (al (v := .sl gb ob N C) rfl) (qz rfl rfl (al (v := .sl gn on 6 cB) rfl) (qz rfl rfl (aI (a := ⟨gn, on, none⟩) (i := 4) bA rfl rfl (by omega) (by omega)) (jQ rfl rfl (fun _ hS => ah aM rfl hS.1) (qz rfl rfl (al (v := .sl gn on 6 cB) rfl) (qz rfl rfl (aI (a := ⟨gn, on, none⟩) (i := 5) bA rfl rfl (by omega) (by omega)) (jQ rfl rfl (fun _ hS => ah aM rfl hS.2.1) (sK rfl rfl ?_)))))))))))
    refine ec fV (args := [.sl gb ob N C, .u64 (↑q16), .u64 (↑q20)]) rfl (aa (cZ _ (by omega) (by omega) hf1) ?_)
    rintro e w17 ⟨rfl, HS16⟩
    have H18 := H15.cal0 HS16
    refine ⟨_, rfl, ?_⟩
    refine ⟨⟨show World.cell? _ _ = some (.u64 (↑q16)) from (hDn _ (H18.g 1 rfl)).cellAt 4 (by omega), show World.cell? _ _ = some (.u64 (↑q20)) from (hDn _ (H18.g 1 rfl)).cellAt 5 (by omega), show World.cell? _ _ = some (.u64 (↑q8)) from (hDn _ (H18.g 1 rfl)).cellAt 2 (by omega), show World.cell? _ _ = some (.u64 (↑q12)) from (hDn _ (H18.g 1 rfl)).cellAt 3 (by omega)⟩, fun _ => trivial, ?_⟩
    refine qz rfl rfl (bB rfl) (qy rfl (aD (b := false) (v := .bool false) rfl rfl) (qm (.bool false) rfl rfl (qz rfl rfl (al (v := .sl gb ob N C) rfl) (qz rfl rfl (al (v := .sl gn on 6 cB) rfl) (qz rfl rfl (aI (a := ⟨gn, on, none⟩) (i := 2) bA rfl rfl (by omega) (by omega)) (jQ rfl rfl (fun _ hS => ah aM rfl hS.2.2.1) (qz rfl rfl (al (v := .u64 16) rfl) (qz rfl rfl (al (v := .sl gn on 6 cB) rfl) (qz rfl rfl (aI (a := ⟨gn, on, none⟩) (i := 3) bA rfl rfl (by omega) (by omega)) (jQ rfl rfl (fun _ hS => ah aM rfl hS.2.2.2) (qz rfl rfl (c6 (k := .u64) (c := ↑(16 * q12)) rfl rfl (by rw [a6 (by omega) (by omega)]; omega)) ?_)))))))))))
    refine sK rfl rfl (ec fV (args := [.sl gb ob N C, .u64 (↑q8), .u64 (↑(16 * q12))]) rfl (aa (cZ _ (by omega) (by omega) hf2) ?_))
    rintro e w20 ⟨rfl, HS19⟩
    have H21 := H18.cal0 HS19
    refine ⟨_, rfl, ?_⟩
    refine ⟨⟨show World.cell? _ _ = some (.u64 (↑q16)) from (hDn _ (H21.g 1 rfl)).cellAt 4 (by omega), show World.cell? _ _ = some (.u64 (↑q20)) from (hDn _ (H21.g 1 rfl)).cellAt 5 (by omega), show World.cell? _ _ = some (.u64 (↑q8)) from (hDn _ (H21.g 1 rfl)).cellAt 2 (by omega), show World.cell? _ _ = some (.u64 (↑q12)) from (hDn _ (H21.g 1 rfl)).cellAt 3 (by omega)⟩, fun _ => trivial, ?_⟩
    refine qz rfl rfl (bB rfl) (qy rfl (aD (b := false) (v := .bool false) rfl rfl) (pn (aj rfl (wk (ad ?_)))))
    obtain ⟨m0, hm0⟩ : ∃ m, m = min q16 N := ⟨_, rfl⟩
    obtain ⟨m1, hm1⟩ : ∃ m, m = min (q16 + q20) N := ⟨_, rfl⟩
    obtain ⟨ot, hot⟩ : ∃ ot, cR (some ⟨gb, ob, none⟩) C m0 1 = some ⟨gb, ot, none⟩ := by unfold cR; split; exact ⟨_, rfl⟩; exact ⟨ob + m0, by simp [bY]⟩
    obtain ⟨nt, hnt⟩ : ∃ m, m = m1 - m0 := ⟨_, rfl⟩
    obtain ⟨ct, hct⟩ : ∃ m, m = C - m0 := ⟨_, rfl⟩
    have hst : RI .u8 w (some ⟨gb, ot, none⟩) nt ((xs.drop q16).take q20) := by
     have h := hr.cut (c := C) (l := m0) (m := m1) (by omega) (by omega) hNC; rw [hot, ← hnt] at h
     rcases hf1 with e0 | e0
     · have : nt = 0 := by omega
       rw [this, List.take_zero] at h; rw [e0, List.take_zero, this]; exact h
     · have e1 : m0 = q16 := by omega
       have e2 : nt = q20 := by omega
       rw [e1, e2] at h; rw [e2]; exact h
    have hsb : Byt ((xs.drop q16).take q20) := (hby.drop _).take _
    have hsl := hst.1
    have H22 := H21.drew
    refine aO MX (fun w' => w'.cell? ⟨gn, on + 4, none⟩ = some (.u64 (↑q16)) ∧ w'.cell? ⟨gn, on + 5, none⟩ = some (.u64 (↑q20))) (tr 0 21 Pl.done) (by kernel_rfl) (⟨show World.cell? _ _ = some (.u64 (↑q16)) from (hDn _ (H22.g 1 rfl)).cellAt 4 (by omega), show World.cell? _ _ = some (.u64 (↑q20)) from (hDn _ (H22.g 1 rfl)).cellAt 5 (by omega)⟩) (qm (.sl gb ob N C) rfl rfl (qm (.sl gn on 6 cB) rfl rfl (qy rfl (aI (a := ⟨gn, on, none⟩) (i := 4) bA rfl rfl (by omega) (by omega)) (qh rfl (fun hS => ah aM rfl hS.1) (qm (.sl gb ob N C) rfl rfl (qy rfl (ba (n := N) co rfl) (qy rfl (an (c := ↑N) eL be rfl (a6 (by omega) (by omega))) (qy rfl (iu (c := ↑m0) rfl rfl (by split <;> omega)) (qm (.sl gn on 6 cB) rfl rfl (qy rfl (aI (a := ⟨gn, on, none⟩) (i := 4) bA rfl rfl (by omega) (by omega)) (qh rfl (fun hS => ah aM rfl hS.1) ?_)))))))))))
    refine qm (.sl gn on 6 cB) rfl rfl (qy rfl (aI (a := ⟨gn, on, none⟩) (i := 5) bA rfl rfl (by omega) (by omega)) (qh rfl (fun hS => ah aM rfl hS.2) (qy rfl (aT (k := .u64) (c := ↑(q16 + q20)) rfl rfl (by rw [a6 (by omega) (by omega)]; omega)) (qm (.sl gb ob N C) rfl rfl (qy rfl (ba (n := N) co rfl) (qy rfl (an (c := ↑N) eL be rfl (a6 (by omega) (by omega))) (qy rfl (iu (c := ↑m1) rfl rfl (by split <;> omega)) (qy rfl ((show Yv _ _ _ _ (Value.slice (some ⟨gb, ot, none⟩) nt ct) _ from by rw [← hot, hnt, hct]; exact dH (l := m0) (h := m1) aU rfl (bg rfl (by omega) (Int.toNat_natCast _)) (bg rfl (by omega) (Int.toNat_natCast _)) (by omega) (by omega))) (qa (.sl gb ot nt ct) rfl rfl (pn (sr ?_)))))))))))
    refine mp fb 0 rfl (wm rfl (eb H22 76 [] rfl (by kernel_rfl) (fun g23 w24 hgg23 H25 =>  wc rfl (wf fO rfl (ws (es H25 4 4 (.sl g23 0 0 0) rfl iD (fun w27 H26 =>  ?_)))))))
    refine wn (ad (sr (ms gn on 6 cB rfl (wv rfl (aI bA rfl rfl (by omega) (by omega)) (wv rfl (ah aM rfl (show World.cell? _ _ = some (.u64 (↑q12)) from (hDn _ (H26.g 2 rfl)).cellAt 3 (by omega))) (mu 0 rfl (wn (aC ?_))))))))
    have H30 : St w (Res.all [aq fb [vh, .bool big, .slice AL nL cL, vp, vs, vi] 33, aH 74 4 (.slice AL nL cL) nL (lv.flatMap LoadV.cells)]).F [aq fb [vh, .bool big, .slice AL nL cL, vp, .sl g23 0 0 0, vi] 33, aH 74 4 (.slice AL nL cL) nL (lv.flatMap LoadV.cells), aH 76 5 (.sl g23 0 0 0) 0 (((bO true big ((xs.drop q16).take q20) ((xs.drop q8).take (16 * q12)) q12).take 0).flatMap Sym.cells), Dn] w27 := (H26.rowOf (i := 0) (cap := 0) (sz := 5) rfl rfl (by simp [maxLen])).re [4, 5, 0, 2]
    refine bW (fun ρ w' => ∃ j : Nat, ∃ As : Option Addr, ∃ cs : Nat, ρ 0 = .pt fb ∧ ρ 1 = .sl gb ob N C ∧ ρ 2 = .bool true ∧ ρ 3 = .sl gr or_ nr cr ∧ ρ 9 = .sl gn on 6 cB ∧ ρ 11 = .u64 16 ∧ ρ 12 = .sl gb ot nt ct ∧ ρ 85 = .u64 (↑q12) ∧ ρ 86 = .u64 (↑j) ∧ j ≤ q12 ∧ (∀ k, k < j → ¬ ((xs.drop q16).take q20).length ≤ (n4 big (dB true ((xs.drop q8).take (16 * q12)) k)).toNat) ∧ St w (Res.all [aq fb [vh, .bool big, .slice AL nL cL, vp, vs, vi] 33, aH 74 4 (.slice AL nL cL) nL (lv.flatMap LoadV.cells)]).F [aq fb [vh, .bool big, .slice AL nL cL, vp, .slice As j cs, vi] 33, aH 74 4 (.slice AL nL cL) nL (lv.flatMap LoadV.cells), aH 76 5 (.slice As j cs) j (((bO true big ((xs.drop q16).take q20) ((xs.drop q8).take (16 * q12)) q12).take j).flatMap Sym.cells), Dn] w') (fun ρ _ => q12 + 1 - nv (ρ 86)) (⟨0, _, _, rfl, rfl, rfl, rfl, rfl, rfl, rfl, rfl, rfl, by omega, by omega, H30⟩) ?_
    rintro ρ w3 ⟨j, As, cs, g0, g1, g2, g3, g9, g11, g12, g85, g86, hj, hgood, H3⟩
    refine sr (wv rfl (cx g86 g85) (wn (ad ?_)))
    refine cf rfl (fun hb28 => ?_) (fun hb28 => ?_)
    ·
     simp only [bx] at hb28
     refine wk (ad (aC (sr (mg g86 rfl (au (↑j) rfl (wn (ad ?_)))))))
     have hjn : j < q12 := by omega
     obtain ⟨zs, hzs⟩ : ∃ z, z = (xs.drop (q8 + (16 * j))).take 16 := ⟨_, rfl⟩
     have hbzs : Byt zs := by rw [hzs]; exact (hby.drop _).take _
     have hn4 := aR big hbzs
     obtain ⟨nm, hnm⟩ : ∃ q : Nat, (q : Int) = n4 big zs := ⟨(n4 big zs).toNat, Int.toNat_of_nonneg hn4.1⟩
     have hnmn : (n4 big zs).toNat = nm := by omega
     have hNL2 : bp big (ll true) (xs.drop (q8 + (16 * j))) = [↑nm, zs.getD 4 0, zs.getD 5 0, n2 big (zs.drop 6), n8 big (zs.drop 8)] := by rw [hnm, hzs]; exact nlV true big _
     have hzy : dB true ((xs.drop q8).take (16 * q12)) j = zs := by rw [hzs]; exact nI (wide := true) hjn
     have b4 := hbzs 4
     have b5 := hbzs 5
     have b6 := lT big (hbzs.drop 6)
     have hNSb : Byt (a9 (((xs.drop q16).take q20).drop nm)) := (hsb.drop _).cst
     have H29 := H3.drew
     refine aO MX (fun w' => w'.cell? ⟨fb, 1, none⟩ = some (.bool big) ∧ w'.cell? ⟨gn, on + 2, none⟩ = some (.u64 (↑q8))) (tr 0 5 (tr 6 9 (Pl.run 5 (Pl.run 15 (tr 16 5 Pl.done))))) (by kernel_rfl) (⟨H29.c 0 1 rfl rfl, show World.cell? _ _ = some (.u64 (↑q8)) from (hDn _ (H29.g 3 rfl)).cellAt 2 (by omega)⟩) (qm (.pt fb) rfl g0 (qy rfl (ag rfl) (qy rfl (ab (o := 0) cO rfl) (qh rfl (fun hS => ah cU rfl hS.1) (qm (.bool true) rfl g2 (qm (.sl gb ob N C) rfl g1 (qm (.sl gn on 6 cB) rfl g9 (qy rfl (aI (a := ⟨gn, on, none⟩) (i := 2) bA rfl rfl (by omega) (by omega)) (qh rfl (fun hS => ah aM rfl hS.2) (qm (.u64 16) rfl g11 (qm (.u64 (↑j)) rfl rfl ?_)))))))))))
     refine qy rfl (c6 (k := .u64) (c := ↑(16 * j)) rfl rfl (by rw [a6 (by omega) (by omega)]; omega)) (qy rfl (aT (k := .u64) (c := ↑(q8 + (16 * j))) rfl rfl (by rw [a6 (by omega) (by omega)]; omega)) (qt rfl (fun _ hS => (am (l := (q8 + (16 * j))) (h := N) aU rfl (bs rfl (by omega) (Int.toNat_natCast _)) bn (by omega) (by omega) (by omega) (by omega) : Yv _ _ _ _ (.sl gb (ob + (q8 + (16 * j))) (N - (q8 + (16 * j))) (C - (q8 + (16 * j)))) _)) (qr rfl (ec sG (args := [.bool true]) rfl (aa (fv _) ?_)))))
     rintro e w32 ⟨ADW30, nDW30, cDW30, DW30, rfl, h1DW30, HS31, hDW30⟩
     have H33 := H29.cal0 HS31
     refine ⟨_, rfl, ?_⟩
     refine ⟨⟨H33.c 1 1 rfl rfl, show World.cell? _ _ = some (.u64 (↑q8)) from (hDn _ (H33.g 4 rfl)).cellAt 2 (by omega)⟩, fun _ => trivial, ?_⟩
     refine qr rfl (ec gM (args := [.bool big, .slice ADW30 nDW30 cDW30, .sl gb (ob + (q8 + (16 * j))) (N - (q8 + (16 * j))) (C - (q8 + (16 * j)))]) rfl (aa (db (ws := ll true) (bs := xs.drop (q8 + (16 * j))) (K := 5) big _ (hDW30 _ (H33.g 0 rfl)) (jS _) ((hr.keepB H33.keep hB hgb).drop_ (q8 + (16 * j))) (by omega) (by omega) (hby.drop _) (by decide) (show 16 ≤ N - (q8 + (16 * j)) by omega) (by rw [hNL2]; rfl) (by omega)) ?_))
     rintro e w35 ⟨gm, om, cm, Dm, rfl, hcm, HS34, hDm⟩
     rw [hNL2] at hDm
     have H36 := H33.cal0 HS34
     refine ⟨_, rfl, ?_⟩
     refine ⟨⟨H36.c 2 1 rfl rfl, show World.cell? _ _ = some (.u64 (↑q8)) from (hDn _ (H36.g 5 rfl)).cellAt 2 (by omega)⟩, fun _ => trivial, ?_⟩
     refine qm (.tuple #[.sl gm om 5 cm, .bool true]) rfl rfl (qy rfl (a7 (v := .sl gm om 5 cm) rfl rfl) (qy rfl (a7 (v := .bool true) rfl rfl) (qa (.sl gm om 5 cm) rfl rfl (qa (.bool true) rfl rfl (pn (ad (sr (ms gm om 5 cm rfl (wv rfl (aI bA rfl rfl (by omega) (by omega)) (wv rfl (ah aM rfl (show World.cell? _ _ = some (.u64 (↑nm)) from (hDm _ (H36.g 0 rfl)).cellAt 0 (by omega))) (mg g12 rfl ?_)))))))))))
     refine wv rfl (ba co rfl) (wv rfl (an eL be rfl (a6 (by omega) (by omega))) (wv rfl (i5 rfl rfl) (wn ?_)))
     refine cf rfl (fun hb37 => ?_) (fun hb37 => ?_)
     ·
      simp only [bx] at hb37
      refine sr (av (.bool false) rfl (wn (rq (aB (ax (ax (aB (ax ?_))))))))
      exact ⟨.inr rfl, _, r1 (.bool false) rfl _ _, .inr ⟨fun s => by have e1 : gG xs q16 q20 = some ((xs.drop q16).take q20) := bT (by rw [hr.1]; exact hf1); have e2 : gG xs q8 (ep true * q12) = some ((xs.drop q8).take (16 * q12)) := bT (by rw [hr.1]; exact hf2); have e3 : m7 true big ((xs.drop q16).take q20) ((xs.drop q8).take (16 * q12)) q12 = none := if_neg (fun h => h j hjn (by rw [hzy]; omega)); simp only [br, ← hys, ← hq8, ← hq12, ← hq16, ← hq20, Int.toNat_natCast, e1, e2, e3]; rw [if_neg (by omega)], rfl, H36.sub (List.nil_sublist _)⟩⟩
     ·
      simp only [bx] at hb37
      refine wk ?_
      refine fm (fun ρ w' => ∃ (g16 : Nat), ρ 0 = .pt fb ∧ ρ 1 = .sl gb ob N C ∧ ρ 2 = .bool true ∧ ρ 3 = .sl gr or_ nr cr ∧ ρ 9 = .sl gn on 6 cB ∧ ρ 11 = .u64 16 ∧ ρ 12 = .sl gb ot nt ct ∧ ρ 85 = .u64 (↑q12) ∧ ρ 86 = .u64 (↑j) ∧ ρ 16 = .pt g16 ∧ St w (Res.all [aq fb [vh, .bool big, .slice AL nL cL, vp, vs, vi] 33, aH 74 4 (.slice AL nL cL) nL (lv.flatMap LoadV.cells)]).F [aq g16 [.str (a9 (((xs.drop q16).take q20).drop nm)), .u8 (zs.getD 4 0), .u8 (zs.getD 5 0), .u16 (n2 big (zs.drop 6)), .u64 (n8 big (zs.drop 8))] 76, aq fb [vh, .bool big, .slice AL nL cL, vp, .slice As j cs, vi] 33, aH 74 4 (.slice AL nL cL) nL (lv.flatMap LoadV.cells), aH 76 5 (.slice As j cs) j (((bO true big ((xs.drop q16).take q20) ((xs.drop q8).take (16 * q12)) q12).take j).flatMap Sym.cells), Dn] w') ?_ ?_
      ·
       have H38 := H36.drew
       refine aO MX (fun w' => w'.cell? ⟨gm, om, none⟩ = some (.u64 (↑nm)) ∧ w'.cell? ⟨gm, om + 1, none⟩ = some (.u64 (zs.getD 4 0)) ∧ w'.cell? ⟨gm, om + 2, none⟩ = some (.u64 (zs.getD 5 0)) ∧ w'.cell? ⟨gm, om + 3, none⟩ = some (.u64 (n2 big (zs.drop 6))) ∧ w'.cell? ⟨gm, om + 4, none⟩ = some (.u64 (n8 big (zs.drop 8)))) (tr 0 5 (tr 6 15 (Pl.run2 5 (Pl.take 21 (Pl.run 22 (Pl.run 23 Pl.done))) 22 (Pl.run 5 (Pl.take 21 (Pl.run 23 Pl.done)))))) (by kernel_rfl) (⟨show World.cell? _ _ = some (.u64 (↑nm)) from (hDm _ (H38.g 0 rfl)).cellAt 0 (by omega), show World.cell? _ _ = some (.u64 (zs.getD 4 0)) from (hDm _ (H38.g 0 rfl)).cellAt 1 (by omega), show World.cell? _ _ = some (.u64 (zs.getD 5 0)) from (hDm _ (H38.g 0 rfl)).cellAt 2 (by omega), show World.cell? _ _ = some (.u64 (n2 big (zs.drop 6))) from (hDm _ (H38.g 0 rfl)).cellAt 3 (by omega), show World.cell? _ _ = some (.u64 (n8 big (zs.drop 8))) from (hDm _ (H38.g 0 rfl)).cellAt 4 (by omega)⟩) (qm (.sl gb ot nt ct) rfl g12 (qm (.sl gm om 5 cm) rfl rfl (qy rfl (aI (a := ⟨gm, om, none⟩) (i := 0) bA rfl rfl (by omega) (by omega)) (qh rfl (fun hS => ah aM rfl hS.1) (qt rfl (fun _ hS => (am (l := nm) (h := nt) aU rfl (bs rfl (by omega) (Int.toNat_natCast _)) bn (by omega) (by omega) (by omega) (by omega) : Yv _ _ _ _ (.sl gb (ot + nm) (nt - nm) (ct - nm)) _)) (qm (.sl gm om 5 cm) rfl rfl (qy rfl (aI (a := ⟨gm, om, none⟩) (i := 1) bA rfl rfl (by omega) (by omega)) (qh rfl (fun hS => ah aM rfl hS.2.1) (qy rfl (an (c := zs.getD 4 0) cb kG rfl (fw (by omega) (by omega))) (qm (.sl gm om 5 cm) rfl rfl (qy rfl (aI (a := ⟨gm, om, none⟩) (i := 2) bA rfl rfl (by omega) (by omega)) ?_)))))))))))
       refine qh rfl (fun hS => ah aM rfl hS.2.2.1) (qy rfl (an (c := zs.getD 5 0) cb kG rfl (fw (by omega) (by omega))) (qm (.sl gm om 5 cm) rfl rfl (qy rfl (aI (a := ⟨gm, om, none⟩) (i := 3) bA rfl rfl (by omega) (by omega)) (qh rfl (fun hS => ah aM rfl hS.2.2.2.1) (qy rfl (an (c := n2 big (zs.drop 6)) cb rZ rfl (jd (by omega) (by omega))) (qm (.sl gm om 5 cm) rfl rfl (qy rfl (aI (a := ⟨gm, om, none⟩) (i := 4) bA rfl rfl (by omega) (by omega)) (qh rfl (fun hS => ah aM rfl hS.2.2.2.2) ?_))))))))
       refine ⟨?_, ?_⟩
       ·
        refine po rfl (ec dz (args := [.sl gb (ot + nm) (nt - nm) (ct - nm)]) rfl (aa (bG _ ((hst.keepB H38.keep hB hgb).drop_ nm) (by omega) (by omega)) ?_))
        rintro e w40 ⟨rfl, HS39⟩
        have H41 := H38.cal0 HS39
        refine ⟨_, rfl, ?_⟩
        refine ⟨⟨show World.cell? _ _ = some (.u64 (↑nm)) from (hDm _ (H41.g 0 rfl)).cellAt 0 (by omega), show World.cell? _ _ = some (.u64 (zs.getD 4 0)) from (hDm _ (H41.g 0 rfl)).cellAt 1 (by omega), show World.cell? _ _ = some (.u64 (zs.getD 5 0)) from (hDm _ (H41.g 0 rfl)).cellAt 2 (by omega), show World.cell? _ _ = some (.u64 (n2 big (zs.drop 6))) from (hDm _ (H41.g 0 rfl)).cellAt 3 (by omega), show World.cell? _ _ = some (.u64 (n8 big (zs.drop 8))) from (hDm _ (H41.g 0 rfl)).cellAt 4 (by omega)⟩, fun _ => trivial, ?_⟩
        refine qy rfl (yb (ps := [(0, .str (a9 (((xs.drop q16).take q20).drop nm))), (1, .u8 (zs.getD 4 0)), (2, .u8 (zs.getD 5 0)), (3, .u16 (n2 big (zs.drop 6))), (4, .u64 (n8 big (zs.drop 8)))]) (cells := #[.str (a9 (((xs.drop q16).take q20).drop nm)), .u8 (zs.getD 4 0), .u8 (zs.getD 5 0), .u16 (n2 big (zs.drop 6)), .u64 (n8 big (zs.drop 8))]) rfl (by kernel_rfl)) (qr rfl (aK H41 j7 (fun g42 w43 hgg42 H44 =>  ?_)))
        refine ⟨⟨show World.cell? _ _ = some (.u64 (↑nm)) from (hDm _ (H44.g 1 rfl)).cellAt 0 (by omega), show World.cell? _ _ = some (.u64 (zs.getD 4 0)) from (hDm _ (H44.g 1 rfl)).cellAt 1 (by omega), show World.cell? _ _ = some (.u64 (zs.getD 5 0)) from (hDm _ (H44.g 1 rfl)).cellAt 2 (by omega), show World.cell? _ _ = some (.u64 (n2 big (zs.drop 6))) from (hDm _ (H44.g 1 rfl)).cellAt 3 (by omega), show World.cell? _ _ = some (.u64 (n8 big (zs.drop 8))) from (hDm _ (H44.g 1 rfl)).cellAt 4 (by omega)⟩, fun _ => trivial, ?_⟩
        refine dx rfl (eN H44 0 [.str (a9 (((xs.drop q16).take q20).drop nm)), .u8 (zs.getD 4 0), .u8 (zs.getD 5 0), .u16 (n2 big (zs.drop 6)), .u64 (n8 big (zs.drop 8))] rfl tI (fun w46 H45 =>  ?_))
        refine ⟨⟨show World.cell? _ _ = some (.u64 (↑nm)) from (hDm _ (H45.g 1 rfl)).cellAt 0 (by omega), show World.cell? _ _ = some (.u64 (zs.getD 4 0)) from (hDm _ (H45.g 1 rfl)).cellAt 1 (by omega), show World.cell? _ _ = some (.u64 (zs.getD 5 0)) from (hDm _ (H45.g 1 rfl)).cellAt 2 (by omega), show World.cell? _ _ = some (.u64 (n2 big (zs.drop 6))) from (hDm _ (H45.g 1 rfl)).cellAt 3 (by omega), show World.cell? _ _ = some (.u64 (n8 big (zs.drop 8))) from (hDm _ (H45.g 1 rfl)).cellAt 4 (by omega)⟩, fun _ => trivial, ?_⟩
        refine pn ?_
        exact ⟨_, g0, g1, g2, g3, g9, g11, g12, g85, g86, rfl, H45.re [0, 3, 4, 5, 6]⟩
       ·
        refine po rfl (aK H38 j7 (fun g47 w48 hgg47 H49 =>  ?_))
        refine ⟨⟨show World.cell? _ _ = some (.u64 (↑nm)) from (hDm _ (H49.g 1 rfl)).cellAt 0 (by omega), show World.cell? _ _ = some (.u64 (zs.getD 4 0)) from (hDm _ (H49.g 1 rfl)).cellAt 1 (by omega), show World.cell? _ _ = some (.u64 (zs.getD 5 0)) from (hDm _ (H49.g 1 rfl)).cellAt 2 (by omega), show World.cell? _ _ = some (.u64 (n2 big (zs.drop 6))) from (hDm _ (H49.g 1 rfl)).cellAt 3 (by omega), show World.cell? _ _ = some (.u64 (n8 big (zs.drop 8))) from (hDm _ (H49.g 1 rfl)).cellAt 4 (by omega)⟩, fun _ => trivial, ?_⟩
        refine qr rfl (ec dz (args := [.sl gb (ot + nm) (nt - nm) (ct - nm)]) rfl (aa (bG _ ((hst.keepB H49.keep hB hgb).drop_ nm) (by omega) (by omega)) ?_))
        rintro e w51 ⟨rfl, HS50⟩
        have H52 := H49.cal0 HS50
        refine ⟨_, rfl, ?_⟩
        refine ⟨⟨show World.cell? _ _ = some (.u64 (↑nm)) from (hDm _ (H52.g 1 rfl)).cellAt 0 (by omega), show World.cell? _ _ = some (.u64 (zs.getD 4 0)) from (hDm _ (H52.g 1 rfl)).cellAt 1 (by omega), show World.cell? _ _ = some (.u64 (zs.getD 5 0)) from (hDm _ (H52.g 1 rfl)).cellAt 2 (by omega), show World.cell? _ _ = some (.u64 (n2 big (zs.drop 6))) from (hDm _ (H52.g 1 rfl)).cellAt 3 (by omega), show World.cell? _ _ = some (.u64 (n8 big (zs.drop 8))) from (hDm _ (H52.g 1 rfl)).cellAt 4 (by omega)⟩, fun _ => trivial, ?_⟩
        refine qy rfl (yb (ps := [(0, .str (a9 (((xs.drop q16).take q20).drop nm))), (1, .u8 (zs.getD 4 0)), (2, .u8 (zs.getD 5 0)), (3, .u16 (n2 big (zs.drop 6))), (4, .u64 (n8 big (zs.drop 8)))]) (cells := #[.str (a9 (((xs.drop q16).take q20).drop nm)), .u8 (zs.getD 4 0), .u8 (zs.getD 5 0), .u16 (n2 big (zs.drop 6)), .u64 (n8 big (zs.drop 8))]) rfl (by kernel_rfl)) (dx rfl (eN H52 0 [.str (a9 (((xs.drop q16).take q20).drop nm)), .u8 (zs.getD 4 0), .u8 (zs.getD 5 0), .u16 (n2 big (zs.drop 6)), .u64 (n8 big (zs.drop 8))] rfl tI (fun w54 H53 =>  ?_)))
        refine ⟨⟨show World.cell? _ _ = some (.u64 (↑nm)) from (hDm _ (H53.g 1 rfl)).cellAt 0 (by omega), show World.cell? _ _ = some (.u64 (zs.getD 4 0)) from (hDm _ (H53.g 1 rfl)).cellAt 1 (by omega), show World.cell? _ _ = some (.u64 (zs.getD 5 0)) from (hDm _ (H53.g 1 rfl)).cellAt 2 (by omega), show World.cell? _ _ = some (.u64 (n2 big (zs.drop 6))) from (hDm _ (H53.g 1 rfl)).cellAt 3 (by omega), show World.cell? _ _ = some (.u64 (n8 big (zs.drop 8))) from (hDm _ (H53.g 1 rfl)).cellAt 4 (by omega)⟩, fun _ => trivial, ?_⟩
        refine pn ?_
        exact ⟨_, g0, g1, g2, g3, g9, g11, g12, g85, g86, rfl, H53.re [0, 3, 4, 5, 6]⟩
      ·
       rintro ρ4 w4 ⟨g16, k0, k1, k2, k3, k9, k11, k12, k85, k86, k16, H4⟩
       refine fm (fun ρ w' => ρ 0 = .pt fb ∧ ρ 1 = .sl gb ob N C ∧ ρ 2 = .bool true ∧ ρ 3 = .sl gr or_ nr cr ∧ ρ 9 = .sl gn on 6 cB ∧ ρ 11 = .u64 16 ∧ ρ 12 = .sl gb ot nt ct ∧ ρ 85 = .u64 (↑q12) ∧ ρ 86 = .u64 (↑j) ∧ ρ 16 = .pt g16 ∧ St w (Res.all [aq fb [vh, .bool big, .slice AL nL cL, vp, vs, vi] 33, aH 74 4 (.slice AL nL cL) nL (lv.flatMap LoadV.cells)]).F [aq g16 [.str (de (a9 (((xs.drop q16).take q20).drop nm))), .u8 (zs.getD 4 0), .u8 (zs.getD 5 0), .u16 (n2 big (zs.drop 6)), .u64 (n8 big (zs.drop 8))] 76, aq fb [vh, .bool big, .slice AL nL cL, vp, .slice As j cs, vi] 33, aH 74 4 (.slice AL nL cL) nL (lv.flatMap LoadV.cells), aH 76 5 (.slice As j cs) j (((bO true big ((xs.drop q16).take q20) ((xs.drop q8).take (16 * q12)) q12).take j).flatMap Sym.cells), Dn] w') ?_ ?_
       ·
        refine sr (wv rfl (ab ij k16) (wv rfl (H4.ld 0 rfl d9 rfl (.str (a9 (((xs.drop q16).take q20).drop nm))) rfl) (wm rfl (pL H4 lO rfl (fun g55 w56 H57 =>  wn (aC ?_))))))
        have H50 : St w (Res.all [aq fb [vh, .bool big, .slice AL nL cL, vp, vs, vi] 33, aH 74 4 (.slice AL nL cL) nL (lv.flatMap LoadV.cells)]).F [j2 g55 (strOfNums (a9 (((xs.drop q16).take q20).drop nm))) 0, aq g16 [.str (a9 (((xs.drop q16).take q20).drop nm)), .u8 (zs.getD 4 0), .u8 (zs.getD 5 0), .u16 (n2 big (zs.drop 6)), .u64 (n8 big (zs.drop 8))] 76, aq fb [vh, .bool big, .slice AL nL cL, vp, .slice As j cs, vi] 33, aH 74 4 (.slice AL nL cL) nL (lv.flatMap LoadV.cells), aH 76 5 (.slice As j cs) j (((bO true big ((xs.drop q16).take q20) ((xs.drop q8).take (16 * q12)) q12).take j).flatMap Sym.cells), Dn] w56 := H57.re [0, 1, 2, 3, 4, 5]
        refine bW (fun ρ w' => ∃ p : Nat, ρ 0 = .pt fb ∧ ρ 1 = .sl gb ob N C ∧ ρ 2 = .bool true ∧ ρ 3 = .sl gr or_ nr cr ∧ ρ 9 = .sl gn on 6 cB ∧ ρ 11 = .u64 16 ∧ ρ 12 = .sl gb ot nt ct ∧ ρ 85 = .u64 (↑q12) ∧ ρ 86 = .u64 (↑j) ∧ ρ 16 = .pt g16 ∧ ρ 139 = .pt g55 ∧ (∀ i, i < p → (a9 (((xs.drop q16).take q20).drop nm)).getD i 0 = 46 → (a9 (((xs.drop q16).take q20).drop nm)).getD 0 0 ≠ 95) ∧ St w (Res.all [aq fb [vh, .bool big, .slice AL nL cL, vp, vs, vi] 33, aH 74 4 (.slice AL nL cL) nL (lv.flatMap LoadV.cells)]).F [j2 g55 (strOfNums (a9 (((xs.drop q16).take q20).drop nm))) p, aq g16 [.str (a9 (((xs.drop q16).take q20).drop nm)), .u8 (zs.getD 4 0), .u8 (zs.getD 5 0), .u16 (n2 big (zs.drop 6)), .u64 (n8 big (zs.drop 8))] 76, aq fb [vh, .bool big, .slice AL nL cL, vp, .slice As j cs, vi] 33, aH 74 4 (.slice AL nL cL) nL (lv.flatMap LoadV.cells), aH 76 5 (.slice As j cs) j (((bO true big ((xs.drop q16).take q20) ((xs.drop q8).take (16 * q12)) q12).take j).flatMap Sym.cells), Dn] w') (fun ρ w' => (a9 (((xs.drop q16).take q20).drop nm)).length - w'.iterPos g55) ⟨0, k0, k1, k2, k3, k9, k11, k12, k85, k86, k16, rfl, by omega, H50⟩ ?_
        rintro ρ6 w6 ⟨p, n0, n1, n2, n3, n9, n11, n12, n85, n86, n16, n139, hpd, H6⟩
        refine ad ?_
        by_cases hpl : p < (a9 (((xs.drop q16).take q20).drop nm)).length
        ·
         have hns0 : 0 < (a9 (((xs.drop q16).take q20).drop nm)).length := by omega
         refine ae (wm rfl (tf H6 0 rfl n139 (by rw [strOfNums_size]; exact hpl) (fun w59 H58 =>  we (.bool true) rfl rfl (wn (ad (ay rfl (wk (aC (sr (we (.i32 (↑(Utf8.decode (strOfNums (a9 (((xs.drop q16).take q20).drop nm))) p).1 : Int)) rfl rfl (av (.i32 (↑(Utf8.decode (strOfNums (a9 (((xs.drop q16).take q20).drop nm))) p).1 : Int)) rfl ?_)))))))))))
         refine wn (sr (mv (.i32 (↑(Utf8.decode (strOfNums (a9 (((xs.drop q16).take q20).drop nm))) p).1 : Int)) rfl (wv rfl (fW rfl rfl) (mv (.bool ((↑(Utf8.decode (strOfNums (a9 (((xs.drop q16).take q20).drop nm))) p).1 : Int) == 46)) rfl ?_))))
         generalize hb60 : ((↑(Utf8.decode (strOfNums (a9 (((xs.drop q16).take q20).drop nm))) p).1 : Int) == 46) = bb
         cases bb
         ·
          simp only [bx] at hb60
          refine cM rfl rfl (cM rfl rfl (cM rfl rfl (cM rfl rfl (wv rfl (aD (b := false) (v := .bool false) rfl rfl) (wn (aj rfl (cG (ao (ac ?_)))))))))
          have it0 : w6.iterPos g55 = p := by have h : w6.heap[g55]? = some (.stringIter (strOfNums (a9 (((xs.drop q16).take q20).drop nm))) p) := H6.g 0 rfl; simp [World.iterPos, h]
          have it1 : (w59).iterPos g55 = p + (Utf8.decode (strOfNums (a9 (((xs.drop q16).take q20).drop nm))) p).2 := by have h : (w59).heap[g55]? = some (.stringIter (strOfNums (a9 (((xs.drop q16).take q20).drop nm))) (p + (Utf8.decode (strOfNums (a9 (((xs.drop q16).take q20).drop nm))) p).2)) := H58.g 0 rfl; simp [World.iterPos, h]
          have hw1 := (eC (strOfNums (a9 (((xs.drop q16).take q20).drop nm))) p).1
          exact ⟨⟨_, n0, n1, n2, n3, n9, n11, n12, n85, n86, n16, n139, iP hNSb hpl hpd (fun he => absurd (Int.ofNat_inj.2 he) hb60), H58.re [0, 1, 2, 3, 4, 5]⟩, by rw [it0, it1]; omega⟩
         ·
          simp only [bx] at hb60
          refine aP rfl rfl (ab ij n16) (aP rfl rfl (H58.ld 1 rfl d9 rfl (.str (a9 (((xs.drop q16).take q20).drop nm))) rfl) (aP rfl rfl (fz (ns := (a9 (((xs.drop q16).take q20).drop nm))) lO rfl rfl hns0 hNSb) (aP rfl rfl (fW rfl rfl) (wv rfl (aD (b := true) (v := .bool ((a9 (((xs.drop q16).take q20).drop nm)).getD 0 0 == 95)) rfl rfl) (wn ?_)))))
          refine cf rfl (fun hb61 => ?_) (fun hb61 => ?_)
          ·
           simp only [bx] at hb61
           refine sr (wv rfl (ab ij n16) (wv rfl (H58.ld 1 rfl d9 rfl (.str (a9 (((xs.drop q16).take q20).drop nm))) rfl) (wv rfl (fy (ns := (a9 (((xs.drop q16).take q20).drop nm))) lO rfl rfl hns0) (wv rfl (ab ij n16) (ws (es H58 1 0 (.str ((a9 (((xs.drop q16).take q20).drop nm)).drop 1)) rfl d9 (fun w63 H62 =>  ?_)))))))
           refine wn (bF (lq rfl (a8 (aY (ac ?_)))))
           have hsp : (a9 (((xs.drop q16).take q20).drop nm)).drop 1 = de (a9 (((xs.drop q16).take q20).drop nm)) := by unfold de; rw [if_pos ⟨nU hNSb hpl (by have := hb60; omega), hb61⟩]
           rw [hsp] at H62
           exact ⟨n0, n1, n2, n3, n9, n11, n12, n85, n86, n16, by have h := H62.re [1, 2, 3, 4, 5]; exact h⟩
          ·
           simp only [bx] at hb61
           refine cG (ao (ac ?_))
           have it0 : w6.iterPos g55 = p := by have h : w6.heap[g55]? = some (.stringIter (strOfNums (a9 (((xs.drop q16).take q20).drop nm))) p) := H6.g 0 rfl; simp [World.iterPos, h]
           have it1 : (w59).iterPos g55 = p + (Utf8.decode (strOfNums (a9 (((xs.drop q16).take q20).drop nm))) p).2 := by have h : (w59).heap[g55]? = some (.stringIter (strOfNums (a9 (((xs.drop q16).take q20).drop nm))) (p + (Utf8.decode (strOfNums (a9 (((xs.drop q16).take q20).drop nm))) p).2)) := H58.g 0 rfl; simp [World.iterPos, h]
           have hw1 := (eC (strOfNums (a9 (((xs.drop q16).take q20).drop nm))) p).1
           exact ⟨⟨_, n0, n1, n2, n3, n9, n11, n12, n85, n86, n16, n139, iP hNSb hpl hpd (fun he => hb61), H58.re [0, 1, 2, 3, 4, 5]⟩, by rw [it0, it1]; omega⟩
        ·
         refine ae (wm rfl (i3 (kn H6 0 rfl n139 (by rw [strOfNums_size]; exact hpl)) (we (.bool false) rfl rfl (wn (ad (aj rfl (bF (a8 (a8 (aY (ac ?_)))))))))))
         have hsp : de (a9 (((xs.drop q16).take q20).drop nm)) = (a9 (((xs.drop q16).take q20).drop nm)) := l1 (fun i hi => hpd i (by omega))
         exact ⟨n0, n1, n2, n3, n9, n11, n12, n85, n86, n16, by have h := H6.re [1, 2, 3, 4, 5]; rw [hsp]; exact h⟩
       ·
        rintro ρ7 w7 ⟨m0, m1, m2, m3, m9, m11, m12, m85, m86, m16, H7⟩
        have hsym : ([.str (de (a9 (((xs.drop q16).take q20).drop nm))), .u8 (zs.getD 4 0), .u8 (zs.getD 5 0), .u16 (n2 big (zs.drop 6)), .u64 (n8 big (zs.drop 8))] : List Value) = Sym.cells (eP true big ((xs.drop q16).take q20) zs) := by unfold eP; rw [hnmn]; rfl
        have H64 := H7.drew
        refine dL MX (fun w' => w'.cell? ⟨fb, 4, none⟩ = some (.slice As j cs)) (fun w' => w'.cell? ⟨g16, 0, none⟩ = some (.str (de (a9 (((xs.drop q16).take q20).drop nm)))) ∧ w'.cell? ⟨g16, 1, none⟩ = some (.u8 (zs.getD 4 0)) ∧ w'.cell? ⟨g16, 2, none⟩ = some (.u8 (zs.getD 5 0)) ∧ w'.cell? ⟨g16, 3, none⟩ = some (.u16 (n2 big (zs.drop 6))) ∧ w'.cell? ⟨g16, 4, none⟩ = some (.u64 (n8 big (zs.drop 8)))) 10 (tr 0 4 (Pl.takeS 4 (Pl.take 5 (Pl.run 6 (Pl.run 7 (Pl.take 8 (Pl.take 9 (Pl.run 10 Pl.done)))))))) (by kernel_rfl) rfl (H64.c 1 4 rfl rfl) (⟨H64.c 0 0 rfl rfl, H64.c 0 1 rfl rfl, H64.c 0 2 rfl rfl, H64.c 0 3 rfl rfl, H64.c 0 4 rfl rfl⟩) (qm (.pt fb) rfl m0 (qm (.pt fb) rfl m0 (qy rfl (ag rfl) (qy rfl (ab (o := 0) fO rfl) (qs rfl rfl (fun _ hS => ah iD rfl hS) (qh rfl (fun hS => dI (o := 0) wb m16 (tk hS.1 hS.2.1 hS.2.2.1 hS.2.2.2.1 hS.2.2.2.2) rfl) (qr rfl (jv H64 (ps := [(0, .agg #[.str (de (a9 (((xs.drop q16).take q20).drop nm))), .u8 (zs.getD 4 0), .u8 (zs.getD 5 0), .u16 (n2 big (zs.drop 6)), .u64 (n8 big (zs.drop 8))])]) (e := 76) (cs := [.str (de (a9 (((xs.drop q16).take q20).drop nm))), .u8 (zs.getD 4 0), .u8 (zs.getD 5 0), .u16 (n2 big (zs.drop 6)), .u64 (n8 big (zs.drop 8))]) rfl (by kernel_rfl) (fun g65 w66 hgg65 H67 =>  ?_)))))))))
        refine ⟨⟨H67.c 1 0 rfl rfl, H67.c 1 1 rfl rfl, H67.c 1 2 rfl rfl, H67.c 1 3 rfl rfl, H67.c 1 4 rfl rfl⟩, fun _ => H67.c 2 4 rfl rfl, ?_⟩
        refine qr rfl (bR H67 4 (m := 1) (news := [.str (de (a9 (((xs.drop q16).take q20).drop nm))), .u8 (zs.getD 4 0), .u8 (zs.getD 5 0), .u16 (n2 big (zs.drop 6)), .u64 (n8 big (zs.drop 8))]) rfl TU31 TB76 rfl (by decide) rfl rfl rfl (H67.news (i := 0) rfl) (by simp [Value.oneCell']) (by simp only [maxLen]; omega) (by omega) (fun v68 w69 H70 =>  ?_))
        obtain ⟨A71, c72, rfl, _, _⟩ := aw (H70.g 4 rfl)
        refine ⟨⟨H70.c 1 0 rfl rfl, H70.c 1 1 rfl rfl, H70.c 1 2 rfl rfl, H70.c 1 3 rfl rfl, H70.c 1 4 rfl rfl⟩, fun _ => H70.c 2 4 rfl rfl, ?_⟩
        refine qy rfl (ag rfl) (qy rfl (ab (o := 0) fO rfl) (dx rfl (es H70 2 4 (.slice A71 (j + 1) c72) rfl iD (fun w74 H73 =>  ?_))))
        refine ⟨⟨H73.c 1 0 rfl rfl, H73.c 1 1 rfl rfl, H73.c 1 2 rfl rfl, H73.c 1 3 rfl rfl, H73.c 1 4 rfl rfl⟩, fun h => absurd h (by decide), ?_⟩
        refine ck (ao (ac (ae (wv rfl (aT (k := .u64) (c := ↑j + 1) m86 rfl (a6 (by omega) (by omega))) (mu (↑j + 1) rfl (wn ?_))))))
        have hd : (bO true big ((xs.drop q16).take q20) ((xs.drop q8).take (16 * q12)) q12)[j]? = some (eP true big ((xs.drop q16).take q20) zs) := by rw [eA (by omega), hzy]
        rw [show ([.str (de (a9 (((xs.drop q16).take q20).drop nm))), .u8 (zs.getD 4 0), .u8 (zs.getD 5 0), .u16 (n2 big (zs.drop 6)), .u64 (n8 big (zs.drop 8))] : List Value) = Sym.cells (eP true big ((xs.drop q16).take q20) zs) from hsym, ← da hd] at H73
        exact ⟨⟨j + 1, _, _, m0, m1, m2, m3, m9, m11, m12, m85, rfl, by omega, fun k hk => by rcases Nat.lt_or_eq_of_le (Nat.le_of_lt_succ hk) with h | h; exact hgood k h; subst h; rw [hzy]; omega, H73.re [2, 3, 4, 5]⟩, by show q12 + 1 - nv (.u64 (↑j + 1)) < q12 + 1 - nv (ρ 86); rw [g86]; simp only [nv]; omega⟩
    ·
     simp only [bx] at hb28
     refine bF (a8 (a8 (aY (ac (sr (mg g0 rfl (mg g0 rfl (wc rfl (wf dF rfl (wv rfl (H3.ld 0 rfl eS rfl (.slice AL nL cL) rfl) (mg g3 rfl ?_)))))))))))
     refine mg g9 rfl (wv rfl (yz [.i64 4, .sl gr or_ nr cr, .string (⟨#[]⟩), .sl gn on 6 cB] rfl (by kernel_rfl)) (wm rfl (jv H3 (ps := [(0, .agg #[.i64 4, .sl gr or_ nr cr, .string (⟨#[]⟩), .sl gn on 6 cB])]) (e := 74) (cs := [.i64 4, .sl gr or_ nr cr, .string (⟨#[]⟩), .sl gn on 6 cB]) rfl (by kernel_rfl) (fun g75 w76 hgg75 H77 =>  wm rfl (bR H77 2 (m := 1) (news := [.i64 4, .sl gr or_ nr cr, .string (⟨#[]⟩), .sl gn on 6 cB]) rfl ox oA rfl (by decide) rfl rfl rfl (H77.news (i := 0) rfl) (by simp [Value.oneCell']) (by simp only [maxLen]; omega) (by omega) (fun v78 w79 H80 =>  ?_))))))
     obtain ⟨A81, c82, rfl, _, _⟩ := aw (H80.g 2 rfl)
     refine wc rfl (wf dF rfl (ws (es H80 1 2 (.slice A81 (nL + 1) c82) rfl eS (fun w84 H83 =>  ?_))))
     refine wn (sr (av (.bool true) rfl (wn (aQ ?_))))
     have hcur : lv.flatMap LoadV.cells ++ [.i64 4, .sl gr or_ nr cr, .string (⟨#[]⟩), .sl gn on 6 cB] = (lv ++ [(LoadV.mk (⟨4, raw, [], [n4 big (ys.drop 0), n4 big (ys.drop 4), ↑q8, ↑q12, ↑q16, ↑q20]⟩ : LoadD) (.sl gr or_ nr cr) (.sl gn on 6 cB))]).flatMap LoadV.cells := by rw [List.flatMap_append, List.flatMap_singleton]; rfl
     rw [hcur] at H83
     have hjq : j = q12 := by omega
     rw [List.take_of_length_le (by rw [dc]; omega)] at H83
     exact ⟨.inr rfl, _, r1 (.bool true) rfl _ _, .inl ⟨[n4 big (ys.drop 0), n4 big (ys.drop 4), ↑q8, ↑q12, ↑q16, ↑q20], (LoadV.mk (⟨4, raw, [], [n4 big (ys.drop 0), n4 big (ys.drop 4), ↑q8, ↑q12, ↑q16, ↑q20]⟩ : LoadD) (.sl gr or_ nr cr) (.sl gn on 6 cB)), bO true big ((xs.drop q16).take q20) ((xs.drop q8).take (16 * q12)) q12, _, As, _, j, cs, Res.all [aH 76 5 (.slice As j cs) j ((bO true big ((xs.drop q16).take q20) ((xs.drop q8).take (16 * q12)) q12).flatMap Sym.cells), Dn], fun s => by have e1 : gG xs q16 q20 = some ((xs.drop q16).take q20) := bT (by rw [hr.1]; exact hf1); have e2 : gG xs q8 (ep true * q12) = some ((xs.drop q8).take (16 * q12)) := bT (by rw [hr.1]; exact hf2); have e3 : m7 true big ((xs.drop q16).take q20) ((xs.drop q8).take (16 * q12)) q12 = some (bO true big ((xs.drop q16).take q20) ((xs.drop q8).take (16 * q12)) q12) := if_pos (fun k hk => hgood k (by omega)); simp only [br, ← hys, ← hq8, ← hq12, ← hq16, ← hq20, Int.toNat_natCast, e1, e2, e3]; rw [if_neg (by omega)], rfl, rfl, by rw [dc]; exact hjq.symm, by omega, rfl, H83.reAll [3, 4] [1, 2], fun w hh => by have hh := aV.1 hh; exact ⟨⟨_, _, _, rfl, hDn w (hh Dn (by simp))⟩, by obtain ⟨A, c, e, hv, _⟩ := aw (hh (aH 76 5 (.slice As j cs) j ((bO true big ((xs.drop q16).take q20) ((xs.drop q8).take (16 * q12)) q12).flatMap Sym.cells)) (by simp)); injection e with e; subst e; exact hv⟩⟩⟩
   ·
    have H85 := H14.drew
    refine aO MX (fun w' => w'.cell? ⟨gn, on + 4, none⟩ = some (.u64 (↑q16)) ∧ w'.cell? ⟨gn, on + 5, none⟩ = some (.u64 (↑q20)) ∧ w'.cell? ⟨gn, on + 2, none⟩ = some (.u64 (↑q8)) ∧ w'.cell? ⟨gn, on + 3, none⟩ = some (.u64 (↑q12))) (tr 0 10 (Pl.run 10 (tr 11 12 (Pl.run 23 (Pl.take 24 (Pl.take 25 Pl.done)))))) (by kernel_rfl) (⟨show World.cell? _ _ = some (.u64 (↑q16)) from (hDn _ (H85.g 1 rfl)).cellAt 4 (by omega), show World.cell? _ _ = some (.u64 (↑q20)) from (hDn _ (H85.g 1 rfl)).cellAt 5 (by omega), show World.cell? _ _ = some (.u64 (↑q8)) from (hDn _ (H85.g 1 rfl)).cellAt 2 (by omega), show World.cell? _ _ = some (.u64 (↑q12)) from (hDn _ (H85.g 1 rfl)).cellAt 3 (by omega)⟩) (qm (.bool true) rfl rfl (qy rfl (bB rfl) (qm (.bool false) rfl rfl (qz rfl rfl (al (v := .sl gb ob N C) rfl) (qz rfl rfl (al (v := .sl gn on 6 cB) rfl) (qz rfl rfl (aI (a := ⟨gn, on, none⟩) (i := 4) bA rfl rfl (by omega) (by omega)) (jQ rfl rfl (fun _ hS => ah aM rfl hS.1) (qz rfl rfl (al (v := .sl gn on 6 cB) rfl) (qz rfl rfl (aI (a := ⟨gn, on, none⟩) (i := 5) bA rfl rfl (by omega) (by omega)) (jQ rfl rfl (fun _ hS => ah aM rfl hS.2.1) (sK rfl rfl ?_)))))))))))
    refine ec fV (args := [.sl gb ob N C, .u64 (↑q16), .u64 (↑q20)]) rfl (aa (cZ _ (by omega) (by omega) hf1) ?_)
    rintro e w87 ⟨rfl, HS86⟩
    have H88 := H85.cal0 HS86
    refine ⟨_, rfl, ?_⟩
    refine ⟨⟨show World.cell? _ _ = some (.u64 (↑q16)) from (hDn _ (H88.g 1 rfl)).cellAt 4 (by omega), show World.cell? _ _ = some (.u64 (↑q20)) from (hDn _ (H88.g 1 rfl)).cellAt 5 (by omega), show World.cell? _ _ = some (.u64 (↑q8)) from (hDn _ (H88.g 1 rfl)).cellAt 2 (by omega), show World.cell? _ _ = some (.u64 (↑q12)) from (hDn _ (H88.g 1 rfl)).cellAt 3 (by omega)⟩, fun _ => trivial, ?_⟩
    refine qz rfl rfl (bB rfl) (qy rfl (aD (b := false) (v := .bool false) rfl rfl) (qm (.bool false) rfl rfl (qz rfl rfl (al (v := .sl gb ob N C) rfl) (qz rfl rfl (al (v := .sl gn on 6 cB) rfl) (qz rfl rfl (aI (a := ⟨gn, on, none⟩) (i := 2) bA rfl rfl (by omega) (by omega)) (jQ rfl rfl (fun _ hS => ah aM rfl hS.2.2.1) (qz rfl rfl (al (v := .u64 16) rfl) (qz rfl rfl (al (v := .sl gn on 6 cB) rfl) (qz rfl rfl (aI (a := ⟨gn, on, none⟩) (i := 3) bA rfl rfl (by omega) (by omega)) (jQ rfl rfl (fun _ hS => ah aM rfl hS.2.2.2) (qz rfl rfl (c6 (k := .u64) (c := ↑(16 * q12)) rfl rfl (by rw [a6 (by omega) (by omega)]; omega)) ?_)))))))))))
    refine sK rfl rfl (ec fV (args := [.sl gb ob N C, .u64 (↑q8), .u64 (↑(16 * q12))]) rfl (aa (dj _ (by omega) (by omega) hf2) ?_))
    rintro e w90 ⟨rfl, HS89⟩
    have H91 := H88.cal0 HS89
    refine ⟨_, rfl, ?_⟩
    refine ⟨⟨show World.cell? _ _ = some (.u64 (↑q16)) from (hDn _ (H91.g 1 rfl)).cellAt 4 (by omega), show World.cell? _ _ = some (.u64 (↑q20)) from (hDn _ (H91.g 1 rfl)).cellAt 5 (by omega), show World.cell? _ _ = some (.u64 (↑q8)) from (hDn _ (H91.g 1 rfl)).cellAt 2 (by omega), show World.cell? _ _ = some (.u64 (↑q12)) from (hDn _ (H91.g 1 rfl)).cellAt 3 (by omega)⟩, fun _ => trivial, ?_⟩
    refine qz rfl rfl (bB rfl) (qy rfl (aD (b := false) (v := .bool true) rfl rfl) (pn (ay rfl (sr (av (.bool false) rfl (wn (rq ?_)))))))
    exact ⟨.inr rfl, _, r1 (.bool false) rfl _ _, .inr ⟨fun s => by have e1 : gG xs q16 q20 = some ((xs.drop q16).take q20) := bT (by rw [hr.1]; exact hf1); have e2 : gG xs q8 (ep true * q12) = none := dD (by rw [hr.1]; exact hf2); simp only [br, ← hys, ← hq8, ← hq12, ← hq16, ← hq20, Int.toNat_natCast, e1, e2]; rw [if_neg (by omega)], rfl, H91.sub (List.nil_sublist _)⟩⟩
  ·
   have H92 := H14.drew
   refine aO MX (fun w' => w'.cell? ⟨gn, on + 4, none⟩ = some (.u64 (↑q16)) ∧ w'.cell? ⟨gn, on + 5, none⟩ = some (.u64 (↑q20)) ∧ w'.cell? ⟨gn, on + 2, none⟩ = some (.u64 (↑q8)) ∧ w'.cell? ⟨gn, on + 3, none⟩ = some (.u64 (↑q12))) (tr 0 10 (Pl.run 10 (tr 11 12 (Pl.run 23 (Pl.take 24 (Pl.take 25 Pl.done)))))) (by kernel_rfl) (⟨show World.cell? _ _ = some (.u64 (↑q16)) from (hDn _ (H92.g 1 rfl)).cellAt 4 (by omega), show World.cell? _ _ = some (.u64 (↑q20)) from (hDn _ (H92.g 1 rfl)).cellAt 5 (by omega), show World.cell? _ _ = some (.u64 (↑q8)) from (hDn _ (H92.g 1 rfl)).cellAt 2 (by omega), show World.cell? _ _ = some (.u64 (↑q12)) from (hDn _ (H92.g 1 rfl)).cellAt 3 (by omega)⟩) (qm (.bool true) rfl rfl (qy rfl (bB rfl) (qm (.bool false) rfl rfl (qz rfl rfl (al (v := .sl gb ob N C) rfl) (qz rfl rfl (al (v := .sl gn on 6 cB) rfl) (qz rfl rfl (aI (a := ⟨gn, on, none⟩) (i := 4) bA rfl rfl (by omega) (by omega)) (jQ rfl rfl (fun _ hS => ah aM rfl hS.1) (qz rfl rfl (al (v := .sl gn on 6 cB) rfl) (qz rfl rfl (aI (a := ⟨gn, on, none⟩) (i := 5) bA rfl rfl (by omega) (by omega)) (jQ rfl rfl (fun _ hS => ah aM rfl hS.2.1) (sK rfl rfl ?_)))))))))))
   refine ec fV (args := [.sl gb ob N C, .u64 (↑q16), .u64 (↑q20)]) rfl (aa (dj _ (by omega) (by omega) hf1) ?_)
   rintro e w94 ⟨rfl, HS93⟩
   have H95 := H92.cal0 HS93
   refine ⟨_, rfl, ?_⟩
   refine ⟨⟨show World.cell? _ _ = some (.u64 (↑q16)) from (hDn _ (H95.g 1 rfl)).cellAt 4 (by omega), show World.cell? _ _ = some (.u64 (↑q20)) from (hDn _ (H95.g 1 rfl)).cellAt 5 (by omega), show World.cell? _ _ = some (.u64 (↑q8)) from (hDn _ (H95.g 1 rfl)).cellAt 2 (by omega), show World.cell? _ _ = some (.u64 (↑q12)) from (hDn _ (H95.g 1 rfl)).cellAt 3 (by omega)⟩, fun _ => trivial, ?_⟩
   refine qz rfl rfl (bB rfl) (qy rfl (aD (b := false) (v := .bool true) rfl rfl) (qm (.bool true) rfl rfl (bk rfl rfl (bk rfl rfl (bk rfl rfl (bk rfl rfl (bk rfl rfl (bk rfl rfl (bk rfl rfl (bk rfl rfl (bk rfl rfl ?_)))))))))))
   refine nN rfl rfl (⟨show World.cell? _ _ = some (.u64 (↑q16)) from (hDn _ (H95.g 1 rfl)).cellAt 4 (by omega), show World.cell? _ _ = some (.u64 (↑q20)) from (hDn _ (H95.g 1 rfl)).cellAt 5 (by omega), show World.cell? _ _ = some (.u64 (↑q8)) from (hDn _ (H95.g 1 rfl)).cellAt 2 (by omega), show World.cell? _ _ = some (.u64 (↑q12)) from (hDn _ (H95.g 1 rfl)).cellAt 3 (by omega)⟩) (fun _ => trivial) (bk rfl rfl (qy rfl (aD (b := true) (v := .bool true) rfl rfl) (pn (ay rfl (sr (av (.bool false) rfl (wn (rq ?_))))))))
   exact ⟨.inr rfl, _, r1 (.bool false) rfl _ _, .inr ⟨fun s => by have e1 : gG xs q16 q20 = none := dD (by rw [hr.1]; exact hf1); simp only [br, ← hys, ← hq8, ← hq12, ← hq16, ← hq20, Int.toNat_natCast, e1]; rw [if_neg (by omega)], rfl, H95.sub (List.nil_sublist _)⟩⟩
 ·
  have H96 := H0.drew
  refine aO MX (fun w' => w'.cell? ⟨fb, 1, none⟩ = some (.bool big)) (tr 0 4 (Pl.take 5 (Pl.run 4 (Pl.run 6 (tr 7 5 Pl.done))))) (by kernel_rfl) (H96.c 0 1 rfl rfl) (qm (.pt fb) rfl rfl (qy rfl (ag rfl) (qy rfl (ab (o := 0) cO rfl) (qh rfl (fun hS => ah cU rfl hS) (qm (.sl gr or_ nr cr) rfl rfl (qr rfl (ec kg (args := [.i64 6]) rfl (aa (dQ (n := 6) _ (by omega)) ?_))))))))
  rintro e w98 ⟨A4, c4, rfl, HS97⟩
  have H99 := H96.cal0 HS97
  refine ⟨_, rfl, ?_⟩
  refine ⟨H99.c 1 1 rfl rfl, fun _ => trivial, ?_⟩
  refine qr rfl (ec gM (args := [.bool big, .slice A4 6 c4, .sl gr or_ nr cr]) rfl (aa (dA (ws := List.replicate 6 4) (bs := raw) big _ (ce (H99.g 0 rfl)) (eJ _) (hrr.keepB H99.keep hB hgr) hnr (by omega) hrb (by decide) (by rw [eI]; omega)) ?_))
  rintro e w101 ⟨rfl, HS100⟩
  have H102 := H99.cal0 HS100
  refine ⟨_, rfl, ?_⟩
  refine ⟨H102.c 1 1 rfl rfl, fun _ => trivial, ?_⟩
  refine qm (.tuple #[.ns, .bool false]) rfl rfl (qy rfl (a7 (v := .ns) rfl rfl) (qy rfl (a7 (v := .bool false) rfl rfl) (qa (.ns) rfl rfl (qa (.bool false) rfl rfl (pn (sr (mv (.bool true) rfl (wE [.bool true] sG rfl rfl (aa (fv _) ?_)))))))))
  rintro e w105 ⟨ADW103, nDW103, cDW103, DW103, rfl, h1DW103, HS104, hDW103⟩
  have H106 := H102.cal0 HS104
  refine ⟨_, rfl, ?_⟩
  refine wE [.slice ADW103 nDW103 cDW103] oP rfl rfl (aa (by have h := gf (ws := ll true) (cW := cDW103) _ (hDW103 _ (H106.g 0 rfl)) (dZ (jS true)) (by rw [← (hDW103 _ (H106.g 0 rfl)).1]; decide); rw [mG, show ((ep true : Nat) : Int) = 16 from rfl] at h; exact h) ?_)
  rintro e w108 ⟨rfl, HS107⟩
  have H109 := H106.cal0 HS107
  refine ⟨_, rfl, ?_⟩
  refine wv rfl (an (c := 16) eL be rfl rfl) (au 16 rfl (wn (ad (ad ?_))))
  have H110 := H109.drew
  refine aO MX (fun w' => True) (tr 0 10 (Pl.run 10 (tr 11 12 (Pl.run 23 (Pl.take 24 (Pl.take 25 Pl.done)))))) (by kernel_rfl) (trivial) (qm (.bool false) rfl rfl (qy rfl (bB rfl) (qm (.bool true) rfl rfl (bk rfl rfl (bk rfl rfl (bk rfl rfl (bk rfl rfl (bk rfl rfl (bk rfl rfl (bk rfl rfl (nN rfl rfl (trivial) (fun _ => trivial) ?_)))))))))))
  refine bk rfl rfl (qy rfl (aD (b := true) (v := .bool true) rfl rfl) (qm (.bool true) rfl rfl (bk rfl rfl (bk rfl rfl (bk rfl rfl (bk rfl rfl (bk rfl rfl (bk rfl rfl (bk rfl rfl (bk rfl rfl (bk rfl rfl ?_)))))))))))
  refine nN rfl rfl (trivial) (fun _ => trivial) (bk rfl rfl (qy rfl (aD (b := true) (v := .bool true) rfl rfl) (pn (ay rfl (sr (av (.bool false) rfl (wn (rq ?_))))))))
  exact ⟨.inr rfl, _, r1 (.bool false) rfl _ _, .inr ⟨fun s => by unfold br; rw [if_pos (by omega)], rfl, H110.sub (List.nil_sublist _)⟩⟩
end Go.Proofs.YtlndedfkgiafhaaDoor
