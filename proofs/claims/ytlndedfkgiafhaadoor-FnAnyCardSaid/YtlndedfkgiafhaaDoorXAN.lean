import Derived.Test.YtlndedfkgiafhaaDoorXAM
set_option linter.unusedVariables false
set_option linter.unusedSimpArgs false
set_option maxRecDepth 100000
set_option maxHeartbeats 4000000
namespace Go.Proofs.YtlndedfkgiafhaaDoor
open Go Go.RowKit Go.Proofs
theorem sI : aX Tryd.prog 16 := aJ (by kernel_rfl)
theorem oP : aX Tryd.prog 15 := aJ (by kernel_rfl)
theorem vy : aX Tryd.prog 40 := aJ (by kernel_rfl)
theorem jY : FA 33 3 3 := fa (by kernel_rfl)
theorem mz : cY Tryd.prog 30 := bz (by kernel_rfl)
theorem TU30 : Tryd.prog.underlying 30 = some (.slice 72) := by kernel_rfl
theorem TB72 : (Tryd.prog.info? 72).map (fun i => (i.zero, i.size, i.bytes)) = some (some (.agg #[.string (⟨#[]⟩), .string (⟨#[]⟩), .ns, .ns, .ns, .bool false]), 6, 112) := by kernel_rfl
theorem rG {fb gr or_ nr cr base : Nat} {gb ob N C nL cL nP cP : Nat} {AL AP : Option Addr} {xs : List Int} {lv : List LoadV} {pv : List PartV} {vh vs vi : Value} {raw : List Int} (big : Bool) (w : World) (h0 : St w (Res.all [aq fb [vh, .bool big, .slice AL nL cL, .slice AP nP cP, vs, vi] 33, aH 74 4 (.slice AL nL cL) nL (lv.flatMap LoadV.cells), aH 72 6 (.slice AP nP cP) nP (pv.flatMap PartV.cellsM)]).F [aq fb [vh, .bool big, .slice AL nL cL, .slice AP nP cP, vs, vi] 33, aH 74 4 (.slice AL nL cL) nL (lv.flatMap LoadV.cells), aH 72 6 (.slice AP nP cP) nP (pv.flatMap PartV.cellsM)] w) (hB : ∀ g, (Res.all [aq fb [vh, .bool big, .slice AL nL cL, .slice AP nP cP, vs, vi] 33, aH 74 4 (.slice AL nL cL) nL (lv.flatMap LoadV.cells), aH 72 6 (.slice AP nP cP) nP (pv.flatMap PartV.cellsM)]).F g → base ≤ g) (hbw : base ≤ w.heap.size) (hrr : RI .u8 w (some ⟨gr, or_, none⟩) nr raw) (hrb : Byt raw) (hnr : nr ≤ cr) (hnN : nr < 10485760) (hgr : gr < base) (hr : RI .u8 w (some ⟨gb, ob, none⟩) N xs) (hby : Byt xs) (hNC : N ≤ C) (hN : N < 10485760) (hgb : gb < base) (hnL : nL ≤ 10485760) (hnP : nP ≤ 10485760) :
 Calls Tryd.prog 29 #[.pt fb, .sl gb ob N C, .bool false, .sl gr or_ nr cr] w fun e w' => (∃ (ld : LoadD) (x : LoadV) (dn : List SecD) (pj : List PartV) (AL2 AP2 : Option Addr) (cL2 nP2 cP2 : Nat) (D : Res), (∀ s, ca false big xs raw s = some { s with loads := s.loads ++ [ld], secs := s.secs ++ dn }) ∧ x.l = ld ∧ ld.raw = raw ∧ x.vr = .sl gr or_ nr cr ∧ pj.map PartV.p = dn.map (fun s => s.part N xs) ∧ nP2 ≤ nP + nr ∧ e = .returned (.bool true) ∧ St w (Res.all [aq fb [vh, .bool big, .slice AL nL cL, .slice AP nP cP, vs, vi] 33, aH 74 4 (.slice AL nL cL) nL (lv.flatMap LoadV.cells), aH 72 6 (.slice AP nP cP) nP (pv.flatMap PartV.cellsM)]).F [D, aq fb [vh, .bool big, .slice AL2 (nL + 1) cL2, .slice AP2 nP2 cP2, vs, vi] 33, aH 74 4 (.slice AL2 (nL + 1) cL2) (nL + 1) ((lv ++ [x]).flatMap LoadV.cells), aH 72 6 (.slice AP2 nP2 cP2) nP2 ((pv ++ pj).flatMap PartV.cellsM)] w' ∧ ∀ w, D.φ w → SlI' .u64 w x.vn ld.nums ∧ (RI .u8 w (some ⟨gb, ob, none⟩) N xs → ∀ y ∈ pj, y.ok w)) ∨ ((∀ s, ca false big xs raw s = none) ∧ e = .returned (.bool false) ∧ St w (Res.all [aq fb [vh, .bool big, .slice AL nL cL, .slice AP nP cP, vs, vi] 33, aH 74 4 (.slice AL nL cL) nL (lv.flatMap LoadV.cells), aH 72 6 (.slice AP nP cP) nP (pv.flatMap PartV.cellsM)]).F [] w') := by
 refine a5 (args := [.pt fb, .sl gb ob N C, .bool false, .sl gr or_ nr cr]) Tryd.func29 rfl rfl rfl ?_
 have H0 : St _ _ [aq fb [vh, .bool big, .slice AL nL cL, .slice AP nP cP, vs, vi] 33, aH 74 4 (.slice AL nL cL) nL (lv.flatMap LoadV.cells), aH 72 6 (.slice AP nP cP) nP (pv.flatMap PartV.cellsM)] _ := h0
 refine sr (av (.bool false) rfl (wn (ad ?_)))
 have hrl := hrr.1
 by_cases hfit : 56 ≤ nr
 ·
  obtain ⟨ys, hys⟩ : ∃ q, q = (raw.drop 0).take 56 := ⟨_, rfl⟩
  have hbys : Byt ys := by rw [hys]; exact (hrb.drop _).take _
  obtain ⟨q8, hq8⟩ : ∃ q : Nat, (q : Int) = n4 big (ys.drop 48) := ⟨(n4 big (ys.drop 48)).toNat, Int.toNat_of_nonneg (aR big (hbys.drop _)).1⟩
  have hltq8 : (q8 : Int) < 4294967296 := by rw [hq8]; exact (aR big (hbys.drop _)).2
  have hNL : bp big (i6 false) raw = [n4 big (ys.drop 0), n4 big (ys.drop 4), n4 big (ys.drop 24), n4 big (ys.drop 28), n4 big (ys.drop 32), n4 big (ys.drop 36), n4 big (ys.drop 40), n4 big (ys.drop 44), ↑q8, n4 big (ys.drop 52)] := by rw [hq8, hys]; exact segV false big raw
  have hns : ((dk false big ys).getD 8 0).toNat = q8 := by show (n4 big (ys.drop 48)).toNat = q8; omega
  have e8t : (raw.drop 8).take 16 = (ys.drop 8).take 16 := by rw [hys, kr (by omega)]; rfl
  have := aR big (hbys.drop 32)
  have := aR big (hbys.drop 36)
  have H1 := H0.drew
  refine aO MX (fun w' => w'.cell? ⟨fb, 1, none⟩ = some (.bool big)) (tr 0 5 (Pl.take 6 (Pl.run 5 (Pl.run 7 (tr 8 5 Pl.done))))) (by kernel_rfl) (H1.c 0 1 rfl rfl) (qm (.pt fb) rfl rfl (qy rfl (ag rfl) (qy rfl (ab (o := 0) cO rfl) (qh rfl (fun hS => ah cU rfl hS) (qm (.bool false) rfl rfl (qm (.sl gr or_ nr cr) rfl rfl (qr rfl (ec sI (args := [.bool false]) rfl (aa (eu _) ?_)))))))))
  rintro e w4 ⟨ADW2, nDW2, cDW2, DW2, rfl, h1DW2, HS3, hDW2⟩
  have H5 := H1.cal0 HS3
  refine ⟨_, rfl, ?_⟩
  refine ⟨H5.c 1 1 rfl rfl, fun _ => trivial, ?_⟩
  refine qr rfl (ec gM (args := [.bool big, .slice ADW2 nDW2 cDW2, .sl gr or_ nr cr]) rfl (aa (db (ws := i6 false) (bs := raw) big _ (hDW2 _ (H5.g 0 rfl)) (iI _) (hrr.keepB H5.keep hB hgr) hnr (by omega) hrb (by decide) (K := 10) (show 56 ≤ nr from hfit) (by rw [hNL]; rfl) (by omega)) ?_))
  rintro e w7 ⟨gn, on, cB, Dn, rfl, hcB, HS6, hDn⟩
  rw [hNL] at hDn
  have H8 := H5.cal0 HS6
  refine ⟨_, rfl, ?_⟩
  refine ⟨H8.c 2 1 rfl rfl, fun _ => trivial, ?_⟩
  refine qm (.tuple #[.sl gn on 10 cB, .bool true]) rfl rfl (qy rfl (a7 (v := .sl gn on 10 cB) rfl rfl) (qy rfl (a7 (v := .bool true) rfl rfl) (qa (.sl gn on 10 cB) rfl rfl (qa (.bool true) rfl rfl (pn (ad (sr (mv (.bool true) rfl (wv rfl (bB rfl) (mv (.bool false) rfl (aP rfl rfl (al (v := .sl gn on 10 cB) rfl) ?_)))))))))))
  refine aP rfl rfl (aI bA rfl rfl (by omega) (by omega)) (aP rfl rfl (ah aM rfl (show World.cell? _ _ = some (.u64 (n4 big (ys.drop 32))) from (hDn _ (H8.g 0 rfl)).cellAt 4 (by omega))) (aP rfl rfl (dm (c := n4 big (ys.drop 32) / 9223372036854775808) rfl rfl (by decide) (by rw [show (2 : Int) ^ (min (63 : Int).toNat IntKind.u64.bits) = 9223372036854775808 from by decide, Int.fdiv_eq_ediv_of_nonneg _ (by decide)])) (aP rfl rfl (aL rfl rfl (beq_eq_false_iff_ne.2 (by omega))) (wv rfl (aD (b := false) (v := .bool false) rfl rfl) (mv (.bool false) rfl (aP rfl rfl (al (v := .sl gn on 10 cB) rfl) (aP rfl rfl (aI bA rfl rfl (by omega) (by omega)) (aP rfl rfl (ah aM rfl (show World.cell? _ _ = some (.u64 (n4 big (ys.drop 36))) from (hDn _ (H8.g 0 rfl)).cellAt 5 (by omega))) (aP rfl rfl (dm (c := n4 big (ys.drop 36) / 9223372036854775808) rfl rfl (by decide) (by rw [show (2 : Int) ^ (min (63 : Int).toNat IntKind.u64.bits) = 9223372036854775808 from by decide, Int.fdiv_eq_ediv_of_nonneg _ (by decide)])) (aP rfl rfl (aL rfl rfl (beq_eq_false_iff_ne.2 (by omega))) (wv rfl (aD (b := false) (v := .bool false) rfl rfl) ?_)))))))))))
  refine wn (aj rfl (wk (ad ?_)))
  have H9 := H8.drew
  refine dL MX (fun w' => w'.cell? ⟨fb, 2, none⟩ = some (.slice AL nL cL)) (fun w' => True) 15 (tr 0 4 (Pl.takeS 4 (tr 5 3 (Pl.take 9 (Pl.run 8 (Pl.take 10 (Pl.run 11 (Pl.run 12 (Pl.take 13 (Pl.take 14 (Pl.run 15 Pl.done))))))))))) (by kernel_rfl) rfl (H9.c 2 2 rfl rfl) (trivial) (qm (.pt fb) rfl rfl (qm (.pt fb) rfl rfl (qy rfl (ag rfl) (qy rfl (ab (o := 0) dF rfl) (qs rfl rfl (fun _ hS => ah eS rfl hS) (qm (.sl gr or_ nr cr) rfl rfl (qm (.sl gr or_ nr cr) rfl rfl (qt rfl (fun _ hS => (am (l := 8) (h := 24) aU rfl (bs rfl (by omega) rfl) (bs rfl (by omega) rfl) (by omega) (by omega) (by omega) (by omega) : Yv _ _ _ _ (.sl gr (or_ + 8) 16 (cr - 8)) _)) (qm (.sl gn on 10 cB) rfl rfl (qr rfl (ec dz (args := [.sl gr (or_ + 8) 16 (cr - 8)]) rfl ?_)))))))))))
  refine aa (by have h := bG _ (((hrr.keepB H9.keep hB hgr).drop_ 8).take (m := 16) (by omega)) (c := cr - 8) (by omega) (by omega); rw [e8t] at h; exact h) ?_
  rintro e w11 ⟨rfl, HS10⟩
  have H12 := H9.cal0 HS10
  refine ⟨_, rfl, ?_⟩
  refine ⟨trivial, fun _ => H12.c 2 2 rfl rfl, ?_⟩
  refine qy rfl (yb (ps := [(0, .i64 1), (1, .sl gr or_ nr cr), (2, .str (a9 ((ys.drop 8).take 16))), (3, .sl gn on 10 cB)]) (cells := #[.i64 1, .sl gr or_ nr cr, .str (a9 ((ys.drop 8).take 16)), .sl gn on 10 cB]) rfl (by kernel_rfl)) (qr rfl (jv H12 (ps := [(0, .agg #[.i64 1, .sl gr or_ nr cr, .str (a9 ((ys.drop 8).take 16)), .sl gn on 10 cB])]) (e := 74) (cs := [.i64 1, .sl gr or_ nr cr, .str (a9 ((ys.drop 8).take 16)), .sl gn on 10 cB]) rfl (by kernel_rfl) (fun g13 w14 hgg13 H15 =>  ?_)))
  refine ⟨trivial, fun _ => H15.c 3 2 rfl rfl, ?_⟩
  refine qr rfl (bR H15 4 (m := 1) (news := [.i64 1, .sl gr or_ nr cr, .str (a9 ((ys.drop 8).take 16)), .sl gn on 10 cB]) rfl ox oA rfl (by decide) rfl rfl rfl (H15.news (i := 0) rfl) (by simp [Value.oneCell']) (by simp only [maxLen]; omega) (by omega) (fun v16 w17 H18 =>  ?_))
  obtain ⟨A19, c20, rfl, _, _⟩ := aw (H18.g 4 rfl)
  refine ⟨trivial, fun _ => H18.c 3 2 rfl rfl, ?_⟩
  refine qy rfl (ag rfl) (qy rfl (ab (o := 0) dF rfl) (dx rfl (es H18 3 2 (.slice A19 (nL + 1) c20) rfl eS (fun w22 H21 =>  ?_))))
  refine ⟨trivial, fun h => absurd h (by decide), ?_⟩
  refine pn (sr (mv (.bool false) rfl (wE [.bool false] sI rfl rfl (aa (eu _) ?_))))
  rintro e w25 ⟨ADW23, nDW23, cDW23, DW23, rfl, h1DW23, HS24, hDW23⟩
  have H26 := H21.cal0 HS24
  refine ⟨_, rfl, ?_⟩
  refine wE [.slice ADW23 nDW23 cDW23] oP rfl rfl (aa (by have h := gf (ws := i6 false) (cW := cDW23) _ (hDW23 _ (H26.g 0 rfl)) (dZ (iI false)) (by rw [← (hDW23 _ (H26.g 0 rfl)).1]; decide); rw [pA, show ((i7 false : Nat) : Int) = 56 from rfl] at h; exact h) ?_)
  rintro e w28 ⟨rfl, HS27⟩
  have H29 := H26.cal0 HS27
  refine ⟨_, rfl, ?_⟩
  refine ai 56 rfl (wn (ad (sr (ms gn on 10 cB rfl (wv rfl (aI bA rfl rfl (by omega) (by omega)) (wv rfl (ah aM rfl (show World.cell? _ _ = some (.u64 (↑q8)) from (hDn _ (H29.g 2 rfl)).cellAt 8 (by omega))) (mu 0 rfl (wn (aC ?_)))))))))
  have hcur : lv.flatMap LoadV.cells ++ [.i64 1, .sl gr or_ nr cr, .str (a9 ((ys.drop 8).take 16)), .sl gn on 10 cB] = (lv ++ [(LoadV.mk (⟨1, raw, a9 ((ys.drop 8).take 16), dk false big ys⟩ : LoadD) (.sl gr or_ nr cr) (.sl gn on 10 cB))]).flatMap LoadV.cells := by rw [List.flatMap_append, List.flatMap_singleton]; rfl
  rw [hcur] at H29
  have H30 : St w (Res.all [aq fb [vh, .bool big, .slice AL nL cL, .slice AP nP cP, vs, vi] 33, aH 74 4 (.slice AL nL cL) nL (lv.flatMap LoadV.cells), aH 72 6 (.slice AP nP cP) nP (pv.flatMap PartV.cellsM)]).F [aq fb [vh, .bool big, .slice A19 (nL + 1) c20, .slice AP (nP + 0) cP, vs, vi] 33, aH 74 4 (.slice A19 (nL + 1) c20) (nL + 1) ((lv ++ [(LoadV.mk (⟨1, raw, a9 ((ys.drop 8).take 16), dk false big ys⟩ : LoadD) (.sl gr or_ nr cr) (.sl gn on 10 cB))]).flatMap LoadV.cells), aH 72 6 (.slice AP (nP + 0) cP) (nP + 0) ((pv ++ []).flatMap PartV.cellsM), Dn, Res.all []] w28 := by have h := (H29.reAll [] [4, 5, 6, 2]).re [1, 2, 3, 4, 0]; rw [← List.append_nil pv] at h; exact h
  refine bW (fun ρ w' => ∃ j : Nat, ∃ APj : Option Addr, ∃ cPj : Nat, ∃ pj : List PartV, ∃ dn : List SecD, ∃ Dj : Res, ρ 0 = .pt fb ∧ ρ 1 = .sl gb ob N C ∧ ρ 2 = .bool false ∧ ρ 3 = .sl gr or_ nr cr ∧ ρ 61 = .u64 ↑q8 ∧ ρ 62 = .u64 ↑j ∧ ρ 11 = .i64 ↑(56 + 68 * j) ∧ j ≤ q8 ∧ 56 + 68 * j ≤ nr ∧ pj.map PartV.p = dn.map (fun s => s.part N xs) ∧ (∀ w, Dj.φ w → RI .u8 w (some ⟨gb, ob, none⟩) N xs → ∀ x ∈ pj, x.ok w) ∧ bL false big xs raw q8 56 = (bL false big xs raw (q8 - j) (56 + 68 * j)).map (dn ++ ·) ∧ St w (Res.all [aq fb [vh, .bool big, .slice AL nL cL, .slice AP nP cP, vs, vi] 33, aH 74 4 (.slice AL nL cL) nL (lv.flatMap LoadV.cells), aH 72 6 (.slice AP nP cP) nP (pv.flatMap PartV.cellsM)]).F [aq fb [vh, .bool big, .slice A19 (nL + 1) c20, .slice APj (nP + j) cPj, vs, vi] 33, aH 74 4 (.slice A19 (nL + 1) c20) (nL + 1) ((lv ++ [(LoadV.mk (⟨1, raw, a9 ((ys.drop 8).take 16), dk false big ys⟩ : LoadD) (.sl gr or_ nr cr) (.sl gn on 10 cB))]).flatMap LoadV.cells), aH 72 6 (.slice APj (nP + j) cPj) (nP + j) ((pv ++ pj).flatMap PartV.cellsM), Dn, Dj] w') (fun ρ _ => q8 + 1 - nv (ρ 62)) (⟨0, AP, cP, [], [], Res.all [], rfl, rfl, rfl, rfl, rfl, rfl, rfl, by omega, by omega, rfl, by simp, by simp, H30⟩) ?_
  rintro ρ w3 ⟨j, APj, cPj, pj, dn, Dj, g0, g1, g2, g3, g61, g62, g11, hj, hjz, hpj, hpo, hsec, H3⟩
  obtain ⟨mj, hmj⟩ : ∃ m, m = min (56 + 68 * j) nr := ⟨_, rfl⟩
  refine sr (wv rfl (cx g62 g61) (wn (ad ?_)))
  refine cf rfl (fun hb30 => ?_) (fun hb30 => ?_)
  ·
   simp only [bx] at hb30
   refine wk (ad (aC ?_))
   refine fm (fun ρ w' => (∃ (g6 : Nat) (s6 : SecD) (x6 : PartV) (D6 : Res), 68 ≤ nr - mj ∧ dt big xs (dC false big ((raw.drop mj).take 68)) = some s6 ∧ x6.p = s6.part N xs ∧ (∀ w, D6.φ w → RI .u8 w (some ⟨gb, ob, none⟩) N xs → x6.ok w) ∧ ((∃ a b c, x6.vn = .slice a b c) ∧ (∃ a b c, x6.vr = .slice a b c) ∧ (∃ a b c, x6.vd = .slice a b c)) ∧ ρ 12 = .pt g6 ∧ ρ 13 = .bool true ∧ ρ 0 = .pt fb ∧ ρ 1 = .sl gb ob N C ∧ ρ 2 = .bool false ∧ ρ 3 = .sl gr or_ nr cr ∧ ρ 61 = .u64 ↑q8 ∧ ρ 62 = .u64 ↑j ∧ ρ 11 = .i64 ↑(56 + 68 * j) ∧ St w (Res.all [aq fb [vh, .bool big, .slice AL nL cL, .slice AP nP cP, vs, vi] 33, aH 74 4 (.slice AL nL cL) nL (lv.flatMap LoadV.cells), aH 72 6 (.slice AP nP cP) nP (pv.flatMap PartV.cellsM)]).F [aq g6 [.str x6.p.name, .str x6.p.seg, x6.vn, x6.vr, x6.vd, .bool (!x6.p.ok)] 72, D6, aq fb [vh, .bool big, .slice A19 (nL + 1) c20, .slice APj (nP + j) cPj, vs, vi] 33, aH 74 4 (.slice A19 (nL + 1) c20) (nL + 1) ((lv ++ [(LoadV.mk (⟨1, raw, a9 ((ys.drop 8).take 16), dk false big ys⟩ : LoadD) (.sl gr or_ nr cr) (.sl gn on 10 cB))]).flatMap LoadV.cells), aH 72 6 (.slice APj (nP + j) cPj) (nP + j) ((pv ++ pj).flatMap PartV.cellsM), Dn, Dj] w') ∨ ((nr - mj < 68 ∨ dt big xs (dC false big ((raw.drop mj).take 68)) = none) ∧ ρ 13 = .bool false ∧ St w (Res.all [aq fb [vh, .bool big, .slice AL nL cL, .slice AP nP cP, vs, vi] 33, aH 74 4 (.slice AL nL cL) nL (lv.flatMap LoadV.cells), aH 72 6 (.slice AP nP cP) nP (pv.flatMap PartV.cellsM)]).F [] w')) ?_ ?_
   ·
    have hjn : j < q8 := by omega
    have H31 := H3.drew
    refine aO MX (fun w' => w'.cell? ⟨fb, 1, none⟩ = some (.bool big)) (tr 0 12 (Pl.run2 12 (tr 13 3 (Pl.run 16 (Pl.run 17 (Pl.take 18 Pl.done)))) 16 (Pl.run 12 (tr 13 3 (Pl.run 17 (Pl.take 18 Pl.done)))))) (by kernel_rfl) (H31.c 0 1 rfl rfl) (qm (.sl gb ob N C) rfl g1 (qm (.pt fb) rfl g0 (qy rfl (ag rfl) (qy rfl (ab (o := 0) cO rfl) (qh rfl (fun hS => ah cU rfl hS) (qm (.bool false) rfl g2 (qm (.sl gr or_ nr cr) rfl g3 (qm (.i64 (↑(56 + 68 * j))) rfl g11 (qm (.sl gr or_ nr cr) rfl g3 (qy rfl (ba (n := nr) co rfl) (qy rfl (iu (c := ↑mj) rfl rfl (by split <;> omega)) ?_)))))))))))
    refine qy rfl ((show Yv _ _ _ _ (.slice (cR (some ⟨gr, or_, none⟩) cr mj 1) (nr - mj) (cr - mj)) _ from dH (l := mj) (h := nr) aU rfl (bg rfl (by omega) (Int.toNat_natCast _)) (bh _ _) (by omega) (by omega))) ?_
    refine ⟨?_, ?_⟩
    ·
     refine po rfl (ec vy (args := [.sl gb ob N C, .bool big, .bool false, .slice (cR (some ⟨gr, or_, none⟩) cr mj 1) (nr - mj) (cr - mj)]) rfl (aa (nR big _ (hr.keepB H31.keep hB hgb) hby hNC hN (show RI .u8 _ (cR (some ⟨gr, or_, none⟩) cr mj 1) (nr - mj) (raw.drop mj) from by have h := (hrr.keepB H31.keep hB hgr).cut (c := cr) (l := mj) (m := nr) (by omega) (Nat.le_refl _) hnr; rwa [List.take_of_length_le (by rw [List.length_drop, hrl]; omega)] at h) (hrb.drop _) (by omega) (by omega)) ?_))
     rintro e w33 (⟨s6, hf6, hs6, x6, D6, hx6, rfl, HS32, ho6⟩ | ⟨hbad6, rfl, HS32⟩)
     ·
      obtain ⟨⟨_, _, _, ea1, _⟩, ⟨_, _, _, ea2, _⟩, _, _, _, ea3, _⟩ := ho6 _ (HS32.g 0 rfl) ((hr.keepB H31.keep hB hgb).keep0 HS32.keep)
      have H34 := H31.cal0 HS32
      refine ⟨_, rfl, ?_⟩
      refine ⟨H34.c 1 1 rfl rfl, fun _ => trivial, ?_⟩
      refine qm (.tuple #[.agg #[.str x6.p.name, .str x6.p.seg, x6.vn, x6.vr, x6.vd, .bool (!x6.p.ok)], .bool true]) rfl rfl (qy rfl (a7 (v := .agg #[.str x6.p.name, .str x6.p.seg, x6.vn, x6.vr, x6.vd, .bool (!x6.p.ok)]) rfl rfl) (qy rfl (a7 (v := .bool true) rfl rfl) (qr rfl (aK H34 bX (fun g35 w36 hgg35 H37 =>  ?_)))))
      refine ⟨H37.c 2 1 rfl rfl, fun _ => trivial, ?_⟩
      refine dx rfl (bE H37 0 (vs := [.str x6.p.name, .str x6.p.seg, x6.vn, x6.vr, x6.vd, .bool (!x6.p.ok)]) (m := 6) rfl dv rfl rfl rfl (nl rfl) (by simp [Value.oneCell', ea1, ea2, ea3]) (cs' := [.str x6.p.name, .str x6.p.seg, x6.vn, x6.vr, x6.vd, .bool (!x6.p.ok)]) rfl (fun w39 H38 =>  ?_))
      refine ⟨H38.c 2 1 rfl rfl, fun _ => trivial, ?_⟩
      refine qa (.bool true) rfl rfl (pn ?_)
      exact .inl ⟨_, s6, x6, D6, hf6, hs6, hx6, ho6, ⟨⟨_, _, _, ea1⟩, ⟨_, _, _, ea2⟩, ⟨_, _, _, ea3⟩⟩, rfl, rfl, g0, g1, g2, g3, g61, g62, g11, H38.re [0, 1, 2, 3, 4, 5, 6]⟩
     ·
      have H40 := H31.cal0 HS32
      refine ⟨_, rfl, ?_⟩
      refine ⟨H40.c 0 1 rfl rfl, fun _ => trivial, ?_⟩
      refine qm (.tuple #[.agg #[.string (⟨#[]⟩), .string (⟨#[]⟩), .ns, .ns, .ns, .bool false], .bool false]) rfl rfl (qy rfl (a7 (v := .agg #[.string (⟨#[]⟩), .string (⟨#[]⟩), .ns, .ns, .ns, .bool false]) rfl rfl) (qy rfl (a7 (v := .bool false) rfl rfl) (qr rfl (aK H40 bX (fun g41 w42 hgg41 H43 =>  ?_)))))
      refine ⟨H43.c 1 1 rfl rfl, fun _ => trivial, ?_⟩
      refine dx rfl (eN H43 0 [.string (⟨#[]⟩), .string (⟨#[]⟩), .ns, .ns, .ns, .bool false] rfl dv (fun w45 H44 =>  ?_))
      refine ⟨H44.c 1 1 rfl rfl, fun _ => trivial, ?_⟩
      refine qa (.bool false) rfl rfl (pn ?_)
      exact .inr ⟨hbad6, rfl, H44.sub (List.nil_sublist _)⟩
    ·
     refine po rfl (aK H31 bX (fun g46 w47 hgg46 H48 =>  ?_))
     refine ⟨H48.c 1 1 rfl rfl, fun _ => trivial, ?_⟩
     refine qr rfl (ec vy (args := [.sl gb ob N C, .bool big, .bool false, .slice (cR (some ⟨gr, or_, none⟩) cr mj 1) (nr - mj) (cr - mj)]) rfl (aa (nR big _ (hr.keepB H48.keep hB hgb) hby hNC hN (show RI .u8 _ (cR (some ⟨gr, or_, none⟩) cr mj 1) (nr - mj) (raw.drop mj) from by have h := (hrr.keepB H48.keep hB hgr).cut (c := cr) (l := mj) (m := nr) (by omega) (Nat.le_refl _) hnr; rwa [List.take_of_length_le (by rw [List.length_drop, hrl]; omega)] at h) (hrb.drop _) (by omega) (by omega)) ?_))
     rintro e w50 (⟨s6, hf6, hs6, x6, D6, hx6, rfl, HS49, ho6⟩ | ⟨hbad6, rfl, HS49⟩)
     ·
      obtain ⟨⟨_, _, _, ea1, _⟩, ⟨_, _, _, ea2, _⟩, _, _, _, ea3, _⟩ := ho6 _ (HS49.g 0 rfl) ((hr.keepB H48.keep hB hgb).keep0 HS49.keep)
      have H51 := H48.cal0 HS49
      refine ⟨_, rfl, ?_⟩
      refine ⟨H51.c 2 1 rfl rfl, fun _ => trivial, ?_⟩
      refine qm (.tuple #[.agg #[.str x6.p.name, .str x6.p.seg, x6.vn, x6.vr, x6.vd, .bool (!x6.p.ok)], .bool true]) rfl rfl (qy rfl (a7 (v := .agg #[.str x6.p.name, .str x6.p.seg, x6.vn, x6.vr, x6.vd, .bool (!x6.p.ok)]) rfl rfl) (qy rfl (a7 (v := .bool true) rfl rfl) (dx rfl (bE H51 1 (vs := [.str x6.p.name, .str x6.p.seg, x6.vn, x6.vr, x6.vd, .bool (!x6.p.ok)]) (m := 6) rfl dv rfl rfl rfl (nl rfl) (by simp [Value.oneCell', ea1, ea2, ea3]) (cs' := [.str x6.p.name, .str x6.p.seg, x6.vn, x6.vr, x6.vd, .bool (!x6.p.ok)]) rfl (fun w53 H52 =>  ?_)))))
      refine ⟨H52.c 2 1 rfl rfl, fun _ => trivial, ?_⟩
      refine qa (.bool true) rfl rfl (pn ?_)
      exact .inl ⟨_, s6, x6, D6, hf6, hs6, hx6, ho6, ⟨⟨_, _, _, ea1⟩, ⟨_, _, _, ea2⟩, ⟨_, _, _, ea3⟩⟩, rfl, rfl, g0, g1, g2, g3, g61, g62, g11, H52.re [1, 0, 2, 3, 4, 5, 6]⟩
     ·
      have H54 := H48.cal0 HS49
      refine ⟨_, rfl, ?_⟩
      refine ⟨H54.c 1 1 rfl rfl, fun _ => trivial, ?_⟩
      refine qm (.tuple #[.agg #[.string (⟨#[]⟩), .string (⟨#[]⟩), .ns, .ns, .ns, .bool false], .bool false]) rfl rfl (qy rfl (a7 (v := .agg #[.string (⟨#[]⟩), .string (⟨#[]⟩), .ns, .ns, .ns, .bool false]) rfl rfl) (qy rfl (a7 (v := .bool false) rfl rfl) (dx rfl (eN H54 0 [.string (⟨#[]⟩), .string (⟨#[]⟩), .ns, .ns, .ns, .bool false] rfl dv (fun w56 H55 =>  ?_)))))
      refine ⟨H55.c 1 1 rfl rfl, fun _ => trivial, ?_⟩
      refine qa (.bool false) rfl rfl (pn ?_)
      exact .inr ⟨hbad6, rfl, H55.sub (List.nil_sublist _)⟩
   ·
    rintro ρ5 w5 (⟨g6, s6, x6, D6, hf6, hs6, hx6, ho6, ⟨⟨_, _, _, eo1⟩, ⟨_, _, _, eo2⟩, ⟨_, _, _, eo3⟩⟩, g12, g13, k0, k1, k2, k3, k61, k62, k11, H5⟩ | ⟨hbad6, g13, H5⟩)
    ·
     have hmj2 : mj = 56 + 68 * j := by omega
     have hsr6 : dt big xs (dC false big ((raw.drop (56 + 68 * j)).take (eQ false))) = some s6 := by rw [← hmj2]; exact hs6
     refine ad (sr (mg g13 rfl (wv rfl (bB rfl) (wn (aj rfl (wk (ad ?_)))))))
     have H57 := H5.drew
     refine dL MX (fun w' => w'.cell? ⟨fb, 3, none⟩ = some (.slice APj (nP + j) cPj)) (fun w' => w'.cell? ⟨g6, 0, none⟩ = some (.str x6.p.name) ∧ w'.cell? ⟨g6, 1, none⟩ = some (.str x6.p.seg) ∧ w'.cell? ⟨g6, 2, none⟩ = some (x6.vn) ∧ w'.cell? ⟨g6, 3, none⟩ = some (x6.vr) ∧ w'.cell? ⟨g6, 4, none⟩ = some (x6.vd) ∧ w'.cell? ⟨g6, 5, none⟩ = some (.bool (!x6.p.ok))) 10 (tr 0 4 (Pl.takeS 4 (Pl.take 5 (Pl.run 6 (Pl.run 7 (Pl.take 8 (Pl.take 9 (Pl.run 10 Pl.done)))))))) (by kernel_rfl) rfl (H57.c 2 3 rfl rfl) (⟨H57.c 0 0 rfl rfl, H57.c 0 1 rfl rfl, H57.c 0 2 rfl rfl, H57.c 0 3 rfl rfl, H57.c 0 4 rfl rfl, H57.c 0 5 rfl rfl⟩) (qm (.pt fb) rfl k0 (qm (.pt fb) rfl k0 (qy rfl (ag rfl) (qy rfl (ab (o := 0) jY rfl) (qs rfl rfl (fun _ hS => ah mz rfl hS) (qh rfl (fun hS => dI (o := 0) ji g12 (tj hS.1 hS.2.1 hS.2.2.1 hS.2.2.2.1 hS.2.2.2.2.1 hS.2.2.2.2.2) rfl) (qr rfl (jv H57 (ps := [(0, .agg #[.str x6.p.name, .str x6.p.seg, x6.vn, x6.vr, x6.vd, .bool (!x6.p.ok)])]) (e := 72) (cs := [.str x6.p.name, .str x6.p.seg, x6.vn, x6.vr, x6.vd, .bool (!x6.p.ok)]) rfl (by kernel_rfl) (fun g58 w59 hgg58 H60 =>  ?_)))))))))
     refine ⟨⟨H60.c 1 0 rfl rfl, H60.c 1 1 rfl rfl, H60.c 1 2 rfl rfl, H60.c 1 3 rfl rfl, H60.c 1 4 rfl rfl, H60.c 1 5 rfl rfl⟩, fun _ => H60.c 3 3 rfl rfl, ?_⟩
     refine qr rfl (bR H60 5 (m := 1) (news := [.str x6.p.name, .str x6.p.seg, x6.vn, x6.vr, x6.vd, .bool (!x6.p.ok)]) rfl TU30 TB72 rfl (by decide) rfl rfl rfl (H60.news (i := 0) rfl) (by simp [Value.oneCell', eo1, eo2, eo3]) (by simp only [maxLen]; omega) (by omega) (fun v61 w62 H63 =>  ?_))
     obtain ⟨A64, c65, rfl, _, _⟩ := aw (H63.g 5 rfl)
     refine ⟨⟨H63.c 1 0 rfl rfl, H63.c 1 1 rfl rfl, H63.c 1 2 rfl rfl, H63.c 1 3 rfl rfl, H63.c 1 4 rfl rfl, H63.c 1 5 rfl rfl⟩, fun _ => H63.c 3 3 rfl rfl, ?_⟩
     refine qy rfl (ag rfl) (qy rfl (ab (o := 0) jY rfl) (dx rfl (es H63 3 3 (.slice A64 ((nP + j) + 1) c65) rfl mz (fun w67 H66 =>  ?_))))
     refine ⟨⟨H66.c 1 0 rfl rfl, H66.c 1 1 rfl rfl, H66.c 1 2 rfl rfl, H66.c 1 3 rfl rfl, H66.c 1 4 rfl rfl, H66.c 1 5 rfl rfl⟩, fun h => absurd h (by decide), ?_⟩
     refine pn (ae (mg k11 rfl (mg k2 rfl (wE [.bool false] sH rfl rfl (aa (ew _) ?_)))))
     rintro e w70 ⟨ADW68, nDW68, cDW68, DW68, rfl, h1DW68, HS69, hDW68⟩
     have H71 := H66.cal0 HS69
     refine ⟨_, rfl, ?_⟩
     refine wE [.slice ADW68 nDW68 cDW68] oP rfl rfl (aa (by have h := gf (ws := fZ false) (cW := cDW68) _ (hDW68 _ (H71.g 0 rfl)) (dZ (iK false)) (by rw [← (hDW68 _ (H71.g 0 rfl)).1]; decide); rw [pB, show ((eQ false : Nat) : Int) = 68 from rfl] at h; exact h) ?_)
     rintro e w73 ⟨rfl, HS72⟩
     have H74 := H71.cal0 HS72
     refine ⟨_, rfl, ?_⟩
     refine wv rfl (aT (k := .i64) (c := ↑(56 + 68 * j) + 68) rfl rfl (aE (by omega) (by omega))) (ai (↑(56 + 68 * j) + 68) rfl (bl (ao (ac (ae (wv rfl (aT (k := .u64) (c := ↑j + 1) k62 rfl (a6 (by omega) (by omega))) (mu (↑j + 1) rfl (wn ?_))))))))
     have hcp : (pv ++ pj).flatMap PartV.cellsM ++ [.str x6.p.name, .str x6.p.seg, x6.vn, x6.vr, x6.vd, .bool (!x6.p.ok)] = (pv ++ (pj ++ [x6])).flatMap PartV.cellsM := by rw [← List.append_assoc, List.flatMap_append (xs := pv ++ pj), List.flatMap_singleton]; rfl
     rw [hcp] at H74
     have Hn : St w (Res.all [aq fb [vh, .bool big, .slice AL nL cL, .slice AP nP cP, vs, vi] 33, aH 74 4 (.slice AL nL cL) nL (lv.flatMap LoadV.cells), aH 72 6 (.slice AP nP cP) nP (pv.flatMap PartV.cellsM)]).F [aq fb [vh, .bool big, .slice A19 (nL + 1) c20, .slice A64 (nP + (j + 1)) c65, vs, vi] 33, aH 74 4 (.slice A19 (nL + 1) c20) (nL + 1) ((lv ++ [(LoadV.mk (⟨1, raw, a9 ((ys.drop 8).take 16), dk false big ys⟩ : LoadD) (.sl gr or_ nr cr) (.sl gn on 10 cB))]).flatMap LoadV.cells), aH 72 6 (.slice A64 (nP + (j + 1)) c65) (nP + (j + 1)) ((pv ++ (pj ++ [x6])).flatMap PartV.cellsM), Dn, Res.all [D6, Dj]] w73 := (H74.reAll [3, 8] [4, 5, 6, 7]).re [1, 2, 3, 4, 0]
     have hsec2 : bL false big xs raw q8 56 = (bL false big xs raw (q8 - (j + 1)) (56 + 68 * (j + 1))).map ((dn ++ [s6]) ++ ·) := by
      rw [hsec, show q8 - j = (q8 - (j + 1)) + 1 by omega, eV (show ¬ raw.length < 56 + 68 * j + 68 by omega) hsr6, show 56 + 68 * j + eQ false = 56 + 68 * (j + 1) from by show 56 + 68 * j + 68 = _; omega]; cases bL false big xs raw (q8 - (j + 1)) (56 + 68 * (j + 1)) <;> simp
     exact ⟨⟨j + 1, _, _, pj ++ [x6], dn ++ [s6], Res.all [D6, Dj], k0, k1, k2, k3, k61, rfl, (show Value.i64 _ = Value.i64 _ from congrArg _ (by omega)), by omega, by omega, by rw [List.map_append, List.map_append, hpj, List.map_singleton, List.map_singleton, hx6], fun w hh hb y hy => by have hh := aV.1 hh; rcases List.mem_append.1 hy with hy | hy; exact hpo w (hh Dj (by simp)) hb y hy; rw [List.mem_singleton.1 hy]; exact ho6 w (hh D6 (by simp)) hb, hsec2, Hn⟩, by show q8 + 1 - nv (.u64 (↑j + 1)) < q8 + 1 - nv (ρ 62); rw [g62]; simp only [nv]; omega⟩
    ·
     have e0 : bL false big xs raw q8 56 = none := by
      rw [hsec, show q8 - j = (q8 - (j + 1)) + 1 by omega]
      by_cases hl : raw.length < 56 + 68 * j + 68
      · rw [fY (show raw.length < 56 + 68 * j + eQ false from hl)]; rfl
      · have hmj2 : mj = 56 + 68 * j := by omega
        rw [iJ (show ¬ raw.length < 56 + 68 * j + eQ false from hl) (by rw [← hmj2]; exact hbad6.resolve_left (by omega))]; rfl
     refine ad (sr (mg g13 rfl (wv rfl (bB rfl) (wn (ay rfl (sr (av (.bool false) rfl (wn (rq (aB (ax ?_)))))))))))
     refine ax (aB (ax ?_))
     exact ⟨.inr rfl, _, r1 (.bool false) rfl _ _, .inr ⟨fun s => eU hys hns e0, rfl, H5.sub (List.nil_sublist _)⟩⟩
  ·
   simp only [bx] at hb30
   refine bF (a8 (a8 (aY (ac (sr (av (.bool true) rfl (wn (aQ ?_))))))))
   have hjn : j = q8 := by omega
   have e0 : bL false big xs raw q8 56 = some dn := by rw [hsec, show q8 - j = 0 by omega]; simp [bL]
   exact ⟨.inr rfl, _, r1 (.bool true) rfl _ _, .inl ⟨(⟨1, raw, a9 ((ys.drop 8).take 16), dk false big ys⟩ : LoadD), (LoadV.mk (⟨1, raw, a9 ((ys.drop 8).take 16), dk false big ys⟩ : LoadD) (.sl gr or_ nr cr) (.sl gn on 10 cB)), dn, pj, A19, APj, c20, (nP + j), cPj, Res.all [Dn, Dj], fun s => gY (show ¬ raw.length < 56 by omega) hys hns e0 (by show ¬ (_ ≤ n4 big (ys.drop 32) ∨ _ ≤ n4 big (ys.drop 36)); omega), rfl, rfl, rfl, hpj, by omega, rfl, (H3.reAll [3, 4] [0, 1, 2]), fun w hh => by have hh := aV.1 hh; exact ⟨⟨_, _, _, rfl, by have h := hDn w (hh Dn (by simp)); rw [hq8] at h; exact h⟩, hpo w (hh Dj (by simp))⟩⟩⟩
 ·
  have H75 := H0.drew
  refine aO MX (fun w' => w'.cell? ⟨fb, 1, none⟩ = some (.bool big)) (tr 0 5 (Pl.take 6 (Pl.run 5 (Pl.run 7 (tr 8 5 Pl.done))))) (by kernel_rfl) (H75.c 0 1 rfl rfl) (qm (.pt fb) rfl rfl (qy rfl (ag rfl) (qy rfl (ab (o := 0) cO rfl) (qh rfl (fun hS => ah cU rfl hS) (qm (.bool false) rfl rfl (qm (.sl gr or_ nr cr) rfl rfl (qr rfl (ec sI (args := [.bool false]) rfl (aa (eu _) ?_)))))))))
  rintro e w78 ⟨ADW76, nDW76, cDW76, DW76, rfl, h1DW76, HS77, hDW76⟩
  have H79 := H75.cal0 HS77
  refine ⟨_, rfl, ?_⟩
  refine ⟨H79.c 1 1 rfl rfl, fun _ => trivial, ?_⟩
  refine qr rfl (ec gM (args := [.bool big, .slice ADW76 nDW76 cDW76, .sl gr or_ nr cr]) rfl (aa (dA (ws := i6 false) (bs := raw) big _ (hDW76 _ (H79.g 0 rfl)) (iI _) (hrr.keepB H79.keep hB hgr) hnr (by omega) hrb (by decide) (show nr < 56 by omega)) ?_))
  rintro e w81 ⟨rfl, HS80⟩
  have H82 := H79.cal0 HS80
  refine ⟨_, rfl, ?_⟩
  refine ⟨H82.c 1 1 rfl rfl, fun _ => trivial, ?_⟩
  refine qm (.tuple #[.ns, .bool false]) rfl rfl (qy rfl (a7 (v := .ns) rfl rfl) (qy rfl (a7 (v := .bool false) rfl rfl) (qa (.ns) rfl rfl (qa (.bool false) rfl rfl (pn (ad (sr (mv (.bool false) rfl (wv rfl (bB rfl) (mv (.bool true) rfl (cM rfl rfl ?_)))))))))))
  refine cM rfl rfl (cM rfl rfl (cM rfl rfl (cM rfl rfl (wv rfl (aD (b := true) (v := .bool true) rfl rfl) (mv (.bool true) rfl (cM rfl rfl (cM rfl rfl (cM rfl rfl (cM rfl rfl (cM rfl rfl (wv rfl (aD (b := true) (v := .bool true) rfl rfl) ?_)))))))))))
  refine wn (ay rfl (sr (av (.bool false) rfl (wn (rq ?_)))))
  exact ⟨.inr rfl, _, r1 (.bool false) rfl _ _, .inr ⟨fun s => if_pos (show raw.length < 56 by omega), rfl, H82.sub (List.nil_sublist _)⟩⟩
theorem rF {fb gr or_ nr cr base : Nat} {gb ob N C nL cL nP cP : Nat} {AL AP : Option Addr} {xs : List Int} {lv : List LoadV} {pv : List PartV} {vh vs vi : Value} {raw : List Int} (big : Bool) (w : World) (h0 : St w (Res.all [aq fb [vh, .bool big, .slice AL nL cL, .slice AP nP cP, vs, vi] 33, aH 74 4 (.slice AL nL cL) nL (lv.flatMap LoadV.cells), aH 72 6 (.slice AP nP cP) nP (pv.flatMap PartV.cellsM)]).F [aq fb [vh, .bool big, .slice AL nL cL, .slice AP nP cP, vs, vi] 33, aH 74 4 (.slice AL nL cL) nL (lv.flatMap LoadV.cells), aH 72 6 (.slice AP nP cP) nP (pv.flatMap PartV.cellsM)] w) (hB : ∀ g, (Res.all [aq fb [vh, .bool big, .slice AL nL cL, .slice AP nP cP, vs, vi] 33, aH 74 4 (.slice AL nL cL) nL (lv.flatMap LoadV.cells), aH 72 6 (.slice AP nP cP) nP (pv.flatMap PartV.cellsM)]).F g → base ≤ g) (hbw : base ≤ w.heap.size) (hrr : RI .u8 w (some ⟨gr, or_, none⟩) nr raw) (hrb : Byt raw) (hnr : nr ≤ cr) (hnN : nr < 10485760) (hgr : gr < base) (hr : RI .u8 w (some ⟨gb, ob, none⟩) N xs) (hby : Byt xs) (hNC : N ≤ C) (hN : N < 10485760) (hgb : gb < base) (hnL : nL ≤ 10485760) (hnP : nP ≤ 10485760) :
 Calls Tryd.prog 29 #[.pt fb, .sl gb ob N C, .bool true, .sl gr or_ nr cr] w fun e w' => (∃ (ld : LoadD) (x : LoadV) (dn : List SecD) (pj : List PartV) (AL2 AP2 : Option Addr) (cL2 nP2 cP2 : Nat) (D : Res), (∀ s, ca true big xs raw s = some { s with loads := s.loads ++ [ld], secs := s.secs ++ dn }) ∧ x.l = ld ∧ ld.raw = raw ∧ x.vr = .sl gr or_ nr cr ∧ pj.map PartV.p = dn.map (fun s => s.part N xs) ∧ nP2 ≤ nP + nr ∧ e = .returned (.bool true) ∧ St w (Res.all [aq fb [vh, .bool big, .slice AL nL cL, .slice AP nP cP, vs, vi] 33, aH 74 4 (.slice AL nL cL) nL (lv.flatMap LoadV.cells), aH 72 6 (.slice AP nP cP) nP (pv.flatMap PartV.cellsM)]).F [D, aq fb [vh, .bool big, .slice AL2 (nL + 1) cL2, .slice AP2 nP2 cP2, vs, vi] 33, aH 74 4 (.slice AL2 (nL + 1) cL2) (nL + 1) ((lv ++ [x]).flatMap LoadV.cells), aH 72 6 (.slice AP2 nP2 cP2) nP2 ((pv ++ pj).flatMap PartV.cellsM)] w' ∧ ∀ w, D.φ w → SlI' .u64 w x.vn ld.nums ∧ (RI .u8 w (some ⟨gb, ob, none⟩) N xs → ∀ y ∈ pj, y.ok w)) ∨ ((∀ s, ca true big xs raw s = none) ∧ e = .returned (.bool false) ∧ St w (Res.all [aq fb [vh, .bool big, .slice AL nL cL, .slice AP nP cP, vs, vi] 33, aH 74 4 (.slice AL nL cL) nL (lv.flatMap LoadV.cells), aH 72 6 (.slice AP nP cP) nP (pv.flatMap PartV.cellsM)]).F [] w') := by
 refine a5 (args := [.pt fb, .sl gb ob N C, .bool true, .sl gr or_ nr cr]) Tryd.func29 rfl rfl rfl ?_
 have H0 : St _ _ [aq fb [vh, .bool big, .slice AL nL cL, .slice AP nP cP, vs, vi] 33, aH 74 4 (.slice AL nL cL) nL (lv.flatMap LoadV.cells), aH 72 6 (.slice AP nP cP) nP (pv.flatMap PartV.cellsM)] _ := h0
 refine sr (av (.bool false) rfl (wn (ad ?_)))
 have hrl := hrr.1
 by_cases hfit : 72 ≤ nr
 ·
  obtain ⟨ys, hys⟩ : ∃ q, q = (raw.drop 0).take 72 := ⟨_, rfl⟩
  have hbys : Byt ys := by rw [hys]; exact (hrb.drop _).take _
  obtain ⟨q8, hq8⟩ : ∃ q : Nat, (q : Int) = n4 big (ys.drop 64) := ⟨(n4 big (ys.drop 64)).toNat, Int.toNat_of_nonneg (aR big (hbys.drop _)).1⟩
  have hltq8 : (q8 : Int) < 4294967296 := by rw [hq8]; exact (aR big (hbys.drop _)).2
  have hNL : bp big (i6 true) raw = [n4 big (ys.drop 0), n4 big (ys.drop 4), n8 big (ys.drop 24), n8 big (ys.drop 32), n8 big (ys.drop 40), n8 big (ys.drop 48), n4 big (ys.drop 56), n4 big (ys.drop 60), ↑q8, n4 big (ys.drop 68)] := by rw [hq8, hys]; exact segV true big raw
  have hns : ((dk true big ys).getD 8 0).toNat = q8 := by show (n4 big (ys.drop 64)).toNat = q8; omega
  have e8t : (raw.drop 8).take 16 = (ys.drop 8).take 16 := by rw [hys, kr (by omega)]; rfl
  have := ln big (hbys.drop 40)
  have := ln big (hbys.drop 48)
  have H1 := H0.drew
  refine aO MX (fun w' => w'.cell? ⟨fb, 1, none⟩ = some (.bool big)) (tr 0 5 (Pl.take 6 (Pl.run 5 (Pl.run 7 (tr 8 5 Pl.done))))) (by kernel_rfl) (H1.c 0 1 rfl rfl) (qm (.pt fb) rfl rfl (qy rfl (ag rfl) (qy rfl (ab (o := 0) cO rfl) (qh rfl (fun hS => ah cU rfl hS) (qm (.bool true) rfl rfl (qm (.sl gr or_ nr cr) rfl rfl (qr rfl (ec sI (args := [.bool true]) rfl (aa (eM _) ?_)))))))))
  rintro e w4 ⟨ADW2, nDW2, cDW2, DW2, rfl, h1DW2, HS3, hDW2⟩
  have H5 := H1.cal0 HS3
  refine ⟨_, rfl, ?_⟩
  refine ⟨H5.c 1 1 rfl rfl, fun _ => trivial, ?_⟩
  refine qr rfl (ec gM (args := [.bool big, .slice ADW2 nDW2 cDW2, .sl gr or_ nr cr]) rfl (aa (db (ws := i6 true) (bs := raw) big _ (hDW2 _ (H5.g 0 rfl)) (iI _) (hrr.keepB H5.keep hB hgr) hnr (by omega) hrb (by decide) (K := 10) (show 72 ≤ nr from hfit) (by rw [hNL]; rfl) (by omega)) ?_))
  rintro e w7 ⟨gn, on, cB, Dn, rfl, hcB, HS6, hDn⟩
  rw [hNL] at hDn
  have H8 := H5.cal0 HS6
  refine ⟨_, rfl, ?_⟩
  refine ⟨H8.c 2 1 rfl rfl, fun _ => trivial, ?_⟩
  refine qm (.tuple #[.sl gn on 10 cB, .bool true]) rfl rfl (qy rfl (a7 (v := .sl gn on 10 cB) rfl rfl) (qy rfl (a7 (v := .bool true) rfl rfl) (qa (.sl gn on 10 cB) rfl rfl (qa (.bool true) rfl rfl (pn (ad (ad ?_)))))))
  by_cases hoO : n8 big (ys.drop 40) < 9223372036854775808
  ·
   by_cases hoZ : n8 big (ys.drop 48) < 9223372036854775808
   ·
    refine ae (mv (.bool true) rfl (wv rfl (bB rfl) (mv (.bool false) rfl (aP rfl rfl (al (v := .sl gn on 10 cB) rfl) (aP rfl rfl (aI bA rfl rfl (by omega) (by omega)) (aP rfl rfl (ah aM rfl (show World.cell? _ _ = some (.u64 (n8 big (ys.drop 40))) from (hDn _ (H8.g 0 rfl)).cellAt 4 (by omega))) (aP rfl rfl (dm (c := n8 big (ys.drop 40) / 9223372036854775808) rfl rfl (by decide) (by rw [show (2 : Int) ^ (min (63 : Int).toNat IntKind.u64.bits) = 9223372036854775808 from by decide, Int.fdiv_eq_ediv_of_nonneg _ (by decide)])) (aP rfl rfl (aL rfl rfl (beq_eq_false_iff_ne.2 (by omega))) (wv rfl (aD (b := false) (v := .bool false) rfl rfl) (mv (.bool false) rfl (aP rfl rfl (al (v := .sl gn on 10 cB) rfl) ?_)))))))))))
    refine aP rfl rfl (aI bA rfl rfl (by omega) (by omega)) (aP rfl rfl (ah aM rfl (show World.cell? _ _ = some (.u64 (n8 big (ys.drop 48))) from (hDn _ (H8.g 0 rfl)).cellAt 5 (by omega))) (aP rfl rfl (dm (c := n8 big (ys.drop 48) / 9223372036854775808) rfl rfl (by decide) (by rw [show (2 : Int) ^ (min (63 : Int).toNat IntKind.u64.bits) = 9223372036854775808 from by decide, Int.fdiv_eq_ediv_of_nonneg _ (by decide)])) (aP rfl rfl (aL rfl rfl (beq_eq_false_iff_ne.2 (by omega))) (wv rfl (aD (b := false) (v := .bool false) rfl rfl) (wn (aj rfl (wk (ad ?_))))))))
    have H9 := H8.drew
    refine dL MX (fun w' => w'.cell? ⟨fb, 2, none⟩ = some (.slice AL nL cL)) (fun w' => True) 15 (tr 0 4 (Pl.takeS 4 (tr 5 3 (Pl.take 9 (Pl.run 8 (Pl.take 10 (Pl.run 11 (Pl.run 12 (Pl.take 13 (Pl.take 14 (Pl.run 15 Pl.done))))))))))) (by kernel_rfl) rfl (H9.c 2 2 rfl rfl) (trivial) (qm (.pt fb) rfl rfl (qm (.pt fb) rfl rfl (qy rfl (ag rfl) (qy rfl (ab (o := 0) dF rfl) (qs rfl rfl (fun _ hS => ah eS rfl hS) (qm (.sl gr or_ nr cr) rfl rfl (qm (.sl gr or_ nr cr) rfl rfl (qt rfl (fun _ hS => (am (l := 8) (h := 24) aU rfl (bs rfl (by omega) rfl) (bs rfl (by omega) rfl) (by omega) (by omega) (by omega) (by omega) : Yv _ _ _ _ (.sl gr (or_ + 8) 16 (cr - 8)) _)) (qm (.sl gn on 10 cB) rfl rfl (qr rfl (ec dz (args := [.sl gr (or_ + 8) 16 (cr - 8)]) rfl ?_)))))))))))
    refine aa (by have h := bG _ (((hrr.keepB H9.keep hB hgr).drop_ 8).take (m := 16) (by omega)) (c := cr - 8) (by omega) (by omega); rw [e8t] at h; exact h) ?_
    rintro e w11 ⟨rfl, HS10⟩
    have H12 := H9.cal0 HS10
    refine ⟨_, rfl, ?_⟩
    refine ⟨trivial, fun _ => H12.c 2 2 rfl rfl, ?_⟩
    refine qy rfl (yb (ps := [(0, .i64 1), (1, .sl gr or_ nr cr), (2, .str (a9 ((ys.drop 8).take 16))), (3, .sl gn on 10 cB)]) (cells := #[.i64 1, .sl gr or_ nr cr, .str (a9 ((ys.drop 8).take 16)), .sl gn on 10 cB]) rfl (by kernel_rfl)) (qr rfl (jv H12 (ps := [(0, .agg #[.i64 1, .sl gr or_ nr cr, .str (a9 ((ys.drop 8).take 16)), .sl gn on 10 cB])]) (e := 74) (cs := [.i64 1, .sl gr or_ nr cr, .str (a9 ((ys.drop 8).take 16)), .sl gn on 10 cB]) rfl (by kernel_rfl) (fun g13 w14 hgg13 H15 =>  ?_)))
    refine ⟨trivial, fun _ => H15.c 3 2 rfl rfl, ?_⟩
    refine qr rfl (bR H15 4 (m := 1) (news := [.i64 1, .sl gr or_ nr cr, .str (a9 ((ys.drop 8).take 16)), .sl gn on 10 cB]) rfl ox oA rfl (by decide) rfl rfl rfl (H15.news (i := 0) rfl) (by simp [Value.oneCell']) (by simp only [maxLen]; omega) (by omega) (fun v16 w17 H18 =>  ?_))
    obtain ⟨A19, c20, rfl, _, _⟩ := aw (H18.g 4 rfl)
    refine ⟨trivial, fun _ => H18.c 3 2 rfl rfl, ?_⟩
    refine qy rfl (ag rfl) (qy rfl (ab (o := 0) dF rfl) (dx rfl (es H18 3 2 (.slice A19 (nL + 1) c20) rfl eS (fun w22 H21 =>  ?_))))
    refine ⟨trivial, fun h => absurd h (by decide), ?_⟩
    refine pn (sr (mv (.bool true) rfl (wE [.bool true] sI rfl rfl (aa (eM _) ?_))))
    rintro e w25 ⟨ADW23, nDW23, cDW23, DW23, rfl, h1DW23, HS24, hDW23⟩
    have H26 := H21.cal0 HS24
    refine ⟨_, rfl, ?_⟩
    refine wE [.slice ADW23 nDW23 cDW23] oP rfl rfl (aa (by have h := gf (ws := i6 true) (cW := cDW23) _ (hDW23 _ (H26.g 0 rfl)) (dZ (iI true)) (by rw [← (hDW23 _ (H26.g 0 rfl)).1]; decide); rw [pA, show ((i7 true : Nat) : Int) = 72 from rfl] at h; exact h) ?_)
    rintro e w28 ⟨rfl, HS27⟩
    have H29 := H26.cal0 HS27
    refine ⟨_, rfl, ?_⟩
    refine ai 72 rfl (wn (ad (sr (ms gn on 10 cB rfl (wv rfl (aI bA rfl rfl (by omega) (by omega)) (wv rfl (ah aM rfl (show World.cell? _ _ = some (.u64 (↑q8)) from (hDn _ (H29.g 2 rfl)).cellAt 8 (by omega))) (mu 0 rfl (wn (aC ?_)))))))))
    have hcur : lv.flatMap LoadV.cells ++ [.i64 1, .sl gr or_ nr cr, .str (a9 ((ys.drop 8).take 16)), .sl gn on 10 cB] = (lv ++ [(LoadV.mk (⟨1, raw, a9 ((ys.drop 8).take 16), dk true big ys⟩ : LoadD) (.sl gr or_ nr cr) (.sl gn on 10 cB))]).flatMap LoadV.cells := by rw [List.flatMap_append, List.flatMap_singleton]; rfl
    rw [hcur] at H29
    have H30 : St w (Res.all [aq fb [vh, .bool big, .slice AL nL cL, .slice AP nP cP, vs, vi] 33, aH 74 4 (.slice AL nL cL) nL (lv.flatMap LoadV.cells), aH 72 6 (.slice AP nP cP) nP (pv.flatMap PartV.cellsM)]).F [aq fb [vh, .bool big, .slice A19 (nL + 1) c20, .slice AP (nP + 0) cP, vs, vi] 33, aH 74 4 (.slice A19 (nL + 1) c20) (nL + 1) ((lv ++ [(LoadV.mk (⟨1, raw, a9 ((ys.drop 8).take 16), dk true big ys⟩ : LoadD) (.sl gr or_ nr cr) (.sl gn on 10 cB))]).flatMap LoadV.cells), aH 72 6 (.slice AP (nP + 0) cP) (nP + 0) ((pv ++ []).flatMap PartV.cellsM), Dn, Res.all []] w28 := by have h := (H29.reAll [] [4, 5, 6, 2]).re [1, 2, 3, 4, 0]; rw [← List.append_nil pv] at h; exact h
    refine bW (fun ρ w' => ∃ j : Nat, ∃ APj : Option Addr, ∃ cPj : Nat, ∃ pj : List PartV, ∃ dn : List SecD, ∃ Dj : Res, ρ 0 = .pt fb ∧ ρ 1 = .sl gb ob N C ∧ ρ 2 = .bool true ∧ ρ 3 = .sl gr or_ nr cr ∧ ρ 61 = .u64 ↑q8 ∧ ρ 62 = .u64 ↑j ∧ ρ 11 = .i64 ↑(72 + 80 * j) ∧ j ≤ q8 ∧ 72 + 80 * j ≤ nr ∧ pj.map PartV.p = dn.map (fun s => s.part N xs) ∧ (∀ w, Dj.φ w → RI .u8 w (some ⟨gb, ob, none⟩) N xs → ∀ x ∈ pj, x.ok w) ∧ bL true big xs raw q8 72 = (bL true big xs raw (q8 - j) (72 + 80 * j)).map (dn ++ ·) ∧ St w (Res.all [aq fb [vh, .bool big, .slice AL nL cL, .slice AP nP cP, vs, vi] 33, aH 74 4 (.slice AL nL cL) nL (lv.flatMap LoadV.cells), aH 72 6 (.slice AP nP cP) nP (pv.flatMap PartV.cellsM)]).F [aq fb [vh, .bool big, .slice A19 (nL + 1) c20, .slice APj (nP + j) cPj, vs, vi] 33, aH 74 4 (.slice A19 (nL + 1) c20) (nL + 1) ((lv ++ [(LoadV.mk (⟨1, raw, a9 ((ys.drop 8).take 16), dk true big ys⟩ : LoadD) (.sl gr or_ nr cr) (.sl gn on 10 cB))]).flatMap LoadV.cells), aH 72 6 (.slice APj (nP + j) cPj) (nP + j) ((pv ++ pj).flatMap PartV.cellsM), Dn, Dj] w') (fun ρ _ => q8 + 1 - nv (ρ 62)) (⟨0, AP, cP, [], [], Res.all [], rfl, rfl, rfl, rfl, rfl, rfl, rfl, by omega, by omega, rfl, by simp, by simp, H30⟩) ?_
    rintro ρ w3 ⟨j, APj, cPj, pj, dn, Dj, g0, g1, g2, g3, g61, g62, g11, hj, hjz, hpj, hpo, hsec, H3⟩
    obtain ⟨mj, hmj⟩ : ∃ m, m = min (72 + 80 * j) nr := ⟨_, rfl⟩
    refine sr (wv rfl (cx g62 g61) (wn (ad ?_)))
    refine cf rfl (fun hb30 => ?_) (fun hb30 => ?_)
    ·
     simp only [bx] at hb30
     refine wk (ad (aC ?_))
     refine fm (fun ρ w' => (∃ (g6 : Nat) (s6 : SecD) (x6 : PartV) (D6 : Res), 80 ≤ nr - mj ∧ dt big xs (dC true big ((raw.drop mj).take 80)) = some s6 ∧ x6.p = s6.part N xs ∧ (∀ w, D6.φ w → RI .u8 w (some ⟨gb, ob, none⟩) N xs → x6.ok w) ∧ ((∃ a b c, x6.vn = .slice a b c) ∧ (∃ a b c, x6.vr = .slice a b c) ∧ (∃ a b c, x6.vd = .slice a b c)) ∧ ρ 12 = .pt g6 ∧ ρ 13 = .bool true ∧ ρ 0 = .pt fb ∧ ρ 1 = .sl gb ob N C ∧ ρ 2 = .bool true ∧ ρ 3 = .sl gr or_ nr cr ∧ ρ 61 = .u64 ↑q8 ∧ ρ 62 = .u64 ↑j ∧ ρ 11 = .i64 ↑(72 + 80 * j) ∧ St w (Res.all [aq fb [vh, .bool big, .slice AL nL cL, .slice AP nP cP, vs, vi] 33, aH 74 4 (.slice AL nL cL) nL (lv.flatMap LoadV.cells), aH 72 6 (.slice AP nP cP) nP (pv.flatMap PartV.cellsM)]).F [aq g6 [.str x6.p.name, .str x6.p.seg, x6.vn, x6.vr, x6.vd, .bool (!x6.p.ok)] 72, D6, aq fb [vh, .bool big, .slice A19 (nL + 1) c20, .slice APj (nP + j) cPj, vs, vi] 33, aH 74 4 (.slice A19 (nL + 1) c20) (nL + 1) ((lv ++ [(LoadV.mk (⟨1, raw, a9 ((ys.drop 8).take 16), dk true big ys⟩ : LoadD) (.sl gr or_ nr cr) (.sl gn on 10 cB))]).flatMap LoadV.cells), aH 72 6 (.slice APj (nP + j) cPj) (nP + j) ((pv ++ pj).flatMap PartV.cellsM), Dn, Dj] w') ∨ ((nr - mj < 80 ∨ dt big xs (dC true big ((raw.drop mj).take 80)) = none) ∧ ρ 13 = .bool false ∧ St w (Res.all [aq fb [vh, .bool big, .slice AL nL cL, .slice AP nP cP, vs, vi] 33, aH 74 4 (.slice AL nL cL) nL (lv.flatMap LoadV.cells), aH 72 6 (.slice AP nP cP) nP (pv.flatMap PartV.cellsM)]).F [] w')) ?_ ?_
     ·
      have hjn : j < q8 := by omega
      have H31 := H3.drew
      refine aO MX (fun w' => w'.cell? ⟨fb, 1, none⟩ = some (.bool big)) (tr 0 12 (Pl.run2 12 (tr 13 3 (Pl.run 16 (Pl.run 17 (Pl.take 18 Pl.done)))) 16 (Pl.run 12 (tr 13 3 (Pl.run 17 (Pl.take 18 Pl.done)))))) (by kernel_rfl) (H31.c 0 1 rfl rfl) (qm (.sl gb ob N C) rfl g1 (qm (.pt fb) rfl g0 (qy rfl (ag rfl) (qy rfl (ab (o := 0) cO rfl) (qh rfl (fun hS => ah cU rfl hS) (qm (.bool true) rfl g2 (qm (.sl gr or_ nr cr) rfl g3 (qm (.i64 (↑(72 + 80 * j))) rfl g11 (qm (.sl gr or_ nr cr) rfl g3 (qy rfl (ba (n := nr) co rfl) (qy rfl (iu (c := ↑mj) rfl rfl (by split <;> omega)) ?_)))))))))))
      refine qy rfl ((show Yv _ _ _ _ (.slice (cR (some ⟨gr, or_, none⟩) cr mj 1) (nr - mj) (cr - mj)) _ from dH (l := mj) (h := nr) aU rfl (bg rfl (by omega) (Int.toNat_natCast _)) (bh _ _) (by omega) (by omega))) ?_
      refine ⟨?_, ?_⟩
      ·
       refine po rfl (ec vy (args := [.sl gb ob N C, .bool big, .bool true, .slice (cR (some ⟨gr, or_, none⟩) cr mj 1) (nr - mj) (cr - mj)]) rfl (aa (nQ big _ (hr.keepB H31.keep hB hgb) hby hNC hN (show RI .u8 _ (cR (some ⟨gr, or_, none⟩) cr mj 1) (nr - mj) (raw.drop mj) from by have h := (hrr.keepB H31.keep hB hgr).cut (c := cr) (l := mj) (m := nr) (by omega) (Nat.le_refl _) hnr; rwa [List.take_of_length_le (by rw [List.length_drop, hrl]; omega)] at h) (hrb.drop _) (by omega) (by omega)) ?_))
       rintro e w33 (⟨s6, hf6, hs6, x6, D6, hx6, rfl, HS32, ho6⟩ | ⟨hbad6, rfl, HS32⟩)
       ·
        obtain ⟨⟨_, _, _, ea1, _⟩, ⟨_, _, _, ea2, _⟩, _, _, _, ea3, _⟩ := ho6 _ (HS32.g 0 rfl) ((hr.keepB H31.keep hB hgb).keep0 HS32.keep)
        have H34 := H31.cal0 HS32
        refine ⟨_, rfl, ?_⟩
        refine ⟨H34.c 1 1 rfl rfl, fun _ => trivial, ?_⟩
        refine qm (.tuple #[.agg #[.str x6.p.name, .str x6.p.seg, x6.vn, x6.vr, x6.vd, .bool (!x6.p.ok)], .bool true]) rfl rfl (qy rfl (a7 (v := .agg #[.str x6.p.name, .str x6.p.seg, x6.vn, x6.vr, x6.vd, .bool (!x6.p.ok)]) rfl rfl) (qy rfl (a7 (v := .bool true) rfl rfl) (qr rfl (aK H34 bX (fun g35 w36 hgg35 H37 =>  ?_)))))
        refine ⟨H37.c 2 1 rfl rfl, fun _ => trivial, ?_⟩
        refine dx rfl (bE H37 0 (vs := [.str x6.p.name, .str x6.p.seg, x6.vn, x6.vr, x6.vd, .bool (!x6.p.ok)]) (m := 6) rfl dv rfl rfl rfl (nl rfl) (by simp [Value.oneCell', ea1, ea2, ea3]) (cs' := [.str x6.p.name, .str x6.p.seg, x6.vn, x6.vr, x6.vd, .bool (!x6.p.ok)]) rfl (fun w39 H38 =>  ?_))
        refine ⟨H38.c 2 1 rfl rfl, fun _ => trivial, ?_⟩
        refine qa (.bool true) rfl rfl (pn ?_)
        exact .inl ⟨_, s6, x6, D6, hf6, hs6, hx6, ho6, ⟨⟨_, _, _, ea1⟩, ⟨_, _, _, ea2⟩, ⟨_, _, _, ea3⟩⟩, rfl, rfl, g0, g1, g2, g3, g61, g62, g11, H38.re [0, 1, 2, 3, 4, 5, 6]⟩
       ·
        have H40 := H31.cal0 HS32
        refine ⟨_, rfl, ?_⟩
        refine ⟨H40.c 0 1 rfl rfl, fun _ => trivial, ?_⟩
        refine qm (.tuple #[.agg #[.string (⟨#[]⟩), .string (⟨#[]⟩), .ns, .ns, .ns, .bool false], .bool false]) rfl rfl (qy rfl (a7 (v := .agg #[.string (⟨#[]⟩), .string (⟨#[]⟩), .ns, .ns, .ns, .bool false]) rfl rfl) (qy rfl (a7 (v := .bool false) rfl rfl) (qr rfl (aK H40 bX (fun g41 w42 hgg41 H43 =>  ?_)))))
        refine ⟨H43.c 1 1 rfl rfl, fun _ => trivial, ?_⟩
        refine dx rfl (eN H43 0 [.string (⟨#[]⟩), .string (⟨#[]⟩), .ns, .ns, .ns, .bool false] rfl dv (fun w45 H44 =>  ?_))
        refine ⟨H44.c 1 1 rfl rfl, fun _ => trivial, ?_⟩
        refine qa (.bool false) rfl rfl (pn ?_)
        exact .inr ⟨hbad6, rfl, H44.sub (List.nil_sublist _)⟩
      ·
       refine po rfl (aK H31 bX (fun g46 w47 hgg46 H48 =>  ?_))
       refine ⟨H48.c 1 1 rfl rfl, fun _ => trivial, ?_⟩
       refine qr rfl (ec vy (args := [.sl gb ob N C, .bool big, .bool true, .slice (cR (some ⟨gr, or_, none⟩) cr mj 1) (nr - mj) (cr - mj)]) rfl (aa (nQ big _ (hr.keepB H48.keep hB hgb) hby hNC hN (show RI .u8 _ (cR (some ⟨gr, or_, none⟩) cr mj 1) (nr - mj) (raw.drop mj) from by have h := (hrr.keepB H48.keep hB hgr).cut (c := cr) (l := mj) (m := nr) (by omega) (Nat.le_refl _) hnr; rwa [List.take_of_length_le (by rw [List.length_drop, hrl]; omega)] at h) (hrb.drop _) (by omega) (by omega)) ?_))
       rintro e w50 (⟨s6, hf6, hs6, x6, D6, hx6, rfl, HS49, ho6⟩ | ⟨hbad6, rfl, HS49⟩)
       ·
        obtain ⟨⟨_, _, _, ea1, _⟩, ⟨_, _, _, ea2, _⟩, _, _, _, ea3, _⟩ := ho6 _ (HS49.g 0 rfl) ((hr.keepB H48.keep hB hgb).keep0 HS49.keep)
        have H51 := H48.cal0 HS49
        refine ⟨_, rfl, ?_⟩
        refine ⟨H51.c 2 1 rfl rfl, fun _ => trivial, ?_⟩
        refine qm (.tuple #[.agg #[.str x6.p.name, .str x6.p.seg, x6.vn, x6.vr, x6.vd, .bool (!x6.p.ok)], .bool true]) rfl rfl (qy rfl (a7 (v := .agg #[.str x6.p.name, .str x6.p.seg, x6.vn, x6.vr, x6.vd, .bool (!x6.p.ok)]) rfl rfl) (qy rfl (a7 (v := .bool true) rfl rfl) (dx rfl (bE H51 1 (vs := [.str x6.p.name, .str x6.p.seg, x6.vn, x6.vr, x6.vd, .bool (!x6.p.ok)]) (m := 6) rfl dv rfl rfl rfl (nl rfl) (by simp [Value.oneCell', ea1, ea2, ea3]) (cs' := [.str x6.p.name, .str x6.p.seg, x6.vn, x6.vr, x6.vd, .bool (!x6.p.ok)]) rfl (fun w53 H52 =>  ?_)))))
        refine ⟨H52.c 2 1 rfl rfl, fun _ => trivial, ?_⟩
        refine qa (.bool true) rfl rfl (pn ?_)
        exact .inl ⟨_, s6, x6, D6, hf6, hs6, hx6, ho6, ⟨⟨_, _, _, ea1⟩, ⟨_, _, _, ea2⟩, ⟨_, _, _, ea3⟩⟩, rfl, rfl, g0, g1, g2, g3, g61, g62, g11, H52.re [1, 0, 2, 3, 4, 5, 6]⟩
       ·
        have H54 := H48.cal0 HS49
        refine ⟨_, rfl, ?_⟩
        refine ⟨H54.c 1 1 rfl rfl, fun _ => trivial, ?_⟩
        refine qm (.tuple #[.agg #[.string (⟨#[]⟩), .string (⟨#[]⟩), .ns, .ns, .ns, .bool false], .bool false]) rfl rfl (qy rfl (a7 (v := .agg #[.string (⟨#[]⟩), .string (⟨#[]⟩), .ns, .ns, .ns, .bool false]) rfl rfl) (qy rfl (a7 (v := .bool false) rfl rfl) (dx rfl (eN H54 0 [.string (⟨#[]⟩), .string (⟨#[]⟩), .ns, .ns, .ns, .bool false] rfl dv (fun w56 H55 =>  ?_)))))
        refine ⟨H55.c 1 1 rfl rfl, fun _ => trivial, ?_⟩
        refine qa (.bool false) rfl rfl (pn ?_)
        exact .inr ⟨hbad6, rfl, H55.sub (List.nil_sublist _)⟩
     ·
      rintro ρ5 w5 (⟨g6, s6, x6, D6, hf6, hs6, hx6, ho6, ⟨⟨_, _, _, eo1⟩, ⟨_, _, _, eo2⟩, ⟨_, _, _, eo3⟩⟩, g12, g13, k0, k1, k2, k3, k61, k62, k11, H5⟩ | ⟨hbad6, g13, H5⟩)
      ·
       have hmj2 : mj = 72 + 80 * j := by omega
       have hsr6 : dt big xs (dC true big ((raw.drop (72 + 80 * j)).take (eQ true))) = some s6 := by rw [← hmj2]; exact hs6
       refine ad (sr (mg g13 rfl (wv rfl (bB rfl) (wn (aj rfl (wk (ad ?_)))))))
       have H57 := H5.drew
       refine dL MX (fun w' => w'.cell? ⟨fb, 3, none⟩ = some (.slice APj (nP + j) cPj)) (fun w' => w'.cell? ⟨g6, 0, none⟩ = some (.str x6.p.name) ∧ w'.cell? ⟨g6, 1, none⟩ = some (.str x6.p.seg) ∧ w'.cell? ⟨g6, 2, none⟩ = some (x6.vn) ∧ w'.cell? ⟨g6, 3, none⟩ = some (x6.vr) ∧ w'.cell? ⟨g6, 4, none⟩ = some (x6.vd) ∧ w'.cell? ⟨g6, 5, none⟩ = some (.bool (!x6.p.ok))) 10 (tr 0 4 (Pl.takeS 4 (Pl.take 5 (Pl.run 6 (Pl.run 7 (Pl.take 8 (Pl.take 9 (Pl.run 10 Pl.done)))))))) (by kernel_rfl) rfl (H57.c 2 3 rfl rfl) (⟨H57.c 0 0 rfl rfl, H57.c 0 1 rfl rfl, H57.c 0 2 rfl rfl, H57.c 0 3 rfl rfl, H57.c 0 4 rfl rfl, H57.c 0 5 rfl rfl⟩) (qm (.pt fb) rfl k0 (qm (.pt fb) rfl k0 (qy rfl (ag rfl) (qy rfl (ab (o := 0) jY rfl) (qs rfl rfl (fun _ hS => ah mz rfl hS) (qh rfl (fun hS => dI (o := 0) ji g12 (tj hS.1 hS.2.1 hS.2.2.1 hS.2.2.2.1 hS.2.2.2.2.1 hS.2.2.2.2.2) rfl) (qr rfl (jv H57 (ps := [(0, .agg #[.str x6.p.name, .str x6.p.seg, x6.vn, x6.vr, x6.vd, .bool (!x6.p.ok)])]) (e := 72) (cs := [.str x6.p.name, .str x6.p.seg, x6.vn, x6.vr, x6.vd, .bool (!x6.p.ok)]) rfl (by kernel_rfl) (fun g58 w59 hgg58 H60 =>  ?_)))))))))
       refine ⟨⟨H60.c 1 0 rfl rfl, H60.c 1 1 rfl rfl, H60.c 1 2 rfl rfl, H60.c 1 3 rfl rfl, H60.c 1 4 rfl rfl, H60.c 1 5 rfl rfl⟩, fun _ => H60.c 3 3 rfl rfl, ?_⟩
       refine qr rfl (bR H60 5 (m := 1) (news := [.str x6.p.name, .str x6.p.seg, x6.vn, x6.vr, x6.vd, .bool (!x6.p.ok)]) rfl TU30 TB72 rfl (by decide) rfl rfl rfl (H60.news (i := 0) rfl) (by simp [Value.oneCell', eo1, eo2, eo3]) (by simp only [maxLen]; omega) (by omega) (fun v61 w62 H63 =>  ?_))
       obtain ⟨A64, c65, rfl, _, _⟩ := aw (H63.g 5 rfl)
       refine ⟨⟨H63.c 1 0 rfl rfl, H63.c 1 1 rfl rfl, H63.c 1 2 rfl rfl, H63.c 1 3 rfl rfl, H63.c 1 4 rfl rfl, H63.c 1 5 rfl rfl⟩, fun _ => H63.c 3 3 rfl rfl, ?_⟩
       refine qy rfl (ag rfl) (qy rfl (ab (o := 0) jY rfl) (dx rfl (es H63 3 3 (.slice A64 ((nP + j) + 1) c65) rfl mz (fun w67 H66 =>  ?_))))
       refine ⟨⟨H66.c 1 0 rfl rfl, H66.c 1 1 rfl rfl, H66.c 1 2 rfl rfl, H66.c 1 3 rfl rfl, H66.c 1 4 rfl rfl, H66.c 1 5 rfl rfl⟩, fun h => absurd h (by decide), ?_⟩
       refine pn (ae (mg k11 rfl (mg k2 rfl (wE [.bool true] sH rfl rfl (aa (eO _) ?_)))))
       rintro e w70 ⟨ADW68, nDW68, cDW68, DW68, rfl, h1DW68, HS69, hDW68⟩
       have H71 := H66.cal0 HS69
       refine ⟨_, rfl, ?_⟩
       refine wE [.slice ADW68 nDW68 cDW68] oP rfl rfl (aa (by have h := gf (ws := fZ true) (cW := cDW68) _ (hDW68 _ (H71.g 0 rfl)) (dZ (iK true)) (by rw [← (hDW68 _ (H71.g 0 rfl)).1]; decide); rw [pB, show ((eQ true : Nat) : Int) = 80 from rfl] at h; exact h) ?_)
       rintro e w73 ⟨rfl, HS72⟩
       have H74 := H71.cal0 HS72
       refine ⟨_, rfl, ?_⟩
       refine wv rfl (aT (k := .i64) (c := ↑(72 + 80 * j) + 80) rfl rfl (aE (by omega) (by omega))) (ai (↑(72 + 80 * j) + 80) rfl (bl (ao (ac (ae (wv rfl (aT (k := .u64) (c := ↑j + 1) k62 rfl (a6 (by omega) (by omega))) (mu (↑j + 1) rfl (wn ?_))))))))
       have hcp : (pv ++ pj).flatMap PartV.cellsM ++ [.str x6.p.name, .str x6.p.seg, x6.vn, x6.vr, x6.vd, .bool (!x6.p.ok)] = (pv ++ (pj ++ [x6])).flatMap PartV.cellsM := by rw [← List.append_assoc, List.flatMap_append (xs := pv ++ pj), List.flatMap_singleton]; rfl
       rw [hcp] at H74
       have Hn : St w (Res.all [aq fb [vh, .bool big, .slice AL nL cL, .slice AP nP cP, vs, vi] 33, aH 74 4 (.slice AL nL cL) nL (lv.flatMap LoadV.cells), aH 72 6 (.slice AP nP cP) nP (pv.flatMap PartV.cellsM)]).F [aq fb [vh, .bool big, .slice A19 (nL + 1) c20, .slice A64 (nP + (j + 1)) c65, vs, vi] 33, aH 74 4 (.slice A19 (nL + 1) c20) (nL + 1) ((lv ++ [(LoadV.mk (⟨1, raw, a9 ((ys.drop 8).take 16), dk true big ys⟩ : LoadD) (.sl gr or_ nr cr) (.sl gn on 10 cB))]).flatMap LoadV.cells), aH 72 6 (.slice A64 (nP + (j + 1)) c65) (nP + (j + 1)) ((pv ++ (pj ++ [x6])).flatMap PartV.cellsM), Dn, Res.all [D6, Dj]] w73 := (H74.reAll [3, 8] [4, 5, 6, 7]).re [1, 2, 3, 4, 0]
       have hsec2 : bL true big xs raw q8 72 = (bL true big xs raw (q8 - (j + 1)) (72 + 80 * (j + 1))).map ((dn ++ [s6]) ++ ·) := by
        rw [hsec, show q8 - j = (q8 - (j + 1)) + 1 by omega, eV (show ¬ raw.length < 72 + 80 * j + 80 by omega) hsr6, show 72 + 80 * j + eQ true = 72 + 80 * (j + 1) from by show 72 + 80 * j + 80 = _; omega]; cases bL true big xs raw (q8 - (j + 1)) (72 + 80 * (j + 1)) <;> simp
       exact ⟨⟨j + 1, _, _, pj ++ [x6], dn ++ [s6], Res.all [D6, Dj], k0, k1, k2, k3, k61, rfl, (show Value.i64 _ = Value.i64 _ from congrArg _ (by omega)), by omega, by omega, by rw [List.map_append, List.map_append, hpj, List.map_singleton, List.map_singleton, hx6], fun w hh hb y hy => by have hh := aV.1 hh; rcases List.mem_append.1 hy with hy | hy; exact hpo w (hh Dj (by simp)) hb y hy; rw [List.mem_singleton.1 hy]; exact ho6 w (hh D6 (by simp)) hb, hsec2, Hn⟩, by show q8 + 1 - nv (.u64 (↑j + 1)) < q8 + 1 - nv (ρ 62); rw [g62]; simp only [nv]; omega⟩
      ·
       have e0 : bL true big xs raw q8 72 = none := by
        rw [hsec, show q8 - j = (q8 - (j + 1)) + 1 by omega]
        by_cases hl : raw.length < 72 + 80 * j + 80
        · rw [fY (show raw.length < 72 + 80 * j + eQ true from hl)]; rfl
        · have hmj2 : mj = 72 + 80 * j := by omega
          rw [iJ (show ¬ raw.length < 72 + 80 * j + eQ true from hl) (by rw [← hmj2]; exact hbad6.resolve_left (by omega))]; rfl
       refine ad (sr (mg g13 rfl (wv rfl (bB rfl) (wn (ay rfl (sr (av (.bool false) rfl (wn (rq (aB (ax ?_)))))))))))
       refine ax (aB (ax ?_))
       exact ⟨.inr rfl, _, r1 (.bool false) rfl _ _, .inr ⟨fun s => eU hys hns e0, rfl, H5.sub (List.nil_sublist _)⟩⟩
    ·
     simp only [bx] at hb30
     refine bF (a8 (a8 (aY (ac (sr (av (.bool true) rfl (wn (aQ ?_))))))))
     have hjn : j = q8 := by omega
     have e0 : bL true big xs raw q8 72 = some dn := by rw [hsec, show q8 - j = 0 by omega]; simp [bL]
     exact ⟨.inr rfl, _, r1 (.bool true) rfl _ _, .inl ⟨(⟨1, raw, a9 ((ys.drop 8).take 16), dk true big ys⟩ : LoadD), (LoadV.mk (⟨1, raw, a9 ((ys.drop 8).take 16), dk true big ys⟩ : LoadD) (.sl gr or_ nr cr) (.sl gn on 10 cB)), dn, pj, A19, APj, c20, (nP + j), cPj, Res.all [Dn, Dj], fun s => gY (show ¬ raw.length < 72 by omega) hys hns e0 (by show ¬ (_ ≤ n8 big (ys.drop 40) ∨ _ ≤ n8 big (ys.drop 48)); omega), rfl, rfl, rfl, hpj, by omega, rfl, (H3.reAll [3, 4] [0, 1, 2]), fun w hh => by have hh := aV.1 hh; exact ⟨⟨_, _, _, rfl, by have h := hDn w (hh Dn (by simp)); rw [hq8] at h; exact h⟩, hpo w (hh Dj (by simp))⟩⟩⟩
   ·
    refine ae (mv (.bool true) rfl (wv rfl (bB rfl) (mv (.bool false) rfl (aP rfl rfl (al (v := .sl gn on 10 cB) rfl) (aP rfl rfl (aI bA rfl rfl (by omega) (by omega)) (aP rfl rfl (ah aM rfl (show World.cell? _ _ = some (.u64 (n8 big (ys.drop 40))) from (hDn _ (H8.g 0 rfl)).cellAt 4 (by omega))) (aP rfl rfl (dm (c := n8 big (ys.drop 40) / 9223372036854775808) rfl rfl (by decide) (by rw [show (2 : Int) ^ (min (63 : Int).toNat IntKind.u64.bits) = 9223372036854775808 from by decide, Int.fdiv_eq_ediv_of_nonneg _ (by decide)])) (aP rfl rfl (aL rfl rfl (beq_eq_false_iff_ne.2 (by omega))) (wv rfl (aD (b := false) (v := .bool false) rfl rfl) (mv (.bool false) rfl (aP rfl rfl (al (v := .sl gn on 10 cB) rfl) ?_)))))))))))
    refine aP rfl rfl (aI bA rfl rfl (by omega) (by omega)) (aP rfl rfl (ah aM rfl (show World.cell? _ _ = some (.u64 (n8 big (ys.drop 48))) from (hDn _ (H8.g 0 rfl)).cellAt 5 (by omega))) (aP rfl rfl (dm (c := n8 big (ys.drop 48) / 9223372036854775808) rfl rfl (by decide) (by rw [show (2 : Int) ^ (min (63 : Int).toNat IntKind.u64.bits) = 9223372036854775808 from by decide, Int.fdiv_eq_ediv_of_nonneg _ (by decide)])) (aP rfl rfl (aL rfl rfl (beq_iff_eq.2 (by omega))) (wv rfl (aD (b := false) (v := .bool true) rfl rfl) (wn (ay rfl (sr (av (.bool false) rfl (wn (rq ?_))))))))))
    exact ⟨.inr rfl, _, r1 (.bool false) rfl _ _, .inr ⟨fun s => gZ hys (.inr (show _ ≤ n8 big (ys.drop 48) by omega)), rfl, H8.sub (List.nil_sublist _)⟩⟩
  ·
   refine ae (mv (.bool true) rfl (wv rfl (bB rfl) (mv (.bool false) rfl (aP rfl rfl (al (v := .sl gn on 10 cB) rfl) (aP rfl rfl (aI bA rfl rfl (by omega) (by omega)) (aP rfl rfl (ah aM rfl (show World.cell? _ _ = some (.u64 (n8 big (ys.drop 40))) from (hDn _ (H8.g 0 rfl)).cellAt 4 (by omega))) (aP rfl rfl (dm (c := n8 big (ys.drop 40) / 9223372036854775808) rfl rfl (by decide) (by rw [show (2 : Int) ^ (min (63 : Int).toNat IntKind.u64.bits) = 9223372036854775808 from by decide, Int.fdiv_eq_ediv_of_nonneg _ (by decide)])) (aP rfl rfl (aL rfl rfl (beq_iff_eq.2 (by omega))) (wv rfl (aD (b := false) (v := .bool true) rfl rfl) (mv (.bool true) rfl (cM rfl rfl ?_)))))))))))
   refine cM rfl rfl (cM rfl rfl (cM rfl rfl (cM rfl rfl (wv rfl (aD (b := true) (v := .bool true) rfl rfl) (wn (ay rfl (sr (av (.bool false) rfl (wn (rq ?_))))))))))
   exact ⟨.inr rfl, _, r1 (.bool false) rfl _ _, .inr ⟨fun s => gZ hys (.inl (show _ ≤ n8 big (ys.drop 40) by omega)), rfl, H8.sub (List.nil_sublist _)⟩⟩
 ·
  have H75 := H0.drew
  refine aO MX (fun w' => w'.cell? ⟨fb, 1, none⟩ = some (.bool big)) (tr 0 5 (Pl.take 6 (Pl.run 5 (Pl.run 7 (tr 8 5 Pl.done))))) (by kernel_rfl) (H75.c 0 1 rfl rfl) (qm (.pt fb) rfl rfl (qy rfl (ag rfl) (qy rfl (ab (o := 0) cO rfl) (qh rfl (fun hS => ah cU rfl hS) (qm (.bool true) rfl rfl (qm (.sl gr or_ nr cr) rfl rfl (qr rfl (ec sI (args := [.bool true]) rfl (aa (eM _) ?_)))))))))
  rintro e w78 ⟨ADW76, nDW76, cDW76, DW76, rfl, h1DW76, HS77, hDW76⟩
  have H79 := H75.cal0 HS77
  refine ⟨_, rfl, ?_⟩
  refine ⟨H79.c 1 1 rfl rfl, fun _ => trivial, ?_⟩
  refine qr rfl (ec gM (args := [.bool big, .slice ADW76 nDW76 cDW76, .sl gr or_ nr cr]) rfl (aa (dA (ws := i6 true) (bs := raw) big _ (hDW76 _ (H79.g 0 rfl)) (iI _) (hrr.keepB H79.keep hB hgr) hnr (by omega) hrb (by decide) (show nr < 72 by omega)) ?_))
  rintro e w81 ⟨rfl, HS80⟩
  have H82 := H79.cal0 HS80
  refine ⟨_, rfl, ?_⟩
  refine ⟨H82.c 1 1 rfl rfl, fun _ => trivial, ?_⟩
  refine qm (.tuple #[.ns, .bool false]) rfl rfl (qy rfl (a7 (v := .ns) rfl rfl) (qy rfl (a7 (v := .bool false) rfl rfl) (qa (.ns) rfl rfl (qa (.bool false) rfl rfl (pn (ad (sr (mv (.bool false) rfl (wv rfl (bB rfl) (mv (.bool true) rfl (cM rfl rfl ?_)))))))))))
  refine cM rfl rfl (cM rfl rfl (cM rfl rfl (cM rfl rfl (wv rfl (aD (b := true) (v := .bool true) rfl rfl) (mv (.bool true) rfl (cM rfl rfl (cM rfl rfl (cM rfl rfl (cM rfl rfl (cM rfl rfl (wv rfl (aD (b := true) (v := .bool true) rfl rfl) ?_)))))))))))
  refine wn (ay rfl (sr (av (.bool false) rfl (wn (rq ?_)))))
  exact ⟨.inr rfl, _, r1 (.bool false) rfl _ _, .inr ⟨fun s => if_pos (show raw.length < 72 by omega), rfl, H82.sub (List.nil_sublist _)⟩⟩
end Go.Proofs.YtlndedfkgiafhaaDoor
namespace Go.Proofs.YtlndedfkgiafhaaDoor
open Go Go.RowKit Go.Proofs
theorem fO : FA 33 4 4 := fa (by kernel_rfl)
theorem iD : cY Tryd.prog 31 := bz (by kernel_rfl)
theorem u3 : Tryd.prog.underlying 31 = some (.slice (Tryd.prog.elem 31)) := by kernel_rfl
theorem lD : FA 33 5 5 := fa (by kernel_rfl)
theorem sL {big : Bool} {xs : List Int} {a n j : Nat} (hj : j < n) : (dV big n ((xs.drop a).take (4 * n)))[j]? = some (n4 big (xs.drop (a + 4 * j))) := by
 unfold dV
 rw [List.getElem?_map, List.getElem?_range hj, Option.map_some, bK (by omega), List.drop_drop]
theorem rT {fb gr or_ nr cr base : Nat} {gb ob N C nL cL nsy csy : Nat} {AL Asy : Option Addr} {xs : List Int} {lv : List LoadV} {vh vp vi : Value} {raw : List Int} (big : Bool) (w : World) (h0 : St w (Res.all [aq fb [vh, .bool big, .slice AL nL cL, vp, .slice Asy nsy csy, vi] 33, aH 74 4 (.slice AL nL cL) nL (lv.flatMap LoadV.cells)]).F [aq fb [vh, .bool big, .slice AL nL cL, vp, .slice Asy nsy csy, vi] 33, aH 74 4 (.slice AL nL cL) nL (lv.flatMap LoadV.cells)] w) (hB : ∀ g, (Res.all [aq fb [vh, .bool big, .slice AL nL cL, vp, .slice Asy nsy csy, vi] 33, aH 74 4 (.slice AL nL cL) nL (lv.flatMap LoadV.cells)]).F g → base ≤ g) (hbw : base ≤ w.heap.size) (hrr : RI .u8 w (some ⟨gr, or_, none⟩) nr raw) (hrb : Byt raw) (hnr : nr ≤ cr) (hnN : nr < 10485760) (hgr : gr < base) (hr : RI .u8 w (some ⟨gb, ob, none⟩) N xs) (hby : Byt xs) (hNC : N ≤ C) (hN : N < 10485760) (hgb : gb < base) (hnL : nL ≤ 10485760) (hnsy : nsy ≤ 10485760) (seen : Bool) :
 Calls Tryd.prog 31 #[.pt fb, .sl gb ob N C, .bool seen, .sl gr or_ nr cr] w fun e w' => (∃ (ld : LoadD) (x : LoadV) (AL2 : Option Addr) (cL2 : Nat) (vi2 : Value) (wd : List Int) (D : Res), seen = true ∧ (∀ s ss, s.syms = some ss → ss.length = nsy → bQ big xs raw s = some { s with loads := s.loads ++ [ld], ind := some wd }) ∧ x.l = ld ∧ ld.raw = raw ∧ x.vr = .sl gr or_ nr cr ∧ e = .returned (.i64 0) ∧ St w (Res.all [aq fb [vh, .bool big, .slice AL nL cL, vp, .slice Asy nsy csy, vi] 33, aH 74 4 (.slice AL nL cL) nL (lv.flatMap LoadV.cells)]).F [D, aq fb [vh, .bool big, .slice AL2 (nL + 1) cL2, vp, .slice Asy nsy csy, vi2] 33, aH 74 4 (.slice AL2 (nL + 1) cL2) (nL + 1) ((lv ++ [x]).flatMap LoadV.cells)] w' ∧ ∀ w, D.φ w → SlI' .u64 w x.vn ld.nums ∧ SlI' .u32 w vi2 wd) ∨ (e = .returned (.i64 2) ∧ seen = true ∧ St w (Res.all [aq fb [vh, .bool big, .slice AL nL cL, vp, .slice Asy nsy csy, vi] 33, aH 74 4 (.slice AL nL cL) nL (lv.flatMap LoadV.cells)]).F [aq fb [vh, .bool big, .slice AL nL cL, vp, .slice Asy nsy csy, vi] 33, aH 74 4 (.slice AL nL cL) nL (lv.flatMap LoadV.cells)] w') ∨ ((∀ s, s.syms.isSome = seen → (∀ ss, s.syms = some ss → ss.length = nsy) → bQ big xs raw s = none) ∧ e = .returned (.i64 1) ∧ St w (Res.all [aq fb [vh, .bool big, .slice AL nL cL, vp, .slice Asy nsy csy, vi] 33, aH 74 4 (.slice AL nL cL) nL (lv.flatMap LoadV.cells)]).F [] w') := by
 refine a5 (args := [.pt fb, .sl gb ob N C, .bool seen, .sl gr or_ nr cr]) Tryd.func31 rfl rfl rfl ?_
 have H0 : St _ _ [aq fb [vh, .bool big, .slice AL nL cL, vp, .slice Asy nsy csy, vi] 33, aH 74 4 (.slice AL nL cL) nL (lv.flatMap LoadV.cells)] _ := h0
 refine sr (ai 0 rfl (wn (ad ?_)))
 have hrl := hrr.1
 by_cases hfit : 80 ≤ nr
 ·
  obtain ⟨ys, hys⟩ : ∃ q, q = (raw.drop 0).take 80 := ⟨_, rfl⟩
  have hbys : Byt ys := by rw [hys]; exact (hrb.drop _).take _
  obtain ⟨q24, hq24⟩ : ∃ q : Nat, (q : Int) = n4 big (ys.drop 24) := ⟨(n4 big (ys.drop 24)).toNat, Int.toNat_of_nonneg (aR big (hbys.drop _)).1⟩
  have hltq24 : (q24 : Int) < 4294967296 := by rw [hq24]; exact (aR big (hbys.drop _)).2
  obtain ⟨q28, hq28⟩ : ∃ q : Nat, (q : Int) = n4 big (ys.drop 28) := ⟨(n4 big (ys.drop 28)).toNat, Int.toNat_of_nonneg (aR big (hbys.drop _)).1⟩
  have hltq28 : (q28 : Int) < 4294967296 := by rw [hq28]; exact (aR big (hbys.drop _)).2
  obtain ⟨q56, hq56⟩ : ∃ q : Nat, (q : Int) = n4 big (ys.drop 56) := ⟨(n4 big (ys.drop 56)).toNat, Int.toNat_of_nonneg (aR big (hbys.drop _)).1⟩
  have hltq56 : (q56 : Int) < 4294967296 := by rw [hq56]; exact (aR big (hbys.drop _)).2
  obtain ⟨q60, hq60⟩ : ∃ q : Nat, (q : Int) = n4 big (ys.drop 60) := ⟨(n4 big (ys.drop 60)).toNat, Int.toNat_of_nonneg (aR big (hbys.drop _)).1⟩
  have hltq60 : (q60 : Int) < 4294967296 := by rw [hq60]; exact (aR big (hbys.drop _)).2
  have hNL : bp big (List.replicate 20 4) raw = [n4 big (ys.drop 0), n4 big (ys.drop 4), n4 big (ys.drop 8), n4 big (ys.drop 12), n4 big (ys.drop 16), n4 big (ys.drop 20), ↑q24, ↑q28, n4 big (ys.drop 32), n4 big (ys.drop 36), n4 big (ys.drop 40), n4 big (ys.drop 44), n4 big (ys.drop 48), n4 big (ys.drop 52), ↑q56, ↑q60, n4 big (ys.drop 64), n4 big (ys.drop 68), n4 big (ys.drop 72), n4 big (ys.drop 76)] := by rw [hq24, hq28, hq56, hq60, hys]; exact lz big 20 80 (by omega) raw
  have H1 := H0.drew
  refine aO MX (fun w' => w'.cell? ⟨fb, 1, none⟩ = some (.bool big)) (tr 0 4 (Pl.take 5 (Pl.run 4 (Pl.run 6 (tr 7 5 Pl.done))))) (by kernel_rfl) (H1.c 0 1 rfl rfl) (qm (.pt fb) rfl rfl (qy rfl (ag rfl) (qy rfl (ab (o := 0) cO rfl) (qh rfl (fun hS => ah cU rfl hS) (qm (.sl gr or_ nr cr) rfl rfl (qr rfl (ec kg (args := [.i64 20]) rfl (aa (dQ (n := 20) _ (by omega)) ?_))))))))
  rintro e w3 ⟨A4, c4, rfl, HS2⟩
  have H4 := H1.cal0 HS2
  refine ⟨_, rfl, ?_⟩
  refine ⟨H4.c 1 1 rfl rfl, fun _ => trivial, ?_⟩
  refine qr rfl (ec gM (args := [.bool big, .slice A4 20 c4, .sl gr or_ nr cr]) rfl (aa (db (ws := List.replicate 20 4) (bs := raw) big _ (ce (H4.g 0 rfl)) (eJ _) (hrr.keepB H4.keep hB hgr) hnr (by omega) hrb (by decide) (K := 20) (by rw [eI]; omega) (by rw [hNL]; rfl) (by omega)) ?_))
  rintro e w6 ⟨gn, on, cB, Dn, rfl, hcB, HS5, hDn⟩
  rw [hNL] at hDn
  have H7 := H4.cal0 HS5
  refine ⟨_, rfl, ?_⟩
  refine ⟨H7.c 2 1 rfl rfl, fun _ => trivial, ?_⟩
  refine qm (.tuple #[.sl gn on 20 cB, .bool true]) rfl rfl (qy rfl (a7 (v := .sl gn on 20 cB) rfl rfl) (qy rfl (a7 (v := .bool true) rfl rfl) (qa (.sl gn on 20 cB) rfl rfl (qa (.bool true) rfl rfl (pn (ad (ad ?_)))))))
  cases seen
  ·
   have H8 := H7.drew
   refine aO MX (fun w' => w'.cell? ⟨fb, 4, none⟩ = some (.slice Asy nsy csy) ∧ w'.cell? ⟨gn, on + 6, none⟩ = some (.u64 (↑q24))) (tr 0 18 Pl.done) (by kernel_rfl) (⟨H8.c 2 4 rfl rfl, show World.cell? _ _ = some (.u64 (↑q24)) from (hDn _ (H8.g 0 rfl)).cellAt 6 (by omega)⟩) (qm (.bool true) rfl rfl (qy rfl (bB rfl) (qm (.bool false) rfl rfl (qz rfl rfl (al (v := .bool false) rfl) (qz rfl rfl (bB rfl) (qy rfl (aD (b := false) (v := .bool true) rfl rfl) (qm (.bool true) rfl rfl (bk rfl rfl (bk rfl rfl (bk rfl rfl (bk rfl rfl ?_)))))))))))
   refine bk rfl rfl (bk rfl rfl (bk rfl rfl (bk rfl rfl (bk rfl rfl (bk rfl rfl (qy rfl (aD (b := true) (v := .bool true) rfl rfl) (pn (ay rfl (sr (ai 1 rfl (wn ?_)))))))))))
   refine rq ?_
   exact ⟨.inr rfl, _, r1 (.i64 1) rfl _ _, .inr (.inr ⟨fun s hse hsn => by have hss : s.syms = none := by { cases h : s.syms with | none => rfl | some x => rw [h] at hse; cases hse }; simp only [bQ, ← hys, ← hq24, ← hq28, ← hq56, ← hq60, Int.toNat_natCast, hss, if_neg (show ¬ raw.length < 80 by omega)], rfl, H8.sub (List.nil_sublist _)⟩)⟩
  ·
   have H9 := H7.drew
   refine aO MX (fun w' => w'.cell? ⟨fb, 4, none⟩ = some (.slice Asy nsy csy) ∧ w'.cell? ⟨gn, on + 6, none⟩ = some (.u64 (↑q24))) (tr 0 18 Pl.done) (by kernel_rfl) (⟨H9.c 2 4 rfl rfl, show World.cell? _ _ = some (.u64 (↑q24)) from (hDn _ (H9.g 0 rfl)).cellAt 6 (by omega)⟩) (qm (.bool true) rfl rfl (qy rfl (bB rfl) (qm (.bool false) rfl rfl (qz rfl rfl (al (v := .bool true) rfl) (qz rfl rfl (bB rfl) (qy rfl (aD (b := false) (v := .bool false) rfl rfl) (qm (.bool false) rfl rfl (qz rfl rfl (al (v := .sl gn on 20 cB) rfl) (qz rfl rfl (aI (a := ⟨gn, on, none⟩) (i := 6) bA rfl rfl (by omega) (by omega)) (jQ rfl rfl (fun _ hS => ah aM rfl hS.2) (qz rfl rfl (al (v := .pt fb) rfl) ?_)))))))))))
   refine qz rfl rfl (ag rfl) (qz rfl rfl (ab (o := 0) fO rfl) (jQ rfl rfl (fun _ hS => ah iD rfl hS.1) (qz rfl rfl (ba (n := nsy) u3 rfl) (qz rfl rfl (an (c := ↑nsy) eL be rfl (a6 (by omega) (by omega))) (qz rfl rfl (gP (k := .u64) (a := ↑q24) (b := ↑nsy) rfl rfl) (qy rfl (aD (b := false) (v := .bool (decide ((↑nsy : Int) < ↑q24))) rfl rfl) (pn ?_)))))))
   refine cf rfl (fun hb10 => ?_) (fun hb10 => ?_)
   ·
    simp only [bx] at hb10
    refine sr (ai 1 rfl (wn (rq ?_)))
    exact ⟨.inr rfl, _, r1 (.i64 1) rfl _ _, .inr (.inr ⟨fun s hse hsn => by obtain ⟨ss, hss⟩ : ∃ ss, s.syms = some ss := (by { cases h : s.syms with | none => rw [h] at hse; cases hse | some x => exact ⟨x, rfl⟩ }); have hsl := hsn ss hss; simp only [bQ, ← hys, ← hq24, ← hq28, ← hq56, ← hq60, Int.toNat_natCast, hss, if_neg (show ¬ raw.length < 80 by omega), if_pos (show ss.length < q24 by omega)], rfl, H9.sub (List.nil_sublist _)⟩)⟩
   ·
    simp only [bx] at hb10
    refine wk (ad (ad ?_))
    have H11 := H9.drew
    refine aO MX (fun w' => w'.cell? ⟨gn, on + 6, none⟩ = some (.u64 (↑q24)) ∧ w'.cell? ⟨gn, on + 7, none⟩ = some (.u64 (↑q28))) (tr 0 8 Pl.done) (by kernel_rfl) (⟨show World.cell? _ _ = some (.u64 (↑q24)) from (hDn _ (H11.g 0 rfl)).cellAt 6 (by omega), show World.cell? _ _ = some (.u64 (↑q28)) from (hDn _ (H11.g 0 rfl)).cellAt 7 (by omega)⟩) (qm (.sl gn on 20 cB) rfl rfl (qy rfl (aI (a := ⟨gn, on, none⟩) (i := 6) bA rfl rfl (by omega) (by omega)) (qh rfl (fun hS => ah aM rfl hS.1) (qm (.sl gn on 20 cB) rfl rfl (qy rfl (aI (a := ⟨gn, on, none⟩) (i := 7) bA rfl rfl (by omega) (by omega)) (qh rfl (fun hS => ah aM rfl hS.2) (qy rfl (aT (k := .u64) (c := ↑(q24 + q28)) rfl rfl (by rw [a6 (by omega) (by omega)]; omega)) (qy rfl (i5 (k := .u64) (a := ↑(q24 + q28)) (b := 4294967296) rfl rfl) (pn ?_)))))))))
    refine cf rfl (fun hb12 => ?_) (fun hb12 => ?_)
    ·
     simp only [bx] at hb12
     refine sr (ai 2 rfl (wn (rq ?_)))
     exact ⟨.inr rfl, _, r1 (.i64 2) rfl _ _, .inr (.inl ⟨rfl, by rfl, H11.re [2, 3]⟩)⟩
    ·
     simp only [bx] at hb12
     refine wk (ad (ad ?_))
     by_cases hf1 : 4 * q60 = 0 ∨ q56 + 4 * q60 ≤ N
     ·
      have H13 := H11.drew
      refine aO MX (fun w' => w'.cell? ⟨fb, 4, none⟩ = some (.slice Asy nsy csy) ∧ w'.cell? ⟨gn, on + 6, none⟩ = some (.u64 (↑q24)) ∧ w'.cell? ⟨gn, on + 7, none⟩ = some (.u64 (↑q28)) ∧ w'.cell? ⟨gn, on + 14, none⟩ = some (.u64 (↑q56)) ∧ w'.cell? ⟨gn, on + 15, none⟩ = some (.u64 (↑q60))) (tr 0 23 (Pl.run 23 (Pl.take 24 (Pl.take 25 Pl.done)))) (by kernel_rfl) (⟨H13.c 2 4 rfl rfl, show World.cell? _ _ = some (.u64 (↑q24)) from (hDn _ (H13.g 0 rfl)).cellAt 6 (by omega), show World.cell? _ _ = some (.u64 (↑q28)) from (hDn _ (H13.g 0 rfl)).cellAt 7 (by omega), show World.cell? _ _ = some (.u64 (↑q56)) from (hDn _ (H13.g 0 rfl)).cellAt 14 (by omega), show World.cell? _ _ = some (.u64 (↑q60)) from (hDn _ (H13.g 0 rfl)).cellAt 15 (by omega)⟩) (qm (.sl gn on 20 cB) rfl rfl (qy rfl (aI (a := ⟨gn, on, none⟩) (i := 6) bA rfl rfl (by omega) (by omega)) (qh rfl (fun hS => ah aM rfl hS.2.1) (qm (.sl gn on 20 cB) rfl rfl (qy rfl (aI (a := ⟨gn, on, none⟩) (i := 7) bA rfl rfl (by omega) (by omega)) (qh rfl (fun hS => ah aM rfl hS.2.2.1) (qy rfl (aT (k := .u64) (c := ↑(q24 + q28)) rfl rfl (by rw [a6 (by omega) (by omega)]; omega)) (qm (.pt fb) rfl rfl (qy rfl (ag rfl) (qy rfl (ab (o := 0) fO rfl) (qh rfl (fun hS => ah iD rfl hS.1) ?_)))))))))))
      refine qy rfl (ba (n := nsy) u3 rfl) (qy rfl (an (c := ↑nsy) eL be rfl (a6 (by omega) (by omega))) (qy rfl (gP (k := .u64) (a := ↑(q24 + q28)) (b := ↑nsy) rfl rfl) (qm (.bool (decide ((↑nsy : Int) < ↑(q24 + q28)))) rfl rfl ?_)))
      generalize hb14 : (decide ((↑nsy : Int) < ↑(q24 + q28))) = bb
      cases bb
      ·
       simp only [bx] at hb14
       refine qz rfl rfl (al (v := .sl gb ob N C) rfl) (qz rfl rfl (al (v := .sl gn on 20 cB) rfl) (qz rfl rfl (aI (a := ⟨gn, on, none⟩) (i := 14) bA rfl rfl (by omega) (by omega)) (jQ rfl rfl (fun _ hS => ah aM rfl hS.2.2.2.1) (qz rfl rfl (al (v := .sl gn on 20 cB) rfl) (qz rfl rfl (aI (a := ⟨gn, on, none⟩) (i := 15) bA rfl rfl (by omega) (by omega)) (jQ rfl rfl (fun _ hS => ah aM rfl hS.2.2.2.2) (qz rfl rfl (c6 (k := .u64) (c := ↑(4 * q60)) rfl rfl (by rw [a6 (by omega) (by omega)]; omega)) (sK rfl rfl (ec fV (args := [.sl gb ob N C, .u64 (↑q56), .u64 (↑(4 * q60))]) rfl (aa (cZ _ (by omega) (by omega) hf1) ?_))))))))))
       rintro e w16 ⟨rfl, HS15⟩
       have H17 := H13.cal0 HS15
       refine ⟨_, rfl, ?_⟩
       refine ⟨⟨H17.c 2 4 rfl rfl, show World.cell? _ _ = some (.u64 (↑q24)) from (hDn _ (H17.g 0 rfl)).cellAt 6 (by omega), show World.cell? _ _ = some (.u64 (↑q28)) from (hDn _ (H17.g 0 rfl)).cellAt 7 (by omega), show World.cell? _ _ = some (.u64 (↑q56)) from (hDn _ (H17.g 0 rfl)).cellAt 14 (by omega), show World.cell? _ _ = some (.u64 (↑q60)) from (hDn _ (H17.g 0 rfl)).cellAt 15 (by omega)⟩, fun _ => trivial, ?_⟩
       refine qz rfl rfl (bB rfl) (qy rfl (aD (b := false) (v := .bool false) rfl rfl) (pn (aj rfl (wk (sr (mp fb 0 rfl (wm rfl (eb H17 24 [] rfl (by kernel_rfl) (fun g18 w19 hgg18 H20 =>  wc rfl (wf lD rfl (ws ?_)))))))))))
       refine es H20 3 5 (.sl g18 0 0 0) rfl gU (fun w22 H21 =>  ?_)
       refine wn (ad (sr (ms gn on 20 cB rfl (wv rfl (aI bA rfl rfl (by omega) (by omega)) (wv rfl (ah aM rfl (show World.cell? _ _ = some (.u64 (↑q60)) from (hDn _ (H21.g 1 rfl)).cellAt 15 (by omega))) (mu 0 rfl (wn (aC ?_))))))))
       have H30 : St w (Res.all [aq fb [vh, .bool big, .slice AL nL cL, vp, .slice Asy nsy csy, vi] 33, aH 74 4 (.slice AL nL cL) nL (lv.flatMap LoadV.cells)]).F [aq fb [vh, .bool big, .slice AL nL cL, vp, .slice Asy nsy csy, .sl g18 0 0 0] 33, aH 74 4 (.slice AL nL cL) nL (lv.flatMap LoadV.cells), aH 24 1 (.sl g18 0 0 0) 0 (nums .u32 ((dV big q60 ((xs.drop q56).take (4 * q60))).take 0)), Dn] w22 := (H21.rowOf (i := 0) (cap := 0) (sz := 1) rfl rfl (by simp [maxLen])).re [3, 4, 0, 1]
       refine bW (fun ρ w' => ∃ j : Nat, ∃ AI : Option Addr, ∃ cI : Nat, ρ 0 = .pt fb ∧ ρ 1 = .sl gb ob N C ∧ ρ 3 = .sl gr or_ nr cr ∧ ρ 9 = .sl gn on 20 cB ∧ ρ 80 = .u64 (↑q60) ∧ ρ 81 = .u64 (↑j) ∧ j ≤ q60 ∧ St w (Res.all [aq fb [vh, .bool big, .slice AL nL cL, vp, .slice Asy nsy csy, vi] 33, aH 74 4 (.slice AL nL cL) nL (lv.flatMap LoadV.cells)]).F [aq fb [vh, .bool big, .slice AL nL cL, vp, .slice Asy nsy csy, .slice AI j cI] 33, aH 74 4 (.slice AL nL cL) nL (lv.flatMap LoadV.cells), aH 24 1 (.slice AI j cI) j (nums .u32 ((dV big q60 ((xs.drop q56).take (4 * q60))).take j)), Dn] w') (fun ρ _ => q60 + 1 - nv (ρ 81)) (⟨0, _, _, rfl, rfl, rfl, rfl, rfl, rfl, by omega, H30⟩) ?_
       rintro ρ w3 ⟨j, AI, cI, g0, g1, g3, g9, g80, g81, hj, H3⟩
       refine sr (wv rfl (cx g81 g80) (wn (ad ?_)))
       refine cf rfl (fun hb23 => ?_) (fun hb23 => ?_)
       ·
        simp only [bx] at hb23
        refine wk (ad (aC (sr (mg g81 rfl (au (↑j) rfl (wn ?_))))))
        have H24 := H3.drew
        refine dL MX (fun w' => w'.cell? ⟨fb, 5, none⟩ = some (.slice AI j cI)) (fun w' => w'.cell? ⟨fb, 1, none⟩ = some (.bool big) ∧ w'.cell? ⟨gn, on + 14, none⟩ = some (.u64 (↑q56))) 23 (tr 0 4 (Pl.takeS 4 (tr 5 12 (Pl.run 17 (Pl.take 18 (Pl.run 19 (Pl.run 20 (Pl.take 21 (Pl.take 22 (Pl.run 23 Pl.done)))))))))) (by kernel_rfl) rfl (H24.c 0 5 rfl rfl) (⟨H24.c 0 1 rfl rfl, show World.cell? _ _ = some (.u64 (↑q56)) from (hDn _ (H24.g 3 rfl)).cellAt 14 (by omega)⟩) (qm (.pt fb) rfl g0 (qm (.pt fb) rfl g0 (qy rfl (ag rfl) (qy rfl (ab (o := 0) lD rfl) (qs rfl rfl (fun _ hS => ah gU rfl hS) (qm (.pt fb) rfl g0 (qy rfl (ag rfl) (qy rfl (ab (o := 0) cO rfl) (qh rfl (fun hS => ah cU rfl hS.1) (qm (.sl gb ob N C) rfl g1 (qm (.sl gn on 20 cB) rfl g9 ?_)))))))))))
        refine qy rfl (aI (a := ⟨gn, on, none⟩) (i := 14) bA rfl rfl (by omega) (by omega)) (qh rfl (fun hS => ah aM rfl hS.2) (qm (.u64 (↑j)) rfl rfl (qy rfl (c6 (k := .u64) (c := ↑(4 * j)) rfl rfl (by rw [a6 (by omega) (by omega)]; omega)) (qy rfl (aT (k := .u64) (c := ↑(q56 + (4 * j))) rfl rfl (by rw [a6 (by omega) (by omega)]; omega)) (qt rfl (fun _ hS => (am (l := (q56 + (4 * j))) (h := N) aU rfl (bs rfl (by omega) (Int.toNat_natCast _)) bn (by omega) (by omega) (by omega) (by omega) : Yv _ _ _ _ (.sl gb (ob + (q56 + (4 * j))) (N - (q56 + (4 * j))) (C - (q56 + (4 * j)))) _)) (qr rfl (ec kf (args := [.bool big, .i64 4, .sl gb (ob + (q56 + (4 * j))) (N - (q56 + (4 * j))) (C - (q56 + (4 * j)))]) rfl (aa (by have h := dw big (wd := 4) _ (RI.drop_ (hr.keepB H24.keep hB hgb) (q56 + (4 * j))) (c := C - (q56 + (4 * j))) (hby.drop _) (by omega) (by omega); rw [hX] at h; exact h) ?_))))))))
        rintro e w26 ⟨rfl, HS25⟩
        have H27 := H24.cal0 HS25
        refine ⟨_, rfl, ?_⟩
        refine ⟨⟨H27.c 0 1 rfl rfl, show World.cell? _ _ = some (.u64 (↑q56)) from (hDn _ (H27.g 3 rfl)).cellAt 14 (by omega)⟩, fun _ => H27.c 0 5 rfl rfl, ?_⟩
        refine qy rfl (an (c := n4 big (xs.drop (q56 + (4 * j)))) cb iV rfl (d6 (aR big (hby.drop _)).1 (by have := (aR big (hby.drop ((q56 + (4 * j))))).2; omega))) (qr rfl (eb H27 24 [.u32 (n4 big (xs.drop (q56 + (4 * j))))] rfl (by kernel_rfl) (fun g28 w29 hgg28 H30 =>  ?_)))
        refine ⟨⟨H30.c 1 1 rfl rfl, show World.cell? _ _ = some (.u64 (↑q56)) from (hDn _ (H30.g 4 rfl)).cellAt 14 (by omega)⟩, fun _ => H30.c 1 5 rfl rfl, ?_⟩
        refine qr rfl (bR H30 3 (m := 1) (news := [.u32 (n4 big (xs.drop (q56 + (4 * j))))]) rfl u0 vf rfl (by decide) rfl rfl rfl (H30.news (i := 0) rfl) (by simp [Value.oneCell']) (by simp only [maxLen]; omega) (by omega) (fun v31 w32 H33 =>  ?_))
        obtain ⟨A34, c35, rfl, _, _⟩ := aw (H33.g 3 rfl)
        refine ⟨⟨H33.c 1 1 rfl rfl, show World.cell? _ _ = some (.u64 (↑q56)) from (hDn _ (H33.g 4 rfl)).cellAt 14 (by omega)⟩, fun _ => H33.c 1 5 rfl rfl, ?_⟩
        refine qy rfl (ag rfl) (qy rfl (ab (o := 0) lD rfl) (dx rfl (es H33 1 5 (.slice A34 (j + 1) c35) rfl gU (fun w37 H36 =>  ?_))))
        refine ⟨⟨H36.c 1 1 rfl rfl, show World.cell? _ _ = some (.u64 (↑q56)) from (hDn _ (H36.g 4 rfl)).cellAt 14 (by omega)⟩, fun h => absurd h (by decide), ?_⟩
        refine ck (ao (ac (ae (wv rfl (aT (k := .u64) (c := ↑j + 1) g81 rfl (a6 (by omega) (by omega))) (mu (↑j + 1) rfl (wn ?_))))))
        have hd := sL (big := big) (xs := xs) (a := q56) (show j < q60 by omega)
        have hcur : nums .u32 ((dV big q60 ((xs.drop q56).take (4 * q60))).take j) ++ [.u32 (n4 big (xs.drop (q56 + (4 * j))))] = nums .u32 ((dV big q60 ((xs.drop q56).take (4 * q60))).take (j + 1)) := by rw [List.take_add_one, hd]; simp [nums]
        rw [hcur] at H36
        exact ⟨⟨j + 1, _, _, g0, g1, g3, g9, g80, rfl, by omega, H36.re [1, 2, 3, 4]⟩, by show q60 + 1 - nv (.u64 (↑j + 1)) < q60 + 1 - nv (ρ 81); rw [g81]; simp only [nv]; omega⟩
       ·
        simp only [bx] at hb23
        refine bF (a8 (a8 (aY (ac (sr (mg g0 rfl (mg g0 rfl (wc rfl (wf dF rfl (wv rfl (H3.ld 0 rfl eS rfl (.slice AL nL cL) rfl) (mg g3 rfl ?_)))))))))))
        refine mg g9 rfl (wv rfl (yz [.i64 5, .sl gr or_ nr cr, .string (⟨#[]⟩), .sl gn on 20 cB] rfl (by kernel_rfl)) (wm rfl (jv H3 (ps := [(0, .agg #[.i64 5, .sl gr or_ nr cr, .string (⟨#[]⟩), .sl gn on 20 cB])]) (e := 74) (cs := [.i64 5, .sl gr or_ nr cr, .string (⟨#[]⟩), .sl gn on 20 cB]) rfl (by kernel_rfl) (fun g38 w39 hgg38 H40 =>  wm rfl (bR H40 2 (m := 1) (news := [.i64 5, .sl gr or_ nr cr, .string (⟨#[]⟩), .sl gn on 20 cB]) rfl ox oA rfl (by decide) rfl rfl rfl (H40.news (i := 0) rfl) (by simp [Value.oneCell']) (by simp only [maxLen]; omega) (by omega) (fun v41 w42 H43 =>  ?_))))))
        obtain ⟨A44, c45, rfl, _, _⟩ := aw (H43.g 2 rfl)
        refine wc rfl (wf dF rfl (ws (es H43 1 2 (.slice A44 (nL + 1) c45) rfl eS (fun w47 H46 =>  ?_))))
        refine wn (sr (ai 0 rfl (wn (aQ ?_))))
        have hcur : lv.flatMap LoadV.cells ++ [.i64 5, .sl gr or_ nr cr, .string (⟨#[]⟩), .sl gn on 20 cB] = (lv ++ [(LoadV.mk (⟨5, raw, [], rS big ys⟩ : LoadD) (.sl gr or_ nr cr) (.sl gn on 20 cB))]).flatMap LoadV.cells := by rw [List.flatMap_append, List.flatMap_singleton]; rfl
        rw [hcur] at H46
        have hjq : j = q60 := by omega
        rw [List.take_of_length_le (by simp [dV]; omega)] at H46
        exact ⟨.inr rfl, _, r1 (.i64 0) rfl _ _, .inl ⟨(⟨5, raw, [], rS big ys⟩ : LoadD), (LoadV.mk (⟨5, raw, [], rS big ys⟩ : LoadD) (.sl gr or_ nr cr) (.sl gn on 20 cB)), _, _, _, dV big q60 ((xs.drop q56).take (4 * q60)), Res.all [aH 24 1 (.slice AI j cI) j (nums .u32 (dV big q60 ((xs.drop q56).take (4 * q60)))), Dn], rfl, fun s ss hss hsl => by have e1 : gG xs q56 (4 * q60) = some ((xs.drop q56).take (4 * q60)) := bT (by rw [hr.1]; exact hf1); simp only [bQ, ← hys, ← hq24, ← hq28, ← hq56, ← hq60, Int.toNat_natCast, hss, if_neg (show ¬ raw.length < 80 by omega), if_neg (show ¬ ss.length < q24 by omega), if_neg (show ¬ ss.length < ((↑q24 + ↑q28 : Int) % 4294967296).toNat by omega), e1], rfl, rfl, rfl, rfl, H46.reAll [3, 4] [1, 2], fun w hh => by have hh := aV.1 hh; exact ⟨⟨_, _, _, rfl, by have h := hDn w (hh Dn (by simp)); rw [hq24, hq28, hq56, hq60] at h; exact h⟩, ⟨_, _, _, rfl, ce (hh (aH 24 1 (.slice AI j cI) j (nums .u32 (dV big q60 ((xs.drop q56).take (4 * q60))))) (by simp))⟩⟩⟩⟩
      ·
       simp only [bx] at hb14
       refine bk rfl rfl (bk rfl rfl (bk rfl rfl (bk rfl rfl (bk rfl rfl (bk rfl rfl (bk rfl rfl (bk rfl rfl (nN rfl rfl (⟨H13.c 2 4 rfl rfl, show World.cell? _ _ = some (.u64 (↑q24)) from (hDn _ (H13.g 0 rfl)).cellAt 6 (by omega), show World.cell? _ _ = some (.u64 (↑q28)) from (hDn _ (H13.g 0 rfl)).cellAt 7 (by omega), show World.cell? _ _ = some (.u64 (↑q56)) from (hDn _ (H13.g 0 rfl)).cellAt 14 (by omega), show World.cell? _ _ = some (.u64 (↑q60)) from (hDn _ (H13.g 0 rfl)).cellAt 15 (by omega)⟩) (fun _ => trivial) (bk rfl rfl (qy rfl (aD (b := true) (v := .bool true) rfl rfl) (pn ?_)))))))))))
       refine ay rfl (sr (ai 1 rfl (wn (rq ?_))))
       exact ⟨.inr rfl, _, r1 (.i64 1) rfl _ _, .inr (.inr ⟨fun s hse hsn => by obtain ⟨ss, hss⟩ : ∃ ss, s.syms = some ss := (by { cases h : s.syms with | none => rw [h] at hse; cases hse | some x => exact ⟨x, rfl⟩ }); have hsl := hsn ss hss; simp only [bQ, ← hys, ← hq24, ← hq28, ← hq56, ← hq60, Int.toNat_natCast, hss, if_neg (show ¬ raw.length < 80 by omega), if_neg (show ¬ ss.length < q24 by omega)]; rw [if_pos (by omega)], rfl, H13.sub (List.nil_sublist _)⟩)⟩
     ·
      have H48 := H11.drew
      refine aO MX (fun w' => w'.cell? ⟨fb, 4, none⟩ = some (.slice Asy nsy csy) ∧ w'.cell? ⟨gn, on + 6, none⟩ = some (.u64 (↑q24)) ∧ w'.cell? ⟨gn, on + 7, none⟩ = some (.u64 (↑q28)) ∧ w'.cell? ⟨gn, on + 14, none⟩ = some (.u64 (↑q56)) ∧ w'.cell? ⟨gn, on + 15, none⟩ = some (.u64 (↑q60))) (tr 0 23 (Pl.run 23 (Pl.take 24 (Pl.take 25 Pl.done)))) (by kernel_rfl) (⟨H48.c 2 4 rfl rfl, show World.cell? _ _ = some (.u64 (↑q24)) from (hDn _ (H48.g 0 rfl)).cellAt 6 (by omega), show World.cell? _ _ = some (.u64 (↑q28)) from (hDn _ (H48.g 0 rfl)).cellAt 7 (by omega), show World.cell? _ _ = some (.u64 (↑q56)) from (hDn _ (H48.g 0 rfl)).cellAt 14 (by omega), show World.cell? _ _ = some (.u64 (↑q60)) from (hDn _ (H48.g 0 rfl)).cellAt 15 (by omega)⟩) (qm (.sl gn on 20 cB) rfl rfl (qy rfl (aI (a := ⟨gn, on, none⟩) (i := 6) bA rfl rfl (by omega) (by omega)) (qh rfl (fun hS => ah aM rfl hS.2.1) (qm (.sl gn on 20 cB) rfl rfl (qy rfl (aI (a := ⟨gn, on, none⟩) (i := 7) bA rfl rfl (by omega) (by omega)) (qh rfl (fun hS => ah aM rfl hS.2.2.1) (qy rfl (aT (k := .u64) (c := ↑(q24 + q28)) rfl rfl (by rw [a6 (by omega) (by omega)]; omega)) (qm (.pt fb) rfl rfl (qy rfl (ag rfl) (qy rfl (ab (o := 0) fO rfl) (qh rfl (fun hS => ah iD rfl hS.1) ?_)))))))))))
      refine qy rfl (ba (n := nsy) u3 rfl) (qy rfl (an (c := ↑nsy) eL be rfl (a6 (by omega) (by omega))) (qy rfl (gP (k := .u64) (a := ↑(q24 + q28)) (b := ↑nsy) rfl rfl) (qm (.bool (decide ((↑nsy : Int) < ↑(q24 + q28)))) rfl rfl ?_)))
      generalize hb49 : (decide ((↑nsy : Int) < ↑(q24 + q28))) = bb
      cases bb
      ·
       simp only [bx] at hb49
       refine qz rfl rfl (al (v := .sl gb ob N C) rfl) (qz rfl rfl (al (v := .sl gn on 20 cB) rfl) (qz rfl rfl (aI (a := ⟨gn, on, none⟩) (i := 14) bA rfl rfl (by omega) (by omega)) (jQ rfl rfl (fun _ hS => ah aM rfl hS.2.2.2.1) (qz rfl rfl (al (v := .sl gn on 20 cB) rfl) (qz rfl rfl (aI (a := ⟨gn, on, none⟩) (i := 15) bA rfl rfl (by omega) (by omega)) (jQ rfl rfl (fun _ hS => ah aM rfl hS.2.2.2.2) (qz rfl rfl (c6 (k := .u64) (c := ↑(4 * q60)) rfl rfl (by rw [a6 (by omega) (by omega)]; omega)) (sK rfl rfl (ec fV (args := [.sl gb ob N C, .u64 (↑q56), .u64 (↑(4 * q60))]) rfl (aa (dj _ (by omega) (by omega) hf1) ?_))))))))))
       rintro e w51 ⟨rfl, HS50⟩
       have H52 := H48.cal0 HS50
       refine ⟨_, rfl, ?_⟩
       refine ⟨⟨H52.c 2 4 rfl rfl, show World.cell? _ _ = some (.u64 (↑q24)) from (hDn _ (H52.g 0 rfl)).cellAt 6 (by omega), show World.cell? _ _ = some (.u64 (↑q28)) from (hDn _ (H52.g 0 rfl)).cellAt 7 (by omega), show World.cell? _ _ = some (.u64 (↑q56)) from (hDn _ (H52.g 0 rfl)).cellAt 14 (by omega), show World.cell? _ _ = some (.u64 (↑q60)) from (hDn _ (H52.g 0 rfl)).cellAt 15 (by omega)⟩, fun _ => trivial, ?_⟩
       refine qz rfl rfl (bB rfl) (qy rfl (aD (b := false) (v := .bool true) rfl rfl) (pn (ay rfl (sr (ai 1 rfl (wn (rq ?_)))))))
       exact ⟨.inr rfl, _, r1 (.i64 1) rfl _ _, .inr (.inr ⟨fun s hse hsn => by obtain ⟨ss, hss⟩ : ∃ ss, s.syms = some ss := (by { cases h : s.syms with | none => rw [h] at hse; cases hse | some x => exact ⟨x, rfl⟩ }); have hsl := hsn ss hss; simp only [bQ, ← hys, ← hq24, ← hq28, ← hq56, ← hq60, Int.toNat_natCast, hss, if_neg (show ¬ raw.length < 80 by omega), if_neg (show ¬ ss.length < q24 by omega)]; have e1 : gG xs q56 (4 * q60) = none := dD (by rw [hr.1]; exact hf1); rw [if_neg (by omega), e1], rfl, H52.sub (List.nil_sublist _)⟩)⟩
      ·
       simp only [bx] at hb49
       refine bk rfl rfl (bk rfl rfl (bk rfl rfl (bk rfl rfl (bk rfl rfl (bk rfl rfl (bk rfl rfl (bk rfl rfl (nN rfl rfl (⟨H48.c 2 4 rfl rfl, show World.cell? _ _ = some (.u64 (↑q24)) from (hDn _ (H48.g 0 rfl)).cellAt 6 (by omega), show World.cell? _ _ = some (.u64 (↑q28)) from (hDn _ (H48.g 0 rfl)).cellAt 7 (by omega), show World.cell? _ _ = some (.u64 (↑q56)) from (hDn _ (H48.g 0 rfl)).cellAt 14 (by omega), show World.cell? _ _ = some (.u64 (↑q60)) from (hDn _ (H48.g 0 rfl)).cellAt 15 (by omega)⟩) (fun _ => trivial) (bk rfl rfl (qy rfl (aD (b := true) (v := .bool true) rfl rfl) (pn ?_)))))))))))
       refine ay rfl (sr (ai 1 rfl (wn (rq ?_))))
       exact ⟨.inr rfl, _, r1 (.i64 1) rfl _ _, .inr (.inr ⟨fun s hse hsn => by obtain ⟨ss, hss⟩ : ∃ ss, s.syms = some ss := (by { cases h : s.syms with | none => rw [h] at hse; cases hse | some x => exact ⟨x, rfl⟩ }); have hsl := hsn ss hss; simp only [bQ, ← hys, ← hq24, ← hq28, ← hq56, ← hq60, Int.toNat_natCast, hss, if_neg (show ¬ raw.length < 80 by omega), if_neg (show ¬ ss.length < q24 by omega)]; rw [if_pos (by omega)], rfl, H48.sub (List.nil_sublist _)⟩)⟩
 ·
  have H53 := H0.drew
  refine aO MX (fun w' => w'.cell? ⟨fb, 1, none⟩ = some (.bool big)) (tr 0 4 (Pl.take 5 (Pl.run 4 (Pl.run 6 (tr 7 5 Pl.done))))) (by kernel_rfl) (H53.c 0 1 rfl rfl) (qm (.pt fb) rfl rfl (qy rfl (ag rfl) (qy rfl (ab (o := 0) cO rfl) (qh rfl (fun hS => ah cU rfl hS) (qm (.sl gr or_ nr cr) rfl rfl (qr rfl (ec kg (args := [.i64 20]) rfl (aa (dQ (n := 20) _ (by omega)) ?_))))))))
  rintro e w55 ⟨A4, c4, rfl, HS54⟩
  have H56 := H53.cal0 HS54
  refine ⟨_, rfl, ?_⟩
  refine ⟨H56.c 1 1 rfl rfl, fun _ => trivial, ?_⟩
  refine qr rfl (ec gM (args := [.bool big, .slice A4 20 c4, .sl gr or_ nr cr]) rfl (aa (dA (ws := List.replicate 20 4) (bs := raw) big _ (ce (H56.g 0 rfl)) (eJ _) (hrr.keepB H56.keep hB hgr) hnr (by omega) hrb (by decide) (by rw [eI]; omega)) ?_))
  rintro e w58 ⟨rfl, HS57⟩
  have H59 := H56.cal0 HS57
  refine ⟨_, rfl, ?_⟩
  refine ⟨H59.c 1 1 rfl rfl, fun _ => trivial, ?_⟩
  refine qm (.tuple #[.ns, .bool false]) rfl rfl (qy rfl (a7 (v := .ns) rfl rfl) (qy rfl (a7 (v := .bool false) rfl rfl) (qa (.ns) rfl rfl (qa (.bool false) rfl rfl (pn (ad (ad ?_)))))))
  cases seen
  ·
   have H60 := H59.drew
   refine aO MX (fun w' => w'.cell? ⟨fb, 4, none⟩ = some (.slice Asy nsy csy)) (tr 0 18 Pl.done) (by kernel_rfl) (H60.c 1 4 rfl rfl) (qm (.bool false) rfl rfl (qy rfl (bB rfl) (qm (.bool true) rfl rfl (bk rfl rfl (bk rfl rfl (qy rfl (aD (b := true) (v := .bool true) rfl rfl) (qm (.bool true) rfl rfl (bk rfl rfl (bk rfl rfl (bk rfl rfl (bk rfl rfl ?_)))))))))))
   refine bk rfl rfl (bk rfl rfl (bk rfl rfl (bk rfl rfl (bk rfl rfl (bk rfl rfl (qy rfl (aD (b := true) (v := .bool true) rfl rfl) (pn (ay rfl (sr (ai 1 rfl (wn ?_)))))))))))
   refine rq ?_
   exact ⟨.inr rfl, _, r1 (.i64 1) rfl _ _, .inr (.inr ⟨fun s hse hsn => by unfold bQ; rw [if_pos (by omega)], rfl, H60.sub (List.nil_sublist _)⟩)⟩
  ·
   have H61 := H59.drew
   refine aO MX (fun w' => w'.cell? ⟨fb, 4, none⟩ = some (.slice Asy nsy csy)) (tr 0 18 Pl.done) (by kernel_rfl) (H61.c 1 4 rfl rfl) (qm (.bool false) rfl rfl (qy rfl (bB rfl) (qm (.bool true) rfl rfl (bk rfl rfl (bk rfl rfl (qy rfl (aD (b := true) (v := .bool true) rfl rfl) (qm (.bool true) rfl rfl (bk rfl rfl (bk rfl rfl (bk rfl rfl (bk rfl rfl ?_)))))))))))
   refine bk rfl rfl (bk rfl rfl (bk rfl rfl (bk rfl rfl (bk rfl rfl (bk rfl rfl (qy rfl (aD (b := true) (v := .bool true) rfl rfl) (pn (ay rfl (sr (ai 1 rfl (wn ?_)))))))))))
   refine rq ?_
   exact ⟨.inr rfl, _, r1 (.i64 1) rfl _ _, .inr (.inr ⟨fun s hse hsn => by unfold bQ; rw [if_pos (by omega)], rfl, H61.sub (List.nil_sublist _)⟩)⟩
end Go.Proofs.YtlndedfkgiafhaaDoor
