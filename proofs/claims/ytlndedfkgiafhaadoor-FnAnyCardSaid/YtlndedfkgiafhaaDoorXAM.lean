import Derived.Test.YtlndedfkgiafhaaDoorXAL
set_option linter.unusedVariables false
set_option linter.unusedSimpArgs false
set_option maxRecDepth 100000
set_option maxHeartbeats 4000000
namespace Go.Proofs.YtlndedfkgiafhaaDoor
open Go Go.RowKit Go.Proofs
theorem bX : cQ Tryd.prog 72 [.string (⟨#[]⟩), .string (⟨#[]⟩), .ns, .ns, .ns, .bool false] := bv (by kernel_rfl)
theorem sH : aX Tryd.prog 17 := aJ (by kernel_rfl)
theorem gM : aX Tryd.prog 26 := aJ (by kernel_rfl)
theorem dz : aX Tryd.prog 39 := aJ (by kernel_rfl)
theorem dv : (Tryd.prog.info? 72).map (·.size) = some 6 := by kernel_rfl
theorem fV : aX Tryd.prog 28 := aJ (by kernel_rfl)
theorem p1 : FA 72 4 4 := fa (by kernel_rfl)
theorem lB : FA 72 5 5 := fa (by kernel_rfl)
theorem ji : gN Tryd.prog 72 6 := dR (by kernel_rfl)
theorem jX : FA 72 3 3 := fa (by kernel_rfl)
theorem my : cY Tryd.prog 65 := bz (by kernel_rfl)
theorem CK19 : aX Tryd.prog 19 := aJ (by kernel_rfl)
theorem TU65 : Tryd.prog.underlying 65 = some (.slice 67) := by kernel_rfl
theorem TB67 : (Tryd.prog.info? 67).map (fun i => (i.zero, i.size, i.bytes)) = some (some (.agg #[.u32 0, .u32 0, .u8 0, .u8 0, .bool false, .bool false, .bool false]), 7, 16) := by kernel_rfl
theorem nR {gb ob N C nh ch : Nat} {Ah : Option Addr} {xs hs : List Int} (big : Bool) (w : World) (hr : RI .u8 w (some ⟨gb, ob, none⟩) N xs) (hby : Byt xs) (hNC : N ≤ C) (hN : N < 10485760) (hrh : RI .u8 w Ah nh hs) (hbh : Byt hs) (hch : nh ≤ ch) (hnh : nh < 10485760) :
 Calls Tryd.prog 40 #[.sl gb ob N C, .bool big, .bool false, .slice Ah nh ch] w fun e w' => (∃ s3 : SecD, 68 ≤ nh ∧ dt big xs (dC false big (hs.take 68)) = some s3 ∧ ∃ (x : PartV) (D : Res), x.p = s3.part N xs ∧ e = .returned (.tuple #[.agg (List.toArray x.cellsM), .bool true]) ∧ St w aW [D] w' ∧ ∀ w, D.φ w → RI .u8 w (some ⟨gb, ob, none⟩) N xs → x.ok w) ∨ ((nh < 68 ∨ dt big xs (dC false big (hs.take 68)) = none) ∧ e = .returned (.tuple #[.agg (List.toArray [.string (⟨#[]⟩), .string (⟨#[]⟩), .ns, .ns, .ns, .bool false]), .bool false]) ∧ St w aW [] w') := by
 refine a5 (args := [.sl gb ob N C, .bool big, .bool false, .slice Ah nh ch]) Tryd.func40 rfl rfl rfl ?_
 have H0 := St.nil w aW
 refine sr (wm rfl (aK H0 bX (fun g1 w2 hgg1 H3 =>  av (.bool false) rfl (wn (ad ?_)))))
 by_cases hfit : 68 ≤ nh
 ·
  obtain ⟨gh, oh, rfl, _⟩ := hrh.2 (by omega)
  obtain ⟨zs, hzs⟩ : ∃ q, q = hs.take 68 := ⟨_, rfl⟩
  have hbzs : Byt zs := by rw [hzs]; exact hbh.take _
  obtain ⟨z1, hz1⟩ : ∃ q : Nat, (q : Int) = n4 big (zs.drop 36) := ⟨(n4 big (zs.drop 36)).toNat, Int.toNat_of_nonneg (aR big (hbzs.drop _)).1⟩
  have hltz1 : (z1 : Int) < 4294967296 := by rw [hz1]; exact (aR big (hbzs.drop _)).2
  obtain ⟨z2, hz2⟩ : ∃ q : Nat, (q : Int) = n4 big (zs.drop 40) := ⟨(n4 big (zs.drop 40)).toNat, Int.toNat_of_nonneg (aR big (hbzs.drop _)).1⟩
  have hltz2 : (z2 : Int) < 4294967296 := by rw [hz2]; exact (aR big (hbzs.drop _)).2
  obtain ⟨z3, hz3⟩ : ∃ q : Nat, (q : Int) = n4 big (zs.drop 48) := ⟨(n4 big (zs.drop 48)).toNat, Int.toNat_of_nonneg (aR big (hbzs.drop _)).1⟩
  have hltz3 : (z3 : Int) < 4294967296 := by rw [hz3]; exact (aR big (hbzs.drop _)).2
  obtain ⟨z4, hz4⟩ : ∃ q : Nat, (q : Int) = n4 big (zs.drop 52) := ⟨(n4 big (zs.drop 52)).toNat, Int.toNat_of_nonneg (aR big (hbzs.drop _)).1⟩
  have hltz4 : (z4 : Int) < 4294967296 := by rw [hz4]; exact (aR big (hbzs.drop _)).2
  have hs2 : dC false big zs = (⟨a9 ((zs.drop 0).take 16), a9 ((zs.drop 16).take 16), n4 big (zs.drop 32), z1, z2, n4 big (zs.drop 44), ↑z3, ↑z4, n4 big (zs.drop 56), []⟩ : SecD) := by simp only [dC, ← hz1, ← hz2, ← hz3, ← hz4, Int.toNat_natCast, if_true, if_false, Bool.false_eq_true]
  have hNL := me hbh (show zs = hs.take (eQ false) from hzs) hs2
  have e16 : (hs.take 16) = (zs.drop 0).take 16 := by rw [hzs, kr (by omega)]; rfl
  have e32 : (hs.drop 16).take 16 = (zs.drop 16).take 16 := by rw [hzs, kr (by omega)]
  refine ae (mv (.bool big) rfl (mv (.bool false) rfl (wE [.bool false] sH rfl rfl (aa (ew _) ?_))))
  rintro e w5 ⟨AW, nW, cW, DW, rfl, hcW, HS4, hDW⟩
  have H6 := H3.cal0 HS4
  refine ⟨_, rfl, ?_⟩
  refine ms gh oh nh ch rfl (wE [.bool big, .slice AW nW cW, .sl gh oh nh ch] gM rfl rfl (aa (db (ws := fZ false) (bs := hs) big _ (hDW _ (H6.g 0 rfl)) (iK _) (hrh.keep0 H6.keep) hch (by omega) hbh (by decide) (K := 9) (show 68 ≤ nh from hfit) (mc false big hs) (by omega)) ?_))
  rintro e w8 ⟨gn, on, cB, Dn, rfl, hcB, HS7, hDn0⟩
  rw [hNL] at hDn0
  have H9 := H6.cal0 HS7
  have hDn : ∀ w, Dn.φ w → RI .u64 w (some ⟨gn, on, none⟩) 9 ([n4 big (zs.drop 32), ↑z1, ↑z2, n4 big (zs.drop 44), ↑z3, ↑z4, n4 big (zs.drop 56)] ++ (bp big (fZ false) hs).drop 7) := hDn0
  refine ⟨_, rfl, ?_⟩
  refine mv (.tuple #[.sl gn on 9 cB, .bool true]) rfl (we (.sl gn on 9 cB) rfl rfl (we (.bool true) rfl rfl (eh gn on 9 cB rfl (av (.bool true) rfl (wn (ad (sr (mv (.bool true) rfl (wv rfl (bB rfl) (wn (aj rfl ?_)))))))))))
  refine wk ?_
  refine fm (fun ρ w' => ∃ (g8 gp : Nat) (Av : Option Addr) (cv : Nat), ρ 0 = .sl gb ob N C ∧ ρ 1 = .bool big ∧ ρ 8 = .pt g8 ∧ ρ 10 = .sl gn on 9 cB ∧ ρ 12 = .pt gp ∧ St w aW [aq gp [.str (a9 ((zs.drop 0).take 16)), .str (a9 ((zs.drop 16).take 16)), .sl gn on 7 cB, .slice Av 0 cv, .ns, .bool false] 72, aH 67 7 (.slice Av 0 cv) 0 ([]), Dn, aq g8 [.string (⟨#[]⟩), .string (⟨#[]⟩), .ns, .ns, .ns, .bool false] 72] w') ?_ ?_
  ·
   have H10 := H9.drew
   refine aO MX (fun w' => True) (Pl.take 0 (Pl.take 1 (Pl.take 3 (Pl.take 4 (Pl.take 6 (Pl.take 7 (Pl.run3 2 (Pl.run3 5 (Pl.run2 8 (Pl.take 9 (Pl.run 10 (Pl.run 11 Pl.done))) 10 (Pl.run 8 (Pl.take 9 (Pl.run 11 Pl.done)))) 8 (Pl.run2 5 (Pl.take 9 (Pl.run 10 (Pl.run 11 Pl.done))) 10 (Pl.run 5 (Pl.take 9 (Pl.run 11 Pl.done)))) 10 (Pl.run2 5 (Pl.run 8 (Pl.take 9 (Pl.run 11 Pl.done))) 8 (Pl.run 5 (Pl.take 9 (Pl.run 11 Pl.done))))) 8 (Pl.run2 2 (Pl.run2 5 (Pl.take 9 (Pl.run 10 (Pl.run 11 Pl.done))) 10 (Pl.run 5 (Pl.take 9 (Pl.run 11 Pl.done)))) 10 (Pl.run 2 (Pl.run 5 (Pl.take 9 (Pl.run 11 Pl.done))))) 10 (Pl.run2 2 (Pl.run2 5 (Pl.run 8 (Pl.take 9 (Pl.run 11 Pl.done))) 8 (Pl.run 5 (Pl.take 9 (Pl.run 11 Pl.done)))) 8 (Pl.run 2 (Pl.run 5 (Pl.take 9 (Pl.run 11 Pl.done)))))))))))) (by kernel_rfl) (trivial) (qm (.sl gh oh nh ch) rfl rfl (qt rfl (fun _ hS => (am (l := 0) (h := 16) aU rfl bn (bs rfl (by omega) rfl) (by omega) (by omega) (by omega) (by omega) : Yv _ _ _ _ (.sl gh oh 16 ch) _)) (qm (.sl gh oh nh ch) rfl rfl (qt rfl (fun _ hS => (am (l := 16) (h := 32) aU rfl (bs rfl (by omega) rfl) (bs rfl (by omega) rfl) (by omega) (by omega) (by omega) (by omega) : Yv _ _ _ _ (.sl gh (oh + 16) 16 (ch - 16)) _)) (qm (.sl gn on 9 cB) rfl rfl (qt rfl (fun _ hS => (am (l := 0) (h := 7) bA rfl bn (bs rfl (by omega) rfl) (by omega) (by omega) (by omega) (by omega) : Yv _ _ _ _ (.sl gn on 7 cB) _)) ?_))))))
   refine ⟨?_, ?_, ?_⟩
   ·
    refine po rfl (ec dz (args := [.sl gh oh 16 ch]) rfl (aa (by have h := bG _ ((hrh.keep0 H10.keep).take (m := 16) (by omega)) (c := ch) (by omega) (by omega); rw [e16] at h; exact h) ?_))
    rintro e w12 ⟨rfl, HS11⟩
    have H13 := H10.cal0 HS11
    refine ⟨_, rfl, ?_⟩
    refine ⟨trivial, fun _ => trivial, ?_⟩
    refine ⟨?_, ?_, ?_⟩
    ·
     refine po rfl (ec dz (args := [.sl gh (oh + 16) 16 (ch - 16)]) rfl (aa (by have h := bG _ (((hrh.keep0 H13.keep).drop_ 16).take (m := 16) (by omega)) (c := ch - 16) (by omega) (by omega); rw [e32] at h; exact h) ?_))
     rintro e w15 ⟨rfl, HS14⟩
     have H16 := H13.cal0 HS14
     refine ⟨_, rfl, ?_⟩
     refine ⟨trivial, fun _ => trivial, ?_⟩
     refine ⟨?_, ?_⟩
     ·
      refine po rfl (eb H16 67 [] rfl (by kernel_rfl) (fun g17 w18 hgg17 H19 =>  ?_))
      refine ⟨trivial, fun _ => trivial, ?_⟩
      refine qy rfl (yb (ps := [(0, .str (a9 ((zs.drop 0).take 16))), (1, .str (a9 ((zs.drop 16).take 16))), (2, .sl gn on 7 cB), (3, .sl g17 0 0 0)]) (cells := #[.str (a9 ((zs.drop 0).take 16)), .str (a9 ((zs.drop 16).take 16)), .sl gn on 7 cB, .sl g17 0 0 0, .ns, .bool false]) rfl (by kernel_rfl)) (qr rfl (aK H19 bX (fun g20 w21 hgg20 H22 =>  ?_)))
      refine ⟨trivial, fun _ => trivial, ?_⟩
      refine dx rfl (eN H22 0 [.str (a9 ((zs.drop 0).take 16)), .str (a9 ((zs.drop 16).take 16)), .sl gn on 7 cB, .sl g17 0 0 0, .ns, .bool false] rfl dv (fun w24 H23 =>  ?_))
      refine ⟨trivial, fun _ => trivial, ?_⟩
      refine pn ?_
      exact ⟨_, _, _, _, rfl, rfl, rfl, rfl, rfl, (H23.rowOf (i := 1) (cap := 0) (sz := 7) rfl rfl (by simp [maxLen])).re [0, 1, 2, 4]⟩
     ·
      refine po rfl (aK H16 bX (fun g25 w26 hgg25 H27 =>  ?_))
      refine ⟨trivial, fun _ => trivial, ?_⟩
      refine qr rfl (eb H27 67 [] rfl (by kernel_rfl) (fun g28 w29 hgg28 H30 =>  ?_))
      refine ⟨trivial, fun _ => trivial, ?_⟩
      refine qy rfl (yb (ps := [(0, .str (a9 ((zs.drop 0).take 16))), (1, .str (a9 ((zs.drop 16).take 16))), (2, .sl gn on 7 cB), (3, .sl g28 0 0 0)]) (cells := #[.str (a9 ((zs.drop 0).take 16)), .str (a9 ((zs.drop 16).take 16)), .sl gn on 7 cB, .sl g28 0 0 0, .ns, .bool false]) rfl (by kernel_rfl)) (dx rfl (eN H30 1 [.str (a9 ((zs.drop 0).take 16)), .str (a9 ((zs.drop 16).take 16)), .sl gn on 7 cB, .sl g28 0 0 0, .ns, .bool false] rfl dv (fun w32 H31 =>  ?_)))
      refine ⟨trivial, fun _ => trivial, ?_⟩
      refine pn ?_
      exact ⟨_, _, _, _, rfl, rfl, rfl, rfl, rfl, (H31.rowOf (i := 0) (cap := 0) (sz := 7) rfl rfl (by simp [maxLen])).re [1, 0, 2, 4]⟩
    ·
     refine po rfl (eb H13 67 [] rfl (by kernel_rfl) (fun g33 w34 hgg33 H35 =>  ?_))
     refine ⟨trivial, fun _ => trivial, ?_⟩
     refine ⟨?_, ?_⟩
     ·
      refine po rfl (ec dz (args := [.sl gh (oh + 16) 16 (ch - 16)]) rfl (aa (by have h := bG _ (((hrh.keep0 H35.keep).drop_ 16).take (m := 16) (by omega)) (c := ch - 16) (by omega) (by omega); rw [e32] at h; exact h) ?_))
      rintro e w37 ⟨rfl, HS36⟩
      have H38 := H35.cal0 HS36
      refine ⟨_, rfl, ?_⟩
      refine ⟨trivial, fun _ => trivial, ?_⟩
      refine qy rfl (yb (ps := [(0, .str (a9 ((zs.drop 0).take 16))), (1, .str (a9 ((zs.drop 16).take 16))), (2, .sl gn on 7 cB), (3, .sl g33 0 0 0)]) (cells := #[.str (a9 ((zs.drop 0).take 16)), .str (a9 ((zs.drop 16).take 16)), .sl gn on 7 cB, .sl g33 0 0 0, .ns, .bool false]) rfl (by kernel_rfl)) (qr rfl (aK H38 bX (fun g39 w40 hgg39 H41 =>  ?_)))
      refine ⟨trivial, fun _ => trivial, ?_⟩
      refine dx rfl (eN H41 0 [.str (a9 ((zs.drop 0).take 16)), .str (a9 ((zs.drop 16).take 16)), .sl gn on 7 cB, .sl g33 0 0 0, .ns, .bool false] rfl dv (fun w43 H42 =>  ?_))
      refine ⟨trivial, fun _ => trivial, ?_⟩
      refine pn ?_
      exact ⟨_, _, _, _, rfl, rfl, rfl, rfl, rfl, (H42.rowOf (i := 1) (cap := 0) (sz := 7) rfl rfl (by simp [maxLen])).re [0, 1, 2, 4]⟩
     ·
      refine po rfl (aK H35 bX (fun g44 w45 hgg44 H46 =>  ?_))
      refine ⟨trivial, fun _ => trivial, ?_⟩
      refine qr rfl (ec dz (args := [.sl gh (oh + 16) 16 (ch - 16)]) rfl (aa (by have h := bG _ (((hrh.keep0 H46.keep).drop_ 16).take (m := 16) (by omega)) (c := ch - 16) (by omega) (by omega); rw [e32] at h; exact h) ?_))
      rintro e w48 ⟨rfl, HS47⟩
      have H49 := H46.cal0 HS47
      refine ⟨_, rfl, ?_⟩
      refine ⟨trivial, fun _ => trivial, ?_⟩
      refine qy rfl (yb (ps := [(0, .str (a9 ((zs.drop 0).take 16))), (1, .str (a9 ((zs.drop 16).take 16))), (2, .sl gn on 7 cB), (3, .sl g33 0 0 0)]) (cells := #[.str (a9 ((zs.drop 0).take 16)), .str (a9 ((zs.drop 16).take 16)), .sl gn on 7 cB, .sl g33 0 0 0, .ns, .bool false]) rfl (by kernel_rfl)) (dx rfl (eN H49 0 [.str (a9 ((zs.drop 0).take 16)), .str (a9 ((zs.drop 16).take 16)), .sl gn on 7 cB, .sl g33 0 0 0, .ns, .bool false] rfl dv (fun w51 H50 =>  ?_)))
      refine ⟨trivial, fun _ => trivial, ?_⟩
      refine pn ?_
      exact ⟨_, _, _, _, rfl, rfl, rfl, rfl, rfl, (H50.rowOf (i := 1) (cap := 0) (sz := 7) rfl rfl (by simp [maxLen])).re [0, 1, 2, 4]⟩
    ·
     refine po rfl (aK H13 bX (fun g52 w53 hgg52 H54 =>  ?_))
     refine ⟨trivial, fun _ => trivial, ?_⟩
     refine ⟨?_, ?_⟩
     ·
      refine po rfl (ec dz (args := [.sl gh (oh + 16) 16 (ch - 16)]) rfl (aa (by have h := bG _ (((hrh.keep0 H54.keep).drop_ 16).take (m := 16) (by omega)) (c := ch - 16) (by omega) (by omega); rw [e32] at h; exact h) ?_))
      rintro e w56 ⟨rfl, HS55⟩
      have H57 := H54.cal0 HS55
      refine ⟨_, rfl, ?_⟩
      refine ⟨trivial, fun _ => trivial, ?_⟩
      refine qr rfl (eb H57 67 [] rfl (by kernel_rfl) (fun g58 w59 hgg58 H60 =>  ?_))
      refine ⟨trivial, fun _ => trivial, ?_⟩
      refine qy rfl (yb (ps := [(0, .str (a9 ((zs.drop 0).take 16))), (1, .str (a9 ((zs.drop 16).take 16))), (2, .sl gn on 7 cB), (3, .sl g58 0 0 0)]) (cells := #[.str (a9 ((zs.drop 0).take 16)), .str (a9 ((zs.drop 16).take 16)), .sl gn on 7 cB, .sl g58 0 0 0, .ns, .bool false]) rfl (by kernel_rfl)) (dx rfl (eN H60 1 [.str (a9 ((zs.drop 0).take 16)), .str (a9 ((zs.drop 16).take 16)), .sl gn on 7 cB, .sl g58 0 0 0, .ns, .bool false] rfl dv (fun w62 H61 =>  ?_)))
      refine ⟨trivial, fun _ => trivial, ?_⟩
      refine pn ?_
      exact ⟨_, _, _, _, rfl, rfl, rfl, rfl, rfl, (H61.rowOf (i := 0) (cap := 0) (sz := 7) rfl rfl (by simp [maxLen])).re [1, 0, 2, 4]⟩
     ·
      refine po rfl (eb H54 67 [] rfl (by kernel_rfl) (fun g63 w64 hgg63 H65 =>  ?_))
      refine ⟨trivial, fun _ => trivial, ?_⟩
      refine qr rfl (ec dz (args := [.sl gh (oh + 16) 16 (ch - 16)]) rfl (aa (by have h := bG _ (((hrh.keep0 H65.keep).drop_ 16).take (m := 16) (by omega)) (c := ch - 16) (by omega) (by omega); rw [e32] at h; exact h) ?_))
      rintro e w67 ⟨rfl, HS66⟩
      have H68 := H65.cal0 HS66
      refine ⟨_, rfl, ?_⟩
      refine ⟨trivial, fun _ => trivial, ?_⟩
      refine qy rfl (yb (ps := [(0, .str (a9 ((zs.drop 0).take 16))), (1, .str (a9 ((zs.drop 16).take 16))), (2, .sl gn on 7 cB), (3, .sl g63 0 0 0)]) (cells := #[.str (a9 ((zs.drop 0).take 16)), .str (a9 ((zs.drop 16).take 16)), .sl gn on 7 cB, .sl g63 0 0 0, .ns, .bool false]) rfl (by kernel_rfl)) (dx rfl (eN H68 1 [.str (a9 ((zs.drop 0).take 16)), .str (a9 ((zs.drop 16).take 16)), .sl gn on 7 cB, .sl g63 0 0 0, .ns, .bool false] rfl dv (fun w70 H69 =>  ?_)))
      refine ⟨trivial, fun _ => trivial, ?_⟩
      refine pn ?_
      exact ⟨_, _, _, _, rfl, rfl, rfl, rfl, rfl, (H69.rowOf (i := 0) (cap := 0) (sz := 7) rfl rfl (by simp [maxLen])).re [1, 0, 2, 4]⟩
   ·
    refine po rfl (eb H10 67 [] rfl (by kernel_rfl) (fun g71 w72 hgg71 H73 =>  ?_))
    refine ⟨trivial, fun _ => trivial, ?_⟩
    refine ⟨?_, ?_⟩
    ·
     refine po rfl (ec dz (args := [.sl gh oh 16 ch]) rfl (aa (by have h := bG _ ((hrh.keep0 H73.keep).take (m := 16) (by omega)) (c := ch) (by omega) (by omega); rw [e16] at h; exact h) ?_))
     rintro e w75 ⟨rfl, HS74⟩
     have H76 := H73.cal0 HS74
     refine ⟨_, rfl, ?_⟩
     refine ⟨trivial, fun _ => trivial, ?_⟩
     refine ⟨?_, ?_⟩
     ·
      refine po rfl (ec dz (args := [.sl gh (oh + 16) 16 (ch - 16)]) rfl (aa (by have h := bG _ (((hrh.keep0 H76.keep).drop_ 16).take (m := 16) (by omega)) (c := ch - 16) (by omega) (by omega); rw [e32] at h; exact h) ?_))
      rintro e w78 ⟨rfl, HS77⟩
      have H79 := H76.cal0 HS77
      refine ⟨_, rfl, ?_⟩
      refine ⟨trivial, fun _ => trivial, ?_⟩
      refine qy rfl (yb (ps := [(0, .str (a9 ((zs.drop 0).take 16))), (1, .str (a9 ((zs.drop 16).take 16))), (2, .sl gn on 7 cB), (3, .sl g71 0 0 0)]) (cells := #[.str (a9 ((zs.drop 0).take 16)), .str (a9 ((zs.drop 16).take 16)), .sl gn on 7 cB, .sl g71 0 0 0, .ns, .bool false]) rfl (by kernel_rfl)) (qr rfl (aK H79 bX (fun g80 w81 hgg80 H82 =>  ?_)))
      refine ⟨trivial, fun _ => trivial, ?_⟩
      refine dx rfl (eN H82 0 [.str (a9 ((zs.drop 0).take 16)), .str (a9 ((zs.drop 16).take 16)), .sl gn on 7 cB, .sl g71 0 0 0, .ns, .bool false] rfl dv (fun w84 H83 =>  ?_))
      refine ⟨trivial, fun _ => trivial, ?_⟩
      refine pn ?_
      exact ⟨_, _, _, _, rfl, rfl, rfl, rfl, rfl, (H83.rowOf (i := 1) (cap := 0) (sz := 7) rfl rfl (by simp [maxLen])).re [0, 1, 2, 4]⟩
     ·
      refine po rfl (aK H76 bX (fun g85 w86 hgg85 H87 =>  ?_))
      refine ⟨trivial, fun _ => trivial, ?_⟩
      refine qr rfl (ec dz (args := [.sl gh (oh + 16) 16 (ch - 16)]) rfl (aa (by have h := bG _ (((hrh.keep0 H87.keep).drop_ 16).take (m := 16) (by omega)) (c := ch - 16) (by omega) (by omega); rw [e32] at h; exact h) ?_))
      rintro e w89 ⟨rfl, HS88⟩
      have H90 := H87.cal0 HS88
      refine ⟨_, rfl, ?_⟩
      refine ⟨trivial, fun _ => trivial, ?_⟩
      refine qy rfl (yb (ps := [(0, .str (a9 ((zs.drop 0).take 16))), (1, .str (a9 ((zs.drop 16).take 16))), (2, .sl gn on 7 cB), (3, .sl g71 0 0 0)]) (cells := #[.str (a9 ((zs.drop 0).take 16)), .str (a9 ((zs.drop 16).take 16)), .sl gn on 7 cB, .sl g71 0 0 0, .ns, .bool false]) rfl (by kernel_rfl)) (dx rfl (eN H90 0 [.str (a9 ((zs.drop 0).take 16)), .str (a9 ((zs.drop 16).take 16)), .sl gn on 7 cB, .sl g71 0 0 0, .ns, .bool false] rfl dv (fun w92 H91 =>  ?_)))
      refine ⟨trivial, fun _ => trivial, ?_⟩
      refine pn ?_
      exact ⟨_, _, _, _, rfl, rfl, rfl, rfl, rfl, (H91.rowOf (i := 1) (cap := 0) (sz := 7) rfl rfl (by simp [maxLen])).re [0, 1, 2, 4]⟩
    ·
     refine po rfl (aK H73 bX (fun g93 w94 hgg93 H95 =>  ?_))
     refine ⟨trivial, fun _ => trivial, ?_⟩
     refine qr rfl (ec dz (args := [.sl gh oh 16 ch]) rfl (aa (by have h := bG _ ((hrh.keep0 H95.keep).take (m := 16) (by omega)) (c := ch) (by omega) (by omega); rw [e16] at h; exact h) ?_))
     rintro e w97 ⟨rfl, HS96⟩
     have H98 := H95.cal0 HS96
     refine ⟨_, rfl, ?_⟩
     refine ⟨trivial, fun _ => trivial, ?_⟩
     refine qr rfl (ec dz (args := [.sl gh (oh + 16) 16 (ch - 16)]) rfl (aa (by have h := bG _ (((hrh.keep0 H98.keep).drop_ 16).take (m := 16) (by omega)) (c := ch - 16) (by omega) (by omega); rw [e32] at h; exact h) ?_))
     rintro e w100 ⟨rfl, HS99⟩
     have H101 := H98.cal0 HS99
     refine ⟨_, rfl, ?_⟩
     refine ⟨trivial, fun _ => trivial, ?_⟩
     refine qy rfl (yb (ps := [(0, .str (a9 ((zs.drop 0).take 16))), (1, .str (a9 ((zs.drop 16).take 16))), (2, .sl gn on 7 cB), (3, .sl g71 0 0 0)]) (cells := #[.str (a9 ((zs.drop 0).take 16)), .str (a9 ((zs.drop 16).take 16)), .sl gn on 7 cB, .sl g71 0 0 0, .ns, .bool false]) rfl (by kernel_rfl)) (dx rfl (eN H101 0 [.str (a9 ((zs.drop 0).take 16)), .str (a9 ((zs.drop 16).take 16)), .sl gn on 7 cB, .sl g71 0 0 0, .ns, .bool false] rfl dv (fun w103 H102 =>  ?_)))
     refine ⟨trivial, fun _ => trivial, ?_⟩
     refine pn ?_
     exact ⟨_, _, _, _, rfl, rfl, rfl, rfl, rfl, (H102.rowOf (i := 1) (cap := 0) (sz := 7) rfl rfl (by simp [maxLen])).re [0, 1, 2, 4]⟩
   ·
    refine po rfl (aK H10 bX (fun g104 w105 hgg104 H106 =>  ?_))
    refine ⟨trivial, fun _ => trivial, ?_⟩
    refine ⟨?_, ?_⟩
    ·
     refine po rfl (ec dz (args := [.sl gh oh 16 ch]) rfl (aa (by have h := bG _ ((hrh.keep0 H106.keep).take (m := 16) (by omega)) (c := ch) (by omega) (by omega); rw [e16] at h; exact h) ?_))
     rintro e w108 ⟨rfl, HS107⟩
     have H109 := H106.cal0 HS107
     refine ⟨_, rfl, ?_⟩
     refine ⟨trivial, fun _ => trivial, ?_⟩
     refine ⟨?_, ?_⟩
     ·
      refine po rfl (ec dz (args := [.sl gh (oh + 16) 16 (ch - 16)]) rfl (aa (by have h := bG _ (((hrh.keep0 H109.keep).drop_ 16).take (m := 16) (by omega)) (c := ch - 16) (by omega) (by omega); rw [e32] at h; exact h) ?_))
      rintro e w111 ⟨rfl, HS110⟩
      have H112 := H109.cal0 HS110
      refine ⟨_, rfl, ?_⟩
      refine ⟨trivial, fun _ => trivial, ?_⟩
      refine qr rfl (eb H112 67 [] rfl (by kernel_rfl) (fun g113 w114 hgg113 H115 =>  ?_))
      refine ⟨trivial, fun _ => trivial, ?_⟩
      refine qy rfl (yb (ps := [(0, .str (a9 ((zs.drop 0).take 16))), (1, .str (a9 ((zs.drop 16).take 16))), (2, .sl gn on 7 cB), (3, .sl g113 0 0 0)]) (cells := #[.str (a9 ((zs.drop 0).take 16)), .str (a9 ((zs.drop 16).take 16)), .sl gn on 7 cB, .sl g113 0 0 0, .ns, .bool false]) rfl (by kernel_rfl)) (dx rfl (eN H115 1 [.str (a9 ((zs.drop 0).take 16)), .str (a9 ((zs.drop 16).take 16)), .sl gn on 7 cB, .sl g113 0 0 0, .ns, .bool false] rfl dv (fun w117 H116 =>  ?_)))
      refine ⟨trivial, fun _ => trivial, ?_⟩
      refine pn ?_
      exact ⟨_, _, _, _, rfl, rfl, rfl, rfl, rfl, (H116.rowOf (i := 0) (cap := 0) (sz := 7) rfl rfl (by simp [maxLen])).re [1, 0, 2, 4]⟩
     ·
      refine po rfl (eb H109 67 [] rfl (by kernel_rfl) (fun g118 w119 hgg118 H120 =>  ?_))
      refine ⟨trivial, fun _ => trivial, ?_⟩
      refine qr rfl (ec dz (args := [.sl gh (oh + 16) 16 (ch - 16)]) rfl (aa (by have h := bG _ (((hrh.keep0 H120.keep).drop_ 16).take (m := 16) (by omega)) (c := ch - 16) (by omega) (by omega); rw [e32] at h; exact h) ?_))
      rintro e w122 ⟨rfl, HS121⟩
      have H123 := H120.cal0 HS121
      refine ⟨_, rfl, ?_⟩
      refine ⟨trivial, fun _ => trivial, ?_⟩
      refine qy rfl (yb (ps := [(0, .str (a9 ((zs.drop 0).take 16))), (1, .str (a9 ((zs.drop 16).take 16))), (2, .sl gn on 7 cB), (3, .sl g118 0 0 0)]) (cells := #[.str (a9 ((zs.drop 0).take 16)), .str (a9 ((zs.drop 16).take 16)), .sl gn on 7 cB, .sl g118 0 0 0, .ns, .bool false]) rfl (by kernel_rfl)) (dx rfl (eN H123 1 [.str (a9 ((zs.drop 0).take 16)), .str (a9 ((zs.drop 16).take 16)), .sl gn on 7 cB, .sl g118 0 0 0, .ns, .bool false] rfl dv (fun w125 H124 =>  ?_)))
      refine ⟨trivial, fun _ => trivial, ?_⟩
      refine pn ?_
      exact ⟨_, _, _, _, rfl, rfl, rfl, rfl, rfl, (H124.rowOf (i := 0) (cap := 0) (sz := 7) rfl rfl (by simp [maxLen])).re [1, 0, 2, 4]⟩
    ·
     refine po rfl (eb H106 67 [] rfl (by kernel_rfl) (fun g126 w127 hgg126 H128 =>  ?_))
     refine ⟨trivial, fun _ => trivial, ?_⟩
     refine qr rfl (ec dz (args := [.sl gh oh 16 ch]) rfl (aa (by have h := bG _ ((hrh.keep0 H128.keep).take (m := 16) (by omega)) (c := ch) (by omega) (by omega); rw [e16] at h; exact h) ?_))
     rintro e w130 ⟨rfl, HS129⟩
     have H131 := H128.cal0 HS129
     refine ⟨_, rfl, ?_⟩
     refine ⟨trivial, fun _ => trivial, ?_⟩
     refine qr rfl (ec dz (args := [.sl gh (oh + 16) 16 (ch - 16)]) rfl (aa (by have h := bG _ (((hrh.keep0 H131.keep).drop_ 16).take (m := 16) (by omega)) (c := ch - 16) (by omega) (by omega); rw [e32] at h; exact h) ?_))
     rintro e w133 ⟨rfl, HS132⟩
     have H134 := H131.cal0 HS132
     refine ⟨_, rfl, ?_⟩
     refine ⟨trivial, fun _ => trivial, ?_⟩
     refine qy rfl (yb (ps := [(0, .str (a9 ((zs.drop 0).take 16))), (1, .str (a9 ((zs.drop 16).take 16))), (2, .sl gn on 7 cB), (3, .sl g126 0 0 0)]) (cells := #[.str (a9 ((zs.drop 0).take 16)), .str (a9 ((zs.drop 16).take 16)), .sl gn on 7 cB, .sl g126 0 0 0, .ns, .bool false]) rfl (by kernel_rfl)) (dx rfl (eN H134 1 [.str (a9 ((zs.drop 0).take 16)), .str (a9 ((zs.drop 16).take 16)), .sl gn on 7 cB, .sl g126 0 0 0, .ns, .bool false] rfl dv (fun w136 H135 =>  ?_)))
     refine ⟨trivial, fun _ => trivial, ?_⟩
     refine pn ?_
     exact ⟨_, _, _, _, rfl, rfl, rfl, rfl, rfl, (H135.rowOf (i := 0) (cap := 0) (sz := 7) rfl rfl (by simp [maxLen])).re [1, 0, 2, 4]⟩
  ·
   rintro ρ2 w2 ⟨g8, gp, Av, cv, g0, g1, g8e, g10, g12, H2⟩
   refine ad ?_
   have H137 := H2.drew
   refine aO MX (fun w' => w'.cell? ⟨gn, on + 2, none⟩ = some (.u64 (↑z2)) ∧ w'.cell? ⟨gn, on + 1, none⟩ = some (.u64 (↑z1))) (tr 0 8 Pl.done) (by kernel_rfl) (⟨(hDn _ (H137.g 2 rfl)).cellAt 2 (by omega), (hDn _ (H137.g 2 rfl)).cellAt 1 (by omega)⟩) (qm (.sl gn on 9 cB) rfl g10 (qy rfl (aI (a := ⟨gn, on, none⟩) (i := 2) bA rfl rfl (by omega) (by omega)) (qh rfl (fun hS => ah aM rfl hS.1) (qm (.sl gn on 9 cB) rfl g10 (qy rfl (aI (a := ⟨gn, on, none⟩) (i := 1) bA rfl rfl (by omega) (by omega)) (qh rfl (fun hS => ah aM rfl hS.2) (qa (.u64 (↑z2)) rfl rfl (qa (.u64 (↑z1)) rfl rfl (pn ?_)))))))))
   refine fm (fun ρ w' => ∃ (g8 gp : Nat) (Av : Option Addr) (cv : Nat) (okb : Bool) (vd : Value), okb = decide (z1 = 0 ∨ z2 + z1 ≤ N) ∧ (∀ w, RI .u8 w (some ⟨gb, ob, none⟩) N xs → SlI' .u8 w vd (if (z1 = 0 ∨ z2 + z1 ≤ N) then (xs.drop z2).take z1 else [])) ∧ ρ 0 = .sl gb ob N C ∧ ρ 1 = .bool big ∧ ρ 8 = .pt g8 ∧ ρ 10 = .sl gn on 9 cB ∧ ρ 12 = .pt gp ∧ St w aW [aq gp [.str (a9 ((zs.drop 0).take 16)), .str (a9 ((zs.drop 16).take 16)), .sl gn on 7 cB, .slice Av 0 cv, vd, .bool (!okb)] 72, aH 67 7 (.slice Av 0 cv) 0 ([]), Dn, aq g8 [.string (⟨#[]⟩), .string (⟨#[]⟩), .ns, .ns, .ns, .bool false] 72] w') ?_ ?_
   ·
    refine ad ?_
    by_cases hF : (z1 = 0 ∨ z2 + z1 ≤ N)
    ·
     obtain ⟨m0, hm0⟩ : ∃ m, m = min z2 N := ⟨_, rfl⟩
     obtain ⟨m1, hm1⟩ : ∃ m, m = min (z2 + z1) N := ⟨_, rfl⟩
     refine ae (mu (↑z1) rfl (mg g0 rfl (wv rfl (ba co rfl) (wv rfl (an eL be rfl (a6 (by omega) (by omega))) (wv rfl (fH rfl rfl (decide_eq_true (by omega))) (mv (.bool true) rfl (aP rfl rfl (al (v := .sl gb ob N C) g0) (aP rfl rfl (al (v := .u64 (↑z2)) rfl) (aP rfl rfl (al (v := .u64 (↑z1)) rfl) (sJ rfl rfl (ec fV (args := [.sl gb ob N C, .u64 (↑z2), .u64 (↑z1)]) rfl ?_)))))))))))
     refine aa (cZ _ (by omega) (by omega) hF) ?_
     rintro e w139 ⟨rfl, HS138⟩
     have H140 := H137.cal0 HS138
     refine ⟨_, rfl, ?_⟩
     refine wv rfl (aD (b := true) (v := .bool true) rfl rfl) (wn (ay rfl (ae (mg g0 rfl (mu (↑z2) rfl (mg g0 rfl (wv rfl (ba co rfl) (wv rfl (an eL be rfl (a6 (by omega) (by omega))) (wv rfl (iu (c := ↑m0) rfl rfl (by split <;> omega)) (mu (↑z2) rfl (mu (↑z1) rfl ?_)))))))))))
     refine wv rfl (aT (k := .u64) (c := ↑(z2 + z1)) rfl rfl (by rw [a6 (by omega) (by omega)]; omega)) (mg g0 rfl (wv rfl (ba co rfl) (wv rfl (an eL be rfl (a6 (by omega) (by omega))) (wv rfl (iu (c := ↑m1) rfl rfl (by split <;> omega)) (wv rfl ((show Yv _ _ _ _ (.slice (cR (some ⟨gb, ob, none⟩) C m0 1) (m1 - m0) (C - m0)) _ from dH (l := m0) (h := m1) aU rfl (bg rfl (by omega) (Int.toNat_natCast _)) (bg rfl (by omega) (Int.toNat_natCast _)) (by omega) (by omega))) (wv rfl (ab p1 g12) (ws (es H140 0 4 (.slice (cR (some ⟨gb, ob, none⟩) C m0 1) (m1 - m0) (C - m0)) rfl gB (fun w142 H141 =>  ?_)))))))))
     refine wn ?_
     have hv : ∀ w, RI .u8 w (some ⟨gb, ob, none⟩) N xs → SlI' .u8 w (.slice (cR (some ⟨gb, ob, none⟩) C m0 1) (m1 - m0) (C - m0)) (if (z1 = 0 ∨ z2 + z1 ≤ N) then (xs.drop z2).take z1 else []) := fun w hr => ⟨_, _, _, rfl, by
      rw [if_pos hF]; have h := hr.cut (c := C) (l := m0) (m := m1) (by omega) (by omega) hNC
      rcases hF with h0 | h0
      · have e0 : m1 - m0 = 0 := by omega
        rw [h0, List.take_zero]; rw [e0, List.take_zero] at h; rw [e0]; exact h
      · have e1 : m0 = z2 := by omega
        have e2 : m1 = z2 + z1 := by omega
        subst e1; subst e2; rw [Nat.add_sub_cancel_left] at h ⊢; exact h⟩
     exact ⟨_, _, _, _, true, _, (decide_eq_true hF).symm, hv, g0, g1, g8e, g10, g12, H141.re [0, 1, 2, 3]⟩
    ·
     by_cases hF2 : z1 ≤ N
     ·
      refine ae (mu (↑z1) rfl (mg g0 rfl (wv rfl (ba co rfl) (wv rfl (an eL be rfl (a6 (by omega) (by omega))) (wv rfl (fH rfl rfl (decide_eq_true (by omega))) (mv (.bool true) rfl (aP rfl rfl (al (v := .sl gb ob N C) g0) (aP rfl rfl (al (v := .u64 (↑z2)) rfl) (aP rfl rfl (al (v := .u64 (↑z1)) rfl) (sJ rfl rfl (ec fV (args := [.sl gb ob N C, .u64 (↑z2), .u64 (↑z1)]) rfl ?_)))))))))))
      refine aa (dj _ (by omega) (by omega) hF) ?_
      rintro e w144 ⟨rfl, HS143⟩
      have H145 := H137.cal0 HS143
      refine ⟨_, rfl, ?_⟩
      refine wv rfl (aD (b := true) (v := .bool false) rfl rfl) (wn (aj rfl (ae (wv rfl (ab lB g12) (ws (es H145 0 5 (.bool true) rfl cU (fun w147 H146 =>  ?_)))))))
      refine wn ?_
      have hv : ∀ w, RI .u8 w (some ⟨gb, ob, none⟩) N xs → SlI' .u8 w (.ns) (if (z1 = 0 ∨ z2 + z1 ≤ N) then (xs.drop z2).take z1 else []) := fun w hr => ⟨_, _, _, rfl, by rw [if_neg hF]; exact RI.nil _ _ _⟩
      exact ⟨_, _, _, _, false, _, (decide_eq_false hF).symm, hv, g0, g1, g8e, g10, g12, H146.re [0, 1, 2, 3]⟩
     ·
      refine ae (mu (↑z1) rfl (mg g0 rfl (wv rfl (ba co rfl) (wv rfl (an eL be rfl (a6 (by omega) (by omega))) (wv rfl (fH rfl rfl (decide_eq_false (by omega))) (mv (.bool false) rfl (cM rfl rfl (cM rfl rfl (cM rfl rfl (cM rfl rfl (wv rfl (aD (b := false) (v := .bool false) rfl rfl) ?_)))))))))))
      refine wn (aj rfl (ae (wv rfl (ab lB g12) (ws (es H137 0 5 (.bool true) rfl cU (fun w149 H148 =>  ?_))))))
      refine wn ?_
      have hv : ∀ w, RI .u8 w (some ⟨gb, ob, none⟩) N xs → SlI' .u8 w (.ns) (if (z1 = 0 ∨ z2 + z1 ≤ N) then (xs.drop z2).take z1 else []) := fun w hr => ⟨_, _, _, rfl, by rw [if_neg hF]; exact RI.nil _ _ _⟩
      exact ⟨_, _, _, _, false, _, (decide_eq_false hF).symm, hv, g0, g1, g8e, g10, g12, H148.re [0, 1, 2, 3]⟩
   ·
    rintro ρ3 w3 ⟨g8, gp, Av, cv, okb, vd, hokb, hvd, g0, g1, g8e, g10, g12, H3⟩
    obtain ⟨_, _, _, evd, _⟩ := hvd w hr
    refine ad ?_
    have H150 := H3.drew
    refine aO MX (fun w' => w'.cell? ⟨gn, on + 4, none⟩ = some (.u64 (↑z3)) ∧ w'.cell? ⟨gn, on + 5, none⟩ = some (.u64 (↑z4))) (tr 0 8 Pl.done) (by kernel_rfl) (⟨(hDn _ (H150.g 2 rfl)).cellAt 4 (by omega), (hDn _ (H150.g 2 rfl)).cellAt 5 (by omega)⟩) (qm (.sl gn on 9 cB) rfl g10 (qy rfl (aI (a := ⟨gn, on, none⟩) (i := 4) bA rfl rfl (by omega) (by omega)) (qh rfl (fun hS => ah aM rfl hS.1) (qm (.sl gn on 9 cB) rfl g10 (qy rfl (aI (a := ⟨gn, on, none⟩) (i := 5) bA rfl rfl (by omega) (by omega)) (qh rfl (fun hS => ah aM rfl hS.2) (qa (.u64 (↑z3)) rfl rfl (qa (.u64 (↑z4)) rfl rfl (pn (ad (ad ?_)))))))))))
    by_cases hz0 : z4 = 0
    ·
     refine ae (mu (↑z4) rfl (wv rfl (aL rfl rfl (beq_iff_eq.2 (by omega))) (wn (ay rfl (sr (wv rfl (H150.loadA (i := 0) (vs := [.str (a9 ((zs.drop 0).take 16)), .str (a9 ((zs.drop 16).take 16)), .sl gn on 7 cB, .slice Av 0 cv, vd, .bool (!okb)]) rfl ji g12 rfl rfl) (ws (bE H150 3 (vs := [.str (a9 ((zs.drop 0).take 16)), .str (a9 ((zs.drop 16).take 16)), .sl gn on 7 cB, .slice Av 0 cv, vd, .bool (!okb)]) (m := 6) rfl dv g8e rfl rfl (nl rfl) (by simp [Value.oneCell', evd]) (cs' := [.str (a9 ((zs.drop 0).take 16)), .str (a9 ((zs.drop 16).take 16)), .sl gn on 7 cB, .slice Av 0 cv, vd, .bool (!okb)]) rfl (fun w152 H151 =>  ?_)))))))))
     refine av (.bool true) rfl (wn (rq ?_))
     have hsr : dt big xs (dC false big (hs.take 68)) = some ({ (⟨a9 ((zs.drop 0).take 16), a9 ((zs.drop 16).take 16), n4 big (zs.drop 32), z1, z2, n4 big (zs.drop 44), ↑z3, ↑z4, n4 big (zs.drop 56), []⟩ : SecD) with rels := [] } : SecD) := by rw [← hzs, hs2]; unfold dt; rw [if_pos (show (↑z4 : Int).toNat = 0 by omega)]
     subst hokb
     exact ⟨.inr rfl, _, eB rfl ji (by exact g8e) (H151.g 3 rfl) rfl (by exact rfl), .inl ⟨({ (⟨a9 ((zs.drop 0).take 16), a9 ((zs.drop 16).take 16), n4 big (zs.drop 32), z1, z2, n4 big (zs.drop 44), ↑z3, ↑z4, n4 big (zs.drop 56), []⟩ : SecD) with rels := [] } : SecD), by omega, hsr, ⟨SecD.part ({ (⟨a9 ((zs.drop 0).take 16), a9 ((zs.drop 16).take 16), n4 big (zs.drop 32), z1, z2, n4 big (zs.drop 44), ↑z3, ↑z4, n4 big (zs.drop 56), []⟩ : SecD) with rels := [] } : SecD) N xs, _, _, vd⟩, Res.all [aH 67 7 (.slice Av 0 cv) 0 ([]), Dn], rfl, rfl, H151.reAll [1, 2] [], fun w hh hrw => by have hh := aV.1 hh; exact ⟨⟨_, _, _, rfl, (hDn w (hh Dn (by simp))).take (m := 7) (by omega)⟩, by obtain ⟨A, c, e, hv, _⟩ := aw (hh (aH 67 7 (.slice Av 0 cv) 0 ([])) (by simp)); exact ⟨A, _, c, e, hv⟩, hvd w hrw⟩⟩⟩
    ·
     refine ae (mu (↑z4) rfl (wv rfl (aL rfl rfl (beq_eq_false_iff_ne.2 (by omega))) (wn (aj rfl (wk (ad (ad ?_)))))))
     by_cases hG2 : z3 + z4 * 8 ≤ N
     ·
      refine ae (mg g0 rfl (mu (↑z3) rfl (mu (↑z4) rfl (wv rfl (c6 (k := .u64) (c := ↑(8 * z4)) rfl rfl (by rw [a6 (by omega) (by omega)]; omega)) (wE [.sl gb ob N C, .u64 (↑z3), .u64 (↑(8 * z4))] fV rfl rfl (aa (cZ _ (by omega) (by omega) (by omega)) ?_))))))
      rintro e w154 ⟨rfl, HS153⟩
      have H155 := H150.cal0 HS153
      refine ⟨_, rfl, ?_⟩
      refine wv rfl (bB rfl) (wn (aj rfl (wk (ad (sr (mu (↑z4) rfl (mu 0 rfl (wn (aC ?_)))))))))
      have H40 : St w aW [aH 67 7 (.slice Av 0 cv) 0 (((bw big z4 ((xs.drop z3).take (z4 * 8))).take 0).flatMap Rel.cells), aq gp [.str (a9 ((zs.drop 0).take 16)), .str (a9 ((zs.drop 16).take 16)), .sl gn on 7 cB, .slice Av 0 cv, vd, .bool (!okb)] 72, Dn, aq g8 [.string (⟨#[]⟩), .string (⟨#[]⟩), .ns, .ns, .ns, .bool false] 72] w154 := H155.re [1, 0, 2, 3]
      refine bW (fun ρ w' => ∃ j : Nat, ∃ Aj : Option Addr, ∃ cj : Nat, ρ 0 = .sl gb ob N C ∧ ρ 1 = .bool big ∧ ρ 8 = .pt g8 ∧ ρ 10 = .sl gn on 9 cB ∧ ρ 12 = .pt gp ∧ ρ 15 = .u64 ↑z3 ∧ ρ 89 = .u64 ↑z4 ∧ ρ 90 = .u64 ↑j ∧ j ≤ z4 ∧ St w aW [aH 67 7 (.slice Aj j cj) j (((bw big z4 ((xs.drop z3).take (z4 * 8))).take j).flatMap Rel.cells), aq gp [.str (a9 ((zs.drop 0).take 16)), .str (a9 ((zs.drop 16).take 16)), .sl gn on 7 cB, .slice Aj j cj, vd, .bool (!okb)] 72, Dn, aq g8 [.string (⟨#[]⟩), .string (⟨#[]⟩), .ns, .ns, .ns, .bool false] 72] w') (fun ρ _ => z4 + 1 - nv (ρ 90)) (⟨0, _, _, g0, g1, g8e, g10, g12, rfl, rfl, rfl, by omega, H40⟩) ?_
      rintro ρ w4 ⟨j, Aj, cj, g0, g1, g8e, g10, g12, g15, g89, g90, hj, H4⟩
      refine sr (wv rfl (cx g90 g89) (wn (ad ?_)))
      refine cf rfl (fun hb156 => ?_) (fun hb156 => ?_)
      ·
       simp only [bx] at hb156
       refine wk (ad (aC (sr (mg g90 rfl (au (↑j) rfl (wn (sr (mg g0 rfl (mg g15 rfl (mu (↑j) rfl (wv rfl (c6 (k := .u64) (c := ↑(8 * j)) rfl rfl (by rw [a6 (by omega) (by omega)]; omega)) ?_)))))))))))
       refine wv rfl (aT (k := .u64) (c := ↑(z3 + (8 * j))) rfl rfl (by rw [a6 (by omega) (by omega)]; omega)) (wv rfl ((am (l := (z3 + (8 * j))) (h := N) aU rfl (bs rfl (by omega) (Int.toNat_natCast _)) bn (by omega) (by omega) (by omega) (by omega) : Yv _ _ _ _ (.sl gb (ob + (z3 + (8 * j))) (N - (z3 + (8 * j))) (C - (z3 + (8 * j)))) _)) (eh gb (ob + (z3 + (8 * j))) (N - (z3 + (8 * j))) (C - (z3 + (8 * j))) rfl (wn ?_)))
       have H157 := H4.drew
       refine dL MX (fun w' => w'.cell? ⟨gp, 3, none⟩ = some (.slice Aj j cj)) (fun w' => True) 16 (Pl.take 0 (Pl.takeS 1 (tr 2 3 (tr 7 3 (Pl.run 5 (Pl.take 6 (Pl.run 10 (Pl.take 11 (Pl.run 12 (Pl.run 13 (Pl.run 14 (Pl.take 15 (Pl.run 16 Pl.done))))))))))))) (by kernel_rfl) rfl (H157.c 1 3 rfl rfl) (trivial) (qy rfl (ab (o := 0) jX g12) (qs rfl rfl (fun _ hS => ah my rfl hS) (qm (.bool big) rfl g1 (qm (.bool big) rfl g1 (qm (.sl gb (ob + (z3 + (8 * j))) (N - (z3 + (8 * j))) (C - (z3 + (8 * j)))) rfl rfl (qm (.bool big) rfl g1 (qm (.sl gb (ob + (z3 + (8 * j))) (N - (z3 + (8 * j))) (C - (z3 + (8 * j)))) rfl rfl (qt rfl (fun _ hS => (am (l := 4) (h := N - (z3 + (8 * j))) aU rfl (bs rfl (by omega) rfl) bn (by omega) (by omega) (by omega) (by omega) : Yv _ _ _ _ (.sl gb (ob + (z3 + (8 * j)) + 4) (N - (z3 + (8 * j)) - 4) (C - (z3 + (8 * j)) - 4)) _)) (qr rfl (ec kf (args := [.bool big, .i64 4, .sl gb (ob + (z3 + (8 * j))) (N - (z3 + (8 * j))) (C - (z3 + (8 * j)))]) rfl (aa (by have h := dw big (wd := 4) _ (RI.drop_ (hr.keep0 H157.keep) (z3 + (8 * j))) (c := C - (z3 + (8 * j))) (hby.drop _) (by omega) (by omega); rw [hX] at h; exact h) ?_)))))))))))
       rintro e w159 ⟨rfl, HS158⟩
       have H160 := H157.cal0 HS158
       refine ⟨_, rfl, ?_⟩
       refine ⟨trivial, fun _ => H160.c 1 3 rfl rfl, ?_⟩
       refine qy rfl (an (c := n4 big (xs.drop (z3 + (8 * j)))) cb iV rfl (d6 (aR big (hby.drop _)).1 (by have := (aR big (hby.drop ((z3 + (8 * j))))).2; omega))) (qr rfl (ec kf (args := [.bool big, .i64 4, .sl gb (ob + (z3 + (8 * j)) + 4) (N - (z3 + (8 * j)) - 4) (C - (z3 + (8 * j)) - 4)]) rfl (aa (by have h := dw big (wd := 4) _ (RI.drop_ (hr.keep0 H160.keep) ((z3 + (8 * j)) + 4)) (c := C - (z3 + (8 * j)) - 4) (hby.drop _) (by omega) (by omega); rw [hX] at h; exact h) ?_)))
       rintro e w162 ⟨rfl, HS161⟩
       have H163 := H160.cal0 HS161
       refine ⟨_, rfl, ?_⟩
       refine ⟨trivial, fun _ => H163.c 1 3 rfl rfl, ?_⟩
       refine qy rfl (an (c := n4 big (xs.drop ((z3 + (8 * j)) + 4))) cb iV rfl (d6 (aR big (hby.drop _)).1 (by have := (aR big (hby.drop (((z3 + (8 * j)) + 4)))).2; omega))) (qr rfl (ec CK19 (args := [.bool big, .u32 (n4 big (xs.drop (z3 + (8 * j)))), .u32 (n4 big (xs.drop ((z3 + (8 * j)) + 4)))]) rfl ?_))
       obtain ⟨rr, hrr⟩ : ∃ r, r = f7 big (n4 big (xs.drop (z3 + (8 * j)))) (n4 big (xs.drop ((z3 + (8 * j)) + 4))) := ⟨_, rfl⟩
       refine aa (by have h := m4 big (a := n4 big (xs.drop (z3 + (8 * j)))) (b := n4 big (xs.drop ((z3 + (8 * j)) + 4))) (w162) (aR big (hby.drop _)).1 (aR big (hby.drop _)).2 (aR big (hby.drop _)).1 (aR big (hby.drop _)).2; rw [← hrr] at h; exact h) ?_
       rintro e w165 ⟨rfl, HS164⟩
       have H166 := H163.cal0 HS164
       refine ⟨_, rfl, ?_⟩
       refine ⟨trivial, fun _ => H166.c 1 3 rfl rfl, ?_⟩
       refine qr rfl (jv H166 (ps := [(0, .agg #[.u32 rr.addr, .u32 rr.value, .u8 rr.type, .u8 rr.len, .bool rr.pcrel, .bool rr.extern, .bool rr.scattered])]) (e := 67) (cs := [.u32 rr.addr, .u32 rr.value, .u8 rr.type, .u8 rr.len, .bool rr.pcrel, .bool rr.extern, .bool rr.scattered]) rfl (by kernel_rfl) (fun g167 w168 hgg167 H169 =>  ?_))
       refine ⟨trivial, fun _ => H169.c 2 3 rfl rfl, ?_⟩
       refine qr rfl (bR H169 1 (m := 1) (news := [.u32 rr.addr, .u32 rr.value, .u8 rr.type, .u8 rr.len, .bool rr.pcrel, .bool rr.extern, .bool rr.scattered]) rfl TU65 TB67 rfl (by decide) rfl rfl rfl (H169.news (i := 0) rfl) (by simp [Value.oneCell', evd]) (by simp only [maxLen]; omega) (by omega) (fun v170 w171 H172 =>  ?_))
       obtain ⟨A173, c174, rfl, _, _⟩ := aw (H172.g 1 rfl)
       refine ⟨trivial, fun _ => H172.c 2 3 rfl rfl, ?_⟩
       refine qy rfl (ab (o := 0) jX g12) (dx rfl (es H172 2 3 (.slice A173 (j + 1) c174) rfl my (fun w176 H175 =>  ?_)))
       refine ⟨trivial, fun h => absurd h (by decide), ?_⟩
       refine ck (ao (ac (ae (wv rfl (aT (k := .u64) (c := ↑j + 1) g90 rfl (a6 (by omega) (by omega))) (mu (↑j + 1) rfl (wn ?_))))))
       have hd := kv (big := big) (xs := xs) (z3 := z3) (show j < z4 by omega)
       rw [← hrr] at hd
       have hcur : ((bw big z4 ((xs.drop z3).take (z4 * 8))).take j).flatMap Rel.cells ++ [.u32 rr.addr, .u32 rr.value, .u8 rr.type, .u8 rr.len, .bool rr.pcrel, .bool rr.extern, .bool rr.scattered] = ((bw big z4 ((xs.drop z3).take (z4 * 8))).take (j + 1)).flatMap Rel.cells := by rw [da hd]; rfl
       rw [hcur] at H175
       exact ⟨⟨j + 1, _, _, g0, g1, g8e, g10, g12, g15, g89, rfl, by omega, H175.re [1, 2, 3, 4]⟩, by show z4 + 1 - nv (.u64 (↑j + 1)) < z4 + 1 - nv (ρ 90); rw [g90]; simp only [nv]; omega⟩
      ·
       simp only [bx] at hb156
       refine bF (a8 (a8 (aY (ac (sr (wv rfl (H4.loadA (i := 1) (vs := [.str (a9 ((zs.drop 0).take 16)), .str (a9 ((zs.drop 16).take 16)), .sl gn on 7 cB, .slice Aj j cj, vd, .bool (!okb)]) rfl ji g12 rfl rfl) (ws (bE H4 3 (vs := [.str (a9 ((zs.drop 0).take 16)), .str (a9 ((zs.drop 16).take 16)), .sl gn on 7 cB, .slice Aj j cj, vd, .bool (!okb)]) (m := 6) rfl dv g8e rfl rfl (nl rfl) (by simp [Value.oneCell', evd]) (cs' := [.str (a9 ((zs.drop 0).take 16)), .str (a9 ((zs.drop 16).take 16)), .sl gn on 7 cB, .slice Aj j cj, vd, .bool (!okb)]) rfl (fun w178 H177 =>  ?_)))))))))
       refine av (.bool true) rfl (wn (aQ ?_))
       have hsr : dt big xs (dC false big (hs.take 68)) = some ({ (⟨a9 ((zs.drop 0).take 16), a9 ((zs.drop 16).take 16), n4 big (zs.drop 32), z1, z2, n4 big (zs.drop 44), ↑z3, ↑z4, n4 big (zs.drop 56), []⟩ : SecD) with rels := bw big z4 ((xs.drop z3).take (z4 * 8)) } : SecD) := by rw [← hzs, hs2]; unfold dt; rw [if_neg (show ¬ (↑z4 : Int).toNat = 0 by omega), if_pos (show (↑z3 : Int).toNat + (↑z4 : Int).toNat * 8 ≤ xs.length by rw [hr.1]; omega)]; simp only [Int.toNat_natCast]
       have hjz : j = z4 := by omega
       rw [List.take_of_length_le (by rw [ed]; omega)] at H177
       subst hokb
       exact ⟨.inr rfl, _, eB rfl ji (by exact g8e) (H177.g 3 rfl) rfl (by exact rfl), .inl ⟨({ (⟨a9 ((zs.drop 0).take 16), a9 ((zs.drop 16).take 16), n4 big (zs.drop 32), z1, z2, n4 big (zs.drop 44), ↑z3, ↑z4, n4 big (zs.drop 56), []⟩ : SecD) with rels := bw big z4 ((xs.drop z3).take (z4 * 8)) } : SecD), by omega, hsr, ⟨SecD.part ({ (⟨a9 ((zs.drop 0).take 16), a9 ((zs.drop 16).take 16), n4 big (zs.drop 32), z1, z2, n4 big (zs.drop 44), ↑z3, ↑z4, n4 big (zs.drop 56), []⟩ : SecD) with rels := bw big z4 ((xs.drop z3).take (z4 * 8)) } : SecD) N xs, _, _, vd⟩, Res.all [aH 67 7 (.slice Aj j cj) j ((bw big z4 ((xs.drop z3).take (z4 * 8))).flatMap Rel.cells), Dn], rfl, rfl, H177.reAll [0, 2] [], fun w hh hrw => by have hh := aV.1 hh; exact ⟨⟨_, _, _, rfl, (hDn w (hh Dn (by simp))).take (m := 7) (by omega)⟩, by obtain ⟨A, c, e, hv, _⟩ := aw (hh (aH 67 7 (.slice Aj j cj) j ((bw big z4 ((xs.drop z3).take (z4 * 8))).flatMap Rel.cells)) (by simp)); exact ⟨A, _, c, e, hv⟩, hvd w hrw⟩⟩⟩
     ·
      refine ae (mg g0 rfl (mu (↑z3) rfl (mu (↑z4) rfl (wv rfl (c6 (k := .u64) (c := ↑(8 * z4)) rfl rfl (by rw [a6 (by omega) (by omega)]; omega)) (wE [.sl gb ob N C, .u64 (↑z3), .u64 (↑(8 * z4))] fV rfl rfl (aa (dj _ (by omega) (by omega) (by omega)) ?_))))))
      rintro e w180 ⟨rfl, HS179⟩
      have H181 := H150.cal0 HS179
      refine ⟨_, rfl, ?_⟩
      refine wv rfl (bB rfl) (wn (ay rfl (sr (wv rfl (yb (ps := []) (cells := #[.string (⟨#[]⟩), .string (⟨#[]⟩), .ns, .ns, .ns, .bool false]) rfl (by kernel_rfl)) (ws (bE H181 3 (vs := [.string (⟨#[]⟩), .string (⟨#[]⟩), .ns, .ns, .ns, .bool false]) (m := 6) rfl dv g8e rfl rfl (nl rfl) (by simp [Value.oneCell', evd]) (cs' := [.string (⟨#[]⟩), .string (⟨#[]⟩), .ns, .ns, .ns, .bool false]) rfl (fun w183 H182 =>  ?_)))))))
      refine av (.bool false) rfl (wn (rq ?_))
      exact ⟨.inr rfl, _, eB rfl ji (by exact g8e) (H182.g 3 rfl) rfl (by exact rfl), .inr ⟨.inr (by rw [← hzs, hs2]; unfold dt; rw [if_neg (show ¬ (↑z4 : Int).toNat = 0 by omega), if_neg (show ¬ (↑z3 : Int).toNat + (↑z4 : Int).toNat * 8 ≤ xs.length by rw [hr.1]; omega)]), rfl, H182.sub (List.nil_sublist _)⟩⟩
 ·
  refine ae (mv (.bool big) rfl (mv (.bool false) rfl (wE [.bool false] sH rfl rfl (aa (ew _) ?_))))
  rintro e w185 ⟨AW, nW, cW, DW, rfl, hcW, HS184, hDW⟩
  have H186 := H3.cal0 HS184
  refine ⟨_, rfl, ?_⟩
  refine mv (.slice Ah nh ch) rfl (wE [.bool big, .slice AW nW cW, .slice Ah nh ch] gM rfl rfl (aa (dA (ws := fZ false) (bs := hs) big _ (hDW _ (H186.g 0 rfl)) (iK _) (hrh.keep0 H186.keep) hch (by omega) hbh (by decide) (show nh < 68 by omega)) ?_))
  rintro e w188 ⟨rfl, HS187⟩
  have H189 := H186.cal0 HS187
  refine ⟨_, rfl, ?_⟩
  refine mv (.tuple #[.ns, .bool false]) rfl (we (.ns) rfl rfl (we (.bool false) rfl rfl (av (.ns) rfl (av (.bool false) rfl (wn (ad (sr (mv (.bool false) rfl (wv rfl (bB rfl) (wn (ay rfl ?_)))))))))))
  refine sr (wv rfl (yb (ps := []) (cells := #[.string (⟨#[]⟩), .string (⟨#[]⟩), .ns, .ns, .ns, .bool false]) rfl (by kernel_rfl)) (ws (eN H189 1 [.string (⟨#[]⟩), .string (⟨#[]⟩), .ns, .ns, .ns, .bool false] rfl dv (fun w191 H190 =>  ?_))))
  refine av (.bool false) rfl (wn (rq ?_))
  exact ⟨.inr rfl, _, eB rfl ji (by exact rfl) (H190.g 1 rfl) rfl (by exact rfl), .inr ⟨.inl (by omega), rfl, H190.sub (List.nil_sublist _)⟩⟩
theorem nQ {gb ob N C nh ch : Nat} {Ah : Option Addr} {xs hs : List Int} (big : Bool) (w : World) (hr : RI .u8 w (some ⟨gb, ob, none⟩) N xs) (hby : Byt xs) (hNC : N ≤ C) (hN : N < 10485760) (hrh : RI .u8 w Ah nh hs) (hbh : Byt hs) (hch : nh ≤ ch) (hnh : nh < 10485760) :
 Calls Tryd.prog 40 #[.sl gb ob N C, .bool big, .bool true, .slice Ah nh ch] w fun e w' => (∃ s3 : SecD, 80 ≤ nh ∧ dt big xs (dC true big (hs.take 80)) = some s3 ∧ ∃ (x : PartV) (D : Res), x.p = s3.part N xs ∧ e = .returned (.tuple #[.agg (List.toArray x.cellsM), .bool true]) ∧ St w aW [D] w' ∧ ∀ w, D.φ w → RI .u8 w (some ⟨gb, ob, none⟩) N xs → x.ok w) ∨ ((nh < 80 ∨ dt big xs (dC true big (hs.take 80)) = none) ∧ e = .returned (.tuple #[.agg (List.toArray [.string (⟨#[]⟩), .string (⟨#[]⟩), .ns, .ns, .ns, .bool false]), .bool false]) ∧ St w aW [] w') := by
 refine a5 (args := [.sl gb ob N C, .bool big, .bool true, .slice Ah nh ch]) Tryd.func40 rfl rfl rfl ?_
 have H0 := St.nil w aW
 refine sr (wm rfl (aK H0 bX (fun g1 w2 hgg1 H3 =>  av (.bool false) rfl (wn (ad ?_)))))
 by_cases hfit : 80 ≤ nh
 ·
  obtain ⟨gh, oh, rfl, _⟩ := hrh.2 (by omega)
  obtain ⟨zs, hzs⟩ : ∃ q, q = hs.take 80 := ⟨_, rfl⟩
  have hbzs : Byt zs := by rw [hzs]; exact hbh.take _
  obtain ⟨z1, hz1⟩ : ∃ q : Nat, (q : Int) = n8 big (zs.drop 40) := ⟨(n8 big (zs.drop 40)).toNat, Int.toNat_of_nonneg (ln big (hbzs.drop _)).1⟩
  have hltz1 : (z1 : Int) < 18446744073709551616 := by rw [hz1]; exact (ln big (hbzs.drop _)).2
  obtain ⟨z2, hz2⟩ : ∃ q : Nat, (q : Int) = n4 big (zs.drop 48) := ⟨(n4 big (zs.drop 48)).toNat, Int.toNat_of_nonneg (aR big (hbzs.drop _)).1⟩
  have hltz2 : (z2 : Int) < 4294967296 := by rw [hz2]; exact (aR big (hbzs.drop _)).2
  obtain ⟨z3, hz3⟩ : ∃ q : Nat, (q : Int) = n4 big (zs.drop 56) := ⟨(n4 big (zs.drop 56)).toNat, Int.toNat_of_nonneg (aR big (hbzs.drop _)).1⟩
  have hltz3 : (z3 : Int) < 4294967296 := by rw [hz3]; exact (aR big (hbzs.drop _)).2
  obtain ⟨z4, hz4⟩ : ∃ q : Nat, (q : Int) = n4 big (zs.drop 60) := ⟨(n4 big (zs.drop 60)).toNat, Int.toNat_of_nonneg (aR big (hbzs.drop _)).1⟩
  have hltz4 : (z4 : Int) < 4294967296 := by rw [hz4]; exact (aR big (hbzs.drop _)).2
  have hs2 : dC true big zs = (⟨a9 ((zs.drop 0).take 16), a9 ((zs.drop 16).take 16), n8 big (zs.drop 32), z1, z2, n4 big (zs.drop 52), ↑z3, ↑z4, n4 big (zs.drop 64), []⟩ : SecD) := by simp only [dC, ← hz1, ← hz2, ← hz3, ← hz4, Int.toNat_natCast, if_true, if_false, Bool.false_eq_true]
  have hNL := me hbh (show zs = hs.take (eQ true) from hzs) hs2
  have e16 : (hs.take 16) = (zs.drop 0).take 16 := by rw [hzs, kr (by omega)]; rfl
  have e32 : (hs.drop 16).take 16 = (zs.drop 16).take 16 := by rw [hzs, kr (by omega)]
  refine ae (mv (.bool big) rfl (mv (.bool true) rfl (wE [.bool true] sH rfl rfl (aa (eO _) ?_))))
  rintro e w5 ⟨AW, nW, cW, DW, rfl, hcW, HS4, hDW⟩
  have H6 := H3.cal0 HS4
  refine ⟨_, rfl, ?_⟩
  refine ms gh oh nh ch rfl (wE [.bool big, .slice AW nW cW, .sl gh oh nh ch] gM rfl rfl (aa (db (ws := fZ true) (bs := hs) big _ (hDW _ (H6.g 0 rfl)) (iK _) (hrh.keep0 H6.keep) hch (by omega) hbh (by decide) (K := 10) (show 80 ≤ nh from hfit) (mc true big hs) (by omega)) ?_))
  rintro e w8 ⟨gn, on, cB, Dn, rfl, hcB, HS7, hDn0⟩
  rw [hNL] at hDn0
  have H9 := H6.cal0 HS7
  have hDn : ∀ w, Dn.φ w → RI .u64 w (some ⟨gn, on, none⟩) 10 ([n8 big (zs.drop 32), ↑z1, ↑z2, n4 big (zs.drop 52), ↑z3, ↑z4, n4 big (zs.drop 64)] ++ (bp big (fZ true) hs).drop 7) := hDn0
  refine ⟨_, rfl, ?_⟩
  refine mv (.tuple #[.sl gn on 10 cB, .bool true]) rfl (we (.sl gn on 10 cB) rfl rfl (we (.bool true) rfl rfl (eh gn on 10 cB rfl (av (.bool true) rfl (wn (ad (sr (mv (.bool true) rfl (wv rfl (bB rfl) (wn (aj rfl ?_)))))))))))
  refine wk ?_
  refine fm (fun ρ w' => ∃ (g8 gp : Nat) (Av : Option Addr) (cv : Nat), ρ 0 = .sl gb ob N C ∧ ρ 1 = .bool big ∧ ρ 8 = .pt g8 ∧ ρ 10 = .sl gn on 10 cB ∧ ρ 12 = .pt gp ∧ St w aW [aq gp [.str (a9 ((zs.drop 0).take 16)), .str (a9 ((zs.drop 16).take 16)), .sl gn on 7 cB, .slice Av 0 cv, .ns, .bool false] 72, aH 67 7 (.slice Av 0 cv) 0 ([]), Dn, aq g8 [.string (⟨#[]⟩), .string (⟨#[]⟩), .ns, .ns, .ns, .bool false] 72] w') ?_ ?_
  ·
   have H10 := H9.drew
   refine aO MX (fun w' => True) (Pl.take 0 (Pl.take 1 (Pl.take 3 (Pl.take 4 (Pl.take 6 (Pl.take 7 (Pl.run3 2 (Pl.run3 5 (Pl.run2 8 (Pl.take 9 (Pl.run 10 (Pl.run 11 Pl.done))) 10 (Pl.run 8 (Pl.take 9 (Pl.run 11 Pl.done)))) 8 (Pl.run2 5 (Pl.take 9 (Pl.run 10 (Pl.run 11 Pl.done))) 10 (Pl.run 5 (Pl.take 9 (Pl.run 11 Pl.done)))) 10 (Pl.run2 5 (Pl.run 8 (Pl.take 9 (Pl.run 11 Pl.done))) 8 (Pl.run 5 (Pl.take 9 (Pl.run 11 Pl.done))))) 8 (Pl.run2 2 (Pl.run2 5 (Pl.take 9 (Pl.run 10 (Pl.run 11 Pl.done))) 10 (Pl.run 5 (Pl.take 9 (Pl.run 11 Pl.done)))) 10 (Pl.run 2 (Pl.run 5 (Pl.take 9 (Pl.run 11 Pl.done))))) 10 (Pl.run2 2 (Pl.run2 5 (Pl.run 8 (Pl.take 9 (Pl.run 11 Pl.done))) 8 (Pl.run 5 (Pl.take 9 (Pl.run 11 Pl.done)))) 8 (Pl.run 2 (Pl.run 5 (Pl.take 9 (Pl.run 11 Pl.done)))))))))))) (by kernel_rfl) (trivial) (qm (.sl gh oh nh ch) rfl rfl (qt rfl (fun _ hS => (am (l := 0) (h := 16) aU rfl bn (bs rfl (by omega) rfl) (by omega) (by omega) (by omega) (by omega) : Yv _ _ _ _ (.sl gh oh 16 ch) _)) (qm (.sl gh oh nh ch) rfl rfl (qt rfl (fun _ hS => (am (l := 16) (h := 32) aU rfl (bs rfl (by omega) rfl) (bs rfl (by omega) rfl) (by omega) (by omega) (by omega) (by omega) : Yv _ _ _ _ (.sl gh (oh + 16) 16 (ch - 16)) _)) (qm (.sl gn on 10 cB) rfl rfl (qt rfl (fun _ hS => (am (l := 0) (h := 7) bA rfl bn (bs rfl (by omega) rfl) (by omega) (by omega) (by omega) (by omega) : Yv _ _ _ _ (.sl gn on 7 cB) _)) ?_))))))
   refine ⟨?_, ?_, ?_⟩
   ·
    refine po rfl (ec dz (args := [.sl gh oh 16 ch]) rfl (aa (by have h := bG _ ((hrh.keep0 H10.keep).take (m := 16) (by omega)) (c := ch) (by omega) (by omega); rw [e16] at h; exact h) ?_))
    rintro e w12 ⟨rfl, HS11⟩
    have H13 := H10.cal0 HS11
    refine ⟨_, rfl, ?_⟩
    refine ⟨trivial, fun _ => trivial, ?_⟩
    refine ⟨?_, ?_, ?_⟩
    ·
     refine po rfl (ec dz (args := [.sl gh (oh + 16) 16 (ch - 16)]) rfl (aa (by have h := bG _ (((hrh.keep0 H13.keep).drop_ 16).take (m := 16) (by omega)) (c := ch - 16) (by omega) (by omega); rw [e32] at h; exact h) ?_))
     rintro e w15 ⟨rfl, HS14⟩
     have H16 := H13.cal0 HS14
     refine ⟨_, rfl, ?_⟩
     refine ⟨trivial, fun _ => trivial, ?_⟩
     refine ⟨?_, ?_⟩
     ·
      refine po rfl (eb H16 67 [] rfl (by kernel_rfl) (fun g17 w18 hgg17 H19 =>  ?_))
      refine ⟨trivial, fun _ => trivial, ?_⟩
      refine qy rfl (yb (ps := [(0, .str (a9 ((zs.drop 0).take 16))), (1, .str (a9 ((zs.drop 16).take 16))), (2, .sl gn on 7 cB), (3, .sl g17 0 0 0)]) (cells := #[.str (a9 ((zs.drop 0).take 16)), .str (a9 ((zs.drop 16).take 16)), .sl gn on 7 cB, .sl g17 0 0 0, .ns, .bool false]) rfl (by kernel_rfl)) (qr rfl (aK H19 bX (fun g20 w21 hgg20 H22 =>  ?_)))
      refine ⟨trivial, fun _ => trivial, ?_⟩
      refine dx rfl (eN H22 0 [.str (a9 ((zs.drop 0).take 16)), .str (a9 ((zs.drop 16).take 16)), .sl gn on 7 cB, .sl g17 0 0 0, .ns, .bool false] rfl dv (fun w24 H23 =>  ?_))
      refine ⟨trivial, fun _ => trivial, ?_⟩
      refine pn ?_
      exact ⟨_, _, _, _, rfl, rfl, rfl, rfl, rfl, (H23.rowOf (i := 1) (cap := 0) (sz := 7) rfl rfl (by simp [maxLen])).re [0, 1, 2, 4]⟩
     ·
      refine po rfl (aK H16 bX (fun g25 w26 hgg25 H27 =>  ?_))
      refine ⟨trivial, fun _ => trivial, ?_⟩
      refine qr rfl (eb H27 67 [] rfl (by kernel_rfl) (fun g28 w29 hgg28 H30 =>  ?_))
      refine ⟨trivial, fun _ => trivial, ?_⟩
      refine qy rfl (yb (ps := [(0, .str (a9 ((zs.drop 0).take 16))), (1, .str (a9 ((zs.drop 16).take 16))), (2, .sl gn on 7 cB), (3, .sl g28 0 0 0)]) (cells := #[.str (a9 ((zs.drop 0).take 16)), .str (a9 ((zs.drop 16).take 16)), .sl gn on 7 cB, .sl g28 0 0 0, .ns, .bool false]) rfl (by kernel_rfl)) (dx rfl (eN H30 1 [.str (a9 ((zs.drop 0).take 16)), .str (a9 ((zs.drop 16).take 16)), .sl gn on 7 cB, .sl g28 0 0 0, .ns, .bool false] rfl dv (fun w32 H31 =>  ?_)))
      refine ⟨trivial, fun _ => trivial, ?_⟩
      refine pn ?_
      exact ⟨_, _, _, _, rfl, rfl, rfl, rfl, rfl, (H31.rowOf (i := 0) (cap := 0) (sz := 7) rfl rfl (by simp [maxLen])).re [1, 0, 2, 4]⟩
    ·
     refine po rfl (eb H13 67 [] rfl (by kernel_rfl) (fun g33 w34 hgg33 H35 =>  ?_))
     refine ⟨trivial, fun _ => trivial, ?_⟩
     refine ⟨?_, ?_⟩
     ·
      refine po rfl (ec dz (args := [.sl gh (oh + 16) 16 (ch - 16)]) rfl (aa (by have h := bG _ (((hrh.keep0 H35.keep).drop_ 16).take (m := 16) (by omega)) (c := ch - 16) (by omega) (by omega); rw [e32] at h; exact h) ?_))
      rintro e w37 ⟨rfl, HS36⟩
      have H38 := H35.cal0 HS36
      refine ⟨_, rfl, ?_⟩
      refine ⟨trivial, fun _ => trivial, ?_⟩
      refine qy rfl (yb (ps := [(0, .str (a9 ((zs.drop 0).take 16))), (1, .str (a9 ((zs.drop 16).take 16))), (2, .sl gn on 7 cB), (3, .sl g33 0 0 0)]) (cells := #[.str (a9 ((zs.drop 0).take 16)), .str (a9 ((zs.drop 16).take 16)), .sl gn on 7 cB, .sl g33 0 0 0, .ns, .bool false]) rfl (by kernel_rfl)) (qr rfl (aK H38 bX (fun g39 w40 hgg39 H41 =>  ?_)))
      refine ⟨trivial, fun _ => trivial, ?_⟩
      refine dx rfl (eN H41 0 [.str (a9 ((zs.drop 0).take 16)), .str (a9 ((zs.drop 16).take 16)), .sl gn on 7 cB, .sl g33 0 0 0, .ns, .bool false] rfl dv (fun w43 H42 =>  ?_))
      refine ⟨trivial, fun _ => trivial, ?_⟩
      refine pn ?_
      exact ⟨_, _, _, _, rfl, rfl, rfl, rfl, rfl, (H42.rowOf (i := 1) (cap := 0) (sz := 7) rfl rfl (by simp [maxLen])).re [0, 1, 2, 4]⟩
     ·
      refine po rfl (aK H35 bX (fun g44 w45 hgg44 H46 =>  ?_))
      refine ⟨trivial, fun _ => trivial, ?_⟩
      refine qr rfl (ec dz (args := [.sl gh (oh + 16) 16 (ch - 16)]) rfl (aa (by have h := bG _ (((hrh.keep0 H46.keep).drop_ 16).take (m := 16) (by omega)) (c := ch - 16) (by omega) (by omega); rw [e32] at h; exact h) ?_))
      rintro e w48 ⟨rfl, HS47⟩
      have H49 := H46.cal0 HS47
      refine ⟨_, rfl, ?_⟩
      refine ⟨trivial, fun _ => trivial, ?_⟩
      refine qy rfl (yb (ps := [(0, .str (a9 ((zs.drop 0).take 16))), (1, .str (a9 ((zs.drop 16).take 16))), (2, .sl gn on 7 cB), (3, .sl g33 0 0 0)]) (cells := #[.str (a9 ((zs.drop 0).take 16)), .str (a9 ((zs.drop 16).take 16)), .sl gn on 7 cB, .sl g33 0 0 0, .ns, .bool false]) rfl (by kernel_rfl)) (dx rfl (eN H49 0 [.str (a9 ((zs.drop 0).take 16)), .str (a9 ((zs.drop 16).take 16)), .sl gn on 7 cB, .sl g33 0 0 0, .ns, .bool false] rfl dv (fun w51 H50 =>  ?_)))
      refine ⟨trivial, fun _ => trivial, ?_⟩
      refine pn ?_
      exact ⟨_, _, _, _, rfl, rfl, rfl, rfl, rfl, (H50.rowOf (i := 1) (cap := 0) (sz := 7) rfl rfl (by simp [maxLen])).re [0, 1, 2, 4]⟩
    ·
     refine po rfl (aK H13 bX (fun g52 w53 hgg52 H54 =>  ?_))
     refine ⟨trivial, fun _ => trivial, ?_⟩
     refine ⟨?_, ?_⟩
     ·
      refine po rfl (ec dz (args := [.sl gh (oh + 16) 16 (ch - 16)]) rfl (aa (by have h := bG _ (((hrh.keep0 H54.keep).drop_ 16).take (m := 16) (by omega)) (c := ch - 16) (by omega) (by omega); rw [e32] at h; exact h) ?_))
      rintro e w56 ⟨rfl, HS55⟩
      have H57 := H54.cal0 HS55
      refine ⟨_, rfl, ?_⟩
      refine ⟨trivial, fun _ => trivial, ?_⟩
      refine qr rfl (eb H57 67 [] rfl (by kernel_rfl) (fun g58 w59 hgg58 H60 =>  ?_))
      refine ⟨trivial, fun _ => trivial, ?_⟩
      refine qy rfl (yb (ps := [(0, .str (a9 ((zs.drop 0).take 16))), (1, .str (a9 ((zs.drop 16).take 16))), (2, .sl gn on 7 cB), (3, .sl g58 0 0 0)]) (cells := #[.str (a9 ((zs.drop 0).take 16)), .str (a9 ((zs.drop 16).take 16)), .sl gn on 7 cB, .sl g58 0 0 0, .ns, .bool false]) rfl (by kernel_rfl)) (dx rfl (eN H60 1 [.str (a9 ((zs.drop 0).take 16)), .str (a9 ((zs.drop 16).take 16)), .sl gn on 7 cB, .sl g58 0 0 0, .ns, .bool false] rfl dv (fun w62 H61 =>  ?_)))
      refine ⟨trivial, fun _ => trivial, ?_⟩
      refine pn ?_
      exact ⟨_, _, _, _, rfl, rfl, rfl, rfl, rfl, (H61.rowOf (i := 0) (cap := 0) (sz := 7) rfl rfl (by simp [maxLen])).re [1, 0, 2, 4]⟩
     ·
      refine po rfl (eb H54 67 [] rfl (by kernel_rfl) (fun g63 w64 hgg63 H65 =>  ?_))
      refine ⟨trivial, fun _ => trivial, ?_⟩
      refine qr rfl (ec dz (args := [.sl gh (oh + 16) 16 (ch - 16)]) rfl (aa (by have h := bG _ (((hrh.keep0 H65.keep).drop_ 16).take (m := 16) (by omega)) (c := ch - 16) (by omega) (by omega); rw [e32] at h; exact h) ?_))
      rintro e w67 ⟨rfl, HS66⟩
      have H68 := H65.cal0 HS66
      refine ⟨_, rfl, ?_⟩
      refine ⟨trivial, fun _ => trivial, ?_⟩
      refine qy rfl (yb (ps := [(0, .str (a9 ((zs.drop 0).take 16))), (1, .str (a9 ((zs.drop 16).take 16))), (2, .sl gn on 7 cB), (3, .sl g63 0 0 0)]) (cells := #[.str (a9 ((zs.drop 0).take 16)), .str (a9 ((zs.drop 16).take 16)), .sl gn on 7 cB, .sl g63 0 0 0, .ns, .bool false]) rfl (by kernel_rfl)) (dx rfl (eN H68 1 [.str (a9 ((zs.drop 0).take 16)), .str (a9 ((zs.drop 16).take 16)), .sl gn on 7 cB, .sl g63 0 0 0, .ns, .bool false] rfl dv (fun w70 H69 =>  ?_)))
      refine ⟨trivial, fun _ => trivial, ?_⟩
      refine pn ?_
      exact ⟨_, _, _, _, rfl, rfl, rfl, rfl, rfl, (H69.rowOf (i := 0) (cap := 0) (sz := 7) rfl rfl (by simp [maxLen])).re [1, 0, 2, 4]⟩
   ·
    refine po rfl (eb H10 67 [] rfl (by kernel_rfl) (fun g71 w72 hgg71 H73 =>  ?_))
    refine ⟨trivial, fun _ => trivial, ?_⟩
    refine ⟨?_, ?_⟩
    ·
     refine po rfl (ec dz (args := [.sl gh oh 16 ch]) rfl (aa (by have h := bG _ ((hrh.keep0 H73.keep).take (m := 16) (by omega)) (c := ch) (by omega) (by omega); rw [e16] at h; exact h) ?_))
     rintro e w75 ⟨rfl, HS74⟩
     have H76 := H73.cal0 HS74
     refine ⟨_, rfl, ?_⟩
     refine ⟨trivial, fun _ => trivial, ?_⟩
     refine ⟨?_, ?_⟩
     ·
      refine po rfl (ec dz (args := [.sl gh (oh + 16) 16 (ch - 16)]) rfl (aa (by have h := bG _ (((hrh.keep0 H76.keep).drop_ 16).take (m := 16) (by omega)) (c := ch - 16) (by omega) (by omega); rw [e32] at h; exact h) ?_))
      rintro e w78 ⟨rfl, HS77⟩
      have H79 := H76.cal0 HS77
      refine ⟨_, rfl, ?_⟩
      refine ⟨trivial, fun _ => trivial, ?_⟩
      refine qy rfl (yb (ps := [(0, .str (a9 ((zs.drop 0).take 16))), (1, .str (a9 ((zs.drop 16).take 16))), (2, .sl gn on 7 cB), (3, .sl g71 0 0 0)]) (cells := #[.str (a9 ((zs.drop 0).take 16)), .str (a9 ((zs.drop 16).take 16)), .sl gn on 7 cB, .sl g71 0 0 0, .ns, .bool false]) rfl (by kernel_rfl)) (qr rfl (aK H79 bX (fun g80 w81 hgg80 H82 =>  ?_)))
      refine ⟨trivial, fun _ => trivial, ?_⟩
      refine dx rfl (eN H82 0 [.str (a9 ((zs.drop 0).take 16)), .str (a9 ((zs.drop 16).take 16)), .sl gn on 7 cB, .sl g71 0 0 0, .ns, .bool false] rfl dv (fun w84 H83 =>  ?_))
      refine ⟨trivial, fun _ => trivial, ?_⟩
      refine pn ?_
      exact ⟨_, _, _, _, rfl, rfl, rfl, rfl, rfl, (H83.rowOf (i := 1) (cap := 0) (sz := 7) rfl rfl (by simp [maxLen])).re [0, 1, 2, 4]⟩
     ·
      refine po rfl (aK H76 bX (fun g85 w86 hgg85 H87 =>  ?_))
      refine ⟨trivial, fun _ => trivial, ?_⟩
      refine qr rfl (ec dz (args := [.sl gh (oh + 16) 16 (ch - 16)]) rfl (aa (by have h := bG _ (((hrh.keep0 H87.keep).drop_ 16).take (m := 16) (by omega)) (c := ch - 16) (by omega) (by omega); rw [e32] at h; exact h) ?_))
      rintro e w89 ⟨rfl, HS88⟩
      have H90 := H87.cal0 HS88
      refine ⟨_, rfl, ?_⟩
      refine ⟨trivial, fun _ => trivial, ?_⟩
      refine qy rfl (yb (ps := [(0, .str (a9 ((zs.drop 0).take 16))), (1, .str (a9 ((zs.drop 16).take 16))), (2, .sl gn on 7 cB), (3, .sl g71 0 0 0)]) (cells := #[.str (a9 ((zs.drop 0).take 16)), .str (a9 ((zs.drop 16).take 16)), .sl gn on 7 cB, .sl g71 0 0 0, .ns, .bool false]) rfl (by kernel_rfl)) (dx rfl (eN H90 0 [.str (a9 ((zs.drop 0).take 16)), .str (a9 ((zs.drop 16).take 16)), .sl gn on 7 cB, .sl g71 0 0 0, .ns, .bool false] rfl dv (fun w92 H91 =>  ?_)))
      refine ⟨trivial, fun _ => trivial, ?_⟩
      refine pn ?_
      exact ⟨_, _, _, _, rfl, rfl, rfl, rfl, rfl, (H91.rowOf (i := 1) (cap := 0) (sz := 7) rfl rfl (by simp [maxLen])).re [0, 1, 2, 4]⟩
    ·
     refine po rfl (aK H73 bX (fun g93 w94 hgg93 H95 =>  ?_))
     refine ⟨trivial, fun _ => trivial, ?_⟩
     refine qr rfl (ec dz (args := [.sl gh oh 16 ch]) rfl (aa (by have h := bG _ ((hrh.keep0 H95.keep).take (m := 16) (by omega)) (c := ch) (by omega) (by omega); rw [e16] at h; exact h) ?_))
     rintro e w97 ⟨rfl, HS96⟩
     have H98 := H95.cal0 HS96
     refine ⟨_, rfl, ?_⟩
     refine ⟨trivial, fun _ => trivial, ?_⟩
     refine qr rfl (ec dz (args := [.sl gh (oh + 16) 16 (ch - 16)]) rfl (aa (by have h := bG _ (((hrh.keep0 H98.keep).drop_ 16).take (m := 16) (by omega)) (c := ch - 16) (by omega) (by omega); rw [e32] at h; exact h) ?_))
     rintro e w100 ⟨rfl, HS99⟩
     have H101 := H98.cal0 HS99
     refine ⟨_, rfl, ?_⟩
     refine ⟨trivial, fun _ => trivial, ?_⟩
     refine qy rfl (yb (ps := [(0, .str (a9 ((zs.drop 0).take 16))), (1, .str (a9 ((zs.drop 16).take 16))), (2, .sl gn on 7 cB), (3, .sl g71 0 0 0)]) (cells := #[.str (a9 ((zs.drop 0).take 16)), .str (a9 ((zs.drop 16).take 16)), .sl gn on 7 cB, .sl g71 0 0 0, .ns, .bool false]) rfl (by kernel_rfl)) (dx rfl (eN H101 0 [.str (a9 ((zs.drop 0).take 16)), .str (a9 ((zs.drop 16).take 16)), .sl gn on 7 cB, .sl g71 0 0 0, .ns, .bool false] rfl dv (fun w103 H102 =>  ?_)))
     refine ⟨trivial, fun _ => trivial, ?_⟩
     refine pn ?_
     exact ⟨_, _, _, _, rfl, rfl, rfl, rfl, rfl, (H102.rowOf (i := 1) (cap := 0) (sz := 7) rfl rfl (by simp [maxLen])).re [0, 1, 2, 4]⟩
   ·
    refine po rfl (aK H10 bX (fun g104 w105 hgg104 H106 =>  ?_))
    refine ⟨trivial, fun _ => trivial, ?_⟩
    refine ⟨?_, ?_⟩
    ·
     refine po rfl (ec dz (args := [.sl gh oh 16 ch]) rfl (aa (by have h := bG _ ((hrh.keep0 H106.keep).take (m := 16) (by omega)) (c := ch) (by omega) (by omega); rw [e16] at h; exact h) ?_))
     rintro e w108 ⟨rfl, HS107⟩
     have H109 := H106.cal0 HS107
     refine ⟨_, rfl, ?_⟩
     refine ⟨trivial, fun _ => trivial, ?_⟩
     refine ⟨?_, ?_⟩
     ·
      refine po rfl (ec dz (args := [.sl gh (oh + 16) 16 (ch - 16)]) rfl (aa (by have h := bG _ (((hrh.keep0 H109.keep).drop_ 16).take (m := 16) (by omega)) (c := ch - 16) (by omega) (by omega); rw [e32] at h; exact h) ?_))
      rintro e w111 ⟨rfl, HS110⟩
      have H112 := H109.cal0 HS110
      refine ⟨_, rfl, ?_⟩
      refine ⟨trivial, fun _ => trivial, ?_⟩
      refine qr rfl (eb H112 67 [] rfl (by kernel_rfl) (fun g113 w114 hgg113 H115 =>  ?_))
      refine ⟨trivial, fun _ => trivial, ?_⟩
      refine qy rfl (yb (ps := [(0, .str (a9 ((zs.drop 0).take 16))), (1, .str (a9 ((zs.drop 16).take 16))), (2, .sl gn on 7 cB), (3, .sl g113 0 0 0)]) (cells := #[.str (a9 ((zs.drop 0).take 16)), .str (a9 ((zs.drop 16).take 16)), .sl gn on 7 cB, .sl g113 0 0 0, .ns, .bool false]) rfl (by kernel_rfl)) (dx rfl (eN H115 1 [.str (a9 ((zs.drop 0).take 16)), .str (a9 ((zs.drop 16).take 16)), .sl gn on 7 cB, .sl g113 0 0 0, .ns, .bool false] rfl dv (fun w117 H116 =>  ?_)))
      refine ⟨trivial, fun _ => trivial, ?_⟩
      refine pn ?_
      exact ⟨_, _, _, _, rfl, rfl, rfl, rfl, rfl, (H116.rowOf (i := 0) (cap := 0) (sz := 7) rfl rfl (by simp [maxLen])).re [1, 0, 2, 4]⟩
     ·
      refine po rfl (eb H109 67 [] rfl (by kernel_rfl) (fun g118 w119 hgg118 H120 =>  ?_))
      refine ⟨trivial, fun _ => trivial, ?_⟩
      refine qr rfl (ec dz (args := [.sl gh (oh + 16) 16 (ch - 16)]) rfl (aa (by have h := bG _ (((hrh.keep0 H120.keep).drop_ 16).take (m := 16) (by omega)) (c := ch - 16) (by omega) (by omega); rw [e32] at h; exact h) ?_))
      rintro e w122 ⟨rfl, HS121⟩
      have H123 := H120.cal0 HS121
      refine ⟨_, rfl, ?_⟩
      refine ⟨trivial, fun _ => trivial, ?_⟩
      refine qy rfl (yb (ps := [(0, .str (a9 ((zs.drop 0).take 16))), (1, .str (a9 ((zs.drop 16).take 16))), (2, .sl gn on 7 cB), (3, .sl g118 0 0 0)]) (cells := #[.str (a9 ((zs.drop 0).take 16)), .str (a9 ((zs.drop 16).take 16)), .sl gn on 7 cB, .sl g118 0 0 0, .ns, .bool false]) rfl (by kernel_rfl)) (dx rfl (eN H123 1 [.str (a9 ((zs.drop 0).take 16)), .str (a9 ((zs.drop 16).take 16)), .sl gn on 7 cB, .sl g118 0 0 0, .ns, .bool false] rfl dv (fun w125 H124 =>  ?_)))
      refine ⟨trivial, fun _ => trivial, ?_⟩
      refine pn ?_
      exact ⟨_, _, _, _, rfl, rfl, rfl, rfl, rfl, (H124.rowOf (i := 0) (cap := 0) (sz := 7) rfl rfl (by simp [maxLen])).re [1, 0, 2, 4]⟩
    ·
     refine po rfl (eb H106 67 [] rfl (by kernel_rfl) (fun g126 w127 hgg126 H128 =>  ?_))
     refine ⟨trivial, fun _ => trivial, ?_⟩
     refine qr rfl (ec dz (args := [.sl gh oh 16 ch]) rfl (aa (by have h := bG _ ((hrh.keep0 H128.keep).take (m := 16) (by omega)) (c := ch) (by omega) (by omega); rw [e16] at h; exact h) ?_))
     rintro e w130 ⟨rfl, HS129⟩
     have H131 := H128.cal0 HS129
     refine ⟨_, rfl, ?_⟩
     refine ⟨trivial, fun _ => trivial, ?_⟩
     refine qr rfl (ec dz (args := [.sl gh (oh + 16) 16 (ch - 16)]) rfl (aa (by have h := bG _ (((hrh.keep0 H131.keep).drop_ 16).take (m := 16) (by omega)) (c := ch - 16) (by omega) (by omega); rw [e32] at h; exact h) ?_))
     rintro e w133 ⟨rfl, HS132⟩
     have H134 := H131.cal0 HS132
     refine ⟨_, rfl, ?_⟩
     refine ⟨trivial, fun _ => trivial, ?_⟩
     refine qy rfl (yb (ps := [(0, .str (a9 ((zs.drop 0).take 16))), (1, .str (a9 ((zs.drop 16).take 16))), (2, .sl gn on 7 cB), (3, .sl g126 0 0 0)]) (cells := #[.str (a9 ((zs.drop 0).take 16)), .str (a9 ((zs.drop 16).take 16)), .sl gn on 7 cB, .sl g126 0 0 0, .ns, .bool false]) rfl (by kernel_rfl)) (dx rfl (eN H134 1 [.str (a9 ((zs.drop 0).take 16)), .str (a9 ((zs.drop 16).take 16)), .sl gn on 7 cB, .sl g126 0 0 0, .ns, .bool false] rfl dv (fun w136 H135 =>  ?_)))
     refine ⟨trivial, fun _ => trivial, ?_⟩
     refine pn ?_
     exact ⟨_, _, _, _, rfl, rfl, rfl, rfl, rfl, (H135.rowOf (i := 0) (cap := 0) (sz := 7) rfl rfl (by simp [maxLen])).re [1, 0, 2, 4]⟩
  ·
   rintro ρ2 w2 ⟨g8, gp, Av, cv, g0, g1, g8e, g10, g12, H2⟩
   refine ad ?_
   have H137 := H2.drew
   refine aO MX (fun w' => w'.cell? ⟨gn, on + 2, none⟩ = some (.u64 (↑z2)) ∧ w'.cell? ⟨gn, on + 1, none⟩ = some (.u64 (↑z1))) (tr 0 8 Pl.done) (by kernel_rfl) (⟨(hDn _ (H137.g 2 rfl)).cellAt 2 (by omega), (hDn _ (H137.g 2 rfl)).cellAt 1 (by omega)⟩) (qm (.sl gn on 10 cB) rfl g10 (qy rfl (aI (a := ⟨gn, on, none⟩) (i := 2) bA rfl rfl (by omega) (by omega)) (qh rfl (fun hS => ah aM rfl hS.1) (qm (.sl gn on 10 cB) rfl g10 (qy rfl (aI (a := ⟨gn, on, none⟩) (i := 1) bA rfl rfl (by omega) (by omega)) (qh rfl (fun hS => ah aM rfl hS.2) (qa (.u64 (↑z2)) rfl rfl (qa (.u64 (↑z1)) rfl rfl (pn ?_)))))))))
   refine fm (fun ρ w' => ∃ (g8 gp : Nat) (Av : Option Addr) (cv : Nat) (okb : Bool) (vd : Value), okb = decide (z1 = 0 ∨ z2 + z1 ≤ N) ∧ (∀ w, RI .u8 w (some ⟨gb, ob, none⟩) N xs → SlI' .u8 w vd (if (z1 = 0 ∨ z2 + z1 ≤ N) then (xs.drop z2).take z1 else [])) ∧ ρ 0 = .sl gb ob N C ∧ ρ 1 = .bool big ∧ ρ 8 = .pt g8 ∧ ρ 10 = .sl gn on 10 cB ∧ ρ 12 = .pt gp ∧ St w aW [aq gp [.str (a9 ((zs.drop 0).take 16)), .str (a9 ((zs.drop 16).take 16)), .sl gn on 7 cB, .slice Av 0 cv, vd, .bool (!okb)] 72, aH 67 7 (.slice Av 0 cv) 0 ([]), Dn, aq g8 [.string (⟨#[]⟩), .string (⟨#[]⟩), .ns, .ns, .ns, .bool false] 72] w') ?_ ?_
   ·
    refine ad ?_
    by_cases hF : (z1 = 0 ∨ z2 + z1 ≤ N)
    ·
     obtain ⟨m0, hm0⟩ : ∃ m, m = min z2 N := ⟨_, rfl⟩
     obtain ⟨m1, hm1⟩ : ∃ m, m = min (z2 + z1) N := ⟨_, rfl⟩
     refine ae (mu (↑z1) rfl (mg g0 rfl (wv rfl (ba co rfl) (wv rfl (an eL be rfl (a6 (by omega) (by omega))) (wv rfl (fH rfl rfl (decide_eq_true (by omega))) (mv (.bool true) rfl (aP rfl rfl (al (v := .sl gb ob N C) g0) (aP rfl rfl (al (v := .u64 (↑z2)) rfl) (aP rfl rfl (al (v := .u64 (↑z1)) rfl) (sJ rfl rfl (ec fV (args := [.sl gb ob N C, .u64 (↑z2), .u64 (↑z1)]) rfl ?_)))))))))))
     refine aa (cZ _ (by omega) (by omega) hF) ?_
     rintro e w139 ⟨rfl, HS138⟩
     have H140 := H137.cal0 HS138
     refine ⟨_, rfl, ?_⟩
     refine wv rfl (aD (b := true) (v := .bool true) rfl rfl) (wn (ay rfl (ae (mg g0 rfl (mu (↑z2) rfl (mg g0 rfl (wv rfl (ba co rfl) (wv rfl (an eL be rfl (a6 (by omega) (by omega))) (wv rfl (iu (c := ↑m0) rfl rfl (by split <;> omega)) (mu (↑z2) rfl (mu (↑z1) rfl ?_)))))))))))
     refine wv rfl (aT (k := .u64) (c := ↑(z2 + z1)) rfl rfl (by rw [a6 (by omega) (by omega)]; omega)) (mg g0 rfl (wv rfl (ba co rfl) (wv rfl (an eL be rfl (a6 (by omega) (by omega))) (wv rfl (iu (c := ↑m1) rfl rfl (by split <;> omega)) (wv rfl ((show Yv _ _ _ _ (.slice (cR (some ⟨gb, ob, none⟩) C m0 1) (m1 - m0) (C - m0)) _ from dH (l := m0) (h := m1) aU rfl (bg rfl (by omega) (Int.toNat_natCast _)) (bg rfl (by omega) (Int.toNat_natCast _)) (by omega) (by omega))) (wv rfl (ab p1 g12) (ws (es H140 0 4 (.slice (cR (some ⟨gb, ob, none⟩) C m0 1) (m1 - m0) (C - m0)) rfl gB (fun w142 H141 =>  ?_)))))))))
     refine wn ?_
     have hv : ∀ w, RI .u8 w (some ⟨gb, ob, none⟩) N xs → SlI' .u8 w (.slice (cR (some ⟨gb, ob, none⟩) C m0 1) (m1 - m0) (C - m0)) (if (z1 = 0 ∨ z2 + z1 ≤ N) then (xs.drop z2).take z1 else []) := fun w hr => ⟨_, _, _, rfl, by
      rw [if_pos hF]; have h := hr.cut (c := C) (l := m0) (m := m1) (by omega) (by omega) hNC
      rcases hF with h0 | h0
      · have e0 : m1 - m0 = 0 := by omega
        rw [h0, List.take_zero]; rw [e0, List.take_zero] at h; rw [e0]; exact h
      · have e1 : m0 = z2 := by omega
        have e2 : m1 = z2 + z1 := by omega
        subst e1; subst e2; rw [Nat.add_sub_cancel_left] at h ⊢; exact h⟩
     exact ⟨_, _, _, _, true, _, (decide_eq_true hF).symm, hv, g0, g1, g8e, g10, g12, H141.re [0, 1, 2, 3]⟩
    ·
     by_cases hF2 : z1 ≤ N
     ·
      refine ae (mu (↑z1) rfl (mg g0 rfl (wv rfl (ba co rfl) (wv rfl (an eL be rfl (a6 (by omega) (by omega))) (wv rfl (fH rfl rfl (decide_eq_true (by omega))) (mv (.bool true) rfl (aP rfl rfl (al (v := .sl gb ob N C) g0) (aP rfl rfl (al (v := .u64 (↑z2)) rfl) (aP rfl rfl (al (v := .u64 (↑z1)) rfl) (sJ rfl rfl (ec fV (args := [.sl gb ob N C, .u64 (↑z2), .u64 (↑z1)]) rfl ?_)))))))))))
      refine aa (dj _ (by omega) (by omega) hF) ?_
      rintro e w144 ⟨rfl, HS143⟩
      have H145 := H137.cal0 HS143
      refine ⟨_, rfl, ?_⟩
      refine wv rfl (aD (b := true) (v := .bool false) rfl rfl) (wn (aj rfl (ae (wv rfl (ab lB g12) (ws (es H145 0 5 (.bool true) rfl cU (fun w147 H146 =>  ?_)))))))
      refine wn ?_
      have hv : ∀ w, RI .u8 w (some ⟨gb, ob, none⟩) N xs → SlI' .u8 w (.ns) (if (z1 = 0 ∨ z2 + z1 ≤ N) then (xs.drop z2).take z1 else []) := fun w hr => ⟨_, _, _, rfl, by rw [if_neg hF]; exact RI.nil _ _ _⟩
      exact ⟨_, _, _, _, false, _, (decide_eq_false hF).symm, hv, g0, g1, g8e, g10, g12, H146.re [0, 1, 2, 3]⟩
     ·
      refine ae (mu (↑z1) rfl (mg g0 rfl (wv rfl (ba co rfl) (wv rfl (an eL be rfl (a6 (by omega) (by omega))) (wv rfl (fH rfl rfl (decide_eq_false (by omega))) (mv (.bool false) rfl (cM rfl rfl (cM rfl rfl (cM rfl rfl (cM rfl rfl (wv rfl (aD (b := false) (v := .bool false) rfl rfl) ?_)))))))))))
      refine wn (aj rfl (ae (wv rfl (ab lB g12) (ws (es H137 0 5 (.bool true) rfl cU (fun w149 H148 =>  ?_))))))
      refine wn ?_
      have hv : ∀ w, RI .u8 w (some ⟨gb, ob, none⟩) N xs → SlI' .u8 w (.ns) (if (z1 = 0 ∨ z2 + z1 ≤ N) then (xs.drop z2).take z1 else []) := fun w hr => ⟨_, _, _, rfl, by rw [if_neg hF]; exact RI.nil _ _ _⟩
      exact ⟨_, _, _, _, false, _, (decide_eq_false hF).symm, hv, g0, g1, g8e, g10, g12, H148.re [0, 1, 2, 3]⟩
   ·
    rintro ρ3 w3 ⟨g8, gp, Av, cv, okb, vd, hokb, hvd, g0, g1, g8e, g10, g12, H3⟩
    obtain ⟨_, _, _, evd, _⟩ := hvd w hr
    refine ad ?_
    have H150 := H3.drew
    refine aO MX (fun w' => w'.cell? ⟨gn, on + 4, none⟩ = some (.u64 (↑z3)) ∧ w'.cell? ⟨gn, on + 5, none⟩ = some (.u64 (↑z4))) (tr 0 8 Pl.done) (by kernel_rfl) (⟨(hDn _ (H150.g 2 rfl)).cellAt 4 (by omega), (hDn _ (H150.g 2 rfl)).cellAt 5 (by omega)⟩) (qm (.sl gn on 10 cB) rfl g10 (qy rfl (aI (a := ⟨gn, on, none⟩) (i := 4) bA rfl rfl (by omega) (by omega)) (qh rfl (fun hS => ah aM rfl hS.1) (qm (.sl gn on 10 cB) rfl g10 (qy rfl (aI (a := ⟨gn, on, none⟩) (i := 5) bA rfl rfl (by omega) (by omega)) (qh rfl (fun hS => ah aM rfl hS.2) (qa (.u64 (↑z3)) rfl rfl (qa (.u64 (↑z4)) rfl rfl (pn (ad (ad ?_)))))))))))
    by_cases hz0 : z4 = 0
    ·
     refine ae (mu (↑z4) rfl (wv rfl (aL rfl rfl (beq_iff_eq.2 (by omega))) (wn (ay rfl (sr (wv rfl (H150.loadA (i := 0) (vs := [.str (a9 ((zs.drop 0).take 16)), .str (a9 ((zs.drop 16).take 16)), .sl gn on 7 cB, .slice Av 0 cv, vd, .bool (!okb)]) rfl ji g12 rfl rfl) (ws (bE H150 3 (vs := [.str (a9 ((zs.drop 0).take 16)), .str (a9 ((zs.drop 16).take 16)), .sl gn on 7 cB, .slice Av 0 cv, vd, .bool (!okb)]) (m := 6) rfl dv g8e rfl rfl (nl rfl) (by simp [Value.oneCell', evd]) (cs' := [.str (a9 ((zs.drop 0).take 16)), .str (a9 ((zs.drop 16).take 16)), .sl gn on 7 cB, .slice Av 0 cv, vd, .bool (!okb)]) rfl (fun w152 H151 =>  ?_)))))))))
     refine av (.bool true) rfl (wn (rq ?_))
     have hsr : dt big xs (dC true big (hs.take 80)) = some ({ (⟨a9 ((zs.drop 0).take 16), a9 ((zs.drop 16).take 16), n8 big (zs.drop 32), z1, z2, n4 big (zs.drop 52), ↑z3, ↑z4, n4 big (zs.drop 64), []⟩ : SecD) with rels := [] } : SecD) := by rw [← hzs, hs2]; unfold dt; rw [if_pos (show (↑z4 : Int).toNat = 0 by omega)]
     subst hokb
     exact ⟨.inr rfl, _, eB rfl ji (by exact g8e) (H151.g 3 rfl) rfl (by exact rfl), .inl ⟨({ (⟨a9 ((zs.drop 0).take 16), a9 ((zs.drop 16).take 16), n8 big (zs.drop 32), z1, z2, n4 big (zs.drop 52), ↑z3, ↑z4, n4 big (zs.drop 64), []⟩ : SecD) with rels := [] } : SecD), by omega, hsr, ⟨SecD.part ({ (⟨a9 ((zs.drop 0).take 16), a9 ((zs.drop 16).take 16), n8 big (zs.drop 32), z1, z2, n4 big (zs.drop 52), ↑z3, ↑z4, n4 big (zs.drop 64), []⟩ : SecD) with rels := [] } : SecD) N xs, _, _, vd⟩, Res.all [aH 67 7 (.slice Av 0 cv) 0 ([]), Dn], rfl, rfl, H151.reAll [1, 2] [], fun w hh hrw => by have hh := aV.1 hh; exact ⟨⟨_, _, _, rfl, (hDn w (hh Dn (by simp))).take (m := 7) (by omega)⟩, by obtain ⟨A, c, e, hv, _⟩ := aw (hh (aH 67 7 (.slice Av 0 cv) 0 ([])) (by simp)); exact ⟨A, _, c, e, hv⟩, hvd w hrw⟩⟩⟩
    ·
     refine ae (mu (↑z4) rfl (wv rfl (aL rfl rfl (beq_eq_false_iff_ne.2 (by omega))) (wn (aj rfl (wk (ad (ad ?_)))))))
     by_cases hG2 : z3 + z4 * 8 ≤ N
     ·
      refine ae (mg g0 rfl (mu (↑z3) rfl (mu (↑z4) rfl (wv rfl (c6 (k := .u64) (c := ↑(8 * z4)) rfl rfl (by rw [a6 (by omega) (by omega)]; omega)) (wE [.sl gb ob N C, .u64 (↑z3), .u64 (↑(8 * z4))] fV rfl rfl (aa (cZ _ (by omega) (by omega) (by omega)) ?_))))))
      rintro e w154 ⟨rfl, HS153⟩
      have H155 := H150.cal0 HS153
      refine ⟨_, rfl, ?_⟩
      refine wv rfl (bB rfl) (wn (aj rfl (wk (ad (sr (mu (↑z4) rfl (mu 0 rfl (wn (aC ?_)))))))))
      have H40 : St w aW [aH 67 7 (.slice Av 0 cv) 0 (((bw big z4 ((xs.drop z3).take (z4 * 8))).take 0).flatMap Rel.cells), aq gp [.str (a9 ((zs.drop 0).take 16)), .str (a9 ((zs.drop 16).take 16)), .sl gn on 7 cB, .slice Av 0 cv, vd, .bool (!okb)] 72, Dn, aq g8 [.string (⟨#[]⟩), .string (⟨#[]⟩), .ns, .ns, .ns, .bool false] 72] w154 := H155.re [1, 0, 2, 3]
      refine bW (fun ρ w' => ∃ j : Nat, ∃ Aj : Option Addr, ∃ cj : Nat, ρ 0 = .sl gb ob N C ∧ ρ 1 = .bool big ∧ ρ 8 = .pt g8 ∧ ρ 10 = .sl gn on 10 cB ∧ ρ 12 = .pt gp ∧ ρ 15 = .u64 ↑z3 ∧ ρ 89 = .u64 ↑z4 ∧ ρ 90 = .u64 ↑j ∧ j ≤ z4 ∧ St w aW [aH 67 7 (.slice Aj j cj) j (((bw big z4 ((xs.drop z3).take (z4 * 8))).take j).flatMap Rel.cells), aq gp [.str (a9 ((zs.drop 0).take 16)), .str (a9 ((zs.drop 16).take 16)), .sl gn on 7 cB, .slice Aj j cj, vd, .bool (!okb)] 72, Dn, aq g8 [.string (⟨#[]⟩), .string (⟨#[]⟩), .ns, .ns, .ns, .bool false] 72] w') (fun ρ _ => z4 + 1 - nv (ρ 90)) (⟨0, _, _, g0, g1, g8e, g10, g12, rfl, rfl, rfl, by omega, H40⟩) ?_
      rintro ρ w4 ⟨j, Aj, cj, g0, g1, g8e, g10, g12, g15, g89, g90, hj, H4⟩
      refine sr (wv rfl (cx g90 g89) (wn (ad ?_)))
      refine cf rfl (fun hb156 => ?_) (fun hb156 => ?_)
      ·
       simp only [bx] at hb156
       refine wk (ad (aC (sr (mg g90 rfl (au (↑j) rfl (wn (sr (mg g0 rfl (mg g15 rfl (mu (↑j) rfl (wv rfl (c6 (k := .u64) (c := ↑(8 * j)) rfl rfl (by rw [a6 (by omega) (by omega)]; omega)) ?_)))))))))))
       refine wv rfl (aT (k := .u64) (c := ↑(z3 + (8 * j))) rfl rfl (by rw [a6 (by omega) (by omega)]; omega)) (wv rfl ((am (l := (z3 + (8 * j))) (h := N) aU rfl (bs rfl (by omega) (Int.toNat_natCast _)) bn (by omega) (by omega) (by omega) (by omega) : Yv _ _ _ _ (.sl gb (ob + (z3 + (8 * j))) (N - (z3 + (8 * j))) (C - (z3 + (8 * j)))) _)) (eh gb (ob + (z3 + (8 * j))) (N - (z3 + (8 * j))) (C - (z3 + (8 * j))) rfl (wn ?_)))
       have H157 := H4.drew
       refine dL MX (fun w' => w'.cell? ⟨gp, 3, none⟩ = some (.slice Aj j cj)) (fun w' => True) 16 (Pl.take 0 (Pl.takeS 1 (tr 2 3 (tr 7 3 (Pl.run 5 (Pl.take 6 (Pl.run 10 (Pl.take 11 (Pl.run 12 (Pl.run 13 (Pl.run 14 (Pl.take 15 (Pl.run 16 Pl.done))))))))))))) (by kernel_rfl) rfl (H157.c 1 3 rfl rfl) (trivial) (qy rfl (ab (o := 0) jX g12) (qs rfl rfl (fun _ hS => ah my rfl hS) (qm (.bool big) rfl g1 (qm (.bool big) rfl g1 (qm (.sl gb (ob + (z3 + (8 * j))) (N - (z3 + (8 * j))) (C - (z3 + (8 * j)))) rfl rfl (qm (.bool big) rfl g1 (qm (.sl gb (ob + (z3 + (8 * j))) (N - (z3 + (8 * j))) (C - (z3 + (8 * j)))) rfl rfl (qt rfl (fun _ hS => (am (l := 4) (h := N - (z3 + (8 * j))) aU rfl (bs rfl (by omega) rfl) bn (by omega) (by omega) (by omega) (by omega) : Yv _ _ _ _ (.sl gb (ob + (z3 + (8 * j)) + 4) (N - (z3 + (8 * j)) - 4) (C - (z3 + (8 * j)) - 4)) _)) (qr rfl (ec kf (args := [.bool big, .i64 4, .sl gb (ob + (z3 + (8 * j))) (N - (z3 + (8 * j))) (C - (z3 + (8 * j)))]) rfl (aa (by have h := dw big (wd := 4) _ (RI.drop_ (hr.keep0 H157.keep) (z3 + (8 * j))) (c := C - (z3 + (8 * j))) (hby.drop _) (by omega) (by omega); rw [hX] at h; exact h) ?_)))))))))))
       rintro e w159 ⟨rfl, HS158⟩
       have H160 := H157.cal0 HS158
       refine ⟨_, rfl, ?_⟩
       refine ⟨trivial, fun _ => H160.c 1 3 rfl rfl, ?_⟩
       refine qy rfl (an (c := n4 big (xs.drop (z3 + (8 * j)))) cb iV rfl (d6 (aR big (hby.drop _)).1 (by have := (aR big (hby.drop ((z3 + (8 * j))))).2; omega))) (qr rfl (ec kf (args := [.bool big, .i64 4, .sl gb (ob + (z3 + (8 * j)) + 4) (N - (z3 + (8 * j)) - 4) (C - (z3 + (8 * j)) - 4)]) rfl (aa (by have h := dw big (wd := 4) _ (RI.drop_ (hr.keep0 H160.keep) ((z3 + (8 * j)) + 4)) (c := C - (z3 + (8 * j)) - 4) (hby.drop _) (by omega) (by omega); rw [hX] at h; exact h) ?_)))
       rintro e w162 ⟨rfl, HS161⟩
       have H163 := H160.cal0 HS161
       refine ⟨_, rfl, ?_⟩
       refine ⟨trivial, fun _ => H163.c 1 3 rfl rfl, ?_⟩
       refine qy rfl (an (c := n4 big (xs.drop ((z3 + (8 * j)) + 4))) cb iV rfl (d6 (aR big (hby.drop _)).1 (by have := (aR big (hby.drop (((z3 + (8 * j)) + 4)))).2; omega))) (qr rfl (ec CK19 (args := [.bool big, .u32 (n4 big (xs.drop (z3 + (8 * j)))), .u32 (n4 big (xs.drop ((z3 + (8 * j)) + 4)))]) rfl ?_))
       obtain ⟨rr, hrr⟩ : ∃ r, r = f7 big (n4 big (xs.drop (z3 + (8 * j)))) (n4 big (xs.drop ((z3 + (8 * j)) + 4))) := ⟨_, rfl⟩
       refine aa (by have h := m4 big (a := n4 big (xs.drop (z3 + (8 * j)))) (b := n4 big (xs.drop ((z3 + (8 * j)) + 4))) (w162) (aR big (hby.drop _)).1 (aR big (hby.drop _)).2 (aR big (hby.drop _)).1 (aR big (hby.drop _)).2; rw [← hrr] at h; exact h) ?_
       rintro e w165 ⟨rfl, HS164⟩
       have H166 := H163.cal0 HS164
       refine ⟨_, rfl, ?_⟩
       refine ⟨trivial, fun _ => H166.c 1 3 rfl rfl, ?_⟩
       refine qr rfl (jv H166 (ps := [(0, .agg #[.u32 rr.addr, .u32 rr.value, .u8 rr.type, .u8 rr.len, .bool rr.pcrel, .bool rr.extern, .bool rr.scattered])]) (e := 67) (cs := [.u32 rr.addr, .u32 rr.value, .u8 rr.type, .u8 rr.len, .bool rr.pcrel, .bool rr.extern, .bool rr.scattered]) rfl (by kernel_rfl) (fun g167 w168 hgg167 H169 =>  ?_))
       refine ⟨trivial, fun _ => H169.c 2 3 rfl rfl, ?_⟩
       refine qr rfl (bR H169 1 (m := 1) (news := [.u32 rr.addr, .u32 rr.value, .u8 rr.type, .u8 rr.len, .bool rr.pcrel, .bool rr.extern, .bool rr.scattered]) rfl TU65 TB67 rfl (by decide) rfl rfl rfl (H169.news (i := 0) rfl) (by simp [Value.oneCell', evd]) (by simp only [maxLen]; omega) (by omega) (fun v170 w171 H172 =>  ?_))
       obtain ⟨A173, c174, rfl, _, _⟩ := aw (H172.g 1 rfl)
       refine ⟨trivial, fun _ => H172.c 2 3 rfl rfl, ?_⟩
       refine qy rfl (ab (o := 0) jX g12) (dx rfl (es H172 2 3 (.slice A173 (j + 1) c174) rfl my (fun w176 H175 =>  ?_)))
       refine ⟨trivial, fun h => absurd h (by decide), ?_⟩
       refine ck (ao (ac (ae (wv rfl (aT (k := .u64) (c := ↑j + 1) g90 rfl (a6 (by omega) (by omega))) (mu (↑j + 1) rfl (wn ?_))))))
       have hd := kv (big := big) (xs := xs) (z3 := z3) (show j < z4 by omega)
       rw [← hrr] at hd
       have hcur : ((bw big z4 ((xs.drop z3).take (z4 * 8))).take j).flatMap Rel.cells ++ [.u32 rr.addr, .u32 rr.value, .u8 rr.type, .u8 rr.len, .bool rr.pcrel, .bool rr.extern, .bool rr.scattered] = ((bw big z4 ((xs.drop z3).take (z4 * 8))).take (j + 1)).flatMap Rel.cells := by rw [da hd]; rfl
       rw [hcur] at H175
       exact ⟨⟨j + 1, _, _, g0, g1, g8e, g10, g12, g15, g89, rfl, by omega, H175.re [1, 2, 3, 4]⟩, by show z4 + 1 - nv (.u64 (↑j + 1)) < z4 + 1 - nv (ρ 90); rw [g90]; simp only [nv]; omega⟩
      ·
       simp only [bx] at hb156
       refine bF (a8 (a8 (aY (ac (sr (wv rfl (H4.loadA (i := 1) (vs := [.str (a9 ((zs.drop 0).take 16)), .str (a9 ((zs.drop 16).take 16)), .sl gn on 7 cB, .slice Aj j cj, vd, .bool (!okb)]) rfl ji g12 rfl rfl) (ws (bE H4 3 (vs := [.str (a9 ((zs.drop 0).take 16)), .str (a9 ((zs.drop 16).take 16)), .sl gn on 7 cB, .slice Aj j cj, vd, .bool (!okb)]) (m := 6) rfl dv g8e rfl rfl (nl rfl) (by simp [Value.oneCell', evd]) (cs' := [.str (a9 ((zs.drop 0).take 16)), .str (a9 ((zs.drop 16).take 16)), .sl gn on 7 cB, .slice Aj j cj, vd, .bool (!okb)]) rfl (fun w178 H177 =>  ?_)))))))))
       refine av (.bool true) rfl (wn (aQ ?_))
       have hsr : dt big xs (dC true big (hs.take 80)) = some ({ (⟨a9 ((zs.drop 0).take 16), a9 ((zs.drop 16).take 16), n8 big (zs.drop 32), z1, z2, n4 big (zs.drop 52), ↑z3, ↑z4, n4 big (zs.drop 64), []⟩ : SecD) with rels := bw big z4 ((xs.drop z3).take (z4 * 8)) } : SecD) := by rw [← hzs, hs2]; unfold dt; rw [if_neg (show ¬ (↑z4 : Int).toNat = 0 by omega), if_pos (show (↑z3 : Int).toNat + (↑z4 : Int).toNat * 8 ≤ xs.length by rw [hr.1]; omega)]; simp only [Int.toNat_natCast]
       have hjz : j = z4 := by omega
       rw [List.take_of_length_le (by rw [ed]; omega)] at H177
       subst hokb
       exact ⟨.inr rfl, _, eB rfl ji (by exact g8e) (H177.g 3 rfl) rfl (by exact rfl), .inl ⟨({ (⟨a9 ((zs.drop 0).take 16), a9 ((zs.drop 16).take 16), n8 big (zs.drop 32), z1, z2, n4 big (zs.drop 52), ↑z3, ↑z4, n4 big (zs.drop 64), []⟩ : SecD) with rels := bw big z4 ((xs.drop z3).take (z4 * 8)) } : SecD), by omega, hsr, ⟨SecD.part ({ (⟨a9 ((zs.drop 0).take 16), a9 ((zs.drop 16).take 16), n8 big (zs.drop 32), z1, z2, n4 big (zs.drop 52), ↑z3, ↑z4, n4 big (zs.drop 64), []⟩ : SecD) with rels := bw big z4 ((xs.drop z3).take (z4 * 8)) } : SecD) N xs, _, _, vd⟩, Res.all [aH 67 7 (.slice Aj j cj) j ((bw big z4 ((xs.drop z3).take (z4 * 8))).flatMap Rel.cells), Dn], rfl, rfl, H177.reAll [0, 2] [], fun w hh hrw => by have hh := aV.1 hh; exact ⟨⟨_, _, _, rfl, (hDn w (hh Dn (by simp))).take (m := 7) (by omega)⟩, by obtain ⟨A, c, e, hv, _⟩ := aw (hh (aH 67 7 (.slice Aj j cj) j ((bw big z4 ((xs.drop z3).take (z4 * 8))).flatMap Rel.cells)) (by simp)); exact ⟨A, _, c, e, hv⟩, hvd w hrw⟩⟩⟩
     ·
      refine ae (mg g0 rfl (mu (↑z3) rfl (mu (↑z4) rfl (wv rfl (c6 (k := .u64) (c := ↑(8 * z4)) rfl rfl (by rw [a6 (by omega) (by omega)]; omega)) (wE [.sl gb ob N C, .u64 (↑z3), .u64 (↑(8 * z4))] fV rfl rfl (aa (dj _ (by omega) (by omega) (by omega)) ?_))))))
      rintro e w180 ⟨rfl, HS179⟩
      have H181 := H150.cal0 HS179
      refine ⟨_, rfl, ?_⟩
      refine wv rfl (bB rfl) (wn (ay rfl (sr (wv rfl (yb (ps := []) (cells := #[.string (⟨#[]⟩), .string (⟨#[]⟩), .ns, .ns, .ns, .bool false]) rfl (by kernel_rfl)) (ws (bE H181 3 (vs := [.string (⟨#[]⟩), .string (⟨#[]⟩), .ns, .ns, .ns, .bool false]) (m := 6) rfl dv g8e rfl rfl (nl rfl) (by simp [Value.oneCell', evd]) (cs' := [.string (⟨#[]⟩), .string (⟨#[]⟩), .ns, .ns, .ns, .bool false]) rfl (fun w183 H182 =>  ?_)))))))
      refine av (.bool false) rfl (wn (rq ?_))
      exact ⟨.inr rfl, _, eB rfl ji (by exact g8e) (H182.g 3 rfl) rfl (by exact rfl), .inr ⟨.inr (by rw [← hzs, hs2]; unfold dt; rw [if_neg (show ¬ (↑z4 : Int).toNat = 0 by omega), if_neg (show ¬ (↑z3 : Int).toNat + (↑z4 : Int).toNat * 8 ≤ xs.length by rw [hr.1]; omega)]), rfl, H182.sub (List.nil_sublist _)⟩⟩
 ·
  refine ae (mv (.bool big) rfl (mv (.bool true) rfl (wE [.bool true] sH rfl rfl (aa (eO _) ?_))))
  rintro e w185 ⟨AW, nW, cW, DW, rfl, hcW, HS184, hDW⟩
  have H186 := H3.cal0 HS184
  refine ⟨_, rfl, ?_⟩
  refine mv (.slice Ah nh ch) rfl (wE [.bool big, .slice AW nW cW, .slice Ah nh ch] gM rfl rfl (aa (dA (ws := fZ true) (bs := hs) big _ (hDW _ (H186.g 0 rfl)) (iK _) (hrh.keep0 H186.keep) hch (by omega) hbh (by decide) (show nh < 80 by omega)) ?_))
  rintro e w188 ⟨rfl, HS187⟩
  have H189 := H186.cal0 HS187
  refine ⟨_, rfl, ?_⟩
  refine mv (.tuple #[.ns, .bool false]) rfl (we (.ns) rfl rfl (we (.bool false) rfl rfl (av (.ns) rfl (av (.bool false) rfl (wn (ad (sr (mv (.bool false) rfl (wv rfl (bB rfl) (wn (ay rfl ?_)))))))))))
  refine sr (wv rfl (yb (ps := []) (cells := #[.string (⟨#[]⟩), .string (⟨#[]⟩), .ns, .ns, .ns, .bool false]) rfl (by kernel_rfl)) (ws (eN H189 1 [.string (⟨#[]⟩), .string (⟨#[]⟩), .ns, .ns, .ns, .bool false] rfl dv (fun w191 H190 =>  ?_))))
  refine av (.bool false) rfl (wn (rq ?_))
  exact ⟨.inr rfl, _, eB rfl ji (by exact rfl) (H190.g 1 rfl) rfl (by exact rfl), .inr ⟨.inl (by omega), rfl, H190.sub (List.nil_sublist _)⟩⟩
end Go.Proofs.YtlndedfkgiafhaaDoor
namespace Go.Proofs.YtlndedfkgiafhaaDoor
open Go Go.RowKit Go.Proofs
theorem cO : FA 33 1 1 := fa (by kernel_rfl)
theorem dF : FA 33 2 2 := fa (by kernel_rfl)
theorem eS : cY Tryd.prog 29 := bz (by kernel_rfl)
theorem ox : Tryd.prog.underlying 29 = some (.slice 74) := by kernel_rfl
theorem oA : (Tryd.prog.info? 74).map (fun i => (i.zero, i.size, i.bytes)) = some (some (.agg #[.i64 0, .ns, .string (⟨#[]⟩), .ns]), 4, 72) := by kernel_rfl
theorem pb {fb gr or_ nr cr base : Nat} {nL cL : Nat} {AL : Option Addr} {lv : List LoadV} {vh vp vs vi : Value} {raw : List Int} (big : Bool) (w : World) (h0 : St w (Res.all [aq fb [vh, .bool big, .slice AL nL cL, vp, vs, vi] 33, aH 74 4 (.slice AL nL cL) nL (lv.flatMap LoadV.cells)]).F [aq fb [vh, .bool big, .slice AL nL cL, vp, vs, vi] 33, aH 74 4 (.slice AL nL cL) nL (lv.flatMap LoadV.cells)] w) (hB : ∀ g, (Res.all [aq fb [vh, .bool big, .slice AL nL cL, vp, vs, vi] 33, aH 74 4 (.slice AL nL cL) nL (lv.flatMap LoadV.cells)]).F g → base ≤ g) (hbw : base ≤ w.heap.size) (hrr : RI .u8 w (some ⟨gr, or_, none⟩) nr raw) (hrb : Byt raw) (hnr : nr ≤ cr) (hnN : nr < 10485760) (hgr : gr < base) (hnL : nL ≤ 10485760) :
 Calls Tryd.prog 32 #[.pt fb, .i64 3, .i64 0, .sl gr or_ nr cr] w fun e w' => (∃ (ld : LoadD) (x : LoadV) (AL2 : Option Addr) (cL2 : Nat) (D : Res), (∀ s, df big raw s = some { s with loads := s.loads ++ [ld] }) ∧ x.l = ld ∧ ld.raw = raw ∧ x.vr = .sl gr or_ nr cr ∧ e = .returned (.bool true) ∧ St w (Res.all [aq fb [vh, .bool big, .slice AL nL cL, vp, vs, vi] 33, aH 74 4 (.slice AL nL cL) nL (lv.flatMap LoadV.cells)]).F [D, aq fb [vh, .bool big, .slice AL2 (nL + 1) cL2, vp, vs, vi] 33, aH 74 4 (.slice AL2 (nL + 1) cL2) (nL + 1) ((lv ++ [x]).flatMap LoadV.cells)] w' ∧ ∀ w, D.φ w → SlI' .u64 w x.vn ld.nums) ∨ ((∀ s, df big raw s = none) ∧ e = .returned (.bool false) ∧ St w (Res.all [aq fb [vh, .bool big, .slice AL nL cL, vp, vs, vi] 33, aH 74 4 (.slice AL nL cL) nL (lv.flatMap LoadV.cells)]).F [] w') := by
 refine a5 (args := [.pt fb, .i64 3, .i64 0, .sl gr or_ nr cr]) Tryd.func32 rfl rfl rfl ?_
 have H0 : St _ _ [aq fb [vh, .bool big, .slice AL nL cL, vp, vs, vi] 33, aH 74 4 (.slice AL nL cL) nL (lv.flatMap LoadV.cells)] _ := h0
 refine sr (av (.bool false) rfl (wn (ad ?_)))
 have hrl := hrr.1
 by_cases hfit : 12 ≤ nr
 ·
  obtain ⟨ys, hys⟩ : ∃ q, q = (raw.drop 0).take 12 := ⟨_, rfl⟩
  have hbys : Byt ys := by rw [hys]; exact (hrb.drop _).take _
  obtain ⟨q8, hq8⟩ : ∃ q : Nat, (q : Int) = n4 big (ys.drop 8) := ⟨(n4 big (ys.drop 8)).toNat, Int.toNat_of_nonneg (aR big (hbys.drop _)).1⟩
  have hltq8 : (q8 : Int) < 4294967296 := by rw [hq8]; exact (aR big (hbys.drop _)).2
  have hNL : bp big (List.replicate 3 4) raw = [n4 big (ys.drop 0), n4 big (ys.drop 4), ↑q8] := by rw [hq8, hys]; exact lz big 3 12 (by omega) raw
  have H1 := H0.drew
  refine aO MX (fun w' => w'.cell? ⟨fb, 1, none⟩ = some (.bool big)) (tr 0 6 (Pl.take 7 (Pl.run 6 (Pl.run 8 (tr 9 5 Pl.done))))) (by kernel_rfl) (H1.c 0 1 rfl rfl) (qm (.pt fb) rfl rfl (qy rfl (ag rfl) (qy rfl (ab (o := 0) cO rfl) (qh rfl (fun hS => ah cU rfl hS) (qm (.i64 0) rfl rfl (qy rfl (aT (k := .i64) (c := 3) rfl rfl rfl) (qm (.sl gr or_ nr cr) rfl rfl (qr rfl (ec kg (args := [.i64 3]) rfl (aa (dQ (n := 3) _ (by omega)) ?_))))))))))
  rintro e w3 ⟨A4, c4, rfl, HS2⟩
  have H4 := H1.cal0 HS2
  refine ⟨_, rfl, ?_⟩
  refine ⟨H4.c 1 1 rfl rfl, fun _ => trivial, ?_⟩
  refine qr rfl (ec gM (args := [.bool big, .slice A4 3 c4, .sl gr or_ nr cr]) rfl (aa (db (ws := List.replicate 3 4) (bs := raw) big _ (ce (H4.g 0 rfl)) (eJ _) (hrr.keepB H4.keep hB hgr) hnr (by omega) hrb (by decide) (K := 3) (by rw [eI]; omega) (by rw [hNL]; rfl) (by omega)) ?_))
  rintro e w6 ⟨gn, on, cB, Dn, rfl, hcB, HS5, hDn⟩
  rw [hNL] at hDn
  have H7 := H4.cal0 HS5
  refine ⟨_, rfl, ?_⟩
  refine ⟨H7.c 2 1 rfl rfl, fun _ => trivial, ?_⟩
  refine qm (.tuple #[.sl gn on 3 cB, .bool true]) rfl rfl (qy rfl (a7 (v := .sl gn on 3 cB) rfl rfl) (qy rfl (a7 (v := .bool true) rfl rfl) (qa (.sl gn on 3 cB) rfl rfl (qa (.bool true) rfl rfl (pn (ad (sr (mv (.bool true) rfl (wv rfl (bB rfl) (mv (.bool false) rfl (aP rfl rfl (al (v := .sl gn on 3 cB) rfl) ?_)))))))))))
  refine aP rfl rfl (aI bA rfl rfl (by omega) (by omega)) (aP rfl rfl (ah aM rfl (show World.cell? _ _ = some (.u64 (↑q8)) from (hDn _ (H7.g 0 rfl)).cellAt 2 (by omega))) (aP rfl rfl (al (v := .sl gr or_ nr cr) rfl) (aP rfl rfl (ba co rfl) (aP rfl rfl (an eL be rfl (a6 (by omega) (by omega))) (aP rfl rfl (i5 rfl rfl) (wv rfl (aD (b := false) (v := .bool (decide ((↑nr : Int) ≤ ↑q8))) rfl rfl) (wn ?_)))))))
  refine cf rfl (fun hb8 => ?_) (fun hb8 => ?_)
  ·
   simp only [bx] at hb8
   refine sr (av (.bool false) rfl (wn (rq ?_)))
   exact ⟨.inr rfl, _, r1 (.bool false) rfl _ _, .inr ⟨fun s => by unfold df; rw [if_neg (by omega), ← hys, ← hq8, if_pos (by omega)], rfl, H7.sub (List.nil_sublist _)⟩⟩
  ·
   simp only [bx] at hb8
   refine wk (ad ?_)
   have H9 := H7.drew
   refine dL MX (fun w' => w'.cell? ⟨fb, 2, none⟩ = some (.slice AL nL cL)) (fun w' => w'.cell? ⟨gn, on + 2, none⟩ = some (.u64 (↑q8))) 20 (tr 0 4 (Pl.takeS 4 (tr 5 7 (Pl.take 13 (Pl.take 14 (Pl.run 12 (Pl.take 15 (Pl.run 16 (Pl.run 17 (Pl.take 18 (Pl.take 19 (Pl.run 20 Pl.done)))))))))))) (by kernel_rfl) rfl (H9.c 2 2 rfl rfl) (show World.cell? _ _ = some (.u64 (↑q8)) from (hDn _ (H9.g 0 rfl)).cellAt 2 (by omega)) (qm (.pt fb) rfl rfl (qm (.pt fb) rfl rfl (qy rfl (ag rfl) (qy rfl (ab (o := 0) dF rfl) (qs rfl rfl (fun _ hS => ah eS rfl hS) (qm (.i64 3) rfl rfl (qm (.sl gr or_ nr cr) rfl rfl (qm (.sl gr or_ nr cr) rfl rfl (qm (.sl gn on 3 cB) rfl rfl (qy rfl (aI (a := ⟨gn, on, none⟩) (i := 2) bA rfl rfl (by omega) (by omega)) (qh rfl (fun hS => ah aM rfl hS) ?_)))))))))))
   refine qt rfl (fun _ hS => (am (l := q8) (h := nr) aU rfl (bs rfl (by omega) (Int.toNat_natCast _)) bn (by omega) (by omega) (by omega) (by omega) : Yv _ _ _ _ (.sl gr (or_ + q8) (nr - q8) (cr - q8)) _)) (qm (.sl gn on 3 cB) rfl rfl (qy rfl ((show Yv _ _ _ _ (.slice (cR (some ⟨gn, on, none⟩) cB 3 1) 0 (cB - 3)) _ from dH (l := 3) (h := 3) bA rfl (bg rfl (by omega) rfl) (bh _ _) (by omega) (by omega))) (qr rfl (ec dz (args := [.sl gr (or_ + q8) (nr - q8) (cr - q8)]) rfl (aa (bG _ ((hrr.keepB H9.keep hB hgr).drop_ q8) (by omega) (by omega)) ?_)))))
   rintro e w11 ⟨rfl, HS10⟩
   have H12 := H9.cal0 HS10
   refine ⟨_, rfl, ?_⟩
   refine ⟨show World.cell? _ _ = some (.u64 (↑q8)) from (hDn _ (H12.g 0 rfl)).cellAt 2 (by omega), fun _ => H12.c 2 2 rfl rfl, ?_⟩
   refine qy rfl (yb (ps := [(0, .i64 3), (1, .sl gr or_ nr cr), (2, .str (a9 (raw.drop q8))), (3, .slice (cR (some ⟨gn, on, none⟩) cB 3 1) 0 (cB - 3))]) (cells := #[.i64 3, .sl gr or_ nr cr, .str (a9 (raw.drop q8)), .slice (cR (some ⟨gn, on, none⟩) cB 3 1) 0 (cB - 3)]) rfl (by kernel_rfl)) (qr rfl (jv H12 (ps := [(0, .agg #[.i64 3, .sl gr or_ nr cr, .str (a9 (raw.drop q8)), .slice (cR (some ⟨gn, on, none⟩) cB 3 1) 0 (cB - 3)])]) (e := 74) (cs := [.i64 3, .sl gr or_ nr cr, .str (a9 (raw.drop q8)), .slice (cR (some ⟨gn, on, none⟩) cB 3 1) 0 (cB - 3)]) rfl (by kernel_rfl) (fun g13 w14 hgg13 H15 =>  ?_)))
   refine ⟨show World.cell? _ _ = some (.u64 (↑q8)) from (hDn _ (H15.g 1 rfl)).cellAt 2 (by omega), fun _ => H15.c 3 2 rfl rfl, ?_⟩
   refine qr rfl (bR H15 4 (m := 1) (news := [.i64 3, .sl gr or_ nr cr, .str (a9 (raw.drop q8)), .slice (cR (some ⟨gn, on, none⟩) cB 3 1) 0 (cB - 3)]) rfl ox oA rfl (by decide) rfl rfl rfl (H15.news (i := 0) rfl) (by simp [Value.oneCell']) (by simp only [maxLen]; omega) (by omega) (fun v16 w17 H18 =>  ?_))
   obtain ⟨A19, c20, rfl, _, _⟩ := aw (H18.g 4 rfl)
   refine ⟨show World.cell? _ _ = some (.u64 (↑q8)) from (hDn _ (H18.g 1 rfl)).cellAt 2 (by omega), fun _ => H18.c 3 2 rfl rfl, ?_⟩
   refine qy rfl (ag rfl) (qy rfl (ab (o := 0) dF rfl) (dx rfl (es H18 3 2 (.slice A19 (nL + 1) c20) rfl eS (fun w22 H21 =>  ?_))))
   refine ⟨show World.cell? _ _ = some (.u64 (↑q8)) from (hDn _ (H21.g 1 rfl)).cellAt 2 (by omega), fun h => absurd h (by decide), ?_⟩
   refine pn (sr (av (.bool true) rfl (wn (aQ ?_))))
   have hcur : lv.flatMap LoadV.cells ++ [.i64 3, .sl gr or_ nr cr, .str (a9 (raw.drop q8)), .slice (cR (some ⟨gn, on, none⟩) cB 3 1) 0 (cB - 3)] = (lv ++ [(LoadV.mk (⟨3, raw, a9 (raw.drop q8), []⟩ : LoadD) (.sl gr or_ nr cr) (.slice (cR (some ⟨gn, on, none⟩) cB 3 1) 0 (cB - 3)))]).flatMap LoadV.cells := by rw [List.flatMap_append, List.flatMap_singleton]; rfl
   rw [hcur] at H21
   exact ⟨.inr rfl, _, r1 (.bool true) rfl _ _, .inl ⟨(⟨3, raw, a9 (raw.drop q8), []⟩ : LoadD), (LoadV.mk (⟨3, raw, a9 (raw.drop q8), []⟩ : LoadD) (.sl gr or_ nr cr) (.slice (cR (some ⟨gn, on, none⟩) cB 3 1) 0 (cB - 3))), _, _, Dn, fun s => by unfold df; rw [if_neg (by omega), ← hys, ← hq8, Int.toNat_natCast, if_neg (by omega)], rfl, rfl, rfl, rfl, H21.re [1, 3, 4], fun w hd => ⟨_, _, _, rfl, RI.nil _ _ _⟩⟩⟩
 ·
  have H23 := H0.drew
  refine aO MX (fun w' => w'.cell? ⟨fb, 1, none⟩ = some (.bool big)) (tr 0 6 (Pl.take 7 (Pl.run 6 (Pl.run 8 (tr 9 5 Pl.done))))) (by kernel_rfl) (H23.c 0 1 rfl rfl) (qm (.pt fb) rfl rfl (qy rfl (ag rfl) (qy rfl (ab (o := 0) cO rfl) (qh rfl (fun hS => ah cU rfl hS) (qm (.i64 0) rfl rfl (qy rfl (aT (k := .i64) (c := 3) rfl rfl rfl) (qm (.sl gr or_ nr cr) rfl rfl (qr rfl (ec kg (args := [.i64 3]) rfl (aa (dQ (n := 3) _ (by omega)) ?_))))))))))
  rintro e w25 ⟨A4, c4, rfl, HS24⟩
  have H26 := H23.cal0 HS24
  refine ⟨_, rfl, ?_⟩
  refine ⟨H26.c 1 1 rfl rfl, fun _ => trivial, ?_⟩
  refine qr rfl (ec gM (args := [.bool big, .slice A4 3 c4, .sl gr or_ nr cr]) rfl (aa (dA (ws := List.replicate 3 4) (bs := raw) big _ (ce (H26.g 0 rfl)) (eJ _) (hrr.keepB H26.keep hB hgr) hnr (by omega) hrb (by decide) (by rw [eI]; omega)) ?_))
  rintro e w28 ⟨rfl, HS27⟩
  have H29 := H26.cal0 HS27
  refine ⟨_, rfl, ?_⟩
  refine ⟨H29.c 1 1 rfl rfl, fun _ => trivial, ?_⟩
  refine qm (.tuple #[.ns, .bool false]) rfl rfl (qy rfl (a7 (v := .ns) rfl rfl) (qy rfl (a7 (v := .bool false) rfl rfl) (qa (.ns) rfl rfl (qa (.bool false) rfl rfl (pn (ad (sr (mv (.bool false) rfl (wv rfl (bB rfl) (mv (.bool true) rfl (cM rfl rfl ?_)))))))))))
  refine cM rfl rfl (cM rfl rfl (cM rfl rfl (cM rfl rfl (cM rfl rfl (cM rfl rfl (wv rfl (aD (b := true) (v := .bool true) rfl rfl) (wn (ay rfl (sr (av (.bool false) rfl (wn ?_)))))))))))
  refine rq ?_
  exact ⟨.inr rfl, _, r1 (.bool false) rfl _ _, .inr ⟨fun s => by unfold df; rw [if_pos (by omega)], rfl, H29.sub (List.nil_sublist _)⟩⟩
theorem rN {fb gr or_ nr cr base : Nat} {nL cL : Nat} {AL : Option Addr} {lv : List LoadV} {vh vp vs vi : Value} {raw : List Int} (big : Bool) (w : World) (h0 : St w (Res.all [aq fb [vh, .bool big, .slice AL nL cL, vp, vs, vi] 33, aH 74 4 (.slice AL nL cL) nL (lv.flatMap LoadV.cells)]).F [aq fb [vh, .bool big, .slice AL nL cL, vp, vs, vi] 33, aH 74 4 (.slice AL nL cL) nL (lv.flatMap LoadV.cells)] w) (hB : ∀ g, (Res.all [aq fb [vh, .bool big, .slice AL nL cL, vp, vs, vi] 33, aH 74 4 (.slice AL nL cL) nL (lv.flatMap LoadV.cells)]).F g → base ≤ g) (hbw : base ≤ w.heap.size) (hrr : RI .u8 w (some ⟨gr, or_, none⟩) nr raw) (hrb : Byt raw) (hnr : nr ≤ cr) (hnN : nr < 10485760) (hgr : gr < base) (hnL : nL ≤ 10485760) :
 Calls Tryd.prog 32 #[.pt fb, .i64 2, .i64 3, .sl gr or_ nr cr] w fun e w' => (∃ (ld : LoadD) (x : LoadV) (AL2 : Option Addr) (cL2 : Nat) (D : Res), (∀ s, dJ big raw s = some { s with loads := s.loads ++ [ld] }) ∧ x.l = ld ∧ ld.raw = raw ∧ x.vr = .sl gr or_ nr cr ∧ e = .returned (.bool true) ∧ St w (Res.all [aq fb [vh, .bool big, .slice AL nL cL, vp, vs, vi] 33, aH 74 4 (.slice AL nL cL) nL (lv.flatMap LoadV.cells)]).F [D, aq fb [vh, .bool big, .slice AL2 (nL + 1) cL2, vp, vs, vi] 33, aH 74 4 (.slice AL2 (nL + 1) cL2) (nL + 1) ((lv ++ [x]).flatMap LoadV.cells)] w' ∧ ∀ w, D.φ w → SlI' .u64 w x.vn ld.nums) ∨ ((∀ s, dJ big raw s = none) ∧ e = .returned (.bool false) ∧ St w (Res.all [aq fb [vh, .bool big, .slice AL nL cL, vp, vs, vi] 33, aH 74 4 (.slice AL nL cL) nL (lv.flatMap LoadV.cells)]).F [] w') := by
 refine a5 (args := [.pt fb, .i64 2, .i64 3, .sl gr or_ nr cr]) Tryd.func32 rfl rfl rfl ?_
 have H0 : St _ _ [aq fb [vh, .bool big, .slice AL nL cL, vp, vs, vi] 33, aH 74 4 (.slice AL nL cL) nL (lv.flatMap LoadV.cells)] _ := h0
 refine sr (av (.bool false) rfl (wn (ad ?_)))
 have hrl := hrr.1
 by_cases hfit : 24 ≤ nr
 ·
  obtain ⟨ys, hys⟩ : ∃ q, q = (raw.drop 0).take 24 := ⟨_, rfl⟩
  have hbys : Byt ys := by rw [hys]; exact (hrb.drop _).take _
  obtain ⟨q8, hq8⟩ : ∃ q : Nat, (q : Int) = n4 big (ys.drop 8) := ⟨(n4 big (ys.drop 8)).toNat, Int.toNat_of_nonneg (aR big (hbys.drop _)).1⟩
  have hltq8 : (q8 : Int) < 4294967296 := by rw [hq8]; exact (aR big (hbys.drop _)).2
  have hNL : bp big (List.replicate 6 4) raw = [n4 big (ys.drop 0), n4 big (ys.drop 4), ↑q8, n4 big (ys.drop 12), n4 big (ys.drop 16), n4 big (ys.drop 20)] := by rw [hq8, hys]; exact lz big 6 24 (by omega) raw
  have H1 := H0.drew
  refine aO MX (fun w' => w'.cell? ⟨fb, 1, none⟩ = some (.bool big)) (tr 0 6 (Pl.take 7 (Pl.run 6 (Pl.run 8 (tr 9 5 Pl.done))))) (by kernel_rfl) (H1.c 0 1 rfl rfl) (qm (.pt fb) rfl rfl (qy rfl (ag rfl) (qy rfl (ab (o := 0) cO rfl) (qh rfl (fun hS => ah cU rfl hS) (qm (.i64 3) rfl rfl (qy rfl (aT (k := .i64) (c := 6) rfl rfl rfl) (qm (.sl gr or_ nr cr) rfl rfl (qr rfl (ec kg (args := [.i64 6]) rfl (aa (dQ (n := 6) _ (by omega)) ?_))))))))))
  rintro e w3 ⟨A4, c4, rfl, HS2⟩
  have H4 := H1.cal0 HS2
  refine ⟨_, rfl, ?_⟩
  refine ⟨H4.c 1 1 rfl rfl, fun _ => trivial, ?_⟩
  refine qr rfl (ec gM (args := [.bool big, .slice A4 6 c4, .sl gr or_ nr cr]) rfl (aa (db (ws := List.replicate 6 4) (bs := raw) big _ (ce (H4.g 0 rfl)) (eJ _) (hrr.keepB H4.keep hB hgr) hnr (by omega) hrb (by decide) (K := 6) (by rw [eI]; omega) (by rw [hNL]; rfl) (by omega)) ?_))
  rintro e w6 ⟨gn, on, cB, Dn, rfl, hcB, HS5, hDn⟩
  rw [hNL] at hDn
  have H7 := H4.cal0 HS5
  refine ⟨_, rfl, ?_⟩
  refine ⟨H7.c 2 1 rfl rfl, fun _ => trivial, ?_⟩
  refine qm (.tuple #[.sl gn on 6 cB, .bool true]) rfl rfl (qy rfl (a7 (v := .sl gn on 6 cB) rfl rfl) (qy rfl (a7 (v := .bool true) rfl rfl) (qa (.sl gn on 6 cB) rfl rfl (qa (.bool true) rfl rfl (pn (ad (sr (mv (.bool true) rfl (wv rfl (bB rfl) (mv (.bool false) rfl (aP rfl rfl (al (v := .sl gn on 6 cB) rfl) ?_)))))))))))
  refine aP rfl rfl (aI bA rfl rfl (by omega) (by omega)) (aP rfl rfl (ah aM rfl (show World.cell? _ _ = some (.u64 (↑q8)) from (hDn _ (H7.g 0 rfl)).cellAt 2 (by omega))) (aP rfl rfl (al (v := .sl gr or_ nr cr) rfl) (aP rfl rfl (ba co rfl) (aP rfl rfl (an eL be rfl (a6 (by omega) (by omega))) (aP rfl rfl (i5 rfl rfl) (wv rfl (aD (b := false) (v := .bool (decide ((↑nr : Int) ≤ ↑q8))) rfl rfl) (wn ?_)))))))
  refine cf rfl (fun hb8 => ?_) (fun hb8 => ?_)
  ·
   simp only [bx] at hb8
   refine sr (av (.bool false) rfl (wn (rq ?_)))
   exact ⟨.inr rfl, _, r1 (.bool false) rfl _ _, .inr ⟨fun s => by unfold dJ; rw [if_neg (by omega), ← hys, ← hq8, if_pos (by omega)], rfl, H7.sub (List.nil_sublist _)⟩⟩
  ·
   simp only [bx] at hb8
   refine wk (ad ?_)
   have H9 := H7.drew
   refine dL MX (fun w' => w'.cell? ⟨fb, 2, none⟩ = some (.slice AL nL cL)) (fun w' => w'.cell? ⟨gn, on + 2, none⟩ = some (.u64 (↑q8))) 20 (tr 0 4 (Pl.takeS 4 (tr 5 7 (Pl.take 13 (Pl.take 14 (Pl.run 12 (Pl.take 15 (Pl.run 16 (Pl.run 17 (Pl.take 18 (Pl.take 19 (Pl.run 20 Pl.done)))))))))))) (by kernel_rfl) rfl (H9.c 2 2 rfl rfl) (show World.cell? _ _ = some (.u64 (↑q8)) from (hDn _ (H9.g 0 rfl)).cellAt 2 (by omega)) (qm (.pt fb) rfl rfl (qm (.pt fb) rfl rfl (qy rfl (ag rfl) (qy rfl (ab (o := 0) dF rfl) (qs rfl rfl (fun _ hS => ah eS rfl hS) (qm (.i64 2) rfl rfl (qm (.sl gr or_ nr cr) rfl rfl (qm (.sl gr or_ nr cr) rfl rfl (qm (.sl gn on 6 cB) rfl rfl (qy rfl (aI (a := ⟨gn, on, none⟩) (i := 2) bA rfl rfl (by omega) (by omega)) (qh rfl (fun hS => ah aM rfl hS) ?_)))))))))))
   refine qt rfl (fun _ hS => (am (l := q8) (h := nr) aU rfl (bs rfl (by omega) (Int.toNat_natCast _)) bn (by omega) (by omega) (by omega) (by omega) : Yv _ _ _ _ (.sl gr (or_ + q8) (nr - q8) (cr - q8)) _)) (qm (.sl gn on 6 cB) rfl rfl (qt rfl (fun _ hS => (am (l := 3) (h := 6) bA rfl (bs rfl (by omega) rfl) bn (by omega) (by omega) (by omega) (by omega) : Yv _ _ _ _ (.sl gn (on + 3) 3 (cB - 3)) _)) (qr rfl (ec dz (args := [.sl gr (or_ + q8) (nr - q8) (cr - q8)]) rfl (aa (bG _ ((hrr.keepB H9.keep hB hgr).drop_ q8) (by omega) (by omega)) ?_)))))
   rintro e w11 ⟨rfl, HS10⟩
   have H12 := H9.cal0 HS10
   refine ⟨_, rfl, ?_⟩
   refine ⟨show World.cell? _ _ = some (.u64 (↑q8)) from (hDn _ (H12.g 0 rfl)).cellAt 2 (by omega), fun _ => H12.c 2 2 rfl rfl, ?_⟩
   refine qy rfl (yb (ps := [(0, .i64 2), (1, .sl gr or_ nr cr), (2, .str (a9 (raw.drop q8))), (3, .sl gn (on + 3) 3 (cB - 3))]) (cells := #[.i64 2, .sl gr or_ nr cr, .str (a9 (raw.drop q8)), .sl gn (on + 3) 3 (cB - 3)]) rfl (by kernel_rfl)) (qr rfl (jv H12 (ps := [(0, .agg #[.i64 2, .sl gr or_ nr cr, .str (a9 (raw.drop q8)), .sl gn (on + 3) 3 (cB - 3)])]) (e := 74) (cs := [.i64 2, .sl gr or_ nr cr, .str (a9 (raw.drop q8)), .sl gn (on + 3) 3 (cB - 3)]) rfl (by kernel_rfl) (fun g13 w14 hgg13 H15 =>  ?_)))
   refine ⟨show World.cell? _ _ = some (.u64 (↑q8)) from (hDn _ (H15.g 1 rfl)).cellAt 2 (by omega), fun _ => H15.c 3 2 rfl rfl, ?_⟩
   refine qr rfl (bR H15 4 (m := 1) (news := [.i64 2, .sl gr or_ nr cr, .str (a9 (raw.drop q8)), .sl gn (on + 3) 3 (cB - 3)]) rfl ox oA rfl (by decide) rfl rfl rfl (H15.news (i := 0) rfl) (by simp [Value.oneCell']) (by simp only [maxLen]; omega) (by omega) (fun v16 w17 H18 =>  ?_))
   obtain ⟨A19, c20, rfl, _, _⟩ := aw (H18.g 4 rfl)
   refine ⟨show World.cell? _ _ = some (.u64 (↑q8)) from (hDn _ (H18.g 1 rfl)).cellAt 2 (by omega), fun _ => H18.c 3 2 rfl rfl, ?_⟩
   refine qy rfl (ag rfl) (qy rfl (ab (o := 0) dF rfl) (dx rfl (es H18 3 2 (.slice A19 (nL + 1) c20) rfl eS (fun w22 H21 =>  ?_))))
   refine ⟨show World.cell? _ _ = some (.u64 (↑q8)) from (hDn _ (H21.g 1 rfl)).cellAt 2 (by omega), fun h => absurd h (by decide), ?_⟩
   refine pn (sr (av (.bool true) rfl (wn (aQ ?_))))
   have hcur : lv.flatMap LoadV.cells ++ [.i64 2, .sl gr or_ nr cr, .str (a9 (raw.drop q8)), .sl gn (on + 3) 3 (cB - 3)] = (lv ++ [(LoadV.mk (⟨2, raw, a9 (raw.drop q8), [n4 big (ys.drop 12), n4 big (ys.drop 16), n4 big (ys.drop 20)]⟩ : LoadD) (.sl gr or_ nr cr) (.sl gn (on + 3) 3 (cB - 3)))]).flatMap LoadV.cells := by rw [List.flatMap_append, List.flatMap_singleton]; rfl
   rw [hcur] at H21
   exact ⟨.inr rfl, _, r1 (.bool true) rfl _ _, .inl ⟨(⟨2, raw, a9 (raw.drop q8), [n4 big (ys.drop 12), n4 big (ys.drop 16), n4 big (ys.drop 20)]⟩ : LoadD), (LoadV.mk (⟨2, raw, a9 (raw.drop q8), [n4 big (ys.drop 12), n4 big (ys.drop 16), n4 big (ys.drop 20)]⟩ : LoadD) (.sl gr or_ nr cr) (.sl gn (on + 3) 3 (cB - 3))), _, _, Dn, fun s => by unfold dJ; rw [if_neg (by omega), ← hys, ← hq8, Int.toNat_natCast, if_neg (by omega)], rfl, rfl, rfl, rfl, H21.re [1, 3, 4], fun w hd => ⟨_, _, _, rfl, (hDn _ hd).drop_ 3⟩⟩⟩
 ·
  have H23 := H0.drew
  refine aO MX (fun w' => w'.cell? ⟨fb, 1, none⟩ = some (.bool big)) (tr 0 6 (Pl.take 7 (Pl.run 6 (Pl.run 8 (tr 9 5 Pl.done))))) (by kernel_rfl) (H23.c 0 1 rfl rfl) (qm (.pt fb) rfl rfl (qy rfl (ag rfl) (qy rfl (ab (o := 0) cO rfl) (qh rfl (fun hS => ah cU rfl hS) (qm (.i64 3) rfl rfl (qy rfl (aT (k := .i64) (c := 6) rfl rfl rfl) (qm (.sl gr or_ nr cr) rfl rfl (qr rfl (ec kg (args := [.i64 6]) rfl (aa (dQ (n := 6) _ (by omega)) ?_))))))))))
  rintro e w25 ⟨A4, c4, rfl, HS24⟩
  have H26 := H23.cal0 HS24
  refine ⟨_, rfl, ?_⟩
  refine ⟨H26.c 1 1 rfl rfl, fun _ => trivial, ?_⟩
  refine qr rfl (ec gM (args := [.bool big, .slice A4 6 c4, .sl gr or_ nr cr]) rfl (aa (dA (ws := List.replicate 6 4) (bs := raw) big _ (ce (H26.g 0 rfl)) (eJ _) (hrr.keepB H26.keep hB hgr) hnr (by omega) hrb (by decide) (by rw [eI]; omega)) ?_))
  rintro e w28 ⟨rfl, HS27⟩
  have H29 := H26.cal0 HS27
  refine ⟨_, rfl, ?_⟩
  refine ⟨H29.c 1 1 rfl rfl, fun _ => trivial, ?_⟩
  refine qm (.tuple #[.ns, .bool false]) rfl rfl (qy rfl (a7 (v := .ns) rfl rfl) (qy rfl (a7 (v := .bool false) rfl rfl) (qa (.ns) rfl rfl (qa (.bool false) rfl rfl (pn (ad (sr (mv (.bool false) rfl (wv rfl (bB rfl) (mv (.bool true) rfl (cM rfl rfl ?_)))))))))))
  refine cM rfl rfl (cM rfl rfl (cM rfl rfl (cM rfl rfl (cM rfl rfl (cM rfl rfl (wv rfl (aD (b := true) (v := .bool true) rfl rfl) (wn (ay rfl (sr (av (.bool false) rfl (wn ?_)))))))))))
  refine rq ?_
  exact ⟨.inr rfl, _, r1 (.bool false) rfl _ _, .inr ⟨fun s => by unfold dJ; rw [if_pos (by omega)], rfl, H29.sub (List.nil_sublist _)⟩⟩
end Go.Proofs.YtlndedfkgiafhaaDoor
