import Derived.Test.YtlndedfkgiafhaaDoorXAH
set_option linter.unusedVariables false
set_option linter.unusedSimpArgs false
set_option maxRecDepth 100000
set_option maxHeartbeats 4000000
namespace Go.Proofs.YtlndedfkgiafhaaDoor
open Go Go.RowKit Go.Proofs
theorem TL59 : Tryd.prog.underlying 59 = some (.slice (Tryd.prog.elem 59)) := by kernel_rfl
theorem TS59 : cg Tryd.prog 59 3 1 := bZ (by kernel_rfl)
theorem kf : aX Tryd.prog 25 := aJ (by kernel_rfl)
theorem TU26 : Tryd.prog.underlying 26 = some (.slice 43) := by kernel_rfl
theorem TB43 : (Tryd.prog.info? 43).map (fun i => (i.zero, i.size, i.bytes)) = some (some (.u64 0), 1, 8) := by kernel_rfl
theorem oN {AW A : Option Addr} {nW cW n c : Nat} {ws bs : List Int} (big : Bool) (w : World) (hrW : RI .i64 w AW nW ws) (hW : ∀ i, -16 ≤ ws.getD i 0 ∧ ws.getD i 0 ≤ 8) (hnW : nW ≤ 1000) (hr : RI .u8 w A n bs) (hc : n ≤ c) (hn : n ≤ 4294967295) (hb : Byt bs) :
 Calls Tryd.prog 26 #[.bool big, .slice AW nW cW, .slice A n c] w fun e w' => (∃ r, cN big ws bs = some r ∧ ∃ (B : Option Addr) (m cB : Nat) (D : Res), e = .returned (.tuple #[.slice B m cB, .bool true]) ∧ m ≤ cB ∧ St w aW [D] w' ∧ ∀ w, D.φ w → RI .u64 w B m r) ∨ (cN big ws bs = none ∧ e = .returned (.tuple #[.ns, .bool false]) ∧ St w aW [] w') := by
 refine a5 (args := [.bool big, .slice AW nW cW, .slice A n c]) Tryd.func26 rfl rfl rfl ?_
 have H0 := St.nil w aW
 refine sr (av (.ns) rfl (av (.bool false) rfl (wn (sr (wm rfl (eb H0 43 [] rfl (by kernel_rfl) (fun g1 w2 hgg1 H3 =>  eh g1 0 0 0 rfl (wn (ad (sr (mv (.slice AW nW cW) rfl ?_)))))))))))
 refine wv rfl (ba TL59 rfl) (mi 0 rfl (wn (aC ?_)))
 have H5 : St w aW [aH 43 1 (.sl g1 0 0 0) 0 (nums .u64 [])] w2 := H3.rowOf (i := 0) (cap := 0) rfl rfl (by simp [maxLen])
 refine bW (fun ρ w' => ∃ i : Nat, ∃ Av : Option Addr, ∃ m : Nat, ∃ cv : Nat, ∃ done : List Int, ∃ A2 : Option Addr, ∃ n2 : Nat, ∃ c2 : Nat, ∃ bs2 : List Int, ρ 0 = .bool big ∧ ρ 2 = .slice A2 n2 c2 ∧ ρ 8 = .slice Av m cv ∧ ρ 13 = .slice AW nW cW ∧ ρ 14 = .i64 ↑nW ∧ ρ 15 = .i64 ↑i ∧ i ≤ nW ∧ m ≤ i ∧ RI .u8 w A2 n2 bs2 ∧ n2 ≤ c2 ∧ Byt bs2 ∧ cN big ws bs = (cN big (ws.drop i) bs2).map (done ++ ·) ∧ St w aW [aH 43 1 (.slice Av m cv) m (nums .u64 done)] w') (fun ρ _ => nW + 1 - nv (ρ 15)) (⟨0, _, _, _, [], _, _, _, bs, rfl, rfl, rfl, rfl, rfl, rfl, by omega, by omega, hr, hc, hb, by simp, H5⟩) ?_
 rintro ρ w1 ⟨i, Av, m, cv, done, A2, n2, c2, bs2, h0, h2, h8, h13, h14, h15, hi, hmi, hr2, hc2, hb2, hf, H1⟩
 refine sr (wv rfl (cx h15 h14) (wn (ad ?_)))
 refine cf rfl (fun hb4 => ?_) (fun hb4 => ?_)
 ·
  simp only [bx] at hb4
  refine wk (ad (aC (sr ?_)))
  have hiw : i < nW := by omega
  obtain ⟨gW, oW, rfl, hcW⟩ := hrW.at_ hiw
  obtain ⟨v, hv⟩ : ∃ v, v = ws.getD i 0 := ⟨_, rfl⟩
  rw [← hv] at hcW
  obtain ⟨hv0, hv1⟩ := hW i
  rw [← hv] at hv0 hv1
  have hdr : ws.drop i = v :: ws.drop (i + 1) := by rw [List.drop_eq_getElem_cons (by rw [hrW.1]; exact hiw), hv]; simp [List.getD_eq_getElem?_getD, List.getElem?_eq_getElem (show i < ws.length by rw [hrW.1]; exact hiw)]
  refine wv rfl (bU i TS59 h13 h15 rfl (by omega) (by rw [Nat.mul_one])) (wv rfl (ah jk rfl (H1.kc hcW)) (ai v rfl (wn (sr (mi v rfl (mi v rfl (wv rfl ((show Yv _ _ _ _ (.i64 (-v)) _ from (aE (x := -v) (by omega) (by omega)) ▸ vz (k := .i64) (a := v) rfl)) (wv rfl (nC (c := ↑v.natAbs) rfl rfl (by split <;> omega)) (ai (↑v.natAbs) rfl (wn (ad ?_)))))))))))
  refine sr (mg h2 rfl (wv rfl (ba co rfl) (mi (↑v.natAbs) rfl (wv rfl (cx rfl rfl) (wn ?_)))))
  refine cf rfl (fun hb5 => ?_) (fun hb5 => ?_)
  ·
   simp only [bx] at hb5
   refine sr (av (.ns) rfl (av (.bool false) rfl (wn (rq (aB (ax (ax (aB (ax ?_)))))))))
   exact ⟨.inr rfl, _, r2 (.ns) (.bool false) rfl _ _, .inr ⟨by rw [hf, hdr]; simp only [cN]; rw [if_pos (by rw [hr2.1]; omega)]; rfl, rfl, H1.sub (List.nil_sublist _)⟩⟩
  ·
   simp only [bx] at hb5
   refine wk (ad (sr (mi v rfl (wv rfl (gP rfl rfl) (wn ?_)))))
   refine cf rfl (fun hb6 => ?_) (fun hb6 => ?_)
   ·
    simp only [bx] at hb6
    refine ae (mg h8 rfl (mg h0 rfl (mi v rfl (mg h2 rfl (wE [.bool big, .i64 v, .slice A2 n2 c2] kf rfl rfl ?_)))))
    have hvn : ((v.natAbs : Nat) : Int) = v := by omega
    refine aa (by have h := dw big (wd := v.natAbs) _ (hr2.keep0 H1.keep) (c := c2) hb2 (by omega) (by omega); rw [hvn] at h; exact h) ?_
    rintro e w8 ⟨rfl, HS7⟩
    have H9 := H1.cal0 HS7
    refine ⟨_, rfl, ?_⟩
    refine wm rfl (eb H9 43 [.u64 (nx big bs2 v.natAbs)] rfl (by kernel_rfl) (fun g10 w11 hgg10 H12 =>  wm rfl (bR H12 1 (m := 1) (news := [.u64 (nx big bs2 v.natAbs)]) rfl TU26 TB43 rfl (by decide) rfl rfl rfl (H12.news (i := 0) rfl) (by simp [Value.oneCell']) (by simp only [maxLen]; omega) (by omega) (fun v13 w14 H15 =>  ?_))))
    obtain ⟨A16, c17, rfl, _, _⟩ := aw (H15.g 1 rfl)
    refine av (.slice A16 (m + 1) c17) rfl (wn (ae (mg h2 rfl (mi (↑v.natAbs) rfl (wv rfl ((show Yv _ _ _ _ (.slice (cR A2 c2 v.natAbs 1) (n2 - v.natAbs) (c2 - v.natAbs)) _ from dH (l := v.natAbs) (h := n2) aU rfl (bg rfl (by omega) (by omega)) (bh _ _) (by omega) (by omega))) (av (.slice (cR A2 c2 v.natAbs 1) (n2 - v.natAbs) (c2 - v.natAbs)) rfl (bl (ao (ac (ae (wv rfl (aT (k := .i64) (c := ↑i + 1) h15 rfl (aE (by omega) (by omega))) ?_)))))))))))
    refine mi (↑i + 1) rfl (wn ?_)
    have hr3 : RI .u8 w (cR A2 c2 v.natAbs 1) (n2 - v.natAbs) (bs2.drop v.natAbs) := by have h := hr2.cut (c := c2) (l := v.natAbs) (m := n2) (by omega) (Nat.le_refl _) hc2; rwa [List.take_of_length_le (by rw [List.length_drop, hr2.1]; omega)] at h
    have hf3 : cN big ws bs = (cN big (ws.drop (i + 1)) (bs2.drop v.natAbs)).map ((done ++ [nx big bs2 v.natAbs]) ++ ·) := by
     rw [hf, hdr]; simp only [cN]; rw [if_neg (by rw [hr2.1]; omega)]; cases cN big (ws.drop (i + 1)) (bs2.drop v.natAbs) <;> simp; omega
    have e4 : nums .u64 done ++ [.u64 (nx big bs2 v.natAbs)] = nums .u64 (done ++ [nx big bs2 v.natAbs]) := by simp [nums]
    rw [e4] at H15
    exact ⟨⟨i + 1, _, _, _, _, _, _, _, _, h0, rfl, rfl, h13, h14, rfl, by omega, by omega, hr3, by omega, hb2.drop _, hf3, H15.re [1]⟩, by show nW + 1 - nv (.i64 (↑i + 1)) < nW + 1 - nv (ρ 15); rw [h15]; simp only [nv]; omega⟩
   ·
    simp only [bx] at hb6
    refine wk (ae (mg h2 rfl (mi (↑v.natAbs) rfl (wv rfl ((show Yv _ _ _ _ (.slice (cR A2 c2 v.natAbs 1) (n2 - v.natAbs) (c2 - v.natAbs)) _ from dH (l := v.natAbs) (h := n2) aU rfl (bg rfl (by omega) (by omega)) (bh _ _) (by omega) (by omega))) (av (.slice (cR A2 c2 v.natAbs 1) (n2 - v.natAbs) (c2 - v.natAbs)) rfl (bl (ao (ac (ae (wv rfl (aT (k := .i64) (c := ↑i + 1) h15 rfl (aE (by omega) (by omega))) (mi (↑i + 1) rfl ?_)))))))))))
    refine wn ?_
    have hr3 : RI .u8 w (cR A2 c2 v.natAbs 1) (n2 - v.natAbs) (bs2.drop v.natAbs) := by have h := hr2.cut (c := c2) (l := v.natAbs) (m := n2) (by omega) (Nat.le_refl _) hc2; rwa [List.take_of_length_le (by rw [List.length_drop, hr2.1]; omega)] at h
    have hf3 : cN big ws bs = (cN big (ws.drop (i + 1)) (bs2.drop v.natAbs)).map (done ++ ·) := by
     rw [hf, hdr]; simp only [cN]; rw [if_neg (by rw [hr2.1]; omega)]; cases cN big (ws.drop (i + 1)) (bs2.drop v.natAbs) <;> simp; omega
    exact ⟨⟨i + 1, _, _, _, _, _, _, _, _, h0, rfl, h8, h13, h14, rfl, by omega, by omega, hr3, by omega, hb2.drop _, hf3, H1.re [0]⟩, by show nW + 1 - nv (.i64 (↑i + 1)) < nW + 1 - nv (ρ 15); rw [h15]; simp only [nv]; omega⟩
 ·
  simp only [bx] at hb4
  refine bF (a8 (a8 (aY (ac (sr (mg h8 rfl (av (.slice Av m cv) rfl (av (.bool true) rfl (wn (aQ ?_))))))))))
  exact ⟨.inr rfl, _, r2 (.slice Av m cv) (.bool true) rfl _ _, .inl ⟨done, by rw [hf, List.drop_of_length_le (by rw [hrW.1]; omega)]; simp [cN], _, _, _, _, rfl, by obtain ⟨_, _, e, _, h⟩ := aw (H1.g 0 rfl); cases e; exact h, H1, fun w h => ce h⟩⟩
end Go.Proofs.YtlndedfkgiafhaaDoor
namespace Go.Proofs.YtlndedfkgiafhaaDoor
open Go Go.RowKit Go.Proofs
theorem gf {AW : Option Addr} {nW cW : Nat} {ws : List Int} (w : World) (hrW : RI .i64 w AW nW ws) (hW : ∀ i, -16 ≤ ws.getD i 0 ∧ ws.getD i 0 ≤ 8) (hnW : nW ≤ 1000) :
 Calls Tryd.prog 15 #[.slice AW nW cW] w fun e w' => e = .returned (.i64 ↑(cu ws)) ∧ St w aW [] w' := by
 refine a5 (args := [.slice AW nW cW]) Tryd.func15 rfl rfl rfl ?_
 have H0 := St.nil w aW
 refine sr (ai 0 rfl (wn (sr (ai 0 rfl (wn (ad (sr (mv (.slice AW nW cW) rfl (wv rfl (ba TL59 rfl) (mi 0 rfl (wn ?_)))))))))))
 refine aC (bW (fun ρ w' => ∃ i : Nat, ρ 3 = .i64 ↑(cu (ws.take i)) ∧ ρ 6 = .slice AW nW cW ∧ ρ 7 = .i64 ↑nW ∧ ρ 8 = .i64 ↑i ∧ i ≤ nW ∧ St w aW [] w') (fun ρ _ => nW + 1 - nv (ρ 8)) (⟨0, rfl, rfl, rfl, rfl, by omega, H0⟩) ?_)
 rintro ρ w1 ⟨i, h3, h6, h7, h8, hi, H1⟩
 refine sr (wv rfl (cx h8 h7) (wn (ad ?_)))
 refine cf rfl (fun hb1 => ?_) (fun hb1 => ?_)
 ·
  simp only [bx] at hb1
  refine wk (ad (aC (sr ?_)))
  have hiw : i < nW := by omega
  obtain ⟨gW, oW, rfl, hcW⟩ := hrW.at_ hiw
  obtain ⟨v, hv⟩ : ∃ v, v = ws.getD i 0 := ⟨_, rfl⟩
  rw [← hv] at hcW
  obtain ⟨hv0, hv1⟩ := hW i
  rw [← hv] at hv0 hv1
  have hwl := rB hW i (by rw [hrW.1]; omega)
  refine wv rfl (bU i TS59 h6 h8 rfl (by omega) (by rw [Nat.mul_one])) (wv rfl (ah jk rfl (H1.kc hcW)) (ai v rfl (wn (ae (mg h3 rfl (mi v rfl (mi v rfl (wv rfl ((show Yv _ _ _ _ (.i64 (-v)) _ from (aE (x := -v) (by omega) (by omega)) ▸ vz (k := .i64) (a := v) rfl)) (wv rfl (nC (c := ↑v.natAbs) rfl rfl (by split <;> omega)) (wv rfl (aT (k := .i64) (c := ↑(cu (ws.take i)) + ↑v.natAbs) rfl rfl (aE (by omega) (by omega))) (ai (↑(cu (ws.take i)) + ↑v.natAbs) rfl ?_)))))))))))
  refine bl (ao (ac (ae (wv rfl (aT (k := .i64) (c := ↑i + 1) h8 rfl (aE (by omega) (by omega))) (mi (↑i + 1) rfl (wn ?_))))))
  exact ⟨⟨i + 1, (show Value.i64 _ = _ by rw [kq (by rw [hrW.1]; omega), ← hv]; rfl), h6, h7, rfl, by omega, H1⟩, by show nW + 1 - nv (.i64 (↑i + 1)) < nW + 1 - nv (ρ 8); rw [h8]; simp only [nv]; omega⟩
 ·
  simp only [bx] at hb1
  refine bF (a8 (a8 (aY (ac (sr (mg h3 rfl (ai (↑(cu (ws.take i))) rfl (wn (aQ ?_)))))))))
  exact ⟨.inr rfl, _, r1 (.i64 (↑(cu (ws.take i)))) rfl _ _, ⟨by rw [List.take_of_length_le (by rw [hrW.1]; omega)], H1⟩⟩
end Go.Proofs.YtlndedfkgiafhaaDoor
namespace Go.Proofs.YtlndedfkgiafhaaDoor
open Go Go.RowKit Go.Proofs
theorem wa : Tryd.prog.underlying 26 = some (.slice (Tryd.prog.elem 26)) := by kernel_rfl
theorem bA : cg Tryd.prog 26 43 1 := bZ (by kernel_rfl)
theorem vc : FA 101 0 0 := fa (by kernel_rfl)
theorem wL : FA 67 0 0 := fa (by kernel_rfl)
theorem vb : FA 101 1 1 := fa (by kernel_rfl)
theorem wK : FA 67 1 1 := fa (by kernel_rfl)
theorem va : FA 101 2 2 := fa (by kernel_rfl)
theorem wJ : FA 67 2 2 := fa (by kernel_rfl)
theorem uZ : FA 101 3 3 := fa (by kernel_rfl)
theorem wI : FA 67 3 3 := fa (by kernel_rfl)
theorem uY : FA 101 4 4 := fa (by kernel_rfl)
theorem wH : FA 67 4 4 := fa (by kernel_rfl)
theorem TU4 : Tryd.prog.underlying 4 = some .bool := by kernel_rfl
theorem uX : FA 101 5 5 := fa (by kernel_rfl)
theorem wG : FA 67 5 5 := fa (by kernel_rfl)
theorem uW : FA 101 6 6 := fa (by kernel_rfl)
theorem wF : FA 67 6 6 := fa (by kernel_rfl)
theorem pa {A A2 : Option Addr} {n c c2 : Nat} {xs : List Int} (w : World) (hr : RI .u64 w A n xs) (hr2 : RI .u64 w A2 n xs) (hn : n ≤ 4294967295) :
 Calls Tryd.prog 36 #[.slice A n c, .slice A2 n c2] w fun e w' => e = .returned (.bool true) ∧ St w aW [] w' := by
 refine a5 (args := [.slice A n c, .slice A2 n c2]) Tryd.func36 rfl rfl rfl ?_
 have H0 := St.nil w aW
 refine sr (av (.bool false) rfl (wn (ad (sr (mv (.slice A n c) rfl (wv rfl (ba wa rfl) (mv (.slice A2 n c2) rfl (wv rfl (ba wa rfl) (wv rfl (bJ rfl rfl (bne_eq_false_iff_eq.2 (rfl))) (wn (aj rfl ?_)))))))))))
 refine wk (ad (sr (mv (.slice A n c) rfl (wv rfl (ba wa rfl) (mi 0 rfl (wn (aC (bW (fun ρ w' => ∃ i : Nat, ρ 0 = .slice A n c ∧ ρ 1 = .slice A2 n c2 ∧ ρ 12 = .i64 ↑n ∧ ρ 13 = .i64 ↑i ∧ i ≤ n ∧ St w aW [] w') (fun ρ _ => n + 1 - nv (ρ 13)) (⟨0, rfl, rfl, rfl, rfl, by omega, H0⟩) ?_))))))))
 rintro ρ w1 ⟨i, h0, h1, h12, h13, hi, H1⟩
 refine sr (wv rfl (cx h13 h12) (wn (ad ?_)))
 refine cf rfl (fun hb1 => ?_) (fun hb1 => ?_)
 ·
  simp only [bx] at hb1
  refine wk (ad (aC (sr ?_)))
  have hin : i < n := by omega
  obtain ⟨ga, oa, rfl, hca⟩ := hr.at_ hin
  obtain ⟨gb, ob, rfl, hcb⟩ := hr2.at_ hin
  refine mg h13 rfl (ai (↑i) rfl (wn (ad ?_)))
  have H2 := H1.drew
  refine aO MX (fun w' => w'.cell? ⟨ga, oa + i, none⟩ = some (.u64 (xs.getD i 0)) ∧ w'.cell? ⟨gb, ob + i, none⟩ = some (.u64 (xs.getD i 0))) (tr 0 9 Pl.done) (by kernel_rfl) (⟨H2.kc hca, H2.kc hcb⟩) (qm (.sl ga oa n c) rfl h0 (qm (.i64 (↑i)) rfl rfl (qy rfl (bU i bA rfl rfl rfl (by omega) (by rw [Nat.mul_one])) (qh rfl (fun hS => ah aM rfl hS.1) (qm (.sl gb ob n c2) rfl h1 (qm (.i64 (↑i)) rfl rfl (qy rfl (bU i bA rfl rfl rfl (by omega) (by rw [Nat.mul_one])) (qh rfl (fun hS => ah aM rfl hS.2) (qy rfl (bJ (k := .u64) (a := xs.getD i 0) (b := xs.getD i 0) (c := false) rfl rfl (bne_eq_false_iff_eq.2 (rfl))) (pn (aj rfl ?_)))))))))))
  refine cG (ao (ac (ae (wv rfl (aT (k := .i64) (c := ↑i + 1) h13 rfl (aE (by omega) (by omega))) (mi (↑i + 1) rfl (wn ?_))))))
  exact ⟨⟨i + 1, h0, h1, h12, rfl, by omega, H2⟩, by show n + 1 - nv (.i64 (↑i + 1)) < n + 1 - nv (ρ 13); rw [h13]; simp only [nv]; omega⟩
 ·
  simp only [bx] at hb1
  refine bF (a8 (a8 (aY (ac (sr (av (.bool true) rfl (wn (aQ ?_))))))))
  exact ⟨.inr rfl, _, r1 (.bool true) rfl _ _, ⟨rfl, H1⟩⟩
theorem rI {r : Rel} (w : World) :
 Calls Tryd.prog 37 #[.agg #[.u32 r.addr, .u32 r.value, .u8 r.type, .u8 r.len, .bool r.pcrel, .bool r.extern, .bool r.scattered], .agg #[.u32 r.addr, .u32 r.value, .u8 r.type, .u8 r.len, .bool r.pcrel, .bool r.extern, .bool r.scattered]] w fun e w' => e = .returned (.bool true) ∧ St w aW [] w' := by
 refine a5 (args := [.agg #[.u32 r.addr, .u32 r.value, .u8 r.type, .u8 r.len, .bool r.pcrel, .bool r.extern, .bool r.scattered], .agg #[.u32 r.addr, .u32 r.value, .u8 r.type, .u8 r.len, .bool r.pcrel, .bool r.extern, .bool r.scattered]]) Tryd.func37 rfl rfl rfl ?_
 have H0 := St.nil w aW
 refine sr (wm rfl (ee H0 (vs := [.u32 r.addr, .u32 r.value, .u8 r.type, .u8 r.len, .bool r.pcrel, .bool r.extern, .bool r.scattered]) rfl rfl (fun g1 w2 hgg1 H3 =>  wm rfl (ee H3 (vs := [.u32 r.addr, .u32 r.value, .u8 r.type, .u8 r.len, .bool r.pcrel, .bool r.extern, .bool r.scattered]) rfl rfl (fun g4 w5 hgg4 H6 =>  av (.bool false) rfl (wn (sr (wf vc rfl (wv rfl (H6.ld 1 rfl ar rfl (.u32 r.addr) rfl) (wf wL rfl (wv rfl (H6.ld 0 rfl ar rfl (.u32 r.addr) rfl) ?_)))))))))))
 refine wv rfl (aL rfl rfl (beq_iff_eq.2 (rfl))) (mv (.bool true) rfl (aP rfl rfl (ab vb rfl) (aP rfl rfl (H6.ld 1 rfl ar rfl (.u32 r.value) rfl) (aP rfl rfl (ab wK rfl) (aP rfl rfl (H6.ld 0 rfl ar rfl (.u32 r.value) rfl) (aP rfl rfl (aL rfl rfl (beq_iff_eq.2 (rfl))) (wv rfl (aD (b := true) (v := .bool true) rfl rfl) (mv (.bool true) rfl (aP rfl rfl (ab va rfl) (aP rfl rfl (H6.ld 1 rfl cC rfl (.u8 r.type) rfl) (aP rfl rfl (ab wJ rfl) ?_)))))))))))
 refine aP rfl rfl (H6.ld 0 rfl cC rfl (.u8 r.type) rfl) (aP rfl rfl (aL rfl rfl (beq_iff_eq.2 (rfl))) (wv rfl (aD (b := true) (v := .bool true) rfl rfl) (mv (.bool true) rfl (aP rfl rfl (ab uZ rfl) (aP rfl rfl (H6.ld 1 rfl cC rfl (.u8 r.len) rfl) (aP rfl rfl (ab wI rfl) (aP rfl rfl (H6.ld 0 rfl cC rfl (.u8 r.len) rfl) (aP rfl rfl (aL rfl rfl (beq_iff_eq.2 (rfl))) (wv rfl (aD (b := true) (v := .bool true) rfl rfl) (mv (.bool true) rfl (aP rfl rfl (ab uY rfl) ?_)))))))))))
 refine aP rfl rfl (H6.ld 1 rfl cU rfl (.bool r.pcrel) rfl) (aP rfl rfl (ab wH rfl) (aP rfl rfl (H6.ld 0 rfl cU rfl (.bool r.pcrel) rfl) (aP rfl rfl ((show Yv _ _ _ _ (.bool true) _ from (beq_self_eq_true (r.pcrel)) ▸ gX (a := r.pcrel) (b := r.pcrel) TU4 rfl rfl)) (wv rfl (aD (b := true) (v := .bool true) rfl rfl) (mv (.bool true) rfl (aP rfl rfl (ab uX rfl) (aP rfl rfl (H6.ld 1 rfl cU rfl (.bool r.extern) rfl) (aP rfl rfl (ab wG rfl) (aP rfl rfl (H6.ld 0 rfl cU rfl (.bool r.extern) rfl) (aP rfl rfl ((show Yv _ _ _ _ (.bool true) _ from (beq_self_eq_true (r.extern)) ▸ gX (a := r.extern) (b := r.extern) TU4 rfl rfl)) (wv rfl (aD (b := true) (v := .bool true) rfl rfl) ?_)))))))))))
 refine mv (.bool true) rfl (aP rfl rfl (ab uW rfl) (aP rfl rfl (H6.ld 1 rfl cU rfl (.bool r.scattered) rfl) (aP rfl rfl (ab wF rfl) (aP rfl rfl (H6.ld 0 rfl cU rfl (.bool r.scattered) rfl) (aP rfl rfl ((show Yv _ _ _ _ (.bool true) _ from (beq_self_eq_true (r.scattered)) ▸ gX (a := r.scattered) (b := r.scattered) TU4 rfl rfl)) (wv rfl (aD (b := true) (v := .bool true) rfl rfl) (av (.bool true) rfl (wn (aQ ?_)))))))))
 exact ⟨.inr rfl, _, r1 (.bool true) rfl _ _, ⟨rfl, H6.sub (List.nil_sublist _)⟩⟩
end Go.Proofs.YtlndedfkgiafhaaDoor
namespace Go.Proofs.YtlndedfkgiafhaaDoor
open Go Go.RowKit
structure PSt where
 loads : List LoadD
 secs : List SecD
 syms : Option (List Sym)
 ind : Option (List Int)
def gG (xs : List Int) (off n : Nat) : Option (List Int) := if n = 0 ∨ off + n ≤ xs.length then some ((xs.drop off).take n) else none
def dC (wide big : Bool) (ys : List Int) : SecD :=
 if wide then ⟨a9 ((ys.drop 0).take 16), a9 ((ys.drop 16).take 16), n8 big (ys.drop 32), (n8 big (ys.drop 40)).toNat, (n4 big (ys.drop 48)).toNat, n4 big (ys.drop 52), n4 big (ys.drop 56), n4 big (ys.drop 60), n4 big (ys.drop 64), []⟩
 else ⟨a9 ((ys.drop 0).take 16), a9 ((ys.drop 16).take 16), n4 big (ys.drop 32), (n4 big (ys.drop 36)).toNat, (n4 big (ys.drop 40)).toNat, n4 big (ys.drop 44), n4 big (ys.drop 48), n4 big (ys.drop 52), n4 big (ys.drop 56), []⟩
def dt (big : Bool) (xs : List Int) (s : SecD) : Option SecD :=
 if s.nreloc.toNat = 0 then some { s with rels := [] } else if s.reloff.toNat + s.nreloc.toNat * 8 ≤ xs.length then some { s with rels := bw big s.nreloc.toNat ((xs.drop s.reloff.toNat).take (s.nreloc.toNat * 8)) } else none
def eQ (wide : Bool) : Nat := if wide then 80 else 68
def i7 (wide : Bool) : Nat := if wide then 72 else 56
def bL (wide big : Bool) (xs raw : List Int) : Nat → Nat → Option (List SecD)
 | 0, _ => some []
 | k + 1, a => if raw.length < a + eQ wide then none else match dt big xs (dC wide big ((raw.drop a).take (eQ wide))) with
  | none => none
  | some s => (bL wide big xs raw k (a + eQ wide)).map (s :: ·)
def dk (wide big : Bool) (ys : List Int) : List Int :=
 if wide then [n4 big (ys.drop 0), n4 big (ys.drop 4), n8 big (ys.drop 24), n8 big (ys.drop 32), n8 big (ys.drop 40), n8 big (ys.drop 48), n4 big (ys.drop 56), n4 big (ys.drop 60), n4 big (ys.drop 64), n4 big (ys.drop 68)]
 else [n4 big (ys.drop 0), n4 big (ys.drop 4), n4 big (ys.drop 24), n4 big (ys.drop 28), n4 big (ys.drop 32), n4 big (ys.drop 36), n4 big (ys.drop 40), n4 big (ys.drop 44), n4 big (ys.drop 48), n4 big (ys.drop 52)]
def ca (wide big : Bool) (xs raw : List Int) (s : PSt) : Option PSt :=
 if raw.length < i7 wide then none else
 match bL wide big xs raw ((dk wide big ((raw.drop 0).take (i7 wide))).getD 8 0).toNat (i7 wide) with
 | none => none
 | some l => if 9223372036854775808 ≤ (dk wide big ((raw.drop 0).take (i7 wide))).getD 4 0 ∨ 9223372036854775808 ≤ (dk wide big ((raw.drop 0).take (i7 wide))).getD 5 0 then none else
  some { s with loads := s.loads ++ [⟨1, raw, a9 ((((raw.drop 0).take (i7 wide)).drop 8).take 16), dk wide big ((raw.drop 0).take (i7 wide))⟩], secs := s.secs ++ l }
def df (big : Bool) (raw : List Int) (s : PSt) : Option PSt :=
 if raw.length < 12 then none else
 if raw.length ≤ (n4 big (((raw.drop 0).take 12).drop 8)).toNat then none else
 some { s with loads := s.loads ++ [⟨3, raw, a9 (raw.drop (n4 big (((raw.drop 0).take 12).drop 8)).toNat), []⟩] }
def dJ (big : Bool) (raw : List Int) (s : PSt) : Option PSt :=
 if raw.length < 24 then none else
 if raw.length ≤ (n4 big (((raw.drop 0).take 24).drop 8)).toNat then none else
 some { s with loads := s.loads ++ [⟨2, raw, a9 (raw.drop (n4 big (((raw.drop 0).take 24).drop 8)).toNat), [n4 big (((raw.drop 0).take 24).drop 12), n4 big (((raw.drop 0).take 24).drop 16), n4 big (((raw.drop 0).take 24).drop 20)]⟩] }
def m7 (wide big : Bool) (st sx : List Int) (n : Nat) : Option (List Sym) :=
 if ∀ k, k < n → ¬ st.length ≤ (n4 big (dB wide sx k)).toNat then some (bO wide big st sx n) else none
def ep (wide : Bool) : Nat := if wide then 16 else 12
def br (wide big : Bool) (xs raw : List Int) (s : PSt) : Option PSt :=
 if raw.length < 24 then none else
 match gG xs (n4 big (((raw.drop 0).take 24).drop 16)).toNat (n4 big (((raw.drop 0).take 24).drop 20)).toNat with
 | none => none
 | some st => match gG xs (n4 big (((raw.drop 0).take 24).drop 8)).toNat (ep wide * (n4 big (((raw.drop 0).take 24).drop 12)).toNat) with
  | none => none
  | some sx => match m7 wide big st sx (n4 big (((raw.drop 0).take 24).drop 12)).toNat with
   | none => none
   | some ss => some { s with loads := s.loads ++ [⟨4, raw, [], [0, 0, 0, 0, 0, 0]⟩], syms := some ss }
def rS (big : Bool) (ys : List Int) : List Int := [n4 big (ys.drop 0), n4 big (ys.drop 4), n4 big (ys.drop 8), n4 big (ys.drop 12), n4 big (ys.drop 16), n4 big (ys.drop 20), n4 big (ys.drop 24), n4 big (ys.drop 28), n4 big (ys.drop 32), n4 big (ys.drop 36), n4 big (ys.drop 40), n4 big (ys.drop 44), n4 big (ys.drop 48), n4 big (ys.drop 52), n4 big (ys.drop 56), n4 big (ys.drop 60), n4 big (ys.drop 64), n4 big (ys.drop 68), n4 big (ys.drop 72), n4 big (ys.drop 76)]
def bQ (big : Bool) (xs raw : List Int) (s : PSt) : Option PSt :=
 if raw.length < 80 then none else
 match s.syms with
 | none => none
 | some ss =>
  if ss.length < (n4 big (((raw.drop 0).take 80).drop 24)).toNat then none else
  if ss.length < ((n4 big (((raw.drop 0).take 80).drop 24) + n4 big (((raw.drop 0).take 80).drop 28)) % 4294967296).toNat then none else
  match gG xs (n4 big (((raw.drop 0).take 80).drop 56)).toNat (4 * (n4 big (((raw.drop 0).take 80).drop 60)).toNat) with
  | none => none
  | some ds => some { s with loads := s.loads ++ [⟨5, raw, [], rS big ((raw.drop 0).take 80)⟩], ind := some (dV big (n4 big (((raw.drop 0).take 80).drop 60)).toNat ds) }
def kD (raw : List Int) (s : PSt) : Option PSt := some { s with loads := s.loads ++ [⟨0, raw, [], []⟩] }
def bP (wide big : Bool) (xs : List Int) (cmd : Int) (raw : List Int) (s : PSt) : Option PSt :=
 if cmd = 2147483676 then df big raw s else
 if cmd = 12 then dJ big raw s else
 if cmd = 2 then br wide big xs raw s else
 if cmd = 11 then bQ big xs raw s else
 if cmd = 1 then ca false big xs raw s else
 if cmd = 25 then ca true big xs raw s else
 kD raw s
def eR (wide big : Bool) (xs : List Int) : Nat → List Int → PSt → Option PSt
 | 0, _, s => some s
 | k + 1, ds, s =>
  if ds.length < 8 then none else
  if (n4 big (ds.drop 4)).toNat < 8 ∨ ds.length < (n4 big (ds.drop 4)).toNat then none else
  match bP wide big xs (n4 big ds) (ds.take (n4 big (ds.drop 4)).toNat) s with
  | none => none
  | some s' => eR wide big xs k (ds.drop (n4 big (ds.drop 4)).toNat) s'
def jf (xs : List Int) : Option Bool :=
 if n4 true xs / 2 = 2138504551 then some true else if n4 false xs / 2 = 2138504551 then some false else none
def ey (h0 : Int) : Bool := decide (h0 = 4277009103)
def fU (xs : List Int) : Option MF :=
 if xs.length < 4 then none else
 match jf xs with
 | none => none
 | some big =>
  if xs.length < 28 then none else
  match gG xs (if ey (n4 big (xs.drop 0)) then 32 else 28) (n4 big (xs.drop 20)).toNat with
  | none => none
  | some ds => match eR (ey (n4 big (xs.drop 0))) big xs (n4 big (xs.drop 16)).toNat ds ⟨[], [], none, none⟩ with
   | none => none
   | some s => some ⟨fun k => n4 big (xs.drop (4 * k)), big, s.loads, s.secs, s.syms.getD [], s.ind.getD []⟩
def LdS (w : World) (vs : List Value) (ls : List LoadD) : Prop := vs.length = ls.length ∧ ∀ (i : Nat) (v : Value) (l : LoadD), vs[i]? = some v → ls[i]? = some l → MLoad w v l
def ScS (w : World) (rb : Nat) (gs : List Nat) (ss : List SecD) : Prop := gs.length = ss.length ∧ ∀ (i g : Nat) (s : SecD), gs[i]? = some g → ss[i]? = some s → MSec w rb g s
theorem LdS.snoc {w : World} {vs : List Value} {ls : List LoadD} {v : Value} {l : LoadD} (h : LdS w vs ls) (hl : MLoad w v l) : LdS w (vs ++ [v]) (ls ++ [l]) := by
 refine ⟨by simp [h.1], fun i v' l' h1 h2 => ?_⟩
 rcases Nat.lt_or_ge i vs.length with hi | hi
 · rw [List.getElem?_append_left hi] at h1
   rw [List.getElem?_append_left (by rw [← h.1]; exact hi)] at h2
   exact h.2 i v' l' h1 h2
 · have hil := (List.getElem?_eq_some_iff.1 h1).1
   have : i = vs.length := by simp at hil; omega
   subst this
   rw [List.getElem?_append_right (Nat.le_refl _)] at h1
   rw [List.getElem?_append_right (by rw [h.1]; exact Nat.le_refl _)] at h2
   simp [h.1] at h1 h2
   subst h1; subst h2; exact hl
theorem ScS.snoc {w : World} {rb : Nat} {gs : List Nat} {ss : List SecD} {g : Nat} {s : SecD} (h : ScS w rb gs ss) (hl : MSec w rb g s) : ScS w rb (gs ++ [g]) (ss ++ [s]) := by
 refine ⟨by simp [h.1], fun i v' l' h1 h2 => ?_⟩
 rcases Nat.lt_or_ge i gs.length with hi | hi
 · rw [List.getElem?_append_left hi] at h1
   rw [List.getElem?_append_left (by rw [← h.1]; exact hi)] at h2
   exact h.2 i v' l' h1 h2
 · have hil := (List.getElem?_eq_some_iff.1 h1).1
   have : i = gs.length := by simp at hil; omega
   subst this
   rw [List.getElem?_append_right (Nat.le_refl _)] at h1
   rw [List.getElem?_append_right (by rw [h.1]; exact Nat.le_refl _)] at h2
   simp [h.1] at h1 h2
   subst h1; subst h2; exact hl
end Go.Proofs.YtlndedfkgiafhaaDoor
namespace Go.Proofs.YtlndedfkgiafhaaDoor
open Go Go.RowKit
theorem pI {l : List Int} {m k i : Nat} (h : k + i < m) : ((l.take m).drop k).getD i 0 = (l.drop k).getD i 0 := by
 simp [List.getD_eq_getElem?_getD, List.getElem?_drop, List.getElem?_take, h]
theorem mw {big : Bool} {l : List Int} {m k : Nat} (h : k + 2 ≤ m) : n2 big ((l.take m).drop k) = n2 big (l.drop k) := by
 unfold n2; rw [pI (by omega), pI (by omega)]
theorem bK {big : Bool} {l : List Int} {m k : Nat} (h : k + 4 ≤ m) : n4 big ((l.take m).drop k) = n4 big (l.drop k) := by
 unfold n4; rw [List.drop_drop, List.drop_drop, mw (by omega), mw (by omega), mw (by omega), mw (by omega)]
theorem lm {big : Bool} {l : List Int} {m k : Nat} (h : k + 8 ≤ m) : n8 big ((l.take m).drop k) = n8 big (l.drop k) := by
 unfold n8; rw [List.drop_drop, List.drop_drop, bK (by omega), bK (by omega), bK (by omega), bK (by omega)]
theorem kr {l : List Int} {m k n : Nat} (h : k + n ≤ m) : ((l.take m).drop k).take n = (l.drop k).take n := by
 rw [List.drop_take, List.take_take, Nat.min_eq_left (by omega)]
def bp (big : Bool) : List Int → List Int → List Int
 | [], _ => []
 | v :: ws, bs => if 0 < v then nx big bs v.natAbs :: bp big ws (bs.drop v.natAbs) else bp big ws (bs.drop v.natAbs)
theorem mJ {big : Bool} {ws bs : List Int} (h : bs.length < cu ws) : cN big ws bs = none := by
 induction ws generalizing bs with
 | nil => simp [cu] at h
 | cons v ws ih =>
  simp only [cN]
  split
  · rfl
  · rw [ih (by rw [List.length_drop]; simp only [cu] at h; omega)]; rfl
theorem j5 {big : Bool} {ws bs : List Int} (h : cu ws ≤ bs.length) : cN big ws bs = some (bp big ws bs) := by
 induction ws generalizing bs with
 | nil => rfl
 | cons v ws ih =>
  simp only [cu] at h
  simp only [cN, bp]
  rw [if_neg (by omega), ih (by rw [List.length_drop]; omega)]
  rfl
def i6 (wide : Bool) : List Int := if wide then [4, 4, -16, 8, 8, 8, 8, 4, 4, 4, 4] else [4, 4, -16, 4, 4, 4, 4, 4, 4, 4, 4]
def fZ (wide : Bool) : List Int := if wide then [-16, -16, 8, 8, 4, 4, 4, 4, 4, 4, 4, 4] else [-16, -16, 4, 4, 4, 4, 4, 4, 4, 4, 4]
def ll (wide : Bool) : List Int := if wide then [4, 1, 1, 2, 8] else [4, 1, 1, 2, 4]
theorem pA (wide : Bool) : cu (i6 wide) = i7 wide := by cases wide <;> rfl
theorem pB (wide : Bool) : cu (fZ wide) = eQ wide := by cases wide <;> rfl
theorem mG (wide : Bool) : cu (ll wide) = ep wide := by cases wide <;> rfl
theorem j6 (l : List Int) : l.drop 0 = l := List.drop_zero
theorem acc4' (big : Bool) (l : List Int) : nx big l (4 : Int).natAbs = n4 big l := hX big l
theorem vT {big : Bool} {v : Int} {ws bs : List Int} (h : 0 < v) : bp big (v :: ws) bs = nx big bs v.natAbs :: bp big ws (bs.drop v.natAbs) := by simp [bp, h]
theorem segV (wide big : Bool) (l : List Int) : bp big (i6 wide) l = dk wide big ((l.drop 0).take (i7 wide)) := by
 cases wide
 · show bp big [4, 4, -16, 4, 4, 4, 4, 4, 4, 4, 4] l = dk false big ((l.drop 0).take 56)
   simp only [bp, dk, if_true, if_false, Bool.false_eq_true, j6, hX, rX, show (0 : Int) < 4 from by decide, show (0 : Int) < 8 from by decide, show ¬ (0 : Int) < -16 from by decide, show (4 : Int).natAbs = 4 from rfl, show (8 : Int).natAbs = 8 from rfl, show (-16 : Int).natAbs = 16 from rfl, List.drop_drop]
   rw [bK (k := 4), bK (k := 24), bK (k := 28), bK (k := 32), bK (k := 36), bK (k := 40), bK (k := 44), bK (k := 48), bK (k := 52)] <;> try omega
   have h0 := bK (big := big) (l := l) (m := 56) (k := 0) (by omega)
   simp only [j6] at h0
   rw [h0]
 · show bp big [4, 4, -16, 8, 8, 8, 8, 4, 4, 4, 4] l = dk true big ((l.drop 0).take 72)
   simp only [bp, dk, if_true, if_false, Bool.false_eq_true, j6, hX, rX, show (0 : Int) < 4 from by decide, show (0 : Int) < 8 from by decide, show ¬ (0 : Int) < -16 from by decide, show (4 : Int).natAbs = 4 from rfl, show (8 : Int).natAbs = 8 from rfl, show (-16 : Int).natAbs = 16 from rfl, List.drop_drop]
   rw [bK (k := 4), lm (k := 24), lm (k := 32), lm (k := 40), lm (k := 48), bK (k := 56), bK (k := 60), bK (k := 64), bK (k := 68)] <;> try omega
   have h0 := bK (big := big) (l := l) (m := 72) (k := 0) (by omega)
   simp only [j6] at h0
   rw [h0]
def rH (s : SecD) : List Int := [s.addr, ↑s.size, ↑s.off, s.align, s.reloff, s.nreloc, s.flags]
theorem secV (wide big : Bool) (l : List Int) (hb : Byt l) : (bp big (fZ wide) l).take 7 = rH (dC wide big (l.take (eQ wide))) := by
 have b4 : ∀ k, ((n4 big (l.drop k)).toNat : Int) = n4 big (l.drop k) := fun k => Int.toNat_of_nonneg (aR big (hb.drop k)).1
 have b8 : ∀ k, ((n8 big (l.drop k)).toNat : Int) = n8 big (l.drop k) := fun k => Int.toNat_of_nonneg (ln big (hb.drop k)).1
 cases wide
 · show (bp big [-16, -16, 4, 4, 4, 4, 4, 4, 4, 4, 4] l).take 7 = rH (dC false big (l.take 68))
   simp only [bp, rH, dC, if_true, if_false, Bool.false_eq_true, j6, hX, rX, show (0 : Int) < 4 from by decide, show (0 : Int) < 8 from by decide, show ¬ (0 : Int) < -16 from by decide, show (4 : Int).natAbs = 4 from rfl, show (8 : Int).natAbs = 8 from rfl, show (-16 : Int).natAbs = 16 from rfl, List.drop_drop]
   rw [bK (k := 32), bK (k := 36), bK (k := 40), bK (k := 44), bK (k := 48), bK (k := 52), bK (k := 56), b4, b4] <;> try omega
   rfl
 · show (bp big [-16, -16, 8, 8, 4, 4, 4, 4, 4, 4, 4, 4] l).take 7 = rH (dC true big (l.take 80))
   simp only [bp, rH, dC, if_true, if_false, Bool.false_eq_true, j6, hX, rX, show (0 : Int) < 4 from by decide, show (0 : Int) < 8 from by decide, show ¬ (0 : Int) < -16 from by decide, show (4 : Int).natAbs = 4 from rfl, show (8 : Int).natAbs = 8 from rfl, show (-16 : Int).natAbs = 16 from rfl, List.drop_drop]
   rw [lm (k := 32), lm (k := 40), bK (k := 48), bK (k := 52), bK (k := 56), bK (k := 60), bK (k := 64), b8, b4] <;> try omega
   rfl
theorem pJ (big : Bool) (n : Nat) (l : List Int) : bp big (List.replicate n 4) l = (List.range n).map fun k => n4 big (l.drop (4 * k)) := by
 induction n generalizing l with
 | zero => rfl
 | succ n ih =>
  rw [List.replicate_succ, vT (by decide), acc4', ih, List.range_succ_eq_map, List.map_cons, List.map_map]
  simp only [Nat.mul_zero, j6, List.drop_drop]
  congr 1
  refine List.map_congr_left fun k _ => ?_
  show n4 big (l.drop ((4 : Int).natAbs + 4 * k)) = n4 big (l.drop (4 * (k + 1)))
  rw [show (4 : Int).natAbs + 4 * k = 4 * (k + 1) from by show 4 + 4 * k = _; omega]
theorem eI (n : Nat) : cu (List.replicate n 4) = 4 * n := by
 induction n with
 | zero => rfl
 | succ n ih => rw [List.replicate_succ]; simp only [cu, ih]; show 4 + 4 * n = _; omega
end Go.Proofs.YtlndedfkgiafhaaDoor
namespace Go.Proofs.YtlndedfkgiafhaaDoor
open Go Go.RowKit
theorem eC (s : ByteArray) (pos : Nat) : 1 ≤ (Utf8.decode s pos).2 ∧ (∀ k, 0 < k → k < (Utf8.decode s pos).2 → 128 ≤ (s.get! (pos + k)).toNat) ∧ ((Utf8.decode s pos).1 = 46 ↔ (s.get! pos).toNat = 46) := by
 have h0 : s.get! (pos + 0) = s.get! pos := rfl
 simp only [Utf8.decode, h0]
 by_cases ha : (s.get! pos).toNat < 128
 · rw [if_pos ha]
   exact ⟨Nat.le_refl _, fun k h1 h2 => absurd h1 (by show ¬ 0 < k; have : k < 1 := h2; omega), Iff.rfl⟩
 · rw [if_neg ha]
   have c : ∀ k, ((decide (pos + k < s.size) && (s.get! (pos + k)).toNat / 64 == 2) = true) → 128 ≤ (s.get! (pos + k)).toNat := fun k hk => by
    simp only [Bool.and_eq_true, beq_iff_eq, decide_eq_true_eq] at hk; omega
   have hb : ¬ (s.get! pos).toNat = 46 := by omega
   have e : ¬ Utf8.runeError = 46 := by decide
   split
   · rename_i h
     have h1 := c 1 (by simp only [Bool.and_eq_true] at h ⊢; exact h.2)
     split
     · rename_i hc
       exact ⟨by show 1 ≤ 2; omega, fun k h2 h3 => by have : k < 2 := h3; have h4 : k = 1 := (by omega); subst h4; exact h1, ⟨fun h => by have : (s.get! pos).toNat % 32 * 64 + (s.get! (pos + 1)).toNat % 64 = 46 := h; omega, fun h => absurd h hb⟩⟩
     · exact ⟨Nat.le_refl _, fun k h2 h3 => by have : k < 1 := h3; omega, ⟨fun h => absurd h e, fun h => absurd h hb⟩⟩
   · split
     · rename_i h
       have h1 := c 1 (by simp only [Bool.and_eq_true] at h ⊢; exact h.1.2)
       have h2' := c 2 (by simp only [Bool.and_eq_true] at h ⊢; exact h.2)
       split
       · rename_i hc
         simp only [Bool.and_eq_true, ge_iff_le, decide_eq_true_eq] at hc
         exact ⟨by show 1 ≤ 3; omega, fun k h2 h3 => by
          have : k < 3 := h3
          have : k = 1 ∨ k = 2 := by omega
          rcases this with rfl | rfl <;> assumption, ⟨fun h => by have : (s.get! pos).toNat % 16 * 4096 + (s.get! (pos + 1)).toNat % 64 * 64 + (s.get! (pos + 2)).toNat % 64 = 46 := h; omega, fun h => absurd h hb⟩⟩
       · exact ⟨Nat.le_refl _, fun k h2 h3 => by have : k < 1 := h3; omega, ⟨fun h => absurd h e, fun h => absurd h hb⟩⟩
     · split
       · rename_i h
         have h1 := c 1 (by simp only [Bool.and_eq_true] at h ⊢; exact h.1.1.2)
         have h2' := c 2 (by simp only [Bool.and_eq_true] at h ⊢; exact h.1.2)
         have h3' := c 3 (by simp only [Bool.and_eq_true] at h ⊢; exact h.2)
         split
         · rename_i hc
           simp only [Bool.and_eq_true, ge_iff_le, decide_eq_true_eq] at hc
           exact ⟨by show 1 ≤ 4; omega, fun k h2 h3 => by
            have : k < 4 := h3
            have : k = 1 ∨ k = 2 ∨ k = 3 := by omega
            rcases this with rfl | rfl | rfl <;> assumption, ⟨fun h => by have : (s.get! pos).toNat % 8 * 262144 + (s.get! (pos + 1)).toNat % 64 * 4096 + (s.get! (pos + 2)).toNat % 64 * 64 + (s.get! (pos + 3)).toNat % 64 = 46 := h; omega, fun h => absurd h hb⟩⟩
         · exact ⟨Nat.le_refl _, fun k h2 h3 => by have : k < 1 := h3; omega, ⟨fun h => absurd h e, fun h => absurd h hb⟩⟩
       · exact ⟨Nat.le_refl _, fun k h2 h3 => by have : k < 1 := h3; omega, ⟨fun h => absurd h e, fun h => absurd h hb⟩⟩
theorem lu {ns : List Int} (hb : Byt ns) {i : Nat} (hi : i < ns.length) : ((strOfNums ns).get! i).toNat = (ns.getD i 0).toNat := by
 have h := hb i
 have e : (strOfNums ns).get! i = UInt8.ofNat (ns.getD i 0).toNat := by
  show (strOfNums ns).data[i]! = _
  simp [strOfNums, hi, List.getD_eq_getElem?_getD]
 rw [e, UInt8.toNat_ofNat']
 omega
theorem iP {ns : List Int} (hb : Byt ns) {p : Nat} (hp : p < ns.length) (h : ∀ j, j < p → ns.getD j 0 = 46 → ns.getD 0 0 ≠ 95) (hh : (Utf8.decode (strOfNums ns) p).1 = 46 → ns.getD 0 0 ≠ 95) :
 ∀ j, j < p + (Utf8.decode (strOfNums ns) p).2 → ns.getD j 0 = 46 → ns.getD 0 0 ≠ 95 := by
 obtain ⟨h1, h2, h3⟩ := eC (strOfNums ns) p
 intro j hj he
 rcases Nat.lt_or_ge j p with hjp | hjp
 · exact h j hjp he
 · have hjl : j < ns.length := by
    rcases Nat.lt_or_ge j ns.length with hl | hl
    · exact hl
    · rw [List.getD_eq_getElem?_getD, List.getElem?_eq_none hl] at he; simp at he
   rcases Nat.eq_or_lt_of_le hjp with e | hlt
   · subst e
     exact hh (h3.2 (by rw [lu hb hp, he]; rfl))
   · have := h2 (j - p) (by omega) (by omega)
     rw [show p + (j - p) = j by omega, lu hb hjl, he] at this
     exact absurd this (by decide)
theorem nU {ns : List Int} (hb : Byt ns) {p : Nat} (hp : p < ns.length) (hh : (Utf8.decode (strOfNums ns) p).1 = 46) : 46 ∈ ns := by
 have h3 := (eC (strOfNums ns) p).2.2.1 hh
 rw [lu hb hp] at h3
 have := hb p
 exact j1.2 ⟨p, hp, by omega⟩
theorem l1 {ns : List Int} (h : ∀ j, j < ns.length → ns.getD j 0 = 46 → ns.getD 0 0 ≠ 95) : de ns = ns := by
 unfold de
 rw [if_neg]
 rintro ⟨h1, h2⟩
 obtain ⟨j, hj, e⟩ := j1.1 h1
 exact h j hj e h2
def j2 (g : Nat) (s : ByteArray) (p : Nat) : Res where
 F := fun k => k = g
 φ := fun w => w.heap[g]? = some (.stringIter s p)
 live := fun w k h hk => by subst hk; exact aA h
 stay := fun w w' h hk => (hk g rfl).trans h
section
variable {P : Program} {ρ : cF} {w w0 : World} {d : Option Tmp} {ty : TypeId} {pos : String} {af : Array Edge} {gd : Option (Nat × Bool)} {K : cF → World → Prop} {M : Nat → Prop} {L : List Res}
theorem St.newO (h : St w0 M L w) (o : Obj) (r : Res) (hF : ∀ k, r.F k ↔ k = w.heap.size) (hφ : r.φ (w.alloc o)) : St w0 M (r :: L) (w.alloc o) := by
 have hk : Keep w0 M (w.alloc o) := Keep.trans h.keep (M' := aW) ⟨rfl, rfl, rfl, by simp, fun j hj _ => fc _ hj⟩ (fun _ _ hf => hf.elim)
 refine ⟨hk, ?_, ?_, .cons ?_ h.sep⟩
 · rintro x (_ | ⟨_, hx⟩)
   · exact hφ
   · exact x.stay w _ (h.all x hx) fun g hg => fc _ (x.live _ _ (h.all x hx) hg)
 · rintro x (_ | ⟨_, hx⟩) g hg
   · have hg' := (hF g).1 hg
     exact .inr (by rw [hg']; exact h.keep.size)
   · exact h.own x hx g hg
 · intro s hs g hg hsg
   have hg' := (hF g).1 hg
   have := s.live _ _ (h.all s hs) hsg
   omega
theorem pL (H : St w0 M L w) {t : TypeId} {x : Operand} {s : ByteArray} (ht : P.underlying t = some .string) (hx : ev ρ x = .string s) (h : ∀ g w', St w0 M (j2 g s 0 :: L) w' → K (dM ρ d (.pointer (some ⟨g, 0, none⟩))) w') : i4 P ⟨d, .range t x, ty, pos, af, gd⟩ ρ w K := by
 refine i3 (v := .pointer (some ⟨w.heap.size, 0, none⟩)) (w' := w.iter s 0) ?_ (h _ _ (H.newO (.stringIter s 0) (j2 w.heap.size s 0) (fun _ => Iff.rfl) (World.iter_heap w s 0)))
 unfold Yv
 simp only [execOp, hx]
 rw [Sem.run_bind, run_range_string w t s ht]
 rfl
theorem mA {g p : Nat} {s : ByteArray} (hg : w.heap[g]? = some (.stringIter s p)) (hp : p < s.size) (ty : TypeId) :
 (Instr.next (.pointer (some ⟨g, 0, none⟩)) true ty).run P w = .ok (.tuple #[.bool true, .int .i64 p, .int .i32 (Utf8.decode s p).1]) { w with heap := w.heap.setIfInBounds g (.stringIter s (p + (Utf8.decode s p).2)) } := by
 simp only [Instr.next, getObj, setObj, Sem.run_bind, Sem.run, hg, Result.andThen, hp, if_true]
 simp [goInt]
theorem lR {g p : Nat} {s : ByteArray} (hg : w.heap[g]? = some (.stringIter s p)) (hp : ¬ p < s.size) (ty : TypeId) :
 (Instr.next (.pointer (some ⟨g, 0, none⟩)) true ty).run P w = .ok (.tuple #[.bool false]) w := by
 simp [Instr.next, getObj, Sem.run, hg, hp]
theorem tf (H : St w0 M L w) (i : Nat) {x : Operand} {s : ByteArray} {g p : Nat} (hi : L[i]? = some (j2 g s p)) (hx : ev ρ x = .pointer (some ⟨g, 0, none⟩)) (hp : p < s.size) {L' : List Res}
 (h : ∀ w', St w0 M L' w' → K (dM ρ d (.tuple #[.bool true, .int .i64 p, .int .i32 (Utf8.decode s p).1])) w') (hL : L.set i (j2 g s (p + (Utf8.decode s p).2)) = L' := by first | (simp only [List.set_cons_succ, List.set_cons_zero]; rfl) | rfl) : i4 P ⟨d, .next x true, ty, pos, af, gd⟩ ρ w K := by
 subst hL
 have hg : w.heap[g]? = some (.stringIter s p) := H.get hi
 refine i3 (w' := { w with heap := w.heap.setIfInBounds g (.stringIter s (p + (Utf8.decode s p).2)) }) ?_ (h _ ?_)
 · unfold Yv
   simp only [execOp, hx]
   rw [Sem.run_bind, mA hg hp]
   rfl
 · have hgl := aA hg
   refine H.set_ hi (fun _ => Iff.rfl) ?_ ?_ (by simp) ?_
   · show ({ w with heap := w.heap.setIfInBounds g (.stringIter s (p + (Utf8.decode s p).2)) } : World).heap[g]? = _
     simp [hgl]
   · refine Keep.trans H.keep (M' := fun k => k = g) ⟨rfl, rfl, rfl, by simp, fun j _ hj => ?_⟩ ?_
     · show (w.heap.setIfInBounds g _)[j]? = w.heap[j]?
       rw [Array.getElem?_setIfInBounds, if_neg (Ne.symm hj)]
     · rintro j hj rfl
       rcases H.own _ (eH hi) _ rfl with hM | hM
       · exact hM
       · omega
   · intro k _ hk
     show (w.heap.setIfInBounds g _)[k]? = w.heap[k]?
     rw [Array.getElem?_setIfInBounds, if_neg (fun e => hk e.symm)]
theorem kn (H : St w0 M L w) (i : Nat) {x : Operand} {s : ByteArray} {g p : Nat} (hi : L[i]? = some (j2 g s p)) (hx : ev ρ x = .pointer (some ⟨g, 0, none⟩)) (hp : ¬ p < s.size) : Yv P ⟨d, .next x true, ty, pos, af, gd⟩ ρ w (.tuple #[.bool false]) w := by
 unfold Yv
 simp only [execOp, hx]
 rw [Sem.run_bind, lR (H.get hi) hp]
 rfl
end
section
variable {P : Program} {n : Nat} {Q : QE} {ρ : cF} {w : World} {ops : Array Oper} {S1 S2 : World → Prop} {k i d : Nat} {op : Op} {ty : TypeId} {pos : String} {af : Array Edge} {gd : Option (Nat × Bool)} {p : Pl} {b : Bool}
theorem nN (ho : ops[i]? = some ⟨some d, op, ty, pos, af, gd⟩) (hg : cX ⟨some d, op, ty, pos, af, gd⟩ ops ρ n = false) (h2 : S2 w) (h1 : (b || Nat.beq i k) = false → S1 w) (h : PS P n ops Q S1 S2 k p (b || Nat.beq i k) (iz ρ d undef) w) : PS P n ops Q S1 S2 k (.run i p) b ρ w :=
 ⟨_, ho, .inr ⟨hg, h2, h1, h⟩⟩
end
theorem cc {a a' : Value} {l l' : List Value} (h : a = a') (h2 : l = l') : a :: l = a' :: l' := by rw [h, h2]
theorem tj {w : World} {g : Nat} {v0 v1 v2 v3 v4 v5 : Value} (h0 : w.cell? ⟨g, 0, none⟩ = some v0) (h1 : w.cell? ⟨g, 1, none⟩ = some v1) (h2 : w.cell? ⟨g, 2, none⟩ = some v2) (h3 : w.cell? ⟨g, 3, none⟩ = some v3) (h4 : w.cell? ⟨g, 4, none⟩ = some v4) (h5 : w.cell? ⟨g, 5, none⟩ = some v5) :
 ∀ j v, [v0, v1, v2, v3, v4, v5][j]? = some v → w.cell? ⟨g, 0 + j, none⟩ = some v := by
 intro j v hj
 match j, hj with
 | 0, hj => simp at hj; subst hj; exact h0
 | 1, hj => simp at hj; subst hj; exact h1
 | 2, hj => simp at hj; subst hj; exact h2
 | 3, hj => simp at hj; subst hj; exact h3
 | 4, hj => simp at hj; subst hj; exact h4
 | 5, hj => simp at hj; subst hj; exact h5
 | j + 6, hj => simp at hj
theorem tk {w : World} {g : Nat} {v0 v1 v2 v3 v4 : Value} (h0 : w.cell? ⟨g, 0, none⟩ = some v0) (h1 : w.cell? ⟨g, 1, none⟩ = some v1) (h2 : w.cell? ⟨g, 2, none⟩ = some v2) (h3 : w.cell? ⟨g, 3, none⟩ = some v3) (h4 : w.cell? ⟨g, 4, none⟩ = some v4) :
 ∀ j v, [v0, v1, v2, v3, v4][j]? = some v → w.cell? ⟨g, 0 + j, none⟩ = some v := by
 intro j v hj
 match j, hj with
 | 0, hj => simp at hj; subst hj; exact h0
 | 1, hj => simp at hj; subst hj; exact h1
 | 2, hj => simp at hj; subst hj; exact h2
 | 3, hj => simp at hj; subst hj; exact h3
 | 4, hj => simp at hj; subst hj; exact h4
 | j + 5, hj => simp at hj
theorem lz (big : Bool) (n W : Nat) (hW : 4 * n ≤ W) (l : List Int) : bp big (List.replicate n 4) l = (List.range n).map fun k => n4 big (((l.drop 0).take W).drop (4 * k)) := by
 rw [pJ]
 refine List.map_congr_left fun k hk => ?_
 have := List.mem_range.1 hk
 exact (bK (l := l.drop 0) (by omega)).symm
theorem nlV (wide big : Bool) (l : List Int) : bp big (ll wide) l = [n4 big (l.take (ep wide)), (l.take (ep wide)).getD 4 0, (l.take (ep wide)).getD 5 0, n2 big ((l.take (ep wide)).drop 6), if wide then n8 big ((l.take (ep wide)).drop 8) else n4 big ((l.take (ep wide)).drop 8)] := by
 have g4 : ∀ {m : Nat}, 16 ≤ m + 4 → (l.take m).getD 4 0 = l.getD 4 0 := fun {m} h => by
  have h : 4 < m := by omega
  simp [List.getD_eq_getElem?_getD, List.getElem?_take, h]
 have g5 : ∀ {m : Nat}, 16 ≤ m + 4 → (l.take m).getD 5 0 = l.getD 5 0 := fun {m} h => by
  have h : 5 < m := by omega
  simp [List.getD_eq_getElem?_getD, List.getElem?_take, h]
 have hd : ∀ k, (l.drop k).getD 0 0 = l.getD k 0 := fun k => by simp [List.getD_eq_getElem?_getD]
 cases wide
 · show bp big [4, 1, 1, 2, 4] l = [n4 big (l.take 12), (l.take 12).getD 4 0, (l.take 12).getD 5 0, n2 big ((l.take 12).drop 6), n4 big ((l.take 12).drop 8)]
   simp only [bp, if_true, hX, rX, acc2, acc1, show (0 : Int) < 4 from by decide, show (0 : Int) < 1 from by decide, show (0 : Int) < 2 from by decide, show (4 : Int).natAbs = 4 from rfl, show (1 : Int).natAbs = 1 from rfl, show (2 : Int).natAbs = 2 from rfl, List.drop_drop, hd]
   rw [g4 (by omega), g5 (by omega), mw (by omega), bK (by omega)]
   have h0 := bK (big := big) (l := l) (m := 12) (k := 0) (by omega)
   simp only [j6] at h0
   rw [h0]
 · show bp big [4, 1, 1, 2, 8] l = [n4 big (l.take 16), (l.take 16).getD 4 0, (l.take 16).getD 5 0, n2 big ((l.take 16).drop 6), n8 big ((l.take 16).drop 8)]
   simp only [bp, if_true, hX, rX, acc2, acc1, show (0 : Int) < 4 from by decide, show (0 : Int) < 8 from by decide, show (0 : Int) < 1 from by decide, show (0 : Int) < 2 from by decide, show (4 : Int).natAbs = 4 from rfl, show (8 : Int).natAbs = 8 from rfl, show (1 : Int).natAbs = 1 from rfl, show (2 : Int).natAbs = 2 from rfl, List.drop_drop, hd]
   rw [g4 (by omega), g5 (by omega), mw (by omega), lm (by omega)]
   have h0 := bK (big := big) (l := l) (m := 16) (k := 0) (by omega)
   simp only [j6] at h0
   rw [h0]
theorem nI {wide : Bool} {xs : List Int} {q8 q12 k : Nat} (hk : k < q12) : dB wide ((xs.drop q8).take (ep wide * q12)) k = (xs.drop (q8 + ep wide * k)).take (ep wide) := by
 have h : ep wide * k + ep wide ≤ ep wide * q12 := by rw [← Nat.mul_succ]; exact Nat.mul_le_mul_left _ hk
 unfold dB
 rw [show (if wide then 16 else 12) = ep wide from rfl, kr h, List.drop_drop]
end Go.Proofs.YtlndedfkgiafhaaDoor
namespace Go.Proofs.YtlndedfkgiafhaaDoor
open Go Go.RowKit
section
variable {P : Program} {ρ : cF} {w : World} {d : Option Tmp} {ty : TypeId} {pos : String} {af : Array Edge} {gd : Option (Nat × Bool)}
theorem nB {t t' : Nat} {x y : Operand} {a : Bool} (ht : P.underlying t = some .bool) (hx : ev ρ x = .bool a) (hy : ev ρ y = .bool a) : Yv P ⟨d, .binOp .neq t x y t', ty, pos, af, gd⟩ ρ w (.bool false) w := by
 have := oT (P := P) (w := w) (d := d) (ty := ty) (pos := pos) (af := af) (gd := gd) (t' := t') ht hx hy
 simpa using this
theorem nD {t t' : Nat} {x y : Operand} {a : Bool} (ht : P.underlying t = some .bool) (hx : ev ρ x = .bool a) (hy : ev ρ y = .bool (!a)) : Yv P ⟨d, .binOp .eql t x y t', ty, pos, af, gd⟩ ρ w (.bool false) w := by
 have := gX (P := P) (w := w) (d := d) (ty := ty) (pos := pos) (af := af) (gd := gd) (t' := t') ht hx hy
 cases a <;> simpa using this
theorem eT {t t' : Nat} {x y : Operand} {a : ByteArray} (hx : ev ρ x = .string a) (hy : ev ρ y = .string a) : Yv P ⟨d, .binOp .neq t x y t', ty, pos, af, gd⟩ ρ w (.bool false) w := by
 have := r4 (P := P) (w := w) (d := d) (ty := ty) (pos := pos) (af := af) (gd := gd) (t := t) (t' := t') hx hy
 simpa using this
end
theorem fK {α β : Type} {f : α → β} {xs : List α} {ys : List β} (h : xs.map f = ys) {i : Nat} {x : α} (hx : xs[i]? = some x) : ys[i]? = some (f x) := by rw [← h, List.getElem?_map, hx]; rfl
end Go.Proofs.YtlndedfkgiafhaaDoor
namespace Go.Proofs.YtlndedfkgiafhaaDoor
open Go Go.RowKit Go.Proofs
def isBlk (id : Nat) : Code → Bool
 | .seq _ (.block i _) => i == id
 | _ => false
def d7 (id : Nat) : Code → Option Code
 | .seq a b => bif isBlk id a then some (.seq a b) else match d7 id a with
  | some c => some c
  | none => d7 id b
 | .cond _ a b => match d7 id a with
  | some c => some c
  | none => d7 id b
 | .block _ a => d7 id a
 | .loop a => d7 id a
 | _ => none
theorem nZ {P : Program} {n : Nat} {Q : QE} {ρ : cF} {w : World} {c : Code} {o : Option Code} (h : o = some c) (hW : W P n c Q ρ w) : W P n (o.getD .skip) Q ρ w := by subst h; exact hW
def SyS (φ : World → Prop) (v : Value) (o : Option (List Sym)) : Prop := (v = .np ∧ o = none) ∨ ∃ (gy n c : Nat) (A : Option Addr) (x0 x1 x2 x3 x4 x5 x6 : Value) (ss : List Sym), v = .pt gy ∧ o = some ss ∧ n ≤ 10485760 ∧ ss.length = n ∧ ∀ w, φ w → (aq gy [x0, x1, x2, x3, x4, x5, x6, .slice A n c] 144).φ w ∧ RV w A n 5 (ss.flatMap Sym.cells)
def DyS (φ : World → Prop) (v : Value) (o : Option (List Int)) : Prop := (v = .np ∧ o = none) ∨ ∃ (gy n c : Nat) (a : Addr) (z : Value) (q : Nat → Value) (ss : List Int), v = .pt gy ∧ o = some ss ∧ n ≤ 4294967295 ∧ ∀ w, φ w → (aq gy [z, q 0, q 1, q 2, q 3, q 4, q 5, q 6, q 7, q 8, q 9, q 10, q 11, q 12, q 13, q 14, q 15, q 16, q 17, q 18, q 19, .slice (some a) n c] 148).φ w ∧ RI .u32 w (some a) n ss
theorem SyS.mono {φ φ' : World → Prop} {v : Value} {o : Option (List Sym)} (h : SyS φ v o) (hm : ∀ w, φ' w → φ w) : SyS φ' v o := by
 rcases h with h | ⟨gy, n, c, A, x0, x1, x2, x3, x4, x5, x6, ss, e1, e2, hn, hl, hf⟩
 · exact .inl h
 · exact .inr ⟨gy, n, c, A, x0, x1, x2, x3, x4, x5, x6, ss, e1, e2, hn, hl, fun w hw => hf w (hm w hw)⟩
theorem DyS.mono {φ φ' : World → Prop} {v : Value} {o : Option (List Int)} (h : DyS φ v o) (hm : ∀ w, φ' w → φ w) : DyS φ' v o := by
 rcases h with h | ⟨gy, n, c, a, z, q, ss, e1, e2, hn, hf⟩
 · exact .inl h
 · exact .inr ⟨gy, n, c, a, z, q, ss, e1, e2, hn, fun w hw => hf w (hm w hw)⟩
structure NFD (φ : World → Prop) (rb : Nat) (s : PSt) (gd o m : Nat) (ds : List Int) (vs : List Value) (gs : List Nat) (sy dy : Value) : Prop where
 dat : ∀ w, φ w → RI .u8 w (some ⟨gd, o, none⟩) m ds
 ld : ∀ w, φ w → LdS w vs s.loads
 sc : ∀ w, φ w → ScS w rb gs s.secs
 sy : SyS φ sy s.syms
 dy : DyS φ dy s.ind
abbrev bM (gs : List Nat) : List Value := gs.map fun g => .pt g
abbrev sY (fb : Nat) (big : Bool) (h : Nat → Int) (AL AS : Option Addr) (nL cL nS cS : Nat) (vs : List Value) (gs : List Nat) (sy dy : Value) (D : Res) : List Res :=
 [aq fb [.u32 (h 0), .u32 (h 1), .u32 (h 2), .u32 (h 3), .u32 (h 4), .u32 (h 5), .u32 (h 6), .u8 (bo big), .slice AL nL cL, .slice AS nS cS, sy, dy] 121, aH 123 1 (.slice AL nL cL) nL vs, aH 125 1 (.slice AS nS cS) nS (bM gs), D]
def Mid (w : World) (rb fb : Nat) (big : Bool) (h : Nat → Int) (gd o m : Nat) (ds : List Int) (s : PSt) (w' : World) : Prop :=
 ∃ (D : Res) (AL AS : Option Addr) (nL cL nS cS : Nat) (vs : List Value) (gs : List Nat) (sy dy : Value), D.F gd ∧ nL + m ≤ 10485760 ∧ nS + m ≤ 10485760 ∧
  NFD D.φ rb s gd o m ds vs gs sy dy ∧ St w aW (sY fb big h AL AS nL cL nS cS vs gs sy dy D) w'
def Fr (ρ : cF) (rb fb gd o m : Nat) (big : Bool) (i : Int) : Prop :=
 ρ 0 = .iface 109 (.pt rb) ∧ ρ 4 = .pt fb ∧ (∃ of : Int, ρ 12 = .i64 of ∧ 0 ≤ of ∧ of + ↑m ≤ 10485800) ∧ ρ 13 = .sl gd o m m ∧ ρ 16 = .u8 (bo big) ∧ ρ 17 = .u32 i
theorem St.sepD {w0 w : World} {M : Nat → Prop} {L : List Res} (h : St w0 M L w) {i j g x : Nat} {cs : List Value} {T : TypeId} {D : Res} (hi : L[i]? = some (aq g cs T)) (hj : L[j]? = some D) (hij : i < j) (hD : D.F x) : x ≠ g := fun e => h.ne hi hj hij (show x = g from e) hD
end Go.Proofs.YtlndedfkgiafhaaDoor
namespace Go.Proofs.YtlndedfkgiafhaaDoor
open Go Go.RowKit Go.Proofs
theorem TC138 : Tryd.prog.concrete 138 = true := by kernel_rfl
theorem j8 : Tryd.prog.underlying 116 = some (.slice 123) := by kernel_rfl
theorem jG : (Tryd.prog.info? 123).map (fun i => (i.zero, i.size, i.bytes)) = some (some (.nilIface), 1, 16) := by kernel_rfl
theorem k6 : Tryd.prog.underlying 160 = some (.pointer (Tryd.prog.pointee 160)) := by kernel_rfl
theorem tC : cQ Tryd.prog 162 [.u32 0, .u32 0, .u32 0] := bv (by kernel_rfl)
theorem CK52 : aX Tryd.prog 52 := aJ (by kernel_rfl)
theorem tB : cQ Tryd.prog 165 [.ns, .string (⟨#[]⟩)] := bv (by kernel_rfl)
theorem uN : FA 165 0 0 := fa (by kernel_rfl)
theorem TC163 : Tryd.prog.concrete 163 = true := by kernel_rfl
theorem tA : cQ Tryd.prog 167 [.u32 0, .u32 0, .u32 0, .u32 0, .u32 0, .u32 0] := bv (by kernel_rfl)
theorem CK54 : aX Tryd.prog 54 := aJ (by kernel_rfl)
theorem t9 : cQ Tryd.prog 170 [.ns, .string (⟨#[]⟩), .u32 0, .u32 0, .u32 0] := bv (by kernel_rfl)
theorem uK : FA 170 0 0 := fa (by kernel_rfl)
theorem TC168 : Tryd.prog.concrete 168 = true := by kernel_rfl
theorem bT {xs : List Int} {off n : Nat} (h : n = 0 ∨ off + n ≤ xs.length) : gG xs off n = some ((xs.drop off).take n) := if_pos h
theorem dD {xs : List Int} {off n : Nat} (h : ¬ (n = 0 ∨ off + n ≤ xs.length)) : gG xs off n = none := if_neg h
theorem vH {rt : TypeId} {ru : Value} {off nn : Int} (w : World) (hof : 0 ≤ off) (hom : off ≤ 9223372036854775807) (h0 : 0 ≤ nn) (hm : nn ≤ 9223372036854775807) :
 Calls Tryd.prog 47 #[.iface rt ru, .i64 off, .i64 nn] w fun e w' => ∃ (g : Nat) (r : Res), e = .returned (.pt g) ∧ St w aW [r] w' := by
 by_cases h : off + nn ≤ 9223372036854775807
 · exact (ud w hof hom h0 h).mono fun e w' ⟨g, h, _, H⟩ => ⟨g, _, h, H⟩
 · exact (vI w hof hom h0 hm (by omega)).mono fun e w' ⟨g, h, _, H⟩ => ⟨g, _, h, H⟩
theorem ly {l : List Int} {B : Int} (h : ∀ x ∈ l, 0 ≤ x ∧ x ≤ B) (hB : 0 ≤ B) (i : Nat) : 0 ≤ l.getD i 0 ∧ l.getD i 0 ≤ B := by
 rw [List.getD_eq_getElem?_getD]
 rcases Nat.lt_or_ge i l.length with hi | hi
 · rw [List.getElem?_eq_getElem hi]; exact h _ (List.getElem_mem hi)
 · rw [List.getElem?_eq_none hi]; exact ⟨Int.le_refl 0, hB⟩
theorem sP {wide big : Bool} {ys : List Int} (hb : Byt ys) : ∀ x ∈ dk wide big ys, 0 ≤ x ∧ x ≤ 18446744073709551615 := by
 have h4 : ∀ k, 0 ≤ n4 big (ys.drop k) ∧ n4 big (ys.drop k) ≤ 18446744073709551615 := fun k => by have := aR big (hb.drop k); omega
 have h8 : ∀ k, 0 ≤ n8 big (ys.drop k) ∧ n8 big (ys.drop k) ≤ 18446744073709551615 := fun k => by have := ln big (hb.drop k); omega
 cases wide <;> simp only [dk, if_true, if_false, Bool.false_eq_true, List.forall_mem_cons, List.not_mem_nil, false_imp_iff, implies_true, and_true] <;> refine ⟨h4 _, h4 _, ?_, ?_, ?_, ?_, h4 _, h4 _, h4 _, h4 _⟩ <;> first | exact h4 _ | exact h8 _
theorem mf {wide big : Bool} {ys : List Int} (hb : Byt ys) : (dC wide big ys).fits := by
 have h4 : ∀ k, 0 ≤ n4 big (ys.drop k) ∧ n4 big (ys.drop k) < 4294967296 := fun k => aR big (hb.drop k)
 have h8 : ∀ k, 0 ≤ n8 big (ys.drop k) ∧ n8 big (ys.drop k) < 18446744073709551616 := fun k => ln big (hb.drop k)
 cases wide
 · exact ⟨by have := h4 32; show 0 ≤ n4 big (ys.drop 32) ∧ n4 big (ys.drop 32) ≤ _; omega, by have := h4 36; show (n4 big (ys.drop 36)).toNat < _; omega, by have := h4 40; show (n4 big (ys.drop 40)).toNat < _; omega, by have := h4 44; show 0 ≤ n4 big (ys.drop 44) ∧ n4 big (ys.drop 44) ≤ _; omega, by have := h4 48; show 0 ≤ n4 big (ys.drop 48) ∧ n4 big (ys.drop 48) ≤ _; omega, by have := h4 52; show 0 ≤ n4 big (ys.drop 52) ∧ n4 big (ys.drop 52) ≤ _; omega, (h4 56).1, by have := h4 56; show n4 big (ys.drop 56) ≤ _; omega⟩
 · exact ⟨by have := h8 32; show 0 ≤ n8 big (ys.drop 32) ∧ n8 big (ys.drop 32) ≤ _; omega, by have := h8 40; show (n8 big (ys.drop 40)).toNat < _; omega, by have := h4 48; show (n4 big (ys.drop 48)).toNat < _; omega, by have := h4 52; show 0 ≤ n4 big (ys.drop 52) ∧ n4 big (ys.drop 52) ≤ _; omega, by have := h4 56; show 0 ≤ n4 big (ys.drop 56) ∧ n4 big (ys.drop 56) ≤ _; omega, by have := h4 60; show 0 ≤ n4 big (ys.drop 60) ∧ n4 big (ys.drop 60) ≤ _; omega, (h4 64).1, by have := h4 64; show n4 big (ys.drop 64) ≤ _; omega⟩
theorem sX {rb N C fb gd o0 o m sz cr nL cL nS cS : Nat} {A AL AS : Option Addr} {i0 p0 of ii cmd : Int} {xs raw ds : List Int} {a0 a1 : Addr} {h : Nat → Int} {vs : List Value} {gs : List Nat} {sy dy : Value} {D : Res} {s : PSt} (big : Bool) (w w1 : World) (hrb : (aq rb [.slice A N C, .i64 i0, .i64 p0] 190).φ w) (hG : Glob 224 w a0 a1) (hNC : N ≤ C) (hN : N < 10485760) (hr : RI .u8 w A N xs) (hby : Byt xs) (hA : ∀ a, A = some a → a.block < w.heap.size) (hw4 : 4 ≤ w.heap.size)
 (hDg : D.F gd) (hnL : nL + sz + m ≤ 10485760) (hnS : nS + sz + m ≤ 10485760) (hD : NFD D.φ rb s gd o m ds vs gs sy dy) (hRaw : ∀ w, D.φ w → RI .u8 w (some ⟨gd, o0, none⟩) sz raw) (hrby : Byt raw) (hrl : raw.length = sz) (hscr : sz ≤ cr) (hsz8 : 8 ≤ sz) (hof0 : 0 ≤ of) (hof1 : of + ↑m ≤ 10485800)
 (H1 : St w aW (sY fb big h AL AS nL cL nS cS vs gs sy dy D) w1) {ρ : cF} (h0 : ρ 0 = .iface 109 (.pt rb)) (h4 : ρ 4 = .pt fb) (h12 : ρ 12 = .i64 of) (h13 : ρ 13 = .sl gd o m m) (h16 : ρ 16 = .u8 (bo big)) (h17 : ρ 17 = .u32 ii) (h18 : ρ 18 = .u32 cmd) (h19 : ρ 19 = .u32 ↑sz) (h20 : ρ 20 = .sl gd o0 sz cr) (h21 : ρ 21 = .np) (hc2147483676 : cmd ≠ 2147483676) (hc12 : cmd ≠ 12) (hc2 : cmd ≠ 2) (hc11 : cmd ≠ 11) (hc1 : cmd ≠ 1) (hc25 : cmd ≠ 25)
 {Q : QE} (hQ : ∀ s' ρ' w', kD raw s = some s' → Fr ρ' rb fb gd o m big ii → Mid w rb fb big h gd o m ds s' w' → Q .normal ρ' w') (hR : kD raw s = none → ∀ ρ' w' T v, ρ' 2 = .np → ρ' 3 = .iface T v → Keep w aW w' → Q .ret ρ' w') :
 W Tryd.prog 931 ((d7 3 (Tryd.f41.body.getD .skip)).getD .skip) Q ρ w1 := by
 refine nZ rfl ?_
 have H0 : St w aW [aq fb [.u32 (h 0), .u32 (h 1), .u32 (h 2), .u32 (h 3), .u32 (h 4), .u32 (h 5), .u32 (h 6), .u8 (bo big), .slice AL nL cL, .slice AS nS cS, sy, dy] 121, aH 123 1 (.slice AL nL cL) nL vs, aH 125 1 (.slice AS nS cS) nS (bM gs), D] w1 := H1
 refine ad (sr (mg h18 rfl (wn (aC (sr (wv rfl (aL rfl rfl (beq_eq_false_iff_ne.2 (hc2147483676))) (av (.bool false) rfl (wn (aj rfl (sr (wv rfl (aL rfl rfl (beq_eq_false_iff_ne.2 (hc12))) ?_)))))))))))
 refine av (.bool false) rfl (wn (aj rfl (sr (wv rfl (aL rfl rfl (beq_eq_false_iff_ne.2 (hc2))) (av (.bool false) rfl (wn (aj rfl (sr (wv rfl (aL rfl rfl (beq_eq_false_iff_ne.2 (hc11))) (av (.bool false) rfl (wn ?_)))))))))))
 refine aj rfl (sr (wv rfl (aL rfl rfl (beq_eq_false_iff_ne.2 (hc1))) (av (.bool false) rfl (wn (aj rfl (sr (wv rfl (aL rfl rfl (beq_eq_false_iff_ne.2 (hc25))) (av (.bool false) rfl (wn (aj rfl (ae ?_)))))))))))
 refine mg h4 rfl (mg h4 rfl (wc rfl (wf cT rfl (wv rfl (H0.ld 0 rfl dG rfl (.slice AL nL cL) rfl) (mg h20 rfl (wv rfl (aF (v := .sl gd o0 sz cr) TC138 rfl) (wm rfl (eb H0 123 [.iface 138 (.sl gd o0 sz cr)] rfl (by kernel_rfl) (fun g1 w2 hgg1 H3 =>  wm rfl (bR H3 2 (m := 1) (news := [.iface 138 (.sl gd o0 sz cr)]) rfl j8 jG rfl (by decide) rfl rfl rfl (H3.news (i := 0) rfl) (by simp [Value.oneCell']) (by simp only [maxLen]; omega) (by omega) (fun v4 w5 H6 =>  ?_)))))))))))
 obtain ⟨A7, c8, rfl, _, _⟩ := aw (H6.g 2 rfl)
 refine wc rfl (wf cT rfl (ws (es H6 1 8 (.slice A7 (nL + 1) c8) rfl dG (fun w10 H9 =>  ?_))))
 refine bl (ao (ac (sr (mg h21 rfl (wv rfl ((show Yv _ _ _ _ (.bool false) _ from cJ (p := none) k6 rfl)) (wn (aj rfl (cG ?_))))))))
 have hst : kD raw s = some { s with loads := s.loads ++ [⟨0, raw, [], []⟩] } := rfl
 have Hn : St w aW [aq fb [.u32 (h 0), .u32 (h 1), .u32 (h 2), .u32 (h 3), .u32 (h 4), .u32 (h 5), .u32 (h 6), .u8 (bo big), .slice A7 (nL + 1) c8, .slice AS nS cS, sy, dy] 121, aH 123 1 (.slice A7 (nL + 1) c8) (nL + 1) (vs ++ [.iface 138 (.sl gd o0 sz cr)]), aH 125 1 (.slice AS nS cS) nS (bM gs), Res.all [D]] w10 := (H9.reAll [4] [1, 2, 3]).re [1, 2, 3, 0]
 have hsub : ∀ w, (Res.all [D]).φ w → D.φ w := fun w hh => aV.1 hh D (by simp)
 have hDn : NFD (Res.all [D]).φ rb ({ s with loads := s.loads ++ [⟨0, raw, [], []⟩] }) gd o m ds (vs ++ [.iface 138 (.sl gd o0 sz cr)]) gs (sy) (dy) := ⟨fun w hh => hD.dat w (hsub w hh), fun w hh => (hD.ld w (hsub w hh)).snoc (by have hh := aV.1 hh; exact .inl ⟨_, _, _, raw, rfl, hRaw _ (hsub _ (aV.2 hh)), by omega, rfl⟩), fun w hh => hD.sc w (hsub w hh), hD.sy.mono hsub, hD.dy.mono hsub⟩
 exact hQ _ _ _ hst ⟨h0, h4, ⟨_, h12, hof0, hof1⟩, h13, h16, h17⟩ ⟨Res.all [D], _, _, _, _, _, _, vs ++ [.iface 138 (.sl gd o0 sz cr)], gs, _, _, .inl hDg, by omega, by omega, hDn, Hn⟩
theorem up {rb N C fb gd o0 o m sz cr nL cL nS cS : Nat} {A AL AS : Option Addr} {i0 p0 of ii : Int} {xs raw ds : List Int} {a0 a1 : Addr} {h : Nat → Int} {vs : List Value} {gs : List Nat} {sy dy : Value} {D : Res} {s : PSt} (big : Bool) (w w1 : World) (hrb : (aq rb [.slice A N C, .i64 i0, .i64 p0] 190).φ w) (hG : Glob 224 w a0 a1) (hNC : N ≤ C) (hN : N < 10485760) (hr : RI .u8 w A N xs) (hby : Byt xs) (hA : ∀ a, A = some a → a.block < w.heap.size) (hw4 : 4 ≤ w.heap.size)
 (hDg : D.F gd) (hnL : nL + sz + m ≤ 10485760) (hnS : nS + sz + m ≤ 10485760) (hD : NFD D.φ rb s gd o m ds vs gs sy dy) (hRaw : ∀ w, D.φ w → RI .u8 w (some ⟨gd, o0, none⟩) sz raw) (hrby : Byt raw) (hrl : raw.length = sz) (hscr : sz ≤ cr) (hsz8 : 8 ≤ sz) (hof0 : 0 ≤ of) (hof1 : of + ↑m ≤ 10485800)
 (H1 : St w aW (sY fb big h AL AS nL cL nS cS vs gs sy dy D) w1) {ρ : cF} (h0 : ρ 0 = .iface 109 (.pt rb)) (h4 : ρ 4 = .pt fb) (h12 : ρ 12 = .i64 of) (h13 : ρ 13 = .sl gd o m m) (h16 : ρ 16 = .u8 (bo big)) (h17 : ρ 17 = .u32 ii) (h18 : ρ 18 = .u32 2147483676) (h19 : ρ 19 = .u32 ↑sz) (h20 : ρ 20 = .sl gd o0 sz cr) (h21 : ρ 21 = .np)
 {Q : QE} (hQ : ∀ s' ρ' w', df big raw s = some s' → Fr ρ' rb fb gd o m big ii → Mid w rb fb big h gd o m ds s' w' → Q .normal ρ' w') (hR : df big raw s = none → ∀ ρ' w' T v, ρ' 2 = .np → ρ' 3 = .iface T v → Keep w aW w' → Q .ret ρ' w') :
 W Tryd.prog 931 ((d7 3 (Tryd.f41.body.getD .skip)).getD .skip) Q ρ w1 := by
 refine nZ rfl ?_
 have H0 : St w aW [aq fb [.u32 (h 0), .u32 (h 1), .u32 (h 2), .u32 (h 3), .u32 (h 4), .u32 (h 5), .u32 (h 6), .u8 (bo big), .slice AL nL cL, .slice AS nS cS, sy, dy] 121, aH 123 1 (.slice AL nL cL) nL vs, aH 125 1 (.slice AS nS cS) nS (bM gs), D] w1 := H1
 refine ad (sr (mg h18 rfl (wn (aC (sr (wv rfl (aL (c := true) rfl rfl rfl) (av (.bool true) rfl (wn (ay rfl (sr (wm rfl ?_)))))))))))
 refine aK H0 tC (fun g1 w2 hgg1 H3 =>  wn (sr (mg h20 rfl (wE [.sl gd o0 sz cr] lN rfl rfl (aa (cH (some ⟨gd, o0, none⟩) sz cr _) ?_)))))
 rintro e w5 ⟨gq, rfl, hgq, HS4⟩
 have H6 := H3.cal0 HS4
 refine ⟨_, rfl, ?_⟩
 refine ap gq 0 rfl (wn (ad (ad ?_)))
 by_cases hfit : 0 + 12 ≤ sz
 ·
  obtain ⟨ys, hys⟩ : ∃ q, q = (raw.drop (0)).take 12 := ⟨_, rfl⟩
  have hbys : Byt ys := by rw [hys]; exact (hrby.drop _).take _
  have hlys : ys.length = 12 := by rw [hys, List.length_take, List.length_drop, hrl]; omega
  obtain ⟨q8, hq8⟩ : ∃ q : Nat, (q : Int) = n4 big (ys.drop 8) := ⟨(n4 big (ys.drop 8)).toNat, Int.toNat_of_nonneg (aR big (hbys.drop _)).1⟩
  have hltq8 : (q8 : Int) < 4294967296 := by rw [hq8]; exact (aR big (hbys.drop _)).2
  refine ae (mp gq 0 rfl (wv rfl (aF (v := .pt gq) dW rfl) (mg h16 rfl (wE [.pt g1, .iface 109 (.pt gq), .u8 (bo big)] CK52 rfl rfl ?_))))
  have hne8 := H6.blk_ne (i := 0) (j := 1) rfl rfl (by decide)
  have hge1 := H6.ge (i := 0) rfl
  have hge2 := H6.ge (i := 1) rfl
  have hws := H6.keep.size
  refine aa (ka (ys := ys) (i := 0) (A := some ⟨gd, o0, none⟩) (xs := raw) big _ (H6.g 1 rfl) (H6.g 0 rfl) (hG.keep H6.keep fun k hk => hk.elim) hscr (by omega) (hRaw _ (H6.g 5 rfl)) hrby (fun a ha => by injection ha with ha; subst ha; exact ⟨D.live _ _ (H6.g 5 rfl) hDg, H6.sepD (i := 0) (j := 5) rfl rfl (by decide) hDg, H6.sepD (i := 1) (j := 5) rfl rfl (by decide) hDg⟩) (by omega) (by omega) (by omega) (by omega) (by omega) hys) ?_
  rintro e w9 ⟨rfl, HS7⟩
  rw [← hq8] at HS7
  have H10 := H6.ky 1 0 rfl rfl HS7 (fun _ h => h)
  refine ⟨_, rfl, ?_⟩
  refine av (.nilIface) rfl (wn (sr (mv (.nilIface) rfl (wv rfl ((nn false bq rfl (.inl rfl))) (wn (aj rfl (wk (sr (wm rfl (aK H10 tB (fun g11 w12 hgg11 H13 =>  ap g11 0 rfl ?_)))))))))))
  refine wn (ad (sr (wf kP rfl (wv rfl (H13.ld 1 rfl ar rfl (.u32 (↑q8)) rfl) (mg h20 rfl (wv rfl (ba co rfl) (wv rfl (an eL iV rfl (d6 (by omega) (by omega))) (wv rfl (i5 rfl rfl) (wn ?_)))))))))
  refine cf rfl (fun hb14 => ?_) (fun hb14 => ?_)
  ·
   simp only [bx] at hb14
   refine ad ?_
   have H15 := H13.drew
   refine aO MX (fun w' => w'.cell? ⟨g1, 2, none⟩ = some (.u32 (↑q8))) (tr 0 5 (Pl.take 7 (Pl.run 5 (Pl.take 6 (Pl.take 8 Pl.done))))) (by kernel_rfl) (H15.c 1 2 rfl rfl) (qm (.i64 of) rfl h12 (qy rfl (ab (o := 0) kP rfl) (qh rfl (fun hS => ah ar rfl hS) (qy rfl (aF (v := .u32 (↑q8)) ve rfl) (qy rfl (yb (ps := [(0, .i64 of), (1, .string _), (2, .iface 24 (.u32 (↑q8)))]) (cells := #[.i64 of, .string (⟨#[105, 110, 118, 97, 108, 105, 100, 32, 112, 97, 116, 104, 32, 105, 110, 32, 114, 112, 97, 116, 104, 32, 99, 111, 109, 109, 97, 110, 100]⟩), .iface 24 (.u32 (↑q8))]) rfl (by kernel_rfl)) (qa (.np) rfl rfl (qr rfl (ee H15 (vs := [.i64 of, .string _, .iface 24 (.u32 (↑q8))]) rfl rfl (fun g16 w17 hgg16 H18 =>  ?_)))))))))
   refine ⟨H18.c 2 2 rfl rfl, fun _ => trivial, ?_⟩
   refine qy rfl (aF (v := .pt g16) gR rfl) (qa (.iface 154 (.pt g16)) rfl rfl (pn (rq (aB (ax ?_)))))
   have hst : df big raw s = none := by unfold df; rw [if_neg (by omega), ← hys, ← hq8, if_pos (by omega)]
   exact hR hst _ _ _ _ rfl rfl H18.keep
  ·
   simp only [bx] at hb14
   refine wk (sr (mp g11 0 rfl (mg h20 rfl (wf kP rfl (wv rfl (H13.ld 1 rfl ar rfl (.u32 (↑q8)) rfl) (wv rfl ((am (l := q8) (h := sz) aU rfl (bs rfl (by omega) (Int.toNat_natCast _)) bn (by omega) (by omega) (by omega) (by omega) : Yv _ _ _ _ (.sl gd (o0 + q8) (sz - q8) (cr - q8)) _)) (wE [.sl gd (o0 + q8) (sz - q8) (cr - q8)] lY rfl rfl (aa (dE _ ((hRaw _ (H13.g 6 rfl)).drop_ q8) (hrby.drop _) (by omega) (by omega)) ?_))))))))
   rintro e w20 ⟨rfl, HS19⟩
   have H21 := H13.cal0 HS19
   refine ⟨_, rfl, ?_⟩
   refine wc rfl (wf qU rfl (ws (es H21 0 1 (.str (a9 (raw.drop q8))) rfl d9 (fun w23 H22 =>  ?_))))
   refine wn (sr (mp g11 0 rfl (mg h20 rfl (wc rfl (wf uN rfl (ws (es H22 0 0 (.sl gd o0 sz cr) rfl fq (fun w25 H24 =>  ?_))))))))
   refine wn (ae (mg h4 rfl (mg h4 rfl (wc rfl (wf cT rfl (wv rfl (H24.ld 3 rfl dG rfl (.slice AL nL cL) rfl) (mp g11 0 rfl (wv rfl (aF (v := .pt g11) TC163 rfl) (wm rfl (eb H24 123 [.iface 163 (.pt g11)] rfl (by kernel_rfl) (fun g26 w27 hgg26 H28 =>  wm rfl ?_)))))))))))
   refine bR H28 5 (m := 1) (news := [.iface 163 (.pt g11)]) rfl j8 jG rfl (by decide) rfl rfl rfl (H28.news (i := 0) rfl) (by simp [Value.oneCell']) (by simp only [maxLen]; omega) (by omega) (fun v29 w30 H31 =>  ?_)
   obtain ⟨A32, c33, rfl, _, _⟩ := aw (H31.g 5 rfl)
   refine wc rfl (wf cT rfl (ws (es H31 4 8 (.slice A32 (nL + 1) c33) rfl dG (fun w35 H34 =>  ?_))))
   refine bl (ao (ac (sr (mg h21 rfl (wv rfl ((show Yv _ _ _ _ (.bool false) _ from cJ (p := none) k6 rfl)) (wn (aj rfl (cG ?_))))))))
   have hst : df big raw s = some { s with loads := s.loads ++ [⟨3, raw, a9 (raw.drop q8), []⟩] } := by unfold df; rw [if_neg (by omega), ← hys, ← hq8, Int.toNat_natCast, if_neg (by omega)]
   have Hn : St w aW [aq fb [.u32 (h 0), .u32 (h 1), .u32 (h 2), .u32 (h 3), .u32 (h 4), .u32 (h 5), .u32 (h 6), .u8 (bo big), .slice A32 (nL + 1) c33, .slice AS nS cS, sy, dy] 121, aH 123 1 (.slice A32 (nL + 1) c33) (nL + 1) (vs ++ [.iface 163 (.pt g11)]), aH 125 1 (.slice AS nS cS) nS (bM gs), Res.all [aq g11 [.sl gd o0 sz cr, .str (a9 (raw.drop q8))] 165, D]] w35 := (H34.reAll [1, 7] [4, 5, 6]).re [1, 2, 3, 0]
   have hsub : ∀ w, (Res.all [aq g11 [.sl gd o0 sz cr, .str (a9 (raw.drop q8))] 165, D]).φ w → D.φ w := fun w hh => aV.1 hh D (by simp)
   have hDn : NFD (Res.all [aq g11 [.sl gd o0 sz cr, .str (a9 (raw.drop q8))] 165, D]).φ rb ({ s with loads := s.loads ++ [⟨3, raw, a9 (raw.drop q8), []⟩] }) gd o m ds (vs ++ [.iface 163 (.pt g11)]) gs (sy) (dy) := ⟨fun w hh => hD.dat w (hsub w hh), fun w hh => (hD.ld w (hsub w hh)).snoc (by have hh := aV.1 hh; exact .inr (.inr (.inr (.inl ⟨_, _, _, raw, g11, _, rfl, hh (aq g11 [.sl gd o0 sz cr, .str (a9 (raw.drop q8))] 165) (by simp), hRaw _ (hsub _ (aV.2 hh)), by omega, rfl⟩)))), fun w hh => hD.sc w (hsub w hh), hD.sy.mono hsub, hD.dy.mono hsub⟩
   exact hQ _ _ _ hst ⟨h0, h4, ⟨_, h12, hof0, hof1⟩, h13, h16, h17⟩ ⟨Res.all [aq g11 [.sl gd o0 sz cr, .str (a9 (raw.drop q8))] 165, D], _, _, _, _, _, _, vs ++ [.iface 163 (.pt g11)], gs, _, _, .inr (.inl hDg), by omega, by omega, hDn, Hn⟩
 ·
  refine ae (mp gq 0 rfl (wv rfl (aF (v := .pt gq) dW rfl) (mg h16 rfl (wE [.pt g1, .iface 109 (.pt gq), .u8 (bo big)] CK52 rfl rfl ?_))))
  have hne37 := H6.blk_ne (i := 0) (j := 1) rfl rfl (by decide)
  have hge1 := H6.ge (i := 0) rfl
  have hge2 := H6.ge (i := 1) rfl
  have hws := H6.keep.size
  refine aa (jM (ys := []) (i := 0) (A := some ⟨gd, o0, none⟩) (xs := raw) big _ (H6.g 1 rfl) (H6.g 0 rfl) (hG.keep H6.keep fun k hk => hk.elim) hscr (by omega) (hRaw _ (H6.g 5 rfl)) hrby (fun a ha => by injection ha with ha; subst ha; exact ⟨D.live _ _ (H6.g 5 rfl) hDg, H6.sepD (i := 0) (j := 5) rfl rfl (by decide) hDg, H6.sepD (i := 1) (j := 5) rfl rfl (by decide) hDg⟩) (by omega) (by omega) (by omega) (by omega) (by omega)) ?_
  rintro e w38 ⟨T, ev, rfl, HS36⟩
  have H39 := H6.ky 1 0 rfl rfl HS36 (fun _ h => h)
  refine ⟨_, rfl, ?_⟩
  refine av (.iface T ev) rfl (wn (sr (mv (.iface T ev) rfl (wv rfl ((nn true bq rfl (.inr ⟨_, _, rfl⟩))) (wn (ay rfl (sr (mv (.iface T ev) rfl (av (.np) rfl (av (.iface T ev) rfl (wn ?_)))))))))))
  refine rq (aB (ax ?_))
  have hst : df big raw s = none := by unfold df; rw [if_pos (by omega)]
  exact hR hst _ _ _ _ rfl rfl H39.keep
theorem vO {rb N C fb gd o0 o m sz cr nL cL nS cS : Nat} {A AL AS : Option Addr} {i0 p0 of ii : Int} {xs raw ds : List Int} {a0 a1 : Addr} {h : Nat → Int} {vs : List Value} {gs : List Nat} {sy dy : Value} {D : Res} {s : PSt} (big : Bool) (w w1 : World) (hrb : (aq rb [.slice A N C, .i64 i0, .i64 p0] 190).φ w) (hG : Glob 224 w a0 a1) (hNC : N ≤ C) (hN : N < 10485760) (hr : RI .u8 w A N xs) (hby : Byt xs) (hA : ∀ a, A = some a → a.block < w.heap.size) (hw4 : 4 ≤ w.heap.size)
 (hDg : D.F gd) (hnL : nL + sz + m ≤ 10485760) (hnS : nS + sz + m ≤ 10485760) (hD : NFD D.φ rb s gd o m ds vs gs sy dy) (hRaw : ∀ w, D.φ w → RI .u8 w (some ⟨gd, o0, none⟩) sz raw) (hrby : Byt raw) (hrl : raw.length = sz) (hscr : sz ≤ cr) (hsz8 : 8 ≤ sz) (hof0 : 0 ≤ of) (hof1 : of + ↑m ≤ 10485800)
 (H1 : St w aW (sY fb big h AL AS nL cL nS cS vs gs sy dy D) w1) {ρ : cF} (h0 : ρ 0 = .iface 109 (.pt rb)) (h4 : ρ 4 = .pt fb) (h12 : ρ 12 = .i64 of) (h13 : ρ 13 = .sl gd o m m) (h16 : ρ 16 = .u8 (bo big)) (h17 : ρ 17 = .u32 ii) (h18 : ρ 18 = .u32 12) (h19 : ρ 19 = .u32 ↑sz) (h20 : ρ 20 = .sl gd o0 sz cr) (h21 : ρ 21 = .np)
 {Q : QE} (hQ : ∀ s' ρ' w', dJ big raw s = some s' → Fr ρ' rb fb gd o m big ii → Mid w rb fb big h gd o m ds s' w' → Q .normal ρ' w') (hR : dJ big raw s = none → ∀ ρ' w' T v, ρ' 2 = .np → ρ' 3 = .iface T v → Keep w aW w' → Q .ret ρ' w') :
 W Tryd.prog 931 ((d7 3 (Tryd.f41.body.getD .skip)).getD .skip) Q ρ w1 := by
 refine nZ rfl ?_
 have H0 : St w aW [aq fb [.u32 (h 0), .u32 (h 1), .u32 (h 2), .u32 (h 3), .u32 (h 4), .u32 (h 5), .u32 (h 6), .u8 (bo big), .slice AL nL cL, .slice AS nS cS, sy, dy] 121, aH 123 1 (.slice AL nL cL) nL vs, aH 125 1 (.slice AS nS cS) nS (bM gs), D] w1 := H1
 refine ad (sr (mg h18 rfl (wn (aC (sr (wv rfl (aL (c := false) rfl rfl rfl) (av (.bool false) rfl (wn (aj rfl (sr (wv rfl (aL (c := true) rfl rfl rfl) ?_)))))))))))
 refine av (.bool true) rfl (wn (ay rfl (sr (wm rfl (aK H0 tA (fun g1 w2 hgg1 H3 =>  wn (sr (mg h20 rfl (wE [.sl gd o0 sz cr] lN rfl rfl (aa (cH (some ⟨gd, o0, none⟩) sz cr _) ?_))))))))))
 rintro e w5 ⟨gq, rfl, hgq, HS4⟩
 have H6 := H3.cal0 HS4
 refine ⟨_, rfl, ?_⟩
 refine ap gq 0 rfl (wn (ad (ad ?_)))
 by_cases hfit : 0 + 24 ≤ sz
 ·
  obtain ⟨ys, hys⟩ : ∃ q, q = (raw.drop (0)).take 24 := ⟨_, rfl⟩
  have hbys : Byt ys := by rw [hys]; exact (hrby.drop _).take _
  have hlys : ys.length = 24 := by rw [hys, List.length_take, List.length_drop, hrl]; omega
  obtain ⟨q8, hq8⟩ : ∃ q : Nat, (q : Int) = n4 big (ys.drop 8) := ⟨(n4 big (ys.drop 8)).toNat, Int.toNat_of_nonneg (aR big (hbys.drop _)).1⟩
  have hltq8 : (q8 : Int) < 4294967296 := by rw [hq8]; exact (aR big (hbys.drop _)).2
  refine ae (mp gq 0 rfl (wv rfl (aF (v := .pt gq) dW rfl) (mg h16 rfl (wE [.pt g1, .iface 109 (.pt gq), .u8 (bo big)] CK54 rfl rfl ?_))))
  have hne8 := H6.blk_ne (i := 0) (j := 1) rfl rfl (by decide)
  have hge1 := H6.ge (i := 0) rfl
  have hge2 := H6.ge (i := 1) rfl
  have hws := H6.keep.size
  refine aa (kd (ys := ys) (i := 0) (A := some ⟨gd, o0, none⟩) (xs := raw) big _ (H6.g 1 rfl) (H6.g 0 rfl) (hG.keep H6.keep fun k hk => hk.elim) hscr (by omega) (hRaw _ (H6.g 5 rfl)) hrby (fun a ha => by injection ha with ha; subst ha; exact ⟨D.live _ _ (H6.g 5 rfl) hDg, H6.sepD (i := 0) (j := 5) rfl rfl (by decide) hDg, H6.sepD (i := 1) (j := 5) rfl rfl (by decide) hDg⟩) (by omega) (by omega) (by omega) (by omega) (by omega) hys) ?_
  rintro e w9 ⟨rfl, HS7⟩
  rw [← hq8] at HS7
  have H10 := H6.ky 1 0 rfl rfl HS7 (fun _ h => h)
  refine ⟨_, rfl, ?_⟩
  refine av (.nilIface) rfl (wn (sr (mv (.nilIface) rfl (wv rfl ((nn false bq rfl (.inl rfl))) (wn (aj rfl (wk (sr (wm rfl (aK H10 t9 (fun g11 w12 hgg11 H13 =>  ap g11 0 rfl ?_)))))))))))
  refine wn (ad (sr (wf kO rfl (wv rfl (H13.ld 1 rfl ar rfl (.u32 (↑q8)) rfl) (mg h20 rfl (wv rfl (ba co rfl) (wv rfl (an eL iV rfl (d6 (by omega) (by omega))) (wv rfl (i5 rfl rfl) (wn ?_)))))))))
  refine cf rfl (fun hb14 => ?_) (fun hb14 => ?_)
  ·
   simp only [bx] at hb14
   refine ad ?_
   have H15 := H13.drew
   refine aO MX (fun w' => w'.cell? ⟨g1, 2, none⟩ = some (.u32 (↑q8))) (tr 0 5 (Pl.take 7 (Pl.run 5 (Pl.take 6 (Pl.take 8 Pl.done))))) (by kernel_rfl) (H15.c 1 2 rfl rfl) (qm (.i64 of) rfl h12 (qy rfl (ab (o := 0) kO rfl) (qh rfl (fun hS => ah ar rfl hS) (qy rfl (aF (v := .u32 (↑q8)) ve rfl) (qy rfl (yb (ps := [(0, .i64 of), (1, .string _), (2, .iface 24 (.u32 (↑q8)))]) (cells := #[.i64 of, .string (⟨#[105, 110, 118, 97, 108, 105, 100, 32, 110, 97, 109, 101, 32, 105, 110, 32, 100, 121, 110, 97, 109, 105, 99, 32, 108, 105, 98, 114, 97, 114, 121, 32, 99, 111, 109, 109, 97, 110, 100]⟩), .iface 24 (.u32 (↑q8))]) rfl (by kernel_rfl)) (qa (.np) rfl rfl (qr rfl (ee H15 (vs := [.i64 of, .string _, .iface 24 (.u32 (↑q8))]) rfl rfl (fun g16 w17 hgg16 H18 =>  ?_)))))))))
   refine ⟨H18.c 2 2 rfl rfl, fun _ => trivial, ?_⟩
   refine qy rfl (aF (v := .pt g16) gR rfl) (qa (.iface 154 (.pt g16)) rfl rfl (pn (rq (aB (ax ?_)))))
   have hst : dJ big raw s = none := by unfold dJ; rw [if_neg (by omega), ← hys, ← hq8, if_pos (by omega)]
   exact hR hst _ _ _ _ rfl rfl H18.keep
  ·
   simp only [bx] at hb14
   refine wk (sr (mp g11 0 rfl (mg h20 rfl (wf kO rfl (wv rfl (H13.ld 1 rfl ar rfl (.u32 (↑q8)) rfl) (wv rfl ((am (l := q8) (h := sz) aU rfl (bs rfl (by omega) (Int.toNat_natCast _)) bn (by omega) (by omega) (by omega) (by omega) : Yv _ _ _ _ (.sl gd (o0 + q8) (sz - q8) (cr - q8)) _)) (wE [.sl gd (o0 + q8) (sz - q8) (cr - q8)] lY rfl rfl (aa (dE _ ((hRaw _ (H13.g 6 rfl)).drop_ q8) (hrby.drop _) (by omega) (by omega)) ?_))))))))
   rintro e w20 ⟨rfl, HS19⟩
   have H21 := H13.cal0 HS19
   refine ⟨_, rfl, ?_⟩
   refine wc rfl (wf qQ rfl (ws (es H21 0 1 (.str (a9 (raw.drop q8))) rfl d9 (fun w23 H22 =>  ?_))))
   refine wn (sr (mp g11 0 rfl (wf qT rfl (wv rfl (H22.ld 1 rfl ar rfl (.u32 (n4 big (ys.drop 12))) rfl) (wc rfl (wf qP rfl (ws (es H22 0 2 (.u32 (n4 big (ys.drop 12))) rfl ar (fun w25 H24 =>  ?_)))))))))
   refine wn (sr (mp g11 0 rfl (wf qS rfl (wv rfl (H24.ld 1 rfl ar rfl (.u32 (n4 big (ys.drop 16))) rfl) (wc rfl (wf qO rfl (ws (es H24 0 3 (.u32 (n4 big (ys.drop 16))) rfl ar (fun w27 H26 =>  ?_)))))))))
   refine wn (sr (mp g11 0 rfl (wf qR rfl (wv rfl (H26.ld 1 rfl ar rfl (.u32 (n4 big (ys.drop 20))) rfl) (wc rfl (wf qN rfl (ws (es H26 0 4 (.u32 (n4 big (ys.drop 20))) rfl ar (fun w29 H28 =>  ?_)))))))))
   refine wn (sr (mp g11 0 rfl (mg h20 rfl (wc rfl (wf uK rfl (ws (es H28 0 0 (.sl gd o0 sz cr) rfl fq (fun w31 H30 =>  ?_))))))))
   refine wn (ae (mg h4 rfl (mg h4 rfl (wc rfl (wf cT rfl (wv rfl (H30.ld 3 rfl dG rfl (.slice AL nL cL) rfl) (mp g11 0 rfl (wv rfl (aF (v := .pt g11) TC168 rfl) (wm rfl (eb H30 123 [.iface 168 (.pt g11)] rfl (by kernel_rfl) (fun g32 w33 hgg32 H34 =>  wm rfl ?_)))))))))))
   refine bR H34 5 (m := 1) (news := [.iface 168 (.pt g11)]) rfl j8 jG rfl (by decide) rfl rfl rfl (H34.news (i := 0) rfl) (by simp [Value.oneCell']) (by simp only [maxLen]; omega) (by omega) (fun v35 w36 H37 =>  ?_)
   obtain ⟨A38, c39, rfl, _, _⟩ := aw (H37.g 5 rfl)
   refine wc rfl (wf cT rfl (ws (es H37 4 8 (.slice A38 (nL + 1) c39) rfl dG (fun w41 H40 =>  ?_))))
   refine bl (ao (ac (sr (mg h21 rfl (wv rfl ((show Yv _ _ _ _ (.bool false) _ from cJ (p := none) k6 rfl)) (wn (aj rfl (cG ?_))))))))
   have hst : dJ big raw s = some { s with loads := s.loads ++ [⟨2, raw, a9 (raw.drop q8), [n4 big (ys.drop 12), n4 big (ys.drop 16), n4 big (ys.drop 20)]⟩] } := by unfold dJ; rw [if_neg (by omega), ← hys, ← hq8, Int.toNat_natCast, if_neg (by omega)]
   have Hn : St w aW [aq fb [.u32 (h 0), .u32 (h 1), .u32 (h 2), .u32 (h 3), .u32 (h 4), .u32 (h 5), .u32 (h 6), .u8 (bo big), .slice A38 (nL + 1) c39, .slice AS nS cS, sy, dy] 121, aH 123 1 (.slice A38 (nL + 1) c39) (nL + 1) (vs ++ [.iface 168 (.pt g11)]), aH 125 1 (.slice AS nS cS) nS (bM gs), Res.all [aq g11 [.sl gd o0 sz cr, .str (a9 (raw.drop q8)), .u32 (n4 big (ys.drop 12)), .u32 (n4 big (ys.drop 16)), .u32 (n4 big (ys.drop 20))] 170, D]] w41 := (H40.reAll [1, 7] [4, 5, 6]).re [1, 2, 3, 0]
   have hsub : ∀ w, (Res.all [aq g11 [.sl gd o0 sz cr, .str (a9 (raw.drop q8)), .u32 (n4 big (ys.drop 12)), .u32 (n4 big (ys.drop 16)), .u32 (n4 big (ys.drop 20))] 170, D]).φ w → D.φ w := fun w hh => aV.1 hh D (by simp)
   have hDn : NFD (Res.all [aq g11 [.sl gd o0 sz cr, .str (a9 (raw.drop q8)), .u32 (n4 big (ys.drop 12)), .u32 (n4 big (ys.drop 16)), .u32 (n4 big (ys.drop 20))] 170, D]).φ rb ({ s with loads := s.loads ++ [⟨2, raw, a9 (raw.drop q8), [n4 big (ys.drop 12), n4 big (ys.drop 16), n4 big (ys.drop 20)]⟩] }) gd o m ds (vs ++ [.iface 168 (.pt g11)]) gs (sy) (dy) := ⟨fun w hh => hD.dat w (hsub w hh), fun w hh => (hD.ld w (hsub w hh)).snoc (by have hh := aV.1 hh; exact .inr (.inr (.inl ⟨_, _, _, raw, g11, _, fun k => [n4 big (ys.drop 12), n4 big (ys.drop 16), n4 big (ys.drop 20)].getD k 0, rfl, ly (by have b1 := aR big (hbys.drop 12); have b2 := aR big (hbys.drop 16); have b3 := aR big (hbys.drop 20); simp only [List.forall_mem_cons, List.not_mem_nil, false_imp_iff, implies_true, and_true]; omega) (by decide), hh (aq g11 [.sl gd o0 sz cr, .str (a9 (raw.drop q8)), .u32 (n4 big (ys.drop 12)), .u32 (n4 big (ys.drop 16)), .u32 (n4 big (ys.drop 20))] 170) (by simp), hRaw _ (hsub _ (aV.2 hh)), by omega, rfl⟩))), fun w hh => hD.sc w (hsub w hh), hD.sy.mono hsub, hD.dy.mono hsub⟩
   exact hQ _ _ _ hst ⟨h0, h4, ⟨_, h12, hof0, hof1⟩, h13, h16, h17⟩ ⟨Res.all [aq g11 [.sl gd o0 sz cr, .str (a9 (raw.drop q8)), .u32 (n4 big (ys.drop 12)), .u32 (n4 big (ys.drop 16)), .u32 (n4 big (ys.drop 20))] 170, D], _, _, _, _, _, _, vs ++ [.iface 168 (.pt g11)], gs, _, _, .inr (.inl hDg), by omega, by omega, hDn, Hn⟩
 ·
  refine ae (mp gq 0 rfl (wv rfl (aF (v := .pt gq) dW rfl) (mg h16 rfl (wE [.pt g1, .iface 109 (.pt gq), .u8 (bo big)] CK54 rfl rfl ?_))))
  have hne43 := H6.blk_ne (i := 0) (j := 1) rfl rfl (by decide)
  have hge1 := H6.ge (i := 0) rfl
  have hge2 := H6.ge (i := 1) rfl
  have hws := H6.keep.size
  refine aa (jN (ys := []) (i := 0) (A := some ⟨gd, o0, none⟩) (xs := raw) big _ (H6.g 1 rfl) (H6.g 0 rfl) (hG.keep H6.keep fun k hk => hk.elim) hscr (by omega) (hRaw _ (H6.g 5 rfl)) hrby (fun a ha => by injection ha with ha; subst ha; exact ⟨D.live _ _ (H6.g 5 rfl) hDg, H6.sepD (i := 0) (j := 5) rfl rfl (by decide) hDg, H6.sepD (i := 1) (j := 5) rfl rfl (by decide) hDg⟩) (by omega) (by omega) (by omega) (by omega) (by omega)) ?_
  rintro e w44 ⟨T, ev, rfl, HS42⟩
  have H45 := H6.ky 1 0 rfl rfl HS42 (fun _ h => h)
  refine ⟨_, rfl, ?_⟩
  refine av (.iface T ev) rfl (wn (sr (mv (.iface T ev) rfl (wv rfl ((nn true bq rfl (.inr ⟨_, _, rfl⟩))) (wn (ay rfl (sr (mv (.iface T ev) rfl (av (.np) rfl (av (.iface T ev) rfl (wn ?_)))))))))))
  refine rq (aB (ax ?_))
  have hst : dJ big raw s = none := by unfold dJ; rw [if_pos (by omega)]
  exact hR hst _ _ _ _ rfl rfl H45.keep
end Go.Proofs.YtlndedfkgiafhaaDoor
