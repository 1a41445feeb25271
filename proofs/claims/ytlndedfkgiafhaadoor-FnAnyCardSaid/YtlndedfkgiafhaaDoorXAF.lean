import Derived.Test.YtlndedfkgiafhaaDoorXAE
set_option linter.unusedVariables false
set_option linter.unusedSimpArgs false
set_option maxRecDepth 100000
set_option maxHeartbeats 4000000
namespace Go.Proofs.YtlndedfkgiafhaaDoor
open Go Go.RowKit Go.Proofs
theorem IB73 : IbOk Tryd.prog 73 := ⟨_, Tryd.func73, rfl, rfl, rfl, rfl⟩
theorem CK66 : aX Tryd.prog 66 := aJ (by kernel_rfl)
theorem kG : Tryd.prog.underlying 5 = some (.int .u8) := by kernel_rfl
theorem lO : Tryd.prog.underlying 9 = some .string := by kernel_rfl
theorem oM {g o n c : Nat} {ns : List Int} (w : World) (hr : RI .u8 w (some ⟨g, o, none⟩) n ns) (hb : Byt ns) (hc : n ≤ c) (hn : n ≤ 9223372036854775807) (hz : (a9 ns).length < n) :
 Calls Tryd.prog 66 #[.sl g o n c, .u8 0] w fun e w' => e = .returned (.i64 (↑(a9 ns).length)) ∧ St w aW [] w' := by
 refine a5 (args := [.sl g o n c, .u8 0]) Tryd.func66 rfl rfl rfl ?_
 have H0 := St.nil w aW
 refine sr (ai 0 rfl (wn (sr (ms g o n c rfl (mv (.u8 0) rfl (wm rfl (e_ib IB73 (g := g) (o := o) (n := n) (c := c) (ns := ns) rfl hr hb ?_)))))))
 rw [if_pos (by rw [hr.1]; omega)]
 refine ai (↑(a9 ns).length) rfl (wn (aQ ?_))
 exact ⟨.inr rfl, _, r1 (.i64 (↑(a9 ns).length)) rfl _ _, ⟨rfl, H0⟩⟩
theorem oK {g o n c : Nat} {ns : List Int} (w : World) (hr : RI .u8 w (some ⟨g, o, none⟩) n ns) (hb : Byt ns) (hc : n ≤ c) (hn : n ≤ 9223372036854775807) (hz : (a9 ns).length = n) :
 Calls Tryd.prog 66 #[.sl g o n c, .u8 0] w fun e w' => e = .returned (.i64 (-1)) ∧ St w aW [] w' := by
 refine a5 (args := [.sl g o n c, .u8 0]) Tryd.func66 rfl rfl rfl ?_
 have H0 := St.nil w aW
 refine sr (ai 0 rfl (wn (sr (ms g o n c rfl (mv (.u8 0) rfl (wm rfl (e_ib IB73 (g := g) (o := o) (n := n) (c := c) (ns := ns) rfl hr hb ?_)))))))
 rw [if_neg (by rw [hr.1]; omega)]
 refine ai (-1) rfl (wn (aQ ?_))
 exact ⟨.inr rfl, _, r1 (.i64 (-1)) rfl _ _, ⟨rfl, H0⟩⟩
theorem rV {g o n c : Nat} {ns : List Int} (w : World) (hr : RI .u8 w (some ⟨g, o, none⟩) n ns) (hb : Byt ns) (hc : n ≤ c) (hn : n ≤ 9223372036854775807) (hz : (a9 ns).length < n) :
 Calls Tryd.prog 53 #[.sl g o n c] w fun e w' => e = .returned (.str (a9 ns)) ∧ St w aW [] w' := by
 refine a5 (args := [.sl g o n c]) Tryd.func53 rfl rfl rfl ?_
 have H0 := St.nil w aW
 refine sr (av (.string (⟨#[]⟩)) rfl (wn (sr (ms g o n c rfl (wE [.sl g o n c, .u8 0] CK66 rfl rfl (aa (oM w hr hb hc hn hz) ?_))))))
 rintro e w2 ⟨rfl, HS1⟩
 have H3 := H0.cal0 HS1
 refine ⟨_, rfl, ?_⟩
 refine ai (↑(a9 ns).length) rfl (wn (ad (sr (mi (↑(a9 ns).length) rfl (wv rfl (aL rfl rfl (beq_eq_false_iff_ne.2 (by omega))) (wn (aj rfl (wk (sr (ms g o n c rfl (mi (↑(a9 ns).length) rfl ?_)))))))))))
 refine wv rfl ((am (l := 0) (h := (a9 ns).length) aU rfl (bs rfl (by omega) rfl) (bs rfl (by omega) (Int.toNat_natCast _)) (by omega) (by omega) (by omega) (by omega) : Yv _ _ _ _ (.sl g o ((a9 ns).length) c) _)) (wv rfl (dN cA kG lO rfl (xs := a9 ns) (by have h := (hr.keep H3.keep fun a ha => aN _).take (m := (a9 ns).length) (by have := l3 ns; rw [hr.1] at this; exact this); rw [l2] at h; exact h) (fun h => by cases h)) (av (.str (a9 ns)) rfl (wn (aQ ?_))))
 exact ⟨.inr rfl, _, r1 (.str (a9 ns)) rfl _ _, ⟨rfl, H3⟩⟩
theorem rU {g o n c : Nat} {ns : List Int} (w : World) (hr : RI .u8 w (some ⟨g, o, none⟩) n ns) (hb : Byt ns) (hc : n ≤ c) (hn : n ≤ 9223372036854775807) (hz : (a9 ns).length = n) :
 Calls Tryd.prog 53 #[.sl g o n c] w fun e w' => e = .returned (.str (a9 ns)) ∧ St w aW [] w' := by
 refine a5 (args := [.sl g o n c]) Tryd.func53 rfl rfl rfl ?_
 have H0 := St.nil w aW
 refine sr (av (.string (⟨#[]⟩)) rfl (wn (sr (ms g o n c rfl (wE [.sl g o n c, .u8 0] CK66 rfl rfl (aa (oK w hr hb hc hn hz) ?_))))))
 rintro e w2 ⟨rfl, HS1⟩
 have H3 := H0.cal0 HS1
 refine ⟨_, rfl, ?_⟩
 refine ai (-1) rfl (wn (ad (sr (mi (-1) rfl (wv rfl (aL (c := true) rfl rfl rfl) (wn (ay rfl (ae (ms g o n c rfl (wv rfl (ba co rfl) (ai (↑n) rfl ?_)))))))))))
 refine wn (sr (ms g o n c rfl (mi (↑n) rfl (wv rfl ((am (l := 0) (h := n) aU rfl (bs rfl (by omega) rfl) (bs rfl (by omega) (Int.toNat_natCast _)) (by omega) (by omega) (by omega) (by omega) : Yv _ _ _ _ (.sl g o n c) _)) (wv rfl (dN cA kG lO rfl (xs := a9 ns) (by have h := (hr.keep H3.keep fun a ha => aN _).take (m := (a9 ns).length) (by have := l3 ns; rw [hr.1] at this; exact this); rw [l2] at h; rw [hz] at h; exact h) (fun h => by cases h)) (av (.str (a9 ns)) rfl (wn (aQ ?_))))))))
 exact ⟨.inr rfl, _, r1 (.str (a9 ns)) rfl _ _, ⟨rfl, H3⟩⟩
theorem dE {g o n c : Nat} {ns : List Int} (w : World) (hr : RI .u8 w (some ⟨g, o, none⟩) n ns) (hb : Byt ns) (hc : n ≤ c) (hn : n ≤ 9223372036854775807) :
 Calls Tryd.prog 53 #[.sl g o n c] w fun e w' => e = .returned (.str (a9 ns)) ∧ St w aW [] w' := by
 have hl := l3 ns
 rw [hr.1] at hl
 rcases Nat.lt_or_eq_of_le hl with h | h
 · exact rV w hr hb hc hn h
 · exact rU w hr hb hc hn h
theorem nJ {c : Nat} (w : World) (h32 : c < 4294967296) :
 Calls Tryd.prog 51 #[.u64 16, .u64 ↑c] w fun e w' => ∃ k : Nat, e = .returned (.i64 ↑k) ∧ k ≤ 655360 ∧ St w aW [] w' := by
 refine a5 (args := [.u64 16, .u64 (↑c)]) Tryd.func51 rfl rfl rfl ?_
 have H0 := St.nil w aW
 refine sr (ai 0 rfl (wn (ad (sr (mu (↑c) rfl (wv rfl (an cb f9 rfl (aE (by omega) (by omega))) (wv rfl (aZ rfl rfl (decide_eq_false (by omega))) (mv (.bool false) rfl (aP rfl rfl (al (v := .u64 (↑c)) rfl) (aP rfl rfl (al (v := .u64 (↑c)) rfl) (aP rfl rfl (an cb kw rfl (aE (by omega) (by omega))) ?_)))))))))))
 refine aP rfl rfl (an eL be rfl (a6 (by omega) (by omega))) (aP rfl rfl (bJ rfl rfl (bne_eq_false_iff_eq.2 (by omega))) (wv rfl (aD (b := false) (v := .bool false) rfl rfl) (wn (aj rfl (wk (ad (sr (mu 16 rfl (wv rfl (bN (c := true) rfl rfl rfl) (mv (.bool true) rfl (aP rfl rfl (al (v := .u64 (↑c)) rfl) ?_)))))))))))
 refine aP rfl rfl (al (v := .u64 16) rfl) (aP rfl rfl (p8 (c := 1152921504606846975) rfl rfl (by decide) (by decide)) (aP rfl rfl (bN rfl rfl (decide_eq_false (by omega))) (wv rfl (aD (b := true) (v := .bool false) rfl rfl) (wn (aj rfl (wk (ad (sr (mu (↑c) rfl (mu 16 rfl (wv rfl (c6 (k := .u64) (c := ↑c * 16) rfl rfl (a6 (by omega) (by omega))) ?_)))))))))))
 refine wv rfl (gP rfl rfl) (wn ?_)
 refine cf rfl (fun hb1 => ?_) (fun hb1 => ?_)
 ·
  simp only [bx] at hb1
  refine sr (mu 16 rfl (wv rfl (p8 (c := 655360) rfl rfl (by decide) (by decide)) (au 655360 rfl (wn (sr (mu 655360 rfl (wv rfl (aL (c := false) rfl rfl rfl) (wn (aj rfl (wk (sr ?_)))))))))))
  refine mu 655360 rfl (wv rfl (an (c := 655360) cb kw rfl rfl) (ai 655360 rfl (wn (aQ ?_))))
  exact ⟨.inr rfl, _, r1 (.i64 655360) rfl _ _, ⟨655360, rfl, by omega, H0⟩⟩
 ·
  simp only [bx] at hb1
  refine wk (sr (mu (↑c) rfl (wv rfl (an cb kw rfl (aE (by omega) (by omega))) (ai (↑c) rfl (wn (aQ ?_))))))
  exact ⟨.inr rfl, _, r1 (.i64 (↑c)) rfl _ _, ⟨c, rfl, by omega, H0⟩⟩
theorem kt {c : Nat} (w : World) (h32 : c < 4294967296) :
 Calls Tryd.prog 51 #[.u64 32, .u64 ↑c] w fun e w' => ∃ k : Nat, e = .returned (.i64 ↑k) ∧ k ≤ 655360 ∧ St w aW [] w' := by
 refine a5 (args := [.u64 32, .u64 (↑c)]) Tryd.func51 rfl rfl rfl ?_
 have H0 := St.nil w aW
 refine sr (ai 0 rfl (wn (ad (sr (mu (↑c) rfl (wv rfl (an cb f9 rfl (aE (by omega) (by omega))) (wv rfl (aZ rfl rfl (decide_eq_false (by omega))) (mv (.bool false) rfl (aP rfl rfl (al (v := .u64 (↑c)) rfl) (aP rfl rfl (al (v := .u64 (↑c)) rfl) (aP rfl rfl (an cb kw rfl (aE (by omega) (by omega))) ?_)))))))))))
 refine aP rfl rfl (an eL be rfl (a6 (by omega) (by omega))) (aP rfl rfl (bJ rfl rfl (bne_eq_false_iff_eq.2 (by omega))) (wv rfl (aD (b := false) (v := .bool false) rfl rfl) (wn (aj rfl (wk (ad (sr (mu 32 rfl (wv rfl (bN (c := true) rfl rfl rfl) (mv (.bool true) rfl (aP rfl rfl (al (v := .u64 (↑c)) rfl) ?_)))))))))))
 refine aP rfl rfl (al (v := .u64 32) rfl) (aP rfl rfl (p8 (c := 576460752303423487) rfl rfl (by decide) (by decide)) (aP rfl rfl (bN rfl rfl (decide_eq_false (by omega))) (wv rfl (aD (b := true) (v := .bool false) rfl rfl) (wn (aj rfl (wk (ad (sr (mu (↑c) rfl (mu 32 rfl (wv rfl (c6 (k := .u64) (c := ↑c * 32) rfl rfl (a6 (by omega) (by omega))) ?_)))))))))))
 refine wv rfl (gP rfl rfl) (wn ?_)
 refine cf rfl (fun hb1 => ?_) (fun hb1 => ?_)
 ·
  simp only [bx] at hb1
  refine sr (mu 32 rfl (wv rfl (p8 (c := 327680) rfl rfl (by decide) (by decide)) (au 327680 rfl (wn (sr (mu 327680 rfl (wv rfl (aL (c := false) rfl rfl rfl) (wn (aj rfl (wk (sr ?_)))))))))))
  refine mu 327680 rfl (wv rfl (an (c := 327680) cb kw rfl rfl) (ai 327680 rfl (wn (aQ ?_))))
  exact ⟨.inr rfl, _, r1 (.i64 327680) rfl _ _, ⟨327680, rfl, by omega, H0⟩⟩
 ·
  simp only [bx] at hb1
  refine wk (sr (mu (↑c) rfl (wv rfl (an cb kw rfl (aE (by omega) (by omega))) (ai (↑c) rfl (wn (aQ ?_))))))
  exact ⟨.inr rfl, _, r1 (.i64 (↑c)) rfl _ _, ⟨c, rfl, by omega, H0⟩⟩
end Go.Proofs.YtlndedfkgiafhaaDoor
namespace Go.Proofs.YtlndedfkgiafhaaDoor
open Go Go.RowKit Go.Proofs
theorem CK74 : aX Tryd.prog 74 := aJ (by kernel_rfl)
theorem rz {ns : List Int} (w : World) (hb : Byt ns) (hn : ns.length < 9223372036854775807) :
 Calls Tryd.prog 74 #[.str ns, .string (⟨#[46]⟩)] w fun e w' => ∃ r : Int, e = .returned (.i64 r) ∧ (0 ≤ r ↔ 46 ∈ ns) ∧ St w aW [] w' := by
 refine a5 (args := [.str ns, .string (⟨#[46]⟩)]) Tryd.func74 rfl rfl rfl ?_
 have H0 := St.nil w aW
 refine sr (ai 0 rfl (wn (ad (sr (ai 0 rfl (wn (aC (bW (fun ρ w' => ∃ i : Nat, ρ 0 = .str ns ∧ ρ 1 = .string (⟨#[46]⟩) ∧ ρ 5 = .i64 ↑i ∧ i ≤ ns.length ∧ (∀ j, j < i → ns.getD j 0 ≠ 46) ∧ St w aW [] w') (fun ρ _ => ns.length + 1 - nv (ρ 5)) (⟨0, rfl, rfl, rfl, by omega, by omega, H0⟩) ?_))))))))
 rintro ρ w1 ⟨i, h0, h1, h5, hi, hall, H1⟩
 refine ad (sr (mg h5 rfl (mg h1 rfl (wv rfl ((show Yv _ _ _ _ (.i64 1) _ from jO (s := ⟨#[46]⟩) lO rfl)) (wv rfl (aT (k := .i64) (c := ↑i + 1) rfl rfl (aE (by omega) (by omega))) (mg h0 rfl (wv rfl (oV lO rfl) (wv rfl (v6 rfl rfl) (wn ?_)))))))))
 refine cf rfl (fun hb1 => ?_) (fun hb1 => ?_)
 ·
  simp only [bx] at hb1
  refine wk (ad (aC (sr (mg h0 rfl (mg h5 rfl (mg h5 rfl (mg h1 rfl (wv rfl ((show Yv _ _ _ _ (.i64 1) _ from jO (s := ⟨#[46]⟩) lO rfl)) (wv rfl (aT (k := .i64) (c := ↑i + 1) rfl rfl (aE (by omega) (by omega))) (wv rfl (kj (l := i) (h := i + 1) lO rfl (bg rfl (by omega) (by omega)) (bg rfl (by omega) (by omega)) (by omega) (by rw [strOfNums_size]; omega)) (mg h1 rfl ?_)))))))))))
  refine wv rfl ((us hb (i := i) (by omega) ▸ r6 rfl rfl)) (wn ?_)
  refine cf rfl (fun hb2 => ?_) (fun hb2 => ?_)
  ·
   simp only [bx] at hb2
   refine sr (mg h5 rfl (ai (↑i) rfl (wn (aQ (aB (ax (ax (aB (ax ?_)))))))))
   exact ⟨.inr rfl, _, r1 (.i64 (↑i)) rfl _ _, ⟨_, rfl, ⟨fun _ => j1.2 ⟨i, by omega, by assumption⟩, fun _ => by omega⟩, H1⟩⟩
  ·
   simp only [bx] at hb2
   refine cG (ao (ac (ae (mg h5 rfl (wv rfl (aT (k := .i64) (c := ↑i + 1) rfl rfl (aE (by omega) (by omega))) (ai (↑i + 1) rfl (wn ?_)))))))
   exact ⟨⟨i + 1, h0, h1, rfl, by omega, fun j hj => by rcases Nat.lt_or_eq_of_le (Nat.le_of_lt_succ hj) with h | h; exact hall j h; subst h; assumption, H1⟩, by show ns.length + 1 - nv (.i64 (↑i + 1)) < ns.length + 1 - nv (ρ 5); rw [h5]; simp only [nv]; omega⟩
 ·
  simp only [bx] at hb1
  refine bF (a8 (a8 (aY (ac (sr (ai (-1) rfl (wn (aQ ?_))))))))
  exact ⟨.inr rfl, _, r1 (.i64 (-1)) rfl _ _, ⟨_, rfl, ⟨fun h => absurd h (by omega), fun h => by obtain ⟨j, hj, e⟩ := j1.1 h; exact absurd e (hall j (by omega))⟩, H1⟩⟩
theorem jw {ns : List Int} (w : World) (hb : Byt ns) (hn : ns.length < 9223372036854775807) :
 Calls Tryd.prog 69 #[.str ns, .string (⟨#[46]⟩)] w fun e w' => e = .returned (.bool (decide (46 ∈ ns))) ∧ St w aW [] w' := by
 refine a5 (args := [.str ns, .string (⟨#[46]⟩)]) Tryd.func69 rfl rfl rfl ?_
 have H0 := St.nil w aW
 refine sr (av (.bool false) rfl (wn (sr (mv (.str ns) rfl (mv (.string (⟨#[46]⟩)) rfl (wE [.str ns, .string (⟨#[46]⟩)] CK74 rfl rfl (aa (rz w hb hn) ?_)))))))
 rintro e w1 ⟨r, rfl, hr, HS⟩
 have H2 := H0.cal0 HS
 refine ⟨_, rfl, ?_⟩
 refine wv rfl (i5 rfl rfl) (av (.bool (decide (0 ≤ r))) rfl (wn (aQ ?_)))
 exact ⟨.inr rfl, _, r1 (.bool (decide (0 ≤ r))) rfl _ _, ⟨by rw [show decide (0 ≤ r) = decide (46 ∈ ns) from decide_eq_decide.2 hr], H2⟩⟩
end Go.Proofs.YtlndedfkgiafhaaDoor
namespace Go.Proofs.YtlndedfkgiafhaaDoor
open Go Go.RowKit Go.Proofs
theorem vD : Tryd.prog.underlying 130 = some (.slice (Tryd.prog.elem 130)) := by kernel_rfl
theorem vC : cg Tryd.prog 130 192 7 := bZ (by kernel_rfl)
theorem TG192 : gN Tryd.prog 192 7 := dR (by kernel_rfl)
theorem t4 : cQ Tryd.prog 192 [.u32 0, .u32 0, .u8 0, .u8 0, .bool false, .bool false, .bool false] := bv (by kernel_rfl)
theorem TZ192 : (Tryd.prog.info? 192).map (·.size) = some 7 := by kernel_rfl
theorem kM : FA 192 0 0 := fa (by kernel_rfl)
theorem kL : FA 192 1 1 := fa (by kernel_rfl)
theorem kK : FA 192 2 2 := fa (by kernel_rfl)
theorem kJ : FA 192 3 3 := fa (by kernel_rfl)
theorem kI : FA 192 4 4 := fa (by kernel_rfl)
theorem cU : cY Tryd.prog 4 := bz (by kernel_rfl)
theorem mT : FA 192 5 5 := fa (by kernel_rfl)
theorem pV : FA 192 6 6 := fa (by kernel_rfl)
theorem TU97 : Tryd.prog.underlying 97 = some (.slice 101) := by kernel_rfl
theorem TB101 : (Tryd.prog.info? 101).map (fun i => (i.zero, i.size, i.bytes)) = some (some (.agg #[.u32 0, .u32 0, .u8 0, .u8 0, .bool false, .bool false, .bool false]), 7, 16) := by kernel_rfl
theorem tK : Tryd.prog.underlying 142 = some (.slice (Tryd.prog.elem 142)) := by kernel_rfl
theorem TS142 : cg Tryd.prog 142 193 5 := bZ (by kernel_rfl)
theorem TG193 : gN Tryd.prog 193 5 := dR (by kernel_rfl)
theorem t3 : cQ Tryd.prog 193 [.string (⟨#[]⟩), .u8 0, .u8 0, .u16 0, .u64 0] := bv (by kernel_rfl)
theorem TZ193 : (Tryd.prog.info? 193).map (·.size) = some 5 := by kernel_rfl
theorem uC : FA 193 0 0 := fa (by kernel_rfl)
theorem d9 : cY Tryd.prog 9 := bz (by kernel_rfl)
theorem uB : FA 193 1 1 := fa (by kernel_rfl)
theorem uA : FA 193 2 2 := fa (by kernel_rfl)
theorem u9 : FA 193 3 3 := fa (by kernel_rfl)
theorem u7 : FA 193 4 4 := fa (by kernel_rfl)
theorem TU52 : Tryd.prog.underlying 52 = some (.slice 102) := by kernel_rfl
theorem TB102 : (Tryd.prog.info? 102).map (fun i => (i.zero, i.size, i.bytes)) = some (some (.agg #[.string (⟨#[]⟩), .u8 0, .u8 0, .u16 0, .u64 0]), 5, 32) := by kernel_rfl
theorem gc {c : Nat} (w : World) :
 Calls Tryd.prog 34 #[.slice none 0 c] w fun e w' => ∃ v', e = .returned v' ∧ St w aW [aH 5 1 v' 0 []] w' := by
 refine a5 (args := [.slice none 0 c]) Tryd.func34 rfl rfl rfl ?_
 have H0 := St.nil w aW
 refine sr (av (.ns) rfl (wn (sr (mv (.slice none 0 c) rfl (wm rfl (i3 (lP cA ui rfl rfl (Nat.le_refl _)) (av (.ns) rfl (wn (aQ ?_)))))))))
 exact ⟨.inr rfl, _, r1 (.ns) rfl _ _, ⟨_, rfl, H0.addRow 5 1⟩⟩
theorem nV {a : Addr} {n c : Nat} {xs : List Int} (w : World) (hr : RI .u8 w (some a) n xs) (hn : n ≤ 140737488355328) :
 Calls Tryd.prog 34 #[.slice (some a) n c] w fun e w' => ∃ v', e = .returned v' ∧ St w aW [aH 5 1 v' n (nums .u8 xs)] w' := by
 refine a5 (args := [.slice (some a) n c]) Tryd.func34 rfl rfl rfl ?_
 have H0 := St.nil w aW
 refine sr (av (.ns) rfl (wn (sr (mv (.slice (some a) n c) rfl (wm rfl (bR (H0.addRow 5 1) 0 (m := n) (a := a) (news := nums .u8 xs) rfl cA i1 rfl (by decide) rfl rfl (by rw [bH, hr.1, Nat.mul_one]) (fun j u hj => H0.keep.cell (by have := hr.src (a := a) rfl (l := 0) (m := n) (by omega) j u (by rw [List.drop_zero, List.take_of_length_le (by rw [hr.1]; omega)]; exact hj); simpa [Addr.add] using this) (aN _)) fj (by simp only [maxLen]; omega) (by omega) (fun v w1 H1 =>  ?_)))))))
 rw [Nat.zero_add, List.nil_append] at H1
 refine av v rfl (wn (aQ ?_))
 exact ⟨.inr rfl, _, r1 v rfl _ _, ⟨_, rfl, H1⟩⟩
theorem ef {A : Option Addr} {n c : Nat} {xs : List Int} (w : World) (hr : RI .u8 w A n xs) (hA : A = none → n = 0) (hn : n ≤ 140737488355328) :
 Calls Tryd.prog 34 #[.slice A n c] w fun e w' => ∃ v', e = .returned v' ∧ St w aW [aH 5 1 v' n (nums .u8 xs)] w' := by
 cases A with
 | none =>
  have h0 := hA rfl
  subst h0
  have hx : xs = [] := List.eq_nil_of_length_eq_zero hr.1
  subst hx
  exact gc w
 | some a => exact nV w hr hn
theorem hP {A : Option Addr} {n c : Nat} {ds : List Rel} (w : World) (hr : RV w A n 7 (ds.flatMap Rel.cells)) (hn : n ≤ 4294967295) :
 Calls Tryd.prog 45 #[.slice A n c] w fun e w' => ∃ v', e = .returned v' ∧ St w aW [aH 101 7 v' n (ds.flatMap Rel.cells)] w' := by
 refine a5 (args := [.slice A n c]) Tryd.func45 rfl rfl rfl ?_
 have H0 := St.nil w aW
 refine sr (av (.ns) rfl (wn (sr (av (.ns) rfl (wn (ad (sr (mv (.slice A n c) rfl (wv rfl (ba vD rfl) (mi 0 rfl (wn ?_)))))))))))
 refine aC (bW (fun ρ w' => ∃ i : Nat, ∃ v : Value, ρ 6 = .slice A n c ∧ ρ 7 = .i64 ↑n ∧ ρ 8 = .i64 ↑i ∧ ρ 3 = v ∧ i ≤ n ∧ St w aW [aH 101 7 v i ((ds.take i).flatMap Rel.cells)] w') (fun ρ _ => n + 1 - nv (ρ 8)) (⟨0, _, rfl, rfl, rfl, rfl, by omega, H0.addRow 101 7⟩) ?_)
 rintro ρ w1 ⟨i, v, h6, h7, h8, h3, hi, H1⟩
 have hlen := hr.len eg (by decide)
 refine sr (wv rfl (cx h8 h7) (wn (ad ?_)))
 refine cf rfl (fun hb1 => ?_) (fun hb1 => ?_)
 ·
  simp only [bx] at hb1
  refine wk (ad (aC (sr ?_)))
  obtain ⟨d, hd⟩ : ∃ d, ds[i]? = some d := ⟨ds[i]'(by omega), List.getElem?_eq_getElem _⟩
  obtain ⟨hin, g, o, rfl, hcell⟩ := hr.at_ eg hd (by decide)
  refine wv rfl (bU i vC h6 h8 rfl (by omega) rfl) (wv rfl ((show Yv _ _ _ _ (.agg #[.u32 d.addr, .u32 d.value, .u8 d.type, .u8 d.len, .bool d.pcrel, .bool d.extern, .bool d.scattered]) _ from dI (cs := d.cells) TG192 rfl (fun j v hj => H1.keep.cell (hcell j v hj) (aN _)) rfl)) (wm rfl (aK H1 t4 (fun g2 w3 hgg2 H4 =>  ws (eN H4 0 [.u32 d.addr, .u32 d.value, .u8 d.type, .u8 d.len, .bool d.pcrel, .bool d.extern, .bool d.scattered] rfl TZ192 (fun w6 H5 =>  ?_))))))
  refine wn (ae (mg h3 rfl (wf kM rfl (wv rfl (H5.ld 0 rfl ar rfl (.u32 d.addr) rfl) (wf kL rfl (wv rfl (H5.ld 0 rfl ar rfl (.u32 d.value) rfl) (wf kK rfl (wv rfl (H5.ld 0 rfl cC rfl (.u8 d.type) rfl) (wf kJ rfl (wv rfl (H5.ld 0 rfl cC rfl (.u8 d.len) rfl) (wf kI rfl ?_)))))))))))
  refine wv rfl (H5.ld 0 rfl cU rfl (.bool d.pcrel) rfl) (wf mT rfl (wv rfl (H5.ld 0 rfl cU rfl (.bool d.extern) rfl) (wf pV rfl (wv rfl (H5.ld 0 rfl cU rfl (.bool d.scattered) rfl) (wv rfl (yz [.u32 d.addr, .u32 d.value, .u8 d.type, .u8 d.len, .bool d.pcrel, .bool d.extern, .bool d.scattered] rfl (by kernel_rfl)) (wm rfl (jv H5 (ps := [(0, .agg #[.u32 d.addr, .u32 d.value, .u8 d.type, .u8 d.len, .bool d.pcrel, .bool d.extern, .bool d.scattered])]) (e := 101) (cs := [.u32 d.addr, .u32 d.value, .u8 d.type, .u8 d.len, .bool d.pcrel, .bool d.extern, .bool d.scattered]) rfl (by kernel_rfl) (fun g7 w8 hgg7 H9 =>  wm rfl (bR H9 2 (m := 1) (news := [.u32 d.addr, .u32 d.value, .u8 d.type, .u8 d.len, .bool d.pcrel, .bool d.extern, .bool d.scattered]) rfl TU97 TB101 rfl (by decide) rfl rfl rfl (H9.news (i := 0) rfl) (by simp [Value.oneCell']) (by simp only [maxLen]; omega) (by omega) (fun v10 w11 H12 =>  ?_))))))))))
  refine av v10 rfl (bl (ao (ac (ae (wv rfl (aT (k := .i64) (c := ↑i + 1) h8 rfl (aE (by omega) (by omega))) (mi (↑i + 1) rfl (wn ?_)))))))
  have Hnx : St w aW [aH 101 7 v10 (i + 1) ((ds.take (i + 1)).flatMap Rel.cells)] w11 := by rw [da hd]; exact H12.sub (.cons _ (.cons _ (List.Sublist.refl _)))
  exact ⟨⟨i + 1, _, h6, h7, rfl, rfl, by omega, Hnx⟩, by show n + 1 - nv (.i64 (↑i + 1)) < n + 1 - nv (ρ 8); rw [h8]; simp only [nv]; omega⟩
 ·
  simp only [bx] at hb1
  refine bF (a8 (a8 (aY (ac (sr (mg h3 rfl (av v rfl (wn (aQ ?_)))))))))
  exact ⟨.inr rfl, _, r1 v rfl _ _, ⟨_, rfl, (by have hin : i = n := (by omega); rw [List.take_of_length_le (by omega), hin] at H1; exact H1)⟩⟩
theorem nH {A : Option Addr} {n c : Nat} {ds : List Sym} (w : World) (hr : RV w A n 5 (ds.flatMap Sym.cells)) (hn : n ≤ 4294967295) :
 Calls Tryd.prog 46 #[.slice A n c] w fun e w' => ∃ v', e = .returned v' ∧ St w aW [aH 102 5 v' n (ds.flatMap Sym.cells)] w' := by
 refine a5 (args := [.slice A n c]) Tryd.func46 rfl rfl rfl ?_
 have H0 := St.nil w aW
 refine sr (av (.ns) rfl (wn (sr (av (.ns) rfl (wn (ad (sr (mv (.slice A n c) rfl (wv rfl (ba tK rfl) (mi 0 rfl (wn ?_)))))))))))
 refine aC (bW (fun ρ w' => ∃ i : Nat, ∃ v : Value, ρ 6 = .slice A n c ∧ ρ 7 = .i64 ↑n ∧ ρ 8 = .i64 ↑i ∧ ρ 3 = v ∧ i ≤ n ∧ St w aW [aH 102 5 v i ((ds.take i).flatMap Sym.cells)] w') (fun ρ _ => n + 1 - nv (ρ 8)) (⟨0, _, rfl, rfl, rfl, rfl, by omega, H0.addRow 102 5⟩) ?_)
 rintro ρ w1 ⟨i, v, h6, h7, h8, h3, hi, H1⟩
 have hlen := hr.len fR (by decide)
 refine sr (wv rfl (cx h8 h7) (wn (ad ?_)))
 refine cf rfl (fun hb1 => ?_) (fun hb1 => ?_)
 ·
  simp only [bx] at hb1
  refine wk (ad (aC (sr ?_)))
  obtain ⟨d, hd⟩ : ∃ d, ds[i]? = some d := ⟨ds[i]'(by omega), List.getElem?_eq_getElem _⟩
  obtain ⟨hin, g, o, rfl, hcell⟩ := hr.at_ fR hd (by decide)
  refine wv rfl (bU i TS142 h6 h8 rfl (by omega) rfl) (wv rfl ((show Yv _ _ _ _ (.agg #[.str d.name, .u8 d.type, .u8 d.sect, .u16 d.desc, .u64 d.value]) _ from dI (cs := d.cells) TG193 rfl (fun j v hj => H1.keep.cell (hcell j v hj) (aN _)) rfl)) (wm rfl (aK H1 t3 (fun g2 w3 hgg2 H4 =>  ws (eN H4 0 [.str d.name, .u8 d.type, .u8 d.sect, .u16 d.desc, .u64 d.value] rfl TZ193 (fun w6 H5 =>  ?_))))))
  refine wn (ae (mg h3 rfl (wf uC rfl (wv rfl (H5.ld 0 rfl d9 rfl (.str d.name) rfl) (wf uB rfl (wv rfl (H5.ld 0 rfl cC rfl (.u8 d.type) rfl) (wf uA rfl (wv rfl (H5.ld 0 rfl cC rfl (.u8 d.sect) rfl) (wf u9 rfl (wv rfl (H5.ld 0 rfl gT rfl (.u16 d.desc) rfl) (wf u7 rfl ?_)))))))))))
  refine wv rfl (H5.ld 0 rfl aM rfl (.u64 d.value) rfl) (wv rfl (yz [.str d.name, .u8 d.type, .u8 d.sect, .u16 d.desc, .u64 d.value] rfl (by kernel_rfl)) (wm rfl (jv H5 (ps := [(0, .agg #[.str d.name, .u8 d.type, .u8 d.sect, .u16 d.desc, .u64 d.value])]) (e := 102) (cs := [.str d.name, .u8 d.type, .u8 d.sect, .u16 d.desc, .u64 d.value]) rfl (by kernel_rfl) (fun g7 w8 hgg7 H9 =>  wm rfl (bR H9 2 (m := 1) (news := [.str d.name, .u8 d.type, .u8 d.sect, .u16 d.desc, .u64 d.value]) rfl TU52 TB102 rfl (by decide) rfl rfl rfl (H9.news (i := 0) rfl) (by simp [Value.oneCell']) (by simp only [maxLen]; omega) (by omega) (fun v10 w11 H12 =>  ?_))))))
  refine av v10 rfl (bl (ao (ac (ae (wv rfl (aT (k := .i64) (c := ↑i + 1) h8 rfl (aE (by omega) (by omega))) (mi (↑i + 1) rfl (wn ?_)))))))
  have Hnx : St w aW [aH 102 5 v10 (i + 1) ((ds.take (i + 1)).flatMap Sym.cells)] w11 := by rw [da hd]; exact H12.sub (.cons _ (.cons _ (List.Sublist.refl _)))
  exact ⟨⟨i + 1, _, h6, h7, rfl, rfl, by omega, Hnx⟩, by show n + 1 - nv (.i64 (↑i + 1)) < n + 1 - nv (ρ 8); rw [h8]; simp only [nv]; omega⟩
 ·
  simp only [bx] at hb1
  refine bF (a8 (a8 (aY (ac (sr (mg h3 rfl (av v rfl (wn (aQ ?_)))))))))
  exact ⟨.inr rfl, _, r1 v rfl _ _, ⟨_, rfl, (by have hin : i = n := (by omega); rw [List.take_of_length_le (by omega), hin] at H1; exact H1)⟩⟩
end Go.Proofs.YtlndedfkgiafhaaDoor
namespace Go.Proofs.YtlndedfkgiafhaaDoor
open Go Go.RowKit Go.Proofs
theorem u4 : Tryd.prog.underlying 25 = some (.slice (Tryd.prog.elem 25)) := by kernel_rfl
theorem vZ : cg Tryd.prog 25 24 1 := bZ (by kernel_rfl)
theorem nM {gx gd od n c : Nat} {ys : List Int} (big : Bool) (w : World) (hx : (aq gx (List.replicate n (.u32 0)) 24).φ w) (hr : RI .u8 w (some ⟨gd, od, none⟩) (4 * n) ys) (hby : Byt ys) (hne : gd ≠ gx) (hc : 4 * n ≤ c) (hn : n ≤ 4294967295) :
 Calls Tryd.prog 58 #[.sl gd od (4 * n) c, .u8 (bo big), .sl gx 0 n n] w fun e w' => e = .returned .nilIface ∧ St w (fun k => k = gx) [aq gx (nums .u32 (dV big n ys)) 24] w' := by
 refine a5 (args := [.sl gd od (4 * n) c, .u8 (bo big), .sl gx 0 n n]) Tryd.func58 rfl rfl rfl ?_
 have H0 : St _ _ [aq gx (List.replicate n (.u32 0)) 24] _ := (St.nil w (fun k => k = gx)).add _ hx (fun _ h => h) (by simp)
 refine sr (av (.nilIface) rfl (wn (ad (sr (ms gx 0 n n rfl (wv rfl (ba u4 rfl) (mi 0 rfl (wn (aC (bW (fun ρ w' => ∃ i : Nat, ρ 0 = .sl gd od (4 * n) c ∧ ρ 1 = .u8 (bo big) ∧ ρ 2 = .sl gx 0 n n ∧ ρ 9 = .i64 ↑n ∧ ρ 10 = .i64 ↑i ∧ i ≤ n ∧ St w (fun k => k = gx) [aq gx (nums .u32 (iw big n ys i)) 24] w') (fun ρ _ => n + 1 - nv (ρ 10)) (⟨0, rfl, rfl, rfl, rfl, rfl, by omega, by rw [oY]; exact H0⟩) ?_))))))))))
 rintro ρ w1 ⟨i, h0, h1, h2, h9, h10, hi, H1⟩
 refine sr (wv rfl (cx h10 h9) (wn (ad ?_)))
 refine cf rfl (fun hb1 => ?_) (fun hb1 => ?_)
 ·
  simp only [bx] at hb1
  refine wk (ad (aC (sr (mg h10 rfl (ai (↑i) rfl (wn (ad (sr (mg h0 rfl (wv rfl ((show Yv _ _ _ _ (.i64 (4 * ↑n)) _ from vK co rfl)) (mi (↑i) rfl ?_)))))))))))
  refine wv rfl (aT (k := .i64) (c := ↑i + 1) rfl rfl (aE (by omega) (by omega))) (wv rfl (c6 (k := .i64) (c := 4 * (↑i + 1)) rfl rfl (aE (by omega) (by omega))) (wv rfl (aZ rfl rfl (decide_eq_false (by omega))) (wn (aj rfl (wk (ae (mg h2 rfl (mi (↑i) rfl (mg h1 rfl (mg h0 rfl (mi (↑i) rfl ?_)))))))))))
  refine wv rfl (c6 (k := .i64) (c := 4 * ↑i) rfl rfl (aE (by omega) (by omega))) (wv rfl ((am (l := 4 * i) (h := 4 * n) aU rfl (bg rfl (by omega) (by omega)) bn (by omega) (by omega) (by omega) rfl : Yv _ _ _ _ (.sl gd (od + 4 * i) (4 * n - 4 * i) (c - 4 * i)) _)) (wE [.u8 (bo big), .sl gd (od + 4 * i) (4 * n - 4 * i) (c - 4 * i)] b9 rfl rfl (aa (aG big _ ((hr.keep H1.keep fun a ha h => hne ((Addr.mk.inj (Option.some.inj ha)).1.trans h)).drop_ (4 * i)) (hby.drop _) (by omega) (by omega)) ?_)))
  rintro e w3 ⟨rfl, HS2⟩
  have H4 := H1.cal0 HS2
  refine ⟨_, rfl, ?_⟩
  refine wv rfl (bU i vZ rfl rfl rfl (by omega) (by rw [Nat.zero_add, Nat.mul_one])) (ws ?_)
  refine mK H4 0 (g := gx) (k := i) (cs := nums .u32 (iw big n ys i)) (T := 24) (v := .u32 (n4 big (ys.drop (4 * i)))) rfl ar rfl (by rw [bH, eG]; omega) rfl rfl (L' := [aq gx (nums .u32 (iw big n ys (i + 1))) 24]) (fun w9 H9 => ?_) (by rw [List.set_cons_zero, sR, r8 (by omega)])
  refine bl (ao (ac (ae (wv rfl (aT (k := .i64) (c := ↑i + 1) h10 rfl (aE (by omega) (by omega))) (mi (↑i + 1) rfl (wn ?_))))))
  exact ⟨⟨i + 1, h0, h1, h2, h9, rfl, by omega, H9⟩, by show n + 1 - nv (.i64 (↑i + 1)) < n + 1 - nv (ρ 10); rw [h10]; simp only [nv]; omega⟩
 ·
  simp only [bx] at hb1
  refine bF (a8 (a8 (aY (ac (sr (av (.nilIface) rfl (wn (aQ ?_))))))))
  exact ⟨.inr rfl, _, r1 (.nilIface) rfl _ _, ⟨rfl, by have hin : i = n := (by omega); rw [hin, r9] at H1; exact H1⟩⟩
end Go.Proofs.YtlndedfkgiafhaaDoor
namespace Go.Proofs.YtlndedfkgiafhaaDoor
open Go Go.RowKit Go.Proofs
theorem dS : cQ Tryd.prog 96 [.i64 0, .ns, .string (⟨#[]⟩), .ns] := bv (by kernel_rfl)
theorem sa : ∀ (A : Option Addr) (n c : Nat) (w : World), (method (Tryd.prog.types.size + Made.depth) 138 (.slice A n c) "Raw").run Tryd.prog w = .ok (95, .slice A n c) w := fun A n c w => by kernel_rfl
theorem sC : aX Tryd.prog 95 := aJ (by kernel_rfl)
theorem ke : aX Tryd.prog 34 := aJ (by kernel_rfl)
theorem ic : (Tryd.prog.info? 96).map (·.size) = some 4 := by kernel_rfl
theorem m6 : AssertT Tryd.prog 160 (.np) := ⟨by kernel_rfl, by kernel_rfl⟩
theorem oQ : AssertT Tryd.prog 168 (.np) := ⟨by kernel_rfl, by kernel_rfl⟩
theorem ry : AssertT Tryd.prog 163 (.np) := ⟨by kernel_rfl, by kernel_rfl⟩
theorem uh : AssertT Tryd.prog 118 (.np) := ⟨by kernel_rfl, by kernel_rfl⟩
theorem vJ : AssertT Tryd.prog 119 (.np) := ⟨by kernel_rfl, by kernel_rfl⟩
theorem fp : gN Tryd.prog 96 4 := dR (by kernel_rfl)
theorem s9 : ∀ (g : Nat) (w : World), (method (Tryd.prog.types.size + Made.depth) 160 (.pt g) "Raw").run Tryd.prog w = ((loadVar 138 ⟨g, 0, none⟩) >>= fun v => pure (95, v)).run Tryd.prog w := fun g w => by kernel_rfl
theorem fq : cY Tryd.prog 138 := bz (by kernel_rfl)
theorem bi : FA 181 1 1 := fa (by kernel_rfl)
theorem mY : FA 179 2 2 := fa (by kernel_rfl)
theorem na : FA 179 0 0 := fa (by kernel_rfl)
theorem tL : (Tryd.prog.underlying 139).isSome = true := by kernel_rfl
theorem mZ : FA 179 1 1 := fa (by kernel_rfl)
theorem mX : FA 179 3 3 := fa (by kernel_rfl)
theorem mW : FA 179 4 4 := fa (by kernel_rfl)
theorem fC : FA 179 5 5 := fa (by kernel_rfl)
theorem fB : FA 179 6 6 := fa (by kernel_rfl)
theorem mV : FA 179 7 7 := fa (by kernel_rfl)
theorem mU : FA 179 8 8 := fa (by kernel_rfl)
theorem jB : FA 179 9 9 := fa (by kernel_rfl)
theorem lE : FA 179 10 10 := fa (by kernel_rfl)
theorem jj : FA 96 0 0 := fa (by kernel_rfl)
theorem jW : FA 96 2 2 := fa (by kernel_rfl)
theorem fN : FA 96 3 3 := fa (by kernel_rfl)
theorem dP : cY Tryd.prog 26 := bz (by kernel_rfl)
theorem s7 : ∀ (g : Nat) (w : World), (method (Tryd.prog.types.size + Made.depth) 168 (.pt g) "Raw").run Tryd.prog w = ((loadVar 138 ⟨g, 0, none⟩) >>= fun v => pure (95, v)).run Tryd.prog w := fun g w => by kernel_rfl
theorem qQ : FA 170 1 1 := fa (by kernel_rfl)
theorem qP : FA 170 2 2 := fa (by kernel_rfl)
theorem qO : FA 170 3 3 := fa (by kernel_rfl)
theorem qN : FA 170 4 4 := fa (by kernel_rfl)
theorem s8 : ∀ (g : Nat) (w : World), (method (Tryd.prog.types.size + Made.depth) 163 (.pt g) "Raw").run Tryd.prog w = ((loadVar 138 ⟨g, 0, none⟩) >>= fun v => pure (95, v)).run Tryd.prog w := fun g w => by kernel_rfl
theorem qU : FA 165 1 1 := fa (by kernel_rfl)
theorem sB : ∀ (g : Nat) (w : World), (method (Tryd.prog.types.size + Made.depth) 118 (.pt g) "Raw").run Tryd.prog w = ((loadVar 138 ⟨g, 0, none⟩) >>= fun v => pure (95, v)).run Tryd.prog w := fun g w => by kernel_rfl
theorem iQ : FA 144 1 1 := fa (by kernel_rfl)
theorem sA : ∀ (g : Nat) (w : World), (method (Tryd.prog.types.size + Made.depth) 119 (.pt g) "Raw").run Tryd.prog w = ((loadVar 138 ⟨g, 0, none⟩) >>= fun v => pure (95, v)).run Tryd.prog w := fun g w => by kernel_rfl
theorem cD : FA 148 1 1 := fa (by kernel_rfl)
theorem m5 {v : Value} (w : World) :
 Calls Tryd.prog 95 #[v] w fun e w' => e = .returned v ∧ St w aW [] w' := by
 refine a5 (args := [v]) Tryd.func95 rfl rfl rfl ?_
 have H0 := St.nil w aW
 refine sr (av (.ns) rfl (wn (sr (mv v rfl (av v rfl (wn (aQ ?_)))))))
 exact ⟨.inr rfl, _, r1 v rfl _ _, ⟨rfl, H0⟩⟩
theorem mI {A : Option Addr} {n c : Nat} {xs : List Int} (w : World) (hr : RI .u8 w A n xs) (hn : n ≤ 140737488355328) :
 Calls Tryd.prog 43 #[.iface 138 (.slice A n c)] w fun e w' => ∃ (c : List Value) (D : Res), e = .returned (.agg c.toArray) ∧ (∀ w, D.φ w → LoadC w c ⟨0, xs, [], []⟩) ∧ St w aW [D] w' := by
 refine a5 (args := [.iface 138 (.slice A n c)]) Tryd.func43 rfl rfl rfl ?_
 have H0 := St.nil w aW
 refine sr (wm rfl (aK H0 dS (fun g1 w2 hgg1 H3 =>  wn (sr (mv (.iface 138 (.slice A n c)) rfl (wm rfl (ei (args := []) rfl (sa _ _ _ _) sC rfl (aa (m5 _) ?_))))))))
 rintro e w5 ⟨rfl, HS4⟩
 have H6 := H3.cal0 HS4
 refine ⟨_, rfl, ?_⟩
 refine wE [.slice A n c] ke rfl rfl (aa (ef _ (hr.keep0 H6.keep) hr.none0 hn) ?_)
 rintro e w8 ⟨v, rfl, HS7⟩
 obtain ⟨A', c', rfl, hv1, hv2⟩ := aw (HS7.g 0 rfl)
 have H9 := H6.cal0 HS7
 refine ⟨_, rfl, ?_⟩
 refine wv rfl (yb (ps := [(1, .slice A' n c')]) (cells := #[.i64 0, .slice A' n c', .string (⟨#[]⟩), .ns]) rfl (by kernel_rfl)) (wm rfl (aK H9 dS (fun g10 w11 hgg10 H12 =>  ws (eN H12 0 [.i64 0, .slice A' n c', .string (⟨#[]⟩), .ns] rfl ic (fun w14 H13 =>  ?_)))))
 refine wn (ad (sr (mv (.iface 138 (.slice A n c)) rfl (wn (aC (sr (wv rfl (bV m6 rfl rfl) (we (.bool false) rfl rfl (we (.np) rfl rfl (wn (aj rfl ?_)))))))))))
 refine sr (wv rfl (bV oQ rfl rfl) (we (.bool false) rfl rfl (we (.np) rfl rfl (wn (aj rfl (sr (wv rfl (bV ry rfl rfl) (we (.bool false) rfl rfl (we (.np) rfl rfl (wn (aj rfl ?_)))))))))))
 refine sr (wv rfl (bV uh rfl rfl) (we (.bool false) rfl rfl (we (.np) rfl rfl (wn (aj rfl (sr (wv rfl (bV vJ rfl rfl) (we (.bool false) rfl rfl (we (.np) rfl rfl (wn (aj rfl ?_)))))))))))
 refine cG (ao (ac (sr (wv rfl (H13.loadA (i := 0) (vs := [.i64 0, .slice A' n c', .string (⟨#[]⟩), .ns]) rfl fp rfl rfl rfl) (ws (eN H13 2 [.i64 0, .slice A' n c', .string (⟨#[]⟩), .ns] rfl ic (fun w16 H15 =>  ?_)))))))
 refine wn (aQ ?_)
 exact ⟨.inr rfl, _, hJ rfl fp (by exact rfl) (H15.g 2 rfl) rfl, ⟨[.i64 0, .slice A' n c', .string (⟨#[]⟩), .ns], Res.all [aH 5 1 (.slice A' n c') n (nums .u8 xs)], rfl, fun w h => LoadC.of (nm := []) (ns := []) (aV.1 h (aH 5 1 (.slice A' n c') n (nums .u8 xs)) (by simp)) (RI.nil _ _ _), St.pool (L2 := []) (H15.sub (.cons _ (.cons_cons _ (.cons _ (List.Sublist.slnil)))))⟩⟩
theorem pf {A : Option Addr} {n c gl : Nat} {xs : List Int} {nm : List Int} {ra : Value} {sp : Value} {q : Nat → Int} (hq : ∀ i, 0 ≤ q i ∧ q i ≤ 18446744073709551615) (w : World) (hb : (aq gl [.slice A n c, .u32 (q 0), .u32 (q 1), .str nm, .u64 (q 2), .u64 (q 3), .u64 (q 4), .u64 (q 5), .u32 (q 6), .u32 (q 7), .u32 (q 8), .u32 (q 9), ra, sp] 181).φ w) (hr : RI .u8 w A n xs) (hn : n ≤ 140737488355328) :
 Calls Tryd.prog 43 #[.iface 160 (.pt gl)] w fun e w' => ∃ (c : List Value) (D : Res), e = .returned (.agg c.toArray) ∧ (∀ w, D.φ w → LoadC w c ⟨1, xs, nm, [q 0, q 1, q 2, q 3, q 4, q 5, q 6, q 7, q 8, q 9]⟩) ∧ St w aW [D] w' := by
 refine a5 (args := [.iface 160 (.pt gl)]) Tryd.func43 rfl rfl rfl ?_
 have H0 := St.nil w aW
 refine sr (wm rfl (aK H0 dS (fun g1 w2 hgg1 H3 =>  wn (sr (mv (.iface 160 (.pt gl)) rfl (wm rfl (l0 (args := []) rfl (s9 _ _) fq (H3.keep.cell (bS hb (k := 0) rfl) (aN _)) sC rfl (aa (m5 _) ?_))))))))
 rintro e w5 ⟨rfl, HS4⟩
 have H6 := H3.cal0 HS4
 refine ⟨_, rfl, ?_⟩
 refine wE [.slice A n c] ke rfl rfl (aa (ef _ (hr.keep0 H6.keep) hr.none0 hn) ?_)
 rintro e w8 ⟨v, rfl, HS7⟩
 obtain ⟨A', c', rfl, hv1, hv2⟩ := aw (HS7.g 0 rfl)
 have H9 := H6.cal0 HS7
 refine ⟨_, rfl, ?_⟩
 refine wv rfl (yb (ps := [(1, .slice A' n c')]) (cells := #[.i64 0, .slice A' n c', .string (⟨#[]⟩), .ns]) rfl (by kernel_rfl)) (wm rfl (aK H9 dS (fun g10 w11 hgg10 H12 =>  ws (eN H12 0 [.i64 0, .slice A' n c', .string (⟨#[]⟩), .ns] rfl ic (fun w14 H13 =>  ?_)))))
 refine wn (ad (sr (mv (.iface 160 (.pt gl)) rfl (wn (aC (sr (wv rfl (eF m6 rfl) (we (.bool true) rfl rfl (we (.pt gl) rfl rfl (wn (ay rfl ?_)))))))))))
 refine sr (ap gl 0 rfl (wn ?_))
 have H15 := H13.drew
 refine aO MX (fun w' => w'.cell? ⟨gl, 3, none⟩ = some (.str nm) ∧ w'.cell? ⟨gl, 1, none⟩ = some (.u32 (q 0)) ∧ w'.cell? ⟨gl, 2, none⟩ = some (.u32 (q 1)) ∧ w'.cell? ⟨gl, 4, none⟩ = some (.u64 (q 2)) ∧ w'.cell? ⟨gl, 5, none⟩ = some (.u64 (q 3)) ∧ w'.cell? ⟨gl, 6, none⟩ = some (.u64 (q 4)) ∧ w'.cell? ⟨gl, 7, none⟩ = some (.u64 (q 5)) ∧ w'.cell? ⟨gl, 8, none⟩ = some (.u32 (q 6)) ∧ w'.cell? ⟨gl, 9, none⟩ = some (.u32 (q 7)) ∧ w'.cell? ⟨gl, 10, none⟩ = some (.u32 (q 8)) ∧ w'.cell? ⟨gl, 11, none⟩ = some (.u32 (q 9))) (tr 0 61 (Pl.take 62 (Pl.run2 61 (Pl.run 63 (Pl.take 64 (Pl.run 65 (Pl.take 66 (Pl.run 67 Pl.done))))) 63 (Pl.take 64 (Pl.run2 61 (Pl.run 65 (Pl.take 66 (Pl.run 67 Pl.done))) 65 (Pl.run 61 (Pl.take 66 (Pl.run 67 Pl.done)))))))) (by kernel_rfl) (⟨H15.kb hb rfl, H15.kb hb rfl, H15.kb hb rfl, H15.kb hb rfl, H15.kb hb rfl, H15.kb hb rfl, H15.kb hb rfl, H15.kb hb rfl, H15.kb hb rfl, H15.kb hb rfl, H15.kb hb rfl⟩) (qm (.pt gl) rfl rfl (qy rfl (ag rfl) (qy rfl (ab (o := 0) bi rfl) (qy rfl (ab (o := 1) mY rfl) (qh rfl (fun hS => ah d9 rfl hS.1) (qm (.pt gl) rfl rfl (qy rfl (ag rfl) (qy rfl (ab (o := 0) bi rfl) (qy rfl (ab (o := 1) na rfl) (qh rfl (fun hS => ah fP rfl hS.2.1) (qy rfl (an (c := q 0) tL be rfl (a6 (hq 0).1 (hq 0).2)) ?_)))))))))))
 refine qm (.pt gl) rfl rfl (qy rfl (ag rfl) (qy rfl (ab (o := 0) bi rfl) (qy rfl (ab (o := 1) mZ rfl) (qh rfl (fun hS => ah ar rfl hS.2.2.1) (qy rfl (an (c := q 1) bm be rfl (a6 (hq 1).1 (hq 1).2)) (qm (.pt gl) rfl rfl (qy rfl (ag rfl) (qy rfl (ab (o := 0) bi rfl) (qy rfl (ab (o := 1) mX rfl) (qh rfl (fun hS => ah aM rfl hS.2.2.2.1) (qm (.pt gl) rfl rfl ?_)))))))))))
 refine qy rfl (ag rfl) (qy rfl (ab (o := 0) bi rfl) (qy rfl (ab (o := 1) mW rfl) (qh rfl (fun hS => ah aM rfl hS.2.2.2.2.1) (qm (.pt gl) rfl rfl (qy rfl (ag rfl) (qy rfl (ab (o := 0) bi rfl) (qy rfl (ab (o := 1) fC rfl) (qh rfl (fun hS => ah aM rfl hS.2.2.2.2.2.1) (qm (.pt gl) rfl rfl (qy rfl (ag rfl) (qy rfl (ab (o := 0) bi rfl) ?_)))))))))))
 refine qy rfl (ab (o := 1) fB rfl) (qh rfl (fun hS => ah aM rfl hS.2.2.2.2.2.2.1) (qm (.pt gl) rfl rfl (qy rfl (ag rfl) (qy rfl (ab (o := 0) bi rfl) (qy rfl (ab (o := 1) mV rfl) (qh rfl (fun hS => ah ar rfl hS.2.2.2.2.2.2.2.1) (qy rfl (an (c := q 6) bm be rfl (a6 (hq 6).1 (hq 6).2)) (qm (.pt gl) rfl rfl (qy rfl (ag rfl) (qy rfl (ab (o := 0) bi rfl) (qy rfl (ab (o := 1) mU rfl) ?_)))))))))))
 refine qh rfl (fun hS => ah ar rfl hS.2.2.2.2.2.2.2.2.1) (qy rfl (an (c := q 7) bm be rfl (a6 (hq 7).1 (hq 7).2)) (qm (.pt gl) rfl rfl (qy rfl (ag rfl) (qy rfl (ab (o := 0) bi rfl) (qy rfl (ab (o := 1) jB rfl) (qh rfl (fun hS => ah ar rfl hS.2.2.2.2.2.2.2.2.2.1) (qy rfl (an (c := q 8) bm be rfl (a6 (hq 8).1 (hq 8).2)) (qm (.pt gl) rfl rfl (qy rfl (ag rfl) (qy rfl (ab (o := 0) bi rfl) (qy rfl (ab (o := 1) lE rfl) ?_)))))))))))
 refine qh rfl (fun hS => ah ar rfl hS.2.2.2.2.2.2.2.2.2.2) (qy rfl (an (c := q 9) bm be rfl (a6 (hq 9).1 (hq 9).2)) (qy rfl (ab (o := 0) jj rfl) ?_))
 refine ⟨?_, ?_⟩
 ·
  refine po rfl (eb H15 43 [.u64 (q 0), .u64 (q 1), .u64 (q 2), .u64 (q 3), .u64 (q 4), .u64 (q 5), .u64 (q 6), .u64 (q 7), .u64 (q 8), .u64 (q 9)] rfl (by kernel_rfl) (fun g16 w17 hgg16 H18 =>  ?_))
  refine ⟨⟨H18.kb hb rfl, H18.kb hb rfl, H18.kb hb rfl, H18.kb hb rfl, H18.kb hb rfl, H18.kb hb rfl, H18.kb hb rfl, H18.kb hb rfl, H18.kb hb rfl, H18.kb hb rfl, H18.kb hb rfl⟩, fun _ => trivial, ?_⟩
  refine dx rfl (es H18 1 0 (.i64 1) rfl jk (fun w20 H19 =>  ?_))
  refine ⟨⟨H19.kb hb rfl, H19.kb hb rfl, H19.kb hb rfl, H19.kb hb rfl, H19.kb hb rfl, H19.kb hb rfl, H19.kb hb rfl, H19.kb hb rfl, H19.kb hb rfl, H19.kb hb rfl, H19.kb hb rfl⟩, fun _ => trivial, ?_⟩
  refine qy rfl (ab (o := 0) jW rfl) (dx rfl (es H19 1 2 (.str nm) rfl d9 (fun w22 H21 =>  ?_)))
  refine ⟨⟨H21.kb hb rfl, H21.kb hb rfl, H21.kb hb rfl, H21.kb hb rfl, H21.kb hb rfl, H21.kb hb rfl, H21.kb hb rfl, H21.kb hb rfl, H21.kb hb rfl, H21.kb hb rfl, H21.kb hb rfl⟩, fun _ => trivial, ?_⟩
  refine qy rfl (ab (o := 0) fN rfl) (dx rfl (es H21 1 3 (.sl g16 0 10 10) rfl dP (fun w24 H23 =>  ?_)))
  refine ⟨⟨H23.kb hb rfl, H23.kb hb rfl, H23.kb hb rfl, H23.kb hb rfl, H23.kb hb rfl, H23.kb hb rfl, H23.kb hb rfl, H23.kb hb rfl, H23.kb hb rfl, H23.kb hb rfl, H23.kb hb rfl⟩, fun _ => trivial, ?_⟩
  refine ck (ao (ac (sr (wv rfl (H23.loadA (i := 1) (vs := [.i64 1, .slice A' n c', .str nm, .sl g16 0 10 10]) rfl fp rfl rfl rfl) (ws (eN H23 3 [.i64 1, .slice A' n c', .str nm, .sl g16 0 10 10] rfl ic (fun w26 H25 =>  ?_)))))))
  refine wn (aQ ?_)
  exact ⟨.inr rfl, _, hJ rfl fp (by exact rfl) (H25.g 3 rfl) rfl, ⟨[.i64 1, .slice A' n c', .str nm, .sl g16 0 10 10], Res.all [aq g16 (nums .u64 [q 0, q 1, q 2, q 3, q 4, q 5, q 6, q 7, q 8, q 9]) 43, aH 5 1 (.slice A' n c') n (nums .u8 xs)], rfl, fun w h => LoadC.of (nm := nm) (ns := [q 0, q 1, q 2, q 3, q 4, q 5, q 6, q 7, q 8, q 9]) (aV.1 h (aH 5 1 (.slice A' n c') n (nums .u8 xs)) (by simp)) (ak (aV.1 h (aq g16 (nums .u64 [q 0, q 1, q 2, q 3, q 4, q 5, q 6, q 7, q 8, q 9]) 43) (by simp)) rfl), St.pool (L2 := []) (H25.sub (.cons_cons _ (.cons _ (.cons_cons _ (.cons _ (List.Sublist.slnil))))))⟩⟩
 ·
  refine rJ rfl (es H15 0 0 (.i64 1) rfl jk (fun w28 H27 =>  ?_))
  refine ⟨⟨H27.kb hb rfl, H27.kb hb rfl, H27.kb hb rfl, H27.kb hb rfl, H27.kb hb rfl, H27.kb hb rfl, H27.kb hb rfl, H27.kb hb rfl, H27.kb hb rfl, H27.kb hb rfl, H27.kb hb rfl⟩, fun _ => trivial, ?_⟩
  refine qy rfl (ab (o := 0) jW rfl) ?_
  refine ⟨?_, ?_⟩
  ·
   refine po rfl (eb H27 43 [.u64 (q 0), .u64 (q 1), .u64 (q 2), .u64 (q 3), .u64 (q 4), .u64 (q 5), .u64 (q 6), .u64 (q 7), .u64 (q 8), .u64 (q 9)] rfl (by kernel_rfl) (fun g29 w30 hgg29 H31 =>  ?_))
   refine ⟨⟨H31.kb hb rfl, H31.kb hb rfl, H31.kb hb rfl, H31.kb hb rfl, H31.kb hb rfl, H31.kb hb rfl, H31.kb hb rfl, H31.kb hb rfl, H31.kb hb rfl, H31.kb hb rfl, H31.kb hb rfl⟩, fun _ => trivial, ?_⟩
   refine dx rfl (es H31 1 2 (.str nm) rfl d9 (fun w33 H32 =>  ?_))
   refine ⟨⟨H32.kb hb rfl, H32.kb hb rfl, H32.kb hb rfl, H32.kb hb rfl, H32.kb hb rfl, H32.kb hb rfl, H32.kb hb rfl, H32.kb hb rfl, H32.kb hb rfl, H32.kb hb rfl, H32.kb hb rfl⟩, fun _ => trivial, ?_⟩
   refine qy rfl (ab (o := 0) fN rfl) (dx rfl (es H32 1 3 (.sl g29 0 10 10) rfl dP (fun w35 H34 =>  ?_)))
   refine ⟨⟨H34.kb hb rfl, H34.kb hb rfl, H34.kb hb rfl, H34.kb hb rfl, H34.kb hb rfl, H34.kb hb rfl, H34.kb hb rfl, H34.kb hb rfl, H34.kb hb rfl, H34.kb hb rfl, H34.kb hb rfl⟩, fun _ => trivial, ?_⟩
   refine ck (ao (ac (sr (wv rfl (H34.loadA (i := 1) (vs := [.i64 1, .slice A' n c', .str nm, .sl g29 0 10 10]) rfl fp rfl rfl rfl) (ws (eN H34 3 [.i64 1, .slice A' n c', .str nm, .sl g29 0 10 10] rfl ic (fun w37 H36 =>  ?_)))))))
   refine wn (aQ ?_)
   exact ⟨.inr rfl, _, hJ rfl fp (by exact rfl) (H36.g 3 rfl) rfl, ⟨[.i64 1, .slice A' n c', .str nm, .sl g29 0 10 10], Res.all [aq g29 (nums .u64 [q 0, q 1, q 2, q 3, q 4, q 5, q 6, q 7, q 8, q 9]) 43, aH 5 1 (.slice A' n c') n (nums .u8 xs)], rfl, fun w h => LoadC.of (nm := nm) (ns := [q 0, q 1, q 2, q 3, q 4, q 5, q 6, q 7, q 8, q 9]) (aV.1 h (aH 5 1 (.slice A' n c') n (nums .u8 xs)) (by simp)) (ak (aV.1 h (aq g29 (nums .u64 [q 0, q 1, q 2, q 3, q 4, q 5, q 6, q 7, q 8, q 9]) 43) (by simp)) rfl), St.pool (L2 := []) (H36.sub (.cons_cons _ (.cons _ (.cons_cons _ (.cons _ (List.Sublist.slnil))))))⟩⟩
  ·
   refine rJ rfl (es H27 0 2 (.str nm) rfl d9 (fun w39 H38 =>  ?_))
   refine ⟨⟨H38.kb hb rfl, H38.kb hb rfl, H38.kb hb rfl, H38.kb hb rfl, H38.kb hb rfl, H38.kb hb rfl, H38.kb hb rfl, H38.kb hb rfl, H38.kb hb rfl, H38.kb hb rfl, H38.kb hb rfl⟩, fun _ => trivial, ?_⟩
   refine qr rfl (eb H38 43 [.u64 (q 0), .u64 (q 1), .u64 (q 2), .u64 (q 3), .u64 (q 4), .u64 (q 5), .u64 (q 6), .u64 (q 7), .u64 (q 8), .u64 (q 9)] rfl (by kernel_rfl) (fun g40 w41 hgg40 H42 =>  ?_))
   refine ⟨⟨H42.kb hb rfl, H42.kb hb rfl, H42.kb hb rfl, H42.kb hb rfl, H42.kb hb rfl, H42.kb hb rfl, H42.kb hb rfl, H42.kb hb rfl, H42.kb hb rfl, H42.kb hb rfl, H42.kb hb rfl⟩, fun _ => trivial, ?_⟩
   refine qy rfl (ab (o := 0) fN rfl) (dx rfl (es H42 1 3 (.sl g40 0 10 10) rfl dP (fun w44 H43 =>  ?_)))
   refine ⟨⟨H43.kb hb rfl, H43.kb hb rfl, H43.kb hb rfl, H43.kb hb rfl, H43.kb hb rfl, H43.kb hb rfl, H43.kb hb rfl, H43.kb hb rfl, H43.kb hb rfl, H43.kb hb rfl, H43.kb hb rfl⟩, fun _ => trivial, ?_⟩
   refine ck (ao (ac (sr (wv rfl (H43.loadA (i := 1) (vs := [.i64 1, .slice A' n c', .str nm, .sl g40 0 10 10]) rfl fp rfl rfl rfl) (ws (eN H43 3 [.i64 1, .slice A' n c', .str nm, .sl g40 0 10 10] rfl ic (fun w46 H45 =>  ?_)))))))
   refine wn (aQ ?_)
   exact ⟨.inr rfl, _, hJ rfl fp (by exact rfl) (H45.g 3 rfl) rfl, ⟨[.i64 1, .slice A' n c', .str nm, .sl g40 0 10 10], Res.all [aq g40 (nums .u64 [q 0, q 1, q 2, q 3, q 4, q 5, q 6, q 7, q 8, q 9]) 43, aH 5 1 (.slice A' n c') n (nums .u8 xs)], rfl, fun w h => LoadC.of (nm := nm) (ns := [q 0, q 1, q 2, q 3, q 4, q 5, q 6, q 7, q 8, q 9]) (aV.1 h (aH 5 1 (.slice A' n c') n (nums .u8 xs)) (by simp)) (ak (aV.1 h (aq g40 (nums .u64 [q 0, q 1, q 2, q 3, q 4, q 5, q 6, q 7, q 8, q 9]) 43) (by simp)) rfl), St.pool (L2 := []) (H45.sub (.cons_cons _ (.cons _ (.cons_cons _ (.cons _ (List.Sublist.slnil))))))⟩⟩
theorem pg {A : Option Addr} {n c gl : Nat} {xs : List Int} {nm : List Int} {q : Nat → Int} (hq : ∀ i, 0 ≤ q i ∧ q i ≤ 18446744073709551615) (w : World) (hb : (aq gl [.slice A n c, .str nm, .u32 (q 0), .u32 (q 1), .u32 (q 2)] 170).φ w) (hr : RI .u8 w A n xs) (hn : n ≤ 140737488355328) :
 Calls Tryd.prog 43 #[.iface 168 (.pt gl)] w fun e w' => ∃ (c : List Value) (D : Res), e = .returned (.agg c.toArray) ∧ (∀ w, D.φ w → LoadC w c ⟨2, xs, nm, [q 0, q 1, q 2]⟩) ∧ St w aW [D] w' := by
 refine a5 (args := [.iface 168 (.pt gl)]) Tryd.func43 rfl rfl rfl ?_
 have H0 := St.nil w aW
 refine sr (wm rfl (aK H0 dS (fun g1 w2 hgg1 H3 =>  wn (sr (mv (.iface 168 (.pt gl)) rfl (wm rfl (l0 (args := []) rfl (s7 _ _) fq (H3.keep.cell (bS hb (k := 0) rfl) (aN _)) sC rfl (aa (m5 _) ?_))))))))
 rintro e w5 ⟨rfl, HS4⟩
 have H6 := H3.cal0 HS4
 refine ⟨_, rfl, ?_⟩
 refine wE [.slice A n c] ke rfl rfl (aa (ef _ (hr.keep0 H6.keep) hr.none0 hn) ?_)
 rintro e w8 ⟨v, rfl, HS7⟩
 obtain ⟨A', c', rfl, hv1, hv2⟩ := aw (HS7.g 0 rfl)
 have H9 := H6.cal0 HS7
 refine ⟨_, rfl, ?_⟩
 refine wv rfl (yb (ps := [(1, .slice A' n c')]) (cells := #[.i64 0, .slice A' n c', .string (⟨#[]⟩), .ns]) rfl (by kernel_rfl)) (wm rfl (aK H9 dS (fun g10 w11 hgg10 H12 =>  ws (eN H12 0 [.i64 0, .slice A' n c', .string (⟨#[]⟩), .ns] rfl ic (fun w14 H13 =>  ?_)))))
 refine wn (ad (sr (mv (.iface 168 (.pt gl)) rfl (wn (aC (sr (wv rfl (bV m6 rfl rfl) (we (.bool false) rfl rfl (we (.np) rfl rfl (wn (aj rfl ?_)))))))))))
 refine sr (wv rfl (eF oQ rfl) (we (.bool true) rfl rfl (we (.pt gl) rfl rfl (wn (ay rfl (sr (ap gl 0 rfl (wn ?_))))))))
 have H15 := H13.drew
 refine aO MX (fun w' => w'.cell? ⟨gl, 1, none⟩ = some (.str nm) ∧ w'.cell? ⟨gl, 2, none⟩ = some (.u32 (q 0)) ∧ w'.cell? ⟨gl, 3, none⟩ = some (.u32 (q 1)) ∧ w'.cell? ⟨gl, 4, none⟩ = some (.u32 (q 2))) (tr 0 19 (Pl.take 20 (Pl.run2 19 (Pl.run 21 (Pl.take 22 (Pl.run 23 (Pl.take 24 (Pl.run 25 Pl.done))))) 21 (Pl.take 22 (Pl.run2 19 (Pl.run 23 (Pl.take 24 (Pl.run 25 Pl.done))) 23 (Pl.run 19 (Pl.take 24 (Pl.run 25 Pl.done)))))))) (by kernel_rfl) (⟨H15.kb hb rfl, H15.kb hb rfl, H15.kb hb rfl, H15.kb hb rfl⟩) (qm (.pt gl) rfl rfl (qy rfl (ag rfl) (qy rfl (ab (o := 0) qQ rfl) (qh rfl (fun hS => ah d9 rfl hS.1) (qm (.pt gl) rfl rfl (qy rfl (ag rfl) (qy rfl (ab (o := 0) qP rfl) (qh rfl (fun hS => ah ar rfl hS.2.1) (qy rfl (an (c := q 0) bm be rfl (a6 (hq 0).1 (hq 0).2)) (qm (.pt gl) rfl rfl (qy rfl (ag rfl) ?_)))))))))))
 refine qy rfl (ab (o := 0) qO rfl) (qh rfl (fun hS => ah ar rfl hS.2.2.1) (qy rfl (an (c := q 1) bm be rfl (a6 (hq 1).1 (hq 1).2)) (qm (.pt gl) rfl rfl (qy rfl (ag rfl) (qy rfl (ab (o := 0) qN rfl) (qh rfl (fun hS => ah ar rfl hS.2.2.2) (qy rfl (an (c := q 2) bm be rfl (a6 (hq 2).1 (hq 2).2)) (qy rfl (ab (o := 0) jj rfl) ?_))))))))
 refine ⟨?_, ?_⟩
 ·
  refine po rfl (eb H15 43 [.u64 (q 0), .u64 (q 1), .u64 (q 2)] rfl (by kernel_rfl) (fun g16 w17 hgg16 H18 =>  ?_))
  refine ⟨⟨H18.kb hb rfl, H18.kb hb rfl, H18.kb hb rfl, H18.kb hb rfl⟩, fun _ => trivial, ?_⟩
  refine dx rfl (es H18 1 0 (.i64 2) rfl jk (fun w20 H19 =>  ?_))
  refine ⟨⟨H19.kb hb rfl, H19.kb hb rfl, H19.kb hb rfl, H19.kb hb rfl⟩, fun _ => trivial, ?_⟩
  refine qy rfl (ab (o := 0) jW rfl) (dx rfl (es H19 1 2 (.str nm) rfl d9 (fun w22 H21 =>  ?_)))
  refine ⟨⟨H21.kb hb rfl, H21.kb hb rfl, H21.kb hb rfl, H21.kb hb rfl⟩, fun _ => trivial, ?_⟩
  refine qy rfl (ab (o := 0) fN rfl) (dx rfl (es H21 1 3 (.sl g16 0 3 3) rfl dP (fun w24 H23 =>  ?_)))
  refine ⟨⟨H23.kb hb rfl, H23.kb hb rfl, H23.kb hb rfl, H23.kb hb rfl⟩, fun _ => trivial, ?_⟩
  refine ck (ao (ac (sr (wv rfl (H23.loadA (i := 1) (vs := [.i64 2, .slice A' n c', .str nm, .sl g16 0 3 3]) rfl fp rfl rfl rfl) (ws (eN H23 3 [.i64 2, .slice A' n c', .str nm, .sl g16 0 3 3] rfl ic (fun w26 H25 =>  ?_)))))))
  refine wn (aQ ?_)
  exact ⟨.inr rfl, _, hJ rfl fp (by exact rfl) (H25.g 3 rfl) rfl, ⟨[.i64 2, .slice A' n c', .str nm, .sl g16 0 3 3], Res.all [aq g16 (nums .u64 [q 0, q 1, q 2]) 43, aH 5 1 (.slice A' n c') n (nums .u8 xs)], rfl, fun w h => LoadC.of (nm := nm) (ns := [q 0, q 1, q 2]) (aV.1 h (aH 5 1 (.slice A' n c') n (nums .u8 xs)) (by simp)) (ak (aV.1 h (aq g16 (nums .u64 [q 0, q 1, q 2]) 43) (by simp)) rfl), St.pool (L2 := []) (H25.sub (.cons_cons _ (.cons _ (.cons_cons _ (.cons _ (List.Sublist.slnil))))))⟩⟩
 ·
  refine rJ rfl (es H15 0 0 (.i64 2) rfl jk (fun w28 H27 =>  ?_))
  refine ⟨⟨H27.kb hb rfl, H27.kb hb rfl, H27.kb hb rfl, H27.kb hb rfl⟩, fun _ => trivial, ?_⟩
  refine qy rfl (ab (o := 0) jW rfl) ?_
  refine ⟨?_, ?_⟩
  ·
   refine po rfl (eb H27 43 [.u64 (q 0), .u64 (q 1), .u64 (q 2)] rfl (by kernel_rfl) (fun g29 w30 hgg29 H31 =>  ?_))
   refine ⟨⟨H31.kb hb rfl, H31.kb hb rfl, H31.kb hb rfl, H31.kb hb rfl⟩, fun _ => trivial, ?_⟩
   refine dx rfl (es H31 1 2 (.str nm) rfl d9 (fun w33 H32 =>  ?_))
   refine ⟨⟨H32.kb hb rfl, H32.kb hb rfl, H32.kb hb rfl, H32.kb hb rfl⟩, fun _ => trivial, ?_⟩
   refine qy rfl (ab (o := 0) fN rfl) (dx rfl (es H32 1 3 (.sl g29 0 3 3) rfl dP (fun w35 H34 =>  ?_)))
   refine ⟨⟨H34.kb hb rfl, H34.kb hb rfl, H34.kb hb rfl, H34.kb hb rfl⟩, fun _ => trivial, ?_⟩
   refine ck (ao (ac (sr (wv rfl (H34.loadA (i := 1) (vs := [.i64 2, .slice A' n c', .str nm, .sl g29 0 3 3]) rfl fp rfl rfl rfl) (ws (eN H34 3 [.i64 2, .slice A' n c', .str nm, .sl g29 0 3 3] rfl ic (fun w37 H36 =>  ?_)))))))
   refine wn (aQ ?_)
   exact ⟨.inr rfl, _, hJ rfl fp (by exact rfl) (H36.g 3 rfl) rfl, ⟨[.i64 2, .slice A' n c', .str nm, .sl g29 0 3 3], Res.all [aq g29 (nums .u64 [q 0, q 1, q 2]) 43, aH 5 1 (.slice A' n c') n (nums .u8 xs)], rfl, fun w h => LoadC.of (nm := nm) (ns := [q 0, q 1, q 2]) (aV.1 h (aH 5 1 (.slice A' n c') n (nums .u8 xs)) (by simp)) (ak (aV.1 h (aq g29 (nums .u64 [q 0, q 1, q 2]) 43) (by simp)) rfl), St.pool (L2 := []) (H36.sub (.cons_cons _ (.cons _ (.cons_cons _ (.cons _ (List.Sublist.slnil))))))⟩⟩
  ·
   refine rJ rfl (es H27 0 2 (.str nm) rfl d9 (fun w39 H38 =>  ?_))
   refine ⟨⟨H38.kb hb rfl, H38.kb hb rfl, H38.kb hb rfl, H38.kb hb rfl⟩, fun _ => trivial, ?_⟩
   refine qr rfl (eb H38 43 [.u64 (q 0), .u64 (q 1), .u64 (q 2)] rfl (by kernel_rfl) (fun g40 w41 hgg40 H42 =>  ?_))
   refine ⟨⟨H42.kb hb rfl, H42.kb hb rfl, H42.kb hb rfl, H42.kb hb rfl⟩, fun _ => trivial, ?_⟩
   refine qy rfl (ab (o := 0) fN rfl) (dx rfl (es H42 1 3 (.sl g40 0 3 3) rfl dP (fun w44 H43 =>  ?_)))
   refine ⟨⟨H43.kb hb rfl, H43.kb hb rfl, H43.kb hb rfl, H43.kb hb rfl⟩, fun _ => trivial, ?_⟩
   refine ck (ao (ac (sr (wv rfl (H43.loadA (i := 1) (vs := [.i64 2, .slice A' n c', .str nm, .sl g40 0 3 3]) rfl fp rfl rfl rfl) (ws (eN H43 3 [.i64 2, .slice A' n c', .str nm, .sl g40 0 3 3] rfl ic (fun w46 H45 =>  ?_)))))))
   refine wn (aQ ?_)
   exact ⟨.inr rfl, _, hJ rfl fp (by exact rfl) (H45.g 3 rfl) rfl, ⟨[.i64 2, .slice A' n c', .str nm, .sl g40 0 3 3], Res.all [aq g40 (nums .u64 [q 0, q 1, q 2]) 43, aH 5 1 (.slice A' n c') n (nums .u8 xs)], rfl, fun w h => LoadC.of (nm := nm) (ns := [q 0, q 1, q 2]) (aV.1 h (aH 5 1 (.slice A' n c') n (nums .u8 xs)) (by simp)) (ak (aV.1 h (aq g40 (nums .u64 [q 0, q 1, q 2]) 43) (by simp)) rfl), St.pool (L2 := []) (H45.sub (.cons_cons _ (.cons _ (.cons_cons _ (.cons _ (List.Sublist.slnil))))))⟩⟩
theorem nT {A : Option Addr} {n c gl : Nat} {xs : List Int} {nm : List Int} (w : World) (hb : (aq gl [.slice A n c, .str nm] 165).φ w) (hr : RI .u8 w A n xs) (hn : n ≤ 140737488355328) :
 Calls Tryd.prog 43 #[.iface 163 (.pt gl)] w fun e w' => ∃ (c : List Value) (D : Res), e = .returned (.agg c.toArray) ∧ (∀ w, D.φ w → LoadC w c ⟨3, xs, nm, []⟩) ∧ St w aW [D] w' := by
 refine a5 (args := [.iface 163 (.pt gl)]) Tryd.func43 rfl rfl rfl ?_
 have H0 := St.nil w aW
 refine sr (wm rfl (aK H0 dS (fun g1 w2 hgg1 H3 =>  wn (sr (mv (.iface 163 (.pt gl)) rfl (wm rfl (l0 (args := []) rfl (s8 _ _) fq (H3.keep.cell (bS hb (k := 0) rfl) (aN _)) sC rfl (aa (m5 _) ?_))))))))
 rintro e w5 ⟨rfl, HS4⟩
 have H6 := H3.cal0 HS4
 refine ⟨_, rfl, ?_⟩
 refine wE [.slice A n c] ke rfl rfl (aa (ef _ (hr.keep0 H6.keep) hr.none0 hn) ?_)
 rintro e w8 ⟨v, rfl, HS7⟩
 obtain ⟨A', c', rfl, hv1, hv2⟩ := aw (HS7.g 0 rfl)
 have H9 := H6.cal0 HS7
 refine ⟨_, rfl, ?_⟩
 refine wv rfl (yb (ps := [(1, .slice A' n c')]) (cells := #[.i64 0, .slice A' n c', .string (⟨#[]⟩), .ns]) rfl (by kernel_rfl)) (wm rfl (aK H9 dS (fun g10 w11 hgg10 H12 =>  ws (eN H12 0 [.i64 0, .slice A' n c', .string (⟨#[]⟩), .ns] rfl ic (fun w14 H13 =>  ?_)))))
 refine wn (ad (sr (mv (.iface 163 (.pt gl)) rfl (wn (aC (sr (wv rfl (bV m6 rfl rfl) (we (.bool false) rfl rfl (we (.np) rfl rfl (wn (aj rfl ?_)))))))))))
 refine sr (wv rfl (bV oQ rfl rfl) (we (.bool false) rfl rfl (we (.np) rfl rfl (wn (aj rfl (sr (wv rfl (eF ry rfl) (we (.bool true) rfl rfl (we (.pt gl) rfl rfl (wn (ay rfl ?_)))))))))))
 refine sr (ap gl 0 rfl (wn ?_))
 have H15 := H13.drew
 refine aO MX (fun w' => w'.cell? ⟨gl, 1, none⟩ = some (.str nm)) (tr 0 5 (Pl.run 5 (Pl.take 6 (Pl.run 7 Pl.done)))) (by kernel_rfl) (H15.kb hb rfl) (qm (.pt gl) rfl rfl (qy rfl (ag rfl) (qy rfl (ab (o := 0) qU rfl) (qh rfl (fun hS => ah d9 rfl hS) (qy rfl (ab (o := 0) jj rfl) (dx rfl (es H15 0 0 (.i64 3) rfl jk (fun w17 H16 =>  ?_))))))))
 refine ⟨H16.kb hb rfl, fun _ => trivial, ?_⟩
 refine qy rfl (ab (o := 0) jW rfl) (dx rfl (es H16 0 2 (.str nm) rfl d9 (fun w19 H18 =>  ?_)))
 refine ⟨H18.kb hb rfl, fun _ => trivial, ?_⟩
 refine ck (ao (ac (sr (wv rfl (H18.loadA (i := 0) (vs := [.i64 3, .slice A' n c', .str nm, .ns]) rfl fp rfl rfl rfl) (ws (eN H18 2 [.i64 3, .slice A' n c', .str nm, .ns] rfl ic (fun w21 H20 =>  ?_)))))))
 refine wn (aQ ?_)
 exact ⟨.inr rfl, _, hJ rfl fp (by exact rfl) (H20.g 2 rfl) rfl, ⟨[.i64 3, .slice A' n c', .str nm, .ns], Res.all [aH 5 1 (.slice A' n c') n (nums .u8 xs)], rfl, fun w h => LoadC.of (nm := nm) (ns := []) (aV.1 h (aH 5 1 (.slice A' n c') n (nums .u8 xs)) (by simp)) (RI.nil _ _ _), St.pool (L2 := []) (H20.sub (.cons _ (.cons_cons _ (.cons _ (List.Sublist.slnil)))))⟩⟩
theorem pc {A : Option Addr} {n c gl : Nat} {xs : List Int} {sy : Value} (w : World) (hb : (aq gl [.slice A n c, .u32 0, .u32 0, .u32 0, .u32 0, .u32 0, .u32 0, sy] 144).φ w) (hr : RI .u8 w A n xs) (hn : n ≤ 140737488355328) :
 Calls Tryd.prog 43 #[.iface 118 (.pt gl)] w fun e w' => ∃ (c : List Value) (D : Res), e = .returned (.agg c.toArray) ∧ (∀ w, D.φ w → LoadC w c ⟨4, xs, [], [0, 0, 0, 0, 0, 0]⟩) ∧ St w aW [D] w' := by
 refine a5 (args := [.iface 118 (.pt gl)]) Tryd.func43 rfl rfl rfl ?_
 have H0 := St.nil w aW
 refine sr (wm rfl (aK H0 dS (fun g1 w2 hgg1 H3 =>  wn (sr (mv (.iface 118 (.pt gl)) rfl (wm rfl (l0 (args := []) rfl (sB _ _) fq (H3.keep.cell (bS hb (k := 0) rfl) (aN _)) sC rfl (aa (m5 _) ?_))))))))
 rintro e w5 ⟨rfl, HS4⟩
 have H6 := H3.cal0 HS4
 refine ⟨_, rfl, ?_⟩
 refine wE [.slice A n c] ke rfl rfl (aa (ef _ (hr.keep0 H6.keep) hr.none0 hn) ?_)
 rintro e w8 ⟨v, rfl, HS7⟩
 obtain ⟨A', c', rfl, hv1, hv2⟩ := aw (HS7.g 0 rfl)
 have H9 := H6.cal0 HS7
 refine ⟨_, rfl, ?_⟩
 refine wv rfl (yb (ps := [(1, .slice A' n c')]) (cells := #[.i64 0, .slice A' n c', .string (⟨#[]⟩), .ns]) rfl (by kernel_rfl)) (wm rfl (aK H9 dS (fun g10 w11 hgg10 H12 =>  ws (eN H12 0 [.i64 0, .slice A' n c', .string (⟨#[]⟩), .ns] rfl ic (fun w14 H13 =>  ?_)))))
 refine wn (ad (sr (mv (.iface 118 (.pt gl)) rfl (wn (aC (sr (wv rfl (bV m6 rfl rfl) (we (.bool false) rfl rfl (we (.np) rfl rfl (wn (aj rfl ?_)))))))))))
 refine sr (wv rfl (bV oQ rfl rfl) (we (.bool false) rfl rfl (we (.np) rfl rfl (wn (aj rfl (sr (wv rfl (bV ry rfl rfl) (we (.bool false) rfl rfl (we (.np) rfl rfl (wn (aj rfl ?_)))))))))))
 refine sr (wv rfl (eF uh rfl) (we (.bool true) rfl rfl (we (.pt gl) rfl rfl (wn (ay rfl (sr (ap gl 0 rfl (wn ?_))))))))
 have H15 := H13.drew
 refine aO MX (fun w' => w'.cell? ⟨gl, 1, none⟩ = some (.u32 0) ∧ w'.cell? ⟨gl, 2, none⟩ = some (.u32 0) ∧ w'.cell? ⟨gl, 3, none⟩ = some (.u32 0) ∧ w'.cell? ⟨gl, 4, none⟩ = some (.u32 0) ∧ w'.cell? ⟨gl, 5, none⟩ = some (.u32 0) ∧ w'.cell? ⟨gl, 6, none⟩ = some (.u32 0)) (tr 0 36 (Pl.take 37 (Pl.run2 36 (Pl.run 38 (Pl.take 39 (Pl.run 40 Pl.done))) 38 (Pl.run 36 (Pl.take 39 (Pl.run 40 Pl.done)))))) (by kernel_rfl) (⟨H15.kb hb rfl, H15.kb hb rfl, H15.kb hb rfl, H15.kb hb rfl, H15.kb hb rfl, H15.kb hb rfl⟩) (qm (.pt gl) rfl rfl (qy rfl (ag rfl) (qy rfl (ab (o := 0) iQ rfl) (qy rfl (ab (o := 1) rj rfl) (qh rfl (fun hS => ah fP rfl hS.1) (qy rfl (an (c := 0) tL be rfl rfl) (qm (.pt gl) rfl rfl (qy rfl (ag rfl) (qy rfl (ab (o := 0) iQ rfl) (qy rfl (ab (o := 1) rh rfl) (qh rfl (fun hS => ah ar rfl hS.2.1) ?_)))))))))))
 refine qy rfl (an (c := 0) bm be rfl rfl) (qm (.pt gl) rfl rfl (qy rfl (ag rfl) (qy rfl (ab (o := 0) iQ rfl) (qy rfl (ab (o := 1) iT rfl) (qh rfl (fun hS => ah ar rfl hS.2.2.1) (qy rfl (an (c := 0) bm be rfl rfl) (qm (.pt gl) rfl rfl (qy rfl (ag rfl) (qy rfl (ab (o := 0) iQ rfl) (qy rfl (ab (o := 1) fh rfl) (qh rfl (fun hS => ah ar rfl hS.2.2.2.1) ?_)))))))))))
 refine qy rfl (an (c := 0) bm be rfl rfl) (qm (.pt gl) rfl rfl (qy rfl (ag rfl) (qy rfl (ab (o := 0) iQ rfl) (qy rfl (ab (o := 1) iS rfl) (qh rfl (fun hS => ah ar rfl hS.2.2.2.2.1) (qy rfl (an (c := 0) bm be rfl rfl) (qm (.pt gl) rfl rfl (qy rfl (ag rfl) (qy rfl (ab (o := 0) iQ rfl) (qy rfl (ab (o := 1) iR rfl) (qh rfl (fun hS => ah ar rfl hS.2.2.2.2.2) ?_)))))))))))
 refine qy rfl (an (c := 0) bm be rfl rfl) (qy rfl (ab (o := 0) jj rfl) ?_)
 refine ⟨?_, ?_⟩
 ·
  refine po rfl (eb H15 43 [.u64 0, .u64 0, .u64 0, .u64 0, .u64 0, .u64 0] rfl (by kernel_rfl) (fun g16 w17 hgg16 H18 =>  ?_))
  refine ⟨⟨H18.kb hb rfl, H18.kb hb rfl, H18.kb hb rfl, H18.kb hb rfl, H18.kb hb rfl, H18.kb hb rfl⟩, fun _ => trivial, ?_⟩
  refine dx rfl (es H18 1 0 (.i64 4) rfl jk (fun w20 H19 =>  ?_))
  refine ⟨⟨H19.kb hb rfl, H19.kb hb rfl, H19.kb hb rfl, H19.kb hb rfl, H19.kb hb rfl, H19.kb hb rfl⟩, fun _ => trivial, ?_⟩
  refine qy rfl (ab (o := 0) fN rfl) (dx rfl (es H19 1 3 (.sl g16 0 6 6) rfl dP (fun w22 H21 =>  ?_)))
  refine ⟨⟨H21.kb hb rfl, H21.kb hb rfl, H21.kb hb rfl, H21.kb hb rfl, H21.kb hb rfl, H21.kb hb rfl⟩, fun _ => trivial, ?_⟩
  refine ck (ao (ac (sr (wv rfl (H21.loadA (i := 1) (vs := [.i64 4, .slice A' n c', .string (⟨#[]⟩), .sl g16 0 6 6]) rfl fp rfl rfl rfl) (ws (eN H21 3 [.i64 4, .slice A' n c', .string (⟨#[]⟩), .sl g16 0 6 6] rfl ic (fun w24 H23 =>  ?_)))))))
  refine wn (aQ ?_)
  exact ⟨.inr rfl, _, hJ rfl fp (by exact rfl) (H23.g 3 rfl) rfl, ⟨[.i64 4, .slice A' n c', .string (⟨#[]⟩), .sl g16 0 6 6], Res.all [aq g16 (nums .u64 [0, 0, 0, 0, 0, 0]) 43, aH 5 1 (.slice A' n c') n (nums .u8 xs)], rfl, fun w h => LoadC.of (nm := []) (ns := [0, 0, 0, 0, 0, 0]) (aV.1 h (aH 5 1 (.slice A' n c') n (nums .u8 xs)) (by simp)) (ak (aV.1 h (aq g16 (nums .u64 [0, 0, 0, 0, 0, 0]) 43) (by simp)) rfl), St.pool (L2 := []) (H23.sub (.cons_cons _ (.cons _ (.cons_cons _ (.cons _ (List.Sublist.slnil))))))⟩⟩
 ·
  refine rJ rfl (es H15 0 0 (.i64 4) rfl jk (fun w26 H25 =>  ?_))
  refine ⟨⟨H25.kb hb rfl, H25.kb hb rfl, H25.kb hb rfl, H25.kb hb rfl, H25.kb hb rfl, H25.kb hb rfl⟩, fun _ => trivial, ?_⟩
  refine qr rfl (eb H25 43 [.u64 0, .u64 0, .u64 0, .u64 0, .u64 0, .u64 0] rfl (by kernel_rfl) (fun g27 w28 hgg27 H29 =>  ?_))
  refine ⟨⟨H29.kb hb rfl, H29.kb hb rfl, H29.kb hb rfl, H29.kb hb rfl, H29.kb hb rfl, H29.kb hb rfl⟩, fun _ => trivial, ?_⟩
  refine qy rfl (ab (o := 0) fN rfl) (dx rfl (es H29 1 3 (.sl g27 0 6 6) rfl dP (fun w31 H30 =>  ?_)))
  refine ⟨⟨H30.kb hb rfl, H30.kb hb rfl, H30.kb hb rfl, H30.kb hb rfl, H30.kb hb rfl, H30.kb hb rfl⟩, fun _ => trivial, ?_⟩
  refine ck (ao (ac (sr (wv rfl (H30.loadA (i := 1) (vs := [.i64 4, .slice A' n c', .string (⟨#[]⟩), .sl g27 0 6 6]) rfl fp rfl rfl rfl) (ws (eN H30 3 [.i64 4, .slice A' n c', .string (⟨#[]⟩), .sl g27 0 6 6] rfl ic (fun w33 H32 =>  ?_)))))))
  refine wn (aQ ?_)
  exact ⟨.inr rfl, _, hJ rfl fp (by exact rfl) (H32.g 3 rfl) rfl, ⟨[.i64 4, .slice A' n c', .string (⟨#[]⟩), .sl g27 0 6 6], Res.all [aq g27 (nums .u64 [0, 0, 0, 0, 0, 0]) 43, aH 5 1 (.slice A' n c') n (nums .u8 xs)], rfl, fun w h => LoadC.of (nm := []) (ns := [0, 0, 0, 0, 0, 0]) (aV.1 h (aH 5 1 (.slice A' n c') n (nums .u8 xs)) (by simp)) (ak (aV.1 h (aq g27 (nums .u64 [0, 0, 0, 0, 0, 0]) 43) (by simp)) rfl), St.pool (L2 := []) (H32.sub (.cons_cons _ (.cons _ (.cons_cons _ (.cons _ (List.Sublist.slnil))))))⟩⟩
theorem pi {A : Option Addr} {n c gl : Nat} {xs : List Int} {iy : Value} {q : Nat → Int} (hq : ∀ i, 0 ≤ q i ∧ q i ≤ 18446744073709551615) (w : World) (hb : (aq gl [.slice A n c, .u32 (q 0), .u32 (q 1), .u32 (q 2), .u32 (q 3), .u32 (q 4), .u32 (q 5), .u32 (q 6), .u32 (q 7), .u32 (q 8), .u32 (q 9), .u32 (q 10), .u32 (q 11), .u32 (q 12), .u32 (q 13), .u32 (q 14), .u32 (q 15), .u32 (q 16), .u32 (q 17), .u32 (q 18), .u32 (q 19), iy] 148).φ w) (hr : RI .u8 w A n xs) (hn : n ≤ 140737488355328) :
 Calls Tryd.prog 43 #[.iface 119 (.pt gl)] w fun e w' => ∃ (c : List Value) (D : Res), e = .returned (.agg c.toArray) ∧ (∀ w, D.φ w → LoadC w c ⟨5, xs, [], [q 0, q 1, q 2, q 3, q 4, q 5, q 6, q 7, q 8, q 9, q 10, q 11, q 12, q 13, q 14, q 15, q 16, q 17, q 18, q 19]⟩) ∧ St w aW [D] w' := by
 refine a5 (args := [.iface 119 (.pt gl)]) Tryd.func43 rfl rfl rfl ?_
 have H0 := St.nil w aW
 refine sr (wm rfl (aK H0 dS (fun g1 w2 hgg1 H3 =>  wn (sr (mv (.iface 119 (.pt gl)) rfl (wm rfl (l0 (args := []) rfl (sA _ _) fq (H3.keep.cell (bS hb (k := 0) rfl) (aN _)) sC rfl (aa (m5 _) ?_))))))))
 rintro e w5 ⟨rfl, HS4⟩
 have H6 := H3.cal0 HS4
 refine ⟨_, rfl, ?_⟩
 refine wE [.slice A n c] ke rfl rfl (aa (ef _ (hr.keep0 H6.keep) hr.none0 hn) ?_)
 rintro e w8 ⟨v, rfl, HS7⟩
 obtain ⟨A', c', rfl, hv1, hv2⟩ := aw (HS7.g 0 rfl)
 have H9 := H6.cal0 HS7
 refine ⟨_, rfl, ?_⟩
 refine wv rfl (yb (ps := [(1, .slice A' n c')]) (cells := #[.i64 0, .slice A' n c', .string (⟨#[]⟩), .ns]) rfl (by kernel_rfl)) (wm rfl (aK H9 dS (fun g10 w11 hgg10 H12 =>  ws (eN H12 0 [.i64 0, .slice A' n c', .string (⟨#[]⟩), .ns] rfl ic (fun w14 H13 =>  ?_)))))
 refine wn (ad (sr (mv (.iface 119 (.pt gl)) rfl (wn (aC (sr (wv rfl (bV m6 rfl rfl) (we (.bool false) rfl rfl (we (.np) rfl rfl (wn (aj rfl ?_)))))))))))
 refine sr (wv rfl (bV oQ rfl rfl) (we (.bool false) rfl rfl (we (.np) rfl rfl (wn (aj rfl (sr (wv rfl (bV ry rfl rfl) (we (.bool false) rfl rfl (we (.np) rfl rfl (wn (aj rfl ?_)))))))))))
 refine sr (wv rfl (bV uh rfl rfl) (we (.bool false) rfl rfl (we (.np) rfl rfl (wn (aj rfl (sr (wv rfl (eF vJ rfl) (we (.bool true) rfl rfl (we (.pt gl) rfl rfl (wn (ay rfl ?_)))))))))))
 refine sr (ap gl 0 rfl (wn ?_))
 have H15 := H13.drew
 refine aO MX (fun w' => w'.cell? ⟨gl, 1, none⟩ = some (.u32 (q 0)) ∧ w'.cell? ⟨gl, 2, none⟩ = some (.u32 (q 1)) ∧ w'.cell? ⟨gl, 3, none⟩ = some (.u32 (q 2)) ∧ w'.cell? ⟨gl, 4, none⟩ = some (.u32 (q 3)) ∧ w'.cell? ⟨gl, 5, none⟩ = some (.u32 (q 4)) ∧ w'.cell? ⟨gl, 6, none⟩ = some (.u32 (q 5)) ∧ w'.cell? ⟨gl, 7, none⟩ = some (.u32 (q 6)) ∧ w'.cell? ⟨gl, 8, none⟩ = some (.u32 (q 7)) ∧ w'.cell? ⟨gl, 9, none⟩ = some (.u32 (q 8)) ∧ w'.cell? ⟨gl, 10, none⟩ = some (.u32 (q 9)) ∧ w'.cell? ⟨gl, 11, none⟩ = some (.u32 (q 10)) ∧ w'.cell? ⟨gl, 12, none⟩ = some (.u32 (q 11)) ∧ w'.cell? ⟨gl, 13, none⟩ = some (.u32 (q 12)) ∧ w'.cell? ⟨gl, 14, none⟩ = some (.u32 (q 13)) ∧ w'.cell? ⟨gl, 15, none⟩ = some (.u32 (q 14)) ∧ w'.cell? ⟨gl, 16, none⟩ = some (.u32 (q 15)) ∧ w'.cell? ⟨gl, 17, none⟩ = some (.u32 (q 16)) ∧ w'.cell? ⟨gl, 18, none⟩ = some (.u32 (q 17)) ∧ w'.cell? ⟨gl, 19, none⟩ = some (.u32 (q 18)) ∧ w'.cell? ⟨gl, 20, none⟩ = some (.u32 (q 19))) (tr 0 120 (Pl.take 121 (Pl.run2 120 (Pl.run 122 (Pl.take 123 (Pl.run 124 Pl.done))) 122 (Pl.run 120 (Pl.take 123 (Pl.run 124 Pl.done)))))) (by kernel_rfl) (⟨H15.kb hb rfl, H15.kb hb rfl, H15.kb hb rfl, H15.kb hb rfl, H15.kb hb rfl, H15.kb hb rfl, H15.kb hb rfl, H15.kb hb rfl, H15.kb hb rfl, H15.kb hb rfl, H15.kb hb rfl, H15.kb hb rfl, H15.kb hb rfl, H15.kb hb rfl, H15.kb hb rfl, H15.kb hb rfl, H15.kb hb rfl, H15.kb hb rfl, H15.kb hb rfl, H15.kb hb rfl⟩) (qm (.pt gl) rfl rfl (qy rfl (ag rfl) (qy rfl (ab (o := 0) cD rfl) (qy rfl (ab (o := 1) rf rfl) (qh rfl (fun hS => ah fP rfl hS.1) (qy rfl (an (c := q 0) tL be rfl (a6 (hq 0).1 (hq 0).2)) (qm (.pt gl) rfl rfl (qy rfl (ag rfl) (qy rfl (ab (o := 0) cD rfl) (qy rfl (ab (o := 1) rd rfl) (qh rfl (fun hS => ah ar rfl hS.2.1) ?_)))))))))))
 refine qy rfl (an (c := q 1) bm be rfl (a6 (hq 1).1 (hq 1).2)) (qm (.pt gl) rfl rfl (qy rfl (ag rfl) (qy rfl (ab (o := 0) cD rfl) (qy rfl (ab (o := 1) rc rfl) (qh rfl (fun hS => ah ar rfl hS.2.2.1) (qy rfl (an (c := q 2) bm be rfl (a6 (hq 2).1 (hq 2).2)) (qm (.pt gl) rfl rfl (qy rfl (ag rfl) (qy rfl (ab (o := 0) cD rfl) (qy rfl (ab (o := 1) qZ rfl) (qh rfl (fun hS => ah ar rfl hS.2.2.2.1) ?_)))))))))))
 refine qy rfl (an (c := q 3) bm be rfl (a6 (hq 3).1 (hq 3).2)) (qm (.pt gl) rfl rfl (qy rfl (ag rfl) (qy rfl (ab (o := 0) cD rfl) (qy rfl (ab (o := 1) qY rfl) (qh rfl (fun hS => ah ar rfl hS.2.2.2.2.1) (qy rfl (an (c := q 4) bm be rfl (a6 (hq 4).1 (hq 4).2)) (qm (.pt gl) rfl rfl (qy rfl (ag rfl) (qy rfl (ab (o := 0) cD rfl) (qy rfl (ab (o := 1) qX rfl) (qh rfl (fun hS => ah ar rfl hS.2.2.2.2.2.1) ?_)))))))))))
 refine qy rfl (an (c := q 5) bm be rfl (a6 (hq 5).1 (hq 5).2)) (qm (.pt gl) rfl rfl (qy rfl (ag rfl) (qy rfl (ab (o := 0) cD rfl) (qy rfl (ab (o := 1) kQ rfl) (qh rfl (fun hS => ah ar rfl hS.2.2.2.2.2.2.1) (qy rfl (an (c := q 6) bm be rfl (a6 (hq 6).1 (hq 6).2)) (qm (.pt gl) rfl rfl (qy rfl (ag rfl) (qy rfl (ab (o := 0) cD rfl) (qy rfl (ab (o := 1) nf rfl) (qh rfl (fun hS => ah ar rfl hS.2.2.2.2.2.2.2.1) ?_)))))))))))
 refine qy rfl (an (c := q 7) bm be rfl (a6 (hq 7).1 (hq 7).2)) (qm (.pt gl) rfl rfl (qy rfl (ag rfl) (qy rfl (ab (o := 0) cD rfl) (qy rfl (ab (o := 1) qW rfl) (qh rfl (fun hS => ah ar rfl hS.2.2.2.2.2.2.2.2.1) (qy rfl (an (c := q 8) bm be rfl (a6 (hq 8).1 (hq 8).2)) (qm (.pt gl) rfl rfl (qy rfl (ag rfl) (qy rfl (ab (o := 0) cD rfl) (qy rfl (ab (o := 1) qV rfl) (qh rfl (fun hS => ah ar rfl hS.2.2.2.2.2.2.2.2.2.1) ?_)))))))))))
 refine qy rfl (an (c := q 9) bm be rfl (a6 (hq 9).1 (hq 9).2)) (qm (.pt gl) rfl rfl (qy rfl (ag rfl) (qy rfl (ab (o := 0) cD rfl) (qy rfl (ab (o := 1) o9 rfl) (qh rfl (fun hS => ah ar rfl hS.2.2.2.2.2.2.2.2.2.2.1) (qy rfl (an (c := q 10) bm be rfl (a6 (hq 10).1 (hq 10).2)) (qm (.pt gl) rfl rfl (qy rfl (ag rfl) (qy rfl (ab (o := 0) cD rfl) (qy rfl (ab (o := 1) o8 rfl) (qh rfl (fun hS => ah ar rfl hS.2.2.2.2.2.2.2.2.2.2.2.1) ?_)))))))))))
 refine qy rfl (an (c := q 11) bm be rfl (a6 (hq 11).1 (hq 11).2)) (qm (.pt gl) rfl rfl (qy rfl (ag rfl) (qy rfl (ab (o := 0) cD rfl) (qy rfl (ab (o := 1) o7 rfl) (qh rfl (fun hS => ah ar rfl hS.2.2.2.2.2.2.2.2.2.2.2.2.1) (qy rfl (an (c := q 12) bm be rfl (a6 (hq 12).1 (hq 12).2)) (qm (.pt gl) rfl rfl (qy rfl (ag rfl) (qy rfl (ab (o := 0) cD rfl) (qy rfl (ab (o := 1) o6 rfl) (qh rfl (fun hS => ah ar rfl hS.2.2.2.2.2.2.2.2.2.2.2.2.2.1) ?_)))))))))))
 refine qy rfl (an (c := q 13) bm be rfl (a6 (hq 13).1 (hq 13).2)) (qm (.pt gl) rfl rfl (qy rfl (ag rfl) (qy rfl (ab (o := 0) cD rfl) (qy rfl (ab (o := 1) jC rfl) (qh rfl (fun hS => ah ar rfl hS.2.2.2.2.2.2.2.2.2.2.2.2.2.2.1) (qy rfl (an (c := q 14) bm be rfl (a6 (hq 14).1 (hq 14).2)) (qm (.pt gl) rfl rfl (qy rfl (ag rfl) (qy rfl (ab (o := 0) cD rfl) (qy rfl (ab (o := 1) iC rfl) (qh rfl (fun hS => ah ar rfl hS.2.2.2.2.2.2.2.2.2.2.2.2.2.2.2.1) ?_)))))))))))
 refine qy rfl (an (c := q 15) bm be rfl (a6 (hq 15).1 (hq 15).2)) (qm (.pt gl) rfl rfl (qy rfl (ag rfl) (qy rfl (ab (o := 0) cD rfl) (qy rfl (ab (o := 1) o4 rfl) (qh rfl (fun hS => ah ar rfl hS.2.2.2.2.2.2.2.2.2.2.2.2.2.2.2.2.1) (qy rfl (an (c := q 16) bm be rfl (a6 (hq 16).1 (hq 16).2)) (qm (.pt gl) rfl rfl (qy rfl (ag rfl) (qy rfl (ab (o := 0) cD rfl) (qy rfl (ab (o := 1) o3 rfl) (qh rfl (fun hS => ah ar rfl hS.2.2.2.2.2.2.2.2.2.2.2.2.2.2.2.2.2.1) ?_)))))))))))
 refine qy rfl (an (c := q 17) bm be rfl (a6 (hq 17).1 (hq 17).2)) (qm (.pt gl) rfl rfl (qy rfl (ag rfl) (qy rfl (ab (o := 0) cD rfl) (qy rfl (ab (o := 1) o2 rfl) (qh rfl (fun hS => ah ar rfl hS.2.2.2.2.2.2.2.2.2.2.2.2.2.2.2.2.2.2.1) (qy rfl (an (c := q 18) bm be rfl (a6 (hq 18).1 (hq 18).2)) (qm (.pt gl) rfl rfl (qy rfl (ag rfl) (qy rfl (ab (o := 0) cD rfl) (qy rfl (ab (o := 1) o1 rfl) (qh rfl (fun hS => ah ar rfl hS.2.2.2.2.2.2.2.2.2.2.2.2.2.2.2.2.2.2.2) ?_)))))))))))
 refine qy rfl (an (c := q 19) bm be rfl (a6 (hq 19).1 (hq 19).2)) (qy rfl (ab (o := 0) jj rfl) ?_)
 refine ⟨?_, ?_⟩
 ·
  refine po rfl (eb H15 43 [.u64 (q 0), .u64 (q 1), .u64 (q 2), .u64 (q 3), .u64 (q 4), .u64 (q 5), .u64 (q 6), .u64 (q 7), .u64 (q 8), .u64 (q 9), .u64 (q 10), .u64 (q 11), .u64 (q 12), .u64 (q 13), .u64 (q 14), .u64 (q 15), .u64 (q 16), .u64 (q 17), .u64 (q 18), .u64 (q 19)] rfl (by kernel_rfl) (fun g16 w17 hgg16 H18 =>  ?_))
  refine ⟨⟨H18.kb hb rfl, H18.kb hb rfl, H18.kb hb rfl, H18.kb hb rfl, H18.kb hb rfl, H18.kb hb rfl, H18.kb hb rfl, H18.kb hb rfl, H18.kb hb rfl, H18.kb hb rfl, H18.kb hb rfl, H18.kb hb rfl, H18.kb hb rfl, H18.kb hb rfl, H18.kb hb rfl, H18.kb hb rfl, H18.kb hb rfl, H18.kb hb rfl, H18.kb hb rfl, H18.kb hb rfl⟩, fun _ => trivial, ?_⟩
  refine dx rfl (es H18 1 0 (.i64 5) rfl jk (fun w20 H19 =>  ?_))
  refine ⟨⟨H19.kb hb rfl, H19.kb hb rfl, H19.kb hb rfl, H19.kb hb rfl, H19.kb hb rfl, H19.kb hb rfl, H19.kb hb rfl, H19.kb hb rfl, H19.kb hb rfl, H19.kb hb rfl, H19.kb hb rfl, H19.kb hb rfl, H19.kb hb rfl, H19.kb hb rfl, H19.kb hb rfl, H19.kb hb rfl, H19.kb hb rfl, H19.kb hb rfl, H19.kb hb rfl, H19.kb hb rfl⟩, fun _ => trivial, ?_⟩
  refine qy rfl (ab (o := 0) fN rfl) (dx rfl (es H19 1 3 (.sl g16 0 20 20) rfl dP (fun w22 H21 =>  ?_)))
  refine ⟨⟨H21.kb hb rfl, H21.kb hb rfl, H21.kb hb rfl, H21.kb hb rfl, H21.kb hb rfl, H21.kb hb rfl, H21.kb hb rfl, H21.kb hb rfl, H21.kb hb rfl, H21.kb hb rfl, H21.kb hb rfl, H21.kb hb rfl, H21.kb hb rfl, H21.kb hb rfl, H21.kb hb rfl, H21.kb hb rfl, H21.kb hb rfl, H21.kb hb rfl, H21.kb hb rfl, H21.kb hb rfl⟩, fun _ => trivial, ?_⟩
  refine ck (ao (ac (sr (wv rfl (H21.loadA (i := 1) (vs := [.i64 5, .slice A' n c', .string (⟨#[]⟩), .sl g16 0 20 20]) rfl fp rfl rfl rfl) (ws (eN H21 3 [.i64 5, .slice A' n c', .string (⟨#[]⟩), .sl g16 0 20 20] rfl ic (fun w24 H23 =>  ?_)))))))
  refine wn (aQ ?_)
  exact ⟨.inr rfl, _, hJ rfl fp (by exact rfl) (H23.g 3 rfl) rfl, ⟨[.i64 5, .slice A' n c', .string (⟨#[]⟩), .sl g16 0 20 20], Res.all [aq g16 (nums .u64 [q 0, q 1, q 2, q 3, q 4, q 5, q 6, q 7, q 8, q 9, q 10, q 11, q 12, q 13, q 14, q 15, q 16, q 17, q 18, q 19]) 43, aH 5 1 (.slice A' n c') n (nums .u8 xs)], rfl, fun w h => LoadC.of (nm := []) (ns := [q 0, q 1, q 2, q 3, q 4, q 5, q 6, q 7, q 8, q 9, q 10, q 11, q 12, q 13, q 14, q 15, q 16, q 17, q 18, q 19]) (aV.1 h (aH 5 1 (.slice A' n c') n (nums .u8 xs)) (by simp)) (ak (aV.1 h (aq g16 (nums .u64 [q 0, q 1, q 2, q 3, q 4, q 5, q 6, q 7, q 8, q 9, q 10, q 11, q 12, q 13, q 14, q 15, q 16, q 17, q 18, q 19]) 43) (by simp)) rfl), St.pool (L2 := []) (H23.sub (.cons_cons _ (.cons _ (.cons_cons _ (.cons _ (List.Sublist.slnil))))))⟩⟩
 ·
  refine rJ rfl (es H15 0 0 (.i64 5) rfl jk (fun w26 H25 =>  ?_))
  refine ⟨⟨H25.kb hb rfl, H25.kb hb rfl, H25.kb hb rfl, H25.kb hb rfl, H25.kb hb rfl, H25.kb hb rfl, H25.kb hb rfl, H25.kb hb rfl, H25.kb hb rfl, H25.kb hb rfl, H25.kb hb rfl, H25.kb hb rfl, H25.kb hb rfl, H25.kb hb rfl, H25.kb hb rfl, H25.kb hb rfl, H25.kb hb rfl, H25.kb hb rfl, H25.kb hb rfl, H25.kb hb rfl⟩, fun _ => trivial, ?_⟩
  refine qr rfl (eb H25 43 [.u64 (q 0), .u64 (q 1), .u64 (q 2), .u64 (q 3), .u64 (q 4), .u64 (q 5), .u64 (q 6), .u64 (q 7), .u64 (q 8), .u64 (q 9), .u64 (q 10), .u64 (q 11), .u64 (q 12), .u64 (q 13), .u64 (q 14), .u64 (q 15), .u64 (q 16), .u64 (q 17), .u64 (q 18), .u64 (q 19)] rfl (by kernel_rfl) (fun g27 w28 hgg27 H29 =>  ?_))
  refine ⟨⟨H29.kb hb rfl, H29.kb hb rfl, H29.kb hb rfl, H29.kb hb rfl, H29.kb hb rfl, H29.kb hb rfl, H29.kb hb rfl, H29.kb hb rfl, H29.kb hb rfl, H29.kb hb rfl, H29.kb hb rfl, H29.kb hb rfl, H29.kb hb rfl, H29.kb hb rfl, H29.kb hb rfl, H29.kb hb rfl, H29.kb hb rfl, H29.kb hb rfl, H29.kb hb rfl, H29.kb hb rfl⟩, fun _ => trivial, ?_⟩
  refine qy rfl (ab (o := 0) fN rfl) (dx rfl (es H29 1 3 (.sl g27 0 20 20) rfl dP (fun w31 H30 =>  ?_)))
  refine ⟨⟨H30.kb hb rfl, H30.kb hb rfl, H30.kb hb rfl, H30.kb hb rfl, H30.kb hb rfl, H30.kb hb rfl, H30.kb hb rfl, H30.kb hb rfl, H30.kb hb rfl, H30.kb hb rfl, H30.kb hb rfl, H30.kb hb rfl, H30.kb hb rfl, H30.kb hb rfl, H30.kb hb rfl, H30.kb hb rfl, H30.kb hb rfl, H30.kb hb rfl, H30.kb hb rfl, H30.kb hb rfl⟩, fun _ => trivial, ?_⟩
  refine ck (ao (ac (sr (wv rfl (H30.loadA (i := 1) (vs := [.i64 5, .slice A' n c', .string (⟨#[]⟩), .sl g27 0 20 20]) rfl fp rfl rfl rfl) (ws (eN H30 3 [.i64 5, .slice A' n c', .string (⟨#[]⟩), .sl g27 0 20 20] rfl ic (fun w33 H32 =>  ?_)))))))
  refine wn (aQ ?_)
  exact ⟨.inr rfl, _, hJ rfl fp (by exact rfl) (H32.g 3 rfl) rfl, ⟨[.i64 5, .slice A' n c', .string (⟨#[]⟩), .sl g27 0 20 20], Res.all [aq g27 (nums .u64 [q 0, q 1, q 2, q 3, q 4, q 5, q 6, q 7, q 8, q 9, q 10, q 11, q 12, q 13, q 14, q 15, q 16, q 17, q 18, q 19]) 43, aH 5 1 (.slice A' n c') n (nums .u8 xs)], rfl, fun w h => LoadC.of (nm := []) (ns := [q 0, q 1, q 2, q 3, q 4, q 5, q 6, q 7, q 8, q 9, q 10, q 11, q 12, q 13, q 14, q 15, q 16, q 17, q 18, q 19]) (aV.1 h (aH 5 1 (.slice A' n c') n (nums .u8 xs)) (by simp)) (ak (aV.1 h (aq g27 (nums .u64 [q 0, q 1, q 2, q 3, q 4, q 5, q 6, q 7, q 8, q 9, q 10, q 11, q 12, q 13, q 14, q 15, q 16, q 17, q 18, q 19]) 43) (by simp)) rfl), St.pool (L2 := []) (H32.sub (.cons_cons _ (.cons _ (.cons_cons _ (.cons _ (List.Sublist.slnil))))))⟩⟩
end Go.Proofs.YtlndedfkgiafhaaDoor
namespace Go.Proofs.YtlndedfkgiafhaaDoor
open Go Go.RowKit Go.Proofs
def MLoad (w : World) (v : Value) (l : LoadD) : Prop :=
 (∃ (A : Option Addr) (n : Nat) (c : Nat) (xs : List Int), v = .iface 138 (.slice A n c) ∧ RI .u8 w A n xs ∧ n ≤ 140737488355328 ∧ l = ⟨0, xs, [], []⟩) ∨
 (∃ (A : Option Addr) (n : Nat) (c : Nat) (xs : List Int) (gl : Nat) (nm : List Int) (ra : Value) (sp : Value) (q : Nat → Int), v = .iface 160 (.pt gl) ∧ (∀ i, 0 ≤ q i ∧ q i ≤ 18446744073709551615) ∧ (aq gl [.slice A n c, .u32 (q 0), .u32 (q 1), .str nm, .u64 (q 2), .u64 (q 3), .u64 (q 4), .u64 (q 5), .u32 (q 6), .u32 (q 7), .u32 (q 8), .u32 (q 9), ra, sp] 181).φ w ∧ RI .u8 w A n xs ∧ n ≤ 140737488355328 ∧ l = ⟨1, xs, nm, [q 0, q 1, q 2, q 3, q 4, q 5, q 6, q 7, q 8, q 9]⟩) ∨
 (∃ (A : Option Addr) (n : Nat) (c : Nat) (xs : List Int) (gl : Nat) (nm : List Int) (q : Nat → Int), v = .iface 168 (.pt gl) ∧ (∀ i, 0 ≤ q i ∧ q i ≤ 18446744073709551615) ∧ (aq gl [.slice A n c, .str nm, .u32 (q 0), .u32 (q 1), .u32 (q 2)] 170).φ w ∧ RI .u8 w A n xs ∧ n ≤ 140737488355328 ∧ l = ⟨2, xs, nm, [q 0, q 1, q 2]⟩) ∨
 (∃ (A : Option Addr) (n : Nat) (c : Nat) (xs : List Int) (gl : Nat) (nm : List Int), v = .iface 163 (.pt gl) ∧ (aq gl [.slice A n c, .str nm] 165).φ w ∧ RI .u8 w A n xs ∧ n ≤ 140737488355328 ∧ l = ⟨3, xs, nm, []⟩) ∨
 (∃ (A : Option Addr) (n : Nat) (c : Nat) (xs : List Int) (gl : Nat) (sy : Value), v = .iface 118 (.pt gl) ∧ (aq gl [.slice A n c, .u32 0, .u32 0, .u32 0, .u32 0, .u32 0, .u32 0, sy] 144).φ w ∧ RI .u8 w A n xs ∧ n ≤ 140737488355328 ∧ l = ⟨4, xs, [], [0, 0, 0, 0, 0, 0]⟩) ∨
 (∃ (A : Option Addr) (n : Nat) (c : Nat) (xs : List Int) (gl : Nat) (iy : Value) (q : Nat → Int), v = .iface 119 (.pt gl) ∧ (∀ i, 0 ≤ q i ∧ q i ≤ 18446744073709551615) ∧ (aq gl [.slice A n c, .u32 (q 0), .u32 (q 1), .u32 (q 2), .u32 (q 3), .u32 (q 4), .u32 (q 5), .u32 (q 6), .u32 (q 7), .u32 (q 8), .u32 (q 9), .u32 (q 10), .u32 (q 11), .u32 (q 12), .u32 (q 13), .u32 (q 14), .u32 (q 15), .u32 (q 16), .u32 (q 17), .u32 (q 18), .u32 (q 19), iy] 148).φ w ∧ RI .u8 w A n xs ∧ n ≤ 140737488355328 ∧ l = ⟨5, xs, [], [q 0, q 1, q 2, q 3, q 4, q 5, q 6, q 7, q 8, q 9, q 10, q 11, q 12, q 13, q 14, q 15, q 16, q 17, q 18, q 19]⟩)
theorem MLoad.keep {w w' : World} {v : Value} {l : LoadD} (h : MLoad w v l) (hk : Keep w aW w') : MLoad w' v l := by
 rcases h with ⟨A, n, c, xs, rfl, hr, hn, rfl⟩ | ⟨A, n, c, xs, gl, nm, ra, sp, q, rfl, hq, hb, hr, hn, rfl⟩ | ⟨A, n, c, xs, gl, nm, q, rfl, hq, hb, hr, hn, rfl⟩ | ⟨A, n, c, xs, gl, nm, rfl, hb, hr, hn, rfl⟩ | ⟨A, n, c, xs, gl, sy, rfl, hb, hr, hn, rfl⟩ | ⟨A, n, c, xs, gl, iy, q, rfl, hq, hb, hr, hn, rfl⟩
 · exact .inl ⟨A, n, c, xs, rfl, hr.keep0 hk, hn, rfl⟩
 · exact .inr (.inl ⟨A, n, c, xs, gl, nm, ra, sp, q, rfl, hq, (aq _ _ _).stay _ _ hb (fun g hg => hk.block g ((aq _ _ _).live _ _ hb hg) (aN _)), hr.keep0 hk, hn, rfl⟩)
 · exact .inr (.inr (.inl ⟨A, n, c, xs, gl, nm, q, rfl, hq, (aq _ _ _).stay _ _ hb (fun g hg => hk.block g ((aq _ _ _).live _ _ hb hg) (aN _)), hr.keep0 hk, hn, rfl⟩))
 · exact .inr (.inr (.inr (.inl ⟨A, n, c, xs, gl, nm, rfl, (aq _ _ _).stay _ _ hb (fun g hg => hk.block g ((aq _ _ _).live _ _ hb hg) (aN _)), hr.keep0 hk, hn, rfl⟩)))
 · exact .inr (.inr (.inr (.inr (.inl ⟨A, n, c, xs, gl, sy, rfl, (aq _ _ _).stay _ _ hb (fun g hg => hk.block g ((aq _ _ _).live _ _ hb hg) (aN _)), hr.keep0 hk, hn, rfl⟩))))
 · exact .inr (.inr (.inr (.inr (.inr (⟨A, n, c, xs, gl, iy, q, rfl, hq, (aq _ _ _).stay _ _ hb (fun g hg => hk.block g ((aq _ _ _).live _ _ hb hg) (aN _)), hr.keep0 hk, hn, rfl⟩)))))
structure LoadV where
 l : LoadD
 vr : Value
 vn : Value
def LoadV.cells (x : LoadV) : List Value := [.i64 x.l.kind, x.vr, .str x.l.name, x.vn]
def SlI (k : IntKind) (w : World) (v : Value) (xs : List Int) : Prop := ∃ A n c, v = .slice A n c ∧ RI k w A n xs ∧ n ≤ c
theorem SlI.keep {k : IntKind} {w w' : World} {v : Value} {xs : List Int} (h : SlI k w v xs) (hk : Keep w aW w') : SlI k w' v xs := by
 obtain ⟨A, n, c, e, h1, h2⟩ := h
 exact ⟨A, n, c, e, h1.keep0 hk, h2⟩
def LoadV.ok (w : World) (x : LoadV) : Prop := (∃ A n c, x.vr = .slice A n c ∧ RI .u8 w A n x.l.raw) ∧ ∃ A n c, x.vn = .slice A n c ∧ RI .u64 w A n x.l.nums
theorem LoadV.of {c : List Value} {l : LoadD} {D : Res} {w : World} (hD : D.φ w) (h : ∀ w, D.φ w → LoadC w c l) : ∃ x : LoadV, x.l = l ∧ c = x.cells ∧ ∀ w, D.φ w → x.ok w := by
 obtain ⟨A, n, cc, B, m, bc, e, _⟩ := h w hD
 refine ⟨⟨l, .slice A n cc, .slice B m bc⟩, rfl, e, fun w' h' => ?_⟩
 obtain ⟨A', n', cc', B', m', bc', e', h1, h2, _⟩ := h w' h'
 rw [e] at e'
 simp only [List.cons.injEq, Value.slice.injEq, and_true, true_and] at e'
 obtain ⟨⟨rfl, rfl, rfl⟩, rfl, rfl, rfl⟩ := e'
 exact ⟨⟨_, _, _, rfl, h1⟩, _, _, _, rfl, h2⟩
theorem ta {v : Value} {l : LoadD} (w : World) (h : MLoad w v l) :
 Calls Tryd.prog 43 #[v] w fun e w' => ∃ (x : LoadV) (D : Res), x.l = l ∧ e = .returned (.agg x.cells.toArray) ∧ (∀ w, D.φ w → x.ok w) ∧ St w aW [D] w' := by
 have key : Calls Tryd.prog 43 #[v] w fun e w' => ∃ (c : List Value) (D : Res), e = .returned (.agg c.toArray) ∧ (∀ w, D.φ w → LoadC w c l) ∧ St w aW [D] w' := by
  rcases h with ⟨A, n, c, xs, rfl, hr, hn, rfl⟩ | ⟨A, n, c, xs, gl, nm, ra, sp, q, rfl, hq, hb, hr, hn, rfl⟩ | ⟨A, n, c, xs, gl, nm, q, rfl, hq, hb, hr, hn, rfl⟩ | ⟨A, n, c, xs, gl, nm, rfl, hb, hr, hn, rfl⟩ | ⟨A, n, c, xs, gl, sy, rfl, hb, hr, hn, rfl⟩ | ⟨A, n, c, xs, gl, iy, q, rfl, hq, hb, hr, hn, rfl⟩
  · exact mI w hr hn
  · exact pf hq w hb hr hn
  · exact pg hq w hb hr hn
  · exact nT w hb hr hn
  · exact pc w hb hr hn
  · exact pi hq w hb hr hn
 refine key.mono ?_
 rintro e w' ⟨c, D, rfl, hc, H⟩
 obtain ⟨x, hx, rfl, hok⟩ := LoadV.of (H.g 0 rfl) hc
 exact ⟨x, D, hx, rfl, hok, H⟩
structure SecD where
 name : List Int
 seg : List Int
 addr : Int
 size : Nat
 off : Nat
 align : Int
 reloff : Int
 nreloc : Int
 flags : Int
 rels : List Rel
def SecD.fits (s : SecD) : Prop := (0 ≤ s.addr ∧ s.addr ≤ 18446744073709551615) ∧ s.size < 18446744073709551616 ∧ s.off < 4294967296 ∧ (0 ≤ s.align ∧ s.align ≤ 4294967295) ∧ (0 ≤ s.reloff ∧ s.reloff ≤ 4294967295) ∧ (0 ≤ s.nreloc ∧ s.nreloc ≤ 4294967295) ∧ 0 ≤ s.flags ∧ s.flags ≤ 4294967295
def MSec (w : World) (rb g : Nat) (s : SecD) : Prop :=
 s.fits ∧ ∃ (A : Option Addr) (n c sb : Nat) (so sn lim : Int), (aq g [.str s.name, .str s.seg, .u64 s.addr, .u64 ↑s.size, .u32 ↑s.off, .u32 s.align, .u32 s.reloff, .u32 s.nreloc, .u32 s.flags, .slice A n c, .iface 133 (.pt sb), .pt sb] 135).φ w ∧
  RV w A n 7 (s.rels.flatMap Rel.cells) ∧ n ≤ 4294967295 ∧ (aq sb [.iface 109 (.pt rb), .i64 ↑s.off, .i64 so, .i64 lim, .i64 sn] 195).φ w ∧ (lim = ↑s.off + ↑s.size ∨ (lim = 9223372036854775807 ∧ 10485760 ≤ s.size)) ∧ lim ≤ 9223372036854775807
theorem b7 {w w' : World} {g : Nat} {cs : List Value} {T : TypeId} (h : (aq g cs T).φ w) (hk : Keep w aW w') : (aq g cs T).φ w' := (aq g cs T).stay _ _ h fun k hg => hk.block k ((aq g cs T).live _ _ h hg) (aN _)
theorem MSec.keep {w w' : World} {rb g : Nat} {s : SecD} (h : MSec w rb g s) (hk : Keep w aW w') : MSec w' rb g s := by
 obtain ⟨h0, A, n, c, sb, so, sn, lim, h1, h2, h3, h4, h5, h6⟩ := h
 exact ⟨h0, A, n, c, sb, so, sn, lim, b7 h1 hk, h2.keep0 hk, h3, b7 h4 hk, h5, h6⟩
end Go.Proofs.YtlndedfkgiafhaaDoor
