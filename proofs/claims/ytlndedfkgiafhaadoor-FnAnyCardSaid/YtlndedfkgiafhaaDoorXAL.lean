import Derived.Test.YtlndedfkgiafhaaDoorXAK
set_option linter.unusedVariables false
set_option linter.unusedSimpArgs false
set_option maxRecDepth 100000
set_option maxHeartbeats 4000000
namespace Go.Proofs.YtlndedfkgiafhaaDoor
open Go Go.RowKit Go.Proofs
theorem tG : cQ Tryd.prog 121 [.u32 0, .u32 0, .u32 0, .u32 0, .u32 0, .u32 0, .u32 0, .u8 0, .ns, .ns, .np, .np] := bv (by kernel_rfl)
theorem tD : cQ Tryd.prog 150 [.u8 0, .u8 0, .u8 0, .u8 0] := bv (by kernel_rfl)
theorem oB : kZ Tryd.prog 150 4 5 1 := l5 (by kernel_rfl)
theorem CK49 : aX Tryd.prog 49 := aJ (by kernel_rfl)
theorem uq {big : Bool} {l : List Int} : n4 big (l.take 4) = n4 big l := bK (m := 4) (k := 0) (by omega)
theorem fL {a : Int} (h0 : 0 ≤ a) (h1 : a < 4294967296) : IntKind.u32.wrap (BitVec.ofInt IntKind.u32.bits a &&& ~~~ BitVec.ofInt IntKind.u32.bits 1).toNat = a / 2 * 2 := by
 have e : ∀ x : BitVec 32, (x &&& ~~~ 1#32) = (x >>> 1) <<< 1 := fun x => by
  apply BitVec.eq_of_getLsbD_eq
  intro i hi
  rw [BitVec.getLsbD_and, BitVec.getLsbD_not, BitVec.getLsbD_shiftLeft, BitVec.getLsbD_ushiftRight]
  cases i with
  | zero => simp
  | succ i => simp [hi, BitVec.getLsbD_one, Nat.add_comm]
 show IntKind.u32.wrap ((BitVec.ofInt 32 a &&& ~~~ 1#32).toNat : Int) = a / 2 * 2
 rw [e, BitVec.toNat_shiftLeft, BitVec.toNat_ushiftRight, ez (k := 32) h0 (by omega), Nat.shiftLeft_eq, Nat.shiftRight_eq_div_pow, d6 (by omega) (by omega)]
 omega
section
variable {wd big : Bool} {xs ds raw : List Int} {s s' : PSt} {sz k of q5 : Nat}
theorem pC (h : ds.length < 8) : eR wd big xs (k + 1) ds s = none := by simp only [eR]; rw [if_pos h]
theorem mD (hsz : (n4 big (ds.drop 4)).toNat = sz) (h : sz < 8 ∨ ds.length < sz) : eR wd big xs (k + 1) ds s = none := by
 subst hsz; simp only [eR]; split
 · rfl
 · first | rfl | rw [if_pos h]
theorem mC (hsz : (n4 big (ds.drop 4)).toNat = sz) (hst : bP wd big xs (n4 big ds) (ds.take sz) s = none) : eR wd big xs (k + 1) ds s = none := by
 subst hsz; simp only [eR, hst]; split
 · rfl
 · split <;> rfl
theorem iL (h8 : ¬ ds.length < 8) (hsz : (n4 big (ds.drop 4)).toNat = sz) (h : ¬ (sz < 8 ∨ ds.length < sz)) (hst : bP wd big xs (n4 big ds) (ds.take sz) s = some s') : eR wd big xs (k + 1) ds s = eR wd big xs k (ds.drop sz) s' := by
 subst hsz; simp only [eR, hst]; rw [if_neg h8, if_neg h]
theorem pH (h : xs.length < 4) : fU xs = none := by unfold fU; rw [if_pos h]
theorem pG (hm : jf xs = none) : fU xs = none := by
 unfold fU; split
 · rfl
 · rw [hm]
theorem mH (h : xs.length < 28) : fU xs = none := by
 unfold fU; split
 · rfl
 · split
   · rfl
   · first | rfl | rw [if_pos h]
theorem pF (hm : jf xs = some big) (hof : of = if ey (n4 big (xs.drop 0)) then 32 else 28) (hq : (n4 big (xs.drop 20)).toNat = q5) (ha : gG xs of q5 = none) : fU xs = none := by
 subst hof; subst hq; unfold fU; split
 · rfl
 · simp only [hm, ha]; split <;> rfl
theorem dK (hm : jf xs = some big) (hof : of = if ey (n4 big (xs.drop 0)) then 32 else 28) (hq : (n4 big (xs.drop 20)).toNat = q5) (ha : gG xs of q5 = some ds) (hk : (n4 big (xs.drop 16)).toNat = k) (hr : eR (ey (n4 big (xs.drop 0))) big xs k ds ⟨[], [], none, none⟩ = none) : fU xs = none := by
 subst hof; subst hq; subst hk; unfold fU; split
 · rfl
 · simp only [hm, ha, hr]; split <;> rfl
theorem pE (hl : ¬ xs.length < 28) (hm : jf xs = some big) (hof : of = if ey (n4 big (xs.drop 0)) then 32 else 28) (hq : (n4 big (xs.drop 20)).toNat = q5) (ha : gG xs of q5 = some ds) (hk : (n4 big (xs.drop 16)).toNat = k) (hr : eR (ey (n4 big (xs.drop 0))) big xs k ds ⟨[], [], none, none⟩ = some s) :
 fU xs = some ⟨fun k => n4 big (xs.drop (4 * k)), big, s.loads, s.secs, s.syms.getD [], s.ind.getD []⟩ := by
 subst hof; subst hq; subst hk; unfold fU; rw [if_neg (by omega)]; simp only [hm]; rw [if_neg hl]; simp only [ha, hr]
end
theorem ue {w w' : World} {rb fb gd o m : Nat} {big : Bool} {h : Nat → Int} {ds : List Int} {s : PSt} (H : Mid w rb fb big h gd o m ds s w') (hb : ∀ i, 0 ≤ h i ∧ h i ≤ 4294967295) : MFile w' rb fb ⟨h, big, s.loads, s.secs, s.syms.getD [], s.ind.getD []⟩ := by
 obtain ⟨D, AL, AS, nL, cL, nS, cS, vs, gs, sy, dy, hDg, hnL, hnS, hD, H⟩ := H
 have hd := H.g 3 rfl
 obtain ⟨A1, c1, e1, r1, _⟩ := aw (H.g 1 rfl)
 obtain ⟨A2, c2, e2, r2, _⟩ := aw (H.g 2 rfl)
 cases e1; cases e2
 refine ⟨AL, AS, nL, cL, nS, cS, vs, gs, sy, dy, hb, H.g 0 rfl, r1, by omega, (hD.ld _ hd).1, (hD.ld _ hd).2, r2, by omega, (hD.sc _ hd).1, (hD.sc _ hd).2, ?_, ?_⟩
 · rcases hD.sy with ⟨rfl, e⟩ | ⟨gy, n, c, A, x0, x1, x2, x3, x4, x5, x6, ss, rfl, e, hn, hl, hf⟩
   · exact .inl ⟨rfl, by rw [e]; rfl⟩
   · exact .inr ⟨gy, n, c, A, x0, x1, x2, x3, x4, x5, x6, rfl, (hf _ hd).1, by rw [e]; exact (hf _ hd).2, by omega⟩
 · rcases hD.dy with ⟨rfl, e⟩ | ⟨gy, n, c, a, z, q, ss, rfl, e, hn, hf⟩
   · exact .inl ⟨rfl, by rw [e]; rfl⟩
   · exact .inr ⟨gy, n, c, a, z, q, rfl, (hf _ hd).1, by rw [e]; exact (hf _ hd).2, hn⟩
theorem vQ {rb N C fb gd o0 o m sz cr nL cL nS cS : Nat} {A AL AS : Option Addr} {i0 p0 of ii cmd : Int} {xs raw ds : List Int} {a0 a1 : Addr} {h : Nat → Int} {vs : List Value} {gs : List Nat} {sy dy : Value} {D : Res} {s : PSt} (big : Bool) (w w1 : World) (hrb : (aq rb [.slice A N C, .i64 i0, .i64 p0] 190).φ w) (hG : Glob 224 w a0 a1) (hNC : N ≤ C) (hN : N < 10485760) (hr : RI .u8 w A N xs) (hby : Byt xs) (hA : ∀ a, A = some a → a.block < w.heap.size) (hw4 : 4 ≤ w.heap.size)
 (hDg : D.F gd) (hnL : nL + sz + m ≤ 10485760) (hnS : nS + sz + m ≤ 10485760) (hD : NFD D.φ rb s gd o m ds vs gs sy dy) (hRaw : ∀ w, D.φ w → RI .u8 w (some ⟨gd, o0, none⟩) sz raw) (hrby : Byt raw) (hrl : raw.length = sz) (hscr : sz ≤ cr) (hsz8 : 8 ≤ sz) (hof0 : 0 ≤ of) (hof1 : of + ↑m ≤ 10485800)
 (H1 : St w aW (sY fb big h AL AS nL cL nS cS vs gs sy dy D) w1) {ρ : cF} (h0 : ρ 0 = .iface 109 (.pt rb)) (h4 : ρ 4 = .pt fb) (h12 : ρ 12 = .i64 of) (h13 : ρ 13 = .sl gd o m m) (h16 : ρ 16 = .u8 (bo big)) (h17 : ρ 17 = .u32 ii) (h18 : ρ 18 = .u32 cmd) (h19 : ρ 19 = .u32 ↑sz) (h20 : ρ 20 = .sl gd o0 sz cr) (h21 : ρ 21 = .np) (hraw0 : n4 big raw = cmd) (hraw4 : n4 big (raw.drop 4) = ↑sz) :
 W Tryd.prog 931 ((d7 3 (Tryd.f41.body.getD .skip)).getD .skip) (fun e ρ' w' => (e = .normal ∧ ∃ s', bP (ey (h 0)) big xs cmd raw s = some s' ∧ Fr ρ' rb fb gd o m big ii ∧ Mid w rb fb big h gd o m ds s' w') ∨ (e = .ret ∧ bP (ey (h 0)) big xs cmd raw s = none ∧ ρ' 2 = .np ∧ (∃ T v, ρ' 3 = .iface T v) ∧ Keep w aW w')) ρ w1 := by
 by_cases hc2147483676 : cmd = 2147483676
 · subst hc2147483676
   exact up big w w1 hrb hG hNC hN hr hby hA hw4 hDg hnL hnS hD hRaw hrby hrl hscr hsz8 hof0 hof1 H1 h0 h4 h12 h13 h16 h17 h18 h19 h20 h21  (fun s' ρ' w' a b c => .inl ⟨rfl, s', by rw [← a]; exact by unfold bP; rw [if_pos rfl], b, c⟩) (fun a ρ' w' T v r2 r3 hk => .inr ⟨rfl, by rw [← a]; exact by unfold bP; rw [if_pos rfl], r2, ⟨T, v, r3⟩, hk⟩)
 by_cases hc12 : cmd = 12
 · subst hc12
   exact vO big w w1 hrb hG hNC hN hr hby hA hw4 hDg hnL hnS hD hRaw hrby hrl hscr hsz8 hof0 hof1 H1 h0 h4 h12 h13 h16 h17 h18 h19 h20 h21  (fun s' ρ' w' a b c => .inl ⟨rfl, s', by rw [← a]; exact by unfold bP; rw [if_neg (by decide), if_pos rfl], b, c⟩) (fun a ρ' w' T v r2 r3 hk => .inr ⟨rfl, by rw [← a]; exact by unfold bP; rw [if_neg (by decide), if_pos rfl], r2, ⟨T, v, r3⟩, hk⟩)
 by_cases hc2 : cmd = 2
 · subst hc2
   by_cases hw : h 0 = 4277009103
   · have hwd : ey (h 0) = true := decide_eq_true hw
     exact sS big w w1 hrb hG hNC hN hr hby hA hw4 hDg hnL hnS hD hRaw hrby hrl hscr hsz8 hof0 hof1 H1 h0 h4 h12 h13 h16 h17 h18 h19 h20 h21 hw (fun s' ρ' w' a b c => .inl ⟨rfl, s', by rw [← a]; exact by rw [hwd]; unfold bP; rw [if_neg (by decide), if_neg (by decide), if_pos rfl], b, c⟩) (fun a ρ' w' T v r2 r3 hk => .inr ⟨rfl, by rw [← a]; exact by rw [hwd]; unfold bP; rw [if_neg (by decide), if_neg (by decide), if_pos rfl], r2, ⟨T, v, r3⟩, hk⟩)
   · have hwd : ey (h 0) = false := decide_eq_false hw
     exact sU big w w1 hrb hG hNC hN hr hby hA hw4 hDg hnL hnS hD hRaw hrby hrl hscr hsz8 hof0 hof1 H1 h0 h4 h12 h13 h16 h17 h18 h19 h20 h21 hw (fun s' ρ' w' a b c => .inl ⟨rfl, s', by rw [← a]; exact by rw [hwd]; unfold bP; rw [if_neg (by decide), if_neg (by decide), if_pos rfl], b, c⟩) (fun a ρ' w' T v r2 r3 hk => .inr ⟨rfl, by rw [← a]; exact by rw [hwd]; unfold bP; rw [if_neg (by decide), if_neg (by decide), if_pos rfl], r2, ⟨T, v, r3⟩, hk⟩)
 by_cases hc11 : cmd = 11
 · subst hc11
   exact vP big w w1 hrb hG hNC hN hr hby hA hw4 hDg hnL hnS hD hRaw hrby hrl hscr hsz8 hof0 hof1 H1 h0 h4 h12 h13 h16 h17 h18 h19 h20 h21  (fun s' ρ' w' a b c => .inl ⟨rfl, s', by rw [← a]; exact by unfold bP; rw [if_neg (by decide), if_neg (by decide), if_neg (by decide), if_pos rfl], b, c⟩) (fun a ρ' w' T v r2 r3 hk => .inr ⟨rfl, by rw [← a]; exact by unfold bP; rw [if_neg (by decide), if_neg (by decide), if_neg (by decide), if_pos rfl], r2, ⟨T, v, r3⟩, hk⟩)
 by_cases hc1 : cmd = 1
 · subst hc1
   exact sW big w w1 hrb hG hNC hN hr hby hA hw4 hDg hnL hnS hD hRaw hrby hrl hscr hsz8 hof0 hof1 H1 h0 h4 h12 h13 h16 h17 h18 h19 h20 h21 hraw0 hraw4 (fun s' ρ' w' a b c => .inl ⟨rfl, s', by rw [← a]; exact by unfold bP; rw [if_neg (by decide), if_neg (by decide), if_neg (by decide), if_neg (by decide), if_pos rfl], b, c⟩) (fun a ρ' w' T v r2 r3 hk => .inr ⟨rfl, by rw [← a]; exact by unfold bP; rw [if_neg (by decide), if_neg (by decide), if_neg (by decide), if_neg (by decide), if_pos rfl], r2, ⟨T, v, r3⟩, hk⟩)
 by_cases hc25 : cmd = 25
 · subst hc25
   exact sV big w w1 hrb hG hNC hN hr hby hA hw4 hDg hnL hnS hD hRaw hrby hrl hscr hsz8 hof0 hof1 H1 h0 h4 h12 h13 h16 h17 h18 h19 h20 h21 hraw0 hraw4 (fun s' ρ' w' a b c => .inl ⟨rfl, s', by rw [← a]; exact by unfold bP; rw [if_neg (by decide), if_neg (by decide), if_neg (by decide), if_neg (by decide), if_neg (by decide), if_pos rfl], b, c⟩) (fun a ρ' w' T v r2 r3 hk => .inr ⟨rfl, by rw [← a]; exact by unfold bP; rw [if_neg (by decide), if_neg (by decide), if_neg (by decide), if_neg (by decide), if_neg (by decide), if_pos rfl], r2, ⟨T, v, r3⟩, hk⟩)
 exact sX big w w1 hrb hG hNC hN hr hby hA hw4 hDg hnL hnS hD hRaw hrby hrl hscr hsz8 hof0 hof1 H1 h0 h4 h12 h13 h16 h17 h18 h19 h20 h21 hc2147483676 hc12 hc2 hc11 hc1 hc25 (fun s' ρ' w' a b c => .inl ⟨rfl, s', by rw [← a]; exact by unfold bP; rw [if_neg hc2147483676, if_neg hc12, if_neg hc2, if_neg hc11, if_neg hc1, if_neg hc25], b, c⟩) (fun a ρ' w' T v r2 r3 hk => .inr ⟨rfl, by rw [← a]; exact by unfold bP; rw [if_neg hc2147483676, if_neg hc12, if_neg hc2, if_neg hc11, if_neg hc1, if_neg hc25], r2, ⟨T, v, r3⟩, hk⟩)
def fT (o cap l : Nat) : Nat := if cap = l then o else o + l
theorem r0 {P : Program} {ρ : cF} {w : World} {d : Option Tmp} {ty : TypeId} {pos : String} {af : Array Edge} {gd : Option (Nat × Bool)} {t e : Nat} {x lo : Operand} {g o len l : Nat} (ht : cg P t e 1) (hx : ev ρ x = .sl g o len len) (hl : nw ρ (some lo) 0 l) (h1 : l ≤ len) :
 Yv P ⟨d, .slice t x (some lo) none none, ty, pos, af, gd⟩ ρ w (.sl g (fT o len l) (len - l) (len - l)) w := by
 have := dH (P := P) (w := w) (d := d) (ty := ty) (pos := pos) (af := af) (gd := gd) ht hx hl (bh _ _) h1 (Nat.le_refl _)
 unfold cR at this
 unfold fT
 split at this
 · rename_i h; rw [if_pos h]; exact this
 · rename_i h; rw [if_neg h]; simpa [bY] using this
theorem RI.drop_o {k : IntKind} {w : World} {g o n : Nat} {xs : List Int} (h : RI k w (some ⟨g, o, none⟩) n xs) (l : Nat) : RI k w (some ⟨g, fT o n l, none⟩) (n - l) (xs.drop l) := by
 unfold fT
 split
 · rename_i e; subst e; exact ⟨by rw [List.length_drop, h.1], fun h0 => absurd h0 (by omega)⟩
 · exact h.drop_ l
theorem sZ {big : Bool} {l : List Int} {m : Nat} (h : 4 ≤ m) : n4 big (l.take m) = n4 big l := bK (m := m) (k := 0) (by omega)
theorem ur {big : Bool} {l : List Int} {m : Nat} (h : 8 ≤ m) : n4 big ((l.take m).drop 4) = n4 big (l.drop 4) := bK (by omega)
theorem s5 {rb N C : Nat} {A : Option Addr} {i0 p0 : Int} {xs : List Int} {a0 a1 : Addr} (w : World) (hrb : (aq rb [.slice A N C, .i64 i0, .i64 p0] 190).φ w) (hG : Glob 224 w a0 a1) (hNC : N ≤ C) (hN : N < 10485760) (hr : RI .u8 w A N xs) (hby : Byt xs) (hA : ∀ a, A = some a → a.block < w.heap.size) (hw4 : 4 ≤ w.heap.size) :
 Calls Tryd.prog 41 #[.iface 109 (.pt rb)] w fun e w' => (∃ (I : MF) (fb : Nat), fU xs = some I ∧ e = .returned (.tuple #[.pt fb, .nilIface]) ∧ MFile w' rb fb I ∧ Keep w aW w') ∨ (fU xs = none ∧ (∃ T v, e = .returned (.tuple #[.np, .iface T v])) ∧ Keep w aW w') := by
 refine a5 (args := [.iface 109 (.pt rb)]) Tryd.func41 rfl rfl rfl ?_
 have H0 := St.nil w aW
 refine sr (av (.np) rfl (av (.nilIface) rfl (wn (sr (wm rfl (aK H0 tG (fun g1 w2 hgg1 H3 =>  ap g1 0 rfl (wn (sr (mv (.iface 109 (.pt rb)) rfl (wE [.iface 109 (.pt rb), .i64 0, .i64 9223372036854775807] sE rfl rfl ?_)))))))))))
 refine aa (ud (off := 0) (nn := 9223372036854775807) _ (by decide) (by decide) (by decide) (by decide)) ?_
 rintro e w5 ⟨sb, rfl, hsbg, HS4⟩
 have H6 := H3.cal0 HS4
 refine ⟨_, rfl, ?_⟩
 refine ap sb 0 rfl (wn (sr (wm rfl (aK H6 tD (fun g7 w8 hgg7 H9 =>  wn (ad (ad ?_)))))))
 by_cases hN4 : 4 ≤ N
 ·
  obtain ⟨ys, hys⟩ : ∃ q, q = xs.take 4 := ⟨_, rfl⟩
  have hbys : Byt ys := by rw [hys]; exact hby.take _
  have hlys : ys.length = 4 := by rw [hys, List.length_take, hr.1]; omega
  have H10 := H9.drew
  refine aO MX (fun w' => True) (tr 0 5 (Pl.run 5 (tr 6 5 Pl.done))) (by kernel_rfl) (trivial) (qm (.iface 109 (.pt rb)) rfl rfl (qt rfl (fun _ hS => (bu (o := 0) (l := 0) (h := 4) oB rfl (bg (i := 0) rfl (by omega) rfl) (bh _ _) (by omega) (by omega) : Yv _ _ _ _ (.sl g7 0 4 4) _)) (qy rfl (n7 (vs := [.iface 109 (.pt rb)]) rfl rfl) (qy rfl (bd rfl (d8 _ _)) (qm (.iface 109 (.pt rb)) rfl rfl (qr rfl (ei (args := [.sl g7 0 4 4, .i64 0]) rfl (bD _ _) iY rfl ?_)))))))
  have hge := H10.ge (i := 0) rfl
  have hrbl := aA hrb
  refine aa (gD (off := 0) (q := 4) _ (b7 hrb H10.keep) (hG.keep H10.keep fun k hk => hk.elim) (by omega) (H10.g 0 rfl) (by omega) (by omega) (hr.keep0 H10.keep) (fun a ha => by have := hA a ha; omega) hNC (ob := 0) (m := 4) (Nat.le_refl _) (by omega) (by omega) (by simp only [Nat.min_def]; split <;> omega)) ?_
  rintro e w12 ⟨rfl, HS11⟩
  rw [show ([.u8 0, .u8 0, .u8 0, .u8 0] : List Value).take 0 ++ nums .u8 ((xs.drop 0).take 4) ++ ([.u8 0, .u8 0, .u8 0, .u8 0] : List Value).drop (0 + 4) = nums .u8 ys by rw [hys]; simp] at HS11
  have H13 := H10.kx 0 rfl HS11 (fun _ h => h)
  refine ⟨_, rfl, ?_⟩
  refine ⟨trivial, fun _ => trivial, ?_⟩
  refine qm (.tuple #[.i64 (↑4), .nilIface]) rfl rfl (qy rfl (a7 (v := .i64 (↑4)) rfl rfl) (qy rfl (a7 (v := .nilIface) rfl rfl) (qa (.i64 (↑4)) rfl rfl (qa (.nilIface) rfl rfl (pn (sr (mv (.nilIface) rfl (wv rfl ((nn false bq rfl (.inl rfl))) (wn (aj rfl (wk ?_)))))))))))
  refine sr (wv rfl ((bu (o := 0) (l := 0) (h := 4) oB rfl (bg (i := 0) rfl (by omega) rfl) (bh _ _) (by omega) (by omega) : Yv _ _ _ _ (.sl g7 0 4 4) _)) (wE [.u8 1, .sl g7 0 4 4] b9 rfl rfl (aa (aG true _ (ak (H13.g 0 rfl) hlys) hbys (Nat.le_refl 4) (Nat.le_refl 4)) ?_)))
  rintro e w15 ⟨rfl, HS14⟩
  have H16 := H13.cal0 HS14
  refine ⟨_, rfl, ?_⟩
  refine av (.u32 (n4 true ys)) rfl (wn (sr (wv rfl ((bu (o := 0) (l := 0) (h := 4) oB rfl (bg (i := 0) rfl (by omega) rfl) (bh _ _) (by omega) (by omega) : Yv _ _ _ _ (.sl g7 0 4 4) _)) (wE [.u8 0, .sl g7 0 4 4] b9 rfl rfl (aa (aG false _ (ak (H16.g 0 rfl) hlys) hbys (Nat.le_refl 4) (Nat.le_refl 4)) ?_)))))
  rintro e w18 ⟨rfl, HS17⟩
  have H19 := H16.cal0 HS17
  refine ⟨_, rfl, ?_⟩
  refine av (.u32 (n4 false ys)) rfl (wn ?_)
  refine fm (fun ρ w' => ∃ (big : Bool) (fb sb : Nat) (v0 : Value), 4 ≤ N ∧ jf xs = some big ∧ ρ 0 = .iface 109 (.pt rb) ∧ ρ 4 = .pt fb ∧ ρ 5 = .pt sb ∧ St w aW [aq fb [v0, .u32 0, .u32 0, .u32 0, .u32 0, .u32 0, .u32 0, .u8 (bo big), .ns, .ns, .np, .np] 121, aq sb [.iface 109 (.pt rb), .i64 0, .i64 0, .i64 (9223372036854775807 + 0), .i64 9223372036854775807] 195] w') ?_ ?_
  ·
   refine aC (ad ?_)
   have m1 := aR true hbys
   have m2 := aR false hbys
   have y1 : n4 true ys = n4 true xs := by rw [hys, uq]
   have y2 : n4 false ys = n4 false xs := by rw [hys, uq]
   by_cases hm1 : n4 true ys / 2 = 2138504551
   ·
    refine ae (mv (.u32 (n4 true ys)) rfl (wv rfl (dY (k := .u32) (c := n4 true ys / 2 * 2) rfl rfl (fL (aR true hbys).1 (aR true hbys).2)) (wv rfl (aL rfl rfl (beq_iff_eq.2 (by omega))) (av (.bool true) rfl (wn (ay rfl (sr (mp g1 0 rfl (wc rfl (wf fF rfl (ws ?_)))))))))))
    refine es H19 2 7 (.u8 1) rfl iq (fun w21 H20 =>  ?_)
    refine wn (ae (mp g1 0 rfl (mv (.u32 (n4 true ys)) rfl (wc rfl (wf cK rfl (wf fG rfl (ws (es H20 2 0 (.u32 (n4 true ys)) rfl ar (fun w23 H22 =>  ?_)))))))))
    refine bl (ao (ac ?_))
    exact ⟨true, g1, sb, _, hN4, by unfold jf; rw [if_pos (by rw [← y1]; exact hm1)], rfl, rfl, rfl, H22.re [2, 1]⟩
   ·
    by_cases hm2 : n4 false ys / 2 = 2138504551
    ·
     refine ae (mv (.u32 (n4 true ys)) rfl (wv rfl (dY (k := .u32) (c := n4 true ys / 2 * 2) rfl rfl (fL (aR true hbys).1 (aR true hbys).2)) (wv rfl (aL rfl rfl (beq_eq_false_iff_ne.2 (by omega))) (av (.bool false) rfl (wn (aj rfl (sr (mv (.u32 (n4 false ys)) rfl (wv rfl (dY (k := .u32) (c := n4 false ys / 2 * 2) rfl rfl (fL (aR false hbys).1 (aR false hbys).2)) (wv rfl (aL rfl rfl (beq_iff_eq.2 (by omega))) (av (.bool true) rfl ?_)))))))))))
     refine wn (ay rfl (sr (mp g1 0 rfl (wc rfl (wf fF rfl (ws (es H19 2 7 (.u8 0) rfl iq (fun w25 H24 =>  ?_))))))))
     refine wn (ae (mp g1 0 rfl (mv (.u32 (n4 false ys)) rfl (wc rfl (wf cK rfl (wf fG rfl (ws (es H24 2 0 (.u32 (n4 false ys)) rfl ar (fun w27 H26 =>  ?_)))))))))
     refine bl (ao (ac ?_))
     exact ⟨false, g1, sb, _, hN4, by unfold jf; rw [if_neg (by rw [← y1]; exact hm1), if_pos (by rw [← y2]; exact hm2)], rfl, rfl, rfl, H26.re [2, 1]⟩
    ·
     refine ae (mv (.u32 (n4 true ys)) rfl (wv rfl (dY (k := .u32) (c := n4 true ys / 2 * 2) rfl rfl (fL (aR true hbys).1 (aR true hbys).2)) (wv rfl (aL rfl rfl (beq_eq_false_iff_ne.2 (by omega))) (av (.bool false) rfl (wn (aj rfl (sr (mv (.u32 (n4 false ys)) rfl (wv rfl (dY (k := .u32) (c := n4 false ys / 2 * 2) rfl rfl (fL (aR false hbys).1 (aR false hbys).2)) (wv rfl (aL rfl rfl (beq_eq_false_iff_ne.2 (by omega))) (av (.bool false) rfl ?_)))))))))))
     refine wn (aj rfl (sr (wv rfl (yz [.i64 0, .string (⟨#[105, 110, 118, 97, 108, 105, 100, 32, 109, 97, 103, 105, 99, 32, 110, 117, 109, 98, 101, 114]⟩), .nilIface] rfl (by kernel_rfl)) (wm rfl (ee H19 (vs := [.i64 0, .string _, .nilIface]) rfl rfl (fun g28 w29 hgg28 H30 =>  wv rfl (aF (v := .pt g28) gR rfl) (av (.np) rfl (av (.iface 154 (.pt g28)) rfl (wn (aQ (aB ?_)))))))))))
     refine ax ?_
     exact ⟨.inr rfl, _, r2 (.np) (.iface 154 (.pt g28)) rfl _ _, .inr ⟨pG (by unfold jf; rw [if_neg (by rw [← y1]; exact hm1), if_neg (by rw [← y2]; exact hm2)]), ⟨_, _, rfl⟩, H30.keep⟩⟩
  ·
   rintro ρ2 w2 ⟨big, fb, sb, v0, hN4, hmag, g0, g4, g5, H2⟩
   refine ad (ad ?_)
   by_cases hN28 : 28 ≤ N
   ·
    obtain ⟨ys, hys⟩ : ∃ q, q = (xs.drop 0).take 28 := ⟨_, rfl⟩
    obtain ⟨h, hh⟩ : ∃ h : Nat → Int, h = fun k => n4 big (xs.drop (4 * k)) := ⟨_, rfl⟩
    have hhb : ∀ k, 0 ≤ h k ∧ h k < 4294967296 := fun k => by rw [hh]; exact aR big (hby.drop _)
    have f0 : n4 big (ys.drop 0) = h 0 := by rw [hys, bK (by omega), hh]; rfl
    have f1 : n4 big (ys.drop 4) = h 1 := by rw [hys, bK (by omega), hh]; rfl
    have f2 : n4 big (ys.drop 8) = h 2 := by rw [hys, bK (by omega), hh]; rfl
    have f3 : n4 big (ys.drop 12) = h 3 := by rw [hys, bK (by omega), hh]; rfl
    have f4 : n4 big (ys.drop 16) = h 4 := by rw [hys, bK (by omega), hh]; rfl
    have f5 : n4 big (ys.drop 20) = h 5 := by rw [hys, bK (by omega), hh]; rfl
    have f6 : n4 big (ys.drop 24) = h 6 := by rw [hys, bK (by omega), hh]; rfl
    have H31 := H2.drew
    refine aO MX (fun w' => w'.cell? ⟨fb, 7, none⟩ = some (.u8 (bo big))) (tr 0 9 (Pl.run 9 (Pl.take 10 Pl.done))) (by kernel_rfl) (H31.c 0 7 rfl rfl) (qm (.pt fb) rfl g4 (qy rfl (ag rfl) (qy rfl (ab (o := 0) cK rfl) (qm (.pt sb) rfl g5 (qy rfl (aF (v := .pt sb) jF rfl) (qm (.pt fb) rfl g4 (qy rfl (ag rfl) (qy rfl (ab (o := 0) fF rfl) (qh rfl (fun hS => ah iq rfl hS) (qr rfl (ec CK49 (args := [.pt fb, .iface 133 (.pt sb), .u8 (bo big)]) rfl ?_)))))))))))
    have hge1 := H31.ge (i := 0) rfl
    have hge2 := H31.ge (i := 1) rfl
    have hrbl := aA hrb
    have hws := H31.keep.size
    have hfs := H31.blk_ne (i := 0) (j := 1) rfl rfl (by decide)
    refine aa (ju (ys := ys) (so := 0) big _ (H31.g 0 rfl) (H31.g 1 rfl) (b7 hrb H31.keep) (by omega) (by omega) (by omega) (by omega) (by omega) (hG.keep H31.keep fun k hk => hk.elim) hNC (by omega) (hr.keep0 H31.keep) hby (fun a ha => by have := hA a ha; omega) (by omega) (by omega) (by omega) (by omega) (by omega) hys) ?_
    rintro e w33 ⟨rfl, HS32⟩
    rw [f0, f1, f2, f3, f4, f5, f6] at HS32
    have H34 := H31.ky 0 0 rfl rfl HS32 (fun _ h => h)
    refine ⟨_, rfl, ?_⟩
    refine ⟨H34.c 0 7 rfl rfl, fun _ => trivial, ?_⟩
    refine qa (.nilIface) rfl rfl (pn (sr (mv (.nilIface) rfl (wv rfl ((nn false bq rfl (.inl rfl))) (wn (aj rfl (wk (sr (ai 28 rfl (wn ?_))))))))))
    refine fm (fun ρ w' => ∃ of : Nat, (of = if ey (n4 big (xs.drop 0)) then 32 else 28) ∧ ρ 0 = .iface 109 (.pt rb) ∧ ρ 4 = .pt fb ∧ ρ 12 = .i64 ↑of ∧ St w aW [aq fb [.u32 (h 0), .u32 (h 1), .u32 (h 2), .u32 (h 3), .u32 (h 4), .u32 (h 5), .u32 (h 6), .u8 (bo big), .ns, .ns, .np, .np] 121] w') ?_ ?_
    ·
     refine sr (mg g4 rfl (wc rfl (wf cK rfl (wf fG rfl (wv rfl (H34.ld 0 rfl ar rfl (.u32 (h 0)) rfl) (wv rfl (fW rfl rfl) (wn ?_)))))))
     refine cf rfl (fun hb35 => ?_) (fun hb35 => ?_)
     ·
      simp only [bx] at hb35
      have hw0 : ey (n4 big (xs.drop 0)) = true := by have e : n4 big (xs.drop 0) = h 0 := by { rw [hh] }; rw [e]; unfold ey; simpa using hb35
      refine ae (ai 32 rfl (wn ?_))
      exact ⟨32, by rw [hw0]; rfl, g0, g4, rfl, H34.re [0]⟩
     ·
      simp only [bx] at hb35
      have hw0 : ey (n4 big (xs.drop 0)) = false := by have e : n4 big (xs.drop 0) = h 0 := by { rw [hh] }; rw [e]; unfold ey; simpa using hb35
      refine wk ?_
      exact ⟨28, by rw [hw0]; rfl, g0, g4, rfl, H34.re [0]⟩
    ·
     rintro ρ4 w4 ⟨of, hof, g0, g4, g12, H4⟩
     have hof3 : of ≤ 32 := by rw [hof]; split <;> omega
     obtain ⟨q4, hq4⟩ : ∃ q : Nat, (q : Int) = h 4 := ⟨(h 4).toNat, Int.toNat_of_nonneg (hhb 4).1⟩
     have hlt4 := (hhb 4).2
     have hq4n : (n4 big (xs.drop 16)).toNat = q4 := by have e : n4 big (xs.drop 16) = h 4 := by { rw [hh] }; omega
     obtain ⟨q5, hq5⟩ : ∃ q : Nat, (q : Int) = h 5 := ⟨(h 5).toNat, Int.toNat_of_nonneg (hhb 5).1⟩
     have hlt5 := (hhb 5).2
     have hq5n : (n4 big (xs.drop 20)).toNat = q5 := by have e : n4 big (xs.drop 20) = h 5 := by { rw [hh] }; omega
     refine ad ?_
     by_cases hf5 : q5 = 0 ∨ of + q5 ≤ N
     ·
      obtain ⟨ds0, hds0⟩ : ∃ q, q = (xs.drop of).take q5 := ⟨_, rfl⟩
      have ha5 : gG xs of q5 = some ds0 := by rw [hds0]; exact bT (by rw [hr.1]; exact hf5)
      refine ae (mg g0 rfl (mg g4 rfl (wc rfl (wf cK rfl (wf kW rfl (wv rfl (H4.ld 0 rfl ar rfl (.u32 (h 5)) rfl) (wv rfl (an (c := ↑q5) bm be rfl (by rw [hq5]; exact a6 (hhb 5).1 (by have := (hhb 5).2; omega))) (mg g12 rfl (wE [.iface 109 (.pt rb), .u64 (↑q5), .i64 (↑of)] iZ rfl rfl (aa (ir (n := q5) (off := of) _ (b7 hrb H4.keep) (hG.keep H4.keep fun k hk => hk.elim) hNC hN (hr.keep0 H4.keep) (fun a ha => Nat.lt_of_lt_of_le (hA a ha) H4.keep.size) (Nat.le_trans hw4 H4.keep.size) (by omega) hf5) ?_))))))))))
      rintro e w37 ⟨gd, rfl, hgd, HS36⟩
      rw [← hds0] at HS36
      have H38 := H4.cal0 HS36
      refine ⟨_, rfl, ?_⟩
      refine mv (.tuple #[.sl gd 0 q5 q5, .nilIface]) rfl (we (.sl gd 0 q5 q5) rfl rfl (we (.nilIface) rfl rfl (eh gd 0 q5 q5 rfl (av (.nilIface) rfl (wn (ad (sr (mv (.nilIface) rfl (wv rfl ((nn false bq rfl (.inl rfl))) (wn (aj rfl ?_)))))))))))
      refine wk (sr (mg g4 rfl (wc rfl (wf cK rfl (wf kX rfl (wv rfl (H38.ld 1 rfl ar rfl (.u32 (h 4)) rfl) (wv rfl (an (c := ↑q4) bm be rfl (by rw [hq4]; exact a6 (hhb 4).1 (by have := (hhb 4).2; omega))) (wE [.u64 16, .u64 (↑q4)] wR rfl rfl (aa (nJ _ (by omega)) ?_)))))))))
      rintro e w40 ⟨kk, rfl, hkk, HS39⟩
      have H41 := H38.cal0 HS39
      refine ⟨_, rfl, ?_⟩
      refine ai (↑kk) rfl (wn (ad (sr (mi (↑kk) rfl (wv rfl (aZ rfl rfl (decide_eq_false (by omega))) (wn (aj rfl (wk (sr (mg g4 rfl (mi (↑kk) rfl ?_)))))))))))
      refine wm rfl (bt H41 (n := 0) (m := kk) j8 jG rfl rfl rfl rfl rfl (by omega) (by omega) (by omega) (fun g42 w43 hgg42 H44 =>  wc rfl (wf cT rfl (ws (es H44 2 8 (.sl g42 0 0 kk) rfl dG (fun w46 H45 =>  ?_))))))
      refine wn (sr (mg g4 rfl (wc rfl (wf fF rfl (wv rfl (H45.ld 2 rfl iq rfl (.u8 (bo big)) rfl) (av (.u8 (bo big)) rfl (wn (ad (sr (av (.u32 0) rfl (wn ?_)))))))))))
      refine aC ?_
      have Ha := H45.rowOf (i := 0) (cap := kk) (sz := 1) rfl (by rw [List.length_replicate, Nat.mul_one]) (by simp only [maxLen]; omega)
      have Hb : St w aW [aq fb [.u32 (h 0), .u32 (h 1), .u32 (h 2), .u32 (h 3), .u32 (h 4), .u32 (h 5), .u32 (h 6), .u8 (bo big), .sl g42 0 0 kk, .ns, .np, .np] 121, aH 123 1 (.sl g42 0 0 kk) 0 ([]), aH 125 1 (.ns) 0 (bM []), Res.all [aq gd (nums .u8 ds0) 5]] w46 := ((Ha.addRow 125 1).reAll [2] [3, 1, 0]).re [1, 2, 3, 0]
      have hl0 : ds0.length = q5 := by rw [hds0, List.length_take, List.length_drop, hr.1]; omega
      have hM0 : Mid w rb fb big h gd 0 q5 ds0 ⟨[], [], none, none⟩ w46 := ⟨Res.all [aq gd (nums .u8 ds0) 5], _, _, 0, _, 0, _, [], [], _, _, .inl rfl, by omega, by omega, ⟨fun w hd => ak (aV.1 hd (aq gd (nums .u8 ds0) 5) (by simp)) hl0, fun w _ => ⟨rfl, by simp⟩, fun w _ => ⟨rfl, by simp⟩, .inl ⟨rfl, rfl⟩, .inl ⟨rfl, rfl⟩⟩, Hb⟩
      have hh0 : n4 big (xs.drop 0) = h 0 := by rw [hh]
      refine bW (fun ρ w' => ∃ k : Nat, ∃ o : Nat, ∃ m : Nat, ∃ ds : List Int, ∃ s : PSt, Fr ρ rb fb gd o m big ↑k ∧ k ≤ q4 ∧ Byt ds ∧ ds.length = m ∧ eR (ey (h 0)) big xs q4 ds0 ⟨[], [], none, none⟩ = eR (ey (h 0)) big xs (q4 - k) ds s ∧ Mid w rb fb big h gd o m ds s w') (fun ρ _ => q4 + 1 - nv (ρ 17)) (⟨0, 0, q5, ds0, ⟨[], [], none, none⟩, ⟨g0, g4, ⟨_, g12, by omega, by omega⟩, rfl, rfl, rfl⟩, by omega, by rw [hds0]; exact (hby.drop _).take _, hl0, rfl, hM0⟩) ?_
      rintro ρ5 w5 ⟨k, o, m, ds, s, ⟨g0, g4, ⟨of5, g12, hof50, hof51⟩, g13, g16, g17⟩, hk, hdb, hdl, hrun, hmid0⟩
      rw [← hh0] at hrun
      obtain ⟨D, AL, AS, nL, cL, nS, cS, vs, gs, sy, dy, hDg, hnL, hnS, hD, H5⟩ := hmid0
      have H6 : St w aW [aq fb [.u32 (h 0), .u32 (h 1), .u32 (h 2), .u32 (h 3), .u32 (h 4), .u32 (h 5), .u32 (h 6), .u8 (bo big), .slice AL nL cL, .slice AS nS cS, sy, dy] 121, aH 123 1 (.slice AL nL cL) nL vs, aH 125 1 (.slice AS nS cS) nS (bM gs), D] w5 := H5
      refine ad (ad ?_)
      have hh4 := hhb 4
      refine ae (mg g17 rfl (mg g4 rfl (wc rfl (wf cK rfl (wf kX rfl (wv rfl (H6.ld 0 rfl ar rfl (.u32 (h 4)) rfl) (wv rfl (cx rfl rfl) (wn ?_))))))))
      refine cf rfl (fun hb47 => ?_) (fun hb47 => ?_)
      ·
       simp only [bx] at hb47
       refine wk (ad (aC (ad (sr (mg g13 rfl (wv rfl (ba co rfl) (wv rfl (cx rfl rfl) (wn ?_))))))))
       refine cf rfl (fun hb48 => ?_) (fun hb48 => ?_)
       ·
        simp only [bx] at hb48
        refine sr (mg g12 rfl (wv rfl (yz [.i64 of5, .string (⟨#[99, 111, 109, 109, 97, 110, 100, 32, 98, 108, 111, 99, 107, 32, 116, 111, 111, 32, 115, 109, 97, 108, 108]⟩), .nilIface] rfl (by kernel_rfl)) (wm rfl (ee H6 (vs := [.i64 of5, .string _, .nilIface]) rfl rfl (fun g49 w50 hgg49 H51 =>  wv rfl (aF (v := .pt g49) gR rfl) (av (.np) rfl (av (.iface 154 (.pt g49)) rfl (wn (rq (aB (ax ?_)))))))))))
        refine ax (aB (ax ?_))
        exact ⟨.inr rfl, _, r2 (.np) (.iface 154 (.pt g49)) rfl _ _, .inr ⟨dK hmag hof hq5n ha5 hq4n (by rw [hrun, show q4 - k = (q4 - (k + 1)) + 1 by omega]; exact pC (by omega)), ⟨_, _, rfl⟩, H51.keep⟩⟩
       ·
        simp only [bx] at hb48
        refine wk (ad ?_)
        obtain ⟨cmd, hcmd⟩ : ∃ c, c = n4 big ds := ⟨_, rfl⟩
        have hb4 := aR big (hdb.drop 4)
        obtain ⟨sz, hsz⟩ : ∃ q : Nat, (q : Int) = n4 big (ds.drop 4) := ⟨(n4 big (ds.drop 4)).toNat, Int.toNat_of_nonneg hb4.1⟩
        have hszn : (n4 big (ds.drop 4)).toNat = sz := by omega
        have H52 := H6.drew
        refine aO MX (fun w' => True) (tr 0 3 (tr 4 3 (Pl.run 3 (Pl.run 7 (Pl.take 8 (Pl.take 9 Pl.done)))))) (by kernel_rfl) (trivial) (qm (.u8 (bo big)) rfl g16 (qm (.sl gd o m m) rfl g13 (qt rfl (fun _ hS => (am (l := 0) (h := 4) aU rfl (bs rfl (by omega) rfl) (bs rfl (by omega) rfl) (by omega) (by omega) (by omega) (by omega) : Yv _ _ _ _ (.sl gd o 4 m) _)) (qm (.u8 (bo big)) rfl g16 (qm (.sl gd o m m) rfl g13 (qt rfl (fun _ hS => (am (l := 4) (h := 8) aU rfl (bs rfl (by omega) rfl) (bs rfl (by omega) rfl) (by omega) (by omega) (by omega) (by omega) : Yv _ _ _ _ (.sl gd (o + 4) 4 (m - 4)) _)) (qr rfl (ec b9 (args := [.u8 (bo big), .sl gd o 4 m]) rfl (aa (by have h := aG big _ ((hD.dat _ (H52.g 3 rfl)).take (m := 4) (by omega)) (hdb.take 4) (Nat.le_refl 4) (c := m) (by omega); rw [uq, ← hcmd] at h; exact h) ?_)))))))))
        rintro e w54 ⟨rfl, HS53⟩
        have H55 := H52.cal0 HS53
        refine ⟨_, rfl, ?_⟩
        refine ⟨trivial, fun _ => trivial, ?_⟩
        refine qr rfl (ec b9 (args := [.u8 (bo big), .sl gd (o + 4) 4 (m - 4)]) rfl (aa (by have h := aG big _ (((hD.dat _ (H55.g 3 rfl)).drop_ 4).take (m := 4) (by omega)) ((hdb.drop 4).take 4) (Nat.le_refl 4) (c := m - 4) (by omega); rw [uq, ← hsz] at h; exact h) ?_))
        rintro e w57 ⟨rfl, HS56⟩
        have H58 := H55.cal0 HS56
        refine ⟨_, rfl, ?_⟩
        refine ⟨trivial, fun _ => trivial, ?_⟩
        refine qa (.u32 cmd) rfl rfl (qa (.u32 (↑sz)) rfl rfl (pn (ad (sr (mv (.u32 (↑sz)) rfl (wv rfl (cx rfl rfl) (mv (.bool (decide ((↑sz : Int) < 8))) rfl ?_)))))))
        generalize hb59 : (decide ((↑sz : Int) < 8)) = bb
        cases bb
        ·
         simp only [bx] at hb59
         refine aP rfl rfl (al (v := .u32 (↑sz)) rfl) (aP rfl rfl (al (v := .sl gd o m m) g13) (aP rfl rfl (ba co rfl) (aP rfl rfl (an eL iV rfl (d6 (by omega) (by omega))) (aP rfl rfl (gP rfl rfl) (wv rfl (aD (b := false) (v := .bool (decide ((↑m : Int) < ↑sz))) rfl rfl) (wn ?_))))))
         refine cf rfl (fun hb60 => ?_) (fun hb60 => ?_)
         ·
          simp only [bx] at hb60
          refine sr (mg g12 rfl (wv rfl (yz [.i64 of5, .string (⟨#[105, 110, 118, 97, 108, 105, 100, 32, 99, 111, 109, 109, 97, 110, 100, 32, 98, 108, 111, 99, 107, 32, 115, 105, 122, 101]⟩), .nilIface] rfl (by kernel_rfl)) (wm rfl (ee H58 (vs := [.i64 of5, .string _, .nilIface]) rfl rfl (fun g61 w62 hgg61 H63 =>  wv rfl (aF (v := .pt g61) gR rfl) (av (.np) rfl (av (.iface 154 (.pt g61)) rfl (wn (rq (aB (ax ?_)))))))))))
          refine ax (aB (ax ?_))
          exact ⟨.inr rfl, _, r2 (.np) (.iface 154 (.pt g61)) rfl _ _, .inr ⟨dK hmag hof hq5n ha5 hq4n (by rw [hrun, show q4 - k = (q4 - (k + 1)) + 1 by omega]; exact mD hszn (by omega)), ⟨_, _, rfl⟩, H63.keep⟩⟩
         ·
          simp only [bx] at hb60
          refine wk (sr (av (.ns) rfl (wn (ad ?_))))
          have H64 := H58.drew
          refine aO MX (fun w' => True) (tr 0 8 Pl.done) (by kernel_rfl) (trivial) (qm (.sl gd o m m) rfl g13 (qm (.u32 (↑sz)) rfl rfl (qt rfl (fun _ hS => (am (l := 0) (h := sz) aU rfl (bs rfl (by omega) rfl) (bs rfl (by omega) (Int.toNat_natCast _)) (by omega) (by omega) (by omega) (by omega) : Yv _ _ _ _ (.sl gd o sz m) _)) (qm (.sl gd o m m) rfl g13 (qm (.u32 (↑sz)) rfl rfl (qy rfl (r0 aU rfl (bg (i := ↑sz) rfl (by omega) (Int.toNat_natCast _)) (by omega)) (qa (.sl gd o sz m) rfl rfl (qa (.sl gd (fT o m sz) (m - sz) (m - sz)) rfl rfl (pn (sr (mg g12 rfl ?_)))))))))))
          refine mv (.u32 (↑sz)) rfl (wv rfl (an bm f9 rfl (aE (by omega) (by omega))) (wv rfl (aT (k := .i64) (c := of5 + ↑sz) rfl rfl (aE (by omega) (by omega))) (ai (of5 + ↑sz) rfl (wn (sr (av (.np) rfl (wn ?_)))))))
          have Hc : St w aW (sY fb big h AL AS nL cL nS cS vs gs sy dy D) w57.drew := H64.re [0, 1, 2, 3]
          have hD2 : NFD D.φ rb s gd (fT o m sz) (m - sz) (ds.drop sz) vs gs sy dy := ⟨fun w h => (hD.dat w h).drop_o sz, hD.ld, hD.sc, hD.sy, hD.dy⟩
          have hRaw : ∀ w, D.φ w → RI .u8 w (some ⟨gd, o, none⟩) sz (ds.take sz) := fun w h => (hD.dat w h).take (by omega)
          refine tu (vQ (cr := m) big w _ hrb hG hNC hN hr hby hA hw4 hDg (by omega) (by omega) hD2 hRaw (hdb.take _) (by rw [List.length_take]; omega) (by omega) (by omega) (show (0 : Int) ≤ of5 + ↑sz by omega) (show of5 + ↑sz + ↑(m - sz) ≤ 10485800 by omega) Hc g0 g4 rfl rfl g16 g17 rfl rfl rfl rfl (by rw [sZ (by omega)]; exact hcmd.symm) (by rw [ur (by omega)]; exact hsz.symm)) ?_
          rintro e ρ3 w3 (⟨rfl, s3, hst, ⟨k0, k4, ⟨of3, k12, hof30, hof31⟩, k13, k16, k17⟩, hmid⟩ | ⟨rfl, hst, k2, ⟨T, v, k3⟩, hkp⟩)
          ·
           rw [← hh0, hcmd] at hst
           refine ao (ac (ae (mg k17 rfl (wv rfl (aT (k := .u32) (c := ↑k + 1) rfl rfl (d6 (by omega) (by omega))) (av (.u32 (↑k + 1)) rfl (wn ?_))))))
           exact ⟨⟨k + 1, fT o m sz, m - sz, ds.drop sz, s3, ⟨k0, k4, ⟨of3, k12, hof30, hof31⟩, k13, k16, rfl⟩, by omega, hdb.drop _, by rw [List.length_drop]; omega, by rw [← hh0, hrun, show q4 - k = (q4 - (k + 1)) + 1 by omega]; exact iL (by omega) hszn (by omega) hst, hmid⟩, by show q4 + 1 - nv (.u32 (↑k + 1)) < q4 + 1 - nv (ρ5 17); rw [g17]; simp only [nv]; omega⟩
          ·
           rw [← hh0, hcmd] at hst
           refine aB (ax (ax (aB (ax ?_))))
           exact ⟨.inr rfl, _, res2 rfl (v := .np) (v' := .iface T v) (by exact k2) (by exact k3) _ _, .inr ⟨dK hmag hof hq5n ha5 hq4n (by rw [hrun, show q4 - k = (q4 - (k + 1)) + 1 by omega]; exact mC hszn hst), ⟨_, _, rfl⟩, hkp⟩⟩
        ·
         simp only [bx] at hb59
         refine cM rfl rfl (cM rfl rfl (cM rfl rfl (cM rfl rfl (cM rfl rfl (wv rfl (aD (b := true) (v := .bool true) rfl rfl) (wn (ay rfl (sr (mg g12 rfl (wv rfl (yz [.i64 of5, .string (⟨#[105, 110, 118, 97, 108, 105, 100, 32, 99, 111, 109, 109, 97, 110, 100, 32, 98, 108, 111, 99, 107, 32, 115, 105, 122, 101]⟩), .nilIface] rfl (by kernel_rfl)) (wm rfl ?_)))))))))))
         refine ee H58 (vs := [.i64 of5, .string _, .nilIface]) rfl rfl (fun g65 w66 hgg65 H67 =>  wv rfl (aF (v := .pt g65) gR rfl) (av (.np) rfl (av (.iface 154 (.pt g65)) rfl (wn (rq (aB (ax (ax (aB (ax ?_))))))))))
         exact ⟨.inr rfl, _, r2 (.np) (.iface 154 (.pt g65)) rfl _ _, .inr ⟨dK hmag hof hq5n ha5 hq4n (by rw [hrun, show q4 - k = (q4 - (k + 1)) + 1 by omega]; exact mD hszn (by omega)), ⟨_, _, rfl⟩, H67.keep⟩⟩
      ·
       simp only [bx] at hb47
       refine bF (a8 (a8 (aY (ac (ad ?_)))))
       have hkq : k = q4 := by omega
       have hI := pE (by rw [hr.1]; omega) hmag hof hq5n ha5 hq4n (s := s) (by rw [hrun, show q4 - k = 0 by omega]; rfl)
       refine ae (mg g4 rfl (ap fb 0 rfl (av (.nilIface) rfl (wn (aQ ?_)))))
       exact ⟨.inr rfl, _, r2 (.pt fb) (.nilIface) rfl _ _, .inl ⟨_, fb, hI, rfl, by rw [← hh]; exact ue (gd := gd) (o := o) (m := m) (ds := ds) ⟨D, AL, AS, nL, cL, nS, cS, vs, gs, sy, dy, hDg, hnL, hnS, hD, H6⟩ (fun i => by have := hhb i; omega), H6.keep⟩⟩
     ·
      refine ae (mg g0 rfl (mg g4 rfl (wc rfl (wf cK rfl (wf kW rfl (wv rfl (H4.ld 0 rfl ar rfl (.u32 (h 5)) rfl) (wv rfl (an (c := ↑q5) bm be rfl (by rw [hq5]; exact a6 (hhb 5).1 (by have := (hhb 5).2; omega))) (mg g12 rfl (wE [.iface 109 (.pt rb), .u64 (↑q5), .i64 (↑of)] iZ rfl rfl (aa (fS (n := q5) (off := of) _ (b7 hrb H4.keep) (hG.keep H4.keep fun k hk => hk.elim) hNC hN (hr.keep0 H4.keep) (fun a ha => Nat.lt_of_lt_of_le (hA a ha) H4.keep.size) (Nat.le_trans hw4 H4.keep.size) (by omega) (by omega) (by omega) (by omega)) ?_))))))))))
      rintro e w69 ⟨T, ev, rfl, HS68⟩
      have H70 := H4.cal0 HS68
      refine ⟨_, rfl, ?_⟩
      refine mv (.tuple #[.ns, .iface T ev]) rfl (we (.ns) rfl rfl (we (.iface T ev) rfl rfl (av (.ns) rfl (av (.iface T ev) rfl (wn (ad (sr (mv (.iface T ev) rfl (wv rfl ((nn true bq rfl (.inr ⟨_, _, rfl⟩))) (wn (ay rfl ?_)))))))))))
      refine sr (mv (.iface T ev) rfl (av (.np) rfl (av (.iface T ev) rfl (wn (rq ?_)))))
      exact ⟨.inr rfl, _, r2 (.np) (.iface T ev) rfl _ _, .inr ⟨pF hmag hof hq5n (dD (by rw [hr.1]; exact hf5)), ⟨_, _, rfl⟩, H70.keep⟩⟩
   ·
    have H71 := H2.drew
    refine aO MX (fun w' => w'.cell? ⟨fb, 7, none⟩ = some (.u8 (bo big))) (tr 0 9 (Pl.run 9 (Pl.take 10 Pl.done))) (by kernel_rfl) (H71.c 0 7 rfl rfl) (qm (.pt fb) rfl g4 (qy rfl (ag rfl) (qy rfl (ab (o := 0) cK rfl) (qm (.pt sb) rfl g5 (qy rfl (aF (v := .pt sb) jF rfl) (qm (.pt fb) rfl g4 (qy rfl (ag rfl) (qy rfl (ab (o := 0) fF rfl) (qh rfl (fun hS => ah iq rfl hS) (qr rfl (ec CK49 (args := [.pt fb, .iface 133 (.pt sb), .u8 (bo big)]) rfl ?_)))))))))))
    have hge1 := H71.ge (i := 0) rfl
    have hge2 := H71.ge (i := 1) rfl
    have hrbl := aA hrb
    have hws := H71.keep.size
    have hfs := H71.blk_ne (i := 0) (j := 1) rfl rfl (by decide)
    refine aa (iW (ys := []) (so := 0) big _ (H71.g 0 rfl) (H71.g 1 rfl) (b7 hrb H71.keep) (by omega) (by omega) (by omega) (by omega) (by omega) (hG.keep H71.keep fun k hk => hk.elim) hNC (by omega) (hr.keep0 H71.keep) hby (fun a ha => by have := hA a ha; omega) (by omega) (by omega) (by omega) (by omega) (by omega) (by omega)) ?_
    rintro e w73 ⟨T, ev, rfl, HS72⟩
    have H74 := H71.ky 0 0 rfl rfl HS72 (fun _ h => h)
    refine ⟨_, rfl, ?_⟩
    refine ⟨H74.c 0 7 rfl rfl, fun _ => trivial, ?_⟩
    refine qa (.iface T ev) rfl rfl (pn (sr (mv (.iface T ev) rfl (wv rfl ((nn true bq rfl (.inr ⟨_, _, rfl⟩))) (wn (ay rfl (sr (mv (.iface T ev) rfl (av (.np) rfl (av (.iface T ev) rfl (wn ?_)))))))))))
    refine rq ?_
    exact ⟨.inr rfl, _, r2 (.np) (.iface T ev) rfl _ _, .inr ⟨mH (by rw [hr.1]; omega), ⟨_, _, rfl⟩, H74.keep⟩⟩
 ·
  by_cases hN0 : N = 0
  ·
   have H75 := H9.drew
   refine aO MX (fun w' => True) (tr 0 5 (Pl.run 5 (tr 6 5 Pl.done))) (by kernel_rfl) (trivial) (qm (.iface 109 (.pt rb)) rfl rfl (qt rfl (fun _ hS => (bu (o := 0) (l := 0) (h := 4) oB rfl (bg (i := 0) rfl (by omega) rfl) (bh _ _) (by omega) (by omega) : Yv _ _ _ _ (.sl g7 0 4 4) _)) (qy rfl (n7 (vs := [.iface 109 (.pt rb)]) rfl rfl) (qy rfl (bd rfl (d8 _ _)) (qm (.iface 109 (.pt rb)) rfl rfl (qr rfl (ei (args := [.sl g7 0 4 4, .i64 0]) rfl (bD _ _) iY rfl ?_)))))))
   have hge := H75.ge (i := 0) rfl
   have hrbl := aA hrb
   refine aa (eY (off := 0) _ (b7 hrb H75.keep) (hG.keep H75.keep fun k hk => hk.elim) (by omega) (by omega) _) ?_
   rintro e w77 ⟨rfl, HS76⟩
   have H78 := H75.cal0 HS76
   refine ⟨_, rfl, ?_⟩
   refine ⟨trivial, fun _ => trivial, ?_⟩
   refine qm (.tuple #[.i64 0, .iface 224 (.pointer (some a1))]) rfl rfl (qy rfl (a7 (v := .i64 0) rfl rfl) (qy rfl (a7 (v := .iface 224 (.pointer (some a1))) rfl rfl) (qa (.i64 0) rfl rfl (qa (.iface 224 (.pointer (some a1))) rfl rfl (pn (sr (mv (.iface 224 (.pointer (some a1))) rfl (wv rfl ((nn true bq rfl (.inr ⟨_, _, rfl⟩))) (wn (ay rfl (sr ?_)))))))))))
   refine mv (.iface 224 (.pointer (some a1))) rfl (av (.np) rfl (av (.iface 224 (.pointer (some a1))) rfl (wn (rq ?_))))
   exact ⟨.inr rfl, _, r2 (.np) (.iface 224 (.pointer (some a1))) rfl _ _, .inr ⟨pH (by rw [hr.1]; omega), ⟨_, _, rfl⟩, H78.keep⟩⟩
  ·
   have H79 := H9.drew
   refine aO MX (fun w' => True) (tr 0 5 (Pl.run 5 (tr 6 5 Pl.done))) (by kernel_rfl) (trivial) (qm (.iface 109 (.pt rb)) rfl rfl (qt rfl (fun _ hS => (bu (o := 0) (l := 0) (h := 4) oB rfl (bg (i := 0) rfl (by omega) rfl) (bh _ _) (by omega) (by omega) : Yv _ _ _ _ (.sl g7 0 4 4) _)) (qy rfl (n7 (vs := [.iface 109 (.pt rb)]) rfl rfl) (qy rfl (bd rfl (d8 _ _)) (qm (.iface 109 (.pt rb)) rfl rfl (qr rfl (ei (args := [.sl g7 0 4 4, .i64 0]) rfl (bD _ _) iY rfl ?_)))))))
   have hge := H79.ge (i := 0) rfl
   have hrbl := aA hrb
   refine aa (dU (off := 0) (q := N) _ (b7 hrb H79.keep) (hG.keep H79.keep fun k hk => hk.elim) (by omega) (H79.g 0 rfl) (by omega) (by omega) (hr.keep0 H79.keep) (fun a ha => by have := hA a ha; omega) hNC (ob := 0) (m := 4) (Nat.le_refl _) (by omega) (by omega) (by simp only [Nat.min_def]; split <;> omega)) ?_
   rintro e w81 ⟨rfl, HS80⟩
   have H82 := H79.kx 0 rfl HS80 (fun _ h => h)
   refine ⟨_, rfl, ?_⟩
   refine ⟨trivial, fun _ => trivial, ?_⟩
   refine qm (.tuple #[.i64 (↑N), .iface 224 (.pointer (some a1))]) rfl rfl (qy rfl (a7 (v := .i64 (↑N)) rfl rfl) (qy rfl (a7 (v := .iface 224 (.pointer (some a1))) rfl rfl) (qa (.i64 (↑N)) rfl rfl (qa (.iface 224 (.pointer (some a1))) rfl rfl (pn (sr (mv (.iface 224 (.pointer (some a1))) rfl (wv rfl ((nn true bq rfl (.inr ⟨_, _, rfl⟩))) (wn (ay rfl (sr ?_)))))))))))
   refine mv (.iface 224 (.pointer (some a1))) rfl (av (.np) rfl (av (.iface 224 (.pointer (some a1))) rfl (wn (rq ?_))))
   exact ⟨.inr rfl, _, r2 (.np) (.iface 224 (.pointer (some a1))) rfl _ _, .inr ⟨pH (by rw [hr.1]; omega), ⟨_, _, rfl⟩, H82.keep⟩⟩
end Go.Proofs.YtlndedfkgiafhaaDoor
namespace Go.Proofs.YtlndedfkgiafhaaDoor
open Go Go.RowKit Go.Proofs
theorem CK41 : aX Tryd.prog 41 := aJ (by kernel_rfl)
theorem CK33 : aX Tryd.prog 33 := aJ (by kernel_rfl)
theorem CK35 : aX Tryd.prog 35 := aJ (by kernel_rfl)
theorem eD {w w' : World} (h : Keep w aW w') : St w aW [] w' := ⟨h, by simp, by simp, .nil⟩
def MF.small (I : MF) : Prop := I.loads.length ≤ 4294967295 ∧ I.secs.length ≤ 4294967295 ∧ (∀ s ∈ I.secs, s.rels.length ≤ 4294967295) ∧ I.syms.length ≤ 4294967295 ∧ I.ind.length ≤ 4294967295 ∧ ∀ l ∈ I.loads, l.nums.length ≤ 4294967295
theorem MFile.bound {w : World} {rb fb : Nat} {I : MF} (h : MFile w rb fb I) : I.small := by
 obtain ⟨AL, AS, nL, cL, nS, cS, vs, gs, sy, dy, hq, hfb, hL, hnL, hlL, hLs, hS, hnS, hlS, hSs, hsy, hdy⟩ := h
 have h1 := hL.1
 have h2 := hS.1
 rw [List.length_map] at h2
 refine ⟨by omega, by omega, fun s hs => ?_, ?_, ?_, fun l hl => ?_⟩
 · obtain ⟨i, hi, e⟩ := List.mem_iff_getElem.1 hs
   have hg : i < gs.length := by omega
   obtain ⟨_, A, n, c, sb, so, sn, lim, _, hr, hn, _⟩ := hSs i gs[i] s (List.getElem?_eq_getElem hg) (by rw [List.getElem?_eq_getElem hi, e])
   have := RV.len hr eg (by decide)
   omega
 · rcases hsy with ⟨_, e⟩ | ⟨gy, n, c, A, x0, x1, x2, x3, x4, x5, x6, _, _, hr, hn⟩
   · rw [e]; exact Nat.zero_le _
   · have := RV.len hr fR (by decide)
     omega
 · rcases hdy with ⟨_, e⟩ | ⟨gy, n, c, a, z, q, _, _, hr, hn⟩
   · rw [e]; exact Nat.zero_le _
   · have := hr.1
     omega
 · obtain ⟨i, hi, e⟩ := List.mem_iff_getElem.1 hl
   have hg : i < vs.length := by omega
   have hm := hLs i vs[i] l (List.getElem?_eq_getElem hg) (by rw [List.getElem?_eq_getElem hi, e])
   rcases hm with ⟨A, n, c, xs, _, _, _, rfl⟩ | ⟨A, n, c, xs, gl, nm, ra, sp, q, _, _, _, _, _, rfl⟩ | ⟨A, n, c, xs, gl, nm, q, _, _, _, _, _, rfl⟩ | ⟨A, n, c, xs, gl, nm, _, _, _, _, rfl⟩ | ⟨A, n, c, xs, gl, sy, _, _, _, _, rfl⟩ | ⟨A, n, c, xs, gl, iy, q, _, _, _, _, _, rfl⟩ <;> simp
theorem nY {N C : Nat} {A : Option Addr} {xs : List Int} {a0 a1 : Addr} (w : World) (hG : Glob 224 w a0 a1) (hNC : N ≤ C) (hN : N < 10485760) (hr : RI .u8 w A N xs) (hby : Byt xs) (hA : ∀ a, A = some a → a.block < w.heap.size) (hw4 : 4 ≤ w.heap.size) :
 Calls Tryd.prog 33 #[.slice A N C] w fun e w' => (∃ (I : MF) (fb rb : Nat), fU xs = some I ∧ e = .returned (.tuple #[.pt fb, .nilIface]) ∧ MFile w' rb fb I ∧ (aq rb [.slice A N C, .i64 0, .i64 (-1)] 190).φ w' ∧ Keep w aW w') ∨ (fU xs = none ∧ (∃ T v, e = .returned (.tuple #[.np, .iface T v])) ∧ Keep w aW w') := by
 refine a5 (args := [.slice A N C]) Tryd.func33 rfl rfl rfl ?_
 have H0 := St.nil w aW
 refine sr (av (.np) rfl (av (.nilIface) rfl (wn (sr (mv (.slice A N C) rfl (wE [.slice A N C] lN rfl rfl (aa (cH A N C _) ?_)))))))
 rintro e w2 ⟨rb, rfl, hgq, HS1⟩
 have H3 := H0.cal0 HS1
 refine ⟨_, rfl, ?_⟩
 refine wv rfl (aF (v := .pt rb) dW rfl) (wE [.iface 109 (.pt rb)] CK41 rfl rfl (aa (s5 _ (H3.g 0 rfl) (hG.keep H3.keep fun k hk => hk.elim) hNC hN (hr.keep0 H3.keep) hby (fun a ha => Nat.lt_of_lt_of_le (hA a ha) H3.keep.size) (Nat.le_trans hw4 H3.keep.size)) ?_))
 rintro e w4 (⟨I, fb, hI, rfl, hm, hk⟩ | ⟨hI, ⟨T, v, rfl⟩, hk⟩)
 ·
  have HS := eD hk
  have H5 := H3.cal0 HS
  refine ⟨_, rfl, ?_⟩
  refine we (.pt fb) rfl rfl (we (.nilIface) rfl rfl (ap fb 0 rfl (av (.nilIface) rfl (wn (aQ ?_)))))
  exact ⟨.inr rfl, _, r2 (.pt fb) (.nilIface) rfl _ _, .inl ⟨I, fb, rb, hI, rfl, hm, H5.g 0 rfl, H5.keep⟩⟩
 ·
  have HS := eD hk
  have H6 := H3.cal0 HS
  refine ⟨_, rfl, ?_⟩
  refine we (.np) rfl rfl (we (.iface T v) rfl rfl (av (.np) rfl (av (.iface T v) rfl (wn (aQ ?_)))))
  exact ⟨.inr rfl, _, r2 (.np) (.iface T v) rfl _ _, .inr ⟨hI, ⟨_, _, rfl⟩, H6.keep⟩⟩
theorem iG {N C : Nat} {A : Option Addr} {xs : List Int} {a0 a1 : Addr} (w : World) (hG : Glob 224 w a0 a1) (hNC : N ≤ C) (hN : N < 10485760) (hr : RI .u8 w A N xs) (hby : Byt xs) (hw4 : 4 ≤ w.heap.size) :
 Calls Tryd.prog 13 #[.slice A N C] w fun e w' => (∃ I : MF, fU xs = some I ∧ ∃ (c : List Value) (D : Res), e = .returned (.tuple #[.agg (List.toArray c), .bool true]) ∧ St w aW [D] w' ∧ I.small ∧ ∀ w, D.φ w → uf w c (I.told N xs)) ∨ (fU xs = none ∧ e = .returned (.tuple #[.agg (List.toArray [.ns, .bool false, .ns, .ns, .ns, .ns]), .bool false]) ∧ Keep w aW w') := by
 refine a5 (args := [.slice A N C]) Tryd.func13 rfl rfl rfl ?_
 have H0 := St.nil w aW
 refine sr (wm rfl (aK H0 ia (fun g1 w2 hgg1 H3 =>  av (.bool false) rfl (wn (sr (mv (.slice A N C) rfl (wE [.slice A N C] ke rfl rfl (aa (ef _ (hr.keep0 H3.keep) hr.none0 (by omega)) ?_))))))))
 rintro e w5 ⟨v, rfl, HS4⟩
 obtain ⟨A2, c2, rfl, hrv, hnc2⟩ := aw (HS4.g 0 rfl)
 have H6 := H3.cal0 HS4
 refine ⟨_, rfl, ?_⟩
 refine wE [.slice A2 N c2] CK33 rfl rfl ?_
 have hr2 : RI .u8 _ A2 N xs := ce (H6.g 0 rfl)
 have hA2 : ∀ a, A2 = some a → a.block < (w5).heap.size := fun a ha => (aH 5 1 (.slice A2 N c2) N (nums .u8 xs)).live _ _ (H6.g 0 rfl) (by rw [ha]; rfl)
 have hs2 := H6.keep.size
 refine aa (nY _ (hG.keep H6.keep fun k hk => hk.elim) hnc2 hN hr2 hby hA2 (by omega)) ?_
 rintro e w7 (⟨I, fb, rb, hI, rfl, hm, hrb, hk⟩ | ⟨hI, ⟨T, v, rfl⟩, hk⟩)
 ·
  have HS := eD hk
  have H8 := H6.cal0 HS
  refine ⟨_, rfl, ?_⟩
  refine mv (.tuple #[.pt fb, .nilIface]) rfl (we (.pt fb) rfl rfl (we (.nilIface) rfl rfl (ap fb 0 rfl (av (.nilIface) rfl (wn (ad (sr (mv (.nilIface) rfl (wv rfl ((nn false bq rfl (.inl rfl))) (wn (aj rfl ?_)))))))))))
  refine wk (sr (mp fb 0 rfl (wE [.pt fb] CK35 rfl rfl ?_)))
  have hks := hk.size
  refine aa (tb _ hm hrb (hG.keep H8.keep fun k hk => hk.elim) hnc2 hN (hr2.keep0 hk) (fun a ha => Nat.lt_of_lt_of_le (hA2 a ha) hk.size) (by omega)) ?_
  rintro e w9 ⟨c, D9, rfl, HS2, hf⟩
  obtain ⟨vh, vl, vp, vs, vi, lx, ps, rfl, ⟨_, _, _, e1, _⟩, ⟨_, _, _, e2, _⟩, _, _, ⟨_, _, _, e3, _⟩, _, _, ⟨_, _, _, e4, _⟩, ⟨_, _, _, e5, _⟩⟩ := hf _ (HS2.g 0 rfl)
  have H10 := H8.cal0 HS2
  refine ⟨_, rfl, ?_⟩
  refine ws (bE H10 2 (vs := [vh, .bool ((I.told N xs).big), vl, vp, vs, vi]) (m := 6) rfl l7 rfl rfl rfl (nl rfl) (by simp [Value.oneCell', e1, e2, e3, e4, e5]) (cs' := [vh, .bool ((I.told N xs).big), vl, vp, vs, vi]) rfl (fun w12 H11 =>  ?_))
  refine av (.bool true) rfl (wn (aQ ?_))
  exact ⟨.inr rfl, _, eB rfl lA (by exact rfl) (H11.g 2 rfl) rfl (by exact rfl), .inl ⟨I, hI, _, D9, rfl, H11.re [0], hm.bound, hf⟩⟩
 ·
  have HS := eD hk
  have H13 := H6.cal0 HS
  refine ⟨_, rfl, ?_⟩
  refine mv (.tuple #[.np, .iface T v]) rfl (we (.np) rfl rfl (we (.iface T v) rfl rfl (av (.np) rfl (av (.iface T v) rfl (wn (ad (sr (mv (.iface T v) rfl (wv rfl ((nn true bq rfl (.inr ⟨_, _, rfl⟩))) (wn (ay rfl ?_)))))))))))
  refine sr (wv rfl (yb (ps := []) (cells := #[.ns, .bool false, .ns, .ns, .ns, .ns]) rfl (by kernel_rfl)) (ws (eN H13 1 [.ns, .bool false, .ns, .ns, .ns, .ns] rfl l7 (fun w15 H14 =>  ?_))))
  refine av (.bool false) rfl (wn (rq ?_))
  exact ⟨.inr rfl, _, eB rfl lA (by exact rfl) (H14.g 1 rfl) rfl (by exact rfl), .inr ⟨hI, rfl, H14.keep⟩⟩
end Go.Proofs.YtlndedfkgiafhaaDoor
namespace Go.Proofs.YtlndedfkgiafhaaDoor
open Go Go.RowKit Go.Proofs
theorem dZ {ws : List Int} (h : ∀ x ∈ ws, -16 ≤ x ∧ x ≤ 8) (i : Nat) : -16 ≤ ws.getD i 0 ∧ ws.getD i 0 ≤ 8 := by
 rw [List.getD_eq_getElem?_getD]
 rcases Nat.lt_or_ge i ws.length with hi | hi
 · rw [List.getElem?_eq_getElem hi]; exact h _ (List.getElem_mem hi)
 · rw [List.getElem?_eq_none hi]; exact ⟨by decide, by decide⟩
theorem iI (wide : Bool) : ∀ x ∈ i6 wide, -16 ≤ x ∧ x ≤ 8 := by cases wide <;> decide
theorem iK (wide : Bool) : ∀ x ∈ fZ wide, -16 ≤ x ∧ x ≤ 8 := by cases wide <;> decide
theorem jS (wide : Bool) : ∀ x ∈ ll wide, -16 ≤ x ∧ x ≤ 8 := by cases wide <;> decide
theorem eJ (n : Nat) : ∀ x ∈ List.replicate n (4 : Int), -16 ≤ x ∧ x ≤ 8 := fun x hx => by rw [List.eq_of_mem_replicate hx]; decide
theorem db {AW A : Option Addr} {nW cW n c : Nat} {ws bs : List Int} (big : Bool) (w : World) (hrW : RI .i64 w AW nW ws) (hW : ∀ x ∈ ws, -16 ≤ x ∧ x ≤ 8) (hr : RI .u8 w A n bs) (hc : n ≤ c) (hn : n ≤ 4294967295) (hb : Byt bs) (hwl : ws.length ≤ 1000) {K : Nat} (hw : cu ws ≤ n) (hK : (bp big ws bs).length = K) (hK0 : 0 < K) :
 Calls Tryd.prog 26 #[.bool big, .slice AW nW cW, .slice A n c] w fun e w' => ∃ (g o cB : Nat) (D : Res), e = .returned (.tuple #[.sl g o K cB, .bool true]) ∧ K ≤ cB ∧ St w aW [D] w' ∧ ∀ w, D.φ w → RI .u64 w (some ⟨g, o, none⟩) K (bp big ws bs) := by
 refine (oN big w hrW (dZ hW) (by rw [← hrW.1]; exact hwl) hr hc hn hb).mono ?_
 rintro e w' (⟨r, h, B, m, cB, D, rfl, hm, H, hD⟩ | ⟨h, _⟩)
 · rw [j5 (by rw [hr.1]; exact hw)] at h
   injection h with h
   subst h
   have hl := (hD _ (H.g 0 rfl)).1
   rw [hK] at hl
   subst hl
   obtain ⟨g, o, rfl, _⟩ := (hD _ (H.g 0 rfl)).2 hK0
   exact ⟨g, o, cB, D, rfl, hm, H, hD⟩
 · rw [j5 (by rw [hr.1]; exact hw)] at h; cases h
theorem dA {AW A : Option Addr} {nW cW n c : Nat} {ws bs : List Int} (big : Bool) (w : World) (hrW : RI .i64 w AW nW ws) (hW : ∀ x ∈ ws, -16 ≤ x ∧ x ≤ 8) (hr : RI .u8 w A n bs) (hc : n ≤ c) (hn : n ≤ 4294967295) (hb : Byt bs) (hwl : ws.length ≤ 1000) (hw : n < cu ws) :
 Calls Tryd.prog 26 #[.bool big, .slice AW nW cW, .slice A n c] w fun e w' => e = .returned (.tuple #[.ns, .bool false]) ∧ St w aW [] w' := by
 refine (oN big w hrW (dZ hW) (by rw [← hrW.1]; exact hwl) hr hc hn hb).mono ?_
 rintro e w' (⟨r, h, _⟩ | ⟨h, he, H⟩)
 · rw [mJ (by rw [hr.1]; exact hw)] at h; cases h
 · exact ⟨he, H⟩
theorem cZ {A : Option Addr} {n c from_ size : Nat} (w : World) (hn : n ≤ 4294967295) (hfs : from_ + size < 18446744073709551616) (h : size = 0 ∨ from_ + size ≤ n) :
 Calls Tryd.prog 28 #[.slice A n c, .u64 ↑from_, .u64 ↑size] w fun e w' => e = .returned (.bool true) ∧ St w aW [] w' := by
 by_cases h0 : size = 0
 · exact nF w hn hfs h0
 · exact rA w hn hfs (by omega) (by omega)
theorem dj {A : Option Addr} {n c from_ size : Nat} (w : World) (hn : n ≤ 4294967295) (hfs : from_ + size < 18446744073709551616) (h : ¬ (size = 0 ∨ from_ + size ≤ n)) :
 Calls Tryd.prog 28 #[.slice A n c, .u64 ↑from_, .u64 ↑size] w fun e w' => e = .returned (.bool false) ∧ St w aW [] w' := oZ w hn hfs (by omega) (by omega)
theorem RI.cellAt {k : IntKind} {w : World} {g o n : Nat} {xs : List Int} (h : RI k w (some ⟨g, o, none⟩) n xs) (i : Nat) (hi : i < n) : w.cell? ⟨g, o + i, none⟩ = some (.int k (xs.getD i 0)) := by
 obtain ⟨g', o', e, hc⟩ := h.2 (by omega)
 injection e with e; injection e with e1 e2; subst e1; subst e2
 exact hc i hi
theorem RI.keepB {k : IntKind} {w w' : World} {M : Nat → Prop} {base g o n : Nat} {xs : List Int} (h : RI k w (some ⟨g, o, none⟩) n xs) (hk : Keep w M w') (hB : ∀ g, M g → base ≤ g) (hg : g < base) : RI k w' (some ⟨g, o, none⟩) n xs :=
 h.keep hk fun a ha hm => by injection ha with ha; subst ha; exact Nat.lt_irrefl _ (Nat.lt_of_lt_of_le hg (hB _ hm))
def PartV.cellsM (x : PartV) : List Value := [.str x.p.name, .str x.p.seg, x.vn, x.vr, x.vd, .bool (!x.p.ok)]
theorem lK (x : PartV) : x.cellsM.length = 6 := rfl
theorem me {wide big : Bool} {hs zs : List Int} {s : SecD} (hb : Byt hs) (hz : zs = hs.take (eQ wide)) (h : dC wide big zs = s) : bp big (fZ wide) hs = rH s ++ (bp big (fZ wide) hs).drop 7 := by
 rw [← h, hz, ← secV wide big hs hb, List.take_append_drop]
theorem mc (wide big : Bool) (hs : List Int) : (bp big (fZ wide) hs).length = if wide then 10 else 9 := by cases wide <;> rfl
theorem kv {big : Bool} {xs : List Int} {z3 z4 j : Nat} (hj : j < z4) : (bw big z4 ((xs.drop z3).take (z4 * 8)))[j]? = some (f7 big (n4 big (xs.drop (z3 + 8 * j))) (n4 big (xs.drop (z3 + 8 * j + 4)))) := by
 have e : (((xs.drop z3).take (z4 * 8)).drop (8 * j)).take 8 = (xs.drop (z3 + 8 * j)).take 8 := by rw [kr (by omega), List.drop_drop]
 rw [hO hj, e, sZ (by omega), bK (by omega), List.drop_drop]
end Go.Proofs.YtlndedfkgiafhaaDoor
