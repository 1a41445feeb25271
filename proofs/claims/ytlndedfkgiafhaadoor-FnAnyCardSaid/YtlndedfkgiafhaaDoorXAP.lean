import Derived.Test.YtlndedfkgiafhaaDoorXAO
set_option linter.unusedVariables false
set_option linter.unusedSimpArgs false
set_option maxRecDepth 100000
set_option maxHeartbeats 4000000
namespace Go.Proofs.YtlndedfkgiafhaaDoor
open Go Go.RowKit Go.Proofs
theorem ib : cQ Tryd.prog 33 [.ns, .bool false, .ns, .ns, .ns, .ns] := bv (by kernel_rfl)
theorem jh : (Tryd.prog.info? 33).map (·.size) = some 6 := by kernel_rfl
theorem jV : gN Tryd.prog 33 6 := dR (by kernel_rfl)
theorem iB : FA 33 0 0 := fa (by kernel_rfl)
theorem CK27 : aX Tryd.prog 27 := aJ (by kernel_rfl)
theorem CK29 : aX Tryd.prog 29 := aJ (by kernel_rfl)
theorem CK30 : aX Tryd.prog 30 := aJ (by kernel_rfl)
theorem CK31 : aX Tryd.prog 31 := aJ (by kernel_rfl)
theorem CK32 : aX Tryd.prog 32 := aJ (by kernel_rfl)
def LR (a b : LoadD) : Prop := a.kind = b.kind ∧ a.raw = b.raw ∧ a.name = b.name ∧ (a.kind = 4 ∨ a.nums = b.nums)
def LRs (lv : List LoadV) (ls : List LoadD) : Prop := lv.length = ls.length ∧ ∀ (i : Nat) (x : LoadV) (l : LoadD), lv[i]? = some x → ls[i]? = some l → LR x.l l
theorem LRs.snoc {lv : List LoadV} {ls : List LoadD} {x : LoadV} {l : LoadD} (h : LRs lv ls) (hl : LR x.l l) : LRs (lv ++ [x]) (ls ++ [l]) := by
 refine ⟨by simp [h.1], fun i v' l' h1 h2 => ?_⟩
 rcases Nat.lt_or_ge i lv.length with hi | hi
 · rw [List.getElem?_append_left hi] at h1
   rw [List.getElem?_append_left (by rw [← h.1]; exact hi)] at h2
   exact h.2 i v' l' h1 h2
 · have hil := (List.getElem?_eq_some_iff.1 h1).1
   have : i = lv.length := by simp at hil; omega
   subst this
   rw [List.getElem?_append_right (Nat.le_refl _)] at h1
   rw [List.getElem?_append_right (by rw [h.1]; exact Nat.le_refl _)] at h2
   simp [h.1] at h1 h2
   subst h1; subst h2; exact hl
structure NRD (φ : World → Prop) (gb ob N : Nat) (xs : List Int) (gh oh : Nat) (hl : List Int) (lv : List LoadV) (pv : List PartV) (As : Option Addr) (ns : Nat) (vi : Value) (s : PSt) : Prop where
 hd : ∀ w, φ w → RI .u64 w (some ⟨gh, oh, none⟩) 7 hl
 ld : ∀ w, φ w → RI .u8 w (some ⟨gb, ob, none⟩) N xs → ∀ x ∈ lv, x.ok w
 lr : LRs lv s.loads
 pt : ∀ w, φ w → RI .u8 w (some ⟨gb, ob, none⟩) N xs → ∀ x ∈ pv, x.ok w
 pm : pv.map PartV.p = s.secs.map fun s => s.part N xs
 sy : ∀ w, φ w → RV w As ns 5 ((s.syms.getD []).flatMap Sym.cells)
 sn : (s.syms.getD []).length = ns
 iv : ∀ w, φ w → SlI' .u32 w vi (s.ind.getD [])
section
variable {φ φ' : World → Prop} {gb ob N gh oh ns ns2 : Nat} {xs hl raw wd : List Int} {lv : List LoadV} {pv pj : List PartV} {As As2 : Option Addr} {vi vi2 : Value} {s : PSt} {x : LoadV} {ld : LoadD} {dn : List SecD} {ss : List Sym}
theorem kE {lv : List LoadV} {x : LoadV} {w : World} (h : ∀ x ∈ lv, x.ok w) (hx : x.ok w) : ∀ y ∈ lv ++ [x], y.ok w := fun y hy => by
 rcases List.mem_append.1 hy with hy | hy
 · exact h y hy
 · rw [List.mem_singleton.1 hy]; exact hx
theorem NRD.load (h : NRD φ gb ob N xs gh oh hl lv pv As ns vi s) (hm : ∀ w, φ' w → φ w) (hx : ∀ w, φ' w → RI .u8 w (some ⟨gb, ob, none⟩) N xs → x.ok w) (hlr : LR x.l ld) : NRD φ' gb ob N xs gh oh hl (lv ++ [x]) pv As ns vi { s with loads := s.loads ++ [ld] } :=
 ⟨fun w hw => h.hd w (hm w hw), fun w hw hb => kE (h.ld w (hm w hw) hb) (hx w hw hb), h.lr.snoc hlr, fun w hw => h.pt w (hm w hw), h.pm, fun w hw => h.sy w (hm w hw), h.sn, fun w hw => h.iv w (hm w hw)⟩
theorem NRD.seg (h : NRD φ gb ob N xs gh oh hl lv pv As ns vi s) (hm : ∀ w, φ' w → φ w) (hx : ∀ w, φ' w → RI .u8 w (some ⟨gb, ob, none⟩) N xs → x.ok w) (hlr : LR x.l ld) (hp : ∀ w, φ' w → RI .u8 w (some ⟨gb, ob, none⟩) N xs → ∀ y ∈ pj, y.ok w) (hpm : pj.map PartV.p = dn.map fun s => s.part N xs) :
 NRD φ' gb ob N xs gh oh hl (lv ++ [x]) (pv ++ pj) As ns vi { s with loads := s.loads ++ [ld], secs := s.secs ++ dn } :=
 ⟨fun w hw => h.hd w (hm w hw), fun w hw hb => kE (h.ld w (hm w hw) hb) (hx w hw hb), h.lr.snoc hlr, fun w hw hb y hy => by
  rcases List.mem_append.1 hy with hy | hy
  · exact h.pt w (hm w hw) hb y hy
  · exact hp w hw hb y hy, by rw [List.map_append, h.pm, hpm, ← List.map_append], fun w hw => h.sy w (hm w hw), h.sn, fun w hw => h.iv w (hm w hw)⟩
theorem NRD.sym (h : NRD φ gb ob N xs gh oh hl lv pv As ns vi s) (hm : ∀ w, φ' w → φ w) (hx : ∀ w, φ' w → RI .u8 w (some ⟨gb, ob, none⟩) N xs → x.ok w) (hlr : LR x.l ld) (hs : ∀ w, φ' w → RV w As2 ns2 5 (ss.flatMap Sym.cells)) (hn : ss.length = ns2) :
 NRD φ' gb ob N xs gh oh hl (lv ++ [x]) pv As2 ns2 vi { s with loads := s.loads ++ [ld], syms := some ss } :=
 ⟨fun w hw => h.hd w (hm w hw), fun w hw hb => kE (h.ld w (hm w hw) hb) (hx w hw hb), h.lr.snoc hlr, fun w hw => h.pt w (hm w hw), h.pm, hs, hn, fun w hw => h.iv w (hm w hw)⟩
theorem NRD.dys (h : NRD φ gb ob N xs gh oh hl lv pv As ns vi s) (hm : ∀ w, φ' w → φ w) (hx : ∀ w, φ' w → RI .u8 w (some ⟨gb, ob, none⟩) N xs → x.ok w) (hlr : LR x.l ld) (hs : ∀ w, φ' w → SlI' .u32 w vi2 wd) :
 NRD φ' gb ob N xs gh oh hl (lv ++ [x]) pv As ns vi2 { s with loads := s.loads ++ [ld], ind := some wd } :=
 ⟨fun w hw => h.hd w (hm w hw), fun w hw hb => kE (h.ld w (hm w hw) hb) (hx w hw hb), h.lr.snoc hlr, fun w hw => h.pt w (hm w hw), h.pm, fun w hw => h.sy w (hm w hw), h.sn, hs⟩
end
def Fin' (wd big : Bool) (xs : List Int) (F : Option PSt) (n : Nat) (ds : List Int) (s : PSt) (op : Bool) : Prop :=
 (op = false → F = eR wd big xs n ds s) ∧ (op = true → F = none ∨ ∃ t : PSt, t.syms = s.syms ∧ F = eR wd big xs n ds t)
section
variable {wd big op : Bool} {xs ds : List Int} {F : Option PSt} {n sz : Nat} {s s' : PSt}
theorem Fin'.any (h : Fin' wd big xs F n ds s op) : F = none ∨ ∃ t : PSt, t.syms = s.syms ∧ F = eR wd big xs n ds t := by
 cases op
 · exact .inr ⟨s, rfl, h.1 rfl⟩
 · exact h.2 rfl
theorem Fin'.n1 (h : Fin' wd big xs F (n + 1) ds s op) (h8 : ds.length < 8) : F = none := by
 rcases h.any with h | ⟨t, _, h⟩
 · exact h
 · rw [h]; exact pC h8
theorem Fin'.n2 (h : Fin' wd big xs F (n + 1) ds s op) (hsz : (n4 big (ds.drop 4)).toNat = sz) (h2 : sz < 8 ∨ ds.length < sz) : F = none := by
 rcases h.any with h | ⟨t, _, h⟩
 · exact h
 · rw [h]; exact mD hsz h2
theorem Fin'.bad (h : Fin' wd big xs F (n + 1) ds s op) (hsz : (n4 big (ds.drop 4)).toNat = sz) (hst : ∀ t : PSt, t.syms = s.syms → bP wd big xs (n4 big ds) (ds.take sz) t = none) : F = none := by
 rcases h.any with h | ⟨t, ht, h⟩
 · exact h
 · rw [h]; exact mC hsz (hst t ht)
theorem Fin'.good (h : Fin' wd big xs F (n + 1) ds s op) (h8 : ¬ ds.length < 8) (hsz : (n4 big (ds.drop 4)).toNat = sz) (hno : ¬ (sz < 8 ∨ ds.length < sz)) (hst : bP wd big xs (n4 big ds) (ds.take sz) s = some s')
 (hg : ∀ t : PSt, t.syms = s.syms → ∃ t', bP wd big xs (n4 big ds) (ds.take sz) t = some t' ∧ t'.syms = s'.syms) : Fin' wd big xs F n (ds.drop sz) s' op := by
 refine ⟨fun e => by rw [h.1 e]; exact iL h8 hsz hno hst, fun e => ?_⟩
 rcases h.2 e with h | ⟨t, ht, h⟩
 · exact .inl h
 · obtain ⟨t', h1, h2⟩ := hg t ht
   exact .inr ⟨t', h2, by rw [h]; exact iL h8 hsz hno h1⟩
theorem m8 {raw : List Int} {t t' : PSt} (h : bQ big xs raw t = some t') : t'.syms = t.syms := by
 unfold bQ at h
 split at h
 · cases h
 · split at h
   · cases h
   · split at h
     · cases h
     · split at h
       · cases h
       · split at h
         · cases h
         · injection h with h; subst h; rfl
theorem Fin'.opn (h : Fin' wd big xs F (n + 1) ds s op) (h8 : ¬ ds.length < 8) (hsz : (n4 big (ds.drop 4)).toNat = sz) (hno : ¬ (sz < 8 ∨ ds.length < sz)) (hc : n4 big ds = 11) : Fin' wd big xs F n (ds.drop sz) s true := by
 refine ⟨fun e => (by cases e), fun _ => ?_⟩
 rcases h.any with h | ⟨t, ht, h⟩
 · exact .inl h
 · have hs : bP wd big xs (n4 big ds) (ds.take sz) t = bQ big xs (ds.take sz) t := by rw [hc]; unfold bP; rw [if_neg (by decide), if_neg (by decide), if_neg (by decide), if_pos rfl]
   cases hd : bQ big xs (ds.take sz) t with
   | none => exact .inl (by rw [h]; exact mC hsz (by rw [hs]; exact hd))
   | some t' => exact .inr ⟨t', by rw [m8 hd, ht], by rw [h]; exact iL h8 hsz hno (by rw [hs]; exact hd)⟩
end
theorem eK {a : Int} (h0 : 0 ≤ a) (h1 : a < 4294967296) : IntKind.u64.wrap (BitVec.ofInt IntKind.u64.bits a &&& ~~~ BitVec.ofInt IntKind.u64.bits 1).toNat = a / 2 * 2 := by
 have e : ∀ x : BitVec 64, (x &&& ~~~ 1#64) = (x >>> 1) <<< 1 := fun x => by
  apply BitVec.eq_of_getLsbD_eq
  intro i hi
  rw [BitVec.getLsbD_and, BitVec.getLsbD_not, BitVec.getLsbD_shiftLeft, BitVec.getLsbD_ushiftRight]
  cases i with
  | zero => simp
  | succ i => simp [hi, BitVec.getLsbD_one, Nat.add_comm]
 show IntKind.u64.wrap ((BitVec.ofInt 64 a &&& ~~~ 1#64).toNat : Int) = a / 2 * 2
 rw [e, BitVec.toNat_shiftLeft, BitVec.toNat_ushiftRight, ez (k := 64) h0 (by omega), Nat.shiftLeft_eq, Nat.shiftRight_eq_div_pow, a6 (by omega) (by omega)]
 omega
theorem oR {P : Program} {ρ : cF} {w : World} {d : Option Tmp} {ty : TypeId} {pos : String} {af : Array Edge} {gd : Option (Nat × Bool)} {t e : Nat} {x lo : Operand} {g o len cap l : Nat} (ht : cg P t e 1) (hx : ev ρ x = .sl g o len cap) (hl : nw ρ (some lo) 0 l) (h1 : l ≤ len) (hc : len ≤ cap) :
 Yv P ⟨d, .slice t x (some lo) none none, ty, pos, af, gd⟩ ρ w (.sl g (fT o cap l) (len - l) (cap - l)) w := by
 have := dH (P := P) (w := w) (d := d) (ty := ty) (pos := pos) (af := af) (gd := gd) ht hx hl (bh _ _) h1 hc
 unfold cR at this
 unfold fT
 split at this
 · rename_i h; rw [if_pos h]; exact this
 · rename_i h; rw [if_neg h]; simpa [bY] using this
theorem RI.drop_oc {k : IntKind} {w : World} {g o n cap : Nat} {xs : List Int} (h : RI k w (some ⟨g, o, none⟩) n xs) (l : Nat) (hc : n ≤ cap) : RI k w (some ⟨g, fT o cap l, none⟩) (n - l) (xs.drop l) := by
 unfold fT
 split
 · rename_i e; subst e; exact ⟨by rw [List.length_drop, h.1], fun h0 => absurd h0 (by omega)⟩
 · exact h.drop_ l
def vG (w : World) (c : List Value) (I : MF) (N : Nat) (xs : List Int) : Prop := ∃ (vh vl vp vs vi : Value) (lv : List LoadV) (pv : List PartV), c = [vh, .bool I.big, vl, vp, vs, vi] ∧ SlI' .u64 w vh [I.h 0, I.h 1, I.h 2, I.h 3, I.h 4, I.h 5, I.h 6] ∧
 SlV w vl 4 (lv.flatMap LoadV.cells) ∧ LRs lv I.loads ∧ (∀ x ∈ lv, x.ok w) ∧ SlV w vp 6 (pv.flatMap PartV.cellsM) ∧ pv.map PartV.p = (I.secs.map fun s => s.part N xs) ∧ (∀ x ∈ pv, x.ok w) ∧ SlV w vs 5 (I.syms.flatMap Sym.cells) ∧ SlI' .u32 w vi I.ind
theorem rO {xs : List Int} {big : Bool} (h : jf xs = some big) : n4 big (xs.drop 0) / 2 = 2138504551 := by
 show n4 big xs / 2 = _
 unfold jf at h
 split at h
 · rename_i e; injection h with e2; subst e2; exact e
 · split at h
   · rename_i e; injection h with e2; subst e2; exact e
   · cases h
theorem oF {gb ob N C : Nat} {xs : List Int} (w : World) (hr : RI .u8 w (some ⟨gb, ob, none⟩) N xs) (hby : Byt xs) (hNC : N ≤ C) (hN : N < 10485760) (hgb : gb < w.heap.size) :
 Calls Tryd.prog 12 #[.sl gb ob N C] w fun e w' => (∃ (I : MF) (c : List Value) (D : Res), fU xs = some I ∧ e = .returned (.tuple #[.agg (List.toArray c), .i64 0]) ∧ St w aW [D] w' ∧ ∀ w, D.φ w → RI .u8 w (some ⟨gb, ob, none⟩) N xs → vG w c I N xs) ∨ (∃ (a1 : Option Addr) (n1 c1 : Nat) (b : Bool) (a2 : Option Addr) (n2 c2 : Nat) (a3 : Option Addr) (n3 c3 : Nat) (a4 : Option Addr) (n5 c4 : Nat) (vi : Value), e = .returned (.tuple #[.agg #[.slice a1 n1 c1, .bool b, .slice a2 n2 c2, .slice a3 n3 c3, .slice a4 n5 c4, vi], .i64 2]) ∧ (∃ a b c, vi = .slice a b c) ∧ Keep w aW w') ∨ (fU xs = none ∧ e = .returned (.tuple #[.agg (List.toArray [.ns, .bool false, .ns, .ns, .ns, .ns]), .i64 1]) ∧ Keep w aW w') := by
 refine a5 (args := [.sl gb ob N C]) Tryd.func12 rfl rfl rfl ?_
 have H0 := St.nil w aW
 refine sr (wm rfl (aK H0 ib (fun g1 w2 hgg1 H3 =>  ai 0 rfl (wn (ad (sr (ms gb ob N C rfl (wv rfl (ba co rfl) (wv rfl (cx rfl rfl) (wn ?_))))))))))
 refine cf rfl (fun hb4 => ?_) (fun hb4 => ?_)
 ·
  simp only [bx] at hb4
  refine sr (wv rfl (yb (ps := []) (cells := #[.ns, .bool false, .ns, .ns, .ns, .ns]) rfl (by kernel_rfl)) (ws (eN H3 0 [.ns, .bool false, .ns, .ns, .ns, .ns] rfl jh (fun w6 H5 =>  ?_))))
  refine ai 1 rfl (wn (rq ?_))
  exact ⟨.inr rfl, _, eB rfl jV (by exact rfl) (H5.g 0 rfl) rfl (by exact rfl), .inr (.inr ⟨mH (by rw [hr.1]; omega), rfl, H5.keep⟩)⟩
 ·
  simp only [bx] at hb4
  refine wk (sr (wv rfl (yb (ps := []) (cells := #[.ns, .bool false, .ns, .ns, .ns, .ns]) rfl (by kernel_rfl)) (wm rfl (aK H3 ib (fun g7 w8 hgg7 H9 =>  ws (eN H9 0 [.ns, .bool false, .ns, .ns, .ns, .ns] rfl jh (fun w11 H10 =>  ?_)))))))
  refine wn ?_
  refine fm (fun ρ w' => ∃ (big : Bool) (fb g2 : Nat), 28 ≤ N ∧ jf xs = some big ∧ ρ 0 = .sl gb ob N C ∧ ρ 2 = .pt g2 ∧ ρ 4 = .pt fb ∧ St w aW [aq fb [.ns, .bool big, .ns, .ns, .ns, .ns] 33, aq g2 [.ns, .bool false, .ns, .ns, .ns, .ns] 33] w') ?_ ?_
  ·
   refine ad ?_
   have m1 := aR true hby
   have m2 := aR false hby
   by_cases hm1 : n4 true xs / 2 = 2138504551
   ·
    refine ae (ms gb ob N C rfl (wE [.bool true, .i64 4, .sl gb ob N C] kf rfl rfl (aa (by have h := dw true (wd := 4) (w11) (hr.keep0 H10.keep) (c := C) hby (by omega) (by omega); rw [hX] at h; exact h) ?_)))
    rintro e w13 ⟨rfl, HS12⟩
    have H14 := H10.cal0 HS12
    refine ⟨_, rfl, ?_⟩
    refine wv rfl (dY (k := .u64) (c := n4 true xs / 2 * 2) rfl rfl (eK (aR true hby).1 (aR true hby).2)) (wv rfl (aL rfl rfl (beq_iff_eq.2 (by omega))) (wn (ay rfl (ae (wf cO rfl (ws (es H14 0 1 (.bool true) rfl cU (fun w16 H15 =>  ?_))))))))
    refine wn ?_
    exact ⟨true, _, _, by omega, by unfold jf; rw [if_pos hm1], rfl, rfl, rfl, H15.re [0, 1]⟩
   ·
    by_cases hm2 : n4 false xs / 2 = 2138504551
    ·
     refine ae (ms gb ob N C rfl (wE [.bool true, .i64 4, .sl gb ob N C] kf rfl rfl (aa (by have h := dw true (wd := 4) (w11) (hr.keep0 H10.keep) (c := C) hby (by omega) (by omega); rw [hX] at h; exact h) ?_)))
     rintro e w18 ⟨rfl, HS17⟩
     have H19 := H10.cal0 HS17
     refine ⟨_, rfl, ?_⟩
     refine wv rfl (dY (k := .u64) (c := n4 true xs / 2 * 2) rfl rfl (eK (aR true hby).1 (aR true hby).2)) (wv rfl (aL rfl rfl (beq_eq_false_iff_ne.2 (by omega))) (wn (aj rfl (sr (ms gb ob N C rfl (wE [.bool false, .i64 4, .sl gb ob N C] kf rfl rfl (aa (by have h := dw false (wd := 4) (w18) (hr.keep0 H19.keep) (c := C) hby (by omega) (by omega); rw [hX] at h; exact h) ?_)))))))
     rintro e w21 ⟨rfl, HS20⟩
     have H22 := H19.cal0 HS20
     refine ⟨_, rfl, ?_⟩
     refine wv rfl (dY (k := .u64) (c := n4 false xs / 2 * 2) rfl rfl (eK (aR false hby).1 (aR false hby).2)) (wv rfl (bJ rfl rfl (bne_eq_false_iff_eq.2 (by omega))) (wn (aj rfl (wk ?_))))
     exact ⟨false, _, _, by omega, by unfold jf; rw [if_neg hm1, if_pos hm2], rfl, rfl, rfl, H22.re [0, 1]⟩
    ·
     refine ae (ms gb ob N C rfl (wE [.bool true, .i64 4, .sl gb ob N C] kf rfl rfl (aa (by have h := dw true (wd := 4) (w11) (hr.keep0 H10.keep) (c := C) hby (by omega) (by omega); rw [hX] at h; exact h) ?_)))
     rintro e w24 ⟨rfl, HS23⟩
     have H25 := H10.cal0 HS23
     refine ⟨_, rfl, ?_⟩
     refine wv rfl (dY (k := .u64) (c := n4 true xs / 2 * 2) rfl rfl (eK (aR true hby).1 (aR true hby).2)) (wv rfl (aL rfl rfl (beq_eq_false_iff_ne.2 (by omega))) (wn (aj rfl (sr (ms gb ob N C rfl (wE [.bool false, .i64 4, .sl gb ob N C] kf rfl rfl (aa (by have h := dw false (wd := 4) (w24) (hr.keep0 H25.keep) (c := C) hby (by omega) (by omega); rw [hX] at h; exact h) ?_)))))))
     rintro e w27 ⟨rfl, HS26⟩
     have H28 := H25.cal0 HS26
     refine ⟨_, rfl, ?_⟩
     refine wv rfl (dY (k := .u64) (c := n4 false xs / 2 * 2) rfl rfl (eK (aR false hby).1 (aR false hby).2)) (wv rfl (bJ rfl rfl (bne_iff_ne.2 (by omega))) (wn (ay rfl (sr (wv rfl (yb (ps := []) (cells := #[.ns, .bool false, .ns, .ns, .ns, .ns]) rfl (by kernel_rfl)) (ws (eN H28 1 [.ns, .bool false, .ns, .ns, .ns, .ns] rfl jh (fun w30 H29 =>  ?_))))))))
     refine ai 1 rfl (wn (rq ?_))
     exact ⟨.inr rfl, _, eB rfl jV (by exact rfl) (H29.g 1 rfl) rfl (by exact rfl), .inr (.inr ⟨pG (by unfold jf; rw [if_neg hm1, if_neg hm2]), rfl, H29.keep⟩)⟩
  ·
   rintro ρ2 w2 ⟨big, fb, g2, hN28, hmag, g0, g2e, g4, H2⟩
   refine ad ?_
   obtain ⟨h, hh⟩ : ∃ h : Nat → Int, h = fun k => n4 big (xs.drop (4 * k)) := ⟨_, rfl⟩
   have hhb : ∀ k, 0 ≤ h k ∧ h k < 4294967296 := fun k => by rw [hh]; exact aR big (hby.drop _)
   obtain ⟨q4, hq4⟩ : ∃ q : Nat, (q : Int) = h 4 := ⟨(h 4).toNat, Int.toNat_of_nonneg (hhb 4).1⟩
   have hlt4 := (hhb 4).2
   have hq4n : (n4 big (xs.drop 16)).toNat = q4 := by have e : n4 big (xs.drop 16) = h 4 := by { rw [hh] }; omega
   obtain ⟨q5, hq5⟩ : ∃ q : Nat, (q : Int) = h 5 := ⟨(h 5).toNat, Int.toNat_of_nonneg (hhb 5).1⟩
   have hlt5 := (hhb 5).2
   have hq5n : (n4 big (xs.drop 20)).toNat = q5 := by have e : n4 big (xs.drop 20) = h 5 := by { rw [hh] }; omega
   have hh0 : n4 big (xs.drop 0) = h 0 := by rw [hh]
   have hh0b := hhb 0
   have hmg : h 0 / 2 = 2138504551 := by rw [← hh0]; exact rO hmag
   have hNL : bp big (List.replicate 7 4) xs = [h 0, h 1, h 2, h 3, ↑q4, ↑q5, h 6] := by rw [pJ, hq4, hq5, hh]; rfl
   have H31 := H2.drew
   refine aO MX (fun w' => w'.cell? ⟨fb, 1, none⟩ = some (.bool big)) (Pl.take 0 (Pl.take 1 (Pl.take 3 (Pl.run 2 (Pl.run 4 (tr 5 4 (Pl.run 9 Pl.done))))))) (by kernel_rfl) (H31.c 0 1 rfl rfl) (qy rfl (ab (o := 0) cO g4) (qh rfl (fun hS => ah cU rfl hS) (qm (.sl gb ob N C) rfl g0 (qr rfl (ec CK27 (args := []) rfl (aa (lW _) ?_))))))
   rintro e w33 ⟨AW, nW, cW, DW, rfl, hcW, HS32, hDW⟩
   have H34 := H31.cal0 HS32
   refine ⟨_, rfl, ?_⟩
   refine ⟨H34.c 1 1 rfl rfl, fun _ => trivial, ?_⟩
   refine qr rfl (ec gM (args := [.bool big, .slice AW nW cW, .sl gb ob N C]) rfl (aa (db (ws := List.replicate 7 4) (bs := xs) (K := 7) big _ (hDW _ (H34.g 0 rfl)) (eJ _) (hr.keep0 H34.keep) hNC (by omega) hby (by decide) (by rw [eI]; omega) (by rw [hNL]; rfl) (by omega)) ?_))
   rintro e w36 ⟨gh, oh, ch, Dn, rfl, hch, HS35, hDn⟩
   rw [hNL] at hDn
   have H37 := H34.cal0 HS35
   refine ⟨_, rfl, ?_⟩
   refine ⟨H37.c 2 1 rfl rfl, fun _ => trivial, ?_⟩
   refine qm (.tuple #[.sl gh oh 7 ch, .bool true]) rfl rfl (qy rfl (a7 (v := .sl gh oh 7 ch) rfl rfl) (qy rfl (a7 (v := .bool true) rfl rfl) (qy rfl (ab (o := 0) iB g4) (dx rfl (es H37 2 0 (.sl gh oh 7 ch) rfl dP (fun w39 H38 =>  ?_))))))
   refine ⟨H38.c 2 1 rfl rfl, fun _ => trivial, ?_⟩
   refine pn ?_
   refine fm (fun ρ w' => ∃ (wd : Bool), wd = ey (h 0) ∧ ρ 0 = .sl gb ob N C ∧ ρ 2 = .pt g2 ∧ ρ 4 = .pt fb ∧ ρ 5 = .bool wd ∧ St w aW [aq fb [.sl gh oh 7 ch, .bool big, .ns, .ns, .ns, .ns] 33, aq g2 [.ns, .bool false, .ns, .ns, .ns, .ns] 33, Dn] w') ?_ ?_
   ·
    by_cases hw : h 0 = 4277009103
    ·
     refine ae (wv rfl (ab iB g4) (wv rfl (H38.ld 2 rfl dP rfl (.sl gh oh 7 ch) rfl) (wv rfl (aI bA rfl rfl (by omega) (by omega)) (wv rfl (ah aM rfl (show World.cell? _ _ = some (.u64 (h 0)) from (hDn _ (H38.g 0 rfl)).cellAt 0 (by omega))) (wv rfl (cV (k := .u64) (c := h 0 % 2) rfl rfl (bI 1 rfl (hhb 0).1 (by have := (hhb 0).2; simp only [IntKind.bits]; omega) (by decide) (by decide) (by decide))) (wv rfl (aL rfl rfl (beq_iff_eq.2 (by omega))) (av (.bool true) rfl (wn ?_))))))))
     exact ⟨true, (decide_eq_true hw).symm, g0, g2e, g4, rfl, H38.re [2, 3, 0]⟩
    ·
     refine ae (wv rfl (ab iB g4) (wv rfl (H38.ld 2 rfl dP rfl (.sl gh oh 7 ch) rfl) (wv rfl (aI bA rfl rfl (by omega) (by omega)) (wv rfl (ah aM rfl (show World.cell? _ _ = some (.u64 (h 0)) from (hDn _ (H38.g 0 rfl)).cellAt 0 (by omega))) (wv rfl (cV (k := .u64) (c := h 0 % 2) rfl rfl (bI 1 rfl (hhb 0).1 (by have := (hhb 0).2; simp only [IntKind.bits]; omega) (by decide) (by decide) (by decide))) (wv rfl (aL rfl rfl (beq_eq_false_iff_ne.2 (by omega))) (av (.bool false) rfl (wn ?_))))))))
     exact ⟨false, (decide_eq_false hw).symm, g0, g2e, g4, rfl, H38.re [2, 3, 0]⟩
   ·
    rintro ρ3 w3 ⟨wd, hwd, g0, g2e, g4, g5, H3⟩
    refine sr (au 28 rfl (wn ?_))
    refine fm (fun ρ w' => ∃ (of : Nat), (of = if wd then 32 else 28) ∧ ρ 0 = .sl gb ob N C ∧ ρ 2 = .pt g2 ∧ ρ 4 = .pt fb ∧ ρ 5 = .bool wd ∧ ρ 6 = .u64 ↑of ∧ St w aW [aq fb [.sl gh oh 7 ch, .bool big, .ns, .ns, .ns, .ns] 33, aq g2 [.ns, .bool false, .ns, .ns, .ns, .ns] 33, Dn] w') ?_ ?_
    ·
     refine sr (mg g5 rfl (wn ?_))
     refine cf rfl (fun hb40 => ?_) (fun hb40 => ?_)
     ·
      refine ae (au 32 rfl (wn ?_))
      exact ⟨32, by rw [hb40]; rfl, g0, g2e, g4, g5, rfl, H3.re [0, 1, 2]⟩
     ·
      refine wk ?_
      exact ⟨28, by rw [hb40]; rfl, g0, g2e, g4, g5, rfl, H3.re [0, 1, 2]⟩
    ·
     rintro ρ3 w3 ⟨of, hofw, g0, g2e, g4, g5, g6, H3⟩
     have hof3 : of ≤ 32 := by rw [hofw]; split <;> omega
     have hof : of = if ey (n4 big (xs.drop 0)) then 32 else 28 := by rw [hh0, ← hwd]; exact hofw
     refine ad (ad ?_)
     by_cases hf5 : q5 = 0 ∨ of + q5 ≤ N
     ·
      refine ae (mg g0 rfl (mg g6 rfl (wv rfl (ab iB g4) (wv rfl (H3.ld 0 rfl dP rfl (.sl gh oh 7 ch) rfl) (wv rfl (aI bA rfl rfl (by omega) (by omega)) (wv rfl (ah aM rfl (show World.cell? _ _ = some (.u64 (↑q5)) from (hDn _ (H3.g 2 rfl)).cellAt 5 (by omega))) (wE [.sl gb ob N C, .u64 (↑of), .u64 (↑q5)] fV rfl rfl (aa (cZ _ (by omega) (by omega) hf5) ?_))))))))
      rintro e w42 ⟨rfl, HS41⟩
      have H43 := H3.cal0 HS41
      refine ⟨_, rfl, ?_⟩
      refine wv rfl (bB rfl) (wn (aj rfl (wk (ad ?_))))
      obtain ⟨ds0, hds0⟩ : ∃ q, q = (xs.drop of).take q5 := ⟨_, rfl⟩
      have ha5 : gG xs of q5 = some ds0 := by rw [hds0]; exact bT (by rw [hr.1]; exact hf5)
      obtain ⟨m0, hm0⟩ : ∃ m, m = min of N := ⟨_, rfl⟩
      obtain ⟨m1, hm1⟩ : ∃ m, m = min (of + q5) N := ⟨_, rfl⟩
      obtain ⟨od, hod⟩ : ∃ ot, cR (some ⟨gb, ob, none⟩) C m0 1 = some ⟨gb, ot, none⟩ := by unfold cR; split; exact ⟨_, rfl⟩; exact ⟨ob + m0, by simp [bY]⟩
      obtain ⟨m, hm⟩ : ∃ m, m = m1 - m0 := ⟨_, rfl⟩
      obtain ⟨cd, hcd⟩ : ∃ m, m = C - m0 := ⟨_, rfl⟩
      have hdat : ∀ w, RI .u8 w (some ⟨gb, ob, none⟩) N xs → RI .u8 w (some ⟨gb, od, none⟩) m ds0 := fun w hr => by
       have h := hr.cut (c := C) (l := m0) (m := m1) (by omega) (by omega) hNC; rw [hod, ← hm] at h; rw [hds0]
       rcases hf5 with e0 | e0
       · have : m = 0 := by omega
         rw [this, List.take_zero] at h; rw [e0, List.take_zero, this]; exact h
       · have e1 : m0 = of := by omega
         have e2 : m = q5 := by omega
         rw [e1, e2] at h; rw [e2]; exact h
      refine ae (mg g0 rfl (mg g6 rfl (mg g0 rfl (wv rfl (ba co rfl) (wv rfl (an eL be rfl (a6 (by omega) (by omega))) (wv rfl (iu (c := ↑m0) rfl rfl (by split <;> omega)) (mg g6 rfl (wv rfl (ab iB g4) (wv rfl (H43.ld 0 rfl dP rfl (.sl gh oh 7 ch) rfl) (wv rfl (aI bA rfl rfl (by omega) (by omega)) (wv rfl (ah aM rfl (show World.cell? _ _ = some (.u64 (↑q5)) from (hDn _ (H43.g 2 rfl)).cellAt 5 (by omega))) ?_)))))))))))
      refine wv rfl (aT (k := .u64) (c := ↑(of + q5)) rfl rfl (by rw [a6 (by omega) (by omega)]; omega)) (mg g0 rfl (wv rfl (ba co rfl) (wv rfl (an eL be rfl (a6 (by omega) (by omega))) (wv rfl (iu (c := ↑m1) rfl rfl (by split <;> omega)) (wv rfl ((show Yv _ _ _ _ (Value.slice (some ⟨gb, od, none⟩) m cd) _ from by rw [← hod, hm, hcd]; exact dH (l := m0) (h := m1) aU rfl (bg rfl (by omega) (Int.toNat_natCast _)) (bg rfl (by omega) (Int.toNat_natCast _)) (by omega) (by omega))) (eh gb od m cd rfl (wn (sr (ai 0 rfl (av (.bool false) rfl (wn ?_)))))))))))
      refine ad (sr (wv rfl (ab iB g4) (wv rfl (H43.ld 0 rfl dP rfl (.sl gh oh 7 ch) rfl) (wv rfl (aI bA rfl rfl (by omega) (by omega)) (wv rfl (ah aM rfl (show World.cell? _ _ = some (.u64 (↑q4)) from (hDn _ (H43.g 2 rfl)).cellAt 4 (by omega))) (mu 0 rfl (wn (aC ?_))))))))
      have H20 : St w aW [aq fb [.sl gh oh 7 ch, .bool big, .ns, .ns, .ns, .ns] 33, aH 74 4 (.ns) 0 (([] : List LoadV).flatMap LoadV.cells), aH 72 6 (.ns) 0 (([] : List PartV).flatMap PartV.cellsM), aq g2 [.ns, .bool false, .ns, .ns, .ns, .ns] 33, Dn] w42 := (((H43.re [0, 1, 2]).addRow 72 6).addRow 74 4).re [2, 0, 1, 3, 4]
      have hl0 : ds0.length = m := (hdat w hr).1
      have hD0 : NRD Dn.φ gb ob N xs gh oh [h 0, h 1, h 2, h 3, h 4, h 5, h 6] [] [] none 0 (.ns) ⟨[], [], none, none⟩ := ⟨fun w hw => by have h := hDn w hw; rw [hq4, hq5] at h; exact h, by simp, ⟨rfl, by simp⟩, by simp, rfl, fun w _ => RV.nil _ _ _, rfl, fun w _ => ⟨_, _, _, rfl, RI.nil _ _ _⟩⟩
      refine bW (fun ρ w' => ∃ (k : Nat), ∃ od : Nat, ∃ m : Nat, ∃ cd : Nat, ∃ ds : List Int, ∃ s : PSt, ∃ op : Bool, ∃ stv : Int, ∃ AL : Option Addr, ∃ nL : Nat, ∃ cL : Nat, ∃ AP : Option Addr, ∃ nP : Nat, ∃ cP : Nat, ∃ As : Option Addr, ∃ ns : Nat, ∃ cs : Nat, ∃ vi : Value, ∃ lv : List LoadV, ∃ pv : List PartV, ∃ D : Res, ρ 0 = .sl gb ob N C ∧ ρ 2 = .pt g2 ∧ ρ 4 = .pt fb ∧ ρ 5 = .bool wd ∧ ρ 7 = .sl gb od m cd ∧ ρ 8 = .i64 stv ∧ ρ 9 = .bool s.syms.isSome ∧ ρ 75 = .u64 (↑q4) ∧ ρ 76 = .u64 (↑k) ∧ k ≤ q4 ∧ Byt ds ∧ ds.length = m ∧ m ≤ cd ∧ m ≤ N ∧ (∀ w, RI .u8 w (some ⟨gb, ob, none⟩) N xs → RI .u8 w (some ⟨gb, od, none⟩) m ds) ∧ (stv = if op then 2 else 0) ∧ nL + m ≤ 10485760 ∧ nP + m ≤ 10485760 ∧ ns ≤ 10485760 ∧ (∃ a b c, vi = .slice a b c) ∧ Fin' wd big xs (eR wd big xs q4 ds0 ⟨[], [], none, none⟩) (q4 - k) ds s op ∧ NRD D.φ gb ob N xs gh oh [h 0, h 1, h 2, h 3, h 4, h 5, h 6] lv pv As ns vi s ∧ St w aW [aq fb [.sl gh oh 7 ch, .bool big, .slice AL nL cL, .slice AP nP cP, .slice As ns cs, vi] 33, aH 74 4 (.slice AL nL cL) nL (lv.flatMap LoadV.cells), aH 72 6 (.slice AP nP cP) nP (pv.flatMap PartV.cellsM), aq g2 [.ns, .bool false, .ns, .ns, .ns, .ns] 33, D] w') (fun ρ _ => q4 + 1 - nv (ρ 76)) (⟨0, od, m, cd, ds0, ⟨[], [], none, none⟩, false, 0, none, 0, 0, none, 0, 0, none, 0, 0, _, [], [], Dn, g0, g2e, g4, g5, rfl, rfl, rfl, rfl, rfl, by omega, by rw [hds0]; exact (hby.drop _).take _, hl0, by omega, by omega, hdat, rfl, by omega, by omega, by omega, ⟨_, _, _, rfl⟩, ⟨fun _ => rfl, fun e => by cases e⟩, hD0, H20⟩) ?_
      rintro ρ4 w4 ⟨k, od, m, cd, ds, s, op, stv, AL, nL, cL, AP, nP, cP, As, ns, cs, vi, lv, pv, D, e0, e2, e4, e5, e7, e8, e9, e75, e76, hk, hdb, hdl, hmc, hmN, hdat, hstv, hnL, hnP, hns, ⟨_, _, _, hvi⟩, hF, hD, H4⟩
      refine sr (wv rfl (cx e76 e75) (wn (ad ?_)))
      refine cf rfl (fun hb44 => ?_) (fun hb44 => ?_)
      ·
       simp only [bx] at hb44
       refine wk (ad (aC (ad (ad ?_))))
       have hF : Fin' wd big xs (eR wd big xs q4 ds0 ⟨[], [], none, none⟩) ((q4 - (k + 1)) + 1) ds s op := by rw [show (q4 - (k + 1)) + 1 = q4 - k by omega]; exact hF
       refine ae (mg e7 rfl (wv rfl (ba co rfl) (wv rfl (cx rfl rfl) (wn ?_))))
       refine cf rfl (fun hb45 => ?_) (fun hb45 => ?_)
       ·
        simp only [bx] at hb45
        refine sr (wv rfl (yb (ps := []) (cells := #[.ns, .bool false, .ns, .ns, .ns, .ns]) rfl (by kernel_rfl)) (ws (bE H4 3 (vs := [.ns, .bool false, .ns, .ns, .ns, .ns]) (m := 6) rfl jh e2 rfl rfl (nl rfl) (by simp [Value.oneCell']) (cs' := [.ns, .bool false, .ns, .ns, .ns, .ns]) rfl (fun w47 H46 =>  ?_))))
        refine ai 1 rfl (wn (rq (aB (ax (ax (aB (ax ?_)))))))
        exact ⟨.inr rfl, _, eB rfl jV (by exact e2) (H46.g 3 rfl) rfl (by exact rfl), .inr (.inr ⟨dK hmag hof hq5n ha5 hq4n (by rw [hh0, ← hwd]; exact hF.n1 (by omega)), rfl, H46.keep⟩)⟩
       ·
        simp only [bx] at hb45
        refine wk (ad ?_)
        obtain ⟨cmd, hcmd⟩ : ∃ c, c = n4 big ds := ⟨_, rfl⟩
        have hb4 := aR big (hdb.drop 4)
        have hb0 := aR big hdb
        obtain ⟨sz, hsz⟩ : ∃ q : Nat, (q : Int) = n4 big (ds.drop 4) := ⟨(n4 big (ds.drop 4)).toNat, Int.toNat_of_nonneg hb4.1⟩
        have hszn : (n4 big (ds.drop 4)).toNat = sz := by omega
        have H48 := H4.drew
        refine aO MX (fun w' => w'.cell? ⟨fb, 1, none⟩ = some (.bool big)) (tr 0 3 (tr 4 4 (Pl.run 3 (Pl.run 8 (Pl.take 9 (Pl.take 10 Pl.done)))))) (by kernel_rfl) (H48.c 0 1 rfl rfl) (qy rfl (ab (o := 0) cO e4) (qh rfl (fun hS => ah cU rfl hS) (qm (.sl gb od m cd) rfl e7 (qy rfl (ab (o := 0) cO e4) (qh rfl (fun hS => ah cU rfl hS) (qm (.sl gb od m cd) rfl e7 (qt rfl (fun _ hS => (am (l := 4) (h := m) aU rfl (bs rfl (by omega) rfl) bn (by omega) (by omega) (by omega) (by omega) : Yv _ _ _ _ (.sl gb (od + 4) (m - 4) (cd - 4)) _)) (qr rfl (ec kf (args := [.bool big, .i64 4, .sl gb od m cd]) rfl (aa (by have h := dw big (wd := 4) (w4.drew) (hdat _ (hr.keep0 H48.keep)) (c := cd) hdb (by omega) (by omega); rw [hX, ← hcmd] at h; exact h) ?_))))))))))
        rintro e w50 ⟨rfl, HS49⟩
        have H51 := H48.cal0 HS49
        refine ⟨_, rfl, ?_⟩
        refine ⟨H51.c 0 1 rfl rfl, fun _ => trivial, ?_⟩
        refine qr rfl (ec kf (args := [.bool big, .i64 4, .sl gb (od + 4) (m - 4) (cd - 4)]) rfl (aa (by have h := dw big (wd := 4) (w50) ((hdat _ (hr.keep0 H51.keep)).drop_ 4) (c := cd - 4) (hdb.drop 4) (by omega) (by omega); rw [hX, ← hsz] at h; exact h) ?_))
        rintro e w53 ⟨rfl, HS52⟩
        have H54 := H51.cal0 HS52
        refine ⟨_, rfl, ?_⟩
        refine ⟨H54.c 0 1 rfl rfl, fun _ => trivial, ?_⟩
        refine qa (.u64 cmd) rfl rfl (qa (.u64 (↑sz)) rfl rfl (pn (ad (sr (mu (↑sz) rfl (wv rfl (cx rfl rfl) (mv (.bool (decide ((↑sz : Int) < 8))) rfl ?_)))))))
        generalize hb55 : (decide ((↑sz : Int) < 8)) = bb
        cases bb
        ·
         simp only [bx] at hb55
         refine aP rfl rfl (al (v := .u64 (↑sz)) rfl) (aP rfl rfl (al (v := .sl gb od m cd) e7) (aP rfl rfl (ba co rfl) (aP rfl rfl (an eL be rfl (a6 (by omega) (by omega))) (aP rfl rfl (gP rfl rfl) (wv rfl (aD (b := false) (v := .bool (decide ((↑m : Int) < ↑sz))) rfl rfl) (wn ?_))))))
         refine cf rfl (fun hb56 => ?_) (fun hb56 => ?_)
         ·
          simp only [bx] at hb56
          refine sr (wv rfl (yb (ps := []) (cells := #[.ns, .bool false, .ns, .ns, .ns, .ns]) rfl (by kernel_rfl)) (ws (bE H54 3 (vs := [.ns, .bool false, .ns, .ns, .ns, .ns]) (m := 6) rfl jh e2 rfl rfl (nl rfl) (by simp [Value.oneCell']) (cs' := [.ns, .bool false, .ns, .ns, .ns, .ns]) rfl (fun w58 H57 =>  ?_))))
          refine ai 1 rfl (wn (rq (aB (ax (ax (aB (ax ?_)))))))
          exact ⟨.inr rfl, _, eB rfl jV (by exact e2) (H57.g 3 rfl) rfl (by exact rfl), .inr (.inr ⟨dK hmag hof hq5n ha5 hq4n (by rw [hh0, ← hwd]; exact hF.n2 hszn (by omega)), rfl, H57.keep⟩)⟩
         ·
          simp only [bx] at hb56
          refine wk (sr (mg e7 rfl (mu (↑sz) rfl (wv rfl ((am (l := 0) (h := sz) aU rfl bn (bs rfl (by omega) (Int.toNat_natCast _)) (by omega) (by omega) (by omega) (by omega) : Yv _ _ _ _ (.sl gb od sz cd) _)) (eh gb od sz cd rfl (wn (sr (mg e7 rfl (mu (↑sz) rfl (wv rfl (oR aU rfl (bg (i := ↑sz) rfl (by omega) (Int.toNat_natCast _)) (by omega) hmc) (eh gb (fT od cd sz) (m - sz) (cd - sz) rfl ?_)))))))))))
          refine wn (sr (av (.bool true) rfl (wn ?_)))
          have hdat2 : ∀ w, RI .u8 w (some ⟨gb, ob, none⟩) N xs → RI .u8 w (some ⟨gb, (fT od cd sz), none⟩) (m - sz) (ds.drop sz) := fun w hb => (hdat w hb).drop_oc sz hmc
          have hraw : ∀ w, RI .u8 w (some ⟨gb, ob, none⟩) N xs → RI .u8 w (some ⟨gb, od, none⟩) sz (ds.take sz) := fun w hb => (hdat w hb).take (by omega)
          have hno : ¬ (sz < 8 ∨ ds.length < sz) := by omega
          refine fm (fun ρ w' => (∃ od : Nat, ∃ m : Nat, ∃ cd : Nat, ∃ ds : List Int, ∃ s : PSt, ∃ op : Bool, ∃ stv : Int, ∃ AL : Option Addr, ∃ nL : Nat, ∃ cL : Nat, ∃ AP : Option Addr, ∃ nP : Nat, ∃ cP : Nat, ∃ As : Option Addr, ∃ ns : Nat, ∃ cs : Nat, ∃ vi : Value, ∃ lv : List LoadV, ∃ pv : List PartV, ∃ D : Res, ρ 0 = .sl gb ob N C ∧ ρ 2 = .pt g2 ∧ ρ 4 = .pt fb ∧ ρ 5 = .bool wd ∧ ρ 7 = .sl gb od m cd ∧ ρ 8 = .i64 stv ∧ ρ 9 = .bool s.syms.isSome ∧ ρ 75 = .u64 (↑q4) ∧ ρ 76 = .u64 (↑k) ∧ ρ 13 = .bool true ∧ Byt ds ∧ ds.length = m ∧ m ≤ cd ∧ m ≤ N ∧ (∀ w, RI .u8 w (some ⟨gb, ob, none⟩) N xs → RI .u8 w (some ⟨gb, od, none⟩) m ds) ∧ (stv = if op then 2 else 0) ∧ nL + m ≤ 10485760 ∧ nP + m ≤ 10485760 ∧ ns ≤ 10485760 ∧ (∃ a b c, vi = .slice a b c) ∧ Fin' wd big xs (eR wd big xs q4 ds0 ⟨[], [], none, none⟩) (q4 - (k + 1)) ds s op ∧ NRD D.φ gb ob N xs gh oh [h 0, h 1, h 2, h 3, h 4, h 5, h 6] lv pv As ns vi s ∧ St w aW [aq fb [.sl gh oh 7 ch, .bool big, .slice AL nL cL, .slice AP nP cP, .slice As ns cs, vi] 33, aH 74 4 (.slice AL nL cL) nL (lv.flatMap LoadV.cells), aH 72 6 (.slice AP nP cP) nP (pv.flatMap PartV.cellsM), aq g2 [.ns, .bool false, .ns, .ns, .ns, .ns] 33, D] w') ∨ (fU xs = none ∧ ρ 13 = .bool false ∧ ρ 2 = .pt g2 ∧ St w aW [aq g2 [.ns, .bool false, .ns, .ns, .ns, .ns] 33] w')) ?_ ?_
          ·
           refine sr (mu cmd rfl (wn (aC (ad ?_))))
           by_cases hc1 : cmd = 1
           ·
            have hci : n4 big ds = 1 := by omega
            refine ae (wv rfl (aL rfl rfl (beq_iff_eq.2 (by omega))) (av (.bool true) rfl (wn (ay rfl (ae (mg e0 rfl (ms gb od sz cd rfl (wm rfl (ec CK29 (args := [.pt fb, .sl gb ob N C, .bool false, .sl gb od sz cd]) (cc e4 (cc rfl (cc rfl (cc rfl (rfl))))) ?_)))))))))
            have Hp : St w aW ([aq fb [.sl gh oh 7 ch, .bool big, .slice AL nL cL, .slice AP nP cP, .slice As ns cs, vi] 33, aH 74 4 (.slice AL nL cL) nL (lv.flatMap LoadV.cells), aH 72 6 (.slice AP nP cP) nP (pv.flatMap PartV.cellsM)] ++ [aq g2 [.ns, .bool false, .ns, .ns, .ns, .ns] 33, D]) w53 := H54.re [0, 1, 2, 3, 4]
            have hbc := hr.keep0 H54.keep
            refine aa (rG (base := w.heap.size) (raw := (ds.take sz)) (gr := gb) (or_ := od) big _ (Hp.loc (L1 := [aq fb [.sl gh oh 7 ch, .bool big, .slice AL nL cL, .slice AP nP cP, .slice As ns cs, vi] 33, aH 74 4 (.slice AL nL cL) nL (lv.flatMap LoadV.cells), aH 72 6 (.slice AP nP cP) nP (pv.flatMap PartV.cellsM)]) (L2 := [aq g2 [.ns, .bool false, .ns, .ns, .ns, .ns] 33, D])) (Hp.re (L' := [aq fb [.sl gh oh 7 ch, .bool big, .slice AL nL cL, .slice AP nP cP, .slice As ns cs, vi] 33, aH 74 4 (.slice AL nL cL) nL (lv.flatMap LoadV.cells), aH 72 6 (.slice AP nP cP) nP (pv.flatMap PartV.cellsM)]) [0, 1, 2]).fresh Hp.keep.size (hraw _ hbc) (hdb.take _) (by omega) (by omega) hgb hbc hby hNC hN hgb (by omega) (by omega)) ?_
            rintro e w59 (⟨ld, x, dn, pj, AL2, AP2, cL2, nP2, cP2, D2, hst, hxl, hlw, hxr, hpj, hnP2, rfl, HSc, hD2⟩ | ⟨hst, rfl, HSc⟩)
            ·
             have H60 := cE (L1 := [aq fb [.sl gh oh 7 ch, .bool big, .slice AL nL cL, .slice AP nP cP, .slice As ns cs, vi] 33, aH 74 4 (.slice AL nL cL) nL (lv.flatMap LoadV.cells), aH 72 6 (.slice AP nP cP) nP (pv.flatMap PartV.cellsM)]) (L2 := [aq g2 [.ns, .bool false, .ns, .ns, .ns, .ns] 33, D]) Hp HSc
             refine ⟨_, rfl, ?_⟩
             refine av (.bool true) rfl (bl (ao (ac ?_)))
             have hstg : ∀ t : PSt, t.syms = s.syms → bP wd big xs (n4 big ds) (ds.take sz) t = some { t with loads := t.loads ++ [ld], secs := t.secs ++ dn } := fun t ht => by rw [hci]; unfold bP; rw [if_neg (by decide), if_neg (by decide), if_neg (by decide), if_neg (by decide), if_pos rfl]; exact hst t
             exact .inl ⟨fT od cd sz, m - sz, cd - sz, ds.drop sz, { s with loads := s.loads ++ [ld], secs := s.secs ++ dn }, op, stv, AL2, (nL + 1), cL2, AP2, nP2, cP2, As, ns, cs, vi, lv ++ [x], pv ++ pj, Res.all [D2, D], e0, e2, e4, e5, rfl, e8, e9, e75, e76, rfl, hdb.drop _, by rw [List.length_drop]; omega, by omega, by omega, hdat2, hstv, by omega, by omega, hns, ⟨_, _, _, hvi⟩, hF.good (by omega) hszn hno (hstg s rfl) (fun t ht => ⟨_, hstg t ht, ht⟩), hD.seg (fun w hh => aV.1 hh D (by simp)) (fun w hh hb => ⟨⟨_, _, _, hxr, by rw [hxl, hlw]; exact hraw w hb⟩, by have h := (hD2 w (aV.1 hh D2 (by simp))).1; obtain ⟨A, n, c, e1, e2⟩ := h; exact ⟨A, n, c, e1, by rw [hxl]; exact e2⟩⟩) (by rw [hxl]; exact ⟨rfl, rfl, rfl, .inr rfl⟩) (fun w hh => (hD2 w (aV.1 hh D2 (by simp))).2) hpj, (H60.reAll [0, 5] [1, 2, 3, 4]).re [1, 2, 3, 4, 0]⟩
            ·
             have H61 := cE (L1 := [aq fb [.sl gh oh 7 ch, .bool big, .slice AL nL cL, .slice AP nP cP, .slice As ns cs, vi] 33, aH 74 4 (.slice AL nL cL) nL (lv.flatMap LoadV.cells), aH 72 6 (.slice AP nP cP) nP (pv.flatMap PartV.cellsM)]) (L2 := [aq g2 [.ns, .bool false, .ns, .ns, .ns, .ns] 33, D]) Hp HSc
             refine ⟨_, rfl, ?_⟩
             refine av (.bool false) rfl (bl (ao (ac ?_)))
             have hbad : eR wd big xs q4 ds0 ⟨[], [], none, none⟩ = none := hF.bad hszn (fun t ht => by rw [hci]; unfold bP; rw [if_neg (by decide), if_neg (by decide), if_neg (by decide), if_neg (by decide), if_pos rfl]; exact hst t)
             exact .inr ⟨dK hmag hof hq5n ha5 hq4n (by rw [hh0, ← hwd]; exact hbad), rfl, e2, H61.re [0]⟩
           ·
            by_cases hc25 : cmd = 25
            ·
             have hci : n4 big ds = 25 := by omega
             refine ae (wv rfl (aL rfl rfl (beq_eq_false_iff_ne.2 (by omega))) (av (.bool false) rfl (wn (aj rfl (sr (wv rfl (aL rfl rfl (beq_iff_eq.2 (by omega))) (av (.bool true) rfl (wn (ay rfl (ae (mg e0 rfl ?_)))))))))))
             refine ms gb od sz cd rfl (wm rfl (ec CK29 (args := [.pt fb, .sl gb ob N C, .bool true, .sl gb od sz cd]) (cc e4 (cc rfl (cc rfl (cc rfl (rfl))))) ?_))
             have Hp : St w aW ([aq fb [.sl gh oh 7 ch, .bool big, .slice AL nL cL, .slice AP nP cP, .slice As ns cs, vi] 33, aH 74 4 (.slice AL nL cL) nL (lv.flatMap LoadV.cells), aH 72 6 (.slice AP nP cP) nP (pv.flatMap PartV.cellsM)] ++ [aq g2 [.ns, .bool false, .ns, .ns, .ns, .ns] 33, D]) w53 := H54.re [0, 1, 2, 3, 4]
             have hbc := hr.keep0 H54.keep
             refine aa (rF (base := w.heap.size) (raw := (ds.take sz)) (gr := gb) (or_ := od) big _ (Hp.loc (L1 := [aq fb [.sl gh oh 7 ch, .bool big, .slice AL nL cL, .slice AP nP cP, .slice As ns cs, vi] 33, aH 74 4 (.slice AL nL cL) nL (lv.flatMap LoadV.cells), aH 72 6 (.slice AP nP cP) nP (pv.flatMap PartV.cellsM)]) (L2 := [aq g2 [.ns, .bool false, .ns, .ns, .ns, .ns] 33, D])) (Hp.re (L' := [aq fb [.sl gh oh 7 ch, .bool big, .slice AL nL cL, .slice AP nP cP, .slice As ns cs, vi] 33, aH 74 4 (.slice AL nL cL) nL (lv.flatMap LoadV.cells), aH 72 6 (.slice AP nP cP) nP (pv.flatMap PartV.cellsM)]) [0, 1, 2]).fresh Hp.keep.size (hraw _ hbc) (hdb.take _) (by omega) (by omega) hgb hbc hby hNC hN hgb (by omega) (by omega)) ?_
             rintro e w62 (⟨ld, x, dn, pj, AL2, AP2, cL2, nP2, cP2, D2, hst, hxl, hlw, hxr, hpj, hnP2, rfl, HSc, hD2⟩ | ⟨hst, rfl, HSc⟩)
             ·
              have H63 := cE (L1 := [aq fb [.sl gh oh 7 ch, .bool big, .slice AL nL cL, .slice AP nP cP, .slice As ns cs, vi] 33, aH 74 4 (.slice AL nL cL) nL (lv.flatMap LoadV.cells), aH 72 6 (.slice AP nP cP) nP (pv.flatMap PartV.cellsM)]) (L2 := [aq g2 [.ns, .bool false, .ns, .ns, .ns, .ns] 33, D]) Hp HSc
              refine ⟨_, rfl, ?_⟩
              refine av (.bool true) rfl (bl (ao (ac ?_)))
              have hstg : ∀ t : PSt, t.syms = s.syms → bP wd big xs (n4 big ds) (ds.take sz) t = some { t with loads := t.loads ++ [ld], secs := t.secs ++ dn } := fun t ht => by rw [hci]; unfold bP; rw [if_neg (by decide), if_neg (by decide), if_neg (by decide), if_neg (by decide), if_neg (by decide), if_pos rfl]; exact hst t
              exact .inl ⟨fT od cd sz, m - sz, cd - sz, ds.drop sz, { s with loads := s.loads ++ [ld], secs := s.secs ++ dn }, op, stv, AL2, (nL + 1), cL2, AP2, nP2, cP2, As, ns, cs, vi, lv ++ [x], pv ++ pj, Res.all [D2, D], e0, e2, e4, e5, rfl, e8, e9, e75, e76, rfl, hdb.drop _, by rw [List.length_drop]; omega, by omega, by omega, hdat2, hstv, by omega, by omega, hns, ⟨_, _, _, hvi⟩, hF.good (by omega) hszn hno (hstg s rfl) (fun t ht => ⟨_, hstg t ht, ht⟩), hD.seg (fun w hh => aV.1 hh D (by simp)) (fun w hh hb => ⟨⟨_, _, _, hxr, by rw [hxl, hlw]; exact hraw w hb⟩, by have h := (hD2 w (aV.1 hh D2 (by simp))).1; obtain ⟨A, n, c, e1, e2⟩ := h; exact ⟨A, n, c, e1, by rw [hxl]; exact e2⟩⟩) (by rw [hxl]; exact ⟨rfl, rfl, rfl, .inr rfl⟩) (fun w hh => (hD2 w (aV.1 hh D2 (by simp))).2) hpj, (H63.reAll [0, 5] [1, 2, 3, 4]).re [1, 2, 3, 4, 0]⟩
             ·
              have H64 := cE (L1 := [aq fb [.sl gh oh 7 ch, .bool big, .slice AL nL cL, .slice AP nP cP, .slice As ns cs, vi] 33, aH 74 4 (.slice AL nL cL) nL (lv.flatMap LoadV.cells), aH 72 6 (.slice AP nP cP) nP (pv.flatMap PartV.cellsM)]) (L2 := [aq g2 [.ns, .bool false, .ns, .ns, .ns, .ns] 33, D]) Hp HSc
              refine ⟨_, rfl, ?_⟩
              refine av (.bool false) rfl (bl (ao (ac ?_)))
              have hbad : eR wd big xs q4 ds0 ⟨[], [], none, none⟩ = none := hF.bad hszn (fun t ht => by rw [hci]; unfold bP; rw [if_neg (by decide), if_neg (by decide), if_neg (by decide), if_neg (by decide), if_neg (by decide), if_pos rfl]; exact hst t)
              exact .inr ⟨dK hmag hof hq5n ha5 hq4n (by rw [hh0, ← hwd]; exact hbad), rfl, e2, H64.re [0]⟩
            ·
             by_cases hc2 : cmd = 2
             ·
              have hci : n4 big ds = 2 := by omega
              refine ae (wv rfl (aL rfl rfl (beq_eq_false_iff_ne.2 (by omega))) (av (.bool false) rfl (wn (aj rfl (sr (wv rfl (aL rfl rfl (beq_eq_false_iff_ne.2 (by omega))) (av (.bool false) rfl (wn (aj rfl (sr (wv rfl (aL rfl rfl (beq_iff_eq.2 (by omega))) ?_)))))))))))
              refine av (.bool true) rfl (wn (ay rfl (ad ?_)))
              rcases Bool.eq_false_or_eq_true wd with hwb | hwb
              ·
               rw [hwb] at e5
               refine ae (mg e0 rfl (mg e5 rfl (ms gb od sz cd rfl (wm rfl (ec CK30 (args := [.pt fb, .sl gb ob N C, .bool true, .sl gb od sz cd]) (cc e4 (cc rfl (cc rfl (cc rfl (rfl))))) ?_)))))
               have Hp : St w aW ([aq fb [.sl gh oh 7 ch, .bool big, .slice AL nL cL, .slice AP nP cP, .slice As ns cs, vi] 33, aH 74 4 (.slice AL nL cL) nL (lv.flatMap LoadV.cells)] ++ [aH 72 6 (.slice AP nP cP) nP (pv.flatMap PartV.cellsM), aq g2 [.ns, .bool false, .ns, .ns, .ns, .ns] 33, D]) w53 := H54.re [0, 1, 2, 3, 4]
               have hbc := hr.keep0 H54.keep
               refine aa (rD (base := w.heap.size) (raw := (ds.take sz)) (gr := gb) (or_ := od) big _ (Hp.loc (L1 := [aq fb [.sl gh oh 7 ch, .bool big, .slice AL nL cL, .slice AP nP cP, .slice As ns cs, vi] 33, aH 74 4 (.slice AL nL cL) nL (lv.flatMap LoadV.cells)]) (L2 := [aH 72 6 (.slice AP nP cP) nP (pv.flatMap PartV.cellsM), aq g2 [.ns, .bool false, .ns, .ns, .ns, .ns] 33, D])) (Hp.re (L' := [aq fb [.sl gh oh 7 ch, .bool big, .slice AL nL cL, .slice AP nP cP, .slice As ns cs, vi] 33, aH 74 4 (.slice AL nL cL) nL (lv.flatMap LoadV.cells)]) [0, 1]).fresh Hp.keep.size (hraw _ hbc) (hdb.take _) (by omega) (by omega) hgb hbc hby hNC hN hgb (by omega)) ?_
               rintro e w65 (⟨nn, x, ss, AL2, AS2, cL2, nS2, cS2, D2, hst, hxl, hxr, hssl, hnS2, rfl, HSc, hD2⟩ | ⟨hst, rfl, HSc⟩)
               ·
                have H66 := cE (L1 := [aq fb [.sl gh oh 7 ch, .bool big, .slice AL nL cL, .slice AP nP cP, .slice As ns cs, vi] 33, aH 74 4 (.slice AL nL cL) nL (lv.flatMap LoadV.cells)]) (L2 := [aH 72 6 (.slice AP nP cP) nP (pv.flatMap PartV.cellsM), aq g2 [.ns, .bool false, .ns, .ns, .ns, .ns] 33, D]) Hp HSc
                refine ⟨_, rfl, ?_⟩
                refine av (.bool true) rfl (wn (ae (av (.bool true) rfl (bl (ao (ac ?_))))))
                have hstg : ∀ t : PSt, t.syms = s.syms → bP wd big xs (n4 big ds) (ds.take sz) t = some { t with loads := t.loads ++ [⟨4, (ds.take sz), [], [0, 0, 0, 0, 0, 0]⟩], syms := some ss } := fun t ht => by rw [hci, hwb]; unfold bP; rw [if_neg (by decide), if_neg (by decide), if_pos rfl]; exact hst t
                exact .inl ⟨fT od cd sz, m - sz, cd - sz, ds.drop sz, { s with loads := s.loads ++ [⟨4, (ds.take sz), [], [0, 0, 0, 0, 0, 0]⟩], syms := some ss }, op, stv, AL2, (nL + 1), cL2, AP, nP, cP, AS2, nS2, cS2, vi, lv ++ [x], pv, Res.all [D2, D], e0, e2, e4, by rw [hwb]; exact e5, rfl, e8, rfl, e75, e76, rfl, hdb.drop _, by rw [List.length_drop]; omega, by omega, by omega, hdat2, hstv, by omega, by omega, hnS2, ⟨_, _, _, hvi⟩, hF.good (by omega) hszn hno (hstg s rfl) (fun t ht => ⟨_, hstg t ht, rfl⟩), hD.sym (fun w hh => aV.1 hh D (by simp)) (fun w hh hb => ⟨⟨_, _, _, hxr, by rw [hxl]; exact hraw w hb⟩, by have h := (hD2 w (aV.1 hh D2 (by simp))).1; obtain ⟨A, n, c, e1, e2⟩ := h; exact ⟨A, n, c, e1, by rw [hxl]; exact e2⟩⟩) (by rw [hxl]; exact ⟨rfl, rfl, rfl, .inl rfl⟩) (fun w hh => (hD2 w (aV.1 hh D2 (by simp))).2) hssl, (H66.reAll [0, 5] [1, 2, 3, 4]).re [1, 2, 3, 4, 0]⟩
               ·
                have H67 := cE (L1 := [aq fb [.sl gh oh 7 ch, .bool big, .slice AL nL cL, .slice AP nP cP, .slice As ns cs, vi] 33, aH 74 4 (.slice AL nL cL) nL (lv.flatMap LoadV.cells)]) (L2 := [aH 72 6 (.slice AP nP cP) nP (pv.flatMap PartV.cellsM), aq g2 [.ns, .bool false, .ns, .ns, .ns, .ns] 33, D]) Hp HSc
                refine ⟨_, rfl, ?_⟩
                refine av (.bool false) rfl (wn (ae (av (.bool true) rfl (bl (ao (ac ?_))))))
                have hbad : eR wd big xs q4 ds0 ⟨[], [], none, none⟩ = none := hF.bad hszn (fun t ht => by rw [hci, hwb]; unfold bP; rw [if_neg (by decide), if_neg (by decide), if_pos rfl]; exact hst t)
                exact .inr ⟨dK hmag hof hq5n ha5 hq4n (by rw [hh0, ← hwd]; exact hbad), rfl, e2, H67.re [1]⟩
              ·
               rw [hwb] at e5
               refine ae (mg e0 rfl (mg e5 rfl (ms gb od sz cd rfl (wm rfl (ec CK30 (args := [.pt fb, .sl gb ob N C, .bool false, .sl gb od sz cd]) (cc e4 (cc rfl (cc rfl (cc rfl (rfl))))) ?_)))))
               have Hp : St w aW ([aq fb [.sl gh oh 7 ch, .bool big, .slice AL nL cL, .slice AP nP cP, .slice As ns cs, vi] 33, aH 74 4 (.slice AL nL cL) nL (lv.flatMap LoadV.cells)] ++ [aH 72 6 (.slice AP nP cP) nP (pv.flatMap PartV.cellsM), aq g2 [.ns, .bool false, .ns, .ns, .ns, .ns] 33, D]) w53 := H54.re [0, 1, 2, 3, 4]
               have hbc := hr.keep0 H54.keep
               refine aa (rE (base := w.heap.size) (raw := (ds.take sz)) (gr := gb) (or_ := od) big _ (Hp.loc (L1 := [aq fb [.sl gh oh 7 ch, .bool big, .slice AL nL cL, .slice AP nP cP, .slice As ns cs, vi] 33, aH 74 4 (.slice AL nL cL) nL (lv.flatMap LoadV.cells)]) (L2 := [aH 72 6 (.slice AP nP cP) nP (pv.flatMap PartV.cellsM), aq g2 [.ns, .bool false, .ns, .ns, .ns, .ns] 33, D])) (Hp.re (L' := [aq fb [.sl gh oh 7 ch, .bool big, .slice AL nL cL, .slice AP nP cP, .slice As ns cs, vi] 33, aH 74 4 (.slice AL nL cL) nL (lv.flatMap LoadV.cells)]) [0, 1]).fresh Hp.keep.size (hraw _ hbc) (hdb.take _) (by omega) (by omega) hgb hbc hby hNC hN hgb (by omega)) ?_
               rintro e w68 (⟨nn, x, ss, AL2, AS2, cL2, nS2, cS2, D2, hst, hxl, hxr, hssl, hnS2, rfl, HSc, hD2⟩ | ⟨hst, rfl, HSc⟩)
               ·
                have H69 := cE (L1 := [aq fb [.sl gh oh 7 ch, .bool big, .slice AL nL cL, .slice AP nP cP, .slice As ns cs, vi] 33, aH 74 4 (.slice AL nL cL) nL (lv.flatMap LoadV.cells)]) (L2 := [aH 72 6 (.slice AP nP cP) nP (pv.flatMap PartV.cellsM), aq g2 [.ns, .bool false, .ns, .ns, .ns, .ns] 33, D]) Hp HSc
                refine ⟨_, rfl, ?_⟩
                refine av (.bool true) rfl (wn (ae (av (.bool true) rfl (bl (ao (ac ?_))))))
                have hstg : ∀ t : PSt, t.syms = s.syms → bP wd big xs (n4 big ds) (ds.take sz) t = some { t with loads := t.loads ++ [⟨4, (ds.take sz), [], [0, 0, 0, 0, 0, 0]⟩], syms := some ss } := fun t ht => by rw [hci, hwb]; unfold bP; rw [if_neg (by decide), if_neg (by decide), if_pos rfl]; exact hst t
                exact .inl ⟨fT od cd sz, m - sz, cd - sz, ds.drop sz, { s with loads := s.loads ++ [⟨4, (ds.take sz), [], [0, 0, 0, 0, 0, 0]⟩], syms := some ss }, op, stv, AL2, (nL + 1), cL2, AP, nP, cP, AS2, nS2, cS2, vi, lv ++ [x], pv, Res.all [D2, D], e0, e2, e4, by rw [hwb]; exact e5, rfl, e8, rfl, e75, e76, rfl, hdb.drop _, by rw [List.length_drop]; omega, by omega, by omega, hdat2, hstv, by omega, by omega, hnS2, ⟨_, _, _, hvi⟩, hF.good (by omega) hszn hno (hstg s rfl) (fun t ht => ⟨_, hstg t ht, rfl⟩), hD.sym (fun w hh => aV.1 hh D (by simp)) (fun w hh hb => ⟨⟨_, _, _, hxr, by rw [hxl]; exact hraw w hb⟩, by have h := (hD2 w (aV.1 hh D2 (by simp))).1; obtain ⟨A, n, c, e1, e2⟩ := h; exact ⟨A, n, c, e1, by rw [hxl]; exact e2⟩⟩) (by rw [hxl]; exact ⟨rfl, rfl, rfl, .inl rfl⟩) (fun w hh => (hD2 w (aV.1 hh D2 (by simp))).2) hssl, (H69.reAll [0, 5] [1, 2, 3, 4]).re [1, 2, 3, 4, 0]⟩
               ·
                have H70 := cE (L1 := [aq fb [.sl gh oh 7 ch, .bool big, .slice AL nL cL, .slice AP nP cP, .slice As ns cs, vi] 33, aH 74 4 (.slice AL nL cL) nL (lv.flatMap LoadV.cells)]) (L2 := [aH 72 6 (.slice AP nP cP) nP (pv.flatMap PartV.cellsM), aq g2 [.ns, .bool false, .ns, .ns, .ns, .ns] 33, D]) Hp HSc
                refine ⟨_, rfl, ?_⟩
                refine av (.bool false) rfl (wn (ae (av (.bool true) rfl (bl (ao (ac ?_))))))
                have hbad : eR wd big xs q4 ds0 ⟨[], [], none, none⟩ = none := hF.bad hszn (fun t ht => by rw [hci, hwb]; unfold bP; rw [if_neg (by decide), if_neg (by decide), if_pos rfl]; exact hst t)
                exact .inr ⟨dK hmag hof hq5n ha5 hq4n (by rw [hh0, ← hwd]; exact hbad), rfl, e2, H70.re [1]⟩
             ·
              by_cases hc11 : cmd = 11
              ·
               have hci : n4 big ds = 11 := by omega
               refine ae (wv rfl (aL rfl rfl (beq_eq_false_iff_ne.2 (by omega))) (av (.bool false) rfl (wn (aj rfl (sr (wv rfl (aL rfl rfl (beq_eq_false_iff_ne.2 (by omega))) (av (.bool false) rfl (wn (aj rfl (sr (wv rfl (aL rfl rfl (beq_eq_false_iff_ne.2 (by omega))) ?_)))))))))))
               refine av (.bool false) rfl (wn (aj rfl (sr (wv rfl (aL rfl rfl (beq_iff_eq.2 (by omega))) (av (.bool true) rfl (wn (ay rfl (sr (mg e0 rfl (mg e9 rfl (ms gb od sz cd rfl ?_)))))))))))
               refine wm rfl (ec CK31 (args := [.pt fb, .sl gb ob N C, .bool s.syms.isSome, .sl gb od sz cd]) (cc e4 (cc rfl (cc rfl (cc rfl (rfl))))) ?_)
               have Hp : St w aW ([aq fb [.sl gh oh 7 ch, .bool big, .slice AL nL cL, .slice AP nP cP, .slice As ns cs, vi] 33, aH 74 4 (.slice AL nL cL) nL (lv.flatMap LoadV.cells)] ++ [aH 72 6 (.slice AP nP cP) nP (pv.flatMap PartV.cellsM), aq g2 [.ns, .bool false, .ns, .ns, .ns, .ns] 33, D]) w53 := H54.re [0, 1, 2, 3, 4]
               have hbc := hr.keep0 H54.keep
               refine aa (rT (base := w.heap.size) (raw := (ds.take sz)) (gr := gb) (or_ := od) big _ (Hp.loc (L1 := [aq fb [.sl gh oh 7 ch, .bool big, .slice AL nL cL, .slice AP nP cP, .slice As ns cs, vi] 33, aH 74 4 (.slice AL nL cL) nL (lv.flatMap LoadV.cells)]) (L2 := [aH 72 6 (.slice AP nP cP) nP (pv.flatMap PartV.cellsM), aq g2 [.ns, .bool false, .ns, .ns, .ns, .ns] 33, D])) (Hp.re (L' := [aq fb [.sl gh oh 7 ch, .bool big, .slice AL nL cL, .slice AP nP cP, .slice As ns cs, vi] 33, aH 74 4 (.slice AL nL cL) nL (lv.flatMap LoadV.cells)]) [0, 1]).fresh Hp.keep.size (hraw _ hbc) (hdb.take _) (by omega) (by omega) hgb hbc hby hNC hN hgb (by omega) hns s.syms.isSome) ?_
               rintro e w71 (⟨ld, x, AL2, cL2, vi2, wds, D2, hsn, hst, hxl, hlw, hxr, rfl, HSc, hD2⟩ | ⟨rfl, hsn, HSc⟩ | ⟨hst, rfl, HSc⟩)
               ·
                have H72 := cE (L1 := [aq fb [.sl gh oh 7 ch, .bool big, .slice AL nL cL, .slice AP nP cP, .slice As ns cs, vi] 33, aH 74 4 (.slice AL nL cL) nL (lv.flatMap LoadV.cells)]) (L2 := [aH 72 6 (.slice AP nP cP) nP (pv.flatMap PartV.cellsM), aq g2 [.ns, .bool false, .ns, .ns, .ns, .ns] 33, D]) Hp HSc
                refine ⟨_, rfl, ?_⟩
                refine ai 0 rfl (wn (sr (mi 0 rfl (wv rfl (bJ (c := true) rfl rfl rfl) (av (.bool true) rfl (wn (ae (mg e8 rfl (mi 0 rfl (wv rfl (nC (c := stv) rfl rfl (by cases op <;> simp at hstv <;> subst hstv <;> decide)) (ai stv rfl ?_)))))))))))
                refine bl (ao (ac ?_))
                obtain ⟨ss, hss⟩ : ∃ ss, s.syms = some ss := Option.isSome_iff_exists.1 hsn
                have hsl : ss.length = ns := by have := hD.sn; rw [hss] at this; exact this
                have hstg : ∀ t : PSt, t.syms = s.syms → bP wd big xs (n4 big ds) (ds.take sz) t = some { t with loads := t.loads ++ [ld], ind := some wds } := fun t ht => by rw [hci]; unfold bP; rw [if_neg (by decide), if_neg (by decide), if_neg (by decide), if_pos rfl]; exact hst t ss (by rw [ht]; exact hss) hsl
                exact .inl ⟨fT od cd sz, m - sz, cd - sz, ds.drop sz, { s with loads := s.loads ++ [ld], ind := some wds }, op, stv, AL2, (nL + 1), cL2, AP, nP, cP, As, ns, cs, vi2, lv ++ [x], pv, Res.all [D2, D], e0, e2, e4, e5, rfl, rfl, e9, e75, e76, rfl, hdb.drop _, by rw [List.length_drop]; omega, by omega, by omega, hdat2, hstv, by omega, by omega, hns, (by obtain ⟨_, _, _, e, _⟩ := (hD2 _ (H72.g 0 rfl)).2; exact ⟨_, _, _, e⟩), hF.good (by omega) hszn hno (hstg s rfl) (fun t ht => ⟨_, hstg t ht, ht⟩), hD.dys (fun w hh => aV.1 hh D (by simp)) (fun w hh hb => ⟨⟨_, _, _, hxr, by rw [hxl, hlw]; exact hraw w hb⟩, by have h := (hD2 w (aV.1 hh D2 (by simp))).1; obtain ⟨A, n, c, e1, e2⟩ := h; exact ⟨A, n, c, e1, by rw [hxl]; exact e2⟩⟩) (by rw [hxl]; exact ⟨rfl, rfl, rfl, .inr rfl⟩) (fun w hh => (hD2 w (aV.1 hh D2 (by simp))).2), (H72.reAll [0, 5] [1, 2, 3, 4]).re [1, 2, 3, 4, 0]⟩
               ·
                have H73 := cE (L1 := [aq fb [.sl gh oh 7 ch, .bool big, .slice AL nL cL, .slice AP nP cP, .slice As ns cs, vi] 33, aH 74 4 (.slice AL nL cL) nL (lv.flatMap LoadV.cells)]) (L2 := [aH 72 6 (.slice AP nP cP) nP (pv.flatMap PartV.cellsM), aq g2 [.ns, .bool false, .ns, .ns, .ns, .ns] 33, D]) Hp HSc
                refine ⟨_, rfl, ?_⟩
                refine ai 2 rfl (wn (sr (mi 2 rfl (wv rfl (bJ (c := true) rfl rfl rfl) (av (.bool true) rfl (wn (ae (mg e8 rfl (mi 2 rfl (wv rfl (nC (c := 2) rfl rfl (by cases op <;> simp at hstv <;> subst hstv <;> decide)) (ai 2 rfl ?_)))))))))))
                refine bl (ao (ac ?_))
                exact .inl ⟨fT od cd sz, m - sz, cd - sz, ds.drop sz, s, true, 2, AL, nL, cL, AP, nP, cP, As, ns, cs, vi, lv, pv, D, e0, e2, e4, e5, rfl, rfl, e9, e75, e76, rfl, hdb.drop _, by rw [List.length_drop]; omega, by omega, by omega, hdat2, rfl, by omega, by omega, hns, ⟨_, _, _, hvi⟩, hF.opn (by omega) hszn hno hci, hD, H73.re [0, 1, 2, 3, 4]⟩
               ·
                have H74 := cE (L1 := [aq fb [.sl gh oh 7 ch, .bool big, .slice AL nL cL, .slice AP nP cP, .slice As ns cs, vi] 33, aH 74 4 (.slice AL nL cL) nL (lv.flatMap LoadV.cells)]) (L2 := [aH 72 6 (.slice AP nP cP) nP (pv.flatMap PartV.cellsM), aq g2 [.ns, .bool false, .ns, .ns, .ns, .ns] 33, D]) Hp HSc
                refine ⟨_, rfl, ?_⟩
                refine ai 1 rfl (wn (sr (mi 1 rfl (wv rfl (bJ (c := false) rfl rfl rfl) (av (.bool false) rfl (wn (ae (mg e8 rfl (mi 1 rfl (wv rfl (nC (c := max stv 1) rfl rfl (by cases op <;> simp at hstv <;> subst hstv <;> decide)) (ai (max stv 1) rfl ?_)))))))))))
                refine bl (ao (ac ?_))
                have hbad : eR wd big xs q4 ds0 ⟨[], [], none, none⟩ = none := hF.bad hszn (fun t ht => by rw [hci]; unfold bP; rw [if_neg (by decide), if_neg (by decide), if_neg (by decide), if_pos rfl]; exact hst t (by rw [ht]) (fun ss hss => by have := hD.sn; rw [← ht, hss] at this; exact this))
                exact .inr ⟨dK hmag hof hq5n ha5 hq4n (by rw [hh0, ← hwd]; exact hbad), rfl, e2, H74.re [1]⟩
              ·
               by_cases hc12 : cmd = 12
               ·
                have hci : n4 big ds = 12 := by omega
                refine ae (wv rfl (aL rfl rfl (beq_eq_false_iff_ne.2 (by omega))) (av (.bool false) rfl (wn (aj rfl (sr (wv rfl (aL rfl rfl (beq_eq_false_iff_ne.2 (by omega))) (av (.bool false) rfl (wn (aj rfl (sr (wv rfl (aL rfl rfl (beq_eq_false_iff_ne.2 (by omega))) ?_)))))))))))
                refine av (.bool false) rfl (wn (aj rfl (sr (wv rfl (aL rfl rfl (beq_eq_false_iff_ne.2 (by omega))) (av (.bool false) rfl (wn (aj rfl (sr (wv rfl (aL rfl rfl (beq_iff_eq.2 (by omega))) (av (.bool true) rfl (wn ?_)))))))))))
                refine ay rfl (ae (ms gb od sz cd rfl (wm rfl (ec CK32 (args := [.pt fb, .i64 2, .i64 3, .sl gb od sz cd]) (cc e4 (cc rfl (cc rfl (cc rfl (rfl))))) ?_))))
                have Hp : St w aW ([aq fb [.sl gh oh 7 ch, .bool big, .slice AL nL cL, .slice AP nP cP, .slice As ns cs, vi] 33, aH 74 4 (.slice AL nL cL) nL (lv.flatMap LoadV.cells)] ++ [aH 72 6 (.slice AP nP cP) nP (pv.flatMap PartV.cellsM), aq g2 [.ns, .bool false, .ns, .ns, .ns, .ns] 33, D]) w53 := H54.re [0, 1, 2, 3, 4]
                have hbc := hr.keep0 H54.keep
                refine aa (rN (base := w.heap.size) (raw := (ds.take sz)) (gr := gb) (or_ := od) big _ (Hp.loc (L1 := [aq fb [.sl gh oh 7 ch, .bool big, .slice AL nL cL, .slice AP nP cP, .slice As ns cs, vi] 33, aH 74 4 (.slice AL nL cL) nL (lv.flatMap LoadV.cells)]) (L2 := [aH 72 6 (.slice AP nP cP) nP (pv.flatMap PartV.cellsM), aq g2 [.ns, .bool false, .ns, .ns, .ns, .ns] 33, D])) (Hp.re (L' := [aq fb [.sl gh oh 7 ch, .bool big, .slice AL nL cL, .slice AP nP cP, .slice As ns cs, vi] 33, aH 74 4 (.slice AL nL cL) nL (lv.flatMap LoadV.cells)]) [0, 1]).fresh Hp.keep.size (hraw _ hbc) (hdb.take _) (by omega) (by omega) hgb (by omega)) ?_
                rintro e w75 (⟨ld, x, AL2, cL2, D2, hst, hxl, hlw, hxr, rfl, HSc, hD2⟩ | ⟨hst, rfl, HSc⟩)
                ·
                 have H76 := cE (L1 := [aq fb [.sl gh oh 7 ch, .bool big, .slice AL nL cL, .slice AP nP cP, .slice As ns cs, vi] 33, aH 74 4 (.slice AL nL cL) nL (lv.flatMap LoadV.cells)]) (L2 := [aH 72 6 (.slice AP nP cP) nP (pv.flatMap PartV.cellsM), aq g2 [.ns, .bool false, .ns, .ns, .ns, .ns] 33, D]) Hp HSc
                 refine ⟨_, rfl, ?_⟩
                 refine av (.bool true) rfl (bl (ao (ac ?_)))
                 have hstg : ∀ t : PSt, t.syms = s.syms → bP wd big xs (n4 big ds) (ds.take sz) t = some { t with loads := t.loads ++ [ld] } := fun t ht => by rw [hci]; unfold bP; rw [if_neg (by decide), if_pos rfl]; exact hst t
                 exact .inl ⟨fT od cd sz, m - sz, cd - sz, ds.drop sz, { s with loads := s.loads ++ [ld] }, op, stv, AL2, (nL + 1), cL2, AP, nP, cP, As, ns, cs, vi, lv ++ [x], pv, Res.all [D2, D], e0, e2, e4, e5, rfl, e8, e9, e75, e76, rfl, hdb.drop _, by rw [List.length_drop]; omega, by omega, by omega, hdat2, hstv, by omega, by omega, hns, ⟨_, _, _, hvi⟩, hF.good (by omega) hszn hno (hstg s rfl) (fun t ht => ⟨_, hstg t ht, ht⟩), hD.load (fun w hh => aV.1 hh D (by simp)) (fun w hh hb => ⟨⟨_, _, _, hxr, by rw [hxl, hlw]; exact hraw w hb⟩, by have h := (hD2 w (aV.1 hh D2 (by simp))); obtain ⟨A, n, c, e1, e2⟩ := h; exact ⟨A, n, c, e1, by rw [hxl]; exact e2⟩⟩) (by rw [hxl]; exact ⟨rfl, rfl, rfl, .inr rfl⟩), (H76.reAll [0, 5] [1, 2, 3, 4]).re [1, 2, 3, 4, 0]⟩
                ·
                 have H77 := cE (L1 := [aq fb [.sl gh oh 7 ch, .bool big, .slice AL nL cL, .slice AP nP cP, .slice As ns cs, vi] 33, aH 74 4 (.slice AL nL cL) nL (lv.flatMap LoadV.cells)]) (L2 := [aH 72 6 (.slice AP nP cP) nP (pv.flatMap PartV.cellsM), aq g2 [.ns, .bool false, .ns, .ns, .ns, .ns] 33, D]) Hp HSc
                 refine ⟨_, rfl, ?_⟩
                 refine av (.bool false) rfl (bl (ao (ac ?_)))
                 have hbad : eR wd big xs q4 ds0 ⟨[], [], none, none⟩ = none := hF.bad hszn (fun t ht => by rw [hci]; unfold bP; rw [if_neg (by decide), if_pos rfl]; exact hst t)
                 exact .inr ⟨dK hmag hof hq5n ha5 hq4n (by rw [hh0, ← hwd]; exact hbad), rfl, e2, H77.re [1]⟩
               ·
                by_cases hc2147483676 : cmd = 2147483676
                ·
                 have hci : n4 big ds = 2147483676 := by omega
                 refine ae (wv rfl (aL rfl rfl (beq_eq_false_iff_ne.2 (by omega))) (av (.bool false) rfl (wn (aj rfl (sr (wv rfl (aL rfl rfl (beq_eq_false_iff_ne.2 (by omega))) (av (.bool false) rfl (wn (aj rfl (sr (wv rfl (aL rfl rfl (beq_eq_false_iff_ne.2 (by omega))) ?_)))))))))))
                 refine av (.bool false) rfl (wn (aj rfl (sr (wv rfl (aL rfl rfl (beq_eq_false_iff_ne.2 (by omega))) (av (.bool false) rfl (wn (aj rfl (sr (wv rfl (aL rfl rfl (beq_eq_false_iff_ne.2 (by omega))) (av (.bool false) rfl (wn ?_)))))))))))
                 refine aj rfl (sr (wv rfl (aL rfl rfl (beq_iff_eq.2 (by omega))) (av (.bool true) rfl (wn (ay rfl (ae (ms gb od sz cd rfl (wm rfl (ec CK32 (args := [.pt fb, .i64 3, .i64 0, .sl gb od sz cd]) (cc e4 (cc rfl (cc rfl (cc rfl (rfl))))) ?_)))))))))
                 have Hp : St w aW ([aq fb [.sl gh oh 7 ch, .bool big, .slice AL nL cL, .slice AP nP cP, .slice As ns cs, vi] 33, aH 74 4 (.slice AL nL cL) nL (lv.flatMap LoadV.cells)] ++ [aH 72 6 (.slice AP nP cP) nP (pv.flatMap PartV.cellsM), aq g2 [.ns, .bool false, .ns, .ns, .ns, .ns] 33, D]) w53 := H54.re [0, 1, 2, 3, 4]
                 have hbc := hr.keep0 H54.keep
                 refine aa (pb (base := w.heap.size) (raw := (ds.take sz)) (gr := gb) (or_ := od) big _ (Hp.loc (L1 := [aq fb [.sl gh oh 7 ch, .bool big, .slice AL nL cL, .slice AP nP cP, .slice As ns cs, vi] 33, aH 74 4 (.slice AL nL cL) nL (lv.flatMap LoadV.cells)]) (L2 := [aH 72 6 (.slice AP nP cP) nP (pv.flatMap PartV.cellsM), aq g2 [.ns, .bool false, .ns, .ns, .ns, .ns] 33, D])) (Hp.re (L' := [aq fb [.sl gh oh 7 ch, .bool big, .slice AL nL cL, .slice AP nP cP, .slice As ns cs, vi] 33, aH 74 4 (.slice AL nL cL) nL (lv.flatMap LoadV.cells)]) [0, 1]).fresh Hp.keep.size (hraw _ hbc) (hdb.take _) (by omega) (by omega) hgb (by omega)) ?_
                 rintro e w78 (⟨ld, x, AL2, cL2, D2, hst, hxl, hlw, hxr, rfl, HSc, hD2⟩ | ⟨hst, rfl, HSc⟩)
                 ·
                  have H79 := cE (L1 := [aq fb [.sl gh oh 7 ch, .bool big, .slice AL nL cL, .slice AP nP cP, .slice As ns cs, vi] 33, aH 74 4 (.slice AL nL cL) nL (lv.flatMap LoadV.cells)]) (L2 := [aH 72 6 (.slice AP nP cP) nP (pv.flatMap PartV.cellsM), aq g2 [.ns, .bool false, .ns, .ns, .ns, .ns] 33, D]) Hp HSc
                  refine ⟨_, rfl, ?_⟩
                  refine av (.bool true) rfl (bl (ao (ac ?_)))
                  have hstg : ∀ t : PSt, t.syms = s.syms → bP wd big xs (n4 big ds) (ds.take sz) t = some { t with loads := t.loads ++ [ld] } := fun t ht => by rw [hci]; unfold bP; rw [if_pos rfl]; exact hst t
                  exact .inl ⟨fT od cd sz, m - sz, cd - sz, ds.drop sz, { s with loads := s.loads ++ [ld] }, op, stv, AL2, (nL + 1), cL2, AP, nP, cP, As, ns, cs, vi, lv ++ [x], pv, Res.all [D2, D], e0, e2, e4, e5, rfl, e8, e9, e75, e76, rfl, hdb.drop _, by rw [List.length_drop]; omega, by omega, by omega, hdat2, hstv, by omega, by omega, hns, ⟨_, _, _, hvi⟩, hF.good (by omega) hszn hno (hstg s rfl) (fun t ht => ⟨_, hstg t ht, ht⟩), hD.load (fun w hh => aV.1 hh D (by simp)) (fun w hh hb => ⟨⟨_, _, _, hxr, by rw [hxl, hlw]; exact hraw w hb⟩, by have h := (hD2 w (aV.1 hh D2 (by simp))); obtain ⟨A, n, c, e1, e2⟩ := h; exact ⟨A, n, c, e1, by rw [hxl]; exact e2⟩⟩) (by rw [hxl]; exact ⟨rfl, rfl, rfl, .inr rfl⟩), (H79.reAll [0, 5] [1, 2, 3, 4]).re [1, 2, 3, 4, 0]⟩
                 ·
                  have H80 := cE (L1 := [aq fb [.sl gh oh 7 ch, .bool big, .slice AL nL cL, .slice AP nP cP, .slice As ns cs, vi] 33, aH 74 4 (.slice AL nL cL) nL (lv.flatMap LoadV.cells)]) (L2 := [aH 72 6 (.slice AP nP cP) nP (pv.flatMap PartV.cellsM), aq g2 [.ns, .bool false, .ns, .ns, .ns, .ns] 33, D]) Hp HSc
                  refine ⟨_, rfl, ?_⟩
                  refine av (.bool false) rfl (bl (ao (ac ?_)))
                  have hbad : eR wd big xs q4 ds0 ⟨[], [], none, none⟩ = none := hF.bad hszn (fun t ht => by rw [hci]; unfold bP; rw [if_pos rfl]; exact hst t)
                  exact .inr ⟨dK hmag hof hq5n ha5 hq4n (by rw [hh0, ← hwd]; exact hbad), rfl, e2, H80.re [1]⟩
                ·
                 refine ae (wv rfl (aL rfl rfl (beq_eq_false_iff_ne.2 (by omega))) (av (.bool false) rfl (wn (aj rfl (sr (wv rfl (aL rfl rfl (beq_eq_false_iff_ne.2 (by omega))) (av (.bool false) rfl (wn (aj rfl (sr (wv rfl (aL rfl rfl (beq_eq_false_iff_ne.2 (by omega))) ?_)))))))))))
                 refine av (.bool false) rfl (wn (aj rfl (sr (wv rfl (aL rfl rfl (beq_eq_false_iff_ne.2 (by omega))) (av (.bool false) rfl (wn (aj rfl (sr (wv rfl (aL rfl rfl (beq_eq_false_iff_ne.2 (by omega))) (av (.bool false) rfl (wn ?_)))))))))))
                 refine aj rfl (sr (wv rfl (aL rfl rfl (beq_eq_false_iff_ne.2 (by omega))) (av (.bool false) rfl (wn (aj rfl (ae (wv rfl (ab dF e4) (wv rfl (H54.ld 0 rfl eS rfl (.slice AL nL cL) rfl) (ms gb od sz cd rfl (wv rfl (yz [.i64 0, .sl gb od sz cd, .string (⟨#[]⟩), .ns] rfl (by kernel_rfl)) (wm rfl ?_)))))))))))
                 refine jv H54 (ps := [(0, .agg #[.i64 0, .sl gb od sz cd, .string (⟨#[]⟩), .ns])]) (e := 74) (cs := [.i64 0, .sl gb od sz cd, .string (⟨#[]⟩), .ns]) rfl (by kernel_rfl) (fun g81 w82 hgg81 H83 =>  wm rfl (bR H83 2 (m := 1) (news := [.i64 0, .sl gb od sz cd, .string (⟨#[]⟩), .ns]) rfl ox oA rfl (by decide) rfl rfl rfl (H83.news (i := 0) rfl) (by simp [Value.oneCell']) (by simp only [maxLen]; omega) (by omega) (fun v84 w85 H86 =>  ?_)))
                 obtain ⟨A87, c88, rfl, _, _⟩ := aw (H86.g 2 rfl)
                 refine wv rfl (ab dF e4) (ws (es H86 1 2 (.slice A87 (nL + 1) c88) rfl eS (fun w90 H89 =>  ?_)))
                 refine bl (ao (ac ?_))
                 have hcur : lv.flatMap LoadV.cells ++ [.i64 0, .sl gb od sz cd, .string (⟨#[]⟩), .ns] = (lv ++ [(LoadV.mk (⟨0, (ds.take sz), [], []⟩ : LoadD) (.sl gb od sz cd) (.ns))]).flatMap LoadV.cells := by rw [List.flatMap_append, List.flatMap_singleton]; rfl
                 rw [hcur] at H89
                 have hstg : ∀ t : PSt, bP wd big xs (n4 big ds) (ds.take sz) t = some { t with loads := t.loads ++ [(⟨0, (ds.take sz), [], []⟩ : LoadD)] } := fun t => by unfold bP; rw [if_neg (show ¬ n4 big ds = 2147483676 by omega), if_neg (show ¬ n4 big ds = 12 by omega), if_neg (show ¬ n4 big ds = 2 by omega), if_neg (show ¬ n4 big ds = 11 by omega), if_neg (show ¬ n4 big ds = 1 by omega), if_neg (show ¬ n4 big ds = 25 by omega)]; rfl
                 exact .inl ⟨fT od cd sz, m - sz, cd - sz, ds.drop sz, { s with loads := s.loads ++ [(⟨0, (ds.take sz), [], []⟩ : LoadD)] }, op, stv, _, (nL + 1), _, AP, nP, cP, As, ns, cs, vi, lv ++ [(LoadV.mk (⟨0, (ds.take sz), [], []⟩ : LoadD) (.sl gb od sz cd) (.ns))], pv, D, e0, e2, e4, e5, rfl, e8, e9, e75, e76, rfl, hdb.drop _, by rw [List.length_drop]; omega, by omega, by omega, hdat2, hstv, by omega, by omega, hns, ⟨_, _, _, hvi⟩, hF.good (by omega) hszn hno (hstg s) (fun t ht => ⟨_, hstg t, ht⟩), hD.load (fun w h => h) (fun w _ hb => ⟨⟨_, _, _, rfl, hraw w hb⟩, _, _, _, rfl, RI.nil _ _ _⟩) ⟨rfl, rfl, rfl, .inr rfl⟩, H89.re [1, 2, 3, 4, 5]⟩
          ·
           rintro ρ5 w5 (⟨od, m, cd, ds, s, op, stv, AL, nL, cL, AP, nP, cP, As, ns, cs, vi, lv, pv, D, k0, k2, k4, k5, k7, k8, k9, k75, k76, k13, hdb, hdl, hmc, hmN, hdat, hstv, hnL, hnP, hns, ⟨_, _, _, hvi⟩, hF, hD, H5⟩ | ⟨hnone, k13, k2, H5⟩)
           ·
            refine sr (mg k13 rfl (wv rfl (bB rfl) (wn (aj rfl (cG (ao (ac (ae (wv rfl (aT (k := .u64) (c := ↑k + 1) k76 rfl (a6 (by omega) (by omega))) (mu (↑k + 1) rfl (wn ?_)))))))))))
            exact ⟨⟨k + 1, od, m, cd, ds, s, op, stv, AL, nL, cL, AP, nP, cP, As, ns, cs, vi, lv, pv, D, k0, k2, k4, k5, k7, k8, k9, k75, rfl, by omega, hdb, hdl, hmc, hmN, hdat, hstv, hnL, hnP, hns, ⟨_, _, _, hvi⟩, hF, hD, H5⟩, by show q4 + 1 - nv (.u64 (↑k + 1)) < q4 + 1 - nv (ρ4 76); rw [e76]; simp only [nv]; omega⟩
           ·
            refine sr (mg k13 rfl (wv rfl (bB rfl) (wn (ay rfl (sr (wv rfl (yb (ps := []) (cells := #[.ns, .bool false, .ns, .ns, .ns, .ns]) rfl (by kernel_rfl)) (ws (bE H5 0 (vs := [.ns, .bool false, .ns, .ns, .ns, .ns]) (m := 6) rfl jh k2 rfl rfl (nl rfl) (by simp [Value.oneCell']) (cs' := [.ns, .bool false, .ns, .ns, .ns, .ns]) rfl (fun w92 H91 =>  ?_)))))))))
            refine ai 1 rfl (wn (aQ (aB (ax (ax (aB (ax ?_)))))))
            exact ⟨.inr rfl, _, eB rfl jV (by exact k2) (H91.g 0 rfl) rfl (by exact rfl), .inr (.inr ⟨hnone, rfl, H91.keep⟩)⟩
        ·
         simp only [bx] at hb55
         refine cM rfl rfl (cM rfl rfl (cM rfl rfl (cM rfl rfl (cM rfl rfl (wv rfl (aD (b := true) (v := .bool true) rfl rfl) (wn (ay rfl (sr (wv rfl (yb (ps := []) (cells := #[.ns, .bool false, .ns, .ns, .ns, .ns]) rfl (by kernel_rfl)) (ws (bE H54 3 (vs := [.ns, .bool false, .ns, .ns, .ns, .ns]) (m := 6) rfl jh e2 rfl rfl (nl rfl) (by simp [Value.oneCell']) (cs' := [.ns, .bool false, .ns, .ns, .ns, .ns]) rfl (fun w94 H93 =>  ?_))))))))))))
         refine ai 1 rfl (wn (rq (aB (ax (ax (aB (ax ?_)))))))
         exact ⟨.inr rfl, _, eB rfl jV (by exact e2) (H93.g 3 rfl) rfl (by exact rfl), .inr (.inr ⟨dK hmag hof hq5n ha5 hq4n (by rw [hh0, ← hwd]; exact hF.n2 hszn (by omega)), rfl, H93.keep⟩)⟩
      ·
       simp only [bx] at hb44
       refine bF (a8 (a8 (aY (ac (ad ?_)))))
       have hkq : k = q4 := by omega
       cases op
       ·
        have hst0 : stv = 0 := hstv
        subst hst0
        have hI := pE (by rw [hr.1]; omega) hmag hof hq5n ha5 hq4n (s := s) (by rw [hh0, ← hwd, hF.1 rfl, show q4 - k = 0 by omega]; rfl)
        rw [← hh] at hI
        refine ae (wv rfl (H4.loadA (i := 0) (vs := [.sl gh oh 7 ch, .bool big, .slice AL nL cL, .slice AP nP cP, .slice As ns cs, vi]) rfl jV e4 rfl rfl) (mg e8 rfl (ws (bE H4 3 (vs := [.sl gh oh 7 ch, .bool big, .slice AL nL cL, .slice AP nP cP, .slice As ns cs, vi]) (m := 6) rfl jh e2 rfl rfl (nl rfl) (by simp [Value.oneCell', hvi]) (cs' := [.sl gh oh 7 ch, .bool big, .slice AL nL cL, .slice AP nP cP, .slice As ns cs, vi]) rfl (fun w96 H95 =>  ?_)))))
        refine ai 0 rfl (wn (aQ ?_))
        exact ⟨.inr rfl, _, eB rfl jV (by exact e2) (H95.g 3 rfl) rfl (by exact rfl), .inl ⟨_, _, Res.all [aH 74 4 (.slice AL nL cL) nL (lv.flatMap LoadV.cells), aH 72 6 (.slice AP nP cP) nP (pv.flatMap PartV.cellsM), D], hI, rfl, H95.reAll [1, 2, 4] [], fun w hh hb => by have hh := aV.1 hh; exact ⟨_, _, _, _, _, lv, pv, rfl, ⟨_, _, _, rfl, hD.hd w (hh D (by simp))⟩, (by obtain ⟨A, c, e, hv, _⟩ := aw (hh (aH 74 4 (.slice AL nL cL) nL (lv.flatMap LoadV.cells)) (by simp)); exact ⟨A, _, c, e, hv⟩), hD.lr, hD.ld w (hh D (by simp)) hb, (by obtain ⟨A, c, e, hv, _⟩ := aw (hh (aH 72 6 (.slice AP nP cP) nP (pv.flatMap PartV.cellsM)) (by simp)); exact ⟨A, _, c, e, hv⟩), hD.pm, hD.pt w (hh D (by simp)) hb, ⟨_, _, _, rfl, hD.sy w (hh D (by simp))⟩, hD.iv w (hh D (by simp))⟩⟩⟩
       ·
        have hst0 : stv = 2 := hstv
        subst hst0
        refine ae (wv rfl (H4.loadA (i := 0) (vs := [.sl gh oh 7 ch, .bool big, .slice AL nL cL, .slice AP nP cP, .slice As ns cs, vi]) rfl jV e4 rfl rfl) (mg e8 rfl (ws (bE H4 3 (vs := [.sl gh oh 7 ch, .bool big, .slice AL nL cL, .slice AP nP cP, .slice As ns cs, vi]) (m := 6) rfl jh e2 rfl rfl (nl rfl) (by simp [Value.oneCell', hvi]) (cs' := [.sl gh oh 7 ch, .bool big, .slice AL nL cL, .slice AP nP cP, .slice As ns cs, vi]) rfl (fun w98 H97 =>  ?_)))))
        refine ai 2 rfl (wn (aQ ?_))
        exact ⟨.inr rfl, _, eB rfl jV (by exact e2) (H97.g 3 rfl) rfl (by exact rfl), .inr (.inl ⟨_, _, _, _, _, _, _, _, _, _, _, _, _, _, rfl, ⟨_, _, _, hvi⟩, H97.keep⟩)⟩
     ·
      refine ae (mg g0 rfl (mg g6 rfl (wv rfl (ab iB g4) (wv rfl (H3.ld 0 rfl dP rfl (.sl gh oh 7 ch) rfl) (wv rfl (aI bA rfl rfl (by omega) (by omega)) (wv rfl (ah aM rfl (show World.cell? _ _ = some (.u64 (↑q5)) from (hDn _ (H3.g 2 rfl)).cellAt 5 (by omega))) (wE [.sl gb ob N C, .u64 (↑of), .u64 (↑q5)] fV rfl rfl (aa (dj _ (by omega) (by omega) hf5) ?_))))))))
      rintro e w100 ⟨rfl, HS99⟩
      have H101 := H3.cal0 HS99
      refine ⟨_, rfl, ?_⟩
      refine wv rfl (bB rfl) (wn (ay rfl (sr (wv rfl (yb (ps := []) (cells := #[.ns, .bool false, .ns, .ns, .ns, .ns]) rfl (by kernel_rfl)) (ws (bE H101 1 (vs := [.ns, .bool false, .ns, .ns, .ns, .ns]) (m := 6) rfl jh g2e rfl rfl (nl rfl) (by simp [Value.oneCell']) (cs' := [.ns, .bool false, .ns, .ns, .ns, .ns]) rfl (fun w103 H102 =>  ?_)))))))
      refine ai 1 rfl (wn (rq ?_))
      exact ⟨.inr rfl, _, eB rfl jV (by exact g2e) (H102.g 1 rfl) rfl (by exact rfl), .inr (.inr ⟨pF hmag hof hq5n (dD (by rw [hr.1]; exact hf5)), rfl, H102.keep⟩)⟩
end Go.Proofs.YtlndedfkgiafhaaDoor
namespace Go.Proofs.YtlndedfkgiafhaaDoor
open Go Go.RowKit Go.Proofs
theorem wN : FA 54 0 0 := fa (by kernel_rfl)
theorem wS : aX Tryd.prog 36 := aJ (by kernel_rfl)
theorem wM : FA 54 1 1 := fa (by kernel_rfl)
theorem TL50 : Tryd.prog.underlying 50 = some (.slice (Tryd.prog.elem 50)) := by kernel_rfl
theorem TL29 : Tryd.prog.underlying 29 = some (.slice (Tryd.prog.elem 29)) := by kernel_rfl
theorem TL51 : Tryd.prog.underlying 51 = some (.slice (Tryd.prog.elem 51)) := by kernel_rfl
theorem TL30 : Tryd.prog.underlying 30 = some (.slice (Tryd.prog.elem 30)) := by kernel_rfl
theorem TL52 : Tryd.prog.underlying 52 = some (.slice (Tryd.prog.elem 52)) := by kernel_rfl
theorem TS50 : cg Tryd.prog 50 96 4 := bZ (by kernel_rfl)
theorem TS29 : cg Tryd.prog 29 74 4 := bZ (by kernel_rfl)
theorem TG74 : gN Tryd.prog 74 4 := dR (by kernel_rfl)
theorem uy : cQ Tryd.prog 74 [.i64 0, .ns, .string (⟨#[]⟩), .ns] := bv (by kernel_rfl)
theorem TZ74 : (Tryd.prog.info? 74).map (·.size) = some 4 := by kernel_rfl
theorem wA : FA 74 0 0 := fa (by kernel_rfl)
theorem wy : FA 74 2 2 := fa (by kernel_rfl)
theorem wo : FA 96 1 1 := fa (by kernel_rfl)
theorem wz : FA 74 1 1 := fa (by kernel_rfl)
theorem wx : FA 74 3 3 := fa (by kernel_rfl)
theorem TS51 : cg Tryd.prog 51 99 6 := bZ (by kernel_rfl)
theorem TG99 : gN Tryd.prog 99 6 := dR (by kernel_rfl)
theorem ux : cQ Tryd.prog 99 [.string (⟨#[]⟩), .string (⟨#[]⟩), .ns, .ns, .ns, .bool false] := bv (by kernel_rfl)
theorem TZ99 : (Tryd.prog.info? 99).map (·.size) = some 6 := by kernel_rfl
theorem TS30 : cg Tryd.prog 30 72 6 := bZ (by kernel_rfl)
theorem wg : FA 99 5 5 := fa (by kernel_rfl)
theorem wl : FA 99 0 0 := fa (by kernel_rfl)
theorem wD : FA 72 0 0 := fa (by kernel_rfl)
theorem wj : FA 99 1 1 := fa (by kernel_rfl)
theorem wC : FA 72 1 1 := fa (by kernel_rfl)
theorem wi : FA 99 2 2 := fa (by kernel_rfl)
theorem wB : FA 72 2 2 := fa (by kernel_rfl)
theorem wh : FA 99 4 4 := fa (by kernel_rfl)
theorem pz : FA 99 3 3 := fa (by kernel_rfl)
theorem tQ : cY Tryd.prog 97 := bz (by kernel_rfl)
theorem TL97 : Tryd.prog.underlying 97 = some (.slice (Tryd.prog.elem 97)) := by kernel_rfl
theorem TL65 : Tryd.prog.underlying 65 = some (.slice (Tryd.prog.elem 65)) := by kernel_rfl
theorem TS97 : cg Tryd.prog 97 101 7 := bZ (by kernel_rfl)
theorem TG101 : gN Tryd.prog 101 7 := dR (by kernel_rfl)
theorem TS65 : cg Tryd.prog 65 67 7 := bZ (by kernel_rfl)
theorem CK37 : aX Tryd.prog 37 := aJ (by kernel_rfl)
theorem TS52 : cg Tryd.prog 52 102 5 := bZ (by kernel_rfl)
theorem TG102 : gN Tryd.prog 102 5 := dR (by kernel_rfl)
theorem tH : cQ Tryd.prog 102 [.string (⟨#[]⟩), .u8 0, .u8 0, .u16 0, .u64 0] := bv (by kernel_rfl)
theorem TZ102 : (Tryd.prog.info? 102).map (·.size) = some 5 := by kernel_rfl
theorem TS31 : cg Tryd.prog 31 76 5 := bZ (by kernel_rfl)
theorem uV : FA 102 0 0 := fa (by kernel_rfl)
theorem uU : FA 102 1 1 := fa (by kernel_rfl)
theorem ww : FA 76 1 1 := fa (by kernel_rfl)
theorem uT : FA 102 2 2 := fa (by kernel_rfl)
theorem wu : FA 76 2 2 := fa (by kernel_rfl)
theorem uS : FA 102 3 3 := fa (by kernel_rfl)
theorem wt : FA 76 3 3 := fa (by kernel_rfl)
theorem uR : FA 102 4 4 := fa (by kernel_rfl)
theorem wq : FA 76 4 4 := fa (by kernel_rfl)
theorem rQ {I : MF} {N : Nat} {xs : List Int} {c1 c2 : List Value} (w : World) (hF : uf w c1 (I.told N xs)) (hS : vG w c2 I N xs) (hB : I.small) :
 Calls Tryd.prog 14 #[.agg c1.toArray, .agg c2.toArray] w fun e w' => e = .returned (.bool true) ∧ St w aW [] w' := by
 obtain ⟨vh, vl, vp, vs, vi, lx, ps, rfl, ⟨Ah, nh, ch, rfl, hh⟩, ⟨Al, nl, cl, rfl, hl⟩, hlx, hlo, ⟨Ap, np, cp, rfl, hp⟩, hpx, hpo, ⟨As, ns, cs, rfl, hs⟩, ⟨Ai, ni, ci, rfl, hi⟩⟩ := hF
 obtain ⟨vh, vl, vp, vs, vi, lv, pv, rfl, ⟨Bh, mh, dh, rfl, kh⟩, ⟨Bl, ml, dl, rfl, kl⟩, hlr, klo, ⟨Bp, mp, dp, rfl, kp⟩, kpm, kpo, ⟨Bs, ms, ds, rfl, ks⟩, ⟨Bi, mi, di, rfl, ki⟩⟩ := hS
 change lx.map LoadV.l = I.loads at hlx
 change ps.map PartV.p = (I.secs.map fun s => s.part N xs) at hpx
 change RV w As ns 5 (I.syms.flatMap Sym.cells) at hs
 change RI .u32 w Ai ni I.ind at hi
 change RI .u64 w Ah nh [I.h 0, I.h 1, I.h 2, I.h 3, I.h 4, I.h 5, I.h 6] at hh
 have q1 := hh.1
 have q2 := kh.1
 obtain rfl : nh = mh := by omega
 have q3 := RV.len hl it (by decide)
 have q4 := RV.len kl it (by decide)
 have q5 := hlr.1
 have q6 : lx.length = I.loads.length := by rw [← hlx, List.length_map]
 obtain rfl : nl = ml := by omega
 have q7 := RV.len hp lL (by decide)
 have q8 := RV.len kp lK (by decide)
 have q9 : ps.length = I.secs.length := by have := congrArg List.length hpx; simpa using this
 have q10 : pv.length = I.secs.length := by have := congrArg List.length kpm; simpa using this
 obtain rfl : np = mp := by omega
 have q11 := RV.len hs fR (by decide)
 have q12 := RV.len ks fR (by decide)
 obtain rfl : ns = ms := by omega
 have q13 := hi.1
 have q14 := ki.1
 obtain rfl : ni = mi := by omega
 obtain ⟨b1, b2, b3, b4, b5, b6⟩ := hB
 simp only [List.length_cons, List.length_nil] at q1 q2
 have hrbd : ∀ p ∈ (I.secs.map fun s => s.part N xs), p.rels.length ≤ 4294967295 := fun p hp => by obtain ⟨s, hs, e⟩ := List.mem_map.1 hp; rw [← e]; exact b3 s hs
 have hub : ∀ x ∈ lx, x.l.nums.length ≤ 4294967295 := fun x hx => b6 _ (by rw [← hlx]; exact List.mem_map_of_mem hx)
 have hpn : ∀ p ∈ (I.secs.map fun s => s.part N xs), p.nums.length = 7 := fun p hp => by obtain ⟨s, hs, e⟩ := List.mem_map.1 hp; rw [← e]; rfl
 refine a5 (args := [.agg #[.slice Ah nh ch, .bool I.big, .slice Al nl cl, .slice Ap np cp, .slice As ns cs, .slice Ai ni ci], .agg #[.slice Bh nh dh, .bool I.big, .slice Bl nl dl, .slice Bp np dp, .slice Bs ns ds, .slice Bi ni di]]) Tryd.func14 rfl rfl rfl ?_
 have H0 := St.nil w aW
 refine sr (wm rfl (ee H0 (vs := [.slice Ah nh ch, .bool I.big, .slice Al nl cl, .slice Ap np cp, .slice As ns cs, .slice Ai ni ci]) rfl rfl (fun g1 w2 hgg1 H3 =>  wm rfl (ee H3 (vs := [.slice Bh nh dh, .bool I.big, .slice Bl nl dl, .slice Bp np dp, .slice Bs ns ds, .slice Bi ni di]) rfl rfl (fun g4 w5 hgg4 H6 =>  av (.bool false) rfl (wn (ad (sr (wf wN rfl (wv rfl (H6.ld 1 rfl dP rfl (.slice Ah nh ch) rfl) (wf iB rfl ?_)))))))))))
 refine wv rfl (H6.ld 0 rfl dP rfl (.slice Bh nh dh) rfl) (wE [.slice Ah nh ch, .slice Bh nh dh] wS rfl rfl (aa (pa (xs := [I.h 0, I.h 1, I.h 2, I.h 3, I.h 4, I.h 5, I.h 6]) _ (hh.keep0 H6.keep) (kh.keep0 H6.keep) (by omega)) ?_))
 rintro e w8 ⟨rfl, HS7⟩
 have H9 := H6.cal0 HS7
 refine ⟨_, rfl, ?_⟩
 refine wv rfl (bB rfl) (mv (.bool false) rfl (aP rfl rfl (ab wM rfl) (aP rfl rfl (H9.ld 1 rfl cU rfl (.bool I.big) rfl) (aP rfl rfl (ab cO rfl) (aP rfl rfl (H9.ld 0 rfl cU rfl (.bool I.big) rfl) (aP rfl rfl (nB (a := I.big) TU4 rfl rfl) (wv rfl (aD (b := false) (v := .bool false) rfl rfl) (mv (.bool false) rfl (aP rfl rfl (ab mS rfl) (aP rfl rfl (H9.ld 1 rfl rp rfl (.slice Al nl cl) rfl) (aP rfl rfl (ba TL50 rfl) ?_)))))))))))
 refine aP rfl rfl (ab dF rfl) (aP rfl rfl (H9.ld 0 rfl eS rfl (.slice Bl nl dl) rfl) (aP rfl rfl (ba TL29 rfl) (aP rfl rfl (bJ rfl rfl (bne_eq_false_iff_eq.2 (rfl))) (wv rfl (aD (b := false) (v := .bool false) rfl rfl) (mv (.bool false) rfl (aP rfl rfl (ab gI rfl) (aP rfl rfl (H9.ld 1 rfl jb rfl (.slice Ap np cp) rfl) (aP rfl rfl (ba TL51 rfl) (aP rfl rfl (ab jY rfl) (aP rfl rfl (H9.ld 0 rfl mz rfl (.slice Bp np dp) rfl) (aP rfl rfl (ba TL30 rfl) ?_)))))))))))
 refine aP rfl rfl (bJ rfl rfl (bne_eq_false_iff_eq.2 (rfl))) (wv rfl (aD (b := false) (v := .bool false) rfl rfl) (mv (.bool false) rfl (aP rfl rfl (ab p2 rfl) (aP rfl rfl (H9.ld 1 rfl tR rfl (.slice As ns cs) rfl) (aP rfl rfl (ba TL52 rfl) (aP rfl rfl (ab fO rfl) (aP rfl rfl (H9.ld 0 rfl iD rfl (.slice Bs ns ds) rfl) (aP rfl rfl (ba u3 rfl) (aP rfl rfl (bJ rfl rfl (bne_eq_false_iff_eq.2 (rfl))) (wv rfl (aD (b := false) (v := .bool false) rfl rfl) (mv (.bool false) rfl ?_)))))))))))
 refine aP rfl rfl (ab lC rfl) (aP rfl rfl (H9.ld 1 rfl gU rfl (.slice Ai ni ci) rfl) (aP rfl rfl (ba u4 rfl) (aP rfl rfl (ab lD rfl) (aP rfl rfl (H9.ld 0 rfl gU rfl (.slice Bi ni di) rfl) (aP rfl rfl (ba u4 rfl) (aP rfl rfl (bJ rfl rfl (bne_eq_false_iff_eq.2 (rfl))) (wv rfl (aD (b := false) (v := .bool false) rfl rfl) (wn (aj rfl (wk (ad ?_)))))))))))
 refine sr (wf mS rfl (wv rfl (H9.ld 1 rfl rp rfl (.slice Al nl cl) rfl) (wv rfl (ba TL50 rfl) (mi 0 rfl (wn (aC ?_))))))
 have H40 : St w aW [aq g1 [.slice Ah nh ch, .bool I.big, .slice Al nl cl, .slice Ap np cp, .slice As ns cs, .slice Ai ni ci] 54, aq g4 [.slice Bh nh dh, .bool I.big, .slice Bl nl dl, .slice Bp np dp, .slice Bs ns ds, .slice Bi ni di] 33] w8 := H9.re [1, 0]
 refine bW (fun ρ w' => ∃ (i : Nat), ρ 2 = .pt g1 ∧ ρ 3 = .pt g4 ∧ ρ 66 = .slice Al nl cl ∧ ρ 67 = .i64 (↑nl) ∧ ρ 68 = .i64 ↑i ∧ i ≤ nl ∧ St w aW [aq g1 [.slice Ah nh ch, .bool I.big, .slice Al nl cl, .slice Ap np cp, .slice As ns cs, .slice Ai ni ci] 54, aq g4 [.slice Bh nh dh, .bool I.big, .slice Bl nl dl, .slice Bp np dp, .slice Bs ns ds, .slice Bi ni di] 33] w') (fun ρ _ => nl + 1 - nv (ρ 68)) (⟨0, rfl, rfl, rfl, rfl, rfl, by omega, H40⟩) ?_
 rintro ρ4 w4 ⟨i, a4_2, a4_3, a4_66, a4_67, a4_c, hi4, H4⟩
 refine sr (wv rfl (cx a4_c a4_67) (wn (ad ?_)))
 refine cf rfl (fun hb10 => ?_) (fun hb10 => ?_)
 ·
  simp only [bx] at hb10
  refine wk (ad (aC (ad ?_)))
  have hin : i < nl := by omega
  obtain ⟨x, hx⟩ : ∃ x, lx[i]? = some x := ⟨lx[i]'(by omega), List.getElem?_eq_getElem _⟩
  obtain ⟨y, hy⟩ : ∃ y, lv[i]? = some y := ⟨lv[i]'(by omega), List.getElem?_eq_getElem _⟩
  obtain ⟨⟨Ar, nr, cr, e1, r1⟩, An, nn, cn, e2, r2⟩ := hlo x (List.mem_of_getElem? hx)
  obtain ⟨⟨Br, mr, dr, f1, s1⟩, Bn, mn, dn, f2, s2⟩ := klo y (List.mem_of_getElem? hy)
  have hlr2 := hlr.2 i y x.l hy (fK hlx hx)
  obtain ⟨_, gl, ol, el, hcl⟩ := hl.at_ it hx (by decide)
  obtain ⟨_, gm, om, em, hcm⟩ := kl.at_ it hy (by decide)
  obtain ⟨⟨k1, b1, n1, u1⟩, vr, vn⟩ := x
  obtain ⟨⟨k2, b2, n2, u2⟩, wr, wn⟩ := y
  obtain ⟨q1, q2, q3, hnum⟩ := hlr2
  dsimp only at e1 e2 f1 f2 r1 r2 s1 s2 q1 q2 q3 hnum
  subst e1; subst e2; subst f1; subst f2; subst q1; subst q2; subst q3
  have hmr : mr = nr := by rw [← s1.1, ← r1.1]
  subst hmr
  have hrA := r1.1
  subst el; subst em
  refine ae (mg a4_c rfl (wv rfl (bU i TS50 a4_66 a4_c rfl (by omega) rfl) (wv rfl (dI (cs := [.i64 k2, .slice Ar mr cr, .str n2, .slice An nn cn]) (o := ol + i * 4) fp rfl (fun j v hj => H4.keep.cell (hcl j v hj) (aN _)) rfl) (wm rfl (aK H4 dS (fun g11 w12 hgg11 H13 =>  ai (↑i) rfl (ws (eN H13 0 [.i64 k2, .slice Ar mr cr, .str n2, .slice An nn cn] rfl ic (fun w15 H14 =>  ?_)))))))))
  refine wn (sr (wv rfl (ab dF a4_3) (wv rfl (H14.ld 2 rfl eS rfl (.sl gm om nl dl) rfl) (mi (↑i) rfl (wv rfl (bU i TS29 rfl rfl rfl (by omega) rfl) (wv rfl (dI (cs := [.i64 k2, .slice Br mr dr, .str n2, .slice Bn mn dn]) (o := om + i * 4) TG74 rfl (fun j v hj => H14.keep.cell (hcm j v hj) (aN _)) rfl) (wm rfl (aK H14 uy (fun g16 w17 hgg16 H18 =>  ws (eN H18 0 [.i64 k2, .slice Br mr dr, .str n2, .slice Bn mn dn] rfl TZ74 (fun w20 H19 =>  ?_)))))))))))
  refine wn (sr (wf jj rfl (wv rfl (H19.ld 1 rfl jk rfl (.i64 k2) rfl) (wf wA rfl (wv rfl (H19.ld 0 rfl jk rfl (.i64 k2) rfl) (wv rfl (bJ rfl rfl (bne_eq_false_iff_eq.2 (rfl))) (mv (.bool false) rfl (aP rfl rfl (ab jW rfl) (aP rfl rfl (H19.ld 1 rfl d9 rfl (.str n2) rfl) (aP rfl rfl (ab wy rfl) (aP rfl rfl (H19.ld 0 rfl d9 rfl (.str n2) rfl) ?_)))))))))))
  refine aP rfl rfl (eT rfl rfl) (wv rfl (aD (b := false) (v := .bool false) rfl rfl) (mv (.bool false) rfl (aP rfl rfl (ab wo rfl) (aP rfl rfl (H19.ld 1 rfl gB rfl (.slice Ar mr cr) rfl) (aP rfl rfl (dN cA kG lO rfl (xs := b2) (r1.keep0 H19.keep) r1.none0) (aP rfl rfl (ab wz rfl) (aP rfl rfl (H19.ld 0 rfl gB rfl (.slice Br mr dr) rfl) (aP rfl rfl (dN cA kG lO rfl (xs := b2) (s1.keep0 H19.keep) s1.none0) (aP rfl rfl (eT rfl rfl) (wv rfl (aD (b := false) (v := .bool false) rfl rfl) (mv (.bool false) rfl ?_)))))))))))
  refine aP rfl rfl (ab jj rfl) (aP rfl rfl (H19.ld 1 rfl jk rfl (.i64 k2) rfl) (aP rfl rfl (lb rfl rfl) (aP rfl rfl (al (v := .bool (k2 != 4)) rfl) ?_)))
  generalize hb21 : (k2 != 4) = bb
  cases bb
  ·
   simp only [bx] at hb21
   refine cM rfl rfl (cM rfl rfl (cM rfl rfl (cM rfl rfl (cM rfl rfl (cM rfl rfl (aP rfl rfl (aD (b := false) (v := .bool false) rfl rfl) (wv rfl (aD (b := false) (v := .bool false) rfl rfl) (wn (aj rfl (cG (ao ?_)))))))))))
   refine ac (ae (wv rfl (aT (k := .i64) (c := ↑i + 1) a4_c rfl (aE (by omega) (by omega))) (mi (↑i + 1) rfl (wn ?_))))
   exact ⟨⟨i + 1, a4_2, a4_3, a4_66, a4_67, rfl, by omega, H19.re [2, 3]⟩, by show nl + 1 - nv (.i64 (↑i + 1)) < nl + 1 - nv (ρ4 68); rw [a4_c]; simp only [nv]; omega⟩
  ·
   simp only [bx] at hb21
   have hu := hnum.resolve_left hb21
   subst hu
   have hmn : mn = nn := by rw [← s2.1, ← r2.1]
   subst hmn
   have hnb := hub _ (List.mem_of_getElem? hx)
   dsimp only at hnb
   rw [r2.1] at hnb
   refine aP rfl rfl (ab fN rfl) (aP rfl rfl (H19.ld 1 rfl dP rfl (.slice An mn cn) rfl) (aP rfl rfl (ab wx rfl) (aP rfl rfl (H19.ld 0 rfl dP rfl (.slice Bn mn dn) rfl) (sJ rfl rfl (ec wS (args := [.slice An mn cn, .slice Bn mn dn]) rfl (aa (pa (xs := u2) _ (r2.keep0 H19.keep) (s2.keep0 H19.keep) (by omega)) ?_))))))
   rintro e w23 ⟨rfl, HS22⟩
   have H24 := H19.cal0 HS22
   refine ⟨_, rfl, ?_⟩
   refine aP rfl rfl (bB rfl) (aP rfl rfl (aD (b := true) (v := .bool false) rfl rfl) (wv rfl (aD (b := false) (v := .bool false) rfl rfl) (wn (aj rfl (cG (ao (ac (ae (wv rfl (aT (k := .i64) (c := ↑i + 1) a4_c rfl (aE (by omega) (by omega))) (mi (↑i + 1) rfl (wn ?_)))))))))))
   exact ⟨⟨i + 1, a4_2, a4_3, a4_66, a4_67, rfl, by omega, H24.re [2, 3]⟩, by show nl + 1 - nv (.i64 (↑i + 1)) < nl + 1 - nv (ρ4 68); rw [a4_c]; simp only [nv]; omega⟩
 ·
  simp only [bx] at hb10
  refine bF (a8 (a8 (aY (ac (ad (sr (wv rfl (ab gI a4_2) (wv rfl (H4.ld 0 rfl jb rfl (.slice Ap np cp) rfl) (wv rfl (ba TL51 rfl) (mi 0 rfl (wn ?_)))))))))))
  refine aC ?_
  have H110 : St w aW [aq g1 [.slice Ah nh ch, .bool I.big, .slice Al nl cl, .slice Ap np cp, .slice As ns cs, .slice Ai ni ci] 54, aq g4 [.slice Bh nh dh, .bool I.big, .slice Bl nl dl, .slice Bp np dp, .slice Bs ns ds, .slice Bi ni di] 33] w4 := H4.re [0, 1]
  refine bW (fun ρ w' => ∃ (i : Nat), ρ 2 = .pt g1 ∧ ρ 3 = .pt g4 ∧ ρ 114 = .slice Ap np cp ∧ ρ 115 = .i64 (↑np) ∧ ρ 116 = .i64 ↑i ∧ i ≤ np ∧ St w aW [aq g1 [.slice Ah nh ch, .bool I.big, .slice Al nl cl, .slice Ap np cp, .slice As ns cs, .slice Ai ni ci] 54, aq g4 [.slice Bh nh dh, .bool I.big, .slice Bl nl dl, .slice Bp np dp, .slice Bs ns ds, .slice Bi ni di] 33] w') (fun ρ _ => np + 1 - nv (ρ 116)) (⟨0, a4_2, a4_3, rfl, rfl, rfl, by omega, H110⟩) ?_
  rintro ρ11 w11 ⟨i, a11_2, a11_3, a11_114, a11_115, a11_c, hi11, H11⟩
  refine sr (wv rfl (cx a11_c a11_115) (wn (ad ?_)))
  refine cf rfl (fun hb25 => ?_) (fun hb25 => ?_)
  ·
   simp only [bx] at hb25
   refine wk (ad (aC (ad ?_)))
   have hin : i < np := by omega
   obtain ⟨x, hx⟩ : ∃ x, ps[i]? = some x := ⟨ps[i]'(by omega), List.getElem?_eq_getElem _⟩
   obtain ⟨y, hy⟩ : ∃ y, pv[i]? = some y := ⟨pv[i]'(by omega), List.getElem?_eq_getElem _⟩
   obtain ⟨⟨An, nn, cn, e1, r1⟩, ⟨Ar, nr, cr, e2, r2⟩, Ad, nd, cd, e3, r3⟩ := hpo x (List.mem_of_getElem? hx)
   obtain ⟨⟨Bn, mn, dn, f1, s1⟩, ⟨Br, mr, dr, f2, s2⟩, Bd, md, dd, f3, s3⟩ := kpo y (List.mem_of_getElem? hy)
   have hxy : y.p = x.p := Option.some.inj ((fK kpm hy).symm.trans (fK hpx hx))
   obtain ⟨_, gl, ol, el, hcl⟩ := hp.at_ lL hx (by decide)
   obtain ⟨_, gm, om, em, hcm⟩ := kp.at_ lK hy (by decide)
   have hrb := hrbd x.p (List.mem_of_getElem? (fK hpx hx))
   obtain ⟨pd, vn, vr, vd⟩ := x
   obtain ⟨pe, wn, wr, wd⟩ := y
   dsimp only at hxy e1 e2 e3 f1 f2 f3 r1 r2 r3 s1 s2 s3 hrb
   subst hxy; subst e1; subst e2; subst e3; subst f1; subst f2; subst f3
   have q1 := r1.1
   have q2 := s1.1
   obtain rfl : mn = nn := by omega
   have q3 := RV.len r2 eg (by decide)
   have q4 := RV.len s2 eg (by decide)
   obtain rfl : mr = nr := by omega
   have q5 := r3.1
   have q6 := s3.1
   obtain rfl : md = nd := by omega
   have hn7 := hpn _ (List.mem_of_getElem? (fK hpx hx))
   dsimp only at hn7
   subst el; subst em
   refine ae (mg a11_c rfl (wv rfl (bU i TS51 a11_114 a11_c rfl (by omega) rfl) (wv rfl (dI (cs := [.str pe.name, .str pe.seg, .slice An mn cn, .slice Ar mr cr, .slice Ad md cd, .bool pe.ok]) (o := ol + i * 6) TG99 rfl (fun j v hj => H11.keep.cell (hcl j v hj) (aN _)) rfl) (wm rfl (aK H11 ux (fun g26 w27 hgg26 H28 =>  ai (↑i) rfl (ws (eN H28 0 [.str pe.name, .str pe.seg, .slice An mn cn, .slice Ar mr cr, .slice Ad md cd, .bool pe.ok] rfl TZ99 (fun w30 H29 =>  ?_)))))))))
   refine wn (sr (wv rfl (ab jY a11_3) (wv rfl (H29.ld 2 rfl mz rfl (.sl gm om np dp) rfl) (mi (↑i) rfl (wv rfl (bU i TS30 rfl rfl rfl (by omega) rfl) (wv rfl (dI (cs := [.str pe.name, .str pe.seg, .slice Bn mn dn, .slice Br mr dr, .slice Bd md dd, .bool (!pe.ok)]) (o := om + i * 6) ji rfl (fun j v hj => H29.keep.cell (hcm j v hj) (aN _)) rfl) (wm rfl (aK H29 bX (fun g31 w32 hgg31 H33 =>  ws (eN H33 0 [.str pe.name, .str pe.seg, .slice Bn mn dn, .slice Br mr dr, .slice Bd md dd, .bool (!pe.ok)] rfl dv (fun w35 H34 =>  ?_)))))))))))
   refine wn (ad (sr (wf wg rfl (wv rfl (H34.ld 1 rfl cU rfl (.bool pe.ok) rfl) (wf lB rfl (wv rfl (H34.ld 0 rfl cU rfl (.bool (!pe.ok)) rfl) (wv rfl (nD (a := pe.ok) TU4 rfl rfl) (mv (.bool false) rfl (aP rfl rfl (ab wl rfl) (aP rfl rfl (H34.ld 1 rfl d9 rfl (.str pe.name) rfl) (aP rfl rfl (ab wD rfl) ?_)))))))))))
   refine aP rfl rfl (H34.ld 0 rfl d9 rfl (.str pe.name) rfl) (aP rfl rfl (eT rfl rfl) (wv rfl (aD (b := false) (v := .bool false) rfl rfl) (mv (.bool false) rfl (aP rfl rfl (ab wj rfl) (aP rfl rfl (H34.ld 1 rfl d9 rfl (.str pe.seg) rfl) (aP rfl rfl (ab wC rfl) (aP rfl rfl (H34.ld 0 rfl d9 rfl (.str pe.seg) rfl) (aP rfl rfl (eT rfl rfl) (wv rfl (aD (b := false) (v := .bool false) rfl rfl) (mv (.bool false) rfl (aP rfl rfl (ab wi rfl) ?_)))))))))))
   refine aP rfl rfl (H34.ld 1 rfl dP rfl (.slice An mn cn) rfl) (aP rfl rfl (ab wB rfl) (aP rfl rfl (H34.ld 0 rfl dP rfl (.slice Bn mn dn) rfl) (sJ rfl rfl (ec wS (args := [.slice An mn cn, .slice Bn mn dn]) rfl (aa (pa (xs := pe.nums) _ (r1.keep0 H34.keep) (s1.keep0 H34.keep) (by omega)) ?_)))))
   rintro e w37 ⟨rfl, HS36⟩
   have H38 := H34.cal0 HS36
   refine ⟨_, rfl, ?_⟩
   refine aP rfl rfl (bB rfl) (wv rfl (aD (b := false) (v := .bool false) rfl rfl) (mv (.bool false) rfl (aP rfl rfl (ab wh rfl) (aP rfl rfl (H38.ld 1 rfl gB rfl (.slice Ad md cd) rfl) (aP rfl rfl (dN cA kG lO rfl (xs := pe.data) (r3.keep0 H38.keep) r3.none0) (aP rfl rfl (ab p1 rfl) (aP rfl rfl (H38.ld 0 rfl gB rfl (.slice Bd md dd) rfl) (aP rfl rfl (dN cA kG lO rfl (xs := pe.data) (s3.keep0 H38.keep) s3.none0) (aP rfl rfl (eT rfl rfl) (wv rfl (aD (b := false) (v := .bool false) rfl rfl) (mv (.bool false) rfl ?_)))))))))))
   refine aP rfl rfl (ab pz rfl) (aP rfl rfl (H38.ld 1 rfl tQ rfl (.slice Ar mr cr) rfl) (aP rfl rfl (ba TL97 rfl) (aP rfl rfl (ab jX rfl) (aP rfl rfl (H38.ld 0 rfl my rfl (.slice Br mr dr) rfl) (aP rfl rfl (ba TL65 rfl) (aP rfl rfl (bJ rfl rfl (bne_eq_false_iff_eq.2 (rfl))) (wv rfl (aD (b := false) (v := .bool false) rfl rfl) (wn (aj rfl (wk (sr ?_)))))))))))
   refine wf pz rfl (wv rfl (H38.ld 1 rfl tQ rfl (.slice Ar mr cr) rfl) (wv rfl (ba TL97 rfl) (mi 0 rfl (wn (aC ?_)))))
   have H170 : St w aW [aq g1 [.slice Ah nh ch, .bool I.big, .slice Al nl cl, .sl gl ol np cp, .slice As ns cs, .slice Ai ni ci] 54, aq g4 [.slice Bh nh dh, .bool I.big, .slice Bl nl dl, .sl gm om np dp, .slice Bs ns ds, .slice Bi ni di] 33, aq g26 [.str pe.name, .str pe.seg, .slice An mn cn, .slice Ar mr cr, .slice Ad md cd, .bool pe.ok] 99, aq g31 [.str pe.name, .str pe.seg, .slice Bn mn dn, .slice Br mr dr, .slice Bd md dd, .bool (!pe.ok)] 72] w37 := H38.re [2, 3, 1, 0]
   refine bW (fun ρ w' => ∃ (j : Nat), ρ 2 = .pt g1 ∧ ρ 3 = .pt g4 ∧ ρ 9 = .pt g26 ∧ ρ 10 = .pt g31 ∧ ρ 114 = .sl gl ol np cp ∧ ρ 115 = .i64 (↑np) ∧ ρ 116 = .i64 (↑i) ∧ ρ 172 = .slice Ar mr cr ∧ ρ 173 = .i64 (↑mr) ∧ ρ 174 = .i64 ↑j ∧ j ≤ mr ∧ St w aW [aq g1 [.slice Ah nh ch, .bool I.big, .slice Al nl cl, .sl gl ol np cp, .slice As ns cs, .slice Ai ni ci] 54, aq g4 [.slice Bh nh dh, .bool I.big, .slice Bl nl dl, .sl gm om np dp, .slice Bs ns ds, .slice Bi ni di] 33, aq g26 [.str pe.name, .str pe.seg, .slice An mn cn, .slice Ar mr cr, .slice Ad md cd, .bool pe.ok] 99, aq g31 [.str pe.name, .str pe.seg, .slice Bn mn dn, .slice Br mr dr, .slice Bd md dd, .bool (!pe.ok)] 72] w') (fun ρ _ => mr + 1 - nv (ρ 174)) (⟨0, a11_2, a11_3, rfl, rfl, a11_114, a11_115, a11_c, rfl, rfl, rfl, by omega, H170⟩) ?_
   rintro ρ17 w17 ⟨j, a17_2, a17_3, a17_9, a17_10, a17_114, a17_115, a17_116, a17_172, a17_173, a17_c, hi17, H17⟩
   refine sr (wv rfl (cx a17_c a17_173) (wn (ad ?_)))
   refine cf rfl (fun hb39 => ?_) (fun hb39 => ?_)
   ·
    simp only [bx] at hb39
    refine wk (ad (aC (ad ?_)))
    have hjn : j < mr := by omega
    obtain ⟨rr, hrr⟩ : ∃ r, pe.rels[j]? = some r := ⟨pe.rels[j]'(by omega), List.getElem?_eq_getElem _⟩
    obtain ⟨_, gr, or_, er, hcr⟩ := r2.at_ eg hrr (by decide)
    obtain ⟨_, gs, os, es, hcs⟩ := s2.at_ eg hrr (by decide)
    subst er; subst es
    refine ae (mg a17_c rfl (ai (↑j) rfl (wn (ad ?_))))
    have H40 := H17.drew
    refine aO MX (fun w' => w'.cell? ⟨g26, 3, none⟩ = some (.sl gr or_ mr cr) ∧ w'.cell? ⟨g31, 3, none⟩ = some (.sl gs os mr dr) ∧ (∀ k v, (Rel.cells rr)[k]? = some v → w'.cell? ⟨gr, or_ + j * 7 + k, none⟩ = some v) ∧ (∀ k v, (Rel.cells rr)[k]? = some v → w'.cell? ⟨gs, os + j * 7 + k, none⟩ = some v)) (tr 0 10 (Pl.run 10 (Pl.take 11 Pl.done))) (by kernel_rfl) (⟨H40.c 2 3 rfl rfl, H40.c 3 3 rfl rfl, fun k v hk => H40.keep.cell (hcr k v hk) (aN _), fun k v hk => H40.keep.cell (hcs k v hk) (aN _)⟩) (qy rfl (ab (o := 0) pz a17_9) (qh rfl (fun hS => ah tQ rfl hS.1) (qm (.i64 (↑j)) rfl rfl (qy rfl (bU j TS97 rfl rfl rfl (by omega) rfl) (qh rfl (fun hS => dI (cs := [.u32 rr.addr, .u32 rr.value, .u8 rr.type, .u8 rr.len, .bool rr.pcrel, .bool rr.extern, .bool rr.scattered]) (o := or_ + j * 7) TG101 rfl (hS.2.2.1) rfl) (qy rfl (ab (o := 0) jX a17_10) (qh rfl (fun hS => ah my rfl hS.2.1) (qm (.i64 (↑j)) rfl rfl (qy rfl (bU j TS65 rfl rfl rfl (by omega) rfl) (qh rfl (fun hS => dI (cs := [.u32 rr.addr, .u32 rr.value, .u8 rr.type, .u8 rr.len, .bool rr.pcrel, .bool rr.extern, .bool rr.scattered]) (o := os + j * 7) u6 rfl (hS.2.2.2) rfl) (qr rfl ?_)))))))))))
    refine ec CK37 (args := [.agg #[.u32 rr.addr, .u32 rr.value, .u8 rr.type, .u8 rr.len, .bool rr.pcrel, .bool rr.extern, .bool rr.scattered], .agg #[.u32 rr.addr, .u32 rr.value, .u8 rr.type, .u8 rr.len, .bool rr.pcrel, .bool rr.extern, .bool rr.scattered]]) rfl (aa (rI (r := rr) _) ?_)
    rintro e w42 ⟨rfl, HS41⟩
    have H43 := H40.cal0 HS41
    refine ⟨_, rfl, ?_⟩
    refine ⟨⟨H43.c 2 3 rfl rfl, H43.c 3 3 rfl rfl, fun k v hk => H43.keep.cell (hcr k v hk) (aN _), fun k v hk => H43.keep.cell (hcs k v hk) (aN _)⟩, fun _ => trivial, ?_⟩
    refine qy rfl (bB rfl) (pn (aj rfl (cG (ao (ac (ae (wv rfl (aT (k := .i64) (c := ↑j + 1) a17_c rfl (aE (by omega) (by omega))) (mi (↑j + 1) rfl (wn ?_)))))))))
    exact ⟨⟨j + 1, a17_2, a17_3, a17_9, a17_10, a17_114, a17_115, a17_116, a17_172, a17_173, rfl, by omega, H43.re [0, 1, 2, 3]⟩, by show mr + 1 - nv (.i64 (↑j + 1)) < mr + 1 - nv (ρ17 174); rw [a17_c]; simp only [nv]; omega⟩
   ·
    simp only [bx] at hb39
    refine bF (a8 (a8 (aY (ao (ac (ae (wv rfl (aT (k := .i64) (c := ↑i + 1) a17_116 rfl (aE (by omega) (by omega))) (mi (↑i + 1) rfl (wn ?_)))))))))
    exact ⟨⟨i + 1, a17_2, a17_3, a17_114, a17_115, rfl, by omega, H17.re [0, 1]⟩, by show np + 1 - nv (.i64 (↑i + 1)) < np + 1 - nv (ρ11 116); rw [a11_c]; simp only [nv]; omega⟩
  ·
   simp only [bx] at hb25
   refine bF (a8 (a8 (aY (ac (ad (sr (wv rfl (ab p2 a11_2) (wv rfl (H11.ld 0 rfl tR rfl (.slice As ns cs) rfl) (wv rfl (ba TL52 rfl) (mi 0 rfl (wn ?_)))))))))))
   refine aC ?_
   have H240 : St w aW [aq g1 [.slice Ah nh ch, .bool I.big, .slice Al nl cl, .slice Ap np cp, .slice As ns cs, .slice Ai ni ci] 54, aq g4 [.slice Bh nh dh, .bool I.big, .slice Bl nl dl, .slice Bp np dp, .slice Bs ns ds, .slice Bi ni di] 33] w11 := H11.re [0, 1]
   refine bW (fun ρ w' => ∃ (i : Nat), ρ 2 = .pt g1 ∧ ρ 3 = .pt g4 ∧ ρ 192 = .slice As ns cs ∧ ρ 193 = .i64 (↑ns) ∧ ρ 194 = .i64 ↑i ∧ i ≤ ns ∧ St w aW [aq g1 [.slice Ah nh ch, .bool I.big, .slice Al nl cl, .slice Ap np cp, .slice As ns cs, .slice Ai ni ci] 54, aq g4 [.slice Bh nh dh, .bool I.big, .slice Bl nl dl, .slice Bp np dp, .slice Bs ns ds, .slice Bi ni di] 33] w') (fun ρ _ => ns + 1 - nv (ρ 194)) (⟨0, a11_2, a11_3, rfl, rfl, rfl, by omega, H240⟩) ?_
   rintro ρ24 w24 ⟨i, a24_2, a24_3, a24_192, a24_193, a24_c, hi24, H24⟩
   refine sr (wv rfl (cx a24_c a24_193) (wn (ad ?_)))
   refine cf rfl (fun hb44 => ?_) (fun hb44 => ?_)
   ·
    simp only [bx] at hb44
    refine wk (ad (aC (ad ?_)))
    have hin : i < ns := by omega
    obtain ⟨y, hy⟩ : ∃ y, I.syms[i]? = some y := ⟨I.syms[i]'(by omega), List.getElem?_eq_getElem _⟩
    obtain ⟨_, gl, ol, el, hcl⟩ := hs.at_ fR hy (by decide)
    obtain ⟨_, gm, om, em, hcm⟩ := ks.at_ fR hy (by decide)
    subst el; subst em
    refine ae (mg a24_c rfl (wv rfl (bU i TS52 a24_192 a24_c rfl (by omega) rfl) (wv rfl (dI (cs := [.str y.name, .u8 y.type, .u8 y.sect, .u16 y.desc, .u64 y.value]) (o := ol + i * 5) TG102 rfl (fun j v hj => H24.keep.cell (hcl j v hj) (aN _)) rfl) (wm rfl (aK H24 tH (fun g45 w46 hgg45 H47 =>  ai (↑i) rfl (ws (eN H47 0 [.str y.name, .u8 y.type, .u8 y.sect, .u16 y.desc, .u64 y.value] rfl TZ102 (fun w49 H48 =>  ?_)))))))))
    refine wn (sr (wv rfl (ab fO a24_3) (wv rfl (H48.ld 2 rfl iD rfl (.sl gm om ns ds) rfl) (mi (↑i) rfl (wv rfl (bU i TS31 rfl rfl rfl (by omega) rfl) (wv rfl (dI (cs := [.str y.name, .u8 y.type, .u8 y.sect, .u16 y.desc, .u64 y.value]) (o := om + i * 5) wb rfl (fun j v hj => H48.keep.cell (hcm j v hj) (aN _)) rfl) (wm rfl (aK H48 j7 (fun g50 w51 hgg50 H52 =>  ws (eN H52 0 [.str y.name, .u8 y.type, .u8 y.sect, .u16 y.desc, .u64 y.value] rfl tI (fun w54 H53 =>  ?_)))))))))))
    refine wn (sr (wf uV rfl (wv rfl (H53.ld 1 rfl d9 rfl (.str y.name) rfl) (wf ij rfl (wv rfl (H53.ld 0 rfl d9 rfl (.str y.name) rfl) (wv rfl (eT rfl rfl) (mv (.bool false) rfl (aP rfl rfl (ab uU rfl) (aP rfl rfl (H53.ld 1 rfl cC rfl (.u8 y.type) rfl) (aP rfl rfl (ab ww rfl) (aP rfl rfl (H53.ld 0 rfl cC rfl (.u8 y.type) rfl) ?_)))))))))))
    refine aP rfl rfl (bJ rfl rfl (bne_eq_false_iff_eq.2 (rfl))) (wv rfl (aD (b := false) (v := .bool false) rfl rfl) (mv (.bool false) rfl (aP rfl rfl (ab uT rfl) (aP rfl rfl (H53.ld 1 rfl cC rfl (.u8 y.sect) rfl) (aP rfl rfl (ab wu rfl) (aP rfl rfl (H53.ld 0 rfl cC rfl (.u8 y.sect) rfl) (aP rfl rfl (bJ rfl rfl (bne_eq_false_iff_eq.2 (rfl))) (wv rfl (aD (b := false) (v := .bool false) rfl rfl) (mv (.bool false) rfl (aP rfl rfl (ab uS rfl) (aP rfl rfl (H53.ld 1 rfl gT rfl (.u16 y.desc) rfl) ?_)))))))))))
    refine aP rfl rfl (ab wt rfl) (aP rfl rfl (H53.ld 0 rfl gT rfl (.u16 y.desc) rfl) (aP rfl rfl (bJ rfl rfl (bne_eq_false_iff_eq.2 (rfl))) (wv rfl (aD (b := false) (v := .bool false) rfl rfl) (mv (.bool false) rfl (aP rfl rfl (ab uR rfl) (aP rfl rfl (H53.ld 1 rfl aM rfl (.u64 y.value) rfl) (aP rfl rfl (ab wq rfl) (aP rfl rfl (H53.ld 0 rfl aM rfl (.u64 y.value) rfl) (aP rfl rfl (bJ rfl rfl (bne_eq_false_iff_eq.2 (rfl))) (wv rfl (aD (b := false) (v := .bool false) rfl rfl) (wn ?_)))))))))))
    refine aj rfl (cG (ao (ac (ae (wv rfl (aT (k := .i64) (c := ↑i + 1) a24_c rfl (aE (by omega) (by omega))) (mi (↑i + 1) rfl (wn ?_)))))))
    exact ⟨⟨i + 1, a24_2, a24_3, a24_192, a24_193, rfl, by omega, H53.re [2, 3]⟩, by show ns + 1 - nv (.i64 (↑i + 1)) < ns + 1 - nv (ρ24 194); rw [a24_c]; simp only [nv]; omega⟩
   ·
    simp only [bx] at hb44
    refine bF (a8 (a8 (aY (ac (ad (sr (wv rfl (ab lC a24_2) (wv rfl (H24.ld 0 rfl gU rfl (.slice Ai ni ci) rfl) (wv rfl (ba u4 rfl) (mi 0 rfl (wn ?_)))))))))))
    refine aC ?_
    have H310 : St w aW [aq g1 [.slice Ah nh ch, .bool I.big, .slice Al nl cl, .slice Ap np cp, .slice As ns cs, .slice Ai ni ci] 54, aq g4 [.slice Bh nh dh, .bool I.big, .slice Bl nl dl, .slice Bp np dp, .slice Bs ns ds, .slice Bi ni di] 33] w24 := H24.re [0, 1]
    refine bW (fun ρ w' => ∃ (i : Nat), ρ 2 = .pt g1 ∧ ρ 3 = .pt g4 ∧ ρ 239 = .slice Ai ni ci ∧ ρ 240 = .i64 (↑ni) ∧ ρ 241 = .i64 ↑i ∧ i ≤ ni ∧ St w aW [aq g1 [.slice Ah nh ch, .bool I.big, .slice Al nl cl, .slice Ap np cp, .slice As ns cs, .slice Ai ni ci] 54, aq g4 [.slice Bh nh dh, .bool I.big, .slice Bl nl dl, .slice Bp np dp, .slice Bs ns ds, .slice Bi ni di] 33] w') (fun ρ _ => ni + 1 - nv (ρ 241)) (⟨0, a24_2, a24_3, rfl, rfl, rfl, by omega, H310⟩) ?_
    rintro ρ31 w31 ⟨i, a31_2, a31_3, a31_239, a31_240, a31_c, hi31, H31⟩
    refine sr (wv rfl (cx a31_c a31_240) (wn (ad ?_)))
    refine cf rfl (fun hb55 => ?_) (fun hb55 => ?_)
    ·
     simp only [bx] at hb55
     refine wk (ad (aC (ad ?_)))
     have hin : i < ni := by omega
     obtain ⟨gl, ol, el, hcl⟩ := hi.at_ hin
     obtain ⟨gm, om, em, hcm⟩ := ki.at_ hin
     subst el; subst em
     refine ae (mg a31_c rfl (ai (↑i) rfl (wn (ad ?_))))
     have H56 := H31.drew
     refine aO MX (fun w' => w'.cell? ⟨g1, 5, none⟩ = some (.sl gl ol ni ci) ∧ w'.cell? ⟨g4, 5, none⟩ = some (.sl gm om ni di) ∧ w'.cell? ⟨gl, ol + i, none⟩ = some (.u32 (I.ind.getD i 0)) ∧ w'.cell? ⟨gm, om + i, none⟩ = some (.u32 (I.ind.getD i 0))) (tr 0 11 Pl.done) (by kernel_rfl) (⟨H56.c 0 5 rfl rfl, H56.c 1 5 rfl rfl, H56.kc hcl, H56.kc hcm⟩) (qy rfl (ab (o := 0) lC a31_2) (qh rfl (fun hS => ah gU rfl hS.1) (qm (.i64 (↑i)) rfl rfl (qy rfl (bU i vZ rfl rfl rfl (by omega) (by rw [Nat.mul_one])) (qh rfl (fun hS => ah ar rfl hS.2.2.1) (qy rfl (ab (o := 0) lD a31_3) (qh rfl (fun hS => ah gU rfl hS.2.1) (qm (.i64 (↑i)) rfl rfl (qy rfl (bU i vZ rfl rfl rfl (by omega) (by rw [Nat.mul_one])) (qh rfl (fun hS => ah ar rfl hS.2.2.2) (qy rfl (bJ (k := .u32) (a := I.ind.getD i 0) (b := I.ind.getD i 0) (c := false) rfl rfl (bne_eq_false_iff_eq.2 (rfl))) ?_)))))))))))
     refine pn (aj rfl (cG (ao (ac (ae (wv rfl (aT (k := .i64) (c := ↑i + 1) a31_c rfl (aE (by omega) (by omega))) (mi (↑i + 1) rfl (wn ?_))))))))
     exact ⟨⟨i + 1, a31_2, a31_3, a31_239, a31_240, rfl, by omega, H56.re [0, 1]⟩, by show ni + 1 - nv (.i64 (↑i + 1)) < ni + 1 - nv (ρ31 241); rw [a31_c]; simp only [nv]; omega⟩
    ·
     simp only [bx] at hb55
     refine bF (a8 (a8 (aY (ac (sr (av (.bool true) rfl (wn (aQ ?_))))))))
     exact ⟨.inr rfl, _, r1 (.bool true) rfl _ _, ⟨rfl, H31.sub (List.nil_sublist _)⟩⟩
end Go.Proofs.YtlndedfkgiafhaaDoor
namespace Go.Proofs.YtlndedfkgiafhaaDoor
open Go Go.RowKit Go.Proofs
theorem CK12 : aX Tryd.prog 12 := aJ (by kernel_rfl)
theorem wT : aX Tryd.prog 13 := aJ (by kernel_rfl)
theorem CK14 : aX Tryd.prog 14 := aJ (by kernel_rfl)
theorem CK7 : aX Tryd.prog 7 := aJ (by kernel_rfl)
theorem oE {N C : Nat} {A : Option Addr} (w : World) (hN : N < 28) :
 Calls Tryd.prog 12 #[.slice A N C] w fun e w' => e = .returned (.tuple #[.agg (List.toArray [.ns, .bool false, .ns, .ns, .ns, .ns]), .i64 1]) ∧ St w aW [] w' := by
 refine a5 (args := [.slice A N C]) Tryd.func12 rfl rfl rfl ?_
 have H0 := St.nil w aW
 refine sr (wm rfl (aK H0 ib (fun g1 w2 hgg1 H3 =>  ai 0 rfl (wn (ad (sr (mv (.slice A N C) rfl (wv rfl (ba co rfl) (wv rfl (aZ rfl rfl (decide_eq_true (by omega))) (wn (ay rfl ?_)))))))))))
 refine sr (wv rfl (yb (ps := []) (cells := #[.ns, .bool false, .ns, .ns, .ns, .ns]) rfl (by kernel_rfl)) (ws (eN H3 0 [.ns, .bool false, .ns, .ns, .ns, .ns] rfl jh (fun w5 H4 =>  ?_))))
 refine ai 1 rfl (wn (rq ?_))
 exact ⟨.inr rfl, _, eB rfl jV (by exact rfl) (H4.g 0 rfl) rfl (by exact rfl), ⟨rfl, H4.sub (List.nil_sublist _)⟩⟩
theorem vM {N C : Nat} {A : Option Addr} {xs : List Int} {a0 a1 : Addr} (w : World) (hG : Glob 224 w a0 a1) (hNC : N ≤ C) (hN : N < 10485760) (hr : RI .u8 w A N xs) (hby : Byt xs) (hw4 : 4 ≤ w.heap.size) :
 Calls Tryd.prog 7 #[.slice A N C] w fun e w' => e = .returned (.bool true) ∧ St w aW [] w' := by
 refine a5 (args := [.slice A N C]) Tryd.func7 rfl rfl rfl ?_
 have H0 := St.nil w aW
 refine sr (av (.bool false) rfl (wn (sr (mv (.slice A N C) rfl (wE [.slice A N C] CK12 rfl rfl ?_)))))
 by_cases hN28 : N < 28
 ·
  have hnone : fU xs = none := mH (by rw [hr.1]; exact hN28)
  refine aa (oE _ hN28) ?_
  rintro e w1 ⟨rfl, HS⟩
  have H2 := H0.cal0 HS
  refine ⟨_, rfl, ?_⟩
  refine mv (.tuple #[.agg #[.ns, .bool false, .ns, .ns, .ns, .ns], .i64 1]) rfl (we (.agg #[.ns, .bool false, .ns, .ns, .ns, .ns]) rfl rfl (we (.i64 1) rfl rfl (wm rfl (aK H2 ib (fun g3 w4 hgg3 H5 =>  ws (eN H5 0 [.ns, .bool false, .ns, .ns, .ns, .ns] rfl jh (fun w7 H6 =>  ?_)))))))
  refine ai 1 rfl (wn (ad (sr (mi 1 rfl (wv rfl (aL (c := false) rfl rfl rfl) (wn (aj rfl (wk (sr (mv (.slice A N C) rfl (wE [.slice A N C] wT rfl rfl ?_)))))))))))
  have hks := H6.keep.size
  refine aa (iG _ (hG.keep H6.keep fun k hk => hk.elim) hNC hN (hr.keep0 H6.keep) hby (by omega)) ?_
  rintro e w8 (⟨I2, hI2, c9, D9, rfl, HS9, hsm, hf⟩ | ⟨hI2, rfl, hk9⟩)
  ·
   rw [hnone] at hI2; cases hI2
  ·
   have HS9 := eD hk9
   have H9 := H6.cal0 HS9
   refine ⟨_, rfl, ?_⟩
   refine mv (.tuple #[.agg #[.ns, .bool false, .ns, .ns, .ns, .ns], .bool false]) rfl (we (.agg #[.ns, .bool false, .ns, .ns, .ns, .ns]) rfl rfl (we (.bool false) rfl rfl (wm rfl (aK H9 ia (fun g10 w11 hgg10 H12 =>  ws (eN H12 0 [.ns, .bool false, .ns, .ns, .ns, .ns] rfl l7 (fun w14 H13 =>  ?_)))))))
   refine av (.bool false) rfl (wn (ad (sr (mi 1 rfl (wv rfl (aL (c := true) rfl rfl rfl) (wn (ay rfl (sr (mv (.bool false) rfl (wv rfl (bB rfl) (av (.bool true) rfl ?_)))))))))))
   refine wn (rq ?_)
   exact ⟨.inr rfl, _, r1 (.bool true) rfl _ _, ⟨rfl, H13.sub (List.nil_sublist _)⟩⟩
 ·
  obtain ⟨gb, ob, rfl, hcell⟩ := hr.2 (by omega)
  have hgb : gb < w.heap.size := World.block_lt_of_cell? _ _ (hcell 0 (by omega))
  refine aa (oF _ (hr.keep0 H0.keep) hby hNC hN (Nat.lt_of_lt_of_le hgb H0.keep.size)) ?_
  rintro e w1 (⟨I, c, D, hI, rfl, HS, hsp⟩ | ⟨a1, n1, c1, b, a2, n2, c2, a3, n3, c3, a4, n5, c4, vi, rfl, ⟨_, _, _, hvi⟩, hk⟩ | ⟨hnone, rfl, hk⟩)
  ·
   obtain ⟨vh, vl, vp, vs, vi, lv, pv, rfl, ⟨_, _, _, e1, _⟩, ⟨_, _, _, e2, _⟩, _, _, ⟨_, _, _, e3, _⟩, _, _, ⟨_, _, _, e4, _⟩, ⟨_, _, _, e5, _⟩⟩ := hsp _ (HS.g 0 rfl) ((hr.keep0 H0.keep).keep0 HS.keep)
   have H15 := H0.cal0 HS
   refine ⟨_, rfl, ?_⟩
   refine mv (.tuple #[.agg #[vh, .bool I.big, vl, vp, vs, vi], .i64 0]) rfl (we (.agg #[vh, .bool I.big, vl, vp, vs, vi]) rfl rfl (we (.i64 0) rfl rfl (wm rfl (aK H15 ib (fun g16 w17 hgg16 H18 =>  ws (bE H18 0 (vs := [vh, .bool I.big, vl, vp, vs, vi]) (m := 6) rfl jh rfl rfl rfl (nl rfl) (by simp [Value.oneCell', e1, e2, e3, e4, e5]) (cs' := [vh, .bool I.big, vl, vp, vs, vi]) rfl (fun w20 H19 =>  ?_)))))))
   refine ai 0 rfl (wn (ad (sr (mi 0 rfl (wv rfl (aL (c := false) rfl rfl rfl) (wn (aj rfl (wk (sr (ms gb ob N C rfl (wE [.sl gb ob N C] wT rfl rfl ?_)))))))))))
   have hks := H19.keep.size
   refine aa (iG _ (hG.keep H19.keep fun k hk => hk.elim) hNC hN (hr.keep0 H19.keep) hby (by omega)) ?_
   rintro e w21 (⟨I2, hI2, c9, D9, rfl, HS9, hsm, hf⟩ | ⟨hI2, rfl, hk9⟩)
   ·
    rw [hI] at hI2; injection hI2 with hI2; subst hI2
    obtain ⟨vh2, vl2, vp2, vs2, vi2, lx, ps, rfl, ⟨_, _, _, d1, _⟩, ⟨_, _, _, d2, _⟩, _, _, ⟨_, _, _, d3, _⟩, _, _, ⟨_, _, _, d4, _⟩, ⟨_, _, _, d5, _⟩⟩ := hf _ (HS9.g 0 rfl)
    have H22 := H19.cal0 HS9
    refine ⟨_, rfl, ?_⟩
    refine mv (.tuple #[.agg #[vh2, .bool ((I.told N xs).big), vl2, vp2, vs2, vi2], .bool true]) rfl (we (.agg #[vh2, .bool ((I.told N xs).big), vl2, vp2, vs2, vi2]) rfl rfl (we (.bool true) rfl rfl (wm rfl (aK H22 ia (fun g23 w24 hgg23 H25 =>  ws (bE H25 0 (vs := [vh2, .bool ((I.told N xs).big), vl2, vp2, vs2, vi2]) (m := 6) rfl l7 rfl rfl rfl (nl rfl) (by simp [Value.oneCell', e1, e2, e3, e4, e5, d1, d2, d3, d4, d5]) (cs' := [vh2, .bool ((I.told N xs).big), vl2, vp2, vs2, vi2]) rfl (fun w27 H26 =>  ?_)))))))
    refine av (.bool true) rfl (wn (ad (sr (mi 0 rfl (wv rfl (aL (c := false) rfl rfl rfl) (wn (aj rfl (wk (sr (mv (.bool true) rfl (mv (.bool true) rfl ?_)))))))))))
    refine aP rfl rfl (H26.loadA (i := 0) (vs := [vh2, .bool ((I.told N xs).big), vl2, vp2, vs2, vi2]) rfl lA rfl rfl rfl) (aP rfl rfl (H26.loadA (i := 2) (vs := [vh, .bool I.big, vl, vp, vs, vi]) rfl jV rfl rfl rfl) (sJ rfl rfl (ec CK14 (args := [.agg #[vh2, .bool ((I.told N xs).big), vl2, vp2, vs2, vi2], .agg #[vh, .bool I.big, vl, vp, vs, vi]]) rfl (aa (rQ (I := I) (N := N) (xs := xs) (c1 := [vh2, .bool ((I.told N xs).big), vl2, vp2, vs2, vi2]) (c2 := [vh, .bool I.big, vl, vp, vs, vi]) _ (hf _ (H26.g 1 rfl)) (hsp _ (H26.g 3 rfl) (hr.keep0 H26.keep)) hsm) ?_))))
    rintro e w29 ⟨rfl, HS28⟩
    have H30 := H26.cal0 HS28
    refine ⟨_, rfl, ?_⟩
    refine wv rfl (aD (b := true) (v := .bool true) rfl rfl) (av (.bool true) rfl (wn (aQ ?_)))
    exact ⟨.inr rfl, _, r1 (.bool true) rfl _ _, ⟨rfl, H30.sub (List.nil_sublist _)⟩⟩
   ·
    rw [hI] at hI2; cases hI2
  ·
   have HS := eD hk
   have H31 := H0.cal0 HS
   refine ⟨_, rfl, ?_⟩
   refine mv (.tuple #[.agg #[.slice a1 n1 c1, .bool b, .slice a2 n2 c2, .slice a3 n3 c3, .slice a4 n5 c4, vi], .i64 2]) rfl (we (.agg #[.slice a1 n1 c1, .bool b, .slice a2 n2 c2, .slice a3 n3 c3, .slice a4 n5 c4, vi]) rfl rfl (we (.i64 2) rfl rfl (wm rfl (aK H31 ib (fun g32 w33 hgg32 H34 =>  ws (bE H34 0 (vs := [.slice a1 n1 c1, .bool b, .slice a2 n2 c2, .slice a3 n3 c3, .slice a4 n5 c4, vi]) (m := 6) rfl jh rfl rfl rfl (nl rfl) (by simp [Value.oneCell', hvi]) (cs' := [.slice a1 n1 c1, .bool b, .slice a2 n2 c2, .slice a3 n3 c3, .slice a4 n5 c4, vi]) rfl (fun w36 H35 =>  ?_)))))))
   refine ai 2 rfl (wn (ad (sr (mi 2 rfl (wv rfl (aL (c := true) rfl rfl rfl) (wn (ay rfl (sr (av (.bool true) rfl (wn (rq ?_)))))))))))
   exact ⟨.inr rfl, _, r1 (.bool true) rfl _ _, ⟨rfl, H35.sub (List.nil_sublist _)⟩⟩
  ·
   have HS := eD hk
   have H37 := H0.cal0 HS
   refine ⟨_, rfl, ?_⟩
   refine mv (.tuple #[.agg #[.ns, .bool false, .ns, .ns, .ns, .ns], .i64 1]) rfl (we (.agg #[.ns, .bool false, .ns, .ns, .ns, .ns]) rfl rfl (we (.i64 1) rfl rfl (wm rfl (aK H37 ib (fun g38 w39 hgg38 H40 =>  ws (eN H40 0 [.ns, .bool false, .ns, .ns, .ns, .ns] rfl jh (fun w42 H41 =>  ?_)))))))
   refine ai 1 rfl (wn (ad (sr (mi 1 rfl (wv rfl (aL (c := false) rfl rfl rfl) (wn (aj rfl (wk (sr (ms gb ob N C rfl (wE [.sl gb ob N C] wT rfl rfl ?_)))))))))))
   have hks := H41.keep.size
   refine aa (iG _ (hG.keep H41.keep fun k hk => hk.elim) hNC hN (hr.keep0 H41.keep) hby (by omega)) ?_
   rintro e w43 (⟨I2, hI2, c9, D9, rfl, HS9, hsm, hf⟩ | ⟨hI2, rfl, hk9⟩)
   ·
    rw [hnone] at hI2; cases hI2
   ·
    have HS9 := eD hk9
    have H44 := H41.cal0 HS9
    refine ⟨_, rfl, ?_⟩
    refine mv (.tuple #[.agg #[.ns, .bool false, .ns, .ns, .ns, .ns], .bool false]) rfl (we (.agg #[.ns, .bool false, .ns, .ns, .ns, .ns]) rfl rfl (we (.bool false) rfl rfl (wm rfl (aK H44 ia (fun g45 w46 hgg45 H47 =>  ws (eN H47 0 [.ns, .bool false, .ns, .ns, .ns, .ns] rfl l7 (fun w49 H48 =>  ?_)))))))
    refine av (.bool false) rfl (wn (ad (sr (mi 1 rfl (wv rfl (aL (c := true) rfl rfl rfl) (wn (ay rfl (sr (mv (.bool false) rfl (wv rfl (bB rfl) (av (.bool true) rfl ?_)))))))))))
    refine wn (rq ?_)
    exact ⟨.inr rfl, _, r1 (.bool true) rfl _ _, ⟨rfl, H48.sub (List.nil_sublist _)⟩⟩
theorem vo {N C : Nat} {A : Option Addr} {xs : List Int} {a0 a1 : Addr} (w : World) (hG : Glob 224 w a0 a1) (hNC : N ≤ C) (hN : N ≤ 9223372036854775807) (hr : RI .u8 w A N xs) (hby : Byt xs) (hw4 : 4 ≤ w.heap.size) :
 Calls Tryd.prog 3 #[.slice A N C] w fun e w' => e = .returned (.bool true) ∧ St w aW [] w' := by
 refine a5 (args := [.slice A N C]) Tryd.func3 rfl rfl rfl ?_
 have H0 := St.nil w aW
 refine sr (av (.bool false) rfl (wn (ad (sr (mv (.slice A N C) rfl (wv rfl (ba co rfl) (wv rfl (gP rfl rfl) (wn ?_))))))))
 refine cf rfl (fun hb1 => ?_) (fun hb1 => ?_)
 ·
  simp only [bx] at hb1
  refine sr (av (.bool true) rfl (wn (rq ?_)))
  exact ⟨.inr rfl, _, r1 (.bool true) rfl _ _, ⟨rfl, H0.sub (List.nil_sublist _)⟩⟩
 ·
  simp only [bx] at hb1
  refine wk (sr (mv (.slice A N C) rfl (wv rfl (ba co rfl) (wv rfl (gP rfl rfl) (mv (.bool (decide (5000 < (↑N : Int)))) rfl ?_)))))
  generalize hb2 : (decide (5000 < (↑N : Int))) = bb
  cases bb
  ·
   simp only [bx] at hb2
   refine aP rfl rfl (al (v := .slice A N C) rfl) (sJ rfl rfl (ec CK7 (args := [.slice A N C]) rfl (aa (vM _ (hG.keep H0.keep fun k hk => hk.elim) hNC (by omega) (hr.keep0 H0.keep) hby (Nat.le_trans hw4 H0.keep.size)) ?_)))
   rintro e w4 ⟨rfl, HS3⟩
   have H5 := H0.cal0 HS3
   refine ⟨_, rfl, ?_⟩
   refine wv rfl (aD (b := false) (v := .bool true) rfl rfl) (av (.bool true) rfl (wn (aQ ?_)))
   exact ⟨.inr rfl, _, r1 (.bool true) rfl _ _, ⟨rfl, H5.sub (List.nil_sublist _)⟩⟩
  ·
   simp only [bx] at hb2
   refine cM rfl rfl (cM rfl rfl (wv rfl (aD (b := true) (v := .bool true) rfl rfl) (av (.bool true) rfl (wn (aQ ?_)))))
   exact ⟨.inr rfl, _, r1 (.bool true) rfl _ _, ⟨rfl, H0.sub (List.nil_sublist _)⟩⟩
end Go.Proofs.YtlndedfkgiafhaaDoor
