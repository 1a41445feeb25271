import Derived.Test.YtlndedfkgiafhaaDoorXAF
set_option linter.unusedVariables false
set_option linter.unusedSimpArgs false
set_option maxRecDepth 100000
set_option maxHeartbeats 4000000
namespace Go.Proofs.YtlndedfkgiafhaaDoor
open Go Go.RowKit Go.Proofs
theorem ia : cQ Tryd.prog 54 [.ns, .bool false, .ns, .ns, .ns, .ns] := bv (by kernel_rfl)
theorem cK : FA 121 0 0 := fa (by kernel_rfl)
theorem TI111 : (Tryd.prog.underlying 111).isSome = true := by kernel_rfl
theorem TI112 : (Tryd.prog.underlying 112).isSome = true := by kernel_rfl
theorem fF : FA 121 1 7 := fa (by kernel_rfl)
theorem iq : cY Tryd.prog 115 := bz (by kernel_rfl)
theorem l7 : (Tryd.prog.info? 54).map (·.size) = some 6 := by kernel_rfl
theorem cT : FA 121 2 8 := fa (by kernel_rfl)
theorem dG : cY Tryd.prog 116 := bz (by kernel_rfl)
theorem TL116 : Tryd.prog.underlying 116 = some (.slice (Tryd.prog.elem 116)) := by kernel_rfl
theorem TS116 : cg Tryd.prog 116 123 1 := bZ (by kernel_rfl)
theorem wP : cY Tryd.prog 123 := bz (by kernel_rfl)
theorem mS : FA 54 2 2 := fa (by kernel_rfl)
theorem rp : cY Tryd.prog 50 := bz (by kernel_rfl)
theorem CK43 : aX Tryd.prog 43 := aJ (by kernel_rfl)
theorem TU50 : Tryd.prog.underlying 50 = some (.slice 96) := by kernel_rfl
theorem TB96 : (Tryd.prog.info? 96).map (fun i => (i.zero, i.size, i.bytes)) = some (some (.agg #[.i64 0, .ns, .string (⟨#[]⟩), .ns]), 4, 72) := by kernel_rfl
theorem im : FA 121 3 9 := fa (by kernel_rfl)
theorem jm : cY Tryd.prog 117 := bz (by kernel_rfl)
theorem TL117 : Tryd.prog.underlying 117 = some (.slice (Tryd.prog.elem 117)) := by kernel_rfl
theorem TS117 : cg Tryd.prog 117 125 1 := bZ (by kernel_rfl)
theorem wO : cY Tryd.prog 125 := bz (by kernel_rfl)
theorem CK44 : aX Tryd.prog 44 := aJ (by kernel_rfl)
theorem gI : FA 54 3 3 := fa (by kernel_rfl)
theorem jb : cY Tryd.prog 51 := bz (by kernel_rfl)
theorem kV : FA 129 0 0 := fa (by kernel_rfl)
theorem kU : FA 129 1 1 := fa (by kernel_rfl)
theorem kT : FA 129 2 2 := fa (by kernel_rfl)
theorem ik : FA 129 4 4 := fa (by kernel_rfl)
theorem kS : FA 129 5 5 := fa (by kernel_rfl)
theorem iU : FA 129 6 6 := fa (by kernel_rfl)
theorem fi : FA 129 7 7 := fa (by kernel_rfl)
theorem kR : FA 129 8 8 := fa (by kernel_rfl)
theorem jE : FA 135 1 9 := fa (by kernel_rfl)
theorem lG : cY Tryd.prog 130 := bz (by kernel_rfl)
theorem vx : aX Tryd.prog 45 := aJ (by kernel_rfl)
theorem rY : Tryd.prog.underlying 51 = some (.slice 99) := by kernel_rfl
theorem sd : (Tryd.prog.info? 99).map (fun i => (i.zero, i.size, i.bytes)) = some (some (.agg #[.string (⟨#[]⟩), .string (⟨#[]⟩), .ns, .ns, .ns, .bool false]), 6, 112) := by kernel_rfl
theorem fE : FA 121 4 10 := fa (by kernel_rfl)
theorem ip : cY Tryd.prog 118 := bz (by kernel_rfl)
theorem pP : Tryd.prog.underlying 118 = some (.pointer (Tryd.prog.pointee 118)) := by kernel_rfl
theorem il : FA 121 5 11 := fa (by kernel_rfl)
theorem jl : cY Tryd.prog 119 := bz (by kernel_rfl)
theorem pO : Tryd.prog.underlying 119 = some (.pointer (Tryd.prog.pointee 119)) := by kernel_rfl
theorem lA : gN Tryd.prog 54 6 := dR (by kernel_rfl)
theorem nb : FA 148 2 21 := fa (by kernel_rfl)
theorem gU : cY Tryd.prog 25 := bz (by kernel_rfl)
theorem u0 : Tryd.prog.underlying 25 = some (.slice 24) := by kernel_rfl
theorem vf : (Tryd.prog.info? 24).map (fun i => (i.zero, i.size, i.bytes)) = some (some (.u32 0), 1, 4) := by kernel_rfl
theorem lC : FA 54 5 5 := fa (by kernel_rfl)
theorem jD : FA 144 2 7 := fa (by kernel_rfl)
theorem lF : cY Tryd.prog 142 := bz (by kernel_rfl)
theorem CK46 : aX Tryd.prog 46 := aJ (by kernel_rfl)
theorem p2 : FA 54 4 4 := fa (by kernel_rfl)
theorem tR : cY Tryd.prog 52 := bz (by kernel_rfl)
def SecD.part (s : SecD) (N : Nat) (xs : List Int) : PartD := ⟨s.name, s.seg, [s.addr, ↑s.size, ↑s.off, s.align, s.reloff, s.nreloc, s.flags], s.rels, if s.size = 0 ∨ s.off + s.size ≤ N then (xs.drop s.off).take s.size else [], decide (s.size = 0 ∨ s.off + s.size ≤ N)⟩
structure MF where
 h : Nat → Int
 big : Bool
 loads : List LoadD
 secs : List SecD
 syms : List Sym
 ind : List Int
def MFile (w : World) (rb fb : Nat) (I : MF) : Prop := ∃ (AL AS : Option Addr) (nL cL nS cS : Nat) (vs : List Value) (gs : List Nat) (sy dy : Value),
 (∀ i, 0 ≤ I.h i ∧ I.h i ≤ 4294967295) ∧
 (aq fb [.u32 (I.h 0), .u32 (I.h 1), .u32 (I.h 2), .u32 (I.h 3), .u32 (I.h 4), .u32 (I.h 5), .u32 (I.h 6), .u8 (bo I.big), .slice AL nL cL, .slice AS nS cS, sy, dy] 121).φ w ∧
 RV w AL nL 1 vs ∧ nL ≤ 4294967295 ∧ vs.length = I.loads.length ∧ (∀ (i : Nat) (v : Value) (l : LoadD), vs[i]? = some v → I.loads[i]? = some l → MLoad w v l) ∧
 RV w AS nS 1 (gs.map fun g => .pt g) ∧ nS ≤ 4294967295 ∧ gs.length = I.secs.length ∧ (∀ (i g : Nat) (s : SecD), gs[i]? = some g → I.secs[i]? = some s → MSec w rb g s) ∧
 ((sy = .np ∧ I.syms = []) ∨ ∃ (gy n c : Nat) (A : Option Addr) (x0 x1 x2 x3 x4 x5 x6 : Value), sy = .pt gy ∧ (aq gy [x0, x1, x2, x3, x4, x5, x6, .slice A n c] 144).φ w ∧ RV w A n 5 (I.syms.flatMap Sym.cells) ∧ n ≤ 4294967295) ∧
 ((dy = .np ∧ I.ind = []) ∨ ∃ (gy n c : Nat) (a : Addr) (z : Value) (q : Nat → Value), dy = .pt gy ∧ (aq gy [z, q 0, q 1, q 2, q 3, q 4, q 5, q 6, q 7, q 8, q 9, q 10, q 11, q 12, q 13, q 14, q 15, q 16, q 17, q 18, q 19, .slice (some a) n c] 148).φ w ∧ RI .u32 w (some a) n I.ind ∧ n ≤ 4294967295)
structure FD where
 header : List Int
 big : Bool
 loads : List LoadD
 parts : List PartD
 syms : List Sym
 ind : List Int
def uf (w : World) (c : List Value) (F : FD) : Prop := ∃ (vh vl vp vs vi : Value) (xs : List LoadV) (ps : List PartV), c = [vh, .bool F.big, vl, vp, vs, vi] ∧ SlI' .u64 w vh F.header ∧
 SlV w vl 4 (xs.flatMap LoadV.cells) ∧ xs.map LoadV.l = F.loads ∧ (∀ x ∈ xs, x.ok w) ∧ SlV w vp 6 (ps.flatMap PartV.cells) ∧ ps.map PartV.p = F.parts ∧ (∀ x ∈ ps, x.ok w) ∧ SlV w vs 5 (F.syms.flatMap Sym.cells) ∧ SlI' .u32 w vi F.ind
def MF.told (I : MF) (N : Nat) (xs : List Int) : FD := ⟨[I.h 0, I.h 1, I.h 2, I.h 3, I.h 4, I.h 5, I.h 6], I.big, I.loads, I.secs.map fun s => s.part N xs, I.syms, I.ind⟩
theorem it (x : LoadV) : x.cells.length = 4 := rfl
theorem tb {rb fb N C : Nat} {A : Option Addr} {i0 p0 : Int} {xs0 : List Int} {a0 a1 : Addr} {I : MF} (w : World) (hm : MFile w rb fb I) (hrb : (aq rb [.slice A N C, .i64 i0, .i64 p0] 190).φ w) (hG : Glob 224 w a0 a1) (hNC : N ≤ C) (hN : N < 10485760) (hr : RI .u8 w A N xs0) (hA : ∀ a, A = some a → a.block < w.heap.size) (hw4 : 4 ≤ w.heap.size) :
 Calls Tryd.prog 35 #[.pt fb] w fun e w' => ∃ (c : List Value) (D : Res), e = .returned (.agg c.toArray) ∧ St w aW [D] w' ∧ ∀ w, D.φ w → uf w c (I.told N xs0) := by
 obtain ⟨AL, AS, nL, cL, nS, cS, vs, gs, sy, dy, hq, hfb, hL, hnL, hlL, hLs, hS, hnS, hlS, hSs, hsy, hdy⟩ := hm
 refine a5 (args := [.pt fb]) Tryd.func35 rfl rfl rfl ?_
 have H0 := St.nil w aW
 refine sr (wm rfl (aK H0 ia (fun g1 w2 hgg1 H3 =>  wn ?_)))
 refine fm (fun ρ w' => ∃ (go gh : Nat), ρ 0 = .pt fb ∧ ρ 2 = .pt g1 ∧ ρ 3 = .pt go ∧ St w aW [aq go [.sl gh 0 7 7, .bool I.big, .ns, .ns, .ns, .ns] 54, aq gh (nums .u64 [I.h 0, I.h 1, I.h 2, I.h 3, I.h 4, I.h 5, I.h 6]) 43, aq g1 [.ns, .bool false, .ns, .ns, .ns, .ns] 54] w') ?_ ?_
 ·
  have H4 := H3.drew
  refine aO MX (fun w' => w'.cell? ⟨fb, 0, none⟩ = some (.u32 (I.h 0)) ∧ w'.cell? ⟨fb, 1, none⟩ = some (.u32 (I.h 1)) ∧ w'.cell? ⟨fb, 2, none⟩ = some (.u32 (I.h 2)) ∧ w'.cell? ⟨fb, 3, none⟩ = some (.u32 (I.h 3)) ∧ w'.cell? ⟨fb, 4, none⟩ = some (.u32 (I.h 4)) ∧ w'.cell? ⟨fb, 5, none⟩ = some (.u32 (I.h 5)) ∧ w'.cell? ⟨fb, 6, none⟩ = some (.u32 (I.h 6)) ∧ w'.cell? ⟨fb, 7, none⟩ = some (.u8 (bo I.big))) (tr 0 42 (tr 43 5 (Pl.run2 42 (Pl.take 48 (Pl.run 49 (Pl.run 50 Pl.done))) 49 (Pl.run 42 (Pl.take 48 (Pl.run 50 Pl.done)))))) (by kernel_rfl) (⟨H4.kb hfb rfl, H4.kb hfb rfl, H4.kb hfb rfl, H4.kb hfb rfl, H4.kb hfb rfl, H4.kb hfb rfl, H4.kb hfb rfl, H4.kb hfb rfl⟩) (qm (.pt fb) rfl rfl (qy rfl (ag rfl) (qy rfl (ab (o := 0) cK rfl) (qy rfl (ab (o := 0) fG rfl) (qh rfl (fun hS => ah ar rfl hS.1) (qy rfl (an (c := I.h 0) bm be rfl (a6 (hq 0).1 (by have := (hq 0).2; omega))) (qm (.pt fb) rfl rfl (qy rfl (ag rfl) (qy rfl (ab (o := 0) cK rfl) (qy rfl (ab (o := 0) rn rfl) (qh rfl (fun hS => ah tT rfl hS.2.1) ?_)))))))))))
  refine qy rfl (an (c := I.h 1) TI111 be rfl (a6 (hq 1).1 (by have := (hq 1).2; omega))) (qm (.pt fb) rfl rfl (qy rfl (ag rfl) (qy rfl (ab (o := 0) cK rfl) (qy rfl (ab (o := 0) rm rfl) (qh rfl (fun hS => ah ar rfl hS.2.2.1) (qy rfl (an (c := I.h 2) bm be rfl (a6 (hq 2).1 (by have := (hq 2).2; omega))) (qm (.pt fb) rfl rfl (qy rfl (ag rfl) (qy rfl (ab (o := 0) cK rfl) (qy rfl (ab (o := 0) rl rfl) (qh rfl (fun hS => ah tS rfl hS.2.2.2.1) ?_)))))))))))
  refine qy rfl (an (c := I.h 3) TI112 be rfl (a6 (hq 3).1 (by have := (hq 3).2; omega))) (qm (.pt fb) rfl rfl (qy rfl (ag rfl) (qy rfl (ab (o := 0) cK rfl) (qy rfl (ab (o := 0) kX rfl) (qh rfl (fun hS => ah ar rfl hS.2.2.2.2.1) (qy rfl (an (c := I.h 4) bm be rfl (a6 (hq 4).1 (by have := (hq 4).2; omega))) (qm (.pt fb) rfl rfl (qy rfl (ag rfl) (qy rfl (ab (o := 0) cK rfl) (qy rfl (ab (o := 0) kW rfl) (qh rfl (fun hS => ah ar rfl hS.2.2.2.2.2.1) ?_)))))))))))
  refine qy rfl (an (c := I.h 5) bm be rfl (a6 (hq 5).1 (by have := (hq 5).2; omega))) (qm (.pt fb) rfl rfl (qy rfl (ag rfl) (qy rfl (ab (o := 0) cK rfl) (qy rfl (ab (o := 0) rk rfl) (qh rfl (fun hS => ah ar rfl hS.2.2.2.2.2.2.1) (qy rfl (an (c := I.h 6) bm be rfl (a6 (hq 6).1 (by have := (hq 6).2; omega))) (qm (.pt fb) rfl rfl (qy rfl (ag rfl) (qy rfl (ab (o := 0) fF rfl) (qh rfl (fun hS => ah iq rfl hS.2.2.2.2.2.2.2) (qy rfl (aL (c := I.big) rfl rfl (by cases I.big <;> rfl)) ?_)))))))))))
  refine ⟨?_, ?_⟩
  ·
   refine po rfl (eb H4 43 [.u64 (I.h 0), .u64 (I.h 1), .u64 (I.h 2), .u64 (I.h 3), .u64 (I.h 4), .u64 (I.h 5), .u64 (I.h 6)] rfl (by kernel_rfl) (fun g5 w6 hgg5 H7 =>  ?_))
   refine ⟨⟨H7.kb hfb rfl, H7.kb hfb rfl, H7.kb hfb rfl, H7.kb hfb rfl, H7.kb hfb rfl, H7.kb hfb rfl, H7.kb hfb rfl, H7.kb hfb rfl⟩, fun _ => trivial, ?_⟩
   refine qy rfl (yb (ps := [(0, .sl g5 0 7 7), (1, .bool I.big)]) (cells := #[.sl g5 0 7 7, .bool I.big, .ns, .ns, .ns, .ns]) rfl (by kernel_rfl)) (qr rfl (aK H7 ia (fun g8 w9 hgg8 H10 =>  ?_)))
   refine ⟨⟨H10.kb hfb rfl, H10.kb hfb rfl, H10.kb hfb rfl, H10.kb hfb rfl, H10.kb hfb rfl, H10.kb hfb rfl, H10.kb hfb rfl, H10.kb hfb rfl⟩, fun _ => trivial, ?_⟩
   refine dx rfl (eN H10 0 [.sl g5 0 7 7, .bool I.big, .ns, .ns, .ns, .ns] rfl l7 (fun w12 H11 =>  ?_))
   refine ⟨⟨H11.kb hfb rfl, H11.kb hfb rfl, H11.kb hfb rfl, H11.kb hfb rfl, H11.kb hfb rfl, H11.kb hfb rfl, H11.kb hfb rfl, H11.kb hfb rfl⟩, fun _ => trivial, ?_⟩
   refine pn ?_
   exact ⟨g8, g5, rfl, rfl, rfl, H11.re [0, 1, 2]⟩
  ·
   refine po rfl (aK H4 ia (fun g13 w14 hgg13 H15 =>  ?_))
   refine ⟨⟨H15.kb hfb rfl, H15.kb hfb rfl, H15.kb hfb rfl, H15.kb hfb rfl, H15.kb hfb rfl, H15.kb hfb rfl, H15.kb hfb rfl, H15.kb hfb rfl⟩, fun _ => trivial, ?_⟩
   refine qr rfl (eb H15 43 [.u64 (I.h 0), .u64 (I.h 1), .u64 (I.h 2), .u64 (I.h 3), .u64 (I.h 4), .u64 (I.h 5), .u64 (I.h 6)] rfl (by kernel_rfl) (fun g16 w17 hgg16 H18 =>  ?_))
   refine ⟨⟨H18.kb hfb rfl, H18.kb hfb rfl, H18.kb hfb rfl, H18.kb hfb rfl, H18.kb hfb rfl, H18.kb hfb rfl, H18.kb hfb rfl, H18.kb hfb rfl⟩, fun _ => trivial, ?_⟩
   refine qy rfl (yb (ps := [(0, .sl g16 0 7 7), (1, .bool I.big)]) (cells := #[.sl g16 0 7 7, .bool I.big, .ns, .ns, .ns, .ns]) rfl (by kernel_rfl)) (dx rfl (eN H18 1 [.sl g16 0 7 7, .bool I.big, .ns, .ns, .ns, .ns] rfl l7 (fun w20 H19 =>  ?_)))
   refine ⟨⟨H19.kb hfb rfl, H19.kb hfb rfl, H19.kb hfb rfl, H19.kb hfb rfl, H19.kb hfb rfl, H19.kb hfb rfl, H19.kb hfb rfl, H19.kb hfb rfl⟩, fun _ => trivial, ?_⟩
   refine pn ?_
   exact ⟨g13, g16, rfl, rfl, rfl, H19.re [1, 0, 2]⟩
 ·
  rintro ρ w0 ⟨go, gh, h0, h2, h3, H0⟩
  refine ad (sr (mg h0 rfl (wc rfl (wf cT rfl (wv rfl (ah dG rfl (H0.kb hfb rfl)) (wv rfl (ba TL116 rfl) (mi 0 rfl (wn (aC ?_)))))))))
  have H9 : St w aW [Res.all [], aH 96 4 (.ns) 0 [], aq go [.sl gh 0 7 7, .bool I.big, .ns, .ns, .ns, .ns] 54, aq gh (nums .u64 [I.h 0, I.h 1, I.h 2, I.h 3, I.h 4, I.h 5, I.h 6]) 43, aq g1 [.ns, .bool false, .ns, .ns, .ns, .ns] 54] w0 := (H0.addRow 96 4).reAll [] [0, 1, 2, 3]
  refine bW (fun ρ w' => ∃ i : Nat, ∃ A1 : Option Addr, ∃ c1 : Nat, ∃ xs : List LoadV, ∃ D : Res, ρ 0 = .pt fb ∧ ρ 2 = .pt g1 ∧ ρ 3 = .pt go ∧ ρ 62 = .slice AL nL cL ∧ ρ 63 = .i64 ↑nL ∧ ρ 64 = .i64 ↑i ∧ i ≤ nL ∧ xs.map LoadV.l = I.loads.take i ∧ (∀ w, D.φ w → ∀ x ∈ xs, x.ok w) ∧ St w aW [D, aH 96 4 (.slice A1 i c1) i (xs.flatMap LoadV.cells), aq go [.sl gh 0 7 7, .bool I.big, .slice A1 i c1, .ns, .ns, .ns] 54, aq gh (nums .u64 [I.h 0, I.h 1, I.h 2, I.h 3, I.h 4, I.h 5, I.h 6]) 43, aq g1 [.ns, .bool false, .ns, .ns, .ns, .ns] 54] w') (fun ρ _ => nL + 1 - nv (ρ 64)) (⟨0, none, 0, [], Res.all [], h0, h2, h3, rfl, rfl, rfl, by omega, rfl, by simp, H9⟩) ?_
  rintro ρ w1 ⟨i, A1, c1, xs, D, h0, h2, h3, h62, h63, h64, hi, hxs, hD, H1⟩
  refine sr (wv rfl (cx h64 h63) (wn (ad ?_)))
  refine cf rfl (fun hb21 => ?_) (fun hb21 => ?_)
  ·
   simp only [bx] at hb21
   refine wk (ad (aC (sr ?_)))
   obtain ⟨lv, hlv⟩ : ∃ v, vs[i]? = some v := ⟨vs[i]'(by have := hL.1; omega), List.getElem?_eq_getElem _⟩
   obtain ⟨l, hl⟩ : ∃ l, I.loads[i]? = some l := ⟨I.loads[i]'(by have := hL.1; omega), List.getElem?_eq_getElem _⟩
   obtain ⟨_, gL, oL, rfl, hcL⟩ := hL.at1 hlv
   refine wv rfl (bU i TS116 h62 h64 rfl (by omega) (by rw [Nat.mul_one])) (wv rfl (ah wP rfl (H1.kc hcL)) (av lv rfl (wn ?_)))
   have H22 := H1.drew
   refine dL MX (fun w' => w'.cell? ⟨go, 2, none⟩ = some (.slice A1 i c1)) (fun w' => True) 7 (Pl.take 0 (Pl.takeS 1 (Pl.take 2 (Pl.run 3 (Pl.run 4 (Pl.run 5 (Pl.take 6 (Pl.run 7 Pl.done)))))))) (by kernel_rfl) rfl (H22.c 2 2 rfl rfl) (trivial) (qy rfl (ab (o := 0) mS h3) (qs rfl rfl (fun _ hS => ah rp rfl hS) (qm lv rfl rfl (qr rfl (ec CK43 (args := [lv]) rfl (aa (ta _ ((hLs i lv l hlv hl).keep H22.keep)) ?_))))))
   rintro e w24 ⟨x, D2, hxl, rfl, hok, HS23⟩
   obtain ⟨⟨A2, n2, c2, e2, _⟩, A3, n3, c3, e3, _⟩ := hok _ (HS23.g 0 rfl)
   have H25 := H22.cal0 HS23
   refine ⟨_, rfl, ?_⟩
   refine ⟨trivial, fun _ => H25.c 3 2 rfl rfl, ?_⟩
   refine qr rfl (jv H25 (ps := [(0, .agg #[.i64 x.l.kind, x.vr, .str x.l.name, x.vn])]) (e := 96) (cs := [.i64 x.l.kind, x.vr, .str x.l.name, x.vn]) rfl (by kernel_rfl) (fun g26 w27 hgg26 H28 =>  ?_))
   refine ⟨trivial, fun _ => H28.c 4 2 rfl rfl, ?_⟩
   refine qr rfl (bR H28 3 (m := 1) (news := [.i64 x.l.kind, x.vr, .str x.l.name, x.vn]) rfl TU50 TB96 rfl (by decide) rfl rfl rfl (H28.news (i := 0) rfl) (by simp [Value.oneCell', e2, e3]) (by simp only [maxLen]; omega) (by omega) (fun v29 w30 H31 =>  ?_))
   obtain ⟨A32, c33, rfl, _, _⟩ := aw (H31.g 3 rfl)
   refine ⟨trivial, fun _ => H31.c 4 2 rfl rfl, ?_⟩
   refine qy rfl (ab (o := 0) mS h3) (dx rfl (es H31 4 2 (.slice A32 (i + 1) c33) rfl rp (fun w35 H34 =>  ?_)))
   refine ⟨trivial, fun h => absurd h (by decide), ?_⟩
   refine ck (ao (ac (ae (wv rfl (aT (k := .i64) (c := ↑i + 1) h64 rfl (aE (by omega) (by omega))) (mi (↑i + 1) rfl (wn ?_))))))
   have Hn : St w aW [Res.all [D2, D], aH 96 4 (.slice A32 (i + 1) c33) (i + 1) ((xs ++ [x]).flatMap LoadV.cells), aq go [.sl gh 0 7 7, .bool I.big, .slice A32 (i + 1) c33, .ns, .ns, .ns] 54, aq gh (nums .u64 [I.h 0, I.h 1, I.h 2, I.h 3, I.h 4, I.h 5, I.h 6]) 43, aq g1 [.ns, .bool false, .ns, .ns, .ns, .ns] 54] w35 := by
    rw [List.flatMap_append, List.flatMap_singleton]
    exact H34.reAll [1, 2] [3, 4, 5, 6]
   exact ⟨⟨i + 1, _, _, xs ++ [x], Res.all [D2, D], h0, h2, h3, h62, h63, rfl, by omega, by rw [List.map_append, hxs, List.map_singleton, hxl, List.take_add_one, hl]; rfl, fun w h y hy => by have h := aV.1 h; rcases List.mem_append.1 hy with hy | hy; exact hD w (h D (by simp)) y hy; rw [List.mem_singleton.1 hy]; exact hok w (h D2 (by simp)), Hn⟩, by show nL + 1 - nv (.i64 (↑i + 1)) < nL + 1 - nv (ρ 64); rw [h64]; simp only [nv]; omega⟩
  ·
   simp only [bx] at hb21
   refine bF (a8 (a8 (aY (ac (ad (ad ?_))))))
   have hin : i = nL := by omega
   have H20 : St w aW [Res.all [D, aH 96 4 (.slice A1 i c1) i (xs.flatMap LoadV.cells), aq gh (nums .u64 [I.h 0, I.h 1, I.h 2, I.h 3, I.h 4, I.h 5, I.h 6]) 43], aq go [.sl gh 0 7 7, .bool I.big, .slice A1 i c1, .ns, .ns, .ns] 54, aq g1 [.ns, .bool false, .ns, .ns, .ns, .ns] 54] w1 := H1.reAll [0, 1, 3] [2, 4]
   refine ae (mg h0 rfl (wc rfl (wf im rfl (wv rfl (ah jm rfl (H20.kb hfb rfl)) (wv rfl (ba TL117 rfl) (mi 0 rfl (wn (aC ?_))))))))
   have H21 : St w aW [Res.all [], aH 99 6 (.ns) 0 [], aq go [.sl gh 0 7 7, .bool I.big, .slice A1 i c1, .ns, .ns, .ns] 54, Res.all [D, aH 96 4 (.slice A1 i c1) i (xs.flatMap LoadV.cells), aq gh (nums .u64 [I.h 0, I.h 1, I.h 2, I.h 3, I.h 4, I.h 5, I.h 6]) 43], aq g1 [.ns, .bool false, .ns, .ns, .ns, .ns] 54] w1 := (H20.addRow 99 6).reAll [] [0, 2, 1, 3]
   refine bW (fun ρ w' => ∃ j : Nat, ∃ A2 : Option Addr, ∃ c2 : Nat, ∃ ps : List PartV, ∃ E : Res, ρ 0 = .pt fb ∧ ρ 2 = .pt g1 ∧ ρ 3 = .pt go ∧ ρ 79 = .slice AS nS cS ∧ ρ 80 = .i64 ↑nS ∧ ρ 81 = .i64 ↑j ∧ j ≤ nS ∧ ps.map PartV.p = (I.secs.take j).map (fun s => s.part N xs0) ∧ (∀ w, E.φ w → ∀ x ∈ ps, x.ok w) ∧ St w aW [E, aH 99 6 (.slice A2 j c2) j (ps.flatMap PartV.cells), aq go [.sl gh 0 7 7, .bool I.big, .slice A1 i c1, .slice A2 j c2, .ns, .ns] 54, Res.all [D, aH 96 4 (.slice A1 i c1) i (xs.flatMap LoadV.cells), aq gh (nums .u64 [I.h 0, I.h 1, I.h 2, I.h 3, I.h 4, I.h 5, I.h 6]) 43], aq g1 [.ns, .bool false, .ns, .ns, .ns, .ns] 54] w') (fun ρ _ => nS + 1 - nv (ρ 81)) (⟨0, none, 0, [], Res.all [], h0, h2, h3, rfl, rfl, rfl, by omega, rfl, by simp, H21⟩) ?_
   rintro ρ w2 ⟨j, A2, c2, ps, E, h0, h2, h3, h79, h80, h81, hj, hps, hE, H2⟩
   refine sr (wv rfl (cx h81 h80) (wn (ad ?_)))
   refine cf rfl (fun hb36 => ?_) (fun hb36 => ?_)
   ·
    simp only [bx] at hb36
    refine wk (ad (aC (sr ?_)))
    obtain ⟨sg, hsg⟩ : ∃ v, gs[j]? = some v := ⟨gs[j]'(by have := hS.1; simp at this; omega), List.getElem?_eq_getElem _⟩
    obtain ⟨s, hsd⟩ : ∃ l, I.secs[j]? = some l := ⟨I.secs[j]'(by have := hS.1; simp at this; omega), List.getElem?_eq_getElem _⟩
    obtain ⟨_, gS, oS, rfl, hcS⟩ := hS.at1 (i := j) (v := .pt sg) (by rw [List.getElem?_map, hsg]; rfl)
    obtain ⟨⟨ha, hsz, hof, hal, hro, hnr, hfl⟩, A5, n5, c5, sb, so, sn, lim, hsec, hrel, hn5, hsb, hlim, hlim3⟩ := hSs j sg s hsg hsd
    refine wv rfl (bU j TS117 h79 h81 rfl (by omega) (by rw [Nat.mul_one])) (wv rfl (ah wO rfl (H2.kc hcS)) (ap sg 0 rfl (wn (sr (mp sg 0 rfl (wE [.pt sg] CK44 rfl rfl ?_))))))
    by_cases hfit : s.size = 0 ∨ s.off + s.size ≤ N
    ·
     refine aa (vq _ (b7 hrb H2.keep) (hG.keep H2.keep fun k hk => hk.elim) hNC hN (hr.keep0 H2.keep) (fun a ha => Nat.lt_of_lt_of_le (hA a ha) H2.keep.size) (Nat.le_trans hw4 H2.keep.size) hof (b7 hsb H2.keep) hlim hlim3 (H2.keep.cell (bS hsec (k := 3) rfl) (aN _)) (H2.keep.cell (bS hsec (k := 11) rfl) (aN _)) hfit) ?_
     rintro e w38 ⟨gd, rfl, hgd, HS37⟩
     have H39 := H2.cal0 HS37
     refine ⟨_, rfl, ?_⟩
     refine mv (.tuple #[.sl gd 0 s.size s.size, .nilIface]) rfl (we (.sl gd 0 s.size s.size) rfl rfl (we (.nilIface) rfl rfl (eh gd 0 s.size s.size rfl (av (.nilIface) rfl (wn ?_)))))
     have H40 := H39.drew
     refine dL MX (fun w' => w'.cell? ⟨go, 3, none⟩ = some (.slice A2 j c2)) (fun w' => w'.cell? ⟨sg, 0, none⟩ = some (.str s.name) ∧ w'.cell? ⟨sg, 1, none⟩ = some (.str s.seg) ∧ w'.cell? ⟨sg, 2, none⟩ = some (.u64 s.addr) ∧ w'.cell? ⟨sg, 3, none⟩ = some (.u64 (↑s.size)) ∧ w'.cell? ⟨sg, 4, none⟩ = some (.u32 (↑s.off)) ∧ w'.cell? ⟨sg, 5, none⟩ = some (.u32 s.align) ∧ w'.cell? ⟨sg, 6, none⟩ = some (.u32 s.reloff) ∧ w'.cell? ⟨sg, 7, none⟩ = some (.u32 s.nreloc) ∧ w'.cell? ⟨sg, 8, none⟩ = some (.u32 s.flags) ∧ w'.cell? ⟨sg, 9, none⟩ = some (.slice A5 n5 c5)) 66 (Pl.take 0 (Pl.takeS 1 (tr 2 50 (tr 53 4 (Pl.take 58 (Pl.take 60 (Pl.take 61 (Pl.run2 52 (Pl.run 57 (Pl.run 59 (Pl.take 62 (Pl.run 63 (Pl.run 64 (Pl.take 65 (Pl.run 66 Pl.done))))))) 57 (Pl.run2 52 (Pl.run 59 (Pl.take 62 (Pl.run 63 (Pl.run 64 (Pl.take 65 (Pl.run 66 Pl.done)))))) 59 (Pl.run 52 (Pl.take 62 (Pl.run 63 (Pl.run 64 (Pl.take 65 (Pl.run 66 Pl.done))))))))))))))) (by kernel_rfl) rfl (H40.c 3 3 rfl rfl) (⟨H40.kb hsec rfl, H40.kb hsec rfl, H40.kb hsec rfl, H40.kb hsec rfl, H40.kb hsec rfl, H40.kb hsec rfl, H40.kb hsec rfl, H40.kb hsec rfl, H40.kb hsec rfl, H40.kb hsec rfl⟩) (qy rfl (ab (o := 0) gI h3) (qs rfl rfl (fun _ hS => ah jb rfl hS) (qm (.pt sg) rfl rfl (qy rfl (ag rfl) (qy rfl (ab (o := 0) bf rfl) (qy rfl (ab (o := 0) kV rfl) (qh rfl (fun hS => ah d9 rfl hS.1) (qm (.pt sg) rfl rfl (qy rfl (ag rfl) (qy rfl (ab (o := 0) bf rfl) (qy rfl (ab (o := 0) kU rfl) ?_)))))))))))
     refine qh rfl (fun hS => ah d9 rfl hS.2.1) (qm (.pt sg) rfl rfl (qy rfl (ag rfl) (qy rfl (ab (o := 0) bf rfl) (qy rfl (ab (o := 0) kT rfl) (qh rfl (fun hS => ah aM rfl hS.2.2.1) (qm (.pt sg) rfl rfl (qy rfl (ag rfl) (qy rfl (ab (o := 0) bf rfl) (qy rfl (ab (o := 0) fD rfl) (qh rfl (fun hS => ah aM rfl hS.2.2.2.1) (qm (.pt sg) rfl rfl ?_)))))))))))
     refine qy rfl (ag rfl) (qy rfl (ab (o := 0) bf rfl) (qy rfl (ab (o := 0) ik rfl) (qh rfl (fun hS => ah ar rfl hS.2.2.2.2.1) (qy rfl (an (c := ↑s.off) bm be rfl (a6 (by omega) (by omega))) (qm (.pt sg) rfl rfl (qy rfl (ag rfl) (qy rfl (ab (o := 0) bf rfl) (qy rfl (ab (o := 0) kS rfl) (qh rfl (fun hS => ah ar rfl hS.2.2.2.2.2.1) (qy rfl (an (c := s.align) bm be rfl (a6 hal.1 (by omega))) (qm (.pt sg) rfl rfl ?_)))))))))))
     refine qy rfl (ag rfl) (qy rfl (ab (o := 0) bf rfl) (qy rfl (ab (o := 0) iU rfl) (qh rfl (fun hS => ah ar rfl hS.2.2.2.2.2.2.1) (qy rfl (an (c := s.reloff) bm be rfl (a6 hro.1 (by omega))) (qm (.pt sg) rfl rfl (qy rfl (ag rfl) (qy rfl (ab (o := 0) bf rfl) (qy rfl (ab (o := 0) fi rfl) (qh rfl (fun hS => ah ar rfl hS.2.2.2.2.2.2.2.1) (qy rfl (an (c := s.nreloc) bm be rfl (a6 hnr.1 (by omega))) (qm (.pt sg) rfl rfl ?_)))))))))))
     refine qy rfl (ag rfl) (qy rfl (ab (o := 0) bf rfl) (qy rfl (ab (o := 0) kR rfl) (qh rfl (fun hS => ah ar rfl hS.2.2.2.2.2.2.2.2.1) (qy rfl (an (c := s.flags) bm be rfl (a6 hfl.1 (by omega))) (qm (.pt sg) rfl rfl (qy rfl (ag rfl) (qy rfl (ab (o := 0) jE rfl) (qh rfl (fun hS => ah lG rfl hS.2.2.2.2.2.2.2.2.2) (qm (.sl gd 0 s.size s.size) rfl rfl (qm (.nilIface) rfl rfl (qt rfl (fun _ hS => (dq bq rfl (.inl rfl) : Yv _ _ _ _ (.bool true) _)) ?_)))))))))))
     refine ⟨?_, ?_⟩
     ·
      refine po rfl (eb H40 43 [.u64 s.addr, .u64 (↑s.size), .u64 (↑s.off), .u64 s.align, .u64 s.reloff, .u64 s.nreloc, .u64 s.flags] rfl (by kernel_rfl) (fun g41 w42 hgg41 H43 =>  ?_))
      refine ⟨⟨H43.kb hsec rfl, H43.kb hsec rfl, H43.kb hsec rfl, H43.kb hsec rfl, H43.kb hsec rfl, H43.kb hsec rfl, H43.kb hsec rfl, H43.kb hsec rfl, H43.kb hsec rfl, H43.kb hsec rfl⟩, fun _ => H43.c 4 3 rfl rfl, ?_⟩
      refine qr rfl (ec vx (args := [.slice A5 n5 c5]) rfl (aa (hP _ (hrel.keep0 H43.keep) hn5) ?_))
      rintro e w45 ⟨v, rfl, HS44⟩
      obtain ⟨A46, c47, rfl, _, _⟩ := aw (HS44.g 0 rfl)
      have H48 := H43.cal0 HS44
      refine ⟨_, rfl, ?_⟩
      refine ⟨⟨H48.kb hsec rfl, H48.kb hsec rfl, H48.kb hsec rfl, H48.kb hsec rfl, H48.kb hsec rfl, H48.kb hsec rfl, H48.kb hsec rfl, H48.kb hsec rfl, H48.kb hsec rfl, H48.kb hsec rfl⟩, fun _ => H48.c 5 3 rfl rfl, ?_⟩
      refine qr rfl (ec ke (args := [.sl gd 0 s.size s.size]) rfl (aa (ef _ (ak (H48.g 2 rfl) (by rw [List.length_take, List.length_drop, hr.1]; omega)) (fun h => by cases h) (by omega)) ?_))
      rintro e w50 ⟨v, rfl, HS49⟩
      obtain ⟨A51, c52, rfl, _, _⟩ := aw (HS49.g 0 rfl)
      have H53 := H48.cal0 HS49
      refine ⟨_, rfl, ?_⟩
      refine ⟨⟨H53.kb hsec rfl, H53.kb hsec rfl, H53.kb hsec rfl, H53.kb hsec rfl, H53.kb hsec rfl, H53.kb hsec rfl, H53.kb hsec rfl, H53.kb hsec rfl, H53.kb hsec rfl, H53.kb hsec rfl⟩, fun _ => H53.c 6 3 rfl rfl, ?_⟩
      refine qy rfl (yb (ps := [(0, .str s.name), (1, .str s.seg), (2, .sl g41 0 7 7), (3, .slice A46 n5 c47), (4, .slice A51 s.size c52), (5, .bool true)]) (cells := #[.str s.name, .str s.seg, .sl g41 0 7 7, .slice A46 n5 c47, .slice A51 s.size c52, .bool true]) rfl (by kernel_rfl)) (qr rfl (jv H53 (ps := [(0, .agg #[.str s.name, .str s.seg, .sl g41 0 7 7, .slice A46 n5 c47, .slice A51 s.size c52, .bool true])]) (e := 99) (cs := [.str s.name, .str s.seg, .sl g41 0 7 7, .slice A46 n5 c47, .slice A51 s.size c52, .bool true]) rfl (by kernel_rfl) (fun g54 w55 hgg54 H56 =>  ?_)))
      refine ⟨⟨H56.kb hsec rfl, H56.kb hsec rfl, H56.kb hsec rfl, H56.kb hsec rfl, H56.kb hsec rfl, H56.kb hsec rfl, H56.kb hsec rfl, H56.kb hsec rfl, H56.kb hsec rfl, H56.kb hsec rfl⟩, fun _ => H56.c 7 3 rfl rfl, ?_⟩
      refine qr rfl (bR H56 6 (m := 1) (news := [.str s.name, .str s.seg, .sl g41 0 7 7, .slice A46 n5 c47, .slice A51 s.size c52, .bool true]) rfl rY sd rfl (by decide) rfl rfl rfl (H56.news (i := 0) rfl) (by simp [Value.oneCell']) (by simp only [maxLen]; omega) (by omega) (fun v57 w58 H59 =>  ?_))
      obtain ⟨A60, c61, rfl, _, _⟩ := aw (H59.g 6 rfl)
      refine ⟨⟨H59.kb hsec rfl, H59.kb hsec rfl, H59.kb hsec rfl, H59.kb hsec rfl, H59.kb hsec rfl, H59.kb hsec rfl, H59.kb hsec rfl, H59.kb hsec rfl, H59.kb hsec rfl, H59.kb hsec rfl⟩, fun _ => H59.c 7 3 rfl rfl, ?_⟩
      refine qy rfl (ab (o := 0) gI h3) (dx rfl (es H59 7 3 (.slice A60 (j + 1) c61) rfl jb (fun w63 H62 =>  ?_)))
      refine ⟨⟨H62.kb hsec rfl, H62.kb hsec rfl, H62.kb hsec rfl, H62.kb hsec rfl, H62.kb hsec rfl, H62.kb hsec rfl, H62.kb hsec rfl, H62.kb hsec rfl, H62.kb hsec rfl, H62.kb hsec rfl⟩, fun h => absurd h (by decide), ?_⟩
      refine ck (ao (ac (ae (wv rfl (aT (k := .i64) (c := ↑j + 1) h81 rfl (aE (by omega) (by omega))) (mi (↑j + 1) rfl (wn ?_))))))
      have hcl : PartV.cells (PartV.mk (s.part N xs0) (.sl g41 0 7 7) (.slice A46 n5 c47) (.slice A51 s.size c52)) = [.str s.name, .str s.seg, .sl g41 0 7 7, .slice A46 n5 c47, .slice A51 s.size c52, .bool true] := by simp [PartV.cells, SecD.part, hfit]
      have Hn : St w aW [Res.all [aq g41 (nums .u64 (s.part N xs0).nums) 43, aH 101 7 (.slice A46 n5 c47) n5 (s.rels.flatMap Rel.cells), aH 5 1 (.slice A51 s.size c52) s.size (nums .u8 ((xs0.drop s.off).take s.size)), E], aH 99 6 (.slice A60 (j + 1) c61) (j + 1) ((ps ++ [(PartV.mk (s.part N xs0) (.sl g41 0 7 7) (.slice A46 n5 c47) (.slice A51 s.size c52))]).flatMap PartV.cells), aq go [.sl gh 0 7 7, .bool I.big, .slice A1 i c1, .slice A60 (j + 1) c61, .ns, .ns] 54, Res.all [D, aH 96 4 (.slice A1 i c1) i (xs.flatMap LoadV.cells), aq gh (nums .u64 [I.h 0, I.h 1, I.h 2, I.h 3, I.h 4, I.h 5, I.h 6]) 43], aq g1 [.ns, .bool false, .ns, .ns, .ns, .ns] 54] w63 := by
       rw [List.flatMap_append, List.flatMap_singleton, hcl]
       exact H62.reAll [3, 2, 1, 5] [6, 7, 8, 9]
      have hxo : ∀ w, (Res.all [aq g41 (nums .u64 (s.part N xs0).nums) 43, aH 101 7 (.slice A46 n5 c47) n5 (s.rels.flatMap Rel.cells), aH 5 1 (.slice A51 s.size c52) s.size (nums .u8 ((xs0.drop s.off).take s.size)), E]).φ w → PartV.ok w (PartV.mk (s.part N xs0) (.sl g41 0 7 7) (.slice A46 n5 c47) (.slice A51 s.size c52)) := fun w h => by
       have h := aV.1 h
       refine ⟨⟨_, _, _, rfl, ak (h (aq g41 (nums .u64 (s.part N xs0).nums) 43) (by simp)) rfl⟩, ?_, ?_⟩
       · obtain ⟨A, c, e, hv, _⟩ := aw (h (aH 101 7 (.slice A46 n5 c47) n5 (s.rels.flatMap Rel.cells)) (by simp)); exact ⟨A, _, c, e, hv⟩
       · obtain ⟨A, c, e, hv, _⟩ := aw (h (aH 5 1 (.slice A51 s.size c52) s.size (nums .u8 ((xs0.drop s.off).take s.size))) (by simp)); exact ⟨A, _, c, e, by have := (show RV w A _ 1 (nums .u8 ((xs0.drop s.off).take s.size)) from hv).ri; simpa [SecD.part, hfit] using this⟩
      exact ⟨⟨j + 1, _, _, ps ++ [(PartV.mk (s.part N xs0) (.sl g41 0 7 7) (.slice A46 n5 c47) (.slice A51 s.size c52))], Res.all [aq g41 (nums .u64 (s.part N xs0).nums) 43, aH 101 7 (.slice A46 n5 c47) n5 (s.rels.flatMap Rel.cells), aH 5 1 (.slice A51 s.size c52) s.size (nums .u8 ((xs0.drop s.off).take s.size)), E], h0, h2, h3, h79, h80, rfl, by omega, by rw [List.map_append, hps, List.map_singleton, List.take_add_one, List.map_append, hsd]; rfl, fun w h y hy => by rcases List.mem_append.1 hy with hy | hy; exact hE w (aV.1 h E (by simp)) y hy; rw [List.mem_singleton.1 hy]; exact hxo w h, Hn⟩, by show nS + 1 - nv (.i64 (↑j + 1)) < nS + 1 - nv (ρ 81); rw [h81]; simp only [nv]; omega⟩
     ·
      refine po rfl (ec vx (args := [.slice A5 n5 c5]) rfl (aa (hP _ (hrel.keep0 H40.keep) hn5) ?_))
      rintro e w65 ⟨v, rfl, HS64⟩
      obtain ⟨A66, c67, rfl, _, _⟩ := aw (HS64.g 0 rfl)
      have H68 := H40.cal0 HS64
      refine ⟨_, rfl, ?_⟩
      refine ⟨⟨H68.kb hsec rfl, H68.kb hsec rfl, H68.kb hsec rfl, H68.kb hsec rfl, H68.kb hsec rfl, H68.kb hsec rfl, H68.kb hsec rfl, H68.kb hsec rfl, H68.kb hsec rfl, H68.kb hsec rfl⟩, fun _ => H68.c 4 3 rfl rfl, ?_⟩
      refine ⟨?_, ?_⟩
      ·
       refine po rfl (eb H68 43 [.u64 s.addr, .u64 (↑s.size), .u64 (↑s.off), .u64 s.align, .u64 s.reloff, .u64 s.nreloc, .u64 s.flags] rfl (by kernel_rfl) (fun g69 w70 hgg69 H71 =>  ?_))
       refine ⟨⟨H71.kb hsec rfl, H71.kb hsec rfl, H71.kb hsec rfl, H71.kb hsec rfl, H71.kb hsec rfl, H71.kb hsec rfl, H71.kb hsec rfl, H71.kb hsec rfl, H71.kb hsec rfl, H71.kb hsec rfl⟩, fun _ => H71.c 5 3 rfl rfl, ?_⟩
       refine qr rfl (ec ke (args := [.sl gd 0 s.size s.size]) rfl (aa (ef _ (ak (H71.g 2 rfl) (by rw [List.length_take, List.length_drop, hr.1]; omega)) (fun h => by cases h) (by omega)) ?_))
       rintro e w73 ⟨v, rfl, HS72⟩
       obtain ⟨A74, c75, rfl, _, _⟩ := aw (HS72.g 0 rfl)
       have H76 := H71.cal0 HS72
       refine ⟨_, rfl, ?_⟩
       refine ⟨⟨H76.kb hsec rfl, H76.kb hsec rfl, H76.kb hsec rfl, H76.kb hsec rfl, H76.kb hsec rfl, H76.kb hsec rfl, H76.kb hsec rfl, H76.kb hsec rfl, H76.kb hsec rfl, H76.kb hsec rfl⟩, fun _ => H76.c 6 3 rfl rfl, ?_⟩
       refine qy rfl (yb (ps := [(0, .str s.name), (1, .str s.seg), (2, .sl g69 0 7 7), (3, .slice A66 n5 c67), (4, .slice A74 s.size c75), (5, .bool true)]) (cells := #[.str s.name, .str s.seg, .sl g69 0 7 7, .slice A66 n5 c67, .slice A74 s.size c75, .bool true]) rfl (by kernel_rfl)) (qr rfl (jv H76 (ps := [(0, .agg #[.str s.name, .str s.seg, .sl g69 0 7 7, .slice A66 n5 c67, .slice A74 s.size c75, .bool true])]) (e := 99) (cs := [.str s.name, .str s.seg, .sl g69 0 7 7, .slice A66 n5 c67, .slice A74 s.size c75, .bool true]) rfl (by kernel_rfl) (fun g77 w78 hgg77 H79 =>  ?_)))
       refine ⟨⟨H79.kb hsec rfl, H79.kb hsec rfl, H79.kb hsec rfl, H79.kb hsec rfl, H79.kb hsec rfl, H79.kb hsec rfl, H79.kb hsec rfl, H79.kb hsec rfl, H79.kb hsec rfl, H79.kb hsec rfl⟩, fun _ => H79.c 7 3 rfl rfl, ?_⟩
       refine qr rfl (bR H79 6 (m := 1) (news := [.str s.name, .str s.seg, .sl g69 0 7 7, .slice A66 n5 c67, .slice A74 s.size c75, .bool true]) rfl rY sd rfl (by decide) rfl rfl rfl (H79.news (i := 0) rfl) (by simp [Value.oneCell']) (by simp only [maxLen]; omega) (by omega) (fun v80 w81 H82 =>  ?_))
       obtain ⟨A83, c84, rfl, _, _⟩ := aw (H82.g 6 rfl)
       refine ⟨⟨H82.kb hsec rfl, H82.kb hsec rfl, H82.kb hsec rfl, H82.kb hsec rfl, H82.kb hsec rfl, H82.kb hsec rfl, H82.kb hsec rfl, H82.kb hsec rfl, H82.kb hsec rfl, H82.kb hsec rfl⟩, fun _ => H82.c 7 3 rfl rfl, ?_⟩
       refine qy rfl (ab (o := 0) gI h3) (dx rfl (es H82 7 3 (.slice A83 (j + 1) c84) rfl jb (fun w86 H85 =>  ?_)))
       refine ⟨⟨H85.kb hsec rfl, H85.kb hsec rfl, H85.kb hsec rfl, H85.kb hsec rfl, H85.kb hsec rfl, H85.kb hsec rfl, H85.kb hsec rfl, H85.kb hsec rfl, H85.kb hsec rfl, H85.kb hsec rfl⟩, fun h => absurd h (by decide), ?_⟩
       refine ck (ao (ac (ae (wv rfl (aT (k := .i64) (c := ↑j + 1) h81 rfl (aE (by omega) (by omega))) (mi (↑j + 1) rfl (wn ?_))))))
       have hcl : PartV.cells (PartV.mk (s.part N xs0) (.sl g69 0 7 7) (.slice A66 n5 c67) (.slice A74 s.size c75)) = [.str s.name, .str s.seg, .sl g69 0 7 7, .slice A66 n5 c67, .slice A74 s.size c75, .bool true] := by simp [PartV.cells, SecD.part, hfit]
       have Hn : St w aW [Res.all [aq g69 (nums .u64 (s.part N xs0).nums) 43, aH 101 7 (.slice A66 n5 c67) n5 (s.rels.flatMap Rel.cells), aH 5 1 (.slice A74 s.size c75) s.size (nums .u8 ((xs0.drop s.off).take s.size)), E], aH 99 6 (.slice A83 (j + 1) c84) (j + 1) ((ps ++ [(PartV.mk (s.part N xs0) (.sl g69 0 7 7) (.slice A66 n5 c67) (.slice A74 s.size c75))]).flatMap PartV.cells), aq go [.sl gh 0 7 7, .bool I.big, .slice A1 i c1, .slice A83 (j + 1) c84, .ns, .ns] 54, Res.all [D, aH 96 4 (.slice A1 i c1) i (xs.flatMap LoadV.cells), aq gh (nums .u64 [I.h 0, I.h 1, I.h 2, I.h 3, I.h 4, I.h 5, I.h 6]) 43], aq g1 [.ns, .bool false, .ns, .ns, .ns, .ns] 54] w86 := by
        rw [List.flatMap_append, List.flatMap_singleton, hcl]
        exact H85.reAll [2, 3, 1, 5] [6, 7, 8, 9]
       have hxo : ∀ w, (Res.all [aq g69 (nums .u64 (s.part N xs0).nums) 43, aH 101 7 (.slice A66 n5 c67) n5 (s.rels.flatMap Rel.cells), aH 5 1 (.slice A74 s.size c75) s.size (nums .u8 ((xs0.drop s.off).take s.size)), E]).φ w → PartV.ok w (PartV.mk (s.part N xs0) (.sl g69 0 7 7) (.slice A66 n5 c67) (.slice A74 s.size c75)) := fun w h => by
        have h := aV.1 h
        refine ⟨⟨_, _, _, rfl, ak (h (aq g69 (nums .u64 (s.part N xs0).nums) 43) (by simp)) rfl⟩, ?_, ?_⟩
        · obtain ⟨A, c, e, hv, _⟩ := aw (h (aH 101 7 (.slice A66 n5 c67) n5 (s.rels.flatMap Rel.cells)) (by simp)); exact ⟨A, _, c, e, hv⟩
        · obtain ⟨A, c, e, hv, _⟩ := aw (h (aH 5 1 (.slice A74 s.size c75) s.size (nums .u8 ((xs0.drop s.off).take s.size))) (by simp)); exact ⟨A, _, c, e, by have := (show RV w A _ 1 (nums .u8 ((xs0.drop s.off).take s.size)) from hv).ri; simpa [SecD.part, hfit] using this⟩
       exact ⟨⟨j + 1, _, _, ps ++ [(PartV.mk (s.part N xs0) (.sl g69 0 7 7) (.slice A66 n5 c67) (.slice A74 s.size c75))], Res.all [aq g69 (nums .u64 (s.part N xs0).nums) 43, aH 101 7 (.slice A66 n5 c67) n5 (s.rels.flatMap Rel.cells), aH 5 1 (.slice A74 s.size c75) s.size (nums .u8 ((xs0.drop s.off).take s.size)), E], h0, h2, h3, h79, h80, rfl, by omega, by rw [List.map_append, hps, List.map_singleton, List.take_add_one, List.map_append, hsd]; rfl, fun w h y hy => by rcases List.mem_append.1 hy with hy | hy; exact hE w (aV.1 h E (by simp)) y hy; rw [List.mem_singleton.1 hy]; exact hxo w h, Hn⟩, by show nS + 1 - nv (.i64 (↑j + 1)) < nS + 1 - nv (ρ 81); rw [h81]; simp only [nv]; omega⟩
      ·
       refine po rfl (ec ke (args := [.sl gd 0 s.size s.size]) rfl (aa (ef _ (ak (H68.g 1 rfl) (by rw [List.length_take, List.length_drop, hr.1]; omega)) (fun h => by cases h) (by omega)) ?_))
       rintro e w88 ⟨v, rfl, HS87⟩
       obtain ⟨A89, c90, rfl, _, _⟩ := aw (HS87.g 0 rfl)
       have H91 := H68.cal0 HS87
       refine ⟨_, rfl, ?_⟩
       refine ⟨⟨H91.kb hsec rfl, H91.kb hsec rfl, H91.kb hsec rfl, H91.kb hsec rfl, H91.kb hsec rfl, H91.kb hsec rfl, H91.kb hsec rfl, H91.kb hsec rfl, H91.kb hsec rfl, H91.kb hsec rfl⟩, fun _ => H91.c 5 3 rfl rfl, ?_⟩
       refine qr rfl (eb H91 43 [.u64 s.addr, .u64 (↑s.size), .u64 (↑s.off), .u64 s.align, .u64 s.reloff, .u64 s.nreloc, .u64 s.flags] rfl (by kernel_rfl) (fun g92 w93 hgg92 H94 =>  ?_))
       refine ⟨⟨H94.kb hsec rfl, H94.kb hsec rfl, H94.kb hsec rfl, H94.kb hsec rfl, H94.kb hsec rfl, H94.kb hsec rfl, H94.kb hsec rfl, H94.kb hsec rfl, H94.kb hsec rfl, H94.kb hsec rfl⟩, fun _ => H94.c 6 3 rfl rfl, ?_⟩
       refine qy rfl (yb (ps := [(0, .str s.name), (1, .str s.seg), (2, .sl g92 0 7 7), (3, .slice A66 n5 c67), (4, .slice A89 s.size c90), (5, .bool true)]) (cells := #[.str s.name, .str s.seg, .sl g92 0 7 7, .slice A66 n5 c67, .slice A89 s.size c90, .bool true]) rfl (by kernel_rfl)) (qr rfl (jv H94 (ps := [(0, .agg #[.str s.name, .str s.seg, .sl g92 0 7 7, .slice A66 n5 c67, .slice A89 s.size c90, .bool true])]) (e := 99) (cs := [.str s.name, .str s.seg, .sl g92 0 7 7, .slice A66 n5 c67, .slice A89 s.size c90, .bool true]) rfl (by kernel_rfl) (fun g95 w96 hgg95 H97 =>  ?_)))
       refine ⟨⟨H97.kb hsec rfl, H97.kb hsec rfl, H97.kb hsec rfl, H97.kb hsec rfl, H97.kb hsec rfl, H97.kb hsec rfl, H97.kb hsec rfl, H97.kb hsec rfl, H97.kb hsec rfl, H97.kb hsec rfl⟩, fun _ => H97.c 7 3 rfl rfl, ?_⟩
       refine qr rfl (bR H97 6 (m := 1) (news := [.str s.name, .str s.seg, .sl g92 0 7 7, .slice A66 n5 c67, .slice A89 s.size c90, .bool true]) rfl rY sd rfl (by decide) rfl rfl rfl (H97.news (i := 0) rfl) (by simp [Value.oneCell']) (by simp only [maxLen]; omega) (by omega) (fun v98 w99 H100 =>  ?_))
       obtain ⟨A101, c102, rfl, _, _⟩ := aw (H100.g 6 rfl)
       refine ⟨⟨H100.kb hsec rfl, H100.kb hsec rfl, H100.kb hsec rfl, H100.kb hsec rfl, H100.kb hsec rfl, H100.kb hsec rfl, H100.kb hsec rfl, H100.kb hsec rfl, H100.kb hsec rfl, H100.kb hsec rfl⟩, fun _ => H100.c 7 3 rfl rfl, ?_⟩
       refine qy rfl (ab (o := 0) gI h3) (dx rfl (es H100 7 3 (.slice A101 (j + 1) c102) rfl jb (fun w104 H103 =>  ?_)))
       refine ⟨⟨H103.kb hsec rfl, H103.kb hsec rfl, H103.kb hsec rfl, H103.kb hsec rfl, H103.kb hsec rfl, H103.kb hsec rfl, H103.kb hsec rfl, H103.kb hsec rfl, H103.kb hsec rfl, H103.kb hsec rfl⟩, fun h => absurd h (by decide), ?_⟩
       refine ck (ao (ac (ae (wv rfl (aT (k := .i64) (c := ↑j + 1) h81 rfl (aE (by omega) (by omega))) (mi (↑j + 1) rfl (wn ?_))))))
       have hcl : PartV.cells (PartV.mk (s.part N xs0) (.sl g92 0 7 7) (.slice A66 n5 c67) (.slice A89 s.size c90)) = [.str s.name, .str s.seg, .sl g92 0 7 7, .slice A66 n5 c67, .slice A89 s.size c90, .bool true] := by simp [PartV.cells, SecD.part, hfit]
       have Hn : St w aW [Res.all [aq g92 (nums .u64 (s.part N xs0).nums) 43, aH 101 7 (.slice A66 n5 c67) n5 (s.rels.flatMap Rel.cells), aH 5 1 (.slice A89 s.size c90) s.size (nums .u8 ((xs0.drop s.off).take s.size)), E], aH 99 6 (.slice A101 (j + 1) c102) (j + 1) ((ps ++ [(PartV.mk (s.part N xs0) (.sl g92 0 7 7) (.slice A66 n5 c67) (.slice A89 s.size c90))]).flatMap PartV.cells), aq go [.sl gh 0 7 7, .bool I.big, .slice A1 i c1, .slice A101 (j + 1) c102, .ns, .ns] 54, Res.all [D, aH 96 4 (.slice A1 i c1) i (xs.flatMap LoadV.cells), aq gh (nums .u64 [I.h 0, I.h 1, I.h 2, I.h 3, I.h 4, I.h 5, I.h 6]) 43], aq g1 [.ns, .bool false, .ns, .ns, .ns, .ns] 54] w104 := by
        rw [List.flatMap_append, List.flatMap_singleton, hcl]
        exact H103.reAll [1, 3, 2, 5] [6, 7, 8, 9]
       have hxo : ∀ w, (Res.all [aq g92 (nums .u64 (s.part N xs0).nums) 43, aH 101 7 (.slice A66 n5 c67) n5 (s.rels.flatMap Rel.cells), aH 5 1 (.slice A89 s.size c90) s.size (nums .u8 ((xs0.drop s.off).take s.size)), E]).φ w → PartV.ok w (PartV.mk (s.part N xs0) (.sl g92 0 7 7) (.slice A66 n5 c67) (.slice A89 s.size c90)) := fun w h => by
        have h := aV.1 h
        refine ⟨⟨_, _, _, rfl, ak (h (aq g92 (nums .u64 (s.part N xs0).nums) 43) (by simp)) rfl⟩, ?_, ?_⟩
        · obtain ⟨A, c, e, hv, _⟩ := aw (h (aH 101 7 (.slice A66 n5 c67) n5 (s.rels.flatMap Rel.cells)) (by simp)); exact ⟨A, _, c, e, hv⟩
        · obtain ⟨A, c, e, hv, _⟩ := aw (h (aH 5 1 (.slice A89 s.size c90) s.size (nums .u8 ((xs0.drop s.off).take s.size))) (by simp)); exact ⟨A, _, c, e, by have := (show RV w A _ 1 (nums .u8 ((xs0.drop s.off).take s.size)) from hv).ri; simpa [SecD.part, hfit] using this⟩
       exact ⟨⟨j + 1, _, _, ps ++ [(PartV.mk (s.part N xs0) (.sl g92 0 7 7) (.slice A66 n5 c67) (.slice A89 s.size c90))], Res.all [aq g92 (nums .u64 (s.part N xs0).nums) 43, aH 101 7 (.slice A66 n5 c67) n5 (s.rels.flatMap Rel.cells), aH 5 1 (.slice A89 s.size c90) s.size (nums .u8 ((xs0.drop s.off).take s.size)), E], h0, h2, h3, h79, h80, rfl, by omega, by rw [List.map_append, hps, List.map_singleton, List.take_add_one, List.map_append, hsd]; rfl, fun w h y hy => by rcases List.mem_append.1 hy with hy | hy; exact hE w (aV.1 h E (by simp)) y hy; rw [List.mem_singleton.1 hy]; exact hxo w h, Hn⟩, by show nS + 1 - nv (.i64 (↑j + 1)) < nS + 1 - nv (ρ 81); rw [h81]; simp only [nv]; omega⟩
    ·
     refine aa (ug _ (b7 hrb H2.keep) (hG.keep H2.keep fun k hk => hk.elim) hNC hN (hr.keep0 H2.keep) (fun a ha => Nat.lt_of_lt_of_le (hA a ha) H2.keep.size) (Nat.le_trans hw4 H2.keep.size) hof (b7 hsb H2.keep) hlim hlim3 (H2.keep.cell (bS hsec (k := 3) rfl) (aN _)) (H2.keep.cell (bS hsec (k := 11) rfl) (aN _)) (by omega) (by omega) hsz) ?_
     rintro e w106 ⟨T, ev, rfl, HS105⟩
     have H107 := H2.cal0 HS105
     refine ⟨_, rfl, ?_⟩
     refine mv (.tuple #[.ns, .iface T ev]) rfl (we (.ns) rfl rfl (we (.iface T ev) rfl rfl (av (.ns) rfl (av (.iface T ev) rfl (wn ?_)))))
     have H108 := H107.drew
     refine dL MX (fun w' => w'.cell? ⟨go, 3, none⟩ = some (.slice A2 j c2)) (fun w' => w'.cell? ⟨sg, 0, none⟩ = some (.str s.name) ∧ w'.cell? ⟨sg, 1, none⟩ = some (.str s.seg) ∧ w'.cell? ⟨sg, 2, none⟩ = some (.u64 s.addr) ∧ w'.cell? ⟨sg, 3, none⟩ = some (.u64 (↑s.size)) ∧ w'.cell? ⟨sg, 4, none⟩ = some (.u32 (↑s.off)) ∧ w'.cell? ⟨sg, 5, none⟩ = some (.u32 s.align) ∧ w'.cell? ⟨sg, 6, none⟩ = some (.u32 s.reloff) ∧ w'.cell? ⟨sg, 7, none⟩ = some (.u32 s.nreloc) ∧ w'.cell? ⟨sg, 8, none⟩ = some (.u32 s.flags) ∧ w'.cell? ⟨sg, 9, none⟩ = some (.slice A5 n5 c5)) 66 (Pl.take 0 (Pl.takeS 1 (tr 2 50 (tr 53 4 (Pl.take 58 (Pl.take 60 (Pl.take 61 (Pl.run2 52 (Pl.run 57 (Pl.run 59 (Pl.take 62 (Pl.run 63 (Pl.run 64 (Pl.take 65 (Pl.run 66 Pl.done))))))) 57 (Pl.run2 52 (Pl.run 59 (Pl.take 62 (Pl.run 63 (Pl.run 64 (Pl.take 65 (Pl.run 66 Pl.done)))))) 59 (Pl.run 52 (Pl.take 62 (Pl.run 63 (Pl.run 64 (Pl.take 65 (Pl.run 66 Pl.done))))))))))))))) (by kernel_rfl) rfl (H108.c 2 3 rfl rfl) (⟨H108.kb hsec rfl, H108.kb hsec rfl, H108.kb hsec rfl, H108.kb hsec rfl, H108.kb hsec rfl, H108.kb hsec rfl, H108.kb hsec rfl, H108.kb hsec rfl, H108.kb hsec rfl, H108.kb hsec rfl⟩) (qy rfl (ab (o := 0) gI h3) (qs rfl rfl (fun _ hS => ah jb rfl hS) (qm (.pt sg) rfl rfl (qy rfl (ag rfl) (qy rfl (ab (o := 0) bf rfl) (qy rfl (ab (o := 0) kV rfl) (qh rfl (fun hS => ah d9 rfl hS.1) (qm (.pt sg) rfl rfl (qy rfl (ag rfl) (qy rfl (ab (o := 0) bf rfl) (qy rfl (ab (o := 0) kU rfl) ?_)))))))))))
     refine qh rfl (fun hS => ah d9 rfl hS.2.1) (qm (.pt sg) rfl rfl (qy rfl (ag rfl) (qy rfl (ab (o := 0) bf rfl) (qy rfl (ab (o := 0) kT rfl) (qh rfl (fun hS => ah aM rfl hS.2.2.1) (qm (.pt sg) rfl rfl (qy rfl (ag rfl) (qy rfl (ab (o := 0) bf rfl) (qy rfl (ab (o := 0) fD rfl) (qh rfl (fun hS => ah aM rfl hS.2.2.2.1) (qm (.pt sg) rfl rfl ?_)))))))))))
     refine qy rfl (ag rfl) (qy rfl (ab (o := 0) bf rfl) (qy rfl (ab (o := 0) ik rfl) (qh rfl (fun hS => ah ar rfl hS.2.2.2.2.1) (qy rfl (an (c := ↑s.off) bm be rfl (a6 (by omega) (by omega))) (qm (.pt sg) rfl rfl (qy rfl (ag rfl) (qy rfl (ab (o := 0) bf rfl) (qy rfl (ab (o := 0) kS rfl) (qh rfl (fun hS => ah ar rfl hS.2.2.2.2.2.1) (qy rfl (an (c := s.align) bm be rfl (a6 hal.1 (by omega))) (qm (.pt sg) rfl rfl ?_)))))))))))
     refine qy rfl (ag rfl) (qy rfl (ab (o := 0) bf rfl) (qy rfl (ab (o := 0) iU rfl) (qh rfl (fun hS => ah ar rfl hS.2.2.2.2.2.2.1) (qy rfl (an (c := s.reloff) bm be rfl (a6 hro.1 (by omega))) (qm (.pt sg) rfl rfl (qy rfl (ag rfl) (qy rfl (ab (o := 0) bf rfl) (qy rfl (ab (o := 0) fi rfl) (qh rfl (fun hS => ah ar rfl hS.2.2.2.2.2.2.2.1) (qy rfl (an (c := s.nreloc) bm be rfl (a6 hnr.1 (by omega))) (qm (.pt sg) rfl rfl ?_)))))))))))
     refine qy rfl (ag rfl) (qy rfl (ab (o := 0) bf rfl) (qy rfl (ab (o := 0) kR rfl) (qh rfl (fun hS => ah ar rfl hS.2.2.2.2.2.2.2.2.1) (qy rfl (an (c := s.flags) bm be rfl (a6 hfl.1 (by omega))) (qm (.pt sg) rfl rfl (qy rfl (ag rfl) (qy rfl (ab (o := 0) jE rfl) (qh rfl (fun hS => ah lG rfl hS.2.2.2.2.2.2.2.2.2) (qm (.ns) rfl rfl (qm (.iface T ev) rfl rfl (qt rfl (fun _ hS => (dq bq rfl (.inr ⟨_, _, rfl⟩) : Yv _ _ _ _ (.bool false) _)) ?_)))))))))))
     refine ⟨?_, ?_⟩
     ·
      refine po rfl (eb H108 43 [.u64 s.addr, .u64 (↑s.size), .u64 (↑s.off), .u64 s.align, .u64 s.reloff, .u64 s.nreloc, .u64 s.flags] rfl (by kernel_rfl) (fun g109 w110 hgg109 H111 =>  ?_))
      refine ⟨⟨H111.kb hsec rfl, H111.kb hsec rfl, H111.kb hsec rfl, H111.kb hsec rfl, H111.kb hsec rfl, H111.kb hsec rfl, H111.kb hsec rfl, H111.kb hsec rfl, H111.kb hsec rfl, H111.kb hsec rfl⟩, fun _ => H111.c 3 3 rfl rfl, ?_⟩
      refine qr rfl (ec vx (args := [.slice A5 n5 c5]) rfl (aa (hP _ (hrel.keep0 H111.keep) hn5) ?_))
      rintro e w113 ⟨v, rfl, HS112⟩
      obtain ⟨A114, c115, rfl, _, _⟩ := aw (HS112.g 0 rfl)
      have H116 := H111.cal0 HS112
      refine ⟨_, rfl, ?_⟩
      refine ⟨⟨H116.kb hsec rfl, H116.kb hsec rfl, H116.kb hsec rfl, H116.kb hsec rfl, H116.kb hsec rfl, H116.kb hsec rfl, H116.kb hsec rfl, H116.kb hsec rfl, H116.kb hsec rfl, H116.kb hsec rfl⟩, fun _ => H116.c 4 3 rfl rfl, ?_⟩
      refine qr rfl (ec ke (args := [.ns]) rfl (aa (gc _) ?_))
      rintro e w118 ⟨v, rfl, HS117⟩
      obtain ⟨A119, c120, rfl, _, _⟩ := aw (HS117.g 0 rfl)
      have H121 := H116.cal0 HS117
      refine ⟨_, rfl, ?_⟩
      refine ⟨⟨H121.kb hsec rfl, H121.kb hsec rfl, H121.kb hsec rfl, H121.kb hsec rfl, H121.kb hsec rfl, H121.kb hsec rfl, H121.kb hsec rfl, H121.kb hsec rfl, H121.kb hsec rfl, H121.kb hsec rfl⟩, fun _ => H121.c 5 3 rfl rfl, ?_⟩
      refine qy rfl (yb (ps := [(0, .str s.name), (1, .str s.seg), (2, .sl g109 0 7 7), (3, .slice A114 n5 c115), (4, .slice A119 0 c120), (5, .bool false)]) (cells := #[.str s.name, .str s.seg, .sl g109 0 7 7, .slice A114 n5 c115, .slice A119 0 c120, .bool false]) rfl (by kernel_rfl)) (qr rfl (jv H121 (ps := [(0, .agg #[.str s.name, .str s.seg, .sl g109 0 7 7, .slice A114 n5 c115, .slice A119 0 c120, .bool false])]) (e := 99) (cs := [.str s.name, .str s.seg, .sl g109 0 7 7, .slice A114 n5 c115, .slice A119 0 c120, .bool false]) rfl (by kernel_rfl) (fun g122 w123 hgg122 H124 =>  ?_)))
      refine ⟨⟨H124.kb hsec rfl, H124.kb hsec rfl, H124.kb hsec rfl, H124.kb hsec rfl, H124.kb hsec rfl, H124.kb hsec rfl, H124.kb hsec rfl, H124.kb hsec rfl, H124.kb hsec rfl, H124.kb hsec rfl⟩, fun _ => H124.c 6 3 rfl rfl, ?_⟩
      refine qr rfl (bR H124 5 (m := 1) (news := [.str s.name, .str s.seg, .sl g109 0 7 7, .slice A114 n5 c115, .slice A119 0 c120, .bool false]) rfl rY sd rfl (by decide) rfl rfl rfl (H124.news (i := 0) rfl) (by simp [Value.oneCell']) (by simp only [maxLen]; omega) (by omega) (fun v125 w126 H127 =>  ?_))
      obtain ⟨A128, c129, rfl, _, _⟩ := aw (H127.g 5 rfl)
      refine ⟨⟨H127.kb hsec rfl, H127.kb hsec rfl, H127.kb hsec rfl, H127.kb hsec rfl, H127.kb hsec rfl, H127.kb hsec rfl, H127.kb hsec rfl, H127.kb hsec rfl, H127.kb hsec rfl, H127.kb hsec rfl⟩, fun _ => H127.c 6 3 rfl rfl, ?_⟩
      refine qy rfl (ab (o := 0) gI h3) (dx rfl (es H127 6 3 (.slice A128 (j + 1) c129) rfl jb (fun w131 H130 =>  ?_)))
      refine ⟨⟨H130.kb hsec rfl, H130.kb hsec rfl, H130.kb hsec rfl, H130.kb hsec rfl, H130.kb hsec rfl, H130.kb hsec rfl, H130.kb hsec rfl, H130.kb hsec rfl, H130.kb hsec rfl, H130.kb hsec rfl⟩, fun h => absurd h (by decide), ?_⟩
      refine ck (ao (ac (ae (wv rfl (aT (k := .i64) (c := ↑j + 1) h81 rfl (aE (by omega) (by omega))) (mi (↑j + 1) rfl (wn ?_))))))
      have hcl : PartV.cells (PartV.mk (s.part N xs0) (.sl g109 0 7 7) (.slice A114 n5 c115) (.slice A119 0 c120)) = [.str s.name, .str s.seg, .sl g109 0 7 7, .slice A114 n5 c115, .slice A119 0 c120, .bool false] := by simp [PartV.cells, SecD.part, hfit]
      have Hn : St w aW [Res.all [aq g109 (nums .u64 (s.part N xs0).nums) 43, aH 101 7 (.slice A114 n5 c115) n5 (s.rels.flatMap Rel.cells), aH 5 1 (.slice A119 0 c120) 0 ([]), E], aH 99 6 (.slice A128 (j + 1) c129) (j + 1) ((ps ++ [(PartV.mk (s.part N xs0) (.sl g109 0 7 7) (.slice A114 n5 c115) (.slice A119 0 c120))]).flatMap PartV.cells), aq go [.sl gh 0 7 7, .bool I.big, .slice A1 i c1, .slice A128 (j + 1) c129, .ns, .ns] 54, Res.all [D, aH 96 4 (.slice A1 i c1) i (xs.flatMap LoadV.cells), aq gh (nums .u64 [I.h 0, I.h 1, I.h 2, I.h 3, I.h 4, I.h 5, I.h 6]) 43], aq g1 [.ns, .bool false, .ns, .ns, .ns, .ns] 54] w131 := by
       rw [List.flatMap_append, List.flatMap_singleton, hcl]
       exact H130.reAll [3, 2, 1, 4] [5, 6, 7, 8]
      have hxo : ∀ w, (Res.all [aq g109 (nums .u64 (s.part N xs0).nums) 43, aH 101 7 (.slice A114 n5 c115) n5 (s.rels.flatMap Rel.cells), aH 5 1 (.slice A119 0 c120) 0 ([]), E]).φ w → PartV.ok w (PartV.mk (s.part N xs0) (.sl g109 0 7 7) (.slice A114 n5 c115) (.slice A119 0 c120)) := fun w h => by
       have h := aV.1 h
       refine ⟨⟨_, _, _, rfl, ak (h (aq g109 (nums .u64 (s.part N xs0).nums) 43) (by simp)) rfl⟩, ?_, ?_⟩
       · obtain ⟨A, c, e, hv, _⟩ := aw (h (aH 101 7 (.slice A114 n5 c115) n5 (s.rels.flatMap Rel.cells)) (by simp)); exact ⟨A, _, c, e, hv⟩
       · obtain ⟨A, c, e, hv, _⟩ := aw (h (aH 5 1 (.slice A119 0 c120) 0 ([])) (by simp)); exact ⟨A, _, c, e, by have := (show RV w A _ 1 (nums .u8 []) from hv).ri; simpa [SecD.part, hfit] using this⟩
      exact ⟨⟨j + 1, _, _, ps ++ [(PartV.mk (s.part N xs0) (.sl g109 0 7 7) (.slice A114 n5 c115) (.slice A119 0 c120))], Res.all [aq g109 (nums .u64 (s.part N xs0).nums) 43, aH 101 7 (.slice A114 n5 c115) n5 (s.rels.flatMap Rel.cells), aH 5 1 (.slice A119 0 c120) 0 ([]), E], h0, h2, h3, h79, h80, rfl, by omega, by rw [List.map_append, hps, List.map_singleton, List.take_add_one, List.map_append, hsd]; rfl, fun w h y hy => by rcases List.mem_append.1 hy with hy | hy; exact hE w (aV.1 h E (by simp)) y hy; rw [List.mem_singleton.1 hy]; exact hxo w h, Hn⟩, by show nS + 1 - nv (.i64 (↑j + 1)) < nS + 1 - nv (ρ 81); rw [h81]; simp only [nv]; omega⟩
     ·
      refine po rfl (ec vx (args := [.slice A5 n5 c5]) rfl (aa (hP _ (hrel.keep0 H108.keep) hn5) ?_))
      rintro e w133 ⟨v, rfl, HS132⟩
      obtain ⟨A134, c135, rfl, _, _⟩ := aw (HS132.g 0 rfl)
      have H136 := H108.cal0 HS132
      refine ⟨_, rfl, ?_⟩
      refine ⟨⟨H136.kb hsec rfl, H136.kb hsec rfl, H136.kb hsec rfl, H136.kb hsec rfl, H136.kb hsec rfl, H136.kb hsec rfl, H136.kb hsec rfl, H136.kb hsec rfl, H136.kb hsec rfl, H136.kb hsec rfl⟩, fun _ => H136.c 3 3 rfl rfl, ?_⟩
      refine ⟨?_, ?_⟩
      ·
       refine po rfl (eb H136 43 [.u64 s.addr, .u64 (↑s.size), .u64 (↑s.off), .u64 s.align, .u64 s.reloff, .u64 s.nreloc, .u64 s.flags] rfl (by kernel_rfl) (fun g137 w138 hgg137 H139 =>  ?_))
       refine ⟨⟨H139.kb hsec rfl, H139.kb hsec rfl, H139.kb hsec rfl, H139.kb hsec rfl, H139.kb hsec rfl, H139.kb hsec rfl, H139.kb hsec rfl, H139.kb hsec rfl, H139.kb hsec rfl, H139.kb hsec rfl⟩, fun _ => H139.c 4 3 rfl rfl, ?_⟩
       refine qr rfl (ec ke (args := [.ns]) rfl (aa (gc _) ?_))
       rintro e w141 ⟨v, rfl, HS140⟩
       obtain ⟨A142, c143, rfl, _, _⟩ := aw (HS140.g 0 rfl)
       have H144 := H139.cal0 HS140
       refine ⟨_, rfl, ?_⟩
       refine ⟨⟨H144.kb hsec rfl, H144.kb hsec rfl, H144.kb hsec rfl, H144.kb hsec rfl, H144.kb hsec rfl, H144.kb hsec rfl, H144.kb hsec rfl, H144.kb hsec rfl, H144.kb hsec rfl, H144.kb hsec rfl⟩, fun _ => H144.c 5 3 rfl rfl, ?_⟩
       refine qy rfl (yb (ps := [(0, .str s.name), (1, .str s.seg), (2, .sl g137 0 7 7), (3, .slice A134 n5 c135), (4, .slice A142 0 c143), (5, .bool false)]) (cells := #[.str s.name, .str s.seg, .sl g137 0 7 7, .slice A134 n5 c135, .slice A142 0 c143, .bool false]) rfl (by kernel_rfl)) (qr rfl (jv H144 (ps := [(0, .agg #[.str s.name, .str s.seg, .sl g137 0 7 7, .slice A134 n5 c135, .slice A142 0 c143, .bool false])]) (e := 99) (cs := [.str s.name, .str s.seg, .sl g137 0 7 7, .slice A134 n5 c135, .slice A142 0 c143, .bool false]) rfl (by kernel_rfl) (fun g145 w146 hgg145 H147 =>  ?_)))
       refine ⟨⟨H147.kb hsec rfl, H147.kb hsec rfl, H147.kb hsec rfl, H147.kb hsec rfl, H147.kb hsec rfl, H147.kb hsec rfl, H147.kb hsec rfl, H147.kb hsec rfl, H147.kb hsec rfl, H147.kb hsec rfl⟩, fun _ => H147.c 6 3 rfl rfl, ?_⟩
       refine qr rfl (bR H147 5 (m := 1) (news := [.str s.name, .str s.seg, .sl g137 0 7 7, .slice A134 n5 c135, .slice A142 0 c143, .bool false]) rfl rY sd rfl (by decide) rfl rfl rfl (H147.news (i := 0) rfl) (by simp [Value.oneCell']) (by simp only [maxLen]; omega) (by omega) (fun v148 w149 H150 =>  ?_))
       obtain ⟨A151, c152, rfl, _, _⟩ := aw (H150.g 5 rfl)
       refine ⟨⟨H150.kb hsec rfl, H150.kb hsec rfl, H150.kb hsec rfl, H150.kb hsec rfl, H150.kb hsec rfl, H150.kb hsec rfl, H150.kb hsec rfl, H150.kb hsec rfl, H150.kb hsec rfl, H150.kb hsec rfl⟩, fun _ => H150.c 6 3 rfl rfl, ?_⟩
       refine qy rfl (ab (o := 0) gI h3) (dx rfl (es H150 6 3 (.slice A151 (j + 1) c152) rfl jb (fun w154 H153 =>  ?_)))
       refine ⟨⟨H153.kb hsec rfl, H153.kb hsec rfl, H153.kb hsec rfl, H153.kb hsec rfl, H153.kb hsec rfl, H153.kb hsec rfl, H153.kb hsec rfl, H153.kb hsec rfl, H153.kb hsec rfl, H153.kb hsec rfl⟩, fun h => absurd h (by decide), ?_⟩
       refine ck (ao (ac (ae (wv rfl (aT (k := .i64) (c := ↑j + 1) h81 rfl (aE (by omega) (by omega))) (mi (↑j + 1) rfl (wn ?_))))))
       have hcl : PartV.cells (PartV.mk (s.part N xs0) (.sl g137 0 7 7) (.slice A134 n5 c135) (.slice A142 0 c143)) = [.str s.name, .str s.seg, .sl g137 0 7 7, .slice A134 n5 c135, .slice A142 0 c143, .bool false] := by simp [PartV.cells, SecD.part, hfit]
       have Hn : St w aW [Res.all [aq g137 (nums .u64 (s.part N xs0).nums) 43, aH 101 7 (.slice A134 n5 c135) n5 (s.rels.flatMap Rel.cells), aH 5 1 (.slice A142 0 c143) 0 ([]), E], aH 99 6 (.slice A151 (j + 1) c152) (j + 1) ((ps ++ [(PartV.mk (s.part N xs0) (.sl g137 0 7 7) (.slice A134 n5 c135) (.slice A142 0 c143))]).flatMap PartV.cells), aq go [.sl gh 0 7 7, .bool I.big, .slice A1 i c1, .slice A151 (j + 1) c152, .ns, .ns] 54, Res.all [D, aH 96 4 (.slice A1 i c1) i (xs.flatMap LoadV.cells), aq gh (nums .u64 [I.h 0, I.h 1, I.h 2, I.h 3, I.h 4, I.h 5, I.h 6]) 43], aq g1 [.ns, .bool false, .ns, .ns, .ns, .ns] 54] w154 := by
        rw [List.flatMap_append, List.flatMap_singleton, hcl]
        exact H153.reAll [2, 3, 1, 4] [5, 6, 7, 8]
       have hxo : ∀ w, (Res.all [aq g137 (nums .u64 (s.part N xs0).nums) 43, aH 101 7 (.slice A134 n5 c135) n5 (s.rels.flatMap Rel.cells), aH 5 1 (.slice A142 0 c143) 0 ([]), E]).φ w → PartV.ok w (PartV.mk (s.part N xs0) (.sl g137 0 7 7) (.slice A134 n5 c135) (.slice A142 0 c143)) := fun w h => by
        have h := aV.1 h
        refine ⟨⟨_, _, _, rfl, ak (h (aq g137 (nums .u64 (s.part N xs0).nums) 43) (by simp)) rfl⟩, ?_, ?_⟩
        · obtain ⟨A, c, e, hv, _⟩ := aw (h (aH 101 7 (.slice A134 n5 c135) n5 (s.rels.flatMap Rel.cells)) (by simp)); exact ⟨A, _, c, e, hv⟩
        · obtain ⟨A, c, e, hv, _⟩ := aw (h (aH 5 1 (.slice A142 0 c143) 0 ([])) (by simp)); exact ⟨A, _, c, e, by have := (show RV w A _ 1 (nums .u8 []) from hv).ri; simpa [SecD.part, hfit] using this⟩
       exact ⟨⟨j + 1, _, _, ps ++ [(PartV.mk (s.part N xs0) (.sl g137 0 7 7) (.slice A134 n5 c135) (.slice A142 0 c143))], Res.all [aq g137 (nums .u64 (s.part N xs0).nums) 43, aH 101 7 (.slice A134 n5 c135) n5 (s.rels.flatMap Rel.cells), aH 5 1 (.slice A142 0 c143) 0 ([]), E], h0, h2, h3, h79, h80, rfl, by omega, by rw [List.map_append, hps, List.map_singleton, List.take_add_one, List.map_append, hsd]; rfl, fun w h y hy => by rcases List.mem_append.1 hy with hy | hy; exact hE w (aV.1 h E (by simp)) y hy; rw [List.mem_singleton.1 hy]; exact hxo w h, Hn⟩, by show nS + 1 - nv (.i64 (↑j + 1)) < nS + 1 - nv (ρ 81); rw [h81]; simp only [nv]; omega⟩
      ·
       refine po rfl (ec ke (args := [.ns]) rfl (aa (gc _) ?_))
       rintro e w156 ⟨v, rfl, HS155⟩
       obtain ⟨A157, c158, rfl, _, _⟩ := aw (HS155.g 0 rfl)
       have H159 := H136.cal0 HS155
       refine ⟨_, rfl, ?_⟩
       refine ⟨⟨H159.kb hsec rfl, H159.kb hsec rfl, H159.kb hsec rfl, H159.kb hsec rfl, H159.kb hsec rfl, H159.kb hsec rfl, H159.kb hsec rfl, H159.kb hsec rfl, H159.kb hsec rfl, H159.kb hsec rfl⟩, fun _ => H159.c 4 3 rfl rfl, ?_⟩
       refine qr rfl (eb H159 43 [.u64 s.addr, .u64 (↑s.size), .u64 (↑s.off), .u64 s.align, .u64 s.reloff, .u64 s.nreloc, .u64 s.flags] rfl (by kernel_rfl) (fun g160 w161 hgg160 H162 =>  ?_))
       refine ⟨⟨H162.kb hsec rfl, H162.kb hsec rfl, H162.kb hsec rfl, H162.kb hsec rfl, H162.kb hsec rfl, H162.kb hsec rfl, H162.kb hsec rfl, H162.kb hsec rfl, H162.kb hsec rfl, H162.kb hsec rfl⟩, fun _ => H162.c 5 3 rfl rfl, ?_⟩
       refine qy rfl (yb (ps := [(0, .str s.name), (1, .str s.seg), (2, .sl g160 0 7 7), (3, .slice A134 n5 c135), (4, .slice A157 0 c158), (5, .bool false)]) (cells := #[.str s.name, .str s.seg, .sl g160 0 7 7, .slice A134 n5 c135, .slice A157 0 c158, .bool false]) rfl (by kernel_rfl)) (qr rfl (jv H162 (ps := [(0, .agg #[.str s.name, .str s.seg, .sl g160 0 7 7, .slice A134 n5 c135, .slice A157 0 c158, .bool false])]) (e := 99) (cs := [.str s.name, .str s.seg, .sl g160 0 7 7, .slice A134 n5 c135, .slice A157 0 c158, .bool false]) rfl (by kernel_rfl) (fun g163 w164 hgg163 H165 =>  ?_)))
       refine ⟨⟨H165.kb hsec rfl, H165.kb hsec rfl, H165.kb hsec rfl, H165.kb hsec rfl, H165.kb hsec rfl, H165.kb hsec rfl, H165.kb hsec rfl, H165.kb hsec rfl, H165.kb hsec rfl, H165.kb hsec rfl⟩, fun _ => H165.c 6 3 rfl rfl, ?_⟩
       refine qr rfl (bR H165 5 (m := 1) (news := [.str s.name, .str s.seg, .sl g160 0 7 7, .slice A134 n5 c135, .slice A157 0 c158, .bool false]) rfl rY sd rfl (by decide) rfl rfl rfl (H165.news (i := 0) rfl) (by simp [Value.oneCell']) (by simp only [maxLen]; omega) (by omega) (fun v166 w167 H168 =>  ?_))
       obtain ⟨A169, c170, rfl, _, _⟩ := aw (H168.g 5 rfl)
       refine ⟨⟨H168.kb hsec rfl, H168.kb hsec rfl, H168.kb hsec rfl, H168.kb hsec rfl, H168.kb hsec rfl, H168.kb hsec rfl, H168.kb hsec rfl, H168.kb hsec rfl, H168.kb hsec rfl, H168.kb hsec rfl⟩, fun _ => H168.c 6 3 rfl rfl, ?_⟩
       refine qy rfl (ab (o := 0) gI h3) (dx rfl (es H168 6 3 (.slice A169 (j + 1) c170) rfl jb (fun w172 H171 =>  ?_)))
       refine ⟨⟨H171.kb hsec rfl, H171.kb hsec rfl, H171.kb hsec rfl, H171.kb hsec rfl, H171.kb hsec rfl, H171.kb hsec rfl, H171.kb hsec rfl, H171.kb hsec rfl, H171.kb hsec rfl, H171.kb hsec rfl⟩, fun h => absurd h (by decide), ?_⟩
       refine ck (ao (ac (ae (wv rfl (aT (k := .i64) (c := ↑j + 1) h81 rfl (aE (by omega) (by omega))) (mi (↑j + 1) rfl (wn ?_))))))
       have hcl : PartV.cells (PartV.mk (s.part N xs0) (.sl g160 0 7 7) (.slice A134 n5 c135) (.slice A157 0 c158)) = [.str s.name, .str s.seg, .sl g160 0 7 7, .slice A134 n5 c135, .slice A157 0 c158, .bool false] := by simp [PartV.cells, SecD.part, hfit]
       have Hn : St w aW [Res.all [aq g160 (nums .u64 (s.part N xs0).nums) 43, aH 101 7 (.slice A134 n5 c135) n5 (s.rels.flatMap Rel.cells), aH 5 1 (.slice A157 0 c158) 0 ([]), E], aH 99 6 (.slice A169 (j + 1) c170) (j + 1) ((ps ++ [(PartV.mk (s.part N xs0) (.sl g160 0 7 7) (.slice A134 n5 c135) (.slice A157 0 c158))]).flatMap PartV.cells), aq go [.sl gh 0 7 7, .bool I.big, .slice A1 i c1, .slice A169 (j + 1) c170, .ns, .ns] 54, Res.all [D, aH 96 4 (.slice A1 i c1) i (xs.flatMap LoadV.cells), aq gh (nums .u64 [I.h 0, I.h 1, I.h 2, I.h 3, I.h 4, I.h 5, I.h 6]) 43], aq g1 [.ns, .bool false, .ns, .ns, .ns, .ns] 54] w172 := by
        rw [List.flatMap_append, List.flatMap_singleton, hcl]
        exact H171.reAll [1, 3, 2, 4] [5, 6, 7, 8]
       have hxo : ∀ w, (Res.all [aq g160 (nums .u64 (s.part N xs0).nums) 43, aH 101 7 (.slice A134 n5 c135) n5 (s.rels.flatMap Rel.cells), aH 5 1 (.slice A157 0 c158) 0 ([]), E]).φ w → PartV.ok w (PartV.mk (s.part N xs0) (.sl g160 0 7 7) (.slice A134 n5 c135) (.slice A157 0 c158)) := fun w h => by
        have h := aV.1 h
        refine ⟨⟨_, _, _, rfl, ak (h (aq g160 (nums .u64 (s.part N xs0).nums) 43) (by simp)) rfl⟩, ?_, ?_⟩
        · obtain ⟨A, c, e, hv, _⟩ := aw (h (aH 101 7 (.slice A134 n5 c135) n5 (s.rels.flatMap Rel.cells)) (by simp)); exact ⟨A, _, c, e, hv⟩
        · obtain ⟨A, c, e, hv, _⟩ := aw (h (aH 5 1 (.slice A157 0 c158) 0 ([])) (by simp)); exact ⟨A, _, c, e, by have := (show RV w A _ 1 (nums .u8 []) from hv).ri; simpa [SecD.part, hfit] using this⟩
       exact ⟨⟨j + 1, _, _, ps ++ [(PartV.mk (s.part N xs0) (.sl g160 0 7 7) (.slice A134 n5 c135) (.slice A157 0 c158))], Res.all [aq g160 (nums .u64 (s.part N xs0).nums) 43, aH 101 7 (.slice A134 n5 c135) n5 (s.rels.flatMap Rel.cells), aH 5 1 (.slice A157 0 c158) 0 ([]), E], h0, h2, h3, h79, h80, rfl, by omega, by rw [List.map_append, hps, List.map_singleton, List.take_add_one, List.map_append, hsd]; rfl, fun w h y hy => by rcases List.mem_append.1 hy with hy | hy; exact hE w (aV.1 h E (by simp)) y hy; rw [List.mem_singleton.1 hy]; exact hxo w h, Hn⟩, by show nS + 1 - nv (.i64 (↑j + 1)) < nS + 1 - nv (ρ 81); rw [h81]; simp only [nv]; omega⟩
   ·
    simp only [bx] at hb36
    refine bF (a8 (a8 (aY (ac (ad (ad ?_))))))
    have hjn : j = nS := by omega
    rcases hsy with ⟨rfl, hsy⟩ | ⟨gy, ny, cy, Ay, x0, x1, x2, x3, x4, x5, x6, rfl, hby, hry, hny⟩
    ·
     refine ae (mg h0 rfl (wc rfl (wf fE rfl (wv rfl (ah ip rfl (H2.kb hfb rfl)) (wv rfl ((show Yv _ _ _ _ (.bool false) _ from cJ (p := none) pP rfl)) (wn (aj rfl (wk (ad (ad ?_))))))))))
     rcases hdy with ⟨rfl, hdy⟩ | ⟨gz, nz, cz, az, z, q, rfl, hbz, hrz, hnz⟩
     ·
      refine ae (mg h0 rfl (wc rfl (wf il rfl (wv rfl (ah jl rfl (H2.kb hfb rfl)) (wv rfl ((show Yv _ _ _ _ (.bool false) _ from cJ (p := none) pO rfl)) (wn (aj rfl (wk (sr (wv rfl (H2.loadA (i := 2) (vs := [.sl gh 0 7 7, .bool I.big, .slice A1 i c1, .slice A2 j c2, .ns, .ns]) rfl lA h3 rfl rfl) (ws ?_)))))))))))
      refine bE H2 4 (vs := [.sl gh 0 7 7, .bool I.big, .slice A1 i c1, .slice A2 j c2, .ns, .ns]) (m := 6) rfl l7 h2 rfl rfl (nl rfl) (by simp [Value.oneCell']) (cs' := [.sl gh 0 7 7, .bool I.big, .slice A1 i c1, .slice A2 j c2, .ns, .ns]) rfl (fun w174 H173 =>  ?_)
      refine wn (aQ ?_)
      exact ⟨.inr rfl, _, hJ rfl lA (by exact h2) (H173.g 4 rfl) rfl, ⟨[.sl gh 0 7 7, .bool I.big, .slice A1 i c1, .slice A2 j c2, .ns, .ns], Res.all [E, aH 99 6 (.slice A2 j c2) j (ps.flatMap PartV.cells), aq go [.sl gh 0 7 7, .bool I.big, .slice A1 i c1, .slice A2 j c2, .ns, .ns] 54, Res.all [D, aH 96 4 (.slice A1 i c1) i (xs.flatMap LoadV.cells), aq gh (nums .u64 [I.h 0, I.h 1, I.h 2, I.h 3, I.h 4, I.h 5, I.h 6]) 43], aq g1 [.sl gh 0 7 7, .bool I.big, .slice A1 i c1, .slice A2 j c2, .ns, .ns] 54], rfl, H173.reAll [0, 1, 2, 3, 4] [], fun w hdd => by have hdd := aV.1 hdd; have hd0 := aV.1 (hdd (Res.all [D, aH 96 4 (.slice A1 i c1) i (xs.flatMap LoadV.cells), aq gh (nums .u64 [I.h 0, I.h 1, I.h 2, I.h 3, I.h 4, I.h 5, I.h 6]) 43]) (by simp)); exact ⟨_, _, _, _, _, xs, ps, rfl, ⟨_, _, _, rfl, ak (hd0 (aq gh (nums .u64 [I.h 0, I.h 1, I.h 2, I.h 3, I.h 4, I.h 5, I.h 6]) 43) (by simp)) rfl⟩, by obtain ⟨A, c, e, hv, _⟩ := aw (hd0 (aH 96 4 (.slice A1 i c1) i (xs.flatMap LoadV.cells)) (by simp)); exact ⟨A, _, c, e, hv⟩, by rw [hxs, List.take_of_length_le (by have := hL.1; omega)]; rfl, hD _ (hd0 D (by simp)), by obtain ⟨A, c, e, hv, _⟩ := aw (hdd (aH 99 6 (.slice A2 j c2) j (ps.flatMap PartV.cells)) (by simp)); exact ⟨A, _, c, e, hv⟩, by rw [hps, List.take_of_length_le (by have := hS.1; simp at this; omega)]; rfl, hE _ (hdd E (by simp)), ⟨_, _, _, rfl, by show RV _ _ _ _ (I.syms.flatMap Sym.cells); rw [hsy]; exact RV.nil _ _ _⟩, ⟨_, _, _, rfl, by show RI _ _ _ _ I.ind; rw [hdy]; exact RI.nil _ _ _⟩⟩⟩⟩
     ·
      refine ae (mg h0 rfl (wc rfl (wf il rfl (wv rfl (ah jl rfl (H2.kb hfb rfl)) (wv rfl ((show Yv _ _ _ _ (.bool true) _ from cJ (p := (some ⟨gz, 0, none⟩)) pO rfl)) (wn (ay rfl (ae (mg h0 rfl (wc rfl (wf il rfl ?_)))))))))))
      refine wv rfl (ah jl rfl (H2.kb hfb rfl)) (wc rfl (wf nb rfl (wv rfl (ah gU rfl (H2.kb hbz rfl)) (wm rfl (bR (H2.addRow 24 1) 0 (m := nz) (a := az) (news := nums .u32 I.ind) rfl u0 vf rfl (by decide) rfl rfl (by rw [bH, hrz.1, Nat.mul_one]) (fun j u hj => H2.keep.cell (by have := hrz.src (a := az) rfl (l := 0) (m := nz) (by omega) j u (by rw [List.drop_zero, List.take_of_length_le (by rw [hrz.1]; omega)]; exact hj); simpa [Addr.add] using this) (aN _)) fj (by simp only [maxLen]; omega) (by omega) (fun v w176 H175 =>  ?_))))))
      rw [Nat.zero_add, List.nil_append] at H175
      obtain ⟨A177, c178, rfl, _, _⟩ := aw (H175.g 0 rfl)
      refine wv rfl (ab lC h3) (ws (es H175 3 5 (.slice A177 nz c178) rfl gU (fun w180 H179 =>  ?_)))
      refine wn (sr (wv rfl (H179.loadA (i := 3) (vs := [.sl gh 0 7 7, .bool I.big, .slice A1 i c1, .slice A2 j c2, .ns, .slice A177 nz c178]) rfl lA h3 rfl rfl) (ws (bE H179 5 (vs := [.sl gh 0 7 7, .bool I.big, .slice A1 i c1, .slice A2 j c2, .ns, .slice A177 nz c178]) (m := 6) rfl l7 h2 rfl rfl (nl rfl) (by simp [Value.oneCell']) (cs' := [.sl gh 0 7 7, .bool I.big, .slice A1 i c1, .slice A2 j c2, .ns, .slice A177 nz c178]) rfl (fun w182 H181 =>  ?_)))))
      refine wn (aQ ?_)
      exact ⟨.inr rfl, _, hJ rfl lA (by exact h2) (H181.g 5 rfl) rfl, ⟨[.sl gh 0 7 7, .bool I.big, .slice A1 i c1, .slice A2 j c2, .ns, .slice A177 nz c178], Res.all [aH 24 1 (.slice A177 nz c178) nz (nums .u32 I.ind), E, aH 99 6 (.slice A2 j c2) j (ps.flatMap PartV.cells), aq go [.sl gh 0 7 7, .bool I.big, .slice A1 i c1, .slice A2 j c2, .ns, .slice A177 nz c178] 54, Res.all [D, aH 96 4 (.slice A1 i c1) i (xs.flatMap LoadV.cells), aq gh (nums .u64 [I.h 0, I.h 1, I.h 2, I.h 3, I.h 4, I.h 5, I.h 6]) 43], aq g1 [.sl gh 0 7 7, .bool I.big, .slice A1 i c1, .slice A2 j c2, .ns, .slice A177 nz c178] 54], rfl, H181.reAll [0, 1, 2, 3, 4, 5] [], fun w hdd => by have hdd := aV.1 hdd; have hd0 := aV.1 (hdd (Res.all [D, aH 96 4 (.slice A1 i c1) i (xs.flatMap LoadV.cells), aq gh (nums .u64 [I.h 0, I.h 1, I.h 2, I.h 3, I.h 4, I.h 5, I.h 6]) 43]) (by simp)); exact ⟨_, _, _, _, _, xs, ps, rfl, ⟨_, _, _, rfl, ak (hd0 (aq gh (nums .u64 [I.h 0, I.h 1, I.h 2, I.h 3, I.h 4, I.h 5, I.h 6]) 43) (by simp)) rfl⟩, by obtain ⟨A, c, e, hv, _⟩ := aw (hd0 (aH 96 4 (.slice A1 i c1) i (xs.flatMap LoadV.cells)) (by simp)); exact ⟨A, _, c, e, hv⟩, by rw [hxs, List.take_of_length_le (by have := hL.1; omega)]; rfl, hD _ (hd0 D (by simp)), by obtain ⟨A, c, e, hv, _⟩ := aw (hdd (aH 99 6 (.slice A2 j c2) j (ps.flatMap PartV.cells)) (by simp)); exact ⟨A, _, c, e, hv⟩, by rw [hps, List.take_of_length_le (by have := hS.1; simp at this; omega)]; rfl, hE _ (hdd E (by simp)), ⟨_, _, _, rfl, by show RV _ _ _ _ (I.syms.flatMap Sym.cells); rw [hsy]; exact RV.nil _ _ _⟩, by obtain ⟨A, c, e, hv, _⟩ := aw (hdd (aH 24 1 (.slice A177 nz c178) nz (nums .u32 I.ind)) (by simp)); exact ⟨A, _, c, e, hv.ri⟩⟩⟩⟩
    ·
     refine ae (mg h0 rfl (wc rfl (wf fE rfl (wv rfl (ah ip rfl (H2.kb hfb rfl)) (wv rfl ((show Yv _ _ _ _ (.bool true) _ from cJ (p := (some ⟨gy, 0, none⟩)) pP rfl)) (wn (ay rfl (ae (mg h0 rfl (wc rfl (wf fE rfl ?_)))))))))))
     refine wv rfl (ah ip rfl (H2.kb hfb rfl)) (wc rfl (wf jD rfl (wv rfl (ah lF rfl (H2.kb hby rfl)) (wE [.slice Ay ny cy] CK46 rfl rfl (aa (nH _ (hry.keep0 H2.keep) hny) ?_)))))
     rintro e w184 ⟨v, rfl, HS183⟩
     obtain ⟨A185, c186, rfl, _, _⟩ := aw (HS183.g 0 rfl)
     have H187 := H2.cal0 HS183
     refine ⟨_, rfl, ?_⟩
     refine wv rfl (ab p2 h3) (ws (es H187 3 4 (.slice A185 ny c186) rfl tR (fun w189 H188 =>  ?_)))
     refine wn (ad (ad ?_))
     rcases hdy with ⟨rfl, hdy⟩ | ⟨gz, nz, cz, az, z, q, rfl, hbz, hrz, hnz⟩
     ·
      refine ae (mg h0 rfl (wc rfl (wf il rfl (wv rfl (ah jl rfl (H188.kb hfb rfl)) (wv rfl ((show Yv _ _ _ _ (.bool false) _ from cJ (p := none) pO rfl)) (wn (aj rfl (wk (sr (wv rfl (H188.loadA (i := 3) (vs := [.sl gh 0 7 7, .bool I.big, .slice A1 i c1, .slice A2 j c2, .slice A185 ny c186, .ns]) rfl lA h3 rfl rfl) (ws ?_)))))))))))
      refine bE H188 5 (vs := [.sl gh 0 7 7, .bool I.big, .slice A1 i c1, .slice A2 j c2, .slice A185 ny c186, .ns]) (m := 6) rfl l7 h2 rfl rfl (nl rfl) (by simp [Value.oneCell']) (cs' := [.sl gh 0 7 7, .bool I.big, .slice A1 i c1, .slice A2 j c2, .slice A185 ny c186, .ns]) rfl (fun w191 H190 =>  ?_)
      refine wn (aQ ?_)
      exact ⟨.inr rfl, _, hJ rfl lA (by exact h2) (H190.g 5 rfl) rfl, ⟨[.sl gh 0 7 7, .bool I.big, .slice A1 i c1, .slice A2 j c2, .slice A185 ny c186, .ns], Res.all [aH 102 5 (.slice A185 ny c186) ny (I.syms.flatMap Sym.cells), E, aH 99 6 (.slice A2 j c2) j (ps.flatMap PartV.cells), aq go [.sl gh 0 7 7, .bool I.big, .slice A1 i c1, .slice A2 j c2, .slice A185 ny c186, .ns] 54, Res.all [D, aH 96 4 (.slice A1 i c1) i (xs.flatMap LoadV.cells), aq gh (nums .u64 [I.h 0, I.h 1, I.h 2, I.h 3, I.h 4, I.h 5, I.h 6]) 43], aq g1 [.sl gh 0 7 7, .bool I.big, .slice A1 i c1, .slice A2 j c2, .slice A185 ny c186, .ns] 54], rfl, H190.reAll [0, 1, 2, 3, 4, 5] [], fun w hdd => by have hdd := aV.1 hdd; have hd0 := aV.1 (hdd (Res.all [D, aH 96 4 (.slice A1 i c1) i (xs.flatMap LoadV.cells), aq gh (nums .u64 [I.h 0, I.h 1, I.h 2, I.h 3, I.h 4, I.h 5, I.h 6]) 43]) (by simp)); exact ⟨_, _, _, _, _, xs, ps, rfl, ⟨_, _, _, rfl, ak (hd0 (aq gh (nums .u64 [I.h 0, I.h 1, I.h 2, I.h 3, I.h 4, I.h 5, I.h 6]) 43) (by simp)) rfl⟩, by obtain ⟨A, c, e, hv, _⟩ := aw (hd0 (aH 96 4 (.slice A1 i c1) i (xs.flatMap LoadV.cells)) (by simp)); exact ⟨A, _, c, e, hv⟩, by rw [hxs, List.take_of_length_le (by have := hL.1; omega)]; rfl, hD _ (hd0 D (by simp)), by obtain ⟨A, c, e, hv, _⟩ := aw (hdd (aH 99 6 (.slice A2 j c2) j (ps.flatMap PartV.cells)) (by simp)); exact ⟨A, _, c, e, hv⟩, by rw [hps, List.take_of_length_le (by have := hS.1; simp at this; omega)]; rfl, hE _ (hdd E (by simp)), by obtain ⟨A, c, e, hv, _⟩ := aw (hdd (aH 102 5 (.slice A185 ny c186) ny (I.syms.flatMap Sym.cells)) (by simp)); exact ⟨A, _, c, e, hv⟩, ⟨_, _, _, rfl, by show RI _ _ _ _ I.ind; rw [hdy]; exact RI.nil _ _ _⟩⟩⟩⟩
     ·
      refine ae (mg h0 rfl (wc rfl (wf il rfl (wv rfl (ah jl rfl (H188.kb hfb rfl)) (wv rfl ((show Yv _ _ _ _ (.bool true) _ from cJ (p := (some ⟨gz, 0, none⟩)) pO rfl)) (wn (ay rfl (ae (mg h0 rfl (wc rfl (wf il rfl ?_)))))))))))
      refine wv rfl (ah jl rfl (H188.kb hfb rfl)) (wc rfl (wf nb rfl (wv rfl (ah gU rfl (H188.kb hbz rfl)) (wm rfl (bR (H188.addRow 24 1) 0 (m := nz) (a := az) (news := nums .u32 I.ind) rfl u0 vf rfl (by decide) rfl rfl (by rw [bH, hrz.1, Nat.mul_one]) (fun j u hj => H188.keep.cell (by have := hrz.src (a := az) rfl (l := 0) (m := nz) (by omega) j u (by rw [List.drop_zero, List.take_of_length_le (by rw [hrz.1]; omega)]; exact hj); simpa [Addr.add] using this) (aN _)) fj (by simp only [maxLen]; omega) (by omega) (fun v w193 H192 =>  ?_))))))
      rw [Nat.zero_add, List.nil_append] at H192
      obtain ⟨A194, c195, rfl, _, _⟩ := aw (H192.g 0 rfl)
      refine wv rfl (ab lC h3) (ws (es H192 4 5 (.slice A194 nz c195) rfl gU (fun w197 H196 =>  ?_)))
      refine wn (sr (wv rfl (H196.loadA (i := 4) (vs := [.sl gh 0 7 7, .bool I.big, .slice A1 i c1, .slice A2 j c2, .slice A185 ny c186, .slice A194 nz c195]) rfl lA h3 rfl rfl) (ws (bE H196 6 (vs := [.sl gh 0 7 7, .bool I.big, .slice A1 i c1, .slice A2 j c2, .slice A185 ny c186, .slice A194 nz c195]) (m := 6) rfl l7 h2 rfl rfl (nl rfl) (by simp [Value.oneCell']) (cs' := [.sl gh 0 7 7, .bool I.big, .slice A1 i c1, .slice A2 j c2, .slice A185 ny c186, .slice A194 nz c195]) rfl (fun w199 H198 =>  ?_)))))
      refine wn (aQ ?_)
      exact ⟨.inr rfl, _, hJ rfl lA (by exact h2) (H198.g 6 rfl) rfl, ⟨[.sl gh 0 7 7, .bool I.big, .slice A1 i c1, .slice A2 j c2, .slice A185 ny c186, .slice A194 nz c195], Res.all [aH 24 1 (.slice A194 nz c195) nz (nums .u32 I.ind), aH 102 5 (.slice A185 ny c186) ny (I.syms.flatMap Sym.cells), E, aH 99 6 (.slice A2 j c2) j (ps.flatMap PartV.cells), aq go [.sl gh 0 7 7, .bool I.big, .slice A1 i c1, .slice A2 j c2, .slice A185 ny c186, .slice A194 nz c195] 54, Res.all [D, aH 96 4 (.slice A1 i c1) i (xs.flatMap LoadV.cells), aq gh (nums .u64 [I.h 0, I.h 1, I.h 2, I.h 3, I.h 4, I.h 5, I.h 6]) 43], aq g1 [.sl gh 0 7 7, .bool I.big, .slice A1 i c1, .slice A2 j c2, .slice A185 ny c186, .slice A194 nz c195] 54], rfl, H198.reAll [0, 1, 2, 3, 4, 5, 6] [], fun w hdd => by have hdd := aV.1 hdd; have hd0 := aV.1 (hdd (Res.all [D, aH 96 4 (.slice A1 i c1) i (xs.flatMap LoadV.cells), aq gh (nums .u64 [I.h 0, I.h 1, I.h 2, I.h 3, I.h 4, I.h 5, I.h 6]) 43]) (by simp)); exact ⟨_, _, _, _, _, xs, ps, rfl, ⟨_, _, _, rfl, ak (hd0 (aq gh (nums .u64 [I.h 0, I.h 1, I.h 2, I.h 3, I.h 4, I.h 5, I.h 6]) 43) (by simp)) rfl⟩, by obtain ⟨A, c, e, hv, _⟩ := aw (hd0 (aH 96 4 (.slice A1 i c1) i (xs.flatMap LoadV.cells)) (by simp)); exact ⟨A, _, c, e, hv⟩, by rw [hxs, List.take_of_length_le (by have := hL.1; omega)]; rfl, hD _ (hd0 D (by simp)), by obtain ⟨A, c, e, hv, _⟩ := aw (hdd (aH 99 6 (.slice A2 j c2) j (ps.flatMap PartV.cells)) (by simp)); exact ⟨A, _, c, e, hv⟩, by rw [hps, List.take_of_length_le (by have := hS.1; simp at this; omega)]; rfl, hE _ (hdd E (by simp)), by obtain ⟨A, c, e, hv, _⟩ := aw (hdd (aH 102 5 (.slice A185 ny c186) ny (I.syms.flatMap Sym.cells)) (by simp)); exact ⟨A, _, c, e, hv⟩, by obtain ⟨A, c, e, hv, _⟩ := aw (hdd (aH 24 1 (.slice A194 nz c195) nz (nums .u32 I.ind)) (by simp)); exact ⟨A, _, c, e, hv.ri⟩⟩⟩⟩
end Go.Proofs.YtlndedfkgiafhaaDoor
