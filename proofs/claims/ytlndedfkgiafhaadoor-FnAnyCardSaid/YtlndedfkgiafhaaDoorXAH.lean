import Derived.Test.YtlndedfkgiafhaaDoorXAG
set_option linter.unusedVariables false
set_option linter.unusedSimpArgs false
set_option maxRecDepth 100000
set_option maxHeartbeats 4000000
namespace Go.Proofs.YtlndedfkgiafhaaDoor
open Go Go.RowKit Go.Proofs
theorem tJ : Tryd.prog.underlying 117 = some (.slice 125) := by kernel_rfl
theorem tP : (Tryd.prog.info? 125).map (fun i => (i.zero, i.size, i.bytes)) = some (some (.np), 1, 8) := by kernel_rfl
theorem sE : aX Tryd.prog 47 := aJ (by kernel_rfl)
theorem ng : FA 135 2 10 := fa (by kernel_rfl)
theorem lN : aX Tryd.prog 42 := aJ (by kernel_rfl)
theorem TU130 : Tryd.prog.underlying 130 = some (.slice 192) := by kernel_rfl
theorem TB192 : (Tryd.prog.info? 192).map (fun i => (i.zero, i.size, i.bytes)) = some (some (.agg #[.u32 0, .u32 0, .u8 0, .u8 0, .bool false, .bool false, .bool false]), 7, 16) := by kernel_rfl
theorem tx : cQ Tryd.prog 214 [.u32 0, .u32 0] := bv (by kernel_rfl)
theorem dW : Tryd.prog.concrete 109 = true := by kernel_rfl
theorem CK70 : aX Tryd.prog 70 := aJ (by kernel_rfl)
theorem uc {rt : TypeId} {ru : Value} {off size : Nat} (w : World) (hof : off < 4294967296) (hsz : size < 18446744073709551616) :
 Calls Tryd.prog 47 #[.iface rt ru, .i64 ↑off, .i64 (IntKind.i64.wrap ↑size)] w fun e w' => ∃ (g : Nat) (lim sn : Int), e = .returned (.pt g) ∧ w.heap.size ≤ g ∧ (lim = ↑off + ↑size ∨ (lim = 9223372036854775807 ∧ 10485760 ≤ size)) ∧ lim ≤ 9223372036854775807 ∧ St w aW [aq g [.iface rt ru, .i64 ↑off, .i64 ↑off, .i64 lim, .i64 sn] 195] w' := by
 by_cases h1 : size ≤ 9223372036854775807
 · have hw : IntKind.i64.wrap (↑size : Int) = ↑size := aE (by omega) (by omega)
   rw [hw]
   by_cases h2 : (off : Int) + ↑size ≤ 9223372036854775807
   · exact (ud w (by omega) (by omega) (by omega) h2).mono fun e w' ⟨g, h, hg, H⟩ => ⟨g, _, _, h, hg, .inl (by omega), by omega, H⟩
   · exact (vI w (by omega) (by omega) (by omega) (by omega) (by omega)).mono fun e w' ⟨g, h, hg, H⟩ => ⟨g, _, _, h, hg, .inr ⟨rfl, by omega⟩, by omega, H⟩
 · have hw : IntKind.i64.wrap (↑size : Int) = ↑size - 18446744073709551616 := by rw [IntKind.wrap_i64]; omega
   rw [hw]
   exact (NSR_c w (by omega) (by omega) (by omega) (by omega)).mono fun e w' ⟨g, h, hg, H⟩ => ⟨g, _, _, h, hg, .inr ⟨rfl, by omega⟩, by omega, H⟩
theorem mm {rb N C fb sh np cp ro nr base : Nat} {A Ap : Option Addr} {i p : Int} {xs0 : List Int} {a0 a1 : Addr} {h : Nat → Int} {lo sy dy : Value} {scs : List Value} {s : SecD} (big : Bool) (w : World) (h0 : St w (Res.all [aq fb [.u32 (h 0), .u32 (h 1), .u32 (h 2), .u32 (h 3), .u32 (h 4), .u32 (h 5), .u32 (h 6), .u8 (bo big), lo, .slice Ap np cp, sy, dy] 121, aH 125 1 (.slice Ap np cp) np scs, aq sh [.str s.name, .str s.seg, .u64 s.addr, .u64 (↑s.size), .u32 (↑s.off), .u32 s.align, .u32 (↑ro), .u32 (↑nr), .u32 s.flags, .ns, .nilIface, .np] 135]).F [aq fb [.u32 (h 0), .u32 (h 1), .u32 (h 2), .u32 (h 3), .u32 (h 4), .u32 (h 5), .u32 (h 6), .u8 (bo big), lo, .slice Ap np cp, sy, dy] 121, aH 125 1 (.slice Ap np cp) np scs, aq sh [.str s.name, .str s.seg, .u64 s.addr, .u64 (↑s.size), .u32 (↑s.off), .u32 s.align, .u32 (↑ro), .u32 (↑nr), .u32 s.flags, .ns, .nilIface, .np] 135] w) (hB : ∀ g, (Res.all [aq fb [.u32 (h 0), .u32 (h 1), .u32 (h 2), .u32 (h 3), .u32 (h 4), .u32 (h 5), .u32 (h 6), .u8 (bo big), lo, .slice Ap np cp, sy, dy] 121, aH 125 1 (.slice Ap np cp) np scs, aq sh [.str s.name, .str s.seg, .u64 s.addr, .u64 (↑s.size), .u32 (↑s.off), .u32 s.align, .u32 (↑ro), .u32 (↑nr), .u32 s.flags, .ns, .nilIface, .np] 135]).F g → base ≤ g) (hrbb : rb < base) (hb4 : 4 ≤ base) (hbw : base ≤ w.heap.size) (hA : ∀ a, A = some a → a.block < base) (hrb : (aq rb [.slice A N C, .i64 i, .i64 p] 190).φ w) (hG : Glob 224 w a0 a1) (hNC : N ≤ C) (hN : N < 10485760) (hr : RI .u8 w A N xs0) (hby : Byt xs0) (hs : s.fits) (hro : s.reloff = ↑ro) (hnr : s.nreloc = ↑nr) (hnp : np ≤ 10485760) (hz : nr = 0) :
 Calls Tryd.prog 61 #[.pt fb, .pt sh, .iface 109 (.pt rb)] w fun e w' => ∃ (Aq : Option Addr) (cq : Nat) (D : Res), e = .returned .nilIface ∧ St w (Res.all [aq fb [.u32 (h 0), .u32 (h 1), .u32 (h 2), .u32 (h 3), .u32 (h 4), .u32 (h 5), .u32 (h 6), .u8 (bo big), lo, .slice Ap np cp, sy, dy] 121, aH 125 1 (.slice Ap np cp) np scs, aq sh [.str s.name, .str s.seg, .u64 s.addr, .u64 (↑s.size), .u32 (↑s.off), .u32 s.align, .u32 (↑ro), .u32 (↑nr), .u32 s.flags, .ns, .nilIface, .np] 135]).F [D, aq fb [.u32 (h 0), .u32 (h 1), .u32 (h 2), .u32 (h 3), .u32 (h 4), .u32 (h 5), .u32 (h 6), .u8 (bo big), lo, .slice Aq (np + 1) cq, sy, dy] 121, aH 125 1 (.slice Aq (np + 1) cq) (np + 1) (scs ++ [.pt sh])] w' ∧ ∀ w, D.φ w → MSec w rb sh { s with rels := [] } := by
 obtain ⟨ha, hsz, hof, hal, hro', hnr', hfl⟩ := hs
 have hnr2 := hnr'
 have hro2 := hro'
 rw [hnr] at hnr2
 rw [hro] at hro2
 refine a5 (args := [.pt fb, .pt sh, .iface 109 (.pt rb)]) Tryd.func61 rfl rfl rfl ?_
 have H0 : St _ _ [aq fb [.u32 (h 0), .u32 (h 1), .u32 (h 2), .u32 (h 3), .u32 (h 4), .u32 (h 5), .u32 (h 6), .u8 (bo big), lo, .slice Ap np cp, sy, dy] 121, aH 125 1 (.slice Ap np cp) np scs, aq sh [.str s.name, .str s.seg, .u64 s.addr, .u64 (↑s.size), .u32 (↑s.off), .u32 s.align, .u32 (↑ro), .u32 (↑nr), .u32 s.flags, .ns, .nilIface, .np] 135] _ := h0
 refine sr (av (.nilIface) rfl (wn (sr (mp fb 0 rfl (mp fb 0 rfl (wc rfl (wf im rfl (wv rfl (H0.ld 0 rfl jm rfl (.slice Ap np cp) rfl) (mp sh 0 rfl (wm rfl (eb H0 125 [.pt sh] rfl (by kernel_rfl) (fun g1 w2 hgg1 H3 =>  ?_))))))))))))
 refine wm rfl (bR H3 2 (m := 1) (news := [.pt sh]) rfl tJ tP rfl (by decide) rfl rfl rfl (H3.news (i := 0) rfl) (by simp [Value.oneCell']) (by simp only [maxLen]; omega) (by omega) (fun v4 w5 H6 =>  ?_))
 obtain ⟨A7, c8, rfl, _, _⟩ := aw (H6.g 2 rfl)
 refine wc rfl (wf im rfl (ws (es H6 1 9 (.slice A7 (np + 1) c8) rfl jm (fun w10 H9 =>  ?_))))
 refine wn (ad ?_)
 have H11 := H9.drew
 refine aO MX (fun w' => w'.cell? ⟨sh, 4, none⟩ = some (.u32 (↑s.off)) ∧ w'.cell? ⟨sh, 3, none⟩ = some (.u64 (↑s.size))) (tr 0 14 (Pl.run 14 (Pl.take 15 (Pl.take 16 (Pl.run 17 Pl.done))))) (by kernel_rfl) (⟨H11.c 3 4 rfl rfl, H11.c 3 3 rfl rfl⟩) (qm (.pt sh) rfl rfl (qm (.iface 109 (.pt rb)) rfl rfl (qm (.pt sh) rfl rfl (qy rfl (ag rfl) (qy rfl (ab (o := 0) bf rfl) (qy rfl (ab (o := 0) ik rfl) (qh rfl (fun hS => ah ar rfl hS.1) (qy rfl (an (c := ↑s.off) bm f9 rfl (aE (by omega) (by omega))) (qm (.pt sh) rfl rfl (qy rfl (ag rfl) (qy rfl (ab (o := 0) bf rfl) ?_)))))))))))
 refine qy rfl (ab (o := 0) fD rfl) (qh rfl (fun hS => ah aM rfl hS.2) (qy rfl (an (c := IntKind.i64.wrap ↑s.size) cb f9 rfl rfl) (qr rfl (ec sE (args := [.iface 109 (.pt rb), .i64 (↑s.off), .i64 (IntKind.i64.wrap ↑s.size)]) rfl (aa (uc _ hof hsz) ?_)))))
 rintro e w13 ⟨gs, lim, sn, rfl, hgs, hlim, hlim3, HS12⟩
 have H14 := H11.cal0 HS12
 refine ⟨_, rfl, ?_⟩
 refine ⟨⟨H14.c 4 4 rfl rfl, H14.c 4 3 rfl rfl⟩, fun _ => trivial, ?_⟩
 refine qy rfl (ag rfl) (qy rfl (ab (o := 0) gA rfl) (dx rfl (es H14 4 11 (.pt gs) rfl fu (fun w16 H15 =>  ?_))))
 refine ⟨⟨H15.c 4 4 rfl rfl, H15.c 4 3 rfl rfl⟩, fun _ => trivial, ?_⟩
 refine pn (sr (mp sh 0 rfl (mp sh 0 rfl (wc rfl (wf gA rfl (wv rfl (H15.ld 4 rfl fu rfl (.pt gs) rfl) (wv rfl (aF (v := .pt gs) jF rfl) (wc rfl (wf ng rfl (ws (es H15 4 10 (.iface 133 (.pt gs)) rfl gJ (fun w18 H17 =>  ?_))))))))))))
 refine wn (ad (sr (mp sh 0 rfl (wc rfl (wf bf rfl (wf fi rfl (wv rfl (H17.ld 4 rfl ar rfl (.u32 (↑nr)) rfl) (wv rfl (bN rfl rfl (decide_eq_false (by omega))) (wn (aj rfl (wk ?_)))))))))))
 refine sr (av (.nilIface) rfl (wn (aQ ?_)))
 exact ⟨.inr rfl, _, r1 (.nilIface) rfl _ _, ⟨_, _, Res.all [aq sh [.str s.name, .str s.seg, .u64 s.addr, .u64 (↑s.size), .u32 (↑s.off), .u32 s.align, .u32 (↑ro), .u32 (↑nr), .u32 s.flags, .ns, .iface 133 (.pt gs), .pt gs] 135, aq gs [.iface 109 (.pt rb), .i64 (↑s.off), .i64 (↑s.off), .i64 lim, .i64 sn] 195], rfl, H17.reAll [4, 0] [2, 3], fun w hd => by have hd := aV.1 hd; exact ⟨⟨ha, hsz, hof, hal, hro', hnr', hfl⟩, _, _, _, gs, _, _, _, by have := hd (aq sh [.str s.name, .str s.seg, .u64 s.addr, .u64 (↑s.size), .u32 (↑s.off), .u32 s.align, .u32 (↑ro), .u32 (↑nr), .u32 s.flags, .ns, .iface 133 (.pt gs), .pt gs] 135) (by simp); rw [hro, hnr]; exact this, RV.nil _ _ _, (Nat.zero_le _), hd (aq gs [.iface 109 (.pt rb), .i64 (↑s.off), .i64 (↑s.off), .i64 lim, .i64 sn] 195) (by simp), hlim, hlim3⟩⟩⟩
theorem pD {rb N C fb sh np cp ro nr base : Nat} {A Ap : Option Addr} {i p : Int} {xs0 : List Int} {a0 a1 : Addr} {h : Nat → Int} {lo sy dy : Value} {scs : List Value} {s : SecD} (big : Bool) (w : World) (h0 : St w (Res.all [aq fb [.u32 (h 0), .u32 (h 1), .u32 (h 2), .u32 (h 3), .u32 (h 4), .u32 (h 5), .u32 (h 6), .u8 (bo big), lo, .slice Ap np cp, sy, dy] 121, aH 125 1 (.slice Ap np cp) np scs, aq sh [.str s.name, .str s.seg, .u64 s.addr, .u64 (↑s.size), .u32 (↑s.off), .u32 s.align, .u32 (↑ro), .u32 (↑nr), .u32 s.flags, .ns, .nilIface, .np] 135]).F [aq fb [.u32 (h 0), .u32 (h 1), .u32 (h 2), .u32 (h 3), .u32 (h 4), .u32 (h 5), .u32 (h 6), .u8 (bo big), lo, .slice Ap np cp, sy, dy] 121, aH 125 1 (.slice Ap np cp) np scs, aq sh [.str s.name, .str s.seg, .u64 s.addr, .u64 (↑s.size), .u32 (↑s.off), .u32 s.align, .u32 (↑ro), .u32 (↑nr), .u32 s.flags, .ns, .nilIface, .np] 135] w) (hB : ∀ g, (Res.all [aq fb [.u32 (h 0), .u32 (h 1), .u32 (h 2), .u32 (h 3), .u32 (h 4), .u32 (h 5), .u32 (h 6), .u8 (bo big), lo, .slice Ap np cp, sy, dy] 121, aH 125 1 (.slice Ap np cp) np scs, aq sh [.str s.name, .str s.seg, .u64 s.addr, .u64 (↑s.size), .u32 (↑s.off), .u32 s.align, .u32 (↑ro), .u32 (↑nr), .u32 s.flags, .ns, .nilIface, .np] 135]).F g → base ≤ g) (hrbb : rb < base) (hb4 : 4 ≤ base) (hbw : base ≤ w.heap.size) (hA : ∀ a, A = some a → a.block < base) (hrb : (aq rb [.slice A N C, .i64 i, .i64 p] 190).φ w) (hG : Glob 224 w a0 a1) (hNC : N ≤ C) (hN : N < 10485760) (hr : RI .u8 w A N xs0) (hby : Byt xs0) (hs : s.fits) (hro : s.reloff = ↑ro) (hnr : s.nreloc = ↑nr) (hnp : np ≤ 10485760) (h0n : 0 < nr) (hfit : ro + nr * 8 ≤ N) :
 Calls Tryd.prog 61 #[.pt fb, .pt sh, .iface 109 (.pt rb)] w fun e w' => ∃ (Aq : Option Addr) (cq : Nat) (D : Res), e = .returned .nilIface ∧ St w (Res.all [aq fb [.u32 (h 0), .u32 (h 1), .u32 (h 2), .u32 (h 3), .u32 (h 4), .u32 (h 5), .u32 (h 6), .u8 (bo big), lo, .slice Ap np cp, sy, dy] 121, aH 125 1 (.slice Ap np cp) np scs, aq sh [.str s.name, .str s.seg, .u64 s.addr, .u64 (↑s.size), .u32 (↑s.off), .u32 s.align, .u32 (↑ro), .u32 (↑nr), .u32 s.flags, .ns, .nilIface, .np] 135]).F [D, aq fb [.u32 (h 0), .u32 (h 1), .u32 (h 2), .u32 (h 3), .u32 (h 4), .u32 (h 5), .u32 (h 6), .u8 (bo big), lo, .slice Aq (np + 1) cq, sy, dy] 121, aH 125 1 (.slice Aq (np + 1) cq) (np + 1) (scs ++ [.pt sh])] w' ∧ ∀ w, D.φ w → MSec w rb sh { s with rels := bw big nr ((xs0.drop ro).take (nr * 8)) } := by
 obtain ⟨ha, hsz, hof, hal, hro', hnr', hfl⟩ := hs
 have hnr2 := hnr'
 have hro2 := hro'
 rw [hnr] at hnr2
 rw [hro] at hro2
 refine a5 (args := [.pt fb, .pt sh, .iface 109 (.pt rb)]) Tryd.func61 rfl rfl rfl ?_
 have H0 : St _ _ [aq fb [.u32 (h 0), .u32 (h 1), .u32 (h 2), .u32 (h 3), .u32 (h 4), .u32 (h 5), .u32 (h 6), .u8 (bo big), lo, .slice Ap np cp, sy, dy] 121, aH 125 1 (.slice Ap np cp) np scs, aq sh [.str s.name, .str s.seg, .u64 s.addr, .u64 (↑s.size), .u32 (↑s.off), .u32 s.align, .u32 (↑ro), .u32 (↑nr), .u32 s.flags, .ns, .nilIface, .np] 135] _ := h0
 refine sr (av (.nilIface) rfl (wn (sr (mp fb 0 rfl (mp fb 0 rfl (wc rfl (wf im rfl (wv rfl (H0.ld 0 rfl jm rfl (.slice Ap np cp) rfl) (mp sh 0 rfl (wm rfl (eb H0 125 [.pt sh] rfl (by kernel_rfl) (fun g1 w2 hgg1 H3 =>  ?_))))))))))))
 refine wm rfl (bR H3 2 (m := 1) (news := [.pt sh]) rfl tJ tP rfl (by decide) rfl rfl rfl (H3.news (i := 0) rfl) (by simp [Value.oneCell']) (by simp only [maxLen]; omega) (by omega) (fun v4 w5 H6 =>  ?_))
 obtain ⟨A7, c8, rfl, _, _⟩ := aw (H6.g 2 rfl)
 refine wc rfl (wf im rfl (ws (es H6 1 9 (.slice A7 (np + 1) c8) rfl jm (fun w10 H9 =>  ?_))))
 refine wn (ad ?_)
 have H11 := H9.drew
 refine aO MX (fun w' => w'.cell? ⟨sh, 4, none⟩ = some (.u32 (↑s.off)) ∧ w'.cell? ⟨sh, 3, none⟩ = some (.u64 (↑s.size))) (tr 0 14 (Pl.run 14 (Pl.take 15 (Pl.take 16 (Pl.run 17 Pl.done))))) (by kernel_rfl) (⟨H11.c 3 4 rfl rfl, H11.c 3 3 rfl rfl⟩) (qm (.pt sh) rfl rfl (qm (.iface 109 (.pt rb)) rfl rfl (qm (.pt sh) rfl rfl (qy rfl (ag rfl) (qy rfl (ab (o := 0) bf rfl) (qy rfl (ab (o := 0) ik rfl) (qh rfl (fun hS => ah ar rfl hS.1) (qy rfl (an (c := ↑s.off) bm f9 rfl (aE (by omega) (by omega))) (qm (.pt sh) rfl rfl (qy rfl (ag rfl) (qy rfl (ab (o := 0) bf rfl) ?_)))))))))))
 refine qy rfl (ab (o := 0) fD rfl) (qh rfl (fun hS => ah aM rfl hS.2) (qy rfl (an (c := IntKind.i64.wrap ↑s.size) cb f9 rfl rfl) (qr rfl (ec sE (args := [.iface 109 (.pt rb), .i64 (↑s.off), .i64 (IntKind.i64.wrap ↑s.size)]) rfl (aa (uc _ hof hsz) ?_)))))
 rintro e w13 ⟨gs, lim, sn, rfl, hgs, hlim, hlim3, HS12⟩
 have H14 := H11.cal0 HS12
 refine ⟨_, rfl, ?_⟩
 refine ⟨⟨H14.c 4 4 rfl rfl, H14.c 4 3 rfl rfl⟩, fun _ => trivial, ?_⟩
 refine qy rfl (ag rfl) (qy rfl (ab (o := 0) gA rfl) (dx rfl (es H14 4 11 (.pt gs) rfl fu (fun w16 H15 =>  ?_))))
 refine ⟨⟨H15.c 4 4 rfl rfl, H15.c 4 3 rfl rfl⟩, fun _ => trivial, ?_⟩
 refine pn (sr (mp sh 0 rfl (mp sh 0 rfl (wc rfl (wf gA rfl (wv rfl (H15.ld 4 rfl fu rfl (.pt gs) rfl) (wv rfl (aF (v := .pt gs) jF rfl) (wc rfl (wf ng rfl (ws (es H15 4 10 (.iface 133 (.pt gs)) rfl gJ (fun w18 H17 =>  ?_))))))))))))
 refine wn (ad (sr (mp sh 0 rfl (wc rfl (wf bf rfl (wf fi rfl (wv rfl (H17.ld 4 rfl ar rfl (.u32 (↑nr)) rfl) (wv rfl (bN rfl rfl (decide_eq_true (by omega))) (wn (ay rfl (ad ?_)))))))))))
 have H19 := H17.drew
 refine aO MX (fun w' => w'.cell? ⟨sh, 7, none⟩ = some (.u32 (↑nr)) ∧ w'.cell? ⟨sh, 6, none⟩ = some (.u32 (↑ro))) (tr 0 14 (Pl.run 14 (tr 15 5 Pl.done))) (by kernel_rfl) (⟨H19.c 4 7 rfl rfl, H19.c 4 6 rfl rfl⟩) (qm (.iface 109 (.pt rb)) rfl rfl (qm (.pt sh) rfl rfl (qy rfl (ag rfl) (qy rfl (ab (o := 0) bf rfl) (qy rfl (ab (o := 0) fi rfl) (qh rfl (fun hS => ah ar rfl hS.1) (qy rfl (an (c := ↑nr) bm be rfl (a6 (by omega) (by omega))) (qy rfl (c6 (k := .u64) (c := ↑(nr * 8)) rfl rfl (by rw [a6 (by omega) (by omega)]; omega)) (qm (.pt sh) rfl rfl (qy rfl (ag rfl) (qy rfl (ab (o := 0) bf rfl) ?_)))))))))))
 refine qy rfl (ab (o := 0) iU rfl) (qh rfl (fun hS => ah ar rfl hS.2) (qy rfl (an (c := ↑ro) bm f9 rfl (aE (by omega) (by omega))) (qr rfl (ec iZ (args := [.iface 109 (.pt rb), .u64 (↑(nr * 8)), .i64 (↑ro)]) rfl (aa (ir (n := nr * 8) _ ((aq _ _ _).stay _ _ hrb fun g hg => H19.keep.block g (by rw [show g = rb from hg]; exact aA hrb) (by rw [show g = rb from hg]; exact (fun h => by have := hB _ h; omega))) (hG.keep H19.keep (fun k hk => by have := hB _ hk; omega)) hNC hN (hr.keep H19.keep fun a ha h => by have := hB _ h; have := hA a ha; omega) (fun a ha => by have := hA a ha; have := H19.keep.size; omega) (by have := H19.keep.size; omega) (by omega) (.inr hfit)) ?_)))))
 rintro e w21 ⟨gd, rfl, hgd, HS20⟩
 have H22 := H19.cal0 HS20
 refine ⟨_, rfl, ?_⟩
 refine ⟨⟨H22.c 5 7 rfl rfl, H22.c 5 6 rfl rfl⟩, fun _ => trivial, ?_⟩
 refine qm (.tuple #[.sl gd 0 (nr * 8) (nr * 8), .nilIface]) rfl rfl (qy rfl (a7 (v := .sl gd 0 (nr * 8) (nr * 8)) rfl rfl) (qy rfl (a7 (v := .nilIface) rfl rfl) (qa (.sl gd 0 (nr * 8) (nr * 8)) rfl rfl (qa (.nilIface) rfl rfl (pn (ad (sr (mv (.nilIface) rfl (wv rfl ((nn false bq rfl (.inl rfl))) (wn (aj rfl ?_)))))))))))
 refine wk (sr (ms gd 0 (nr * 8) (nr * 8) rfl (wE [.sl gd 0 (nr * 8) (nr * 8)] lN rfl rfl ?_)))
 have hq0 := H22.keep.size
 refine aa (cH (some ⟨gd, 0, none⟩) (nr * 8) (nr * 8) _) ?_
 rintro e w24 ⟨gq, rfl, hgq, HS23⟩
 have H25 := H22.cal0 HS23
 refine ⟨_, rfl, ?_⟩
 refine ap gq 0 rfl (wn (sr (mp fb 0 rfl (wc rfl (wf fF rfl (wv rfl (H25.ld 4 rfl iq rfl (.u8 (bo big)) rfl) (av (.u8 (bo big)) rfl (wn (sr (mp sh 0 rfl (mp sh 0 rfl ?_)))))))))))
 refine wc rfl (wf bf rfl (wf fi rfl (wv rfl (H25.ld 6 rfl ar rfl (.u32 (↑nr)) rfl) (wm rfl (mL H25 TU130 TB192 rfl rfl (by omega) (by omega) (by omega) (by omega) (fun gr w27 hgr H28 =>  ?_))))))
 rw [Int.toNat_natCast, show (Value.agg #[.u32 0, .u32 0, .u8 0, .u8 0, .bool false, .bool false, .bool false]).cells = (Rel.cells Rel.zero).toArray from rfl, rP Rel.cells eg Rel.zero nr (by decide)] at H28; rw [Int.toNat_natCast]
 refine wc rfl (wf jE rfl (ws (es H28 7 9 (.sl gr 0 nr nr) rfl lG (fun w30 H29 =>  ?_))))
 refine wn (sr (mp sh 0 rfl (wc rfl (wf jE rfl (wv rfl (H29.ld 7 rfl lG rfl (.sl gr 0 nr nr) rfl) (wv rfl (ba vD rfl) (mi 0 rfl (wn (aC ?_)))))))))
 have H30 : St w (Res.all [aq fb [.u32 (h 0), .u32 (h 1), .u32 (h 2), .u32 (h 3), .u32 (h 4), .u32 (h 5), .u32 (h 6), .u8 (bo big), lo, .slice Ap np cp, sy, dy] 121, aH 125 1 (.slice Ap np cp) np scs, aq sh [.str s.name, .str s.seg, .u64 s.addr, .u64 (↑s.size), .u32 (↑s.off), .u32 s.align, .u32 (↑ro), .u32 (↑nr), .u32 s.flags, .ns, .nilIface, .np] 135]).F [aq gr (((bw big nr ((xs0.drop ro).take (nr * 8))).take (0 : Nat) ++ List.replicate (nr - (0 : Nat)) Rel.zero).flatMap Rel.cells) 192, aq gq [.sl gd 0 (nr * 8) (nr * 8), .i64 (↑(8 * (0 : Nat))), .i64 (-1)] 190, aq gd (nums .u8 ((xs0.drop ro).take (nr * 8))) 5, aq gs [.iface 109 (.pt rb), .i64 (↑s.off), .i64 (↑s.off), .i64 lim, .i64 sn] 195, aq fb [.u32 (h 0), .u32 (h 1), .u32 (h 2), .u32 (h 3), .u32 (h 4), .u32 (h 5), .u32 (h 6), .u8 (bo big), lo, .slice A7 (np + 1) c8, sy, dy] 121, aH 125 1 (.slice A7 (np + 1) c8) (np + 1) (scs ++ [.pt sh]), aq sh [.str s.name, .str s.seg, .u64 s.addr, .u64 (↑s.size), .u32 (↑s.off), .u32 s.align, .u32 (↑ro), .u32 (↑nr), .u32 s.flags, .sl gr 0 nr nr, .iface 133 (.pt gs), .pt gs] 135] w30 := by have h := H29.re [0, 1, 2, 3, 5, 6, 7]; simpa using h
 refine bW (fun ρ w' => ∃ j : Nat, ρ 0 = .pt fb ∧ ρ 1 = .pt sh ∧ ρ 9 = .pt gq ∧ ρ 10 = .u8 (bo big) ∧ ρ 96 = .i64 ↑nr ∧ ρ 97 = .i64 ↑j ∧ j ≤ nr ∧ St w (Res.all [aq fb [.u32 (h 0), .u32 (h 1), .u32 (h 2), .u32 (h 3), .u32 (h 4), .u32 (h 5), .u32 (h 6), .u8 (bo big), lo, .slice Ap np cp, sy, dy] 121, aH 125 1 (.slice Ap np cp) np scs, aq sh [.str s.name, .str s.seg, .u64 s.addr, .u64 (↑s.size), .u32 (↑s.off), .u32 s.align, .u32 (↑ro), .u32 (↑nr), .u32 s.flags, .ns, .nilIface, .np] 135]).F [aq gr (((bw big nr ((xs0.drop ro).take (nr * 8))).take j ++ List.replicate (nr - j) Rel.zero).flatMap Rel.cells) 192, aq gq [.sl gd 0 (nr * 8) (nr * 8), .i64 (↑(8 * j)), .i64 (-1)] 190, aq gd (nums .u8 ((xs0.drop ro).take (nr * 8))) 5, aq gs [.iface 109 (.pt rb), .i64 (↑s.off), .i64 (↑s.off), .i64 lim, .i64 sn] 195, aq fb [.u32 (h 0), .u32 (h 1), .u32 (h 2), .u32 (h 3), .u32 (h 4), .u32 (h 5), .u32 (h 6), .u8 (bo big), lo, .slice A7 (np + 1) c8, sy, dy] 121, aH 125 1 (.slice A7 (np + 1) c8) (np + 1) (scs ++ [.pt sh]), aq sh [.str s.name, .str s.seg, .u64 s.addr, .u64 (↑s.size), .u32 (↑s.off), .u32 s.align, .u32 (↑ro), .u32 (↑nr), .u32 s.flags, .sl gr 0 nr nr, .iface 133 (.pt gs), .pt gs] 135] w') (fun ρ _ => nr + 1 - nv (ρ 97)) (⟨0, rfl, rfl, rfl, rfl, rfl, rfl, by omega, H30⟩) ?_
 rintro ρ w3 ⟨j, h00, h01, h09, h10, h96, h97, hj, H3⟩
 refine sr (wv rfl (cx h97 h96) (wn (ad ?_)))
 refine cf rfl (fun hb31 => ?_) (fun hb31 => ?_)
 ·
  simp only [bx] at hb31
  refine wk (ad (aC (sr (mg h97 rfl (ai (↑j) rfl (wn (sr (mg h01 rfl (wc rfl (wf jE rfl (wv rfl (H3.ld 6 rfl lG rfl (.sl gr 0 nr nr) rfl) ?_)))))))))))
  refine mi (↑j) rfl (wv rfl (bU j vC rfl rfl rfl (by omega) (Nat.zero_add _)) (ap gr (j * 7) rfl (wn (sr ?_))))
  have hjn : j < nr := by omega
  obtain ⟨ys, hys⟩ : ∃ ys, ys = (((xs0.drop ro).take (nr * 8)).drop (8 * j)).take 8 := ⟨_, rfl⟩
  have hyl : ((xs0.drop ro).take (nr * 8)).length = nr * 8 := by rw [List.length_take, List.length_drop, hr.1]; omega
  have hbY : Byt ((xs0.drop ro).take (nr * 8)) := (hby.drop _).take _
  have hbys : Byt ys := by rw [hys]; exact (hbY.drop _).take _
  obtain ⟨hA0, hA1⟩ := aR big (hbys.drop 0)
  obtain ⟨hB0, hB1⟩ := aR big (hbys.drop 4)
  have hgql := H3.lt (i := 1) rfl
  have hgdl := H3.lt (i := 2) rfl
  have hqd : gq ≠ gd := H3.blk_ne (i := 1) (j := 2) rfl rfl (by decide)
  have h3s := H3.keep.size
  refine wm rfl (aK H3 tx (fun g32 w33 hgg32 H34 =>  wn (ad (sr (mg h09 rfl (wv rfl (aF (v := .pt gq) dW rfl) (mg h10 rfl (wE [.pt g32, .iface 109 (.pt gq), .u8 (bo big)] CK70 rfl rfl ?_))))))))
  have hws := H34.keep.size
  have hgl := H34.lt (i := 0) rfl
  have hgl2 := H34.lt (i := 3) rfl
  refine aa (jz (ys := ys) (i := 8 * j) (A := some ⟨gd, 0, none⟩) (xs := (xs0.drop ro).take (nr * 8)) big _ (H34.g 0 rfl) (H34.g 2 rfl) (hG.keep H34.keep (fun k hk => by have := hB _ hk; omega)) (Nat.le_refl _) (by omega) (ak (H34.g 3 rfl) hyl) hbY (fun a ha => by injection ha with ha; subst ha; exact ⟨hgl2, fun e => hqd e.symm, by show gd ≠ g32; omega⟩) (by omega) (by omega) (by omega) (by omega) (by omega) hys) ?_
  rintro e w36 ⟨rfl, HS35⟩
  have H37 := H34.ky 0 1 rfl rfl HS35 (fun _ h => h)
  refine ⟨_, rfl, ?_⟩
  refine av (.nilIface) rfl (wn (sr (mv (.nilIface) rfl (wv rfl ((nn false bq rfl (.inl rfl))) (wn (aj rfl (wk (ad ?_))))))))
  rw [pl Rel.cells _ Rel.zero hjn] at H37
  have hpl : (((bw big nr ((xs0.drop ro).take (nr * 8))).take j).flatMap Rel.cells).length = j * 7 := by rw [i8 eg, List.length_take, ed, Nat.min_eq_left (by omega)]
  by_cases hsc : n4 big (ys.drop 0) / 2147483648 % 2 = 1
  ·
   refine ae (wf ff rfl (wv rfl (H37.ld 0 rfl ar rfl (.u32 (n4 big (ys.drop 0))) rfl) (wv rfl (cV (k := .u32) (c := n4 big (ys.drop 0) / 2147483648 % 2 * 2147483648) rfl rfl (fl 31 rfl (by omega) (by simp only [IntKind.bits]; omega) (by decide) (by decide))) (wv rfl (bJ rfl rfl (bne_iff_ne.2 (by omega))) (wn (ay rfl (sr (mp gr (j * 7) rfl (wf ff rfl (wv rfl (H37.ld 0 rfl ar rfl (.u32 (n4 big (ys.drop 0))) rfl) (wv rfl (cV (k := .u32) (c := n4 big (ys.drop 0) % 16777216) rfl rfl (bI 24 rfl (by omega) (by simp only [IntKind.bits]; omega) (by decide) (by decide) (by decide))) ?_)))))))))))
   refine wc rfl (wv rfl (ab kM rfl) (ws (c7 H37 2 (k := 0) (cur' := [.u32 (n4 big (ys.drop 0) % 16777216), .u32 0, .u8 0, .u8 0, .bool false, .bool false, .bool false]) (v := .u32 (n4 big (ys.drop 0) % 16777216)) rfl hpl ar rfl (nl rfl) rfl rfl rfl (fun w39 H38 =>  ?_))))
   refine wn (sr (mp gr (j * 7) rfl (wf ff rfl (wv rfl (H38.ld 0 rfl ar rfl (.u32 (n4 big (ys.drop 0))) rfl) (wv rfl (dm (c := n4 big (ys.drop 0) / 16777216) rfl rfl (by decide) (by rw [show (2 : Int) ^ (min (24 : Int).toNat IntKind.u32.bits) = 16777216 from by decide, Int.fdiv_eq_ediv_of_nonneg _ (by decide)])) (wv rfl (cV (k := .u32) (c := n4 big (ys.drop 0) / 16777216 % 16) rfl rfl (bI 4 rfl (by omega) (by simp only [IntKind.bits]; omega) (by decide) (by decide) (by decide))) (wv rfl (an bm kG rfl (fw (by omega) (by omega))) (wc rfl (wv rfl (ab kK rfl) (ws (c7 H38 2 (k := 2) (cur' := [.u32 (n4 big (ys.drop 0) % 16777216), .u32 0, .u8 (n4 big (ys.drop 0) / 16777216 % 16), .u8 0, .bool false, .bool false, .bool false]) (v := .u8 (n4 big (ys.drop 0) / 16777216 % 16)) rfl hpl cC rfl (nl rfl) rfl rfl rfl (fun w41 H40 =>  ?_))))))))))))
   refine wn (sr (mp gr (j * 7) rfl (wf ff rfl (wv rfl (H40.ld 0 rfl ar rfl (.u32 (n4 big (ys.drop 0))) rfl) (wv rfl (dm (c := n4 big (ys.drop 0) / 268435456) rfl rfl (by decide) (by rw [show (2 : Int) ^ (min (28 : Int).toNat IntKind.u32.bits) = 268435456 from by decide, Int.fdiv_eq_ediv_of_nonneg _ (by decide)])) (wv rfl (cV (k := .u32) (c := n4 big (ys.drop 0) / 268435456 % 4) rfl rfl (bI 2 rfl (by omega) (by simp only [IntKind.bits]; omega) (by decide) (by decide) (by decide))) (wv rfl (an bm kG rfl (fw (by omega) (by omega))) (wc rfl (wv rfl (ab kJ rfl) (ws (c7 H40 2 (k := 3) (cur' := [.u32 (n4 big (ys.drop 0) % 16777216), .u32 0, .u8 (n4 big (ys.drop 0) / 16777216 % 16), .u8 (n4 big (ys.drop 0) / 268435456 % 4), .bool false, .bool false, .bool false]) (v := .u8 (n4 big (ys.drop 0) / 268435456 % 4)) rfl hpl cC rfl (nl rfl) rfl rfl rfl (fun w43 H42 =>  ?_))))))))))))
   refine wn (sr (mp gr (j * 7) rfl (wf ff rfl (wv rfl (H42.ld 0 rfl ar rfl (.u32 (n4 big (ys.drop 0))) rfl) (wv rfl (cV (k := .u32) (c := n4 big (ys.drop 0) / 1073741824 % 2 * 1073741824) rfl rfl (fl 30 rfl (by omega) (by simp only [IntKind.bits]; omega) (by decide) (by decide))) (wv rfl ((nX (q := n4 big (ys.drop 0) / 1073741824) (m := 1073741824) (by decide) ▸ lb (k := .u32) rfl rfl)) (wc rfl (wv rfl (ab kI rfl) (ws (c7 H42 2 (k := 4) (cur' := [.u32 (n4 big (ys.drop 0) % 16777216), .u32 0, .u8 (n4 big (ys.drop 0) / 16777216 % 16), .u8 (n4 big (ys.drop 0) / 268435456 % 4), .bool (decide (n4 big (ys.drop 0) / 1073741824 % 2 = 1)), .bool false, .bool false]) (v := .bool (decide (n4 big (ys.drop 0) / 1073741824 % 2 = 1))) rfl hpl cU rfl (nl rfl) rfl rfl rfl (fun w45 H44 =>  ?_)))))))))))
   refine wn (sr (mp gr (j * 7) rfl (wf ej rfl (wv rfl (H44.ld 0 rfl ar rfl (.u32 (n4 big (ys.drop 4))) rfl) (wc rfl (wv rfl (ab kL rfl) (ws (c7 H44 2 (k := 1) (cur' := [.u32 (n4 big (ys.drop 0) % 16777216), .u32 (n4 big (ys.drop 4)), .u8 (n4 big (ys.drop 0) / 16777216 % 16), .u8 (n4 big (ys.drop 0) / 268435456 % 4), .bool (decide (n4 big (ys.drop 0) / 1073741824 % 2 = 1)), .bool false, .bool false]) (v := .u32 (n4 big (ys.drop 4))) rfl hpl ar rfl (nl rfl) rfl rfl rfl (fun w47 H46 =>  ?_)))))))))
   refine wn (ae (mp gr (j * 7) rfl (wc rfl (wv rfl (ab pV rfl) (ws (c7 H46 2 (k := 6) (cur' := [.u32 (n4 big (ys.drop 0) % 16777216), .u32 (n4 big (ys.drop 4)), .u8 (n4 big (ys.drop 0) / 16777216 % 16), .u8 (n4 big (ys.drop 0) / 268435456 % 4), .bool (decide (n4 big (ys.drop 0) / 1073741824 % 2 = 1)), .bool false, .bool true]) (v := .bool true) rfl hpl cU rfl (nl rfl) rfl rfl rfl (fun w49 H48 =>  ?_)))))))
   refine bl (ao (ac (ae (wv rfl (aT (k := .i64) (c := ↑j + 1) h97 rfl (aE (by omega) (by omega))) (mi (↑j + 1) rfl (wn ?_))))))
   have hcur : ([.u32 (n4 big (ys.drop 0) % 16777216), .u32 (n4 big (ys.drop 4)), .u8 (n4 big (ys.drop 0) / 16777216 % 16), .u8 (n4 big (ys.drop 0) / 268435456 % 4), .bool (decide (n4 big (ys.drop 0) / 1073741824 % 2 = 1)), .bool false, .bool true] : List Value) = Rel.cells (f7 big (n4 big (ys.drop 0)) (n4 big (ys.drop 4))) := by unfold f7; rw [if_pos hsc]; rfl
   have hd : (bw big nr ((xs0.drop ro).take (nr * 8)))[j]? = some (f7 big (n4 big (ys.drop 0)) (n4 big (ys.drop 4))) := by rw [hO hjn, ← hys]; rfl
   have htk : (bw big nr ((xs0.drop ro).take (nr * 8))).take (j + 1) = (bw big nr ((xs0.drop ro).take (nr * 8))).take j ++ [f7 big (n4 big (ys.drop 0)) (n4 big (ys.drop 4))] := by rw [List.take_add_one, hd]; rfl
   have e8 : (↑(8 * j) : Int) + 8 = ↑(8 * (j + 1)) := by omega
   rw [hcur, jT, ← htk, e8] at H48
   exact ⟨⟨j + 1, h00, h01, h09, h10, h96, rfl, by omega, H48.re [2, 1, 3, 4, 5, 6, 7]⟩, by show nr + 1 - nv (.i64 (↑j + 1)) < nr + 1 - nv (ρ 97); rw [h97]; simp only [nv]; omega⟩
  ·
   by_cases hbg : big = true
   ·
    refine ae (wf ff rfl (wv rfl (H37.ld 0 rfl ar rfl (.u32 (n4 big (ys.drop 0))) rfl) (wv rfl (cV (k := .u32) (c := n4 big (ys.drop 0) / 2147483648 % 2 * 2147483648) rfl rfl (fl 31 rfl (by omega) (by simp only [IntKind.bits]; omega) (by decide) (by decide))) (wv rfl (bJ rfl rfl (bne_eq_false_iff_eq.2 (by omega))) (wn (aj rfl (sr (mg h10 rfl (wn (aC (sr ?_)))))))))))
    refine wv rfl (aL (c := false) rfl rfl (by simp [bo, hbg])) (av (.bool false) rfl (wn (aj rfl (sr (wv rfl (aL (c := true) rfl rfl (by simp [bo, hbg])) (av (.bool true) rfl (wn (ay rfl (sr (mp gr (j * 7) rfl (wf ff rfl ?_)))))))))))
    refine wv rfl (H37.ld 0 rfl ar rfl (.u32 (n4 big (ys.drop 0))) rfl) (wc rfl (wv rfl (ab kM rfl) (ws (c7 H37 2 (k := 0) (cur' := [.u32 (n4 big (ys.drop 0)), .u32 0, .u8 0, .u8 0, .bool false, .bool false, .bool false]) (v := .u32 (n4 big (ys.drop 0))) rfl hpl ar rfl (nl rfl) rfl rfl rfl (fun w51 H50 =>  ?_)))))
    refine wn (sr (mp gr (j * 7) rfl (wf ej rfl (wv rfl (H50.ld 0 rfl ar rfl (.u32 (n4 big (ys.drop 4))) rfl) (wv rfl (dm (c := n4 big (ys.drop 4) / 256) rfl rfl (by decide) (by rw [show (2 : Int) ^ (min (8 : Int).toNat IntKind.u32.bits) = 256 from by decide, Int.fdiv_eq_ediv_of_nonneg _ (by decide)])) (wc rfl (wv rfl (ab kL rfl) (ws (c7 H50 2 (k := 1) (cur' := [.u32 (n4 big (ys.drop 0)), .u32 (n4 big (ys.drop 4) / 256), .u8 0, .u8 0, .bool false, .bool false, .bool false]) (v := .u32 (n4 big (ys.drop 4) / 256)) rfl hpl ar rfl (nl rfl) rfl rfl rfl (fun w53 H52 =>  ?_))))))))))
    refine wn (sr (mp gr (j * 7) rfl (wf ej rfl (wv rfl (H52.ld 0 rfl ar rfl (.u32 (n4 big (ys.drop 4))) rfl) (wv rfl (cV (k := .u32) (c := n4 big (ys.drop 4) / 128 % 2 * 128) rfl rfl (fl 7 rfl (by omega) (by simp only [IntKind.bits]; omega) (by decide) (by decide))) (wv rfl ((nX (q := n4 big (ys.drop 4) / 128) (m := 128) (by decide) ▸ lb (k := .u32) rfl rfl)) (wc rfl (wv rfl (ab kI rfl) (ws (c7 H52 2 (k := 4) (cur' := [.u32 (n4 big (ys.drop 0)), .u32 (n4 big (ys.drop 4) / 256), .u8 0, .u8 0, .bool (decide (n4 big (ys.drop 4) / 128 % 2 = 1)), .bool false, .bool false]) (v := .bool (decide (n4 big (ys.drop 4) / 128 % 2 = 1))) rfl hpl cU rfl (nl rfl) rfl rfl rfl (fun w55 H54 =>  ?_)))))))))))
    refine wn (sr (mp gr (j * 7) rfl (wf ej rfl (wv rfl (H54.ld 0 rfl ar rfl (.u32 (n4 big (ys.drop 4))) rfl) (wv rfl (dm (c := n4 big (ys.drop 4) / 32) rfl rfl (by decide) (by rw [show (2 : Int) ^ (min (5 : Int).toNat IntKind.u32.bits) = 32 from by decide, Int.fdiv_eq_ediv_of_nonneg _ (by decide)])) (wv rfl (cV (k := .u32) (c := n4 big (ys.drop 4) / 32 % 4) rfl rfl (bI 2 rfl (by omega) (by simp only [IntKind.bits]; omega) (by decide) (by decide) (by decide))) (wv rfl (an bm kG rfl (fw (by omega) (by omega))) (wc rfl (wv rfl (ab kJ rfl) (ws (c7 H54 2 (k := 3) (cur' := [.u32 (n4 big (ys.drop 0)), .u32 (n4 big (ys.drop 4) / 256), .u8 0, .u8 (n4 big (ys.drop 4) / 32 % 4), .bool (decide (n4 big (ys.drop 4) / 128 % 2 = 1)), .bool false, .bool false]) (v := .u8 (n4 big (ys.drop 4) / 32 % 4)) rfl hpl cC rfl (nl rfl) rfl rfl rfl (fun w57 H56 =>  ?_))))))))))))
    refine wn (sr (mp gr (j * 7) rfl (wf ej rfl (wv rfl (H56.ld 0 rfl ar rfl (.u32 (n4 big (ys.drop 4))) rfl) (wv rfl (cV (k := .u32) (c := n4 big (ys.drop 4) / 16 % 2 * 16) rfl rfl (fl 4 rfl (by omega) (by simp only [IntKind.bits]; omega) (by decide) (by decide))) (wv rfl ((nX (q := n4 big (ys.drop 4) / 16) (m := 16) (by decide) ▸ lb (k := .u32) rfl rfl)) (wc rfl (wv rfl (ab mT rfl) (ws (c7 H56 2 (k := 5) (cur' := [.u32 (n4 big (ys.drop 0)), .u32 (n4 big (ys.drop 4) / 256), .u8 0, .u8 (n4 big (ys.drop 4) / 32 % 4), .bool (decide (n4 big (ys.drop 4) / 128 % 2 = 1)), .bool (decide (n4 big (ys.drop 4) / 16 % 2 = 1)), .bool false]) (v := .bool (decide (n4 big (ys.drop 4) / 16 % 2 = 1))) rfl hpl cU rfl (nl rfl) rfl rfl rfl (fun w59 H58 =>  ?_)))))))))))
    refine wn (ae (mp gr (j * 7) rfl (wf ej rfl (wv rfl (H58.ld 0 rfl ar rfl (.u32 (n4 big (ys.drop 4))) rfl) (wv rfl (cV (k := .u32) (c := n4 big (ys.drop 4) % 16) rfl rfl (bI 4 rfl (by omega) (by simp only [IntKind.bits]; omega) (by decide) (by decide) (by decide))) (wv rfl (an bm kG rfl (fw (by omega) (by omega))) (wc rfl (wv rfl (ab kK rfl) (ws (c7 H58 2 (k := 2) (cur' := [.u32 (n4 big (ys.drop 0)), .u32 (n4 big (ys.drop 4) / 256), .u8 (n4 big (ys.drop 4) % 16), .u8 (n4 big (ys.drop 4) / 32 % 4), .bool (decide (n4 big (ys.drop 4) / 128 % 2 = 1)), .bool (decide (n4 big (ys.drop 4) / 16 % 2 = 1)), .bool false]) (v := .u8 (n4 big (ys.drop 4) % 16)) rfl hpl cC rfl (nl rfl) rfl rfl rfl (fun w61 H60 =>  ?_)))))))))))
    refine bl (ao (ao (ac (ae (wv rfl (aT (k := .i64) (c := ↑j + 1) h97 rfl (aE (by omega) (by omega))) (mi (↑j + 1) rfl (wn ?_)))))))
    have hcur : ([.u32 (n4 big (ys.drop 0)), .u32 (n4 big (ys.drop 4) / 256), .u8 (n4 big (ys.drop 4) % 16), .u8 (n4 big (ys.drop 4) / 32 % 4), .bool (decide (n4 big (ys.drop 4) / 128 % 2 = 1)), .bool (decide (n4 big (ys.drop 4) / 16 % 2 = 1)), .bool false] : List Value) = Rel.cells (f7 big (n4 big (ys.drop 0)) (n4 big (ys.drop 4))) := by unfold f7; rw [if_neg hsc, if_pos hbg]; rfl
    have hd : (bw big nr ((xs0.drop ro).take (nr * 8)))[j]? = some (f7 big (n4 big (ys.drop 0)) (n4 big (ys.drop 4))) := by rw [hO hjn, ← hys]; rfl
    have htk : (bw big nr ((xs0.drop ro).take (nr * 8))).take (j + 1) = (bw big nr ((xs0.drop ro).take (nr * 8))).take j ++ [f7 big (n4 big (ys.drop 0)) (n4 big (ys.drop 4))] := by rw [List.take_add_one, hd]; rfl
    have e8 : (↑(8 * j) : Int) + 8 = ↑(8 * (j + 1)) := by omega
    rw [hcur, jT, ← htk, e8] at H60
    exact ⟨⟨j + 1, h00, h01, h09, h10, h96, rfl, by omega, H60.re [2, 1, 3, 4, 5, 6, 7]⟩, by show nr + 1 - nv (.i64 (↑j + 1)) < nr + 1 - nv (ρ 97); rw [h97]; simp only [nv]; omega⟩
   ·
    refine ae (wf ff rfl (wv rfl (H37.ld 0 rfl ar rfl (.u32 (n4 big (ys.drop 0))) rfl) (wv rfl (cV (k := .u32) (c := n4 big (ys.drop 0) / 2147483648 % 2 * 2147483648) rfl rfl (fl 31 rfl (by omega) (by simp only [IntKind.bits]; omega) (by decide) (by decide))) (wv rfl (bJ rfl rfl (bne_eq_false_iff_eq.2 (by omega))) (wn (aj rfl (sr (mg h10 rfl (wn (aC (sr ?_)))))))))))
    refine wv rfl (aL (c := true) rfl rfl (by simp [bo, hbg])) (av (.bool true) rfl (wn (ay rfl (sr (mp gr (j * 7) rfl (wf ff rfl (wv rfl (H37.ld 0 rfl ar rfl (.u32 (n4 big (ys.drop 0))) rfl) (wc rfl (wv rfl (ab kM rfl) (ws (c7 H37 2 (k := 0) (cur' := [.u32 (n4 big (ys.drop 0)), .u32 0, .u8 0, .u8 0, .bool false, .bool false, .bool false]) (v := .u32 (n4 big (ys.drop 0))) rfl hpl ar rfl (nl rfl) rfl rfl rfl (fun w63 H62 =>  ?_))))))))))))
    refine wn (sr (mp gr (j * 7) rfl (wf ej rfl (wv rfl (H62.ld 0 rfl ar rfl (.u32 (n4 big (ys.drop 4))) rfl) (wv rfl (cV (k := .u32) (c := n4 big (ys.drop 4) % 16777216) rfl rfl (bI 24 rfl (by omega) (by simp only [IntKind.bits]; omega) (by decide) (by decide) (by decide))) (wc rfl (wv rfl (ab kL rfl) (ws (c7 H62 2 (k := 1) (cur' := [.u32 (n4 big (ys.drop 0)), .u32 (n4 big (ys.drop 4) % 16777216), .u8 0, .u8 0, .bool false, .bool false, .bool false]) (v := .u32 (n4 big (ys.drop 4) % 16777216)) rfl hpl ar rfl (nl rfl) rfl rfl rfl (fun w65 H64 =>  ?_))))))))))
    refine wn (sr (mp gr (j * 7) rfl (wf ej rfl (wv rfl (H64.ld 0 rfl ar rfl (.u32 (n4 big (ys.drop 4))) rfl) (wv rfl (cV (k := .u32) (c := n4 big (ys.drop 4) / 16777216 % 2 * 16777216) rfl rfl (fl 24 rfl (by omega) (by simp only [IntKind.bits]; omega) (by decide) (by decide))) (wv rfl ((nX (q := n4 big (ys.drop 4) / 16777216) (m := 16777216) (by decide) ▸ lb (k := .u32) rfl rfl)) (wc rfl (wv rfl (ab kI rfl) (ws (c7 H64 2 (k := 4) (cur' := [.u32 (n4 big (ys.drop 0)), .u32 (n4 big (ys.drop 4) % 16777216), .u8 0, .u8 0, .bool (decide (n4 big (ys.drop 4) / 16777216 % 2 = 1)), .bool false, .bool false]) (v := .bool (decide (n4 big (ys.drop 4) / 16777216 % 2 = 1))) rfl hpl cU rfl (nl rfl) rfl rfl rfl (fun w67 H66 =>  ?_)))))))))))
    refine wn (sr (mp gr (j * 7) rfl (wf ej rfl (wv rfl (H66.ld 0 rfl ar rfl (.u32 (n4 big (ys.drop 4))) rfl) (wv rfl (dm (c := n4 big (ys.drop 4) / 33554432) rfl rfl (by decide) (by rw [show (2 : Int) ^ (min (25 : Int).toNat IntKind.u32.bits) = 33554432 from by decide, Int.fdiv_eq_ediv_of_nonneg _ (by decide)])) (wv rfl (cV (k := .u32) (c := n4 big (ys.drop 4) / 33554432 % 4) rfl rfl (bI 2 rfl (by omega) (by simp only [IntKind.bits]; omega) (by decide) (by decide) (by decide))) (wv rfl (an bm kG rfl (fw (by omega) (by omega))) (wc rfl (wv rfl (ab kJ rfl) (ws (c7 H66 2 (k := 3) (cur' := [.u32 (n4 big (ys.drop 0)), .u32 (n4 big (ys.drop 4) % 16777216), .u8 0, .u8 (n4 big (ys.drop 4) / 33554432 % 4), .bool (decide (n4 big (ys.drop 4) / 16777216 % 2 = 1)), .bool false, .bool false]) (v := .u8 (n4 big (ys.drop 4) / 33554432 % 4)) rfl hpl cC rfl (nl rfl) rfl rfl rfl (fun w69 H68 =>  ?_))))))))))))
    refine wn (sr (mp gr (j * 7) rfl (wf ej rfl (wv rfl (H68.ld 0 rfl ar rfl (.u32 (n4 big (ys.drop 4))) rfl) (wv rfl (cV (k := .u32) (c := n4 big (ys.drop 4) / 134217728 % 2 * 134217728) rfl rfl (fl 27 rfl (by omega) (by simp only [IntKind.bits]; omega) (by decide) (by decide))) (wv rfl ((nX (q := n4 big (ys.drop 4) / 134217728) (m := 134217728) (by decide) ▸ lb (k := .u32) rfl rfl)) (wc rfl (wv rfl (ab mT rfl) (ws (c7 H68 2 (k := 5) (cur' := [.u32 (n4 big (ys.drop 0)), .u32 (n4 big (ys.drop 4) % 16777216), .u8 0, .u8 (n4 big (ys.drop 4) / 33554432 % 4), .bool (decide (n4 big (ys.drop 4) / 16777216 % 2 = 1)), .bool (decide (n4 big (ys.drop 4) / 134217728 % 2 = 1)), .bool false]) (v := .bool (decide (n4 big (ys.drop 4) / 134217728 % 2 = 1))) rfl hpl cU rfl (nl rfl) rfl rfl rfl (fun w71 H70 =>  ?_)))))))))))
    refine wn (ae (mp gr (j * 7) rfl (wf ej rfl (wv rfl (H70.ld 0 rfl ar rfl (.u32 (n4 big (ys.drop 4))) rfl) (wv rfl (dm (c := n4 big (ys.drop 4) / 268435456) rfl rfl (by decide) (by rw [show (2 : Int) ^ (min (28 : Int).toNat IntKind.u32.bits) = 268435456 from by decide, Int.fdiv_eq_ediv_of_nonneg _ (by decide)])) (wv rfl (cV (k := .u32) (c := n4 big (ys.drop 4) / 268435456 % 16) rfl rfl (bI 4 rfl (by omega) (by simp only [IntKind.bits]; omega) (by decide) (by decide) (by decide))) (wv rfl (an bm kG rfl (fw (by omega) (by omega))) (wc rfl (wv rfl (ab kK rfl) (ws (c7 H70 2 (k := 2) (cur' := [.u32 (n4 big (ys.drop 0)), .u32 (n4 big (ys.drop 4) % 16777216), .u8 (n4 big (ys.drop 4) / 268435456 % 16), .u8 (n4 big (ys.drop 4) / 33554432 % 4), .bool (decide (n4 big (ys.drop 4) / 16777216 % 2 = 1)), .bool (decide (n4 big (ys.drop 4) / 134217728 % 2 = 1)), .bool false]) (v := .u8 (n4 big (ys.drop 4) / 268435456 % 16)) rfl hpl cC rfl (nl rfl) rfl rfl rfl (fun w73 H72 =>  ?_))))))))))))
    refine bl (ao (ao (ac (ae (wv rfl (aT (k := .i64) (c := ↑j + 1) h97 rfl (aE (by omega) (by omega))) (mi (↑j + 1) rfl (wn ?_)))))))
    have hcur : ([.u32 (n4 big (ys.drop 0)), .u32 (n4 big (ys.drop 4) % 16777216), .u8 (n4 big (ys.drop 4) / 268435456 % 16), .u8 (n4 big (ys.drop 4) / 33554432 % 4), .bool (decide (n4 big (ys.drop 4) / 16777216 % 2 = 1)), .bool (decide (n4 big (ys.drop 4) / 134217728 % 2 = 1)), .bool false] : List Value) = Rel.cells (f7 big (n4 big (ys.drop 0)) (n4 big (ys.drop 4))) := by unfold f7; rw [if_neg hsc, if_neg hbg]; rfl
    have hd : (bw big nr ((xs0.drop ro).take (nr * 8)))[j]? = some (f7 big (n4 big (ys.drop 0)) (n4 big (ys.drop 4))) := by rw [hO hjn, ← hys]; rfl
    have htk : (bw big nr ((xs0.drop ro).take (nr * 8))).take (j + 1) = (bw big nr ((xs0.drop ro).take (nr * 8))).take j ++ [f7 big (n4 big (ys.drop 0)) (n4 big (ys.drop 4))] := by rw [List.take_add_one, hd]; rfl
    have e8 : (↑(8 * j) : Int) + 8 = ↑(8 * (j + 1)) := by omega
    rw [hcur, jT, ← htk, e8] at H72
    exact ⟨⟨j + 1, h00, h01, h09, h10, h96, rfl, by omega, H72.re [2, 1, 3, 4, 5, 6, 7]⟩, by show nr + 1 - nv (.i64 (↑j + 1)) < nr + 1 - nv (ρ 97); rw [h97]; simp only [nv]; omega⟩
 ·
  simp only [bx] at hb31
  refine bF (a8 (a8 (aY (ac (ad ?_)))))
  have hjn : j = nr := by omega
  rw [hjn, Nat.sub_self, List.replicate_zero, List.append_nil, List.take_of_length_le (by rw [ed]; omega)] at H3
  refine ae (av (.nilIface) rfl (wn (aQ ?_)))
  exact ⟨.inr rfl, _, r1 (.nilIface) rfl _ _, ⟨_, _, Res.all [aq sh [.str s.name, .str s.seg, .u64 s.addr, .u64 (↑s.size), .u32 (↑s.off), .u32 s.align, .u32 (↑ro), .u32 (↑nr), .u32 s.flags, .sl gr 0 nr nr, .iface 133 (.pt gs), .pt gs] 135, aq gs [.iface 109 (.pt rb), .i64 (↑s.off), .i64 (↑s.off), .i64 lim, .i64 sn] 195, aq gr ((bw big nr ((xs0.drop ro).take (nr * 8))).flatMap Rel.cells) 192], rfl, H3.reAll [6, 3, 0] [4, 5], fun w hd => by have hd := aV.1 hd; exact ⟨⟨ha, hsz, hof, hal, hro', hnr', hfl⟩, _, _, _, gs, _, _, _, by have := hd (aq sh [.str s.name, .str s.seg, .u64 s.addr, .u64 (↑s.size), .u32 (↑s.off), .u32 s.align, .u32 (↑ro), .u32 (↑nr), .u32 s.flags, .sl gr 0 nr nr, .iface 133 (.pt gs), .pt gs] 135) (by simp); rw [hro, hnr]; exact this, RV.of_blk (hd (aq gr ((bw big nr ((xs0.drop ro).take (nr * 8))).flatMap Rel.cells) 192) (by simp)) (by rw [i8 eg, ed]), (by omega), hd (aq gs [.iface 109 (.pt rb), .i64 (↑s.off), .i64 (↑s.off), .i64 lim, .i64 sn] 195) (by simp), hlim, hlim3⟩⟩⟩
theorem nO {rb N C fb sh np cp ro nr base : Nat} {A Ap : Option Addr} {i p : Int} {xs0 : List Int} {a0 a1 : Addr} {h : Nat → Int} {lo sy dy : Value} {scs : List Value} {s : SecD} (big : Bool) (w : World) (h0 : St w (Res.all [aq fb [.u32 (h 0), .u32 (h 1), .u32 (h 2), .u32 (h 3), .u32 (h 4), .u32 (h 5), .u32 (h 6), .u8 (bo big), lo, .slice Ap np cp, sy, dy] 121, aH 125 1 (.slice Ap np cp) np scs, aq sh [.str s.name, .str s.seg, .u64 s.addr, .u64 (↑s.size), .u32 (↑s.off), .u32 s.align, .u32 (↑ro), .u32 (↑nr), .u32 s.flags, .ns, .nilIface, .np] 135]).F [aq fb [.u32 (h 0), .u32 (h 1), .u32 (h 2), .u32 (h 3), .u32 (h 4), .u32 (h 5), .u32 (h 6), .u8 (bo big), lo, .slice Ap np cp, sy, dy] 121, aH 125 1 (.slice Ap np cp) np scs, aq sh [.str s.name, .str s.seg, .u64 s.addr, .u64 (↑s.size), .u32 (↑s.off), .u32 s.align, .u32 (↑ro), .u32 (↑nr), .u32 s.flags, .ns, .nilIface, .np] 135] w) (hB : ∀ g, (Res.all [aq fb [.u32 (h 0), .u32 (h 1), .u32 (h 2), .u32 (h 3), .u32 (h 4), .u32 (h 5), .u32 (h 6), .u8 (bo big), lo, .slice Ap np cp, sy, dy] 121, aH 125 1 (.slice Ap np cp) np scs, aq sh [.str s.name, .str s.seg, .u64 s.addr, .u64 (↑s.size), .u32 (↑s.off), .u32 s.align, .u32 (↑ro), .u32 (↑nr), .u32 s.flags, .ns, .nilIface, .np] 135]).F g → base ≤ g) (hrbb : rb < base) (hb4 : 4 ≤ base) (hbw : base ≤ w.heap.size) (hA : ∀ a, A = some a → a.block < base) (hrb : (aq rb [.slice A N C, .i64 i, .i64 p] 190).φ w) (hG : Glob 224 w a0 a1) (hNC : N ≤ C) (hN : N < 10485760) (hr : RI .u8 w A N xs0) (hby : Byt xs0) (hs : s.fits) (hro : s.reloff = ↑ro) (hnr : s.nreloc = ↑nr) (hnp : np ≤ 10485760) (h0n : 0 < nr) (hfit : N < ro + nr * 8) :
 Calls Tryd.prog 61 #[.pt fb, .pt sh, .iface 109 (.pt rb)] w fun e w' => ∃ T v, e = .returned (.iface T v) ∧ St w (Res.all [aq fb [.u32 (h 0), .u32 (h 1), .u32 (h 2), .u32 (h 3), .u32 (h 4), .u32 (h 5), .u32 (h 6), .u8 (bo big), lo, .slice Ap np cp, sy, dy] 121, aH 125 1 (.slice Ap np cp) np scs, aq sh [.str s.name, .str s.seg, .u64 s.addr, .u64 (↑s.size), .u32 (↑s.off), .u32 s.align, .u32 (↑ro), .u32 (↑nr), .u32 s.flags, .ns, .nilIface, .np] 135]).F [] w' := by
 obtain ⟨ha, hsz, hof, hal, hro', hnr', hfl⟩ := hs
 have hnr2 := hnr'
 have hro2 := hro'
 rw [hnr] at hnr2
 rw [hro] at hro2
 refine a5 (args := [.pt fb, .pt sh, .iface 109 (.pt rb)]) Tryd.func61 rfl rfl rfl ?_
 have H0 : St _ _ [aq fb [.u32 (h 0), .u32 (h 1), .u32 (h 2), .u32 (h 3), .u32 (h 4), .u32 (h 5), .u32 (h 6), .u8 (bo big), lo, .slice Ap np cp, sy, dy] 121, aH 125 1 (.slice Ap np cp) np scs, aq sh [.str s.name, .str s.seg, .u64 s.addr, .u64 (↑s.size), .u32 (↑s.off), .u32 s.align, .u32 (↑ro), .u32 (↑nr), .u32 s.flags, .ns, .nilIface, .np] 135] _ := h0
 refine sr (av (.nilIface) rfl (wn (sr (mp fb 0 rfl (mp fb 0 rfl (wc rfl (wf im rfl (wv rfl (H0.ld 0 rfl jm rfl (.slice Ap np cp) rfl) (mp sh 0 rfl (wm rfl (eb H0 125 [.pt sh] rfl (by kernel_rfl) (fun g1 w2 hgg1 H3 =>  ?_))))))))))))
 refine wm rfl (bR H3 2 (m := 1) (news := [.pt sh]) rfl tJ tP rfl (by decide) rfl rfl rfl (H3.news (i := 0) rfl) (by simp [Value.oneCell']) (by simp only [maxLen]; omega) (by omega) (fun v4 w5 H6 =>  ?_))
 obtain ⟨A7, c8, rfl, _, _⟩ := aw (H6.g 2 rfl)
 refine wc rfl (wf im rfl (ws (es H6 1 9 (.slice A7 (np + 1) c8) rfl jm (fun w10 H9 =>  ?_))))
 refine wn (ad ?_)
 have H11 := H9.drew
 refine aO MX (fun w' => w'.cell? ⟨sh, 4, none⟩ = some (.u32 (↑s.off)) ∧ w'.cell? ⟨sh, 3, none⟩ = some (.u64 (↑s.size))) (tr 0 14 (Pl.run 14 (Pl.take 15 (Pl.take 16 (Pl.run 17 Pl.done))))) (by kernel_rfl) (⟨H11.c 3 4 rfl rfl, H11.c 3 3 rfl rfl⟩) (qm (.pt sh) rfl rfl (qm (.iface 109 (.pt rb)) rfl rfl (qm (.pt sh) rfl rfl (qy rfl (ag rfl) (qy rfl (ab (o := 0) bf rfl) (qy rfl (ab (o := 0) ik rfl) (qh rfl (fun hS => ah ar rfl hS.1) (qy rfl (an (c := ↑s.off) bm f9 rfl (aE (by omega) (by omega))) (qm (.pt sh) rfl rfl (qy rfl (ag rfl) (qy rfl (ab (o := 0) bf rfl) ?_)))))))))))
 refine qy rfl (ab (o := 0) fD rfl) (qh rfl (fun hS => ah aM rfl hS.2) (qy rfl (an (c := IntKind.i64.wrap ↑s.size) cb f9 rfl rfl) (qr rfl (ec sE (args := [.iface 109 (.pt rb), .i64 (↑s.off), .i64 (IntKind.i64.wrap ↑s.size)]) rfl (aa (uc _ hof hsz) ?_)))))
 rintro e w13 ⟨gs, lim, sn, rfl, hgs, hlim, hlim3, HS12⟩
 have H14 := H11.cal0 HS12
 refine ⟨_, rfl, ?_⟩
 refine ⟨⟨H14.c 4 4 rfl rfl, H14.c 4 3 rfl rfl⟩, fun _ => trivial, ?_⟩
 refine qy rfl (ag rfl) (qy rfl (ab (o := 0) gA rfl) (dx rfl (es H14 4 11 (.pt gs) rfl fu (fun w16 H15 =>  ?_))))
 refine ⟨⟨H15.c 4 4 rfl rfl, H15.c 4 3 rfl rfl⟩, fun _ => trivial, ?_⟩
 refine pn (sr (mp sh 0 rfl (mp sh 0 rfl (wc rfl (wf gA rfl (wv rfl (H15.ld 4 rfl fu rfl (.pt gs) rfl) (wv rfl (aF (v := .pt gs) jF rfl) (wc rfl (wf ng rfl (ws (es H15 4 10 (.iface 133 (.pt gs)) rfl gJ (fun w18 H17 =>  ?_))))))))))))
 refine wn (ad (sr (mp sh 0 rfl (wc rfl (wf bf rfl (wf fi rfl (wv rfl (H17.ld 4 rfl ar rfl (.u32 (↑nr)) rfl) (wv rfl (bN rfl rfl (decide_eq_true (by omega))) (wn (ay rfl (ad ?_)))))))))))
 have H19 := H17.drew
 refine aO MX (fun w' => w'.cell? ⟨sh, 7, none⟩ = some (.u32 (↑nr)) ∧ w'.cell? ⟨sh, 6, none⟩ = some (.u32 (↑ro))) (tr 0 14 (Pl.run 14 (tr 15 5 Pl.done))) (by kernel_rfl) (⟨H19.c 4 7 rfl rfl, H19.c 4 6 rfl rfl⟩) (qm (.iface 109 (.pt rb)) rfl rfl (qm (.pt sh) rfl rfl (qy rfl (ag rfl) (qy rfl (ab (o := 0) bf rfl) (qy rfl (ab (o := 0) fi rfl) (qh rfl (fun hS => ah ar rfl hS.1) (qy rfl (an (c := ↑nr) bm be rfl (a6 (by omega) (by omega))) (qy rfl (c6 (k := .u64) (c := ↑(nr * 8)) rfl rfl (by rw [a6 (by omega) (by omega)]; omega)) (qm (.pt sh) rfl rfl (qy rfl (ag rfl) (qy rfl (ab (o := 0) bf rfl) ?_)))))))))))
 refine qy rfl (ab (o := 0) iU rfl) (qh rfl (fun hS => ah ar rfl hS.2) (qy rfl (an (c := ↑ro) bm f9 rfl (aE (by omega) (by omega))) (qr rfl (ec iZ (args := [.iface 109 (.pt rb), .u64 (↑(nr * 8)), .i64 (↑ro)]) rfl (aa (fS (n := nr * 8) _ ((aq _ _ _).stay _ _ hrb fun g hg => H19.keep.block g (by rw [show g = rb from hg]; exact aA hrb) (by rw [show g = rb from hg]; exact (fun h => by have := hB _ h; omega))) (hG.keep H19.keep (fun k hk => by have := hB _ hk; omega)) hNC hN (hr.keep H19.keep fun a ha h => by have := hB _ h; have := hA a ha; omega) (fun a ha => by have := hA a ha; have := H19.keep.size; omega) (by have := H19.keep.size; omega) (by omega) (by omega) hfit (by omega)) ?_)))))
 rintro e w21 ⟨T, ev, rfl, HS20⟩
 have H22 := H19.cal0 HS20
 refine ⟨_, rfl, ?_⟩
 refine ⟨⟨H22.c 4 7 rfl rfl, H22.c 4 6 rfl rfl⟩, fun _ => trivial, ?_⟩
 refine qm (.tuple #[.ns, .iface T ev]) rfl rfl (qy rfl (a7 (v := .ns) rfl rfl) (qy rfl (a7 (v := .iface T ev) rfl rfl) (qa (.ns) rfl rfl (qa (.iface T ev) rfl rfl (pn (ad (sr (mv (.iface T ev) rfl (wv rfl ((nn true bq rfl (.inr ⟨_, _, rfl⟩))) (wn (ay rfl ?_)))))))))))
 refine sr (mv (.iface T ev) rfl (av (.iface T ev) rfl (wn (rq (ax ?_)))))
 exact ⟨.inr rfl, _, r1 (.iface T ev) rfl _ _, ⟨_, _, rfl, H22.sub (List.nil_sublist _)⟩⟩
end Go.Proofs.YtlndedfkgiafhaaDoor
namespace Go.Proofs.YtlndedfkgiafhaaDoor
open Go Go.RowKit Go.Proofs
theorem wR : aX Tryd.prog 51 := aJ (by kernel_rfl)
theorem kz : Tryd.prog.underlying 142 = some (.slice 193) := by kernel_rfl
theorem kA : (Tryd.prog.info? 193).map (fun i => (i.zero, i.size, i.bytes)) = some (some (.agg #[.string (⟨#[]⟩), .u8 0, .u8 0, .u16 0, .u64 0]), 5, 32) := by kernel_rfl
theorem og : cQ Tryd.prog 205 [.u32 0, .u8 0, .u8 0, .u16 0, .u64 0] := bv (by kernel_rfl)
theorem CK67 : aX Tryd.prog 67 := aJ (by kernel_rfl)
theorem ve : Tryd.prog.concrete 24 = true := by kernel_rfl
theorem gR : Tryd.prog.concrete 154 = true := by kernel_rfl
theorem lY : aX Tryd.prog 53 := aJ (by kernel_rfl)
theorem CK69 : aX Tryd.prog 69 := aJ (by kernel_rfl)
theorem ou : cQ Tryd.prog 144 [.ns, .u32 0, .u32 0, .u32 0, .u32 0, .u32 0, .u32 0, .ns] := bv (by kernel_rfl)
theorem rg : FA 144 0 0 := fa (by kernel_rfl)
theorem tz : cQ Tryd.prog 207 [.u32 0, .u8 0, .u8 0, .u16 0, .u32 0] := bv (by kernel_rfl)
theorem CK68 : aX Tryd.prog 68 := aJ (by kernel_rfl)
theorem um {fb gy gt hd n nt ct nc cc : Nat} {Ac : Option Addr} {m0 of : Int} {xs st : List Int} {a0 a1 : Addr} (big : Bool) (w : World) (hf0 : w.cell? ⟨fb, 0, none⟩ = some (.u32 m0)) (hf7 : w.cell? ⟨fb, 7, none⟩ = some (.u8 (bo big))) (hm : m0 = 4277009103) (hd3 : w.cell? ⟨hd, 3, none⟩ = some (.u32 ↑n)) (hn : n < 4294967296) (hG : Glob 224 w a0 a1) (hw4 : 4 ≤ w.heap.size) (hr : RI .u8 w (some ⟨gy, 0, none⟩) (16 * n) xs) (hby : Byt xs) (hgy : gy < w.heap.size) (hst : RI .u8 w (some ⟨gt, 0, none⟩) nt st) (hsb : Byt st) (hnt : nt ≤ ct) (hntN : nt < 10485760) :
 Calls Tryd.prog 56 #[.pt fb, .sl gy 0 (16 * n) (16 * n), .sl gt 0 nt ct, .slice Ac nc cc, .pt hd, .i64 of] w fun e w' => ((∀ k, k < n → ¬ st.length ≤ (n4 big (dB true xs k)).toNat) ∧ ∃ (g : Nat) (Av : Option Addr) (cv : Nat) (D : Res), e = .returned (.tuple #[.pt g, .nilIface]) ∧ St w aW [D] w' ∧ ∀ w, D.φ w → (aq g [.slice Ac nc cc, .u32 0, .u32 0, .u32 0, .u32 0, .u32 0, .u32 0, .slice Av n cv] 144).φ w ∧ RV w Av n 5 ((bO true big st xs n).flatMap Sym.cells)) ∨ ((∃ k, k < n ∧ st.length ≤ (n4 big (dB true xs k)).toNat) ∧ ∃ T v, e = .returned (.tuple #[.np, .iface T v]) ∧ St w aW [] w') := by
 refine a5 (args := [.pt fb, .sl gy 0 (16 * n) (16 * n), .sl gt 0 nt ct, .slice Ac nc cc, .pt hd, .i64 of]) Tryd.func56 rfl rfl rfl ?_
 have H0 := St.nil w aW
 refine sr (av (.np) rfl (av (.nilIface) rfl (wn (sr (mp fb 0 rfl (wc rfl (wf fF rfl (wv rfl (ah iq rfl (H0.kc hf7)) (av (.u8 (bo big)) rfl (wn (sr ?_)))))))))))
 refine mp hd 0 rfl (wc rfl (wf fh rfl (wv rfl (ah ar rfl (H0.kc hd3)) (wv rfl (an bm be rfl (a6 (by omega) (by omega))) (wE [.u64 32, .u64 (↑n)] wR rfl rfl (aa (kt _ hn) ?_))))))
 rintro e w2 ⟨kk, rfl, hkk, HS1⟩
 have H3 := H0.cal0 HS1
 refine ⟨_, rfl, ?_⟩
 refine ai (↑kk) rfl (wn (ad (sr (mi (↑kk) rfl (wv rfl (aZ rfl rfl (decide_eq_false (by omega))) (wn (aj rfl (wk (sr (mi (↑kk) rfl (wm rfl ?_)))))))))))
 refine mL H3 kz kA rfl rfl (by omega) (by omega) (by omega) (by omega) (fun gm w5 hgm H5 =>  ?_)
 rw [show (0 : Int).toNat = 0 from rfl, Int.toNat_natCast]
 have H6 : St w aW [aH 193 5 (.sl gm 0 0 kk) 0 []] w5 := H5.rowOf (i := 0) (cap := kk) rfl (by rw [Array.length_toList, size_madeCells, Int.toNat_natCast]) (by simp only [maxLen]; omega)
 refine eh gm 0 0 kk rfl (wn (sr (ms gy 0 (16 * n) (16 * n) rfl (wE [.sl gy 0 (16 * n) (16 * n)] lN rfl rfl ?_))))
 have hq0 := H6.keep.size
 refine aa (cH (some ⟨gy, 0, none⟩) (16 * n) (16 * n) _) ?_
 rintro e w5 ⟨gq, rfl, hgq, HS4⟩
 have H6 := H6.cal0 HS4
 refine ⟨_, rfl, ?_⟩
 refine ap gq 0 rfl (wn (ad (sr (ai 0 rfl (wn (aC ?_))))))
 have H30 : St w aW [aH 193 5 (.sl gm 0 0 kk) 0 (((bO true big st xs n).take 0).flatMap Sym.cells), aq gq [.sl gy 0 (16 * n) (16 * n), .i64 (↑(16 * (0 : Nat))), .i64 (-1)] 190] w5 := H6.re [1, 0]
 refine bW (fun ρ w' => ∃ i : Nat, ∃ Av : Option Addr, ∃ cv : Nat, ρ 0 = .pt fb ∧ ρ 2 = .sl gt 0 nt ct ∧ ρ 3 = .slice Ac nc cc ∧ ρ 4 = .pt hd ∧ ρ 5 = .i64 of ∧ ρ 14 = .u8 (bo big) ∧ ρ 16 = .slice Av i cv ∧ ρ 17 = .pt gq ∧ ρ 18 = .i64 ↑i ∧ i ≤ n ∧ (∀ k, k < i → ¬ st.length ≤ (n4 big (dB true xs k)).toNat) ∧ St w aW [aH 193 5 (.slice Av i cv) i (((bO true big st xs n).take i).flatMap Sym.cells), aq gq [.sl gy 0 (16 * n) (16 * n), .i64 (↑(16 * i)), .i64 (-1)] 190] w') (fun ρ _ => n + 1 - nv (ρ 18)) (⟨0, _, _, rfl, rfl, rfl, rfl, rfl, rfl, rfl, rfl, rfl, by omega, by omega, H30⟩) ?_
 rintro ρ w3 ⟨i, Av, cv, h00, h02, h03, h04, h05, h14, h16, h17, h18, hi, hgood, H3⟩
 refine ad (sr (mg h18 rfl (mg h04 rfl (wc rfl (wf fh rfl (wv rfl (ah ar rfl (H3.kc hd3)) (wv rfl (an bm kw rfl (aE (by omega) (by omega))) (wv rfl (cx rfl rfl) (wn ?_)))))))))
 refine cf rfl (fun hb7 => ?_) (fun hb7 => ?_)
 ·
  simp only [bx] at hb7
  refine wk (ad (aC (sr ?_)))
  have hin : i < n := by omega
  obtain ⟨ys, hys⟩ : ∃ ys, ys = dB true xs i := ⟨_, rfl⟩
  have hys2 : ys = (xs.drop (16 * i)).take 16 := hys
  have hbys : Byt ys := by rw [hys2]; exact (hby.drop _).take _
  obtain ⟨hA0, hA1⟩ := aR big (hbys.drop 0)
  obtain ⟨hB0, hB1⟩ := aR big (hbys.drop 8)
  obtain ⟨nm, hnm⟩ := Int.eq_ofNat_of_zero_le hA0
  have hnm' : (n4 big (ys.drop 0)).toNat = nm := by omega
  have h3s := H3.keep.size
  have hgql := H3.lt (i := 1) rfl
  have hNSb : Byt (a9 (st.drop nm)) := (hsb.drop _).cst
  refine wm rfl (aK H3 og (fun g8 w9 hgg8 H10 =>  wn (ad (sr (mg h00 rfl (wc rfl (wf cK rfl (wf fG rfl (wv rfl (ah ar rfl (H10.kc hf0)) (wv rfl (aL rfl rfl (beq_iff_eq.2 (by omega))) (wn ?_)))))))))))
  refine ay rfl (sr (mg h17 rfl (wv rfl (aF (v := .pt gq) dW rfl) (mg h14 rfl (wE [.pt g8, .iface 109 (.pt gq), .u8 (bo big)] CK67 rfl rfl ?_)))))
  have hws := H10.keep.size
  have hgl := H10.lt (i := 0) rfl
  have hge1 := H10.ge (i := 0) rfl
  have hge2 := H10.ge (i := 2) rfl
  have hgne : g8 ≠ gq := H10.blk_ne (i := 0) (j := 2) rfl rfl (by decide)
  refine aa (kB (ys := ys) (i := 16 * i) (A := some ⟨gy, 0, none⟩) (xs := xs) big _ (H10.g 0 rfl) (H10.g 2 rfl) (hG.keep H10.keep (fun k hk => hk.elim)) (Nat.le_refl _) (by omega) (hr.keep0 H10.keep) hby (fun a ha => by injection ha with ha; subst ha; exact ⟨by show gy < _; omega, by show gy ≠ gq; omega, by show gy ≠ g8; omega⟩) (by omega) (by omega) (by omega) (by omega) (by omega) hys2) ?_
  rintro e w12 ⟨rfl, HS11⟩
  have H13 := H10.ky 0 1 rfl rfl HS11 (fun _ h => h)
  refine ⟨_, rfl, ?_⟩
  refine av (.nilIface) rfl (wn (sr (mv (.nilIface) rfl (wv rfl ((nn false bq rfl (.inl rfl))) (wn (aj rfl (wk (ad (sr (wf gu rfl (wv rfl (H13.ld 0 rfl ar rfl (.u32 (n4 big (ys.drop 0))) rfl) ?_)))))))))))
  refine mg h02 rfl (wv rfl (ba co rfl) (wv rfl (an eL iV rfl (d6 (by omega) (by omega))) (wv rfl (i5 rfl rfl) (wn ?_))))
  refine cf rfl (fun hb14 => ?_) (fun hb14 => ?_)
  ·
   simp only [bx] at hb14
   refine ad ?_
   have H15 := H13.drew
   refine aO MX (fun w' => w'.cell? ⟨g8, 0, none⟩ = some (.u32 (n4 big (ys.drop 0)))) (tr 0 5 (Pl.take 7 (Pl.run 5 (Pl.take 6 (Pl.take 8 Pl.done))))) (by kernel_rfl) (H15.c 0 0 rfl rfl) (qm (.i64 of) rfl h05 (qy rfl (ab (o := 0) gu rfl) (qh rfl (fun hS => ah ar rfl hS) (qy rfl (aF (v := .u32 (n4 big (ys.drop 0))) ve rfl) (qy rfl (yb (ps := [(0, .i64 of), (1, .string _), (2, .iface 24 (.u32 (n4 big (ys.drop 0))))]) (cells := #[.i64 of, .string (⟨#[105, 110, 118, 97, 108, 105, 100, 32, 110, 97, 109, 101, 32, 105, 110, 32, 115, 121, 109, 98, 111, 108, 32, 116, 97, 98, 108, 101]⟩), .iface 24 (.u32 (n4 big (ys.drop 0)))]) rfl (by kernel_rfl)) (qa (.np) rfl rfl (qr rfl (ee H15 (vs := [.i64 of, .string _, .iface 24 (.u32 (n4 big (ys.drop 0)))]) rfl rfl (fun g16 w17 hgg16 H18 =>  ?_)))))))))
   refine ⟨H18.c 1 0 rfl rfl, fun _ => trivial, ?_⟩
   refine qy rfl (aF (v := .pt g16) gR rfl) (qa (.iface 154 (.pt g16)) rfl rfl (pn (rq (aB (ax (ax (aB (ax ?_))))))))
   exact ⟨.inr rfl, _, r2 (.np) (.iface 154 (.pt g16)) rfl _ _, .inr ⟨⟨i, by omega, by rw [show dB true xs i = ys from hys.symm]; show st.length ≤ (n4 big ys).toNat; rw [show (n4 big ys).toNat = nm from hnm']; rw [hst.1]; omega⟩, _, _, rfl, H18.sub (List.nil_sublist _)⟩⟩
  ·
   simp only [bx] at hb14
   refine wk (sr (mg h02 rfl (wf gu rfl (wv rfl (H13.ld 0 rfl ar rfl (.u32 (n4 big (ys.drop 0))) rfl) (wv rfl ((am (l := nm) (h := nt) aU rfl (bg rfl (by omega) (by omega)) bn (by omega) (by omega) (by omega) (Nat.zero_add _) : Yv _ _ _ _ (.sl gt nm (nt - nm) (ct - nm)) _)) (wE [.sl gt nm (nt - nm) (ct - nm)] lY rfl rfl (aa (dE _ (by have h := (hst.keep0 H13.keep).drop_ nm; rwa [Nat.zero_add] at h) (hsb.drop _) (by omega) (by omega)) ?_)))))))
   rintro e w20 ⟨rfl, HS19⟩
   have H21 := H13.cal0 HS19
   refine ⟨_, rfl, ?_⟩
   refine av (.str (a9 (st.drop nm))) rfl (wn (ad (sr (mv (.str (a9 (st.drop nm))) rfl (wE [.str (a9 (st.drop nm)), .string (⟨#[46]⟩)] CK69 rfl rfl ?_)))))
   have hNSl : (a9 (st.drop nm)).length < 9223372036854775807 := by have := l3 (st.drop nm); rw [List.length_drop, hst.1] at this; omega
   refine aa (jw _ hNSb hNSl) ?_
   rintro e w23 ⟨rfl, HS22⟩
   have H24 := H21.cal0 HS22
   refine ⟨_, rfl, ?_⟩
   refine mv (.bool (decide (46 ∈ (a9 (st.drop nm))))) rfl ?_
   generalize hb25 : (decide (46 ∈ (a9 (st.drop nm)))) = bb
   cases bb
   ·
    simp only [bx] at hb25
    refine cM rfl rfl (cM rfl rfl (cM rfl rfl (wv rfl (aD (b := false) (v := .bool false) rfl rfl) (wn (aj rfl (wk (ae (mg h16 rfl (mv (.str (a9 (st.drop nm))) rfl (wf gk rfl (wv rfl (H24.ld 0 rfl cC rfl (.u8 (ys.getD 4 0)) rfl) ?_)))))))))))
    refine wf gj rfl (wv rfl (H24.ld 0 rfl cC rfl (.u8 (ys.getD 5 0)) rfl) (wf gi rfl (wv rfl (H24.ld 0 rfl gT rfl (.u16 (n2 big (ys.drop 6))) rfl) (wf gg rfl (wv rfl (H24.ld 0 rfl aM rfl (.u64 (n8 big (ys.drop 8))) rfl) (wv rfl (yz [.str (a9 (st.drop nm)), .u8 (ys.getD 4 0), .u8 (ys.getD 5 0), .u16 (n2 big (ys.drop 6)), .u64 (n8 big (ys.drop 8))] rfl (by kernel_rfl)) (wm rfl (jv H24 (ps := [(0, .agg #[.str (a9 (st.drop nm)), .u8 (ys.getD 4 0), .u8 (ys.getD 5 0), .u16 (n2 big (ys.drop 6)), .u64 (n8 big (ys.drop 8))])]) (e := 193) (cs := [.str (a9 (st.drop nm)), .u8 (ys.getD 4 0), .u8 (ys.getD 5 0), .u16 (n2 big (ys.drop 6)), .u64 (n8 big (ys.drop 8))]) rfl (by kernel_rfl) (fun g26 w27 hgg26 H28 =>  wm rfl (bR H28 3 (m := 1) (news := [.str (a9 (st.drop nm)), .u8 (ys.getD 4 0), .u8 (ys.getD 5 0), .u16 (n2 big (ys.drop 6)), .u64 (n8 big (ys.drop 8))]) rfl kz kA rfl (by decide) rfl rfl rfl (H28.news (i := 0) rfl) (by simp [Value.oneCell']) (by simp only [maxLen]; omega) (by omega) (fun v29 w30 H31 =>  ?_)))))))))))
    obtain ⟨A32, c33, rfl, _, _⟩ := aw (H31.g 3 rfl)
    refine av (.slice A32 (i + 1) c33) rfl (bl (ao (ac (ae (mg h18 rfl (wv rfl (aT (k := .i64) (c := ↑i + 1) rfl rfl (aE (by omega) (by omega))) (ai (↑i + 1) rfl (wn ?_))))))))
    have hcur : ([.str (a9 (st.drop nm)), .u8 (ys.getD 4 0), .u8 (ys.getD 5 0), .u16 (n2 big (ys.drop 6)), .u64 (n8 big (ys.drop 8))] : List Value) = Sym.cells (eP true big st ys) := by unfold eP de; rw [show (n4 big ys).toNat = nm from hnm', if_neg (fun h => hb25 h.1)]; rfl
    have hdd : (bO true big st xs n)[i]? = some (eP true big st ys) := by rw [eA (by omega), ← hys]
    have e8 : (↑(16 * i) : Int) + 16 = ↑(16 * (i + 1)) := by omega
    rw [hcur, ← da hdd, e8] at H31
    exact ⟨⟨i + 1, _, _, h00, h02, h03, h04, h05, h14, rfl, h17, rfl, by omega, fun k hk => by rcases Nat.lt_or_eq_of_le (Nat.le_of_lt_succ hk) with h | h; exact hgood k h; subst h; rw [show dB true xs k = ys from hys.symm]; show ¬ st.length ≤ (n4 big ys).toNat; rw [show (n4 big ys).toNat = nm from hnm']; have hsl := hst.1; omega, H31.re [3, 2]⟩, by show n + 1 - nv (.i64 (↑i + 1)) < n + 1 - nv (ρ 18); rw [h18]; simp only [nv]; omega⟩
   ·
    simp only [bx] at hb25
    have hns0 : 0 < (a9 (st.drop nm)).length := List.length_pos_of_mem hb25
    refine aP rfl rfl (al (v := .str (a9 (st.drop nm))) rfl) (aP rfl rfl (fz (ns := (a9 (st.drop nm))) lO rfl rfl hns0 hNSb) (aP rfl rfl (fW rfl rfl) (wv rfl (aD (b := true) (v := .bool ((a9 (st.drop nm)).getD 0 0 == 95)) rfl rfl) (wn ?_))))
    refine cf rfl (fun hb34 => ?_) (fun hb34 => ?_)
    ·
     simp only [bx] at hb34
     refine ae (mv (.str (a9 (st.drop nm))) rfl (wv rfl (fy (ns := (a9 (st.drop nm))) lO rfl rfl hns0) (av (.str ((a9 (st.drop nm)).drop 1)) rfl (wn (ae (mg h16 rfl (mv (.str ((a9 (st.drop nm)).drop 1)) rfl (wf gk rfl (wv rfl (H24.ld 0 rfl cC rfl (.u8 (ys.getD 4 0)) rfl) (wf gj rfl (wv rfl (H24.ld 0 rfl cC rfl (.u8 (ys.getD 5 0)) rfl) ?_)))))))))))
     refine wf gi rfl (wv rfl (H24.ld 0 rfl gT rfl (.u16 (n2 big (ys.drop 6))) rfl) (wf gg rfl (wv rfl (H24.ld 0 rfl aM rfl (.u64 (n8 big (ys.drop 8))) rfl) (wv rfl (yz [.str ((a9 (st.drop nm)).drop 1), .u8 (ys.getD 4 0), .u8 (ys.getD 5 0), .u16 (n2 big (ys.drop 6)), .u64 (n8 big (ys.drop 8))] rfl (by kernel_rfl)) (wm rfl (jv H24 (ps := [(0, .agg #[.str ((a9 (st.drop nm)).drop 1), .u8 (ys.getD 4 0), .u8 (ys.getD 5 0), .u16 (n2 big (ys.drop 6)), .u64 (n8 big (ys.drop 8))])]) (e := 193) (cs := [.str ((a9 (st.drop nm)).drop 1), .u8 (ys.getD 4 0), .u8 (ys.getD 5 0), .u16 (n2 big (ys.drop 6)), .u64 (n8 big (ys.drop 8))]) rfl (by kernel_rfl) (fun g35 w36 hgg35 H37 =>  wm rfl (bR H37 3 (m := 1) (news := [.str ((a9 (st.drop nm)).drop 1), .u8 (ys.getD 4 0), .u8 (ys.getD 5 0), .u16 (n2 big (ys.drop 6)), .u64 (n8 big (ys.drop 8))]) rfl kz kA rfl (by decide) rfl rfl rfl (H37.news (i := 0) rfl) (by simp [Value.oneCell']) (by simp only [maxLen]; omega) (by omega) (fun v38 w39 H40 =>  ?_)))))))))
     obtain ⟨A41, c42, rfl, _, _⟩ := aw (H40.g 3 rfl)
     refine av (.slice A41 (i + 1) c42) rfl (bl (ao (ac (ae (mg h18 rfl (wv rfl (aT (k := .i64) (c := ↑i + 1) rfl rfl (aE (by omega) (by omega))) (ai (↑i + 1) rfl (wn ?_))))))))
     have hcur : ([.str ((a9 (st.drop nm)).drop 1), .u8 (ys.getD 4 0), .u8 (ys.getD 5 0), .u16 (n2 big (ys.drop 6)), .u64 (n8 big (ys.drop 8))] : List Value) = Sym.cells (eP true big st ys) := by unfold eP de; rw [show (n4 big ys).toNat = nm from hnm', if_pos ⟨hb25, hb34⟩]; rfl
     have hdd : (bO true big st xs n)[i]? = some (eP true big st ys) := by rw [eA (by omega), ← hys]
     have e8 : (↑(16 * i) : Int) + 16 = ↑(16 * (i + 1)) := by omega
     rw [hcur, ← da hdd, e8] at H40
     exact ⟨⟨i + 1, _, _, h00, h02, h03, h04, h05, h14, rfl, h17, rfl, by omega, fun k hk => by rcases Nat.lt_or_eq_of_le (Nat.le_of_lt_succ hk) with h | h; exact hgood k h; subst h; rw [show dB true xs k = ys from hys.symm]; show ¬ st.length ≤ (n4 big ys).toNat; rw [show (n4 big ys).toNat = nm from hnm']; have hsl := hst.1; omega, H40.re [3, 2]⟩, by show n + 1 - nv (.i64 (↑i + 1)) < n + 1 - nv (ρ 18); rw [h18]; simp only [nv]; omega⟩
    ·
     simp only [bx] at hb34
     refine wk (ae (mg h16 rfl (mv (.str (a9 (st.drop nm))) rfl (wf gk rfl (wv rfl (H24.ld 0 rfl cC rfl (.u8 (ys.getD 4 0)) rfl) (wf gj rfl (wv rfl (H24.ld 0 rfl cC rfl (.u8 (ys.getD 5 0)) rfl) (wf gi rfl (wv rfl (H24.ld 0 rfl gT rfl (.u16 (n2 big (ys.drop 6))) rfl) (wf gg rfl (wv rfl (H24.ld 0 rfl aM rfl (.u64 (n8 big (ys.drop 8))) rfl) ?_)))))))))))
     refine wv rfl (yz [.str (a9 (st.drop nm)), .u8 (ys.getD 4 0), .u8 (ys.getD 5 0), .u16 (n2 big (ys.drop 6)), .u64 (n8 big (ys.drop 8))] rfl (by kernel_rfl)) (wm rfl (jv H24 (ps := [(0, .agg #[.str (a9 (st.drop nm)), .u8 (ys.getD 4 0), .u8 (ys.getD 5 0), .u16 (n2 big (ys.drop 6)), .u64 (n8 big (ys.drop 8))])]) (e := 193) (cs := [.str (a9 (st.drop nm)), .u8 (ys.getD 4 0), .u8 (ys.getD 5 0), .u16 (n2 big (ys.drop 6)), .u64 (n8 big (ys.drop 8))]) rfl (by kernel_rfl) (fun g43 w44 hgg43 H45 =>  wm rfl (bR H45 3 (m := 1) (news := [.str (a9 (st.drop nm)), .u8 (ys.getD 4 0), .u8 (ys.getD 5 0), .u16 (n2 big (ys.drop 6)), .u64 (n8 big (ys.drop 8))]) rfl kz kA rfl (by decide) rfl rfl rfl (H45.news (i := 0) rfl) (by simp [Value.oneCell']) (by simp only [maxLen]; omega) (by omega) (fun v46 w47 H48 =>  ?_)))))
     obtain ⟨A49, c50, rfl, _, _⟩ := aw (H48.g 3 rfl)
     refine av (.slice A49 (i + 1) c50) rfl (bl (ao (ac (ae (mg h18 rfl (wv rfl (aT (k := .i64) (c := ↑i + 1) rfl rfl (aE (by omega) (by omega))) (ai (↑i + 1) rfl (wn ?_))))))))
     have hcur : ([.str (a9 (st.drop nm)), .u8 (ys.getD 4 0), .u8 (ys.getD 5 0), .u16 (n2 big (ys.drop 6)), .u64 (n8 big (ys.drop 8))] : List Value) = Sym.cells (eP true big st ys) := by unfold eP de; rw [show (n4 big ys).toNat = nm from hnm', if_neg (fun h => hb34 h.2)]; rfl
     have hdd : (bO true big st xs n)[i]? = some (eP true big st ys) := by rw [eA (by omega), ← hys]
     have e8 : (↑(16 * i) : Int) + 16 = ↑(16 * (i + 1)) := by omega
     rw [hcur, ← da hdd, e8] at H48
     exact ⟨⟨i + 1, _, _, h00, h02, h03, h04, h05, h14, rfl, h17, rfl, by omega, fun k hk => by rcases Nat.lt_or_eq_of_le (Nat.le_of_lt_succ hk) with h | h; exact hgood k h; subst h; rw [show dB true xs k = ys from hys.symm]; show ¬ st.length ≤ (n4 big ys).toNat; rw [show (n4 big ys).toNat = nm from hnm']; have hsl := hst.1; omega, H48.re [3, 2]⟩, by show n + 1 - nv (.i64 (↑i + 1)) < n + 1 - nv (ρ 18); rw [h18]; simp only [nv]; omega⟩
 ·
  simp only [bx] at hb7
  refine bF (a8 (a8 (aY (ac (sr (wm rfl (aK H3 ou (fun g51 w52 hgg51 H53 =>  ap g51 0 rfl (wn (sr (mp g51 0 rfl ?_)))))))))))
  refine mg h03 rfl (wc rfl (wf rg rfl (ws (es H53 0 0 (.slice Ac nc cc) rfl fq (fun w55 H54 =>  ?_)))))
  refine wn (sr (mp g51 0 rfl (mg h16 rfl (wc rfl (wf jD rfl (ws (es H54 0 7 (.slice Av i cv) rfl lF (fun w57 H56 =>  ?_))))))))
  refine wn (sr (mp g51 0 rfl (ap g51 0 rfl (av (.nilIface) rfl (wn (aQ ?_))))))
  have hin : i = n := by omega
  rw [List.take_of_length_le (by rw [dc]; omega)] at H56
  exact ⟨.inr rfl, _, r2 (.pt g51) (.nilIface) rfl _ _, .inl ⟨fun k hk => hgood k (by omega), _, _, _, Res.all [aq g51 [.slice Ac nc cc, .u32 0, .u32 0, .u32 0, .u32 0, .u32 0, .u32 0, .slice Av i cv] 144, aH 193 5 (.slice Av i cv) i ((bO true big st xs n).flatMap Sym.cells)], rfl, H56.reAll [0, 1] [], fun w hd => by have hd := aV.1 hd; subst hin; exact ⟨hd (aq g51 [.slice Ac nc cc, .u32 0, .u32 0, .u32 0, .u32 0, .u32 0, .u32 0, .slice Av i cv] 144) (by simp), by obtain ⟨A, c, e, hv, _⟩ := aw (hd (aH 193 5 (.slice Av i cv) i ((bO true big st xs i).flatMap Sym.cells)) (by simp)); injection e with e; subst e; exact hv⟩⟩⟩
theorem un {fb gy gt hd n nt ct nc cc : Nat} {Ac : Option Addr} {m0 of : Int} {xs st : List Int} {a0 a1 : Addr} (big : Bool) (w : World) (hf0 : w.cell? ⟨fb, 0, none⟩ = some (.u32 m0)) (hf7 : w.cell? ⟨fb, 7, none⟩ = some (.u8 (bo big))) (hm : m0 ≠ 4277009103) (hd3 : w.cell? ⟨hd, 3, none⟩ = some (.u32 ↑n)) (hn : n < 4294967296) (hG : Glob 224 w a0 a1) (hw4 : 4 ≤ w.heap.size) (hr : RI .u8 w (some ⟨gy, 0, none⟩) (12 * n) xs) (hby : Byt xs) (hgy : gy < w.heap.size) (hst : RI .u8 w (some ⟨gt, 0, none⟩) nt st) (hsb : Byt st) (hnt : nt ≤ ct) (hntN : nt < 10485760) :
 Calls Tryd.prog 56 #[.pt fb, .sl gy 0 (12 * n) (12 * n), .sl gt 0 nt ct, .slice Ac nc cc, .pt hd, .i64 of] w fun e w' => ((∀ k, k < n → ¬ st.length ≤ (n4 big (dB false xs k)).toNat) ∧ ∃ (g : Nat) (Av : Option Addr) (cv : Nat) (D : Res), e = .returned (.tuple #[.pt g, .nilIface]) ∧ St w aW [D] w' ∧ ∀ w, D.φ w → (aq g [.slice Ac nc cc, .u32 0, .u32 0, .u32 0, .u32 0, .u32 0, .u32 0, .slice Av n cv] 144).φ w ∧ RV w Av n 5 ((bO false big st xs n).flatMap Sym.cells)) ∨ ((∃ k, k < n ∧ st.length ≤ (n4 big (dB false xs k)).toNat) ∧ ∃ T v, e = .returned (.tuple #[.np, .iface T v]) ∧ St w aW [] w') := by
 refine a5 (args := [.pt fb, .sl gy 0 (12 * n) (12 * n), .sl gt 0 nt ct, .slice Ac nc cc, .pt hd, .i64 of]) Tryd.func56 rfl rfl rfl ?_
 have H0 := St.nil w aW
 refine sr (av (.np) rfl (av (.nilIface) rfl (wn (sr (mp fb 0 rfl (wc rfl (wf fF rfl (wv rfl (ah iq rfl (H0.kc hf7)) (av (.u8 (bo big)) rfl (wn (sr ?_)))))))))))
 refine mp hd 0 rfl (wc rfl (wf fh rfl (wv rfl (ah ar rfl (H0.kc hd3)) (wv rfl (an bm be rfl (a6 (by omega) (by omega))) (wE [.u64 32, .u64 (↑n)] wR rfl rfl (aa (kt _ hn) ?_))))))
 rintro e w2 ⟨kk, rfl, hkk, HS1⟩
 have H3 := H0.cal0 HS1
 refine ⟨_, rfl, ?_⟩
 refine ai (↑kk) rfl (wn (ad (sr (mi (↑kk) rfl (wv rfl (aZ rfl rfl (decide_eq_false (by omega))) (wn (aj rfl (wk (sr (mi (↑kk) rfl (wm rfl ?_)))))))))))
 refine mL H3 kz kA rfl rfl (by omega) (by omega) (by omega) (by omega) (fun gm w5 hgm H5 =>  ?_)
 rw [show (0 : Int).toNat = 0 from rfl, Int.toNat_natCast]
 have H6 : St w aW [aH 193 5 (.sl gm 0 0 kk) 0 []] w5 := H5.rowOf (i := 0) (cap := kk) rfl (by rw [Array.length_toList, size_madeCells, Int.toNat_natCast]) (by simp only [maxLen]; omega)
 refine eh gm 0 0 kk rfl (wn (sr (ms gy 0 (12 * n) (12 * n) rfl (wE [.sl gy 0 (12 * n) (12 * n)] lN rfl rfl ?_))))
 have hq0 := H6.keep.size
 refine aa (cH (some ⟨gy, 0, none⟩) (12 * n) (12 * n) _) ?_
 rintro e w5 ⟨gq, rfl, hgq, HS4⟩
 have H6 := H6.cal0 HS4
 refine ⟨_, rfl, ?_⟩
 refine ap gq 0 rfl (wn (ad (sr (ai 0 rfl (wn (aC ?_))))))
 have H30 : St w aW [aH 193 5 (.sl gm 0 0 kk) 0 (((bO false big st xs n).take 0).flatMap Sym.cells), aq gq [.sl gy 0 (12 * n) (12 * n), .i64 (↑(12 * (0 : Nat))), .i64 (-1)] 190] w5 := H6.re [1, 0]
 refine bW (fun ρ w' => ∃ i : Nat, ∃ Av : Option Addr, ∃ cv : Nat, ρ 0 = .pt fb ∧ ρ 2 = .sl gt 0 nt ct ∧ ρ 3 = .slice Ac nc cc ∧ ρ 4 = .pt hd ∧ ρ 5 = .i64 of ∧ ρ 14 = .u8 (bo big) ∧ ρ 16 = .slice Av i cv ∧ ρ 17 = .pt gq ∧ ρ 18 = .i64 ↑i ∧ i ≤ n ∧ (∀ k, k < i → ¬ st.length ≤ (n4 big (dB false xs k)).toNat) ∧ St w aW [aH 193 5 (.slice Av i cv) i (((bO false big st xs n).take i).flatMap Sym.cells), aq gq [.sl gy 0 (12 * n) (12 * n), .i64 (↑(12 * i)), .i64 (-1)] 190] w') (fun ρ _ => n + 1 - nv (ρ 18)) (⟨0, _, _, rfl, rfl, rfl, rfl, rfl, rfl, rfl, rfl, rfl, by omega, by omega, H30⟩) ?_
 rintro ρ w3 ⟨i, Av, cv, h00, h02, h03, h04, h05, h14, h16, h17, h18, hi, hgood, H3⟩
 refine ad (sr (mg h18 rfl (mg h04 rfl (wc rfl (wf fh rfl (wv rfl (ah ar rfl (H3.kc hd3)) (wv rfl (an bm kw rfl (aE (by omega) (by omega))) (wv rfl (cx rfl rfl) (wn ?_)))))))))
 refine cf rfl (fun hb7 => ?_) (fun hb7 => ?_)
 ·
  simp only [bx] at hb7
  refine wk (ad (aC (sr ?_)))
  have hin : i < n := by omega
  obtain ⟨ys, hys⟩ : ∃ ys, ys = dB false xs i := ⟨_, rfl⟩
  have hys2 : ys = (xs.drop (12 * i)).take 12 := hys
  have hbys : Byt ys := by rw [hys2]; exact (hby.drop _).take _
  obtain ⟨hA0, hA1⟩ := aR big (hbys.drop 0)
  obtain ⟨hB0, hB1⟩ := aR big (hbys.drop 8)
  obtain ⟨nm, hnm⟩ := Int.eq_ofNat_of_zero_le hA0
  have hnm' : (n4 big (ys.drop 0)).toNat = nm := by omega
  have h3s := H3.keep.size
  have hgql := H3.lt (i := 1) rfl
  have hNSb : Byt (a9 (st.drop nm)) := (hsb.drop _).cst
  refine wm rfl (aK H3 og (fun g8 w9 hgg8 H10 =>  wn (ad (sr (mg h00 rfl (wc rfl (wf cK rfl (wf fG rfl (wv rfl (ah ar rfl (H10.kc hf0)) (wv rfl (aL rfl rfl (beq_eq_false_iff_ne.2 (by omega))) (wn ?_)))))))))))
  refine aj rfl (sr (wm rfl (aK H10 tz (fun g11 w12 hgg11 H13 =>  wn (ad (sr (mg h17 rfl (wv rfl (aF (v := .pt gq) dW rfl) (mg h14 rfl (wE [.pt g11, .iface 109 (.pt gq), .u8 (bo big)] CK68 rfl rfl ?_))))))))))
  have hws := H13.keep.size
  have hgl := H13.lt (i := 0) rfl
  have hge1 := H13.ge (i := 0) rfl
  have hge2 := H13.ge (i := 3) rfl
  have hgne : g11 ≠ gq := H13.blk_ne (i := 0) (j := 3) rfl rfl (by decide)
  refine aa (kC (ys := ys) (i := 12 * i) (A := some ⟨gy, 0, none⟩) (xs := xs) big _ (H13.g 0 rfl) (H13.g 3 rfl) (hG.keep H13.keep (fun k hk => hk.elim)) (Nat.le_refl _) (by omega) (hr.keep0 H13.keep) hby (fun a ha => by injection ha with ha; subst ha; exact ⟨by show gy < _; omega, by show gy ≠ gq; omega, by show gy ≠ g11; omega⟩) (by omega) (by omega) (by omega) (by omega) (by omega) hys2) ?_
  rintro e w15 ⟨rfl, HS14⟩
  have H16 := H13.ky 0 2 rfl rfl HS14 (fun _ h => h)
  refine ⟨_, rfl, ?_⟩
  refine av (.nilIface) rfl (wn (sr (mv (.nilIface) rfl (wv rfl ((nn false bq rfl (.inl rfl))) (wn (aj rfl (wk (sr (wf pU rfl (wv rfl (H16.ld 0 rfl ar rfl (.u32 (n4 big (ys.drop 0))) rfl) (wf gu rfl ?_)))))))))))
  refine ws (es H16 2 0 (.u32 (n4 big (ys.drop 0))) rfl ar (fun w18 H17 =>  ?_))
  refine wn (sr (wf pT rfl (wv rfl (H17.ld 0 rfl cC rfl (.u8 (ys.getD 4 0)) rfl) (wf gk rfl (ws (es H17 2 1 (.u8 (ys.getD 4 0)) rfl cC (fun w20 H19 =>  ?_)))))))
  refine wn (sr (wf pS rfl (wv rfl (H19.ld 0 rfl cC rfl (.u8 (ys.getD 5 0)) rfl) (wf gj rfl (ws (es H19 2 2 (.u8 (ys.getD 5 0)) rfl cC (fun w22 H21 =>  ?_)))))))
  refine wn (sr (wf pR rfl (wv rfl (H21.ld 0 rfl gT rfl (.u16 (n2 big (ys.drop 6))) rfl) (wf gi rfl (ws (es H21 2 3 (.u16 (n2 big (ys.drop 6))) rfl gT (fun w24 H23 =>  ?_)))))))
  refine wn (ae (wf pQ rfl (wv rfl (H23.ld 0 rfl ar rfl (.u32 (n4 big (ys.drop 8))) rfl) (wv rfl (an bm be rfl (a6 (by omega) (by omega))) (wf gg rfl (ws (es H23 2 4 (.u64 (n4 big (ys.drop 8))) rfl aM (fun w26 H25 =>  ?_))))))))
  refine wn (ad (sr (wf gu rfl (wv rfl (H25.ld 2 rfl ar rfl (.u32 (n4 big (ys.drop 0))) rfl) (mg h02 rfl (wv rfl (ba co rfl) (wv rfl (an eL iV rfl (d6 (by omega) (by omega))) (wv rfl (i5 rfl rfl) (wn ?_)))))))))
  refine cf rfl (fun hb27 => ?_) (fun hb27 => ?_)
  ·
   simp only [bx] at hb27
   refine ad ?_
   have H28 := H25.drew
   refine aO MX (fun w' => w'.cell? ⟨g8, 0, none⟩ = some (.u32 (n4 big (ys.drop 0)))) (tr 0 5 (Pl.take 7 (Pl.run 5 (Pl.take 6 (Pl.take 8 Pl.done))))) (by kernel_rfl) (H28.c 2 0 rfl rfl) (qm (.i64 of) rfl h05 (qy rfl (ab (o := 0) gu rfl) (qh rfl (fun hS => ah ar rfl hS) (qy rfl (aF (v := .u32 (n4 big (ys.drop 0))) ve rfl) (qy rfl (yb (ps := [(0, .i64 of), (1, .string _), (2, .iface 24 (.u32 (n4 big (ys.drop 0))))]) (cells := #[.i64 of, .string (⟨#[105, 110, 118, 97, 108, 105, 100, 32, 110, 97, 109, 101, 32, 105, 110, 32, 115, 121, 109, 98, 111, 108, 32, 116, 97, 98, 108, 101]⟩), .iface 24 (.u32 (n4 big (ys.drop 0)))]) rfl (by kernel_rfl)) (qa (.np) rfl rfl (qr rfl (ee H28 (vs := [.i64 of, .string _, .iface 24 (.u32 (n4 big (ys.drop 0)))]) rfl rfl (fun g29 w30 hgg29 H31 =>  ?_)))))))))
   refine ⟨H31.c 3 0 rfl rfl, fun _ => trivial, ?_⟩
   refine qy rfl (aF (v := .pt g29) gR rfl) (qa (.iface 154 (.pt g29)) rfl rfl (pn (rq (aB (ax (ax (aB (ax ?_))))))))
   exact ⟨.inr rfl, _, r2 (.np) (.iface 154 (.pt g29)) rfl _ _, .inr ⟨⟨i, by omega, by rw [show dB false xs i = ys from hys.symm]; show st.length ≤ (n4 big ys).toNat; rw [show (n4 big ys).toNat = nm from hnm']; rw [hst.1]; omega⟩, _, _, rfl, H31.sub (List.nil_sublist _)⟩⟩
  ·
   simp only [bx] at hb27
   refine wk (sr (mg h02 rfl (wf gu rfl (wv rfl (H25.ld 2 rfl ar rfl (.u32 (n4 big (ys.drop 0))) rfl) (wv rfl ((am (l := nm) (h := nt) aU rfl (bg rfl (by omega) (by omega)) bn (by omega) (by omega) (by omega) (Nat.zero_add _) : Yv _ _ _ _ (.sl gt nm (nt - nm) (ct - nm)) _)) (wE [.sl gt nm (nt - nm) (ct - nm)] lY rfl rfl (aa (dE _ (by have h := (hst.keep0 H25.keep).drop_ nm; rwa [Nat.zero_add] at h) (hsb.drop _) (by omega) (by omega)) ?_)))))))
   rintro e w33 ⟨rfl, HS32⟩
   have H34 := H25.cal0 HS32
   refine ⟨_, rfl, ?_⟩
   refine av (.str (a9 (st.drop nm))) rfl (wn (ad (sr (mv (.str (a9 (st.drop nm))) rfl (wE [.str (a9 (st.drop nm)), .string (⟨#[46]⟩)] CK69 rfl rfl ?_)))))
   have hNSl : (a9 (st.drop nm)).length < 9223372036854775807 := by have := l3 (st.drop nm); rw [List.length_drop, hst.1] at this; omega
   refine aa (jw _ hNSb hNSl) ?_
   rintro e w36 ⟨rfl, HS35⟩
   have H37 := H34.cal0 HS35
   refine ⟨_, rfl, ?_⟩
   refine mv (.bool (decide (46 ∈ (a9 (st.drop nm))))) rfl ?_
   generalize hb38 : (decide (46 ∈ (a9 (st.drop nm)))) = bb
   cases bb
   ·
    simp only [bx] at hb38
    refine cM rfl rfl (cM rfl rfl (cM rfl rfl (wv rfl (aD (b := false) (v := .bool false) rfl rfl) (wn (aj rfl (wk (ae (mg h16 rfl (mv (.str (a9 (st.drop nm))) rfl (wf gk rfl (wv rfl (H37.ld 2 rfl cC rfl (.u8 (ys.getD 4 0)) rfl) ?_)))))))))))
    refine wf gj rfl (wv rfl (H37.ld 2 rfl cC rfl (.u8 (ys.getD 5 0)) rfl) (wf gi rfl (wv rfl (H37.ld 2 rfl gT rfl (.u16 (n2 big (ys.drop 6))) rfl) (wf gg rfl (wv rfl (H37.ld 2 rfl aM rfl (.u64 (n4 big (ys.drop 8))) rfl) (wv rfl (yz [.str (a9 (st.drop nm)), .u8 (ys.getD 4 0), .u8 (ys.getD 5 0), .u16 (n2 big (ys.drop 6)), .u64 (n4 big (ys.drop 8))] rfl (by kernel_rfl)) (wm rfl (jv H37 (ps := [(0, .agg #[.str (a9 (st.drop nm)), .u8 (ys.getD 4 0), .u8 (ys.getD 5 0), .u16 (n2 big (ys.drop 6)), .u64 (n4 big (ys.drop 8))])]) (e := 193) (cs := [.str (a9 (st.drop nm)), .u8 (ys.getD 4 0), .u8 (ys.getD 5 0), .u16 (n2 big (ys.drop 6)), .u64 (n4 big (ys.drop 8))]) rfl (by kernel_rfl) (fun g39 w40 hgg39 H41 =>  wm rfl (bR H41 4 (m := 1) (news := [.str (a9 (st.drop nm)), .u8 (ys.getD 4 0), .u8 (ys.getD 5 0), .u16 (n2 big (ys.drop 6)), .u64 (n4 big (ys.drop 8))]) rfl kz kA rfl (by decide) rfl rfl rfl (H41.news (i := 0) rfl) (by simp [Value.oneCell']) (by simp only [maxLen]; omega) (by omega) (fun v42 w43 H44 =>  ?_)))))))))))
    obtain ⟨A45, c46, rfl, _, _⟩ := aw (H44.g 4 rfl)
    refine av (.slice A45 (i + 1) c46) rfl (bl (ao (ac (ae (mg h18 rfl (wv rfl (aT (k := .i64) (c := ↑i + 1) rfl rfl (aE (by omega) (by omega))) (ai (↑i + 1) rfl (wn ?_))))))))
    have hcur : ([.str (a9 (st.drop nm)), .u8 (ys.getD 4 0), .u8 (ys.getD 5 0), .u16 (n2 big (ys.drop 6)), .u64 (n4 big (ys.drop 8))] : List Value) = Sym.cells (eP false big st ys) := by unfold eP de; rw [show (n4 big ys).toNat = nm from hnm', if_neg (fun h => hb38 h.1)]; rfl
    have hdd : (bO false big st xs n)[i]? = some (eP false big st ys) := by rw [eA (by omega), ← hys]
    have e8 : (↑(12 * i) : Int) + 12 = ↑(12 * (i + 1)) := by omega
    rw [hcur, ← da hdd, e8] at H44
    exact ⟨⟨i + 1, _, _, h00, h02, h03, h04, h05, h14, rfl, h17, rfl, by omega, fun k hk => by rcases Nat.lt_or_eq_of_le (Nat.le_of_lt_succ hk) with h | h; exact hgood k h; subst h; rw [show dB false xs k = ys from hys.symm]; show ¬ st.length ≤ (n4 big ys).toNat; rw [show (n4 big ys).toNat = nm from hnm']; have hsl := hst.1; omega, H44.re [4, 2]⟩, by show n + 1 - nv (.i64 (↑i + 1)) < n + 1 - nv (ρ 18); rw [h18]; simp only [nv]; omega⟩
   ·
    simp only [bx] at hb38
    have hns0 : 0 < (a9 (st.drop nm)).length := List.length_pos_of_mem hb38
    refine aP rfl rfl (al (v := .str (a9 (st.drop nm))) rfl) (aP rfl rfl (fz (ns := (a9 (st.drop nm))) lO rfl rfl hns0 hNSb) (aP rfl rfl (fW rfl rfl) (wv rfl (aD (b := true) (v := .bool ((a9 (st.drop nm)).getD 0 0 == 95)) rfl rfl) (wn ?_))))
    refine cf rfl (fun hb47 => ?_) (fun hb47 => ?_)
    ·
     simp only [bx] at hb47
     refine ae (mv (.str (a9 (st.drop nm))) rfl (wv rfl (fy (ns := (a9 (st.drop nm))) lO rfl rfl hns0) (av (.str ((a9 (st.drop nm)).drop 1)) rfl (wn (ae (mg h16 rfl (mv (.str ((a9 (st.drop nm)).drop 1)) rfl (wf gk rfl (wv rfl (H37.ld 2 rfl cC rfl (.u8 (ys.getD 4 0)) rfl) (wf gj rfl (wv rfl (H37.ld 2 rfl cC rfl (.u8 (ys.getD 5 0)) rfl) ?_)))))))))))
     refine wf gi rfl (wv rfl (H37.ld 2 rfl gT rfl (.u16 (n2 big (ys.drop 6))) rfl) (wf gg rfl (wv rfl (H37.ld 2 rfl aM rfl (.u64 (n4 big (ys.drop 8))) rfl) (wv rfl (yz [.str ((a9 (st.drop nm)).drop 1), .u8 (ys.getD 4 0), .u8 (ys.getD 5 0), .u16 (n2 big (ys.drop 6)), .u64 (n4 big (ys.drop 8))] rfl (by kernel_rfl)) (wm rfl (jv H37 (ps := [(0, .agg #[.str ((a9 (st.drop nm)).drop 1), .u8 (ys.getD 4 0), .u8 (ys.getD 5 0), .u16 (n2 big (ys.drop 6)), .u64 (n4 big (ys.drop 8))])]) (e := 193) (cs := [.str ((a9 (st.drop nm)).drop 1), .u8 (ys.getD 4 0), .u8 (ys.getD 5 0), .u16 (n2 big (ys.drop 6)), .u64 (n4 big (ys.drop 8))]) rfl (by kernel_rfl) (fun g48 w49 hgg48 H50 =>  wm rfl (bR H50 4 (m := 1) (news := [.str ((a9 (st.drop nm)).drop 1), .u8 (ys.getD 4 0), .u8 (ys.getD 5 0), .u16 (n2 big (ys.drop 6)), .u64 (n4 big (ys.drop 8))]) rfl kz kA rfl (by decide) rfl rfl rfl (H50.news (i := 0) rfl) (by simp [Value.oneCell']) (by simp only [maxLen]; omega) (by omega) (fun v51 w52 H53 =>  ?_)))))))))
     obtain ⟨A54, c55, rfl, _, _⟩ := aw (H53.g 4 rfl)
     refine av (.slice A54 (i + 1) c55) rfl (bl (ao (ac (ae (mg h18 rfl (wv rfl (aT (k := .i64) (c := ↑i + 1) rfl rfl (aE (by omega) (by omega))) (ai (↑i + 1) rfl (wn ?_))))))))
     have hcur : ([.str ((a9 (st.drop nm)).drop 1), .u8 (ys.getD 4 0), .u8 (ys.getD 5 0), .u16 (n2 big (ys.drop 6)), .u64 (n4 big (ys.drop 8))] : List Value) = Sym.cells (eP false big st ys) := by unfold eP de; rw [show (n4 big ys).toNat = nm from hnm', if_pos ⟨hb38, hb47⟩]; rfl
     have hdd : (bO false big st xs n)[i]? = some (eP false big st ys) := by rw [eA (by omega), ← hys]
     have e8 : (↑(12 * i) : Int) + 12 = ↑(12 * (i + 1)) := by omega
     rw [hcur, ← da hdd, e8] at H53
     exact ⟨⟨i + 1, _, _, h00, h02, h03, h04, h05, h14, rfl, h17, rfl, by omega, fun k hk => by rcases Nat.lt_or_eq_of_le (Nat.le_of_lt_succ hk) with h | h; exact hgood k h; subst h; rw [show dB false xs k = ys from hys.symm]; show ¬ st.length ≤ (n4 big ys).toNat; rw [show (n4 big ys).toNat = nm from hnm']; have hsl := hst.1; omega, H53.re [4, 2]⟩, by show n + 1 - nv (.i64 (↑i + 1)) < n + 1 - nv (ρ 18); rw [h18]; simp only [nv]; omega⟩
    ·
     simp only [bx] at hb47
     refine wk (ae (mg h16 rfl (mv (.str (a9 (st.drop nm))) rfl (wf gk rfl (wv rfl (H37.ld 2 rfl cC rfl (.u8 (ys.getD 4 0)) rfl) (wf gj rfl (wv rfl (H37.ld 2 rfl cC rfl (.u8 (ys.getD 5 0)) rfl) (wf gi rfl (wv rfl (H37.ld 2 rfl gT rfl (.u16 (n2 big (ys.drop 6))) rfl) (wf gg rfl (wv rfl (H37.ld 2 rfl aM rfl (.u64 (n4 big (ys.drop 8))) rfl) ?_)))))))))))
     refine wv rfl (yz [.str (a9 (st.drop nm)), .u8 (ys.getD 4 0), .u8 (ys.getD 5 0), .u16 (n2 big (ys.drop 6)), .u64 (n4 big (ys.drop 8))] rfl (by kernel_rfl)) (wm rfl (jv H37 (ps := [(0, .agg #[.str (a9 (st.drop nm)), .u8 (ys.getD 4 0), .u8 (ys.getD 5 0), .u16 (n2 big (ys.drop 6)), .u64 (n4 big (ys.drop 8))])]) (e := 193) (cs := [.str (a9 (st.drop nm)), .u8 (ys.getD 4 0), .u8 (ys.getD 5 0), .u16 (n2 big (ys.drop 6)), .u64 (n4 big (ys.drop 8))]) rfl (by kernel_rfl) (fun g56 w57 hgg56 H58 =>  wm rfl (bR H58 4 (m := 1) (news := [.str (a9 (st.drop nm)), .u8 (ys.getD 4 0), .u8 (ys.getD 5 0), .u16 (n2 big (ys.drop 6)), .u64 (n4 big (ys.drop 8))]) rfl kz kA rfl (by decide) rfl rfl rfl (H58.news (i := 0) rfl) (by simp [Value.oneCell']) (by simp only [maxLen]; omega) (by omega) (fun v59 w60 H61 =>  ?_)))))
     obtain ⟨A62, c63, rfl, _, _⟩ := aw (H61.g 4 rfl)
     refine av (.slice A62 (i + 1) c63) rfl (bl (ao (ac (ae (mg h18 rfl (wv rfl (aT (k := .i64) (c := ↑i + 1) rfl rfl (aE (by omega) (by omega))) (ai (↑i + 1) rfl (wn ?_))))))))
     have hcur : ([.str (a9 (st.drop nm)), .u8 (ys.getD 4 0), .u8 (ys.getD 5 0), .u16 (n2 big (ys.drop 6)), .u64 (n4 big (ys.drop 8))] : List Value) = Sym.cells (eP false big st ys) := by unfold eP de; rw [show (n4 big ys).toNat = nm from hnm', if_neg (fun h => hb47 h.2)]; rfl
     have hdd : (bO false big st xs n)[i]? = some (eP false big st ys) := by rw [eA (by omega), ← hys]
     have e8 : (↑(12 * i) : Int) + 12 = ↑(12 * (i + 1)) := by omega
     rw [hcur, ← da hdd, e8] at H61
     exact ⟨⟨i + 1, _, _, h00, h02, h03, h04, h05, h14, rfl, h17, rfl, by omega, fun k hk => by rcases Nat.lt_or_eq_of_le (Nat.le_of_lt_succ hk) with h | h; exact hgood k h; subst h; rw [show dB false xs k = ys from hys.symm]; show ¬ st.length ≤ (n4 big ys).toNat; rw [show (n4 big ys).toNat = nm from hnm']; have hsl := hst.1; omega, H61.re [4, 2]⟩, by show n + 1 - nv (.i64 (↑i + 1)) < n + 1 - nv (ρ 18); rw [h18]; simp only [nv]; omega⟩
 ·
  simp only [bx] at hb7
  refine bF (a8 (a8 (aY (ac (sr (wm rfl (aK H3 ou (fun g64 w65 hgg64 H66 =>  ap g64 0 rfl (wn (sr (mp g64 0 rfl ?_)))))))))))
  refine mg h03 rfl (wc rfl (wf rg rfl (ws (es H66 0 0 (.slice Ac nc cc) rfl fq (fun w68 H67 =>  ?_)))))
  refine wn (sr (mp g64 0 rfl (mg h16 rfl (wc rfl (wf jD rfl (ws (es H67 0 7 (.slice Av i cv) rfl lF (fun w70 H69 =>  ?_))))))))
  refine wn (sr (mp g64 0 rfl (ap g64 0 rfl (av (.nilIface) rfl (wn (aQ ?_))))))
  have hin : i = n := by omega
  rw [List.take_of_length_le (by rw [dc]; omega)] at H69
  exact ⟨.inr rfl, _, r2 (.pt g64) (.nilIface) rfl _ _, .inl ⟨fun k hk => hgood k (by omega), _, _, _, Res.all [aq g64 [.slice Ac nc cc, .u32 0, .u32 0, .u32 0, .u32 0, .u32 0, .u32 0, .slice Av i cv] 144, aH 193 5 (.slice Av i cv) i ((bO false big st xs n).flatMap Sym.cells)], rfl, H69.reAll [0, 1] [], fun w hd => by have hd := aV.1 hd; subst hin; exact ⟨hd (aq g64 [.slice Ac nc cc, .u32 0, .u32 0, .u32 0, .u32 0, .u32 0, .u32 0, .slice Av i cv] 144) (by simp), by obtain ⟨A, c, e, hv, _⟩ := aw (hd (aH 193 5 (.slice Av i cv) i ((bO false big st xs i).flatMap Sym.cells)) (by simp)); injection e with e; subst e; exact hv⟩⟩⟩
end Go.Proofs.YtlndedfkgiafhaaDoor
namespace Go.Proofs.YtlndedfkgiafhaaDoor
open Go Go.RowKit Go.Proofs
theorem bG {A : Option Addr} {n c : Nat} {ns : List Int} (w : World) (hr : RI .u8 w A n ns) (hc : n ≤ c) (hn : n ≤ 4294967295) :
 Calls Tryd.prog 39 #[.slice A n c] w fun e w' => e = .returned (.str (a9 ns)) ∧ St w aW [] w' := by
 refine a5 (args := [.slice A n c]) Tryd.func39 rfl rfl rfl ?_
 have H0 := St.nil w aW
 refine sr (av (.string (⟨#[]⟩)) rfl (wn (ad (sr (mv (.slice A n c) rfl (wv rfl (ba co rfl) (mi 0 rfl (wn (aC (bW (fun ρ w' => ∃ i : Nat, ρ 0 = .slice A n c ∧ ρ 5 = .slice A n c ∧ ρ 6 = .i64 ↑n ∧ ρ 7 = .i64 ↑i ∧ i ≤ n ∧ (∀ j, j < i → ns.getD j 0 ≠ 0) ∧ St w aW [] w') (fun ρ _ => n + 1 - nv (ρ 7)) (⟨0, rfl, rfl, rfl, rfl, by omega, by omega, H0⟩) ?_))))))))))
 rintro ρ w1 ⟨i, h0, h5, h6, h7, hi, hall, H1⟩
 refine sr (wv rfl (cx h7 h6) (wn (ad ?_)))
 refine cf rfl (fun hb1 => ?_) (fun hb1 => ?_)
 ·
  simp only [bx] at hb1
  refine wk (ad (aC (sr ?_)))
  have hin : i < n := by omega
  obtain ⟨g, o, rfl, hcell⟩ := hr.at_ hin
  refine mg h7 rfl (wv rfl (bU i aU h5 h7 rfl (by omega) (by rw [Nat.mul_one])) (wv rfl (ah cC rfl (H1.kc hcell)) (ai (↑i) rfl (av (.u8 (ns.getD i 0)) rfl (wn (sr (mv (.u8 (ns.getD i 0)) rfl (wv rfl (fW rfl rfl) (wn ?_)))))))))
  refine cf rfl (fun hb2 => ?_) (fun hb2 => ?_)
  ·
   simp only [bx] at hb2
   have hz := hb2
   refine sr (mg h0 rfl (mi (↑i) rfl (wv rfl ((am (l := 0) (h := i) aU rfl bn (bg rfl (by omega) (by omega)) (by omega) (by omega) (by omega) (Nat.add_zero _) : Yv _ _ _ _ (.sl g o i c) _)) (wv rfl (dN cA kG lO rfl (xs := a9 ns) (by rw [vW hall (by rw [hr.1]; exact hin) hz]; exact (hr.keep0 H1.keep).take (by omega)) (fun h => by cases h)) (av (.str (a9 ns)) rfl (wn (aQ (aB (ax (ax (aB ?_)))))))))))
   refine ax ?_
   exact ⟨.inr rfl, _, r1 (.str (a9 ns)) rfl _ _, ⟨rfl, H1⟩⟩
  ·
   simp only [bx] at hb2
   refine cG (ao (ac (ae (wv rfl (aT (k := .i64) (c := ↑i + 1) h7 rfl (aE (by omega) (by omega))) (mi (↑i + 1) rfl (wn ?_))))))
   exact ⟨⟨i + 1, h0, h5, h6, rfl, by omega, fun j hj => by rcases Nat.lt_or_eq_of_le (Nat.le_of_lt_succ hj) with h | h; exact hall j h; subst h; assumption, H1⟩, by show n + 1 - nv (.i64 (↑i + 1)) < n + 1 - nv (ρ 7); rw [h7]; simp only [nv]; omega⟩
 ·
  simp only [bx] at hb1
  refine bF (a8 (a8 (aY (ac (sr (mg h0 rfl (wv rfl (dN cA kG lO rfl (xs := a9 ns) (by rw [ut (fun j hj => hall j (by rw [hr.1] at hj; omega))]; exact hr.keep0 H1.keep) hr.none0) (av (.str (a9 ns)) rfl (wn (aQ ?_))))))))))
  exact ⟨.inr rfl, _, r1 (.str (a9 ns)) rfl _ _, ⟨rfl, H1⟩⟩
end Go.Proofs.YtlndedfkgiafhaaDoor
namespace Go.Proofs.YtlndedfkgiafhaaDoor
open Go Go.RowKit Go.Proofs
theorem oJ {A : Option Addr} {n c wd : Nat} {ns : List Int} (w : World) (hr : RI .u8 w A n ns) (hb : Byt ns) (hwd : wd ≤ n) (hw8 : wd ≤ 8) :
 Calls Tryd.prog 25 #[.bool true, .i64 ↑wd, .slice A n c] w fun e w' => e = .returned (.u64 (gH ns wd)) ∧ St w aW [] w' := by
 refine a5 (args := [.bool true, .i64 (↑wd), .slice A n c]) Tryd.func25 rfl rfl rfl ?_
 have H0 := St.nil w aW
 refine sr (au 0 rfl (wn (sr (au 0 rfl (wn (ad (sr (mi (↑wd) rfl (mi 0 rfl (wn (aC ?_)))))))))))
 refine bW (fun ρ w' => ∃ i : Nat, ρ 0 = .bool true ∧ ρ 2 = .slice A n c ∧ ρ 7 = .u64 (gH ns i) ∧ ρ 9 = .i64 ↑wd ∧ ρ 10 = .i64 ↑i ∧ i ≤ wd ∧ St w aW [] w') (fun ρ _ => wd + 1 - nv (ρ 10)) (⟨0, rfl, rfl, rfl, rfl, rfl, by omega, H0⟩) ?_
 rintro ρ w1 ⟨i, h0, h2, h7, h9, h10, hi, H1⟩
 refine sr (wv rfl (cx h10 h9) (wn (ad ?_)))
 refine cf rfl (fun hb1 => ?_) (fun hb1 => ?_)
 ·
  simp only [bx] at hb1
  refine wk (ad (aC (sr ?_)))
  have hin : i < n := by omega
  have hi7 : i ≤ 7 := by omega
  have hbi := hb i
  obtain ⟨g, o, rfl, hcell⟩ := hr.at_ hin
  refine mg h10 rfl (ai (↑i) rfl (wn (sr (mg h0 rfl (wn (ay rfl (ae (mg h7 rfl (wv rfl (km (c := gH ns i * 256) (by exact rfl) rfl (by decide) (tq hb hi7)) (mg h2 rfl (mi (↑i) rfl ?_)))))))))))
  refine wv rfl (bU i aU rfl rfl rfl (by omega) (by rw [Nat.mul_one])) (wv rfl (ah cC rfl (H1.kc hcell)) (wv rfl (an TI5 be rfl (a6 hbi.1 (by omega))) (wv rfl (nA (c := gH ns (i + 1)) rfl rfl (uw hb hi7)) (au (gH ns (i + 1)) rfl (bl (ao (ac (ae (wv rfl (aT (k := .i64) (c := ↑i + 1) h10 rfl (aE (by omega) (by omega))) (mi (↑i + 1) rfl (wn ?_)))))))))))
  exact ⟨⟨i + 1, h0, h2, rfl, h9, rfl, by omega, H1⟩, by show wd + 1 - nv (.i64 (↑i + 1)) < wd + 1 - nv (ρ 10); rw [h10]; simp only [nv]; omega⟩
 ·
  simp only [bx] at hb1
  refine bF (a8 (a8 (aY (ac (sr (mg h7 rfl (au (gH ns i) rfl (wn (aQ ?_)))))))))
  exact ⟨.inr rfl, _, r1 (.u64 (gH ns i)) rfl _ _, ⟨by rw [show i = wd by omega], H1⟩⟩
theorem nu {A : Option Addr} {n c wd : Nat} {ns : List Int} (w : World) (hr : RI .u8 w A n ns) (hb : Byt ns) (hwd : wd ≤ n) (hw8 : wd ≤ 8) :
 Calls Tryd.prog 25 #[.bool false, .i64 ↑wd, .slice A n c] w fun e w' => e = .returned (.u64 (hU ns wd)) ∧ St w aW [] w' := by
 refine a5 (args := [.bool false, .i64 (↑wd), .slice A n c]) Tryd.func25 rfl rfl rfl ?_
 have H0 := St.nil w aW
 refine sr (au 0 rfl (wn (sr (au 0 rfl (wn (ad (sr (mi (↑wd) rfl (mi 0 rfl (wn (aC ?_)))))))))))
 refine bW (fun ρ w' => ∃ i : Nat, ρ 0 = .bool false ∧ ρ 2 = .slice A n c ∧ ρ 7 = .u64 (hU ns i) ∧ ρ 9 = .i64 ↑wd ∧ ρ 10 = .i64 ↑i ∧ i ≤ wd ∧ St w aW [] w') (fun ρ _ => wd + 1 - nv (ρ 10)) (⟨0, rfl, rfl, rfl, rfl, rfl, by omega, H0⟩) ?_
 rintro ρ w1 ⟨i, h0, h2, h7, h9, h10, hi, H1⟩
 refine sr (wv rfl (cx h10 h9) (wn (ad ?_)))
 refine cf rfl (fun hb1 => ?_) (fun hb1 => ?_)
 ·
  simp only [bx] at hb1
  refine wk (ad (aC (sr ?_)))
  have hin : i < n := by omega
  have hi7 : i ≤ 7 := by omega
  have hbi := hb i
  obtain ⟨g, o, rfl, hcell⟩ := hr.at_ hin
  refine mg h10 rfl (ai (↑i) rfl (wn (sr (mg h0 rfl (wn (aj rfl (ae (mg h7 rfl (mg h2 rfl (mi (↑i) rfl (wv rfl (bU i aU rfl rfl rfl (by omega) (by rw [Nat.mul_one])) ?_)))))))))))
  refine wv rfl (ah cC rfl (H1.kc hcell)) (wv rfl (an TI5 be rfl (a6 hbi.1 (by omega))) (mi (↑i) rfl (wv rfl (c6 (k := .i64) (c := 8 * ↑i) rfl rfl (aE (by omega) (by omega))) (wv rfl (km (c := ns.getD i 0 * 256 ^ i) rfl rfl (by omega) (tn hb hi7)) (wv rfl (nA (c := hU ns (i + 1)) rfl rfl (uv hb hi7)) (au (hU ns (i + 1)) rfl (bl (ao (ac (ae (wv rfl (aT (k := .i64) (c := ↑i + 1) h10 rfl (aE (by omega) (by omega))) ?_)))))))))))
  refine mi (↑i + 1) rfl (wn ?_)
  exact ⟨⟨i + 1, h0, h2, rfl, h9, rfl, by omega, H1⟩, by show wd + 1 - nv (.i64 (↑i + 1)) < wd + 1 - nv (ρ 10); rw [h10]; simp only [nv]; omega⟩
 ·
  simp only [bx] at hb1
  refine bF (a8 (a8 (aY (ac (sr (mg h7 rfl (au (hU ns i) rfl (wn (aQ ?_)))))))))
  exact ⟨.inr rfl, _, r1 (.u64 (hU ns i)) rfl _ _, ⟨by rw [show i = wd by omega], H1⟩⟩
theorem dw (big : Bool) {A : Option Addr} {n c wd : Nat} {ns : List Int} (w : World) (hr : RI .u8 w A n ns) (hb : Byt ns) (hwd : wd ≤ n) (hw8 : wd ≤ 8) :
 Calls Tryd.prog 25 #[.bool big, .i64 ↑wd, .slice A n c] w fun e w' => e = .returned (.u64 (nx big ns wd)) ∧ St w aW [] w' := by
 cases big
 · exact nu w hr hb hwd hw8
 · exact oJ w hr hb hwd hw8
theorem nF {A : Option Addr} {n c from_ size : Nat} (w : World) (hn : n ≤ 4294967295) (hfs : from_ + size < 18446744073709551616) (hz : size = 0) :
 Calls Tryd.prog 28 #[.slice A n c, .u64 ↑from_, .u64 ↑size] w fun e w' => e = .returned (.bool true) ∧ St w aW [] w' := by
 refine a5 (args := [.slice A n c, .u64 (↑from_), .u64 (↑size)]) Tryd.func28 rfl rfl rfl ?_
 have H0 := St.nil w aW
 refine sr (av (.bool false) rfl (wn (sr (mu (↑size) rfl (wv rfl (aL rfl rfl (beq_iff_eq.2 (by omega))) (mv (.bool true) rfl (cM rfl rfl (cM rfl rfl (cM rfl rfl (cM rfl rfl (cM rfl rfl ?_)))))))))))
 refine cM rfl rfl (cM rfl rfl (wv rfl (aD (b := true) (v := .bool true) rfl rfl) (av (.bool true) rfl (wn (aQ ?_)))))
 exact ⟨.inr rfl, _, r1 (.bool true) rfl _ _, ⟨rfl, H0⟩⟩
theorem rA {A : Option Addr} {n c from_ size : Nat} (w : World) (hn : n ≤ 4294967295) (hfs : from_ + size < 18446744073709551616) (hz : 0 < size) (hf : from_ + size ≤ n) :
 Calls Tryd.prog 28 #[.slice A n c, .u64 ↑from_, .u64 ↑size] w fun e w' => e = .returned (.bool true) ∧ St w aW [] w' := by
 refine a5 (args := [.slice A n c, .u64 (↑from_), .u64 (↑size)]) Tryd.func28 rfl rfl rfl ?_
 have H0 := St.nil w aW
 refine sr (av (.bool false) rfl (wn (sr (mu (↑size) rfl (wv rfl (aL rfl rfl (beq_eq_false_iff_ne.2 (by omega))) (mv (.bool false) rfl (aP rfl rfl (al (v := .u64 (↑from_)) rfl) (aP rfl rfl (al (v := .u64 (↑size)) rfl) (aP rfl rfl (aT (k := .u64) (c := ↑from_ + ↑size) rfl rfl (a6 (by omega) (by omega))) (aP rfl rfl (al (v := .slice A n c) rfl) (aP rfl rfl (ba co rfl) ?_)))))))))))
 refine aP rfl rfl (an eL be rfl (a6 (by omega) (by omega))) (aP rfl rfl (fH rfl rfl (decide_eq_true (by omega))) (wv rfl (aD (b := false) (v := .bool true) rfl rfl) (av (.bool true) rfl (wn (aQ ?_)))))
 exact ⟨.inr rfl, _, r1 (.bool true) rfl _ _, ⟨rfl, H0⟩⟩
theorem oZ {A : Option Addr} {n c from_ size : Nat} (w : World) (hn : n ≤ 4294967295) (hfs : from_ + size < 18446744073709551616) (hz : 0 < size) (hf : n < from_ + size) :
 Calls Tryd.prog 28 #[.slice A n c, .u64 ↑from_, .u64 ↑size] w fun e w' => e = .returned (.bool false) ∧ St w aW [] w' := by
 refine a5 (args := [.slice A n c, .u64 (↑from_), .u64 (↑size)]) Tryd.func28 rfl rfl rfl ?_
 have H0 := St.nil w aW
 refine sr (av (.bool false) rfl (wn (sr (mu (↑size) rfl (wv rfl (aL rfl rfl (beq_eq_false_iff_ne.2 (by omega))) (mv (.bool false) rfl (aP rfl rfl (al (v := .u64 (↑from_)) rfl) (aP rfl rfl (al (v := .u64 (↑size)) rfl) (aP rfl rfl (aT (k := .u64) (c := ↑from_ + ↑size) rfl rfl (a6 (by omega) (by omega))) (aP rfl rfl (al (v := .slice A n c) rfl) (aP rfl rfl (ba co rfl) ?_)))))))))))
 refine aP rfl rfl (an eL be rfl (a6 (by omega) (by omega))) (aP rfl rfl (fH rfl rfl (decide_eq_false (by omega))) (wv rfl (aD (b := false) (v := .bool false) rfl rfl) (av (.bool false) rfl (wn (aQ ?_)))))
 exact ⟨.inr rfl, _, r1 (.bool false) rfl _ _, ⟨rfl, H0⟩⟩
end Go.Proofs.YtlndedfkgiafhaaDoor
namespace Go.Proofs.YtlndedfkgiafhaaDoor
open Go Go.RowKit Go.Proofs
theorem mR : cQ Tryd.prog 67 [.u32 0, .u32 0, .u8 0, .u8 0, .bool false, .bool false, .bool false] := bv (by kernel_rfl)
theorem vY : (Tryd.prog.info? 67).map (·.size) = some 7 := by kernel_rfl
theorem u6 : gN Tryd.prog 67 7 := dR (by kernel_rfl)
theorem se {big : Bool} {a b : Int} (w : World) (ha0 : 0 ≤ a) (ha1 : a < 4294967296) (hb0 : 0 ≤ b) (hb1 : b < 4294967296) (hsc : a / 2147483648 % 2 = 1) :
 Calls Tryd.prog 19 #[.bool big, .u32 a, .u32 b] w fun e w' => e = .returned (.agg (f7 big a b).cells.toArray) ∧ St w aW [] w' := by
 refine a5 (args := [.bool big, .u32 a, .u32 b]) Tryd.func19 rfl rfl rfl ?_
 have H0 := St.nil w aW
 refine sr (wm rfl (aK H0 mR (fun g1 w2 hgg1 H3 =>  wn (ad (aC (sr (mv (.u32 a) rfl (wv rfl (dm (c := a / 2147483648) rfl rfl (by decide) (by rw [show (2 : Int) ^ (min (31 : Int).toNat IntKind.u32.bits) = 2147483648 from by decide, Int.fdiv_eq_ediv_of_nonneg _ (by decide)])) (wv rfl (aL rfl rfl (beq_iff_eq.2 (by omega))) (av (.bool true) rfl (wn ?_)))))))))))
 refine ay rfl (sr (mv (.u32 a) rfl (wv rfl (cV (k := .u32) (c := a % 16777216) rfl rfl (bI 24 rfl (by omega) (by simp only [IntKind.bits]; omega) (by decide) (by decide) (by decide))) (mv (.u32 b) rfl (mv (.u32 a) rfl (wv rfl (dm (c := a / 16777216) rfl rfl (by decide) (by rw [show (2 : Int) ^ (min (24 : Int).toNat IntKind.u32.bits) = 16777216 from by decide, Int.fdiv_eq_ediv_of_nonneg _ (by decide)])) (wv rfl (cV (k := .u32) (c := a / 16777216 % 16) rfl rfl (bI 4 rfl (by omega) (by simp only [IntKind.bits]; omega) (by decide) (by decide) (by decide))) (wv rfl (an bm kG rfl (fw (by omega) (by omega))) (mv (.u32 a) rfl (wv rfl (dm (c := a / 268435456) rfl rfl (by decide) (by rw [show (2 : Int) ^ (min (28 : Int).toNat IntKind.u32.bits) = 268435456 from by decide, Int.fdiv_eq_ediv_of_nonneg _ (by decide)])) (wv rfl (cV (k := .u32) (c := a / 268435456 % 4) rfl rfl (bI 2 rfl (by omega) (by simp only [IntKind.bits]; omega) (by decide) (by decide) (by decide))) ?_)))))))))))
 refine wv rfl (an bm kG rfl (fw (by omega) (by omega))) (mv (.u32 a) rfl (wv rfl (dm (c := a / 1073741824) rfl rfl (by decide) (by rw [show (2 : Int) ^ (min (30 : Int).toNat IntKind.u32.bits) = 1073741824 from by decide, Int.fdiv_eq_ediv_of_nonneg _ (by decide)])) (wv rfl (cV (k := .u32) (c := a / 1073741824 % 2) rfl rfl (bI 1 rfl (by omega) (by simp only [IntKind.bits]; omega) (by decide) (by decide) (by decide))) (wv rfl ((show Yv _ _ _ _ (.bool (decide (a / 1073741824 % 2 = 1))) _ from fW (k := .u32) (a := a / 1073741824 % 2) (b := 1) rfl rfl)) (wv rfl (yb (ps := [(0, .u32 (a % 16777216)), (1, .u32 b), (2, .u8 (a / 16777216 % 16)), (3, .u8 (a / 268435456 % 4)), (4, .bool (decide (a / 1073741824 % 2 = 1))), (6, .bool true)]) (cells := #[.u32 (a % 16777216), .u32 b, .u8 (a / 16777216 % 16), .u8 (a / 268435456 % 4), .bool (decide (a / 1073741824 % 2 = 1)), .bool false, .bool true]) rfl (by kernel_rfl)) (ws (eN H3 0 [.u32 (a % 16777216), .u32 b, .u8 (a / 16777216 % 16), .u8 (a / 268435456 % 4), .bool (decide (a / 1073741824 % 2 = 1)), .bool false, .bool true] rfl vY (fun w5 H4 =>  ?_))))))))
 refine wn (aQ (aB (ax ?_)))
 exact ⟨.inr rfl, _, hJ rfl u6 (by exact rfl) (H4.g 0 rfl) rfl, ⟨by unfold f7; rw [if_pos hsc]; rfl, H4.sub (List.nil_sublist _)⟩⟩
theorem si {a b : Int} (w : World) (ha0 : 0 ≤ a) (ha1 : a < 4294967296) (hb0 : 0 ≤ b) (hb1 : b < 4294967296) (hsc : ¬ a / 2147483648 % 2 = 1) :
 Calls Tryd.prog 19 #[.bool true, .u32 a, .u32 b] w fun e w' => e = .returned (.agg (f7 true a b).cells.toArray) ∧ St w aW [] w' := by
 refine a5 (args := [.bool true, .u32 a, .u32 b]) Tryd.func19 rfl rfl rfl ?_
 have H0 := St.nil w aW
 refine sr (wm rfl (aK H0 mR (fun g1 w2 hgg1 H3 =>  wn (ad (aC (sr (mv (.u32 a) rfl (wv rfl (dm (c := a / 2147483648) rfl rfl (by decide) (by rw [show (2 : Int) ^ (min (31 : Int).toNat IntKind.u32.bits) = 2147483648 from by decide, Int.fdiv_eq_ediv_of_nonneg _ (by decide)])) (wv rfl (aL rfl rfl (beq_eq_false_iff_ne.2 (by omega))) (av (.bool false) rfl (wn ?_)))))))))))
 refine aj rfl (sr (mv (.bool true) rfl (av (.bool true) rfl (wn (ay rfl (sr (mv (.u32 a) rfl (mv (.u32 b) rfl (wv rfl (dm (c := b / 256) rfl rfl (by decide) (by rw [show (2 : Int) ^ (min (8 : Int).toNat IntKind.u32.bits) = 256 from by decide, Int.fdiv_eq_ediv_of_nonneg _ (by decide)])) (mv (.u32 b) rfl (wv rfl (cV (k := .u32) (c := b % 16) rfl rfl (bI 4 rfl (by omega) (by simp only [IntKind.bits]; omega) (by decide) (by decide) (by decide))) ?_)))))))))))
 refine wv rfl (an bm kG rfl (fw (by omega) (by omega))) (mv (.u32 b) rfl (wv rfl (dm (c := b / 32) rfl rfl (by decide) (by rw [show (2 : Int) ^ (min (5 : Int).toNat IntKind.u32.bits) = 32 from by decide, Int.fdiv_eq_ediv_of_nonneg _ (by decide)])) (wv rfl (cV (k := .u32) (c := b / 32 % 4) rfl rfl (bI 2 rfl (by omega) (by simp only [IntKind.bits]; omega) (by decide) (by decide) (by decide))) (wv rfl (an bm kG rfl (fw (by omega) (by omega))) (mv (.u32 b) rfl (wv rfl (dm (c := b / 128) rfl rfl (by decide) (by rw [show (2 : Int) ^ (min (7 : Int).toNat IntKind.u32.bits) = 128 from by decide, Int.fdiv_eq_ediv_of_nonneg _ (by decide)])) (wv rfl (cV (k := .u32) (c := b / 128 % 2) rfl rfl (bI 1 rfl (by omega) (by simp only [IntKind.bits]; omega) (by decide) (by decide) (by decide))) (wv rfl ((show Yv _ _ _ _ (.bool (decide (b / 128 % 2 = 1))) _ from fW (k := .u32) (a := b / 128 % 2) (b := 1) rfl rfl)) (mv (.u32 b) rfl (wv rfl (dm (c := b / 16) rfl rfl (by decide) (by rw [show (2 : Int) ^ (min (4 : Int).toNat IntKind.u32.bits) = 16 from by decide, Int.fdiv_eq_ediv_of_nonneg _ (by decide)])) (wv rfl (cV (k := .u32) (c := b / 16 % 2) rfl rfl (bI 1 rfl (by omega) (by simp only [IntKind.bits]; omega) (by decide) (by decide) (by decide))) ?_)))))))))))
 refine wv rfl ((show Yv _ _ _ _ (.bool (decide (b / 16 % 2 = 1))) _ from fW (k := .u32) (a := b / 16 % 2) (b := 1) rfl rfl)) (wv rfl (yb (ps := [(0, .u32 a), (1, .u32 (b / 256)), (2, .u8 (b % 16)), (3, .u8 (b / 32 % 4)), (4, .bool (decide (b / 128 % 2 = 1))), (5, .bool (decide (b / 16 % 2 = 1)))]) (cells := #[.u32 a, .u32 (b / 256), .u8 (b % 16), .u8 (b / 32 % 4), .bool (decide (b / 128 % 2 = 1)), .bool (decide (b / 16 % 2 = 1)), .bool false]) rfl (by kernel_rfl)) (ws (eN H3 0 [.u32 a, .u32 (b / 256), .u8 (b % 16), .u8 (b / 32 % 4), .bool (decide (b / 128 % 2 = 1)), .bool (decide (b / 16 % 2 = 1)), .bool false] rfl vY (fun w5 H4 =>  ?_))))
 refine wn (aQ (aB (ax ?_)))
 exact ⟨.inr rfl, _, hJ rfl u6 (by exact rfl) (H4.g 0 rfl) rfl, ⟨by unfold f7; rw [if_neg hsc, if_pos rfl]; rfl, H4.sub (List.nil_sublist _)⟩⟩
theorem sf {a b : Int} (w : World) (ha0 : 0 ≤ a) (ha1 : a < 4294967296) (hb0 : 0 ≤ b) (hb1 : b < 4294967296) (hsc : ¬ a / 2147483648 % 2 = 1) :
 Calls Tryd.prog 19 #[.bool false, .u32 a, .u32 b] w fun e w' => e = .returned (.agg (f7 false a b).cells.toArray) ∧ St w aW [] w' := by
 refine a5 (args := [.bool false, .u32 a, .u32 b]) Tryd.func19 rfl rfl rfl ?_
 have H0 := St.nil w aW
 refine sr (wm rfl (aK H0 mR (fun g1 w2 hgg1 H3 =>  wn (ad (aC (sr (mv (.u32 a) rfl (wv rfl (dm (c := a / 2147483648) rfl rfl (by decide) (by rw [show (2 : Int) ^ (min (31 : Int).toNat IntKind.u32.bits) = 2147483648 from by decide, Int.fdiv_eq_ediv_of_nonneg _ (by decide)])) (wv rfl (aL rfl rfl (beq_eq_false_iff_ne.2 (by omega))) (av (.bool false) rfl (wn ?_)))))))))))
 refine aj rfl (sr (mv (.bool false) rfl (av (.bool false) rfl (wn (aj rfl (cG (ao (ac (sr (mv (.u32 a) rfl (mv (.u32 b) rfl ?_)))))))))))
 refine wv rfl (cV (k := .u32) (c := b % 16777216) rfl rfl (bI 24 rfl (by omega) (by simp only [IntKind.bits]; omega) (by decide) (by decide) (by decide))) (mv (.u32 b) rfl (wv rfl (dm (c := b / 268435456) rfl rfl (by decide) (by rw [show (2 : Int) ^ (min (28 : Int).toNat IntKind.u32.bits) = 268435456 from by decide, Int.fdiv_eq_ediv_of_nonneg _ (by decide)])) (wv rfl (an bm kG rfl (fw (by omega) (by omega))) (mv (.u32 b) rfl (wv rfl (dm (c := b / 33554432) rfl rfl (by decide) (by rw [show (2 : Int) ^ (min (25 : Int).toNat IntKind.u32.bits) = 33554432 from by decide, Int.fdiv_eq_ediv_of_nonneg _ (by decide)])) (wv rfl (cV (k := .u32) (c := b / 33554432 % 4) rfl rfl (bI 2 rfl (by omega) (by simp only [IntKind.bits]; omega) (by decide) (by decide) (by decide))) (wv rfl (an bm kG rfl (fw (by omega) (by omega))) (mv (.u32 b) rfl (wv rfl (dm (c := b / 16777216) rfl rfl (by decide) (by rw [show (2 : Int) ^ (min (24 : Int).toNat IntKind.u32.bits) = 16777216 from by decide, Int.fdiv_eq_ediv_of_nonneg _ (by decide)])) (wv rfl (cV (k := .u32) (c := b / 16777216 % 2) rfl rfl (bI 1 rfl (by omega) (by simp only [IntKind.bits]; omega) (by decide) (by decide) (by decide))) (wv rfl ((show Yv _ _ _ _ (.bool (decide (b / 16777216 % 2 = 1))) _ from fW (k := .u32) (a := b / 16777216 % 2) (b := 1) rfl rfl)) ?_)))))))))))
 refine mv (.u32 b) rfl (wv rfl (dm (c := b / 134217728) rfl rfl (by decide) (by rw [show (2 : Int) ^ (min (27 : Int).toNat IntKind.u32.bits) = 134217728 from by decide, Int.fdiv_eq_ediv_of_nonneg _ (by decide)])) (wv rfl (cV (k := .u32) (c := b / 134217728 % 2) rfl rfl (bI 1 rfl (by omega) (by simp only [IntKind.bits]; omega) (by decide) (by decide) (by decide))) (wv rfl ((show Yv _ _ _ _ (.bool (decide (b / 134217728 % 2 = 1))) _ from fW (k := .u32) (a := b / 134217728 % 2) (b := 1) rfl rfl)) (wv rfl (yb (ps := [(0, .u32 a), (1, .u32 (b % 16777216)), (2, .u8 (b / 268435456)), (3, .u8 (b / 33554432 % 4)), (4, .bool (decide (b / 16777216 % 2 = 1))), (5, .bool (decide (b / 134217728 % 2 = 1)))]) (cells := #[.u32 a, .u32 (b % 16777216), .u8 (b / 268435456), .u8 (b / 33554432 % 4), .bool (decide (b / 16777216 % 2 = 1)), .bool (decide (b / 134217728 % 2 = 1)), .bool false]) rfl (by kernel_rfl)) (ws (eN H3 0 [.u32 a, .u32 (b % 16777216), .u8 (b / 268435456), .u8 (b / 33554432 % 4), .bool (decide (b / 16777216 % 2 = 1)), .bool (decide (b / 134217728 % 2 = 1)), .bool false] rfl vY (fun w5 H4 =>  ?_)))))))
 refine wn (aQ ?_)
 exact ⟨.inr rfl, _, hJ rfl u6 (by exact rfl) (H4.g 0 rfl) rfl, ⟨by unfold f7; rw [if_neg hsc, if_neg Bool.false_ne_true, show b / 268435456 % 16 = b / 268435456 from by omega]; rfl, H4.sub (List.nil_sublist _)⟩⟩
theorem m4 (big : Bool) {a b : Int} (w : World) (ha0 : 0 ≤ a) (ha1 : a < 4294967296) (hb0 : 0 ≤ b) (hb1 : b < 4294967296) :
 Calls Tryd.prog 19 #[.bool big, .u32 a, .u32 b] w fun e w' => e = .returned (.agg (f7 big a b).cells.toArray) ∧ St w aW [] w' := by
 by_cases hsc : a / 2147483648 % 2 = 1
 · exact se w ha0 ha1 hb0 hb1 hsc
 · cases big
   · exact sf w ha0 ha1 hb0 hb1 hsc
   · exact si w ha0 ha1 hb0 hb1 hsc
theorem jU (w : World) :
 Calls Tryd.prog 38 #[.bool true] w fun e w' => e = .returned (.i64 8) ∧ St w aW [] w' := by
 refine a5 (args := [.bool true]) Tryd.func38 rfl rfl rfl ?_
 have H0 := St.nil w aW
 refine sr (ai 0 rfl (wn (ad (sr (mv (.bool true) rfl (wn (ay rfl (sr (ai 8 rfl (wn (rq ?_)))))))))))
 exact ⟨.inr rfl, _, r1 (.i64 8) rfl _ _, ⟨rfl, H0⟩⟩
theorem jg (w : World) :
 Calls Tryd.prog 38 #[.bool false] w fun e w' => e = .returned (.i64 4) ∧ St w aW [] w' := by
 refine a5 (args := [.bool false]) Tryd.func38 rfl rfl rfl ?_
 have H0 := St.nil w aW
 refine sr (ai 0 rfl (wn (ad (sr (mv (.bool false) rfl (wn (aj rfl (wk (sr (ai 4 rfl (wn ?_)))))))))))
 refine aQ ?_
 exact ⟨.inr rfl, _, r1 (.i64 4) rfl _ _, ⟨rfl, H0⟩⟩
end Go.Proofs.YtlndedfkgiafhaaDoor
namespace Go.Proofs.YtlndedfkgiafhaaDoor
open Go Go.RowKit Go.Proofs
theorem uz : Tryd.prog.underlying 59 = some (.slice 3) := by kernel_rfl
theorem TB3 : (Tryd.prog.info? 3).map (fun i => (i.zero, i.size, i.bytes)) = some (some (.i64 0), 1, 8) := by kernel_rfl
theorem dQ {n : Nat} (w : World) (hn : n ≤ 1000) :
 Calls Tryd.prog 23 #[.i64 ↑n] w fun e w' => ∃ (A : Option Addr) (c : Nat), e = .returned (.slice A n c) ∧ St w aW [aH 3 1 (.slice A n c) n (nums .i64 (List.replicate n 4))] w' := by
 refine a5 (args := [.i64 (↑n)]) Tryd.func23 rfl rfl rfl ?_
 have H0 := St.nil w aW
 refine sr (av (.ns) rfl (wn (sr (wm rfl (eb H0 3 [] rfl (by kernel_rfl) (fun g1 w2 hgg1 H3 =>  eh g1 0 0 0 rfl (wn (ad (sr (mi (↑n) rfl (mi 0 rfl ?_)))))))))))
 refine wn (aC ?_)
 have H5 : St w aW [aH 3 1 (.sl g1 0 0 0) 0 (nums .i64 (List.replicate 0 4))] w2 := H3.rowOf (i := 0) (cap := 0) rfl rfl (by simp [maxLen])
 refine bW (fun ρ w' => ∃ i : Nat, ∃ Av : Option Addr, ∃ cv : Nat, ρ 3 = .slice Av i cv ∧ ρ 5 = .i64 ↑n ∧ ρ 6 = .i64 ↑i ∧ i ≤ n ∧ St w aW [aH 3 1 (.slice Av i cv) i (nums .i64 (List.replicate i 4))] w') (fun ρ _ => n + 1 - nv (ρ 6)) (⟨0, _, _, rfl, rfl, rfl, by omega, H5⟩) ?_
 rintro ρ w1 ⟨i, Av, cv, h3, h5, h6, hi, H1⟩
 refine sr (wv rfl (cx h6 h5) (wn (ad ?_)))
 refine cf rfl (fun hb4 => ?_) (fun hb4 => ?_)
 ·
  simp only [bx] at hb4
  refine wk (ad (aC (ae (mg h3 rfl (wm rfl (eb H1 3 [.i64 4] rfl (by kernel_rfl) (fun g5 w6 hgg5 H7 =>  wm rfl (bR H7 1 (m := 1) (news := [.i64 4]) rfl uz TB3 rfl (by decide) rfl rfl rfl (H7.news (i := 0) rfl) (by simp [Value.oneCell']) (by simp only [maxLen]; omega) (by omega) (fun v8 w9 H10 =>  ?_)))))))))
  obtain ⟨A11, c12, rfl, _, _⟩ := aw (H10.g 1 rfl)
  refine av (.slice A11 (i + 1) c12) rfl (bl (ao (ac (ae (wv rfl (aT (k := .i64) (c := ↑i + 1) h6 rfl (aE (by omega) (by omega))) (mi (↑i + 1) rfl (wn ?_)))))))
  have e4 : nums .i64 (List.replicate i 4) ++ [.i64 4] = nums .i64 (List.replicate (i + 1) 4) := by simp [nums, List.replicate_succ']
  rw [e4] at H10
  exact ⟨⟨i + 1, _, _, rfl, h5, rfl, by omega, H10.re [1]⟩, by show n + 1 - nv (.i64 (↑i + 1)) < n + 1 - nv (ρ 6); rw [h6]; simp only [nv]; omega⟩
 ·
  simp only [bx] at hb4
  refine bF (a8 (a8 (aY (ac (sr (mg h3 rfl (av (.slice Av i cv) rfl (wn (aQ ?_)))))))))
  exact ⟨.inr rfl, _, r1 (.slice Av i cv) rfl _ _, ⟨_, _, by rw [show i = n by omega], by rw [show i = n by omega] at H1; exact H1⟩⟩
end Go.Proofs.YtlndedfkgiafhaaDoor
namespace Go.Proofs.YtlndedfkgiafhaaDoor
open Go Go.RowKit Go.Proofs
theorem sF : aX Tryd.prog 38 := aJ (by kernel_rfl)
theorem kg : aX Tryd.prog 23 := aJ (by kernel_rfl)
theorem eM (w : World) :
 Calls Tryd.prog 16 #[.bool true] w fun e w' => ∃ (A : Option Addr) (n c : Nat) (D : Res), e = .returned (.slice A n c) ∧ n ≤ c ∧ St w aW [D] w' ∧ ∀ w, D.φ w → RI .i64 w A n [4, 4, -16, 8, 8, 8, 8, 4, 4, 4, 4] := by
 refine a5 (args := [.bool true]) Tryd.func16 rfl rfl rfl ?_
 have H0 := St.nil w aW
 refine sr (av (.ns) rfl (wn (sr (mv (.bool true) rfl (wE [.bool true] sF rfl rfl (aa (jU _) ?_))))))
 rintro e w2 ⟨rfl, HS1⟩
 have H3 := H0.cal0 HS1
 refine ⟨_, rfl, ?_⟩
 refine ai 8 rfl (wn (sr (mi 8 rfl (mi 8 rfl (mi 8 rfl (mi 8 rfl (wm rfl (eb H3 3 [.i64 4, .i64 4, .i64 (-16), .i64 8, .i64 8, .i64 8, .i64 8, .i64 4, .i64 4, .i64 4, .i64 4] rfl (by kernel_rfl) (fun g4 w5 hgg4 H6 =>  eh g4 0 11 11 rfl (wn (aQ ?_)))))))))))
 exact ⟨.inr rfl, _, r1 (.sl g4 0 11 11) rfl _ _, ⟨_, _, _, aq g4 (nums .i64 [4, 4, -16, 8, 8, 8, 8, 4, 4, 4, 4]) 3, rfl, Nat.le_refl _, H6.re [0], fun w h => ak h rfl⟩⟩
theorem eu (w : World) :
 Calls Tryd.prog 16 #[.bool false] w fun e w' => ∃ (A : Option Addr) (n c : Nat) (D : Res), e = .returned (.slice A n c) ∧ n ≤ c ∧ St w aW [D] w' ∧ ∀ w, D.φ w → RI .i64 w A n [4, 4, -16, 4, 4, 4, 4, 4, 4, 4, 4] := by
 refine a5 (args := [.bool false]) Tryd.func16 rfl rfl rfl ?_
 have H0 := St.nil w aW
 refine sr (av (.ns) rfl (wn (sr (mv (.bool false) rfl (wE [.bool false] sF rfl rfl (aa (jg _) ?_))))))
 rintro e w2 ⟨rfl, HS1⟩
 have H3 := H0.cal0 HS1
 refine ⟨_, rfl, ?_⟩
 refine ai 4 rfl (wn (sr (mi 4 rfl (mi 4 rfl (mi 4 rfl (mi 4 rfl (wm rfl (eb H3 3 [.i64 4, .i64 4, .i64 (-16), .i64 4, .i64 4, .i64 4, .i64 4, .i64 4, .i64 4, .i64 4, .i64 4] rfl (by kernel_rfl) (fun g4 w5 hgg4 H6 =>  eh g4 0 11 11 rfl (wn (aQ ?_)))))))))))
 exact ⟨.inr rfl, _, r1 (.sl g4 0 11 11) rfl _ _, ⟨_, _, _, aq g4 (nums .i64 [4, 4, -16, 4, 4, 4, 4, 4, 4, 4, 4]) 3, rfl, Nat.le_refl _, H6.re [0], fun w h => ak h rfl⟩⟩
theorem fv (w : World) :
 Calls Tryd.prog 22 #[.bool true] w fun e w' => ∃ (A : Option Addr) (n c : Nat) (D : Res), e = .returned (.slice A n c) ∧ n ≤ c ∧ St w aW [D] w' ∧ ∀ w, D.φ w → RI .i64 w A n [4, 1, 1, 2, 8] := by
 refine a5 (args := [.bool true]) Tryd.func22 rfl rfl rfl ?_
 have H0 := St.nil w aW
 refine sr (av (.ns) rfl (wn (sr (mv (.bool true) rfl (wE [.bool true] sF rfl rfl (aa (jU _) ?_))))))
 rintro e w2 ⟨rfl, HS1⟩
 have H3 := H0.cal0 HS1
 refine ⟨_, rfl, ?_⟩
 refine wm rfl (eb H3 3 [.i64 4, .i64 1, .i64 1, .i64 2, .i64 8] rfl (by kernel_rfl) (fun g4 w5 hgg4 H6 =>  eh g4 0 5 5 rfl (wn (aQ ?_))))
 exact ⟨.inr rfl, _, r1 (.sl g4 0 5 5) rfl _ _, ⟨_, _, _, aq g4 (nums .i64 [4, 1, 1, 2, 8]) 3, rfl, Nat.le_refl _, H6.re [0], fun w h => ak h rfl⟩⟩
theorem eZ (w : World) :
 Calls Tryd.prog 22 #[.bool false] w fun e w' => ∃ (A : Option Addr) (n c : Nat) (D : Res), e = .returned (.slice A n c) ∧ n ≤ c ∧ St w aW [D] w' ∧ ∀ w, D.φ w → RI .i64 w A n [4, 1, 1, 2, 4] := by
 refine a5 (args := [.bool false]) Tryd.func22 rfl rfl rfl ?_
 have H0 := St.nil w aW
 refine sr (av (.ns) rfl (wn (sr (mv (.bool false) rfl (wE [.bool false] sF rfl rfl (aa (jg _) ?_))))))
 rintro e w2 ⟨rfl, HS1⟩
 have H3 := H0.cal0 HS1
 refine ⟨_, rfl, ?_⟩
 refine wm rfl (eb H3 3 [.i64 4, .i64 1, .i64 1, .i64 2, .i64 4] rfl (by kernel_rfl) (fun g4 w5 hgg4 H6 =>  eh g4 0 5 5 rfl (wn (aQ ?_))))
 exact ⟨.inr rfl, _, r1 (.sl g4 0 5 5) rfl _ _, ⟨_, _, _, aq g4 (nums .i64 [4, 1, 1, 2, 4]) 3, rfl, Nat.le_refl _, H6.re [0], fun w h => ak h rfl⟩⟩
theorem lW (w : World) :
 Calls Tryd.prog 27 #[] w fun e w' => ∃ (A : Option Addr) (n c : Nat) (D : Res), e = .returned (.slice A n c) ∧ n ≤ c ∧ St w aW [D] w' ∧ ∀ w, D.φ w → RI .i64 w A n (List.replicate 7 4) := by
 refine a5 (args := []) Tryd.func27 rfl rfl rfl ?_
 have H0 := St.nil w aW
 refine sr (av (.ns) rfl (wn (sr (wE [.i64 7] kg rfl rfl (aa (dQ (n := 7) _ (by omega)) ?_)))))
 rintro e w2 ⟨A, c, rfl, HS1⟩
 have H3 := H0.cal0 HS1
 refine ⟨_, rfl, ?_⟩
 refine av (.slice A 7 c) rfl (wn (aQ ?_))
 exact ⟨.inr rfl, _, r1 (.slice A 7 c) rfl _ _, ⟨_, _, _, aH 3 1 (.slice A 7 c) 7 (nums .i64 (List.replicate 7 4)), rfl, by obtain ⟨_, _, e, _, h⟩ := aw (H3.g 0 rfl); injection e with _ _ e; omega, H3, fun w h => ce h⟩⟩
end Go.Proofs.YtlndedfkgiafhaaDoor
namespace Go.Proofs.YtlndedfkgiafhaaDoor
open Go Go.RowKit Go.Proofs
theorem eO (w : World) :
 Calls Tryd.prog 17 #[.bool true] w fun e w' => ∃ (A : Option Addr) (n c : Nat) (D : Res), e = .returned (.slice A n c) ∧ n ≤ c ∧ St w aW [D] w' ∧ ∀ w, D.φ w → RI .i64 w A n [-16, -16, 8, 8, 4, 4, 4, 4, 4, 4, 4, 4] := by
 refine a5 (args := [.bool true]) Tryd.func17 rfl rfl rfl ?_
 have H0 := St.nil w aW
 refine sr (av (.ns) rfl (wn (sr (mv (.bool true) rfl (wE [.bool true] sF rfl rfl (aa (jU _) ?_))))))
 rintro e w2 ⟨rfl, HS1⟩
 have H3 := H0.cal0 HS1
 refine ⟨_, rfl, ?_⟩
 refine ai 8 rfl (wn (sr (mi 8 rfl (mi 8 rfl (wm rfl (eb H3 3 [.i64 (-16), .i64 (-16), .i64 8, .i64 8] rfl (by kernel_rfl) (fun g4 w5 hgg4 H6 =>  wE [.i64 7] kg rfl rfl (aa (dQ (n := 7) _ (by omega)) ?_))))))))
 rintro e w8 ⟨A4, c4, rfl, HS7⟩
 obtain ⟨A5, c5, e5, hv5, _⟩ := aw (HS7.g 0 rfl)
 injection e5 with e5 _ e6; subst e5; subst e6; obtain ⟨g5, o5, rfl, _⟩ := hv5.2 (by decide)
 have H9 := H6.cal0 HS7
 refine ⟨_, rfl, ?_⟩
 refine wm rfl ?_
 have H50 : St w aW [aH 3 1 (.sl g4 0 4 4) 4 [.i64 (-16), .i64 (-16), .i64 8, .i64 8], aH 3 1 (.sl g5 o5 7 c4) 7 (nums .i64 (List.replicate 7 4))] w8 := (H9.rowFull (i := 1) (n := 4) (sz := 1) rfl rfl (by simp [maxLen])).re [1, 0]
 refine bR H50 0 (m := 7) (news := nums .i64 (List.replicate 7 4)) rfl uz TB3 rfl (by decide) rfl rfl rfl ((aw (H50.g 1 rfl)).elim fun _ h => h.elim fun _ h => by obtain ⟨e7, h7, _⟩ := h; injection e7 with e7 _ _; exact h7.news e7.symm) fj (by simp only [maxLen]; omega) (by omega) (fun v w51 H51 =>  ?_)
 obtain ⟨A8, c8, rfl, _, _⟩ := aw (H51.g 0 rfl)
 refine av (.slice A8 (4 + 7) c8) rfl (wn (ad (sr (mv (.bool true) rfl (wn (ay rfl (ae (mv (.slice A8 (4 + 7) c8) rfl (wm rfl (eb H51 3 [.i64 4] rfl (by kernel_rfl) (fun g10 w11 hgg10 H12 =>  wm rfl ?_)))))))))))
 refine bR H12 1 (m := 1) (news := [.i64 4]) rfl uz TB3 rfl (by decide) rfl rfl rfl (H12.news (i := 0) rfl) (by simp [Value.oneCell']) (by simp only [maxLen]; omega) (by omega) (fun v13 w14 H15 =>  ?_)
 obtain ⟨A16, c17, rfl, _, _⟩ := aw (H15.g 1 rfl)
 refine av (.slice A16 (4 + 7 + 1) c17) rfl (wn (sr (mv (.slice A16 (4 + 7 + 1) c17) rfl (av (.slice A16 (4 + 7 + 1) c17) rfl (wn (aQ ?_))))))
 exact ⟨.inr rfl, _, r1 (.slice A16 (4 + 7 + 1) c17) rfl _ _, ⟨_, _, _, aH 3 1 (.slice A16 (4 + 7 + 1) c17) (4 + 7 + 1) (([.i64 (-16), .i64 (-16), .i64 8, .i64 8] ++ nums .i64 (List.replicate 7 4)) ++ [.i64 4]), rfl, by obtain ⟨_, _, e, _, h⟩ := aw (H15.g 1 rfl); cases e; exact h, H15.re [1], fun w h => ce (xs := [-16, -16, 8, 8, 4, 4, 4, 4, 4, 4, 4, 4]) h⟩⟩
theorem ew (w : World) :
 Calls Tryd.prog 17 #[.bool false] w fun e w' => ∃ (A : Option Addr) (n c : Nat) (D : Res), e = .returned (.slice A n c) ∧ n ≤ c ∧ St w aW [D] w' ∧ ∀ w, D.φ w → RI .i64 w A n [-16, -16, 4, 4, 4, 4, 4, 4, 4, 4, 4] := by
 refine a5 (args := [.bool false]) Tryd.func17 rfl rfl rfl ?_
 have H0 := St.nil w aW
 refine sr (av (.ns) rfl (wn (sr (mv (.bool false) rfl (wE [.bool false] sF rfl rfl (aa (jg _) ?_))))))
 rintro e w2 ⟨rfl, HS1⟩
 have H3 := H0.cal0 HS1
 refine ⟨_, rfl, ?_⟩
 refine ai 4 rfl (wn (sr (mi 4 rfl (mi 4 rfl (wm rfl (eb H3 3 [.i64 (-16), .i64 (-16), .i64 4, .i64 4] rfl (by kernel_rfl) (fun g4 w5 hgg4 H6 =>  wE [.i64 7] kg rfl rfl (aa (dQ (n := 7) _ (by omega)) ?_))))))))
 rintro e w8 ⟨A4, c4, rfl, HS7⟩
 obtain ⟨A5, c5, e5, hv5, _⟩ := aw (HS7.g 0 rfl)
 injection e5 with e5 _ e6; subst e5; subst e6; obtain ⟨g5, o5, rfl, _⟩ := hv5.2 (by decide)
 have H9 := H6.cal0 HS7
 refine ⟨_, rfl, ?_⟩
 refine wm rfl ?_
 have H50 : St w aW [aH 3 1 (.sl g4 0 4 4) 4 [.i64 (-16), .i64 (-16), .i64 4, .i64 4], aH 3 1 (.sl g5 o5 7 c4) 7 (nums .i64 (List.replicate 7 4))] w8 := (H9.rowFull (i := 1) (n := 4) (sz := 1) rfl rfl (by simp [maxLen])).re [1, 0]
 refine bR H50 0 (m := 7) (news := nums .i64 (List.replicate 7 4)) rfl uz TB3 rfl (by decide) rfl rfl rfl ((aw (H50.g 1 rfl)).elim fun _ h => h.elim fun _ h => by obtain ⟨e7, h7, _⟩ := h; injection e7 with e7 _ _; exact h7.news e7.symm) fj (by simp only [maxLen]; omega) (by omega) (fun v w51 H51 =>  ?_)
 obtain ⟨A8, c8, rfl, _, _⟩ := aw (H51.g 0 rfl)
 refine av (.slice A8 (4 + 7) c8) rfl (wn (ad (sr (mv (.bool false) rfl (wn (aj rfl (wk (sr (mv (.slice A8 (4 + 7) c8) rfl (av (.slice A8 (4 + 7) c8) rfl (wn ?_)))))))))))
 refine aQ ?_
 exact ⟨.inr rfl, _, r1 (.slice A8 (4 + 7) c8) rfl _ _, ⟨_, _, _, aH 3 1 (.slice A8 (4 + 7) c8) (4 + 7) ([.i64 (-16), .i64 (-16), .i64 4, .i64 4] ++ nums .i64 (List.replicate 7 4)), rfl, by obtain ⟨_, _, e, _, h⟩ := aw (H51.g 0 rfl); cases e; exact h, H51.re [0], fun w h => ce (xs := [-16, -16, 4, 4, 4, 4, 4, 4, 4, 4, 4]) h⟩⟩
end Go.Proofs.YtlndedfkgiafhaaDoor
