import Derived.WalkKit
import Derived.KernelRfl
import Derived.Deep.Draws
import Derived.Deep.RegionHeld3
import Derived.WideLaws
import Derived.Laws.Cells
import Derived.Laws.StructEq
import Derived.Maps.AppendAt
import Derived.Laws.CopyRow
import Derived.Laws.MakeOwn
import Derived.Laws.BytesArg
import Derived.Laws.StandIn
import Derived.Laws.Tables
import Derived.LaidEqlPtr
import Derived.Lib.BytesEntry
import Derived.Laws.OwnMore
import Derived.Laws.ResultCell
import Derived.Laws.Rows
import Derived.Test.YtlndedfkgiafhaaDoorProg
import Derived.Laws.RangeAny
import Derived.ProofKit
import Derived.LaidMore
import Derived.OpenShut
import Derived.Stop.Joined
import Derived.Stop.LaidErr
import Derived.SevenTiedAt
import Derived.Carry
import Derived.MakeChecks
set_option linter.unusedVariables false
set_option linter.unusedSimpArgs false
set_option maxRecDepth 100000
set_option maxHeartbeats 4000000
namespace Go.Proofs.YtlndedfkgiafhaaDoor
open Go
abbrev cF := Nat → Value
def iz (ρ : cF) (d : Nat) (v : Value) : cF := fun t => bif Nat.beq t d then v else ρ t
def ev (ρ : cF) : Operand → Value
 | .tmp t => ρ t
 | .const v => v
 | .global g => .pointer (some ⟨g, 0, none⟩)
 | .func f => .func (.func f) #[] #[]
def dM (ρ : cF) (d : Option Tmp) (v : Value) : cF := match d with
 | some d => iz ρ d v
 | none => ρ
structure Sim (n : Nat) (a : Act) (ρ : cF) : Prop where
 size : a.tmps.size = n
 defers : a.defers = []
 get : ∀ t, a.tmps.getD t undef = ρ t
theorem sN (ρ : cF) (d : Nat) (v : Value) : iz ρ d v d = v := by simp [iz]
theorem rC (ρ : cF) {t d : Nat} (v : Value) (h : t ≠ d) : iz ρ d v t = ρ t := by
 have : Nat.beq t d = false := by
  rw [Bool.eq_false_iff]; intro h'; exact h (Nat.eq_of_beq_eq_true h')
 simp [iz, this]
def fk (n : Nat) : Option Tmp → Bool
 | some d => Nat.blt d n
 | none => true
theorem Sim.eval {n : Nat} {a : Act} {ρ : cF} (h : Sim n a ρ) : a.eval = ev ρ := by
 funext x
 cases x with
 | tmp t => exact h.get t
 | _ => rfl
theorem Sim.put {n : Nat} {a : Act} {ρ : cF} (h : Sim n a ρ) {d : Option Tmp} (hd : fk n d = true) (v : Value) : Sim n (a.put d v) (dM ρ d v) := by
 cases d with
 | none => exact h
 | some d =>
  have hlt : d < a.tmps.size := by rw [h.size]; simpa [fk] using hd
  refine ⟨by simpa [Act.put] using h.size, h.defers, fun t => ?_⟩
  show (a.tmps.setIfInBounds d v).getD t undef = iz ρ d v t
  by_cases htd : t = d
  · subst htd
    rw [sN]
    simp [Array.getD_eq_getD_getElem?, Array.getElem?_setIfInBounds, hlt]
  · rw [rC ρ v htd, ← h.get t]
    simp [Array.getD_eq_getD_getElem?, Array.getElem?_setIfInBounds, Ne.symm htd]
abbrev QE := Exit → cF → World → Prop
def pk (n : Nat) (Q : QE) : Exit → Act → World → Prop := fun e a w => ∃ ρ, Sim n a ρ ∧ Q e ρ w
def W (P : Program) (n : Nat) (c : Code) (Q : QE) (ρ : cF) (w : World) : Prop := ∀ a, Sim n a ρ → c.wp P (pk n Q) a w
def gQ (K : cF → World → Prop) (Q : QE) : QE
 | .normal, ρ, w => K ρ w
 | e, ρ, w => Q e ρ w
def mx (id : Nat) (Q : QE) : QE
 | .exit id', ρ, w => if id' = id then Q .normal ρ w else Q (.exit id') ρ w
 | e, ρ, w => Q e ρ w
section
variable {P : Program} {n : Nat} {Q : QE} {ρ : cF} {w : World}
theorem tu {c : Code} {Q' : QE} (h : W P n c Q ρ w) (hq : ∀ e ρ w, Q e ρ w → Q' e ρ w) : W P n c Q' ρ w :=
 fun a ha => wp_mono (h a ha) fun e a w ⟨ρ, hs, hq'⟩ => ⟨ρ, hs, hq _ _ _ hq'⟩
theorem ad {x y : Code} (h : W P n x (gQ (W P n y Q) Q) ρ w) : W P n (.seq x y) Q ρ w := fun a ha =>
 wp_seq (wp_mono (h a ha) fun e a w ⟨ρ, hs, hq⟩ => by
  cases e <;> first | exact hq a hs | exact ⟨ρ, hs, hq⟩)
theorem cG (h : Q .normal ρ w) : W P n .skip Q ρ w := fun _ ha => wp_skip ⟨ρ, ha, h⟩
theorem aQ (h : Q .ret ρ w) : W P n .ret Q ρ w := fun _ ha => wp_ret ⟨ρ, ha, h⟩
theorem bF {id : Nat} (h : Q (.exit id) ρ w) : W P n (.exit id) Q ρ w := fun _ ha => wp_exit ⟨ρ, ha, h⟩
theorem ay {c : Operand} {x y : Code} (hc : ev ρ c = .bool true) (h : W P n x Q ρ w) : W P n (.cond c x y) Q ρ w :=
 fun a ha => wp_cond_true (by rw [ha.eval]; exact hc) (h a ha)
theorem aj {c : Operand} {x y : Code} (hc : ev ρ c = .bool false) (h : W P n y Q ρ w) : W P n (.cond c x y) Q ρ w :=
 fun a ha => wp_cond_false (by rw [ha.eval]; exact hc) (h a ha)
theorem cf {c : Operand} {x y : Code} {t : Bool} (hc : ev ρ c = .bool t) (ht : t = true → W P n x Q ρ w) (hf : t = false → W P n y Q ρ w) : W P n (.cond c x y) Q ρ w := by
 cases t
 · exact aj hc (hf rfl)
 · exact ay hc (ht rfl)
theorem aC {id : Nat} {c : Code} (h : W P n c (mx id Q) ρ w) : W P n (.block id c) Q ρ w := fun a ha =>
 wp_block (wp_mono (h a ha) fun e a w ⟨ρ, hs, hq⟩ => by
  cases e with
  | exit id' =>
   simp only [mx] at hq
   simp only [Exit.inBlock]
   split
   · rename_i hid; rw [if_pos hid] at hq; exact ⟨ρ, hs, hq⟩
   · rename_i hid; rw [if_neg hid] at hq; exact ⟨ρ, hs, hq⟩
  | _ => exact ⟨ρ, hs, hq⟩)
theorem bW {c : Code} (I : cF → World → Prop) (μ : cF → World → Nat) (h₀ : I ρ w)
 (round : ∀ ρ w, I ρ w → W P n c (gQ (fun ρ' w' => I ρ' w' ∧ μ ρ' w' < μ ρ w) Q) ρ w) : W P n (.loop c) Q ρ w := by
 intro a ha
 let en : Act → cF := fun a t => a.tmps.getD t undef
 have hen : ∀ {a : Act} {ρ : cF}, Sim n a ρ → en a = ρ := fun h => funext h.get
 refine wp_loop (fun a w => Sim n a (en a) ∧ I (en a) w) (fun a w => μ (en a) w) ⟨by rw [hen ha]; exact ha, by rw [hen ha]; exact h₀⟩ ?_
 rintro a w ⟨hs, hI⟩
 refine wp_mono (round _ w hI a hs) fun e a' w' ⟨ρ', hs', hq⟩ => ?_
 cases e with
 | normal => exact ⟨⟨by rw [hen hs']; exact hs', by rw [hen hs']; exact hq.1⟩, by rw [hen hs']; exact hq.2⟩
 | _ => exact ⟨ρ', hs', hq⟩
theorem fm {x y : Code} (Mid : cF → World → Prop) (h : W P n x (gQ Mid Q) ρ w) (k : ∀ ρ w, Mid ρ w → W P n y Q ρ w) : W P n (.seq x y) Q ρ w :=
 ad (tu h fun e ρ w hq => by cases e <;> first | exact k _ _ hq | exact hq)
def vR (args : List Value) : cF := fun t => args.getD t undef
theorem pw {f : FuncId} {fn : Func} {c : Code} {args : Array Value} {R : Ending → World → Prop} (hf : P.funcs[f]? = some fn) (hb : fn.body = some c) (hn : args.size ≤ fn.ntmps)
 (h : W P fn.ntmps c (fun e ρ w' => (e = .normal ∨ e = .ret) ∧ ∃ v, (∀ tmps : Array Value, (∀ t, tmps.getD t undef = ρ t) → (results fn tmps).run P w' = .ok v w') ∧ R (.returned v) w') (vR args.toList) w) : Calls P f args w R := by
 refine calls_of_wp hf hb (wp_mono (h _ ⟨?_, rfl, fun t => ?_⟩) ?_)
 · simp; omega
 · simp only [vR, List.getD_eq_getElem?_getD, Array.getElem?_toList]
   rw [Array.getD_eq_getD_getElem?, Array.getElem?_append]
   split
   · rfl
   · rename_i h1
     rw [Array.getElem?_eq_none (Nat.le_of_not_lt h1), Array.getElem?_replicate]
     split <;> rfl
 · rintro e a w' ⟨ρ', hs, he, v, hr, hR⟩
   rcases he with rfl | rfl
   · exact ⟨hs.defers, v, hr _ hs.get, hR⟩
   · exact ⟨hs.defers, v, hr _ hs.get, hR⟩
theorem res1 {fn : Func} {t : Tmp} (h : fn.results = #[.tmp t]) {ρ : cF} {v : Value} (hv : ρ t = v) (P : Program) (w : World) :
 ∀ tmps : Array Value, (∀ t, tmps.getD t undef = ρ t) → (results fn tmps).run P w = .ok v w := fun tmps ht => by
 rw [results_tmp h, ht, hv]
theorem res2 {fn : Func} {t u : Tmp} (h : fn.results = #[.tmp t, .tmp u]) {ρ : cF} {v v' : Value} (hv : ρ t = v) (hv' : ρ u = v') (P : Program) (w : World) :
 ∀ tmps : Array Value, (∀ t, tmps.getD t undef = ρ t) → (results fn tmps).run P w = .ok (.tuple #[v, v']) w := fun tmps ht => by
 rw [results_tmp2 h, ht, ht, hv, hv']
end
def WL (P : Program) (n : Nat) (ops : Array Oper) (l : List Oper) (Q : QE) (ρ : cF) (w : World) : Prop := ∀ a, Sim n a ρ → wpList P ops (pk n Q) l a w
def Yv (P : Program) (o : Oper) (ρ : cF) (w : World) (v : Value) (w' : World) : Prop := (execOp (ev ρ) o).run P w = .ok (.value v) w'
def Yn (P : Program) (o : Oper) (ρ : cF) (w w' : World) : Prop := (execOp (ev ρ) o).run P w = .ok .skip w'
def Ye (P : Program) (o : Oper) (ρ : cF) (w : World) (f : FuncId) (args : Array Value) (w' : World) : Prop := (execOp (ev ρ) o).run P w = .ok (.enter f args) w'
def la (ops : Array Oper) (ρ : cF) (n : Nat) (j : Nat) : Option Bool :=
 match (ops[j]?).bind (·.dst) with
 | some d => if d < n then (match ρ d with | .bool b => some b | _ => none) else none
 | none => none
theorem Sim.yielded {n : Nat} {a : Act} {ρ : cF} (h : Sim n a ρ) (ops : Array Oper) (j : Nat) : yielded ops a.tmps j = la ops ρ n j := by
 unfold Go.yielded la
 cases hd : (ops[j]?).bind (·.dst) with
 | none => rfl
 | some d =>
  simp only [Option.bind_some]
  by_cases hlt : d < n
  · rw [if_pos hlt]
    have hlt' : d < a.tmps.size := by rw [h.size]; exact hlt
    have := h.get d
    rw [Array.getD_eq_getD_getElem?, Array.getElem?_eq_getElem hlt'] at this
    simp only [Option.getD_some] at this
    rw [Array.getElem?_eq_getElem hlt', this]
    cases ρ d <;> rfl
  · rw [if_neg hlt]
    have : a.tmps[d]? = none := Array.getElem?_eq_none (by rw [h.size]; exact Nat.le_of_not_lt hlt)
    rw [this]
def cX (o : Oper) (ops : Array Oper) (ρ : cF) (n : Nat) : Bool := match o.guard with
 | none => true
 | some (j, want) => la ops ρ n j == some want
theorem Sim.want {n : Nat} {a : Act} {ρ : cF} (h : Sim n a ρ) (o : Oper) (ops : Array Oper) : Region.wanted o (Go.yielded ops a.tmps) = cX o ops ρ n := by
 unfold Region.wanted cX
 cases o.guard with
 | none => rfl
 | some p => obtain ⟨j, want⟩ := p; simp only [h.yielded]
section
variable {P : Program} {n : Nat} {Q : QE} {ρ : cF} {w : World} {ops : Array Oper} {l : List Oper} {o : Oper}
theorem ae {id : Nat} {l : List Oper} (h : WL P n l.toArray l Q ρ w) : W P n (.region id l.toArray false) Q ρ w :=
 fun a ha => wp_region_lit (h a ha)
theorem bl (h : Q .normal ρ w) : WL P n ops [] Q ρ w := fun _ ha => wpList_nil ⟨ρ, ha, h⟩
theorem tv {v : Value} {w' : World} (hw : cX o ops ρ n = true) (hd : fk n o.dst = true) (hy : Yv P o ρ w v w') (h : WL P n ops l Q (dM ρ o.dst v) w') : WL P n ops (o :: l) Q ρ w := fun a ha => by
 unfold wpList
 rw [if_pos (by rw [ha.want]; exact hw)]
 refine .inl ?_
 unfold Oper.wp
 rw [ha.eval, hy]
 exact h _ (ha.put hd v)
theorem WL_n' {w' : World} (hw : cX o ops ρ n = true) (hd : fk n o.dst = true) (hy : Yn P o ρ w w') (h : WL P n ops l Q (dM ρ o.dst undef) w') : WL P n ops (o :: l) Q ρ w := fun a ha => by
 unfold wpList
 rw [if_pos (by rw [ha.want]; exact hw)]
 refine .inl ?_
 unfold Oper.wp
 rw [ha.eval, hy]
 exact h _ (ha.put hd undef)
theorem WL_e' {f : FuncId} {args : Array Value} {w' : World} (hw : cX o ops ρ n = true) (hd : fk n o.dst = true) (hy : Ye P o ρ w f args w')
 (h : Calls P f args w' fun e w'' => ∃ v, e = .returned v ∧ WL P n ops l Q (dM ρ o.dst v) w'') : WL P n ops (o :: l) Q ρ w := fun a ha => by
 unfold wpList
 rw [if_pos (by rw [ha.want]; exact hw)]
 refine .inl ?_
 unfold Oper.wp
 rw [ha.eval, hy]
 refine Calls.mono h fun e w'' he => ?_
 obtain ⟨v, rfl, hk⟩ := he
 exact hk _ (ha.put hd v)
theorem WL_v {v : Value} {w' : World} (hg : o.guard = none) (hd : fk n o.dst = true) (hy : Yv P o ρ w v w') (h : WL P n ops l Q (dM ρ o.dst v) w') : WL P n ops (o :: l) Q ρ w :=
 tv (by unfold cX; rw [hg]) hd hy h
theorem WL_no (hw : cX o ops ρ n = false) (hd : fk n o.dst = true) (h : WL P n ops l Q (dM ρ o.dst undef) w) : WL P n ops (o :: l) Q ρ w := fun a ha => by
 unfold wpList
 rw [if_neg (by rw [ha.want, hw]; simp)]
 exact h _ (ha.put hd undef)
end
inductive Plan where
 | done
 | take (i : Nat) (p : Plan)
 | run (i : Nat) (p : Plan)
 | run2 (i : Nat) (p : Plan) (j : Nat) (q : Plan)
 | run3 (i : Nat) (p : Plan) (j : Nat) (q : Plan) (k : Nat) (r : Plan)
def Plan.depth : Plan → Nat
 | .done => 0
 | .take _ p | .run _ p => p.depth + 1
 | .run2 _ p _ q => max p.depth q.depth + 1
 | .run3 _ p _ q _ r => max p.depth (max q.depth r.depth) + 1
def Plan.ok (ops : Array Oper) : Plan → Array Bool → Bool
 | .done, l => Region.ready .any ops l == []
 | .take i p, l => Region.free .any ops l i && (Region.ready .any ops l).contains i && p.ok ops (l.setIfInBounds i true)
 | .run i p, l => Region.ready .any ops l == [i] && p.ok ops (l.setIfInBounds i true)
 | .run2 i p j q, l => Region.ready .any ops l == [i, j] && p.ok ops (l.setIfInBounds i true) && q.ok ops (l.setIfInBounds j true)
 | .run3 i p j q k r, l => Region.ready .any ops l == [i, j, k] && p.ok ops (l.setIfInBounds i true) && q.ok ops (l.setIfInBounds j true) && r.ok ops (l.setIfInBounds k true)
def Plan.check (n : Nat) (ops : Array Oper) (p : Plan) : Bool :=
 Region.noSelect ops && p.ok ops (Array.replicate ops.size false) && Nat.ble p.depth ops.size && ops.all fun o => fk n o.dst
def n6 (P : Program) (n : Nat) (ops : Array Oper) (i : Nat) (K : cF → World → Prop) (ρ : cF) (w : World) : Prop :=
 ∃ o, ops[i]? = some o ∧ ((cX o ops ρ n = true ∧
  ((∃ v w', Yv P o ρ w v w' ∧ K (dM ρ o.dst v) w') ∨ (∃ w', Yn P o ρ w w' ∧ K (dM ρ o.dst undef) w') ∨
   (∃ f args w', Ye P o ρ w f args w' ∧ Calls P f args w' fun e w'' => ∃ v, e = .returned v ∧ K (dM ρ o.dst v) w''))) ∨
  (cX o ops ρ n = false ∧ K (dM ρ o.dst undef) w))
def PW (P : Program) (n : Nat) (ops : Array Oper) (Q : QE) (S : World → Prop) : Plan → cF → World → Prop
 | .done, ρ, w => Q .normal ρ w
 | .take i p, ρ, w => S w ∧ ∃ o v, ops[i]? = some o ∧ ((cX o ops ρ n = true ∧ ∀ w, S w → Yv P o ρ w v w) ∨ (cX o ops ρ n = false ∧ v = undef)) ∧ PW P n ops Q S p (dM ρ o.dst v) w
 | .run i p, ρ, w => n6 P n ops i (fun ρ' w' => S w' ∧ PW P n ops Q S p ρ' w') ρ w
 | .run2 i p j q, ρ, w => n6 P n ops i (fun ρ' w' => S w' ∧ PW P n ops Q S p ρ' w') ρ w ∧ n6 P n ops j (fun ρ' w' => S w' ∧ PW P n ops Q S q ρ' w') ρ w
 | .run3 i p j q k r, ρ, w => n6 P n ops i (fun ρ' w' => S w' ∧ PW P n ops Q S p ρ' w') ρ w ∧ n6 P n ops j (fun ρ' w' => S w' ∧ PW P n ops Q S q ρ' w') ρ w ∧
  n6 P n ops k (fun ρ' w' => S w' ∧ PW P n ops Q S r ρ' w') ρ w
section
variable {P : Program} {n : Nat} {Q : QE} {ρ : cF} {w : World} {ops : Array Oper} {o : Oper} {S : World → Prop}
theorem dO {i : Nat} {K : cF → World → Prop} {K' : Act → World → Prop} {Q' : Exit → Act → World → Prop} (hall : (ops.all fun o => fk n o.dst) = true) {a : Act} (ha : Sim n a ρ)
 (hK : ∀ a ρ w, Sim n a ρ → K ρ w → K' a w) (h : n6 P n ops i K ρ w) : wpOp P ops Q' i K' a w := by
 obtain ⟨o, ho, h⟩ := h
 have hd : fk n o.dst = true := by
  rw [Array.all_eq_true] at hall
  obtain ⟨hlt, he⟩ := Array.getElem?_eq_some_iff.1 ho
  have := hall i hlt
  rwa [he] at this
 unfold wpOp
 simp only [ho]
 rw [ha.want]
 rcases h with ⟨hw, h⟩ | ⟨hw, h⟩
 · rw [hw, if_pos rfl]
   refine .inl ?_
   unfold Oper.wp
   rw [ha.eval]
   rcases h with ⟨v, w', hy, hk⟩ | ⟨w', hy, hk⟩ | ⟨f, args, w', hy, hk⟩
   · rw [hy]; exact hK _ _ _ (ha.put hd v) hk
   · rw [hy]; exact hK _ _ _ (ha.put hd undef) hk
   · rw [hy]
     refine Calls.mono hk fun e w'' he => ?_
     obtain ⟨v, rfl, hk'⟩ := he
     exact hK _ _ _ (ha.put hd v) hk'
 · rw [hw, if_neg (by simp)]
   exact hK _ _ _ (ha.put hd undef) h
theorem ub (hs : Region.noSelect ops = true) (hall : (ops.all fun o => fk n o.dst) = true) :
 ∀ (p : Plan) (listed : Array Bool) (fuel : Nat) (ρ : cF) (w : World) (a : Act), p.ok ops listed = true → p.depth ≤ fuel → Sim n a ρ → PW P n ops Q S p ρ w → wpAnyH P .any ops (NoPanic (pk n Q)) S fuel listed a w := by
 intro p
 induction p with
 | done =>
  intro listed fuel ρ w a hok _ ha h
  exact wpAnyH_done (by simpa [Plan.ok] using hok) ⟨ρ, ha, h⟩ fuel
 | take i p ih =>
  intro listed fuel ρ w a hok hdep ha h
  obtain ⟨fuel, rfl⟩ : ∃ m, fuel = m + 1 := ⟨fuel - 1, by simp [Plan.depth] at hdep; omega⟩
  simp only [Plan.ok, Bool.and_eq_true] at hok
  obtain ⟨⟨hf, hr⟩, hok⟩ := hok
  obtain ⟨hS, o, v, ho, hy, hk⟩ := h
  have hd : fk n o.dst = true := by
   rw [Array.all_eq_true] at hall
   obtain ⟨hlt, he⟩ := Array.getElem?_eq_some_iff.1 ho
   have := hall i hlt
   rwa [he] at this
  refine wpAnyH_take ho hs hf hr (fun c a w h => h) ?_ hS (ih _ fuel _ w _ hok (by simp [Plan.depth] at hdep; omega) (ha.put hd v) hk)
  unfold YieldsIf
  rw [ha.want, ha.eval]
  exact hy
 | run i p ih =>
  intro listed fuel ρ w a hok hdep ha h
  obtain ⟨fuel, rfl⟩ : ∃ m, fuel = m + 1 := ⟨fuel - 1, by simp [Plan.depth] at hdep; omega⟩
  simp only [Plan.ok, Bool.and_eq_true, beq_iff_eq] at hok
  obtain ⟨hr, hok⟩ := hok
  refine wpAnyH_all hr (by simp) fun k hk => ?_
  obtain rfl : k = i := by simpa using hk
  exact dO hall ha (fun a ρ w hs h => ⟨h.1, ih _ fuel ρ w a hok (by simp [Plan.depth] at hdep; omega) hs h.2⟩) h
 | run2 i p j q ihp ihq =>
  intro listed fuel ρ w a hok hdep ha h
  obtain ⟨fuel, rfl⟩ : ∃ m, fuel = m + 1 := ⟨fuel - 1, by simp [Plan.depth] at hdep; omega⟩
  simp only [Plan.ok, Bool.and_eq_true, beq_iff_eq] at hok
  obtain ⟨⟨hr, hok1⟩, hok2⟩ := hok
  refine wpAnyH_all hr (by simp) fun k hk => ?_
  simp only [List.mem_cons, List.not_mem_nil, or_false] at hk
  rcases hk with rfl | rfl
  · exact dO hall ha (fun a ρ w hs h => ⟨h.1, ihp _ fuel ρ w a hok1 (by simp [Plan.depth] at hdep; omega) hs h.2⟩) h.1
  · exact dO hall ha (fun a ρ w hs h => ⟨h.1, ihq _ fuel ρ w a hok2 (by simp [Plan.depth] at hdep; omega) hs h.2⟩) h.2
 | run3 i p j q k r ihp ihq ihr =>
  intro listed fuel ρ w a hok hdep ha h
  obtain ⟨fuel, rfl⟩ : ∃ m, fuel = m + 1 := ⟨fuel - 1, by simp [Plan.depth] at hdep; omega⟩
  simp only [Plan.ok, Bool.and_eq_true, beq_iff_eq] at hok
  obtain ⟨⟨⟨hr, hok1⟩, hok2⟩, hok3⟩ := hok
  refine wpAnyH_all hr (by simp) fun x hx => ?_
  simp only [List.mem_cons, List.not_mem_nil, or_false] at hx
  rcases hx with rfl | rfl | rfl
  · exact dO hall ha (fun a ρ w hs h => ⟨h.1, ihp _ fuel ρ w a hok1 (by simp [Plan.depth] at hdep; omega) hs h.2⟩) h.1
  · exact dO hall ha (fun a ρ w hs h => ⟨h.1, ihq _ fuel ρ w a hok2 (by simp [Plan.depth] at hdep; omega) hs h.2⟩) h.2.1
  · exact dO hall ha (fun a ρ w hs h => ⟨h.1, ihr _ fuel ρ w a hok3 (by simp [Plan.depth] at hdep; omega) hs h.2⟩) h.2.2
theorem bC {id : Nat} (hm : P.follows .mixedOrders = true) (S : World → Prop) (p : Plan) (hc : Plan.check n ops p = true) (h : PW P n ops Q S p ρ w.drew) : W P n (.region id ops true) Q ρ w := fun a ha => by
 simp only [Plan.check, Bool.and_eq_true] at hc
 obtain ⟨⟨⟨h1, h2⟩, h3⟩, h4⟩ := hc
 exact wp_region_noPanic (wp_region_held hm (ub h1 h4 p _ ops.size ρ w.drew a h2 (Nat.le_of_ble_eq_true h3) ha h))
theorem bj (h : Q .normal ρ w) : PW P n ops Q S .done ρ w := h
theorem vm {i : Nat} {p : Plan} {v : Value} (hS : S w) (ho : ops[i]? = some o) (hg : o.guard = none) (hy : ∀ w, S w → Yv P o ρ w v w) (h : PW P n ops Q S p (dM ρ o.dst v) w) : PW P n ops Q S (.take i p) ρ w :=
 ⟨hS, o, v, ho, .inl ⟨by unfold cX; rw [hg], hy⟩, h⟩
end
end Go.Proofs.YtlndedfkgiafhaaDoor
namespace Go.Proofs.YtlndedfkgiafhaaDoor
open Go Go.RowKit
structure Keep (w0 : World) (M : Nat → Prop) (w : World) : Prop where
 os : w.os = w0.os
 tape : w.tape = w0.tape
 output : w.output = w0.output
 size : w0.heap.size ≤ w.heap.size
 block : ∀ k, k < w0.heap.size → ¬ M k → w.heap[k]? = w0.heap[k]?
def aW : Nat → Prop := fun _ => False
theorem Keep.refl (w : World) (M : Nat → Prop) : Keep w M w := ⟨rfl, rfl, rfl, Nat.le_refl _, fun _ _ _ => rfl⟩
theorem Keep.trans {a b c : World} {M M' : Nat → Prop} (h : Keep a M b) (k : Keep b M' c) (hM : ∀ g, g < a.heap.size → M' g → M g) : Keep a M c :=
 ⟨k.os.trans h.os, k.tape.trans h.tape, k.output.trans h.output, Nat.le_trans h.size k.size, fun i hi hn =>
  (k.block i (Nat.lt_of_lt_of_le hi h.size) (fun hm => hn (hM i hi hm))).trans (h.block i hi hn)⟩
theorem Keep.below {w w' : World} (h : Keep w aW w') : Below w.heap.size w w' := ⟨h.os, h.tape, h.output, h.size, fun k hk => h.block k hk (fun x => x)⟩
theorem Keep.mono {w w' : World} {M M' : Nat → Prop} (h : Keep w M w') (hM : ∀ g, g < w.heap.size → M g → M' g) : Keep w M' w' :=
 ⟨h.os, h.tape, h.output, h.size, fun k hk hn => h.block k hk (fun hm => hn (hM k hk hm))⟩
theorem aA {w : World} {g : Nat} {o : Obj} (h : w.heap[g]? = some o) : g < w.heap.size := (Array.getElem?_eq_some_iff.1 h).1
theorem Keep.get {w w' : World} {M : Nat → Prop} (h : Keep w M w') {g : Nat} {o : Obj} (ho : w.heap[g]? = some o) (hM : ¬ M g) : w'.heap[g]? = some o :=
 (h.block g (aA ho) hM).trans ho
theorem Keep.drew {w w' : World} {M : Nat → Prop} (h : Keep w M w') : Keep w M w'.drew := ⟨h.os, h.tape, h.output, h.size, h.block⟩
structure Res where
 F : Nat → Prop
 φ : World → Prop
 live : ∀ w g, φ w → F g → g < w.heap.size
 stay : ∀ w w', φ w → (∀ g, F g → w'.heap[g]? = w.heap[g]?) → φ w'
def aq (g : Nat) (cs : List Value) (T : TypeId) : Res where
 F := fun k => k = g
 φ := fun w => w.heap[g]? = some (.cells cs.toArray T (0, 0))
 live := fun w k h hk => by subst hk; exact aA h
 stay := fun w w' h hk => (hk g rfl).trans h
structure St (w0 : World) (M : Nat → Prop) (L : List Res) (w : World) : Prop where
 keep : Keep w0 M w
 all : ∀ r ∈ L, r.φ w
 own : ∀ r ∈ L, ∀ g, r.F g → M g ∨ w0.heap.size ≤ g
 sep : L.Pairwise fun r s => ∀ g, r.F g → ¬ s.F g
section
variable {w0 w w' : World} {M : Nat → Prop} {L : List Res} {i g k : Nat} {cs : List Value} {T : TypeId} {v : Value} {r s : Res}
theorem St.nil (w : World) (M : Nat → Prop) : St w M [] w := ⟨Keep.refl _ _, by simp, by simp, .nil⟩
theorem St.add (h : St w M L w) (r : Res) (hr : r.φ w) (hM : ∀ g, r.F g → M g) (hs : ∀ s ∈ L, ∀ g, r.F g → ¬ s.F g) : St w M (r :: L) w :=
 ⟨h.keep, by
  rintro x (_ | ⟨_, hx⟩)
  · exact hr
  · exact h.all _ hx, by
  rintro x (_ | ⟨_, hx⟩) g hg
  · exact .inl (hM g hg)
  · exact h.own _ hx g hg, .cons hs h.sep⟩
theorem eH {L : List Res} {i : Nat} {r : Res} (hi : L[i]? = some r) : r ∈ L := List.mem_of_getElem? hi
theorem St.get (h : St w0 M L w) (hi : L[i]? = some r) : r.φ w := h.all _ (eH hi)
theorem St.heap (h : St w0 M L w) (hi : L[i]? = some (aq g cs T)) : w.heap[g]? = some (.cells cs.toArray T (0, 0)) := h.get hi
theorem St.lt (h : St w0 M L w) (hi : L[i]? = some (aq g cs T)) : g < w.heap.size := aA (h.heap hi)
theorem bS {w : World} {g k : Nat} {cs : List Value} {T : TypeId} {fr : Nat × Nat} {v : Value} (h : w.heap[g]? = some (.cells cs.toArray T fr)) (hk : cs[k]? = some v) : w.cell? ⟨g, k, none⟩ = some v := by
 simp [World.cell?, h, hk]
theorem St.cell (h : St w0 M L w) (hi : L[i]? = some (aq g cs T)) (hk : cs[k]? = some v) : w.cell? ⟨g, k, none⟩ = some v := bS (h.heap hi) hk
theorem St.frozen (h : St w0 M L w) (hi : L[i]? = some (aq g cs T)) (k : Nat) : w.frozen? ⟨g, k, none⟩ = false := by
 simp [World.frozen?, h.heap hi]
theorem St.ne (h : St w0 M L w) {j : Nat} (hi : L[i]? = some r) (hj : L[j]? = some s) (hij : i < j) (hg : r.F g) : ¬ s.F g := by
 have hil : i < L.length := (List.getElem?_eq_some_iff.1 hi).1
 have hjl : j < L.length := (List.getElem?_eq_some_iff.1 hj).1
 have := List.pairwise_iff_getElem.1 h.sep i j hil hjl hij g
 rw [(List.getElem?_eq_some_iff.1 hi).2, (List.getElem?_eq_some_iff.1 hj).2] at this
 exact this hg
theorem St.blk_ne (h : St w0 M L w) {j g' : Nat} {cs' : List Value} {T' : TypeId} (hi : L[i]? = some (aq g cs T)) (hj : L[j]? = some (aq g' cs' T')) (hij : i < j) : g ≠ g' := fun e => h.ne hi hj hij rfl e
theorem mE {α : Type} {R : α → α → Prop} {L : List α} {i : Nat} {r r' : α} (h : L.Pairwise R) (hi : L[i]? = some r) (h1 : ∀ x, R x r → R x r') (h2 : ∀ x, R r x → R r' x) : (L.set i r').Pairwise R := by
 induction L generalizing i with
 | nil => simp at hi
 | cons x l ih =>
  rw [List.pairwise_cons] at h
  cases i with
  | zero =>
   have hx : x = r := by simpa using hi
   subst hx
   simp only [List.set_cons_zero, List.pairwise_cons]
   exact ⟨fun y hy => h2 y (h.1 y hy), h.2⟩
  | succ i =>
   simp only [List.getElem?_cons_succ] at hi
   simp only [List.set_cons_succ, List.pairwise_cons]
   refine ⟨fun y hy => ?_, ih h.2 hi⟩
   rcases List.mem_or_eq_of_mem_set hy with hy | rfl
   · exact h.1 y hy
   · exact h1 x (h.1 r (List.mem_of_getElem? hi))
theorem St.set_ (h : St w0 M L w) {r r' : Res} (hi : L[i]? = some r) (hF : ∀ g, r'.F g ↔ r.F g) (hφ : r'.φ w') (hk : Keep w0 M w') (hsz : w.heap.size ≤ w'.heap.size) (hb : ∀ g, g < w.heap.size → ¬ r.F g → w'.heap[g]? = w.heap[g]?) : St w0 M (L.set i r') w' := by
 refine ⟨hk, fun x hx => ?_, fun x hx g hg => ?_, mE h.sep hi (fun x hx g hg hg' => hx g hg ((hF g).1 hg')) (fun x hx g hg => hx g ((hF g).1 hg))⟩
 · obtain ⟨j, hj⟩ := List.getElem?_of_mem hx
   rw [List.getElem?_set] at hj
   split at hj
   · split at hj
     · simp only [Option.some.injEq] at hj; subst hj; exact hφ
     · cases hj
   · rename_i hij
     refine x.stay w _ (h.get hj) fun g hg => hb g (x.live _ _ (h.get hj) hg) fun hr => ?_
     rcases Nat.lt_or_gt_of_ne hij with h1 | h1
     · exact h.ne hi hj h1 hr hg
     · exact h.ne hj hi h1 hg hr
 · rcases List.mem_or_eq_of_mem_set hx with hx | rfl
   · exact h.own x hx g hg
   · exact h.own r (eH hi) g ((hF g).1 hg)
theorem j3 {w : World} {g k : Nat} {cs : List Value} {T : TypeId} (h : w.heap[g]? = some (.cells cs.toArray T (0, 0))) (v : Value) :
 (w.setCell ⟨g, k, none⟩ v).heap[g]? = some (.cells (cs.set k v).toArray T (0, 0)) := by
 simp [World.setCell, Array.getElem?_modify, h]
theorem fJ {w : World} {g : Nat} {a : Addr} (hne : g ≠ a.block) (v : Value) : (w.setCell a v).heap[g]? = w.heap[g]? := Below.heap_setCell w a v g hne
theorem jx (w : World) (a : Addr) (v : Value) : (w.setCell a v).heap.size = w.heap.size := by simp [World.setCell]
theorem St.store (h : St w0 M L w) (hi : L[i]? = some (aq g cs T)) (k : Nat) (v : Value) : St w0 M (L.set i (aq g (cs.set k v) T)) (w.setCell ⟨g, k, none⟩ v) := by
 refine h.set_ hi (fun _ => Iff.rfl) (j3 (h.heap hi) v) ?_ (by rw [jx]; exact Nat.le_refl _) fun g' _ hg' => fJ (a := ⟨g, k, none⟩) hg' v
 refine Keep.trans h.keep (M' := fun k => k = g) ⟨rfl, rfl, rfl, by rw [jx]; exact Nat.le_refl _, fun j _ hj => fJ (a := ⟨g, k, none⟩) hj v⟩ ?_
 rintro j hj rfl
 rcases h.own _ (eH hi) _ rfl with hM | hM
 · exact hM
 · omega
theorem fc {w : World} {g : Nat} (o : Obj) (h : g < w.heap.size) : (w.alloc o).heap[g]? = w.heap[g]? := Below.heap_alloc w o g h
theorem St.new (h : St w0 M L w) (cs : List Value) (T : TypeId) : St w0 M (aq w.heap.size cs T :: L) (w.alloc (.cells cs.toArray T)) := by
 have hk : Keep w0 M (w.alloc (.cells cs.toArray T)) := Keep.trans h.keep (M' := aW) ⟨rfl, rfl, rfl, by simp, fun j hj _ => fc _ hj⟩ (fun _ _ hf => hf.elim)
 refine ⟨hk, ?_, ?_, .cons ?_ h.sep⟩
 · rintro x (_ | ⟨_, hx⟩)
   · show (w.alloc _).heap[w.heap.size]? = _
     exact heap_alloc_new w _
   · exact x.stay w _ (h.all x hx) fun g hg => fc _ (x.live _ _ (h.all x hx) hg)
 · rintro x (_ | ⟨_, hx⟩) g hg
   · have hg' : g = w.heap.size := hg
     exact .inr (by rw [hg']; exact h.keep.size)
   · exact h.own x hx g hg
 · intro s hs g hg hsg
   have hg' : g = w.heap.size := hg
   have := s.live _ _ (h.all s hs) hsg
   omega
theorem St.drew (h : St w0 M L w) : St w0 M L w.drew := ⟨h.keep.drew, fun r hr => r.stay w _ (h.all r hr) fun _ _ => rfl, h.own, h.sep⟩
theorem St.sub (h : St w0 M L w) {L' : List Res} (hs : L'.Sublist L) : St w0 M L' w := ⟨h.keep, fun r hr => h.all r (hs.subset hr), fun r hr => h.own r (hs.subset hr), h.sep.sublist hs⟩
theorem St.drop (h : St w0 M L w) (i : Nat) : St w0 M (L.eraseIdx i) w := h.sub (List.eraseIdx_sublist _ _)
theorem St.call0 (h : St w0 M L w) {L1 : List Res} (hc : St w aW L1 w') : St w0 M (L1 ++ L) w' := by
 refine ⟨h.keep.trans hc.keep (fun _ _ hf => hf.elim), ?_, ?_, List.pairwise_append.2 ⟨hc.sep, h.sep, ?_⟩⟩
 · intro r hr
   rcases List.mem_append.1 hr with hr | hr
   · exact hc.all r hr
   · exact r.stay w w' (h.all r hr) fun g hg => hc.keep.block g (r.live _ _ (h.all r hr) hg) (fun x => x)
 · intro r hr g hg
   rcases List.mem_append.1 hr with hr | hr
   · rcases hc.own r hr g hg with hf | hf
     · exact hf.elim
     · exact .inr (Nat.le_trans h.keep.size hf)
   · exact h.own r hr g hg
 · intro r hr s hs g hg hsg
   rcases hc.own r hr g hg with hf | hf
   · exact hf
   · have := s.live _ _ (h.all s hs) hsg
     omega
theorem eW {L : List Res} {i : Nat} {r s : Res} (h : L.Pairwise fun r s => ∀ g, r.F g → ¬ s.F g) (hi : L[i]? = some r) (hs : s ∈ L.eraseIdx i) : ∀ g, r.F g → ¬ s.F g := by
 induction L generalizing i with
 | nil => simp at hi
 | cons x l ih =>
  rw [List.pairwise_cons] at h
  cases i with
  | zero =>
   have hx : x = r := by simpa using hi
   subst hx
   simp only [List.eraseIdx_cons_zero] at hs
   exact h.1 s hs
  | succ i =>
   simp only [List.getElem?_cons_succ] at hi
   simp only [List.eraseIdx_cons_succ, List.mem_cons] at hs
   rcases hs with rfl | hs
   · exact fun g hr hg => h.1 r (List.mem_of_getElem? hi) g hg hr
   · exact ih h.2 hi hs
theorem St.call1 (h : St w0 M L w) {L1 : List Res} {M' : Nat → Prop} (hi : L[i]? = some r) (hc : St w M' L1 w') (hM : ∀ g, M' g → r.F g) : St w0 M (L1 ++ L.eraseIdx i) w' := by
 have hsep : ∀ s ∈ L.eraseIdx i, ∀ g, r.F g → ¬ s.F g := fun s hs => eW h.sep hi hs
 have hsub : ∀ s ∈ L.eraseIdx i, s ∈ L := fun s hs => (List.eraseIdx_sublist _ _).subset hs
 refine ⟨h.keep.trans hc.keep ?_, ?_, ?_, List.pairwise_append.2 ⟨hc.sep, h.sep.sublist (List.eraseIdx_sublist _ _), ?_⟩⟩
 · intro g hg hm
   rcases h.own r (eH hi) g (hM g hm) with h1 | h1
   · exact h1
   · omega
 · intro x hx
   rcases List.mem_append.1 hx with hx | hx
   · exact hc.all x hx
   · exact x.stay w w' (h.all x (hsub x hx)) fun g hg => hc.keep.block g (x.live _ _ (h.all x (hsub x hx)) hg) (fun hm => hsep x hx g (hM g hm) hg)
 · intro x hx g hg
   rcases List.mem_append.1 hx with hx | hx
   · rcases hc.own x hx g hg with hf | hf
     · exact h.own r (eH hi) g (hM g hf)
     · exact .inr (Nat.le_trans h.keep.size hf)
   · exact h.own x (hsub x hx) g hg
 · intro x hx s hs g hg hsg
   rcases hc.own x hx g hg with hf | hf
   · exact hsep s hs g (hM g hf) hsg
   · have := s.live _ _ (h.all s (hsub s hs)) hsg
     omega
def lH (r s : Res) : Res where
 F := fun g => r.F g ∨ s.F g
 φ := fun w => r.φ w ∧ s.φ w
 live := fun w g h hg => hg.elim (r.live w g h.1) (s.live w g h.2)
 stay := fun w w' h hk => ⟨r.stay w w' h.1 fun g hg => hk g (.inl hg), s.stay w w' h.2 fun g hg => hk g (.inr hg)⟩
theorem St.join (h : St w0 M L w) {j : Nat} (hi : L[i]? = some r) (hj : (L.eraseIdx i)[j]? = some s) : St w0 M (lH r s :: (L.eraseIdx i).eraseIdx j) w := by
 have hsep : ∀ x ∈ L.eraseIdx i, ∀ g, r.F g → ¬ x.F g := fun x hx => eW h.sep hi hx
 have h' := h.drop i
 have hsub : ∀ x ∈ (L.eraseIdx i).eraseIdx j, x ∈ L.eraseIdx i := fun x hx => (List.eraseIdx_sublist _ _).subset hx
 have h2 := h'.drop j
 refine ⟨h.keep, ?_, ?_, .cons ?_ h2.sep⟩
 · rintro x (_ | ⟨_, hx⟩)
   · exact ⟨h.get hi, h'.get hj⟩
   · exact h2.all x hx
 · rintro x (_ | ⟨_, hx⟩) g hg
   · rcases hg with hg | hg
     · exact h.own r (eH hi) g hg
     · exact h'.own s (eH hj) g hg
   · exact h2.own x hx g hg
 · intro x hx g hg
   rcases hg with hg | hg
   · exact hsep x (hsub x hx) g hg
   · exact eW h'.sep hj hx g hg
theorem St.call2 (h : St w0 M L w) {L1 : List Res} {M' : Nat → Prop} {j : Nat} (hi : L[i]? = some r) (hj : (L.eraseIdx i)[j]? = some s) (hc : St w M' L1 w') (hM : ∀ g, M' g → r.F g ∨ s.F g) :
 St w0 M (L1 ++ (L.eraseIdx i).eraseIdx j) w' := (h.join hi hj).call1 (i := 0) rfl hc hM
theorem St.cal0 (h : St w0 M L w) {L1 L' : List Res} (hc : St w aW L1 w') (hL : L1 ++ L = L' := by first | (simp only [List.cons_append, List.nil_append]; rfl) | rfl) : St w0 M L' w' := hL ▸ h.call0 hc
end
end Go.Proofs.YtlndedfkgiafhaaDoor
namespace Go.Proofs.YtlndedfkgiafhaaDoor
open Go Go.RowKit
section
variable {P : Program} {ρ : cF} {w : World} {d : Option Tmp} {ty : TypeId} {pos : String} {af : Array Edge} {gd : Option (Nat × Bool)}
theorem al {x : Operand} {v : Value} (h : ev ρ x = v) : Yv P ⟨d, .move x, ty, pos, af, gd⟩ ρ w v w := by subst h; rfl
theorem aS {x : Operand} {v : Value} (h : ev ρ x = v) : Yv P ⟨d, .assign x, ty, pos, af, gd⟩ ρ w v w := by subst h; rfl
theorem aD {c x y : Operand} {b : Bool} {v : Value} (h : ev ρ c = .bool b) (hv : (if b = true then ev ρ x else ev ρ y) = v) : Yv P ⟨d, .pick c x y, ty, pos, af, gd⟩ ρ w v w := by
 subst hv; unfold Yv; simp [execOp, h, asBool]
theorem ag {x : Operand} {a : Addr} (h : ev ρ x = .pointer (some a)) : Yv P ⟨d, .nilCheck x, ty, pos, af, gd⟩ ρ w (.pointer (some a)) w := by
 unfold Yv; simp [execOp, h]
theorem bd {x : Operand} {name : String} {t : TypeId} {u : Value} {cp : Array Value} (h : ev ρ x = .func (.method name) #[.iface t u] cp)
 (hn : (nilAhead (P.types.size + Made.depth) t u name).run P w = .ok (some false) w) : Yv P ⟨d, .nilCheck x, ty, pos, af, gd⟩ ρ w (.func (.method name) #[.iface t u] cp) w := by
 unfold Yv; simp [execOp, h, hn]
theorem oU {fn : Fn} {fs cs : Array Operand} : Yv P ⟨d, .makeFunc fn fs cs, ty, pos, af, gd⟩ ρ w (.func fn (fs.map (ev ρ)) (cs.map (ev ρ))) w := rfl
theorem aF {t : TypeId} {x : Operand} {v : Value} (ht : P.concrete t = true) (h : ev ρ x = v) : Yv P ⟨d, .makeInterface t x, ty, pos, af, gd⟩ ρ w (.iface t v) w := by
 subst h; unfold Yv; simp [execOp, run_makeInterface, ht]
theorem a7 {t : Operand} {i : Nat} {vs : Array Value} {v : Value} (h : ev ρ t = .tuple vs) (hv : vs[i]? = some v) : Yv P ⟨d, .extract t i, ty, pos, af, gd⟩ ρ w v w := by
 unfold Yv; simp [execOp, h, Instr.extract, hv]
def kY (P : Program) (s f off : Nat) : Prop := ∃ fs fd, P.underlying s = some (.struct fs) ∧ fs[f]? = some fd ∧ fd.offset = off ∧ ∃ i, P.info? fd.type = some i ∧ i.size ≠ 0
def pp (P : Program) (s f off : Nat) : Bool := match P.underlying s with
 | some (.struct fs) => match fs[f]? with
  | some fd => fd.offset == off && (match P.info? fd.type with | some i => i.size != 0 | none => false)
  | none => false
 | _ => false
theorem pq {s f off : Nat} (h : pp P s f off = true) : kY P s f off := by
 unfold pp at h
 split at h
 · rename_i fs hs
   split at h
   · rename_i fd hf
     simp only [Bool.and_eq_true, beq_iff_eq] at h
     obtain ⟨h1, h2⟩ := h
     split at h2
     · rename_i i hi; exact ⟨fs, fd, hs, hf, h1, i, hi, by simpa using h2⟩
     · cases h2
   · cases h
 · cases h
theorem ab {s f off : Nat} {x : Operand} {g o : Nat} (hf : kY P s f off) (h : ev ρ x = .pointer (some ⟨g, o, none⟩)) : Yv P ⟨d, .fieldAddr s x f, ty, pos, af, gd⟩ ρ w (.pointer (some ⟨g, o + off, none⟩)) w := by
 obtain ⟨fs, fd, h1, h2, rfl, i, h3, h4⟩ := hf
 have : (⟨g, o, none⟩ : Addr).add fd.offset = ⟨g, o + fd.offset, none⟩ := by unfold Addr.add; split <;> simp_all
 unfold Yv; simp [execOp, Instr.fieldAt, run_underlying h1, h2, h, Instr.sureAddr, fieldPlace, sizeOf, typeInfo, h3, h4, this]
def cg (P : Program) (t e sz : Nat) : Prop := P.underlying t = some (.slice e) ∧ ∃ i, P.info? e = some i ∧ i.size = sz
def sO (P : Program) (t e sz : Nat) : Bool := match P.underlying t with
 | some (.slice e') => e' == e && (match P.info? e with | some i => i.size == sz | none => false)
 | _ => false
theorem bZ {t e sz : Nat} (h : sO P t e sz = true) : cg P t e sz := by
 unfold sO at h
 split at h
 · rename_i e' hs
   simp only [Bool.and_eq_true, beq_iff_eq] at h
   obtain ⟨rfl, h2⟩ := h
   split at h2
   · rename_i i hi; exact ⟨hs, i, hi, by simpa using h2⟩
   · cases h2
 · cases h
theorem bY (g o n : Nat) : (⟨g, o, none⟩ : Addr).add n = ⟨g, o + n, none⟩ := by unfold Addr.add; split <;> simp_all
theorem aI {t e sz : Nat} {x ix : Operand} {a : Addr} {len cap : Nat} {k : IntKind} {i : Int} (ht : cg P t e sz) (h : ev ρ x = .slice (some a) len cap) (hi : ev ρ ix = .int k i) (h0 : 0 ≤ i) (h1 : i < len) :
 Yv P ⟨d, .indexAddr t x ix, ty, pos, af, gd⟩ ρ w (.pointer (some (a.add (i.toNat * sz)))) w := by
 obtain ⟨h2, j, h3, rfl⟩ := ht
 unfold Yv; simp [execOp, Instr.indexAt, h, hi, asIntOf, run_underlying h2, sizeOf, typeInfo, h3, h0, h1]
def kZ (P : Program) (t n e sz : Nat) : Prop := P.underlying t = some (.array n e) ∧ ∃ i, P.info? e = some i ∧ i.size = sz
def tl (P : Program) (t n e sz : Nat) : Bool := match P.underlying t with
 | some (.array n' e') => n' == n && e' == e && (match P.info? e with | some i => i.size == sz | none => false)
 | _ => false
theorem l5 {t n e sz : Nat} (h : tl P t n e sz = true) : kZ P t n e sz := by
 unfold tl at h
 split at h
 · rename_i n' e' hs
   simp only [Bool.and_eq_true, beq_iff_eq] at h
   obtain ⟨⟨rfl, rfl⟩, h2⟩ := h
   split at h2
   · rename_i i hi; exact ⟨hs, i, hi, by simpa using h2⟩
   · cases h2
 · cases h
def nw (ρ : cF) (o : Option Operand) (dflt : Nat) (n : Nat) : Prop := match o with
 | none => n = dflt
 | some x => ∃ k i, ev ρ x = .int k i ∧ 0 ≤ i ∧ i.toNat = n
theorem bh (ρ : cF) (n : Nat) : nw ρ none n n := rfl
theorem bg {ρ : cF} {x : Operand} {dflt n : Nat} {k : IntKind} {i : Int} (h : ev ρ x = .int k i) (h0 : 0 ≤ i) (hn : i.toNat = n) : nw ρ (some x) dflt n := ⟨k, i, h, h0, hn⟩
theorem je {isSlice : Bool} {len cap l h : Nat} {lo hi : Option Operand} (hl : nw ρ lo 0 l) (hh : nw ρ hi len h) (h1 : l ≤ h) (h2 : h ≤ cap) (h3 : hi = none → h ≤ cap) :
 (Instr.sliceBounds isSlice len cap (lo.map (ev ρ)) (hi.map (ev ρ)) none).run P w = .ok (l, h, cap) w := by
 have hb : ∀ (v : Value) (y n : Nat) (c : BoundsCode), (∃ k i, v = .int k i ∧ 0 ≤ i ∧ i.toNat = n) → n ≤ y → (Instr.sliceBound v y c).run P w = .ok n w := by
  rintro v y n c ⟨k, i, rfl, h0, rfl⟩ hy
  have : i ≤ (y : Int) := by omega
  simp [Instr.sliceBound, asIntOf, h0, this]
 cases lo with
 | none =>
  have hl' : l = 0 := hl
  subst hl'
  cases hi with
  | none => have : h = len := hh; subst this; simp [Instr.sliceBounds]
  | some y =>
   obtain ⟨k, i, e1, e2, e3⟩ := hh
   simp [Instr.sliceBounds, hb (ev ρ y) cap h _ ⟨k, i, e1, e2, e3⟩ h2]
 | some x =>
  obtain ⟨k, i, e1, e2, e3⟩ := hl
  cases hi with
  | none => have : h = len := hh; subst this; simp [Instr.sliceBounds, hb (ev ρ x) h l _ ⟨k, i, e1, e2, e3⟩ h1]
  | some y =>
   obtain ⟨k', i', f1, f2, f3⟩ := hh
   simp [Instr.sliceBounds, hb (ev ρ y) cap h _ ⟨k', i', f1, f2, f3⟩ h2, hb (ev ρ x) h l _ ⟨k, i, e1, e2, e3⟩ h1]
def cR (A : Option Addr) (cap l sz : Nat) : Option Addr := if cap = l then A else A.map (·.add (l * sz))
theorem dH {t e sz : Nat} {x : Operand} {lo hi : Option Operand} {A : Option Addr} {len cap l h : Nat} (ht : cg P t e sz) (hx : ev ρ x = .slice A len cap) (hl : nw ρ lo 0 l) (hh : nw ρ hi len h) (h1 : l ≤ h) (h2 : h ≤ cap) :
 Yv P ⟨d, .slice t x lo hi none, ty, pos, af, gd⟩ ρ w (.slice (cR A cap l sz) (h - l) (cap - l)) w := by
 obtain ⟨h3, j, h4, rfl⟩ := ht
 unfold Yv
 simp [execOp, Instr.sliceAt, Instr.slice, hx, run_underlying h3, je (isSlice := true) hl hh h1 h2 (fun _ => h2), sizeOf, typeInfo, h4, cR]
theorem bu {t n e sz : Nat} {x : Operand} {lo hi : Option Operand} {g o l h : Nat} (ht : kZ P t n e sz) (hx : ev ρ x = .pointer (some ⟨g, o, none⟩)) (hl : nw ρ lo 0 l) (hh : nw ρ hi n h) (h1 : l ≤ h) (h2 : h ≤ n) :
 Yv P ⟨d, .slice t x lo hi none, ty, pos, af, gd⟩ ρ w (.slice (cR (some ⟨g, o, none⟩) n l sz) (h - l) (n - l)) w := by
 obtain ⟨h3, j, h4, rfl⟩ := ht
 unfold Yv
 have hb := fun w => je (P := P) (w := w) (isSlice := false) hl hh h1 h2 (fun _ => h2)
 have hr : (execOp (ev ρ) ⟨d, .slice t x lo hi none, ty, pos, af, gd⟩).run P w = .ok (.value (.slice (some (if n = l then ⟨g, o, none⟩ else (⟨g, o, none⟩ : Addr).add (l * j.size))) (h - l) (n - l))) w := by
  simp [execOp, Instr.sliceAt, hx, run_underlying h3, Instr.sureAddr, hb, sizeOf, typeInfo, h4]
 rw [hr]
 unfold cR
 split <;> rfl
theorem kj {t : Nat} {x : Operand} {lo hi : Option Operand} {s : ByteArray} {l h : Nat} (ht : P.underlying t = some .string) (hx : ev ρ x = .string s) (hl : nw ρ lo 0 l) (hh : nw ρ hi s.size h) (h1 : l ≤ h) (h2 : h ≤ s.size) :
 Yv P ⟨d, .slice t x lo hi none, ty, pos, af, gd⟩ ρ w (.string (s.extract l h)) w := by
 unfold Yv
 simp [execOp, Instr.sliceAt, Instr.slice, hx, run_underlying ht, je (isSlice := false) hl hh h1 h2 (fun _ => h2)]
theorem y_add {t t' : Nat} {x y : Operand} {k : IntKind} {a b : Int} (hx : ev ρ x = .int k a) (hy : ev ρ y = .int k b) : Yv P ⟨d, .binOp .add t x y t', ty, pos, af, gd⟩ ρ w (.int k (k.wrap (a + b))) w := by
 unfold Yv; simp [execOp, eqGuard, hx, hy, binOp, Op.intArith]
theorem y_sub {t t' : Nat} {x y : Operand} {k : IntKind} {a b : Int} (hx : ev ρ x = .int k a) (hy : ev ρ y = .int k b) : Yv P ⟨d, .binOp .sub t x y t', ty, pos, af, gd⟩ ρ w (.int k (k.wrap (a - b))) w := by
 unfold Yv; simp [execOp, eqGuard, hx, hy, binOp, Op.intArith]
theorem y_mul {t t' : Nat} {x y : Operand} {k : IntKind} {a b : Int} (hx : ev ρ x = .int k a) (hy : ev ρ y = .int k b) : Yv P ⟨d, .binOp .mul t x y t', ty, pos, af, gd⟩ ρ w (.int k (k.wrap (a * b))) w := by
 unfold Yv; simp [execOp, eqGuard, hx, hy, binOp, Op.intArith]
theorem aT {t t' : Nat} {x y : Operand} {k : IntKind} {a b c : Int} (hx : ev ρ x = .int k a) (hy : ev ρ y = .int k b) (hc : k.wrap (a + b) = c) : Yv P ⟨d, .binOp .add t x y t', ty, pos, af, gd⟩ ρ w (.int k c) w := hc ▸ y_add hx hy
theorem gV {t t' : Nat} {x y : Operand} {k : IntKind} {a b c : Int} (hx : ev ρ x = .int k a) (hy : ev ρ y = .int k b) (hc : k.wrap (a - b) = c) : Yv P ⟨d, .binOp .sub t x y t', ty, pos, af, gd⟩ ρ w (.int k c) w := hc ▸ y_sub hx hy
theorem c6 {t t' : Nat} {x y : Operand} {k : IntKind} {a b c : Int} (hx : ev ρ x = .int k a) (hy : ev ρ y = .int k b) (hc : k.wrap (a * b) = c) : Yv P ⟨d, .binOp .mul t x y t', ty, pos, af, gd⟩ ρ w (.int k c) w := hc ▸ y_mul hx hy
theorem cV {t t' : Nat} {x y : Operand} {k : IntKind} {a b c : Int} (hx : ev ρ x = .int k a) (hy : ev ρ y = .int k b) (hc : k.wrap (BitVec.ofInt k.bits a &&& BitVec.ofInt k.bits b).toNat = c) : Yv P ⟨d, .binOp .and t x y t', ty, pos, af, gd⟩ ρ w (.int k c) w := by
 subst hc; unfold Yv; simp [execOp, eqGuard, hx, hy, binOp, Op.intBits]
theorem nA {t t' : Nat} {x y : Operand} {k : IntKind} {a b c : Int} (hx : ev ρ x = .int k a) (hy : ev ρ y = .int k b) (hc : k.wrap (BitVec.ofInt k.bits a ||| BitVec.ofInt k.bits b).toNat = c) : Yv P ⟨d, .binOp .or t x y t', ty, pos, af, gd⟩ ρ w (.int k c) w := by
 subst hc; unfold Yv; simp [execOp, eqGuard, hx, hy, binOp, Op.intBits]
theorem dY {t t' : Nat} {x y : Operand} {k : IntKind} {a b c : Int} (hx : ev ρ x = .int k a) (hy : ev ρ y = .int k b) (hc : k.wrap (BitVec.ofInt k.bits a &&& ~~~ BitVec.ofInt k.bits b).toNat = c) : Yv P ⟨d, .binOp .andNot t x y t', ty, pos, af, gd⟩ ρ w (.int k c) w := by
 subst hc; unfold Yv; simp [execOp, eqGuard, hx, hy, binOp, Op.intBits]
theorem km {t t' : Nat} {x y : Operand} {k k' : IntKind} {a b c : Int} (hx : ev ρ x = .int k a) (hy : ev ρ y = .int k' b) (hb : 0 ≤ b) (hc : k.wrap (a * 2 ^ (min b.toNat k.bits)) = c) : Yv P ⟨d, .binOp .shl t x y t', ty, pos, af, gd⟩ ρ w (.int k c) w := by
 subst hc; unfold Yv; simp [execOp, eqGuard, hx, hy, binOp, Op.shift, Int.not_lt.2 hb]
theorem dm {t t' : Nat} {x y : Operand} {k k' : IntKind} {a b c : Int} (hx : ev ρ x = .int k a) (hy : ev ρ y = .int k' b) (hb : 0 ≤ b) (hc : a.fdiv (2 ^ (min b.toNat k.bits)) = c) : Yv P ⟨d, .binOp .shr t x y t', ty, pos, af, gd⟩ ρ w (.int k c) w := by
 subst hc; unfold Yv; simp [execOp, eqGuard, hx, hy, binOp, Op.shift, Int.not_lt.2 hb]
theorem cx {t t' : Nat} {x y : Operand} {k : IntKind} {a b : Int} (hx : ev ρ x = .int k a) (hy : ev ρ y = .int k b) : Yv P ⟨d, .binOp .lss t x y t', ty, pos, af, gd⟩ ρ w (.bool (decide (a < b))) w := by
 unfold Yv; simp [execOp, eqGuard, hx, hy, binOp, Op.intCmp]
theorem v6 {t t' : Nat} {x y : Operand} {k : IntKind} {a b : Int} (hx : ev ρ x = .int k a) (hy : ev ρ y = .int k b) : Yv P ⟨d, .binOp .leq t x y t', ty, pos, af, gd⟩ ρ w (.bool (decide (a ≤ b))) w := by
 unfold Yv; simp [execOp, eqGuard, hx, hy, binOp, Op.intCmp]
theorem gP {t t' : Nat} {x y : Operand} {k : IntKind} {a b : Int} (hx : ev ρ x = .int k a) (hy : ev ρ y = .int k b) : Yv P ⟨d, .binOp .gtr t x y t', ty, pos, af, gd⟩ ρ w (.bool (decide (b < a))) w := by
 unfold Yv; simp [execOp, eqGuard, hx, hy, binOp, Op.intCmp]
theorem i5 {t t' : Nat} {x y : Operand} {k : IntKind} {a b : Int} (hx : ev ρ x = .int k a) (hy : ev ρ y = .int k b) : Yv P ⟨d, .binOp .geq t x y t', ty, pos, af, gd⟩ ρ w (.bool (decide (b ≤ a))) w := by
 unfold Yv; simp [execOp, eqGuard, hx, hy, binOp, Op.intCmp]
theorem fW {t t' : Nat} {x y : Operand} {k : IntKind} {a b : Int} (hx : ev ρ x = .int k a) (hy : ev ρ y = .int k b) : Yv P ⟨d, .binOp .eql t x y t', ty, pos, af, gd⟩ ρ w (.bool (a == b)) w := by
 unfold Yv; simp [execOp, eqGuard, hx, hy, binOp, Op.intCmp]
theorem lb {t t' : Nat} {x y : Operand} {k : IntKind} {a b : Int} (hx : ev ρ x = .int k a) (hy : ev ρ y = .int k b) : Yv P ⟨d, .binOp .neq t x y t', ty, pos, af, gd⟩ ρ w (.bool (a != b)) w := by
 unfold Yv; simp [execOp, eqGuard, hx, hy, binOp, Op.intCmp]
theorem oT {t t' : Nat} {x y : Operand} {a b : Bool} (ht : P.underlying t = some .bool) (hx : ev ρ x = .bool a) (hy : ev ρ y = .bool b) : Yv P ⟨d, .binOp .neq t x y t', ty, pos, af, gd⟩ ρ w (.bool (!(a == b))) w := by
 unfold Yv; simp [execOp, eqGuard, hx, hy, run_neq_bool w t a b ht]
theorem gX {t t' : Nat} {x y : Operand} {a b : Bool} (ht : P.underlying t = some .bool) (hx : ev ρ x = .bool a) (hy : ev ρ y = .bool b) : Yv P ⟨d, .binOp .eql t x y t', ty, pos, af, gd⟩ ρ w (.bool (a == b)) w := by
 unfold Yv; simp [execOp, eqGuard, hx, hy, run_eql_bool w t a b ht]
theorem r4 {t t' : Nat} {x y : Operand} {a b : ByteArray} (hx : ev ρ x = .string a) (hy : ev ρ y = .string b) : Yv P ⟨d, .binOp .neq t x y t', ty, pos, af, gd⟩ ρ w (.bool (!(a.toList == b.toList))) w := by
 unfold Yv; simp [execOp, eqGuard, hx, hy, binOp, Op.stringOp]
theorem r6 {t t' : Nat} {x y : Operand} {a b : ByteArray} (hx : ev ρ x = .string a) (hy : ev ρ y = .string b) : Yv P ⟨d, .binOp .eql t x y t', ty, pos, af, gd⟩ ρ w (.bool (a.toList == b.toList)) w := by
 unfold Yv; simp [execOp, eqGuard, hx, hy, binOp, Op.stringOp]
def jt (P : Program) (t : Nat) : Prop := P.underlying t = some (.interface (P.methodsAt t))
def lp : Value → Bool
 | .iface _ _ => true
 | _ => false
theorem r5 {t t' : Nat} {x : Operand} {v : Value} (ht : jt P t) (hx : ev ρ x = v) (hv : v = .nilIface ∨ ∃ u z, v = .iface u z) : Yv P ⟨d, .binOp .neq t x (.const .nilIface) t', ty, pos, af, gd⟩ ρ w (.bool (lp v)) w := by
 have hc : ev ρ (.const .nilIface) = .nilIface := rfl
 rcases hv with rfl | ⟨u, z, rfl⟩
 · unfold Yv; simp [execOp, eqGuard, hx, hc, run_neq_nil_nil w t ht, lp]
 · unfold Yv; simp [execOp, eqGuard, hx, hc, run_neq_held_nil w t u z ht, lp]
theorem dq {t t' : Nat} {x : Operand} {v : Value} (ht : jt P t) (hx : ev ρ x = v) (hv : v = .nilIface ∨ ∃ u z, v = .iface u z) : Yv P ⟨d, .binOp .eql t x (.const .nilIface) t', ty, pos, af, gd⟩ ρ w (.bool (!lp v)) w := by
 have hc : ev ρ (.const .nilIface) = .nilIface := rfl
 rcases hv with rfl | ⟨u, z, rfl⟩
 · unfold Yv; simp [execOp, eqGuard, hx, hc, run_eql_nil_nil w t ht, lp]
 · unfold Yv; simp [execOp, eqGuard, hx, hc, run_eql_held_nil w t u z ht, lp]
theorem lZ {t t' : Nat} {x : Operand} {p : Option Addr} (ht : P.underlying t = some (.pointer (P.pointee t))) (hx : ev ρ x = .pointer p) : Yv P ⟨d, .binOp .eql t x (.const (.pointer none)) t', ty, pos, af, gd⟩ ρ w (.bool p.isNone) w := by
 have hc : ev ρ (.const (.pointer none)) = .pointer none := rfl
 unfold Yv; simp [execOp, eqGuard, hx, hc, run_eql_pointer_nil w t p ht]
theorem cJ {t t' : Nat} {x : Operand} {p : Option Addr} (ht : P.underlying t = some (.pointer (P.pointee t))) (hx : ev ρ x = .pointer p) : Yv P ⟨d, .binOp .neq t x (.const (.pointer none)) t', ty, pos, af, gd⟩ ρ w (.bool p.isSome) w := by
 have hc : ev ρ (.const (.pointer none)) = .pointer none := rfl
 unfold Yv; simp [execOp, eqGuard, hx, hc, run_neq_pointer_nil w t p ht]
theorem bB {t : Nat} {x : Operand} {b : Bool} (hx : ev ρ x = .bool b) : Yv P ⟨d, .unOp .not t x, ty, pos, af, gd⟩ ρ w (.bool (!b)) w := by
 unfold Yv; simp [execOp, hx, Op.unary]
theorem vz {t : Nat} {x : Operand} {k : IntKind} {a : Int} (hx : ev ρ x = .int k a) : Yv P ⟨d, .unOp .neg t x, ty, pos, af, gd⟩ ρ w (.int k (k.wrap (-a))) w := by
 unfold Yv; simp [execOp, hx, Op.unary, Op.intArith]
theorem an {s t : Nat} {x : Operand} {k k' : IntKind} {a c : Int} (hs : (P.underlying s).isSome = true) (ht : P.underlying t = some (.int k')) (hx : ev ρ x = .int k a) (hc : k'.wrap a = c) : Yv P ⟨d, .convert s t x, ty, pos, af, gd⟩ ρ w (.int k' c) w := by
 subst hc
 obtain ⟨u, hu⟩ := Option.isSome_iff_exists.1 hs
 unfold Yv; simp [execOp, hx, convert, run_underlying hu, run_underlying ht, Conv.intToInt]
theorem ba {t : Nat} {x : Operand} {A : Option Addr} {n c : Nat} (ht : P.underlying t = some (.slice (P.elem t))) (hx : ev ρ x = .slice A n c) : Yv P ⟨d, .call { callee := .builtin .len, args := #[x], argTypes := #[t] }, ty, pos, af, gd⟩ ρ w (.int .i64 n) w := by
 unfold Yv; simp [execOp, resolve, invoke, builtin, hx, run_len_slice w t ty A n c ht]; rfl
theorem jO {t : Nat} {x : Operand} {s : ByteArray} (ht : P.underlying t = some .string) (hx : ev ρ x = .string s) : Yv P ⟨d, .call { callee := .builtin .len, args := #[x], argTypes := #[t] }, ty, pos, af, gd⟩ ρ w (.int .i64 s.size) w := by
 unfold Yv; simp [execOp, resolve, invoke, builtin, hx, run_len_string w t ty s ht]; rfl
theorem iu {ts : Array TypeId} {x y : Operand} {k : IntKind} {a b c : Int} (hx : ev ρ x = .int k a) (hy : ev ρ y = .int k b) (hc : (if b < a then b else a) = c) : Yv P ⟨d, .call { callee := .builtin .min, args := #[x, y], argTypes := ts }, ty, pos, af, gd⟩ ρ w (.int k c) w := by
 subst hc; unfold Yv; simp [execOp, resolve, invoke, builtin, hx, hy, run_min_int2 w ts ty k k a b]
theorem nC {ts : Array TypeId} {x y : Operand} {k : IntKind} {a b c : Int} (hx : ev ρ x = .int k a) (hy : ev ρ y = .int k b) (hc : (if a < b then b else a) = c) : Yv P ⟨d, .call { callee := .builtin .max, args := #[x, y], argTypes := ts }, ty, pos, af, gd⟩ ρ w (.int k c) w := by
 subst hc; unfold Yv; simp [execOp, resolve, invoke, builtin, hx, hy, run_max_int2 w ts ty k k a b]
theorem nE {t s : Nat} {x : Operand} {u : Nat} {v : Value} {ds : TypeDesc} (hs : P.underlying s = some ds) (hn : (match ds with | .interface _ => false | _ => true) = true) (hx : ev ρ x = .iface u v) (hz : u ≠ s → ∃ i z, P.info? s = some i ∧ i.zero = some z) {r : Value}
 (hr : (if u = s then r = .tuple #[v, .bool true] else ∀ i z, P.info? s = some i → i.zero = some z → r = .tuple #[z, .bool false])) : Yv P ⟨d, .typeAssert x t s true, ty, pos, af, gd⟩ ρ w r w := by
 unfold Yv
 by_cases he : u = s
 · rw [if_pos he] at hr; subst hr; subst he
   cases ds <;> simp_all [execOp, Instr.typeAssert, run_underlying]
 · rw [if_neg he] at hr
   obtain ⟨i, z, hi, hz⟩ := hz he
   have := hr i z hi hz; subst this
   cases ds <;> simp_all [execOp, Instr.typeAssert, run_underlying, zeroValue, typeInfo]
end
end Go.Proofs.YtlndedfkgiafhaaDoor
namespace Go.Proofs.YtlndedfkgiafhaaDoor
open Go Go.RowKit
def i4 (P : Program) (o : Oper) (ρ : cF) (w : World) (K : cF → World → Prop) : Prop :=
 (∃ v w', Yv P o ρ w v w' ∧ K (dM ρ o.dst v) w') ∨ (∃ w', Yn P o ρ w w' ∧ K (dM ρ o.dst undef) w') ∨
 (∃ f args w', Ye P o ρ w f args w' ∧ Calls P f args w' fun e w'' => ∃ v, e = .returned v ∧ K (dM ρ o.dst v) w'')
section
variable {P : Program} {n : Nat} {Q : QE} {ρ : cF} {w : World} {ops : Array Oper} {l : List Oper} {o : Oper} {K : cF → World → Prop}
theorem tw (hg : cX o ops ρ n = true) (hd : fk n o.dst = true) (h : i4 P o ρ w (WL P n ops l Q)) : WL P n ops (o :: l) Q ρ w := by
 rcases h with ⟨v, w', hy, hk⟩ | ⟨w', hy, hk⟩ | ⟨f, args, w', hy, hk⟩
 · exact tv hg hd hy hk
 · exact WL_n' hg hd hy hk
 · exact WL_e' hg hd hy hk
theorem vB (hg : o.guard = none) (hd : fk n o.dst = true) (h : i4 P o ρ w (WL P n ops l Q)) : WL P n ops (o :: l) Q ρ w :=
 tw (by unfold cX; rw [hg]) hd h
theorem rv {i : Nat} (ho : ops[i]? = some o) (hg : cX o ops ρ n = true) (h : i4 P o ρ w K) : n6 P n ops i K ρ w := ⟨o, ho, .inl ⟨hg, h⟩⟩
theorem lM {i : Nat} (ho : ops[i]? = some o) (hg : o.guard = none) (h : i4 P o ρ w K) : n6 P n ops i K ρ w := rv ho (by unfold cX; rw [hg]) h
theorem i3 {v : Value} {w' : World} (hy : Yv P o ρ w v w') (h : K (dM ρ o.dst v) w') : i4 P o ρ w K := .inl ⟨v, w', hy, h⟩
end
def cY (P : Program) (t : TypeId) : Prop := (∃ u, P.underlying t = some u ∧ (∀ fs, u ≠ .struct fs) ∧ ∀ m e, u ≠ .array m e) ∧ ∃ i, P.info? t = some i ∧ i.size = 1
def oneB (P : Program) (t : TypeId) : Bool := (match P.underlying t with
 | some (.struct _) | some (.array _ _) | none => false
 | _ => true) && (match P.info? t with | some i => i.size == 1 | none => false)
theorem bz {P : Program} {t : TypeId} (h : oneB P t = true) : cY P t := by
 unfold oneB at h
 rw [Bool.and_eq_true] at h
 obtain ⟨h1, h2⟩ := h
 constructor
 · cases hu : P.underlying t with
   | none => simp [hu] at h1
   | some u =>
    rw [hu] at h1
    refine ⟨u, rfl, ?_, ?_⟩
    · rintro fs rfl; simp at h1
    · rintro m e rfl; simp at h1
 · split at h2
   · rename_i i hi; exact ⟨i, hi, by simpa using h2⟩
   · cases h2
def gN (P : Program) (t : TypeId) (n : Nat) : Prop := (∃ u, P.underlying t = some u ∧ ((∃ fs, u = .struct fs) ∨ ∃ m e, u = .array m e)) ∧ ∃ i, P.info? t = some i ∧ i.size = n
def aggB (P : Program) (t : TypeId) (n : Nat) : Bool := (match P.underlying t with
 | some (.struct _) | some (.array _ _) => true
 | _ => false) && (match P.info? t with | some i => i.size == n | none => false)
theorem dR {P : Program} {t n : Nat} (h : aggB P t n = true) : gN P t n := by
 unfold aggB at h
 rw [Bool.and_eq_true] at h
 obtain ⟨h1, h2⟩ := h
 constructor
 · split at h1
   · rename_i fs hu; exact ⟨_, hu, .inl ⟨fs, rfl⟩⟩
   · rename_i m e hu; exact ⟨_, hu, .inr ⟨m, e, rfl⟩⟩
   · cases h1
 · split at h2
   · rename_i i hi; exact ⟨i, hi, by simpa using h2⟩
   · cases h2
theorem ja {P : Program} {t : TypeId} {w : World} (h : cY P t) : (isAgg t).run P w = .ok false w := by
 obtain ⟨⟨u, hu, h1, h2⟩, _⟩ := h
 cases u <;> simp_all [isAgg, run_underlying hu]
theorem lS {P : Program} {t n : Nat} {w : World} (h : gN P t n) : (isAgg t).run P w = .ok true w := by
 obtain ⟨⟨u, hu, h1⟩, _⟩ := h
 rcases h1 with ⟨fs, rfl⟩ | ⟨m, e, rfl⟩ <;> simp [isAgg, run_underlying hu]
def cQ (P : Program) (t : TypeId) (zs : List Value) : Prop := ∃ i z, P.info? t = some i ∧ i.zero = some z ∧ z.cells.toList = zs
theorem bv {P : Program} {t : TypeId} {zs : List Value} (h : ((P.info? t).bind (·.zero)).map (·.cells.toList) = some zs) : cQ P t zs := by
 cases hi : P.info? t with
 | none => simp [hi] at h
 | some i =>
  cases hz : i.zero with
  | none => simp [hi, hz] at h
  | some z => exact ⟨i, z, hi, hz, by simpa [hi, hz] using h⟩
theorem rW {v : Value} (h : v.oneCell' = true) : v.cells = #[v] := by cases v <;> first | rfl | simp [Value.oneCell'] at h
section
variable {P : Program} {ρ : cF} {w w0 : World} {d : Option Tmp} {ty : TypeId} {pos : String} {af : Array Edge} {gd : Option (Nat × Bool)} {K : cF → World → Prop} {M : Nat → Prop} {L : List Res}
theorem ah {t : TypeId} {x : Operand} {a : Addr} {v : Value} (ht : cY P t) (hx : ev ρ x = .pointer (some a)) (hc : w.cell? a = some v) : Yv P ⟨d, .load t x, ty, pos, af, gd⟩ ρ w v w := by
 unfold Yv; simp [execOp, Instr.loadAt, hx, Instr.sureAddr, loadVar, ja ht, hc]
theorem p9 {t n : Nat} {x : Operand} {g o : Nat} {cs : List Value} (ht : gN P t n) (hx : ev ρ x = .pointer (some ⟨g, o, none⟩)) (hl : cs.length = n) (hc : ∀ j v, cs[j]? = some v → w.cell? ⟨g, o + j, none⟩ = some v) :
 Yv P ⟨d, .load t x, ty, pos, af, gd⟩ ρ w (.agg cs.toArray) w := by
 have h1 := lS (P := P) (w := w) ht
 obtain ⟨_, i, hi, hs⟩ := ht
 have h2 := run_loadCells_list (P := P) w ⟨g, o, none⟩ cs (fun j v hj => by rw [bY]; exact hc j v hj)
 rw [hl] at h2
 unfold Yv; simp [execOp, Instr.loadAt, hx, Instr.sureAddr, loadVar, h1, sizeOf, typeInfo, hi, hs, h2]
theorem St.load (H : St w0 M L w) {i g k : Nat} {cs : List Value} {T : TypeId} {t : TypeId} {x : Operand} {v : Value} (hi : L[i]? = some (aq g cs T)) (ht : cY P t) (hx : ev ρ x = .pointer (some ⟨g, k, none⟩)) (hk : cs[k]? = some v) :
 Yv P ⟨d, .load t x, ty, pos, af, gd⟩ ρ w v w := ah ht hx (H.cell hi hk)
theorem St.loadN (H : St w0 M L w) {i g o n : Nat} {cs vs : List Value} {T : TypeId} {t : TypeId} {x : Operand} (hi : L[i]? = some (aq g cs T)) (ht : gN P t n) (hx : ev ρ x = .pointer (some ⟨g, o, none⟩)) (hn : vs.length = n) (hk : ∀ j v, vs[j]? = some v → cs[o + j]? = some v) :
 Yv P ⟨d, .load t x, ty, pos, af, gd⟩ ρ w (.agg vs.toArray) w := p9 ht hx hn fun j v hj => H.cell hi (hk j v hj)
theorem mK (H : St w0 M L w) (i : Nat) {g k : Nat} {cs : List Value} {T : TypeId} {t : TypeId} {x y : Operand} {v : Value} (hi : L[i]? = some (aq g cs T)) (ht : cY P t) (hx : ev ρ x = .pointer (some ⟨g, k, none⟩)) (hk : k < cs.length) (hy : ev ρ y = v) (h1 : v.oneCell' = true)
 {L' : List Res} (h : ∀ w', St w0 M L' w' → K ρ w') (hL : L.set i (aq g (cs.set k v) T) = L' := by first | (simp only [List.set_cons_succ, List.set_cons_zero]; rfl) | rfl) : i4 P ⟨none, .store t x y, ty, pos, af, gd⟩ ρ w K := by
 subst hL
 refine .inr (.inl ⟨w.setCell ⟨g, k, none⟩ v, ?_, h _ (H.store hi k v)⟩)
 obtain ⟨_, j, hj, hs⟩ := ht
 have hc : w.cell? ⟨g, k, none⟩ = some (cs[k]'hk) := H.cell hi (List.getElem?_eq_getElem hk)
 have hadd : (⟨g, k, none⟩ : Addr).add 0 = ⟨g, k, none⟩ := bY g k 0
 unfold Yn
 simp [execOp, Instr.storeAt, hx, hy, Instr.sureAddr, storeVar, rW h1, sizeOf, typeInfo, hj, hs, storeCells, hadd, run_store P w _ v _ h1, hc, H.frozen hi k]
theorem fX (w : World) (g : Nat) (cs : Array Value) {k : Nat} (h : k ≠ g) : (w.setRow g cs).heap[k]? = w.heap[k]? := by
 simp [World.setRow, Array.getElem?_modify, Ne.symm h]
theorem ku (w : World) (g : Nat) (cs : Array Value) : (w.setRow g cs).heap.size = w.heap.size := by simp [World.setRow]
theorem St.setRow (H : St w0 M L w) {i g : Nat} {cs : List Value} {T : TypeId} (hi : L[i]? = some (aq g cs T)) (cs' : List Value) : St w0 M (L.set i (aq g cs' T)) (w.setRow g cs'.toArray) := by
 have hk : Keep w (fun k => k = g) (w.setRow g cs'.toArray) := ⟨rfl, rfl, rfl, by rw [ku]; exact Nat.le_refl _, fun j _ hj => fX w g _ hj⟩
 refine H.set_ hi (fun _ => Iff.rfl) (setRow_heap w g cs.toArray cs'.toArray T (0, 0) (H.heap hi)) (H.keep.trans hk ?_) (by rw [ku]; exact Nat.le_refl _) fun g' _ hg' => fX w g _ hg'
 rintro j hj rfl
 rcases H.own _ (eH hi) _ rfl with h1 | h1
 · exact h1
 · omega
theorem bE (H : St w0 M L w) (i : Nat) {g o m : Nat} {cs vs : List Value} {T : TypeId} {t : TypeId} {x y : Operand} (hi : L[i]? = some (aq g cs T)) (ht : (P.info? t).map (·.size) = some m) (hx : ev ρ x = .pointer (some ⟨g, o, none⟩)) (hy : ev ρ y = .agg vs.toArray) (hm : vs.length = m) (hk : o + m ≤ cs.length) (h1 : ∀ v ∈ vs, v.oneCell' = true)
 {cs' : List Value} (hcs : cs.take o ++ vs ++ cs.drop (o + m) = cs')
 {L' : List Res} (h : ∀ w', St w0 M L' w' → K ρ w') (hL : L.set i (aq g cs' T) = L' := by first | (simp only [List.set_cons_succ, List.set_cons_zero]; rfl) | rfl) : i4 P ⟨none, .store t x y, ty, pos, af, gd⟩ ρ w K := by
 subst hcs
 subst hL
 refine .inr (.inl ⟨w.setRow g (cs.take o ++ vs ++ cs.drop (o + m)).toArray, ?_, h _ (H.setRow hi _)⟩)
 have hst := run_storeCells_at P g o T vs 0 cs.toArray w (H.heap hi) (by simp; omega) h1
 subst hm
 cases hq : P.info? t with
 | none => simp [hq] at ht
 | some j =>
  have hs : j.size = vs.length := by simpa [hq] using ht
  unfold Yn
  simp [execOp, Instr.storeAt, hx, hy, Instr.sureAddr, storeVar, Value.cells, sizeOf, typeInfo, hq, hs, hst]
theorem aK (H : St w0 M L w) {t : TypeId} {zs : List Value} (hz : cQ P t zs) (h : ∀ g w', w.heap.size ≤ g → St w0 M (aq g zs t :: L) w' → K (dM ρ d (.pointer (some ⟨g, 0, none⟩))) w') : i4 P ⟨d, .alloc t, ty, pos, af, gd⟩ ρ w K := by
 obtain ⟨i, z, hi, hz0, rfl⟩ := hz
 refine i3 (v := .pointer (some ⟨w.heap.size, 0, none⟩)) (w' := w.alloc (.cells z.cells.toList.toArray t)) ?_ (h _ _ (Nat.le_refl _) (H.new _ t))
 unfold Yv; simp [execOp, Instr.alloc, zeroValue, typeInfo, hi, hz0, newVar, newRow]
theorem ee (H : St w0 M L w) {t : TypeId} {x : Operand} {v : Value} {vs : List Value} (hx : ev ρ x = v) (hv : v.cells.toList = vs) (h : ∀ g w', w.heap.size ≤ g → St w0 M (aq g vs t :: L) w' → K (dM ρ d (.pointer (some ⟨g, 0, none⟩))) w') : i4 P ⟨d, .box t x, ty, pos, af, gd⟩ ρ w K := by
 subst hv
 refine i3 (v := .pointer (some ⟨w.heap.size, 0, none⟩)) (w' := w.alloc (.cells v.cells.toList.toArray t)) ?_ (h _ _ (Nat.le_refl _) (H.new _ t))
 unfold Yv; simp [execOp, Instr.box, hx, newVar, newRow]
theorem uj {t : TypeId} {parts : Array (Nat × Operand)} {ps : List (Nat × Value)} {cells : Array Value} (hp : (parts.map fun (i, x) => (i, ev ρ x)).toList = ps) (hb : P.built t ps = some cells) : Yv P ⟨d, .build t parts, ty, pos, af, gd⟩ ρ w (.agg cells) w := by
 subst hp
 unfold Yv
 simp only [execOp]
 rw [Sem.run_bind, run_build w t _ cells hb]
 rfl
def l4 (P : Program) (t : TypeId) (len : Nat) (ps : List (Nat × Value)) : Option (TypeId × List Value) :=
 match P.underlying t with
 | some (.slice e) => match P.info? e with
  | some i => if len * i.size > 2 ^ 24 then none else
   match (if len * i.size = 0 then some (#[] : Array Value) else i.zero.map (·.cells)) with
   | some zero => (Instr.fill (fun j => some (j * i.size, i.size)) ((Array.range (len * i.size)).map (zero[· % zero.size]!)) ps).map fun cs => (e, cs.toList)
   | none => none
  | none => none
 | _ => none
theorem li {t : TypeId} {len : Nat} {parts : Array (Nat × Value)} {e : TypeId} {cs : List Value} (h : l4 P t len parts.toList = some (e, cs)) :
 (Instr.buildSlice t len parts).run P w = .ok (.slice (some ⟨w.heap.size, 0, none⟩) len len) (w.alloc (.cells cs.toArray e)) := by
 unfold l4 at h
 cases hu : P.underlying t with
 | none => simp [hu] at h
 | some u =>
  cases u <;> simp only [hu] at h <;> try (cases h; done)
  rename_i e'
  cases hi : P.info? e' with
  | none => simp [hi] at h
  | some i =>
   simp only [hi] at h
   by_cases hsz : len * i.size > 2 ^ 24
   · simp [hsz] at h
   · rw [if_neg hsz] at h
     by_cases h0 : len * i.size = 0
     · rw [if_pos h0] at h
       simp only [Option.map_eq_some_iff] at h
       obtain ⟨c, hc, he⟩ := h
       injection he with he1 he2
       subst he1; subst he2
       rw [h0] at hc
       simp only [Instr.buildSlice, Sem.run_bind, run_underlying hu, Result.andThen_ok, sizeOf, typeInfo, run_program, hi, Sem.run_pure, Sem.run_ite, hsz, if_false, h0, if_true]
       simp only [Array.range_zero', List.map_nil] at hc
       have e0 : (Array.map (fun x => (default : Value)) (Array.range 0)) = #[] := by simp
       simp only [Array.map_empty] at hc
       simp [hc, newRow, h0]
       rw [e0, hc]
       rfl
     · rw [if_neg h0] at h
       cases hz : i.zero with
       | none => simp [hz] at h
       | some z =>
        simp only [hz, Option.map_some, Option.map_eq_some_iff] at h
        obtain ⟨c, hc, he⟩ := h
        injection he with he1 he2
        subst he1; subst he2
        simp [Instr.buildSlice, run_underlying hu, sizeOf, typeInfo, zeroValue, hi, hz, hsz, h0, newRow, hc]
theorem mN (H : St w0 M L w) {t : TypeId} {len : Nat} {parts : Array (Nat × Operand)} {ps : List (Nat × Value)} {e : TypeId} {cs : List Value} (hp : (parts.map fun (i, x) => (i, ev ρ x)).toList = ps) (hb : l4 P t len ps = some (e, cs))
 (h : ∀ g w', w.heap.size ≤ g → St w0 M (aq g cs e :: L) w' → K (dM ρ d (.slice (some ⟨g, 0, none⟩) len len)) w') : i4 P ⟨d, .buildSlice t len parts, ty, pos, af, gd⟩ ρ w K := by
 subst hp
 refine i3 (v := .slice (some ⟨w.heap.size, 0, none⟩) len len) (w' := w.alloc (.cells cs.toArray e)) ?_ (h _ _ (Nat.le_refl _) (H.new _ e))
 unfold Yv
 simp only [execOp]
 rw [Sem.run_bind, li hb]
 rfl
theorem mL (H : St w0 M L w) {t e : TypeId} {z : Value} {sz bytes : Nat} {x y : Operand} {kl kc : IntKind} {l c : Int} (ht : P.underlying t = some (.slice e)) (hinfo : (P.info? e).map (fun i => (i.zero, i.size, i.bytes)) = some (some z, sz, bytes)) (hx : ev ρ x = .int kl l) (hy : ev ρ y = .int kc c) (h0 : 0 ≤ l) (hlc : l ≤ c) (hb : (bytes : Int) * c ≤ 281474976710656) (h63 : c ≤ 9223372036854775807)
 (h : ∀ g w', w.heap.size ≤ g → St w0 M (aq g (madeCells z.cells (c.toNat * sz)).toList e :: L) w' → K (dM ρ d (.slice (some ⟨g, 0, none⟩) l.toNat c.toNat)) w') : i4 P ⟨d, .makeSlice t x y, ty, pos, af, gd⟩ ρ w K := by
 obtain ⟨i, hi, hz⟩ := Option.map_eq_some_iff.1 hinfo
 simp only [Prod.mk.injEq] at hz
 obtain ⟨hz0, rfl, rfl⟩ := hz
 refine i3 (v := .slice (some ⟨w.heap.size, 0, none⟩) l.toNat c.toNat) (w' := w.alloc (.cells (madeCells z.cells (c.toNat * i.size)).toList.toArray e)) ?_ (h _ _ (Nat.le_refl _) (H.new _ e))
 unfold Yv
 simp only [execOp]
 rw [Sem.run_bind, hx, hy, run_make (P := P) w t e i z ht hi hz0 kl kc l c h0 hlc hb h63]
 rfl
def aH (e : TypeId) (sz : Nat) (v : Value) (n : Nat) (xs : List Value) : Res where
 F := fun k => v.ownBlock = some k
 φ := fun w => w.ownsRow 0 e sz v n xs
 live := fun w g h hg => (World.ownsRow.lt h g hg).2
 stay := fun w w' h hk => by
  refine ⟨h.1, ?_⟩
  rcases h.2 with hn | ⟨g, cap, cur, rfl, hb, hgg, rest⟩
  · exact .inl hn
  · exact .inr ⟨g, cap, cur, rfl, hb, by rw [hk g rfl]; exact hgg, rest⟩
theorem St.move (H : St w0 M L w) {i : Nat} {r r' : Res} {w' : World} (hi : L[i]? = some r) (hφ : r'.φ w') (hF : ∀ g, r'.F g → r.F g ∨ w.heap.size ≤ g) (hk : Keep w r.F w') : St w0 M (L.set i r') w' := by
 have hK : Keep w0 M w' := H.keep.trans hk fun g hg hr => by
  rcases H.own r (eH hi) g hr with h1 | h1
  · exact h1
  · omega
 have hil : i < L.length := (List.getElem?_eq_some_iff.1 hi).1
 have hother : ∀ (j : Nat) (x : Res), L[j]? = some x → j ≠ i → ∀ g, r'.F g → ¬ x.F g := fun j x hj hne g hg hxg => by
  rcases hF g hg with h1 | h1
  · rcases Nat.lt_or_gt_of_ne hne with h2 | h2
    · exact H.ne hj hi h2 hxg h1
    · exact H.ne hi hj h2 h1 hxg
  · have := x.live _ _ (H.get hj) hxg
    omega
 refine ⟨hK, fun x hx => ?_, fun x hx g hg => ?_, ?_⟩
 · obtain ⟨j, hj⟩ := List.getElem?_of_mem hx
   rw [List.getElem?_set] at hj
   split at hj
   · have hx' : r' = x := by
      first
       | (injection hj; done)
       | (injection hj with hj; exact hj)
       | (rw [if_pos (by omega)] at hj; injection hj with hj; exact hj)
     subst hx'; exact hφ
   · rename_i hij
     refine x.stay w _ (H.get hj) fun g hg => hk.block g (x.live _ _ (H.get hj) hg) fun hr => ?_
     rcases Nat.lt_or_gt_of_ne hij with h1 | h1
     · exact H.ne hi hj h1 hr hg
     · exact H.ne hj hi h1 hg hr
 · rcases List.mem_or_eq_of_mem_set hx with hx | rfl
   · exact H.own x hx g hg
   · rcases hF g hg with h1 | h1
     · exact H.own r (eH hi) g h1
     · exact .inr (Nat.le_trans H.keep.size h1)
 · rw [List.pairwise_iff_getElem]
   intro a b ha hb hab g hga hgb
   simp only [List.length_set] at ha hb
   rw [List.getElem_set] at hga hgb
   split at hga
   · rename_i hia
     subst hia
     rw [if_neg (by omega)] at hgb
     exact hother b _ (List.getElem?_eq_getElem hb) (by omega) g hga hgb
   · split at hgb
     · rename_i hib
       subst hib
       exact hother a _ (List.getElem?_eq_getElem ha) (by omega) g hgb hga
     · exact H.ne (List.getElem?_eq_getElem ha) (List.getElem?_eq_getElem hb) hab hga hgb
theorem lX {w w' : World} {v : Value} (h : w.grownBy w' v.ownBlock) : Keep w (fun k => v.ownBlock = some k) w' :=
 ⟨h.os, h.tape, h.output, h.size, fun k hk hn => h.block k hk fun e => hn e.symm⟩
theorem th (H : St w0 M L w) (i : Nat) {s x : Operand} {t e : TypeId} {z : Value} {sz bytes n m c : Nat} {v : Value} {xs news : List Value} {a : Addr} (hi : L[i]? = some (aH e sz v n xs))
 (ht : P.underlying t = some (.slice e)) (hinfo : (P.info? e).map (fun i => (i.zero, i.size, i.bytes)) = some (some z, sz, bytes)) (hzs : z.cells.size = sz) (hsz : 0 < sz) (hs : ev ρ s = v) (hx : ev ρ x = .slice (some a) m c)
 (hl : news.length = m * sz) (hnews : ∀ j u, news[j]? = some u → w.cell? (a.add j) = some u) (h1 : ∀ u ∈ news, u.oneCell' = true) (h63 : n + m ≤ maxLen) (hbytes : (n + m) * bytes ≤ 140737488355328)
 (h : ∀ v' w', St w0 M (L.set i (aH e sz v' (n + m) (xs ++ news))) w' → K (dM ρ d v') w') : i4 P ⟨d, .call { callee := .builtin .append, args := #[s, x], argTypes := #[t, t] }, ty, pos, af, gd⟩ ρ w K := by
 obtain ⟨i0, hi0, hz⟩ := Option.map_eq_some_iff.1 hinfo
 simp only [Prod.mk.injEq] at hz
 obtain ⟨hz0, hz1, hz2⟩ := hz
 obtain ⟨v', w', hr, h2, h3, _, h5⟩ := run_append_own_at (P := P) w 0 t ty e i0 z sz bytes ht hi0 hz0 hz1 hz2 hzs hsz v n xs (H.get hi) a m c news hl hnews h1 h63 hbytes (Nat.zero_le _)
 refine i3 (v := v') (w' := w') ?_ (h v' w' (H.move hi (r' := aH e sz v' (n + m) (xs ++ news)) h2 ?_ (lX h3)))
 · unfold Yv; simp [execOp, resolve, invoke, builtin, hs, hx, hr]
 · intro g hg
   have hg' : v'.ownBlock = some g := hg
   rcases h5 with h5 | h5
   · exact .inl (by show v.ownBlock = some g; rw [← h5]; exact hg')
   · rw [h5] at hg'; injection hg' with hg'; exact .inr (by omega)
theorem mM (H : St w0 M L w) (i : Nat) {s x : Operand} {dT sT e T : TypeId} {g o dLen dCap sLen sCap : Nat} {a : Addr} {cs vs : List Value} (hi : L[i]? = some (aq g cs T)) (ht : P.underlying dT = some (.slice e)) (hs1 : (P.info? e).map (·.size) = some 1)
 (hs : ev ρ s = .slice (some ⟨g, o, none⟩) dLen dCap) (hx : ev ρ x = .slice (some a) sLen sCap) (hn : vs.length = Nat.min sLen dLen) (hsrc : ∀ j v, vs[j]? = some v → w.cell? (a.add j) = some v) (hfit : o + vs.length ≤ cs.length) (h1 : ∀ v ∈ vs, v.oneCell' = true)
 (h : ∀ w', St w0 M (L.set i (aq g (cs.take o ++ vs ++ cs.drop (o + vs.length)) T)) w' → K (dM ρ d (.int .i64 vs.length)) w') : i4 P ⟨d, .call { callee := .builtin .copy, args := #[s, x], argTypes := #[dT, sT] }, ty, pos, af, gd⟩ ρ w K := by
 have hr := run_copy_row (P := P) w dT sT ty e g o dLen dCap a sLen sCap cs.toArray T vs ht hs1 (H.heap hi) hn hsrc (by simpa using hfit) h1
 have hr' : (Builtin.copy_ #[dT, sT] ty #[.slice (some ⟨g, o, none⟩) dLen dCap, .slice (some a) sLen sCap]).run P w = .ok (goInt vs.length) (w.setRow g (cs.take o ++ vs ++ cs.drop (o + vs.length)).toArray) := by simpa using hr
 refine i3 (v := .int .i64 vs.length) (w' := w.setRow g (cs.take o ++ vs ++ cs.drop (o + vs.length)).toArray) ?_ (h _ (H.setRow hi _))
 unfold Yv; simp only [execOp]; simp [resolve, invoke, builtin, hs, hx, hr', goInt]
def aX (P : Program) (f : FuncId) : Prop := ∃ fn, P.funcs[f]? = some fn ∧ (fn.name == "runtime.NumGoroutine") = false ∧ fn.body.isNone = false
def vA (P : Program) (f : FuncId) : Bool := match P.funcs[f]? with
 | some fn => !(fn.name == "runtime.NumGoroutine") && !fn.body.isNone
 | none => false
theorem aJ {f : FuncId} (h : vA P f = true) : aX P f := by
 unfold vA at h
 split at h
 · rename_i fn hf
   simp only [Bool.and_eq_true, Bool.not_eq_true'] at h
   exact ⟨fn, hf, h.1, h.2⟩
 · cases h
theorem jy {f : FuncId} (hf : aX P f) (args : Array Value) : (callFunc f args).run P w = .ok (.enter f args) w := by
 obtain ⟨fn, h1, h2, h3⟩ := hf
 have h2' : ¬ fn.name = "runtime.NumGoroutine" := by simpa using h2
 have h3' : ¬ fn.body = none := by intro e; rw [e] at h3; cases h3
 simp [callFunc, h1, h2', h3']
theorem vV {f : FuncId} {xs : Array Operand} {ts : Array TypeId} {args : Array Value} (hf : aX P f) (ha : xs.map (ev ρ) = args) (h : Calls P f args w fun e w'' => ∃ v, e = .returned v ∧ K (dM ρ d v) w'') :
 i4 P ⟨d, .call { callee := .value (.func f), args := xs, argTypes := ts }, ty, pos, af, gd⟩ ρ w K := by
 subst ha
 refine .inr (.inr ⟨f, xs.map (ev ρ), w, ?_, h⟩)
 have hc := jy (P := P) (w := w) hf (xs.map (ev ρ))
 unfold Ye; simp [execOp, resolve, ev, Deferred.ofValue, invoke, hc]
theorem tg {r : Operand} {name : String} {xs : Array Operand} {ts : Array TypeId} {t : TypeId} {u recv : Value} {f : FuncId} {args : Array Value} (hr : ev ρ r = .iface t u) (hm : (method (P.types.size + Made.depth) t u name).run P w = .ok (f, recv) w) (hf : aX P f)
 (ha : #[recv] ++ xs.map (ev ρ) = args) (h : Calls P f args w fun e w'' => ∃ v, e = .returned v ∧ K (dM ρ d v) w'') :
 i4 P ⟨d, .call { callee := .invoke r name, args := xs, argTypes := ts }, ty, pos, af, gd⟩ ρ w K := by
 subst ha
 refine .inr (.inr ⟨f, #[recv] ++ xs.map (ev ρ), w, ?_, h⟩)
 have hc := jy (P := P) (w := w) hf (#[recv] ++ xs.map (ev ρ))
 have he : (#[Value.iface t u] ++ xs.map (ev ρ)).extract 1 (#[Value.iface t u] ++ xs.map (ev ρ)).size = xs.map (ev ρ) := by
  apply Array.ext'
  rw [Array.toList_extract, List.extract_eq_take_drop]
  simp [List.take_of_length_le]
 have h0 : (#[Value.iface t u] ++ xs.map (ev ρ))[0]? = some (.iface t u) := by
  rw [Array.getElem?_append_left (by simp)]
  rfl
 unfold Ye
 simp only [execOp, resolve, Sem.run_bind, Sem.run_pure, Result.andThen_ok, hr]
 show (invoke (.fn (.method name) #[]) (#[Value.iface t u] ++ xs.map (ev ρ))).run P w = _
 unfold invoke
 simp only [h0]
 unfold callMethod
 simp only [Sem.run_bind, run_program, Result.andThen_ok, hm]
 rw [he]
 exact hc
def RI (k : IntKind) (w : World) (A : Option Addr) (n : Nat) (xs : List Int) : Prop :=
 xs.length = n ∧ (0 < n → ∃ g o, A = some ⟨g, o, none⟩ ∧ ∀ j, j < n → w.cell? ⟨g, o + j, none⟩ = some (.int k (xs.getD j 0)))
theorem RI.keep {k : IntKind} {w w' : World} {A : Option Addr} {n : Nat} {xs : List Int} {M : Nat → Prop} (h : RI k w A n xs) (hk : Keep w M w') (hM : ∀ a, A = some a → ¬ M a.block) : RI k w' A n xs :=
 ⟨h.1, fun hn => by
  obtain ⟨g, o, rfl, hc⟩ := h.2 hn
  refine ⟨g, o, rfl, fun j hj => ?_⟩
  have hlt := World.block_lt_of_cell? w _ (hc j hj)
  rw [World.cell?_of_block (hk.block g hlt (hM _ rfl))]
  exact hc j hj⟩
theorem RI.at_ {k : IntKind} {w : World} {A : Option Addr} {n : Nat} {xs : List Int} (h : RI k w A n xs) {j : Nat} (hj : j < n) : ∃ g o, A = some ⟨g, o, none⟩ ∧ w.cell? ⟨g, o + j, none⟩ = some (.int k (xs.getD j 0)) := by
 obtain ⟨g, o, rfl, hc⟩ := h.2 (by omega)
 exact ⟨g, o, rfl, hc j hj⟩
theorem RI.cut {k : IntKind} {w : World} {A : Option Addr} {n c l m : Nat} {xs : List Int} (h : RI k w A n xs) (hl : l ≤ m) (hm : m ≤ n) (hc : n ≤ c) : RI k w (cR A c l 1) (m - l) ((xs.drop l).take (m - l)) := by
 refine ⟨by rw [List.length_take, List.length_drop, h.1]; omega, fun hn => ?_⟩
 obtain ⟨g, o, rfl, hcl⟩ := h.2 (by omega)
 refine ⟨g, o + l, ?_, fun j hj => ?_⟩
 · unfold cR
   rw [if_neg (by omega)]
   simp [bY]
 · rw [Nat.add_assoc, hcl (l + j) (by omega)]
   simp [List.getD_eq_getElem?_getD, List.getElem?_take, hj]
theorem RI.nil (k : IntKind) (w : World) (A : Option Addr) : RI k w A 0 [] := ⟨rfl, fun h => absurd h (by omega)⟩
theorem RI.of_blk {k : IntKind} {w : World} {g : Nat} {cs : List Value} {T : TypeId} {xs : List Int} (h : w.heap[g]? = some (.cells cs.toArray T (0, 0))) (o : Nat) (hx : ∀ j, j < xs.length → cs[o + j]? = some (.int k (xs.getD j 0))) : RI k w (some ⟨g, o, none⟩) xs.length xs :=
 ⟨rfl, fun _ => ⟨g, o, rfl, fun j hj => bS h (hx j hj)⟩⟩
theorem dN {s t e : TypeId} {x : Operand} {A : Option Addr} {n c : Nat} {xs : List Int} (hs : P.underlying s = some (.slice e)) (he : P.underlying e = some (.int .u8)) (ht : P.underlying t = some .string) (hx : ev ρ x = .slice A n c) (hr : RI .u8 w A n xs) (hA : A = none → n = 0) :
 Yv P ⟨d, .convert s t x, ty, pos, af, gd⟩ ρ w (.string (strOfNums xs)) w := by
 have : (convert s t (.slice A n c)).run P w = .ok (.string (strOfNums xs)) w := by
  rcases Nat.eq_zero_or_pos n with h0 | h0
  · subst h0
    have hxs : xs = [] := List.eq_nil_of_length_eq_zero hr.1
    subst hxs
    cases A with
    | none => exact run_convert_bytes_nil w s e hs he 0 c t ht
    | some a =>
     rw [run_convert_bytes_string w s t e _ 0 c hs he ht, run_bytesToString w a 0 c [] (by simp [loadCells, loadCellsFrom])]
     rfl
  · obtain ⟨g, o, rfl, hc⟩ := hr.2 h0
    exact run_convert_bytes_arg w s e hs he g o n c xs hr.1 hc t ht
 unfold Yv; simp [execOp, hx, this]
end
end Go.Proofs.YtlndedfkgiafhaaDoor
namespace Go.Proofs.YtlndedfkgiafhaaDoor
open Go Go.RowKit
section
variable {P : Program} {n : Nat} {Q : QE} {ρ : cF} {w w' : World} {ops : Array Oper} {l : List Oper} {d : Nat} {op : Op} {ty : TypeId} {pos : String} {af : Array Edge} {gd : Option (Nat × Bool)} {v : Value}
theorem wv (hd : Nat.blt d n = true) (hy : Yv P ⟨some d, op, ty, pos, af, none⟩ ρ w v w') (h : WL P n ops l Q (iz ρ d v) w') : WL P n ops (⟨some d, op, ty, pos, af, none⟩ :: l) Q ρ w :=
 WL_v (o := ⟨some d, op, ty, pos, af, none⟩) rfl hd hy h
theorem aP (hd : Nat.blt d n = true) (hw : cX ⟨some d, op, ty, pos, af, gd⟩ ops ρ n = true) (hy : Yv P ⟨some d, op, ty, pos, af, gd⟩ ρ w v w') (h : WL P n ops l Q (iz ρ d v) w') : WL P n ops (⟨some d, op, ty, pos, af, gd⟩ :: l) Q ρ w :=
 tv (o := ⟨some d, op, ty, pos, af, gd⟩) hw hd hy h
theorem cM (hd : Nat.blt d n = true) (hw : cX ⟨some d, op, ty, pos, af, gd⟩ ops ρ n = false) (h : WL P n ops l Q (iz ρ d undef) w) : WL P n ops (⟨some d, op, ty, pos, af, gd⟩ :: l) Q ρ w :=
 WL_no (o := ⟨some d, op, ty, pos, af, gd⟩) hw hd h
theorem wm (hd : Nat.blt d n = true) (h : i4 P ⟨some d, op, ty, pos, af, none⟩ ρ w (WL P n ops l Q)) : WL P n ops (⟨some d, op, ty, pos, af, none⟩ :: l) Q ρ w :=
 vB (o := ⟨some d, op, ty, pos, af, none⟩) rfl hd h
theorem sJ (hd : Nat.blt d n = true) (hw : cX ⟨some d, op, ty, pos, af, gd⟩ ops ρ n = true) (h : i4 P ⟨some d, op, ty, pos, af, gd⟩ ρ w (WL P n ops l Q)) : WL P n ops (⟨some d, op, ty, pos, af, gd⟩ :: l) Q ρ w :=
 tw (o := ⟨some d, op, ty, pos, af, gd⟩) hw hd h
theorem ws (h : i4 P ⟨none, op, ty, pos, af, none⟩ ρ w (WL P n ops l Q)) : WL P n ops (⟨none, op, ty, pos, af, none⟩ :: l) Q ρ w :=
 vB (o := ⟨none, op, ty, pos, af, none⟩) rfl rfl h
theorem ac {K : cF → World → Prop} (h : K ρ w) : gQ K Q .normal ρ w := h
theorem ax {K : cF → World → Prop} (h : Q .ret ρ w) : gQ K Q .ret ρ w := h
theorem a8 {K : cF → World → Prop} {i : Nat} (h : Q (.exit i) ρ w) : gQ K Q (.exit i) ρ w := h
theorem ao {id : Nat} (h : Q .normal ρ w) : mx id Q .normal ρ w := h
theorem aB {id : Nat} (h : Q .ret ρ w) : mx id Q .ret ρ w := h
theorem aY {id : Nat} (h : Q .normal ρ w) : mx id Q (.exit id) ρ w := by
 show (if id = id then Q .normal ρ w else Q (.exit id) ρ w)
 rw [if_pos rfl]; exact h
theorem lq {id i : Nat} (hne : Nat.beq i id = false) (h : Q (.exit i) ρ w) : mx id Q (.exit i) ρ w := by
 show (if i = id then Q .normal ρ w else Q (.exit i) ρ w)
 rw [if_neg (by intro e; subst e; simp at hne)]; exact h
variable {S : World → Prop} {p q r : Plan} {i : Nat}
theorem pt (ho : ops[i]? = some ⟨some d, op, ty, pos, af, none⟩) (hS : S w) (hy : ∀ w, S w → Yv P ⟨some d, op, ty, pos, af, none⟩ ρ w v w) (h : PW P n ops Q S p (iz ρ d v) w) : PW P n ops Q S (.take i p) ρ w :=
 vm hS ho rfl hy h
theorem pr (ho : ops[i]? = some ⟨some d, op, ty, pos, af, none⟩) (h : i4 P ⟨some d, op, ty, pos, af, none⟩ ρ w fun ρ' w' => S w' ∧ PW P n ops Q S p ρ' w') : PW P n ops Q S (.run i p) ρ w :=
 lM ho rfl h
theorem po {K : cF → World → Prop} (ho : ops[i]? = some ⟨some d, op, ty, pos, af, none⟩) (h : i4 P ⟨some d, op, ty, pos, af, none⟩ ρ w K) : n6 P n ops i K ρ w := lM ho rfl h
theorem rJ {K : cF → World → Prop} (ho : ops[i]? = some ⟨none, op, ty, pos, af, none⟩) (h : i4 P ⟨none, op, ty, pos, af, none⟩ ρ w K) : n6 P n ops i K ρ w := lM ho rfl h
theorem aa {f : FuncId} {args : Array Value} {R : Ending → World → Prop} {K : Value → World → Prop} (h : Calls P f args w R) (hR : ∀ e w', R e w' → ∃ v, e = .returned v ∧ K v w') : Calls P f args w fun e w' => ∃ v, e = .returned v ∧ K v w' := h.mono hR
end
theorem St.perm {w0 w : World} {M : Nat → Prop} {L L' : List Res} (h : St w0 M L w) (hp : L.Perm L') : St w0 M L' w :=
 ⟨h.keep, fun r hr => h.all r (hp.mem_iff.2 hr), fun r hr => h.own r (hp.mem_iff.2 hr), (hp.pairwise_iff (fun {r s} hrs g hs hr => hrs g hr hs)).1 h.sep⟩
section
variable {P : Program} {ρ : cF} {w w0 : World} {d : Option Tmp} {ty : TypeId} {pos : String} {af : Array Edge} {gd : Option (Nat × Bool)} {K : cF → World → Prop} {M : Nat → Prop} {L : List Res}
theorem kF {α β : Type} (f : α → β) (xs : Array α) {l : List β} (h : xs.toList.map f = l) : xs.map f = l.toArray := by
 subst h; rw [← Array.toList_map]
theorem ec {f : FuncId} {xs : Array Operand} {ts : Array TypeId} {args : List Value} (hf : aX P f) (ha : xs.toList.map (ev ρ) = args) (h : Calls P f args.toArray w fun e w'' => ∃ v, e = .returned v ∧ K (dM ρ d v) w'') :
 i4 P ⟨d, .call { callee := .value (.func f), args := xs, argTypes := ts }, ty, pos, af, gd⟩ ρ w K :=
 vV hf (kF _ _ ha) h
theorem ei {r : Operand} {name : String} {xs : Array Operand} {ts : Array TypeId} {t : TypeId} {u recv : Value} {f : FuncId} {args : List Value} (hr : ev ρ r = .iface t u) (hm : (method (P.types.size + Made.depth) t u name).run P w = .ok (f, recv) w) (hf : aX P f)
 (ha : xs.toList.map (ev ρ) = args) (h : Calls P f (recv :: args).toArray w fun e w'' => ∃ v, e = .returned v ∧ K (dM ρ d v) w'') :
 i4 P ⟨d, .call { callee := .invoke r name, args := xs, argTypes := ts }, ty, pos, af, gd⟩ ρ w K :=
 tg hr hm hf (by rw [kF _ _ ha]; simp) h
theorem yb {t : TypeId} {parts : Array (Nat × Operand)} {ps : List (Nat × Value)} {cells : Array Value} (hp : parts.toList.map (fun p => (p.1, ev ρ p.2)) = ps) (hb : P.built t ps = some cells) : Yv P ⟨d, .build t parts, ty, pos, af, gd⟩ ρ w (.agg cells) w :=
 uj (ps := ps) (by rw [Array.toList_map]; exact hp) hb
theorem jv (H : St w0 M L w) {t : TypeId} {len : Nat} {parts : Array (Nat × Operand)} {ps : List (Nat × Value)} {e : TypeId} {cs : List Value} (hp : parts.toList.map (fun p => (p.1, ev ρ p.2)) = ps) (hb : l4 P t len ps = some (e, cs))
 (h : ∀ g w', w.heap.size ≤ g → St w0 M (aq g cs e :: L) w' → K (dM ρ d (.slice (some ⟨g, 0, none⟩) len len)) w') : i4 P ⟨d, .buildSlice t len parts, ty, pos, af, gd⟩ ρ w K :=
 mN H (ps := ps) (by rw [Array.toList_map]; exact hp) hb h
theorem n7 {fn : Fn} {fs cs : Array Operand} {vs : List Value} (hf : fs.toList.map (ev ρ) = vs) (hc : cs.toList = []) : Yv P ⟨d, .makeFunc fn fs cs, ty, pos, af, gd⟩ ρ w (.func fn vs.toArray #[]) w := by
 have h : Yv P ⟨d, .makeFunc fn fs cs, ty, pos, af, gd⟩ ρ w (.func fn (fs.map (ev ρ)) (cs.map (ev ρ))) w := oU
 rw [kF _ _ hf] at h
 have hc' : cs = #[] := Array.toList_eq_nil_iff.1 hc
 subst hc'
 simpa using h
end
theorem aE {x : Int} (h : -9223372036854775808 ≤ x) (h' : x ≤ 9223372036854775807) : IntKind.i64.wrap x = x := by rw [IntKind.wrap_i64]; omega
theorem r7 {k : IntKind} {x : Int} (hs : k.signed = false) (h : 0 ≤ x) (h' : x < 2 ^ k.bits) : k.wrap x = x := by
 unfold IntKind.wrap
 rw [hs]
 simp only [Bool.false_and, Bool.false_eq_true, if_false]
 exact Int.emod_eq_of_lt h h'
theorem a6 {x : Int} (h : 0 ≤ x) (h' : x ≤ 18446744073709551615) : IntKind.u64.wrap x = x := r7 rfl h (by simp only [IntKind.bits]; omega)
theorem d6 {x : Int} (h : 0 ≤ x) (h' : x ≤ 4294967295) : IntKind.u32.wrap x = x := r7 rfl h (by simp only [IntKind.bits]; omega)
theorem jd {x : Int} (h : 0 ≤ x) (h' : x ≤ 65535) : IntKind.u16.wrap x = x := r7 rfl h (by simp only [IntKind.bits]; omega)
theorem fw {x : Int} (h : 0 ≤ x) (h' : x ≤ 255) : IntKind.u8.wrap x = x := r7 rfl h (by simp only [IntKind.bits]; omega)
theorem Keep.cell {w w' : World} {M : Nat → Prop} (h : Keep w M w') {a : Addr} {v : Value} (hc : w.cell? a = some v) (hM : ¬ M a.block) : w'.cell? a = some v :=
 (World.cell?_of_block (h.block a.block (World.block_lt_of_cell? w a hc) hM)).trans hc
theorem aN (g : Nat) : ¬ aW g := fun h => h
theorem a5 {P : Program} {f : FuncId} {fn : Func} {c : Code} {args : List Value} {n : Nat} {w : World} {R : Ending → World → Prop} (hf : P.funcs[f]? = some fn) (hb : fn.body = some c) (hnt : fn.ntmps = n) (hn : Nat.ble args.length n = true)
 (h : W P n c (fun e ρ w' => (e = .normal ∨ e = .ret) ∧ ∃ v, (∀ tmps : Array Value, (∀ t, tmps.getD t undef = ρ t) → (results fn tmps).run P w' = .ok v w') ∧ R (.returned v) w') (vR args) w) : Calls P f args.toArray w R := by
 subst hnt
 exact pw hf hb (by simpa using Nat.le_of_ble_eq_true hn) (by simpa using h)
end Go.Proofs.YtlndedfkgiafhaaDoor
namespace Go.Proofs.YtlndedfkgiafhaaDoor
open Go Go.RowKit
theorem ez {k : Nat} {x : Int} (h0 : 0 ≤ x) (h : x < 2 ^ k) : (BitVec.ofInt k x).toNat = x.toNat := by
 obtain ⟨m, rfl⟩ := Int.eq_ofNat_of_zero_le h0
 rw [BitVec.ofInt_natCast, BitVec.toNat_ofNat, Int.toNat_natCast]
 refine Nat.mod_eq_of_lt ?_
 have : ((m : Nat) : Int) < ((2 ^ k : Nat) : Int) := by push_cast; exact h
 omega
theorem vN {j : Nat} {x y : Nat} (hx : x < 2 ^ j) : y * 2 ^ j ||| x = y * 2 ^ j + x := by
 rw [Nat.mul_comm, Nat.two_pow_add_eq_or_of_lt hx]
theorem lj {k : IntKind} {j : Nat} {x y z : Int} (hk : k.signed = false) (hj : (2 : Int) ^ j * z ≤ 2 ^ k.bits) (hx0 : 0 ≤ x) (hx : x < 2 ^ j) (hy0 : 0 ≤ y) (hy : y < z) :
 k.wrap (BitVec.ofInt k.bits (y * 2 ^ j) ||| BitVec.ofInt k.bits x).toNat = y * 2 ^ j + x := by
 obtain ⟨a, rfl⟩ := Int.eq_ofNat_of_zero_le hx0
 obtain ⟨b, rfl⟩ := Int.eq_ofNat_of_zero_le hy0
 have hp : (0 : Int) < 2 ^ j := Int.pow_pos (by decide)
 have h1 : (b : Int) * 2 ^ j + a < 2 ^ k.bits := by
  have : ((b : Int) + 1) * 2 ^ j ≤ z * 2 ^ j := Int.mul_le_mul_of_nonneg_right (by omega) (by omega)
  rw [Int.mul_comm z] at this
  have h2 : ((b : Int) + 1) * 2 ^ j = b * 2 ^ j + 2 ^ j := by rw [Int.add_mul]; omega
  omega
 have h0 : (0 : Int) ≤ b * 2 ^ j := Int.mul_nonneg (by omega) (by omega)
 rw [BitVec.toNat_or, ez h0 (by omega), ez hx0 (by omega)]
 have e : ((b : Int) * 2 ^ j).toNat = b * 2 ^ j := by
  have : ((b : Int) * 2 ^ j) = ((b * 2 ^ j : Nat) : Int) := by push_cast; rfl
  rw [this, Int.toNat_natCast]
 have hx' : a < 2 ^ j := by
  have : ((a : Nat) : Int) < ((2 ^ j : Nat) : Int) := by push_cast; exact hx
  omega
 rw [e, Int.toNat_natCast, vN hx']
 have : (((b * 2 ^ j + a : Nat)) : Int) = (b : Int) * 2 ^ j + a := by push_cast; rfl
 rw [this]
 exact r7 hk (by omega) h1
theorem f8 {k : IntKind} {x y c : Int} (h : k.wrap (BitVec.ofInt k.bits x ||| BitVec.ofInt k.bits y).toNat = c) : k.wrap (BitVec.ofInt k.bits y ||| BitVec.ofInt k.bits x).toNat = c := by
 rw [BitVec.or_comm]; exact h
theorem rM {x y : Int} (h0 : 0 ≤ x) (h1 : x < 256) (h2 : 0 ≤ y) (h3 : y < 256) : IntKind.u16.wrap (BitVec.ofInt IntKind.u16.bits (y * 256) ||| BitVec.ofInt IntKind.u16.bits x).toNat = y * 256 + x :=
 lj (k := .u16) (j := 8) (z := 256) rfl (by decide) h0 (by simpa using h1) h2 h3
theorem mo {x y : Int} (h0 : 0 ≤ x) (h1 : x < 256) (h2 : 0 ≤ y) (h3 : y < 256) : IntKind.u16.wrap (BitVec.ofInt IntKind.u16.bits x ||| BitVec.ofInt IntKind.u16.bits (y * 256)).toNat = x + y * 256 := by
 rw [f8 (rM h0 h1 h2 h3)]; omega
theorem mt {x y : Int} (h0 : 0 ≤ x) (h1 : x < 65536) (h2 : 0 ≤ y) (h3 : y < 65536) : IntKind.u32.wrap (BitVec.ofInt IntKind.u32.bits (y * 65536) ||| BitVec.ofInt IntKind.u32.bits x).toNat = y * 65536 + x :=
 lj (k := .u32) (j := 16) (z := 65536) rfl (by decide) h0 (by simpa using h1) h2 h3
theorem rL {x y : Int} (h0 : 0 ≤ x) (h1 : x < 65536) (h2 : 0 ≤ y) (h3 : y < 65536) : IntKind.u32.wrap (BitVec.ofInt IntKind.u32.bits x ||| BitVec.ofInt IntKind.u32.bits (y * 65536)).toNat = x + y * 65536 := by
 rw [f8 (mt h0 h1 h2 h3)]; omega
theorem mq {x y : Int} (h0 : 0 ≤ x) (h1 : x < 4294967296) (h2 : 0 ≤ y) (h3 : y < 4294967296) : IntKind.u64.wrap (BitVec.ofInt IntKind.u64.bits (y * 4294967296) ||| BitVec.ofInt IntKind.u64.bits x).toNat = y * 4294967296 + x :=
 lj (k := .u64) (j := 32) (z := 4294967296) rfl (by decide) h0 (by simpa using h1) h2 h3
theorem rK {x y : Int} (h0 : 0 ≤ x) (h1 : x < 4294967296) (h2 : 0 ≤ y) (h3 : y < 4294967296) : IntKind.u64.wrap (BitVec.ofInt IntKind.u64.bits x ||| BitVec.ofInt IntKind.u64.bits (y * 4294967296)).toNat = x + y * 4294967296 := by
 rw [f8 (mq h0 h1 h2 h3)]; omega
theorem ma {x : Int} (h0 : 0 ≤ x) (h1 : x < 256) : IntKind.u16.wrap (x * 2 ^ (min (8 : Int).toNat IntKind.u16.bits)) = x * 256 := by
 have e : (2 : Int) ^ (min (8 : Int).toNat IntKind.u16.bits) = 256 := by decide
 rw [e]; exact jd (by omega) (by omega)
theorem lf {x : Int} (h0 : 0 ≤ x) (h1 : x < 65536) : IntKind.u32.wrap (x * 2 ^ (min (16 : Int).toNat IntKind.u32.bits)) = x * 65536 := by
 have e : (2 : Int) ^ (min (16 : Int).toNat IntKind.u32.bits) = 65536 := by decide
 rw [e]; exact d6 (by omega) (by omega)
theorem lc {x : Int} (h0 : 0 ≤ x) (h1 : x < 4294967296) : IntKind.u64.wrap (x * 2 ^ (min (32 : Int).toNat IntKind.u64.bits)) = x * 4294967296 := by
 have e : (2 : Int) ^ (min (32 : Int).toNat IntKind.u64.bits) = 4294967296 := by decide
 rw [e]; exact a6 (by omega) (by omega)
def n2 (big : Bool) (l : List Int) : Int := if big then l.getD 1 0 + l.getD 0 0 * 256 else l.getD 0 0 + l.getD 1 0 * 256
def n4 (big : Bool) (l : List Int) : Int := if big then n2 true l * 65536 + n2 true (l.drop 2) else n2 false l + n2 false (l.drop 2) * 65536
def n8 (big : Bool) (l : List Int) : Int := if big then n4 true l * 4294967296 + n4 true (l.drop 4) else n4 false l + n4 false (l.drop 4) * 4294967296
def Byt (l : List Int) : Prop := ∀ j, 0 ≤ l.getD j 0 ∧ l.getD j 0 < 256
theorem Byt.drop {l : List Int} (h : Byt l) (k : Nat) : Byt (l.drop k) := fun j => by
 have := h (k + j); simpa [List.getD_eq_getElem?_getD] using this
theorem Byt.take {l : List Int} (h : Byt l) (k : Nat) : Byt (l.take k) := fun j => by
 have := h j
 simp only [List.getD_eq_getElem?_getD, List.getElem?_take] at this ⊢
 split
 · exact this
 · simp
theorem lT (big : Bool) {l : List Int} (h : Byt l) : 0 ≤ n2 big l ∧ n2 big l < 65536 := by
 have h0 := h 0; have h1 := h 1
 unfold n2; split <;> omega
theorem aR (big : Bool) {l : List Int} (h : Byt l) : 0 ≤ n4 big l ∧ n4 big l < 4294967296 := by
 have h0 := lT true h; have h1 := lT true (h.drop 2); have h2 := lT false h; have h3 := lT false (h.drop 2)
 unfold n4; split <;> omega
theorem ln (big : Bool) {l : List Int} (h : Byt l) : 0 ≤ n8 big l ∧ n8 big l < 18446744073709551616 := by
 have h0 := aR true h; have h1 := aR true (h.drop 4); have h2 := aR false h; have h3 := aR false (h.drop 4)
 unfold n8; split <;> omega
theorem iN (l : List Int) (k j : Nat) : l.getD (k + j) 0 = (l.drop k).getD j 0 := by simp [List.getD_eq_getElem?_getD]
theorem ek {P : Program} {ρ : cF} {w : World} {d : Option Tmp} {ty : TypeId} {pos : String} {af : Array Edge} {gd : Option (Nat × Bool)} {t e sz : Nat} {x : Operand} {lo hi : Option Operand} {g o len cap l h : Nat} (ht : cg P t e sz) (hx : ev ρ x = .slice (some ⟨g, o, none⟩) len cap) (hl : nw ρ lo 0 l) (hh : nw ρ hi len h) (h1 : l ≤ h) (h2 : h ≤ cap) (h3 : l < cap) :
 Yv P ⟨d, .slice t x lo hi none, ty, pos, af, gd⟩ ρ w (.slice (some ⟨g, o + l * sz, none⟩) (h - l) (cap - l)) w := by
 have := dH (P := P) (w := w) (d := d) (ty := ty) (pos := pos) (af := af) (gd := gd) ht hx hl hh h1 h2
 unfold cR at this
 rw [if_neg (by omega)] at this
 simpa [bY] using this
section
variable {P : Program} {ρ : cF} {w : World} {d : Option Tmp} {ty : TypeId} {pos : String} {af : Array Edge} {gd : Option (Nat × Bool)} {t t' : Nat} {x y : Operand} {k : IntKind} {a b : Int} {c : Bool}
theorem aZ (hx : ev ρ x = .int k a) (hy : ev ρ y = .int k b) (hc : decide (a < b) = c) : Yv P ⟨d, .binOp .lss t x y t', ty, pos, af, gd⟩ ρ w (.bool c) w := hc ▸ cx hx hy
theorem fH (hx : ev ρ x = .int k a) (hy : ev ρ y = .int k b) (hc : decide (a ≤ b) = c) : Yv P ⟨d, .binOp .leq t x y t', ty, pos, af, gd⟩ ρ w (.bool c) w := hc ▸ v6 hx hy
theorem bN (hx : ev ρ x = .int k a) (hy : ev ρ y = .int k b) (hc : decide (b < a) = c) : Yv P ⟨d, .binOp .gtr t x y t', ty, pos, af, gd⟩ ρ w (.bool c) w := hc ▸ gP hx hy
theorem dX (hx : ev ρ x = .int k a) (hy : ev ρ y = .int k b) (hc : decide (b ≤ a) = c) : Yv P ⟨d, .binOp .geq t x y t', ty, pos, af, gd⟩ ρ w (.bool c) w := hc ▸ i5 hx hy
theorem aL (hx : ev ρ x = .int k a) (hy : ev ρ y = .int k b) (hc : (a == b) = c) : Yv P ⟨d, .binOp .eql t x y t', ty, pos, af, gd⟩ ρ w (.bool c) w := hc ▸ fW hx hy
theorem bJ (hx : ev ρ x = .int k a) (hy : ev ρ y = .int k b) (hc : (a != b) = c) : Yv P ⟨d, .binOp .neq t x y t', ty, pos, af, gd⟩ ρ w (.bool c) w := hc ▸ lb hx hy
end
end Go.Proofs.YtlndedfkgiafhaaDoor
namespace Go.Proofs.YtlndedfkgiafhaaDoor
open Go Go.RowKit
def Glob (T : TypeId) (w : World) (a0 a1 : Addr) : Prop := w.cell? ⟨0, 0, none⟩ = some (.iface T (.pointer (some a0))) ∧ w.cell? ⟨1, 0, none⟩ = some (.iface T (.pointer (some a1)))
theorem Glob.keep {T : TypeId} {w w' : World} {a0 a1 : Addr} {M : Nat → Prop} (h : Glob T w a0 a1) (hk : Keep w M w') (hM : ∀ k, M k → 4 ≤ k) : Glob T w' a0 a1 :=
 ⟨hk.cell h.1 fun hm => by have := hM _ hm; simp at this, hk.cell h.2 fun hm => by have := hM _ hm; simp at this⟩
def nums (k : IntKind) (xs : List Int) : List Value := xs.map fun x => .int k x
theorem bH (k : IntKind) (xs : List Int) : (nums k xs).length = xs.length := by simp [nums]
theorem fI {k : IntKind} {xs : List Int} {j : Nat} (h : j < xs.length) : (nums k xs)[j]? = some (.int k (xs.getD j 0)) := by
 simp [nums, List.getElem?_eq_getElem h, List.getD_eq_getElem?_getD]
theorem fj {k : IntKind} {xs : List Int} : ∀ v ∈ nums k xs, v.oneCell' = true := by
 intro v hv; simp only [nums, List.mem_map] at hv; obtain ⟨x, _, rfl⟩ := hv; rfl
theorem mF {k : IntKind} {xs : List Int} {j : Nat} {v : Value} (h : (nums k xs)[j]? = some v) : j < xs.length ∧ v = .int k (xs.getD j 0) := by
 have hj : j < xs.length := by
  rcases Nat.lt_or_ge j xs.length with h1 | h1
  · exact h1
  · rw [List.getElem?_eq_none (by rw [bH]; exact h1)] at h; cases h
 rw [fI hj] at h; injection h with h; exact ⟨hj, h.symm⟩
theorem RI.src {k : IntKind} {w : World} {A : Option Addr} {n : Nat} {xs : List Int} (h : RI k w A n xs) {a : Addr} (hA : A = some a) {l m : Nat} (hlm : l + m ≤ n) : ∀ j v, (nums k ((xs.drop l).take m))[j]? = some v → w.cell? ((a.add l).add j) = some v := by
 intro j v hj
 obtain ⟨hj1, rfl⟩ := mF hj
 have hl : ((xs.drop l).take m).length = m := by rw [List.length_take, List.length_drop, h.1]; omega
 obtain ⟨g, o, rfl, hc⟩ := h.2 (by omega)
 injection hA with hA; subst hA
 rw [bY, bY, Nat.add_assoc, hc (l + j) (by omega)]
 simp only [List.getD_eq_getElem?_getD, List.getElem?_take, List.getElem?_drop]
 rw [if_pos (by omega)]
section
variable {P : Program} {ρ : cF} {w : World} {d : Option Tmp} {ty : TypeId} {pos : String} {af : Array Edge} {gd : Option (Nat × Bool)}
theorem oX {t t' T tp te : Nat} {x y : Operand} {a : Addr} {i j : TypeInfo} {ms : Array (String × TypeId)} (ht : P.underlying t = some (.interface ms)) (hT : P.underlying T = some (.pointer te)) (hi : P.info? T = some i) (hc : i.comparable = true) (hte : P.info? te = some j) (hsz : j.size ≠ 0)
 (hx : ev ρ x = .iface T (.pointer (some a))) (hy : ev ρ y = .iface T (.pointer (some a))) : Yv P ⟨d, .binOp .eql t x y t', ty, pos, af, gd⟩ ρ w (.bool true) w := by
 have h1 : ∀ k, (Op.equalIn (k + 2) t (.iface T (.pointer (some a))) (.iface T (.pointer (some a)))).run P w = .ok true w := fun k => by
  simp [Op.equalIn, run_underlying ht, run_underlying hT, typeInfo, hi, hc, sizeOf, hte, run_sameAddr_same, samePointer]
 have h2 : (binOp .eql t (.iface T (.pointer (some a))) (.iface T (.pointer (some a)))).run P w = .ok (.bool true) w := by
  simp only [binOp]
  simp [Op.equal, Op.maxDepth, h1 9998]
 unfold Yv
 simp [execOp, eqGuard, hx, hy, h2]
end
theorem gO {P : Program} {ρ : cF} {w : World} {d : Option Tmp} {ty : TypeId} {pos : String} {af : Array Edge} {gd : Option (Nat × Bool)} {x : Operand} {t : TypeId} {u : Value} (h : ev ρ x = .iface t u) : Yv P ⟨d, .nilCheck x, ty, pos, af, gd⟩ ρ w (.iface t u) w := by
 unfold Yv; simp [execOp, h]
def Rnd (P : Program) (n : Nat) (c : Code) (Q : QE) : Nat → cF → World → Prop
 | 0, _, _ => False
 | k + 1, ρ, w => W P n c (gQ (Rnd P n c Q k) Q) ρ w
theorem cw {P : Program} {n k : Nat} {c : Code} {Q : QE} {ρ : cF} {w : World} (h : W P n c (gQ (Rnd P n c Q k) Q) ρ w) : Rnd P n c Q (k + 1) ρ w := h
theorem du {P : Program} {n : Nat} {c : Code} {Q : QE} {ρ : cF} {w : World} (k : Nat) (h : Rnd P n c Q k ρ w) : W P n (.loop c) Q ρ w := by
 intro a ha
 refine wp_loop_rounds k ?_
 revert a ρ w
 induction k with
 | zero => intro ρ w h; exact h.elim
 | succ k ih =>
  intro ρ w h a ha
  rw [rounds_succ]
  refine wp_mono (h a ha) fun e a' w' ⟨ρ', hs, hq⟩ => ?_
  cases e with
  | normal => exact ih hq a' hs
  | _ => exact ⟨ρ', hs, hq⟩
theorem am {P : Program} {ρ : cF} {w : World} {d : Option Tmp} {ty : TypeId} {pos : String} {af : Array Edge} {gd : Option (Nat × Bool)} {t e : Nat} {x : Operand} {lo hi : Option Operand} {g o o' len cap l h n' c' : Nat} (ht : cg P t e 1) (hx : ev ρ x = .slice (some ⟨g, o, none⟩) len cap) (hl : nw ρ lo 0 l) (hh : nw ρ hi len h) (h1 : l ≤ h) (h2 : h ≤ cap) (h3 : l < cap ∨ l = 0) (ho : o + l = o') (hn : h - l = n' := by first | rfl | omega) (hc : cap - l = c' := by first | rfl | omega) :
 Yv P ⟨d, .slice t x lo hi none, ty, pos, af, gd⟩ ρ w (.slice (some ⟨g, o', none⟩) n' c') w := by
 have := dH (P := P) (w := w) (d := d) (ty := ty) (pos := pos) (af := af) (gd := gd) ht hx hl hh h1 h2
 subst ho; subst hn; subst hc
 unfold cR at this
 split at this
 · rename_i hcl
   have h0 : l = 0 := by omega
   subst h0; simpa using this
 · simpa [bY] using this
def rx (P : Program) (t T : TypeId) : Prop := jt P t ∧ (∃ te j, P.underlying T = some (.pointer te) ∧ P.info? te = some j ∧ j.size ≠ 0) ∧ ∃ i, P.info? T = some i ∧ i.comparable = true
def td (P : Program) (T : TypeId) : Bool := (match P.underlying T with
 | some (.pointer te) => (match P.info? te with | some j => j.size != 0 | none => false)
 | _ => false) && (match P.info? T with | some i => i.comparable | none => false)
theorem tc {P : Program} {t T : TypeId} (ht : jt P t) (h : td P T = true) : rx P t T := by
 unfold td at h
 rw [Bool.and_eq_true] at h
 obtain ⟨h1, h2⟩ := h
 refine ⟨ht, ?_, ?_⟩
 · split at h1
   · rename_i te hT
     split at h1
     · rename_i j hj; exact ⟨te, j, hT, hj, by simpa using h1⟩
     · cases h1
   · cases h1
 · split at h2
   · rename_i i hi; exact ⟨i, hi, h2⟩
   · cases h2
theorem ko {P : Program} {ρ : cF} {w : World} {d : Option Tmp} {ty : TypeId} {pos : String} {af : Array Edge} {gd : Option (Nat × Bool)} {t t' T : TypeId} {x y : Operand} {a : Addr} (hE : rx P t T) (hx : ev ρ x = .iface T (.pointer (some a))) (hy : ev ρ y = .iface T (.pointer (some a))) : Yv P ⟨d, .binOp .eql t x y t', ty, pos, af, gd⟩ ρ w (.bool true) w := by
 obtain ⟨ht, ⟨te, j, h1, h2, h3⟩, i, h4, h5⟩ := hE
 exact oX (tp := T) ht h1 h4 h5 h2 h3 hx hy
end Go.Proofs.YtlndedfkgiafhaaDoor
namespace Go.Proofs.YtlndedfkgiafhaaDoor
open Go Go.RowKit
section
variable {P : Program} {ρ : cF} {w w0 : World} {d : Option Tmp} {ty : TypeId} {pos : String} {af : Array Edge} {gd : Option (Nat × Bool)} {K : cF → World → Prop} {M : Nat → Prop} {L : List Res}
theorem ex {t t' T : TypeId} {x y : Operand} {a : Addr} (hE : rx P t T) (hx : ev ρ x = .iface T (.pointer (some a))) (hy : ev ρ y = .iface T (.pointer (some a))) : Yv P ⟨d, .binOp .neq t x y t', ty, pos, af, gd⟩ ρ w (.bool false) w := by
 obtain ⟨ht, ⟨te, j, h1, h2, h3⟩, i, h4, h5⟩ := hE
 have hk : ∀ k, (Op.equalIn (k + 2) t (.iface T (.pointer (some a))) (.iface T (.pointer (some a)))).run P w = .ok true w := fun k => by
  simp [Op.equalIn, run_underlying ht, run_underlying h1, typeInfo, h4, h5, sizeOf, h2, run_sameAddr_same, samePointer]
 have h2 : (binOp .neq t (.iface T (.pointer (some a))) (.iface T (.pointer (some a)))).run P w = .ok (.bool false) w := by
  simp only [binOp]
  simp [Op.equal, Op.maxDepth, hk 9998]
 unfold Yv
 simp [execOp, eqGuard, hx, hy, h2]
theorem bt (H : St w0 M L w) {t e : TypeId} {z : Value} {bytes n m : Nat} {x y : Operand} {kl kc : IntKind} {l c : Int} (ht : P.underlying t = some (.slice e)) (hinfo : (P.info? e).map (fun i => (i.zero, i.size, i.bytes)) = some (some z, 1, bytes)) (hz : z.cells = #[z]) (hx : ev ρ x = .int kl l) (hy : ev ρ y = .int kc c) (hl : l = ↑n) (hc : c = ↑m) (hlc : n ≤ m) (hb : bytes * m ≤ 281474976710656) (h63 : m ≤ 9223372036854775807)
 (h : ∀ g w', w.heap.size ≤ g → St w0 M (aq g (List.replicate m z) e :: L) w' → K (dM ρ d (.slice (some ⟨g, 0, none⟩) n m)) w') : i4 P ⟨d, .makeSlice t x y, ty, pos, af, gd⟩ ρ w K := by
 subst hl; subst hc
 refine mL H (l := ↑n) (c := ↑m) ht hinfo hx hy (by omega) (by omega) (by rw [← Int.natCast_mul]; omega) (by omega) fun g w' hg H' => ?_
 rw [hz, toList_madeCells_one, show (↑m : Int).toNat * 1 = m by rw [Int.toNat_natCast, Nat.mul_one]] at H'
 rw [Int.toNat_natCast, Int.toNat_natCast]
 exact h g w' hg H'
theorem p8 {t t' : Nat} {x y : Operand} {k : IntKind} {a b c : Int} (hx : ev ρ x = .int k a) (hy : ev ρ y = .int k b) (hb : b ≠ 0) (hc : k.wrap (a.tdiv b) = c) : Yv P ⟨d, .binOp .quo t x y t', ty, pos, af, gd⟩ ρ w (.int k c) w := by
 subst hc; unfold Yv; simp [execOp, eqGuard, hx, hy, binOp, Op.intDiv, hb]
def IbOk (P : Program) (f : FuncId) : Prop := ∃ fn, P.funcs[f]? = some fn ∧ (fn.name == "runtime.NumGoroutine") = false ∧ fn.body.isNone = true ∧ Extern.findNext fn = none ∧ Extern.find fn = some Extern.BytealgIndexByte.indexByte
def a9 (xs : List Int) : List Int := xs.takeWhile fun x => x != 0
theorem l3 (xs : List Int) : (a9 xs).length ≤ xs.length := by
 induction xs with
 | nil => simp [a9]
 | cons x l ih => simp only [a9, List.takeWhile_cons] at ih ⊢; split <;> simp <;> omega
theorem l2 (xs : List Int) : xs.take (a9 xs).length = a9 xs := by
 induction xs with
 | nil => rfl
 | cons x l ih => simp only [a9, List.takeWhile_cons] at ih ⊢; split <;> simp [ih]
theorem vS (xs : List Int) (hb : Byt xs) : Lib.indexByte (Lib.bytesOf xs) 0 = if (a9 xs).length < xs.length then ((a9 xs).length : Int) else -1 := by
 induction xs with
 | nil => rfl
 | cons x l ih =>
  have h0 : 0 ≤ x ∧ x < 256 := hb 0
  have hl : Byt l := hb.drop 1
  have ih := ih hl
  show (if (UInt8.ofNat x.toNat == 0) = true then (0 : Int) else if Lib.indexByte (Lib.bytesOf l) 0 == -1 then -1 else Lib.indexByte (Lib.bytesOf l) 0 + 1) = _
  by_cases hx : x = 0
  · subst hx; simp [a9]
  · have e : (UInt8.ofNat x.toNat == 0) = false := by
     rw [beq_eq_false_iff_ne]
     intro e
     have := congrArg UInt8.toNat e
     simp only [UInt8.toNat_ofNat', UInt8.toNat_zero] at this
     omega
    rw [e]
    have hc : a9 (x :: l) = x :: a9 l := by simp [a9, List.takeWhile_cons, hx]
    rw [hc, ih, if_neg (by simp)]
    simp only [List.length_cons]
    split
    · have : ¬ (((a9 l).length : Int) == -1) = true := by rw [beq_iff_eq]; omega
      rw [if_neg this, if_pos (by omega)]; simp
    · simp; omega
theorem e_ib {f : FuncId} (hf : IbOk P f) {xs : Array Operand} {ts : Array TypeId} {g o n c : Nat} {ns : List Int} (ha : xs.toList.map (ev ρ) = [.slice (some ⟨g, o, none⟩) n c, .int .u8 0]) (hr : RI .u8 w (some ⟨g, o, none⟩) n ns) (hb : Byt ns)
 (h : K (dM ρ d (.int .i64 (if (a9 ns).length < ns.length then ((a9 ns).length : Int) else -1))) w) : i4 P ⟨d, .call { callee := .value (.func f), args := xs, argTypes := ts }, ty, pos, af, gd⟩ ρ w K := by
 obtain ⟨fn, h1, h2, h3, h4, h5⟩ := hf
 have hc := run_callFunc_indexByte (P := P) h1 h2 h3 h4 h5 #[.slice (some ⟨g, o, none⟩) n c, .int .u8 0] w
 have hi := Lib.run_indexByteSlice (P := P) w g o n c ns hr.1 (fun i hi => by
  obtain ⟨g', o', e, hcell⟩ := hr.at_ hi
  simp only [Option.some.injEq, Addr.mk.injEq, and_true] at e
  obtain ⟨rfl, rfl⟩ := e
  exact hcell) 0
 rw [show ((0 : Int).toNat.toUInt8) = 0 from rfl, vS ns hb] at hi
 refine i3 (v := .int .i64 (if (a9 ns).length < ns.length then ((a9 ns).length : Int) else -1)) (w' := w) ?_ h
 have hx : xs.map (ev ρ) = #[.slice (some ⟨g, o, none⟩) n c, .int .u8 0] := kF _ _ ha
 rw [hi] at hc
 unfold Yv
 simp [execOp, resolve, ev, Deferred.ofValue, invoke, hx, hc, Result.andThen]
end
theorem RI.take {k : IntKind} {w : World} {A : Option Addr} {n m : Nat} {xs : List Int} (h : RI k w A n xs) (hm : m ≤ n) : RI k w A m (xs.take m) :=
 ⟨by rw [List.length_take, h.1]; omega, fun h0 => by
  obtain ⟨g, o, rfl, hc⟩ := h.2 (by omega)
  exact ⟨g, o, rfl, fun j hj => by rw [hc j (by omega)]; simp [List.getD_eq_getElem?_getD, List.getElem?_take, hj]⟩⟩
theorem p3 {k : IntKind} {w : World} {g : Nat} {T : TypeId} {xs : List Int} (h : (aq g (nums k xs) T).φ w) : RI k w (some ⟨g, 0, none⟩) xs.length xs :=
 RI.of_blk h 0 fun j hj => by rw [Nat.zero_add]; exact fI hj
theorem RI.drop_ {k : IntKind} {w : World} {g o n : Nat} {xs : List Int} (h : RI k w (some ⟨g, o, none⟩) n xs) (l : Nat) : RI k w (some ⟨g, o + l, none⟩) (n - l) (xs.drop l) :=
 ⟨by rw [List.length_drop, h.1], fun h0 => by
  obtain ⟨g', o', e, hc⟩ := h.2 (by omega)
  simp only [Option.some.injEq, Addr.mk.injEq, and_true] at e
  obtain ⟨rfl, rfl⟩ := e
  exact ⟨g, o + l, rfl, fun j hj => by rw [Nat.add_assoc, hc (l + j) (by omega)]; simp [List.getD_eq_getElem?_getD]⟩⟩
theorem ak {k : IntKind} {w : World} {g m : Nat} {T : TypeId} {xs : List Int} (h : (aq g (nums k xs) T).φ w) (hl : xs.length = m) : RI k w (some ⟨g, 0, none⟩) m xs := hl ▸ p3 h
def gF (ys : List Int) (k m : Nat) : List Value := (List.range m).map fun j => Value.int .u8 (ys.getD (k + j) 0)
theorem fe (ys : List Int) (k m : Nat) : (gF ys k m).length = m := by simp [gF]
theorem pu {ys : List Int} {k m : Nat} : ∀ v ∈ gF ys k m, v.oneCell' = true := by
 intro v hv; simp only [gF, List.mem_map] at hv; obtain ⟨x, _, rfl⟩ := hv; rfl
theorem eE {w : World} {g o m k : Nat} {cs : List Value} {T : TypeId} {ys : List Int} (h : (aq g cs T).φ w) (hcs : (cs.drop o).take m = gF ys k m) (hl : k + m ≤ ys.length) : RI .u8 w (some ⟨g, o, none⟩) m ((ys.drop k).take m) := by
 refine ⟨by rw [List.length_take, List.length_drop]; omega, fun _ => ⟨g, o, rfl, fun j hj => bS h ?_⟩⟩
 have h1 : ((cs.drop o).take m)[j]? = some (.int .u8 (ys.getD (k + j) 0)) := by
  rw [hcs]; simp [gF, hj]
 rw [List.getElem?_take, if_pos hj, List.getElem?_drop] at h1
 rw [h1]
 simp [List.getD_eq_getElem?_getD, List.getElem?_take, hj]
theorem RI.src8 {w : World} {g o m k n : Nat} {ys : List Int} (h : RI .u8 w (some ⟨g, o, none⟩) n ys) (hk : k + m ≤ n) : ∀ j v, (gF ys k m)[j]? = some v → w.cell? ((⟨g, o + k, none⟩ : Addr).add j) = some v := by
 intro j v hj
 have hjm : j < m := by
  rcases Nat.lt_or_ge j m with h1 | h1
  · exact h1
  · rw [List.getElem?_eq_none (by rw [fe]; exact h1)] at hj; cases hj
 obtain ⟨g', o', e, hc⟩ := h.2 (by omega)
 simp only [Option.some.injEq, Addr.mk.injEq, and_true] at e
 obtain ⟨rfl, rfl⟩ := e
 rw [bY, Nat.add_assoc, hc (k + j) (by omega)]
 simp only [gF, List.getElem?_map, List.getElem?_range hjm, Option.map_some] at hj
 exact hj
theorem iO {P : Program} {ρ : cF} {w w0 : World} {d : Option Tmp} {ty : TypeId} {pos : String} {af : Array Edge} {gd : Option (Nat × Bool)} {K : cF → World → Prop} {M : Nat → Prop} {L : List Res} (H : St w0 M L w) (i : Nat) {s x : Operand} {dT sT e T : TypeId} {g o m dCap sCap k n so : Nat} {g' : Nat} {cs cs' : List Value} {ys : List Int} (hi : L[i]? = some (aq g cs T)) (ht : P.underlying dT = some (.slice e)) (hs1 : (P.info? e).map (·.size) = some 1)
 (hs : ev ρ s = .slice (some ⟨g, o, none⟩) m dCap) (hx : ev ρ x = .slice (some ⟨g', so, none⟩) m sCap) (hr : RI .u8 w (some ⟨g', 0, none⟩) n ys) (hso : so = k) (hk : k + m ≤ n) (hfit : o + m ≤ cs.length) (hcs : cs.take o ++ gF ys k m ++ cs.drop (o + m) = cs')
 {L' : List Res} (h : ∀ w', St w0 M L' w' → K (dM ρ d (.int .i64 m)) w') (hL : L.set i (aq g cs' T) = L' := by first | (simp only [List.set_cons_succ, List.set_cons_zero]; rfl) | rfl) : i4 P ⟨d, .call { callee := .builtin .copy, args := #[s, x], argTypes := #[dT, sT] }, ty, pos, af, gd⟩ ρ w K := by
 subst hso
 subst hL
 have := mM (sT := sT) (d := d) (ty := ty) (pos := pos) (af := af) (gd := gd) (K := K) H i (vs := gF ys so m) (a := ⟨g', so, none⟩) hi ht hs1 hs hx (by rw [fe]; simp) (fun j v hj => by have := hr.src8 hk j v hj; rwa [Nat.zero_add] at this) (by rw [fe]; exact hfit) pu
 simp only [fe] at this
 rw [hcs] at this
 exact this h
def bo (b : Bool) : Int := if b then 1 else 0
end Go.Proofs.YtlndedfkgiafhaaDoor
