/- For every slice of bytes that laws.FnAny is called with, it returns true and leaves the bytes as they were; io's listed variables hold what the program's text lays. -/
import Derived.Test.YtlndedfkgiafhaaDoorRowBase
import Derived.Test.YtlndedfkgiafhaaDoorRows
import Derived.Test.YtlndedfkgiafhaaDoorCards
import Derived.Test.YtlndedfkgiafhaaDoorTie
set_option linter.unusedVariables false
set_option linter.unusedSimpArgs false
set_option maxRecDepth 100000
set_option maxHeartbeats 4000000
namespace Go.Proofs.YtlndedfkgiafhaaDoor
open Go Go.ChangeShapes Go.WideShapes Go.ChangeAt Go.RowKit
theorem fnAny_lifted (os : Os) (started : os.Started) (H : Type) (enc : TypeId × Value → H) :
 ReturnsInHanded {} Tryd.checked os 3 .any (fun w args => (Rows.fnAnySpec.pre enc Tryd.prog Tryd.f3 [] false w args ∧ laidMetH Tryd.prog Rows.fnAnyRow.laid w) ∧ sizedMet enc Tryd.prog Tryd.f3 (OpenSpec.ofChange Rows.fnAnySpec) false w args)
  (Rows.fnAnySpec.post enc Tryd.prog Tryd.f3 false true false false) := by
 refine returnsInHanded_of_change_and (C := Tryd.checked) (X := fun w _ => laidMetH Tryd.prog Rows.fnAnyRow.laid w) (fun _ _ _ hh h => h.of_heap hh) Tryd.own started (by kernel_rfl) Tryd.func3
  (ChangeSpec.witness_shaped (enc := enc) (C := Tryd.checked) (os := os) (X := fun w _ => laidMetH Tryd.prog Rows.fnAnyRow.laid w) false (World.doorLaid Tryd.prog 400 os) #[.slice none 0 0] 8 rfl (World.shaped_of_RefB (by kernel_rfl) (by kernel_rfl)) (by kernel_rfl) (by kernel_rfl) (by kernel_rfl) (ti os _)) ?_
 intro W base args ds gs before hval0 hW _ _ hL _
 have hval : ∀ (j : Nat) t v, Tryd.f3.params[j]? = some t → args[j]? = some v → Value.okWide Tryd.prog W .any base t v := hval0
 have hW' := hW
 obtain ⟨p, q, hA0, hV, rfl, hfz, hnd⟩ := hW
 have hA : DataW.TrodAll enc Tryd.prog W 0 (fun _ => true) true Tryd.f3.params.toList args.toList ds p := hA0
 rw [Tryd.params3] at hA hval
 obtain ⟨v0, d0, rfl, rfl, h0⟩ := trodAll_one hA
 obtain ⟨rfl, rfl⟩ := trodVars_none hV
 obtain ⟨A, N, C, xs, rfl, hNC, hC, hr, hby⟩ := sQ (hval 0 22 v0 rfl rfl) h0
 obtain ⟨b0, b1, hG, hw4⟩ := uo hL
 have hCm : C ≤ 9223372036854775807 := by simp only [maxLen] at hC; omega
 refine (vo W hG hNC (by omega) hr hby hw4).mono fun e W' ⟨he, hS⟩ => ?_
 subst he
 have hb : Below W.heap.size W W' := hS.keep.below
 refine ⟨_, rfl, _, _, _, [], p, [], hW', ?_, ?_, rfl, hb.frame _, fun h => by cases h⟩
 · exact trodAll_mk1 (shut_bool Tryd.underlying4 true)
 · have hl := fun x (hx : x ∈ p) => hW'.lt (p := x) (by simpa using hx)
   exact trodAll_mk1 (Below.trod mQ (by kernel_rfl) (of_decide_eq_true (by kernel_rfl)) h0 hb hl)
theorem fnAny_said : Rows.FnAnySaid :=
 OpenClaim.holds_of_wide 3 Tryd.f3 rfl rfl rfl rfl rfl rfl rfl ⟨rfl, rfl, rfl, rfl, rfl⟩ rfl rfl rfl rfl rfl (by kernel_rfl) Tryd.func3 (by kernel_rfl)
  (of_decide_eq_true (by kernel_rfl)) (by unfold Func.isWrapper; rw [if_neg (of_decide_eq_false (by kernel_rfl))]; exact ⟨rfl, rfl⟩)
  (fun os started H enc _ => fnAny_lifted os started H enc)
theorem fnAny_card : Rows.FnAnyCardSaid :=
 Claim7.holds_tied_plain_at .later [] [.sentinel, .sentinel, .sentinel] true (true, "8dca24ed153038d7d2a7eb61084e58c6b5cf1db266900fd01df6c9024b4ff038") true
  fnAny_said (fun _ h => by cases h) (by kernel_rfl) (fun _ h => by cases h) fnAny_row_tie rfl ⟨rfl, rfl⟩ (by kernel_rfl) rfl
  (fun f fn hf hfn => by
   obtain rfl : f = 3 := Option.some.inj ((show Tryd.prog.funcNamed "loop.example/pub-g03479/laws.FnAny" = some 3 by kernel_rfl).symm.trans hf) |>.symm
   obtain rfl : fn = Tryd.f3 := (Option.some.inj (Tryd.func3.symm.trans hfn)).symm
   exact ⟨by kernel_rfl, fun j t ht => by
    rw [Tryd.params3] at ht
    have h22 : t = 22 := by
     rcases j with _ | j
     · simpa using ht.symm
     · simp at ht
    subst h22
    exact (show Tryd.prog.wantsStandIn 22 = false by kernel_rfl)⟩)
  (by kernel_rfl)
#print axioms fnAny_card
end Go.Proofs.YtlndedfkgiafhaaDoor
