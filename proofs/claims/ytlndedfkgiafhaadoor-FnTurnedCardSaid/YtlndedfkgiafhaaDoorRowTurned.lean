/- For every input laws.FnTurned of the given program returns true and leaves its arguments as they were, where the three listed variables of io hold what the program's text lays in them. -/
import Derived.Test.YtlndedfkgiafhaaDoorRowMk
import Derived.Test.YtlndedfkgiafhaaDoorRows
import Derived.Test.YtlndedfkgiafhaaDoorCards
import Derived.Test.YtlndedfkgiafhaaDoorTie
set_option linter.unusedVariables false
set_option linter.unusedSimpArgs false
set_option maxRecDepth 100000
set_option maxHeartbeats 4000000
namespace Go.Proofs.YtlndedfkgiafhaaDoor
open Go Go.ChangeShapes Go.WideShapes Go.ChangeAt Go.RowKit
theorem fnTurned_lifted(os:Os)(started:os.Started)(H:Type)(enc:TypeId × Value → H):
 ReturnsInHanded {} Tryd.checked os 6 .any (fun w args=>(Rows.fnTurnedSpec.pre enc Tryd.prog Tryd.f6 [] false w args∧laidMetH Tryd.prog Rows.fnTurnedRow.laid w)∧sizedMet enc Tryd.prog Tryd.f6 (OpenSpec.ofChange Rows.fnTurnedSpec) false w args)
  (Rows.fnTurnedSpec.post enc Tryd.prog Tryd.f6 false true false false):=by
 refine returnsInHanded_of_change_and (C:=Tryd.checked) (X:=fun w _=>laidMetH Tryd.prog Rows.fnTurnedRow.laid w) (fun _ _ _ hh h=>h.of_heap hh) Tryd.own started (by kernel_rfl) Tryd.func6
  (ChangeSpec.witness_shaped (enc:=enc) (C:=Tryd.checked) (os:=os) (X:=fun w _=>laidMetH Tryd.prog Rows.fnTurnedRow.laid w) false (World.doorLaid Tryd.prog 400 os) #[.int .u32 0,.slice none 0 0,.slice none 0 0,.slice none 0 0,.slice none 0 0,.slice none 0 0] 8 rfl (World.shaped_of_RefB (by kernel_rfl) (by kernel_rfl)) (by kernel_rfl) (by kernel_rfl) (by kernel_rfl) (og os _)) ?_
 intro W base args ds gs before hval0 hW _ _ hL _
 have hval: ∀(j:Nat) t v,Tryd.f6.params[j]? =some t → args[j]? =some v → Value.okWide Tryd.prog W .any base t v:=hval0
 have hW':=hW
 obtain⟨p,q,hA0,hV,rfl,hfz,hnd⟩:=hW
 have hA:DataW.TrodAll enc Tryd.prog W 0 (fun _=>true) true Tryd.f6.params.toList args.toList ds p:=hA0
 rw[Tryd.params6]at hA hval
 have hA9:=hA
 obtain⟨v0,vs0,d0,ds0,p0,q0,e0,rfl,rfl,h0,r0⟩:=trodAll_cons hA
 obtain⟨v1,vs1,d1,ds1,p1,q1,e1,rfl,rfl,h1,r1⟩:=trodAll_cons r0
 subst e1
 obtain⟨v2,vs2,d2,ds2,p2,q2,e2,rfl,rfl,h2,r2⟩:=trodAll_cons r1
 subst e2
 obtain⟨v3,vs3,d3,ds3,p3,q3,e3,rfl,rfl,h3,r3⟩:=trodAll_cons r2
 subst e3
 obtain⟨v4,vs4,d4,ds4,p4,q4,e4,rfl,rfl,h4,r4⟩:=trodAll_cons r3
 subst e4
 obtain⟨v5,vs5,d5,ds5,p5,q5,e5,rfl,rfl,h5,r5⟩:=trodAll_cons r4
 subst e5
 obtain⟨rfl,rfl,rfl⟩:=trodAll_nil r5
 obtain rfl:=six e0
 obtain⟨rfl,rfl⟩:=trodVars_none hV
 obtain⟨n0,rfl,_,_,hz0⟩:=open_int (r:= .any) Tryd.underlying24 (hval 0 24 v0 rfl rfl) h0
 have hb0:=bounds_u32 hz0
 obtain⟨A1,N1,C1,xs1,rfl,hn1,hc1,hr1,hw1⟩:=fE Tryd.underlying25 Tryd.underlying24 (by kernel_rfl) (hval 1 25 v1 rfl rfl) h1
 simp only[maxLen]at hc1
 obtain⟨A2,N2,C2,xs2,rfl,hn2,hc2,hr2,hw2⟩:=fE Tryd.underlying22 Tryd.underlying5 (by kernel_rfl) (hval 2 22 v2 rfl rfl) h2
 simp only[maxLen]at hc2
 obtain⟨A3,N3,C3,xs3,rfl,hn3,hc3,hr3,hw3⟩:=fE Tryd.underlying26 Tryd.underlying43 (by kernel_rfl) (hval 3 26 v3 rfl rfl) h3
 simp only[maxLen]at hc3
 obtain⟨A4,N4,C4,xs4,rfl,hn4,hc4,hr4,hw4_⟩:=fE Tryd.underlying46 Tryd.underlying27 (by kernel_rfl) (hval 4 46 v4 rfl rfl) h4
 simp only[maxLen]at hc4
 obtain⟨A5,N5,C5,xs5,rfl,hn5,hc5,hr5,hw5⟩:=fE Tryd.underlying22 Tryd.underlying5 (by kernel_rfl) (hval 5 22 v5 rfl rfl) h5
 simp only[maxLen]at hc5
 obtain⟨b0,b1,hG,hw4⟩:=pW hL
 refine(tq W hG hw4 (by omega) (by omega) hr1 (sK hw1) hn1 hr2 (ow hw2) hr3 (sJ hw3) hn3 (by omega) (by omega) (by omega) hr4 (zX hw4_) hn4 (by omega) hr5 (ow hw5) (by omega)).mono fun e W' ⟨he,hS⟩=> ?_
 subst he
 have hb:Below W.heap.size W W':=hS.keep.below
 refine⟨_,rfl,_,_,_,[],p0++(p1++(p2++(p3++(p4++(p5++ []))))),[],hW',?_,?_,rfl,hb.frame _,fun h=>by cases h⟩
 · exact trodAll_mk1 (shut_bool Tryd.underlying4 true)
 · refine lU hb [24,25,22,26,46,22] (fun t ht=> ?_) _ _ _ hA9 fun x hx=>hW'.lt (p:=x) (by simpa using hx)
   simp only[List.mem_cons,List.not_mem_nil,or_false]at ht
   rcases ht with rfl|rfl|rfl|rfl|rfl|rfl<;>exact⟨by kernel_rfl,of_decide_eq_true (by kernel_rfl)⟩
theorem fnTurned_said:Rows.FnTurnedSaid:=
 OpenClaim.holds_of_wide 6 Tryd.f6 rfl rfl rfl rfl rfl rfl rfl ⟨rfl,rfl,rfl,rfl,rfl⟩ rfl rfl rfl rfl rfl (by kernel_rfl) Tryd.func6 (by kernel_rfl)
  (of_decide_eq_true (by kernel_rfl)) (by unfold Func.isWrapper;rw[if_neg (of_decide_eq_false (by kernel_rfl))];exact⟨rfl,rfl⟩)
  (fun os started H enc _=>fnTurned_lifted os started H enc)
theorem nj: ∀t ∈ Tryd.f6.params.toList,Tryd.prog.wantsStandIn t=false:=fun t ht=>by
 rw[Tryd.params6]at ht
 simp only[List.mem_cons,List.not_mem_nil,or_false]at ht
 rcases ht with rfl|rfl|rfl|rfl|rfl|rfl<;>kernel_rfl
theorem fnTurned_card:Rows.FnTurnedCardSaid:=
 Claim7.holds_tied_plain_at .later [] [.sentinel,.sentinel,.sentinel] true (true,"8dca24ed153038d7d2a7eb61084e58c6b5cf1db266900fd01df6c9024b4ff038") true
  fnTurned_said (fun _ h=>by cases h) (by kernel_rfl) (fun _ h=>by cases h) fnTurned_row_tie rfl ⟨rfl,rfl⟩ (by kernel_rfl) rfl
  (fun f fn hf hfn=>by
   obtain rfl:f=6:=Option.some.inj ((show Tryd.prog.funcNamed "loop.example/pub-g03479/laws.FnTurned" =some 6 by kernel_rfl).symm.trans hf)|>.symm
   obtain rfl:fn=Tryd.f6:=(Option.some.inj (Tryd.func6.symm.trans hfn)).symm
   exact⟨by kernel_rfl,fun j t ht=>nj t (by rw[Array.mem_toList_iff];exact Array.mem_of_getElem? ht)⟩)
  (by kernel_rfl)
#print axioms fnTurned_card
end Go.Proofs.YtlndedfkgiafhaaDoor
