import Derived.Test.YtlndedfkgiafhaaDoorXAO
import Derived.Test.YtlndedfkgiafhaaDoorRows
import Derived.Test.YtlndedfkgiafhaaDoorCards
import Derived.Test.YtlndedfkgiafhaaDoorTie
set_option linter.unusedVariables false
set_option linter.unusedSimpArgs false
set_option maxRecDepth 100000
set_option maxHeartbeats 4000000
namespace Go.Proofs.YtlndedfkgiafhaaDoor
open Go Go.ChangeShapes Go.WideShapes Go.ChangeAt Go.RowKit
theorem Tryd.own:ownKnob Tryd.prog.godebug=none:=by kernel_rfl
theorem qo:laidOutB Tryd.prog=true:=by kernel_rfl
theorem g0:Tryd.prog.globalNamed "io.ErrUnexpectedEOF" =some 0:=by kernel_rfl
theorem g1:Tryd.prog.globalNamed "io.EOF" =some 1:=by kernel_rfl
theorem g2:Tryd.prog.globalNamed "io.ErrShortBuffer" =some 2:=by kernel_rfl
theorem t0:(Tryd.prog.globals[0]?).map (·.type)=some 90:=by kernel_rfl
theorem t1:(Tryd.prog.globals[1]?).map (·.type)=some 90:=by kernel_rfl
theorem t2:(Tryd.prog.globals[2]?).map (·.type)=some 90:=by kernel_rfl
theorem star: "*" ++ "errors.errorString" = "*errors.errorString" :=by decide
theorem AE(u:TypeId)(h:Tryd.prog.typeName? 3 u=some "*errors.errorString"):u=224:=
 typeName_ptr_named (nm:= "errors.errorString") (by rw[star];kernel_rfl) (by kernel_rfl) (by decide) u (by rw[star];exact h)
theorem n6{n:String}{text:List UInt8}{r:List (String × DataW Unit)}{W:World}{g:Nat}(h:laidMet Tryd.prog ((n,.iface "*errors.errorString" (.ptr (.agg [.lit (.string text)])))::r) W)(hg:Tryd.prog.globalNamed n=some g)(ht:(Tryd.prog.globals[g]?).map (·.type)=some 90):
 ∃(a:Addr) (s:ByteArray),W.var? Tryd.prog n=some #[.iface 224 (.pointer (some a))]∧W.cell? a=some (.string s)∧W.cell? ⟨g,0,none⟩=some (.iface 224 (.pointer (some a))):=by
 obtain⟨a,s,hv,hc,_,_⟩:=laid_sentinel (tp:=224) h hg ht Tryd.underlying90 AE Tryd.underlying224 (f:= _) Tryd.underlying243 rfl rfl Tryd.underlying9 (by kernel_rfl) (by kernel_rfl)
 exact⟨a,s,hv,hc,by simpa using World.var?_cell hg hv 0⟩
theorem nF{W:World}{n:String}{g:Nat}{a:Addr}{s:ByteArray}{v:Value}(hg:Tryd.prog.globalNamed n=some g)(hv:W.var? Tryd.prog n=some #[.iface 224 v])(hc:W.cell? a=some (.string s)):a.block≠g:=by
 rintro rfl
 have h0: ∀j,W.cell? ⟨a.block,j,none⟩=(#[Value.iface 224 v])[j]?:=fun j=>World.var?_cell hg hv j
 obtain⟨b,o,t⟩:=a
 have ht:t=none:=World.cell?_spot hc
 subst ht
 have h1:=h0 o
 rw[hc]at h1
 match o,h1 with
 |0,h1=>simp at h1
 |o+1,h1=>simp at h1
theorem pW{W:World}(h:laidMetH Tryd.prog [("io.ErrShortBuffer",Rows.laid_io_ErrShortBuffer),("io.EOF",Rows.laid_io_EOF),("io.ErrUnexpectedEOF",Rows.laid_io_ErrUnexpectedEOF)] W): ∃a0 a1:Addr,Glob 224 W a0 a1∧4≤W.heap.size:=by
 rw[MakeChecks.laidMetH_plain _ _ _ (by kernel_rfl)]at h
 obtain⟨b2,s2,v2,c2,e2⟩:=n6 h g2 t2
 obtain⟨b1,s1,v1,c1,e1⟩:=n6 h.tail g1 t1
 obtain⟨b0,s0,v0,c0,e0⟩:=n6 h.tail.tail g0 t0
 refine⟨b0,b1,⟨e0,e1⟩,?_⟩
 have n0:=nF g0 v0 c0
 have n1:=nF g1 v1 c0
 have n2:=nF g2 v2 c0
 have:=World.block_lt_of_cell? _ _ c0
 omega
theorem og(os:Os)(args:Array Value):laidMetH Tryd.prog [("io.ErrShortBuffer",Rows.laid_io_ErrShortBuffer),("io.EOF",Rows.laid_io_EOF),("io.ErrUnexpectedEOF",Rows.laid_io_ErrUnexpectedEOF)] ((World.doorLaid Tryd.prog 400 os).forCall (fun _ _=>0) ⟨#[],args,[]⟩).memory:=
 laidMetH_of_parts3 (fuel:=8) (laidMet_of_run' 8 (by kernel_rfl) (by kernel_rfl)) (by kernel_rfl) (by kernel_rfl)
end Go.Proofs.YtlndedfkgiafhaaDoor
