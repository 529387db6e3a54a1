import Derived.Test.YtbafaadmlpamiaaGreatDoorRows
import Derived.Test.YtbafaadmlpamiaaGreatDoorA3
import Derived.LaidMore
import Derived.LaidLaws
import Derived.LaidHandle
import Derived.Stop.Joined
import Derived.Stop.LaidErr
import Derived.MakeChecks
set_option maxRecDepth 100000
namespace Go.Proofs.YtbafaadmlpamiaaGreatDoor
open Go Go.Hy Go.RowKit
def laid9 : List (String × DataW Unit) := [("math/bits.deBruijn32tab", Rows.laid_math_bits_deBruijn32tab), ("math/bits.deBruijn64tab", Rows.laid_math_bits_deBruijn64tab), ("internal/strconv.uint64pow10", Rows.laid_internal_strconv_uint64pow10),
 ("pub-hypha/pub/dbgraph.ErrVertexNotFound", Rows.laid_pub_hypha_pub_dbgraph_ErrVertexNotFound), ("pub-hypha/pub/dbgraph.ErrVertexAlreadyExists", Rows.laid_pub_hypha_pub_dbgraph_ErrVertexAlreadyExists),
 ("pub-hypha/pub/dbgraph.ErrEdgeNotFound", Rows.laid_pub_hypha_pub_dbgraph_ErrEdgeNotFound), ("pub-hypha/pub/dbgraph.ErrEdgeAlreadyExists", Rows.laid_pub_hypha_pub_dbgraph_ErrEdgeAlreadyExists),
 ("pub-hypha/pub/dbgraph.ErrEdgeCreatesCycle", Rows.laid_pub_hypha_pub_dbgraph_ErrEdgeCreatesCycle), ("pub-hypha/pub/dbgraph.ErrVertexHasEdges", Rows.laid_pub_hypha_pub_dbgraph_ErrVertexHasEdges)]
theorem tOwn:ownKnob Tryz.prog.godebug=none:=by kernel_rfl
theorem tStar : "*" ++ "errors.errorString" = "*errors.errorString" := by decide
theorem tRow (u : TypeId) (h : Tryz.prog.typeName? 3 u = some "*errors.errorString") : u = 257 :=
 typeName_ptr_named (nm := "errors.errorString") (by rw [tStar]; kernel_rfl) (by kernel_rfl) (by decide) u (by rw [tStar]; exact h)
theorem tCells309:Tryz.prog.cellsOf 309=1:=by kernel_rfl
theorem tCells9:Tryz.prog.cellsOf 9=1:=by kernel_rfl
theorem door_met (os:Os) (args:Array Value):laidMetH Tryz.prog laid9 ((World.doorLaid Tryz.prog 400 os).forCall (fun _ _=>0) ⟨#[],args,[]⟩).memory :=
 laidMetH_of_parts3 (fuel:=8) (laidMet_of_run' 8 (by kernel_rfl) (by kernel_rfl)) (by kernel_rfl) (by kernel_rfl)
def SentAt (W:World) (g:Nat) (text:List UInt8):Prop :=
 ∃ (a:Addr) (s:ByteArray),W.cell? ⟨g,0,none⟩=some (er a)∧W.cell? a=some (.string s)∧s.data.toList=text∧∃ cs t,W.heap[a.block]? = some (.cells cs t (0,0))
theorem sent_of {n : String} {text : List UInt8} {r : List (String × DataW Unit)} {W : World} {g : Nat} (h : laidMet Tryz.prog ((n, .iface "*errors.errorString" (.ptr (.agg [.lit (.string text)]))) :: r) W)
   (hg:Tryz.prog.globalNamed n=some g) (ht:(Tryz.prog.globals[g]?).map (·.type)=some 107):SentAt W g text:=by
 obtain ⟨ps,⟨g0,t0,cs0,f0,p0,q0,hg0,ht0,hv0,hd0,_,e0⟩,_,hrows⟩:=h
 obtain rfl:=Option.some.inj (hg.symm.trans hg0)
 obtain rfl:=Option.some.inj (ht.symm.trans ht0)
 subst e0
 obtain ⟨l0⟩:=cs0
 have ok0:∀ u v,l0 = [.iface u v]→Value.okWide Tryz.prog W .any 0 u v:=fun u v e=>by
   subst e
   exact (hrows g 0 (by simp [MemPlace.row])).2 u v (by simpa using World.var?_cell hg0 hv0 0)
 obtain ⟨a0,s0,rfl,hc0,hs0,hz0,rfl⟩:=errorString_of_trod Tryz.underlying107 tRow Tryz.underlying257 Tryz.underlying309 rfl rfl Tryz.underlying9 tCells309 tCells9 hd0 ok0
 obtain ⟨c0,t0,hb0⟩:=(hrows a0.block a0.off (by simp [MemPlace.row])).1
 exact ⟨a0,s0,by simpa using World.var?_cell hg0 hv0 0,hc0,hs0,c0,t0,hb0⟩
theorem laid_errs {W:World} (h:laidMetH Tryz.prog laid9 W):∃ eb,ErrsOk W W.heap.size eb:=by
 rw [MakeChecks.laidMetH_plain _ _ _ (by kernel_rfl)] at h
 have h3:laidMet Tryz.prog (laid9.drop 3) W:=h.tail.tail.tail
 have h4:=h3.tail
 have h5:=h4.tail
 have h6:=h5.tail
 have h7:=h6.tail
 have h8:=h7.tail
 obtain ⟨a1,s1,c1,d1,x1,o1⟩:=sent_of h3 (g:=1) (by kernel_rfl) (by kernel_rfl)
 obtain ⟨a0,s0,c0,d0,x0,o0⟩:=sent_of h4 (g:=0) (by kernel_rfl) (by kernel_rfl)
 obtain ⟨a4,s4,c4,d4,x4,o4⟩:=sent_of h5 (g:=4) (by kernel_rfl) (by kernel_rfl)
 obtain ⟨a3,s3,c3,d3,x3,o3⟩:=sent_of h6 (g:=3) (by kernel_rfl) (by kernel_rfl)
 obtain ⟨a5,s5,c5,d5,x5,o5⟩:=sent_of h7 (g:=5) (by kernel_rfl) (by kernel_rfl)
 obtain ⟨a2,s2,c2,d2,x2,o2⟩:=sent_of h8 (g:=2) (by kernel_rfl) (by kernel_rfl)
 have ne:∀ {a b:Addr} {s t:ByteArray} {l m:List UInt8},W.cell? a=some (.string s)→W.cell? b=some (.string t)→s.data.toList=l→t.data.toList=m→l≠m→a≠b:=fun ha hb hl hm hn e=>by
   subst e
   rw [ha] at hb
   cases hb
   exact hn (hl.symm.trans hm)
 refine ⟨fun i=>match i with | 0=>a0 | 1=>a1 | 2=>a2 | 3=>a3 | 4=>a4 | _=>a5,?_,?_,?_,?_,?_,Nat.le_refl _⟩
 · intro i hi
   match i,hi with
   | 0,_=>exact c0
   | 1,_=>exact c1
   | 2,_=>exact c2
   | 3,_=>exact c3
   | 4,_=>exact c4
   | 5,_=>exact c5
 · intro i hi
   match i,hi with
   | 0,_=>exact o0
   | 1,_=>exact o1
   | 2,_=>exact o2
   | 3,_=>exact o3
   | 4,_=>exact o4
   | 5,_=>exact o5
 · intro i j hi hj e
   match i,hi,j,hj with
   | 0,_,0,_=>rfl
   | 0,_,1,_=>exact absurd e (ne d0 d1 x0 x1 (by decide))
   | 0,_,2,_=>exact absurd e (ne d0 d2 x0 x2 (by decide))
   | 0,_,3,_=>exact absurd e (ne d0 d3 x0 x3 (by decide))
   | 0,_,4,_=>exact absurd e (ne d0 d4 x0 x4 (by decide))
   | 0,_,5,_=>exact absurd e (ne d0 d5 x0 x5 (by decide))
   | 1,_,0,_=>exact absurd e (ne d1 d0 x1 x0 (by decide))
   | 1,_,1,_=>rfl
   | 1,_,2,_=>exact absurd e (ne d1 d2 x1 x2 (by decide))
   | 1,_,3,_=>exact absurd e (ne d1 d3 x1 x3 (by decide))
   | 1,_,4,_=>exact absurd e (ne d1 d4 x1 x4 (by decide))
   | 1,_,5,_=>exact absurd e (ne d1 d5 x1 x5 (by decide))
   | 2,_,0,_=>exact absurd e (ne d2 d0 x2 x0 (by decide))
   | 2,_,1,_=>exact absurd e (ne d2 d1 x2 x1 (by decide))
   | 2,_,2,_=>rfl
   | 2,_,3,_=>exact absurd e (ne d2 d3 x2 x3 (by decide))
   | 2,_,4,_=>exact absurd e (ne d2 d4 x2 x4 (by decide))
   | 2,_,5,_=>exact absurd e (ne d2 d5 x2 x5 (by decide))
   | 3,_,0,_=>exact absurd e (ne d3 d0 x3 x0 (by decide))
   | 3,_,1,_=>exact absurd e (ne d3 d1 x3 x1 (by decide))
   | 3,_,2,_=>exact absurd e (ne d3 d2 x3 x2 (by decide))
   | 3,_,3,_=>rfl
   | 3,_,4,_=>exact absurd e (ne d3 d4 x3 x4 (by decide))
   | 3,_,5,_=>exact absurd e (ne d3 d5 x3 x5 (by decide))
   | 4,_,0,_=>exact absurd e (ne d4 d0 x4 x0 (by decide))
   | 4,_,1,_=>exact absurd e (ne d4 d1 x4 x1 (by decide))
   | 4,_,2,_=>exact absurd e (ne d4 d2 x4 x2 (by decide))
   | 4,_,3,_=>exact absurd e (ne d4 d3 x4 x3 (by decide))
   | 4,_,4,_=>rfl
   | 4,_,5,_=>exact absurd e (ne d4 d5 x4 x5 (by decide))
   | 5,_,0,_=>exact absurd e (ne d5 d0 x5 x0 (by decide))
   | 5,_,1,_=>exact absurd e (ne d5 d1 x5 x1 (by decide))
   | 5,_,2,_=>exact absurd e (ne d5 d2 x5 x2 (by decide))
   | 5,_,3,_=>exact absurd e (ne d5 d3 x5 x3 (by decide))
   | 5,_,4,_=>exact absurd e (ne d5 d4 x5 x4 (by decide))
   | 5,_,5,_=>rfl
 · intro i hi
   match i,hi with
   | 0,_=>obtain ⟨_,_,o⟩:=o0;exact lt_of_some o
   | 1,_=>obtain ⟨_,_,o⟩:=o1;exact lt_of_some o
   | 2,_=>obtain ⟨_,_,o⟩:=o2;exact lt_of_some o
   | 3,_=>obtain ⟨_,_,o⟩:=o3;exact lt_of_some o
   | 4,_=>obtain ⟨_,_,o⟩:=o4;exact lt_of_some o
   | 5,_=>obtain ⟨_,_,o⟩:=o5;exact lt_of_some o
 · have:=World.block_lt_of_cell? W _ c5
   exact this
end Go.Proofs.YtbafaadmlpamiaaGreatDoor
