import Derived.Test.YtbafaadmlpamiaaGreatDoorP1
import Derived.Deep.Slices
import Derived.Deep.SlicePairs
import Derived.ReadAgain
import Derived.ChangeSame
import Derived.OpenShut
import Derived.WideShapes
import Derived.ProofKit
set_option maxRecDepth 100000
namespace Go.Proofs.YtbafaadmlpamiaaGreatDoor
open Go Go.Hy Go.ChangeShapes Go.WideShapes Go.RowKit Go.Deep
theorem cell_lt {w:World} {a:Addr} {v:Value} (h:w.cell? a=some v):a.block < w.heap.size:=by
 unfold World.cell? at h
 split at h
 · rename_i e
   exact lt_of_some e
 · cases h
theorem addr_of {w:World} {a:Addr} {v:Value} (h:w.cell? (a.add 0)=some v):∃ ob off,a=⟨ob,off,none⟩∧ob < w.heap.size:=by
 obtain ⟨b,off,s⟩:=a
 have hs:s=none:=by simpa [Addr.add] using World.cell?_spot h
 subst hs
 rw [Addr.add_lit] at h
 exact ⟨b,off,rfl,cell_lt h⟩
def numV:Value→Int
 | .int _ n=>n
 | _=>0
def txtV:Value→ByteArray
 | .string s=>s
 | _=>⟨#[]⟩
theorem range_get {α:Type} {len i:Nat} {f:Nat→α} {x:α} (h:((List.range len).map f)[i]? = some x):i < len∧x=f i:=by
 rw [List.getElem?_map,Option.map_eq_some_iff] at h
 obtain ⟨j,hj,rfl⟩:=h
 obtain ⟨h1,h2⟩:=List.getElem?_eq_some_iff.1 hj
 rw [List.getElem_range] at h2
 subst h2
 rw [List.length_range] at h1
 exact ⟨h1,rfl⟩
theorem tc3:Tryz.prog.cellsOf 3=1:=by kernel_rfl
theorem tc5:Tryz.prog.cellsOf 5=1:=by kernel_rfl
theorem tc9:Tryz.prog.cellsOf 9=1:=by kernel_rfl
theorem tc26:Tryz.prog.cellsOf 26=1:=by kernel_rfl
theorem tc28:Tryz.prog.cellsOf 28=5:=by kernel_rfl
theorem tc30:Tryz.prog.cellsOf 30=2:=by kernel_rfl
theorem tc32:Tryz.prog.cellsOf 32=1:=by kernel_rfl
section
variable {H:Type} {enc:TypeId × Value→H} {w:World} {base:Nat} {spare:Nat→Bool} {held:Bool}
theorem open_prs {fuel:Nat} {ao:Option Addr} {len cap:Nat} {x:DataW H × List MemPlace} (h:DataW.trod enc Tryz.prog w base spare held fuel 26 [.slice ao len cap]=some x):∃ prs,PrAt w (.slice ao len cap) prs:=by
 rcases open_slice_pairs Tryz.underlying26 Tryz.underlying30 tc30 rfl rfl tc9 tc9 h with ⟨e,_⟩|⟨a,len',cap',m,n,V0,V1,D0,D1,P0,P1,e,_,hl,_,hm,_,hx⟩
 · simp only [List.cons.injEq,Value.slice.injEq,and_true] at e
   obtain ⟨rfl,rfl,rfl⟩:=e
   exact ⟨[],none,0,rfl,fun i p h=>by simp at h⟩
 · simp only [List.cons.injEq,Value.slice.injEq,and_true] at e
   obtain ⟨rfl,rfl,rfl⟩:=e
   have lm:len≤m:=by rw [hm];split <;> omega
   refine ⟨(List.range len).map fun i=>(txtV (V0 i),txtV (V1 i)),some a,cap,by simp,fun i p hi => ?_⟩
   obtain ⟨h1,rfl⟩:=range_get hi
   obtain ⟨h2,h3,h4,h5⟩:=hx i (by omega)
   obtain ⟨k,e,_,_⟩:=DataW.trod_string Tryz.underlying9 h4
   obtain ⟨k',e',_,_⟩:=DataW.trod_string Tryz.underlying9 h5
   simp only [List.cons.injEq,and_true] at e e'
   obtain ⟨ob,off,rfl,q1⟩:=addr_of (hx 0 (by omega)).1
   rw [Addr.add_lit] at h2 h3
   exact ⟨ob,off,rfl,q1,by rw [e] at h2 ⊢;exact h2,by rw [e'] at h3 ⊢;exact h3⟩
theorem open_prs' {fuel:Nat} {v:Value} {x:DataW H × List MemPlace} (h:DataW.trod enc Tryz.prog w base spare held fuel 26 [v]=some x):∃ prs,PrAt w v prs:=by
 rcases open_slice Tryz.underlying26 h with ⟨e,_⟩|⟨a,len,cap,_,_,_,_,e,_⟩
 · simp only [List.cons.injEq,and_true] at e
   subst e
   exact open_prs h
 · simp only [List.cons.injEq,and_true] at e
   subst e
   exact open_prs h
theorem open_do {fuel:Nat} {cs:List Value} {x:DataW H × List MemPlace} (h:DataW.trod enc Tryz.prog w base spare held fuel 28 cs=some x) :
   ∃ (d:DoIn) (pv:Value),cs = [.int .u8 d.op,.string d.a,.string d.b,.int .i64 d.wt,pv]∧PrAt w pv d.prs:=by
 obtain ⟨xs,n,_,_,hl,hn,hf⟩:=DataW.trod_struct Tryz.underlying28 h
 rw [tc28] at hl
 have hn':xs.length=5:=hn
 match cs,hl,xs,hn' with
 | [c0,c1,c2,c3,c4],_,[y0,y1,y2,y3,y4],_ =>
   have g0:=hf 0 _ rfl
   have g1:=hf 1 _ rfl
   have g2:=hf 2 _ rfl
   have g3:=hf 3 _ rfl
   have g4:=hf 4 _ rfl
   simp [tc5,tc9,tc3,tc26] at g0 g1 g2 g3 g4
   obtain ⟨op,e0,_,wf⟩:=DataW.trod_int Tryz.underlying5 g0
   obtain ⟨a,e1,_,_⟩:=DataW.trod_string Tryz.underlying9 g1
   obtain ⟨b,e2,_,_⟩:=DataW.trod_string Tryz.underlying9 g2
   obtain ⟨wt,e3,_,_⟩:=DataW.trod_int Tryz.underlying3 g3
   obtain ⟨prs,hp⟩:=open_prs' g4
   simp only [List.cons.injEq,and_true] at e0 e1 e2 e3
   have h0:0≤op:=by
     simp only [Lit.wf,Bool.and_eq_true,decide_eq_true_eq] at wf
     have:=wf.1
     exact this
   refine ⟨⟨op.toNat,a,b,wt,prs⟩,c4,?_,hp⟩
   rw [e0,e1,e2,e3]
   simp only [Int.toNat_of_nonneg h0]
theorem open_dos {fuel:Nat} {ao:Option Addr} {len cap:Nat} {x:DataW H × List MemPlace} (h:DataW.trod enc Tryz.prog w base spare held fuel 31 [.slice ao len cap]=some x):∃ ds,SDosAt w (.slice ao len cap) ds:=by
 rcases open_slice Tryz.underlying31 h with ⟨e,_⟩|⟨a,len',cap',m,n,D,Pl,e,_,hl,_,hm,_,hx⟩
 · simp only [List.cons.injEq,Value.slice.injEq,and_true] at e
   obtain ⟨rfl,rfl,rfl⟩:=e
   exact ⟨[],none,0,rfl,fun i p h=>by simp at h⟩
 · simp only [List.cons.injEq,Value.slice.injEq,and_true] at e
   obtain ⟨rfl,rfl,rfl⟩:=e
   rw [tc28] at hx
   have lm:len≤m:=by rw [hm];split <;> omega
   have key:∀ i, ∃ (q:DoIn × Value),i < len→(∃ ob off,a=⟨ob,off,none⟩∧ob < w.heap.size∧w.cell? ⟨ob,off+i * 5,none⟩=some (.int .u8 q.1.op)∧w.cell? ⟨ob,off+i * 5+1,none⟩=some (.string q.1.a) ∧
       w.cell? ⟨ob,off+i * 5+2,none⟩=some (.string q.1.b)∧w.cell? ⟨ob,off+i * 5+3,none⟩=some (.int .i64 q.1.wt)∧w.cell? ⟨ob,off+i * 5+4,none⟩=some q.2)∧PrAt w q.2 q.1.prs:=fun i=>by
     by_cases hi:i < len
     · obtain ⟨cs,h2,h3⟩:=hx i (by omega)
       obtain ⟨d,pv,rfl,hp⟩:=open_do h3
       obtain ⟨_,_,hcell⟩:=World.cells?_some h2
       refine ⟨(d,pv),fun _=>⟨?_,hp⟩⟩
       have e0:=hcell 0 (by omega)
       have e1:=hcell 1 (by omega)
       have e2:=hcell 2 (by omega)
       have e3:=hcell 3 (by omega)
       have e4:=hcell 4 (by omega)
       rw [add_add] at e0 e1 e2 e3 e4
       obtain ⟨cs0,hz,_⟩:=hx 0 (by omega)
       obtain ⟨_,hzl,hzc⟩:=World.cells?_some hz
       have ez:=hzc 0 (by omega)
       rw [add_add] at ez
       obtain ⟨c00,hc00⟩ : ∃ c,cs0[0]? = some c:=⟨_,List.getElem?_eq_getElem (by omega)⟩
       obtain ⟨ob,off,rfl,q1⟩:=addr_of (ez.trans hc00)
       rw [Addr.add_lit] at e0 e1 e2 e3 e4
       exact ⟨ob,off,rfl,q1,by simpa [Nat.add_assoc] using e0,by simpa [Nat.add_assoc] using e1,by simpa [Nat.add_assoc] using e2,by simpa [Nat.add_assoc] using e3,by simpa [Nat.add_assoc] using e4⟩
     · exact ⟨(⟨0,⟨#[]⟩,⟨#[]⟩,0,[]⟩,.nilIface),fun q=>absurd q hi⟩
   refine ⟨(List.range len).map fun i=>(Classical.choose (key i)).1,some a,cap,by simp,fun i p hi => ?_⟩
   obtain ⟨h1,rfl⟩:=range_get hi
   obtain ⟨⟨ob,off,rfl,q1,c0,c1,c2,c3,c4⟩,hp⟩:=Classical.choose_spec (key i) h1
   exact ⟨ob,off,_,rfl,q1,c0,c1,c2,c3,c4,hp⟩
end
theorem all_fr {H:Type} {enc:TypeId × Value→H} {W W':World} {sp:Nat→Bool} {hd:Bool} (f:Fr0 W W'):∀ {ts:List TypeId} {vs:List Value} {ds:List (DataW H)} {ps:List MemPlace},DataW.TrodAll enc Tryz.prog W 0 sp hd ts vs ds ps→(∀ p∈ps,p.block < W.heap.size) →
   DataW.TrodAll enc Tryz.prog W' 0 sp hd ts vs ds ps
 | [],[],[],_,h,_=>h
 | _ :: _,_ :: _,_ :: _,_,⟨p,q,⟨n,h1⟩,h2,e⟩,hs=>⟨p,q,⟨n,DataW.trod_carry n _ _ _ h1 fun x hx=>by
     have hb:=hs x (by rw [e];exact List.mem_append_left _ hx)
     cases x with
     | cell b o=>exact f.cell (p:=⟨b,o,none⟩) hb (fun q=>q)
     | map b=>exact f.block b hb (fun q=>q)⟩,all_fr f h2 (fun x hx=>hs x (by rw [e];exact List.mem_append_right _ hx)),e⟩
end Go.Proofs.YtbafaadmlpamiaaGreatDoor
namespace Go.Proofs.YtbafaadmlpamiaaGreatDoor
open Go Go.Hy Go.ChangeShapes Go.WideShapes Go.RowKit
theorem tc4:Tryz.prog.cellsOf 4=1:=by kernel_rfl
theorem tc52:Tryz.prog.cellsOf 52=7:=by kernel_rfl
theorem open_kind {H:Type} {enc:TypeId × Value→H} {W:World} {base:Nat} {spare:Nat→Bool} {held:Bool} {b0:Nat} {v:Value} {d:DataW H} {ps:List MemPlace} (hval:Value.okWide Tryz.prog W .any b0 52 v) (h:DataW.Trod enc Tryz.prog W base spare held 52 v d ps) :
   ∃ (b0 b1 b2 b3 b4 b5:Bool) (hk:Nat),v=.agg #[.bool b0,.bool b1,.bool b2,.bool b3,.bool b4,.bool b5,.int .u8 hk]:=by
 obtain ⟨cs,rfl,hsz⟩:=okWide_struct Tryz.underlying52 hval
 obtain ⟨fuel,hf⟩:=h
 replace hf:DataW.trod enc Tryz.prog W base spare held fuel 52 cs.toList=some _:=hf
 obtain ⟨xs,n,_,_,hl,hn,hg⟩:=DataW.trod_struct Tryz.underlying52 hf
 rw [tc52] at hl
 have hn':xs.length=7:=hn
 have ecs:cs=cs.toList.toArray:=by simp
 generalize cs.toList=l at *
 match l,hl,xs,hn' with
 | [c0,c1,c2,c3,c4,c5,c6],_,[y0,y1,y2,y3,y4,y5,y6],_ =>
   have g0:=hg 0 _ rfl
   have g1:=hg 1 _ rfl
   have g2:=hg 2 _ rfl
   have g3:=hg 3 _ rfl
   have g4:=hg 4 _ rfl
   have g5:=hg 5 _ rfl
   have g6:=hg 6 _ rfl
   simp [tc4,tc5] at g0 g1 g2 g3 g4 g5 g6
   obtain ⟨x0,e0,_⟩:=DataW.trod_bool Tryz.underlying4 g0
   obtain ⟨x1,e1,_⟩:=DataW.trod_bool Tryz.underlying4 g1
   obtain ⟨x2,e2,_⟩:=DataW.trod_bool Tryz.underlying4 g2
   obtain ⟨x3,e3,_⟩:=DataW.trod_bool Tryz.underlying4 g3
   obtain ⟨x4,e4,_⟩:=DataW.trod_bool Tryz.underlying4 g4
   obtain ⟨x5,e5,_⟩:=DataW.trod_bool Tryz.underlying4 g5
   obtain ⟨hk,e6,_,wf⟩:=DataW.trod_int Tryz.underlying5 g6
   simp only [List.cons.injEq,and_true] at e0 e1 e2 e3 e4 e5 e6
   have h0:0≤hk:=by
     simp only [Lit.wf,Bool.and_eq_true,decide_eq_true_eq] at wf
     exact wf.1
   refine ⟨x0,x1,x2,x3,x4,x5,hk.toNat,?_⟩
   rw [ecs,e0,e1,e2,e3,e4,e5,e6]
   simp only [Int.toNat_of_nonneg h0]
end Go.Proofs.YtbafaadmlpamiaaGreatDoor
