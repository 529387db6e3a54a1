/- What is told, cell by cell; slices.Equal of the same. -/
import Derived.Test.YtbafaadmlpamiaaGreatDoorByK2
namespace Go.Proofs.YtbafaadmlpamiaaGreatDoor
open Go Go.Hy Go.RowKit
theorem PairsIn.form {w : World} {p : Nat → Prop} {v : Value} {es : List PP} (h : PairsIn w p v es) : ∃ ao cap,v = .slice ao es.length cap := by
 obtain ⟨⟨ao,cap,e,_⟩,_⟩ := h
 exact ⟨ao,cap,e⟩
theorem LinksIn.form {w : World} {p : Nat → Prop} {v : Value} {ls : List SL} (h : LinksIn w p v ls) : ∃ ao cap,v = .slice ao ls.length cap ∧ ls.length ≤ cap := by
 obtain ⟨vs,h1,⟨ao,cap,e,hc,_⟩,_⟩ := h
 exact ⟨ao,cap,e,hc⟩
theorem LinksIn.at_ {w : World} {p : Nat → Prop} {v : Value} {ls : List SL} (h : LinksIn w p v ls) {i : Nat} {x : SL} (hi : ls[i]? = some x) :
   ∃ ob cap pv,v = .slice (some ⟨ob,0,none⟩) ls.length cap ∧ ob < w.heap.size ∧ p ob ∧ w.cell? ⟨ob,i * 4,none⟩ = some (.string x.a) ∧ w.cell? ⟨ob,i * 4 + 1,none⟩ = some (.string x.b) ∧
     w.cell? ⟨ob,i * 4 + 2,none⟩ = some (.int .i64 x.wt) ∧ w.cell? ⟨ob,i * 4 + 3,none⟩ = some pv ∧ PairsIn w p pv x.es := by
 obtain ⟨vs,h1,h2,h3,h4⟩ := h
 have hlt := (List.getElem?_eq_some_iff.1 hi).1
 have hu := List.getElem?_eq_getElem (show i < vs.length by omega)
 have hz : (ls.zip vs)[i]? = some (x,vs[i]'(by omega)) := by rw [List.getElem?_zip_eq_some];exact ⟨hi,hu⟩
 have cell : ∀ c u,c < 4 → (encLk (x,vs[i]'(by omega)))[c]? = some u → ∃ ob cap,v = .slice (some ⟨ob,0,none⟩) ls.length cap ∧ ls.length ≤ cap ∧ ob < w.heap.size ∧ w.cell? ⟨ob,i * 4 + c,none⟩ = some u := fun c u hc hq =>
   h2.cell ((encL_mem encLk 4 _ (fun _ _ => rfl) i c _ hz hc).trans hq)
 obtain ⟨ob,cap,rfl,_,hl,c0⟩ := cell 0 _ (by decide) rfl
 obtain ⟨_,_,e1,_,_,c1⟩ := cell 1 _ (by decide) rfl
 obtain ⟨_,_,e2,_,_,c2⟩ := cell 2 _ (by decide) rfl
 obtain ⟨_,_,e3,_,_,c3⟩ := cell 3 _ (by decide) rfl
 cases e1
 cases e2
 cases e3
 exact ⟨ob,cap,_,rfl,hl,(h3 ob rfl).1,c0,c1,c2,c3,h4 i x _ hi hu⟩
set_option maxRecDepth 100000 in
set_option maxHeartbeats 1000000 in
theorem equal30 (w : World) (p p' : Nat → Prop) (v v' : Value) (ks : List ByteArray) (h : KeysIn w p v ks) (h' : KeysIn w p' v' ks) (hs : ks.length ≤ 400000) :
   Calls Tryz.prog 30 #[v,v'] w fun e w' => e = .returned (.bool true) ∧ Fr0 w w' := by
 have H := Lib.hid h
 have H' := Lib.hid h'
 obtain ⟨⟨ao,cap,rfl,_,_⟩,_⟩ := h
 obtain ⟨⟨bo,cap',rfl,_,_⟩,_⟩ := h'
 go_enter Tryz.func30,Tryz.ntmps30
 go_wp2_with fail
 go_loopg [13] ks.length (fun n c wr => ∃ i : Nat,n + i = ks.length ∧ c = .int .i64 (i : Nat) ∧ Fr0 w wr)
 case atStart => exact ⟨0,rfl,rfl,Fr.refl _ _⟩
 case round =>
   obtain ⟨i,hk,rfl,f⟩ := hrel
   have A := hid2 hk f
   clear hk f
   by_cases hi : i < ks.length
   · have hg : (ks.map Value.string)[i]? = some (.string ks[i]) := by rw [List.getElem?_map,List.getElem?_eq_getElem hi];rfl
     obtain ⟨ob,c1,e,_,_,d0⟩ := (H.out.fr A.out.2 (fun _ _ _ q => q)).1.cell hg
     cases e
     obtain ⟨ob',c1',e,_,_,d1⟩ := (H'.out.fr A.out.2 (fun _ _ _ q => q)).1.cell hg
     cases e
     generalize ks[i] = k at d0 d1
     clear hg
     go_wp2_with fail
     go_quiet (fail)
     go_wp2_with fail
     go_roundg (gk - 1)
     case measure => have := A.out.1;omega
     case rel => exact ⟨i + 1,by have := A.out.1;omega,by simp,A.out.2.drewN _⟩
   · have hi' : i = ks.length := by have := A.out.1;omega
     subst hi'
     go_wp2_with fail
     go_ret
     exact ⟨rfl,A.out.2⟩
end Go.Proofs.YtbafaadmlpamiaaGreatDoor
