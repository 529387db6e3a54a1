/- A step of the store of lists: counts. -/
import Derived.Test.YtbafaadmlpamiaaGreatDoorSto6
namespace Go.Proofs.YtbafaadmlpamiaaGreatDoor
open Go Go.Hy Go.RowKit

theorem StoP.cnt {w w' : World} {sb : Nat} {s : St} (h : ZRep w sb s) (f : Fr0 w w') (n m : Nat) : StoP w sb { order := n, size := m } s (.returned (toldC n m)) w' :=
  ⟨_, rfl, toldC_at _ _ n m, h.fr0 f, f.mono fun _ q => q.elim⟩

set_option maxRecDepth 100000 in
set_option maxHeartbeats 1000000 in
theorem sto7 (w : World) (sb : Nat) (s : St) (h : ZRep w sb s) (hs : Small s) (a b : ByteArray) (wt : Int) (pv : Value) (prs : List PP) (hp : PrAt w pv prs) :
    Calls Tryz.prog 28 #[.pointer (some ⟨sb, 0, none⟩), doS 7 a b wt pv] w fun e w' => StoP w sb { order := s.ps.length, size := s.ls.length } s e w' := by
  have H := Lib.hid h
  have hlb := h.lt
  have HS := Lib.hid hs
  clear h hs
  obtain ⟨pa, pc, rfl⟩ := hp.form
  clear hp
  have W0 := Lib.hid (w28_cells w 7 a b wt (.slice pa prs.length pc))
  go_enter Tryz.func28, Tryz.ntmps28
  go_wp2_with fail
  go_quiet (fail)
  go_wp2_with fail
  refine (point44 _ sb s (H.out.fr0 (by (repeat' (first | (with_reducible exact Fr.refl _ _) | (with_reducible assumption) | (with_reducible refine Fr.drew ?_) | (with_reducible refine Fr.drewN ?_ _) | (with_reducible refine Fr.alloc ?_ _) | ((with_reducible refine Fr.setM ?_ (.inl ?_) _ _); rotate_left; focus (simp; done)) | ((with_reducible refine Fr.setCell ?_ (.inr ?_) _); rotate_left; focus (simp; done)) | ((with_reducible refine Fr.setCell ?_ (.inr ?_) _); rotate_left; focus (simp; omega)))))) HS.out.ps a).mono ?_
  rintro e w2 ⟨rfl, f2⟩
  have F2 := Lib.hid (show Fr0 (W28 w 7 a b wt (.slice pa prs.length pc)) w2 from Fr.trans0 (by (repeat' (first | (with_reducible exact Fr.refl _ _) | (with_reducible assumption) | (with_reducible refine Fr.drew ?_) | (with_reducible refine Fr.drewN ?_ _) | (with_reducible refine Fr.alloc ?_ _) | ((with_reducible refine Fr.setM ?_ (.inl ?_) _ _); rotate_left; focus (simp; done)) | ((with_reducible refine Fr.setCell ?_ (.inr ?_) _); rotate_left; focus (simp; done)) | ((with_reducible refine Fr.setCell ?_ (.inr ?_) _); rotate_left; focus (simp; omega))))) f2)
  clear f2
  go_wp2_with fail
  refine (link45 _ sb s (H.out.fr0 (W0.out.2.2.2.trans0 F2.out)) HS.out.ls a b).mono ?_
  rintro e w3 ⟨rfl, f3⟩
  have F3 := Lib.hid (F2.out.trans0 f3)
  clear f3
  have f30 := W0.out.2.2.2.trans0 F3.out
  have hne0 : sb ≠ w.heap.size := by omega
  have hne1 : sb ≠ w.heap.size + 1 := by omega
  have hne2 : sb ≠ w.heap.size + 1 + 1 := by omega
  have hne3 : w.heap.size + 1 + 1 ≠ sb := by omega
  obtain ⟨b1, b2, b3, b4, pv0, lv0, hc0, hpt0, hlk0⟩ := H.out.fr0 f30
  obtain ⟨pa', pc', rfl, -⟩ := hpt0.form
  obtain ⟨la', lc', rfl, -⟩ := hlk0.form
  have c7 := hc0.cell 7 _ rfl
  have c8 := hc0.cell 8 _ rfl
  have D := W0.out.1.fr F3.out (fun q => q)
  have R := W0.out.2.1.fr F3.out (fun q => q)
  have X := W0.out.2.2.1.fr F3.out (fun q => q)
  have d0 := D.cell 0 _ rfl
  have r0 := R.cell 0 _ rfl
  have r1 := R.cell 1 _ rfl
  have r2 := R.cell 2 _ rfl
  have r3 := R.cell 3 _ rfl
  have r4 := R.cell 4 _ rfl
  have r5 := R.cell 5 _ rfl
  have r6 := R.cell 6 _ rfl
  have r7 := R.cell 7 _ rfl
  have r8 := R.cell 8 _ rfl
  have r9 := R.cell 9 _ rfl
  have rf0 := R.free 0
  have rf1 := R.free 1
  have rf2 := R.free 2
  have rf3 := R.free 3
  have rf4 := R.free 4
  have rf5 := R.free 5
  have rf6 := R.free 6
  have rf7 := R.free 7
  have rf8 := R.free 8
  have rf9 := R.free 9
  have rl := R.lt
  have x0 := X.cell 0 _ rfl
  have x1 := X.cell 1 _ rfl
  have x2 := X.cell 2 _ rfl
  have x3 := X.cell 3 _ rfl
  have x4 := X.cell 4 _ rfl
  have x5 := X.cell 5 _ rfl
  have x6 := X.cell 6 _ rfl
  have x7 := X.cell 7 _ rfl
  have x8 := X.cell 8 _ rfl
  have x9 := X.cell 9 _ rfl
  have xf5 := X.free 5
  have xf6 := X.free 6
  have xl := X.lt
  have FF := Lib.hid f30
  clear D R X f30 hc0 hpt0 hlk0
  go_wp2_with fail
  go_region_held3 (fun w' => w'.cell? ⟨sb, 7, none⟩ = some (.slice pa' s.ps.length pc') ∧ w'.cell? ⟨sb, 8, none⟩ = some (.slice la' s.ls.length lc')) (go_keep) (fail)
  all_goals go_wp2_with fail
  all_goals have f30 := FF.out
  all_goals refine bodyPost_ret (v := toldC s.ps.length s.ls.length) (by simp [results, Tryz.results28, go_sem, *]) rfl ?_
  all_goals exact StoP.cnt H.out (by (repeat' (first | (with_reducible exact Fr.refl _ _) | (with_reducible assumption) | (with_reducible refine Fr.drew ?_) | (with_reducible refine Fr.drewN ?_ _) | (with_reducible refine Fr.alloc ?_ _) | ((with_reducible refine Fr.setM ?_ (.inl ?_) _ _); rotate_left; focus (simp; done)) | ((with_reducible refine Fr.setCell ?_ (.inr ?_) _); rotate_left; focus (simp; done)) | ((with_reducible refine Fr.setCell ?_ (.inr ?_) _); rotate_left; focus (simp; omega))))) _ _

end Go.Proofs.YtbafaadmlpamiaaGreatDoor
