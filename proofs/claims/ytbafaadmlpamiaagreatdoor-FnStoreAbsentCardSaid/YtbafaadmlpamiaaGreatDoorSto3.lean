/- A step of the store of lists: what is refused. -/
import Derived.Test.YtbafaadmlpamiaaGreatDoorSto2
namespace Go.Proofs.YtbafaadmlpamiaaGreatDoor
open Go Go.Hy Go.RowKit

/-- a step, as a value -/
abbrev doS (op : Int) (a b : ByteArray) (wt : Int) (pv : Value) : Value := .agg #[.int .u8 op, .string a, .string b, .int .i64 wt, pv]

/-- what a step of the store tells and leaves -/
def StoP (w : World) (sb : Nat) (t : Tl) (s' : St) (e : Ending) (w' : World) : Prop := ∃ v, e = .returned v ∧ ToldIn w' (fun q => q ≠ sb) v t ∧ ZRep w' sb s' ∧ Fr (fun k => k = sb) w w'

theorem StoP.no {w w' : World} {sb : Nat} {s : St} (h : ZRep w sb s) (f : Fr0 w w') (c : Nat) : StoP w sb { err := c } s (.returned (toldE c)) w' :=
  ⟨_, rfl, toldE_at _ _ c, h.fr0 f, f.mono fun _ q => q.elim⟩

/-- the world in which a step stands behind its first statements -/
abbrev W28 (w : World) (op : Int) (a b : ByteArray) (wt : Int) (pv : Value) : World := ((w.alloc (.cells #[.int .u8 op, .string a, .string b, .int .i64 wt, pv] 28)).alloc (.cells zT 61)).alloc (.cells zT 61)

theorem w28_cells (w : World) (op : Int) (a b : ByteArray) (wt : Int) (pv : Value) : Cells (W28 w op a b wt pv) w.heap.size #[.int .u8 op, .string a, .string b, .int .i64 wt, pv] 28 ∧
    Cells (W28 w op a b wt pv) (w.heap.size + 1) zT 61 ∧ Cells (W28 w op a b wt pv) (w.heap.size + 1 + 1) zT 61 ∧ Fr0 w (W28 w op a b wt pv) := by
  have z1 : (w.alloc (.cells #[.int .u8 op, .string a, .string b, .int .i64 wt, pv] 28)).heap.size = w.heap.size + 1 := by simp
  have z2 : ((w.alloc (.cells #[.int .u8 op, .string a, .string b, .int .i64 wt, pv] 28)).alloc (.cells zT 61)).heap.size = w.heap.size + 1 + 1 := by simp
  have y1 := (Cells.new (w.alloc (.cells #[.int .u8 op, .string a, .string b, .int .i64 wt, pv] 28)) zT 61).alloc (.cells zT 61)
  have y2 := Cells.new ((w.alloc (.cells #[.int .u8 op, .string a, .string b, .int .i64 wt, pv] 28)).alloc (.cells zT 61)) zT 61
  rw [z1] at y1
  rw [z2] at y2
  exact ⟨((Cells.new w _ _).alloc _).alloc _, y1, y2, by (repeat' (first | (with_reducible exact Fr.refl _ _) | (with_reducible assumption) | (with_reducible refine Fr.drew ?_) | (with_reducible refine Fr.drewN ?_ _) | (with_reducible refine Fr.alloc ?_ _) | ((with_reducible refine Fr.setM ?_ (.inl ?_) _ _); rotate_left; focus (simp; done)) | ((with_reducible refine Fr.setCell ?_ (.inr ?_) _); rotate_left; focus (simp; done)) | ((with_reducible refine Fr.setCell ?_ (.inr ?_) _); rotate_left; focus (simp; omega))))⟩

-- GENERATED
set_option maxRecDepth 100000 in
set_option maxHeartbeats 1000000 in
theorem sto5_no (w : World) (sb : Nat) (s : St) (h : ZRep w sb s) (hs : Small s) (a b : ByteArray) (wt : Int) (pv : Value) (prs : List PP) (hp : PrAt w pv prs) (hn : ptI s.ps a = none) :
    Calls Tryz.prog 28 #[.pointer (some ⟨sb, 0, none⟩), doS 5 a b wt pv] w fun e w' => StoP w sb { err := 2 } s e w' := by
  have H := Lib.hid h
  have hlb := h.lt
  have HS := Lib.hid hs
  have HN := Lib.hid hn
  clear h hs hn
  obtain ⟨pa, pc, rfl⟩ := hp.form
  clear hp
  have W0 := Lib.hid (w28_cells w 5 a b wt (.slice pa prs.length pc))
  go_enter Tryz.func28, Tryz.ntmps28
  go_wp2_with fail
  go_quiet (fail)
  go_wp2_with fail
  refine (point44 _ sb s (H.out.fr0 (by (repeat' (first | (with_reducible exact Fr.refl _ _) | (with_reducible assumption) | (with_reducible refine Fr.drew ?_) | (with_reducible refine Fr.drewN ?_ _) | (with_reducible refine Fr.alloc ?_ _) | ((with_reducible refine Fr.setM ?_ (.inl ?_) _ _); rotate_left; focus (simp; done)) | ((with_reducible refine Fr.setCell ?_ (.inr ?_) _); rotate_left; focus (simp; done)) | ((with_reducible refine Fr.setCell ?_ (.inr ?_) _); rotate_left; focus (simp; omega)))))) HS.out.ps a).mono ?_
  rintro e w2 ⟨rfl, f2⟩
  have F2 := Lib.hid (show Fr0 (W28 w 5 a b wt (.slice pa prs.length pc)) w2 from Fr.trans0 (by (repeat' (first | (with_reducible exact Fr.refl _ _) | (with_reducible assumption) | (with_reducible refine Fr.drew ?_) | (with_reducible refine Fr.drewN ?_ _) | (with_reducible refine Fr.alloc ?_ _) | ((with_reducible refine Fr.setM ?_ (.inl ?_) _ _); rotate_left; focus (simp; done)) | ((with_reducible refine Fr.setCell ?_ (.inr ?_) _); rotate_left; focus (simp; done)) | ((with_reducible refine Fr.setCell ?_ (.inr ?_) _); rotate_left; focus (simp; omega))))) f2)
  clear f2
  rw [HN.out, plc_none]
  go_wp2_with fail
  refine (link45 _ sb s (H.out.fr0 (W0.out.2.2.2.trans0 F2.out)) HS.out.ls a b).mono ?_
  rintro e w3 ⟨rfl, f3⟩
  have F3 := Lib.hid (F2.out.trans0 f3)
  clear f3
  have f30 := W0.out.2.2.2.trans0 F3.out
  have D := W0.out.1.fr F3.out (fun q => q)
  have R := W0.out.2.1.fr F3.out (fun q => q)
  have X := W0.out.2.2.1.fr F3.out (fun q => q)
  have d0 := D.cell 0 _ rfl
  have d1 := D.cell 1 _ rfl
  have d2 := D.cell 2 _ rfl
  have d3 := D.cell 3 _ rfl
  have d4 := D.cell 4 _ rfl
  have dl := D.lt
  have r0 := R.cell 0 _ rfl
  have r1 := R.cell 1 _ rfl
  have r2 := R.cell 2 _ rfl
  have r3 := R.cell 3 _ rfl
  have r4 := R.cell 4 _ rfl
  have r5 := R.cell 5 _ rfl
  have r6 := R.cell 6 _ rfl
  have r7 := R.cell 7 _ rfl
  have r8 := R.cell 8 _ rfl
  have r9 := R.cell 9 _ rfl
  have rf0 := R.free 0
  have rf1 := R.free 1
  have rf2 := R.free 2
  have rf3 := R.free 3
  have rf4 := R.free 4
  have rf5 := R.free 5
  have rf6 := R.free 6
  have rf7 := R.free 7
  have rf8 := R.free 8
  have rf9 := R.free 9
  have rl := R.lt
  have x0 := X.cell 0 _ rfl
  have x1 := X.cell 1 _ rfl
  have x2 := X.cell 2 _ rfl
  have x3 := X.cell 3 _ rfl
  have x4 := X.cell 4 _ rfl
  have x5 := X.cell 5 _ rfl
  have x6 := X.cell 6 _ rfl
  have x7 := X.cell 7 _ rfl
  have x8 := X.cell 8 _ rfl
  have x9 := X.cell 9 _ rfl
  have xf0 := X.free 0
  have xl := X.lt
  have FF := Lib.hid f30
  clear D R X f30
  go_wp2_with fail
  have f30 := FF.out
  refine bodyPost_ret (v := toldE 2) (by simp [results, Tryz.results28, go_sem, *]) rfl ?_
  exact StoP.no H.out (by (repeat' (first | (with_reducible exact Fr.refl _ _) | (with_reducible assumption) | (with_reducible refine Fr.drew ?_) | (with_reducible refine Fr.drewN ?_ _) | (with_reducible refine Fr.alloc ?_ _) | ((with_reducible refine Fr.setM ?_ (.inl ?_) _ _); rotate_left; focus (simp; done)) | ((with_reducible refine Fr.setCell ?_ (.inr ?_) _); rotate_left; focus (simp; done)) | ((with_reducible refine Fr.setCell ?_ (.inr ?_) _); rotate_left; focus (simp; omega))))) 2

set_option maxRecDepth 100000 in
set_option maxHeartbeats 1000000 in
theorem sto1_no (w : World) (sb : Nat) (s : St) (h : ZRep w sb s) (hs : Small s) (a b : ByteArray) (wt : Int) (pv : Value) (prs : List PP) (hp : PrAt w pv prs) (hn : ptI s.ps a = none) :
    Calls Tryz.prog 28 #[.pointer (some ⟨sb, 0, none⟩), doS 1 a b wt pv] w fun e w' => StoP w sb { err := 2 } s e w' := by
  have H := Lib.hid h
  have hlb := h.lt
  have HS := Lib.hid hs
  have HN := Lib.hid hn
  clear h hs hn
  obtain ⟨pa, pc, rfl⟩ := hp.form
  clear hp
  have W0 := Lib.hid (w28_cells w 1 a b wt (.slice pa prs.length pc))
  go_enter Tryz.func28, Tryz.ntmps28
  go_wp2_with fail
  go_quiet (fail)
  go_wp2_with fail
  refine (point44 _ sb s (H.out.fr0 (by (repeat' (first | (with_reducible exact Fr.refl _ _) | (with_reducible assumption) | (with_reducible refine Fr.drew ?_) | (with_reducible refine Fr.drewN ?_ _) | (with_reducible refine Fr.alloc ?_ _) | ((with_reducible refine Fr.setM ?_ (.inl ?_) _ _); rotate_left; focus (simp; done)) | ((with_reducible refine Fr.setCell ?_ (.inr ?_) _); rotate_left; focus (simp; done)) | ((with_reducible refine Fr.setCell ?_ (.inr ?_) _); rotate_left; focus (simp; omega)))))) HS.out.ps a).mono ?_
  rintro e w2 ⟨rfl, f2⟩
  have F2 := Lib.hid (show Fr0 (W28 w 1 a b wt (.slice pa prs.length pc)) w2 from Fr.trans0 (by (repeat' (first | (with_reducible exact Fr.refl _ _) | (with_reducible assumption) | (with_reducible refine Fr.drew ?_) | (with_reducible refine Fr.drewN ?_ _) | (with_reducible refine Fr.alloc ?_ _) | ((with_reducible refine Fr.setM ?_ (.inl ?_) _ _); rotate_left; focus (simp; done)) | ((with_reducible refine Fr.setCell ?_ (.inr ?_) _); rotate_left; focus (simp; done)) | ((with_reducible refine Fr.setCell ?_ (.inr ?_) _); rotate_left; focus (simp; omega))))) f2)
  clear f2
  rw [HN.out, plc_none]
  go_wp2_with fail
  refine (link45 _ sb s (H.out.fr0 (W0.out.2.2.2.trans0 F2.out)) HS.out.ls a b).mono ?_
  rintro e w3 ⟨rfl, f3⟩
  have F3 := Lib.hid (F2.out.trans0 f3)
  clear f3
  have f30 := W0.out.2.2.2.trans0 F3.out
  have D := W0.out.1.fr F3.out (fun q => q)
  have R := W0.out.2.1.fr F3.out (fun q => q)
  have X := W0.out.2.2.1.fr F3.out (fun q => q)
  have d0 := D.cell 0 _ rfl
  have d1 := D.cell 1 _ rfl
  have d2 := D.cell 2 _ rfl
  have d3 := D.cell 3 _ rfl
  have d4 := D.cell 4 _ rfl
  have dl := D.lt
  have r0 := R.cell 0 _ rfl
  have r1 := R.cell 1 _ rfl
  have r2 := R.cell 2 _ rfl
  have r3 := R.cell 3 _ rfl
  have r4 := R.cell 4 _ rfl
  have r5 := R.cell 5 _ rfl
  have r6 := R.cell 6 _ rfl
  have r7 := R.cell 7 _ rfl
  have r8 := R.cell 8 _ rfl
  have r9 := R.cell 9 _ rfl
  have rf0 := R.free 0
  have rf1 := R.free 1
  have rf2 := R.free 2
  have rf3 := R.free 3
  have rf4 := R.free 4
  have rf5 := R.free 5
  have rf6 := R.free 6
  have rf7 := R.free 7
  have rf8 := R.free 8
  have rf9 := R.free 9
  have rl := R.lt
  have x0 := X.cell 0 _ rfl
  have x1 := X.cell 1 _ rfl
  have x2 := X.cell 2 _ rfl
  have x3 := X.cell 3 _ rfl
  have x4 := X.cell 4 _ rfl
  have x5 := X.cell 5 _ rfl
  have x6 := X.cell 6 _ rfl
  have x7 := X.cell 7 _ rfl
  have x8 := X.cell 8 _ rfl
  have x9 := X.cell 9 _ rfl
  have xf0 := X.free 0
  have xl := X.lt
  have FF := Lib.hid f30
  clear D R X f30
  go_wp2_with fail
  have f30 := FF.out
  refine bodyPost_ret (v := toldE 2) (by simp [results, Tryz.results28, go_sem, *]) rfl ?_
  exact StoP.no H.out (by (repeat' (first | (with_reducible exact Fr.refl _ _) | (with_reducible assumption) | (with_reducible refine Fr.drew ?_) | (with_reducible refine Fr.drewN ?_ _) | (with_reducible refine Fr.alloc ?_ _) | ((with_reducible refine Fr.setM ?_ (.inl ?_) _ _); rotate_left; focus (simp; done)) | ((with_reducible refine Fr.setCell ?_ (.inr ?_) _); rotate_left; focus (simp; done)) | ((with_reducible refine Fr.setCell ?_ (.inr ?_) _); rotate_left; focus (simp; omega))))) 2

set_option maxRecDepth 100000 in
set_option maxHeartbeats 1000000 in
theorem sto2_no (w : World) (sb : Nat) (s : St) (h : ZRep w sb s) (hs : Small s) (a b : ByteArray) (wt : Int) (pv : Value) (prs : List PP) (hp : PrAt w pv prs) (hn : ptI s.ps a = none) :
    Calls Tryz.prog 28 #[.pointer (some ⟨sb, 0, none⟩), doS 2 a b wt pv] w fun e w' => StoP w sb { err := 2 } s e w' := by
  have H := Lib.hid h
  have hlb := h.lt
  have HS := Lib.hid hs
  have HN := Lib.hid hn
  clear h hs hn
  obtain ⟨pa, pc, rfl⟩ := hp.form
  clear hp
  have W0 := Lib.hid (w28_cells w 2 a b wt (.slice pa prs.length pc))
  go_enter Tryz.func28, Tryz.ntmps28
  go_wp2_with fail
  go_quiet (fail)
  go_wp2_with fail
  refine (point44 _ sb s (H.out.fr0 (by (repeat' (first | (with_reducible exact Fr.refl _ _) | (with_reducible assumption) | (with_reducible refine Fr.drew ?_) | (with_reducible refine Fr.drewN ?_ _) | (with_reducible refine Fr.alloc ?_ _) | ((with_reducible refine Fr.setM ?_ (.inl ?_) _ _); rotate_left; focus (simp; done)) | ((with_reducible refine Fr.setCell ?_ (.inr ?_) _); rotate_left; focus (simp; done)) | ((with_reducible refine Fr.setCell ?_ (.inr ?_) _); rotate_left; focus (simp; omega)))))) HS.out.ps a).mono ?_
  rintro e w2 ⟨rfl, f2⟩
  have F2 := Lib.hid (show Fr0 (W28 w 2 a b wt (.slice pa prs.length pc)) w2 from Fr.trans0 (by (repeat' (first | (with_reducible exact Fr.refl _ _) | (with_reducible assumption) | (with_reducible refine Fr.drew ?_) | (with_reducible refine Fr.drewN ?_ _) | (with_reducible refine Fr.alloc ?_ _) | ((with_reducible refine Fr.setM ?_ (.inl ?_) _ _); rotate_left; focus (simp; done)) | ((with_reducible refine Fr.setCell ?_ (.inr ?_) _); rotate_left; focus (simp; done)) | ((with_reducible refine Fr.setCell ?_ (.inr ?_) _); rotate_left; focus (simp; omega))))) f2)
  clear f2
  rw [HN.out, plc_none]
  go_wp2_with fail
  refine (link45 _ sb s (H.out.fr0 (W0.out.2.2.2.trans0 F2.out)) HS.out.ls a b).mono ?_
  rintro e w3 ⟨rfl, f3⟩
  have F3 := Lib.hid (F2.out.trans0 f3)
  clear f3
  have f30 := W0.out.2.2.2.trans0 F3.out
  have D := W0.out.1.fr F3.out (fun q => q)
  have R := W0.out.2.1.fr F3.out (fun q => q)
  have X := W0.out.2.2.1.fr F3.out (fun q => q)
  have d0 := D.cell 0 _ rfl
  have d1 := D.cell 1 _ rfl
  have d2 := D.cell 2 _ rfl
  have d3 := D.cell 3 _ rfl
  have d4 := D.cell 4 _ rfl
  have dl := D.lt
  have r0 := R.cell 0 _ rfl
  have r1 := R.cell 1 _ rfl
  have r2 := R.cell 2 _ rfl
  have r3 := R.cell 3 _ rfl
  have r4 := R.cell 4 _ rfl
  have r5 := R.cell 5 _ rfl
  have r6 := R.cell 6 _ rfl
  have r7 := R.cell 7 _ rfl
  have r8 := R.cell 8 _ rfl
  have r9 := R.cell 9 _ rfl
  have rf0 := R.free 0
  have rf1 := R.free 1
  have rf2 := R.free 2
  have rf3 := R.free 3
  have rf4 := R.free 4
  have rf5 := R.free 5
  have rf6 := R.free 6
  have rf7 := R.free 7
  have rf8 := R.free 8
  have rf9 := R.free 9
  have rl := R.lt
  have x0 := X.cell 0 _ rfl
  have x1 := X.cell 1 _ rfl
  have x2 := X.cell 2 _ rfl
  have x3 := X.cell 3 _ rfl
  have x4 := X.cell 4 _ rfl
  have x5 := X.cell 5 _ rfl
  have x6 := X.cell 6 _ rfl
  have x7 := X.cell 7 _ rfl
  have x8 := X.cell 8 _ rfl
  have x9 := X.cell 9 _ rfl
  have xf0 := X.free 0
  have xl := X.lt
  have FF := Lib.hid f30
  clear D R X f30
  go_wp2_with fail
  have f30 := FF.out
  refine bodyPost_ret (v := toldE 2) (by simp [results, Tryz.results28, go_sem, *]) rfl ?_
  exact StoP.no H.out (by (repeat' (first | (with_reducible exact Fr.refl _ _) | (with_reducible assumption) | (with_reducible refine Fr.drew ?_) | (with_reducible refine Fr.drewN ?_ _) | (with_reducible refine Fr.alloc ?_ _) | ((with_reducible refine Fr.setM ?_ (.inl ?_) _ _); rotate_left; focus (simp; done)) | ((with_reducible refine Fr.setCell ?_ (.inr ?_) _); rotate_left; focus (simp; done)) | ((with_reducible refine Fr.setCell ?_ (.inr ?_) _); rotate_left; focus (simp; omega))))) 2

set_option maxRecDepth 100000 in
set_option maxHeartbeats 1000000 in
theorem sto3_no (w : World) (sb : Nat) (s : St) (h : ZRep w sb s) (hs : Small s) (a b : ByteArray) (wt : Int) (pv : Value) (prs : List PP) (hp : PrAt w pv prs) (hn : lkI s.dir s.ls a b = none) :
    Calls Tryz.prog 28 #[.pointer (some ⟨sb, 0, none⟩), doS 3 a b wt pv] w fun e w' => StoP w sb { err := 5 } s e w' := by
  have H := Lib.hid h
  have hlb := h.lt
  have HS := Lib.hid hs
  have HN := Lib.hid hn
  clear h hs hn
  obtain ⟨pa, pc, rfl⟩ := hp.form
  clear hp
  have W0 := Lib.hid (w28_cells w 3 a b wt (.slice pa prs.length pc))
  go_enter Tryz.func28, Tryz.ntmps28
  go_wp2_with fail
  go_quiet (fail)
  go_wp2_with fail
  refine (point44 _ sb s (H.out.fr0 (by (repeat' (first | (with_reducible exact Fr.refl _ _) | (with_reducible assumption) | (with_reducible refine Fr.drew ?_) | (with_reducible refine Fr.drewN ?_ _) | (with_reducible refine Fr.alloc ?_ _) | ((with_reducible refine Fr.setM ?_ (.inl ?_) _ _); rotate_left; focus (simp; done)) | ((with_reducible refine Fr.setCell ?_ (.inr ?_) _); rotate_left; focus (simp; done)) | ((with_reducible refine Fr.setCell ?_ (.inr ?_) _); rotate_left; focus (simp; omega)))))) HS.out.ps a).mono ?_
  rintro e w2 ⟨rfl, f2⟩
  have F2 := Lib.hid (show Fr0 (W28 w 3 a b wt (.slice pa prs.length pc)) w2 from Fr.trans0 (by (repeat' (first | (with_reducible exact Fr.refl _ _) | (with_reducible assumption) | (with_reducible refine Fr.drew ?_) | (with_reducible refine Fr.drewN ?_ _) | (with_reducible refine Fr.alloc ?_ _) | ((with_reducible refine Fr.setM ?_ (.inl ?_) _ _); rotate_left; focus (simp; done)) | ((with_reducible refine Fr.setCell ?_ (.inr ?_) _); rotate_left; focus (simp; done)) | ((with_reducible refine Fr.setCell ?_ (.inr ?_) _); rotate_left; focus (simp; omega))))) f2)
  clear f2
  go_wp2_with fail
  refine (link45 _ sb s (H.out.fr0 (W0.out.2.2.2.trans0 F2.out)) HS.out.ls a b).mono ?_
  rintro e w3 ⟨rfl, f3⟩
  rw [HN.out, plc_none]
  have F3 := Lib.hid (F2.out.trans0 f3)
  clear f3
  have f30 := W0.out.2.2.2.trans0 F3.out
  have D := W0.out.1.fr F3.out (fun q => q)
  have R := W0.out.2.1.fr F3.out (fun q => q)
  have X := W0.out.2.2.1.fr F3.out (fun q => q)
  have d0 := D.cell 0 _ rfl
  have d1 := D.cell 1 _ rfl
  have d2 := D.cell 2 _ rfl
  have d3 := D.cell 3 _ rfl
  have d4 := D.cell 4 _ rfl
  have dl := D.lt
  have r0 := R.cell 0 _ rfl
  have r1 := R.cell 1 _ rfl
  have r2 := R.cell 2 _ rfl
  have r3 := R.cell 3 _ rfl
  have r4 := R.cell 4 _ rfl
  have r5 := R.cell 5 _ rfl
  have r6 := R.cell 6 _ rfl
  have r7 := R.cell 7 _ rfl
  have r8 := R.cell 8 _ rfl
  have r9 := R.cell 9 _ rfl
  have rf0 := R.free 0
  have rf1 := R.free 1
  have rf2 := R.free 2
  have rf3 := R.free 3
  have rf4 := R.free 4
  have rf5 := R.free 5
  have rf6 := R.free 6
  have rf7 := R.free 7
  have rf8 := R.free 8
  have rf9 := R.free 9
  have rl := R.lt
  have x0 := X.cell 0 _ rfl
  have x1 := X.cell 1 _ rfl
  have x2 := X.cell 2 _ rfl
  have x3 := X.cell 3 _ rfl
  have x4 := X.cell 4 _ rfl
  have x5 := X.cell 5 _ rfl
  have x6 := X.cell 6 _ rfl
  have x7 := X.cell 7 _ rfl
  have x8 := X.cell 8 _ rfl
  have x9 := X.cell 9 _ rfl
  have xf0 := X.free 0
  have xl := X.lt
  have FF := Lib.hid f30
  clear D R X f30
  go_wp2_with fail
  have f30 := FF.out
  refine bodyPost_ret (v := toldE 5) (by simp [results, Tryz.results28, go_sem, *]) rfl ?_
  exact StoP.no H.out (by (repeat' (first | (with_reducible exact Fr.refl _ _) | (with_reducible assumption) | (with_reducible refine Fr.drew ?_) | (with_reducible refine Fr.drewN ?_ _) | (with_reducible refine Fr.alloc ?_ _) | ((with_reducible refine Fr.setM ?_ (.inl ?_) _ _); rotate_left; focus (simp; done)) | ((with_reducible refine Fr.setCell ?_ (.inr ?_) _); rotate_left; focus (simp; done)) | ((with_reducible refine Fr.setCell ?_ (.inr ?_) _); rotate_left; focus (simp; omega))))) 5

set_option maxRecDepth 100000 in
set_option maxHeartbeats 1000000 in
theorem sto4_no (w : World) (sb : Nat) (s : St) (h : ZRep w sb s) (hs : Small s) (a b : ByteArray) (wt : Int) (pv : Value) (prs : List PP) (hp : PrAt w pv prs) (hn : lkI s.dir s.ls a b = none) :
    Calls Tryz.prog 28 #[.pointer (some ⟨sb, 0, none⟩), doS 4 a b wt pv] w fun e w' => StoP w sb { err := 5 } s e w' := by
  have H := Lib.hid h
  have hlb := h.lt
  have HS := Lib.hid hs
  have HN := Lib.hid hn
  clear h hs hn
  obtain ⟨pa, pc, rfl⟩ := hp.form
  clear hp
  have W0 := Lib.hid (w28_cells w 4 a b wt (.slice pa prs.length pc))
  go_enter Tryz.func28, Tryz.ntmps28
  go_wp2_with fail
  go_quiet (fail)
  go_wp2_with fail
  refine (point44 _ sb s (H.out.fr0 (by (repeat' (first | (with_reducible exact Fr.refl _ _) | (with_reducible assumption) | (with_reducible refine Fr.drew ?_) | (with_reducible refine Fr.drewN ?_ _) | (with_reducible refine Fr.alloc ?_ _) | ((with_reducible refine Fr.setM ?_ (.inl ?_) _ _); rotate_left; focus (simp; done)) | ((with_reducible refine Fr.setCell ?_ (.inr ?_) _); rotate_left; focus (simp; done)) | ((with_reducible refine Fr.setCell ?_ (.inr ?_) _); rotate_left; focus (simp; omega)))))) HS.out.ps a).mono ?_
  rintro e w2 ⟨rfl, f2⟩
  have F2 := Lib.hid (show Fr0 (W28 w 4 a b wt (.slice pa prs.length pc)) w2 from Fr.trans0 (by (repeat' (first | (with_reducible exact Fr.refl _ _) | (with_reducible assumption) | (with_reducible refine Fr.drew ?_) | (with_reducible refine Fr.drewN ?_ _) | (with_reducible refine Fr.alloc ?_ _) | ((with_reducible refine Fr.setM ?_ (.inl ?_) _ _); rotate_left; focus (simp; done)) | ((with_reducible refine Fr.setCell ?_ (.inr ?_) _); rotate_left; focus (simp; done)) | ((with_reducible refine Fr.setCell ?_ (.inr ?_) _); rotate_left; focus (simp; omega))))) f2)
  clear f2
  go_wp2_with fail
  refine (link45 _ sb s (H.out.fr0 (W0.out.2.2.2.trans0 F2.out)) HS.out.ls a b).mono ?_
  rintro e w3 ⟨rfl, f3⟩
  rw [HN.out, plc_none]
  have F3 := Lib.hid (F2.out.trans0 f3)
  clear f3
  have f30 := W0.out.2.2.2.trans0 F3.out
  have D := W0.out.1.fr F3.out (fun q => q)
  have R := W0.out.2.1.fr F3.out (fun q => q)
  have X := W0.out.2.2.1.fr F3.out (fun q => q)
  have d0 := D.cell 0 _ rfl
  have d1 := D.cell 1 _ rfl
  have d2 := D.cell 2 _ rfl
  have d3 := D.cell 3 _ rfl
  have d4 := D.cell 4 _ rfl
  have dl := D.lt
  have r0 := R.cell 0 _ rfl
  have r1 := R.cell 1 _ rfl
  have r2 := R.cell 2 _ rfl
  have r3 := R.cell 3 _ rfl
  have r4 := R.cell 4 _ rfl
  have r5 := R.cell 5 _ rfl
  have r6 := R.cell 6 _ rfl
  have r7 := R.cell 7 _ rfl
  have r8 := R.cell 8 _ rfl
  have r9 := R.cell 9 _ rfl
  have rf0 := R.free 0
  have rf1 := R.free 1
  have rf2 := R.free 2
  have rf3 := R.free 3
  have rf4 := R.free 4
  have rf5 := R.free 5
  have rf6 := R.free 6
  have rf7 := R.free 7
  have rf8 := R.free 8
  have rf9 := R.free 9
  have rl := R.lt
  have x0 := X.cell 0 _ rfl
  have x1 := X.cell 1 _ rfl
  have x2 := X.cell 2 _ rfl
  have x3 := X.cell 3 _ rfl
  have x4 := X.cell 4 _ rfl
  have x5 := X.cell 5 _ rfl
  have x6 := X.cell 6 _ rfl
  have x7 := X.cell 7 _ rfl
  have x8 := X.cell 8 _ rfl
  have x9 := X.cell 9 _ rfl
  have xf0 := X.free 0
  have xl := X.lt
  have FF := Lib.hid f30
  clear D R X f30
  go_wp2_with fail
  have f30 := FF.out
  refine bodyPost_ret (v := toldE 5) (by simp [results, Tryz.results28, go_sem, *]) rfl ?_
  exact StoP.no H.out (by (repeat' (first | (with_reducible exact Fr.refl _ _) | (with_reducible assumption) | (with_reducible refine Fr.drew ?_) | (with_reducible refine Fr.drewN ?_ _) | (with_reducible refine Fr.alloc ?_ _) | ((with_reducible refine Fr.setM ?_ (.inl ?_) _ _); rotate_left; focus (simp; done)) | ((with_reducible refine Fr.setCell ?_ (.inr ?_) _); rotate_left; focus (simp; done)) | ((with_reducible refine Fr.setCell ?_ (.inr ?_) _); rotate_left; focus (simp; omega))))) 5

set_option maxRecDepth 100000 in
set_option maxHeartbeats 1000000 in
theorem sto6_no (w : World) (sb : Nat) (s : St) (h : ZRep w sb s) (hs : Small s) (a b : ByteArray) (wt : Int) (pv : Value) (prs : List PP) (hp : PrAt w pv prs) (hn : lkI s.dir s.ls a b = none) :
    Calls Tryz.prog 28 #[.pointer (some ⟨sb, 0, none⟩), doS 6 a b wt pv] w fun e w' => StoP w sb { err := 5 } s e w' := by
  have H := Lib.hid h
  have hlb := h.lt
  have HS := Lib.hid hs
  have HN := Lib.hid hn
  clear h hs hn
  obtain ⟨pa, pc, rfl⟩ := hp.form
  clear hp
  have W0 := Lib.hid (w28_cells w 6 a b wt (.slice pa prs.length pc))
  go_enter Tryz.func28, Tryz.ntmps28
  go_wp2_with fail
  go_quiet (fail)
  go_wp2_with fail
  refine (point44 _ sb s (H.out.fr0 (by (repeat' (first | (with_reducible exact Fr.refl _ _) | (with_reducible assumption) | (with_reducible refine Fr.drew ?_) | (with_reducible refine Fr.drewN ?_ _) | (with_reducible refine Fr.alloc ?_ _) | ((with_reducible refine Fr.setM ?_ (.inl ?_) _ _); rotate_left; focus (simp; done)) | ((with_reducible refine Fr.setCell ?_ (.inr ?_) _); rotate_left; focus (simp; done)) | ((with_reducible refine Fr.setCell ?_ (.inr ?_) _); rotate_left; focus (simp; omega)))))) HS.out.ps a).mono ?_
  rintro e w2 ⟨rfl, f2⟩
  have F2 := Lib.hid (show Fr0 (W28 w 6 a b wt (.slice pa prs.length pc)) w2 from Fr.trans0 (by (repeat' (first | (with_reducible exact Fr.refl _ _) | (with_reducible assumption) | (with_reducible refine Fr.drew ?_) | (with_reducible refine Fr.drewN ?_ _) | (with_reducible refine Fr.alloc ?_ _) | ((with_reducible refine Fr.setM ?_ (.inl ?_) _ _); rotate_left; focus (simp; done)) | ((with_reducible refine Fr.setCell ?_ (.inr ?_) _); rotate_left; focus (simp; done)) | ((with_reducible refine Fr.setCell ?_ (.inr ?_) _); rotate_left; focus (simp; omega))))) f2)
  clear f2
  go_wp2_with fail
  refine (link45 _ sb s (H.out.fr0 (W0.out.2.2.2.trans0 F2.out)) HS.out.ls a b).mono ?_
  rintro e w3 ⟨rfl, f3⟩
  rw [HN.out, plc_none]
  have F3 := Lib.hid (F2.out.trans0 f3)
  clear f3
  have f30 := W0.out.2.2.2.trans0 F3.out
  have D := W0.out.1.fr F3.out (fun q => q)
  have R := W0.out.2.1.fr F3.out (fun q => q)
  have X := W0.out.2.2.1.fr F3.out (fun q => q)
  have d0 := D.cell 0 _ rfl
  have d1 := D.cell 1 _ rfl
  have d2 := D.cell 2 _ rfl
  have d3 := D.cell 3 _ rfl
  have d4 := D.cell 4 _ rfl
  have dl := D.lt
  have r0 := R.cell 0 _ rfl
  have r1 := R.cell 1 _ rfl
  have r2 := R.cell 2 _ rfl
  have r3 := R.cell 3 _ rfl
  have r4 := R.cell 4 _ rfl
  have r5 := R.cell 5 _ rfl
  have r6 := R.cell 6 _ rfl
  have r7 := R.cell 7 _ rfl
  have r8 := R.cell 8 _ rfl
  have r9 := R.cell 9 _ rfl
  have rf0 := R.free 0
  have rf1 := R.free 1
  have rf2 := R.free 2
  have rf3 := R.free 3
  have rf4 := R.free 4
  have rf5 := R.free 5
  have rf6 := R.free 6
  have rf7 := R.free 7
  have rf8 := R.free 8
  have rf9 := R.free 9
  have rl := R.lt
  have x0 := X.cell 0 _ rfl
  have x1 := X.cell 1 _ rfl
  have x2 := X.cell 2 _ rfl
  have x3 := X.cell 3 _ rfl
  have x4 := X.cell 4 _ rfl
  have x5 := X.cell 5 _ rfl
  have x6 := X.cell 6 _ rfl
  have x7 := X.cell 7 _ rfl
  have x8 := X.cell 8 _ rfl
  have x9 := X.cell 9 _ rfl
  have xf0 := X.free 0
  have xl := X.lt
  have FF := Lib.hid f30
  clear D R X f30
  go_wp2_with fail
  have f30 := FF.out
  refine bodyPost_ret (v := toldE 5) (by simp [results, Tryz.results28, go_sem, *]) rfl ?_
  exact StoP.no H.out (by (repeat' (first | (with_reducible exact Fr.refl _ _) | (with_reducible assumption) | (with_reducible refine Fr.drew ?_) | (with_reducible refine Fr.drewN ?_ _) | (with_reducible refine Fr.alloc ?_ _) | ((with_reducible refine Fr.setM ?_ (.inl ?_) _ _); rotate_left; focus (simp; done)) | ((with_reducible refine Fr.setCell ?_ (.inr ?_) _); rotate_left; focus (simp; done)) | ((with_reducible refine Fr.setCell ?_ (.inr ?_) _); rotate_left; focus (simp; omega))))) 5

set_option maxRecDepth 100000 in
set_option maxHeartbeats 1000000 in
theorem sto2_nob (w : World) (sb : Nat) (s : St) (h : ZRep w sb s) (hs : Small s) (a b : ByteArray) (wt : Int) (pv : Value) (prs : List PP) (hp : PrAt w pv prs) (i : Nat) (hi : ptI s.ps a = some i) (hn : ptI s.ps b = none) :
    Calls Tryz.prog 28 #[.pointer (some ⟨sb, 0, none⟩), doS 2 a b wt pv] w fun e w' => StoP w sb { err := 2 } s e w' := by
  have H := Lib.hid h
  have hlb := h.lt
  have HS := Lib.hid hs
  have HI := Lib.hid hi
  have HN := Lib.hid hn
  clear h hs hi hn
  obtain ⟨pa, pc, rfl⟩ := hp.form
  clear hp
  have W0 := Lib.hid (w28_cells w 2 a b wt (.slice pa prs.length pc))
  go_enter Tryz.func28, Tryz.ntmps28
  go_wp2_with fail
  go_quiet (fail)
  go_wp2_with fail
  refine (point44 _ sb s (H.out.fr0 (by (repeat' (first | (with_reducible exact Fr.refl _ _) | (with_reducible assumption) | (with_reducible refine Fr.drew ?_) | (with_reducible refine Fr.drewN ?_ _) | (with_reducible refine Fr.alloc ?_ _) | ((with_reducible refine Fr.setM ?_ (.inl ?_) _ _); rotate_left; focus (simp; done)) | ((with_reducible refine Fr.setCell ?_ (.inr ?_) _); rotate_left; focus (simp; done)) | ((with_reducible refine Fr.setCell ?_ (.inr ?_) _); rotate_left; focus (simp; omega)))))) HS.out.ps a).mono ?_
  rintro e w2 ⟨rfl, f2⟩
  have F2 := Lib.hid (show Fr0 (W28 w 2 a b wt (.slice pa prs.length pc)) w2 from Fr.trans0 (by (repeat' (first | (with_reducible exact Fr.refl _ _) | (with_reducible assumption) | (with_reducible refine Fr.drew ?_) | (with_reducible refine Fr.drewN ?_ _) | (with_reducible refine Fr.alloc ?_ _) | ((with_reducible refine Fr.setM ?_ (.inl ?_) _ _); rotate_left; focus (simp; done)) | ((with_reducible refine Fr.setCell ?_ (.inr ?_) _); rotate_left; focus (simp; done)) | ((with_reducible refine Fr.setCell ?_ (.inr ?_) _); rotate_left; focus (simp; omega))))) f2)
  clear f2
  rw [HI.out, plc_some]
  go_wp2_with fail
  refine (link45 _ sb s (H.out.fr0 (W0.out.2.2.2.trans0 F2.out)) HS.out.ls a b).mono ?_
  rintro e w3 ⟨rfl, f3⟩
  have F3 := Lib.hid (F2.out.trans0 f3)
  clear f3
  have q0 := (W0.out.1.fr F3.out (fun q => q)).cell 0 _ rfl
  go_wp2_with fail
  refine (point44 _ sb s (H.out.fr0 (W0.out.2.2.2.trans0 F3.out)) HS.out.ps b).mono ?_
  rintro e w4 ⟨rfl, f4⟩
  rw [HN.out, plc_none]
  have F4 := Lib.hid (F3.out.trans0 f4)
  clear f4 q0
  have f30 := W0.out.2.2.2.trans0 F4.out
  have D := W0.out.1.fr F4.out (fun q => q)
  have R := W0.out.2.1.fr F4.out (fun q => q)
  have X := W0.out.2.2.1.fr F4.out (fun q => q)
  have d0 := D.cell 0 _ rfl
  have d1 := D.cell 1 _ rfl
  have d2 := D.cell 2 _ rfl
  have d3 := D.cell 3 _ rfl
  have d4 := D.cell 4 _ rfl
  have dl := D.lt
  have r0 := R.cell 0 _ rfl
  have r1 := R.cell 1 _ rfl
  have r2 := R.cell 2 _ rfl
  have r3 := R.cell 3 _ rfl
  have r4 := R.cell 4 _ rfl
  have r5 := R.cell 5 _ rfl
  have r6 := R.cell 6 _ rfl
  have r7 := R.cell 7 _ rfl
  have r8 := R.cell 8 _ rfl
  have r9 := R.cell 9 _ rfl
  have rf0 := R.free 0
  have rf1 := R.free 1
  have rf2 := R.free 2
  have rf3 := R.free 3
  have rf4 := R.free 4
  have rf5 := R.free 5
  have rf6 := R.free 6
  have rf7 := R.free 7
  have rf8 := R.free 8
  have rf9 := R.free 9
  have rl := R.lt
  have x0 := X.cell 0 _ rfl
  have x1 := X.cell 1 _ rfl
  have x2 := X.cell 2 _ rfl
  have x3 := X.cell 3 _ rfl
  have x4 := X.cell 4 _ rfl
  have x5 := X.cell 5 _ rfl
  have x6 := X.cell 6 _ rfl
  have x7 := X.cell 7 _ rfl
  have x8 := X.cell 8 _ rfl
  have x9 := X.cell 9 _ rfl
  have xf0 := X.free 0
  have xl := X.lt
  have FF := Lib.hid f30
  clear D R X f30
  go_wp2_with fail
  have f30 := FF.out
  refine bodyPost_ret (v := toldE 2) (by simp [results, Tryz.results28, go_sem, *]) rfl ?_
  exact StoP.no H.out (by (repeat' (first | (with_reducible exact Fr.refl _ _) | (with_reducible assumption) | (with_reducible refine Fr.drew ?_) | (with_reducible refine Fr.drewN ?_ _) | (with_reducible refine Fr.alloc ?_ _) | ((with_reducible refine Fr.setM ?_ (.inl ?_) _ _); rotate_left; focus (simp; done)) | ((with_reducible refine Fr.setCell ?_ (.inr ?_) _); rotate_left; focus (simp; done)) | ((with_reducible refine Fr.setCell ?_ (.inr ?_) _); rotate_left; focus (simp; omega))))) 2

set_option maxRecDepth 100000 in
set_option maxHeartbeats 1000000 in
theorem sto2_old (w : World) (sb : Nat) (s : St) (h : ZRep w sb s) (hs : Small s) (a b : ByteArray) (wt : Int) (pv : Value) (prs : List PP) (hp : PrAt w pv prs) (i j k : Nat) (hi : ptI s.ps a = some i) (hj : ptI s.ps b = some j) (hn : lkI s.dir s.ls a b = some k) :
    Calls Tryz.prog 28 #[.pointer (some ⟨sb, 0, none⟩), doS 2 a b wt pv] w fun e w' => StoP w sb { err := 4 } s e w' := by
  have H := Lib.hid h
  have hlb := h.lt
  have HS := Lib.hid hs
  have HI := Lib.hid hi
  have HJ := Lib.hid hj
  have HN := Lib.hid hn
  clear h hs hi hj hn
  obtain ⟨pa, pc, rfl⟩ := hp.form
  clear hp
  have W0 := Lib.hid (w28_cells w 2 a b wt (.slice pa prs.length pc))
  go_enter Tryz.func28, Tryz.ntmps28
  go_wp2_with fail
  go_quiet (fail)
  go_wp2_with fail
  refine (point44 _ sb s (H.out.fr0 (by (repeat' (first | (with_reducible exact Fr.refl _ _) | (with_reducible assumption) | (with_reducible refine Fr.drew ?_) | (with_reducible refine Fr.drewN ?_ _) | (with_reducible refine Fr.alloc ?_ _) | ((with_reducible refine Fr.setM ?_ (.inl ?_) _ _); rotate_left; focus (simp; done)) | ((with_reducible refine Fr.setCell ?_ (.inr ?_) _); rotate_left; focus (simp; done)) | ((with_reducible refine Fr.setCell ?_ (.inr ?_) _); rotate_left; focus (simp; omega)))))) HS.out.ps a).mono ?_
  rintro e w2 ⟨rfl, f2⟩
  have F2 := Lib.hid (show Fr0 (W28 w 2 a b wt (.slice pa prs.length pc)) w2 from Fr.trans0 (by (repeat' (first | (with_reducible exact Fr.refl _ _) | (with_reducible assumption) | (with_reducible refine Fr.drew ?_) | (with_reducible refine Fr.drewN ?_ _) | (with_reducible refine Fr.alloc ?_ _) | ((with_reducible refine Fr.setM ?_ (.inl ?_) _ _); rotate_left; focus (simp; done)) | ((with_reducible refine Fr.setCell ?_ (.inr ?_) _); rotate_left; focus (simp; done)) | ((with_reducible refine Fr.setCell ?_ (.inr ?_) _); rotate_left; focus (simp; omega))))) f2)
  clear f2
  rw [HI.out, plc_some]
  go_wp2_with fail
  refine (link45 _ sb s (H.out.fr0 (W0.out.2.2.2.trans0 F2.out)) HS.out.ls a b).mono ?_
  rintro e w3 ⟨rfl, f3⟩
  rw [HN.out, plc_some]
  have F3 := Lib.hid (F2.out.trans0 f3)
  clear f3
  have q0 := (W0.out.1.fr F3.out (fun q => q)).cell 0 _ rfl
  go_wp2_with fail
  refine (point44 _ sb s (H.out.fr0 (W0.out.2.2.2.trans0 F3.out)) HS.out.ps b).mono ?_
  rintro e w4 ⟨rfl, f4⟩
  rw [HJ.out, plc_some]
  have F4 := Lib.hid (F3.out.trans0 f4)
  clear f4 q0
  have f30 := W0.out.2.2.2.trans0 F4.out
  have D := W0.out.1.fr F4.out (fun q => q)
  have R := W0.out.2.1.fr F4.out (fun q => q)
  have X := W0.out.2.2.1.fr F4.out (fun q => q)
  have d0 := D.cell 0 _ rfl
  have d1 := D.cell 1 _ rfl
  have d2 := D.cell 2 _ rfl
  have d3 := D.cell 3 _ rfl
  have d4 := D.cell 4 _ rfl
  have dl := D.lt
  have r0 := R.cell 0 _ rfl
  have r1 := R.cell 1 _ rfl
  have r2 := R.cell 2 _ rfl
  have r3 := R.cell 3 _ rfl
  have r4 := R.cell 4 _ rfl
  have r5 := R.cell 5 _ rfl
  have r6 := R.cell 6 _ rfl
  have r7 := R.cell 7 _ rfl
  have r8 := R.cell 8 _ rfl
  have r9 := R.cell 9 _ rfl
  have rf0 := R.free 0
  have rf1 := R.free 1
  have rf2 := R.free 2
  have rf3 := R.free 3
  have rf4 := R.free 4
  have rf5 := R.free 5
  have rf6 := R.free 6
  have rf7 := R.free 7
  have rf8 := R.free 8
  have rf9 := R.free 9
  have rl := R.lt
  have x0 := X.cell 0 _ rfl
  have x1 := X.cell 1 _ rfl
  have x2 := X.cell 2 _ rfl
  have x3 := X.cell 3 _ rfl
  have x4 := X.cell 4 _ rfl
  have x5 := X.cell 5 _ rfl
  have x6 := X.cell 6 _ rfl
  have x7 := X.cell 7 _ rfl
  have x8 := X.cell 8 _ rfl
  have x9 := X.cell 9 _ rfl
  have xf0 := X.free 0
  have xl := X.lt
  have FF := Lib.hid f30
  clear D R X f30
  go_wp2_with fail
  have f30 := FF.out
  refine bodyPost_ret (v := toldE 4) (by simp [results, Tryz.results28, go_sem, *]) rfl ?_
  exact StoP.no H.out (by (repeat' (first | (with_reducible exact Fr.refl _ _) | (with_reducible assumption) | (with_reducible refine Fr.drew ?_) | (with_reducible refine Fr.drewN ?_ _) | (with_reducible refine Fr.alloc ?_ _) | ((with_reducible refine Fr.setM ?_ (.inl ?_) _ _); rotate_left; focus (simp; done)) | ((with_reducible refine Fr.setCell ?_ (.inr ?_) _); rotate_left; focus (simp; done)) | ((with_reducible refine Fr.setCell ?_ (.inr ?_) _); rotate_left; focus (simp; omega))))) 4

set_option maxRecDepth 100000 in
set_option maxHeartbeats 1000000 in
theorem sto0_old (w : World) (sb : Nat) (s : St) (h : ZRep w sb s) (hs : Small s) (HC : HashS s.hk) (a b : ByteArray) (wt : Int) (pv : Value) (prs : List PP) (hp : PrAt w pv prs) (i : Nat) (hi : ptI s.ps (hashM s.hk a) = some i) :
    Calls Tryz.prog 28 #[.pointer (some ⟨sb, 0, none⟩), doS 0 a b wt pv] w fun e w' => StoP w sb { err := 1 } s e w' := by
  have H := Lib.hid h
  have hlb := h.lt
  have HS := Lib.hid hs
  have HI := Lib.hid hi
  clear h hs hi
  have HH := Lib.hid HC
  clear HC
  obtain ⟨pa, pc, rfl⟩ := hp.form
  clear hp
  have W0 := Lib.hid (w28_cells w 0 a b wt (.slice pa prs.length pc))
  obtain ⟨V, hV⟩ : ∃ V, V = W28 w 0 a b wt (.slice pa prs.length pc) := ⟨_, rfl⟩
  rw [← hV] at W0
  go_enter Tryz.func28, Tryz.ntmps28
  go_wp2_with fail
  go_quiet (fail)
  have eV : ((w.alloc (.cells #[.int .u8 0, .string a, .string b, .int .i64 wt, .slice pa prs.length pc] 28)).alloc (.cells zT 61)).alloc (.cells zT 61) = V := hV.symm
  rw [eV]
  clear eV hV
  have c6 := (W0.out.2.2.2.cell (p := ⟨sb, 6, none⟩) hlb (fun q => q)).trans (ZRep.hk_cell H.out)
  have q0 := W0.out.1.cell 0 _ rfl
  have q1 := W0.out.1.cell 1 _ rfl
  have q2 := W0.out.1.cell 2 _ rfl
  go_wp2_with fail
  refine (HH.out _ a).mono ?_
  rintro e w1 ⟨rfl, f1⟩
  have F1 := Lib.hid (show Fr0 V w1 from Fr.trans0 (by (repeat' (first | (with_reducible exact Fr.refl _ _) | (with_reducible assumption) | (with_reducible refine Fr.drew ?_) | (with_reducible refine Fr.drewN ?_ _) | (with_reducible refine Fr.alloc ?_ _) | ((with_reducible refine Fr.setM ?_ (.inl ?_) _ _); rotate_left; focus (simp; done)) | ((with_reducible refine Fr.setCell ?_ (.inr ?_) _); rotate_left; focus (simp; done)) | ((with_reducible refine Fr.setCell ?_ (.inr ?_) _); rotate_left; focus (simp; omega))))) f1)
  clear f1 c6 q0 q1 q2
  go_wp2_with fail
  refine (point44 _ sb s (H.out.fr0 (W0.out.2.2.2.trans0 F1.out)) HS.out.ps (hashM s.hk a)).mono ?_
  rintro e w2 ⟨rfl, f2⟩
  have F2 := Lib.hid (F1.out.trans0 f2)
  clear f2
  rw [HI.out, plc_some]
  go_wp2_with fail
  refine (link45 _ sb s (H.out.fr0 (W0.out.2.2.2.trans0 F2.out)) HS.out.ls (hashM s.hk a) b).mono ?_
  rintro e w3 ⟨rfl, f3⟩
  have F3 := Lib.hid (F2.out.trans0 f3)
  clear f3
  have f30 := W0.out.2.2.2.trans0 F3.out
  have D := W0.out.1.fr F3.out (fun q => q)
  have R := W0.out.2.1.fr F3.out (fun q => q)
  have X := W0.out.2.2.1.fr F3.out (fun q => q)
  have d0 := D.cell 0 _ rfl
  have d1 := D.cell 1 _ rfl
  have d2 := D.cell 2 _ rfl
  have d3 := D.cell 3 _ rfl
  have d4 := D.cell 4 _ rfl
  have dl := D.lt
  have r0 := R.cell 0 _ rfl
  have r1 := R.cell 1 _ rfl
  have r2 := R.cell 2 _ rfl
  have r3 := R.cell 3 _ rfl
  have r4 := R.cell 4 _ rfl
  have r5 := R.cell 5 _ rfl
  have r6 := R.cell 6 _ rfl
  have r7 := R.cell 7 _ rfl
  have r8 := R.cell 8 _ rfl
  have r9 := R.cell 9 _ rfl
  have rf0 := R.free 0
  have rf1 := R.free 1
  have rf2 := R.free 2
  have rf3 := R.free 3
  have rf4 := R.free 4
  have rf5 := R.free 5
  have rf6 := R.free 6
  have rf7 := R.free 7
  have rf8 := R.free 8
  have rf9 := R.free 9
  have rl := R.lt
  have x0 := X.cell 0 _ rfl
  have x1 := X.cell 1 _ rfl
  have x2 := X.cell 2 _ rfl
  have x3 := X.cell 3 _ rfl
  have x4 := X.cell 4 _ rfl
  have x5 := X.cell 5 _ rfl
  have x6 := X.cell 6 _ rfl
  have x7 := X.cell 7 _ rfl
  have x8 := X.cell 8 _ rfl
  have x9 := X.cell 9 _ rfl
  have xf0 := X.free 0
  have xl := X.lt
  have FF := Lib.hid f30
  clear D R X f30
  go_wp2_with fail
  have f30 := FF.out
  refine bodyPost_ret (v := toldE 1) (by simp [results, Tryz.results28, go_sem, *]) rfl ?_
  exact StoP.no H.out (by (repeat' (first | (with_reducible exact Fr.refl _ _) | (with_reducible assumption) | (with_reducible refine Fr.drew ?_) | (with_reducible refine Fr.drewN ?_ _) | (with_reducible refine Fr.alloc ?_ _) | ((with_reducible refine Fr.setM ?_ (.inl ?_) _ _); rotate_left; focus (simp; done)) | ((with_reducible refine Fr.setCell ?_ (.inr ?_) _); rotate_left; focus (simp; done)) | ((with_reducible refine Fr.setCell ?_ (.inr ?_) _); rotate_left; focus (simp; omega))))) 1

end Go.Proofs.YtbafaadmlpamiaaGreatDoor
