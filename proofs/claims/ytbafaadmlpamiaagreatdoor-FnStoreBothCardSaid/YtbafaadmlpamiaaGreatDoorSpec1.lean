/- What is read of the laws' arguments: that nothing is too long. -/
import Derived.Test.YtbafaadmlpamiaaGreatDoorA8
namespace Go.Proofs.YtbafaadmlpamiaaGreatDoor
open Go Go.Hy Go.RowKit

/-- attributes that lie in memory, wherever -/
def PrAt (w : World) (v : Value) (prs : List PP) : Prop :=
  ∃ ao cap, v = .slice ao prs.length cap ∧ ∀ (i : Nat) (p : PP), prs[i]? = some p → ∃ ob off, ao = some ⟨ob, off, none⟩ ∧ ob < w.heap.size ∧ w.cell? ⟨ob, off + i * 2, none⟩ = some (.string p.1) ∧ w.cell? ⟨ob, off + i * 2 + 1, none⟩ = some (.string p.2)

theorem PrAt.fr {w w' : World} {v : Value} {prs : List PP} (h : PrAt w v prs) (f : Fr0 w w') : PrAt w' v prs := by
  obtain ⟨ao, cap, rfl, hr⟩ := h
  refine ⟨ao, cap, rfl, fun i p hi => ?_⟩
  obtain ⟨ob, off, rfl, h1, h2, h3⟩ := hr i p hi
  exact ⟨ob, off, rfl, Nat.lt_of_lt_of_le h1 f.size, (f.cell (p := ⟨ob, off + i * 2, none⟩) h1 (fun q => q)).trans h2, (f.cell (p := ⟨ob, off + i * 2 + 1, none⟩) h1 (fun q => q)).trans h3⟩

theorem PrAt.form {w : World} {v : Value} {prs : List PP} (h : PrAt w v prs) : ∃ ao cap, v = .slice ao prs.length cap := by
  obtain ⟨ao, cap, e, _⟩ := h
  exact ⟨ao, cap, e⟩

/-- steps that lie in memory, wherever -/
def SDosAt (w : World) (v : Value) (ds : List DoIn) : Prop :=
  ∃ ao cap, v = .slice ao ds.length cap ∧ ∀ (i : Nat) (d : DoIn), ds[i]? = some d → ∃ ob off pv, ao = some ⟨ob, off, none⟩ ∧ ob < w.heap.size ∧ w.cell? ⟨ob, off + i * 5, none⟩ = some (.int .u8 d.op) ∧ w.cell? ⟨ob, off + i * 5 + 1, none⟩ = some (.string d.a) ∧
    w.cell? ⟨ob, off + i * 5 + 2, none⟩ = some (.string d.b) ∧ w.cell? ⟨ob, off + i * 5 + 3, none⟩ = some (.int .i64 d.wt) ∧ w.cell? ⟨ob, off + i * 5 + 4, none⟩ = some pv ∧ PrAt w pv d.prs

theorem SDosAt.fr {w w' : World} {v : Value} {ds : List DoIn} (h : SDosAt w v ds) (f : Fr0 w w') : SDosAt w' v ds := by
  obtain ⟨ao, cap, rfl, hr⟩ := h
  refine ⟨ao, cap, rfl, fun i d hi => ?_⟩
  obtain ⟨ob, off, pv, rfl, h1, c0, c1, c2, c3, c4, h2⟩ := hr i d hi
  exact ⟨ob, off, pv, rfl, Nat.lt_of_lt_of_le h1 f.size, (f.cell (p := ⟨ob, off + i * 5, none⟩) h1 (fun q => q)).trans c0, (f.cell (p := ⟨ob, off + i * 5 + 1, none⟩) h1 (fun q => q)).trans c1,
    (f.cell (p := ⟨ob, off + i * 5 + 2, none⟩) h1 (fun q => q)).trans c2, (f.cell (p := ⟨ob, off + i * 5 + 3, none⟩) h1 (fun q => q)).trans c3, (f.cell (p := ⟨ob, off + i * 5 + 4, none⟩) h1 (fun q => q)).trans c4, h2.fr f⟩

/-- a call answers yes or no; yes tells something -/
def BPost (q : Prop) (w : World) (e : Ending) (w' : World) : Prop := ∃ r, e = .returned (.bool r) ∧ (r = true → q) ∧ Fr0 w w'

theorem BPost.no {q : Prop} {w w' : World} (f : Fr0 w w') : BPost q w (.returned (.bool false)) w' := ⟨false, rfl, (fun h => by cases h), f⟩

theorem BPost.yes {q : Prop} {w w' : World} (h : q) (f : Fr0 w w') : BPost q w (.returned (.bool true)) w' := ⟨true, rfl, fun _ => h, f⟩

set_option maxRecDepth 100000 in
set_option maxHeartbeats 1000000 in
theorem zz4 (w : World) (a b : ByteArray) : Calls Tryz.prog 54 #[.agg #[.string a, .string b]] w fun e w' => ∃ r, e = .returned (.bool r) ∧ Fr0 w w' := by
  go_enter Tryz.func54, Tryz.ntmps54
  go_wp2
  all_goals go_ret
  all_goals exact ⟨_, rfl, by (repeat' (first | (with_reducible exact Fr.refl _ _) | (with_reducible assumption) | (with_reducible refine Fr.drew ?_) | (with_reducible refine Fr.drewN ?_ _) | (with_reducible refine Fr.alloc ?_ _) | ((with_reducible refine Fr.setM ?_ (.inl ?_) _ _); rotate_left; focus (simp; done)) | ((with_reducible refine Fr.setCell ?_ (.inr ?_) _); rotate_left; focus (simp; done)) | ((with_reducible refine Fr.setCell ?_ (.inr ?_) _); rotate_left; focus (simp; omega))))⟩

set_option maxRecDepth 100000 in
set_option maxHeartbeats 1000000 in
theorem zz3 (w : World) (v : Value) (prs : List PP) (h : PrAt w v prs) : Calls Tryz.prog 37 #[v] w fun e w' => BPost (prs.length ≤ 2147483647) w e w' := by
  have HP := Lib.hid h
  obtain ⟨ao, cap, rfl, -⟩ := h
  go_enter Tryz.func37, Tryz.ntmps37
  by_cases hbig : 2147483647 < prs.length
  · have hb : (2147483647 : Int) < (prs.length : Int) := by omega
    go_wp2
    go_ret
    exact BPost.no (Fr.refl _ _)
  · have hb : (prs.length : Int) ≤ 2147483647 := by omega
    go_wp2_with fail
    go_loopg [10] prs.length (fun k c wr => ∃ i : Nat, k + i = prs.length ∧ c = .int .i64 (i : Nat) ∧ Fr0 w wr)
    case atStart => exact ⟨0, rfl, rfl, Fr.refl _ _⟩
    case round =>
      obtain ⟨i, hk, rfl, f⟩ := hrel
      have A := Lib.hid (And.intro hk f)
      clear hk f
      by_cases hi : i < prs.length
      · have hg := List.getElem?_eq_getElem hi
        obtain ⟨ao', cap', e, hr⟩ := HP.out.fr A.out.2
        cases e
        obtain ⟨ob, off, rfl, hl, c0, c1⟩ := hr i _ hg
        generalize prs[i] = p at c0 c1
        clear hg hr
        go_wp2_with fail
        refine (zz4 _ p.1 p.2).mono ?_
        rintro e w2 ⟨r, rfl, f2⟩
        have F2 := Lib.hid f2
        clear f2
        cases r with
        | true =>
          go_wp2_with fail
          go_roundg (gk - 1)
          case measure => have := A.out.1; omega
          case rel => exact ⟨i + 1, by have := A.out.1; omega, by simp, (A.out.2.alloc _).trans0 F2.out⟩
        | false =>
          go_wp2_with fail
          go_ret
          exact BPost.no ((A.out.2.alloc _).trans0 F2.out)
      · have hi' : i = prs.length := by have := A.out.1; omega
        subst hi'
        go_wp2_with fail
        go_ret
        exact BPost.yes (by omega) A.out.2
end Go.Proofs.YtbafaadmlpamiaaGreatDoor
