/- The store of lists as it lies in memory. -/
import Derived.Test.YtbafaadmlpamiaaGreatDoorStoM
import Derived.Test.YtbafaadmlpamiaaGreatDoorByK2
namespace Go.Proofs.YtbafaadmlpamiaaGreatDoor
open Go Go.Hy Go.RowKit

theorem plc_none : plc none = -1 := rfl
theorem plc_some (i : Nat) : plc (some i) = (i : Int) := rfl

/-- a vertex's cells -/
def encPt (p : SP × Value) : List Value := [.string p.1.h, .string p.1.v, .int .i64 p.1.wt, p.2]

/-- vertices that lie in memory -/
def PtsIn (w : World) (p : Nat → Prop) (v : Value) (ps : List SP) : Prop :=
  ∃ vs : List Value, vs.length = ps.length ∧ Reads w v ps.length (encL encPt (ps.zip vs)) ∧ (∀ q, v.ownBlock = some q → p q ∧ q < w.heap.size) ∧ ∀ (i : Nat) (l : SP) (u : Value), ps[i]? = some l → vs[i]? = some u → PairsIn w p u l.es

theorem PtsIn.fr {w w' : World} {p : Nat → Prop} {v : Value} {ps : List SP} {S : Nat → Prop} (h : PtsIn w p v ps) (f : Fr S w w') (hS : ∀ q, p q → q < w.heap.size → ¬ S q) : PtsIn w' p v ps := by
  obtain ⟨vs, h1, h2, h3, h4⟩ := h
  exact ⟨vs, h1, h2.fr f fun q hq _ => hS q (h3 q hq).1 (h3 q hq).2, fun q hq => ⟨(h3 q hq).1, Nat.lt_of_lt_of_le (h3 q hq).2 f.size⟩, fun i l u hl hu => (h4 i l u hl hu).fr f hS⟩

theorem PtsIn.nil (w : World) (p : Nat → Prop) : PtsIn w p (.slice none 0 0) [] := ⟨[], rfl, Reads.nil w, (fun q hq => by cases hq), (fun i l u hl => by simp at hl)⟩

theorem PairsIn.form {w : World} {p : Nat → Prop} {v : Value} {es : List PP} (h : PairsIn w p v es) : ∃ ao cap, v = .slice ao es.length cap := by
  obtain ⟨⟨ao, cap, e, _⟩, _⟩ := h
  exact ⟨ao, cap, e⟩

theorem PtsIn.form {w : World} {p : Nat → Prop} {v : Value} {ps : List SP} (h : PtsIn w p v ps) : ∃ ao cap, v = .slice ao ps.length cap ∧ ps.length ≤ cap := by
  obtain ⟨vs, h1, ⟨ao, cap, e, hc, _⟩, _⟩ := h
  exact ⟨ao, cap, e, hc⟩

theorem LinksIn.form {w : World} {p : Nat → Prop} {v : Value} {ls : List SL} (h : LinksIn w p v ls) : ∃ ao cap, v = .slice ao ls.length cap ∧ ls.length ≤ cap := by
  obtain ⟨vs, h1, ⟨ao, cap, e, hc, _⟩, _⟩ := h
  exact ⟨ao, cap, e, hc⟩

/-- one vertex's cells -/
theorem PtsIn.at_ {w : World} {p : Nat → Prop} {v : Value} {ps : List SP} (h : PtsIn w p v ps) {i : Nat} {x : SP} (hi : ps[i]? = some x) :
    ∃ ob cap pv, v = .slice (some ⟨ob, 0, none⟩) ps.length cap ∧ ob < w.heap.size ∧ p ob ∧ w.cell? ⟨ob, i * 4, none⟩ = some (.string x.h) ∧ w.cell? ⟨ob, i * 4 + 1, none⟩ = some (.string x.v) ∧
      w.cell? ⟨ob, i * 4 + 2, none⟩ = some (.int .i64 x.wt) ∧ w.cell? ⟨ob, i * 4 + 3, none⟩ = some pv ∧ PairsIn w p pv x.es := by
  obtain ⟨vs, h1, h2, h3, h4⟩ := h
  have hlt := (List.getElem?_eq_some_iff.1 hi).1
  have hu := List.getElem?_eq_getElem (show i < vs.length by omega)
  have hz : (ps.zip vs)[i]? = some (x, vs[i]'(by omega)) := by rw [List.getElem?_zip_eq_some]; exact ⟨hi, hu⟩
  have cell : ∀ c u, c < 4 → (encPt (x, vs[i]'(by omega)))[c]? = some u → ∃ ob cap, v = .slice (some ⟨ob, 0, none⟩) ps.length cap ∧ ps.length ≤ cap ∧ ob < w.heap.size ∧ w.cell? ⟨ob, i * 4 + c, none⟩ = some u := fun c u hc hq =>
    h2.cell ((encL_mem encPt 4 _ (fun _ _ => rfl) i c _ hz hc).trans hq)
  obtain ⟨ob, cap, rfl, _, hl, c0⟩ := cell 0 _ (by decide) rfl
  obtain ⟨_, _, e1, _, _, c1⟩ := cell 1 _ (by decide) rfl
  obtain ⟨_, _, e2, _, _, c2⟩ := cell 2 _ (by decide) rfl
  obtain ⟨_, _, e3, _, _, c3⟩ := cell 3 _ (by decide) rfl
  cases e1
  cases e2
  cases e3
  exact ⟨ob, cap, _, rfl, hl, (h3 ob rfl).1, c0, c1, c2, c3, h4 i x _ hi hu⟩

/-- one edge's cells -/
theorem LinksIn.at_ {w : World} {p : Nat → Prop} {v : Value} {ls : List SL} (h : LinksIn w p v ls) {i : Nat} {x : SL} (hi : ls[i]? = some x) :
    ∃ ob cap pv, v = .slice (some ⟨ob, 0, none⟩) ls.length cap ∧ ob < w.heap.size ∧ p ob ∧ w.cell? ⟨ob, i * 4, none⟩ = some (.string x.a) ∧ w.cell? ⟨ob, i * 4 + 1, none⟩ = some (.string x.b) ∧
      w.cell? ⟨ob, i * 4 + 2, none⟩ = some (.int .i64 x.wt) ∧ w.cell? ⟨ob, i * 4 + 3, none⟩ = some pv ∧ PairsIn w p pv x.es := by
  obtain ⟨vs, h1, h2, h3, h4⟩ := h
  have hlt := (List.getElem?_eq_some_iff.1 hi).1
  have hu := List.getElem?_eq_getElem (show i < vs.length by omega)
  have hz : (ls.zip vs)[i]? = some (x, vs[i]'(by omega)) := by rw [List.getElem?_zip_eq_some]; exact ⟨hi, hu⟩
  have cell : ∀ c u, c < 4 → (encLk (x, vs[i]'(by omega)))[c]? = some u → ∃ ob cap, v = .slice (some ⟨ob, 0, none⟩) ls.length cap ∧ ls.length ≤ cap ∧ ob < w.heap.size ∧ w.cell? ⟨ob, i * 4 + c, none⟩ = some u := fun c u hc hq =>
    h2.cell ((encL_mem encLk 4 _ (fun _ _ => rfl) i c _ hz hc).trans hq)
  obtain ⟨ob, cap, rfl, _, hl, c0⟩ := cell 0 _ (by decide) rfl
  obtain ⟨_, _, e1, _, _, c1⟩ := cell 1 _ (by decide) rfl
  obtain ⟨_, _, e2, _, _, c2⟩ := cell 2 _ (by decide) rfl
  obtain ⟨_, _, e3, _, _, c3⟩ := cell 3 _ (by decide) rfl
  cases e1
  cases e2
  cases e3
  exact ⟨ob, cap, _, rfl, hl, (h3 ob rfl).1, c0, c1, c2, c3, h4 i x _ hi hu⟩

/-- the store -/
def ZRep (w : World) (sb : Nat) (s : St) : Prop :=
  ∃ (b1 b2 b3 b4 : Bool) (pv lv : Value), Cells w sb #[.bool s.dir, .bool b1, .bool b2, .bool b3, .bool b4, .bool s.pr, .int .u8 s.hk, pv, lv] 91 ∧ PtsIn w (fun q => q ≠ sb) pv s.ps ∧ LinksIn w (fun q => q ≠ sb) lv s.ls

theorem ZRep.fr {w w' : World} {sb : Nat} {s : St} {S : Nat → Prop} (h : ZRep w sb s) (f : Fr S w w') (hS : ∀ q, q < w.heap.size → ¬ S q) : ZRep w' sb s := by
  obtain ⟨b1, b2, b3, b4, pv, lv, hc, hp, hl⟩ := h
  exact ⟨b1, b2, b3, b4, pv, lv, hc.fr f (hS _ hc.lt), hp.fr f fun q _ hq => hS q hq, hl.fr f fun q _ hq => hS q hq⟩

theorem ZRep.fr0 {w w' : World} {sb : Nat} {s : St} (h : ZRep w sb s) (f : Fr0 w w') : ZRep w' sb s := h.fr f fun _ _ q => q

theorem ZRep.hk_cell {w : World} {sb : Nat} {s : St} (h : ZRep w sb s) : w.cell? ⟨sb, 6, none⟩ = some (.int .u8 s.hk) := by
  obtain ⟨_, _, _, _, _, _, hc, _⟩ := h
  exact hc.cell 6 _ rfl

theorem ZRep.lt {w : World} {sb : Nat} {s : St} (h : ZRep w sb s) : sb < w.heap.size := by
  obtain ⟨_, _, _, _, _, _, hc, _⟩ := h
  exact hc.lt
end Go.Proofs.YtbafaadmlpamiaaGreatDoor
