/- What is told is short. Plain. -/
import Derived.Test.YtbafaadmlpamiaaGreatDoorC1
import Derived.Test.YtbafaadmlpamiaaGreatDoorStoM
namespace Go.Proofs.YtbafaadmlpamiaaGreatDoor
open Go Go.Hy Go.RowKit

/-- nothing that is told is long -/
structure Brief (t : Tl) : Prop where
  prs : t.pairs.length ≤ 100000
  keys : t.keys.length ≤ 400000
  lks : t.links.length ≤ 400000
  les : ∀ l ∈ t.links, l.es.length ≤ 100000

theorem run_get (s : St) (ds : List DoIn) (i : Nat) (d : DoIn) (h : ds[i]? = some d) : (s.run ds)[i]? = some ((s.after (ds.take i)).step d).1 := by
  induction ds generalizing s i with
  | nil => simp at h
  | cons x ds ih =>
    cases i with
    | zero =>
      simp only [List.getElem?_cons_zero, Option.some.injEq] at h
      subst h
      rfl
    | succ i =>
      simp only [List.getElem?_cons_succ] at h
      have := ih (s.step x).2 i h
      simpa [St.run, St.after] using this

theorem low_es (dir : Bool) (l : SL) : (l.low dir).es = l.es := by
  unfold SL.low SL.turn
  split <;> rfl

theorem flatMap_le {α β : Type} (f : α → List β) (m : Nat) : ∀ l : List α, (∀ x ∈ l, (f x).length ≤ m) → (l.flatMap f).length ≤ l.length * m
  | [], _ => by simp
  | u :: us, h => by
    have h1 := h u (by simp)
    have h2 := flatMap_le f m us fun x hx => h x (by simp [hx])
    rw [List.flatMap_cons, List.length_append, List.length_cons, Nat.add_mul]
    omega

theorem both_len (s : St) (back : Bool) : (s.both back).length ≤ s.ls.length * 2 := by
  unfold St.both
  refine flatMap_le _ 2 _ fun x _ => ?_
  rw [List.length_append]
  have h1 : (if (!back || !s.dir) = true then [x] else []).length ≤ 1 := by split <;> simp
  have h2 : (if (back || !s.dir) = true then [x.turn] else []).length ≤ 1 := by split <;> simp
  omega

theorem both_es (s : St) (back : Bool) {l : SL} (h : l ∈ s.both back) : ∃ m ∈ s.ls, l.es = m.es := by
  unfold St.both at h
  obtain ⟨m, hm, h⟩ := List.mem_flatMap.1 h
  refine ⟨m, hm, ?_⟩
  rcases List.mem_append.1 h with h | h
  · split at h
    · simp only [List.mem_singleton] at h; rw [h]
    · cases h
  · split at h
    · simp only [List.mem_singleton] at h; rw [h]; rfl
    · cases h

theorem Bnd.brief {i : Nat} {s : St} (h : Bnd 4 i s) (hi : i ≤ 1000) (d : DoIn) : Brief (s.step d).1 := by
  obtain ⟨h1, h2, h3, h4⟩ := h
  have e4 : i * 4 ≤ 4000 := by omega
  have nil : ∀ c : Nat, Brief { err := c } := fun c => ⟨by simp, by simp, by simp, fun l hl => by cases hl⟩
  have nil' : Brief {} := nil 0
  unfold St.step
  split
  · unfold St.addV
    split
    · exact nil 1
    · exact nil'
  · unfold St.rmV
    split
    · exact nil 2
    · split
      · exact nil 3
      · exact nil'
  · unfold St.addE
    split
    · split
      · exact nil 4
      · split
        · exact nil 6
        · exact nil'
    · exact nil 2
  · unfold St.rmE
    split
    · exact nil 5
    · exact nil'
  · unfold St.updE
    split
    · exact nil 5
    · exact nil'
  · unfold St.vtx
    split
    · exact nil 2
    · rename_i p hp
      have := h3 p (pt_mem hp).1
      exact ⟨by show p.es.length ≤ _; omega, by simp, by simp, fun l hl => by cases hl⟩
  · unfold St.edge
    split
    · exact nil 5
    · rename_i l hl
      have := h4 l (List.mem_of_find?_eq_some hl)
      exact ⟨by show l.es.length ≤ _; omega, by simp, by simp, fun l hl => by cases hl⟩
  · exact ⟨by simp, by simp, by simp, fun l hl => by cases hl⟩
  · refine ⟨by simp, by simp, ?_, fun l hl => ?_⟩
    · show (sortL _).length ≤ _
      unfold sortL
      rw [List.length_mergeSort, List.length_map]
      omega
    · have hl' : l ∈ sortL (s.ls.map (SL.low s.dir)) := hl
      unfold sortL at hl'
      rw [List.mem_mergeSort] at hl'
      obtain ⟨m, hm, rfl⟩ := List.mem_map.1 hl'
      rw [low_es]
      have := h4 m hm
      omega
  · refine ⟨by simp, ?_, ?_, fun l hl => ?_⟩
    · show (sortK _).length ≤ _
      unfold sortK St.keys
      rw [List.length_mergeSort, List.length_map]
      omega
    · show (sortL _).length ≤ _
      unfold sortL
      rw [List.length_mergeSort]
      have := both_len s false
      omega
    · have hl' : l ∈ sortL (s.both false) := hl
      unfold sortL at hl'
      rw [List.mem_mergeSort] at hl'
      obtain ⟨m, hm, e⟩ := both_es s false hl'
      rw [e]
      have := h4 m hm
      omega
  · refine ⟨by simp, ?_, ?_, fun l hl => ?_⟩
    · show (sortK _).length ≤ _
      unfold sortK St.keys
      rw [List.length_mergeSort, List.length_map]
      omega
    · show (sortL _).length ≤ _
      unfold sortL
      rw [List.length_mergeSort]
      have := both_len s true
      omega
    · have hl' : l ∈ sortL (s.both true) := hl
      unfold sortL at hl'
      rw [List.mem_mergeSort] at hl'
      obtain ⟨m, hm, e⟩ := both_es s true hl'
      rw [e]
      have := h4 m hm
      omega
  · exact nil'
end Go.Proofs.YtbafaadmlpamiaaGreatDoor
