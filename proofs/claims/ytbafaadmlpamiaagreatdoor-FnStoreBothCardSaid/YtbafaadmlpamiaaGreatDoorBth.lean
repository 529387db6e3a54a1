/- Maps, edges and counts of one graph told beside one another. Plain. -/
import Derived.Test.YtbafaadmlpamiaaGreatDoorStoM
import Derived.Test.YtbafaadmlpamiaaGreatDoorBoth
namespace Go.Proofs.YtbafaadmlpamiaaGreatDoor
open Go Go.Hy Go.RowKit

def keyS (s : SL) : ByteArray × ByteArray := (s.a, s.b)

/-- an undirected graph has no loops -/
def NoLoop (s : St) : Prop := s.dir = false → ∀ l ∈ s.ls, l.a ≠ l.b

theorem NoLoop.step {s : St} (h : NoLoop s) (d : DoIn) (hd : d.op = 2 → s.dir = false → d.a ≠ d.b) : NoLoop (s.step d).2 := by
  unfold St.step
  split
  · unfold St.addV; split <;> exact h
  · unfold St.rmV
    split
    · exact h
    · split <;> exact h
  · rename_i hop
    unfold St.addE
    split
    · split
      · exact h
      · split
        · exact h
        · intro hdir l hl
          rcases List.mem_append.1 hl with z | z
          · exact h hdir l z
          · simp only [List.mem_singleton] at z
            subst z
            exact hd hop hdir
    · exact h
  · unfold St.rmE
    split
    · exact h
    · exact fun hdir l hl => h hdir l (List.mem_filter.1 hl).1
  · unfold St.updE
    split
    · exact h
    · intro hdir l hl
      obtain ⟨m, hm, rfl⟩ := List.mem_map.1 hl
      have := h hdir m hm
      split <;> exact this
  all_goals exact h

def hasL (m : List SL) (a b : ByteArray) (like : SL) : Bool :=
  match m.find? (fun x => decide (x.a = a ∧ x.b = b)) with
  | some x => decide (x.wt = like.wt ∧ x.es = like.es)
  | none => false

theorem find_key : ∀ {m : List SL}, (m.map keyS).Nodup → ∀ {l : SL}, l ∈ m → m.find? (fun x => decide (x.a = l.a ∧ x.b = l.b)) = some l
  | [], _, _, h => by cases h
  | x :: m, hn, l, h => by
    simp only [List.map_cons, List.nodup_cons] at hn
    rcases List.mem_cons.1 h with rfl | h
    · simp
    · have hne : ¬ (x.a = l.a ∧ x.b = l.b) := fun q => hn.1 (List.mem_map.2 ⟨l, h, by unfold keyS; rw [q.1, q.2]⟩)
      rw [List.find?_cons, decide_eq_false hne]
      exact find_key hn.2 h

theorem hasL_of {m : List SL} (hn : (m.map keyS).Nodup) {y like : SL} (hy : y ∈ m) (hw : y.wt = like.wt) (he : y.es = like.es) : hasL m y.a y.b like = true := by
  unfold hasL
  rw [find_key hn hy]
  simp [hw, he]

theorem both_mem (s : St) (t : Bool) (x : SL) : x ∈ s.both t ↔ ∃ l ∈ s.ls, ((t = false ∨ s.dir = false) ∧ x = l) ∨ ((t = true ∨ s.dir = false) ∧ x = l.turn) := by
  unfold St.both
  simp only [List.mem_flatMap, List.mem_append]
  constructor
  · rintro ⟨l, hm, q | q⟩
    · split at q
      · exact ⟨l, hm, .inl ⟨by cases t <;> simp_all, by simpa using q⟩⟩
      · cases q
    · split at q
      · exact ⟨l, hm, .inr ⟨by cases t <;> simp_all, by simpa using q⟩⟩
      · cases q
  · rintro ⟨l, hm, ⟨q, rfl⟩ | ⟨q, rfl⟩⟩
    · refine ⟨_, hm, .inl ?_⟩
      rw [if_pos (by rcases q with q | q <;> simp [q])]
      simp
    · refine ⟨_, hm, .inr ?_⟩
      rw [if_pos (by rcases q with q | q <;> simp [q])]
      simp

theorem hit_not {dir : Bool} {l : SL} {a b : ByteArray} (h : l.hit dir a b = false) : ¬ (l.a = a ∧ l.b = b) ∧ (dir = false → ¬ (l.a = b ∧ l.b = a)) := by
  unfold SL.hit at h
  simp only [Bool.or_eq_false_iff, decide_eq_false_iff_not] at h
  exact ⟨h.1, fun q => by have := h.2; rw [q] at this; simpa using this⟩

theorem both_keys {s : St} (hw : Wf s) (hl : NoLoop s) (t : Bool) : ((s.both t).map keyS).Nodup := by
  obtain ⟨dir, pr, hk, ps, ls⟩ := s
  have hu := hw.un
  have hn := hl
  unfold NoLoop at hn
  simp only at hu hn
  clear hw hl
  unfold St.both
  simp only
  induction ls with
  | nil => simp
  | cons l ls ih =>
    obtain ⟨h1, h2⟩ := List.pairwise_cons.1 hu
    have ih := ih h2 (fun hd m hm => hn hd m (List.mem_cons_of_mem _ hm))
    have hne := fun hd => hn hd l (by simp)
    simp only [List.flatMap_cons, List.map_append]
    refine List.nodup_append.2 ⟨?_, by simpa [List.map_append] using ih, ?_⟩
    · cases dir with
      | true => cases t <;> simp
      | false =>
        have := hne rfl
        cases t <;> simp [keyS, SL.turn, this]
    · intro x hx y hy e
      subst e
      have hx' : x = (l.a, l.b) ∨ x = (l.b, l.a) ∧ (t = true ∨ dir = false) := by
        cases dir <;> cases t <;> simp_all [keyS, SL.turn]
      have hxt : dir = true → t = true → x = (l.b, l.a) := by
        rintro rfl rfl
        simp_all [keyS, SL.turn]
      simp only [List.mem_map, List.mem_flatMap] at hy
      obtain ⟨z, ⟨m, hm, hz⟩, rfl⟩ := hy
      have hh := hit_not (h1 m hm)
      have hz' : (keyS z = (m.a, m.b) ∧ ¬ (dir = true ∧ t = true)) ∨ (keyS z = (m.b, m.a) ∧ (t = true ∨ dir = false)) := by
        cases dir <;> cases t <;> simp_all [keyS, SL.turn]
        all_goals rcases hz with rfl | rfl <;> simp
      cases dir with
      | true =>
        cases t with
        | true =>
          have e1 := hxt rfl rfl
          rcases hz' with ⟨_, q⟩ | ⟨e2, _⟩
          · exact absurd ⟨rfl, rfl⟩ q
          · rw [e1, Prod.mk.injEq] at e2
            exact hh.1 ⟨e2.2, e2.1⟩
        | false =>
          rcases hx' with e1 | ⟨_, q⟩
          · rcases hz' with ⟨e2, _⟩ | ⟨_, q⟩
            · rw [e1, Prod.mk.injEq] at e2
              exact hh.1 e2
            · simp at q
          · simp at q
      | false =>
        have h3 := hh.2 rfl
        rcases hx' with e1 | ⟨e1, _⟩ <;> rcases hz' with ⟨e2, _⟩ | ⟨e2, _⟩ <;> rw [e1, Prod.mk.injEq] at e2
        · exact hh.1 e2
        · exact h3 e2
        · exact h3 ⟨e2.2, e2.1⟩
        · exact hh.1 ⟨e2.2, e2.1⟩

theorem low_cases (dir : Bool) (l : SL) : l.low dir = l ∨ (dir = false ∧ l.low dir = l.turn) := by
  unfold SL.low
  split
  · rename_i h
    simp only [Bool.and_eq_true, Bool.not_eq_true'] at h
    exact .inr ⟨h.1, rfl⟩
  · exact .inl rfl

theorem low_keysS {s : St} (hw : Wf s) : ((s.ls.map (SL.low s.dir)).map keyS).Nodup := by
  rw [List.map_map, List.nodup_iff_pairwise_ne]
  refine List.pairwise_map.2 (hw.un.imp fun {l m} hh e => ?_)
  have hh := hit_not hh
  simp only [Function.comp_apply] at e
  rcases low_cases s.dir l with e1 | ⟨d1, e1⟩ <;> rcases low_cases s.dir m with e2 | ⟨d2, e2⟩ <;> rw [e1, e2] at e <;> simp only [keyS, SL.turn, Prod.mk.injEq] at e
  · exact hh.1 e
  · exact hh.2 d2 e
  · exact hh.2 d1 ⟨e.2, e.1⟩
  · exact hh.1 ⟨e.2, e.1⟩

theorem sortL_permS (l : List SL) : (sortL l).Perm l := List.mergeSort_perm _ _

theorem sortL_keys {l : List SL} (h : (l.map keyS).Nodup) : ((sortL l).map keyS).Nodup := ((sortL_permS l).map _).nodup_iff.2 h

/-- what an edge of the one map has beside it -/
theorem both_has {s : St} (hw : Wf s) (hl : NoLoop s) (x : SL) (hx : x ∈ sortL (s.both false)) :
    (s.dir = true → hasL (sortL (s.both true)) x.b x.a x = true) ∧
    (s.dir = false → hasL (sortL (s.both true)) x.a x.b x = true ∧ hasL (sortL (s.both false)) x.b x.a x = true) ∧
    (hasL (sortL (s.ls.map (SL.low s.dir))) x.a x.b x = true ∨ (s.dir = false ∧ hasL (sortL (s.ls.map (SL.low s.dir))) x.b x.a x = true)) := by
  have hx := (sortL_permS _).subset hx
  have k1 := sortL_keys (both_keys hw hl true)
  have k0 := sortL_keys (both_keys hw hl false)
  have kl := sortL_keys (low_keysS hw)
  have inS : ∀ (t : Bool) (y : SL), y ∈ s.both t → y ∈ sortL (s.both t) := fun t y h => (sortL_permS _).symm.subset h
  obtain ⟨l, hm, c⟩ := (both_mem s false x).1 hx
  have back : (s.dir = true → x.turn ∈ s.both true) ∧ (s.dir = false → x ∈ s.both true ∧ x.turn ∈ s.both false) := by
    refine ⟨fun hd => ?_, fun hd => ⟨?_, ?_⟩⟩
    · rcases c with ⟨_, rfl⟩ | ⟨q, _⟩
      · exact (both_mem s true _).2 ⟨x, hm, .inr ⟨.inl rfl, rfl⟩⟩
      · rw [hd] at q; simp at q
    · rcases c with ⟨_, rfl⟩ | ⟨_, rfl⟩
      · exact (both_mem s true _).2 ⟨x, hm, .inl ⟨.inr hd, rfl⟩⟩
      · exact (both_mem s true _).2 ⟨l, hm, .inr ⟨.inr hd, rfl⟩⟩
    · rcases c with ⟨_, rfl⟩ | ⟨_, rfl⟩
      · exact (both_mem s false _).2 ⟨x, hm, .inr ⟨.inr hd, rfl⟩⟩
      · exact (both_mem s false _).2 ⟨l, hm, .inl ⟨.inr hd, rfl⟩⟩
  refine ⟨fun hd => ?_, fun hd => ⟨?_, ?_⟩, ?_⟩
  · exact hasL_of k1 (inS true _ (back.1 hd)) rfl rfl
  · exact hasL_of k1 (inS true _ (back.2 hd).1) rfl rfl
  · exact hasL_of k0 (inS false _ (back.2 hd).2) rfl rfl
  · have hin : l.low s.dir ∈ sortL (s.ls.map (SL.low s.dir)) := (sortL_permS _).symm.subset (List.mem_map.2 ⟨l, hm, rfl⟩)
    rcases low_cases s.dir l with e | ⟨hd, e⟩
    · rw [e] at hin
      rcases c with ⟨_, rfl⟩ | ⟨q, rfl⟩
      · exact .inl (hasL_of kl hin rfl rfl)
      · refine .inr ⟨by rcases q with q | q; cases q; exact q, ?_⟩
        exact hasL_of kl hin rfl rfl
    · rw [e] at hin
      rcases c with ⟨_, rfl⟩ | ⟨_, rfl⟩
      · exact .inr ⟨hd, hasL_of kl hin rfl rfl⟩
      · exact .inl (hasL_of kl hin rfl rfl)

theorem both_lenS (s : St) (t : Bool) : (s.both t).length = if s.dir = true then s.ls.length else 2 * s.ls.length := by
  unfold St.both
  induction s.ls with
  | nil => simp
  | cons l ls ih =>
    simp only [List.flatMap_cons, List.length_append, List.length_cons, ih]
    cases s.dir <;> cases t <;> simp <;> omega

theorem sortL_len (l : List SL) : (sortL l).length = l.length := (sortL_permS l).length_eq
end Go.Proofs.YtbafaadmlpamiaaGreatDoor
