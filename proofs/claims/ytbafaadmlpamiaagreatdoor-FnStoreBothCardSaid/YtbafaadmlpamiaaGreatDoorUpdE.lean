/- The graphs: UpdateEdge. -/
import Derived.Test.YtbafaadmlpamiaaGreatDoorRmE
import Derived.Test.YtbafaadmlpamiaaGreatDoorA5
namespace Go.Proofs.YtbafaadmlpamiaaGreatDoor
open Go Go.Hy Go.RowKit

theorem sm_nocell {w : World} {b : Nat} {es : Ents} (h : SM w b es) (i : Nat) (p : Option Nat) : w.cell? ⟨b, i, p⟩ = none := by
  obtain ⟨arr, clock, h1, _⟩ := h
  simp [World.cell?, h1]

/-- the edges, one of them with other properties -/
def updL (dir : Bool) (lks : List Lk) (a b : ByteArray) (s : PS) : List Lk := lks.map fun m => if m.hit dir a b = true then { m with wt := s.1, es := s.2 } else m

theorem upd_ends (dir : Bool) (a b : ByteArray) (s : PS) (m : Lk) : (if m.hit dir a b = true then { m with wt := s.1, es := s.2 } else m).a = m.a ∧ (if m.hit dir a b = true then { m with wt := s.1, es := s.2 } else m).b = m.b ∧ (if m.hit dir a b = true then { m with wt := s.1, es := s.2 } else m).at_ = m.at_ := by
  split <;> exact ⟨rfl, rfl, rfl⟩

theorem uniq_hit {dir : Bool} {a b : ByteArray} : ∀ {lks : List Lk}, (lks.Pairwise fun l m => m.hit dir l.a l.b = false) → ∀ {l m : Lk}, l ∈ lks → m ∈ lks → l.hit dir a b = true → m.hit dir a b = true → l = m
  | [], _, l, m, hl, _, _, _ => by cases hl
  | x :: lks, h, l, m, hl, hm, h1, h2 => by
    have hp := List.pairwise_cons.1 h
    have key : ∀ {p q : Lk}, q ∈ lks → p = x → p.hit dir a b = true → q.hit dir a b = true → False := fun {p q} hq he hp1 hq1 => by
      have h3 := hp.1 q hq
      subst he
      have h4 : q.hit dir p.a p.b = q.hit dir a b := hit_same (hit_both (hit_self dir p) hp1)
      rw [h4, hq1] at h3
      cases h3
    rcases List.mem_cons.1 hl with e1 | e1 <;> rcases List.mem_cons.1 hm with e2 | e2
    · exact e1.trans e2.symm
    · exact (key e2 e1 h1 h2).elim
    · exact (key e1 e2 h2 h1).elim
    · exact uniq_hit hp.2 e1 e2 h1 h2

theorem hit_congr {dir : Bool} {l m : Lk} {x y : ByteArray} (ha : l.a = m.a) (hb : l.b = m.b) : l.hit dir x y = m.hit dir x y := by
  unfold Lk.hit
  rw [ha, hb]

theorem findL_upd (dir : Bool) (a b : ByteArray) (s : PS) (x y : ByteArray) : ∀ lks : List Lk, findL dir (updL dir lks a b s) x y = (findL dir lks x y).map fun m => if m.hit dir a b = true then { m with wt := s.1, es := s.2 } else m := by
  intro lks
  unfold findL updL
  rw [List.find?_map]
  congr 1
  congr 1
  funext m
  obtain ⟨e1, e2, _⟩ := upd_ends dir a b s m
  exact hit_congr e1 e2

/-- An edge has other properties: the graph behind it. -/
theorem GRep.updE {w w' : World} {G : GS} (h : GRep w G) {a b : ByteArray} {l : Lk} (hl : findL G.dir G.lks a b = some l) (s : PS) {c' : St1} (hs : SRep w' G.sB c') (hvs : c'.vs = G.c.vs) (hps : c'.ps = G.c.ps) (hown : ∀ k ∈ c'.own, k ∈ G.c.own ∨ w.heap.size ≤ k)
    (f : Fr (fun k => k ∈ G.c.own ∨ k = l.at_) w w') (hm : SM w' l.at_ (ats s.2))
    (out : ∀ x y, Same2 G.dir a b x y → edgeAt c'.outs c'.inn x y = some (ev x y l.at_ s.1)) (out' : ∀ x y, ¬ Same2 G.dir a b x y → edgeAt c'.outs c'.inn x y = edgeAt G.c.outs G.c.inn x y)
    (inn : ∀ x y, Same2 G.dir a b x y → edgeAt c'.inns c'.inn y x = some (ev x y l.at_ s.1)) (inn' : ∀ x y, ¬ Same2 G.dir a b x y → edgeAt c'.inns c'.inn y x = edgeAt G.c.inns G.c.inn y x) :
    GStep w G w' { G with c := c', lks := updL G.dir G.lks a b s } := by
  have lo := h.latOk
  obtain ⟨lm, lh⟩ := findL_mem hl
  have mo : ∀ k, k ∈ G.c.own → k ∈ G.own := fun k hk => by
    simp only [GS.own, List.mem_cons, List.mem_append]
    exact .inr (.inr (.inr (.inl hk)))
  have la : l.at_ ∈ G.own := by
    simp only [GS.own, List.mem_cons, List.mem_append, List.mem_map]
    exact .inr (.inr (.inr (.inr (.inr ⟨l, lm, rfl⟩))))
  have ats' : (updL G.dir G.lks a b s).map (·.at_) = G.lks.map (·.at_) := by
    unfold updL
    rw [List.map_map]
    refine List.map_congr_left fun m _ => ?_
    exact (upd_ends G.dir a b s m).2.2
  have val : ∀ x y, (findL G.dir (updL G.dir G.lks a b s) x y).map (fun l => ev x y l.at_ l.wt) = (findL G.dir G.lks x y).map fun m => if m.hit G.dir a b = true then ev x y m.at_ s.1 else ev x y m.at_ m.wt := fun x y => by
    rw [findL_upd, Option.map_map]
    congr 1
    funext m
    simp only [Function.comp_def]
    split <;> rfl
  have vs : ∀ x y, Same2 G.dir a b x y → (findL G.dir (updL G.dir G.lks a b s) x y).map (fun l => ev x y l.at_ l.wt) = some (ev x y l.at_ s.1) := fun x y hh => by
    have e : findL G.dir G.lks x y = some l := by
      rw [← hl]
      unfold findL
      congr 1
      funext m
      exact hit_same hh
    rw [val, e, Option.map_some, if_pos lh]
  have vn : ∀ x y, ¬ Same2 G.dir a b x y → (findL G.dir (updL G.dir G.lks a b s) x y).map (fun l => ev x y l.at_ l.wt) = (findL G.dir G.lks x y).map fun l => ev x y l.at_ l.wt := fun x y hh => by
    rw [val]
    cases hf : findL G.dir G.lks x y with
    | none => rfl
    | some m =>
      have hmx := (findL_mem hf).2
      have : m.hit G.dir a b ≠ true := fun q => hh (hit_both hmx q)
      rw [Option.map_some, Option.map_some, if_neg this]
  have rep : GRep w' { G with c := c', lks := updL G.dir G.lks a b s } := by
    refine h.setL hs hvs hps hown (f.mono fun k hk => hk.imp id fun e => ⟨l, lm, e.symm⟩) ?_ (by rw [ats']; exact lo.2) (fun x y => ?_) (fun x y => ?_) ?_ ?_ ?_
    · intro m' hm'
      obtain ⟨m, hmm, rfl⟩ := List.mem_map.1 hm'
      obtain ⟨q1, q2⟩ := lo.1 m hmm
      rw [(upd_ends G.dir a b s m).2.2]
      refine ⟨q1, q2, ?_⟩
      by_cases hh : m.hit G.dir a b = true
      · rw [if_pos hh, uniq_hit h.lnd hmm lm hh lh]
        exact hm
      · rw [if_neg hh]
        refine (h.la m hmm).fr f ?_
        rintro (r | r)
        · refine q2 ?_
          simp only [GS.base, List.mem_cons, List.mem_append]
          exact .inr (.inr (.inr (.inr (.inl r))))
        · have e : m = l := by
            have hnd := lo.2
            rw [List.Nodup, List.pairwise_map] at hnd
            exact Classical.byContradiction fun hne => by
              obtain ⟨i, hi, ei⟩ := List.mem_iff_getElem.1 hmm
              obtain ⟨j, hj, ej⟩ := List.mem_iff_getElem.1 lm
              rcases Nat.lt_trichotomy i j with o | o | o
              · have := List.pairwise_iff_getElem.1 hnd i j hi hj o; rw [ei, ej] at this; exact this r
              · subst o; exact hne (ei.symm.trans ej)
              · have := List.pairwise_iff_getElem.1 hnd j i hj hi o; rw [ei, ej] at this; exact this r.symm
          rw [e] at hh
          exact hh lh
    · by_cases hh : Same2 G.dir a b x y
      · rw [out x y hh, vs x y hh]
      · rw [out' x y hh, vn x y hh]; exact h.out x y
    · by_cases hh : Same2 G.dir a b x y
      · rw [inn x y hh, vs x y hh]
      · rw [inn' x y hh, vn x y hh]; exact h.inn x y
    · intro m' hm'
      obtain ⟨m, hmm, rfl⟩ := List.mem_map.1 hm'
      rw [(upd_ends G.dir a b s m).1, (upd_ends G.dir a b s m).2.1]
      exact h.ends m hmm
    · intro hd m' hm'
      obtain ⟨m, hmm, rfl⟩ := List.mem_map.1 hm'
      rw [(upd_ends G.dir a b s m).1, (upd_ends G.dir a b s m).2.1]
      exact h.loop hd m hmm
    · unfold updL
      rw [List.pairwise_map]
      refine h.lnd.imp fun {p q} hpq => ?_
      rw [(upd_ends G.dir a b s p).1, (upd_ends G.dir a b s p).2.1, hit_congr (upd_ends G.dir a b s q).1 (upd_ends G.dir a b s q).2.1]
      exact hpq
  refine ⟨rep, f.mono fun k hk => ?_, fun k hk => ?_, G.same_refl⟩
  · rcases hk with r | r
    · exact mo k r
    · rw [r]; exact la
  · have hk' : k ∈ G.gB :: G.tB :: G.sB :: (c'.own ++ (G.pts.map (·.at_) ++ (updL G.dir G.lks a b s).map (·.at_))) := hk
    rw [ats'] at hk'
    simp only [GS.own, List.mem_cons, List.mem_append] at hk' ⊢
    rcases hk' with r | r | r | r | r
    · exact .inl (.inl r)
    · exact .inl (.inr (.inl r))
    · exact .inl (.inr (.inr (.inl r)))
    · rcases hown k r with z | z
      · exact .inl (.inr (.inr (.inr (.inl z))))
      · exact .inr z
    · exact .inl (.inr (.inr (.inr (.inr r))))
end Go.Proofs.YtbafaadmlpamiaaGreatDoor
