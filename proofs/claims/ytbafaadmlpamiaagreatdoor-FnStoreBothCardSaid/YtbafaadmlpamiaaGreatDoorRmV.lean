/- The graphs: RemoveVertex. -/
import Derived.Test.YtbafaadmlpamiaaGreatDoorA4
namespace Go.Proofs.YtbafaadmlpamiaaGreatDoor
open Go Go.Hy Go.RowKit

theorem del_pts (pts : List Pt) (k : ByteArray) (f : Pt → Value) : delS (pts.map fun p => (p.h, f p)) k = (pts.filter fun p => decide (p.h ≠ k)).map fun p => (p.h, f p) := by
  unfold delS
  rw [List.filter_map]
  rfl

/-- A vertex without edges is taken out: the graph behind it. -/
theorem GRep.cutP {w w' : World} {G : GS} (h : GRep w G) (k : ByteArray) {c' : St1} (hs : SRep w' G.sB c') (hvs : c'.vs = delS G.c.vs k) (hps : c'.ps = delS G.c.ps k) (hown : ∀ b ∈ c'.own, b ∈ G.c.own)
    (f : Fr (· ∈ G.c.own) w w') (out : ∀ x y, edgeAt c'.outs c'.inn x y = edgeAt G.c.outs G.c.inn x y) (inn : ∀ x y, edgeAt c'.inns c'.inn y x = edgeAt G.c.inns G.c.inn y x)
    (hno : ∀ l ∈ G.lks, l.a ≠ k ∧ l.b ≠ k) : GRep w' { G with c := c', pts := G.pts.filter fun p => decide (p.h ≠ k) } := by
  have hN := h.nd
  have hkn := h.kn
  simp only [GS.own, List.nodup_cons, List.mem_cons, List.mem_append, List.nodup_append, List.mem_map, not_or] at hN hkn
  obtain ⟨⟨a1, a2, a3, a4, a5⟩, ⟨b1, b2, b3, b4⟩, ⟨d1, d2, d3⟩, n1, ⟨n2, n3, n4⟩, n5⟩ := hN
  obtain ⟨k1, k2, k3, k4, k5, k6⟩ := hkn
  have sub : ∀ p ∈ G.pts.filter (fun p => decide (p.h ≠ k)), p ∈ G.pts := fun p hp => (List.mem_filter.1 hp).1
  refine ⟨h.g.fr f a3, h.t.fr f b2, hs, h.k.imp fun _ q => ⟨q.1.fr f k4, q.2⟩, ?_, ?_, fun x y => (out x y).trans (h.out x y), fun x y => (inn x y).trans (h.inn x y), fun p hp => (h.pa p (sub p hp)).fr f ?_, fun l hl => (h.la l hl).fr f ?_, ?_, h.loop, h.lnd, ?_, ?_⟩
  · rw [hvs, h.vs, del_pts]
  · rw [hps, h.ps, del_pts]
  · exact fun r => n5 _ r _ (.inl ⟨p, sub p hp, rfl⟩) rfl
  · exact fun r => n5 _ r _ (.inr ⟨l, hl, rfl⟩) rfl
  · intro l hl
    obtain ⟨⟨p, hp, e1⟩, q, hq, e2⟩ := h.ends l hl
    exact ⟨⟨p, List.mem_filter.2 ⟨hp, by simp [e1, (hno l hl).1]⟩, e1⟩, q, List.mem_filter.2 ⟨hq, by simp [e2, (hno l hl).2]⟩, e2⟩
  · show (G.gB :: G.tB :: G.sB :: (c'.own ++ ((G.pts.filter fun p => decide (p.h ≠ k)).map (·.at_) ++ G.lks.map (·.at_)))).Nodup
    simp only [List.nodup_cons, List.mem_cons, List.mem_append, List.nodup_append, List.mem_map, not_or]
    refine ⟨⟨a1, a2, fun r => a3 (hown _ r), ?_, a5⟩, ⟨b1, fun r => b2 (hown _ r), ?_, b4⟩, ⟨fun r => d1 (hown _ r), ?_, d3⟩, hs.nd, ⟨?_, n3, ?_⟩, ?_⟩
    · rintro ⟨p, hp, e⟩; exact a4 ⟨p, sub p hp, e⟩
    · rintro ⟨p, hp, e⟩; exact b3 ⟨p, sub p hp, e⟩
    · rintro ⟨p, hp, e⟩; exact d2 ⟨p, sub p hp, e⟩
    · exact List.Nodup.sublist (List.filter_sublist.map _) n2
    · rintro _ ⟨p, hp, rfl⟩ _ ⟨l, hl, rfl⟩ e
      exact n4 _ ⟨p, sub p hp, rfl⟩ _ ⟨l, hl, rfl⟩ e
    · rintro b hb _ (⟨p, hp, rfl⟩ | ⟨l, hl, rfl⟩) e
      · exact n5 _ (hown _ hb) _ (.inl ⟨p, sub p hp, rfl⟩) e
      · exact n5 _ (hown _ hb) _ (.inr ⟨l, hl, rfl⟩) e
  · intro q
    have q' : G.kB ∈ G.gB :: G.tB :: G.sB :: (c'.own ++ ((G.pts.filter fun p => decide (p.h ≠ k)).map (·.at_) ++ G.lks.map (·.at_))) := q
    simp only [List.mem_cons, List.mem_append, List.mem_map] at q'
    rcases q' with r | r | r | r | ⟨p, hp, r⟩ | r
    · exact k1 r
    · exact k2 r
    · exact k3 r
    · exact k4 (hown _ r)
    · exact k5 ⟨p, sub p hp, r⟩
    · exact k6 r

/-- an edge touches a vertex -/
def Touch (G : GS) (k : ByteArray) : Prop := ∃ l ∈ G.lks, l.a = k ∨ l.b = k

theorem head_look (p : ByteArray × Value) (es : Ents) : lookS (p :: es) p.1 = some p.2 := by simp [lookS]

theorem inner_nil {l : List (ByteArray × Nat)} {inn : Nat → Ents} {k : ByteArray} {n : Nat} (hn : findK l k = some n) (h : ∀ y, edgeAt l inn k y = none) : inn n = [] := by
  cases he : inn n with
  | nil => rfl
  | cons p es =>
    have := h p.1
    unfold edgeAt at this
    rw [hn, Option.bind_some, he, head_look] at this
    cases this

theorem inner_ne {l : List (ByteArray × Nat)} {inn : Nat → Ents} {k y : ByteArray} {v : Value} (h : edgeAt l inn k y = some v) : ∃ n, findK l k = some n ∧ (0 : Int) < ((inn n).length : Int) := by
  unfold edgeAt at h
  obtain ⟨n, h1, h2⟩ := Option.bind_eq_some_iff.1 h
  refine ⟨n, h1, ?_⟩
  cases he : inn n with
  | nil => rw [he] at h2; simp [lookS] at h2
  | cons p es => simp

theorem GRep.untouched {w : World} {G : GS} (h : GRep w G) {k : ByteArray} (hn : ¬ Touch G k) : (∀ y, edgeAt G.c.outs G.c.inn k y = none) ∧ ∀ x, edgeAt G.c.inns G.c.inn k x = none := by
  have hh : ∀ x y, x = k ∨ y = k → findL G.dir G.lks x y = none := fun x y hxy => by
    rw [findL_none]
    intro l hl
    cases hc : l.hit G.dir x y with
    | false => rfl
    | true =>
      refine absurd ⟨l, hl, ?_⟩ hn
      rcases hit_cases hc with ⟨e1, e2⟩ | ⟨_, e1, e2⟩
      · rcases hxy with e | e
        · exact .inl (e1.trans e)
        · exact .inr (e2.trans e)
      · rcases hxy with e | e
        · exact .inr (e2.trans e)
        · exact .inl (e1.trans e)
  exact ⟨fun y => by rw [h.out, hh k y (.inl rfl)]; rfl, fun x => by rw [h.inn, hh x k (.inr rfl)]; rfl⟩

theorem GRep.touched {w : World} {G : GS} (h : GRep w G) {k : ByteArray} (hn : Touch G k) : (∃ y v, edgeAt G.c.outs G.c.inn k y = some v) ∨ ∃ x v, edgeAt G.c.inns G.c.inn k x = some v := by
  obtain ⟨l, hl, e⟩ := hn
  have hf : findL G.dir G.lks l.a l.b ≠ none := fun q => by
    have := findL_none.1 q l hl
    rw [hit_self] at this
    cases this
  obtain ⟨m, hm⟩ := Option.ne_none_iff_exists'.1 hf
  rcases e with e | e
  · exact .inl ⟨l.b, _, by rw [← e, h.out, hm]; rfl⟩
  · exact .inr ⟨l.a, _, by rw [← e, h.inn, hm]; rfl⟩

/-- the store's RemoveVertex, seen from the graph -/
theorem sremv (w : World) (G : GS) (h : GRep w G) (B : Nat) (eb : Nat → Addr) (E : ErrsOk w B eb) (hB : ∀ k ∈ G.own, B ≤ k) (k : ByteArray) :
    Calls Tryz.prog 223 #[.pointer (some ⟨G.sB, 0, none⟩), .string k] w fun e w' => ∃ ev : EV, ev.ok ∧ e = .returned (ev.val eb) ∧
      ((findP G.pts k = none ∧ ev.code = 2 ∧ GStep w G w' G) ∨ (findP G.pts k ≠ none ∧ Touch G k ∧ ev.code = 3 ∧ ∃ c', GStep w G w' { G with c := c' }) ∨
       (findP G.pts k ≠ none ∧ ¬ Touch G k ∧ ev.code = 0 ∧ ∃ c', GStep w G w' { G with c := c', pts := G.pts.filter fun p => decide (p.h ≠ k) })) := by
  have mo : ∀ b, b ∈ G.c.own → b ∈ G.own := fun b hb => by
    simp only [GS.own, List.mem_cons, List.mem_append]
    exact .inr (.inr (.inr (.inl hb)))
  have own1 : ∀ c' : St1, (∀ b ∈ c'.own, b ∈ G.c.own) → ∀ pts', (∀ p ∈ pts', p ∈ G.pts) → ∀ b ∈ ({ G with c := c', pts := pts' } : GS).own, b ∈ G.own := fun c' hc pts' hp b hb => by
    simp only [GS.own, List.mem_cons, List.mem_append, List.mem_map] at hb ⊢
    rcases hb with r | r | r | r | ⟨p, hp', r⟩ | r
    · exact .inl r
    · exact .inr (.inl r)
    · exact .inr (.inr (.inl r))
    · exact .inr (.inr (.inr (.inl (hc b r))))
    · exact .inr (.inr (.inr (.inr (.inl ⟨p, hp p hp', r⟩))))
    · exact .inr (.inr (.inr (.inr (.inr r))))
  cases hf : findP G.pts k with
  | none =>
    refine (remv_no w G.sB G.c h.s k (er (eb 1)) (E.cell 1 (by decide)) (by rw [h.vs, look_vs, hf]; rfl)).mono ?_
    rintro e w' ⟨rfl, rfl⟩
    exact ⟨.e 1, by simp [EV.ok], rfl, .inl ⟨rfl, rfl, GStep.refl h (Fr.refl _ _)⟩⟩
  | some p =>
    have hv : lookS G.c.vs k = some (.string p.v) := by rw [h.vs, look_vs, hf]; rfl
    by_cases ht : Touch G k
    · have same : ∀ w' (e : Ending), e = .returned (er (eb 2)) ∧ w = w' → ∃ ev : EV, ev.ok ∧ e = .returned (ev.val eb) ∧ ((some p = none ∧ ev.code = 2 ∧ GStep w G w' G) ∨ (some p ≠ none ∧ Touch G k ∧ ev.code = 3 ∧ ∃ c', GStep w G w' { G with c := c' }) ∨
          (some p ≠ none ∧ ¬ Touch G k ∧ ev.code = 0 ∧ ∃ c', GStep w G w' { G with c := c', pts := G.pts.filter fun p => decide (p.h ≠ k) })) := by
        rintro w' e ⟨rfl, rfl⟩
        exact ⟨.e 2, by simp [EV.ok], rfl, .inr (.inl ⟨by simp, ht, rfl, G.c, GStep.refl h (Fr.refl _ _)⟩)⟩
      have g2 := E.cell 2 (by decide)
      cases hi : findK G.c.inns k with
      | none =>
        have ho : ∃ y v, edgeAt G.c.outs G.c.inn k y = some v := by
          rcases h.touched ht with q | ⟨x, v, q⟩
          · exact q
          · unfold edgeAt at q; rw [hi] at q; cases q
        obtain ⟨y, v, ho⟩ := ho
        obtain ⟨no, h1, h2⟩ := inner_ne ho
        exact (remv_no_e w G.sB G.c h.s k p.v (er (eb 2)) g2 hv hi no h1 h2).mono fun e w' q => same w' e q
      | some ni =>
        cases hn : G.c.inn ni with
        | cons q es => exact (remv_in w G.sB G.c h.s k p.v (er (eb 2)) g2 hv ni hi (by rw [hn]; simp)).mono fun e w' q => same w' e q
        | nil =>
          have ho : ∃ y v, edgeAt G.c.outs G.c.inn k y = some v := by
            rcases h.touched ht with q | ⟨x, v, q⟩
            · exact q
            · unfold edgeAt at q; rw [hi, Option.bind_some, hn] at q; simp [lookS] at q
          obtain ⟨y, v, ho⟩ := ho
          obtain ⟨no, h1, h2⟩ := inner_ne ho
          refine (remv_ie_oe w G.sB G.c h.s k p.v (er (eb 2)) g2 (fun b hb q => by have := hB b (mo b hb); have := E.six; omega) hv ni hi hn no h1 h2).mono ?_
          rintro e w' ⟨rfl, ⟨c', s1, s2, s3, s4, s5, s6⟩, f⟩
          refine ⟨.e 2, by simp [EV.ok], rfl, .inr (.inl ⟨by simp, ht, rfl, c', ?_, f.mono fun b hb => mo b hb, fun b hb => .inl (own1 c' s4 G.pts (fun p hp => hp) b hb), G.same_refl⟩)⟩
          have lo := h.latOk
          have := h.setL s1 s2 s3 (fun b hb => .inl (s4 b hb)) (f.mono fun b hb => .inl hb) (lks := G.lks) (fun l hl => ⟨(lo.1 l hl).1, (lo.1 l hl).2, (h.la l hl).fr f fun r => (lo.1 l hl).2 (by simp only [GS.base, List.mem_cons, List.mem_append]; exact .inr (.inr (.inr (.inr (.inl r)))))⟩) lo.2
            (fun x y => (s5 x y).trans (h.out x y)) (fun x y => (s6 x y).trans (h.inn x y)) h.ends h.loop h.lnd
          exact this
    · obtain ⟨u1, u2⟩ := h.untouched ht
      have hno : ∀ l ∈ G.lks, l.a ≠ k ∧ l.b ≠ k := fun l hl => ⟨fun e => ht ⟨l, hl, .inl e⟩, fun e => ht ⟨l, hl, .inr e⟩⟩
      have fin : ∀ w' (e : Ending), e = .returned .nilIface ∧ CutPost w G.sB G.c (delS G.c.vs k) (delS G.c.ps k) w' → ∃ ev : EV, ev.ok ∧ e = .returned (ev.val eb) ∧ ((some p = none ∧ ev.code = 2 ∧ GStep w G w' G) ∨ (some p ≠ none ∧ Touch G k ∧ ev.code = 3 ∧ ∃ c', GStep w G w' { G with c := c' }) ∨
          (some p ≠ none ∧ ¬ Touch G k ∧ ev.code = 0 ∧ ∃ c', GStep w G w' { G with c := c', pts := G.pts.filter fun p => decide (p.h ≠ k) })) := by
        rintro w' e ⟨rfl, ⟨c', s1, s2, s3, s4, s5, s6⟩, f⟩
        exact ⟨.nil, trivial, rfl, .inr (.inr ⟨by simp, ht, rfl, c', h.cutP k s1 s2 s3 s4 f s5 s6 hno, f.mono fun b hb => mo b hb, fun b hb => .inl (own1 c' s4 _ (fun p hp => (List.mem_filter.1 hp).1) b hb), G.same_refl⟩)⟩
      cases hi : findK G.c.inns k with
      | none =>
        cases ho : findK G.c.outs k with
        | none => exact (remv_nn w G.sB G.c h.s k p.v hv hi ho).mono fun e w' q => fin w' e q
        | some no => exact (remv_ne w G.sB G.c h.s k p.v hv hi no ho (inner_nil ho u1)).mono fun e w' q => fin w' e q
      | some ni =>
        cases ho : findK G.c.outs k with
        | none => exact (remv_en w G.sB G.c h.s k p.v hv ho ni hi (inner_nil hi u2)).mono fun e w' q => fin w' e q
        | some no => exact (remv_ee w G.sB G.c h.s k p.v hv no ho (inner_nil ho u1) ni hi (inner_nil hi u2)).mono fun e w' q => fin w' e q

set_option maxRecDepth 100000 in
set_option maxHeartbeats 1000000 in
theorem dremv (w : World) (G : GS) (h : GRep w G) (B : Nat) (eb : Nat → Addr) (E : ErrsOk w B eb) (hB : ∀ k ∈ G.own, B ≤ k) (k : ByteArray) :
    Calls Tryz.prog 184 #[.pointer (some ⟨G.gB, 0, none⟩), .string k] w fun e w' => ∃ ev : EV, ev.ok ∧ e = .returned (ev.val eb) ∧
      ((findP G.pts k = none ∧ ev.code = 2 ∧ GStep w G w' G) ∨ (findP G.pts k ≠ none ∧ Touch G k ∧ ev.code = 3 ∧ ∃ c', GStep w G w' { G with c := c' }) ∨
       (findP G.pts k ≠ none ∧ ¬ Touch G k ∧ ev.code = 0 ∧ ∃ c', GStep w G w' { G with c := c', pts := G.pts.filter fun p => decide (p.h ≠ k) })) := by
  have HS := Lib.hid (sremv w G h B eb E hB k)
  have g2 := h.facts.1.2.2
  have l0 := h.facts.2.2.1
  have mR := mRemoveVertex
  clear h E hB
  go_enter Tryz.func184, Tryz.ntmps184
  go_wp2_with (first
    | (go_at_call 223; refine HS.out.mono ?_; rintro e w5 ⟨ev, h1, rfl, h2⟩))
  go_ret
  exact ⟨ev, h1, rfl, h2⟩

set_option maxRecDepth 100000 in
set_option maxHeartbeats 1000000 in
theorem uremv (w : World) (G : GS) (h : GRep w G) (B : Nat) (eb : Nat → Addr) (E : ErrsOk w B eb) (hB : ∀ k ∈ G.own, B ≤ k) (k : ByteArray) :
    Calls Tryz.prog 209 #[.pointer (some ⟨G.gB, 0, none⟩), .string k] w fun e w' => ∃ ev : EV, ev.ok ∧ e = .returned (ev.val eb) ∧
      ((findP G.pts k = none ∧ ev.code = 2 ∧ GStep w G w' G) ∨ (findP G.pts k ≠ none ∧ Touch G k ∧ ev.code = 3 ∧ ∃ c', GStep w G w' { G with c := c' }) ∨
       (findP G.pts k ≠ none ∧ ¬ Touch G k ∧ ev.code = 0 ∧ ∃ c', GStep w G w' { G with c := c', pts := G.pts.filter fun p => decide (p.h ≠ k) })) := by
  have HS := Lib.hid (sremv w G h B eb E hB k)
  have g2 := h.facts.1.2.2
  have l0 := h.facts.2.2.1
  have mR := mRemoveVertex
  clear h E hB
  go_enter Tryz.func209, Tryz.ntmps209
  go_wp2_with (first
    | (go_at_call 223; refine HS.out.mono ?_; rintro e w5 ⟨ev, h1, rfl, h2⟩))
  go_ret
  exact ⟨ev, h1, rfl, h2⟩

end Go.Proofs.YtbafaadmlpamiaaGreatDoor
