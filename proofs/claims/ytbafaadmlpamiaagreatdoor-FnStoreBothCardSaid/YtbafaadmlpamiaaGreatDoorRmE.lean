/- The graphs: RemoveEdge. -/
import Derived.Test.YtbafaadmlpamiaaGreatDoorRmV
namespace Go.Proofs.YtbafaadmlpamiaaGreatDoor
open Go Go.Hy Go.RowKit

/-- a half of an edge is taken out of a store -/
def RemPost (w : World) (s : Nat) (c : St1) (a t : ByteArray) (w' : World) : Prop :=
  (∃ c', SRep w' s c' ∧ c'.vs = c.vs ∧ c'.ps = c.ps ∧ (∀ b ∈ c'.own, b ∈ c.own) ∧ (∀ b, b ∈ c.own → b ∈ c'.own) ∧
      (∀ x y, edgeAt c'.outs c'.inn x y = if x = a ∧ y = t then none else edgeAt c.outs c.inn x y) ∧
      (∀ x y, edgeAt c'.inns c'.inn y x = if x = a ∧ y = t then none else edgeAt c.inns c.inn y x)) ∧ Fr (· ∈ c.own) w w'

theorem edgeAt_find {l : List (ByteArray × Nat)} {inn : Nat → Ents} {k y : ByteArray} {v : Value} (h : edgeAt l inn k y = some v) : ∃ n, findK l k = some n := by
  unfold edgeAt at h
  obtain ⟨n, h1, _⟩ := Option.bind_eq_some_iff.1 h
  exact ⟨n, h1⟩

theorem sreme (w : World) (s : Nat) (c : St1) (h : SRep w s c) (a t : ByteArray) {v v' : Value} (ho : edgeAt c.outs c.inn a t = some v) (hi : edgeAt c.inns c.inn t a = some v') :
    Calls Tryz.prog 222 #[.pointer (some ⟨s, 0, none⟩), .string a, .string t] w fun e w' => e = .returned .nilIface ∧ RemPost w s c a t w' := by
  obtain ⟨no, hno⟩ := edgeAt_find ho
  obtain ⟨ni, hni⟩ := edgeAt_find hi
  refine (reme w s c h a t no ni hno hni).mono ?_
  rintro e w' ⟨rfl, hs, f⟩
  obtain ⟨p1, p2, p3, p4, p5, p6, p7, p8, p9, p10, p11⟩ := St1.nodup h.nd
  have mo := findK_mem hno
  have mi := findK_mem hni
  have hne : no ≠ ni := p3 _ mo _ mi
  have sno : SM w' no (delS (c.inn no) t) := by
    have := hs.o.e _ mo
    simp only at this
    rw [upd_other _ _ _ hne, upd_same] at this
    exact this
  have sni : SM w' ni (delS (c.inn ni) a) := by
    have := hs.i.e _ mi
    simp only at this
    rw [upd_same] at this
    exact this
  obtain ⟨_, e1, e2⟩ := h.setInn hno hni f sno sni
  refine ⟨rfl, ⟨_, hs, rfl, rfl, fun b hb => hb, fun b hb => hb, fun x y => ?_, fun x y => ?_⟩, f.mono fun b hb => ?_⟩
  · rw [e1 x y, lookS_del]
    by_cases hx : x = a
    · subst hx
      by_cases hy : y = t
      · simp [hy]
      · rw [if_pos rfl, if_neg hy, if_neg (fun q => hy q.2)]
        unfold edgeAt
        rw [hno]
        rfl
    · rw [if_neg hx, if_neg (fun q => hx q.1)]
  · rw [e2 x y, lookS_del]
    by_cases hy : y = t
    · subst hy
      by_cases hx : x = a
      · simp [hx]
      · rw [if_pos rfl, if_neg hx, if_neg (fun q => hx q.1)]
        unfold edgeAt
        rw [hni]
        rfl
    · rw [if_neg hy, if_neg (fun q => hy q.2)]
  · rcases hb with e | e
    · rw [e]; exact St1.mem_outs mo
    · rw [e]; exact St1.mem_inns mi

theorem hit_iff {dir : Bool} {l : Lk} {x y : ByteArray} : l.hit dir x y = true ↔ (l.a = x ∧ l.b = y) ∨ (dir = false ∧ l.a = y ∧ l.b = x) := by
  unfold Lk.hit
  cases dir <;> simp

/-- one pair of ends is another one's edge -/
def Same2 (dir : Bool) (a b x y : ByteArray) : Prop := (x = a ∧ y = b) ∨ (dir = false ∧ x = b ∧ y = a)

theorem hit_same {dir : Bool} {l : Lk} {a b x y : ByteArray} (h : Same2 dir a b x y) : l.hit dir x y = l.hit dir a b := by
  rcases h with ⟨rfl, rfl⟩ | ⟨rfl, rfl, rfl⟩
  · rfl
  · exact hit_false_swap

theorem hit_both {dir : Bool} {l : Lk} {a b x y : ByteArray} (h1 : l.hit dir x y = true) (h2 : l.hit dir a b = true) : Same2 dir a b x y := by
  rcases hit_iff.1 h1 with ⟨e1, e2⟩ | ⟨d, e1, e2⟩ <;> rcases hit_iff.1 h2 with ⟨f1, f2⟩ | ⟨_, f1, f2⟩
  · exact .inl ⟨e1.symm.trans f1, e2.symm.trans f2⟩
  · rename_i d'; exact .inr ⟨d', e1.symm.trans f1, e2.symm.trans f2⟩
  · exact .inr ⟨d, e2.symm.trans f2, e1.symm.trans f1⟩
  · exact .inl ⟨e2.symm.trans f2, e1.symm.trans f1⟩

/-- the edges without one -/
def rmL (dir : Bool) (lks : List Lk) (a b : ByteArray) : List Lk := lks.filter fun l => !l.hit dir a b

theorem findL_rm_same {dir : Bool} (lks : List Lk) {a b x y : ByteArray} (h : Same2 dir a b x y) : findL dir (rmL dir lks a b) x y = none := by
  rw [findL_none]
  intro l hl
  have := (List.mem_filter.1 hl).2
  rw [hit_same h]
  simpa using this

theorem findL_rm_other {dir : Bool} {a b x y : ByteArray} (h : ¬ Same2 dir a b x y) : ∀ lks : List Lk, findL dir (rmL dir lks a b) x y = findL dir lks x y
  | [] => rfl
  | l :: lks => by
    have ih := findL_rm_other h lks
    unfold findL rmL at ih ⊢
    cases hx : l.hit dir x y with
    | true =>
      have hc : l.hit dir a b = false := by
        cases hc : l.hit dir a b with
        | false => rfl
        | true => exact absurd (hit_both hx hc) h
      simp [hx, hc]
    | false =>
      cases hc : l.hit dir a b with
      | true => simpa [hx, hc] using ih
      | false => simpa [hx, hc] using ih

/-- An edge is taken out: the graph behind it. -/
theorem GRep.rmE {w w' : World} {G : GS} (h : GRep w G) (a b : ByteArray) {c' : St1} (hs : SRep w' G.sB c') (hvs : c'.vs = G.c.vs) (hps : c'.ps = G.c.ps) (hown : ∀ k ∈ c'.own, k ∈ G.c.own) (f : Fr (· ∈ G.c.own) w w')
    (out : ∀ x y, Same2 G.dir a b x y → edgeAt c'.outs c'.inn x y = none) (out' : ∀ x y, ¬ Same2 G.dir a b x y → edgeAt c'.outs c'.inn x y = edgeAt G.c.outs G.c.inn x y)
    (inn : ∀ x y, Same2 G.dir a b x y → edgeAt c'.inns c'.inn y x = none) (inn' : ∀ x y, ¬ Same2 G.dir a b x y → edgeAt c'.inns c'.inn y x = edgeAt G.c.inns G.c.inn y x) :
    GStep w G w' { G with c := c', lks := rmL G.dir G.lks a b } := by
  have lo := h.latOk
  have sub : ∀ l ∈ rmL G.dir G.lks a b, l ∈ G.lks := fun l hl => (List.mem_filter.1 hl).1
  have mo : ∀ k, k ∈ G.c.own → k ∈ G.own := fun k hk => by
    simp only [GS.own, List.mem_cons, List.mem_append]
    exact .inr (.inr (.inr (.inl hk)))
  have rep : GRep w' { G with c := c', lks := rmL G.dir G.lks a b } := by
    refine h.setL hs hvs hps (fun k hk => .inl (hown k hk)) (f.mono fun k hk => .inl hk) (fun l hl => ⟨(lo.1 l (sub l hl)).1, (lo.1 l (sub l hl)).2, (h.la l (sub l hl)).fr f fun r => (lo.1 l (sub l hl)).2 ?_⟩)
      (List.Nodup.sublist (List.filter_sublist.map _) lo.2) (fun x y => ?_) (fun x y => ?_) (fun l hl => h.ends l (sub l hl)) (fun hd l hl => h.loop hd l (sub l hl)) (List.Pairwise.sublist List.filter_sublist h.lnd)
    · simp only [GS.base, List.mem_cons, List.mem_append]
      exact .inr (.inr (.inr (.inr (.inl r))))
    · by_cases hh : Same2 G.dir a b x y
      · rw [out x y hh, findL_rm_same _ hh]; rfl
      · rw [out' x y hh, findL_rm_other hh]; exact h.out x y
    · by_cases hh : Same2 G.dir a b x y
      · rw [inn x y hh, findL_rm_same _ hh]; rfl
      · rw [inn' x y hh, findL_rm_other hh]; exact h.inn x y
  refine ⟨rep, f.mono fun k hk => mo k hk, fun k hk => .inl ?_, G.same_refl⟩
  simp only [GS.own, List.mem_cons, List.mem_append, List.mem_map] at hk ⊢
  rcases hk with r | r | r | r | r | ⟨l, hl, r⟩
  · exact .inl r
  · exact .inr (.inl r)
  · exact .inr (.inr (.inl r))
  · exact .inr (.inr (.inr (.inl (hown k r))))
  · exact .inr (.inr (.inr (.inr (.inl r))))
  · exact .inr (.inr (.inr (.inr (.inr ⟨l, sub l hl, r⟩))))

theorem RemPost.mono {w w0 w' : World} {s : Nat} {c : St1} {a t : ByteArray} (f : Fr0 w w0) (h : RemPost w0 s c a t w') : RemPost w s c a t w' := ⟨h.1, (f.mono fun _ q => q.elim).trans h.2 fun _ q => .inl q⟩

theorem drem_step {w w' : World} {G : GS} (h : GRep w G) (hd : G.dir = true) {a b : ByteArray} (p : RemPost w G.sB G.c a b w') : ∃ c', GStep w G w' { G with c := c', lks := rmL G.dir G.lks a b } := by
  obtain ⟨⟨c', s1, s2, s3, s4, _, s5, s6⟩, f⟩ := p
  have hh : ∀ x y, Same2 G.dir a b x y ↔ (x = a ∧ y = b) := fun x y => by unfold Same2; rw [hd]; simp
  exact ⟨c', h.rmE a b s1 s2 s3 s4 f (fun x y q => by rw [s5, if_pos ((hh x y).1 q)]) (fun x y q => by rw [s5, if_neg (fun r => q ((hh x y).2 r))]) (fun x y q => by rw [s6, if_pos ((hh x y).1 q)]) (fun x y q => by rw [s6, if_neg (fun r => q ((hh x y).2 r))])⟩

theorem urem_step {w w1 w' : World} {G : GS} (h : GRep w G) (hd : G.dir = false) {a b : ByteArray} {c1 : St1} (f1 : Fr (· ∈ G.c.own) w w1) (s2 : c1.vs = G.c.vs) (s3 : c1.ps = G.c.ps) (s4 : ∀ k ∈ c1.own, k ∈ G.c.own)
    (s5 : ∀ x y, edgeAt c1.outs c1.inn x y = if x = a ∧ y = b then none else edgeAt G.c.outs G.c.inn x y) (s6 : ∀ x y, edgeAt c1.inns c1.inn y x = if x = a ∧ y = b then none else edgeAt G.c.inns G.c.inn y x)
    (p : RemPost w1 G.sB c1 b a w') : ∃ c', GStep w G w' { G with c := c', lks := rmL G.dir G.lks a b } := by
  obtain ⟨⟨c', t1, t2, t3, t4, _, t5, t6⟩, f⟩ := p
  have hh : ∀ x y, Same2 G.dir a b x y ↔ (x = a ∧ y = b) ∨ (x = b ∧ y = a) := fun x y => by unfold Same2; rw [hd]; simp
  refine ⟨c', h.rmE a b t1 (t2.trans s2) (t3.trans s3) (fun k hk => s4 k (t4 k hk)) (f1.trans f fun k hk => .inl (s4 k hk)) (fun x y q => ?_) (fun x y q => ?_) (fun x y q => ?_) (fun x y q => ?_)⟩
  · rw [t5, s5]
    rcases (hh x y).1 q with r | r
    · simp [r]
    · simp [r]
  · rw [t5, s5, if_neg (fun r => q ((hh x y).2 (.inr r))), if_neg (fun r => q ((hh x y).2 (.inl r)))]
  · rw [t6, s6]
    rcases (hh x y).1 q with r | r
    · simp [r]
    · simp [r]
  · rw [t6, s6, if_neg (fun r => q ((hh x y).2 (.inr r))), if_neg (fun r => q ((hh x y).2 (.inl r)))]

/-- what RemoveEdge does -/
def RmEPost (w : World) (G : GS) (eb : Nat → Addr) (a b : ByteArray) (e : Ending) (w' : World) : Prop :=
  ∃ ev : EV, ev.ok ∧ e = .returned (ev.val eb) ∧ ((findL G.dir G.lks a b = none ∧ ev.code = 5 ∧ GStep w G w' G) ∨ (findL G.dir G.lks a b ≠ none ∧ ev.code = 0 ∧ ∃ c', GStep w G w' { G with c := c', lks := rmL G.dir G.lks a b }))

set_option maxRecDepth 100000 in
set_option maxHeartbeats 1000000 in
theorem dreme_no (w : World) (G : GS) (h : GRep w G) (B : Nat) (eb : Nat → Addr) (E : ErrsOk w B eb) (a b : ByteArray) (hl : findL G.dir G.lks a b = none) :
    Calls Tryz.prog 183 #[.pointer (some ⟨G.gB, 0, none⟩), .string a, .string b] w fun e w' => RmEPost w G eb a b e w' := by
  have HE := Lib.hid (dedge_no w G h  B eb E a b hl)
  have HG := Lib.hid h
  have HL := Lib.hid hl
  clear h E hl
  go_enter Tryz.func183, Tryz.ntmps183
  go_wp2_with (first
    | (go_at_call 179; refine HE.out.mono ?_; rintro e w1 ⟨rfl, f1⟩; have F1 := Lib.hid f1; clear f1))
  go_ret
  exact ⟨.e 4, by simp [EV.ok], rfl, .inl ⟨HL.out, rfl, GStep.refl HG.out (F1.out.alloc _)⟩⟩

set_option maxRecDepth 100000 in
set_option maxHeartbeats 1000000 in
theorem ureme_no (w : World) (G : GS) (h : GRep w G)(hd : G.dir = false) (B : Nat) (eb : Nat → Addr) (E : ErrsOk w B eb) (a b : ByteArray) (hl : findL G.dir G.lks a b = none) :
    Calls Tryz.prog 208 #[.pointer (some ⟨G.gB, 0, none⟩), .string a, .string b] w fun e w' => RmEPost w G eb a b e w' := by
  have HE := Lib.hid (uedge_no w G h hd B eb E a b hl)
  have HG := Lib.hid h
  have HL := Lib.hid hl
  clear h E hl
  go_enter Tryz.func208, Tryz.ntmps208
  go_wp2_with (first
    | (go_at_call 204; refine HE.out.mono ?_; rintro e w1 ⟨rfl, f1⟩; have F1 := Lib.hid f1; clear f1))
  go_ret
  exact ⟨.e 4, by simp [EV.ok], rfl, .inl ⟨HL.out, rfl, GStep.refl HG.out (F1.out.alloc _)⟩⟩

set_option maxRecDepth 100000 in
set_option maxHeartbeats 1000000 in
theorem dreme_yes (w : World) (G : GS) (h : GRep w G) (hd : G.dir = true) (eb : Nat → Addr) (a b : ByteArray) (l : Lk) (hl : findL G.dir G.lks a b = some l) :
    Calls Tryz.prog 183 #[.pointer (some ⟨G.gB, 0, none⟩), .string a, .string b] w fun e w' => RmEPost w G eb a b e w' := by
  obtain ⟨⟨p, hpa⟩, q, hpb⟩ := h.ends_find hl
  have HE := Lib.hid (dedge_yes w G h a b l p q hl hpa hpb)
  have HG := Lib.hid (And.intro h (And.intro hd hl))
  have mR := mRemoveEdge
  clear h hd hl hpa hpb
  go_enter Tryz.func183, Tryz.ntmps183
  go_wp2_with fail
  refine HE.out.mono ?_
  rintro e w1 ⟨rfl, f1⟩
  have F2 := Lib.hid (f1.alloc (.cells #[.string p.v, .string q.v, .map (some l.at_), .int .i64 l.wt, .nilIface] 144))
  have HR := Lib.hid (HG.out.1.fr F2.out (fun _ _ q => q) (fun q => q))
  have g2 := HR.out.facts.1.2.2
  have l0 := HR.out.facts.2.2.1
  clear f1
  go_wp2_with fail
  refine (sreme _ G.sB G.c HR.out.s a b (by rw [HR.out.out, HG.out.2.2]; rfl) (by rw [HR.out.inn, HG.out.2.2]; rfl)).mono ?_
  rintro e w3 ⟨rfl, rp⟩
  have RP := Lib.hid rp
  clear rp
  go_wp2_with fail
  go_ret
  obtain ⟨c', g⟩ := drem_step HG.out.1 HG.out.2.1 (RP.out.mono F2.out)
  exact ⟨.nil, trivial, rfl, .inr ⟨by rw [HG.out.2.2]; simp, rfl, c', g⟩⟩

set_option maxRecDepth 100000 in
set_option maxHeartbeats 1000000 in
theorem ureme_yes (w : World) (G : GS) (h : GRep w G) (hd : G.dir = false) (B : Nat) (eb : Nat → Addr) (E : ErrsOk w B eb) (a b : ByteArray) (l : Lk) (hl : findL G.dir G.lks a b = some l) :
    Calls Tryz.prog 208 #[.pointer (some ⟨G.gB, 0, none⟩), .string a, .string b] w fun e w' => RmEPost w G eb a b e w' := by
  obtain ⟨⟨p, hpa⟩, q, hpb⟩ := h.ends_find hl
  have HE := Lib.hid (uedge_yes w G h B eb E a b l p q hl hpa hpb)
  have hsw : findL G.dir G.lks b a = some l := by rw [hd] at hl ⊢; rw [findL_swap]; exact hl
  have hab : a ≠ b := by
    obtain ⟨hm, hh⟩ := findL_mem hl
    have := h.loop hd l hm
    rcases hit_cases hh with ⟨e1, e2⟩ | ⟨_, e1, e2⟩
    · exact fun e => this (e1.trans (e.trans e2.symm))
    · exact fun e => this (e1.trans (e.symm.trans e2.symm))
  have HG := Lib.hid (And.intro h (And.intro hd (And.intro hl (And.intro hsw hab))))
  have mR := mRemoveEdge
  clear h hd hl hpa hpb E hsw hab
  go_enter Tryz.func208, Tryz.ntmps208
  go_wp2_with fail
  refine HE.out.mono ?_
  rintro e w1 ⟨rfl, f1⟩
  have F2 := Lib.hid (f1.alloc (.cells #[.string p.v, .string q.v, .map (some l.at_), .int .i64 l.wt, .nilIface] 144))
  have HR := Lib.hid (HG.out.1.fr F2.out (fun _ _ q => q) (fun q => q))
  have g2 := HR.out.facts.1.2.2
  have l0 := HR.out.facts.2.2.1
  clear f1
  go_wp2_with fail
  refine (sreme _ G.sB G.c HR.out.s a b (by rw [HR.out.out, HG.out.2.2.1]; rfl) (by rw [HR.out.inn, HG.out.2.2.1]; rfl)).mono ?_
  rintro e w3 ⟨rfl, ⟨c1, s1, s2, s3, s4, s4', s5, s6⟩, f3⟩
  have C := Lib.hid (And.intro s1 (And.intro s2 (And.intro s3 (And.intro s4 (And.intro s5 (And.intro s6 f3))))))
  have gn := HG.out.1.nd
  have gl : G.gB ∉ G.c.own := by
    simp only [GS.own, List.nodup_cons, List.mem_cons, List.mem_append, not_or] at gn
    exact gn.1.2.2.1
  have g2' := (HR.out.g.fr f3 gl).cell 2 _ rfl
  have l0' := (HR.out.g.fr f3 gl).lt
  clear s1 s2 s3 s4 s4' s5 s6 f3 gn gl g2 l0
  go_wp2_with fail
  refine (sreme _ G.sB c1 C.out.1 b a (by rw [C.out.2.2.2.2.1, if_neg (fun q => HG.out.2.2.2.2 q.1.symm), HR.out.out, HG.out.2.2.2.1]; rfl) (by rw [C.out.2.2.2.2.2.1, if_neg (fun q => HG.out.2.2.2.2 q.1.symm), HR.out.inn, HG.out.2.2.2.1]; rfl)).mono ?_
  rintro e w4 ⟨rfl, rp⟩
  have RP := Lib.hid rp
  clear rp
  go_wp2_with fail
  go_ret
  obtain ⟨c', g⟩ := urem_step HG.out.1 HG.out.2.1 ((F2.out.mono fun _ q => q.elim).trans C.out.2.2.2.2.2.2 fun _ q => .inl q) C.out.2.1 C.out.2.2.1 C.out.2.2.2.1 C.out.2.2.2.2.1 C.out.2.2.2.2.2.1 RP.out
  exact ⟨.nil, trivial, rfl, .inr ⟨by rw [HG.out.2.2.1]; simp, rfl, c', g⟩⟩

theorem dreme (w : World) (G : GS) (h : GRep w G) (hd : G.dir = true) (B : Nat) (eb : Nat → Addr) (E : ErrsOk w B eb) (a b : ByteArray) :
    Calls Tryz.prog 183 #[.pointer (some ⟨G.gB, 0, none⟩), .string a, .string b] w fun e w' => RmEPost w G eb a b e w' := by
  cases hl : findL G.dir G.lks a b with
  | none => exact dreme_no w G h  B eb E a b hl
  | some l => exact dreme_yes w G h hd eb a b l hl

theorem ureme (w : World) (G : GS) (h : GRep w G) (hd : G.dir = false) (B : Nat) (eb : Nat → Addr) (E : ErrsOk w B eb) (a b : ByteArray) :
    Calls Tryz.prog 208 #[.pointer (some ⟨G.gB, 0, none⟩), .string a, .string b] w fun e w' => RmEPost w G eb a b e w' := by
  cases hl : findL G.dir G.lks a b with
  | none => exact ureme_no w G h hd B eb E a b hl
  | some l => exact ureme_yes w G h hd B eb E a b l hl

end Go.Proofs.YtbafaadmlpamiaaGreatDoor
