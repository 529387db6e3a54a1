/- The graphs: UpdateEdge, the walks. -/
import Derived.Test.YtbafaadmlpamiaaGreatDoorUpdE
namespace Go.Proofs.YtbafaadmlpamiaaGreatDoor
open Go Go.Hy Go.RowKit

theorem fr_undrew {S : Nat → Prop} {w w' : World} (h : Fr S w.drew w') : Fr S w w' := ⟨h.os, h.tape, h.output, h.size, h.block⟩

/-- an option's boxes lie apart from a map that is written -/
theorem ok_apart {w wr : World} {o : Opt} {pb mb : Nat} {es : Ents} (h : o.ok w) (hm : SM w mb es) (hp : w.heap.size ≤ pb) (f : Fr (fun k => k = pb ∨ k = mb) w wr) : o.ok wr := by
  have keep : ∀ k x, w.cell? ⟨k, 0, none⟩ = some x → wr.cell? ⟨k, 0, none⟩ = some x := fun k x hx => by
    have l := World.block_lt_of_cell? w _ hx
    simp only at l
    rw [f.cell (p := ⟨k, 0, none⟩) l]
    · exact hx
    · rintro (q | q)
      · simp only at q; omega
      · simp only at q
        rw [q, sm_nocell hm] at hx
        cases hx
  cases o with
  | wt m kb => exact keep kb _ h
  | at_ x y bv bk => exact ⟨keep bv _ h.1, keep bk _ h.2⟩

theorem AddPost.ownk {w w' : World} {s : Nat} {c : St1} {a t : ByteArray} {v : Value} (p : AddPost w s c a t v w') : ∃ c', SRep w' s c' ∧ c'.vs = c.vs ∧ c'.ps = c.ps ∧ (∀ b ∈ c'.own, b ∈ c.own ∨ w.heap.size ≤ b) ∧
      (∀ x y, edgeAt c'.outs c'.inn x y = if x = a ∧ y = t then some v else edgeAt c.outs c.inn x y) ∧
      (∀ x y, edgeAt c'.inns c'.inn y x = if x = a ∧ y = t then some v else edgeAt c.inns c.inn y x) ∧ Fr (· ∈ c.own) w w' := by
  obtain ⟨⟨c', s1, s2, s3, s4, s5, s6⟩, f⟩ := p
  exact ⟨c', s1, s2, s3, s4, s5, s6, f⟩

theorem supde {w : World} {s : Nat} {c : St1} (h : SRep w s c) {a t x y : ByteArray} {at_ at' : Nat} {wt wt' : Int} (ho : edgeAt c.outs c.inn a t = some (ev a t at' wt')) {v' : Value} (hi : edgeAt c.inns c.inn t a = some v') :
    Calls Tryz.prog 224 #[.pointer (some ⟨s, 0, none⟩), .string a, .string t, ev x y at_ wt] w fun e w' => e = .returned .nilIface ∧ AddPost w s c a t (ev x y at_ wt) w' := by
  obtain ⟨ni, hni⟩ := edgeAt_find hi
  unfold edgeAt at ho
  obtain ⟨no, h1, h2⟩ := Option.bind_eq_some_iff.1 ho
  exact upde_yes w s c h a t x y at_ wt no ni h1 hni a t at' wt' h2

theorem dupd_step {w wr w' : World} {G : GS} (h : GRep w G) (hd : G.dir = true) {a b : ByteArray} {l : Lk} (hl : findL G.dir G.lks a b = some l) (s : PS) {pb : Nat} (hpb : w.heap.size ≤ pb) (f : Fr (fun k => k = pb ∨ k = l.at_) w wr) (hm : SM wr l.at_ (ats s.2))
    (p : AddPost wr G.sB G.c a b (ev a b l.at_ s.1) w') : ∃ c', GStep w G w' { G with c := c', lks := updL G.dir G.lks a b s } := by
  obtain ⟨c', s1, s2, s3, s4, s5, s6, f'⟩ := p.ownk
  have hh : ∀ x y, Same2 G.dir a b x y ↔ (x = a ∧ y = b) := fun x y => by unfold Same2; rw [hd]; simp
  have ln : l.at_ ∉ G.c.own := fun q => by
    have := (h.latOk.1 l (findL_mem hl).1).2
    simp only [GS.base, List.mem_cons, List.mem_append, not_or] at this
    exact this.2.2.2.2.1 q
  refine ⟨c', h.updE hl s s1 s2 s3 (fun k hk => (s4 k hk).imp id fun q => Nat.le_trans f.size q) ?_ (hm.fr f' ln) (fun x y q => ?_) (fun x y q => ?_) (fun x y q => ?_) (fun x y q => ?_)⟩
  · refine (f.shrink fun k hk => ?_).trans f' fun k hk => .inl (.inl hk)
    rcases hk with q | q
    · exact .inr (by omega)
    · exact .inl (.inr q)
  · obtain ⟨rfl, rfl⟩ := (hh x y).1 q
    rw [s5, if_pos ⟨rfl, rfl⟩]
  · rw [s5, if_neg (fun r => q ((hh x y).2 r))]
  · obtain ⟨rfl, rfl⟩ := (hh x y).1 q
    rw [s6, if_pos ⟨rfl, rfl⟩]
  · rw [s6, if_neg (fun r => q ((hh x y).2 r))]

theorem uupd_step {w wr w1 w' : World} {G : GS} (h : GRep w G) (hd : G.dir = false) {a b : ByteArray} {l : Lk} (hl : findL G.dir G.lks a b = some l) (hab : a ≠ b) (s : PS) {pb : Nat} (hpb : w.heap.size ≤ pb) (f : Fr (fun k => k = pb ∨ k = l.at_) w wr) (hm : SM wr l.at_ (ats s.2))
    {c1 : St1} (t2 : c1.vs = G.c.vs) (t3 : c1.ps = G.c.ps) (t4 : ∀ k ∈ c1.own, k ∈ G.c.own ∨ wr.heap.size ≤ k)
    (t5 : ∀ x y, edgeAt c1.outs c1.inn x y = if x = a ∧ y = b then some (ev a b l.at_ s.1) else edgeAt G.c.outs G.c.inn x y) (t6 : ∀ x y, edgeAt c1.inns c1.inn y x = if x = a ∧ y = b then some (ev a b l.at_ s.1) else edgeAt G.c.inns G.c.inn y x)
    (f1 : Fr (· ∈ G.c.own) wr w1) (p : AddPost w1 G.sB c1 b a (ev b a l.at_ s.1) w') : ∃ c', GStep w G w' { G with c := c', lks := updL G.dir G.lks a b s } := by
  obtain ⟨c', s1, s2, s3, s4, s5, s6, f'⟩ := p.ownk
  have hh : ∀ x y, Same2 G.dir a b x y ↔ (x = a ∧ y = b) ∨ (x = b ∧ y = a) := fun x y => by unfold Same2; rw [hd]; simp
  have ln : l.at_ ∉ G.c.own := fun q => by
    have := (h.latOk.1 l (findL_mem hl).1).2
    simp only [GS.base, List.mem_cons, List.mem_append, not_or] at this
    exact this.2.2.2.2.1 q
  have ll : l.at_ < wr.heap.size := hm.lt
  have f2 : Fr (fun k => k ∈ G.c.own) wr w' := f1.trans f' fun k hk => t4 k hk
  have sz := f.size
  have sz1 := f1.size
  refine ⟨c', h.updE hl s s1 (s2.trans t2) (s3.trans t3) (fun k hk => ?_) ?_ (hm.fr f2 ln) (fun x y q => ?_) (fun x y q => ?_) (fun x y q => ?_) (fun x y q => ?_)⟩
  · rcases s4 k hk with q | q
    · exact (t4 k q).imp id fun q => by omega
    · exact .inr (by omega)
  · refine (f.shrink fun k hk => ?_).trans f2 fun k hk => .inl (.inl hk)
    rcases hk with q | q
    · exact .inr (by omega)
    · exact .inl (.inr q)
  · rw [s5, t5]
    rcases (hh x y).1 q with ⟨rfl, rfl⟩ | ⟨rfl, rfl⟩
    · rw [if_neg (fun r => hab r.1), if_pos ⟨rfl, rfl⟩]
    · rw [if_pos ⟨rfl, rfl⟩]
  · rw [s5, t5, if_neg (fun r => q ((hh x y).2 (.inr r))), if_neg (fun r => q ((hh x y).2 (.inl r)))]
  · rw [s6, t6]
    rcases (hh x y).1 q with ⟨rfl, rfl⟩ | ⟨rfl, rfl⟩
    · rw [if_neg (fun r => hab r.1), if_pos ⟨rfl, rfl⟩]
    · rw [if_pos ⟨rfl, rfl⟩]
  · rw [s6, t6, if_neg (fun r => q ((hh x y).2 (.inr r))), if_neg (fun r => q ((hh x y).2 (.inl r)))]

/-- what UpdateEdge does -/
def UpdPost (w : World) (G : GS) (eb : Nat → Addr) (a b : ByteArray) (os : List Opt) (e : Ending) (w' : World) : Prop :=
  ∃ ev : EV, ev.ok ∧ e = .returned (ev.val eb) ∧ ((findL G.dir G.lks a b = none ∧ ev.code = 5 ∧ GStep w G w' G) ∨ ∃ l, findL G.dir G.lks a b = some l ∧ ev.code = 0 ∧ ∃ c', GStep w G w' { G with c := c', lks := updL G.dir G.lks a b (os.foldl Opt.app (l.wt, l.es)) })

set_option maxRecDepth 100000 in
set_option maxHeartbeats 1000000 in
theorem dupd_no (w : World) (G : GS) (h : GRep w G) (B : Nat) (eb : Nat → Addr) (E : ErrsOk w B eb) (a b : ByteArray) (ov : Value) (os : List Opt) (hl : findL G.dir G.lks a b = none) :
    Calls Tryz.prog 187 #[.pointer (some ⟨G.gB, 0, none⟩), .string a, .string b, ov] w fun e w' => UpdPost w G eb a b os e w' := by
  have HE := Lib.hid (sedge_no h E hl)
  have HG := Lib.hid h
  have HL := Lib.hid hl
  have g2 := h.facts.1.2.2
  have l0 := h.facts.2.2.1
  have mE := mEdge
  clear h E hl
  go_enter Tryz.func187, Tryz.ntmps187
  go_wp2_with (first
    | (go_at_call 219; refine HE.out.mono ?_; rintro e w1 ⟨rfl, f1⟩; have F1 := Lib.hid f1; clear f1))
  go_ret
  exact ⟨.e 4, by simp [EV.ok], rfl, .inl ⟨HL.out, rfl, GStep.refl HG.out (F1.out.alloc _)⟩⟩

set_option maxRecDepth 100000 in
set_option maxHeartbeats 1000000 in
theorem uupd_no (w : World) (G : GS) (h : GRep w G) (B : Nat) (eb : Nat → Addr) (E : ErrsOk w B eb) (a b : ByteArray) (ov : Value) (os : List Opt) (hl : findL G.dir G.lks a b = none) :
    Calls Tryz.prog 212 #[.pointer (some ⟨G.gB, 0, none⟩), .string a, .string b, ov] w fun e w' => UpdPost w G eb a b os e w' := by
  have HE := Lib.hid (sedge_no h E hl)
  have HG := Lib.hid h
  have HL := Lib.hid hl
  have g2 := h.facts.1.2.2
  have l0 := h.facts.2.2.1
  have mE := mEdge
  clear h E hl
  go_enter Tryz.func212, Tryz.ntmps212
  go_wp2_with (first
    | (go_at_call 219; refine HE.out.mono ?_; rintro e w1 ⟨rfl, f1⟩; have F1 := Lib.hid f1; clear f1))
  go_ret
  exact ⟨.e 4, by simp [EV.ok], rfl, .inl ⟨HL.out, rfl, GStep.refl HG.out (F1.out.alloc _)⟩⟩

set_option maxRecDepth 100000 in
set_option maxHeartbeats 1000000 in
theorem dupd_yes (w : World) (G : GS) (h : GRep w G) (hd : G.dir = true) (eb : Nat → Addr) (a b : ByteArray) (ov : Value) (os : List Opt) (ho : Opts w ov os Opt.eV) (l : Lk) (hl : findL G.dir G.lks a b = some l) :
    Calls Tryz.prog 187 #[.pointer (some ⟨G.gB, 0, none⟩), .string a, .string b, ov] w fun e w' => UpdPost w G eb a b os e w' := by
  have HE := Lib.hid (sedge_yes h hl)
  obtain ⟨ob, cap, rfl, hcap, hcell, hok, hlen⟩ := ho
  have O := Lib.hid (And.intro hcell (And.intro hok (And.intro hcap hlen)))
  have lm := (findL_mem hl).1
  have SML := Lib.hid (h.la l lm)
  have LB := Lib.hid (h.latOk.1 l lm)
  have hsw : True := trivial
  have HG := Lib.hid (And.intro h (And.intro hd (And.intro hl hsw)))
  have g2 := h.facts.1.2.2
  have l0 := h.facts.2.2.1
  have mE := mEdge
  have mU := mUpdateEdge
  clear h hd hl hcell hok hcap hlen lm hsw
  go_enter Tryz.func187, Tryz.ntmps187
  go_wp2_with fail
  refine HE.out.mono ?_
  rintro e w1 ⟨rfl, f1⟩
  have F1 := Lib.hid f1
  clear f1 g2 l0
  go_wp2_with fail
  try go_frame
  have LT := Lib.hid (show ob < w.heap.size ∨ os = [] from by
    cases os with
    | nil => exact .inr rfl
    | cons o os => exact .inl (World.block_lt_of_cell? w _ (O.out.1 0 o rfl)))
  go_loopg [28] os.length (fun k c wr => EL (w1.alloc (.cells #[.string a, .string b, .map (some l.at_), .int .i64 l.wt, .nilIface] 144)) w1.heap.size l.at_ a b (l.wt, l.es) os k c wr)
  case atStart =>
    refine ⟨0, rfl, rfl, Cells.new w1 #[.string a, .string b, .map (some l.at_), .int .i64 l.wt, .nilIface] 144, (SML.out.fr F1.out (fun q => q)).alloc _, Fr.refl _ _⟩
  case round =>
    obtain ⟨i, hk, rfl, hc, hm, f⟩ := hrel
    have A := Lib.hid (And.intro hk (And.intro hc (And.intro hm f)))
    clear hk hc hm f
    have F2 := Lib.hid (show Fr (fun k => k = w1.heap.size ∨ k = l.at_) w wr from ((F1.out.alloc _).mono (fun k q => q.elim)).trans A.out.2.2.2 fun k q => .inl q)
    have ne := Lib.hid (show w1.heap.size ≠ l.at_ from fun q => by have h1 := SML.out.lt; have h2 := F1.out.size; omega)
    by_cases hi : i < os.length
    · have hsm : os.length ≤ 1000000 := O.out.2.2.2
      have hc0 := O.out.1 i os[i] (List.getElem?_eq_getElem hi)
      have hcell := (F2.out.cell (p := ⟨ob, i, none⟩) (by simp only; rcases LT.out with q | q; exact q; rw [q] at hi; simp at hi) (by simp only; have h1 := F1.out.size; rcases LT.out with q | q; (rintro (r | r); omega; rw [r, sm_nocell SML.out] at hc0; cases hc0); rw [q] at hi; simp at hi)).trans hc0
      have hok := ok_apart (O.out.2.1 os[i] (List.getElem_mem hi)) SML.out F1.out.size F2.out
      have hg := List.getElem?_eq_getElem hi
      clear hc0
      generalize os[i] = o at hcell hok hg
      cases o with
      | wt n kb =>
        have HS := Lib.hid hg
        change wr.cell? ⟨ob, i, none⟩ = some (.func (Fn.func 85) #[] #[.pointer (some ⟨kb, 0, none⟩)]) at hcell
        have hok' := Lib.hid (show wr.cell? ⟨kb, 0, none⟩ = some (.int .i64 n) from hok)
        clear hok hg
        go_wp2_with (first
          | (go_at_call 85; refine (ew1 wr _ _ _ _ _ n kb A.out.2.1 hok'.out).mono ?_; rintro e w3 ⟨rfl, hc', f'⟩; have D := Lib.hid (And.intro hc' f'); clear hc' f'))
        have R := EL.wt A.out.1 hi HS.out ne.out A.out.2.2.1 A.out.2.2.2 D.out.1 D.out.2
        go_roundg (gk - 1)
        case measure => exact R.1
        case rel => exact R.2
      | at_ k v bv bk =>
        have HS := Lib.hid hg
        change wr.cell? ⟨ob, i, none⟩ = some (.func (Fn.func 87) #[] #[.pointer (some ⟨bv, 0, none⟩), .pointer (some ⟨bk, 0, none⟩)]) at hcell
        have hok' := Lib.hid (show wr.cell? ⟨bv, 0, none⟩ = some (.string v) ∧ wr.cell? ⟨bk, 0, none⟩ = some (.string k) from hok)
        clear hok hg
        go_wp2_with (first
          | (go_at_call 87; refine (ea1 wr _ _ _ _ _ _ k v bv bk A.out.2.1 A.out.2.2.1 hok'.out.1 hok'.out.2).mono ?_; rintro e w3 ⟨rfl, hm', f'⟩; have D := Lib.hid (And.intro hm' f'); clear hm' f'))
        have R := EL.at_ A.out.1 hi HS.out ne.out A.out.2.1 A.out.2.2.2 D.out.1 D.out.2
        go_roundg (gk - 1)
        case measure => exact R.1
        case rel => exact R.2
    · have hi' : i = os.length := by have := A.out.1; omega
      subst hi'
      have tk : (os.take os.length).foldl Opt.app (l.wt, l.es) = os.foldl Opt.app (l.wt, l.es) := by rw [List.take_length]
      have hc1 := A.out.2.1
      have hm1 := A.out.2.2.1
      rw [tk] at hc1 hm1
      have S1 := Lib.hid (And.intro hc1 hm1)
      clear tk hc1 hm1
      generalize hps : os.foldl Opt.app (l.wt, l.es) = ps at S1
      have HPS := Lib.hid hps
      clear hps
      have LN := Lib.hid (show ∀ k, k ∈ G.own → k ≠ w1.heap.size from fun k hk q => by have h1 := HG.out.1.lt k hk; have h2 := F1.out.size; omega)
      have LO := Lib.hid (show l.at_ ≠ G.gB ∧ l.at_ ≠ G.sB ∧ l.at_ ∉ G.c.own from by
        have := LB.out.2
        simp only [GS.base, List.mem_cons, List.mem_append, not_or] at this
        exact ⟨this.1, this.2.2.1, this.2.2.2.2.1⟩)
      have g2 := (HG.out.1.g.fr F2.out (by rintro (r | r); exact LN.out _ (by simp [GS.own]) r; exact LO.out.1 r.symm)).cell 2 _ rfl
      have l0 := (HG.out.1.g.fr F2.out (by rintro (r | r); exact LN.out _ (by simp [GS.own]) r; exact LO.out.1 r.symm)).lt
      have HS := Lib.hid (show SRep wr G.sB G.c from HG.out.1.s.fr F2.out (by rintro (r | r); exact LN.out _ (by simp [GS.own]) r; exact LO.out.2.1 r.symm) (by rintro k hk (r | r); exact LN.out _ (by simp only [GS.own, List.mem_cons, List.mem_append]; exact .inr (.inr (.inr (.inl hk)))) r; exact LO.out.2.2 (r ▸ hk)))
      have hb0 := S1.out.1.cell 0 _ rfl
      have hb1 := S1.out.1.cell 1 _ rfl
      have hb2 := S1.out.1.cell 2 _ rfl
      have hb3 := S1.out.1.cell 3 _ rfl
      have hb4 := S1.out.1.cell 4 _ rfl
      have hbl := S1.out.1.lt
      go_wp2_with fail
      (refine region_tail 7 (by kernel_rfl) (by kernel_rfl) ?_; simp only [List.take_succ_cons, List.take_zero, List.drop_succ_cons, List.drop_zero]; (repeat still_step); refine wpStill_nil ?_)
      go_wp2_with fail
      refine (supde (show SRep wr.drew G.sB G.c from HS.out.drew) (by rw [HG.out.1.out, HG.out.2.2.1]; rfl) (v' := ev a b l.at_ l.wt) (by rw [HG.out.1.inn, HG.out.2.2.1]; rfl)).mono ?_
      rintro e w4 ⟨rfl, rp⟩
      have RP := Lib.hid rp
      clear rp
      go_wp2_with fail
      go_ret
      obtain ⟨c', g⟩ := dupd_step HG.out.1 HG.out.2.1 HG.out.2.2.1 ps F1.out.size F2.out.drew S1.out.2.drew RP.out
      exact ⟨.nil, trivial, rfl, .inr ⟨l, HG.out.2.2.1, rfl, c', by rw [HPS.out]; exact g⟩⟩

set_option maxRecDepth 100000 in
set_option maxHeartbeats 1000000 in
theorem uupd_yes (w : World) (G : GS) (h : GRep w G) (hd : G.dir = false) (eb : Nat → Addr) (a b : ByteArray) (ov : Value) (os : List Opt) (ho : Opts w ov os Opt.eV) (l : Lk) (hl : findL G.dir G.lks a b = some l) :
    Calls Tryz.prog 212 #[.pointer (some ⟨G.gB, 0, none⟩), .string a, .string b, ov] w fun e w' => UpdPost w G eb a b os e w' := by
  have HE := Lib.hid (sedge_yes h hl)
  obtain ⟨ob, cap, rfl, hcap, hcell, hok, hlen⟩ := ho
  have O := Lib.hid (And.intro hcell (And.intro hok (And.intro hcap hlen)))
  have lm := (findL_mem hl).1
  have SML := Lib.hid (h.la l lm)
  have LB := Lib.hid (h.latOk.1 l lm)
  have hsw : findL G.dir G.lks b a = some l ∧ a ≠ b := by
    refine ⟨?_, ?_⟩
    · have hl' := hl
      rw [hd] at hl' ⊢
      exact (findL_swap _ _ _).trans hl'
    · have hne := h.loop hd l lm
      rcases hit_cases (findL_mem hl).2 with ⟨e1, e2⟩ | ⟨_, e1, e2⟩
      · exact fun e => hne (e1.trans (e.trans e2.symm))
      · exact fun e => hne (e1.trans (e.symm.trans e2.symm))
  have HG := Lib.hid (And.intro h (And.intro hd (And.intro hl hsw)))
  have g2 := h.facts.1.2.2
  have l0 := h.facts.2.2.1
  have mE := mEdge
  have mU := mUpdateEdge
  clear h hd hl hcell hok hcap hlen lm hsw
  go_enter Tryz.func212, Tryz.ntmps212
  go_wp2_with fail
  refine HE.out.mono ?_
  rintro e w1 ⟨rfl, f1⟩
  have F1 := Lib.hid f1
  clear f1 g2 l0
  go_wp2_with fail
  try go_frame
  have LT := Lib.hid (show ob < w.heap.size ∨ os = [] from by
    cases os with
    | nil => exact .inr rfl
    | cons o os => exact .inl (World.block_lt_of_cell? w _ (O.out.1 0 o rfl)))
  go_loopg [30] os.length (fun k c wr => EL (w1.alloc (.cells #[.string a, .string b, .map (some l.at_), .int .i64 l.wt, .nilIface] 144)) w1.heap.size l.at_ a b (l.wt, l.es) os k c wr)
  case atStart =>
    refine ⟨0, rfl, rfl, Cells.new w1 #[.string a, .string b, .map (some l.at_), .int .i64 l.wt, .nilIface] 144, (SML.out.fr F1.out (fun q => q)).alloc _, Fr.refl _ _⟩
  case round =>
    obtain ⟨i, hk, rfl, hc, hm, f⟩ := hrel
    have A := Lib.hid (And.intro hk (And.intro hc (And.intro hm f)))
    clear hk hc hm f
    have F2 := Lib.hid (show Fr (fun k => k = w1.heap.size ∨ k = l.at_) w wr from ((F1.out.alloc _).mono (fun k q => q.elim)).trans A.out.2.2.2 fun k q => .inl q)
    have ne := Lib.hid (show w1.heap.size ≠ l.at_ from fun q => by have h1 := SML.out.lt; have h2 := F1.out.size; omega)
    by_cases hi : i < os.length
    · have hsm : os.length ≤ 1000000 := O.out.2.2.2
      have hc0 := O.out.1 i os[i] (List.getElem?_eq_getElem hi)
      have hcell := (F2.out.cell (p := ⟨ob, i, none⟩) (by simp only; rcases LT.out with q | q; exact q; rw [q] at hi; simp at hi) (by simp only; have h1 := F1.out.size; rcases LT.out with q | q; (rintro (r | r); omega; rw [r, sm_nocell SML.out] at hc0; cases hc0); rw [q] at hi; simp at hi)).trans hc0
      have hok := ok_apart (O.out.2.1 os[i] (List.getElem_mem hi)) SML.out F1.out.size F2.out
      have hg := List.getElem?_eq_getElem hi
      clear hc0
      generalize os[i] = o at hcell hok hg
      cases o with
      | wt n kb =>
        have HS := Lib.hid hg
        change wr.cell? ⟨ob, i, none⟩ = some (.func (Fn.func 85) #[] #[.pointer (some ⟨kb, 0, none⟩)]) at hcell
        have hok' := Lib.hid (show wr.cell? ⟨kb, 0, none⟩ = some (.int .i64 n) from hok)
        clear hok hg
        go_wp2_with (first
          | (go_at_call 85; refine (ew1 wr _ _ _ _ _ n kb A.out.2.1 hok'.out).mono ?_; rintro e w3 ⟨rfl, hc', f'⟩; have D := Lib.hid (And.intro hc' f'); clear hc' f'))
        have R := EL.wt A.out.1 hi HS.out ne.out A.out.2.2.1 A.out.2.2.2 D.out.1 D.out.2
        go_roundg (gk - 1)
        case measure => exact R.1
        case rel => exact R.2
      | at_ k v bv bk =>
        have HS := Lib.hid hg
        change wr.cell? ⟨ob, i, none⟩ = some (.func (Fn.func 87) #[] #[.pointer (some ⟨bv, 0, none⟩), .pointer (some ⟨bk, 0, none⟩)]) at hcell
        have hok' := Lib.hid (show wr.cell? ⟨bv, 0, none⟩ = some (.string v) ∧ wr.cell? ⟨bk, 0, none⟩ = some (.string k) from hok)
        clear hok hg
        go_wp2_with (first
          | (go_at_call 87; refine (ea1 wr _ _ _ _ _ _ k v bv bk A.out.2.1 A.out.2.2.1 hok'.out.1 hok'.out.2).mono ?_; rintro e w3 ⟨rfl, hm', f'⟩; have D := Lib.hid (And.intro hm' f'); clear hm' f'))
        have R := EL.at_ A.out.1 hi HS.out ne.out A.out.2.1 A.out.2.2.2 D.out.1 D.out.2
        go_roundg (gk - 1)
        case measure => exact R.1
        case rel => exact R.2
    · have hi' : i = os.length := by have := A.out.1; omega
      subst hi'
      have tk : (os.take os.length).foldl Opt.app (l.wt, l.es) = os.foldl Opt.app (l.wt, l.es) := by rw [List.take_length]
      have hc1 := A.out.2.1
      have hm1 := A.out.2.2.1
      rw [tk] at hc1 hm1
      have S1 := Lib.hid (And.intro hc1 hm1)
      clear tk hc1 hm1
      generalize hps : os.foldl Opt.app (l.wt, l.es) = ps at S1
      have HPS := Lib.hid hps
      clear hps
      have LN := Lib.hid (show ∀ k, k ∈ G.own → k ≠ w1.heap.size from fun k hk q => by have h1 := HG.out.1.lt k hk; have h2 := F1.out.size; omega)
      have LO := Lib.hid (show l.at_ ≠ G.gB ∧ l.at_ ≠ G.sB ∧ l.at_ ∉ G.c.own from by
        have := LB.out.2
        simp only [GS.base, List.mem_cons, List.mem_append, not_or] at this
        exact ⟨this.1, this.2.2.1, this.2.2.2.2.1⟩)
      have g2 := (HG.out.1.g.fr F2.out (by rintro (r | r); exact LN.out _ (by simp [GS.own]) r; exact LO.out.1 r.symm)).cell 2 _ rfl
      have l0 := (HG.out.1.g.fr F2.out (by rintro (r | r); exact LN.out _ (by simp [GS.own]) r; exact LO.out.1 r.symm)).lt
      have HS := Lib.hid (show SRep wr G.sB G.c from HG.out.1.s.fr F2.out (by rintro (r | r); exact LN.out _ (by simp [GS.own]) r; exact LO.out.2.1 r.symm) (by rintro k hk (r | r); exact LN.out _ (by simp only [GS.own, List.mem_cons, List.mem_append]; exact .inr (.inr (.inr (.inl hk)))) r; exact LO.out.2.2 (r ▸ hk)))
      have hb0 := S1.out.1.cell 0 _ rfl
      have hb1 := S1.out.1.cell 1 _ rfl
      have hb2 := S1.out.1.cell 2 _ rfl
      have hb3 := S1.out.1.cell 3 _ rfl
      have hb4 := S1.out.1.cell 4 _ rfl
      have hbl := S1.out.1.lt
      go_wp2_with fail
      (refine region_tail 7 (by kernel_rfl) (by kernel_rfl) ?_; simp only [List.take_succ_cons, List.take_zero, List.drop_succ_cons, List.drop_zero]; (repeat still_step); refine wpStill_nil ?_)
      go_wp2_with fail
      refine (supde (show SRep wr.drew G.sB G.c from HS.out.drew) (by rw [HG.out.1.out, HG.out.2.2.1]; rfl) (v' := ev a b l.at_ l.wt) (by rw [HG.out.1.inn, HG.out.2.2.1]; rfl)).mono ?_
      rintro e w4 ⟨rfl, rp⟩
      obtain ⟨c1, s1, s2, s3, s4, s5, s6, f4⟩ := rp.ownk
      have C := Lib.hid (And.intro s1 (And.intro s2 (And.intro s3 (And.intro s4 (And.intro s5 (And.intro s6 f4))))))
      clear rp s1 s2 s3 s4 s5 s6 f4
      clear hb0 hb1 hb2 hb3 hb4 hbl g2 l0
      have LC := Lib.hid (show ∀ k, k ∈ G.c.own → k ∈ G.own from fun k hk => by simp only [GS.own, List.mem_cons, List.mem_append]; exact .inr (.inr (.inr (.inl hk))))
      have F4 := Lib.hid (fr_undrew C.out.2.2.2.2.2.2)
      have B4 := Lib.hid (S1.out.1.fr F4.out (fun q => LN.out _ (LC.out _ q) rfl))
      have GC := Lib.hid ((HG.out.1.g.fr F2.out (by rintro (r | r); exact LN.out _ (by simp [GS.own]) r; exact LO.out.1 r.symm)).fr F4.out (fun q => by have hn := HG.out.1.nd; simp only [GS.own, List.nodup_cons, List.mem_cons, List.mem_append, not_or] at hn; exact hn.1.2.2.1 q))
      have g2 := GC.out.cell 2 _ rfl
      have l0 := GC.out.lt
      have hb0 := B4.out.cell 0 _ rfl
      have hb1 := B4.out.cell 1 _ rfl
      have hb2 := B4.out.cell 2 _ rfl
      have hb3 := B4.out.cell 3 _ rfl
      have hb4 := B4.out.cell 4 _ rfl
      have hbl := B4.out.lt
      go_wp2_with fail
      (refine region_tail 7 (by kernel_rfl) (by kernel_rfl) ?_; simp only [List.take_succ_cons, List.take_zero, List.drop_succ_cons, List.drop_zero]; (repeat still_step); refine wpStill_nil ?_)
      go_wp2_with fail
      refine (supde (show SRep (w4.alloc (.cells #[.string b, .string a, .map (some l.at_), .int .i64 ps.1, .nilIface] 144)).drew G.sB c1 from ((C.out.1.fr ((Fr.refl (fun _ => False) w4).alloc _) (fun q => q) (fun _ _ q => q))).drew) (by rw [C.out.2.2.2.2.1, if_neg (fun q => HG.out.2.2.2.2 q.1.symm), HG.out.1.out, HG.out.2.2.2.1]; rfl) (v' := ev b a l.at_ l.wt) (by rw [C.out.2.2.2.2.2.1, if_neg (fun q => HG.out.2.2.2.2 q.1.symm), HG.out.1.inn, HG.out.2.2.2.1]; rfl)).mono ?_
      rintro e w6 ⟨rfl, rp6⟩
      have RP := Lib.hid rp6
      clear rp6
      go_wp2_with fail
      go_ret
      obtain ⟨c', g⟩ := uupd_step HG.out.1 HG.out.2.1 HG.out.2.2.1 HG.out.2.2.2.2 ps F1.out.size F2.out S1.out.2 C.out.2.1 C.out.2.2.1 C.out.2.2.2.1 C.out.2.2.2.2.1 C.out.2.2.2.2.2.1 ((F4.out.alloc _).drew) RP.out
      exact ⟨.nil, trivial, rfl, .inr ⟨l, HG.out.2.2.1, rfl, c', by rw [HPS.out]; exact g⟩⟩

end Go.Proofs.YtbafaadmlpamiaaGreatDoor
