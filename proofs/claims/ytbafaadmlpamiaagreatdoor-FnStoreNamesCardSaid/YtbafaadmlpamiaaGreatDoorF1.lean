/- F1: Nam, Nm1, NamF. -/
import Derived.Test.YtbafaadmlpamiaaGreatDoorA8
import Derived.Test.YtbafaadmlpamiaaGreatDoorBrief
import Derived.Test.YtbafaadmlpamiaaGreatDoorE3
import Derived.Test.YtbafaadmlpamiaaGreatDoorSpec4
import Derived.Test.YtbafaadmlpamiaaGreatDoorRows
import Derived.Test.YtbafaadmlpamiaaGreatDoorTie
import Derived.ProofKit
import Derived.SevenTiedAt
/- Names play no part: steps under other names tell what they told, under the other names. Plain. -/
namespace Go.Proofs.YtbafaadmlpamiaaGreatDoor
open Go Go.Hy Go.RowKit

/-- other names, in the same order -/
structure Ren (f : ByteArray → ByteArray) : Prop where
  inj : ∀ a b, f a = f b → a = b
  lt : ∀ a b, ltB (f a) (f b) = ltB a b

def SP.ren (f : ByteArray → ByteArray) (p : SP) : SP := ⟨f p.h, f p.v, p.wt, p.es⟩
def SL.ren (f : ByteArray → ByteArray) (l : SL) : SL := ⟨f l.a, f l.b, l.wt, l.es⟩
def St.ren (f : ByteArray → ByteArray) (s : St) : St := ⟨s.dir, s.pr, s.hk, s.ps.map (SP.ren f), s.ls.map (SL.ren f)⟩
def DoIn.ren (f : ByteArray → ByteArray) (d : DoIn) : DoIn := ⟨d.op, f d.a, f d.b, d.wt, d.prs⟩

/-- what is told under the other names -/
structure TlRen (f : ByteArray → ByteArray) (t t' : Tl) : Prop where
  err : t'.err = t.err
  wt : t'.wt = t.wt
  order : t'.order = t.order
  size : t'.size = t.size
  pairs : t'.pairs = t.pairs
  value : t.value ≠ ⟨#[]⟩ → t'.value = f t.value
  links : t'.links = t.links.map (SL.ren f)

section
variable {f : ByteArray → ByteArray}

theorem Ren.eq (hf : Ren f) (a b : ByteArray) : (f a = f b) = (a = b) := propext ⟨hf.inj a b, fun e => by rw [e]⟩

theorem Ren.hit (hf : Ren f) (dir : Bool) (l : SL) (a b : ByteArray) : (l.ren f).hit dir (f a) (f b) = l.hit dir a b := by
  unfold SL.hit SL.ren
  simp only [hf.eq]

theorem Ren.pt (hf : Ren f) (s : St) (h : ByteArray) : (s.ren f).pt (f h) = (s.pt h).map (SP.ren f) := by
  unfold St.pt St.ren
  simp only [List.find?_map]
  congr 1
  refine congrArg (fun p => List.find? p s.ps) (funext fun p => ?_)
  simp only [Function.comp_apply, SP.ren, hf.eq]

theorem Ren.lk (hf : Ren f) (s : St) (a b : ByteArray) : (s.ren f).lk (f a) (f b) = (s.lk a b).map (SL.ren f) := by
  unfold St.lk St.ren
  simp only [List.find?_map]
  congr 1
  refine congrArg (fun p => List.find? p s.ls) (funext fun p => ?_)
  simp only [Function.comp_apply]
  exact hf.hit s.dir p a b

theorem Ren.reach (hf : Ren f) (ls : List SL) (a b : ByteArray) : Reach (ls.map (SL.ren f)) (f a) (f b) = Reach ls a b := by
  refine propext ⟨fun h => ?_, fun h => ?_⟩
  · have key : ∀ y, Reach (ls.map (SL.ren f)) (f a) y → ∃ x, y = f x ∧ Reach ls a x := by
      intro y hy
      induction hy with
      | refl => exact ⟨a, rfl, Reach.refl⟩
      | step _ hl he ih =>
        obtain ⟨x, e, hx⟩ := ih
        obtain ⟨l, hm, rfl⟩ := List.mem_map.1 hl
        exact ⟨l.b, rfl, Reach.step hx hm (hf.inj _ _ (he.trans e))⟩
    obtain ⟨x, e, hx⟩ := key _ h
    rw [hf.inj _ _ e]
    exact hx
  · induction h with
    | refl => exact Reach.refl
    | step _ hl he ih => exact Reach.step (l := SL.ren f _) ih (List.mem_map.2 ⟨_, hl, rfl⟩) (by rw [← he]; rfl)

theorem Ren.ltL (hf : Ren f) (x y : SL) : ltL (x.ren f) (y.ren f) = ltL x y := by
  unfold Go.Proofs.YtbafaadmlpamiaaGreatDoor.ltL lt2 SL.ren
  simp only [hf.lt, hf.eq]

theorem Ren.sortL (hf : Ren f) (ls : List SL) : sortL (ls.map (SL.ren f)) = (sortL ls).map (SL.ren f) := by
  unfold Go.Proofs.YtbafaadmlpamiaaGreatDoor.sortL
  refine (List.map_mergeSort fun a _ b _ => ?_).symm
  rw [hf.ltL]

theorem Ren.low (hf : Ren f) (dir : Bool) (l : SL) : (l.ren f).low dir = (l.low dir).ren f := by
  unfold SL.low
  have : ltB (l.ren f).b (l.ren f).a = ltB l.b l.a := hf.lt _ _
  rw [this]
  split <;> rfl

theorem Ren.both (s : St) (t : Bool) : (s.ren f).both t = (s.both t).map (SL.ren f) := by
  unfold St.both St.ren
  simp only [List.map_flatMap, List.flatMap_map]
  refine congrArg (fun g => List.flatMap g s.ls) (funext fun l => ?_)
  rw [List.map_append]
  congr 1
  · split <;> rfl
  · split <;> rfl

theorem tl_same (t : Tl) (hl : t.links = []) (hv : t.value = ⟨#[]⟩) : TlRen f t t := ⟨rfl, rfl, rfl, rfl, rfl, fun h => absurd hv h, by rw [hl]; rfl⟩

theorem Ren.step (hf : Ren f) (s : St) (hk : s.hk = 0) (d : DoIn) : TlRen f (s.step d).1 ((s.ren f).step (d.ren f)).1 ∧ ((s.ren f).step (d.ren f)).2 = (s.step d).2.ren f := by
  obtain ⟨op, a, b, wt, prs⟩ := d
  have hh : ∀ x, hashM s.hk x = x := fun x => by rw [hk]; rfl
  have hh' : ∀ x, hashM (s.ren f).hk x = x := hh
  have hp := hf.pt s
  have hl := hf.lk s
  have hr := hf.reach s.ls
  unfold St.step DoIn.ren
  simp only
  split
  · unfold St.addV
    simp only [hh, hh', hp]
    cases s.pt a with
    | some p => exact ⟨tl_same _ rfl rfl, rfl⟩
    | none => exact ⟨tl_same _ rfl rfl, by simp [St.ren, SP.ren]⟩
  · unfold St.rmV
    simp only [hp]
    cases s.pt a with
    | none => exact ⟨tl_same _ rfl rfl, rfl⟩
    | some p =>
      have e : ((s.ren f).ls.any fun l => decide (l.a = f a ∨ l.b = f a)) = s.ls.any fun l => decide (l.a = a ∨ l.b = a) := by
        unfold St.ren
        simp only [List.any_map]
        refine congrArg (fun q => List.any s.ls q) (funext fun l => ?_)
        simp only [Function.comp_apply, SL.ren, hf.eq]
      simp only [Option.map_some, e]
      split
      · exact ⟨tl_same _ rfl rfl, rfl⟩
      · refine ⟨tl_same _ rfl rfl, ?_⟩
        unfold St.ren
        simp only [List.filter_map]
        congr 2
        refine congrArg (fun q => List.filter q s.ps) (funext fun p => ?_)
        simp only [Function.comp_apply, SP.ren, ne_eq, hf.eq]
  · unfold St.addE
    simp only [hp, hl]
    cases s.pt a with
    | none => exact ⟨tl_same _ rfl rfl, rfl⟩
    | some p =>
      cases s.pt b with
      | none => exact ⟨tl_same _ rfl rfl, rfl⟩
      | some q =>
        cases s.lk a b with
        | some l => exact ⟨tl_same _ rfl rfl, rfl⟩
        | none =>
          have e : ((s.ren f).pr = true ∧ Reach (s.ren f).ls (f b) (f a)) = (s.pr = true ∧ Reach s.ls b a) := by
            unfold St.ren
            simp only [hr]
          simp only [Option.map_some, Option.map_none]
          by_cases hc : s.pr = true ∧ Reach s.ls b a
          · rw [if_pos hc, if_pos (by rw [e]; exact hc)]
            exact ⟨tl_same _ rfl rfl, rfl⟩
          · rw [if_neg hc, if_neg (by rw [e]; exact hc)]
            exact ⟨tl_same _ rfl rfl, by simp [St.ren, SL.ren]⟩
  · unfold St.rmE
    simp only [hl]
    cases s.lk a b with
    | none => exact ⟨tl_same _ rfl rfl, rfl⟩
    | some l =>
      refine ⟨tl_same _ rfl rfl, ?_⟩
      unfold St.ren
      simp only [Option.map_some, List.filter_map]
      congr 2
      refine congrArg (fun q => List.filter q s.ls) (funext fun p => ?_)
      simp only [Function.comp_apply]
      rw [hf.hit]
  · unfold St.updE
    simp only [hl]
    cases s.lk a b with
    | none => exact ⟨tl_same _ rfl rfl, rfl⟩
    | some l =>
      refine ⟨tl_same _ rfl rfl, ?_⟩
      unfold St.ren
      simp only [Option.map_some, List.map_map]
      congr 1
      refine List.map_congr_left fun p _ => ?_
      simp only [Function.comp_apply]
      rw [hf.hit]
      split <;> rfl
  · refine ⟨?_, rfl⟩
    unfold St.vtx
    simp only [hp]
    cases s.pt a with
    | none => exact tl_same _ rfl rfl
    | some p => exact ⟨rfl, rfl, rfl, rfl, rfl, fun _ => rfl, rfl⟩
  · refine ⟨?_, rfl⟩
    unfold St.edge
    simp only [hl]
    cases s.lk a b with
    | none => exact tl_same _ rfl rfl
    | some p => exact ⟨rfl, rfl, rfl, rfl, rfl, fun h => absurd rfl h, rfl⟩
  · exact ⟨⟨rfl, rfl, by simp [St.ren], by simp [St.ren], rfl, fun h => absurd rfl h, rfl⟩, rfl⟩
  · refine ⟨⟨rfl, rfl, rfl, rfl, rfl, fun h => absurd rfl h, ?_⟩, rfl⟩
    simp only
    rw [← hf.sortL]
    congr 1
    unfold St.ren
    simp only [List.map_map]
    exact List.map_congr_left fun l _ => hf.low _ l
  · refine ⟨⟨rfl, rfl, rfl, rfl, rfl, fun h => absurd rfl h, ?_⟩, rfl⟩
    simp only
    rw [← hf.sortL, Ren.both]
  · refine ⟨⟨rfl, rfl, rfl, rfl, rfl, fun h => absurd rfl h, ?_⟩, rfl⟩
    simp only
    rw [← hf.sortL, Ren.both]
  · exact ⟨tl_same _ rfl rfl, rfl⟩

theorem Ren.run (hf : Ren f) : ∀ (ds : List DoIn) (s : St), s.hk = 0 → ∀ (i : Nat) (t : Tl), (s.run ds)[i]? = some t → ∃ t', ((s.ren f).run (ds.map (DoIn.ren f)))[i]? = some t' ∧ TlRen f t t'
  | [], _, _, i, t, h => by simp [St.run] at h
  | d :: ds, s, hk, i, t, h => by
    obtain ⟨h1, h2⟩ := hf.step s hk d
    cases i with
    | zero =>
      simp only [St.run, List.getElem?_cons_zero, Option.some.injEq] at h
      subst h
      exact ⟨_, by simp only [List.map_cons, St.run, List.getElem?_cons_zero], h1⟩
    | succ i =>
      simp only [St.run, List.getElem?_cons_succ] at h
      obtain ⟨t', h3, h4⟩ := hf.run ds (s.step d).2 ((s.step_same d).2.2.trans hk) i t h
      refine ⟨t', ?_, h4⟩
      simp only [List.map_cons, St.run, List.getElem?_cons_succ]
      rw [h2]
      exact h3
end

theorem bl_front : ∀ (l x y : List UInt8), Op.bytesLess (l ++ x) (l ++ y) = Op.bytesLess x y
  | [], _, _ => rfl
  | c :: l, x, y => by
    have h := bl_front l x y
    rw [List.cons_append, List.cons_append, ← h]
    cases e : Op.bytesLess (l ++ x) (l ++ y) with
    | true => exact (bl_cons c c _ _).2 (.inr ⟨rfl, e⟩)
    | false =>
      cases q : Op.bytesLess (c :: (l ++ x)) (c :: (l ++ y)) with
      | false => rfl
      | true =>
        rcases (bl_cons c c _ _).1 q with z | ⟨_, z⟩
        · omega
        · rw [e] at z; cases z

/-- names with a text ahead of them -/
theorem ren_front (p : ByteArray) : Ren fun x => p ++ x where
  inj := fun a b h => by
    have h2 := congrArg ByteArray.toList h
    refine toList_inj ?_
    rw [ByteArray.toList_eq, ByteArray.toList_eq] at h2 ⊢
    simpa using h2
  lt := fun a b => by
    unfold ltB
    have e : ∀ x : ByteArray, (p ++ x).toList = p.toList ++ x.toList := fun x => by rw [ByteArray.toList_eq, ByteArray.toList_eq, ByteArray.toList_eq]; simp
    rw [e, e, bl_front]
end Go.Proofs.YtbafaadmlpamiaaGreatDoor

/- FnStoreNames: what is compared; the other steps as they are gathered. -/
namespace Go.Proofs.YtbafaadmlpamiaaGreatDoor
open Go Go.Hy Go.RowKit

theorem kst_ren (f : ByteArray → ByteArray) (b0 b1 b2 b3 b4 b5 : Bool) (hk : Nat) : (kst b0 b1 b2 b3 b4 b5 hk).ren f = kst b0 b1 b2 b3 b4 b5 hk := rfl

theorem run_brief (b0 b1 b2 b3 b4 b5 : Bool) (hk : Nat) (ds : List DoIn) (hd : ∀ d ∈ ds, d.prs.length ≤ 4) (hl : ds.length ≤ 1000) (i : Nat) (t : Tl) (h : ((kst b0 b1 b2 b3 b4 b5 hk).run ds)[i]? = some t) : Brief t := by
  have hlt := (List.getElem?_eq_some_iff.1 h).1
  rw [St.run_length] at hlt
  have hg := List.getElem?_eq_getElem hlt
  rw [run_get _ ds i _ hg] at h
  cases h
  have hb := (kst_bnd 4 b0 b1 b2 b3 b4 b5 hk).after (ds.take i) fun d h => hd d (List.mem_of_mem_take h)
  exact hb.brief (by rw [List.length_take]; omega) _

/-- no name is longer -/
structure Nms (m : Nat) (s : St) : Prop where
  ps : ∀ x ∈ s.ps, x.v.size ≤ m
  ls : ∀ x ∈ s.ls, x.a.size ≤ m ∧ x.b.size ≤ m

theorem Nms.step {m : Nat} {s : St} (h : Nms m s) (d : DoIn) (ha : d.a.size ≤ m) (hb : d.b.size ≤ m) : Nms m (s.step d).2 := by
  unfold St.step
  split
  · unfold St.addV
    split
    · exact h
    · refine ⟨fun x hx => ?_, h.ls⟩
      rcases List.mem_append.1 hx with q | q
      · exact h.ps x q
      · simp only [List.mem_singleton] at q
        subst q
        exact ha
  · unfold St.rmV
    split
    · exact h
    · split
      · exact h
      · exact ⟨fun x hx => h.ps x (List.mem_filter.1 hx).1, h.ls⟩
  · unfold St.addE
    split
    · split
      · exact h
      · split
        · exact h
        · refine ⟨h.ps, fun x hx => ?_⟩
          rcases List.mem_append.1 hx with q | q
          · exact h.ls x q
          · simp only [List.mem_singleton] at q
            subst q
            exact ⟨ha, hb⟩
    · exact h
  · unfold St.rmE
    split
    · exact h
    · exact ⟨h.ps, fun x hx => h.ls x (List.mem_filter.1 hx).1⟩
  · unfold St.updE
    split
    · exact h
    · refine ⟨h.ps, fun x hx => ?_⟩
      obtain ⟨y, hy, rfl⟩ := List.mem_map.1 hx
      have := h.ls y hy
      split
      · exact this
      · exact this
  all_goals exact h

theorem Nms.after {m : Nat} : ∀ (ds : List DoIn) (s : St), Nms m s → (∀ d ∈ ds, d.a.size ≤ m ∧ d.b.size ≤ m) → Nms m (s.after ds)
  | [], _, h, _ => h
  | d :: ds, s, h, hd => Nms.after ds (s.step d).2 (h.step d (hd d (by simp)).1 (hd d (by simp)).2) fun x hx => hd x (by simp [hx])

theorem low_ends {m : Nat} (dir : Bool) (l : SL) (h : l.a.size ≤ m ∧ l.b.size ≤ m) : (l.low dir).a.size ≤ m ∧ (l.low dir).b.size ≤ m := by
  unfold SL.low SL.turn
  split
  · exact ⟨h.2, h.1⟩
  · exact h

theorem both_ends {m : Nat} {s : St} (h : Nms m s) (back : Bool) {l : SL} (hl : l ∈ sortL (s.both back)) : l.a.size ≤ m ∧ l.b.size ≤ m := by
  unfold sortL at hl
  rw [List.mem_mergeSort] at hl
  unfold St.both at hl
  obtain ⟨x, hx, hl⟩ := List.mem_flatMap.1 hl
  have hx := h.ls x hx
  rcases List.mem_append.1 hl with q | q
  · split at q
    · simp only [List.mem_singleton] at q; subst q; exact hx
    · cases q
  · split at q
    · simp only [List.mem_singleton] at q; subst q; exact ⟨hx.2, hx.1⟩
    · cases q

theorem Nms.told {m : Nat} {s : St} (h : Nms m s) (d : DoIn) : (s.step d).1.value.size ≤ m ∧ ∀ l ∈ (s.step d).1.links, l.a.size ≤ m ∧ l.b.size ≤ m := by
  have no : ∀ t : Tl, t.value = ⟨#[]⟩ → t.links = [] → t.value.size ≤ m ∧ ∀ l ∈ t.links, l.a.size ≤ m ∧ l.b.size ≤ m := fun t h1 h2 => ⟨by rw [h1]; exact Nat.zero_le _, by rw [h2]; intro l hl; cases hl⟩
  unfold St.step
  split
  · unfold St.addV
    split <;> exact no _ rfl rfl
  · unfold St.rmV
    split
    · exact no _ rfl rfl
    · split <;> exact no _ rfl rfl
  · unfold St.addE
    split
    · split
      · exact no _ rfl rfl
      · split <;> exact no _ rfl rfl
    · exact no _ rfl rfl
  · unfold St.rmE
    split <;> exact no _ rfl rfl
  · unfold St.updE
    split <;> exact no _ rfl rfl
  · unfold St.vtx
    split
    · exact no _ rfl rfl
    · rename_i q hq
      exact ⟨h.ps q (pt_mem hq).1, fun l hl => by cases hl⟩
  · unfold St.edge
    split <;> exact no _ rfl rfl
  · exact no _ rfl rfl
  · refine ⟨Nat.zero_le _, fun l hl => ?_⟩
    have hl' : l ∈ sortL (s.ls.map (SL.low s.dir)) := hl
    unfold sortL at hl'
    rw [List.mem_mergeSort] at hl'
    obtain ⟨x, hx, rfl⟩ := List.mem_map.1 hl'
    exact low_ends _ _ (h.ls x hx)
  · exact ⟨Nat.zero_le _, fun l hl => both_ends h false hl⟩
  · exact ⟨Nat.zero_le _, fun l hl => both_ends h true hl⟩
  · exact no _ rfl rfl

theorem run_sizes (b0 b1 b2 b3 b4 b5 : Bool) (hk : Nat) (ds : List DoIn) (hd : ∀ d ∈ ds, d.a.size ≤ 12 ∧ d.b.size ≤ 12) (i : Nat) (t : Tl) (h : ((kst b0 b1 b2 b3 b4 b5 hk).run ds)[i]? = some t) : t.value.size ≤ 12 ∧ ∀ l ∈ t.links, l.a.size ≤ 12 ∧ l.b.size ≤ 12 := by
  have hlt := (List.getElem?_eq_some_iff.1 h).1
  rw [St.run_length] at hlt
  have hg := List.getElem?_eq_getElem hlt
  rw [run_get _ ds i _ hg] at h
  cases h
  exact (Nms.after (ds.take i) _ (⟨fun x hx => (by cases hx), fun x hx => (by cases hx)⟩ : Nms 12 (kst b0 b1 b2 b3 b4 b5 hk)) fun d h => hd d (List.mem_of_mem_take h)).told _

/-- what the law compares -/
structure NmOk (p : ByteArray) (t t' : Tl) : Prop where
  ren : TlRen (fun x => p ++ x) t t'
  brief : Brief t
  val : t.value.size ≤ 12
  ends : ∀ l ∈ t.links, l.a.size ≤ 12 ∧ l.b.size ≤ 12

/-- steps under other names tell what they told, under the other names; nothing of it is long -/
theorem names_run (p : ByteArray) (b0 b1 b2 b3 b4 b5 : Bool) (ds : List DoIn) (hd : ∀ d ∈ ds, RightD b0 d) (hl : ds.length ≤ 1000) (i : Nat) (t : Tl) (h : ((kst b0 b1 b2 b3 b4 b5 0).run ds)[i]? = some t) :
    ∃ t', ((kst b0 b1 b2 b3 b4 b5 0).run (ds.map (DoIn.ren fun x => p ++ x)))[i]? = some t' ∧ NmOk p t t' := by
  obtain ⟨t', h1, h2⟩ := (ren_front p).run ds (kst b0 b1 b2 b3 b4 b5 0) rfl i t h
  rw [kst_ren] at h1
  have z := run_sizes b0 b1 b2 b3 b4 b5 0 ds (fun d hm => ⟨(hd d hm).a, (hd d hm).b⟩) i t h
  exact ⟨t', h1, h2, run_brief b0 b1 b2 b3 b4 b5 0 ds (fun d hm => (hd d hm).prs) hl i t h, z.1, z.2⟩

theorem ren_fit {p : ByteArray} {dir : Bool} {ds : List DoIn} (h : ∀ d ∈ ds, RightD dir d) : ∀ d ∈ ds.map (DoIn.ren fun x => p ++ x), Fit dir 0 d := by
  intro d hd
  obtain ⟨d, hm, rfl⟩ := List.mem_map.1 hd
  have F := (h d hm).fit 0
  exact ⟨F.op, fun ho hdir e => F.ab ho hdir ((ren_front p).inj _ _ e), fun q => (by cases q), F.prs⟩

/-- the other steps so far -/
structure OL (wB : World) (p : ByteArray) (ds : List DoIn) (i : Nat) (v : Value) (dvs : List (DoIn × Value)) (wr : World) : Prop where
  fst : dvs.map (·.1) = (ds.take i).map (DoIn.ren fun x => p ++ x)
  row : wr.ownsRow wB.heap.size 28 5 v i (encL encDo dvs)
  prs : ∀ p ∈ dvs, PrAt wB p.2 p.1.prs
  fr : Fr0 wB wr

theorem OL.start (wB : World) (p : ByteArray) (ds : List DoIn) : OL wB p ds 0 (.slice none 0 0) [] wB :=
  ⟨rfl, World.ownsRow_nil _ _ _ _, fun p hp => by simp at hp, Fr.refl _ _⟩

theorem OL.step {wB wr wa w4 : World} {p : ByteArray} {ds : List DoIn} {i : Nat} {v v' pv : Value} {dvs : List (DoIn × Value)} {d : DoIn} (h : OL wB p ds i v dvs wr) (hx : ds[i]? = some d) (hpv : PrAt wB pv d.prs)
    (fa : Fr0 wr wa) (o : w4.ownsRow wB.heap.size 28 5 v' (i + 1) (encL encDo dvs ++ [.int .u8 d.op, .string (p ++ d.a), .string (p ++ d.b), .int .i64 d.wt, pv])) (f4 : Fr (fun k => v.ownBlock = some k) wa w4) :
    OL wB p ds (i + 1) v' (dvs ++ [(d.ren fun x => p ++ x, pv)]) w4 := by
  have hi : i < ds.length := (List.getElem?_eq_some_iff.1 hx).1
  have he : ds[i] = d := (List.getElem?_eq_some_iff.1 hx).2
  have htk : ds.take (i + 1) = ds.take i ++ [d] := by rw [List.take_succ_eq_append_getElem hi, he]
  refine ⟨?_, ?_, ?_, ?_⟩
  · rw [List.map_append, h.fst, htk, List.map_append]; rfl
  · have e1 : encL encDo (dvs ++ [(d.ren fun x => p ++ x, pv)]) = encL encDo dvs ++ [.int .u8 d.op, .string (p ++ d.a), .string (p ++ d.b), .int .i64 d.wt, pv] := by simp [encL, encDo, DoIn.ren]
    rw [e1]
    exact o
  · intro q hq
    rcases List.mem_append.1 hq with z | z
    · exact h.prs q z
    · simp only [List.mem_singleton] at z
      subst z
      exact hpv
  · exact (h.fr.trans0 fa).trans f4 fun q hq => .inr (h.row.lt q hq).1

theorem SDosAt.of_rows {w : World} {v : Value} {n : Nat} {ds : List DoIn} {dvs : List (DoIn × Value)} (h : Reads w v n (encL encDo dvs)) (hl : dvs.map (·.1) = ds) (hn : n = ds.length) (hp : ∀ p ∈ dvs, PrAt w p.2 p.1.prs) : SDosAt w v ds := by
  obtain ⟨ao, cap, rfl, _, hr⟩ := h
  refine ⟨ao, cap, by rw [hn], fun i d hi => ?_⟩
  rw [← hl, List.getElem?_map, Option.map_eq_some_iff] at hi
  obtain ⟨p, hp1, rfl⟩ := hi
  have x (c : Nat) (hc : c < 5) := encL_mem encDo 5 dvs (fun _ _ => rfl) i c p hp1 hc
  obtain ⟨ob, rfl, h1, c0⟩ := hr _ _ (x 0 (by decide))
  obtain ⟨_, e1, _, c1⟩ := hr _ _ (x 1 (by decide))
  obtain ⟨_, e2, _, c2⟩ := hr _ _ (x 2 (by decide))
  obtain ⟨_, e3, _, c3⟩ := hr _ _ (x 3 (by decide))
  obtain ⟨_, e4, _, c4⟩ := hr _ _ (x 4 (by decide))
  cases e1; cases e2; cases e3; cases e4
  refine ⟨ob, 0, p.2, rfl, h1, ?_, ?_, ?_, ?_, ?_, hp p (List.mem_of_getElem? hp1)⟩
  all_goals rw [Nat.zero_add]
  · exact c0
  · exact c1
  · exact c2
  · exact c3
  · exact c4

theorem OL.last {wB wr w' : World} {p : ByteArray} {ds : List DoIn} {v : Value} {dvs : List (DoIn × Value)} (h : OL wB p ds ds.length v dvs wr) (f : Fr0 wr w') : SDosAt w' v (ds.map (DoIn.ren fun x => p ++ x)) := by
  have h1 := h.fst
  rw [List.take_length] at h1
  exact (SDosAt.of_rows (own_slice h.row) h1 (by simp) fun q hq => (h.prs q hq).fr h.fr).fr f
end Go.Proofs.YtbafaadmlpamiaaGreatDoor

/- FnStoreNames: the closed facts of its row, each by itself. -/
namespace Go.Proofs.YtbafaadmlpamiaaGreatDoor
open Go Go.ChangeShapes Go.WideShapes Go.ChangeAt Go.RowKit

theorem namesF1 : (Rows.fnStoreNamesRow.inPlace == Tryz.prog.inPlace 10) = true := by kernel_rfl
theorem namesF2 : (Rows.fnStoreNamesRow.unfollowed == Tryz.prog.unfollowed 10) = true := by kernel_rfl
theorem namesF3 : (Rows.fnStoreNamesRow.recurses == Tryz.prog.recurses 10) = true := by kernel_rfl
theorem namesF4 : (Rows.fnStoreNamesRow.named == Tryz.prog.varsNamed 10) = true := by kernel_rfl

theorem namesFacts : joinedFacts Tryz.prog 10 Tryz.f10 Rows.fnStoreNamesSpec Rows.fnStoreNamesRow = true := by
  unfold joinedFacts
  rw [namesF1, namesF2, namesF3, namesF4]
  kernel_rfl
end Go.Proofs.YtbafaadmlpamiaaGreatDoor
