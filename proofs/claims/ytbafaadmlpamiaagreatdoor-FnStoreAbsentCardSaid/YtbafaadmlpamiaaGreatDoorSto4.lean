/- The store of lists: a vertex, an edge more; plain facts on memory. -/
import Derived.Test.YtbafaadmlpamiaaGreatDoorSto3
import Derived.Test.YtbafaadmlpamiaaGreatDoorStoV
namespace Go.Proofs.YtbafaadmlpamiaaGreatDoor
open Go Go.Hy Go.RowKit

theorem info96 : (Tryz.prog.info? 96).map (fun i => (i.zero, i.size, i.bytes)) = some (some (.agg #[.string ⟨#[]⟩, .string ⟨#[]⟩, .int .i64 0, .slice none 0 0]), 4, 64) := by kernel_rfl
theorem info72 : (Tryz.prog.info? 72).map (fun i => (i.zero, i.size, i.bytes)) = some (some (.agg #[.string ⟨#[]⟩, .string ⟨#[]⟩, .int .i64 0, .slice none 0 0]), 4, 64) := by kernel_rfl

theorem own_empty {w : World} {B : Nat} {t : TypeId} {size : Nat} (h : w.heap[B]? = some (.cells #[] t (0, 0))) : w.ownsRow B t size (.slice (some ⟨B, 0, none⟩) 0 0) 0 [] :=
  ⟨by simp, .inr ⟨B, 0, #[], rfl, Nat.le_refl _, h, Nat.le_refl _, by decide, by simp, by simp⟩⟩

theorem Reads.yld {w : World} {v : Value} {n size : Nat} {xs : List Value} (h : Reads w v n xs) (hl : xs.length = n * size) (hs : 0 < size) : Yld w v n xs := by
  obtain ⟨ao, cap, rfl, _, hr⟩ := h
  cases ao with
  | none =>
    have hx : xs = [] := by
      cases xs with
      | nil => rfl
      | cons x xs =>
        obtain ⟨ob, e, _⟩ := hr 0 x rfl
        cases e
    subst hx
    have hn : n = 0 := by
      simp only [List.length_nil] at hl
      rcases Nat.mul_eq_zero.1 hl.symm with q | q
      · exact q
      · omega
    subst hn
    exact .inl ⟨cap, rfl, rfl, rfl⟩
  | some a =>
    refine .inr ⟨a, cap, rfl, fun j u hj => ?_⟩
    obtain ⟨ob, e, _, h2⟩ := hr j u hj
    cases e
    rw [Addr.add_lit, Nat.zero_add]
    exact h2

theorem Cells.setCell {w : World} {b : Nat} {cs : Array Value} {t : TypeId} (h : Cells w b cs t) (i : Nat) (v : Value) : Cells (w.setCell ⟨b, i, none⟩ v) b (cs.setIfInBounds i v) t := by
  unfold Cells at *
  simp [World.setCell, h, Array.getElem?_modify]

theorem zip_snoc {α β : Type} {l : List α} {m : List β} (h : m.length = l.length) (x : α) (y : β) : (l ++ [x]).zip (m ++ [y]) = l.zip m ++ [(x, y)] := by
  rw [List.zip_append h.symm]
  rfl

theorem zip_enc {α : Type} (enc : α × Value → List Value) (k : Nat) (hk : ∀ p, (enc p).length = k) {l : List α} {m : List Value} (h : m.length = l.length) : (encL enc (l.zip m)).length = l.length * k := by
  rw [encL_len enc k hk, List.length_zip, h, Nat.min_self]

theorem PtsIn.imp {w : World} {p p' : Nat → Prop} {v : Value} {ps : List SP} (h : PtsIn w p v ps) (hp : ∀ q, p q → q < w.heap.size → p' q) : PtsIn w p' v ps := by
  obtain ⟨vs, h1, h2, h3, h4⟩ := h
  exact ⟨vs, h1, h2, fun q hq => ⟨hp q (h3 q hq).1 (h3 q hq).2, (h3 q hq).2⟩, fun i l u hl hu => (h4 i l u hl hu).imp hp⟩

theorem PtsIn.snoc {w : World} {p : Nat → Prop} {base : Nat} {v : Value} {ps : List SP} {vs : List Value} {x : SP} {pv : Value} (ho : w.ownsRow base 96 4 v (ps.length + 1) (encL encPt (ps.zip vs) ++ [.string x.h, .string x.v, .int .i64 x.wt, pv])) (hv : vs.length = ps.length)
    (hold : ∀ (i : Nat) (l : SP) (u : Value), ps[i]? = some l → vs[i]? = some u → PairsIn w p u l.es) (hnew : PairsIn w p pv x.es) (hb : ∀ q, base ≤ q → p q) : PtsIn w p v (ps ++ [x]) := by
  refine ⟨vs ++ [pv], by simp [hv], ?_, fun q hq => ⟨hb q (ho.lt q hq).1, (ho.lt q hq).2⟩, fun i l u hl hu => ?_⟩
  · rw [zip_snoc hv, List.length_append]
    have e : encL encPt (ps.zip vs ++ [(x, pv)]) = encL encPt (ps.zip vs) ++ [.string x.h, .string x.v, .int .i64 x.wt, pv] := by simp [encL, encPt]
    rw [e]
    exact own_slice ho
  · by_cases hi : i < ps.length
    · rw [List.getElem?_append_left hi] at hl
      rw [List.getElem?_append_left (by omega)] at hu
      exact hold i l u hl hu
    · have hlt := (List.getElem?_eq_some_iff.1 hl).1
      simp at hlt
      have hi' : i = ps.length := by omega
      subst hi'
      rw [List.getElem?_append_right (Nat.le_refl _), Nat.sub_self] at hl
      rw [List.getElem?_append_right (by omega), hv, Nat.sub_self] at hu
      simp only [List.getElem?_cons_zero, Option.some.injEq] at hl hu
      subst hl hu
      exact hnew

theorem LinksIn.snoc {w : World} {p : Nat → Prop} {base : Nat} {v : Value} {ls : List SL} {vs : List Value} {x : SL} {pv : Value} (ho : w.ownsRow base 72 4 v (ls.length + 1) (encL encLk (ls.zip vs) ++ [.string x.a, .string x.b, .int .i64 x.wt, pv])) (hv : vs.length = ls.length)
    (hold : ∀ (i : Nat) (l : SL) (u : Value), ls[i]? = some l → vs[i]? = some u → PairsIn w p u l.es) (hnew : PairsIn w p pv x.es) (hb : ∀ q, base ≤ q → p q) : LinksIn w p v (ls ++ [x]) := by
  refine ⟨vs ++ [pv], by simp [hv], ?_, fun q hq => ⟨hb q (ho.lt q hq).1, (ho.lt q hq).2⟩, fun i l u hl hu => ?_⟩
  · rw [zip_snoc hv, List.length_append]
    have e : encL encLk (ls.zip vs ++ [(x, pv)]) = encL encLk (ls.zip vs) ++ [.string x.a, .string x.b, .int .i64 x.wt, pv] := by simp [encL, encLk]
    rw [e]
    exact own_slice ho
  · by_cases hi : i < ls.length
    · rw [List.getElem?_append_left hi] at hl
      rw [List.getElem?_append_left (by omega)] at hu
      exact hold i l u hl hu
    · have hlt := (List.getElem?_eq_some_iff.1 hl).1
      simp at hlt
      have hi' : i = ls.length := by omega
      subst hi'
      rw [List.getElem?_append_right (Nat.le_refl _), Nat.sub_self] at hl
      rw [List.getElem?_append_right (by omega), hv, Nat.sub_self] at hu
      simp only [List.getElem?_cons_zero, Option.some.injEq] at hl hu
      subst hl hu
      exact hnew

/-- the store's cells -/
abbrev zCells (s : St) (b1 b2 b3 b4 : Bool) (pv lv : Value) : Array Value := #[.bool s.dir, .bool b1, .bool b2, .bool b3, .bool b4, .bool s.pr, .int .u8 s.hk, pv, lv]

/-- other vertices -/
theorem ZRep.newP {w3 w63 w' : World} {sb n1 : Nat} {s : St} {b1 b2 b3 b4 : Bool} {pv0 lv v' : Value} {ps' : List SP} (hc : Cells w3 sb (zCells s b1 b2 b3 b4 pv0 lv) 91) (hl : LinksIn w3 (fun q => q ≠ sb ∧ q ≠ n1) lv s.ls) (hp : PtsIn w63 (fun q => q ≠ sb ∧ q ≠ n1) v' ps') (f : Fr0 w3 w63)
    (f' : Fr (fun q => q = n1) (w63.setCell ⟨sb, 7, none⟩ v') w') (hn : sb ≠ n1) : ZRep w' sb { s with ps := ps' } := by
  have fs : Fr (fun q => q = sb) w63 (w63.setCell ⟨sb, 7, none⟩ v') := (Fr.refl (fun q => q = sb) _).setCell (.inl rfl) _
  have h1 := Cells.fr (Cells.setCell (Cells.fr hc f (fun q => q)) 7 v') f' (fun q => hn q)
  refine ⟨b1, b2, b3, b4, v', lv, h1, ?_, ?_⟩
  · exact ((hp.fr fs fun q h _ e => h.1 e).fr f' fun q h _ e => h.2 e).imp fun q h _ => h.1
  · exact (((hl.fr f fun _ _ _ q => q).fr fs fun q h _ e => h.1 e).fr f' fun q h _ e => h.2 e).imp fun q h _ => h.1

/-- other edges -/
theorem ZRep.newL {w3 w63 w' : World} {sb n1 : Nat} {s : St} {b1 b2 b3 b4 : Bool} {pv lv0 v' : Value} {ls' : List SL} (hc : Cells w3 sb (zCells s b1 b2 b3 b4 pv lv0) 91) (hp : PtsIn w3 (fun q => q ≠ sb ∧ q ≠ n1) pv s.ps) (hl : LinksIn w63 (fun q => q ≠ sb ∧ q ≠ n1) v' ls') (f : Fr0 w3 w63)
    (f' : Fr (fun q => q = n1) (w63.setCell ⟨sb, 8, none⟩ v') w') (hn : sb ≠ n1) : ZRep w' sb { s with ls := ls' } := by
  have fs : Fr (fun q => q = sb) w63 (w63.setCell ⟨sb, 8, none⟩ v') := (Fr.refl (fun q => q = sb) _).setCell (.inl rfl) _
  have h1 := Cells.fr (Cells.setCell (Cells.fr hc f (fun q => q)) 8 v') f' (fun q => hn q)
  refine ⟨b1, b2, b3, b4, pv, v', h1, ?_, ?_⟩
  · exact (((hp.fr f fun _ _ _ q => q).fr fs fun q h _ e => h.1 e).fr f' fun q h _ e => h.2 e).imp fun q h _ => h.1
  · exact ((hl.fr fs fun q h _ e => h.1 e).fr f' fun q h _ e => h.2 e).imp fun q h _ => h.1
end Go.Proofs.YtbafaadmlpamiaaGreatDoor
