/- Attributes from one package to the other and back; whether they are the same. -/
import Derived.Test.YtbafaadmlpamiaaGreatDoorSpec1
import Derived.Laws.StructEq
namespace Go.Proofs.YtbafaadmlpamiaaGreatDoor
open Go Go.Hy Go.RowKit

theorem info30 : (Tryz.prog.info? 30).map (fun i => (i.zero, i.size, i.bytes)) = some (some (.agg #[.string ⟨#[]⟩, .string ⟨#[]⟩]), 2, 32) := by kernel_rfl

theorem PrAt.of_reads {w : World} {v : Value} {prs : List PP} (h : Reads w v prs.length (encL encP prs)) : PrAt w v prs := by
  obtain ⟨ao, cap, rfl, _, hr⟩ := id h
  refine ⟨ao, cap, rfl, fun i p hi => ?_⟩
  have e := List.getElem?_eq_some_iff.1 hi
  have x0 := encL_at encP 2 (fun _ => rfl) prs i 0 e.1 (by decide)
  have x1 := encL_at encP 2 (fun _ => rfl) prs i 1 e.1 (by decide)
  have ei : prs[i]! = p := by rw [getElem!_pos prs i e.1]; exact e.2
  rw [ei] at x0 x1
  obtain ⟨ob, rfl, h1, h2⟩ := hr (i * 2 + 0) _ x0
  obtain ⟨ob', e', _, h3⟩ := hr (i * 2 + 1) _ x1
  cases e'
  refine ⟨ob, 0, rfl, h1, ?_, ?_⟩
  · rw [Nat.zero_add]; exact h2
  · rw [Nat.zero_add]; exact h3

theorem PairsIn.at_ {w : World} {p : Nat → Prop} {v : Value} {prs : List PP} (h : PairsIn w p v prs) : PrAt w v prs := PrAt.of_reads h.1

theorem PairsIn.ok {w : World} {p : Nat → Prop} {ao : Option Addr} {cap : Nat} {prs : List PP} (h : PairsIn w p (.slice ao prs.length cap) prs) (hs : prs.length ≤ 100000) : PrOk w ao prs.length cap prs where
  len := rfl
  cap := by
    obtain ⟨ao', cap', e, hc, _⟩ := h.1
    cases e
    exact hc
  small := hs
  at_ := fun i p hi => by
    obtain ⟨ao', cap', e, _, hr⟩ := h.1
    cases e
    have e := List.getElem?_eq_some_iff.1 hi
    have x0 := encL_at encP 2 (fun _ => rfl) prs i 0 e.1 (by decide)
    have x1 := encL_at encP 2 (fun _ => rfl) prs i 1 e.1 (by decide)
    have ei : prs[i]! = p := by rw [getElem!_pos prs i e.1]; exact e.2
    rw [ei] at x0 x1
    obtain ⟨ob, rfl, h1, h2⟩ := hr (i * 2 + 0) _ x0
    obtain ⟨ob', e', _, h3⟩ := hr (i * 2 + 1) _ x1
    cases e'
    exact ⟨ob, rfl, h1, h2, h3⟩

set_option maxRecDepth 100000 in
set_option maxHeartbeats 1000000 in
theorem pto (w : World) (v : Value) (prs : List PP) (h : PrAt w v prs) (hs : prs.length ≤ 100000) :
    Calls Tryz.prog 40 #[v] w fun e w' => ∃ ao cap, e = .returned (.slice ao prs.length cap) ∧ PairsAt w' w.heap.size (.slice ao prs.length cap) prs ∧ Fr0 w w' := by
  have HP := Lib.hid h
  obtain ⟨ao, cap, rfl, -⟩ := h
  go_enter Tryz.func40, Tryz.ntmps40
  go_wp2_with fail
  go_loopg [3, 8] prs.length (fun k v c wr => ∃ i : Nat, k + i = prs.length ∧ c = .int .i64 (i : Nat) ∧ wr.ownsRow w.heap.size 68 2 v i (encL encP (prs.take i)) ∧ Fr0 w wr)
  case atStart => exact ⟨0, rfl, rfl, World.ownsRow_nil _ _ _ _, Fr.refl _ _⟩
  case round =>
    obtain ⟨i, hk, rfl, ho, f⟩ := hrel
    have A := Lib.hid (And.intro hk (And.intro ho f))
    clear hk ho f
    by_cases hi : i < prs.length
    · have hg := List.getElem?_eq_getElem hi
      obtain ⟨ao', cap', e, hr⟩ := HP.out.fr A.out.2.2
      cases e
      obtain ⟨ob, off, rfl, hl, c0, c1⟩ := hr i _ hg
      have htk : prs.take (i + 1) = prs.take i ++ [prs[i]] := List.take_succ_eq_append_getElem hi
      generalize prs[i] = p at c0 c1 htk
      have TK := Lib.hid htk
      have SZ := Lib.hid (A.out.2.2.size)
      clear hg hr htk
      go_wp2_with (first
        | (at_builtin; go_loud (refine wl_app1 (w := wr.alloc (.cells #[.string p.1, .string p.2] 30)) 40 rfl (.tmp 12) (.tmp 14) rfl 68 _ 2 32 Tryz.underlying40 info68 rfl (by decide) (by decide) w.heap.size u3 i (encL encP (prs.take i)) rfl (A.out.2.1.alloc _) #[.string p.1, .string p.2] (wr.heap.size + 1) rfl (by simp) rfl (by simp [Value.oneCell']) (by omega) (by have := SZ.out; simp; omega) ?_)))
      intro v' w4 ho fg _
      obtain ⟨ao', cap', rfl, _, _⟩ := own_slice ho
      have W := Lib.hid (And.intro ho fg)
      clear ho fg
      go_wp2_with fail
      go_roundg (gk - 1)
      case measure => have := A.out.1; omega
      case rel =>
        refine ⟨i + 1, by have := A.out.1; omega, by simp, ?_, ?_⟩
        · have e1 : encL encP (prs.take (i + 1)) = encL encP (prs.take i) ++ [.string p.1, .string p.2] := by
            rw [TK.out]
            simp [encL, encP]
          rw [e1]
          exact W.out.1
        · exact (A.out.2.2.alloc _).trans W.out.2 fun q hq => .inr (A.out.2.1.lt q hq).1
    · have hi' : i = prs.length := by have := A.out.1; omega
      subst hi'
      have R := Lib.hid A.out.2.1
      obtain ⟨ao3, cap3, rfl, _, _⟩ := own_slice A.out.2.1
      go_wp2_with fail
      go_ret
      refine ⟨ao3, cap3, rfl, ⟨?_, fun q hq => ?_⟩, A.out.2.2⟩
      · have := own_slice R.out
        rw [List.take_length] at this
        exact this
      · exact R.out.lt q hq

set_option maxRecDepth 100000 in
set_option maxHeartbeats 1000000 in
theorem pof (w : World) (v : Value) (prs : List PP) (h : PrAt w v prs) (hs : prs.length ≤ 100000) :
    Calls Tryz.prog 22 #[v] w fun e w' => ∃ ao cap, e = .returned (.slice ao prs.length cap) ∧ PairsAt w' w.heap.size (.slice ao prs.length cap) prs ∧ Fr0 w w' := by
  have HP := Lib.hid h
  obtain ⟨ao, cap, rfl, -⟩ := h
  go_enter Tryz.func22, Tryz.ntmps22
  go_wp2_with fail
  go_loopg [3, 8] prs.length (fun k v c wr => ∃ i : Nat, k + i = prs.length ∧ c = .int .i64 (i : Nat) ∧ wr.ownsRow w.heap.size 30 2 v i (encL encP (prs.take i)) ∧ Fr0 w wr)
  case atStart => exact ⟨0, rfl, rfl, World.ownsRow_nil _ _ _ _, Fr.refl _ _⟩
  case round =>
    obtain ⟨i, hk, rfl, ho, f⟩ := hrel
    have A := Lib.hid (And.intro hk (And.intro ho f))
    clear hk ho f
    by_cases hi : i < prs.length
    · have hg := List.getElem?_eq_getElem hi
      obtain ⟨ao', cap', e, hr⟩ := HP.out.fr A.out.2.2
      cases e
      obtain ⟨ob, off, rfl, hl, c0, c1⟩ := hr i _ hg
      have htk : prs.take (i + 1) = prs.take i ++ [prs[i]] := List.take_succ_eq_append_getElem hi
      generalize prs[i] = p at c0 c1 htk
      have TK := Lib.hid htk
      have SZ := Lib.hid (A.out.2.2.size)
      clear hg hr htk
      go_wp2_with (first
        | (at_builtin; go_loud (refine wl_app1 (w := wr.alloc (.cells #[.string p.1, .string p.2] 68)) 26 rfl (.tmp 12) (.tmp 14) rfl 30 _ 2 32 Tryz.underlying26 info30 rfl (by decide) (by decide) w.heap.size u3 i (encL encP (prs.take i)) rfl (A.out.2.1.alloc _) #[.string p.1, .string p.2] (wr.heap.size + 1) rfl (by simp) rfl (by simp [Value.oneCell']) (by omega) (by have := SZ.out; simp; omega) ?_)))
      intro v' w4 ho fg _
      obtain ⟨ao', cap', rfl, _, _⟩ := own_slice ho
      have W := Lib.hid (And.intro ho fg)
      clear ho fg
      go_wp2_with fail
      go_roundg (gk - 1)
      case measure => have := A.out.1; omega
      case rel =>
        refine ⟨i + 1, by have := A.out.1; omega, by simp, ?_, ?_⟩
        · have e1 : encL encP (prs.take (i + 1)) = encL encP (prs.take i) ++ [.string p.1, .string p.2] := by
            rw [TK.out]
            simp [encL, encP]
          rw [e1]
          exact W.out.1
        · exact (A.out.2.2.alloc _).trans W.out.2 fun q hq => .inr (A.out.2.1.lt q hq).1
    · have hi' : i = prs.length := by have := A.out.1; omega
      subst hi'
      have R := Lib.hid A.out.2.1
      obtain ⟨ao3, cap3, rfl, _, _⟩ := own_slice A.out.2.1
      go_wp2_with fail
      go_ret
      refine ⟨ao3, cap3, rfl, ⟨?_, fun q hq => ?_⟩, A.out.2.2⟩
      · have := own_slice R.out
        rw [List.take_length] at this
        exact this
      · exact R.out.lt q hq

theorem stood30 : Tryz.prog.stoodInHeld 30 = false := by kernel_rfl
theorem guard30 : Tryz.prog.eqGuardType Tryz.prog.depth 30 = false := by kernel_rfl

theorem eqPair (w : World) (a b c d : ByteArray) : (Op.equalIn 10000 30 (.agg #[.string a, .string b]) (.agg #[.string c, .string d])).run Tryz.prog w = .ok ((a.toList == c.toList) && (b.toList == d.toList)) w := by
  rw [run_equalIn_struct w 9999 30 _ _ (by kernel_rfl) stood30]
  simp [Program.fieldsOf, Tryz.underlying30, Op.eqFields, part]
  have h1 : (Op.equalIn 9999 9 (.string a) (.string c)).run Tryz.prog w = .ok (a.toList == c.toList) w := run_equalIn_string w 9998 9 a c Tryz.underlying9
  have h2 : (Op.equalIn 9999 9 (.string b) (.string d)).run Tryz.prog w = .ok (b.toList == d.toList) w := run_equalIn_string w 9998 9 b d Tryz.underlying9
  rw [h1]
  simp only [Result.andThen_ok]
  cases a.toList == c.toList
  · simp
  · simp only [h2, Result.andThen_ok]
    cases b.toList == d.toList <;> simp

set_option maxRecDepth 100000 in
set_option maxHeartbeats 1000000 in
theorem samep (w : World) (v v' : Value) (xs ys : List PP) (hx : PrAt w v xs) (hy : PrAt w v' ys) (hs : xs.length ≤ 100000) :
    Calls Tryz.prog 21 #[v, v'] w fun e w' => ∃ r, e = .returned (.bool r) ∧ (r = true ↔ xs = ys) ∧ Fr0 w w' := by
  have HX := Lib.hid hx
  have HY := Lib.hid hy
  obtain ⟨ao, cap, rfl, -⟩ := hx
  obtain ⟨bo, cap', rfl, -⟩ := hy
  by_cases hl : xs.length = ys.length
  · rw [hl]
    go_enter Tryz.func21, Tryz.ntmps21
    go_wp2_with fail
    go_loopg [13] ys.length (fun k c wr => ∃ i : Nat, k + i = ys.length ∧ c = .int .i64 (i : Nat) ∧ xs.take i = ys.take i ∧ Fr0 w wr)
    case atStart => exact ⟨0, rfl, rfl, rfl, Fr.refl _ _⟩
    case round =>
      obtain ⟨i, hk, rfl, ht, f⟩ := hrel
      have A := Lib.hid (And.intro hk (And.intro ht f))
      clear hk ht f
      by_cases hi : i < ys.length
      · have hi2 : i < xs.length := by omega
        have hg := List.getElem?_eq_getElem hi
        have hg2 := List.getElem?_eq_getElem hi2
        obtain ⟨ao', cp, e, hr⟩ := HX.out.fr A.out.2.2
        rw [hl] at e
        cases e
        obtain ⟨ob, off, rfl, hl1, c0, c1⟩ := hr i _ hg2
        obtain ⟨bo', cp', e, hr'⟩ := HY.out.fr A.out.2.2
        cases e
        obtain ⟨ob', off', rfl, hl2, d0, d1⟩ := hr' i _ hg
        have htk : ys.take (i + 1) = ys.take i ++ [ys[i]] := List.take_succ_eq_append_getElem hi
        have htk2 : xs.take (i + 1) = xs.take i ++ [xs[i]] := List.take_succ_eq_append_getElem hi2
        generalize xs[i] = p at c0 c1 htk2 hg2
        generalize ys[i] = q at d0 d1 htk hg
        have TK := Lib.hid (And.intro htk (And.intro htk2 (And.intro hg hg2)))
        clear hg hg2 hr hr' htk htk2
        have hg30 := guard30
        by_cases hpq : p = q
        · subst hpq
          have hq := fun W => eqPair W p.1 p.2 p.1 p.2
          go_wp2_with fail
          go_quiet (fail)
          go_wp2_with fail
          go_roundg (gk - 1)
          case measure => have := A.out.1; omega
          case rel => exact ⟨i + 1, by have := A.out.1; omega, by simp, by rw [TK.out.1, TK.out.2.1, A.out.2.1], A.out.2.2.drewN _⟩
        · have hq := fun W => eqPair W p.1 p.2 q.1 q.2
          have hb : ((p.1.toList == q.1.toList) && (p.2.toList == q.2.toList)) = false := by
            cases e1 : (p.1.toList == q.1.toList) && (p.2.toList == q.2.toList) with
            | false => rfl
            | true =>
              simp only [Bool.and_eq_true, beq_iff_eq] at e1
              exact absurd (Prod.ext (toList_inj e1.1) (toList_inj e1.2)) hpq
          rw [hb] at hq
          have HPQ := Lib.hid hpq
          clear hpq hb
          go_wp2_with fail
          go_quiet (fail)
          go_wp2_with fail
          go_ret
          refine ⟨_, rfl, ?_, A.out.2.2.drewN _⟩
          constructor
          · intro z; simp at z
          · intro e
            subst e
            have := TK.out.2.2.1.symm.trans TK.out.2.2.2
            exact absurd (Option.some.inj this).symm HPQ.out
      · have hi' : i = ys.length := by have := A.out.1; omega
        subst hi'
        go_wp2_with fail
        go_ret
        refine ⟨_, rfl, ?_, A.out.2.2⟩
        have := A.out.2.1
        rw [List.take_length, List.take_of_length_le (by omega)] at this
        simp [this]
  · have hl' : ¬ (xs.length : Int) = (ys.length : Int) := by omega
    go_enter Tryz.func21, Tryz.ntmps21
    go_wp2_with fail
    go_ret
    exact ⟨_, rfl, by simp; intro e; rw [e] at hl; exact hl rfl, Fr.refl _ _⟩

set_option maxRecDepth 100000 in
set_option maxHeartbeats 1000000 in
theorem kindr (w : World) (b0 b1 b2 b3 b4 b5 : Bool) (hk : Nat) : Calls Tryz.prog 25 #[.agg #[.bool b0, .bool b1, .bool b2, .bool b3, .bool b4, .bool b5, .int .u8 hk]] w fun e w' => BPost (hk ≤ 2 ∧ (b5 = true → b0 = true)) w e w' := by
  by_cases h2 : hk ≤ 2
  · have h2' : (hk : Int) ≤ 2 := by omega
    cases b0 <;> cases b5
    all_goals
      go_enter Tryz.func25, Tryz.ntmps25
      go_wp2
      go_ret
      first
        | exact BPost.yes ⟨h2, by decide⟩ (by (repeat' (first | (with_reducible exact Fr.refl _ _) | (with_reducible assumption) | (with_reducible refine Fr.drew ?_) | (with_reducible refine Fr.drewN ?_ _) | (with_reducible refine Fr.alloc ?_ _) | ((with_reducible refine Fr.setM ?_ (.inl ?_) _ _); rotate_left; focus (simp; done)) | ((with_reducible refine Fr.setCell ?_ (.inr ?_) _); rotate_left; focus (simp; done)) | ((with_reducible refine Fr.setCell ?_ (.inr ?_) _); rotate_left; focus (simp; omega)))))
        | exact BPost.no (by (repeat' (first | (with_reducible exact Fr.refl _ _) | (with_reducible assumption) | (with_reducible refine Fr.drew ?_) | (with_reducible refine Fr.drewN ?_ _) | (with_reducible refine Fr.alloc ?_ _) | ((with_reducible refine Fr.setM ?_ (.inl ?_) _ _); rotate_left; focus (simp; done)) | ((with_reducible refine Fr.setCell ?_ (.inr ?_) _); rotate_left; focus (simp; done)) | ((with_reducible refine Fr.setCell ?_ (.inr ?_) _); rotate_left; focus (simp; omega)))))
  · have h2' : (2 : Int) < (hk : Int) := by omega
    go_enter Tryz.func25, Tryz.ntmps25
    go_wp2
    go_ret
    exact BPost.no (by (repeat' (first | (with_reducible exact Fr.refl _ _) | (with_reducible assumption) | (with_reducible refine Fr.drew ?_) | (with_reducible refine Fr.drewN ?_ _) | (with_reducible refine Fr.alloc ?_ _) | ((with_reducible refine Fr.setM ?_ (.inl ?_) _ _); rotate_left; focus (simp; done)) | ((with_reducible refine Fr.setCell ?_ (.inr ?_) _); rotate_left; focus (simp; done)) | ((with_reducible refine Fr.setCell ?_ (.inr ?_) _); rotate_left; focus (simp; omega)))))
end Go.Proofs.YtbafaadmlpamiaaGreatDoor
