/- zzFits5: a slice of slices of attributes. -/
import Derived.Test.YtbafaadmlpamiaaGreatDoorSpec1
namespace Go.Proofs.YtbafaadmlpamiaaGreatDoor
open Go Go.Hy Go.RowKit

/-- a slice of slices of attributes that lies in memory, wherever -/
def PrsAt (w : World) (v : Value) (pss : List (List PP)) : Prop :=
  ∃ ao cap, v = .slice ao pss.length cap ∧ ∀ (i : Nat) (ps : List PP), pss[i]? = some ps → ∃ ob off pv, ao = some ⟨ob, off, none⟩ ∧ ob < w.heap.size ∧ w.cell? ⟨ob, off + i, none⟩ = some pv ∧ PrAt w pv ps

theorem PrsAt.fr {w w' : World} {v : Value} {pss : List (List PP)} (h : PrsAt w v pss) (f : Fr0 w w') : PrsAt w' v pss := by
  obtain ⟨ao, cap, rfl, hr⟩ := h
  refine ⟨ao, cap, rfl, fun i d hi => ?_⟩
  obtain ⟨ob, off, pv, rfl, h1, c0, h2⟩ := hr i d hi
  exact ⟨ob, off, pv, rfl, Nat.lt_of_lt_of_le h1 f.size, (f.cell (p := ⟨ob, off + i, none⟩) h1 (fun q => q)).trans c0, h2.fr f⟩

theorem PrsAt.form {w : World} {v : Value} {pss : List (List PP)} (h : PrsAt w v pss) : ∃ ao cap, v = .slice ao pss.length cap := by
  obtain ⟨ao, cap, e, _⟩ := h
  exact ⟨ao, cap, e⟩

set_option maxRecDepth 100000 in
set_option maxHeartbeats 1000000 in
theorem zz5 (w : World) (v : Value) (pss : List (List PP)) (h : PrsAt w v pss) : Calls Tryz.prog 16 #[v] w fun e w' => BPost (∀ ps ∈ pss, ps.length ≤ 2147483647) w e w' := by
  have HP := Lib.hid h
  obtain ⟨ao, cap, rfl, -⟩ := h
  go_enter Tryz.func16, Tryz.ntmps16
  by_cases hbig : 2147483647 < pss.length
  · have hb : (2147483647 : Int) < (pss.length : Int) := by omega
    go_wp2
    go_ret
    exact BPost.no (Fr.refl _ _)
  · have hb : (pss.length : Int) ≤ 2147483647 := by omega
    go_wp2_with fail
    go_loopg [4, 10] pss.length (fun k v4 c wr => ∃ i : Nat, k + i = pss.length ∧ c = .int .i64 (i : Nat) ∧ Fr0 w wr ∧ ∀ ps ∈ pss.take i, ps.length ≤ 2147483647)
    case atStart => exact ⟨0, rfl, rfl, Fr.refl _ _, fun p hp => by simp at hp⟩
    case round =>
      obtain ⟨i, hk, rfl, f, hq⟩ := hrel
      have A := Lib.hid (And.intro hk (And.intro f hq))
      clear hk f hq
      by_cases hi : i < pss.length
      · have hg := List.getElem?_eq_getElem hi
        have htk : pss.take (i + 1) = pss.take i ++ [pss[i]] := List.take_succ_eq_append_getElem hi
        obtain ⟨ao', cap', e, hr⟩ := HP.out.fr A.out.2.1
        cases e
        obtain ⟨ob, off, pv, rfl, hl, c0, hpv⟩ := hr i _ hg
        generalize pss[i] = p at hpv htk
        have PV := Lib.hid (And.intro hpv htk)
        obtain ⟨pa, pc, rfl⟩ := hpv.form
        clear hg hr hpv htk
        go_wp2_with fail
        refine (zz3 _ _ p PV.out.1).mono ?_
        rintro e w2 ⟨r, rfl, hr, f2⟩
        have F2 := Lib.hid (And.intro hr f2)
        clear hr f2
        cases r with
        | true =>
          go_wp2_with fail
          go_roundg (gk - 1)
          case measure => have := A.out.1; omega
          case rel =>
            refine ⟨i + 1, by have := A.out.1; omega, by simp, A.out.2.1.trans0 F2.out.2, ?_⟩
            rw [PV.out.2]
            intro q hq
            rcases List.mem_append.1 hq with z | z
            · exact A.out.2.2 q z
            · simp only [List.mem_singleton] at z
              subst z
              exact F2.out.1 trivial
        | false =>
          go_wp2_with fail
          go_ret
          exact BPost.no (A.out.2.1.trans0 F2.out.2)
      · have hi' : i = pss.length := by have := A.out.1; omega
        subst hi'
        go_wp2_with fail
        go_ret
        have := A.out.2.2
        rw [List.take_length] at this
        exact BPost.yes this A.out.2.1
end Go.Proofs.YtbafaadmlpamiaaGreatDoor
