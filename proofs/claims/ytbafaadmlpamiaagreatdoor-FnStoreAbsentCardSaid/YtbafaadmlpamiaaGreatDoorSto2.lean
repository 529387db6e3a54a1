/- The store of lists: where a vertex is, where an edge is, its value, an empty store. -/
import Derived.Test.YtbafaadmlpamiaaGreatDoorSto1
namespace Go.Proofs.YtbafaadmlpamiaaGreatDoor
open Go Go.Hy Go.RowKit

theorem ptI_at {ps : List SP} {k : ByteArray} {i : Nat} {x : SP} (h : ∀ p ∈ ps.take i, p.h ≠ k) (hx : ps[i]? = some x) (e : x.h = k) : ptI ps k = some i := by
  unfold ptI
  rw [List.findIdx?_eq_some_iff_getElem]
  obtain ⟨hl, hx'⟩ := List.getElem?_eq_some_iff.1 hx
  refine ⟨hl, by rw [hx', e]; exact decide_eq_true rfl, fun j hj => ?_⟩
  have := h ps[j] (List.mem_take_iff_getElem.2 ⟨j, by omega, rfl⟩)
  simpa using this

theorem ptI_no {ps : List SP} {k : ByteArray} (h : ∀ p ∈ ps, p.h ≠ k) : ptI ps k = none := by
  unfold ptI
  rw [List.findIdx?_eq_none_iff]
  exact fun p hp => decide_eq_false (h p hp)

theorem lkI_at {dir : Bool} {ls : List SL} {a b : ByteArray} {i : Nat} {x : SL} (h : ∀ l ∈ ls.take i, l.hit dir a b = false) (hx : ls[i]? = some x) (e : x.hit dir a b = true) : lkI dir ls a b = some i := by
  unfold lkI
  rw [List.findIdx?_eq_some_iff_getElem]
  obtain ⟨hl, hx'⟩ := List.getElem?_eq_some_iff.1 hx
  refine ⟨hl, by rw [hx', e], fun j hj => ?_⟩
  have := h ls[j] (List.mem_take_iff_getElem.2 ⟨j, by omega, rfl⟩)
  simp [this]

theorem lkI_no {dir : Bool} {ls : List SL} {a b : ByteArray} (h : ∀ l ∈ ls, l.hit dir a b = false) : lkI dir ls a b = none := by
  unfold lkI
  rw [List.findIdx?_eq_none_iff]
  exact fun p hp => h p hp

theorem text_ne {a b : ByteArray} (h : ¬ a = b) : (a.toList == b.toList) = false := by
  cases e : a.toList == b.toList with
  | false => rfl
  | true => exact absurd (toList_inj (beq_iff_eq.1 e)) h

set_option maxRecDepth 100000 in
set_option maxHeartbeats 1000000 in
theorem point44 (w : World) (sb : Nat) (s : St) (h : ZRep w sb s) (hs : s.ps.length ≤ 400000) (k : ByteArray) :
    Calls Tryz.prog 44 #[.pointer (some ⟨sb, 0, none⟩), .string k] w fun e w' => e = .returned (.int .i64 (plc (ptI s.ps k))) ∧ Fr0 w w' := by
  obtain ⟨b1, b2, b3, b4, pv, lv, hc, hp, hl⟩ := h
  obtain ⟨pa, pc, rfl, _⟩ := hp.form
  have HP := Lib.hid hp
  have c7 := hc.cell 7 _ rfl
  clear hc hp hl
  go_enter Tryz.func44, Tryz.ntmps44
  go_wp2_with fail
  go_loopg [12] s.ps.length (fun n c wr => ∃ i : Nat, n + i = s.ps.length ∧ c = .int .i64 (i : Nat) ∧ (∀ p ∈ s.ps.take i, p.h ≠ k) ∧ Fr0 w wr)
  case atStart => exact ⟨0, rfl, rfl, fun d hd => by simp at hd, Fr.refl _ _⟩
  case round =>
    obtain ⟨i, hk, rfl, ht, f⟩ := hrel
    have A := Lib.hid (And.intro hk (And.intro ht f))
    clear hk ht f
    by_cases hi : i < s.ps.length
    · have hg := List.getElem?_eq_getElem hi
      have htk : s.ps.take (i + 1) = s.ps.take i ++ [s.ps[i]] := List.take_succ_eq_append_getElem hi
      obtain ⟨ob, cap, pv, e, hl, _, c0, c1, c2, c3, hpv⟩ := (PtsIn.fr HP.out A.out.2.2 (fun _ _ _ q => q)).at_ hg
      cases e
      generalize s.ps[i] = x at c0 c1 c2 c3 hpv hg htk
      obtain ⟨xa, xc, rfl⟩ := hpv.form
      have HG := Lib.hid (And.intro hg htk)
      clear hg hpv htk
      by_cases he : x.h = k
      · have HE := Lib.hid he
        rw [he] at c0
        clear he
        go_wp2_with fail
        go_ret
        exact ⟨by rw [ptI_at A.out.2.1 HG.out.1 HE.out]; rfl, A.out.2.2.alloc _⟩
      · have he1 := text_ne he
        have HE := Lib.hid he
        clear he
        go_wp2_with fail
        go_roundg (gk - 1)
        case measure => have := A.out.1; omega
        case rel =>
          refine ⟨i + 1, by have := A.out.1; omega, by simp, fun p hp => ?_, A.out.2.2.alloc _⟩
          rw [HG.out.2] at hp
          rcases List.mem_append.1 hp with z | z
          · exact A.out.2.1 p z
          · simp only [List.mem_singleton] at z
            rw [z]
            exact HE.out
    · have hi' : i = s.ps.length := by have := A.out.1; omega
      subst hi'
      go_wp2_with fail
      go_ret
      exact ⟨by rw [ptI_no (fun p hp => A.out.2.1 p (by rw [List.take_length]; exact hp))]; rfl, A.out.2.2⟩

theorem hit_eq (l : SL) (dir : Bool) (a b : ByteArray) : l.hit dir a b = ((decide (l.a = a) && decide (l.b = b)) || (!dir && (decide (l.a = b) && decide (l.b = a)))) := by
  unfold SL.hit
  rw [Bool.decide_and, Bool.decide_and]

theorem text_dec (a b : ByteArray) : (a.toList == b.toList) = decide (a = b) := by
  by_cases h : a = b
  · subst h; simp
  · rw [text_ne h, decide_eq_false h]

set_option maxRecDepth 100000 in
set_option maxHeartbeats 1000000 in
theorem link45 (w : World) (sb : Nat) (s : St) (h : ZRep w sb s) (hs : s.ls.length ≤ 400000) (a b : ByteArray) :
    Calls Tryz.prog 45 #[.pointer (some ⟨sb, 0, none⟩), .string a, .string b] w fun e w' => e = .returned (.int .i64 (plc (lkI s.dir s.ls a b))) ∧ Fr0 w w' := by
  obtain ⟨b1, b2, b3, b4, pv, lv, hc, hp, hl⟩ := h
  obtain ⟨pa, pc, rfl, _⟩ := hl.form
  have HP := Lib.hid hl
  have HC := Lib.hid hc
  have c8 := hc.cell 8 _ rfl
  clear hc hp hl
  go_enter Tryz.func45, Tryz.ntmps45
  go_wp2_with fail
  go_loopg [14] s.ls.length (fun n c wr => ∃ i : Nat, n + i = s.ls.length ∧ c = .int .i64 (i : Nat) ∧ (∀ l ∈ s.ls.take i, l.hit s.dir a b = false) ∧ Fr0 w wr)
  case atStart => exact ⟨0, rfl, rfl, fun d hd => by simp at hd, Fr.refl _ _⟩
  case round =>
    obtain ⟨i, hk, rfl, ht, f⟩ := hrel
    have A := Lib.hid (And.intro hk (And.intro ht f))
    clear hk ht f
    by_cases hi : i < s.ls.length
    · have hg := List.getElem?_eq_getElem hi
      have htk : s.ls.take (i + 1) = s.ls.take i ++ [s.ls[i]] := List.take_succ_eq_append_getElem hi
      obtain ⟨ob, cap, pv, e, hl, _, c0, c1, c2, c3, hpv⟩ := (LinksIn.fr HP.out A.out.2.2 (fun _ _ _ q => q)).at_ hg
      cases e
      generalize s.ls[i] = x at c0 c1 c2 c3 hpv hg htk
      obtain ⟨xa, xc, rfl⟩ := hpv.form
      have HG := Lib.hid (And.intro hg htk)
      have d0 := (HC.out.fr A.out.2.2 (fun q => q)).cell 0 _ rfl
      have hsb := (HC.out.fr A.out.2.2 (fun q => q)).lt
      have hne : sb ≠ wr.heap.size := by omega
      have hh := hit_eq x s.dir a b
      have t1 := text_dec x.a a
      have t2 := text_dec x.b b
      have t3 := text_dec x.a b
      have t4 := text_dec x.b a
      clear hg hpv htk
      generalize decide (x.a = a) = B1 at hh t1
      generalize decide (x.b = b) = B2 at hh t2
      generalize decide (x.a = b) = B3 at hh t3
      generalize decide (x.b = a) = B4 at hh t4
      obtain ⟨D, hD⟩ : ∃ D, D = s.dir := ⟨_, rfl⟩
      rw [← hD] at d0 hh
      have HD := Lib.hid hD
      clear hD
      have key : x.hit D a b = true → ∀ (w' : World), (Value.int .i64 (i : Nat)) = .int .i64 (plc (lkI s.dir s.ls a b)) := fun q _ => by
        rw [HD.out] at q
        rw [lkI_at A.out.2.1 HG.out.1 q]
        rfl
      have KEY := Lib.hid key
      have no : x.hit D a b = false → ∀ l ∈ s.ls.take (i + 1), l.hit s.dir a b = false := fun q l hl => by
        rw [HG.out.2] at hl
        rcases List.mem_append.1 hl with z | z
        · exact A.out.2.1 l z
        · simp only [List.mem_singleton] at z
          rw [z, ← HD.out]
          exact q
      have NO := Lib.hid no
      clear key no
      cases D
      · cases B1
        · cases B3
          · have HH := Lib.hid hh
            clear hh
            go_wp2_with fail
            first
              | (go_ret; exact ⟨congrArg Ending.returned (KEY.out HH.out w), A.out.2.2.alloc _⟩)
              | (go_roundg (gk - 1)
                 case measure => have := A.out.1; omega
                 case rel => exact ⟨i + 1, by have := A.out.1; omega, by simp, NO.out HH.out, A.out.2.2.alloc _⟩)
          · cases B4
            · have HH := Lib.hid hh
              clear hh
              go_wp2_with fail
              first
                | (go_ret; exact ⟨congrArg Ending.returned (KEY.out HH.out w), A.out.2.2.alloc _⟩)
                | (go_roundg (gk - 1)
                   case measure => have := A.out.1; omega
                   case rel => exact ⟨i + 1, by have := A.out.1; omega, by simp, NO.out HH.out, A.out.2.2.alloc _⟩)
            · have HH := Lib.hid hh
              clear hh
              go_wp2_with fail
              first
                | (go_ret; exact ⟨congrArg Ending.returned (KEY.out HH.out w), A.out.2.2.alloc _⟩)
                | (go_roundg (gk - 1)
                   case measure => have := A.out.1; omega
                   case rel => exact ⟨i + 1, by have := A.out.1; omega, by simp, NO.out HH.out, A.out.2.2.alloc _⟩)
        · cases B2
          · cases B3
            · have HH := Lib.hid hh
              clear hh
              go_wp2_with fail
              first
                | (go_ret; exact ⟨congrArg Ending.returned (KEY.out HH.out w), A.out.2.2.alloc _⟩)
                | (go_roundg (gk - 1)
                   case measure => have := A.out.1; omega
                   case rel => exact ⟨i + 1, by have := A.out.1; omega, by simp, NO.out HH.out, A.out.2.2.alloc _⟩)
            · cases B4
              · have HH := Lib.hid hh
                clear hh
                go_wp2_with fail
                first
                  | (go_ret; exact ⟨congrArg Ending.returned (KEY.out HH.out w), A.out.2.2.alloc _⟩)
                  | (go_roundg (gk - 1)
                     case measure => have := A.out.1; omega
                     case rel => exact ⟨i + 1, by have := A.out.1; omega, by simp, NO.out HH.out, A.out.2.2.alloc _⟩)
              · have HH := Lib.hid hh
                clear hh
                go_wp2_with fail
                first
                  | (go_ret; exact ⟨congrArg Ending.returned (KEY.out HH.out w), A.out.2.2.alloc _⟩)
                  | (go_roundg (gk - 1)
                     case measure => have := A.out.1; omega
                     case rel => exact ⟨i + 1, by have := A.out.1; omega, by simp, NO.out HH.out, A.out.2.2.alloc _⟩)
          · have HH := Lib.hid hh
            clear hh
            go_wp2_with fail
            first
              | (go_ret; exact ⟨congrArg Ending.returned (KEY.out HH.out w), A.out.2.2.alloc _⟩)
              | (go_roundg (gk - 1)
                 case measure => have := A.out.1; omega
                 case rel => exact ⟨i + 1, by have := A.out.1; omega, by simp, NO.out HH.out, A.out.2.2.alloc _⟩)
      · cases B1
        · have HH := Lib.hid hh
          clear hh
          go_wp2_with fail
          first
            | (go_ret; exact ⟨congrArg Ending.returned (KEY.out HH.out w), A.out.2.2.alloc _⟩)
            | (go_roundg (gk - 1)
               case measure => have := A.out.1; omega
               case rel => exact ⟨i + 1, by have := A.out.1; omega, by simp, NO.out HH.out, A.out.2.2.alloc _⟩)
        · cases B2
          · have HH := Lib.hid hh
            clear hh
            go_wp2_with fail
            first
              | (go_ret; exact ⟨congrArg Ending.returned (KEY.out HH.out w), A.out.2.2.alloc _⟩)
              | (go_roundg (gk - 1)
                 case measure => have := A.out.1; omega
                 case rel => exact ⟨i + 1, by have := A.out.1; omega, by simp, NO.out HH.out, A.out.2.2.alloc _⟩)
          · have HH := Lib.hid hh
            clear hh
            go_wp2_with fail
            first
              | (go_ret; exact ⟨congrArg Ending.returned (KEY.out HH.out w), A.out.2.2.alloc _⟩)
              | (go_roundg (gk - 1)
                 case measure => have := A.out.1; omega
                 case rel => exact ⟨i + 1, by have := A.out.1; omega, by simp, NO.out HH.out, A.out.2.2.alloc _⟩)
    · have hi' : i = s.ls.length := by have := A.out.1; omega
      subst hi'
      go_wp2_with fail
      go_ret
      exact ⟨by rw [lkI_no (fun p hp => A.out.2.1 p (by rw [List.take_length]; exact hp))]; rfl, A.out.2.2⟩

/-- the hash of a store's vertices -/
def HashS (hk : Nat) : Prop := ∀ (w : World) (a : ByteArray), Calls Tryz.prog 43 #[.int .u8 hk, .string a] w fun e w' => e = .returned (.string (hashM hk a)) ∧ Fr0 w w'

theorem hashS0 : HashS 0 := by
  intro w a
  go_enter Tryz.func43, Tryz.ntmps43
  go_wp2_with fail
  go_ret
  exact ⟨rfl, Fr.refl _ _⟩

end Go.Proofs.YtbafaadmlpamiaaGreatDoor
