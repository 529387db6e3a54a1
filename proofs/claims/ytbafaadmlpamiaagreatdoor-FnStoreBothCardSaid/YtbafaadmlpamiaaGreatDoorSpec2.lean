/- What is read of the laws' arguments: zzFits, DosRight, kindRight. -/
import Derived.Test.YtbafaadmlpamiaaGreatDoorSpec1
namespace Go.Proofs.YtbafaadmlpamiaaGreatDoor
open Go Go.Hy Go.RowKit

set_option maxRecDepth 100000 in
set_option maxHeartbeats 1000000 in
theorem zz2 (w : World) (d : DoIn) (v : Value) (h : PrAt w v d.prs) : Calls Tryz.prog 41 #[.agg #[.int .u8 d.op, .string d.a, .string d.b, .int .i64 d.wt, v]] w fun e w' => BPost (d.prs.length ≤ 2147483647) w e w' := by
  have HP := Lib.hid h
  obtain ⟨ao, cap, rfl⟩ := h.form
  go_enter Tryz.func41, Tryz.ntmps41
  by_cases ha : 2147483647 < d.a.size
  · have ha' : (2147483647 : Int) < (d.a.size : Int) := by omega
    go_wp2
    go_ret
    exact BPost.no (by (repeat' (first | (with_reducible exact Fr.refl _ _) | (with_reducible assumption) | (with_reducible refine Fr.drew ?_) | (with_reducible refine Fr.drewN ?_ _) | (with_reducible refine Fr.alloc ?_ _) | ((with_reducible refine Fr.setM ?_ (.inl ?_) _ _); rotate_left; focus (simp; done)) | ((with_reducible refine Fr.setCell ?_ (.inr ?_) _); rotate_left; focus (simp; done)) | ((with_reducible refine Fr.setCell ?_ (.inr ?_) _); rotate_left; focus (simp; omega)))))
  · have ha' : (d.a.size : Int) ≤ 2147483647 := by omega
    by_cases hb : 2147483647 < d.b.size
    · have hb' : (2147483647 : Int) < (d.b.size : Int) := by omega
      go_wp2
      go_ret
      exact BPost.no (by (repeat' (first | (with_reducible exact Fr.refl _ _) | (with_reducible assumption) | (with_reducible refine Fr.drew ?_) | (with_reducible refine Fr.drewN ?_ _) | (with_reducible refine Fr.alloc ?_ _) | ((with_reducible refine Fr.setM ?_ (.inl ?_) _ _); rotate_left; focus (simp; done)) | ((with_reducible refine Fr.setCell ?_ (.inr ?_) _); rotate_left; focus (simp; done)) | ((with_reducible refine Fr.setCell ?_ (.inr ?_) _); rotate_left; focus (simp; omega)))))
    · have hb' : (d.b.size : Int) ≤ 2147483647 := by omega
      go_wp2_with fail
      refine (zz3 _ _ d.prs (HP.out.fr ((Fr.refl (fun _ => False) w).alloc _))).mono ?_
      rintro e w2 ⟨r, rfl, hr, f2⟩
      have F1 := Lib.hid (And.intro hr f2)
      clear hr f2
      cases r with
      | true =>
        have F2 := Lib.hid (And.intro (F1.out.1 rfl) F1.out.2)
        go_wp2_with fail
        go_ret
        exact BPost.yes F2.out.1 ((((Fr.refl (fun _ => False) w).alloc _)).trans0 F2.out.2)
      | false =>
        go_wp2_with fail
        go_ret
        exact BPost.no ((((Fr.refl (fun _ => False) w).alloc _)).trans0 F1.out.2)

set_option maxRecDepth 100000 in
set_option maxHeartbeats 1000000 in
theorem zz1 (w : World) (v : Value) (ds : List DoIn) (h : SDosAt w v ds) : Calls Tryz.prog 24 #[v] w fun e w' => BPost (ds.length ≤ 2147483647 ∧ ∀ d ∈ ds, d.prs.length ≤ 2147483647) w e w' := by
  have HP := Lib.hid h
  obtain ⟨ao, cap, rfl, -⟩ := h
  go_enter Tryz.func24, Tryz.ntmps24
  by_cases hbig : 2147483647 < ds.length
  · have hb : (2147483647 : Int) < (ds.length : Int) := by omega
    go_wp2
    go_ret
    exact BPost.no (Fr.refl _ _)
  · have hb : (ds.length : Int) ≤ 2147483647 := by omega
    go_wp2_with fail
    go_loopg [10] ds.length (fun k c wr => ∃ i : Nat, k + i = ds.length ∧ c = .int .i64 (i : Nat) ∧ (∀ d ∈ ds.take i, d.prs.length ≤ 2147483647) ∧ Fr0 w wr)
    case atStart => exact ⟨0, rfl, rfl, fun d hd => by simp at hd, Fr.refl _ _⟩
    case round =>
      obtain ⟨i, hk, rfl, ht, f⟩ := hrel
      have A := Lib.hid (And.intro hk (And.intro ht f))
      clear hk ht f
      by_cases hi : i < ds.length
      · have hg := List.getElem?_eq_getElem hi
        obtain ⟨ao', cap', e, hr⟩ := HP.out.fr A.out.2.2
        cases e
        obtain ⟨ob, off, pv, rfl, hl, c0, c1, c2, c3, c4, hpv⟩ := hr i _ hg
        have htk : ds.take (i + 1) = ds.take i ++ [ds[i]] := List.take_succ_eq_append_getElem hi
        generalize ds[i] = d at c0 c1 c2 c3 c4 hpv htk
        have PV := Lib.hid (And.intro hpv htk)
        obtain ⟨pa, pc, rfl⟩ := hpv.form
        clear hg hr hpv htk
        go_wp2_with fail
        refine (zz2 _ d _ (PV.out.1.fr ((Fr.refl (fun _ => False) wr).alloc _))).mono ?_
        rintro e w2 ⟨r, rfl, hr2, f2⟩
        have F1 := Lib.hid (And.intro hr2 f2)
        clear hr2 f2
        cases r with
        | true =>
          have F2 := Lib.hid (And.intro (F1.out.1 rfl) F1.out.2)
          go_wp2_with fail
          go_roundg (gk - 1)
          case measure => have := A.out.1; omega
          case rel =>
            refine ⟨i + 1, by have := A.out.1; omega, by simp, fun x hx => ?_, (A.out.2.2.alloc _).trans0 F2.out.2⟩
            rw [PV.out.2, List.mem_append, List.mem_singleton] at hx
            rcases hx with q | rfl
            · exact A.out.2.1 x q
            · exact F2.out.1
        | false =>
          go_wp2_with fail
          go_ret
          exact BPost.no ((A.out.2.2.alloc _).trans0 F1.out.2)
      · have hi' : i = ds.length := by have := A.out.1; omega
        subst hi'
        go_wp2_with fail
        go_ret
        exact BPost.yes ⟨by omega, fun d hd => A.out.2.1 d (by rw [List.take_length]; exact hd)⟩ A.out.2.2

/-- one step is as the laws ask -/
structure RightD (dir : Bool) (d : DoIn) : Prop where
  op : d.op ≤ 10
  a : d.a.size ≤ 12
  b : d.b.size ≤ 12
  prs : d.prs.length ≤ 4
  lo : -1073741824 ≤ d.wt
  hi : d.wt ≤ 1073741824
  loop : dir = false → d.a = d.b → ¬ (2 ≤ d.op ∧ d.op ≤ 4)
  small : ∀ p ∈ d.prs, p.1.size ≤ 8 ∧ p.2.size ≤ 12

set_option maxRecDepth 100000 in
set_option maxHeartbeats 1000000 in
theorem dright_true (w : World) (v : Value) (ds : List DoIn) (h : SDosAt w v ds) (hn : ds.length ≤ 2147483647) (hp : ∀ d ∈ ds, d.prs.length ≤ 2147483647) (most : Nat) :
    Calls Tryz.prog 18 #[v, (.bool true), .int .i64 most] w fun e w' => BPost ((∀ d ∈ ds, RightD true d) ∧ ds.length ≤ most) w e w' := by
  have HP := Lib.hid h
  obtain ⟨ao, cap, rfl, -⟩ := h
  have HS := Lib.hid hp
  clear hp
  go_enter Tryz.func18, Tryz.ntmps18
  have hb : (ds.length : Int) ≤ 2147483647 := by omega
  go_wp2_with fail
  go_loopg [13] ds.length (fun k c wr => ∃ i : Nat, k + i = ds.length ∧ c = .int .i64 (i : Nat) ∧ (∀ d ∈ ds.take i, RightD true d) ∧ Fr0 w wr)
  case atStart => exact ⟨0, rfl, rfl, fun d hd => by simp at hd, Fr.refl _ _⟩
  case round =>
    obtain ⟨i, hk, rfl, ht, f⟩ := hrel
    have A := Lib.hid (And.intro hk (And.intro ht f))
    clear hk ht f
    by_cases hi : i < ds.length
    · have hg := List.getElem?_eq_getElem hi
      obtain ⟨ao', cap', e, hr⟩ := HP.out.fr A.out.2.2
      cases e
      obtain ⟨ob, off, pv, rfl, hl, c0, c1, c2, c3, c4, hpv⟩ := hr i _ hg
      have htk : ds.take (i + 1) = ds.take i ++ [ds[i]] := List.take_succ_eq_append_getElem hi
      have hmem := List.getElem_mem hi
      generalize ds[i] = d at c0 c1 c2 c3 c4 hpv htk hmem
      have PV := Lib.hid (And.intro hpv (And.intro htk hmem))
      obtain ⟨pa, pc, rfl⟩ := hpv.form
      clear hg hr hpv htk hmem
      go_wp2_with fail
      all_goals first
        | (go_ret; exact BPost.no (A.out.2.2.alloc _))
        | skip
      all_goals
        have HD := Lib.hid (show d.op ≤ 10 ∧ d.a.size ≤ 12 ∧ d.b.size ≤ 12 ∧ d.prs.length ≤ 4 ∧ -1073741824 ≤ d.wt ∧ d.wt ≤ 1073741824 ∧ ((true : Bool) = false → d.a = d.b → ¬ (2 ≤ d.op ∧ d.op ≤ 4)) from
          ⟨by omega, by omega, by omega, by omega, by omega, by omega, by first | (intro h1 _; exact absurd h1 (by decide)) | (intro _ h2; exact absurd (congrArg ByteArray.toList h2) (show ¬ d.a.toList = d.b.toList by assumption)) | (intro _ _ hh; have z1 := hh.1; have z2 := hh.2; omega)⟩)
        have PW := Lib.hid (show PrAt (wr.alloc (.cells #[.int .u8 d.op, .string d.a, .string d.b, .int .i64 d.wt, .slice pa d.prs.length pc] 28)) (.slice pa d.prs.length pc) d.prs from PV.out.1.fr ((Fr.refl (fun _ => False) wr).alloc _))
        have AW := Lib.hid (show Fr0 w (wr.alloc (.cells #[.int .u8 d.op, .string d.a, .string d.b, .int .i64 d.wt, .slice pa d.prs.length pc] 28)) from A.out.2.2.alloc _)
        go_loopg [72] d.prs.length (fun k c w5 => ∃ j : Nat, k + j = d.prs.length ∧ c = .int .i64 (j : Nat) ∧ (∀ p ∈ d.prs.take j, p.1.size ≤ 8 ∧ p.2.size ≤ 12) ∧ Fr0 (wr.alloc (.cells #[.int .u8 d.op, .string d.a, .string d.b, .int .i64 d.wt, .slice pa d.prs.length pc] 28)) w5)
        case atStart => exact ⟨0, rfl, rfl, fun p hp => by simp at hp, Fr.refl _ _⟩
        case round =>
          obtain ⟨j, hk, rfl, ht, f⟩ := hrel
          have C := Lib.hid (And.intro hk (And.intro ht f))
          clear hk ht f
          by_cases hj : j < d.prs.length
          · have hg := List.getElem?_eq_getElem hj
            obtain ⟨ao3, cap3, e3, hr3⟩ := PW.out.fr C.out.2.2
            cases e3
            obtain ⟨ob2, off2, rfl, hl2, e0, e1⟩ := hr3 j _ hg
            have htk2 : d.prs.take (j + 1) = d.prs.take j ++ [d.prs[j]] := List.take_succ_eq_append_getElem hj
            generalize d.prs[j] = p at e0 e1 htk2
            have TK := Lib.hid htk2
            clear hg hr3 htk2
            go_wp2_with fail
            all_goals first
              | (go_ret; exact BPost.no ((AW.out.trans0 C.out.2.2).alloc _))
              | skip
            have PP8 := Lib.hid (show p.1.size ≤ 8 ∧ p.2.size ≤ 12 from ⟨by omega, by omega⟩)
            go_roundg (d.prs.length - j - 1)
            case measure => have := C.out.1; omega
            case rel =>
              refine ⟨j + 1, by have := C.out.1; omega, by simp, fun x hx => ?_, C.out.2.2.alloc _⟩
              rw [TK.out, List.mem_append, List.mem_singleton] at hx
              rcases hx with q | rfl
              · exact C.out.2.1 x q
              · exact PP8.out
          · have hj' : j = d.prs.length := by have := C.out.1; omega
            subst hj'
            go_wp2_with fail
            go_roundg (ds.length - i - 1)
            case measure => have := A.out.1; omega
            case rel =>
              refine ⟨i + 1, by have := A.out.1; omega, by simp, fun x hx => ?_, AW.out.trans0 C.out.2.2⟩
              rw [PV.out.2.1, List.mem_append, List.mem_singleton] at hx
              rcases hx with q | rfl
              · exact A.out.2.1 x q
              · exact ⟨HD.out.1, HD.out.2.1, HD.out.2.2.1, HD.out.2.2.2.1, HD.out.2.2.2.2.1, HD.out.2.2.2.2.2.1, fun hq => HD.out.2.2.2.2.2.2 (by first | trivial | exact hq | (cases hq)), fun p hp => C.out.2.1 p (by rw [List.take_length]; exact hp)⟩
    · have hi' : i = ds.length := by have := A.out.1; omega
      subst hi'
      by_cases hq : ds.length ≤ most
      · have hq' : (ds.length : Int) ≤ (most : Int) := by omega
        go_wp2_with fail
        go_ret
        exact ⟨_, rfl, fun _ => ⟨fun d hd => A.out.2.1 d (by rw [List.take_length]; exact hd), hq⟩, A.out.2.2⟩
      · have hq' : (most : Int) < (ds.length : Int) := by omega
        go_wp2_with fail
        go_ret
        exact ⟨_, rfl, (fun q => by simp at q), A.out.2.2⟩

set_option maxRecDepth 100000 in
set_option maxHeartbeats 1000000 in
theorem dright_false (w : World) (v : Value) (ds : List DoIn) (h : SDosAt w v ds) (hn : ds.length ≤ 2147483647) (hp : ∀ d ∈ ds, d.prs.length ≤ 2147483647) (most : Nat) :
    Calls Tryz.prog 18 #[v, (.bool false), .int .i64 most] w fun e w' => BPost ((∀ d ∈ ds, RightD false d) ∧ ds.length ≤ most) w e w' := by
  have HP := Lib.hid h
  obtain ⟨ao, cap, rfl, -⟩ := h
  have HS := Lib.hid hp
  clear hp
  go_enter Tryz.func18, Tryz.ntmps18
  have hb : (ds.length : Int) ≤ 2147483647 := by omega
  go_wp2_with fail
  go_loopg [13] ds.length (fun k c wr => ∃ i : Nat, k + i = ds.length ∧ c = .int .i64 (i : Nat) ∧ (∀ d ∈ ds.take i, RightD false d) ∧ Fr0 w wr)
  case atStart => exact ⟨0, rfl, rfl, fun d hd => by simp at hd, Fr.refl _ _⟩
  case round =>
    obtain ⟨i, hk, rfl, ht, f⟩ := hrel
    have A := Lib.hid (And.intro hk (And.intro ht f))
    clear hk ht f
    by_cases hi : i < ds.length
    · have hg := List.getElem?_eq_getElem hi
      obtain ⟨ao', cap', e, hr⟩ := HP.out.fr A.out.2.2
      cases e
      obtain ⟨ob, off, pv, rfl, hl, c0, c1, c2, c3, c4, hpv⟩ := hr i _ hg
      have htk : ds.take (i + 1) = ds.take i ++ [ds[i]] := List.take_succ_eq_append_getElem hi
      have hmem := List.getElem_mem hi
      generalize ds[i] = d at c0 c1 c2 c3 c4 hpv htk hmem
      have PV := Lib.hid (And.intro hpv (And.intro htk hmem))
      obtain ⟨pa, pc, rfl⟩ := hpv.form
      clear hg hr hpv htk hmem
      go_wp2_with fail
      all_goals first
        | (go_ret; exact BPost.no (A.out.2.2.alloc _))
        | skip
      all_goals
        have HD := Lib.hid (show d.op ≤ 10 ∧ d.a.size ≤ 12 ∧ d.b.size ≤ 12 ∧ d.prs.length ≤ 4 ∧ -1073741824 ≤ d.wt ∧ d.wt ≤ 1073741824 ∧ ((false : Bool) = false → d.a = d.b → ¬ (2 ≤ d.op ∧ d.op ≤ 4)) from
          ⟨by omega, by omega, by omega, by omega, by omega, by omega, by first | (intro h1 _; exact absurd h1 (by decide)) | (intro _ h2; exact absurd (congrArg ByteArray.toList h2) (show ¬ d.a.toList = d.b.toList by assumption)) | (intro _ _ hh; have z1 := hh.1; have z2 := hh.2; omega)⟩)
        have PW := Lib.hid (show PrAt (wr.alloc (.cells #[.int .u8 d.op, .string d.a, .string d.b, .int .i64 d.wt, .slice pa d.prs.length pc] 28)) (.slice pa d.prs.length pc) d.prs from PV.out.1.fr ((Fr.refl (fun _ => False) wr).alloc _))
        have AW := Lib.hid (show Fr0 w (wr.alloc (.cells #[.int .u8 d.op, .string d.a, .string d.b, .int .i64 d.wt, .slice pa d.prs.length pc] 28)) from A.out.2.2.alloc _)
        go_loopg [72] d.prs.length (fun k c w5 => ∃ j : Nat, k + j = d.prs.length ∧ c = .int .i64 (j : Nat) ∧ (∀ p ∈ d.prs.take j, p.1.size ≤ 8 ∧ p.2.size ≤ 12) ∧ Fr0 (wr.alloc (.cells #[.int .u8 d.op, .string d.a, .string d.b, .int .i64 d.wt, .slice pa d.prs.length pc] 28)) w5)
        case atStart => exact ⟨0, rfl, rfl, fun p hp => by simp at hp, Fr.refl _ _⟩
        case round =>
          obtain ⟨j, hk, rfl, ht, f⟩ := hrel
          have C := Lib.hid (And.intro hk (And.intro ht f))
          clear hk ht f
          by_cases hj : j < d.prs.length
          · have hg := List.getElem?_eq_getElem hj
            obtain ⟨ao3, cap3, e3, hr3⟩ := PW.out.fr C.out.2.2
            cases e3
            obtain ⟨ob2, off2, rfl, hl2, e0, e1⟩ := hr3 j _ hg
            have htk2 : d.prs.take (j + 1) = d.prs.take j ++ [d.prs[j]] := List.take_succ_eq_append_getElem hj
            generalize d.prs[j] = p at e0 e1 htk2
            have TK := Lib.hid htk2
            clear hg hr3 htk2
            go_wp2_with fail
            all_goals first
              | (go_ret; exact BPost.no ((AW.out.trans0 C.out.2.2).alloc _))
              | skip
            have PP8 := Lib.hid (show p.1.size ≤ 8 ∧ p.2.size ≤ 12 from ⟨by omega, by omega⟩)
            go_roundg (d.prs.length - j - 1)
            case measure => have := C.out.1; omega
            case rel =>
              refine ⟨j + 1, by have := C.out.1; omega, by simp, fun x hx => ?_, C.out.2.2.alloc _⟩
              rw [TK.out, List.mem_append, List.mem_singleton] at hx
              rcases hx with q | rfl
              · exact C.out.2.1 x q
              · exact PP8.out
          · have hj' : j = d.prs.length := by have := C.out.1; omega
            subst hj'
            go_wp2_with fail
            go_roundg (ds.length - i - 1)
            case measure => have := A.out.1; omega
            case rel =>
              refine ⟨i + 1, by have := A.out.1; omega, by simp, fun x hx => ?_, AW.out.trans0 C.out.2.2⟩
              rw [PV.out.2.1, List.mem_append, List.mem_singleton] at hx
              rcases hx with q | rfl
              · exact A.out.2.1 x q
              · exact ⟨HD.out.1, HD.out.2.1, HD.out.2.2.1, HD.out.2.2.2.1, HD.out.2.2.2.2.1, HD.out.2.2.2.2.2.1, fun hq => HD.out.2.2.2.2.2.2 (by first | trivial | exact hq | (cases hq)), fun p hp => C.out.2.1 p (by rw [List.take_length]; exact hp)⟩
    · have hi' : i = ds.length := by have := A.out.1; omega
      subst hi'
      by_cases hq : ds.length ≤ most
      · have hq' : (ds.length : Int) ≤ (most : Int) := by omega
        go_wp2_with fail
        go_ret
        exact ⟨_, rfl, fun _ => ⟨fun d hd => A.out.2.1 d (by rw [List.take_length]; exact hd), hq⟩, A.out.2.2⟩
      · have hq' : (most : Int) < (ds.length : Int) := by omega
        go_wp2_with fail
        go_ret
        exact ⟨_, rfl, (fun q => by simp at q), A.out.2.2⟩

theorem dright (w : World) (v : Value) (ds : List DoIn) (h : SDosAt w v ds) (hn : ds.length ≤ 2147483647) (hp : ∀ d ∈ ds, d.prs.length ≤ 2147483647) (dir : Bool) (most : Nat) :
    Calls Tryz.prog 18 #[v, .bool dir, .int .i64 most] w fun e w' => BPost ((∀ d ∈ ds, RightD dir d) ∧ ds.length ≤ most) w e w' := by
  cases dir
  · exact dright_false w v ds h hn hp most
  · exact dright_true w v ds h hn hp most
end Go.Proofs.YtbafaadmlpamiaaGreatDoor
