/- A step of the store of lists: a vertex is taken out. -/
import Derived.Test.YtbafaadmlpamiaaGreatDoorSto5
namespace Go.Proofs.YtbafaadmlpamiaaGreatDoor
open Go Go.Hy Go.RowKit

theorem enc_take {α : Type} (enc : α → List Value) (k : Nat) (hk : ∀ p, (enc p).length = k) : ∀ (l : List α) (i : Nat), encL enc (l.take i) = (encL enc l).take (i * k)
  | [], i => by simp [encL]
  | q :: l, 0 => by simp [encL]
  | q :: l, i + 1 => by
    have e : ∀ m : List α, encL enc (q :: m) = enc q ++ encL enc m := fun m => rfl
    rw [List.take_succ_cons, e, e, enc_take enc k hk l i, List.take_append, hk, show (i + 1) * k - k = i * k by rw [Nat.add_mul]; omega, List.take_of_length_le (show (enc q).length ≤ (i + 1) * k from by rw [hk, Nat.add_mul]; omega)]

theorem enc_drop {α : Type} (enc : α → List Value) (k : Nat) (hk : ∀ p, (enc p).length = k) : ∀ (l : List α) (i : Nat), encL enc (l.drop i) = (encL enc l).drop (i * k)
  | [], i => by simp [encL]
  | q :: l, 0 => by simp [encL]
  | q :: l, i + 1 => by
    have e : ∀ m : List α, encL enc (q :: m) = enc q ++ encL enc m := fun m => rfl
    rw [List.drop_succ_cons, e, enc_drop enc k hk l i, List.drop_append, hk, show (i + 1) * k - k = i * k by rw [Nat.add_mul]; omega, List.drop_of_length_le (show (enc q).length ≤ (i + 1) * k from by rw [hk, Nat.add_mul]; omega), List.nil_append]

theorem yld_take {w : World} {ob n cap : Nat} {xs : List Value} (h : Reads w (.slice (some ⟨ob, 0, none⟩) n cap) n xs) (m c k : Nat) : Yld w (.slice (some ⟨ob, 0, none⟩) m c) m (xs.take k) := by
  obtain ⟨ao, cap', e, _, hr⟩ := h
  cases e
  refine .inr ⟨_, c, rfl, fun j u hj => ?_⟩
  have hj' : xs[j]? = some u := by
    rw [List.getElem?_take] at hj
    split at hj
    · exact hj
    · cases hj
  obtain ⟨ob', e, _, h2⟩ := hr j u hj'
  cases e
  rw [Addr.add_lit, Nat.zero_add]
  exact h2

theorem yld_drop {w : World} {ob n cap : Nat} {xs : List Value} (h : Reads w (.slice (some ⟨ob, 0, none⟩) n cap) n xs) (m c o : Nat) : Yld w (.slice (some ⟨ob, o, none⟩) m c) m (xs.drop o) := by
  obtain ⟨ao, cap', e, _, hr⟩ := h
  cases e
  refine .inr ⟨_, c, rfl, fun j u hj => ?_⟩
  rw [List.getElem?_drop] at hj
  obtain ⟨ob', e, _, h2⟩ := hr (o + j) u hj
  cases e
  rw [Addr.add_lit]
  exact h2

theorem cut_mem {α : Type} {l : List α} {i : Nat} {x : α} (h : x ∈ l.take i ++ l.drop (i + 1)) : x ∈ l := by
  rcases List.mem_append.1 h with q | q
  · exact List.mem_of_mem_take q
  · exact List.mem_of_mem_drop q

theorem zip_cut {α β : Type} {l : List α} {m : List β} (h : m.length = l.length) (i : Nat) : (l.take i ++ l.drop (i + 1)).zip (m.take i ++ m.drop (i + 1)) = (l.zip m).take i ++ (l.zip m).drop (i + 1) := by
  rw [List.zip_append (by rw [List.length_take, List.length_take, h])]
  simp only [List.zip, List.take_zipWith, List.drop_zipWith]

theorem PtsIn.cut {w : World} {p : Nat → Prop} {base : Nat} {v : Value} {ps : List SP} {vs : List Value} {i n : Nat} (hn : n = i + (ps.length - (i + 1))) (ho : w.ownsRow base 96 4 v n ((encL encPt (ps.zip vs)).take (i * 4) ++ (encL encPt (ps.zip vs)).drop ((i + 1) * 4))) (hi : i < ps.length) (hv : vs.length = ps.length)
    (hold : ∀ (i : Nat) (l : SP) (u : Value), ps[i]? = some l → vs[i]? = some u → PairsIn w p u l.es) (hb : ∀ q, base ≤ q → p q) : PtsIn w p v (ps.take i ++ ps.drop (i + 1)) := by
  subst hn
  have hl : (ps.take i ++ ps.drop (i + 1)).length = i + (ps.length - (i + 1)) := by rw [List.length_append, List.length_take, List.length_drop]; omega
  refine ⟨vs.take i ++ vs.drop (i + 1), by simp [hv], ?_, fun q hq => ⟨hb q (ho.lt q hq).1, (ho.lt q hq).2⟩, fun j l u h1 h2 => ?_⟩
  · rw [zip_cut hv, hl]
    have e : encL encPt ((ps.zip vs).take i ++ (ps.zip vs).drop (i + 1)) = (encL encPt (ps.zip vs)).take (i * 4) ++ (encL encPt (ps.zip vs)).drop ((i + 1) * 4) := by
      rw [← enc_take encPt 4 (fun _ => rfl), ← enc_drop encPt 4 (fun _ => rfl)]
      simp [encL]
    rw [e]
    exact own_slice ho
  · have hz : (l, u) ∈ (ps.take i ++ ps.drop (i + 1)).zip (vs.take i ++ vs.drop (i + 1)) := List.mem_of_getElem? (List.getElem?_zip_eq_some.2 ⟨h1, h2⟩)
    rw [zip_cut hv] at hz
    obtain ⟨k, hk⟩ := List.mem_iff_getElem?.1 (cut_mem hz)
    obtain ⟨g1, g2⟩ := List.getElem?_zip_eq_some.1 hk
    exact hold k l u g1 g2

/-- what the region reads -/
structure S20 (sb ob n cap : Nat) (w : World) : Prop where
  pts : w.cell? ⟨sb, 7, none⟩ = some (.slice (some ⟨ob, 0, none⟩) n cap)
  ls : sb < w.heap.size

theorem S20.fr {sb ob n cap : Nat} {w w' : World} (z : S20 sb ob n cap w) (f : Fr0 w w') : S20 sb ob n cap w' := ⟨(f.cell (p := ⟨sb, 7, none⟩) z.ls (fun q => q)).trans z.pts, Nat.lt_of_lt_of_le z.ls f.size⟩

theorem S20.out {sb ob n cap : Nat} {w : World} (z : S20 sb ob n cap w) : w.cell? ⟨sb, 7, none⟩ = some (.slice (some ⟨ob, 0, none⟩) n cap) := z.pts

theorem w64k' {n k : Int} (h : n = k) (lo : 0 ≤ k) (hi : k ≤ 1000000) : IntKind.i64.wrap n = k := by
  subst h
  rw [IntKind.wrap_i64]
  omega

set_option linter.unusedSimpArgs false in
set_option maxRecDepth 100000 in
set_option maxHeartbeats 1000000 in
theorem sto1_yes (w : World) (sb : Nat) (s : St) (h : ZRep w sb s) (hs : Small s) (a b : ByteArray) (wt : Int) (pv : Value) (prs : List PP) (hp : PrAt w pv prs) (i : Nat) (hi : ptI s.ps a = some i) (hn : ∀ l ∈ s.ls, ¬ (l.a = a ∨ l.b = a)) :
    Calls Tryz.prog 28 #[.pointer (some ⟨sb, 0, none⟩), doS 1 a b wt pv] w fun e w' => StoP w sb {} { s with ps := s.ps.take i ++ s.ps.drop (i + 1) } e w' := by
  have H := Lib.hid h
  have hlb := h.lt
  have HS := Lib.hid hs
  have HN := Lib.hid hn
  have HI := Lib.hid hi
  obtain ⟨hil, xi, hxi, -⟩ := ptI_lt hi
  clear h hs hn hi
  obtain ⟨pa, pc, rfl⟩ := hp.form
  clear hp
  have W0 := Lib.hid (w28_cells w 1 a b wt (.slice pa prs.length pc))
  go_enter Tryz.func28, Tryz.ntmps28
  go_wp2_with fail
  go_quiet (fail)
  go_wp2_with fail
  refine (point44 _ sb s (H.out.fr0 (by (repeat' (first | (with_reducible exact Fr.refl _ _) | (with_reducible assumption) | (with_reducible refine Fr.drew ?_) | (with_reducible refine Fr.drewN ?_ _) | (with_reducible refine Fr.alloc ?_ _) | ((with_reducible refine Fr.setM ?_ (.inl ?_) _ _); rotate_left; focus (simp; done)) | ((with_reducible refine Fr.setCell ?_ (.inr ?_) _); rotate_left; focus (simp; done)) | ((with_reducible refine Fr.setCell ?_ (.inr ?_) _); rotate_left; focus (simp; omega)))))) HS.out.ps a).mono ?_
  rintro e w2 ⟨rfl, f2⟩
  have F2 := Lib.hid (show Fr0 (W28 w 1 a b wt (.slice pa prs.length pc)) w2 from Fr.trans0 (by (repeat' (first | (with_reducible exact Fr.refl _ _) | (with_reducible assumption) | (with_reducible refine Fr.drew ?_) | (with_reducible refine Fr.drewN ?_ _) | (with_reducible refine Fr.alloc ?_ _) | ((with_reducible refine Fr.setM ?_ (.inl ?_) _ _); rotate_left; focus (simp; done)) | ((with_reducible refine Fr.setCell ?_ (.inr ?_) _); rotate_left; focus (simp; done)) | ((with_reducible refine Fr.setCell ?_ (.inr ?_) _); rotate_left; focus (simp; omega))))) f2)
  clear f2
  rw [HI.out, plc_some]
  go_wp2_with fail
  refine (link45 _ sb s (H.out.fr0 (W0.out.2.2.2.trans0 F2.out)) HS.out.ls a b).mono ?_
  rintro e w3 ⟨rfl, f3⟩
  have F3 := Lib.hid (F2.out.trans0 f3)
  clear f3
  have FW3 := Lib.hid (W0.out.2.2.2.trans0 F3.out)
  have sz3 : w.heap.size + 1 + 1 < w3.heap.size := (W0.out.2.2.1.fr F3.out (fun q => q)).lt
  have hsb3 : sb < w3.heap.size := by omega
  have hne0 : sb ≠ w.heap.size := by omega
  have hne1 : sb ≠ w.heap.size + 1 := by omega
  have hne2 : sb ≠ w.heap.size + 1 + 1 := by omega
  obtain ⟨b1, b2, b3, b4, pv0, lv0, hc0, hpt0, hlk0⟩ := H.out
  have hpt : PtsIn w3 (fun q => q ≠ sb ∧ q ≠ w.heap.size + 1) pv0 s.ps := (hpt0.imp fun q h1 h2 => ⟨h1, by omega⟩).fr FW3.out (fun _ _ _ q => q)
  have hlk : LinksIn w3 (fun q => q ≠ sb ∧ q ≠ w.heap.size + 1) lv0 s.ls := (hlk0.imp fun q h1 h2 => ⟨h1, by omega⟩).fr FW3.out (fun _ _ _ q => q)
  have hc := hc0.fr FW3.out (fun q => q)
  have HFZ := Lib.hid (hc.free 7)
  obtain ⟨ob, cap, _, rfl, hob3, -⟩ := hpt.at_ hxi
  obtain ⟨la, lc, rfl, hlc⟩ := hlk.form
  have HC3 := Lib.hid (And.intro hc (And.intro hpt hlk))
  obtain ⟨vs, hv1, hv2, -, hv4⟩ := hpt
  have hcap : s.ps.length ≤ cap := by
    obtain ⟨_, _, e, h, _⟩ := hv2
    cases e
    exact h
  have VS := Lib.hid (And.intro hv1 (And.intro hv2 hv4))
  have D3 := Lib.hid (W0.out.1.fr F3.out (fun q => q))
  have X3 := Lib.hid (W0.out.2.2.1.fr F3.out (fun q => q))
  have S3 := Lib.hid (show S20 sb ob s.ps.length cap w3 from ⟨hc.cell 7 _ rfl, hsb3⟩)
  have d0 := D3.out.cell 0 _ rfl
  have c8 := hc.cell 8 _ rfl
  have XI := Lib.hid hxi
  clear hc0 hpt0 hlk0 hc hlk hv1 hv2 hv4 hxi
  go_wp2_with fail
  have hs5 : (s.ls.length : Int) ≤ 400000 := by have := HS.out.ls; omega
  go_loopg [74] s.ls.length (fun n c wr => ∃ j : Nat, n + j = s.ls.length ∧ c = .int .i64 (j : Nat) ∧ Fr0 w3 wr)
  case atStart => exact ⟨0, rfl, rfl, by (repeat' (first | (with_reducible exact Fr.refl _ _) | (with_reducible assumption) | (with_reducible refine Fr.drew ?_) | (with_reducible refine Fr.drewN ?_ _) | (with_reducible refine Fr.alloc ?_ _) | ((with_reducible refine Fr.setM ?_ (.inl ?_) _ _); rotate_left; focus (simp; done)) | ((with_reducible refine Fr.setCell ?_ (.inr ?_) _); rotate_left; focus (simp; done)) | ((with_reducible refine Fr.setCell ?_ (.inr ?_) _); rotate_left; focus (simp; omega))))⟩
  case round =>
    obtain ⟨j, hk, rfl, f⟩ := hrel
    have A := Lib.hid (And.intro hk f)
    clear hk f
    by_cases hj : j < s.ls.length
    · have hg := List.getElem?_eq_getElem hj
      obtain ⟨ol, cl, xv, e, hl2, _, c0, c1, c2, c3, hxv⟩ := (LinksIn.fr HC3.out.2.2 A.out.2 (fun _ _ _ q => q)).at_ hg
      cases e
      have hnl := HN.out _ (List.getElem_mem hj)
      generalize s.ls[j] = x at c0 c1 c2 c3 hxv hnl
      obtain ⟨xa, xc, rfl⟩ := hxv.form
      have t1 := text_ne (fun e => hnl (.inl e) : ¬ x.a = a)
      have t2 := text_ne (fun e => hnl (.inr e) : ¬ x.b = a)
      clear hg hxv hnl
      go_wp2_with fail
      go_roundg (gk - 1)
      case measure => have := A.out.1; omega
      case rel => exact ⟨j + 1, by have := A.out.1; omega, by simp, A.out.2.alloc _⟩
    · have hj' : j = s.ls.length := by have := A.out.1; omega
      subst hj'
      have x0 := (X3.out.fr A.out.2 (fun q => q)).cell 0 _ rfl
      have hi0 : (0 : Int) ≤ (i : Int) := by omega
      have hi1 : (i : Int) ≤ (cap : Int) := by omega
      have hi2 : (i : Int) ≤ (s.ps.length : Int) := by omega
      have hi3 : (0 : Int) ≤ ((i + 1 : Nat) : Int) := by omega
      have hi4 : ((i + 1 : Nat) : Int) ≤ (s.ps.length : Int) := by omega
      have hi5 : ((i + 1 : Nat) : Int) ≤ (cap : Int) := by omega
      have hi6 : (i : Int) + 1 ≤ (s.ps.length : Int) := by omega
      have hi7 : (i : Int) + 1 ≤ (cap : Int) := by omega
      have hi8 : (0 : Int) ≤ (i : Int) + 1 := by omega
      have hi9 : (s.ps.length : Int) ≤ (cap : Int) := by omega
      have hs4 : (s.ps.length : Int) ≤ 400000 := by have := HS.out.ps; omega
      have hw1 : IntKind.i64.wrap ((i : Int) + 1) = ((i + 1 : Nat) : Int) := w64k' (by omega) (by omega) (by omega)
      go_wp2_with fail
      have FR := A.out.2
      clear x0 d0
      by_cases hce : cap = i + 1
      · subst hce
        have hz1 : (i : Int) ≤ (i : Int) + 1 := by omega
        have hz2 : ¬ ((i : Int) + 1 < (i : Int)) := by omega
        refine OrdS.start (S := S20 sb ob s.ps.length (i + 1)) (m := 19) (by kernel_rfl) ?_
        have S4 := Lib.hid (S3.out.fr FR)
        have hHeld := S4.out.fr (show Fr0 wr wr.drew from by (repeat' (first | (with_reducible exact Fr.refl _ _) | (with_reducible assumption) | (with_reducible refine Fr.drew ?_) | (with_reducible refine Fr.drewN ?_ _) | (with_reducible refine Fr.alloc ?_ _) | ((with_reducible refine Fr.setM ?_ (.inl ?_) _ _); rotate_left; focus (simp; done)) | ((with_reducible refine Fr.setCell ?_ (.inr ?_) _); rotate_left; focus (simp; done)) | ((with_reducible refine Fr.setCell ?_ (.inr ?_) _); rotate_left; focus (simp; omega)))))
        (refine OrdS.take (i := 0) (v := ?_) rfl (by kernel_rfl) (by kernel_rfl) (by kernel_rfl) (by kernel_rfl) (fun _ _ _ h => h) (Or.inl ⟨by rfl, ?_⟩) hHeld ?_; rotate_left; focus (intro w' hSw; replace hSw := hSw.out; go_simp; try with_reducible rfl); (try simp only [Act.put, List.setIfInBounds_toArray, List.set_cons_zero, List.set_cons_succ]))
        (refine OrdS.take (i := 2) (v := ?_) rfl (by kernel_rfl) (by kernel_rfl) (by kernel_rfl) (by kernel_rfl) (fun _ _ _ h => h) (Or.inl ⟨by rfl, ?_⟩) hHeld ?_; rotate_left; focus (intro w' hSw; replace hSw := hSw.out; go_simp; try with_reducible rfl); (try simp only [Act.put, List.setIfInBounds_toArray, List.set_cons_zero, List.set_cons_succ]))
        (refine OrdS.take (i := 3) (v := ?_) rfl (by kernel_rfl) (by kernel_rfl) (by kernel_rfl) (by kernel_rfl) (fun _ _ _ h => h) (Or.inl ⟨by rfl, ?_⟩) hHeld ?_; rotate_left; focus (intro w' hSw; replace hSw := hSw.out; go_simp; try with_reducible rfl); (try simp only [Act.put, List.setIfInBounds_toArray, List.set_cons_zero, List.set_cons_succ]))
        (refine OrdS.take (i := 4) (v := ?_) rfl (by kernel_rfl) (by kernel_rfl) (by kernel_rfl) (by kernel_rfl) (fun _ _ _ h => h) (Or.inl ⟨by rfl, ?_⟩) hHeld ?_; rotate_left; focus (intro w' hSw; replace hSw := hSw.out; go_simp; try with_reducible rfl); (try simp only [Act.put, List.setIfInBounds_toArray, List.set_cons_zero, List.set_cons_succ]))
        (refine OrdS.take (i := 5) (v := ?_) rfl (by kernel_rfl) (by kernel_rfl) (by kernel_rfl) (by kernel_rfl) (fun _ _ _ h => h) (Or.inl ⟨by rfl, ?_⟩) hHeld ?_; rotate_left; focus (intro w' hSw; replace hSw := hSw.out; go_simp; try with_reducible rfl); (try simp only [Act.put, List.setIfInBounds_toArray, List.set_cons_zero, List.set_cons_succ]))
        (refine OrdS.take (i := 6) (v := ?_) rfl (by kernel_rfl) (by kernel_rfl) (by kernel_rfl) (by kernel_rfl) (fun _ _ _ h => h) (Or.inl ⟨by rfl, ?_⟩) hHeld ?_; rotate_left; focus (intro w' hSw; replace hSw := hSw.out; go_simp; try with_reducible rfl); (try simp only [Act.put, List.setIfInBounds_toArray, List.set_cons_zero, List.set_cons_succ]))
        (refine OrdS.take (i := 7) (v := ?_) rfl (by kernel_rfl) (by kernel_rfl) (by kernel_rfl) (by kernel_rfl) (fun _ _ _ h => h) (Or.inl ⟨by rfl, ?_⟩) hHeld ?_; rotate_left; focus (intro w' hSw; replace hSw := hSw.out; go_simp; try with_reducible rfl); (try simp only [Act.put, List.setIfInBounds_toArray, List.set_cons_zero, List.set_cons_succ]))
        (refine OrdS.take (i := 9) (v := ?_) rfl (by kernel_rfl) (by kernel_rfl) (by kernel_rfl) (by kernel_rfl) (fun _ _ _ h => h) (Or.inl ⟨by rfl, ?_⟩) hHeld ?_; rotate_left; focus (intro w' hSw; replace hSw := hSw.out; go_simp; try with_reducible rfl); (try simp only [Act.put, List.setIfInBounds_toArray, List.set_cons_zero, List.set_cons_succ]))
        (refine OrdS.take (i := 10) (v := ?_) rfl (by kernel_rfl) (by kernel_rfl) (by kernel_rfl) (by kernel_rfl) (fun _ _ _ h => h) (Or.inl ⟨by rfl, ?_⟩) hHeld ?_; rotate_left; focus (intro w' hSw; replace hSw := hSw.out; go_simp; try with_reducible rfl); (try simp only [Act.put, List.setIfInBounds_toArray, List.set_cons_zero, List.set_cons_succ]))
        (refine OrdS.take (i := 11) (v := ?_) rfl (by kernel_rfl) (by kernel_rfl) (by kernel_rfl) (by kernel_rfl) (fun _ _ _ h => h) (Or.inl ⟨by rfl, ?_⟩) hHeld ?_; rotate_left; focus (intro w' hSw; replace hSw := hSw.out; go_simp; try with_reducible rfl); (try simp only [Act.put, List.setIfInBounds_toArray, List.set_cons_zero, List.set_cons_succ]))
        (refine OrdS.take (i := 12) (v := ?_) rfl (by kernel_rfl) (by kernel_rfl) (by kernel_rfl) (by kernel_rfl) (fun _ _ _ h => h) (Or.inl ⟨by rfl, ?_⟩) hHeld ?_; rotate_left; focus (intro w' hSw; replace hSw := hSw.out; go_simp; try with_reducible rfl); (try simp only [Act.put, List.setIfInBounds_toArray, List.set_cons_zero, List.set_cons_succ]))
        (refine OrdS.take (i := 13) (v := ?_) rfl (by kernel_rfl) (by kernel_rfl) (by kernel_rfl) (by kernel_rfl) (fun _ _ _ h => h) (Or.inl ⟨by rfl, ?_⟩) hHeld ?_; rotate_left; focus (intro w' hSw; replace hSw := hSw.out; go_simp; try with_reducible rfl); (try simp only [Act.put, List.setIfInBounds_toArray, List.set_cons_zero, List.set_cons_succ]))
        (refine OrdS.take (i := 14) (v := ?_) rfl (by kernel_rfl) (by kernel_rfl) (by kernel_rfl) (by kernel_rfl) (fun _ _ _ h => h) (Or.inl ⟨by rfl, ?_⟩) hHeld ?_; rotate_left; focus (intro w' hSw; replace hSw := hSw.out; go_simp; try with_reducible rfl); (try simp only [Act.put, List.setIfInBounds_toArray, List.set_cons_zero, List.set_cons_succ]))
        (refine OrdS.take (i := 15) (v := ?_) rfl (by kernel_rfl) (by kernel_rfl) (by kernel_rfl) (by kernel_rfl) (fun _ _ _ h => h) (Or.inl ⟨by rfl, ?_⟩) hHeld ?_; rotate_left; focus (intro w' hSw; replace hSw := hSw.out; go_simp; try with_reducible rfl); (try simp only [Act.put, List.setIfInBounds_toArray, List.set_cons_zero, List.set_cons_succ]))
        (refine OrdS.one (i := 1) rfl (by kernel_rfl) ?_; intro K hK)
        go_simp
        refine hK.out _ _ (fun _ => S4.out.fr (by (repeat' (first | (with_reducible exact Fr.refl _ _) | (with_reducible assumption) | (with_reducible refine Fr.drew ?_) | (with_reducible refine Fr.drewN ?_ _) | (with_reducible refine Fr.alloc ?_ _) | ((with_reducible refine Fr.setM ?_ (.inl ?_) _ _); rotate_left; focus (simp; done)) | ((with_reducible refine Fr.setCell ?_ (.inr ?_) _); rotate_left; focus (simp; done)) | ((with_reducible refine Fr.setCell ?_ (.inr ?_) _); rotate_left; focus (simp; omega)))))) ?_
        clear hK K
        (try simp only [Act.put, List.setIfInBounds_toArray, List.set_cons_zero, List.set_cons_succ])
        (refine OrdS.one (i := 8) rfl (by kernel_rfl) ?_; intro K hK)
        have YL := Reads.fr VS.out.2.1 FR (fun _ _ _ q => q)
        refine step_appG 89 (by rfl) (.tmp 94) (.tmp 100) (by rfl) 96 _ 4 64 Tryz.underlying89 info96 rfl (by decide) (by decide) wr.heap.size (.slice (some ⟨wr.heap.size, 0, none⟩) 0 0) 0 [] (by rfl) (own_empty (heap_alloc_new _ _)) _ i ((encL encPt (s.ps.zip vs)).take (i * 4)) (by rfl) (Yld.fr (yld_take YL _ _ _) (show Fr0 wr _ from by (repeat' (first | (with_reducible exact Fr.refl _ _) | (with_reducible assumption) | (with_reducible refine Fr.drew ?_) | (with_reducible refine Fr.drewN ?_ _) | (with_reducible refine Fr.alloc ?_ _) | ((with_reducible refine Fr.setM ?_ (.inl ?_) _ _); rotate_left; focus (simp; done)) | ((with_reducible refine Fr.setCell ?_ (.inr ?_) _); rotate_left; focus (simp; done)) | ((with_reducible refine Fr.setCell ?_ (.inr ?_) _); rotate_left; focus (simp; omega))))) (fun a n c e h => by cases e; exact ⟨Nat.lt_of_lt_of_le hob3 FR.size, fun q => q⟩)) (by rw [List.length_take, zip_enc encPt 4 (fun _ => rfl) VS.out.1]; omega) (fun u hu => one_ps VS.out.2.1 VS.out.2.2 u (List.mem_of_mem_take hu)) (by omega) (by simp) ?_
        intro v52 w52 ho52 f52 hat52
        rw [Nat.zero_add, List.nil_append] at ho52
        have g52 : Fr0 wr w52 := Fr.trans (by (repeat' (first | (with_reducible exact Fr.refl _ _) | (with_reducible assumption) | (with_reducible refine Fr.drew ?_) | (with_reducible refine Fr.drewN ?_ _) | (with_reducible refine Fr.alloc ?_ _) | ((with_reducible refine Fr.setM ?_ (.inl ?_) _ _); rotate_left; focus (simp; done)) | ((with_reducible refine Fr.setCell ?_ (.inr ?_) _); rotate_left; focus (simp; done)) | ((with_reducible refine Fr.setCell ?_ (.inr ?_) _); rotate_left; focus (simp; omega))))) f52 (fun q hq => .inr (by cases hq; exact Nat.le_refl _))
        have O52 := Lib.hid ho52
        have G52 := Lib.hid g52.size
        have L52 := Lib.hid (ho52.lt)
        obtain ⟨ao52, cap52, rfl, -, -⟩ := own_slice ho52
        clear ho52 f52 hat52
        have hHeld := S4.out.fr g52
        refine hK.out _ _ (fun _ => hHeld) ?_
        clear hK K
        (try simp only [Act.put, List.setIfInBounds_toArray, List.set_cons_zero, List.set_cons_succ])
        (try simp only [List.getElem_toArray, List.getElem_cons_zero, List.getElem_cons_succ, List.setIfInBounds_toArray, List.set_cons_zero, List.set_cons_succ])
        (refine OrdS.one (i := 16) rfl (by kernel_rfl) ?_; intro K hK)
        refine step_appG 89 (by rfl) (.tmp 101) (.tmp 108) (by rfl) 96 _ 4 64 Tryz.underlying89 info96 rfl (by decide) (by decide) wr.heap.size (.slice ao52 i cap52) i ((encL encPt (s.ps.zip vs)).take (i * 4)) (by rfl) O52.out _ (s.ps.length - (i + 1)) ((encL encPt (s.ps.zip vs)).drop ((i + 1) * 4)) (by rfl) (yields_none (by omega) (by omega) (List.drop_of_length_le (by rw [zip_enc encPt 4 (fun _ => rfl) VS.out.1]; omega))) (by rw [List.length_drop, zip_enc encPt 4 (fun _ => rfl) VS.out.1, ← Nat.sub_mul]) (fun u hu => one_ps VS.out.2.1 VS.out.2.2 u (List.mem_of_mem_drop hu)) (by have := HS.out.ps; omega) G52.out ?_
        intro v63 w63 ho63 f63 hat63
        have g63 : Fr0 wr w63 := Fr.trans g52 f63 (fun q hq => .inr (L52.out q hq).1)
        obtain ⟨L63, hL63⟩ : ∃ L, L = i + (s.ps.length - (i + 1)) := ⟨_, rfl⟩
        rw [← hL63] at ho63
        have O63 := Lib.hid ho63
        obtain ⟨ao63, cap63, rfl, -, -⟩ := own_slice ho63
        have HL63 := Lib.hid hL63
        clear hL63
        have c7 := (S4.out.fr g63).pts
        have c7f : w63.frozen? ⟨sb, 7, none⟩ = false := ((FR.trans0 g63).frozen (p := ⟨sb, 7, none⟩) hsb3 (fun q => q)).trans HFZ.out
        clear ho63 f63 hat63
        refine hK.out _ _ (fun _ => S4.out.fr g63) ?_
        clear hK K
        (try simp only [Act.put, List.setIfInBounds_toArray, List.set_cons_zero, List.set_cons_succ])
        (try simp only [List.getElem_toArray, List.getElem_cons_zero, List.getElem_cons_succ, List.setIfInBounds_toArray, List.set_cons_zero, List.set_cons_succ])
        (refine OrdS.one (i := 17) rfl (by kernel_rfl) ?_; intro K hK)
        go_simp
        refine hK.out _ _ (fun _ => S4.out.fr g63) ?_
        clear hK K
        (try simp only [Act.put, List.setIfInBounds_toArray, List.set_cons_zero, List.set_cons_succ])
        (refine OrdS.one (i := 18) rfl (by kernel_rfl) ?_; intro K hK)
        go_simp
        refine hK.out _ _ (fun _ => S4.out.fr g63) ?_
        clear hK K
        (try simp only [Act.put, List.setIfInBounds_toArray, List.set_cons_zero, List.set_cons_succ])
        (refine OrdS.one (i := 19) rfl (by kernel_rfl) ?_; intro K hK)
        go_simp
        refine hK.out _ _ (fun h => absurd (show true = false from h) (by decide)) ?_
        clear hK K
        (try simp only [Act.put, List.setIfInBounds_toArray, List.set_cons_zero, List.set_cons_succ])
        refine OrdS.done (by kernel_rfl) ?_
        have G63 := Lib.hid (FR.trans0 g63)
        have F63 := Lib.hid (F3.out.trans0 G63.out)
        have FA := Lib.hid (show Fr (fun q => q = sb) w63 (w63.setCell ⟨sb, 7, none⟩ (.slice ao63 L63 cap63)) from (Fr.refl (fun q => q = sb) _).setCell (.inl rfl) _)
        have R := ((W0.out.2.1.fr F63.out (fun q => q)).fr FA.out (fun q => hne1 q.symm))
        have X := ((W0.out.2.2.1.fr F63.out (fun q => q)).fr FA.out (fun q => hne2 q.symm))
        have r0 := R.cell 0 _ rfl
        have r1 := R.cell 1 _ rfl
        have r2 := R.cell 2 _ rfl
        have r3 := R.cell 3 _ rfl
        have r4 := R.cell 4 _ rfl
        have r5 := R.cell 5 _ rfl
        have r6 := R.cell 6 _ rfl
        have r7 := R.cell 7 _ rfl
        have r8 := R.cell 8 _ rfl
        have r9 := R.cell 9 _ rfl
        have rf0 := R.free 0
        have rf1 := R.free 1
        have rf2 := R.free 2
        have rf3 := R.free 3
        have rf4 := R.free 4
        have rf5 := R.free 5
        have rf6 := R.free 6
        have rf7 := R.free 7
        have rf8 := R.free 8
        have rf9 := R.free 9
        have rl := R.lt
        have x0 := X.cell 0 _ rfl
        have x1 := X.cell 1 _ rfl
        have x2 := X.cell 2 _ rfl
        have x3 := X.cell 3 _ rfl
        have x4 := X.cell 4 _ rfl
        have x5 := X.cell 5 _ rfl
        have x6 := X.cell 6 _ rfl
        have x7 := X.cell 7 _ rfl
        have x8 := X.cell 8 _ rfl
        have x9 := X.cell 9 _ rfl
        have xf0 := X.free 0
        have xl := X.lt
        clear R X c7 c7f
        have SZR := Lib.hid FR.size
        have WF := Lib.hid A
        clear YL FR g52 g63
        generalize hA : w63.setCell ⟨sb, 7, none⟩ (.slice ao63 L63 cap63) = wA at *
        go_wp2_with fail
        refine bodyPost_ret (v := toldE 0) (by simp [results, Tryz.results28, go_sem, *]) rfl ?_
        subst hA
        have f' : Fr (fun q => q = w.heap.size + 1) (w63.setCell ⟨sb, 7, none⟩ (.slice ao63 L63 cap63)) _ := (((((((((((Fr.refl (fun q => q = w.heap.size + 1) (w63.setCell ⟨sb, 7, none⟩ (.slice ao63 L63 cap63))).setCell (.inl rfl) (.int .u8 0) (p := ⟨w.heap.size + 1, 0, none⟩)).setCell (.inl rfl) (.string ⟨#[]⟩) (p := ⟨w.heap.size + 1, 1, none⟩)).setCell (.inl rfl) (.string ⟨#[]⟩) (p := ⟨w.heap.size + 1, 2, none⟩)).setCell (.inl rfl) (.string ⟨#[]⟩) (p := ⟨w.heap.size + 1, 3, none⟩)).setCell (.inl rfl) (.int .i64 0) (p := ⟨w.heap.size + 1, 4, none⟩)).setCell (.inl rfl) (.int .i64 0) (p := ⟨w.heap.size + 1, 5, none⟩)).setCell (.inl rfl) (.int .i64 0) (p := ⟨w.heap.size + 1, 6, none⟩)).setCell (.inl rfl) (.slice none 0 0) (p := ⟨w.heap.size + 1, 7, none⟩)).setCell (.inl rfl) (.slice none 0 0) (p := ⟨w.heap.size + 1, 8, none⟩)).setCell (.inl rfl) (.slice none 0 0) (p := ⟨w.heap.size + 1, 9, none⟩))
        refine ⟨_, rfl, toldE_at _ _ 0, ZRep.newP (s := s) HC3.out.1 HC3.out.2.2 (PtsIn.cut HL63.out O63.out hil VS.out.1 (fun i l u h1 h2 => (VS.out.2.2 i l u h1 h2).fr G63.out fun _ _ _ q => q) fun q h1 => ⟨by have := SZR.out; omega, by have := SZR.out; omega⟩) G63.out f' hne1, ?_⟩
        exact (((FW3.out.trans0 G63.out).mono fun _ q => q.elim).trans FA.out fun _ q => .inl q).trans f' fun q h1 => .inr (by omega)
      · have hce2 : ¬ (cap : Int) = (i : Int) + 1 := by omega
        refine OrdS.start (S := S20 sb ob s.ps.length cap) (m := 19) (by kernel_rfl) ?_
        have S4 := Lib.hid (S3.out.fr FR)
        have hHeld := S4.out.fr (show Fr0 wr wr.drew from by (repeat' (first | (with_reducible exact Fr.refl _ _) | (with_reducible assumption) | (with_reducible refine Fr.drew ?_) | (with_reducible refine Fr.drewN ?_ _) | (with_reducible refine Fr.alloc ?_ _) | ((with_reducible refine Fr.setM ?_ (.inl ?_) _ _); rotate_left; focus (simp; done)) | ((with_reducible refine Fr.setCell ?_ (.inr ?_) _); rotate_left; focus (simp; done)) | ((with_reducible refine Fr.setCell ?_ (.inr ?_) _); rotate_left; focus (simp; omega)))))
        (refine OrdS.take (i := 0) (v := ?_) rfl (by kernel_rfl) (by kernel_rfl) (by kernel_rfl) (by kernel_rfl) (fun _ _ _ h => h) (Or.inl ⟨by rfl, ?_⟩) hHeld ?_; rotate_left; focus (intro w' hSw; replace hSw := hSw.out; go_simp; try with_reducible rfl); (try simp only [Act.put, List.setIfInBounds_toArray, List.set_cons_zero, List.set_cons_succ]))
        (refine OrdS.take (i := 2) (v := ?_) rfl (by kernel_rfl) (by kernel_rfl) (by kernel_rfl) (by kernel_rfl) (fun _ _ _ h => h) (Or.inl ⟨by rfl, ?_⟩) hHeld ?_; rotate_left; focus (intro w' hSw; replace hSw := hSw.out; go_simp; try with_reducible rfl); (try simp only [Act.put, List.setIfInBounds_toArray, List.set_cons_zero, List.set_cons_succ]))
        (refine OrdS.take (i := 3) (v := ?_) rfl (by kernel_rfl) (by kernel_rfl) (by kernel_rfl) (by kernel_rfl) (fun _ _ _ h => h) (Or.inl ⟨by rfl, ?_⟩) hHeld ?_; rotate_left; focus (intro w' hSw; replace hSw := hSw.out; go_simp; try with_reducible rfl); (try simp only [Act.put, List.setIfInBounds_toArray, List.set_cons_zero, List.set_cons_succ]))
        (refine OrdS.take (i := 4) (v := ?_) rfl (by kernel_rfl) (by kernel_rfl) (by kernel_rfl) (by kernel_rfl) (fun _ _ _ h => h) (Or.inl ⟨by rfl, ?_⟩) hHeld ?_; rotate_left; focus (intro w' hSw; replace hSw := hSw.out; go_simp; try with_reducible rfl); (try simp only [Act.put, List.setIfInBounds_toArray, List.set_cons_zero, List.set_cons_succ]))
        (refine OrdS.take (i := 5) (v := ?_) rfl (by kernel_rfl) (by kernel_rfl) (by kernel_rfl) (by kernel_rfl) (fun _ _ _ h => h) (Or.inl ⟨by rfl, ?_⟩) hHeld ?_; rotate_left; focus (intro w' hSw; replace hSw := hSw.out; go_simp; try with_reducible rfl); (try simp only [Act.put, List.setIfInBounds_toArray, List.set_cons_zero, List.set_cons_succ]))
        (refine OrdS.take (i := 6) (v := ?_) rfl (by kernel_rfl) (by kernel_rfl) (by kernel_rfl) (by kernel_rfl) (fun _ _ _ h => h) (Or.inl ⟨by rfl, ?_⟩) hHeld ?_; rotate_left; focus (intro w' hSw; replace hSw := hSw.out; go_simp; try with_reducible rfl); (try simp only [Act.put, List.setIfInBounds_toArray, List.set_cons_zero, List.set_cons_succ]))
        (refine OrdS.take (i := 7) (v := ?_) rfl (by kernel_rfl) (by kernel_rfl) (by kernel_rfl) (by kernel_rfl) (fun _ _ _ h => h) (Or.inl ⟨by rfl, ?_⟩) hHeld ?_; rotate_left; focus (intro w' hSw; replace hSw := hSw.out; go_simp; try with_reducible rfl); (try simp only [Act.put, List.setIfInBounds_toArray, List.set_cons_zero, List.set_cons_succ]))
        (refine OrdS.take (i := 9) (v := ?_) rfl (by kernel_rfl) (by kernel_rfl) (by kernel_rfl) (by kernel_rfl) (fun _ _ _ h => h) (Or.inl ⟨by rfl, ?_⟩) hHeld ?_; rotate_left; focus (intro w' hSw; replace hSw := hSw.out; go_simp; try with_reducible rfl); (try simp only [Act.put, List.setIfInBounds_toArray, List.set_cons_zero, List.set_cons_succ]))
        (refine OrdS.take (i := 10) (v := ?_) rfl (by kernel_rfl) (by kernel_rfl) (by kernel_rfl) (by kernel_rfl) (fun _ _ _ h => h) (Or.inl ⟨by rfl, ?_⟩) hHeld ?_; rotate_left; focus (intro w' hSw; replace hSw := hSw.out; go_simp; try with_reducible rfl); (try simp only [Act.put, List.setIfInBounds_toArray, List.set_cons_zero, List.set_cons_succ]))
        (refine OrdS.take (i := 11) (v := ?_) rfl (by kernel_rfl) (by kernel_rfl) (by kernel_rfl) (by kernel_rfl) (fun _ _ _ h => h) (Or.inl ⟨by rfl, ?_⟩) hHeld ?_; rotate_left; focus (intro w' hSw; replace hSw := hSw.out; go_simp; try with_reducible rfl); (try simp only [Act.put, List.setIfInBounds_toArray, List.set_cons_zero, List.set_cons_succ]))
        (refine OrdS.take (i := 12) (v := ?_) rfl (by kernel_rfl) (by kernel_rfl) (by kernel_rfl) (by kernel_rfl) (fun _ _ _ h => h) (Or.inl ⟨by rfl, ?_⟩) hHeld ?_; rotate_left; focus (intro w' hSw; replace hSw := hSw.out; go_simp; try with_reducible rfl); (try simp only [Act.put, List.setIfInBounds_toArray, List.set_cons_zero, List.set_cons_succ]))
        (refine OrdS.take (i := 13) (v := ?_) rfl (by kernel_rfl) (by kernel_rfl) (by kernel_rfl) (by kernel_rfl) (fun _ _ _ h => h) (Or.inl ⟨by rfl, ?_⟩) hHeld ?_; rotate_left; focus (intro w' hSw; replace hSw := hSw.out; go_simp; try with_reducible rfl); (try simp only [Act.put, List.setIfInBounds_toArray, List.set_cons_zero, List.set_cons_succ]))
        (refine OrdS.take (i := 14) (v := ?_) rfl (by kernel_rfl) (by kernel_rfl) (by kernel_rfl) (by kernel_rfl) (fun _ _ _ h => h) (Or.inl ⟨by rfl, ?_⟩) hHeld ?_; rotate_left; focus (intro w' hSw; replace hSw := hSw.out; go_simp; try with_reducible rfl); (try simp only [Act.put, List.setIfInBounds_toArray, List.set_cons_zero, List.set_cons_succ]))
        (refine OrdS.take (i := 15) (v := ?_) rfl (by kernel_rfl) (by kernel_rfl) (by kernel_rfl) (by kernel_rfl) (fun _ _ _ h => h) (Or.inl ⟨by rfl, ?_⟩) hHeld ?_; rotate_left; focus (intro w' hSw; replace hSw := hSw.out; go_simp; try with_reducible rfl); (try simp only [Act.put, List.setIfInBounds_toArray, List.set_cons_zero, List.set_cons_succ]))
        (refine OrdS.one (i := 1) rfl (by kernel_rfl) ?_; intro K hK)
        go_simp
        refine hK.out _ _ (fun _ => S4.out.fr (by (repeat' (first | (with_reducible exact Fr.refl _ _) | (with_reducible assumption) | (with_reducible refine Fr.drew ?_) | (with_reducible refine Fr.drewN ?_ _) | (with_reducible refine Fr.alloc ?_ _) | ((with_reducible refine Fr.setM ?_ (.inl ?_) _ _); rotate_left; focus (simp; done)) | ((with_reducible refine Fr.setCell ?_ (.inr ?_) _); rotate_left; focus (simp; done)) | ((with_reducible refine Fr.setCell ?_ (.inr ?_) _); rotate_left; focus (simp; omega)))))) ?_
        clear hK K
        (try simp only [Act.put, List.setIfInBounds_toArray, List.set_cons_zero, List.set_cons_succ])
        (refine OrdS.one (i := 8) rfl (by kernel_rfl) ?_; intro K hK)
        have YL := Reads.fr VS.out.2.1 FR (fun _ _ _ q => q)
        refine step_appG 89 (by rfl) (.tmp 94) (.tmp 100) (by rfl) 96 _ 4 64 Tryz.underlying89 info96 rfl (by decide) (by decide) wr.heap.size (.slice (some ⟨wr.heap.size, 0, none⟩) 0 0) 0 [] (by rfl) (own_empty (heap_alloc_new _ _)) _ i ((encL encPt (s.ps.zip vs)).take (i * 4)) (by rfl) (Yld.fr (yld_take YL _ _ _) (show Fr0 wr _ from by (repeat' (first | (with_reducible exact Fr.refl _ _) | (with_reducible assumption) | (with_reducible refine Fr.drew ?_) | (with_reducible refine Fr.drewN ?_ _) | (with_reducible refine Fr.alloc ?_ _) | ((with_reducible refine Fr.setM ?_ (.inl ?_) _ _); rotate_left; focus (simp; done)) | ((with_reducible refine Fr.setCell ?_ (.inr ?_) _); rotate_left; focus (simp; done)) | ((with_reducible refine Fr.setCell ?_ (.inr ?_) _); rotate_left; focus (simp; omega))))) (fun a n c e h => by cases e; exact ⟨Nat.lt_of_lt_of_le hob3 FR.size, fun q => q⟩)) (by rw [List.length_take, zip_enc encPt 4 (fun _ => rfl) VS.out.1]; omega) (fun u hu => one_ps VS.out.2.1 VS.out.2.2 u (List.mem_of_mem_take hu)) (by omega) (by simp) ?_
        intro v52 w52 ho52 f52 hat52
        rw [Nat.zero_add, List.nil_append] at ho52
        have g52 : Fr0 wr w52 := Fr.trans (by (repeat' (first | (with_reducible exact Fr.refl _ _) | (with_reducible assumption) | (with_reducible refine Fr.drew ?_) | (with_reducible refine Fr.drewN ?_ _) | (with_reducible refine Fr.alloc ?_ _) | ((with_reducible refine Fr.setM ?_ (.inl ?_) _ _); rotate_left; focus (simp; done)) | ((with_reducible refine Fr.setCell ?_ (.inr ?_) _); rotate_left; focus (simp; done)) | ((with_reducible refine Fr.setCell ?_ (.inr ?_) _); rotate_left; focus (simp; omega))))) f52 (fun q hq => .inr (by cases hq; exact Nat.le_refl _))
        have O52 := Lib.hid ho52
        have G52 := Lib.hid g52.size
        have L52 := Lib.hid (ho52.lt)
        obtain ⟨ao52, cap52, rfl, -, -⟩ := own_slice ho52
        clear ho52 f52 hat52
        have hHeld := S4.out.fr g52
        refine hK.out _ _ (fun _ => hHeld) ?_
        clear hK K
        (try simp only [Act.put, List.setIfInBounds_toArray, List.set_cons_zero, List.set_cons_succ])
        (try simp only [List.getElem_toArray, List.getElem_cons_zero, List.getElem_cons_succ, List.setIfInBounds_toArray, List.set_cons_zero, List.set_cons_succ])
        (refine OrdS.one (i := 16) rfl (by kernel_rfl) ?_; intro K hK)
        refine step_appG 89 (by rfl) (.tmp 101) (.tmp 108) (by rfl) 96 _ 4 64 Tryz.underlying89 info96 rfl (by decide) (by decide) wr.heap.size (.slice ao52 i cap52) i ((encL encPt (s.ps.zip vs)).take (i * 4)) (by rfl) O52.out _ (s.ps.length - (i + 1)) ((encL encPt (s.ps.zip vs)).drop ((i + 1) * 4)) (by rfl) (Yld.fr (yld_drop YL _ _ _) (show Fr0 wr _ from by (repeat' (first | (with_reducible exact Fr.refl _ _) | (with_reducible assumption) | (with_reducible refine Fr.drew ?_) | (with_reducible refine Fr.drewN ?_ _) | (with_reducible refine Fr.alloc ?_ _) | ((with_reducible refine Fr.setM ?_ (.inl ?_) _ _); rotate_left; focus (simp; done)) | ((with_reducible refine Fr.setCell ?_ (.inr ?_) _); rotate_left; focus (simp; done)) | ((with_reducible refine Fr.setCell ?_ (.inr ?_) _); rotate_left; focus (simp; omega))))) (fun a n c e h => by cases e; exact ⟨Nat.lt_of_lt_of_le hob3 FR.size, fun q => q⟩)) (by rw [List.length_drop, zip_enc encPt 4 (fun _ => rfl) VS.out.1, ← Nat.sub_mul]) (fun u hu => one_ps VS.out.2.1 VS.out.2.2 u (List.mem_of_mem_drop hu)) (by have := HS.out.ps; omega) G52.out ?_
        intro v63 w63 ho63 f63 hat63
        have g63 : Fr0 wr w63 := Fr.trans g52 f63 (fun q hq => .inr (L52.out q hq).1)
        obtain ⟨L63, hL63⟩ : ∃ L, L = i + (s.ps.length - (i + 1)) := ⟨_, rfl⟩
        rw [← hL63] at ho63
        have O63 := Lib.hid ho63
        obtain ⟨ao63, cap63, rfl, -, -⟩ := own_slice ho63
        have HL63 := Lib.hid hL63
        clear hL63
        have c7 := (S4.out.fr g63).pts
        have c7f : w63.frozen? ⟨sb, 7, none⟩ = false := ((FR.trans0 g63).frozen (p := ⟨sb, 7, none⟩) hsb3 (fun q => q)).trans HFZ.out
        clear ho63 f63 hat63
        refine hK.out _ _ (fun _ => S4.out.fr g63) ?_
        clear hK K
        (try simp only [Act.put, List.setIfInBounds_toArray, List.set_cons_zero, List.set_cons_succ])
        (try simp only [List.getElem_toArray, List.getElem_cons_zero, List.getElem_cons_succ, List.setIfInBounds_toArray, List.set_cons_zero, List.set_cons_succ])
        (refine OrdS.one (i := 17) rfl (by kernel_rfl) ?_; intro K hK)
        go_simp
        refine hK.out _ _ (fun _ => S4.out.fr g63) ?_
        clear hK K
        (try simp only [Act.put, List.setIfInBounds_toArray, List.set_cons_zero, List.set_cons_succ])
        (refine OrdS.one (i := 18) rfl (by kernel_rfl) ?_; intro K hK)
        go_simp
        refine hK.out _ _ (fun _ => S4.out.fr g63) ?_
        clear hK K
        (try simp only [Act.put, List.setIfInBounds_toArray, List.set_cons_zero, List.set_cons_succ])
        (refine OrdS.one (i := 19) rfl (by kernel_rfl) ?_; intro K hK)
        go_simp
        refine hK.out _ _ (fun h => absurd (show true = false from h) (by decide)) ?_
        clear hK K
        (try simp only [Act.put, List.setIfInBounds_toArray, List.set_cons_zero, List.set_cons_succ])
        refine OrdS.done (by kernel_rfl) ?_
        have G63 := Lib.hid (FR.trans0 g63)
        have F63 := Lib.hid (F3.out.trans0 G63.out)
        have FA := Lib.hid (show Fr (fun q => q = sb) w63 (w63.setCell ⟨sb, 7, none⟩ (.slice ao63 L63 cap63)) from (Fr.refl (fun q => q = sb) _).setCell (.inl rfl) _)
        have R := ((W0.out.2.1.fr F63.out (fun q => q)).fr FA.out (fun q => hne1 q.symm))
        have X := ((W0.out.2.2.1.fr F63.out (fun q => q)).fr FA.out (fun q => hne2 q.symm))
        have r0 := R.cell 0 _ rfl
        have r1 := R.cell 1 _ rfl
        have r2 := R.cell 2 _ rfl
        have r3 := R.cell 3 _ rfl
        have r4 := R.cell 4 _ rfl
        have r5 := R.cell 5 _ rfl
        have r6 := R.cell 6 _ rfl
        have r7 := R.cell 7 _ rfl
        have r8 := R.cell 8 _ rfl
        have r9 := R.cell 9 _ rfl
        have rf0 := R.free 0
        have rf1 := R.free 1
        have rf2 := R.free 2
        have rf3 := R.free 3
        have rf4 := R.free 4
        have rf5 := R.free 5
        have rf6 := R.free 6
        have rf7 := R.free 7
        have rf8 := R.free 8
        have rf9 := R.free 9
        have rl := R.lt
        have x0 := X.cell 0 _ rfl
        have x1 := X.cell 1 _ rfl
        have x2 := X.cell 2 _ rfl
        have x3 := X.cell 3 _ rfl
        have x4 := X.cell 4 _ rfl
        have x5 := X.cell 5 _ rfl
        have x6 := X.cell 6 _ rfl
        have x7 := X.cell 7 _ rfl
        have x8 := X.cell 8 _ rfl
        have x9 := X.cell 9 _ rfl
        have xf0 := X.free 0
        have xl := X.lt
        clear R X c7 c7f
        have SZR := Lib.hid FR.size
        have WF := Lib.hid A
        clear YL FR g52 g63
        generalize hA : w63.setCell ⟨sb, 7, none⟩ (.slice ao63 L63 cap63) = wA at *
        go_wp2_with fail
        refine bodyPost_ret (v := toldE 0) (by simp [results, Tryz.results28, go_sem, *]) rfl ?_
        subst hA
        have f' : Fr (fun q => q = w.heap.size + 1) (w63.setCell ⟨sb, 7, none⟩ (.slice ao63 L63 cap63)) _ := (((((((((((Fr.refl (fun q => q = w.heap.size + 1) (w63.setCell ⟨sb, 7, none⟩ (.slice ao63 L63 cap63))).setCell (.inl rfl) (.int .u8 0) (p := ⟨w.heap.size + 1, 0, none⟩)).setCell (.inl rfl) (.string ⟨#[]⟩) (p := ⟨w.heap.size + 1, 1, none⟩)).setCell (.inl rfl) (.string ⟨#[]⟩) (p := ⟨w.heap.size + 1, 2, none⟩)).setCell (.inl rfl) (.string ⟨#[]⟩) (p := ⟨w.heap.size + 1, 3, none⟩)).setCell (.inl rfl) (.int .i64 0) (p := ⟨w.heap.size + 1, 4, none⟩)).setCell (.inl rfl) (.int .i64 0) (p := ⟨w.heap.size + 1, 5, none⟩)).setCell (.inl rfl) (.int .i64 0) (p := ⟨w.heap.size + 1, 6, none⟩)).setCell (.inl rfl) (.slice none 0 0) (p := ⟨w.heap.size + 1, 7, none⟩)).setCell (.inl rfl) (.slice none 0 0) (p := ⟨w.heap.size + 1, 8, none⟩)).setCell (.inl rfl) (.slice none 0 0) (p := ⟨w.heap.size + 1, 9, none⟩))
        refine ⟨_, rfl, toldE_at _ _ 0, ZRep.newP (s := s) HC3.out.1 HC3.out.2.2 (PtsIn.cut HL63.out O63.out hil VS.out.1 (fun i l u h1 h2 => (VS.out.2.2 i l u h1 h2).fr G63.out fun _ _ _ q => q) fun q h1 => ⟨by have := SZR.out; omega, by have := SZR.out; omega⟩) G63.out f' hne1, ?_⟩
        exact (((FW3.out.trans0 G63.out).mono fun _ q => q.elim).trans FA.out fun _ q => .inl q).trans f' fun q h1 => .inr (by omega)

end Go.Proofs.YtbafaadmlpamiaaGreatDoor
