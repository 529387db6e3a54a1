/- A step of the store of lists: a vertex, an edge is added. -/
import Derived.Test.YtbafaadmlpamiaaGreatDoorSto4
import Derived.Test.YtbafaadmlpamiaaGreatDoorReg
namespace Go.Proofs.YtbafaadmlpamiaaGreatDoor
open Go Go.Hy Go.RowKit

/-- what the region reads -/
structure S10 (sb c7 h : Nat) (a : ByteArray) (wt : Int) (ao : Option Addr) (n cap : Nat) (pa : Option Addr) (k pc : Nat) (w : World) : Prop where
  pts : w.cell? ⟨sb, c7, none⟩ = some (.slice ao n cap)
  a1 : w.cell? ⟨h, 1, none⟩ = some (.string a)
  a3 : w.cell? ⟨h, 3, none⟩ = some (.int .i64 wt)
  a4 : w.cell? ⟨h, 4, none⟩ = some (.slice pa k pc)
  ls : sb < w.heap.size
  lh : h < w.heap.size

theorem S10.fr {sb c7 h : Nat} {a : ByteArray} {wt : Int} {ao : Option Addr} {n cap : Nat} {pa : Option Addr} {k pc : Nat} {w w' : World} (z : S10 sb c7 h a wt ao n cap pa k pc w) (f : Fr0 w w') : S10 sb c7 h a wt ao n cap pa k pc w' :=
  ⟨(f.cell (p := ⟨sb, c7, none⟩) z.ls (fun q => q)).trans z.pts, (f.cell (p := ⟨h, 1, none⟩) z.lh (fun q => q)).trans z.a1, (f.cell (p := ⟨h, 3, none⟩) z.lh (fun q => q)).trans z.a3, (f.cell (p := ⟨h, 4, none⟩) z.lh (fun q => q)).trans z.a4, Nat.lt_of_lt_of_le z.ls f.size, Nat.lt_of_lt_of_le z.lh f.size⟩

theorem S10.out {sb c7 h : Nat} {a : ByteArray} {wt : Int} {ao : Option Addr} {n cap : Nat} {pa : Option Addr} {k pc : Nat} {w : World} (z : S10 sb c7 h a wt ao n cap pa k pc w) :
    w.cell? ⟨sb, c7, none⟩ = some (.slice ao n cap) ∧ w.cell? ⟨h, 1, none⟩ = some (.string a) ∧ w.cell? ⟨h, 3, none⟩ = some (.int .i64 wt) ∧ w.cell? ⟨h, 4, none⟩ = some (.slice pa k pc) := ⟨z.pts, z.a1, z.a3, z.a4⟩

theorem yl_lt {w : World} {v : Value} {n : Nat} {xs : List Value} (h : Reads w v n xs) {a : Addr} {m c : Nat} (e : v = .slice (some a) m c) (hx : 0 < xs.length) : ∃ ob, a = ⟨ob, 0, none⟩ ∧ a.block < w.heap.size := by
  obtain ⟨ao, cap, rfl, _, hr⟩ := h
  obtain ⟨ob, e0, h1, _⟩ := hr 0 xs[0] (List.getElem?_eq_getElem hx)
  cases e
  cases e0
  exact ⟨ob, rfl, h1⟩

theorem one_ps {w : World} {p : Nat → Prop} {v : Value} {n : Nat} {ps : List SP} {vs : List Value} (_h : Reads w v n (encL encPt (ps.zip vs))) (hold : ∀ (i : Nat) (l : SP) (u : Value), ps[i]? = some l → vs[i]? = some u → PairsIn w p u l.es) : ∀ u ∈ encL encPt (ps.zip vs), u.oneCell' = true := by
  intro u hu
  simp only [encL, List.mem_flatMap] at hu
  obtain ⟨q, hq, hu⟩ := hu
  obtain ⟨i, hi⟩ := List.mem_iff_getElem?.1 hq
  obtain ⟨h1, h2⟩ := List.getElem?_zip_eq_some.1 hi
  obtain ⟨ao, cap, e⟩ := (hold i _ _ h1 h2).form
  simp only [encPt, List.mem_cons, List.not_mem_nil, or_false] at hu
  rcases hu with rfl | rfl | rfl | rfl
  · rfl
  · rfl
  · rfl
  · rw [e]; rfl

theorem one_ls {w : World} {p : Nat → Prop} {v : Value} {n : Nat} {ls : List SL} {vs : List Value} (_h : Reads w v n (encL encLk (ls.zip vs))) (hold : ∀ (i : Nat) (l : SL) (u : Value), ls[i]? = some l → vs[i]? = some u → PairsIn w p u l.es) : ∀ u ∈ encL encLk (ls.zip vs), u.oneCell' = true := by
  intro u hu
  simp only [encL, List.mem_flatMap] at hu
  obtain ⟨q, hq, hu⟩ := hu
  obtain ⟨i, hi⟩ := List.mem_iff_getElem?.1 hq
  obtain ⟨h1, h2⟩ := List.getElem?_zip_eq_some.1 hi
  obtain ⟨ao, cap, e⟩ := (hold i _ _ h1 h2).form
  simp only [encLk, List.mem_cons, List.not_mem_nil, or_false] at hu
  rcases hu with rfl | rfl | rfl | rfl
  · rfl
  · rfl
  · rfl
  · rw [e]; rfl

set_option linter.unusedSimpArgs false in
set_option maxRecDepth 100000 in
set_option maxHeartbeats 1000000 in
theorem sto0_new (w : World) (sb : Nat) (s : St) (h : ZRep w sb s) (hs : Small s) (HC : HashS s.hk) (a b : ByteArray) (wt : Int) (pv : Value) (prs : List PP) (hp : PrAt w pv prs) (hpl : prs.length ≤ 100000) (hi : ptI s.ps (hashM s.hk a) = none) :
    Calls Tryz.prog 28 #[.pointer (some ⟨sb, 0, none⟩), doS 0 a b wt pv] w fun e w' => StoP w sb {} { s with ps := s.ps ++ [⟨hashM s.hk a, a, wt, byK prs⟩] } e w' := by
  have H := Lib.hid h
  have hlb := h.lt
  have HS := Lib.hid hs
  have HI := Lib.hid hi
  clear h hs hi
  have HH := Lib.hid HC
  clear HC
  obtain ⟨pa, pc, rfl⟩ := hp.form
  have PD := Lib.hid hp
  clear hp
  have W0 := Lib.hid (w28_cells w 0 a b wt (.slice pa prs.length pc))
  obtain ⟨V, hV⟩ : ∃ V, V = W28 w 0 a b wt (.slice pa prs.length pc) := ⟨_, rfl⟩
  rw [← hV] at W0
  go_enter Tryz.func28, Tryz.ntmps28
  go_wp2_with fail
  go_quiet (fail)
  have eV : ((w.alloc (.cells #[.int .u8 0, .string a, .string b, .int .i64 wt, .slice pa prs.length pc] 28)).alloc (.cells zT 61)).alloc (.cells zT 61) = V := hV.symm
  rw [eV]
  clear eV hV
  have c6 := (W0.out.2.2.2.cell (p := ⟨sb, 6, none⟩) hlb (fun q => q)).trans (ZRep.hk_cell H.out)
  have q0 := W0.out.1.cell 0 _ rfl
  have q1 := W0.out.1.cell 1 _ rfl
  have q2 := W0.out.1.cell 2 _ rfl
  go_wp2_with fail
  refine (HH.out _ a).mono ?_
  rintro e w1 ⟨rfl, f1⟩
  have F1 := Lib.hid (show Fr0 V w1 from Fr.trans0 (by (repeat' (first | (with_reducible exact Fr.refl _ _) | (with_reducible assumption) | (with_reducible refine Fr.drew ?_) | (with_reducible refine Fr.drewN ?_ _) | (with_reducible refine Fr.alloc ?_ _) | ((with_reducible refine Fr.setM ?_ (.inl ?_) _ _); rotate_left; focus (simp; done)) | ((with_reducible refine Fr.setCell ?_ (.inr ?_) _); rotate_left; focus (simp; done)) | ((with_reducible refine Fr.setCell ?_ (.inr ?_) _); rotate_left; focus (simp; omega))))) f1)
  clear f1 c6 q0 q1 q2
  go_wp2_with fail
  refine (point44 _ sb s (H.out.fr0 (W0.out.2.2.2.trans0 F1.out)) HS.out.ps (hashM s.hk a)).mono ?_
  rintro e w2 ⟨rfl, f2⟩
  have F2 := Lib.hid (F1.out.trans0 f2)
  clear f2
  rw [HI.out, plc_none]
  go_wp2_with fail
  refine (link45 _ sb s (H.out.fr0 (W0.out.2.2.2.trans0 F2.out)) HS.out.ls (hashM s.hk a) b).mono ?_
  rintro e w3 ⟨rfl, f3⟩
  have F3 := Lib.hid (F2.out.trans0 f3)
  clear f3
  have FW3 := Lib.hid (W0.out.2.2.2.trans0 F3.out)
  have sz3 : w.heap.size + 1 + 1 < w3.heap.size := (W0.out.2.2.1.fr F3.out (fun q => q)).lt
  have hsb3 : sb < w3.heap.size := by omega
  have hne0 : sb ≠ w.heap.size := by omega
  have hne1 : sb ≠ w.heap.size + 1 := by omega
  have hne2 : sb ≠ w.heap.size + 1 + 1 := by omega
  obtain ⟨b1, b2, b3, b4, pv0, lv0, hc0, hpt0, hlk0⟩ := H.out
  have hpt : PtsIn w3 (fun q => q ≠ sb ∧ q ≠ w.heap.size + 1) pv0 s.ps := (hpt0.imp fun q h1 h2 => ⟨h1, by omega⟩).fr FW3.out (fun _ _ _ q => q)
  have hlk : LinksIn w3 (fun q => q ≠ sb ∧ q ≠ w.heap.size + 1) lv0 s.ls := (hlk0.imp fun q h1 h2 => ⟨h1, by omega⟩).fr FW3.out (fun _ _ _ q => q)
  have hc := hc0.fr FW3.out (fun q => q)
  have HFZ := Lib.hid (hc.free 7)
  obtain ⟨ao, cap, rfl, hcap⟩ := hpt.form
  have HC3 := Lib.hid (And.intro hc (And.intro hpt hlk))
  obtain ⟨vs, hv1, hv2, -, hv4⟩ := hpt
  have VS := Lib.hid (And.intro hv1 (And.intro hv2 hv4))
  have YL := Lib.hid (Reads.yld hv2 (zip_enc encPt 4 (fun _ => rfl) hv1) (by decide))
  have PD3 := Lib.hid (PD.out.fr FW3.out)
  have D := W0.out.1.fr F3.out (fun q => q)
  have S3 := Lib.hid (show S10 sb 7 w.heap.size a wt ao s.ps.length cap pa prs.length pc w3 from ⟨hc.cell 7 _ rfl, D.cell 1 _ rfl, D.cell 3 _ rfl, D.cell 4 _ rfl, hsb3, D.lt⟩)
  have d0 := D.cell 0 _ rfl
  clear D hc0 hpt0 hlk0 hc hlk hv1 hv2 hv4
  go_wp2_with fail
  refine OrdS.start (S := S10 sb 7 w.heap.size a wt ao s.ps.length cap pa prs.length pc) (m := 20) (by kernel_rfl) ?_
  have hHeld := S3.out.fr (show Fr0 w3 w3.drew from by (repeat' (first | (with_reducible exact Fr.refl _ _) | (with_reducible assumption) | (with_reducible refine Fr.drew ?_) | (with_reducible refine Fr.drewN ?_ _) | (with_reducible refine Fr.alloc ?_ _) | ((with_reducible refine Fr.setM ?_ (.inl ?_) _ _); rotate_left; focus (simp; done)) | ((with_reducible refine Fr.setCell ?_ (.inr ?_) _); rotate_left; focus (simp; done)) | ((with_reducible refine Fr.setCell ?_ (.inr ?_) _); rotate_left; focus (simp; omega)))))
  (refine OrdS.take (i := 0) (v := ?_) rfl (by kernel_rfl) (by kernel_rfl) (by kernel_rfl) (by kernel_rfl) (fun _ _ _ h => h) (Or.inl ⟨by rfl, ?_⟩) hHeld ?_; rotate_left; focus (intro w' hSw; replace hSw := hSw.out; go_simp; try with_reducible rfl); (try simp only [Act.put, List.setIfInBounds_toArray, List.set_cons_zero, List.set_cons_succ]))
  (refine OrdS.take (i := 2) (v := ?_) rfl (by kernel_rfl) (by kernel_rfl) (by kernel_rfl) (by kernel_rfl) (fun _ _ _ h => h) (Or.inl ⟨by rfl, ?_⟩) hHeld ?_; rotate_left; focus (intro w' hSw; replace hSw := hSw.out; go_simp; try with_reducible rfl); (try simp only [Act.put, List.setIfInBounds_toArray, List.set_cons_zero, List.set_cons_succ]))
  (refine OrdS.take (i := 3) (v := ?_) rfl (by kernel_rfl) (by kernel_rfl) (by kernel_rfl) (by kernel_rfl) (fun _ _ _ h => h) (Or.inl ⟨by rfl, ?_⟩) hHeld ?_; rotate_left; focus (intro w' hSw; replace hSw := hSw.out; go_simp; try with_reducible rfl); (try simp only [Act.put, List.setIfInBounds_toArray, List.set_cons_zero, List.set_cons_succ]))
  (refine OrdS.take (i := 4) (v := ?_) rfl (by kernel_rfl) (by kernel_rfl) (by kernel_rfl) (by kernel_rfl) (fun _ _ _ h => h) (Or.inl ⟨by rfl, ?_⟩) hHeld ?_; rotate_left; focus (intro w' hSw; replace hSw := hSw.out; go_simp; try with_reducible rfl); (try simp only [Act.put, List.setIfInBounds_toArray, List.set_cons_zero, List.set_cons_succ]))
  (refine OrdS.take (i := 5) (v := ?_) rfl (by kernel_rfl) (by kernel_rfl) (by kernel_rfl) (by kernel_rfl) (fun _ _ _ h => h) (Or.inl ⟨by rfl, ?_⟩) hHeld ?_; rotate_left; focus (intro w' hSw; replace hSw := hSw.out; go_simp; try with_reducible rfl); (try simp only [Act.put, List.setIfInBounds_toArray, List.set_cons_zero, List.set_cons_succ]))
  (refine OrdS.take (i := 7) (v := ?_) rfl (by kernel_rfl) (by kernel_rfl) (by kernel_rfl) (by kernel_rfl) (fun _ _ _ h => h) (Or.inl ⟨by rfl, ?_⟩) hHeld ?_; rotate_left; focus (intro w' hSw; replace hSw := hSw.out; go_simp; try with_reducible rfl); (try simp only [Act.put, List.setIfInBounds_toArray, List.set_cons_zero, List.set_cons_succ]))
  (refine OrdS.take (i := 8) (v := ?_) rfl (by kernel_rfl) (by kernel_rfl) (by kernel_rfl) (by kernel_rfl) (fun _ _ _ h => h) (Or.inl ⟨by rfl, ?_⟩) hHeld ?_; rotate_left; focus (intro w' hSw; replace hSw := hSw.out; go_simp; try with_reducible rfl); (try simp only [Act.put, List.setIfInBounds_toArray, List.set_cons_zero, List.set_cons_succ]))
  (refine OrdS.take (i := 9) (v := ?_) rfl (by kernel_rfl) (by kernel_rfl) (by kernel_rfl) (by kernel_rfl) (fun _ _ _ h => h) (Or.inl ⟨by rfl, ?_⟩) hHeld ?_; rotate_left; focus (intro w' hSw; replace hSw := hSw.out; go_simp; try with_reducible rfl); (try simp only [Act.put, List.setIfInBounds_toArray, List.set_cons_zero, List.set_cons_succ]))
  (refine OrdS.take (i := 10) (v := ?_) rfl (by kernel_rfl) (by kernel_rfl) (by kernel_rfl) (by kernel_rfl) (fun _ _ _ h => h) (Or.inl ⟨by rfl, ?_⟩) hHeld ?_; rotate_left; focus (intro w' hSw; replace hSw := hSw.out; go_simp; try with_reducible rfl); (try simp only [Act.put, List.setIfInBounds_toArray, List.set_cons_zero, List.set_cons_succ]))
  (refine OrdS.take (i := 11) (v := ?_) rfl (by kernel_rfl) (by kernel_rfl) (by kernel_rfl) (by kernel_rfl) (fun _ _ _ h => h) (Or.inl ⟨by rfl, ?_⟩) hHeld ?_; rotate_left; focus (intro w' hSw; replace hSw := hSw.out; go_simp; try with_reducible rfl); (try simp only [Act.put, List.setIfInBounds_toArray, List.set_cons_zero, List.set_cons_succ]))
  (refine OrdS.take (i := 12) (v := ?_) rfl (by kernel_rfl) (by kernel_rfl) (by kernel_rfl) (by kernel_rfl) (fun _ _ _ h => h) (Or.inl ⟨by rfl, ?_⟩) hHeld ?_; rotate_left; focus (intro w' hSw; replace hSw := hSw.out; go_simp; try with_reducible rfl); (try simp only [Act.put, List.setIfInBounds_toArray, List.set_cons_zero, List.set_cons_succ]))
  (refine OrdS.take (i := 13) (v := ?_) rfl (by kernel_rfl) (by kernel_rfl) (by kernel_rfl) (by kernel_rfl) (fun _ _ _ h => h) (Or.inl ⟨by rfl, ?_⟩) hHeld ?_; rotate_left; focus (intro w' hSw; replace hSw := hSw.out; go_simp; try with_reducible rfl); (try simp only [Act.put, List.setIfInBounds_toArray, List.set_cons_zero, List.set_cons_succ]))
  (refine OrdS.one (i := 1) rfl (by kernel_rfl) ?_; intro K hK)
  go_simp
  refine hK.out _ _ (fun _ => S3.out.fr (by (repeat' (first | (with_reducible exact Fr.refl _ _) | (with_reducible assumption) | (with_reducible refine Fr.drew ?_) | (with_reducible refine Fr.drewN ?_ _) | (with_reducible refine Fr.alloc ?_ _) | ((with_reducible refine Fr.setM ?_ (.inl ?_) _ _); rotate_left; focus (simp; done)) | ((with_reducible refine Fr.setCell ?_ (.inr ?_) _); rotate_left; focus (simp; done)) | ((with_reducible refine Fr.setCell ?_ (.inr ?_) _); rotate_left; focus (simp; omega)))))) ?_
  clear hK K
  (try simp only [Act.put, List.setIfInBounds_toArray, List.set_cons_zero, List.set_cons_succ])
  (refine OrdS.one (i := 6) rfl (by kernel_rfl) ?_; intro K hK)
  refine step_appG 89 (by rfl) (.tmp 47) (.tmp 51) (by rfl) 96 _ 4 64 Tryz.underlying89 info96 rfl (by decide) (by decide) w3.heap.size (.slice (some ⟨w3.heap.size, 0, none⟩) 0 0) 0 [] (by rfl) (own_empty (heap_alloc_new _ _)) _ s.ps.length (encL encPt (s.ps.zip vs)) (by rfl) (Yld.fr YL.out (show Fr0 w3 _ from by (repeat' (first | (with_reducible exact Fr.refl _ _) | (with_reducible assumption) | (with_reducible refine Fr.drew ?_) | (with_reducible refine Fr.drewN ?_ _) | (with_reducible refine Fr.alloc ?_ _) | ((with_reducible refine Fr.setM ?_ (.inl ?_) _ _); rotate_left; focus (simp; done)) | ((with_reducible refine Fr.setCell ?_ (.inr ?_) _); rotate_left; focus (simp; done)) | ((with_reducible refine Fr.setCell ?_ (.inr ?_) _); rotate_left; focus (simp; omega))))) (fun a n c e h => by obtain ⟨ob, q1, q2⟩ := yl_lt VS.out.2.1 e h; exact ⟨q2, fun q => q⟩)) (zip_enc encPt 4 (fun _ => rfl) VS.out.1) (one_ps VS.out.2.1 VS.out.2.2) (by have := HS.out.ps; omega) (by simp) ?_
  intro v52 w52 ho52 f52 hat52
  rw [Nat.zero_add, List.nil_append] at ho52
  have g52 : Fr0 w3 w52 := Fr.trans (by (repeat' (first | (with_reducible exact Fr.refl _ _) | (with_reducible assumption) | (with_reducible refine Fr.drew ?_) | (with_reducible refine Fr.drewN ?_ _) | (with_reducible refine Fr.alloc ?_ _) | ((with_reducible refine Fr.setM ?_ (.inl ?_) _ _); rotate_left; focus (simp; done)) | ((with_reducible refine Fr.setCell ?_ (.inr ?_) _); rotate_left; focus (simp; done)) | ((with_reducible refine Fr.setCell ?_ (.inr ?_) _); rotate_left; focus (simp; omega))))) f52 (fun q hq => .inr (by cases hq; exact Nat.le_refl _))
  have O52 := Lib.hid ho52
  have G52 := Lib.hid g52.size
  have L52 := Lib.hid (ho52.lt)
  obtain ⟨ao52, cap52, rfl, -, -⟩ := own_slice ho52
  clear ho52 f52 hat52
  refine hK.out _ _ (fun _ => S3.out.fr g52) ?_
  clear hK K hHeld
  (try simp only [Act.put, List.setIfInBounds_toArray, List.set_cons_zero, List.set_cons_succ])
  (refine OrdS.one (i := 14) rfl (by kernel_rfl) ?_; intro K hK)
  go_simp
  go_at_call 23
  refine (bykeys _ _ prs (PD3.out.fr (show Fr0 w3 _ from by (repeat' (first | (with_reducible exact Fr.refl _ _) | (with_reducible assumption) | (with_reducible refine Fr.drew ?_) | (with_reducible refine Fr.drewN ?_ _) | (with_reducible refine Fr.alloc ?_ _) | ((with_reducible refine Fr.setM ?_ (.inl ?_) _ _); rotate_left; focus (simp; done)) | ((with_reducible refine Fr.setCell ?_ (.inr ?_) _); rotate_left; focus (simp; done)) | ((with_reducible refine Fr.setCell ?_ (.inr ?_) _); rotate_left; focus (simp; omega)))))) hpl).mono ?_
  rintro e w23 ⟨ao23, cap23, rfl, h23, f23⟩
  have O23 := Lib.hid (ownsRow_fr O52.out f23 (fun _ _ q => q))
  have P23 := Lib.hid h23
  have g23 : Fr0 w3 w23 := Fr.trans0 (by (repeat' (first | (with_reducible exact Fr.refl _ _) | (with_reducible assumption) | (with_reducible refine Fr.drew ?_) | (with_reducible refine Fr.drewN ?_ _) | (with_reducible refine Fr.alloc ?_ _) | ((with_reducible refine Fr.setM ?_ (.inl ?_) _ _); rotate_left; focus (simp; done)) | ((with_reducible refine Fr.setCell ?_ (.inr ?_) _); rotate_left; focus (simp; done)) | ((with_reducible refine Fr.setCell ?_ (.inr ?_) _); rotate_left; focus (simp; omega))))) f23
  have S23 := Lib.hid g23.size
  clear h23 f23
  dsimp only
  have hHeld := S3.out.fr g23
  refine hK.out _ _ (fun _ => hHeld) ?_
  clear hK K
  (try simp only [Act.put, List.setIfInBounds_toArray, List.set_cons_zero, List.set_cons_succ])
  (refine OrdS.take (i := 15) (v := ?_) rfl (by kernel_rfl) (by kernel_rfl) (by kernel_rfl) (by kernel_rfl) (fun _ _ _ h => h) (Or.inl ⟨by rfl, ?_⟩) hHeld ?_; rotate_left; focus (intro w' hSw; replace hSw := hSw.out; go_simp; try with_reducible rfl); (try simp only [Act.put, List.setIfInBounds_toArray, List.set_cons_zero, List.set_cons_succ]))
  (refine OrdS.one (i := 16) rfl (by kernel_rfl) ?_; intro K hK)
  go_simp
  refine hK.out _ _ (fun _ => S3.out.fr (show Fr0 w3 _ from by (repeat' (first | (with_reducible exact Fr.refl _ _) | (with_reducible assumption) | (with_reducible refine Fr.drew ?_) | (with_reducible refine Fr.drewN ?_ _) | (with_reducible refine Fr.alloc ?_ _) | ((with_reducible refine Fr.setM ?_ (.inl ?_) _ _); rotate_left; focus (simp; done)) | ((with_reducible refine Fr.setCell ?_ (.inr ?_) _); rotate_left; focus (simp; done)) | ((with_reducible refine Fr.setCell ?_ (.inr ?_) _); rotate_left; focus (simp; omega)))))) ?_
  clear hK K hHeld
  (try simp only [Act.put, List.setIfInBounds_toArray, List.set_cons_zero, List.set_cons_succ])
  (refine OrdS.one (i := 17) rfl (by kernel_rfl) ?_; intro K hK)
  refine step_appG 89 (by rfl) (.tmp 52) (.tmp 62) (by rfl) 96 _ 4 64 Tryz.underlying89 info96 rfl (by decide) (by decide) w3.heap.size (.slice ao52 s.ps.length cap52) s.ps.length (encL encPt (s.ps.zip vs)) (by rfl) (ownsRow_fr O23.out (show Fr0 w23 _ from by (repeat' (first | (with_reducible exact Fr.refl _ _) | (with_reducible assumption) | (with_reducible refine Fr.drew ?_) | (with_reducible refine Fr.drewN ?_ _) | (with_reducible refine Fr.alloc ?_ _) | ((with_reducible refine Fr.setM ?_ (.inl ?_) _ _); rotate_left; focus (simp; done)) | ((with_reducible refine Fr.setCell ?_ (.inr ?_) _); rotate_left; focus (simp; done)) | ((with_reducible refine Fr.setCell ?_ (.inr ?_) _); rotate_left; focus (simp; omega))))) (fun _ _ q => q)) (.slice (some ⟨w23.heap.size, 0, none⟩) 1 1) 1 [.string (hashM s.hk a), .string a, .int .i64 wt, .slice ao23 (byK prs).length cap23] (by rfl) (yields_own (own_of_block (heap_alloc_new _ _) rfl)) rfl (by intro u hu; simp only [List.mem_cons, List.not_mem_nil, or_false] at hu; rcases hu with rfl | rfl | rfl | rfl <;> rfl) (by have := HS.out.ps; omega) (by have := S23.out; simp; omega) ?_
  intro v63 w63 ho63 f63 hat63
  have g63 : Fr0 w3 w63 := Fr.trans (by (repeat' (first | (with_reducible exact Fr.refl _ _) | (with_reducible assumption) | (with_reducible refine Fr.drew ?_) | (with_reducible refine Fr.drewN ?_ _) | (with_reducible refine Fr.alloc ?_ _) | ((with_reducible refine Fr.setM ?_ (.inl ?_) _ _); rotate_left; focus (simp; done)) | ((with_reducible refine Fr.setCell ?_ (.inr ?_) _); rotate_left; focus (simp; done)) | ((with_reducible refine Fr.setCell ?_ (.inr ?_) _); rotate_left; focus (simp; omega))))) f63 (fun q hq => .inr (L52.out q hq).1)
  have P63 := Lib.hid (((PairsIn.fr P23.out (show Fr0 w23 _ from by (repeat' (first | (with_reducible exact Fr.refl _ _) | (with_reducible assumption) | (with_reducible refine Fr.drew ?_) | (with_reducible refine Fr.drewN ?_ _) | (with_reducible refine Fr.alloc ?_ _) | ((with_reducible refine Fr.setM ?_ (.inl ?_) _ _); rotate_left; focus (simp; done)) | ((with_reducible refine Fr.setCell ?_ (.inr ?_) _); rotate_left; focus (simp; done)) | ((with_reducible refine Fr.setCell ?_ (.inr ?_) _); rotate_left; focus (simp; omega))))) (fun _ _ _ q => q)).fr f63 (fun q h1 h2 h3 => by have := (L52.out q h3).2; omega)).imp fun q h1 _ => (show w3.heap.size ≤ q from by have := G52.out; omega))
  have O63 := Lib.hid ho63
  obtain ⟨ao63, cap63, rfl, -, -⟩ := own_slice ho63
  have c7 := (S3.out.fr g63).pts
  have c7f : w63.frozen? ⟨sb, 7, none⟩ = false := (g63.frozen (p := ⟨sb, 7, none⟩) hsb3 (fun q => q)).trans HFZ.out
  clear ho63 f63 hat63
  refine hK.out _ _ (fun _ => S3.out.fr g63) ?_
  clear hK K
  (try simp only [Act.put, List.setIfInBounds_toArray, List.set_cons_zero, List.set_cons_succ])
  (refine OrdS.one (i := 18) rfl (by kernel_rfl) ?_; intro K hK)
  go_simp
  refine hK.out _ _ (fun _ => S3.out.fr g63) ?_
  clear hK K
  (try simp only [Act.put, List.setIfInBounds_toArray, List.set_cons_zero, List.set_cons_succ])
  (refine OrdS.one (i := 19) rfl (by kernel_rfl) ?_; intro K hK)
  go_simp
  refine hK.out _ _ (fun _ => S3.out.fr g63) ?_
  clear hK K
  (try simp only [Act.put, List.setIfInBounds_toArray, List.set_cons_zero, List.set_cons_succ])
  (refine OrdS.one (i := 20) rfl (by kernel_rfl) ?_; intro K hK)
  go_simp
  refine hK.out _ _ (fun h => absurd (show true = false from h) (by decide)) ?_
  clear hK K
  (try simp only [Act.put, List.setIfInBounds_toArray, List.set_cons_zero, List.set_cons_succ])
  refine OrdS.done (by kernel_rfl) ?_
  have F63 := Lib.hid (F3.out.trans0 g63)
  have FA := Lib.hid (show Fr (fun q => q = sb) w63 (w63.setCell ⟨sb, 7, none⟩ (.slice ao63 (s.ps.length + 1) cap63)) from (Fr.refl (fun q => q = sb) _).setCell (.inl rfl) _)
  have R := ((W0.out.2.1.fr F63.out (fun q => q)).fr FA.out (fun q => hne1 q.symm))
  have X := ((W0.out.2.2.1.fr F63.out (fun q => q)).fr FA.out (fun q => hne2 q.symm))
  have r0 := R.cell 0 _ rfl
  have r1 := R.cell 1 _ rfl
  have r2 := R.cell 2 _ rfl
  have r3 := R.cell 3 _ rfl
  have r4 := R.cell 4 _ rfl
  have r5 := R.cell 5 _ rfl
  have r6 := R.cell 6 _ rfl
  have r7 := R.cell 7 _ rfl
  have r8 := R.cell 8 _ rfl
  have r9 := R.cell 9 _ rfl
  have rf0 := R.free 0
  have rf1 := R.free 1
  have rf2 := R.free 2
  have rf3 := R.free 3
  have rf4 := R.free 4
  have rf5 := R.free 5
  have rf6 := R.free 6
  have rf7 := R.free 7
  have rf8 := R.free 8
  have rf9 := R.free 9
  have rl := R.lt
  have x0 := X.cell 0 _ rfl
  have x1 := X.cell 1 _ rfl
  have x2 := X.cell 2 _ rfl
  have x3 := X.cell 3 _ rfl
  have x4 := X.cell 4 _ rfl
  have x5 := X.cell 5 _ rfl
  have x6 := X.cell 6 _ rfl
  have x7 := X.cell 7 _ rfl
  have x8 := X.cell 8 _ rfl
  have x9 := X.cell 9 _ rfl
  have xf0 := X.free 0
  have xl := X.lt
  clear R X c7 c7f
  generalize hA : w63.setCell ⟨sb, 7, none⟩ (.slice ao63 (s.ps.length + 1) cap63) = wA at *
  go_wp2_with fail
  refine bodyPost_ret (v := toldE 0) (by simp [results, Tryz.results28, go_sem, *]) rfl ?_
  subst hA
  have f' : Fr (fun q => q = w.heap.size + 1) (w63.setCell ⟨sb, 7, none⟩ (.slice ao63 (s.ps.length + 1) cap63)) _ := (((((((((((Fr.refl (fun q => q = w.heap.size + 1) (w63.setCell ⟨sb, 7, none⟩ (.slice ao63 (s.ps.length + 1) cap63))).setCell (.inl rfl) (.int .u8 0) (p := ⟨w.heap.size + 1, 0, none⟩)).setCell (.inl rfl) (.string ⟨#[]⟩) (p := ⟨w.heap.size + 1, 1, none⟩)).setCell (.inl rfl) (.string ⟨#[]⟩) (p := ⟨w.heap.size + 1, 2, none⟩)).setCell (.inl rfl) (.string ⟨#[]⟩) (p := ⟨w.heap.size + 1, 3, none⟩)).setCell (.inl rfl) (.int .i64 0) (p := ⟨w.heap.size + 1, 4, none⟩)).setCell (.inl rfl) (.int .i64 0) (p := ⟨w.heap.size + 1, 5, none⟩)).setCell (.inl rfl) (.int .i64 0) (p := ⟨w.heap.size + 1, 6, none⟩)).setCell (.inl rfl) (.slice none 0 0) (p := ⟨w.heap.size + 1, 7, none⟩)).setCell (.inl rfl) (.slice none 0 0) (p := ⟨w.heap.size + 1, 8, none⟩)).setCell (.inl rfl) (.slice none 0 0) (p := ⟨w.heap.size + 1, 9, none⟩))
  refine ⟨_, rfl, toldE_at _ _ 0, ZRep.newP (s := s) HC3.out.1 HC3.out.2.2 (PtsIn.snoc (x := ⟨(hashM s.hk a), a, wt, byK prs⟩) O63.out VS.out.1 (fun i l u h1 h2 => (VS.out.2.2 i l u h1 h2).fr g63 fun _ _ _ q => q) (P63.out.imp fun q h1 _ => ⟨by omega, by omega⟩) fun q h1 => ⟨by omega, by omega⟩) g63 f' hne1, ?_⟩
  exact (((FW3.out.trans0 g63).mono fun _ q => q.elim).trans FA.out fun _ q => .inl q).trans f' fun q h1 => .inr (by omega)

end Go.Proofs.YtbafaadmlpamiaaGreatDoor
