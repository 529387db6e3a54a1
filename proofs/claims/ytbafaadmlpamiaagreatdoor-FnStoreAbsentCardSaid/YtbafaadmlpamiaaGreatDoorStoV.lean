/- The store of lists: the value of a vertex, an empty store. -/
import Derived.Test.YtbafaadmlpamiaaGreatDoorSto2
namespace Go.Proofs.YtbafaadmlpamiaaGreatDoor
open Go Go.Hy Go.RowKit

set_option maxRecDepth 100000 in
set_option maxHeartbeats 1000000 in
theorem value47 (w : World) (sb : Nat) (s : St) (h : ZRep w sb s) (hs : s.ps.length ≤ 400000) (k : ByteArray) (i : Nat) (hi : ptI s.ps k = some i) :
    Calls Tryz.prog 47 #[.pointer (some ⟨sb, 0, none⟩), .string k] w fun e w' => e = .returned (.string (s.value k)) ∧ Fr0 w w' := by
  have H := Lib.hid h
  obtain ⟨hlt, x, hx, -⟩ := ptI_lt hi
  obtain ⟨b1, b2, b3, b4, pv, lv, hc, hp, hl⟩ := h
  obtain ⟨ob, cap, pv, rfl, hl2, _, c0, c1, c2, c3, hpv⟩ := hp.at_ hx
  have c7 := hc.cell 7 _ rfl
  have hlb := hc.lt
  have HV := Lib.hid (value_some hi hx)
  have HI := Lib.hid hi
  have HC := Lib.hid hc
  clear hc hp hl hpv hx hi c0 c2 c3
  have z0 : (0 : Int) ≤ (i : Int) := by omega
  have z1 : (i : Int) < (s.ps.length : Int) := by omega
  go_enter Tryz.func47, Tryz.ntmps47
  go_wp2_with fail
  go_region_held3 (fun w' => w'.cell? ⟨sb, 7, none⟩ = some (.slice (some ⟨ob, 0, none⟩) s.ps.length cap) ∧ w'.cell? ⟨ob, i * 4 + 1, none⟩ = some (.string x.v)) (go_keep)
    ((go_at_call 44
      refine (point44 _ sb s (H.out.fr0 (by (repeat' (first | (with_reducible exact Fr.refl _ _) | (with_reducible assumption) | (with_reducible refine Fr.drew ?_) | (with_reducible refine Fr.drewN ?_ _) | (with_reducible refine Fr.alloc ?_ _) | ((with_reducible refine Fr.setM ?_ (.inl ?_) _ _); rotate_left; focus (simp; done)) | ((with_reducible refine Fr.setCell ?_ (.inr ?_) _); rotate_left; focus (simp; done)) | ((with_reducible refine Fr.setCell ?_ (.inr ?_) _); rotate_left; focus (simp; omega)))))) hs k).mono ?_
      rintro e w2 ⟨rfl, f2⟩
      rw [HI.out, plc_some]
      have F2 := Lib.hid (show Fr0 w w2 from Fr.trans0 (by (repeat' (first | (with_reducible exact Fr.refl _ _) | (with_reducible assumption) | (with_reducible refine Fr.drew ?_) | (with_reducible refine Fr.drewN ?_ _) | (with_reducible refine Fr.alloc ?_ _) | ((with_reducible refine Fr.setM ?_ (.inl ?_) _ _); rotate_left; focus (simp; done)) | ((with_reducible refine Fr.setCell ?_ (.inr ?_) _); rotate_left; focus (simp; done)) | ((with_reducible refine Fr.setCell ?_ (.inr ?_) _); rotate_left; focus (simp; omega))))) f2)
      have d7 := (F2.out.cell (p := ⟨sb, 7, none⟩) hlb (fun q => q)).trans c7
      have d1 := (F2.out.cell (p := ⟨ob, i * 4 + 1, none⟩) hl2 (fun q => q)).trans c1
      clear f2))
  all_goals go_wp2_with fail
  all_goals go_ret
  all_goals exact ⟨by rw [HV.out]; rfl, by first | exact F2.out | (repeat' (first | (with_reducible exact Fr.refl _ _) | (with_reducible assumption) | (with_reducible refine Fr.drew ?_) | (with_reducible refine Fr.drewN ?_ _) | (with_reducible refine Fr.alloc ?_ _) | ((with_reducible refine Fr.setM ?_ (.inl ?_) _ _); rotate_left; focus (simp; done)) | ((with_reducible refine Fr.setCell ?_ (.inr ?_) _); rotate_left; focus (simp; done)) | ((with_reducible refine Fr.setCell ?_ (.inr ?_) _); rotate_left; focus (simp; omega))))⟩

set_option maxRecDepth 100000 in
set_option maxHeartbeats 1000000 in
theorem new27 (w : World) (b0 b1 b2 b3 b4 b5 : Bool) (hk : Nat) (s : St) (h0 : s.dir = b0) (h5 : s.pr = b5) (h6 : s.hk = hk) (hp : s.ps = []) (hl : s.ls = []) :
    Calls Tryz.prog 27 #[.agg #[.bool b0, .bool b1, .bool b2, .bool b3, .bool b4, .bool b5, .int .u8 hk]] w fun e w' => ∃ sb, e = .returned (.pointer (some ⟨sb, 0, none⟩)) ∧ w.heap.size ≤ sb ∧ ZRep w' sb s ∧ Fr0 w w' := by
  have H := Lib.hid (And.intro h0 (And.intro h5 (And.intro h6 (And.intro hp hl))))
  clear h0 h5 h6 hp hl
  go_enter Tryz.func27, Tryz.ntmps27
  go_wp2_with fail
  go_ret
  refine ⟨_, rfl, ?_, ⟨b1, b2, b3, b4, .slice none 0 0, .slice none 0 0, ?_, ?_, ?_⟩, by (repeat' (first | (with_reducible exact Fr.refl _ _) | (with_reducible assumption) | (with_reducible refine Fr.drew ?_) | (with_reducible refine Fr.drewN ?_ _) | (with_reducible refine Fr.alloc ?_ _) | ((with_reducible refine Fr.setM ?_ (.inl ?_) _ _); rotate_left; focus (simp; done)) | ((with_reducible refine Fr.setCell ?_ (.inr ?_) _); rotate_left; focus (simp; done)) | ((with_reducible refine Fr.setCell ?_ (.inr ?_) _); rotate_left; focus (simp; omega))))⟩
  · simp
  · obtain ⟨q0, q5, q6, _, _⟩ := H.out
    rw [q0, q5, q6]
    have y := Cells.new (w.alloc (.cells #[.bool b0, .bool b1, .bool b2, .bool b3, .bool b4, .bool b5, .int .u8 hk] 52)) #[.bool b0, .bool b1, .bool b2, .bool b3, .bool b4, .bool b5, .int .u8 hk, .slice none 0 0, .slice none 0 0] 91
    rwa [show (w.alloc (.cells #[.bool b0, .bool b1, .bool b2, .bool b3, .bool b4, .bool b5, .int .u8 hk] 52)).heap.size = w.heap.size + 1 from by simp] at y
  · obtain ⟨_, _, _, q, _⟩ := H.out
    rw [q]
    exact PtsIn.nil _ _
  · obtain ⟨_, _, _, _, q⟩ := H.out
    rw [q]
    exact LinksIn.nil _ _
end Go.Proofs.YtbafaadmlpamiaaGreatDoor
