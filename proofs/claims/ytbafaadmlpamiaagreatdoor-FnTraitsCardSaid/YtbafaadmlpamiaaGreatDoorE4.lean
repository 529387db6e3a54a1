/- E4: Like, Trt. -/
import Derived.Test.YtbafaadmlpamiaaGreatDoorE2
import Derived.Test.YtbafaadmlpamiaaGreatDoorA6
import Derived.Test.YtbafaadmlpamiaaGreatDoorE3
/- NewLike: an empty graph of the same traits. -/
namespace Go.Proofs.YtbafaadmlpamiaaGreatDoor
open Go Go.Hy Go.RowKit

theorem fr_tb {w w1 : World} {tb i : Nat} {v : Value} (h : Fr (fun x => x = tb) w w1) : Fr (fun x => x = tb) w (w1.setCell ⟨tb, i, none⟩ v) := h.setCell (.inl rfl) v

/-- a graph's traits -/
def GS.ts (G : GS) : TS := ⟨G.dir, G.ac, G.we, G.ro, G.pr⟩

set_option maxRecDepth 100000 in
set_option maxHeartbeats 2000000 in
theorem lk73 (w : World) (tb xb : Nat) (G : GS) (h : GRep w G) (hx : w.cell? ⟨xb, 0, none⟩ = some G.val) (hxl : xb < w.heap.size) (hxt : xb ≠ tb) (t : TS) (ht : Cells w tb t.cells 104) (hto : tb ∉ G.own) (htk : tb ≠ G.kB) :
    Calls Tryz.prog 73 #[.pointer (some ⟨tb, 0, none⟩), .pointer (some ⟨xb, 0, none⟩)] w fun e w' => e = .returned (.tuple #[]) ∧ Cells w' tb G.ts.cells 104 ∧ Fr (· = tb) w w' ∧ w'.heap.size = w.heap.size := by
  have HGR := Lib.hid (show ∀ w', Fr (· = tb) w w' → GRep w' G from fun w' f => h.fr f (fun b hb q => hto (q ▸ hb)) (fun q => htk q.symm))
  obtain ⟨⟨g0, g1, g2⟩, ⟨r0, r1, r2, r3, r4⟩, l0, l1, l2⟩ := h.facts
  have ne1 : ¬ G.tB = tb := fun q => hto (by rw [← q]; simp [GS.own])
  have ne2 : ¬ G.gB = tb := fun q => hto (by rw [← q]; simp [GS.own])
  have mA3 := mdTraits
  have mA4 := muTraits
  obtain ⟨tl, ⟨t0, t1, t2, t3, t4⟩, z0, z1, z2, z3, z4⟩ := t0cells w tb t ht
  have HT := Lib.hid ht
  obtain ⟨G', hG'⟩ : ∃ G', G' = G := ⟨_, rfl⟩
  have HD := Lib.hid (And.intro hto (And.intro htk hG'))
  clear h ht hto htk hG'
  have key : ∀ d : Bool, G.dir = d → Cells (((((w.setCell ⟨tb, 0, none⟩ (.bool d)).setCell ⟨tb, 1, none⟩ (.bool G.ac)).setCell ⟨tb, 2, none⟩ (.bool G.we)).setCell ⟨tb, 3, none⟩ (.bool G.ro)).setCell ⟨tb, 4, none⟩ (.bool G.pr)) tb G.ts.cells 104 := fun d hd => by
    have := cells_set (cells_set (cells_set (cells_set (cells_set HT.out 0 (.bool d)) 1 (.bool G.ac)) 2 (.bool G.we)) 3 (.bool G.ro)) 4 (.bool G.pr)
    rw [← hd] at this ⊢
    simpa [TS.cells, GS.ts] using this
  have KEY := Lib.hid key
  clear key
  unfold GS.val at hx
  cases hd : G.dir with
  | true =>
    have HK := Lib.hid (KEY.out _ hd)
    rw [hd] at hx r0
    go_enter Tryz.func73, Tryz.ntmps73
    go_wp2_with (first
      | (go_at_call 186; go_must (refine (dtraits _ G (HGR.out _ (by (repeat' (first | (with_reducible exact Fr.refl _ _) | (with_reducible refine fr_tb ?_)))))).mono ?_); rintro e2 w8 ⟨rfl, h8⟩; subst h8))
    go_end0
    exact ⟨rfl, HK.out, by (repeat' (first | (with_reducible exact Fr.refl _ _) | (with_reducible refine fr_tb ?_))), by simp⟩
  | false =>
    have HK := Lib.hid (KEY.out _ hd)
    rw [hd] at hx r0
    go_enter Tryz.func73, Tryz.ntmps73
    go_wp2_with (first
      | (go_at_call 211; go_must (refine (utraits _ G (HGR.out _ (by (repeat' (first | (with_reducible exact Fr.refl _ _) | (with_reducible refine fr_tb ?_)))))).mono ?_); rintro e2 w8 ⟨rfl, h8⟩; subst h8))
    go_end0
    exact ⟨rfl, HK.out, by (repeat' (first | (with_reducible exact Fr.refl _ _) | (with_reducible refine fr_tb ?_))), by simp⟩

/-- the one option of NewLike -/
def fv73 (xb : Nat) : Value := .func (Fn.func 73) #[] #[.pointer (some ⟨xb, 0, none⟩)]

set_option maxRecDepth 100000 in
set_option maxHeartbeats 2000000 in
theorem newws1 (w : World) (kB hk n : Nat) (cs : Array Value) (ob xb : Nat) (G : GS) (h : GRep w G) (hx : w.cell? ⟨xb, 0, none⟩ = some G.val) (hxl : xb < w.heap.size) (hcell : w.cell? ⟨ob, 0, none⟩ = some (fv73 xb)) (hob : ob < w.heap.size)
    (hs : SRep w (n + 4) (emptySt n)) (hk1 : Cells w kB cs 37) (hk2 : KC cs) (hk3 : cs[6]? = some (.int .u8 hk)) (o1 : kB < n) (o2 : w.heap.size = n + 5) :
    Calls Tryz.prog 81 #[.func (Fn.func 62) #[] #[.pointer (some ⟨kB, 0, none⟩)], .iface 178 (.pointer (some ⟨n + 4, 0, none⟩)), .slice (some ⟨ob, 0, none⟩) 1 1] w fun e w' =>
      e = .returned (emptyG (w.heap.size + 1) w.heap.size (n + 4) kB hk G.ts (emptySt n)).val ∧ GRep w' (emptyG (w.heap.size + 1) w.heap.size (n + 4) kB hk G.ts (emptySt n)) ∧ Fr0 w w' := by
  have H := Lib.hid (And.intro hs (And.intro hk1 (And.intro hk2 (And.intro hk3 (And.intro o1 o2)))))
  have HX := Lib.hid (And.intro h hx)
  have C0 := Lib.hid (Cells.new w #[.bool false, .bool false, .bool false, .bool false, .bool false] 104)
  have F0 := Lib.hid (show Fr0 w (w.alloc (.cells #[.bool false, .bool false, .bool false, .bool false, .bool false] 104)) by (repeat' (first | (with_reducible exact Fr.refl _ _) | (with_reducible assumption) | (with_reducible refine Fr.drew ?_) | (with_reducible refine Fr.drewN ?_ _) | (with_reducible refine Fr.alloc ?_ _) | ((with_reducible refine Fr.setM ?_ (.inl ?_) _ _); rotate_left; focus (simp; done)) | ((with_reducible refine Fr.setCell ?_ (.inr ?_) _); rotate_left; focus (simp; done)) | ((with_reducible refine Fr.setCell ?_ (.inr ?_) _); rotate_left; focus (simp; omega)))))
  clear hs hk1 hk2 hk3 o1 o2 h hx
  unfold fv73 at hcell
  go_enter Tryz.func81, Tryz.ntmps81
  go_wp2_with fail
  try go_frame
  go_loopg [12] 1 (fun k c wr => (k = 1 ∧ c = .int .i64 0 ∧ wr = w.alloc (.cells #[.bool false, .bool false, .bool false, .bool false, .bool false] 104)) ∨ (k = 0 ∧ c = .int .i64 1 ∧ Cells wr w.heap.size G.ts.cells 104 ∧ Fr (· = w.heap.size) (w.alloc (.cells #[.bool false, .bool false, .bool false, .bool false, .bool false] 104)) wr ∧ wr.heap.size = w.heap.size + 1))
  case atStart => exact .inl ⟨rfl, rfl, rfl⟩
  case round =>
    rcases hrel with ⟨rfl, rfl, rfl⟩ | ⟨rfl, rfl, hc, f, hz⟩
    · go_wp2_with fail
      refine (lk73 _ w.heap.size xb G (HX.out.1.fr F0.out (fun _ _ q => q) (fun q => q)) ((F0.out.cell (p := ⟨xb, 0, none⟩) hxl (fun q => q)).trans HX.out.2) (by simp; omega) (by omega) TS.zero C0.out (fun q => by have := HX.out.1.lt _ q; omega) (fun q => by obtain ⟨cs', q1, _⟩ := HX.out.1.k; have := q1.lt; omega)).mono ?_
      rintro e w3 ⟨rfl, h1, h2, h3⟩
      have D := Lib.hid (And.intro h1 (And.intro h2 h3))
      clear h1 h2 h3
      go_wp2_with fail
      go_roundg 0
      case measure => decide
      case rel => exact .inr ⟨rfl, rfl, D.out.1, D.out.2.1, by rw [D.out.2.2]; simp⟩
    · have F2 := Lib.hid (show Fr (· = w.heap.size) w wr from (F0.out.mono (fun k q => q.elim)).trans f fun k q => .inl q)
      obtain ⟨l, ⟨c0, c1, c2, c3, c4⟩, -⟩ := t0cells wr _ _ hc
      have HT := Lib.hid hc
      have HZ := Lib.hid hz
      clear hc f hz
      cases hd : G.ts.d with
      | true =>
        rw [hd] at c0
        have hd' := Lib.hid hd
        clear hd
        go_wp2_with fail
        refine (newd wr kB w.heap.size (n + 4)).mono ?_
        rintro e w5 ⟨rfl, rfl⟩
        go_wp2_with fail
        go_ret
        obtain ⟨hs, hk1, hk2, hk3, o1, o2⟩ := H.out
        have sz : wr.heap.size = w.heap.size + 1 := HZ.out
        have f9 : Fr0 w (wr.alloc (.cells #[.func (Fn.func 62) #[] #[.pointer (some ⟨kB, 0, none⟩)], .pointer (some ⟨w.heap.size, 0, none⟩), .iface 178 (.pointer (some ⟨n + 4, 0, none⟩))] 161)) := (F2.out.shrink fun k q => .inr (Nat.le_of_eq q.symm)).alloc _
        have hv : (emptyG (w.heap.size + 1) w.heap.size (n + 4) kB hk G.ts (emptySt n)).val = .iface 162 (.pointer (some ⟨wr.heap.size, 0, none⟩)) := by
          rw [sz]
          show Value.iface (if G.ts.d then 162 else 164) _ = _
          rw [hd'.out]
          rfl
        refine ⟨by rw [hv]; rfl, GRep.empty ?_ (HT.out.alloc _) (hs.fr f9 (fun q => q) (fun _ _ q => q)) (hk1.fr f9 (fun q => q)) hk2 hk3 o1 rfl (by omega) (by omega), f9⟩
        rw [hd'.out, ← sz]
        exact Cells.new wr _ 161
      | false =>
        rw [hd] at c0
        have hd' := Lib.hid hd
        clear hd
        go_wp2_with fail
        refine (newu wr kB w.heap.size (n + 4)).mono ?_
        rintro e w5 ⟨rfl, rfl⟩
        go_wp2_with fail
        go_ret
        obtain ⟨hs, hk1, hk2, hk3, o1, o2⟩ := H.out
        have sz : wr.heap.size = w.heap.size + 1 := HZ.out
        have f9 : Fr0 w (wr.alloc (.cells #[.func (Fn.func 62) #[] #[.pointer (some ⟨kB, 0, none⟩)], .pointer (some ⟨w.heap.size, 0, none⟩), .iface 178 (.pointer (some ⟨n + 4, 0, none⟩))] 163)) := (F2.out.shrink fun k q => .inr (Nat.le_of_eq q.symm)).alloc _
        have hv : (emptyG (w.heap.size + 1) w.heap.size (n + 4) kB hk G.ts (emptySt n)).val = .iface 164 (.pointer (some ⟨wr.heap.size, 0, none⟩)) := by
          rw [sz]
          show Value.iface (if G.ts.d then 162 else 164) _ = _
          rw [hd'.out]
          rfl
        refine ⟨by rw [hv]; rfl, GRep.empty ?_ (HT.out.alloc _) (hs.fr f9 (fun q => q) (fun _ _ q => q)) (hk1.fr f9 (fun q => q)) hk2 hk3 o1 rfl (by omega) (by omega), f9⟩
        rw [hd'.out, ← sz]
        exact Cells.new wr _ 163
theorem ta162 (v : Value) (w : World) : (Instr.typeAssert (.iface 162 v) 83 162 false).run Tryz.prog w = .ok v w := by
  simp [Instr.typeAssert, run_underlying Tryz.underlying162, Result.andThen]

theorem ta164 (v : Value) (w : World) : (Instr.typeAssert (.iface 164 v) 83 164 false).run Tryz.prog w = .ok v w := by
  simp [Instr.typeAssert, run_underlying Tryz.underlying164, Result.andThen]

theorem newg1 (w : World) (kB hk : Nat) (cs : Array Value) (ob xb : Nat) (G : GS) (h : GRep w G) (hx : w.cell? ⟨xb, 0, none⟩ = some G.val) (hxl : xb < w.heap.size) (hcell : w.cell? ⟨ob, 0, none⟩ = some (fv73 xb)) (hob : ob < w.heap.size)
    (hk1 : Cells w kB cs 37) (hk2 : KC cs) (hk3 : cs[6]? = some (.int .u8 hk)) :
    Calls Tryz.prog 61 #[.func (Fn.func 62) #[] #[.pointer (some ⟨kB, 0, none⟩)], .slice (some ⟨ob, 0, none⟩) 1 1] w fun e w' => ∃ H, e = .returned H.val ∧ Fresh w kB hk G.ts w' H := by
  have A := Lib.hid (And.intro h (And.intro hx (And.intro hcell (And.intro hk1 (And.intro hk2 hk3)))))
  clear h hx hcell hk1 hk2 hk3
  go_enter Tryz.func61, Tryz.ntmps61
  go_wp2_with fail
  refine (newstore w).mono ?_
  rintro e w1 ⟨rfl, hs, f1, z1⟩
  have N := Lib.hid (And.intro hs (And.intro f1 z1))
  clear hs f1 z1
  go_wp2_with fail
  refine (newws1 w1 kB hk w.heap.size cs ob xb G (A.out.1.fr N.out.2.1 (fun _ _ q => q) (fun q => q)) ((N.out.2.1.cell (p := ⟨xb, 0, none⟩) hxl (fun q => q)).trans A.out.2.1) (Nat.lt_of_lt_of_le hxl N.out.2.1.size) ((N.out.2.1.cell (p := ⟨ob, 0, none⟩) hob (fun q => q)).trans A.out.2.2.1) (Nat.lt_of_lt_of_le hob N.out.2.1.size) N.out.1 (A.out.2.2.2.1.fr N.out.2.1 (fun q => q)) A.out.2.2.2.2.1 A.out.2.2.2.2.2 A.out.2.2.2.1.lt N.out.2.2).mono ?_
  rintro e w2 ⟨rfl, r2, f2⟩
  have R := Lib.hid (And.intro r2 f2)
  clear r2 f2
  go_wp2_with fail
  go_ret
  refine ⟨_, rfl, R.out.1, rfl, rfl, rfl, rfl, rfl, rfl, rfl, rfl, rfl, ?_, N.out.2.1.trans0 R.out.2⟩
  have z := N.out.2.2
  intro b hb
  simp only [GS.own, emptyG, St1.own, emptySt, List.map_nil, List.append_nil, List.mem_cons, List.not_mem_nil, or_false] at hb
  rcases hb with rfl | rfl | rfl | rfl | rfl | rfl | rfl <;> omega

set_option maxRecDepth 100000 in
set_option maxHeartbeats 2000000 in
theorem newlike (w : World) (G : GS) (h : GRep w G) :
    Calls Tryz.prog 50 #[G.val] w fun e w' => ∃ H, e = .returned H.val ∧ Fresh w G.kB G.hk G.ts w' H := by
  have HG := Lib.hid h
  have HGR := Lib.hid (show ∀ w', Fr0 w w' → GRep w' G from fun w' f => h.fr f (fun _ _ q => q) (fun q => q))
  obtain ⟨⟨g0, g1, g2⟩, ⟨r0, r1, r2, r3, r4⟩, l0, l1, l2⟩ := h.facts
  obtain ⟨cs, hkc, hkk, hk6⟩ := h.k
  have HK := Lib.hid (And.intro hkc (And.intro hkk hk6))
  have mA3 := mdTraits
  have mA4 := muTraits
  have mT1 := ta162
  have mT2 := ta164
  clear h hkc hkk hk6
  have key : ∀ v, v = G.val → Calls Tryz.prog 50 #[v] w fun e w' => ∃ H, e = .returned H.val ∧ Fresh w G.kB G.hk G.ts w' H := by
    intro v hv
    have HV := Lib.hid hv
    unfold GS.val at hv
    cases hd : G.dir with
    | true =>
      rw [hd] at hv r0
      subst hv
      go_enter Tryz.func50, Tryz.ntmps50
      go_wp2_with (first
        | (go_at_call 186; go_must (refine (dtraits _ G (HGR.out _ (by (repeat' (first | (with_reducible exact Fr.refl _ _) | (with_reducible assumption) | (with_reducible refine Fr.drew ?_) | (with_reducible refine Fr.drewN ?_ _) | (with_reducible refine Fr.alloc ?_ _) | ((with_reducible refine Fr.setM ?_ (.inl ?_) _ _); rotate_left; focus (simp; done)) | ((with_reducible refine Fr.setCell ?_ (.inr ?_) _); rotate_left; focus (simp; done)) | ((with_reducible refine Fr.setCell ?_ (.inr ?_) _); rotate_left; focus (simp; omega))))))).mono ?_); rintro e2 w8 ⟨rfl, h8⟩; subst h8))
      have FX := Lib.hid (show Fr0 w ((w.alloc (.cells #[.iface 162 (.pointer (some ⟨G.gB, 0, none⟩))] 83)).alloc (.cells #[.func (Fn.func 73) #[] #[.pointer (some ⟨w.heap.size, 0, none⟩)]] 119)) by (repeat' (first | (with_reducible exact Fr.refl _ _) | (with_reducible assumption) | (with_reducible refine Fr.drew ?_) | (with_reducible refine Fr.drewN ?_ _) | (with_reducible refine Fr.alloc ?_ _) | ((with_reducible refine Fr.setM ?_ (.inl ?_) _ _); rotate_left; focus (simp; done)) | ((with_reducible refine Fr.setCell ?_ (.inr ?_) _); rotate_left; focus (simp; done)) | ((with_reducible refine Fr.setCell ?_ (.inr ?_) _); rotate_left; focus (simp; omega)))))
      have X1 := Lib.hid ((Cells.new w #[.iface 162 (.pointer (some ⟨G.gB, 0, none⟩))] 83).alloc (.cells #[.func (Fn.func 73) #[] #[.pointer (some ⟨w.heap.size, 0, none⟩)]] 119))
      have X2 := Lib.hid (Cells.new (w.alloc (.cells #[.iface 162 (.pointer (some ⟨G.gB, 0, none⟩))] 83)) #[.func (Fn.func 73) #[] #[.pointer (some ⟨w.heap.size, 0, none⟩)]] 119)
      refine (newg1 _ G.kB G.hk cs (w.heap.size + 1) w.heap.size G (HGR.out _ FX.out) (by rw [← HV.out]; exact X1.out.cell 0 _ rfl) X1.out.lt (by have := X2.out.cell 0 _ rfl; rw [World.size_alloc] at this; exact this) (by simp) (HK.out.1.fr FX.out (fun q => q)) HK.out.2.1 HK.out.2.2).mono ?_
      rintro e w9 ⟨H, rfl, FH⟩
      have FF := Lib.hid FH
      clear FH
      go_wp2_with fail
      go_ret
      have q := FF.out
      exact ⟨H, rfl, q.rep, q.pts, q.lks, q.kb, q.hk, q.dir, q.ac, q.we, q.ro, q.pr, fun b hb => by have h1 := q.new b hb; simp at h1; omega, FX.out.trans0 q.fr⟩
    | false =>
      rw [hd] at hv r0
      subst hv
      go_enter Tryz.func50, Tryz.ntmps50
      go_wp2_with (first
        | (go_at_call 211; go_must (refine (utraits _ G (HGR.out _ (by (repeat' (first | (with_reducible exact Fr.refl _ _) | (with_reducible assumption) | (with_reducible refine Fr.drew ?_) | (with_reducible refine Fr.drewN ?_ _) | (with_reducible refine Fr.alloc ?_ _) | ((with_reducible refine Fr.setM ?_ (.inl ?_) _ _); rotate_left; focus (simp; done)) | ((with_reducible refine Fr.setCell ?_ (.inr ?_) _); rotate_left; focus (simp; done)) | ((with_reducible refine Fr.setCell ?_ (.inr ?_) _); rotate_left; focus (simp; omega))))))).mono ?_); rintro e2 w8 ⟨rfl, h8⟩; subst h8))
      have FX := Lib.hid (show Fr0 w ((w.alloc (.cells #[.iface 164 (.pointer (some ⟨G.gB, 0, none⟩))] 83)).alloc (.cells #[.func (Fn.func 73) #[] #[.pointer (some ⟨w.heap.size, 0, none⟩)]] 119)) by (repeat' (first | (with_reducible exact Fr.refl _ _) | (with_reducible assumption) | (with_reducible refine Fr.drew ?_) | (with_reducible refine Fr.drewN ?_ _) | (with_reducible refine Fr.alloc ?_ _) | ((with_reducible refine Fr.setM ?_ (.inl ?_) _ _); rotate_left; focus (simp; done)) | ((with_reducible refine Fr.setCell ?_ (.inr ?_) _); rotate_left; focus (simp; done)) | ((with_reducible refine Fr.setCell ?_ (.inr ?_) _); rotate_left; focus (simp; omega)))))
      have X1 := Lib.hid ((Cells.new w #[.iface 164 (.pointer (some ⟨G.gB, 0, none⟩))] 83).alloc (.cells #[.func (Fn.func 73) #[] #[.pointer (some ⟨w.heap.size, 0, none⟩)]] 119))
      have X2 := Lib.hid (Cells.new (w.alloc (.cells #[.iface 164 (.pointer (some ⟨G.gB, 0, none⟩))] 83)) #[.func (Fn.func 73) #[] #[.pointer (some ⟨w.heap.size, 0, none⟩)]] 119)
      refine (newg1 _ G.kB G.hk cs (w.heap.size + 1) w.heap.size G (HGR.out _ FX.out) (by rw [← HV.out]; exact X1.out.cell 0 _ rfl) X1.out.lt (by have := X2.out.cell 0 _ rfl; rw [World.size_alloc] at this; exact this) (by simp) (HK.out.1.fr FX.out (fun q => q)) HK.out.2.1 HK.out.2.2).mono ?_
      rintro e w9 ⟨H, rfl, FH⟩
      have FF := Lib.hid FH
      clear FH
      go_wp2_with fail
      go_ret
      have q := FF.out
      exact ⟨H, rfl, q.rep, q.pts, q.lks, q.kb, q.hk, q.dir, q.ac, q.we, q.ro, q.pr, fun b hb => by have h1 := q.new b hb; simp at h1; omega, FX.out.trans0 q.fr⟩
  exact key _ rfl
end Go.Proofs.YtbafaadmlpamiaaGreatDoor

/- impl.Traits: the traits of a graph, and of one that is made like it behind steps. -/
namespace Go.Proofs.YtbafaadmlpamiaaGreatDoor
open Go Go.Hy Go.RowKit

def tsV (t : TS) : Value := .agg #[.bool t.d, .bool t.a, .bool t.we, .bool t.ro, .bool t.pr]

set_option maxRecDepth 100000 in
set_option maxHeartbeats 2000000 in
theorem trt51 (w : World) (tb : Nat) (t : TS) (h : Cells w tb t.cells 104) :
    Calls Tryz.prog 51 #[.pointer (some ⟨tb, 0, none⟩)] w fun e w' => e = .returned (tsV t) ∧ Fr0 w w' := by
  obtain ⟨l, ⟨c0, c1, c2, c3, c4⟩, -⟩ := t0cells w tb t h
  obtain ⟨d, a, we, ro, pr⟩ := t
  clear h
  unfold tsV
  go_enter Tryz.func51, Tryz.ntmps51
  go_wp2_with fail
  (refine region_tail 21 (by kernel_rfl) (by kernel_rfl) ?_; simp only [List.take_succ_cons, List.take_zero, List.drop_succ_cons, List.drop_zero]; (repeat still_step); refine wpStill_nil ?_)
  go_wp2_with fail
  refine bodyPost_ret (v := .agg #[.bool d, .bool a, .bool we, .bool ro, .bool pr]) (by simp [results, Tryz.results51, go_sem, *]) rfl ⟨rfl, ?_⟩
  (repeat' (first | (with_reducible exact Fr.refl _ _) | (with_reducible assumption) | (with_reducible refine Fr.drew ?_) | (with_reducible refine Fr.drewN ?_ _) | (with_reducible refine Fr.alloc ?_ _) | ((with_reducible refine Fr.setM ?_ (.inl ?_) _ _); rotate_left; focus (simp; done)) | ((with_reducible refine Fr.setCell ?_ (.inr ?_) _); rotate_left; focus (simp; done)) | ((with_reducible refine Fr.setCell ?_ (.inr ?_) _); rotate_left; focus (simp; omega))))

/-- where the steps of Traits stand -/
def TRL (w1 : World) (G0 : GS) (s0 : St) (ds : List DoIn) (k : Nat) (c : Value) (wr : World) : Prop :=
  ∃ (i : Nat) (G : GS), k + i = ds.length ∧ c = .int .i64 (i : Nat) ∧ GRep wr G ∧ G.st = s0.after (ds.take i) ∧ G0.same G ∧ (∀ b ∈ G.own, w1.heap.size ≤ b) ∧ Fr0 w1 wr

theorem same_trans {G0 G G' : GS} (h : G0.same G) (g : G.same G') : G0.same G' := by
  obtain ⟨a1, a2, a3, a4, a5, a6, a7, a8, a9, a10⟩ := h
  obtain ⟨c1, c2, c3, c4, c5, c6, c7, c8, c9, c10⟩ := g
  exact ⟨c1.trans a1, c2.trans a2, c3.trans a3, c4.trans a4, c5.trans a5, c6.trans a6, c7.trans a7, c8.trans a8, c9.trans a9, c10.trans a10⟩

theorem same_val {G0 G : GS} (h : G0.same G) : G.val = G0.val := by unfold GS.val; rw [h.1, h.2.2.2.2.2.1]
theorem same_ts {G0 G : GS} (h : G0.same G) : G.ts = G0.ts := by unfold GS.ts; rw [h.2.2.2.2.2.1, h.2.2.2.2.2.2.1, h.2.2.2.2.2.2.2.1, h.2.2.2.2.2.2.2.2.1, h.2.2.2.2.2.2.2.2.2]

theorem TRL.step {w1 wr wa w3 : World} {G0 G G' : GS} {s0 : St} {ds : List DoIn} {k i : Nat} {d : DoIn} (hk : k + i = ds.length) (hi : i < ds.length) (hd : ds[i]? = some d) (hsm : G0.same G) (hown : ∀ b ∈ G.own, w1.heap.size ≤ b) (f : Fr0 w1 wr)
    (fa : Fr0 wr wa) (hst : G'.st = ((s0.after (ds.take i)).step d).2) (g : GStep wa G w3 G') : k - 1 < k ∧ TRL w1 G0 s0 ds (k - 1) (.int .i64 ((i : Int) + 1)) w3 := by
  have he : ds[i] = d := (List.getElem?_eq_some_iff.1 hd).2
  have htk : ds.take (i + 1) = ds.take i ++ [d] := by rw [List.take_succ_eq_append_getElem hi, he]
  refine ⟨by omega, i + 1, G', by omega, by simp, g.rep, by rw [htk, St.after_snoc, hst], same_trans hsm g.same, fun b hb => ?_, (f.trans0 fa).trans g.fr fun q hq => .inr (hown q hq)⟩
  rcases g.own b hb with r | r
  · exact hown b r
  · have h1 := f.size
    have h2 := fa.size
    omega

set_option maxRecDepth 100000 in
set_option maxHeartbeats 4000000 in
theorem trt35 (w : World) (b0 b1 b2 b3 b4 b5 : Bool) (hk : Nat) (hh : hk ≤ 2) (hp : b5 = true → b0 = true) (ao : Option Addr) (n cap : Nat) (ds : List DoIn) (hd : DosAt w ao n cap ds) (B : Nat) (eb : Nat → Addr) (E : ErrsOk w B eb) (hl : ds.length ≤ 1000) (hf : ∀ d ∈ ds, Fit b0 hk d) :
    Calls Tryz.prog 35 #[kagg b0 b1 b2 b3 b4 b5 hk, .slice ao n cap] w fun e w' => e = .returned (.tuple #[tsV ((sel (kflags b0 b1 b2 b3 b4 b5)).foldl tapp TS.zero), tsV ((sel (kflags b0 b1 b2 b3 b4 b5)).foldl tapp TS.zero), .int .i64 0, .int .i64 0]) ∧ Fr0 w w' := by
  have HS := Lib.hid (fit_all B eb b0 b1 b2 b3 b4 b5 hk hp ds hl hf)
  have H := Lib.hid (And.intro (hash_any hk hh) E)
  have D := Lib.hid hd
  obtain ⟨hn, hcap, hsm, -⟩ := hd
  subst hn
  clear E
  go_enter Tryz.func35, Tryz.ntmps35
  go_wp2_with fail
  have F0 := Lib.hid (show Fr0 w (((w.alloc (kB7 b0 b1 b2 b3 b4 b5 hk)).alloc (.cells #[.bool false, .bool false, .bool false, .bool false, .bool false] 76)).alloc (.cells #[.bool false, .bool false, .bool false, .bool false, .bool false] 76)) by (repeat' (first | (with_reducible exact Fr.refl _ _) | (with_reducible assumption) | (with_reducible refine Fr.drew ?_) | (with_reducible refine Fr.drewN ?_ _) | (with_reducible refine Fr.alloc ?_ _) | ((with_reducible refine Fr.setM ?_ (.inl ?_) _ _); rotate_left; focus (simp; done)) | ((with_reducible refine Fr.setCell ?_ (.inr ?_) _); rotate_left; focus (simp; done)) | ((with_reducible refine Fr.setCell ?_ (.inr ?_) _); rotate_left; focus (simp; omega)))))
  have KB0 := Lib.hid (((Cells.new w #[.bool b0, .bool b1, .bool b2, .bool b3, .bool b4, .bool b5, .int .u8 hk] 37).alloc (.cells #[.bool false, .bool false, .bool false, .bool false, .bool false] 76)).alloc (.cells #[.bool false, .bool false, .bool false, .bool false, .bool false] 76))
  have BX1 := Lib.hid (show Cells (((w.alloc (kB7 b0 b1 b2 b3 b4 b5 hk)).alloc (.cells #[.bool false, .bool false, .bool false, .bool false, .bool false] 76)).alloc (.cells #[.bool false, .bool false, .bool false, .bool false, .bool false] 76)) (w.heap.size + 1) #[.bool false, .bool false, .bool false, .bool false, .bool false] 76 from by
    have y := (Cells.new (w.alloc (kB7 b0 b1 b2 b3 b4 b5 hk)) #[.bool false, .bool false, .bool false, .bool false, .bool false] 76).alloc (.cells #[.bool false, .bool false, .bool false, .bool false, .bool false] 76)
    rwa [World.size_alloc] at y)
  have BX2 := Lib.hid (show Cells (((w.alloc (kB7 b0 b1 b2 b3 b4 b5 hk)).alloc (.cells #[.bool false, .bool false, .bool false, .bool false, .bool false] 76)).alloc (.cells #[.bool false, .bool false, .bool false, .bool false, .bool false] 76)) (w.heap.size + 1 + 1) #[.bool false, .bool false, .bool false, .bool false, .bool false] 76 from by
    have y := Cells.new ((w.alloc (kB7 b0 b1 b2 b3 b4 b5 hk)).alloc (.cells #[.bool false, .bool false, .bool false, .bool false, .bool false] 76)) #[.bool false, .bool false, .bool false, .bool false, .bool false] 76
    rwa [World.size_alloc, World.size_alloc] at y)
  generalize ((w.alloc (kB7 b0 b1 b2 b3 b4 b5 hk)).alloc (.cells #[.bool false, .bool false, .bool false, .bool false, .bool false] 76)).alloc (.cells #[.bool false, .bool false, .bool false, .bool false, .bool false] 76) = W1 at *
  refine (graphof _ b0 b1 b2 b3 b4 b5 hk).mono ?_
  rintro e w2 ⟨G0, rfl, FR⟩
  have F := Lib.hid FR
  clear FR
  have R0 := Lib.hid (show TRL W1 G0 (kst b0 b1 b2 b3 b4 b5 hk) ds ds.length (.int .i64 0) w2 from by
    refine ⟨0, G0, rfl, rfl, F.out.rep, ?_, G0.same_refl, F.out.new, F.out.fr⟩
    unfold GS.st kst
    rw [F.out.dir, F.out.pr, F.out.hk, F.out.pts, F.out.lks]
    rfl)
  have TS0 := Lib.hid (show G0.ts = (sel (kflags b0 b1 b2 b3 b4 b5)).foldl tapp TS.zero by unfold GS.ts; rw [F.out.dir, F.out.ac, F.out.we, F.out.ro, F.out.pr])
  cases hT : G0.dir with
  | true =>
    have HT := Lib.hid hT
    rw [val_dir hT]
    clear hT
    go_wp2_with fail
    try go_frame
    go_loopg [17] ds.length (fun k c wr => TRL W1 G0 (kst b0 b1 b2 b3 b4 b5 hk) ds k c wr)
    case atStart => exact R0.out
    case round =>
      obtain ⟨i, G, hk', rfl, hr, hst, hsm2, hown, f⟩ := hrel
      have FW := Lib.hid (F0.out.trans0 f)
      have KB := Lib.hid (KB0.out.fr f (fun q => q))
      have A := Lib.hid (And.intro hk' (And.intro hr (And.intro hst (And.intro hsm2 (And.intro hown f)))))
      clear hk' hr hst hsm2 hown f
      by_cases hi : i < ds.length
      · have hg := List.getElem?_eq_getElem hi
        obtain ⟨ob, pa, pn, pc, rfl, hob, q0, q1, q2, q3, q4, ok⟩ := (D.out.fr FW.out).at_ i _ hg
        have HGI := Lib.hid hg
        have OK := Lib.hid ok
        generalize ds[i] = d at q0 q1 q2 q3 q4 HGI OK
        clear hg ok
        have k0 := KB.out.cell 0 _ rfl
        have k1 := KB.out.cell 1 _ rfl
        have k2 := KB.out.cell 2 _ rfl
        have k3 := KB.out.cell 3 _ rfl
        have k4 := KB.out.cell 4 _ rfl
        have k5 := KB.out.cell 5 _ rfl
        have k6 := KB.out.cell 6 _ rfl
        have kl := KB.out.lt
        have hc := fun (wx : World) (fa : Fr0 wr wx) => HS.out i d HGI.out wx G b0 b1 b2 b3 b4 b5 hk pa pn pc (A.out.2.1.fr fa (fun _ _ q => q) (fun q => q)) A.out.2.2.1 (by rw [A.out.2.2.2.1.2.2.2.2.1, F.out.hk]; exact H.out.1) (H.out.2.fr (FW.out.trans0 fa) (fun _ q => q.elim))
          (fun k hkk => by have h1 := A.out.2.2.2.2.1 k hkk; have h2 := H.out.2.size; have h3 := F0.out.size; omega) (OK.out.fr fa)
        rw [same_val A.out.2.2.2.1, val_dir HT.out] at hc
        have HC := Lib.hid hc
        clear hc
        go_wp2_with fail
        have FA := Lib.hid (show Fr0 wr (wr.alloc (.cells #[.int .u8 d.op, .string d.a, .string d.b, .int .i64 d.wt, .slice pa pn pc] 50)) by (repeat' (first | (with_reducible exact Fr.refl _ _) | (with_reducible assumption) | (with_reducible refine Fr.drew ?_) | (with_reducible refine Fr.drewN ?_ _) | (with_reducible refine Fr.alloc ?_ _) | ((with_reducible refine Fr.setM ?_ (.inl ?_) _ _); rotate_left; focus (simp; done)) | ((with_reducible refine Fr.setCell ?_ (.inr ?_) _); rotate_left; focus (simp; done)) | ((with_reducible refine Fr.setCell ?_ (.inr ?_) _); rotate_left; focus (simp; omega)))))
        refine (HC.out _ FA.out).mono ?_
        rintro e w3 ⟨u, G', rfl, ht, hst, g⟩
        have Z := Lib.hid (And.intro hst g)
        clear ht hst g q0 q1 q2 q3 q4 k0 k1 k2 k3 k4 k5 k6
        go_wp2_with fail
        have R := TRL.step A.out.1 hi HGI.out A.out.2.2.2.1 A.out.2.2.2.2.1 A.out.2.2.2.2.2 FA.out Z.out.1 Z.out.2
        go_roundg (gk - 1)
        case measure => exact R.1
        case rel => exact R.2
      · have hi' : i = ds.length := by have := A.out.1; omega
        subst hi'
        have hN := newlike wr G A.out.2.1
        rw [same_val A.out.2.2.2.1, val_dir HT.out] at hN
        have HN := Lib.hid hN
        clear hN
        have mO := mdOrder
        have mS := mdSize
        have mT := mdTraits
        go_wp2_with fail
        refine HN.out.mono ?_
        rintro e w3 ⟨H', rfl, FH⟩
        have hH : H'.dir = true := by rw [FH.dir, same_ts A.out.2.2.2.1]; exact HT.out
        have FN := Lib.hid FH
        have HH := Lib.hid hH
        rw [val_dir hH]
        clear FH hH
        go_wp2_with fail
        refine (dorder w3 H' FN.out.rep).mono ?_
        rintro e w4 ⟨rfl, h4⟩
        subst h4
        rw [FN.out.pts]
        go_wp2_with fail
        refine (dsize w3 H' FN.out.rep HH.out (by rw [FN.out.pts]; simp) (by rw [FN.out.lks]; simp)).mono ?_
        rintro e w5 ⟨rfl, f5⟩
        rw [FN.out.lks]
        have F5 := Lib.hid f5
        clear f5
        have GX := Lib.hid (show ∀ w', Fr0 w5 w' → GRep w' G from fun w' f => A.out.2.1.fr ((FN.out.fr.trans0 F5.out).trans0 f) (fun _ _ q => q) (fun q => q))
        have GH := Lib.hid (show ∀ w', Fr0 w5 w' → GRep w' H' from fun w' f => FN.out.rep.fr (F5.out.trans0 f) (fun _ _ q => q) (fun q => q))
        have eB : G0.gB = G.gB := A.out.2.2.2.1.1.symm
        rw [eB]
        clear eB
        go_wp2_with fail
        refine (dtraits _ G (GX.out _ (Fr.refl _ _))).mono ?_
        rintro e w6 ⟨rfl, h6⟩
        subst h6
        go_wp2_with fail
        refine (trt51 w6 G.tB G.ts (GX.out _ (Fr.refl _ _)).t).mono ?_
        rintro e w7 ⟨rfl, f7⟩
        have F7 := Lib.hid f7
        clear f7
        go_wp2_with fail
        refine (dtraits _ H' (GH.out _ F7.out)).mono ?_
        rintro e w8 ⟨rfl, h8⟩
        subst h8
        go_wp2_with fail
        refine (trt51 w8 H'.tB H'.ts (GH.out _ F7.out).t).mono ?_
        rintro e w9 ⟨rfl, f9⟩
        have F9 := Lib.hid (show Fr0 W1 w9 from (((A.out.2.2.2.2.2.trans0 FN.out.fr).trans0 F5.out).trans0 F7.out).trans0 f9)
        have Y1 := BX1.out.fr F9.out (fun q => q)
        have Y2 := BX2.out.fr F9.out (fun q => q)
        have e1 : G.ts = (sel (kflags b0 b1 b2 b3 b4 b5)).foldl tapp TS.zero := (same_ts A.out.2.2.2.1).trans TS0.out
        have e2 : H'.ts = (sel (kflags b0 b1 b2 b3 b4 b5)).foldl tapp TS.zero := by
          rw [← e1]
          unfold GS.ts
          rw [FN.out.dir, FN.out.ac, FN.out.we, FN.out.ro, FN.out.pr]
          rfl
        rw [e1, e2]
        have FF := Lib.hid (F0.out.trans0 F9.out)
        clear f9 e1 e2
        have p0 := Y1.cell 0 _ rfl; have p1 := Y1.cell 1 _ rfl; have p2 := Y1.cell 2 _ rfl; have p3 := Y1.cell 3 _ rfl; have p4 := Y1.cell 4 _ rfl; have pl := Y1.lt
        have r0 := Y2.cell 0 _ rfl; have r1 := Y2.cell 1 _ rfl; have r2 := Y2.cell 2 _ rfl; have r3 := Y2.cell 3 _ rfl; have r4 := Y2.cell 4 _ rfl; have rl := Y2.lt
        have z0 := Y1.free 0; have z1 := Y1.free 1; have z2 := Y1.free 2; have z3 := Y1.free 3; have z4 := Y1.free 4
        have y0 := Y2.free 0; have y1 := Y2.free 1; have y2 := Y2.free 2; have y3 := Y2.free 3; have y4 := Y2.free 4
        clear Y1 Y2
        unfold tsV
        obtain ⟨T, hTT⟩ : ∃ T, (sel (kflags b0 b1 b2 b3 b4 b5)).foldl tapp TS.zero = T := ⟨_, rfl⟩
        rw [hTT]
        have HTT := Lib.hid hTT
        clear hTT
        go_wp2_with fail
        refine bodyPost_ret (v := .tuple #[.agg #[.bool T.d, .bool T.a, .bool T.we, .bool T.ro, .bool T.pr], .agg #[.bool T.d, .bool T.a, .bool T.we, .bool T.ro, .bool T.pr], .int .i64 0, .int .i64 0]) (by simp [results, Tryz.results35, go_sem, *]) rfl ⟨by rw [HTT.out]; rfl, ?_⟩
        have ff := FF.out
        (repeat' (first | (with_reducible exact Fr.refl _ _) | (with_reducible assumption) | (with_reducible refine Fr.drew ?_) | (with_reducible refine Fr.drewN ?_ _) | (with_reducible refine Fr.alloc ?_ _) | ((with_reducible refine Fr.setM ?_ (.inl ?_) _ _); rotate_left; focus (simp; done)) | ((with_reducible refine Fr.setCell ?_ (.inr ?_) _); rotate_left; focus (simp; done)) | ((with_reducible refine Fr.setCell ?_ (.inr ?_) _); rotate_left; focus (simp; omega))))
  | false =>
    have HT := Lib.hid hT
    rw [val_undir hT]
    clear hT
    go_wp2_with fail
    try go_frame
    go_loopg [17] ds.length (fun k c wr => TRL W1 G0 (kst b0 b1 b2 b3 b4 b5 hk) ds k c wr)
    case atStart => exact R0.out
    case round =>
      obtain ⟨i, G, hk', rfl, hr, hst, hsm2, hown, f⟩ := hrel
      have FW := Lib.hid (F0.out.trans0 f)
      have KB := Lib.hid (KB0.out.fr f (fun q => q))
      have A := Lib.hid (And.intro hk' (And.intro hr (And.intro hst (And.intro hsm2 (And.intro hown f)))))
      clear hk' hr hst hsm2 hown f
      by_cases hi : i < ds.length
      · have hg := List.getElem?_eq_getElem hi
        obtain ⟨ob, pa, pn, pc, rfl, hob, q0, q1, q2, q3, q4, ok⟩ := (D.out.fr FW.out).at_ i _ hg
        have HGI := Lib.hid hg
        have OK := Lib.hid ok
        generalize ds[i] = d at q0 q1 q2 q3 q4 HGI OK
        clear hg ok
        have k0 := KB.out.cell 0 _ rfl
        have k1 := KB.out.cell 1 _ rfl
        have k2 := KB.out.cell 2 _ rfl
        have k3 := KB.out.cell 3 _ rfl
        have k4 := KB.out.cell 4 _ rfl
        have k5 := KB.out.cell 5 _ rfl
        have k6 := KB.out.cell 6 _ rfl
        have kl := KB.out.lt
        have hc := fun (wx : World) (fa : Fr0 wr wx) => HS.out i d HGI.out wx G b0 b1 b2 b3 b4 b5 hk pa pn pc (A.out.2.1.fr fa (fun _ _ q => q) (fun q => q)) A.out.2.2.1 (by rw [A.out.2.2.2.1.2.2.2.2.1, F.out.hk]; exact H.out.1) (H.out.2.fr (FW.out.trans0 fa) (fun _ q => q.elim))
          (fun k hkk => by have h1 := A.out.2.2.2.2.1 k hkk; have h2 := H.out.2.size; have h3 := F0.out.size; omega) (OK.out.fr fa)
        rw [same_val A.out.2.2.2.1, val_undir HT.out] at hc
        have HC := Lib.hid hc
        clear hc
        go_wp2_with fail
        have FA := Lib.hid (show Fr0 wr (wr.alloc (.cells #[.int .u8 d.op, .string d.a, .string d.b, .int .i64 d.wt, .slice pa pn pc] 50)) by (repeat' (first | (with_reducible exact Fr.refl _ _) | (with_reducible assumption) | (with_reducible refine Fr.drew ?_) | (with_reducible refine Fr.drewN ?_ _) | (with_reducible refine Fr.alloc ?_ _) | ((with_reducible refine Fr.setM ?_ (.inl ?_) _ _); rotate_left; focus (simp; done)) | ((with_reducible refine Fr.setCell ?_ (.inr ?_) _); rotate_left; focus (simp; done)) | ((with_reducible refine Fr.setCell ?_ (.inr ?_) _); rotate_left; focus (simp; omega)))))
        refine (HC.out _ FA.out).mono ?_
        rintro e w3 ⟨u, G', rfl, ht, hst, g⟩
        have Z := Lib.hid (And.intro hst g)
        clear ht hst g q0 q1 q2 q3 q4 k0 k1 k2 k3 k4 k5 k6
        go_wp2_with fail
        have R := TRL.step A.out.1 hi HGI.out A.out.2.2.2.1 A.out.2.2.2.2.1 A.out.2.2.2.2.2 FA.out Z.out.1 Z.out.2
        go_roundg (gk - 1)
        case measure => exact R.1
        case rel => exact R.2
      · have hi' : i = ds.length := by have := A.out.1; omega
        subst hi'
        have hN := newlike wr G A.out.2.1
        rw [same_val A.out.2.2.2.1, val_undir HT.out] at hN
        have HN := Lib.hid hN
        clear hN
        have mO := muOrder
        have mS := muSize
        have mT := muTraits
        go_wp2_with fail
        refine HN.out.mono ?_
        rintro e w3 ⟨H', rfl, FH⟩
        have hH : H'.dir = false := by rw [FH.dir, same_ts A.out.2.2.2.1]; exact HT.out
        have FN := Lib.hid FH
        have HH := Lib.hid hH
        rw [val_undir hH]
        clear FH hH
        go_wp2_with fail
        refine (uorder w3 H' FN.out.rep).mono ?_
        rintro e w4 ⟨rfl, h4⟩
        subst h4
        rw [FN.out.pts]
        go_wp2_with fail
        refine (usize w3 H' FN.out.rep HH.out (by rw [FN.out.pts]; simp) (by rw [FN.out.lks]; simp)).mono ?_
        rintro e w5 ⟨rfl, f5⟩
        rw [FN.out.lks]
        have F5 := Lib.hid f5
        clear f5
        have GX := Lib.hid (show ∀ w', Fr0 w5 w' → GRep w' G from fun w' f => A.out.2.1.fr ((FN.out.fr.trans0 F5.out).trans0 f) (fun _ _ q => q) (fun q => q))
        have GH := Lib.hid (show ∀ w', Fr0 w5 w' → GRep w' H' from fun w' f => FN.out.rep.fr (F5.out.trans0 f) (fun _ _ q => q) (fun q => q))
        have eB : G0.gB = G.gB := A.out.2.2.2.1.1.symm
        rw [eB]
        clear eB
        go_wp2_with fail
        refine (utraits _ G (GX.out _ (Fr.refl _ _))).mono ?_
        rintro e w6 ⟨rfl, h6⟩
        subst h6
        go_wp2_with fail
        refine (trt51 w6 G.tB G.ts (GX.out _ (Fr.refl _ _)).t).mono ?_
        rintro e w7 ⟨rfl, f7⟩
        have F7 := Lib.hid f7
        clear f7
        go_wp2_with fail
        refine (utraits _ H' (GH.out _ F7.out)).mono ?_
        rintro e w8 ⟨rfl, h8⟩
        subst h8
        go_wp2_with fail
        refine (trt51 w8 H'.tB H'.ts (GH.out _ F7.out).t).mono ?_
        rintro e w9 ⟨rfl, f9⟩
        have F9 := Lib.hid (show Fr0 W1 w9 from (((A.out.2.2.2.2.2.trans0 FN.out.fr).trans0 F5.out).trans0 F7.out).trans0 f9)
        have Y1 := BX1.out.fr F9.out (fun q => q)
        have Y2 := BX2.out.fr F9.out (fun q => q)
        have e1 : G.ts = (sel (kflags b0 b1 b2 b3 b4 b5)).foldl tapp TS.zero := (same_ts A.out.2.2.2.1).trans TS0.out
        have e2 : H'.ts = (sel (kflags b0 b1 b2 b3 b4 b5)).foldl tapp TS.zero := by
          rw [← e1]
          unfold GS.ts
          rw [FN.out.dir, FN.out.ac, FN.out.we, FN.out.ro, FN.out.pr]
          rfl
        rw [e1, e2]
        have FF := Lib.hid (F0.out.trans0 F9.out)
        clear f9 e1 e2
        have p0 := Y1.cell 0 _ rfl; have p1 := Y1.cell 1 _ rfl; have p2 := Y1.cell 2 _ rfl; have p3 := Y1.cell 3 _ rfl; have p4 := Y1.cell 4 _ rfl; have pl := Y1.lt
        have r0 := Y2.cell 0 _ rfl; have r1 := Y2.cell 1 _ rfl; have r2 := Y2.cell 2 _ rfl; have r3 := Y2.cell 3 _ rfl; have r4 := Y2.cell 4 _ rfl; have rl := Y2.lt
        have z0 := Y1.free 0; have z1 := Y1.free 1; have z2 := Y1.free 2; have z3 := Y1.free 3; have z4 := Y1.free 4
        have y0 := Y2.free 0; have y1 := Y2.free 1; have y2 := Y2.free 2; have y3 := Y2.free 3; have y4 := Y2.free 4
        clear Y1 Y2
        unfold tsV
        obtain ⟨T, hTT⟩ : ∃ T, (sel (kflags b0 b1 b2 b3 b4 b5)).foldl tapp TS.zero = T := ⟨_, rfl⟩
        rw [hTT]
        have HTT := Lib.hid hTT
        clear hTT
        go_wp2_with fail
        refine bodyPost_ret (v := .tuple #[.agg #[.bool T.d, .bool T.a, .bool T.we, .bool T.ro, .bool T.pr], .agg #[.bool T.d, .bool T.a, .bool T.we, .bool T.ro, .bool T.pr], .int .i64 0, .int .i64 0]) (by simp [results, Tryz.results35, go_sem, *]) rfl ⟨by rw [HTT.out]; rfl, ?_⟩
        have ff := FF.out
        (repeat' (first | (with_reducible exact Fr.refl _ _) | (with_reducible assumption) | (with_reducible refine Fr.drew ?_) | (with_reducible refine Fr.drewN ?_ _) | (with_reducible refine Fr.alloc ?_ _) | ((with_reducible refine Fr.setM ?_ (.inl ?_) _ _); rotate_left; focus (simp; done)) | ((with_reducible refine Fr.setCell ?_ (.inr ?_) _); rotate_left; focus (simp; done)) | ((with_reducible refine Fr.setCell ?_ (.inr ?_) _); rotate_left; focus (simp; omega))))
end Go.Proofs.YtbafaadmlpamiaaGreatDoor
