/- Steps from one package to the other. -/
import Derived.Test.YtbafaadmlpamiaaGreatDoorSpec3
import Derived.Test.YtbafaadmlpamiaaGreatDoorC1
import Derived.Deep.AppendLies
namespace Go.Proofs.YtbafaadmlpamiaaGreatDoor
open Go Go.Hy Go.RowKit

theorem info50 : (Tryz.prog.info? 50).map (fun i => (i.zero, i.size, i.bytes)) = some (some (.agg #[.int .u8 0, .string ⟨#[]⟩, .string ⟨#[]⟩, .int .i64 0, .slice none 0 0]), 5, 72) := by kernel_rfl

theorem fr_undrew2 {S : Nat → Prop} {w w' : World} (h : Fr S w.drew w') : Fr S w w' := ⟨h.os, h.tape, h.output, h.size, h.block⟩

/-- where dosTo stands behind i steps -/
structure DT (w : World) (ds : List DoIn) (i : Nat) (v : Value) (dvs : List (DoIn × Value)) (wr : World) : Prop where
  fst : dvs.map (·.1) = ds.take i
  row : wr.ownsRow w.heap.size 50 5 v i (encL encDo dvs)
  prs : ∀ p ∈ dvs, ∃ pa pc, p.2 = .slice pa p.1.prs.length pc ∧ PairsIn wr (fun q => w.heap.size ≤ q ∧ v.ownBlock ≠ some q) p.2 p.1.prs
  fr : Fr0 w wr

theorem DT.step {w wr wa w3 w4 : World} {ds : List DoIn} {i : Nat} {v v' : Value} {dvs : List (DoIn × Value)} {d : DoIn} {pa : Option Addr} {pc : Nat} (h : DT w ds i v dvs wr) (hd : ds[i]? = some d) (fa : Fr0 wr wa)
    (f3 : Fr0 wa w3) (hp : PairsAt w3 wa.heap.size (.slice pa d.prs.length pc) d.prs) (ho : w4.ownsRow w.heap.size 50 5 v' (i + 1) (encL encDo dvs ++ [.int .u8 d.op, .string d.a, .string d.b, .int .i64 d.wt, .slice pa d.prs.length pc]))
    (fg : Fr (fun k => v.ownBlock = some k) w3 w4) (hat : v.ownBlock = v'.ownBlock ∨ ∃ g, v'.ownBlock = some g ∧ w3.heap.size ≤ g) : DT w ds (i + 1) v' (dvs ++ [(d, .slice pa d.prs.length pc)]) w4 := by
  have hi : i < ds.length := (List.getElem?_eq_some_iff.1 hd).1
  have he : ds[i] = d := (List.getElem?_eq_some_iff.1 hd).2
  have htk : ds.take (i + 1) = ds.take i ++ [d] := by rw [List.take_succ_eq_append_getElem hi, he]
  have z1 := fa.size
  have z2 := f3.size
  have z3 := h.fr.size
  have hvl : ∀ q, v.ownBlock = some q → w.heap.size ≤ q ∧ q < wr.heap.size := fun q hq => h.row.lt q hq
  refine ⟨by rw [List.map_append, h.fst, htk]; rfl, ?_, ?_, ((h.fr.trans0 fa).trans0 f3).trans fg fun q hq => .inr (hvl q hq).1⟩
  · have e1 : encL encDo (dvs ++ [(d, .slice pa d.prs.length pc)]) = encL encDo dvs ++ [.int .u8 d.op, .string d.a, .string d.b, .int .i64 d.wt, .slice pa d.prs.length pc] := by simp [encL, encDo]
    rw [e1]
    exact ho
  · intro p hpm
    rcases List.mem_append.1 hpm with q | q
    · obtain ⟨xa, xc, e, hx⟩ := h.prs p q
      refine ⟨xa, xc, e, ?_⟩
      have hx1 : PairsIn wr (fun q => (w.heap.size ≤ q ∧ v'.ownBlock ≠ some q) ∧ v.ownBlock ≠ some q) p.2 p.1.prs := hx.imp fun q hq hl => ⟨⟨hq.1, fun r => by
        rcases hat with z | ⟨g, z, zl⟩
        · exact hq.2 (z ▸ r)
        · rw [z] at r; have := Option.some.inj r; omega⟩, hq.2⟩
      exact (((hx1.fr fa fun _ _ _ q => q).fr f3 fun _ _ _ q => q).fr fg fun q hq _ r => hq.2 r).imp fun q hq _ => hq.1
    · simp only [List.mem_singleton] at q
      subst q
      refine ⟨pa, pc, rfl, ?_⟩
      have h2 : PairsIn w3 (fun q => (w.heap.size ≤ q ∧ v'.ownBlock ≠ some q) ∧ wa.heap.size ≤ q) (.slice pa d.prs.length pc) d.prs := PairsIn.imp hp fun q hq hl => ⟨⟨by omega, fun r => by
        rcases hat with z | ⟨g, z, zl⟩
        · have := (hvl q (z ▸ r)).2; omega
        · rw [z] at r; have := Option.some.inj r; omega⟩, hq⟩
      exact (h2.fr fg fun q hq _ r => by have := (hvl q r).2; have := hq.2; omega).imp fun q hq _ => hq.1

set_option maxRecDepth 100000 in
set_option maxHeartbeats 1000000 in
theorem dto (w : World) (v : Value) (ds : List DoIn) (h : SDosAt w v ds) (hn : ds.length ≤ 100000) (hp : ∀ d ∈ ds, d.prs.length ≤ 100000) :
    Calls Tryz.prog 20 #[v] w fun e w' => ∃ ao cap, e = .returned (.slice ao ds.length cap) ∧ DosAt w' ao ds.length cap ds ∧ Fr0 w w' := by
  have HP := Lib.hid h
  have HS := Lib.hid hp
  obtain ⟨ao, cap, rfl, -⟩ := h
  obtain ⟨i0, hi0, hz0, hz1, hz2⟩ := info_parts info50
  have I50 := Lib.hid (And.intro hi0 (And.intro hz0 (And.intro hz1 hz2)))
  clear hp hi0 hz0 hz1 hz2
  go_enter Tryz.func20, Tryz.ntmps20
  go_wp2_with fail
  go_loopg [3, 8] ds.length (fun k v c wr => ∃ (i : Nat) (dvs : List (DoIn × Value)), k + i = ds.length ∧ c = .int .i64 (i : Nat) ∧ DT w ds i v dvs wr)
  case atStart => exact ⟨0, [], rfl, rfl, ⟨rfl, World.ownsRow_nil _ _ _ _, fun p hp => by simp at hp, Fr.refl _ _⟩⟩
  case round =>
    obtain ⟨i, dvs, hk, rfl, R⟩ := hrel
    have A := Lib.hid (And.intro hk R)
    clear hk R
    by_cases hi : i < ds.length
    · have hg := List.getElem?_eq_getElem hi
      obtain ⟨ao', cap', e, hr⟩ := HP.out.fr A.out.2.fr
      cases e
      obtain ⟨ob, off, pv, rfl, hl, c0, c1, c2, c3, c4, hpv⟩ := hr i _ hg
      have hmem := List.getElem_mem hi
      generalize ds[i] = d at c0 c1 c2 c3 c4 hpv hg hmem
      have PV := Lib.hid (And.intro hpv (And.intro hg (HS.out d hmem)))
      obtain ⟨pa, pc, rfl⟩ := hpv.form
      clear hg hr hpv hmem
      go_wp2_with fail
      have BX := Lib.hid (Cells.new wr #[.int .u8 d.op, .string d.a, .string d.b, .int .i64 d.wt, .slice pa d.prs.length pc] 28)
      have FA := Lib.hid ((Fr.refl (fun _ => False) wr).alloc (.cells #[.int .u8 d.op, .string d.a, .string d.b, .int .i64 d.wt, .slice pa d.prs.length pc] 28))
      have SZ := Lib.hid (show (wr.alloc (.cells #[.int .u8 d.op, .string d.a, .string d.b, .int .i64 d.wt, .slice pa d.prs.length pc] 28)).heap.size = wr.heap.size + 1 from by simp)
      have SW := Lib.hid A.out.2.fr.size
      clear c0 c1 c2 c3 c4
      go_region_held3 (fun w' => w'.cell? ⟨wr.heap.size, 0, none⟩ = some (.int .u8 d.op) ∧ w'.cell? ⟨wr.heap.size, 1, none⟩ = some (.string d.a) ∧ w'.cell? ⟨wr.heap.size, 2, none⟩ = some (.string d.b) ∧ w'.cell? ⟨wr.heap.size, 3, none⟩ = some (.int .i64 d.wt) ∧ w'.cell? ⟨wr.heap.size, 4, none⟩ = some (.slice pa d.prs.length pc)) (go_keep)
        (first
          | (go_at_call 40; refine (pto _ _ d.prs ?_ PV.out.2.2).mono ?_; exact PV.out.1.fr FA.out.drew; rintro e w3 ⟨pa3, pc3, rfl, g1, g2⟩; have F3 := Lib.hid (fr_undrew2 g2); have Z := Lib.hid g1; have BB := Lib.hid (BX.out.fr F3.out (fun q => q)); have k0 := BB.out.cell 0 (.int .u8 d.op) rfl; have k1 := BB.out.cell 1 (.string d.a) rfl; have k2 := BB.out.cell 2 (.string d.b) rfl; have k3 := BB.out.cell 3 (.int .i64 d.wt) rfl; have k4 := BB.out.cell 4 (.slice pa d.prs.length pc) rfl; have kl := BB.out.lt; clear g1 g2)
          | (refine step_append_lies _ (by rfl) _ _ _ (by rfl) w.heap.size 50 i0 _ 5 72 Tryz.underlying38 I50.out.1 I50.out.2.1 I50.out.2.2.1 I50.out.2.2.2 rfl (by omega) u3 i (encL encDo dvs) (by rfl) (ownsRow_fr (ownsRow_fr (ownsRow_fr A.out.2.row FA.out (fun _ _ q => q)) F3.out (fun _ _ q => q)) ((Fr.refl (fun _ => False) w3).alloc _) (fun _ _ q => q))
              ⟨w3.heap.size, 0, none⟩ 1 1 [.int .u8 d.op, .string d.a, .string d.b, .int .i64 d.wt, .slice pa3 d.prs.length pc3] (by rfl) (by rfl) (World.news_of_block (cs := #[.int .u8 d.op, .string d.a, .string d.b, .int .i64 d.wt, .slice pa3 d.prs.length pc3]) (t := 50) (fr := (0, 0)) (heap_alloc_new w3 _)) (by simp [Value.oneCell'])
              (by omega) (by have : maxLen = 9223372036854775807 := rfl; omega) (by omega) (by have := SW.out; simp; omega) (w3.heap.size + 1) (by simp) ?_
             intro g4 cap4 w4 ho4 hg4 hat4 hlt4
             have F4 := Lib.hid (((Fr.refl (fun k => u3.ownBlock = some k) w3).alloc (.cells #[.int .u8 d.op, .string d.a, .string d.b, .int .i64 d.wt, .slice pa3 d.prs.length pc3] 50)).grown hg4 (fun _ q => .inl q))
             have B4 := Lib.hid (BB.out.fr F4.out (fun q => by have := (A.out.2.row.lt _ q).2; omega))
             have O4 := Lib.hid (And.intro ho4 hat4)
             have j0 := B4.out.cell 0 (.int .u8 d.op) rfl
             have j1 := B4.out.cell 1 (.string d.a) rfl
             have j2 := B4.out.cell 2 (.string d.b) rfl
             have j3 := B4.out.cell 3 (.int .i64 d.wt) rfl
             have j4 := B4.out.cell 4 (.slice pa d.prs.length pc) rfl
             clear ho4 hg4 hat4))
      go_wp2_with fail
      go_roundg (gk - 1)
      case measure => have := A.out.1; omega
      case rel =>
        exact ⟨i + 1, _, by have := A.out.1; omega, by simp, DT.step A.out.2 PV.out.2.1 FA.out F3.out Z.out O4.out.1 F4.out (by
          rcases O4.out.2 with q | q
          · exact .inl q
          · exact .inr ⟨g4, rfl, by omega⟩)⟩
    · have hi' : i = ds.length := by have := A.out.1; omega
      subst hi'
      have R := A.out.2
      obtain ⟨ao3, cap3, rfl, hc3, _⟩ := own_slice R.row
      have RR := Lib.hid (And.intro R hc3)
      clear R hc3
      go_wp2_with fail
      go_ret
      have R := RR.out.1
      have hl : dvs.length = ds.length := by have := congrArg List.length R.fst; simpa using this
      have D := DosAt.of_reads (dvs := dvs) (own_slice R.row) hl.symm hn fun p hp => by
        obtain ⟨xa, xc, e, hx⟩ := R.prs p hp
        rw [e] at hx
        refine ⟨xa, _, xc, e, PairsIn.ok hx ?_⟩
        have : p.1 ∈ ds := by
          have h1 : p.1 ∈ dvs.map (·.1) := List.mem_map.2 ⟨p, hp, rfl⟩
          rw [R.fst] at h1
          exact List.mem_of_mem_take h1
        exact HS.out p.1 this
      rw [R.fst, List.take_length] at D
      exact ⟨ao3, cap3, rfl, D, R.fr⟩
end Go.Proofs.YtbafaadmlpamiaaGreatDoor
