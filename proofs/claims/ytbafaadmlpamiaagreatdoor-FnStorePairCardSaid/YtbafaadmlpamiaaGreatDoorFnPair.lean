/- FnStorePair: the walk. -/
import Derived.Test.YtbafaadmlpamiaaGreatDoorC1
namespace Go.Proofs.YtbafaadmlpamiaaGreatDoor
open Go Go.Hy Go.RowKit

def pairDs (a b : ByteArray) (x y : Int) : List DoIn := [⟨0, a, ⟨#[]⟩, 0, []⟩, ⟨0, b, ⟨#[]⟩, 0, []⟩, ⟨2, a, b, x, []⟩, ⟨2, b, a, y, []⟩, ⟨6, a, b, 0, []⟩, ⟨6, b, a, 0, []⟩, ⟨7, ⟨#[]⟩, ⟨#[]⟩, 0, []⟩]

theorem hashM0 (s : ByteArray) : hashM 0 s = s := rfl

theorem pair_run_d (a b : ByteArray) (x y : Int) (h : a ≠ b) : (kst true false false false false false 0).run (pairDs a b x y) =
    [{}, {}, {}, {}, { src := a, dst := b, wt := x }, { src := b, dst := a, wt := y }, { order := 2, size := 2 }] := by
  have h' : ¬ b = a := fun e => h e.symm
  have e0 : kst true false false false false false 0 = ⟨true, false, 0, [], []⟩ := rfl
  rw [e0]
  simp [pairDs, St.run, St.step, St.addV, St.addE, St.edge, St.value, St.pt, St.lk, SL.hit, hashM0, h, h', byK]

theorem pair_run_u (a b : ByteArray) (x y : Int) (h : a ≠ b) : (kst false false false false false false 0).run (pairDs a b x y) =
    [{}, {}, {}, { err := 4 }, { src := a, dst := b, wt := x }, { src := b, dst := a, wt := x }, { order := 2, size := 1 }] := by
  have h' : ¬ b = a := fun e => h e.symm
  have e0 : kst false false false false false false 0 = ⟨false, false, 0, [], []⟩ := rfl
  rw [e0]
  simp [pairDs, St.run, St.step, St.addV, St.addE, St.edge, St.value, St.pt, St.lk, SL.hit, hashM0, h, h', byK]

theorem pair_fine (dir : Bool) (a b : ByteArray) (x y : Int) (h : a ≠ b) : ∀ d ∈ pairDs a b x y, Fine0 dir d ∧ d.prs.length ≤ 1000 := by
  intro d hd
  simp only [pairDs, List.mem_cons, List.not_mem_nil, or_false] at hd
  rcases hd with rfl | rfl | rfl | rfl | rfl | rfl | rfl
  · exact ⟨.inl rfl, by simp⟩
  · exact ⟨.inl rfl, by simp⟩
  · exact ⟨.inr (.inl ⟨rfl, fun _ => h⟩), by simp⟩
  · exact ⟨.inr (.inl ⟨rfl, fun _ e => h e.symm⟩), by simp⟩
  · exact ⟨.inr (.inr (.inr (.inl rfl))), by simp⟩
  · exact ⟨.inr (.inr (.inr (.inl rfl))), by simp⟩
  · exact ⟨.inr (.inr (.inr (.inr rfl))), by simp⟩

abbrev pairC (a b : ByteArray) (x y : Int) : Array Value := #[.int .u8 0, .string a, .string ⟨#[]⟩, .int .i64 0, .slice none 0 0, .int .u8 0, .string b, .string ⟨#[]⟩, .int .i64 0, .slice none 0 0,
  .int .u8 2, .string a, .string b, .int .i64 x, .slice none 0 0, .int .u8 2, .string b, .string a, .int .i64 y, .slice none 0 0, .int .u8 6, .string a, .string b, .int .i64 0, .slice none 0 0,
  .int .u8 6, .string b, .string a, .int .i64 0, .slice none 0 0, .int .u8 7, .string ⟨#[]⟩, .string ⟨#[]⟩, .int .i64 0, .slice none 0 0]

theorem pair_dos (w : World) (a b : ByteArray) (x y : Int) : DosAt (w.alloc (.cells (pairC a b x y) 50)) (some ⟨w.heap.size, 0, none⟩) 7 7 (pairDs a b x y) := by
  have c1 := Cells.new w (pairC a b x y) 50
  refine DosAt.of_reads (dvs := (pairDs a b x y).map fun d => (d, .slice none 0 0)) (Reads.of_cells c1 (Nat.le_refl 7) rfl) rfl (by decide) fun p hp => ?_
  obtain ⟨d, hd, rfl⟩ := List.mem_map.1 hp
  simp only [pairDs, List.mem_cons, List.not_mem_nil, or_false] at hd
  rcases hd with rfl | rfl | rfl | rfl | rfl | rfl | rfl
  all_goals exact ⟨_, _, _, rfl, PrOk.nil _⟩

set_option maxRecDepth 100000 in
set_option maxHeartbeats 1000000 in
theorem dfp4 (w : World) (B : Nat) (eb : Nat → Addr) (E : ErrsOk w B eb) (a b : ByteArray) (x y : Int) : Calls Tryz.prog 4 #[.bool true, .string a, .string b, .int .i16 x, .int .i16 y] w fun e w' => e = .returned (.bool true) ∧ Fr0 w w' := by
  have E0 := Lib.hid E
  clear E
  go_enter Tryz.func4, Tryz.ntmps4
  go_wp2_with fail
  · go_ret
    exact ⟨rfl, Fr.refl _ _⟩
  · refine (aw17 w B eb E0.out).mono ?_
    rintro e w1 ⟨rfl, f1⟩
    have F1 := Lib.hid f1
    clear f1
    go_wp2_with fail
    go_ret
    exact ⟨rfl, F1.out⟩
  · refine (aw17 w B eb E0.out).mono ?_
    rintro e w1 ⟨rfl, f1⟩
    have F1 := Lib.hid f1
    clear f1
    go_wp2_with fail
    go_ret
    exact ⟨rfl, F1.out⟩
  · have hab : a ≠ b := fun e => by subst e; simp_all
    have F1 := Lib.hid (show Fr0 w (w.alloc (.cells (pairC a b (wrap64 x) (wrap64 y)) 50)) from (Fr.refl (fun _ => False) w).alloc _)
    refine (run0 _ true false false false false (some ⟨w.heap.size, 0, none⟩) 7 7 (pairDs a b (wrap64 x) (wrap64 y)) (pair_dos w a b _ _) B eb (E0.out.fr F1.out (fun _ q => q.elim)) (by simp [pairDs]) (pair_fine true a b _ _ hab)).mono ?_
    rintro e w3 ⟨v, rfl, ht, f⟩
    rw [pair_run_d a b _ _ hab] at ht
    obtain ⟨ob, cap, rfl, hc, hl, ho, hj⟩ := ht.cells 7 rfl (by decide)
    have F := Lib.hid (F1.out.trans0 f)
    have E3 := Lib.hid (E0.out.fr F.out (fun _ q => q.elim))
    obtain ⟨pv, kv, lv, x0, -⟩ := hj 3 _ rfl
    obtain ⟨pv4, kv4, lv4, -, -, y2, y3, y4, -⟩ := hj 4 _ rfl
    obtain ⟨pv5, kv5, lv5, -, -, z2, z3, z4, -⟩ := hj 5 _ rfl
    obtain ⟨pv6, kv6, lv6, -, -, -, -, -, -, u6, -⟩ := hj 6 _ rfl
    replace x0 : w3.cell? ⟨ob, 30, none⟩ = some (.int .u8 0) := x0
    replace y2 : w3.cell? ⟨ob, 42, none⟩ = some (.string a) := y2
    replace y3 : w3.cell? ⟨ob, 43, none⟩ = some (.string b) := y3
    replace y4 : w3.cell? ⟨ob, 44, none⟩ = some (.int .i64 (wrap64 x)) := y4
    replace z2 : w3.cell? ⟨ob, 52, none⟩ = some (.string b) := z2
    replace z3 : w3.cell? ⟨ob, 53, none⟩ = some (.string a) := z3
    replace z4 : w3.cell? ⟨ob, 54, none⟩ = some (.int .i64 (wrap64 y)) := z4
    replace u6 : w3.cell? ⟨ob, 66, none⟩ = some (.int .i64 2) := u6
    clear hj
    clear ht f F1
    go_wp2_with fail
    refine (aw17 w3 B eb E3.out).mono ?_
    rintro e w5 ⟨rfl, f5⟩
    have F5 := Lib.hid f5
    clear f5
    go_wp2_with fail
    go_ret
    exact ⟨rfl, F.out.trans0 F5.out⟩
  · refine (aw17 w B eb E0.out).mono ?_
    rintro e w1 ⟨rfl, f1⟩
    have F1 := Lib.hid f1
    clear f1
    go_wp2_with fail
    go_ret
    exact ⟨rfl, F1.out⟩
  · go_ret
    exact ⟨rfl, Fr.refl _ _⟩
set_option maxRecDepth 100000 in
set_option maxHeartbeats 1000000 in
theorem ufp4 (w : World) (B : Nat) (eb : Nat → Addr) (E : ErrsOk w B eb) (a b : ByteArray) (x y : Int) : Calls Tryz.prog 4 #[.bool false, .string a, .string b, .int .i16 x, .int .i16 y] w fun e w' => e = .returned (.bool true) ∧ Fr0 w w' := by
  have E0 := Lib.hid E
  clear E
  go_enter Tryz.func4, Tryz.ntmps4
  go_wp2_with fail
  · go_ret
    exact ⟨rfl, Fr.refl _ _⟩
  · refine (aw17 w B eb E0.out).mono ?_
    rintro e w1 ⟨rfl, f1⟩
    have F1 := Lib.hid f1
    clear f1
    go_wp2_with fail
    go_ret
    exact ⟨rfl, F1.out⟩
  · refine (aw17 w B eb E0.out).mono ?_
    rintro e w1 ⟨rfl, f1⟩
    have F1 := Lib.hid f1
    clear f1
    go_wp2_with fail
    go_ret
    exact ⟨rfl, F1.out⟩
  · have hab : a ≠ b := fun e => by subst e; simp_all
    have F1 := Lib.hid (show Fr0 w (w.alloc (.cells (pairC a b (wrap64 x) (wrap64 y)) 50)) from (Fr.refl (fun _ => False) w).alloc _)
    refine (run0 _ false false false false false (some ⟨w.heap.size, 0, none⟩) 7 7 (pairDs a b (wrap64 x) (wrap64 y)) (pair_dos w a b _ _) B eb (E0.out.fr F1.out (fun _ q => q.elim)) (by simp [pairDs]) (pair_fine false a b _ _ hab)).mono ?_
    rintro e w3 ⟨v, rfl, ht, f⟩
    rw [pair_run_u a b _ _ hab] at ht
    obtain ⟨ob, cap, rfl, hc, hl, ho, hj⟩ := ht.cells 7 rfl (by decide)
    have F := Lib.hid (F1.out.trans0 f)
    have E3 := Lib.hid (E0.out.fr F.out (fun _ q => q.elim))
    obtain ⟨pv, kv, lv, x0, -⟩ := hj 3 _ rfl
    obtain ⟨pv4, kv4, lv4, -, -, y2, y3, y4, -⟩ := hj 4 _ rfl
    obtain ⟨pv5, kv5, lv5, -, -, z2, z3, z4, -⟩ := hj 5 _ rfl
    obtain ⟨pv6, kv6, lv6, -, -, -, -, -, -, u6, -⟩ := hj 6 _ rfl
    replace x0 : w3.cell? ⟨ob, 30, none⟩ = some (.int .u8 4) := x0
    replace y2 : w3.cell? ⟨ob, 42, none⟩ = some (.string a) := y2
    replace y3 : w3.cell? ⟨ob, 43, none⟩ = some (.string b) := y3
    replace y4 : w3.cell? ⟨ob, 44, none⟩ = some (.int .i64 (wrap64 x)) := y4
    replace z2 : w3.cell? ⟨ob, 52, none⟩ = some (.string b) := z2
    replace z3 : w3.cell? ⟨ob, 53, none⟩ = some (.string a) := z3
    replace z4 : w3.cell? ⟨ob, 54, none⟩ = some (.int .i64 (wrap64 x)) := z4
    replace u6 : w3.cell? ⟨ob, 66, none⟩ = some (.int .i64 1) := u6
    clear hj
    clear ht f F1
    go_wp2_with fail
    refine (aw17 w3 B eb E3.out).mono ?_
    rintro e w5 ⟨rfl, f5⟩
    have F5 := Lib.hid f5
    clear f5
    go_wp2_with fail
    go_ret
    exact ⟨rfl, F.out.trans0 F5.out⟩
  · refine (aw17 w B eb E0.out).mono ?_
    rintro e w1 ⟨rfl, f1⟩
    have F1 := Lib.hid f1
    clear f1
    go_wp2_with fail
    go_ret
    exact ⟨rfl, F1.out⟩
  · go_ret
    exact ⟨rfl, Fr.refl _ _⟩
end Go.Proofs.YtbafaadmlpamiaaGreatDoor
