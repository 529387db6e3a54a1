/- FnStoreAbsent: the walk. -/
import Derived.Test.YtbafaadmlpamiaaGreatDoorAbs1
namespace Go.Proofs.YtbafaadmlpamiaaGreatDoor
open Go Go.Hy Go.RowKit

abbrev askC (a b : ByteArray) : Array Value := #[.int .u8 5, .string a, .string ⟨#[]⟩, .int .i64 0, .slice none 0 0, .int .u8 1, .string b, .string ⟨#[]⟩, .int .i64 0, .slice none 0 0, .int .u8 6, .string a, .string b, .int .i64 0, .slice none 0 0, .int .u8 3, .string b, .string a, .int .i64 0, .slice none 0 0, .int .u8 2, .string a, .string b, .int .i64 0, .slice none 0 0, .int .u8 4, .string a, .string b, .int .i64 0, .slice none 0 0]
abbrev therC (a b : ByteArray) : Array Value := #[.int .u8 0, .string a, .string ⟨#[]⟩, .int .i64 0, .slice none 0 0, .int .u8 0, .string b, .string ⟨#[]⟩, .int .i64 0, .slice none 0 0, .int .u8 6, .string a, .string b, .int .i64 0, .slice none 0 0, .int .u8 3, .string a, .string b, .int .i64 0, .slice none 0 0, .int .u8 4, .string b, .string a, .int .i64 0, .slice none 0 0, .int .u8 1, .string b, .string ⟨#[]⟩, .int .i64 0, .slice none 0 0, .int .u8 2, .string a, .string b, .int .i64 0, .slice none 0 0, .int .u8 2, .string b, .string a, .int .i64 0, .slice none 0 0]
abbrev cntC : Array Value := #[.int .u8 7, .string ⟨#[]⟩, .string ⟨#[]⟩, .int .i64 0, .slice none 0 0]

theorem infoDo : (Tryz.prog.info? 28).map (fun i => (i.zero, i.size, i.bytes)) = some (some (.agg #[.int .u8 0, .string ⟨#[]⟩, .string ⟨#[]⟩, .int .i64 0, .slice none 0 0]), 5, 72) := by kernel_rfl

theorem own_ther {w : World} {B : Nat} {a b : ByteArray} (h : w.heap[B]? = some (.cells (therC a b) 28 (0, 0))) : w.ownsRow B 28 5 (.slice (some ⟨B, 0, none⟩) 8 8) 8 (therC a b).toList :=
  ⟨rfl, .inr ⟨B, 8, therC a b, rfl, Nat.le_refl _, h, Nat.le_refl _, by decide, by simp, rfl⟩⟩

theorem dos_bare {w : World} {v : Value} {n : Nat} {ds : List DoIn} (h : Reads w v n (encL encDo (ds.map fun d => (d, Value.slice none 0 0)))) (hn : n = ds.length) (hp : ∀ d ∈ ds, d.prs = []) : SDosAt w v ds := by
  refine SDosAt.of_reads h (by rw [List.map_map]; exact List.map_id' ds) hn fun p hm => ?_
  obtain ⟨d, hd, rfl⟩ := List.mem_map.1 hm
  show PrAt w (.slice none 0 0) d.prs
  rw [hp d hd]
  exact ⟨none, 0, rfl, fun i p h => by simp at h⟩

theorem ask_prs (a b : ByteArray) : ∀ d ∈ askDs a b, d.prs = [] := by
  intro d hd
  simp only [askDs, List.mem_cons, List.not_mem_nil, or_false] at hd
  rcases hd with rfl | rfl | rfl | rfl | rfl | rfl <;> rfl

theorem ther_prs (a b : ByteArray) : ∀ d ∈ therDs a b, d.prs = [] := by
  intro d hd
  simp only [therDs, List.mem_cons, List.not_mem_nil, or_false] at hd
  rcases hd with rfl | rfl | rfl | rfl | rfl | rfl | rfl | rfl | rfl <;> rfl

set_option maxRecDepth 100000 in
set_option maxHeartbeats 2000000 in
theorem fp6 (w : World) (b0 b1 b2 b3 b4 b5 : Bool) (hk : Nat) (B : Nat) (eb : Nat → Addr) (E : ErrsOk w B eb) (a b : ByteArray) :
    Calls Tryz.prog 6 #[kagg b0 b1 b2 b3 b4 b5 hk, .string a, .string b] w fun e w' => e = .returned (.bool true) ∧ Fr0 w w' := by
  have E0 := Lib.hid E
  clear E
  have KB := Lib.hid (Cells.new w #[.bool b0, .bool b1, .bool b2, .bool b3, .bool b4, .bool b5, .int .u8 hk] 52)
  have FB := Lib.hid ((Fr.refl (fun _ => False) w).alloc (.cells #[.bool b0, .bool b1, .bool b2, .bool b3, .bool b4, .bool b5, .int .u8 hk] 52))
  go_enter Tryz.func6, Tryz.ntmps6
  by_cases ha : 2147483647 < a.size
  · have ha' : (2147483647 : Int) < (a.size : Int) := by omega
    go_wp2_with fail
    go_ret
    exact ⟨rfl, by (repeat' (first | (with_reducible exact Fr.refl _ _) | (with_reducible assumption) | (with_reducible refine Fr.drew ?_) | (with_reducible refine Fr.drewN ?_ _) | (with_reducible refine Fr.alloc ?_ _) | ((with_reducible refine Fr.setM ?_ (.inl ?_) _ _); rotate_left; focus (simp; done)) | ((with_reducible refine Fr.setCell ?_ (.inr ?_) _); rotate_left; focus (simp; done)) | ((with_reducible refine Fr.setCell ?_ (.inr ?_) _); rotate_left; focus (simp; omega))))⟩
  have ha' : (a.size : Int) ≤ 2147483647 := by omega
  by_cases hb : 2147483647 < b.size
  · have hb' : (2147483647 : Int) < (b.size : Int) := by omega
    go_wp2_with fail
    go_ret
    exact ⟨rfl, by (repeat' (first | (with_reducible exact Fr.refl _ _) | (with_reducible assumption) | (with_reducible refine Fr.drew ?_) | (with_reducible refine Fr.drewN ?_ _) | (with_reducible refine Fr.alloc ?_ _) | ((with_reducible refine Fr.setM ?_ (.inl ?_) _ _); rotate_left; focus (simp; done)) | ((with_reducible refine Fr.setCell ?_ (.inr ?_) _); rotate_left; focus (simp; done)) | ((with_reducible refine Fr.setCell ?_ (.inr ?_) _); rotate_left; focus (simp; omega))))⟩
  have hb' : (b.size : Int) ≤ 2147483647 := by omega
  go_wp2_with fail
  generalize w.alloc (.cells #[.bool b0, .bool b1, .bool b2, .bool b3, .bool b4, .bool b5, .int .u8 hk] 52) = W at *
  refine (kindr W b0 b1 b2 b3 b4 b5 hk).mono ?_
  rintro e w1 ⟨r, rfl, hr, f1⟩
  have F1 := Lib.hid (And.intro hr f1)
  have KB1 := Lib.hid (KB.out.fr f1 (fun q => q))
  clear hr f1
  have k0 := KB1.out.cell 0 _ rfl
  have k1 := KB1.out.cell 1 _ rfl
  have k2 := KB1.out.cell 2 _ rfl
  have k3 := KB1.out.cell 3 _ rfl
  have k4 := KB1.out.cell 4 _ rfl
  have k5 := KB1.out.cell 5 _ rfl
  have k6 := KB1.out.cell 6 _ rfl
  cases r with
  | false => (go_wp2_with fail; refine (aw17 w1 B eb (E0.out.fr (FB.out.trans0 F1.out.2) (fun _ q => q.elim))).mono ?_; rintro e w3 ⟨rfl, f3⟩; have F3 := Lib.hid f3; clear f3; go_wp2_with fail; go_ret; exact ⟨rfl, (FB.out.trans0 F1.out.2).trans0 F3.out⟩)
  | true =>
    by_cases h0 : hk = 0
    rotate_left
    · have h0' : ¬ (hk : Int) = 0 := by omega
      have h0'' : ((hk : Int) == 0) = false := beq_eq_false_iff_ne.2 h0'
      (go_wp2_with fail; refine (aw17 w1 B eb (E0.out.fr (FB.out.trans0 F1.out.2) (fun _ q => q.elim))).mono ?_; rintro e w3 ⟨rfl, f3⟩; have F3 := Lib.hid f3; clear f3; go_wp2_with fail; go_ret; exact ⟨rfl, (FB.out.trans0 F1.out.2).trans0 F3.out⟩)
    have hk1 : ((hk : Int) == 0) = true := by rw [h0]; rfl
    have hk2 : ((hk : Int) != 0) = false := by rw [h0]; rfl
    have HZ := Lib.hid h0
    clear h0
    by_cases h1 : 12 < a.size
    · have h1' : (12 : Int) < (a.size : Int) := by omega
      (go_wp2_with fail; refine (aw17 w1 B eb (E0.out.fr (FB.out.trans0 F1.out.2) (fun _ q => q.elim))).mono ?_; rintro e w3 ⟨rfl, f3⟩; have F3 := Lib.hid f3; clear f3; go_wp2_with fail; go_ret; exact ⟨rfl, (FB.out.trans0 F1.out.2).trans0 F3.out⟩)
    have h1' : (a.size : Int) ≤ 12 := by omega
    by_cases h2 : 12 < b.size
    · have h2' : (12 : Int) < (b.size : Int) := by omega
      (go_wp2_with fail; refine (aw17 w1 B eb (E0.out.fr (FB.out.trans0 F1.out.2) (fun _ q => q.elim))).mono ?_; rintro e w3 ⟨rfl, f3⟩; have F3 := Lib.hid f3; clear f3; go_wp2_with fail; go_ret; exact ⟨rfl, (FB.out.trans0 F1.out.2).trans0 F3.out⟩)
    have h2' : (b.size : Int) ≤ 12 := by omega
    by_cases hab : a = b
    · subst hab
      (go_wp2_with fail; refine (aw17 w1 B eb (E0.out.fr (FB.out.trans0 F1.out.2) (fun _ q => q.elim))).mono ?_; rintro e w3 ⟨rfl, f3⟩; have F3 := Lib.hid f3; clear f3; go_wp2_with fail; go_ret; exact ⟨rfl, (FB.out.trans0 F1.out.2).trans0 F3.out⟩)
    have hab' := text_ne hab
    have HAB := Lib.hid hab
    clear hab
    have A0 : Cells (((w1.alloc (.cells (askC a b) 28)).alloc (.cells (therC a b) 28)).alloc (.cells cntC 28)) w1.heap.size (askC a b) 28 := ((Cells.new w1 _ _).alloc _).alloc _
    have A1 : Cells (((w1.alloc (.cells (askC a b) 28)).alloc (.cells (therC a b) 28)).alloc (.cells cntC 28)) (w1.heap.size + 1) (therC a b) 28 := by
      have z1 : (w1.alloc (.cells (askC a b) 28)).heap.size = w1.heap.size + 1 := by simp
      have y := (Cells.new (w1.alloc (.cells (askC a b) 28)) (therC a b) 28).alloc (.cells cntC 28)
      rwa [z1] at y
    have A2 : Cells (((w1.alloc (.cells (askC a b) 28)).alloc (.cells (therC a b) 28)).alloc (.cells cntC 28)) (w1.heap.size + 1 + 1) cntC 28 := by
      have z1 : ((w1.alloc (.cells (askC a b) 28)).alloc (.cells (therC a b) 28)).heap.size = w1.heap.size + 1 + 1 := by simp
      have y := Cells.new ((w1.alloc (.cells (askC a b) 28)).alloc (.cells (therC a b) 28)) cntC 28
      rwa [z1] at y
    have A3 : Fr0 w1 (((w1.alloc (.cells (askC a b) 28)).alloc (.cells (therC a b) 28)).alloc (.cells cntC 28)) := by (repeat' (first | (with_reducible exact Fr.refl _ _) | (with_reducible assumption) | (with_reducible refine Fr.drew ?_) | (with_reducible refine Fr.drewN ?_ _) | (with_reducible refine Fr.alloc ?_ _) | ((with_reducible refine Fr.setM ?_ (.inl ?_) _ _); rotate_left; focus (simp; done)) | ((with_reducible refine Fr.setCell ?_ (.inr ?_) _); rotate_left; focus (simp; done)) | ((with_reducible refine Fr.setCell ?_ (.inr ?_) _); rotate_left; focus (simp; omega))))
    have AA := Lib.hid (And.intro A0 (And.intro A1 (And.intro A2 A3)))
    clear A0 A1 A2 A3
    go_wp2_with (first
      | (at_builtin; go_loud (refine wl_appG (w := ((w1.alloc (.cells (askC a b) 28)).alloc (.cells (therC a b) 28)).alloc (.cells cntC 28)) 31 rfl (.tmp 79) (.tmp 81) rfl 28 _ 5 72 Tryz.underlying31 infoDo rfl (by decide) (by decide) (w1.heap.size + 1) (.slice (some ⟨w1.heap.size + 1, 0, none⟩) 8 8) 8 (therC a b).toList rfl (own_ther AA.out.2.1) (.slice (some ⟨w1.heap.size + 1 + 1, 0, none⟩) 1 1) 1 cntC.toList rfl (.inr ⟨_, _, rfl, World.news_of_block AA.out.2.2.1⟩) rfl (by simp [Value.oneCell']) (by decide) (by simp) ?_)))
    intro v9 w4 ho9 f9 at9
    obtain ⟨b9, cap9, rfl, -, -⟩ := own_slice ho9
    have FX := Lib.hid (Fr.trans AA.out.2.2.2 f9 (fun q hq => .inr (by have : w1.heap.size + 1 = q := Option.some.inj hq; omega)) : Fr0 w1 w4)
    have FT := Lib.hid ((FB.out.trans0 F1.out.2).trans0 FX.out)
    have SD1 := Lib.hid (dos_bare (ds := askDs a b) (Reads.of_cells (AA.out.1.fr f9 (fun q => by have : w1.heap.size + 1 = w1.heap.size := Option.some.inj q; omega)) (Nat.le_refl 6) rfl) rfl (ask_prs a b))
    have SD2 := Lib.hid (dos_bare (w := w4) (v := .slice b9 (8 + 1) cap9) (n := 8 + 1) (ds := therDs a b) (own_slice ho9) rfl (ther_prs a b))
    have E4 := Lib.hid (E0.out.fr FT.out (fun _ q => q.elim))
    have KB4 := Lib.hid (KB1.out.fr FX.out (fun q => q))
    have G1 : Good B eb (kst b0 b1 b2 b3 b4 b5 hk) (askDs a b) := by rw [kst_eq, HZ.out]; exact ask_good B eb b0 b5 a b HAB.out
    have G2 : Good B eb (kst b0 b1 b2 b3 b4 b5 hk) (therDs a b) := by rw [kst_eq, HZ.out]; exact ther_good B eb b0 b5 a b HAB.out
    have HC : HashC hk := by rw [HZ.out]; exact hash0
    have GG := Lib.hid (And.intro G1 (And.intro G2 HC))
    clear ho9 f9 at9 G1 G2 HC k0 k1 k2 k3 k4 k5 k6
    have k0 := KB4.out.cell 0 _ rfl
    have k1 := KB4.out.cell 1 _ rfl
    have k2 := KB4.out.cell 2 _ rfl
    have k3 := KB4.out.cell 3 _ rfl
    have k4 := KB4.out.cell 4 _ rfl
    have k5 := KB4.out.cell 5 _ rfl
    have k6 := KB4.out.cell 6 _ rfl
    go_wp2_with fail
    refine (run26 w4 b0 b1 b2 b3 b4 b5 hk _ (askDs a b) SD1.out GG.out.2.2 B eb E4.out (by simp [askDs]) (fun d hd => by rw [ask_prs a b d hd]; simp) (fun i d h => (GG.out.1.at_ i d h).1) (fun i d h => (GG.out.1.at_ i d h).2)).mono ?_
    rintro e w5 ⟨rfl, f5⟩
    have F5 := Lib.hid f5
    have KB5 := Lib.hid (KB4.out.fr f5 (fun q => q))
    clear f5 k0 k1 k2 k3 k4 k5 k6
    have k0 := KB5.out.cell 0 _ rfl
    have k1 := KB5.out.cell 1 _ rfl
    have k2 := KB5.out.cell 2 _ rfl
    have k3 := KB5.out.cell 3 _ rfl
    have k4 := KB5.out.cell 4 _ rfl
    have k5 := KB5.out.cell 5 _ rfl
    have k6 := KB5.out.cell 6 _ rfl
    go_wp2_with fail
    refine (run26 w5 b0 b1 b2 b3 b4 b5 hk _ (therDs a b) (SD2.out.fr F5.out) GG.out.2.2 B eb (E4.out.fr F5.out (fun _ q => q.elim)) (by simp [therDs]) (fun d hd => by rw [ther_prs a b d hd]; simp) (fun i d h => (GG.out.2.1.at_ i d h).1) (fun i d h => (GG.out.2.1.at_ i d h).2)).mono ?_
    rintro e w6 ⟨rfl, f6⟩
    have F6 := Lib.hid (F5.out.trans0 f6)
    clear f6
    go_wp2_with fail
    refine (aw17 w6 B eb (E4.out.fr F6.out (fun _ q => q.elim))).mono ?_
    rintro e w7 ⟨rfl, f7⟩
    have F7 := Lib.hid f7
    clear f7
    go_wp2_with fail
    go_ret
    exact ⟨rfl, (FT.out.trans0 F6.out).trans0 F7.out⟩
end Go.Proofs.YtbafaadmlpamiaaGreatDoor
