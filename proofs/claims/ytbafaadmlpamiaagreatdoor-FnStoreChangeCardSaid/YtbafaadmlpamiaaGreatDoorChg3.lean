/- FnStoreChange: the walk. -/
import Derived.Test.YtbafaadmlpamiaaGreatDoorChg2
import Derived.Test.YtbafaadmlpamiaaGreatDoorSpec2
import Derived.Test.YtbafaadmlpamiaaGreatDoorSpec4
import Derived.Test.YtbafaadmlpamiaaGreatDoorArgs
namespace Go.Proofs.YtbafaadmlpamiaaGreatDoor
open Go Go.Hy Go.RowKit

abbrev baseC (kB : Nat) : Array Value := #[.int .u8 0, .string tA, .string ⟨#[]⟩, .int .i64 0, .slice none 0 0, .int .u8 0, .string tB, .string ⟨#[]⟩, .int .i64 0, .slice none 0 0,
  .int .u8 0, .string tC, .string ⟨#[]⟩, .int .i64 0, .slice none 0 0, .int .u8 2, .string tA, .string tB, .int .i64 1, .slice none 0 0, .int .u8 2, .string tB, .string tC, .int .i64 2, .slice (some ⟨kB, 0, none⟩) 1 1]

theorem info28 : (Tryz.prog.info? 28).map (fun i => (i.zero, i.size, i.bytes)) = some (some (.agg #[.int .u8 0, .string ⟨#[]⟩, .string ⟨#[]⟩, .int .i64 0, .slice none 0 0]), 5, 72) := by kernel_rfl

theorem flat_le (m : Nat) : ∀ us : Us, (∀ u ∈ us, u.2.length ≤ m) → (us.flatMap (·.2)).length ≤ us.length * m
  | [], _ => by simp
  | u :: us, h => by
    have h1 := h u (by simp)
    have h2 := flat_le m us fun x hx => h x (by simp [hx])
    rw [List.flatMap_cons, List.length_append, List.length_cons, Nat.add_mul]
    omega

theorem usOf_at {ws : List Int} {pss : List (List PP)} {i : Nat} {x : Int} {prs : List PP} (h1 : ws[i]? = some x) (h2 : pss[i]? = some prs) : (usOf ws pss)[i]? = some (wrap64 x, prs) := by
  simp [usOf, List.getElem?_zip_eq_some, h1, h2]

theorem usOf_len {ws : List Int} {pss : List (List PP)} (h : pss.length = ws.length) : (usOf ws pss).length = ws.length := by simp [usOf, h]

theorem usOf_le {ws : List Int} {pss : List (List PP)} {m : Nat} (h : ∀ ps ∈ pss, ps.length ≤ m) : ∀ u ∈ usOf ws pss, u.2.length ≤ m := fun u hu => h u.2 (List.of_mem_zip hu).2

theorem yields_cells {w : World} {b m c : Nat} {cs : Array Value} {t : TypeId} (h : w.heap[b]? = some (.cells cs t (0, 0))) : Yld w (.slice (some ⟨b, 0, none⟩) m c) m cs.toList := .inr ⟨_, _, rfl, World.news_of_block h⟩

abbrev endC : Array Value := #[.int .u8 6, .string tA, .string tB, .int .i64 0, .slice none 0 0, .int .u8 6, .string tB, .string tC, .int .i64 0, .slice none 0 0]

theorem ch_last {wB wr w6 : World} {us : Us} {v7 v8 v9 : Value} {dvs : List (DoIn × Value)} {al : List PP} (h : CH wB us us.length v7 v8 dvs al wr) (o9 : w6.ownsRow wB.heap.size 28 5 v9 (5 + us.length + 2) (encL encDo dvs ++ endC.toList)) (f : Fr0 wB w6) :
    SDosAt w6 v9 (chDs tA tB tC tKV us) := by
  have hn (W : World) : PrAt W (.slice none 0 0) [] := ⟨none, 0, rfl, fun i p h => by simp at h⟩
  have e : encL encDo dvs ++ endC.toList = encL encDo (dvs ++ [(⟨6, tA, tB, 0, []⟩, .slice none 0 0), (⟨6, tB, tC, 0, []⟩, .slice none 0 0)]) := by simp [encL, encDo]
  rw [e] at o9
  refine SDosAt.of_reads (own_slice o9) ?_ ?_ ?_
  · rw [List.map_append, h.fst, List.take_length]; rfl
  · simp [chDs, chBase, chUp, chEnd]; omega
  · intro p hp
    rcases List.mem_append.1 hp with z | z
    · exact (h.prs p z).fr f
    · simp only [List.mem_cons, List.not_mem_nil, or_false] at z
      rcases z with rfl | rfl <;> exact hn _

theorem ch_len (a b c : ByteArray) (kv : List PP) (us : Us) : (chDs a b c kv us).length = 5 + us.length + 2 := by simp [chDs, chBase, chUp, chEnd]; omega

theorem ch_mem {a b c : ByteArray} {kv : List PP} {us : Us} {d : DoIn} (h : d ∈ chDs a b c kv us) : d ∈ chBase a b c kv ∨ (∃ u ∈ us, d = ⟨4, a, b, u.1, u.2⟩) ∨ d ∈ chEnd a b c := by
  unfold chDs at h
  rcases List.mem_append.1 h with h | h
  · rcases List.mem_append.1 h with h | h
    · exact .inl h
    · obtain ⟨u, hu, rfl⟩ := List.mem_map.1 h
      exact .inr (.inl ⟨u, hu, rfl⟩)
  · exact .inr (.inr h)

theorem ch_prs (a b c : ByteArray) (kv : List PP) (us : Us) (m : Nat) (h : ∀ u ∈ us, u.2.length ≤ m) (hk : kv.length ≤ m) : ∀ d ∈ chDs a b c kv us, d.prs.length ≤ m := by
  intro d hd
  rcases ch_mem hd with q | ⟨u, hu, rfl⟩ | q
  · simp only [chBase, List.mem_cons, List.not_mem_nil, or_false] at q
    rcases q with rfl | rfl | rfl | rfl | rfl
    all_goals first | exact Nat.zero_le _ | exact hk
  · exact h u hu
  · simp only [chEnd, List.mem_cons, List.not_mem_nil, or_false] at q
    rcases q with rfl | rfl <;> exact Nat.zero_le _

theorem ch_fine (a b c : ByteArray) (kv : List PP) (us : Us) (h1 : a ≠ b) (h2 : b ≠ c) (dir : Bool) : ∀ d ∈ chDs a b c kv us, Fine1 dir d := by
  intro d hd
  rcases ch_mem hd with q | ⟨u, hu, rfl⟩ | q
  · simp only [chBase, List.mem_cons, List.not_mem_nil, or_false] at q
    rcases q with rfl | rfl | rfl | rfl | rfl
    · exact .inl (.inl rfl)
    · exact .inl (.inl rfl)
    · exact .inl (.inl rfl)
    · exact .inl (.inr (.inl ⟨rfl, fun _ => h1⟩))
    · exact .inl (.inr (.inl ⟨rfl, fun _ => h2⟩))
  · exact .inr (.inr (.inr rfl))
  · simp only [chEnd, List.mem_cons, List.not_mem_nil, or_false] at q
    rcases q with rfl | rfl <;> exact .inl (.inr (.inr (.inr (.inl rfl))))

theorem ch_start (w1 : World) (us : Us) : CH (w1.alloc (.cells #[.string ⟨#[107]⟩, .string ⟨#[118]⟩] 30)) us 0 (.slice (some ⟨w1.heap.size + 1, 0, none⟩) 5 5) (.slice none 0 0)
    [(⟨0, tA, ⟨#[]⟩, 0, []⟩, .slice none 0 0), (⟨0, tB, ⟨#[]⟩, 0, []⟩, .slice none 0 0), (⟨0, tC, ⟨#[]⟩, 0, []⟩, .slice none 0 0), (⟨2, tA, tB, 1, []⟩, .slice none 0 0), (⟨2, tB, tC, 2, tKV⟩, .slice (some ⟨w1.heap.size, 0, none⟩) 1 1)] []
    ((w1.alloc (.cells #[.string ⟨#[107]⟩, .string ⟨#[118]⟩] 30)).alloc (.cells (baseC w1.heap.size) 28)) := by
  have hn (W : World) : PrAt W (.slice none 0 0) [] := ⟨none, 0, rfl, fun i p h => by simp at h⟩
  have hs : (w1.alloc (.cells #[.string ⟨#[107]⟩, .string ⟨#[118]⟩] 30)).heap.size = w1.heap.size + 1 := by simp
  refine ⟨rfl, rfl, ⟨rfl, .inr ⟨w1.heap.size + 1, 5, baseC w1.heap.size, rfl, by rw [hs]; exact Nat.le_refl _, by rw [← hs]; exact heap_alloc_new _ _, Nat.le_refl _, by decide, rfl, rfl⟩⟩, World.ownsRow_nil _ _ _ _, (fun q _ h => by cases h), ?_, (Fr.refl _ _).alloc _⟩
  intro p hp
  simp only [List.mem_cons, List.not_mem_nil, or_false] at hp
  rcases hp with rfl | rfl | rfl | rfl | rfl
  · exact hn _
  · exact hn _
  · exact hn _
  · exact hn _
  · have c := Cells.new w1 #[.string ⟨#[107]⟩, .string ⟨#[118]⟩] 30
    refine ⟨_, _, rfl, fun i p h => ⟨w1.heap.size, 0, rfl, c.lt, ?_⟩⟩
    cases i with
    | zero =>
      simp at h
      subst h
      exact ⟨c.cell 0 _ rfl, c.cell 1 _ rfl⟩
    | succ i => simp at h

theorem w64k {n k : Int} (h : n = k) (lo : 0 ≤ k) (hi : k ≤ 1000000) : IntKind.i64.wrap n = k := by
  subst h
  rw [IntKind.wrap_i64]
  omega

theorem lastW_get : ∀ (us : Us) (w0 : Int) (j : Nat) (u : Int × List PP), us.length = j + 1 → us[j]? = some u → lastW w0 us = u.1
  | [], _, _, _, h, _ => by simp at h
  | v :: us, w0, j, u, h, hu => by
    have e : lastW w0 (v :: us) = lastW v.1 us := rfl
    rw [e]
    cases j with
    | zero =>
      have h0 : us = [] := List.eq_nil_of_length_eq_zero (by simpa using h)
      subst h0
      simp only [List.getElem?_cons_zero, Option.some.injEq] at hu
      rw [← hu]
      rfl
    | succ j =>
      simp only [List.getElem?_cons_succ] at hu
      exact lastW_get us v.1 j u (by simpa using h) hu

theorem last_us {ws : List Int} {pss : List (List PP)} {us : Us} {j : Nat} {x : Int} (hj : ws.length = j + 1) (hg : ws[j]? = some x) (hu : usOf ws pss = us) (hl : us.length = ws.length) : lastW 1 us = wrap64 x := by
  have hg2 := List.getElem?_eq_getElem (show j < us.length by omega)
  rw [lastW_get us 1 j _ (hl.trans hj) hg2]
  generalize us[j] = u at hg2
  subst hu
  unfold usOf at hg2
  have h1 := (List.getElem?_zip_eq_some.1 hg2).1
  rw [List.getElem?_map, hg] at h1
  exact (Option.some.inj h1).symm

theorem ch_up_mem {a b c : ByteArray} {kv : List PP} {us : Us} {u : Int × List PP} (h : u ∈ us) : (⟨4, a, b, u.1, u.2⟩ : DoIn) ∈ chDs a b c kv us :=
  List.mem_append_left _ (List.mem_append_right _ (List.mem_map.2 ⟨u, h, rfl⟩))

abbrev blkX (wx : Int) (n : Nat) (pxa : Option Addr) (pxc : Nat) (kxa : Option Addr) (kxc : Nat) (lxa : Option Addr) (lxc : Nat) : Array Value :=
  #[.int .u8 0, .string ⟨#[]⟩, .string tA, .string tB, .int .i64 wx, .int .i64 0, .int .i64 0, .slice pxa n pxc, .slice kxa 0 kxc, .slice lxa 0 lxc]
abbrev blkY (pya : Option Addr) (pyc : Nat) (kya : Option Addr) (kyc : Nat) (lya : Option Addr) (lyc : Nat) : Array Value :=
  #[.int .u8 0, .string ⟨#[]⟩, .string tB, .string tC, .int .i64 2, .int .i64 0, .int .i64 0, .slice pya 1 pyc, .slice kya 0 kyc, .slice lya 0 lyc]

/-- what the last two steps of the changes tell -/
theorem ch_told {w : World} {lo : Nat} {v : Value} {dir : Bool} {us : Us} {m : Nat} (h : TellsAt w lo v ((kst dir false false false false false 0).run (chDs tA tB tC tKV us))) (hm : m = 5 + us.length) :
    ∃ ob cap pxa pxc kxa kxc lxa lxc pya pyc kya kyc lya lyc, v = .slice (some ⟨ob, 0, none⟩) (m + 2) cap ∧ ob < w.heap.size ∧
      (w.cell? ⟨ob, m * 10, none⟩ = some (.int .u8 0) ∧ w.cell? ⟨ob, m * 10 + 1, none⟩ = some (.string ⟨#[]⟩) ∧ w.cell? ⟨ob, m * 10 + 2, none⟩ = some (.string tA) ∧ w.cell? ⟨ob, m * 10 + 3, none⟩ = some (.string tB) ∧ w.cell? ⟨ob, m * 10 + 4, none⟩ = some (.int .i64 (lastW 1 us)) ∧
        w.cell? ⟨ob, m * 10 + 5, none⟩ = some (.int .i64 0) ∧ w.cell? ⟨ob, m * 10 + 6, none⟩ = some (.int .i64 0) ∧ w.cell? ⟨ob, m * 10 + 7, none⟩ = some (.slice pxa (byK (us.flatMap (·.2))).length pxc) ∧ w.cell? ⟨ob, m * 10 + 8, none⟩ = some (.slice kxa 0 kxc) ∧ w.cell? ⟨ob, m * 10 + 9, none⟩ = some (.slice lxa 0 lxc)) ∧
      (w.cell? ⟨ob, (m + 1) * 10, none⟩ = some (.int .u8 0) ∧ w.cell? ⟨ob, (m + 1) * 10 + 1, none⟩ = some (.string ⟨#[]⟩) ∧ w.cell? ⟨ob, (m + 1) * 10 + 2, none⟩ = some (.string tB) ∧ w.cell? ⟨ob, (m + 1) * 10 + 3, none⟩ = some (.string tC) ∧ w.cell? ⟨ob, (m + 1) * 10 + 4, none⟩ = some (.int .i64 2) ∧
        w.cell? ⟨ob, (m + 1) * 10 + 5, none⟩ = some (.int .i64 0) ∧ w.cell? ⟨ob, (m + 1) * 10 + 6, none⟩ = some (.int .i64 0) ∧ w.cell? ⟨ob, (m + 1) * 10 + 7, none⟩ = some (.slice pya 1 pyc) ∧ w.cell? ⟨ob, (m + 1) * 10 + 8, none⟩ = some (.slice kya 0 kyc) ∧ w.cell? ⟨ob, (m + 1) * 10 + 9, none⟩ = some (.slice lya 0 lyc)) ∧
      PairsIn w (fun q => lo < q) (.slice pxa (byK (us.flatMap (·.2))).length pxc) (byK (us.flatMap (·.2))) ∧ PairsIn w (fun q => lo < q) (.slice pya 1 pyc) (byK tKV) := by
  obtain ⟨ts, hts, hrun⟩ := ch_run dir tA tB tC tKV us (by decide) (by decide) (by decide)
  rw [hrun] at h
  subst hm
  obtain ⟨ob, cap, rfl, hc, hl, ho, hj⟩ := h.cells (5 + us.length + 2) (by rw [List.length_append, hts]; rfl) (by omega)
  obtain ⟨px, kx, lx, x0, x1, x2, x3, x4, x5, x6, x7, x8, x9, xp, xk, xl⟩ := hj (5 + us.length) _ (by rw [List.getElem?_append_right (by omega), hts, Nat.sub_self]; rfl)
  obtain ⟨py, ky, ly, y0, y1, y2, y3, y4, y5, y6, y7, y8, y9, yp, yk, yl⟩ := hj (5 + us.length + 1) _ (by rw [List.getElem?_append_right (by omega), hts, Nat.add_sub_cancel_left]; rfl)
  obtain ⟨⟨pxa, pxc, rfl, _, _⟩, _⟩ := id xp
  obtain ⟨⟨pya, pyc, rfl, _, _⟩, _⟩ := id yp
  obtain ⟨⟨kxa, kxc, rfl, _, _⟩, _⟩ := xk
  obtain ⟨⟨kya, kyc, rfl, _, _⟩, _⟩ := yk
  obtain ⟨_, _, ⟨lxa, lxc, rfl, _, _⟩, _⟩ := xl
  obtain ⟨_, _, ⟨lya, lyc, rfl, _, _⟩, _⟩ := yl
  exact ⟨ob, cap, pxa, pxc, kxa, kxc, lxa, lxc, pya, pyc, kya, kyc, lya, lyc, rfl, hl, ⟨x0, x1, x2, x3, x4, x5, x6, x7, x8, x9⟩, ⟨y0, y1, y2, y3, y4, y5, y6, y7, y8, y9⟩, xp, yp⟩

theorem dright120 (w : World) (v : Value) (ds : List DoIn) (h : SDosAt w v ds) (hn : ds.length ≤ 2147483647) (hp : ∀ d ∈ ds, d.prs.length ≤ 2147483647) (dir : Bool) :
    Calls Tryz.prog 18 #[v, .bool dir, .int .i64 120] w fun e w' => BPost ((∀ d ∈ ds, RightD dir d) ∧ ds.length ≤ 120) w e w' := dright w v ds h hn hp dir 120

set_option maxRecDepth 100000 in
set_option maxHeartbeats 2000000 in
theorem fp3 (dir : Bool) (w : World) (B : Nat) (eb : Nat → Addr) (E : ErrsOk w B eb) (v1 v2 : Value) (ws : List Int) (pss : List (List PP)) (h1 : IntsAt w v1 ws) (h2 : PrsAt w v2 pss) :
    Calls Tryz.prog 3 #[.bool dir, v1, v2] w fun e w' => e = .returned (.bool true) ∧ Fr0 w w' := by
  have E0 := Lib.hid E
  have H1 := Lib.hid h1
  have H2 := Lib.hid h2
  clear E
  obtain ⟨a1, c1, rfl, -⟩ := h1
  obtain ⟨a2, c2, rfl⟩ := h2.form
  clear h2
  go_enter Tryz.func3, Tryz.ntmps3
  by_cases hw : 2147483647 < ws.length
  · have hw' : (2147483647 : Int) < (ws.length : Int) := by omega
    go_wp2_with fail
    go_ret
    exact ⟨rfl, Fr.refl _ _⟩
  · have hw' : ¬ (2147483647 : Int) < (ws.length : Int) := by omega
    go_wp2_with fail
    refine (zz5 _ _ pss H2.out).mono ?_
    rintro e w1 ⟨r, rfl, hr, f1⟩
    have F1 := Lib.hid (And.intro hr f1)
    clear hr f1
    cases r with
    | false =>
      go_wp2_with fail
      go_ret
      exact ⟨rfl, F1.out.2⟩
    | true =>
      have F2 := Lib.hid (And.intro (F1.out.1 rfl) F1.out.2)
      clear F1
      by_cases n0 : ws.length = 0
      · have m0 : (ws.length : Int) = 0 := by omega
        go_wp2_with fail
        refine (aw17 w1 B eb (E0.out.fr F2.out.2 (fun _ q => q.elim))).mono ?_
        rintro e w3 ⟨rfl, f3⟩
        have F3 := Lib.hid f3
        clear f3
        go_wp2_with fail
        go_ret
        exact ⟨rfl, F2.out.2.trans0 F3.out⟩
      have m0 : ¬ (ws.length : Int) = 0 := by omega
      have e0 : ((ws.length : Int) == 0) = false := beq_eq_false_iff_ne.2 m0
      have e0' : decide ((ws.length : Int) = 0) = false := decide_eq_false m0
      by_cases n1 : 10 < ws.length
      · have m1 : (10 : Int) < (ws.length : Int) := by omega
        have e1 : decide ((10 : Int) < (ws.length : Int)) = true := by simp; omega
        go_wp2_with fail
        refine (aw17 w1 B eb (E0.out.fr F2.out.2 (fun _ q => q.elim))).mono ?_
        rintro e w3 ⟨rfl, f3⟩
        have F3 := Lib.hid f3
        clear f3
        go_wp2_with fail
        go_ret
        exact ⟨rfl, F2.out.2.trans0 F3.out⟩
      have m1 : ¬ (10 : Int) < (ws.length : Int) := by omega
      have e1 : decide ((10 : Int) < (ws.length : Int)) = false := by simp; omega
      by_cases n2 : pss.length = ws.length
      rotate_left
      · have m2 : ¬ (pss.length : Int) = (ws.length : Int) := by omega
        have e2 : ((pss.length : Int) == (ws.length : Int)) = false := by simp; omega
        have e2' : decide ((pss.length : Int) = (ws.length : Int)) = false := by simp; omega
        go_wp2_with fail
        refine (aw17 w1 B eb (E0.out.fr F2.out.2 (fun _ q => q.elim))).mono ?_
        rintro e w3 ⟨rfl, f3⟩
        have F3 := Lib.hid f3
        clear f3
        go_wp2_with fail
        go_ret
        exact ⟨rfl, F2.out.2.trans0 F3.out⟩
      · have m2 : (pss.length : Int) = (ws.length : Int) := by omega
        go_wp2_with fail
        have HB := Lib.hid (show Fr0 w (w1.alloc (.cells #[.string ⟨#[107]⟩, .string ⟨#[118]⟩] 30)) from F2.out.2.alloc _)
        have C0 := Lib.hid (ch_start w1 (usOf ws pss))
        have HS := Lib.hid (show (w1.alloc (.cells #[.string ⟨#[107]⟩, .string ⟨#[118]⟩] 30)).heap.size = w1.heap.size + 1 from by simp)
        have HU := Lib.hid (And.intro (usOf_len n2) (usOf_le (ws := ws) F2.out.1))
        generalize hwB : w1.alloc (.cells #[.string ⟨#[107]⟩, .string ⟨#[118]⟩] 30) = wB at *
        generalize hus : usOf ws pss = us at *
        have US := Lib.hid hus
        clear hus
        go_loopg [7, 8, 49] ws.length (fun k x7 x8 c wr => ∃ (i : Nat) (dvs : List (DoIn × Value)) (al : List PP), k + i = ws.length ∧ c = .int .i64 (i : Nat) ∧ CH wB us i x7 x8 dvs al wr)
        case atStart => exact ⟨0, _, _, rfl, rfl, C0.out⟩
        case round =>
          obtain ⟨i, dvs, al, hk, rfl, R⟩ := hrel
          have A := Lib.hid (And.intro hk R)
          clear hk R
          by_cases hi : i < ws.length
          · have hg := List.getElem?_eq_getElem hi
            have hg2 := List.getElem?_eq_getElem (show i < pss.length by omega)
            obtain ⟨ao', cap', e, hr⟩ := H1.out.fr (HB.out.trans0 A.out.2.fr)
            cases e
            obtain ⟨ob, off, rfl, hl, c0⟩ := hr i _ hg
            obtain ⟨ao', cap', e, hr'⟩ := H2.out.fr (HB.out.trans0 A.out.2.fr)
            obtain ⟨ao', cap', e', hr''⟩ := H2.out.fr HB.out
            rw [n2] at e e'
            cases e
            cases e'
            obtain ⟨ob2, off2, pv, rfl, hl2, d0, -⟩ := hr' i _ hg2
            obtain ⟨ob3, off3, pv3, e3, hl3, d3, hpv⟩ := hr'' i _ hg2
            cases e3
            have d3' := (A.out.2.fr.cell (p := ⟨ob2, off2 + i, none⟩) hl3 (fun q => q)).trans d3
            have : pv = pv3 := Option.some.inj (d0.symm.trans d3')
            subst this
            have hux := usOf_at hg hg2
            rw [US.out] at hux
            generalize ws[i] = x at c0 hux
            generalize pss[i] = prs at hpv hux
            have PV := Lib.hid (And.intro hpv (And.intro hux (And.intro hl3 d3)))
            obtain ⟨pa, pc, rfl⟩ := hpv.form
            have hsm := Lib.hid (show al.length ≤ (us.take i).length * 2147483647 from by rw [A.out.2.all]; exact flat_le 2147483647 (us.take i) fun u hu => HU.out.2 u (List.mem_of_mem_take hu))
            have hpm := Lib.hid (HU.out.2 _ (List.mem_of_getElem? hux))
            have SZ := Lib.hid A.out.2.fr.size
            clear hg hg2 hr hr' hr'' d3 d3' hpv hux
            go_wp2_with (first
              | (at_builtin; go_loud (refine wl_appG (w := wr.alloc (.cells #[.int .u8 4, .string tA, .string tB, .int .i64 (wrap64 x), .slice pa prs.length pc] 28)) 31 rfl (.tmp 54) (.tmp 62) rfl 28 _ 5 72 Tryz.underlying31 info28 rfl (by decide) (by decide) wB.heap.size u7 (5 + i) (encL encDo dvs) rfl (A.out.2.row7.alloc _) (.slice (some ⟨wr.heap.size, 0, none⟩) 1 1) 1 [.int .u8 4, .string tA, .string tB, .int .i64 (wrap64 x), .slice pa prs.length pc] rfl (yields_own (own_of_block (heap_alloc_new wr _) rfl)) rfl (by simp [Value.oneCell']) (by omega) (by have := SZ.out; simp; omega) ?_)))
            intro v7 w4 ho7 f4 at7
            obtain ⟨b7, cap7, rfl, -, -⟩ := own_slice ho7
            have O7 := Lib.hid (And.intro ho7 (And.intro f4 at7))
            have FA := Lib.hid ((Fr.refl (fun _ => False) wr).alloc (.cells #[.int .u8 4, .string tA, .string tB, .int .i64 (wrap64 x), .slice pa prs.length pc] 28))
            have FB4 := Lib.hid ((A.out.2.fr.trans0 FA.out).trans f4 (fun q hq => .inr (A.out.2.row7.lt q hq).1))
            have d4 := (FB4.out.cell (p := ⟨ob2, off2 + i, none⟩) PV.out.2.2.1 (fun q => q)).trans PV.out.2.2.2
            have h10 : (us.take i).length ≤ 10 := by rw [List.length_take]; have := HU.out.1; omega
            clear ho7 f4 at7
            go_wp2_with (first
              | (at_builtin; go_loud (refine wl_appG (w := w4) 26 rfl (.tmp 64) (.tmp 68) rfl 30 _ 2 32 Tryz.underlying26 info30 rfl (by decide) (by decide) wB.heap.size u8 al.length (encL encP al) rfl (ownsRow_fr (ownsRow_fr A.out.2.row8 FA.out (fun _ _ q => q)) O7.out.2.1 (fun q hq r => A.out.2.ne q r hq)) (.slice pa prs.length pc) prs.length (encL encP prs) rfl (PrAt.yld (PV.out.1.fr FB4.out)) (encP_len prs) (encP_one _) (by have z1 := hsm.out; have z2 : prs.length ≤ 2147483647 := hpm.out; omega) FB4.out.size ?_)))
            intro v8 w5 ho8 f5 at8
            obtain ⟨b8, cap8, rfl, -, -⟩ := own_slice ho8
            have O8 := Lib.hid (And.intro ho8 (And.intro f5 at8))
            clear ho8 f5 at8
            go_wp2_with fail
            go_roundg (gk - 1)
            case measure => have := A.out.1; omega
            case rel => exact ⟨i + 1, _, _, by have := A.out.1; omega, by simp, CH.step A.out.2 PV.out.2.1 PV.out.1 FA.out O7.out.1 O7.out.2.1 (O7.out.2.2.imp id fun z => by rw [z]; simp) O8.out.1 O8.out.2.1 O8.out.2.2⟩
          · have hi' : i = ws.length := by have := A.out.1; omega
            subst hi'
            obtain ⟨b7, cap7, rfl, -, -⟩ := own_slice A.out.2.row7
            obtain ⟨b8, cap8, rfl, -, -⟩ := own_slice A.out.2.row8
            have SZ := Lib.hid A.out.2.fr.size
            go_wp2_with (first
              | (at_builtin; go_loud (refine wl_appG (w := wr.alloc (.cells endC 28)) 31 rfl (.tmp 71) (.tmp 74) rfl 28 _ 5 72 Tryz.underlying31 info28 rfl (by decide) (by decide) wB.heap.size _ (5 + ws.length) (encL encDo dvs) rfl (A.out.2.row7.alloc _) (.slice (some ⟨wr.heap.size, 0, none⟩) 2 2) 2 endC.toList rfl (yields_cells (heap_alloc_new wr _)) rfl (by simp [Value.oneCell']) (by omega) (by have := SZ.out; simp; omega) ?_)))
            intro v9 w6 ho9 f9 at9
            obtain ⟨b9, cap9, rfl, -, -⟩ := own_slice ho9
            have FA := Lib.hid ((Fr.refl (fun _ => False) wr).alloc (.cells endC 28))
            have F9 := Lib.hid ((A.out.2.fr.trans0 FA.out).trans f9 (fun q hq => .inr (A.out.2.row7.lt q hq).1))
            have R8 := Lib.hid (ownsRow_fr (ownsRow_fr A.out.2.row8 FA.out (fun _ _ q => q)) f9 (fun q hq r => A.out.2.ne q r hq))
            have hul : us.length = ws.length := HU.out.1
            have AL := A.out.2
            rw [← hul] at AL ho9
            have sd := ch_last AL ho9 F9.out
            rw [hul] at sd
            have SD := Lib.hid sd
            clear sd
            have FW := Lib.hid (HB.out.trans0 F9.out)
            rw [hul] at ho9
            have HUL := Lib.hid hul
            clear ho9 f9 at9 AL hul
            have hlen := Lib.hid (ch_len tA tB tC tKV us)
            have hprs := Lib.hid (ch_prs tA tB tC tKV us 2147483647 HU.out.2 (by decide))
            obtain ⟨sa, sc, hsf, -⟩ := SD.out
            rw [hlen.out, HUL.out] at hsf
            cases hsf
            go_wp2_with fail
            refine (dright120 _ _ (chDs tA tB tC tKV us) SD.out (by have := hlen.out; have := HUL.out; omega) hprs.out dir).mono ?_
            rintro e w7 ⟨r, rfl, hr, f7⟩
            have F7 := Lib.hid (And.intro hr f7)
            clear hr f7
            cases r with
            | false =>
              go_wp2_with fail
              refine (aw17 w7 B eb (E0.out.fr (FW.out.trans0 F7.out.2) (fun _ q => q.elim))).mono ?_
              rintro e w3 ⟨rfl, f3⟩
              have F3 := Lib.hid f3
              clear f3
              go_wp2_with fail
              go_ret
              exact ⟨rfl, (FW.out.trans0 F7.out.2).trans0 F3.out⟩
            | true =>
              have RD := Lib.hid (F7.out.1 rfl)
              go_wp2_with fail
              refine (dto _ _ (chDs tA tB tC tKV us) (SD.out.fr F7.out.2) (by have := hlen.out; have := HUL.out; omega) (fun d hd => by have := (RD.out.1 d hd).prs; omega)).mono ?_
              rintro e w8 ⟨ao8, cap8, rfl, hd8, f8⟩
              have F8 := Lib.hid (And.intro hd8 f8)
              clear hd8 f8
              go_wp2_with fail
              refine (run1 w8 dir false false false false ao8 _ cap8 (chDs tA tB tC tKV us) F8.out.1 B eb (E0.out.fr ((FW.out.trans0 F7.out.2).trans0 F8.out.2) (fun _ q => q.elim)) (by have := hlen.out; have := HUL.out; omega) (fun d hd => ⟨ch_fine tA tB tC tKV us (by decide) (by decide) dir d hd, by have := (RD.out.1 d hd).prs; omega⟩)).mono ?_
              rintro e w9 ⟨v, rfl, ht, f9⟩
              obtain ⟨m, hm⟩ : ∃ m, m = 5 + us.length := ⟨_, rfl⟩
              obtain ⟨ob, cap, pxa, pxc, kxa, kxc, lxa, lxc, pya, pyc, kya, kyc, lya, lyc, rfl, T⟩ := ch_told ht hm
              obtain ⟨j, hj⟩ : ∃ j, ws.length = j + 1 := ⟨ws.length - 1, by omega⟩
              have hgw := List.getElem?_eq_getElem (show j < ws.length by omega)
              have hlw := last_us hj hgw US.out HU.out.1
              generalize ws[j] = xl at hgw hlw
              have FX := Lib.hid (((FW.out.trans0 F7.out.2).trans0 F8.out.2).trans0 f9)
              obtain ⟨aw, cw, ew, hrw⟩ := H1.out.fr FX.out
              cases ew
              obtain ⟨obw, offw, rfl, hobw, cw0⟩ := hrw j _ hgw
              have AE : al = us.flatMap (·.2) := by have := A.out.2.all; rwa [List.take_of_length_le (by have := HUL.out; omega)] at this
              have AS := Lib.hid (show al.length ≤ 1000 from by
                have z := flat_le 4 us fun u hu => (RD.out.1 _ (ch_up_mem hu)).prs
                rw [← AE] at z
                have := HUL.out
                omega)
              rw [← AE, hlw] at T
              have PX := Lib.hid (show PrAt w9 _ _ from T.2.2.2.1.at_)
              have PA := Lib.hid (((PrAt.of_reads (own_slice R8.out)).fr (F7.out.2.trans0 F8.out.2)).fr f9)
              have EW := Lib.hid (E0.out.fr FX.out (fun _ q => q.elim))
              have TT := Lib.hid T
              have HM := Lib.hid hm
              have hj0 : (0 : Int) ≤ (j : Int) := by omega
              have hj1 : (j : Int) < (ws.length : Int) := by omega
              have hj2 : IntKind.i64.wrap ((ws.length : Int) - 1) = (j : Int) := w64k (by omega) (by omega) (by omega)
              have hj3 : IntKind.i64.wrap xl = wrap64 xl := IntWalk.i64_left xl
              clear ht T hm hrw hgw hlw AE f9 hj
              have e12 : (chDs tA tB tC tKV us).length = m + 2 := by rw [hlen.out, HM.out]
              have e13 : 5 + ws.length + 2 = m + 2 := by rw [HM.out, HUL.out]
              rw [e13]
              try rw [e12]
              clear e12 e13
              go_wp2_with fail
              obtain ⟨hob, ⟨x0, x1, x2, x3, x4, x5, x6, x7, x8, x9⟩, ⟨y0, y1, y2, y3, y4, y5, y6, y7, y8, y9⟩, -⟩ := TT.out
              have hmb : (m : Int) ≤ 1000 := by have := HM.out; have := HUL.out; omega
              have hm0 : (0 : Int) ≤ (m : Int) := by omega
              have hm1 : (m : Int) < (m : Int) + 2 := by omega
              have hm2 : (m : Int) + 1 < (m : Int) + 2 := by omega
              have hm3 : (0 : Int) ≤ ((m + 1 : Nat) : Int) := by omega
              have hm4 : ((m + 1 : Nat) : Int) < ((m + 2 : Nat) : Int) := by omega
              have hm5 : (m : Int) < ((m + 2 : Nat) : Int) := by omega
              have hw1 : IntKind.i64.wrap ((m : Int) + 2 - 2) = (m : Int) := w64k (by omega) (by omega) (by omega)
              have hw2 : IntKind.i64.wrap (m : Int) = (m : Int) := w64k (by omega) (by omega) (by omega)
              have hw3 : IntKind.i64.wrap ((m : Int) + 2 - 1) = ((m + 1 : Nat) : Int) := w64k (by omega) (by omega) (by omega)
              have hw4 : IntKind.i64.wrap ((m : Int) + 1) = ((m + 1 : Nat) : Int) := w64k (by omega) (by omega) (by omega)
              have hm6 : ¬ ((m : Int) + 1 < 0) := by omega
              have hm7 : ¬ ((m : Int) + 2 ≤ (m : Int) + 1) := by omega
              have hm8 : (0 : Int) ≤ (m : Int) + 1 := by omega
              have n0 := World.new_ne w9 _ x0
              have n1 := World.new_ne w9 _ y0
              go_region_held3 (fun w' => w'.cell? ⟨ob, m * 10, none⟩ = some (.int .u8 0) ∧ w'.cell? ⟨ob, m * 10 + 1, none⟩ = some (.string ⟨#[]⟩) ∧ w'.cell? ⟨ob, m * 10 + 2, none⟩ = some (.string tA) ∧ w'.cell? ⟨ob, m * 10 + 3, none⟩ = some (.string tB) ∧ w'.cell? ⟨ob, m * 10 + 4, none⟩ = some (.int .i64 (wrap64 xl)) ∧ w'.cell? ⟨ob, m * 10 + 5, none⟩ = some (.int .i64 0) ∧ w'.cell? ⟨ob, m * 10 + 6, none⟩ = some (.int .i64 0) ∧ w'.cell? ⟨ob, m * 10 + 7, none⟩ = some (.slice pxa (byK al).length pxc) ∧ w'.cell? ⟨ob, m * 10 + 8, none⟩ = some (.slice kxa 0 kxc) ∧ w'.cell? ⟨ob, m * 10 + 9, none⟩ = some (.slice lxa 0 lxc) ∧ w'.cell? ⟨ob, (m + 1) * 10, none⟩ = some (.int .u8 0) ∧ w'.cell? ⟨ob, (m + 1) * 10 + 1, none⟩ = some (.string ⟨#[]⟩) ∧ w'.cell? ⟨ob, (m + 1) * 10 + 2, none⟩ = some (.string tB) ∧ w'.cell? ⟨ob, (m + 1) * 10 + 3, none⟩ = some (.string tC) ∧ w'.cell? ⟨ob, (m + 1) * 10 + 4, none⟩ = some (.int .i64 2) ∧ w'.cell? ⟨ob, (m + 1) * 10 + 5, none⟩ = some (.int .i64 0) ∧ w'.cell? ⟨ob, (m + 1) * 10 + 6, none⟩ = some (.int .i64 0) ∧ w'.cell? ⟨ob, (m + 1) * 10 + 7, none⟩ = some (.slice pya 1 pyc) ∧ w'.cell? ⟨ob, (m + 1) * 10 + 8, none⟩ = some (.slice kya 0 kyc) ∧ w'.cell? ⟨ob, (m + 1) * 10 + 9, none⟩ = some (.slice lya 0 lyc)) (go_keep) (fail)
              · have W2 : Cells ((w9.alloc (.cells (blkX (wrap64 xl) (byK al).length pxa pxc kxa kxc lxa lxc) 44)).alloc (.cells (blkY pya pyc kya kyc lya lyc) 44)) (w9.heap.size) (blkX (wrap64 xl) (byK al).length pxa pxc kxa kxc lxa lxc) 44 ∧ Cells ((w9.alloc (.cells (blkX (wrap64 xl) (byK al).length pxa pxc kxa kxc lxa lxc) 44)).alloc (.cells (blkY pya pyc kya kyc lya lyc) 44)) (w9.heap.size + 1) (blkY pya pyc kya kyc lya lyc) 44 ∧ Fr0 w9 ((w9.alloc (.cells (blkX (wrap64 xl) (byK al).length pxa pxc kxa kxc lxa lxc) 44)).alloc (.cells (blkY pya pyc kya kyc lya lyc) 44)) ∧ ((w9.alloc (.cells (blkX (wrap64 xl) (byK al).length pxa pxc kxa kxc lxa lxc) 44)).alloc (.cells (blkY pya pyc kya kyc lya lyc) 44)).cell? ⟨obw, offw + j, none⟩ = some (.int .i16 xl) := by
                  have z1 : (w9.alloc (.cells (blkX (wrap64 xl) (byK al).length pxa pxc kxa kxc lxa lxc) 44)).heap.size = w9.heap.size + 1 := by simp
                  have y1 := Cells.new (w9.alloc (.cells (blkX (wrap64 xl) (byK al).length pxa pxc kxa kxc lxa lxc) 44)) (blkY pya pyc kya kyc lya lyc) 44
                  rw [z1] at y1
                  exact ⟨(Cells.new w9 _ _).alloc _, y1, by (repeat' (first | (with_reducible exact Fr.refl _ _) | (with_reducible assumption) | (with_reducible refine Fr.drew ?_) | (with_reducible refine Fr.drewN ?_ _) | (with_reducible refine Fr.alloc ?_ _) | ((with_reducible refine Fr.setM ?_ (.inl ?_) _ _); rotate_left; focus (simp; done)) | ((with_reducible refine Fr.setCell ?_ (.inr ?_) _); rotate_left; focus (simp; done)) | ((with_reducible refine Fr.setCell ?_ (.inr ?_) _); rotate_left; focus (simp; omega)))), (Fr.cell (w := w9) (by (repeat' (first | (with_reducible exact Fr.refl _ _) | (with_reducible assumption) | (with_reducible refine Fr.drew ?_) | (with_reducible refine Fr.drewN ?_ _) | (with_reducible refine Fr.alloc ?_ _) | ((with_reducible refine Fr.setM ?_ (.inl ?_) _ _); rotate_left; focus (simp; done)) | ((with_reducible refine Fr.setCell ?_ (.inr ?_) _); rotate_left; focus (simp; done)) | ((with_reducible refine Fr.setCell ?_ (.inr ?_) _); rotate_left; focus (simp; omega)))) : Fr0 w9 _) (p := ⟨obw, offw + j, none⟩) hobw (fun q => q)).trans cw0⟩
                clear hobw
                generalize (w9.alloc (.cells (blkX (wrap64 xl) (byK al).length pxa pxc kxa kxc lxa lxc) 44)).alloc (.cells (blkY pya pyc kya kyc lya lyc) 44) = W at *
                generalize w9.heap.size + 1 = by' at *
                generalize w9.heap.size = bx at *
                have C := Lib.hid W2
                clear W2
                have PXW := Lib.hid (PX.out.fr C.out.2.2.1)
                have PAW := Lib.hid (PA.out.fr C.out.2.2.1)
                have EWW := Lib.hid (EW.out.fr C.out.2.2.1 (fun _ q => q.elim))
                have C0' := Lib.hid (And.intro C.out.1 (And.intro C.out.2.1 C.out.2.2.2))
                have c0 := C.out.1.cell 0 _ rfl
                have c4 := C.out.1.cell 4 _ rfl
                have c7 := C.out.1.cell 7 _ rfl
                have d4 := C.out.2.1.cell 4 _ rfl
                have d7 := C.out.2.1.cell 7 _ rfl
                have cw1 := C.out.2.2.2
                have LO := Lib.hid (cell_lt C.out.2.2.2)
                have FWW := Lib.hid (FX.out.trans0 C.out.2.2.1)
                clear cw0 x0 x1 x2 x3 x4 x5 x6 x7 x8 x9 y0 y1 y2 y3 y4 y5 y6 y7 y8 y9 n0 n1
                go_wp2_with fail
                go_region_held3 (fun w' => w'.cell? ⟨bx, 0, none⟩ = some (.int .u8 0) ∧ w'.cell? ⟨bx, 4, none⟩ = some (.int .i64 (wrap64 xl)) ∧ w'.cell? ⟨bx, 7, none⟩ = some (.slice pxa (byK al).length pxc) ∧ w'.cell? ⟨by', 4, none⟩ = some (.int .i64 2) ∧ w'.cell? ⟨by', 7, none⟩ = some (.slice pya 1 pyc) ∧ w'.cell? ⟨obw, offw + j, none⟩ = some (.int .i16 xl)) (go_keep)
                  (first
                    | (go_at_call 22
                       refine (pof _ _ (byK al) (PXW.out.fr (by (repeat' (first | (with_reducible exact Fr.refl _ _) | (with_reducible assumption) | (with_reducible refine Fr.drew ?_) | (with_reducible refine Fr.drewN ?_ _) | (with_reducible refine Fr.alloc ?_ _) | ((with_reducible refine Fr.setM ?_ (.inl ?_) _ _); rotate_left; focus (simp; done)) | ((with_reducible refine Fr.setCell ?_ (.inr ?_) _); rotate_left; focus (simp; done)) | ((with_reducible refine Fr.setCell ?_ (.inr ?_) _); rotate_left; focus (simp; omega)))))) (by have := byK_le al; have := AS.out; omega)).mono ?_
                       rintro e w22 ⟨ao22, cap22, rfl, h22, f22⟩
                       have g22 : Fr0 W w22 := Fr.trans0 (by (repeat' (first | (with_reducible exact Fr.refl _ _) | (with_reducible assumption) | (with_reducible refine Fr.drew ?_) | (with_reducible refine Fr.drewN ?_ _) | (with_reducible refine Fr.alloc ?_ _) | ((with_reducible refine Fr.setM ?_ (.inl ?_) _ _); rotate_left; focus (simp; done)) | ((with_reducible refine Fr.setCell ?_ (.inr ?_) _); rotate_left; focus (simp; done)) | ((with_reducible refine Fr.setCell ?_ (.inr ?_) _); rotate_left; focus (simp; omega))))) f22
                       have P22 := Lib.hid (PairsIn.at_ h22)
                       try (have P23' := Lib.hid (PrAt.fr P23.out f22))
                       clear h22 f22
                       have c0 := (C0'.out.1.fr g22 (fun q => q)).cell 0 _ rfl
                       have c4 := (C0'.out.1.fr g22 (fun q => q)).cell 4 _ rfl
                       have c7 := (C0'.out.1.fr g22 (fun q => q)).cell 7 _ rfl
                       have d4 := (C0'.out.2.1.fr g22 (fun q => q)).cell 4 _ rfl
                       have d7 := (C0'.out.2.1.fr g22 (fun q => q)).cell 7 _ rfl
                       have cw1 := (g22.cell (p := ⟨obw, offw + j, none⟩) LO.out (fun q => q)).trans C0'.out.2.2)
                    | (go_at_call 23
                       refine (bykeys _ _ al (PAW.out.fr (by (repeat' (first | (with_reducible exact Fr.refl _ _) | (with_reducible assumption) | (with_reducible refine Fr.drew ?_) | (with_reducible refine Fr.drewN ?_ _) | (with_reducible refine Fr.alloc ?_ _) | ((with_reducible refine Fr.setM ?_ (.inl ?_) _ _); rotate_left; focus (simp; done)) | ((with_reducible refine Fr.setCell ?_ (.inr ?_) _); rotate_left; focus (simp; done)) | ((with_reducible refine Fr.setCell ?_ (.inr ?_) _); rotate_left; focus (simp; omega)))))) (by have := AS.out; omega)).mono ?_
                       rintro e w23 ⟨ao23, cap23, rfl, h23, f23⟩
                       have g23 : Fr0 W w23 := Fr.trans0 (by (repeat' (first | (with_reducible exact Fr.refl _ _) | (with_reducible assumption) | (with_reducible refine Fr.drew ?_) | (with_reducible refine Fr.drewN ?_ _) | (with_reducible refine Fr.alloc ?_ _) | ((with_reducible refine Fr.setM ?_ (.inl ?_) _ _); rotate_left; focus (simp; done)) | ((with_reducible refine Fr.setCell ?_ (.inr ?_) _); rotate_left; focus (simp; done)) | ((with_reducible refine Fr.setCell ?_ (.inr ?_) _); rotate_left; focus (simp; omega))))) f23
                       have P23 := Lib.hid (PairsIn.at_ h23)
                       try (have P22' := Lib.hid (PrAt.fr P22.out f23))
                       clear h23 f23
                       have c0 := (C0'.out.1.fr g23 (fun q => q)).cell 0 _ rfl
                       have c4 := (C0'.out.1.fr g23 (fun q => q)).cell 4 _ rfl
                       have c7 := (C0'.out.1.fr g23 (fun q => q)).cell 7 _ rfl
                       have d4 := (C0'.out.2.1.fr g23 (fun q => q)).cell 4 _ rfl
                       have d7 := (C0'.out.2.1.fr g23 (fun q => q)).cell 7 _ rfl
                       have cw1 := (g23.cell (p := ⟨obw, offw + j, none⟩) LO.out (fun q => q)).trans C0'.out.2.2)
                    | (go_at_call 21
                       refine (samep _ _ _ (byK al) (byK al) (by first | exact P22'.out | exact P22.out) (by first | exact P23'.out | exact P23.out) (by have := byK_le al; have := AS.out; omega)).mono ?_
                       rintro e w21 ⟨r21, rfl, hr21, f21⟩
                       obtain rfl : r21 = true := hr21.2 rfl
                       have g21 : Fr0 W w21 := Fr.trans0 (by (repeat' (first | (with_reducible exact Fr.refl _ _) | (with_reducible assumption) | (with_reducible refine Fr.drew ?_) | (with_reducible refine Fr.drewN ?_ _) | (with_reducible refine Fr.alloc ?_ _) | ((with_reducible refine Fr.setM ?_ (.inl ?_) _ _); rotate_left; focus (simp; done)) | ((with_reducible refine Fr.setCell ?_ (.inr ?_) _); rotate_left; focus (simp; done)) | ((with_reducible refine Fr.setCell ?_ (.inr ?_) _); rotate_left; focus (simp; omega))))) f21
                       clear hr21 f21
                       have c0 := (C0'.out.1.fr g21 (fun q => q)).cell 0 _ rfl
                       have c4 := (C0'.out.1.fr g21 (fun q => q)).cell 4 _ rfl
                       have c7 := (C0'.out.1.fr g21 (fun q => q)).cell 7 _ rfl
                       have d4 := (C0'.out.2.1.fr g21 (fun q => q)).cell 4 _ rfl
                       have d7 := (C0'.out.2.1.fr g21 (fun q => q)).cell 7 _ rfl
                       have cw1 := (g21.cell (p := ⟨obw, offw + j, none⟩) LO.out (fun q => q)).trans C0'.out.2.2)
                    | (go_at_call 17
                       refine (aw17 _ B eb (EWW.out.fr (show Fr0 W _ from by (repeat' (first | (with_reducible exact Fr.refl _ _) | (with_reducible assumption) | (with_reducible refine Fr.drew ?_) | (with_reducible refine Fr.drewN ?_ _) | (with_reducible refine Fr.alloc ?_ _) | ((with_reducible refine Fr.setM ?_ (.inl ?_) _ _); rotate_left; focus (simp; done)) | ((with_reducible refine Fr.setCell ?_ (.inr ?_) _); rotate_left; focus (simp; done)) | ((with_reducible refine Fr.setCell ?_ (.inr ?_) _); rotate_left; focus (simp; omega))))) (fun _ q => q.elim))).mono ?_
                       rintro e w17 ⟨rfl, f17⟩
                       have g17 : Fr0 W w17 := Fr.trans0 (by (repeat' (first | (with_reducible exact Fr.refl _ _) | (with_reducible assumption) | (with_reducible refine Fr.drew ?_) | (with_reducible refine Fr.drewN ?_ _) | (with_reducible refine Fr.alloc ?_ _) | ((with_reducible refine Fr.setM ?_ (.inl ?_) _ _); rotate_left; focus (simp; done)) | ((with_reducible refine Fr.setCell ?_ (.inr ?_) _); rotate_left; focus (simp; done)) | ((with_reducible refine Fr.setCell ?_ (.inr ?_) _); rotate_left; focus (simp; omega))))) f17
                       clear f17
                       have c0 := (C0'.out.1.fr g17 (fun q => q)).cell 0 _ rfl
                       have c4 := (C0'.out.1.fr g17 (fun q => q)).cell 4 _ rfl
                       have c7 := (C0'.out.1.fr g17 (fun q => q)).cell 7 _ rfl
                       have d4 := (C0'.out.2.1.fr g17 (fun q => q)).cell 4 _ rfl
                       have d7 := (C0'.out.2.1.fr g17 (fun q => q)).cell 7 _ rfl
                       have cw1 := (g17.cell (p := ⟨obw, offw + j, none⟩) LO.out (fun q => q)).trans C0'.out.2.2))
                all_goals go_wp2_with fail
                all_goals go_ret
                all_goals exact ⟨rfl, FWW.out.trans0 (by (repeat' (first | (with_reducible exact Fr.refl _ _) | (with_reducible assumption) | (with_reducible refine Fr.drew ?_) | (with_reducible refine Fr.drewN ?_ _) | (with_reducible refine Fr.alloc ?_ _) | ((with_reducible refine Fr.setM ?_ (.inl ?_) _ _); rotate_left; focus (simp; done)) | ((with_reducible refine Fr.setCell ?_ (.inr ?_) _); rotate_left; focus (simp; done)) | ((with_reducible refine Fr.setCell ?_ (.inr ?_) _); rotate_left; focus (simp; omega)))))⟩
              · have W2 : Cells ((w9.alloc (.cells (blkY pya pyc kya kyc lya lyc) 44)).alloc (.cells (blkX (wrap64 xl) (byK al).length pxa pxc kxa kxc lxa lxc) 44)) (w9.heap.size + 1) (blkX (wrap64 xl) (byK al).length pxa pxc kxa kxc lxa lxc) 44 ∧ Cells ((w9.alloc (.cells (blkY pya pyc kya kyc lya lyc) 44)).alloc (.cells (blkX (wrap64 xl) (byK al).length pxa pxc kxa kxc lxa lxc) 44)) (w9.heap.size) (blkY pya pyc kya kyc lya lyc) 44 ∧ Fr0 w9 ((w9.alloc (.cells (blkY pya pyc kya kyc lya lyc) 44)).alloc (.cells (blkX (wrap64 xl) (byK al).length pxa pxc kxa kxc lxa lxc) 44)) ∧ ((w9.alloc (.cells (blkY pya pyc kya kyc lya lyc) 44)).alloc (.cells (blkX (wrap64 xl) (byK al).length pxa pxc kxa kxc lxa lxc) 44)).cell? ⟨obw, offw + j, none⟩ = some (.int .i16 xl) := by
                  have z1 : (w9.alloc (.cells (blkY pya pyc kya kyc lya lyc) 44)).heap.size = w9.heap.size + 1 := by simp
                  have y1 := Cells.new (w9.alloc (.cells (blkY pya pyc kya kyc lya lyc) 44)) (blkX (wrap64 xl) (byK al).length pxa pxc kxa kxc lxa lxc) 44
                  rw [z1] at y1
                  exact ⟨y1, (Cells.new w9 _ _).alloc _, by (repeat' (first | (with_reducible exact Fr.refl _ _) | (with_reducible assumption) | (with_reducible refine Fr.drew ?_) | (with_reducible refine Fr.drewN ?_ _) | (with_reducible refine Fr.alloc ?_ _) | ((with_reducible refine Fr.setM ?_ (.inl ?_) _ _); rotate_left; focus (simp; done)) | ((with_reducible refine Fr.setCell ?_ (.inr ?_) _); rotate_left; focus (simp; done)) | ((with_reducible refine Fr.setCell ?_ (.inr ?_) _); rotate_left; focus (simp; omega)))), (Fr.cell (w := w9) (by (repeat' (first | (with_reducible exact Fr.refl _ _) | (with_reducible assumption) | (with_reducible refine Fr.drew ?_) | (with_reducible refine Fr.drewN ?_ _) | (with_reducible refine Fr.alloc ?_ _) | ((with_reducible refine Fr.setM ?_ (.inl ?_) _ _); rotate_left; focus (simp; done)) | ((with_reducible refine Fr.setCell ?_ (.inr ?_) _); rotate_left; focus (simp; done)) | ((with_reducible refine Fr.setCell ?_ (.inr ?_) _); rotate_left; focus (simp; omega)))) : Fr0 w9 _) (p := ⟨obw, offw + j, none⟩) hobw (fun q => q)).trans cw0⟩
                clear hobw
                generalize (w9.alloc (.cells (blkY pya pyc kya kyc lya lyc) 44)).alloc (.cells (blkX (wrap64 xl) (byK al).length pxa pxc kxa kxc lxa lxc) 44) = W at *
                generalize w9.heap.size + 1 = bx at *
                generalize w9.heap.size = by' at *
                have C := Lib.hid W2
                clear W2
                have PXW := Lib.hid (PX.out.fr C.out.2.2.1)
                have PAW := Lib.hid (PA.out.fr C.out.2.2.1)
                have EWW := Lib.hid (EW.out.fr C.out.2.2.1 (fun _ q => q.elim))
                have C0' := Lib.hid (And.intro C.out.1 (And.intro C.out.2.1 C.out.2.2.2))
                have c0 := C.out.1.cell 0 _ rfl
                have c4 := C.out.1.cell 4 _ rfl
                have c7 := C.out.1.cell 7 _ rfl
                have d4 := C.out.2.1.cell 4 _ rfl
                have d7 := C.out.2.1.cell 7 _ rfl
                have cw1 := C.out.2.2.2
                have LO := Lib.hid (cell_lt C.out.2.2.2)
                have FWW := Lib.hid (FX.out.trans0 C.out.2.2.1)
                clear cw0 x0 x1 x2 x3 x4 x5 x6 x7 x8 x9 y0 y1 y2 y3 y4 y5 y6 y7 y8 y9 n0 n1
                go_wp2_with fail
                go_region_held3 (fun w' => w'.cell? ⟨bx, 0, none⟩ = some (.int .u8 0) ∧ w'.cell? ⟨bx, 4, none⟩ = some (.int .i64 (wrap64 xl)) ∧ w'.cell? ⟨bx, 7, none⟩ = some (.slice pxa (byK al).length pxc) ∧ w'.cell? ⟨by', 4, none⟩ = some (.int .i64 2) ∧ w'.cell? ⟨by', 7, none⟩ = some (.slice pya 1 pyc) ∧ w'.cell? ⟨obw, offw + j, none⟩ = some (.int .i16 xl)) (go_keep)
                  (first
                    | (go_at_call 22
                       refine (pof _ _ (byK al) (PXW.out.fr (by (repeat' (first | (with_reducible exact Fr.refl _ _) | (with_reducible assumption) | (with_reducible refine Fr.drew ?_) | (with_reducible refine Fr.drewN ?_ _) | (with_reducible refine Fr.alloc ?_ _) | ((with_reducible refine Fr.setM ?_ (.inl ?_) _ _); rotate_left; focus (simp; done)) | ((with_reducible refine Fr.setCell ?_ (.inr ?_) _); rotate_left; focus (simp; done)) | ((with_reducible refine Fr.setCell ?_ (.inr ?_) _); rotate_left; focus (simp; omega)))))) (by have := byK_le al; have := AS.out; omega)).mono ?_
                       rintro e w22 ⟨ao22, cap22, rfl, h22, f22⟩
                       have g22 : Fr0 W w22 := Fr.trans0 (by (repeat' (first | (with_reducible exact Fr.refl _ _) | (with_reducible assumption) | (with_reducible refine Fr.drew ?_) | (with_reducible refine Fr.drewN ?_ _) | (with_reducible refine Fr.alloc ?_ _) | ((with_reducible refine Fr.setM ?_ (.inl ?_) _ _); rotate_left; focus (simp; done)) | ((with_reducible refine Fr.setCell ?_ (.inr ?_) _); rotate_left; focus (simp; done)) | ((with_reducible refine Fr.setCell ?_ (.inr ?_) _); rotate_left; focus (simp; omega))))) f22
                       have P22 := Lib.hid (PairsIn.at_ h22)
                       try (have P23' := Lib.hid (PrAt.fr P23.out f22))
                       clear h22 f22
                       have c0 := (C0'.out.1.fr g22 (fun q => q)).cell 0 _ rfl
                       have c4 := (C0'.out.1.fr g22 (fun q => q)).cell 4 _ rfl
                       have c7 := (C0'.out.1.fr g22 (fun q => q)).cell 7 _ rfl
                       have d4 := (C0'.out.2.1.fr g22 (fun q => q)).cell 4 _ rfl
                       have d7 := (C0'.out.2.1.fr g22 (fun q => q)).cell 7 _ rfl
                       have cw1 := (g22.cell (p := ⟨obw, offw + j, none⟩) LO.out (fun q => q)).trans C0'.out.2.2)
                    | (go_at_call 23
                       refine (bykeys _ _ al (PAW.out.fr (by (repeat' (first | (with_reducible exact Fr.refl _ _) | (with_reducible assumption) | (with_reducible refine Fr.drew ?_) | (with_reducible refine Fr.drewN ?_ _) | (with_reducible refine Fr.alloc ?_ _) | ((with_reducible refine Fr.setM ?_ (.inl ?_) _ _); rotate_left; focus (simp; done)) | ((with_reducible refine Fr.setCell ?_ (.inr ?_) _); rotate_left; focus (simp; done)) | ((with_reducible refine Fr.setCell ?_ (.inr ?_) _); rotate_left; focus (simp; omega)))))) (by have := AS.out; omega)).mono ?_
                       rintro e w23 ⟨ao23, cap23, rfl, h23, f23⟩
                       have g23 : Fr0 W w23 := Fr.trans0 (by (repeat' (first | (with_reducible exact Fr.refl _ _) | (with_reducible assumption) | (with_reducible refine Fr.drew ?_) | (with_reducible refine Fr.drewN ?_ _) | (with_reducible refine Fr.alloc ?_ _) | ((with_reducible refine Fr.setM ?_ (.inl ?_) _ _); rotate_left; focus (simp; done)) | ((with_reducible refine Fr.setCell ?_ (.inr ?_) _); rotate_left; focus (simp; done)) | ((with_reducible refine Fr.setCell ?_ (.inr ?_) _); rotate_left; focus (simp; omega))))) f23
                       have P23 := Lib.hid (PairsIn.at_ h23)
                       try (have P22' := Lib.hid (PrAt.fr P22.out f23))
                       clear h23 f23
                       have c0 := (C0'.out.1.fr g23 (fun q => q)).cell 0 _ rfl
                       have c4 := (C0'.out.1.fr g23 (fun q => q)).cell 4 _ rfl
                       have c7 := (C0'.out.1.fr g23 (fun q => q)).cell 7 _ rfl
                       have d4 := (C0'.out.2.1.fr g23 (fun q => q)).cell 4 _ rfl
                       have d7 := (C0'.out.2.1.fr g23 (fun q => q)).cell 7 _ rfl
                       have cw1 := (g23.cell (p := ⟨obw, offw + j, none⟩) LO.out (fun q => q)).trans C0'.out.2.2)
                    | (go_at_call 21
                       refine (samep _ _ _ (byK al) (byK al) (by first | exact P22'.out | exact P22.out) (by first | exact P23'.out | exact P23.out) (by have := byK_le al; have := AS.out; omega)).mono ?_
                       rintro e w21 ⟨r21, rfl, hr21, f21⟩
                       obtain rfl : r21 = true := hr21.2 rfl
                       have g21 : Fr0 W w21 := Fr.trans0 (by (repeat' (first | (with_reducible exact Fr.refl _ _) | (with_reducible assumption) | (with_reducible refine Fr.drew ?_) | (with_reducible refine Fr.drewN ?_ _) | (with_reducible refine Fr.alloc ?_ _) | ((with_reducible refine Fr.setM ?_ (.inl ?_) _ _); rotate_left; focus (simp; done)) | ((with_reducible refine Fr.setCell ?_ (.inr ?_) _); rotate_left; focus (simp; done)) | ((with_reducible refine Fr.setCell ?_ (.inr ?_) _); rotate_left; focus (simp; omega))))) f21
                       clear hr21 f21
                       have c0 := (C0'.out.1.fr g21 (fun q => q)).cell 0 _ rfl
                       have c4 := (C0'.out.1.fr g21 (fun q => q)).cell 4 _ rfl
                       have c7 := (C0'.out.1.fr g21 (fun q => q)).cell 7 _ rfl
                       have d4 := (C0'.out.2.1.fr g21 (fun q => q)).cell 4 _ rfl
                       have d7 := (C0'.out.2.1.fr g21 (fun q => q)).cell 7 _ rfl
                       have cw1 := (g21.cell (p := ⟨obw, offw + j, none⟩) LO.out (fun q => q)).trans C0'.out.2.2)
                    | (go_at_call 17
                       refine (aw17 _ B eb (EWW.out.fr (show Fr0 W _ from by (repeat' (first | (with_reducible exact Fr.refl _ _) | (with_reducible assumption) | (with_reducible refine Fr.drew ?_) | (with_reducible refine Fr.drewN ?_ _) | (with_reducible refine Fr.alloc ?_ _) | ((with_reducible refine Fr.setM ?_ (.inl ?_) _ _); rotate_left; focus (simp; done)) | ((with_reducible refine Fr.setCell ?_ (.inr ?_) _); rotate_left; focus (simp; done)) | ((with_reducible refine Fr.setCell ?_ (.inr ?_) _); rotate_left; focus (simp; omega))))) (fun _ q => q.elim))).mono ?_
                       rintro e w17 ⟨rfl, f17⟩
                       have g17 : Fr0 W w17 := Fr.trans0 (by (repeat' (first | (with_reducible exact Fr.refl _ _) | (with_reducible assumption) | (with_reducible refine Fr.drew ?_) | (with_reducible refine Fr.drewN ?_ _) | (with_reducible refine Fr.alloc ?_ _) | ((with_reducible refine Fr.setM ?_ (.inl ?_) _ _); rotate_left; focus (simp; done)) | ((with_reducible refine Fr.setCell ?_ (.inr ?_) _); rotate_left; focus (simp; done)) | ((with_reducible refine Fr.setCell ?_ (.inr ?_) _); rotate_left; focus (simp; omega))))) f17
                       clear f17
                       have c0 := (C0'.out.1.fr g17 (fun q => q)).cell 0 _ rfl
                       have c4 := (C0'.out.1.fr g17 (fun q => q)).cell 4 _ rfl
                       have c7 := (C0'.out.1.fr g17 (fun q => q)).cell 7 _ rfl
                       have d4 := (C0'.out.2.1.fr g17 (fun q => q)).cell 4 _ rfl
                       have d7 := (C0'.out.2.1.fr g17 (fun q => q)).cell 7 _ rfl
                       have cw1 := (g17.cell (p := ⟨obw, offw + j, none⟩) LO.out (fun q => q)).trans C0'.out.2.2))
                all_goals go_wp2_with fail
                all_goals go_ret
                all_goals exact ⟨rfl, FWW.out.trans0 (by (repeat' (first | (with_reducible exact Fr.refl _ _) | (with_reducible assumption) | (with_reducible refine Fr.drew ?_) | (with_reducible refine Fr.drewN ?_ _) | (with_reducible refine Fr.alloc ?_ _) | ((with_reducible refine Fr.setM ?_ (.inl ?_) _ _); rotate_left; focus (simp; done)) | ((with_reducible refine Fr.setCell ?_ (.inr ?_) _); rotate_left; focus (simp; done)) | ((with_reducible refine Fr.setCell ?_ (.inr ?_) _); rotate_left; focus (simp; omega)))))⟩
end Go.Proofs.YtbafaadmlpamiaaGreatDoor
