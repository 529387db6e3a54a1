/- FnStoreBoth: the walk. -/
import Derived.Test.YtbafaadmlpamiaaGreatDoorF2
import Derived.Test.YtbafaadmlpamiaaGreatDoorE5
import Derived.BigRegion
namespace Go.Proofs.YtbafaadmlpamiaaGreatDoor
open Go Go.Hy Go.RowKit

theorem yields_cellsB {w : World} {b m c : Nat} {cs : Array Value} {t : TypeId} (h : w.heap[b]? = some (.cells cs t (0, 0))) : Yld w (.slice (some ⟨b, 0, none⟩) m c) m cs.toList := .inr ⟨_, _, rfl, World.news_of_block h⟩

theorem w64b {n k : Int} (h : n = k) (lo : 0 ≤ k) (hi : k ≤ 1000000) : IntKind.i64.wrap n = k := by
  subst h
  rw [IntKind.wrap_i64]
  omega

set_option maxRecDepth 100000 in
theorem w64q {i n : Nat} (h : n ≤ 2000) (hi : i < n) : wrap64 ((i : Int) + 1) = (i : Int) + 1 := by
  unfold wrap64
  omega

abbrev q4C : Array Value := #[.int .u8 9, .string ⟨#[]⟩, .string ⟨#[]⟩, .int .i64 0, .slice none 0 0, .int .u8 10, .string ⟨#[]⟩, .string ⟨#[]⟩, .int .i64 0, .slice none 0 0,
  .int .u8 8, .string ⟨#[]⟩, .string ⟨#[]⟩, .int .i64 0, .slice none 0 0, .int .u8 7, .string ⟨#[]⟩, .string ⟨#[]⟩, .int .i64 0, .slice none 0 0]

/-- a telling's cells -/
def C10 (w : World) (ob off : Nat) (t : Tl) (pv kv lv : Value) : Prop :=
  w.cell? ⟨ob, off, none⟩ = some (.int .u8 t.err) ∧ w.cell? ⟨ob, off + 1, none⟩ = some (.string t.value) ∧ w.cell? ⟨ob, off + 2, none⟩ = some (.string t.src) ∧ w.cell? ⟨ob, off + 3, none⟩ = some (.string t.dst) ∧
  w.cell? ⟨ob, off + 4, none⟩ = some (.int .i64 t.wt) ∧ w.cell? ⟨ob, off + 5, none⟩ = some (.int .i64 t.order) ∧ w.cell? ⟨ob, off + 6, none⟩ = some (.int .i64 t.size) ∧ w.cell? ⟨ob, off + 7, none⟩ = some pv ∧ w.cell? ⟨ob, off + 8, none⟩ = some kv ∧ w.cell? ⟨ob, off + 9, none⟩ = some lv

theorem C10.fr {w w' : World} {S : Nat → Prop} {ob off : Nat} {t : Tl} {pv kv lv : Value} (h : C10 w ob off t pv kv lv) (f : Fr S w w') (hob : ob < w.heap.size) (hn : ¬ S ob) : C10 w' ob off t pv kv lv := by
  unfold C10 at *
  have e : ∀ i, w'.cell? ⟨ob, i, none⟩ = w.cell? ⟨ob, i, none⟩ := fun i => f.cell (p := ⟨ob, i, none⟩) hob hn
  simp only [e]
  exact h

/-- nothing that was there is touched -/
def SB (w w' : World) : Prop := Fr (fun q => w.heap.size ≤ q) w w'

theorem OrdS.eight {P : Program} {ops : Array Oper} {Q : Exit → Act → World → Prop} {md : Region.Mode} {S : World → Prop} {m n : Nat} {l : Array Bool} {a : Act} {w : World} (is : List Nat) (hall : (Region.ready md ops l).all (fun i => is.contains i) = true) (hne : (Region.ready md ops l).isEmpty = false)
    (h : ∀ i ∈ is, (Region.ready md ops l).contains i = false ∨ ∀ K : Act → World → Prop, Shut (∀ a w, ((l.setIfInBounds i true).getD m true = false → S w) → OrdS P md ops Q S m n (l.setIfInBounds i true) a w → K a w) → ∃ o, ops[i]? = some o ∧ if Region.wanted o (yielded ops a.tmps) = true then Oper.wp P o a w K Q else K (a.put o.dst undef) w) : OrdS P md ops Q S m (n + 1) l a w := by
  refine ⟨fun e => absurd (e ▸ hne) (by simp), fun j hj => ?_⟩
  have hj2 : is.contains j = true := List.all_eq_true.1 hall j hj
  rcases h j (by simpa using hj2) with q | q
  · exact absurd hj (by simpa using q)
  · obtain ⟨o, ho, _⟩ := q (fun a w => ((l.setIfInBounds j true).getD m true = false → S w) ∧ OrdS P md ops Q S m n (l.setIfInBounds j true) a w) (show Shut (∀ a w, _ → _ → _) from fun a w hS hO => ⟨hS, hO⟩)
    refine wpOp_step ho fun K hK => ?_
    obtain ⟨o', ho', z⟩ := q K (show Shut (∀ a w, _ → _ → _) from fun a w hS hO => hK a w ⟨hS, hO⟩)
    rw [ho] at ho'
    cases ho'
    exact z

theorem isI {r : List Nat} (i : Nat) {q : Prop} (h : r.contains i = false ∨ q) : r.contains i = false ∨ q := h

theorem stepA {w7 w : World} {K : Act → World → Prop} {Pd : Prop} {X : Act → World → Prop} {a : Act} {cs : Array Value} (hK : Shut (∀ a w, (Pd → SB w7 w) → X a w → K a w)) (hH : Fr (fun q => w7.heap.size ≤ q) w7 w)
    (k : ∀ w', Cells w' w.heap.size cs 44 → Fr0 w w' → w.heap.size + 1 ≤ w'.heap.size → Fr (fun q => w7.heap.size ≤ q) w7 w' → X a w') : K a (w.alloc (.cells cs 44)) :=
  hK.out _ _ (fun _ => hH.alloc _) (k _ (Cells.new w cs 44) ((Fr.refl _ w).alloc _) (by simp) (hH.alloc _))

theorem cells_put {w : World} {b : Nat} {cs : Array Value} {t : TypeId} (h : Cells w b cs t) (i : Nat) (v : Value) : Cells (w.setCell ⟨b, i, none⟩ v) b (cs.setIfInBounds i v) t := by
  unfold Cells at *
  simp [World.setCell, h, Array.getElem?_modify]

abbrev put10 (w : World) (n : Nat) (v0 v1 v2 v3 v4 v5 v6 v7 v8 v9 : Value) : World :=
  (((((((((w.setCell ⟨n, 0, none⟩ v0).setCell ⟨n, 1, none⟩ v1).setCell ⟨n, 2, none⟩ v2).setCell ⟨n, 3, none⟩ v3).setCell ⟨n, 4, none⟩ v4).setCell ⟨n, 5, none⟩ v5).setCell ⟨n, 6, none⟩ v6).setCell ⟨n, 7, none⟩ v7).setCell ⟨n, 8, none⟩ v8).setCell ⟨n, 9, none⟩ v9

theorem put10_fr {S : Nat → Prop} {w0 w : World} {n : Nat} (h : Fr S w0 w) (hn : S n) (v0 v1 v2 v3 v4 v5 v6 v7 v8 v9 : Value) : Fr S w0 (put10 w n v0 v1 v2 v3 v4 v5 v6 v7 v8 v9) :=
  (((((((((h.setCell (.inl hn) v0).setCell (.inl hn) v1).setCell (.inl hn) v2).setCell (.inl hn) v3).setCell (.inl hn) v4).setCell (.inl hn) v5).setCell (.inl hn) v6).setCell (.inl hn) v7).setCell (.inl hn) v8).setCell (.inl hn) v9

theorem stepS {w7 w : World} {K : Act → World → Prop} {Pd : Prop} {X : Act → World → Prop} {a : Act} {n : Nat} {v0 v1 v2 v3 v4 v5 v6 v7 v8 v9 : Value} (hK : Shut (∀ a w, (Pd → SB w7 w) → X a w → K a w)) (hH : Fr (fun q => w7.heap.size ≤ q) w7 w)
    (h : Cells w n zT 44) (hn : w7.heap.size ≤ n)
    (k : ∀ w', Cells w' n #[v0, v1, v2, v3, v4, v5, v6, v7, v8, v9] 44 → Fr (fun q => q = n) w w' → w.heap.size ≤ w'.heap.size → Fr (fun q => w7.heap.size ≤ q) w7 w' → X a w') : K a (put10 w n v0 v1 v2 v3 v4 v5 v6 v7 v8 v9) := by
  have hf := put10_fr hH hn v0 v1 v2 v3 v4 v5 v6 v7 v8 v9
  refine hK.out _ _ (fun _ => hf) (k _ ?_ (put10_fr (Fr.refl (fun q => q = n) w) rfl _ _ _ _ _ _ _ _ _ _) (by simp [put10]) hf)
  have z := cells_put (cells_put (cells_put (cells_put (cells_put (cells_put (cells_put (cells_put (cells_put (cells_put h 0 v0) 1 v1) 2 v2) 3 v3) 4 v4) 5 v5) 6 v6) 7 v7) 8 v8) 9 v9
  simpa [zT] using z

/-- a telling in a box -/
abbrev TBq (w : World) (n : Nat) (t : Tl) (pv kv lv : Value) : Prop :=
  Cells w n #[.int .u8 t.err, .string t.value, .string t.src, .string t.dst, .int .i64 t.wt, .int .i64 t.order, .int .i64 t.size, pv, kv, lv] 44

set_option linter.unusedSimpArgs false in
set_option maxRecDepth 100000 in
set_option maxHeartbeats 16000000 in
theorem fp8 (w : World) (b0 b1 b2 b3 b4 b5 : Bool) (hk : Nat) (v : Value) (ds : List DoIn) (h : SDosAt w v ds) (B : Nat) (eb : Nat → Addr) (E : ErrsOk w B eb) :
    Calls Tryz.prog 8 #[kagg b0 b1 b2 b3 b4 b5 hk, v] w fun e w' => e = .returned (.bool true) ∧ Fr0 w w' := by
  have E0 := Lib.hid E
  have HD := Lib.hid h
  obtain ⟨av, cv, rfl, -⟩ := h
  clear E
  have KB := Lib.hid (Cells.new w #[.bool b0, .bool b1, .bool b2, .bool b3, .bool b4, .bool b5, .int .u8 hk] 52)
  have FB := Lib.hid ((Fr.refl (fun _ => False) w).alloc (.cells #[.bool b0, .bool b1, .bool b2, .bool b3, .bool b4, .bool b5, .int .u8 hk] 52))
  go_enter Tryz.func8, Tryz.ntmps8
  go_wp2_with fail
  generalize w.alloc (.cells #[.bool b0, .bool b1, .bool b2, .bool b3, .bool b4, .bool b5, .int .u8 hk] 52) = W at *
  refine (zz1 W _ ds (HD.out.fr FB.out)).mono ?_
  rintro e w1 ⟨r, rfl, hr, f1⟩
  have F1 := Lib.hid f1
  have HR1 := Lib.hid hr
  clear hr f1
  cases r with
  | false =>
    go_wp2_with fail
    go_ret
    exact ⟨rfl, FB.out.trans0 F1.out⟩
  | true =>
    have KB1 := Lib.hid (KB.out.fr F1.out (fun q => q))
    (have k0 := KB1.out.cell 0 _ rfl; have k1 := KB1.out.cell 1 _ rfl; have k2 := KB1.out.cell 2 _ rfl; have k3 := KB1.out.cell 3 _ rfl; have k4 := KB1.out.cell 4 _ rfl; have k5 := KB1.out.cell 5 _ rfl; have k6 := KB1.out.cell 6 _ rfl)
    go_wp2_with fail
    refine (kindr w1 b0 b1 b2 b3 b4 b5 hk).mono ?_
    rintro e w2 ⟨r2, rfl, hr2, f2⟩
    have F2 := Lib.hid (F1.out.trans0 f2)
    have HR2 := Lib.hid hr2
    have KB2 := Lib.hid (KB.out.fr F2.out (fun q => q))
    clear hr2 f2 k0 k1 k2 k3 k4 k5 k6
    (have k0 := KB2.out.cell 0 _ rfl; have k1 := KB2.out.cell 1 _ rfl; have k2 := KB2.out.cell 2 _ rfl; have k3 := KB2.out.cell 3 _ rfl; have k4 := KB2.out.cell 4 _ rfl; have k5 := KB2.out.cell 5 _ rfl; have k6 := KB2.out.cell 6 _ rfl)
    cases r2 with
    | false => (go_wp2_with fail; refine (aw17 w2 B eb (E0.out.fr (FB.out.trans0 F2.out) (fun _ q => q.elim))).mono ?_; rintro e w9 ⟨rfl, f9⟩; have F9 := Lib.hid f9; clear f9; go_wp2_with fail; go_ret; exact ⟨rfl, (FB.out.trans0 F2.out).trans0 F9.out⟩)
    | true =>
      have HL := HR1.out trivial
      go_wp2_with fail
      refine (dright w2 _ ds ((HD.out.fr FB.out).fr F2.out) HL.1 HL.2 b0 120).mono ?_
      rintro e w3 ⟨r3, rfl, hr3, f3⟩
      have F3 := Lib.hid (F2.out.trans0 f3)
      have HR3 := Lib.hid hr3
      have KB3 := Lib.hid (KB.out.fr F3.out (fun q => q))
      clear hr3 f3 k0 k1 k2 k3 k4 k5 k6
      cases r3 with
      | false =>
        (have k0 := KB3.out.cell 0 _ rfl; have k1 := KB3.out.cell 1 _ rfl; have k2 := KB3.out.cell 2 _ rfl; have k3 := KB3.out.cell 3 _ rfl; have k4 := KB3.out.cell 4 _ rfl; have k5 := KB3.out.cell 5 _ rfl; have k6 := KB3.out.cell 6 _ rfl)
        (go_wp2_with fail; refine (aw17 w3 B eb (E0.out.fr (FB.out.trans0 F3.out) (fun _ q => q.elim))).mono ?_; rintro e w9 ⟨rfl, f9⟩; have F9 := Lib.hid f9; clear f9; go_wp2_with fail; go_ret; exact ⟨rfl, (FB.out.trans0 F3.out).trans0 F9.out⟩)
      | true =>
        have RD := HR3.out (by first | rfl | trivial)
        have RK := HR2.out trivial
        have FX := Lib.hid (And.intro RD RK)
        have hn120 := RD.2
        clear RD RK HL
        go_wp2_with fail
        refine (dtoK w3 _ ds (HD.out.fr (FB.out.trans0 F3.out)) (by omega) (fun d hd => by have := (FX.out.1.1 d hd).prs; omega)).mono ?_
        rintro e w5 ⟨v5, dvs, rfl, hd5⟩
        have D5 := Lib.hid hd5
        obtain ⟨a5, cap5, rfl, -, -⟩ := own_slice hd5.row
        clear hd5
        have SZ := Lib.hid D5.out.fr.size
        go_wp2_with (first
          | (at_builtin; go_loud (refine wl_appG (w := w5.alloc (.cells q4C 50)) 38 rfl (.tmp 31) (.tmp 36) rfl 50 _ 5 72 Tryz.underlying38 info50 rfl (by decide) (by decide) w3.heap.size _ ds.length (encL encDo dvs) rfl (D5.out.row.alloc _) (.slice (some ⟨w5.heap.size, 0, none⟩) 4 4) 4 q4C.toList rfl (yields_cellsB (heap_alloc_new w5 _)) rfl (by simp [Value.oneCell']) (by omega) (by have := SZ.out; simp; omega) ?_)))
        intro v6 w6 ho6 f6 _
        obtain ⟨a6, cap6, rfl, hd6⟩ := DT.more D5.out (ms := q4) (m := ds.length + 4) rfl (fun d hd => by simp only [q4, List.mem_cons, List.not_mem_nil, or_false] at hd; rcases hd with rfl | rfl | rfl | rfl <;> rfl) ho6 (((Fr.refl _ w5).alloc _).trans f6 fun q hq => .inl hq) (by omega) (fun d hd => by have := (FX.out.1.1 d hd).prs; omega)
        have D6 := Lib.hid hd6
        have F6 := Lib.hid (F3.out.trans0 ((D5.out.fr.trans0 ((Fr.refl (fun _ => False) w5).alloc (.cells q4C 50))).trans f6 fun q hq => .inr (D5.out.row.lt q hq).1))
        have KB6 := Lib.hid (KB.out.fr F6.out (fun q => q))
        clear hd6 ho6 f6
        (have k0 := KB6.out.cell 0 _ rfl; have k1 := KB6.out.cell 1 _ rfl; have k2 := KB6.out.cell 2 _ rfl; have k3 := KB6.out.cell 3 _ rfl; have k4 := KB6.out.cell 4 _ rfl; have k5 := KB6.out.cell 5 _ rfl; have k6 := KB6.out.cell 6 _ rfl)
        go_wp2_with fail
        refine (runA w6 b0 b1 b2 b3 b4 b5 hk FX.out.2.1 FX.out.2.2 a6 (ds.length + 4) cap6 (ds ++ q4) D6.out B eb (E0.out.fr (FB.out.trans0 F6.out) (fun _ q => q.elim)) (by simp; omega) (fit_q4 FX.out.1.1)).mono ?_
        rintro e w7 ⟨v7, rfl, ht, f7⟩
        obtain ⟨t1, t2, t3, t4, hrun, hQ⟩ := run_q4 b0 b1 b2 b3 b4 b5 hk ds FX.out.1.1 hn120
        have hlen : ((kst b0 b1 b2 b3 b4 b5 hk).run ds).length = ds.length := St.run_length _ _
        rw [hrun] at ht
        generalize (kst b0 b1 b2 b3 b4 b5 hk).run ds = rs at ht hlen
        have Q := Lib.hid hQ
        have F7 := Lib.hid (F6.out.trans0 f7)
        have KB7 := Lib.hid (KB.out.fr F7.out (fun q => q))
        obtain ⟨a7, cap7, rfl, -, hr7⟩ := ht
        rw [show (rs ++ [t1, t2, t3, t4]).length = ds.length + 4 from by simp [hlen]]
        obtain ⟨ob, p1, y1, l1, rfl, hob, _, c10, c11, c12, c13, c14, c15, c16, c17, c18, c19, hp1, hy1, hl1⟩ := hr7 ds.length t1 (by rw [List.getElem?_append_right (by omega), hlen]; simp)
        obtain ⟨ob2, p2, y2, l2, e, -, _, c20, c21, c22, c23, c24, c25, c26, c27, c28, c29, hp2, hy2, hl2⟩ := hr7 (ds.length + 1) t2 (by rw [List.getElem?_append_right (by omega), hlen]; simp)
        cases e
        obtain ⟨ob2, p3, y3, l3, e, -, _, c30, c31, c32, c33, c34, c35, c36, c37, c38, c39, hp3, hy3, hl3⟩ := hr7 (ds.length + 2) t3 (by rw [List.getElem?_append_right (by omega), hlen]; simp)
        cases e
        obtain ⟨ob2, p4, y4, l4, e, -, _, c40, c41, c42, c43, c44, c45, c46, c47, c48, c49, hp4, hy4, hl4⟩ := hr7 (ds.length + 3) t4 (by rw [List.getElem?_append_right (by omega), hlen]; simp)
        cases e
        obtain ⟨pa1, pc1, rfl⟩ := hp1.form
        obtain ⟨⟨ka1, kc1, rfl, -, -⟩, -⟩ := id hy1
        obtain ⟨la1, lc1, rfl, -⟩ := hl1.form
        obtain ⟨pa2, pc2, rfl⟩ := hp2.form
        obtain ⟨⟨ka2, kc2, rfl, -, -⟩, -⟩ := id hy2
        obtain ⟨la2, lc2, rfl, -⟩ := hl2.form
        obtain ⟨pa3, pc3, rfl⟩ := hp3.form
        obtain ⟨⟨ka3, kc3, rfl, -, -⟩, -⟩ := id hy3
        obtain ⟨la3, lc3, rfl, -⟩ := hl3.form
        obtain ⟨pa4, pc4, rfl⟩ := hp4.form
        obtain ⟨⟨ka4, kc4, rfl, -, -⟩, -⟩ := id hy4
        obtain ⟨la4, lc4, rfl, -⟩ := hl4.form
        have H1 := Lib.hid (show C10 w7 ob (ds.length * 10) t1 (.slice pa1 t1.pairs.length pc1) (.slice ka1 t1.keys.length kc1) (.slice la1 t1.links.length lc1) from ⟨c10, c11, c12, c13, c14, c15, c16, c17, c18, c19⟩)
        have H2 := Lib.hid (show C10 w7 ob ((ds.length + 1) * 10) t2 (.slice pa2 t2.pairs.length pc2) (.slice ka2 t2.keys.length kc2) (.slice la2 t2.links.length lc2) from ⟨c20, c21, c22, c23, c24, c25, c26, c27, c28, c29⟩)
        have H3 := Lib.hid (show C10 w7 ob ((ds.length + 2) * 10) t3 (.slice pa3 t3.pairs.length pc3) (.slice ka3 t3.keys.length kc3) (.slice la3 t3.links.length lc3) from ⟨c30, c31, c32, c33, c34, c35, c36, c37, c38, c39⟩)
        have H4 := Lib.hid (show C10 w7 ob ((ds.length + 3) * 10) t4 (.slice pa4 t4.pairs.length pc4) (.slice ka4 t4.keys.length kc4) (.slice la4 t4.links.length lc4) from ⟨c40, c41, c42, c43, c44, c45, c46, c47, c48, c49⟩)
        clear c10 c11 c12 c13 c14 c15 c16 c17 c18 c19 c20 c21 c22 c23 c24 c25 c26 c27 c28 c29 c30 c31 c32 c33 c34 c35 c36 c37 c38 c39 c40 c41 c42 c43 c44 c45 c46 c47 c48 c49
        have T := Lib.hid (And.intro hy1 (And.intro hy2 (And.intro hl1 (And.intro hl2 hl3))))
        clear hr7 f7 hQ hp1 hp2 hp3 hp4 hy1 hy2 hl1 hl2 hl3 hl4 hy3 hy4 hrun hlen
        clear k0 k1 k2 k3 k4 k5 k6
        have hw1 : IntKind.i64.wrap ((ds.length : Int) + 1) = ((ds.length + 1 : Nat) : Int) := w64b (by omega) (by omega) (by omega)
        have hw2 : IntKind.i64.wrap ((ds.length : Int) + 2) = ((ds.length + 2 : Nat) : Int) := w64b (by omega) (by omega) (by omega)
        have hw3 : IntKind.i64.wrap ((ds.length : Int) + 3) = ((ds.length + 3 : Nat) : Int) := w64b (by omega) (by omega) (by omega)
        have hw4 : IntKind.i64.wrap ((ds.length : Int) + 4) = ((ds.length + 4 : Nat) : Int) := w64b (by omega) (by omega) (by omega)
        go_wp2_with fail
        go_cut [8, 9, 10, 11] from 48 (fun s8 s9 s10 s11 wx => ∃ n8 n9 n10 n11 : Nat, s8 = .pointer (some ⟨n8, 0, none⟩) ∧ s9 = .pointer (some ⟨n9, 0, none⟩) ∧ s10 = .pointer (some ⟨n10, 0, none⟩) ∧ s11 = .pointer (some ⟨n11, 0, none⟩) ∧ TBq wx n8 t1 (.slice pa1 t1.pairs.length pc1) (.slice ka1 t1.keys.length kc1) (.slice la1 t1.links.length lc1) ∧ TBq wx n9 t2 (.slice pa2 t2.pairs.length pc2) (.slice ka2 t2.keys.length kc2) (.slice la2 t2.links.length lc2) ∧ TBq wx n10 t3 (.slice pa3 t3.pairs.length pc3) (.slice ka3 t3.keys.length kc3) (.slice la3 t3.links.length lc3) ∧ TBq wx n11 t4 (.slice pa4 t4.pairs.length pc4) (.slice ka4 t4.keys.length kc4) (.slice la4 t4.links.length lc4) ∧ Fr0 w7 wx)
        case first =>
          have hlt1 : (ds.length : Int) < (ds.length : Int) + 4 := by omega
          have hlz1 : (0 : Int) ≤ (ds.length : Int) + 1 := by omega
          have htn2 : ((ds.length : Int) + 2).toNat = ds.length + 2 := by omega
          have htn3 : ((ds.length : Int) + 3).toNat = ds.length + 3 := by omega
          have hli1 : (ds.length : Int) + 1 < (ds.length : Int) + 4 := by omega
          have hlt2 : ((ds.length + 1 : Nat) : Int) < (ds.length : Int) + 4 := by omega
          have hlz2 : (0 : Int) ≤ (ds.length : Int) + 2 := by omega
          have hli2 : (ds.length : Int) + 2 < (ds.length : Int) + 4 := by omega
          have hlt3 : ((ds.length + 2 : Nat) : Int) < (ds.length : Int) + 4 := by omega
          have hlz3 : (0 : Int) ≤ (ds.length : Int) + 3 := by omega
          have hli3 : (ds.length : Int) + 3 < (ds.length : Int) + 4 := by omega
          have hlt4 : ((ds.length + 3 : Nat) : Int) < (ds.length : Int) + 4 := by omega
          refine OrdS.start (S := SB w7) (m := 26) (by as_aux_lemma => kernel_rfl) ?_
          have hHeld : SB w7 w7.drew := (Fr.refl _ _).drew
          (refine OrdS.take (i := 0) (v := ?_) rfl (by as_aux_lemma => kernel_rfl) (by as_aux_lemma => kernel_rfl) (by as_aux_lemma => kernel_rfl) (by as_aux_lemma => kernel_rfl) (fun _ _ _ h => h) (Or.inl ⟨by rfl, ?_⟩) hHeld ?_; rotate_left; focus (intro w' hSw; go_simp; (try with_reducible rfl); done); (try simp only [Act.put, List.setIfInBounds_toArray, List.set_cons_zero, List.set_cons_succ]))
          (refine OrdS.take (i := 1) (v := ?_) rfl (by as_aux_lemma => kernel_rfl) (by as_aux_lemma => kernel_rfl) (by as_aux_lemma => kernel_rfl) (by as_aux_lemma => kernel_rfl) (fun _ _ _ h => h) (Or.inl ⟨by rfl, ?_⟩) hHeld ?_; rotate_left; focus (intro w' hSw; go_simp; (try with_reducible rfl); done); (try simp only [Act.put, List.setIfInBounds_toArray, List.set_cons_zero, List.set_cons_succ]))
          (refine OrdS.take (i := 2) (v := ?_) rfl (by as_aux_lemma => kernel_rfl) (by as_aux_lemma => kernel_rfl) (by as_aux_lemma => kernel_rfl) (by as_aux_lemma => kernel_rfl) (fun _ _ _ h => h) (Or.inl ⟨by rfl, ?_⟩) hHeld ?_; rotate_left; focus (intro w' hSw; go_simp; (try with_reducible rfl); done); (try simp only [Act.put, List.setIfInBounds_toArray, List.set_cons_zero, List.set_cons_succ]))
          (refine OrdS.take (i := 3) (v := ?_) rfl (by as_aux_lemma => kernel_rfl) (by as_aux_lemma => kernel_rfl) (by as_aux_lemma => kernel_rfl) (by as_aux_lemma => kernel_rfl) (fun _ _ _ h => h) (Or.inl ⟨by rfl, ?_⟩) hHeld ?_; rotate_left; focus (intro w' hSw; obtain ⟨z0, z1, z2, z3, z4, z5, z6, z7, z8, z9⟩ := C10.fr H1.out hSw hob (Nat.not_le.2 hob); go_simp; (try with_reducible rfl); done); (try simp only [Act.put, List.setIfInBounds_toArray, List.set_cons_zero, List.set_cons_succ]))
          (refine OrdS.take (i := 4) (v := ?_) rfl (by as_aux_lemma => kernel_rfl) (by as_aux_lemma => kernel_rfl) (by as_aux_lemma => kernel_rfl) (by as_aux_lemma => kernel_rfl) (fun _ _ _ h => h) (Or.inl ⟨by rfl, ?_⟩) hHeld ?_; rotate_left; focus (intro w' hSw; go_simp; (try with_reducible rfl); done); (try simp only [Act.put, List.setIfInBounds_toArray, List.set_cons_zero, List.set_cons_succ]))
          (refine OrdS.take (i := 5) (v := ?_) rfl (by as_aux_lemma => kernel_rfl) (by as_aux_lemma => kernel_rfl) (by as_aux_lemma => kernel_rfl) (by as_aux_lemma => kernel_rfl) (fun _ _ _ h => h) (Or.inl ⟨by rfl, ?_⟩) hHeld ?_; rotate_left; focus (intro w' hSw; go_simp; (try with_reducible rfl); done); (try simp only [Act.put, List.setIfInBounds_toArray, List.set_cons_zero, List.set_cons_succ]))
          (refine OrdS.take (i := 6) (v := ?_) rfl (by as_aux_lemma => kernel_rfl) (by as_aux_lemma => kernel_rfl) (by as_aux_lemma => kernel_rfl) (by as_aux_lemma => kernel_rfl) (fun _ _ _ h => h) (Or.inl ⟨by rfl, ?_⟩) hHeld ?_; rotate_left; focus (intro w' hSw; go_simp; (try with_reducible rfl); done); (try simp only [Act.put, List.setIfInBounds_toArray, List.set_cons_zero, List.set_cons_succ]))
          (refine OrdS.take (i := 7) (v := ?_) rfl (by as_aux_lemma => kernel_rfl) (by as_aux_lemma => kernel_rfl) (by as_aux_lemma => kernel_rfl) (by as_aux_lemma => kernel_rfl) (fun _ _ _ h => h) (Or.inl ⟨by rfl, ?_⟩) hHeld ?_; rotate_left; focus (intro w' hSw; go_simp; (try with_reducible rfl); done); (try simp only [Act.put, List.setIfInBounds_toArray, List.set_cons_zero, List.set_cons_succ]))
          (refine OrdS.take (i := 8) (v := ?_) rfl (by as_aux_lemma => kernel_rfl) (by as_aux_lemma => kernel_rfl) (by as_aux_lemma => kernel_rfl) (by as_aux_lemma => kernel_rfl) (fun _ _ _ h => h) (Or.inl ⟨by rfl, ?_⟩) hHeld ?_; rotate_left; focus (intro w' hSw; obtain ⟨z0, z1, z2, z3, z4, z5, z6, z7, z8, z9⟩ := C10.fr H2.out hSw hob (Nat.not_le.2 hob); go_simp; (try with_reducible rfl); done); (try simp only [Act.put, List.setIfInBounds_toArray, List.set_cons_zero, List.set_cons_succ]))
          (refine OrdS.take (i := 9) (v := ?_) rfl (by as_aux_lemma => kernel_rfl) (by as_aux_lemma => kernel_rfl) (by as_aux_lemma => kernel_rfl) (by as_aux_lemma => kernel_rfl) (fun _ _ _ h => h) (Or.inl ⟨by rfl, ?_⟩) hHeld ?_; rotate_left; focus (intro w' hSw; go_simp; (try with_reducible rfl); done); (try simp only [Act.put, List.setIfInBounds_toArray, List.set_cons_zero, List.set_cons_succ]))
          (refine OrdS.take (i := 10) (v := ?_) rfl (by as_aux_lemma => kernel_rfl) (by as_aux_lemma => kernel_rfl) (by as_aux_lemma => kernel_rfl) (by as_aux_lemma => kernel_rfl) (fun _ _ _ h => h) (Or.inl ⟨by rfl, ?_⟩) hHeld ?_; rotate_left; focus (intro w' hSw; go_simp; (try with_reducible rfl); done); (try simp only [Act.put, List.setIfInBounds_toArray, List.set_cons_zero, List.set_cons_succ]))
          (refine OrdS.take (i := 11) (v := ?_) rfl (by as_aux_lemma => kernel_rfl) (by as_aux_lemma => kernel_rfl) (by as_aux_lemma => kernel_rfl) (by as_aux_lemma => kernel_rfl) (fun _ _ _ h => h) (Or.inl ⟨by rfl, ?_⟩) hHeld ?_; rotate_left; focus (intro w' hSw; go_simp; (try with_reducible rfl); done); (try simp only [Act.put, List.setIfInBounds_toArray, List.set_cons_zero, List.set_cons_succ]))
          (refine OrdS.take (i := 12) (v := ?_) rfl (by as_aux_lemma => kernel_rfl) (by as_aux_lemma => kernel_rfl) (by as_aux_lemma => kernel_rfl) (by as_aux_lemma => kernel_rfl) (fun _ _ _ h => h) (Or.inl ⟨by rfl, ?_⟩) hHeld ?_; rotate_left; focus (intro w' hSw; go_simp; (try with_reducible rfl); done); (try simp only [Act.put, List.setIfInBounds_toArray, List.set_cons_zero, List.set_cons_succ]))
          (refine OrdS.take (i := 13) (v := ?_) rfl (by as_aux_lemma => kernel_rfl) (by as_aux_lemma => kernel_rfl) (by as_aux_lemma => kernel_rfl) (by as_aux_lemma => kernel_rfl) (fun _ _ _ h => h) (Or.inl ⟨by rfl, ?_⟩) hHeld ?_; rotate_left; focus (intro w' hSw; obtain ⟨z0, z1, z2, z3, z4, z5, z6, z7, z8, z9⟩ := C10.fr H3.out hSw hob (Nat.not_le.2 hob); go_simp; (try with_reducible rfl); done); (try simp only [Act.put, List.setIfInBounds_toArray, List.set_cons_zero, List.set_cons_succ]))
          (refine OrdS.take (i := 14) (v := ?_) rfl (by as_aux_lemma => kernel_rfl) (by as_aux_lemma => kernel_rfl) (by as_aux_lemma => kernel_rfl) (by as_aux_lemma => kernel_rfl) (fun _ _ _ h => h) (Or.inl ⟨by rfl, ?_⟩) hHeld ?_; rotate_left; focus (intro w' hSw; go_simp; (try with_reducible rfl); done); (try simp only [Act.put, List.setIfInBounds_toArray, List.set_cons_zero, List.set_cons_succ]))
          (refine OrdS.take (i := 15) (v := ?_) rfl (by as_aux_lemma => kernel_rfl) (by as_aux_lemma => kernel_rfl) (by as_aux_lemma => kernel_rfl) (by as_aux_lemma => kernel_rfl) (fun _ _ _ h => h) (Or.inl ⟨by rfl, ?_⟩) hHeld ?_; rotate_left; focus (intro w' hSw; go_simp; (try with_reducible rfl); done); (try simp only [Act.put, List.setIfInBounds_toArray, List.set_cons_zero, List.set_cons_succ]))
          (refine OrdS.take (i := 16) (v := ?_) rfl (by as_aux_lemma => kernel_rfl) (by as_aux_lemma => kernel_rfl) (by as_aux_lemma => kernel_rfl) (by as_aux_lemma => kernel_rfl) (fun _ _ _ h => h) (Or.inl ⟨by rfl, ?_⟩) hHeld ?_; rotate_left; focus (intro w' hSw; go_simp; (try with_reducible rfl); done); (try simp only [Act.put, List.setIfInBounds_toArray, List.set_cons_zero, List.set_cons_succ]))
          (refine OrdS.take (i := 17) (v := ?_) rfl (by as_aux_lemma => kernel_rfl) (by as_aux_lemma => kernel_rfl) (by as_aux_lemma => kernel_rfl) (by as_aux_lemma => kernel_rfl) (fun _ _ _ h => h) (Or.inl ⟨by rfl, ?_⟩) hHeld ?_; rotate_left; focus (intro w' hSw; go_simp; (try with_reducible rfl); done); (try simp only [Act.put, List.setIfInBounds_toArray, List.set_cons_zero, List.set_cons_succ]))
          (refine OrdS.take (i := 18) (v := ?_) rfl (by as_aux_lemma => kernel_rfl) (by as_aux_lemma => kernel_rfl) (by as_aux_lemma => kernel_rfl) (by as_aux_lemma => kernel_rfl) (fun _ _ _ h => h) (Or.inl ⟨by rfl, ?_⟩) hHeld ?_; rotate_left; focus (intro w' hSw; obtain ⟨z0, z1, z2, z3, z4, z5, z6, z7, z8, z9⟩ := C10.fr H4.out hSw hob (Nat.not_le.2 hob); go_simp; (try with_reducible rfl); done); (try simp only [Act.put, List.setIfInBounds_toArray, List.set_cons_zero, List.set_cons_succ]))
          have hH : Fr (fun q => w7.heap.size ≤ q) w7 w7.drew := hHeld
          clear hHeld
          (try simp only [List.getElem_toArray, List.getElem_cons_zero, List.getElem_cons_succ, Act.put, List.setIfInBounds_toArray, List.set_cons_zero, List.set_cons_succ])
          refine OrdS.news4' (k := 4) zT 44 w7 19 20 21 22 8 9 10 11 (by decide) (by decide) (by decide +kernel) (fun _ h => h) ?_ ?_ ?_ ?_ ?_ (by decide +kernel) (by kernel_rfl) hH
          iterate 4
            · intro a w K hK
              refine wpOp_step rfl fun K' hK' => ?_
              go_simp
              exact hK' _ _ hK
          intro n8 n9 n10 n11 wz hb8 hb9 hb10 hb11 hne hge hH
          obtain ⟨q1, q2, q3, q4, q5, q6⟩ := hne
          obtain ⟨p1, p2, p3, p4⟩ := hge
          simp only [put4, set4, ptrAt]
          (try simp only [List.getElem_toArray, List.getElem_cons_zero, List.getElem_cons_succ, Act.put, List.setIfInBounds_toArray, List.set_cons_zero, List.set_cons_succ])
          (refine OrdS.one (i := 23) rfl (by kernel_rfl) ?_; intro K hK)
          have c0 := hb8.cell 0 _ rfl; have z0 := hb8.free 0; have c1 := hb8.cell 1 _ rfl; have z1 := hb8.free 1; have c2 := hb8.cell 2 _ rfl; have z2 := hb8.free 2; have c3 := hb8.cell 3 _ rfl; have z3 := hb8.free 3; have c4 := hb8.cell 4 _ rfl; have z4 := hb8.free 4; have c5 := hb8.cell 5 _ rfl; have z5 := hb8.free 5; have c6 := hb8.cell 6 _ rfl; have z6 := hb8.free 6; have c7 := hb8.cell 7 _ rfl; have z7 := hb8.free 7; have c8 := hb8.cell 8 _ rfl; have z8 := hb8.free 8; have c9 := hb8.cell 9 _ rfl; have z9 := hb8.free 9
          go_simp
          clear c0 z0 c1 z1 c2 z2 c3 z3 c4 z4 c5 z5 c6 z6 c7 z7 c8 z8 c9 z9
          refine stepS hK (by with_reducible assumption) hb8 (by omega) ?_
          clear hK K
          clear hb8
          intro wz hb8 hf hs hH
          try replace hb9 := Cells.fr hb9 hf (by show ¬ _ = _; omega)
          try replace hb10 := Cells.fr hb10 hf (by show ¬ _ = _; omega)
          try replace hb11 := Cells.fr hb11 hf (by show ¬ _ = _; omega)
          (try simp only [List.getElem_toArray, List.getElem_cons_zero, List.getElem_cons_succ, Act.put, List.setIfInBounds_toArray, List.set_cons_zero, List.set_cons_succ])
          (refine OrdS.one (i := 24) rfl (by kernel_rfl) ?_; intro K hK)
          have c0 := hb9.cell 0 _ rfl; have z0 := hb9.free 0; have c1 := hb9.cell 1 _ rfl; have z1 := hb9.free 1; have c2 := hb9.cell 2 _ rfl; have z2 := hb9.free 2; have c3 := hb9.cell 3 _ rfl; have z3 := hb9.free 3; have c4 := hb9.cell 4 _ rfl; have z4 := hb9.free 4; have c5 := hb9.cell 5 _ rfl; have z5 := hb9.free 5; have c6 := hb9.cell 6 _ rfl; have z6 := hb9.free 6; have c7 := hb9.cell 7 _ rfl; have z7 := hb9.free 7; have c8 := hb9.cell 8 _ rfl; have z8 := hb9.free 8; have c9 := hb9.cell 9 _ rfl; have z9 := hb9.free 9
          go_simp
          clear c0 z0 c1 z1 c2 z2 c3 z3 c4 z4 c5 z5 c6 z6 c7 z7 c8 z8 c9 z9
          refine stepS hK (by with_reducible assumption) hb9 (by omega) ?_
          clear hK K
          clear hb9
          intro wz hb9 hf hs hH
          try replace hb8 := Cells.fr hb8 hf (by show ¬ _ = _; omega)
          try replace hb10 := Cells.fr hb10 hf (by show ¬ _ = _; omega)
          try replace hb11 := Cells.fr hb11 hf (by show ¬ _ = _; omega)
          (try simp only [List.getElem_toArray, List.getElem_cons_zero, List.getElem_cons_succ, Act.put, List.setIfInBounds_toArray, List.set_cons_zero, List.set_cons_succ])
          (refine OrdS.one (i := 25) rfl (by kernel_rfl) ?_; intro K hK)
          have c0 := hb10.cell 0 _ rfl; have z0 := hb10.free 0; have c1 := hb10.cell 1 _ rfl; have z1 := hb10.free 1; have c2 := hb10.cell 2 _ rfl; have z2 := hb10.free 2; have c3 := hb10.cell 3 _ rfl; have z3 := hb10.free 3; have c4 := hb10.cell 4 _ rfl; have z4 := hb10.free 4; have c5 := hb10.cell 5 _ rfl; have z5 := hb10.free 5; have c6 := hb10.cell 6 _ rfl; have z6 := hb10.free 6; have c7 := hb10.cell 7 _ rfl; have z7 := hb10.free 7; have c8 := hb10.cell 8 _ rfl; have z8 := hb10.free 8; have c9 := hb10.cell 9 _ rfl; have z9 := hb10.free 9
          go_simp
          clear c0 z0 c1 z1 c2 z2 c3 z3 c4 z4 c5 z5 c6 z6 c7 z7 c8 z8 c9 z9
          refine stepS hK (by with_reducible assumption) hb10 (by omega) ?_
          clear hK K
          clear hb10
          intro wz hb10 hf hs hH
          try replace hb8 := Cells.fr hb8 hf (by show ¬ _ = _; omega)
          try replace hb9 := Cells.fr hb9 hf (by show ¬ _ = _; omega)
          try replace hb11 := Cells.fr hb11 hf (by show ¬ _ = _; omega)
          (try simp only [List.getElem_toArray, List.getElem_cons_zero, List.getElem_cons_succ, Act.put, List.setIfInBounds_toArray, List.set_cons_zero, List.set_cons_succ])
          (refine OrdS.one (i := 26) rfl (by kernel_rfl) ?_; intro K hK)
          have c0 := hb11.cell 0 _ rfl; have z0 := hb11.free 0; have c1 := hb11.cell 1 _ rfl; have z1 := hb11.free 1; have c2 := hb11.cell 2 _ rfl; have z2 := hb11.free 2; have c3 := hb11.cell 3 _ rfl; have z3 := hb11.free 3; have c4 := hb11.cell 4 _ rfl; have z4 := hb11.free 4; have c5 := hb11.cell 5 _ rfl; have z5 := hb11.free 5; have c6 := hb11.cell 6 _ rfl; have z6 := hb11.free 6; have c7 := hb11.cell 7 _ rfl; have z7 := hb11.free 7; have c8 := hb11.cell 8 _ rfl; have z8 := hb11.free 8; have c9 := hb11.cell 9 _ rfl; have z9 := hb11.free 9
          go_simp
          clear c0 z0 c1 z1 c2 z2 c3 z3 c4 z4 c5 z5 c6 z6 c7 z7 c8 z8 c9 z9
          refine stepS hK (by with_reducible assumption) hb11 (by omega) ?_
          clear hK K
          clear hb11
          intro wz hb11 hf hs hH
          try replace hb8 := Cells.fr hb8 hf (by show ¬ _ = _; omega)
          try replace hb9 := Cells.fr hb9 hf (by show ¬ _ = _; omega)
          try replace hb10 := Cells.fr hb10 hf (by show ¬ _ = _; omega)
          (try simp only [List.getElem_toArray, List.getElem_cons_zero, List.getElem_cons_succ, Act.put, List.setIfInBounds_toArray, List.set_cons_zero, List.set_cons_succ])
          refine OrdS.done (by kernel_rfl) ?_
          have hF0 := Lib.hid ((Fr.refl (fun _ => False) w7).trans hH fun q h => .inr h)
          clear hH
          go_wp2_with fail
          go_meet
          case rel => exact ⟨_, _, _, _, rfl, rfl, rfl, rfl, hb8, hb9, hb10, hb11, hF0.out⟩
        case rest =>
          obtain ⟨n8, n9, n10, n11, rfl, rfl, rfl, rfl, hb8, hb9, hb10, hb11, fx⟩ := hcut
          have BX := Lib.hid (And.intro hb8 (And.intro hb9 (And.intro hb10 hb11)))
          have FXX := Lib.hid (F7.out.trans0 fx)
          have KX := Lib.hid (KB.out.fr FXX.out (fun q => q))
          have TX := Lib.hid (And.intro (T.out.1.fr fx (fun _ _ _ q => q)) (And.intro (T.out.2.1.fr fx (fun _ _ _ q => q)) (And.intro (T.out.2.2.1.fr fx (fun _ _ _ q => q)) (And.intro (T.out.2.2.2.1.fr fx (fun _ _ _ q => q)) (T.out.2.2.2.2.fr fx (fun _ _ _ q => q))))))
          have e88 := hb8.cell 8 _ rfl
          have e98 := hb9.cell 8 _ rfl
          clear hb8 hb9 hb10 hb11 fx
          have hq1 := Q.out.keys
          go_wp2_with fail
          rw [hq1] at TX
          refine (equal30 wc _ _ _ _ t1.keys TX.out.1 TX.out.2.1 (by have := Q.out.klen; omega)).mono ?_
          rintro e w8 ⟨rfl, f8⟩
          have FX8 := Lib.hid (FXX.out.trans0 f8)
          have KX8 := Lib.hid (KB.out.fr FX8.out (fun q => q))
          have T8 := Lib.hid (And.intro (TX.out.2.2.1.fr f8 (fun _ _ _ q => q)) (And.intro (TX.out.2.2.2.1.fr f8 (fun _ _ _ q => q)) (TX.out.2.2.2.2.fr f8 (fun _ _ _ q => q))))
          have B8 := Lib.hid (And.intro (Cells.fr BX.out.1 f8 (fun q => q)) (And.intro (Cells.fr BX.out.2.1 f8 (fun q => q)) (And.intro (Cells.fr BX.out.2.2.1 f8 (fun q => q)) (Cells.fr BX.out.2.2.2 f8 (fun q => q)))))
          clear f8 e88 e98
          have e88 := B8.out.1.cell 8 _ rfl
          have e89 := B8.out.1.cell 9 _ rfl
          have e99 := B8.out.2.1.cell 9 _ rfl
          have e109 := B8.out.2.2.1.cell 9 _ rfl
          have e115 := B8.out.2.2.2.cell 5 _ rfl
          have e116 := B8.out.2.2.2.cell 6 _ rfl
          have g1 := Q.out.order
          have g2 := Q.out.size
          have g3 := Q.out.len2
          go_wp2_with fail
          have HL := Lib.hid (show t1.links.length ≤ 2000 from by have h1 := Q.out.want; have h2 := Q.out.few; split at h1 <;> omega)
          go_loopg [101] t1.links.length (fun n c wr => ∃ i : Nat, n + i = t1.links.length ∧ c = .int .i64 (i : Nat) ∧ Fr0 w8 wr)
          case atStart => exact ⟨0, rfl, rfl, Fr.refl _ _⟩
          case round =>
            obtain ⟨i, hk, rfl, f⟩ := hrel
            have A := Lib.hid (And.intro hk f)
            clear hk f
            by_cases hi : i < t1.links.length
            · have hg := List.getElem?_eq_getElem hi
              obtain ⟨obx, cpx, xv, e, hlx, _, c0, c1, c2, c3, hxv⟩ := (T8.out.1.fr A.out.2 (fun _ _ _ q => q)).at_ hg
              cases e
              have hmem := List.getElem_mem hi
              generalize t1.links[i] = x at c0 c1 c2 c3 hxv hmem
              have QX := Lib.hid (And.intro (Q.out.has x hmem) (Q.out.les.1 x hmem))
              obtain ⟨xa, xc, rfl⟩ := hxv.form
              have HXV0 := Lib.hid hxv
              clear hg hxv
              have v8 := Cells.fr B8.out.1 A.out.2 (fun q => q)
              have v8c := v8.cell 9 _ rfl
              have v9c := (Cells.fr B8.out.2.1 A.out.2 (fun q => q)).cell 9 _ rfl
              have v10c := (Cells.fr B8.out.2.2.1 A.out.2 (fun q => q)).cell 9 _ rfl
              have v9l := (Cells.fr B8.out.2.1 A.out.2 (fun q => q)).lt
              have v8l := v8.lt
              have v10l := (Cells.fr B8.out.2.2.1 A.out.2 (fun q => q)).lt
              have kc0 := (KX8.out.fr A.out.2 (fun q => q)).cell 0 _ rfl
              have kcl := (KX8.out.fr A.out.2 (fun q => q)).lt
              have LE := Lib.hid (show t1.links.length ≤ 400000 ∧ t2.links.length ≤ 400000 ∧ t3.links.length ≤ 400000 from ⟨by have := HL.out; omega, by have := HL.out; omega, by have := Q.out.few; omega⟩)
              have L2 := T8.out.2.1
              rw [g3] at L2
              have V0 : Cells (wr.alloc (.cells #[.string x.a, .string x.b, .int .i64 x.wt, .slice xa x.es.length xc] 65)) wr.heap.size #[.string x.a, .string x.b, .int .i64 x.wt, .slice xa x.es.length xc] 65 := Cells.new wr _ _
              have F0 : Fr0 w8 (wr.alloc (.cells #[.string x.a, .string x.b, .int .i64 x.wt, .slice xa x.es.length xc] 65)) := A.out.2.alloc _
              have P0 := PairsIn.fr HXV0.out ((Fr.refl (fun _ => False) wr).alloc (.cells #[.string x.a, .string x.b, .int .i64 x.wt, .slice xa x.es.length xc] 65)) (fun _ _ _ q => q)
              have V := Lib.hid (And.intro V0 (And.intro (Cells.fr B8.out.1 F0 (fun q => q)) (And.intro (Cells.fr B8.out.2.1 F0 (fun q => q)) (And.intro (Cells.fr B8.out.2.2.1 F0 (fun q => q)) (Cells.fr KX8.out F0 (fun q => q))))))
              have LU := Lib.hid (And.intro (T8.out.1.fr F0 (fun _ _ _ q => q)) (And.intro (L2.fr F0 (fun _ _ _ q => q)) (T8.out.2.2.fr F0 (fun _ _ _ q => q))))
              have HXU := Lib.hid P0
              have FU := Lib.hid F0
              clear V0 F0 P0 L2
              cases b0
              · have hv1 := (QX.out.1.2.1 rfl).1
                have hv2 := (QX.out.1.2.1 rfl).2
                go_wp2_with fail
                clear v8c v9c v10c v9l v8l v10l kc0 kcl c0 c1 c2 c3 v8
                generalize wr.alloc (.cells #[.string x.a, .string x.b, .int .i64 x.wt, .slice xa x.es.length xc] 65) = U at *
                have FV := Lib.hid (Fr.refl (fun _ => False) U)
                have x0 := (V.out.1.fr FV.out (fun q => q)).cell 0 _ rfl; have x1 := (V.out.1.fr FV.out (fun q => q)).cell 1 _ rfl; have x2 := (V.out.1.fr FV.out (fun q => q)).cell 2 _ rfl; have x3 := (V.out.1.fr FV.out (fun q => q)).cell 3 _ rfl; have y8 := (V.out.2.1.fr FV.out (fun q => q)).cell 9 _ rfl; have y9 := (V.out.2.2.1.fr FV.out (fun q => q)).cell 9 _ rfl; have y10 := (V.out.2.2.2.1.fr FV.out (fun q => q)).cell 9 _ rfl; have d0 := (V.out.2.2.2.2.fr FV.out (fun q => q)).cell 0 _ rfl
                refine (has31 _ _ _ _ _ t2.links x x.a x.b (LU.out.2.1.fr FV.out (fun _ _ _ q => q)) (PairsIn.fr HXU.out FV.out (fun _ _ _ q => q)) LE.out.2.1 Q.out.les.2.1 QX.out.2).mono ?_
                rintro e w9 ⟨rfl, f9⟩
                have FV := Lib.hid (FV.out.trans0 f9)
                clear f9
                clear x0 x1 x2 x3 y8 y9 y10 d0
                rw [hv1]
                have x0 := (V.out.1.fr FV.out (fun q => q)).cell 0 _ rfl; have x1 := (V.out.1.fr FV.out (fun q => q)).cell 1 _ rfl; have x2 := (V.out.1.fr FV.out (fun q => q)).cell 2 _ rfl; have x3 := (V.out.1.fr FV.out (fun q => q)).cell 3 _ rfl; have y8 := (V.out.2.1.fr FV.out (fun q => q)).cell 9 _ rfl; have y9 := (V.out.2.2.1.fr FV.out (fun q => q)).cell 9 _ rfl; have y10 := (V.out.2.2.2.1.fr FV.out (fun q => q)).cell 9 _ rfl; have d0 := (V.out.2.2.2.2.fr FV.out (fun q => q)).cell 0 _ rfl
                go_wp2_with fail
                refine (has31 _ _ _ _ _ t1.links x x.b x.a (LU.out.1.fr FV.out (fun _ _ _ q => q)) (PairsIn.fr HXU.out FV.out (fun _ _ _ q => q)) LE.out.1 Q.out.les.1 QX.out.2).mono ?_
                rintro e w10 ⟨rfl, f9⟩
                have FV := Lib.hid (FV.out.trans0 f9)
                clear f9
                clear x0 x1 x2 x3 y8 y9 y10 d0
                rw [hv2]
                have x0 := (V.out.1.fr FV.out (fun q => q)).cell 0 _ rfl; have x1 := (V.out.1.fr FV.out (fun q => q)).cell 1 _ rfl; have x2 := (V.out.1.fr FV.out (fun q => q)).cell 2 _ rfl; have x3 := (V.out.1.fr FV.out (fun q => q)).cell 3 _ rfl; have y8 := (V.out.2.1.fr FV.out (fun q => q)).cell 9 _ rfl; have y9 := (V.out.2.2.1.fr FV.out (fun q => q)).cell 9 _ rfl; have y10 := (V.out.2.2.2.1.fr FV.out (fun q => q)).cell 9 _ rfl; have d0 := (V.out.2.2.2.2.fr FV.out (fun q => q)).cell 0 _ rfl
                go_wp2_with fail
                cases hv3 : hasL t3.links x.a x.b x with
                | true =>
                  refine (has31 _ _ _ _ _ t3.links x x.a x.b (LU.out.2.2.fr FV.out (fun _ _ _ q => q)) (PairsIn.fr HXU.out FV.out (fun _ _ _ q => q)) LE.out.2.2 Q.out.les.2.2 QX.out.2).mono ?_
                  rintro e w11 ⟨rfl, f9⟩
                  have FV := Lib.hid (FV.out.trans0 f9)
                  clear f9
                  clear x0 x1 x2 x3 y8 y9 y10 d0
                  rw [hv3]
                  have x0 := (V.out.1.fr FV.out (fun q => q)).cell 0 _ rfl; have x1 := (V.out.1.fr FV.out (fun q => q)).cell 1 _ rfl; have x2 := (V.out.1.fr FV.out (fun q => q)).cell 2 _ rfl; have x3 := (V.out.1.fr FV.out (fun q => q)).cell 3 _ rfl; have y8 := (V.out.2.1.fr FV.out (fun q => q)).cell 9 _ rfl; have y9 := (V.out.2.2.1.fr FV.out (fun q => q)).cell 9 _ rfl; have y10 := (V.out.2.2.2.1.fr FV.out (fun q => q)).cell 9 _ rfl; have d0 := (V.out.2.2.2.2.fr FV.out (fun q => q)).cell 0 _ rfl
                  go_wp2_with fail
                  go_roundg (gk - 1)
                  case measure => have := A.out.1; omega
                  case rel => exact ⟨i + 1, by have := A.out.1; omega, by simp [w64q HL.out hi], FU.out.trans0 FV.out⟩
                | false =>
                  have hv4 : hasL t3.links x.b x.a x = true := by rcases QX.out.1.2.2 with z | z; rw [hv3] at z; cases z; exact z.2
                  refine (has31 _ _ _ _ _ t3.links x x.a x.b (LU.out.2.2.fr FV.out (fun _ _ _ q => q)) (PairsIn.fr HXU.out FV.out (fun _ _ _ q => q)) LE.out.2.2 Q.out.les.2.2 QX.out.2).mono ?_
                  rintro e w11 ⟨rfl, f9⟩
                  have FV := Lib.hid (FV.out.trans0 f9)
                  clear f9
                  clear x0 x1 x2 x3 y8 y9 y10 d0
                  rw [hv3]
                  have x0 := (V.out.1.fr FV.out (fun q => q)).cell 0 _ rfl; have x1 := (V.out.1.fr FV.out (fun q => q)).cell 1 _ rfl; have x2 := (V.out.1.fr FV.out (fun q => q)).cell 2 _ rfl; have x3 := (V.out.1.fr FV.out (fun q => q)).cell 3 _ rfl; have y8 := (V.out.2.1.fr FV.out (fun q => q)).cell 9 _ rfl; have y9 := (V.out.2.2.1.fr FV.out (fun q => q)).cell 9 _ rfl; have y10 := (V.out.2.2.2.1.fr FV.out (fun q => q)).cell 9 _ rfl; have d0 := (V.out.2.2.2.2.fr FV.out (fun q => q)).cell 0 _ rfl
                  go_wp2_with fail
                  refine (has31 _ _ _ _ _ t3.links x x.b x.a (LU.out.2.2.fr FV.out (fun _ _ _ q => q)) (PairsIn.fr HXU.out FV.out (fun _ _ _ q => q)) LE.out.2.2 Q.out.les.2.2 QX.out.2).mono ?_
                  rintro e w12 ⟨rfl, f9⟩
                  have FV := Lib.hid (FV.out.trans0 f9)
                  clear f9
                  clear x0 x1 x2 x3 y8 y9 y10 d0
                  rw [hv4]
                  have x0 := (V.out.1.fr FV.out (fun q => q)).cell 0 _ rfl; have x1 := (V.out.1.fr FV.out (fun q => q)).cell 1 _ rfl; have x2 := (V.out.1.fr FV.out (fun q => q)).cell 2 _ rfl; have x3 := (V.out.1.fr FV.out (fun q => q)).cell 3 _ rfl; have y8 := (V.out.2.1.fr FV.out (fun q => q)).cell 9 _ rfl; have y9 := (V.out.2.2.1.fr FV.out (fun q => q)).cell 9 _ rfl; have y10 := (V.out.2.2.2.1.fr FV.out (fun q => q)).cell 9 _ rfl; have d0 := (V.out.2.2.2.2.fr FV.out (fun q => q)).cell 0 _ rfl
                  go_wp2_with fail
                  go_roundg (gk - 1)
                  case measure => have := A.out.1; omega
                  case rel => exact ⟨i + 1, by have := A.out.1; omega, by simp [w64q HL.out hi], FU.out.trans0 FV.out⟩
              · have hv1 := QX.out.1.1 rfl
                have hv2 : hasL t3.links x.a x.b x = true := by rcases QX.out.1.2.2 with z | z; exact z; cases z.1
                go_wp2_with fail
                clear v8c v9c v10c v9l v8l v10l kc0 kcl c0 c1 c2 c3 v8
                generalize wr.alloc (.cells #[.string x.a, .string x.b, .int .i64 x.wt, .slice xa x.es.length xc] 65) = U at *
                have FV := Lib.hid (Fr.refl (fun _ => False) U)
                have x0 := (V.out.1.fr FV.out (fun q => q)).cell 0 _ rfl; have x1 := (V.out.1.fr FV.out (fun q => q)).cell 1 _ rfl; have x2 := (V.out.1.fr FV.out (fun q => q)).cell 2 _ rfl; have x3 := (V.out.1.fr FV.out (fun q => q)).cell 3 _ rfl; have y8 := (V.out.2.1.fr FV.out (fun q => q)).cell 9 _ rfl; have y9 := (V.out.2.2.1.fr FV.out (fun q => q)).cell 9 _ rfl; have y10 := (V.out.2.2.2.1.fr FV.out (fun q => q)).cell 9 _ rfl; have d0 := (V.out.2.2.2.2.fr FV.out (fun q => q)).cell 0 _ rfl
                refine (has31 _ _ _ _ _ t2.links x x.b x.a (LU.out.2.1.fr FV.out (fun _ _ _ q => q)) (PairsIn.fr HXU.out FV.out (fun _ _ _ q => q)) LE.out.2.1 Q.out.les.2.1 QX.out.2).mono ?_
                rintro e w9 ⟨rfl, f9⟩
                have FV := Lib.hid (FV.out.trans0 f9)
                clear f9
                clear x0 x1 x2 x3 y8 y9 y10 d0
                rw [hv1]
                have x0 := (V.out.1.fr FV.out (fun q => q)).cell 0 _ rfl; have x1 := (V.out.1.fr FV.out (fun q => q)).cell 1 _ rfl; have x2 := (V.out.1.fr FV.out (fun q => q)).cell 2 _ rfl; have x3 := (V.out.1.fr FV.out (fun q => q)).cell 3 _ rfl; have y8 := (V.out.2.1.fr FV.out (fun q => q)).cell 9 _ rfl; have y9 := (V.out.2.2.1.fr FV.out (fun q => q)).cell 9 _ rfl; have y10 := (V.out.2.2.2.1.fr FV.out (fun q => q)).cell 9 _ rfl; have d0 := (V.out.2.2.2.2.fr FV.out (fun q => q)).cell 0 _ rfl
                go_wp2_with fail
                refine (has31 _ _ _ _ _ t3.links x x.a x.b (LU.out.2.2.fr FV.out (fun _ _ _ q => q)) (PairsIn.fr HXU.out FV.out (fun _ _ _ q => q)) LE.out.2.2 Q.out.les.2.2 QX.out.2).mono ?_
                rintro e w10 ⟨rfl, f9⟩
                have FV := Lib.hid (FV.out.trans0 f9)
                clear f9
                clear x0 x1 x2 x3 y8 y9 y10 d0
                rw [hv2]
                have x0 := (V.out.1.fr FV.out (fun q => q)).cell 0 _ rfl; have x1 := (V.out.1.fr FV.out (fun q => q)).cell 1 _ rfl; have x2 := (V.out.1.fr FV.out (fun q => q)).cell 2 _ rfl; have x3 := (V.out.1.fr FV.out (fun q => q)).cell 3 _ rfl; have y8 := (V.out.2.1.fr FV.out (fun q => q)).cell 9 _ rfl; have y9 := (V.out.2.2.1.fr FV.out (fun q => q)).cell 9 _ rfl; have y10 := (V.out.2.2.2.1.fr FV.out (fun q => q)).cell 9 _ rfl; have d0 := (V.out.2.2.2.2.fr FV.out (fun q => q)).cell 0 _ rfl
                go_wp2_with fail
                go_roundg (gk - 1)
                case measure => have := A.out.1; omega
                case rel => exact ⟨i + 1, by have := A.out.1; omega, by simp [w64q HL.out hi], FU.out.trans0 FV.out⟩
            · have hi' : i = t1.links.length := by have := A.out.1; omega
              subst hi'
              have kx0 := (KX8.out.fr A.out.2 (fun q => q)).cell 0 _ rfl
              have bx8 := (Cells.fr B8.out.1 A.out.2 (fun q => q)).cell 9 _ rfl
              have bx10 := (Cells.fr B8.out.2.2.1 A.out.2 (fun q => q)).cell 9 _ rfl
              have hw := Q.out.want
              have hf := Q.out.few
              have hm2 : IntKind.i64.wrap ((t3.links.length : Int) * 2) = (t3.links.length : Int) * 2 := w64b rfl (by omega) (by omega)
              have FE := Lib.hid (FX8.out.trans0 A.out.2)
              cases b0
              · simp only [Bool.false_eq_true, if_false] at hw
                have hw' : (t1.links.length : Int) = (t3.links.length : Int) * 2 := by omega
                go_wp2_with fail
                refine (aw17 wr B eb (E0.out.fr (FB.out.trans0 FE.out) (fun _ q => q.elim))).mono ?_
                rintro e w9 ⟨rfl, f9⟩
                go_wp2_with fail
                go_ret
                exact ⟨rfl, (FB.out.trans0 FE.out).trans0 f9⟩
              · simp only [if_true] at hw
                go_wp2_with fail
                refine (aw17 wr B eb (E0.out.fr (FB.out.trans0 FE.out) (fun _ q => q.elim))).mono ?_
                rintro e w9 ⟨rfl, f9⟩
                go_wp2_with fail
                go_ret
                exact ⟨rfl, (FB.out.trans0 FE.out).trans0 f9⟩
end Go.Proofs.YtbafaadmlpamiaaGreatDoor
