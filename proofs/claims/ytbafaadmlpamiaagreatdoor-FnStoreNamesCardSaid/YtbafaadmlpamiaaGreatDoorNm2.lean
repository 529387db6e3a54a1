/- FnStoreNames: the walk. -/
import Derived.Test.YtbafaadmlpamiaaGreatDoorF1
import Derived.Test.YtbafaadmlpamiaaGreatDoorEq
import Derived.Test.YtbafaadmlpamiaaGreatDoorE5
import Derived.Test.YtbafaadmlpamiaaGreatDoorTxt
import Derived.BigQuiet
import Derived.Deep.RegionHeld3
namespace Go.Proofs.YtbafaadmlpamiaaGreatDoor
open Go Go.Hy Go.RowKit

theorem info28n : (Tryz.prog.info? 28).map (fun i => (i.zero, i.size, i.bytes)) = some (some (.agg #[.int .u8 0, .string ⟨#[]⟩, .string ⟨#[]⟩, .int .i64 0, .slice none 0 0]), 5, 72) := by kernel_rfl

theorem TellsAt.fr {w w' : World} {lo : Nat} {v : Value} {ts : List Tl} (h : TellsAt w lo v ts) (f : Fr0 w w') : TellsAt w' lo v ts := by
  obtain ⟨ao, cap, e, hc, hr⟩ := h
  refine ⟨ao, cap, e, hc, fun j t hj => ?_⟩
  obtain ⟨ob, pv, kv, lv, e1, h1, h2, c0, c1, c2, c3, c4, c5, c6, c7, c8, c9, hp, hk, hl⟩ := hr j t hj
  have e2 : ∀ i, w'.cell? ⟨ob, i, none⟩ = w.cell? ⟨ob, i, none⟩ := fun i => f.cell (p := ⟨ob, i, none⟩) h1 (fun q => q)
  exact ⟨ob, pv, kv, lv, e1, Nat.lt_of_lt_of_le h1 f.size, h2, (e2 _).trans c0, (e2 _).trans c1, (e2 _).trans c2, (e2 _).trans c3, (e2 _).trans c4, (e2 _).trans c5, (e2 _).trans c6, (e2 _).trans c7, (e2 _).trans c8, (e2 _).trans c9,
    hp.fr f (fun _ _ _ q => q), hk.fr f (fun _ _ _ q => q), hl.fr f (fun _ _ _ q => q)⟩

set_option maxRecDepth 100000 in
theorem w64n {i n : Nat} (h : n ≤ 1000000) (hi : i < n) : wrap64 ((i : Int) + 1) = (i : Int) + 1 := by
  unfold wrap64
  omega

theorem yield2 (w : World) (o1 : Obj) (cs : Array Value) (hc : cs.size = 5) : Yld ((w.alloc o1).alloc (.cells cs 28)) (.slice (some ⟨w.heap.size + 1, 0, none⟩) 1 1) 1 cs.toList := by
  have h := heap_alloc_new (w.alloc o1) (.cells cs 28)
  have e : (w.alloc o1).heap.size = w.heap.size + 1 := by simp
  rw [e] at h
  exact yields_own (own_of_block h hc)

set_option linter.unusedSimpArgs false in
set_option maxRecDepth 100000 in
set_option maxHeartbeats 16000000 in
theorem fp10 (w : World) (b0 b1 b2 b3 b4 b5 : Bool) (hk : Nat) (v : Value) (ds : List DoIn) (h : SDosAt w v ds) (p : ByteArray) (B : Nat) (eb : Nat → Addr) (E : ErrsOk w B eb) :
    Calls Tryz.prog 10 #[kagg b0 b1 b2 b3 b4 b5 hk, v, .string p] w fun e w' => e = .returned (.bool true) ∧ Fr0 w w' := by
  have E0 := Lib.hid E
  have HD := Lib.hid h
  obtain ⟨av, cv, rfl, -⟩ := h
  clear E
  have KB := Lib.hid (Cells.new w #[.bool b0, .bool b1, .bool b2, .bool b3, .bool b4, .bool b5, .int .u8 hk] 52)
  have FB := Lib.hid ((Fr.refl (fun _ => False) w).alloc (.cells #[.bool b0, .bool b1, .bool b2, .bool b3, .bool b4, .bool b5, .int .u8 hk] 52))
  go_enter Tryz.func10, Tryz.ntmps10
  go_wp2_with fail
  generalize w.alloc (.cells #[.bool b0, .bool b1, .bool b2, .bool b3, .bool b4, .bool b5, .int .u8 hk] 52) = W at *
  refine (zz1 W _ ds (HD.out.fr FB.out)).mono ?_
  rintro e w1 ⟨r, rfl, hr, f1⟩
  have F1 := Lib.hid f1
  have HR1 := Lib.hid hr
  clear hr f1
  cases r with
  | false =>
    go_wp2_with fail
    go_ret
    exact ⟨rfl, FB.out.trans0 F1.out⟩
  | true =>
    by_cases hz : 2147483647 < p.size
    · have hz' : (2147483647 : Int) < (p.size : Int) := by omega
      go_wp2_with fail
      go_ret
      exact ⟨rfl, FB.out.trans0 F1.out⟩
    have hz' : ¬ (2147483647 : Int) < (p.size : Int) := by omega
    have KB1 := Lib.hid (KB.out.fr F1.out (fun q => q))
    (have k0 := KB1.out.cell 0 _ rfl; have k1 := KB1.out.cell 1 _ rfl; have k2 := KB1.out.cell 2 _ rfl; have k3 := KB1.out.cell 3 _ rfl; have k4 := KB1.out.cell 4 _ rfl; have k5 := KB1.out.cell 5 _ rfl; have k6 := KB1.out.cell 6 _ rfl)
    go_wp2_with fail
    refine (kindr w1 b0 b1 b2 b3 b4 b5 hk).mono ?_
    rintro e w2 ⟨r2, rfl, hr2, f2⟩
    have F2 := Lib.hid (F1.out.trans0 f2)
    have HR2 := Lib.hid hr2
    have KB2 := Lib.hid (KB.out.fr F2.out (fun q => q))
    clear hr2 f2 k0 k1 k2 k3 k4 k5 k6
    (have k0 := KB2.out.cell 0 _ rfl; have k1 := KB2.out.cell 1 _ rfl; have k2 := KB2.out.cell 2 _ rfl; have k3 := KB2.out.cell 3 _ rfl; have k4 := KB2.out.cell 4 _ rfl; have k5 := KB2.out.cell 5 _ rfl; have k6 := KB2.out.cell 6 _ rfl)
    cases r2 with
    | false => (go_wp2_with fail; refine (aw17 w2 B eb (E0.out.fr (FB.out.trans0 F2.out) (fun _ q => q.elim))).mono ?_; rintro e w9 ⟨rfl, f9⟩; have F9 := Lib.hid f9; clear f9; go_wp2_with fail; go_ret; exact ⟨rfl, (FB.out.trans0 F2.out).trans0 F9.out⟩)
    | true =>
      by_cases hk0 : hk = 0
      rotate_left
      · have hk1 : ¬ (hk : Int) = 0 := by omega
        (go_wp2_with fail; refine (aw17 w2 B eb (E0.out.fr (FB.out.trans0 F2.out) (fun _ q => q.elim))).mono ?_; rintro e w9 ⟨rfl, f9⟩; have F9 := Lib.hid f9; clear f9; go_wp2_with fail; go_ret; exact ⟨rfl, (FB.out.trans0 F2.out).trans0 F9.out⟩)
      subst hk0
      by_cases h4 : 4 < p.size
      · have h4' : (4 : Int) < (p.size : Int) := by omega
        (go_wp2_with fail; refine (aw17 w2 B eb (E0.out.fr (FB.out.trans0 F2.out) (fun _ q => q.elim))).mono ?_; rintro e w9 ⟨rfl, f9⟩; have F9 := Lib.hid f9; clear f9; go_wp2_with fail; go_ret; exact ⟨rfl, (FB.out.trans0 F2.out).trans0 F9.out⟩)
      have h4' : ¬ (4 : Int) < (p.size : Int) := by omega
      have HL := HR1.out trivial
      go_wp2_with fail
      refine (dright w2 _ ds ((HD.out.fr FB.out).fr F2.out) HL.1 HL.2 b0 100).mono ?_
      rintro e w3 ⟨r3, rfl, hr3, f3⟩
      have F3 := Lib.hid (F2.out.trans0 f3)
      have HR3 := Lib.hid hr3
      have KB3 := Lib.hid (KB.out.fr F3.out (fun q => q))
      clear hr3 f3 k0 k1 k2 k3 k4 k5 k6
      cases r3 with
      | false =>
        (have k0 := KB3.out.cell 0 _ rfl; have k1 := KB3.out.cell 1 _ rfl; have k2 := KB3.out.cell 2 _ rfl; have k3 := KB3.out.cell 3 _ rfl; have k4 := KB3.out.cell 4 _ rfl; have k5 := KB3.out.cell 5 _ rfl; have k6 := KB3.out.cell 6 _ rfl)
        (go_wp2_with fail; refine (aw17 w3 B eb (E0.out.fr (FB.out.trans0 F3.out) (fun _ q => q.elim))).mono ?_; rintro e w9 ⟨rfl, f9⟩; have F9 := Lib.hid f9; clear f9; go_wp2_with fail; go_ret; exact ⟨rfl, (FB.out.trans0 F3.out).trans0 F9.out⟩)
      | true =>
        have RD := HR3.out (by first | rfl | trivial)
        have RK := HR2.out trivial
        have FX := Lib.hid (And.intro RD RK)
        have hn100 := RD.2
        clear RD RK HL
        have HD3 := Lib.hid (HD.out.fr (FB.out.trans0 F3.out))
        have HN := Lib.hid (And.intro hn100 (And.intro hz h4))
        go_wp2_with fail
        clear hn100 hz hz' h4 h4'
        go_loopg [7, 48] ds.length (fun k x7 c wr => ∃ (i : Nat) (dvs : List (DoIn × Value)), k + i = ds.length ∧ c = .int .i64 (i : Nat) ∧ OL w3 p ds i x7 dvs wr)
        case atStart => exact ⟨0, [], rfl, rfl, OL.start w3 p ds⟩
        case round =>
          obtain ⟨i, dvs, hki, rfl, R⟩ := hrel
          have A := Lib.hid (And.intro hki R)
          clear hki R
          by_cases hi : i < ds.length
          · have hg := List.getElem?_eq_getElem hi
            obtain ⟨ao', cap', e, hr⟩ := HD3.out
            cases e
            obtain ⟨ob, off, pv, rfl, hl, c0, c1, c2, c3, c4, hpv⟩ := hr i _ hg
            have hmem := List.getElem_mem hi
            generalize ds[i] = d at c0 c1 c2 c3 c4 hpv hg hmem
            have PV := Lib.hid (And.intro hpv (And.intro hg (FX.out.1.1 d hmem)))
            obtain ⟨pa, pc, rfl⟩ := hpv.form
            replace c0 := (A.out.2.fr.cell (p := ⟨ob, off + i * 5, none⟩) hl (fun q => q)).trans c0
            replace c1 := (A.out.2.fr.cell (p := ⟨ob, off + i * 5 + 1, none⟩) hl (fun q => q)).trans c1
            replace c2 := (A.out.2.fr.cell (p := ⟨ob, off + i * 5 + 2, none⟩) hl (fun q => q)).trans c2
            replace c3 := (A.out.2.fr.cell (p := ⟨ob, off + i * 5 + 3, none⟩) hl (fun q => q)).trans c3
            replace c4 := (A.out.2.fr.cell (p := ⟨ob, off + i * 5 + 4, none⟩) hl (fun q => q)).trans c4
            clear hg hr hpv hmem
            have FA := Lib.hid ((Fr.refl (fun _ => False) wr).alloc (.cells #[.int .u8 d.op, .string d.a, .string d.b, .int .i64 d.wt, .slice pa d.prs.length pc] 28))
            have FC := Lib.hid ((FB.out.trans0 F3.out).trans0 (A.out.2.fr.trans0 FA.out))
            have hob := Nat.ne_of_lt (Nat.lt_of_lt_of_le hl A.out.2.fr.size)
            by_cases hA : 6 < d.a.size
            · have hA' : (6 : Int) < (d.a.size : Int) := by omega
              go_wp2_with fail
              refine (aw17 _ B eb (E0.out.fr FC.out (fun _ q => q.elim))).mono ?_
              rintro e w9 ⟨rfl, f9⟩
              have F9 := Lib.hid (FC.out.trans0 f9)
              clear f9
              go_wp2_with fail
              go_ret
              exact ⟨rfl, F9.out⟩
            have hA' : ¬ (6 : Int) < (d.a.size : Int) := by omega
            by_cases hB : 6 < d.b.size
            · have hB' : (6 : Int) < (d.b.size : Int) := by omega
              go_wp2_with fail
              refine (aw17 _ B eb (E0.out.fr FC.out (fun _ q => q.elim))).mono ?_
              rintro e w9 ⟨rfl, f9⟩
              have F9 := Lib.hid (FC.out.trans0 f9)
              clear f9
              go_wp2_with fail
              go_ret
              exact ⟨rfl, F9.out⟩
            have hB' : ¬ (6 : Int) < (d.b.size : Int) := by omega
            have hca : ¬ (9223372036854775807 : Int) < (p.size : Int) + (d.a.size : Int) := by have := HN.out.2.2; omega
            have hcb : ¬ (9223372036854775807 : Int) < (p.size : Int) + (d.b.size : Int) := by have := HN.out.2.2; omega
            have SZ := Lib.hid A.out.2.fr.size
            go_wp2_with (first
              | (at_builtin; go_loud (refine wl_appG (w := (wr.alloc (.cells #[.int .u8 d.op, .string (p ++ d.a), .string (p ++ d.b), .int .i64 d.wt, .slice pa d.prs.length pc] 28)).alloc (.cells #[.int .u8 d.op, .string (p ++ d.a), .string (p ++ d.b), .int .i64 d.wt, .slice pa d.prs.length pc] 28)) 31 rfl (.tmp 73) (.tmp 75) rfl 28 _ 5 72 Tryz.underlying31 info28n rfl (by decide) (by decide) w3.heap.size u7 i (encL encDo dvs) rfl ((A.out.2.row.alloc _).alloc _) (.slice (some ⟨wr.heap.size + 1, 0, none⟩) 1 1) 1 [.int .u8 d.op, .string (p ++ d.a), .string (p ++ d.b), .int .i64 d.wt, .slice pa d.prs.length pc] rfl (yield2 wr _ _ rfl) rfl (by simp [Value.oneCell']) (by have := HN.out.1; omega) (by have := SZ.out; simp; omega) ?_)))
            intro v7 w4 ho7 f4 at7
            obtain ⟨b7, cap7, rfl, -, -⟩ := own_slice ho7
            have O7 := Lib.hid (And.intro ho7 f4)
            have FA2 := Lib.hid (((Fr.refl (fun _ => False) wr).alloc (.cells #[.int .u8 d.op, .string (p ++ d.a), .string (p ++ d.b), .int .i64 d.wt, .slice pa d.prs.length pc] 28)).alloc (.cells #[.int .u8 d.op, .string (p ++ d.a), .string (p ++ d.b), .int .i64 d.wt, .slice pa d.prs.length pc] 28))
            clear ho7 f4 at7
            go_wp2_with fail
            go_roundg (gk - 1)
            case measure => have := A.out.1; omega
            case rel => exact ⟨i + 1, _, by have := A.out.1; omega, by simp [w64n (Nat.le_trans HN.out.1 (by decide)) hi], OL.step A.out.2 PV.out.2.1 PV.out.1 FA2.out O7.out.1 O7.out.2⟩
          · have hi' : i = ds.length := by have := A.out.1; omega
            subst hi'
            obtain ⟨a7, cap7, rfl, -, -⟩ := own_slice A.out.2.row
            have FW := Lib.hid ((FB.out.trans0 F3.out).trans0 A.out.2.fr)
            have DO := Lib.hid (A.out.2.last (Fr.refl _ wr))
            have KW := Lib.hid (KB.out.fr (F3.out.trans0 A.out.2.fr) (fun q => q))
            have HDW := Lib.hid (HD3.out.fr A.out.2.fr)
            have EW := Lib.hid (E0.out.fr FW.out (fun _ q => q.elim))
            have HNM := Lib.hid (names_run p b0 b1 b2 b3 b4 b5 ds FX.out.1.1 (by have := HN.out.1; omega))
            have HFR := Lib.hid (ren_fit (p := p) FX.out.1.1)
            have HLD := Lib.hid (show (ds.map (DoIn.ren fun x => p ++ x)).length = ds.length from List.length_map ..)
            generalize ds.map (DoIn.ren fun x => p ++ x) = dr at *
            have k0 := KW.out.cell 0 _ rfl; have k1 := KW.out.cell 1 _ rfl; have k2 := KW.out.cell 2 _ rfl; have k3 := KW.out.cell 3 _ rfl; have k4 := KW.out.cell 4 _ rfl; have k5 := KW.out.cell 5 _ rfl; have k6 := KW.out.cell 6 _ rfl
            go_upto_region 14 with fail
            go_cut [10, 11] from 78 (fun s10 s11 wx => ∃ (va vb : Value) (la lb : Nat), s10 = va ∧ s11 = vb ∧ TellsAt wx la va ((kst b0 b1 b2 b3 b4 b5 0).run ds) ∧ TellsAt wx lb vb ((kst b0 b1 b2 b3 b4 b5 0).run dr) ∧ Fr0 wr wx)
            case first =>
              go_region_held3 (fun w' => w'.cell? ⟨w.heap.size, 0, none⟩ = some (.bool b0) ∧ w'.cell? ⟨w.heap.size, 1, none⟩ = some (.bool b1) ∧ w'.cell? ⟨w.heap.size, 2, none⟩ = some (.bool b2) ∧ w'.cell? ⟨w.heap.size, 3, none⟩ = some (.bool b3) ∧ w'.cell? ⟨w.heap.size, 4, none⟩ = some (.bool b4) ∧ w'.cell? ⟨w.heap.size, 5, none⟩ = some (.bool b5) ∧ w'.cell? ⟨w.heap.size, 6, none⟩ = some (.int .u8 0)) (go_keep)
               (first
               | (go_at_call_of 20 (Value.slice av ds.length cv)
                  refine (dto _ (.slice av ds.length cv) ds (HDW.out.fr (show Fr0 wr _ from by (repeat' (first | (with_reducible exact Fr.refl _ _) | (with_reducible assumption) | (with_reducible refine Fr.drew ?_) | (with_reducible refine Fr.drewN ?_ _) | (with_reducible refine Fr.alloc ?_ _) | ((with_reducible refine Fr.setM ?_ (.inl ?_) _ _); rotate_left; focus (simp; done)) | ((with_reducible refine Fr.setCell ?_ (.inr ?_) _); rotate_left; focus (simp; done)) | ((with_reducible refine Fr.setCell ?_ (.inr ?_) _); rotate_left; focus (simp; omega)))))) (by have := HN.out.1; omega) (fun d hd => by have := (FX.out.1.1 d hd).prs; omega)).mono ?_
                  rintro e wq ⟨aoA, capA, rfl, hdA, fA⟩
                  have GW : Fr0 wr wq := Fr.trans0 (by (repeat' (first | (with_reducible exact Fr.refl _ _) | (with_reducible assumption) | (with_reducible refine Fr.drew ?_) | (with_reducible refine Fr.drewN ?_ _) | (with_reducible refine Fr.alloc ?_ _) | ((with_reducible refine Fr.setM ?_ (.inl ?_) _ _); rotate_left; focus (simp; done)) | ((with_reducible refine Fr.setCell ?_ (.inr ?_) _); rotate_left; focus (simp; done)) | ((with_reducible refine Fr.setCell ?_ (.inr ?_) _); rotate_left; focus (simp; omega))))) fA
                  have DA := Lib.hid hdA
                  try have DB := Lib.hid (DB.out.fr (Fr.trans0 (by (repeat' (first | (with_reducible exact Fr.refl _ _) | (with_reducible assumption) | (with_reducible refine Fr.drew ?_) | (with_reducible refine Fr.drewN ?_ _) | (with_reducible refine Fr.alloc ?_ _) | ((with_reducible refine Fr.setM ?_ (.inl ?_) _ _); rotate_left; focus (simp; done)) | ((with_reducible refine Fr.setCell ?_ (.inr ?_) _); rotate_left; focus (simp; done)) | ((with_reducible refine Fr.setCell ?_ (.inr ?_) _); rotate_left; focus (simp; omega))))) fA))
                  try have TB := Lib.hid (TB.out.fr (Fr.trans0 (by (repeat' (first | (with_reducible exact Fr.refl _ _) | (with_reducible assumption) | (with_reducible refine Fr.drew ?_) | (with_reducible refine Fr.drewN ?_ _) | (with_reducible refine Fr.alloc ?_ _) | ((with_reducible refine Fr.setM ?_ (.inl ?_) _ _); rotate_left; focus (simp; done)) | ((with_reducible refine Fr.setCell ?_ (.inr ?_) _); rotate_left; focus (simp; done)) | ((with_reducible refine Fr.setCell ?_ (.inr ?_) _); rotate_left; focus (simp; omega))))) fA))
                  clear hdA fA
                  have k0 := (KW.out.fr GW (fun q => q)).cell 0 _ rfl; have k1 := (KW.out.fr GW (fun q => q)).cell 1 _ rfl; have k2 := (KW.out.fr GW (fun q => q)).cell 2 _ rfl; have k3 := (KW.out.fr GW (fun q => q)).cell 3 _ rfl; have k4 := (KW.out.fr GW (fun q => q)).cell 4 _ rfl; have k5 := (KW.out.fr GW (fun q => q)).cell 5 _ rfl; have k6 := (KW.out.fr GW (fun q => q)).cell 6 _ rfl)
               | (go_at_call_of 20 (Value.slice a7 ds.length cap7)
                  refine (dto _ (.slice a7 ds.length cap7) dr (DO.out.fr (show Fr0 wr _ from by (repeat' (first | (with_reducible exact Fr.refl _ _) | (with_reducible assumption) | (with_reducible refine Fr.drew ?_) | (with_reducible refine Fr.drewN ?_ _) | (with_reducible refine Fr.alloc ?_ _) | ((with_reducible refine Fr.setM ?_ (.inl ?_) _ _); rotate_left; focus (simp; done)) | ((with_reducible refine Fr.setCell ?_ (.inr ?_) _); rotate_left; focus (simp; done)) | ((with_reducible refine Fr.setCell ?_ (.inr ?_) _); rotate_left; focus (simp; omega)))))) (by have := HN.out.1; have := HLD.out; omega) (fun d hd => by have := (HFR.out d hd).prs; omega)).mono ?_
                  rintro e wq ⟨aoB, capB, rfl, hdB, fB⟩
                  have GW : Fr0 wr wq := Fr.trans0 (by (repeat' (first | (with_reducible exact Fr.refl _ _) | (with_reducible assumption) | (with_reducible refine Fr.drew ?_) | (with_reducible refine Fr.drewN ?_ _) | (with_reducible refine Fr.alloc ?_ _) | ((with_reducible refine Fr.setM ?_ (.inl ?_) _ _); rotate_left; focus (simp; done)) | ((with_reducible refine Fr.setCell ?_ (.inr ?_) _); rotate_left; focus (simp; done)) | ((with_reducible refine Fr.setCell ?_ (.inr ?_) _); rotate_left; focus (simp; omega))))) fB
                  have DB := Lib.hid hdB
                  try have DA := Lib.hid (DA.out.fr (Fr.trans0 (by (repeat' (first | (with_reducible exact Fr.refl _ _) | (with_reducible assumption) | (with_reducible refine Fr.drew ?_) | (with_reducible refine Fr.drewN ?_ _) | (with_reducible refine Fr.alloc ?_ _) | ((with_reducible refine Fr.setM ?_ (.inl ?_) _ _); rotate_left; focus (simp; done)) | ((with_reducible refine Fr.setCell ?_ (.inr ?_) _); rotate_left; focus (simp; done)) | ((with_reducible refine Fr.setCell ?_ (.inr ?_) _); rotate_left; focus (simp; omega))))) fB))
                  try have TA := Lib.hid (TA.out.fr (Fr.trans0 (by (repeat' (first | (with_reducible exact Fr.refl _ _) | (with_reducible assumption) | (with_reducible refine Fr.drew ?_) | (with_reducible refine Fr.drewN ?_ _) | (with_reducible refine Fr.alloc ?_ _) | ((with_reducible refine Fr.setM ?_ (.inl ?_) _ _); rotate_left; focus (simp; done)) | ((with_reducible refine Fr.setCell ?_ (.inr ?_) _); rotate_left; focus (simp; done)) | ((with_reducible refine Fr.setCell ?_ (.inr ?_) _); rotate_left; focus (simp; omega))))) fB))
                  clear hdB fB
                  have k0 := (KW.out.fr GW (fun q => q)).cell 0 _ rfl; have k1 := (KW.out.fr GW (fun q => q)).cell 1 _ rfl; have k2 := (KW.out.fr GW (fun q => q)).cell 2 _ rfl; have k3 := (KW.out.fr GW (fun q => q)).cell 3 _ rfl; have k4 := (KW.out.fr GW (fun q => q)).cell 4 _ rfl; have k5 := (KW.out.fr GW (fun q => q)).cell 5 _ rfl; have k6 := (KW.out.fr GW (fun q => q)).cell 6 _ rfl)
               | (go_at_call_of 19 (Value.slice aoA ds.length capA)
                  refine (runA _ b0 b1 b2 b3 b4 b5 0 (by decide) FX.out.2.2 aoA ds.length capA ds (DA.out.fr (by (repeat' (first | (with_reducible exact Fr.refl _ _) | (with_reducible assumption) | (with_reducible refine Fr.drew ?_) | (with_reducible refine Fr.drewN ?_ _) | (with_reducible refine Fr.alloc ?_ _) | ((with_reducible refine Fr.setM ?_ (.inl ?_) _ _); rotate_left; focus (simp; done)) | ((with_reducible refine Fr.setCell ?_ (.inr ?_) _); rotate_left; focus (simp; done)) | ((with_reducible refine Fr.setCell ?_ (.inr ?_) _); rotate_left; focus (simp; omega)))))) B eb (EW.out.fr (show Fr0 wr _ from by (repeat' (first | (with_reducible exact Fr.refl _ _) | (with_reducible assumption) | (with_reducible refine Fr.drew ?_) | (with_reducible refine Fr.drewN ?_ _) | (with_reducible refine Fr.alloc ?_ _) | ((with_reducible refine Fr.setM ?_ (.inl ?_) _ _); rotate_left; focus (simp; done)) | ((with_reducible refine Fr.setCell ?_ (.inr ?_) _); rotate_left; focus (simp; done)) | ((with_reducible refine Fr.setCell ?_ (.inr ?_) _); rotate_left; focus (simp; omega))))) (fun _ q => q.elim)) (by have := HN.out.1; omega) (fun d hd => (FX.out.1.1 d hd).fit 0)).mono ?_
                  rintro e wq ⟨vA, rfl, htA, fA⟩
                  have GW : Fr0 wr wq := Fr.trans0 (by (repeat' (first | (with_reducible exact Fr.refl _ _) | (with_reducible assumption) | (with_reducible refine Fr.drew ?_) | (with_reducible refine Fr.drewN ?_ _) | (with_reducible refine Fr.alloc ?_ _) | ((with_reducible refine Fr.setM ?_ (.inl ?_) _ _); rotate_left; focus (simp; done)) | ((with_reducible refine Fr.setCell ?_ (.inr ?_) _); rotate_left; focus (simp; done)) | ((with_reducible refine Fr.setCell ?_ (.inr ?_) _); rotate_left; focus (simp; omega))))) fA
                  have TA := Lib.hid htA
                  try have DB := Lib.hid (DB.out.fr (Fr.trans0 (by (repeat' (first | (with_reducible exact Fr.refl _ _) | (with_reducible assumption) | (with_reducible refine Fr.drew ?_) | (with_reducible refine Fr.drewN ?_ _) | (with_reducible refine Fr.alloc ?_ _) | ((with_reducible refine Fr.setM ?_ (.inl ?_) _ _); rotate_left; focus (simp; done)) | ((with_reducible refine Fr.setCell ?_ (.inr ?_) _); rotate_left; focus (simp; done)) | ((with_reducible refine Fr.setCell ?_ (.inr ?_) _); rotate_left; focus (simp; omega))))) fA))
                  try have TB := Lib.hid (TB.out.fr (Fr.trans0 (by (repeat' (first | (with_reducible exact Fr.refl _ _) | (with_reducible assumption) | (with_reducible refine Fr.drew ?_) | (with_reducible refine Fr.drewN ?_ _) | (with_reducible refine Fr.alloc ?_ _) | ((with_reducible refine Fr.setM ?_ (.inl ?_) _ _); rotate_left; focus (simp; done)) | ((with_reducible refine Fr.setCell ?_ (.inr ?_) _); rotate_left; focus (simp; done)) | ((with_reducible refine Fr.setCell ?_ (.inr ?_) _); rotate_left; focus (simp; omega))))) fA))
                  clear htA fA DA
                  have k0 := (KW.out.fr GW (fun q => q)).cell 0 _ rfl; have k1 := (KW.out.fr GW (fun q => q)).cell 1 _ rfl; have k2 := (KW.out.fr GW (fun q => q)).cell 2 _ rfl; have k3 := (KW.out.fr GW (fun q => q)).cell 3 _ rfl; have k4 := (KW.out.fr GW (fun q => q)).cell 4 _ rfl; have k5 := (KW.out.fr GW (fun q => q)).cell 5 _ rfl; have k6 := (KW.out.fr GW (fun q => q)).cell 6 _ rfl)
               | (go_at_call_of 19 (Value.slice aoB dr.length capB)
                  refine (runA _ b0 b1 b2 b3 b4 b5 0 (by decide) FX.out.2.2 aoB dr.length capB dr (DB.out.fr (by (repeat' (first | (with_reducible exact Fr.refl _ _) | (with_reducible assumption) | (with_reducible refine Fr.drew ?_) | (with_reducible refine Fr.drewN ?_ _) | (with_reducible refine Fr.alloc ?_ _) | ((with_reducible refine Fr.setM ?_ (.inl ?_) _ _); rotate_left; focus (simp; done)) | ((with_reducible refine Fr.setCell ?_ (.inr ?_) _); rotate_left; focus (simp; done)) | ((with_reducible refine Fr.setCell ?_ (.inr ?_) _); rotate_left; focus (simp; omega)))))) B eb (EW.out.fr (show Fr0 wr _ from by (repeat' (first | (with_reducible exact Fr.refl _ _) | (with_reducible assumption) | (with_reducible refine Fr.drew ?_) | (with_reducible refine Fr.drewN ?_ _) | (with_reducible refine Fr.alloc ?_ _) | ((with_reducible refine Fr.setM ?_ (.inl ?_) _ _); rotate_left; focus (simp; done)) | ((with_reducible refine Fr.setCell ?_ (.inr ?_) _); rotate_left; focus (simp; done)) | ((with_reducible refine Fr.setCell ?_ (.inr ?_) _); rotate_left; focus (simp; omega))))) (fun _ q => q.elim)) (by have := HN.out.1; have := HLD.out; omega) HFR.out).mono ?_
                  rintro e wq ⟨vB, rfl, htB, fB⟩
                  have GW : Fr0 wr wq := Fr.trans0 (by (repeat' (first | (with_reducible exact Fr.refl _ _) | (with_reducible assumption) | (with_reducible refine Fr.drew ?_) | (with_reducible refine Fr.drewN ?_ _) | (with_reducible refine Fr.alloc ?_ _) | ((with_reducible refine Fr.setM ?_ (.inl ?_) _ _); rotate_left; focus (simp; done)) | ((with_reducible refine Fr.setCell ?_ (.inr ?_) _); rotate_left; focus (simp; done)) | ((with_reducible refine Fr.setCell ?_ (.inr ?_) _); rotate_left; focus (simp; omega))))) fB
                  have TB := Lib.hid htB
                  try have DA := Lib.hid (DA.out.fr (Fr.trans0 (by (repeat' (first | (with_reducible exact Fr.refl _ _) | (with_reducible assumption) | (with_reducible refine Fr.drew ?_) | (with_reducible refine Fr.drewN ?_ _) | (with_reducible refine Fr.alloc ?_ _) | ((with_reducible refine Fr.setM ?_ (.inl ?_) _ _); rotate_left; focus (simp; done)) | ((with_reducible refine Fr.setCell ?_ (.inr ?_) _); rotate_left; focus (simp; done)) | ((with_reducible refine Fr.setCell ?_ (.inr ?_) _); rotate_left; focus (simp; omega))))) fB))
                  try have TA := Lib.hid (TA.out.fr (Fr.trans0 (by (repeat' (first | (with_reducible exact Fr.refl _ _) | (with_reducible assumption) | (with_reducible refine Fr.drew ?_) | (with_reducible refine Fr.drewN ?_ _) | (with_reducible refine Fr.alloc ?_ _) | ((with_reducible refine Fr.setM ?_ (.inl ?_) _ _); rotate_left; focus (simp; done)) | ((with_reducible refine Fr.setCell ?_ (.inr ?_) _); rotate_left; focus (simp; done)) | ((with_reducible refine Fr.setCell ?_ (.inr ?_) _); rotate_left; focus (simp; omega))))) fB))
                  clear htB fB DB
                  have k0 := (KW.out.fr GW (fun q => q)).cell 0 _ rfl; have k1 := (KW.out.fr GW (fun q => q)).cell 1 _ rfl; have k2 := (KW.out.fr GW (fun q => q)).cell 2 _ rfl; have k3 := (KW.out.fr GW (fun q => q)).cell 3 _ rfl; have k4 := (KW.out.fr GW (fun q => q)).cell 4 _ rfl; have k5 := (KW.out.fr GW (fun q => q)).cell 5 _ rfl; have k6 := (KW.out.fr GW (fun q => q)).cell 6 _ rfl)
               | fail)
              all_goals
                go_wp2_with fail
                go_meet
                case rel => exact ⟨_, _, _, _, rfl, rfl, TA.out.fr (by (repeat' (first | (with_reducible exact Fr.refl _ _) | (with_reducible assumption) | (with_reducible refine Fr.drew ?_) | (with_reducible refine Fr.drewN ?_ _) | (with_reducible refine Fr.alloc ?_ _) | ((with_reducible refine Fr.setM ?_ (.inl ?_) _ _); rotate_left; focus (simp; done)) | ((with_reducible refine Fr.setCell ?_ (.inr ?_) _); rotate_left; focus (simp; done)) | ((with_reducible refine Fr.setCell ?_ (.inr ?_) _); rotate_left; focus (simp; omega))))), TB.out.fr (by (repeat' (first | (with_reducible exact Fr.refl _ _) | (with_reducible assumption) | (with_reducible refine Fr.drew ?_) | (with_reducible refine Fr.drewN ?_ _) | (with_reducible refine Fr.alloc ?_ _) | ((with_reducible refine Fr.setM ?_ (.inl ?_) _ _); rotate_left; focus (simp; done)) | ((with_reducible refine Fr.setCell ?_ (.inr ?_) _); rotate_left; focus (simp; done)) | ((with_reducible refine Fr.setCell ?_ (.inr ?_) _); rotate_left; focus (simp; omega))))), by (repeat' (first | (with_reducible exact Fr.refl _ _) | (with_reducible assumption) | (with_reducible refine Fr.drew ?_) | (with_reducible refine Fr.drewN ?_ _) | (with_reducible refine Fr.alloc ?_ _) | ((with_reducible refine Fr.setM ?_ (.inl ?_) _ _); rotate_left; focus (simp; done)) | ((with_reducible refine Fr.setCell ?_ (.inr ?_) _); rotate_left; focus (simp; done)) | ((with_reducible refine Fr.setCell ?_ (.inr ?_) _); rotate_left; focus (simp; omega))))⟩
            case rest =>
              obtain ⟨va, vb, la, lb, e10, e11, ta, tb, fx⟩ := hcut
              have hla : ((kst b0 b1 b2 b3 b4 b5 0).run ds).length = ds.length := St.run_length _ _
              have hlb : ((kst b0 b1 b2 b3 b4 b5 0).run dr).length = ds.length := (St.run_length _ _).trans HLD.out
              generalize (kst b0 b1 b2 b3 b4 b5 0).run ds = tsa at *
              generalize (kst b0 b1 b2 b3 b4 b5 0).run dr = tsb at *
              obtain ⟨aa, ca, ea, -⟩ := id ta
              obtain ⟨ab, cb, eb', -⟩ := id tb
              rw [ea] at ta e10
              rw [eb'] at tb e11
              subst e10 e11
              clear ea eb'
              have FX0 := Lib.hid (FW.out.trans0 fx)
              have TA := Lib.hid (And.intro ta (And.intro hla (And.intro tb hlb)))
              rw [hla, hlb]
              clear ta tb hla hlb fx
              go_wp2_with fail
              go_loopg [100] ds.length (fun n c wr => ∃ i : Nat, n + i = ds.length ∧ c = .int .i64 (i : Nat) ∧ Fr0 wc wr)
              case atStart => exact ⟨0, rfl, rfl, Fr.refl _ _⟩
              case round =>
                obtain ⟨i, hki, rfl, f⟩ := hrel
                have A := Lib.hid (And.intro hki f)
                clear hki f
                obtain ⟨ko, rfl⟩ : ∃ ko : Nat, ko = gk := ⟨_, rfl⟩
                by_cases hi : i < ds.length
                · have hit : i < tsa.length := by have := TA.out.2.1; omega
                  have hg := List.getElem?_eq_getElem hit
                  generalize tsa[i] = t at hg
                  obtain ⟨t', hg', hok⟩ := HNM.out i t hg
                  have HOK := Lib.hid hok
                  obtain ⟨_, _, e, -, hr⟩ := TA.out.1.fr A.out.2
                  cases e
                  obtain ⟨oa, pva, kva, lva, e, hoa, -, c0, c1, c2, c3, c4, c5, c6, c7, c8, c9, hpa, hka, hlka⟩ := hr i t hg
                  cases e
                  obtain ⟨_, _, e, -, hr'⟩ := TA.out.2.2.1.fr A.out.2
                  cases e
                  obtain ⟨ob, pvb, kvb, lvb, e, hob, -, d0, d1, d2, d3, d4, d5, d6, d7, d8, d9, hpb, hkb, hlkb⟩ := hr' i t' hg'
                  cases e
                  obtain ⟨xa, xc, rfl⟩ := hpa.form
                  obtain ⟨⟨ka, kc, rfl, -, -⟩, -⟩ := id hka
                  obtain ⟨lka, lc, rfl, -⟩ := hlka.form
                  rw [hok.ren.pairs] at hpb
                  obtain ⟨ya, yc, rfl⟩ := hpb.form
                  obtain ⟨⟨kb, kbc, rfl, -, -⟩, -⟩ := id hkb
                  rw [hok.ren.links] at hlkb
                  obtain ⟨lkb, lbc, rfl, -⟩ := hlkb.form
                  rw [List.length_map] at d9
                  rw [hok.ren.err] at d0
                  rw [hok.ren.wt] at d4
                  rw [hok.ren.order] at d5
                  rw [hok.ren.size] at d6
                  have PP2 := Lib.hid (And.intro hpa (And.intro hpb (And.intro hlka hlkb)))
                  have hoa2 := Nat.ne_of_lt hoa
                  have hob2 := Nat.ne_of_lt hob
                  have V1 := Lib.hid ((Cells.new wr #[.int .u8 t.err, .string t.value, .string t.src, .string t.dst, .int .i64 t.wt, .int .i64 t.order, .int .i64 t.size, .slice xa t.pairs.length xc, .slice ka t.keys.length kc, .slice lka t.links.length lc] 44).alloc (.cells #[.int .u8 t.err, .string t'.value, .string t'.src, .string t'.dst, .int .i64 t.wt, .int .i64 t.order, .int .i64 t.size, .slice ya t.pairs.length yc, .slice kb t'.keys.length kbc, .slice lkb t.links.length lbc] 44))
                  have V2 : Cells ((wr.alloc (.cells #[.int .u8 t.err, .string t.value, .string t.src, .string t.dst, .int .i64 t.wt, .int .i64 t.order, .int .i64 t.size, .slice xa t.pairs.length xc, .slice ka t.keys.length kc, .slice lka t.links.length lc] 44)).alloc (.cells #[.int .u8 t.err, .string t'.value, .string t'.src, .string t'.dst, .int .i64 t.wt, .int .i64 t.order, .int .i64 t.size, .slice ya t.pairs.length yc, .slice kb t'.keys.length kbc, .slice lkb t.links.length lbc] 44)) (wr.heap.size + 1) #[.int .u8 t.err, .string t'.value, .string t'.src, .string t'.dst, .int .i64 t.wt, .int .i64 t.order, .int .i64 t.size, .slice ya t.pairs.length yc, .slice kb t'.keys.length kbc, .slice lkb t.links.length lbc] 44 := by
                    have z := Cells.new (wr.alloc (.cells #[.int .u8 t.err, .string t.value, .string t.src, .string t.dst, .int .i64 t.wt, .int .i64 t.order, .int .i64 t.size, .slice xa t.pairs.length xc, .slice ka t.keys.length kc, .slice lka t.links.length lc] 44)) #[.int .u8 t.err, .string t'.value, .string t'.src, .string t'.dst, .int .i64 t.wt, .int .i64 t.order, .int .i64 t.size, .slice ya t.pairs.length yc, .slice kb t'.keys.length kbc, .slice lkb t.links.length lbc] 44
                    rwa [show (wr.alloc (.cells #[.int .u8 t.err, .string t.value, .string t.src, .string t.dst, .int .i64 t.wt, .int .i64 t.order, .int .i64 t.size, .slice xa t.pairs.length xc, .slice ka t.keys.length kc, .slice lka t.links.length lc] 44)).heap.size = wr.heap.size + 1 from by simp] at z
                  have V2 := Lib.hid V2
                  have FU := Lib.hid (((Fr.refl (fun _ => False) wr).alloc (.cells #[.int .u8 t.err, .string t.value, .string t.src, .string t.dst, .int .i64 t.wt, .int .i64 t.order, .int .i64 t.size, .slice xa t.pairs.length xc, .slice ka t.keys.length kc, .slice lka t.links.length lc] 44)).alloc (.cells #[.int .u8 t.err, .string t'.value, .string t'.src, .string t'.dst, .int .i64 t.wt, .int .i64 t.order, .int .i64 t.size, .slice ya t.pairs.length yc, .slice kb t'.keys.length kbc, .slice lkb t.links.length lbc] 44))
                  clear hr hr' hg hg' hok hpa hka hlka hpb hkb hlkb
                  go_wp2_with fail
                  generalize (wr.alloc (.cells #[.int .u8 t.err, .string t.value, .string t.src, .string t.dst, .int .i64 t.wt, .int .i64 t.order, .int .i64 t.size, .slice xa t.pairs.length xc, .slice ka t.keys.length kc, .slice lka t.links.length lc] 44)).alloc (.cells #[.int .u8 t.err, .string t'.value, .string t'.src, .string t'.dst, .int .i64 t.wt, .int .i64 t.order, .int .i64 t.size, .slice ya t.pairs.length yc, .slice kb t'.keys.length kbc, .slice lkb t.links.length lbc] 44) = U at *
                  refine (equal32 U _ _ t.pairs (PairsIn.at_ (PP2.out.1.fr FU.out (fun _ _ _ q => q))) (PairsIn.at_ (PP2.out.2.1.fr FU.out (fun _ _ _ q => q))) HOK.out.brief.prs).mono ?_
                  rintro e w9 ⟨rfl, f9⟩
                  have W1 := Lib.hid (V1.out.fr f9 (fun q => q))
                  have W2 := Lib.hid (V2.out.fr f9 (fun q => q))
                  have F9 := Lib.hid (FU.out.trans0 f9)
                  have LL := Lib.hid (And.intro (PP2.out.2.2.1.fr F9.out (fun _ _ _ q => q)) (PP2.out.2.2.2.fr F9.out (fun _ _ _ q => q)))
                  have FX9 := Lib.hid (A.out.2.trans0 F9.out)
                  clear f9 c0 c1 c2 c3 c4 c5 c6 c7 c8 c9 d0 d1 d2 d3 d4 d5 d6 d7 d8 d9 hoa2 hob2 hoa hob
                  have y1 := W1.out.cell 1 _ rfl
                  have y9 := W1.out.cell 9 _ rfl
                  have z1 := W2.out.cell 1 _ rfl
                  have hcv : ¬ (9223372036854775807 : Int) < (p.size : Int) + (t.value.size : Int) := by have := HN.out.2.2; have := HOK.out.val; omega
                  generalize hn1 : wr.heap.size = n1 at *
                  clear hn1
                  cases hv : (t.value.toList == ([] : List UInt8)) with
                  | true =>
                    (go_wp2_with fail
                     go_loopg [169] t.links.length (fun n c wr => ∃ j : Nat, n + j = t.links.length ∧ c = .int .i64 (j : Nat) ∧ Fr0 w9 wr)
                     case atStart => exact ⟨0, rfl, rfl, Fr.refl _ _⟩
                     case round =>
                       obtain ⟨j, hkj, rfl, f⟩ := hrel
                       have C := Lib.hid (And.intro hkj f)
                       clear hkj f
                       by_cases hj : j < t.links.length
                       · have hgx := List.getElem?_eq_getElem hj
                         have hmx := List.getElem_mem hj
                         generalize t.links[j] = x at hgx hmx
                         have HXE := Lib.hid (HOK.out.ends x hmx)
                         obtain ⟨ox, cpx, xv, e, hox, -, c0, c1, c2, c3, hxv⟩ := (LL.out.1.fr C.out.2 (fun _ _ _ q => q)).at_ hgx
                         cases e
                         obtain ⟨oy, cpy, yv, e, hoy, -, d0, d1, d2, -, -⟩ := (LL.out.2.fr C.out.2 (fun _ _ _ q => q)).at_ (i := j) (x := x.ren fun x => p ++ x) (by rw [List.getElem?_map, hgx]; rfl)
                         cases e
                         obtain ⟨xva, xvc, rfl⟩ := hxv.form
                         replace d0 : wr.cell? ⟨oy, j * 4, none⟩ = some (.string (p ++ x.a)) := d0
                         replace d1 : wr.cell? ⟨oy, j * 4 + 1, none⟩ = some (.string (p ++ x.b)) := d1
                         replace d2 : wr.cell? ⟨oy, j * 4 + 2, none⟩ = some (.int .i64 x.wt) := d2
                         have FV := Lib.hid ((Fr.refl (fun _ => False) wr).alloc (.cells #[.string x.a, .string x.b, .int .i64 x.wt, .slice xva x.es.length xvc] 65))
                         have VX := Lib.hid (Cells.new wr #[.string x.a, .string x.b, .int .i64 x.wt, .slice xva x.es.length xvc] 65)
                         have DV := Lib.hid (And.intro ((FV.out.cell (p := ⟨oy, j * 4, none⟩) hoy (fun q => q)).trans d0) (And.intro ((FV.out.cell (p := ⟨oy, j * 4 + 1, none⟩) hoy (fun q => q)).trans d1) ((FV.out.cell (p := ⟨oy, j * 4 + 2, none⟩) hoy (fun q => q)).trans d2)))
                         clear hgx hmx hxv d0 d1 d2
                         go_wp2_with fail
                         clear c0 c1 c2 c3 hox hoy
                         generalize wr.alloc (.cells #[.string x.a, .string x.b, .int .i64 x.wt, .slice xva x.es.length xvc] 65) = V at *
                         have e0 := DV.out.1
                         have e1 := DV.out.2.1
                         have e2 := DV.out.2.2
                         have x0 := VX.out.cell 0 _ rfl
                         have x1 := VX.out.cell 1 _ rfl
                         have x2 := VX.out.cell 2 _ rfl
                         have m9 := (W2.out.fr (C.out.2.trans0 FV.out) (fun q => q)).cell 9 _ rfl
                         have hj0 : (0 : Int) ≤ (j : Int) := by omega
                         have hj1 : (j : Int) < (t.links.length : Int) := by omega
                         have hja : ¬ (9223372036854775807 : Int) < (p.size : Int) + (x.a.size : Int) := by have := HN.out.2.2; have := HXE.out.1; omega
                         have hjb : ¬ (9223372036854775807 : Int) < (p.size : Int) + (x.b.size : Int) := by have := HN.out.2.2; have := HXE.out.2; omega
                         go_quiet (fail)
                         go_wp2_with fail
                         go_roundg (gk - 1)
                         case measure => have := C.out.1; omega
                         case rel => exact ⟨j + 1, by have := C.out.1; omega, by simp [w64n (Nat.le_trans HOK.out.brief.lks (by decide)) hj], (C.out.2.trans0 FV.out).drewN _⟩
                       · have hj' : j = t.links.length := by have := C.out.1; omega
                         subst hj'
                         go_wp2_with fail
                         go_roundg (ko - 1)
                         case measure => have := A.out.1; omega
                         case rel => exact ⟨i + 1, by have := A.out.1; omega, by simp [w64n (Nat.le_trans HN.out.1 (by decide)) hi], FX9.out.trans0 C.out.2⟩)
                  | false =>
                    have hvn : t.value ≠ ⟨#[]⟩ := fun e => by rw [e] at hv; simp [ByteArray.toList_eq] at hv
                    rw [HOK.out.ren.value hvn] at z1
                    (go_wp2_with fail
                     go_loopg [169] t.links.length (fun n c wr => ∃ j : Nat, n + j = t.links.length ∧ c = .int .i64 (j : Nat) ∧ Fr0 w9 wr)
                     case atStart => exact ⟨0, rfl, rfl, Fr.refl _ _⟩
                     case round =>
                       obtain ⟨j, hkj, rfl, f⟩ := hrel
                       have C := Lib.hid (And.intro hkj f)
                       clear hkj f
                       by_cases hj : j < t.links.length
                       · have hgx := List.getElem?_eq_getElem hj
                         have hmx := List.getElem_mem hj
                         generalize t.links[j] = x at hgx hmx
                         have HXE := Lib.hid (HOK.out.ends x hmx)
                         obtain ⟨ox, cpx, xv, e, hox, -, c0, c1, c2, c3, hxv⟩ := (LL.out.1.fr C.out.2 (fun _ _ _ q => q)).at_ hgx
                         cases e
                         obtain ⟨oy, cpy, yv, e, hoy, -, d0, d1, d2, -, -⟩ := (LL.out.2.fr C.out.2 (fun _ _ _ q => q)).at_ (i := j) (x := x.ren fun x => p ++ x) (by rw [List.getElem?_map, hgx]; rfl)
                         cases e
                         obtain ⟨xva, xvc, rfl⟩ := hxv.form
                         replace d0 : wr.cell? ⟨oy, j * 4, none⟩ = some (.string (p ++ x.a)) := d0
                         replace d1 : wr.cell? ⟨oy, j * 4 + 1, none⟩ = some (.string (p ++ x.b)) := d1
                         replace d2 : wr.cell? ⟨oy, j * 4 + 2, none⟩ = some (.int .i64 x.wt) := d2
                         have FV := Lib.hid ((Fr.refl (fun _ => False) wr).alloc (.cells #[.string x.a, .string x.b, .int .i64 x.wt, .slice xva x.es.length xvc] 65))
                         have VX := Lib.hid (Cells.new wr #[.string x.a, .string x.b, .int .i64 x.wt, .slice xva x.es.length xvc] 65)
                         have DV := Lib.hid (And.intro ((FV.out.cell (p := ⟨oy, j * 4, none⟩) hoy (fun q => q)).trans d0) (And.intro ((FV.out.cell (p := ⟨oy, j * 4 + 1, none⟩) hoy (fun q => q)).trans d1) ((FV.out.cell (p := ⟨oy, j * 4 + 2, none⟩) hoy (fun q => q)).trans d2)))
                         clear hgx hmx hxv d0 d1 d2
                         go_wp2_with fail
                         clear c0 c1 c2 c3 hox hoy
                         generalize wr.alloc (.cells #[.string x.a, .string x.b, .int .i64 x.wt, .slice xva x.es.length xvc] 65) = V at *
                         have e0 := DV.out.1
                         have e1 := DV.out.2.1
                         have e2 := DV.out.2.2
                         have x0 := VX.out.cell 0 _ rfl
                         have x1 := VX.out.cell 1 _ rfl
                         have x2 := VX.out.cell 2 _ rfl
                         have m9 := (W2.out.fr (C.out.2.trans0 FV.out) (fun q => q)).cell 9 _ rfl
                         have hj0 : (0 : Int) ≤ (j : Int) := by omega
                         have hj1 : (j : Int) < (t.links.length : Int) := by omega
                         have hja : ¬ (9223372036854775807 : Int) < (p.size : Int) + (x.a.size : Int) := by have := HN.out.2.2; have := HXE.out.1; omega
                         have hjb : ¬ (9223372036854775807 : Int) < (p.size : Int) + (x.b.size : Int) := by have := HN.out.2.2; have := HXE.out.2; omega
                         go_quiet (fail)
                         go_wp2_with fail
                         go_roundg (gk - 1)
                         case measure => have := C.out.1; omega
                         case rel => exact ⟨j + 1, by have := C.out.1; omega, by simp [w64n (Nat.le_trans HOK.out.brief.lks (by decide)) hj], (C.out.2.trans0 FV.out).drewN _⟩
                       · have hj' : j = t.links.length := by have := C.out.1; omega
                         subst hj'
                         go_wp2_with fail
                         go_roundg (ko - 1)
                         case measure => have := A.out.1; omega
                         case rel => exact ⟨i + 1, by have := A.out.1; omega, by simp [w64n (Nat.le_trans HN.out.1 (by decide)) hi], FX9.out.trans0 C.out.2⟩)
                · have hi' : i = ds.length := by have := A.out.1; omega
                  subst hi'
                  go_wp2_with fail
                  refine (aw17 wr B eb (E0.out.fr (FX0.out.trans0 A.out.2) (fun _ q => q.elim))).mono ?_
                  rintro e w9 ⟨rfl, f9⟩
                  go_wp2_with fail
                  go_ret
                  exact ⟨rfl, (FX0.out.trans0 A.out.2).trans0 f9⟩
end Go.Proofs.YtbafaadmlpamiaaGreatDoor
