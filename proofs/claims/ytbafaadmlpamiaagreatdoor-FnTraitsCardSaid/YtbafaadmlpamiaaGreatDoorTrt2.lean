/- FnTraits: the walk. -/
import Derived.Test.YtbafaadmlpamiaaGreatDoorE4
import Derived.Test.YtbafaadmlpamiaaGreatDoorSpec3
import Derived.Test.YtbafaadmlpamiaaGreatDoorSpec4
namespace Go.Proofs.YtbafaadmlpamiaaGreatDoor
open Go Go.Hy Go.RowKit

theorem guard76 : Tryz.prog.eqGuardType Tryz.prog.depth 76 = false := by kernel_rfl

theorem eqTs (w : World) (a b c d e : Bool) : (Op.equalIn 10000 76 (.agg #[.bool a, .bool b, .bool c, .bool d, .bool e]) (.agg #[.bool a, .bool b, .bool c, .bool d, .bool e])).run Tryz.prog w = .ok true w := by
  have h1 : ∀ x : Bool, (Op.equalIn 9999 4 (.bool x) (.bool x)).run Tryz.prog w = .ok true w := fun x => by
    have := run_equalIn_bool w 9998 4 x x Tryz.underlying4
    simpa using this
  have h2 : (sizeOf 4).run Tryz.prog w = .ok 1 w := by kernel_rfl
  unfold Op.equalIn
  simp [run_underlying Tryz.underlying76, Result.andThen, h1, h2, part, Std.Legacy.Range.forIn_eq_forIn_range', List.range']

theorem ts_kind (b0 b1 b2 b3 b4 b5 : Bool) : (sel (kflags b0 b1 b2 b3 b4 b5)).foldl tapp TS.zero = ⟨b0, b1 || b4 || b5, b2, b3 || b4, b5⟩ := by
  cases b0 <;> cases b1 <;> cases b2 <;> cases b3 <;> cases b4 <;> cases b5 <;> rfl

theorem Cells.newB {w : World} {b : Nat} {cs : Array Value} {t : TypeId} (h : b = w.heap.size) : Cells (w.alloc (.cells cs t)) b cs t := by
  subst h
  exact Cells.new w cs t

theorem Cells.setI {w : World} {b : Nat} {cs : Array Value} {t : TypeId} (h : Cells w b cs t) (i : Nat) (v : Value) : Cells (w.setCell ⟨b, i, none⟩ v) b (cs.setIfInBounds i v) t := by
  unfold Cells at *
  simp [World.setCell, h, Array.getElem?_modify]

theorem Cells.set5 {w : World} {b : Nat} {x0 x1 x2 x3 x4 v0 v1 v2 v3 v4 : Value} {t : TypeId} (h : Cells w b #[x0, x1, x2, x3, x4] t) :
    Cells (((((w.setCell ⟨b, 0, none⟩ v0).setCell ⟨b, 1, none⟩ v1).setCell ⟨b, 2, none⟩ v2).setCell ⟨b, 3, none⟩ v3).setCell ⟨b, 4, none⟩ v4) b #[v0, v1, v2, v3, v4] t := by
  have k := Cells.setI (Cells.setI (Cells.setI (Cells.setI (Cells.setI h 0 v0) 1 v1) 2 v2) 3 v3) 4 v4
  simpa using k

theorem Cells.offI {w : World} {b c : Nat} {cs : Array Value} {t : TypeId} (h : Cells w b cs t) (i : Nat) (v : Value) (hn : b ≠ c) : Cells (w.setCell ⟨c, i, none⟩ v) b cs t :=
  Cells.fr h (Fr.setCell (S := fun x => x = c) (Fr.refl _ _) (.inl rfl) v) hn

/-- a box of traits -/
def TBx (w : World) (n : Nat) (t : TS) : Prop :=
  n < w.heap.size ∧ w.cell? ⟨n, 0, none⟩ = some (.bool t.d) ∧ w.cell? ⟨n, 1, none⟩ = some (.bool t.a) ∧ w.cell? ⟨n, 2, none⟩ = some (.bool t.we) ∧ w.cell? ⟨n, 3, none⟩ = some (.bool t.ro) ∧ w.cell? ⟨n, 4, none⟩ = some (.bool t.pr)

theorem TBx.of {w : World} {n : Nat} {t : TS} (h : Cells w n #[.bool t.d, .bool t.a, .bool t.we, .bool t.ro, .bool t.pr] 76) : TBx w n t :=
  ⟨h.lt, h.cell 0 _ rfl, h.cell 1 _ rfl, h.cell 2 _ rfl, h.cell 3 _ rfl, h.cell 4 _ rfl⟩

set_option linter.unusedSimpArgs false in
set_option maxRecDepth 100000 in
set_option maxHeartbeats 16000000 in
theorem fp13 (w : World) (b0 b1 b2 b3 b4 b5 : Bool) (hk : Nat) (v : Value) (ds : List DoIn) (h : SDosAt w v ds) (B : Nat) (eb : Nat → Addr) (E : ErrsOk w B eb) :
    Calls Tryz.prog 13 #[kagg b0 b1 b2 b3 b4 b5 hk, v] w fun e w' => e = .returned (.bool true) ∧ Fr0 w w' := by
  have E0 := Lib.hid E
  have HD := Lib.hid h
  clear E h
  have KB := Lib.hid (Cells.new w #[.bool b0, .bool b1, .bool b2, .bool b3, .bool b4, .bool b5, .int .u8 hk] 52)
  have FB := Lib.hid ((Fr.refl (fun _ => False) w).alloc (.cells #[.bool b0, .bool b1, .bool b2, .bool b3, .bool b4, .bool b5, .int .u8 hk] 52))
  go_enter Tryz.func13, Tryz.ntmps13
  go_wp2_with fail
  generalize w.alloc (.cells #[.bool b0, .bool b1, .bool b2, .bool b3, .bool b4, .bool b5, .int .u8 hk] 52) = W at *
  refine (zz1 W v ds (HD.out.fr FB.out)).mono ?_
  rintro e w1 ⟨r, rfl, hr, f1⟩
  have F1 := Lib.hid f1
  have HR1 := Lib.hid hr
  clear hr f1
  cases r with
  | false =>
    go_wp2_with fail
    go_ret
    exact ⟨rfl, FB.out.trans0 F1.out⟩
  | true =>
    have KB1 := Lib.hid (KB.out.fr F1.out (fun q => q))
    have k0 := KB1.out.cell 0 _ rfl
    have k1 := KB1.out.cell 1 _ rfl
    have k2 := KB1.out.cell 2 _ rfl
    have k3 := KB1.out.cell 3 _ rfl
    have k4 := KB1.out.cell 4 _ rfl
    have k5 := KB1.out.cell 5 _ rfl
    have k6 := KB1.out.cell 6 _ rfl
    go_wp2_with fail
    refine (kindr w1 b0 b1 b2 b3 b4 b5 hk).mono ?_
    rintro e w2 ⟨r2, rfl, hr2, f2⟩
    have F2 := Lib.hid (F1.out.trans0 f2)
    have HR2 := Lib.hid hr2
    have KB2 := Lib.hid (KB.out.fr F2.out (fun q => q))
    clear hr2 f2 k0 k1 k2 k3 k4 k5 k6
    have k0 := KB2.out.cell 0 _ rfl
    have k1 := KB2.out.cell 1 _ rfl
    have k2 := KB2.out.cell 2 _ rfl
    have k3 := KB2.out.cell 3 _ rfl
    have k4 := KB2.out.cell 4 _ rfl
    have k5 := KB2.out.cell 5 _ rfl
    have k6 := KB2.out.cell 6 _ rfl
    cases r2 with
    | false => (go_wp2_with fail; refine (aw17 w2 B eb (E0.out.fr (FB.out.trans0 F2.out) (fun _ q => q.elim))).mono ?_; rintro e w9 ⟨rfl, f9⟩; have F9 := Lib.hid f9; clear f9; go_wp2_with fail; go_ret; exact ⟨rfl, (FB.out.trans0 F2.out).trans0 F9.out⟩)
    | true =>
      have HL := HR1.out trivial
      go_wp2_with fail
      refine (dright w2 v ds ((HD.out.fr FB.out).fr F2.out) HL.1 HL.2 b0 60).mono ?_
      rintro e w3 ⟨r3, rfl, hr3, f3⟩
      have F3 := Lib.hid (F2.out.trans0 f3)
      have HR3 := Lib.hid hr3
      have KB3 := Lib.hid (KB.out.fr F3.out (fun q => q))
      clear hr3 f3 k0 k1 k2 k3 k4 k5 k6
      have k0 := KB3.out.cell 0 _ rfl
      have k1 := KB3.out.cell 1 _ rfl
      have k2 := KB3.out.cell 2 _ rfl
      have k3 := KB3.out.cell 3 _ rfl
      have k4 := KB3.out.cell 4 _ rfl
      have k5 := KB3.out.cell 5 _ rfl
      have k6 := KB3.out.cell 6 _ rfl
      cases r3 with
      | false => (go_wp2_with fail; refine (aw17 w3 B eb (E0.out.fr (FB.out.trans0 F3.out) (fun _ q => q.elim))).mono ?_; rintro e w9 ⟨rfl, f9⟩; have F9 := Lib.hid f9; clear f9; go_wp2_with fail; go_ret; exact ⟨rfl, (FB.out.trans0 F3.out).trans0 F9.out⟩)
      | true =>
        have RD := HR3.out (by first | rfl | trivial)
        have RK := HR2.out trivial
        have FX := Lib.hid (And.intro RD RK)
        have kl := KB3.out.lt
        clear RD RK HL
        go_wp2_with fail
        go_cut [5, 6, 7, 8] from 24 (fun s5 s6 s7 s8 wx => ∃ n5 n6 : Nat, s5 = .pointer (some ⟨n5, 0, none⟩) ∧ s6 = .pointer (some ⟨n6, 0, none⟩) ∧ s7 = .int .i64 0 ∧ s8 = .int .i64 0 ∧ TBx wx n5 ⟨b0, b1 || b4 || b5, b2, b3 || b4, b5⟩ ∧ TBx wx n6 ⟨b0, b1 || b4 || b5, b2, b3 || b4, b5⟩ ∧ Fr0 w3 wx)
        case first =>
          go_region_with (first
            | (go_at_call 20
               go_must (refine (dto _ _ ds (HD.out.fr ((FB.out.trans0 F3.out).trans0 (show Fr0 w3 _ from by (repeat' (first | (with_reducible exact Fr.refl _ _) | (with_reducible assumption) | (with_reducible refine Fr.drew ?_) | (with_reducible refine Fr.drewN ?_ _) | (with_reducible refine Fr.alloc ?_ _) | ((with_reducible refine Fr.setM ?_ (.inl ?_) _ _); rotate_left; focus (simp; done)) | ((with_reducible refine Fr.setCell ?_ (.inr ?_) _); rotate_left; focus (simp; done)) | ((with_reducible refine Fr.setCell ?_ (.inr ?_) _); rotate_left; focus (simp; omega))))))) (by have := FX.out.1.2; omega) (fun d hd => by have := (FX.out.1.1 d hd).prs; omega)).mono ?_)
               rintro e w5 ⟨ao2, cap2, rfl, hd2, f5⟩
               have g5 : Fr0 w3 w5 := Fr.trans0 (by (repeat' (first | (with_reducible exact Fr.refl _ _) | (with_reducible assumption) | (with_reducible refine Fr.drew ?_) | (with_reducible refine Fr.drewN ?_ _) | (with_reducible refine Fr.alloc ?_ _) | ((with_reducible refine Fr.setM ?_ (.inl ?_) _ _); rotate_left; focus (simp; done)) | ((with_reducible refine Fr.setCell ?_ (.inr ?_) _); rotate_left; focus (simp; done)) | ((with_reducible refine Fr.setCell ?_ (.inr ?_) _); rotate_left; focus (simp; omega))))) f5
               have D2 := Lib.hid hd2
               try (have xa := Cells.fr (S := fun _ => False) (show Cells ((w3.drew.alloc (.cells #[.bool false, .bool false, .bool false, .bool false, .bool false] 76)).alloc (.cells #[.bool false, .bool false, .bool false, .bool false, .bool false] 76)) w3.heap.size #[.bool false, .bool false, .bool false, .bool false, .bool false] 76 from (Cells.new w3.drew #[.bool false, .bool false, .bool false, .bool false, .bool false] 76).alloc (.cells #[.bool false, .bool false, .bool false, .bool false, .bool false] 76)) f5 (fun q => q); have xac0 := xa.cell 0 _ rfl; have xaf0 := xa.free 0; have xac1 := xa.cell 1 _ rfl; have xaf1 := xa.free 1; have xac2 := xa.cell 2 _ rfl; have xaf2 := xa.free 2; have xac3 := xa.cell 3 _ rfl; have xaf3 := xa.free 3; have xac4 := xa.cell 4 _ rfl; have xaf4 := xa.free 4; have xal := xa.lt)
               try (have xb := Cells.fr (S := fun _ => False) (show Cells ((w3.drew.alloc (.cells #[.bool false, .bool false, .bool false, .bool false, .bool false] 76)).alloc (.cells #[.bool false, .bool false, .bool false, .bool false, .bool false] 76)) (w3.heap.size + 1) #[.bool false, .bool false, .bool false, .bool false, .bool false] 76 from by have y := Cells.new (w3.drew.alloc (.cells #[.bool false, .bool false, .bool false, .bool false, .bool false] 76)) #[.bool false, .bool false, .bool false, .bool false, .bool false] 76; rwa [World.size_alloc] at y) f5 (fun q => q); have xbc0 := xb.cell 0 _ rfl; have xbf0 := xb.free 0; have xbc1 := xb.cell 1 _ rfl; have xbf1 := xb.free 1; have xbc2 := xb.cell 2 _ rfl; have xbf2 := xb.free 2; have xbc3 := xb.cell 3 _ rfl; have xbf3 := xb.free 3; have xbc4 := xb.cell 4 _ rfl; have xbf4 := xb.free 4; have xbl := xb.lt)
               try (have xc := Cells.fr (S := fun _ => False) (show Cells (w3.drew.alloc (.cells #[.bool false, .bool false, .bool false, .bool false, .bool false] 76)) w3.heap.size #[.bool false, .bool false, .bool false, .bool false, .bool false] 76 from Cells.new w3.drew #[.bool false, .bool false, .bool false, .bool false, .bool false] 76) f5 (fun q => q); have xcc0 := xc.cell 0 _ rfl; have xcf0 := xc.free 0; have xcc1 := xc.cell 1 _ rfl; have xcf1 := xc.free 1; have xcc2 := xc.cell 2 _ rfl; have xcf2 := xc.free 2; have xcc3 := xc.cell 3 _ rfl; have xcf3 := xc.free 3; have xcc4 := xc.cell 4 _ rfl; have xcf4 := xc.free 4; have xcl := xc.lt)
               clear hd2 f5
               have kl := (KB3.out.fr g5 (fun q => q)).lt
               have k0 := (KB3.out.fr g5 (fun q => q)).cell 0 _ rfl
               have k1 := (KB3.out.fr g5 (fun q => q)).cell 1 _ rfl
               have k2 := (KB3.out.fr g5 (fun q => q)).cell 2 _ rfl
               have k3 := (KB3.out.fr g5 (fun q => q)).cell 3 _ rfl
               have k4 := (KB3.out.fr g5 (fun q => q)).cell 4 _ rfl
               have k5 := (KB3.out.fr g5 (fun q => q)).cell 5 _ rfl
               have k6 := (KB3.out.fr g5 (fun q => q)).cell 6 _ rfl)
            | (go_at_call 35
               go_must (refine (trt35 _ b0 b1 b2 b3 b4 b5 hk FX.out.2.1 FX.out.2.2 ao2 ds.length cap2 ds (D2.out.fr (show Fr0 w5 _ from by (repeat' (first | (with_reducible exact Fr.refl _ _) | (with_reducible assumption) | (with_reducible refine Fr.drew ?_) | (with_reducible refine Fr.drewN ?_ _) | (with_reducible refine Fr.alloc ?_ _) | ((with_reducible refine Fr.setM ?_ (.inl ?_) _ _); rotate_left; focus (simp; done)) | ((with_reducible refine Fr.setCell ?_ (.inr ?_) _); rotate_left; focus (simp; done)) | ((with_reducible refine Fr.setCell ?_ (.inr ?_) _); rotate_left; focus (simp; omega)))))) B eb (E0.out.fr ((FB.out.trans0 F3.out).trans0 (show Fr0 w3 _ from by (repeat' (first | (with_reducible exact Fr.refl _ _) | (with_reducible assumption) | (with_reducible refine Fr.drew ?_) | (with_reducible refine Fr.drewN ?_ _) | (with_reducible refine Fr.alloc ?_ _) | ((with_reducible refine Fr.setM ?_ (.inl ?_) _ _); rotate_left; focus (simp; done)) | ((with_reducible refine Fr.setCell ?_ (.inr ?_) _); rotate_left; focus (simp; done)) | ((with_reducible refine Fr.setCell ?_ (.inr ?_) _); rotate_left; focus (simp; omega)))))) (fun _ q => q.elim)) (by have := FX.out.1.2; omega) (fun d hd => (FX.out.1.1 d hd).fit hk)).mono ?_)
               rintro e w6 ⟨rfl, f6⟩
               have g6 : Fr0 w3 w6 := Fr.trans0 (by (repeat' (first | (with_reducible exact Fr.refl _ _) | (with_reducible assumption) | (with_reducible refine Fr.drew ?_) | (with_reducible refine Fr.drewN ?_ _) | (with_reducible refine Fr.alloc ?_ _) | ((with_reducible refine Fr.setM ?_ (.inl ?_) _ _); rotate_left; focus (simp; done)) | ((with_reducible refine Fr.setCell ?_ (.inr ?_) _); rotate_left; focus (simp; done)) | ((with_reducible refine Fr.setCell ?_ (.inr ?_) _); rotate_left; focus (simp; omega))))) f6
               try (have ya := Cells.fr (S := fun _ => False) (show Cells ((w5.alloc (.cells #[.bool false, .bool false, .bool false, .bool false, .bool false] 76)).alloc (.cells #[.bool false, .bool false, .bool false, .bool false, .bool false] 76)) w5.heap.size #[.bool false, .bool false, .bool false, .bool false, .bool false] 76 from (Cells.new w5 #[.bool false, .bool false, .bool false, .bool false, .bool false] 76).alloc (.cells #[.bool false, .bool false, .bool false, .bool false, .bool false] 76)) f6 (fun q => q); have yac0 := ya.cell 0 _ rfl; have yaf0 := ya.free 0; have yac1 := ya.cell 1 _ rfl; have yaf1 := ya.free 1; have yac2 := ya.cell 2 _ rfl; have yaf2 := ya.free 2; have yac3 := ya.cell 3 _ rfl; have yaf3 := ya.free 3; have yac4 := ya.cell 4 _ rfl; have yaf4 := ya.free 4; have yal := ya.lt)
               try (have yb := Cells.fr (S := fun _ => False) (show Cells ((w5.alloc (.cells #[.bool false, .bool false, .bool false, .bool false, .bool false] 76)).alloc (.cells #[.bool false, .bool false, .bool false, .bool false, .bool false] 76)) (w5.heap.size + 1) #[.bool false, .bool false, .bool false, .bool false, .bool false] 76 from by have y := Cells.new (w5.alloc (.cells #[.bool false, .bool false, .bool false, .bool false, .bool false] 76)) #[.bool false, .bool false, .bool false, .bool false, .bool false] 76; rwa [World.size_alloc] at y) f6 (fun q => q); have ybc0 := yb.cell 0 _ rfl; have ybf0 := yb.free 0; have ybc1 := yb.cell 1 _ rfl; have ybf1 := yb.free 1; have ybc2 := yb.cell 2 _ rfl; have ybf2 := yb.free 2; have ybc3 := yb.cell 3 _ rfl; have ybf3 := yb.free 3; have ybc4 := yb.cell 4 _ rfl; have ybf4 := yb.free 4; have ybl := yb.lt)
               try (have yc := Cells.fr (S := fun _ => False) (show Cells (w5.alloc (.cells #[.bool false, .bool false, .bool false, .bool false, .bool false] 76)) w5.heap.size #[.bool false, .bool false, .bool false, .bool false, .bool false] 76 from Cells.new w5 #[.bool false, .bool false, .bool false, .bool false, .bool false] 76) f6 (fun q => q); have ycc0 := yc.cell 0 _ rfl; have ycf0 := yc.free 0; have ycc1 := yc.cell 1 _ rfl; have ycf1 := yc.free 1; have ycc2 := yc.cell 2 _ rfl; have ycf2 := yc.free 2; have ycc3 := yc.cell 3 _ rfl; have ycf3 := yc.free 3; have ycc4 := yc.cell 4 _ rfl; have ycf4 := yc.free 4; have ycl := yc.lt)
               try (have za := Cells.fr (S := fun _ => False) xa (show Fr0 w5 w6 from Fr.trans0 (by (repeat' (first | (with_reducible exact Fr.refl _ _) | (with_reducible assumption) | (with_reducible refine Fr.drew ?_) | (with_reducible refine Fr.drewN ?_ _) | (with_reducible refine Fr.alloc ?_ _) | ((with_reducible refine Fr.setM ?_ (.inl ?_) _ _); rotate_left; focus (simp; done)) | ((with_reducible refine Fr.setCell ?_ (.inr ?_) _); rotate_left; focus (simp; done)) | ((with_reducible refine Fr.setCell ?_ (.inr ?_) _); rotate_left; focus (simp; omega))))) f6) (fun q => q); have zac0 := za.cell 0 _ rfl; have zaf0 := za.free 0; have zac1 := za.cell 1 _ rfl; have zaf1 := za.free 1; have zac2 := za.cell 2 _ rfl; have zaf2 := za.free 2; have zac3 := za.cell 3 _ rfl; have zaf3 := za.free 3; have zac4 := za.cell 4 _ rfl; have zaf4 := za.free 4; have zal := za.lt)
               try (have zb := Cells.fr (S := fun _ => False) xb (show Fr0 w5 w6 from Fr.trans0 (by (repeat' (first | (with_reducible exact Fr.refl _ _) | (with_reducible assumption) | (with_reducible refine Fr.drew ?_) | (with_reducible refine Fr.drewN ?_ _) | (with_reducible refine Fr.alloc ?_ _) | ((with_reducible refine Fr.setM ?_ (.inl ?_) _ _); rotate_left; focus (simp; done)) | ((with_reducible refine Fr.setCell ?_ (.inr ?_) _); rotate_left; focus (simp; done)) | ((with_reducible refine Fr.setCell ?_ (.inr ?_) _); rotate_left; focus (simp; omega))))) f6) (fun q => q); have zbc0 := zb.cell 0 _ rfl; have zbf0 := zb.free 0; have zbc1 := zb.cell 1 _ rfl; have zbf1 := zb.free 1; have zbc2 := zb.cell 2 _ rfl; have zbf2 := zb.free 2; have zbc3 := zb.cell 3 _ rfl; have zbf3 := zb.free 3; have zbc4 := zb.cell 4 _ rfl; have zbf4 := zb.free 4; have zbl := zb.lt)
               try (have zc := Cells.fr (S := fun _ => False) xc (show Fr0 w5 w6 from Fr.trans0 (by (repeat' (first | (with_reducible exact Fr.refl _ _) | (with_reducible assumption) | (with_reducible refine Fr.drew ?_) | (with_reducible refine Fr.drewN ?_ _) | (with_reducible refine Fr.alloc ?_ _) | ((with_reducible refine Fr.setM ?_ (.inl ?_) _ _); rotate_left; focus (simp; done)) | ((with_reducible refine Fr.setCell ?_ (.inr ?_) _); rotate_left; focus (simp; done)) | ((with_reducible refine Fr.setCell ?_ (.inr ?_) _); rotate_left; focus (simp; omega))))) f6) (fun q => q); have zcc0 := zc.cell 0 _ rfl; have zcf0 := zc.free 0; have zcc1 := zc.cell 1 _ rfl; have zcf1 := zc.free 1; have zcc2 := zc.cell 2 _ rfl; have zcf2 := zc.free 2; have zcc3 := zc.cell 3 _ rfl; have zcf3 := zc.free 3; have zcc4 := zc.cell 4 _ rfl; have zcf4 := zc.free 4; have zcl := zc.lt)
               clear f6
               rw [ts_kind]
               unfold tsV
               dsimp only
               have kl := (KB3.out.fr g6 (fun q => q)).lt
               have k0 := (KB3.out.fr g6 (fun q => q)).cell 0 _ rfl
               have k1 := (KB3.out.fr g6 (fun q => q)).cell 1 _ rfl
               have k2 := (KB3.out.fr g6 (fun q => q)).cell 2 _ rfl
               have k3 := (KB3.out.fr g6 (fun q => q)).cell 3 _ rfl
               have k4 := (KB3.out.fr g6 (fun q => q)).cell 4 _ rfl
               have k5 := (KB3.out.fr g6 (fun q => q)).cell 5 _ rfl
               have k6 := (KB3.out.fr g6 (fun q => q)).cell 6 _ rfl))
          all_goals
            go_wp2_with fail
            go_meet
            case rel =>
              refine ⟨_, _, rfl, rfl, rfl, rfl, ?_, ?_, ?_⟩
              · refine TBx.of ?_
                dsimp only
                (repeat' (first | (with_reducible assumption) | (with_reducible exact Cells.newB (by first | rfl | (simp; done) | (simp; omega))) | (with_reducible refine Cells.alloc ?_ _) | (with_reducible refine Cells.set5 (x0 := .bool false) (x1 := .bool false) (x2 := .bool false) (x3 := .bool false) (x4 := .bool false) ?_) | (with_reducible refine Cells.offI ?_ _ _ (by omega))))
              · refine TBx.of ?_
                dsimp only
                (repeat' (first | (with_reducible assumption) | (with_reducible exact Cells.newB (by first | rfl | (simp; done) | (simp; omega))) | (with_reducible refine Cells.alloc ?_ _) | (with_reducible refine Cells.set5 (x0 := .bool false) (x1 := .bool false) (x2 := .bool false) (x3 := .bool false) (x4 := .bool false) ?_) | (with_reducible refine Cells.offI ?_ _ _ (by omega))))
              · try have s5 := g5.size
                try have s6 := g6.size
                (repeat' (first | (with_reducible exact Fr.refl _ _) | (with_reducible assumption) | (with_reducible refine Fr.drew ?_) | (with_reducible refine Fr.drewN ?_ _) | (with_reducible refine Fr.alloc ?_ _) | ((with_reducible refine Fr.setM ?_ (.inl ?_) _ _); rotate_left; focus (simp; done)) | ((with_reducible refine Fr.setCell ?_ (.inr ?_) _); rotate_left; focus (simp; done)) | ((with_reducible refine Fr.setCell ?_ (.inr ?_) _); rotate_left; focus (simp; omega))))
        case rest =>
          obtain ⟨n5, n6, rfl, rfl, rfl, rfl, ⟨l5, c50, c51, c52, c53, c54⟩, ⟨l6, c60, c61, c62, c63, c64⟩, fx⟩ := hcut
          have KX := Lib.hid (KB3.out.fr fx (fun q => q))
          have FXX := Lib.hid (F3.out.trans0 fx)
          clear fx k0 k1 k2 k3 k4 k5 k6 kl
          have kl := KX.out.lt
          have k0 := KX.out.cell 0 _ rfl
          have k1 := KX.out.cell 1 _ rfl
          have k2 := KX.out.cell 2 _ rfl
          have k3 := KX.out.cell 3 _ rfl
          have k4 := KX.out.cell 4 _ rfl
          have k5 := KX.out.cell 5 _ rfl
          have hq := eqTs
          have hg := guard76
          cases b1 <;> cases b3 <;> cases b4 <;> cases b5 <;> simp only [Bool.or_true, Bool.or_false, Bool.true_or, Bool.false_or, Bool.or_self] at c51 c53 c54 c61 c63 c64
          all_goals
            go_wp2_with fail
            refine (aw17 _ B eb (E0.out.fr ((FB.out.trans0 FXX.out).trans0 (show Fr0 wc _ from by (repeat' (first | (with_reducible exact Fr.refl _ _) | (with_reducible assumption) | (with_reducible refine Fr.drew ?_) | (with_reducible refine Fr.drewN ?_ _) | (with_reducible refine Fr.alloc ?_ _) | ((with_reducible refine Fr.setM ?_ (.inl ?_) _ _); rotate_left; focus (simp; done)) | ((with_reducible refine Fr.setCell ?_ (.inr ?_) _); rotate_left; focus (simp; done)) | ((with_reducible refine Fr.setCell ?_ (.inr ?_) _); rotate_left; focus (simp; omega)))))) (fun _ q => q.elim))).mono ?_
            rintro e w9 ⟨rfl, f9⟩
            have F9 := Lib.hid (show Fr0 wc w9 from Fr.trans0 (by (repeat' (first | (with_reducible exact Fr.refl _ _) | (with_reducible assumption) | (with_reducible refine Fr.drew ?_) | (with_reducible refine Fr.drewN ?_ _) | (with_reducible refine Fr.alloc ?_ _) | ((with_reducible refine Fr.setM ?_ (.inl ?_) _ _); rotate_left; focus (simp; done)) | ((with_reducible refine Fr.setCell ?_ (.inr ?_) _); rotate_left; focus (simp; done)) | ((with_reducible refine Fr.setCell ?_ (.inr ?_) _); rotate_left; focus (simp; omega))))) f9)
            clear f9
            go_wp2_with fail
            go_ret
            exact ⟨rfl, (FB.out.trans0 FXX.out).trans0 F9.out⟩
end Go.Proofs.YtbafaadmlpamiaaGreatDoor
