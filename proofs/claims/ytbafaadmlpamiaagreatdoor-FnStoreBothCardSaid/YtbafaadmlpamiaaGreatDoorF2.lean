/- F2: Has, Bt1, News, Dto, BothF. -/
import Derived.Test.YtbafaadmlpamiaaGreatDoorEq
import Derived.Test.YtbafaadmlpamiaaGreatDoorBth
import Derived.Test.YtbafaadmlpamiaaGreatDoorTxt
import Derived.Deep.RegionHeld3
import Derived.Test.YtbafaadmlpamiaaGreatDoorE3
import Derived.Test.YtbafaadmlpamiaaGreatDoorReg
import Derived.Test.YtbafaadmlpamiaaGreatDoorSpec4
import Derived.Test.YtbafaadmlpamiaaGreatDoorRows
import Derived.Test.YtbafaadmlpamiaaGreatDoorTie
import Derived.ProofKit
import Derived.SevenTiedAt
/- FnStoreBoth's own function: whether an edge stands among those told. -/
namespace Go.Proofs.YtbafaadmlpamiaaGreatDoor
open Go Go.Hy Go.RowKit

theorem hasL_drop {m : List SL} {i : Nat} {x : SL} (hg : m[i]? = some x) (a b : ByteArray) (like : SL) :
    (¬ (x.a = a ∧ x.b = b) → hasL (m.drop i) a b like = hasL (m.drop (i + 1)) a b like) ∧ (x.a = a ∧ x.b = b → hasL (m.drop i) a b like = decide (x.wt = like.wt ∧ x.es = like.es)) := by
  have hl := (List.getElem?_eq_some_iff.1 hg).1
  have e : m.drop i = x :: m.drop (i + 1) := by
    rw [List.drop_eq_getElem_cons hl, (List.getElem?_eq_some_iff.1 hg).2]
  refine ⟨fun h => ?_, fun h => ?_⟩
  · rw [e]; unfold hasL; rw [List.find?_cons, decide_eq_false h]
  · rw [e]; unfold hasL; rw [List.find?_cons, decide_eq_true h]

abbrev LkC (w : World) (b : Nat) (x : SL) (v : Value) : Prop := Cells w b #[.string x.a, .string x.b, .int .i64 x.wt, v] 65

set_option maxRecDepth 100000 in
set_option maxHeartbeats 16000000 in
theorem has31 (w : World) (p p' : Nat → Prop) (v yv : Value) (m : List SL) (like : SL) (a b : ByteArray) (h : LinksIn w p v m) (hy : PairsIn w p' yv like.es) (hm : m.length ≤ 400000) (hs : ∀ l ∈ m, l.es.length ≤ 100000) (hls : like.es.length ≤ 100000) :
    Calls Tryz.prog 31 #[v, .string a, .string b, .agg #[.string like.a, .string like.b, .int .i64 like.wt, yv]] w fun e w' => e = .returned (.bool (hasL m a b like)) ∧ Fr0 w w' := by
  have HS := Lib.hid (And.intro hs hls)
  have H := Lib.hid h
  obtain ⟨ao, cap, rfl, -⟩ := h.form
  obtain ⟨ya, yc, rfl⟩ := hy.form
  have W0 : LkC (w.alloc (.cells #[.string like.a, .string like.b, .int .i64 like.wt, .slice ya like.es.length yc] 65)) w.heap.size like (.slice ya like.es.length yc) := Cells.new w _ _
  have F0 : Fr0 w (w.alloc (.cells #[.string like.a, .string like.b, .int .i64 like.wt, .slice ya like.es.length yc] 65)) := by (repeat' (first | (with_reducible exact Fr.refl _ _) | (with_reducible assumption) | (with_reducible refine Fr.drew ?_) | (with_reducible refine Fr.drewN ?_ _) | (with_reducible refine Fr.alloc ?_ _) | ((with_reducible refine Fr.setM ?_ (.inl ?_) _ _); rotate_left; focus (simp; done)) | ((with_reducible refine Fr.setCell ?_ (.inr ?_) _); rotate_left; focus (simp; done)) | ((with_reducible refine Fr.setCell ?_ (.inr ?_) _); rotate_left; focus (simp; omega))))
  have B0 := Lib.hid (And.intro W0 (And.intro F0 (PairsIn.at_ hy |>.fr F0)))
  clear W0 F0 hs hls hy h
  go_enter Tryz.func31, Tryz.ntmps31
  go_wp2_with fail
  generalize w.alloc (.cells #[.string like.a, .string like.b, .int .i64 like.wt, .slice ya like.es.length yc] 65) = W at *
  go_loopg [13] m.length (fun n c wr => ∃ i : Nat, n + i = m.length ∧ c = .int .i64 (i : Nat) ∧ hasL m a b like = hasL (m.drop i) a b like ∧ Fr0 W wr)
  case atStart => exact ⟨0, rfl, rfl, rfl, Fr.refl _ _⟩
  case round =>
    obtain ⟨i, hk, rfl, ht, f⟩ := hrel
    have A := Lib.hid (And.intro hk (And.intro ht f))
    clear hk ht f
    by_cases hi : i < m.length
    · have hg := List.getElem?_eq_getElem hi
      obtain ⟨ob, cp, xv, e, hl, _, c0, c1, c2, c3, hxv⟩ := (H.out.fr (B0.out.2.1.trans0 A.out.2.2) (fun _ _ _ q => q)).at_ hg
      cases e
      have hles := HS.out.1 _ (List.getElem_mem hi)
      have hd := hasL_drop hg a b like
      generalize m[i] = x at c0 c1 c2 c3 hxv hles hd
      have EX0 := Lib.hid (And.intro (PairsIn.at_ hxv) hles)
      obtain ⟨xa, xc, rfl⟩ := hxv.form
      have HD := Lib.hid hd
      have t1 := text_dec x.a a
      have t2 := text_dec x.b b
      have kb := (B0.out.1.fr A.out.2.2 (fun q => q)).lt
      have hne : w.heap.size ≠ wr.heap.size := by omega
      clear hg hxv hles hd
      by_cases h1 : x.a = a
      · rw [decide_eq_true h1] at t1
        by_cases h2 : x.b = b
        · rw [decide_eq_true h2] at t2
          have H12 := Lib.hid (And.intro h1 h2)
          clear h1 h2
          go_wp2_with fail
          have V0 : LkC (wr.alloc (.cells #[.string x.a, .string x.b, .int .i64 x.wt, .slice xa x.es.length xc] 65)) wr.heap.size x (.slice xa x.es.length xc) ∧ LkC (wr.alloc (.cells #[.string x.a, .string x.b, .int .i64 x.wt, .slice xa x.es.length xc] 65)) w.heap.size like (.slice ya like.es.length yc) ∧
              Fr0 wr (wr.alloc (.cells #[.string x.a, .string x.b, .int .i64 x.wt, .slice xa x.es.length xc] 65)) := ⟨Cells.new wr _ _, (B0.out.1.fr A.out.2.2 (fun q => q)).alloc _, by (repeat' (first | (with_reducible exact Fr.refl _ _) | (with_reducible assumption) | (with_reducible refine Fr.drew ?_) | (with_reducible refine Fr.drewN ?_ _) | (with_reducible refine Fr.alloc ?_ _) | ((with_reducible refine Fr.setM ?_ (.inl ?_) _ _); rotate_left; focus (simp; done)) | ((with_reducible refine Fr.setCell ?_ (.inr ?_) _); rotate_left; focus (simp; done)) | ((with_reducible refine Fr.setCell ?_ (.inr ?_) _); rotate_left; focus (simp; omega))))⟩
          generalize wr.alloc (.cells #[.string x.a, .string x.b, .int .i64 x.wt, .slice xa x.es.length xc] 65) = U at *
          have V := Lib.hid (And.intro V0.1 V0.2.1)
          have FU := Lib.hid V0.2.2
          have EX := Lib.hid (And.intro (EX0.out.1.fr V0.2.2) (And.intro EX0.out.2 ((B0.out.2.2.fr A.out.2.2).fr V0.2.2)))
          clear V0 c0 c1 c2 c3
          have q0 := V.out.1.cell 2 _ rfl
          have q1 := V.out.1.cell 3 _ rfl
          have q2 := V.out.2.cell 2 _ rfl
          have q3 := V.out.2.cell 3 _ rfl
          have RES := Lib.hid ((A.out.2.1).trans (HD.out.2 H12.out))
          by_cases hw : x.wt = like.wt
          · have hwb : ((x.wt : Int) == like.wt) = true := beq_iff_eq.2 hw
            go_region_held3 (fun w' => w'.cell? ⟨wr.heap.size, 2, none⟩ = some (.int .i64 x.wt) ∧ w'.cell? ⟨wr.heap.size, 3, none⟩ = some (.slice xa x.es.length xc) ∧ w'.cell? ⟨w.heap.size, 2, none⟩ = some (.int .i64 like.wt) ∧ w'.cell? ⟨w.heap.size, 3, none⟩ = some (.slice ya like.es.length yc)) (go_keep)
              (first
              | (go_at_call 22
                 first
                   | (with_reducible refine (pof _ (.slice xa x.es.length xc) x.es ?_ ?_).mono ?_
                      · exact EX.out.1.fr (by (repeat' (first | (with_reducible exact Fr.refl _ _) | (with_reducible assumption) | (with_reducible refine Fr.drew ?_) | (with_reducible refine Fr.drewN ?_ _) | (with_reducible refine Fr.alloc ?_ _) | ((with_reducible refine Fr.setM ?_ (.inl ?_) _ _); rotate_left; focus (simp; done)) | ((with_reducible refine Fr.setCell ?_ (.inr ?_) _); rotate_left; focus (simp; done)) | ((with_reducible refine Fr.setCell ?_ (.inr ?_) _); rotate_left; focus (simp; omega)))))
                      · exact EX.out.2.1
                      rintro e wx ⟨aox, capx, rfl, hx, fx⟩
                      have Px := Lib.hid (PairsIn.at_ hx)
                      have gg : Fr0 U wx := Fr.trans0 (by (repeat' (first | (with_reducible exact Fr.refl _ _) | (with_reducible assumption) | (with_reducible refine Fr.drew ?_) | (with_reducible refine Fr.drewN ?_ _) | (with_reducible refine Fr.alloc ?_ _) | ((with_reducible refine Fr.setM ?_ (.inl ?_) _ _); rotate_left; focus (simp; done)) | ((with_reducible refine Fr.setCell ?_ (.inr ?_) _); rotate_left; focus (simp; done)) | ((with_reducible refine Fr.setCell ?_ (.inr ?_) _); rotate_left; focus (simp; omega))))) fx
                      try have Py := Lib.hid (Py.out.fr (show Fr0 wy wx from Fr.trans0 (by (repeat' (first | (with_reducible exact Fr.refl _ _) | (with_reducible assumption) | (with_reducible refine Fr.drew ?_) | (with_reducible refine Fr.drewN ?_ _) | (with_reducible refine Fr.alloc ?_ _) | ((with_reducible refine Fr.setM ?_ (.inl ?_) _ _); rotate_left; focus (simp; done)) | ((with_reducible refine Fr.setCell ?_ (.inr ?_) _); rotate_left; focus (simp; done)) | ((with_reducible refine Fr.setCell ?_ (.inr ?_) _); rotate_left; focus (simp; omega))))) fx))
                      clear hx fx)
                   | (with_reducible refine (pof _ (.slice ya like.es.length yc) like.es ?_ ?_).mono ?_
                      · exact EX.out.2.2.fr (by (repeat' (first | (with_reducible exact Fr.refl _ _) | (with_reducible assumption) | (with_reducible refine Fr.drew ?_) | (with_reducible refine Fr.drewN ?_ _) | (with_reducible refine Fr.alloc ?_ _) | ((with_reducible refine Fr.setM ?_ (.inl ?_) _ _); rotate_left; focus (simp; done)) | ((with_reducible refine Fr.setCell ?_ (.inr ?_) _); rotate_left; focus (simp; done)) | ((with_reducible refine Fr.setCell ?_ (.inr ?_) _); rotate_left; focus (simp; omega)))))
                      · exact HS.out.2
                      rintro e wy ⟨aoy, capy, rfl, hy, fy⟩
                      have Py := Lib.hid (PairsIn.at_ hy)
                      have gg : Fr0 U wy := Fr.trans0 (by (repeat' (first | (with_reducible exact Fr.refl _ _) | (with_reducible assumption) | (with_reducible refine Fr.drew ?_) | (with_reducible refine Fr.drewN ?_ _) | (with_reducible refine Fr.alloc ?_ _) | ((with_reducible refine Fr.setM ?_ (.inl ?_) _ _); rotate_left; focus (simp; done)) | ((with_reducible refine Fr.setCell ?_ (.inr ?_) _); rotate_left; focus (simp; done)) | ((with_reducible refine Fr.setCell ?_ (.inr ?_) _); rotate_left; focus (simp; omega))))) fy
                      try have Px := Lib.hid (Px.out.fr (show Fr0 wx wy from Fr.trans0 (by (repeat' (first | (with_reducible exact Fr.refl _ _) | (with_reducible assumption) | (with_reducible refine Fr.drew ?_) | (with_reducible refine Fr.drewN ?_ _) | (with_reducible refine Fr.alloc ?_ _) | ((with_reducible refine Fr.setM ?_ (.inl ?_) _ _); rotate_left; focus (simp; done)) | ((with_reducible refine Fr.setCell ?_ (.inr ?_) _); rotate_left; focus (simp; done)) | ((with_reducible refine Fr.setCell ?_ (.inr ?_) _); rotate_left; focus (simp; omega))))) fy))
                      clear hy fy)
                 have q0 := (V.out.1.fr gg (fun q => q)).cell 2 _ rfl
                 have q1 := (V.out.1.fr gg (fun q => q)).cell 3 _ rfl
                 have q2 := (V.out.2.fr gg (fun q => q)).cell 2 _ rfl
                 have q3 := (V.out.2.fr gg (fun q => q)).cell 3 _ rfl)
              | (go_at_call 21
                 go_must (refine (samep _ _ _ x.es like.es (Px.out.fr (by (repeat' (first | (with_reducible exact Fr.refl _ _) | (with_reducible assumption) | (with_reducible refine Fr.drew ?_) | (with_reducible refine Fr.drewN ?_ _) | (with_reducible refine Fr.alloc ?_ _) | ((with_reducible refine Fr.setM ?_ (.inl ?_) _ _); rotate_left; focus (simp; done)) | ((with_reducible refine Fr.setCell ?_ (.inr ?_) _); rotate_left; focus (simp; done)) | ((with_reducible refine Fr.setCell ?_ (.inr ?_) _); rotate_left; focus (simp; omega)))))) (Py.out.fr (by (repeat' (first | (with_reducible exact Fr.refl _ _) | (with_reducible assumption) | (with_reducible refine Fr.drew ?_) | (with_reducible refine Fr.drewN ?_ _) | (with_reducible refine Fr.alloc ?_ _) | ((with_reducible refine Fr.setM ?_ (.inl ?_) _ _); rotate_left; focus (simp; done)) | ((with_reducible refine Fr.setCell ?_ (.inr ?_) _); rotate_left; focus (simp; done)) | ((with_reducible refine Fr.setCell ?_ (.inr ?_) _); rotate_left; focus (simp; omega)))))) (EX.out.2.1)).mono ?_)
                 rintro e w21 ⟨r21, rfl, hr21, f21⟩
                 have g21 : Fr0 U w21 := Fr.trans0 (by (repeat' (first | (with_reducible exact Fr.refl _ _) | (with_reducible assumption) | (with_reducible refine Fr.drew ?_) | (with_reducible refine Fr.drewN ?_ _) | (with_reducible refine Fr.alloc ?_ _) | ((with_reducible refine Fr.setM ?_ (.inl ?_) _ _); rotate_left; focus (simp; done)) | ((with_reducible refine Fr.setCell ?_ (.inr ?_) _); rotate_left; focus (simp; done)) | ((with_reducible refine Fr.setCell ?_ (.inr ?_) _); rotate_left; focus (simp; omega))))) f21
                 clear f21
                 have q0 := (V.out.1.fr g21 (fun q => q)).cell 2 _ rfl
                 have q1 := (V.out.1.fr g21 (fun q => q)).cell 3 _ rfl
                 have q2 := (V.out.2.fr g21 (fun q => q)).cell 2 _ rfl
                 have q3 := (V.out.2.fr g21 (fun q => q)).cell 3 _ rfl))
            go_wp2_with fail
            go_ret
            refine ⟨?_, B0.out.2.1.trans0 (A.out.2.2.trans0 (FU.out.trans0 (by (repeat' (first | (with_reducible exact Fr.refl _ _) | (with_reducible assumption) | (with_reducible refine Fr.drew ?_) | (with_reducible refine Fr.drewN ?_ _) | (with_reducible refine Fr.alloc ?_ _) | ((with_reducible refine Fr.setM ?_ (.inl ?_) _ _); rotate_left; focus (simp; done)) | ((with_reducible refine Fr.setCell ?_ (.inr ?_) _); rotate_left; focus (simp; done)) | ((with_reducible refine Fr.setCell ?_ (.inr ?_) _); rotate_left; focus (simp; omega)))))))⟩
            rw [RES.out]
            by_cases he : x.es = like.es
            · rw [hr21.2 he, decide_eq_true ⟨hw, he⟩]
              rfl
            · have : r21 = false := by
                cases r21 with
                | false => rfl
                | true => exact absurd (hr21.1 rfl) he
              rw [this, decide_eq_false fun q => he q.2]
              rfl
          · have hwb : ((x.wt : Int) == like.wt) = false := beq_eq_false_iff_ne.2 hw
            have HW := Lib.hid hw
            clear hw
            go_wp2_with fail
            go_quiet (fail)
            go_wp2_with fail
            go_ret
            refine ⟨?_, B0.out.2.1.trans0 (A.out.2.2.trans0 (FU.out.trans0 (by (repeat' (first | (with_reducible exact Fr.refl _ _) | (with_reducible assumption) | (with_reducible refine Fr.drew ?_) | (with_reducible refine Fr.drewN ?_ _) | (with_reducible refine Fr.alloc ?_ _) | ((with_reducible refine Fr.setM ?_ (.inl ?_) _ _); rotate_left; focus (simp; done)) | ((with_reducible refine Fr.setCell ?_ (.inr ?_) _); rotate_left; focus (simp; done)) | ((with_reducible refine Fr.setCell ?_ (.inr ?_) _); rotate_left; focus (simp; omega)))))))⟩
            rw [RES.out, decide_eq_false fun q => HW.out q.1]
            rfl
        · rw [decide_eq_false h2] at t2
          have H12 := Lib.hid h2
          clear h1 h2
          go_wp2_with fail
          go_roundg (gk - 1)
          case measure => have := A.out.1; omega
          case rel => exact ⟨i + 1, by have := A.out.1; omega, by simp, A.out.2.1.trans (HD.out.1 fun q => H12.out q.2), A.out.2.2.trans0 (by (repeat' (first | (with_reducible exact Fr.refl _ _) | (with_reducible assumption) | (with_reducible refine Fr.drew ?_) | (with_reducible refine Fr.drewN ?_ _) | (with_reducible refine Fr.alloc ?_ _) | ((with_reducible refine Fr.setM ?_ (.inl ?_) _ _); rotate_left; focus (simp; done)) | ((with_reducible refine Fr.setCell ?_ (.inr ?_) _); rotate_left; focus (simp; done)) | ((with_reducible refine Fr.setCell ?_ (.inr ?_) _); rotate_left; focus (simp; omega)))))⟩
      · rw [decide_eq_false h1] at t1
        have H12 := Lib.hid h1
        clear h1
        go_wp2_with fail
        go_roundg (gk - 1)
        case measure => have := A.out.1; omega
        case rel => exact ⟨i + 1, by have := A.out.1; omega, by simp, A.out.2.1.trans (HD.out.1 fun q => H12.out q.1), A.out.2.2.trans0 (by (repeat' (first | (with_reducible exact Fr.refl _ _) | (with_reducible assumption) | (with_reducible refine Fr.drew ?_) | (with_reducible refine Fr.drewN ?_ _) | (with_reducible refine Fr.alloc ?_ _) | ((with_reducible refine Fr.setM ?_ (.inl ?_) _ _); rotate_left; focus (simp; done)) | ((with_reducible refine Fr.setCell ?_ (.inr ?_) _); rotate_left; focus (simp; done)) | ((with_reducible refine Fr.setCell ?_ (.inr ?_) _); rotate_left; focus (simp; omega)))))⟩
    · have hi' : i = m.length := by have := A.out.1; omega
      subst hi'
      go_wp2_with fail
      go_ret
      refine ⟨?_, B0.out.2.1.trans0 A.out.2.2⟩
      rw [A.out.2.1, List.drop_length]
      rfl
end Go.Proofs.YtbafaadmlpamiaaGreatDoor

/- FnStoreBoth's plain law: what the four questions at the end tell. -/
namespace Go.Proofs.YtbafaadmlpamiaaGreatDoor
open Go Go.Hy Go.RowKit

theorem run_appB (s : St) (x y : List DoIn) : s.run (x ++ y) = s.run x ++ (s.after x).run y := by
  induction x generalizing s with
  | nil => rfl
  | cons d x ih => simp [St.run, St.after, ih]

theorem wf_after : ∀ (ds : List DoIn) (s : St), Wf s → Wf (s.after ds)
  | [], _, h => h
  | d :: ds, s, h => by
    unfold St.after
    exact wf_after ds _ (h.step d)

theorem nl_after : ∀ (ds : List DoIn) (s : St), NoLoop s → (∀ d ∈ ds, d.op = 2 → s.dir = false → d.a ≠ d.b) → NoLoop (s.after ds)
  | [], _, h, _ => h
  | d :: ds, s, h, hd => by
    unfold St.after
    refine nl_after ds _ (h.step d (hd d (by simp))) fun x hx ho hdir => ?_
    rw [(s.step_same d).1] at hdir
    exact hd x (by simp [hx]) ho hdir

/-- the questions at the end -/
abbrev q4 : List DoIn := [⟨9, ⟨#[]⟩, ⟨#[]⟩, 0, []⟩, ⟨10, ⟨#[]⟩, ⟨#[]⟩, 0, []⟩, ⟨8, ⟨#[]⟩, ⟨#[]⟩, 0, []⟩, ⟨7, ⟨#[]⟩, ⟨#[]⟩, 0, []⟩]

/-- what the law compares -/
structure Q4 (dir : Bool) (t1 t2 t3 t4 : Tl) : Prop where
  keys : t2.keys = t1.keys
  klen : t1.keys.length ≤ 1000
  order : t4.order = (t1.keys.length : Int)
  size : t4.size = (t3.links.length : Int)
  len2 : t2.links.length = t1.links.length
  want : (t1.links.length : Int) = if dir = true then (t3.links.length : Int) else 2 * (t3.links.length : Int)
  few : t3.links.length ≤ 1000
  les : (∀ l ∈ t1.links, l.es.length ≤ 100000) ∧ (∀ l ∈ t2.links, l.es.length ≤ 100000) ∧ ∀ l ∈ t3.links, l.es.length ≤ 100000
  has : ∀ x ∈ t1.links, (dir = true → hasL t2.links x.b x.a x = true) ∧ (dir = false → hasL t2.links x.a x.b x = true ∧ hasL t1.links x.b x.a x = true) ∧
    (hasL t3.links x.a x.b x = true ∨ (dir = false ∧ hasL t3.links x.b x.a x = true))

theorem q4_of {s : St} (hw : Wf s) (hl : NoLoop s) (hb : Bnd 4 120 s) :
    Q4 s.dir { keys := sortK s.keys, links := sortL (s.both false) } { keys := sortK s.keys, links := sortL (s.both true) } { links := sortL (s.ls.map (SL.low s.dir)) } { order := s.ps.length, size := s.ls.length } := by
  have hle : ∀ l ∈ s.ls, l.es.length ≤ 100000 := fun l h => by have := hb.le l h; omega
  have hbo : ∀ t, ∀ l ∈ sortL (s.both t), l.es.length ≤ 100000 := fun t l h => by
    obtain ⟨m, hm, c⟩ := (both_mem s t l).1 ((sortL_permS _).subset h)
    have := hle m hm
    rcases c with ⟨_, rfl⟩ | ⟨_, rfl⟩ <;> exact this
  refine ⟨rfl, ?_, ?_, ?_, ?_, ?_, ?_, ⟨hbo false, hbo true, ?_⟩, fun x hx => both_has hw hl x hx⟩
  · have := hb.ps
    simp only [sortK_len, St.keys, List.length_map]
    omega
  · simp only [sortK_len, St.keys, List.length_map]
  · simp only [sortL_len, List.length_map]
  · simp only [sortL_len, both_lenS]
  · simp only [sortL_len, both_lenS, List.length_map]
    split <;> simp
  · have := hb.ls
    simp only [sortL_len, List.length_map]
    omega
  · intro l h
    obtain ⟨m, hm, rfl⟩ := List.mem_map.1 ((sortL_permS _).subset h)
    have := hle m hm
    rcases low_cases s.dir m with e | ⟨_, e⟩ <;> rw [e] <;> exact this

theorem run_q4 (b0 b1 b2 b3 b4 b5 : Bool) (hk : Nat) (ds : List DoIn) (hd : ∀ d ∈ ds, RightD b0 d) (hn : ds.length ≤ 120) :
    ∃ t1 t2 t3 t4, (kst b0 b1 b2 b3 b4 b5 hk).run (ds ++ q4) = (kst b0 b1 b2 b3 b4 b5 hk).run ds ++ [t1, t2, t3, t4] ∧ Q4 b0 t1 t2 t3 t4 := by
  have hs := (after_same (kst b0 b1 b2 b3 b4 b5 hk) ds).1
  have hb := (kst_bnd 4 b0 b1 b2 b3 b4 b5 hk).after ds fun d h => (hd d h).prs
  have hb : Bnd 4 120 ((kst b0 b1 b2 b3 b4 b5 hk).after ds) := ⟨by have := hb.ps; omega, by have := hb.ls; omega, fun p hp => by have := hb.pe p hp; omega, fun p hp => by have := hb.le p hp; omega⟩
  have q := q4_of (wf_after ds _ (wf_empty _ rfl rfl)) (nl_after ds (kst b0 b1 b2 b3 b4 b5 hk) (fun _ l h => by cases h) fun d h ho hdir e => (hd d h).loop (by rw [← hdir, kst_dir]) e ⟨by omega, by omega⟩) hb
  rw [hs, kst_dir] at q
  exact ⟨_, _, _, _, by rw [run_appB]; simp only [St.run, St.step, hs, kst_dir], q⟩

theorem fit_q4 {b0 : Bool} {hk : Nat} {ds : List DoIn} (hd : ∀ d ∈ ds, RightD b0 d) : ∀ d ∈ ds ++ q4, Fit b0 hk d := by
  intro d h
  rcases List.mem_append.1 h with h | h
  · exact (hd d h).fit hk
  · simp only [q4, List.mem_cons, List.not_mem_nil, or_false] at h
    rcases h with rfl | rfl | rfl | rfl <;> exact { op := by decide, ab := fun q => (by cases q), hz := fun _ => by decide, prs := by decide }
end Go.Proofs.YtbafaadmlpamiaaGreatDoor

/- A region that draws its order and makes four boxes: in whatever order, four boxes come of it. Of no program. -/
namespace Go.Hy
open Go Go.RowKit

/-- a pointer at a block's first cell -/
abbrev ptrAt (n : Nat) : Value := .pointer (some ⟨n, 0, none⟩)

abbrev put4 (a : Act) (s0 s1 s2 s3 : Nat) (x0 x1 x2 x3 : Value) : Act := (((a.put (some s0) x0).put (some s1) x1).put (some s2) x2).put (some s3) x3

theorem put_put (a : Act) (s : Nat) (u v : Value) : (a.put (some s) u).put (some s) v = a.put (some s) v := by
  simp [Act.put]

theorem put_swap (a : Act) {s r : Nat} (h : s ≠ r) (u v : Value) : (a.put (some s) u).put (some r) v = (a.put (some r) v).put (some s) u := by
  simp only [Act.put]
  rw [Array.setIfInBounds_comm _ _ h]

abbrev set4 (l : Array Bool) (i0 i1 i2 i3 : Nat) (b0 b1 b2 b3 : Bool) : Array Bool := (((l.setIfInBounds i0 b0).setIfInBounds i1 b1).setIfInBounds i2 b2).setIfInBounds i3 b3

set_option maxHeartbeats 1000000 in
/-- four boxes made in whatever order -/
theorem OrdS.news4 {P : Program} {ops : Array Oper} {Q : Exit → Act → World → Prop} {md : Region.Mode} {S : World → Prop} {m k : Nat} {a : Act} {l : Array Bool} (cs : Array Value) (t : TypeId) (w0 : World) (i0 i1 i2 i3 s0 s1 s2 s3 : Nat)
    (hi : i0 ≠ i1 ∧ i0 ≠ i2 ∧ i0 ≠ i3 ∧ i1 ≠ i2 ∧ i1 ≠ i3 ∧ i2 ≠ i3) (hs : s0 ≠ s1 ∧ s0 ≠ s2 ∧ s0 ≠ s3 ∧ s1 ≠ s2 ∧ s1 ≠ s3 ∧ s2 ≠ s3)
    (hr : ∀ b0 b1 b2 b3, ((b0 && b1 && b2 && b3) || (!(Region.ready md ops (set4 l i0 i1 i2 i3 b0 b1 b2 b3)).isEmpty && (Region.ready md ops (set4 l i0 i1 i2 i3 b0 b1 b2 b3)).all fun i => (i == i0 && !b0) || (i == i1 && !b1) || (i == i2 && !b2) || (i == i3 && !b3))) = true)
    (hS : ∀ w', Fr (fun q => w0.heap.size ≤ q) w0 w' → S w')
    (h0 : ∀ (a : Act) (w : World) (K : Act → World → Prop), K (a.put (some s0) (ptrAt w.heap.size)) (w.alloc (.cells cs t)) → wpOp P ops Q i0 K a w)
    (h1 : ∀ (a : Act) (w : World) (K : Act → World → Prop), K (a.put (some s1) (ptrAt w.heap.size)) (w.alloc (.cells cs t)) → wpOp P ops Q i1 K a w)
    (h2 : ∀ (a : Act) (w : World) (K : Act → World → Prop), K (a.put (some s2) (ptrAt w.heap.size)) (w.alloc (.cells cs t)) → wpOp P ops Q i2 K a w)
    (h3 : ∀ (a : Act) (w : World) (K : Act → World → Prop), K (a.put (some s3) (ptrAt w.heap.size)) (w.alloc (.cells cs t)) → wpOp P ops Q i3 K a w)
    (hfin : ∀ n0 n1 n2 n3 w, Cells w n0 cs t → Cells w n1 cs t → Cells w n2 cs t → Cells w n3 cs t → (n0 ≠ n1 ∧ n0 ≠ n2 ∧ n0 ≠ n3 ∧ n1 ≠ n2 ∧ n1 ≠ n3 ∧ n2 ≠ n3) → (w0.heap.size ≤ n0 ∧ w0.heap.size ≤ n1 ∧ w0.heap.size ≤ n2 ∧ w0.heap.size ≤ n3) →
      Fr (fun q => w0.heap.size ≤ q) w0 w → OrdS P md ops Q S m k (set4 l i0 i1 i2 i3 true true true true) (put4 a s0 s1 s2 s3 (ptrAt n0) (ptrAt n1) (ptrAt n2) (ptrAt n3)) w) :
    ∀ (c : Nat) (b0 b1 b2 b3 : Bool) (x0 x1 x2 x3 : Value) (n0 n1 n2 n3 : Nat) (w : World), (!b0).toNat + (!b1).toNat + (!b2).toNat + (!b3).toNat = c →
      (b0 = true → x0 = ptrAt n0 ∧ Cells w n0 cs t ∧ w0.heap.size ≤ n0) → (b1 = true → x1 = ptrAt n1 ∧ Cells w n1 cs t ∧ w0.heap.size ≤ n1) → (b2 = true → x2 = ptrAt n2 ∧ Cells w n2 cs t ∧ w0.heap.size ≤ n2) → (b3 = true → x3 = ptrAt n3 ∧ Cells w n3 cs t ∧ w0.heap.size ≤ n3) →
      ((b0 = true → b1 = true → n0 ≠ n1) ∧ (b0 = true → b2 = true → n0 ≠ n2) ∧ (b0 = true → b3 = true → n0 ≠ n3) ∧ (b1 = true → b2 = true → n1 ≠ n2) ∧ (b1 = true → b3 = true → n1 ≠ n3) ∧ (b2 = true → b3 = true → n2 ≠ n3)) →
      Fr (fun q => w0.heap.size ≤ q) w0 w → OrdS P md ops Q S m (c + k) (set4 l i0 i1 i2 i3 b0 b1 b2 b3) (put4 a s0 s1 s2 s3 x0 x1 x2 x3) w
  | 0, b0, b1, b2, b3, x0, x1, x2, x3, n0, n1, n2, n3, w, hc, g0, g1, g2, g3, hd, f => by
    have e0 : b0 = true := by
      cases b0 with
      | true => rfl
      | false => exact absurd hc (by have e1 : (!false).toNat = 1 := rfl; omega)
    have e1 : b1 = true := by
      cases b1 with
      | true => rfl
      | false => exact absurd hc (by have e1 : (!false).toNat = 1 := rfl; omega)
    have e2 : b2 = true := by
      cases b2 with
      | true => rfl
      | false => exact absurd hc (by have e1 : (!false).toNat = 1 := rfl; omega)
    have e3 : b3 = true := by
      cases b3 with
      | true => rfl
      | false => exact absurd hc (by have e1 : (!false).toNat = 1 := rfl; omega)
    subst e0 e1 e2 e3
    obtain ⟨rfl, c0, z0⟩ := g0 rfl
    obtain ⟨rfl, c1, z1⟩ := g1 rfl
    obtain ⟨rfl, c2, z2⟩ := g2 rfl
    obtain ⟨rfl, c3, z3⟩ := g3 rfl
    rw [Nat.zero_add]
    exact hfin n0 n1 n2 n3 w c0 c1 c2 c3 ⟨hd.1 rfl rfl, hd.2.1 rfl rfl, hd.2.2.1 rfl rfl, hd.2.2.2.1 rfl rfl, hd.2.2.2.2.1 rfl rfl, hd.2.2.2.2.2 rfl rfl⟩ ⟨z0, z1, z2, z3⟩ f
  | c + 1, b0, b1, b2, b3, x0, x1, x2, x3, n0, n1, n2, n3, w, hc, g0, g1, g2, g3, hd, f => by
    have hq := hr b0 b1 b2 b3
    have hall : (b0 && b1 && b2 && b3) = false := Bool.eq_false_iff.2 fun h => by
      simp only [Bool.and_eq_true] at h
      obtain ⟨⟨⟨h5, h6⟩, h7⟩, h8⟩ := h
      subst h5 h6 h7 h8
      exact absurd hc (by have e2 : (!true).toNat = 0 := rfl; omega)
    rw [hall, Bool.false_or, Bool.and_eq_true, Bool.not_eq_true'] at hq
    have up : ∀ {n}, Cells w n cs t → Cells (w.alloc (.cells cs t)) n cs t := fun h => h.alloc _
    have ne : ∀ {n}, Cells w n cs t → n ≠ w.heap.size := fun h => Nat.ne_of_lt h.lt
    have new : Cells (w.alloc (.cells cs t)) w.heap.size cs t := Cells.new w cs t
    have fa : Fr (fun q => w0.heap.size ≤ q) w0 (w.alloc (.cells cs t)) := f.alloc _
    have le : w0.heap.size ≤ w.heap.size := f.size
    rw [show c + 1 + k = (c + k) + 1 by omega]
    refine ⟨fun e => by rw [e] at hq; exact absurd hq.1 (by simp), fun i him => ?_⟩
    have hz := List.all_eq_true.1 hq.2 i him
    simp only [Bool.or_eq_true, Bool.and_eq_true, beq_iff_eq, Bool.not_eq_true'] at hz
    rcases hz with ((⟨rfl, rfl⟩ | ⟨rfl, rfl⟩) | ⟨rfl, rfl⟩) | ⟨rfl, rfl⟩
    · refine h0 _ w _ ⟨fun _ => hS _ fa, ?_⟩
      have e1 : (set4 l i i1 i2 i3 false b1 b2 b3).setIfInBounds i true = set4 l i i1 i2 i3 true b1 b2 b3 := by
        unfold set4
        rw [Array.setIfInBounds_comm _ _ hi.2.2.1.symm, Array.setIfInBounds_comm _ _ hi.2.1.symm, Array.setIfInBounds_comm _ _ hi.1.symm, Array.setIfInBounds_setIfInBounds]
      have e2 : (put4 a s0 s1 s2 s3 x0 x1 x2 x3).put (some s0) (ptrAt w.heap.size) = put4 a s0 s1 s2 s3 (ptrAt w.heap.size) x1 x2 x3 := by
        unfold put4
        rw [put_swap _ hs.2.2.1.symm, put_swap _ hs.2.1.symm, put_swap _ hs.1.symm, put_put]
      rw [e1, e2]
      exact OrdS.news4 cs t w0 i i1 i2 i3 s0 s1 s2 s3 hi hs hr hS h0 h1 h2 h3 hfin c true b1 b2 b3 _ x1 x2 x3 w.heap.size n1 n2 n3 _ (by have e1 : (!false).toNat = 1 := rfl; have e2 : (!true).toNat = 0 := rfl; omega) (fun _ => ⟨rfl, new, le⟩) (fun h => ⟨(g1 h).1, up (g1 h).2.1, (g1 h).2.2⟩) (fun h => ⟨(g2 h).1, up (g2 h).2.1, (g2 h).2.2⟩) (fun h => ⟨(g3 h).1, up (g3 h).2.1, (g3 h).2.2⟩)
        ⟨fun _ h => (ne (g1 h).2.1).symm, fun _ h => (ne (g2 h).2.1).symm, fun _ h => (ne (g3 h).2.1).symm, hd.2.2.2.1, hd.2.2.2.2.1, hd.2.2.2.2.2⟩ fa
    · refine h1 _ w _ ⟨fun _ => hS _ fa, ?_⟩
      have e1 : (set4 l i0 i i2 i3 b0 false b2 b3).setIfInBounds i true = set4 l i0 i i2 i3 b0 true b2 b3 := by
        unfold set4
        rw [Array.setIfInBounds_comm _ _ hi.2.2.2.2.1.symm, Array.setIfInBounds_comm _ _ hi.2.2.2.1.symm, Array.setIfInBounds_setIfInBounds]
      have e2 : (put4 a s0 s1 s2 s3 x0 x1 x2 x3).put (some s1) (ptrAt w.heap.size) = put4 a s0 s1 s2 s3 x0 (ptrAt w.heap.size) x2 x3 := by
        unfold put4
        rw [put_swap _ hs.2.2.2.2.1.symm, put_swap _ hs.2.2.2.1.symm, put_put]
      rw [e1, e2]
      exact OrdS.news4 cs t w0 i0 i i2 i3 s0 s1 s2 s3 hi hs hr hS h0 h1 h2 h3 hfin c b0 true b2 b3 x0 _ x2 x3 n0 w.heap.size n2 n3 _ (by have e1 : (!false).toNat = 1 := rfl; have e2 : (!true).toNat = 0 := rfl; omega) (fun h => ⟨(g0 h).1, up (g0 h).2.1, (g0 h).2.2⟩) (fun _ => ⟨rfl, new, le⟩) (fun h => ⟨(g2 h).1, up (g2 h).2.1, (g2 h).2.2⟩) (fun h => ⟨(g3 h).1, up (g3 h).2.1, (g3 h).2.2⟩)
        ⟨fun h _ => ne (g0 h).2.1, hd.2.1, hd.2.2.1, fun _ h => (ne (g2 h).2.1).symm, fun _ h => (ne (g3 h).2.1).symm, hd.2.2.2.2.2⟩ fa
    · refine h2 _ w _ ⟨fun _ => hS _ fa, ?_⟩
      have e1 : (set4 l i0 i1 i i3 b0 b1 false b3).setIfInBounds i true = set4 l i0 i1 i i3 b0 b1 true b3 := by
        unfold set4
        rw [Array.setIfInBounds_comm _ _ hi.2.2.2.2.2.symm, Array.setIfInBounds_setIfInBounds]
      have e2 : (put4 a s0 s1 s2 s3 x0 x1 x2 x3).put (some s2) (ptrAt w.heap.size) = put4 a s0 s1 s2 s3 x0 x1 (ptrAt w.heap.size) x3 := by
        unfold put4
        rw [put_swap _ hs.2.2.2.2.2.symm, put_put]
      rw [e1, e2]
      exact OrdS.news4 cs t w0 i0 i1 i i3 s0 s1 s2 s3 hi hs hr hS h0 h1 h2 h3 hfin c b0 b1 true b3 x0 x1 _ x3 n0 n1 w.heap.size n3 _ (by have e1 : (!false).toNat = 1 := rfl; have e2 : (!true).toNat = 0 := rfl; omega) (fun h => ⟨(g0 h).1, up (g0 h).2.1, (g0 h).2.2⟩) (fun h => ⟨(g1 h).1, up (g1 h).2.1, (g1 h).2.2⟩) (fun _ => ⟨rfl, new, le⟩) (fun h => ⟨(g3 h).1, up (g3 h).2.1, (g3 h).2.2⟩)
        ⟨hd.1, fun h _ => ne (g0 h).2.1, hd.2.2.1, fun h _ => ne (g1 h).2.1, hd.2.2.2.2.1, fun _ h => (ne (g3 h).2.1).symm⟩ fa
    · refine h3 _ w _ ⟨fun _ => hS _ fa, ?_⟩
      have e1 : (set4 l i0 i1 i2 i b0 b1 b2 false).setIfInBounds i true = set4 l i0 i1 i2 i b0 b1 b2 true := by
        unfold set4
        rw [Array.setIfInBounds_setIfInBounds]
      have e2 : (put4 a s0 s1 s2 s3 x0 x1 x2 x3).put (some s3) (ptrAt w.heap.size) = put4 a s0 s1 s2 s3 x0 x1 x2 (ptrAt w.heap.size) := by
        unfold put4
        rw [put_put]
      rw [e1, e2]
      exact OrdS.news4 cs t w0 i0 i1 i2 i s0 s1 s2 s3 hi hs hr hS h0 h1 h2 h3 hfin c b0 b1 b2 true x0 x1 x2 _ n0 n1 n2 w.heap.size _ (by have e1 : (!false).toNat = 1 := rfl; have e2 : (!true).toNat = 0 := rfl; omega) (fun h => ⟨(g0 h).1, up (g0 h).2.1, (g0 h).2.2⟩) (fun h => ⟨(g1 h).1, up (g1 h).2.1, (g1 h).2.2⟩) (fun h => ⟨(g2 h).1, up (g2 h).2.1, (g2 h).2.2⟩) (fun _ => ⟨rfl, new, le⟩)
        ⟨hd.1, hd.2.1, fun h _ => ne (g0 h).2.1, hd.2.2.2.1, fun h _ => ne (g1 h).2.1, fun h _ => ne (g2 h).2.1⟩ fa

/-- .. from where none is made yet -/
theorem OrdS.news4' {P : Program} {ops : Array Oper} {Q : Exit → Act → World → Prop} {md : Region.Mode} {S : World → Prop} {m k : Nat} {a : Act} {l : Array Bool} (cs : Array Value) (t : TypeId) (w0 : World) (i0 i1 i2 i3 s0 s1 s2 s3 : Nat)
    (hi : i0 ≠ i1 ∧ i0 ≠ i2 ∧ i0 ≠ i3 ∧ i1 ≠ i2 ∧ i1 ≠ i3 ∧ i2 ≠ i3) (hs : s0 ≠ s1 ∧ s0 ≠ s2 ∧ s0 ≠ s3 ∧ s1 ≠ s2 ∧ s1 ≠ s3 ∧ s2 ≠ s3)
    (hr : ∀ b0 b1 b2 b3, ((b0 && b1 && b2 && b3) || (!(Region.ready md ops (set4 l i0 i1 i2 i3 b0 b1 b2 b3)).isEmpty && (Region.ready md ops (set4 l i0 i1 i2 i3 b0 b1 b2 b3)).all fun i => (i == i0 && !b0) || (i == i1 && !b1) || (i == i2 && !b2) || (i == i3 && !b3))) = true)
    (hS : ∀ w', Fr (fun q => w0.heap.size ≤ q) w0 w' → S w')
    (h0 : ∀ (a : Act) (w : World) (K : Act → World → Prop), K (a.put (some s0) (ptrAt w.heap.size)) (w.alloc (.cells cs t)) → wpOp P ops Q i0 K a w)
    (h1 : ∀ (a : Act) (w : World) (K : Act → World → Prop), K (a.put (some s1) (ptrAt w.heap.size)) (w.alloc (.cells cs t)) → wpOp P ops Q i1 K a w)
    (h2 : ∀ (a : Act) (w : World) (K : Act → World → Prop), K (a.put (some s2) (ptrAt w.heap.size)) (w.alloc (.cells cs t)) → wpOp P ops Q i2 K a w)
    (h3 : ∀ (a : Act) (w : World) (K : Act → World → Prop), K (a.put (some s3) (ptrAt w.heap.size)) (w.alloc (.cells cs t)) → wpOp P ops Q i3 K a w)
    (hfin : ∀ n0 n1 n2 n3 w, Cells w n0 cs t → Cells w n1 cs t → Cells w n2 cs t → Cells w n3 cs t → (n0 ≠ n1 ∧ n0 ≠ n2 ∧ n0 ≠ n3 ∧ n1 ≠ n2 ∧ n1 ≠ n3 ∧ n2 ≠ n3) → (w0.heap.size ≤ n0 ∧ w0.heap.size ≤ n1 ∧ w0.heap.size ≤ n2 ∧ w0.heap.size ≤ n3) →
      Fr (fun q => w0.heap.size ≤ q) w0 w → OrdS P md ops Q S m k (set4 l i0 i1 i2 i3 true true true true) (put4 a s0 s1 s2 s3 (ptrAt n0) (ptrAt n1) (ptrAt n2) (ptrAt n3)) w)
    (hl : set4 l i0 i1 i2 i3 false false false false = l) (ha : put4 a s0 s1 s2 s3 undef undef undef undef = a) {w : World} (f : Fr (fun q => w0.heap.size ≤ q) w0 w) : OrdS P md ops Q S m (4 + k) l a w := by
  have z := OrdS.news4 cs t w0 i0 i1 i2 i3 s0 s1 s2 s3 hi hs hr hS h0 h1 h2 h3 hfin 4 false false false false undef undef undef undef 0 0 0 0 w rfl (fun h => by cases h) (fun h => by cases h) (fun h => by cases h) (fun h => by cases h) ⟨fun h => (by cases h), fun h => (by cases h), fun h => (by cases h), fun h => (by cases h), fun h => (by cases h), fun h => (by cases h)⟩ f
  rwa [hl, ha] at z
end Go.Hy

/- Steps from one package to the other: the new list is nobody else's. -/
namespace Go.Proofs.YtbafaadmlpamiaaGreatDoor
open Go Go.Hy Go.RowKit

set_option maxRecDepth 100000 in
set_option maxHeartbeats 1000000 in
theorem dtoK (w : World) (v : Value) (ds : List DoIn) (h : SDosAt w v ds) (hn : ds.length ≤ 100000) (hp : ∀ d ∈ ds, d.prs.length ≤ 100000) :
    Calls Tryz.prog 20 #[v] w fun e w' => ∃ v dvs, e = .returned v ∧ DT w ds ds.length v dvs w' := by
  have HP := Lib.hid h
  have HS := Lib.hid hp
  obtain ⟨ao, cap, rfl, -⟩ := h
  obtain ⟨i0, hi0, hz0, hz1, hz2⟩ := info_parts info50
  have I50 := Lib.hid (And.intro hi0 (And.intro hz0 (And.intro hz1 hz2)))
  clear hp hi0 hz0 hz1 hz2
  go_enter Tryz.func20, Tryz.ntmps20
  go_wp2_with fail
  go_loopg [3, 8] ds.length (fun k v c wr => ∃ (i : Nat) (dvs : List (DoIn × Value)), k + i = ds.length ∧ c = .int .i64 (i : Nat) ∧ DT w ds i v dvs wr)
  case atStart => exact ⟨0, [], rfl, rfl, ⟨rfl, World.ownsRow_nil _ _ _ _, fun p hp => by simp at hp, Fr.refl _ _⟩⟩
  case round =>
    obtain ⟨i, dvs, hk, rfl, R⟩ := hrel
    have A := Lib.hid (And.intro hk R)
    clear hk R
    by_cases hi : i < ds.length
    · have hg := List.getElem?_eq_getElem hi
      obtain ⟨ao', cap', e, hr⟩ := HP.out.fr A.out.2.fr
      cases e
      obtain ⟨ob, off, pv, rfl, hl, c0, c1, c2, c3, c4, hpv⟩ := hr i _ hg
      have hmem := List.getElem_mem hi
      generalize ds[i] = d at c0 c1 c2 c3 c4 hpv hg hmem
      have PV := Lib.hid (And.intro hpv (And.intro hg (HS.out d hmem)))
      obtain ⟨pa, pc, rfl⟩ := hpv.form
      clear hg hr hpv hmem
      go_wp2_with fail
      have BX := Lib.hid (Cells.new wr #[.int .u8 d.op, .string d.a, .string d.b, .int .i64 d.wt, .slice pa d.prs.length pc] 28)
      have FA := Lib.hid ((Fr.refl (fun _ => False) wr).alloc (.cells #[.int .u8 d.op, .string d.a, .string d.b, .int .i64 d.wt, .slice pa d.prs.length pc] 28))
      have SZ := Lib.hid (show (wr.alloc (.cells #[.int .u8 d.op, .string d.a, .string d.b, .int .i64 d.wt, .slice pa d.prs.length pc] 28)).heap.size = wr.heap.size + 1 from by simp)
      have SW := Lib.hid A.out.2.fr.size
      clear c0 c1 c2 c3 c4
      go_region_held3 (fun w' => w'.cell? ⟨wr.heap.size, 0, none⟩ = some (.int .u8 d.op) ∧ w'.cell? ⟨wr.heap.size, 1, none⟩ = some (.string d.a) ∧ w'.cell? ⟨wr.heap.size, 2, none⟩ = some (.string d.b) ∧ w'.cell? ⟨wr.heap.size, 3, none⟩ = some (.int .i64 d.wt) ∧ w'.cell? ⟨wr.heap.size, 4, none⟩ = some (.slice pa d.prs.length pc)) (go_keep)
        (first
          | (go_at_call 40; refine (pto _ _ d.prs ?_ PV.out.2.2).mono ?_; exact PV.out.1.fr FA.out.drew; rintro e w3 ⟨pa3, pc3, rfl, g1, g2⟩; have F3 := Lib.hid (fr_undrew2 g2); have Z := Lib.hid g1; have BB := Lib.hid (BX.out.fr F3.out (fun q => q)); have k0 := BB.out.cell 0 (.int .u8 d.op) rfl; have k1 := BB.out.cell 1 (.string d.a) rfl; have k2 := BB.out.cell 2 (.string d.b) rfl; have k3 := BB.out.cell 3 (.int .i64 d.wt) rfl; have k4 := BB.out.cell 4 (.slice pa d.prs.length pc) rfl; have kl := BB.out.lt; clear g1 g2)
          | (refine step_append_lies _ (by rfl) _ _ _ (by rfl) w.heap.size 50 i0 _ 5 72 Tryz.underlying38 I50.out.1 I50.out.2.1 I50.out.2.2.1 I50.out.2.2.2 rfl (by omega) u3 i (encL encDo dvs) (by rfl) (ownsRow_fr (ownsRow_fr (ownsRow_fr A.out.2.row FA.out (fun _ _ q => q)) F3.out (fun _ _ q => q)) ((Fr.refl (fun _ => False) w3).alloc _) (fun _ _ q => q))
              ⟨w3.heap.size, 0, none⟩ 1 1 [.int .u8 d.op, .string d.a, .string d.b, .int .i64 d.wt, .slice pa3 d.prs.length pc3] (by rfl) (by rfl) (World.news_of_block (cs := #[.int .u8 d.op, .string d.a, .string d.b, .int .i64 d.wt, .slice pa3 d.prs.length pc3]) (t := 50) (fr := (0, 0)) (heap_alloc_new w3 _)) (by simp [Value.oneCell'])
              (by omega) (by have : maxLen = 9223372036854775807 := rfl; omega) (by omega) (by have := SW.out; simp; omega) (w3.heap.size + 1) (by simp) ?_
             intro g4 cap4 w4 ho4 hg4 hat4 hlt4
             have F4 := Lib.hid (((Fr.refl (fun k => u3.ownBlock = some k) w3).alloc (.cells #[.int .u8 d.op, .string d.a, .string d.b, .int .i64 d.wt, .slice pa3 d.prs.length pc3] 50)).grown hg4 (fun _ q => .inl q))
             have B4 := Lib.hid (BB.out.fr F4.out (fun q => by have := (A.out.2.row.lt _ q).2; omega))
             have O4 := Lib.hid (And.intro ho4 hat4)
             have j0 := B4.out.cell 0 (.int .u8 d.op) rfl
             have j1 := B4.out.cell 1 (.string d.a) rfl
             have j2 := B4.out.cell 2 (.string d.b) rfl
             have j3 := B4.out.cell 3 (.int .i64 d.wt) rfl
             have j4 := B4.out.cell 4 (.slice pa d.prs.length pc) rfl
             clear ho4 hg4 hat4))
      go_wp2_with fail
      go_roundg (gk - 1)
      case measure => have := A.out.1; omega
      case rel =>
        exact ⟨i + 1, _, by have := A.out.1; omega, by simp, DT.step A.out.2 PV.out.2.1 FA.out F3.out Z.out O4.out.1 F4.out (by
          rcases O4.out.2 with q | q
          · exact .inl q
          · exact .inr ⟨g4, rfl, by omega⟩)⟩
    · have hi' : i = ds.length := by have := A.out.1; omega
      subst hi'
      have R := A.out.2
      obtain ⟨ao3, cap3, rfl, hc3, _⟩ := own_slice R.row
      have RR := Lib.hid (And.intro R hc3)
      clear R hc3
      go_wp2_with fail
      go_ret
      exact ⟨_, dvs, rfl, RR.out.1⟩

/-- the steps, and others behind them that have no attributes -/
theorem DT.more {w w2 : World} {ds ms : List DoIn} {v v' : Value} {dvs : List (DoIn × Value)} {m : Nat} (h : DT w ds ds.length v dvs w2) (hm : m = ds.length + ms.length) (hms : ∀ d ∈ ms, d.prs = []) {w3 : World}
    (ho : w3.ownsRow w.heap.size 50 5 v' m (encL encDo dvs ++ encL encDo (ms.map fun d => (d, .slice none 0 0)))) (f : Fr (fun k => v.ownBlock = some k) w2 w3) (hl : m ≤ 100000) (hs : ∀ d ∈ ds, d.prs.length ≤ 100000) :
    ∃ ao cap, v' = .slice ao m cap ∧ DosAt w3 ao m cap (ds ++ ms) := by
  subst hm
  obtain ⟨ao, cap, rfl, hc, _⟩ := own_slice ho
  refine ⟨ao, cap, rfl, ?_⟩
  have e : encL encDo dvs ++ encL encDo (ms.map fun d => (d, .slice none 0 0)) = encL encDo (dvs ++ ms.map fun d => (d, .slice none 0 0)) := by simp [encL]
  rw [e] at ho
  have hd : dvs.map (·.1) = ds := by rw [h.fst, List.take_length]
  have hlen : dvs.length = ds.length := by have := congrArg List.length hd; simpa using this
  have D := DosAt.of_reads (own_slice ho) (by simp [hlen]) hl fun p hp => by
    rcases List.mem_append.1 hp with q | q
    · obtain ⟨xa, xc, e, hx⟩ := h.prs p q
      rw [e] at hx
      refine ⟨xa, _, xc, e, PairsIn.ok (PairsIn.fr hx f fun q hq _ r => hq.2 r) (hs _ ?_)⟩
      have h1 : p.1 ∈ dvs.map (·.1) := List.mem_map.2 ⟨p, q, rfl⟩
      rwa [hd] at h1
    · obtain ⟨d, hd, rfl⟩ := List.mem_map.1 q
      refine ⟨none, 0, 0, rfl, ?_⟩
      have : d.prs = [] := hms d hd
      rw [show (d, Value.slice none 0 0).1.prs = [] from this]
      exact PairsIn.ok (prs := []) (PairsIn.nil w3 fun _ => True) (by simp)
  have e2 : (dvs ++ ms.map fun d => (d, Value.slice none 0 0)).map (·.1) = ds ++ ms := by rw [List.map_append, hd, List.map_map]; congr 1; exact List.map_id' _
  rwa [e2] at D
end Go.Proofs.YtbafaadmlpamiaaGreatDoor

/- FnStoreBoth: the closed facts of its row, each by itself. -/
namespace Go.Proofs.YtbafaadmlpamiaaGreatDoor
open Go Go.ChangeShapes Go.WideShapes Go.ChangeAt Go.RowKit

theorem bothF1 : (Rows.fnStoreBothRow.inPlace == Tryz.prog.inPlace 8) = true := by kernel_rfl
theorem bothF2 : (Rows.fnStoreBothRow.unfollowed == Tryz.prog.unfollowed 8) = true := by kernel_rfl
theorem bothF3 : (Rows.fnStoreBothRow.recurses == Tryz.prog.recurses 8) = true := by kernel_rfl
theorem bothF4 : (Rows.fnStoreBothRow.named == Tryz.prog.varsNamed 8) = true := by kernel_rfl

theorem bothFacts : joinedFacts Tryz.prog 8 Tryz.f8 Rows.fnStoreBothSpec Rows.fnStoreBothRow = true := by
  unfold joinedFacts
  rw [bothF1, bothF2, bothF3, bothF4]
  kernel_rfl
end Go.Proofs.YtbafaadmlpamiaaGreatDoor
