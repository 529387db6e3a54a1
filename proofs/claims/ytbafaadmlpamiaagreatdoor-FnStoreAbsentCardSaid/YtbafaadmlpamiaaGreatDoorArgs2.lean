/- The laws' arguments, as the rows hand them in: how a graph is made (a Kind). -/
import Derived.Test.YtbafaadmlpamiaaGreatDoorArgs
import Derived.WideShapes
import Derived.ProofKit
namespace Go.Proofs.YtbafaadmlpamiaaGreatDoor
open Go Go.Hy Go.ChangeShapes Go.WideShapes Go.RowKit

theorem tc4 : Tryz.prog.cellsOf 4 = 1 := by kernel_rfl
theorem tc52 : Tryz.prog.cellsOf 52 = 7 := by kernel_rfl

set_option maxRecDepth 100000 in
theorem open_kind {H : Type} {enc : TypeId × Value → H} {W : World} {base : Nat} {spare : Nat → Bool} {held : Bool} {b0 : Nat} {v : Value} {d : DataW H} {ps : List MemPlace} (hval : Value.okWide Tryz.prog W .any b0 52 v) (h : DataW.Trod enc Tryz.prog W base spare held 52 v d ps) :
    ∃ (b0 b1 b2 b3 b4 b5 : Bool) (hk : Nat), v = .agg #[.bool b0, .bool b1, .bool b2, .bool b3, .bool b4, .bool b5, .int .u8 hk] := by
  obtain ⟨cs, rfl, hsz⟩ := okWide_struct Tryz.underlying52 hval
  obtain ⟨fuel, hf⟩ := h
  replace hf : DataW.trod enc Tryz.prog W base spare held fuel 52 cs.toList = some _ := hf
  obtain ⟨xs, n, _, _, hl, hn, hg⟩ := DataW.trod_struct Tryz.underlying52 hf
  rw [tc52] at hl
  have hn' : xs.length = 7 := hn
  have ecs : cs = cs.toList.toArray := by simp
  generalize cs.toList = l at *
  match l, hl, xs, hn' with
  | [c0, c1, c2, c3, c4, c5, c6], _, [y0, y1, y2, y3, y4, y5, y6], _ =>
    have g0 := hg 0 _ rfl
    have g1 := hg 1 _ rfl
    have g2 := hg 2 _ rfl
    have g3 := hg 3 _ rfl
    have g4 := hg 4 _ rfl
    have g5 := hg 5 _ rfl
    have g6 := hg 6 _ rfl
    simp [tc4, tc5] at g0 g1 g2 g3 g4 g5 g6
    obtain ⟨x0, e0, _⟩ := DataW.trod_bool Tryz.underlying4 g0
    obtain ⟨x1, e1, _⟩ := DataW.trod_bool Tryz.underlying4 g1
    obtain ⟨x2, e2, _⟩ := DataW.trod_bool Tryz.underlying4 g2
    obtain ⟨x3, e3, _⟩ := DataW.trod_bool Tryz.underlying4 g3
    obtain ⟨x4, e4, _⟩ := DataW.trod_bool Tryz.underlying4 g4
    obtain ⟨x5, e5, _⟩ := DataW.trod_bool Tryz.underlying4 g5
    obtain ⟨hk, e6, _, wf⟩ := DataW.trod_int Tryz.underlying5 g6
    simp only [List.cons.injEq, and_true] at e0 e1 e2 e3 e4 e5 e6
    have h0 : 0 ≤ hk := by
      simp only [Lit.wf, Bool.and_eq_true, decide_eq_true_eq] at wf
      exact wf.1
    refine ⟨x0, x1, x2, x3, x4, x5, hk.toNat, ?_⟩
    rw [ecs, e0, e1, e2, e3, e4, e5, e6]
    simp only [Int.toNat_of_nonneg h0]
end Go.Proofs.YtbafaadmlpamiaaGreatDoor
