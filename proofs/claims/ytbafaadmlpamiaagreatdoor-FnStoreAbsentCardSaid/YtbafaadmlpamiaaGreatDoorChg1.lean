/- FnStoreChange: what its steps tell. Plain. -/
import Derived.Test.YtbafaadmlpamiaaGreatDoorC1
namespace Go.Proofs.YtbafaadmlpamiaaGreatDoor
open Go Go.Hy Go.RowKit

theorem byK_byK (l m : List PP) : byK (byK l ++ m) = byK (l ++ m) := by
  refine SK.ext (byK_sorted _) (byK_sorted _) fun k => ?_
  rw [look_byK, look_byK, List.reverse_append, List.reverse_append, lookP_app, lookP_app, lookP_perm (List.reverse_perm _) (byK_sorted l).nodup, look_byK]

theorem St.run_app (s : St) (x y : List DoIn) : s.run (x ++ y) = s.run x ++ (s.after x).run y := by
  induction x generalizing s with
  | nil => rfl
  | cons d x ih => simp [St.run, St.after, ih]

theorem St.after_app (s : St) (x y : List DoIn) : s.after (x ++ y) = (s.after x).after y := by
  induction x generalizing s with
  | nil => rfl
  | cons d x ih => simp [St.after, ih]

/-- changes: a weight and attributes each -/
abbrev Us := List (Int × List PP)

def chBase (a b c : ByteArray) (kv : List PP) : List DoIn := [⟨0, a, ⟨#[]⟩, 0, []⟩, ⟨0, b, ⟨#[]⟩, 0, []⟩, ⟨0, c, ⟨#[]⟩, 0, []⟩, ⟨2, a, b, 1, []⟩, ⟨2, b, c, 2, kv⟩]

def chUp (a b : ByteArray) (us : Us) : List DoIn := us.map fun u => ⟨4, a, b, u.1, u.2⟩

def chEnd (a b c : ByteArray) : List DoIn := [⟨6, a, b, 0, []⟩, ⟨6, b, c, 0, []⟩]

def chDs (a b c : ByteArray) (kv : List PP) (us : Us) : List DoIn := chBase a b c kv ++ chUp a b us ++ chEnd a b c

/-- the graph behind the changes -/
def chS (dir : Bool) (a b c : ByteArray) (kv : List PP) (wt : Int) (es : List PP) : St :=
  ⟨dir, false, 0, [⟨a, a, 0, []⟩, ⟨b, b, 0, []⟩, ⟨c, c, 0, []⟩], [⟨a, b, wt, byK es⟩, ⟨b, c, 2, byK kv⟩]⟩

def lastW (w0 : Int) (us : Us) : Int := us.foldl (fun _ u => u.1) w0

theorem ch_base (dir : Bool) (a b c : ByteArray) (kv : List PP) (h1 : a ≠ b) (h2 : a ≠ c) (h3 : b ≠ c) : (kst dir false false false false false 0).after (chBase a b c kv) = chS dir a b c kv 1 [] := by
  cases dir
  · have e0 : kst false false false false false false 0 = ⟨false, false, 0, [], []⟩ := rfl
    rw [e0]
    simp [chBase, chS, St.after, St.step, St.addV, St.addE, St.pt, St.lk, SL.hit, hashM, h1, h2, h3, byK]
  · have e0 : kst true false false false false false 0 = ⟨true, false, 0, [], []⟩ := rfl
    rw [e0]
    simp [chBase, chS, St.after, St.step, St.addV, St.addE, St.pt, St.lk, SL.hit, hashM, h1, h2, h3, byK]

theorem ch_up (dir : Bool) (a b c : ByteArray) (kv : List PP) (h1 : a ≠ b) (h2 : a ≠ c) (h3 : b ≠ c) : ∀ (us : Us) (wt : Int) (es : List PP), (chS dir a b c kv wt es).after (chUp a b us) = chS dir a b c kv (lastW wt us) (es ++ us.flatMap (·.2))
  | [], wt, es => by simp [chUp, St.after, lastW]
  | u :: us, wt, es => by
    have h1' : ¬ b = a := fun e => h1 e.symm
    have h2' : ¬ c = a := fun e => h2 e.symm
    have h3' : ¬ c = b := fun e => h3 e.symm
    have e : ((chS dir a b c kv wt es).step ⟨4, a, b, u.1, u.2⟩).2 = chS dir a b c kv u.1 (es ++ u.2) := by
      cases dir <;> simp [chS, St.step, St.updE, St.lk, SL.hit, h1, h1', h2', h3', byK_byK]
    have e2 : (chS dir a b c kv wt es).after (chUp a b (u :: us)) = (((chS dir a b c kv wt es).step ⟨4, a, b, u.1, u.2⟩).2).after (chUp a b us) := rfl
    rw [e2, e, ch_up dir a b c kv h1 h2 h3 us u.1 (es ++ u.2)]
    simp [lastW]

theorem ch_run (dir : Bool) (a b c : ByteArray) (kv : List PP) (us : Us) (h1 : a ≠ b) (h2 : a ≠ c) (h3 : b ≠ c) : ∃ ts : List Tl, ts.length = 5 + us.length ∧
    (kst dir false false false false false 0).run (chDs a b c kv us) = ts ++ [{ src := a, dst := b, wt := lastW 1 us, pairs := byK (us.flatMap (·.2)) }, { src := b, dst := c, wt := 2, pairs := byK kv }] := by
  refine ⟨(kst dir false false false false false 0).run (chBase a b c kv ++ chUp a b us), ?_, ?_⟩
  · rw [St.run_length]; simp [chBase, chUp]; omega
  · unfold chDs
    rw [St.run_app, St.after_app, ch_base dir a b c kv h1 h2 h3, ch_up dir a b c kv h1 h2 h3]
    congr 1
    have h1' : ¬ b = a := fun e => h1 e.symm
    have h3' : ¬ c = b := fun e => h3 e.symm
    cases dir <;> simp [chEnd, chS, St.run, St.step, St.edge, St.value, St.lk, St.pt, SL.hit, h1, h2, h3, h1', h3']

theorem byK_single (p : PP) : byK [p] = [p] := rfl
end Go.Proofs.YtbafaadmlpamiaaGreatDoor
