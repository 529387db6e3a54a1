/- FnStoreAbsent: its two runs, step by step. -/
import Derived.Test.YtbafaadmlpamiaaGreatDoorRunS
import Derived.Test.YtbafaadmlpamiaaGreatDoorSto7
import Derived.Test.YtbafaadmlpamiaaGreatDoorStepC2
import Derived.Test.YtbafaadmlpamiaaGreatDoorChg2
namespace Go.Proofs.YtbafaadmlpamiaaGreatDoor
open Go Go.Hy Go.RowKit

theorem kst_eq (b0 b1 b2 b3 b4 b5 : Bool) (hk : Nat) : kst b0 b1 b2 b3 b4 b5 hk = ⟨b0, b5, hk, [], []⟩ := by
  have h1 := kst_dir b0 b1 b2 b3 b4 b5 hk
  have h2 := kst_pr b0 b1 b2 b3 b4 b5 hk
  unfold kst at *
  simp only at h1 h2
  rw [h1, h2]

/-- every step tells and leaves, of the graph and of the store of lists, what the model's does -/
def Good (B : Nat) (eb : Nat → Addr) : St → List DoIn → Prop
  | _, [] => True
  | s, d :: ds => (StepC B eb s d ∧ StepS s d) ∧ Good B eb (s.step d).2 ds

theorem Good.at_ {B : Nat} {eb : Nat → Addr} : ∀ {s : St} {ds : List DoIn}, Good B eb s ds → ∀ (i : Nat) (d : DoIn), ds[i]? = some d → StepC B eb (s.after (ds.take i)) d ∧ StepS (s.after (ds.take i)) d
  | _, [], _, i, d, h => by simp at h
  | s, x :: ds, g, 0, d, h => by
    simp only [List.getElem?_cons_zero, Option.some.injEq] at h
    subst h
    exact g.1
  | s, x :: ds, g, i + 1, d, h => by
    simp only [List.getElem?_cons_succ] at h
    exact Good.at_ g.2 i d h

/-- doStep's contract, where the cycle check is not come to -/
theorem any_stepC (B : Nat) (eb : Nat → Addr) (s : St) (d : DoIn) (hs : Small s) (h : d.op ≤ 7) (h2 : d.op = 2 → StCalm s d ∧ (s.dir = false → d.a ≠ d.b)) : StepC B eb s d := by
  have ho : d.op = 0 ∨ d.op = 1 ∨ d.op = 2 ∨ d.op = 3 ∨ d.op = 4 ∨ d.op = 5 ∨ d.op = 6 ∨ d.op = 7 := by omega
  cases hd : s.dir with
  | true =>
    rcases ho with o | o | o | o | o | o | o | o
    · exact dstepC0 B eb s d o hd
    · exact dstepC1 B eb s d o hd
    · exact dstepC2 B eb s d o hd (h2 o).1 (h2 o).2
    · exact dstepC3 B eb s d o hd
    · exact dstepC4 B eb s d o hd
    · exact dstepC5 B eb s d o hd hs
    · exact dstepC6 B eb s d o hd hs
    · exact dstepC7 B eb s d o hd hs
  | false =>
    rcases ho with o | o | o | o | o | o | o | o
    · exact ustepC0 B eb s d o hd
    · exact ustepC1 B eb s d o hd
    · exact ustepC2 B eb s d o hd (h2 o).1 (h2 o).2
    · exact ustepC3 B eb s d o hd
    · exact ustepC4 B eb s d o hd
    · exact ustepC5 B eb s d o hd hs
    · exact ustepC6 B eb s d o hd hs
    · exact ustepC7 B eb s d o hd hs

theorem stepS5_no {s : St} {a b : ByteArray} {wt : Int} {prs : List PP} (hs : Small s) (hn : ptI s.ps a = none) : StepS s ⟨5, a, b, wt, prs⟩ := by
  intro w sb pv h hp
  have e : s.step ⟨5, a, b, wt, prs⟩ = ({ err := 2 }, s) := congrArg (·, s) (vtxS_no (d := ⟨5, a, b, wt, prs⟩) hn)
  rw [e]
  exact sto5_no w sb s h hs a b wt pv prs hp hn

theorem stepS1_no {s : St} {a b : ByteArray} {wt : Int} {prs : List PP} (hs : Small s) (hn : ptI s.ps a = none) : StepS s ⟨1, a, b, wt, prs⟩ := by
  intro w sb pv h hp
  have e : s.step ⟨1, a, b, wt, prs⟩ = ({ err := 2 }, s) := rmVS_no (d := ⟨1, a, b, wt, prs⟩) hn
  rw [e]
  exact sto1_no w sb s h hs a b wt pv prs hp hn

theorem stepS1_yes {s : St} (hw : Wf s) {a b : ByteArray} {wt : Int} {prs : List PP} {i : Nat} (hs : Small s) (hi : ptI s.ps a = some i) (hn : ∀ l ∈ s.ls, ¬ (l.a = a ∨ l.b = a)) : StepS s ⟨1, a, b, wt, prs⟩ := by
  intro w sb pv h hp
  have e : s.step ⟨1, a, b, wt, prs⟩ = ({}, { s with ps := s.ps.take i ++ s.ps.drop (i + 1) }) := rmVS_yes hw (d := ⟨1, a, b, wt, prs⟩) hi hn
  rw [e]
  exact sto1_yes w sb s h hs a b wt pv prs hp i hi hn

theorem stepS6_no {s : St} {a b : ByteArray} {wt : Int} {prs : List PP} (hs : Small s) (hn : lkI s.dir s.ls a b = none) : StepS s ⟨6, a, b, wt, prs⟩ := by
  intro w sb pv h hp
  have e : s.step ⟨6, a, b, wt, prs⟩ = ({ err := 5 }, s) := congrArg (·, s) (edgeS_no (d := ⟨6, a, b, wt, prs⟩) hn)
  rw [e]
  exact sto6_no w sb s h hs a b wt pv prs hp hn

theorem stepS3_no {s : St} {a b : ByteArray} {wt : Int} {prs : List PP} (hs : Small s) (hn : lkI s.dir s.ls a b = none) : StepS s ⟨3, a, b, wt, prs⟩ := by
  intro w sb pv h hp
  have e : s.step ⟨3, a, b, wt, prs⟩ = ({ err := 5 }, s) := rmES_no (d := ⟨3, a, b, wt, prs⟩) hn
  rw [e]
  exact sto3_no w sb s h hs a b wt pv prs hp hn

theorem stepS4_no {s : St} {a b : ByteArray} {wt : Int} {prs : List PP} (hs : Small s) (hn : lkI s.dir s.ls a b = none) : StepS s ⟨4, a, b, wt, prs⟩ := by
  intro w sb pv h hp
  have e : s.step ⟨4, a, b, wt, prs⟩ = ({ err := 5 }, s) := updES_no (d := ⟨4, a, b, wt, prs⟩) hn
  rw [e]
  exact sto4_no w sb s h hs a b wt pv prs hp hn

theorem stepS2_no {s : St} {a b : ByteArray} {wt : Int} {prs : List PP} (hs : Small s) (hn : ptI s.ps a = none) : StepS s ⟨2, a, b, wt, prs⟩ := by
  intro w sb pv h hp
  have e : s.step ⟨2, a, b, wt, prs⟩ = ({ err := 2 }, s) := addES_no (d := ⟨2, a, b, wt, prs⟩) (.inl hn)
  rw [e]
  exact sto2_no w sb s h hs a b wt pv prs hp hn

theorem stepS2_nob {s : St} {a b : ByteArray} {wt : Int} {prs : List PP} {i : Nat} (hs : Small s) (hi : ptI s.ps a = some i) (hn : ptI s.ps b = none) : StepS s ⟨2, a, b, wt, prs⟩ := by
  intro w sb pv h hp
  have e : s.step ⟨2, a, b, wt, prs⟩ = ({ err := 2 }, s) := addES_no (d := ⟨2, a, b, wt, prs⟩) (.inr hn)
  rw [e]
  exact sto2_nob w sb s h hs a b wt pv prs hp i hi hn

theorem stepS0_new {s : St} {a b : ByteArray} {wt : Int} {prs : List PP} (hs : Small s) (HC : HashS s.hk) (hpl : prs.length ≤ 100000) (hn : ptI s.ps (hashM s.hk a) = none) : StepS s ⟨0, a, b, wt, prs⟩ := by
  intro w sb pv h hp
  have e : s.step ⟨0, a, b, wt, prs⟩ = ({}, { s with ps := s.ps ++ [⟨hashM s.hk a, a, wt, byK prs⟩] }) := addVS_no (d := ⟨0, a, b, wt, prs⟩) hn
  rw [e]
  exact sto0_new w sb s h hs HC a b wt pv prs hp hpl hn

theorem stepS7 {s : St} {a b : ByteArray} {wt : Int} {prs : List PP} (hs : Small s) : StepS s ⟨7, a, b, wt, prs⟩ := by
  intro w sb pv h hp
  exact sto7 w sb s h hs a b wt pv prs hp

/-- the empty graph's questions -/
def askDs (a b : ByteArray) : List DoIn := [⟨5, a, ⟨#[]⟩, 0, []⟩, ⟨1, b, ⟨#[]⟩, 0, []⟩, ⟨6, a, b, 0, []⟩, ⟨3, b, a, 0, []⟩, ⟨2, a, b, 0, []⟩, ⟨4, a, b, 0, []⟩]

/-- those of a graph with two vertices -/
def therDs (a b : ByteArray) : List DoIn := [⟨0, a, ⟨#[]⟩, 0, []⟩, ⟨0, b, ⟨#[]⟩, 0, []⟩, ⟨6, a, b, 0, []⟩, ⟨3, a, b, 0, []⟩, ⟨4, b, a, 0, []⟩, ⟨1, b, ⟨#[]⟩, 0, []⟩, ⟨2, a, b, 0, []⟩, ⟨2, b, a, 0, []⟩, ⟨7, ⟨#[]⟩, ⟨#[]⟩, 0, []⟩]

theorem small0 (dir pr : Bool) : Small ⟨dir, pr, 0, [], []⟩ := ⟨by simp, by simp, (fun p hp => by cases hp), (fun p hp => by cases hp)⟩
theorem small1 (dir pr : Bool) (a : ByteArray) : Small ⟨dir, pr, 0, [⟨a, a, 0, []⟩], []⟩ := ⟨by simp, by simp, (fun p hp => by simp at hp; subst hp; simp), (fun p hp => by cases hp)⟩
theorem small2 (dir pr : Bool) (a b : ByteArray) : Small ⟨dir, pr, 0, [⟨a, a, 0, []⟩, ⟨b, b, 0, []⟩], []⟩ := ⟨by simp, by simp, (fun p hp => by simp at hp; rcases hp with rfl | rfl <;> simp), (fun p hp => by cases hp)⟩

theorem ask_good (B : Nat) (eb : Nat → Addr) (dir pr : Bool) (a b : ByteArray) (hab : a ≠ b) : Good B eb ⟨dir, pr, 0, [], []⟩ (askDs a b) := by
  have hs := small0 dir pr
  have c : ∀ d : DoIn, d.op ≤ 7 → (d.op = 2 → d.a ≠ d.b) → StepC B eb ⟨dir, pr, 0, [], []⟩ d := fun d h1 h2 => any_stepC B eb _ d hs h1 fun o => ⟨.inl rfl, fun _ => h2 o⟩
  refine ⟨⟨c _ (by simp) (fun o => by simp at o), stepS5_no hs rfl⟩, ?_⟩
  show Good B eb ⟨dir, pr, 0, [], []⟩ _
  refine ⟨⟨c _ (by simp) (fun o => by simp at o), stepS1_no hs rfl⟩, ?_⟩
  show Good B eb ⟨dir, pr, 0, [], []⟩ _
  refine ⟨⟨c _ (by simp) (fun o => by simp at o), stepS6_no hs rfl⟩, ?_⟩
  show Good B eb ⟨dir, pr, 0, [], []⟩ _
  refine ⟨⟨c _ (by simp) (fun o => by simp at o), stepS3_no hs rfl⟩, ?_⟩
  show Good B eb ⟨dir, pr, 0, [], []⟩ _
  refine ⟨⟨c _ (by simp) (fun _ => hab), stepS2_no hs rfl⟩, ?_⟩
  show Good B eb ⟨dir, pr, 0, [], []⟩ _
  exact ⟨⟨c _ (by simp) (fun o => by simp at o), stepS4_no hs rfl⟩, trivial⟩

theorem ther_good (B : Nat) (eb : Nat → Addr) (dir pr : Bool) (a b : ByteArray) (hab : a ≠ b) : Good B eb ⟨dir, pr, 0, [], []⟩ (therDs a b) := by
  have hs0 := small0 dir pr
  have hs1 := small1 dir pr a
  have hs2 := small2 dir pr a b
  have hba : ¬ b = a := fun e => hab e.symm
  have c : ∀ (s : St) (d : DoIn), Small s → d.op ≤ 7 → d.op ≠ 2 → StepC B eb s d := fun s d hs h1 h2 => any_stepC B eb s d hs h1 fun o => absurd o h2
  have e1 : ((⟨dir, pr, 0, [], []⟩ : St).step ⟨0, a, ⟨#[]⟩, 0, []⟩).2 = ⟨dir, pr, 0, [⟨a, a, 0, []⟩], []⟩ := rfl
  have p1 : ptI [(⟨a, a, 0, []⟩ : SP)] b = none := by simp [ptI, hab]
  have p1a : ptI [(⟨a, a, 0, []⟩ : SP)] a = some 0 := by simp [ptI, List.findIdx?_cons]
  have p2 : ptI [(⟨a, a, 0, []⟩ : SP), ⟨b, b, 0, []⟩] b = some 1 := by simp [ptI, List.findIdx?_cons, hab]
  have e2 : ((⟨dir, pr, 0, [⟨a, a, 0, []⟩], []⟩ : St).step ⟨0, b, ⟨#[]⟩, 0, []⟩).2 = ⟨dir, pr, 0, [⟨a, a, 0, []⟩, ⟨b, b, 0, []⟩], []⟩ := congrArg Prod.snd (addVS_no (s := ⟨dir, pr, 0, [⟨a, a, 0, []⟩], []⟩) (d := ⟨0, b, ⟨#[]⟩, 0, []⟩) p1)
  have w2 : Wf ⟨dir, pr, 0, [⟨a, a, 0, []⟩, ⟨b, b, 0, []⟩], []⟩ := ⟨by simp [hab], List.Pairwise.nil, (fun l hl => by cases hl), fun l hl => by cases hl⟩
  have e3 : ((⟨dir, pr, 0, [⟨a, a, 0, []⟩, ⟨b, b, 0, []⟩], []⟩ : St).step ⟨1, b, ⟨#[]⟩, 0, []⟩).2 = ⟨dir, pr, 0, [⟨a, a, 0, []⟩], []⟩ := congrArg Prod.snd (rmVS_yes w2 (d := ⟨1, b, ⟨#[]⟩, 0, []⟩) p2 (fun l hl => by cases hl))
  have e4 : ∀ x y : ByteArray, (x = b ∨ y = b) → (StCalm (⟨dir, pr, 0, [⟨a, a, 0, []⟩], []⟩ : St) ⟨2, x, y, 0, []⟩ ∧ ((⟨dir, pr, 0, [⟨a, a, 0, []⟩], []⟩ : St).step ⟨2, x, y, 0, []⟩).2 = ⟨dir, pr, 0, [⟨a, a, 0, []⟩], []⟩) := by
    intro x y h
    have hx : ptI [(⟨a, a, 0, []⟩ : SP)] x = none ∨ ptI [(⟨a, a, 0, []⟩ : SP)] y = none := by
      rcases h with rfl | rfl
      · exact .inl p1
      · exact .inr p1
    refine ⟨?_, congrArg Prod.snd (addES_no (s := ⟨dir, pr, 0, [⟨a, a, 0, []⟩], []⟩) (d := ⟨2, x, y, 0, []⟩) hx)⟩
    unfold StCalm
    rw [pt_ptI, pt_ptI]
    rcases hx with q | q
    · exact .inl (by show (ptI [(⟨a, a, 0, []⟩ : SP)] x).bind _ = none; rw [q]; rfl)
    · exact .inr (.inl (by show (ptI [(⟨a, a, 0, []⟩ : SP)] y).bind _ = none; rw [q]; rfl))
  refine ⟨⟨c _ _ hs0 (by simp) (by simp), stepS0_new hs0 hashS0 (by simp) rfl⟩, ?_⟩
  rw [e1]
  refine ⟨⟨c _ _ hs1 (by simp) (by simp), stepS0_new hs1 hashS0 (by simp) p1⟩, ?_⟩
  rw [e2]
  refine ⟨⟨c _ _ hs2 (by simp) (by simp), stepS6_no hs2 rfl⟩, ?_⟩
  show Good B eb ⟨dir, pr, 0, [⟨a, a, 0, []⟩, ⟨b, b, 0, []⟩], []⟩ _
  refine ⟨⟨c _ _ hs2 (by simp) (by simp), stepS3_no hs2 rfl⟩, ?_⟩
  show Good B eb ⟨dir, pr, 0, [⟨a, a, 0, []⟩, ⟨b, b, 0, []⟩], []⟩ _
  refine ⟨⟨c _ _ hs2 (by simp) (by simp), stepS4_no hs2 rfl⟩, ?_⟩
  show Good B eb ⟨dir, pr, 0, [⟨a, a, 0, []⟩, ⟨b, b, 0, []⟩], []⟩ _
  refine ⟨⟨c _ _ hs2 (by simp) (by simp), stepS1_yes w2 hs2 p2 (fun l hl => by cases hl)⟩, ?_⟩
  rw [e3]
  refine ⟨⟨any_stepC B eb _ _ hs1 (by simp) fun _ => ⟨(e4 a b (.inr rfl)).1, fun _ => hab⟩, stepS2_nob hs1 p1a p1⟩, ?_⟩
  rw [(e4 a b (.inr rfl)).2]
  refine ⟨⟨any_stepC B eb _ _ hs1 (by simp) fun _ => ⟨(e4 b a (.inl rfl)).1, fun _ => hba⟩, stepS2_no hs1 p1⟩, ?_⟩
  rw [(e4 b a (.inl rfl)).2]
  exact ⟨⟨c _ _ hs1 (by simp) (by simp), stepS7 hs1⟩, trivial⟩
end Go.Proofs.YtbafaadmlpamiaaGreatDoor
