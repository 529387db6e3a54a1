/- Sorting by exchanging neighbours: where it stands. Plain. -/
import Derived.Test.YtbafaadmlpamiaaGreatDoorTel2
namespace Go.Proofs.YtbafaadmlpamiaaGreatDoor
open Go Go.Hy Go.RowKit
section
variable {α : Type} {lt : α → α → Bool}
structure InsO (lt : α → α → Bool) (l : List α) (i : Nat) (S : List α) : Prop where
 perm : S.Perm (l.take i)
 ord : S.Pairwise fun a b => lt b a = false
structure InsI (lt : α → α → Bool) (l : List α) (i : Nat) (x : α) (A B : List α) : Prop where
 perm : (A ++ B).Perm (l.take i)
 ord : (A ++ B).Pairwise fun a b => lt b a = false
 less : ∀ b ∈ B,lt x b = true
theorem InsO.zero (l : List α) : InsO lt l 0 [] := ⟨List.Perm.refl _,List.Pairwise.nil⟩
theorem InsO.start {l : List α} {i : Nat} {S : List α} (h : InsO lt l i S) (x : α) : InsI lt l i x S [] := ⟨by rw [List.append_nil];exact h.perm,by rw [List.append_nil];exact h.ord,fun _ h => by cases h⟩
theorem InsI.down {l : List α} {i : Nat} {x a : α} {A B : List α} (h : InsI lt l i x (A ++ [a]) B) (ha : lt x a = true) : InsI lt l i x A (a :: B) := by
 have e : A ++ [a] ++ B = A ++ (a :: B) := by simp
 refine ⟨by rw [← e];exact h.perm,by rw [← e];exact h.ord,fun b hb => ?_⟩
 rcases List.mem_cons.1 hb with rfl|hb
 · exact ha
 · exact h.less b hb
theorem InsI.stop {l : List α} {i : Nat} {x : α} {A B : List α} (asym : ∀ a b,lt a b = true → lt b a = false) (ntr : ∀ a b c,lt b a = false → lt c b = false → lt c a = false) (h : InsI lt l i x A B) (hx : l[i]? = some x) (hl : ∀ a,A.getLast? = some a → lt x a = false) :
   InsO lt l (i + 1) (A ++ x :: B) := by
 have hi := (List.getElem?_eq_some_iff.1 hx).1
 have htk : l.take (i + 1) = l.take i ++ [x] := by rw [List.take_succ_eq_append_getElem hi,(List.getElem?_eq_some_iff.1 hx).2]
 have h1 := List.pairwise_append.1 h.ord
 refine ⟨?_, ?_⟩
 · rw [htk]
   refine (List.perm_middle).trans ?_
   exact ((h.perm.cons x).trans (List.perm_append_singleton x _).symm)
 · refine List.pairwise_append.2 ⟨h1.1,List.pairwise_cons.2 ⟨fun b hb => asym _ _ (h.less b hb),h1.2.1⟩,fun a ha b hb => ?_⟩
   rcases List.mem_cons.1 hb with rfl|hb
   · obtain ⟨A',a',rfl⟩ : ∃ A' a',A = A' ++ [a'] := by
       rcases List.eq_nil_or_concat A with e|⟨A',a',e⟩
       · rw [e] at ha;cases ha
       · exact ⟨A',a',by rw [e,List.concat_eq_append]⟩
     have hla := hl a' (by simp)
     rcases List.mem_append.1 ha with q|q
     · exact ntr a a' b ((List.pairwise_append.1 h1.1).2.2 a q a' (by simp)) hla
     · simp only [List.mem_singleton] at q
       rw [q]
       exact hla
   · exact h1.2.2 a ha b hb
end
theorem ltL_asym (a b : SL) (h : ltL a b = true) : ltL b a = false := by
 cases g : ltL b a with
 | false => rfl
 | true =>
   have := lt2_sto.trans _ _ _ h g
   rw [lt2_sto.irrefl] at this
   cases this
theorem ltL_ntr (a b c : SL) (h : ltL b a = false) (g : ltL c b = false) : ltL c a = false := (lt2_sto.swo id).ntrans _ _ _ g h
theorem ltB_ntr (a b c : ByteArray) (h : ltB b a = false) (g : ltB c b = false) : ltB c a = false := by
 have := ltB_le_trans a b c (by rw [h];rfl) (by rw [g];rfl)
 simpa using this
end Go.Proofs.YtbafaadmlpamiaaGreatDoor
