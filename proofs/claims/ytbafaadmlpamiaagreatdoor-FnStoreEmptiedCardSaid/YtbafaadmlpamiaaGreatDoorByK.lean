/- ByKeys: attributes by their keys. -/
import Derived.Test.YtbafaadmlpamiaaGreatDoorP1
import Derived.Test.YtbafaadmlpamiaaGreatDoorApp
import Derived.Laws.OwnMore
namespace Go.Proofs.YtbafaadmlpamiaaGreatDoor
open Go Go.Hy Go.RowKit
theorem insK_at : ∀ (L : List PP) (p : PP) (k : Nat),(∀ q ∈ L.take k,ltB q.1 p.1 = true) → (∀ q,L[k]? = some q → ltB q.1 p.1 = false ∧ q.1 ≠ p.1) → insK L p = L.take k ++ p :: L.drop k
 | [],p,k,_,_ => by simp [insK]
 | q :: l,p,0,_,h => by
   obtain ⟨h1,h2⟩ := h q rfl
   simp [insK,h1,h2]
 | q :: l,p,k + 1,h,g => by
   have h1 := h q (by simp)
   have := insK_at l p k (fun x hx => h x (by simp [hx])) (fun x hx => g x (by simpa using hx))
   simp [insK,h1,this]
theorem insK_set : ∀ (L : List PP) (p q : PP) (k : Nat),(∀ q ∈ L.take k,ltB q.1 p.1 = true) → L[k]? = some q → q.1 = p.1 → insK L p = L.set k p
 | [],p,q,k,_,h,_ => by simp at h
 | x :: l,p,q,0,_,h,e => by
   simp at h
   subst h
   rw [insK,e,ltB_irrefl]
   simp
 | x :: l,p,q,k + 1,h,g,e => by
   have h1 := h x (by simp)
   have := insK_set l p q k (fun x hx => h x (by simp [hx])) (by simpa using g) e
   simp [insK,h1,this]
theorem encP_cons (q : PP) (l : List PP) : encL encP (q :: l) = .string q.1 :: .string q.2 :: encL encP l := rfl
theorem encP_app (l m : List PP) : encL encP (l ++ m) = encL encP l ++ encL encP m := by simp [encL]
theorem encP_take : ∀ (l : List PP) (k : Nat),encL encP (l.take k) = (encL encP l).take (k * 2)
 | [],k => by simp [encL]
 | q :: l,0 => by simp [encL]
 | q :: l,k + 1 => by
   rw [List.take_succ_cons,encP_cons,encP_cons,encP_take l k,show (k + 1) * 2 = k * 2 + 1 + 1 by omega,List.take_succ_cons,List.take_succ_cons]
theorem encP_set (p : PP) : ∀ (l : List PP) (k : Nat),encL encP (l.set k p) = ((encL encP l).set (k * 2) (.string p.1)).set (k * 2 + 1) (.string p.2)
 | [],k => by simp [encL]
 | q :: l,0 => by simp [encP_cons]
 | q :: l,k + 1 => by
   rw [List.set_cons_succ,encP_cons,encP_cons,encP_set p l k,show (k + 1) * 2 = k * 2 + 1 + 1 by omega,List.set_cons_succ,List.set_cons_succ,List.set_cons_succ,List.set_cons_succ]
theorem encP_len (l : List PP) : (encL encP l).length = l.length * 2 := encL_len encP 2 (fun _ => rfl) l
theorem own_take {w : World} {base : Nat} {e : TypeId} {size : Nat} {ao : Option Addr} {n cap k : Nat} {xs : List Value} (h : w.ownsRow base e size (.slice ao n cap) n xs) (hk : k ≤ n) : w.ownsRow base e size (.slice ao k cap) k (xs.take (k * size)) := by
 refine ⟨?_, ?_⟩
 · rw [List.length_take,h.1]
   exact Nat.min_eq_left (Nat.mul_le_mul_right _ hk)
 · rcases h.2 with ⟨hv,h0⟩|⟨g,cap',cur,hv,hb,hg,hle,hm,hsz,htk⟩
   · cases hv
     exact .inl ⟨by rw [show k = 0 by omega],by omega⟩
   · cases hv
     refine .inr ⟨g,cap,cur,rfl,hb,hg,by omega,hm,hsz, ?_⟩
     rw [← htk,List.take_take,Nat.min_eq_left (Nat.mul_le_mul_right _ hk)]
theorem own_pair {w : World} {base : Nat} {v : Value} {L : List PP} (h : w.ownsRow base 30 2 v L.length (encL encP L)) (hn : 0 < L.length) :
   ∃ g cap,v = .slice (some ⟨g,0,none⟩) L.length cap ∧ L.length ≤ cap ∧ base ≤ g ∧ g < w.heap.size ∧ ∀ (j : Nat) (q : PP),L[j]? = some q → w.cell? ⟨g,j * 2,none⟩ = some (.string q.1) ∧ w.cell? ⟨g,j * 2 + 1,none⟩ = some (.string q.2) := by
 obtain ⟨g,cap,rfl,hb,hl⟩ := h.form hn
 refine ⟨g,cap,rfl, ?_,hb,hl,fun j q hj => ?_⟩
 · obtain ⟨ao,cap',e,hc,_⟩ := own_slice h
   cases e
   exact hc
 · obtain ⟨ao,cap',e,hc,hr⟩ := own_slice h
   cases e
   have e := List.getElem?_eq_some_iff.1 hj
   have x0 := encL_at encP 2 (fun _ => rfl) L j 0 e.1 (by decide)
   have x1 := encL_at encP 2 (fun _ => rfl) L j 1 e.1 (by decide)
   have ei : L[j]! = q := by rw [getElem!_pos L j e.1];exact e.2
   rw [ei] at x0 x1
   obtain ⟨ob,e0,h1,h2⟩ := hr (j * 2 + 0) _ x0
   obtain ⟨ob',e',_,h3⟩ := hr (j * 2 + 1) _ x1
   cases e0
   cases e'
   exact ⟨h2,h3⟩
structure BK (w : World) (prs : List PP) (i : Nat) (v : Value) (L : List PP) (wr : World) : Prop where
 is : L = (prs.take i).foldl insK []
 row : wr.ownsRow w.heap.size 30 2 v L.length (encL encP L)
 nil : L = [] → v = .slice none 0 0
 fr : Fr0 w wr
theorem insK_len2 (L : List PP) (p : PP) : (insK L p).length ≤ L.length + 1 := by
 induction L with
 | nil => simp [insK]
 | cons q l ih =>
   unfold insK
   split
   · simp;exact ih
   · split <;> simp
theorem foldK_len2 : ∀ (prs L : List PP),(prs.foldl insK L).length ≤ L.length + prs.length
 | [],L => by simp
 | p :: prs,L => by
   have := foldK_len2 prs (insK L p)
   have := insK_len2 L p
   simp only [List.foldl_cons,List.length_cons]
   omega
theorem BK.small {w : World} {prs : List PP} {i : Nat} {v : Value} {L : List PP} {wr : World} (h : BK w prs i v L wr) (hs : prs.length ≤ 100000) : L.length ≤ 100000 := by
 have h1 := foldK_len2 (prs.take i) []
 rw [← h.is] at h1
 simp only [List.length_nil,List.length_take] at h1
 omega
end Go.Proofs.YtbafaadmlpamiaaGreatDoor
