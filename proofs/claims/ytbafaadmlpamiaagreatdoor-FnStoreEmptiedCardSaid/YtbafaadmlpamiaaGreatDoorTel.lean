/- What doStep gathers of a map of maps: keys and edges, in memory. -/
import Derived.Test.YtbafaadmlpamiaaGreatDoorBoth
namespace Go.Proofs.YtbafaadmlpamiaaGreatDoor
open Go Go.Hy Go.RowKit
abbrev tKL (v8 v9 : Value) : Array Value := #[.int .u8 0, .string ⟨#[]⟩, .string ⟨#[]⟩, .string ⟨#[]⟩, .int .i64 0, .int .i64 0, .int .i64 0, .slice none 0 0,v8,v9]
structure Lst (wa : World) (lo tb r : Nat) (wr : World) (ks : List ByteArray) (D : List LnkV) (v8 v9 : Value) : Prop where
 t : Cells wr tb (tKL v8 v9) 44
 k : wr.ownsRow lo 9 1 v8 ks.length (ks.map .string)
 l : wr.ownsRow lo 65 4 v9 D.length (encL encLnk D)
 p : ∀ d ∈ D,PairsIn wr (fun q => lo ≤ q ∧ v8.ownBlock ≠ some q ∧ v9.ownBlock ≠ some q ∧ q ≠ r) d.val d.1.es
 f : Fr (· = tb) wa wr
 lt : tb < wa.heap.size
 le : wa.heap.size ≤ lo
section
variable {wa wr w2 w3 w4 : World} {lo tb r : Nat} {ks : List ByteArray} {D : List LnkV} {v8 v9 : Value}
theorem Lst.n8 (h : Lst wa lo tb r wr ks D v8 v9) : v8.ownBlock ≠ some tb := fun q => by have := (h.k.lt _ q).1;have := h.lt;have := h.le;omega
theorem Lst.n9 (h : Lst wa lo tb r wr ks D v8 v9) : v9.ownBlock ≠ some tb := fun q => by have := (h.l.lt _ q).1;have := h.lt;have := h.le;omega
theorem Lst.n89 (h : Lst wa lo tb r wr ks D v8 v9) : ∀ q,v8.ownBlock = some q → v9.ownBlock ≠ some q := own_type h.k h.l (by decide)
theorem Lst.fr {S : Nat → Prop} (h : Lst wa lo tb r wr ks D v8 v9) (f : Fr S wr w2) (h1 : ¬ S tb) (h8 : ∀ q,v8.ownBlock = some q → ¬ S q) (h9 : ∀ q,v9.ownBlock = some q → ¬ S q) (hp : ∀ q,lo ≤ q → v8.ownBlock ≠ some q → v9.ownBlock ≠ some q → q ≠ r → ¬ S q) (hS : ∀ q,S q → wa.heap.size ≤ q) : Lst wa lo tb r w2 ks D v8 v9 where
 t := h.t.fr f h1
 k := ownsRow_fr h.k f h8
 l := ownsRow_fr h.l f h9
 p := fun d hd => (h.p d hd).fr f fun q hq _ => hp q hq.1 hq.2.1 hq.2.2.1 hq.2.2.2
 f := h.f.trans f fun q hq => .inr (hS q hq)
 lt := h.lt
 le := h.le
theorem Lst.fr0 (h : Lst wa lo tb r wr ks D v8 v9) (f : Fr0 wr w2) : Lst wa lo tb r w2 ks D v8 v9 :=
 h.fr f (fun q => q) (fun _ _ q => q) (fun _ _ q => q) (fun _ _ _ _ _ q => q) (fun _ q => q.elim)
theorem Lst.upd {b : Nat} {rem : Ents} (h : Lst wa lo tb r wr ks D v8 v9) (hi : IT wr r b rem) (u : Upd r wr w2) (hr : wa.heap.size ≤ r) : Lst wa lo tb r w2 ks D v8 v9 :=
 h.fr (Fr.of_upd u) (fun q => by have := h.lt;omega) (fun q hq e => ownsRow_ne_it h.k hi (by rw [hq,e])) (fun q hq e => ownsRow_ne_it h.l hi (by rw [hq,e])) (fun q _ _ _ hq e => hq e) (fun q e => by rw [e];exact hr)
theorem Lst.to {r' : Nat} (h : Lst wa lo tb r wr ks D v8 v9) (hr : ∀ q,lo ≤ q → q < wr.heap.size → q ≠ r') : Lst wa lo tb r' wr ks D v8 v9 :=
 { h with p := fun d hd => (h.p d hd).imp fun q hq hl => ⟨hq.1,hq.2.1,hq.2.2.1,hr q hq.1 hl⟩ }
theorem Lst.key {key : ByteArray} {v8' : Value} {n : Nat} (h : Lst wa lo tb r w3 ks D v8 v9) (ho : w4.ownsRow lo 9 1 v8' (ks.length + 1) (ks.map .string ++ [.string key])) (fg : Fr (fun k => v8.ownBlock = some k) w3 w4) (hat : v8'.ownBlock = v8.ownBlock ∨ v8'.ownBlock = some n) (hn : w3.heap.size ≤ n) :
   Lst wa lo tb r (w4.setCell ⟨tb,8,none⟩ v8') (ks ++ [key]) D v8' v9 := by
 have hsc : Fr (· = tb) w4 (w4.setCell ⟨tb,8,none⟩ v8') := (Fr.refl (· = tb) w4).setCell (.inl rfl) _
 have htb := h.lt
 have hle := h.le
 have h9 : ∀ q,v9.ownBlock = some q → ¬ v8.ownBlock = some q := fun q h1 h2 => h.n89 q h2 h1
 have ne : ∀ q,lo ≤ q → ¬ q = tb := fun q h1 h2 => by omega
 refine ⟨?_, ?_, ?_,fun d hd => ?_, ?_,h.lt,h.le⟩
 · have := cells_set (h.t.fr fg (fun q => h.n8 q)) 8 v8'
   simpa using this
 · have e : (ks ++ [key]).map Value.string = ks.map .string ++ [.string key] := by simp
   rw [e,List.length_append]
   exact ownsRow_fr ho hsc fun q hq => ne q (ho.lt q hq).1
 · exact ownsRow_fr (ownsRow_fr h.l fg h9) hsc fun q hq => ne q (h.l.lt q hq).1
 · have h1 := ((h.p d hd).imp (p' := fun q => (lo ≤ q ∧ v8.ownBlock ≠ some q ∧ v9.ownBlock ≠ some q ∧ q ≠ r) ∧ q < w3.heap.size) fun q hq hl => ⟨hq,hl⟩).fr fg fun q hq _ => hq.1.2.1
   refine (h1.fr hsc fun q hq _ => ne q hq.1.1).imp fun q hq _ => ⟨hq.1.1, ?_,hq.1.2.2⟩
   rcases hat with e|e
   · rw [e];exact hq.1.2.1
   · rw [e];intro z;cases z;have := hq.2;omega
 · refine (h.f.trans fg fun k hk => .inr ?_).trans hsc fun k hk => .inl hk
   have := (h.k.lt k hk).1
   omega
theorem Lst.link {d : LnkV} {v9' : Value} {n lo2 : Nat} (h : Lst wa lo tb r w3 ks D v8 v9) (ho : w4.ownsRow lo 65 4 v9' (D.length + 1) (encL encLnk D ++ encLnk d)) (f2 : Fr0 w3 w2) (hd2 : PairsAt w2 lo2 d.val d.1.es) (hlo : w3.heap.size ≤ lo2) (hlr : r < lo2) (hl3 : lo ≤ lo2) (fg : Fr (fun k => v9.ownBlock = some k) w2 w4)
   (hat : v9'.ownBlock = v9.ownBlock ∨ v9'.ownBlock = some n) (hn : w2.heap.size ≤ n) :
   Lst wa lo tb r (w4.setCell ⟨tb,9,none⟩ v9') ks (D ++ [d]) v8 v9' := by
 have o8 : ∀ q,v8.ownBlock = some q → q < lo2 := fun q e => by have := (h.k.lt q e).2;omega
 have o9 : ∀ q,v9.ownBlock = some q → q < lo2 := fun q e => by have := (h.l.lt q e).2;omega
 have h := h.fr0 f2
 have hsc : Fr (· = tb) w4 (w4.setCell ⟨tb,9,none⟩ v9') := (Fr.refl (· = tb) w4).setCell (.inl rfl) _
 have htb := h.lt
 have hle := h.le
 have ne : ∀ q,lo ≤ q → ¬ q = tb := fun q h1 h2 => by omega
 have hD : ∀ c,(c ∈ D ++ [d]) → PairsIn w2 (fun q => (lo ≤ q ∧ v8.ownBlock ≠ some q ∧ v9.ownBlock ≠ some q ∧ q ≠ r) ∧ q < w2.heap.size) c.val c.1.es := by
   intro c hc
   rcases List.mem_append.1 hc with hc|hc
   · exact (h.p c hc).imp fun q hq hl => ⟨hq,hl⟩
   · simp only [List.mem_singleton] at hc
     subst hc
     refine PairsIn.imp hd2 fun q hq hl => ⟨⟨by omega,fun e => by have := o8 q e;omega,fun e => by have := o9 q e;omega,by omega⟩,hl⟩
 refine ⟨?_, ?_, ?_,fun c hc => ?_, ?_,h.lt,h.le⟩
 · have := cells_set (h.t.fr fg (fun q => h.n9 q)) 9 v9'
   simpa using this
 · exact ownsRow_fr (ownsRow_fr h.k fg h.n89) hsc fun q hq => ne q (h.k.lt q hq).1
 · have e : encL encLnk (D ++ [d]) = encL encLnk D ++ encLnk d := by simp [encL]
   rw [e,List.length_append]
   exact ownsRow_fr ho hsc fun q hq => ne q (ho.lt q hq).1
 · refine (((hD c hc).fr fg fun q hq _ => hq.1.2.2.1).fr hsc fun q hq _ => ne q hq.1.1).imp fun q hq _ => ⟨hq.1.1,hq.1.2.1, ?_,hq.1.2.2.2⟩
   rcases hat with e|e
   · rw [e];exact hq.1.2.2.1
   · rw [e];intro z;cases z;have := hq.2;omega
 · refine (h.f.trans fg fun k hk => .inr ?_).trans hsc fun k hk => .inl hk
   have := (h.l.lt k hk).1
   omega
end
end Go.Proofs.YtbafaadmlpamiaaGreatDoor
