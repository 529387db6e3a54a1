/- E1: Cyc, Cyc2, Cyc3. -/
import Derived.Test.YtbafaadmlpamiaaGreatDoorA8
import Derived.Test.YtbafaadmlpamiaaGreatDoorTxt
import Derived.Test.YtbafaadmlpamiaaGreatDoorA7
import Derived.Test.YtbafaadmlpamiaaGreatDoorA5
namespace Go.Proofs.YtbafaadmlpamiaaGreatDoor
open Go Go.Hy Go.RowKit
open Classical
theorem Reach.head {ls : List SL} {l : SL} (hl : l ∈ ls) {s : ByteArray} (h : Reach ls l.b s) : Reach ls l.a s := by
 induction h with
 | refl => exact Reach.step Reach.refl hl rfl
 | step _ hm he ih => exact Reach.step ih hm he
structure CycI (ls : List SL) (src tgt : ByteArray) (V S : List ByteArray) : Prop where
 lead : ∀ x,x ∈ V ∨ x ∈ S → Reach ls x src
 no : tgt ∉ V
 cl : ∀ l ∈ ls,l.b ∈ V → l.a ∈ V ∨ l.a ∈ S
 has : src ∈ V ∨ src ∈ S
noncomputable def cycN (ls : List SL) (V S : List ByteArray) : Nat := S.length + (ls.filter fun l => decide (l.b ∉ V)).length
theorem CycI.start (ls : List SL) (src tgt : ByteArray) : CycI ls src tgt [] [src] where
 lead := fun x hx => by
   rcases hx with h|h
   · cases h
   · simp only [List.mem_singleton] at h
     rw [h]
     exact Reach.refl
 no := by simp
 cl := fun l _ h => by cases h
 has := .inr (by simp)
theorem CycI.seen {ls : List SL} {src tgt x : ByteArray} {V S : List ByteArray} (h : CycI ls src tgt V (S ++ [x])) (hx : x ∈ V) : CycI ls src tgt V S ∧ cycN ls V S + 1 = cycN ls V (S ++ [x]) where
 left :=
   { lead := fun y hy => h.lead y (by rcases hy with q|q;exact .inl q;exact .inr (List.mem_append_left _ q))
     no := h.no
     cl := fun l hl hb => by
       rcases h.cl l hl hb with q|q
       · exact .inl q
       · rcases List.mem_append.1 q with z|z
         · exact .inr z
         · simp only [List.mem_singleton] at z
           exact .inl (by rw [z];exact hx)
     has := by
       rcases h.has with q|q
       · exact .inl q
       · rcases List.mem_append.1 q with z|z
         · exact .inr z
         · simp only [List.mem_singleton] at z
           exact .inl (by rw [z];exact hx) }
 right := by unfold cycN;simp;omega
theorem filter_more (ls : List SL) (V : List ByteArray) (x : ByteArray) (hx : x ∉ V) : (ls.filter fun l => decide (l.b ∉ V ++ [x])).length + (ls.filter fun l => decide (l.b = x)).length = (ls.filter fun l => decide (l.b ∉ V)).length := by
 induction ls with
 | nil => rfl
 | cons l ls ih =>
   by_cases h1 : l.b = x
   · have h2 : l.b ∉ V := by rw [h1];exact hx
     have h3 : ¬ (l.b ∉ V ++ [x]) := by simp [h1]
     rw [List.filter_cons_of_neg (by simpa using h3),List.filter_cons_of_pos (by simpa using h1),List.filter_cons_of_pos (by simpa using h2),List.length_cons,List.length_cons]
     omega
   · by_cases h2 : l.b ∈ V
     · have h3 : ¬ (l.b ∉ V ++ [x]) := by simp [h2]
       rw [List.filter_cons_of_neg (by simpa using h3),List.filter_cons_of_neg (by simpa using h1),List.filter_cons_of_neg (by simpa using h2)]
       exact ih
     · have h3 : l.b ∉ V ++ [x] := by simp [h1,h2]
       rw [List.filter_cons_of_pos (by simpa using h3),List.filter_cons_of_neg (by simpa using h1),List.filter_cons_of_pos (by simpa using h2),List.length_cons,List.length_cons]
       omega
theorem CycI.visit {ls : List SL} {src tgt x : ByteArray} {V S ps : List ByteArray} (h : CycI ls src tgt V (S ++ [x])) (hx : x ∉ V) (ht : x ≠ tgt) (hp : ps.Perm ((ls.filter fun l => decide (l.b = x)).map (·.a))) :
   CycI ls src tgt (V ++ [x]) (S ++ ps) ∧ cycN ls (V ++ [x]) (S ++ ps) + 1 = cycN ls V (S ++ [x]) where
 left :=
   { lead := fun y hy => by
       rcases hy with q|q
       · rcases List.mem_append.1 q with z|z
         · exact h.lead y (.inl z)
         · simp only [List.mem_singleton] at z
           exact h.lead y (.inr (by rw [z];simp))
       · rcases List.mem_append.1 q with z|z
         · exact h.lead y (.inr (List.mem_append_left _ z))
         · obtain ⟨l,hl,rfl⟩ := List.mem_map.1 (hp.subset z)
           obtain ⟨hl,e⟩ := List.mem_filter.1 hl
           have e := of_decide_eq_true e
           exact Reach.head hl (by rw [e];exact h.lead x (.inr (by simp)))
     no := fun q => by
       rcases List.mem_append.1 q with z|z
       · exact h.no z
       · simp only [List.mem_singleton] at z
         exact ht z.symm
     cl := fun l hl hb => by
       rcases List.mem_append.1 hb with z|z
       · rcases h.cl l hl z with q|q
         · exact .inl (List.mem_append_left _ q)
         · rcases List.mem_append.1 q with r|r
           · exact .inr (List.mem_append_left _ r)
           · exact .inl (List.mem_append_right _ r)
       · simp only [List.mem_singleton] at z
         exact .inr (List.mem_append_right _ (hp.symm.subset (List.mem_map.2 ⟨l,List.mem_filter.2 ⟨hl,by simpa using z⟩,rfl⟩)))
     has := by
       rcases h.has with q|q
       · exact .inl (List.mem_append_left _ q)
       · rcases List.mem_append.1 q with r|r
         · exact .inr (List.mem_append_left _ r)
         · exact .inl (List.mem_append_right _ r) }
 right := by
   have h1 := filter_more ls V x hx
   have h2 := hp.length_eq
   rw [List.length_map] at h2
   unfold cycN
   rw [List.length_append,List.length_append,h2]
   simp only [List.length_singleton]
   omega
theorem CycI.found {ls : List SL} {src tgt : ByteArray} {V S : List ByteArray} (h : CycI ls src tgt V (S ++ [tgt])) : Reach ls tgt src := h.lead tgt (.inr (by simp))
theorem CycI.end_ {ls : List SL} {src tgt : ByteArray} {V : List ByteArray} (h : CycI ls src tgt V []) : ¬ Reach ls tgt src := by
 intro hr
 have key : ∀ y,Reach ls tgt y → y ∈ V → tgt ∈ V := by
   intro y hy
   induction hy with
   | refl => exact id
   | step _ hl he ih =>
     intro hv
     rcases h.cl _ hl hv with q|q
     · exact ih (by rw [← he];exact q)
     · cases q
 rcases h.has with q|q
 · exact h.no (key src hr q)
 · cases q
theorem cycN_start (ls : List SL) (src : ByteArray) : cycN ls [] [src] = 1 + ls.length := by
 unfold cycN
 have : (ls.filter fun l => decide (l.b ∉ ([] : List ByteArray))) = ls := List.filter_eq_self.2 fun l _ => by simp
 rw [this]
 simp
end Go.Proofs.YtbafaadmlpamiaaGreatDoor
namespace Go.Hy
open Go
section
variable {P : Program} {w : World} {ops : Array Oper} {rest : List Oper} {o : Oper} {a : Act} {Q : Exit → Act → World → Prop} {b : Nat} {es : Ents} {z : Value}
def ITq (w : World) (r : Nat) (mo : Option Nat) (rem : Ents) : Prop := (∃ b,mo = some b ∧ IT w r b rem) ∨ (mo = none ∧ rem = [] ∧ w.heap[r]? = some (.mapIter none 0 #[] 0))
def MQ (w : World) (mo : Option Nat) (es : Ents) : Prop := (∃ b,mo = some b ∧ SM w b es) ∨ (mo = none ∧ es = [])
theorem MQ.fr {w' : World} {S : Nat → Prop} {mo : Option Nat} (h : MQ w mo es) (f : Fr S w w') (h1 : ∀ b,mo = some b → ¬ S b) : MQ w' mo es := by
 rcases h with ⟨b,e,h⟩|h
 · exact .inl ⟨b,e,h.fr f (h1 b e)⟩
 · exact .inr h
theorem ITq.lt {r : Nat} {mo : Option Nat} {rem : Ents} (h : ITq w r mo rem) : r < w.heap.size := by
 rcases h with ⟨b,_,h⟩|⟨_,_,h⟩
 · exact h.lt.1
 · exact lt_of_some h
theorem ITq.fr {w' : World} {S : Nat → Prop} {r : Nat} {mo : Option Nat} {rem : Ents} (h : ITq w r mo rem) (f : Fr S w w') (h1 : ∀ b,mo = some b → ¬ S b) (h2 : ¬ S r) : ITq w' r mo rem := by
 have hl := h.lt
 rcases h with ⟨b,e,h⟩|⟨e,e2,h⟩
 · exact .inl ⟨b,e,h.fr f (h1 b e) h2⟩
 · exact .inr ⟨e,e2,(f.block r hl h2).trans h⟩
theorem ITq.ne_row {r base size n : Nat} {e : TypeId} {v : Value} {xs : List Value} {mo : Option Nat} {rem : Ents} (h : ITq w r mo rem) (ho : w.ownsRow base e size v n xs) : v.ownBlock ≠ some r := by
 rcases h with ⟨b,_,h⟩|⟨_,_,h⟩
 · exact ownsRow_ne_it ho h
 · intro q
   obtain ⟨_,h1|⟨g,cap,cur,h1,_,h2,_⟩⟩ := ho
   · rw [h1.1] at q;cases q
   · rw [h1] at q
     have e : g = r := Option.some.inj q
     rw [e,h] at h2
     cases h2
theorem wl_rangeQ (T K E : TypeId) (hT : P.underlying T = some (.map K E))
   (hg : o.guard = none) (m : Operand) (hop : o.op = Op.range T m) (mo : Option Nat) (h : MQ w mo es) (hm : a.eval m = .map mo)
   (hY : ∀ ob,ITq (w.alloc ob) w.heap.size mo es → wpList P ops Q rest (a.put o.dst (.pointer (some ⟨w.heap.size,0,none⟩))) (w.alloc ob)) :
   wpList P ops Q (o :: rest) a w := by
 rcases h with ⟨b,rfl,h⟩|⟨rfl,rfl⟩
 · exact wl_range T K E hT hg m hop h hm fun ob w' e _ h2 => by subst e;exact hY ob (.inl ⟨b,rfl,h2⟩)
 · refine wpList_plain hg fun K' hK' => ?_
   have hrun : (Instr.range T (.map none)).run P w = .ok (.pointer (some ⟨w.heap.size,0,none⟩)) (w.alloc (.mapIter none 0 #[] 0)) := by
     simp [Instr.range,run_underlying hT,Result.andThen]
   unfold Oper.wp
   simp [execOp,hop,hm,hrun,Result.andThen]
   exact hK' _ _ (hY _ (.inr ⟨rfl,rfl,heap_alloc_new w _⟩))
theorem wl_nextQ (hg : o.guard = none) (it : Operand) (hop : o.op = Op.next it false) (r : Nat) (mo : Option Nat) (rem : Ents) (h : ITq w r mo rem) (hit : a.eval it = .pointer (some ⟨r,0,none⟩))
   (hD : rem = [] → wpList P ops Q rest (a.put o.dst (.tuple #[.bool false])) w)
   (hM : ∀ k v l1 l2 w',rem = l1 ++ (k,v) :: l2 → ITq w' r mo (l1 ++ l2) → Upd r w w' →
     (Instr.entry (.pointer (some ⟨r,0,none⟩))).run P w' = .ok (.tuple #[.string k,v]) w' → wpList P ops Q rest (a.put o.dst (.tuple #[.bool true, .string k,v])) w') :
   wpList P ops Q (o :: rest) a w := by
 rcases h with ⟨b,rfl,h⟩|⟨rfl,rfl,h⟩
 · exact wl_next hg it hop r rem h hit hD fun k v l1 l2 w' e h1 h2 h3 => hM k v l1 l2 w' e (.inl ⟨b,rfl,h1⟩) h2 h3
 · refine wpList_plain hg fun K' hK' => ?_
   have hrun : (Instr.next (.pointer (some ⟨r,0,none⟩)) false o.type).run P w = .ok (.tuple #[.bool false]) w := by
     simp [Instr.next,getObj,Sem.run,h]
   unfold Oper.wp
   simp [execOp,hop,hit,hrun,Result.andThen]
   exact hK' _ _ (hD rfl)
theorem row_popQ {base : Nat} {e : TypeId} {ob : Option Addr} {n cap : Nat} {xs : List Value} {x : Value} (h : w.ownsRow base e 1 (.slice ob (n + 1) cap) (n + 1) (xs ++ [x])) : w.ownsRow base e 1 (.slice ob n cap) n xs ∧ n < cap := by
 obtain ⟨hl,h1|⟨g,cap',cur,h1,h2,h3,h4,h5,h6,h7⟩⟩ := h
 · exact absurd h1.2 (by omega)
 · cases h1
   have hx : xs.length = n := by simp at hl;omega
   refine ⟨⟨by omega, .inr ⟨g,cap,cur,rfl,h2,h3,by omega,h5,h6, ?_⟩⟩,by omega⟩
   have := congrArg (List.take n) h7
   rw [List.take_take,List.take_left' hx] at this
   simpa [Nat.min_eq_left] using this
end
end Go.Hy
namespace Go.Proofs.YtbafaadmlpamiaaGreatDoor
open Go Go.Hy Go.RowKit
theorem inns_of {w : World} {G : GS} (h : GRep w G) (hd : G.dir = true) (x : ByteArray) :
   ∃ es,MQ w (findK G.c.inns x) es ∧ (es.map (·.1)).Perm ((G.st.ls.filter fun l => decide (l.b = x)).map (·.a)) ∧ ∀ b,findK G.c.inns x = some b → b < w.heap.size := by
 have key : ∀ k,(∃ v,edgeAt G.c.inns G.c.inn x k = some v) ↔ ∃ l ∈ G.lks,l.a = k ∧ l.b = x := by
   intro k
   rw [h.inn]
   constructor
   · rintro ⟨v,hv⟩
     obtain ⟨l,hl,_⟩ := Option.map_eq_some_iff.1 hv
     obtain ⟨h1,h2⟩ := findL_mem hl
     rcases hit_cases h2 with ⟨e1,e2⟩|⟨e0,_⟩
     · exact ⟨l,h1,e1,e2⟩
     · rw [hd] at e0;cases e0
   · rintro ⟨l,hl,rfl,rfl⟩
     exact ⟨_,by rw [findL_of_mem h.lnd hl];rfl⟩
 have hmem : ∀ k,k ∈ ((G.st.ls.filter fun l => decide (l.b = x)).map (·.a)) ↔ ∃ l ∈ G.lks,l.a = k ∧ l.b = x := by
   intro k
   unfold GS.st
   simp only [List.mem_map,List.mem_filter,decide_eq_true_eq]
   constructor
   · rintro ⟨_,⟨⟨l,hl,rfl⟩,e⟩,rfl⟩
     exact ⟨l,hl,rfl,e⟩
   · rintro ⟨l,hl,rfl,rfl⟩
     exact ⟨_,⟨⟨l,hl,rfl⟩,rfl⟩,rfl⟩
 have hnd : ((G.st.ls.filter fun l => decide (l.b = x)).map (·.a)).Nodup := by
   have h1 : G.st.ls.Pairwise fun l m => ¬ (l.a = m.a ∧ l.b = m.b) := by
     unfold GS.st
     refine List.pairwise_map.2 (h.lnd.imp fun {l m} hh e => ?_)
     have h1 : l.a = m.a := e.1
     have h2 : l.b = m.b := e.2
     rw [h1,h2,hit_self] at hh
     cases hh
   rw [List.nodup_iff_pairwise_ne]
   refine List.pairwise_map.2 ((h1.filter _).imp_of_mem fun {l m} hl hm hh e => hh ⟨e, ?_⟩)
   have e1 := of_decide_eq_true (List.mem_filter.1 hl).2
   have e2 := of_decide_eq_true (List.mem_filter.1 hm).2
   exact e1.trans e2.symm
 cases hf : findK G.c.inns x with
 | none =>
   refine ⟨[], .inr ⟨rfl,rfl⟩,List.Perm.of_eq ?_,fun b hb => by cases hb⟩
   symm
   refine List.eq_nil_iff_forall_not_mem.2 fun k hk => ?_
   obtain ⟨v,hv⟩ := (key k).2 ((hmem k).1 hk)
   unfold edgeAt at hv
   rw [hf] at hv
   cases hv
 | some n =>
   have hs := h.s.i.e _ (findK_mem hf)
   refine ⟨G.c.inn n, .inl ⟨n,rfl,hs⟩,(List.perm_ext_iff_of_nodup hs.nodup hnd).2 fun k => ?_,fun b hb => by cases hb;exact hs.lt⟩
   rw [hmem, ← key]
   unfold edgeAt
   rw [hf]
   simp only [Option.bind_some]
   constructor
   · intro hk
     obtain ⟨⟨k',v⟩,hm,rfl⟩ := List.mem_map.1 hk
     exact ⟨v,lookS_of_mem hs.nodup hm⟩
   · rintro ⟨v,hv⟩
     exact List.mem_map.2 ⟨_,lookS_mem hv,rfl⟩
def visE (V : List ByteArray) : Ents := V.map fun x => (x, .agg #[])
theorem look_vis (V : List ByteArray) (x : ByteArray) : (x ∈ V → lookS (visE V) x = some (.agg #[])) ∧ (x ∉ V → lookS (visE V) x = none) := by
 constructor
 · intro h
   cases hl : lookS (visE V) x with
   | none => exact absurd rfl (lookS_none.1 hl _ (List.mem_map.2 ⟨x,h,rfl⟩))
   | some v =>
     obtain ⟨_,_,e⟩ := List.mem_map.1 (lookS_mem hl)
     rw [← (Prod.mk.inj e).2]
 · intro h
   refine lookS_none.2 fun p hp e => ?_
   obtain ⟨y,hy,rfl⟩ := List.mem_map.1 hp
   exact h (by rw [← e];exact hy)
theorem vis_put (V : List ByteArray) (x : ByteArray) (h : x ∉ V) : putS (visE V) x (.agg #[]) = visE (V ++ [x]) := by
 rw [put_new ((look_vis V x).2 h)]
 unfold visE
 simp
def CL (WB : World) (B mB : Nat) (ls : List SL) (a b : ByteArray) (k : Nat) (v : Value) (wr : World) : Prop :=
 ∃ V S,(k = cycN ls V S ∧ k ≤ 1 + ls.length) ∧ CycI ls a b V S ∧ SM wr mB (visE V) ∧ wr.ownsRow B 9 1 v S.length (strs S) ∧ Fr0 WB wr
def CI (WB : World) (B mB r : Nat) (mo : Option Nat) (V S : List ByteArray) (all : List ByteArray) (k : Nat) (v : Value) (wr : World) : Prop :=
 ∃ done rem,k = rem.length ∧ (done ++ rem.map (·.1)).Perm all ∧ ITq wr r mo rem ∧ SM wr mB (visE V) ∧ wr.ownsRow B 9 1 v (S ++ done).length (strs (S ++ done)) ∧ Fr0 WB wr
theorem CI.step {WB wr w3 w4 : World} {B mB r : Nat} {mo : Option Nat} {V S all done : List ByteArray} {rem l1 l2 : Ents} {k : Nat} {v v' u : Value} {key : ByteArray} (hk : k = rem.length) (hp : (done ++ rem.map (·.1)).Perm all) (hit0 : ITq wr r mo rem) (hv : SM wr mB (visE V))
   (ho : wr.ownsRow B 9 1 v (S ++ done).length (strs (S ++ done))) (f : Fr0 WB wr) (e : rem = l1 ++ (key,u) :: l2) (hit : ITq w3 r mo (l1 ++ l2)) (hu : Upd r wr w3) (ho' : w4.ownsRow B 9 1 v' ((S ++ done).length + 1) (strs (S ++ done) ++ [.string key]))
   (fg : Fr (fun j => v.ownBlock = some j) w3 w4) (hrB : WB.heap.size ≤ r) (hB : WB.heap.size ≤ B) (hmr : mB ≠ r) (hmo : ∀ b,mo = some b → b < WB.heap.size) : (l1 ++ l2).length < k ∧ CI WB B mB r mo V S all (l1 ++ l2).length v' w4 := by
 have o3 : w3.ownsRow B 9 1 v (S ++ done).length (strs (S ++ done)) := ownsRow_fr ho (Fr.of_upd hu) fun j hj q => hit0.ne_row ho (by rw [hj,q])
 have s3 : SM w3 mB (visE V) := hv.fr (Fr.of_upd hu) hmr
 refine ⟨by rw [hk,e];simp,done ++ [key],l1 ++ l2,rfl,perm_step hp e, ?_, ?_, ?_, ?_⟩
 · refine hit.fr fg (fun b hb q => ?_) (fun q => ?_)
   · have h1 := (o3.lt b q).1
     have h2 := hmo b hb
     omega
   · exact hit.ne_row o3 q
 · exact s3.fr fg fun q => ownsRow_ne_sm o3 s3 q
 · have e1 : strs (S ++ (done ++ [key])) = strs (S ++ done) ++ [.string key] := by simp [strs]
   rw [e1, ← List.append_assoc,List.length_append]
   exact ho'
 · exact (f.trans (Fr.of_upd hu) fun j hj => .inr (by rw [hj];exact hrB)).trans fg fun j hj => .inr (Nat.le_trans hB (o3.lt j hj).1)
theorem strs_snoc (S : List ByteArray) (x : ByteArray) : strs (S ++ [x]) = strs S ++ [.string x] := by simp [strs]
theorem zst (w : World) : (zeroValue 296).run Tryz.prog w = .ok (.agg #[]) w := by kernel_rfl
set_option maxRecDepth 100000 in
set_option maxHeartbeats 4000000 in
theorem scyc (w : World) (G : GS) (h : GRep w G) (hd : G.dir = true) (hbl : G.lks.length ≤ 400000) (a b : ByteArray) (ha : ∃ p,findP G.pts a = some p) (hb : ∃ q,findP G.pts b = some q) :
   Calls Tryz.prog 218 #[.pointer (some ⟨G.sB,0,none⟩), .string a, .string b] w fun e w' => ∃ r : Bool,e = .returned (.tuple #[.bool r, .nilIface]) ∧ (r = true ↔ Reach G.st.ls b a) ∧ Fr0 w w' := by
 obtain ⟨p,hp⟩ := ha
 obtain ⟨q,hq⟩ := hb
 have A0 := Lib.hid (show ∀ w',Fr0 w w' → GRep w' G from fun w' f => h.fr f (fun _ _ q => q) (fun q => q))
 have hmm := @run_makeMap Tryz.prog
 have HL := Lib.hid (show G.st.ls.length ≤ 400000 by unfold GS.st;simpa using hbl)
 have HD := Lib.hid hd
 have HO := Lib.hid h.lt
 clear h hbl hd
 go_enter Tryz.func218,Tryz.ntmps218
 go_wp2_with fail
 refine (svert_yes (A0.out _ (Fr.refl _ _)) hp).mono ?_
 rintro e w1 ⟨rfl,f1⟩
 go_wp2_with fail
 refine (svert_yes (A0.out _ (by ((repeat' with_reducible first|assumption|exact frR|apply frD|apply frN|apply frA|apply frM|apply frC);all_goals (simp;try omega)))) hq).mono ?_
 rintro e w2 ⟨rfl,h2⟩
 have F2 := Lib.hid (show Fr0 w w2 from Fr.trans0 (by ((repeat' with_reducible first|assumption|exact frR|apply frD|apply frN|apply frA|apply frM|apply frC);all_goals (simp;try omega))) h2)
 clear f1 h2
 by_cases hab : a = b
 · subst hab
   go_wp2_with fail
   go_ret2
   exact ⟨true,rfl,⟨fun _ => Reach.refl,fun _ => rfl⟩,by have f := F2.out;((repeat' with_reducible first|assumption|exact frR|apply frD|apply frN|apply frA|apply frM|apply frC);all_goals (simp;try omega))⟩
 have hab' := text_ne hab
 have HAB := Lib.hid hab
 clear hab
 go_wp2_with (first
   | (at_make;go_must (refine wl_make0 41 rfl _ _ rfl 9 _ 1 16 Tryz.underlying41 info9 (by decide) .i64 .i64 0 rfl rfl (by decide) ?_);intro w3 hown f3;rw [World.size_alloc] at hown;have HO3 := hid2 hown f3;clear hown f3)
   | (at_builtin;go_must (refine wl_app1 (w := w3.alloc (.map #[] 0)) 41 rfl (.tmp 47) (.tmp 49) rfl 9 _ 1 16 Tryz.underlying41 info9 rfl (by decide) (by decide) (w2.heap.size + 1) (.slice (some ⟨w2.heap.size + 1,0,none⟩) 0 0) 0 [] rfl (HO3.out.1.alloc _) #[.string a] (w3.heap.size + 1) rfl (by simp) rfl (by simp [Value.oneCell']) (by decide) (by have := HO3.out.2.size;simp at this ⊢;omega) ?_);intro v4 w4 ho4 f4 _;have H4 := hid2 ho4 f4;clear ho4 f4))
 try go_frame
 obtain ⟨B,hB⟩ : ∃ B,B = w2.heap.size + 1 := ⟨_,rfl⟩
 have F3 := Lib.hid (show Fr0 w w3 from Fr.trans0 (by have f := F2.out;((repeat' with_reducible first|assumption|exact frR|apply frD|apply frN|apply frA|apply frM|apply frC);all_goals (simp;try omega))) HO3.out.2)
 have S4 := Lib.hid (show SM w4 w3.heap.size (visE []) from (SM.fresh w3).fr H4.out.2 (fun q => by have h1 : w2.heap.size + 1 = w3.heap.size := Option.some.inj q;have h2 : w2.heap.size + 1 < w3.heap.size := (HO3.out.1.lt _ rfl).2;omega))
 have BB := Lib.hid (show w.heap.size ≤ B ∧ B ≤ w3.heap.size ∧ w.heap.size ≤ w3.heap.size from by have h1 := HO3.out.2.size;have h2 := F2.out.size;rw [World.size_alloc] at h1;omega)
 have F4 := Lib.hid (show Fr0 w w4 from Fr.trans (F3.out.alloc (.map #[] 0)) H4.out.2 (fun k hk => .inr (by have h1 : w2.heap.size + 1 = k := Option.some.inj hk;have := BB.out.1;omega)))
 rw [← hB] at H4
 go_loopg [14] (1 + G.st.ls.length) (fun k v wr => CL w B w3.heap.size G.st.ls a b k v wr)
 case atStart => exact ⟨[],[a],⟨(cycN_start _ _).symm,Nat.le_refl _⟩,CycI.start _ _ _,S4.out,H4.out.1,F4.out⟩
 case round =>
   obtain ⟨V,S,hk,hI,hV,hS,f⟩ := hrel
   have A := hid5 hk hI hV hS f
   clear hk hI hV hS f
   rcases List.eq_nil_or_concat S with rfl|⟨L,x,hc⟩
   · obtain ⟨a14,c14,rfl, -, -⟩ := own_slice A.out.2.2.2.1
     go_wp2_with fail
     go_ret2
     exact ⟨false,rfl,⟨(fun h => by cases h),fun h => absurd h A.out.2.1.end_⟩,A.out.2.2.2.2⟩
   · rw [List.concat_eq_append] at hc
     subst hc
     have hown : wr.ownsRow B 9 1 u14 (L.length + 1) (strs L ++ [.string x]) := by have := A.out.2.2.2.1;rwa [strs_snoc,List.length_append] at this
     obtain ⟨a14,c14,rfl, -,hv⟩ := own_slice hown
     obtain ⟨ob,rfl,hob,d0⟩ := hv L.length (.string x) (by simp [strs])
     have PO := Lib.hid (row_popQ hown)
     have hLs : L.length ≤ 400000 := by
       have h1 := A.out.1
       have h2 := HL.out
       unfold cycN at h1
       simp only [List.length_append,List.length_singleton] at h1
       omega
     have hLc : L.length < c14 := PO.out.2
     clear hown hv
     obtain ⟨wo,rfl⟩ : ∃ wo : World,wo = wr := ⟨_,rfl⟩
     obtain ⟨ko,rfl⟩ : ∃ ko : Nat,ko = gk := ⟨_,rfl⟩
     have F1 := Lib.hid (show Fr0 wo (wo.alloc (.cells #[] 296)) by ((repeat' with_reducible first|assumption|exact frR|apply frD|apply frN|apply frA|apply frM|apply frC);all_goals (simp;try omega)))
     by_cases hx : x ∈ V
     · have HXV := Lib.hid ((look_vis V x).1 hx)
       have HX := Lib.hid (A.out.2.1.seen hx)
       clear hx
       go_wp2_with (first
         | (at_lookup;go_must (refine wl_look2S 299 9 296 Tryz.underlying299 Tryz.underlying9 (.agg #[]) zst rfl (.tmp 66) (.tmp 67) rfl A.out.2.2.1 x _ HXV.out rfl rfl ?_)))
       have hm : ko - 1 < ko ∧ CL w B w3.heap.size G.st.ls a b (ko - 1) (.slice (some ⟨ob,0,none⟩) L.length c14) (wo.alloc (.cells #[] 296)) := by
         have h1 := A.out.1
         have h2 := HX.out.2
         exact ⟨by omega,V,L,⟨by omega,by omega⟩,HX.out.1,A.out.2.2.1.alloc _,ownsRow_fr PO.out.1 F1.out (fun _ _ q => q),A.out.2.2.2.2.alloc _⟩
       go_roundg (ko - 1)
       case measure => exact hm.1
       case rel => exact hm.2
     · have HXV := Lib.hid ((look_vis V x).2 hx)
       have HXP := Lib.hid (fun (u : Value) => vis_put V x hx)
       by_cases hxb : x = b
       · subst hxb
         clear hx
         go_wp2_with (first
           | (at_lookup;go_must (refine wl_look2N 299 9 296 Tryz.underlying299 Tryz.underlying9 (.agg #[]) zst rfl (.tmp 66) (.tmp 67) rfl A.out.2.2.1 x HXV.out rfl rfl ?_)))
         go_ret2
         exact ⟨true,rfl,⟨fun _ => A.out.2.1.found,fun _ => rfl⟩,A.out.2.2.2.2.alloc _⟩
       · have hxb' := text_ne hxb
         obtain ⟨es,hmq,hpm,hbl⟩ := inns_of (A0.out w (Fr.refl _ _)) HD.out x
         have MM := hid3 hmq hpm hbl
         have HLK := Lib.hid (show (lookS (mp G.c.inns) x).getD (.map none) = .map (findK G.c.inns x) by rw [look_mp];cases findK G.c.inns x <;> rfl)
         have HV := Lib.hid (fun ps hp => A.out.2.1.visit (ps := ps) hx hxb hp)
         have hr := (A0.out wo A.out.2.2.2.2).s
         have c3 := hr.facts.1.2.2.2
         have l3 := hr.facts.2.1
         have SI := Lib.hid hr.i.m
         have LO := Lib.hid (show G.sB < w.heap.size ∧ G.c.iB < w.heap.size from ⟨HO.out _ (by simp [GS.own]),HO.out _ (by simp [GS.own,St1.own])⟩)
         have hne : ¬ G.sB = w3.heap.size := fun q => by have := LO.out.1;have := BB.out;omega
         have hne2 : ¬ G.c.iB = w3.heap.size := fun q => by have := LO.out.2;have := BB.out;omega
         have hne3 : ¬ wo.heap.size = w3.heap.size := fun q => by have := A.out.2.2.1.lt;omega
         clear hx hxb hmq hpm hbl hr
         generalize findK G.c.inns x = mo at *
         go_wp2_with (first
           | (at_lookup;refine wl_look2N 299 9 296 Tryz.underlying299 Tryz.underlying9 (.agg #[]) zst rfl (.tmp 66) (.tmp 67) rfl A.out.2.2.1 x HXV.out rfl rfl ?_)
           | (at_mapUpdate;go_must (refine wl_put 299 9 296 Tryz.underlying299 Tryz.underlying9 rfl (.tmp 76) (.tmp 77) (.tmp 78) rfl (A.out.2.2.1.alloc _) x (.agg #[]) rfl rfl rfl ?_);intro arr1 k1 hm1;rw [HXP.out .nilFunc] at hm1;have HM1 := Lib.hid hm1;clear hm1)
           | (at_lookup;go_must (refine wl_look1 152 9 154 Tryz.underlying152 Tryz.underlying9 (.map none) zM rfl (.tmp 82) (.tmp 83) rfl ((SI.out.alloc _).setM hne2 _ _) x rfl rfl ?_);rw [HLK.out])
           | (at_range;go_must (refine wl_rangeQ 154 9 144 Tryz.underlying154 rfl (.tmp 84) rfl mo (MQ.fr (w' := setM (wo.alloc (.cells #[] 296)) w3.heap.size arr1 k1) (S := fun k => k = w3.heap.size) MM.out.1 (Fr.setM (S := fun k => k = w3.heap.size) (b := w3.heap.size) ((A.out.2.2.2.2.trans0 F1.out).mono fun _ q => q.elim) (.inl rfl) _ _) (fun b hb q => by have h1 := MM.out.2.2 b hb;have h2 := BB.out;omega)) rfl ?_);intro ob6 it6))
         have ZI := Lib.hid (show (setM (wo.alloc (.cells #[] 296)) w3.heap.size arr1 k1).heap.size = wo.heap.size + 1 by simp)
         have FI := Lib.hid (show Fr (· = w3.heap.size) wo ((setM (wo.alloc (.cells #[] 296)) w3.heap.size arr1 k1).alloc ob6) from (((Fr.refl (· = w3.heap.size) wo).alloc _).setM (.inl rfl) _ _).alloc _)
         have SV := Lib.hid (HM1.out.alloc ob6)
         have IT6 := Lib.hid it6
         have NB := Lib.hid (show ob ≠ w3.heap.size from fun q => ownsRow_ne_sm PO.out.1 A.out.2.2.1 (by rw [← q];rfl))
         clear it6 c3 l3 hne hne2 hne3
         try simp only [setM_size,World.size_alloc]
         try go_frame
         generalize (setM (wo.alloc (.cells #[] 296)) w3.heap.size arr1 k1).alloc ob6 = wi at *
         rw [ZI.out] at IT6
         have OW := Lib.hid (show wi.ownsRow B 9 1 (.slice (some ⟨ob,0,none⟩) L.length c14) L.length (strs L) from ownsRow_fr PO.out.1 FI.out fun q hq e => by cases hq;exact NB.out e)
         have FF := Lib.hid (show Fr0 w wi from A.out.2.2.2.2.trans FI.out fun q hq => .inr (by rw [hq];have := BB.out;omega))
         have HE := Lib.hid (show es.length ≤ 400000 from by
           have h1 := MM.out.2.1.length_eq
           rw [List.length_map,List.length_map] at h1
           have h2 := List.length_filter_le (fun l : SL => decide (l.b = x)) G.st.ls
           have := HL.out
           omega)
         go_loopg [14] es.length (fun k v wx => CI w B w3.heap.size (wo.heap.size + 1) mo (V ++ [x]) L (es.map (·.1)) k v wx)
         case atStart => exact ⟨[],es,rfl,List.Perm.refl _,IT6.out,SV.out,by rw [List.append_nil];exact OW.out,FF.out⟩
         case round =>
           obtain ⟨done,rem,hk2,hp2,hit2,hv2,ho2,f2⟩ := hrel
           obtain ⟨n14,hn⟩ : ∃ n,(L ++ done).length = n := ⟨_,rfl⟩
           rw [hn] at ho2
           have HN := Lib.hid hn
           clear hn
           obtain ⟨a14,c15,rfl, -, -⟩ := own_slice ho2
           have AI := hid6 hk2 hp2 hit2 hv2 ho2 f2
           clear hk2 hp2 hit2 hv2 ho2 f2
           go_wp2_with (first
             | (at_next;go_must (refine wl_nextQ rfl (.tmp 85) rfl (wo.heap.size + 1) mo rem AI.out.2.2.1 rfl ?_ ?_)))
           · intro hrem
             have e0 := Lib.hid hrem
             clear hrem
             go_wp2_with fail
             have hp3 : done.Perm ((G.st.ls.filter fun l => decide (l.b = x)).map (·.a)) := by
               have h1 := AI.out.2.1
               rw [e0.out] at h1
               simp only [List.map_nil,List.append_nil] at h1
               exact h1.trans MM.out.2.1
             obtain ⟨hv1,hv2⟩ := HV.out done hp3
             have hm : ko - 1 < ko ∧ CL w B w3.heap.size G.st.ls a b (ko - 1) (.slice a14 n14 c15) wr := by
               have h1 := A.out.1
               exact ⟨by omega,V ++ [x],L ++ done,⟨by omega,by omega⟩,hv1,AI.out.2.2.2.1,by rw [HN.out];exact AI.out.2.2.2.2.1,AI.out.2.2.2.2.2⟩
             go_roundg (ko - 1)
             case measure => exact hm.1
             case rel => exact hm.2
           · intro key v0 l1 l2 w5 hrem hit3 hu3 hen
             have BI := hid3 hrem hit3 hu3
             have O5 := Lib.hid (show w5.ownsRow B 9 1 (.slice a14 n14 c15) n14 (strs (L ++ done)) from ownsRow_fr AI.out.2.2.2.2.1 (Fr.of_upd hu3) fun j hj q => AI.out.2.2.1.ne_row AI.out.2.2.2.2.1 (by rw [hj,q]))
             have LD := Lib.hid (show n14 ≤ 1000000 from by
               have h0 := HN.out
               have h1 := AI.out.2.1.length_eq
               simp only [List.length_append,List.length_map] at h0 h1
               have := HE.out
               omega)
             have B5 := Lib.hid (show B ≤ w5.heap.size from by have h1 := hu3.size;have h2 := (AI.out.2.2.1).lt;have h3 := BB.out;have h4 := A.out.2.2.1.lt;omega)
             clear hrem hit3 hu3
             go_wp2_with (first
               | (at_builtin;go_must (refine wl_app1 (w := w5) 41 rfl (.tmp 90) (.tmp 92) rfl 9 _ 1 16 Tryz.underlying41 info9 rfl (by decide) (by decide) B (.slice a14 n14 c15) n14 (strs (L ++ done)) rfl O5.out #[.string key] w5.heap.size rfl rfl rfl (by simp [Value.oneCell']) LD.out B5.out ?_);intro v' w6 ho fg _))
             have R := CI.step AI.out.1 AI.out.2.1 AI.out.2.2.1 AI.out.2.2.2.1 (by rw [HN.out];exact AI.out.2.2.2.2.1) AI.out.2.2.2.2.2 BI.out.1 BI.out.2.1 BI.out.2.2 (by rw [HN.out];exact ho) fg (by have := A.out.2.2.2.2.size;omega) BB.out.1 (fun q => by have := A.out.2.2.1.lt;omega) (fun b hb => MM.out.2.2 b hb)
             go_roundg (l1 ++ l2).length
             case measure => exact R.1
             case rel => exact R.2
theorem hasCC (v : Value) (xT : TypeId) (w : World) : (Instr.typeAssert (.iface 178 v) xT 287 true).run Tryz.prog w = .ok (.tuple #[.iface 178 v, .bool true]) w := run_typeAssert_hasB Tryz.underlying287 (by kernel_rfl) v xT w
theorem mCreates (v : Value) (w : World) : (Go.method 419 178 v "CreatesCycle").run Tryz.prog w = .ok (218, v) w := by kernel_rfl
set_option maxRecDepth 100000 in
set_option maxHeartbeats 2000000 in
theorem dcyc (w : World) (G : GS) (h : GRep w G) (hd : G.dir = true) (hbl : G.lks.length ≤ 400000) (a b : ByteArray) (ha : ∃ p,findP G.pts a = some p) (hb : ∃ q,findP G.pts b = some q) :
   Calls Tryz.prog 191 #[.pointer (some ⟨G.gB,0,none⟩), .string a, .string b] w fun e w' => ∃ r : Bool,e = .returned (.tuple #[.bool r, .nilIface]) ∧ (r = true ↔ Reach G.st.ls b a) ∧ Fr0 w w' := by
 obtain ⟨⟨g0,g1,g2⟩,_,l0,l1,l2⟩ := h.facts
 have mC := mCreates
 have mT := hasCC
 have HS := Lib.hid (scyc w G h hd hbl a b ha hb)
 clear h ha hb hbl hd
 go_enter Tryz.func191,Tryz.ntmps191
 go_wp2_with fail
 refine HS.out.mono ?_
 rintro e w2 ⟨r,rfl,hr,f⟩
 go_wp2_with fail
 go_ret2
 exact ⟨r,rfl,hr,f⟩
end Go.Proofs.YtbafaadmlpamiaaGreatDoor
namespace Go.Proofs.YtbafaadmlpamiaaGreatDoor
open Go Go.Hy Go.RowKit
set_option maxRecDepth 100000 in
set_option maxHeartbeats 1000000 in
theorem dadd_pre (w : World) (G : GS) (h : GRep w G) (hd : G.dir = true) (B : Nat) (eb : Nat → Addr) (E : ErrsOk w B eb) (a b : ByteArray) (ov : Value) (os : List Opt) (ho : Opts w ov os Opt.eV) (p q : Pt) (hp : findP G.pts a = some p) (hq : findP G.pts b = some q) (hl : findL G.dir G.lks a b = none) (hpr : G.pr = true) (hbl : G.lks.length ≤ 400000) :
   Calls Tryz.prog 173 #[.pointer (some ⟨G.gB,0,none⟩), .string a, .string b,ov] w fun e w' => (e = .returned (er (eb 5)) ∧ Reach G.st.ls b a ∧ Fr0 w w') ∨ (e = .returned .nilIface ∧ ¬ Reach G.st.ls b a ∧ ∃ c' mb,GStep w G w' { G with c := c',lks := G.lks ++ [⟨a,b,(apps os).1,mb,(apps os).2⟩] }) := by
 have A0 := Lib.hid (show ∀ w',Fr0 w w' → AW w G w' from fun w' f => AW.mk' h f)
 have E0 := Lib.hid (show ∀ w',Fr0 w w' → ErrsOk w' B eb from fun w' f => E.fr f (fun _ q => q.elim))
 obtain ⟨-,s0,s1,s2,s3,s4⟩ := A0.out w (Fr.refl _ _)
 have mV := mVertex
 have hmm := @run_makeMap Tryz.prog
 obtain ⟨ob,cap,rfl,hcap,hcell,hok,hlen⟩ := ho
 have O := hid4 hcell hok hcap hlen
 have HG := Lib.hid h
 clear h E hcell hok hcap hlen
 rw [hpr] at s4
 have HPR := Lib.hid hpr
 clear hpr
 go_enter Tryz.func173,Tryz.ntmps173
 go_wp2_with fail
 refine (svert_yes (A0.out _ (Fr.refl _ _)).rep hp).mono ?_
 rintro e w1 ⟨rfl,f1⟩
 clear s0 s1 s2 s3 s4
 obtain ⟨-,s0,s1,s2,s3,s4⟩ := A0.out _ f1
 rw [HPR.out] at s4
 go_wp2_with fail
 refine (svert_yes (A0.out _ (by ((repeat' with_reducible first|assumption|exact frR|apply frD|apply frN|apply frA|apply frM|apply frC);all_goals (simp;try omega)))).rep hq).mono ?_
 rintro e w2 ⟨rfl,h2⟩
 have f2 : Fr0 w w2 := Fr.trans0 (by ((repeat' with_reducible first|assumption|exact frR|apply frD|apply frN|apply frA|apply frM|apply frC);all_goals (simp;try omega))) h2
 clear s0 s1 s2 s3 s4
 obtain ⟨-,s0,s1,s2,s3,s4⟩ := A0.out _ f2
 rw [HPR.out] at s4
 go_wp2_with fail
 refine (dedge_no _ G (A0.out _ (by ((repeat' with_reducible first|assumption|exact frR|apply frD|apply frN|apply frA|apply frM|apply frC);all_goals (simp;try omega)))).rep B eb (E0.out _ (by ((repeat' with_reducible first|assumption|exact frR|apply frD|apply frN|apply frA|apply frM|apply frC);all_goals (simp;try omega)))) a b hl).mono ?_
 rintro e w3 ⟨rfl,h3⟩
 have f3 : Fr0 w w3 := Fr.trans0 (by ((repeat' with_reducible first|assumption|exact frR|apply frD|apply frN|apply frA|apply frM|apply frC);all_goals (simp;try omega))) h3
 have e4 := (E0.out _ f3).cell 4 (by decide)
 have e6 : 4 < w3.heap.size := by
   have h1 := (E0.out _ f3).six
   have h2 := (E0.out _ f3).size
   omega
 go_wp2_with fail
 have hI := is_ev (e := .e 4) (E0.out (w3.alloc zBox) (by ((repeat' with_reducible first|assumption|exact frR|apply frD|apply frN|apply frA|apply frM|apply frC);all_goals (simp;try omega)))) (by simp [EV.ok]) 4 (by decide)
 have hh : (EV.e 4).has 4 = true := rfl
 rw [hh] at hI
 refine hI.mono ?_
 clear hI hh
 rintro e wD ⟨rfl,h4⟩
 have f4 : Fr0 w wD := Fr.trans0 (by ((repeat' with_reducible first|assumption|exact frR|apply frD|apply frN|apply frA|apply frM|apply frC);all_goals (simp;try omega))) h4
 clear s0 s1 s2 s3 s4 e4 e6
 obtain ⟨-,s0,s1,s2,s3,s4⟩ := A0.out _ f4
 rw [HPR.out] at s4
 have FD := Lib.hid f4
 clear f1 f2 f3 h2 h3 h4 f4
 go_wp2_with fail
 refine (dcyc _ G (A0.out _ FD.out).rep hd hbl a b ⟨p,hp⟩ ⟨q,hq⟩).mono ?_
 rintro e wE ⟨r,rfl,hr,h5⟩
 have f4 : Fr0 w wE := FD.out.trans0 h5
 clear s0 s1 s2 s3 s4
 cases hrr : r with
 | true =>
   have hre := Lib.hid (hr.1 hrr)
   have e5 := (E0.out _ f4).cell 5 (by decide)
   have e6 : 5 < wE.heap.size := by
     have h1 := (E0.out _ f4).six
     have h2 := (E0.out _ f4).size
     omega
   have F4 := Lib.hid f4
   clear hr h5 f4
   subst hrr
   go_wp2_with fail
   go_ret
   exact .inl ⟨rfl,hre.out,F4.out⟩
 | false =>
 have HRE := Lib.hid (show ¬ Reach G.st.ls b a from fun z => by rw [hr.2 z] at hrr;cases hrr)
 subst hrr
 obtain ⟨-,s0,s1,s2,s3,s4⟩ := A0.out _ f4
 rw [HPR.out] at s4
 have F4 := Lib.hid f4
 clear hr h5 f4
 go_wp2_with fail
 try go_frame
 have LT := Lib.hid (show ob < w.heap.size ∨ os = [] from by
   cases os with
   | nil => exact .inr rfl
   | cons o os => exact .inl (World.block_lt_of_cell? w _ (O.out.1 0 o rfl)))
 go_loopg [86] os.length (fun k c wr => EL ((wE.alloc (Obj.map #[] 0)).alloc (eBox a b wE.heap.size 0)) (wE.heap.size + 1) wE.heap.size a b (0,[]) os k c wr)
 case atStart =>
   refine ⟨0,rfl,rfl, ?_, ?_,Fr.refl _ _⟩
   · have := Cells.new (wE.alloc (Obj.map #[] 0)) #[.string a, .string b, .map (some wE.heap.size), .int .i64 0, .nilIface] 144
     simpa using this
   · exact (SM.fresh wE).alloc _
 case round =>
   obtain ⟨i,hk,rfl,hc,hm,f⟩ := hrel
   have A := hid4 hk hc hm f
   clear hk hc hm f
   by_cases hi : i < os.length
   · have hsm : os.length ≤ 1000000 := O.out.2.2.2
     have F2 := Lib.hid (show Fr (fun k => k = wE.heap.size + 1 ∨ k = wE.heap.size) w wr from (((F4.out.alloc _).alloc _).mono (fun k q => q.elim)).trans A.out.2.2.2 fun k q => .inl q)
     have hcell := (F2.out.cell (p := ⟨ob,i,none⟩) (by simp only;rcases LT.out with q|q;exact q;rw [q] at hi;simp at hi) (by simp only;have := F4.out.size;rcases LT.out with q|q;omega;rw [q] at hi;simp at hi)).trans (O.out.1 i os[i] (List.getElem?_eq_getElem hi))
     have hok := Opt.ok_fr (O.out.2.1 os[i] (List.getElem_mem hi)) F2.out (fun k hk q => by have := F4.out.size;omega)
     have hg := List.getElem?_eq_getElem hi
     generalize os[i] = o at hcell hok hg
     cases o with
     | wt n kb =>
       have HS := Lib.hid hg
       change wr.cell? ⟨ob,i,none⟩ = some (.func (Fn.func 85) #[] #[.pointer (some ⟨kb,0,none⟩)]) at hcell
       have hok' := Lib.hid (show wr.cell? ⟨kb,0,none⟩ = some (.int .i64 n) from hok)
       clear hok hg
       go_wp2_with (first
         | (go_at_call 85;refine (ew1 wr _ _ _ _ _ n kb A.out.2.1 hok'.out).mono ?_;rintro e w3 ⟨rfl,hc',f'⟩;have D := hid2 hc' f';clear hc' f'))
       have R := EL.wt A.out.1 hi HS.out (by omega) A.out.2.2.1 A.out.2.2.2 D.out.1 D.out.2
       go_roundg (gk - 1)
       case measure => exact R.1
       case rel => exact R.2
     | at_ k v bv bk =>
       have HS := Lib.hid hg
       change wr.cell? ⟨ob,i,none⟩ = some (.func (Fn.func 87) #[] #[.pointer (some ⟨bv,0,none⟩), .pointer (some ⟨bk,0,none⟩)]) at hcell
       have hok' := Lib.hid (show wr.cell? ⟨bv,0,none⟩ = some (.string v) ∧ wr.cell? ⟨bk,0,none⟩ = some (.string k) from hok)
       clear hok hg
       go_wp2_with (first
         | (go_at_call 87;refine (ea1 wr _ _ _ _ _ _ k v bv bk A.out.2.1 A.out.2.2.1 hok'.out.1 hok'.out.2).mono ?_;rintro e w3 ⟨rfl,hm',f'⟩;have D := hid2 hm' f';clear hm' f'))
       have R := EL.at_ A.out.1 hi HS.out (by omega) A.out.2.1 A.out.2.2.2 D.out.1 D.out.2
       go_roundg (gk - 1)
       case measure => exact R.1
       case rel => exact R.2
   · have hi' : i = os.length := by have := A.out.1;omega
     subst hi'
     have F2 := Lib.hid (show Fr (fun k => k = wE.heap.size + 1 ∨ k = wE.heap.size) w wr from (((F4.out.alloc _).alloc _).mono (fun k q => q.elim)).trans A.out.2.2.2 fun k q => .inl q)
     have F3 := Lib.hid (show Fr0 w wr from F2.out.shrink fun k q => .inr (by have := F4.out.size;omega))
     have HW := (A0.out _ F3.out).rep
     have hb0 := A.out.2.1.cell 0 _ rfl
     have hb1 := A.out.2.1.cell 1 _ rfl
     have hb2 := A.out.2.1.cell 2 _ rfl
     have hb3 := A.out.2.1.cell 3 _ rfl
     have hb4 := A.out.2.1.cell 4 _ rfl
     have hbl := A.out.2.1.lt
     rw [take_all] at hb3
     have HM := A.out.2.2.1
     rw [take_all] at HM
     have hfr : wE.heap.size ∉ G.own := fun q => by have h1 := HG.out.lt _ q;have h2 := F4.out.size;omega
     have hkb : wE.heap.size ≠ G.kB := by
       obtain ⟨cs,q,_⟩ := HG.out.k
       have h1 := q.lt
       have h2 := F4.out.size
       omega
     have HA := Lib.hid (dadde wr G HW hd a b wE.heap.size (apps os).1 (apps os).2 HM hfr hkb hl ⟨p,findP_mem hp⟩ ⟨q,findP_mem hq⟩)
     have N := hid2 hfr hkb
     clear HW HM hfr hkb
     go_wp2_with fail
     refine HA.out.mono ?_
     rintro e w9 ⟨rfl,h9⟩
     have H9 := Lib.hid h9
     clear h9
     go_wp2_with fail
     go_ret
     obtain ⟨r1,c',r2,r3⟩ := H9.out
     have s1 := F3.out.size
     have s2 := F4.out.size
     refine .inr ⟨rfl,HRE.out,c',wE.heap.size,r2,(F3.out.mono fun _ q => q.elim).trans r1 fun _ q => .inl q,fun x hx => ?_,G.same_refl⟩
     simp only [GS.own,List.mem_cons,List.mem_append,List.map_append,List.map_cons,List.map_nil,List.not_mem_nil,or_false] at hx ⊢
     rcases hx with q|q|q|q|q|q|q
     · exact .inl (.inl q)
     · exact .inl (.inr (.inl q))
     · exact .inl (.inr (.inr (.inl q)))
     · rcases r3 x q with t|t
       · exact .inl (.inr (.inr (.inr (.inl t))))
       · exact .inr (by omega)
     · exact .inl (.inr (.inr (.inr (.inr (.inl q)))))
     · exact .inl (.inr (.inr (.inr (.inr (.inr q)))))
     · exact .inr (by omega)
end Go.Proofs.YtbafaadmlpamiaaGreatDoor
