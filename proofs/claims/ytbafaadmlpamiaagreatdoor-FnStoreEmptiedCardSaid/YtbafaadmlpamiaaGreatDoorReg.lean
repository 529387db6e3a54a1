/- Regions that draw their order and whose last operation writes a cell that they read: a condition on the world that has to hold only as long as that operation is still to come. Of no program. -/
import Derived.Test.YtbafaadmlpamiaaGreatDoorA1
import Derived.Deep.RegionHeld3
namespace Go.Hy
open Go Go.RowKit
section
variable {P : Program} {ops : Array Oper} {Q : Exit → Act → World → Prop} {md : Region.Mode} {S : World → Prop} {m : Nat}
def OrdS (P : Program) (md : Region.Mode) (ops : Array Oper) (Q : Exit → Act → World → Prop) (S : World → Prop) (m : Nat) : Nat → Array Bool → Act → World → Prop
 | 0,l,a,w => Region.ready md ops l = [] ∧ Q .normal a w
 | n + 1,l,a,w => (Region.ready md ops l = [] → Q .normal a w) ∧
   ∀ i ∈ Region.ready md ops l,wpOp P ops Q i (fun a' w' => ((l.setIfInBounds i true).getD m true = false → S w') ∧ OrdS P md ops Q S m n (l.setIfInBounds i true) a' w') a w
theorem OrdS.any : ∀ (n : Nat) (l : Array Bool) (a : Act) (w : World),OrdS P md ops Q S m n l a w → wpAny P md ops Q n l a w
 | 0,_,_,_,h => h
 | n + 1,l,_,_,h => ⟨h.1,fun i hi => wpOp_mono (fun a' w' z => OrdS.any n (l.setIfInBounds i true) a' w' z.2) (h.2 i hi)⟩
def waits (md : Region.Mode) (ops : Array Oper) (m i : Nat) : Bool := ((ops[m]?).map fun o => o.after.toList.any fun e => Region.binds md e && e.on == i).getD false
theorem OrdS.first {i : Nat} {o : Oper} {v : Value} (ho : ops[i]? = some o) (hsel : Region.noSelect ops = true) (hQ : ∀ c a w,Q (.panic c) (a.put o.dst v) w → Q (.panic c) a w) (him : i ≠ m) (hw : waits md ops m i = true) :
   ∀ (n : Nat) (l : Array Bool),(∀ j oj,ops[j]? = some oj → j ≠ i → l.getD j true = false → (∀ e ∈ oj.after,Region.binds md e = true → e.on ≠ i) → o.apart ops oj = true) → i ∈ Region.ready md ops l → l.getD m true = false →
     ∀ (a : Act) (w : World),YieldsIf P ops S o v a → S w → OrdS P md ops Q S m n (l.setIfInBounds i true) (a.put o.dst v) w → OrdS P md ops Q S m (n + 1) l a w
 | n,l,hap,hr,hlm,a,w,hy,hS,H => by
   refine ⟨fun e => absurd (e ▸ hr) (by simp),fun j hj => ?_⟩
   by_cases hji : j = i
   · subst hji
     exact hy.wpOp ho hS ⟨fun _ => hS,H⟩
   have hstay : j ∈ Region.ready md ops (l.setIfInBounds i true) := ready_mono hj hji
   have hwait : i ∈ Region.ready md ops (l.setIfInBounds j true) := ready_mono hr (fun e => hji e.symm)
   match n,H with
   | 0,H => exact absurd (H.1 ▸ hstay) (by simp)
   | n + 1,H =>
     obtain ⟨hun,oj,hoj,hall⟩ := mem_ready.1 hj
     have hno : ∀ e ∈ oj.after,Region.binds md e = true → e.on ≠ i := fun e he hb q => by
       have h1 := hall e he hb
       have h0 := (mem_ready.1 hr).1
       rw [q] at h1
       by_cases hs : i < l.size
       · rw [Array.getD,dif_pos hs] at h0 h1
         rw [h0] at h1
         cases h1
       · rw [Array.getD,dif_neg hs] at h1
         cases h1
     have hjm : j ≠ m := fun q => by
       subst q
       unfold waits at hw
       rw [hoj] at hw
       simp only [Option.map_some,Option.getD_some,List.any_eq_true,Bool.and_eq_true,beq_iff_eq] at hw
       obtain ⟨e,he,h1,h2⟩ := hw
       exact hno e (by simpa using he) h1 h2
     have hlm' : (l.setIfInBounds j true).getD m true = false := by rw [getD_set_ne true hjm];exact hlm
     have hp := wpOp_putIf hoj (hap j oj hoj hji hun hno) (fun cs b => Region.noSelect_spec hsel i o cs b ho) (fun cs b => Region.noSelect_spec hsel j oj cs b hoj) hQ hy (H.2 j hstay)
     refine wpOp_mono (fun a' w' z => ?_) hp
     obtain ⟨hy',hS',H'⟩ := z
     have sw : S w' := hS' (by rw [getD_set_ne true hjm,getD_set_ne true him];exact hlm)
     rw [Array.setIfInBounds_comm _ _ (fun e => hji e.symm)] at H'
     refine ⟨fun _ => sw,OrdS.first ho hsel hQ him hw n _ (fun k ok hk hki hkn hkb => ?_) hwait hlm' a' w' hy' sw H'⟩
     refine hap k ok hk hki ?_ hkb
     by_cases hjk : j = k
     · subst hjk
       exact hun
     · rwa [getD_set_ne true hjk] at hkn
theorem OrdS.take {i : Nat} {o : Oper} {v : Value} {n : Nat} {l : Array Bool} {a : Act} {w : World} (ho : ops[i]? = some o) (hsel : Region.noSelect ops = true) (hf : Region.free md ops l i = true) (hr : (Region.ready md ops l).contains i = true) (hc : ((i != m) && waits md ops m i && !(l.getD m true)) = true)
   (hQ : ∀ c a w,Q (.panic c) (a.put o.dst v) w → Q (.panic c) a w) (hy : YieldsIf P ops S o v a) (hS : S w) (h : OrdS P md ops Q S m n (l.setIfInBounds i true) (a.put o.dst v) w) : OrdS P md ops Q S m (n + 1) l a w := by
 simp only [Bool.and_eq_true,bne_iff_ne,Bool.not_eq_true'] at hc
 exact OrdS.first ho hsel hQ hc.1.1 hc.1.2 n l (Region.free_spec ho hf) (by simpa using hr) hc.2 a w hy hS h
theorem OrdS.tq {i : Nat} {o : Oper} {v : Value} {n : Nat} {l : Array Bool} {a : Act} {w : World} (ho : ops[i]? = some o) (hc : (Region.noSelect ops && Region.free md ops l i && (Region.ready md ops l).contains i && ((i != m) && waits md ops m i && !(l.getD m true))) = true)
   (hQ : ∀ c a w,Q (.panic c) (a.put o.dst v) w → Q (.panic c) a w) (hg : Region.wanted o (yielded ops a.tmps) = true) (hS : S w) (hy : ∀ w,S w → (execOp a.eval o).run P w = .ok (.value v) w) (h : OrdS P md ops Q S m n (l.setIfInBounds i true) (a.put o.dst v) w) : OrdS P md ops Q S m (n + 1) l a w := by
 simp only [Bool.and_eq_true] at hc
 exact OrdS.take ho hc.1.1.1 hc.1.1.2 hc.1.2 (by simp only [Bool.and_eq_true];exact hc.2) hQ (.inl ⟨hg,hy⟩) hS h
theorem lA {α : Type} (l : List α) (i : Nat) (x : α) : l.toArray.setIfInBounds i x = (l.set i x).toArray := List.setIfInBounds_toArray ..
theorem lZ {α : Type} (a x : α) (l : List α) : (a :: l).set 0 x = x :: l := rfl
theorem lS {α : Type} (a x : α) (l : List α) (n : Nat) : (a :: l).set (n + 1) x = a :: l.set n x := rfl
theorem OrdS.one {i : Nat} {o : Oper} {n : Nat} {l : Array Bool} {a : Act} {w : World} (ho : ops[i]? = some o) (hr : Region.ready md ops l = [i])
   (h : ∀ K : Act → World → Prop,Shut (∀ a w,((l.setIfInBounds i true).getD m true = false → S w) → OrdS P md ops Q S m n (l.setIfInBounds i true) a w → K a w) → if Region.wanted o (yielded ops a.tmps) = true then Oper.wp P o a w K Q else K (a.put o.dst undef) w) : OrdS P md ops Q S m (n + 1) l a w := by
 refine ⟨(fun e => by rw [hr] at e;cases e),fun j hj => ?_⟩
 rw [hr,List.mem_singleton] at hj
 subst hj
 exact wpOp_step ho fun K hK => h K fun a w hS hO => hK a w ⟨hS,hO⟩
theorem OrdS.done {n : Nat} {l : Array Bool} {a : Act} {w : World} (hr : Region.ready md ops l = []) (h : Q .normal a w) : OrdS P md ops Q S m n l a w := by
 cases n with
 | zero => exact ⟨hr,h⟩
 | succ n => exact ⟨fun _ => h,fun i hi => by rw [hr] at hi;cases hi⟩
theorem OrdS.start {id : Nat} {a : Act} {w : World} (hm : P.follows .mixedOrders = true) (h : OrdS P .any ops Q S m ops.size (Array.replicate ops.size false) a w.drew) : (Code.region id ops true).wp P Q a w :=
 wp_region_any hm (OrdS.any _ _ _ _ h)
end
end Go.Hy
