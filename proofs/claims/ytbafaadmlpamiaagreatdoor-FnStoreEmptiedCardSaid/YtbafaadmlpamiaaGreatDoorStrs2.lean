/- sort.Strings of a row of texts, in plain words. -/
import Derived.Test.YtbafaadmlpamiaaGreatDoorStrs
import Derived.Test.YtbafaadmlpamiaaGreatDoorA8
import Derived.Shelf.Slices.In.SortNone2
namespace Go.Proofs.YtbafaadmlpamiaaGreatDoor
open Go Go.Hy Go.Proofs Go.Shelf Go.RowKit Go.Sort
theorem enc_text (k : ByteArray) : encStr k.data.toList = .string k := by
 unfold encStr
 simp
theorem le_text (a b : ByteArray) : (!ltB b a) = decide (a.data.toList ≤ b.data.toList) := by
 have e : ltB b a = decide (b.data.toList < a.data.toList) := by
   unfold ltB
   rw [bl_eq,ByteArray.toList_eq,ByteArray.toList_eq]
 rw [e]
 by_cases h : b.data.toList < a.data.toList
 · rw [decide_eq_true h,decide_eq_false (fun q => q h)];rfl
 · rw [decide_eq_false h,decide_eq_true (show a.data.toList ≤ b.data.toList from h)];rfl
theorem sort_texts (ks : List ByteArray) : (ks.map fun k => k.data.toList).mergeSort (fun x y => decide (x ≤ y)) = (sortK ks).map fun k => k.data.toList := by
 unfold sortK
 exact (List.map_mergeSort fun a _ b _ => le_text a b).symm
theorem fr_put (w : World) (m blk : Nat) (d : Array (List UInt8)) (os : Array Obj) : Fr (· = blk) w (Sort.grow (putRow encStr (Sort.ahead w m) blk 0 d) os) := by
 have hs : (putRow encStr (Sort.ahead w m) blk 0 d).heap.size = w.heap.size := by
   unfold putRow mapBlock
   simp
 refine ⟨rfl,rfl,rfl,by rw [size_grow,hs];omega,fun i hi hn => ?_⟩
 have h1 : (Sort.grow (putRow encStr (Sort.ahead w m) blk 0 d) os).heap[i]? = (putRow encStr (Sort.ahead w m) blk 0 d).heap[i]? := by
   unfold Sort.grow
   exact Array.getElem?_append_left (by rw [hs];exact hi)
 rw [h1]
 unfold putRow mapBlock
 simp [Array.getElem?_modify,Ne.symm hn]
theorem sortstrs (w : World) (v : Value) (ks : List ByteArray) (base : Nat) (ho : w.ownsRow base 9 1 v ks.length (ks.map .string)) (hlen : ks.length ≤ 1000000) :
   Calls Tryz.prog 71 #[v] w fun e w' => e = .returned (.tuple #[]) ∧ Reads w' v ks.length ((sortK ks).map .string) ∧ Fr (fun k => v.ownBlock = some k) w w' := by
 by_cases h0 : ks = []
 · subst h0
   obtain ⟨ao,cap,rfl,hcap,hr⟩ := own_slice ho
   refine (Any.sort_Strings_none Tryz.sl192 ao cap w).mono ?_
   rintro e w' ⟨rfl,rfl⟩
   have e : sortK [] = [] := by simp [sortK]
   rw [e]
   exact ⟨rfl,own_slice ho,Fr.refl _ _⟩
 · have hp : 0 < ks.length := List.length_pos_iff.2 h0
   have hR := own_slice ho
   rcases ho.2 with ⟨_,hn⟩|⟨gb,cap,cur,rfl,_,hg,hcap,_⟩
   · omega
   · have hgl := lt_of_some hg
     have hH : Holds encStr w gb 0 (ks.map fun k => k.data.toList).toArray := by
       intro j hj
       have hj' : j < ks.length := by simpa using hj
       obtain ⟨_,_,e,_,hr⟩ := hR
       cases e
       obtain ⟨ob,e,_,hc⟩ := hr j (.string ks[j]) (by rw [List.getElem?_map,List.getElem?_eq_getElem hj'];rfl)
       cases e
       refine ⟨?_,by simp [World.frozen?,hg]⟩
       rw [Nat.zero_add,hc,getElem!_pos _ j hj]
       simp [enc_text]
     have hS := Any.sort_Strings Tryz.sl192 gb 0 cap (ks.map fun k => k.data.toList) w hH hgl (by rw [List.length_map];omega)
     rw [List.length_map] at hS
     refine Calls.mono hS ?_
     rintro e w' ⟨rfl,n,os,rfl⟩
     rw [sort_texts]
     refine ⟨rfl, ?_,(fr_put w n gb _ os).mono fun q hq => by rw [hq];rfl⟩
     have hl : (sortK ks).length = ks.length := by unfold sortK;rw [List.length_mergeSort]
     have hs : ((sortK ks).map fun k => k.data.toList).toArray.size = (ks.map fun k => k.data.toList).toArray.size := by simp [hl]
     have hHf := holds_grow encStr _ os gb 0 _ (by have := (fr_put w n gb ((sortK ks).map fun k => k.data.toList).toArray #[]).size;rw [Sort.grow_empty] at this;omega) (holds_putRow encStr (Sort.ahead w n) gb 0 _ ((sortK ks).map fun k => k.data.toList).toArray (holds_ahead encStr w n gb 0 _ hH) hs)
     refine ⟨some ⟨gb,0,none⟩,cap,rfl,hcap,fun j u hj => ⟨gb,rfl, ?_, ?_⟩⟩
     · have := (fr_put w n gb ((sortK ks).map fun k => k.data.toList).toArray os).size;omega
     · have hjl : j < (sortK ks).length := by
         have := (List.getElem?_eq_some_iff.1 hj).1
         simpa using this
       have h5 := (hHf j (by simpa using hjl)).1
       rw [Nat.zero_add,getElem!_pos _ j (by simpa using hjl)] at h5
       rw [h5]
       rw [List.getElem?_map,List.getElem?_eq_getElem hjl] at hj
       simp [enc_text] at hj ⊢
       exact hj
end Go.Proofs.YtbafaadmlpamiaaGreatDoor
