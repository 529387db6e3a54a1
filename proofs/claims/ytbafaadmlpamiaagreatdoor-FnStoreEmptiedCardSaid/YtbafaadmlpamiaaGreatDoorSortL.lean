/- sort.Slice at this program: edges by their ends. -/
import Derived.Test.YtbafaadmlpamiaaGreatDoorA8
namespace Go.Proofs.YtbafaadmlpamiaaGreatDoor
open Go Go.Hy Go.Proofs Go.Shelf Go.RowKit Go.Sort
abbrev LnkV := SL × Option Addr × Nat × Nat
instance : Inhabited SL := ⟨⟨⟨#[]⟩,⟨#[]⟩,0,[]⟩⟩
def LnkV.val (x : LnkV) : Value := .slice x.2.1 x.2.2.1 x.2.2.2
def encLnk (x : LnkV) : List Value := [.string x.1.a, .string x.1.b, .int .i64 x.1.wt, .slice x.2.1 x.2.2.1 x.2.2.2]
def keyL (x : LnkV) : ByteArray × ByteArray := (x.1.a,x.1.b)
theorem drewN_two (w : World) (n m : Nat) : (w.drewN n).drewN m = w.drewN (n + m) := by simp [World.drewN,Nat.add_assoc]
set_option maxRecDepth 100000 in
set_option maxHeartbeats 1000000 in
theorem lessL (blk off c Bs size : Nat) (W : World) (dk : Array LnkV) (hs : W.cell? ⟨Bs,0,none⟩ = some (.slice (some ⟨blk,off,none⟩) size c))
   (hc : ∀ t,t < size → W.cell? ⟨blk,off + t * 4,none⟩ = some (.string dk[t]!.1.a) ∧ W.cell? ⟨blk,off + t * 4 + 1,none⟩ = some (.string dk[t]!.1.b)) (i j : Nat) (hi : i < size) (hj : j < size) (_hsz : size < 4611686018427387904) :
   Calls Tryz.prog 92 #[.int .i64 i, .int .i64 j, .pointer (some ⟨Bs,0,none⟩)] W fun e w' => e = .returned (.bool (lt2 (keyL dk[i]!) (keyL dk[j]!))) ∧ ∃ q,w' = W.drewN q := by
 obtain ⟨ci,ci'⟩ := hc i hi
 obtain ⟨cj,cj'⟩ := hc j hj
 generalize dk[i]! = x at *
 generalize dk[j]! = y at *
 clear hc
 by_cases h : x.1.a = y.1.a
 · have HE := Lib.hid h
   rw [h] at ci
   clear h
   go_enter Tryz.func92,Tryz.ntmps92
   go_wp2_with fail
   go_quiet (fail)
   go_wp2_with fail
   go_quiet (fail)
   go_wp2_with fail
   go_ret
   refine ⟨by unfold lt2 keyL;rw [if_pos HE.out];rfl,_,drewN_two _ _ _⟩
 · have HE := Lib.hid h
   have h1 : (x.1.a.toList == y.1.a.toList) = false := by
     cases e : x.1.a.toList == y.1.a.toList with
     | false => rfl
     | true => exact absurd (toList_inj (beq_iff_eq.1 e)) h
   clear h
   go_enter Tryz.func92,Tryz.ntmps92
   go_wp2_with fail
   go_quiet (fail)
   go_wp2_with fail
   go_quiet (fail)
   go_wp2_with fail
   go_ret
   refine ⟨by unfold lt2 keyL;rw [if_neg HE.out];rfl,_,drewN_two _ _ _⟩
noncomputable def LT : TypeInfo := (Tryz.prog.info? 42).get (by kernel_rfl)
noncomputable def LE : TypeInfo := (Tryz.prog.info? 65).get (by kernel_rfl)
theorem LK (n : Nat) (h2 : 2 ≤ n) : Go.Lib.swapperK n LE 25 = 9 := by
 have a : LE.hasPointers = true := by kernel_rfl
 have b : (LE.bytes == 8) = false := by kernel_rfl
 have c : (n == 0) = false := by simp;omega
 have d : (n == 1) = false := by simp;omega
 simp [Go.Lib.swapperK,a,b,c,d]
theorem Lsort (w : World) (v : Value) (l : List LnkV) (base : Nat) (ho : w.ownsRow base 65 4 v l.length (encL encLnk l)) (Bs : Nat) (hBs : w.cell? ⟨Bs,0,none⟩ = some v) (hB2 : v.ownBlock ≠ some Bs) (hlen : l.length ≤ 1000000) :
   Calls Tryz.prog 90 #[.iface 42 v, .func (Fn.func 92) #[] #[.pointer (some ⟨Bs,0,none⟩)]] w fun e w' => e = .returned (.tuple #[]) ∧ ∃ l',l'.Perm l ∧ l'.Pairwise (fun a b => lt2 (keyL b) (keyL a) = false) ∧ Reads w' v l.length (encL encLnk l') ∧ Fr (fun k => v.ownBlock = some k) w w' := by
 have hBl : Bs < w.heap.size := World.block_lt_of_cell? w _ hBs
 by_cases h2 : 2 ≤ l.length
 · obtain ⟨ao,cap,hv,hcap,_⟩ := own_slice ho
   rcases ho.2 with ⟨_,h0⟩|⟨gb,cap',cur,rfl,_,hg,_⟩
   · omega
   · cases hv
     obtain ⟨hH,hgl⟩ := holds_of_own encLnk 4 (fun _ => rfl) (by decide) ho
     have hne : Bs ≠ gb := fun q => hB2 (by rw [q];rfl)
     have hless : LessReadsK Tryz.prog 92 #[.pointer (some ⟨Bs,0,none⟩)] encLnk 4 (fun a b => lt2 (keyL a) (keyL b)) gb 0 l.toArray.size w := by
       intro m os dk hs i j hi hj
       have e : sortWorldK encLnk 4 w gb 0 m dk os = putRowK encLnk 4 (Sort.grow (Sort.ahead w m) os) gb 0 dk := by
         unfold sortWorldK;rw [putRowK_grow _ _ (Sort.ahead w m) _ gb 0 _ hgl]
       have hHg : HoldsK encLnk 4 (Sort.grow (Sort.ahead w m) os) gb 0 l.toArray := holdsK_grow _ _ _ _ gb 0 _ hgl (holdsK_ahead _ _ _ _ _ _ _ hH)
       have hH2 := holdsK_putRowK _ _ _ gb 0 l.toArray dk hHg hs
       have hs' : dk.size = l.length := by rw [hs];simp
       rw [e]
       refine lessL gb 0 cap Bs l.length _ dk ?_ (fun t ht => ?_) i j (by simpa using hi) (by simpa using hj) (by omega)
       · rw [cell?_putRowK_other _ _ _ gb 0 dk _ (by exact hne),cell?_grow _ _ _ (by exact hBl)];exact hBs
       · exact ⟨(hH2.cell (i := t) (c := 0) (by omega) (by omega)).1,(hH2.cell (i := t) (c := 1) (by omega) (by omega)).1⟩
     have hS := Any.sort_Slice_cells_sorted Tryz.sl6 42 65 LT LE (by kernel_rfl) (by kernel_rfl) (by kernel_rfl) (by kernel_rfl) 25 (fun _ => by kernel_rfl) encLnk 4 (fun _ => rfl) (by kernel_rfl) (fun _ => by kernel_rfl)
       (fun x v hv => by simp [encLnk] at hv;rcases hv with rfl|rfl|rfl|rfl <;> rfl) (fun a b => lt2 (keyL a) (keyL b)) (lt2_sto.swo keyL) 92 _
       (enters_of Tryz.func92 (by kernel_rfl) rfl) gb 0 cap l.toArray (by simpa using h2) (by simp;omega) 114 (by rw [LK _ (by simpa using h2)];kernel_rfl) false
       (fun args W => run_callFunc_extern Tryz.func114 (by kernel_rfl) (by kernel_rfl) (by kernel_rfl) (e := Extern.ReflectliteSwapper.swap false) (by kernel_rfl) args W) w hless hH hgl
     have hc : (l.toArray.size : Nat) = l.length := by simp
     rw [hc] at hS
     refine Calls.mono hS ?_
     rintro e w' ⟨rfl,d',n,os,hp,hs,rfl⟩
     have hsz : d'.size = l.length := by rw [hp.1];simp
     have hperm : d'.toList.Perm l := by
       have := hp.2.2
       have e1 : d'.extract 0 l.length = d' := by rw [← hsz];simp
       have e2 : l.toArray.extract 0 l.length = l.toArray := by rw [← hc];exact Array.extract_size
       rw [e1,e2] at this
       simpa using this
     refine ⟨rfl,d'.toList,hperm, ?_, ?_, ?_⟩
     · rw [List.pairwise_iff_getElem]
       intro i j hi hj hij
       have h3 : i < d'.size := by simpa using hi
       have h4 : j < d'.size := by simpa using hj
       have := hs i j (Nat.zero_le _) hij (by omega)
       simpa [h3,h4] using this
     · refine ⟨some ⟨gb,0,none⟩,cap,rfl,hcap,fun j u hj => ⟨gb,rfl, ?_, ?_⟩⟩
       · have := (fr_sorted encLnk 4 w n gb d' os).size;omega
       · have hHf : HoldsK encLnk 4 (putRowK encLnk 4 (Sort.ahead w n) gb 0 d') gb 0 d' := holdsK_putRowK _ _ _ gb 0 l.toArray d' (holdsK_ahead _ _ _ _ _ _ _ hH) (by rw [hp.1])
         have hHw := holdsK_grow _ _ _ os gb 0 d' (by have := (fr_sorted encLnk 4 w n gb d' #[]).size;simp at this;omega) hHf
         have hjl : j < d'.size * 4 := by
           have := (List.getElem?_eq_some_iff.1 hj).1
           rw [encL_len encLnk 4 (fun _ => rfl)] at this
           simpa using this
         have h5 := hHw j (by rw [size_flatK];exact hjl)
         rw [Nat.zero_add,get_flatK _ _ _ _ hjl] at h5
         rw [h5.1]
         have h6 := encL_at encLnk 4 (fun _ => rfl) d'.toList (j / 4) (j % 4) (by simp;omega) (Nat.mod_lt _ (by decide))
         rw [show j / 4 * 4 + j % 4 = j by omega,hj] at h6
         have hlt : j / 4 < d'.size := by omega
         have e7 : d'.toList[j / 4]! = d'[j / 4]! := by
           rw [getElem!_pos d'.toList _ (by simpa using hlt),getElem!_pos d' _ hlt]
           simp
         rw [e7] at h6
         exact h6.symm
     · exact (fr_sorted encLnk 4 w n gb d' os).mono fun q hq => by rw [hq];rfl
 · obtain ⟨ao,cap,rfl,hcap,hr⟩ := own_slice ho
   have hT : Calls Tryz.prog 90 #[.iface 42 (.slice ao l.length cap), .func (Fn.func 92) #[] #[.pointer (some ⟨Bs,0,none⟩)]] w fun e w' => e = .returned (.tuple #[]) ∧ ∃ os,w' = Sort.grow w os := by
     have h01 : l.length = 0 ∨ l.length = 1 := by omega
     rcases h01 with h|h
     · rw [h]
       exact Any.sort_Slice_tiny Tryz.sl6 42 65 LT LE (by kernel_rfl) (by kernel_rfl) (by kernel_rfl) (by kernel_rfl) 25 (fun _ => by kernel_rfl) ao 0 cap (by decide) 106 (by kernel_rfl) _ _ _ w
     · rw [h]
       exact Any.sort_Slice_tiny Tryz.sl6 42 65 LT LE (by kernel_rfl) (by kernel_rfl) (by kernel_rfl) (by kernel_rfl) 25 (fun _ => by kernel_rfl) ao 1 cap (by decide) 107 (by kernel_rfl) _ _ _ w
   refine hT.mono ?_
   rintro e w' ⟨rfl,os,rfl⟩
   have fg : Fr0 w (Sort.grow w os) := ⟨rfl,rfl,rfl,by rw [size_grow];omega,fun i hi _ => by unfold Sort.grow;exact Array.getElem?_append_left hi⟩
   refine ⟨rfl,l,List.Perm.refl _, ?_,⟨ao,cap,rfl,hcap,fun j u hj => ?_⟩,fg.mono fun _ q => q.elim⟩
   · exact List.pairwise_iff_getElem.2 fun i j hi hj hij => by omega
   · obtain ⟨ob,h3,h4,h5⟩ := hr j u hj
     exact ⟨ob,h3,Nat.lt_of_lt_of_le h4 fg.size,(fg.cell (p := ⟨ob,j,none⟩) h4 (fun q => q)).trans h5⟩
end Go.Proofs.YtbafaadmlpamiaaGreatDoor
