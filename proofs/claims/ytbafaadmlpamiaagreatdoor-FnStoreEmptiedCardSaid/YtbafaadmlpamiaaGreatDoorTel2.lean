/- The loops of doStep over a map of maps: their relations. -/
import Derived.Test.YtbafaadmlpamiaaGreatDoorTel
namespace Go.Hy
open Go Go.RowKit
open Go.MapKept (Stamped IsKey)
section
variable {P : Program} {w : World} {b : Nat} {es : Ents} {T K E : TypeId} {ops : Array Oper} {rest : List Oper} {o : Oper} {a : Act} {Q : Exit → Act → World → Prop}
theorem delI_run {r : Nat} {rem : Ents} (h : SM w b es) (hI : IT w r b rem) (hT : P.underlying T = some (.map K E)) (hK : P.underlying K = some .string) (k : ByteArray) (hk : ∀ p ∈ rem,p.1 ≠ k) (ty : TypeId) :
   ∃ arr' c',(Builtin.delete_ #[T,K] ty #[.map (some b), .string k]).run P w = .ok (.tuple #[]) (setM w b arr' c') ∧ SM (setM w b arr' c') b (delS es k) ∧ IT (setM w b arr' c') r b rem := by
 have hnd := h.nodup
 have hne := hI.ne
 obtain ⟨arr,clock,h1,h2,h3⟩ := h
 obtain ⟨arr',clock',seen,i1,i2,i3,i4,i5⟩ := hI
 rw [h1] at i1
 cases i1
 obtain ⟨r0,r1,r2,r3,r4⟩ := find_spec (k := k) arr.toList es 0 h3
 have hb : b < w.heap.size := (Array.getElem?_eq_some_iff.1 h1).1
 have hrl : r < w.heap.size := (Array.getElem?_eq_some_iff.1 i4).1
 have hck : ∀ e,(Instr.checkKey e 10000 K (.string k)).run P w = .ok () w := fun e => MapKept.run_checkKey (k := .string k) hK (by simp [IsKey]) e 9999
 cases r0 with
 | none =>
   have hno : ∀ p ∈ es,p.1 ≠ k := lookS_none.1 (by rw [← r2];rfl)
   have hd : delS es k = es := List.filter_eq_self.2 (fun p hp => by simpa using hno p hp)
   refine ⟨arr,clock, ?_, ?_, ?_⟩
   · simp [Builtin.delete_,run_underlying hT,MapKept.run_getObj_map h1,hck,MapKept.run_findKey hK r1,MapKept.run_setObj_map _ h1,Result.andThen,setM]
   · rw [hd]
     exact ⟨arr,clock,by simp [setM,hb],h2,h3⟩
   · exact ⟨arr,clock,seen,by simp [setM,hb],h2,i3,by simp [setM,Ne.symm hne,i4],i5⟩
 | some x =>
   obtain ⟨j,u⟩ := x
   obtain ⟨n,n1,n2,n3,n4⟩ := r3 j u rfl
   have hj : j = n := by omega
   subst hj
   have hn : j < arr.size := by simpa using n2
   have hl : j < es.length := by have := congrArg List.length h3;simp at this;omega
   have h4 : (arr[j]).key = .string k := by simpa [hn] using n3
   have hkey : (es[j]).1 = k := by
     have := congrArg (fun l => l[j]?) h3
     simp [hn,hl,entOf,entS] at this
     rw [this.1] at h4
     exact Value.string.inj h4
   refine ⟨arr.eraseIdxIfInBounds j,clock, ?_, ?_, ?_⟩
   · simp [Builtin.delete_,run_underlying hT,MapKept.run_getObj_map h1,hck,MapKept.run_findKey hK r1,MapKept.run_setObj_map _ h1,Result.andThen,setM]
   · refine ⟨arr.eraseIdxIfInBounds j,clock,by simp [setM,hb],MapKept.stamped_erase h2 j, ?_⟩
     rw [← erase_del es k j (es[j]).2 hnd (by rw [List.getElem?_eq_getElem hl, ← hkey])]
     simp only [Array.eraseIdxIfInBounds,hn,dif_pos,Array.toList_eraseIdx]
     rw [map_erase,h3, ← map_erase]
   · have hel : (arr.eraseIdxIfInBounds j).toList = arr.toList.eraseIdx j := by simp only [Array.eraseIdxIfInBounds,hn,dif_pos,Array.toList_eraseIdx]
     have hin : seen.contains (arr[j]).born = true := by
       cases hc : seen.contains (arr[j]).born with
       | true => rfl
       | false =>
         have hm : entOf arr[j] ∈ (leftOf arr seen).toList.map entOf := by
           refine List.mem_map.2 ⟨arr[j], ?_,rfl⟩
           unfold leftOf
           rw [Array.toList_filter,List.mem_filter]
           exact ⟨by simp,by rw [hc];rfl⟩
         rw [i5] at hm
         obtain ⟨p,hp,e⟩ := List.mem_map.1 hm
         have e2 := (Prod.mk.inj e).1
         rw [h4] at e2
         exact absurd (Value.string.inj e2) (hk p hp)
     refine ⟨arr.eraseIdxIfInBounds j,clock,seen,by simp [setM,hb],MapKept.stamped_erase h2 j,fun x hx => i3 x ?_,by simp [setM,Ne.symm hne,i4], ?_⟩
     · rw [hel] at hx
       exact List.mem_of_mem_eraseIdx hx
     · rw [← i5]
       congr 1
       unfold leftOf
       rw [Array.toList_filter,Array.toList_filter,hel]
       have hs : arr.toList = arr.toList.take j ++ arr[j] :: arr.toList.drop (j + 1) := by
         rw [show arr[j] = arr.toList[j]'(by simpa using hn) by simp]
         exact (List.take_append_drop j arr.toList).symm.trans (by rw [List.drop_eq_getElem_cons (by simpa using hn)])
       rw [List.eraseIdx_eq_take_drop_succ]
       conv => rhs;rw [hs]
       rw [List.filter_append,List.filter_append,List.filter_cons_of_neg (by rw [hin];simp)]
theorem wl_delI (T K E : TypeId) (hT : P.underlying T = some (.map K E)) (hK : P.underlying K = some .string)
   (hg : o.guard = none) (m x : Operand) (hop : o.op = Op.call { callee := Callee.builtin Builtin.delete,args := #[m,x],argTypes := #[T,K] }) {r : Nat} {rem : Ents} (h : SM w b es) (hI : IT w r b rem) (k : ByteArray) (hk : ∀ p ∈ rem,p.1 ≠ k)
   (hm : a.eval m = .map (some b)) (hx : a.eval x = .string k)
   (hY : ∀ arr c,SM (setM w b arr c) b (delS es k) → IT (setM w b arr c) r b rem → wpList P ops Q rest (a.put o.dst (.tuple #[])) (setM w b arr c)) :
   wpList P ops Q (o :: rest) a w := by
 refine wpList_plain hg fun K' hK' => ?_
 obtain ⟨arr,c,hrun,h1,h2⟩ := delI_run h hI hT hK k hk o.type
 unfold Oper.wp
 simp [execOp,hop,resolve,invoke,builtin,hm,hx,hrun,Result.andThen]
 exact hK' _ _ (hY arr c h1 h2)
end
end Go.Hy
namespace Go.Proofs.YtbafaadmlpamiaaGreatDoor
open Go Go.Hy Go.RowKit
theorem mp_split {rem : List (ByteArray × Nat)} {l1 l2 : Ents} {key : ByteArray} {v0 : Value} (h : mp rem = l1 ++ (key,v0) :: l2) : ∃ r1 n r2,rem = r1 ++ (key,n) :: r2 ∧ v0 = .map (some n) ∧ l1 = mp r1 ∧ l2 = mp r2 := by
 unfold mp at h ⊢
 obtain ⟨r1,l',hr,q1,q2⟩ := List.append_eq_map_iff.1 h.symm
 obtain ⟨p,r2,hl',q3,q4⟩ := List.map_eq_cons_iff.1 q2
 obtain ⟨q5,q6⟩ := Prod.mk.inj q3
 exact ⟨r1,p.2,r2,by rw [hr,hl', ← q5],q6.symm,q1.symm,q4.symm⟩
theorem mp_append (l m : List (ByteArray × Nat)) : mp l ++ mp m = mp (l ++ m) := by unfold mp;simp
def kys (inn : Nat → Ents) (l : List (ByteArray × Nat)) : List (ByteArray × ByteArray) := l.flatMap fun x => (inn x.2).map fun y => (x.1,y.1)
theorem kys_allK (l : List (ByteArray × Nat)) (inn : Nat → Ents) : (allK l inn).map (·.1) = kys inn l := by
 unfold allK kys
 rw [List.map_flatMap]
 simp [Function.comp_def]
theorem kys_perm {inn : Nat → Ents} {l m : List (ByteArray × Nat)} (h : l.Perm m) : (kys inn l).Perm (kys inn m) := h.flatMap_right _
theorem kys_append (inn : Nat → Ents) (l m : List (ByteArray × Nat)) : kys inn (l ++ m) = kys inn l ++ kys inn m := by unfold kys;simp
theorem both_lenT (s : St) (t : Bool) : (s.both t).length ≤ 2 * s.ls.length := by
 unfold St.both
 induction s.ls with
 | nil => simp
 | cons m ls ih =>
   simp only [List.flatMap_cons,List.length_append,List.length_cons]
   have h1 : ∀ c : Bool,(if c then [m] else []).length ≤ 1 := fun c => by cases c <;> simp
   have h2 : ∀ c : Bool,(if c then [m.turn] else []).length ≤ 1 := fun c => by cases c <;> simp
   have := h1 (!t || !s.dir)
   have := h2 (t || !s.dir)
   omega
theorem AdjM.bound {w0 w w' : World} {G : GS} (hr : GRep w0 G) {turn : Bool} {B : Nat} {l : List (ByteArray × Nat)} {inn : Nat → Ents} (h : AdjM w w' G turn B l inn) (hb : G.lks.length ≤ 400000) : (kys inn l).length ≤ 800000 := by
 have h1 : ∀ p ∈ allK l inn, ∃ s,lkOf G turn p.1.1 p.1.2 = some s ∧ (s.a,s.b) = p.1 := by
   rintro ⟨⟨x,y⟩,v⟩ hp
   have h2 := (mem_allK h.side x y v).1 hp
   rw [h.at_] at h2
   obtain ⟨e,he,_⟩ := Option.map_eq_some_iff.1 h2
   exact ⟨⟨x,y,e.wt,byK e.es⟩,by unfold lkOf;rw [he];rfl,rfl⟩
 have h2 := told_links hr h (D := (allK l inn).map fun p => (lkOf G turn p.1.1 p.1.2).getD default) (by
   rw [List.map_map]
   refine List.Perm.of_eq (List.map_congr_left fun p hp => ?_)
   obtain ⟨s,hs,e⟩ := h1 p hp
   simp only [Function.comp_apply,hs,Option.getD_some]
   exact e) (by
   intro d hd
   obtain ⟨p,hp,rfl⟩ := List.mem_map.1 hd
   obtain ⟨s,hs,e⟩ := h1 p hp
   rw [hs,Option.getD_some]
   have e2 := Prod.mk.inj e
   rw [show s.a = p.1.1 from e2.1,show s.b = p.1.2 from e2.2]
   exact hs)
 have h3 := both_lenT G.st turn
 have h4 := h2.length_eq
 have h5 : G.st.ls.length = G.lks.length := by unfold GS.st;simp
 rw [List.length_map] at h4
 rw [← kys_allK,List.length_map]
 omega
theorem AdjM.entry2 {w w' : World} {G : GS} {turn : Bool} {B : Nat} {l : List (ByteArray × Nat)} {inn : Nat → Ents} (h : AdjM w w' G turn B l inn) {x y : ByteArray} {n : Nat} {v : Value} (hx : (x,n) ∈ l) (hy : (y,v) ∈ inn n) :
   ∃ e ∈ G.lks,(∃ p q,v = ev p q e.at_ e.wt) ∧ lkOf G turn x y = some ⟨x,y,e.wt,byK e.es⟩ := by
 obtain ⟨e,he,hv,hl⟩ := h.entry hx hy
 refine ⟨e,he, ?_,hl⟩
 cases turn
 · exact ⟨_,_,hv⟩
 · exact ⟨_,_,hv⟩
theorem IT.past {w2 w4 : World} {r b tb c lo size n : Nat} {e : TypeId} {v v' : Value} {xs : List Value} {rem : Ents} (h : IT w2 r b rem) (ho : w2.ownsRow lo e size v n xs) (fg : Fr (fun k => v.ownBlock = some k) w2 w4) (hb : b ≠ tb) (hr : r ≠ tb) : IT (w4.setCell ⟨tb,c,none⟩ v') r b rem :=
 (h.fr fg (fun q => ownsRow_ne_itb ho h q) (fun q => ownsRow_ne_it ho h q)).fr ((Fr.refl (· = tb) w4).setCell (.inl rfl) _) hb hr
def OutL (wa : World) (G : GS) (turn : Bool) (B r lo tb : Nat) (l : List (ByteArray × Nat)) (inn : Nat → Ents) (k : Nat) (wr : World) : Prop :=
 ∃ (done rem : List (ByteArray × Nat)) (D : List LnkV) (v8 v9 : Value),rem.length = k ∧ (done ++ rem).Perm l ∧ IT wr r B (mp rem) ∧ Lst wa lo tb r wr (done.map (·.1)) D v8 v9 ∧ (D.map keyL).Perm (kys inn done) ∧ ∀ d ∈ D,lkOf G turn d.1.a d.1.b = some d.1
def InL (wa : World) (G : GS) (turn : Bool) (B r1 r2 lo tb n : Nat) (key : ByteArray) (ks : List ByteArray) (D : List LnkV) (v8 : Value) (rem2 : List (ByteArray × Nat)) (inn : Nat → Ents) (k : Nat) (wr : World) : Prop :=
 ∃ (D' : List LnkV) (rem' : Ents) (v9 : Value),rem'.length = k ∧ IT wr r2 n rem' ∧ IT wr r1 B (mp rem2) ∧ Lst wa lo tb r2 wr ks (D ++ D') v8 v9 ∧ (D'.map keyL ++ rem'.map fun y => (key,y.1)).Perm ((inn n).map fun y => (key,y.1)) ∧ (∀ y ∈ rem',y ∈ inn n) ∧ ∀ d ∈ D',lkOf G turn d.1.a d.1.b = some d.1
def DelL (w1 : World) (B r : Nat) (l : List (ByteArray × Nat)) (inn : Nat → Ents) (k : Nat) (wr : World) : Prop :=
 ∃ (rem : List (ByteArray × Nat)) (es : Ents),rem.length = k ∧ IT wr r B (mp rem) ∧ SM wr B es ∧ (∀ x ∈ rem,x ∈ l ∧ SM wr x.2 (inn x.2)) ∧ (rem.map (·.1)).Nodup ∧ (rem.map (·.2)).Nodup ∧ Fr (fun q => q = B ∨ q ∈ l.map (·.2)) w1 wr
theorem DelL.step {w1 wr w3 w4 w5 : World} {B r n : Nat} {l r1 r2 rem : List (ByteArray × Nat)} {inn : Nat → Ents} {k : Nat} {key : ByteArray} {es' : Ents} (hk : rem.length = k) (hl : ∀ x ∈ rem,x ∈ l ∧ SM wr x.2 (inn x.2)) (h1 : (rem.map (·.1)).Nodup) (h2 : (rem.map (·.2)).Nodup) (f : Fr (fun q => q = B ∨ q ∈ l.map (·.2)) w1 wr)
   (e : rem = r1 ++ (key,n) :: r2) (hr : w1.heap.size ≤ r) (hlr : ∀ x ∈ l,x.2 ≠ r) (u : Upd r wr w3) (u4 : Upd n w3 w4) (u5 : Upd B w4 w5) (hs : SM w5 B es') (hi : IT w5 r B (mp (r1 ++ r2))) (hB : ∀ x ∈ l,x.2 ≠ B) : (r1 ++ r2).length < k ∧ DelL w1 B r l inn (r1 ++ r2).length w5 := by
 have sub : (r1 ++ r2).Sublist rem := by rw [e];exact (List.Sublist.refl r1).append (List.sublist_cons_self _ _)
 have hnl := (hl (key,n) (by rw [e];simp)).1
 refine ⟨by rw [← hk,e];simp,r1 ++ r2,es',rfl,hi,hs,fun x hx => ?_,(sub.map _).nodup h1,(sub.map _).nodup h2, ?_⟩
 · obtain ⟨q1,q2⟩ := hl x (sub.subset hx)
   refine ⟨q1,((q2.fr (Fr.of_upd u) (hlr x q1)).fr (Fr.of_upd u4) fun z => ?_).fr (Fr.of_upd u5) (hB x q1)⟩
   rw [e] at h2
   simp only [List.map_append,List.map_cons] at h2
   have h3 := (List.perm_middle.nodup_iff).1 h2
   simp only [List.nodup_cons] at h3
   exact h3.1 (by rw [← List.map_append];exact List.mem_map.2 ⟨x,hx,z⟩)
 · exact ((f.trans (Fr.of_upd u) fun q z => .inr (by rw [z];exact hr)).trans (Fr.of_upd u4) fun q z => .inl (.inr (by rw [z];exact List.mem_map.2 ⟨_,hnl,rfl⟩))).trans (Fr.of_upd u5) fun q z => .inl (.inl z)
theorem encL_zip : ∀ (D : List LnkV),encL encLk ((D.map (·.1)).zip (D.map LnkV.val)) = encL encLnk D
 | [] => rfl
 | d :: D => by
   have ih := encL_zip D
   unfold encL at ih ⊢
   simp only [List.map_cons,List.zip_cons_cons,List.flatMap_cons,ih]
   rfl
theorem LinksIn.of_rows {w : World} {p : Nat → Prop} {v : Value} {D : List LnkV} (hR : Reads w v D.length (encL encLnk D)) (hb : ∀ q,v.ownBlock = some q → p q ∧ q < w.heap.size) (hp : ∀ d ∈ D,PairsIn w p d.val d.1.es) : LinksIn w p v (D.map (·.1)) := by
 refine ⟨D.map LnkV.val,by simp,by rw [List.length_map,encL_zip];exact hR,hb,fun i l u h1 h2 => ?_⟩
 rw [List.getElem?_map] at h1 h2
 obtain ⟨d,hd,rfl⟩ := Option.map_eq_some_iff.1 h1
 rw [hd] at h2
 cases h2
 exact hp d (List.mem_of_getElem? hd)
theorem ltB_le_trans (a b c : ByteArray) (h : (!ltB b a) = true) (g : (!ltB c b) = true) : (!ltB c a) = true := by
 simp only [Bool.not_eq_true'] at *
 exact (ltB_sto.swo id).ntrans c b a g h
theorem ltB_le_total (a b : ByteArray) : ((!ltB b a) || (!ltB a b)) = true := by
 cases h : ltB b a with
 | false => rfl
 | true =>
   cases g : ltB a b with
   | false => rfl
   | true =>
     have := ltB_trans h g
     rw [ltB_irrefl] at this
     cases this
theorem sortK_perm {l m : List ByteArray} (h : l.Perm m) : sortK l = sortK m := by
 refine perm_sort ltB_le_trans ltB_le_total (fun _ a _ b _ h1 h2 => ltB_tri h1 h2) ((List.mergeSort_perm _ _).trans h) ?_
 exact (List.pairwise_mergeSort (le := fun x y => !ltB y x) ltB_le_trans ltB_le_total l).imp fun {a b} q => by simpa using q
theorem sortK_len (l : List ByteArray) : (sortK l).length = l.length := by unfold sortK;rw [List.length_mergeSort]
theorem maps_told {w0 w w' : World} {G : GS} (hr : GRep w0 G) {turn : Bool} {B : Nat} {l done : List (ByteArray × Nat)} {inn : Nat → Ents} (hA : AdjM w w' G turn B l inn) (hp : done.Perm l) {D D2 : List LnkV} (hky : (D.map keyL).Perm (kys inn done)) (hlk : ∀ d ∈ D,lkOf G turn d.1.a d.1.b = some d.1)
   (hp2 : D2.Perm D) (hs2 : D2.Pairwise fun a b => lt2 (keyL b) (keyL a) = false) : sortK (done.map (·.1)) = sortK G.st.keys ∧ D2.map (·.1) = sortL (G.st.both turn) := by
 have hk : ((D.map (·.1)).map fun s => (s.a,s.b)).Perm ((allK l inn).map (·.1)) := by
   rw [List.map_map,kys_allK]
   exact hky.trans (kys_perm hp)
 have hb := told_links hr hA hk (fun d hd => by obtain ⟨x,hx,rfl⟩ := List.mem_map.1 hd;exact hlk x hx)
 refine ⟨sortK_perm ?_,sorted_links ((hp2.map _).trans hb) (List.pairwise_map.2 (hs2.imp fun h => h)) ?_⟩
 · have e : G.st.keys = G.pts.map (·.h) := by unfold St.keys GS.st;rw [List.map_map];rfl
   rw [e]
   exact (hp.map _).trans hA.keys
 · exact (((hp2.map _).map _).nodup_iff).2 ((hk.nodup_iff).2 (allK_keys hA.side))
theorem Lst.told {wa wo wA wB wZ : World} {lo tb r : Nat} {ks : List ByteArray} {D D2 : List LnkV} {v8 v9 : Value} (L : Lst wa lo tb r wo ks D v8 v9) (f8 : Fr (fun k => v8.ownBlock = some k) wo wA) (f9 : Fr (fun k => v9.ownBlock = some k) wA wB)
   (R8 : Reads wA v8 ks.length ((sortK ks).map .string)) (R9 : Reads wB v9 D.length (encL encLnk D2)) (hp2 : D2.Perm D) {S p : Nat → Prop} (f : Fr S wB wZ) (hS : ∀ q,lo ≤ q → q < wB.heap.size → ¬ S q) (hpp : ∀ q,lo ≤ q → p q) : KeysIn wZ p v8 (sortK ks) ∧ LinksIn wZ p v9 (D2.map (·.1)) := by
 have z8 := f8.size
 have z9 := f9.size
 have zf := f.size
 have o8 : ∀ q,v8.ownBlock = some q → lo ≤ q ∧ q < wo.heap.size := fun q e => L.k.lt q e
 have o9 : ∀ q,v9.ownBlock = some q → lo ≤ q ∧ q < wo.heap.size := fun q e => L.l.lt q e
 refine ⟨⟨?_,fun q e => ⟨hpp q (o8 q e).1,by have := (o8 q e).2;omega⟩⟩, ?_⟩
 · rw [sortK_len]
   exact (R8.fr f9 fun q e _ z => L.n89 q e z).fr f fun q e _ => hS q (o8 q e).1 (by have := (o8 q e).2;omega)
 · refine LinksIn.of_rows ?_ (fun q e => ⟨hpp q (o9 q e).1,by have := (o9 q e).2;omega⟩) fun d hd => ?_
   · rw [hp2.length_eq]
     exact R9.fr f fun q e _ => hS q (o9 q e).1 (by have := (o9 q e).2;omega)
   · have h1 := L.p d ((hp2.mem_iff).1 hd)
     exact (((h1.fr f8 fun q hq _ => hq.2.1).fr f9 fun q hq _ => hq.2.2.1).fr f fun q hq hl => hS q hq.1 hl).imp fun q hq _ => hpp q hq.1
end Go.Proofs.YtbafaadmlpamiaaGreatDoor
