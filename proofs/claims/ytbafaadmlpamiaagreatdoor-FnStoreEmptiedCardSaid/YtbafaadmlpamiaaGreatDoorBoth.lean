/- What a map of maps tells, as a list of edges; plain. -/
import Derived.Test.YtbafaadmlpamiaaGreatDoorPred
import Derived.Test.YtbafaadmlpamiaaGreatDoorInl
import Derived.Test.YtbafaadmlpamiaaGreatDoorStrs2
import Derived.Test.YtbafaadmlpamiaaGreatDoorStep8
namespace Go.Proofs.YtbafaadmlpamiaaGreatDoor
open Go Go.Hy Go.RowKit
def lkOf (G : GS) (turn : Bool) (x y : ByteArray) : Option SL := (if turn then findL G.dir G.lks y x else findL G.dir G.lks x y).map fun e => ⟨x,y,e.wt,byK e.es⟩
theorem AdjM.entry {w w' : World} {G : GS} {turn : Bool} {B : Nat} {l : List (ByteArray × Nat)} {inn : Nat → Ents} (h : AdjM w w' G turn B l inn) {x y : ByteArray} {n : Nat} {v : Value} (hx : (x,n) ∈ l) (hy : (y,v) ∈ inn n) :
   ∃ e ∈ G.lks,v = (if turn then ev y x e.at_ e.wt else ev x y e.at_ e.wt) ∧ lkOf G turn x y = some ⟨x,y,e.wt,byK e.es⟩ := by
 have h1 : edgeAt l inn x y = some v := by
   unfold edgeAt
   rw [findK_of_mem h.side.keys hx]
   exact lookS_of_mem (h.side.e _ hx).nodup hy
 rw [h.at_] at h1
 unfold lkOf
 obtain ⟨e,he,hv⟩ := Option.map_eq_some_iff.1 h1
 refine ⟨e, ?_,hv.symm,by rw [he];rfl⟩
 cases turn
 · exact (findL_mem (dir := G.dir) (a := x) (b := y) (by simpa using he)).1
 · exact (findL_mem (dir := G.dir) (a := y) (b := x) (by simpa using he)).1
theorem both_low (s : St) (h : s.dir = false) (t : Bool) : s.both t = s.both false := by
 unfold St.both
 simp [h]
theorem both_iff {w : World} {G : GS} (h : GRep w G) (turn : Bool) (s : SL) : s ∈ G.st.both turn ↔ lkOf G turn s.a s.b = some s := by
 have hl := h.lnd
 have fw : ∀ l ∈ G.lks,findL G.dir G.lks l.a l.b = some l := fun l hm => findL_of_mem hl hm
 have mem : s ∈ G.st.both turn ↔ ∃ l ∈ G.lks,((turn = false ∨ G.dir = false) ∧ s = Lk.sl l) ∨ ((turn = true ∨ G.dir = false) ∧ s = (Lk.sl l).turn) := by
   have hd : G.st.dir = G.dir := rfl
   unfold St.both
   rw [hd]
   simp only [List.mem_flatMap,GS.st,List.mem_map,List.mem_append]
   constructor
   · rintro ⟨_,⟨l,hm,rfl⟩,q|q⟩
     · split at q
       · exact ⟨l,hm, .inl ⟨by cases turn <;> simp_all,by simpa using q⟩⟩
       · cases q
     · split at q
       · exact ⟨l,hm, .inr ⟨by cases turn <;> simp_all,by simpa using q⟩⟩
       · cases q
   · rintro ⟨l,hm,⟨q,rfl⟩|⟨q,rfl⟩⟩
     · refine ⟨_,⟨l,hm,rfl⟩, .inl ?_⟩
       rw [if_pos (by rcases q with q|q <;> simp [q])]
       simp
     · refine ⟨_,⟨l,hm,rfl⟩, .inr ?_⟩
       rw [if_pos (by rcases q with q|q <;> simp [q])]
       simp
 rw [mem]
 unfold lkOf
 constructor
 · rintro ⟨l,hm,⟨q,rfl⟩|⟨q,rfl⟩⟩
   · have e1 : (Lk.sl l).a = l.a := rfl
     have e2 : (Lk.sl l).b = l.b := rfl
     rw [e1,e2]
     cases turn
     · rw [if_neg (by simp),fw l hm];rfl
     · have hd : G.dir = false := by rcases q with q|q <;> simp_all
       rw [if_pos rfl,hd,findL_swap, ← hd,fw l hm]
       rfl
   · have e1 : (Lk.sl l).turn.a = l.b := rfl
     have e2 : (Lk.sl l).turn.b = l.a := rfl
     rw [e1,e2]
     cases turn
     · have hd : G.dir = false := by rcases q with q|q <;> simp_all
       rw [if_neg (by simp),hd,findL_swap, ← hd,fw l hm]
       rfl
     · rw [if_pos rfl,fw l hm];rfl
 · intro q
   obtain ⟨e,he,q2⟩ := Option.map_eq_some_iff.1 q
   generalize s.a = x at *
   generalize s.b = y at *
   subst q2
   cases turn
   · rw [if_neg (by simp)] at he
     obtain ⟨m1,m2⟩ := findL_mem he
     rcases hit_cases m2 with ⟨e1,e2⟩|⟨e0,e1,e2⟩
     · exact ⟨e,m1, .inl ⟨.inl rfl,by unfold Lk.sl;rw [e1,e2]⟩⟩
     · exact ⟨e,m1, .inr ⟨.inr e0,by unfold Lk.sl SL.turn;simp only;rw [e1,e2]⟩⟩
   · rw [if_pos rfl] at he
     obtain ⟨m1,m2⟩ := findL_mem he
     rcases hit_cases m2 with ⟨e1,e2⟩|⟨e0,e1,e2⟩
     · exact ⟨e,m1, .inr ⟨.inl rfl,by unfold Lk.sl SL.turn;simp only;rw [e1,e2]⟩⟩
     · exact ⟨e,m1, .inl ⟨.inr e0,by unfold Lk.sl;rw [e1,e2]⟩⟩
theorem nodup_of_map {α β : Type} {f : α → β} {l : List α} (h : (l.map f).Nodup) : l.Nodup := by
 rw [List.nodup_iff_pairwise_ne] at *
 exact (List.pairwise_map.1 h).imp fun hne e => hne (by rw [e])
theorem swap_inj {l : List (ByteArray × ByteArray)} (h : l.Nodup) : (l.map fun p => (p.2,p.1)).Nodup := by
 rw [List.nodup_iff_pairwise_ne] at *
 refine List.pairwise_map.2 (h.imp fun hne e => hne ?_)
 have := Prod.mk.inj e
 exact Prod.ext this.2 this.1
theorem both_nodup {w : World} {G : GS} (h : GRep w G) (turn : Bool) : ((G.st.both turn).map fun s => (s.a,s.b)).Nodup := by
 have hk := h.linksK_keys
 have hd : G.st.dir = G.dir := rfl
 cases hg : G.dir with
 | true =>
   rw [hg] at hk hd
   unfold linksK at hk
   rw [if_pos rfl,List.map_map] at hk
   cases turn
   · have e : (G.st.both false).map (fun s => (s.a,s.b)) = G.lks.map ((·.1) ∘ fun l => ((l.a,l.b),evL l)) := by
       unfold St.both
       rw [hd]
       simp only [GS.st,List.flatMap_map]
       simp [Lk.sl,Function.comp_def]
       induction G.lks with
       | nil => rfl
       | cons m ls ih => simp_all
     rw [e]
     exact hk
   · have e : (G.st.both true).map (fun s => (s.a,s.b)) = (G.lks.map ((·.1) ∘ fun l => ((l.a,l.b),evL l))).map fun p => (p.2,p.1) := by
       unfold St.both
       rw [hd]
       simp only [GS.st,List.flatMap_map]
       simp [Lk.sl,SL.turn,Function.comp_def]
       induction G.lks with
       | nil => rfl
       | cons m ls ih => simp_all
     rw [e]
     exact swap_inj hk
 | false =>
   rw [hg] at hk hd
   rw [both_low _ hd]
   unfold linksK at hk
   rw [if_neg (by simp)] at hk
   have e : (G.st.both false).map (fun s => (s.a,s.b)) = (G.lks.flatMap fun l => [((l.a,l.b),evL l),((l.b,l.a),evR l)]).map (·.1) := by
     unfold St.both
     rw [hd]
     simp only [GS.st,List.flatMap_map]
     clear hk
     induction G.lks with
     | nil => rfl
     | cons m ls ih => simp_all [Lk.sl,SL.turn]
   rw [e]
   exact hk
theorem told_links {w0 w w' : World} {G : GS} (hr : GRep w0 G) {turn : Bool} {B : Nat} {l : List (ByteArray × Nat)} {inn : Nat → Ents} (hA : AdjM w w' G turn B l inn) {D : List SL}
   (hK : (D.map fun s => (s.a,s.b)).Perm ((allK l inn).map (·.1))) (hD : ∀ d ∈ D,lkOf G turn d.a d.b = some d) : D.Perm (G.st.both turn) := by
 refine (List.perm_ext_iff_of_nodup (nodup_of_map ((hK.nodup_iff).2 (allK_keys hA.side))) (nodup_of_map (both_nodup hr turn))).2 fun s => ?_
 rw [both_iff hr]
 constructor
 · exact hD s
 · intro hs
   have h1 : (s.a,s.b) ∈ (allK l inn).map (·.1) := by
     unfold lkOf at hs
     obtain ⟨e,he,_⟩ := Option.map_eq_some_iff.1 hs
     have h2 := hA.at_ s.a s.b
     rw [he] at h2
     exact List.mem_map.2 ⟨_,(mem_allK hA.side s.a s.b _).2 h2,rfl⟩
   obtain ⟨d,hd,e⟩ := List.mem_map.1 ((hK.mem_iff).2 h1)
   have e' := Prod.mk.inj e
   have h3 := hD d hd
   rw [e'.1,e'.2,hs] at h3
   cases h3
   exact hd
theorem lt2_le_trans (a b c : ByteArray × ByteArray) (h : (!lt2 b a) = true) (g : (!lt2 c b) = true) : (!lt2 c a) = true := by
 simp only [Bool.not_eq_true'] at *
 exact (lt2_sto.swo id).ntrans c b a g h
theorem lt2_le_total (a b : ByteArray × ByteArray) : ((!lt2 b a) || (!lt2 a b)) = true := by
 cases h : lt2 b a with
 | false => rfl
 | true =>
   cases g : lt2 a b with
   | false => rfl
   | true =>
     have := lt2_sto.trans _ _ _ h g
     rw [lt2_sto.irrefl] at this
     cases this
theorem inj_of_map {α β : Type} {f : α → β} : ∀ {l : List α},(l.map f).Nodup → ∀ {a b : α},a ∈ l → b ∈ l → f a = f b → a = b
 | [],_,_,_,ha,_,_ => by cases ha
 | x :: l,hn,a,b,ha,hb,e => by
   simp only [List.map_cons,List.nodup_cons] at hn
   rcases List.mem_cons.1 ha with rfl|ha
   · rcases List.mem_cons.1 hb with rfl|hb
     · rfl
     · exact absurd (List.mem_map.2 ⟨b,hb,e.symm⟩) hn.1
   · rcases List.mem_cons.1 hb with eb|hb
     · exact absurd (show f x ∈ l.map f from List.mem_map.2 ⟨a,ha,e.trans (by rw [eb])⟩) hn.1
     · exact inj_of_map hn.2 ha hb e
theorem sorted_links {l m : List SL} (h : l.Perm m) (hs : l.Pairwise fun a b => ltL b a = false) (hn : (l.map fun s => (s.a,s.b)).Nodup) : l = sortL m := by
 have h2 : (m.mergeSort fun x y => !ltL y x).Perm l := (List.mergeSort_perm _ _).trans h.symm
 have s2 := List.pairwise_mergeSort (le := fun x y => !ltL y x) (fun a b c => lt2_le_trans _ _ _) (fun a b => lt2_le_total _ _) m
 refine List.Perm.eq_of_pairwise ?_ (hs.imp fun {a b} q => by simpa using q) s2 h2.symm
 intro a b ha hb h3 h4
 simp only [Bool.not_eq_true'] at h3 h4
 have e := lt2_sto.tri _ _ h4 h3
 have hb' := (h2.mem_iff).1 hb
 exact inj_of_map hn ha hb' e
end Go.Proofs.YtbafaadmlpamiaaGreatDoor
