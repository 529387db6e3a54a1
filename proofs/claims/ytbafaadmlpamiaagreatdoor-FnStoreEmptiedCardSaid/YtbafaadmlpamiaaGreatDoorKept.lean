/- The edges that Edges tells, each once; plain. -/
import Derived.Test.YtbafaadmlpamiaaGreatDoorBoth
namespace Go.Proofs.YtbafaadmlpamiaaGreatDoor
open Go Go.Hy Go.RowKit
open Classical in
noncomputable def keepE (out : List KV) (r : KV) : List KV := if (r.1.2,r.1.1) ∈ out.map (·.1) then out else out ++ [r]
theorem keepE_sub (out : List KV) (r : KV) : (keepE out r).Sublist (out ++ [r]) := by
 unfold keepE
 split
 · exact List.sublist_append_left _ _
 · exact List.Sublist.refl _
theorem fold_sub : ∀ (rs out : List KV),(rs.foldl keepE out).Sublist (out ++ rs)
 | [],out => by simp
 | r :: rs,out => by
   have h := fold_sub rs (keepE out r)
   have h3 := (keepE_sub out r).append_right rs
   exact h.trans (by simpa using h3)
theorem fold_mono : ∀ (rs out : List KV) (x : KV),x ∈ out → x ∈ rs.foldl keepE out
 | [],_,_,h => h
 | r :: rs,out,x,h => fold_mono rs (keepE out r) x (by unfold keepE;split;exact h;exact List.mem_append_left _ h)
theorem fold_has : ∀ (rs out : List KV) (r : KV),r ∈ rs → r ∈ rs.foldl keepE out ∨ (r.1.2,r.1.1) ∈ (rs.foldl keepE out).map (·.1)
 | [],_,_,h => by cases h
 | x :: rs,out,r,h => by
   rcases List.mem_cons.1 h with rfl|h
   · rw [List.foldl_cons]
     by_cases hm : (r.1.2,r.1.1) ∈ out.map (·.1)
     · obtain ⟨y,hy,e⟩ := List.mem_map.1 hm
       exact .inr (List.mem_map.2 ⟨y,fold_mono rs _ y (by unfold keepE;rw [if_pos hm];exact hy),e⟩)
     · exact .inl (fold_mono rs _ r (by unfold keepE;rw [if_neg hm];simp))
   · exact fold_has rs (keepE out x) r h
def NoSwap (out : List KV) : Prop := ∀ x ∈ out, ∀ y ∈ out,y.1 ≠ (x.1.2,x.1.1)
theorem fold_noswap : ∀ (rs out : List KV),(∀ r ∈ rs,r.1.1 ≠ r.1.2) → NoSwap out → NoSwap (rs.foldl keepE out)
 | [],_,_,h => h
 | r :: rs,out,hr,h => by
   refine fold_noswap rs (keepE out r) (fun x hx => hr x (List.mem_cons_of_mem _ hx)) ?_
   unfold keepE
   split
   · exact h
   · rename_i hm
     have hl := hr r (by simp)
     intro x hx y hy e
     simp only [List.mem_append,List.mem_singleton] at hx hy
     rcases hx with hx|rfl <;> rcases hy with hy|rfl
     · exact h x hx y hy e
     · exact hm (List.mem_map.2 ⟨x,hx,by rw [e]⟩)
     · exact hm (List.mem_map.2 ⟨y,hy,e⟩)
     · exact hl (by rw [Prod.ext_iff] at e;exact e.1)
theorem low_turn (s : SL) : SL.low false s.turn = SL.low false s := by
 obtain ⟨a,b,wt,es⟩ := s
 unfold SL.low SL.turn
 simp only [Bool.not_false,Bool.true_and]
 by_cases h1 : ltB b a = true
 · rw [h1,ltB_asymm h1]
   simp
 · by_cases h2 : ltB a b = true
   · simp [h1,h2]
   · have e := ltB_tri (by simpa using h1) (by simpa using h2)
     subst e
     simp
def lowL (dir : Bool) (l : Lk) : ByteArray × ByteArray := ((SL.low dir (Lk.sl l)).a,(SL.low dir (Lk.sl l)).b)
theorem lowL_cases (dir : Bool) (l : Lk) : lowL dir l = (l.a,l.b) ∨ (dir = false ∧ lowL dir l = (l.b,l.a)) := by
 unfold lowL SL.low
 split
 · rename_i h
   simp only [Bool.and_eq_true,Bool.not_eq_true'] at h
   exact .inr ⟨h.1,rfl⟩
 · exact .inl rfl
theorem low_keys {w : World} {G : GS} (h : GRep w G) : (G.lks.map (lowL G.dir)).Nodup := by
 rw [List.nodup_iff_pairwise_ne]
 refine List.pairwise_map.2 (h.lnd.imp fun {l m} hh e => ?_)
 have key : m.hit G.dir l.a l.b = true := by
   unfold Lk.hit
   rcases lowL_cases G.dir l with e1|⟨d1,e1⟩ <;> rcases lowL_cases G.dir m with e2|⟨d2,e2⟩ <;> rw [e1,e2,Prod.mk.injEq] at e
   · simp [e.1,e.2]
   · simp [e.1,e.2,d2]
   · simp [e.1,e.2,d1]
   · simp [e.1,e.2]
 rw [key] at hh
 cases hh
theorem low_nodup {w : World} {G : GS} (h : GRep w G) : ((G.st.ls.map (SL.low G.dir)).map fun s => (s.a,s.b)).Nodup := by
 have := low_keys h
 unfold GS.st
 rw [List.map_map,List.map_map]
 exact this
def edOf (G : GS) (r : KV) : SL := ((lkOf G false r.1.1 r.1.2).getD ⟨r.1.1,r.1.2,0,[]⟩).low G.dir
theorem edOf_eq {G : GS} {r : KV} {e : Lk} (hf : findL G.dir G.lks r.1.1 r.1.2 = some e) : edOf G r = SL.low G.dir ⟨r.1.1,r.1.2,e.wt,byK e.es⟩ := by
 unfold edOf lkOf
 simp [hf]
theorem edOf_sl {G : GS} {r : KV} {e : Lk} (hf : findL G.dir G.lks r.1.1 r.1.2 = some e) : edOf G r = SL.low G.dir (Lk.sl e) := by
 rw [edOf_eq hf]
 rcases hit_cases (findL_mem hf).2 with ⟨e1,e2⟩|⟨hd,e1,e2⟩
 · rw [← e1, ← e2];rfl
 · rw [hd, ← e1, ← e2]
   exact low_turn (Lk.sl e)
theorem links_find {w : World} {G : GS} (h : GRep w G) {r : KV} (hr : r ∈ linksK G.dir G.lks) : ∃ e ∈ G.lks,findL G.dir G.lks r.1.1 r.1.2 = some e ∧ r.2 = ev r.1.1 r.1.2 e.at_ e.wt := by
 obtain ⟨⟨x,y⟩,v⟩ := r
 obtain ⟨e,he,hv⟩ := Option.map_eq_some_iff.1 ((h.mem_linksK x y v).1 hr)
 exact ⟨e,(findL_mem he).1,he,hv.symm⟩
theorem kept_perm {w : World} {G : GS} (h : GRep w G) (hd : G.dir = false) {rs : List KV} (hp : rs.Perm (linksK G.dir G.lks)) : ((rs.foldl keepE []).map (edOf G)).Perm (G.st.ls.map (SL.low G.dir)) := by
 have hsub : (rs.foldl keepE []).Sublist rs := by simpa using fold_sub rs []
 have hmem : ∀ r ∈ rs.foldl keepE [],r ∈ linksK G.dir G.lks := fun r hr => hp.subset (hsub.subset hr)
 have hkn : (rs.map (·.1)).Nodup := (hp.map _).nodup_iff.2 h.linksK_keys
 have hloop : ∀ r ∈ rs,r.1.1 ≠ r.1.2 := fun r hr q => by
   obtain ⟨e,he,hf,_⟩ := links_find h (hp.subset hr)
   have hne := h.loop hd e he
   rcases hit_cases (findL_mem hf).2 with ⟨e1,e2⟩|⟨_,e1,e2⟩
   · exact hne (by rw [e1,e2,q])
   · exact hne (by rw [e1,e2,q])
 have hns := fold_noswap rs [] hloop (fun x hx => by cases hx)
 have hkk : ((rs.foldl keepE []).map (·.1)).Nodup := (hsub.map _).nodup hkn
 have hlow := low_keys h
 refine (List.perm_ext_iff_of_nodup ?_ (nodup_of_map (low_nodup h))).2 fun s => ?_
 · rw [List.nodup_iff_pairwise_ne] at hkk ⊢
   refine List.pairwise_map.2 ((List.pairwise_map.1 hkk).imp_of_mem fun {r r'} hr hr' hne e => ?_)
   obtain ⟨l,hl,hf,_⟩ := links_find h (hmem r hr)
   obtain ⟨l',hl',hf',_⟩ := links_find h (hmem r' hr')
   rw [edOf_sl hf,edOf_sl hf'] at e
   have el : l = l' := inj_of_map hlow hl hl' (by unfold lowL;rw [e])
   subst el
   have c := hit_cases (findL_mem hf).2
   have c' := hit_cases (findL_mem hf').2
   have key : r.1 = r'.1 ∨ r'.1 = (r.1.2,r.1.1) := by
     obtain ⟨⟨x,y⟩,v⟩ := r
     obtain ⟨⟨x',y'⟩,v'⟩ := r'
     simp only at c c' ⊢
     rcases c with ⟨a1,a2⟩|⟨_,a1,a2⟩ <;> rcases c' with ⟨b1,b2⟩|⟨_,b1,b2⟩
     · exact .inl (by rw [← a1, ← a2, ← b1, ← b2])
     · exact .inr (by rw [← a1, ← a2, ← b1, ← b2])
     · exact .inr (by rw [← a1, ← a2, ← b1, ← b2])
     · exact .inl (by rw [← a1, ← a2, ← b1, ← b2])
   rcases key with k|k
   · exact hne k
   · exact hns r hr r' hr' k
 · constructor
   · intro hs
     obtain ⟨r,hr,rfl⟩ := List.mem_map.1 hs
     obtain ⟨l,hl,hf,_⟩ := links_find h (hmem r hr)
     rw [edOf_sl hf]
     exact List.mem_map.2 ⟨_,List.mem_map.2 ⟨l,hl,rfl⟩,rfl⟩
   · intro hs
     obtain ⟨_,hq,rfl⟩ := List.mem_map.1 hs
     obtain ⟨l,hl,rfl⟩ := List.mem_map.1 hq
     have hf := findL_of_mem h.lnd hl
     have h0 : ((l.a,l.b),ev l.a l.b l.at_ l.wt) ∈ rs := hp.symm.subset ((h.mem_linksK _ _ _).2 (by rw [hf];rfl))
     rcases fold_has rs [] _ h0 with g|g
     · exact List.mem_map.2 ⟨_,g,edOf_sl hf⟩
     · obtain ⟨r,hr,e⟩ := List.mem_map.1 g
       refine List.mem_map.2 ⟨r,hr,edOf_sl ?_⟩
       rw [e]
       rw [hd] at hf ⊢
       exact (findL_swap _ _ _).trans hf
theorem dir_perm {w : World} {G : GS} (h : GRep w G) (hd : G.dir = true) {rs : List KV} (hp : rs.Perm (linksK G.dir G.lks)) : (rs.map (edOf G)).Perm (G.st.ls.map (SL.low G.dir)) := by
 refine (hp.map (edOf G)).trans (List.Perm.of_eq ?_)
 unfold GS.st linksK
 rw [if_pos hd,List.map_map,List.map_map]
 refine List.map_congr_left fun l hl => ?_
 exact edOf_sl (r := ((l.a,l.b),evL l)) (findL_of_mem h.lnd hl)
structure EdgM (w w' : World) (G : GS) (v : Value) (rs : List KV) : Prop where
 row : w'.ownsRow w.heap.size 144 5 v rs.length (eCells (rs.map (·.2)))
 perm : (rs.map (edOf G)).Perm (G.st.ls.map (SL.low G.dir))
 sub : ∀ r ∈ rs,r ∈ linksK G.dir G.lks
 fr : Fr0 w w'
end Go.Proofs.YtbafaadmlpamiaaGreatDoor
