/- doStep's contract: RemoveVertex, RemoveEdge, UpdateEdge. -/
import Derived.Test.YtbafaadmlpamiaaGreatDoorC1
import Derived.Test.YtbafaadmlpamiaaGreatDoorStepE
import Derived.Test.YtbafaadmlpamiaaGreatDoorR1
namespace Go.Proofs.YtbafaadmlpamiaaGreatDoor
open Go Go.Hy Go.RowKit
theorem touch_any (G : GS) (k : ByteArray) : (G.st.ls.any fun l => decide (l.a = k ∨ l.b = k)) = true ↔ Touch G k := by
 unfold Touch GS.st
 simp only [List.any_map,List.any_eq_true,Function.comp_def,decide_eq_true_eq]
 rfl
theorem st_rmV_none (G : GS) (a b : ByteArray) (wt : Int) (prs : List PP) (h : findP G.pts a = none) : G.st.rmV ⟨1,a,b,wt,prs⟩ = ({ err := 2 },G.st) := by
 unfold St.rmV
 rw [st_pt,h]
 rfl
theorem st_rmV_touch (G : GS) (a b : ByteArray) (wt : Int) (prs : List PP) (h : findP G.pts a ≠ none) (ht : Touch G a) : G.st.rmV ⟨1,a,b,wt,prs⟩ = ({ err := 3 },G.st) := by
 obtain ⟨p,hp⟩ := Option.ne_none_iff_exists'.1 h
 unfold St.rmV
 rw [st_pt,hp]
 simp only [Option.map_some]
 rw [if_pos ((touch_any G a).2 ht)]
theorem st_rmV_yes (G : GS) (a b : ByteArray) (wt : Int) (prs : List PP) (h : findP G.pts a ≠ none) (ht : ¬ Touch G a) (c' : St1) :
   G.st.rmV ⟨1,a,b,wt,prs⟩ = ({},({ G with c := c',pts := G.pts.filter fun p => decide (p.h ≠ a) } : GS).st) := by
 obtain ⟨p,hp⟩ := Option.ne_none_iff_exists'.1 h
 unfold St.rmV
 rw [st_pt,hp]
 simp only [Option.map_some]
 rw [if_neg (fun q => ht ((touch_any G a).1 q))]
 unfold GS.st
 simp only [List.filter_map]
 rfl
theorem st_rmE_none (G : GS) (a b : ByteArray) (wt : Int) (prs : List PP) (h : findL G.dir G.lks a b = none) : G.st.rmE ⟨3,a,b,wt,prs⟩ = ({ err := 5 },G.st) := by
 unfold St.rmE
 rw [st_lk,h]
 rfl
theorem st_rmE_yes (G : GS) (a b : ByteArray) (wt : Int) (prs : List PP) (h : findL G.dir G.lks a b ≠ none) (c' : St1) : G.st.rmE ⟨3,a,b,wt,prs⟩ = ({},({ G with c := c',lks := rmL G.dir G.lks a b } : GS).st) := by
 obtain ⟨l,hl⟩ := Option.ne_none_iff_exists'.1 h
 unfold St.rmE
 rw [st_lk,hl]
 unfold GS.st rmL
 simp only [Option.map_some,List.filter_map]
 rfl
theorem st_updE_none (G : GS) (a b : ByteArray) (wt : Int) (prs : List PP) (h : findL G.dir G.lks a b = none) : G.st.updE ⟨4,a,b,wt,prs⟩ = ({ err := 5 },G.st) := by
 unfold St.updE
 rw [st_lk,h]
 rfl
theorem st_updE_yes {w : World} {G : GS} (hr : GRep w G) (a b : ByteArray) (wt : Int) (prs : List PP) {l : Lk} (h : findL G.dir G.lks a b = some l) (c' : St1) :
   G.st.updE ⟨4,a,b,wt,prs⟩ = ({},({ G with c := c',lks := updL G.dir G.lks a b (wt,prs.foldl (fun es p => putA es p.1 p.2) l.es) } : GS).st) := by
 obtain ⟨lm,lh⟩ := findL_mem h
 unfold St.updE
 rw [st_lk,h]
 unfold GS.st updL
 simp only [Option.map_some,List.map_map]
 congr 2
 refine List.map_congr_left fun m hm => ?_
 simp only [Function.comp_def]
 have e : (Lk.sl m).hit G.dir a b = m.hit G.dir a b := rfl
 rw [e]
 by_cases hh : m.hit G.dir a b = true
 · rw [if_pos hh,if_pos hh]
   have em := uniq_hit hr.lnd hm lm hh lh
   subst em
   unfold Lk.sl
   simp only
   rw [← byK_puts (ats_nodup (hr.la m hm)) prs]
   rfl
 · rw [if_neg hh,if_neg hh]
theorem dstepC1 (B : Nat) (eb : Nat → Addr) (s : St) (d : DoIn) (hop : d.op = 1) (hd : s.dir = true) : StepC B eb s d := by
 intro w G b0 b1 b2 b3 b4 b5 hk ao n cap h hG HC E hB hp
 obtain ⟨op,a,b,wt,prs⟩ := d
 subst hop hG
 rw [val_dir (show G.dir = true from hd)]
 refine (stepEw w G h 162 1 b0 b1 b2 b3 b4 b5 hk a b wt ao n cap prs hp B eb E hB (fun c G' => ∃ n : Nat,c = n ∧ G.st.rmV ⟨1,a,b,wt,prs⟩ = ({ err := n },G'.st)) (.inl ⟨rfl,rfl,fun w' f => ?_⟩)).mono ?_
 · refine (dremv w' G (h.fr f (fun _ _ q => q) (fun q => q)) B eb (E.fr f (fun _ q => q.elim)) hB a).mono ?_
   rintro e w2 ⟨ev,h1,rfl,⟨h2,h3,g⟩|⟨h2,h3,h4,c',g⟩|⟨h2,h3,h4,c',g⟩⟩
   · exact ⟨ev,h1,rfl,G,⟨2,h3,st_rmV_none G a b wt prs h2⟩,g⟩
   · exact ⟨ev,h1,rfl, { G with c := c' },⟨3,h4,st_rmV_touch G a b wt prs h2 h3⟩,g⟩
   · exact ⟨ev,h1,rfl,_,⟨0,h4,st_rmV_yes G a b wt prs h2 h3 c'⟩,g⟩
 · rintro e w' ⟨c,G',rfl,⟨n,rfl,h1⟩,g⟩
   have e1 : G.st.step ⟨1,a,b,wt,prs⟩ = _ := h1
   rw [e1]
   exact ⟨_,G',rfl,toldE_at _ _ n,rfl,g⟩
theorem dstepC3 (B : Nat) (eb : Nat → Addr) (s : St) (d : DoIn) (hop : d.op = 3) (hd : s.dir = true) : StepC B eb s d := by
 intro w G b0 b1 b2 b3 b4 b5 hk ao n cap h hG HC E hB hp
 obtain ⟨op,a,b,wt,prs⟩ := d
 subst hop hG
 have hd' : G.dir = true := hd
 rw [val_dir hd']
 refine (stepEw w G h 162 3 b0 b1 b2 b3 b4 b5 hk a b wt ao n cap prs hp B eb E hB (fun c G' => ∃ n : Nat,c = n ∧ G.st.rmE ⟨3,a,b,wt,prs⟩ = ({ err := n },G'.st)) (.inr (.inr (.inl ⟨rfl,rfl,fun w' f => ?_⟩)))).mono ?_
 · refine (dreme w' G (h.fr f (fun _ _ q => q) (fun q => q)) hd' B eb (E.fr f (fun _ q => q.elim)) a b).mono ?_
   rintro e w2 ⟨ev,h1,rfl,⟨h2,h3,g⟩|⟨h2,h3,c',g⟩⟩
   · exact ⟨ev,h1,rfl,G,⟨5,h3,st_rmE_none G a b wt prs h2⟩,g⟩
   · exact ⟨ev,h1,rfl,_,⟨0,h3,st_rmE_yes G a b wt prs h2 c'⟩,g⟩
 · rintro e w' ⟨c,G',rfl,⟨n,rfl,h1⟩,g⟩
   have e1 : G.st.step ⟨3,a,b,wt,prs⟩ = _ := h1
   rw [e1]
   exact ⟨_,G',rfl,toldE_at _ _ n,rfl,g⟩
theorem dstepC4 (B : Nat) (eb : Nat → Addr) (s : St) (d : DoIn) (hop : d.op = 4) (hd : s.dir = true) : StepC B eb s d := by
 intro w G b0 b1 b2 b3 b4 b5 hk ao n cap h hG HC E hB hp
 obtain ⟨op,a,b,wt,prs⟩ := d
 subst hop hG
 have hd' : G.dir = true := hd
 rw [val_dir hd']
 refine (stepEw w G h 162 4 b0 b1 b2 b3 b4 b5 hk a b wt ao n cap prs hp B eb E hB (fun c G' => ∃ n : Nat,c = n ∧ G.st.updE ⟨4,a,b,wt,prs⟩ = ({ err := n },G'.st)) (.inr (.inr (.inr (.inr (.inl ⟨rfl,rfl,fun w' f ov os ho hos => ?_⟩)))))).mono ?_
 · have hr := h.fr f (fun _ _ q => q) (fun q => q)
   cases hl : findL G.dir G.lks a b with
   | none =>
     refine (dupd_no w' G hr B eb (E.fr f (fun _ q => q.elim)) a b ov os hl).mono ?_
     rintro e w2 ⟨ev,h1,rfl,⟨h2,h3,g⟩|⟨l,h2,h3,c',g⟩⟩
     · exact ⟨ev,h1,rfl,G,⟨5,h3,st_updE_none G a b wt prs h2⟩,g⟩
     · rw [hl] at h2;cases h2
   | some l =>
     refine (dupd_yes w' G hr hd' eb a b ov os ho l hl).mono ?_
     rintro e w2 ⟨ev,h1,rfl,⟨h2,h3,g⟩|⟨l',h2,h3,c',g⟩⟩
     · rw [hl] at h2;cases h2
     · rw [hos] at g
       exact ⟨ev,h1,rfl,_,⟨0,h3,st_updE_yes h a b wt prs h2 c'⟩,g⟩
 · rintro e w' ⟨c,G',rfl,⟨n,rfl,h1⟩,g⟩
   have e1 : G.st.step ⟨4,a,b,wt,prs⟩ = _ := h1
   rw [e1]
   exact ⟨_,G',rfl,toldE_at _ _ n,rfl,g⟩
theorem ustepC1 (B : Nat) (eb : Nat → Addr) (s : St) (d : DoIn) (hop : d.op = 1) (hd : s.dir = false) : StepC B eb s d := by
 intro w G b0 b1 b2 b3 b4 b5 hk ao n cap h hG HC E hB hp
 obtain ⟨op,a,b,wt,prs⟩ := d
 subst hop hG
 rw [val_undir (show G.dir = false from hd)]
 refine (stepEw w G h 164 1 b0 b1 b2 b3 b4 b5 hk a b wt ao n cap prs hp B eb E hB (fun c G' => ∃ n : Nat,c = n ∧ G.st.rmV ⟨1,a,b,wt,prs⟩ = ({ err := n },G'.st)) (.inr (.inl ⟨rfl,rfl,fun w' f => ?_⟩))).mono ?_
 · refine (uremv w' G (h.fr f (fun _ _ q => q) (fun q => q)) B eb (E.fr f (fun _ q => q.elim)) hB a).mono ?_
   rintro e w2 ⟨ev,h1,rfl,⟨h2,h3,g⟩|⟨h2,h3,h4,c',g⟩|⟨h2,h3,h4,c',g⟩⟩
   · exact ⟨ev,h1,rfl,G,⟨2,h3,st_rmV_none G a b wt prs h2⟩,g⟩
   · exact ⟨ev,h1,rfl, { G with c := c' },⟨3,h4,st_rmV_touch G a b wt prs h2 h3⟩,g⟩
   · exact ⟨ev,h1,rfl,_,⟨0,h4,st_rmV_yes G a b wt prs h2 h3 c'⟩,g⟩
 · rintro e w' ⟨c,G',rfl,⟨n,rfl,h1⟩,g⟩
   have e1 : G.st.step ⟨1,a,b,wt,prs⟩ = _ := h1
   rw [e1]
   exact ⟨_,G',rfl,toldE_at _ _ n,rfl,g⟩
theorem ustepC3 (B : Nat) (eb : Nat → Addr) (s : St) (d : DoIn) (hop : d.op = 3) (hd : s.dir = false) : StepC B eb s d := by
 intro w G b0 b1 b2 b3 b4 b5 hk ao n cap h hG HC E hB hp
 obtain ⟨op,a,b,wt,prs⟩ := d
 subst hop hG
 have hd' : G.dir = false := hd
 rw [val_undir hd']
 refine (stepEw w G h 164 3 b0 b1 b2 b3 b4 b5 hk a b wt ao n cap prs hp B eb E hB (fun c G' => ∃ n : Nat,c = n ∧ G.st.rmE ⟨3,a,b,wt,prs⟩ = ({ err := n },G'.st)) (.inr (.inr (.inr (.inl ⟨rfl,rfl,fun w' f => ?_⟩))))).mono ?_
 · refine (ureme w' G (h.fr f (fun _ _ q => q) (fun q => q)) hd' B eb (E.fr f (fun _ q => q.elim)) a b).mono ?_
   rintro e w2 ⟨ev,h1,rfl,⟨h2,h3,g⟩|⟨h2,h3,c',g⟩⟩
   · exact ⟨ev,h1,rfl,G,⟨5,h3,st_rmE_none G a b wt prs h2⟩,g⟩
   · exact ⟨ev,h1,rfl,_,⟨0,h3,st_rmE_yes G a b wt prs h2 c'⟩,g⟩
 · rintro e w' ⟨c,G',rfl,⟨n,rfl,h1⟩,g⟩
   have e1 : G.st.step ⟨3,a,b,wt,prs⟩ = _ := h1
   rw [e1]
   exact ⟨_,G',rfl,toldE_at _ _ n,rfl,g⟩
theorem ustepC4 (B : Nat) (eb : Nat → Addr) (s : St) (d : DoIn) (hop : d.op = 4) (hd : s.dir = false) : StepC B eb s d := by
 intro w G b0 b1 b2 b3 b4 b5 hk ao n cap h hG HC E hB hp
 obtain ⟨op,a,b,wt,prs⟩ := d
 subst hop hG
 have hd' : G.dir = false := hd
 rw [val_undir hd']
 refine (stepEw w G h 164 4 b0 b1 b2 b3 b4 b5 hk a b wt ao n cap prs hp B eb E hB (fun c G' => ∃ n : Nat,c = n ∧ G.st.updE ⟨4,a,b,wt,prs⟩ = ({ err := n },G'.st)) (.inr (.inr (.inr (.inr (.inr (.inl ⟨rfl,rfl,fun w' f ov os ho hos => ?_⟩))))))).mono ?_
 · have hr := h.fr f (fun _ _ q => q) (fun q => q)
   cases hl : findL G.dir G.lks a b with
   | none =>
     refine (uupd_no w' G hr B eb (E.fr f (fun _ q => q.elim)) a b ov os hl).mono ?_
     rintro e w2 ⟨ev,h1,rfl,⟨h2,h3,g⟩|⟨l,h2,h3,c',g⟩⟩
     · exact ⟨ev,h1,rfl,G,⟨5,h3,st_updE_none G a b wt prs h2⟩,g⟩
     · rw [hl] at h2;cases h2
   | some l =>
     refine (uupd_yes w' G hr hd' eb a b ov os ho l hl).mono ?_
     rintro e w2 ⟨ev,h1,rfl,⟨h2,h3,g⟩|⟨l',h2,h3,c',g⟩⟩
     · rw [hl] at h2;cases h2
     · rw [hos] at g
       exact ⟨ev,h1,rfl,_,⟨0,h3,st_updE_yes h a b wt prs h2 c'⟩,g⟩
 · rintro e w' ⟨c,G',rfl,⟨n,rfl,h1⟩,g⟩
   have e1 : G.st.step ⟨4,a,b,wt,prs⟩ = _ := h1
   rw [e1]
   exact ⟨_,G',rfl,toldE_at _ _ n,rfl,g⟩
end Go.Proofs.YtbafaadmlpamiaaGreatDoor
