import Derived.Test.YtbafaadmlpamiaaGreatDoorM1
import Derived.Test.YtbafaadmlpamiaaGreatDoorT4
import Derived.Test.YtbafaadmlpamiaaGreatDoorA8
import Derived.Test.YtbafaadmlpamiaaGreatDoorA5
set_option maxRecDepth 100000
set_option maxHeartbeats 1000000
namespace Go.Proofs.YtbafaadmlpamiaaGreatDoor
open Go Go.Hy Go.RowKit
structure Eqv (s s':St):Prop where
 dir:s'.dir=s.dir
 pr:s'.pr=s.pr
 hk:s'.hk=s.hk
 ps:s'.ps.Perm s.ps
 ls:(s'.ls.map (SL.low s.dir)).Perm (s.ls.map (SL.low s.dir))
theorem low_hit (dir:Bool) (l:SL) (a b:ByteArray):(SL.low dir l).hit dir a b=l.hit dir a b:=by
 rcases low_cases dir l with e|⟨rfl,e⟩ <;> rw [e]
 simp only [SL.hit,SL.turn,Bool.not_false,Bool.true_and]
 rw [Bool.or_comm]
 congr 1 <;> (apply decide_eq_decide.2;exact And.comm)
theorem low_touch (dir:Bool) (l:SL) (x:ByteArray):decide ((SL.low dir l).a=x∨(SL.low dir l).b=x)=decide (l.a=x∨l.b=x):=by
 rcases low_cases dir l with e|⟨rfl,e⟩ <;> rw [e]
 exact decide_eq_decide.2 Or.comm
theorem find_perm {α:Type} {p:α→Bool} {l m:List α} (h:l.Perm m) (o:∀ x∈m, ∀ y∈m,p x=true→p y=true→x=y):l.find? p=m.find? p:=by
 cases e:m.find? p with
 | none=>exact List.find?_eq_none.2 fun x hx=>List.find?_eq_none.1 e x (h.subset hx)
 | some y =>
   have hy:=List.mem_of_find?_eq_some e
   have py:=List.find?_some e
   cases f:l.find? p with
   | none=>exact absurd py (List.find?_eq_none.1 f y (h.symm.subset hy))
   | some x=>rw [o x (h.subset (List.mem_of_find?_eq_some f)) y hy (List.find?_some f) py]
theorem Wf.inj {s:St} (h:Wf s) {x y:SP} (hx:x∈s.ps) (hy:y∈s.ps) (e:x.h=y.h):x=y:=by
 have key:∀ l:List SP,l.Pairwise (fun x y=>x.h≠y.h)→x∈l→y∈l→x=y:=by
   intro l
   induction l with
   | nil=>intro _ hx;cases hx
   | cons z l ih =>
     intro hp hx hy
     have hp:=List.pairwise_cons.1 hp
     rcases List.mem_cons.1 hx with h1|h1 <;> rcases List.mem_cons.1 hy with h2|h2
     · exact h1.trans h2.symm
     · subst h1;exact absurd e (hp.1 _ h2)
     · subst h2;exact absurd e.symm (hp.1 _ h1)
     · exact ih hp.2 h1 h2
 exact key _ h.nd hx hy
theorem Eqv.pt {s s':St} (h:Eqv s s') (hw:Wf s) (x:ByteArray):s'.pt x=s.pt x :=
 find_perm h.ps fun _ h1 _ h2 e1 e2=>hw.inj h1 h2 ((of_decide_eq_true e1).trans (of_decide_eq_true e2).symm)
theorem any_low {dir:Bool} {l m:List SL} {p:SL→Bool} (h:(l.map (SL.low dir)).Perm (m.map (SL.low dir))) (hp:∀ x,p (SL.low dir x)=p x):l.any p=m.any p:=by
 have e:∀ l:List SL,l.any p=(l.map (SL.low dir)).any p:=fun l=>by
   rw [List.any_map]
   exact congrArg (fun q=>l.any q) (funext fun x=>(hp x).symm)
 rw [e l,e m]
 exact h.any_eq
theorem filter_low {dir:Bool} {l m:List SL} {p:SL→Bool} (h:(l.map (SL.low dir)).Perm (m.map (SL.low dir))) (hp:∀ x,p (SL.low dir x)=p x):((l.filter p).map (SL.low dir)).Perm ((m.filter p).map (SL.low dir)):=by
 have e:∀ l:List SL,(l.filter p).map (SL.low dir)=(l.map (SL.low dir)).filter p:=fun l=>by
   rw [List.filter_map]
   exact congrArg (fun q=>(l.filter q).map (SL.low dir)) (funext fun x=>(hp x).symm)
 rw [e l,e m]
 exact h.filter p
theorem lk_any (s:St) (a b:ByteArray):(s.lk a b).isSome=s.ls.any fun l=>l.hit s.dir a b:=by
 unfold St.lk
 rw [List.isSome_find?]
theorem Eqv.lk {s s':St} (h:Eqv s s') (a b:ByteArray):(s'.lk a b).isSome=(s.lk a b).isSome:=by
 rw [lk_any,lk_any,h.dir]
 exact any_low h.ls fun x=>low_hit _ _ _ _
theorem opt_none {α:Type} {o:Option α} (h:o.isSome=false):o=none:=by cases o <;> simp_all
theorem Eqv.step {s s':St} (h:Eqv s s') (hw:Wf s) (hp:s.pr=false) (d:DoIn) (ho:d.op≠4):Eqv (s.step d).2 (s'.step d).2:=by
 unfold St.step
 split
 · unfold St.addV
   rw [h.pt hw,h.hk]
   split
   · exact h
   · exact ⟨h.dir,h.pr,rfl,h.ps.append_right _,h.ls⟩
 · unfold St.rmV
   rw [h.pt hw,any_low h.ls (fun x=>low_touch s.dir x d.a)]
   split
   · exact h
   · split
     · exact h
     · exact ⟨h.dir,h.pr,h.hk,h.ps.filter _,h.ls⟩
 · unfold St.addE
   rw [h.pt hw,h.pt hw]
   split
   · have hl:=h.lk d.a d.b
     cases e:s.lk d.a d.b with
     | some l =>
       rw [e] at hl
       cases e':s'.lk d.a d.b with
       | none=>rw [e'] at hl;cases hl
       | some l'=>exact h
     | none =>
       rw [e] at hl
       rw [opt_none hl]
       have n1:¬ (s.pr=true∧Reach s.ls d.b d.a):=fun q=>by rw [hp] at q;cases q.1
       have n2:¬ (s'.pr=true∧Reach s'.ls d.b d.a):=fun q=>by rw [h.pr,hp] at q;cases q.1
       simp only [n1,n2,if_false]
       refine ⟨h.dir,h.pr,h.hk,h.ps,?_⟩
       show ((s'.ls ++ [_]).map (SL.low s.dir)).Perm ((s.ls ++ [_]).map (SL.low s.dir))
       rw [List.map_append,List.map_append]
       exact h.ls.append_right _
   · exact h
 · unfold St.rmE
   have hl:=h.lk d.a d.b
   cases e:s.lk d.a d.b with
   | some l =>
     rw [e] at hl
     cases e':s'.lk d.a d.b with
     | none=>rw [e'] at hl;cases hl
     | some l' =>
       refine ⟨h.dir,h.pr,h.hk,h.ps,?_⟩
       show ((s'.ls.filter fun l => !l.hit s'.dir d.a d.b).map (SL.low s.dir)).Perm ((s.ls.filter fun l => !l.hit s.dir d.a d.b).map (SL.low s.dir))
       rw [h.dir]
       exact filter_low h.ls fun x=>by rw [low_hit]
   | none =>
     rw [e] at hl
     rw [opt_none hl]
     exact h
 · rename_i e;exact absurd e ho
 all_goals exact h
theorem Eqv.after {s s':St} (h:Eqv s s') (hw:Wf s) (hp:s.pr=false) (ds:List DoIn) (ho:∀ d∈ds,d.op≠4):Eqv (s.after ds) (s'.after ds):=by
 induction ds generalizing s s' with
 | nil=>exact h
 | cons d ds ih =>
   unfold St.after
   exact ih (h.step hw hp d (ho d (by simp))) (hw.step d) ((s.step_same d).2.1.trans hp) fun x hx=>ho x (by simp [hx])
theorem Eqv.told5 {s s':St} (h:Eqv s s') (hw:Wf s) (a:ByteArray):(s'.step ⟨5,a,⟨#[]⟩,0,[]⟩).1=(s.step ⟨5,a,⟨#[]⟩,0,[]⟩).1:=by
 show s'.vtx _=s.vtx _
 unfold St.vtx
 rw [h.pt hw]
theorem sortL_pair (l:List SL):(sortL l).Pairwise fun a b=>ltL b a=false:=by
 refine (List.pairwise_mergeSort (le:=fun x y => !ltL y x) ?_ ?_ l).imp fun h=>by simpa using h
 · intro a b c h1 h2
   simp only [Bool.not_eq_true'] at h1 h2 ⊢
   exact ltL_ntr a b c h1 h2
 · intro a b
   cases e:ltL b a with
   | false=>rfl
   | true=>rw [ltL_asym _ _ e];rfl
theorem flat_low {dir:Bool} {l m:List SL} (h:(l.map (SL.low dir)).Perm (m.map (SL.low dir))) (g:SL→List SL) (hg:∀ x,(g (SL.low dir x)).Perm (g x)):(l.flatMap g).Perm (m.flatMap g):=by
 have e:∀ l:List SL,((l.map (SL.low dir)).flatMap g).Perm (l.flatMap g):=by
   intro l
   induction l with
   | nil=>exact List.Perm.refl _
   | cons x l ih=>simpa only [List.map_cons,List.flatMap_cons] using (hg x).append ih
 exact (e l).symm.trans ((h.flatMap_right g).trans (e m))
theorem Eqv.told9 {s s':St} (h:Eqv s s') (hw:Wf s) (hl:NoLoop s):(s'.step ⟨9,⟨#[]⟩,⟨#[]⟩,0,[]⟩).1=(s.step ⟨9,⟨#[]⟩,⟨#[]⟩,0,[]⟩).1:=by
 show ({ keys:=sortK s'.keys,links:=sortL (s'.both false) }:Tl)={ keys:=sortK s.keys,links:=sortL (s.both false) }
 have h1:sortK s'.keys=sortK s.keys:=sortK_perm (h.ps.map _)
 have h2:sortL (s'.both false)=sortL (s.both false):=by
   have hp:(s'.both false).Perm (s.both false):=by
     unfold St.both
     rw [h.dir]
     refine flat_low h.ls _ fun x => ?_
     rcases low_cases s.dir x with e|⟨d,e⟩
     · rw [e]
     · rw [e,d]
       obtain ⟨a,b,wt,es⟩:=x
       exact List.Perm.swap _ _ _
   refine sorted_links ((sortL_permS _).trans hp) (sortL_pair _) ?_
   exact (((sortL_permS (s'.both false)).trans hp).map _).nodup_iff.2 (both_keys hw hl false)
 rw [h1,h2]
theorem putA_new {l:List PP} {k v:ByteArray} (h:k∉l.map (·.1)):putA l k v=l ++ [(k,v)]:=by
 induction l with
 | nil=>rfl
 | cons p l ih =>
   simp only [List.map_cons,List.mem_cons,not_or] at h
   unfold putA
   rw [if_neg (fun e=>h.1 e.symm),ih h.2]
   rfl
def CPL (w0:World) (mb sm r:Nat) (es:List PP) (k:Nat) (wr:World):Prop :=
 ∃ (done:List PP) (rem:Ents),rem.length=k∧(done ++ rem.map fun p=>(p.1,sv p.2)).Perm es∧SM wr mb (ats done)∧IT wr r sm rem∧Fr (· = mb) w0 wr∧∀ p∈rem, ∃ s,p.2=.string s
theorem CPL.start {w0 w2:World} {mb sm r:Nat} {es:List PP} (hm:SM w2 mb (ats [])) (hi:IT w2 r sm (ats es)) (f:Fr0 w0 w2):CPL w0 mb sm r es es.length w2 :=
 ⟨[],ats es,by simp [ats],by rw [List.nil_append,ats_sv],hm,hi,f.mono fun _ q=>q.elim,fun p hp=>by
   obtain ⟨q,_,rfl⟩:=List.mem_map.1 hp
   exact ⟨q.2,rfl⟩⟩
theorem CPL.step {w0 wr w3 w4:World} {mb sm r k:Nat} {es done:List PP} {rem l1 l2:Ents} {key s:ByteArray} (nd:(es.map (·.1)).Nodup) (hms:mb≠sm) (hmr:mb≠r) (hr:w0.heap.size≤r)
   (hk:rem.length=k) (hp:(done ++ rem.map fun p=>(p.1,sv p.2)).Perm es) (f:Fr (· = mb) w0 wr) (hs:∀ p∈rem, ∃ s,p.2=.string s) (e:rem=l1 ++ (key,.string s) :: l2) (hit3:IT w3 r sm (l1 ++ l2)) (hu:Upd r wr w3)
   (hm4:SM w4 mb (putS (ats done) key (.string s))) (f4:Fr (· = mb) w3 w4):∃ k',k' < k∧CPL w0 mb sm r es k' w4:=by
 subst e
 have hp2:((done ++ [(key,s)]) ++ (l1 ++ l2).map fun p=>(p.1,sv p.2)).Perm es:=by
   refine List.Perm.trans ?_ hp
   simp only [List.map_append,List.map_cons,List.append_assoc,List.singleton_append]
   exact List.Perm.append_left done List.perm_middle.symm
 have hnk:key∉done.map (·.1):=by
   have h1:=((hp2.map (·.1)).nodup_iff.2 nd)
   simp only [List.map_append,List.map_cons,List.map_nil,List.append_assoc] at h1
   have h2:=(List.nodup_append.1 h1).2.2
   intro q
   exact h2 key q key (by simp) rfl
 refine ⟨(l1 ++ l2).length,by rw [← hk];simp,done ++ [(key,s)],l1 ++ l2,rfl,hp2,?_,hit3.fr f4 (fun q=>hms q.symm) (fun q=>hmr q.symm),(f.trans (Fr.of_upd hu) fun q hq=>.inr (by rw [hq];exact hr)).trans f4 fun q hq=>.inl hq,?_⟩
 · rw [← ats_put,putA_new hnk] at hm4
   exact hm4
 · intro p hp
   refine hs p ?_
   simp only [List.mem_append,List.mem_cons] at hp ⊢
   rcases hp with q|q
   · exact .inl q
   · exact .inr (.inr q)
theorem cpv (w:World) (sm:Nat) (wt:Int):Calls Tryz.prog 194 #[pv sm wt] w fun e w'=>e=.returned (.func (Fn.func 197) #[] #[.pointer (some ⟨w.heap.size,0,none⟩)])∧w'=w.alloc (.cells #[.map (some sm),.int .i64 wt] 137):=by
 unfold pv
 go_enter Tryz.func194,Tryz.ntmps194
 go_wp2_with fail
 go_ret
 exact ⟨rfl,rfl⟩
theorem cpe (w:World) (a b:ByteArray) (sm:Nat) (wt:Int):Calls Tryz.prog 193 #[ev a b sm wt] w fun e w' =>
   e=.returned (.tuple #[.string a,.string b,.func (Fn.func 196) #[] #[.pointer (some ⟨w.heap.size,0,none⟩)]])∧Fr0 w w'∧Cells w' w.heap.size #[.string a,.string b,.map (some sm),.int .i64 wt,.nilIface] 144:=by
 unfold ev
 have C:=Lib.hid (Cells.new w #[.string a,.string b,.map (some sm),.int .i64 wt,.nilIface] 144)
 have F:=Lib.hid ((Fr.refl (fun _=>False) w).alloc (.cells #[.string a,.string b,.map (some sm),.int .i64 wt,.nilIface] 144))
 go_enter Tryz.func193,Tryz.ntmps193
 go_wp2_with fail
 go_quiet (fail)
 go_wp2_with fail
 exact bodyPost_ret (v:=.tuple #[.string a,.string b,.func (Fn.func 196) #[] #[.pointer (some ⟨w.heap.size,0,none⟩)]]) (by simp [results,Tryz.results193,go_sem, *]) rfl ⟨rfl,by ((repeat' with_reducible first|assumption|exact frR|apply frD|apply frN|apply frA|apply frM|apply frC);all_goals (simp;try omega)),C.out.fr (show Fr0 (w.alloc (.cells #[.string a,.string b,.map (some sm),.int .i64 wt,.nilIface] 144)) _ from by ((repeat' with_reducible first|assumption|exact frR|apply frD|apply frN|apply frA|apply frM|apply frC);all_goals (simp;try omega))) fun q=>q⟩
theorem cpv1 (w:World) (pb mb cb sm:Nat) (wt0 wt:Int) (es:List PP) (h:Cells w pb #[.map (some mb),.int .i64 wt0] 137) (hm:SM w mb (ats [])) (hc:Cells w cb #[.map (some sm),.int .i64 wt] 137) (hs:SM w sm (ats es)) (hms:mb≠sm) (hpc:pb≠cb) :
   Calls Tryz.prog 197 #[.pointer (some ⟨pb,0,none⟩),.pointer (some ⟨cb,0,none⟩)] w fun e w'=>e=.returned (.tuple #[])∧∃ es',es'.Perm es∧Cells w' pb #[.map (some mb),.int .i64 wt] 137∧SM w' mb (ats es')∧Fr (fun k=>k=pb∨k=mb) w w':=by
 have hpm:pb≠mb:=fun e=>by
   obtain ⟨_,_,h1,_⟩:=hm
   unfold Cells at h
   rw [← e,h] at h1
   cases h1
 have hcm:cb≠mb:=fun e=>by
   obtain ⟨_,_,h1,_⟩:=hm
   unfold Cells at hc
   rw [← e,hc] at h1
   cases h1
 have ND:=Lib.hid (ats_nodup hs)
 have HP:=hid3 h hm hc
 have HS:=Lib.hid hs
 have HN:=hid4 hms hpc hpm hcm
 have c0:=hc.cell 0 (.map (some sm)) rfl
 have ml:=hm.lt
 clear h hm hc hs hms hpc hpm hcm
 go_enter Tryz.func197,Tryz.ntmps197
 go_wp2_with (first
   | (at_range;refine wl_range 135 9 9 Tryz.underlying135 rfl (.tmp 6) rfl HS.out rfl ?_;intro ob w2 hw2 sm2 it2))
 try go_frame
 have F2:=Lib.hid (show Fr0 w w2 from by subst hw2;exact (Fr.refl _ _).alloc _)
 have ML:=Lib.hid ml
 clear ml c0
 go_loopg [3] es.length (fun k _ wr=>CPL w mb sm w.heap.size es k wr)
 case atStart=>exact CPL.start (HP.out.2.1.fr F2.out (fun q=>q)) it2 F2.out
 case round =>
   obtain ⟨done,rem,hk,hp,hd,hit,f,hst⟩:=hrel
   have A:=hid6 hk hp hd hit f hst
   clear hk hp hd hit f hst
   go_wp2_with (first
     | (at_next;refine wl_next rfl (.tmp 7) rfl w.heap.size rem A.out.2.2.2.1 rfl ?_ ?_))
   · intro hrem
     have hpl:done.Perm es:=by have:=A.out.2.1;rw [hrem] at this;simpa using this
     have hcc:=HP.out.2.2.fr A.out.2.2.2.2.1 HN.out.2.2.2
     have c1:=hcc.cell 1 (.int .i64 wt) rfl
     have hpp:=HP.out.1.fr A.out.2.2.2.2.1 HN.out.2.2.1
     have pl:=hpp.lt
     have pf:=hpp.free 1
     have p1:=hpp.cell 1 (.int .i64 wt0) rfl
     have CC:=Lib.hid hpp
     have HPL:=Lib.hid hpl
     clear hcc hpp hrem hpl
     go_wp2_with fail
     go_end0
     refine ⟨rfl,done,HPL.out,by have:=cells_set CC.out 1 (.int .i64 wt);simpa using this,?_,?_⟩
     · exact A.out.2.2.1.fr ((Fr.refl (· = pb) wr).setCell (.inl rfl) _) HN.out.2.2.1.symm
     · exact (A.out.2.2.2.2.1.mono fun _ q=>.inr q).setCell (.inl (.inl rfl)) _
   · intro key v0 l1 l2 w3 hrem hit3 hu3 hen
     obtain ⟨s,rfl⟩:=A.out.2.2.2.2.2 (key,v0) (by rw [hrem];simp)
     have Bq:=hid3 hrem hit3 hu3
     have hmr:mb≠w.heap.size:=Nat.ne_of_lt ML.out
     have m3:SM w3 mb (ats done):=A.out.2.2.1.fr (Fr.of_upd hu3) hmr
     have hpp:=(HP.out.1.fr A.out.2.2.2.2.1 HN.out.2.2.1).fr (Fr.of_upd hu3) (Nat.ne_of_lt HP.out.1.lt)
     have p0:=hpp.cell 0 (.map (some mb)) rfl
     have pl:=hpp.lt
     have M3:=Lib.hid m3
     clear hrem hit3 hu3 m3 hpp
     go_wp2_with (first
       | (at_mapUpdate;go_must (refine wl_put 135 9 9 Tryz.underlying135 Tryz.underlying9 rfl (.tmp 16) (.tmp 17) (.tmp 18) rfl M3.out key (.string s) rfl rfl rfl ?_);intro arr1 k1 hm1))
     obtain ⟨k',hk',hC⟩:=CPL.step ND.out HN.out.1 hmr (Nat.le_refl _) A.out.1 A.out.2.1 A.out.2.2.2.2.1 A.out.2.2.2.2.2 Bq.out.1 Bq.out.2.1 Bq.out.2.2 hm1 ((Fr.refl (· = mb) w3).setM (.inl rfl) arr1 k1)
     go_roundg k'
     case measure=>exact hk'
     case rel=>exact hC
theorem cpe1 (w:World) (pb mb cb sm:Nat) (a b x y:ByteArray) (wt0 wt:Int) (es:List PP) (h:Cells w pb #[.string a,.string b,.map (some mb),.int .i64 wt0,.nilIface] 144) (hm:SM w mb (ats [])) (hc:Cells w cb #[.string x,.string y,.map (some sm),.int .i64 wt,.nilIface] 144) (hs:SM w sm (ats es)) (hms:mb≠sm) (hpc:pb≠cb) :
   Calls Tryz.prog 196 #[.pointer (some ⟨pb,2,none⟩),.pointer (some ⟨cb,0,none⟩)] w fun e w'=>e=.returned (.tuple #[])∧∃ es',es'.Perm es∧Cells w' pb #[.string a,.string b,.map (some mb),.int .i64 wt,.nilIface] 144∧SM w' mb (ats es')∧Fr (fun k=>k=pb∨k=mb) w w':=by
 have hpm:pb≠mb:=fun e=>by
   obtain ⟨_,_,h1,_⟩:=hm
   unfold Cells at h
   rw [← e,h] at h1
   cases h1
 have hcm:cb≠mb:=fun e=>by
   obtain ⟨_,_,h1,_⟩:=hm
   unfold Cells at hc
   rw [← e,hc] at h1
   cases h1
 have ND:=Lib.hid (ats_nodup hs)
 have HP:=hid3 h hm hc
 have HS:=Lib.hid hs
 have HN:=hid4 hms hpc hpm hcm
 have c0:=hc.cell 2 (.map (some sm)) rfl
 have ml:=hm.lt
 clear h hm hc hs hms hpc hpm hcm
 go_enter Tryz.func196,Tryz.ntmps196
 go_wp2_with (first
   | (at_range;refine wl_range 135 9 9 Tryz.underlying135 rfl (.tmp 7) rfl HS.out rfl ?_;intro ob w2 hw2 sm2 it2))
 try go_frame
 have F2:=Lib.hid (show Fr0 w w2 from by subst hw2;exact (Fr.refl _ _).alloc _)
 have ML:=Lib.hid ml
 clear ml c0
 go_loopg [3] es.length (fun k _ wr=>CPL w mb sm w.heap.size es k wr)
 case atStart=>exact CPL.start (HP.out.2.1.fr F2.out (fun q=>q)) it2 F2.out
 case round =>
   obtain ⟨done,rem,hk,hp,hd,hit,f,hst⟩:=hrel
   have A:=hid6 hk hp hd hit f hst
   clear hk hp hd hit f hst
   go_wp2_with (first
     | (at_next;refine wl_next rfl (.tmp 8) rfl w.heap.size rem A.out.2.2.2.1 rfl ?_ ?_))
   · intro hrem
     have hpl:done.Perm es:=by have:=A.out.2.1;rw [hrem] at this;simpa using this
     have hcc:=HP.out.2.2.fr A.out.2.2.2.2.1 HN.out.2.2.2
     have c1:=hcc.cell 3 (.int .i64 wt) rfl
     have c2:=hcc.cell 4 .nilIface rfl
     have hpp:=HP.out.1.fr A.out.2.2.2.2.1 HN.out.2.2.1
     have pl:=hpp.lt
     have pf:=hpp.free 3
     have p3:=hpp.cell 3 (.int .i64 wt0) rfl
     have p4:=hpp.cell 4 .nilIface rfl
     have pf2:=hpp.free 4
     have ncp:=HN.out.2.1.symm
     have CC:=Lib.hid hpp
     have HPL:=Lib.hid hpl
     clear hcc hpp hrem hpl
     go_wp2_with fail
     go_end0
     refine ⟨rfl,done,HPL.out,by have:=cells_set (cells_set CC.out 3 (.int .i64 wt)) 4 .nilIface;simpa using this,?_,?_⟩
     · exact A.out.2.2.1.fr (((Fr.refl (· = pb) wr).setCell (.inl rfl) _).setCell (.inl rfl) _) HN.out.2.2.1.symm
     · exact ((A.out.2.2.2.2.1.mono fun _ q=>.inr q).setCell (.inl (.inl rfl)) _).setCell (.inl (.inl rfl)) _
   · intro key v0 l1 l2 w3 hrem hit3 hu3 hen
     obtain ⟨s,rfl⟩:=A.out.2.2.2.2.2 (key,v0) (by rw [hrem];simp)
     have Bq:=hid3 hrem hit3 hu3
     have hmr:mb≠w.heap.size:=Nat.ne_of_lt ML.out
     have m3:SM w3 mb (ats done):=A.out.2.2.1.fr (Fr.of_upd hu3) hmr
     have hpp:=(HP.out.1.fr A.out.2.2.2.2.1 HN.out.2.2.1).fr (Fr.of_upd hu3) (Nat.ne_of_lt HP.out.1.lt)
     have p0:=hpp.cell 2 (.map (some mb)) rfl
     have pl:=hpp.lt
     have M3:=Lib.hid m3
     clear hrem hit3 hu3 m3 hpp
     go_wp2_with (first
       | (at_mapUpdate;go_must (refine wl_put 135 9 9 Tryz.underlying135 Tryz.underlying9 rfl (.tmp 17) (.tmp 18) (.tmp 19) rfl M3.out key (.string s) rfl rfl rfl ?_);intro arr1 k1 hm1))
     obtain ⟨k',hk',hC⟩:=CPL.step ND.out HN.out.1 hmr (Nat.le_refl _) A.out.1 A.out.2.1 A.out.2.2.2.2.1 A.out.2.2.2.2.2 Bq.out.1 Bq.out.2.1 Bq.out.2.2 hm1 ((Fr.refl (· = mb) w3).setM (.inl rfl) arr1 k1)
     go_roundg k'
     case measure=>exact hk'
     case rel=>exact hC
def CVL (w0:World) (pb mb:Nat) (wt:Int) (es:List PP) (k:Nat) (c:Value) (wr:World):Prop :=
 (k=1∧c=.int .i64 0∧wr=w0)∨(k=0∧c=.int .i64 1∧∃ es',es'.Perm es∧Cells wr pb #[.map (some mb),.int .i64 wt] 137∧SM wr mb (ats es')∧Fr (fun k=>k=pb∨k=mb) w0 wr)
theorem dcopv (w:World) (G:GS) (h:GRep w G) (v:ByteArray) (HC:HashA G.hk v) (ob cb sm:Nat) (wt:Int) (es:List PP) (hcell:w.cell? ⟨ob,0,none⟩=some (.func (Fn.func 197) #[] #[.pointer (some ⟨cb,0,none⟩)])) (hcb:Cells w cb #[.map (some sm),.int .i64 wt] 137) (hsm:SM w sm (ats es)) (R:Value→World→Prop)
   (hR:∀ w1 mb es',es'.Perm es→Fr0 w w1→w.heap.size≤mb→SM w1 mb (ats es')→Calls Tryz.prog 217 #[.pointer (some ⟨G.sB,0,none⟩),.string (hashM G.hk v),.string v,pv mb wt] w1 fun e w'=>∃ x,e=.returned x∧R x w') :
   Calls Tryz.prog 175 #[.pointer (some ⟨G.gB,0,none⟩),.string v,.slice (some ⟨ob,0,none⟩) 1 1] w fun e w'=>∃ x,e=.returned x∧R x w':=by
 have hR':=Lib.hid hR
 clear hR
 obtain ⟨⟨g0,g1,g2⟩,_,l0,l1,l2⟩:=h.facts
 obtain ⟨cs,k1,k2,k3⟩:=h.k
 have HH:=Lib.hid (HC w G.kB cs k1 k2 k3)
 have OB:=Lib.hid (World.block_lt_of_cell? w _ hcell)
 have O:=hid3 hcell hcb hsm
 have H:=Lib.hid h
 have mV:=mAddVertex
 have hmm:=@run_makeMap Tryz.prog
 clear h hcell hcb hsm k1 k2 k3
 go_enter Tryz.func175,Tryz.ntmps175
 go_wp2_with (first
   | (go_at_call 62;refine HH.out.mono ?_;rintro e w1 ⟨rfl,f1⟩;have F1:=Lib.hid f1;clear f1))
 have PB:=Lib.hid (show Cells ((w1.alloc (Obj.map #[] 0)).alloc (Obj.cells #[Value.map (some w1.heap.size),Value.int IntKind.i64 0] 137)) (w1.heap.size+1) #[.map (some w1.heap.size),.int .i64 0] 137 from by
   have:=Cells.new (w1.alloc (Obj.map #[] 0)) #[Value.map (some w1.heap.size),Value.int IntKind.i64 0] 137
   simpa using this)
 have MB:=Lib.hid (show SM ((w1.alloc (Obj.map #[] 0)).alloc (Obj.cells #[Value.map (some w1.heap.size),Value.int IntKind.i64 0] 137)) w1.heap.size (ats []) from (SM.fresh w1).alloc _)
 have F2:=Lib.hid (show Fr0 w ((w1.alloc (Obj.map #[] 0)).alloc (Obj.cells #[Value.map (some w1.heap.size),Value.int IntKind.i64 0] 137)) from (F1.out.alloc _).alloc _)
 generalize (w1.alloc (Obj.map #[] 0)).alloc (Obj.cells #[Value.map (some w1.heap.size),Value.int IntKind.i64 0] 137)=W at *
 go_loopg [21] 1 (fun k c wr=>CVL W (w1.heap.size+1) w1.heap.size wt es k c wr)
 case atStart=>exact .inl ⟨rfl,rfl,rfl⟩
 case round =>
   rcases hrel with ⟨rfl,rfl,rfl⟩|⟨rfl,rfl,es',hp,hc,hm,f⟩
   · have hcell:=(F2.out.cell (p:=⟨ob,0,none⟩) OB.out (fun q=>q)).trans O.out.1
     have z1:=F1.out.size
     have z2:=O.out.2.1.lt
     have z3:=O.out.2.2.lt
     have CV:=Lib.hid (cpv1 wr (w1.heap.size+1) w1.heap.size cb sm 0 wt es PB.out MB.out (O.out.2.1.fr F2.out (fun q=>q)) (O.out.2.2.fr F2.out (fun q=>q)) (by omega) (by omega))
     clear z1 z2 z3
     go_wp2_with (first
       | (go_at_call 197;refine CV.out.mono ?_;rintro e w3 ⟨rfl,es',hp,hc',hm',f'⟩;have D:=hid4 hp hc' hm' f';clear hp hc' hm' f'))
     go_roundg 0
     case measure=>omega
     case rel=>exact .inr ⟨rfl,by simp,es',D.out⟩
   · have A:=hid4 hp hc hm f
     clear hp hc hm f
     have F3:=Lib.hid (show Fr0 w wr from (F2.out.trans A.out.2.2.2 fun k q=>.inr (by have:=F1.out.size;omega)))
     have HW:=Lib.hid (H.out.fr F3.out (fun _ _ q=>q) (fun q=>q))
     have g2':=HW.out.facts.1.2.2
     have l0':=HW.out.facts.2.2.1
     have hb:=A.out.2.1.cell 0 (.map (some w1.heap.size)) rfl
     have hb1:=A.out.2.1.cell 1 (.int .i64 wt) rfl
     have hbl:=A.out.2.1.lt
     have HS:=Lib.hid (hR'.out wr.drew w1.heap.size es' A.out.1 F3.out.drew F1.out.size A.out.2.2.1.drew)
     go_wp2_with fail
     (refine region_tail 7 (by kernel_rfl) (by kernel_rfl) ?_;simp only [List.take_succ_cons,List.take_zero,List.drop_succ_cons,List.drop_zero];(repeat still_step);refine wpStill_nil ?_)
     go_wp2_with (first
       | (go_at_call 217;refine HS.out.mono ?_;rintro e w5 ⟨x,rfl,r5⟩))
     go_ret
     exact ⟨x,rfl,r5⟩
theorem dcopyV (w:World) (G:GS) (h:GRep w G) (B:Nat) (eb:Nat→Addr) (E:ErrsOk w B eb) (v:ByteArray) (HC:HashA G.hk v) (ob cb sm:Nat) (wt:Int) (es:List PP) (hcell:w.cell? ⟨ob,0,none⟩=some (.func (Fn.func 197) #[] #[.pointer (some ⟨cb,0,none⟩)])) (hcb:Cells w cb #[.map (some sm),.int .i64 wt] 137) (hsm:SM w sm (ats es)) (hn:findP G.pts (hashM G.hk v)=none) :
   Calls Tryz.prog 175 #[.pointer (some ⟨G.gB,0,none⟩),.string v,.slice (some ⟨ob,0,none⟩) 1 1] w fun e w'=>∃ x,e=.returned x∧(x=.nilIface∧∃ c' mb es',es'.Perm es∧GStep w G w' { G with c:=c',pts:=G.pts ++ [⟨hashM G.hk v,v,wt,mb,es'⟩] }):=by
 refine dcopv w G h v HC ob cb sm wt es hcell hcb hsm _ fun w1 mb es' hp f hmb hm => ?_
 refine (saddv h B eb E (hashM G.hk v) v wt es' mb f hmb hm).mono ?_
 rintro e w' ⟨x,rfl,hx⟩
 rcases hx with ⟨p,hp', -⟩|⟨-,rfl,c',g⟩
 · rw [hn] at hp';cases hp'
 · exact ⟨_,rfl,rfl,c',mb,es',hp,g⟩
theorem ucopv (w:World) (G:GS) (h:GRep w G) (v:ByteArray) (HC:HashA G.hk v) (ob cb sm:Nat) (wt:Int) (es:List PP) (hcell:w.cell? ⟨ob,0,none⟩=some (.func (Fn.func 197) #[] #[.pointer (some ⟨cb,0,none⟩)])) (hcb:Cells w cb #[.map (some sm),.int .i64 wt] 137) (hsm:SM w sm (ats es)) (R:Value→World→Prop)
   (hR:∀ w1 mb es',es'.Perm es→Fr0 w w1→w.heap.size≤mb→SM w1 mb (ats es')→Calls Tryz.prog 217 #[.pointer (some ⟨G.sB,0,none⟩),.string (hashM G.hk v),.string v,pv mb wt] w1 fun e w'=>∃ x,e=.returned x∧R x w') :
   Calls Tryz.prog 200 #[.pointer (some ⟨G.gB,0,none⟩),.string v,.slice (some ⟨ob,0,none⟩) 1 1] w fun e w'=>∃ x,e=.returned x∧R x w':=by
 have hR':=Lib.hid hR
 clear hR
 obtain ⟨⟨g0,g1,g2⟩,_,l0,l1,l2⟩:=h.facts
 obtain ⟨cs,k1,k2,k3⟩:=h.k
 have HH:=Lib.hid (HC w G.kB cs k1 k2 k3)
 have OB:=Lib.hid (World.block_lt_of_cell? w _ hcell)
 have O:=hid3 hcell hcb hsm
 have H:=Lib.hid h
 have mV:=mAddVertex
 have hmm:=@run_makeMap Tryz.prog
 clear h hcell hcb hsm k1 k2 k3
 go_enter Tryz.func200,Tryz.ntmps200
 go_wp2_with (first
   | (go_at_call 62;refine HH.out.mono ?_;rintro e w1 ⟨rfl,f1⟩;have F1:=Lib.hid f1;clear f1))
 have PB:=Lib.hid (show Cells ((w1.alloc (Obj.map #[] 0)).alloc (Obj.cells #[Value.map (some w1.heap.size),Value.int IntKind.i64 0] 137)) (w1.heap.size+1) #[.map (some w1.heap.size),.int .i64 0] 137 from by
   have:=Cells.new (w1.alloc (Obj.map #[] 0)) #[Value.map (some w1.heap.size),Value.int IntKind.i64 0] 137
   simpa using this)
 have MB:=Lib.hid (show SM ((w1.alloc (Obj.map #[] 0)).alloc (Obj.cells #[Value.map (some w1.heap.size),Value.int IntKind.i64 0] 137)) w1.heap.size (ats []) from (SM.fresh w1).alloc _)
 have F2:=Lib.hid (show Fr0 w ((w1.alloc (Obj.map #[] 0)).alloc (Obj.cells #[Value.map (some w1.heap.size),Value.int IntKind.i64 0] 137)) from (F1.out.alloc _).alloc _)
 generalize (w1.alloc (Obj.map #[] 0)).alloc (Obj.cells #[Value.map (some w1.heap.size),Value.int IntKind.i64 0] 137)=W at *
 go_loopg [21] 1 (fun k c wr=>CVL W (w1.heap.size+1) w1.heap.size wt es k c wr)
 case atStart=>exact .inl ⟨rfl,rfl,rfl⟩
 case round =>
   rcases hrel with ⟨rfl,rfl,rfl⟩|⟨rfl,rfl,es',hp,hc,hm,f⟩
   · have hcell:=(F2.out.cell (p:=⟨ob,0,none⟩) OB.out (fun q=>q)).trans O.out.1
     have z1:=F1.out.size
     have z2:=O.out.2.1.lt
     have z3:=O.out.2.2.lt
     have CV:=Lib.hid (cpv1 wr (w1.heap.size+1) w1.heap.size cb sm 0 wt es PB.out MB.out (O.out.2.1.fr F2.out (fun q=>q)) (O.out.2.2.fr F2.out (fun q=>q)) (by omega) (by omega))
     clear z1 z2 z3
     go_wp2_with (first
       | (go_at_call 197;refine CV.out.mono ?_;rintro e w3 ⟨rfl,es',hp,hc',hm',f'⟩;have D:=hid4 hp hc' hm' f';clear hp hc' hm' f'))
     go_roundg 0
     case measure=>omega
     case rel=>exact .inr ⟨rfl,by simp,es',D.out⟩
   · have A:=hid4 hp hc hm f
     clear hp hc hm f
     have F3:=Lib.hid (show Fr0 w wr from (F2.out.trans A.out.2.2.2 fun k q=>.inr (by have:=F1.out.size;omega)))
     have HW:=Lib.hid (H.out.fr F3.out (fun _ _ q=>q) (fun q=>q))
     have g2':=HW.out.facts.1.2.2
     have l0':=HW.out.facts.2.2.1
     have hb:=A.out.2.1.cell 0 (.map (some w1.heap.size)) rfl
     have hb1:=A.out.2.1.cell 1 (.int .i64 wt) rfl
     have hbl:=A.out.2.1.lt
     have HS:=Lib.hid (hR'.out wr.drew w1.heap.size es' A.out.1 F3.out.drew F1.out.size A.out.2.2.1.drew)
     go_wp2_with fail
     (refine region_tail 7 (by kernel_rfl) (by kernel_rfl) ?_;simp only [List.take_succ_cons,List.take_zero,List.drop_succ_cons,List.drop_zero];(repeat still_step);refine wpStill_nil ?_)
     go_wp2_with (first
       | (go_at_call 217;refine HS.out.mono ?_;rintro e w5 ⟨x,rfl,r5⟩))
     go_ret
     exact ⟨x,rfl,r5⟩
theorem ucopyV (w:World) (G:GS) (h:GRep w G) (B:Nat) (eb:Nat→Addr) (E:ErrsOk w B eb) (v:ByteArray) (HC:HashA G.hk v) (ob cb sm:Nat) (wt:Int) (es:List PP) (hcell:w.cell? ⟨ob,0,none⟩=some (.func (Fn.func 197) #[] #[.pointer (some ⟨cb,0,none⟩)])) (hcb:Cells w cb #[.map (some sm),.int .i64 wt] 137) (hsm:SM w sm (ats es)) (hn:findP G.pts (hashM G.hk v)=none) :
   Calls Tryz.prog 200 #[.pointer (some ⟨G.gB,0,none⟩),.string v,.slice (some ⟨ob,0,none⟩) 1 1] w fun e w'=>∃ x,e=.returned x∧(x=.nilIface∧∃ c' mb es',es'.Perm es∧GStep w G w' { G with c:=c',pts:=G.pts ++ [⟨hashM G.hk v,v,wt,mb,es'⟩] }):=by
 refine ucopv w G h v HC ob cb sm wt es hcell hcb hsm _ fun w1 mb es' hp f hmb hm => ?_
 refine (saddv h B eb E (hashM G.hk v) v wt es' mb f hmb hm).mono ?_
 rintro e w' ⟨x,rfl,hx⟩
 rcases hx with ⟨p,hp', -⟩|⟨-,rfl,c',g⟩
 · rw [hn] at hp';cases hp'
 · exact ⟨_,rfl,rfl,c',mb,es',hp,g⟩
def CEL (w0:World) (pb mb:Nat) (a b:ByteArray) (wt:Int) (es:List PP) (k:Nat) (c:Value) (wr:World):Prop :=
 (k=1∧c=.int .i64 0∧wr=w0)∨(k=0∧c=.int .i64 1∧∃ es',es'.Perm es∧Cells wr pb #[.string a,.string b,.map (some mb),.int .i64 wt,.nilIface] 144∧SM wr mb (ats es')∧Fr (fun k=>k=pb∨k=mb) w0 wr)
theorem dcopyE (w:World) (G:GS) (h:GRep w G) (hd:G.dir=true) (B:Nat) (eb:Nat→Addr) (E:ErrsOk w B eb) (a b:ByteArray) (ob cb sm:Nat) (x y:ByteArray) (wt:Int) (es:List PP) (hcell:w.cell? ⟨ob,0,none⟩=some (.func (Fn.func 196) #[] #[.pointer (some ⟨cb,0,none⟩)])) (hcb:Cells w cb #[.string x,.string y,.map (some sm),.int .i64 wt,.nilIface] 144) (hsm:SM w sm (ats es)) (p q:Pt) (hp:findP G.pts a=some p) (hq:findP G.pts b=some q) (hl:findL G.dir G.lks a b=none) (hpr:G.pr=false) :
   Calls Tryz.prog 173 #[.pointer (some ⟨G.gB,0,none⟩),.string a,.string b,.slice (some ⟨ob,0,none⟩) 1 1] w fun e w'=>e=.returned .nilIface∧∃ c' mb es',es'.Perm es∧GStep w G w' { G with c:=c',lks:=G.lks ++ [⟨a,b,wt,mb,es'⟩] }:=by
 have A0:=Lib.hid (show ∀ w',Fr0 w w'→AW w G w' from fun w' f=>AW.mk' h f)
 have E0:=Lib.hid (show ∀ w',Fr0 w w'→ErrsOk w' B eb from fun w' f=>E.fr f (fun _ q=>q.elim))
 obtain ⟨-,s0,s1,s2,s3,s4⟩:=A0.out w (Fr.refl _ _)
 have mV:=mVertex
 have hmm:=@run_makeMap Tryz.prog
 have OB:=Lib.hid (World.block_lt_of_cell? w _ hcell)
 have O:=hid3 hcell hcb hsm
 have HG:=Lib.hid h
 clear h E hcell hcb hsm
 rw [hpr] at s4
 have HPR:=Lib.hid hpr
 clear hpr
 go_enter Tryz.func173,Tryz.ntmps173
 go_wp2_with fail
 refine (svert_yes (A0.out _ (Fr.refl _ _)).rep hp).mono ?_
 rintro e w1 ⟨rfl,f1⟩
 clear s0 s1 s2 s3 s4
 obtain ⟨-,s0,s1,s2,s3,s4⟩:=A0.out _ f1
 rw [HPR.out] at s4
 go_wp2_with fail
 refine (svert_yes (A0.out _ (by ((repeat' with_reducible first|assumption|exact frR|apply frD|apply frN|apply frA|apply frM|apply frC);all_goals (simp;try omega)))).rep hq).mono ?_
 rintro e w2 ⟨rfl,h2⟩
 have f2:Fr0 w w2:=Fr.trans0 (by ((repeat' with_reducible first|assumption|exact frR|apply frD|apply frN|apply frA|apply frM|apply frC);all_goals (simp;try omega))) h2
 clear s0 s1 s2 s3 s4
 obtain ⟨-,s0,s1,s2,s3,s4⟩:=A0.out _ f2
 rw [HPR.out] at s4
 go_wp2_with fail
 refine (dedge_no _ G (A0.out _ (by ((repeat' with_reducible first|assumption|exact frR|apply frD|apply frN|apply frA|apply frM|apply frC);all_goals (simp;try omega)))).rep B eb (E0.out _ (by ((repeat' with_reducible first|assumption|exact frR|apply frD|apply frN|apply frA|apply frM|apply frC);all_goals (simp;try omega)))) a b hl).mono ?_
 rintro e w3 ⟨rfl,h3⟩
 have f3:Fr0 w w3:=Fr.trans0 (by ((repeat' with_reducible first|assumption|exact frR|apply frD|apply frN|apply frA|apply frM|apply frC);all_goals (simp;try omega))) h3
 have e4:=(E0.out _ f3).cell 4 (by decide)
 have e6:4 < w3.heap.size:=by
   have h1:=(E0.out _ f3).six
   have h2:=(E0.out _ f3).size
   omega
 go_wp2_with fail
 have hI:=is_ev (e:=.e 4) (E0.out (w3.alloc zBox) (by ((repeat' with_reducible first|assumption|exact frR|apply frD|apply frN|apply frA|apply frM|apply frC);all_goals (simp;try omega)))) (by simp [EV.ok]) 4 (by decide)
 have hh:(EV.e 4).has 4=true:=rfl
 rw [hh] at hI
 refine hI.mono ?_
 clear hI hh
 rintro e wE ⟨rfl,h4⟩
 have f4:Fr0 w wE:=Fr.trans0 (by ((repeat' with_reducible first|assumption|exact frR|apply frD|apply frN|apply frA|apply frM|apply frC);all_goals (simp;try omega))) h4
 clear s0 s1 s2 s3 s4 e4 e6
 obtain ⟨-,s0,s1,s2,s3,s4⟩:=A0.out _ f4
 rw [HPR.out] at s4
 have F4:=Lib.hid f4
 clear f1 f2 f3 h2 h3 h4 f4
 go_wp2_with fail
 try go_frame
 have PB:=Lib.hid (show Cells ((wE.alloc (Obj.map #[] 0)).alloc (eBox a b wE.heap.size 0)) (wE.heap.size+1) #[.string a,.string b,.map (some wE.heap.size),.int .i64 0,.nilIface] 144 from by
   have:=Cells.new (wE.alloc (Obj.map #[] 0)) #[.string a,.string b,.map (some wE.heap.size),.int .i64 0,.nilIface] 144
   simpa using this)
 have MB:=Lib.hid (show SM ((wE.alloc (Obj.map #[] 0)).alloc (eBox a b wE.heap.size 0)) wE.heap.size (ats []) from (SM.fresh wE).alloc _)
 have F2:=Lib.hid (show Fr0 w ((wE.alloc (Obj.map #[] 0)).alloc (eBox a b wE.heap.size 0)) from (F4.out.alloc _).alloc _)
 generalize (wE.alloc (Obj.map #[] 0)).alloc (eBox a b wE.heap.size 0)=W at *
 go_loopg [86] 1 (fun k c wr=>CEL W (wE.heap.size+1) wE.heap.size a b wt es k c wr)
 case atStart=>exact .inl ⟨rfl,rfl,rfl⟩
 case round =>
   rcases hrel with ⟨rfl,rfl,rfl⟩|⟨rfl,rfl,es',hpm,hc,hm,f⟩
   · have hcell:=(F2.out.cell (p:=⟨ob,0,none⟩) OB.out (fun q=>q)).trans O.out.1
     have z1:=F4.out.size
     have z2:=O.out.2.1.lt
     have z3:=O.out.2.2.lt
     have CV:=Lib.hid (cpe1 wr (wE.heap.size+1) wE.heap.size cb sm a b x y 0 wt es PB.out MB.out (O.out.2.1.fr F2.out (fun q=>q)) (O.out.2.2.fr F2.out (fun q=>q)) (by omega) (by omega))
     clear z1 z2 z3
     go_wp2_with (first
       | (go_at_call 196;refine CV.out.mono ?_;rintro e w3 ⟨rfl,es',hpm,hc',hm',f'⟩;have D:=hid4 hpm hc' hm' f';clear hpm hc' hm' f'))
     go_roundg 0
     case measure=>omega
     case rel=>exact .inr ⟨rfl,by simp,es',D.out⟩
   · have A:=hid4 hpm hc hm f
     clear hpm hc hm f
     have F3:=Lib.hid (show Fr0 w wr from (F2.out.trans A.out.2.2.2 fun k q=>.inr (by have:=F4.out.size;omega)))
     have HW:=(A0.out _ F3.out).rep
     have hb0:=A.out.2.1.cell 0 (.string a) rfl
     have hb1:=A.out.2.1.cell 1 (.string b) rfl
     have hb2:=A.out.2.1.cell 2 (.map (some wE.heap.size)) rfl
     have hb3:=A.out.2.1.cell 3 (.int .i64 wt) rfl
     have hb4:=A.out.2.1.cell 4 .nilIface rfl
     have hbl:=A.out.2.1.lt
     have HM:=A.out.2.2.1
     have hfr:wE.heap.size∉G.own:=fun q=>by have h1:=HG.out.lt _ q;have h2:=F4.out.size;omega
     have hkb:wE.heap.size≠G.kB:=by
       obtain ⟨cs,q,_⟩:=HG.out.k
       have h1:=q.lt
       have h2:=F4.out.size
       omega
     have HA:=Lib.hid (dadde _ G HW hd a b wE.heap.size wt es' HM hfr hkb hl ⟨p,findP_mem hp⟩ ⟨q,findP_mem hq⟩)
     have N:=hid2 hfr hkb
     clear HW HM hfr hkb
     go_wp2_with fail
     refine HA.out.mono ?_
     rintro e w9 ⟨rfl,h9⟩
     have H9:=Lib.hid h9
     clear h9
     go_wp2_with fail
     go_ret
     obtain ⟨r1,c',r2,r3⟩:=H9.out
     have s1:=F3.out.size
     have s2:=F4.out.size
     refine ⟨rfl,c',wE.heap.size,es',A.out.1,r2,(F3.out.mono fun _ q=>q.elim).trans r1 fun _ q=>.inl q,fun x hx => ?_,G.same_refl⟩
     simp only [GS.own,List.mem_cons,List.mem_append,List.map_append,List.map_cons,List.map_nil,List.not_mem_nil,or_false] at hx ⊢
     rcases hx with q|q|q|q|q|q|q
     · exact .inl (.inl q)
     · exact .inl (.inr (.inl q))
     · exact .inl (.inr (.inr (.inl q)))
     · rcases r3 x q with t|t
       · exact .inl (.inr (.inr (.inr (.inl t))))
       · exact .inr (by omega)
     · exact .inl (.inr (.inr (.inr (.inr (.inl q)))))
     · exact .inl (.inr (.inr (.inr (.inr (.inr q)))))
     · exact .inr (by omega)
theorem ucopyE (w:World) (G:GS) (h:GRep w G) (hd:G.dir=false) (B:Nat) (eb:Nat→Addr) (E:ErrsOk w B eb) (a b:ByteArray) (hab:a≠b) (ob cb sm:Nat) (x y:ByteArray) (wt:Int) (es:List PP) (hcell:w.cell? ⟨ob,0,none⟩=some (.func (Fn.func 196) #[] #[.pointer (some ⟨cb,0,none⟩)])) (hcb:Cells w cb #[.string x,.string y,.map (some sm),.int .i64 wt,.nilIface] 144) (hsm:SM w sm (ats es)) (p q:Pt) (hp:findP G.pts a=some p) (hq:findP G.pts b=some q) (hl:findL G.dir G.lks a b=none) (hpr:G.pr=false) :
   Calls Tryz.prog 198 #[.pointer (some ⟨G.gB,0,none⟩),.string a,.string b,.slice (some ⟨ob,0,none⟩) 1 1] w fun e w'=>e=.returned .nilIface∧∃ c' mb es',es'.Perm es∧GStep w G w' { G with c:=c',lks:=G.lks ++ [⟨a,b,wt,mb,es'⟩] }:=by
 have A0:=Lib.hid (show ∀ w',Fr0 w w'→AW w G w' from fun w' f=>AW.mk' h f)
 have E0:=Lib.hid (show ∀ w',Fr0 w w'→ErrsOk w' B eb from fun w' f=>E.fr f (fun _ q=>q.elim))
 obtain ⟨-,s0,s1,s2,s3,s4⟩:=A0.out w (Fr.refl _ _)
 have mV:=mVertex
 have hmm:=@run_makeMap Tryz.prog
 have OB:=Lib.hid (World.block_lt_of_cell? w _ hcell)
 have O:=hid3 hcell hcb hsm
 have HG:=Lib.hid h
 clear h E hcell hcb hsm
 rw [hpr] at s4
 have HPR:=Lib.hid hpr
 clear hpr
 go_enter Tryz.func198,Tryz.ntmps198
 go_wp2_with fail
 refine (svert_yes (A0.out _ (Fr.refl _ _)).rep hp).mono ?_
 rintro e w1 ⟨rfl,f1⟩
 clear s0 s1 s2 s3 s4
 obtain ⟨-,s0,s1,s2,s3,s4⟩:=A0.out _ f1
 rw [HPR.out] at s4
 go_wp2_with fail
 refine (svert_yes (A0.out _ (by ((repeat' with_reducible first|assumption|exact frR|apply frD|apply frN|apply frA|apply frM|apply frC);all_goals (simp;try omega)))).rep hq).mono ?_
 rintro e w2 ⟨rfl,h2⟩
 have f2:Fr0 w w2:=Fr.trans0 (by ((repeat' with_reducible first|assumption|exact frR|apply frD|apply frN|apply frA|apply frM|apply frC);all_goals (simp;try omega))) h2
 clear s0 s1 s2 s3 s4
 obtain ⟨-,s0,s1,s2,s3,s4⟩:=A0.out _ f2
 rw [HPR.out] at s4
 go_wp2_with fail
 refine (uedge_no _ G (A0.out _ (by ((repeat' with_reducible first|assumption|exact frR|apply frD|apply frN|apply frA|apply frM|apply frC);all_goals (simp;try omega)))).rep hd B eb (E0.out _ (by ((repeat' with_reducible first|assumption|exact frR|apply frD|apply frN|apply frA|apply frM|apply frC);all_goals (simp;try omega)))) a b hl).mono ?_
 rintro e w3 ⟨rfl,h3⟩
 have f3:Fr0 w w3:=Fr.trans0 (by ((repeat' with_reducible first|assumption|exact frR|apply frD|apply frN|apply frA|apply frM|apply frC);all_goals (simp;try omega))) h3
 have e4:=(E0.out _ f3).cell 4 (by decide)
 have e6:4 < w3.heap.size:=by
   have h1:=(E0.out _ f3).six
   have h2:=(E0.out _ f3).size
   omega
 go_wp2_with fail
 have hI:=is_ev (e:=.e 4) (E0.out (w3.alloc zBox) (by ((repeat' with_reducible first|assumption|exact frR|apply frD|apply frN|apply frA|apply frM|apply frC);all_goals (simp;try omega)))) (by simp [EV.ok]) 4 (by decide)
 have hh:(EV.e 4).has 4=true:=rfl
 rw [hh] at hI
 refine hI.mono ?_
 clear hI hh
 rintro e wE ⟨rfl,h4⟩
 have f4:Fr0 w wE:=Fr.trans0 (by ((repeat' with_reducible first|assumption|exact frR|apply frD|apply frN|apply frA|apply frM|apply frC);all_goals (simp;try omega))) h4
 clear s0 s1 s2 s3 s4 e4 e6
 obtain ⟨-,s0,s1,s2,s3,s4⟩:=A0.out _ f4
 rw [HPR.out] at s4
 have F4:=Lib.hid f4
 clear f1 f2 f3 h2 h3 h4 f4
 go_wp2_with fail
 try go_frame
 have PB:=Lib.hid (show Cells ((wE.alloc (Obj.map #[] 0)).alloc (eBox a b wE.heap.size 0)) (wE.heap.size+1) #[.string a,.string b,.map (some wE.heap.size),.int .i64 0,.nilIface] 144 from by
   have:=Cells.new (wE.alloc (Obj.map #[] 0)) #[.string a,.string b,.map (some wE.heap.size),.int .i64 0,.nilIface] 144
   simpa using this)
 have MB:=Lib.hid (show SM ((wE.alloc (Obj.map #[] 0)).alloc (eBox a b wE.heap.size 0)) wE.heap.size (ats []) from (SM.fresh wE).alloc _)
 have F2:=Lib.hid (show Fr0 w ((wE.alloc (Obj.map #[] 0)).alloc (eBox a b wE.heap.size 0)) from (F4.out.alloc _).alloc _)
 generalize (wE.alloc (Obj.map #[] 0)).alloc (eBox a b wE.heap.size 0)=W at *
 go_loopg [91] 1 (fun k c wr=>CEL W (wE.heap.size+1) wE.heap.size a b wt es k c wr)
 case atStart=>exact .inl ⟨rfl,rfl,rfl⟩
 case round =>
   rcases hrel with ⟨rfl,rfl,rfl⟩|⟨rfl,rfl,es',hpm,hc,hm,f⟩
   · have hcell:=(F2.out.cell (p:=⟨ob,0,none⟩) OB.out (fun q=>q)).trans O.out.1
     have z1:=F4.out.size
     have z2:=O.out.2.1.lt
     have z3:=O.out.2.2.lt
     have CV:=Lib.hid (cpe1 wr (wE.heap.size+1) wE.heap.size cb sm a b x y 0 wt es PB.out MB.out (O.out.2.1.fr F2.out (fun q=>q)) (O.out.2.2.fr F2.out (fun q=>q)) (by omega) (by omega))
     clear z1 z2 z3
     go_wp2_with (first
       | (go_at_call 196;refine CV.out.mono ?_;rintro e w3 ⟨rfl,es',hpm,hc',hm',f'⟩;have D:=hid4 hpm hc' hm' f';clear hpm hc' hm' f'))
     go_roundg 0
     case measure=>omega
     case rel=>exact .inr ⟨rfl,by simp,es',D.out⟩
   · have A:=hid4 hpm hc hm f
     clear hpm hc hm f
     have F3:=Lib.hid (show Fr0 w wr from (F2.out.trans A.out.2.2.2 fun k q=>.inr (by have:=F4.out.size;omega)))
     have HW:=(A0.out _ F3.out).rep
     have hb0:=A.out.2.1.cell 0 (.string a) rfl
     have hb1:=A.out.2.1.cell 1 (.string b) rfl
     have hb2:=A.out.2.1.cell 2 (.map (some wE.heap.size)) rfl
     have hb3:=A.out.2.1.cell 3 (.int .i64 wt) rfl
     have hb4:=A.out.2.1.cell 4 .nilIface rfl
     have hbl:=A.out.2.1.lt
     have HM:=A.out.2.2.1
     have hfr:wE.heap.size∉G.own:=fun q=>by have h1:=HG.out.lt _ q;have h2:=F4.out.size;omega
     have hkb:wE.heap.size≠G.kB:=by
       obtain ⟨cs,q,_⟩:=HG.out.k
       have h1:=q.lt
       have h2:=F4.out.size
       omega
     have HA:=Lib.hid (uadde _ G HW hd a b wE.heap.size wt es' HM hfr hkb hab hl ⟨p,findP_mem hp⟩ ⟨q,findP_mem hq⟩)
     have N:=hid2 hfr hkb
     clear HW HM hfr hkb
     go_wp2_with fail
     refine HA.out.mono ?_
     rintro e w9 ⟨rfl,h9⟩
     have H9:=Lib.hid h9
     clear h9
     go_wp2_with fail
     go_ret
     obtain ⟨r1,c',r2,r3⟩:=H9.out
     have s1:=F3.out.size
     have s2:=F4.out.size
     refine ⟨rfl,c',wE.heap.size,es',A.out.1,r2,(F3.out.mono fun _ q=>q.elim).trans r1 fun _ q=>.inl q,fun x hx => ?_,G.same_refl⟩
     simp only [GS.own,List.mem_cons,List.mem_append,List.map_append,List.map_cons,List.map_nil,List.not_mem_nil,or_false] at hx ⊢
     rcases hx with q|q|q|q|q|q|q
     · exact .inl (.inl q)
     · exact .inl (.inr (.inl q))
     · exact .inl (.inr (.inr (.inl q)))
     · rcases r3 x q with t|t
       · exact .inl (.inr (.inr (.inr (.inl t))))
       · exact .inr (by omega)
     · exact .inl (.inr (.inr (.inr (.inr (.inl q)))))
     · exact .inl (.inr (.inr (.inr (.inr (.inr q)))))
     · exact .inr (by omega)
theorem byK_eq {es es':List PP} (hp:es'.Perm es) (nd:(es.map (·.1)).Nodup):byK es'=byK es :=
 byK_of_perm nd ((mem_byK ((hp.map _).nodup_iff.2 nd)).trans hp) ((byK_sorted es').imp fun h=>ltB_asymm h)
theorem same_tr {G G1 G2:GS} (h:G.same G1) (g:G1.same G2):G.same G2:=by
 obtain ⟨a0,a1,a2,a3,a4,a5,a6,a7,a8,a9⟩:=h
 obtain ⟨b0,b1,b2,b3,b4,b5,b6,b7,b8,b9⟩:=g
 exact ⟨b0.trans a0,b1.trans a1,b2.trans a2,b3.trans a3,b4.trans a4,b5.trans a5,b6.trans a6,b7.trans a7,b8.trans a8,b9.trans a9⟩
theorem gs_pre {w w1 w2:World} {G G':GS} (f:Fr0 w w1) (g:GStep w1 G w2 G'):GStep w G w2 G' :=
 ⟨g.rep,(f.mono fun _ q=>q.elim).trans g.fr (fun _ hk=>.inl hk),fun b hb=>(g.own b hb).imp id fun q=>Nat.le_trans f.size q,g.same⟩
theorem GRep.hnd {w:World} {G:GS} (h:GRep w G):(G.pts.map (·.h)).Nodup:=by
 have:=h.s.v.nodup
 rw [h.vs,List.map_map] at this
 exact this
theorem GRep.kl {w:World} {G:GS} (h:GRep w G):G.kB < w.heap.size:=by
 obtain ⟨cs,q,_⟩:=h.k
 exact q.lt
structure Two2 (w:World) (G G2:GS):Prop where
 a:GRep w G
 b:GRep w G2
 dis:∀ x∈G.own,x∉G2.own
 ka:G.kB∉G2.own
 kb:G2.kB∉G.own
theorem Two2.sym {w:World} {G G2:GS} (h:Two2 w G G2):Two2 w G2 G:=⟨h.b,h.a,fun x hx hq=>h.dis x hq hx,h.kb,h.ka⟩
theorem Two2.fr {w w':World} {G G2:GS} (h:Two2 w G G2) (f:Fr0 w w'):Two2 w' G G2 :=
 ⟨h.a.fr f (fun _ _ q=>q) (fun q=>q),h.b.fr f (fun _ _ q=>q) (fun q=>q),h.dis,h.ka,h.kb⟩
theorem Two2.right {w w':World} {G G2 G3:GS} (h:Two2 w G G2) (g:GStep w G2 w' G3):Two2 w' G G3:=by
 refine ⟨h.a.fr g.fr (fun x hx hq=>h.dis x hx hq) h.ka,g.rep,fun x hx hq => ?_,fun hq => ?_,?_⟩
 · rcases g.own x hq with q|q
   · exact h.dis x hx q
   · have:=h.a.lt x hx;omega
 · rcases g.own _ hq with q|q
   · exact h.ka q
   · have:=h.a.kl;omega
 · rw [g.same.2.2.2.1];exact h.kb
theorem Two2.left {w w':World} {G G2 G3:GS} (h:Two2 w G G2) (g:GStep w G w' G3):Two2 w' G3 G2:=(h.sym.right g).sym
theorem Two2.upd {w w':World} {G G2:GS} (h:Two2 w G G2) {r:Nat} (f:Fr (· = r) w w') (h1:r∉G.own) (h2:r∉G2.own) (h3:r≠G.kB) (h4:r≠G2.kB):Two2 w' G G2 :=
 ⟨h.a.fr f (fun _ hb q=>h1 (q▸hb)) (fun q=>h3 q.symm),h.b.fr f (fun _ hb q=>h2 (q▸hb)) (fun q=>h4 q.symm),h.dis,h.ka,h.kb⟩
theorem perm_of_keys {α β:Type} {f:α→β} {ps qs:List α} (h:(ps.map f).Perm (qs.map f)) (hs:∀ p∈ps,p∈qs) (nd:(qs.map f).Nodup):ps.Perm qs:=by
 obtain ⟨l,hl,e⟩:=perm_map_inv h
 have key:∀ (ps l:List α),ps.map f=l.map f→(∀ p∈ps,p∈qs)→(∀ p∈l,p∈qs)→ps=l:=by
   intro ps
   induction ps with
   | nil=>intro l e _ _;cases l with|nil=>rfl|cons _ _=>cases e
   | cons p ps ih =>
     intro l e h1 h2
     cases l with
     | nil=>cases e
     | cons q l =>
       simp only [List.map_cons,List.cons.injEq] at e
       rw [inj_of_map nd (h1 p (.head _)) (h2 q (.head _)) e.1,ih l e.2 (fun x hx=>h1 x (.tail _ hx)) (fun x hx=>h2 x (.tail _ hx))]
 rw [key ps l e hs fun p hp=>hl.subset hp]
 exact hl
structure VF (w0:World) (G G2:GS) (B r:Nat) (l done rem:List (ByteArray × Nat)) (c:St1) (ps pts:List Pt) (wr:World):Prop where
 perm:(done ++ rem).Perm l
 it:IT wr r B (mp rem)
 hs:ps.map (·.h)=done.map (·.1)
 sub:∀ p∈ps,p∈G.pts
 sp:pts.map Pt.sp=ps.map Pt.sp
 step:GStep w0 G2 wr { G2 with c:=c,pts:=pts }
 two:Two2 wr G { G2 with c:=c,pts:=pts }
 oB:B∉({ G2 with c:=c,pts:=pts }:GS).own
 oR:r∉({ G2 with c:=c,pts:=pts }:GS).own
theorem sp_h {pts ps:List Pt} (h:pts.map Pt.sp=ps.map Pt.sp):pts.map (·.h)=ps.map (·.h):=by
 have:=congrArg (List.map SP.h) h
 rwa [List.map_map,List.map_map] at this
theorem VF.mid {w0 wr w3:World} {G G2:GS} {B r:Nat} {l done r1 r2 rem:List (ByteArray × Nat)} {c:St1} {ps pts:List Pt} {k:ByteArray} {n:Nat} (h:VF w0 G G2 B r l done rem c ps pts wr) (e:rem=r1 ++ (k,n) :: r2) (hu:Upd r wr w3) (h0:Two2 w0 G G2) (hr:w0.heap.size≤r)
   (hl:(l.map (·.1)).Perm (G.pts.map (·.h))):Two2 w3 G { G2 with c:=c,pts:=pts }∧(∃ p∈G.pts,p.h=k∧findP G.pts k=some p)∧findP pts k=none:=by
 subst e
 have hk:k∈l.map (·.1):=(h.perm.map (·.1)).subset (by simp)
 obtain ⟨p,hp,e⟩:=List.mem_map.1 (hl.subset hk)
 obtain ⟨q,hq⟩:=findP_some_of ⟨p,hp,e⟩
 refine ⟨h.two.upd (Fr.of_upd hu) (fun q=>by have:=h0.a.lt r q;omega) h.oR (fun q=>by have:=h0.a.kl;omega) (fun q=>by have:=h0.b.kl;have e:r=G2.kB:=q;omega),⟨q,(findP_mem hq).1,(findP_mem hq).2,hq⟩,?_⟩
 rw [findP_none]
 intro x hx ex
 have h1:k∈pts.map (·.h):=List.mem_map.2 ⟨x,hx,ex⟩
 rw [sp_h h.sp,h.hs] at h1
 have nd:((done ++ (r1 ++ (k,n) :: r2)).map (·.1)).Nodup:=((h.perm.map (·.1)).trans hl).nodup_iff.2 h0.a.hnd
 rw [List.map_append,List.nodup_append] at nd
 exact nd.2.2 k h1 k (by simp) rfl
theorem VF.next {w0 wr w3 w4 w':World} {G G2:GS} {B r:Nat} {l done r1 r2 rem:List (ByteArray × Nat)} {c c':St1} {ps pts:List Pt} {k:ByteArray} {n mb:Nat} {p:Pt} {es':List PP} (h:VF w0 G G2 B r l done rem c ps pts wr) (e:rem=r1 ++ (k,n) :: r2) (hu:Upd r wr w3) (h0:Two2 w0 G G2) (hr:w0.heap.size≤r)
   (hit:IT w3 r B (mp (r1 ++ r2))) (hl:(l.map (·.1)).Perm (G.pts.map (·.h))) (hp:p∈G.pts) (hk:p.h=k) (f:Fr0 w3 w4) (g:GStep w4 { G2 with c:=c,pts:=pts } w' { G2 with c:=c',pts:=pts ++ [⟨k,p.v,p.wt,mb,es'⟩] }) (hes:es'.Perm p.es) :
   VF w0 G G2 B r l (done ++ [(k,n)]) (r1 ++ r2) c' (ps ++ [p]) (pts ++ [⟨k,p.v,p.wt,mb,es'⟩]) w':=by
 have T3:=(h.mid e hu h0 hr hl).1
 have T4:=T3.fr f
 subst e
 have hit4:IT w4 r B (mp (r1 ++ r2)):=hit.fr f (fun q=>q) (fun q=>q)
 have lt:=hit4.lt
 refine ⟨?_,hit4.fr g.fr h.oB h.oR,?_,?_,?_,?_,T4.right g,fun hq => ?_,fun hq => ?_⟩
 · refine List.Perm.trans ?_ h.perm
   simp only [List.append_assoc,List.singleton_append]
   exact List.Perm.append_left done List.perm_middle.symm
 · rw [List.map_append,List.map_append,h.hs]
   simp [hk]
 · intro x hx
   rcases List.mem_append.1 hx with q|q
   · exact h.sub x q
   · simp only [List.mem_singleton] at q;subst q;exact hp
 · rw [List.map_append,List.map_append,h.sp]
   have e2:byK es'=byK p.es:=byK_eq hes (ats_nodup (T4.a.pa p hp))
   simp only [List.map_cons,List.map_nil,Pt.sp,e2,hk]
 · refine ⟨g.rep,((h.step.fr.trans (Fr.of_upd hu) fun q hq=>.inr (by rw [hq];exact hr)).trans0 f).trans g.fr fun q hq=>h.step.own q hq,fun x hx => ?_,same_tr h.step.same g.same⟩
   rcases g.own x hx with q|q
   · exact h.step.own x q
   · refine .inr (Nat.le_trans ?_ q)
     exact Nat.le_trans (Nat.le_trans h.step.fr.size (Fr.of_upd hu).size) f.size
 · rcases g.own _ hq with q|q
   · exact h.oB q
   · omega
 · rcases g.own _ hq with q|q
   · exact h.oR q
   · omega
theorem VF.last {w0 wr:World} {G G2:GS} {B r:Nat} {l done rem:List (ByteArray × Nat)} {c:St1} {ps pts:List Pt} (h:VF w0 G G2 B r l done rem c ps pts wr) (e:rem = []) (h0:Two2 w0 G G2) (hl:(l.map (·.1)).Perm (G.pts.map (·.h))):(pts.map Pt.sp).Perm G.st.ps:=by
 subst e
 have hp:(done.map (·.1)).Perm (G.pts.map (·.h)):=by have:=h.perm;rw [List.append_nil] at this;exact (this.map _).trans hl
 rw [h.sp]
 exact (perm_of_keys (f:=Pt.h) (by rw [h.hs];exact hp) h.sub h0.a.hnd).map _
end Go.Proofs.YtbafaadmlpamiaaGreatDoor
