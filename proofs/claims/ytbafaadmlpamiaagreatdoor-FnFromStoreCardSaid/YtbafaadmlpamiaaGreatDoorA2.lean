import Derived.Test.YtbafaadmlpamiaaGreatDoorProg
import Derived.Test.YtbafaadmlpamiaaGreatDoorA1
import Derived.Outline
import Derived.WalkLawsBesides
import Derived.WalkSpells
import Derived.RegionTactic
import Derived.ChangeAlike
import Derived.StillTailTactics
import Derived.KernelRfl
import Derived.Lib.Hide
import Derived.Deep.RegionWith
import Derived.Deep.LoopGhost
import Derived.Maps.RangeWalk
set_option maxRecDepth 100000
set_option maxHeartbeats 1000000
namespace Go.Proofs.YtbafaadmlpamiaaGreatDoor
open Go Go.Hy Go.RowKit
theorem zE (w:World):(zeroValue 144).run Tryz.prog w=.ok (.agg #[.string ⟨#[]⟩,.string ⟨#[]⟩,.map none,.int .i64 0,.nilIface]) w:=by kernel_rfl
theorem zM (w:World):(zeroValue 154).run Tryz.prog w=.ok (.map none) w:=by kernel_rfl
theorem zP (w:World):(zeroValue 137).run Tryz.prog w=.ok (.agg #[.map none,.int .i64 0]) w:=by kernel_rfl
theorem zS (w:World):(zeroValue 9).run Tryz.prog w=.ok (.string ⟨#[]⟩) w:=by kernel_rfl
abbrev zEv:Value:=.agg #[.string ⟨#[]⟩,.string ⟨#[]⟩,.map none,.int .i64 0,.nilIface]
abbrev zPv:Value:=.agg #[.map none,.int .i64 0]
abbrev pv (a:Nat) (wt:Int):Value:=.agg #[.map (some a),.int .i64 wt]
abbrev ev (x y:ByteArray) (a:Nat) (wt:Int):Value:=.agg #[.string x,.string y,.map (some a),.int .i64 wt,.nilIface]
def mp (l:List (ByteArray × Nat)):Ents:=l.map fun p=>(p.1,.map (some p.2))
def findK (l:List (ByteArray × Nat)) (a:ByteArray):Option Nat:=(l.find? fun p=>decide (p.1=a)).map (·.2)
theorem look_mp (l:List (ByteArray × Nat)) (a:ByteArray):lookS (mp l) a=(findK l a).map fun b=>.map (some b):=by
 unfold findK
 induction l with
 | nil=>rfl
 | cons p l ih =>
   unfold mp at ih ⊢
   by_cases hp:p.1=a
   · simp [lookS,hp]
   · simpa [lookS,hp] using ih
theorem findK_mem {l:List (ByteArray × Nat)} {a:ByteArray} {b:Nat} (h:findK l a=some b):(a,b)∈l:=by
 unfold findK at h
 cases hf:l.find? fun p=>decide (p.1=a) with
 | none=>rw [hf] at h;cases h
 | some p =>
   rw [hf] at h
   have h1:=List.find?_some hf
   have h2:=List.mem_of_find?_eq_some hf
   simp only [decide_eq_true_eq] at h1
   simp only [Option.map_some,Option.some.injEq] at h
   obtain ⟨x,y⟩:=p
   subst h1;subst h
   exact h2
theorem findK_none {l:List (ByteArray × Nat)} {a:ByteArray}:findK l a=none↔∀ p∈l,p.1≠a:=by
 simp [findK]
theorem put_mp_new {l:List (ByteArray × Nat)} {a:ByteArray} (h:findK l a=none) (n:Nat):putS (mp l) a (.map (some n))=mp (l ++ [(a,n)]):=by
 rw [put_new (by rw [look_mp,h];rfl)]
 simp [mp]
structure Side (w:World) (B:Nat) (l:List (ByteArray × Nat)) (inn:Nat→Ents):Prop where
 m:SM w B (mp l)
 e:∀ x∈l,SM w x.2 (inn x.2)
theorem Side.fr {w w':World} {B:Nat} {l:List (ByteArray × Nat)} {inn:Nat→Ents} {S:Nat→Prop} (h:Side w B l inn) (f:Fr S w w') (hB:¬ S B) (hl:∀ x∈l,¬ S x.2):Side w' B l inn :=
 ⟨h.m.fr f hB,fun x hx=>(h.e x hx).fr f (hl x hx)⟩
structure St1 where
 vB:Nat
 pB:Nat
 oB:Nat
 iB:Nat
 vs:Ents
 ps:Ents
 outs:List (ByteArray × Nat)
 inns:List (ByteArray × Nat)
 inn:Nat→Ents
def St1.own (c:St1):List Nat:=c.vB :: c.pB :: c.oB :: c.iB :: (c.outs.map (·.2) ++ c.inns.map (·.2))
structure SRep (w:World) (s:Nat) (c:St1):Prop where
 st:Cells w s #[.map (some c.vB),.map (some c.pB),.map (some c.oB),.map (some c.iB)] 181
 v:SM w c.vB c.vs
 p:SM w c.pB c.ps
 o:Side w c.oB c.outs c.inn
 i:Side w c.iB c.inns c.inn
 nd:c.own.Nodup
theorem SRep.lt {w:World} {s:Nat} {c:St1} (h:SRep w s c):∀ b∈c.own,b < w.heap.size:=by
 intro b hb
 simp only [St1.own,List.mem_cons,List.mem_append,List.mem_map] at hb
 rcases hb with rfl|rfl|rfl|rfl|⟨x,hx,rfl⟩|⟨x,hx,rfl⟩
 · exact h.v.lt
 · exact h.p.lt
 · exact h.o.m.lt
 · exact h.i.m.lt
 · exact (h.o.e x hx).lt
 · exact (h.i.e x hx).lt
theorem SRep.ne {w:World} {s:Nat} {c:St1} (h:SRep w s c):∀ b∈c.own,¬ s=b:=by
 intro b hb
 simp only [St1.own,List.mem_cons,List.mem_append,List.mem_map] at hb
 rcases hb with rfl|rfl|rfl|rfl|⟨x,hx,rfl⟩|⟨x,hx,rfl⟩
 · exact fun e=>h.v.ne_cells h.st e.symm
 · exact fun e=>h.p.ne_cells h.st e.symm
 · exact fun e=>h.o.m.ne_cells h.st e.symm
 · exact fun e=>h.i.m.ne_cells h.st e.symm
 · exact fun e=>(h.o.e x hx).ne_cells h.st e.symm
 · exact fun e=>(h.i.e x hx).ne_cells h.st e.symm
theorem SRep.fr {w w':World} {s:Nat} {c:St1} {S:Nat→Prop} (h:SRep w s c) (f:Fr S w w') (hs:¬ S s) (hn:∀ b∈c.own,¬ S b):SRep w' s c:=by
 refine ⟨h.st.fr f hs,h.v.fr f (hn _ ?_),h.p.fr f (hn _ ?_),h.o.fr f (hn _ ?_) (fun x hx=>hn _ ?_),h.i.fr f (hn _ ?_) (fun x hx=>hn _ ?_),h.nd⟩
 all_goals first
   | (simp only [St1.own,List.mem_cons,true_or,or_true];done)
   | (simp only [St1.own,List.mem_cons,List.mem_append,List.mem_map];exact .inr (.inr (.inr (.inr (.inl ⟨x,hx,rfl⟩)))))
   | (simp only [St1.own,List.mem_cons,List.mem_append,List.mem_map];exact .inr (.inr (.inr (.inr (.inr ⟨x,hx,rfl⟩)))))
theorem SRep.facts {w:World} {s:Nat} {c:St1} (h:SRep w s c) :
   (w.cell? ⟨s,0,none⟩=some (.map (some c.vB))∧w.cell? ⟨s,1,none⟩=some (.map (some c.pB))∧w.cell? ⟨s,2,none⟩=some (.map (some c.oB))∧w.cell? ⟨s,3,none⟩=some (.map (some c.iB))) ∧
   s < w.heap.size∧(¬ s=c.vB∧¬ s=c.pB∧¬ s=c.oB∧¬ s=c.iB) ∧
   (¬ w.heap.size=c.vB∧¬ w.heap.size=c.pB∧¬ w.heap.size=c.oB∧¬ w.heap.size=c.iB):=by
 have hl:=h.lt
 have hn:=h.ne
 have m:∀ b,b=c.vB∨b=c.pB∨b=c.oB∨b=c.iB→b∈c.own:=by
   intro b hb
   simp only [St1.own,List.mem_cons]
   rcases hb with h|h|h|h
   · exact .inl h
   · exact .inr (.inl h)
   · exact .inr (.inr (.inl h))
   · exact .inr (.inr (.inr (.inl h)))
 refine ⟨⟨h.st.cell 0 _ rfl,h.st.cell 1 _ rfl,h.st.cell 2 _ rfl,h.st.cell 3 _ rfl⟩,h.st.lt,⟨hn _ (m _ (by simp)),hn _ (m _ (by simp)),hn _ (m _ (by simp)),hn _ (m _ (by simp))⟩,?_⟩
 have q:∀ b∈c.own,¬ w.heap.size=b:=fun b hb e=>by have:=hl b hb;omega
 exact ⟨q _ (m _ (by simp)),q _ (m _ (by simp)),q _ (m _ (by simp)),q _ (m _ (by simp))⟩
def edgeAt (l:List (ByteArray × Nat)) (inn:Nat→Ents) (a b:ByteArray):Option Value:=(findK l a).bind fun n=>lookS (inn n) b
theorem SRep.setV {w w':World} {s:Nat} {c:St1} (h:SRep w s c) (f:Fr (fun b=>b=c.vB∨b=c.pB) w w') {vs ps:Ents} (hv:SM w' c.vB vs) (hp:SM w' c.pB ps):SRep w' s { c with vs:=vs,ps:=ps }:=by
 have hnd:=h.nd
 simp only [St1.own,List.nodup_cons,List.mem_cons,List.mem_append,List.mem_map,not_or] at hnd
 obtain ⟨⟨a1,a2,a3,a4,a5⟩,⟨b1,b2,b3,b4⟩,_⟩:=hnd
 obtain ⟨_,_,⟨n1,n2,_,_⟩,_⟩:=h.facts
 refine ⟨h.st.fr f (by simp [n1,n2]),hv,hp,h.o.fr f ?_ ?_,h.i.fr f ?_ ?_,h.nd⟩
 · rintro (e|e)
   · exact a2 e.symm
   · exact b1 e.symm
 · rintro x hx (e|e)
   · exact a4 ⟨x,hx,e⟩
   · exact b3 ⟨x,hx,e⟩
 · rintro (e|e)
   · exact a3 e.symm
   · exact b2 e.symm
 · rintro x hx (e|e)
   · exact a5 ⟨x,hx,e⟩
   · exact b4 ⟨x,hx,e⟩
theorem edge_none (w:World) (s:Nat) (c:St1) (h:SRep w s c) (a b:ByteArray) (e4:Value) (h4:w.cell? ⟨4,0,none⟩=some e4) (g4:4 < w.heap.size) (hn:findK c.outs a=none) :
   Calls Tryz.prog 219 #[.pointer (some ⟨s,0,none⟩),.string a,.string b] w fun e w'=>e=.returned (.tuple #[zEv,e4])∧Fr0 w w':=by
 obtain ⟨⟨c0,c1,c2,c3⟩,hs,⟨n0,n1,n2,n3⟩,q0,q1,q2,q3⟩:=h.facts
 have HL:=Lib.hid (show lookS (mp c.outs) a=none by rw [look_mp,hn];rfl)
 have ho:=Lib.hid h.o.m
 clear h hn
 go_enter Tryz.func219,Tryz.ntmps219
 go_wp2_with (at_lookup;refine wl_look2N 152 9 154 Tryz.underlying152 Tryz.underlying9 (.map none) zM rfl (.tmp 15) (.tmp 16) rfl (ho.out.alloc _) a HL.out rfl rfl ?_)
 go_region
 all_goals go_wp2
 all_goals exact bodyPost_ret (v:=.tuple #[zEv,e4]) (by simp [results,Tryz.results219,go_sem]) rfl ⟨rfl,by ((repeat' with_reducible first|assumption|exact frR|apply frD|apply frN|apply frA|apply frM|apply frC);all_goals (simp;try omega))⟩
theorem edge_no (w:World) (s:Nat) (c:St1) (h:SRep w s c) (a b:ByteArray) (e4:Value) (h4:w.cell? ⟨4,0,none⟩=some e4) (g4:4 < w.heap.size) (n:Nat) (hn:findK c.outs a=some n) (hl:lookS (c.inn n) b=none) :
   Calls Tryz.prog 219 #[.pointer (some ⟨s,0,none⟩),.string a,.string b] w fun e w'=>e=.returned (.tuple #[zEv,e4])∧Fr0 w w':=by
 obtain ⟨⟨c0,c1,c2,c3⟩,hs,⟨n0,n1,n2,n3⟩,q0,q1,q2,q3⟩:=h.facts
 have HL:=Lib.hid (show lookS (mp c.outs) a=some (.map (some n)) by rw [look_mp,hn];rfl)
 have HI:=Lib.hid hl
 have ho:=Lib.hid h.o.m
 have hi:=Lib.hid (h.o.e _ (findK_mem hn))
 clear h hn hl
 go_enter Tryz.func219,Tryz.ntmps219
 go_wp2_with (first
   | (at_lookup;refine wl_look2S 152 9 154 Tryz.underlying152 Tryz.underlying9 (.map none) zM rfl (.tmp 15) (.tmp 16) rfl (ho.out.alloc _) a _ HL.out rfl rfl ?_)
   | (at_lookup;refine wl_look2N 154 9 144 Tryz.underlying154 Tryz.underlying9 zEv zE rfl (.tmp 25) (.tmp 26) rfl (hi.out.alloc _) b HI.out rfl rfl ?_))
 go_region
 all_goals go_wp2
 all_goals exact bodyPost_ret (v:=.tuple #[zEv,e4]) (by simp [results,Tryz.results219,go_sem]) rfl ⟨rfl,by ((repeat' with_reducible first|assumption|exact frR|apply frD|apply frN|apply frA|apply frM|apply frC);all_goals (simp;try omega))⟩
theorem edge_yes (w:World) (s:Nat) (c:St1) (h:SRep w s c) (a b:ByteArray) (n:Nat) (x y:ByteArray) (at_:Nat) (wt:Int) (hn:findK c.outs a=some n) (hl:lookS (c.inn n) b=some (ev x y at_ wt)) :
   Calls Tryz.prog 219 #[.pointer (some ⟨s,0,none⟩),.string a,.string b] w fun e w'=>e=.returned (.tuple #[ev x y at_ wt,.nilIface])∧Fr0 w w':=by
 obtain ⟨⟨c0,c1,c2,c3⟩,hs,⟨n0,n1,n2,n3⟩,q0,q1,q2,q3⟩:=h.facts
 have HL:=Lib.hid (show lookS (mp c.outs) a=some (.map (some n)) by rw [look_mp,hn];rfl)
 have HI:=Lib.hid hl
 have ho:=Lib.hid h.o.m
 have hi:=Lib.hid (h.o.e _ (findK_mem hn))
 clear h hn hl
 go_enter Tryz.func219,Tryz.ntmps219
 go_wp2_with (first
   | (at_lookup;refine wl_look2S 152 9 154 Tryz.underlying152 Tryz.underlying9 (.map none) zM rfl (.tmp 15) (.tmp 16) rfl (ho.out.alloc _) a _ HL.out rfl rfl ?_)
   | (at_lookup;refine wl_look2S 154 9 144 Tryz.underlying154 Tryz.underlying9 zEv zE rfl (.tmp 25) (.tmp 26) rfl (hi.out.alloc _) b _ HI.out rfl rfl ?_))
 exact bodyPost_ret (v:=.tuple #[ev x y at_ wt,.nilIface]) (by simp [results,Tryz.results219,go_sem]) rfl ⟨rfl,by ((repeat' with_reducible first|assumption|exact frR|apply frD|apply frN|apply frA|apply frM|apply frC);all_goals (simp;try omega))⟩
theorem addv_new (w:World) (s:Nat) (c:St1) (h:SRep w s c) (k v:ByteArray) (a:Nat) (wt:Int) (hn:lookS c.vs k=none) :
   Calls Tryz.prog 217 #[.pointer (some ⟨s,0,none⟩),.string k,.string v,pv a wt] w fun e w' =>
     e=.returned .nilIface∧SRep w' s { c with vs:=putS c.vs k (.string v),ps:=putS c.ps k (pv a wt) }∧Fr (fun b=>b=c.vB∨b=c.pB) w w':=by
 obtain ⟨⟨c0,c1,c2,c3⟩,hs,⟨n0,n1,n2,n3⟩,q0,q1,q2,q3⟩:=h.facts
 have n4:c.pB≠c.vB:=by have:=h.nd;simp [St1.own] at this;omega
 have HN:=Lib.hid hn
 have H:=Lib.hid h
 have N4:=Lib.hid n4
 clear h hn n4
 go_enter Tryz.func217,Tryz.ntmps217
 go_wp2_with (first
   | (at_lookup;refine wl_look2N 135 9 9 Tryz.underlying135 Tryz.underlying9 (.string ⟨#[]⟩) zS rfl (.tmp 15) (.tmp 16) rfl (H.out.v.alloc _) k HN.out rfl rfl ?_)
   | (at_mapUpdate;refine wl_put 135 9 9 Tryz.underlying135 Tryz.underlying9 rfl (.tmp 25) (.tmp 26) (.tmp 27) rfl (H.out.v.alloc _) k (.string v) rfl rfl rfl ?_;intro arr1 k1 hm1))
 go_frame
 (refine region_tail 6 (by kernel_rfl) (by kernel_rfl) ?_;simp only [List.take_succ_cons,List.take_zero,List.drop_succ_cons,List.drop_zero];(repeat still_step);refine wpStill_nil ?_)
 refine wl_put 179 9 137 Tryz.underlying179 Tryz.underlying9 rfl (.tmp 31) (.tmp 32) (.tmp 33) rfl ((H.out.p.alloc _).setM N4.out _ _).drew k (pv a wt) rfl rfl rfl ?_
 intro arr2 k2 hm2
 go_wp2
 go_ret
 have f:Fr (fun b=>b=c.vB∨b=c.pB) w (setM (setM (w.alloc (.cells #[.map (some a),.int .i64 wt] 137)) c.vB arr1 k1) c.pB arr2 k2).drew:=by ((repeat' with_reducible first|assumption|exact frR|apply frD|apply frN|apply frA|apply frM|apply frC);all_goals (simp;try omega))
 exact ⟨rfl,H.out.setV f ((hm1.drew.setM (Ne.symm N4.out) _ _)) hm2,f⟩
theorem addv_old (w:World) (s:Nat) (c:St1) (h:SRep w s c) (k v u:ByteArray) (a:Nat) (wt:Int) (e0:Value) (g0:w.cell? ⟨0,0,none⟩=some e0) (l0:0 < w.heap.size) (hn:lookS c.vs k=some (.string u)) :
   Calls Tryz.prog 217 #[.pointer (some ⟨s,0,none⟩),.string k,.string v,pv a wt] w fun e w'=>e=.returned e0∧Fr0 w w':=by
 obtain ⟨⟨c0,c1,c2,c3⟩,hs,⟨n0,n1,n2,n3⟩,q0,q1,q2,q3⟩:=h.facts
 have HN:=Lib.hid hn
 have H:=Lib.hid h
 clear h hn
 go_enter Tryz.func217,Tryz.ntmps217
 go_wp2_with (first
   | (at_lookup;refine wl_look2S 135 9 9 Tryz.underlying135 Tryz.underlying9 (.string ⟨#[]⟩) zS rfl (.tmp 15) (.tmp 16) rfl (H.out.v.alloc _) k _ HN.out rfl rfl ?_))
 go_ret
 exact ⟨rfl,by ((repeat' with_reducible first|assumption|exact frR|apply frD|apply frN|apply frA|apply frM|apply frC);all_goals (simp;try omega))⟩
theorem vertex_no (w:World) (s:Nat) (c:St1) (h:SRep w s c) (k:ByteArray) (e1:Value) (g1:w.cell? ⟨1,0,none⟩=some e1) (l1:1 < w.heap.size) (hn:lookS c.vs k=none) :
   Calls Tryz.prog 225 #[.pointer (some ⟨s,0,none⟩),.string k] w fun e w'=>e=.returned (.tuple #[.string ⟨#[]⟩,zPv,e1])∧Fr0 w w':=by
 obtain ⟨⟨c0,c1,c2,c3⟩,hs,⟨n0,n1,n2,n3⟩,q0,q1,q2,q3⟩:=h.facts
 have HN:=Lib.hid hn
 have H:=Lib.hid h
 clear h hn
 go_enter Tryz.func225,Tryz.ntmps225
 go_wp2_with (first
   | (at_lookup;refine wl_look2N 135 9 9 Tryz.underlying135 Tryz.underlying9 (.string ⟨#[]⟩) zS rfl (.tmp 14) (.tmp 15) rfl (H.out.v.alloc _) k HN.out rfl rfl ?_))
 go_region
 all_goals go_wp2
 all_goals exact bodyPost_ret (v:=.tuple #[.string ⟨#[]⟩,zPv,e1]) (by simp [results,Tryz.results225,go_sem]) rfl ⟨rfl,by ((repeat' with_reducible first|assumption|exact frR|apply frD|apply frN|apply frA|apply frM|apply frC);all_goals (simp;try omega))⟩
theorem vertex_yes (w:World) (s:Nat) (c:St1) (h:SRep w s c) (k v:ByteArray) (a:Nat) (wt:Int) (hn:lookS c.vs k=some (.string v)) (hp:lookS c.ps k=some (pv a wt)) :
   Calls Tryz.prog 225 #[.pointer (some ⟨s,0,none⟩),.string k] w fun e w'=>e=.returned (.tuple #[.string v,pv a wt,.nilIface])∧Fr0 w w':=by
 obtain ⟨⟨c0,c1,c2,c3⟩,hs,⟨n0,n1,n2,n3⟩,q0,q1,q2,q3⟩:=h.facts
 have HN:=Lib.hid hn
 have HP:=Lib.hid hp
 have H:=Lib.hid h
 clear h hn hp
 go_enter Tryz.func225,Tryz.ntmps225
 go_wp2_with (first
   | (at_lookup;refine wl_look2S 135 9 9 Tryz.underlying135 Tryz.underlying9 (.string ⟨#[]⟩) zS rfl (.tmp 14) (.tmp 15) rfl (H.out.v.alloc _) k _ HN.out rfl rfl ?_)
   | (at_lookup;refine wl_look1S 179 9 137 Tryz.underlying179 Tryz.underlying9 (.agg #[.map none,.int .i64 0]) zP rfl (.tmp 27) (.tmp 28) rfl (H.out.p.alloc _) k _ HP.out rfl rfl ?_))
 go_region
 all_goals go_wp2
 all_goals exact bodyPost_ret (v:=.tuple #[.string v,pv a wt,.nilIface]) (by simp [results,Tryz.results225,go_sem]) rfl ⟨rfl,by ((repeat' with_reducible first|assumption|exact frR|apply frD|apply frN|apply frA|apply frM|apply frC);all_goals (simp;try omega))⟩
theorem vcount (w:World) (s:Nat) (c:St1) (h:SRep w s c) :
   Calls Tryz.prog 226 #[.pointer (some ⟨s,0,none⟩)] w fun e w'=>e=.returned (.tuple #[.int .i64 c.vs.length,.nilIface])∧w=w':=by
 obtain ⟨⟨c0,c1,c2,c3⟩,hs,⟨n0,n1,n2,n3⟩,q0,q1,q2,q3⟩:=h.facts
 have H:=Lib.hid h
 clear h
 go_enter Tryz.func226,Tryz.ntmps226
 go_wp2_with (first
   | (at_len;refine wl_len 135 9 9 Tryz.underlying135 rfl (.tmp 7) rfl H.out.v rfl ?_))
 go_ret2
 exact ⟨rfl,rfl⟩
def upd (inn:Nat→Ents) (b:Nat) (es:Ents):Nat→Ents:=fun x=>if x=b then es else inn x
theorem upd_same (inn:Nat→Ents) (b:Nat) (es:Ents):upd inn b es b=es:=by simp [upd]
theorem upd_other (inn:Nat→Ents) (b:Nat) (es:Ents) {x:Nat} (h:x≠b):upd inn b es x=inn x:=by simp [upd,h]
theorem findK_inj {l:List (ByteArray × Nat)} (nd:(l.map (·.2)).Nodup) {x y:ByteArray} {n:Nat} (hx:findK l x=some n) (hy:findK l y=some n):x=y:=by
 have h1:=findK_mem hx
 have h2:=findK_mem hy
 clear hx hy
 induction l with
 | nil=>cases h1
 | cons p l ih =>
   simp only [List.map_cons,List.nodup_cons] at nd
   have no:∀ z,(z,n)∈l→p.2≠n:=fun z hz e=>nd.1 (by rw [e];exact List.mem_map.2 ⟨_,hz,rfl⟩)
   rcases List.mem_cons.1 h1 with e1|e1
   · rcases List.mem_cons.1 h2 with e2|e2
     · rw [← e1] at e2;exact (Prod.mk.inj e2).1.symm
     · exact absurd (by rw [← e1]) (no _ e2)
   · rcases List.mem_cons.1 h2 with e2|e2
     · exact absurd (by rw [← e2]) (no _ e1)
     · exact ih nd.2 e1 e2
theorem findK_append_new {l:List (ByteArray × Nat)} {k:ByteArray} (h:findK l k=none) (n:Nat) (x:ByteArray):findK (l ++ [(k,n)]) x=if x=k then some n else findK l x:=by
 unfold findK at *
 rw [List.find?_append]
 by_cases e:x=k
 · subst e
   have:(l.find? fun p=>decide (p.1=x))=none:=by
     cases hf:l.find? fun p=>decide (p.1=x) with
     | none=>rfl
     | some _=>rw [hf] at h;cases h
   simp [this]
 · have:([(k,n)].find? fun p=>decide (p.1=x))=none:=by simp [Ne.symm e]
   rw [this,if_neg e]
   simp
theorem half_old {l:List (ByteArray × Nat)} {inn:Nat→Ents} {k t:ByteArray} {n:Nat} {v:Value} (hn:findK l k=some n) (nd:(l.map (·.2)).Nodup) (x y:ByteArray) :
   edgeAt l (upd inn n (putS (inn n) t v)) x y=if x=k∧y=t then some v else edgeAt l inn x y:=by
 unfold edgeAt
 by_cases e:x=k
 · subst e
   rw [hn]
   simp only [Option.bind_some,upd_same,true_and]
   by_cases ey:y=t
   · subst ey;rw [lookS_put_same,if_pos rfl]
   · rw [lookS_put_other _ _ _ _ ey,if_neg ey]
 · rw [if_neg (fun h=>e h.1)]
   cases hf:findK l x with
   | none=>rfl
   | some m =>
     have:m≠n:=fun q=>e (findK_inj nd (q▸hf) hn)
     simp only [Option.bind_some,upd_other _ _ _ this]
theorem half_new {l:List (ByteArray × Nat)} {inn:Nat→Ents} {k t:ByteArray} {n:Nat} {v:Value} (hn:findK l k=none) (hm:∀ x∈l,x.2≠n) (x y:ByteArray) :
   edgeAt (l ++ [(k,n)]) (upd inn n [(t,v)]) x y=if x=k∧y=t then some v else edgeAt l inn x y:=by
 unfold edgeAt
 rw [findK_append_new hn]
 by_cases e:x=k
 · subst e
   rw [if_pos rfl,hn]
   simp only [Option.bind_some,upd_same,true_and,Option.bind_none]
   by_cases ey:y=t
   · subst ey;simp [lookS]
   · rw [if_neg ey];simp [lookS,Ne.symm ey]
 · rw [if_neg e,if_neg (fun h=>e h.1)]
   cases hf:findK l x with
   | none=>rfl
   | some m =>
     have:m≠n:=hm _ (findK_mem hf)
     simp only [Option.bind_some,upd_other _ _ _ this]
theorem half_off {l:List (ByteArray × Nat)} {inn:Nat→Ents} {n:Nat} {es:Ents} (hm:∀ x∈l,x.2≠n) (x y:ByteArray):edgeAt l (upd inn n es) x y=edgeAt l inn x y:=by
 unfold edgeAt
 cases hf:findK l x with
 | none=>rfl
 | some m=>simp only [Option.bind_some,upd_other _ _ _ (hm _ (findK_mem hf))]
def Half (size:Nat) (l:List (ByteArray × Nat)) (inn:Nat→Ents) (k t:ByteArray) (v:Value) (l':List (ByteArray × Nat)) (n:Nat) (es:Ents):Prop :=
 (l'=l∧findK l k=some n∧es=putS (inn n) t v)∨(l'=l ++ [(k,n)]∧findK l k=none∧size≤n∧es = [(t,v)])
theorem St1.nodup {c:St1} (h:c.own.Nodup):(c.outs.map (·.2)).Nodup∧(c.inns.map (·.2)).Nodup∧(∀ x∈c.outs, ∀ y∈c.inns,x.2≠y.2) ∧
   (∀ x∈c.outs,x.2≠c.vB∧x.2≠c.pB∧x.2≠c.oB∧x.2≠c.iB)∧(∀ x∈c.inns,x.2≠c.vB∧x.2≠c.pB∧x.2≠c.oB∧x.2≠c.iB) ∧
   (c.vB≠c.pB∧c.vB≠c.oB∧c.vB≠c.iB∧c.pB≠c.oB∧c.pB≠c.iB∧c.oB≠c.iB):=by
 simp only [St1.own,List.nodup_cons,List.mem_cons,List.mem_append,List.mem_map,not_or,List.nodup_append] at h
 obtain ⟨⟨a1,a2,a3,a4,a5⟩,⟨b1,b2,b3,b4⟩,⟨d1,d2,d3⟩,⟨g1,g2⟩,⟨u1,u2,u3⟩⟩:=h
 refine ⟨u1,u2,fun x hx y hy=>u3 _ ⟨x,hx,rfl⟩ _ ⟨y,hy,rfl⟩,fun x hx=>⟨?_,?_,?_,?_⟩,fun x hx=>⟨?_,?_,?_,?_⟩,a1,a2,a3,b1,b2,d1⟩
 · exact fun e=>a4 ⟨x,hx,e⟩
 · exact fun e=>b3 ⟨x,hx,e⟩
 · exact fun e=>d2 ⟨x,hx,e⟩
 · exact fun e=>g1 ⟨x,hx,e⟩
 · exact fun e=>a5 ⟨x,hx,e⟩
 · exact fun e=>b4 ⟨x,hx,e⟩
 · exact fun e=>d3 ⟨x,hx,e⟩
 · exact fun e=>g2 ⟨x,hx,e⟩
theorem St1.mem_outs {c:St1} {x:ByteArray × Nat} (h:x∈c.outs):x.2∈c.own:=by
 simp only [St1.own,List.mem_cons,List.mem_append,List.mem_map];exact .inr (.inr (.inr (.inr (.inl ⟨x,h,rfl⟩))))
theorem St1.mem_inns {c:St1} {x:ByteArray × Nat} (h:x∈c.inns):x.2∈c.own:=by
 simp only [St1.own,List.mem_cons,List.mem_append,List.mem_map];exact .inr (.inr (.inr (.inr (.inr ⟨x,h,rfl⟩))))
theorem Half.facts {size:Nat} {l l':List (ByteArray × Nat)} {inn:Nat→Ents} {k t:ByteArray} {v:Value} {n:Nat} {es:Ents} (h:Half size l inn k t v l' n es) :
   (∀ x∈l',x∈l∨(x.2=n∧size≤n))∧((∃ x∈l,x.2=n)∨size≤n)∧(∀ x∈l,x∈l'):=by
 rcases h with ⟨rfl,h,_⟩|⟨rfl,_,h,_⟩
 · exact ⟨fun x hx=>.inl hx,.inl ⟨_,findK_mem h,rfl⟩,fun x hx=>hx⟩
 · refine ⟨fun x hx => ?_,.inr h,fun x hx=>List.mem_append.2 (.inl hx)⟩
   rcases List.mem_append.1 hx with hx|hx
   · exact .inl hx
   · simp only [List.mem_singleton] at hx;subst hx;exact .inr ⟨rfl,h⟩
theorem SRep.addE {w w':World} {s:Nat} {c:St1} {a t:ByteArray} {v:Value} (h:SRep w s c) {outs' inns':List (ByteArray × Nat)} {no ni:Nat} {eso esi:Ents}
   (ho:Half w.heap.size c.outs c.inn a t v outs' no eso) (hi:Half w.heap.size c.inns c.inn t a v inns' ni esi) (hne:no≠ni)
   (f:Fr (fun b=>b=c.oB∨b=c.iB∨b=no∨b=ni) w w') (so:SM w' c.oB (mp outs')) (si:SM w' c.iB (mp inns')) (sno:SM w' no eso) (sni:SM w' ni esi) :
   ∃ c',SRep w' s c'∧c'.vs=c.vs∧c'.ps=c.ps∧(∀ b∈c'.own,b∈c.own∨w.heap.size≤b) ∧
     (∀ x y,edgeAt c'.outs c'.inn x y=if x=a∧y=t then some v else edgeAt c.outs c.inn x y) ∧
     (∀ x y,edgeAt c'.inns c'.inn y x=if x=a∧y=t then some v else edgeAt c.inns c.inn y x):=by
 obtain ⟨p1,p2,p3,p4,p5,p6,p7,p8,p9,p10,p11⟩:=St1.nodup h.nd
 obtain ⟨fo1,fo2,fo3⟩:=ho.facts
 obtain ⟨fi1,fi2,fi3⟩:=hi.facts
 have hlt:=h.lt
 have hsn:=h.ne
 have lo:∀ x∈c.outs,x.2 < w.heap.size:=fun x hx=>hlt _ (St1.mem_outs hx)
 have li:∀ x∈c.inns,x.2 < w.heap.size:=fun x hx=>hlt _ (St1.mem_inns hx)
 have hlv:c.vB < w.heap.size:=h.v.lt
 have hlp:c.pB < w.heap.size:=h.p.lt
 have hlo:c.oB < w.heap.size:=h.o.m.lt
 have hli:c.iB < w.heap.size:=h.i.m.lt
 have hls:s < w.heap.size:=h.st.lt
 have bs:∀ b,b < w.heap.size→(∀ x∈c.outs,x.2≠b)→(∀ x∈c.inns,x.2≠b)→b≠no∧b≠ni:=by
   intro b hb h1 h2
   refine ⟨fun e => ?_,fun e => ?_⟩
   · rcases fo2 with ⟨x,hx,q⟩|q
     · exact h1 x hx (q.trans e.symm)
     · omega
   · rcases fi2 with ⟨x,hx,q⟩|q
     · exact h2 x hx (q.trans e.symm)
     · omega
 have nv:=bs _ hlv (fun x hx=>(p4 x hx).1) (fun x hx=>(p5 x hx).1)
 have np:=bs _ hlp (fun x hx=>(p4 x hx).2.1) (fun x hx=>(p5 x hx).2.1)
 have nO:=bs _ hlo (fun x hx=>(p4 x hx).2.2.1) (fun x hx=>(p5 x hx).2.2.1)
 have nI:=bs _ hli (fun x hx=>(p4 x hx).2.2.2) (fun x hx=>(p5 x hx).2.2.2)
 have ns:=bs _ hls (fun x hx e=>hsn _ (St1.mem_outs hx) e.symm) (fun x hx e=>hsn _ (St1.mem_inns hx) e.symm)
 have oi:∀ x∈c.outs,x.2≠ni:=fun x hx e=>by
   rcases fi2 with ⟨y,hy,q⟩|q
   · exact p3 x hx y hy (e.trans q.symm)
   · have:=lo x hx;omega
 have io:∀ x∈c.inns,x.2≠no:=fun x hx e=>by
   rcases fo2 with ⟨y,hy,q⟩|q
   · exact p3 y hy x hx (q.trans e.symm)
   · have:=li x hx;omega
 let inn':=upd (upd c.inn no eso) ni esi
 have i1:inn' no=eso:=by show upd _ _ _ _=_;rw [upd_other _ _ _ hne,upd_same]
 have i2:inn' ni=esi:=upd_same _ _ _
 have i3:∀ b,b≠no→b≠ni→inn' b=c.inn b:=fun b h1 h2=>by show upd _ _ _ _=_;rw [upd_other _ _ _ h2,upd_other _ _ _ h1]
 have eo:∀ x y,edgeAt outs' inn' x y=if x=a∧y=t then some v else edgeAt c.outs c.inn x y:=by
   intro x y
   have h1:edgeAt outs' inn' x y=edgeAt outs' (upd c.inn no eso) x y:=half_off (fun z hz=>by
     rcases fo1 z hz with q|⟨q,_⟩
     · exact oi z q
     · rw [q];exact hne) x y
   rw [h1]
   rcases ho with ⟨rfl,g1,rfl⟩|⟨rfl,g1,g2,rfl⟩
   · exact half_old g1 p1 x y
   · exact half_new g1 (fun z hz=>by have:=lo z hz;omega) x y
 have ei:∀ x y,edgeAt inns' inn' y x=if x=a∧y=t then some v else edgeAt c.inns c.inn y x:=by
   intro x y
   have hsw:inn'=upd (upd c.inn ni esi) no eso:=by
     funext b
     by_cases e1:b=ni
     · subst e1;rw [i2,upd_other _ _ _ (Ne.symm hne),upd_same]
     · by_cases e2:b=no
       · subst e2;rw [i1,upd_same]
       · rw [i3 b e2 e1,upd_other _ _ _ e2,upd_other _ _ _ e1]
   have h1:edgeAt inns' inn' y x=edgeAt inns' (upd c.inn ni esi) y x:=by
     rw [hsw]
     exact half_off (fun z hz=>by
       rcases fi1 z hz with q|⟨q,_⟩
       · exact io z q
       · rw [q];exact Ne.symm hne) y x
   rw [h1]
   have hc:(x=a∧y=t)↔(y=t∧x=a):=⟨fun h=>⟨h.2,h.1⟩,fun h=>⟨h.2,h.1⟩⟩
   simp only [hc]
   rcases hi with ⟨rfl,g1,rfl⟩|⟨rfl,g1,g2,rfl⟩
   · exact half_old g1 p2 y x
   · exact half_new g1 (fun z hz=>by have:=li z hz;omega) y x
 refine ⟨{ c with outs:=outs',inns:=inns',inn:=inn' },⟨?_,?_,?_,⟨so,?_⟩,⟨si,?_⟩,?_⟩,rfl,rfl,?_,eo,ei⟩
 · exact h.st.fr f (by rintro (e|e|e|e);exact hsn c.oB (by simp [St1.own]) e;exact hsn c.iB (by simp [St1.own]) e;exact ns.1 e;exact ns.2 e)
 · exact h.v.fr f (by rintro (e|e|e|e);exact p7 e;exact p8 e;exact nv.1 e;exact nv.2 e)
 · exact h.p.fr f (by rintro (e|e|e|e);exact p9 e;exact p10 e;exact np.1 e;exact np.2 e)
 · intro x hx
   show SM w' x.2 (inn' x.2)
   by_cases e1:x.2=no
   · rw [e1,i1];exact sno
   · rcases fo1 x hx with q|⟨q,_⟩
     · rw [i3 _ e1 (oi x q)]
       exact (h.o.e x q).fr f (by rintro (e|e|e|e);exact (p4 x q).2.2.1 e;exact (p4 x q).2.2.2 e;exact e1 e;exact oi x q e)
     · exact absurd q e1
 · intro x hx
   show SM w' x.2 (inn' x.2)
   by_cases e1:x.2=ni
   · rw [e1,i2];exact sni
   · rcases fi1 x hx with q|⟨q,_⟩
     · rw [i3 _ (io x q) e1]
       exact (h.i.e x q).fr f (by rintro (e|e|e|e);exact (p5 x q).2.2.1 e;exact (p5 x q).2.2.2 e;exact io x q e;exact e1 e)
     · exact absurd q e1
 · have mo:∀ b∈outs'.map (·.2),(∃ x∈c.outs,x.2=b)∨(b=no∧w.heap.size≤no):=by
     intro b hb
     obtain ⟨x,hx,rfl⟩:=List.mem_map.1 hb
     rcases fo1 x hx with q|q
     · exact .inl ⟨x,q,rfl⟩
     · exact .inr q
   have mi:∀ b∈inns'.map (·.2),(∃ x∈c.inns,x.2=b)∨(b=ni∧w.heap.size≤ni):=by
     intro b hb
     obtain ⟨x,hx,rfl⟩:=List.mem_map.1 hb
     rcases fi1 x hx with q|q
     · exact .inl ⟨x,q,rfl⟩
     · exact .inr q
   have no':(outs'.map (·.2)).Nodup:=by
     rcases ho with ⟨rfl,_⟩|⟨rfl,_,g,_⟩
     · exact p1
     · simp only [List.map_append,List.map_cons,List.map_nil]
       refine List.nodup_append.2 ⟨p1,by simp,fun x hx y hy => ?_⟩
       obtain ⟨z,hz,rfl⟩:=List.mem_map.1 hx
       simp only [List.mem_singleton] at hy
       have:=lo z hz
       omega
   have ni':(inns'.map (·.2)).Nodup:=by
     rcases hi with ⟨rfl,_⟩|⟨rfl,_,g,_⟩
     · exact p2
     · simp only [List.map_append,List.map_cons,List.map_nil]
       refine List.nodup_append.2 ⟨p2,by simp,fun x hx y hy => ?_⟩
       obtain ⟨z,hz,rfl⟩:=List.mem_map.1 hx
       simp only [List.mem_singleton] at hy
       have:=li z hz
       omega
   have all:∀ b,b < w.heap.size→(∀ x∈c.outs,x.2≠b)→(∀ x∈c.inns,x.2≠b)→b∉outs'.map (·.2) ++ inns'.map (·.2):=by
     intro b hb h1 h2 hm
     rcases List.mem_append.1 hm with hm|hm
     · rcases mo b hm with ⟨x,hx,q⟩|⟨q,_⟩
       · exact h1 x hx q
       · omega
     · rcases mi b hm with ⟨x,hx,q⟩|⟨q,_⟩
       · exact h2 x hx q
       · omega
   show (c.vB :: c.pB :: c.oB :: c.iB :: (outs'.map (·.2) ++ inns'.map (·.2))).Nodup
   refine List.nodup_cons.2 ⟨?_,List.nodup_cons.2 ⟨?_,List.nodup_cons.2 ⟨?_,List.nodup_cons.2 ⟨?_,List.nodup_append.2 ⟨no',ni',?_⟩⟩⟩⟩⟩
   · rintro hm
     simp only [List.mem_cons] at hm
     rcases hm with e|e|e|e
     · exact p6 e
     · exact p7 e
     · exact p8 e
     · exact all _ hlv (fun x hx=>(p4 x hx).1) (fun x hx=>(p5 x hx).1) e
   · rintro hm
     simp only [List.mem_cons] at hm
     rcases hm with e|e|e
     · exact p9 e
     · exact p10 e
     · exact all _ hlp (fun x hx=>(p4 x hx).2.1) (fun x hx=>(p5 x hx).2.1) e
   · rintro hm
     simp only [List.mem_cons] at hm
     rcases hm with e|e
     · exact p11 e
     · exact all _ hlo (fun x hx=>(p4 x hx).2.2.1) (fun x hx=>(p5 x hx).2.2.1) e
   · exact all _ hli (fun x hx=>(p4 x hx).2.2.2) (fun x hx=>(p5 x hx).2.2.2)
   · intro x hx y hy e
     subst e
     rcases mo x hx with ⟨z,hz,q⟩|⟨q,q'⟩
     · rcases mi x hy with ⟨u,hu,r⟩|⟨r,r'⟩
       · exact p3 z hz u hu (q.trans r.symm)
       · exact oi z hz (q.trans r)
     · rcases mi x hy with ⟨u,hu,r⟩|⟨r,r'⟩
       · exact io u hu (r.trans q)
       · exact hne (q.symm.trans r)
 · intro b hb
   have hb':b=c.vB∨b=c.pB∨b=c.oB∨b=c.iB∨b∈outs'.map (·.2)∨b∈inns'.map (·.2):=by
     have:b∈c.vB :: c.pB :: c.oB :: c.iB :: (outs'.map (·.2) ++ inns'.map (·.2)):=hb
     simpa only [List.mem_cons,List.mem_append] using this
   rcases hb' with e|e|e|e|e|e
   · subst e;exact .inl (by simp [St1.own])
   · subst e;exact .inl (by simp [St1.own])
   · subst e;exact .inl (by simp [St1.own])
   · subst e;exact .inl (by simp [St1.own])
   · obtain ⟨x,hx,rfl⟩:=List.mem_map.1 e
     rcases fo1 x hx with q|⟨q,q'⟩
     · exact .inl (St1.mem_outs q)
     · exact .inr (by omega)
   · obtain ⟨x,hx,rfl⟩:=List.mem_map.1 e
     rcases fi1 x hx with q|⟨q,q'⟩
     · exact .inl (St1.mem_inns q)
     · exact .inr (by omega)
theorem look152 {w:World} {B:Nat} {l:List (ByteArray × Nat)} (h:SM w B (mp l)) {k:ByteArray} {n:Nat} (hk:findK l k=some n) :
   (Instr.lookup 152 (.map (some B)) (.string k) false).run Tryz.prog w=.ok (.map (some n)) w:=by
 have:=h.look Tryz.underlying152 Tryz.underlying9 (zM w) k false
 rw [look_mp,hk] at this
 simpa using this
def AddPost (w:World) (s:Nat) (c:St1) (a t:ByteArray) (v:Value) (w':World):Prop :=
 (∃ c',SRep w' s c'∧c'.vs=c.vs∧c'.ps=c.ps∧(∀ b∈c'.own,b∈c.own∨w.heap.size≤b) ∧
     (∀ x y,edgeAt c'.outs c'.inn x y=if x=a∧y=t then some v else edgeAt c.outs c.inn x y) ∧
     (∀ x y,edgeAt c'.inns c'.inn y x=if x=a∧y=t then some v else edgeAt c.inns c.inn y x))∧Fr (· ∈ c.own) w w'
theorem AddPost.mk {w w':World} {s:Nat} {c:St1} {a t:ByteArray} {v:Value} (h:SRep w s c) {outs' inns':List (ByteArray × Nat)} {no ni:Nat} {eso esi:Ents}
   (ho:Half w.heap.size c.outs c.inn a t v outs' no eso) (hi:Half w.heap.size c.inns c.inn t a v inns' ni esi) (hne:no≠ni)
   (f:Fr (fun b=>b=c.oB∨b=c.iB∨b=no∨b=ni) w w') (so:SM w' c.oB (mp outs')) (si:SM w' c.iB (mp inns')) (sno:SM w' no eso) (sni:SM w' ni esi) :
   AddPost w s c a t v w':=by
 refine ⟨h.addE ho hi hne f so si sno sni,f.shrink fun k hk => ?_⟩
 have mo:no∈c.own∨w.heap.size≤no:=by
   rcases ho.facts.2.1 with ⟨x,hx,q⟩|q
   · exact .inl (q▸St1.mem_outs hx)
   · exact .inr q
 have mi:ni∈c.own∨w.heap.size≤ni:=by
   rcases hi.facts.2.1 with ⟨x,hx,q⟩|q
   · exact .inl (q▸St1.mem_inns hx)
   · exact .inr q
 rcases hk with e|e|e|e
 · subst e;exact .inl (by simp [St1.own])
 · subst e;exact .inl (by simp [St1.own])
 · subst e;exact mo
 · subst e;exact mi
theorem SRep.drew {w:World} {s:Nat} {c:St1} (h:SRep w s c):SRep w.drew s c:=⟨h.st,h.v,h.p,⟨h.o.m,h.o.e⟩,⟨h.i.m,h.i.e⟩,h.nd⟩
theorem AddPost.drew {w w':World} {s:Nat} {c:St1} {a t:ByteArray} {v:Value} (h:AddPost w s c a t v w'):AddPost w s c a t v w'.drew:=by
 obtain ⟨⟨c',h1,h2⟩,f⟩:=h
 exact ⟨⟨c',h1.drew,h2⟩,f.drew⟩
theorem adde_ss (w:World) (s:Nat) (c:St1) (h:SRep w s c) (a t x y:ByteArray) (at_:Nat) (wt:Int) (no ni:Nat) (hno:findK c.outs a=some no) (hni:findK c.inns t=some ni) :
   Calls Tryz.prog 216 #[.pointer (some ⟨s,0,none⟩),.string a,.string t,ev x y at_ wt] w fun e w'=>e=.returned .nilIface∧AddPost w s c a t (ev x y at_ wt) w':=by
 obtain ⟨⟨c0,c1,c2,c3⟩,hs,⟨n0,n1,n2,n3⟩,q0,q1,q2,q3⟩:=h.facts
 obtain ⟨p1,p2,p3,p4,p5,p6,p7,p8,p9,p10,p11⟩:=St1.nodup h.nd
 have mo:=findK_mem hno
 have mi:=findK_mem hni
 have r1:¬ s=no:=h.ne _ (St1.mem_outs mo)
 have r2:¬ s=ni:=h.ne _ (St1.mem_inns mi)
 have r3:¬ w.heap.size=no:=fun e=>by have:=h.lt _ (St1.mem_outs mo);simp at this;omega
 have r4:¬ w.heap.size=ni:=fun e=>by have:=h.lt _ (St1.mem_inns mi);simp at this;omega
 have D1:=Lib.hid (p4 _ mo)
 have D2:=Lib.hid (p5 _ mi)
 have D3:=Lib.hid (p3 _ mo _ mi)
 have HO:=Lib.hid (show lookS (mp c.outs) a=some (.map (some no)) by rw [look_mp,hno];rfl)
 have HI:=Lib.hid (show lookS (mp c.inns) t=some (.map (some ni)) by rw [look_mp,hni];rfl)
 have KO:=Lib.hid hno
 have KI:=Lib.hid hni
 have H:=Lib.hid h
 have EO:=Lib.hid (h.o.e _ mo)
 have EI:=Lib.hid (h.i.e _ mi)
 clear h hno hni mo mi p1 p2 p3 p4 p5 p6 p7 p8 p9 p10 p11
 have e1:=look152 (w:=(w.alloc (.cells #[.string x,.string y,.map (some at_),.int .i64 wt,.nilIface] 144)).drew) (H.out.o.m.alloc _).drew KO.out
 go_enter Tryz.func216,Tryz.ntmps216
 go_wp2_with (at_lookup;refine wl_look2S 152 9 154 Tryz.underlying152 Tryz.underlying9 (.map none) zM rfl (.tmp 17) (.tmp 18) rfl (H.out.o.m.alloc _) a _ HO.out rfl rfl ?_)
 try go_frame
 (refine region_tail 8 (by kernel_rfl) (by kernel_rfl) ?_;simp only [List.take_succ_cons,List.take_zero,List.drop_succ_cons,List.drop_zero];(repeat still_step);refine wpStill_nil ?_)
 refine wl_put 154 9 144 Tryz.underlying154 Tryz.underlying9 rfl (.tmp 35) (.tmp 36) (.tmp 37) rfl (EO.out.alloc _).drew t (ev x y at_ wt) rfl rfl rfl ?_
 intro arr1 k1 hm1
 have i1:=Lib.hid ((H.out.i.m.alloc (.cells #[.string x,.string y,.map (some at_),.int .i64 wt,.nilIface] 144)).setM (b:=no) (Ne.symm D1.out.2.2.2) arr1 k1).drew
 have e2:=look152 (w:=((setM (w.alloc (.cells #[.string x,.string y,.map (some at_),.int .i64 wt,.nilIface] 144)) no arr1 k1).drew).drew) i1.out.drew KI.out
 clear e1
 go_wp2_with (at_lookup;refine wl_look2S 152 9 154 Tryz.underlying152 Tryz.underlying9 (.map none) zM rfl (.tmp 42) (.tmp 43) rfl i1.out t _ HI.out rfl rfl ?_)
 try go_frame
 (refine region_tail 8 (by kernel_rfl) (by kernel_rfl) ?_;simp only [List.take_succ_cons,List.take_zero,List.drop_succ_cons,List.drop_zero];(repeat still_step);refine wpStill_nil ?_)
 refine wl_put 154 9 144 Tryz.underlying154 Tryz.underlying9 rfl (.tmp 60) (.tmp 61) (.tmp 62) rfl ((EI.out.alloc _).setM (b:=no) (Ne.symm D3.out) arr1 k1).drew.drew a (ev x y at_ wt) rfl rfl rfl ?_
 intro arr2 k2 hm2
 go_wp2
 go_ret
 refine ⟨rfl,AddPost.mk H.out (.inl ⟨rfl,KO.out,rfl⟩) (.inl ⟨rfl,KI.out,rfl⟩) D3.out (by ((repeat' with_reducible first|assumption|exact frR|apply frD|apply frN|apply frA|apply frM|apply frC);all_goals (simp;try omega))) ?_ ?_ ?_ hm2⟩
 · exact ((H.out.o.m.alloc _).setM (Ne.symm D1.out.2.2.1) _ _).setM (Ne.symm D2.out.2.2.1) _ _
 · exact ((H.out.i.m.alloc _).setM (Ne.symm D1.out.2.2.2) _ _).setM (Ne.symm D2.out.2.2.2) _ _
 · exact hm1.setM D3.out _ _
theorem look152' {w:World} {B:Nat} {es:Ents} (h:SM w B es) {k:ByteArray} {v:Value} (hk:lookS es k=some v) :
   (Instr.lookup 152 (.map (some B)) (.string k) false).run Tryz.prog w=.ok v w:=by
 have:=h.look Tryz.underlying152 Tryz.underlying9 (zM w) k false
 rw [hk] at this
 simpa using this
theorem fresh_two (w:World) (o:Obj):SM ((w.alloc o).alloc (.map #[] 0)) (w.heap.size+1) []:=by
 have:=SM.fresh (w.alloc o)
 simpa using this
theorem adde_ns (w:World) (s:Nat) (c:St1) (h:SRep w s c) (a t x y:ByteArray) (at_:Nat) (wt:Int) (ni:Nat) (hno:findK c.outs a=none) (hni:findK c.inns t=some ni) :
   Calls Tryz.prog 216 #[.pointer (some ⟨s,0,none⟩),.string a,.string t,ev x y at_ wt] w fun e w'=>e=.returned .nilIface∧AddPost w s c a t (ev x y at_ wt) w':=by
 obtain ⟨⟨c0,c1,c2,c3⟩,hs,⟨n0,n1,n2,n3⟩,q0,q1,q2,q3⟩:=h.facts
 obtain ⟨p1,p2,p3,p4,p5,p6,p7,p8,p9,p10,p11⟩:=St1.nodup h.nd
 have mi:=findK_mem hni
 have r2:¬ s=ni:=h.ne _ (St1.mem_inns mi)
 have li:ni < w.heap.size:=by have:=h.lt _ (St1.mem_inns mi);simpa using this
 have r4:¬ w.heap.size=ni:=by omega
 have lo:c.oB < w.heap.size:=h.o.m.lt
 have lI:c.iB < w.heap.size:=h.i.m.lt
 have r5:¬ s=w.heap.size+1:=by omega
 have D1:=Lib.hid (show c.oB≠w.heap.size+1∧c.iB≠w.heap.size+1∧ni≠w.heap.size+1 from ⟨by omega,by omega,by omega⟩)
 have D2:=Lib.hid (p5 _ mi)
 have D3:=Lib.hid p11
 have HO:=Lib.hid (show lookS (mp c.outs) a=none by rw [look_mp,hno];rfl)
 have HI:=Lib.hid (show lookS (mp c.inns) t=some (.map (some ni)) by rw [look_mp,hni];rfl)
 have KO:=Lib.hid hno
 have KI:=Lib.hid hni
 have H:=Lib.hid h
 have EI:=Lib.hid (h.i.e _ mi)
 have hmm:=@run_makeMap Tryz.prog
 clear h hno hni mi li lo lI p1 p2 p3 p4 p5 p6 p7 p8 p9 p10 p11
 go_enter Tryz.func216,Tryz.ntmps216
 go_wp2_with (first
   | (at_lookup;refine wl_look2N 152 9 154 Tryz.underlying152 Tryz.underlying9 (.map none) zM rfl (.tmp 17) (.tmp 18) rfl (H.out.o.m.alloc _) a HO.out rfl rfl ?_)
   | (at_mapUpdate;refine wl_put 152 9 154 Tryz.underlying152 Tryz.underlying9 rfl (.tmp 27) (.tmp 28) (.tmp 29) rfl ((H.out.o.m.alloc _).alloc _) a (.map (some (w.heap.size+1))) rfl rfl rfl ?_;intro arr0 k0 hm0))
 try go_frame
 have e1:=look152' hm0.drew (lookS_put_same _ _ _)
 (refine region_tail 8 (by kernel_rfl) (by kernel_rfl) ?_;simp only [List.take_succ_cons,List.take_zero,List.drop_succ_cons,List.drop_zero];(repeat still_step);refine wpStill_nil ?_)
 clear e1
 refine wl_put 154 9 144 Tryz.underlying154 Tryz.underlying9 rfl (.tmp 35) (.tmp 36) (.tmp 37) rfl ((fresh_two w _).setM (b:=c.oB) (Ne.symm D1.out.1) arr0 k0).drew t (ev x y at_ wt) rfl rfl rfl ?_
 intro arr1 k1 hm1
 have i1:=Lib.hid ((((H.out.i.m.alloc (.cells #[.string x,.string y,.map (some at_),.int .i64 wt,.nilIface] 144)).alloc (.map #[] 0)).setM (b:=c.oB) (Ne.symm D3.out) arr0 k0).setM (b:=w.heap.size+1) D1.out.2.1 arr1 k1).drew
 have e2:=look152 i1.out.drew KI.out
 go_wp2_with (at_lookup;refine wl_look2S 152 9 154 Tryz.underlying152 Tryz.underlying9 (.map none) zM rfl (.tmp 42) (.tmp 43) rfl i1.out t _ HI.out rfl rfl ?_)
 try go_frame
 (refine region_tail 8 (by kernel_rfl) (by kernel_rfl) ?_;simp only [List.take_succ_cons,List.take_zero,List.drop_succ_cons,List.drop_zero];(repeat still_step);refine wpStill_nil ?_)
 refine wl_put 154 9 144 Tryz.underlying154 Tryz.underlying9 rfl (.tmp 60) (.tmp 61) (.tmp 62) rfl ((((EI.out.alloc (.cells #[.string x,.string y,.map (some at_),.int .i64 wt,.nilIface] 144)).alloc (.map #[] 0)).setM (b:=c.oB) D2.out.2.2.1 arr0 k0).setM (b:=w.heap.size+1) D1.out.2.2 arr1 k1).drew.drew a (ev x y at_ wt) rfl rfl rfl ?_
 intro arr2 k2 hm2
 go_wp2
 go_ret
 refine ⟨rfl,AddPost.mk H.out (.inr ⟨rfl,KO.out,by omega,rfl⟩) (.inl ⟨rfl,KI.out,rfl⟩) (Ne.symm D1.out.2.2) (by ((repeat' with_reducible first|assumption|exact frR|apply frD|apply frN|apply frA|apply frM|apply frC);all_goals (simp;try omega))) ?_ ?_ ?_ hm2⟩
 · have:=(hm0.setM D1.out.1 arr1 k1).setM (Ne.symm D2.out.2.2.1) arr2 k2
   rw [put_mp_new KO.out] at this
   exact this
 · exact ((((H.out.i.m.alloc _).alloc _).setM (Ne.symm D3.out) _ _).setM D1.out.2.1 _ _).setM (Ne.symm D2.out.2.2.2) _ _
 · exact hm1.setM (Ne.symm D1.out.2.2) _ _
theorem adde_sn (w:World) (s:Nat) (c:St1) (h:SRep w s c) (a t x y:ByteArray) (at_:Nat) (wt:Int) (no:Nat) (hno:findK c.outs a=some no) (hni:findK c.inns t=none) :
   Calls Tryz.prog 216 #[.pointer (some ⟨s,0,none⟩),.string a,.string t,ev x y at_ wt] w fun e w'=>e=.returned .nilIface∧AddPost w s c a t (ev x y at_ wt) w':=by
 obtain ⟨⟨c0,c1,c2,c3⟩,hs,⟨n0,n1,n2,n3⟩,q0,q1,q2,q3⟩:=h.facts
 obtain ⟨p1,p2,p3,p4,p5,p6,p7,p8,p9,p10,p11⟩:=St1.nodup h.nd
 have mo:=findK_mem hno
 have r1:¬ s=no:=h.ne _ (St1.mem_outs mo)
 have li:no < w.heap.size:=by have:=h.lt _ (St1.mem_outs mo);simpa using this
 have r3:¬ w.heap.size=no:=by omega
 have lo:c.oB < w.heap.size:=h.o.m.lt
 have lI:c.iB < w.heap.size:=h.i.m.lt
 have r5:¬ s=w.heap.size+1:=by omega
 have D1:=Lib.hid (show c.oB≠w.heap.size+1∧c.iB≠w.heap.size+1∧no≠w.heap.size+1 from ⟨by omega,by omega,by omega⟩)
 have D2:=Lib.hid (p4 _ mo)
 have D3:=Lib.hid p11
 have HO:=Lib.hid (show lookS (mp c.outs) a=some (.map (some no)) by rw [look_mp,hno];rfl)
 have HI:=Lib.hid (show lookS (mp c.inns) t=none by rw [look_mp,hni];rfl)
 have KO:=Lib.hid hno
 have KI:=Lib.hid hni
 have H:=Lib.hid h
 have EO:=Lib.hid (h.o.e _ mo)
 have hmm:=@run_makeMap Tryz.prog
 clear h hno hni mo li lo lI p1 p2 p3 p4 p5 p6 p7 p8 p9 p10 p11
 have e1:=look152 (w:=(w.alloc (.cells #[.string x,.string y,.map (some at_),.int .i64 wt,.nilIface] 144)).drew) (H.out.o.m.alloc _).drew KO.out
 go_enter Tryz.func216,Tryz.ntmps216
 go_wp2_with (at_lookup;refine wl_look2S 152 9 154 Tryz.underlying152 Tryz.underlying9 (.map none) zM rfl (.tmp 17) (.tmp 18) rfl (H.out.o.m.alloc _) a _ HO.out rfl rfl ?_)
 try go_frame
 (refine region_tail 8 (by kernel_rfl) (by kernel_rfl) ?_;simp only [List.take_succ_cons,List.take_zero,List.drop_succ_cons,List.drop_zero];(repeat still_step);refine wpStill_nil ?_)
 clear e1
 refine wl_put 154 9 144 Tryz.underlying154 Tryz.underlying9 rfl (.tmp 35) (.tmp 36) (.tmp 37) rfl (EO.out.alloc _).drew t (ev x y at_ wt) rfl rfl rfl ?_
 intro arr1 k1 hm1
 have i1:=Lib.hid ((H.out.i.m.alloc (.cells #[.string x,.string y,.map (some at_),.int .i64 wt,.nilIface] 144)).setM (b:=no) (Ne.symm D2.out.2.2.2) arr1 k1)
 go_wp2_with (first
   | (at_lookup;refine wl_look2N 152 9 154 Tryz.underlying152 Tryz.underlying9 (.map none) zM rfl (.tmp 42) (.tmp 43) rfl i1.out.drew t HI.out rfl rfl ?_)
   | (at_mapUpdate;refine wl_put 152 9 154 Tryz.underlying152 Tryz.underlying9 rfl (.tmp 52) (.tmp 53) (.tmp 54) rfl (i1.out.alloc _).drew t (.map (some (w.heap.size+1))) rfl rfl rfl ?_;intro arr0 k0 hm0))
 try go_frame
 have e2:=look152' hm0.drew (lookS_put_same _ _ _)
 simp only [setM_drew] at e2 ⊢
 (refine region_tail 8 (by kernel_rfl) (by kernel_rfl) ?_;simp only [List.take_succ_cons,List.take_zero,List.drop_succ_cons,List.drop_zero];(repeat still_step);refine wpStill_nil ?_)
 clear e2
 have fz:SM ((setM (w.alloc (.cells #[.string x,.string y,.map (some at_),.int .i64 wt,.nilIface] 144)) no arr1 k1).alloc (.map #[] 0)) (w.heap.size+1) []:=by have:=SM.fresh (setM (w.alloc (.cells #[.string x,.string y,.map (some at_),.int .i64 wt,.nilIface] 144)) no arr1 k1);simpa using this
 refine wl_put 154 9 144 Tryz.underlying154 Tryz.underlying9 rfl (.tmp 60) (.tmp 61) (.tmp 62) rfl (fz.setM (b:=c.iB) (Ne.symm D1.out.2.1) arr0 k0).drew.drew a (ev x y at_ wt) rfl rfl rfl ?_
 intro arr2 k2 hm2
 clear fz
 go_wp2
 go_ret
 refine ⟨rfl,AddPost.mk H.out (.inl ⟨rfl,KO.out,rfl⟩) (.inr ⟨rfl,KI.out,by omega,rfl⟩) D1.out.2.2 (by ((repeat' with_reducible first|assumption|exact frR|apply frD|apply frN|apply frA|apply frM|apply frC);all_goals (simp;try omega))) ?_ ?_ ?_ hm2⟩
 · exact ((((H.out.o.m.alloc _).setM (Ne.symm D2.out.2.2.1) _ _).alloc _).setM D3.out _ _).setM D1.out.1 _ _
 · have:=hm0.setM D1.out.2.1 arr2 k2
   rw [put_mp_new KI.out] at this
   exact this
 · exact ((hm1.alloc _).setM D2.out.2.2.2 _ _).setM D1.out.2.2 _ _
theorem adde_nn (w:World) (s:Nat) (c:St1) (h:SRep w s c) (a t x y:ByteArray) (at_:Nat) (wt:Int) (hno:findK c.outs a=none) (hni:findK c.inns t=none) :
   Calls Tryz.prog 216 #[.pointer (some ⟨s,0,none⟩),.string a,.string t,ev x y at_ wt] w fun e w'=>e=.returned .nilIface∧AddPost w s c a t (ev x y at_ wt) w':=by
 obtain ⟨⟨c0,c1,c2,c3⟩,hs,⟨n0,n1,n2,n3⟩,q0,q1,q2,q3⟩:=h.facts
 obtain ⟨p1,p2,p3,p4,p5,p6,p7,p8,p9,p10,p11⟩:=St1.nodup h.nd
 have lo:c.oB < w.heap.size:=h.o.m.lt
 have lI:c.iB < w.heap.size:=h.i.m.lt
 have r5:¬ s=w.heap.size+1:=by omega
 have r6:s < w.heap.size+1+1:=by omega
 have D1:=Lib.hid (show c.oB≠w.heap.size+1∧c.iB≠w.heap.size+1 from ⟨by omega,by omega⟩)
 have D2:=Lib.hid (show c.oB≠w.heap.size+1+1∧c.iB≠w.heap.size+1+1 from ⟨by omega,by omega⟩)
 have D3:=Lib.hid p11
 have HO:=Lib.hid (show lookS (mp c.outs) a=none by rw [look_mp,hno];rfl)
 have HI:=Lib.hid (show lookS (mp c.inns) t=none by rw [look_mp,hni];rfl)
 have KO:=Lib.hid hno
 have KI:=Lib.hid hni
 have H:=Lib.hid h
 have hmm:=@run_makeMap Tryz.prog
 clear h hno hni lo lI p1 p2 p3 p4 p5 p6 p7 p8 p9 p10 p11
 go_enter Tryz.func216,Tryz.ntmps216
 go_wp2_with (first
   | (at_lookup;refine wl_look2N 152 9 154 Tryz.underlying152 Tryz.underlying9 (.map none) zM rfl (.tmp 17) (.tmp 18) rfl (H.out.o.m.alloc _) a HO.out rfl rfl ?_)
   | (at_mapUpdate;refine wl_put 152 9 154 Tryz.underlying152 Tryz.underlying9 rfl (.tmp 27) (.tmp 28) (.tmp 29) rfl ((H.out.o.m.alloc _).alloc _) a (.map (some (w.heap.size+1))) rfl rfl rfl ?_;intro arr0 k0 hm0))
 try go_frame
 have e1:=look152' hm0.drew (lookS_put_same _ _ _)
 (refine region_tail 8 (by kernel_rfl) (by kernel_rfl) ?_;simp only [List.take_succ_cons,List.take_zero,List.drop_succ_cons,List.drop_zero];(repeat still_step);refine wpStill_nil ?_)
 clear e1
 refine wl_put 154 9 144 Tryz.underlying154 Tryz.underlying9 rfl (.tmp 35) (.tmp 36) (.tmp 37) rfl ((fresh_two w _).setM (b:=c.oB) (Ne.symm D1.out.1) arr0 k0).drew t (ev x y at_ wt) rfl rfl rfl ?_
 intro arr1 k1 hm1
 have i1:=Lib.hid ((((H.out.i.m.alloc (.cells #[.string x,.string y,.map (some at_),.int .i64 wt,.nilIface] 144)).alloc (.map #[] 0)).setM (b:=c.oB) (Ne.symm D3.out) arr0 k0).setM (b:=w.heap.size+1) D1.out.2 arr1 k1)
 go_wp2_with (first
   | (at_lookup;refine wl_look2N 152 9 154 Tryz.underlying152 Tryz.underlying9 (.map none) zM rfl (.tmp 42) (.tmp 43) rfl i1.out.drew t HI.out rfl rfl ?_)
   | (at_mapUpdate;refine wl_put 152 9 154 Tryz.underlying152 Tryz.underlying9 rfl (.tmp 52) (.tmp 53) (.tmp 54) rfl (i1.out.alloc _).drew t (.map (some (w.heap.size+1+1))) rfl rfl rfl ?_;intro arr2 k2 hm2))
 try go_frame
 have e2:=look152' hm2.drew (lookS_put_same _ _ _)
 simp only [setM_drew] at e2 ⊢
 (refine region_tail 8 (by kernel_rfl) (by kernel_rfl) ?_;simp only [List.take_succ_cons,List.take_zero,List.drop_succ_cons,List.drop_zero];(repeat still_step);refine wpStill_nil ?_)
 clear e2
 have fz:SM ((setM (setM ((w.alloc (.cells #[.string x,.string y,.map (some at_),.int .i64 wt,.nilIface] 144)).alloc (.map #[] 0)) c.oB arr0 k0) (w.heap.size+1) arr1 k1).alloc (.map #[] 0)) (w.heap.size+1+1) []:=by
   have:=SM.fresh (setM (setM ((w.alloc (.cells #[.string x,.string y,.map (some at_),.int .i64 wt,.nilIface] 144)).alloc (.map #[] 0)) c.oB arr0 k0) (w.heap.size+1) arr1 k1);simpa using this
 refine wl_put 154 9 144 Tryz.underlying154 Tryz.underlying9 rfl (.tmp 60) (.tmp 61) (.tmp 62) rfl (fz.setM (b:=c.iB) (Ne.symm D2.out.2) arr2 k2).drew.drew a (ev x y at_ wt) rfl rfl rfl ?_
 intro arr3 k3 hm3
 clear fz
 go_wp2
 go_ret
 have g1:SM (setM (setM ((setM (setM ((w.alloc (.cells #[.string x,.string y,.map (some at_),.int .i64 wt,.nilIface] 144)).alloc (.map #[] 0)) c.oB arr0 k0) (w.heap.size+1) arr1 k1).alloc (.map #[] 0)) c.iB arr2 k2) (w.heap.size+1+1) arr3 k3) c.oB (mp (c.outs ++ [(a,w.heap.size+1)])):=by
   have:=(((hm0.setM D1.out.1 arr1 k1).alloc (.map #[] 0)).setM D3.out arr2 k2).setM D2.out.1 arr3 k3
   rw [put_mp_new KO.out] at this
   exact this
 have g2:SM (setM (setM ((setM (setM ((w.alloc (.cells #[.string x,.string y,.map (some at_),.int .i64 wt,.nilIface] 144)).alloc (.map #[] 0)) c.oB arr0 k0) (w.heap.size+1) arr1 k1).alloc (.map #[] 0)) c.iB arr2 k2) (w.heap.size+1+1) arr3 k3) c.iB (mp (c.inns ++ [(t,w.heap.size+1+1)])):=by
   have:=SM.setM (w:=setM ((setM (setM ((w.alloc (.cells #[.string x,.string y,.map (some at_),.int .i64 wt,.nilIface] 144)).alloc (.map #[] 0)) c.oB arr0 k0) (w.heap.size+1) arr1 k1).alloc (.map #[] 0)) c.iB arr2 k2) (b:=w.heap.size+1+1) hm2 D2.out.2 arr3 k3
   rw [put_mp_new KI.out] at this
   exact this
 have g3:SM (setM (setM ((setM (setM ((w.alloc (.cells #[.string x,.string y,.map (some at_),.int .i64 wt,.nilIface] 144)).alloc (.map #[] 0)) c.oB arr0 k0) (w.heap.size+1) arr1 k1).alloc (.map #[] 0)) c.iB arr2 k2) (w.heap.size+1+1) arr3 k3) (w.heap.size+1) [(t,ev x y at_ wt)] :=
   ((SM.alloc (w:=setM (setM ((w.alloc (.cells #[.string x,.string y,.map (some at_),.int .i64 wt,.nilIface] 144)).alloc (.map #[] 0)) c.oB arr0 k0) (w.heap.size+1) arr1 k1) hm1 (.map #[] 0)).setM (Ne.symm D1.out.2) arr2 k2).setM (by omega) arr3 k3
 have g4:SM (setM (setM ((setM (setM ((w.alloc (.cells #[.string x,.string y,.map (some at_),.int .i64 wt,.nilIface] 144)).alloc (.map #[] 0)) c.oB arr0 k0) (w.heap.size+1) arr1 k1).alloc (.map #[] 0)) c.iB arr2 k2) (w.heap.size+1+1) arr3 k3) (w.heap.size+1+1) [(a,ev x y at_ wt)]:=hm3
 have f:Fr (fun b=>b=c.oB∨b=c.iB∨b=w.heap.size+1∨b=w.heap.size+1+1) w (setM (setM ((setM (setM ((w.alloc (.cells #[.string x,.string y,.map (some at_),.int .i64 wt,.nilIface] 144)).alloc (.map #[] 0)) c.oB arr0 k0) (w.heap.size+1) arr1 k1).alloc (.map #[] 0)) c.iB arr2 k2) (w.heap.size+1+1) arr3 k3) :=
   (((((((Fr.refl _ w).alloc _).alloc _).setM (.inl (.inl rfl)) _ _).setM (.inl (.inr (.inr (.inl rfl)))) _ _).alloc _).setM (.inl (.inr (.inl rfl))) _ _).setM (.inl (.inr (.inr (.inr rfl)))) _ _
 have G:AddPost w s c a t (ev x y at_ wt) (setM (setM ((setM (setM ((w.alloc (.cells #[.string x,.string y,.map (some at_),.int .i64 wt,.nilIface] 144)).alloc (.map #[] 0)) c.oB arr0 k0) (w.heap.size+1) arr1 k1).alloc (.map #[] 0)) c.iB arr2 k2) (w.heap.size+1+1) arr3 k3):=AddPost.mk H.out (.inr ⟨rfl,KO.out,Nat.le_succ _,rfl⟩) (.inr ⟨rfl,KI.out,by omega,rfl⟩) (by omega) f g1 g2 g3 g4
 exact ⟨rfl,G.drew.drew⟩
theorem adde (w:World) (s:Nat) (c:St1) (h:SRep w s c) (a t x y:ByteArray) (at_:Nat) (wt:Int) :
   Calls Tryz.prog 216 #[.pointer (some ⟨s,0,none⟩),.string a,.string t,ev x y at_ wt] w fun e w'=>e=.returned .nilIface∧AddPost w s c a t (ev x y at_ wt) w':=by
 cases ho:findK c.outs a with
 | none =>
   cases hi:findK c.inns t with
   | none=>exact adde_nn w s c h a t x y at_ wt ho hi
   | some ni=>exact adde_ns w s c h a t x y at_ wt ni ho hi
 | some no =>
   cases hi:findK c.inns t with
   | none=>exact adde_sn w s c h a t x y at_ wt no ho hi
   | some ni=>exact adde_ss w s c h a t x y at_ wt no ni ho hi
theorem half_set {l:List (ByteArray × Nat)} {inn:Nat→Ents} {k:ByteArray} {n:Nat} {es:Ents} (hn:findK l k=some n) (nd:(l.map (·.2)).Nodup) (x y:ByteArray) :
   edgeAt l (upd inn n es) x y=if x=k then lookS es y else edgeAt l inn x y:=by
 unfold edgeAt
 by_cases e:x=k
 · subst e
   rw [hn,if_pos rfl]
   simp only [Option.bind_some,upd_same]
 · rw [if_neg e]
   cases hf:findK l x with
   | none=>rfl
   | some m =>
     have:m≠n:=fun q=>e (findK_inj nd (q▸hf) hn)
     simp only [Option.bind_some,upd_other _ _ _ this]
theorem lookS_del (es:Ents) (k y:ByteArray):lookS (delS es k) y=if y=k then none else lookS es y:=by
 unfold lookS delS
 induction es with
 | nil=>simp
 | cons p es ih =>
   by_cases h1:p.1=k
   · rw [List.filter_cons_of_neg (by simp [h1])]
     by_cases h2:y=k
     · rw [if_pos h2] at ih ⊢;exact ih
     · rw [if_neg h2] at ih ⊢
       have:¬ p.1=y:=fun e=>h2 (e.symm.trans h1)
       rw [ih];simp [this]
   · rw [List.filter_cons_of_pos (by simp [h1])]
     by_cases h3:p.1=y
     · have:¬ y=k:=fun e=>h1 (h3.trans e)
       simp [h3,this]
     · simp only [List.find?_cons,h3,decide_false]
       exact ih
theorem SRep.setInn {w w':World} {s:Nat} {c:St1} {a t:ByteArray} (h:SRep w s c) {no ni:Nat} {eso esi:Ents}
   (ho:findK c.outs a=some no) (hi:findK c.inns t=some ni) (f:Fr (fun b=>b=no∨b=ni) w w') (sno:SM w' no eso) (sni:SM w' ni esi) :
   SRep w' s { c with inn:=upd (upd c.inn no eso) ni esi } ∧
     (∀ x y,edgeAt c.outs (upd (upd c.inn no eso) ni esi) x y=if x=a then lookS eso y else edgeAt c.outs c.inn x y) ∧
     (∀ x y,edgeAt c.inns (upd (upd c.inn no eso) ni esi) y x=if y=t then lookS esi x else edgeAt c.inns c.inn y x):=by
 obtain ⟨p1,p2,p3,p4,p5,p6,p7,p8,p9,p10,p11⟩:=St1.nodup h.nd
 have mo:=findK_mem ho
 have mi:=findK_mem hi
 have hne:no≠ni:=p3 _ mo _ mi
 have q1:=p4 _ mo
 have q2:=p5 _ mi
 have r1:=h.ne _ (St1.mem_outs mo)
 have r2:=h.ne _ (St1.mem_inns mi)
 have hsw:upd (upd c.inn no eso) ni esi=upd (upd c.inn ni esi) no eso:=by
   funext b
   simp only [upd]
   by_cases e1:b=ni
   · have:b≠no:=fun q=>hne (q.symm.trans e1)
     simp [e1,Ne.symm hne]
   · simp [e1]
 refine ⟨⟨h.st.fr f ?_,h.v.fr f ?_,h.p.fr f ?_,⟨h.o.m.fr f ?_,?_⟩,⟨h.i.m.fr f ?_,?_⟩,h.nd⟩,?_,?_⟩
 · rintro (e|e);exact r1 e;exact r2 e
 · rintro (e|e);exact q1.1 e.symm;exact q2.1 e.symm
 · rintro (e|e);exact q1.2.1 e.symm;exact q2.2.1 e.symm
 · rintro (e|e);exact q1.2.2.1 e.symm;exact q2.2.2.1 e.symm
 · intro x hx
   show SM w' x.2 (upd (upd c.inn no eso) ni esi x.2)
   rw [upd_other _ _ _ (p3 x hx _ mi)]
   by_cases e:x.2=no
   · rw [e,upd_same];exact sno
   · rw [upd_other _ _ _ e]
     exact (h.o.e x hx).fr f (by rintro (q|q);exact e q;exact p3 x hx _ mi q)
 · rintro (e|e);exact q1.2.2.2 e.symm;exact q2.2.2.2 e.symm
 · intro x hx
   show SM w' x.2 (upd (upd c.inn no eso) ni esi x.2)
   by_cases e:x.2=ni
   · rw [e,upd_same];exact sni
   · rw [upd_other _ _ _ e,upd_other _ _ _ (Ne.symm (p3 _ mo x hx))]
     exact (h.i.e x hx).fr f (by rintro (q|q);exact p3 _ mo x hx q.symm;exact e q)
 · intro x y
   rw [half_off (fun z hz=>p3 z hz _ mi)]
   exact half_set ho p1 x y
 · intro x y
   rw [hsw,half_off (fun z hz=>Ne.symm (p3 _ mo z hz))]
   exact half_set hi p2 y x
theorem reme (w:World) (s:Nat) (c:St1) (h:SRep w s c) (a t:ByteArray) (no ni:Nat) (hno:findK c.outs a=some no) (hni:findK c.inns t=some ni) :
   Calls Tryz.prog 222 #[.pointer (some ⟨s,0,none⟩),.string a,.string t] w fun e w'=>e=.returned .nilIface ∧
     (SRep w' s { c with inn:=upd (upd c.inn no (delS (c.inn no) t)) ni (delS (c.inn ni) a) }∧Fr (fun b=>b=no∨b=ni) w w'):=by
 obtain ⟨⟨c0,c1,c2,c3⟩,hs,⟨n0,n1,n2,n3⟩,q0,q1,q2,q3⟩:=h.facts
 obtain ⟨p1,p2,p3,p4,p5,p6,p7,p8,p9,p10,p11⟩:=St1.nodup h.nd
 have mo:=findK_mem hno
 have mi:=findK_mem hni
 have r1:¬ s=no:=h.ne _ (St1.mem_outs mo)
 have r2:¬ s=ni:=h.ne _ (St1.mem_inns mi)
 have D1:=Lib.hid (p4 _ mo)
 have D2:=Lib.hid (p5 _ mi)
 have D3:=Lib.hid (p3 _ mo _ mi)
 have HO:=Lib.hid (show lookS (mp c.outs) a=some (.map (some no)) by rw [look_mp,hno];rfl)
 have HI:=Lib.hid (show lookS (mp c.inns) t=some (.map (some ni)) by rw [look_mp,hni];rfl)
 have KO:=Lib.hid hno
 have KI:=Lib.hid hni
 have H:=Lib.hid h
 have EO:=Lib.hid (h.o.e _ mo)
 have EI:=Lib.hid (h.i.e _ mi)
 clear h hno hni mo mi p1 p2 p3 p4 p5 p6 p7 p8 p9 p10 p11
 go_enter Tryz.func222,Tryz.ntmps222
 go_wp2_with (first
   | (at_lookup;refine wl_look1S 152 9 154 Tryz.underlying152 Tryz.underlying9 (.map none) zM rfl (.tmp 10) (.tmp 11) rfl H.out.i.m t _ HI.out rfl rfl ?_)
   | (at_delete;refine wl_del 154 9 144 Tryz.underlying154 Tryz.underlying9 rfl (.tmp 12) (.tmp 13) rfl EI.out a rfl rfl ?_;intro arr1 k1 hm1)
   | (at_lookup;refine wl_look1S 152 9 154 Tryz.underlying152 Tryz.underlying9 (.map none) zM rfl (.tmp 17) (.tmp 18) rfl (H.out.o.m.setM (Ne.symm D2.out.2.2.1) _ _) a _ HO.out rfl rfl ?_)
   | (at_delete;refine wl_del 154 9 144 Tryz.underlying154 Tryz.underlying9 rfl (.tmp 19) (.tmp 20) rfl (EO.out.setM D3.out _ _) t rfl rfl ?_;intro arr2 k2 hm2))
 go_ret
 have f:Fr (fun b=>b=no∨b=ni) w (setM (setM w ni arr1 k1) no arr2 k2):=((Fr.refl _ _).setM (.inl (.inr rfl)) _ _).setM (.inl (.inl rfl)) _ _
 exact ⟨rfl,(H.out.setInn KO.out KI.out f hm2 (hm1.setM (Ne.symm D3.out) _ _)).1,f⟩
theorem upde_yes (w:World) (s:Nat) (c:St1) (h:SRep w s c) (a t x y:ByteArray) (at_:Nat) (wt:Int) (no ni:Nat) (hno:findK c.outs a=some no) (hni:findK c.inns t=some ni)
   (x' y':ByteArray) (at':Nat) (wt':Int) (hl:lookS (c.inn no) t=some (ev x' y' at' wt')) :
   Calls Tryz.prog 224 #[.pointer (some ⟨s,0,none⟩),.string a,.string t,ev x y at_ wt] w fun e w'=>e=.returned .nilIface∧AddPost w s c a t (ev x y at_ wt) w':=by
 have mo:=findK_mem hno
 have mi:=findK_mem hni
 have lo:=h.lt _ (St1.mem_outs mo)
 have li:=h.lt _ (St1.mem_inns mi)
 simp only at lo li
 have FA:=Lib.hid (show ∀ w1,Fr0 (w.alloc (.cells #[.string x,.string y,.map (some at_),.int .i64 wt,.nilIface] 144)) w1→SRep w1 s c ∧
     (w1.cell? ⟨w.heap.size,0,none⟩=some (.string x)∧w1.cell? ⟨w.heap.size,1,none⟩=some (.string y)∧w1.cell? ⟨w.heap.size,2,none⟩=some (.map (some at_))∧w1.cell? ⟨w.heap.size,3,none⟩=some (.int .i64 wt)∧w1.cell? ⟨w.heap.size,4,none⟩=some .nilIface) ∧
     w.heap.size < w1.heap.size∧¬ w1.heap.size=no∧¬ w1.heap.size=ni∧¬ w1.heap.size=w.heap.size from fun w1 f=>by
   have h1:SRep w1 s c:=(h.fr ((Fr.refl (fun _=>False) w).alloc (.cells #[.string x,.string y,.map (some at_),.int .i64 wt,.nilIface] 144)) (fun q=>q) (fun _ _ q=>q)).fr f (fun q=>q) (fun _ _ q=>q)
   have bx:Cells w1 w.heap.size #[.string x,.string y,.map (some at_),.int .i64 wt,.nilIface] 144:=(Cells.new w _ _).fr f (fun q=>q)
   have:=f.size
   simp at this
   exact ⟨h1,⟨bx.cell 0 _ rfl,bx.cell 1 _ rfl,bx.cell 2 _ rfl,bx.cell 3 _ rfl,bx.cell 4 _ rfl⟩,by omega,by omega,by omega,by omega⟩)
 obtain ⟨p1,p2,p3,p4,p5,p6,p7,p8,p9,p10,p11⟩:=St1.nodup h.nd
 have r1:¬ s=no:=h.ne _ (St1.mem_outs mo)
 have r2:¬ s=ni:=h.ne _ (St1.mem_inns mi)
 have r3:¬ w.heap.size=no:=by omega
 have r4:¬ w.heap.size=ni:=by omega
 have D1:=Lib.hid (p4 _ mo)
 have D2:=Lib.hid (p5 _ mi)
 have D3:=Lib.hid (p3 _ mo _ mi)
 have M1:=Lib.hid mo
 have M2:=Lib.hid mi
 have KO:=Lib.hid hno
 have KI:=Lib.hid hni
 have H:=Lib.hid h
 have HE:=Lib.hid (edge_yes (w.alloc (.cells #[.string x,.string y,.map (some at_),.int .i64 wt,.nilIface] 144)) s c (h.fr ((Fr.refl (fun _=>False) w).alloc _) (fun q=>q) (fun _ _ q=>q)) a t no x' y' at' wt' hno hl)
 clear h hno hni hl mo mi lo li p1 p2 p3 p4 p5 p6 p7 p8 p9 p10 p11
 go_enter Tryz.func224,Tryz.ntmps224
 go_wp2_with (first
   | (go_at_call 219;refine HE.out.mono ?_;rintro e w1 ⟨rfl,f1⟩;have f1':=Lib.hid f1;clear f1;obtain ⟨h1,⟨b0,b1,b2,b3,b4⟩,l1,l2,l3,l4⟩:=FA.out w1 f1'.out;have H1:=Lib.hid h1;clear h1;obtain ⟨⟨d0,d1,d2,d3⟩,ds,⟨m0,m1,m2,m3⟩,u0,u1,u2,u3⟩:=H1.out.facts;clear d0 d1 m0 m1 u0 u1))
 have e1:=look152 (w:=(w1.alloc (.cells #[.string x',.string y',.map (some at'),.int .i64 wt',.nilIface] 144)).drew) (H1.out.o.m.alloc _).drew KO.out
 try go_frame
 (refine region_tail 8 (by kernel_rfl) (by kernel_rfl) ?_;simp only [List.take_succ_cons,List.take_zero,List.drop_succ_cons,List.drop_zero];(repeat still_step);refine wpStill_nil ?_)
 refine wl_put 154 9 144 Tryz.underlying154 Tryz.underlying9 rfl (.tmp 26) (.tmp 27) (.tmp 28) rfl ((H1.out.o.e _ M1.out).alloc _).drew t (ev x y at_ wt) rfl rfl rfl ?_
 intro arr1 k1 hm1
 clear e1
 have i1:=Lib.hid ((H1.out.i.m.alloc (.cells #[.string x',.string y',.map (some at'),.int .i64 wt',.nilIface] 144)).setM (b:=no) (Ne.symm D1.out.2.2.2) arr1 k1)
 have e2:=look152 i1.out.drew.drew KI.out
 go_wp2_with fail
 try go_frame
 (refine region_tail 8 (by kernel_rfl) (by kernel_rfl) ?_;simp only [List.take_succ_cons,List.take_zero,List.drop_succ_cons,List.drop_zero];(repeat still_step);refine wpStill_nil ?_)
 refine wl_put 154 9 144 Tryz.underlying154 Tryz.underlying9 rfl (.tmp 34) (.tmp 35) (.tmp 36) rfl (((H1.out.i.e _ M2.out).alloc _).setM (b:=no) (Ne.symm D3.out) arr1 k1).drew.drew a (ev x y at_ wt) rfl rfl rfl ?_
 intro arr2 k2 hm2
 clear e2
 go_wp2
 go_ret
 have f:Fr (fun b=>b=no∨b=ni) w (setM (setM (w1.alloc (.cells #[.string x',.string y',.map (some at'),.int .i64 wt',.nilIface] 144)) no arr1 k1) ni arr2 k2) :=
   (((((Fr.refl _ w).alloc _).trans0 f1'.out).alloc _).setM (.inl (.inl rfl)) _ _).setM (.inl (.inr rfl)) _ _
 have G:AddPost w s c a t (ev x y at_ wt) (setM (setM (w1.alloc (.cells #[.string x',.string y',.map (some at'),.int .i64 wt',.nilIface] 144)) no arr1 k1) ni arr2 k2):=by
   refine AddPost.mk H.out (.inl ⟨rfl,KO.out,rfl⟩) (.inl ⟨rfl,KI.out,rfl⟩) D3.out (f.mono fun k hk=>by rcases hk with q|q;exact .inr (.inr (.inl q));exact .inr (.inr (.inr q))) ?_ ?_ (hm1.setM D3.out arr2 k2) hm2
   · exact ((H1.out.o.m.alloc _).setM (Ne.symm D1.out.2.2.1) _ _).setM (Ne.symm D2.out.2.2.1) _ _
   · exact (i1.out).setM (Ne.symm D2.out.2.2.2) _ _
 exact ⟨rfl,G.drew.drew⟩
def dl (l:List (ByteArray × Nat)) (k:ByteArray):List (ByteArray × Nat):=l.filter fun p=>decide (p.1≠k)
theorem del_mp (l:List (ByteArray × Nat)) (k:ByteArray):delS (mp l) k=mp (dl l k):=by
 unfold delS mp dl
 rw [List.filter_map]
 rfl
theorem findK_dl (l:List (ByteArray × Nat)) (k x:ByteArray):findK (dl l k) x=if x=k then none else findK l x:=by
 unfold findK dl
 induction l with
 | nil=>simp
 | cons p l ih =>
   by_cases h1:p.1=k
   · rw [List.filter_cons_of_neg (by simp [h1]),ih]
     by_cases h2:x=k
     · rw [if_pos h2,if_pos h2]
     · rw [if_neg h2,if_neg h2]
       have:¬ p.1=x:=fun e=>h2 (e.symm.trans h1)
       simp [this]
   · rw [List.filter_cons_of_pos (by simp [h1])]
     by_cases h3:p.1=x
     · have:¬ x=k:=fun e=>h1 (h3.trans e)
       simp [h3,this]
     · simp only [List.find?_cons,h3,decide_false]
       exact ih
theorem edgeAt_dl {l:List (ByteArray × Nat)} {inn:Nat→Ents} {k:ByteArray} (h:∀ n,findK l k=some n→inn n = []) (x y:ByteArray):edgeAt (dl l k) inn x y=edgeAt l inn x y:=by
 unfold edgeAt
 rw [findK_dl]
 by_cases e:x=k
 · subst e
   rw [if_pos rfl]
   cases hf:findK l x with
   | none=>rfl
   | some n=>simp [h n hf,lookS]
 · rw [if_neg e]
theorem SRep.cut {w w':World} {s:Nat} {c:St1} (h:SRep w s c) (f:Fr (fun b=>b=c.vB∨b=c.pB∨b=c.oB∨b=c.iB) w w') {vs ps:Ents} {outs' inns':List (ByteArray × Nat)}
   (so:outs'.Sublist c.outs) (si:inns'.Sublist c.inns) (hv:SM w' c.vB vs) (hp:SM w' c.pB ps) (ho:SM w' c.oB (mp outs')) (hi:SM w' c.iB (mp inns')) :
   SRep w' s { c with vs:=vs,ps:=ps,outs:=outs',inns:=inns' }:=by
 obtain ⟨p1,p2,p3,p4,p5,p6,p7,p8,p9,p10,p11⟩:=St1.nodup h.nd
 obtain ⟨_,_,⟨n0,n1,n2,n3⟩,_⟩:=h.facts
 refine ⟨h.st.fr f (by simp [n0,n1,n2,n3]),hv,hp,⟨ho,fun x hx => ?_⟩,⟨hi,fun x hx => ?_⟩,?_⟩
 · have q:=p4 x (so.subset hx)
   exact (h.o.e x (so.subset hx)).fr f (by simp [q.1,q.2.1,q.2.2.1,q.2.2.2])
 · have q:=p5 x (si.subset hx)
   exact (h.i.e x (si.subset hx)).fr f (by simp [q.1,q.2.1,q.2.2.1,q.2.2.2])
 · have:(c.vB :: c.pB :: c.oB :: c.iB :: (outs'.map (·.2) ++ inns'.map (·.2))).Sublist c.own :=
     .cons_cons _ (.cons_cons _ (.cons_cons _ (.cons_cons _ ((so.map _).append (si.map _)))))
   exact this.nodup h.nd
def CutPost (w:World) (s:Nat) (c:St1) (vs ps:Ents) (w':World):Prop :=
 (∃ c',SRep w' s c'∧c'.vs=vs∧c'.ps=ps∧(∀ b∈c'.own,b∈c.own)∧(∀ x y,edgeAt c'.outs c'.inn x y=edgeAt c.outs c.inn x y)∧∀ x y,edgeAt c'.inns c'.inn y x=edgeAt c.inns c.inn y x)∧Fr (· ∈ c.own) w w'
theorem own_sub {c c':St1} (h0:c'.vB=c.vB∧c'.pB=c.pB∧c'.oB=c.oB∧c'.iB=c.iB) (so:c'.outs.Sublist c.outs) (si:c'.inns.Sublist c.inns):∀ b∈c'.own,b∈c.own:=by
 have:c'.own.Sublist c.own:=by
   unfold St1.own
   rw [h0.1,h0.2.1,h0.2.2.1,h0.2.2.2]
   exact .cons_cons _ (.cons_cons _ (.cons_cons _ (.cons_cons _ ((so.map _).append (si.map _)))))
 exact fun b hb=>this.subset hb
theorem CutPost.mk {w w':World} {s:Nat} {c:St1} (h:SRep w s c) (f:Fr (fun b=>b=c.vB∨b=c.pB∨b=c.oB∨b=c.iB) w w') {vs ps:Ents} {outs' inns':List (ByteArray × Nat)}
   (so:outs'.Sublist c.outs) (si:inns'.Sublist c.inns) (hv:SM w' c.vB vs) (hp:SM w' c.pB ps) (ho:SM w' c.oB (mp outs')) (hi:SM w' c.iB (mp inns'))
   (eo:∀ x y,edgeAt outs' c.inn x y=edgeAt c.outs c.inn x y) (ei:∀ x y,edgeAt inns' c.inn y x=edgeAt c.inns c.inn y x):CutPost w s c vs ps w' :=
 ⟨⟨{ c with vs:=vs,ps:=ps,outs:=outs',inns:=inns' },h.cut f so si hv hp ho hi,rfl,rfl,own_sub ⟨rfl,rfl,rfl,rfl⟩ so si,eo,ei⟩,
  f.mono fun k hk=>by simp only [St1.own,List.mem_cons];rcases hk with q|q|q|q;exact .inl q;exact .inr (.inl q);exact .inr (.inr (.inl q));exact .inr (.inr (.inr (.inl q)))⟩
theorem dl_sub (l:List (ByteArray × Nat)) (k:ByteArray):(dl l k).Sublist l:=List.filter_sublist
theorem remv_no (w:World) (s:Nat) (c:St1) (h:SRep w s c) (k:ByteArray) (e1:Value) (g1:w.cell? ⟨1,0,none⟩=some e1) (hv:lookS c.vs k=none) :
   Calls Tryz.prog 223 #[.pointer (some ⟨s,0,none⟩),.string k] w fun e w'=>e=.returned e1∧w=w':=by
 obtain ⟨⟨c0,c1,c2,c3⟩,hs,⟨n0,n1,n2,n3⟩,q0,q1,q2,q3⟩:=h.facts
 obtain ⟨p1,p2,p3,p4,p5,p6,p7,p8,p9,p10,p11⟩:=St1.nodup h.nd
 clear p1 p2 p3
 have HV:=Lib.hid hv
 have H:=Lib.hid h
 clear h hv
 go_enter Tryz.func223,Tryz.ntmps223
 go_wp2_with (at_lookup;refine wl_look2N 135 9 9 Tryz.underlying135 Tryz.underlying9 (.string ⟨#[]⟩) zS rfl (.tmp 15) (.tmp 16) rfl H.out.v k HV.out rfl rfl ?_)
 go_ret
 exact ⟨rfl,rfl⟩
theorem remv_in (w:World) (s:Nat) (c:St1) (h:SRep w s c) (k v:ByteArray) (e2:Value) (g2:w.cell? ⟨2,0,none⟩=some e2) (hv:lookS c.vs k=some (.string v)) (ni:Nat) (hi:findK c.inns k=some ni) (hl:(0:Int) < ((c.inn ni).length:Int)) :
   Calls Tryz.prog 223 #[.pointer (some ⟨s,0,none⟩),.string k] w fun e w'=>e=.returned e2∧w=w':=by
 obtain ⟨⟨c0,c1,c2,c3⟩,hs,⟨n0,n1,n2,n3⟩,q0,q1,q2,q3⟩:=h.facts
 obtain ⟨p1,p2,p3,p4,p5,p6,p7,p8,p9,p10,p11⟩:=St1.nodup h.nd
 clear p1 p2 p3
 have HV:=Lib.hid hv
 have H:=Lib.hid h
 have HI:=Lib.hid (show lookS (mp c.inns) k=some (.map (some ni)) by rw [look_mp,hi];rfl)
 have EI:=Lib.hid (h.i.e _ (findK_mem hi))
 clear h hv hi
 go_enter Tryz.func223,Tryz.ntmps223
 go_wp2_with (first
   | (at_lookup;refine wl_look2S 135 9 9 Tryz.underlying135 Tryz.underlying9 (.string ⟨#[]⟩) zS rfl (.tmp 15) (.tmp 16) rfl H.out.v k _ HV.out rfl rfl ?_)
   | (at_lookup;refine wl_look2N 152 9 154 Tryz.underlying152 Tryz.underlying9 (.map none) zM rfl (.tmp 27) (.tmp 28) rfl H.out.i.m k HI.out rfl rfl ?_)
   | (at_lookup;refine wl_look2S 152 9 154 Tryz.underlying152 Tryz.underlying9 (.map none) zM rfl (.tmp 27) (.tmp 28) rfl H.out.i.m k _ HI.out rfl rfl ?_)
   | (at_len;refine wl_len 154 9 144 Tryz.underlying154 rfl (.tmp 33) rfl EI.out rfl ?_)
   | (at_delete;refine wl_del 152 9 154 Tryz.underlying152 Tryz.underlying9 rfl (.tmp 40) (.tmp 41) rfl H.out.i.m k rfl rfl ?_;intro arr1 k1 hm1)
   | (at_lookup;refine wl_look2N 152 9 154 Tryz.underlying152 Tryz.underlying9 (.map none) zM rfl (.tmp 46) (.tmp 47) rfl (by repeat' with_reducible first|exact H.out.o.m|assumption|apply SM.setM|(apply Ne.symm;assumption)) k HO.out rfl rfl ?_)
   | (at_lookup;refine wl_look2S 152 9 154 Tryz.underlying152 Tryz.underlying9 (.map none) zM rfl (.tmp 46) (.tmp 47) rfl (by repeat' with_reducible first|exact H.out.o.m|assumption|apply SM.setM|(apply Ne.symm;assumption)) k _ HO.out rfl rfl ?_)
   | (at_len;refine wl_len 154 9 144 Tryz.underlying154 rfl (.tmp 52) rfl (by repeat' with_reducible first|exact EO.out|assumption|apply SM.setM|(apply Ne.symm;assumption)) rfl ?_)
   | (at_delete;refine wl_del 152 9 154 Tryz.underlying152 Tryz.underlying9 rfl (.tmp 59) (.tmp 60) rfl (by repeat' with_reducible first|exact H.out.o.m|assumption|apply SM.setM|(apply Ne.symm;assumption)) k rfl rfl ?_;intro arr2 k2 hm2)
   | (at_delete;refine wl_del 135 9 9 Tryz.underlying135 Tryz.underlying9 rfl (.tmp 64) (.tmp 65) rfl (by repeat' with_reducible first|exact H.out.v|assumption|apply SM.setM|(apply Ne.symm;assumption)) k rfl rfl ?_;intro arr3 k3 hm3)
   | (at_delete;refine wl_del 179 9 137 Tryz.underlying179 Tryz.underlying9 rfl (.tmp 69) (.tmp 70) rfl (by repeat' with_reducible first|exact H.out.p|assumption|apply SM.setM|(apply Ne.symm;assumption)) k rfl rfl ?_;intro arr4 k4 hm4))
 go_ret
 exact ⟨rfl,rfl⟩
theorem remv_nn (w:World) (s:Nat) (c:St1) (h:SRep w s c) (k v:ByteArray) (hv:lookS c.vs k=some (.string v)) (hi:findK c.inns k=none) (ho:findK c.outs k=none) :
   Calls Tryz.prog 223 #[.pointer (some ⟨s,0,none⟩),.string k] w fun e w'=>e=.returned .nilIface∧CutPost w s c (delS c.vs k) (delS c.ps k) w':=by
 obtain ⟨⟨c0,c1,c2,c3⟩,hs,⟨n0,n1,n2,n3⟩,q0,q1,q2,q3⟩:=h.facts
 obtain ⟨p1,p2,p3,p4,p5,p6,p7,p8,p9,p10,p11⟩:=St1.nodup h.nd
 clear p1 p2 p3
 have HV:=Lib.hid hv
 have H:=Lib.hid h
 have HI:=Lib.hid (show lookS (mp c.inns) k=none by rw [look_mp,hi];rfl)
 have HO:=Lib.hid (show lookS (mp c.outs) k=none by rw [look_mp,ho];rfl)
 clear h hv hi ho
 go_enter Tryz.func223,Tryz.ntmps223
 go_wp2_with (first
   | (at_lookup;refine wl_look2S 135 9 9 Tryz.underlying135 Tryz.underlying9 (.string ⟨#[]⟩) zS rfl (.tmp 15) (.tmp 16) rfl H.out.v k _ HV.out rfl rfl ?_)
   | (at_lookup;refine wl_look2N 152 9 154 Tryz.underlying152 Tryz.underlying9 (.map none) zM rfl (.tmp 27) (.tmp 28) rfl H.out.i.m k HI.out rfl rfl ?_)
   | (at_lookup;refine wl_look2S 152 9 154 Tryz.underlying152 Tryz.underlying9 (.map none) zM rfl (.tmp 27) (.tmp 28) rfl H.out.i.m k _ HI.out rfl rfl ?_)
   | (at_len;refine wl_len 154 9 144 Tryz.underlying154 rfl (.tmp 33) rfl EI.out rfl ?_)
   | (at_delete;refine wl_del 152 9 154 Tryz.underlying152 Tryz.underlying9 rfl (.tmp 40) (.tmp 41) rfl H.out.i.m k rfl rfl ?_;intro arr1 k1 hm1)
   | (at_lookup;refine wl_look2N 152 9 154 Tryz.underlying152 Tryz.underlying9 (.map none) zM rfl (.tmp 46) (.tmp 47) rfl (by repeat' with_reducible first|exact H.out.o.m|assumption|apply SM.setM|(apply Ne.symm;assumption)) k HO.out rfl rfl ?_)
   | (at_lookup;refine wl_look2S 152 9 154 Tryz.underlying152 Tryz.underlying9 (.map none) zM rfl (.tmp 46) (.tmp 47) rfl (by repeat' with_reducible first|exact H.out.o.m|assumption|apply SM.setM|(apply Ne.symm;assumption)) k _ HO.out rfl rfl ?_)
   | (at_len;refine wl_len 154 9 144 Tryz.underlying154 rfl (.tmp 52) rfl (by repeat' with_reducible first|exact EO.out|assumption|apply SM.setM|(apply Ne.symm;assumption)) rfl ?_)
   | (at_delete;refine wl_del 152 9 154 Tryz.underlying152 Tryz.underlying9 rfl (.tmp 59) (.tmp 60) rfl (by repeat' with_reducible first|exact H.out.o.m|assumption|apply SM.setM|(apply Ne.symm;assumption)) k rfl rfl ?_;intro arr2 k2 hm2)
   | (at_delete;refine wl_del 135 9 9 Tryz.underlying135 Tryz.underlying9 rfl (.tmp 64) (.tmp 65) rfl (by repeat' with_reducible first|exact H.out.v|assumption|apply SM.setM|(apply Ne.symm;assumption)) k rfl rfl ?_;intro arr3 k3 hm3)
   | (at_delete;refine wl_del 179 9 137 Tryz.underlying179 Tryz.underlying9 rfl (.tmp 69) (.tmp 70) rfl (by repeat' with_reducible first|exact H.out.p|assumption|apply SM.setM|(apply Ne.symm;assumption)) k rfl rfl ?_;intro arr4 k4 hm4))
 go_ret
 refine ⟨rfl,CutPost.mk H.out (by ((repeat' with_reducible first|assumption|exact frR|apply frD|apply frN|apply frA|apply frM|apply frC);all_goals (simp;try omega))) (List.Sublist.refl _) (List.Sublist.refl _) (by repeat' with_reducible first|exact hm3|assumption|apply SM.setM|(apply Ne.symm;assumption)) hm4 (by repeat' with_reducible first|exact H.out.o.m|assumption|apply SM.setM|(apply Ne.symm;assumption)) (by repeat' with_reducible first|exact H.out.i.m|assumption|apply SM.setM|(apply Ne.symm;assumption)) (fun _ _=>rfl) (fun _ _=>rfl)⟩
theorem remv_no_e (w:World) (s:Nat) (c:St1) (h:SRep w s c) (k v:ByteArray) (e2:Value) (g2:w.cell? ⟨2,0,none⟩=some e2) (hv:lookS c.vs k=some (.string v)) (hi:findK c.inns k=none) (no:Nat) (ho:findK c.outs k=some no) (hl:(0:Int) < ((c.inn no).length:Int)) :
   Calls Tryz.prog 223 #[.pointer (some ⟨s,0,none⟩),.string k] w fun e w'=>e=.returned e2∧w=w':=by
 obtain ⟨⟨c0,c1,c2,c3⟩,hs,⟨n0,n1,n2,n3⟩,q0,q1,q2,q3⟩:=h.facts
 obtain ⟨p1,p2,p3,p4,p5,p6,p7,p8,p9,p10,p11⟩:=St1.nodup h.nd
 clear p1 p2 p3
 have HV:=Lib.hid hv
 have H:=Lib.hid h
 have HI:=Lib.hid (show lookS (mp c.inns) k=none by rw [look_mp,hi];rfl)
 have HO:=Lib.hid (show lookS (mp c.outs) k=some (.map (some no)) by rw [look_mp,ho];rfl)
 have EO:=Lib.hid (h.o.e _ (findK_mem ho))
 clear h hv hi ho
 go_enter Tryz.func223,Tryz.ntmps223
 go_wp2_with (first
   | (at_lookup;refine wl_look2S 135 9 9 Tryz.underlying135 Tryz.underlying9 (.string ⟨#[]⟩) zS rfl (.tmp 15) (.tmp 16) rfl H.out.v k _ HV.out rfl rfl ?_)
   | (at_lookup;refine wl_look2N 152 9 154 Tryz.underlying152 Tryz.underlying9 (.map none) zM rfl (.tmp 27) (.tmp 28) rfl H.out.i.m k HI.out rfl rfl ?_)
   | (at_lookup;refine wl_look2S 152 9 154 Tryz.underlying152 Tryz.underlying9 (.map none) zM rfl (.tmp 27) (.tmp 28) rfl H.out.i.m k _ HI.out rfl rfl ?_)
   | (at_len;refine wl_len 154 9 144 Tryz.underlying154 rfl (.tmp 33) rfl EI.out rfl ?_)
   | (at_delete;refine wl_del 152 9 154 Tryz.underlying152 Tryz.underlying9 rfl (.tmp 40) (.tmp 41) rfl H.out.i.m k rfl rfl ?_;intro arr1 k1 hm1)
   | (at_lookup;refine wl_look2N 152 9 154 Tryz.underlying152 Tryz.underlying9 (.map none) zM rfl (.tmp 46) (.tmp 47) rfl (by repeat' with_reducible first|exact H.out.o.m|assumption|apply SM.setM|(apply Ne.symm;assumption)) k HO.out rfl rfl ?_)
   | (at_lookup;refine wl_look2S 152 9 154 Tryz.underlying152 Tryz.underlying9 (.map none) zM rfl (.tmp 46) (.tmp 47) rfl (by repeat' with_reducible first|exact H.out.o.m|assumption|apply SM.setM|(apply Ne.symm;assumption)) k _ HO.out rfl rfl ?_)
   | (at_len;refine wl_len 154 9 144 Tryz.underlying154 rfl (.tmp 52) rfl (by repeat' with_reducible first|exact EO.out|assumption|apply SM.setM|(apply Ne.symm;assumption)) rfl ?_)
   | (at_delete;refine wl_del 152 9 154 Tryz.underlying152 Tryz.underlying9 rfl (.tmp 59) (.tmp 60) rfl (by repeat' with_reducible first|exact H.out.o.m|assumption|apply SM.setM|(apply Ne.symm;assumption)) k rfl rfl ?_;intro arr2 k2 hm2)
   | (at_delete;refine wl_del 135 9 9 Tryz.underlying135 Tryz.underlying9 rfl (.tmp 64) (.tmp 65) rfl (by repeat' with_reducible first|exact H.out.v|assumption|apply SM.setM|(apply Ne.symm;assumption)) k rfl rfl ?_;intro arr3 k3 hm3)
   | (at_delete;refine wl_del 179 9 137 Tryz.underlying179 Tryz.underlying9 rfl (.tmp 69) (.tmp 70) rfl (by repeat' with_reducible first|exact H.out.p|assumption|apply SM.setM|(apply Ne.symm;assumption)) k rfl rfl ?_;intro arr4 k4 hm4))
 go_ret
 exact ⟨rfl,rfl⟩
theorem remv_ie_oe (w:World) (s:Nat) (c:St1) (h:SRep w s c) (k v:ByteArray) (e2:Value) (g2:w.cell? ⟨2,0,none⟩=some e2) (m2:∀ b∈c.own,b≠2) (hv:lookS c.vs k=some (.string v)) (ni:Nat) (hi:findK c.inns k=some ni) (he:c.inn ni = []) (no:Nat) (ho:findK c.outs k=some no) (hl:(0:Int) < ((c.inn no).length:Int)) :
   Calls Tryz.prog 223 #[.pointer (some ⟨s,0,none⟩),.string k] w fun e w'=>e=.returned e2∧CutPost w s c c.vs c.ps w':=by
 obtain ⟨⟨c0,c1,c2,c3⟩,hs,⟨n0,n1,n2,n3⟩,q0,q1,q2,q3⟩:=h.facts
 obtain ⟨p1,p2,p3,p4,p5,p6,p7,p8,p9,p10,p11⟩:=St1.nodup h.nd
 clear p1 p2 p3
 have HV:=Lib.hid hv
 have H:=Lib.hid h
 have HI:=Lib.hid (show lookS (mp c.inns) k=some (.map (some ni)) by rw [look_mp,hi];rfl)
 have EI:=Lib.hid (show SM w ni [] by have:=h.i.e _ (findK_mem hi);rw [he] at this;exact this)
 have HO:=Lib.hid (show lookS (mp c.outs) k=some (.map (some no)) by rw [look_mp,ho];rfl)
 have EO:=Lib.hid (h.o.e _ (findK_mem ho))
 have pO:no≠c.iB:=(p4 _ (findK_mem ho)).2.2.2
 have n2':¬ (2:Nat)=c.iB:=fun e=>m2 c.iB (by simp [St1.own]) e.symm
 have KI:=Lib.hid (show ∀ n,findK c.inns k=some n→c.inn n = [] from fun n hn=>by rw [hi] at hn;cases hn;exact he)
 clear h hv hi ho he
 go_enter Tryz.func223,Tryz.ntmps223
 go_wp2_with (first
   | (at_lookup;refine wl_look2S 135 9 9 Tryz.underlying135 Tryz.underlying9 (.string ⟨#[]⟩) zS rfl (.tmp 15) (.tmp 16) rfl H.out.v k _ HV.out rfl rfl ?_)
   | (at_lookup;refine wl_look2N 152 9 154 Tryz.underlying152 Tryz.underlying9 (.map none) zM rfl (.tmp 27) (.tmp 28) rfl H.out.i.m k HI.out rfl rfl ?_)
   | (at_lookup;refine wl_look2S 152 9 154 Tryz.underlying152 Tryz.underlying9 (.map none) zM rfl (.tmp 27) (.tmp 28) rfl H.out.i.m k _ HI.out rfl rfl ?_)
   | (at_len;refine wl_len 154 9 144 Tryz.underlying154 rfl (.tmp 33) rfl EI.out rfl ?_)
   | (at_delete;refine wl_del 152 9 154 Tryz.underlying152 Tryz.underlying9 rfl (.tmp 40) (.tmp 41) rfl H.out.i.m k rfl rfl ?_;intro arr1 k1 hm1)
   | (at_lookup;refine wl_look2N 152 9 154 Tryz.underlying152 Tryz.underlying9 (.map none) zM rfl (.tmp 46) (.tmp 47) rfl (by repeat' with_reducible first|exact H.out.o.m|assumption|apply SM.setM|(apply Ne.symm;assumption)) k HO.out rfl rfl ?_)
   | (at_lookup;refine wl_look2S 152 9 154 Tryz.underlying152 Tryz.underlying9 (.map none) zM rfl (.tmp 46) (.tmp 47) rfl (by repeat' with_reducible first|exact H.out.o.m|assumption|apply SM.setM|(apply Ne.symm;assumption)) k _ HO.out rfl rfl ?_)
   | (at_len;refine wl_len 154 9 144 Tryz.underlying154 rfl (.tmp 52) rfl (by repeat' with_reducible first|exact EO.out|assumption|apply SM.setM|(apply Ne.symm;assumption)) rfl ?_)
   | (at_delete;refine wl_del 152 9 154 Tryz.underlying152 Tryz.underlying9 rfl (.tmp 59) (.tmp 60) rfl (by repeat' with_reducible first|exact H.out.o.m|assumption|apply SM.setM|(apply Ne.symm;assumption)) k rfl rfl ?_;intro arr2 k2 hm2)
   | (at_delete;refine wl_del 135 9 9 Tryz.underlying135 Tryz.underlying9 rfl (.tmp 64) (.tmp 65) rfl (by repeat' with_reducible first|exact H.out.v|assumption|apply SM.setM|(apply Ne.symm;assumption)) k rfl rfl ?_;intro arr3 k3 hm3)
   | (at_delete;refine wl_del 179 9 137 Tryz.underlying179 Tryz.underlying9 rfl (.tmp 69) (.tmp 70) rfl (by repeat' with_reducible first|exact H.out.p|assumption|apply SM.setM|(apply Ne.symm;assumption)) k rfl rfl ?_;intro arr4 k4 hm4))
 go_ret
 refine ⟨rfl,CutPost.mk H.out (by ((repeat' with_reducible first|assumption|exact frR|apply frD|apply frN|apply frA|apply frM|apply frC);all_goals (simp;try omega))) (List.Sublist.refl _) (dl_sub _ k) (by repeat' with_reducible first|exact H.out.v|assumption|apply SM.setM|(apply Ne.symm;assumption)) (by repeat' with_reducible first|exact H.out.p|assumption|apply SM.setM|(apply Ne.symm;assumption)) (by repeat' with_reducible first|exact H.out.o.m|assumption|apply SM.setM|(apply Ne.symm;assumption)) (by rw [← del_mp];exact hm1) (fun _ _=>rfl) (fun x y=>edgeAt_dl KI.out y x)⟩
theorem remv_ne (w:World) (s:Nat) (c:St1) (h:SRep w s c) (k v:ByteArray) (hv:lookS c.vs k=some (.string v)) (hi:findK c.inns k=none) (no:Nat) (ho:findK c.outs k=some no) (he:c.inn no = []) :
   Calls Tryz.prog 223 #[.pointer (some ⟨s,0,none⟩),.string k] w fun e w'=>e=.returned .nilIface∧CutPost w s c (delS c.vs k) (delS c.ps k) w':=by
 obtain ⟨⟨c0,c1,c2,c3⟩,hs,⟨n0,n1,n2,n3⟩,q0,q1,q2,q3⟩:=h.facts
 obtain ⟨p1,p2,p3,p4,p5,p6,p7,p8,p9,p10,p11⟩:=St1.nodup h.nd
 clear p1 p2 p3
 have HV:=Lib.hid hv
 have H:=Lib.hid h
 have HI:=Lib.hid (show lookS (mp c.inns) k=none by rw [look_mp,hi];rfl)
 have HO:=Lib.hid (show lookS (mp c.outs) k=some (.map (some no)) by rw [look_mp,ho];rfl)
 have EO:=Lib.hid (show SM w no [] by have:=h.o.e _ (findK_mem ho);rw [he] at this;exact this)
 have KO:=Lib.hid (show ∀ n,findK c.outs k=some n→c.inn n = [] from fun n hn=>by rw [ho] at hn;cases hn;exact he)
 clear h hv hi ho he
 go_enter Tryz.func223,Tryz.ntmps223
 go_wp2_with (first
   | (at_lookup;refine wl_look2S 135 9 9 Tryz.underlying135 Tryz.underlying9 (.string ⟨#[]⟩) zS rfl (.tmp 15) (.tmp 16) rfl H.out.v k _ HV.out rfl rfl ?_)
   | (at_lookup;refine wl_look2N 152 9 154 Tryz.underlying152 Tryz.underlying9 (.map none) zM rfl (.tmp 27) (.tmp 28) rfl H.out.i.m k HI.out rfl rfl ?_)
   | (at_lookup;refine wl_look2S 152 9 154 Tryz.underlying152 Tryz.underlying9 (.map none) zM rfl (.tmp 27) (.tmp 28) rfl H.out.i.m k _ HI.out rfl rfl ?_)
   | (at_len;refine wl_len 154 9 144 Tryz.underlying154 rfl (.tmp 33) rfl EI.out rfl ?_)
   | (at_delete;refine wl_del 152 9 154 Tryz.underlying152 Tryz.underlying9 rfl (.tmp 40) (.tmp 41) rfl H.out.i.m k rfl rfl ?_;intro arr1 k1 hm1)
   | (at_lookup;refine wl_look2N 152 9 154 Tryz.underlying152 Tryz.underlying9 (.map none) zM rfl (.tmp 46) (.tmp 47) rfl (by repeat' with_reducible first|exact H.out.o.m|assumption|apply SM.setM|(apply Ne.symm;assumption)) k HO.out rfl rfl ?_)
   | (at_lookup;refine wl_look2S 152 9 154 Tryz.underlying152 Tryz.underlying9 (.map none) zM rfl (.tmp 46) (.tmp 47) rfl (by repeat' with_reducible first|exact H.out.o.m|assumption|apply SM.setM|(apply Ne.symm;assumption)) k _ HO.out rfl rfl ?_)
   | (at_len;refine wl_len 154 9 144 Tryz.underlying154 rfl (.tmp 52) rfl (by repeat' with_reducible first|exact EO.out|assumption|apply SM.setM|(apply Ne.symm;assumption)) rfl ?_)
   | (at_delete;refine wl_del 152 9 154 Tryz.underlying152 Tryz.underlying9 rfl (.tmp 59) (.tmp 60) rfl (by repeat' with_reducible first|exact H.out.o.m|assumption|apply SM.setM|(apply Ne.symm;assumption)) k rfl rfl ?_;intro arr2 k2 hm2)
   | (at_delete;refine wl_del 135 9 9 Tryz.underlying135 Tryz.underlying9 rfl (.tmp 64) (.tmp 65) rfl (by repeat' with_reducible first|exact H.out.v|assumption|apply SM.setM|(apply Ne.symm;assumption)) k rfl rfl ?_;intro arr3 k3 hm3)
   | (at_delete;refine wl_del 179 9 137 Tryz.underlying179 Tryz.underlying9 rfl (.tmp 69) (.tmp 70) rfl (by repeat' with_reducible first|exact H.out.p|assumption|apply SM.setM|(apply Ne.symm;assumption)) k rfl rfl ?_;intro arr4 k4 hm4))
 go_ret
 refine ⟨rfl,CutPost.mk H.out (by ((repeat' with_reducible first|assumption|exact frR|apply frD|apply frN|apply frA|apply frM|apply frC);all_goals (simp;try omega))) (dl_sub _ k) (List.Sublist.refl _) (by repeat' with_reducible first|exact hm3|assumption|apply SM.setM|(apply Ne.symm;assumption)) hm4 (by rw [← del_mp];exact (by repeat' with_reducible first|exact hm2|assumption|apply SM.setM|(apply Ne.symm;assumption))) (by repeat' with_reducible first|exact H.out.i.m|assumption|apply SM.setM|(apply Ne.symm;assumption)) (fun x y=>edgeAt_dl KO.out x y) (fun _ _=>rfl)⟩
theorem remv_en (w:World) (s:Nat) (c:St1) (h:SRep w s c) (k v:ByteArray) (hv:lookS c.vs k=some (.string v)) (ho:findK c.outs k=none) (ni:Nat) (hi:findK c.inns k=some ni) (he:c.inn ni = []) :
   Calls Tryz.prog 223 #[.pointer (some ⟨s,0,none⟩),.string k] w fun e w'=>e=.returned .nilIface∧CutPost w s c (delS c.vs k) (delS c.ps k) w':=by
 obtain ⟨⟨c0,c1,c2,c3⟩,hs,⟨n0,n1,n2,n3⟩,q0,q1,q2,q3⟩:=h.facts
 obtain ⟨p1,p2,p3,p4,p5,p6,p7,p8,p9,p10,p11⟩:=St1.nodup h.nd
 clear p1 p2 p3
 have HV:=Lib.hid hv
 have H:=Lib.hid h
 have HO:=Lib.hid (show lookS (mp c.outs) k=none by rw [look_mp,ho];rfl)
 have HI:=Lib.hid (show lookS (mp c.inns) k=some (.map (some ni)) by rw [look_mp,hi];rfl)
 have EI:=Lib.hid (show SM w ni [] by have:=h.i.e _ (findK_mem hi);rw [he] at this;exact this)
 have KI:=Lib.hid (show ∀ n,findK c.inns k=some n→c.inn n = [] from fun n hn=>by rw [hi] at hn;cases hn;exact he)
 clear h hv hi ho he
 go_enter Tryz.func223,Tryz.ntmps223
 go_wp2_with (first
   | (at_lookup;refine wl_look2S 135 9 9 Tryz.underlying135 Tryz.underlying9 (.string ⟨#[]⟩) zS rfl (.tmp 15) (.tmp 16) rfl H.out.v k _ HV.out rfl rfl ?_)
   | (at_lookup;refine wl_look2N 152 9 154 Tryz.underlying152 Tryz.underlying9 (.map none) zM rfl (.tmp 27) (.tmp 28) rfl H.out.i.m k HI.out rfl rfl ?_)
   | (at_lookup;refine wl_look2S 152 9 154 Tryz.underlying152 Tryz.underlying9 (.map none) zM rfl (.tmp 27) (.tmp 28) rfl H.out.i.m k _ HI.out rfl rfl ?_)
   | (at_len;refine wl_len 154 9 144 Tryz.underlying154 rfl (.tmp 33) rfl EI.out rfl ?_)
   | (at_delete;refine wl_del 152 9 154 Tryz.underlying152 Tryz.underlying9 rfl (.tmp 40) (.tmp 41) rfl H.out.i.m k rfl rfl ?_;intro arr1 k1 hm1)
   | (at_lookup;refine wl_look2N 152 9 154 Tryz.underlying152 Tryz.underlying9 (.map none) zM rfl (.tmp 46) (.tmp 47) rfl (by repeat' with_reducible first|exact H.out.o.m|assumption|apply SM.setM|(apply Ne.symm;assumption)) k HO.out rfl rfl ?_)
   | (at_lookup;refine wl_look2S 152 9 154 Tryz.underlying152 Tryz.underlying9 (.map none) zM rfl (.tmp 46) (.tmp 47) rfl (by repeat' with_reducible first|exact H.out.o.m|assumption|apply SM.setM|(apply Ne.symm;assumption)) k _ HO.out rfl rfl ?_)
   | (at_len;refine wl_len 154 9 144 Tryz.underlying154 rfl (.tmp 52) rfl (by repeat' with_reducible first|exact EO.out|assumption|apply SM.setM|(apply Ne.symm;assumption)) rfl ?_)
   | (at_delete;refine wl_del 152 9 154 Tryz.underlying152 Tryz.underlying9 rfl (.tmp 59) (.tmp 60) rfl (by repeat' with_reducible first|exact H.out.o.m|assumption|apply SM.setM|(apply Ne.symm;assumption)) k rfl rfl ?_;intro arr2 k2 hm2)
   | (at_delete;refine wl_del 135 9 9 Tryz.underlying135 Tryz.underlying9 rfl (.tmp 64) (.tmp 65) rfl (by repeat' with_reducible first|exact H.out.v|assumption|apply SM.setM|(apply Ne.symm;assumption)) k rfl rfl ?_;intro arr3 k3 hm3)
   | (at_delete;refine wl_del 179 9 137 Tryz.underlying179 Tryz.underlying9 rfl (.tmp 69) (.tmp 70) rfl (by repeat' with_reducible first|exact H.out.p|assumption|apply SM.setM|(apply Ne.symm;assumption)) k rfl rfl ?_;intro arr4 k4 hm4))
 go_ret
 refine ⟨rfl,CutPost.mk H.out (by ((repeat' with_reducible first|assumption|exact frR|apply frD|apply frN|apply frA|apply frM|apply frC);all_goals (simp;try omega))) (List.Sublist.refl _) (dl_sub _ k) (by repeat' with_reducible first|exact hm3|assumption|apply SM.setM|(apply Ne.symm;assumption)) hm4 (by repeat' with_reducible first|exact H.out.o.m|assumption|apply SM.setM|(apply Ne.symm;assumption)) (by rw [← del_mp];exact (by repeat' with_reducible first|exact hm1|assumption|apply SM.setM|(apply Ne.symm;assumption))) (fun _ _=>rfl) (fun x y=>edgeAt_dl KI.out y x)⟩
theorem remv_ee (w:World) (s:Nat) (c:St1) (h:SRep w s c) (k v:ByteArray) (hv:lookS c.vs k=some (.string v)) (no:Nat) (ho:findK c.outs k=some no) (heo:c.inn no = []) (ni:Nat) (hi:findK c.inns k=some ni) (he:c.inn ni = []) :
   Calls Tryz.prog 223 #[.pointer (some ⟨s,0,none⟩),.string k] w fun e w'=>e=.returned .nilIface∧CutPost w s c (delS c.vs k) (delS c.ps k) w':=by
 obtain ⟨⟨c0,c1,c2,c3⟩,hs,⟨n0,n1,n2,n3⟩,q0,q1,q2,q3⟩:=h.facts
 obtain ⟨p1,p2,p3,p4,p5,p6,p7,p8,p9,p10,p11⟩:=St1.nodup h.nd
 clear p1 p2 p3
 have HV:=Lib.hid hv
 have H:=Lib.hid h
 have HO:=Lib.hid (show lookS (mp c.outs) k=some (.map (some no)) by rw [look_mp,ho];rfl)
 have EO:=Lib.hid (show SM w no [] by have:=h.o.e _ (findK_mem ho);rw [heo] at this;exact this)
 have KO:=Lib.hid (show ∀ n,findK c.outs k=some n→c.inn n = [] from fun n hn=>by rw [ho] at hn;cases hn;exact heo)
 have HI:=Lib.hid (show lookS (mp c.inns) k=some (.map (some ni)) by rw [look_mp,hi];rfl)
 have EI:=Lib.hid (show SM w ni [] by have:=h.i.e _ (findK_mem hi);rw [he] at this;exact this)
 have KI:=Lib.hid (show ∀ n,findK c.inns k=some n→c.inn n = [] from fun n hn=>by rw [hi] at hn;cases hn;exact he)
 have pO:no≠c.iB:=(p4 _ (findK_mem ho)).2.2.2
 clear h hv hi ho he heo
 go_enter Tryz.func223,Tryz.ntmps223
 go_wp2_with (first
   | (at_lookup;refine wl_look2S 135 9 9 Tryz.underlying135 Tryz.underlying9 (.string ⟨#[]⟩) zS rfl (.tmp 15) (.tmp 16) rfl H.out.v k _ HV.out rfl rfl ?_)
   | (at_lookup;refine wl_look2N 152 9 154 Tryz.underlying152 Tryz.underlying9 (.map none) zM rfl (.tmp 27) (.tmp 28) rfl H.out.i.m k HI.out rfl rfl ?_)
   | (at_lookup;refine wl_look2S 152 9 154 Tryz.underlying152 Tryz.underlying9 (.map none) zM rfl (.tmp 27) (.tmp 28) rfl H.out.i.m k _ HI.out rfl rfl ?_)
   | (at_len;refine wl_len 154 9 144 Tryz.underlying154 rfl (.tmp 33) rfl EI.out rfl ?_)
   | (at_delete;refine wl_del 152 9 154 Tryz.underlying152 Tryz.underlying9 rfl (.tmp 40) (.tmp 41) rfl H.out.i.m k rfl rfl ?_;intro arr1 k1 hm1)
   | (at_lookup;refine wl_look2N 152 9 154 Tryz.underlying152 Tryz.underlying9 (.map none) zM rfl (.tmp 46) (.tmp 47) rfl (by repeat' with_reducible first|exact H.out.o.m|assumption|apply SM.setM|(apply Ne.symm;assumption)) k HO.out rfl rfl ?_)
   | (at_lookup;refine wl_look2S 152 9 154 Tryz.underlying152 Tryz.underlying9 (.map none) zM rfl (.tmp 46) (.tmp 47) rfl (by repeat' with_reducible first|exact H.out.o.m|assumption|apply SM.setM|(apply Ne.symm;assumption)) k _ HO.out rfl rfl ?_)
   | (at_len;refine wl_len 154 9 144 Tryz.underlying154 rfl (.tmp 52) rfl (by repeat' with_reducible first|exact EO.out|assumption|apply SM.setM|(apply Ne.symm;assumption)) rfl ?_)
   | (at_delete;refine wl_del 152 9 154 Tryz.underlying152 Tryz.underlying9 rfl (.tmp 59) (.tmp 60) rfl (by repeat' with_reducible first|exact H.out.o.m|assumption|apply SM.setM|(apply Ne.symm;assumption)) k rfl rfl ?_;intro arr2 k2 hm2)
   | (at_delete;refine wl_del 135 9 9 Tryz.underlying135 Tryz.underlying9 rfl (.tmp 64) (.tmp 65) rfl (by repeat' with_reducible first|exact H.out.v|assumption|apply SM.setM|(apply Ne.symm;assumption)) k rfl rfl ?_;intro arr3 k3 hm3)
   | (at_delete;refine wl_del 179 9 137 Tryz.underlying179 Tryz.underlying9 rfl (.tmp 69) (.tmp 70) rfl (by repeat' with_reducible first|exact H.out.p|assumption|apply SM.setM|(apply Ne.symm;assumption)) k rfl rfl ?_;intro arr4 k4 hm4))
 go_ret
 refine ⟨rfl,CutPost.mk H.out (by ((repeat' with_reducible first|assumption|exact frR|apply frD|apply frN|apply frA|apply frM|apply frC);all_goals (simp;try omega))) (dl_sub _ k) (dl_sub _ k) (by repeat' with_reducible first|exact hm3|assumption|apply SM.setM|(apply Ne.symm;assumption)) hm4 (by rw [← del_mp];exact (by repeat' with_reducible first|exact hm2|assumption|apply SM.setM|(apply Ne.symm;assumption))) (by rw [← del_mp];exact (by repeat' with_reducible first|exact hm1|assumption|apply SM.setM|(apply Ne.symm;assumption))) (fun x y=>edgeAt_dl KO.out x y) (fun x y=>edgeAt_dl KI.out y x)⟩
theorem info9:(Tryz.prog.info? 9).map (fun i=>(i.zero,i.size,i.bytes))=some (some (.string ⟨#[]⟩),1,16):=by kernel_rfl
theorem info144:(Tryz.prog.info? 144).map (fun i=>(i.zero,i.size,i.bytes))=some (some zEv,5,64):=by kernel_rfl
def strs (l:List ByteArray):List Value:=l.map .string
def LV (w:World) (b r:Nat) (all:List ByteArray) (k:Nat) (v:Value) (wr:World):Prop :=
 ∃ done rem,rem.length=k∧(done ++ rem.map (·.1)).Perm all∧wr.ownsRow w.heap.size 9 1 v done.length (strs done)∧IT wr r b rem∧Fr0 w wr∧w.heap.size≤r∧done.length≤1000000∧all.length≤1000000
theorem perm_step {α β:Type} {done:List α} {rem l1 l2:List (α × β)} {k:α} {u:β} {all:List α} (h:(done ++ rem.map (·.1)).Perm all) (e:rem=l1 ++ (k,u) :: l2):((done ++ [k]) ++ (l1 ++ l2).map (·.1)).Perm all:=by
 refine List.Perm.trans ?_ h
 subst e
 simp only [List.map_append,List.map_cons,List.append_assoc,List.singleton_append]
 refine List.Perm.append_left done ?_
 exact List.perm_middle.symm
theorem LV.step {w wr w3 w4:World} {b r:Nat} {all:List ByteArray} {k:Nat} {v v':Value} {done:List ByteArray} {rem l1 l2:Ents} {key:ByteArray} {u:Value}
   (hk:rem.length=k) (hp:(done ++ rem.map (·.1)).Perm all) (ho:wr.ownsRow w.heap.size 9 1 v done.length (strs done)) (f:Fr0 w wr) (hr:w.heap.size≤r) (hall:all.length≤1000000)
   (e:rem=l1 ++ (key,u) :: l2) (hit0:IT wr r b rem) (hit:IT w3 r b (l1 ++ l2)) (hu:Upd r wr w3) (ho':w4.ownsRow w.heap.size 9 1 v' (done.length+1) (strs done ++ [.string key])) (fg:Fr (fun j=>v.ownBlock=some j) w3 w4) :
   ∃ k',k' < k∧LV w b r all k' v' w4:=by
 have o3:w3.ownsRow w.heap.size 9 1 v done.length (strs done):=ownsRow_fr ho (Fr.of_upd hu) fun j hj q=>ownsRow_ne_it ho hit0 (by rw [hj,q])
 have hp':=perm_step hp e
 refine ⟨(l1 ++ l2).length,by rw [← hk,e];simp,done ++ [key],l1 ++ l2,rfl,hp',?_,hit.fr fg ?_ ?_,?_,hr,?_,hall⟩
 · have:strs (done ++ [key])=strs done ++ [.string key]:=by simp [strs]
   rw [this]
   simpa using ho'
 · intro q
   exact ownsRow_ne_itb ho hit0 q
 · intro q
   exact ownsRow_ne_it ho hit0 q
 · exact (f.trans (Fr.of_upd hu) fun j hj=>.inr (by rw [hj];exact hr)).trans fg fun j hj=>.inr (o3.lt j hj).1
 · have:=hp'.length_eq
   simp at this ⊢
   omega
theorem listv (w:World) (s:Nat) (c:St1) (h:SRep w s c) (hb:c.vs.length≤1000000) :
   Calls Tryz.prog 221 #[.pointer (some ⟨s,0,none⟩)] w fun e w'=>∃ v ks,e=.returned (.tuple #[v,.nilIface])∧ks.Perm (c.vs.map (·.1))∧w'.ownsRow w.heap.size 9 1 v ks.length (strs ks)∧Fr0 w w':=by
 obtain ⟨⟨c0,c1,c2,c3⟩,hs,⟨n0,n1,n2,n3⟩,q0,q1,q2,q3⟩:=h.facts
 have H:=Lib.hid h
 clear h
 go_enter Tryz.func221,Tryz.ntmps221
 go_wp2_with (first
   | (at_len;refine wl_len 135 9 9 Tryz.underlying135 rfl (.tmp 9) rfl H.out.v rfl ?_)
   | (at_make;refine wl_make0 41 rfl _ (.tmp 10) rfl 9 _ 1 16 Tryz.underlying41 info9 (by decide) .i64 .i64 c.vs.length rfl rfl hb ?_;intro w1 hown f1;have hown1:=Lib.hid hown;have f1':=Lib.hid f1;clear hown f1;have k0:=f1'.out.cell (p:=⟨s,0,none⟩) hs (fun q=>q);rw [c0] at k0)
   | (at_range;refine wl_range 135 9 9 Tryz.underlying135 rfl (.tmp 15) rfl (H.out.v.fr f1'.out (fun q=>q)) rfl ?_;intro ob w2 hw2 sm2 it2))
 go_frame
 go_loopg [4] c.vs.length (fun k v wr=>LV w c.vB w1.heap.size (c.vs.map (·.1)) k v wr)
 case atStart =>
   subst hw2
   exact ⟨[],c.vs,rfl,List.Perm.refl _,hown1.out.alloc _,it2,f1'.out.alloc _,f1'.out.size,by simp,by simpa using hb⟩
 case round =>
   obtain ⟨done,rem,hk,hp,ho,hit,f,hr,hd,ha⟩:=hrel
   have A:=hid8 hk hp ho hit f hr hd ha
   clear hk hp ho hit f hr ha
   go_wp2_with (first
     | (at_next;refine wl_next rfl (.tmp 16) rfl w1.heap.size rem A.out.2.2.2.1 rfl ?_ ?_))
   · intro hrem
     have B:=Lib.hid hrem
     clear hrem
     go_wp2
     go_ret2
     obtain ⟨hk,hp,ho,hit,f,hr,_,ha⟩:=A.out
     have e0:=B.out
     subst e0
     exact ⟨u4,done,rfl,by simpa using hp,ho,f⟩
   · intro key v l1 l2 w3 hrem hit3 hu3 hen
     have B:=hid3 hrem hit3 hu3
     clear hrem hit3 hu3
     go_wp2_with (first
       | (at_builtin;refine wl_app1 (w:=w3) 41 rfl (.tmp 21) (.tmp 23) rfl 9 _ 1 16 Tryz.underlying41 info9 rfl (by decide) (by decide) w.heap.size u4 done.length (strs done) rfl (ownsRow_fr A.out.2.2.1 (Fr.of_upd B.out.2.2) fun j hj q=>ownsRow_ne_it A.out.2.2.1 A.out.2.2.2.1 (by rw [hj,q])) #[.string key] _ rfl rfl rfl (by simp [Value.oneCell']) hd ?_ ?_))
     · have:=A.out.2.2.2.2.1.size
       have:=B.out.2.2.size
       omega
     · intro v' w4 ho' fg hne
       have C:=hid2 ho' fg
       clear ho' fg hne
       go_wp2
       obtain ⟨hk,hp,ho,hit,f,hr,_,ha⟩:=A.out
       obtain ⟨k',hk',hLV⟩:=LV.step hk hp ho f hr ha B.out.1 hit B.out.2.1 B.out.2.2 C.out.1 C.out.2
       go_roundg k'
       case measure=>exact hk'
       case rel=>exact hLV
def IsE (v:Value):Prop:=∃ x y a wt,v=ev x y a wt
def inV (inn:Nat→Ents):Value→List Value
 | .map (some n)=>(inn n).map (·.2)
 | _ => []
def allV (outs:List (ByteArray × Nat)) (inn:Nat→Ents):List Value:=(mp outs).flatMap fun p=>inV inn p.2
def eCells (l:List Value):List Value:=l.flatMap fun v=>v.cells.toList
theorem eCells_snoc (l:List Value) (v:Value):eCells (l ++ [v])=eCells l ++ v.cells.toList:=by simp [eCells]
theorem ev_cells (x y:ByteArray) (a:Nat) (wt:Int):(ev x y a wt).cells=#[.string x,.string y,.map (some a),.int .i64 wt,.nilIface]:=by kernel_rfl
theorem perm_in {done:List Value} {rem l1 l2:Ents} {k:ByteArray} {u:Value} {more all:List Value} (h:(done ++ (rem.map (·.2) ++ more)).Perm all) (e:rem=l1 ++ (k,u) :: l2) :
   ((done ++ [u]) ++ ((l1 ++ l2).map (·.2) ++ more)).Perm all:=by
 refine List.Perm.trans ?_ h
 subst e
 simp only [List.map_append,List.map_cons,List.append_assoc,List.singleton_append]
 refine List.Perm.append_left done ?_
 exact List.perm_middle.symm
theorem perm_out {done:List Value} {rem l1 l2:Ents} {k:ByteArray} {u:Value} {f:ByteArray × Value→List Value} {all:List Value} (h:(done ++ rem.flatMap f).Perm all) (e:rem=l1 ++ (k,u) :: l2) :
   (done ++ (f (k,u) ++ (l1 ++ l2).flatMap f)).Perm all:=by
 refine List.Perm.trans ?_ h
 subst e
 simp only [List.flatMap_append,List.flatMap_cons]
 refine List.Perm.append_left done ?_
 rw [← List.append_assoc,← List.append_assoc]
 exact List.perm_append_comm.append_right _
def LO (w:World) (c:St1) (r k:Nat) (v:Value) (wr:World):Prop :=
 ∃ done rem,rem.length=k∧(done ++ rem.flatMap fun p=>inV c.inn p.2).Perm (allV c.outs c.inn)∧wr.ownsRow w.heap.size 144 5 v done.length (eCells done)∧IT wr r c.oB rem∧Fr0 w wr∧w.heap.size≤r∧done.length≤1000000 ∧
   ∀ p∈rem, ∃ n,p.2=.map (some n)∧(p.1,n)∈c.outs
def LI (w:World) (c:St1) (r r' b:Nat) (remO:Ents) (k:Nat) (v:Value) (wr:World):Prop :=
 ∃ done rem,rem.length=k∧(done ++ (rem.map (·.2) ++ remO.flatMap fun p=>inV c.inn p.2)).Perm (allV c.outs c.inn)∧wr.ownsRow w.heap.size 144 5 v done.length (eCells done)∧IT wr r c.oB remO∧IT wr r' b rem∧Fr0 w wr∧(w.heap.size≤r∧r < r') ∧
   done.length≤1000000∧∀ p∈rem,IsE p.2
theorem LI.step {w wr w3 w4:World} {c:St1} {r r' b k:Nat} {remO:Ents} {v v':Value} {done:List Value} {rem l1 l2:Ents} {key:ByteArray} {u:Value} {bx:Obj}
   (hk:rem.length=k) (hp:(done ++ (rem.map (·.2) ++ remO.flatMap fun p=>inV c.inn p.2)).Perm (allV c.outs c.inn)) (ho:wr.ownsRow w.heap.size 144 5 v done.length (eCells done)) (hitO:IT wr r c.oB remO) (hit:IT wr r' b rem)
   (f:Fr0 w wr) (hr:w.heap.size≤r∧r < r') (hall:(allV c.outs c.inn).length≤1000000) (hE:∀ p∈rem,IsE p.2)
   (e:rem=l1 ++ (key,u) :: l2) (hit3:IT w3 r' b (l1 ++ l2)) (hu:Upd r' wr w3) (ho':w4.ownsRow w.heap.size 144 5 v' (done.length+1) (eCells done ++ u.cells.toList)) (fg:Fr (fun j=>v.ownBlock=some j) (w3.alloc bx) w4) :
   ∃ k',k' < k∧LI w c r r' b remO k' v' w4:=by
 have o3:w3.ownsRow w.heap.size 144 5 v done.length (eCells done):=ownsRow_fr ho (Fr.of_upd hu) fun j hj q=>ownsRow_ne_it ho hit (by rw [hj,q])
 have hp':=perm_in hp e
 have h1:Fr0 w3 (w3.alloc bx):=(Fr.refl _ _).alloc _
 refine ⟨(l1 ++ l2).length,by rw [← hk,e];simp,done ++ [u],l1 ++ l2,rfl,hp',?_,?_,?_,?_,hr,?_,fun p hp0=>hE p ?_⟩
 · rw [eCells_snoc]
   simpa using ho'
 · refine ((hitO.fr (Fr.of_upd hu) ?_ ?_).fr h1 (fun q=>q) (fun q=>q)).fr fg ?_ ?_
   · intro q;rw [← q] at hit;exact absurd hit (fun g=>by
       obtain ⟨a1,_,_,g1,_⟩:=hitO
       obtain ⟨a2,_,_,_,_,_,g2,_⟩:=g
       rw [g1] at g2;cases g2)
   · intro q;omega
   · intro q;exact ownsRow_ne_itb ho hitO q
   · intro q;exact ownsRow_ne_it ho hitO q
 · refine (hit3.fr h1 (fun q=>q) (fun q=>q)).fr fg ?_ ?_
   · intro q;exact ownsRow_ne_itb ho hit q
   · intro q;exact ownsRow_ne_it ho hit q
 · exact ((f.trans (Fr.of_upd hu) fun j hj=>.inr (by rw [hj];omega)).trans0 h1).trans fg fun j hj=>.inr (o3.lt j hj).1
 · have:=hp'.length_eq
   simp at this ⊢
   omega
 · subst e
   simp only [List.mem_append,List.mem_cons] at hp0 ⊢
   rcases hp0 with q|q
   · exact .inl q
   · exact .inr (.inr q)
theorem LI.start {w wr w3:World} {c:St1} {r:Nat} {v:Value} {done:List Value} {rem l1 l2:Ents} {key:ByteArray} {u:Value} {n:Nat} {ob:Obj} (hE:∀ p∈c.outs, ∀ q∈c.inn p.2,IsE q.2)
   (hp:(done ++ rem.flatMap fun p=>inV c.inn p.2).Perm (allV c.outs c.inn)) (ho:wr.ownsRow w.heap.size 144 5 v done.length (eCells done)) (hit:IT wr r c.oB rem)
   (f:Fr0 w wr) (hr:w.heap.size≤r) (hd:done.length≤1000000) (e:rem=l1 ++ (key,u) :: l2) (hit3:IT w3 r c.oB (l1 ++ l2)) (hu:Upd r wr w3) (hun:u=.map (some n)) (hn:(key,n)∈c.outs)
   (hit4:IT (w3.alloc ob) w3.heap.size n (c.inn n)) :
   LI w c r w3.heap.size n (l1 ++ l2) (c.inn n).length v (w3.alloc ob):=by
 have o3:w3.ownsRow w.heap.size 144 5 v done.length (eCells done):=ownsRow_fr ho (Fr.of_upd hu) fun j hj q=>ownsRow_ne_it ho hit (by rw [hj,q])
 have hp':=perm_out (f:=fun p=>inV c.inn p.2) hp e
 subst hun
 refine ⟨done,c.inn n,rfl,hp',o3.alloc _,hit3.fr ((Fr.refl (fun _=>False) _).alloc _) (fun q=>q) (fun q=>q),hit4,((f.trans (Fr.of_upd hu) fun j hj=>.inr (by rw [hj];exact hr))).alloc _,⟨hr,hit3.lt.1⟩,hd,fun p hp=>hE _ hn p hp⟩
theorem LI.done {w wr:World} {c:St1} {r r' b:Nat} {remO:Ents} {v:Value} (hq:∀ p∈remO, ∃ n,p.2=.map (some n)∧(p.1,n)∈c.outs) {done:List Value}
   (hp:(done ++ (([]:Ents).map (·.2) ++ remO.flatMap fun p=>inV c.inn p.2)).Perm (allV c.outs c.inn)) (ho:wr.ownsRow w.heap.size 144 5 v done.length (eCells done)) (hitO:IT wr r c.oB remO) (f:Fr0 w wr) (hr:w.heap.size≤r∧r < r') (hd:done.length≤1000000) (_hit:IT wr r' b []) :
   LO w c r remO.length v wr :=
 ⟨done,remO,rfl,by simpa using hp,ho,hitO,f,hr.1,hd,hq⟩
theorem liste (w:World) (s:Nat) (c:St1) (h:SRep w s c) (hE:∀ p∈c.outs, ∀ q∈c.inn p.2,IsE q.2) (hb:(allV c.outs c.inn).length≤1000000) :
   Calls Tryz.prog 220 #[.pointer (some ⟨s,0,none⟩)] w fun e w'=>∃ v es,e=.returned (.tuple #[v,.nilIface])∧es.Perm (allV c.outs c.inn)∧w'.ownsRow w.heap.size 144 5 v es.length (eCells es)∧Fr0 w w':=by
 obtain ⟨⟨c0,c1,c2,c3⟩,hs,⟨n0,n1,n2,n3⟩,q0,q1,q2,q3⟩:=h.facts
 have H:=Lib.hid h
 have HE:=Lib.hid hE
 clear h hE
 go_enter Tryz.func220,Tryz.ntmps220
 go_wp2_with (first
   | (at_make;refine wl_make0 147 rfl _ _ rfl 144 _ 5 64 Tryz.underlying147 info144 (by decide) .i64 .i64 0 rfl rfl (by decide) ?_;intro w1 hown f1;have hown1:=Lib.hid hown;have f1':=Lib.hid f1;clear hown f1;have k0:=f1'.out.cell (p:=⟨s,2,none⟩) hs (fun q=>q);rw [c2] at k0)
   | (at_range;refine wl_range 152 9 154 Tryz.underlying152 rfl (.tmp 13) rfl (H.out.o.m.fr f1'.out (fun q=>q)) rfl ?_;intro ob w2 hw2 sm2 it2))
 go_frame
 go_loopg [4] c.outs.length (fun k v wr=>LO w c w1.heap.size k v wr)
 case atStart =>
   subst hw2
   refine ⟨[],mp c.outs,by simp [mp],List.Perm.refl _,hown1.out.alloc _,it2,f1'.out.alloc _,f1'.out.size,by simp,fun p hp => ?_⟩
   obtain ⟨x,hx,rfl⟩:=List.mem_map.1 hp
   exact ⟨x.2,rfl,hx⟩
 case round =>
   obtain ⟨done,rem,hk,hp,ho,hit,f,hr,hd,hq⟩:=hrel
   have A:=hid8 hk hp ho hit f hr hd hq
   clear hk hp ho hit f hr hd hq
   go_wp2_with (first
     | (at_next;refine wl_next rfl (.tmp 14) rfl w1.heap.size rem A.out.2.2.2.1 rfl ?_ ?_))
   · intro hrem
     have B:=Lib.hid hrem
     clear hrem
     go_wp2
     go_ret2
     obtain ⟨hk,hp,ho,hit,f,hr,_,ha⟩:=A.out
     have e0:=B.out
     subst e0
     exact ⟨u4,done,rfl,by simpa using hp,ho,f⟩
   · intro key v l1 l2 w3 hrem hit3 hu3 hen
     obtain ⟨n,rfl,hn⟩:=A.out.2.2.2.2.2.2.2 (key,v) (by rw [hrem];simp)
     have B:=hid4 hrem hit3 hu3 hn
     clear hrem hit3 hu3 hn
     have SN:=Lib.hid (((H.out.o.e _ B.out.2.2.2).fr A.out.2.2.2.2.1 (fun q=>q)).upd B.out.2.2.1 (by have h1:=A.out.2.2.2.2.2.1;have h2:n < w.heap.size:=H.out.lt _ (St1.mem_outs B.out.2.2.2);intro q;simp only at q;omega))
     go_wp2_with (first
       | (at_range;refine wl_range 154 9 144 Tryz.underlying154 rfl (.tmp 19) rfl SN.out rfl ?_;intro ob4 w4 hw4 sm4 it4))
     try go_frame
     go_loopg [4] (c.inn n).length (fun k v wr=>LI w c w1.heap.size w3.heap.size n (l1 ++ l2) k v wr)
     case atStart =>
       subst hw4
       obtain ⟨hk,hp,ho,hit,f,hr,hd,ha⟩:=A.out
       exact LI.start HE.out hp ho hit f hr hd B.out.1 B.out.2.1 B.out.2.2.1 rfl B.out.2.2.2 it4
     case round =>
       obtain ⟨done',rem',hk',hp',ho',hitO',hit',f',hr',hd',hE'⟩:=hrel
       have A':=hid9 hk' hp' ho' hitO' hit' f' hr' hd' hE'
       clear hk' hp' ho' hitO' hit' f' hr' hE'
       go_wp2_with (first
         | (at_next;refine wl_next rfl (.tmp 20) rfl w3.heap.size rem' A'.out.2.2.2.2.1 rfl ?_ ?_))
       · intro hrem
         have B':=Lib.hid hrem
         clear hrem
         go_wp2
         obtain ⟨hk',hp',ho',hitO',hit',f',hr',hd',hE'⟩:=A'.out
         have e0:=B'.out
         subst e0
         have hLO:=LI.done (fun p hp=>A.out.2.2.2.2.2.2.2 p (by rw [B.out.1];simp only [List.mem_append,List.mem_cons] at hp ⊢;rcases hp with q|q;exact .inl q;exact .inr (.inr q))) hp' ho' hitO' f' hr' hd' hit'
         go_roundg (l1 ++ l2).length
         case measure =>
           have h1:=A.out.1
           rw [B.out.1] at h1
           simp at h1 ⊢
           omega
         case rel=>exact hLO
       · intro key' v' l1' l2' w5 hrem' hit5 hu5 hen'
         obtain ⟨x,y,at_,wt,rfl⟩:=A'.out.2.2.2.2.2.2.2.2 (key',v') (by rw [hrem'];simp)
         have B':=hid3 hrem' hit5 hu5
         clear hrem' hit5 hu5
         go_wp2_with (first
           | (at_builtin;refine wl_app1 (w:=w5.alloc (.cells #[.string x,.string y,.map (some at_),.int .i64 wt,.nilIface] 144)) 147 rfl (.tmp 25) (.tmp 27) rfl 144 _ 5 64 Tryz.underlying147 info144 rfl (by decide) (by decide) w.heap.size u4 done'.length (eCells done') rfl ((ownsRow_fr A'.out.2.2.1 (Fr.of_upd B'.out.2.2) fun j hj q=>ownsRow_ne_it A'.out.2.2.1 A'.out.2.2.2.2.1 (by rw [hj,q])).alloc _) #[.string x,.string y,.map (some at_),.int .i64 wt,.nilIface] (w5.heap.size+1) rfl (by simp) rfl (by simp [Value.oneCell']) hd' ?_ ?_))
         · have:=A'.out.2.2.2.2.2.1.size
           have:=B'.out.2.2.size
           simp
           omega
         · intro v' w6 ho' fg hne
           have C:=hid2 ho' fg
           clear ho' fg hne
           go_wp2
           obtain ⟨hk',hp',ho',hitO',hit',f',hr',_,hE'⟩:=A'.out
           obtain ⟨k',hk',hLI⟩:=LI.step hk' hp' ho' hitO' hit' f' hr' hb hE' B'.out.1 B'.out.2.1 B'.out.2.2 (by rw [ev_cells];exact C.out.1) C.out.2
           go_roundg k'
           case measure=>exact hk'
           case rel=>exact hLI
end Go.Proofs.YtbafaadmlpamiaaGreatDoor
