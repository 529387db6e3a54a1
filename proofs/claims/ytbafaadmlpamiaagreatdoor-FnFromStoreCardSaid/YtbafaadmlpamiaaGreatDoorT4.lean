import Derived.Test.YtbafaadmlpamiaaGreatDoorPred
import Derived.Test.YtbafaadmlpamiaaGreatDoorT3
import Derived.Test.YtbafaadmlpamiaaGreatDoorStep8
namespace Go.Proofs.YtbafaadmlpamiaaGreatDoor
open Go Go.Hy Go.RowKit
def lkOf (G:GS) (turn:Bool) (x y:ByteArray):Option SL:=(if turn then findL G.dir G.lks y x else findL G.dir G.lks x y).map fun e=>⟨x,y,e.wt,byK e.es⟩
theorem AdjM.entry {w w':World} {G:GS} {turn:Bool} {B:Nat} {l:List (ByteArray × Nat)} {inn:Nat→Ents} (h:AdjM w w' G turn B l inn) {x y:ByteArray} {n:Nat} {v:Value} (hx:(x,n)∈l) (hy:(y,v)∈inn n) :
   ∃ e∈G.lks,v=(if turn then ev y x e.at_ e.wt else ev x y e.at_ e.wt)∧lkOf G turn x y=some ⟨x,y,e.wt,byK e.es⟩:=by
 have h1:edgeAt l inn x y=some v:=by
   unfold edgeAt
   rw [findK_of_mem h.side.keys hx]
   exact lookS_of_mem (h.side.e _ hx).nodup hy
 rw [h.at_] at h1
 unfold lkOf
 obtain ⟨e,he,hv⟩:=Option.map_eq_some_iff.1 h1
 refine ⟨e,?_,hv.symm,by rw [he];rfl⟩
 cases turn
 · exact (findL_mem (dir:=G.dir) (a:=x) (b:=y) (by simpa using he)).1
 · exact (findL_mem (dir:=G.dir) (a:=y) (b:=x) (by simpa using he)).1
theorem both_low (s:St) (h:s.dir=false) (t:Bool):s.both t=s.both false:=by
 unfold St.both
 simp [h]
theorem both_iff {w:World} {G:GS} (h:GRep w G) (turn:Bool) (s:SL):s∈G.st.both turn↔lkOf G turn s.a s.b=some s:=by
 have hl:=h.lnd
 have fw:∀ l∈G.lks,findL G.dir G.lks l.a l.b=some l:=fun l hm=>findL_of_mem hl hm
 have mem:s∈G.st.both turn↔∃ l∈G.lks,((turn=false∨G.dir=false)∧s=Lk.sl l)∨((turn=true∨G.dir=false)∧s=(Lk.sl l).turn):=by
   have hd:G.st.dir=G.dir:=rfl
   unfold St.both
   rw [hd]
   simp only [List.mem_flatMap,GS.st,List.mem_map,List.mem_append]
   constructor
   · rintro ⟨_,⟨l,hm,rfl⟩,q|q⟩
     · split at q
       · exact ⟨l,hm,.inl ⟨by cases turn <;> simp_all,by simpa using q⟩⟩
       · cases q
     · split at q
       · exact ⟨l,hm,.inr ⟨by cases turn <;> simp_all,by simpa using q⟩⟩
       · cases q
   · rintro ⟨l,hm,⟨q,rfl⟩|⟨q,rfl⟩⟩
     · refine ⟨_,⟨l,hm,rfl⟩,.inl ?_⟩
       rw [if_pos (by rcases q with q|q <;> simp [q])]
       simp
     · refine ⟨_,⟨l,hm,rfl⟩,.inr ?_⟩
       rw [if_pos (by rcases q with q|q <;> simp [q])]
       simp
 rw [mem]
 unfold lkOf
 constructor
 · rintro ⟨l,hm,⟨q,rfl⟩|⟨q,rfl⟩⟩
   · have e1:(Lk.sl l).a=l.a:=rfl
     have e2:(Lk.sl l).b=l.b:=rfl
     rw [e1,e2]
     cases turn
     · rw [if_neg (by simp),fw l hm];rfl
     · have hd:G.dir=false:=by rcases q with q|q <;> simp_all
       rw [if_pos rfl,hd,findL_swap,← hd,fw l hm]
       rfl
   · have e1:(Lk.sl l).turn.a=l.b:=rfl
     have e2:(Lk.sl l).turn.b=l.a:=rfl
     rw [e1,e2]
     cases turn
     · have hd:G.dir=false:=by rcases q with q|q <;> simp_all
       rw [if_neg (by simp),hd,findL_swap,← hd,fw l hm]
       rfl
     · rw [if_pos rfl,fw l hm];rfl
 · intro q
   obtain ⟨e,he,q2⟩:=Option.map_eq_some_iff.1 q
   generalize s.a=x at *
   generalize s.b=y at *
   subst q2
   cases turn
   · rw [if_neg (by simp)] at he
     obtain ⟨m1,m2⟩:=findL_mem he
     rcases hit_cases m2 with ⟨e1,e2⟩|⟨e0,e1,e2⟩
     · exact ⟨e,m1,.inl ⟨.inl rfl,by unfold Lk.sl;rw [e1,e2]⟩⟩
     · exact ⟨e,m1,.inr ⟨.inr e0,by unfold Lk.sl SL.turn;simp only;rw [e1,e2]⟩⟩
   · rw [if_pos rfl] at he
     obtain ⟨m1,m2⟩:=findL_mem he
     rcases hit_cases m2 with ⟨e1,e2⟩|⟨e0,e1,e2⟩
     · exact ⟨e,m1,.inr ⟨.inl rfl,by unfold Lk.sl SL.turn;simp only;rw [e1,e2]⟩⟩
     · exact ⟨e,m1,.inl ⟨.inr e0,by unfold Lk.sl;rw [e1,e2]⟩⟩
theorem nodup_of_map {α β:Type} {f:α→β} {l:List α} (h:(l.map f).Nodup):l.Nodup:=by
 rw [List.nodup_iff_pairwise_ne] at *
 exact (List.pairwise_map.1 h).imp fun hne e=>hne (by rw [e])
theorem swap_inj {l:List (ByteArray × ByteArray)} (h:l.Nodup):(l.map fun p=>(p.2,p.1)).Nodup:=by
 rw [List.nodup_iff_pairwise_ne] at *
 refine List.pairwise_map.2 (h.imp fun hne e=>hne ?_)
 have:=Prod.mk.inj e
 exact Prod.ext this.2 this.1
theorem both_nodup {w:World} {G:GS} (h:GRep w G) (turn:Bool):((G.st.both turn).map fun s=>(s.a,s.b)).Nodup:=by
 have hk:=h.linksK_keys
 have hd:G.st.dir=G.dir:=rfl
 cases hg:G.dir with
 | true =>
   rw [hg] at hk hd
   unfold linksK at hk
   rw [if_pos rfl,List.map_map] at hk
   cases turn
   · have e:(G.st.both false).map (fun s=>(s.a,s.b))=G.lks.map ((·.1) ∘ fun l=>((l.a,l.b),evL l)):=by
       unfold St.both
       rw [hd]
       simp only [GS.st,List.flatMap_map]
       simp [Lk.sl,Function.comp_def]
       induction G.lks with
       | nil=>rfl
       | cons m ls ih=>simp_all
     rw [e]
     exact hk
   · have e:(G.st.both true).map (fun s=>(s.a,s.b))=(G.lks.map ((·.1) ∘ fun l=>((l.a,l.b),evL l))).map fun p=>(p.2,p.1):=by
       unfold St.both
       rw [hd]
       simp only [GS.st,List.flatMap_map]
       simp [Lk.sl,SL.turn,Function.comp_def]
       induction G.lks with
       | nil=>rfl
       | cons m ls ih=>simp_all
     rw [e]
     exact swap_inj hk
 | false =>
   rw [hg] at hk hd
   rw [both_low _ hd]
   unfold linksK at hk
   rw [if_neg (by simp)] at hk
   have e:(G.st.both false).map (fun s=>(s.a,s.b))=(G.lks.flatMap fun l => [((l.a,l.b),evL l),((l.b,l.a),evR l)]).map (·.1):=by
     unfold St.both
     rw [hd]
     simp only [GS.st,List.flatMap_map]
     clear hk
     induction G.lks with
     | nil=>rfl
     | cons m ls ih=>simp_all [Lk.sl,SL.turn]
   rw [e]
   exact hk
theorem told_links {w0 w w':World} {G:GS} (hr:GRep w0 G) {turn:Bool} {B:Nat} {l:List (ByteArray × Nat)} {inn:Nat→Ents} (hA:AdjM w w' G turn B l inn) {D:List SL}
   (hK:(D.map fun s=>(s.a,s.b)).Perm ((allK l inn).map (·.1))) (hD:∀ d∈D,lkOf G turn d.a d.b=some d):D.Perm (G.st.both turn):=by
 refine (List.perm_ext_iff_of_nodup (nodup_of_map ((hK.nodup_iff).2 (allK_keys hA.side))) (nodup_of_map (both_nodup hr turn))).2 fun s => ?_
 rw [both_iff hr]
 constructor
 · exact hD s
 · intro hs
   have h1:(s.a,s.b)∈(allK l inn).map (·.1):=by
     unfold lkOf at hs
     obtain ⟨e,he,_⟩:=Option.map_eq_some_iff.1 hs
     have h2:=hA.at_ s.a s.b
     rw [he] at h2
     exact List.mem_map.2 ⟨_,(mem_allK hA.side s.a s.b _).2 h2,rfl⟩
   obtain ⟨d,hd,e⟩:=List.mem_map.1 ((hK.mem_iff).2 h1)
   have e':=Prod.mk.inj e
   have h3:=hD d hd
   rw [e'.1,e'.2,hs] at h3
   cases h3
   exact hd
theorem lt2_le_trans (a b c:ByteArray × ByteArray) (h:(!lt2 b a)=true) (g:(!lt2 c b)=true):(!lt2 c a)=true:=by
 simp only [Bool.not_eq_true'] at *
 exact (lt2_sto.swo id).ntrans c b a g h
theorem lt2_le_total (a b:ByteArray × ByteArray):((!lt2 b a) || (!lt2 a b))=true:=by
 cases h:lt2 b a with
 | false=>rfl
 | true =>
   cases g:lt2 a b with
   | false=>rfl
   | true =>
     have:=lt2_sto.trans _ _ _ h g
     rw [lt2_sto.irrefl] at this
     cases this
theorem inj_of_map {α β:Type} {f:α→β}:∀ {l:List α},(l.map f).Nodup→∀ {a b:α},a∈l→b∈l→f a=f b→a=b
 | [],_,_,_,ha,_,_=>by cases ha
 | x :: l,hn,a,b,ha,hb,e=>by
   simp only [List.map_cons,List.nodup_cons] at hn
   rcases List.mem_cons.1 ha with rfl|ha
   · rcases List.mem_cons.1 hb with rfl|hb
     · rfl
     · exact absurd (List.mem_map.2 ⟨b,hb,e.symm⟩) hn.1
   · rcases List.mem_cons.1 hb with eb|hb
     · exact absurd (show f x∈l.map f from List.mem_map.2 ⟨a,ha,e.trans (by rw [eb])⟩) hn.1
     · exact inj_of_map hn.2 ha hb e
theorem sorted_links {l m:List SL} (h:l.Perm m) (hs:l.Pairwise fun a b=>ltL b a=false) (hn:(l.map fun s=>(s.a,s.b)).Nodup):l=sortL m:=by
 have h2:(m.mergeSort fun x y => !ltL y x).Perm l:=(List.mergeSort_perm _ _).trans h.symm
 have s2:=List.pairwise_mergeSort (le:=fun x y => !ltL y x) (fun a b c=>lt2_le_trans _ _ _) (fun a b=>lt2_le_total _ _) m
 refine List.Perm.eq_of_pairwise ?_ (hs.imp fun {a b} q=>by simpa using q) s2 h2.symm
 intro a b ha hb h3 h4
 simp only [Bool.not_eq_true'] at h3 h4
 have e:=lt2_sto.tri _ _ h4 h3
 have hb':=(h2.mem_iff).1 hb
 exact inj_of_map hn ha hb' e
abbrev tKL (v8 v9:Value):Array Value:=#[.int .u8 0,.string ⟨#[]⟩,.string ⟨#[]⟩,.string ⟨#[]⟩,.int .i64 0,.int .i64 0,.int .i64 0,.slice none 0 0,v8,v9]
structure Lst (wa:World) (lo tb r:Nat) (wr:World) (ks:List ByteArray) (D:List LnkV) (v8 v9:Value):Prop where
 t:Cells wr tb (tKL v8 v9) 44
 k:wr.ownsRow lo 9 1 v8 ks.length (ks.map .string)
 l:wr.ownsRow lo 65 4 v9 D.length (encL encLnk D)
 p:∀ d∈D,PairsIn wr (fun q=>lo≤q∧v8.ownBlock≠some q∧v9.ownBlock≠some q∧q≠r) d.val d.1.es
 f:Fr (· = tb) wa wr
 lt:tb < wa.heap.size
 le:wa.heap.size≤lo
section
variable {wa wr w2 w3 w4:World} {lo tb r:Nat} {ks:List ByteArray} {D:List LnkV} {v8 v9:Value}
theorem Lst.n8 (h:Lst wa lo tb r wr ks D v8 v9):v8.ownBlock≠some tb:=fun q=>by have:=(h.k.lt _ q).1;have:=h.lt;have:=h.le;omega
theorem Lst.n9 (h:Lst wa lo tb r wr ks D v8 v9):v9.ownBlock≠some tb:=fun q=>by have:=(h.l.lt _ q).1;have:=h.lt;have:=h.le;omega
theorem Lst.n89 (h:Lst wa lo tb r wr ks D v8 v9):∀ q,v8.ownBlock=some q→v9.ownBlock≠some q:=own_type h.k h.l (by decide)
theorem Lst.fr {S:Nat→Prop} (h:Lst wa lo tb r wr ks D v8 v9) (f:Fr S wr w2) (h1:¬ S tb) (h8:∀ q,v8.ownBlock=some q→¬ S q) (h9:∀ q,v9.ownBlock=some q→¬ S q) (hp:∀ q,lo≤q→v8.ownBlock≠some q→v9.ownBlock≠some q→q≠r→¬ S q) (hS:∀ q,S q→wa.heap.size≤q):Lst wa lo tb r w2 ks D v8 v9 where
 t:=h.t.fr f h1
 k:=ownsRow_fr h.k f h8
 l:=ownsRow_fr h.l f h9
 p:=fun d hd=>(h.p d hd).fr f fun q hq _=>hp q hq.1 hq.2.1 hq.2.2.1 hq.2.2.2
 f:=h.f.trans f fun q hq=>.inr (hS q hq)
 lt:=h.lt
 le:=h.le
theorem Lst.fr0 (h:Lst wa lo tb r wr ks D v8 v9) (f:Fr0 wr w2):Lst wa lo tb r w2 ks D v8 v9 :=
 h.fr f (fun q=>q) (fun _ _ q=>q) (fun _ _ q=>q) (fun _ _ _ _ _ q=>q) (fun _ q=>q.elim)
theorem Lst.upd {b:Nat} {rem:Ents} (h:Lst wa lo tb r wr ks D v8 v9) (hi:IT wr r b rem) (u:Upd r wr w2) (hr:wa.heap.size≤r):Lst wa lo tb r w2 ks D v8 v9 :=
 h.fr (Fr.of_upd u) (fun q=>by have:=h.lt;omega) (fun q hq e=>ownsRow_ne_it h.k hi (by rw [hq,e])) (fun q hq e=>ownsRow_ne_it h.l hi (by rw [hq,e])) (fun q _ _ _ hq e=>hq e) (fun q e=>by rw [e];exact hr)
theorem Lst.to {r':Nat} (h:Lst wa lo tb r wr ks D v8 v9) (hr:∀ q,lo≤q→q < wr.heap.size→q≠r'):Lst wa lo tb r' wr ks D v8 v9 :=
 { h with p:=fun d hd=>(h.p d hd).imp fun q hq hl=>⟨hq.1,hq.2.1,hq.2.2.1,hr q hq.1 hl⟩ }
theorem Lst.key {key:ByteArray} {v8':Value} {n:Nat} (h:Lst wa lo tb r w3 ks D v8 v9) (ho:w4.ownsRow lo 9 1 v8' (ks.length+1) (ks.map .string ++ [.string key])) (fg:Fr (fun k=>v8.ownBlock=some k) w3 w4) (hat:v8'.ownBlock=v8.ownBlock∨v8'.ownBlock=some n) (hn:w3.heap.size≤n) :
   Lst wa lo tb r (w4.setCell ⟨tb,8,none⟩ v8') (ks ++ [key]) D v8' v9:=by
 have hsc:Fr (· = tb) w4 (w4.setCell ⟨tb,8,none⟩ v8'):=(Fr.refl (· = tb) w4).setCell (.inl rfl) _
 have htb:=h.lt
 have hle:=h.le
 have h9:∀ q,v9.ownBlock=some q→¬ v8.ownBlock=some q:=fun q h1 h2=>h.n89 q h2 h1
 have ne:∀ q,lo≤q→¬ q=tb:=fun q h1 h2=>by omega
 refine ⟨?_,?_,?_,fun d hd => ?_,?_,h.lt,h.le⟩
 · have:=cells_set (h.t.fr fg (fun q=>h.n8 q)) 8 v8'
   simpa using this
 · have e:(ks ++ [key]).map Value.string=ks.map .string ++ [.string key]:=by simp
   rw [e,List.length_append]
   exact ownsRow_fr ho hsc fun q hq=>ne q (ho.lt q hq).1
 · exact ownsRow_fr (ownsRow_fr h.l fg h9) hsc fun q hq=>ne q (h.l.lt q hq).1
 · have h1:=((h.p d hd).imp (p':=fun q=>(lo≤q∧v8.ownBlock≠some q∧v9.ownBlock≠some q∧q≠r)∧q < w3.heap.size) fun q hq hl=>⟨hq,hl⟩).fr fg fun q hq _=>hq.1.2.1
   refine (h1.fr hsc fun q hq _=>ne q hq.1.1).imp fun q hq _=>⟨hq.1.1,?_,hq.1.2.2⟩
   rcases hat with e|e
   · rw [e];exact hq.1.2.1
   · rw [e];intro z;cases z;have:=hq.2;omega
 · refine (h.f.trans fg fun k hk=>.inr ?_).trans hsc fun k hk=>.inl hk
   have:=(h.k.lt k hk).1
   omega
theorem Lst.link {d:LnkV} {v9':Value} {n lo2:Nat} (h:Lst wa lo tb r w3 ks D v8 v9) (ho:w4.ownsRow lo 65 4 v9' (D.length+1) (encL encLnk D ++ encLnk d)) (f2:Fr0 w3 w2) (hd2:PairsAt w2 lo2 d.val d.1.es) (hlo:w3.heap.size≤lo2) (hlr:r < lo2) (hl3:lo≤lo2) (fg:Fr (fun k=>v9.ownBlock=some k) w2 w4)
   (hat:v9'.ownBlock=v9.ownBlock∨v9'.ownBlock=some n) (hn:w2.heap.size≤n) :
   Lst wa lo tb r (w4.setCell ⟨tb,9,none⟩ v9') ks (D ++ [d]) v8 v9':=by
 have o8:∀ q,v8.ownBlock=some q→q < lo2:=fun q e=>by have:=(h.k.lt q e).2;omega
 have o9:∀ q,v9.ownBlock=some q→q < lo2:=fun q e=>by have:=(h.l.lt q e).2;omega
 have h:=h.fr0 f2
 have hsc:Fr (· = tb) w4 (w4.setCell ⟨tb,9,none⟩ v9'):=(Fr.refl (· = tb) w4).setCell (.inl rfl) _
 have htb:=h.lt
 have hle:=h.le
 have ne:∀ q,lo≤q→¬ q=tb:=fun q h1 h2=>by omega
 have hD:∀ c,(c∈D ++ [d])→PairsIn w2 (fun q=>(lo≤q∧v8.ownBlock≠some q∧v9.ownBlock≠some q∧q≠r)∧q < w2.heap.size) c.val c.1.es:=by
   intro c hc
   rcases List.mem_append.1 hc with hc|hc
   · exact (h.p c hc).imp fun q hq hl=>⟨hq,hl⟩
   · simp only [List.mem_singleton] at hc
     subst hc
     refine PairsIn.imp hd2 fun q hq hl=>⟨⟨by omega,fun e=>by have:=o8 q e;omega,fun e=>by have:=o9 q e;omega,by omega⟩,hl⟩
 refine ⟨?_,?_,?_,fun c hc => ?_,?_,h.lt,h.le⟩
 · have:=cells_set (h.t.fr fg (fun q=>h.n9 q)) 9 v9'
   simpa using this
 · exact ownsRow_fr (ownsRow_fr h.k fg h.n89) hsc fun q hq=>ne q (h.k.lt q hq).1
 · have e:encL encLnk (D ++ [d])=encL encLnk D ++ encLnk d:=by simp [encL]
   rw [e,List.length_append]
   exact ownsRow_fr ho hsc fun q hq=>ne q (ho.lt q hq).1
 · refine (((hD c hc).fr fg fun q hq _=>hq.1.2.2.1).fr hsc fun q hq _=>ne q hq.1.1).imp fun q hq _=>⟨hq.1.1,hq.1.2.1,?_,hq.1.2.2.2⟩
   rcases hat with e|e
   · rw [e];exact hq.1.2.2.1
   · rw [e];intro z;cases z;have:=hq.2;omega
 · refine (h.f.trans fg fun k hk=>.inr ?_).trans hsc fun k hk=>.inl hk
   have:=(h.l.lt k hk).1
   omega
end
end Go.Proofs.YtbafaadmlpamiaaGreatDoor
namespace Go.Hy
open Go Go.RowKit
open Go.MapKept (Stamped IsKey)
section
variable {P:Program} {w:World} {b:Nat} {es:Ents} {T K E:TypeId} {ops:Array Oper} {rest:List Oper} {o:Oper} {a:Act} {Q:Exit→Act→World→Prop}
theorem delI_run {r:Nat} {rem:Ents} (h:SM w b es) (hI:IT w r b rem) (hT:P.underlying T=some (.map K E)) (hK:P.underlying K=some .string) (k:ByteArray) (hk:∀ p∈rem,p.1≠k) (ty:TypeId) :
   ∃ arr' c',(Builtin.delete_ #[T,K] ty #[.map (some b),.string k]).run P w=.ok (.tuple #[]) (setM w b arr' c')∧SM (setM w b arr' c') b (delS es k)∧IT (setM w b arr' c') r b rem:=by
 have hnd:=h.nodup
 have hne:=hI.ne
 obtain ⟨arr,clock,h1,h2,h3⟩:=h
 obtain ⟨arr',clock',seen,i1,i2,i3,i4,i5⟩:=hI
 rw [h1] at i1
 cases i1
 obtain ⟨r0,r1,r2,r3,r4⟩:=find_spec (k:=k) arr.toList es 0 h3
 have hb:b < w.heap.size:=(Array.getElem?_eq_some_iff.1 h1).1
 have hrl:r < w.heap.size:=(Array.getElem?_eq_some_iff.1 i4).1
 have hck:∀ e,(Instr.checkKey e 10000 K (.string k)).run P w=.ok () w:=fun e=>MapKept.run_checkKey (k:=.string k) hK (by simp [IsKey]) e 9999
 cases r0 with
 | none =>
   have hno:∀ p∈es,p.1≠k:=lookS_none.1 (by rw [← r2];rfl)
   have hd:delS es k=es:=List.filter_eq_self.2 (fun p hp=>by simpa using hno p hp)
   refine ⟨arr,clock,?_,?_,?_⟩
   · simp [Builtin.delete_,run_underlying hT,MapKept.run_getObj_map h1,hck,MapKept.run_findKey hK r1,MapKept.run_setObj_map _ h1,Result.andThen,setM]
   · rw [hd]
     exact ⟨arr,clock,by simp [setM,hb],h2,h3⟩
   · exact ⟨arr,clock,seen,by simp [setM,hb],h2,i3,by simp [setM,Ne.symm hne,i4],i5⟩
 | some x =>
   obtain ⟨j,u⟩:=x
   obtain ⟨n,n1,n2,n3,n4⟩:=r3 j u rfl
   have hj:j=n:=by omega
   subst hj
   have hn:j < arr.size:=by simpa using n2
   have hl:j < es.length:=by have:=congrArg List.length h3;simp at this;omega
   have h4:(arr[j]).key=.string k:=by simpa [hn] using n3
   have hkey:(es[j]).1=k:=by
     have:=congrArg (fun l=>l[j]?) h3
     simp [hn,hl,entOf,entS] at this
     rw [this.1] at h4
     exact Value.string.inj h4
   refine ⟨arr.eraseIdxIfInBounds j,clock,?_,?_,?_⟩
   · simp [Builtin.delete_,run_underlying hT,MapKept.run_getObj_map h1,hck,MapKept.run_findKey hK r1,MapKept.run_setObj_map _ h1,Result.andThen,setM]
   · refine ⟨arr.eraseIdxIfInBounds j,clock,by simp [setM,hb],MapKept.stamped_erase h2 j,?_⟩
     rw [← erase_del es k j (es[j]).2 hnd (by rw [List.getElem?_eq_getElem hl,← hkey])]
     simp only [Array.eraseIdxIfInBounds,hn,dif_pos,Array.toList_eraseIdx]
     rw [map_erase,h3,← map_erase]
   · have hel:(arr.eraseIdxIfInBounds j).toList=arr.toList.eraseIdx j:=by simp only [Array.eraseIdxIfInBounds,hn,dif_pos,Array.toList_eraseIdx]
     have hin:seen.contains (arr[j]).born=true:=by
       cases hc:seen.contains (arr[j]).born with
       | true=>rfl
       | false =>
         have hm:entOf arr[j]∈(leftOf arr seen).toList.map entOf:=by
           refine List.mem_map.2 ⟨arr[j],?_,rfl⟩
           unfold leftOf
           rw [Array.toList_filter,List.mem_filter]
           exact ⟨by simp,by rw [hc];rfl⟩
         rw [i5] at hm
         obtain ⟨p,hp,e⟩:=List.mem_map.1 hm
         have e2:=(Prod.mk.inj e).1
         rw [h4] at e2
         exact absurd (Value.string.inj e2) (hk p hp)
     refine ⟨arr.eraseIdxIfInBounds j,clock,seen,by simp [setM,hb],MapKept.stamped_erase h2 j,fun x hx=>i3 x ?_,by simp [setM,Ne.symm hne,i4],?_⟩
     · rw [hel] at hx
       exact List.mem_of_mem_eraseIdx hx
     · rw [← i5]
       congr 1
       unfold leftOf
       rw [Array.toList_filter,Array.toList_filter,hel]
       have hs:arr.toList=arr.toList.take j ++ arr[j] :: arr.toList.drop (j+1):=by
         rw [show arr[j]=arr.toList[j]'(by simpa using hn) by simp]
         exact (List.take_append_drop j arr.toList).symm.trans (by rw [List.drop_eq_getElem_cons (by simpa using hn)])
       rw [List.eraseIdx_eq_take_drop_succ]
       conv=>rhs;rw [hs]
       rw [List.filter_append,List.filter_append,List.filter_cons_of_neg (by rw [hin];simp)]
theorem wl_delI (T K E:TypeId) (hT:P.underlying T=some (.map K E)) (hK:P.underlying K=some .string)
   (hg:o.guard=none) (m x:Operand) (hop:o.op=Op.call { callee:=Callee.builtin Builtin.delete,args:=#[m,x],argTypes:=#[T,K] }) {r:Nat} {rem:Ents} (h:SM w b es) (hI:IT w r b rem) (k:ByteArray) (hk:∀ p∈rem,p.1≠k)
   (hm:a.eval m=.map (some b)) (hx:a.eval x=.string k)
   (hY:∀ arr c,SM (setM w b arr c) b (delS es k)→IT (setM w b arr c) r b rem→wpList P ops Q rest (a.put o.dst (.tuple #[])) (setM w b arr c)) :
   wpList P ops Q (o :: rest) a w:=by
 refine wpList_plain hg fun K' hK' => ?_
 obtain ⟨arr,c,hrun,h1,h2⟩:=delI_run h hI hT hK k hk o.type
 unfold Oper.wp
 simp [execOp,hop,resolve,invoke,builtin,hm,hx,hrun,Result.andThen]
 exact hK' _ _ (hY arr c h1 h2)
end
end Go.Hy
namespace Go.Proofs.YtbafaadmlpamiaaGreatDoor
open Go Go.Hy Go.RowKit
theorem mp_split {rem:List (ByteArray × Nat)} {l1 l2:Ents} {key:ByteArray} {v0:Value} (h:mp rem=l1 ++ (key,v0) :: l2):∃ r1 n r2,rem=r1 ++ (key,n) :: r2∧v0=.map (some n)∧l1=mp r1∧l2=mp r2:=by
 unfold mp at h ⊢
 obtain ⟨r1,l',hr,q1,q2⟩:=List.append_eq_map_iff.1 h.symm
 obtain ⟨p,r2,hl',q3,q4⟩:=List.map_eq_cons_iff.1 q2
 obtain ⟨q5,q6⟩:=Prod.mk.inj q3
 exact ⟨r1,p.2,r2,by rw [hr,hl',← q5],q6.symm,q1.symm,q4.symm⟩
theorem mp_append (l m:List (ByteArray × Nat)):mp l ++ mp m=mp (l ++ m):=by unfold mp;simp
def kys (inn:Nat→Ents) (l:List (ByteArray × Nat)):List (ByteArray × ByteArray):=l.flatMap fun x=>(inn x.2).map fun y=>(x.1,y.1)
theorem kys_allK (l:List (ByteArray × Nat)) (inn:Nat→Ents):(allK l inn).map (·.1)=kys inn l:=by
 unfold allK kys
 rw [List.map_flatMap]
 simp [Function.comp_def]
theorem kys_perm {inn:Nat→Ents} {l m:List (ByteArray × Nat)} (h:l.Perm m):(kys inn l).Perm (kys inn m):=h.flatMap_right _
theorem kys_append (inn:Nat→Ents) (l m:List (ByteArray × Nat)):kys inn (l ++ m)=kys inn l ++ kys inn m:=by unfold kys;simp
theorem both_lenT (s:St) (t:Bool):(s.both t).length≤2 * s.ls.length:=by
 unfold St.both
 induction s.ls with
 | nil=>simp
 | cons m ls ih =>
   simp only [List.flatMap_cons,List.length_append,List.length_cons]
   have h1:∀ c:Bool,(if c then [m] else []).length≤1:=fun c=>by cases c <;> simp
   have h2:∀ c:Bool,(if c then [m.turn] else []).length≤1:=fun c=>by cases c <;> simp
   have:=h1 (!t || !s.dir)
   have:=h2 (t || !s.dir)
   omega
theorem AdjM.bound {w0 w w':World} {G:GS} (hr:GRep w0 G) {turn:Bool} {B:Nat} {l:List (ByteArray × Nat)} {inn:Nat→Ents} (h:AdjM w w' G turn B l inn) (hb:G.lks.length≤400000):(kys inn l).length≤800000:=by
 have h1:∀ p∈allK l inn, ∃ s,lkOf G turn p.1.1 p.1.2=some s∧(s.a,s.b)=p.1:=by
   rintro ⟨⟨x,y⟩,v⟩ hp
   have h2:=(mem_allK h.side x y v).1 hp
   rw [h.at_] at h2
   obtain ⟨e,he,_⟩:=Option.map_eq_some_iff.1 h2
   exact ⟨⟨x,y,e.wt,byK e.es⟩,by unfold lkOf;rw [he];rfl,rfl⟩
 have h2:=told_links hr h (D:=(allK l inn).map fun p=>(lkOf G turn p.1.1 p.1.2).getD default) (by
   rw [List.map_map]
   refine List.Perm.of_eq (List.map_congr_left fun p hp => ?_)
   obtain ⟨s,hs,e⟩:=h1 p hp
   simp only [Function.comp_apply,hs,Option.getD_some]
   exact e) (by
   intro d hd
   obtain ⟨p,hp,rfl⟩:=List.mem_map.1 hd
   obtain ⟨s,hs,e⟩:=h1 p hp
   rw [hs,Option.getD_some]
   have e2:=Prod.mk.inj e
   rw [show s.a=p.1.1 from e2.1,show s.b=p.1.2 from e2.2]
   exact hs)
 have h3:=both_lenT G.st turn
 have h4:=h2.length_eq
 have h5:G.st.ls.length=G.lks.length:=by unfold GS.st;simp
 rw [List.length_map] at h4
 rw [← kys_allK,List.length_map]
 omega
theorem AdjM.entry2 {w w':World} {G:GS} {turn:Bool} {B:Nat} {l:List (ByteArray × Nat)} {inn:Nat→Ents} (h:AdjM w w' G turn B l inn) {x y:ByteArray} {n:Nat} {v:Value} (hx:(x,n)∈l) (hy:(y,v)∈inn n) :
   ∃ e∈G.lks,(∃ p q,v=ev p q e.at_ e.wt)∧lkOf G turn x y=some ⟨x,y,e.wt,byK e.es⟩:=by
 obtain ⟨e,he,hv,hl⟩:=h.entry hx hy
 refine ⟨e,he,?_,hl⟩
 cases turn
 · exact ⟨_,_,hv⟩
 · exact ⟨_,_,hv⟩
theorem IT.past {w2 w4:World} {r b tb c lo size n:Nat} {e:TypeId} {v v':Value} {xs:List Value} {rem:Ents} (h:IT w2 r b rem) (ho:w2.ownsRow lo e size v n xs) (fg:Fr (fun k=>v.ownBlock=some k) w2 w4) (hb:b≠tb) (hr:r≠tb):IT (w4.setCell ⟨tb,c,none⟩ v') r b rem :=
 (h.fr fg (fun q=>ownsRow_ne_itb ho h q) (fun q=>ownsRow_ne_it ho h q)).fr ((Fr.refl (· = tb) w4).setCell (.inl rfl) _) hb hr
def OutL (wa:World) (G:GS) (turn:Bool) (B r lo tb:Nat) (l:List (ByteArray × Nat)) (inn:Nat→Ents) (k:Nat) (wr:World):Prop :=
 ∃ (done rem:List (ByteArray × Nat)) (D:List LnkV) (v8 v9:Value),rem.length=k∧(done ++ rem).Perm l∧IT wr r B (mp rem)∧Lst wa lo tb r wr (done.map (·.1)) D v8 v9∧(D.map keyL).Perm (kys inn done)∧∀ d∈D,lkOf G turn d.1.a d.1.b=some d.1
def InL (wa:World) (G:GS) (turn:Bool) (B r1 r2 lo tb n:Nat) (key:ByteArray) (ks:List ByteArray) (D:List LnkV) (v8:Value) (rem2:List (ByteArray × Nat)) (inn:Nat→Ents) (k:Nat) (wr:World):Prop :=
 ∃ (D':List LnkV) (rem':Ents) (v9:Value),rem'.length=k∧IT wr r2 n rem'∧IT wr r1 B (mp rem2)∧Lst wa lo tb r2 wr ks (D ++ D') v8 v9∧(D'.map keyL ++ rem'.map fun y=>(key,y.1)).Perm ((inn n).map fun y=>(key,y.1))∧(∀ y∈rem',y∈inn n)∧∀ d∈D',lkOf G turn d.1.a d.1.b=some d.1
def DelL (w1:World) (B r:Nat) (l:List (ByteArray × Nat)) (inn:Nat→Ents) (k:Nat) (wr:World):Prop :=
 ∃ (rem:List (ByteArray × Nat)) (es:Ents),rem.length=k∧IT wr r B (mp rem)∧SM wr B es∧(∀ x∈rem,x∈l∧SM wr x.2 (inn x.2))∧(rem.map (·.1)).Nodup∧(rem.map (·.2)).Nodup∧Fr (fun q=>q=B∨q∈l.map (·.2)) w1 wr
theorem DelL.step {w1 wr w3 w4 w5:World} {B r n:Nat} {l r1 r2 rem:List (ByteArray × Nat)} {inn:Nat→Ents} {k:Nat} {key:ByteArray} {es':Ents} (hk:rem.length=k) (hl:∀ x∈rem,x∈l∧SM wr x.2 (inn x.2)) (h1:(rem.map (·.1)).Nodup) (h2:(rem.map (·.2)).Nodup) (f:Fr (fun q=>q=B∨q∈l.map (·.2)) w1 wr)
   (e:rem=r1 ++ (key,n) :: r2) (hr:w1.heap.size≤r) (hlr:∀ x∈l,x.2≠r) (u:Upd r wr w3) (u4:Upd n w3 w4) (u5:Upd B w4 w5) (hs:SM w5 B es') (hi:IT w5 r B (mp (r1 ++ r2))) (hB:∀ x∈l,x.2≠B):(r1 ++ r2).length < k∧DelL w1 B r l inn (r1 ++ r2).length w5:=by
 have sub:(r1 ++ r2).Sublist rem:=by rw [e];exact (List.Sublist.refl r1).append (List.sublist_cons_self _ _)
 have hnl:=(hl (key,n) (by rw [e];simp)).1
 refine ⟨by rw [← hk,e];simp,r1 ++ r2,es',rfl,hi,hs,fun x hx => ?_,(sub.map _).nodup h1,(sub.map _).nodup h2,?_⟩
 · obtain ⟨q1,q2⟩:=hl x (sub.subset hx)
   refine ⟨q1,((q2.fr (Fr.of_upd u) (hlr x q1)).fr (Fr.of_upd u4) fun z => ?_).fr (Fr.of_upd u5) (hB x q1)⟩
   rw [e] at h2
   simp only [List.map_append,List.map_cons] at h2
   have h3:=(List.perm_middle.nodup_iff).1 h2
   simp only [List.nodup_cons] at h3
   exact h3.1 (by rw [← List.map_append];exact List.mem_map.2 ⟨x,hx,z⟩)
 · exact ((f.trans (Fr.of_upd u) fun q z=>.inr (by rw [z];exact hr)).trans (Fr.of_upd u4) fun q z=>.inl (.inr (by rw [z];exact List.mem_map.2 ⟨_,hnl,rfl⟩))).trans (Fr.of_upd u5) fun q z=>.inl (.inl z)
theorem encL_zip:∀ (D:List LnkV),encL encLk ((D.map (·.1)).zip (D.map LnkV.val))=encL encLnk D
 | []=>rfl
 | d :: D=>by
   have ih:=encL_zip D
   unfold encL at ih ⊢
   simp only [List.map_cons,List.zip_cons_cons,List.flatMap_cons,ih]
   rfl
theorem LinksIn.of_rows {w:World} {p:Nat→Prop} {v:Value} {D:List LnkV} (hR:Reads w v D.length (encL encLnk D)) (hb:∀ q,v.ownBlock=some q→p q∧q < w.heap.size) (hp:∀ d∈D,PairsIn w p d.val d.1.es):LinksIn w p v (D.map (·.1)):=by
 refine ⟨D.map LnkV.val,by simp,by rw [List.length_map,encL_zip];exact hR,hb,fun i l u h1 h2 => ?_⟩
 rw [List.getElem?_map] at h1 h2
 obtain ⟨d,hd,rfl⟩:=Option.map_eq_some_iff.1 h1
 rw [hd] at h2
 cases h2
 exact hp d (List.mem_of_getElem? hd)
theorem ltB_le_trans (a b c:ByteArray) (h:(!ltB b a)=true) (g:(!ltB c b)=true):(!ltB c a)=true:=by
 simp only [Bool.not_eq_true'] at *
 exact (ltB_sto.swo id).ntrans c b a g h
theorem ltB_le_total (a b:ByteArray):((!ltB b a) || (!ltB a b))=true:=by
 cases h:ltB b a with
 | false=>rfl
 | true =>
   cases g:ltB a b with
   | false=>rfl
   | true =>
     have:=ltB_trans h g
     rw [ltB_irrefl] at this
     cases this
theorem sortK_perm {l m:List ByteArray} (h:l.Perm m):sortK l=sortK m:=by
 refine perm_sort ltB_le_trans ltB_le_total (fun _ a _ b _ h1 h2=>ltB_tri h1 h2) ((List.mergeSort_perm _ _).trans h) ?_
 exact (List.pairwise_mergeSort (le:=fun x y => !ltB y x) ltB_le_trans ltB_le_total l).imp fun {a b} q=>by simpa using q
theorem sortK_len (l:List ByteArray):(sortK l).length=l.length:=by unfold sortK;rw [List.length_mergeSort]
theorem maps_told {w0 w w':World} {G:GS} (hr:GRep w0 G) {turn:Bool} {B:Nat} {l done:List (ByteArray × Nat)} {inn:Nat→Ents} (hA:AdjM w w' G turn B l inn) (hp:done.Perm l) {D D2:List LnkV} (hky:(D.map keyL).Perm (kys inn done)) (hlk:∀ d∈D,lkOf G turn d.1.a d.1.b=some d.1)
   (hp2:D2.Perm D) (hs2:D2.Pairwise fun a b=>lt2 (keyL b) (keyL a)=false):sortK (done.map (·.1))=sortK G.st.keys∧D2.map (·.1)=sortL (G.st.both turn):=by
 have hk:((D.map (·.1)).map fun s=>(s.a,s.b)).Perm ((allK l inn).map (·.1)):=by
   rw [List.map_map,kys_allK]
   exact hky.trans (kys_perm hp)
 have hb:=told_links hr hA hk (fun d hd=>by obtain ⟨x,hx,rfl⟩:=List.mem_map.1 hd;exact hlk x hx)
 refine ⟨sortK_perm ?_,sorted_links ((hp2.map _).trans hb) (List.pairwise_map.2 (hs2.imp fun h=>h)) ?_⟩
 · have e:G.st.keys=G.pts.map (·.h):=by unfold St.keys GS.st;rw [List.map_map];rfl
   rw [e]
   exact (hp.map _).trans hA.keys
 · exact (((hp2.map _).map _).nodup_iff).2 ((hk.nodup_iff).2 (allK_keys hA.side))
theorem Lst.told {wa wo wA wB wZ:World} {lo tb r:Nat} {ks:List ByteArray} {D D2:List LnkV} {v8 v9:Value} (L:Lst wa lo tb r wo ks D v8 v9) (f8:Fr (fun k=>v8.ownBlock=some k) wo wA) (f9:Fr (fun k=>v9.ownBlock=some k) wA wB)
   (R8:Reads wA v8 ks.length ((sortK ks).map .string)) (R9:Reads wB v9 D.length (encL encLnk D2)) (hp2:D2.Perm D) {S p:Nat→Prop} (f:Fr S wB wZ) (hS:∀ q,lo≤q→q < wB.heap.size→¬ S q) (hpp:∀ q,lo≤q→p q):KeysIn wZ p v8 (sortK ks)∧LinksIn wZ p v9 (D2.map (·.1)):=by
 have z8:=f8.size
 have z9:=f9.size
 have zf:=f.size
 have o8:∀ q,v8.ownBlock=some q→lo≤q∧q < wo.heap.size:=fun q e=>L.k.lt q e
 have o9:∀ q,v9.ownBlock=some q→lo≤q∧q < wo.heap.size:=fun q e=>L.l.lt q e
 refine ⟨⟨?_,fun q e=>⟨hpp q (o8 q e).1,by have:=(o8 q e).2;omega⟩⟩,?_⟩
 · rw [sortK_len]
   exact (R8.fr f9 fun q e _ z=>L.n89 q e z).fr f fun q e _=>hS q (o8 q e).1 (by have:=(o8 q e).2;omega)
 · refine LinksIn.of_rows ?_ (fun q e=>⟨hpp q (o9 q e).1,by have:=(o9 q e).2;omega⟩) fun d hd => ?_
   · rw [hp2.length_eq]
     exact R9.fr f fun q e _=>hS q (o9 q e).1 (by have:=(o9 q e).2;omega)
   · have h1:=L.p d ((hp2.mem_iff).1 hd)
     exact (((h1.fr f8 fun q hq _=>hq.2.1).fr f9 fun q hq _=>hq.2.2.1).fr f fun q hq hl=>hS q hq.1 hl).imp fun q hq _=>hpp q hq.1
open Classical in
noncomputable def keepE (out:List KV) (r:KV):List KV:=if (r.1.2,r.1.1)∈out.map (·.1) then out else out ++ [r]
theorem keepE_sub (out:List KV) (r:KV):(keepE out r).Sublist (out ++ [r]):=by
 unfold keepE
 split
 · exact List.sublist_append_left _ _
 · exact List.Sublist.refl _
theorem fold_sub:∀ (rs out:List KV),(rs.foldl keepE out).Sublist (out ++ rs)
 | [],out=>by simp
 | r :: rs,out=>by
   have h:=fold_sub rs (keepE out r)
   have h3:=(keepE_sub out r).append_right rs
   exact h.trans (by simpa using h3)
theorem fold_mono:∀ (rs out:List KV) (x:KV),x∈out→x∈rs.foldl keepE out
 | [],_,_,h=>h
 | r :: rs,out,x,h=>fold_mono rs (keepE out r) x (by unfold keepE;split;exact h;exact List.mem_append_left _ h)
theorem fold_has:∀ (rs out:List KV) (r:KV),r∈rs→r∈rs.foldl keepE out∨(r.1.2,r.1.1)∈(rs.foldl keepE out).map (·.1)
 | [],_,_,h=>by cases h
 | x :: rs,out,r,h=>by
   rcases List.mem_cons.1 h with rfl|h
   · rw [List.foldl_cons]
     by_cases hm:(r.1.2,r.1.1)∈out.map (·.1)
     · obtain ⟨y,hy,e⟩:=List.mem_map.1 hm
       exact .inr (List.mem_map.2 ⟨y,fold_mono rs _ y (by unfold keepE;rw [if_pos hm];exact hy),e⟩)
     · exact .inl (fold_mono rs _ r (by unfold keepE;rw [if_neg hm];simp))
   · exact fold_has rs (keepE out x) r h
def NoSwap (out:List KV):Prop:=∀ x∈out, ∀ y∈out,y.1≠(x.1.2,x.1.1)
theorem fold_noswap:∀ (rs out:List KV),(∀ r∈rs,r.1.1≠r.1.2)→NoSwap out→NoSwap (rs.foldl keepE out)
 | [],_,_,h=>h
 | r :: rs,out,hr,h=>by
   refine fold_noswap rs (keepE out r) (fun x hx=>hr x (List.mem_cons_of_mem _ hx)) ?_
   unfold keepE
   split
   · exact h
   · rename_i hm
     have hl:=hr r (by simp)
     intro x hx y hy e
     simp only [List.mem_append,List.mem_singleton] at hx hy
     rcases hx with hx|rfl <;> rcases hy with hy|rfl
     · exact h x hx y hy e
     · exact hm (List.mem_map.2 ⟨x,hx,by rw [e]⟩)
     · exact hm (List.mem_map.2 ⟨y,hy,e⟩)
     · exact hl (by rw [Prod.ext_iff] at e;exact e.1)
theorem low_turn (s:SL):SL.low false s.turn=SL.low false s:=by
 obtain ⟨a,b,wt,es⟩:=s
 unfold SL.low SL.turn
 simp only [Bool.not_false,Bool.true_and]
 by_cases h1:ltB b a=true
 · rw [h1,ltB_asymm h1]
   simp
 · by_cases h2:ltB a b=true
   · simp [h1,h2]
   · have e:=ltB_tri (by simpa using h1) (by simpa using h2)
     subst e
     simp
def lowL (dir:Bool) (l:Lk):ByteArray × ByteArray:=((SL.low dir (Lk.sl l)).a,(SL.low dir (Lk.sl l)).b)
theorem lowL_cases (dir:Bool) (l:Lk):lowL dir l=(l.a,l.b)∨(dir=false∧lowL dir l=(l.b,l.a)):=by
 unfold lowL SL.low
 split
 · rename_i h
   simp only [Bool.and_eq_true,Bool.not_eq_true'] at h
   exact .inr ⟨h.1,rfl⟩
 · exact .inl rfl
theorem low_keys {w:World} {G:GS} (h:GRep w G):(G.lks.map (lowL G.dir)).Nodup:=by
 rw [List.nodup_iff_pairwise_ne]
 refine List.pairwise_map.2 (h.lnd.imp fun {l m} hh e => ?_)
 have key:m.hit G.dir l.a l.b=true:=by
   unfold Lk.hit
   rcases lowL_cases G.dir l with e1|⟨d1,e1⟩ <;> rcases lowL_cases G.dir m with e2|⟨d2,e2⟩ <;> rw [e1,e2,Prod.mk.injEq] at e
   · simp [e.1,e.2]
   · simp [e.1,e.2,d2]
   · simp [e.1,e.2,d1]
   · simp [e.1,e.2]
 rw [key] at hh
 cases hh
theorem low_nodup {w:World} {G:GS} (h:GRep w G):((G.st.ls.map (SL.low G.dir)).map fun s=>(s.a,s.b)).Nodup:=by
 have:=low_keys h
 unfold GS.st
 rw [List.map_map,List.map_map]
 exact this
def edOf (G:GS) (r:KV):SL:=((lkOf G false r.1.1 r.1.2).getD ⟨r.1.1,r.1.2,0,[]⟩).low G.dir
theorem edOf_eq {G:GS} {r:KV} {e:Lk} (hf:findL G.dir G.lks r.1.1 r.1.2=some e):edOf G r=SL.low G.dir ⟨r.1.1,r.1.2,e.wt,byK e.es⟩:=by
 unfold edOf lkOf
 simp [hf]
theorem edOf_sl {G:GS} {r:KV} {e:Lk} (hf:findL G.dir G.lks r.1.1 r.1.2=some e):edOf G r=SL.low G.dir (Lk.sl e):=by
 rw [edOf_eq hf]
 rcases hit_cases (findL_mem hf).2 with ⟨e1,e2⟩|⟨hd,e1,e2⟩
 · rw [← e1,← e2];rfl
 · rw [hd,← e1,← e2]
   exact low_turn (Lk.sl e)
theorem links_find {w:World} {G:GS} (h:GRep w G) {r:KV} (hr:r∈linksK G.dir G.lks):∃ e∈G.lks,findL G.dir G.lks r.1.1 r.1.2=some e∧r.2=ev r.1.1 r.1.2 e.at_ e.wt:=by
 obtain ⟨⟨x,y⟩,v⟩:=r
 obtain ⟨e,he,hv⟩:=Option.map_eq_some_iff.1 ((h.mem_linksK x y v).1 hr)
 exact ⟨e,(findL_mem he).1,he,hv.symm⟩
theorem kept_perm {w:World} {G:GS} (h:GRep w G) (hd:G.dir=false) {rs:List KV} (hp:rs.Perm (linksK G.dir G.lks)):((rs.foldl keepE []).map (edOf G)).Perm (G.st.ls.map (SL.low G.dir)):=by
 have hsub:(rs.foldl keepE []).Sublist rs:=by simpa using fold_sub rs []
 have hmem:∀ r∈rs.foldl keepE [],r∈linksK G.dir G.lks:=fun r hr=>hp.subset (hsub.subset hr)
 have hkn:(rs.map (·.1)).Nodup:=(hp.map _).nodup_iff.2 h.linksK_keys
 have hloop:∀ r∈rs,r.1.1≠r.1.2:=fun r hr q=>by
   obtain ⟨e,he,hf,_⟩:=links_find h (hp.subset hr)
   have hne:=h.loop hd e he
   rcases hit_cases (findL_mem hf).2 with ⟨e1,e2⟩|⟨_,e1,e2⟩
   · exact hne (by rw [e1,e2,q])
   · exact hne (by rw [e1,e2,q])
 have hns:=fold_noswap rs [] hloop (fun x hx=>by cases hx)
 have hkk:((rs.foldl keepE []).map (·.1)).Nodup:=(hsub.map _).nodup hkn
 have hlow:=low_keys h
 refine (List.perm_ext_iff_of_nodup ?_ (nodup_of_map (low_nodup h))).2 fun s => ?_
 · rw [List.nodup_iff_pairwise_ne] at hkk ⊢
   refine List.pairwise_map.2 ((List.pairwise_map.1 hkk).imp_of_mem fun {r r'} hr hr' hne e => ?_)
   obtain ⟨l,hl,hf,_⟩:=links_find h (hmem r hr)
   obtain ⟨l',hl',hf',_⟩:=links_find h (hmem r' hr')
   rw [edOf_sl hf,edOf_sl hf'] at e
   have el:l=l':=inj_of_map hlow hl hl' (by unfold lowL;rw [e])
   subst el
   have c:=hit_cases (findL_mem hf).2
   have c':=hit_cases (findL_mem hf').2
   have key:r.1=r'.1∨r'.1=(r.1.2,r.1.1):=by
     obtain ⟨⟨x,y⟩,v⟩:=r
     obtain ⟨⟨x',y'⟩,v'⟩:=r'
     simp only at c c' ⊢
     rcases c with ⟨a1,a2⟩|⟨_,a1,a2⟩ <;> rcases c' with ⟨b1,b2⟩|⟨_,b1,b2⟩
     · exact .inl (by rw [← a1,← a2,← b1,← b2])
     · exact .inr (by rw [← a1,← a2,← b1,← b2])
     · exact .inr (by rw [← a1,← a2,← b1,← b2])
     · exact .inl (by rw [← a1,← a2,← b1,← b2])
   rcases key with k|k
   · exact hne k
   · exact hns r hr r' hr' k
 · constructor
   · intro hs
     obtain ⟨r,hr,rfl⟩:=List.mem_map.1 hs
     obtain ⟨l,hl,hf,_⟩:=links_find h (hmem r hr)
     rw [edOf_sl hf]
     exact List.mem_map.2 ⟨_,List.mem_map.2 ⟨l,hl,rfl⟩,rfl⟩
   · intro hs
     obtain ⟨_,hq,rfl⟩:=List.mem_map.1 hs
     obtain ⟨l,hl,rfl⟩:=List.mem_map.1 hq
     have hf:=findL_of_mem h.lnd hl
     have h0:((l.a,l.b),ev l.a l.b l.at_ l.wt)∈rs:=hp.symm.subset ((h.mem_linksK _ _ _).2 (by rw [hf];rfl))
     rcases fold_has rs [] _ h0 with g|g
     · exact List.mem_map.2 ⟨_,g,edOf_sl hf⟩
     · obtain ⟨r,hr,e⟩:=List.mem_map.1 g
       refine List.mem_map.2 ⟨r,hr,edOf_sl ?_⟩
       rw [e]
       rw [hd] at hf ⊢
       exact (findL_swap _ _ _).trans hf
theorem dir_perm {w:World} {G:GS} (h:GRep w G) (hd:G.dir=true) {rs:List KV} (hp:rs.Perm (linksK G.dir G.lks)):(rs.map (edOf G)).Perm (G.st.ls.map (SL.low G.dir)):=by
 refine (hp.map (edOf G)).trans (List.Perm.of_eq ?_)
 unfold GS.st linksK
 rw [if_pos hd,List.map_map,List.map_map]
 refine List.map_congr_left fun l hl => ?_
 exact edOf_sl (r:=((l.a,l.b),evL l)) (findL_of_mem h.lnd hl)
structure EdgM (w w':World) (G:GS) (v:Value) (rs:List KV):Prop where
 row:w'.ownsRow w.heap.size 144 5 v rs.length (eCells (rs.map (·.2)))
 perm:(rs.map (edOf G)).Perm (G.st.ls.map (SL.low G.dir))
 sub:∀ r∈rs,r∈linksK G.dir G.lks
 fr:Fr0 w w'
section
variable {α:Type} {lt:α→α→Bool}
structure InsO (lt:α→α→Bool) (l:List α) (i:Nat) (S:List α):Prop where
 perm:S.Perm (l.take i)
 ord:S.Pairwise fun a b=>lt b a=false
structure InsI (lt:α→α→Bool) (l:List α) (i:Nat) (x:α) (A B:List α):Prop where
 perm:(A ++ B).Perm (l.take i)
 ord:(A ++ B).Pairwise fun a b=>lt b a=false
 less:∀ b∈B,lt x b=true
theorem InsO.zero (l:List α):InsO lt l 0 []:=⟨List.Perm.refl _,List.Pairwise.nil⟩
theorem InsO.start {l:List α} {i:Nat} {S:List α} (h:InsO lt l i S) (x:α):InsI lt l i x S []:=⟨by rw [List.append_nil];exact h.perm,by rw [List.append_nil];exact h.ord,fun _ h=>by cases h⟩
theorem InsI.down {l:List α} {i:Nat} {x a:α} {A B:List α} (h:InsI lt l i x (A ++ [a]) B) (ha:lt x a=true):InsI lt l i x A (a :: B):=by
 have e:A ++ [a] ++ B=A ++ (a :: B):=by simp
 refine ⟨by rw [← e];exact h.perm,by rw [← e];exact h.ord,fun b hb => ?_⟩
 rcases List.mem_cons.1 hb with rfl|hb
 · exact ha
 · exact h.less b hb
theorem InsI.stop {l:List α} {i:Nat} {x:α} {A B:List α} (asym:∀ a b,lt a b=true→lt b a=false) (ntr:∀ a b c,lt b a=false→lt c b=false→lt c a=false) (h:InsI lt l i x A B) (hx:l[i]? = some x) (hl:∀ a,A.getLast? = some a→lt x a=false) :
   InsO lt l (i+1) (A ++ x :: B):=by
 have hi:=(List.getElem?_eq_some_iff.1 hx).1
 have htk:l.take (i+1)=l.take i ++ [x]:=by rw [List.take_succ_eq_append_getElem hi,(List.getElem?_eq_some_iff.1 hx).2]
 have h1:=List.pairwise_append.1 h.ord
 refine ⟨?_,?_⟩
 · rw [htk]
   refine (List.perm_middle).trans ?_
   exact ((h.perm.cons x).trans (List.perm_append_singleton x _).symm)
 · refine List.pairwise_append.2 ⟨h1.1,List.pairwise_cons.2 ⟨fun b hb=>asym _ _ (h.less b hb),h1.2.1⟩,fun a ha b hb => ?_⟩
   rcases List.mem_cons.1 hb with rfl|hb
   · obtain ⟨A',a',rfl⟩ : ∃ A' a',A=A' ++ [a']:=by
       rcases List.eq_nil_or_concat A with e|⟨A',a',e⟩
       · rw [e] at ha;cases ha
       · exact ⟨A',a',by rw [e,List.concat_eq_append]⟩
     have hla:=hl a' (by simp)
     rcases List.mem_append.1 ha with q|q
     · exact ntr a a' b ((List.pairwise_append.1 h1.1).2.2 a q a' (by simp)) hla
     · simp only [List.mem_singleton] at q
       rw [q]
       exact hla
   · exact h1.2.2 a ha b hb
end
theorem ltL_asym (a b:SL) (h:ltL a b=true):ltL b a=false:=by
 cases g:ltL b a with
 | false=>rfl
 | true =>
   have:=lt2_sto.trans _ _ _ h g
   rw [lt2_sto.irrefl] at this
   cases this
theorem ltL_ntr (a b c:SL) (h:ltL b a=false) (g:ltL c b=false):ltL c a=false:=(lt2_sto.swo id).ntrans _ _ _ g h
theorem ltB_ntr (a b c:ByteArray) (h:ltB b a=false) (g:ltB c b=false):ltB c a=false:=by
 have:=ltB_le_trans a b c (by rw [h];rfl) (by rw [g];rfl)
 simpa using this
end Go.Proofs.YtbafaadmlpamiaaGreatDoor
