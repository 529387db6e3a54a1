import Derived.Maps.RangeRun
import Derived.Maps.OwnSet
import Derived.WalkKit
import Derived.Maps.RangeWalk
import Derived.Deep.DeepMust
import Derived.StillTailTactics
import Derived.Below
import Derived.Deep.QuietTactic
import Derived.BigQuiet
import Derived.Lib.Hide
import Derived.Laws.AppendOwn
import Derived.OwnWalk
import Derived.Sort.Statements
namespace Go.Hy
open Go
open Go.MapKept (Stamped IsKey)
open Go.ChangeMaps (setBlock)
abbrev Ents:=List (ByteArray × Value)
def lookS (es:Ents) (k:ByteArray):Option Value:=(es.find? fun p=>decide (p.1=k)).map (·.2)
def putS:Ents→ByteArray→Value→Ents
 | [],k,v => [(k,v)]
 | p :: es,k,v=>if p.1=k then (k,v) :: es else p :: putS es k v
def delS (es:Ents) (k:ByteArray):Ents:=es.filter fun p=>decide (p.1≠k)
structure Upd (b:Nat) (w w':World):Prop where
 os:w'.os=w.os
 tape:w'.tape=w.tape
 output:w'.output=w.output
 size:w'.heap.size=w.heap.size
 block:∀ k,k≠b→w'.heap[k]? = w.heap[k]?
theorem Upd.setBlock (w:World) (b:Nat) (o:Obj):Upd b w (setBlock w b o) :=
 ⟨rfl,rfl,rfl,by simp [ChangeMaps.setBlock],fun k hk=>by simp [ChangeMaps.setBlock,Ne.symm hk]⟩
theorem Upd.refl (b:Nat) (w:World):Upd b w w:=⟨rfl,rfl,rfl,rfl,fun _ _=>rfl⟩
theorem Upd.trans {b:Nat} {w w1 w2:World} (h:Upd b w w1) (g:Upd b w1 w2):Upd b w w2 :=
 ⟨g.os.trans h.os,g.tape.trans h.tape,g.output.trans h.output,g.size.trans h.size,fun k hk=>(g.block k hk).trans (h.block k hk)⟩
theorem Upd.drew (b:Nat) (w:World):Upd b w w.drew:=⟨rfl,rfl,rfl,rfl,fun _ _=>rfl⟩
def setM (w:World) (b:Nat) (arr:Array MapEntry) (c:Nat):World:={ w with heap:=w.heap.setIfInBounds b (.map arr c) }
theorem Upd.setM (w:World) (b:Nat) (arr:Array MapEntry) (c:Nat):Upd b w (setM w b arr c):=Upd.setBlock w b _
@[go_sem,simp] theorem setM_size (w:World) (b:Nat) (arr:Array MapEntry) (c:Nat):(setM w b arr c).heap.size=w.heap.size:=(Upd.setM w b arr c).size
@[go_sem,simp] theorem setM_drew (w:World) (b:Nat) (arr:Array MapEntry) (c:Nat):setM w.drew b arr c=(setM w b arr c).drew:=rfl
@[go_sem] theorem setM_cell (w:World) (b:Nat) (arr:Array MapEntry) (c:Nat) (x o:Nat) (h:¬ x=b):(setM w b arr c).cell? ⟨x,o,none⟩=w.cell? ⟨x,o,none⟩ :=
 World.cell?_of_block (w:=w) ((Upd.setM w b arr c).block x h)
@[go_sem] theorem setM_frozen (w:World) (b:Nat) (arr:Array MapEntry) (c:Nat) (x o:Nat) (h:¬ x=b):(setM w b arr c).frozen? ⟨x,o,none⟩=w.frozen? ⟨x,o,none⟩ :=
 World.frozen?_of_block (w:=w) ((Upd.setM w b arr c).block x h)
def entOf (e:MapEntry):Value × Value:=(e.key,e.val)
def entS (p:ByteArray × Value):Value × Value:=(.string p.1,p.2)
def SM (w:World) (b:Nat) (es:Ents):Prop :=
 ∃ arr clock,w.heap[b]? = some (.map arr clock)∧Stamped arr clock∧arr.toList.map entOf=es.map entS
theorem SM.keep {w w':World} {b:Nat} {es:Ents} (h:SM w b es) (e:w'.heap[b]? = w.heap[b]?):SM w' b es:=by
 obtain ⟨arr,clock,h1,h2,h3⟩:=h
 exact ⟨arr,clock,e.trans h1,h2,h3⟩
theorem SM.lt {w:World} {b:Nat} {es:Ents} (h:SM w b es):b < w.heap.size:=by
 obtain ⟨arr,clock,h1,_⟩:=h
 exact (Array.getElem?_eq_some_iff.1 h1).1
theorem SM.alloc {w:World} {b:Nat} {es:Ents} (h:SM w b es) (o:Obj):SM (w.alloc o) b es :=
 h.keep (by show (w.heap.push o)[b]? = _;rw [Array.getElem?_push,if_neg (by have:=h.lt;omega)])
theorem keys_of {arr:Array MapEntry} {es:Ents} (h:arr.toList.map entOf=es.map entS):arr.toList.map (·.key)=es.map fun p=>Value.string p.1:=by
 have:=congrArg (List.map Prod.fst) h
 simpa [List.map_map,Function.comp_def,entOf,entS] using this
theorem isKey_of {arr:Array MapEntry} {es:Ents} (h:arr.toList.map entOf=es.map entS):∀ x∈arr.toList,IsKey .string x.key:=by
 intro x hx
 have:x.key∈arr.toList.map (·.key):=List.mem_map.2 ⟨x,hx,rfl⟩
 rw [keys_of h] at this
 obtain ⟨p,_,hp⟩:=List.mem_map.1 this
 rw [← hp]
 simp [IsKey]
theorem SM.nodup {w:World} {b:Nat} {es:Ents} (h:SM w b es):(es.map (·.1)).Nodup:=by
 obtain ⟨arr,clock,h1,⟨_,_,h2⟩,h3⟩:=h
 rw [keys_of h3] at h2
 have:(es.map fun p=>Value.string p.1)=(es.map (·.1)).map Value.string:=by simp [List.map_map,Function.comp_def]
 rw [this] at h2
 rw [List.nodup_iff_pairwise_ne] at *
 exact (List.pairwise_map.1 h2).imp fun hne e=>hne (by rw [e])
theorem find_spec {k:ByteArray}:∀ (l:List MapEntry) (es:Ents) (i:Nat),l.map entOf=es.map entS →
   ∃ r,Instr.findNow .string (.string k) l i=some r∧r.map (·.2)=lookS es k ∧
     (∀ j v,r=some (j,v)→∃ n,j=i+n∧n < l.length∧(l[n]?).map (·.key)=some (.string k)∧∀ u,putS es k u=es.set n (k,u)) ∧
     (r=none→∀ u,putS es k u=es ++ [(k,u)])
 | [],[],i,_=>⟨none,rfl,rfl,by simp,fun _ u=>rfl⟩
 | [],_ :: _,_,h=>by simp at h
 | _ :: _,[],_,h=>by simp at h
 | e :: l,p :: es,i,h=>by
   simp only [List.map_cons,List.cons.injEq] at h
   obtain ⟨h1,h2⟩:=h
   obtain ⟨hk,hv⟩:=Prod.mk.inj h1
   have hs:Instr.sameNow .string (.string k) e.key=some (k == p.1):=by rw [hk];rfl
   by_cases hp:p.1=k
   · have hb:(k == p.1)=true:=(MapKept.bytes_beq _ _).2 hp.symm
     refine ⟨some (i,e.val),by simp [Instr.findNow,hs,hb],?_,?_,by simp⟩
     · simp [lookS,hp,hv]
     · intro j v hj
       cases hj
       exact ⟨0,rfl,by simp,by simp [hk,hp],fun u=>by simp [putS,hp]⟩
   · have hb:(k == p.1)=false:=by
       cases hq:(k == p.1) with
       | false=>rfl
       | true=>exact absurd ((MapKept.bytes_beq _ _).1 hq).symm hp
     obtain ⟨r,r1,r2,r3,r4⟩:=find_spec (k:=k) l es (i+1) h2
     refine ⟨r,by simp [Instr.findNow,hs,hb,r1],?_,?_,?_⟩
     · rw [r2];simp [lookS,hp]
     · intro j v hj
       obtain ⟨n,n1,n2,n3,n4⟩:=r3 j v hj
       exact ⟨n+1,by omega,by simp;omega,by simpa using n3,fun u=>by simp [putS,hp,n4 u]⟩
     · intro hr u
       simp [putS,hp,r4 hr u]
section
variable {P:Program} {w:World} {b:Nat} {es:Ents} {T K E:TypeId} {z:Value}
theorem SM.look (h:SM w b es) (hT:P.underlying T=some (.map K E)) (hK:P.underlying K=some .string) (hz:(zeroValue E).run P w=.ok z w) (k:ByteArray) (c:Bool) :
   (Instr.lookup T (.map (some b)) (.string k) c).run P w=.ok (if c then .tuple #[(lookS es k).getD z,.bool (lookS es k).isSome] else (lookS es k).getD z) w:=by
 obtain ⟨arr,clock,h1,h2,h3⟩:=h
 obtain ⟨r,r1,r2,_,_⟩:=find_spec (k:=k) arr.toList es 0 h3
 have hck:∀ e,(Instr.checkKey e 10000 K (.string k)).run P w=.ok () w:=fun e=>MapKept.run_checkKey (k:=.string k) hK (by simp [IsKey]) e 9999
 rw [← r2]
 cases r with
 | none=>cases c <;> simp [Instr.lookup,run_underlying hT,MapKept.run_getObj_map h1,hck,MapKept.run_findKey hK r1,Result.andThen,hz]
 | some x=>obtain ⟨j,v⟩:=x;cases c <;> simp [Instr.lookup,run_underlying hT,MapKept.run_getObj_map h1,hck,MapKept.run_findKey hK r1,Result.andThen]
theorem look_nilmap (hT:P.underlying T=some (.map K E)) (hK:P.underlying K=some .string) (hz:(zeroValue E).run P w=.ok z w) (k:ByteArray) (c:Bool) :
   (Instr.lookup T (.map none) (.string k) c).run P w=.ok (if c then .tuple #[z,.bool false] else z) w:=by
 have hck:∀ e,(Instr.checkKey e 10000 K (.string k)).run P w=.ok () w:=fun e=>MapKept.run_checkKey (k:=.string k) hK (by simp [IsKey]) e 9999
 have hf:Instr.findNow .string (.string k) ([]:List MapEntry) 0=some none:=rfl
 cases c <;> simp [Instr.lookup,run_underlying hT,hck,MapKept.run_findKey hK hf,Result.andThen,hz]
theorem SM.put (h:SM w b es) (hT:P.underlying T=some (.map K E)) (hK:P.underlying K=some .string) (k:ByteArray) (v:Value) :
   ∃ arr' c',(Instr.mapUpdate T (.map (some b)) (.string k) v).run P w=.ok () (setM w b arr' c')∧SM (setM w b arr' c') b (putS es k v):=by
 obtain ⟨arr,clock,h1,h2,h3⟩:=h
 obtain ⟨r,r1,r2,r3,r4⟩:=find_spec (k:=k) arr.toList es 0 h3
 have hb:b < w.heap.size:=(Array.getElem?_eq_some_iff.1 h1).1
 have hck:∀ e,(Instr.checkKey e 10000 K (.string k)).run P w=.ok () w:=fun e=>MapKept.run_checkKey (k:=.string k) hK (by simp [IsKey]) e 9999
 cases hr:r with
 | none =>
   subst hr
   have hno:∀ x∈arr.toList,x.key≠.string k:=by
     rcases MapKept.findNow_spec (d:=.string) (k:=.string k) (by simp [IsKey]) arr.toList 0 (isKey_of h3) with ⟨_,g⟩|⟨j,e,g,_⟩
     · exact g
     · rw [r1] at g;cases g
   refine ⟨arr.push { key:=.string k,val:=v,born:=clock },clock+1,?_,?_⟩
   · simp [Instr.mapUpdate,run_underlying hT,MapKept.run_getObj_map h1,hck,MapKept.run_findKey hK r1,MapKept.run_setObj_map _ h1,Result.andThen,setM]
   · refine ⟨arr.push { key:=.string k,val:=v,born:=clock },clock+1,by simp [setM,hb],MapKept.stamped_push h2 hno,?_⟩
     rw [r4 rfl v]
     simp [h3,entOf,entS]
 | some x =>
   obtain ⟨j,u⟩:=x
   subst hr
   obtain ⟨n,n1,n2,n3,n4⟩:=r3 j u rfl
   have hj:j=n:=by omega
   subst hj
   have hn:j < arr.size:=by simpa using n2
   have hkey:(arr[j]).key=.string k:=by simpa [hn] using n3
   have hst:(Instr.keyThatStays (.string k) (.string k)).run P w=.ok (.string k) w:=MapKept.run_keyThatStays (d:=.string) (by simp [IsKey])
   have hkeys:∀ e',arr[j]? = some e'→({ e' with key:=.string k,val:=v }:MapEntry).key=e'.key:=fun e' he'=>by
     rw [Array.getElem?_eq_getElem hn] at he';cases he';exact hkey.symm
   refine ⟨arr.modify j fun e=>{ e with key:=.string k,val:=v },clock,?_,?_⟩
   · simp [Instr.mapUpdate,run_underlying hT,MapKept.run_getObj_map h1,hck,MapKept.run_findKey hK r1,Array.getElem?_eq_getElem hn,hkey,hst,MapKept.run_setObj_map _ h1,Result.andThen,setM]
   · refine ⟨arr.modify j fun e=>{ e with key:=.string k,val:=v },clock,by simp [setM,hb],MapKept.stamped_modify h2 j (fun e=>{ e with key:=.string k,val:=v }) (fun _ _=>rfl) (fun e' _ he'=>hkeys e' he'),?_⟩
     rw [n4 v]
     apply List.ext_getElem?
     intro i
     have hi:=congrArg (fun l=>l[i]?) h3
     simp only [List.getElem?_map,Array.getElem?_toList,Array.getElem?_modify,List.getElem?_set] at hi ⊢
     by_cases hij:j=i
     · subst hij
       have hl:j < es.length:=by have:=congrArg List.length h3;simp at this;omega
       rw [Array.getElem?_eq_getElem hn,if_pos rfl,if_pos rfl,if_pos hl]
       rfl
     · simp [hij,hi]
end
theorem lookS_mem {es:Ents} {k:ByteArray} {v:Value} (h:lookS es k=some v):(k,v)∈es:=by
 unfold lookS at h
 cases hf:es.find? fun p=>decide (p.1=k) with
 | none=>rw [hf] at h;cases h
 | some p =>
   rw [hf] at h
   have hp:=List.find?_some hf
   have hm:=List.mem_of_find?_eq_some hf
   simp only [decide_eq_true_eq] at hp
   simp only [Option.map_some,Option.some.injEq] at h
   obtain ⟨a,c⟩:=p
   subst hp;subst h
   exact hm
theorem lookS_of_mem:∀ {es:Ents} {k:ByteArray} {v:Value},(es.map (·.1)).Nodup→(k,v)∈es→lookS es k=some v
 | [],_,_,_,h=>by simp at h
 | p :: es,k,v,hn,h=>by
   simp only [List.map_cons,List.nodup_cons] at hn
   rcases List.mem_cons.1 h with rfl|h
   · simp [lookS]
   · have hne:p.1≠k:=fun e=>hn.1 (by rw [e];exact List.mem_map.2 ⟨_,h,rfl⟩)
     have:=lookS_of_mem hn.2 h
     simpa [lookS,hne] using this
theorem lookS_none {es:Ents} {k:ByteArray}:lookS es k=none↔∀ p∈es,p.1≠k:=by
 simp [lookS]
theorem lookS_put_same:∀ (es:Ents) (k:ByteArray) (v:Value),lookS (putS es k v) k=some v
 | [],k,v=>by simp [putS,lookS]
 | p :: es,k,v=>by
   by_cases h:p.1=k
   · simp [putS,lookS,h]
   · have:=lookS_put_same es k v
     simpa [putS,lookS,h] using this
theorem lookS_put_other:∀ (es:Ents) (k:ByteArray) (v:Value) (k':ByteArray),k'≠k→lookS (putS es k v) k'=lookS es k'
 | [],k,v,k',h=>by simp [putS,lookS,Ne.symm h]
 | p :: es,k,v,k',h=>by
   have ih:=lookS_put_other es k v k' h
   by_cases h1:p.1=k
   · have h2:¬ p.1=k':=fun e=>h (e.symm.trans h1)
     have h3:¬ k=k':=fun e=>h e.symm
     simp [putS,lookS,h1,h3]
   · by_cases h2:p.1=k'
     · subst h2;simp [putS,lookS,h1]
     · simpa [putS,lookS,h1,h2] using ih
theorem keys_put (es:Ents) (k:ByteArray) (v:Value) (x:ByteArray):x∈(putS es k v).map (·.1)↔x=k∨x∈es.map (·.1):=by
 induction es with
 | nil=>simp [putS]
 | cons p es ih =>
   by_cases h:p.1=k
   · subst h;simp [putS]
   · rw [putS,if_neg h,List.map_cons,List.mem_cons,ih,List.map_cons,List.mem_cons]
     constructor
     · rintro (h|h|h)
       · exact .inr (.inl h)
       · exact .inl h
       · exact .inr (.inr h)
     · rintro (h|h|h)
       · exact .inr (.inl h)
       · exact .inl h
       · exact .inr (.inr h)
theorem nodup_put:∀ (es:Ents) (k:ByteArray) (v:Value),(es.map (·.1)).Nodup→((putS es k v).map (·.1)).Nodup
 | [],k,v,_=>by simp [putS]
 | p :: es,k,v,h=>by
   simp only [List.map_cons,List.nodup_cons] at h
   by_cases h1:p.1=k
   · subst h1;simp [putS,h]
   · simp only [putS,if_neg h1,List.map_cons,List.nodup_cons]
     refine ⟨fun hx => ?_,nodup_put es k v h.2⟩
     rcases (keys_put es k v _).1 hx with e|e
     · exact h1 e
     · exact h.1 e
theorem put_new {es:Ents} {k:ByteArray} (h:lookS es k=none) (v:Value):putS es k v=es ++ [(k,v)]:=by
 induction es with
 | nil=>rfl
 | cons p es ih =>
   have hn:∀ q∈p :: es,q.1≠k:=lookS_none.1 h
   have:lookS es k=none:=lookS_none.2 fun q hq=>hn q (.tail _ hq)
   simp [putS,hn p (.head _),ih this]
section
variable {P:Program} {w:World} {b:Nat} {es:Ents} {T K E:TypeId} {z:Value}
theorem map_erase {α β:Type} (f:α→β):∀ (l:List α) (n:Nat),(l.eraseIdx n).map f=(l.map f).eraseIdx n
 | [],_=>rfl
 | _ :: _,0=>rfl
 | x :: l,n+1=>by simp [map_erase f l n]
theorem erase_del:∀ (es:Ents) (k:ByteArray) (n:Nat) (v:Value),(es.map (·.1)).Nodup→es[n]? = some (k,v)→es.eraseIdx n=delS es k
 | [],_,_,_,_,h=>by simp at h
 | p :: es,k,0,v,hn,h=>by
   simp only [List.getElem?_cons_zero,Option.some.injEq] at h
   subst h
   simp only [List.map_cons,List.nodup_cons] at hn
   have:∀ q∈es,q.1≠k:=fun q hq e=>hn.1 (by rw [← e];exact List.mem_map.2 ⟨_,hq,rfl⟩)
   simp only [List.eraseIdx_cons_zero,delS]
   rw [List.filter_cons_of_neg (by simp)]
   exact (List.filter_eq_self.2 (fun q hq=>by simpa using this q hq)).symm
 | p :: es,k,n+1,v,hn,h=>by
   simp only [List.getElem?_cons_succ] at h
   simp only [List.map_cons,List.nodup_cons] at hn
   have hne:p.1≠k:=fun e=>hn.1 (by rw [e];exact List.mem_map.2 ⟨_,List.mem_of_getElem? h,rfl⟩)
   have ih:=erase_del es k n v hn.2 h
   simp only [List.eraseIdx_cons_succ,delS] at ih ⊢
   rw [List.filter_cons_of_pos (by simpa using hne),ih]
theorem SM.del (h:SM w b es) (hT:P.underlying T=some (.map K E)) (hK:P.underlying K=some .string) (k:ByteArray) (ty:TypeId) :
   ∃ arr' c',(Builtin.delete_ #[T,K] ty #[.map (some b),.string k]).run P w=.ok (.tuple #[]) (setM w b arr' c')∧SM (setM w b arr' c') b (delS es k):=by
 have hnd:=h.nodup
 obtain ⟨arr,clock,h1,h2,h3⟩:=h
 obtain ⟨r,r1,r2,r3,r4⟩:=find_spec (k:=k) arr.toList es 0 h3
 have hb:b < w.heap.size:=(Array.getElem?_eq_some_iff.1 h1).1
 have hck:∀ e,(Instr.checkKey e 10000 K (.string k)).run P w=.ok () w:=fun e=>MapKept.run_checkKey (k:=.string k) hK (by simp [IsKey]) e 9999
 cases r with
 | none =>
   have hno:∀ p∈es,p.1≠k:=lookS_none.1 (by rw [← r2];rfl)
   have hd:delS es k=es:=List.filter_eq_self.2 (fun p hp=>by simpa using hno p hp)
   refine ⟨arr,clock,?_,?_⟩
   · simp [Builtin.delete_,run_underlying hT,MapKept.run_getObj_map h1,hck,MapKept.run_findKey hK r1,MapKept.run_setObj_map _ h1,Result.andThen,setM]
   · rw [hd]
     exact ⟨arr,clock,by simp [setM,hb],h2,h3⟩
 | some x =>
   obtain ⟨j,u⟩:=x
   obtain ⟨n,n1,n2,n3,n4⟩:=r3 j u rfl
   have hj:j=n:=by omega
   subst hj
   have hn:j < arr.size:=by simpa using n2
   have hl:j < es.length:=by have:=congrArg List.length h3;simp at this;omega
   have hkey:(es[j]).1=k:=by
     have:=congrArg (fun l=>l[j]?) h3
     simp [hn,hl,entOf,entS] at this
     have h4:(arr[j]).key=.string k:=by simpa [hn] using n3
     rw [this.1] at h4
     exact Value.string.inj h4
   refine ⟨arr.eraseIdxIfInBounds j,clock,?_,?_⟩
   · simp [Builtin.delete_,run_underlying hT,MapKept.run_getObj_map h1,hck,MapKept.run_findKey hK r1,MapKept.run_setObj_map _ h1,Result.andThen,setM]
   · refine ⟨arr.eraseIdxIfInBounds j,clock,by simp [setM,hb],MapKept.stamped_erase h2 j,?_⟩
     rw [← erase_del es k j (es[j]).2 hnd (by rw [List.getElem?_eq_getElem hl,← hkey])]
     simp only [Array.eraseIdxIfInBounds,hn,dif_pos,Array.toList_eraseIdx]
     rw [map_erase,h3,← map_erase]
theorem SM.len (h:SM w b es) (hT:P.underlying T=some (.map K E)) (ty:TypeId) :
   (Builtin.len_ #[T] ty #[.map (some b)]).run P w=.ok (.int .i64 es.length) w:=by
 obtain ⟨arr,clock,h1,h2,h3⟩:=h
 have hl:arr.size=es.length:=by have:=congrArg List.length h3;simpa using this
 simp [Builtin.len_,run_underlying hT,MapKept.run_getObj_map h1,Result.andThen,goInt,hl]
theorem SM.clear (h:SM w b es) (hT:P.underlying T=some (.map K E)) (ty:TypeId) :
   ∃ arr' c',(Builtin.clear_ #[T] ty #[.map (some b)]).run P w=.ok (.tuple #[]) (setM w b arr' c')∧SM (setM w b arr' c') b []:=by
 obtain ⟨arr,clock,h1,h2,h3⟩:=h
 have hb:b < w.heap.size:=(Array.getElem?_eq_some_iff.1 h1).1
 refine ⟨#[],clock,by simp [Builtin.clear_,run_underlying hT,MapKept.run_getObj_map h1,MapKept.run_setObj_map _ h1,Result.andThen,setM],?_⟩
 exact ⟨#[],clock,by simp [setM,hb],MapKept.stamped_empty _,rfl⟩
theorem SM.fresh (w:World):SM (w.alloc (.map #[] 0)) w.heap.size [] :=
 ⟨#[],0,heap_alloc_new w _,MapKept.stamped_empty 0,rfl⟩
def IT (w:World) (r b:Nat) (rem:Ents):Prop :=
 ∃ arr clock seen,w.heap[b]? = some (.map arr clock)∧Stamped arr clock∧(∀ x∈arr.toList,IsKey .string x.key)∧w.heap[r]? = some (.mapIter (some b) clock seen clock)∧(leftOf arr seen).toList.map entOf=rem.map entS
theorem IT.ne {w:World} {r b:Nat} {rem:Ents} (h:IT w r b rem):r≠b:=by
 obtain ⟨arr,clock,seen,h1,_,_,h2,_⟩:=h
 intro e
 subst e
 rw [h1] at h2
 cases h2
theorem IT.keep {w w':World} {r b:Nat} {rem:Ents} (h:IT w r b rem) (e1:w'.heap[b]? = w.heap[b]?) (e2:w'.heap[r]? = w.heap[r]?):IT w' r b rem:=by
 obtain ⟨arr,clock,seen,h1,h2,h3,h4,h5⟩:=h
 exact ⟨arr,clock,seen,e1.trans h1,h2,h3,e2.trans h4,h5⟩
theorem SM.iter (h:SM w b es) (hT:P.underlying T=some (.map K E)) :
   ∃ w',(Instr.range T (.map (some b))).run P w=.ok (.pointer (some ⟨w.heap.size,0,none⟩)) w'∧(∃ o,w'=w.alloc o)∧SM w' b es∧IT w' w.heap.size b es:=by
 have hs:=h
 obtain ⟨arr,clock,h1,h2,h3⟩:=h
 refine ⟨_,run_range_map w T K E b arr clock hT h1,⟨_,rfl⟩,hs.alloc _,arr,clock,#[],(show (w.heap.push _)[b]? = _ by rw [Array.getElem?_push,if_neg (by have:=hs.lt;omega)];exact h1),h2,isKey_of h3,heap_alloc_new w _,?_⟩
 have:leftOf arr #[]=arr:=by
   unfold leftOf
   rw [Array.filter_eq_self]
   simp
 rw [this,h3]
theorem IT.next (ty:TypeId) {r:Nat} {rem:Ents} (h:IT w r b rem) :
   (rem = []∧(Instr.next (.pointer (some ⟨r,0,none⟩)) false ty).run P w=.ok (.tuple #[.bool false]) w) ∨
   ∃ k v l1 l2 w',rem=l1 ++ (k,v) :: l2∧(Instr.next (.pointer (some ⟨r,0,none⟩)) false ty).run P w=.ok (.tuple #[.bool true,.string k,v]) w' ∧
     IT w' r b (l1 ++ l2)∧Upd r w w'∧(Instr.entry (.pointer (some ⟨r,0,none⟩))).run P w'=.ok (.tuple #[.string k,v]) w':=by
 have hne:=h.ne
 obtain ⟨arr,clock,seen,h1,h2,h3,h4,h5⟩:=h
 rcases run_next_at (P:=P) w ty r b clock clock seen arr clock h4 h1 h2.1 (Nat.le_refl _) with ⟨g1,g2⟩|⟨e,he,w1,hw,g⟩
 · left
   have:(leftOf arr seen).toList = []:=List.eq_nil_of_length_eq_zero (by simpa using g1)
   rw [this] at h5
   exact ⟨by cases rem with|nil=>rfl|cons _ _=>simp at h5,g2⟩
 · right
   obtain ⟨m1,m2⟩:=mem_left he
   obtain ⟨L1,L2,hL⟩:=List.append_of_mem he
   have hsplit:∃ l1 l2 k v,rem=l1 ++ (k,v) :: l2∧L1.map entOf=l1.map entS∧L2.map entOf=l2.map entS∧e.key=.string k∧e.val=v:=by
     rw [hL,List.map_append,List.map_cons] at h5
     obtain ⟨l1,l',hr,q1,q2⟩:=List.append_eq_map_iff.1 h5
     obtain ⟨p,l2,hl',q3,q4⟩:=List.map_eq_cons_iff.1 q2
     obtain ⟨k,v⟩:=p
     obtain ⟨q5,q6⟩:=Prod.mk.inj q3
     exact ⟨l1,l2,k,v,by rw [hr,hl'],q1.symm,q4.symm,q5.symm,q6.symm⟩
   obtain ⟨l1,l2,k,v,hr,q1,q2,q3,q4⟩:=hsplit
   have hb:b < w.heap.size:=(Array.getElem?_eq_some_iff.1 h1).1
   have hrl:r < w.heap.size:=(Array.getElem?_eq_some_iff.1 h4).1
   have hwh:w1.heap=w.heap:=by rcases hw with rfl|rfl <;> rfl
   have hb':(setBlock w1 r (.mapIter (some b) clock (seen.push e.born) clock)).heap[b]? = some (.map arr clock):=by
     simp [ChangeMaps.setBlock,hwh,hne,h1]
   have hr':(setBlock w1 r (.mapIter (some b) clock (seen.push e.born) clock)).heap[r]? = some (.mapIter (some b) clock (seen.push e.born) clock):=by
     simp [ChangeMaps.setBlock,hwh,hrl]
   refine ⟨k,v,l1,l2,_,hr,?_,⟨arr,clock,seen.push e.born,hb',h2,h3,hr',?_⟩,?_,?_⟩
   · rw [← q3,← q4];exact g
   · have hfil:(leftOf arr (seen.push e.born)).toList=(leftOf arr seen).toList.filter fun x => !(x.born == e.born):=by
       unfold leftOf
       simp only [Array.toList_filter,List.filter_filter]
       refine List.filter_congr fun x _ => ?_
       rw [contains_push]
       cases seen.contains x.born <;> cases (x.born == e.born) <;> rfl
     have hnd:((leftOf arr seen).toList.map (·.born)).Nodup:=by
       unfold leftOf
       simp only [Array.toList_filter]
       exact (List.filter_sublist.map _).nodup h2.2.1
     rw [hL,List.map_append,List.map_cons] at hnd
     obtain ⟨_,n2,n3⟩:=List.nodup_append.1 hnd
     simp only [List.nodup_cons] at n2
     have f1:L1.filter (fun x => !(x.born == e.born))=L1:=List.filter_eq_self.2 fun x hx=>by
       have:=n3 x.born (List.mem_map.2 ⟨x,hx,rfl⟩) e.born (.head _)
       simpa using this
     have f2:L2.filter (fun x => !(x.born == e.born))=L2:=List.filter_eq_self.2 fun x hx=>by
       have:x.born≠e.born:=fun q=>n2.1 (by rw [← q];exact List.mem_map.2 ⟨x,hx,rfl⟩)
       simpa using this
     rw [hfil,hL,List.filter_append,List.filter_cons_of_neg (by simp),f1,f2,List.map_append,List.map_append,q1,q2]
   · refine Upd.trans ?_ (Upd.setBlock w1 r _)
     rcases hw with rfl|rfl
     · exact Upd.refl _ _
     · exact Upd.drew _ _
   · have:=run_entry_at (P:=P) _ r b clock seen arr clock e hr' hb' m1 h2.2.1
     rw [q3,q4] at this
     exact this
end
end Go.Hy
namespace Go.Hy
open Go
section
variable {P:Program} {w:World} {ops:Array Oper} {rest:List Oper} {o:Oper} {a:Act} {Q:Exit→Act→World→Prop} {b:Nat} {es:Ents} {z:Value}
theorem wl_look2 (T K E:TypeId) (hT:P.underlying T=some (.map K E)) (hK:P.underlying K=some .string) (z:Value) (hz:∀ w,(zeroValue E).run P w=.ok z w)
   (hg:o.guard=none) (m x:Operand) (hop:o.op=Op.lookup T m x true) (h:SM w b es) (k:ByteArray)
   (hm:a.eval m=.map (some b)) (hx:a.eval x=.string k)
   (hY:∀ v,lookS es k=some v→wpList P ops Q rest (a.put o.dst (.tuple #[v,.bool true])) w)
   (hN:lookS es k=none→wpList P ops Q rest (a.put o.dst (.tuple #[z,.bool false])) w) :
   wpList P ops Q (o :: rest) a w:=by
 refine wpList_plain hg fun K' hK' => ?_
 have hrun:=h.look hT hK (hz w) k true
 unfold Oper.wp
 cases hl:lookS es k with
 | none=>simp [execOp,hop,hm,hx,hrun,hl,Result.andThen];exact hK' _ _ (hN hl)
 | some v=>simp [execOp,hop,hm,hx,hrun,hl,Result.andThen];exact hK' _ _ (hY v hl)
theorem wl_look1 (T K E:TypeId) (hT:P.underlying T=some (.map K E)) (hK:P.underlying K=some .string) (z:Value) (hz:∀ w,(zeroValue E).run P w=.ok z w)
   (hg:o.guard=none) (m x:Operand) (hop:o.op=Op.lookup T m x false) (h:SM w b es) (k:ByteArray)
   (hm:a.eval m=.map (some b)) (hx:a.eval x=.string k)
   (hY:wpList P ops Q rest (a.put o.dst ((lookS es k).getD z)) w) :
   wpList P ops Q (o :: rest) a w:=by
 refine wpList_plain hg fun K' hK' => ?_
 have hrun:=h.look hT hK (hz w) k false
 unfold Oper.wp
 simp [execOp,hop,hm,hx,hrun,Result.andThen]
 exact hK' _ _ hY
theorem wl_look2N (T K E:TypeId) (hT:P.underlying T=some (.map K E)) (hK:P.underlying K=some .string) (z:Value) (hz:∀ w,(zeroValue E).run P w=.ok z w)
   (hg:o.guard=none) (m x:Operand) (hop:o.op=Op.lookup T m x true) (h:SM w b es) (k:ByteArray) (hl:lookS es k=none)
   (hm:a.eval m=.map (some b)) (hx:a.eval x=.string k)
   (hN:wpList P ops Q rest (a.put o.dst (.tuple #[z,.bool false])) w) :
   wpList P ops Q (o :: rest) a w :=
 wl_look2 T K E hT hK z hz hg m x hop h k hm hx (fun v hv=>by rw [hl] at hv;cases hv) (fun _=>hN)
theorem wl_look2S (T K E:TypeId) (hT:P.underlying T=some (.map K E)) (hK:P.underlying K=some .string) (z:Value) (hz:∀ w,(zeroValue E).run P w=.ok z w)
   (hg:o.guard=none) (m x:Operand) (hop:o.op=Op.lookup T m x true) (h:SM w b es) (k:ByteArray) (v:Value) (hl:lookS es k=some v)
   (hm:a.eval m=.map (some b)) (hx:a.eval x=.string k)
   (hY:wpList P ops Q rest (a.put o.dst (.tuple #[v,.bool true])) w) :
   wpList P ops Q (o :: rest) a w :=
 wl_look2 T K E hT hK z hz hg m x hop h k hm hx (fun v' hv=>by rw [hl] at hv;cases hv;exact hY) (fun hn=>by rw [hl] at hn;cases hn)
theorem wl_look1S (T K E:TypeId) (hT:P.underlying T=some (.map K E)) (hK:P.underlying K=some .string) (z:Value) (hz:∀ w,(zeroValue E).run P w=.ok z w)
   (hg:o.guard=none) (m x:Operand) (hop:o.op=Op.lookup T m x false) (h:SM w b es) (k:ByteArray) (v:Value) (hl:lookS es k=some v)
   (hm:a.eval m=.map (some b)) (hx:a.eval x=.string k)
   (hY:wpList P ops Q rest (a.put o.dst v) w) :
   wpList P ops Q (o :: rest) a w :=
 wl_look1 T K E hT hK z hz hg m x hop h k hm hx (by rw [hl];exact hY)
theorem wl_put (T K E:TypeId) (hT:P.underlying T=some (.map K E)) (hK:P.underlying K=some .string)
   (hg:o.guard=none) (m x y:Operand) (hop:o.op=Op.mapUpdate T m x y) (h:SM w b es) (k:ByteArray) (v:Value)
   (hm:a.eval m=.map (some b)) (hx:a.eval x=.string k) (hy:a.eval y=v)
   (hY:∀ arr c,SM (setM w b arr c) b (putS es k v)→wpList P ops Q rest (a.put o.dst (.tuple #[])) (setM w b arr c)) :
   wpList P ops Q (o :: rest) a w:=by
 refine wpList_plain hg fun K' hK' => ?_
 obtain ⟨arr,c,hrun,h1⟩:=h.put hT hK k v
 unfold Oper.wp
 simp [execOp,hop,hm,hx,hy,hrun,Result.andThen]
 exact hK' _ _ (hY arr c h1)
theorem wl_del (T K E:TypeId) (hT:P.underlying T=some (.map K E)) (hK:P.underlying K=some .string)
   (hg:o.guard=none) (m x:Operand) (hop:o.op=Op.call { callee:=Callee.builtin Builtin.delete,args:=#[m,x],argTypes:=#[T,K] }) (h:SM w b es) (k:ByteArray)
   (hm:a.eval m=.map (some b)) (hx:a.eval x=.string k)
   (hY:∀ arr c,SM (setM w b arr c) b (delS es k)→wpList P ops Q rest (a.put o.dst (.tuple #[])) (setM w b arr c)) :
   wpList P ops Q (o :: rest) a w:=by
 refine wpList_plain hg fun K' hK' => ?_
 obtain ⟨arr,c,hrun,h1⟩:=h.del hT hK k o.type
 unfold Oper.wp
 simp [execOp,hop,resolve,invoke,builtin,hm,hx,hrun,Result.andThen]
 exact hK' _ _ (hY arr c h1)
theorem wl_len (T K E:TypeId) (hT:P.underlying T=some (.map K E))
   (hg:o.guard=none) (m:Operand) (hop:o.op=Op.call { callee:=Callee.builtin Builtin.len,args:=#[m],argTypes:=#[T] }) (h:SM w b es)
   (hm:a.eval m=.map (some b)) (hY:wpList P ops Q rest (a.put o.dst (.int .i64 es.length)) w) :
   wpList P ops Q (o :: rest) a w:=by
 refine wpList_plain hg fun K' hK' => ?_
 have hrun:=h.len hT o.type
 unfold Oper.wp
 simp [execOp,hop,resolve,invoke,builtin,hm,hrun,Result.andThen]
 exact hK' _ _ hY
theorem wl_clear (T K E:TypeId) (hT:P.underlying T=some (.map K E))
   (hg:o.guard=none) (m:Operand) (hop:o.op=Op.call { callee:=Callee.builtin Builtin.clear,args:=#[m],argTypes:=#[T] }) (h:SM w b es)
   (hm:a.eval m=.map (some b)) (hY:∀ arr c,SM (setM w b arr c) b []→wpList P ops Q rest (a.put o.dst (.tuple #[])) (setM w b arr c)) :
   wpList P ops Q (o :: rest) a w:=by
 refine wpList_plain hg fun K' hK' => ?_
 obtain ⟨arr,c,hrun,h1⟩:=h.clear hT o.type
 unfold Oper.wp
 simp [execOp,hop,resolve,invoke,builtin,hm,hrun,Result.andThen]
 exact hK' _ _ (hY arr c h1)
theorem wl_range (T K E:TypeId) (hT:P.underlying T=some (.map K E))
   (hg:o.guard=none) (m:Operand) (hop:o.op=Op.range T m) (h:SM w b es) (hm:a.eval m=.map (some b))
   (hY:∀ ob w',w'=w.alloc ob→SM w' b es→IT w' w.heap.size b es→wpList P ops Q rest (a.put o.dst (.pointer (some ⟨w.heap.size,0,none⟩))) w') :
   wpList P ops Q (o :: rest) a w:=by
 refine wpList_plain hg fun K' hK' => ?_
 obtain ⟨w',hrun,⟨ob,h0⟩,h1,h2⟩:=h.iter hT
 unfold Oper.wp
 simp [execOp,hop,hm,hrun,Result.andThen]
 exact hK' _ _ (hY ob w' h0 h1 h2)
theorem wl_next (hg:o.guard=none) (it:Operand) (hop:o.op=Op.next it false) (r:Nat) (rem:Ents) (h:IT w r b rem) (hit:a.eval it=.pointer (some ⟨r,0,none⟩))
   (hD:rem = []→wpList P ops Q rest (a.put o.dst (.tuple #[.bool false])) w)
   (hM:∀ k v l1 l2 w',rem=l1 ++ (k,v) :: l2→IT w' r b (l1 ++ l2)→Upd r w w' →
     (Instr.entry (.pointer (some ⟨r,0,none⟩))).run P w'=.ok (.tuple #[.string k,v]) w'→wpList P ops Q rest (a.put o.dst (.tuple #[.bool true,.string k,v])) w') :
   wpList P ops Q (o :: rest) a w:=by
 refine wpList_plain hg fun K' hK' => ?_
 unfold Oper.wp
 rcases h.next (P:=P) o.type with ⟨h0,hrun⟩|⟨k,v,l1,l2,w',h0,hrun,h1,h2,h3⟩
 · simp [execOp,hop,hit,hrun,Result.andThen]
   exact hK' _ _ (hD h0)
 · simp [execOp,hop,hit,hrun,Result.andThen]
   exact hK' _ _ (hM k v l1 l2 w' h0 h1 h2 h3)
theorem region_tail {id:Nat} {l:List Oper} (n:Nat) (hm:P.follows .mixedOrders=true) (hB:Region.lexTailB .any l.toArray n=true)
   (h:wpStill P l.toArray w.drew (fun a'=>wpList P l.toArray Q (l.drop n) a' w.drew) (l.take n) a):(Code.region id l.toArray true).wp P Q a w :=
 wp_region_still_tail n hm hB h
end
end Go.Hy
namespace Go.Hy
open Go Go.RowKit
structure Fr (S:Nat→Prop) (w w':World):Prop where
 os:w'.os=w.os
 tape:w'.tape=w.tape
 output:w'.output=w.output
 size:w.heap.size≤w'.heap.size
 block:∀ k,k < w.heap.size→¬ S k→w'.heap[k]? = w.heap[k]?
abbrev Fr0 (w w':World):Prop:=Fr (fun _=>False) w w'
section
variable {S S':Nat→Prop} {w w1 w2 w':World}
theorem Fr.refl (S:Nat→Prop) (w:World):Fr S w w:=⟨rfl,rfl,rfl,Nat.le_refl _,fun _ _ _=>rfl⟩
theorem Fr.trans (h:Fr S w w1) (g:Fr S' w1 w2) (hs:∀ k,S' k→S k∨w.heap.size≤k):Fr S w w2 :=
 ⟨g.os.trans h.os,g.tape.trans h.tape,g.output.trans h.output,Nat.le_trans h.size g.size,fun k hk hn =>
   (g.block k (Nat.lt_of_lt_of_le hk h.size) fun hk'=>by rcases hs k hk' with q|q;exact hn q;omega).trans (h.block k hk hn)⟩
theorem Fr.trans0 (h:Fr S w w1) (g:Fr0 w1 w2):Fr S w w2:=h.trans g fun _ q=>q.elim
theorem Fr.mono (h:Fr S w w') (hs:∀ k,S k→S' k):Fr S' w w':=⟨h.os,h.tape,h.output,h.size,fun k hk hn=>h.block k hk fun q=>hn (hs k q)⟩
theorem Fr.shrink (h:Fr S w w') (hs:∀ k,S k→S' k∨w.heap.size≤k):Fr S' w w' :=
 ⟨h.os,h.tape,h.output,h.size,fun k hk hn=>h.block k hk fun q=>by rcases hs k q with r|r;exact hn r;omega⟩
theorem Fr.alloc (h:Fr S w w1) (o:Obj):Fr S w (w1.alloc o) :=
 ⟨h.os,h.tape,h.output,Nat.le_trans h.size (by simp),fun k hk hn=>by
   rw [← h.block k hk hn]
   exact Below.heap_alloc _ _ _ (Nat.lt_of_lt_of_le hk h.size)⟩
theorem Fr.drew (h:Fr S w w1):Fr S w w1.drew:=⟨h.os,h.tape,h.output,h.size,h.block⟩
theorem Fr.drewN (h:Fr S w w1) (n:Nat):Fr S w (w1.drewN n):=⟨h.os,h.tape,h.output,h.size,h.block⟩
theorem Fr.setCell (h:Fr S w w1) {p:Addr} (hp:S p.block∨w.heap.size≤p.block) (v:Value):Fr S w (w1.setCell p v) :=
 ⟨h.os,h.tape,h.output,Nat.le_trans h.size (by simp [World.setCell]),fun k hk hn=>by
   rw [Below.heap_setCell _ _ _ _ (fun e=>by subst e;rcases hp with q|q;exact hn q;omega)]
   exact h.block k hk hn⟩
theorem Fr.upd (h:Fr S w w1) {b:Nat} (g:Upd b w1 w2) (hb:S b∨w.heap.size≤b):Fr S w w2 :=
 ⟨g.os.trans h.os,g.tape.trans h.tape,g.output.trans h.output,by rw [g.size];exact h.size,fun k hk hn=>by
   rw [g.block k (fun e=>by subst e;rcases hb with q|q;exact hn q;omega)]
   exact h.block k hk hn⟩
theorem Fr.setM (h:Fr S w w1) {b:Nat} (hb:S b∨w.heap.size≤b) (arr:Array MapEntry) (c:Nat):Fr S w (setM w1 b arr c):=h.upd (Upd.setM w1 b arr c) hb
theorem hid2 {p0 p1:Prop} (h0:p0) (h1:p1):RowKit.Hid (p0∧p1):=Lib.hid ⟨h0,h1⟩
theorem hid3 {p0 p1 p2:Prop} (h0:p0) (h1:p1) (h2:p2):RowKit.Hid (p0∧p1∧p2):=Lib.hid ⟨h0,h1,h2⟩
theorem hid4 {p0 p1 p2 p3:Prop} (h0:p0) (h1:p1) (h2:p2) (h3:p3):RowKit.Hid (p0∧p1∧p2∧p3):=Lib.hid ⟨h0,h1,h2,h3⟩
theorem hid5 {p0 p1 p2 p3 p4:Prop} (h0:p0) (h1:p1) (h2:p2) (h3:p3) (h4:p4):RowKit.Hid (p0∧p1∧p2∧p3∧p4):=Lib.hid ⟨h0,h1,h2,h3,h4⟩
theorem hid6 {p0 p1 p2 p3 p4 p5:Prop} (h0:p0) (h1:p1) (h2:p2) (h3:p3) (h4:p4) (h5:p5):RowKit.Hid (p0∧p1∧p2∧p3∧p4∧p5):=Lib.hid ⟨h0,h1,h2,h3,h4,h5⟩
theorem hid7 {p0 p1 p2 p3 p4 p5 p6:Prop} (h0:p0) (h1:p1) (h2:p2) (h3:p3) (h4:p4) (h5:p5) (h6:p6):RowKit.Hid (p0∧p1∧p2∧p3∧p4∧p5∧p6):=Lib.hid ⟨h0,h1,h2,h3,h4,h5,h6⟩
theorem hid8 {p0 p1 p2 p3 p4 p5 p6 p7:Prop} (h0:p0) (h1:p1) (h2:p2) (h3:p3) (h4:p4) (h5:p5) (h6:p6) (h7:p7):RowKit.Hid (p0∧p1∧p2∧p3∧p4∧p5∧p6∧p7):=Lib.hid ⟨h0,h1,h2,h3,h4,h5,h6,h7⟩
theorem hid9 {p0 p1 p2 p3 p4 p5 p6 p7 p8:Prop} (h0:p0) (h1:p1) (h2:p2) (h3:p3) (h4:p4) (h5:p5) (h6:p6) (h7:p7) (h8:p8):RowKit.Hid (p0∧p1∧p2∧p3∧p4∧p5∧p6∧p7∧p8):=Lib.hid ⟨h0,h1,h2,h3,h4,h5,h6,h7,h8⟩
theorem frR:Fr S w w:=Fr.refl S w
theorem frD (h:Fr S w w1):Fr S w w1.drew:=h.drew
theorem frN (h:Fr S w w1) {n:Nat}:Fr S w (w1.drewN n):=h.drewN n
theorem frA (h:Fr S w w1) {o:Obj}:Fr S w (w1.alloc o):=h.alloc o
theorem frM (h:Fr S w w1) {b:Nat} (hb:S b) {arr:Array MapEntry} {c:Nat}:Fr S w (setM w1 b arr c):=h.setM (.inl hb) arr c
theorem frC (h:Fr S w w1) {p:Addr} (hp:w.heap.size≤p.block) {v:Value}:Fr S w (w1.setCell p v):=h.setCell (.inr hp) v
theorem SM.setM {b x:Nat} {es:Ents} (h:SM w x es) (hn:x≠b) (arr:Array MapEntry) (c:Nat):SM (setM w b arr c) x es:=h.keep ((Upd.setM w b arr c).block x hn)
theorem SM.drew {x:Nat} {es:Ents} (h:SM w x es):SM w.drew x es:=h
theorem Fr.grown (h:Fr S w w1) {row:Option Nat} (g:w1.grownBy w2 row) (hr:∀ k,row=some k→S k∨w.heap.size≤k):Fr S w w2 :=
 ⟨g.os.trans h.os,g.tape.trans h.tape,g.output.trans h.output,Nat.le_trans h.size g.size,fun k hk hn=>by
   rw [g.block k (Nat.lt_of_lt_of_le hk h.size) (fun e=>by rcases hr k e.symm with q|q;exact hn q;omega)]
   exact h.block k hk hn⟩
theorem Fr.below (h:Fr0 w w'):Below w.heap.size w w':=⟨h.os,h.tape,h.output,h.size,fun k hk=>h.block k hk (fun q=>q)⟩
theorem Fr.of_below (h:Below w.heap.size w w'):Fr0 w w':=⟨h.os,h.tape,h.output,h.size,fun k hk _=>h.block k hk⟩
theorem Fr.cell (h:Fr S w w') {p:Addr} (hp:p.block < w.heap.size) (hn:¬ S p.block):w'.cell? p=w.cell? p:=World.cell?_of_block (w:=w) (h.block p.block hp hn)
theorem Fr.frozen (h:Fr S w w') {p:Addr} (hp:p.block < w.heap.size) (hn:¬ S p.block):w'.frozen? p=w.frozen? p:=World.frozen?_of_block (w:=w) (h.block p.block hp hn)
theorem lt_of_some {w:World} {b:Nat} {ob:Obj} (h:w.heap[b]? = some ob):b < w.heap.size:=(Array.getElem?_eq_some_iff.1 h).1
theorem Fr.obj (h:Fr S w w') {b:Nat} {ob:Obj} (hb:w.heap[b]? = some ob) (hn:¬ S b):w'.heap[b]? = some ob :=
 (h.block b (lt_of_some hb) hn).trans hb
theorem SM.fr {b:Nat} {es:Ents} (h:SM w b es) (f:Fr S w w') (hn:¬ S b):SM w' b es:=h.keep (f.block b h.lt hn)
theorem IT.upd {r b x:Nat} {rem:Ents} (h:IT w r b rem) (f:Upd x w w') (h1:b≠x) (h2:r≠x):IT w' r b rem:=h.keep (f.block b h1) (f.block r h2)
theorem IT.lt {r b:Nat} {rem:Ents} (h:IT w r b rem):r < w.heap.size∧b < w.heap.size:=by
 obtain ⟨arr,clock,seen,h1,_,_,h2,_⟩:=h
 exact ⟨lt_of_some h2,lt_of_some h1⟩
theorem IT.fr {r b:Nat} {rem:Ents} (h:IT w r b rem) (f:Fr S w w') (h1:¬ S b) (h2:¬ S r):IT w' r b rem :=
 h.keep (f.block b h.lt.2 h1) (f.block r h.lt.1 h2)
def Cells (w:World) (b:Nat) (cs:Array Value) (t:TypeId):Prop:=w.heap[b]? = some (.cells cs t (0,0))
theorem Cells.fr {b:Nat} {cs:Array Value} {t:TypeId} (h:Cells w b cs t) (f:Fr S w w') (hn:¬ S b):Cells w' b cs t:=f.obj h hn
theorem Cells.lt {b:Nat} {cs:Array Value} {t:TypeId} (h:Cells w b cs t):b < w.heap.size:=lt_of_some h
theorem Cells.cell {b:Nat} {cs:Array Value} {t:TypeId} (h:Cells w b cs t) (i:Nat) (v:Value) (hi:cs[i]? = some v):w.cell? ⟨b,i,none⟩=some v:=by
 unfold Cells at h
 simp [World.cell?,h,hi]
theorem Cells.free {b:Nat} {cs:Array Value} {t:TypeId} (h:Cells w b cs t) (i:Nat):w.frozen? ⟨b,i,none⟩=false:=by
 unfold Cells at h
 simp [World.frozen?,h]
theorem Cells.ten {b:Nat} {v0 v1 v2 v3 v4 v5 v6 v7 v8 v9:Value} {t:TypeId} (h:Cells w b #[v0,v1,v2,v3,v4,v5,v6,v7,v8,v9] t):w.cell? ⟨b,0,none⟩=some v0∧w.cell? ⟨b,1,none⟩=some v1∧w.cell? ⟨b,2,none⟩=some v2∧w.cell? ⟨b,3,none⟩=some v3∧w.cell? ⟨b,4,none⟩=some v4∧w.cell? ⟨b,5,none⟩=some v5∧w.cell? ⟨b,6,none⟩=some v6∧w.cell? ⟨b,7,none⟩=some v7∧w.cell? ⟨b,8,none⟩=some v8∧w.cell? ⟨b,9,none⟩=some v9 :=
 ⟨h.cell 0 _ rfl,h.cell 1 _ rfl,h.cell 2 _ rfl,h.cell 3 _ rfl,h.cell 4 _ rfl,h.cell 5 _ rfl,h.cell 6 _ rfl,h.cell 7 _ rfl,h.cell 8 _ rfl,h.cell 9 _ rfl⟩
theorem Cells.tenf {b:Nat} {cs:Array Value} {t:TypeId} (h:Cells w b cs t):w.frozen? ⟨b,0,none⟩=false∧w.frozen? ⟨b,1,none⟩=false∧w.frozen? ⟨b,2,none⟩=false∧w.frozen? ⟨b,3,none⟩=false∧w.frozen? ⟨b,4,none⟩=false∧w.frozen? ⟨b,5,none⟩=false∧w.frozen? ⟨b,6,none⟩=false∧w.frozen? ⟨b,7,none⟩=false∧w.frozen? ⟨b,8,none⟩=false∧w.frozen? ⟨b,9,none⟩=false :=
 ⟨h.free 0,h.free 1,h.free 2,h.free 3,h.free 4,h.free 5,h.free 6,h.free 7,h.free 8,h.free 9⟩
theorem Cells.alloc {b:Nat} {cs:Array Value} {t:TypeId} (h:Cells w b cs t) (o:Obj):Cells (w.alloc o) b cs t:=by
 unfold Cells at *
 rw [Below.heap_alloc _ _ _ (lt_of_some h)]
 exact h
theorem SM.ne_cells {b c:Nat} {es:Ents} {cs:Array Value} {t:TypeId} (h:SM w b es) (g:Cells w c cs t):b≠c:=by
 obtain ⟨arr,clock,h1,_⟩:=h
 unfold Cells at g
 intro e
 subst e
 rw [h1] at g
 cases g
theorem Upd.cell {b:Nat} (h:Upd b w w') {p:Addr} (hp:p.block≠b):w'.cell? p=w.cell? p:=World.cell?_of_block (w:=w) (h.block p.block hp)
theorem Upd.frozen {b:Nat} (h:Upd b w w') {p:Addr} (hp:p.block≠b):w'.frozen? p=w.frozen? p:=World.frozen?_of_block (w:=w) (h.block p.block hp)
theorem SM.upd {b c:Nat} {es:Ents} (h:SM w b es) (f:Upd c w w') (hn:b≠c):SM w' b es:=h.keep (f.block b hn)
theorem Cells.upd {b c:Nat} {cs:Array Value} {t:TypeId} (h:Cells w b cs t) (f:Upd c w w') (hn:b≠c):Cells w' b cs t:=by
 unfold Cells at *
 rw [f.block b hn]
 exact h
theorem Cells.new (w:World) (cs:Array Value) (t:TypeId):Cells (w.alloc (.cells cs t)) w.heap.size cs t:=heap_alloc_new w _
end
end Go.Hy
namespace Go.Hy
open Go Go.RowKit
section
variable {P:Program} {w w1 w':World} {ops:Array Oper} {rest:List Oper} {o:Oper} {a:Act} {Q:Exit→Act→World→Prop} {S:Nat→Prop}
variable {base:Nat} {e:TypeId} {size:Nat} {v:Value} {n:Nat} {xs:List Value}
theorem ownsRow_fr (h:w.ownsRow base e size v n xs) (f:Fr S w w') (hn:∀ k,v.ownBlock=some k→¬ S k):w'.ownsRow base e size v n xs:=by
 refine ⟨h.1,?_⟩
 rcases h.2 with q|⟨g,cap,cur,rfl,hb,hgg,rest⟩
 · exact .inl q
 · exact .inr ⟨g,cap,cur,rfl,hb,by rw [f.block g (lt_of_some hgg) (hn g rfl)];exact hgg,rest⟩
theorem ownsRow_weak {base':Nat} (h:w.ownsRow base e size v n xs) (hb:base'≤base):w.ownsRow base' e size v n xs:=by
 refine ⟨h.1,?_⟩
 rcases h.2 with q|⟨g,cap,cur,rfl,hbb,rest⟩
 · exact .inl q
 · exact .inr ⟨g,cap,cur,rfl,Nat.le_trans hb hbb,rest⟩
theorem ownsRow_ne_sm {b:Nat} {es:Ents} (h:w.ownsRow base e size v n xs) (g:SM w b es):v.ownBlock≠some b:=by
 intro hv
 rcases h.2 with ⟨rfl,_⟩|⟨k,cap,cur,rfl,_,hgg,_⟩
 · simp [Value.ownBlock] at hv
 · simp [Value.ownBlock] at hv
   subst hv
   obtain ⟨arr,clock,h1,_⟩:=g
   rw [h1] at hgg
   cases hgg
theorem ownsRow_ne_it {r b:Nat} {rem:Ents} (h:w.ownsRow base e size v n xs) (g:IT w r b rem):v.ownBlock≠some r:=by
 intro hv
 rcases h.2 with ⟨rfl,_⟩|⟨k,cap,cur,rfl,_,hgg,_⟩
 · simp [Value.ownBlock] at hv
 · simp [Value.ownBlock] at hv
   subst hv
   obtain ⟨arr,clock,seen,_,_,_,h1,_⟩:=g
   rw [h1] at hgg
   cases hgg
theorem ownsRow_ne_itb {r b:Nat} {rem:Ents} (h:w.ownsRow base e size v n xs) (g:IT w r b rem):v.ownBlock≠some b:=by
 intro hv
 rcases h.2 with ⟨rfl,_⟩|⟨k,cap,cur,rfl,_,hgg,_⟩
 · simp [Value.ownBlock] at hv
 · simp [Value.ownBlock] at hv
   subst hv
   obtain ⟨arr,clock,seen,h1,_⟩:=g
   rw [h1] at hgg
   cases hgg
theorem Fr.of_upd {b:Nat} (h:Upd b w w'):Fr (· = b) w w':=(Fr.refl (· = b) w).upd h (.inl rfl)
theorem Fr.of_grown {row:Option Nat} (h:w.grownBy w' row):Fr (fun k=>row=some k) w w':=(Fr.refl (fun k=>row=some k) w).grown h (fun _ hk=>.inl hk)
theorem wl_app1 (t:TypeId) (hgd:o.guard=none) (s x:Operand)
   (ho:o.op=.call { callee:=.builtin .append,args:=#[s,x],argTypes:=#[t,t] })
   (e:TypeId) (z:Value) (size bytes:Nat) (ht:P.underlying t=some (.slice e)) (hi:(P.info? e).map (fun i=>(i.zero,i.size,i.bytes))=some (some z,size,bytes))
   (hzs:z.cells.size=size) (hsz:0 < size) (hby:bytes≤1000)
   (base:Nat) (v:Value) (n:Nat) (xs:List Value) (hs:a.eval s=v) (hown:w.ownsRow base e size v n xs)
   (cs:Array Value) (nb:Nat) (hx:a.eval x=.slice (some ⟨nb,0,none⟩) 1 1) (hnb:w.heap.size=nb) (hl:cs.size=size) (h1:∀ u∈cs.toList,u.oneCell'=true)
   (hb:n≤1000000) (hbase:base≤w.heap.size)
   (h:∀ v' w',w'.ownsRow base e size v' (n+1) (xs ++ cs.toList)→Fr (fun k=>v.ownBlock=some k) w w'→v'≠.slice none 0 0→wpList P ops Q rest (a.put o.dst v') w'):wpList P ops Q (o :: rest) a (w.alloc (.cells cs e)):=by
 obtain ⟨i,hi1,hi2,hi3,hi4⟩:=info_parts hi
 subst hnb
 refine wpList_append_own (w.alloc (.cells cs e)) hgd s x t ho base e i z size bytes ht hi1 hi2 hi3 hi4 hzs hsz v n xs hs (hown.alloc _) ⟨w.heap.size,0,none⟩ 1 1 cs.toList hx (by simp [hl]) ?_ h1 (by unfold maxLen;omega) ?_ (by simp;omega) ?_
 · intro j u hj
   rw [Addr.add_lit,Nat.zero_add]
   have:(w.alloc (.cells cs e)).heap[w.heap.size]? = some (.cells cs e (0,0)):=heap_alloc_new w _
   simp only [World.cell?,this]
   simpa using hj
 · calc (n+1) * bytes≤1000001 * 1000:=Nat.mul_le_mul (by omega) hby
     _≤140737488355328:=by decide
 · intro v' w' g1 g2 g3
   refine h v' w' g1 (((Fr.refl _ w).alloc _).grown g2 fun k hk=>.inl hk) fun hv => ?_
   have:=(g3.1 hv).2
   omega
theorem wl_make0 (t:TypeId) (hg:o.guard=none) (l c:Operand) (hop:o.op=Op.makeSlice t l c)
   (e:TypeId) (z:Value) (size bytes:Nat) (h1:P.underlying t=some (.slice e)) (hi:(P.info? e).map (fun i=>(i.zero,i.size,i.bytes))=some (some z,size,bytes)) (hby:bytes≤1000)
   (kl kc:IntKind) (n:Nat) (hl:a.eval l=.int kl 0) (hc:a.eval c=.int kc n) (hn:n≤1000000)
   (hK:∀ w',w'.ownsRow w.heap.size e size (.slice (some ⟨w.heap.size,0,none⟩) 0 n) 0 []→Fr0 w w'→wpList P ops Q rest (a.put o.dst (.slice (some ⟨w.heap.size,0,none⟩) 0 n)) w') :
   wpList P ops Q (o :: rest) a w:=by
 obtain ⟨i,hi1,hi2,hi3,hi4⟩:=info_parts hi
 refine wpList_make_own w hg l c t hop w.heap.size e i z size h1 hi1 hi2 hi3 kl kc n n hl hc rfl ?_ (by unfold maxLen;omega) (Nat.le_refl _) fun w' g1 g2=>hK w' g1 ?_
 · rw [hi4]
   calc bytes * n≤1000 * 1000000:=Nat.mul_le_mul hby hn
     _≤281474976710656:=by decide
 · exact (Fr.refl _ w).grown g2 fun k hk=>by cases hk
end
end Go.Hy
namespace Go.Hy
open Go
theorem bl_eq:∀ (x y:List UInt8),Op.bytesLess x y=decide (x < y)
 | [],[]=>by simp [Op.bytesLess]
 | _ :: _,[]=>by simp [Op.bytesLess]
 | [],_ :: _=>by simp [Op.bytesLess]
 | a :: x,b :: y=>by
   rw [Op.bytesLess,bl_eq x y]
   simp only [List.cons_lt_cons_iff]
   by_cases h1:a < b <;> by_cases h2:a=b <;> by_cases h3:x < y <;> simp [h1,h2,h3]
def ltB (a b:ByteArray):Bool:=Op.bytesLess a.toList b.toList
theorem u8_lt (a b:UInt8):a < b↔a.toNat < b.toNat:=UInt8.lt_iff_toNat_lt
theorem u8_ext {a b:UInt8} (h:a.toNat=b.toNat):a=b:=UInt8.toNat_inj.1 h
theorem bl_cons (a b:UInt8) (x y:List UInt8):Op.bytesLess (a :: x) (b :: y)=true↔a.toNat < b.toNat∨(a.toNat=b.toNat∧Op.bytesLess x y=true):=by
 rw [bl_eq,bl_eq]
 simp only [decide_eq_true_eq,List.cons_lt_cons_iff,u8_lt]
 constructor
 · rintro (h|⟨h,g⟩)
   · exact .inl h
   · exact .inr ⟨by rw [h],g⟩
 · rintro (h|⟨h,g⟩)
   · exact .inl h
   · exact .inr ⟨u8_ext h,g⟩
theorem bl_irrefl:∀ x:List UInt8,Op.bytesLess x x=false
 | []=>by simp [Op.bytesLess]
 | a :: x=>by
   cases h:Op.bytesLess (a :: x) (a :: x) with
   | false=>rfl
   | true =>
     rcases (bl_cons a a x x).1 h with q|⟨_,q⟩
     · omega
     · rw [bl_irrefl x] at q;cases q
theorem bl_trans:∀ x y z:List UInt8,Op.bytesLess x y=true→Op.bytesLess y z=true→Op.bytesLess x z=true
 | _,[],[],_,h=>by simp [Op.bytesLess] at h
 | [],[],_ :: _,_,_=>by simp [Op.bytesLess]
 | _ :: _,[],_ :: _,h,_=>by simp [Op.bytesLess] at h
 | _,_ :: _,[],_,h=>by simp [Op.bytesLess] at h
 | [],_ :: _,_ :: _,_,_=>by simp [Op.bytesLess]
 | a :: x,b :: y,c :: z,h,g=>by
   rw [bl_cons] at h g ⊢
   rcases h with h|⟨h,h'⟩ <;> rcases g with g|⟨g,g'⟩
   · exact .inl (by omega)
   · exact .inl (by omega)
   · exact .inl (by omega)
   · exact .inr ⟨by omega,bl_trans x y z h' g'⟩
theorem bl_tri:∀ x y:List UInt8,Op.bytesLess x y=false→Op.bytesLess y x=false→x=y
 | [],[],_,_=>rfl
 | [],_ :: _,h,_=>by simp [Op.bytesLess] at h
 | _ :: _,[],_,h=>by simp [Op.bytesLess] at h
 | a :: x,b :: y,h,g=>by
   have h1:¬ (a.toNat < b.toNat∨(a.toNat=b.toNat∧Op.bytesLess x y=true)):=fun q=>by rw [(bl_cons a b x y).2 q] at h;cases h
   have g1:¬ (b.toNat < a.toNat∨(b.toNat=a.toNat∧Op.bytesLess y x=true)):=fun q=>by rw [(bl_cons b a y x).2 q] at g;cases g
   have e:a.toNat=b.toNat:=by omega
   have hx:Op.bytesLess x y=false:=by
     cases q:Op.bytesLess x y with
     | false=>rfl
     | true=>exact absurd (.inr ⟨e,q⟩) h1
   have gx:Op.bytesLess y x=false:=by
     cases q:Op.bytesLess y x with
     | false=>rfl
     | true=>exact absurd (.inr ⟨e.symm,q⟩) g1
   rw [u8_ext e,bl_tri x y hx gx]
theorem toList_inj {a b:ByteArray} (h:a.toList=b.toList):a=b:=by
 rw [ByteArray.toList_eq,ByteArray.toList_eq] at h
 cases a;cases b
 simp only [ByteArray.mk.injEq]
 exact Array.toList_inj.1 h
theorem ltB_irrefl (x:ByteArray):ltB x x=false:=bl_irrefl _
theorem ltB_trans {x y z:ByteArray} (h:ltB x y=true) (g:ltB y z=true):ltB x z=true:=bl_trans _ _ _ h g
theorem ltB_tri {x y:ByteArray} (h:ltB x y=false) (g:ltB y x=false):x=y:=toList_inj (bl_tri _ _ h g)
structure STO {α:Type} (lt:α→α→Bool):Prop where
 irrefl:∀ x,lt x x=false
 trans:∀ x y z,lt x y=true→lt y z=true→lt x z=true
 tri:∀ x y,lt x y=false→lt y x=false→x=y
theorem ltB_sto:STO ltB:=⟨ltB_irrefl,fun _ _ _=>ltB_trans,fun _ _=>ltB_tri⟩
def lt2 (x y:ByteArray × ByteArray):Bool:=if x.1=y.1 then ltB x.2 y.2 else ltB x.1 y.1
theorem lt2_sto:STO lt2 where
 irrefl:=fun x=>by simp [lt2,ltB_irrefl]
 trans:=fun x y z h g=>by
   unfold lt2 at *
   by_cases e1:x.1=y.1
   · rw [if_pos e1] at h
     by_cases e2:y.1=z.1
     · rw [if_pos e2] at g;rw [if_pos (e1.trans e2)];exact ltB_trans h g
     · rw [if_neg e2] at g;rw [if_neg (by rw [e1];exact e2),e1];exact g
   · rw [if_neg e1] at h
     by_cases e2:y.1=z.1
     · rw [if_neg (by rw [← e2];exact e1),← e2];exact h
     · rw [if_neg e2] at g
       have:=ltB_trans h g
       by_cases e3:x.1=z.1
       · rw [e3,ltB_irrefl] at this;cases this
       · rw [if_neg e3];exact this
 tri:=fun x y h g=>by
   unfold lt2 at *
   by_cases e:x.1=y.1
   · rw [if_pos e] at h
     rw [if_pos e.symm] at g
     exact Prod.ext e (ltB_tri h g)
   · rw [if_neg e] at h
     rw [if_neg (fun q=>e q.symm)] at g
     exact absurd (ltB_tri h g) e
theorem STO.swo {α β:Type} {lt:α→α→Bool} (h:STO lt) (f:β→α):Sort.SWO (fun x y=>lt (f x) (f y)) where
 irrefl:=fun x=>h.irrefl _
 trans:=fun x y z=>h.trans _ _ _
 ntrans:=fun x y z h1 h2=>by
   cases q:lt (f x) (f z) with
   | false=>rfl
   | true =>
     cases p:lt (f y) (f x) with
     | true=>rw [h.trans _ _ _ p q] at h2;cases h2
     | false =>
       have e:=h.tri _ _ h1 p
       rw [e,h2] at q
       cases q
end Go.Hy
