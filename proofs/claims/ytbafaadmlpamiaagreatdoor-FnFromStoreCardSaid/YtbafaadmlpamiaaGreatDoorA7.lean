import Derived.Test.YtbafaadmlpamiaaGreatDoorA5
import Derived.Test.YtbafaadmlpamiaaGreatDoorProg
import Derived.Ground.GgsProg
import Derived.Shelf.SlSortFuncK.WholeK
import Derived.Deep.QuietTactic
import Derived.BigQuiet
import Derived.Test.YtbafaadmlpamiaaGreatDoorA1
import Derived.Shelf.GgSortFunc.Tiny
import Derived.WalkKit
set_option maxRecDepth 100000
set_option maxHeartbeats 1000000
namespace Go.Proofs.YtbafaadmlpamiaaGreatDoor
open Go Go.Hy Go.RowKit
abbrev KV:=(ByteArray × ByteArray) × Value
def evL (l:Lk):Value:=ev l.a l.b l.at_ l.wt
def evR (l:Lk):Value:=ev l.b l.a l.at_ l.wt
def linksK (dir:Bool) (lks:List Lk):List KV:=if dir then lks.map fun l=>((l.a,l.b),evL l) else lks.flatMap fun l => [((l.a,l.b),evL l),((l.b,l.a),evR l)]
def linksV (dir:Bool) (lks:List Lk):List Value:=(linksK dir lks).map (·.2)
def allK (outs:List (ByteArray × Nat)) (inn:Nat→Ents):List KV:=outs.flatMap fun p=>(inn p.2).map fun q=>((p.1,q.1),q.2)
theorem allV_allK (outs:List (ByteArray × Nat)) (inn:Nat→Ents):allV outs inn=(allK outs inn).map (·.2):=by
 unfold allV allK mp
 induction outs with
 | nil=>rfl
 | cons p l ih =>
   simp only [List.map_cons,List.flatMap_cons,List.map_append,List.map_map] at ih ⊢
   rw [ih]
   rfl
theorem Side.keys {w:World} {B:Nat} {l:List (ByteArray × Nat)} {inn:Nat→Ents} (h:Side w B l inn):(l.map (·.1)).Nodup:=by
 have:=h.m.nodup
 unfold mp at this
 rw [List.map_map] at this
 exact this
theorem findK_of_mem {l:List (ByteArray × Nat)} (nd:(l.map (·.1)).Nodup) {k:ByteArray} {n:Nat} (h:(k,n)∈l):findK l k=some n:=by
 induction l with
 | nil=>cases h
 | cons p l ih =>
   simp only [List.map_cons,List.nodup_cons] at nd
   rcases List.mem_cons.1 h with e|e
   · subst e;simp [findK]
   · have hne:p.1≠k:=fun q=>nd.1 (by rw [q];exact List.mem_map.2 ⟨_,e,rfl⟩)
     have:=ih nd.2 e
     unfold findK at this ⊢
     simpa [hne] using this
theorem mem_allK {w:World} {B:Nat} {l:List (ByteArray × Nat)} {inn:Nat→Ents} (h:Side w B l inn) (x y:ByteArray) (v:Value):((x,y),v)∈allK l inn↔edgeAt l inn x y=some v:=by
 unfold allK edgeAt
 simp only [List.mem_flatMap,List.mem_map,Prod.mk.injEq]
 constructor
 · rintro ⟨p,hp,q,hq,⟨e1,e2⟩,e3⟩
   rw [findK_of_mem h.keys (show (x,p.2)∈l by rw [← e1];exact hp)]
   simp only [Option.bind_some]
   have:=lookS_of_mem (h.e p hp).nodup (show (y,v)∈inn p.2 by rw [← e2,← e3];exact hq)
   exact this
 · intro he
   cases hf:findK l x with
   | none=>rw [hf] at he;cases he
   | some n =>
     rw [hf] at he
     exact ⟨(x,n),findK_mem hf,(y,v),lookS_mem he,⟨rfl,rfl⟩,rfl⟩
theorem nodup_of_keys {α β:Type} {l:List (α × β)} (h:(l.map (·.1)).Nodup):l.Nodup:=by
 rw [List.nodup_iff_pairwise_ne] at *
 exact (List.pairwise_map.1 h).imp fun hne e=>hne (by rw [e])
theorem allK_keys {w:World} {B:Nat} {l:List (ByteArray × Nat)} {inn:Nat→Ents} (h:Side w B l inn):((allK l inn).map (·.1)).Nodup:=by
 have hk:=h.keys
 have he:=h.e
 clear h
 unfold allK
 induction l with
 | nil=>simp
 | cons p l ih =>
   simp only [List.map_cons,List.nodup_cons] at hk
   simp only [List.flatMap_cons,List.map_append,List.map_map]
   refine List.nodup_append.2 ⟨?_,ih hk.2 (fun x hx=>he x (.tail _ hx)),?_⟩
   · have:=(he p (.head _)).nodup
     rw [List.nodup_iff_pairwise_ne] at *
     refine List.pairwise_map.2 ((List.pairwise_map.1 this).imp fun hne e=>hne ?_)
     simp only [Function.comp_apply,Prod.mk.injEq] at e
     exact e.2
   · intro a ha b hb e
     subst e
     simp only [List.mem_map,List.mem_flatMap,Function.comp_apply] at ha hb
     obtain ⟨q,_,rfl⟩:=ha
     obtain ⟨_,⟨r,hr,s,_,rfl⟩,e⟩:=hb
     simp only [Prod.mk.injEq] at e
     exact hk.1 (List.mem_map.2 ⟨r,hr,e.1⟩)
theorem findL_of_mem {dir:Bool} {lks:List Lk} (h:lks.Pairwise fun l m=>m.hit dir l.a l.b=false) {l:Lk} (hl:l∈lks):findL dir lks l.a l.b=some l:=by
 induction lks with
 | nil=>cases hl
 | cons m lks ih =>
   obtain ⟨h1,h2⟩:=List.pairwise_cons.1 h
   rcases List.mem_cons.1 hl with e|e
   · subst e
     unfold findL
     simp [hit_self]
   · have:=ih h2 e
     unfold findL at this ⊢
     rw [List.find?_cons,hit_sym (h1 l e)]
     exact this
theorem GRep.mem_linksK {w:World} {G:GS} (h:GRep w G) (x y:ByteArray) (v:Value):((x,y),v)∈linksK G.dir G.lks↔(findL G.dir G.lks x y).map (fun l=>ev x y l.at_ l.wt)=some v:=by
 have hl:=h.lnd
 have back:∀ l,findL G.dir G.lks x y=some l→(l∈G.lks∧((l.a=x∧l.b=y)∨(G.dir=false∧l.a=y∧l.b=x))):=fun l q=>⟨(findL_mem q).1,hit_cases (findL_mem q).2⟩
 unfold linksK
 cases hd:G.dir with
 | true =>
   rw [hd] at hl back
   simp only [if_true,List.mem_map,Prod.mk.injEq]
   constructor
   · rintro ⟨l,hm,⟨rfl,rfl⟩,rfl⟩
     rw [findL_of_mem hl hm]
     rfl
   · intro hf
     cases hq:findL true G.lks x y with
     | none=>rw [hq] at hf;cases hf
     | some l =>
       rw [hq] at hf
       obtain ⟨hm,⟨e1,e2⟩|⟨e0,_⟩⟩:=back l hq
       · refine ⟨l,hm,⟨e1,e2⟩,?_⟩
         have:=Option.some.inj hf
         rw [← this,← e1,← e2]
         rfl
       · cases e0
 | false =>
   rw [hd] at hl back
   simp only [Bool.false_eq_true,if_false,List.mem_flatMap,List.mem_cons,List.not_mem_nil,or_false,Prod.mk.injEq]
   constructor
   · rintro ⟨l,hm,⟨⟨rfl,rfl⟩,rfl⟩|⟨⟨rfl,rfl⟩,rfl⟩⟩
     · rw [findL_of_mem hl hm];rfl
     · rw [findL_swap,findL_of_mem hl hm];rfl
   · intro hf
     cases hq:findL false G.lks x y with
     | none=>rw [hq] at hf;cases hf
     | some l =>
       rw [hq] at hf
       have e3:=Option.some.inj hf
       obtain ⟨hm,⟨e1,e2⟩|⟨_,e1,e2⟩⟩:=back l hq
       · exact ⟨l,hm,.inl ⟨⟨e1.symm,e2.symm⟩,by rw [← e3,← e1,← e2];rfl⟩⟩
       · exact ⟨l,hm,.inr ⟨⟨e2.symm,e1.symm⟩,by rw [← e3,← e1,← e2];rfl⟩⟩
theorem GRep.linksK_keys {w:World} {G:GS} (h:GRep w G):((linksK G.dir G.lks).map (·.1)).Nodup:=by
 have hl:=h.lnd
 have hp:=h.loop
 revert hl hp
 generalize G.lks=lks
 unfold linksK
 cases G.dir with
 | true =>
   intro hl _
   simp only [if_true,List.map_map]
   rw [List.nodup_iff_pairwise_ne]
   refine List.pairwise_map.2 (hl.imp fun {a b} hh e => ?_)
   simp only [Function.comp_apply,Prod.mk.injEq] at e
   rw [e.1,e.2,hit_self] at hh
   cases hh
 | false =>
   intro hl hp
   have hp':=hp rfl
   clear hp
   simp only [Bool.false_eq_true,if_false]
   induction lks with
   | nil=>simp
   | cons m lks ih =>
     obtain ⟨h1,h2⟩:=List.pairwise_cons.1 hl
     simp only [List.flatMap_cons,List.map_append,List.map_cons,List.map_nil]
     refine List.nodup_append.2 ⟨?_,ih h2 (fun l hl=>hp' l (.tail _ hl)),?_⟩
     · have:=hp' m (.head _)
       simp [this]
     · intro a ha b hb e
       subst e
       simp only [List.mem_map,List.mem_flatMap,List.mem_cons,List.not_mem_nil,or_false] at ha hb
       obtain ⟨q,⟨l,hl',hq⟩,rfl⟩:=hb
       have hh:=h1 l hl'
       have hh':l.hit false m.b m.a=false:=by rw [hit_false_swap];exact hh
       rcases ha with e1|e1 <;> rcases hq with rfl|rfl <;> simp only [Prod.mk.injEq] at e1
       · rw [← e1.1,← e1.2,hit_self] at hh;cases hh
       · rw [hit_false_swap] at hh;rw [← e1.1,← e1.2,hit_self] at hh;cases hh
       · rw [← e1.1,← e1.2,hit_self] at hh';cases hh'
       · rw [hit_false_swap] at hh';rw [← e1.1,← e1.2,hit_self] at hh';cases hh'
theorem GRep.allK_perm {w:World} {G:GS} (h:GRep w G):(allK G.c.outs G.c.inn).Perm (linksK G.dir G.lks):=by
 refine (List.perm_ext_iff_of_nodup (nodup_of_keys (allK_keys h.s.o)) (nodup_of_keys h.linksK_keys)).2 ?_
 rintro ⟨⟨x,y⟩,v⟩
 rw [mem_allK h.s.o,h.mem_linksK,h.out]
theorem GRep.allV_perm {w:World} {G:GS} (h:GRep w G):(allV G.c.outs G.c.inn).Perm (linksV G.dir G.lks):=by
 rw [allV_allK]
 exact h.allK_perm.map _
theorem GRep.isE {w:World} {G:GS} (h:GRep w G):∀ p∈G.c.outs, ∀ q∈G.c.inn p.2,IsE q.2:=by
 intro p hp q hq
 have hm:((p.1,q.1),q.2)∈allK G.c.outs G.c.inn:=by
   unfold allK
   exact List.mem_flatMap.2 ⟨p,hp,List.mem_map.2 ⟨q,hq,rfl⟩⟩
 have:=(mem_allK h.s.o _ _ _).1 hm
 rw [h.out] at this
 obtain ⟨l,_,e⟩:=Option.map_eq_some_iff.1 this
 exact ⟨_,_,_,_,e.symm⟩
theorem linksV_len (dir:Bool) (lks:List Lk):(linksV dir lks).length≤2 * lks.length:=by
 unfold linksV linksK
 rw [List.length_map]
 cases dir with
 | true=>simp;omega
 | false =>
   simp only [Bool.false_eq_true,if_false]
   induction lks with
   | nil=>simp
   | cons m lks ih=>simp only [List.flatMap_cons,List.length_append,List.length_cons,List.length_nil] at ih ⊢;omega
theorem sliste {w:World} {G:GS} (h:GRep w G) (hb:G.lks.length≤400000) :
   Calls Tryz.prog 220 #[.pointer (some ⟨G.sB,0,none⟩)] w fun e w'=>∃ v es,e=.returned (.tuple #[v,.nilIface])∧es.Perm (linksV G.dir G.lks)∧w'.ownsRow w.heap.size 144 5 v es.length (eCells es)∧Fr0 w w':=by
 have hp:=h.allV_perm
 refine (liste w G.sB G.c h.s h.isE (by rw [hp.length_eq];have:=linksV_len G.dir G.lks;omega)).mono ?_
 rintro e w' ⟨v,es,h1,h2,h3,h4⟩
 exact ⟨v,es,h1,h2.trans hp,h3,h4⟩
theorem slistv {w:World} {G:GS} (h:GRep w G) (hb:G.pts.length≤1000000) :
   Calls Tryz.prog 221 #[.pointer (some ⟨G.sB,0,none⟩)] w fun e w'=>∃ v ks,e=.returned (.tuple #[v,.nilIface])∧ks.Perm (G.pts.map (·.h))∧w'.ownsRow w.heap.size 9 1 v ks.length (strs ks)∧Fr0 w w':=by
 refine (listv w G.sB G.c h.s (by rw [h.vs];simpa using hb)).mono ?_
 rintro e w' ⟨v,ks,h1,h2,h3,h4⟩
 refine ⟨v,ks,h1,?_,h3,h4⟩
 rw [h.vs,List.map_map] at h2
 exact h2
def KVok (p:KV):Prop:=∃ a wt,p.2=ev p.1.1 p.1.2 a wt
theorem own_slice {w:World} {base:Nat} {e:TypeId} {size:Nat} {v:Value} {n:Nat} {xs:List Value} (h:w.ownsRow base e size v n xs) :
   ∃ ao cap,v=.slice ao n cap∧n≤cap∧∀ (j:Nat) u,xs[j]? = some u→∃ ob,ao=some ⟨ob,0,none⟩∧ob < w.heap.size∧w.cell? ⟨ob,j,none⟩=some u:=by
 rcases h.2 with ⟨rfl,h0⟩|⟨g,cap,cur,rfl,_,hg,hle,_,hsz,htk⟩
 · have hl:=h.1
   rw [h0,Nat.zero_mul] at hl
   have:xs = []:=List.eq_nil_of_length_eq_zero hl
   subst this
   subst h0
   exact ⟨none,0,rfl,Nat.le_refl _,fun j u hj=>by simp at hj⟩
 · refine ⟨some ⟨g,0,none⟩,cap,rfl,hle,fun j u hj=>⟨g,rfl,lt_of_some hg,?_⟩⟩
   have:=h.cells (g:=g) rfl j u hj
   simpa [Addr.add_lit] using this
theorem eCells_at:∀ {rs:List KV} (_:∀ p∈rs,KVok p) {i:Nat} {x y:ByteArray} {a:Nat} {wt:Int} (_:rs[i]? = some ((x,y),ev x y a wt)), 
   (eCells (rs.map (·.2)))[i * 5]? = some (.string x)∧(eCells (rs.map (·.2)))[i * 5+1]? = some (.string y)∧(eCells (rs.map (·.2)))[i * 5+2]? = some (.map (some a))∧(eCells (rs.map (·.2)))[i * 5+3]? = some (.int .i64 wt)∧(eCells (rs.map (·.2)))[i * 5+4]? = some .nilIface
 | [],_,i,x,y,a,wt,h=>by simp at h
 | p :: rs,hok,0,x,y,a,wt,h=>by
   simp only [List.getElem?_cons_zero,Option.some.injEq] at h
   subst h
   simp [eCells,ev_cells]
 | p :: rs,hok,i+1,x,y,a,wt,h=>by
   simp only [List.getElem?_cons_succ] at h
   have ih:=eCells_at (fun q hq=>hok q (.tail _ hq)) h
   obtain ⟨a0,wt0,e0⟩:=hok p (.head _)
   have hc:eCells ((p :: rs).map (·.2)) = [.string p.1.1,.string p.1.2,.map (some a0),.int .i64 wt0,.nilIface] ++ eCells (rs.map (·.2)):=by
     simp [eCells,e0,ev_cells]
   have e5:∀ d,(i+1) * 5+d=(i * 5+d)+5:=by intro d;omega
   rw [hc]
   refine ⟨?_,?_,?_,?_,?_⟩
   · rw [show (i+1) * 5=i * 5+5 by omega];exact ih.1
   · rw [e5];exact ih.2.1
   · rw [e5];exact ih.2.2.1
   · rw [e5];exact ih.2.2.2.1
   · rw [e5];exact ih.2.2.2.2
theorem run_makeMap_hint {P:Program} {t K E:TypeId} (hu:P.underlying t=some (.map K E)) (k:IntKind) (n:Int) (w:World):(Instr.makeMap t (some (.int k n))).run P w=.ok (.map (some w.heap.size)) (w.alloc (.map #[] 0)):=by
 simp [Instr.makeMap,run_underlying hu,asInt,asIntOf,Result.andThen]
theorem perm_map_inv {α β:Type} {f:α→β}:∀ {m:List β} {l:List α},m.Perm (l.map f)→∃ l':List α,l'.Perm l∧m=l'.map f
 | [],l,h=>by
   have:l = []:=by have:=h.length_eq;simpa using this.symm
   exact ⟨[],by rw [this],rfl⟩
 | b :: m,l,h=>by
   have hb:b∈l.map f:=h.subset (.head _)
   obtain ⟨a,ha,rfl⟩:=List.mem_map.1 hb
   obtain ⟨l1,l2,rfl⟩:=List.append_of_mem ha
   have h1:m.Perm ((l1 ++ l2).map f):=by
     refine (List.perm_cons (f a)).1 (h.trans ?_)
     rw [List.map_append,List.map_cons,List.map_append]
     exact List.perm_middle
   obtain ⟨l',h2,rfl⟩:=perm_map_inv h1
   exact ⟨a :: l',(h2.cons a).trans List.perm_middle.symm,rfl⟩
theorem not_mem_take {α:Type}:∀ {l:List α} {i:Nat} {a:α},l.Nodup→l[i]? = some a→a∉l.take i
 | [],_,_,_,_=>by simp
 | _ :: _,0,_,_,_=>by simp
 | b :: l,i+1,a,nd,h=>by
   simp only [List.nodup_cons] at nd
   simp only [List.getElem?_cons_succ] at h
   simp only [List.take_succ_cons,List.mem_cons,not_or]
   exact ⟨fun e=>nd.1 (e▸List.mem_of_getElem? h),not_mem_take nd.2 h⟩
def lookE (rs:List KV) (x y:ByteArray):Option Value:=(rs.find? fun p=>decide (p.1=(x,y))).map (·.2)
theorem lookE_iff {rs:List KV} (nd:(rs.map (·.1)).Nodup) (x y:ByteArray) (v:Value):lookE rs x y=some v↔((x,y),v)∈rs:=by
 unfold lookE
 induction rs with
 | nil=>simp
 | cons p rs ih =>
   simp only [List.map_cons,List.nodup_cons] at nd
   by_cases h:p.1=(x,y)
   · simp only [List.find?_cons,h,decide_true,Option.map_some,Option.some.injEq,List.mem_cons]
     constructor
     · intro e;left;obtain ⟨a,b⟩:=p;simp only at h e;rw [h,e]
     · rintro (e|e)
       · rw [← e]
       · exact absurd (List.mem_map.2 ⟨_,e,rfl⟩) (by rw [← h];exact nd.1)
   · simp only [List.find?_cons,h,decide_false,List.mem_cons]
     rw [ih nd.2]
     constructor
     · exact .inr
     · rintro (e|e)
       · rw [← e] at h;exact absurd rfl h
       · exact e
theorem lookE_snoc (rs:List KV) (p:KV) (x y:ByteArray) (h:p.1∉rs.map (·.1)):lookE (rs ++ [p]) x y=if x=p.1.1∧y=p.1.2 then some p.2 else lookE rs x y:=by
 unfold lookE
 rw [List.find?_append]
 by_cases e:x=p.1.1∧y=p.1.2
 · rw [if_pos e]
   have:(rs.find? fun q=>decide (q.1=(x,y)))=none:=by
     rw [List.find?_eq_none]
     intro q hq hh
     simp only [decide_eq_true_eq] at hh
     exact h (List.mem_map.2 ⟨q,hq,by rw [hh,e.1,e.2]⟩)
   rw [this]
   simp [e]
 · rw [if_neg e]
   have h2:([p].find? fun q=>decide (q.1=(x,y)))=none:=by
     simp only [List.find?_cons,List.find?_nil]
     have:¬ p.1=(x,y):=fun q=>e (by rw [q];exact ⟨rfl,rfl⟩)
     simp [this]
   rw [h2]
   simp
theorem linksK_ok (dir:Bool) (lks:List Lk):∀ p∈linksK dir lks,KVok p:=by
 intro p hp
 unfold linksK at hp
 cases dir with
 | true =>
   simp only [if_true] at hp
   obtain ⟨l,_,rfl⟩:=List.mem_map.1 hp
   exact ⟨_,_,rfl⟩
 | false =>
   simp only [Bool.false_eq_true,if_false,List.mem_flatMap,List.mem_cons,List.not_mem_nil,or_false] at hp
   obtain ⟨l,_,rfl|rfl⟩:=hp
   · exact ⟨_,_,rfl⟩
   · exact ⟨_,_,rfl⟩
structure AdjM (w w':World) (G:GS) (turn:Bool) (B:Nat) (l:List (ByteArray × Nat)) (inn:Nat→Ents):Prop where
 side:Side w' B l inn
 nd:(B :: l.map (·.2)).Nodup
 new:w.heap.size≤B∧∀ x∈l,w.heap.size≤x.2
 keys:(l.map (·.1)).Perm (G.pts.map (·.h))
 at_:∀ x y,edgeAt l inn x y=(if turn then findL G.dir G.lks y x else findL G.dir G.lks x y).map fun e=>if turn then ev y x e.at_ e.wt else ev x y e.at_ e.wt
 fr:Fr0 w w'
def VM (WB:World) (B:Nat) (ks:List ByteArray) (k:Nat) (c:Value) (wr:World):Prop :=
 ∃ i l,k+i=ks.length∧c=.int .i64 i∧Side wr B l (fun _ => [])∧l.map (·.1)=ks.take i∧(∀ x∈l,B < x.2)∧(l.map (·.2)).Nodup∧Fr0 WB wr
def EM (turn:Bool) (WB:World) (B:Nat) (l:List (ByteArray × Nat)) (rs:List KV) (k:Nat) (c:Value) (wr:World):Prop :=
 ∃ i inn,k+i=rs.length∧c=.int .i64 i∧Side wr B l inn∧(∀ x y,edgeAt l inn x y=if turn then lookE (rs.take i) y x else lookE (rs.take i) x y)∧Fr0 WB wr
theorem VM.step {WB wr w3:World} {B:Nat} {ks:List ByteArray} {k i n:Nat} {l:List (ByteArray × Nat)} {key:ByteArray} (hB:B=WB.heap.size) (hk:k+i=ks.length) (hi:i < ks.length) (nd:ks.Nodup) (hn:ks[i]? = some key) (hs:Side wr B l (fun _ => [])) (hl:l.map (·.1)=ks.take i) (hb:∀ x∈l,B < x.2) (hnd:(l.map (·.2)).Nodup) (f:Fr0 WB wr)
   (hnw:n=wr.heap.size) (arr:Array MapEntry) (c:Nat) (h3:w3=setM (wr.alloc (.map #[] 0)) B arr c) (hm:SM w3 B (putS (mp l) key (.map (some n)))):k - 1 < k∧VM WB B ks (k - 1) (.int .i64 ((i:Int)+1)) w3:=by
 have hkey:ks[i]=key:=(List.getElem?_eq_some_iff.1 hn).2
 have hnone:findK l key=none:=by
   rw [findK_none]
   intro p hp e
   have h1:p.1∈ks.take i:=by rw [← hl];exact List.mem_map.2 ⟨p,hp,rfl⟩
   rw [e] at h1
   exact not_mem_take nd hn h1
 have hlt:∀ x∈l,x.2 < wr.heap.size:=fun x hx=>(hs.e x hx).lt
 have hBl:B < wr.heap.size:=hs.m.lt
 refine ⟨by omega,i+1,l ++ [(key,n)],by omega,by simp,⟨by rw [← put_mp_new hnone];exact hm,fun x hx => ?_⟩,?_,?_,?_,?_⟩
 · subst h3
   rcases List.mem_append.1 hx with q|q
   · exact ((hs.e x q).alloc _).setM (by have:=hb x q;omega) _ _
   · simp only [List.mem_singleton] at q
     subst q
     subst hnw
     exact (SM.fresh wr).setM (by omega) _ _
 · rw [List.map_append,hl,List.take_succ_eq_append_getElem hi,hkey]
   rfl
 · intro x hx
   rcases List.mem_append.1 hx with q|q
   · exact hb x q
   · simp only [List.mem_singleton] at q
     subst q
     show B < n
     omega
 · rw [List.map_append]
   refine List.nodup_append.2 ⟨hnd,by simp,fun x hx y hy e => ?_⟩
   simp only [List.map_cons,List.map_nil,List.mem_singleton] at hy
   obtain ⟨z,hz,rfl⟩:=List.mem_map.1 hx
   have:=hlt z hz
   omega
 · rw [h3]
   exact ((f.alloc _).mono fun _ q=>q).setM (.inr (by omega)) _ _
theorem EM.step {turn:Bool} {WB wr w2 w3:World} {B:Nat} {l:List (ByteArray × Nat)} {rs:List KV} {k i n:Nat} {inn:Nat→Ents} {p:KV} {a b:ByteArray} (hab:(if turn then (b,a) else (a,b))=p.1) (hk:k+i=rs.length) (hi:i < rs.length) (nd:(rs.map (·.1)).Nodup) (hn:rs[i]? = some p) (hs:Side wr B l inn)
   (he:∀ x y,edgeAt l inn x y=if turn then lookE (rs.take i) y x else lookE (rs.take i) x y) (f:Fr0 WB wr) (hBn:WB.heap.size≤B) (hnd:(l.map (·.2)).Nodup) (hb:∀ x∈l,B < x.2) (hf:findK l a=some n) (f2:Fr0 wr w2)
   (arr:Array MapEntry) (c:Nat) (h3:w3=setM w2 n arr c) (hm:SM w3 n (putS (inn n) b p.2)):k - 1 < k∧EM turn WB B l rs (k - 1) (.int .i64 ((i:Int)+1)) w3:=by
 have hp:rs[i]=p:=(List.getElem?_eq_some_iff.1 hn).2
 have mn:=findK_mem hf
 have hkey:p.1∉(rs.take i).map (·.1):=by
   intro q
   rw [List.map_take] at q
   exact not_mem_take nd (by rw [List.getElem?_map,hn];rfl) q
 have hBlt:=hb _ mn
 simp only at hBlt
 refine ⟨by omega,i+1,upd inn n (putS (inn n) b p.2),by omega,by simp,⟨?_,fun x hx => ?_⟩,?_,?_⟩
 · rw [h3]
   exact (hs.m.fr f2 (fun q=>q)).setM (by omega) _ _
 · by_cases e:x.2=n
   · rw [e,upd_same];exact hm
   · rw [upd_other _ _ _ e,h3]
     exact ((hs.e x hx).fr f2 (fun q=>q)).setM e _ _
 · intro x y
   rw [half_old hf hnd,List.take_succ_eq_append_getElem hi,hp,he]
   cases turn with
   | true =>
     simp only [if_true] at hab ⊢
     rw [lookE_snoc _ _ _ _ hkey,← hab]
     simp only [and_comm]
   | false =>
     simp only [Bool.false_eq_true,if_false] at hab ⊢
     rw [lookE_snoc _ _ _ _ hkey,← hab]
 · rw [h3]
   exact (f.trans0 f2).setM (.inr (by omega)) _ _
theorem GRep.look_at {w:World} {G:GS} (h:GRep w G) {rs:List KV} (hp:rs.Perm (linksK G.dir G.lks)) (x y:ByteArray):lookE rs x y=(findL G.dir G.lks x y).map fun l=>ev x y l.at_ l.wt:=by
 have nd:(rs.map (·.1)).Nodup:=(hp.map _).nodup_iff.2 h.linksK_keys
 apply Option.ext
 intro v
 rw [lookE_iff nd,hp.mem_iff,h.mem_linksK]
theorem dadj (w:World) (G:GS) (h:GRep w G) (hbp:G.pts.length≤400000) (hbl:G.lks.length≤400000) :
   Calls Tryz.prog 177 #[.pointer (some ⟨G.gB,0,none⟩)] w fun e w'=>∃ B l inn,e=.returned (.tuple #[.map (some B),.nilIface])∧AdjM w w' G false B l inn:=by
 have A0:=Lib.hid (show ∀ w',Fr0 w w'→AW w G w' from fun w' f=>AW.mk' h f)
 obtain ⟨-,s0,s1,s2,s3,s4⟩:=A0.out w (Fr.refl _ _)
 have mV:=mListVertices
 have mE:=mListEdges
 have hmm:=@run_makeMap Tryz.prog
 have hmh:=@run_makeMap_hint Tryz.prog 152 9 154 Tryz.underlying152
 have HG:=Lib.hid h
 clear h
 go_enter Tryz.func177,Tryz.ntmps177
 go_wp2_with fail
 refine (slistv (A0.out _ (Fr.refl _ _)).rep (by omega)).mono ?_
 rintro e w1 ⟨v1,ks,rfl,hks,ho1,f1⟩
 obtain ⟨ao1,cap1,rfl,_,hv1⟩:=own_slice ho1
 have V:=hid2 hks hv1
 have VP:=Lib.hid hks
 clear hks ho1 hv1 s0 s1 s2 s3 s4
 obtain ⟨-,s0,s1,s2,s3,s4⟩:=A0.out _ f1
 go_wp2_with fail
 refine (sliste (A0.out _ f1).rep hbl).mono ?_
 rintro e w2 ⟨v2,es,rfl,hes,ho2,h2⟩
 obtain ⟨rs,hrs,rfl⟩:=perm_map_inv (show es.Perm ((linksK G.dir G.lks).map (·.2)) from hes)
 obtain ⟨ao2,cap2,rfl,_,hv2⟩:=own_slice ho2
 rw [List.length_map]
 have W:=hid3 hrs hv2 h2
 have F2:=Lib.hid (f1.trans0 h2)
 have KOK:=Lib.hid (show ∀ p∈rs,KVok p from fun p hp=>linksK_ok _ _ p (hrs.subset hp))
 have KND:=Lib.hid (show (rs.map (·.1)).Nodup from (hrs.map _).nodup_iff.2 (A0.out _ f1).rep.linksK_keys)
 have VND:=Lib.hid (show ks.Nodup from by
   refine V.out.1.nodup_iff.2 ?_
   have:=HG.out.s.v.nodup
   rw [HG.out.vs,List.map_map] at this
   exact this)
 have LK:=Lib.hid (show ks.length≤400000∧rs.length≤800000 from ⟨by rw [V.out.1.length_eq];simpa using hbp,by
   have h1:=hrs.length_eq
   have h2:=linksV_len G.dir G.lks
   unfold linksV at h2
   rw [List.length_map] at h2
   omega⟩)
 clear hes hrs ho2 hv2 h2 f1 s0 s1 s2 s3 s4
 go_wp2_with fail
 try go_frame
 go_loopg [41] ks.length (fun k c wr=>VM w2 w2.heap.size ks k c wr)
 case atStart=>exact ⟨0,[],rfl,rfl,⟨SM.fresh w2,fun _ h=>(by cases h)⟩,rfl,fun _ h=>(by cases h),List.nodup_nil,(Fr.refl _ _).alloc _⟩
 case round =>
   obtain ⟨i,l,hk,rfl,hs,hl,hb,hnd,f⟩:=hrel
   have A:=hid6 hk hs hl hb hnd f
   clear hk hs hl hb hnd f
   by_cases hi:i < ks.length
   · have hg:=List.getElem?_eq_getElem hi
     obtain ⟨ob,rfl,hob,hce⟩:=V.out.2 i (.string ks[i]) (by unfold strs;rw [List.getElem?_map,hg];rfl)
     have hcell:=(A.out.2.2.2.2.2.cell (p:=⟨ob,i,none⟩) (Nat.lt_of_lt_of_le hob W.out.2.2.size) (fun q=>q)).trans ((W.out.2.2.cell (p:=⟨ob,i,none⟩) hob (fun q=>q)).trans hce)
     have HGI:=Lib.hid hg
     have hsm:ks.length≤400000:=LK.out.1
     generalize ks[i]=key at hcell HGI
     clear hce hg
     go_wp2_with (first
       | (at_mapUpdate;refine wl_put 152 9 154 Tryz.underlying152 Tryz.underlying9 rfl (.tmp 45) (.tmp 46) (.tmp 47) rfl (A.out.2.1.m.alloc _) key (.map (some wr.heap.size)) rfl rfl rfl ?_;intro arr1 k1 hm1))
     obtain ⟨hk,hs,hl,hb,hnd,f⟩:=A.out
     have R:=VM.step rfl hk hi VND.out HGI.out hs hl hb hnd f rfl arr1 k1 rfl hm1
     go_roundg (gk - 1)
     case measure=>exact R.1
     case rel=>exact R.2
   · have hi':i=ks.length:=by have:=A.out.1;omega
     subst hi'
     have AL:=Lib.hid (show l.map (·.1)=ks from by have:=A.out.2.2.1;rw [List.take_length] at this;exact this)
     clear V
     go_wp2_with fail
     try go_frame
     go_loopg [51] rs.length (fun k c wr=>EM false w2 w2.heap.size l rs k c wr)
     case atStart=>exact ⟨0,fun _ => [],rfl,rfl,A.out.2.1,fun x y=>by unfold edgeAt;cases findK l x <;> rfl,A.out.2.2.2.2.2⟩
     case round =>
       obtain ⟨j,inn,hk,rfl,hs,he,f⟩:=hrel
       have C:=hid4 hk hs he f
       clear hk hs he f
       by_cases hj:j < rs.length
       · have hg:=List.getElem?_eq_getElem hj
         obtain ⟨a,wt,hv⟩:=KOK.out rs[j] (List.getElem_mem hj)
         have hg2:rs[j]? = some ((rs[j].1.1,rs[j].1.2),ev rs[j].1.1 rs[j].1.2 a wt):=by rw [hg,← hv]
         generalize rs[j].1.1=x at hg2
         generalize rs[j].1.2=y at hg2
         clear hg hv
         obtain ⟨c0,c1,c2,c3,c4⟩:=eCells_at KOK.out hg2
         obtain ⟨ob,rfl,hob,d0⟩:=W.out.2.1 _ _ c0
         obtain ⟨ob',e',_,d1⟩:=W.out.2.1 _ _ c1
         cases e'
         obtain ⟨ob',e',_,d2⟩:=W.out.2.1 _ _ c2
         cases e'
         obtain ⟨ob',e',_,d3⟩:=W.out.2.1 _ _ c3
         cases e'
         obtain ⟨ob',e',_,d4⟩:=W.out.2.1 _ _ c4
         cases e'
         have cc:∀ o v,w2.cell? ⟨ob,o,none⟩=some v→wr.cell? ⟨ob,o,none⟩=some v:=fun o v q=>(C.out.2.2.2.cell (p:=⟨ob,o,none⟩) hob (fun r=>r)).trans q
         have d0:=cc _ _ d0
         have d1:=cc _ _ d1
         have d2:=cc _ _ d2
         have d3:=cc _ _ d3
         have d4:=cc _ _ d4
         have HGI:=Lib.hid hg2
         have hsm:rs.length≤800000:=LK.out.2
         clear c0 c1 c2 c3 c4 cc hg2
         obtain ⟨n,hn⟩ : ∃ n,findK l x=some n:=by
           have hm:((x,y),ev x y a wt)∈linksK G.dir G.lks:=W.out.1.subset (List.mem_of_getElem? HGI.out)
           obtain ⟨e,he,_⟩:=Option.map_eq_some_iff.1 ((HG.out.mem_linksK x y _).1 hm)
           obtain ⟨⟨p,hp⟩,_⟩:=HG.out.ends_find he
           obtain ⟨m1,m2⟩:=findP_mem hp
           have hx:x∈l.map (·.1):=by
             rw [AL.out,VP.out.mem_iff]
             exact List.mem_map.2 ⟨p,m1,m2⟩
           obtain ⟨z,hz,rfl⟩:=List.mem_map.1 hx
           exact ⟨z.2,findK_of_mem C.out.2.1.keys hz⟩
         have HL:=Lib.hid (show lookS (mp l) x=some (.map (some n)) by rw [look_mp,hn];rfl)
         have HN:=Lib.hid hn
         clear hn
         go_wp2_with (first
           | (at_lookup;refine wl_look1S 152 9 154 Tryz.underlying152 Tryz.underlying9 (.map none) zM rfl (.tmp 55) (.tmp 57) rfl (C.out.2.1.m.alloc _) x _ HL.out rfl rfl ?_)
           | (at_mapUpdate;refine wl_put 154 9 144 Tryz.underlying154 Tryz.underlying9 rfl (.tmp 58) (.tmp 60) (.tmp 61) rfl ((C.out.2.1.e _ (findK_mem HN.out)).alloc _) y (ev x y a wt) rfl rfl rfl ?_;intro arr1 k1 hm1))
         obtain ⟨hk,hs,he,f⟩:=C.out
         obtain ⟨_,_,_,hb,hnd,_⟩:=A.out
         have R:=EM.step (turn:=false) (p:=((x,y),ev x y a wt)) rfl hk hj KND.out HGI.out hs he f (Nat.le_refl _) hnd hb HN.out ((Fr.refl (fun _=>False) wr).alloc _) arr1 k1 rfl hm1
         go_roundg (gk - 1)
         case measure=>exact R.1
         case rel=>exact R.2
       · have hj':j=rs.length:=by have:=C.out.1;omega
         subst hj'
         go_wp2_with fail
         go_ret2
         obtain ⟨hk,hs,he,f⟩:=C.out
         obtain ⟨_,_,_,hb,hnd,_⟩:=A.out
         rw [List.take_length] at he
         have s2:=F2.out.size
         refine ⟨w2.heap.size,l,inn,rfl,hs,List.nodup_cons.2 ⟨?_,hnd⟩,⟨s2,fun x hx=>by have:=hb x hx;omega⟩,?_,?_,F2.out.trans0 f⟩
         · intro q
           obtain ⟨z,hz,e⟩:=List.mem_map.1 q
           have:=hb z hz
           omega
         · rw [AL.out];exact VP.out
         · intro x y
           rw [he]
           simp only [Bool.false_eq_true,if_false]
           exact HG.out.look_at W.out.1 x y
theorem uadj (w:World) (G:GS) (h:GRep w G) (hbp:G.pts.length≤400000) (hbl:G.lks.length≤400000) :
   Calls Tryz.prog 202 #[.pointer (some ⟨G.gB,0,none⟩)] w fun e w'=>∃ B l inn,e=.returned (.tuple #[.map (some B),.nilIface])∧AdjM w w' G false B l inn:=by
 have A0:=Lib.hid (show ∀ w',Fr0 w w'→AW w G w' from fun w' f=>AW.mk' h f)
 obtain ⟨-,s0,s1,s2,s3,s4⟩:=A0.out w (Fr.refl _ _)
 have mV:=mListVertices
 have mE:=mListEdges
 have hmm:=@run_makeMap Tryz.prog
 have hmh:=@run_makeMap_hint Tryz.prog 152 9 154 Tryz.underlying152
 have HG:=Lib.hid h
 clear h
 go_enter Tryz.func202,Tryz.ntmps202
 go_wp2_with fail
 refine (slistv (A0.out _ (Fr.refl _ _)).rep (by omega)).mono ?_
 rintro e w1 ⟨v1,ks,rfl,hks,ho1,f1⟩
 obtain ⟨ao1,cap1,rfl,_,hv1⟩:=own_slice ho1
 have V:=hid2 hks hv1
 have VP:=Lib.hid hks
 clear hks ho1 hv1 s0 s1 s2 s3 s4
 obtain ⟨-,s0,s1,s2,s3,s4⟩:=A0.out _ f1
 go_wp2_with fail
 refine (sliste (A0.out _ f1).rep hbl).mono ?_
 rintro e w2 ⟨v2,es,rfl,hes,ho2,h2⟩
 obtain ⟨rs,hrs,rfl⟩:=perm_map_inv (show es.Perm ((linksK G.dir G.lks).map (·.2)) from hes)
 obtain ⟨ao2,cap2,rfl,_,hv2⟩:=own_slice ho2
 rw [List.length_map]
 have W:=hid3 hrs hv2 h2
 have F2:=Lib.hid (f1.trans0 h2)
 have KOK:=Lib.hid (show ∀ p∈rs,KVok p from fun p hp=>linksK_ok _ _ p (hrs.subset hp))
 have KND:=Lib.hid (show (rs.map (·.1)).Nodup from (hrs.map _).nodup_iff.2 (A0.out _ f1).rep.linksK_keys)
 have VND:=Lib.hid (show ks.Nodup from by
   refine V.out.1.nodup_iff.2 ?_
   have:=HG.out.s.v.nodup
   rw [HG.out.vs,List.map_map] at this
   exact this)
 have LK:=Lib.hid (show ks.length≤400000∧rs.length≤800000 from ⟨by rw [V.out.1.length_eq];simpa using hbp,by
   have h1:=hrs.length_eq
   have h2:=linksV_len G.dir G.lks
   unfold linksV at h2
   rw [List.length_map] at h2
   omega⟩)
 clear hes hrs ho2 hv2 h2 f1 s0 s1 s2 s3 s4
 go_wp2_with fail
 try go_frame
 go_loopg [41] ks.length (fun k c wr=>VM w2 w2.heap.size ks k c wr)
 case atStart=>exact ⟨0,[],rfl,rfl,⟨SM.fresh w2,fun _ h=>(by cases h)⟩,rfl,fun _ h=>(by cases h),List.nodup_nil,(Fr.refl _ _).alloc _⟩
 case round =>
   obtain ⟨i,l,hk,rfl,hs,hl,hb,hnd,f⟩:=hrel
   have A:=hid6 hk hs hl hb hnd f
   clear hk hs hl hb hnd f
   by_cases hi:i < ks.length
   · have hg:=List.getElem?_eq_getElem hi
     obtain ⟨ob,rfl,hob,hce⟩:=V.out.2 i (.string ks[i]) (by unfold strs;rw [List.getElem?_map,hg];rfl)
     have hcell:=(A.out.2.2.2.2.2.cell (p:=⟨ob,i,none⟩) (Nat.lt_of_lt_of_le hob W.out.2.2.size) (fun q=>q)).trans ((W.out.2.2.cell (p:=⟨ob,i,none⟩) hob (fun q=>q)).trans hce)
     have HGI:=Lib.hid hg
     have hsm:ks.length≤400000:=LK.out.1
     generalize ks[i]=key at hcell HGI
     clear hce hg
     go_wp2_with (first
       | (at_mapUpdate;refine wl_put 152 9 154 Tryz.underlying152 Tryz.underlying9 rfl (.tmp 45) (.tmp 46) (.tmp 47) rfl (A.out.2.1.m.alloc _) key (.map (some wr.heap.size)) rfl rfl rfl ?_;intro arr1 k1 hm1))
     obtain ⟨hk,hs,hl,hb,hnd,f⟩:=A.out
     have R:=VM.step rfl hk hi VND.out HGI.out hs hl hb hnd f rfl arr1 k1 rfl hm1
     go_roundg (gk - 1)
     case measure=>exact R.1
     case rel=>exact R.2
   · have hi':i=ks.length:=by have:=A.out.1;omega
     subst hi'
     have AL:=Lib.hid (show l.map (·.1)=ks from by have:=A.out.2.2.1;rw [List.take_length] at this;exact this)
     clear V
     go_wp2_with fail
     try go_frame
     go_loopg [51] rs.length (fun k c wr=>EM false w2 w2.heap.size l rs k c wr)
     case atStart=>exact ⟨0,fun _ => [],rfl,rfl,A.out.2.1,fun x y=>by unfold edgeAt;cases findK l x <;> rfl,A.out.2.2.2.2.2⟩
     case round =>
       obtain ⟨j,inn,hk,rfl,hs,he,f⟩:=hrel
       have C:=hid4 hk hs he f
       clear hk hs he f
       by_cases hj:j < rs.length
       · have hg:=List.getElem?_eq_getElem hj
         obtain ⟨a,wt,hv⟩:=KOK.out rs[j] (List.getElem_mem hj)
         have hg2:rs[j]? = some ((rs[j].1.1,rs[j].1.2),ev rs[j].1.1 rs[j].1.2 a wt):=by rw [hg,← hv]
         generalize rs[j].1.1=x at hg2
         generalize rs[j].1.2=y at hg2
         clear hg hv
         obtain ⟨c0,c1,c2,c3,c4⟩:=eCells_at KOK.out hg2
         obtain ⟨ob,rfl,hob,d0⟩:=W.out.2.1 _ _ c0
         obtain ⟨ob',e',_,d1⟩:=W.out.2.1 _ _ c1
         cases e'
         obtain ⟨ob',e',_,d2⟩:=W.out.2.1 _ _ c2
         cases e'
         obtain ⟨ob',e',_,d3⟩:=W.out.2.1 _ _ c3
         cases e'
         obtain ⟨ob',e',_,d4⟩:=W.out.2.1 _ _ c4
         cases e'
         have cc:∀ o v,w2.cell? ⟨ob,o,none⟩=some v→wr.cell? ⟨ob,o,none⟩=some v:=fun o v q=>(C.out.2.2.2.cell (p:=⟨ob,o,none⟩) hob (fun r=>r)).trans q
         have d0:=cc _ _ d0
         have d1:=cc _ _ d1
         have d2:=cc _ _ d2
         have d3:=cc _ _ d3
         have d4:=cc _ _ d4
         have HGI:=Lib.hid hg2
         have hsm:rs.length≤800000:=LK.out.2
         clear c0 c1 c2 c3 c4 cc hg2
         obtain ⟨n,hn⟩ : ∃ n,findK l x=some n:=by
           have hm:((x,y),ev x y a wt)∈linksK G.dir G.lks:=W.out.1.subset (List.mem_of_getElem? HGI.out)
           obtain ⟨e,he,_⟩:=Option.map_eq_some_iff.1 ((HG.out.mem_linksK x y _).1 hm)
           obtain ⟨⟨p,hp⟩,_⟩:=HG.out.ends_find he
           obtain ⟨m1,m2⟩:=findP_mem hp
           have hx:x∈l.map (·.1):=by
             rw [AL.out,VP.out.mem_iff]
             exact List.mem_map.2 ⟨p,m1,m2⟩
           obtain ⟨z,hz,rfl⟩:=List.mem_map.1 hx
           exact ⟨z.2,findK_of_mem C.out.2.1.keys hz⟩
         have HL:=Lib.hid (show lookS (mp l) x=some (.map (some n)) by rw [look_mp,hn];rfl)
         have HN:=Lib.hid hn
         clear hn
         go_wp2_with (first
           | (at_lookup;refine wl_look1S 152 9 154 Tryz.underlying152 Tryz.underlying9 (.map none) zM rfl (.tmp 55) (.tmp 57) rfl (C.out.2.1.m.alloc _) x _ HL.out rfl rfl ?_)
           | (at_mapUpdate;refine wl_put 154 9 144 Tryz.underlying154 Tryz.underlying9 rfl (.tmp 58) (.tmp 60) (.tmp 61) rfl ((C.out.2.1.e _ (findK_mem HN.out)).alloc _) y (ev x y a wt) rfl rfl rfl ?_;intro arr1 k1 hm1))
         obtain ⟨hk,hs,he,f⟩:=C.out
         obtain ⟨_,_,_,hb,hnd,_⟩:=A.out
         have R:=EM.step (turn:=false) (p:=((x,y),ev x y a wt)) rfl hk hj KND.out HGI.out hs he f (Nat.le_refl _) hnd hb HN.out ((Fr.refl (fun _=>False) wr).alloc _) arr1 k1 rfl hm1
         go_roundg (gk - 1)
         case measure=>exact R.1
         case rel=>exact R.2
       · have hj':j=rs.length:=by have:=C.out.1;omega
         subst hj'
         go_wp2_with fail
         go_ret2
         obtain ⟨hk,hs,he,f⟩:=C.out
         obtain ⟨_,_,_,hb,hnd,_⟩:=A.out
         rw [List.take_length] at he
         have s2:=F2.out.size
         refine ⟨w2.heap.size,l,inn,rfl,hs,List.nodup_cons.2 ⟨?_,hnd⟩,⟨s2,fun x hx=>by have:=hb x hx;omega⟩,?_,?_,F2.out.trans0 f⟩
         · intro q
           obtain ⟨z,hz,e⟩:=List.mem_map.1 q
           have:=hb z hz
           omega
         · rw [AL.out];exact VP.out
         · intro x y
           rw [he]
           simp only [Bool.false_eq_true,if_false]
           exact HG.out.look_at W.out.1 x y
def cnt (inn:Nat→Ents) (rem:Ents):Nat:=(rem.flatMap fun p=>inV inn p.2).length
def ZL (w1:World) (B r:Nat) (l:List (ByteArray × Nat)) (inn:Nat→Ents) (k:Nat) (c:Value) (wr:World):Prop :=
 ∃ (rem:Ents) (n:Nat),rem.length=k∧c=.int .i64 n∧n+cnt inn rem=cnt inn (mp l)∧IT wr r B rem∧Fr (· = r) w1 wr∧∀ p∈rem, ∃ m,p.2=.map (some m)∧(p.1,m)∈l
theorem cnt_split (inn:Nat→Ents) (l1 l2:Ents) (k:ByteArray) (m:Nat):cnt inn (l1 ++ (k,.map (some m)) :: l2)=cnt inn (l1 ++ l2)+(inn m).length:=by
 unfold cnt
 simp only [List.flatMap_append,List.flatMap_cons,List.length_append,inV,List.length_map]
 omega
theorem AdjM.count {w w':World} {G:GS} (h0:GRep w G) {B:Nat} {l:List (ByteArray × Nat)} {inn:Nat→Ents} (h:AdjM w w' G false B l inn):cnt inn (mp l)=(linksK G.dir G.lks).length:=by
 have h1:(allK l inn).Perm (linksK G.dir G.lks):=by
   refine (List.perm_ext_iff_of_nodup (nodup_of_keys (allK_keys h.side)) (nodup_of_keys h0.linksK_keys)).2 ?_
   rintro ⟨⟨x,y⟩,v⟩
   rw [mem_allK h.side,h0.mem_linksK,h.at_]
   simp
 have h2:cnt inn (mp l)=(allV l inn).length:=rfl
 rw [h2,allV_allK,List.length_map,h1.length_eq]
theorem linksK_len (dir:Bool) (lks:List Lk):(linksK dir lks).length=if dir then lks.length else 2 * lks.length:=by
 unfold linksK
 cases dir with
 | true=>simp
 | false =>
   simp only [Bool.false_eq_true,if_false]
   induction lks with
   | nil=>simp
   | cons m lks ih=>simp only [List.flatMap_cons,List.length_append,List.length_cons,List.length_nil] at ih ⊢;omega
theorem dsize (w:World) (G:GS) (h:GRep w G) (hd:G.dir=true) (hbp:G.pts.length≤400000) (hbl:G.lks.length≤400000) :
   Calls Tryz.prog 185 #[.pointer (some ⟨G.gB,0,none⟩)] w fun e w'=>e=.returned (.tuple #[.int .i64 G.lks.length,.nilIface])∧Fr0 w w':=by
 have HC:=Lib.hid (dadj w G h hbp hbl)
 have HG:=Lib.hid h
 clear h
 go_enter Tryz.func185,Tryz.ntmps185
 go_wp2_with fail
 refine HC.out.mono ?_
 rintro e w1 ⟨B,l,inn,rfl,M⟩
 have HM:=Lib.hid M
 clear M
 go_wp2_with (first
   | (at_range;refine wl_range 152 9 154 Tryz.underlying152 rfl (.tmp 18) rfl HM.out.side.m rfl ?_;intro ob w2 hw2 sm2 it2))
 try go_frame
 go_loopg [4] l.length (fun k c wr=>ZL w1 B w1.heap.size l inn k c wr)
 case atStart =>
   subst hw2
   refine ⟨mp l,0,by simp [mp],rfl,by omega,it2,(Fr.refl _ _).alloc _,fun p hp => ?_⟩
   obtain ⟨x,hx,rfl⟩:=List.mem_map.1 hp
   exact ⟨x.2,rfl,hx⟩
 case round =>
   obtain ⟨rem,n,hk,rfl,hn,hit,f,hq⟩:=hrel
   have A:=hid5 hk hn hit f hq
   have hle:cnt inn (mp l)≤800000:=by
     have h1:=HM.out.count HG.out
     have h2:=linksK_len G.dir G.lks
     split at h2 <;> omega
   clear hk hn hit f hq
   go_wp2_with (first
     | (at_next;refine wl_next rfl (.tmp 19) rfl w1.heap.size rem A.out.2.2.1 rfl ?_ ?_))
   · intro hrem
     have Bq:=Lib.hid hrem
     clear hrem
     go_wp2_with fail
     go_ret2
     have e0:=Bq.out
     subst e0
     obtain ⟨_,hn,_,f,_⟩:=A.out
     have h1:=HM.out.count HG.out
     have h2:=linksK_len G.dir G.lks
     rw [hd] at h2 h1
     simp only [if_true] at h2
     have h3:cnt inn []=0:=rfl
     refine ⟨?_,HM.out.fr.trans f fun k q=>.inr (by rw [q];exact HM.out.fr.size)⟩
     have:n=G.lks.length:=by omega
     rw [this]
     rfl
   · intro key v l1 l2 w3 hrem hit3 hu3 hen
     obtain ⟨m,rfl,hm⟩:=A.out.2.2.2.2 (key,v) (by rw [hrem];simp)
     have hsp:=cnt_split inn l1 l2 key m
     rw [← hrem] at hsp
     have hadd:n+(inn m).length≤800000:=by have:=A.out.2.1;omega
     have HSP:=Lib.hid hsp
     clear hsp
     have Bq:=hid4 hrem hit3 hu3 hm
     have SN:=Lib.hid (((HM.out.side.e _ hm).fr A.out.2.2.2.1 (by have:=(HM.out.side.e _ hm).lt;simp only at this;intro q;omega)).upd hu3 (by have:=(HM.out.side.e _ hm).lt;simp only at this ⊢;omega))
     clear hrem hit3 hu3 hm
     go_wp2_with (first
       | (at_len;refine wl_len 154 9 144 Tryz.underlying154 rfl (.tmp 25) rfl SN.out rfl ?_))
     obtain ⟨hk,hn,hit,f,hq⟩:=A.out
     have hs:=HSP.out
     go_roundg (l1 ++ l2).length
     case measure=>rw [← hk,Bq.out.1];simp
     case rel =>
       refine ⟨l1 ++ l2,n+(inn m).length,rfl,by simp,by omega,Bq.out.2.1,f.trans (Fr.of_upd Bq.out.2.2.1) fun _ q=>.inl q,fun p hp=>hq p ?_⟩
       rw [Bq.out.1]
       simp only [List.mem_append,List.mem_cons] at hp ⊢
       rcases hp with q|q
       · exact .inl q
       · exact .inr (.inr q)
theorem usize (w:World) (G:GS) (h:GRep w G) (hd:G.dir=false) (hbp:G.pts.length≤400000) (hbl:G.lks.length≤400000) :
   Calls Tryz.prog 210 #[.pointer (some ⟨G.gB,0,none⟩)] w fun e w'=>e=.returned (.tuple #[.int .i64 G.lks.length,.nilIface])∧Fr0 w w':=by
 have HC:=Lib.hid (uadj w G h hbp hbl)
 have HG:=Lib.hid h
 clear h
 go_enter Tryz.func210,Tryz.ntmps210
 go_wp2_with fail
 refine HC.out.mono ?_
 rintro e w1 ⟨B,l,inn,rfl,M⟩
 have HM:=Lib.hid M
 clear M
 go_wp2_with (first
   | (at_range;refine wl_range 152 9 154 Tryz.underlying152 rfl (.tmp 18) rfl HM.out.side.m rfl ?_;intro ob w2 hw2 sm2 it2))
 try go_frame
 go_loopg [4] l.length (fun k c wr=>ZL w1 B w1.heap.size l inn k c wr)
 case atStart =>
   subst hw2
   refine ⟨mp l,0,by simp [mp],rfl,by omega,it2,(Fr.refl _ _).alloc _,fun p hp => ?_⟩
   obtain ⟨x,hx,rfl⟩:=List.mem_map.1 hp
   exact ⟨x.2,rfl,hx⟩
 case round =>
   obtain ⟨rem,n,hk,rfl,hn,hit,f,hq⟩:=hrel
   have A:=hid5 hk hn hit f hq
   have hle:cnt inn (mp l)≤800000:=by
     have h1:=HM.out.count HG.out
     have h2:=linksK_len G.dir G.lks
     split at h2 <;> omega
   clear hk hn hit f hq
   go_wp2_with (first
     | (at_next;refine wl_next rfl (.tmp 19) rfl w1.heap.size rem A.out.2.2.1 rfl ?_ ?_))
   · intro hrem
     have Bq:=Lib.hid hrem
     clear hrem
     go_wp2_with fail
     go_ret2
     have e0:=Bq.out
     subst e0
     obtain ⟨_,hn,_,f,_⟩:=A.out
     have h1:=HM.out.count HG.out
     have h2:=linksK_len G.dir G.lks
     rw [hd] at h2 h1
     simp only [Bool.false_eq_true,if_false] at h2
     have h3:cnt inn []=0:=rfl
     refine ⟨?_,HM.out.fr.trans f fun k q=>.inr (by rw [q];exact HM.out.fr.size)⟩
     have:n=2 * G.lks.length:=by omega
     subst this
     have e1:wrap64 (((2 * G.lks.length:Nat):Int) / 2)=(G.lks.length:Int):=by
       simp only [wrap64]
       omega
     show Ending.returned (.tuple #[.int .i64 (wrap64 (((2 * G.lks.length:Nat):Int) / 2)),.nilIface])=_
     rw [e1]
   · intro key v l1 l2 w3 hrem hit3 hu3 hen
     obtain ⟨m,rfl,hm⟩:=A.out.2.2.2.2 (key,v) (by rw [hrem];simp)
     have hsp:=cnt_split inn l1 l2 key m
     rw [← hrem] at hsp
     have hadd:n+(inn m).length≤800000:=by have:=A.out.2.1;omega
     have HSP:=Lib.hid hsp
     clear hsp
     have Bq:=hid4 hrem hit3 hu3 hm
     have SN:=Lib.hid (((HM.out.side.e _ hm).fr A.out.2.2.2.1 (by have:=(HM.out.side.e _ hm).lt;simp only at this;intro q;omega)).upd hu3 (by have:=(HM.out.side.e _ hm).lt;simp only at this ⊢;omega))
     clear hrem hit3 hu3 hm
     go_wp2_with (first
       | (at_len;refine wl_len 154 9 144 Tryz.underlying154 rfl (.tmp 25) rfl SN.out rfl ?_))
     obtain ⟨hk,hn,hit,f,hq⟩:=A.out
     have hs:=HSP.out
     go_roundg (l1 ++ l2).length
     case measure=>rw [← hk,Bq.out.1];simp
     case rel =>
       refine ⟨l1 ++ l2,n+(inn m).length,rfl,by simp,by omega,Bq.out.2.1,f.trans (Fr.of_upd Bq.out.2.2.1) fun _ q=>.inl q,fun p hp=>hq p ?_⟩
       rw [Bq.out.1]
       simp only [List.mem_append,List.mem_cons] at hp ⊢
       rcases hp with q|q
       · exact .inl q
       · exact .inr (.inr q)
end Go.Proofs.YtbafaadmlpamiaaGreatDoor
namespace Go.Proofs.YtbafaadmlpamiaaGreatDoor
open Go Go.Proofs Go.Shelf Go.RowKit Go.Lib Go.Sort
def Tryz.sl6_ren:Go.Shelf.Ren:=⟨fun | 6=>90 | 10=>99 | 11=>100 | 12=>101 | 13=>102 | 14=>103 | 24=>115 | 25=>116 | 26=>117 | 27=>118 | 28=>119 | 29=>120 | 30=>121 | 31=>122 | 32=>123 | 33=>124 | 34=>138 | 35=>139 | 36=>140 | 37=>141 | 38=>142 | 39=>153|n=>n,fun | 20=>20 | 26=>175 | 35=>189 | 0=>0 | 37=>191 | 3=>3 | 41=>195 | 44=>198 | 49=>213 | 51=>215 | 4=>4 | 54=>218 | 53=>217 | 58=>222 | 5=>5 | 9=>9 | 60=>235 | 64=>239 | 66=>250 | 67=>251 | 17=>17 | 32=>186 | 33=>187 | 82=>272 | 12=>12 | 75=>265 | 76=>266 | 77=>267 | 78=>268 | 79=>269 | 80=>270|n=>n,fun|n=>n⟩
theorem Tryz.sl6:Go.Proofs.LaysGg.n6 Tryz.prog Tryz.sl6_ren:={
 mixed:=by kernel_rfl
 f6:=Tryz.func90.trans (congrArg some (by kernel_rfl))
 f10:=Tryz.func99.trans (congrArg some (by kernel_rfl))
 f11:=Tryz.func100.trans (congrArg some (by kernel_rfl))
 f12:=Tryz.func101.trans (congrArg some (by kernel_rfl))
 f13:=Tryz.func102.trans (congrArg some (by kernel_rfl))
 f14:=Tryz.func103.trans (congrArg some (by kernel_rfl))
 f24:=Tryz.func115.trans (congrArg some (by kernel_rfl))
 f25:=Tryz.func116.trans (congrArg some (by kernel_rfl))
 f26:=Tryz.func117.trans (congrArg some (by kernel_rfl))
 f27:=Tryz.func118.trans (congrArg some (by kernel_rfl))
 f28:=Tryz.func119.trans (congrArg some (by kernel_rfl))
 f29:=Tryz.func120.trans (congrArg some (by kernel_rfl))
 f30:=Tryz.func121.trans (congrArg some (by kernel_rfl))
 f31:=Tryz.func122.trans (congrArg some (by kernel_rfl))
 f32:=Tryz.func123.trans (congrArg some (by kernel_rfl))
 f33:=Tryz.func124.trans (congrArg some (by kernel_rfl))
 f34:=Tryz.func138.trans (congrArg some (by kernel_rfl))
 f35:=Tryz.func139.trans (congrArg some (by kernel_rfl))
 f36:=Tryz.func140.trans (congrArg some (by kernel_rfl))
 f37:=Tryz.func141.trans (congrArg some (by kernel_rfl))
 f38:=Tryz.func142.trans (congrArg some (by kernel_rfl))
 f39:=Tryz.func153.trans (congrArg some (by kernel_rfl))
 t0:=Tryz.underlying0
 a0:=Tryz.isAgg0
 z0:=Tryz.sizeOf0
 v0:=Tryz.zeroValue0
 i0:=by kernel_rfl
 t3:=Tryz.underlying3
 a3:=Tryz.isAgg3
 z3:=Tryz.sizeOf3
 v3:=Tryz.zeroValue3
 i3:=by kernel_rfl
 t4:=Tryz.underlying4
 a4:=Tryz.isAgg4
 z4:=Tryz.sizeOf4
 v4:=Tryz.zeroValue4
 i4:=by kernel_rfl
 t5:=Tryz.underlying5
 a5:=Tryz.isAgg5
 z5:=Tryz.sizeOf5
 v5:=Tryz.zeroValue5
 i5:=by kernel_rfl
 t9:=Tryz.underlying9
 a9:=Tryz.isAgg9
 z9:=Tryz.sizeOf9
 v9:=Tryz.zeroValue9
 i9:=by kernel_rfl
 t12:=Tryz.underlying12
 a12:=Tryz.isAgg12
 z12:=Tryz.sizeOf12
 v12:=Tryz.zeroValue12
 i12:=by kernel_rfl
 t17:=Tryz.underlying17
 a17:=Tryz.isAgg17
 z17:=Tryz.sizeOf17
 v17:=Tryz.zeroValue17
 i17:=by kernel_rfl
 t20:=Tryz.underlying20
 a20:=Tryz.isAgg20
 z20:=Tryz.sizeOf20
 v20:=Tryz.zeroValue20
 i20:=by kernel_rfl
 t26:=Tryz.underlying175
 a26:=Tryz.isAgg175
 z26:=Tryz.sizeOf175
 v26:=Tryz.zeroValue175
 i26:=by kernel_rfl
 t32:=Tryz.underlying186
 a32:=Tryz.isAgg186
 z32:=Tryz.sizeOf186
 v32:=Tryz.zeroValue186
 i32:=by kernel_rfl
 t33:=Tryz.underlying187
 a33:=Tryz.isAgg187
 z33:=Tryz.sizeOf187
 v33:=Tryz.zeroValue187
 i33:=by kernel_rfl
 t35:=Tryz.underlying189
 a35:=Tryz.isAgg189
 z35:=Tryz.sizeOf189
 v35:=Tryz.zeroValue189
 i35:=by kernel_rfl
 t37:=Tryz.underlying191
 a37:=Tryz.isAgg191
 z37:=Tryz.sizeOf191
 v37:=Tryz.zeroValue191
 i37:=by kernel_rfl
 t41:=Tryz.underlying195
 a41:=Tryz.isAgg195
 z41:=Tryz.sizeOf195
 v41:=Tryz.zeroValue195
 i41:=by kernel_rfl
 t44:=Tryz.underlying198
 a44:=Tryz.isAgg198
 z44:=Tryz.sizeOf198
 v44:=Tryz.zeroValue198
 i44:=by kernel_rfl
 t49:=Tryz.underlying213
 a49:=Tryz.isAgg213
 z49:=Tryz.sizeOf213
 v49:=Tryz.zeroValue213
 i49:=by kernel_rfl
 t51:=Tryz.underlying215
 a51:=Tryz.isAgg215
 z51:=Tryz.sizeOf215
 v51:=Tryz.zeroValue215
 i51:=by kernel_rfl
 t53:=Tryz.underlying217
 a53:=Tryz.isAgg217
 z53:=Tryz.sizeOf217
 v53:=Tryz.zeroValue217
 i53:=by kernel_rfl
 t54:=Tryz.underlying218
 a54:=Tryz.isAgg218
 z54:=Tryz.sizeOf218
 v54:=Tryz.zeroValue218
 i54:=by kernel_rfl
 t58:=Tryz.underlying222
 a58:=Tryz.isAgg222
 z58:=Tryz.sizeOf222
 v58:=Tryz.zeroValue222
 i58:=by kernel_rfl
 t60:=Tryz.underlying235
 a60:=Tryz.isAgg235
 z60:=Tryz.sizeOf235
 v60:=Tryz.zeroValue235
 i60:=by kernel_rfl
 t64:=Tryz.underlying239
 a64:=Tryz.isAgg239
 z64:=Tryz.sizeOf239
 v64:=Tryz.zeroValue239
 i64:=by kernel_rfl
 t66:=Tryz.underlying250
 a66:=Tryz.isAgg250
 z66:=Tryz.sizeOf250
 v66:=Tryz.zeroValue250
 i66:=by kernel_rfl
 t67:=Tryz.underlying251
 a67:=Tryz.isAgg251
 z67:=Tryz.sizeOf251
 v67:=Tryz.zeroValue251
 i67:=by kernel_rfl
 t75:=Tryz.underlying265
 a75:=Tryz.isAgg265
 z75:=Tryz.sizeOf265
 v75:=Tryz.zeroValue265
 i75:=by kernel_rfl
 t76:=Tryz.underlying266
 a76:=Tryz.isAgg266
 z76:=Tryz.sizeOf266
 v76:=Tryz.zeroValue266
 i76:=by kernel_rfl
 t77:=Tryz.underlying267
 a77:=Tryz.isAgg267
 z77:=Tryz.sizeOf267
 v77:=Tryz.zeroValue267
 i77:=by kernel_rfl
 t78:=Tryz.underlying268
 a78:=Tryz.isAgg268
 z78:=Tryz.sizeOf268
 v78:=Tryz.zeroValue268
 i78:=by kernel_rfl
 t79:=Tryz.underlying269
 a79:=Tryz.isAgg269
 z79:=Tryz.sizeOf269
 v79:=Tryz.zeroValue269
 i79:=by kernel_rfl
 t80:=Tryz.underlying270
 a80:=Tryz.isAgg270
 z80:=Tryz.sizeOf270
 v80:=Tryz.zeroValue270
 i80:=by kernel_rfl
 t82:=Tryz.underlying272
 a82:=Tryz.isAgg272
 z82:=Tryz.sizeOf272
 v82:=Tryz.zeroValue272
 i82:=by kernel_rfl }
end Go.Proofs.YtbafaadmlpamiaaGreatDoor
namespace Go.Proofs.YtbafaadmlpamiaaGreatDoor
open Go Go.Hy Go.Proofs Go.Shelf Go.RowKit Go.Lib Go.Sort
def encL {α:Type} (enc:α→List Value) (l:List α):List Value:=l.flatMap enc
theorem encL_at {α:Type} [Inhabited α] (enc:α→List Value) (k:Nat) (hk:∀ x,(enc x).length=k):∀ (l:List α) (i c:Nat),i < l.length→c < k→(encL enc l)[i * k+c]? = some (enc l[i]!)[c]!
 | [],i,c,hi,_=>by simp at hi
 | x :: l,0,c,_,hc=>by
   unfold encL
   rw [List.flatMap_cons,Nat.zero_mul,Nat.zero_add,List.getElem?_append_left (by rw [hk];exact hc)]
   have h1:c < (enc x).length:=by rw [hk];exact hc
   rw [List.getElem?_eq_getElem h1]
   simp [h1]
 | x :: l,i+1,c,hi,hc=>by
   have ih:=encL_at enc k hk l i c (by simpa using hi) hc
   unfold encL at ih ⊢
   rw [List.flatMap_cons,List.getElem?_append_right (by rw [hk,Nat.add_mul];omega)]
   have e:(i+1) * k+c - (enc x).length=i * k+c:=by rw [hk,Nat.add_mul];omega
   rw [e,ih]
   simp
theorem encL_len {α:Type} (enc:α→List Value) (k:Nat) (hk:∀ x,(enc x).length=k) (l:List α):(encL enc l).length=l.length * k:=by
 unfold encL
 induction l with
 | nil=>simp
 | cons x l ih=>rw [List.flatMap_cons,List.length_append,ih,hk,List.length_cons,Nat.add_mul];omega
def Reads (w:World) (v:Value) (n:Nat) (xs:List Value):Prop :=
 ∃ ao cap,v=.slice ao n cap∧n≤cap∧∀ (j:Nat) u,xs[j]? = some u→∃ ob,ao=some ⟨ob,0,none⟩∧ob < w.heap.size∧w.cell? ⟨ob,j,none⟩=some u
theorem holds_of_own {α:Type} [Inhabited α] (enc:α→List Value) (k:Nat) (hk:∀ x,(enc x).length=k) (hk0:0 < k) {w:World} {base:Nat} {e:TypeId} {g n cap:Nat} {l:List α}
   (h:w.ownsRow base e k (.slice (some ⟨g,0,none⟩) n cap) n (encL enc l)):HoldsK enc k w g 0 l.toArray∧g < w.heap.size:=by
 rcases h.2 with ⟨q,_⟩|⟨g',cap',cur,hv,_,hg,_,_,_,_⟩
 · cases q
 · cases hv
   refine ⟨?_,lt_of_some hg⟩
   intro j hj
   rw [size_flatK] at hj
   simp only [List.size_toArray] at hj
   have hd:j / k < l.length:=Nat.div_lt_of_lt_mul (by rw [Nat.mul_comm];exact hj)
   have hm:j % k < k:=Nat.mod_lt _ hk0
   have:=encL_at enc k hk l (j / k) (j % k) hd hm
   rw [show j / k * k+j % k=j by rw [Nat.mul_comm];exact Nat.div_add_mod j k] at this
   have hc:=h.cells (g:=g) rfl j _ this
   rw [Addr.add_lit,Nat.zero_add] at hc
   refine ⟨?_,?_⟩
   · show w.cell? ⟨g,0+j,none⟩=some (flatK enc k l.toArray)[j]!
     rw [get_flatK _ _ _ _ (by simpa using hj),Nat.zero_add,hc]
     simp
   · show w.frozen? ⟨g,0+j,none⟩=false
     simp [World.frozen?,hg]
theorem fr_sorted {α:Type} [Inhabited α] (enc:α→List Value) (k:Nat) (w:World) (m blk:Nat) (d:Array α) (os:Array Obj):Fr (· = blk) w (Sort.grow (putRowK enc k (Sort.ahead w m) blk 0 d) os):=by
 have hs:(putRowK enc k (Sort.ahead w m) blk 0 d).heap.size=w.heap.size:=by
   unfold putRowK putRow mapBlock
   simp
 refine ⟨rfl,rfl,rfl,by rw [size_grow,hs];omega,fun i hi hn => ?_⟩
 have h1:(Sort.grow (putRowK enc k (Sort.ahead w m) blk 0 d) os).heap[i]? = (putRowK enc k (Sort.ahead w m) blk 0 d).heap[i]?:=by
   unfold Sort.grow
   exact Array.getElem?_append_left (by rw [hs];exact hi)
 rw [h1]
 unfold putRowK putRow mapBlock
 simp [Array.getElem?_modify,Ne.symm hn]
end Go.Proofs.YtbafaadmlpamiaaGreatDoor
namespace Go.Proofs.YtbafaadmlpamiaaGreatDoor
open Go Go.Hy Go.Proofs Go.Shelf Go.RowKit Go.Sort
def encP (p:ByteArray × ByteArray):List Value:=[.string p.1,.string p.2]
theorem lessP (blk off c Bs size:Nat) (W:World) (dk:Array (ByteArray × ByteArray)) (hs:W.cell? ⟨Bs,0,none⟩=some (.slice (some ⟨blk,off,none⟩) size c))
   (hc:∀ t,t < size→W.cell? ⟨blk,off+t * 2,none⟩=some (.string dk[t]!.1)) (i j:Nat) (hi:i < size) (hj:j < size) (_hsz:size < 4611686018427387904) :
   Calls Tryz.prog 91 #[.int .i64 i,.int .i64 j,.pointer (some ⟨Bs,0,none⟩)] W fun e w'=>e=.returned (.bool (ltB dk[i]!.1 dk[j]!.1))∧∃ q,w'=W.drewN q:=by
 have ci:=hc i hi
 have cj:=hc j hj
 go_enter Tryz.func91,Tryz.ntmps91
 go_wp2
 go_quiet (fail)
 go_wp2
 go_ret
 exact ⟨rfl,nq,rfl⟩
noncomputable def PT:TypeInfo:=(Tryz.prog.info? 40).get (by kernel_rfl)
noncomputable def PE:TypeInfo:=(Tryz.prog.info? 68).get (by kernel_rfl)
theorem PK (n:Nat) (h2:2≤n):Go.Lib.swapperK n PE 25=9:=by
 have a:PE.hasPointers=true:=by kernel_rfl
 have b:(PE.bytes == 8)=false:=by kernel_rfl
 have c:(n == 0)=false:=by simp;omega
 have d:(n == 1)=false:=by simp;omega
 simp [Go.Lib.swapperK,a,b,c,d]
theorem Psort (w:World) (v:Value) (l:List (ByteArray × ByteArray)) (base:Nat) (ho:w.ownsRow base 68 2 v l.length (encL encP l)) (Bs:Nat) (hBs:w.cell? ⟨Bs,0,none⟩=some v) (hB2:v.ownBlock≠some Bs) (hlen:l.length≤1000000) :
   Calls Tryz.prog 90 #[.iface 40 v,.func (Fn.func 91) #[] #[.pointer (some ⟨Bs,0,none⟩)]] w fun e w'=>e=.returned (.tuple #[])∧∃ l',l'.Perm l∧l'.Pairwise (fun a b=>ltB (Prod.fst b) (Prod.fst a)=false)∧Reads w' v l.length (encL encP l')∧Fr (fun k=>v.ownBlock=some k) w w':=by
 have hBl:Bs < w.heap.size:=World.block_lt_of_cell? w _ hBs
 by_cases h2:2≤l.length
 · obtain ⟨ao,cap,hv,hcap,_⟩:=own_slice ho
   rcases ho.2 with ⟨_,h0⟩|⟨gb,cap',cur,rfl,_,hg,_⟩
   · omega
   · cases hv
     obtain ⟨hH,hgl⟩:=holds_of_own encP 2 (fun _=>rfl) (by decide) ho
     have hne:Bs≠gb:=fun q=>hB2 (by rw [q];rfl)
     have hless:LessReadsK Tryz.prog 91 #[.pointer (some ⟨Bs,0,none⟩)] encP 2 (fun a b=>ltB (Prod.fst a) (Prod.fst b)) gb 0 l.toArray.size w:=by
       intro m os dk hs i j hi hj
       have e:sortWorldK encP 2 w gb 0 m dk os=putRowK encP 2 (Sort.grow (Sort.ahead w m) os) gb 0 dk:=by
         unfold sortWorldK;rw [putRowK_grow _ _ (Sort.ahead w m) _ gb 0 _ hgl]
       have hHg:HoldsK encP 2 (Sort.grow (Sort.ahead w m) os) gb 0 l.toArray:=holdsK_grow _ _ _ _ gb 0 _ hgl (holdsK_ahead _ _ _ _ _ _ _ hH)
       have hH2:=holdsK_putRowK _ _ _ gb 0 l.toArray dk hHg hs
       have hs':dk.size=l.length:=by rw [hs];simp
       rw [e]
       refine lessP gb 0 cap Bs l.length _ dk ?_ (fun t ht => ?_) i j (by simpa using hi) (by simpa using hj) (by omega)
       · rw [cell?_putRowK_other _ _ _ gb 0 dk _ (by exact hne),cell?_grow _ _ _ (by exact hBl)];exact hBs
       · exact (hH2.cell (i:=t) (c:=0) (by omega) (by omega)).1
     have hS:=Any.sort_Slice_cells_sorted Tryz.sl6 40 68 PT PE (by kernel_rfl) (by kernel_rfl) (by kernel_rfl) (by kernel_rfl) 25 (fun _=>by kernel_rfl) encP 2 (fun _=>rfl) (by kernel_rfl) (fun _=>by kernel_rfl)
       (fun x v hv=>by simp [encP] at hv;rcases hv with rfl|rfl <;> rfl) (fun a b=>ltB (Prod.fst a) (Prod.fst b)) (ltB_sto.swo Prod.fst) 91 _
       (enters_of Tryz.func91 (by kernel_rfl) rfl) gb 0 cap l.toArray (by simpa using h2) (by simp;omega) 114 (by rw [PK _ (by simpa using h2)];kernel_rfl) false
       (fun args W=>run_callFunc_extern Tryz.func114 (by kernel_rfl) (by kernel_rfl) (by kernel_rfl) (e:=Extern.ReflectliteSwapper.swap false) (by kernel_rfl) args W) w hless hH hgl
     have hc:(l.toArray.size:Nat)=l.length:=by simp
     rw [hc] at hS
     refine Calls.mono hS ?_
     rintro e w' ⟨rfl,d',n,os,hp,hs,rfl⟩
     have hsz:d'.size=l.length:=by rw [hp.1];simp
     have hperm:d'.toList.Perm l:=by
       have:=hp.2.2
       have e1:d'.extract 0 l.length=d':=by rw [← hsz];simp
       have e2:l.toArray.extract 0 l.length=l.toArray:=by rw [← hc];exact Array.extract_size
       rw [e1,e2] at this
       simpa using this
     refine ⟨rfl,d'.toList,hperm,?_,?_,?_⟩
     · rw [List.pairwise_iff_getElem]
       intro i j hi hj hij
       have h3:i < d'.size:=by simpa using hi
       have h4:j < d'.size:=by simpa using hj
       have:=hs i j (Nat.zero_le _) hij (by omega)
       simpa [h3,h4] using this
     · refine ⟨some ⟨gb,0,none⟩,cap,rfl,hcap,fun j u hj=>⟨gb,rfl,?_,?_⟩⟩
       · have:=(fr_sorted encP 2 w n gb d' os).size;omega
       · have hHf:HoldsK encP 2 (putRowK encP 2 (Sort.ahead w n) gb 0 d') gb 0 d':=holdsK_putRowK _ _ _ gb 0 l.toArray d' (holdsK_ahead _ _ _ _ _ _ _ hH) (by rw [hp.1])
         have hHw:=holdsK_grow _ _ _ os gb 0 d' (by have:=(fr_sorted encP 2 w n gb d' #[]).size;simp at this;omega) hHf
         have hjl:j < d'.size * 2:=by
           have:=(List.getElem?_eq_some_iff.1 hj).1
           rw [encL_len encP 2 (fun _=>rfl)] at this
           simpa using this
         have h5:=hHw j (by rw [size_flatK];exact hjl)
         rw [Nat.zero_add,get_flatK _ _ _ _ hjl] at h5
         rw [h5.1]
         have h6:=encL_at encP 2 (fun _=>rfl) d'.toList (j / 2) (j % 2) (by simp;omega) (Nat.mod_lt _ (by decide))
         rw [show j / 2 * 2+j % 2=j by omega,hj] at h6
         have hlt:j / 2 < d'.size:=by omega
         have e7:d'.toList[j / 2]! = d'[j / 2]!:=by
           rw [getElem!_pos d'.toList _ (by simpa using hlt),getElem!_pos d' _ hlt]
           simp
         rw [e7] at h6
         exact h6.symm
     · exact (fr_sorted encP 2 w n gb d' os).mono fun q hq=>by rw [hq];rfl
 · obtain ⟨ao,cap,rfl,hcap,hr⟩:=own_slice ho
   have hT:Calls Tryz.prog 90 #[.iface 40 (.slice ao l.length cap),.func (Fn.func 91) #[] #[.pointer (some ⟨Bs,0,none⟩)]] w fun e w'=>e=.returned (.tuple #[])∧∃ os,w'=Sort.grow w os:=by
     have h01:l.length=0∨l.length=1:=by omega
     rcases h01 with h|h
     · rw [h]
       exact Any.sort_Slice_tiny Tryz.sl6 40 68 PT PE (by kernel_rfl) (by kernel_rfl) (by kernel_rfl) (by kernel_rfl) 25 (fun _=>by kernel_rfl) ao 0 cap (by decide) 106 (by kernel_rfl) _ _ _ w
     · rw [h]
       exact Any.sort_Slice_tiny Tryz.sl6 40 68 PT PE (by kernel_rfl) (by kernel_rfl) (by kernel_rfl) (by kernel_rfl) 25 (fun _=>by kernel_rfl) ao 1 cap (by decide) 107 (by kernel_rfl) _ _ _ w
   refine hT.mono ?_
   rintro e w' ⟨rfl,os,rfl⟩
   have fg:Fr0 w (Sort.grow w os):=⟨rfl,rfl,rfl,by rw [size_grow];omega,fun i hi _=>by unfold Sort.grow;exact Array.getElem?_append_left hi⟩
   refine ⟨rfl,l,List.Perm.refl _,?_,⟨ao,cap,rfl,hcap,fun j u hj => ?_⟩,fg.mono fun _ q=>q.elim⟩
   · exact List.pairwise_iff_getElem.2 fun i j hi hj hij=>by omega
   · obtain ⟨ob,h3,h4,h5⟩:=hr j u hj
     exact ⟨ob,h3,Nat.lt_of_lt_of_le h4 fg.size,(fg.cell (p:=⟨ob,j,none⟩) h4 (fun q=>q)).trans h5⟩
end Go.Proofs.YtbafaadmlpamiaaGreatDoor
namespace Go.Proofs.YtbafaadmlpamiaaGreatDoor
open Go Go.Hy Go.RowKit
theorem info68:(Tryz.prog.info? 68).map (fun i=>(i.zero,i.size,i.bytes))=some (some (.agg #[.string ⟨#[]⟩,.string ⟨#[]⟩]),2,32):=by kernel_rfl
def sv:Value→ByteArray
 | .string s=>s
 | _=>⟨#[]⟩
def PL (w:World) (mB r:Nat) (es:List (ByteArray × ByteArray)) (k:Nat) (wr:World):Prop :=
 ∃ done rem v,rem.length=k∧(done ++ rem.map fun p=>(p.1,sv p.2)).Perm es∧wr.ownsRow (w.heap.size+1) 68 2 v done.length (encL encP done)∧Cells wr w.heap.size #[v] 40∧IT wr r mB rem∧Fr0 w wr∧w.heap.size < r ∧
   (∀ p∈rem, ∃ s,p.2=.string s)∧done.length≤1000000∧es.length≤1000000
theorem PL.step {w wr w3 w4:World} {mB r k:Nat} {es:List (ByteArray × ByteArray)} {done:List (ByteArray × ByteArray)} {rem l1 l2:Ents} {v v':Value} {key s:ByteArray}
   (hk:rem.length=k) (hp:(done ++ rem.map fun p=>(p.1,sv p.2)).Perm es) (ho:wr.ownsRow (w.heap.size+1) 68 2 v done.length (encL encP done)) (hc:Cells wr w.heap.size #[v] 40) (hit:IT wr r mB rem) (f:Fr0 w wr) (hr:w.heap.size < r)
   (hs:∀ p∈rem, ∃ s,p.2=.string s) (hes:es.length≤1000000) (e:rem=l1 ++ (key,.string s) :: l2) (hit3:IT w3 r mB (l1 ++ l2)) (hu:Upd r wr w3)
   (ho':w4.ownsRow (w.heap.size+1) 68 2 v' (done.length+1) (encL encP done ++ [.string key,.string s])) (fg:Fr (fun j=>v.ownBlock=some j) w3 w4) :
   ∃ k',k' < k∧PL w mB r es k' (w4.setCell ⟨w.heap.size,0,none⟩ v'):=by
 have o3:w3.ownsRow (w.heap.size+1) 68 2 v done.length (encL encP done):=ownsRow_fr ho (Fr.of_upd hu) fun j hj q=>ownsRow_ne_it ho hit (by rw [hj,q])
 have hp':((done ++ [(key,s)]) ++ (l1 ++ l2).map fun p=>(p.1,sv p.2)).Perm es:=by
   refine List.Perm.trans ?_ hp
   subst e
   simp only [List.map_append,List.map_cons,List.append_assoc,List.singleton_append]
   refine List.Perm.append_left done ?_
   exact List.perm_middle.symm
 have hnb:v.ownBlock≠some w.heap.size:=fun q=>by have:=(ho.lt _ q).1;omega
 have hc4:Cells w4 w.heap.size #[v] 40:=(hc.fr (Fr.of_upd hu) (by omega)).fr fg (fun q=>hnb q)
 have hsc:Fr (· = w.heap.size) w4 (w4.setCell ⟨w.heap.size,0,none⟩ v'):=(Fr.refl (· = w.heap.size) w4).setCell (.inl rfl) _
 refine ⟨(l1 ++ l2).length,by rw [← hk,e];simp,done ++ [(key,s)],l1 ++ l2,v',rfl,hp',?_,?_,?_,?_,hr,?_,?_,hes⟩
 · have e1:encL encP (done ++ [(key,s)])=encL encP done ++ [.string key,.string s]:=by simp [encL,encP]
   rw [e1]
   have:=ownsRow_fr ho' hsc fun j hj q=>by have:=(ho'.lt _ hj).1;omega
   simpa using this
 · have:=cells_set hc4 0 v'
   simpa using this
 · refine (hit3.fr fg ?_ ?_).fr hsc ?_ ?_
   · intro q;exact ownsRow_ne_itb ho hit q
   · intro q;exact ownsRow_ne_it ho hit q
   · intro q
     rw [q] at hit
     obtain ⟨a1,_,_,g1,_⟩:=hit
     unfold Cells at hc
     rw [hc] at g1
     cases g1
   · omega
 · exact ((f.trans (Fr.of_upd hu) fun j hj=>.inr (by rw [hj];omega)).trans fg fun j hj=>.inr (by have:=(o3.lt j hj).1;omega)).setCell (.inr (Nat.le_refl _)) _
 · intro p hp0
   apply hs
   subst e
   simp only [List.mem_append,List.mem_cons] at hp0 ⊢
   rcases hp0 with q|q
   · exact .inl q
   · exact .inr (.inr q)
 · have:=hp'.length_eq
   simp at this ⊢
   omega
theorem ats_sv (es:List (ByteArray × ByteArray)):(ats es).map (fun p=>(p.1,sv p.2))=es:=by
 unfold ats
 rw [List.map_map]
 simp [Function.comp_def,sv]
theorem pairsof (w:World) (mB:Nat) (es:List (ByteArray × ByteArray)) (hm:SM w mB (ats es)) (hes:es.length≤1000000) :
   Calls Tryz.prog 69 #[.map (some mB)] w fun e w'=>∃ v l',e=.returned v∧l'.Perm es∧l'.Pairwise (fun a b=>ltB b.1 a.1=false)∧Reads w' v es.length (encL encP l')∧Fr0 w w'∧∀ q,v.ownBlock=some q→w.heap.size≤q∧q < w'.heap.size:=by
 have HM:=Lib.hid hm
 clear hm
 have hz:(w.alloc (.cells #[.slice none 0 0] 40)).heap.size=w.heap.size+1:=by simp
 go_enter Tryz.func69,Tryz.ntmps69
 go_wp2_with (first
   | (at_range;refine wl_range 135 9 9 Tryz.underlying135 rfl (.tmp 6) rfl (HM.out.alloc _) rfl ?_;intro ob w2 hw2 sm2 it2;rw [hz] at it2 ⊢))
 try go_frame
 go_loopg [5] es.length (fun k _ wr=>PL w mB (w.heap.size+1) es k wr)
 case atStart =>
   subst hw2
   refine ⟨[],ats es,.slice none 0 0,by simp [ats],by rw [ats_sv];exact List.Perm.refl _,World.ownsRow_nil _ _ _ _,(Cells.new w _ _).alloc _,it2,by ((repeat' with_reducible first|assumption|exact frR|apply frD|apply frN|apply frA|apply frM|apply frC);all_goals (simp;try omega)),by omega,?_,by simp,hes⟩
   · intro p hp
     obtain ⟨q,_,rfl⟩:=List.mem_map.1 hp
     exact ⟨q.2,rfl⟩
 case round =>
   obtain ⟨done,rem,v,hk,hp,ho,hc,hit,f,hr,hs,hd,he⟩:=hrel
   have A:=Lib.hid (And.intro hk (And.intro hp (And.intro ho (And.intro hc (And.intro hit (And.intro f (And.intro hr (And.intro hs (And.intro hd he)))))))))
   clear hk hp ho hc hit f hr hs he
   go_wp2_with (first
     | (at_next;refine wl_next rfl (.tmp 7) rfl (w.heap.size+1) rem A.out.2.2.2.2.1 rfl ?_ ?_))
   · intro hrem
     have B:=Lib.hid hrem
     clear hrem
     have cb:=A.out.2.2.2.1.cell 0 _ rfl
     have e0:=B.out
     subst e0
     have hnb:v.ownBlock≠some w.heap.size:=fun q=>by have:=(A.out.2.2.1.lt _ q).1;omega
     have hpl:done.Perm es:=by have:=A.out.2.1;simpa using this
     go_wp2_with fail
     refine (Psort wr v done _ A.out.2.2.1 w.heap.size cb hnb A.out.2.2.2.2.2.2.2.2.1).mono ?_
     rintro e w5 ⟨rfl,l',h1,h2,h3,h4⟩
     have cb5:=(A.out.2.2.2.1.fr h4 (fun q=>hnb q)).cell 0 _ rfl
     have R:=hid4 h1 h2 h3 h4
     clear h1 h2 h3 h4 cb
     go_wp2_with fail
     go_ret
     obtain ⟨h1,h2,h3,h4⟩:=R.out
     refine ⟨v,l',rfl,h1.trans hpl,h2,by rw [← hpl.length_eq];exact h3,A.out.2.2.2.2.2.1.trans h4 fun k hk=>.inr ?_,fun q hq => ?_⟩
     · have:=(A.out.2.2.1.lt _ hk).1
       omega
     · have h5:=A.out.2.2.1.lt _ hq
       have h6:=h4.size
       exact ⟨by omega,by omega⟩
   · intro key v0 l1 l2 w3 hrem hit3 hu3 hen
     obtain ⟨s,rfl⟩:=A.out.2.2.2.2.2.2.2.1 (key,v0) (by rw [hrem];simp)
     have B:=hid3 hrem hit3 hu3
     have cb3:Cells w3 w.heap.size #[v] 40:=A.out.2.2.2.1.fr (Fr.of_upd hu3) (by omega)
     have c0:=cb3.cell 0 _ rfl
     have c1:=cb3.free 0
     have cl:=cb3.lt
     have CB:=Lib.hid cb3
     clear hrem hit3 hu3 cb3
     go_wp2_with (first
       | (at_builtin;refine wl_app1 (w:=w3) 40 rfl (.tmp 13) (.tmp 17) rfl 68 _ 2 32 Tryz.underlying40 info68 rfl (by decide) (by decide) (w.heap.size+1) v done.length (encL encP done) rfl (ownsRow_fr A.out.2.2.1 (Fr.of_upd B.out.2.2) fun j hj q=>ownsRow_ne_it A.out.2.2.1 A.out.2.2.2.2.1 (by rw [hj,q])) #[.string key,.string s] w3.heap.size rfl rfl rfl (by simp [Value.oneCell']) hd (by omega) ?_))
     intro v' w4 ho' fg hne
     obtain ⟨ao',cap',rfl,_,_⟩:=own_slice ho'
     have C:=hid2 ho' fg
     have hnb:v.ownBlock≠some w.heap.size:=fun q=>by have:=(A.out.2.2.1.lt _ q).1;omega
     have d1:=CB.out.fr fg (fun q=>hnb q)
     have e0:=d1.cell 0 _ rfl
     have e1:=d1.free 0
     have el:=d1.lt
     clear ho' fg hne c0 c1 cl d1
     go_wp2_with fail
     obtain ⟨hk,hp,ho,hc,hit,f,hr,hs,_,he⟩:=A.out
     obtain ⟨k',hk',hPL⟩:=PL.step hk hp ho hc hit f hr hs he B.out.1 B.out.2.1 B.out.2.2 C.out.1 C.out.2
     go_roundg k'
     case measure=>exact hk'
     case rel=>exact hPL
end Go.Proofs.YtbafaadmlpamiaaGreatDoor
