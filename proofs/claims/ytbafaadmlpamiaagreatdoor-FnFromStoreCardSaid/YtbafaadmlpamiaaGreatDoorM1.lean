import Derived.Test.YtbafaadmlpamiaaGreatDoorA8
import Derived.Test.YtbafaadmlpamiaaGreatDoorT4
import Derived.Test.YtbafaadmlpamiaaGreatDoorC1
namespace Go.Proofs.YtbafaadmlpamiaaGreatDoor
open Go Go.Hy Go.RowKit
theorem find_idx {α:Type} (p:α→Bool):∀ l:List α,l.find? p=(l.findIdx? p).bind fun i=>l[i]?
 | []=>rfl
 | x :: l=>by
   rw [List.find?_cons,List.findIdx?_cons]
   cases h:p x with
   | true=>simp
   | false =>
     simp only [Bool.false_eq_true,if_false,find_idx p l]
     cases l.findIdx? p <;> simp
abbrev One {α:Type} (p:α→Bool) (l:List α):Prop:=l.Pairwise fun x y=>¬ (p x=true∧p y=true)
theorem filter_idx {α:Type} (p:α→Bool):∀ (l:List α) (i:Nat),l.findIdx? p=some i→One p l→(l.filter fun x => !p x)=l.take i ++ l.drop (i+1)
 | [],i,h,_=>by simp at h
 | x :: l,i,h,o=>by
   rw [List.findIdx?_cons] at h
   have o':=List.pairwise_cons.1 o
   cases e:p x with
   | true =>
     rw [e,if_pos rfl] at h
     cases h
     simp only [List.filter_cons,e,Bool.not_true,Bool.false_eq_true,if_false,List.take_zero,List.nil_append,List.drop_succ_cons,List.drop_zero]
     exact List.filter_eq_self.2 fun y hy=>by
       have:=o'.1 y hy
       cases q:p y
       · rfl
       · exact absurd ⟨e,q⟩ this
   | false =>
     rw [e] at h
     simp only [Bool.false_eq_true,if_false,Option.map_eq_some_iff] at h
     obtain ⟨j,hj,rfl⟩:=h
     simp only [List.filter_cons,e,Bool.not_false,if_true,filter_idx p l j hj o'.2,List.take_succ_cons,List.drop_succ_cons,List.cons_append]
theorem map_idx {α:Type} (p:α→Bool) (f:α→α):∀ (l:List α) (i:Nat) (x:α),l.findIdx? p=some i→l[i]? = some x→One p l→(l.map fun y=>if p y=true then f y else y)=l.set i (f x)
 | [],i,x,h,_,_=>by simp at h
 | y :: l,i,x,h,hx,o=>by
   rw [List.findIdx?_cons] at h
   have o':=List.pairwise_cons.1 o
   cases e:p y with
   | true =>
     rw [e,if_pos rfl] at h
     cases h
     simp only [List.getElem?_cons_zero,Option.some.injEq] at hx
     subst hx
     simp only [List.map_cons,e,if_true,List.set_cons_zero,List.cons.injEq,true_and]
     refine (List.map_congr_left fun z hz => ?_).trans (List.map_id l)
     have:=o'.1 z hz
     cases q:p z
     · rfl
     · exact absurd ⟨e,q⟩ this
   | false =>
     rw [e] at h
     simp only [Bool.false_eq_true,if_false,Option.map_eq_some_iff] at h
     obtain ⟨j,hj,rfl⟩:=h
     simp only [List.getElem?_cons_succ] at hx
     simp only [List.map_cons,e,Bool.false_eq_true,if_false,List.set_cons_succ,map_idx p f l j x hj hx o'.2]
def ptI (ps:List SP) (h:ByteArray):Option Nat:=ps.findIdx? fun p=>decide (p.h=h)
def lkI (dir:Bool) (ls:List SL) (a b:ByteArray):Option Nat:=ls.findIdx? fun l=>l.hit dir a b
def plc:Option Nat→Int
 | some i=>i
 | none => -1
theorem pt_ptI (s:St) (h:ByteArray):s.pt h=(ptI s.ps h).bind fun i=>s.ps[i]?:=find_idx _ _
theorem lk_lkI (s:St) (a b:ByteArray):s.lk a b=(lkI s.dir s.ls a b).bind fun i=>s.ls[i]?:=find_idx _ _
theorem ptI_lt {ps:List SP} {h:ByteArray} {i:Nat} (e:ptI ps h=some i):i < ps.length∧∃ p,ps[i]? = some p∧p.h=h:=by
 unfold ptI at e
 rw [List.findIdx?_eq_some_iff_getElem] at e
 obtain ⟨h1,h2,_⟩:=e
 exact ⟨h1,ps[i],List.getElem?_eq_getElem h1,of_decide_eq_true h2⟩
theorem lkI_lt {dir:Bool} {ls:List SL} {a b:ByteArray} {i:Nat} (e:lkI dir ls a b=some i):i < ls.length∧∃ l,ls[i]? = some l∧l.hit dir a b=true:=by
 unfold lkI at e
 rw [List.findIdx?_eq_some_iff_getElem] at e
 obtain ⟨h1,h2,_⟩:=e
 exact ⟨h1,ls[i],List.getElem?_eq_getElem h1,h2⟩
theorem ptI_none {ps:List SP} {h:ByteArray} (e:ptI ps h=none):∀ p∈ps,p.h≠h:=by
 unfold ptI at e
 rw [List.findIdx?_eq_none_iff] at e
 intro p hp
 exact of_decide_eq_false (e p hp)
structure Wf (s:St):Prop where
 nd:s.ps.Pairwise fun x y=>x.h≠y.h
 un:s.ls.Pairwise fun l m=>l.hit s.dir m.a m.b=false
 src:∀ l∈s.ls, ∃ p∈s.ps,p.h=l.a
 dst:∀ l∈s.ls, ∃ p∈s.ps,p.h=l.b
theorem wf_empty (s:St) (hs:s.ps = []) (hl:s.ls = []):Wf s:=by
 refine ⟨by rw [hs];exact List.Pairwise.nil,by rw [hl];exact List.Pairwise.nil,?_,?_⟩ <;> (rw [hl];intro l h;cases h)
theorem Wf.one {s:St} (h:Wf s) (x:ByteArray):One (fun p:SP=>decide (p.h=x)) s.ps :=
 h.nd.imp fun hpq hh=>hpq ((of_decide_eq_true hh.1).trans (of_decide_eq_true hh.2).symm)
theorem hit_two {dir:Bool} {l m:SL} {a b:ByteArray} (h1:l.hit dir a b=true) (h2:m.hit dir a b=true):l.hit dir m.a m.b=true:=by
 cases dir <;> simp only [SL.hit,Bool.not_true,Bool.not_false,Bool.false_and,Bool.true_and,Bool.or_false,Bool.or_eq_true,decide_eq_true_eq] at h1 h2 ⊢
 · rcases h1 with ⟨rfl,rfl⟩|⟨rfl,rfl⟩ <;> rcases h2 with ⟨h3,h4⟩|⟨h3,h4⟩ <;> simp [h3,h4]
 · exact ⟨h1.1.trans h2.1.symm,h1.2.trans h2.2.symm⟩
theorem Wf.oneL {s:St} (h:Wf s) (a b:ByteArray):One (fun l:SL=>l.hit s.dir a b) s.ls :=
 h.un.imp fun {l m} hlm hh=>by rw [hit_two hh.1 hh.2] at hlm;cases hlm
theorem hit_ends (dir:Bool) {l l' m m':SL} (h1:l'.a=l.a) (h2:l'.b=l.b) (h3:m'.a=m.a) (h4:m'.b=m.b):l'.hit dir m'.a m'.b=l.hit dir m.a m.b:=by
 unfold SL.hit
 rw [h1,h2,h3,h4]
theorem pt_mem {s:St} {h:ByteArray} {p:SP} (e:s.pt h=some p):p∈s.ps∧p.h=h:=by
 have h2:=List.find?_some e
 exact ⟨List.mem_of_find?_eq_some e,of_decide_eq_true h2⟩
theorem Wf.step {s:St} (h:Wf s) (d:DoIn):Wf (s.step d).2:=by
 unfold St.step
 split
 · unfold St.addV
   split
   · exact h
   · rename_i e
     have hn:∀ p∈s.ps,p.h≠hashM s.hk d.a:=fun p hp q=>by
       have:=List.find?_eq_none.1 e p hp
       simp [q] at this
     refine ⟨?_,h.un,?_,?_⟩
     · refine List.pairwise_append.2 ⟨h.nd,List.pairwise_singleton _ _,fun p hp q hq => ?_⟩
       simp only [List.mem_singleton] at hq
       subst hq
       exact hn p hp
     · intro l hl
       obtain ⟨p,hp,e⟩:=h.src l hl
       exact ⟨p,List.mem_append_left _ hp,e⟩
     · intro l hl
       obtain ⟨p,hp,e⟩:=h.dst l hl
       exact ⟨p,List.mem_append_left _ hp,e⟩
 · unfold St.rmV
   split
   · exact h
   · split
     · exact h
     · rename_i hany
       have hn:∀ l∈s.ls,l.a≠d.a∧l.b≠d.a:=by
         intro l hl
         simp only [List.any_eq_true,decide_eq_true_eq,not_exists,not_and,not_or] at hany
         exact hany l hl
       refine ⟨h.nd.filter _,h.un,?_,?_⟩
       · intro l hl
         obtain ⟨p,hp,e⟩:=h.src l hl
         exact ⟨p,List.mem_filter.2 ⟨hp,by simp [e,(hn l hl).1]⟩,e⟩
       · intro l hl
         obtain ⟨p,hp,e⟩:=h.dst l hl
         exact ⟨p,List.mem_filter.2 ⟨hp,by simp [e,(hn l hl).2]⟩,e⟩
 · unfold St.addE
   split
   · rename_i p q hp hq
     split
     · exact h
     · rename_i hl
       split
       · exact h
       · refine ⟨h.nd,?_,?_,?_⟩
         · refine List.pairwise_append.2 ⟨h.un,List.pairwise_singleton _ _,fun l hl' m hm => ?_⟩
           simp only [List.mem_singleton] at hm
           subst hm
           have:=List.find?_eq_none.1 hl l hl'
           simpa using this
         · intro l hl'
           rcases List.mem_append.1 hl' with z|z
           · exact h.src l z
           · simp only [List.mem_singleton] at z
             subst z
             exact ⟨p,(pt_mem hp).1,(pt_mem hp).2⟩
         · intro l hl'
           rcases List.mem_append.1 hl' with z|z
           · exact h.dst l z
           · simp only [List.mem_singleton] at z
             subst z
             exact ⟨q,(pt_mem hq).1,(pt_mem hq).2⟩
   · exact h
 · unfold St.rmE
   split
   · exact h
   · exact ⟨h.nd,h.un.filter _,(fun l hl=>h.src l (List.mem_filter.1 hl).1),fun l hl=>h.dst l (List.mem_filter.1 hl).1⟩
 · unfold St.updE
   split
   · exact h
   · have hab:∀ l:SL,(if l.hit s.dir d.a d.b=true then (⟨l.a,l.b,d.wt,byK (l.es ++ d.prs)⟩ : SL) else l).a=l.a∧(if l.hit s.dir d.a d.b=true then (⟨l.a,l.b,d.wt,byK (l.es ++ d.prs)⟩ : SL) else l).b=l.b:=by
       intro l
       split <;> exact ⟨rfl,rfl⟩
     refine ⟨h.nd,?_,?_,?_⟩
     · exact List.pairwise_map.2 (h.un.imp fun {l m} hlm=>(hit_ends s.dir (hab l).1 (hab l).2 (hab m).1 (hab m).2).trans hlm)
     · intro l hl
       obtain ⟨m,hm,rfl⟩:=List.mem_map.1 hl
       rw [(hab m).1]
       exact h.src m hm
     · intro l hl
       obtain ⟨m,hm,rfl⟩:=List.mem_map.1 hl
       rw [(hab m).2]
       exact h.dst m hm
 all_goals exact h
theorem addVS_no {s:St} {d:DoIn} (e:ptI s.ps (hashM s.hk d.a)=none):s.addV d=({}, { s with ps:=s.ps ++ [⟨hashM s.hk d.a,d.a,d.wt,byK d.prs⟩] }):=by
 unfold St.addV
 rw [pt_ptI,e]
 rfl
theorem addVS_old {s:St} {d:DoIn} {i:Nat} (e:ptI s.ps (hashM s.hk d.a)=some i):s.addV d=({ err:=1 },s):=by
 obtain ⟨_,p,hp,_⟩:=ptI_lt e
 unfold St.addV
 rw [pt_ptI,e]
 simp only [Option.bind_some,hp]
theorem rmVS_no {s:St} {d:DoIn} (e:ptI s.ps d.a=none):s.rmV d=({ err:=2 },s):=by
 unfold St.rmV
 rw [pt_ptI,e]
 rfl
theorem rmVS_touch {s:St} {d:DoIn} {i:Nat} (e:ptI s.ps d.a=some i) (h:∃ l∈s.ls,l.a=d.a∨l.b=d.a):s.rmV d=({ err:=3 },s):=by
 obtain ⟨_,p,hp,_⟩:=ptI_lt e
 unfold St.rmV
 rw [pt_ptI,e]
 simp only [Option.bind_some,hp]
 rw [if_pos]
 obtain ⟨l,hl,q⟩:=h
 exact List.any_eq_true.2 ⟨l,hl,decide_eq_true q⟩
theorem rmVS_yes {s:St} (hw:Wf s) {d:DoIn} {i:Nat} (e:ptI s.ps d.a=some i) (h:∀ l∈s.ls,¬ (l.a=d.a∨l.b=d.a)):s.rmV d=({}, { s with ps:=s.ps.take i ++ s.ps.drop (i+1) }):=by
 obtain ⟨_,p,hp,_⟩:=ptI_lt e
 have e':=filter_idx _ _ _ e (hw.one d.a)
 have hf:(s.ps.filter fun p=>decide (p.h≠d.a))=s.ps.filter fun p => !decide (p.h=d.a):=List.filter_congr fun x _=>by simp
 unfold St.rmV
 rw [pt_ptI,e]
 simp only [Option.bind_some,hp]
 rw [if_neg,hf,e']
 intro q
 obtain ⟨l,hl,z⟩:=List.any_eq_true.1 q
 exact h l hl (of_decide_eq_true z)
theorem addES_no {s:St} {d:DoIn} (e:ptI s.ps d.a=none∨ptI s.ps d.b=none):s.addE d=({ err:=2 },s):=by
 unfold St.addE
 rw [pt_ptI,pt_ptI]
 rcases e with e|e
 · rw [e];rfl
 · rw [e]
   cases (ptI s.ps d.a).bind fun i=>s.ps[i]? <;> rfl
theorem addES_old {s:St} {d:DoIn} {i j k:Nat} (e:ptI s.ps d.a=some i) (e':ptI s.ps d.b=some j) (el:lkI s.dir s.ls d.a d.b=some k):s.addE d=({ err:=4 },s):=by
 obtain ⟨_,p,hp,_⟩:=ptI_lt e
 obtain ⟨_,q,hq,_⟩:=ptI_lt e'
 obtain ⟨_,l,hl,_⟩:=lkI_lt el
 unfold St.addE
 rw [pt_ptI,pt_ptI,lk_lkI,e,e',el]
 simp only [Option.bind_some,hp,hq,hl]
theorem addES_new {s:St} {d:DoIn} {i j:Nat} (e:ptI s.ps d.a=some i) (e':ptI s.ps d.b=some j) (el:lkI s.dir s.ls d.a d.b=none) (hr:¬ (s.pr=true∧Reach s.ls d.b d.a)) :
   s.addE d=({}, { s with ls:=s.ls ++ [⟨d.a,d.b,d.wt,byK d.prs⟩] }):=by
 obtain ⟨_,p,hp,_⟩:=ptI_lt e
 obtain ⟨_,q,hq,_⟩:=ptI_lt e'
 unfold St.addE
 rw [pt_ptI,pt_ptI,lk_lkI,e,e',el]
 simp only [Option.bind_some,Option.bind_none,hp,hq,if_neg hr]
theorem addES_cyc {s:St} {d:DoIn} {i j:Nat} (e:ptI s.ps d.a=some i) (e':ptI s.ps d.b=some j) (el:lkI s.dir s.ls d.a d.b=none) (hr:s.pr=true∧Reach s.ls d.b d.a):s.addE d=({ err:=6 },s):=by
 obtain ⟨_,p,hp,_⟩:=ptI_lt e
 obtain ⟨_,q,hq,_⟩:=ptI_lt e'
 unfold St.addE
 rw [pt_ptI,pt_ptI,lk_lkI,e,e',el]
 simp only [Option.bind_some,Option.bind_none,hp,hq,if_pos hr]
theorem rmES_no {s:St} {d:DoIn} (e:lkI s.dir s.ls d.a d.b=none):s.rmE d=({ err:=5 },s):=by
 unfold St.rmE
 rw [lk_lkI,e]
 rfl
theorem rmES_yes {s:St} (hw:Wf s) {d:DoIn} {k:Nat} (e:lkI s.dir s.ls d.a d.b=some k):s.rmE d=({}, { s with ls:=s.ls.take k ++ s.ls.drop (k+1) }):=by
 obtain ⟨_,l,hl,_⟩:=lkI_lt e
 have e':=filter_idx _ _ _ e (hw.oneL d.a d.b)
 unfold St.rmE
 rw [lk_lkI,e]
 simp only [Option.bind_some,hl]
 rw [e']
theorem updES_no {s:St} {d:DoIn} (e:lkI s.dir s.ls d.a d.b=none):s.updE d=({ err:=5 },s):=by
 unfold St.updE
 rw [lk_lkI,e]
 rfl
theorem updES_yes {s:St} (hw:Wf s) {d:DoIn} {k:Nat} {l:SL} (e:lkI s.dir s.ls d.a d.b=some k) (hl:s.ls[k]? = some l) :
   s.updE d=({}, { s with ls:=s.ls.set k ⟨l.a,l.b,d.wt,byK (l.es ++ d.prs)⟩ }):=by
 have e':=map_idx _ (fun l:SL=>(⟨l.a,l.b,d.wt,byK (l.es ++ d.prs)⟩ : SL)) _ _ _ e hl (hw.oneL d.a d.b)
 unfold St.updE
 rw [lk_lkI,e]
 simp only [Option.bind_some,hl]
 rw [e']
theorem vtxS_no {s:St} {d:DoIn} (e:ptI s.ps d.a=none):s.vtx d={ err:=2 }:=by
 unfold St.vtx
 rw [pt_ptI,e]
 rfl
theorem vtxS_yes {s:St} {d:DoIn} {i:Nat} {p:SP} (e:ptI s.ps d.a=some i) (hp:s.ps[i]? = some p):s.vtx d={ value:=p.v,wt:=p.wt,pairs:=p.es }:=by
 unfold St.vtx
 rw [pt_ptI,e]
 simp only [Option.bind_some,hp]
theorem edgeS_no {s:St} {d:DoIn} (e:lkI s.dir s.ls d.a d.b=none):s.edge d={ err:=5 }:=by
 unfold St.edge
 rw [lk_lkI,e]
 rfl
theorem edgeS_yes {s:St} {d:DoIn} {i:Nat} {l:SL} (e:lkI s.dir s.ls d.a d.b=some i) (hl:s.ls[i]? = some l):s.edge d={ src:=s.value d.a,dst:=s.value d.b,wt:=l.wt,pairs:=l.es }:=by
 unfold St.edge
 rw [lk_lkI,e]
 simp only [Option.bind_some,hl]
theorem value_some {s:St} {h:ByteArray} {i:Nat} {p:SP} (e:ptI s.ps h=some i) (hp:s.ps[i]? = some p):s.value h=p.v:=by
 unfold St.value
 rw [pt_ptI,e]
 simp only [Option.bind_some,hp,Option.map_some,Option.getD_some]
theorem Wf.ends {s:St} (hw:Wf s) {a b:ByteArray} {k:Nat} (e:lkI s.dir s.ls a b=some k):(∃ i,ptI s.ps a=some i)∧∃ j,ptI s.ps b=some j:=by
 obtain ⟨_,l,hl,hh⟩:=lkI_lt e
 have hm:=List.mem_of_getElem? hl
 have key:∀ x:ByteArray,(∃ p∈s.ps,p.h=x)→∃ i,ptI s.ps x=some i:=by
   rintro x ⟨p,hp,rfl⟩
   cases q:ptI s.ps p.h with
   | some i=>exact ⟨i,rfl⟩
   | none=>exact absurd rfl (ptI_none q p hp)
 have h1:=key _ (hw.src l hm)
 have h2:=key _ (hw.dst l hm)
 unfold SL.hit at hh
 simp only [Bool.or_eq_true,Bool.and_eq_true,decide_eq_true_eq] at hh
 rcases hh with ⟨rfl,rfl⟩|⟨_,rfl,rfl⟩
 · exact ⟨h1,h2⟩
 · exact ⟨h2,h1⟩
def keyS (s:SL):ByteArray × ByteArray:=(s.a,s.b)
def NoLoop (s:St):Prop:=s.dir=false→∀ l∈s.ls,l.a≠l.b
theorem NoLoop.step {s:St} (h:NoLoop s) (d:DoIn) (hd:d.op=2→s.dir=false→d.a≠d.b):NoLoop (s.step d).2:=by
 unfold St.step
 split
 · unfold St.addV;split <;> exact h
 · unfold St.rmV
   split
   · exact h
   · split <;> exact h
 · rename_i hop
   unfold St.addE
   split
   · split
     · exact h
     · split
       · exact h
       · intro hdir l hl
         rcases List.mem_append.1 hl with z|z
         · exact h hdir l z
         · simp only [List.mem_singleton] at z
           subst z
           exact hd hop hdir
   · exact h
 · unfold St.rmE
   split
   · exact h
   · exact fun hdir l hl=>h hdir l (List.mem_filter.1 hl).1
 · unfold St.updE
   split
   · exact h
   · intro hdir l hl
     obtain ⟨m,hm,rfl⟩:=List.mem_map.1 hl
     have:=h hdir m hm
     split <;> exact this
 all_goals exact h
theorem hit_not {dir:Bool} {l:SL} {a b:ByteArray} (h:l.hit dir a b=false):¬ (l.a=a∧l.b=b)∧(dir=false→¬ (l.a=b∧l.b=a)):=by
 unfold SL.hit at h
 simp only [Bool.or_eq_false_iff,decide_eq_false_iff_not] at h
 exact ⟨h.1,fun q=>by have:=h.2;rw [q] at this;simpa using this⟩
theorem both_keys {s:St} (hw:Wf s) (hl:NoLoop s) (t:Bool):((s.both t).map keyS).Nodup:=by
 obtain ⟨dir,pr,hk,ps,ls⟩:=s
 have hu:=hw.un
 have hn:=hl
 unfold NoLoop at hn
 simp only at hu hn
 clear hw hl
 unfold St.both
 simp only
 induction ls with
 | nil=>simp
 | cons l ls ih =>
   obtain ⟨h1,h2⟩:=List.pairwise_cons.1 hu
   have ih:=ih h2 (fun hd m hm=>hn hd m (List.mem_cons_of_mem _ hm))
   have hne:=fun hd=>hn hd l (by simp)
   simp only [List.flatMap_cons,List.map_append]
   refine List.nodup_append.2 ⟨?_,by simpa [List.map_append] using ih,?_⟩
   · cases dir with
     | true=>cases t <;> simp
     | false =>
       have:=hne rfl
       cases t <;> simp [keyS,SL.turn,this]
   · intro x hx y hy e
     subst e
     have hx':x=(l.a,l.b)∨x=(l.b,l.a)∧(t=true∨dir=false):=by
       cases dir <;> cases t <;> simp_all [keyS,SL.turn]
     have hxt:dir=true→t=true→x=(l.b,l.a):=by
       rintro rfl rfl
       simp_all [keyS,SL.turn]
     simp only [List.mem_map,List.mem_flatMap] at hy
     obtain ⟨z,⟨m,hm,hz⟩,rfl⟩:=hy
     have hh:=hit_not (h1 m hm)
     have hz':(keyS z=(m.a,m.b)∧¬ (dir=true∧t=true))∨(keyS z=(m.b,m.a)∧(t=true∨dir=false)):=by
       cases dir <;> cases t <;> simp_all [keyS,SL.turn]
       all_goals rcases hz with rfl|rfl <;> simp
     cases dir with
     | true =>
       cases t with
       | true =>
         have e1:=hxt rfl rfl
         rcases hz' with ⟨_,q⟩|⟨e2,_⟩
         · exact absurd ⟨rfl,rfl⟩ q
         · rw [e1,Prod.mk.injEq] at e2
           exact hh.1 ⟨e2.2,e2.1⟩
       | false =>
         rcases hx' with e1|⟨_,q⟩
         · rcases hz' with ⟨e2,_⟩|⟨_,q⟩
           · rw [e1,Prod.mk.injEq] at e2
             exact hh.1 e2
           · simp at q
         · simp at q
     | false =>
       have h3:=hh.2 rfl
       rcases hx' with e1|⟨e1,_⟩ <;> rcases hz' with ⟨e2,_⟩|⟨e2,_⟩ <;> rw [e1,Prod.mk.injEq] at e2
       · exact hh.1 e2
       · exact h3 e2
       · exact h3 ⟨e2.2,e2.1⟩
       · exact hh.1 ⟨e2.2,e2.1⟩
theorem low_cases (dir:Bool) (l:SL):l.low dir=l∨(dir=false∧l.low dir=l.turn):=by
 unfold SL.low
 split
 · rename_i h
   simp only [Bool.and_eq_true,Bool.not_eq_true'] at h
   exact .inr ⟨h.1,rfl⟩
 · exact .inl rfl
theorem low_keysS {s:St} (hw:Wf s):((s.ls.map (SL.low s.dir)).map keyS).Nodup:=by
 rw [List.map_map,List.nodup_iff_pairwise_ne]
 refine List.pairwise_map.2 (hw.un.imp fun {l m} hh e => ?_)
 have hh:=hit_not hh
 simp only [Function.comp_apply] at e
 rcases low_cases s.dir l with e1|⟨d1,e1⟩ <;> rcases low_cases s.dir m with e2|⟨d2,e2⟩ <;> rw [e1,e2] at e <;> simp only [keyS,SL.turn,Prod.mk.injEq] at e
 · exact hh.1 e
 · exact hh.2 d2 e
 · exact hh.2 d1 ⟨e.2,e.1⟩
 · exact hh.1 ⟨e.2,e.1⟩
theorem sortL_permS (l:List SL):(sortL l).Perm l:=List.mergeSort_perm _ _
structure Brief (t:Tl):Prop where
 prs:t.pairs.length≤100000
 keys:t.keys.length≤400000
 lks:t.links.length≤400000
 les:∀ l∈t.links,l.es.length≤100000
theorem low_es (dir:Bool) (l:SL):(l.low dir).es=l.es:=by
 unfold SL.low SL.turn
 split <;> rfl
theorem flatMap_le {α β:Type} (f:α→List β) (m:Nat):∀ l:List α,(∀ x∈l,(f x).length≤m)→(l.flatMap f).length≤l.length * m
 | [],_=>by simp
 | u :: us,h=>by
   have h1:=h u (by simp)
   have h2:=flatMap_le f m us fun x hx=>h x (by simp [hx])
   rw [List.flatMap_cons,List.length_append,List.length_cons,Nat.add_mul]
   omega
theorem both_len (s:St) (back:Bool):(s.both back).length≤s.ls.length * 2:=by
 unfold St.both
 refine flatMap_le _ 2 _ fun x _ => ?_
 rw [List.length_append]
 have h1:(if (!back || !s.dir)=true then [x] else []).length≤1:=by split <;> simp
 have h2:(if (back || !s.dir)=true then [x.turn] else []).length≤1:=by split <;> simp
 omega
theorem both_es (s:St) (back:Bool) {l:SL} (h:l∈s.both back):∃ m∈s.ls,l.es=m.es:=by
 unfold St.both at h
 obtain ⟨m,hm,h⟩:=List.mem_flatMap.1 h
 refine ⟨m,hm,?_⟩
 rcases List.mem_append.1 h with h|h
 · split at h
   · simp only [List.mem_singleton] at h;rw [h]
   · cases h
 · split at h
   · simp only [List.mem_singleton] at h;rw [h];rfl
   · cases h
theorem Bnd.brief {i:Nat} {s:St} (h:Bnd 4 i s) (hi:i≤1000) (d:DoIn):Brief (s.step d).1:=by
 obtain ⟨h1,h2,h3,h4⟩:=h
 have e4:i * 4≤4000:=by omega
 have nil:∀ c:Nat,Brief { err:=c }:=fun c=>⟨by simp,by simp,by simp,fun l hl=>by cases hl⟩
 have nil':Brief {}:=nil 0
 unfold St.step
 split
 · unfold St.addV
   split
   · exact nil 1
   · exact nil'
 · unfold St.rmV
   split
   · exact nil 2
   · split
     · exact nil 3
     · exact nil'
 · unfold St.addE
   split
   · split
     · exact nil 4
     · split
       · exact nil 6
       · exact nil'
   · exact nil 2
 · unfold St.rmE
   split
   · exact nil 5
   · exact nil'
 · unfold St.updE
   split
   · exact nil 5
   · exact nil'
 · unfold St.vtx
   split
   · exact nil 2
   · rename_i p hp
     have:=h3 p (pt_mem hp).1
     exact ⟨by show p.es.length≤_;omega,by simp,by simp,fun l hl=>by cases hl⟩
 · unfold St.edge
   split
   · exact nil 5
   · rename_i l hl
     have:=h4 l (List.mem_of_find?_eq_some hl)
     exact ⟨by show l.es.length≤_;omega,by simp,by simp,fun l hl=>by cases hl⟩
 · exact ⟨by simp,by simp,by simp,fun l hl=>by cases hl⟩
 · refine ⟨by simp,by simp,?_,fun l hl => ?_⟩
   · show (sortL _).length≤_
     unfold sortL
     rw [List.length_mergeSort,List.length_map]
     omega
   · have hl':l∈sortL (s.ls.map (SL.low s.dir)):=hl
     unfold sortL at hl'
     rw [List.mem_mergeSort] at hl'
     obtain ⟨m,hm,rfl⟩:=List.mem_map.1 hl'
     rw [low_es]
     have:=h4 m hm
     omega
 · refine ⟨by simp,?_,?_,fun l hl => ?_⟩
   · show (sortK _).length≤_
     unfold sortK St.keys
     rw [List.length_mergeSort,List.length_map]
     omega
   · show (sortL _).length≤_
     unfold sortL
     rw [List.length_mergeSort]
     have:=both_len s false
     omega
   · have hl':l∈sortL (s.both false):=hl
     unfold sortL at hl'
     rw [List.mem_mergeSort] at hl'
     obtain ⟨m,hm,e⟩:=both_es s false hl'
     rw [e]
     have:=h4 m hm
     omega
 · refine ⟨by simp,?_,?_,fun l hl => ?_⟩
   · show (sortK _).length≤_
     unfold sortK St.keys
     rw [List.length_mergeSort,List.length_map]
     omega
   · show (sortL _).length≤_
     unfold sortL
     rw [List.length_mergeSort]
     have:=both_len s true
     omega
   · have hl':l∈sortL (s.both true):=hl
     unfold sortL at hl'
     rw [List.mem_mergeSort] at hl'
     obtain ⟨m,hm,e⟩:=both_es s true hl'
     rw [e]
     have:=h4 m hm
     omega
 · exact nil'
end Go.Proofs.YtbafaadmlpamiaaGreatDoor
