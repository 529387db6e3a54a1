import Derived.Test.YtbafaadmlpamiaaGreatDoorK2
import Derived.Test.YtbafaadmlpamiaaGreatDoorC1
import Derived.Test.YtbafaadmlpamiaaGreatDoorE3
namespace Go.Proofs.YtbafaadmlpamiaaGreatDoor
open Go Go.Hy Go.RowKit
def ask9:DoIn:=⟨9,⟨#[]⟩,⟨#[]⟩,0,[]⟩
def ask5 (k:ByteArray):DoIn:=⟨5,k,⟨#[]⟩,0,[]⟩
noncomputable def tells (s:St):List Tl:=(s.step ask9).1 :: (sortK s.keys).map fun k=>(s.step (ask5 k)).1
theorem tells_len (s:St):(tells s).length=(sortK s.keys).length+1:=by unfold tells;simp
theorem tells_at {s:St} {i:Nat} {k:ByteArray} (h:(sortK s.keys)[i]? = some k):(tells s)[i+1]? = some (s.step (ask5 k)).1:=by
 unfold tells
 rw [List.getElem?_cons_succ,List.getElem?_map,h]
 rfl
structure TR (w:World) (G0:GS) (s:St) (ts:List Tl) (i:Nat) (v:Value) (G:GS) (vs:List Value) (wr:World):Prop where
 step:GStep w G0 wr G
 st:G.st=s
 vsl:vs.length=i
 row:wr.ownsRow w.heap.size 44 10 v i (encL cellsT vs)
 apart:∀ q,v.ownBlock=some q→q∉G.own
 told:∀ (j:Nat) u t,vs[j]? = some u→ts[j]? = some t→ToldIn wr (fun q=>w.heap.size≤q∧q∉G.own∧v.ownBlock≠some q) u t
theorem TR.next {w wr wa w2 w4:World} {s:St} {ts:List Tl} {i:Nat} {v v' u:Value} {G0 G G':GS} {vs:List Value} {t:Tl} (h:TR w G0 s ts i v G vs wr) (h0:GRep w G0) (hti:ts[i]? = some t)
   (fa:Fr0 wr wa) (hs:G'.st=s) (ht:ToldIn w2 (fun q=>wa.heap.size≤q∧q∉G'.own) u t) (g:GStep wa G w2 G')
   (cs:List Value) (hcs:cs=cellsT u) (ho:w4.ownsRow w.heap.size 44 10 v' (i+1) (encL cellsT vs ++ cs)) (fg:Fr (fun k=>v.ownBlock=some k) w2 w4) (hat:v'.ownBlock=v.ownBlock∨v'.ownBlock=some (w2.heap.size+1)) :
   TR w G0 s ts (i+1) v' G' (vs ++ [u]) w4:=by
 have z1:=fa.size
 have z2:=g.fr.size
 have z3:=fg.size
 have z0:=h.step.fr.size
 have hvl:∀ q,v.ownBlock=some q→w.heap.size≤q∧q < wr.heap.size:=fun q hq=>h.row.lt q hq
 have hvg:∀ q,v.ownBlock=some q→q∉G'.own:=fun q hq hm=>by
   rcases g.own q hm with r|r
   · exact h.apart q hq r
   · have:=(hvl q hq).2;omega
 have hsame:=same_tr h.step.same g.same
 have hkb:G'.kB=G0.kB:=hsame.2.2.2.1
 have hkl:=h0.kl
 refine ⟨⟨g.rep.fr fg (fun b hb q=>hvg b q hb) (fun q=>by have:=(hvl _ q).1;rw [hkb] at this;omega),?_,?_,hsame⟩,hs,by simp [h.vsl],?_,?_,?_⟩
 · exact ((h.step.fr.trans0 fa).trans g.fr fun q hq=>h.step.own q hq).trans fg fun q hq=>.inr (hvl q hq).1
 · intro b hb
   rcases g.own b hb with r|r
   · exact h.step.own b r
   · exact .inr (by omega)
 · have e1:encL cellsT (vs ++ [u])=encL cellsT vs ++ cs:=by simp [encL,hcs]
   rw [e1]
   exact ho
 · intro q hq hm
   rcases hat with r|r
   · exact hvg q (r▸hq) hm
   · rw [r] at hq
     have:=g.rep.lt q hm
     have:=Option.some.inj hq
     omega
 · intro j x t' hj hr
   by_cases hji:j < i
   · rw [List.getElem?_append_left (by rw [h.vsl];exact hji)] at hj
     have h0:=h.told j x t' hj hr
     have h1:ToldIn wr (fun q=>(w.heap.size≤q∧q∉G'.own∧v'.ownBlock≠some q)∧q∉G.own∧v.ownBlock≠some q) x t':=h0.imp fun q hq hl=>⟨⟨hq.1,fun hm=>by
         rcases g.own q hm with r|r
         · exact hq.2.1 r
         · omega,fun r=>by
         rcases hat with z|z
         · exact hq.2.2 (z▸r)
         · rw [z] at r;have:=Option.some.inj r;omega⟩,hq.2.1,hq.2.2⟩
     exact (((h1.fr fa fun _ _ _ q=>q).fr g.fr fun q hq _ r=>hq.2.1 r).fr fg fun q hq _ r=>hq.2.2 r).imp fun q hq _=>hq.1
   · have hjl:j < (vs ++ [u]).length:=(List.getElem?_eq_some_iff.1 hj).1
     have hj':j=i:=by simp [h.vsl] at hjl;omega
     subst hj'
     rw [List.getElem?_append_right (by rw [h.vsl];exact Nat.le_refl _),h.vsl] at hj
     rw [hti] at hr
     simp only [Nat.sub_self,List.getElem?_cons_zero,Option.some.injEq] at hj hr
     subst hj hr
     have h2:ToldIn w2 (fun q=>(w.heap.size≤q∧q∉G'.own∧v'.ownBlock≠some q)∧wa.heap.size≤q) u t:=ht.imp fun q hq hl=>⟨⟨by have:=hq.1;omega,hq.2,fun r=>by
         have:=hq.1
         rcases hat with z|z
         · have:=(hvl q (z▸r)).2;omega
         · rw [z] at r;have:=Option.some.inj r;omega⟩,hq.1⟩
     exact (h2.fr fg fun q hq _ r=>by have:=(hvl q r).2;have:=hq.2;omega).imp fun q hq _=>hq.1
theorem told_agg {w:World} {p:Nat→Prop} {u:Value} {t:Tl} (h:ToldIn w p u t):∃ (c0:Nat) (c1 c2 c3:ByteArray) (c4:Int) (c5 c6:Nat) (p1:Option Addr) (p2 p3:Nat) (p4:Option Addr) (p5 p6:Nat) (p7:Option Addr) (p8 p9:Nat),
   u=.agg #[.int .u8 c0,.string c1,.string c2,.string c3,.int .i64 c4,.int .i64 c5,.int .i64 c6,.slice p1 p2 p3,.slice p4 p5 p6,.slice p7 p8 p9]:=by
 obtain ⟨pv,kv,lv,rfl,⟨⟨x1,x2,rfl,_⟩,_⟩,⟨⟨y1,y2,rfl,_⟩,_⟩,⟨_,_,⟨z1,z2,rfl,_⟩,_⟩⟩:=h
 exact ⟨_,_,_,_,_,_,_,_,_,_,_,_,_,_,_,_,rfl⟩
theorem told_keys {w:World} {p:Nat→Prop} {t:Tl} {c0:Nat} {c1 c2 c3:ByteArray} {c4:Int} {c5 c6:Nat} {p1:Option Addr} {p2 p3:Nat} {p4:Option Addr} {p5 p6:Nat} {p7:Option Addr} {p8 p9:Nat}
   (h:ToldIn w p (.agg #[.int .u8 c0,.string c1,.string c2,.string c3,.int .i64 c4,.int .i64 c5,.int .i64 c6,.slice p1 p2 p3,.slice p4 p5 p6,.slice p7 p8 p9]) t):KeysIn w p (.slice p4 p5 p6) t.keys:=by
 obtain ⟨pv,kv,lv,e, -,hk, -⟩:=h
 have e2:=congrArg cellsT e
 simp [cellsT] at e2
 rw [e2.2.2.2.2.2.2.2.2.1]
 exact hk
theorem own_one {w:World} {base B:Nat} {cs:Array Value} {t:TypeId} {size:Nat} (h:w.heap[B]? = some (.cells cs t (0,0))) (hc:cs.size=size) (hb:base≤B):w.ownsRow base t size (.slice (some ⟨B,0,none⟩) 1 1) 1 cs.toList :=
 ⟨by simp [hc],.inr ⟨B,1,cs,rfl,hb,h,Nat.le_refl _,by decide,by omega,by rw [Nat.one_mul,← hc];exact List.take_length⟩⟩
theorem prOk0 (w:World):PrOk w none 0 0 []:=⟨rfl,Nat.le_refl _,by decide,fun i p h=>by simp at h⟩
set_option linter.unusedSimpArgs false in
set_option maxRecDepth 100000 in
set_option maxHeartbeats 4000000 in
theorem tell74 (w:World) (G:GS) (b0 b1 b2 b3 b4 b5:Bool) (hk kb:Nat) (h:GRep w G) (HC:HashC G.hk) (EB:Nat) (eb:Nat→Addr) (E:ErrsOk w EB eb) (hB:∀ k∈G.own,EB≤k) (hkb:Cells w kb #[.bool b0,.bool b1,.bool b2,.bool b3,.bool b4,.bool b5,.int .u8 hk] 37) (hkn:kb∉G.own)
   (H9:StepC EB eb G.st ask9) (H5:∀ k,StepC EB eb G.st (ask5 k)) (hsz:(sortK G.st.keys).length≤100000) :
   Calls Tryz.prog 74 #[G.val,.pointer (some ⟨kb,0,none⟩)] w fun e w'=>∃ v G' vs,e=.returned v∧TR w G G.st (tells G.st) (tells G.st).length v G' vs w':=by
 have H:=hid5 h HC E hB hkn
 have HS:=hid2 H9 H5
 have KB:=Lib.hid hkb
 have c9:=Lib.hid (H9 w G b0 b1 b2 b3 b4 b5 hk none 0 0 h rfl HC E hB (prOk0 w))
 obtain ⟨gv,hgv⟩ : ∃ gv,gv=G.val:=⟨_,rfl⟩
 have GV:=Lib.hid hgv
 rw [← hgv] at c9 ⊢
 clear h HC E hB hkb hkn H9 H5 hgv
 (have k0:=KB.out.cell 0 _ rfl;have k1:=KB.out.cell 1 _ rfl;have k2:=KB.out.cell 2 _ rfl;have k3:=KB.out.cell 3 _ rfl;have k4:=KB.out.cell 4 _ rfl;have k5:=KB.out.cell 5 _ rfl;have k6:=KB.out.cell 6 _ rfl)
 have kl:=KB.out.lt
 go_enter Tryz.func74,Tryz.ntmps74
 go_wp2_with fail
 refine c9.out.mono ?_
 rintro e w2 ⟨u,G1,rfl,hT,hst,g⟩
 obtain ⟨c0,c1,c2,c3,c4,c5,c6,p1,p2,p3,p4,p5,p6,p7,p8,p9,rfl⟩:=told_agg hT
 have A1:=hid3 hT (show G1.st=G.st from hst) g
 obtain ⟨ks,hks⟩ : ∃ ks,ks=sortK G.st.keys:=⟨_,rfl⟩
 have hK9:KeysIn w2 (fun q=>w.heap.size≤q∧q∉G1.own) (.slice p4 p5 p6) ks:=by rw [hks];exact told_keys hT
 have e2:p5=ks.length:=by
   obtain ⟨⟨_,_,e9, -, -⟩, -⟩:=hK9
   exact (Value.slice.inj e9).2.1
 subst e2
 have KS:=Lib.hid hks
 have KL:=Lib.hid (show ks.length≤100000 from by rw [hks];exact hsz)
 clear hst g hT hK9 hks c9 k0 k1 k2 k3 k4 k5 k6 kl
 go_wp2_with fail
 go_loopg [5,17] ks.length (fun k v5 c wr=>∃ i G' vs,k+i=ks.length∧c=.int .i64 (i:Nat)∧TR w G G.st (tells G.st) (i+1) v5 G' vs wr∧vs[0]? = some (.agg #[.int .u8 c0,.string c1,.string c2,.string c3,.int .i64 c4,.int .i64 c5,.int .i64 c6,.slice p1 p2 p3,.slice p4 ks.length p6,.slice p7 p8 p9]))
 case atStart =>
   refine ⟨0,G1,[.agg #[.int .u8 c0,.string c1,.string c2,.string c3,.int .i64 c4,.int .i64 c5,.int .i64 c6,.slice p1 p2 p3,.slice p4 ks.length p6,.slice p7 p8 p9]],rfl,rfl,?_,rfl⟩
   have f2:Fr0 w2 ((w2.alloc (.cells #[.int .u8 c0,.string c1,.string c2,.string c3,.int .i64 c4,.int .i64 c5,.int .i64 c6,.slice p1 p2 p3,.slice p4 ks.length p6,.slice p7 p8 p9] 44)).alloc (.cells #[.int .u8 c0,.string c1,.string c2,.string c3,.int .i64 c4,.int .i64 c5,.int .i64 c6,.slice p1 p2 p3,.slice p4 ks.length p6,.slice p7 p8 p9] 44)):=((Fr.refl _ _).alloc _).alloc _
   have z:=A1.out.2.2.fr.size
   have hz:(w2.alloc (.cells #[.int .u8 c0,.string c1,.string c2,.string c3,.int .i64 c4,.int .i64 c5,.int .i64 c6,.slice p1 p2 p3,.slice p4 ks.length p6,.slice p7 p8 p9] 44)).heap.size=w2.heap.size+1:=by simp
   refine ⟨⟨A1.out.2.2.rep.fr f2 (fun _ _ q=>q) (fun q=>q),A1.out.2.2.fr.trans0 f2,A1.out.2.2.own,A1.out.2.2.same⟩,A1.out.2.1,rfl,?_,?_,?_⟩
   · have hh:=heap_alloc_new (w2.alloc (.cells #[.int .u8 c0,.string c1,.string c2,.string c3,.int .i64 c4,.int .i64 c5,.int .i64 c6,.slice p1 p2 p3,.slice p4 ks.length p6,.slice p7 p8 p9] 44)) (.cells #[.int .u8 c0,.string c1,.string c2,.string c3,.int .i64 c4,.int .i64 c5,.int .i64 c6,.slice p1 p2 p3,.slice p4 ks.length p6,.slice p7 p8 p9] 44)
     rw [hz] at hh
     exact own_one (base:=w.heap.size) (size:=10) hh rfl (by omega)
   · intro q hq hm
     have:=A1.out.2.2.rep.lt q hm
     have e:w2.heap.size+1=q:=Option.some.inj hq
     omega
   · intro j u t hj ht
     cases j with
     | succ j=>simp at hj
     | zero =>
       simp only [List.getElem?_cons_zero,Option.some.injEq] at hj
       subst hj
       have ht':t=(G.st.step ask9).1:=by unfold tells at ht;simpa using ht.symm
       subst ht'
       exact ((A1.out.1.imp (p':=fun q=>(w.heap.size≤q∧q∉G1.own)∧q < w2.heap.size) fun q h1 h2=>⟨h1,h2⟩).fr f2 fun _ _ _ q=>q).imp fun q h1 _=>⟨h1.1.1,h1.1.2,fun e=>by have e:w2.heap.size+1=q:=Option.some.inj e;have:=h1.2;omega⟩
 case round =>
   obtain ⟨i,Gi,vs,hki,rfl,R,hv0⟩:=hrel
   have A:=hid3 hki R hv0
   clear hki R hv0
   by_cases hi:i < ks.length
   · have hg:=List.getElem?_eq_getElem hi
     have hKI:KeysIn wr (fun q=>w.heap.size≤q∧q∉Gi.own∧u5.ownBlock≠some q) (.slice p4 ks.length p6) ks:=by have z:=told_keys (A.out.2.1.told 0 _ (G.st.step ask9).1 A.out.2.2 rfl);rw [show (G.st.step ask9).1.keys=sortK G.st.keys from rfl,← KS.out] at z;exact z
     obtain ⟨⟨_,_,e', -,hr⟩, -⟩:=hKI
     cases e'
     obtain ⟨ob,rfl,hob,kc⟩:=hr i (.string ks[i]) (by rw [List.getElem?_map,hg];rfl)
     generalize ks[i]=key at kc hg
     have HG:=Lib.hid (show (tells G.st)[i+1]? = some (G.st.step (ask5 key)).1 from tells_at (by rw [← KS.out];exact hg))
     have KBW:=Lib.hid (KB.out.fr A.out.2.1.step.fr H.out.2.2.2.2)
     have hgv:Gi.val=gv:=by rw [GV.out];unfold GS.val;rw [A.out.2.1.step.same.1,A.out.2.1.step.same.2.2.2.2.2.1]
     have C5:=Lib.hid (HS.out.2 key wr Gi b0 b1 b2 b3 b4 b5 hk none 0 0 A.out.2.1.step.rep A.out.2.1.st (by rw [A.out.2.1.step.same.2.2.2.2.1];exact H.out.2.1) (H.out.2.2.1.fr A.out.2.1.step.fr H.out.2.2.2.1) (fun k hkk=>(A.out.2.1.step.own k hkk).elim (fun q=>H.out.2.2.2.1 k q) (fun q=>Nat.le_trans H.out.2.2.1.size q)) (prOk0 wr))
     rw [hgv] at C5
     clear hgv hg hr
     (have k0:=KBW.out.cell 0 _ rfl;have k1:=KBW.out.cell 1 _ rfl;have k2:=KBW.out.cell 2 _ rfl;have k3:=KBW.out.cell 3 _ rfl;have k4:=KBW.out.cell 4 _ rfl;have k5:=KBW.out.cell 5 _ rfl;have k6:=KBW.out.cell 6 _ rfl)
     have kl:=KBW.out.lt
     go_wp2_with fail
     refine C5.out.mono ?_
     rintro e w3 ⟨u,G',rfl,hT,hst,g⟩
     obtain ⟨d0,d1,d2,d3,d4,d5,d6,r1,r2,r3,r4,r5,r6,r7,r8,r9,rfl⟩:=told_agg hT
     have Z:=hid3 hT (show G'.st=G.st from hst) g
     have R3:=Lib.hid (show w3.ownsRow w.heap.size 44 10 u5 (i+1) (encL cellsT vs) from ownsRow_fr A.out.2.1.row g.fr fun q hq=>A.out.2.1.apart q hq)
     have SZ:=Lib.hid (Nat.le_trans A.out.2.1.step.fr.size g.fr.size)
     clear hT hst g kc hob k0 k1 k2 k3 k4 k5 k6 kl C5
     go_wp2_with (first
       | (at_builtin;go_loud (refine wl_app3 (w:=w3) 34 rfl (.tmp 21) (.tmp 27) rfl 44 _ 10 152 Tryz.underlying34 info44 rfl (by decide) (by decide) w.heap.size u5 (i+1) (encL cellsT vs) rfl R3.out #[.int .u8 d0,.string d1,.string d2,.string d3,.int .i64 d4,.int .i64 d5,.int .i64 d6,.slice r1 r2 r3,.slice r4 r5 r6,.slice r7 r8 r9] w3.heap.size rfl rfl rfl (by simp [Value.oneCell']) (by have:=KL.out;omega) SZ.out ?_)))
     intro v' w4 ho fg hat
     obtain ⟨ao',cap',rfl,_,_⟩:=own_slice ho
     have W:=hid3 ho fg hat
     clear ho fg hat
     go_wp2_with fail
     go_roundg (gk - 1)
     case measure=>have:=A.out.1;omega
     case rel =>
       refine ⟨i+1,G',vs ++ [_],by have:=A.out.1;omega,by simp [w64p (Nat.le_trans KL.out (by decide)) hi],A.out.2.1.next H.out.1 HG.out (Fr.refl _ _) Z.out.2.1 Z.out.1 Z.out.2.2 _ rfl W.out.1 W.out.2.1 W.out.2.2,?_⟩
       have h1:=A.out.2.2
       rw [List.getElem?_append_left (List.getElem?_eq_some_iff.1 h1).1]
       exact h1
   · have hi':i=ks.length:=by have:=A.out.1;omega
     subst hi'
     have hTL:(tells G.st).length=ks.length+1:=by rw [tells_len,KS.out]
     go_wp2_with fail
     go_ret
     exact ⟨_,Gi,vs,rfl,by rw [hTL];exact A.out.2.1⟩
theorem eqv_tells {s s':St} (h:Eqv s s') (hw:Wf s) (hl:NoLoop s):tells s'=tells s:=by
 have h9:=h.told9 hw hl
 have hk:sortK s'.keys=sortK s.keys:=congrArg Tl.keys h9
 unfold tells
 rw [hk]
 refine congr (congrArg List.cons h9) (List.map_congr_left fun k _ => ?_)
 exact h.told5 hw k
theorem Eqv.bnd {s s':St} (h:Eqv s s') {m i:Nat} (hb:Bnd m i s):Bnd m i s':=by
 have hl:=h.ls.length_eq
 simp only [List.length_map] at hl
 refine ⟨by rw [h.ps.length_eq];exact hb.ps,by rw [hl];exact hb.ls,fun p hp=>hb.pe p (h.ps.subset hp),fun l hm => ?_⟩
 obtain ⟨x,hx,e⟩:=List.mem_map.1 (h.ls.subset (List.mem_map.2 ⟨l,hm,rfl⟩))
 have es:∀ l:SL,(SL.low s.dir l).es=l.es:=fun l=>by rcases low_cases s.dir l with e|⟨_,e⟩ <;> rw [e];rfl
 have:=hb.le x hx
 rw [← es l,← e,es x]
 exact this
theorem steps_ok (EB:Nat) (eb:Nat→Addr) {n:Nat} (s:St) (ds:List DoIn) (hb:Bnd 4 n s) (hn:n+ds.length≤1000) (hpr:s.pr=false) (hf:∀ d∈ds,Fit s.dir s.hk d) (i:Nat) (d:DoIn) (hi:ds[i]? = some d):StepC EB eb (s.after (ds.take i)) d:=by
 obtain ⟨s1,s2,s3⟩:=after_same s (ds.take i)
 have hb2:=hb.after (ds.take i) fun x hx=>(hf x (List.mem_of_mem_take hx)).prs
 refine fit_stepC EB eb _ d (hb2.small (by simp only [List.length_take];omega) (by decide)) (by rw [s2];exact hpr) ?_
 rw [s1,s3]
 exact hf d (List.mem_of_getElem? hi)
theorem ask_ok (EB:Nat) (eb:Nat→Addr) {n:Nat} (s:St) (hb:Bnd 4 n s) (hn:n≤1000) (hpr:s.pr=false):StepC EB eb s ask9∧∀ k,StepC EB eb s (ask5 k):=by
 have hs:=hb.small hn (by decide)
 refine ⟨fit_stepC EB eb s ask9 hs hpr { op:=by decide,ab:=fun q=>(by cases q),hz:=fun q=>(by cases q),prs:=by decide },fun k => ?_⟩
 exact fit_stepC EB eb s (ask5 k) hs hpr { op:=(by show 5≤10;decide),ab:=fun q=>(by cases q),hz:=fun q=>(by cases q),prs:=Nat.zero_le 4 }
def HOk (s:St):Prop:=∀ p∈s.ps,hashM s.hk p.v=p.h∧(s.hk=2→p.v.size≤99)
theorem HOk.step {s:St} (h:HOk s) (d:DoIn) (hz:d.op=0→s.hk=2→d.a.size≤99):HOk (s.step d).2:=by
 unfold St.step
 split
 · rename_i ho
   unfold St.addV
   split
   · exact h
   · intro p hp
     rcases List.mem_append.1 hp with q|q
     · exact h p q
     · simp only [List.mem_singleton] at q
       subst q
       exact ⟨rfl,hz ho⟩
 · unfold St.rmV
   split
   · exact h
   · split
     · exact h
     · exact fun p hp=>h p (List.mem_filter.1 hp).1
 · unfold St.addE
   split
   · split
     · exact h
     · split <;> exact h
   · exact h
 · unfold St.rmE;split <;> exact h
 · unfold St.updE;split <;> exact h
 all_goals exact h
theorem HOk.after {s:St} (h:HOk s) (ds:List DoIn) (hf:∀ d∈ds,Fit s.dir s.hk d):HOk (s.after ds):=by
 induction ds generalizing s with
 | nil=>exact h
 | cons d ds ih =>
   unfold St.after
   obtain ⟨h1,h2,h3⟩:=s.step_same d
   refine ih (h.step d (hf d (by simp)).hz) fun x hx => ?_
   rw [h1,h3]
   exact hf x (by simp [hx])
theorem HOk.graph {w:World} {G:GS} (h:HOk G.st) (_:GRep w G) (HC:HashC G.hk):∀ p∈G.pts,hashM G.hk p.v=p.h∧HashA G.hk p.v:=fun p hp=>by
 have:=h p.sp (List.mem_map.2 ⟨p,hp,rfl⟩)
 exact ⟨this.1,HC p.v this.2⟩
theorem wf_aftC (ds:List DoIn) (s:St) (h:Wf s):Wf (s.after ds):=by
 induction ds generalizing s with
 | nil=>exact h
 | cons d ds ih=>unfold St.after;exact ih _ (h.step d)
theorem nl_aftC (ds:List DoIn) (s:St) (h:NoLoop s) (hf:∀ d∈ds,Fit s.dir s.hk d):NoLoop (s.after ds):=by
 induction ds generalizing s with
 | nil=>exact h
 | cons d ds ih =>
   unfold St.after
   obtain ⟨h1,h2,h3⟩:=s.step_same d
   refine ih _ (h.step d (hf d (by simp)).ab) fun x hx => ?_
   rw [h1,h3]
   exact hf x (by simp [hx])
structure Pr2 (w:World) (lo:Nat) (vx vy:Value) (sx sy:St) (GA GB:GS):Prop where
 two:Two2 w GA GB
 va:GA.val=vx
 vb:GB.val=vy
 oa:∀ b∈GA.own,lo≤b
 ob:∀ b∈GB.own,lo≤b
 ha:HashC GA.hk
 hb:HashC GB.hk
 ta:tells GA.st=tells sx
 tb:tells GB.st=tells sy
 ba:∃ n,n≤1000∧Bnd 4 n GA.st
 bb:∃ n,n≤1000∧Bnd 4 n GB.st
 pa:GA.st.pr=false
 pb:GB.st.pr=false
theorem same_val {G G':GS} (h:G.same G'):G'.val=G.val:=by
 unfold GS.val
 rw [h.1,h.2.2.2.2.2.1]
structure Cp2 (w:World) (lo n:Nat) (GX GY:GS):Prop where
 two:Two2 w GX GY
 eqv:Eqv GX.st GY.st
 ox:∀ b∈GX.own,lo≤b
 oy:∀ b∈GY.own,lo≤b
 hx:HashC GX.hk
 wf:Wf GX.st
 nl:NoLoop GX.st
 bnd:Bnd 4 n GX.st
 pr:GX.st.pr=false
theorem Cp2.moveX {w5 wr:World} {lo n:Nat} {GX GY G:GS} (h:Cp2 w5 lo n GX GY) (hlo:lo≤w5.heap.size) (es:List DoIn) (hn:n+es.length≤1000) (hf:∀ d∈es,Fit GX.st.dir GX.st.hk d) (g:GStep w5 GX wr G) (hs:G.st=GX.st.after es) :
   Pr2 wr lo GX.val GY.val (GX.st.after es) GX.st G GY:=by
 have hk:GY.hk=GX.hk:=h.eqv.hk
 refine ⟨h.two.left g,same_val g.same,rfl,fun b hb=>(g.own b hb).elim (fun q=>h.ox b q) (fun q=>Nat.le_trans hlo q),h.oy,by rw [g.same.2.2.2.2.1];exact h.hx,by rw [hk];exact h.hx,by rw [hs],eqv_tells h.eqv h.wf h.nl,⟨_,hn,?_⟩,⟨n,by omega,h.eqv.bnd h.bnd⟩,?_,h.eqv.pr.trans h.pr⟩
 · rw [hs];exact h.bnd.after es fun d hd=>(hf d hd).prs
 · rw [hs];exact (after_same _ _).2.1.trans h.pr
theorem Cp2.moveY {w5 wr:World} {lo n:Nat} {GX GY G:GS} (h:Cp2 w5 lo n GX GY) (hlo:lo≤w5.heap.size) (es:List DoIn) (hn:n+es.length≤1000) (hf:∀ d∈es,Fit GX.st.dir GX.st.hk d) (h4:∀ d∈es,d.op≠4) (g:GStep w5 GY wr G) (hs:G.st=GY.st.after es) :
   Pr2 wr lo GX.val GY.val GX.st (GX.st.after es) GX G:=by
 have hk:GY.hk=GX.hk:=h.eqv.hk
 refine ⟨h.two.right g,rfl,same_val g.same,h.ox,fun b hb=>(g.own b hb).elim (fun q=>h.oy b q) (fun q=>Nat.le_trans hlo q),h.hx,by rw [g.same.2.2.2.2.1,hk];exact h.hx,rfl,?_,⟨n,by omega,h.bnd⟩,⟨_,hn,?_⟩,h.pr,?_⟩
 · rw [hs];exact eqv_tells (h.eqv.after h.wf h.pr es h4) (wf_aftC es _ h.wf) (nl_aftC es _ h.nl hf)
 · rw [hs];exact (h.eqv.bnd h.bnd).after es fun d hd=>(hf d hd).prs
 · rw [hs];exact (after_same _ _).2.1.trans (h.eqv.pr.trans h.pr)
theorem TR.tellsAt {w w6 w7:World} {lo:Nat} {G0 G:GS} {s sx:St} {v:Value} {vs:List Value} {S:Nat→Prop} (h:TR w G0 s (tells s) (tells s).length v G vs w6) (ht:tells s=tells sx) (hlo:lo < w.heap.size) (f:Fr S w6 w7) (hS:∀ q,S q→q < w.heap.size):TellsAt w7 lo v (tells sx):=by
 rw [ht] at h
 have hl:=h.vsl
 have hr:Reads w7 v (tells sx).length (encL cellsT vs):=Reads.fr (own_slice h.row) f fun q hq _ e=>by have:=(h.row.lt q hq).1;have:=hS q e;omega
 refine TellsAt.of rfl hl hr (fun q hq=>by have:=(h.row.lt q hq).1;omega) fun j u t hu htj => ?_
 exact ((h.told j u t hu htj).fr f fun q h1 _ e=>by have:=h1.1;have:=hS q e;omega).imp fun q h1 _=>by have:=h1.1;omega
end Go.Proofs.YtbafaadmlpamiaaGreatDoor
