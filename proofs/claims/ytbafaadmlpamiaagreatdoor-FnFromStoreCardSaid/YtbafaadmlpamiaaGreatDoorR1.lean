import Derived.Test.YtbafaadmlpamiaaGreatDoorA4
import Derived.Test.YtbafaadmlpamiaaGreatDoorA5
set_option maxRecDepth 100000
set_option maxHeartbeats 1000000
namespace Go.Proofs.YtbafaadmlpamiaaGreatDoor
open Go Go.Hy Go.RowKit
theorem del_pts (pts:List Pt) (k:ByteArray) (f:Pt→Value):delS (pts.map fun p=>(p.h,f p)) k=(pts.filter fun p=>decide (p.h≠k)).map fun p=>(p.h,f p):=by
 unfold delS
 rw [List.filter_map]
 rfl
theorem GRep.cutP {w w':World} {G:GS} (h:GRep w G) (k:ByteArray) {c':St1} (hs:SRep w' G.sB c') (hvs:c'.vs=delS G.c.vs k) (hps:c'.ps=delS G.c.ps k) (hown:∀ b∈c'.own,b∈G.c.own)
   (f:Fr (· ∈ G.c.own) w w') (out:∀ x y,edgeAt c'.outs c'.inn x y=edgeAt G.c.outs G.c.inn x y) (inn:∀ x y,edgeAt c'.inns c'.inn y x=edgeAt G.c.inns G.c.inn y x)
   (hno:∀ l∈G.lks,l.a≠k∧l.b≠k):GRep w' { G with c:=c',pts:=G.pts.filter fun p=>decide (p.h≠k) }:=by
 have hN:=h.nd
 have hkn:=h.kn
 simp only [GS.own,List.nodup_cons,List.mem_cons,List.mem_append,List.nodup_append,List.mem_map,not_or] at hN hkn
 obtain ⟨⟨a1,a2,a3,a4,a5⟩,⟨b1,b2,b3,b4⟩,⟨d1,d2,d3⟩,n1,⟨n2,n3,n4⟩,n5⟩:=hN
 obtain ⟨k1,k2,k3,k4,k5,k6⟩:=hkn
 have sub:∀ p∈G.pts.filter (fun p=>decide (p.h≠k)),p∈G.pts:=fun p hp=>(List.mem_filter.1 hp).1
 refine ⟨h.g.fr f a3,h.t.fr f b2,hs,h.k.imp fun _ q=>⟨q.1.fr f k4,q.2⟩,?_,?_,fun x y=>(out x y).trans (h.out x y),fun x y=>(inn x y).trans (h.inn x y),fun p hp=>(h.pa p (sub p hp)).fr f ?_,fun l hl=>(h.la l hl).fr f ?_,?_,h.loop,h.lnd,?_,?_⟩
 · rw [hvs,h.vs,del_pts]
 · rw [hps,h.ps,del_pts]
 · exact fun r=>n5 _ r _ (.inl ⟨p,sub p hp,rfl⟩) rfl
 · exact fun r=>n5 _ r _ (.inr ⟨l,hl,rfl⟩) rfl
 · intro l hl
   obtain ⟨⟨p,hp,e1⟩,q,hq,e2⟩:=h.ends l hl
   exact ⟨⟨p,List.mem_filter.2 ⟨hp,by simp [e1,(hno l hl).1]⟩,e1⟩,q,List.mem_filter.2 ⟨hq,by simp [e2,(hno l hl).2]⟩,e2⟩
 · show (G.gB :: G.tB :: G.sB :: (c'.own ++ ((G.pts.filter fun p=>decide (p.h≠k)).map (·.at_) ++ G.lks.map (·.at_)))).Nodup
   simp only [List.nodup_cons,List.mem_cons,List.mem_append,List.nodup_append,List.mem_map,not_or]
   refine ⟨⟨a1,a2,fun r=>a3 (hown _ r),?_,a5⟩,⟨b1,fun r=>b2 (hown _ r),?_,b4⟩,⟨fun r=>d1 (hown _ r),?_,d3⟩,hs.nd,⟨?_,n3,?_⟩,?_⟩
   · rintro ⟨p,hp,e⟩;exact a4 ⟨p,sub p hp,e⟩
   · rintro ⟨p,hp,e⟩;exact b3 ⟨p,sub p hp,e⟩
   · rintro ⟨p,hp,e⟩;exact d2 ⟨p,sub p hp,e⟩
   · exact List.Nodup.sublist (List.filter_sublist.map _) n2
   · rintro _ ⟨p,hp,rfl⟩ _ ⟨l,hl,rfl⟩ e
     exact n4 _ ⟨p,sub p hp,rfl⟩ _ ⟨l,hl,rfl⟩ e
   · rintro b hb _ (⟨p,hp,rfl⟩|⟨l,hl,rfl⟩) e
     · exact n5 _ (hown _ hb) _ (.inl ⟨p,sub p hp,rfl⟩) e
     · exact n5 _ (hown _ hb) _ (.inr ⟨l,hl,rfl⟩) e
 · intro q
   have q':G.kB∈G.gB :: G.tB :: G.sB :: (c'.own ++ ((G.pts.filter fun p=>decide (p.h≠k)).map (·.at_) ++ G.lks.map (·.at_))):=q
   simp only [List.mem_cons,List.mem_append,List.mem_map] at q'
   rcases q' with r|r|r|r|⟨p,hp,r⟩|r
   · exact k1 r
   · exact k2 r
   · exact k3 r
   · exact k4 (hown _ r)
   · exact k5 ⟨p,sub p hp,r⟩
   · exact k6 r
def Touch (G:GS) (k:ByteArray):Prop:=∃ l∈G.lks,l.a=k∨l.b=k
theorem head_look (p:ByteArray × Value) (es:Ents):lookS (p :: es) p.1=some p.2:=by simp [lookS]
theorem inner_nil {l:List (ByteArray × Nat)} {inn:Nat→Ents} {k:ByteArray} {n:Nat} (hn:findK l k=some n) (h:∀ y,edgeAt l inn k y=none):inn n = []:=by
 cases he:inn n with
 | nil=>rfl
 | cons p es =>
   have:=h p.1
   unfold edgeAt at this
   rw [hn,Option.bind_some,he,head_look] at this
   cases this
theorem inner_ne {l:List (ByteArray × Nat)} {inn:Nat→Ents} {k y:ByteArray} {v:Value} (h:edgeAt l inn k y=some v):∃ n,findK l k=some n∧(0:Int) < ((inn n).length:Int):=by
 unfold edgeAt at h
 obtain ⟨n,h1,h2⟩:=Option.bind_eq_some_iff.1 h
 refine ⟨n,h1,?_⟩
 cases he:inn n with
 | nil=>rw [he] at h2;simp [lookS] at h2
 | cons p es=>simp
theorem GRep.untouched {w:World} {G:GS} (h:GRep w G) {k:ByteArray} (hn:¬ Touch G k):(∀ y,edgeAt G.c.outs G.c.inn k y=none)∧∀ x,edgeAt G.c.inns G.c.inn k x=none:=by
 have hh:∀ x y,x=k∨y=k→findL G.dir G.lks x y=none:=fun x y hxy=>by
   rw [findL_none]
   intro l hl
   cases hc:l.hit G.dir x y with
   | false=>rfl
   | true =>
     refine absurd ⟨l,hl,?_⟩ hn
     rcases hit_cases hc with ⟨e1,e2⟩|⟨_,e1,e2⟩
     · rcases hxy with e|e
       · exact .inl (e1.trans e)
       · exact .inr (e2.trans e)
     · rcases hxy with e|e
       · exact .inr (e2.trans e)
       · exact .inl (e1.trans e)
 exact ⟨fun y=>by rw [h.out,hh k y (.inl rfl)];rfl,fun x=>by rw [h.inn,hh x k (.inr rfl)];rfl⟩
theorem GRep.touched {w:World} {G:GS} (h:GRep w G) {k:ByteArray} (hn:Touch G k):(∃ y v,edgeAt G.c.outs G.c.inn k y=some v)∨∃ x v,edgeAt G.c.inns G.c.inn k x=some v:=by
 obtain ⟨l,hl,e⟩:=hn
 have hf:findL G.dir G.lks l.a l.b≠none:=fun q=>by
   have:=findL_none.1 q l hl
   rw [hit_self] at this
   cases this
 obtain ⟨m,hm⟩:=Option.ne_none_iff_exists'.1 hf
 rcases e with e|e
 · exact .inl ⟨l.b,_,by rw [← e,h.out,hm];rfl⟩
 · exact .inr ⟨l.a,_,by rw [← e,h.inn,hm];rfl⟩
theorem sremv (w:World) (G:GS) (h:GRep w G) (B:Nat) (eb:Nat→Addr) (E:ErrsOk w B eb) (hB:∀ k∈G.own,B≤k) (k:ByteArray) :
   Calls Tryz.prog 223 #[.pointer (some ⟨G.sB,0,none⟩),.string k] w fun e w'=>∃ ev:EV,ev.ok∧e=.returned (ev.val eb) ∧
     ((findP G.pts k=none∧ev.code=2∧GStep w G w' G)∨(findP G.pts k≠none∧Touch G k∧ev.code=3∧∃ c',GStep w G w' { G with c:=c' }) ∨
      (findP G.pts k≠none∧¬ Touch G k∧ev.code=0∧∃ c',GStep w G w' { G with c:=c',pts:=G.pts.filter fun p=>decide (p.h≠k) })):=by
 have mo:∀ b,b∈G.c.own→b∈G.own:=fun b hb=>by
   simp only [GS.own,List.mem_cons,List.mem_append]
   exact .inr (.inr (.inr (.inl hb)))
 have own1:∀ c':St1,(∀ b∈c'.own,b∈G.c.own)→∀ pts',(∀ p∈pts',p∈G.pts)→∀ b∈({ G with c:=c',pts:=pts' }:GS).own,b∈G.own:=fun c' hc pts' hp b hb=>by
   simp only [GS.own,List.mem_cons,List.mem_append,List.mem_map] at hb ⊢
   rcases hb with r|r|r|r|⟨p,hp',r⟩|r
   · exact .inl r
   · exact .inr (.inl r)
   · exact .inr (.inr (.inl r))
   · exact .inr (.inr (.inr (.inl (hc b r))))
   · exact .inr (.inr (.inr (.inr (.inl ⟨p,hp p hp',r⟩))))
   · exact .inr (.inr (.inr (.inr (.inr r))))
 cases hf:findP G.pts k with
 | none =>
   refine (remv_no w G.sB G.c h.s k (er (eb 1)) (E.cell 1 (by decide)) (by rw [h.vs,look_vs,hf];rfl)).mono ?_
   rintro e w' ⟨rfl,rfl⟩
   exact ⟨.e 1,by simp [EV.ok],rfl,.inl ⟨rfl,rfl,GStep.refl h (Fr.refl _ _)⟩⟩
 | some p =>
   have hv:lookS G.c.vs k=some (.string p.v):=by rw [h.vs,look_vs,hf];rfl
   by_cases ht:Touch G k
   · have same:∀ w' (e:Ending),e=.returned (er (eb 2))∧w=w'→∃ ev:EV,ev.ok∧e=.returned (ev.val eb)∧((some p=none∧ev.code=2∧GStep w G w' G)∨(some p≠none∧Touch G k∧ev.code=3∧∃ c',GStep w G w' { G with c:=c' }) ∨
         (some p≠none∧¬ Touch G k∧ev.code=0∧∃ c',GStep w G w' { G with c:=c',pts:=G.pts.filter fun p=>decide (p.h≠k) })):=by
       rintro w' e ⟨rfl,rfl⟩
       exact ⟨.e 2,by simp [EV.ok],rfl,.inr (.inl ⟨by simp,ht,rfl,G.c,GStep.refl h (Fr.refl _ _)⟩)⟩
     have g2:=E.cell 2 (by decide)
     cases hi:findK G.c.inns k with
     | none =>
       have ho:∃ y v,edgeAt G.c.outs G.c.inn k y=some v:=by
         rcases h.touched ht with q|⟨x,v,q⟩
         · exact q
         · unfold edgeAt at q;rw [hi] at q;cases q
       obtain ⟨y,v,ho⟩:=ho
       obtain ⟨no,h1,h2⟩:=inner_ne ho
       exact (remv_no_e w G.sB G.c h.s k p.v (er (eb 2)) g2 hv hi no h1 h2).mono fun e w' q=>same w' e q
     | some ni =>
       cases hn:G.c.inn ni with
       | cons q es=>exact (remv_in w G.sB G.c h.s k p.v (er (eb 2)) g2 hv ni hi (by rw [hn];simp)).mono fun e w' q=>same w' e q
       | nil =>
         have ho:∃ y v,edgeAt G.c.outs G.c.inn k y=some v:=by
           rcases h.touched ht with q|⟨x,v,q⟩
           · exact q
           · unfold edgeAt at q;rw [hi,Option.bind_some,hn] at q;simp [lookS] at q
         obtain ⟨y,v,ho⟩:=ho
         obtain ⟨no,h1,h2⟩:=inner_ne ho
         refine (remv_ie_oe w G.sB G.c h.s k p.v (er (eb 2)) g2 (fun b hb q=>by have:=hB b (mo b hb);have:=E.six;omega) hv ni hi hn no h1 h2).mono ?_
         rintro e w' ⟨rfl,⟨c',s1,s2,s3,s4,s5,s6⟩,f⟩
         refine ⟨.e 2,by simp [EV.ok],rfl,.inr (.inl ⟨by simp,ht,rfl,c',?_,f.mono fun b hb=>mo b hb,fun b hb=>.inl (own1 c' s4 G.pts (fun p hp=>hp) b hb),G.same_refl⟩)⟩
         have lo:=h.latOk
         have:=h.setL s1 s2 s3 (fun b hb=>.inl (s4 b hb)) (f.mono fun b hb=>.inl hb) (lks:=G.lks) (fun l hl=>⟨(lo.1 l hl).1,(lo.1 l hl).2,(h.la l hl).fr f fun r=>(lo.1 l hl).2 (by simp only [GS.base,List.mem_cons,List.mem_append];exact .inr (.inr (.inr (.inr (.inl r)))))⟩) lo.2
           (fun x y=>(s5 x y).trans (h.out x y)) (fun x y=>(s6 x y).trans (h.inn x y)) h.ends h.loop h.lnd
         exact this
   · obtain ⟨u1,u2⟩:=h.untouched ht
     have hno:∀ l∈G.lks,l.a≠k∧l.b≠k:=fun l hl=>⟨fun e=>ht ⟨l,hl,.inl e⟩,fun e=>ht ⟨l,hl,.inr e⟩⟩
     have fin:∀ w' (e:Ending),e=.returned .nilIface∧CutPost w G.sB G.c (delS G.c.vs k) (delS G.c.ps k) w'→∃ ev:EV,ev.ok∧e=.returned (ev.val eb)∧((some p=none∧ev.code=2∧GStep w G w' G)∨(some p≠none∧Touch G k∧ev.code=3∧∃ c',GStep w G w' { G with c:=c' }) ∨
         (some p≠none∧¬ Touch G k∧ev.code=0∧∃ c',GStep w G w' { G with c:=c',pts:=G.pts.filter fun p=>decide (p.h≠k) })):=by
       rintro w' e ⟨rfl,⟨c',s1,s2,s3,s4,s5,s6⟩,f⟩
       exact ⟨.nil,trivial,rfl,.inr (.inr ⟨by simp,ht,rfl,c',h.cutP k s1 s2 s3 s4 f s5 s6 hno,f.mono fun b hb=>mo b hb,fun b hb=>.inl (own1 c' s4 _ (fun p hp=>(List.mem_filter.1 hp).1) b hb),G.same_refl⟩)⟩
     cases hi:findK G.c.inns k with
     | none =>
       cases ho:findK G.c.outs k with
       | none=>exact (remv_nn w G.sB G.c h.s k p.v hv hi ho).mono fun e w' q=>fin w' e q
       | some no=>exact (remv_ne w G.sB G.c h.s k p.v hv hi no ho (inner_nil ho u1)).mono fun e w' q=>fin w' e q
     | some ni =>
       cases ho:findK G.c.outs k with
       | none=>exact (remv_en w G.sB G.c h.s k p.v hv ho ni hi (inner_nil hi u2)).mono fun e w' q=>fin w' e q
       | some no=>exact (remv_ee w G.sB G.c h.s k p.v hv no ho (inner_nil ho u1) ni hi (inner_nil hi u2)).mono fun e w' q=>fin w' e q
theorem dremv (w:World) (G:GS) (h:GRep w G) (B:Nat) (eb:Nat→Addr) (E:ErrsOk w B eb) (hB:∀ k∈G.own,B≤k) (k:ByteArray) :
   Calls Tryz.prog 184 #[.pointer (some ⟨G.gB,0,none⟩),.string k] w fun e w'=>∃ ev:EV,ev.ok∧e=.returned (ev.val eb) ∧
     ((findP G.pts k=none∧ev.code=2∧GStep w G w' G)∨(findP G.pts k≠none∧Touch G k∧ev.code=3∧∃ c',GStep w G w' { G with c:=c' }) ∨
      (findP G.pts k≠none∧¬ Touch G k∧ev.code=0∧∃ c',GStep w G w' { G with c:=c',pts:=G.pts.filter fun p=>decide (p.h≠k) })):=by
 have HS:=Lib.hid (sremv w G h B eb E hB k)
 have g2:=h.facts.1.2.2
 have l0:=h.facts.2.2.1
 have mR:=mRemoveVertex
 clear h E hB
 go_enter Tryz.func184,Tryz.ntmps184
 go_wp2_with (first
   | (go_at_call 223;refine HS.out.mono ?_;rintro e w5 ⟨ev,h1,rfl,h2⟩))
 go_ret
 exact ⟨ev,h1,rfl,h2⟩
theorem uremv (w:World) (G:GS) (h:GRep w G) (B:Nat) (eb:Nat→Addr) (E:ErrsOk w B eb) (hB:∀ k∈G.own,B≤k) (k:ByteArray) :
   Calls Tryz.prog 209 #[.pointer (some ⟨G.gB,0,none⟩),.string k] w fun e w'=>∃ ev:EV,ev.ok∧e=.returned (ev.val eb) ∧
     ((findP G.pts k=none∧ev.code=2∧GStep w G w' G)∨(findP G.pts k≠none∧Touch G k∧ev.code=3∧∃ c',GStep w G w' { G with c:=c' }) ∨
      (findP G.pts k≠none∧¬ Touch G k∧ev.code=0∧∃ c',GStep w G w' { G with c:=c',pts:=G.pts.filter fun p=>decide (p.h≠k) })):=by
 have HS:=Lib.hid (sremv w G h B eb E hB k)
 have g2:=h.facts.1.2.2
 have l0:=h.facts.2.2.1
 have mR:=mRemoveVertex
 clear h E hB
 go_enter Tryz.func209,Tryz.ntmps209
 go_wp2_with (first
   | (go_at_call 223;refine HS.out.mono ?_;rintro e w5 ⟨ev,h1,rfl,h2⟩))
 go_ret
 exact ⟨ev,h1,rfl,h2⟩
def RemPost (w:World) (s:Nat) (c:St1) (a t:ByteArray) (w':World):Prop :=
 (∃ c',SRep w' s c'∧c'.vs=c.vs∧c'.ps=c.ps∧(∀ b∈c'.own,b∈c.own)∧(∀ b,b∈c.own→b∈c'.own) ∧
     (∀ x y,edgeAt c'.outs c'.inn x y=if x=a∧y=t then none else edgeAt c.outs c.inn x y) ∧
     (∀ x y,edgeAt c'.inns c'.inn y x=if x=a∧y=t then none else edgeAt c.inns c.inn y x))∧Fr (· ∈ c.own) w w'
theorem edgeAt_find {l:List (ByteArray × Nat)} {inn:Nat→Ents} {k y:ByteArray} {v:Value} (h:edgeAt l inn k y=some v):∃ n,findK l k=some n:=by
 unfold edgeAt at h
 obtain ⟨n,h1,_⟩:=Option.bind_eq_some_iff.1 h
 exact ⟨n,h1⟩
theorem sreme (w:World) (s:Nat) (c:St1) (h:SRep w s c) (a t:ByteArray) {v v':Value} (ho:edgeAt c.outs c.inn a t=some v) (hi:edgeAt c.inns c.inn t a=some v') :
   Calls Tryz.prog 222 #[.pointer (some ⟨s,0,none⟩),.string a,.string t] w fun e w'=>e=.returned .nilIface∧RemPost w s c a t w':=by
 obtain ⟨no,hno⟩:=edgeAt_find ho
 obtain ⟨ni,hni⟩:=edgeAt_find hi
 refine (reme w s c h a t no ni hno hni).mono ?_
 rintro e w' ⟨rfl,hs,f⟩
 obtain ⟨p1,p2,p3,p4,p5,p6,p7,p8,p9,p10,p11⟩:=St1.nodup h.nd
 have mo:=findK_mem hno
 have mi:=findK_mem hni
 have hne:no≠ni:=p3 _ mo _ mi
 have sno:SM w' no (delS (c.inn no) t):=by
   have:=hs.o.e _ mo
   simp only at this
   rw [upd_other _ _ _ hne,upd_same] at this
   exact this
 have sni:SM w' ni (delS (c.inn ni) a):=by
   have:=hs.i.e _ mi
   simp only at this
   rw [upd_same] at this
   exact this
 obtain ⟨_,e1,e2⟩:=h.setInn hno hni f sno sni
 refine ⟨rfl,⟨_,hs,rfl,rfl,fun b hb=>hb,fun b hb=>hb,fun x y => ?_,fun x y => ?_⟩,f.mono fun b hb => ?_⟩
 · rw [e1 x y,lookS_del]
   by_cases hx:x=a
   · subst hx
     by_cases hy:y=t
     · simp [hy]
     · rw [if_pos rfl,if_neg hy,if_neg (fun q=>hy q.2)]
       unfold edgeAt
       rw [hno]
       rfl
   · rw [if_neg hx,if_neg (fun q=>hx q.1)]
 · rw [e2 x y,lookS_del]
   by_cases hy:y=t
   · subst hy
     by_cases hx:x=a
     · simp [hx]
     · rw [if_pos rfl,if_neg hx,if_neg (fun q=>hx q.1)]
       unfold edgeAt
       rw [hni]
       rfl
   · rw [if_neg hy,if_neg (fun q=>hy q.2)]
 · rcases hb with e|e
   · rw [e];exact St1.mem_outs mo
   · rw [e];exact St1.mem_inns mi
theorem hit_iff {dir:Bool} {l:Lk} {x y:ByteArray}:l.hit dir x y=true↔(l.a=x∧l.b=y)∨(dir=false∧l.a=y∧l.b=x):=by
 unfold Lk.hit
 cases dir <;> simp
def Same2 (dir:Bool) (a b x y:ByteArray):Prop:=(x=a∧y=b)∨(dir=false∧x=b∧y=a)
theorem hit_same {dir:Bool} {l:Lk} {a b x y:ByteArray} (h:Same2 dir a b x y):l.hit dir x y=l.hit dir a b:=by
 rcases h with ⟨rfl,rfl⟩|⟨rfl,rfl,rfl⟩
 · rfl
 · exact hit_false_swap
theorem hit_both {dir:Bool} {l:Lk} {a b x y:ByteArray} (h1:l.hit dir x y=true) (h2:l.hit dir a b=true):Same2 dir a b x y:=by
 rcases hit_iff.1 h1 with ⟨e1,e2⟩|⟨d,e1,e2⟩ <;> rcases hit_iff.1 h2 with ⟨f1,f2⟩|⟨_,f1,f2⟩
 · exact .inl ⟨e1.symm.trans f1,e2.symm.trans f2⟩
 · rename_i d';exact .inr ⟨d',e1.symm.trans f1,e2.symm.trans f2⟩
 · exact .inr ⟨d,e2.symm.trans f2,e1.symm.trans f1⟩
 · exact .inl ⟨e2.symm.trans f2,e1.symm.trans f1⟩
def rmL (dir:Bool) (lks:List Lk) (a b:ByteArray):List Lk:=lks.filter fun l => !l.hit dir a b
theorem findL_rm_same {dir:Bool} (lks:List Lk) {a b x y:ByteArray} (h:Same2 dir a b x y):findL dir (rmL dir lks a b) x y=none:=by
 rw [findL_none]
 intro l hl
 have:=(List.mem_filter.1 hl).2
 rw [hit_same h]
 simpa using this
theorem findL_rm_other {dir:Bool} {a b x y:ByteArray} (h:¬ Same2 dir a b x y):∀ lks:List Lk,findL dir (rmL dir lks a b) x y=findL dir lks x y
 | []=>rfl
 | l :: lks=>by
   have ih:=findL_rm_other h lks
   unfold findL rmL at ih ⊢
   cases hx:l.hit dir x y with
   | true =>
     have hc:l.hit dir a b=false:=by
       cases hc:l.hit dir a b with
       | false=>rfl
       | true=>exact absurd (hit_both hx hc) h
     simp [hx,hc]
   | false =>
     cases hc:l.hit dir a b with
     | true=>simpa [hx,hc] using ih
     | false=>simpa [hx,hc] using ih
theorem GRep.rmE {w w':World} {G:GS} (h:GRep w G) (a b:ByteArray) {c':St1} (hs:SRep w' G.sB c') (hvs:c'.vs=G.c.vs) (hps:c'.ps=G.c.ps) (hown:∀ k∈c'.own,k∈G.c.own) (f:Fr (· ∈ G.c.own) w w')
   (out:∀ x y,Same2 G.dir a b x y→edgeAt c'.outs c'.inn x y=none) (out':∀ x y,¬ Same2 G.dir a b x y→edgeAt c'.outs c'.inn x y=edgeAt G.c.outs G.c.inn x y)
   (inn:∀ x y,Same2 G.dir a b x y→edgeAt c'.inns c'.inn y x=none) (inn':∀ x y,¬ Same2 G.dir a b x y→edgeAt c'.inns c'.inn y x=edgeAt G.c.inns G.c.inn y x) :
   GStep w G w' { G with c:=c',lks:=rmL G.dir G.lks a b }:=by
 have lo:=h.latOk
 have sub:∀ l∈rmL G.dir G.lks a b,l∈G.lks:=fun l hl=>(List.mem_filter.1 hl).1
 have mo:∀ k,k∈G.c.own→k∈G.own:=fun k hk=>by
   simp only [GS.own,List.mem_cons,List.mem_append]
   exact .inr (.inr (.inr (.inl hk)))
 have rep:GRep w' { G with c:=c',lks:=rmL G.dir G.lks a b }:=by
   refine h.setL hs hvs hps (fun k hk=>.inl (hown k hk)) (f.mono fun k hk=>.inl hk) (fun l hl=>⟨(lo.1 l (sub l hl)).1,(lo.1 l (sub l hl)).2,(h.la l (sub l hl)).fr f fun r=>(lo.1 l (sub l hl)).2 ?_⟩)
     (List.Nodup.sublist (List.filter_sublist.map _) lo.2) (fun x y => ?_) (fun x y => ?_) (fun l hl=>h.ends l (sub l hl)) (fun hd l hl=>h.loop hd l (sub l hl)) (List.Pairwise.sublist List.filter_sublist h.lnd)
   · simp only [GS.base,List.mem_cons,List.mem_append]
     exact .inr (.inr (.inr (.inr (.inl r))))
   · by_cases hh:Same2 G.dir a b x y
     · rw [out x y hh,findL_rm_same _ hh];rfl
     · rw [out' x y hh,findL_rm_other hh];exact h.out x y
   · by_cases hh:Same2 G.dir a b x y
     · rw [inn x y hh,findL_rm_same _ hh];rfl
     · rw [inn' x y hh,findL_rm_other hh];exact h.inn x y
 refine ⟨rep,f.mono fun k hk=>mo k hk,fun k hk=>.inl ?_,G.same_refl⟩
 simp only [GS.own,List.mem_cons,List.mem_append,List.mem_map] at hk ⊢
 rcases hk with r|r|r|r|r|⟨l,hl,r⟩
 · exact .inl r
 · exact .inr (.inl r)
 · exact .inr (.inr (.inl r))
 · exact .inr (.inr (.inr (.inl (hown k r))))
 · exact .inr (.inr (.inr (.inr (.inl r))))
 · exact .inr (.inr (.inr (.inr (.inr ⟨l,sub l hl,r⟩))))
theorem RemPost.mono {w w0 w':World} {s:Nat} {c:St1} {a t:ByteArray} (f:Fr0 w w0) (h:RemPost w0 s c a t w'):RemPost w s c a t w':=⟨h.1,(f.mono fun _ q=>q.elim).trans h.2 fun _ q=>.inl q⟩
theorem drem_step {w w':World} {G:GS} (h:GRep w G) (hd:G.dir=true) {a b:ByteArray} (p:RemPost w G.sB G.c a b w'):∃ c',GStep w G w' { G with c:=c',lks:=rmL G.dir G.lks a b }:=by
 obtain ⟨⟨c',s1,s2,s3,s4,_,s5,s6⟩,f⟩:=p
 have hh:∀ x y,Same2 G.dir a b x y↔(x=a∧y=b):=fun x y=>by unfold Same2;rw [hd];simp
 exact ⟨c',h.rmE a b s1 s2 s3 s4 f (fun x y q=>by rw [s5,if_pos ((hh x y).1 q)]) (fun x y q=>by rw [s5,if_neg (fun r=>q ((hh x y).2 r))]) (fun x y q=>by rw [s6,if_pos ((hh x y).1 q)]) (fun x y q=>by rw [s6,if_neg (fun r=>q ((hh x y).2 r))])⟩
theorem urem_step {w w1 w':World} {G:GS} (h:GRep w G) (hd:G.dir=false) {a b:ByteArray} {c1:St1} (f1:Fr (· ∈ G.c.own) w w1) (s2:c1.vs=G.c.vs) (s3:c1.ps=G.c.ps) (s4:∀ k∈c1.own,k∈G.c.own)
   (s5:∀ x y,edgeAt c1.outs c1.inn x y=if x=a∧y=b then none else edgeAt G.c.outs G.c.inn x y) (s6:∀ x y,edgeAt c1.inns c1.inn y x=if x=a∧y=b then none else edgeAt G.c.inns G.c.inn y x)
   (p:RemPost w1 G.sB c1 b a w'):∃ c',GStep w G w' { G with c:=c',lks:=rmL G.dir G.lks a b }:=by
 obtain ⟨⟨c',t1,t2,t3,t4,_,t5,t6⟩,f⟩:=p
 have hh:∀ x y,Same2 G.dir a b x y↔(x=a∧y=b)∨(x=b∧y=a):=fun x y=>by unfold Same2;rw [hd];simp
 refine ⟨c',h.rmE a b t1 (t2.trans s2) (t3.trans s3) (fun k hk=>s4 k (t4 k hk)) (f1.trans f fun k hk=>.inl (s4 k hk)) (fun x y q => ?_) (fun x y q => ?_) (fun x y q => ?_) (fun x y q => ?_)⟩
 · rw [t5,s5]
   rcases (hh x y).1 q with r|r
   · simp [r]
   · simp [r]
 · rw [t5,s5,if_neg (fun r=>q ((hh x y).2 (.inr r))),if_neg (fun r=>q ((hh x y).2 (.inl r)))]
 · rw [t6,s6]
   rcases (hh x y).1 q with r|r
   · simp [r]
   · simp [r]
 · rw [t6,s6,if_neg (fun r=>q ((hh x y).2 (.inr r))),if_neg (fun r=>q ((hh x y).2 (.inl r)))]
def RmEPost (w:World) (G:GS) (eb:Nat→Addr) (a b:ByteArray) (e:Ending) (w':World):Prop :=
 ∃ ev:EV,ev.ok∧e=.returned (ev.val eb)∧((findL G.dir G.lks a b=none∧ev.code=5∧GStep w G w' G)∨(findL G.dir G.lks a b≠none∧ev.code=0∧∃ c',GStep w G w' { G with c:=c',lks:=rmL G.dir G.lks a b }))
theorem dreme_no (w:World) (G:GS) (h:GRep w G) (B:Nat) (eb:Nat→Addr) (E:ErrsOk w B eb) (a b:ByteArray) (hl:findL G.dir G.lks a b=none) :
   Calls Tryz.prog 183 #[.pointer (some ⟨G.gB,0,none⟩),.string a,.string b] w fun e w'=>RmEPost w G eb a b e w':=by
 have HE:=Lib.hid (dedge_no w G h  B eb E a b hl)
 have HG:=Lib.hid h
 have HL:=Lib.hid hl
 clear h E hl
 go_enter Tryz.func183,Tryz.ntmps183
 go_wp2_with (first
   | (go_at_call 179;refine HE.out.mono ?_;rintro e w1 ⟨rfl,f1⟩;have F1:=Lib.hid f1;clear f1))
 go_ret
 exact ⟨.e 4,by simp [EV.ok],rfl,.inl ⟨HL.out,rfl,GStep.refl HG.out (F1.out.alloc _)⟩⟩
theorem ureme_no (w:World) (G:GS) (h:GRep w G)(hd:G.dir=false) (B:Nat) (eb:Nat→Addr) (E:ErrsOk w B eb) (a b:ByteArray) (hl:findL G.dir G.lks a b=none) :
   Calls Tryz.prog 208 #[.pointer (some ⟨G.gB,0,none⟩),.string a,.string b] w fun e w'=>RmEPost w G eb a b e w':=by
 have HE:=Lib.hid (uedge_no w G h hd B eb E a b hl)
 have HG:=Lib.hid h
 have HL:=Lib.hid hl
 clear h E hl
 go_enter Tryz.func208,Tryz.ntmps208
 go_wp2_with (first
   | (go_at_call 204;refine HE.out.mono ?_;rintro e w1 ⟨rfl,f1⟩;have F1:=Lib.hid f1;clear f1))
 go_ret
 exact ⟨.e 4,by simp [EV.ok],rfl,.inl ⟨HL.out,rfl,GStep.refl HG.out (F1.out.alloc _)⟩⟩
theorem dreme_yes (w:World) (G:GS) (h:GRep w G) (hd:G.dir=true) (eb:Nat→Addr) (a b:ByteArray) (l:Lk) (hl:findL G.dir G.lks a b=some l) :
   Calls Tryz.prog 183 #[.pointer (some ⟨G.gB,0,none⟩),.string a,.string b] w fun e w'=>RmEPost w G eb a b e w':=by
 obtain ⟨⟨p,hpa⟩,q,hpb⟩:=h.ends_find hl
 have HE:=Lib.hid (dedge_yes w G h a b l p q hl hpa hpb)
 have HG:=hid3 h hd hl
 have mR:=mRemoveEdge
 clear h hd hl hpa hpb
 go_enter Tryz.func183,Tryz.ntmps183
 go_wp2_with fail
 refine HE.out.mono ?_
 rintro e w1 ⟨rfl,f1⟩
 have F2:=Lib.hid (f1.alloc (.cells #[.string p.v,.string q.v,.map (some l.at_),.int .i64 l.wt,.nilIface] 144))
 have HR:=Lib.hid (HG.out.1.fr F2.out (fun _ _ q=>q) (fun q=>q))
 have g2:=HR.out.facts.1.2.2
 have l0:=HR.out.facts.2.2.1
 clear f1
 go_wp2_with fail
 refine (sreme _ G.sB G.c HR.out.s a b (by rw [HR.out.out,HG.out.2.2];rfl) (by rw [HR.out.inn,HG.out.2.2];rfl)).mono ?_
 rintro e w3 ⟨rfl,rp⟩
 have RP:=Lib.hid rp
 clear rp
 go_wp2_with fail
 go_ret
 obtain ⟨c',g⟩:=drem_step HG.out.1 HG.out.2.1 (RP.out.mono F2.out)
 exact ⟨.nil,trivial,rfl,.inr ⟨by rw [HG.out.2.2];simp,rfl,c',g⟩⟩
theorem ureme_yes (w:World) (G:GS) (h:GRep w G) (hd:G.dir=false) (B:Nat) (eb:Nat→Addr) (E:ErrsOk w B eb) (a b:ByteArray) (l:Lk) (hl:findL G.dir G.lks a b=some l) :
   Calls Tryz.prog 208 #[.pointer (some ⟨G.gB,0,none⟩),.string a,.string b] w fun e w'=>RmEPost w G eb a b e w':=by
 obtain ⟨⟨p,hpa⟩,q,hpb⟩:=h.ends_find hl
 have HE:=Lib.hid (uedge_yes w G h B eb E a b l p q hl hpa hpb)
 have hsw:findL G.dir G.lks b a=some l:=by rw [hd] at hl ⊢;rw [findL_swap];exact hl
 have hab:a≠b:=by
   obtain ⟨hm,hh⟩:=findL_mem hl
   have:=h.loop hd l hm
   rcases hit_cases hh with ⟨e1,e2⟩|⟨_,e1,e2⟩
   · exact fun e=>this (e1.trans (e.trans e2.symm))
   · exact fun e=>this (e1.trans (e.symm.trans e2.symm))
 have HG:=hid5 h hd hl hsw hab
 have mR:=mRemoveEdge
 clear h hd hl hpa hpb E hsw hab
 go_enter Tryz.func208,Tryz.ntmps208
 go_wp2_with fail
 refine HE.out.mono ?_
 rintro e w1 ⟨rfl,f1⟩
 have F2:=Lib.hid (f1.alloc (.cells #[.string p.v,.string q.v,.map (some l.at_),.int .i64 l.wt,.nilIface] 144))
 have HR:=Lib.hid (HG.out.1.fr F2.out (fun _ _ q=>q) (fun q=>q))
 have g2:=HR.out.facts.1.2.2
 have l0:=HR.out.facts.2.2.1
 clear f1
 go_wp2_with fail
 refine (sreme _ G.sB G.c HR.out.s a b (by rw [HR.out.out,HG.out.2.2.1];rfl) (by rw [HR.out.inn,HG.out.2.2.1];rfl)).mono ?_
 rintro e w3 ⟨rfl,⟨c1,s1,s2,s3,s4,s4',s5,s6⟩,f3⟩
 have C:=hid7 s1 s2 s3 s4 s5 s6 f3
 have gn:=HG.out.1.nd
 have gl:G.gB∉G.c.own:=by
   simp only [GS.own,List.nodup_cons,List.mem_cons,List.mem_append,not_or] at gn
   exact gn.1.2.2.1
 have g2':=(HR.out.g.fr f3 gl).cell 2 _ rfl
 have l0':=(HR.out.g.fr f3 gl).lt
 clear s1 s2 s3 s4 s4' s5 s6 f3 gn gl g2 l0
 go_wp2_with fail
 refine (sreme _ G.sB c1 C.out.1 b a (by rw [C.out.2.2.2.2.1,if_neg (fun q=>HG.out.2.2.2.2 q.1.symm),HR.out.out,HG.out.2.2.2.1];rfl) (by rw [C.out.2.2.2.2.2.1,if_neg (fun q=>HG.out.2.2.2.2 q.1.symm),HR.out.inn,HG.out.2.2.2.1];rfl)).mono ?_
 rintro e w4 ⟨rfl,rp⟩
 have RP:=Lib.hid rp
 clear rp
 go_wp2_with fail
 go_ret
 obtain ⟨c',g⟩:=urem_step HG.out.1 HG.out.2.1 ((F2.out.mono fun _ q=>q.elim).trans C.out.2.2.2.2.2.2 fun _ q=>.inl q) C.out.2.1 C.out.2.2.1 C.out.2.2.2.1 C.out.2.2.2.2.1 C.out.2.2.2.2.2.1 RP.out
 exact ⟨.nil,trivial,rfl,.inr ⟨by rw [HG.out.2.2.1];simp,rfl,c',g⟩⟩
theorem dreme (w:World) (G:GS) (h:GRep w G) (hd:G.dir=true) (B:Nat) (eb:Nat→Addr) (E:ErrsOk w B eb) (a b:ByteArray) :
   Calls Tryz.prog 183 #[.pointer (some ⟨G.gB,0,none⟩),.string a,.string b] w fun e w'=>RmEPost w G eb a b e w':=by
 cases hl:findL G.dir G.lks a b with
 | none=>exact dreme_no w G h  B eb E a b hl
 | some l=>exact dreme_yes w G h hd eb a b l hl
theorem ureme (w:World) (G:GS) (h:GRep w G) (hd:G.dir=false) (B:Nat) (eb:Nat→Addr) (E:ErrsOk w B eb) (a b:ByteArray) :
   Calls Tryz.prog 208 #[.pointer (some ⟨G.gB,0,none⟩),.string a,.string b] w fun e w'=>RmEPost w G eb a b e w':=by
 cases hl:findL G.dir G.lks a b with
 | none=>exact ureme_no w G h hd B eb E a b hl
 | some l=>exact ureme_yes w G h hd B eb E a b l hl
theorem sm_nocell {w:World} {b:Nat} {es:Ents} (h:SM w b es) (i:Nat) (p:Option Nat):w.cell? ⟨b,i,p⟩=none:=by
 obtain ⟨arr,clock,h1,_⟩:=h
 simp [World.cell?,h1]
def updL (dir:Bool) (lks:List Lk) (a b:ByteArray) (s:PS):List Lk:=lks.map fun m=>if m.hit dir a b=true then { m with wt:=s.1,es:=s.2 } else m
theorem upd_ends (dir:Bool) (a b:ByteArray) (s:PS) (m:Lk):(if m.hit dir a b=true then { m with wt:=s.1,es:=s.2 } else m).a=m.a∧(if m.hit dir a b=true then { m with wt:=s.1,es:=s.2 } else m).b=m.b∧(if m.hit dir a b=true then { m with wt:=s.1,es:=s.2 } else m).at_=m.at_:=by
 split <;> exact ⟨rfl,rfl,rfl⟩
theorem uniq_hit {dir:Bool} {a b:ByteArray}:∀ {lks:List Lk},(lks.Pairwise fun l m=>m.hit dir l.a l.b=false)→∀ {l m:Lk},l∈lks→m∈lks→l.hit dir a b=true→m.hit dir a b=true→l=m
 | [],_,l,m,hl,_,_,_=>by cases hl
 | x :: lks,h,l,m,hl,hm,h1,h2=>by
   have hp:=List.pairwise_cons.1 h
   have key:∀ {p q:Lk},q∈lks→p=x→p.hit dir a b=true→q.hit dir a b=true→False:=fun {p q} hq he hp1 hq1=>by
     have h3:=hp.1 q hq
     subst he
     have h4:q.hit dir p.a p.b=q.hit dir a b:=hit_same (hit_both (hit_self dir p) hp1)
     rw [h4,hq1] at h3
     cases h3
   rcases List.mem_cons.1 hl with e1|e1 <;> rcases List.mem_cons.1 hm with e2|e2
   · exact e1.trans e2.symm
   · exact (key e2 e1 h1 h2).elim
   · exact (key e1 e2 h2 h1).elim
   · exact uniq_hit hp.2 e1 e2 h1 h2
theorem hit_congr {dir:Bool} {l m:Lk} {x y:ByteArray} (ha:l.a=m.a) (hb:l.b=m.b):l.hit dir x y=m.hit dir x y:=by
 unfold Lk.hit
 rw [ha,hb]
theorem findL_upd (dir:Bool) (a b:ByteArray) (s:PS) (x y:ByteArray):∀ lks:List Lk,findL dir (updL dir lks a b s) x y=(findL dir lks x y).map fun m=>if m.hit dir a b=true then { m with wt:=s.1,es:=s.2 } else m:=by
 intro lks
 unfold findL updL
 rw [List.find?_map]
 congr 1
 congr 1
 funext m
 obtain ⟨e1,e2,_⟩:=upd_ends dir a b s m
 exact hit_congr e1 e2
theorem GRep.updE {w w':World} {G:GS} (h:GRep w G) {a b:ByteArray} {l:Lk} (hl:findL G.dir G.lks a b=some l) (s:PS) {c':St1} (hs:SRep w' G.sB c') (hvs:c'.vs=G.c.vs) (hps:c'.ps=G.c.ps) (hown:∀ k∈c'.own,k∈G.c.own∨w.heap.size≤k)
   (f:Fr (fun k=>k∈G.c.own∨k=l.at_) w w') (hm:SM w' l.at_ (ats s.2))
   (out:∀ x y,Same2 G.dir a b x y→edgeAt c'.outs c'.inn x y=some (ev x y l.at_ s.1)) (out':∀ x y,¬ Same2 G.dir a b x y→edgeAt c'.outs c'.inn x y=edgeAt G.c.outs G.c.inn x y)
   (inn:∀ x y,Same2 G.dir a b x y→edgeAt c'.inns c'.inn y x=some (ev x y l.at_ s.1)) (inn':∀ x y,¬ Same2 G.dir a b x y→edgeAt c'.inns c'.inn y x=edgeAt G.c.inns G.c.inn y x) :
   GStep w G w' { G with c:=c',lks:=updL G.dir G.lks a b s }:=by
 have lo:=h.latOk
 obtain ⟨lm,lh⟩:=findL_mem hl
 have mo:∀ k,k∈G.c.own→k∈G.own:=fun k hk=>by
   simp only [GS.own,List.mem_cons,List.mem_append]
   exact .inr (.inr (.inr (.inl hk)))
 have la:l.at_∈G.own:=by
   simp only [GS.own,List.mem_cons,List.mem_append,List.mem_map]
   exact .inr (.inr (.inr (.inr (.inr ⟨l,lm,rfl⟩))))
 have ats':(updL G.dir G.lks a b s).map (·.at_)=G.lks.map (·.at_):=by
   unfold updL
   rw [List.map_map]
   refine List.map_congr_left fun m _ => ?_
   exact (upd_ends G.dir a b s m).2.2
 have val:∀ x y,(findL G.dir (updL G.dir G.lks a b s) x y).map (fun l=>ev x y l.at_ l.wt)=(findL G.dir G.lks x y).map fun m=>if m.hit G.dir a b=true then ev x y m.at_ s.1 else ev x y m.at_ m.wt:=fun x y=>by
   rw [findL_upd,Option.map_map]
   congr 1
   funext m
   simp only [Function.comp_def]
   split <;> rfl
 have vs:∀ x y,Same2 G.dir a b x y→(findL G.dir (updL G.dir G.lks a b s) x y).map (fun l=>ev x y l.at_ l.wt)=some (ev x y l.at_ s.1):=fun x y hh=>by
   have e:findL G.dir G.lks x y=some l:=by
     rw [← hl]
     unfold findL
     congr 1
     funext m
     exact hit_same hh
   rw [val,e,Option.map_some,if_pos lh]
 have vn:∀ x y,¬ Same2 G.dir a b x y→(findL G.dir (updL G.dir G.lks a b s) x y).map (fun l=>ev x y l.at_ l.wt)=(findL G.dir G.lks x y).map fun l=>ev x y l.at_ l.wt:=fun x y hh=>by
   rw [val]
   cases hf:findL G.dir G.lks x y with
   | none=>rfl
   | some m =>
     have hmx:=(findL_mem hf).2
     have:m.hit G.dir a b≠true:=fun q=>hh (hit_both hmx q)
     rw [Option.map_some,Option.map_some,if_neg this]
 have rep:GRep w' { G with c:=c',lks:=updL G.dir G.lks a b s }:=by
   refine h.setL hs hvs hps hown (f.mono fun k hk=>hk.imp id fun e=>⟨l,lm,e.symm⟩) ?_ (by rw [ats'];exact lo.2) (fun x y => ?_) (fun x y => ?_) ?_ ?_ ?_
   · intro m' hm'
     obtain ⟨m,hmm,rfl⟩:=List.mem_map.1 hm'
     obtain ⟨q1,q2⟩:=lo.1 m hmm
     rw [(upd_ends G.dir a b s m).2.2]
     refine ⟨q1,q2,?_⟩
     by_cases hh:m.hit G.dir a b=true
     · rw [if_pos hh,uniq_hit h.lnd hmm lm hh lh]
       exact hm
     · rw [if_neg hh]
       refine (h.la m hmm).fr f ?_
       rintro (r|r)
       · refine q2 ?_
         simp only [GS.base,List.mem_cons,List.mem_append]
         exact .inr (.inr (.inr (.inr (.inl r))))
       · have e:m=l:=by
           have hnd:=lo.2
           rw [List.Nodup,List.pairwise_map] at hnd
           exact Classical.byContradiction fun hne=>by
             obtain ⟨i,hi,ei⟩:=List.mem_iff_getElem.1 hmm
             obtain ⟨j,hj,ej⟩:=List.mem_iff_getElem.1 lm
             rcases Nat.lt_trichotomy i j with o|o|o
             · have:=List.pairwise_iff_getElem.1 hnd i j hi hj o;rw [ei,ej] at this;exact this r
             · subst o;exact hne (ei.symm.trans ej)
             · have:=List.pairwise_iff_getElem.1 hnd j i hj hi o;rw [ei,ej] at this;exact this r.symm
         rw [e] at hh
         exact hh lh
   · by_cases hh:Same2 G.dir a b x y
     · rw [out x y hh,vs x y hh]
     · rw [out' x y hh,vn x y hh];exact h.out x y
   · by_cases hh:Same2 G.dir a b x y
     · rw [inn x y hh,vs x y hh]
     · rw [inn' x y hh,vn x y hh];exact h.inn x y
   · intro m' hm'
     obtain ⟨m,hmm,rfl⟩:=List.mem_map.1 hm'
     rw [(upd_ends G.dir a b s m).1,(upd_ends G.dir a b s m).2.1]
     exact h.ends m hmm
   · intro hd m' hm'
     obtain ⟨m,hmm,rfl⟩:=List.mem_map.1 hm'
     rw [(upd_ends G.dir a b s m).1,(upd_ends G.dir a b s m).2.1]
     exact h.loop hd m hmm
   · unfold updL
     rw [List.pairwise_map]
     refine h.lnd.imp fun {p q} hpq => ?_
     rw [(upd_ends G.dir a b s p).1,(upd_ends G.dir a b s p).2.1,hit_congr (upd_ends G.dir a b s q).1 (upd_ends G.dir a b s q).2.1]
     exact hpq
 refine ⟨rep,f.mono fun k hk => ?_,fun k hk => ?_,G.same_refl⟩
 · rcases hk with r|r
   · exact mo k r
   · rw [r];exact la
 · have hk':k∈G.gB :: G.tB :: G.sB :: (c'.own ++ (G.pts.map (·.at_) ++ (updL G.dir G.lks a b s).map (·.at_))):=hk
   rw [ats'] at hk'
   simp only [GS.own,List.mem_cons,List.mem_append] at hk' ⊢
   rcases hk' with r|r|r|r|r
   · exact .inl (.inl r)
   · exact .inl (.inr (.inl r))
   · exact .inl (.inr (.inr (.inl r)))
   · rcases hown k r with z|z
     · exact .inl (.inr (.inr (.inr (.inl z))))
     · exact .inr z
   · exact .inl (.inr (.inr (.inr (.inr r))))
theorem fr_undrew {S:Nat→Prop} {w w':World} (h:Fr S w.drew w'):Fr S w w':=⟨h.os,h.tape,h.output,h.size,h.block⟩
theorem ok_apart {w wr:World} {o:Opt} {pb mb:Nat} {es:Ents} (h:o.ok w) (hm:SM w mb es) (hp:w.heap.size≤pb) (f:Fr (fun k=>k=pb∨k=mb) w wr):o.ok wr:=by
 have keep:∀ k x,w.cell? ⟨k,0,none⟩=some x→wr.cell? ⟨k,0,none⟩=some x:=fun k x hx=>by
   have l:=World.block_lt_of_cell? w _ hx
   simp only at l
   rw [f.cell (p:=⟨k,0,none⟩) l]
   · exact hx
   · rintro (q|q)
     · simp only at q;omega
     · simp only at q
       rw [q,sm_nocell hm] at hx
       cases hx
 cases o with
 | wt m kb=>exact keep kb _ h
 | at_ x y bv bk=>exact ⟨keep bv _ h.1,keep bk _ h.2⟩
theorem AddPost.ownk {w w':World} {s:Nat} {c:St1} {a t:ByteArray} {v:Value} (p:AddPost w s c a t v w'):∃ c',SRep w' s c'∧c'.vs=c.vs∧c'.ps=c.ps∧(∀ b∈c'.own,b∈c.own∨w.heap.size≤b) ∧
     (∀ x y,edgeAt c'.outs c'.inn x y=if x=a∧y=t then some v else edgeAt c.outs c.inn x y) ∧
     (∀ x y,edgeAt c'.inns c'.inn y x=if x=a∧y=t then some v else edgeAt c.inns c.inn y x)∧Fr (· ∈ c.own) w w':=by
 obtain ⟨⟨c',s1,s2,s3,s4,s5,s6⟩,f⟩:=p
 exact ⟨c',s1,s2,s3,s4,s5,s6,f⟩
theorem supde {w:World} {s:Nat} {c:St1} (h:SRep w s c) {a t x y:ByteArray} {at_ at':Nat} {wt wt':Int} (ho:edgeAt c.outs c.inn a t=some (ev a t at' wt')) {v':Value} (hi:edgeAt c.inns c.inn t a=some v') :
   Calls Tryz.prog 224 #[.pointer (some ⟨s,0,none⟩),.string a,.string t,ev x y at_ wt] w fun e w'=>e=.returned .nilIface∧AddPost w s c a t (ev x y at_ wt) w':=by
 obtain ⟨ni,hni⟩:=edgeAt_find hi
 unfold edgeAt at ho
 obtain ⟨no,h1,h2⟩:=Option.bind_eq_some_iff.1 ho
 exact upde_yes w s c h a t x y at_ wt no ni h1 hni a t at' wt' h2
theorem dupd_step {w wr w':World} {G:GS} (h:GRep w G) (hd:G.dir=true) {a b:ByteArray} {l:Lk} (hl:findL G.dir G.lks a b=some l) (s:PS) {pb:Nat} (hpb:w.heap.size≤pb) (f:Fr (fun k=>k=pb∨k=l.at_) w wr) (hm:SM wr l.at_ (ats s.2))
   (p:AddPost wr G.sB G.c a b (ev a b l.at_ s.1) w'):∃ c',GStep w G w' { G with c:=c',lks:=updL G.dir G.lks a b s }:=by
 obtain ⟨c',s1,s2,s3,s4,s5,s6,f'⟩:=p.ownk
 have hh:∀ x y,Same2 G.dir a b x y↔(x=a∧y=b):=fun x y=>by unfold Same2;rw [hd];simp
 have ln:l.at_∉G.c.own:=fun q=>by
   have:=(h.latOk.1 l (findL_mem hl).1).2
   simp only [GS.base,List.mem_cons,List.mem_append,not_or] at this
   exact this.2.2.2.2.1 q
 refine ⟨c',h.updE hl s s1 s2 s3 (fun k hk=>(s4 k hk).imp id fun q=>Nat.le_trans f.size q) ?_ (hm.fr f' ln) (fun x y q => ?_) (fun x y q => ?_) (fun x y q => ?_) (fun x y q => ?_)⟩
 · refine (f.shrink fun k hk => ?_).trans f' fun k hk=>.inl (.inl hk)
   rcases hk with q|q
   · exact .inr (by omega)
   · exact .inl (.inr q)
 · obtain ⟨rfl,rfl⟩:=(hh x y).1 q
   rw [s5,if_pos ⟨rfl,rfl⟩]
 · rw [s5,if_neg (fun r=>q ((hh x y).2 r))]
 · obtain ⟨rfl,rfl⟩:=(hh x y).1 q
   rw [s6,if_pos ⟨rfl,rfl⟩]
 · rw [s6,if_neg (fun r=>q ((hh x y).2 r))]
theorem uupd_step {w wr w1 w':World} {G:GS} (h:GRep w G) (hd:G.dir=false) {a b:ByteArray} {l:Lk} (hl:findL G.dir G.lks a b=some l) (hab:a≠b) (s:PS) {pb:Nat} (hpb:w.heap.size≤pb) (f:Fr (fun k=>k=pb∨k=l.at_) w wr) (hm:SM wr l.at_ (ats s.2))
   {c1:St1} (t2:c1.vs=G.c.vs) (t3:c1.ps=G.c.ps) (t4:∀ k∈c1.own,k∈G.c.own∨wr.heap.size≤k)
   (t5:∀ x y,edgeAt c1.outs c1.inn x y=if x=a∧y=b then some (ev a b l.at_ s.1) else edgeAt G.c.outs G.c.inn x y) (t6:∀ x y,edgeAt c1.inns c1.inn y x=if x=a∧y=b then some (ev a b l.at_ s.1) else edgeAt G.c.inns G.c.inn y x)
   (f1:Fr (· ∈ G.c.own) wr w1) (p:AddPost w1 G.sB c1 b a (ev b a l.at_ s.1) w'):∃ c',GStep w G w' { G with c:=c',lks:=updL G.dir G.lks a b s }:=by
 obtain ⟨c',s1,s2,s3,s4,s5,s6,f'⟩:=p.ownk
 have hh:∀ x y,Same2 G.dir a b x y↔(x=a∧y=b)∨(x=b∧y=a):=fun x y=>by unfold Same2;rw [hd];simp
 have ln:l.at_∉G.c.own:=fun q=>by
   have:=(h.latOk.1 l (findL_mem hl).1).2
   simp only [GS.base,List.mem_cons,List.mem_append,not_or] at this
   exact this.2.2.2.2.1 q
 have ll:l.at_ < wr.heap.size:=hm.lt
 have f2:Fr (fun k=>k∈G.c.own) wr w':=f1.trans f' fun k hk=>t4 k hk
 have sz:=f.size
 have sz1:=f1.size
 refine ⟨c',h.updE hl s s1 (s2.trans t2) (s3.trans t3) (fun k hk => ?_) ?_ (hm.fr f2 ln) (fun x y q => ?_) (fun x y q => ?_) (fun x y q => ?_) (fun x y q => ?_)⟩
 · rcases s4 k hk with q|q
   · exact (t4 k q).imp id fun q=>by omega
   · exact .inr (by omega)
 · refine (f.shrink fun k hk => ?_).trans f2 fun k hk=>.inl (.inl hk)
   rcases hk with q|q
   · exact .inr (by omega)
   · exact .inl (.inr q)
 · rw [s5,t5]
   rcases (hh x y).1 q with ⟨rfl,rfl⟩|⟨rfl,rfl⟩
   · rw [if_neg (fun r=>hab r.1),if_pos ⟨rfl,rfl⟩]
   · rw [if_pos ⟨rfl,rfl⟩]
 · rw [s5,t5,if_neg (fun r=>q ((hh x y).2 (.inr r))),if_neg (fun r=>q ((hh x y).2 (.inl r)))]
 · rw [s6,t6]
   rcases (hh x y).1 q with ⟨rfl,rfl⟩|⟨rfl,rfl⟩
   · rw [if_neg (fun r=>hab r.1),if_pos ⟨rfl,rfl⟩]
   · rw [if_pos ⟨rfl,rfl⟩]
 · rw [s6,t6,if_neg (fun r=>q ((hh x y).2 (.inr r))),if_neg (fun r=>q ((hh x y).2 (.inl r)))]
def UpdPost (w:World) (G:GS) (eb:Nat→Addr) (a b:ByteArray) (os:List Opt) (e:Ending) (w':World):Prop :=
 ∃ ev:EV,ev.ok∧e=.returned (ev.val eb)∧((findL G.dir G.lks a b=none∧ev.code=5∧GStep w G w' G)∨∃ l,findL G.dir G.lks a b=some l∧ev.code=0∧∃ c',GStep w G w' { G with c:=c',lks:=updL G.dir G.lks a b (os.foldl Opt.app (l.wt,l.es)) })
theorem dupd_no (w:World) (G:GS) (h:GRep w G) (B:Nat) (eb:Nat→Addr) (E:ErrsOk w B eb) (a b:ByteArray) (ov:Value) (os:List Opt) (hl:findL G.dir G.lks a b=none) :
   Calls Tryz.prog 187 #[.pointer (some ⟨G.gB,0,none⟩),.string a,.string b,ov] w fun e w'=>UpdPost w G eb a b os e w':=by
 have HE:=Lib.hid (sedge_no h E hl)
 have HG:=Lib.hid h
 have HL:=Lib.hid hl
 have g2:=h.facts.1.2.2
 have l0:=h.facts.2.2.1
 have mE:=mEdge
 clear h E hl
 go_enter Tryz.func187,Tryz.ntmps187
 go_wp2_with (first
   | (go_at_call 219;refine HE.out.mono ?_;rintro e w1 ⟨rfl,f1⟩;have F1:=Lib.hid f1;clear f1))
 go_ret
 exact ⟨.e 4,by simp [EV.ok],rfl,.inl ⟨HL.out,rfl,GStep.refl HG.out (F1.out.alloc _)⟩⟩
theorem uupd_no (w:World) (G:GS) (h:GRep w G) (B:Nat) (eb:Nat→Addr) (E:ErrsOk w B eb) (a b:ByteArray) (ov:Value) (os:List Opt) (hl:findL G.dir G.lks a b=none) :
   Calls Tryz.prog 212 #[.pointer (some ⟨G.gB,0,none⟩),.string a,.string b,ov] w fun e w'=>UpdPost w G eb a b os e w':=by
 have HE:=Lib.hid (sedge_no h E hl)
 have HG:=Lib.hid h
 have HL:=Lib.hid hl
 have g2:=h.facts.1.2.2
 have l0:=h.facts.2.2.1
 have mE:=mEdge
 clear h E hl
 go_enter Tryz.func212,Tryz.ntmps212
 go_wp2_with (first
   | (go_at_call 219;refine HE.out.mono ?_;rintro e w1 ⟨rfl,f1⟩;have F1:=Lib.hid f1;clear f1))
 go_ret
 exact ⟨.e 4,by simp [EV.ok],rfl,.inl ⟨HL.out,rfl,GStep.refl HG.out (F1.out.alloc _)⟩⟩
theorem dupd_yes (w:World) (G:GS) (h:GRep w G) (hd:G.dir=true) (eb:Nat→Addr) (a b:ByteArray) (ov:Value) (os:List Opt) (ho:Opts w ov os Opt.eV) (l:Lk) (hl:findL G.dir G.lks a b=some l) :
   Calls Tryz.prog 187 #[.pointer (some ⟨G.gB,0,none⟩),.string a,.string b,ov] w fun e w'=>UpdPost w G eb a b os e w':=by
 have HE:=Lib.hid (sedge_yes h hl)
 obtain ⟨ob,cap,rfl,hcap,hcell,hok,hlen⟩:=ho
 have O:=hid4 hcell hok hcap hlen
 have lm:=(findL_mem hl).1
 have SML:=Lib.hid (h.la l lm)
 have LB:=Lib.hid (h.latOk.1 l lm)
 have hsw:True:=trivial
 have HG:=hid4 h hd hl hsw
 have g2:=h.facts.1.2.2
 have l0:=h.facts.2.2.1
 have mE:=mEdge
 have mU:=mUpdateEdge
 clear h hd hl hcell hok hcap hlen lm hsw
 go_enter Tryz.func187,Tryz.ntmps187
 go_wp2_with fail
 refine HE.out.mono ?_
 rintro e w1 ⟨rfl,f1⟩
 have F1:=Lib.hid f1
 clear f1 g2 l0
 go_wp2_with fail
 try go_frame
 have LT:=Lib.hid (show ob < w.heap.size∨os = [] from by
   cases os with
   | nil=>exact .inr rfl
   | cons o os=>exact .inl (World.block_lt_of_cell? w _ (O.out.1 0 o rfl)))
 go_loopg [28] os.length (fun k c wr=>EL (w1.alloc (.cells #[.string a,.string b,.map (some l.at_),.int .i64 l.wt,.nilIface] 144)) w1.heap.size l.at_ a b (l.wt,l.es) os k c wr)
 case atStart =>
   refine ⟨0,rfl,rfl,Cells.new w1 #[.string a,.string b,.map (some l.at_),.int .i64 l.wt,.nilIface] 144,(SML.out.fr F1.out (fun q=>q)).alloc _,Fr.refl _ _⟩
 case round =>
   obtain ⟨i,hk,rfl,hc,hm,f⟩:=hrel
   have A:=hid4 hk hc hm f
   clear hk hc hm f
   have F2:=Lib.hid (show Fr (fun k=>k=w1.heap.size∨k=l.at_) w wr from ((F1.out.alloc _).mono (fun k q=>q.elim)).trans A.out.2.2.2 fun k q=>.inl q)
   have ne:=Lib.hid (show w1.heap.size≠l.at_ from fun q=>by have h1:=SML.out.lt;have h2:=F1.out.size;omega)
   by_cases hi:i < os.length
   · have hsm:os.length≤1000000:=O.out.2.2.2
     have hc0:=O.out.1 i os[i] (List.getElem?_eq_getElem hi)
     have hcell:=(F2.out.cell (p:=⟨ob,i,none⟩) (by simp only;rcases LT.out with q|q;exact q;rw [q] at hi;simp at hi) (by simp only;have h1:=F1.out.size;rcases LT.out with q|q;(rintro (r|r);omega;rw [r,sm_nocell SML.out] at hc0;cases hc0);rw [q] at hi;simp at hi)).trans hc0
     have hok:=ok_apart (O.out.2.1 os[i] (List.getElem_mem hi)) SML.out F1.out.size F2.out
     have hg:=List.getElem?_eq_getElem hi
     clear hc0
     generalize os[i]=o at hcell hok hg
     cases o with
     | wt n kb =>
       have HS:=Lib.hid hg
       change wr.cell? ⟨ob,i,none⟩=some (.func (Fn.func 85) #[] #[.pointer (some ⟨kb,0,none⟩)]) at hcell
       have hok':=Lib.hid (show wr.cell? ⟨kb,0,none⟩=some (.int .i64 n) from hok)
       clear hok hg
       go_wp2_with (first
         | (go_at_call 85;refine (ew1 wr _ _ _ _ _ n kb A.out.2.1 hok'.out).mono ?_;rintro e w3 ⟨rfl,hc',f'⟩;have D:=hid2 hc' f';clear hc' f'))
       have R:=EL.wt A.out.1 hi HS.out ne.out A.out.2.2.1 A.out.2.2.2 D.out.1 D.out.2
       go_roundg (gk - 1)
       case measure=>exact R.1
       case rel=>exact R.2
     | at_ k v bv bk =>
       have HS:=Lib.hid hg
       change wr.cell? ⟨ob,i,none⟩=some (.func (Fn.func 87) #[] #[.pointer (some ⟨bv,0,none⟩),.pointer (some ⟨bk,0,none⟩)]) at hcell
       have hok':=Lib.hid (show wr.cell? ⟨bv,0,none⟩=some (.string v)∧wr.cell? ⟨bk,0,none⟩=some (.string k) from hok)
       clear hok hg
       go_wp2_with (first
         | (go_at_call 87;refine (ea1 wr _ _ _ _ _ _ k v bv bk A.out.2.1 A.out.2.2.1 hok'.out.1 hok'.out.2).mono ?_;rintro e w3 ⟨rfl,hm',f'⟩;have D:=hid2 hm' f';clear hm' f'))
       have R:=EL.at_ A.out.1 hi HS.out ne.out A.out.2.1 A.out.2.2.2 D.out.1 D.out.2
       go_roundg (gk - 1)
       case measure=>exact R.1
       case rel=>exact R.2
   · have hi':i=os.length:=by have:=A.out.1;omega
     subst hi'
     have tk:(os.take os.length).foldl Opt.app (l.wt,l.es)=os.foldl Opt.app (l.wt,l.es):=by rw [List.take_length]
     have hc1:=A.out.2.1
     have hm1:=A.out.2.2.1
     rw [tk] at hc1 hm1
     have S1:=hid2 hc1 hm1
     clear tk hc1 hm1
     generalize hps:os.foldl Opt.app (l.wt,l.es)=ps at S1
     have HPS:=Lib.hid hps
     clear hps
     have LN:=Lib.hid (show ∀ k,k∈G.own→k≠w1.heap.size from fun k hk q=>by have h1:=HG.out.1.lt k hk;have h2:=F1.out.size;omega)
     have LO:=Lib.hid (show l.at_≠G.gB∧l.at_≠G.sB∧l.at_∉G.c.own from by
       have:=LB.out.2
       simp only [GS.base,List.mem_cons,List.mem_append,not_or] at this
       exact ⟨this.1,this.2.2.1,this.2.2.2.2.1⟩)
     have g2:=(HG.out.1.g.fr F2.out (by rintro (r|r);exact LN.out _ (by simp [GS.own]) r;exact LO.out.1 r.symm)).cell 2 _ rfl
     have l0:=(HG.out.1.g.fr F2.out (by rintro (r|r);exact LN.out _ (by simp [GS.own]) r;exact LO.out.1 r.symm)).lt
     have HS:=Lib.hid (show SRep wr G.sB G.c from HG.out.1.s.fr F2.out (by rintro (r|r);exact LN.out _ (by simp [GS.own]) r;exact LO.out.2.1 r.symm) (by rintro k hk (r|r);exact LN.out _ (by simp only [GS.own,List.mem_cons,List.mem_append];exact .inr (.inr (.inr (.inl hk)))) r;exact LO.out.2.2 (r▸hk)))
     have hb0:=S1.out.1.cell 0 _ rfl
     have hb1:=S1.out.1.cell 1 _ rfl
     have hb2:=S1.out.1.cell 2 _ rfl
     have hb3:=S1.out.1.cell 3 _ rfl
     have hb4:=S1.out.1.cell 4 _ rfl
     have hbl:=S1.out.1.lt
     go_wp2_with fail
     (refine region_tail 7 (by kernel_rfl) (by kernel_rfl) ?_;simp only [List.take_succ_cons,List.take_zero,List.drop_succ_cons,List.drop_zero];(repeat still_step);refine wpStill_nil ?_)
     go_wp2_with fail
     refine (supde (show SRep wr.drew G.sB G.c from HS.out.drew) (by rw [HG.out.1.out,HG.out.2.2.1];rfl) (v':=ev a b l.at_ l.wt) (by rw [HG.out.1.inn,HG.out.2.2.1];rfl)).mono ?_
     rintro e w4 ⟨rfl,rp⟩
     have RP:=Lib.hid rp
     clear rp
     go_wp2_with fail
     go_ret
     obtain ⟨c',g⟩:=dupd_step HG.out.1 HG.out.2.1 HG.out.2.2.1 ps F1.out.size F2.out.drew S1.out.2.drew RP.out
     exact ⟨.nil,trivial,rfl,.inr ⟨l,HG.out.2.2.1,rfl,c',by rw [HPS.out];exact g⟩⟩
theorem uupd_yes (w:World) (G:GS) (h:GRep w G) (hd:G.dir=false) (eb:Nat→Addr) (a b:ByteArray) (ov:Value) (os:List Opt) (ho:Opts w ov os Opt.eV) (l:Lk) (hl:findL G.dir G.lks a b=some l) :
   Calls Tryz.prog 212 #[.pointer (some ⟨G.gB,0,none⟩),.string a,.string b,ov] w fun e w'=>UpdPost w G eb a b os e w':=by
 have HE:=Lib.hid (sedge_yes h hl)
 obtain ⟨ob,cap,rfl,hcap,hcell,hok,hlen⟩:=ho
 have O:=hid4 hcell hok hcap hlen
 have lm:=(findL_mem hl).1
 have SML:=Lib.hid (h.la l lm)
 have LB:=Lib.hid (h.latOk.1 l lm)
 have hsw:findL G.dir G.lks b a=some l∧a≠b:=by
   refine ⟨?_,?_⟩
   · have hl':=hl
     rw [hd] at hl' ⊢
     exact (findL_swap _ _ _).trans hl'
   · have hne:=h.loop hd l lm
     rcases hit_cases (findL_mem hl).2 with ⟨e1,e2⟩|⟨_,e1,e2⟩
     · exact fun e=>hne (e1.trans (e.trans e2.symm))
     · exact fun e=>hne (e1.trans (e.symm.trans e2.symm))
 have HG:=hid4 h hd hl hsw
 have g2:=h.facts.1.2.2
 have l0:=h.facts.2.2.1
 have mE:=mEdge
 have mU:=mUpdateEdge
 clear h hd hl hcell hok hcap hlen lm hsw
 go_enter Tryz.func212,Tryz.ntmps212
 go_wp2_with fail
 refine HE.out.mono ?_
 rintro e w1 ⟨rfl,f1⟩
 have F1:=Lib.hid f1
 clear f1 g2 l0
 go_wp2_with fail
 try go_frame
 have LT:=Lib.hid (show ob < w.heap.size∨os = [] from by
   cases os with
   | nil=>exact .inr rfl
   | cons o os=>exact .inl (World.block_lt_of_cell? w _ (O.out.1 0 o rfl)))
 go_loopg [30] os.length (fun k c wr=>EL (w1.alloc (.cells #[.string a,.string b,.map (some l.at_),.int .i64 l.wt,.nilIface] 144)) w1.heap.size l.at_ a b (l.wt,l.es) os k c wr)
 case atStart =>
   refine ⟨0,rfl,rfl,Cells.new w1 #[.string a,.string b,.map (some l.at_),.int .i64 l.wt,.nilIface] 144,(SML.out.fr F1.out (fun q=>q)).alloc _,Fr.refl _ _⟩
 case round =>
   obtain ⟨i,hk,rfl,hc,hm,f⟩:=hrel
   have A:=hid4 hk hc hm f
   clear hk hc hm f
   have F2:=Lib.hid (show Fr (fun k=>k=w1.heap.size∨k=l.at_) w wr from ((F1.out.alloc _).mono (fun k q=>q.elim)).trans A.out.2.2.2 fun k q=>.inl q)
   have ne:=Lib.hid (show w1.heap.size≠l.at_ from fun q=>by have h1:=SML.out.lt;have h2:=F1.out.size;omega)
   by_cases hi:i < os.length
   · have hsm:os.length≤1000000:=O.out.2.2.2
     have hc0:=O.out.1 i os[i] (List.getElem?_eq_getElem hi)
     have hcell:=(F2.out.cell (p:=⟨ob,i,none⟩) (by simp only;rcases LT.out with q|q;exact q;rw [q] at hi;simp at hi) (by simp only;have h1:=F1.out.size;rcases LT.out with q|q;(rintro (r|r);omega;rw [r,sm_nocell SML.out] at hc0;cases hc0);rw [q] at hi;simp at hi)).trans hc0
     have hok:=ok_apart (O.out.2.1 os[i] (List.getElem_mem hi)) SML.out F1.out.size F2.out
     have hg:=List.getElem?_eq_getElem hi
     clear hc0
     generalize os[i]=o at hcell hok hg
     cases o with
     | wt n kb =>
       have HS:=Lib.hid hg
       change wr.cell? ⟨ob,i,none⟩=some (.func (Fn.func 85) #[] #[.pointer (some ⟨kb,0,none⟩)]) at hcell
       have hok':=Lib.hid (show wr.cell? ⟨kb,0,none⟩=some (.int .i64 n) from hok)
       clear hok hg
       go_wp2_with (first
         | (go_at_call 85;refine (ew1 wr _ _ _ _ _ n kb A.out.2.1 hok'.out).mono ?_;rintro e w3 ⟨rfl,hc',f'⟩;have D:=hid2 hc' f';clear hc' f'))
       have R:=EL.wt A.out.1 hi HS.out ne.out A.out.2.2.1 A.out.2.2.2 D.out.1 D.out.2
       go_roundg (gk - 1)
       case measure=>exact R.1
       case rel=>exact R.2
     | at_ k v bv bk =>
       have HS:=Lib.hid hg
       change wr.cell? ⟨ob,i,none⟩=some (.func (Fn.func 87) #[] #[.pointer (some ⟨bv,0,none⟩),.pointer (some ⟨bk,0,none⟩)]) at hcell
       have hok':=Lib.hid (show wr.cell? ⟨bv,0,none⟩=some (.string v)∧wr.cell? ⟨bk,0,none⟩=some (.string k) from hok)
       clear hok hg
       go_wp2_with (first
         | (go_at_call 87;refine (ea1 wr _ _ _ _ _ _ k v bv bk A.out.2.1 A.out.2.2.1 hok'.out.1 hok'.out.2).mono ?_;rintro e w3 ⟨rfl,hm',f'⟩;have D:=hid2 hm' f';clear hm' f'))
       have R:=EL.at_ A.out.1 hi HS.out ne.out A.out.2.1 A.out.2.2.2 D.out.1 D.out.2
       go_roundg (gk - 1)
       case measure=>exact R.1
       case rel=>exact R.2
   · have hi':i=os.length:=by have:=A.out.1;omega
     subst hi'
     have tk:(os.take os.length).foldl Opt.app (l.wt,l.es)=os.foldl Opt.app (l.wt,l.es):=by rw [List.take_length]
     have hc1:=A.out.2.1
     have hm1:=A.out.2.2.1
     rw [tk] at hc1 hm1
     have S1:=hid2 hc1 hm1
     clear tk hc1 hm1
     generalize hps:os.foldl Opt.app (l.wt,l.es)=ps at S1
     have HPS:=Lib.hid hps
     clear hps
     have LN:=Lib.hid (show ∀ k,k∈G.own→k≠w1.heap.size from fun k hk q=>by have h1:=HG.out.1.lt k hk;have h2:=F1.out.size;omega)
     have LO:=Lib.hid (show l.at_≠G.gB∧l.at_≠G.sB∧l.at_∉G.c.own from by
       have:=LB.out.2
       simp only [GS.base,List.mem_cons,List.mem_append,not_or] at this
       exact ⟨this.1,this.2.2.1,this.2.2.2.2.1⟩)
     have g2:=(HG.out.1.g.fr F2.out (by rintro (r|r);exact LN.out _ (by simp [GS.own]) r;exact LO.out.1 r.symm)).cell 2 _ rfl
     have l0:=(HG.out.1.g.fr F2.out (by rintro (r|r);exact LN.out _ (by simp [GS.own]) r;exact LO.out.1 r.symm)).lt
     have HS:=Lib.hid (show SRep wr G.sB G.c from HG.out.1.s.fr F2.out (by rintro (r|r);exact LN.out _ (by simp [GS.own]) r;exact LO.out.2.1 r.symm) (by rintro k hk (r|r);exact LN.out _ (by simp only [GS.own,List.mem_cons,List.mem_append];exact .inr (.inr (.inr (.inl hk)))) r;exact LO.out.2.2 (r▸hk)))
     have hb0:=S1.out.1.cell 0 _ rfl
     have hb1:=S1.out.1.cell 1 _ rfl
     have hb2:=S1.out.1.cell 2 _ rfl
     have hb3:=S1.out.1.cell 3 _ rfl
     have hb4:=S1.out.1.cell 4 _ rfl
     have hbl:=S1.out.1.lt
     go_wp2_with fail
     (refine region_tail 7 (by kernel_rfl) (by kernel_rfl) ?_;simp only [List.take_succ_cons,List.take_zero,List.drop_succ_cons,List.drop_zero];(repeat still_step);refine wpStill_nil ?_)
     go_wp2_with fail
     refine (supde (show SRep wr.drew G.sB G.c from HS.out.drew) (by rw [HG.out.1.out,HG.out.2.2.1];rfl) (v':=ev a b l.at_ l.wt) (by rw [HG.out.1.inn,HG.out.2.2.1];rfl)).mono ?_
     rintro e w4 ⟨rfl,rp⟩
     obtain ⟨c1,s1,s2,s3,s4,s5,s6,f4⟩:=rp.ownk
     have C:=hid7 s1 s2 s3 s4 s5 s6 f4
     clear rp s1 s2 s3 s4 s5 s6 f4
     clear hb0 hb1 hb2 hb3 hb4 hbl g2 l0
     have LC:=Lib.hid (show ∀ k,k∈G.c.own→k∈G.own from fun k hk=>by simp only [GS.own,List.mem_cons,List.mem_append];exact .inr (.inr (.inr (.inl hk))))
     have F4:=Lib.hid (fr_undrew C.out.2.2.2.2.2.2)
     have B4:=Lib.hid (S1.out.1.fr F4.out (fun q=>LN.out _ (LC.out _ q) rfl))
     have GC:=Lib.hid ((HG.out.1.g.fr F2.out (by rintro (r|r);exact LN.out _ (by simp [GS.own]) r;exact LO.out.1 r.symm)).fr F4.out (fun q=>by have hn:=HG.out.1.nd;simp only [GS.own,List.nodup_cons,List.mem_cons,List.mem_append,not_or] at hn;exact hn.1.2.2.1 q))
     have g2:=GC.out.cell 2 _ rfl
     have l0:=GC.out.lt
     have hb0:=B4.out.cell 0 _ rfl
     have hb1:=B4.out.cell 1 _ rfl
     have hb2:=B4.out.cell 2 _ rfl
     have hb3:=B4.out.cell 3 _ rfl
     have hb4:=B4.out.cell 4 _ rfl
     have hbl:=B4.out.lt
     go_wp2_with fail
     (refine region_tail 7 (by kernel_rfl) (by kernel_rfl) ?_;simp only [List.take_succ_cons,List.take_zero,List.drop_succ_cons,List.drop_zero];(repeat still_step);refine wpStill_nil ?_)
     go_wp2_with fail
     refine (supde (show SRep (w4.alloc (.cells #[.string b,.string a,.map (some l.at_),.int .i64 ps.1,.nilIface] 144)).drew G.sB c1 from ((C.out.1.fr ((Fr.refl (fun _=>False) w4).alloc _) (fun q=>q) (fun _ _ q=>q))).drew) (by rw [C.out.2.2.2.2.1,if_neg (fun q=>HG.out.2.2.2.2 q.1.symm),HG.out.1.out,HG.out.2.2.2.1];rfl) (v':=ev b a l.at_ l.wt) (by rw [C.out.2.2.2.2.2.1,if_neg (fun q=>HG.out.2.2.2.2 q.1.symm),HG.out.1.inn,HG.out.2.2.2.1];rfl)).mono ?_
     rintro e w6 ⟨rfl,rp6⟩
     have RP:=Lib.hid rp6
     clear rp6
     go_wp2_with fail
     go_ret
     obtain ⟨c',g⟩:=uupd_step HG.out.1 HG.out.2.1 HG.out.2.2.1 HG.out.2.2.2.2 ps F1.out.size F2.out S1.out.2 C.out.2.1 C.out.2.2.1 C.out.2.2.2.1 C.out.2.2.2.2.1 C.out.2.2.2.2.2.1 ((F4.out.alloc _).drew) RP.out
     exact ⟨.nil,trivial,rfl,.inr ⟨l,HG.out.2.2.1,rfl,c',by rw [HPS.out];exact g⟩⟩
end Go.Proofs.YtbafaadmlpamiaaGreatDoor
