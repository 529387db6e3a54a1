import Derived.Test.YtbafaadmlpamiaaGreatDoorStep6
import Derived.Test.YtbafaadmlpamiaaGreatDoorStep8
import Derived.Maps.AppendAt
set_option maxRecDepth 100000
set_option maxHeartbeats 1000000
namespace Go.Proofs.YtbafaadmlpamiaaGreatDoor
open Go Go.Hy Go.RowKit
structure Small (s:St):Prop where
 ps:s.ps.length≤400000
 ls:s.ls.length≤400000
 pe:∀ p∈s.ps,p.es.length≤1000000
 le:∀ l∈s.ls,l.es.length≤1000000
def StepC (B:Nat) (eb:Nat→Addr) (s:St) (d:DoIn):Prop :=
 ∀ (w:World) (G:GS) (b0 b1 b2 b3 b4 b5:Bool) (hk:Nat) (ao:Option Addr) (n cap:Nat),GRep w G→G.st=s→HashC G.hk→ErrsOk w B eb→(∀ k∈G.own,B≤k)→PrOk w ao n cap d.prs →
   Calls Tryz.prog 39 #[G.val,kagg b0 b1 b2 b3 b4 b5 hk,doV d.op d.a d.b d.wt ao n cap] w fun e w' =>
     ∃ v G',e=.returned v∧ToldIn w' (fun q=>w.heap.size≤q∧q∉G'.own) v (s.step d).1∧G'.st=(s.step d).2∧GStep w G w' G'
theorem toldE_at (w:World) (p:Nat→Prop) (c:Nat):ToldIn w p (toldE c) { err:=c }:=⟨_,_,_,rfl,PairsIn.nil _ _,KeysIn.nil _ _,LinksIn.nil _ _⟩
theorem toldC_at (w:World) (p:Nat→Prop) (n m:Nat):ToldIn w p (toldC n m) { order:=n,size:=m }:=⟨_,_,_,rfl,PairsIn.nil _ _,KeysIn.nil _ _,LinksIn.nil _ _⟩
theorem told_asked {w w':World} {G:GS} (h:GRep w G) {v:Value} {t:Tl} (ht:ToldAt w' w.heap.size v t):ToldIn w' (fun q=>w.heap.size≤q∧q∉G.own) v t :=
 ht.imp fun q hq _=>⟨hq,fun hm=>by have:=h.lt q hm;omega⟩
theorem small_pts {w:World} {G:GS} (h:GRep w G) (hs:Small G.st):(∀ p∈G.pts,p.es.length≤1000000)∧(∀ l∈G.lks,l.es.length≤1000000)∧G.pts.length≤400000∧G.lks.length≤400000:=by
 refine ⟨fun p hp => ?_,fun l hl => ?_,?_,?_⟩
 · have:=hs.pe (Pt.sp p) (List.mem_map.2 ⟨p,hp,rfl⟩)
   unfold Pt.sp at this
   rwa [byK_len (ats_nodup (h.pa p hp))] at this
 · have:=hs.le (Lk.sl l) (List.mem_map.2 ⟨l,hl,rfl⟩)
   unfold Lk.sl at this
   rwa [byK_len (ats_nodup (h.la l hl))] at this
 · have:=hs.ps
   unfold GS.st at this
   simpa using this
 · have:=hs.ls
   unfold GS.st at this
   simpa using this
theorem byK_putAll (prs:List PP):byK (putAll prs)=byK prs:=byK_all prs
theorem val_dir {G:GS} (h:G.dir=true):G.val=.iface 162 (.pointer (some ⟨G.gB,0,none⟩)):=by unfold GS.val;rw [h];rfl
theorem val_undir {G:GS} (h:G.dir=false):G.val=.iface 164 (.pointer (some ⟨G.gB,0,none⟩)):=by unfold GS.val;rw [h];rfl
theorem st_addV (G:GS) (a b:ByteArray) (wt:Int) (prs:List PP) (c':St1) (mb:Nat) (hn:findP G.pts (hashM G.hk a)=none) :
   G.st.addV ⟨0,a,b,wt,prs⟩=({},({ G with c:=c',pts:=G.pts ++ [⟨hashM G.hk a,a,wt,mb,putAll prs⟩] }:GS).st):=by
 unfold St.addV
 have e:G.st.pt (hashM G.st.hk a)=none:=by
   have:G.st.hk=G.hk:=rfl
   rw [this,st_pt,hn]
   rfl
 simp only [e]
 unfold GS.st Pt.sp
 simp [byK_putAll]
theorem st_addV_old (G:GS) (a b:ByteArray) (wt:Int) (prs:List PP) {p:Pt} (hn:findP G.pts (hashM G.hk a)=some p):G.st.addV ⟨0,a,b,wt,prs⟩=({ err:=1 },G.st):=by
 unfold St.addV
 have e:G.st.pt (hashM G.st.hk a)=some (Pt.sp p):=by
   have:G.st.hk=G.hk:=rfl
   rw [this,st_pt,hn]
   rfl
 simp only [e]
theorem st_addE_none (G:GS) (a b:ByteArray) (wt:Int) (prs:List PP) (h:findP G.pts a=none∨findP G.pts b=none):G.st.addE ⟨2,a,b,wt,prs⟩=({ err:=2 },G.st):=by
 unfold St.addE
 rw [st_pt,st_pt]
 rcases h with h|h
 · rw [h];rfl
 · rw [h]
   cases findP G.pts a <;> rfl
theorem st_addE_old (G:GS) (a b:ByteArray) (wt:Int) (prs:List PP) (ha:findP G.pts a≠none) (hb:findP G.pts b≠none) (hl:findL G.dir G.lks a b≠none):G.st.addE ⟨2,a,b,wt,prs⟩=({ err:=4 },G.st):=by
 obtain ⟨p,hp⟩:=Option.ne_none_iff_exists'.1 ha
 obtain ⟨q,hq⟩:=Option.ne_none_iff_exists'.1 hb
 obtain ⟨l,hl⟩:=Option.ne_none_iff_exists'.1 hl
 unfold St.addE
 rw [st_pt,st_pt,st_lk,hp,hq,hl]
 rfl
theorem st_addE_new (G:GS) (a b:ByteArray) (wt:Int) (prs:List PP) (ha:findP G.pts a≠none) (hb:findP G.pts b≠none) (hl:findL G.dir G.lks a b=none) (hpr:¬ (G.pr=true∧Reach G.st.ls b a)) (c':St1) (mb:Nat) :
   G.st.addE ⟨2,a,b,wt,prs⟩=({},({ G with c:=c',lks:=G.lks ++ [⟨a,b,wt,mb,putAll prs⟩] }:GS).st):=by
 obtain ⟨p,hp⟩:=Option.ne_none_iff_exists'.1 ha
 obtain ⟨q,hq⟩:=Option.ne_none_iff_exists'.1 hb
 unfold St.addE
 rw [st_pt,st_pt,st_lk,hp,hq,hl]
 have e:¬ (G.st.pr=true∧Reach G.st.ls b a):=hpr
 simp only [Option.map_some,Option.map_none,if_neg e]
 unfold GS.st Lk.sl
 simp [byK_putAll]
def StCalm (s:St) (d:DoIn):Prop:=s.pt d.a=none∨s.pt d.b=none∨s.lk d.a d.b≠none∨s.pr=false
theorem calm_of {G:GS} {d:DoIn} (h:StCalm G.st d):Calm G d.a d.b:=by
 unfold StCalm at h
 rw [st_pt,st_pt,st_lk] at h
 rcases h with h|h|h|h
 · exact .inl (Option.map_eq_none_iff.1 h)
 · exact .inr (.inl (Option.map_eq_none_iff.1 h))
 · exact .inr (.inr (.inl fun e=>h (by rw [e];rfl)))
 · exact .inr (.inr (.inr h))
theorem dstepC0 (B:Nat) (eb:Nat→Addr) (s:St) (d:DoIn) (hop:d.op=0) (hd:s.dir=true) (hz:s.hk=2→d.a.size≤99):StepC B eb s d:=by
 intro w G b0 b1 b2 b3 b4 b5 hk ao n cap h hG HC E hB hp
 obtain ⟨op,a,b,wt,prs⟩:=d
 subst hop hG
 rw [val_dir (show G.dir=true from hd)]
 refine (dstep0 w G h b0 b1 b2 b3 b4 b5 hk a b wt ao n cap prs hp (HC a hz) B eb E hB).mono ?_
 rintro e w' (⟨p,h1,rfl,g⟩|⟨h1,rfl,c',mb,g⟩)
 · have e1:G.st.step ⟨0,a,b,wt,prs⟩=_:=st_addV_old G a b wt prs h1
   rw [e1]
   exact ⟨_,G,rfl,toldE_at _ _ 1,rfl,g⟩
 · have e1:G.st.step ⟨0,a,b,wt,prs⟩=_:=st_addV G a b wt prs c' mb h1
   rw [e1]
   exact ⟨_,_,rfl,toldE_at _ _ 0,rfl,g⟩
theorem dstepC2 (B:Nat) (eb:Nat→Addr) (s:St) (d:DoIn) (hop:d.op=2) (hd:s.dir=true) (hpr:StCalm s d) (hab:s.dir=false→d.a≠d.b):StepC B eb s d:=by
 intro w G b0 b1 b2 b3 b4 b5 hk ao n cap h hG HC E hB hp
 obtain ⟨op,a,b,wt,prs⟩:=d
 subst hop hG
 have hd':G.dir=true:=hd
 have hpr':Calm G a b:=calm_of hpr
 rw [val_dir hd']
 refine (dstep2 w G h b0 b1 b2 b3 b4 b5 hk a b wt ao n cap prs hp hd' hpr'  B eb E hB).mono ?_
 rintro e w' (⟨h1,rfl,g⟩|⟨h1,h2,h3,rfl,g⟩|⟨h1,h2,h3,rfl,c',mb,g⟩)
 · have e1:G.st.step ⟨2,a,b,wt,prs⟩=_:=st_addE_none G a b wt prs h1
   rw [e1]
   exact ⟨_,G,rfl,toldE_at _ _ 2,rfl,g⟩
 · have e1:G.st.step ⟨2,a,b,wt,prs⟩=_:=st_addE_old G a b wt prs h1 h2 h3
   rw [e1]
   exact ⟨_,G,rfl,toldE_at _ _ 4,rfl,g⟩
 · have e1:G.st.step ⟨2,a,b,wt,prs⟩=_:=st_addE_new G a b wt prs h1 h2 h3 (by rw [hpr'.off h1 h2 h3];simp) c' mb
   rw [e1]
   exact ⟨_,_,rfl,toldE_at _ _ 0,rfl,g⟩
theorem dstepC5 (B:Nat) (eb:Nat→Addr) (s:St) (d:DoIn) (hop:d.op=5) (hd:s.dir=true) (hs:Small s):StepC B eb s d:=by
 intro w G b0 b1 b2 b3 b4 b5 hk ao n cap h hG HC E hB hp
 obtain ⟨op,a,b,wt,prs⟩:=d
 subst hop hG
 rw [val_dir (show G.dir=true from hd)]
 refine (dstep5w w G h b0 b1 b2 b3 b4 b5 hk a b wt ao n cap prs hp B eb E (small_pts h hs).1 (fun w' f => ?_)).mono ?_
 · have hr:=h.fr f (fun _ _ q=>q) (fun q=>q)
   cases hf:findP G.pts a with
   | none =>
     refine (dvwp_no w' G hr B eb (E.fr f (fun _ q=>q.elim)) a hf).mono ?_
     rintro e w2 ⟨rfl,f2⟩
     exact ⟨f2,.inr ⟨rfl,rfl⟩⟩
   | some p =>
     refine (dvwp_yes w' G hr a p hf).mono ?_
     rintro e w2 ⟨rfl,f2⟩
     exact ⟨f2,.inl ⟨p,rfl,rfl⟩⟩
 · rintro e w' ⟨v,rfl,h1,g⟩
   exact ⟨v,G,rfl,told_asked h h1,rfl,g⟩
theorem dstepC6 (B:Nat) (eb:Nat→Addr) (s:St) (d:DoIn) (hop:d.op=6) (hd:s.dir=true) (hs:Small s):StepC B eb s d:=by
 intro w G b0 b1 b2 b3 b4 b5 hk ao n cap h hG HC E hB hp
 obtain ⟨op,a,b,wt,prs⟩:=d
 subst hop hG
 rw [val_dir (show G.dir=true from hd)]
 refine (dstep6w w G h b0 b1 b2 b3 b4 b5 hk a b wt ao n cap prs hp B eb E (small_pts h hs).2.1 (fun w' f => ?_)).mono ?_
 · have hr:=h.fr f (fun _ _ q=>q) (fun q=>q)
   cases hf:findL G.dir G.lks a b with
   | none =>
     refine (dedge_no w' G hr  B eb (E.fr f (fun _ q=>q.elim)) a b hf).mono ?_
     rintro e w2 ⟨rfl,f2⟩
     exact ⟨f2,.inr ⟨rfl,rfl⟩⟩
   | some l =>
     obtain ⟨⟨p,hpa⟩,q,hpb⟩:=h.ends_find hf
     refine (dedge_yes w' G hr  a b l p q hf hpa hpb).mono ?_
     rintro e w2 ⟨rfl,f2⟩
     exact ⟨f2,.inl ⟨l,p,q,rfl,hpa,hpb,rfl⟩⟩
 · rintro e w' ⟨v,rfl,h1,g⟩
   exact ⟨v,G,rfl,told_asked h h1,rfl,g⟩
theorem dstepC7 (B:Nat) (eb:Nat→Addr) (s:St) (d:DoIn) (hop:d.op=7) (hd:s.dir=true) (hs:Small s):StepC B eb s d:=by
 intro w G b0 b1 b2 b3 b4 b5 hk ao n cap h hG HC E hB hp
 obtain ⟨op,a,b,wt,prs⟩:=d
 subst hop hG
 have hd':G.dir=true:=hd
 rw [val_dir hd']
 refine (dstep7 w G h b0 b1 b2 b3 b4 b5 hk a b wt ao n cap prs hp hd' (small_pts h hs).2.2.1 (small_pts h hs).2.2.2).mono ?_
 rintro e w' ⟨rfl,g⟩
 have e1:G.st.step ⟨7,a,b,wt,prs⟩=({ order:=G.pts.length,size:=G.lks.length },G.st):=by
   unfold St.step GS.st
   simp
 rw [e1]
 exact ⟨_,G,rfl,toldC_at _ _ _ _,rfl,g⟩
theorem ustepC0 (B:Nat) (eb:Nat→Addr) (s:St) (d:DoIn) (hop:d.op=0) (hd:s.dir=false) (hz:s.hk=2→d.a.size≤99):StepC B eb s d:=by
 intro w G b0 b1 b2 b3 b4 b5 hk ao n cap h hG HC E hB hp
 obtain ⟨op,a,b,wt,prs⟩:=d
 subst hop hG
 rw [val_undir (show G.dir=false from hd)]
 refine (ustep0 w G h b0 b1 b2 b3 b4 b5 hk a b wt ao n cap prs hp (HC a hz) B eb E hB).mono ?_
 rintro e w' (⟨p,h1,rfl,g⟩|⟨h1,rfl,c',mb,g⟩)
 · have e1:G.st.step ⟨0,a,b,wt,prs⟩=_:=st_addV_old G a b wt prs h1
   rw [e1]
   exact ⟨_,G,rfl,toldE_at _ _ 1,rfl,g⟩
 · have e1:G.st.step ⟨0,a,b,wt,prs⟩=_:=st_addV G a b wt prs c' mb h1
   rw [e1]
   exact ⟨_,_,rfl,toldE_at _ _ 0,rfl,g⟩
theorem ustepC2 (B:Nat) (eb:Nat→Addr) (s:St) (d:DoIn) (hop:d.op=2) (hd:s.dir=false) (hpr:StCalm s d) (hab:s.dir=false→d.a≠d.b):StepC B eb s d:=by
 intro w G b0 b1 b2 b3 b4 b5 hk ao n cap h hG HC E hB hp
 obtain ⟨op,a,b,wt,prs⟩:=d
 subst hop hG
 have hd':G.dir=false:=hd
 have hpr':Calm G a b:=calm_of hpr
 rw [val_undir hd']
 refine (ustep2 w G h b0 b1 b2 b3 b4 b5 hk a b wt ao n cap prs hp hd' hpr' (hab hd) B eb E hB).mono ?_
 rintro e w' (⟨h1,rfl,g⟩|⟨h1,h2,h3,rfl,g⟩|⟨h1,h2,h3,rfl,c',mb,g⟩)
 · have e1:G.st.step ⟨2,a,b,wt,prs⟩=_:=st_addE_none G a b wt prs h1
   rw [e1]
   exact ⟨_,G,rfl,toldE_at _ _ 2,rfl,g⟩
 · have e1:G.st.step ⟨2,a,b,wt,prs⟩=_:=st_addE_old G a b wt prs h1 h2 h3
   rw [e1]
   exact ⟨_,G,rfl,toldE_at _ _ 4,rfl,g⟩
 · have e1:G.st.step ⟨2,a,b,wt,prs⟩=_:=st_addE_new G a b wt prs h1 h2 h3 (by rw [hpr'.off h1 h2 h3];simp) c' mb
   rw [e1]
   exact ⟨_,_,rfl,toldE_at _ _ 0,rfl,g⟩
theorem ustepC5 (B:Nat) (eb:Nat→Addr) (s:St) (d:DoIn) (hop:d.op=5) (hd:s.dir=false) (hs:Small s):StepC B eb s d:=by
 intro w G b0 b1 b2 b3 b4 b5 hk ao n cap h hG HC E hB hp
 obtain ⟨op,a,b,wt,prs⟩:=d
 subst hop hG
 rw [val_undir (show G.dir=false from hd)]
 refine (ustep5w w G h b0 b1 b2 b3 b4 b5 hk a b wt ao n cap prs hp B eb E (small_pts h hs).1 (fun w' f => ?_)).mono ?_
 · have hr:=h.fr f (fun _ _ q=>q) (fun q=>q)
   cases hf:findP G.pts a with
   | none =>
     refine (uvwp_no w' G hr B eb (E.fr f (fun _ q=>q.elim)) a hf).mono ?_
     rintro e w2 ⟨rfl,f2⟩
     exact ⟨f2,.inr ⟨rfl,rfl⟩⟩
   | some p =>
     refine (uvwp_yes w' G hr a p hf).mono ?_
     rintro e w2 ⟨rfl,f2⟩
     exact ⟨f2,.inl ⟨p,rfl,rfl⟩⟩
 · rintro e w' ⟨v,rfl,h1,g⟩
   exact ⟨v,G,rfl,told_asked h h1,rfl,g⟩
theorem ustepC6 (B:Nat) (eb:Nat→Addr) (s:St) (d:DoIn) (hop:d.op=6) (hd:s.dir=false) (hs:Small s):StepC B eb s d:=by
 intro w G b0 b1 b2 b3 b4 b5 hk ao n cap h hG HC E hB hp
 obtain ⟨op,a,b,wt,prs⟩:=d
 subst hop hG
 rw [val_undir (show G.dir=false from hd)]
 refine (ustep6w w G h b0 b1 b2 b3 b4 b5 hk a b wt ao n cap prs hp B eb E (small_pts h hs).2.1 (fun w' f => ?_)).mono ?_
 · have hr:=h.fr f (fun _ _ q=>q) (fun q=>q)
   cases hf:findL G.dir G.lks a b with
   | none =>
     refine (uedge_no w' G hr hd B eb (E.fr f (fun _ q=>q.elim)) a b hf).mono ?_
     rintro e w2 ⟨rfl,f2⟩
     exact ⟨f2,.inr ⟨rfl,rfl⟩⟩
   | some l =>
     obtain ⟨⟨p,hpa⟩,q,hpb⟩:=h.ends_find hf
     refine (uedge_yes w' G hr B eb (E.fr f (fun _ q=>q.elim)) a b l p q hf hpa hpb).mono ?_
     rintro e w2 ⟨rfl,f2⟩
     exact ⟨f2,.inl ⟨l,p,q,rfl,hpa,hpb,rfl⟩⟩
 · rintro e w' ⟨v,rfl,h1,g⟩
   exact ⟨v,G,rfl,told_asked h h1,rfl,g⟩
theorem ustepC7 (B:Nat) (eb:Nat→Addr) (s:St) (d:DoIn) (hop:d.op=7) (hd:s.dir=false) (hs:Small s):StepC B eb s d:=by
 intro w G b0 b1 b2 b3 b4 b5 hk ao n cap h hG HC E hB hp
 obtain ⟨op,a,b,wt,prs⟩:=d
 subst hop hG
 have hd':G.dir=false:=hd
 rw [val_undir hd']
 refine (ustep7 w G h b0 b1 b2 b3 b4 b5 hk a b wt ao n cap prs hp hd' (small_pts h hs).2.2.1 (small_pts h hs).2.2.2).mono ?_
 rintro e w' ⟨rfl,g⟩
 have e1:G.st.step ⟨7,a,b,wt,prs⟩=({ order:=G.pts.length,size:=G.lks.length },G.st):=by
   unfold St.step GS.st
   simp
 rw [e1]
 exact ⟨_,G,rfl,toldC_at _ _ _ _,rfl,g⟩
end Go.Proofs.YtbafaadmlpamiaaGreatDoor
namespace Go.Hy
open Go Go.RowKit
section
variable {P:Program} {w w1 w':World} {ops:Array Oper} {rest:List Oper} {o:Oper} {a:Act} {Q:Exit→Act→World→Prop} {S:Nat→Prop}
theorem wl_app3 (t:TypeId) (hgd:o.guard=none) (s x:Operand)
   (ho:o.op=.call { callee:=.builtin .append,args:=#[s,x],argTypes:=#[t,t] })
   (e:TypeId) (z:Value) (size bytes:Nat) (ht:P.underlying t=some (.slice e)) (hi:(P.info? e).map (fun i=>(i.zero,i.size,i.bytes))=some (some z,size,bytes))
   (hzs:z.cells.size=size) (hsz:0 < size) (hby:bytes≤1000)
   (base:Nat) (v:Value) (n:Nat) (xs:List Value) (hs:a.eval s=v) (hown:w.ownsRow base e size v n xs)
   (cs:Array Value) (nb:Nat) (hx:a.eval x=.slice (some ⟨nb,0,none⟩) 1 1) (hnb:w.heap.size=nb) (hl:cs.size=size) (h1:∀ u∈cs.toList,u.oneCell'=true)
   (hb:n≤1000000) (hbase:base≤w.heap.size)
   (h:∀ v' w',w'.ownsRow base e size v' (n+1) (xs ++ cs.toList)→Fr (fun k=>v.ownBlock=some k) w w'→(v'.ownBlock=v.ownBlock∨v'.ownBlock=some (w.heap.size+1))→wpList P ops Q rest (a.put o.dst v') w'):wpList P ops Q (o :: rest) a (w.alloc (.cells cs e)):=by
 obtain ⟨i,hi1,hi2,hi3,hi4⟩:=info_parts hi
 subst hnb
 refine wpList_append_own_at (w:=w.alloc (.cells cs e)) hgd s x t ho base e i z size bytes ht hi1 hi2 hi3 hi4 hzs hsz v n xs hs (hown.alloc _) ⟨w.heap.size,0,none⟩ 1 1 cs.toList hx (by simp [hl]) ?_ h1 (by unfold maxLen;omega) ?_ (by simp;omega) ?_
 · intro j u hj
   rw [Addr.add_lit,Nat.zero_add]
   have:(w.alloc (.cells cs e)).heap[w.heap.size]? = some (.cells cs e (0,0)):=heap_alloc_new w _
   simp only [World.cell?,this]
   simpa using hj
 · calc (n+1) * bytes≤1000001 * 1000:=Nat.mul_le_mul (by omega) hby
     _≤140737488355328:=by decide
 · intro v' w' g1 g2 g3 g4
   exact h v' w' g1 (((Fr.refl _ w).alloc _).grown g2 fun k hk=>.inl hk) (by simpa using g4)
end
end Go.Hy
namespace Go.Proofs.YtbafaadmlpamiaaGreatDoor
open Go Go.Hy Go.RowKit
theorem info44:(Tryz.prog.info? 44).map (fun i=>(i.zero,i.size,i.bytes))=some (some (.agg zT),10,152):=by kernel_rfl
theorem PrOk.fr {w w':World} {ao:Option Addr} {n cap:Nat} {prs:List PP} (h:PrOk w ao n cap prs) (f:Fr0 w w'):PrOk w' ao n cap prs where
 len:=h.len
 cap:=h.cap
 small:=h.small
 at_:=fun i p hi=>by
   obtain ⟨ob,h1,h2,h3,h4⟩:=h.at_ i p hi
   exact ⟨ob,h1,Nat.lt_of_lt_of_le h2 f.size,(f.cell (p:=⟨ob,i * 2,none⟩) h2 (fun q=>q)).trans h3,(f.cell (p:=⟨ob,i * 2+1,none⟩) h2 (fun q=>q)).trans h4⟩
structure DosAt (w:World) (ao:Option Addr) (n cap:Nat) (ds:List DoIn):Prop where
 len:n=ds.length
 cap:n≤cap
 small:n≤100000
 at_:∀ (i:Nat) (d:DoIn),ds[i]? = some d→∃ ob pa pn pc,ao=some ⟨ob,0,none⟩∧ob < w.heap.size∧w.cell? ⟨ob,i * 5,none⟩=some (.int .u8 d.op)∧w.cell? ⟨ob,i * 5+1,none⟩=some (.string d.a) ∧
   w.cell? ⟨ob,i * 5+2,none⟩=some (.string d.b)∧w.cell? ⟨ob,i * 5+3,none⟩=some (.int .i64 d.wt)∧w.cell? ⟨ob,i * 5+4,none⟩=some (.slice pa pn pc)∧PrOk w pa pn pc d.prs
theorem DosAt.fr {w w':World} {ao:Option Addr} {n cap:Nat} {ds:List DoIn} (h:DosAt w ao n cap ds) (f:Fr0 w w'):DosAt w' ao n cap ds where
 len:=h.len
 cap:=h.cap
 small:=h.small
 at_:=fun i d hi=>by
   obtain ⟨ob,pa,pn,pc,h1,h2,c0,c1,c2,c3,c4,h3⟩:=h.at_ i d hi
   exact ⟨ob,pa,pn,pc,h1,Nat.lt_of_lt_of_le h2 f.size,(f.cell (p:=⟨ob,i * 5,none⟩) h2 (fun q=>q)).trans c0,(f.cell (p:=⟨ob,i * 5+1,none⟩) h2 (fun q=>q)).trans c1,
     (f.cell (p:=⟨ob,i * 5+2,none⟩) h2 (fun q=>q)).trans c2,(f.cell (p:=⟨ob,i * 5+3,none⟩) h2 (fun q=>q)).trans c3,(f.cell (p:=⟨ob,i * 5+4,none⟩) h2 (fun q=>q)).trans c4,h3.fr f⟩
def cellsT:Value→List Value
 | .agg a=>a.toList
 | _ => []
def kst (b0 b1 b2 b3 b4 b5:Bool) (hk:Nat):St :=
 { dir:=((sel (kflags b0 b1 b2 b3 b4 b5)).foldl tapp TS.zero).d,pr:=((sel (kflags b0 b1 b2 b3 b4 b5)).foldl tapp TS.zero).pr,hk:=hk,ps:=[],ls:=[] }
theorem kst_dir (b0 b1 b2 b3 b4 b5:Bool) (hk:Nat):(kst b0 b1 b2 b3 b4 b5 hk).dir=b0:=by
 cases b0 <;> cases b1 <;> cases b2 <;> cases b3 <;> cases b4 <;> cases b5 <;> rfl
theorem kst_pr (b0 b1 b2 b3 b4 b5:Bool) (hk:Nat):(kst b0 b1 b2 b3 b4 b5 hk).pr=b5:=by
 cases b0 <;> cases b1 <;> cases b2 <;> cases b3 <;> cases b4 <;> cases b5 <;> rfl
theorem encL_mem {α:Type} (enc:α→List Value) (k:Nat):∀ (l:List α) (_:∀ x∈l,(enc x).length=k) (i c:Nat) (x:α),l[i]? = some x→c < k→(encL enc l)[i * k+c]? = (enc x)[c]?
 | [],_,i,c,x,hi,_=>by simp at hi
 | y :: l,hk,0,c,x,hi,hc=>by
   simp only [List.getElem?_cons_zero,Option.some.injEq] at hi
   subst hi
   unfold encL
   rw [List.flatMap_cons,Nat.zero_mul,Nat.zero_add,List.getElem?_append_left (by rw [hk y (by simp)];exact hc)]
 | y :: l,hk,i+1,c,x,hi,hc=>by
   have ih:=encL_mem enc k l (fun x hx=>hk x (by simp [hx])) i c x (by simpa using hi) hc
   have e:=hk y (by simp)
   unfold encL at ih ⊢
   rw [List.flatMap_cons,List.getElem?_append_right (by rw [e,Nat.add_mul];omega)]
   have e2:(i+1) * k+c - (enc y).length=i * k+c:=by rw [e,Nat.add_mul];omega
   rw [e2,ih]
theorem Reads.cell {w:World} {v:Value} {n:Nat} {xs:List Value} (h:Reads w v n xs) {j:Nat} {u:Value} (hj:xs[j]? = some u):∃ ob cap,v=.slice (some ⟨ob,0,none⟩) n cap∧n≤cap∧ob < w.heap.size∧w.cell? ⟨ob,j,none⟩=some u:=by
 obtain ⟨ao,cap,rfl,hc,hr⟩:=h
 obtain ⟨ob,rfl,h1,h2⟩:=hr j u hj
 exact ⟨ob,cap,rfl,hc,h1,h2⟩
theorem Reads.of_cells {w:World} {b:Nat} {cs:Array Value} {t:TypeId} (h:Cells w b cs t) {n cap:Nat} (hn:n≤cap) {xs:List Value} (hx:cs.toList=xs):Reads w (.slice (some ⟨b,0,none⟩) n cap) n xs :=
 ⟨_,cap,rfl,hn,fun j u hj=>⟨b,rfl,h.lt,h.cell j u (by rw [← hx] at hj;simpa using hj)⟩⟩
def encDo (p:DoIn × Value):List Value:=[.int .u8 p.1.op,.string p.1.a,.string p.1.b,.int .i64 p.1.wt,p.2]
theorem DosAt.of_reads {w:World} {ao:Option Addr} {n cap:Nat} {dvs:List (DoIn × Value)} (h:Reads w (.slice ao n cap) n (encL encDo dvs)) (hn:n=dvs.length) (hs:n≤100000)
   (hp:∀ p∈dvs, ∃ pa pn pc,p.2=.slice pa pn pc∧PrOk w pa pn pc p.1.prs):DosAt w ao n cap (dvs.map (·.1)) where
 len:=by simp [hn]
 cap:=by
   obtain ⟨ao',cap',e,hc,_⟩:=h
   cases e
   exact hc
 small:=hs
 at_:=fun i d hi=>by
   rw [List.getElem?_map,Option.map_eq_some_iff] at hi
   obtain ⟨p,hi,rfl⟩:=hi
   obtain ⟨pa,pn,pc,e,ok⟩:=hp p (List.mem_of_getElem? hi)
   have cell:∀ c u,c < 5→(encDo p)[c]? = some u→∃ ob,ao=some ⟨ob,0,none⟩∧ob < w.heap.size∧w.cell? ⟨ob,i * 5+c,none⟩=some u:=fun c u hc hu=>by
     obtain ⟨ob,cap',e,_,h1,h2⟩:=h.cell ((encL_mem encDo 5 dvs (fun _ _=>rfl) i c p hi hc).trans hu)
     cases e
     exact ⟨ob,rfl,h1,h2⟩
   obtain ⟨ob,rfl,hl,c0⟩:=cell 0 _ (by decide) rfl
   obtain ⟨ob1,e1,_,c1⟩:=cell 1 _ (by decide) rfl
   obtain ⟨ob2,e2,_,c2⟩:=cell 2 _ (by decide) rfl
   obtain ⟨ob3,e3,_,c3⟩:=cell 3 _ (by decide) rfl
   obtain ⟨ob4,e4,_,c4⟩:=cell 4 _ (by decide) rfl
   cases e1
   cases e2
   cases e3
   cases e4
   rw [e] at c4
   exact ⟨ob,pa,pn,pc,rfl,hl,c0,c1,c2,c3,c4,ok⟩
def TellsAt (w:World) (lo:Nat) (v:Value) (ts:List Tl):Prop :=
 ∃ ao cap,v=.slice ao ts.length cap∧ts.length≤cap∧∀ (j:Nat) (t:Tl),ts[j]? = some t→∃ ob pv kv lv,ao=some ⟨ob,0,none⟩∧ob < w.heap.size∧lo < ob ∧
   w.cell? ⟨ob,j * 10,none⟩=some (.int .u8 t.err)∧w.cell? ⟨ob,j * 10+1,none⟩=some (.string t.value)∧w.cell? ⟨ob,j * 10+2,none⟩=some (.string t.src)∧w.cell? ⟨ob,j * 10+3,none⟩=some (.string t.dst) ∧
   w.cell? ⟨ob,j * 10+4,none⟩=some (.int .i64 t.wt)∧w.cell? ⟨ob,j * 10+5,none⟩=some (.int .i64 t.order)∧w.cell? ⟨ob,j * 10+6,none⟩=some (.int .i64 t.size) ∧
   w.cell? ⟨ob,j * 10+7,none⟩=some pv∧w.cell? ⟨ob,j * 10+8,none⟩=some kv∧w.cell? ⟨ob,j * 10+9,none⟩=some lv ∧
   PairsIn w (fun q=>lo < q) pv t.pairs∧KeysIn w (fun q=>lo < q) kv t.keys∧LinksIn w (fun q=>lo < q) lv t.links
theorem TellsAt.of {w:World} {lo n:Nat} {v:Value} {vs:List Value} {ts:List Tl} (hn:n=ts.length) (hl:vs.length=ts.length) (h:Reads w v n (encL cellsT vs)) (ho:∀ q,v.ownBlock=some q→lo < q)
   (ht:∀ (j:Nat) u t,vs[j]? = some u→ts[j]? = some t→ToldIn w (fun q=>lo < q) u t):TellsAt w lo v ts:=by
 subst hn
 obtain ⟨ao,cap,rfl,hc,hr⟩:=id h
 refine ⟨ao,cap,rfl,hc,fun j t hj => ?_⟩
 have hj':j < vs.length:=by have:=(List.getElem?_eq_some_iff.1 hj).1;omega
 have hu:vs[j]? = some vs[j]:=List.getElem?_eq_getElem hj'
 have hlen:∀ x∈vs,(cellsT x).length=10:=fun x hx=>by
   obtain ⟨i,hi,rfl⟩:=List.mem_iff_getElem.1 hx
   obtain ⟨pv,kv,lv,e,_⟩:=ht i vs[i] (ts[i]'(by omega)) (List.getElem?_eq_getElem hi) (List.getElem?_eq_getElem (by omega))
   rw [e]
   rfl
 obtain ⟨pv,kv,lv,e,h1,h2,h3⟩:=ht j _ t hu hj
 have cell:∀ c u,c < 10→(cellsT vs[j])[c]? = some u→∃ ob,ao=some ⟨ob,0,none⟩∧ob < w.heap.size∧w.cell? ⟨ob,j * 10+c,none⟩=some u:=fun c u hc hu'=>by
   obtain ⟨ob,cap',e,_,h1,h2⟩:=h.cell ((encL_mem cellsT 10 vs hlen j c _ hu hc).trans hu')
   cases e
   exact ⟨ob,rfl,h1,h2⟩
 rw [e] at cell
 obtain ⟨ob,rfl,hl,c0⟩:=cell 0 _ (by decide) rfl
 obtain ⟨ob1,e1,_,c1⟩:=cell 1 _ (by decide) rfl
 obtain ⟨ob2,e2,_,c2⟩:=cell 2 _ (by decide) rfl
 obtain ⟨ob3,e3,_,c3⟩:=cell 3 _ (by decide) rfl
 obtain ⟨ob4,e4,_,c4⟩:=cell 4 _ (by decide) rfl
 obtain ⟨ob5,e5,_,c5⟩:=cell 5 _ (by decide) rfl
 obtain ⟨ob6,e6,_,c6⟩:=cell 6 _ (by decide) rfl
 obtain ⟨ob7,e7,_,c7⟩:=cell 7 _ (by decide) rfl
 obtain ⟨ob8,e8,_,c8⟩:=cell 8 _ (by decide) rfl
 obtain ⟨ob9,e9,_,c9⟩:=cell 9 _ (by decide) rfl
 cases e1
 cases e2
 cases e3
 cases e4
 cases e5
 cases e6
 cases e7
 cases e8
 cases e9
 exact ⟨ob,pv,kv,lv,rfl,hl,ho ob rfl,c0,c1,c2,c3,c4,c5,c6,c7,c8,c9,h1,h2,h3⟩
structure RS (w1 wB:World) (gv:Value) (s0:St) (ds:List DoIn) (i:Nat) (v:Value) (G:GS) (vs:List Value) (wr:World):Prop where
 rep:GRep wr G
 st:G.st=s0.after (ds.take i)
 val:G.val=gv
 own:∀ b∈G.own,w1.heap.size≤b
 kb:G.kB < wB.heap.size
 hash:HashC G.hk
 vsl:vs.length=i
 row:wr.ownsRow wB.heap.size 44 10 v i (encL cellsT vs)
 apart:∀ q,v.ownBlock=some q→q∉G.own
 told:∀ (j:Nat) u t,vs[j]? = some u→(s0.run (ds.take i))[j]? = some t→ToldIn wr (fun q=>w1.heap.size≤q∧q∉G.own∧v.ownBlock≠some q) u t
 fr:Fr0 w1 wr
 size:wB.heap.size≤wr.heap.size
theorem RS.step {w1 wB wr wa w2 w4:World} {gv:Value} {s0:St} {ds:List DoIn} {i:Nat} {v v' u:Value} {G G':GS} {vs:List Value} {d:DoIn} (h:RS w1 wB gv s0 ds i v G vs wr) (hd:ds[i]? = some d) (hB:w1.heap.size≤wB.heap.size)
   (fa:Fr0 wr wa) (hs:G'.st=((s0.after (ds.take i)).step d).2) (ht:ToldIn w2 (fun q=>wa.heap.size≤q∧q∉G'.own) u ((s0.after (ds.take i)).step d).1) (g:GStep wa G w2 G')
   (cs:List Value) (hcs:cs=cellsT u) (ho:w4.ownsRow wB.heap.size 44 10 v' (i+1) (encL cellsT vs ++ cs)) (fg:Fr (fun k=>v.ownBlock=some k) w2 w4) (hat:v'.ownBlock=v.ownBlock∨v'.ownBlock=some (w2.heap.size+1)) :
   RS w1 wB gv s0 ds (i+1) v' G' (vs ++ [u]) w4:=by
 have hi:i < ds.length:=(List.getElem?_eq_some_iff.1 hd).1
 have he:ds[i]=d:=(List.getElem?_eq_some_iff.1 hd).2
 have htk:ds.take (i+1)=ds.take i ++ [d]:=by rw [List.take_succ_eq_append_getElem hi,he]
 have z1:=fa.size
 have z2:=g.fr.size
 have z3:=fg.size
 have hvl:∀ q,v.ownBlock=some q→wB.heap.size≤q∧q < wr.heap.size:=fun q hq=>h.row.lt q hq
 have hvg:∀ q,v.ownBlock=some q→q∉G'.own:=fun q hq hm=>by
   rcases g.own q hm with r|r
   · exact h.apart q hq r
   · have:=(hvl q hq).2;omega
 have hkb:G'.kB=G.kB:=g.same.2.2.2.1
 have hsame:=g.same
 refine ⟨g.rep.fr fg (fun b hb q=>hvg b q hb) (fun q=>by have:=(hvl _ q).1;rw [hkb] at this;have:=h.kb;omega),?_,?_,?_,?_,?_,?_,?_,?_,?_,?_,?_⟩
 · rw [htk,St.after_snoc,hs]
 · rw [← h.val]
   unfold GS.val
   rw [hsame.1,hsame.2.2.2.2.2.1]
 · intro b hb
   rcases g.own b hb with r|r
   · exact h.own b r
   · have:=h.fr.size;omega
 · rw [hkb];exact h.kb
 · rw [hsame.2.2.2.2.1];exact h.hash
 · simp [h.vsl]
 · have e1:encL cellsT (vs ++ [u])=encL cellsT vs ++ cs:=by simp [encL,hcs]
   rw [e1]
   exact ho
 · intro q hq hm
   rcases hat with r|r
   · exact hvg q (r▸hq) hm
   · rw [r] at hq
     have:=g.rep.lt q hm
     have:=Option.some.inj hq
     omega
 · intro j x t hj hr
   rw [htk,St.run_snoc] at hr
   have hlen:(s0.run (ds.take i)).length=i:=by rw [St.run_length,List.length_take];omega
   by_cases hji:j < i
   · rw [List.getElem?_append_left (by rw [h.vsl];exact hji)] at hj
     rw [List.getElem?_append_left (by rw [hlen];exact hji)] at hr
     have h0:=h.told j x t hj hr
     have h1:ToldIn wr (fun q=>(w1.heap.size≤q∧q∉G'.own∧v'.ownBlock≠some q)∧q∉G.own∧v.ownBlock≠some q) x t:=h0.imp fun q hq hl=>⟨⟨hq.1,fun hm=>by
         rcases g.own q hm with r|r
         · exact hq.2.1 r
         · omega,fun r=>by
         rcases hat with z|z
         · exact hq.2.2 (z▸r)
         · rw [z] at r;have:=Option.some.inj r;omega⟩,hq.2.1,hq.2.2⟩
     exact (((h1.fr fa fun _ _ _ q=>q).fr g.fr fun q hq _ r=>hq.2.1 r).fr fg fun q hq _ r=>hq.2.2 r).imp fun q hq _=>hq.1
   · have hjl:j < (vs ++ [u]).length:=(List.getElem?_eq_some_iff.1 hj).1
     have hj':j=i:=by simp [h.vsl] at hjl;omega
     subst hj'
     rw [List.getElem?_append_right (by rw [h.vsl];exact Nat.le_refl _),h.vsl] at hj
     rw [List.getElem?_append_right (by rw [hlen];exact Nat.le_refl _),hlen] at hr
     simp only [Nat.sub_self,List.getElem?_cons_zero,Option.some.injEq] at hj hr
     subst hj hr
     have h1:=h.fr.size
     have h2:ToldIn w2 (fun q=>(w1.heap.size≤q∧q∉G'.own∧v'.ownBlock≠some q)∧wa.heap.size≤q) u ((s0.after (ds.take j)).step d).1:=ht.imp fun q hq hl=>⟨⟨by have:=hq.1;omega,hq.2,fun r=>by
         have:=hq.1
         rcases hat with z|z
         · have:=(hvl q (z▸r)).2;omega
         · rw [z] at r;have:=Option.some.inj r;omega⟩,hq.1⟩
     exact (h2.fr fg fun q hq _ r=>by have:=(hvl q r).2;have:=hq.2;omega).imp fun q hq _=>hq.1
 · exact ((h.fr.trans0 fa).trans g.fr fun q hq=>.inr (h.own q hq)).trans fg fun q hq=>.inr (by have:=(hvl q hq).1;omega)
 · have:=h.size;omega
theorem run19 (w:World) (b0 b1 b2 b3 b4 b5:Bool) (hk:Nat) (ao:Option Addr) (n cap:Nat) (ds:List DoIn) (hd:DosAt w ao n cap ds) (HC:HashC hk) (B:Nat) (eb:Nat→Addr) (E:ErrsOk w B eb)
   (HS:∀ (i:Nat) (d:DoIn),ds[i]? = some d→StepC B eb ((kst b0 b1 b2 b3 b4 b5 hk).after (ds.take i)) d) :
   Calls Tryz.prog 19 #[kagg b0 b1 b2 b3 b4 b5 hk,.slice ao n cap] w fun e w'=>∃ v,e=.returned v∧TellsAt w' w.heap.size v ((kst b0 b1 b2 b3 b4 b5 hk).run ds)∧Fr0 w w':=by
 obtain ⟨hn,hcap,hsm,hat⟩:=hd
 have D:=Lib.hid (show DosAt w ao n cap ds from ⟨hn,hcap,hsm,hat⟩)
 have H:=hid3 HC E HS
 subst hn
 clear hat HC E HS
 go_enter Tryz.func19,Tryz.ntmps19
 go_wp2_with (first
   | (go_at_call 38;refine (graphof _ b0 b1 b2 b3 b4 b5 hk).mono ?_;rintro e w2 ⟨G0,rfl,FR⟩;have F:=Lib.hid FR;clear FR))
 go_loopg [6,13] ds.length (fun k v c wr=>∃ i G vs,k+i=ds.length∧c=.int .i64 (i:Nat)∧RS (w.alloc (kB7 b0 b1 b2 b3 b4 b5 hk)) w2 G0.val (kst b0 b1 b2 b3 b4 b5 hk) ds i v G vs wr)
 case atStart =>
   refine ⟨0,G0,[],rfl,rfl,?_⟩
   have R:=F.out.rep
   refine ⟨R,?_,rfl,F.out.new,?_,by rw [F.out.hk];exact H.out.1,rfl,World.ownsRow_nil _ _ _ _,(fun q hq=>by cases hq),(fun j u t hj=>by simp at hj),F.out.fr,Nat.le_refl _⟩
   · unfold GS.st kst
     rw [F.out.dir,F.out.pr,F.out.hk,F.out.pts,F.out.lks]
     rfl
   · obtain ⟨cs,q,_⟩:=R.k
     exact q.lt
 case round =>
   obtain ⟨i,G,vs,hk',rfl,R⟩:=hrel
   have FW:=Lib.hid (show Fr0 w wr from ((Fr.refl (fun _=>False) w).alloc _).trans0 R.fr)
   have KB:=Lib.hid ((Cells.new w #[.bool b0,.bool b1,.bool b2,.bool b3,.bool b4,.bool b5,.int .u8 hk] 37).fr R.fr (fun q=>q))
   have A:=hid2 hk' R
   clear hk' R
   by_cases hi:i < ds.length
   · have hg:=List.getElem?_eq_getElem hi
     obtain ⟨ob,pa,pn,pc,rfl,hob,q0,q1,q2,q3,q4,ok⟩:=(D.out.fr FW.out).at_ i _ hg
     have HGI:=Lib.hid hg
     have OK:=Lib.hid ok
     generalize ds[i]=d at q0 q1 q2 q3 q4 HGI OK
     clear hg ok
     have k0:=KB.out.cell 0 _ rfl
     have k1:=KB.out.cell 1 _ rfl
     have k2:=KB.out.cell 2 _ rfl
     have k3:=KB.out.cell 3 _ rfl
     have k4:=KB.out.cell 4 _ rfl
     have k5:=KB.out.cell 5 _ rfl
     have k6:=KB.out.cell 6 _ rfl
     have kl:=KB.out.lt
     go_wp2_with fail
     have fa:Fr0 wr (wr.alloc (.cells #[.int .u8 d.op,.string d.a,.string d.b,.int .i64 d.wt,.slice pa pn pc] 50)):=(Fr.refl (fun _=>False) wr).alloc _
     have FA:=Lib.hid fa
     have hc:=H.out.2.2 i d HGI.out _ G b0 b1 b2 b3 b4 b5 hk pa pn pc (A.out.2.rep.fr fa (fun _ _ q=>q) (fun q=>q)) A.out.2.st A.out.2.hash (H.out.2.1.fr (FW.out.trans0 fa) (fun _ q=>q.elim))
       (fun k hkk=>by have h1:=A.out.2.own k hkk;have h2:=H.out.2.1.size;simp at h1;omega) (OK.out.fr fa)
     rw [A.out.2.val] at hc
     refine hc.mono ?_
     clear hc fa q0 q1 q2 q3 q4 k0 k1 k2 k3 k4 k5 k6
     rintro e w3 ⟨u,G',rfl,ht,hst,g⟩
     obtain ⟨c0,c1,c2,c3,c4,c5,c6,p1,p2,p3,p4,p5,p6,p7,p8,p9,hu⟩ : ∃ (c0:Nat) (c1 c2 c3:ByteArray) (c4:Int) (c5 c6:Nat) (p1:Option Addr) (p2 p3:Nat) (p4:Option Addr) (p5 p6:Nat) (p7:Option Addr) (p8 p9:Nat),
         u=.agg #[.int .u8 c0,.string c1,.string c2,.string c3,.int .i64 c4,.int .i64 c5,.int .i64 c6,.slice p1 p2 p3,.slice p4 p5 p6,.slice p7 p8 p9]:=by
       obtain ⟨pv,kv,lv,rfl,⟨⟨x1,x2,rfl,_⟩,_⟩,⟨⟨y1,y2,rfl,_⟩,_⟩,⟨_,_,⟨z1,z2,rfl,_⟩,_⟩⟩:=ht
       exact ⟨_,_,_,_,_,_,_,_,_,_,_,_,_,_,_,_,rfl⟩
     have HU:=Lib.hid hu
     have Z:=hid3 ht hst g
     clear ht hst g
     subst hu
     have sz:=(FW.out.trans0 FA.out).size
     have sz3:=Z.out.2.2.fr.size
     have szw:=A.out.2.size
     have sza:=FA.out.size
     have R3:=Lib.hid (show w3.ownsRow w2.heap.size 44 10 u6 i (encL cellsT vs) from ownsRow_fr (ownsRow_fr A.out.2.row FA.out fun _ _ q=>q) Z.out.2.2.fr fun q hq=>A.out.2.apart q hq)
     go_wp2_with (first
       | (at_builtin;go_loud (refine wl_app3 (w:=w3) 34 rfl (.tmp 17) (.tmp 22) rfl 44 _ 10 152 Tryz.underlying34 info44 rfl (by decide) (by decide) w2.heap.size u6 i (encL cellsT vs) rfl R3.out #[.int .u8 c0,.string c1,.string c2,.string c3,.int .i64 c4,.int .i64 c5,.int .i64 c6,.slice p1 p2 p3,.slice p4 p5 p6,.slice p7 p8 p9] w3.heap.size rfl rfl rfl (by simp [Value.oneCell']) (by omega) (by omega) ?_)))
     intro v' w4 ho fg hat
     obtain ⟨ao',cap',rfl,_,_⟩:=own_slice ho
     have W:=hid3 ho fg hat
     clear ho fg hat
     go_wp2_with fail
     go_roundg (gk - 1)
     case measure=>have:=A.out.1;omega
     case rel =>
       refine ⟨i+1,G',vs ++ [.agg #[.int .u8 c0,.string c1,.string c2,.string c3,.int .i64 c4,.int .i64 c5,.int .i64 c6,.slice p1 p2 p3,.slice p4 p5 p6,.slice p7 p8 p9]],by have:=A.out.1;omega,by simp,?_⟩
       exact RS.step A.out.2 HGI.out (by have:=F.out.fr.size;simpa using this) FA.out Z.out.2.1 Z.out.1 Z.out.2.2 _ rfl W.out.1 W.out.2.1 W.out.2.2
   · have hi':i=ds.length:=by have:=A.out.1;omega
     subst hi'
     go_wp2_with fail
     go_ret
     have R:=A.out.2
     have e1:ds.take ds.length=ds:=List.take_length
     have sz1:=F.out.fr.size
     simp only [World.size_alloc] at sz1
     have z1:(w.alloc (kB7 b0 b1 b2 b3 b4 b5 hk)).heap.size=w.heap.size+1:=by simp
     refine ⟨u6,rfl,TellsAt.of (n:=ds.length) (vs:=vs) (by rw [St.run_length]) (by rw [St.run_length];exact R.vsl) (own_slice R.row) (fun q hq => ?_) (fun j u t hu ht => ?_),FW.out⟩
     · have:=(R.row.lt q hq).1
       omega
     · refine (R.told j u t hu (by rw [e1];exact ht)).imp fun q hq _ => ?_
       have:=hq.1
       rw [z1] at this
       omega
theorem insK_len (l:List PP) (p:PP):(insK l p).length≤l.length+1:=by
 induction l with
 | nil=>simp [insK]
 | cons q l ih =>
   unfold insK
   split
   · simp only [List.length_cons];omega
   · split
     · simp
     · simp
theorem fold_len (prs l:List PP):(prs.foldl insK l).length≤l.length+prs.length:=by
 induction prs generalizing l with
 | nil=>simp
 | cons p prs ih =>
   have h1:=ih (insK l p)
   have h2:=insK_len l p
   simp only [List.foldl_cons,List.length_cons]
   omega
theorem byK_le (l:List PP):(byK l).length≤l.length:=by have:=fold_len l [];simpa [byK] using this
structure Bnd (m i:Nat) (s:St):Prop where
 ps:s.ps.length≤i
 ls:s.ls.length≤i
 pe:∀ p∈s.ps,p.es.length≤i * m
 le:∀ l∈s.ls,l.es.length≤i * m
theorem Bnd.up {m i:Nat} {s:St} (h:Bnd m i s):Bnd m (i+1) s :=
 ⟨Nat.le_succ_of_le h.ps,Nat.le_succ_of_le h.ls,fun p hp=>Nat.le_trans (h.pe p hp) (Nat.mul_le_mul_right m (Nat.le_succ i)),fun l hl=>Nat.le_trans (h.le l hl) (Nat.mul_le_mul_right m (Nat.le_succ i))⟩
theorem Bnd.step {m i:Nat} {s:St} (h:Bnd m i s) (d:DoIn) (hd:d.prs.length≤m):Bnd m (i+1) (s.step d).2:=by
 have hu:=h.up
 have hm:m≤(i+1) * m:=by rw [Nat.add_mul];omega
 have hb:(byK d.prs).length≤(i+1) * m:=Nat.le_trans (byK_le _) (Nat.le_trans hd hm)
 unfold St.step
 split
 · unfold St.addV
   split
   · exact hu
   · refine ⟨by have:=h.ps;simpa using this,hu.ls,fun p hp => ?_,hu.le⟩
     simp only [List.mem_append,List.mem_singleton] at hp
     rcases hp with hp|rfl
     · exact hu.pe p hp
     · exact hb
 · unfold St.rmV
   split
   · exact hu
   · split
     · exact hu
     · exact ⟨Nat.le_trans (List.length_filter_le _ _) hu.ps,hu.ls,fun p hp=>hu.pe p (List.mem_filter.1 hp).1,hu.le⟩
 · unfold St.addE
   split
   · split
     · exact hu
     · split
       · exact hu
       · refine ⟨hu.ps,by have:=h.ls;simpa using this,hu.pe,fun l hl => ?_⟩
         simp only [List.mem_append,List.mem_singleton] at hl
         rcases hl with hl|rfl
         · exact hu.le l hl
         · exact hb
   · exact hu
 · unfold St.rmE
   split
   · exact hu
   · exact ⟨hu.ps,Nat.le_trans (List.length_filter_le _ _) hu.ls,hu.pe,fun l hl=>hu.le l (List.mem_filter.1 hl).1⟩
 · unfold St.updE
   split
   · exact hu
   · refine ⟨hu.ps,by simpa using hu.ls,hu.pe,fun l hl => ?_⟩
     obtain ⟨l0,h0,rfl⟩:=List.mem_map.1 hl
     by_cases hh:l0.hit s.dir d.a d.b=true
     · rw [if_pos hh]
       have h1:=byK_le (l0.es ++ d.prs)
       have h2:=h.le l0 h0
       have h3:(i+1) * m=i * m+m:=by rw [Nat.add_mul];omega
       simp only [List.length_append] at h1
       simp only
       omega
     · rw [if_neg hh]
       exact hu.le l0 h0
 all_goals exact hu
theorem Bnd.after {m:Nat}:∀ (ds:List DoIn) {i:Nat} {s:St},Bnd m i s→(∀ d∈ds,d.prs.length≤m)→Bnd m (i+ds.length) (s.after ds)
 | [],_,_,h,_=>h
 | d :: ds,i,s,h,hd=>by
   have:=Bnd.after ds (h.step d (hd d (by simp))) (fun x hx=>hd x (by simp [hx]))
   have e:i+(d :: ds).length=i+1+ds.length:=by simp;omega
   rw [e]
   exact this
theorem Bnd.small {m i:Nat} {s:St} (h:Bnd m i s) (hi:i≤1000) (hm:m≤1000):Small s:=by
 have h1:i * m≤1000 * 1000:=Nat.mul_le_mul hi hm
 exact ⟨by have:=h.ps;omega,by have:=h.ls;omega,fun p hp=>by have:=h.pe p hp;omega,fun l hl=>by have:=h.le l hl;omega⟩
theorem kst_bnd (m:Nat) (b0 b1 b2 b3 b4 b5:Bool) (hk:Nat):Bnd m 0 (kst b0 b1 b2 b3 b4 b5 hk):=⟨Nat.le_refl _,Nat.le_refl _,(fun p hp=>by cases hp),(fun l hl=>by cases hl)⟩
theorem after_same (s:St) (ds:List DoIn):(s.after ds).dir=s.dir∧(s.after ds).pr=s.pr∧(s.after ds).hk=s.hk:=by
 induction ds generalizing s with
 | nil=>exact ⟨rfl,rfl,rfl⟩
 | cons d ds ih =>
   obtain ⟨h1,h2,h3⟩:=ih (s.step d).2
   obtain ⟨g1,g2,g3⟩:=s.step_same d
   exact ⟨h1.trans g1,h2.trans g2,h3.trans g3⟩
def Fine0 (dir:Bool) (d:DoIn):Prop:=d.op=0∨(d.op=2∧(dir=false→d.a≠d.b))∨d.op=5∨d.op=6∨d.op=7
theorem fine0_step (B:Nat) (eb:Nat→Addr) (s:St) (d:DoIn) (hs:Small s) (hpr:s.pr=false) (hk:s.hk=0) (hd:Fine0 s.dir d):StepC B eb s d:=by
 cases hdir:s.dir with
 | true =>
   rcases hd with h|⟨h,h'⟩|h|h|h
   · exact dstepC0 B eb s d h hdir (fun z=>by rw [hk] at z;cases z)
   · exact dstepC2 B eb s d h hdir (.inr (.inr (.inr hpr))) h'
   · exact dstepC5 B eb s d h hdir hs
   · exact dstepC6 B eb s d h hdir hs
   · exact dstepC7 B eb s d h hdir hs
 | false =>
   rcases hd with h|⟨h,h'⟩|h|h|h
   · exact ustepC0 B eb s d h hdir (fun z=>by rw [hk] at z;cases z)
   · exact ustepC2 B eb s d h hdir (.inr (.inr (.inr hpr))) h'
   · exact ustepC5 B eb s d h hdir hs
   · exact ustepC6 B eb s d h hdir hs
   · exact ustepC7 B eb s d h hdir hs
theorem run0 (w:World) (b0 b1 b2 b3 b4:Bool) (ao:Option Addr) (n cap:Nat) (ds:List DoIn) (hd:DosAt w ao n cap ds) (B:Nat) (eb:Nat→Addr) (E:ErrsOk w B eb) (hl:ds.length≤1000)
   (hf:∀ d∈ds,Fine0 b0 d∧d.prs.length≤1000) :
   Calls Tryz.prog 19 #[kagg b0 b1 b2 b3 b4 false 0,.slice ao n cap] w fun e w'=>∃ v,e=.returned v∧TellsAt w' w.heap.size v ((kst b0 b1 b2 b3 b4 false 0).run ds)∧Fr0 w w':=by
 refine run19 w b0 b1 b2 b3 b4 false 0 ao n cap ds hd hash0 B eb E fun i d hi => ?_
 have hm:=List.mem_of_getElem? hi
 obtain ⟨s1,s2,s3⟩:=after_same (kst b0 b1 b2 b3 b4 false 0) (ds.take i)
 have hb:=(kst_bnd 1000 b0 b1 b2 b3 b4 false 0).after (ds.take i) fun x hx=>(hf x (List.mem_of_mem_take hx)).2
 refine fine0_step B eb _ d (hb.small (by simp only [List.length_take];omega) (Nat.le_refl _)) (by rw [s2,kst_pr]) s3 ?_
 rw [s1,kst_dir]
 exact (hf d hm).1
theorem TellsAt.cells {w:World} {lo:Nat} {v:Value} {ts:List Tl} (h:TellsAt w lo v ts) (n:Nat) (hn:ts.length=n) (h0:0 < n) :
   ∃ ob cap,v=.slice (some ⟨ob,0,none⟩) n cap∧n≤cap∧ob < w.heap.size∧lo < ob∧∀ (j:Nat) (t:Tl),ts[j]? = some t→∃ pv kv lv,
     w.cell? ⟨ob,j * 10,none⟩=some (.int .u8 t.err)∧w.cell? ⟨ob,j * 10+1,none⟩=some (.string t.value)∧w.cell? ⟨ob,j * 10+2,none⟩=some (.string t.src)∧w.cell? ⟨ob,j * 10+3,none⟩=some (.string t.dst) ∧
     w.cell? ⟨ob,j * 10+4,none⟩=some (.int .i64 t.wt)∧w.cell? ⟨ob,j * 10+5,none⟩=some (.int .i64 t.order)∧w.cell? ⟨ob,j * 10+6,none⟩=some (.int .i64 t.size) ∧
     w.cell? ⟨ob,j * 10+7,none⟩=some pv∧w.cell? ⟨ob,j * 10+8,none⟩=some kv∧w.cell? ⟨ob,j * 10+9,none⟩=some lv ∧
     PairsIn w (fun q=>lo < q) pv t.pairs∧KeysIn w (fun q=>lo < q) kv t.keys∧LinksIn w (fun q=>lo < q) lv t.links:=by
 subst hn
 obtain ⟨ao,cap,rfl,hc,hj⟩:=h
 obtain ⟨ob,_,_,_,rfl,hl,ho,_⟩:=hj 0 ts[0] (List.getElem?_eq_getElem h0)
 refine ⟨ob,cap,rfl,hc,hl,ho,fun j t hjt => ?_⟩
 obtain ⟨ob',pv,kv,lv,e,_,_,rest⟩:=hj j t hjt
 cases e
 exact ⟨pv,kv,lv,rest⟩
theorem PrOk.nil (w:World):PrOk w none 0 0 []:=⟨rfl,Nat.le_refl _,by decide,fun i p hi=>by simp at hi⟩
def awDs:List DoIn:=[⟨0,⟨#[120]⟩,⟨#[]⟩,3,[(⟨#[107]⟩,⟨#[118]⟩)]⟩,⟨5,⟨#[120]⟩,⟨#[]⟩,0,[]⟩,⟨5,⟨#[121]⟩,⟨#[]⟩,0,[]⟩]
theorem aw_run:(kst true false false false false false 0).run awDs = [{}, { value:=⟨#[120]⟩,wt:=3,pairs:=[(⟨#[107]⟩,⟨#[118]⟩)] }, { err:=2 }]:=by
 rfl
abbrev awA:Obj:=.cells #[.string ⟨#[107]⟩,.string ⟨#[118]⟩] 68
abbrev awC (n:Nat):Array Value:=#[.int .u8 0,.string ⟨#[120]⟩,.string ⟨#[]⟩,.int .i64 3,.slice (some ⟨n,0,none⟩) 1 1,.int .u8 5,.string ⟨#[120]⟩,.string ⟨#[]⟩,.int .i64 0,.slice none 0 0,
 .int .u8 5,.string ⟨#[121]⟩,.string ⟨#[]⟩,.int .i64 0,.slice none 0 0]
theorem aw_dos (w:World):DosAt ((w.alloc awA).alloc (.cells (awC w.heap.size) 50)) (some ⟨w.heap.size+1,0,none⟩) 3 3 awDs:=by
 have z1:(w.alloc awA).heap.size=w.heap.size+1:=by simp
 have c1:=Cells.new (w.alloc awA) (awC w.heap.size) 50
 rw [z1] at c1
 have c0:=(Cells.new w #[.string ⟨#[107]⟩,.string ⟨#[118]⟩] 68).alloc (.cells (awC w.heap.size) 50)
 refine DosAt.of_reads (dvs:=[(⟨0,⟨#[120]⟩,⟨#[]⟩,3,[(⟨#[107]⟩,⟨#[118]⟩)]⟩,.slice (some ⟨w.heap.size,0,none⟩) 1 1),(⟨5,⟨#[120]⟩,⟨#[]⟩,0,[]⟩,.slice none 0 0),(⟨5,⟨#[121]⟩,⟨#[]⟩,0,[]⟩,.slice none 0 0)])
   (Reads.of_cells c1 (Nat.le_refl 3) rfl) rfl (by decide) fun p hp => ?_
 simp only [List.mem_cons,List.not_mem_nil,or_false] at hp
 rcases hp with rfl|rfl|rfl
 · refine ⟨_,_,_,rfl,rfl,Nat.le_refl _,by decide,fun i p hi => ?_⟩
   match i,hi with
   | 0,hi =>
     simp only [List.getElem?_cons_zero,Option.some.injEq] at hi
     subst hi
     exact ⟨_,rfl,c0.lt,c0.cell 0 _ rfl,c0.cell 1 _ rfl⟩
   | i+1,hi=>simp at hi
 · exact ⟨_,_,_,rfl,PrOk.nil _⟩
 · exact ⟨_,_,_,rfl,PrOk.nil _⟩
theorem aw_fine:∀ d∈awDs,Fine0 true d∧d.prs.length≤1000:=by
 intro d hd
 simp only [awDs,List.mem_cons,List.not_mem_nil,or_false] at hd
 rcases hd with rfl|rfl|rfl
 · exact ⟨.inl rfl,by decide⟩
 · exact ⟨.inr (.inr (.inl rfl)),by decide⟩
 · exact ⟨.inr (.inr (.inl rfl)),by decide⟩
theorem aw17 (w:World) (B:Nat) (eb:Nat→Addr) (E:ErrsOk w B eb):Calls Tryz.prog 17 #[] w fun e w'=>e=.returned (.bool true)∧Fr0 w w':=by
 have F1:=Lib.hid (show Fr0 w ((w.alloc awA).alloc (.cells (awC w.heap.size) 50)) from ((Fr.refl (fun _=>False) w).alloc _).alloc _)
 have R:=Lib.hid (run0 _ true false false false false (some ⟨w.heap.size+1,0,none⟩) 3 3 awDs (aw_dos w) B eb (E.fr F1.out (fun _ q=>q.elim)) (by decide) aw_fine)
 clear E
 go_enter Tryz.func17,Tryz.ntmps17
 go_wp2_with fail
 refine R.out.mono ?_
 rintro e w3 ⟨v,rfl,ht,f⟩
 rw [aw_run] at ht
 obtain ⟨ob,cap,rfl,hc,hl,ho,hj⟩:=ht.cells 3 rfl (by decide)
 have F:=Lib.hid (F1.out.trans0 f)
 obtain ⟨pv,kv,lv,x0,x1,x2,x3,x4,x5,x6,x7,x8,x9,xp,xk,xl⟩:=hj 1 _ rfl
 obtain ⟨⟨a1,c1,rfl,_⟩,_⟩:=xp
 obtain ⟨pv2,kv2,lv2,y0,y1,y2,y3,y4,y5,y6,y7,y8,y9,yp,yk,yl⟩:=hj 2 _ rfl
 replace x1:w3.cell? ⟨ob,11,none⟩=some (.string ⟨#[120]⟩):=x1
 replace x4:w3.cell? ⟨ob,14,none⟩=some (.int .i64 3):=x4
 replace x7:w3.cell? ⟨ob,17,none⟩=some (.slice a1 1 c1):=x7
 replace y0:w3.cell? ⟨ob,20,none⟩=some (.int .u8 2):=y0
 clear hj x0 x2 x3 x5 x6 x8 x9 xk xl y1 y2 y3 y4 y5 y6 y7 y8 y9 yp yk yl f F1 R
 go_wp2_with fail
 go_ret
 exact ⟨rfl,F.out⟩
end Go.Proofs.YtbafaadmlpamiaaGreatDoor
