import Derived.Test.YtbafaadmlpamiaaGreatDoorB2
import Derived.Test.YtbafaadmlpamiaaGreatDoorC1
import Derived.Test.YtbafaadmlpamiaaGreatDoorR1
namespace Go.Proofs.YtbafaadmlpamiaaGreatDoor
open Go Go.Hy Go.RowKit
theorem mdE1 (v : Value) (w : World) : (Go.method 419 162 v "RemoveVertex").run Tryz.prog w = .ok (184, v) w := by kernel_rfl
theorem mdE3 (v : Value) (w : World) : (Go.method 419 162 v "RemoveEdge").run Tryz.prog w = .ok (183, v) w := by kernel_rfl
theorem mdE4 (v : Value) (w : World) : (Go.method 419 162 v "UpdateEdge").run Tryz.prog w = .ok (187, v) w := by kernel_rfl
theorem mdE2 (v : Value) (w : World) : (Go.method 419 162 v "AddEdge").run Tryz.prog w = .ok (173, v) w := by kernel_rfl
theorem muE1 (v : Value) (w : World) : (Go.method 419 164 v "RemoveVertex").run Tryz.prog w = .ok (209, v) w := by kernel_rfl
theorem muE3 (v : Value) (w : World) : (Go.method 419 164 v "RemoveEdge").run Tryz.prog w = .ok (208, v) w := by kernel_rfl
theorem muE4 (v : Value) (w : World) : (Go.method 419 164 v "UpdateEdge").run Tryz.prog w = .ok (212, v) w := by kernel_rfl
theorem muE2 (v : Value) (w : World) : (Go.method 419 164 v "AddEdge").run Tryz.prog w = .ok (198, v) w := by kernel_rfl
abbrev EPost (eb:Nat→Addr) (G:GS) (R:Int→GS→Prop) (w':World) (e:Ending) (w2:World):Prop:=∃ ev:EV,ev.ok∧e=.returned (ev.val eb)∧∃ G',R ev.code G'∧GStep w' G w2 G'
abbrev ECall1 (w:World) (eb:Nat→Addr) (G:GS) (R:Int→GS→Prop) (a:ByteArray) (F:Nat):Prop :=
 ∀ w',Fr0 w w'→Calls Tryz.prog F #[.pointer (some ⟨G.gB,0,none⟩),.string a] w' (EPost eb G R w')
abbrev ECall3 (w:World) (eb:Nat→Addr) (G:GS) (R:Int→GS→Prop) (a b:ByteArray) (F:Nat):Prop :=
 ∀ w',Fr0 w w'→Calls Tryz.prog F #[.pointer (some ⟨G.gB,0,none⟩),.string a,.string b] w' (EPost eb G R w')
abbrev ECall4 (w:World) (eb:Nat→Addr) (G:GS) (R:Int→GS→Prop) (a b:ByteArray) (wt:Int) (prs:List (ByteArray × ByteArray)) (F:Nat):Prop :=
 ∀ w',Fr0 w w'→∀ (ov:Value) (os:List Opt),Opts w' ov os Opt.eV→(∀ s0:PS,os.foldl Opt.app s0=(wt,prs.foldl (fun es p=>putA es p.1 p.2) s0.2)) →
   Calls Tryz.prog F #[.pointer (some ⟨G.gB,0,none⟩),.string a,.string b,ov] w' (EPost eb G R w')
set_option maxHeartbeats 4000000 in
set_option maxRecDepth 100000 in
set_option linter.unusedSimpArgs false in
theorem stepEw (w:World) (G:GS) (h:GRep w G) (T:TypeId) (op:Nat) (b0 b1 b2 b3 b4 b5:Bool) (hk:Nat) (a b:ByteArray) (wt:Int) (ao:Option Addr) (n cap:Nat) (prs:List (ByteArray × ByteArray)) (hp:PrOk w ao n cap prs) (B:Nat) (eb:Nat→Addr) (E:ErrsOk w B eb) (hB:∀ k∈G.own,B≤k) (R:Int→GS→Prop)
   (HC:(T=162∧op=1∧ECall1 w eb G R a 184)∨(T=164∧op=1∧ECall1 w eb G R a 209)∨(T=162∧op=3∧ECall3 w eb G R a b 183)∨(T=164∧op=3∧ECall3 w eb G R a b 208) ∨
     (T=162∧op=4∧ECall4 w eb G R a b wt prs 187)∨(T=164∧op=4∧ECall4 w eb G R a b wt prs 212)∨(T=162∧op=2∧ECall4 w eb G R a b wt prs 173)∨(T=164∧op=2∧ECall4 w eb G R a b wt prs 198)) :
   Calls Tryz.prog 39 #[.iface T (.pointer (some ⟨G.gB,0,none⟩)),kagg b0 b1 b2 b3 b4 b5 hk,doV op a b wt ao n cap] w fun e w'=>∃ (c:Int) (G':GS),e=.returned (toldE c)∧R c G'∧GStep w G w' G':=by
 have HC0:=Lib.hid HC
 have E0:=Lib.hid E
 clear HC E
 have mA1:=mdE1
 have mA2:=muE1
 have mA3:=mdE3
 have mA4:=muE3
 have mA5:=mdE4
 have mA6:=muE4
 have mA7:=mdE2
 have mA8:=muE2
 obtain ⟨hn,hcap,hsm,hat⟩:=hp
 have P:=Lib.hid hat
 have HG:=Lib.hid h
 subst hn
 clear hat h
 go_enter Tryz.func39,Tryz.ntmps39
 go_wp2_with (first
   | (go_at_call 64;refine (ew _ wt).mono ?_;rintro e w1 ⟨rfl,rfl⟩)
   | (go_at_call 65;refine (vw _ wt).mono ?_;rintro e w1 ⟨rfl,rfl⟩))
 try go_frame
 go_loopg [8,9,45] prs.length (fun k v8 v9 c wr=>DL (stepW w b0 b1 b2 b3 b4 b5 hk op a b wt ao prs.length cap) wt prs k v8 v9 c wr)
 case atStart =>
   have:=DL.start (wB:=stepW w b0 b1 b2 b3 b4 b5 hk op a b wt ao prs.length cap) wt prs
   have zz:(stepW w b0 b1 b2 b3 b4 b5 hk op a b wt ao prs.length cap).heap.size=w.heap.size+1+1+1+1:=by simp [stepW]
   rw [zz] at this
   exact this
 case round =>
   obtain ⟨i,oE,oV,hk',rfl,hE,hV,lE,lV,aE,aV,hap,f⟩:=hrel
   have A:=hid9 hk' hE hV lE lV aE aV hap f
   clear hk' hE hV lE lV aE aV hap f
   by_cases hi:i < prs.length
   · have hg:=List.getElem?_eq_getElem hi
     obtain ⟨ob,rfl,hob,p0,p1⟩:=P.out i _ hg
     have FW:=Lib.hid (show Fr0 w wr from (show Fr0 w (stepW w b0 b1 b2 b3 b4 b5 hk op a b wt (some ⟨ob,0,none⟩) prs.length cap) from by unfold stepW;((repeat' with_reducible first|assumption|exact frR|apply frD|apply frN|apply frA|apply frM|apply frC);all_goals (simp;try omega))).trans0 A.out.2.2.2.2.2.2.2.2)
     have q0:=(FW.out.cell (p:=⟨ob,i * 2,none⟩) hob (fun q=>q)).trans p0
     have q1:=(FW.out.cell (p:=⟨ob,i * 2+1,none⟩) hob (fun q=>q)).trans p1
     have HGI:=Lib.hid hg
     generalize prs[i]=pr at q0 q1 HGI
     clear p0 p1 hg
     go_wp2_with fail
     refine (ea _ pr.1 pr.2).mono ?_
     rintro e w1 ⟨rfl,hw1⟩
     have OK1:=Lib.hid (optE hw1)
     clear hw1
     go_wp2_with (first
       | (at_builtin;refine wl_app1 (w:=w1) 124 rfl (.tmp 49) (.tmp 55) rfl 122 _ 1 8 Tryz.underlying124 info122 rfl (by decide) (by decide) _ u8 oE.length (oE.map Opt.eV) rfl (A.out.2.1.fr0 OK1.out.1).own #[(Opt.at_ pr.1 pr.2 (wr.heap.size+1+1) (wr.heap.size+1)).eV] w1.heap.size rfl rfl rfl (by simp [Value.oneCell',Opt.eV]) (by have:=A.out.2.2.2.1;omega) (by have h1:=A.out.2.2.2.2.2.2.2.2.size;have h2:=OK1.out.1.size;omega) ?_))
     intro v8' w2 ho8 g8 _
     have hw1:=OK1.out.1.size
     have pb2:Cells w2 wr.heap.size #[.string pr.1,.string pr.2] 68:=OK1.out.2.2.fr g8 (fun q=>by have:=(A.out.2.1.own.lt _ q).2;omega)
     have e0:=pb2.cell 0 _ rfl
     have e1:=pb2.cell 1 _ rfl
     have el:=pb2.lt
     have OK2:=hid2 ho8 g8
     clear ho8 g8 pb2
     go_wp2_with fail
     refine (va _ pr.1 pr.2).mono ?_
     rintro e w3 ⟨rfl,hw3⟩
     have OK3:=Lib.hid (optV hw3)
     have V2:=Lib.hid (show w3.ownsRow (stepW w b0 b1 b2 b3 b4 b5 hk op a b wt (some ⟨ob,0,none⟩) prs.length cap).heap.size 125 1 u9 oV.length (oV.map Opt.vV) from
       ownsRow_fr (ownsRow_fr (A.out.2.2.1.fr0 OK1.out.1).own OK2.out.2 fun q hq=>own_type (A.out.2.2.1.fr0 OK1.out.1).own (A.out.2.1.fr0 OK1.out.1).own (by decide) q hq) OK3.out.1 fun _ _ q=>q)
     clear hw3
     go_wp2_with (first
       | (at_builtin;refine wl_app1 (w:=w3) 127 rfl (.tmp 57) (.tmp 63) rfl 125 _ 1 8 Tryz.underlying127 info125 rfl (by decide) (by decide) _ u9 oV.length (oV.map Opt.vV) rfl V2.out #[(Opt.at_ pr.1 pr.2 (w2.heap.size+1) w2.heap.size).vV] w3.heap.size rfl rfl rfl (by simp [Value.oneCell',Opt.vV]) (by have:=A.out.2.2.2.2.1;omega) (by have h1:=A.out.2.2.2.2.2.2.2.2.size;have h2:=OK3.out.1.size;have h3:=OK2.out.2.size;omega) ?_))
     intro v9' w4 ho9 g9 _
     have OK4:=hid2 ho9 g9
     clear ho9 g9
     go_wp2_with fail
     obtain ⟨hk',hE,hV,lE,lV,aE,aV,hap,f⟩:=A.out
     have R:=DL.step hk' hi HGI.out hE hV lE lV aE aV f OK1.out.1 OK1.out.2.1 OK2.out.1 OK2.out.2 OK3.out.1 OK3.out.2 OK4.out.1 OK4.out.2
     go_roundg (gk - 1)
     case measure=>exact R.1
     case rel=>exact R.2
   · have hi':i=prs.length:=by have:=A.out.1;omega
     subst hi'
     have SBB:=stepB A.out.2.2.2.2.2.2.2.2
     have FW:=Lib.hid SBB.1
     have sB:=SBB.2.1
     have s0:=sB.cell 0 _ rfl
     have s1:=sB.cell 1 _ rfl
     have s2:=sB.cell 2 _ rfl
     have sl:=sB.lt
     have TB:=Lib.hid SBB.2.2.2
     have RB:=Lib.hid SBB.2.2.1
     clear sB SBB
     have HT:=Lib.hid (show ∀ k,k∈G.own→k < w.heap.size from HG.out.lt)
     have NV:=Lib.hid (show oE≠[] from by intro q;have:=A.out.2.2.2.1;rw [q] at this;simp at this)
     have HR:=Lib.hid (HG.out.fr FW.out (fun _ _ q=>q) (fun q=>q))
     have ER:=Lib.hid (E0.out.fr FW.out (fun _ q=>q.elim))
     have szr:=A.out.2.2.2.2.2.2.2.2.size
     have szw:(stepW w b0 b1 b2 b3 b4 b5 hk op a b wt ao prs.length cap).heap.size=w.heap.size+1+1+1+1:=by simp [stepW]
     have SZ:=Lib.hid (show w.heap.size+4≤wr.heap.size from by omega)
     clear szr szw
     have HD:=HC0.out
     clear HC0
     rcases HD with HD|HD|HD|HD|HD|HD|HD|HD
     all_goals
       obtain ⟨e1,e2,HC⟩:=HD
       subst e1 e2
       have HC5:=Lib.hid HC
       clear HC
       go_wp2_with fail
       first
         | refine (HC5.out wr FW.out).mono ?_
         | refine (HC5.out wr FW.out u8 oE (A.out.2.1.opts NV.out (by have:=A.out.2.2.2.1;omega)) (fun s0=>by have:=A.out.2.2.2.2.2.1 s0;rw [List.take_length] at this;exact this)).mono ?_
       rintro e w5 ⟨ev,hev,rfl,G',hr,g⟩
       have tb5:=TB.out.fr g.fr (fun q=>by have:=HT.out _ q;omega)
       have E5:=Lib.hid (ER.out.fr g.fr (fun k q=>hB k q))
       have rb5:=RB.out.fr g.fr (fun q=>by have:=HT.out _ q;omega)
       have R5:=hid4 hr g tb5 rb5
       clear hr g tb5 rb5
       go_wp2_with fail
       refine (errorof w5 B eb E5.out ev hev).mono ?_
       rintro e w6 ⟨rfl,f6⟩
       have TB6:=Lib.hid (R5.out.2.2.1.fr f6 (fun q=>q))
       have RB6:=Lib.hid (R5.out.2.2.2.fr f6 (fun q=>q))
       have FF:=Lib.hid f6
       clear f6
       have y0:=TB6.out.free 0
       obtain ⟨t0,t1,t2,t3,t4,t5,t6,t7,t8,t9⟩:=TB6.out.ten;have tl:=TB6.out.lt;obtain ⟨r0,r1,r2,r3,r4,r5,r6,r7,r8,r9⟩:=RB6.out.ten;obtain ⟨z0,z1,z2,z3,z4,z5,z6,z7,z8,z9⟩:=RB6.out.tenf;have rl:=RB6.out.lt
       go_wp2_with fail
       refine bodyPost_ret (v:=toldE ev.code) (by simp [results,Tryz.results39,go_sem, *]) rfl ⟨ev.code,G',rfl,R5.out.1,?_⟩
       exact GStep.fin HG.out FW.out R5.out.2.1 (S:=fun k=>k=w.heap.size+1+1∨k=w.heap.size+1+1+1) (Fr.trans (FF.out.mono fun _ q=>q.elim) (fr_boxes w6 (w.heap.size+1+1) (w.heap.size+1+1+1) _ _ _ _ _ _ _ _ _ _ _) fun _ q=>.inl q) fun k q=>by have:=SZ.out;omega
theorem touch_any (G:GS) (k:ByteArray):(G.st.ls.any fun l=>decide (l.a=k∨l.b=k))=true↔Touch G k:=by
 unfold Touch GS.st
 simp only [List.any_map,List.any_eq_true,Function.comp_def,decide_eq_true_eq]
 rfl
theorem st_rmV_none (G:GS) (a b:ByteArray) (wt:Int) (prs:List PP) (h:findP G.pts a=none):G.st.rmV ⟨1,a,b,wt,prs⟩=({ err:=2 },G.st):=by
 unfold St.rmV
 rw [st_pt,h]
 rfl
theorem st_rmV_touch (G:GS) (a b:ByteArray) (wt:Int) (prs:List PP) (h:findP G.pts a≠none) (ht:Touch G a):G.st.rmV ⟨1,a,b,wt,prs⟩=({ err:=3 },G.st):=by
 obtain ⟨p,hp⟩:=Option.ne_none_iff_exists'.1 h
 unfold St.rmV
 rw [st_pt,hp]
 simp only [Option.map_some]
 rw [if_pos ((touch_any G a).2 ht)]
theorem st_rmV_yes (G:GS) (a b:ByteArray) (wt:Int) (prs:List PP) (h:findP G.pts a≠none) (ht:¬ Touch G a) (c':St1) :
   G.st.rmV ⟨1,a,b,wt,prs⟩=({},({ G with c:=c',pts:=G.pts.filter fun p=>decide (p.h≠a) }:GS).st):=by
 obtain ⟨p,hp⟩:=Option.ne_none_iff_exists'.1 h
 unfold St.rmV
 rw [st_pt,hp]
 simp only [Option.map_some]
 rw [if_neg (fun q=>ht ((touch_any G a).1 q))]
 unfold GS.st
 simp only [List.filter_map]
 rfl
theorem st_rmE_none (G:GS) (a b:ByteArray) (wt:Int) (prs:List PP) (h:findL G.dir G.lks a b=none):G.st.rmE ⟨3,a,b,wt,prs⟩=({ err:=5 },G.st):=by
 unfold St.rmE
 rw [st_lk,h]
 rfl
theorem st_rmE_yes (G:GS) (a b:ByteArray) (wt:Int) (prs:List PP) (h:findL G.dir G.lks a b≠none) (c':St1):G.st.rmE ⟨3,a,b,wt,prs⟩=({},({ G with c:=c',lks:=rmL G.dir G.lks a b }:GS).st):=by
 obtain ⟨l,hl⟩:=Option.ne_none_iff_exists'.1 h
 unfold St.rmE
 rw [st_lk,hl]
 unfold GS.st rmL
 simp only [Option.map_some,List.filter_map]
 rfl
theorem st_updE_none (G:GS) (a b:ByteArray) (wt:Int) (prs:List PP) (h:findL G.dir G.lks a b=none):G.st.updE ⟨4,a,b,wt,prs⟩=({ err:=5 },G.st):=by
 unfold St.updE
 rw [st_lk,h]
 rfl
theorem st_updE_yes {w:World} {G:GS} (hr:GRep w G) (a b:ByteArray) (wt:Int) (prs:List PP) {l:Lk} (h:findL G.dir G.lks a b=some l) (c':St1) :
   G.st.updE ⟨4,a,b,wt,prs⟩=({},({ G with c:=c',lks:=updL G.dir G.lks a b (wt,prs.foldl (fun es p=>putA es p.1 p.2) l.es) }:GS).st):=by
 obtain ⟨lm,lh⟩:=findL_mem h
 unfold St.updE
 rw [st_lk,h]
 unfold GS.st updL
 simp only [Option.map_some,List.map_map]
 congr 2
 refine List.map_congr_left fun m hm => ?_
 simp only [Function.comp_def]
 have e:(Lk.sl m).hit G.dir a b=m.hit G.dir a b:=rfl
 rw [e]
 by_cases hh:m.hit G.dir a b=true
 · rw [if_pos hh,if_pos hh]
   have em:=uniq_hit hr.lnd hm lm hh lh
   subst em
   unfold Lk.sl
   simp only
   rw [← byK_puts (ats_nodup (hr.la m hm)) prs]
   rfl
 · rw [if_neg hh,if_neg hh]
theorem dstepC1 (B:Nat) (eb:Nat→Addr) (s:St) (d:DoIn) (hop:d.op=1) (hd:s.dir=true):StepC B eb s d:=by
 intro w G b0 b1 b2 b3 b4 b5 hk ao n cap h hG HC E hB hp
 obtain ⟨op,a,b,wt,prs⟩:=d
 subst hop hG
 rw [val_dir (show G.dir=true from hd)]
 refine (stepEw w G h 162 1 b0 b1 b2 b3 b4 b5 hk a b wt ao n cap prs hp B eb E hB (fun c G'=>∃ n:Nat,c=n∧G.st.rmV ⟨1,a,b,wt,prs⟩=({ err:=n },G'.st)) (.inl ⟨rfl,rfl,fun w' f => ?_⟩)).mono ?_
 · refine (dremv w' G (h.fr f (fun _ _ q=>q) (fun q=>q)) B eb (E.fr f (fun _ q=>q.elim)) hB a).mono ?_
   rintro e w2 ⟨ev,h1,rfl,⟨h2,h3,g⟩|⟨h2,h3,h4,c',g⟩|⟨h2,h3,h4,c',g⟩⟩
   · exact ⟨ev,h1,rfl,G,⟨2,h3,st_rmV_none G a b wt prs h2⟩,g⟩
   · exact ⟨ev,h1,rfl, { G with c:=c' },⟨3,h4,st_rmV_touch G a b wt prs h2 h3⟩,g⟩
   · exact ⟨ev,h1,rfl,_,⟨0,h4,st_rmV_yes G a b wt prs h2 h3 c'⟩,g⟩
 · rintro e w' ⟨c,G',rfl,⟨n,rfl,h1⟩,g⟩
   have e1:G.st.step ⟨1,a,b,wt,prs⟩=_:=h1
   rw [e1]
   exact ⟨_,G',rfl,toldE_at _ _ n,rfl,g⟩
theorem dstepC3 (B:Nat) (eb:Nat→Addr) (s:St) (d:DoIn) (hop:d.op=3) (hd:s.dir=true):StepC B eb s d:=by
 intro w G b0 b1 b2 b3 b4 b5 hk ao n cap h hG HC E hB hp
 obtain ⟨op,a,b,wt,prs⟩:=d
 subst hop hG
 have hd':G.dir=true:=hd
 rw [val_dir hd']
 refine (stepEw w G h 162 3 b0 b1 b2 b3 b4 b5 hk a b wt ao n cap prs hp B eb E hB (fun c G'=>∃ n:Nat,c=n∧G.st.rmE ⟨3,a,b,wt,prs⟩=({ err:=n },G'.st)) (.inr (.inr (.inl ⟨rfl,rfl,fun w' f => ?_⟩)))).mono ?_
 · refine (dreme w' G (h.fr f (fun _ _ q=>q) (fun q=>q)) hd' B eb (E.fr f (fun _ q=>q.elim)) a b).mono ?_
   rintro e w2 ⟨ev,h1,rfl,⟨h2,h3,g⟩|⟨h2,h3,c',g⟩⟩
   · exact ⟨ev,h1,rfl,G,⟨5,h3,st_rmE_none G a b wt prs h2⟩,g⟩
   · exact ⟨ev,h1,rfl,_,⟨0,h3,st_rmE_yes G a b wt prs h2 c'⟩,g⟩
 · rintro e w' ⟨c,G',rfl,⟨n,rfl,h1⟩,g⟩
   have e1:G.st.step ⟨3,a,b,wt,prs⟩=_:=h1
   rw [e1]
   exact ⟨_,G',rfl,toldE_at _ _ n,rfl,g⟩
theorem dstepC4 (B:Nat) (eb:Nat→Addr) (s:St) (d:DoIn) (hop:d.op=4) (hd:s.dir=true):StepC B eb s d:=by
 intro w G b0 b1 b2 b3 b4 b5 hk ao n cap h hG HC E hB hp
 obtain ⟨op,a,b,wt,prs⟩:=d
 subst hop hG
 have hd':G.dir=true:=hd
 rw [val_dir hd']
 refine (stepEw w G h 162 4 b0 b1 b2 b3 b4 b5 hk a b wt ao n cap prs hp B eb E hB (fun c G'=>∃ n:Nat,c=n∧G.st.updE ⟨4,a,b,wt,prs⟩=({ err:=n },G'.st)) (.inr (.inr (.inr (.inr (.inl ⟨rfl,rfl,fun w' f ov os ho hos => ?_⟩)))))).mono ?_
 · have hr:=h.fr f (fun _ _ q=>q) (fun q=>q)
   cases hl:findL G.dir G.lks a b with
   | none =>
     refine (dupd_no w' G hr B eb (E.fr f (fun _ q=>q.elim)) a b ov os hl).mono ?_
     rintro e w2 ⟨ev,h1,rfl,⟨h2,h3,g⟩|⟨l,h2,h3,c',g⟩⟩
     · exact ⟨ev,h1,rfl,G,⟨5,h3,st_updE_none G a b wt prs h2⟩,g⟩
     · rw [hl] at h2;cases h2
   | some l =>
     refine (dupd_yes w' G hr hd' eb a b ov os ho l hl).mono ?_
     rintro e w2 ⟨ev,h1,rfl,⟨h2,h3,g⟩|⟨l',h2,h3,c',g⟩⟩
     · rw [hl] at h2;cases h2
     · rw [hos] at g
       exact ⟨ev,h1,rfl,_,⟨0,h3,st_updE_yes h a b wt prs h2 c'⟩,g⟩
 · rintro e w' ⟨c,G',rfl,⟨n,rfl,h1⟩,g⟩
   have e1:G.st.step ⟨4,a,b,wt,prs⟩=_:=h1
   rw [e1]
   exact ⟨_,G',rfl,toldE_at _ _ n,rfl,g⟩
theorem ustepC1 (B:Nat) (eb:Nat→Addr) (s:St) (d:DoIn) (hop:d.op=1) (hd:s.dir=false):StepC B eb s d:=by
 intro w G b0 b1 b2 b3 b4 b5 hk ao n cap h hG HC E hB hp
 obtain ⟨op,a,b,wt,prs⟩:=d
 subst hop hG
 rw [val_undir (show G.dir=false from hd)]
 refine (stepEw w G h 164 1 b0 b1 b2 b3 b4 b5 hk a b wt ao n cap prs hp B eb E hB (fun c G'=>∃ n:Nat,c=n∧G.st.rmV ⟨1,a,b,wt,prs⟩=({ err:=n },G'.st)) (.inr (.inl ⟨rfl,rfl,fun w' f => ?_⟩))).mono ?_
 · refine (uremv w' G (h.fr f (fun _ _ q=>q) (fun q=>q)) B eb (E.fr f (fun _ q=>q.elim)) hB a).mono ?_
   rintro e w2 ⟨ev,h1,rfl,⟨h2,h3,g⟩|⟨h2,h3,h4,c',g⟩|⟨h2,h3,h4,c',g⟩⟩
   · exact ⟨ev,h1,rfl,G,⟨2,h3,st_rmV_none G a b wt prs h2⟩,g⟩
   · exact ⟨ev,h1,rfl, { G with c:=c' },⟨3,h4,st_rmV_touch G a b wt prs h2 h3⟩,g⟩
   · exact ⟨ev,h1,rfl,_,⟨0,h4,st_rmV_yes G a b wt prs h2 h3 c'⟩,g⟩
 · rintro e w' ⟨c,G',rfl,⟨n,rfl,h1⟩,g⟩
   have e1:G.st.step ⟨1,a,b,wt,prs⟩=_:=h1
   rw [e1]
   exact ⟨_,G',rfl,toldE_at _ _ n,rfl,g⟩
theorem ustepC3 (B:Nat) (eb:Nat→Addr) (s:St) (d:DoIn) (hop:d.op=3) (hd:s.dir=false):StepC B eb s d:=by
 intro w G b0 b1 b2 b3 b4 b5 hk ao n cap h hG HC E hB hp
 obtain ⟨op,a,b,wt,prs⟩:=d
 subst hop hG
 have hd':G.dir=false:=hd
 rw [val_undir hd']
 refine (stepEw w G h 164 3 b0 b1 b2 b3 b4 b5 hk a b wt ao n cap prs hp B eb E hB (fun c G'=>∃ n:Nat,c=n∧G.st.rmE ⟨3,a,b,wt,prs⟩=({ err:=n },G'.st)) (.inr (.inr (.inr (.inl ⟨rfl,rfl,fun w' f => ?_⟩))))).mono ?_
 · refine (ureme w' G (h.fr f (fun _ _ q=>q) (fun q=>q)) hd' B eb (E.fr f (fun _ q=>q.elim)) a b).mono ?_
   rintro e w2 ⟨ev,h1,rfl,⟨h2,h3,g⟩|⟨h2,h3,c',g⟩⟩
   · exact ⟨ev,h1,rfl,G,⟨5,h3,st_rmE_none G a b wt prs h2⟩,g⟩
   · exact ⟨ev,h1,rfl,_,⟨0,h3,st_rmE_yes G a b wt prs h2 c'⟩,g⟩
 · rintro e w' ⟨c,G',rfl,⟨n,rfl,h1⟩,g⟩
   have e1:G.st.step ⟨3,a,b,wt,prs⟩=_:=h1
   rw [e1]
   exact ⟨_,G',rfl,toldE_at _ _ n,rfl,g⟩
theorem ustepC4 (B:Nat) (eb:Nat→Addr) (s:St) (d:DoIn) (hop:d.op=4) (hd:s.dir=false):StepC B eb s d:=by
 intro w G b0 b1 b2 b3 b4 b5 hk ao n cap h hG HC E hB hp
 obtain ⟨op,a,b,wt,prs⟩:=d
 subst hop hG
 have hd':G.dir=false:=hd
 rw [val_undir hd']
 refine (stepEw w G h 164 4 b0 b1 b2 b3 b4 b5 hk a b wt ao n cap prs hp B eb E hB (fun c G'=>∃ n:Nat,c=n∧G.st.updE ⟨4,a,b,wt,prs⟩=({ err:=n },G'.st)) (.inr (.inr (.inr (.inr (.inr (.inl ⟨rfl,rfl,fun w' f ov os ho hos => ?_⟩))))))).mono ?_
 · have hr:=h.fr f (fun _ _ q=>q) (fun q=>q)
   cases hl:findL G.dir G.lks a b with
   | none =>
     refine (uupd_no w' G hr B eb (E.fr f (fun _ q=>q.elim)) a b ov os hl).mono ?_
     rintro e w2 ⟨ev,h1,rfl,⟨h2,h3,g⟩|⟨l,h2,h3,c',g⟩⟩
     · exact ⟨ev,h1,rfl,G,⟨5,h3,st_updE_none G a b wt prs h2⟩,g⟩
     · rw [hl] at h2;cases h2
   | some l =>
     refine (uupd_yes w' G hr hd' eb a b ov os ho l hl).mono ?_
     rintro e w2 ⟨ev,h1,rfl,⟨h2,h3,g⟩|⟨l',h2,h3,c',g⟩⟩
     · rw [hl] at h2;cases h2
     · rw [hos] at g
       exact ⟨ev,h1,rfl,_,⟨0,h3,st_updE_yes h a b wt prs h2 c'⟩,g⟩
 · rintro e w' ⟨c,G',rfl,⟨n,rfl,h1⟩,g⟩
   have e1:G.st.step ⟨4,a,b,wt,prs⟩=_:=h1
   rw [e1]
   exact ⟨_,G',rfl,toldE_at _ _ n,rfl,g⟩
end Go.Proofs.YtbafaadmlpamiaaGreatDoor
