import Derived.Test.YtbafaadmlpamiaaGreatDoorB2
set_option maxRecDepth 100000
set_option maxHeartbeats 1000000
namespace Go.Proofs.YtbafaadmlpamiaaGreatDoor
open Go Go.Hy Go.RowKit
theorem mdAddEdge (v : Value) (w : World) : (Go.method 419 162 v "AddEdge").run Tryz.prog w = .ok (173, v) w := by kernel_rfl
theorem muAddEdge (v : Value) (w : World) : (Go.method 419 164 v "AddEdge").run Tryz.prog w = .ok (198, v) w := by kernel_rfl
theorem dstep2 (w:World) (G:GS) (h:GRep w G) (b0 b1 b2 b3 b4 b5:Bool) (hk:Nat) (a b:ByteArray) (wt:Int) (ao:Option Addr) (n cap:Nat) (prs:List (ByteArray × ByteArray)) (hp:PrOk w ao n cap prs) (hd:G.dir=true) (hpr:Calm G a b) (B:Nat) (eb:Nat→Addr) (E:ErrsOk w B eb) (hB:∀ k∈G.own,B≤k) :
   Calls Tryz.prog 39 #[.iface 162 (.pointer (some ⟨G.gB,0,none⟩)),kagg b0 b1 b2 b3 b4 b5 hk,doV 2 a b wt ao n cap] w fun e w' =>
     ((findP G.pts a=none∨findP G.pts b=none)∧e=.returned (toldE 2)∧GStep w G w' G) ∨
     (findP G.pts a≠none∧findP G.pts b≠none∧findL G.dir G.lks a b≠none∧e=.returned (toldE 4)∧GStep w G w' G) ∨
     (findP G.pts a≠none∧findP G.pts b≠none∧findL G.dir G.lks a b=none∧e=.returned (toldE 0)∧∃ c' mb,GStep w G w' { G with c:=c',lks:=G.lks ++ [⟨a,b,wt,mb,putAll prs⟩] }):=by
 obtain ⟨hn,hcap,hsm,hat⟩:=hp
 have P:=Lib.hid hat
 have HG:=Lib.hid h
 subst hn
 clear hat h
 go_enter Tryz.func39,Tryz.ntmps39
 go_wp2_with (first
   | (go_at_call 64;refine (ew _ wt).mono ?_;rintro e w1 ⟨rfl,rfl⟩)
   | (go_at_call 65;refine (vw _ wt).mono ?_;rintro e w1 ⟨rfl,rfl⟩))
 try go_frame
 go_loopg [8,9,45] prs.length (fun k v8 v9 c wr=>DL (stepW w b0 b1 b2 b3 b4 b5 hk 2 a b wt ao prs.length cap) wt prs k v8 v9 c wr)
 case atStart =>
   have:=DL.start (wB:=stepW w b0 b1 b2 b3 b4 b5 hk 2 a b wt ao prs.length cap) wt prs
   have zz:(stepW w b0 b1 b2 b3 b4 b5 hk 2 a b wt ao prs.length cap).heap.size=w.heap.size+1+1+1+1:=by simp [stepW]
   rw [zz] at this
   exact this
 case round =>
   obtain ⟨i,oE,oV,hk',rfl,hE,hV,lE,lV,aE,aV,hap,f⟩:=hrel
   have A:=hid9 hk' hE hV lE lV aE aV hap f
   clear hk' hE hV lE lV aE aV hap f
   by_cases hi:i < prs.length
   · have hg:=List.getElem?_eq_getElem hi
     obtain ⟨ob,rfl,hob,p0,p1⟩:=P.out i _ hg
     have FW:=Lib.hid (show Fr0 w wr from (show Fr0 w (stepW w b0 b1 b2 b3 b4 b5 hk 2 a b wt (some ⟨ob,0,none⟩) prs.length cap) from by unfold stepW;((repeat' with_reducible first|assumption|exact frR|apply frD|apply frN|apply frA|apply frM|apply frC);all_goals (simp;try omega))).trans0 A.out.2.2.2.2.2.2.2.2)
     have q0:=(FW.out.cell (p:=⟨ob,i * 2,none⟩) hob (fun q=>q)).trans p0
     have q1:=(FW.out.cell (p:=⟨ob,i * 2+1,none⟩) hob (fun q=>q)).trans p1
     have HGI:=Lib.hid hg
     generalize prs[i]=pr at q0 q1 HGI
     clear p0 p1 hg
     go_wp2_with fail
     refine (ea _ pr.1 pr.2).mono ?_
     rintro e w1 ⟨rfl,hw1⟩
     have f1:Fr0 wr w1:=by rw [hw1];((repeat' with_reducible first|assumption|exact frR|apply frD|apply frN|apply frA|apply frM|apply frC);all_goals (simp;try omega))
     have okE:(Opt.at_ pr.1 pr.2 (wr.heap.size+1+1) (wr.heap.size+1)).ok w1:=by
       have z1:(wr.alloc (.cells #[.string pr.1,.string pr.2] 68)).heap.size=wr.heap.size+1:=by simp
       have z2:((wr.alloc (.cells #[.string pr.1,.string pr.2] 68)).alloc (.cells #[.string pr.1] 9)).heap.size=wr.heap.size+1+1:=by simp
       have y1:=(Cells.new (wr.alloc (.cells #[.string pr.1,.string pr.2] 68)) #[.string pr.1] 9).alloc (.cells #[.string pr.2] 9)
       have y2:=Cells.new ((wr.alloc (.cells #[.string pr.1,.string pr.2] 68)).alloc (.cells #[.string pr.1] 9)) #[.string pr.2] 9
       rw [z1] at y1
       rw [z2] at y2
       rw [hw1]
       exact ⟨y2.cell 0 _ rfl,y1.cell 0 _ rfl⟩
     have pb1:Cells w1 wr.heap.size #[.string pr.1,.string pr.2] 68:=by rw [hw1];exact ((Cells.new wr _ _).alloc _).alloc _
     have OK1:=hid3 f1 okE pb1
     clear hw1 f1 okE pb1
     go_wp2_with (first
       | (at_builtin;refine wl_app1 (w:=w1) 124 rfl (.tmp 49) (.tmp 55) rfl 122 _ 1 8 Tryz.underlying124 info122 rfl (by decide) (by decide) _ u8 oE.length (oE.map Opt.eV) rfl (A.out.2.1.fr0 OK1.out.1).own #[(Opt.at_ pr.1 pr.2 (wr.heap.size+1+1) (wr.heap.size+1)).eV] w1.heap.size rfl rfl rfl (by simp [Value.oneCell',Opt.eV]) (by have:=A.out.2.2.2.1;omega) (by have h1:=A.out.2.2.2.2.2.2.2.2.size;have h2:=OK1.out.1.size;omega) ?_))
     intro v8' w2 ho8 g8 _
     have hw1:=OK1.out.1.size
     have pb2:Cells w2 wr.heap.size #[.string pr.1,.string pr.2] 68:=OK1.out.2.2.fr g8 (fun q=>by have:=(A.out.2.1.own.lt _ q).2;omega)
     have e0:=pb2.cell 0 _ rfl
     have e1:=pb2.cell 1 _ rfl
     have el:=pb2.lt
     have OK2:=hid2 ho8 g8
     clear ho8 g8 pb2
     go_wp2_with fail
     refine (va _ pr.1 pr.2).mono ?_
     rintro e w3 ⟨rfl,hw3⟩
     have f3:Fr0 w2 w3:=by rw [hw3];((repeat' with_reducible first|assumption|exact frR|apply frD|apply frN|apply frA|apply frM|apply frC);all_goals (simp;try omega))
     have okV:(Opt.at_ pr.1 pr.2 (w2.heap.size+1) w2.heap.size).ok w3:=by
       have z1:(w2.alloc (.cells #[.string pr.1] 9)).heap.size=w2.heap.size+1:=by simp
       have y1:=(Cells.new w2 #[.string pr.1] 9).alloc (.cells #[.string pr.2] 9)
       have y2:=Cells.new (w2.alloc (.cells #[.string pr.1] 9)) #[.string pr.2] 9
       rw [z1] at y2
       rw [hw3]
       exact ⟨y2.cell 0 _ rfl,y1.cell 0 _ rfl⟩
     have OK3:=hid2 f3 okV
     have V2:=Lib.hid (show w3.ownsRow (stepW w b0 b1 b2 b3 b4 b5 hk 2 a b wt (some ⟨ob,0,none⟩) prs.length cap).heap.size 125 1 u9 oV.length (oV.map Opt.vV) from
       ownsRow_fr (ownsRow_fr (A.out.2.2.1.fr0 OK1.out.1).own OK2.out.2 fun q hq=>own_type (A.out.2.2.1.fr0 OK1.out.1).own (A.out.2.1.fr0 OK1.out.1).own (by decide) q hq) f3 fun _ _ q=>q)
     clear hw3 f3 okV
     go_wp2_with (first
       | (at_builtin;refine wl_app1 (w:=w3) 127 rfl (.tmp 57) (.tmp 63) rfl 125 _ 1 8 Tryz.underlying127 info125 rfl (by decide) (by decide) _ u9 oV.length (oV.map Opt.vV) rfl V2.out #[(Opt.at_ pr.1 pr.2 (w2.heap.size+1) w2.heap.size).vV] w3.heap.size rfl rfl rfl (by simp [Value.oneCell',Opt.vV]) (by have:=A.out.2.2.2.2.1;omega) (by have h1:=A.out.2.2.2.2.2.2.2.2.size;have h2:=OK3.out.1.size;have h3:=OK2.out.2.size;omega) ?_))
     intro v9' w4 ho9 g9 _
     have OK4:=hid2 ho9 g9
     clear ho9 g9
     go_wp2_with fail
     obtain ⟨hk',hE,hV,lE,lV,aE,aV,hap,f⟩:=A.out
     have R:=DL.step hk' hi HGI.out hE hV lE lV aE aV f OK1.out.1 OK1.out.2.1 OK2.out.1 OK2.out.2 OK3.out.1 OK3.out.2 OK4.out.1 OK4.out.2
     go_roundg (gk - 1)
     case measure=>exact R.1
     case rel=>exact R.2
   · have hi':i=prs.length:=by have:=A.out.1;omega
     subst hi'
     have sB:Cells wr (w.heap.size+1) #[.int .u8 2,.string a,.string b,.int .i64 wt,.slice ao prs.length cap] 50:=by
       have z1:(w.alloc (kB7 b0 b1 b2 b3 b4 b5 hk)).heap.size=w.heap.size+1:=by simp
       have:=(((Cells.new (w.alloc (kB7 b0 b1 b2 b3 b4 b5 hk)) #[.int .u8 2,.string a,.string b,.int .i64 wt,.slice ao prs.length cap] 50).alloc (.cells zT 44)).alloc (.cells zT 44)).fr A.out.2.2.2.2.2.2.2.2 (fun q=>q)
       rw [z1] at this
       exact this
     have tB:Cells wr (w.heap.size+1+1+1) zT 44:=by
       have z1:(((w.alloc (kB7 b0 b1 b2 b3 b4 b5 hk)).alloc (dBox 2 a b wt ao prs.length cap)).alloc (.cells zT 44)).heap.size=w.heap.size+1+1+1:=by simp
       have:=(Cells.new (((w.alloc (kB7 b0 b1 b2 b3 b4 b5 hk)).alloc (dBox 2 a b wt ao prs.length cap)).alloc (.cells zT 44)) zT 44).fr A.out.2.2.2.2.2.2.2.2 (fun q=>q)
       rw [z1] at this
       exact this
     have FW:=Lib.hid (show Fr0 w wr from (show Fr0 w (stepW w b0 b1 b2 b3 b4 b5 hk 2 a b wt ao prs.length cap) from by unfold stepW;((repeat' with_reducible first|assumption|exact frR|apply frD|apply frN|apply frA|apply frM|apply frC);all_goals (simp;try omega))).trans0 A.out.2.2.2.2.2.2.2.2)
     have s0:=sB.cell 0 _ rfl
     have s1:=sB.cell 1 _ rfl
     have s2:=sB.cell 2 _ rfl
     have sl:=sB.lt
     have rB:Cells wr (w.heap.size+1+1) zT 44:=by
       have z1:((w.alloc (kB7 b0 b1 b2 b3 b4 b5 hk)).alloc (dBox 2 a b wt ao prs.length cap)).heap.size=w.heap.size+1+1:=by simp
       have:=((Cells.new ((w.alloc (kB7 b0 b1 b2 b3 b4 b5 hk)).alloc (dBox 2 a b wt ao prs.length cap)) zT 44).alloc (.cells zT 44)).fr A.out.2.2.2.2.2.2.2.2 (fun q=>q)
       rw [z1] at this
       exact this
     have TB:=Lib.hid tB
     have RB:=Lib.hid rB
     clear sB tB rB
     have mA:=mdAddEdge
     have HT:=Lib.hid (show ∀ k,k∈G.own→k < w.heap.size from HG.out.lt)
     have aV:apps oE=(wt,putAll (prs.take prs.length)):=A.out.2.2.2.2.2.1 (0,[])
     rw [List.take_length] at aV
     have AV:=Lib.hid aV
     have NV:=Lib.hid (show oE≠[] from by intro q;have:=A.out.2.2.2.1;rw [q] at this;simp at this)
     have HR:=Lib.hid (HG.out.fr FW.out (fun _ _ q=>q) (fun q=>q))
     have ER:=Lib.hid (E.fr FW.out (fun _ q=>q.elim))
     clear aV E
     go_wp2_with fail
     refine (daddE wr G HR.out hd a b hpr B eb ER.out u8 oE (A.out.2.1.opts NV.out (by have:=A.out.2.2.2.1;omega))).mono ?_
     rintro e w5 ⟨ev,hev,rfl,hr⟩
     rw [AV.out] at hr
     have fr5:Fr (· ∈ G.own) wr w5:=by
       rcases hr with ⟨_,_,g⟩|⟨_,_,_,_,g⟩|⟨_,_,_,_,_,_,g⟩
       · exact g.fr
       · exact g.fr
       · exact g.fr
     have tb5:=TB.out.fr fr5 (fun q=>by have:=HT.out _ q;omega)
     have E5:=Lib.hid (ER.out.fr fr5 (fun k q=>hB k q))
     have rb5:=RB.out.fr fr5 (fun q=>by have:=HT.out _ q;omega)
     have R5:=hid4 hr fr5 tb5 rb5
     clear hr fr5 tb5 rb5
     go_wp2_with fail
     refine (errorof w5 B eb E5.out ev hev).mono ?_
     rintro e w6 ⟨rfl,f6⟩
     have tb6:=R5.out.2.2.1.fr f6 (fun q=>q)
     obtain ⟨t0,t1,t2,t3,t4,t5,t6,t7,t8,t9⟩:=tb6.ten
     have y0:=tb6.free 0
     have tl:=tb6.lt
     have rb6:=R5.out.2.2.2.fr f6 (fun q=>q)
     have r0:=rb6.cell 0 _ rfl
     have z0:=rb6.free 0
     have r1:=rb6.cell 1 _ rfl
     have z1:=rb6.free 1
     have r2:=rb6.cell 2 _ rfl
     have z2:=rb6.free 2
     have r3:=rb6.cell 3 _ rfl
     have z3:=rb6.free 3
     have r4:=rb6.cell 4 _ rfl
     have z4:=rb6.free 4
     have r5:=rb6.cell 5 _ rfl
     have z5:=rb6.free 5
     have r6:=rb6.cell 6 _ rfl
     have z6:=rb6.free 6
     have r7:=rb6.cell 7 _ rfl
     have z7:=rb6.free 7
     have r8:=rb6.cell 8 _ rfl
     have z8:=rb6.free 8
     have r9:=rb6.cell 9 _ rfl
     have z9:=rb6.free 9
     have rl:=rb6.lt
     have FF:=Lib.hid f6
     clear tb6 rb6 f6
     go_wp2_with fail
     have szr:=A.out.2.2.2.2.2.2.2.2.size
     have szw:(stepW w b0 b1 b2 b3 b4 b5 hk 2 a b wt ao prs.length cap).heap.size=w.heap.size+1+1+1+1:=by simp [stepW]
     have SZ:=Lib.hid (show w.heap.size+4≤wr.heap.size from by omega)
     clear szr szw
     refine bodyPost_ret (v:=toldE ev.code) (by simp [results,Tryz.results39,go_sem, *]) rfl ?_
     rcases R5.out.1 with ⟨h1,h2,h3⟩|⟨h0,h1,h4,h2,h3⟩|⟨h0,h1,h4,h2,c',mb,h3⟩
     · rw [h2]
       exact .inl ⟨h1,rfl,GStep.fin HG.out FW.out h3 (S:=fun k=>k=w.heap.size+1+1∨k=w.heap.size+1+1+1) (Fr.trans (FF.out.mono fun _ q=>q.elim) (fr_boxes w6 (w.heap.size+1+1) (w.heap.size+1+1+1) _ _ _ _ _ _ _ _ _ _ _) fun _ q=>.inl q) fun k q=>by have:=SZ.out;omega⟩
     · rw [h2]
       exact .inr (.inl ⟨h0,h1,h4,rfl,GStep.fin HG.out FW.out h3 (S:=fun k=>k=w.heap.size+1+1∨k=w.heap.size+1+1+1) (Fr.trans (FF.out.mono fun _ q=>q.elim) (fr_boxes w6 (w.heap.size+1+1) (w.heap.size+1+1+1) _ _ _ _ _ _ _ _ _ _ _) fun _ q=>.inl q) fun k q=>by have:=SZ.out;omega⟩)
     · rw [h2]
       exact .inr (.inr ⟨h0,h1,h4,rfl,c',mb,GStep.fin HG.out FW.out h3 (S:=fun k=>k=w.heap.size+1+1∨k=w.heap.size+1+1+1) (Fr.trans (FF.out.mono fun _ q=>q.elim) (fr_boxes w6 (w.heap.size+1+1) (w.heap.size+1+1+1) _ _ _ _ _ _ _ _ _ _ _) fun _ q=>.inl q) fun k q=>by have:=SZ.out;omega⟩)
theorem ustep2 (w:World) (G:GS) (h:GRep w G) (b0 b1 b2 b3 b4 b5:Bool) (hk:Nat) (a b:ByteArray) (wt:Int) (ao:Option Addr) (n cap:Nat) (prs:List (ByteArray × ByteArray)) (hp:PrOk w ao n cap prs) (hd:G.dir=false) (hpr:Calm G a b) (hab:a≠b) (B:Nat) (eb:Nat→Addr) (E:ErrsOk w B eb) (hB:∀ k∈G.own,B≤k) :
   Calls Tryz.prog 39 #[.iface 164 (.pointer (some ⟨G.gB,0,none⟩)),kagg b0 b1 b2 b3 b4 b5 hk,doV 2 a b wt ao n cap] w fun e w' =>
     ((findP G.pts a=none∨findP G.pts b=none)∧e=.returned (toldE 2)∧GStep w G w' G) ∨
     (findP G.pts a≠none∧findP G.pts b≠none∧findL G.dir G.lks a b≠none∧e=.returned (toldE 4)∧GStep w G w' G) ∨
     (findP G.pts a≠none∧findP G.pts b≠none∧findL G.dir G.lks a b=none∧e=.returned (toldE 0)∧∃ c' mb,GStep w G w' { G with c:=c',lks:=G.lks ++ [⟨a,b,wt,mb,putAll prs⟩] }):=by
 obtain ⟨hn,hcap,hsm,hat⟩:=hp
 have P:=Lib.hid hat
 have HG:=Lib.hid h
 subst hn
 clear hat h
 go_enter Tryz.func39,Tryz.ntmps39
 go_wp2_with (first
   | (go_at_call 64;refine (ew _ wt).mono ?_;rintro e w1 ⟨rfl,rfl⟩)
   | (go_at_call 65;refine (vw _ wt).mono ?_;rintro e w1 ⟨rfl,rfl⟩))
 try go_frame
 go_loopg [8,9,45] prs.length (fun k v8 v9 c wr=>DL (stepW w b0 b1 b2 b3 b4 b5 hk 2 a b wt ao prs.length cap) wt prs k v8 v9 c wr)
 case atStart =>
   have:=DL.start (wB:=stepW w b0 b1 b2 b3 b4 b5 hk 2 a b wt ao prs.length cap) wt prs
   have zz:(stepW w b0 b1 b2 b3 b4 b5 hk 2 a b wt ao prs.length cap).heap.size=w.heap.size+1+1+1+1:=by simp [stepW]
   rw [zz] at this
   exact this
 case round =>
   obtain ⟨i,oE,oV,hk',rfl,hE,hV,lE,lV,aE,aV,hap,f⟩:=hrel
   have A:=hid9 hk' hE hV lE lV aE aV hap f
   clear hk' hE hV lE lV aE aV hap f
   by_cases hi:i < prs.length
   · have hg:=List.getElem?_eq_getElem hi
     obtain ⟨ob,rfl,hob,p0,p1⟩:=P.out i _ hg
     have FW:=Lib.hid (show Fr0 w wr from (show Fr0 w (stepW w b0 b1 b2 b3 b4 b5 hk 2 a b wt (some ⟨ob,0,none⟩) prs.length cap) from by unfold stepW;((repeat' with_reducible first|assumption|exact frR|apply frD|apply frN|apply frA|apply frM|apply frC);all_goals (simp;try omega))).trans0 A.out.2.2.2.2.2.2.2.2)
     have q0:=(FW.out.cell (p:=⟨ob,i * 2,none⟩) hob (fun q=>q)).trans p0
     have q1:=(FW.out.cell (p:=⟨ob,i * 2+1,none⟩) hob (fun q=>q)).trans p1
     have HGI:=Lib.hid hg
     generalize prs[i]=pr at q0 q1 HGI
     clear p0 p1 hg
     go_wp2_with fail
     refine (ea _ pr.1 pr.2).mono ?_
     rintro e w1 ⟨rfl,hw1⟩
     have f1:Fr0 wr w1:=by rw [hw1];((repeat' with_reducible first|assumption|exact frR|apply frD|apply frN|apply frA|apply frM|apply frC);all_goals (simp;try omega))
     have okE:(Opt.at_ pr.1 pr.2 (wr.heap.size+1+1) (wr.heap.size+1)).ok w1:=by
       have z1:(wr.alloc (.cells #[.string pr.1,.string pr.2] 68)).heap.size=wr.heap.size+1:=by simp
       have z2:((wr.alloc (.cells #[.string pr.1,.string pr.2] 68)).alloc (.cells #[.string pr.1] 9)).heap.size=wr.heap.size+1+1:=by simp
       have y1:=(Cells.new (wr.alloc (.cells #[.string pr.1,.string pr.2] 68)) #[.string pr.1] 9).alloc (.cells #[.string pr.2] 9)
       have y2:=Cells.new ((wr.alloc (.cells #[.string pr.1,.string pr.2] 68)).alloc (.cells #[.string pr.1] 9)) #[.string pr.2] 9
       rw [z1] at y1
       rw [z2] at y2
       rw [hw1]
       exact ⟨y2.cell 0 _ rfl,y1.cell 0 _ rfl⟩
     have pb1:Cells w1 wr.heap.size #[.string pr.1,.string pr.2] 68:=by rw [hw1];exact ((Cells.new wr _ _).alloc _).alloc _
     have OK1:=hid3 f1 okE pb1
     clear hw1 f1 okE pb1
     go_wp2_with (first
       | (at_builtin;refine wl_app1 (w:=w1) 124 rfl (.tmp 49) (.tmp 55) rfl 122 _ 1 8 Tryz.underlying124 info122 rfl (by decide) (by decide) _ u8 oE.length (oE.map Opt.eV) rfl (A.out.2.1.fr0 OK1.out.1).own #[(Opt.at_ pr.1 pr.2 (wr.heap.size+1+1) (wr.heap.size+1)).eV] w1.heap.size rfl rfl rfl (by simp [Value.oneCell',Opt.eV]) (by have:=A.out.2.2.2.1;omega) (by have h1:=A.out.2.2.2.2.2.2.2.2.size;have h2:=OK1.out.1.size;omega) ?_))
     intro v8' w2 ho8 g8 _
     have hw1:=OK1.out.1.size
     have pb2:Cells w2 wr.heap.size #[.string pr.1,.string pr.2] 68:=OK1.out.2.2.fr g8 (fun q=>by have:=(A.out.2.1.own.lt _ q).2;omega)
     have e0:=pb2.cell 0 _ rfl
     have e1:=pb2.cell 1 _ rfl
     have el:=pb2.lt
     have OK2:=hid2 ho8 g8
     clear ho8 g8 pb2
     go_wp2_with fail
     refine (va _ pr.1 pr.2).mono ?_
     rintro e w3 ⟨rfl,hw3⟩
     have f3:Fr0 w2 w3:=by rw [hw3];((repeat' with_reducible first|assumption|exact frR|apply frD|apply frN|apply frA|apply frM|apply frC);all_goals (simp;try omega))
     have okV:(Opt.at_ pr.1 pr.2 (w2.heap.size+1) w2.heap.size).ok w3:=by
       have z1:(w2.alloc (.cells #[.string pr.1] 9)).heap.size=w2.heap.size+1:=by simp
       have y1:=(Cells.new w2 #[.string pr.1] 9).alloc (.cells #[.string pr.2] 9)
       have y2:=Cells.new (w2.alloc (.cells #[.string pr.1] 9)) #[.string pr.2] 9
       rw [z1] at y2
       rw [hw3]
       exact ⟨y2.cell 0 _ rfl,y1.cell 0 _ rfl⟩
     have OK3:=hid2 f3 okV
     have V2:=Lib.hid (show w3.ownsRow (stepW w b0 b1 b2 b3 b4 b5 hk 2 a b wt (some ⟨ob,0,none⟩) prs.length cap).heap.size 125 1 u9 oV.length (oV.map Opt.vV) from
       ownsRow_fr (ownsRow_fr (A.out.2.2.1.fr0 OK1.out.1).own OK2.out.2 fun q hq=>own_type (A.out.2.2.1.fr0 OK1.out.1).own (A.out.2.1.fr0 OK1.out.1).own (by decide) q hq) f3 fun _ _ q=>q)
     clear hw3 f3 okV
     go_wp2_with (first
       | (at_builtin;refine wl_app1 (w:=w3) 127 rfl (.tmp 57) (.tmp 63) rfl 125 _ 1 8 Tryz.underlying127 info125 rfl (by decide) (by decide) _ u9 oV.length (oV.map Opt.vV) rfl V2.out #[(Opt.at_ pr.1 pr.2 (w2.heap.size+1) w2.heap.size).vV] w3.heap.size rfl rfl rfl (by simp [Value.oneCell',Opt.vV]) (by have:=A.out.2.2.2.2.1;omega) (by have h1:=A.out.2.2.2.2.2.2.2.2.size;have h2:=OK3.out.1.size;have h3:=OK2.out.2.size;omega) ?_))
     intro v9' w4 ho9 g9 _
     have OK4:=hid2 ho9 g9
     clear ho9 g9
     go_wp2_with fail
     obtain ⟨hk',hE,hV,lE,lV,aE,aV,hap,f⟩:=A.out
     have R:=DL.step hk' hi HGI.out hE hV lE lV aE aV f OK1.out.1 OK1.out.2.1 OK2.out.1 OK2.out.2 OK3.out.1 OK3.out.2 OK4.out.1 OK4.out.2
     go_roundg (gk - 1)
     case measure=>exact R.1
     case rel=>exact R.2
   · have hi':i=prs.length:=by have:=A.out.1;omega
     subst hi'
     have sB:Cells wr (w.heap.size+1) #[.int .u8 2,.string a,.string b,.int .i64 wt,.slice ao prs.length cap] 50:=by
       have z1:(w.alloc (kB7 b0 b1 b2 b3 b4 b5 hk)).heap.size=w.heap.size+1:=by simp
       have:=(((Cells.new (w.alloc (kB7 b0 b1 b2 b3 b4 b5 hk)) #[.int .u8 2,.string a,.string b,.int .i64 wt,.slice ao prs.length cap] 50).alloc (.cells zT 44)).alloc (.cells zT 44)).fr A.out.2.2.2.2.2.2.2.2 (fun q=>q)
       rw [z1] at this
       exact this
     have tB:Cells wr (w.heap.size+1+1+1) zT 44:=by
       have z1:(((w.alloc (kB7 b0 b1 b2 b3 b4 b5 hk)).alloc (dBox 2 a b wt ao prs.length cap)).alloc (.cells zT 44)).heap.size=w.heap.size+1+1+1:=by simp
       have:=(Cells.new (((w.alloc (kB7 b0 b1 b2 b3 b4 b5 hk)).alloc (dBox 2 a b wt ao prs.length cap)).alloc (.cells zT 44)) zT 44).fr A.out.2.2.2.2.2.2.2.2 (fun q=>q)
       rw [z1] at this
       exact this
     have FW:=Lib.hid (show Fr0 w wr from (show Fr0 w (stepW w b0 b1 b2 b3 b4 b5 hk 2 a b wt ao prs.length cap) from by unfold stepW;((repeat' with_reducible first|assumption|exact frR|apply frD|apply frN|apply frA|apply frM|apply frC);all_goals (simp;try omega))).trans0 A.out.2.2.2.2.2.2.2.2)
     have s0:=sB.cell 0 _ rfl
     have s1:=sB.cell 1 _ rfl
     have s2:=sB.cell 2 _ rfl
     have sl:=sB.lt
     have rB:Cells wr (w.heap.size+1+1) zT 44:=by
       have z1:((w.alloc (kB7 b0 b1 b2 b3 b4 b5 hk)).alloc (dBox 2 a b wt ao prs.length cap)).heap.size=w.heap.size+1+1:=by simp
       have:=((Cells.new ((w.alloc (kB7 b0 b1 b2 b3 b4 b5 hk)).alloc (dBox 2 a b wt ao prs.length cap)) zT 44).alloc (.cells zT 44)).fr A.out.2.2.2.2.2.2.2.2 (fun q=>q)
       rw [z1] at this
       exact this
     have TB:=Lib.hid tB
     have RB:=Lib.hid rB
     clear sB tB rB
     have mA:=muAddEdge
     have HT:=Lib.hid (show ∀ k,k∈G.own→k < w.heap.size from HG.out.lt)
     have aV:apps oE=(wt,putAll (prs.take prs.length)):=A.out.2.2.2.2.2.1 (0,[])
     rw [List.take_length] at aV
     have AV:=Lib.hid aV
     have NV:=Lib.hid (show oE≠[] from by intro q;have:=A.out.2.2.2.1;rw [q] at this;simp at this)
     have HR:=Lib.hid (HG.out.fr FW.out (fun _ _ q=>q) (fun q=>q))
     have ER:=Lib.hid (E.fr FW.out (fun _ q=>q.elim))
     clear aV E
     go_wp2_with fail
     refine (uaddE wr G HR.out hd a b hpr B eb ER.out hab u8 oE (A.out.2.1.opts NV.out (by have:=A.out.2.2.2.1;omega))).mono ?_
     rintro e w5 ⟨ev,hev,rfl,hr⟩
     rw [AV.out] at hr
     have fr5:Fr (· ∈ G.own) wr w5:=by
       rcases hr with ⟨_,_,g⟩|⟨_,_,_,_,g⟩|⟨_,_,_,_,_,_,g⟩
       · exact g.fr
       · exact g.fr
       · exact g.fr
     have tb5:=TB.out.fr fr5 (fun q=>by have:=HT.out _ q;omega)
     have E5:=Lib.hid (ER.out.fr fr5 (fun k q=>hB k q))
     have rb5:=RB.out.fr fr5 (fun q=>by have:=HT.out _ q;omega)
     have R5:=hid4 hr fr5 tb5 rb5
     clear hr fr5 tb5 rb5
     go_wp2_with fail
     refine (errorof w5 B eb E5.out ev hev).mono ?_
     rintro e w6 ⟨rfl,f6⟩
     have tb6:=R5.out.2.2.1.fr f6 (fun q=>q)
     obtain ⟨t0,t1,t2,t3,t4,t5,t6,t7,t8,t9⟩:=tb6.ten
     have y0:=tb6.free 0
     have tl:=tb6.lt
     have rb6:=R5.out.2.2.2.fr f6 (fun q=>q)
     have r0:=rb6.cell 0 _ rfl
     have z0:=rb6.free 0
     have r1:=rb6.cell 1 _ rfl
     have z1:=rb6.free 1
     have r2:=rb6.cell 2 _ rfl
     have z2:=rb6.free 2
     have r3:=rb6.cell 3 _ rfl
     have z3:=rb6.free 3
     have r4:=rb6.cell 4 _ rfl
     have z4:=rb6.free 4
     have r5:=rb6.cell 5 _ rfl
     have z5:=rb6.free 5
     have r6:=rb6.cell 6 _ rfl
     have z6:=rb6.free 6
     have r7:=rb6.cell 7 _ rfl
     have z7:=rb6.free 7
     have r8:=rb6.cell 8 _ rfl
     have z8:=rb6.free 8
     have r9:=rb6.cell 9 _ rfl
     have z9:=rb6.free 9
     have rl:=rb6.lt
     have FF:=Lib.hid f6
     clear tb6 rb6 f6
     go_wp2_with fail
     have szr:=A.out.2.2.2.2.2.2.2.2.size
     have szw:(stepW w b0 b1 b2 b3 b4 b5 hk 2 a b wt ao prs.length cap).heap.size=w.heap.size+1+1+1+1:=by simp [stepW]
     have SZ:=Lib.hid (show w.heap.size+4≤wr.heap.size from by omega)
     clear szr szw
     refine bodyPost_ret (v:=toldE ev.code) (by simp [results,Tryz.results39,go_sem, *]) rfl ?_
     rcases R5.out.1 with ⟨h1,h2,h3⟩|⟨h0,h1,h4,h2,h3⟩|⟨h0,h1,h4,h2,c',mb,h3⟩
     · rw [h2]
       exact .inl ⟨h1,rfl,GStep.fin HG.out FW.out h3 (S:=fun k=>k=w.heap.size+1+1∨k=w.heap.size+1+1+1) (Fr.trans (FF.out.mono fun _ q=>q.elim) (fr_boxes w6 (w.heap.size+1+1) (w.heap.size+1+1+1) _ _ _ _ _ _ _ _ _ _ _) fun _ q=>.inl q) fun k q=>by have:=SZ.out;omega⟩
     · rw [h2]
       exact .inr (.inl ⟨h0,h1,h4,rfl,GStep.fin HG.out FW.out h3 (S:=fun k=>k=w.heap.size+1+1∨k=w.heap.size+1+1+1) (Fr.trans (FF.out.mono fun _ q=>q.elim) (fr_boxes w6 (w.heap.size+1+1) (w.heap.size+1+1+1) _ _ _ _ _ _ _ _ _ _ _) fun _ q=>.inl q) fun k q=>by have:=SZ.out;omega⟩)
     · rw [h2]
       exact .inr (.inr ⟨h0,h1,h4,rfl,c',mb,GStep.fin HG.out FW.out h3 (S:=fun k=>k=w.heap.size+1+1∨k=w.heap.size+1+1+1) (Fr.trans (FF.out.mono fun _ q=>q.elim) (fr_boxes w6 (w.heap.size+1+1) (w.heap.size+1+1+1) _ _ _ _ _ _ _ _ _ _ _) fun _ q=>.inl q) fun k q=>by have:=SZ.out;omega⟩)
end Go.Proofs.YtbafaadmlpamiaaGreatDoor
