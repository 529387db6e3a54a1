import Derived.Test.YtbafaadmlpamiaaGreatDoorStep5
namespace Go.Proofs.YtbafaadmlpamiaaGreatDoor
open Go Go.Hy Go.RowKit
set_option maxRecDepth 100000
set_option maxHeartbeats 1000000
theorem mdOrder (v : Value) (w : World) : (Go.method 419 162 v "Order").run Tryz.prog w = .ok (181, v) w := by kernel_rfl
theorem muOrder (v : Value) (w : World) : (Go.method 419 164 v "Order").run Tryz.prog w = .ok (206, v) w := by kernel_rfl
theorem mdSize (v : Value) (w : World) : (Go.method 419 162 v "Size").run Tryz.prog w = .ok (185, v) w := by kernel_rfl
theorem muSize (v : Value) (w : World) : (Go.method 419 164 v "Size").run Tryz.prog w = .ok (210, v) w := by kernel_rfl
abbrev toldC (n m:Nat):Value:=.agg #[.int .u8 0,.string ⟨#[]⟩,.string ⟨#[]⟩,.string ⟨#[]⟩,.int .i64 0,.int .i64 n,.int .i64 m,.slice none 0 0,.slice none 0 0,.slice none 0 0]
theorem uorder (w:World) (G:GS) (h:GRep w G) :
   Calls Tryz.prog 206 #[.pointer (some ⟨G.gB,0,none⟩)] w fun e w'=>e=.returned (.tuple #[.int .i64 G.pts.length,.nilIface])∧w=w':=by
 obtain ⟨⟨g0,g1,g2⟩,_,l0,l1,l2⟩:=h.facts
 have hV:=mVertexCount
 have HL:=h.vs
 have HC:=Lib.hid (vcount w G.sB G.c h.s)
 rw [HL] at HC
 simp only [List.length_map] at HC
 clear h HL
 go_enter Tryz.func206,Tryz.ntmps206
 go_wp2_with (first
   | (go_at_call 226;refine HC.out.mono ?_;rintro e w1 ⟨rfl,rfl⟩))
 go_ret2
 exact ⟨rfl,rfl⟩
theorem dstep7 (w:World) (G:GS) (h:GRep w G) (b0 b1 b2 b3 b4 b5:Bool) (hk:Nat) (a b:ByteArray) (wt:Int) (ao:Option Addr) (n cap:Nat) (prs:List (ByteArray × ByteArray)) (hp:PrOk w ao n cap prs) (hd:G.dir=true) (hbp:G.pts.length≤400000) (hbl:G.lks.length≤400000) :
   Calls Tryz.prog 39 #[.iface 162 (.pointer (some ⟨G.gB,0,none⟩)),kagg b0 b1 b2 b3 b4 b5 hk,doV 7 a b wt ao n cap] w fun e w'=>e=.returned (toldC G.pts.length G.lks.length)∧GStep w G w' G:=by
 obtain ⟨hn,hcap,hsm,hat⟩:=hp
 have P:=Lib.hid hat
 have HG:=Lib.hid h
 subst hn
 clear hat h
 go_enter Tryz.func39,Tryz.ntmps39
 go_wp2_with (first
   | (go_at_call 64;refine (ew _ wt).mono ?_;rintro e w1 ⟨rfl,rfl⟩)
   | (go_at_call 65;refine (vw _ wt).mono ?_;rintro e w1 ⟨rfl,rfl⟩))
 try go_frame
 go_loopg [8,9,45] prs.length (fun k v8 v9 c wr=>DL (stepW w b0 b1 b2 b3 b4 b5 hk 7 a b wt ao prs.length cap) wt prs k v8 v9 c wr)
 case atStart =>
   have:=DL.start (wB:=stepW w b0 b1 b2 b3 b4 b5 hk 7 a b wt ao prs.length cap) wt prs
   have zz:(stepW w b0 b1 b2 b3 b4 b5 hk 7 a b wt ao prs.length cap).heap.size=w.heap.size+1+1+1+1:=by simp [stepW]
   rw [zz] at this
   exact this
 case round =>
   obtain ⟨i,oE,oV,hk',rfl,hE,hV,lE,lV,aE,aV,hap,f⟩:=hrel
   have A:=hid9 hk' hE hV lE lV aE aV hap f
   clear hk' hE hV lE lV aE aV hap f
   by_cases hi:i < prs.length
   · have hg:=List.getElem?_eq_getElem hi
     obtain ⟨ob,rfl,hob,p0,p1⟩:=P.out i _ hg
     have FW:=Lib.hid (show Fr0 w wr from (show Fr0 w (stepW w b0 b1 b2 b3 b4 b5 hk 7 a b wt (some ⟨ob,0,none⟩) prs.length cap) from by unfold stepW;((repeat' with_reducible first|assumption|exact frR|apply frD|apply frN|apply frA|apply frM|apply frC);all_goals (simp;try omega))).trans0 A.out.2.2.2.2.2.2.2.2)
     have q0:=(FW.out.cell (p:=⟨ob,i * 2,none⟩) hob (fun q=>q)).trans p0
     have q1:=(FW.out.cell (p:=⟨ob,i * 2+1,none⟩) hob (fun q=>q)).trans p1
     have HGI:=Lib.hid hg
     generalize prs[i]=pr at q0 q1 HGI
     clear p0 p1 hg
     go_wp2_with fail
     refine (ea _ pr.1 pr.2).mono ?_
     rintro e w1 ⟨rfl,hw1⟩
     have f1:Fr0 wr w1:=by rw [hw1];((repeat' with_reducible first|assumption|exact frR|apply frD|apply frN|apply frA|apply frM|apply frC);all_goals (simp;try omega))
     have okE:(Opt.at_ pr.1 pr.2 (wr.heap.size+1+1) (wr.heap.size+1)).ok w1:=by
       have z1:(wr.alloc (.cells #[.string pr.1,.string pr.2] 68)).heap.size=wr.heap.size+1:=by simp
       have z2:((wr.alloc (.cells #[.string pr.1,.string pr.2] 68)).alloc (.cells #[.string pr.1] 9)).heap.size=wr.heap.size+1+1:=by simp
       have y1:=(Cells.new (wr.alloc (.cells #[.string pr.1,.string pr.2] 68)) #[.string pr.1] 9).alloc (.cells #[.string pr.2] 9)
       have y2:=Cells.new ((wr.alloc (.cells #[.string pr.1,.string pr.2] 68)).alloc (.cells #[.string pr.1] 9)) #[.string pr.2] 9
       rw [z1] at y1
       rw [z2] at y2
       rw [hw1]
       exact ⟨y2.cell 0 _ rfl,y1.cell 0 _ rfl⟩
     have pb1:Cells w1 wr.heap.size #[.string pr.1,.string pr.2] 68:=by rw [hw1];exact ((Cells.new wr _ _).alloc _).alloc _
     have OK1:=hid3 f1 okE pb1
     clear hw1 f1 okE pb1
     go_wp2_with (first
       | (at_builtin;refine wl_app1 (w:=w1) 124 rfl (.tmp 49) (.tmp 55) rfl 122 _ 1 8 Tryz.underlying124 info122 rfl (by decide) (by decide) _ u8 oE.length (oE.map Opt.eV) rfl (A.out.2.1.fr0 OK1.out.1).own #[(Opt.at_ pr.1 pr.2 (wr.heap.size+1+1) (wr.heap.size+1)).eV] w1.heap.size rfl rfl rfl (by simp [Value.oneCell',Opt.eV]) (by have:=A.out.2.2.2.1;omega) (by have h1:=A.out.2.2.2.2.2.2.2.2.size;have h2:=OK1.out.1.size;omega) ?_))
     intro v8' w2 ho8 g8 _
     have hw1:=OK1.out.1.size
     have pb2:Cells w2 wr.heap.size #[.string pr.1,.string pr.2] 68:=OK1.out.2.2.fr g8 (fun q=>by have:=(A.out.2.1.own.lt _ q).2;omega)
     have e0:=pb2.cell 0 _ rfl
     have e1:=pb2.cell 1 _ rfl
     have el:=pb2.lt
     have OK2:=hid2 ho8 g8
     clear ho8 g8 pb2
     go_wp2_with fail
     refine (va _ pr.1 pr.2).mono ?_
     rintro e w3 ⟨rfl,hw3⟩
     have f3:Fr0 w2 w3:=by rw [hw3];((repeat' with_reducible first|assumption|exact frR|apply frD|apply frN|apply frA|apply frM|apply frC);all_goals (simp;try omega))
     have okV:(Opt.at_ pr.1 pr.2 (w2.heap.size+1) w2.heap.size).ok w3:=by
       have z1:(w2.alloc (.cells #[.string pr.1] 9)).heap.size=w2.heap.size+1:=by simp
       have y1:=(Cells.new w2 #[.string pr.1] 9).alloc (.cells #[.string pr.2] 9)
       have y2:=Cells.new (w2.alloc (.cells #[.string pr.1] 9)) #[.string pr.2] 9
       rw [z1] at y2
       rw [hw3]
       exact ⟨y2.cell 0 _ rfl,y1.cell 0 _ rfl⟩
     have OK3:=hid2 f3 okV
     have V2:=Lib.hid (show w3.ownsRow (stepW w b0 b1 b2 b3 b4 b5 hk 7 a b wt (some ⟨ob,0,none⟩) prs.length cap).heap.size 125 1 u9 oV.length (oV.map Opt.vV) from
       ownsRow_fr (ownsRow_fr (A.out.2.2.1.fr0 OK1.out.1).own OK2.out.2 fun q hq=>own_type (A.out.2.2.1.fr0 OK1.out.1).own (A.out.2.1.fr0 OK1.out.1).own (by decide) q hq) f3 fun _ _ q=>q)
     clear hw3 f3 okV
     go_wp2_with (first
       | (at_builtin;refine wl_app1 (w:=w3) 127 rfl (.tmp 57) (.tmp 63) rfl 125 _ 1 8 Tryz.underlying127 info125 rfl (by decide) (by decide) _ u9 oV.length (oV.map Opt.vV) rfl V2.out #[(Opt.at_ pr.1 pr.2 (w2.heap.size+1) w2.heap.size).vV] w3.heap.size rfl rfl rfl (by simp [Value.oneCell',Opt.vV]) (by have:=A.out.2.2.2.2.1;omega) (by have h1:=A.out.2.2.2.2.2.2.2.2.size;have h2:=OK3.out.1.size;have h3:=OK2.out.2.size;omega) ?_))
     intro v9' w4 ho9 g9 _
     have OK4:=hid2 ho9 g9
     clear ho9 g9
     go_wp2_with fail
     obtain ⟨hk',hE,hV,lE,lV,aE,aV,hap,f⟩:=A.out
     have R:=DL.step hk' hi HGI.out hE hV lE lV aE aV f OK1.out.1 OK1.out.2.1 OK2.out.1 OK2.out.2 OK3.out.1 OK3.out.2 OK4.out.1 OK4.out.2
     go_roundg (gk - 1)
     case measure=>exact R.1
     case rel=>exact R.2
   · have hi':i=prs.length:=by have:=A.out.1;omega
     subst hi'
     have sB:Cells wr (w.heap.size+1) #[.int .u8 7,.string a,.string b,.int .i64 wt,.slice ao prs.length cap] 50:=by
       have z1:(w.alloc (kB7 b0 b1 b2 b3 b4 b5 hk)).heap.size=w.heap.size+1:=by simp
       have:=(((Cells.new (w.alloc (kB7 b0 b1 b2 b3 b4 b5 hk)) #[.int .u8 7,.string a,.string b,.int .i64 wt,.slice ao prs.length cap] 50).alloc (.cells zT 44)).alloc (.cells zT 44)).fr A.out.2.2.2.2.2.2.2.2 (fun q=>q)
       rw [z1] at this
       exact this
     have tB:Cells wr (w.heap.size+1+1+1) zT 44:=by
       have z1:(((w.alloc (kB7 b0 b1 b2 b3 b4 b5 hk)).alloc (dBox 7 a b wt ao prs.length cap)).alloc (.cells zT 44)).heap.size=w.heap.size+1+1+1:=by simp
       have:=(Cells.new (((w.alloc (kB7 b0 b1 b2 b3 b4 b5 hk)).alloc (dBox 7 a b wt ao prs.length cap)).alloc (.cells zT 44)) zT 44).fr A.out.2.2.2.2.2.2.2.2 (fun q=>q)
       rw [z1] at this
       exact this
     have FW:=Lib.hid (show Fr0 w wr from (show Fr0 w (stepW w b0 b1 b2 b3 b4 b5 hk 7 a b wt ao prs.length cap) from by unfold stepW;((repeat' with_reducible first|assumption|exact frR|apply frD|apply frN|apply frA|apply frM|apply frC);all_goals (simp;try omega))).trans0 A.out.2.2.2.2.2.2.2.2)
     have s0:=sB.cell 0 _ rfl
     have s1:=sB.cell 1 _ rfl
     have s2:=sB.cell 2 _ rfl
     have sl:=sB.lt
     have rB:Cells wr (w.heap.size+1+1) zT 44:=by
       have z1:((w.alloc (kB7 b0 b1 b2 b3 b4 b5 hk)).alloc (dBox 7 a b wt ao prs.length cap)).heap.size=w.heap.size+1+1:=by simp
       have:=((Cells.new ((w.alloc (kB7 b0 b1 b2 b3 b4 b5 hk)).alloc (dBox 7 a b wt ao prs.length cap)) zT 44).alloc (.cells zT 44)).fr A.out.2.2.2.2.2.2.2.2 (fun q=>q)
       rw [z1] at this
       exact this
     have TB:=Lib.hid tB
     have RB:=Lib.hid rB
     clear sB tB rB
     have mA:=mdOrder
     have mB:=mdSize
     have HT:=Lib.hid (show ∀ k,k∈G.own→k < w.heap.size from HG.out.lt)
     have HR:=Lib.hid (HG.out.fr FW.out (fun _ _ q=>q) (fun q=>q))
     have KL:=Lib.hid (show G.kB < w.heap.size from by obtain ⟨cs,q,_⟩:=HG.out.k;exact q.lt)
     have t5:=TB.out.cell 5 _ rfl
     have y5:=TB.out.free 5
     have tl:=TB.out.lt
     go_wp2_with fail
     refine (dorder wr G HR.out).mono ?_
     rintro e w5 ⟨rfl,rfl⟩
     go_wp2_with fail
     have TB1:=Lib.hid (cells_set TB.out 5 (.int .i64 G.pts.length))
     have HR1:=Lib.hid (HR.out.fr ((Fr.refl (· = w.heap.size+1+1+1) wr).setCell (p:=⟨w.heap.size+1+1+1,5,none⟩) (.inl rfl) (.int .i64 G.pts.length)) (fun b hb q=>by have:=HT.out b hb;omega) (fun q=>by have:=KL.out;omega))
     have RB1:=Lib.hid (RB.out.fr ((Fr.refl (· = w.heap.size+1+1+1) wr).setCell (p:=⟨w.heap.size+1+1+1,5,none⟩) (.inl rfl) (.int .i64 G.pts.length)) (by omega))
     refine (dsize _ G HR1.out hd hbp hbl).mono ?_
     rintro e w6 ⟨rfl,f6⟩
     have TB2:=Lib.hid (TB1.out.fr f6 (fun q=>q))
     have RB2:=Lib.hid (RB1.out.fr f6 (fun q=>q))
     clear t5 y5 tl
     have t6:=TB2.out.cell 6 _ rfl
     have y6:=TB2.out.free 6
     have tl:=TB2.out.lt
     go_wp2_with fail
     have TB3:=Lib.hid (cells_set TB2.out 6 (.int .i64 G.lks.length))
     have RB3:=Lib.hid (RB2.out.fr ((Fr.refl (· = w.heap.size+1+1+1) w6).setCell (p:=⟨w.heap.size+1+1+1,6,none⟩) (.inl rfl) (.int .i64 G.lks.length)) (by omega))
     refine (errorof_nil _).mono ?_
     rintro e w7 ⟨rfl,f7⟩
     go_wp2_with fail
     refine (errorof_nil _).mono ?_
     rintro e w8 ⟨rfl,f8⟩
     have tb6:=(TB3.out.fr f7 (fun q=>q)).fr f8 (fun q=>q)
     have rb6:=(RB3.out.fr f7 (fun q=>q)).fr f8 (fun q=>q)
     clear t6 y6 tl
     obtain ⟨t0,t1,t2,t3,t4,t5,t6,t7,t8,t9⟩:=tb6.ten
     have y0:=tb6.free 0
     have tl:=tb6.lt
     have r0:=rb6.cell 0 _ rfl
     have z0:=rb6.free 0
     have r1:=rb6.cell 1 _ rfl
     have z1:=rb6.free 1
     have r2:=rb6.cell 2 _ rfl
     have z2:=rb6.free 2
     have r3:=rb6.cell 3 _ rfl
     have z3:=rb6.free 3
     have r4:=rb6.cell 4 _ rfl
     have z4:=rb6.free 4
     have r5:=rb6.cell 5 _ rfl
     have z5:=rb6.free 5
     have r6:=rb6.cell 6 _ rfl
     have z6:=rb6.free 6
     have r7:=rb6.cell 7 _ rfl
     have z7:=rb6.free 7
     have r8:=rb6.cell 8 _ rfl
     have z8:=rb6.free 8
     have r9:=rb6.cell 9 _ rfl
     have z9:=rb6.free 9
     have rl:=rb6.lt
     have FF:=hid3 f6 f7 f8
     clear tb6 rb6 f6 f7 f8
     go_wp2_with fail
     have szr:=A.out.2.2.2.2.2.2.2.2.size
     have szw:(stepW w b0 b1 b2 b3 b4 b5 hk 7 a b wt ao prs.length cap).heap.size=w.heap.size+1+1+1+1:=by simp [stepW]
     have SZ:=Lib.hid (show w.heap.size+4≤wr.heap.size from by omega)
     clear szr szw
     refine bodyPost_ret (v:=toldC G.pts.length G.lks.length) (by simp [results,Tryz.results39,go_sem, *]) rfl ⟨rfl,?_⟩
     have c1:Fr (fun k=>k=w.heap.size+1+1∨k=w.heap.size+1+1+1) wr w6:=((Fr.refl (fun k=>k=w.heap.size+1+1∨k=w.heap.size+1+1+1) wr).setCell (p:=⟨w.heap.size+1+1+1,5,none⟩) (.inl (.inr rfl)) (.int .i64 G.pts.length)).trans0 FF.out.1
     have c2:Fr (fun k=>k=w.heap.size+1+1∨k=w.heap.size+1+1+1) wr w8:=((c1.setCell (p:=⟨w.heap.size+1+1+1,6,none⟩) (.inl (.inr rfl)) (.int .i64 G.lks.length)).trans0 FF.out.2.1).trans0 FF.out.2.2
     exact GStep.fin HG.out FW.out (GStep.refl HR.out (Fr.refl _ _)) (S:=fun k=>k=w.heap.size+1+1∨k=w.heap.size+1+1+1) (Fr.trans c2 (fr_boxes w8 (w.heap.size+1+1) (w.heap.size+1+1+1) _ _ _ _ _ _ _ _ _ _ _) fun _ q=>.inl q) fun k q=>by have:=SZ.out;omega
theorem ustep7 (w:World) (G:GS) (h:GRep w G) (b0 b1 b2 b3 b4 b5:Bool) (hk:Nat) (a b:ByteArray) (wt:Int) (ao:Option Addr) (n cap:Nat) (prs:List (ByteArray × ByteArray)) (hp:PrOk w ao n cap prs) (hd:G.dir=false) (hbp:G.pts.length≤400000) (hbl:G.lks.length≤400000) :
   Calls Tryz.prog 39 #[.iface 164 (.pointer (some ⟨G.gB,0,none⟩)),kagg b0 b1 b2 b3 b4 b5 hk,doV 7 a b wt ao n cap] w fun e w'=>e=.returned (toldC G.pts.length G.lks.length)∧GStep w G w' G:=by
 obtain ⟨hn,hcap,hsm,hat⟩:=hp
 have P:=Lib.hid hat
 have HG:=Lib.hid h
 subst hn
 clear hat h
 go_enter Tryz.func39,Tryz.ntmps39
 go_wp2_with (first
   | (go_at_call 64;refine (ew _ wt).mono ?_;rintro e w1 ⟨rfl,rfl⟩)
   | (go_at_call 65;refine (vw _ wt).mono ?_;rintro e w1 ⟨rfl,rfl⟩))
 try go_frame
 go_loopg [8,9,45] prs.length (fun k v8 v9 c wr=>DL (stepW w b0 b1 b2 b3 b4 b5 hk 7 a b wt ao prs.length cap) wt prs k v8 v9 c wr)
 case atStart =>
   have:=DL.start (wB:=stepW w b0 b1 b2 b3 b4 b5 hk 7 a b wt ao prs.length cap) wt prs
   have zz:(stepW w b0 b1 b2 b3 b4 b5 hk 7 a b wt ao prs.length cap).heap.size=w.heap.size+1+1+1+1:=by simp [stepW]
   rw [zz] at this
   exact this
 case round =>
   obtain ⟨i,oE,oV,hk',rfl,hE,hV,lE,lV,aE,aV,hap,f⟩:=hrel
   have A:=hid9 hk' hE hV lE lV aE aV hap f
   clear hk' hE hV lE lV aE aV hap f
   by_cases hi:i < prs.length
   · have hg:=List.getElem?_eq_getElem hi
     obtain ⟨ob,rfl,hob,p0,p1⟩:=P.out i _ hg
     have FW:=Lib.hid (show Fr0 w wr from (show Fr0 w (stepW w b0 b1 b2 b3 b4 b5 hk 7 a b wt (some ⟨ob,0,none⟩) prs.length cap) from by unfold stepW;((repeat' with_reducible first|assumption|exact frR|apply frD|apply frN|apply frA|apply frM|apply frC);all_goals (simp;try omega))).trans0 A.out.2.2.2.2.2.2.2.2)
     have q0:=(FW.out.cell (p:=⟨ob,i * 2,none⟩) hob (fun q=>q)).trans p0
     have q1:=(FW.out.cell (p:=⟨ob,i * 2+1,none⟩) hob (fun q=>q)).trans p1
     have HGI:=Lib.hid hg
     generalize prs[i]=pr at q0 q1 HGI
     clear p0 p1 hg
     go_wp2_with fail
     refine (ea _ pr.1 pr.2).mono ?_
     rintro e w1 ⟨rfl,hw1⟩
     have f1:Fr0 wr w1:=by rw [hw1];((repeat' with_reducible first|assumption|exact frR|apply frD|apply frN|apply frA|apply frM|apply frC);all_goals (simp;try omega))
     have okE:(Opt.at_ pr.1 pr.2 (wr.heap.size+1+1) (wr.heap.size+1)).ok w1:=by
       have z1:(wr.alloc (.cells #[.string pr.1,.string pr.2] 68)).heap.size=wr.heap.size+1:=by simp
       have z2:((wr.alloc (.cells #[.string pr.1,.string pr.2] 68)).alloc (.cells #[.string pr.1] 9)).heap.size=wr.heap.size+1+1:=by simp
       have y1:=(Cells.new (wr.alloc (.cells #[.string pr.1,.string pr.2] 68)) #[.string pr.1] 9).alloc (.cells #[.string pr.2] 9)
       have y2:=Cells.new ((wr.alloc (.cells #[.string pr.1,.string pr.2] 68)).alloc (.cells #[.string pr.1] 9)) #[.string pr.2] 9
       rw [z1] at y1
       rw [z2] at y2
       rw [hw1]
       exact ⟨y2.cell 0 _ rfl,y1.cell 0 _ rfl⟩
     have pb1:Cells w1 wr.heap.size #[.string pr.1,.string pr.2] 68:=by rw [hw1];exact ((Cells.new wr _ _).alloc _).alloc _
     have OK1:=hid3 f1 okE pb1
     clear hw1 f1 okE pb1
     go_wp2_with (first
       | (at_builtin;refine wl_app1 (w:=w1) 124 rfl (.tmp 49) (.tmp 55) rfl 122 _ 1 8 Tryz.underlying124 info122 rfl (by decide) (by decide) _ u8 oE.length (oE.map Opt.eV) rfl (A.out.2.1.fr0 OK1.out.1).own #[(Opt.at_ pr.1 pr.2 (wr.heap.size+1+1) (wr.heap.size+1)).eV] w1.heap.size rfl rfl rfl (by simp [Value.oneCell',Opt.eV]) (by have:=A.out.2.2.2.1;omega) (by have h1:=A.out.2.2.2.2.2.2.2.2.size;have h2:=OK1.out.1.size;omega) ?_))
     intro v8' w2 ho8 g8 _
     have hw1:=OK1.out.1.size
     have pb2:Cells w2 wr.heap.size #[.string pr.1,.string pr.2] 68:=OK1.out.2.2.fr g8 (fun q=>by have:=(A.out.2.1.own.lt _ q).2;omega)
     have e0:=pb2.cell 0 _ rfl
     have e1:=pb2.cell 1 _ rfl
     have el:=pb2.lt
     have OK2:=hid2 ho8 g8
     clear ho8 g8 pb2
     go_wp2_with fail
     refine (va _ pr.1 pr.2).mono ?_
     rintro e w3 ⟨rfl,hw3⟩
     have f3:Fr0 w2 w3:=by rw [hw3];((repeat' with_reducible first|assumption|exact frR|apply frD|apply frN|apply frA|apply frM|apply frC);all_goals (simp;try omega))
     have okV:(Opt.at_ pr.1 pr.2 (w2.heap.size+1) w2.heap.size).ok w3:=by
       have z1:(w2.alloc (.cells #[.string pr.1] 9)).heap.size=w2.heap.size+1:=by simp
       have y1:=(Cells.new w2 #[.string pr.1] 9).alloc (.cells #[.string pr.2] 9)
       have y2:=Cells.new (w2.alloc (.cells #[.string pr.1] 9)) #[.string pr.2] 9
       rw [z1] at y2
       rw [hw3]
       exact ⟨y2.cell 0 _ rfl,y1.cell 0 _ rfl⟩
     have OK3:=hid2 f3 okV
     have V2:=Lib.hid (show w3.ownsRow (stepW w b0 b1 b2 b3 b4 b5 hk 7 a b wt (some ⟨ob,0,none⟩) prs.length cap).heap.size 125 1 u9 oV.length (oV.map Opt.vV) from
       ownsRow_fr (ownsRow_fr (A.out.2.2.1.fr0 OK1.out.1).own OK2.out.2 fun q hq=>own_type (A.out.2.2.1.fr0 OK1.out.1).own (A.out.2.1.fr0 OK1.out.1).own (by decide) q hq) f3 fun _ _ q=>q)
     clear hw3 f3 okV
     go_wp2_with (first
       | (at_builtin;refine wl_app1 (w:=w3) 127 rfl (.tmp 57) (.tmp 63) rfl 125 _ 1 8 Tryz.underlying127 info125 rfl (by decide) (by decide) _ u9 oV.length (oV.map Opt.vV) rfl V2.out #[(Opt.at_ pr.1 pr.2 (w2.heap.size+1) w2.heap.size).vV] w3.heap.size rfl rfl rfl (by simp [Value.oneCell',Opt.vV]) (by have:=A.out.2.2.2.2.1;omega) (by have h1:=A.out.2.2.2.2.2.2.2.2.size;have h2:=OK3.out.1.size;have h3:=OK2.out.2.size;omega) ?_))
     intro v9' w4 ho9 g9 _
     have OK4:=hid2 ho9 g9
     clear ho9 g9
     go_wp2_with fail
     obtain ⟨hk',hE,hV,lE,lV,aE,aV,hap,f⟩:=A.out
     have R:=DL.step hk' hi HGI.out hE hV lE lV aE aV f OK1.out.1 OK1.out.2.1 OK2.out.1 OK2.out.2 OK3.out.1 OK3.out.2 OK4.out.1 OK4.out.2
     go_roundg (gk - 1)
     case measure=>exact R.1
     case rel=>exact R.2
   · have hi':i=prs.length:=by have:=A.out.1;omega
     subst hi'
     have sB:Cells wr (w.heap.size+1) #[.int .u8 7,.string a,.string b,.int .i64 wt,.slice ao prs.length cap] 50:=by
       have z1:(w.alloc (kB7 b0 b1 b2 b3 b4 b5 hk)).heap.size=w.heap.size+1:=by simp
       have:=(((Cells.new (w.alloc (kB7 b0 b1 b2 b3 b4 b5 hk)) #[.int .u8 7,.string a,.string b,.int .i64 wt,.slice ao prs.length cap] 50).alloc (.cells zT 44)).alloc (.cells zT 44)).fr A.out.2.2.2.2.2.2.2.2 (fun q=>q)
       rw [z1] at this
       exact this
     have tB:Cells wr (w.heap.size+1+1+1) zT 44:=by
       have z1:(((w.alloc (kB7 b0 b1 b2 b3 b4 b5 hk)).alloc (dBox 7 a b wt ao prs.length cap)).alloc (.cells zT 44)).heap.size=w.heap.size+1+1+1:=by simp
       have:=(Cells.new (((w.alloc (kB7 b0 b1 b2 b3 b4 b5 hk)).alloc (dBox 7 a b wt ao prs.length cap)).alloc (.cells zT 44)) zT 44).fr A.out.2.2.2.2.2.2.2.2 (fun q=>q)
       rw [z1] at this
       exact this
     have FW:=Lib.hid (show Fr0 w wr from (show Fr0 w (stepW w b0 b1 b2 b3 b4 b5 hk 7 a b wt ao prs.length cap) from by unfold stepW;((repeat' with_reducible first|assumption|exact frR|apply frD|apply frN|apply frA|apply frM|apply frC);all_goals (simp;try omega))).trans0 A.out.2.2.2.2.2.2.2.2)
     have s0:=sB.cell 0 _ rfl
     have s1:=sB.cell 1 _ rfl
     have s2:=sB.cell 2 _ rfl
     have sl:=sB.lt
     have rB:Cells wr (w.heap.size+1+1) zT 44:=by
       have z1:((w.alloc (kB7 b0 b1 b2 b3 b4 b5 hk)).alloc (dBox 7 a b wt ao prs.length cap)).heap.size=w.heap.size+1+1:=by simp
       have:=((Cells.new ((w.alloc (kB7 b0 b1 b2 b3 b4 b5 hk)).alloc (dBox 7 a b wt ao prs.length cap)) zT 44).alloc (.cells zT 44)).fr A.out.2.2.2.2.2.2.2.2 (fun q=>q)
       rw [z1] at this
       exact this
     have TB:=Lib.hid tB
     have RB:=Lib.hid rB
     clear sB tB rB
     have mA:=muOrder
     have mB:=muSize
     have HT:=Lib.hid (show ∀ k,k∈G.own→k < w.heap.size from HG.out.lt)
     have HR:=Lib.hid (HG.out.fr FW.out (fun _ _ q=>q) (fun q=>q))
     have KL:=Lib.hid (show G.kB < w.heap.size from by obtain ⟨cs,q,_⟩:=HG.out.k;exact q.lt)
     have t5:=TB.out.cell 5 _ rfl
     have y5:=TB.out.free 5
     have tl:=TB.out.lt
     go_wp2_with fail
     refine (uorder wr G HR.out).mono ?_
     rintro e w5 ⟨rfl,rfl⟩
     go_wp2_with fail
     have TB1:=Lib.hid (cells_set TB.out 5 (.int .i64 G.pts.length))
     have HR1:=Lib.hid (HR.out.fr ((Fr.refl (· = w.heap.size+1+1+1) wr).setCell (p:=⟨w.heap.size+1+1+1,5,none⟩) (.inl rfl) (.int .i64 G.pts.length)) (fun b hb q=>by have:=HT.out b hb;omega) (fun q=>by have:=KL.out;omega))
     have RB1:=Lib.hid (RB.out.fr ((Fr.refl (· = w.heap.size+1+1+1) wr).setCell (p:=⟨w.heap.size+1+1+1,5,none⟩) (.inl rfl) (.int .i64 G.pts.length)) (by omega))
     refine (usize _ G HR1.out hd hbp hbl).mono ?_
     rintro e w6 ⟨rfl,f6⟩
     have TB2:=Lib.hid (TB1.out.fr f6 (fun q=>q))
     have RB2:=Lib.hid (RB1.out.fr f6 (fun q=>q))
     clear t5 y5 tl
     have t6:=TB2.out.cell 6 _ rfl
     have y6:=TB2.out.free 6
     have tl:=TB2.out.lt
     go_wp2_with fail
     have TB3:=Lib.hid (cells_set TB2.out 6 (.int .i64 G.lks.length))
     have RB3:=Lib.hid (RB2.out.fr ((Fr.refl (· = w.heap.size+1+1+1) w6).setCell (p:=⟨w.heap.size+1+1+1,6,none⟩) (.inl rfl) (.int .i64 G.lks.length)) (by omega))
     refine (errorof_nil _).mono ?_
     rintro e w7 ⟨rfl,f7⟩
     go_wp2_with fail
     refine (errorof_nil _).mono ?_
     rintro e w8 ⟨rfl,f8⟩
     have tb6:=(TB3.out.fr f7 (fun q=>q)).fr f8 (fun q=>q)
     have rb6:=(RB3.out.fr f7 (fun q=>q)).fr f8 (fun q=>q)
     clear t6 y6 tl
     obtain ⟨t0,t1,t2,t3,t4,t5,t6,t7,t8,t9⟩:=tb6.ten
     have y0:=tb6.free 0
     have tl:=tb6.lt
     have r0:=rb6.cell 0 _ rfl
     have z0:=rb6.free 0
     have r1:=rb6.cell 1 _ rfl
     have z1:=rb6.free 1
     have r2:=rb6.cell 2 _ rfl
     have z2:=rb6.free 2
     have r3:=rb6.cell 3 _ rfl
     have z3:=rb6.free 3
     have r4:=rb6.cell 4 _ rfl
     have z4:=rb6.free 4
     have r5:=rb6.cell 5 _ rfl
     have z5:=rb6.free 5
     have r6:=rb6.cell 6 _ rfl
     have z6:=rb6.free 6
     have r7:=rb6.cell 7 _ rfl
     have z7:=rb6.free 7
     have r8:=rb6.cell 8 _ rfl
     have z8:=rb6.free 8
     have r9:=rb6.cell 9 _ rfl
     have z9:=rb6.free 9
     have rl:=rb6.lt
     have FF:=hid3 f6 f7 f8
     clear tb6 rb6 f6 f7 f8
     go_wp2_with fail
     have szr:=A.out.2.2.2.2.2.2.2.2.size
     have szw:(stepW w b0 b1 b2 b3 b4 b5 hk 7 a b wt ao prs.length cap).heap.size=w.heap.size+1+1+1+1:=by simp [stepW]
     have SZ:=Lib.hid (show w.heap.size+4≤wr.heap.size from by omega)
     clear szr szw
     refine bodyPost_ret (v:=toldC G.pts.length G.lks.length) (by simp [results,Tryz.results39,go_sem, *]) rfl ⟨rfl,?_⟩
     have c1:Fr (fun k=>k=w.heap.size+1+1∨k=w.heap.size+1+1+1) wr w6:=((Fr.refl (fun k=>k=w.heap.size+1+1∨k=w.heap.size+1+1+1) wr).setCell (p:=⟨w.heap.size+1+1+1,5,none⟩) (.inl (.inr rfl)) (.int .i64 G.pts.length)).trans0 FF.out.1
     have c2:Fr (fun k=>k=w.heap.size+1+1∨k=w.heap.size+1+1+1) wr w8:=((c1.setCell (p:=⟨w.heap.size+1+1+1,6,none⟩) (.inl (.inr rfl)) (.int .i64 G.lks.length)).trans0 FF.out.2.1).trans0 FF.out.2.2
     exact GStep.fin HG.out FW.out (GStep.refl HR.out (Fr.refl _ _)) (S:=fun k=>k=w.heap.size+1+1∨k=w.heap.size+1+1+1) (Fr.trans c2 (fr_boxes w8 (w.heap.size+1+1) (w.heap.size+1+1+1) _ _ _ _ _ _ _ _ _ _ _) fun _ q=>.inl q) fun k q=>by have:=SZ.out;omega
end Go.Proofs.YtbafaadmlpamiaaGreatDoor
