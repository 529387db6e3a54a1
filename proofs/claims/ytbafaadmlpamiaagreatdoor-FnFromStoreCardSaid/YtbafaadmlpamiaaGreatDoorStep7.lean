import Derived.Test.YtbafaadmlpamiaaGreatDoorA8
import Derived.Deep.RegionHeld3
set_option maxRecDepth 100000
set_option maxHeartbeats 1000000
namespace Go.Proofs.YtbafaadmlpamiaaGreatDoor
open Go Go.Hy Go.RowKit
theorem mdVertex (v : Value) (w : World) : (Go.method 419 162 v "VertexWithProperties").run Tryz.prog w = .ok (189, v) w := by kernel_rfl
theorem muVertex (v : Value) (w : World) : (Go.method 419 164 v "VertexWithProperties").run Tryz.prog w = .ok (214, v) w := by kernel_rfl
theorem Fr.drew_l {S:Nat→Prop} {w w':World} (h:Fr S w.drew w'):Fr S w w':=⟨h.os,h.tape,h.output,h.size,h.block⟩
theorem cells_skip {w:World} {b:Nat} {cs:Array Value} {t:TypeId} (h:Cells w b cs t) {p:Addr} (hp:p.block≠b) (v:Value):Cells (w.setCell p v) b cs t :=
 h.fr ((Fr.refl (· = p.block) w).setCell (.inl rfl) v) (fun q=>hp q.symm)
theorem errorof_e (w:World) (B:Nat) (eb:Nat→Addr) (h:ErrsOk w B eb) (i:Nat) (hi:i < 6):Calls Tryz.prog 68 #[er (eb i)] w fun r w'=>r=.returned (.int .u8 (i+1))∧Fr0 w w':=errorof w B eb h (.e i) hi
theorem World.drew_size (w:World):w.drew.heap.size=w.heap.size:=rfl
theorem fr_ten (w6:World) (n m:Nat) (v0 v1 v2 v3 v4 v5 v6 v7 v8 v9:Value):Fr (fun k=>k=n∨k=m) w6 ((((((((((w6.setCell ⟨n,0,none⟩ v0).setCell ⟨n,1,none⟩ v1).setCell ⟨n,2,none⟩ v2).setCell ⟨n,3,none⟩ v3).setCell ⟨n,4,none⟩ v4).setCell ⟨n,5,none⟩ v5).setCell ⟨n,6,none⟩ v6).setCell ⟨n,7,none⟩ v7).setCell ⟨n,8,none⟩ v8).setCell ⟨n,9,none⟩ v9) :=
 ((((((((((Fr.refl (fun k=>k=n∨k=m) w6).setCell (.inl (.inl rfl)) v0).setCell (.inl (.inl rfl)) v1).setCell (.inl (.inl rfl)) v2).setCell (.inl (.inl rfl)) v3).setCell (.inl (.inl rfl)) v4).setCell (.inl (.inl rfl)) v5).setCell (.inl (.inl rfl)) v6).setCell (.inl (.inl rfl)) v7).setCell (.inl (.inl rfl)) v8).setCell (.inl (.inl rfl)) v9
theorem dstep5w (w:World) (G:GS) (h:GRep w G) (b0 b1 b2 b3 b4 b5:Bool) (hk:Nat) (a b:ByteArray) (wt:Int) (ao:Option Addr) (n cap:Nat) (prs:List (ByteArray × ByteArray)) (hp:PrOk w ao n cap prs)
   (B:Nat) (eb:Nat→Addr) (E:ErrsOk w B eb) (hes:∀ p∈G.pts,p.es.length≤1000000)
   (HC:∀ w',Fr0 w w'→Calls Tryz.prog 189 #[.pointer (some ⟨G.gB,0,none⟩),.string a] w' fun e w2=>Fr0 w' w2 ∧
     ((∃ p,findP G.pts a=some p∧e=.returned (.tuple #[.string p.v,pv p.at_ p.wt,.nilIface]))∨(findP G.pts a=none∧e=.returned (.tuple #[.string ⟨#[]⟩,zPv,er (eb 1)])))) :
   Calls Tryz.prog 39 #[.iface 162 (.pointer (some ⟨G.gB,0,none⟩)),kagg b0 b1 b2 b3 b4 b5 hk,doV 5 a b wt ao n cap] w fun e w'=>∃ v,e=.returned v∧ToldAt w' w.heap.size v (G.st.vtx ⟨5,a,b,wt,prs⟩)∧GStep w G w' G:=by
 have HC5:=Lib.hid HC
 have E0:=Lib.hid E
 have HS:=Lib.hid hes
 clear HC E hes
 have mA:=mdVertex
 obtain ⟨hn,hcap,hsm,hat⟩:=hp
 have P:=Lib.hid hat
 have HG:=Lib.hid h
 subst hn
 clear hat h
 go_enter Tryz.func39,Tryz.ntmps39
 go_wp2_with (first
   | (go_at_call 64;refine (ew _ wt).mono ?_;rintro e w1 ⟨rfl,rfl⟩)
   | (go_at_call 65;refine (vw _ wt).mono ?_;rintro e w1 ⟨rfl,rfl⟩))
 try go_frame
 go_loopg [8,9,45] prs.length (fun k v8 v9 c wr=>DL (stepW w b0 b1 b2 b3 b4 b5 hk 5 a b wt ao prs.length cap) wt prs k v8 v9 c wr)
 case atStart =>
   have:=DL.start (wB:=stepW w b0 b1 b2 b3 b4 b5 hk 5 a b wt ao prs.length cap) wt prs
   have zz:(stepW w b0 b1 b2 b3 b4 b5 hk 5 a b wt ao prs.length cap).heap.size=w.heap.size+1+1+1+1:=by simp [stepW]
   rw [zz] at this
   exact this
 case round =>
   obtain ⟨i,oE,oV,hk',rfl,hE,hV,lE,lV,aE,aV,hap,f⟩:=hrel
   have A:=hid9 hk' hE hV lE lV aE aV hap f
   clear hk' hE hV lE lV aE aV hap f
   by_cases hi:i < prs.length
   · have hg:=List.getElem?_eq_getElem hi
     obtain ⟨ob,rfl,hob,p0,p1⟩:=P.out i _ hg
     have FW:=Lib.hid (show Fr0 w wr from (show Fr0 w (stepW w b0 b1 b2 b3 b4 b5 hk 5 a b wt (some ⟨ob,0,none⟩) prs.length cap) from by unfold stepW;((repeat' with_reducible first|assumption|exact frR|apply frD|apply frN|apply frA|apply frM|apply frC);all_goals (simp;try omega))).trans0 A.out.2.2.2.2.2.2.2.2)
     have q0:=(FW.out.cell (p:=⟨ob,i * 2,none⟩) hob (fun q=>q)).trans p0
     have q1:=(FW.out.cell (p:=⟨ob,i * 2+1,none⟩) hob (fun q=>q)).trans p1
     have HGI:=Lib.hid hg
     generalize prs[i]=pr at q0 q1 HGI
     clear p0 p1 hg
     go_wp2_with fail
     refine (ea _ pr.1 pr.2).mono ?_
     rintro e w1 ⟨rfl,hw1⟩
     have OK1:=Lib.hid (optE hw1)
     clear hw1
     go_wp2_with (first
       | (at_builtin;refine wl_app1 (w:=w1) 124 rfl (.tmp 49) (.tmp 55) rfl 122 _ 1 8 Tryz.underlying124 info122 rfl (by decide) (by decide) _ u8 oE.length (oE.map Opt.eV) rfl (A.out.2.1.fr0 OK1.out.1).own #[(Opt.at_ pr.1 pr.2 (wr.heap.size+1+1) (wr.heap.size+1)).eV] w1.heap.size rfl rfl rfl (by simp [Value.oneCell',Opt.eV]) (by have:=A.out.2.2.2.1;omega) (by have h1:=A.out.2.2.2.2.2.2.2.2.size;have h2:=OK1.out.1.size;omega) ?_))
     intro v8' w2 ho8 g8 _
     have hw1:=OK1.out.1.size
     have pb2:Cells w2 wr.heap.size #[.string pr.1,.string pr.2] 68:=OK1.out.2.2.fr g8 (fun q=>by have:=(A.out.2.1.own.lt _ q).2;omega)
     have e0:=pb2.cell 0 _ rfl
     have e1:=pb2.cell 1 _ rfl
     have el:=pb2.lt
     have OK2:=hid2 ho8 g8
     clear ho8 g8 pb2
     go_wp2_with fail
     refine (va _ pr.1 pr.2).mono ?_
     rintro e w3 ⟨rfl,hw3⟩
     have OK3:=Lib.hid (optV hw3)
     have V2:=Lib.hid (show w3.ownsRow (stepW w b0 b1 b2 b3 b4 b5 hk 5 a b wt (some ⟨ob,0,none⟩) prs.length cap).heap.size 125 1 u9 oV.length (oV.map Opt.vV) from
       ownsRow_fr (ownsRow_fr (A.out.2.2.1.fr0 OK1.out.1).own OK2.out.2 fun q hq=>own_type (A.out.2.2.1.fr0 OK1.out.1).own (A.out.2.1.fr0 OK1.out.1).own (by decide) q hq) OK3.out.1 fun _ _ q=>q)
     clear hw3
     go_wp2_with (first
       | (at_builtin;refine wl_app1 (w:=w3) 127 rfl (.tmp 57) (.tmp 63) rfl 125 _ 1 8 Tryz.underlying127 info125 rfl (by decide) (by decide) _ u9 oV.length (oV.map Opt.vV) rfl V2.out #[(Opt.at_ pr.1 pr.2 (w2.heap.size+1) w2.heap.size).vV] w3.heap.size rfl rfl rfl (by simp [Value.oneCell',Opt.vV]) (by have:=A.out.2.2.2.2.1;omega) (by have h1:=A.out.2.2.2.2.2.2.2.2.size;have h2:=OK3.out.1.size;have h3:=OK2.out.2.size;omega) ?_))
     intro v9' w4 ho9 g9 _
     have OK4:=hid2 ho9 g9
     clear ho9 g9
     go_wp2_with fail
     obtain ⟨hk',hE,hV,lE,lV,aE,aV,hap,f⟩:=A.out
     have R:=DL.step hk' hi HGI.out hE hV lE lV aE aV f OK1.out.1 OK1.out.2.1 OK2.out.1 OK2.out.2 OK3.out.1 OK3.out.2 OK4.out.1 OK4.out.2
     go_roundg (gk - 1)
     case measure=>exact R.1
     case rel=>exact R.2
   · have hi':i=prs.length:=by have:=A.out.1;omega
     subst hi'
     have SBB:=stepB A.out.2.2.2.2.2.2.2.2
     have FW:=Lib.hid SBB.1
     have sB:=SBB.2.1
     have s0:=sB.cell 0 _ rfl
     have s1:=sB.cell 1 _ rfl
     have s2:=sB.cell 2 _ rfl
     have sl:=sB.lt
     have TB:=Lib.hid SBB.2.2.2
     have RB:=Lib.hid SBB.2.2.1
     clear sB SBB
     have HT:=Lib.hid (show ∀ k,k∈G.own→k < w.heap.size from HG.out.lt)
     have HR:=Lib.hid (HG.out.fr FW.out (fun _ _ q=>q) (fun q=>q))
     have ER:=Lib.hid (E0.out.fr FW.out (fun _ q=>q.elim))
     have szr:=A.out.2.2.2.2.2.2.2.2.size
     have szw:(stepW w b0 b1 b2 b3 b4 b5 hk 5 a b wt ao prs.length cap).heap.size=w.heap.size+1+1+1+1:=by simp [stepW]
     have SZ:=Lib.hid (show w.heap.size+4≤wr.heap.size from by omega)
     clear szr szw
     go_wp2_with fail
     refine (HC5.out wr FW.out).mono ?_
     rintro e w5 ⟨f5,⟨p,hpt,rfl⟩|⟨hpt,rfl⟩⟩
     · have TB5:=Lib.hid (TB.out.fr f5 (fun q=>q))
       have RB5:=Lib.hid (RB.out.fr f5 (fun q=>q))
       have HR5:=Lib.hid (HR.out.fr f5 (fun _ _ q=>q) (fun q=>q))
       have F5:=Lib.hid f5
       clear f5
       go_wp2_with fail
       refine (errorof_nil _).mono ?_
       rintro e w6 ⟨rfl,f6⟩
       have ne1:=TB5.out.lt
       have PB:=Lib.hid ((Cells.new w5 #[.map (some p.at_),.int .i64 p.wt] 137).fr f6 (fun q=>q))
       have TB6:=Lib.hid ((TB5.out.alloc (.cells #[.map (some p.at_),.int .i64 p.wt] 137)).fr f6 (fun q=>q))
       have RB6:=Lib.hid ((RB5.out.alloc (.cells #[.map (some p.at_),.int .i64 p.wt] 137)).fr f6 (fun q=>q))
       have HR6:=Lib.hid ((HR5.out.fr ((Fr.refl (fun _=>False) w5).alloc _) (fun _ _ q=>q) (fun q=>q)).fr f6 (fun _ _ q=>q) (fun q=>q))
       have F6:=Lib.hid (show Fr0 wr w6 from (F5.out.alloc (.cells #[.map (some p.at_),.int .i64 p.wt] 137)).trans0 f6)
       clear f6
       have p0:=PB.out.cell 0 _ rfl
       have p1:=PB.out.cell 1 _ rfl
       have pl:=PB.out.lt
       have t0:=TB6.out.cell 0 _ rfl
       have y0:=TB6.out.free 0
       have tl:=TB6.out.lt
       have pne:¬ w5.heap.size=w.heap.size+1+1+1:=by omega
       have pne':¬ w.heap.size+1+1+1=w5.heap.size:=by omega
       have HPT:=Lib.hid (findP_mem hpt).1
       go_wp2_with fail
       have TB7:=Lib.hid (cells_set TB6.out 0 (.int .u8 0))
       have F7:=Lib.hid ((Fr.refl (· = w.heap.size+1+1+1) w6).setCell (p:=⟨w.heap.size+1+1+1,0,none⟩) (.inl rfl) (.int .u8 0))
       have RB7:=Lib.hid (RB6.out.fr F7.out (by omega))
       have SM7:=Lib.hid ((HR6.out.pa p HPT.out).fr F7.out (by have h1:=HT.out p.at_ (by simp only [GS.own,List.mem_cons,List.mem_append,List.mem_map];exact .inr (.inr (.inr (.inr (.inl ⟨p,HPT.out,rfl⟩)))));omega))
       have HP:=Lib.hid hpt
       clear t0 y0 hpt
       go_region_held3 (fun w'=>w'.cell? ⟨w5.heap.size,0,none⟩=some (.map (some p.at_))∧w'.cell? ⟨w5.heap.size,1,none⟩=some (.int .i64 p.wt)) (go_keep)
         (first
           | (go_at_call 69;refine (pairsof' _ p.at_ p.es SM7.out.drew (HS.out p HPT.out)).mono ?_;rintro e w9 ⟨ao9,cap9,rfl,g1,g2⟩;have G2:=Fr.drew_l g2;have Z:=hid2 g1 G2;have PB9:=(PB.out.fr F7.out pne).fr G2 (fun q=>q);have p0':=PB9.cell 0 _ rfl;have p1':=PB9.cell 1 _ rfl;have TB9:=Lib.hid (TB7.out.fr G2 (fun q=>q));have RB9:=Lib.hid (RB7.out.fr G2 (fun q=>q));have t1:=TB9.out.cell 1 _ rfl;have t4:=TB9.out.cell 4 _ rfl;have t7:=TB9.out.cell 7 _ rfl;have y1:=TB9.out.free 1;have y4:=TB9.out.free 4;have y7:=TB9.out.free 7;have tl9:=TB9.out.lt;clear g1 g2 G2 PB9))
       rename_i hh
       clear hh p0 p1 p0' p1' t1 t4 t7 y1 y4 y7 pl tl tl9 ne1 pne pne'
       have TB10:=Lib.hid (cells_set (cells_set (cells_set TB9.out 1 (.string p.v)) 4 (.int .i64 p.wt)) 7 (.slice ao9 (byK p.es).length cap9))
       have f10:Fr (fun k=>k=w.heap.size+1+1∨k=w.heap.size+1+1+1) w9 (((w9.setCell ⟨w.heap.size+1+1+1,1,none⟩ (.string p.v)).setCell ⟨w.heap.size+1+1+1,4,none⟩ (.int .i64 p.wt)).setCell ⟨w.heap.size+1+1+1,7,none⟩ (.slice ao9 (byK p.es).length cap9)):=by (repeat' (first|(with_reducible exact Fr.refl _ _)|(with_reducible assumption)|(with_reducible refine Fr.drew ?_)|(with_reducible refine Fr.setCell ?_ (.inl (.inl rfl)) _)|(with_reducible refine Fr.setCell ?_ (.inl (.inr rfl)) _)))
       have RB10:=Lib.hid (cells_skip (cells_skip (cells_skip RB9.out (p:=⟨w.heap.size+1+1+1,1,none⟩) (by simp) (.string p.v)) (p:=⟨w.heap.size+1+1+1,4,none⟩) (by simp) (.int .i64 p.wt)) (p:=⟨w.heap.size+1+1+1,7,none⟩) (by simp) (.slice ao9 (byK p.es).length cap9))
       have F10:=Lib.hid f10
       clear f10
       generalize (((w9.setCell ⟨w.heap.size+1+1+1,1,none⟩ (.string p.v)).setCell ⟨w.heap.size+1+1+1,4,none⟩ (.int .i64 p.wt)).setCell ⟨w.heap.size+1+1+1,7,none⟩ (.slice ao9 (byK p.es).length cap9))=wx at TB10 F10 RB10 ⊢
       obtain ⟨t0,t1,t2,t3,t4,t5,t6,t7,t8,t9⟩:=TB10.out.ten;have tl:=TB10.out.lt;obtain ⟨r0,r1,r2,r3,r4,r5,r6,r7,r8,r9⟩:=RB10.out.ten;obtain ⟨z0,z1,z2,z3,z4,z5,z6,z7,z8,z9⟩:=RB10.out.tenf;have rl:=RB10.out.lt
       go_wp2_with fail
       have eT:G.st.vtx ⟨5,a,b,wt,prs⟩={ value:=p.v,wt:=p.wt,pairs:=byK p.es }:=by
         unfold St.vtx
         rw [st_pt,HP.out]
         rfl
       refine bodyPost_ret (v:=toldVal { value:=p.v,wt:=p.wt,pairs:=byK p.es } (.slice ao9 (byK p.es).length cap9) (.slice none 0 0) (.slice none 0 0)) (by simp [results,Tryz.results39,go_sem, *]) rfl ⟨_,rfl,?_,?_⟩
       · rw [eT]
         refine ⟨_,_,_,rfl,?_,KeysAt.nil _ _,LinksAt.nil _ _⟩
         refine PairsAt.low (lo:=w.heap.size+4) (((Z.out.1).low ?_).fr (F10.out.trans (fr_ten _ _ _ _ _ _ _ _ _ _ _ _ _) fun _ q=>.inl q) ?_) (by omega)
         · have h1:=F6.out.size
           have h2:=F7.out.size
           have h3:=SZ.out
           rw [World.drew_size]
           omega
         · intro q hq _ hs
           omega
       · exact GStep.fin HG.out FW.out (GStep.refl HR.out ((F6.out.mono fun _ q=>q.elim))) (S:=fun k=>k=w.heap.size+1+1∨k=w.heap.size+1+1+1) (((F7.out.mono fun _ q=>.inr q).trans Z.out.2 fun _ q=>q.elim).trans (F10.out.trans (fr_ten _ _ _ _ _ _ _ _ _ _ _ _ _) fun _ q=>.inl q) fun _ q=>.inl q) fun k q=>by have:=SZ.out;omega
     · have TB5:=Lib.hid (TB.out.fr f5 (fun q=>q))
       have RB5:=Lib.hid (RB.out.fr f5 (fun q=>q))
       have E5:=Lib.hid (ER.out.fr f5 (fun _ q=>q.elim))
       have F5:=Lib.hid f5
       clear f5
       go_wp2_with fail
       refine (errorof_e _ B eb (E5.out.fr (show Fr0 w5 (w5.alloc (.cells #[.map none,.int .i64 0] 137)) from by ((repeat' with_reducible first|assumption|exact frR|apply frD|apply frN|apply frA|apply frM|apply frC);all_goals (simp;try omega))) (fun _ q=>q.elim)) 1 (by decide)).mono ?_
       rintro e w6 ⟨rfl,f6⟩
       have TB6:=Lib.hid ((TB5.out.alloc (.cells #[.map none,.int .i64 0] 137)).fr f6 (fun q=>q))
       have RB6:=Lib.hid ((RB5.out.alloc (.cells #[.map none,.int .i64 0] 137)).fr f6 (fun q=>q))
       have F6:=Lib.hid (show Fr0 wr w6 from (F5.out.alloc (.cells #[.map none,.int .i64 0] 137)).trans0 f6)
       have HP:=Lib.hid hpt
       clear f6 hpt
       have y0:=TB6.out.free 0
       obtain ⟨t0,t1,t2,t3,t4,t5,t6,t7,t8,t9⟩:=TB6.out.ten;have tl:=TB6.out.lt;obtain ⟨r0,r1,r2,r3,r4,r5,r6,r7,r8,r9⟩:=RB6.out.ten;obtain ⟨z0,z1,z2,z3,z4,z5,z6,z7,z8,z9⟩:=RB6.out.tenf;have rl:=RB6.out.lt
       go_wp2_with fail
       have eT:G.st.vtx ⟨5,a,b,wt,prs⟩={ err:=2 }:=by
         unfold St.vtx
         rw [st_pt,HP.out]
         rfl
       refine bodyPost_ret (v:=toldVal { err:=2 } (.slice none 0 0) (.slice none 0 0) (.slice none 0 0)) (by simp [results,Tryz.results39,go_sem, *]) rfl ⟨_,rfl,?_,?_⟩
       · rw [eT]
         exact ⟨_,_,_,rfl,PairsAt.nil _ _,KeysAt.nil _ _,LinksAt.nil _ _⟩
       · exact GStep.fin HG.out FW.out (GStep.refl HR.out (F6.out.mono fun _ q=>q.elim)) (S:=fun k=>k=w.heap.size+1+1∨k=w.heap.size+1+1+1) (fr_boxes w6 (w.heap.size+1+1) (w.heap.size+1+1+1) _ _ _ _ _ _ _ _ _ _ _) fun k q=>by have:=SZ.out;omega
theorem ustep5w (w:World) (G:GS) (h:GRep w G) (b0 b1 b2 b3 b4 b5:Bool) (hk:Nat) (a b:ByteArray) (wt:Int) (ao:Option Addr) (n cap:Nat) (prs:List (ByteArray × ByteArray)) (hp:PrOk w ao n cap prs)
   (B:Nat) (eb:Nat→Addr) (E:ErrsOk w B eb) (hes:∀ p∈G.pts,p.es.length≤1000000)
   (HC:∀ w',Fr0 w w'→Calls Tryz.prog 214 #[.pointer (some ⟨G.gB,0,none⟩),.string a] w' fun e w2=>Fr0 w' w2 ∧
     ((∃ p,findP G.pts a=some p∧e=.returned (.tuple #[.string p.v,pv p.at_ p.wt,.nilIface]))∨(findP G.pts a=none∧e=.returned (.tuple #[.string ⟨#[]⟩,zPv,er (eb 1)])))) :
   Calls Tryz.prog 39 #[.iface 164 (.pointer (some ⟨G.gB,0,none⟩)),kagg b0 b1 b2 b3 b4 b5 hk,doV 5 a b wt ao n cap] w fun e w'=>∃ v,e=.returned v∧ToldAt w' w.heap.size v (G.st.vtx ⟨5,a,b,wt,prs⟩)∧GStep w G w' G:=by
 have HC5:=Lib.hid HC
 have E0:=Lib.hid E
 have HS:=Lib.hid hes
 clear HC E hes
 have mA:=muVertex
 obtain ⟨hn,hcap,hsm,hat⟩:=hp
 have P:=Lib.hid hat
 have HG:=Lib.hid h
 subst hn
 clear hat h
 go_enter Tryz.func39,Tryz.ntmps39
 go_wp2_with (first
   | (go_at_call 64;refine (ew _ wt).mono ?_;rintro e w1 ⟨rfl,rfl⟩)
   | (go_at_call 65;refine (vw _ wt).mono ?_;rintro e w1 ⟨rfl,rfl⟩))
 try go_frame
 go_loopg [8,9,45] prs.length (fun k v8 v9 c wr=>DL (stepW w b0 b1 b2 b3 b4 b5 hk 5 a b wt ao prs.length cap) wt prs k v8 v9 c wr)
 case atStart =>
   have:=DL.start (wB:=stepW w b0 b1 b2 b3 b4 b5 hk 5 a b wt ao prs.length cap) wt prs
   have zz:(stepW w b0 b1 b2 b3 b4 b5 hk 5 a b wt ao prs.length cap).heap.size=w.heap.size+1+1+1+1:=by simp [stepW]
   rw [zz] at this
   exact this
 case round =>
   obtain ⟨i,oE,oV,hk',rfl,hE,hV,lE,lV,aE,aV,hap,f⟩:=hrel
   have A:=hid9 hk' hE hV lE lV aE aV hap f
   clear hk' hE hV lE lV aE aV hap f
   by_cases hi:i < prs.length
   · have hg:=List.getElem?_eq_getElem hi
     obtain ⟨ob,rfl,hob,p0,p1⟩:=P.out i _ hg
     have FW:=Lib.hid (show Fr0 w wr from (show Fr0 w (stepW w b0 b1 b2 b3 b4 b5 hk 5 a b wt (some ⟨ob,0,none⟩) prs.length cap) from by unfold stepW;((repeat' with_reducible first|assumption|exact frR|apply frD|apply frN|apply frA|apply frM|apply frC);all_goals (simp;try omega))).trans0 A.out.2.2.2.2.2.2.2.2)
     have q0:=(FW.out.cell (p:=⟨ob,i * 2,none⟩) hob (fun q=>q)).trans p0
     have q1:=(FW.out.cell (p:=⟨ob,i * 2+1,none⟩) hob (fun q=>q)).trans p1
     have HGI:=Lib.hid hg
     generalize prs[i]=pr at q0 q1 HGI
     clear p0 p1 hg
     go_wp2_with fail
     refine (ea _ pr.1 pr.2).mono ?_
     rintro e w1 ⟨rfl,hw1⟩
     have OK1:=Lib.hid (optE hw1)
     clear hw1
     go_wp2_with (first
       | (at_builtin;refine wl_app1 (w:=w1) 124 rfl (.tmp 49) (.tmp 55) rfl 122 _ 1 8 Tryz.underlying124 info122 rfl (by decide) (by decide) _ u8 oE.length (oE.map Opt.eV) rfl (A.out.2.1.fr0 OK1.out.1).own #[(Opt.at_ pr.1 pr.2 (wr.heap.size+1+1) (wr.heap.size+1)).eV] w1.heap.size rfl rfl rfl (by simp [Value.oneCell',Opt.eV]) (by have:=A.out.2.2.2.1;omega) (by have h1:=A.out.2.2.2.2.2.2.2.2.size;have h2:=OK1.out.1.size;omega) ?_))
     intro v8' w2 ho8 g8 _
     have hw1:=OK1.out.1.size
     have pb2:Cells w2 wr.heap.size #[.string pr.1,.string pr.2] 68:=OK1.out.2.2.fr g8 (fun q=>by have:=(A.out.2.1.own.lt _ q).2;omega)
     have e0:=pb2.cell 0 _ rfl
     have e1:=pb2.cell 1 _ rfl
     have el:=pb2.lt
     have OK2:=hid2 ho8 g8
     clear ho8 g8 pb2
     go_wp2_with fail
     refine (va _ pr.1 pr.2).mono ?_
     rintro e w3 ⟨rfl,hw3⟩
     have OK3:=Lib.hid (optV hw3)
     have V2:=Lib.hid (show w3.ownsRow (stepW w b0 b1 b2 b3 b4 b5 hk 5 a b wt (some ⟨ob,0,none⟩) prs.length cap).heap.size 125 1 u9 oV.length (oV.map Opt.vV) from
       ownsRow_fr (ownsRow_fr (A.out.2.2.1.fr0 OK1.out.1).own OK2.out.2 fun q hq=>own_type (A.out.2.2.1.fr0 OK1.out.1).own (A.out.2.1.fr0 OK1.out.1).own (by decide) q hq) OK3.out.1 fun _ _ q=>q)
     clear hw3
     go_wp2_with (first
       | (at_builtin;refine wl_app1 (w:=w3) 127 rfl (.tmp 57) (.tmp 63) rfl 125 _ 1 8 Tryz.underlying127 info125 rfl (by decide) (by decide) _ u9 oV.length (oV.map Opt.vV) rfl V2.out #[(Opt.at_ pr.1 pr.2 (w2.heap.size+1) w2.heap.size).vV] w3.heap.size rfl rfl rfl (by simp [Value.oneCell',Opt.vV]) (by have:=A.out.2.2.2.2.1;omega) (by have h1:=A.out.2.2.2.2.2.2.2.2.size;have h2:=OK3.out.1.size;have h3:=OK2.out.2.size;omega) ?_))
     intro v9' w4 ho9 g9 _
     have OK4:=hid2 ho9 g9
     clear ho9 g9
     go_wp2_with fail
     obtain ⟨hk',hE,hV,lE,lV,aE,aV,hap,f⟩:=A.out
     have R:=DL.step hk' hi HGI.out hE hV lE lV aE aV f OK1.out.1 OK1.out.2.1 OK2.out.1 OK2.out.2 OK3.out.1 OK3.out.2 OK4.out.1 OK4.out.2
     go_roundg (gk - 1)
     case measure=>exact R.1
     case rel=>exact R.2
   · have hi':i=prs.length:=by have:=A.out.1;omega
     subst hi'
     have SBB:=stepB A.out.2.2.2.2.2.2.2.2
     have FW:=Lib.hid SBB.1
     have sB:=SBB.2.1
     have s0:=sB.cell 0 _ rfl
     have s1:=sB.cell 1 _ rfl
     have s2:=sB.cell 2 _ rfl
     have sl:=sB.lt
     have TB:=Lib.hid SBB.2.2.2
     have RB:=Lib.hid SBB.2.2.1
     clear sB SBB
     have HT:=Lib.hid (show ∀ k,k∈G.own→k < w.heap.size from HG.out.lt)
     have HR:=Lib.hid (HG.out.fr FW.out (fun _ _ q=>q) (fun q=>q))
     have ER:=Lib.hid (E0.out.fr FW.out (fun _ q=>q.elim))
     have szr:=A.out.2.2.2.2.2.2.2.2.size
     have szw:(stepW w b0 b1 b2 b3 b4 b5 hk 5 a b wt ao prs.length cap).heap.size=w.heap.size+1+1+1+1:=by simp [stepW]
     have SZ:=Lib.hid (show w.heap.size+4≤wr.heap.size from by omega)
     clear szr szw
     go_wp2_with fail
     refine (HC5.out wr FW.out).mono ?_
     rintro e w5 ⟨f5,⟨p,hpt,rfl⟩|⟨hpt,rfl⟩⟩
     · have TB5:=Lib.hid (TB.out.fr f5 (fun q=>q))
       have RB5:=Lib.hid (RB.out.fr f5 (fun q=>q))
       have HR5:=Lib.hid (HR.out.fr f5 (fun _ _ q=>q) (fun q=>q))
       have F5:=Lib.hid f5
       clear f5
       go_wp2_with fail
       refine (errorof_nil _).mono ?_
       rintro e w6 ⟨rfl,f6⟩
       have ne1:=TB5.out.lt
       have PB:=Lib.hid ((Cells.new w5 #[.map (some p.at_),.int .i64 p.wt] 137).fr f6 (fun q=>q))
       have TB6:=Lib.hid ((TB5.out.alloc (.cells #[.map (some p.at_),.int .i64 p.wt] 137)).fr f6 (fun q=>q))
       have RB6:=Lib.hid ((RB5.out.alloc (.cells #[.map (some p.at_),.int .i64 p.wt] 137)).fr f6 (fun q=>q))
       have HR6:=Lib.hid ((HR5.out.fr ((Fr.refl (fun _=>False) w5).alloc _) (fun _ _ q=>q) (fun q=>q)).fr f6 (fun _ _ q=>q) (fun q=>q))
       have F6:=Lib.hid (show Fr0 wr w6 from (F5.out.alloc (.cells #[.map (some p.at_),.int .i64 p.wt] 137)).trans0 f6)
       clear f6
       have p0:=PB.out.cell 0 _ rfl
       have p1:=PB.out.cell 1 _ rfl
       have pl:=PB.out.lt
       have t0:=TB6.out.cell 0 _ rfl
       have y0:=TB6.out.free 0
       have tl:=TB6.out.lt
       have pne:¬ w5.heap.size=w.heap.size+1+1+1:=by omega
       have pne':¬ w.heap.size+1+1+1=w5.heap.size:=by omega
       have HPT:=Lib.hid (findP_mem hpt).1
       go_wp2_with fail
       have TB7:=Lib.hid (cells_set TB6.out 0 (.int .u8 0))
       have F7:=Lib.hid ((Fr.refl (· = w.heap.size+1+1+1) w6).setCell (p:=⟨w.heap.size+1+1+1,0,none⟩) (.inl rfl) (.int .u8 0))
       have RB7:=Lib.hid (RB6.out.fr F7.out (by omega))
       have SM7:=Lib.hid ((HR6.out.pa p HPT.out).fr F7.out (by have h1:=HT.out p.at_ (by simp only [GS.own,List.mem_cons,List.mem_append,List.mem_map];exact .inr (.inr (.inr (.inr (.inl ⟨p,HPT.out,rfl⟩)))));omega))
       have HP:=Lib.hid hpt
       clear t0 y0 hpt
       go_region_held3 (fun w'=>w'.cell? ⟨w5.heap.size,0,none⟩=some (.map (some p.at_))∧w'.cell? ⟨w5.heap.size,1,none⟩=some (.int .i64 p.wt)) (go_keep)
         (first
           | (go_at_call 69;refine (pairsof' _ p.at_ p.es SM7.out.drew (HS.out p HPT.out)).mono ?_;rintro e w9 ⟨ao9,cap9,rfl,g1,g2⟩;have G2:=Fr.drew_l g2;have Z:=hid2 g1 G2;have PB9:=(PB.out.fr F7.out pne).fr G2 (fun q=>q);have p0':=PB9.cell 0 _ rfl;have p1':=PB9.cell 1 _ rfl;have TB9:=Lib.hid (TB7.out.fr G2 (fun q=>q));have RB9:=Lib.hid (RB7.out.fr G2 (fun q=>q));have t1:=TB9.out.cell 1 _ rfl;have t4:=TB9.out.cell 4 _ rfl;have t7:=TB9.out.cell 7 _ rfl;have y1:=TB9.out.free 1;have y4:=TB9.out.free 4;have y7:=TB9.out.free 7;have tl9:=TB9.out.lt;clear g1 g2 G2 PB9))
       rename_i hh
       clear hh p0 p1 p0' p1' t1 t4 t7 y1 y4 y7 pl tl tl9 ne1 pne pne'
       have TB10:=Lib.hid (cells_set (cells_set (cells_set TB9.out 1 (.string p.v)) 4 (.int .i64 p.wt)) 7 (.slice ao9 (byK p.es).length cap9))
       have f10:Fr (fun k=>k=w.heap.size+1+1∨k=w.heap.size+1+1+1) w9 (((w9.setCell ⟨w.heap.size+1+1+1,1,none⟩ (.string p.v)).setCell ⟨w.heap.size+1+1+1,4,none⟩ (.int .i64 p.wt)).setCell ⟨w.heap.size+1+1+1,7,none⟩ (.slice ao9 (byK p.es).length cap9)):=by (repeat' (first|(with_reducible exact Fr.refl _ _)|(with_reducible assumption)|(with_reducible refine Fr.drew ?_)|(with_reducible refine Fr.setCell ?_ (.inl (.inl rfl)) _)|(with_reducible refine Fr.setCell ?_ (.inl (.inr rfl)) _)))
       have RB10:=Lib.hid (cells_skip (cells_skip (cells_skip RB9.out (p:=⟨w.heap.size+1+1+1,1,none⟩) (by simp) (.string p.v)) (p:=⟨w.heap.size+1+1+1,4,none⟩) (by simp) (.int .i64 p.wt)) (p:=⟨w.heap.size+1+1+1,7,none⟩) (by simp) (.slice ao9 (byK p.es).length cap9))
       have F10:=Lib.hid f10
       clear f10
       generalize (((w9.setCell ⟨w.heap.size+1+1+1,1,none⟩ (.string p.v)).setCell ⟨w.heap.size+1+1+1,4,none⟩ (.int .i64 p.wt)).setCell ⟨w.heap.size+1+1+1,7,none⟩ (.slice ao9 (byK p.es).length cap9))=wx at TB10 F10 RB10 ⊢
       obtain ⟨t0,t1,t2,t3,t4,t5,t6,t7,t8,t9⟩:=TB10.out.ten;have tl:=TB10.out.lt;obtain ⟨r0,r1,r2,r3,r4,r5,r6,r7,r8,r9⟩:=RB10.out.ten;obtain ⟨z0,z1,z2,z3,z4,z5,z6,z7,z8,z9⟩:=RB10.out.tenf;have rl:=RB10.out.lt
       go_wp2_with fail
       have eT:G.st.vtx ⟨5,a,b,wt,prs⟩={ value:=p.v,wt:=p.wt,pairs:=byK p.es }:=by
         unfold St.vtx
         rw [st_pt,HP.out]
         rfl
       refine bodyPost_ret (v:=toldVal { value:=p.v,wt:=p.wt,pairs:=byK p.es } (.slice ao9 (byK p.es).length cap9) (.slice none 0 0) (.slice none 0 0)) (by simp [results,Tryz.results39,go_sem, *]) rfl ⟨_,rfl,?_,?_⟩
       · rw [eT]
         refine ⟨_,_,_,rfl,?_,KeysAt.nil _ _,LinksAt.nil _ _⟩
         refine PairsAt.low (lo:=w.heap.size+4) (((Z.out.1).low ?_).fr (F10.out.trans (fr_ten _ _ _ _ _ _ _ _ _ _ _ _ _) fun _ q=>.inl q) ?_) (by omega)
         · have h1:=F6.out.size
           have h2:=F7.out.size
           have h3:=SZ.out
           rw [World.drew_size]
           omega
         · intro q hq _ hs
           omega
       · exact GStep.fin HG.out FW.out (GStep.refl HR.out ((F6.out.mono fun _ q=>q.elim))) (S:=fun k=>k=w.heap.size+1+1∨k=w.heap.size+1+1+1) (((F7.out.mono fun _ q=>.inr q).trans Z.out.2 fun _ q=>q.elim).trans (F10.out.trans (fr_ten _ _ _ _ _ _ _ _ _ _ _ _ _) fun _ q=>.inl q) fun _ q=>.inl q) fun k q=>by have:=SZ.out;omega
     · have TB5:=Lib.hid (TB.out.fr f5 (fun q=>q))
       have RB5:=Lib.hid (RB.out.fr f5 (fun q=>q))
       have E5:=Lib.hid (ER.out.fr f5 (fun _ q=>q.elim))
       have F5:=Lib.hid f5
       clear f5
       go_wp2_with fail
       refine (errorof_e _ B eb (E5.out.fr (show Fr0 w5 (w5.alloc (.cells #[.map none,.int .i64 0] 137)) from by ((repeat' with_reducible first|assumption|exact frR|apply frD|apply frN|apply frA|apply frM|apply frC);all_goals (simp;try omega))) (fun _ q=>q.elim)) 1 (by decide)).mono ?_
       rintro e w6 ⟨rfl,f6⟩
       have TB6:=Lib.hid ((TB5.out.alloc (.cells #[.map none,.int .i64 0] 137)).fr f6 (fun q=>q))
       have RB6:=Lib.hid ((RB5.out.alloc (.cells #[.map none,.int .i64 0] 137)).fr f6 (fun q=>q))
       have F6:=Lib.hid (show Fr0 wr w6 from (F5.out.alloc (.cells #[.map none,.int .i64 0] 137)).trans0 f6)
       have HP:=Lib.hid hpt
       clear f6 hpt
       have y0:=TB6.out.free 0
       obtain ⟨t0,t1,t2,t3,t4,t5,t6,t7,t8,t9⟩:=TB6.out.ten;have tl:=TB6.out.lt;obtain ⟨r0,r1,r2,r3,r4,r5,r6,r7,r8,r9⟩:=RB6.out.ten;obtain ⟨z0,z1,z2,z3,z4,z5,z6,z7,z8,z9⟩:=RB6.out.tenf;have rl:=RB6.out.lt
       go_wp2_with fail
       have eT:G.st.vtx ⟨5,a,b,wt,prs⟩={ err:=2 }:=by
         unfold St.vtx
         rw [st_pt,HP.out]
         rfl
       refine bodyPost_ret (v:=toldVal { err:=2 } (.slice none 0 0) (.slice none 0 0) (.slice none 0 0)) (by simp [results,Tryz.results39,go_sem, *]) rfl ⟨_,rfl,?_,?_⟩
       · rw [eT]
         exact ⟨_,_,_,rfl,PairsAt.nil _ _,KeysAt.nil _ _,LinksAt.nil _ _⟩
       · exact GStep.fin HG.out FW.out (GStep.refl HR.out (F6.out.mono fun _ q=>q.elim)) (S:=fun k=>k=w.heap.size+1+1∨k=w.heap.size+1+1+1) (fr_boxes w6 (w.heap.size+1+1) (w.heap.size+1+1+1) _ _ _ _ _ _ _ _ _ _ _) fun k q=>by have:=SZ.out;omega
end Go.Proofs.YtbafaadmlpamiaaGreatDoor
