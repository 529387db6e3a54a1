import Derived.Test.YtbafaadmlpamiaaGreatDoorStep9
import Derived.Test.YtbafaadmlpamiaaGreatDoorT6
import Derived.Test.YtbafaadmlpamiaaGreatDoorEdg
set_option maxRecDepth 100000
set_option maxHeartbeats 4000000
namespace Go.Proofs.YtbafaadmlpamiaaGreatDoor
open Go Go.Hy Go.RowKit
theorem maps_case (B:Nat) (eb:Nat→Addr) (s:St) (d:DoIn) (T:TypeId) (turn:Bool) (hs:Small s) (hT:∀ G:GS,G.st=s→G.val=.iface T (.pointer (some ⟨G.gB,0,none⟩)))
   (he:(s.step d)=({ keys:=sortK s.keys,links:=sortL (s.both turn) },s))
   (HC:∀ (w:World) (G:GS),GRep w G→G.st=s→G.pts.length≤400000→G.lks.length≤400000→(T=162∧d.op=9∧Maps G w turn 177)∨(T=162∧d.op=10∧Maps G w turn 182)∨(T=164∧d.op=9∧Maps G w turn 202)∨(T=164∧d.op=10∧Maps G w turn 207)):StepC B eb s d:=by
 intro w G b0 b1 b2 b3 b4 b5 hk ao n cap h hG HH E hB hp
 obtain ⟨op,a,b,wt,prs⟩:=d
 rw [hT G hG,he]
 have hs':Small G.st:=by rw [hG];exact hs
 obtain ⟨s1,s2,s3,s4⟩:=small_pts h hs'
 refine (step9w w G h T op turn b0 b1 b2 b3 b4 b5 hk a b wt ao n cap prs hp s2 s3 s4 (HC w G h hG s3 s4)).mono ?_
 rintro e w' ⟨v,rfl,h1,g⟩
 rw [hG] at h1
 exact ⟨v,G,rfl,told_asked h h1,hG,g⟩
theorem stepC9 (B:Nat) (eb:Nat→Addr) (s:St) (d:DoIn) (hop:d.op=9) (hs:Small s):StepC B eb s d:=by
 cases hd:s.dir with
 | true =>
   refine maps_case B eb s d 162 false hs (fun G hG=>val_dir (by rw [← hG] at hd;exact hd)) (by cases d;simp only at hop;subst hop;rfl) fun w G h hG s3 s4=>.inl ⟨rfl,hop,fun w' f=>dadj w' G (h.fr f (fun _ _ q=>q) (fun q=>q)) s3 s4⟩
 | false =>
   refine maps_case B eb s d 164 false hs (fun G hG=>val_undir (by rw [← hG] at hd;exact hd)) (by cases d;simp only at hop;subst hop;rfl) fun w G h hG s3 s4=>.inr (.inr (.inl ⟨rfl,hop,fun w' f=>uadj w' G (h.fr f (fun _ _ q=>q) (fun q=>q)) s3 s4⟩))
theorem stepC10 (B:Nat) (eb:Nat→Addr) (s:St) (d:DoIn) (hop:d.op=10) (hs:Small s):StepC B eb s d:=by
 cases hd:s.dir with
 | true =>
   refine maps_case B eb s d 162 true hs (fun G hG=>val_dir (by rw [← hG] at hd;exact hd)) (by cases d;simp only at hop;subst hop;rfl) fun w G h hG s3 s4=>.inr (.inl ⟨rfl,hop,fun w' f=>dpred w' G (h.fr f (fun _ _ q=>q) (fun q=>q)) s3 s4⟩)
 | false =>
   refine maps_case B eb s d 164 false hs (fun G hG=>val_undir (by rw [← hG] at hd;exact hd)) (by cases d;simp only at hop;subst hop;rw [← both_low s hd true];rfl) fun w G h hG s3 s4=>.inr (.inr (.inr ⟨rfl,hop,fun w' f=>upred w' G (h.fr f (fun _ _ q=>q) (fun q=>q)) s3 s4⟩))
theorem mdEdges (v : Value) (w : World) : (Go.method 419 162 v "Edges").run Tryz.prog w = .ok (180, v) w := by kernel_rfl
theorem mdTraits (v : Value) (w : World) : (Go.method 419 162 v "Traits").run Tryz.prog w = .ok (186, v) w := by kernel_rfl
theorem dtraits (w:World) (G:GS) (h:GRep w G):Calls Tryz.prog 186 #[.pointer (some ⟨G.gB,0,none⟩)] w fun e w'=>e=.returned (.pointer (some ⟨G.tB,0,none⟩))∧w'=w:=by
 obtain ⟨⟨g0,g1,g2⟩,_,l0,l1,l2⟩:=h.facts
 clear h
 go_enter Tryz.func186,Tryz.ntmps186
 go_wp2
 go_ret
 exact ⟨rfl,rfl⟩
theorem muEdges (v : Value) (w : World) : (Go.method 419 164 v "Edges").run Tryz.prog w = .ok (205, v) w := by kernel_rfl
theorem muTraits (v : Value) (w : World) : (Go.method 419 164 v "Traits").run Tryz.prog w = .ok (211, v) w := by kernel_rfl
theorem utraits (w:World) (G:GS) (h:GRep w G):Calls Tryz.prog 211 #[.pointer (some ⟨G.gB,0,none⟩)] w fun e w'=>e=.returned (.pointer (some ⟨G.tB,0,none⟩))∧w'=w:=by
 obtain ⟨⟨g0,g1,g2⟩,_,l0,l1,l2⟩:=h.facts
 clear h
 go_enter Tryz.func211,Tryz.ntmps211
 go_wp2
 go_ret
 exact ⟨rfl,rfl⟩
def EdgC (w:World) (G:GS) (F:Nat):Prop:=∀ w',Fr0 w w'→Calls Tryz.prog F #[.pointer (some ⟨G.gB,0,none⟩)] w' fun e w2=>∃ v rs,e=.returned (.tuple #[v,.nilIface])∧EdgM w' w2 G v rs
def GL (wa:World) (G:GS) (lo tb:Nat) (rs:List KV) (k:Nat) (c:Value) (wr:World):Prop :=
 ∃ (i:Nat) (D:List LnkV) (v9:Value),k+i=rs.length∧c=.int .i64 (i:Nat)∧Lst wa lo tb tb wr [] D (.slice none 0 0) v9∧D.map (·.1)=(rs.take i).map (edOf G)
theorem edg_told {w:World} {G:GS} (h:GRep w G) {rs:List KV} (hp:(rs.map (edOf G)).Perm (G.st.ls.map (SL.low G.dir))) {D D2:List LnkV} (hD:D.map (·.1)=rs.map (edOf G)) (hp2:D2.Perm D) (hs2:D2.Pairwise fun a b=>lt2 (keyL b) (keyL a)=false) :
   D2.map (·.1)=sortL (G.st.ls.map (SL.low G.dir)):=by
 have h1:(D2.map (·.1)).Perm (G.st.ls.map (SL.low G.dir)):=(hp2.map _).trans (by rw [hD];exact hp)
 exact sorted_links h1 (List.pairwise_map.2 (hs2.imp fun h=>h)) ((h1.map _).nodup_iff.2 (low_nodup h))
set_option linter.unusedSimpArgs false in
theorem stepGw (w:World) (G:GS) (h:GRep w G) (T:TypeId) (b0 b1 b2 b3 b4 b5:Bool) (hk:Nat) (a b:ByteArray) (wt:Int) (ao:Option Addr) (n cap:Nat) (prs:List (ByteArray × ByteArray)) (hp:PrOk w ao n cap prs)
   (hes:∀ l∈G.lks,l.es.length≤1000000) (hbl:G.lks.length≤400000)
   (HC:(T=162∧G.dir=true∧EdgC w G 180)∨(T=164∧G.dir=false∧EdgC w G 205)) :
   Calls Tryz.prog 39 #[.iface T (.pointer (some ⟨G.gB,0,none⟩)),kagg b0 b1 b2 b3 b4 b5 hk,doV 8 a b wt ao n cap] w fun e w'=>∃ v,e=.returned v∧ToldAt w' w.heap.size v { links:=sortL (G.st.ls.map (SL.low G.dir)) }∧GStep w G w' G:=by
 have HC5:=Lib.hid HC
 have HS:=Lib.hid hes
 have HB:=Lib.hid hbl
 clear HC hes hbl
 have mA1:=mdEdges
 have mA2:=muEdges
 have mA3:=mdTraits
 have mA4:=muTraits
 obtain ⟨hn,hcap,hsm,hat⟩:=hp
 have P:=Lib.hid hat
 have HG:=Lib.hid h
 subst hn
 clear hat h
 go_enter Tryz.func39,Tryz.ntmps39
 go_wp2_with (first
   | (go_at_call 64;refine (ew _ wt).mono ?_;rintro e w1 ⟨rfl,rfl⟩)
   | (go_at_call 65;refine (vw _ wt).mono ?_;rintro e w1 ⟨rfl,rfl⟩))
 try go_frame
 go_loopg [8,9,45] prs.length (fun k v8 v9 c wr=>DL (stepW w b0 b1 b2 b3 b4 b5 hk 8 a b wt ao prs.length cap) wt prs k v8 v9 c wr)
 case atStart =>
   have:=DL.start (wB:=stepW w b0 b1 b2 b3 b4 b5 hk 8 a b wt ao prs.length cap) wt prs
   have zz:(stepW w b0 b1 b2 b3 b4 b5 hk 8 a b wt ao prs.length cap).heap.size=w.heap.size+1+1+1+1:=by simp [stepW]
   rw [zz] at this
   exact this
 case round =>
   obtain ⟨i,oE,oV,hk',rfl,hE,hV,lE,lV,aE,aV,hap,f⟩:=hrel
   have A:=hid9 hk' hE hV lE lV aE aV hap f
   clear hk' hE hV lE lV aE aV hap f
   by_cases hi:i < prs.length
   · have hg:=List.getElem?_eq_getElem hi
     obtain ⟨ob,rfl,hob,p0,p1⟩:=P.out i _ hg
     have FW:=Lib.hid (show Fr0 w wr from (show Fr0 w (stepW w b0 b1 b2 b3 b4 b5 hk 8 a b wt (some ⟨ob,0,none⟩) prs.length cap) from by unfold stepW;((repeat' with_reducible first|assumption|exact frR|apply frD|apply frN|apply frA|apply frM|apply frC);all_goals (simp;try omega))).trans0 A.out.2.2.2.2.2.2.2.2)
     have q0:=(FW.out.cell (p:=⟨ob,i * 2,none⟩) hob (fun q=>q)).trans p0
     have q1:=(FW.out.cell (p:=⟨ob,i * 2+1,none⟩) hob (fun q=>q)).trans p1
     have HGI:=Lib.hid hg
     generalize prs[i]=pr at q0 q1 HGI
     clear p0 p1 hg
     go_wp2_with fail
     refine (ea _ pr.1 pr.2).mono ?_
     rintro e w1 ⟨rfl,hw1⟩
     have OK1:=Lib.hid (optE hw1)
     clear hw1
     go_wp2_with (first
       | (at_builtin;refine wl_app1 (w:=w1) 124 rfl (.tmp 49) (.tmp 55) rfl 122 _ 1 8 Tryz.underlying124 info122 rfl (by decide) (by decide) _ u8 oE.length (oE.map Opt.eV) rfl (A.out.2.1.fr0 OK1.out.1).own #[(Opt.at_ pr.1 pr.2 (wr.heap.size+1+1) (wr.heap.size+1)).eV] w1.heap.size rfl rfl rfl (by simp [Value.oneCell',Opt.eV]) (by have:=A.out.2.2.2.1;omega) (by have h1:=A.out.2.2.2.2.2.2.2.2.size;have h2:=OK1.out.1.size;omega) ?_))
     intro v8' w2 ho8 g8 _
     have hw1:=OK1.out.1.size
     have pb2:Cells w2 wr.heap.size #[.string pr.1,.string pr.2] 68:=OK1.out.2.2.fr g8 (fun q=>by have:=(A.out.2.1.own.lt _ q).2;omega)
     have e0:=pb2.cell 0 _ rfl
     have e1:=pb2.cell 1 _ rfl
     have el:=pb2.lt
     have OK2:=hid2 ho8 g8
     clear ho8 g8 pb2
     go_wp2_with fail
     refine (va _ pr.1 pr.2).mono ?_
     rintro e w3 ⟨rfl,hw3⟩
     have OK3:=Lib.hid (optV hw3)
     have V2:=Lib.hid (show w3.ownsRow (stepW w b0 b1 b2 b3 b4 b5 hk 8 a b wt (some ⟨ob,0,none⟩) prs.length cap).heap.size 125 1 u9 oV.length (oV.map Opt.vV) from
       ownsRow_fr (ownsRow_fr (A.out.2.2.1.fr0 OK1.out.1).own OK2.out.2 fun q hq=>own_type (A.out.2.2.1.fr0 OK1.out.1).own (A.out.2.1.fr0 OK1.out.1).own (by decide) q hq) OK3.out.1 fun _ _ q=>q)
     clear hw3
     go_wp2_with (first
       | (at_builtin;refine wl_app1 (w:=w3) 127 rfl (.tmp 57) (.tmp 63) rfl 125 _ 1 8 Tryz.underlying127 info125 rfl (by decide) (by decide) _ u9 oV.length (oV.map Opt.vV) rfl V2.out #[(Opt.at_ pr.1 pr.2 (w2.heap.size+1) w2.heap.size).vV] w3.heap.size rfl rfl rfl (by simp [Value.oneCell',Opt.vV]) (by have:=A.out.2.2.2.2.1;omega) (by have h1:=A.out.2.2.2.2.2.2.2.2.size;have h2:=OK3.out.1.size;have h3:=OK2.out.2.size;omega) ?_))
     intro v9' w4 ho9 g9 _
     have OK4:=hid2 ho9 g9
     clear ho9 g9
     go_wp2_with fail
     obtain ⟨hk',hE,hV,lE,lV,aE,aV,hap,f⟩:=A.out
     have R:=DL.step hk' hi HGI.out hE hV lE lV aE aV f OK1.out.1 OK1.out.2.1 OK2.out.1 OK2.out.2 OK3.out.1 OK3.out.2 OK4.out.1 OK4.out.2
     go_roundg (gk - 1)
     case measure=>exact R.1
     case rel=>exact R.2
   · have hi':i=prs.length:=by have:=A.out.1;omega
     subst hi'
     have SBB:=stepB A.out.2.2.2.2.2.2.2.2
     have FW:=Lib.hid SBB.1
     have sB:=SBB.2.1
     have s0:=sB.cell 0 _ rfl
     have s1:=sB.cell 1 _ rfl
     have s2:=sB.cell 2 _ rfl
     have sl:=sB.lt
     have TB:=Lib.hid SBB.2.2.2
     have RB:=Lib.hid SBB.2.2.1
     clear sB SBB
     obtain ⟨wp,rfl⟩ : ∃ wp:World,wp=wr:=⟨_,rfl⟩
     have HT:=Lib.hid (show ∀ k,k∈G.own→k < w.heap.size from HG.out.lt)
     have HR:=Lib.hid (HG.out.fr FW.out (fun _ _ q=>q) (fun q=>q))
     have szr:=A.out.2.2.2.2.2.2.2.2.size
     have szw:(stepW w b0 b1 b2 b3 b4 b5 hk 8 a b wt ao prs.length cap).heap.size=w.heap.size+1+1+1+1:=by simp [stepW]
     have SZ:=Lib.hid (show w.heap.size+4≤wp.heap.size from by omega)
     clear szr szw
     have HD:=HC5.out
     clear HC5
     rcases HD with HD|HD
     all_goals
       obtain ⟨e1,hdir,HC⟩:=HD
       subst e1
       have HDR:=Lib.hid hdir
       have HC5:=Lib.hid HC
       clear HC hdir
       go_wp2_with fail
       refine (HC5.out wp FW.out).mono ?_
       rintro e w5 ⟨v,rs,rfl,hE⟩
       obtain ⟨aoE,capE,rfl,_,hv⟩:=own_slice hE.row
       have HE:=Lib.hid hE
       have HV:=Lib.hid hv
       clear hE hv
       go_wp2_with fail
       refine (errorof_nil _).mono ?_
       rintro e w6 ⟨rfl,f6⟩
       have F6:=Lib.hid (show Fr0 w5 w6 from f6)
       clear f6
       have TB6:=Lib.hid ((TB.out.fr HE.out.fr (fun q=>q)).fr F6.out (fun q=>q))
       have RB6:=Lib.hid ((RB.out.fr HE.out.fr (fun q=>q)).fr F6.out (fun q=>q))
       have y0:=TB6.out.free 0
       have t0:=TB6.out.cell 0 _ rfl
       have tl:=TB6.out.lt
       have F7:=Lib.hid ((Fr.refl (· = w.heap.size+1+1+1) w6).setCell (p:=⟨w.heap.size+1+1+1,0,none⟩) (.inl rfl) (.int .u8 0))
       have TB7:=Lib.hid (show Cells (w6.setCell ⟨w.heap.size+1+1+1,0,none⟩ (.int .u8 0)) (w.heap.size+1+1+1) (tKL (.slice none 0 0) (.slice none 0 0)) 44 from cells_set TB6.out 0 (.int .u8 0))
       have RB7:=Lib.hid (RB6.out.fr F7.out (by omega))
       have FT:=Lib.hid (show Fr (fun k=>k=w.heap.size+1+1∨k=w.heap.size+1+1+1) wp (w6.setCell ⟨w.heap.size+1+1+1,0,none⟩ (.int .u8 0)) from ((HE.out.fr.trans0 F6.out).mono fun _ q=>q.elim).trans F7.out fun _ q=>.inl (.inr q))
       have Z7:=Lib.hid (show w5.heap.size≤(w6.setCell ⟨w.heap.size+1+1+1,0,none⟩ (.int .u8 0)).heap.size from Nat.le_trans F6.out.size F7.out.size)
       have F57:=Lib.hid (show Fr (· = w.heap.size+1+1+1) w5 (w6.setCell ⟨w.heap.size+1+1+1,0,none⟩ (.int .u8 0)) from (F6.out.mono fun _ q=>q.elim).trans F7.out fun _ q=>.inl q)
       go_wp2_with fail
       clear y0 t0 tl
       generalize w6.setCell ⟨w.heap.size+1+1+1,0,none⟩ (.int .u8 0)=w7 at *
       have LT:=Lib.hid (show w.heap.size+1+1+1 < w7.heap.size from TB7.out.lt)
       have LR:=Lib.hid (show rs.length≤400000 from by
         have h1:=HE.out.perm.length_eq
         simp only [List.length_map,GS.st] at h1
         have:=HB.out
         omega)
       try go_frame
       go_loopg [204] rs.length (fun k c wx=>GL w7 G w7.heap.size (w.heap.size+1+1+1) rs k c wx)
       case atStart =>
         exact ⟨0,[],.slice none 0 0,rfl,rfl,⟨TB7.out,World.ownsRow_nil _ _ _ _,World.ownsRow_nil _ _ _ _,(fun d hd=>by cases hd),Fr.refl _ _,LT.out,Nat.le_refl _⟩,rfl⟩
       case round =>
         obtain ⟨i,D,v9,hk',rfl,hL,hDm⟩:=hrel
         obtain ⟨wo,rfl⟩ : ∃ wo:World,wo=wr:=⟨_,rfl⟩
         obtain ⟨a9,n9,rfl, -, -⟩:=own_slice hL.l
         have AO:=hid3 hk' hL hDm
         have BD:=Lib.hid (show D.length≤400000 from by
           have h1:=congrArg List.length hDm
           simp only [List.length_map,List.length_take] at h1
           have:=LR.out
           omega)
         clear hk' hL hDm
         by_cases hi:i < rs.length
         · have hg:=List.getElem?_eq_getElem hi
           have htk:rs.take (i+1)=rs.take i ++ [rs[i]]:=List.take_succ_eq_append_getElem hi
           obtain ⟨e,he,hf,hv2⟩:=links_find HR.out (HE.out.sub rs[i] (List.getElem_mem hi))
           have hed:=edOf_eq (G:=G) hf
           have hg2:rs[i]? = some ((rs[i].1.1,rs[i].1.2),ev rs[i].1.1 rs[i].1.2 e.at_ e.wt):=by rw [hg,← hv2]
           have kok:∀ p∈rs,KVok p:=fun p hp=>linksK_ok _ _ p (HE.out.sub p hp)
           obtain ⟨c0,c1,c2,c3,c4⟩:=eCells_at kok hg2
           clear kok
           obtain ⟨ed,hedv⟩ : ∃ ed,ed=edOf G rs[i]:=⟨_,rfl⟩
           rw [← hedv] at hed
           have TKE:=Lib.hid (show (rs.take (i+1)).map (edOf G)=(rs.take i).map (edOf G) ++ [ed] by rw [htk,List.map_append,hedv];rfl)
           generalize rs[i].1.1=x at hg2 hed c0 c1 c2 c3 c4
           generalize rs[i].1.2=y at hg2 hed c0 c1 c2 c3 c4
           obtain ⟨ob,rfl,hob,d0⟩:=HV.out _ _ c0
           obtain ⟨ob',e',_,d1⟩:=HV.out _ _ c1
           cases e'
           obtain ⟨ob',e',_,d2⟩:=HV.out _ _ c2
           cases e'
           obtain ⟨ob',e',_,d3⟩:=HV.out _ _ c3
           cases e'
           obtain ⟨ob',e',_,d4⟩:=HV.out _ _ c4
           cases e'
           have LB:=Lib.hid (show wp.heap.size≤ob from (HE.out.row.lt _ rfl).1)
           have FO:=Lib.hid (show Fr (· = w.heap.size+1+1+1) w5 wo from F57.out.trans AO.out.2.1.f fun _ q=>.inl q)
           have cc:∀ o v,w5.cell? ⟨ob,o,none⟩=some v→wo.cell? ⟨ob,o,none⟩=some v:=fun o v q=>(FO.out.cell (p:=⟨ob,o,none⟩) hob (fun r=>by have:=LB.out;have:=SZ.out;simp only at r;omega)).trans q
           have d0:=cc _ _ d0
           have d1:=cc _ _ d1
           have d2:=cc _ _ d2
           have d3:=cc _ _ d3
           have d4:=cc _ _ d4
           have hsm:rs.length≤400000:=LR.out
           have SE:=Lib.hid (show e∈G.lks∧SM wo e.at_ (ats e.es) from by
             have h1:=HT.out e.at_ (by simp only [GS.own,List.mem_cons,List.mem_append,List.mem_map];exact .inr (.inr (.inr (.inr (.inr ⟨e,he,rfl⟩)))))
             exact ⟨he,((HR.out.la e he).fr HE.out.fr (fun q=>q)).fr FO.out (by omega)⟩)
           have GR:=Lib.hid (show GRep wo G from (HR.out.fr HE.out.fr (fun _ _ q=>q) (fun q=>q)).fr FO.out (fun b hb q=>by have:=HT.out b hb;omega) (fun q=>by obtain ⟨cs,h1,_⟩:=HG.out.k;have:=h1.lt;omega))
           have HED:=Lib.hid hed
           clear c0 c1 c2 c3 c4 cc hg hg2 hed hedv htk he hf hv2
           have TW:(G.dir=true∧ed=⟨x,y,e.wt,byK e.es⟩)∨(G.dir=false∧Op.bytesLess y.toList x.toList=true∧ed=⟨y,x,e.wt,byK e.es⟩)∨(G.dir=false∧Op.bytesLess y.toList x.toList=false∧ed=⟨x,y,e.wt,byK e.es⟩):=by
             have h1:=HED.out
             unfold SL.low SL.turn ltB at h1
             cases hd:G.dir with
             | true=>exact .inl ⟨rfl,by rw [h1,hd];rfl⟩
             | false =>
               cases hb:Op.bytesLess y.toList x.toList with
               | true=>exact .inr (.inl ⟨rfl,rfl,by rw [h1,hd];simp [hb]⟩)
               | false=>exact .inr (.inr ⟨rfl,rfl,by rw [h1,hd];simp [hb]⟩)
           have tr0:=GR.out.facts.2.1.1
           have trl:=GR.out.facts.2.2.2.1
           have gb1:=GR.out.facts.1.2.1
           have gbl:=GR.out.facts.2.2.1
           rw [HDR.out] at tr0
           rcases TW with ⟨hq,hE⟩|⟨hq,hlt,hE⟩|⟨hq,hlt,hE⟩
           all_goals try (exfalso;rw [HDR.out] at hq;cases hq;done)
           all_goals
             clear hq
             have HE1:=Lib.hid hE
             clear hE
             have LX:=Lib.hid (AO.out.2.1.fr0 ((Fr.refl (fun _=>False) wo).alloc (.cells #[.string x,.string y,.map (some e.at_),.int .i64 e.wt,.nilIface] 144)))
             have EB:=Lib.hid (Cells.new wo #[.string x,.string y,.map (some e.at_),.int .i64 e.wt,.nilIface] 144)
             have SX3:=Lib.hid (show SM (wo.alloc (.cells #[.string x,.string y,.map (some e.at_),.int .i64 e.wt,.nilIface] 144)) e.at_ (ats e.es) from SE.out.2.alloc _)
             have S3:=Lib.hid (show S9 (w.heap.size+1+1+1) wo.heap.size e.at_ (.slice a9 D.length n9) e.wt (wo.alloc (.cells #[.string x,.string y,.map (some e.at_),.int .i64 e.wt,.nilIface] 144)) from ⟨LX.out.t.cell 9 _ rfl,EB.out.cell 2 _ rfl,EB.out.cell 3 _ rfl,LX.out.t.lt,EB.out.lt⟩)
             have ZW:=Lib.hid (show (wo.alloc (.cells #[.string x,.string y,.map (some e.at_),.int .i64 e.wt,.nilIface] 144)).heap.size=wo.heap.size+1 by simp)
             go_wp2_with fail
             go_quiet (fail)
             go_wp2_with (first
               | (go_at_call 186;go_must (refine (dtraits _ G (GR.out.fr (S:=fun _=>False) (by ((repeat' with_reducible first|assumption|exact frR|apply frD|apply frN|apply frA|apply frM|apply frC);all_goals (simp;try omega))) (fun _ _ q=>q) (fun q=>q))).mono ?_);rintro e2 w8 ⟨rfl,rfl⟩)
               | (go_at_call 211;go_must (refine (utraits _ G (GR.out.fr (S:=fun _=>False) (by ((repeat' with_reducible first|assumption|exact frR|apply frD|apply frN|apply frA|apply frM|apply frC);all_goals (simp;try omega))) (fun _ _ q=>q) (fun q=>q))).mono ?_);rintro e2 w8 ⟨rfl,rfl⟩))
             clear tr0 trl gb1 gbl d0 d1 d2 d3 d4
             generalize wo.alloc (.cells #[.string x,.string y,.map (some e.at_),.int .i64 e.wt,.nilIface] 144)=wb at *
             obtain ⟨we,hwe⟩ : ∃ we,we=wb.drewN nq:=⟨_,rfl⟩
             rw [← hwe]
             have FWE:=Lib.hid (show Fr0 wb we from by rw [hwe];((repeat' with_reducible first|assumption|exact frR|apply frD|apply frN|apply frA|apply frM|apply frC);all_goals (simp;try omega)))
             clear hwe
             have S3e:=Lib.hid (S3.out.fr FWE.out)
             have LXe:=Lib.hid (LX.out.fr0 FWE.out)
             have SX3e:=Lib.hid (SX3.out.fr FWE.out (fun q=>q))
             refine OrdS.start (S:=S9 (w.heap.size+1+1+1) wo.heap.size e.at_ (.slice a9 D.length n9) e.wt) (m:=15) (by kernel_rfl) ?_
             have hHeld:=S3e.out.fr (show Fr0 we we.drew from by ((repeat' with_reducible first|assumption|exact frR|apply frD|apply frN|apply frA|apply frM|apply frC);all_goals (simp;try omega)))
             (refine OrdS.tq (i:=0) (v:=?_) rfl (by kernel_rfl) (fun _ _ _ h=>h) (by rfl) hHeld ?_ ?_;rotate_left;focus (intro w' hSw;replace hSw:=hSw.out;go_simp;try with_reducible rfl);(try simp only [Act.put,lA,lZ,lS]))
             (refine OrdS.tq (i:=1) (v:=?_) rfl (by kernel_rfl) (fun _ _ _ h=>h) (by rfl) hHeld ?_ ?_;rotate_left;focus (intro w' hSw;replace hSw:=hSw.out;go_simp;try with_reducible rfl);(try simp only [Act.put,lA,lZ,lS]))
             (refine OrdS.tq (i:=2) (v:=?_) rfl (by kernel_rfl) (fun _ _ _ h=>h) (by rfl) hHeld ?_ ?_;rotate_left;focus (intro w' hSw;replace hSw:=hSw.out;go_simp;try with_reducible rfl);(try simp only [Act.put,lA,lZ,lS]))
             (refine OrdS.tq (i:=3) (v:=?_) rfl (by kernel_rfl) (fun _ _ _ h=>h) (by rfl) hHeld ?_ ?_;rotate_left;focus (intro w' hSw;replace hSw:=hSw.out;go_simp;try with_reducible rfl);(try simp only [Act.put,lA,lZ,lS]))
             (refine OrdS.tq (i:=4) (v:=?_) rfl (by kernel_rfl) (fun _ _ _ h=>h) (by rfl) hHeld ?_ ?_;rotate_left;focus (intro w' hSw;replace hSw:=hSw.out;go_simp;try with_reducible rfl);(try simp only [Act.put,lA,lZ,lS]))
             (refine OrdS.tq (i:=5) (v:=?_) rfl (by kernel_rfl) (fun _ _ _ h=>h) (by rfl) hHeld ?_ ?_;rotate_left;focus (intro w' hSw;replace hSw:=hSw.out;go_simp;try with_reducible rfl);(try simp only [Act.put,lA,lZ,lS]))
             (refine OrdS.tq (i:=6) (v:=?_) rfl (by kernel_rfl) (fun _ _ _ h=>h) (by rfl) hHeld ?_ ?_;rotate_left;focus (intro w' hSw;replace hSw:=hSw.out;go_simp;try with_reducible rfl);(try simp only [Act.put,lA,lZ,lS]))
             (refine OrdS.tq (i:=7) (v:=?_) rfl (by kernel_rfl) (fun _ _ _ h=>h) (by rfl) hHeld ?_ ?_;rotate_left;focus (intro w' hSw;replace hSw:=hSw.out;go_simp;try with_reducible rfl);(try simp only [Act.put,lA,lZ,lS]))
             (refine OrdS.tq (i:=8) (v:=?_) rfl (by kernel_rfl) (fun _ _ _ h=>h) (by rfl) hHeld ?_ ?_;rotate_left;focus (intro w' hSw;replace hSw:=hSw.out;go_simp;try with_reducible rfl);(try simp only [Act.put,lA,lZ,lS]))
             (refine OrdS.tq (i:=9) (v:=?_) rfl (by kernel_rfl) (fun _ _ _ h=>h) (by rfl) hHeld ?_ ?_;rotate_left;focus (intro w' hSw;replace hSw:=hSw.out;go_simp;try with_reducible rfl);(try simp only [Act.put,lA,lZ,lS]))
             (refine OrdS.one (i:=10) rfl (by kernel_rfl) ?_;intro K hK)
             go_simp
             go_at_call 69
             refine (pairsof' _ e.at_ e.es (SX3e.out.fr (show Fr0 we _ from by ((repeat' with_reducible first|assumption|exact frR|apply frD|apply frN|apply frA|apply frM|apply frC);all_goals (simp;try omega))) (fun q=>q)) (HS.out e SE.out.1)).mono ?_
             rintro ex w23 ⟨ao23,cap23,rfl,h23,f23⟩
             have P23:=Lib.hid h23
             have G23:=Lib.hid (show Fr0 we w23 from Fr.trans0 (by ((repeat' with_reducible first|assumption|exact frR|apply frD|apply frN|apply frA|apply frM|apply frC);all_goals (simp;try omega))) f23)
             clear f23 h23
             dsimp only
             refine hK.out _ _ (fun _=>S3e.out.fr G23.out) ?_
             clear hK K
             (try simp only [Act.put,lA,lZ,lS])
             have hHeld:=S3e.out.fr G23.out
             (refine OrdS.tq (i:=11) (v:=?_) rfl (by kernel_rfl) (fun _ _ _ h=>h) (by rfl) hHeld ?_ ?_;rotate_left;focus (intro w' hSw;replace hSw:=hSw.out;go_simp;try with_reducible rfl);(try simp only [Act.put,lA,lZ,lS]))
             (refine OrdS.one (i:=12) rfl (by kernel_rfl) ?_;intro K hK)
             go_simp
             refine hK.out _ _ (fun _=>S3e.out.fr (show Fr0 we _ from by have f:=G23.out;((repeat' with_reducible first|assumption|exact frR|apply frD|apply frN|apply frA|apply frM|apply frC);all_goals (simp;try omega)))) ?_
             clear hK K hHeld
             (try simp only [Act.put,lA,lZ,lS])
             (refine OrdS.one (i:=13) rfl (by kernel_rfl) ?_;intro K hK)
             go_must (refine step_appG 42 (by rfl) (.tmp 226) (.tmp 237) (by rfl) 65 _ 4 64 Tryz.underlying42 info65 rfl (by decide) (by decide) w7.heap.size (.slice a9 D.length n9) D.length (encL encLnk D) (by rfl) (ownsRow_fr (ownsRow_fr LXe.out.l G23.out (fun _ _ q=>q)) ((Fr.refl (fun _=>False) w23).alloc _) (fun _ _ q=>q)) (.slice (some ⟨w23.heap.size,0,none⟩) 1 1) 1 (encLnk (ed,ao23,(byK e.es).length,cap23)) (by rfl) (by rw [HE1.out];exact yields_own (own_of_block (heap_alloc_new _ _) rfl)) rfl (by intro u hu;rw [HE1.out] at hu;simp only [encLnk,List.mem_cons,List.not_mem_nil,or_false] at hu;rcases hu with rfl|rfl|rfl|rfl <;> rfl) (by have:=BD.out;omega) (by have:=G23.out.size;have:=LXe.out.f.size;simp;omega) ?_)
             intro v63 w63 ho63 f63 hat63
             obtain ⟨ao63,cap63,rfl, -, -⟩:=own_slice ho63
             have G63:=Lib.hid (show Fr (fun k=>(Value.slice a9 D.length n9).ownBlock=some k) w23 w63 from Fr.trans (show Fr _ w23 _ from by ((repeat' with_reducible first|assumption|exact frR|apply frD|apply frN|apply frA|apply frM|apply frC);all_goals (simp;try omega))) f63 (fun q hq=>.inl hq))
             have L9:=Lib.hid (show S9 (w.heap.size+1+1+1) wo.heap.size e.at_ (.slice a9 D.length n9) e.wt w63 from (S3e.out.fr G23.out).fr' G63.out LX.out.n9 (fun q=>by have:=(AO.out.2.1.l.lt _ q).2;omega))
             have c9:=L9.out.c9
             have c9f:=((LXe.out.t.fr G23.out (fun q=>q)).fr G63.out LX.out.n9).free 9
             have tl9:=L9.out.lt
             have Q63:=hid3 ho63 f63 hat63
             clear ho63 f63 hat63
             refine hK.out _ _ (fun _=>L9.out) ?_
             clear hK K
             (try simp only [Act.put,lA,lZ,lS])
             (refine OrdS.one (i:=14) rfl (by kernel_rfl) ?_;intro K hK)
             go_simp
             refine hK.out _ _ (fun _=>L9.out) ?_
             clear hK K
             (try simp only [Act.put,lA,lZ,lS])
             (refine OrdS.one (i:=15) rfl (by kernel_rfl) ?_;intro K hK)
             go_simp
             refine hK.out _ _ (fun h=>absurd (show true=false from h) (by decide)) ?_
             clear hK K
             (try simp only [Act.put,lA,lZ,lS])
             refine OrdS.done (by kernel_rfl) ?_
             have PA:=Lib.hid (PairsAt.low (lo':=we.heap.size) P23.out (Nat.le_trans (Nat.le_refl _) (by first|exact Nat.le_refl _|simp)))
             have LN:=Lib.hid (Lst.link (d:=(ed,ao23,(byK e.es).length,cap23)) LXe.out Q63.out.1 (G23.out.alloc _) (by have h1:=PairsIn.fr PA.out ((Fr.refl (fun _=>False) w23).alloc (.cells #[.string ed.a,.string ed.b,.int .i64 ed.wt,.slice ao23 (byK e.es).length cap23] 65)) (fun _ _ _ q=>q);rw [HE1.out] at h1 ⊢;exact h1) (Nat.le_refl _) (by have:=LT.out;have:=LXe.out.f.size;omega) (by have:=LXe.out.f.size;omega) Q63.out.2.1 Q63.out.2.2 (Nat.le_refl _))
             go_wp2_with fail
             go_roundg (gk - 1)
             case measure=>have:=AO.out.1;omega
             case rel =>
               exact ⟨i+1,D ++ [(ed,ao23,(byK e.es).length,cap23)],.slice ao63 (D.length+1) cap63,by have:=AO.out.1;omega,by simp,LN.out,by rw [List.map_append,AO.out.2.2,TKE.out];rfl⟩
         · have hi':i=rs.length:=by have:=AO.out.1;omega
           subst hi'
           have DM:=Lib.hid (show D.map (·.1)=rs.map (edOf G) by have:=AO.out.2.2;rwa [List.take_length] at this)
           have c9:=AO.out.2.1.t.cell 9 _ rfl
           have O9:=Lib.hid (show ∀ q,(Value.slice a9 D.length n9).ownBlock=some q→w7.heap.size≤q from fun q e=>(AO.out.2.1.l.lt q e).1)
           go_wp2_with fail
           refine (inlinks _ (.slice a9 D.length n9) D w7.heap.size AO.out.2.1.l (by have:=BD.out;omega)).mono ?_
           rintro e wB ⟨rfl,D2,hp2,hs2,R9,f9⟩
           have Q9:=hid4 R9 f9 hp2 hs2
           clear R9 f9 hp2 hs2 c9
           have TZ:=Lib.hid (AO.out.2.1.t.fr Q9.out.2.1 AO.out.2.1.n9)
           have RZ:=Lib.hid ((RB7.out.fr AO.out.2.1.f (by omega)).fr Q9.out.2.1 (fun q=>by have:=O9.out _ q;have:=LT.out;omega))
           obtain ⟨t0,t1,t2,t3,t4,t5,t6,t7,t8,t9⟩:=TZ.out.ten;have tl:=TZ.out.lt;obtain ⟨r0,r1,r2,r3,r4,r5,r6,r7,r8,r9⟩:=RZ.out.ten;obtain ⟨z0,z1,z2,z3,z4,z5,z6,z7,z8,z9⟩:=RZ.out.tenf;have rl:=RZ.out.lt
           go_wp2_with fail
           refine bodyPost_ret (v:=toldVal { links:=sortL (G.st.ls.map (SL.low G.dir)) } (.slice none 0 0) (.slice none 0 0) (.slice a9 D.length n9)) (by simp [results,Tryz.results39,go_sem, *]) rfl ⟨_,rfl,?_,?_⟩
           · rw [← edg_told HR.out HE.out.perm DM.out Q9.out.2.2.1 Q9.out.2.2.2]
             have hT:=fun (wZ:World) (fz:Fr (fun k=>k=w.heap.size+1+1∨k=w.heap.size+1+1+1) wB wZ)=>Lst.told AO.out.2.1 (Fr.refl _ _) Q9.out.2.1 (by simpa [sortK] using Reads.nil wo) Q9.out.1 Q9.out.2.2.1 (p:=fun q=>w.heap.size≤q) fz (fun q h1 _ h2=>by have:=LT.out;omega) (fun q h1=>by have:=LT.out;omega)
             exact ⟨_,_,_,rfl,PairsAt.nil _ _,KeysAt.nil _ _,(hT _ (fr_ten _ _ _ _ _ _ _ _ _ _ _ _ _)).2⟩
           · refine GStep.fin HG.out FW.out (GStep.refl HR.out (Fr.refl _ _)) (S:=fun k=>k=w.heap.size+1+1∨k=w.heap.size+1+1+1) (((FT.out.trans AO.out.2.1.f fun _ q=>.inl (.inr q)).trans Q9.out.2.1 fun k q=>.inr (by have h1:=O9.out k q;have h2:=Z7.out;have h3:=HE.out.fr.size;omega)).trans (fr_ten _ _ _ _ _ _ _ _ _ _ _ _ _) fun _ q=>.inl q) fun k q=>by have:=SZ.out;omega
end Go.Proofs.YtbafaadmlpamiaaGreatDoor
