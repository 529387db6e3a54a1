import Derived.Test.YtbafaadmlpamiaaGreatDoorT4
import Derived.Test.YtbafaadmlpamiaaGreatDoorT1
import Derived.Test.YtbafaadmlpamiaaGreatDoorC1
import Derived.Test.YtbafaadmlpamiaaGreatDoorT5
namespace Go.Proofs.YtbafaadmlpamiaaGreatDoor
open Go Go.Hy Go.RowKit
theorem mdAdj (v : Value) (w : World) : (Go.method 419 162 v "AdjacencyMap").run Tryz.prog w = .ok (177, v) w := by kernel_rfl
theorem muAdj (v : Value) (w : World) : (Go.method 419 164 v "AdjacencyMap").run Tryz.prog w = .ok (202, v) w := by kernel_rfl
theorem mdPred (v : Value) (w : World) : (Go.method 419 162 v "PredecessorMap").run Tryz.prog w = .ok (182, v) w := by kernel_rfl
theorem muPred (v : Value) (w : World) : (Go.method 419 164 v "PredecessorMap").run Tryz.prog w = .ok (207, v) w := by kernel_rfl
theorem info65:(Tryz.prog.info? 65).map (fun i=>(i.zero,i.size,i.bytes))=some (some (.agg #[.string ⟨#[]⟩,.string ⟨#[]⟩,.int .i64 0,.slice none 0 0]),4,64):=by kernel_rfl
structure S9 (tb eb at_:Nat) (v9:Value) (wt:Int) (w:World):Prop where
 c9:w.cell? ⟨tb,9,none⟩=some v9
 e2:w.cell? ⟨eb,2,none⟩=some (.map (some at_))
 e3:w.cell? ⟨eb,3,none⟩=some (.int .i64 wt)
 lt:tb < w.heap.size
 le:eb < w.heap.size
theorem S9.out {tb eb at_:Nat} {v9:Value} {wt:Int} {w:World} (h:S9 tb eb at_ v9 wt w):w.cell? ⟨tb,9,none⟩=some v9∧w.cell? ⟨eb,2,none⟩=some (.map (some at_))∧w.cell? ⟨eb,3,none⟩=some (.int .i64 wt):=⟨h.c9,h.e2,h.e3⟩
theorem S9.fr {tb eb at_:Nat} {v9:Value} {wt:Int} {w w':World} (h:S9 tb eb at_ v9 wt w) (f:Fr0 w w'):S9 tb eb at_ v9 wt w' :=
 ⟨(f.cell (p:=⟨tb,9,none⟩) h.lt (fun q=>q)).trans h.c9,(f.cell (p:=⟨eb,2,none⟩) h.le (fun q=>q)).trans h.e2,(f.cell (p:=⟨eb,3,none⟩) h.le (fun q=>q)).trans h.e3,Nat.lt_of_lt_of_le h.lt f.size,Nat.lt_of_lt_of_le h.le f.size⟩
theorem S9.fr' {S:Nat→Prop} {tb eb at_:Nat} {v9:Value} {wt:Int} {w w':World} (h:S9 tb eb at_ v9 wt w) (f:Fr S w w') (h1:¬ S tb) (h2:¬ S eb):S9 tb eb at_ v9 wt w' :=
 ⟨(f.cell (p:=⟨tb,9,none⟩) h.lt h1).trans h.c9,(f.cell (p:=⟨eb,2,none⟩) h.le h2).trans h.e2,(f.cell (p:=⟨eb,3,none⟩) h.le h2).trans h.e3,Nat.lt_of_lt_of_le h.lt f.size,Nat.lt_of_lt_of_le h.le f.size⟩
def Maps (G:GS) (w:World) (turn:Bool) (F:Nat):Prop :=
 ∀ w',Fr0 w w'→Calls Tryz.prog F #[.pointer (some ⟨G.gB,0,none⟩)] w' fun e w2=>∃ B l inn,e=.returned (.tuple #[.map (some B),.nilIface])∧AdjM w' w2 G turn B l inn
set_option maxHeartbeats 4000000 in
set_option maxRecDepth 100000 in
set_option linter.unusedSimpArgs false in
theorem step9w (w:World) (G:GS) (h:GRep w G) (T:TypeId) (op:Nat) (turn:Bool) (b0 b1 b2 b3 b4 b5:Bool) (hk:Nat) (a b:ByteArray) (wt:Int) (ao:Option Addr) (n cap:Nat) (prs:List (ByteArray × ByteArray)) (hp:PrOk w ao n cap prs)
   (hes:∀ l∈G.lks,l.es.length≤1000000) (hbp:G.pts.length≤400000) (hbl:G.lks.length≤400000)
   (HC:(T=162∧op=9∧Maps G w turn 177)∨(T=162∧op=10∧Maps G w turn 182)∨(T=164∧op=9∧Maps G w turn 202)∨(T=164∧op=10∧Maps G w turn 207)) :
   Calls Tryz.prog 39 #[.iface T (.pointer (some ⟨G.gB,0,none⟩)),kagg b0 b1 b2 b3 b4 b5 hk,doV op a b wt ao n cap] w fun e w'=>∃ v,e=.returned v∧ToldAt w' w.heap.size v { keys:=sortK G.st.keys,links:=sortL (G.st.both turn) }∧GStep w G w' G:=by
 have HC5:=Lib.hid HC
 have HS:=Lib.hid hes
 have HB:=hid2 hbp hbl
 clear HC hes hbp hbl
 have mA1:=mdAdj
 have mA2:=mdPred
 have mA3:=muAdj
 have mA4:=muPred
 obtain ⟨hn,hcap,hsm,hat⟩:=hp
 have P:=Lib.hid hat
 have HG:=Lib.hid h
 subst hn
 clear hat h
 go_enter Tryz.func39,Tryz.ntmps39
 go_wp2_with (first
   | (go_at_call 64;refine (ew _ wt).mono ?_;rintro e w1 ⟨rfl,rfl⟩)
   | (go_at_call 65;refine (vw _ wt).mono ?_;rintro e w1 ⟨rfl,rfl⟩))
 try go_frame
 go_loopg [8,9,45] prs.length (fun k v8 v9 c wr=>DL (stepW w b0 b1 b2 b3 b4 b5 hk op a b wt ao prs.length cap) wt prs k v8 v9 c wr)
 case atStart =>
   have:=DL.start (wB:=stepW w b0 b1 b2 b3 b4 b5 hk op a b wt ao prs.length cap) wt prs
   have zz:(stepW w b0 b1 b2 b3 b4 b5 hk op a b wt ao prs.length cap).heap.size=w.heap.size+1+1+1+1:=by simp [stepW]
   rw [zz] at this
   exact this
 case round =>
   obtain ⟨i,oE,oV,hk',rfl,hE,hV,lE,lV,aE,aV,hap,f⟩:=hrel
   have A:=hid9 hk' hE hV lE lV aE aV hap f
   clear hk' hE hV lE lV aE aV hap f
   by_cases hi:i < prs.length
   · have hg:=List.getElem?_eq_getElem hi
     obtain ⟨ob,rfl,hob,p0,p1⟩:=P.out i _ hg
     have FW:=Lib.hid (show Fr0 w wr from (show Fr0 w (stepW w b0 b1 b2 b3 b4 b5 hk op a b wt (some ⟨ob,0,none⟩) prs.length cap) from by unfold stepW;((repeat' with_reducible first|assumption|exact frR|apply frD|apply frN|apply frA|apply frM|apply frC);all_goals (simp;try omega))).trans0 A.out.2.2.2.2.2.2.2.2)
     have q0:=(FW.out.cell (p:=⟨ob,i * 2,none⟩) hob (fun q=>q)).trans p0
     have q1:=(FW.out.cell (p:=⟨ob,i * 2+1,none⟩) hob (fun q=>q)).trans p1
     have HGI:=Lib.hid hg
     generalize prs[i]=pr at q0 q1 HGI
     clear p0 p1 hg
     go_wp2_with fail
     refine (ea _ pr.1 pr.2).mono ?_
     rintro e w1 ⟨rfl,hw1⟩
     have OK1:=Lib.hid (optE hw1)
     clear hw1
     go_wp2_with (first
       | (at_builtin;refine wl_app1 (w:=w1) 124 rfl (.tmp 49) (.tmp 55) rfl 122 _ 1 8 Tryz.underlying124 info122 rfl (by decide) (by decide) _ u8 oE.length (oE.map Opt.eV) rfl (A.out.2.1.fr0 OK1.out.1).own #[(Opt.at_ pr.1 pr.2 (wr.heap.size+1+1) (wr.heap.size+1)).eV] w1.heap.size rfl rfl rfl (by simp [Value.oneCell',Opt.eV]) (by have:=A.out.2.2.2.1;omega) (by have h1:=A.out.2.2.2.2.2.2.2.2.size;have h2:=OK1.out.1.size;omega) ?_))
     intro v8' w2 ho8 g8 _
     have hw1:=OK1.out.1.size
     have pb2:Cells w2 wr.heap.size #[.string pr.1,.string pr.2] 68:=OK1.out.2.2.fr g8 (fun q=>by have:=(A.out.2.1.own.lt _ q).2;omega)
     have e0:=pb2.cell 0 _ rfl
     have e1:=pb2.cell 1 _ rfl
     have el:=pb2.lt
     have OK2:=hid2 ho8 g8
     clear ho8 g8 pb2
     go_wp2_with fail
     refine (va _ pr.1 pr.2).mono ?_
     rintro e w3 ⟨rfl,hw3⟩
     have OK3:=Lib.hid (optV hw3)
     have V2:=Lib.hid (show w3.ownsRow (stepW w b0 b1 b2 b3 b4 b5 hk op a b wt (some ⟨ob,0,none⟩) prs.length cap).heap.size 125 1 u9 oV.length (oV.map Opt.vV) from
       ownsRow_fr (ownsRow_fr (A.out.2.2.1.fr0 OK1.out.1).own OK2.out.2 fun q hq=>own_type (A.out.2.2.1.fr0 OK1.out.1).own (A.out.2.1.fr0 OK1.out.1).own (by decide) q hq) OK3.out.1 fun _ _ q=>q)
     clear hw3
     go_wp2_with (first
       | (at_builtin;refine wl_app1 (w:=w3) 127 rfl (.tmp 57) (.tmp 63) rfl 125 _ 1 8 Tryz.underlying127 info125 rfl (by decide) (by decide) _ u9 oV.length (oV.map Opt.vV) rfl V2.out #[(Opt.at_ pr.1 pr.2 (w2.heap.size+1) w2.heap.size).vV] w3.heap.size rfl rfl rfl (by simp [Value.oneCell',Opt.vV]) (by have:=A.out.2.2.2.2.1;omega) (by have h1:=A.out.2.2.2.2.2.2.2.2.size;have h2:=OK3.out.1.size;have h3:=OK2.out.2.size;omega) ?_))
     intro v9' w4 ho9 g9 _
     have OK4:=hid2 ho9 g9
     clear ho9 g9
     go_wp2_with fail
     obtain ⟨hk',hE,hV,lE,lV,aE,aV,hap,f⟩:=A.out
     have R:=DL.step hk' hi HGI.out hE hV lE lV aE aV f OK1.out.1 OK1.out.2.1 OK2.out.1 OK2.out.2 OK3.out.1 OK3.out.2 OK4.out.1 OK4.out.2
     go_roundg (gk - 1)
     case measure=>exact R.1
     case rel=>exact R.2
   · have hi':i=prs.length:=by have:=A.out.1;omega
     subst hi'
     have SBB:=stepB A.out.2.2.2.2.2.2.2.2
     have FW:=Lib.hid SBB.1
     have sB:=SBB.2.1
     have s0:=sB.cell 0 _ rfl
     have s1:=sB.cell 1 _ rfl
     have s2:=sB.cell 2 _ rfl
     have sl:=sB.lt
     have TB:=Lib.hid SBB.2.2.2
     have RB:=Lib.hid SBB.2.2.1
     clear sB SBB
     obtain ⟨wp,rfl⟩ : ∃ wp:World,wp=wr:=⟨_,rfl⟩
     have HT:=Lib.hid (show ∀ k,k∈G.own→k < w.heap.size from HG.out.lt)
     have HR:=Lib.hid (HG.out.fr FW.out (fun _ _ q=>q) (fun q=>q))
     have szr:=A.out.2.2.2.2.2.2.2.2.size
     have szw:(stepW w b0 b1 b2 b3 b4 b5 hk op a b wt ao prs.length cap).heap.size=w.heap.size+1+1+1+1:=by simp [stepW]
     have SZ:=Lib.hid (show w.heap.size+4≤wp.heap.size from by omega)
     clear szr szw
     have HD:=HC5.out
     clear HC5
     rcases HD with HD|HD|HD|HD
     all_goals
       obtain ⟨e1,e2,HC⟩:=HD
       subst e1 e2
       have HC5:=Lib.hid HC
       clear HC
       go_wp2_with fail
       refine (HC5.out wp FW.out).mono ?_
       rintro e w5 ⟨B,l,inn,rfl,hA⟩
       have HA:=Lib.hid hA
       clear hA
       go_wp2_with fail
       refine (errorof_nil _).mono ?_
       rintro e w6 ⟨rfl,f6⟩
       have F6:=Lib.hid (show Fr0 w5 w6 from f6)
       clear f6
       have TB6:=Lib.hid ((TB.out.fr HA.out.fr (fun q=>q)).fr F6.out (fun q=>q))
       have RB6:=Lib.hid ((RB.out.fr HA.out.fr (fun q=>q)).fr F6.out (fun q=>q))
       have y0:=TB6.out.free 0
       have t0:=TB6.out.cell 0 _ rfl
       have tl:=TB6.out.lt
       have F7:=Lib.hid ((Fr.refl (· = w.heap.size+1+1+1) w6).setCell (p:=⟨w.heap.size+1+1+1,0,none⟩) (.inl rfl) (.int .u8 0))
       have TB7:=Lib.hid (show Cells (w6.setCell ⟨w.heap.size+1+1+1,0,none⟩ (.int .u8 0)) (w.heap.size+1+1+1) (tKL (.slice none 0 0) (.slice none 0 0)) 44 from cells_set TB6.out 0 (.int .u8 0))
       have RB7:=Lib.hid (RB6.out.fr F7.out (by omega))
       have LB:=Lib.hid (show (wp.heap.size≤B∧B < w5.heap.size)∧∀ x∈l,wp.heap.size≤x.2∧x.2 < w5.heap.size from ⟨⟨HA.out.new.1,HA.out.side.m.lt⟩,fun x hx=>⟨HA.out.new.2 x hx,(HA.out.side.e x hx).lt⟩⟩)
       have SX:=Lib.hid (show ∀ x∈l,SM (w6.setCell ⟨w.heap.size+1+1+1,0,none⟩ (.int .u8 0)) x.2 (inn x.2) from fun x hx=>((HA.out.side.e x hx).fr F6.out (fun q=>q)).fr F7.out (by have:=(LB.out.2 x hx).1;have:=SZ.out;omega))
       have SE:=Lib.hid (show ∀ e∈G.lks,e.at_ < w.heap.size∧SM (w6.setCell ⟨w.heap.size+1+1+1,0,none⟩ (.int .u8 0)) e.at_ (ats e.es) from fun e he=>by
         have h1:=HT.out e.at_ (by simp only [GS.own,List.mem_cons,List.mem_append,List.mem_map];exact .inr (.inr (.inr (.inr (.inr ⟨e,he,rfl⟩)))))
         exact ⟨h1,(((HR.out.la e he).fr HA.out.fr (fun q=>q)).fr F6.out (fun q=>q)).fr F7.out (by omega)⟩)
       have SB:=Lib.hid (show SM (w6.setCell ⟨w.heap.size+1+1+1,0,none⟩ (.int .u8 0)) B (mp l) from (HA.out.side.m.fr F6.out (fun q=>q)).fr F7.out (by have:=LB.out.1.1;have:=SZ.out;omega))
       have FT:=Lib.hid (show Fr (fun k=>k=w.heap.size+1+1∨k=w.heap.size+1+1+1) wp (w6.setCell ⟨w.heap.size+1+1+1,0,none⟩ (.int .u8 0)) from ((HA.out.fr.trans0 F6.out).mono fun _ q=>q.elim).trans F7.out fun _ q=>.inl (.inr q))
       have Z7:=Lib.hid (show w5.heap.size≤(w6.setCell ⟨w.heap.size+1+1+1,0,none⟩ (.int .u8 0)).heap.size from Nat.le_trans F6.out.size F7.out.size)
       go_wp2_with (first
         | (at_range;refine wl_range 152 9 154 Tryz.underlying152 rfl (.tmp 264) rfl SB.out rfl ?_;intro ob w8 hw8 sm8 it8))
       clear y0 t0 tl
       generalize w6.setCell ⟨w.heap.size+1+1+1,0,none⟩ (.int .u8 0)=w7 at *
       have LT:=Lib.hid (show w.heap.size+1+1+1 < w7.heap.size from TB7.out.lt)
       try go_frame
       go_loopg [28] l.length (fun k _ wx=>OutL w7 G turn B w7.heap.size (w7.heap.size+1) (w.heap.size+1+1+1) l inn k wx)
       case atStart =>
         subst hw8
         exact ⟨[],l,[],.slice none 0 0,.slice none 0 0,rfl,List.Perm.refl _,it8,⟨TB7.out.alloc _,World.ownsRow_nil _ _ _ _,World.ownsRow_nil _ _ _ _,(fun d hd=>by cases hd),(Fr.refl _ _).alloc _,LT.out,Nat.le_succ _⟩,List.Perm.refl _,(fun d hd=>by cases hd)⟩
       case round =>
         obtain ⟨done,rem,D,v8,v9,hk',hp',hit,hL,hky,hlk⟩:=hrel
         obtain ⟨wo,rfl⟩ : ∃ wo:World,wo=wr:=⟨_,rfl⟩
         obtain ⟨ko,rfl⟩ : ∃ ko:Nat,ko=gk:=⟨_,rfl⟩
         obtain ⟨a8,n8,rfl, -, -⟩:=own_slice (show wo.ownsRow (w7.heap.size+1) 9 1 v8 done.length ((done.map (·.1)).map .string) by have:=hL.k;rwa [List.length_map] at this)
         obtain ⟨a9,n9,rfl, -, -⟩:=own_slice hL.l
         have AO:=hid6 hk' hp' hit hL hky hlk
         have BD:=Lib.hid (show D.length+(kys inn rem).length≤800000∧done.length≤400000 from by
           have h1:=HA.out.bound HR.out HB.out.2
           have h2:=(kys_perm (inn:=inn) hp').length_eq
           rw [kys_append,List.length_append] at h2
           have h3:=hky.length_eq
           rw [List.length_map] at h3
           have h4:=hp'.length_eq
           rw [List.length_append] at h4
           have h5:=HA.out.keys.length_eq
           simp only [List.length_map] at h5
           have h6:=HB.out.1
           omega)
         clear hk' hp' hit hL hky hlk sm8 it8 hw8
         go_wp2_with (first
           | (at_next;refine wl_next rfl (.tmp 265) rfl w7.heap.size (mp rem) AO.out.2.2.1 rfl ?_ ?_))
         · intro hrem
           have hr0:rem = []:=by
             cases rem with
             | nil=>rfl
             | cons x rem=>simp [mp] at hrem
           subst hr0
           clear hrem
           have c8:=AO.out.2.2.2.1.t.cell 8 _ rfl
           have c9:=AO.out.2.2.2.1.t.cell 9 _ rfl
           go_wp2_with fail
           refine (sortstrs _ (.slice a8 done.length n8) (done.map fun x=>x.1) (w7.heap.size+1) AO.out.2.2.2.1.k (by rw [List.length_map];have:=BD.out.2;omega)).mono ?_
           rintro e wA ⟨rfl,R8,f8⟩
           have tA:=AO.out.2.2.2.1.t.fr f8 AO.out.2.2.2.1.n8
           have c9:=tA.cell 9 _ rfl
           have Q8:=hid2 R8 f8
           clear R8 f8 tA c8
           go_wp2_with fail
           refine (inlinks _ (.slice a9 D.length n9) D (w7.heap.size+1) (ownsRow_fr AO.out.2.2.2.1.l Q8.out.2 (fun q h1 h2=>AO.out.2.2.2.1.n89 q h2 h1)) (by have:=BD.out.1;omega)).mono ?_
           rintro e wB ⟨rfl,D2,hp2,hs2,R9,f9⟩
           have Q9:=hid4 R9 f9 hp2 hs2
           clear R9 f9 hp2 hs2 c9
           have O8:=Lib.hid (show ∀ q,(Value.slice a8 done.length n8).ownBlock=some q→w7.heap.size < q from fun q e=>(AO.out.2.2.2.1.k.lt q e).1)
           have O9:=Lib.hid (show ∀ q,(Value.slice a9 D.length n9).ownBlock=some q→w7.heap.size < q from fun q e=>(AO.out.2.2.2.1.l.lt q e).1)
           have FB:=Lib.hid (show Fr (fun k=>k=w.heap.size+1+1+1) w7 wB from (AO.out.2.2.2.1.f.trans Q8.out.2 fun q e=>.inr (by have:=O8.out q e;omega)).trans Q9.out.2.1 fun q e=>.inr (by have:=O9.out q e;omega))
           have SMB:=Lib.hid (SB.out.fr FB.out (by have:=LB.out.1.1;have:=SZ.out;omega))
           go_wp2_with (first
             | (at_range;refine wl_range 152 9 154 Tryz.underlying152 rfl (.tmp 305) rfl SMB.out rfl ?_;intro ob2 wC hwC smC itC))
           try go_frame
           go_loopg [32] l.length (fun k _ wx=>DelL wB B wB.heap.size l inn k wx)
           case atStart =>
             subst hwC
             exact ⟨l,mp l,rfl,itC,smC,fun x hx=>⟨hx,((SX.out x hx).fr FB.out (by have:=(LB.out.2 x hx).1;have:=SZ.out;omega)).alloc _⟩,HA.out.side.keys,(List.nodup_cons.1 HA.out.nd).2,(Fr.refl _ _).alloc _⟩
           case round =>
             obtain ⟨rd,es,hk',hit,hsm,hl,hn1,hn2,f⟩:=hrel
             have AD:=hid7 hk' hit hsm hl hn1 hn2 f
             clear hk' hit hsm hl hn1 hn2 f smC itC hwC
             go_wp2_with (first
               | (at_next;refine wl_next rfl (.tmp 306) rfl wB.heap.size (mp rd) AD.out.2.1 rfl ?_ ?_))
             · intro hrem
               clear hrem
               have hBs:=LB.out.1.1
               have hne:∀ k,(k=B∨k∈l.map (·.2))→wp.heap.size≤k∧k < w5.heap.size:=fun k hk=>by
                 rcases hk with rfl|hk
                 · exact LB.out.1
                 · obtain ⟨x,hx,rfl⟩:=List.mem_map.1 hk
                   exact LB.out.2 x hx
               have TZ:=Lib.hid (((AO.out.2.2.2.1.t.fr Q8.out.2 AO.out.2.2.2.1.n8).fr Q9.out.2.1 AO.out.2.2.2.1.n9).fr AD.out.2.2.2.2.2.2 (fun q=>by have:=(hne _ q).1;have:=SZ.out;omega))
               have RZ:=Lib.hid ((RB7.out.fr FB.out (by omega)).fr AD.out.2.2.2.2.2.2 (fun q=>by have:=(hne _ q).1;have:=SZ.out;omega))
               have NE:=Lib.hid hne
               clear hne hBs
               obtain ⟨t0,t1,t2,t3,t4,t5,t6,t7,t8,t9⟩:=TZ.out.ten;have tl:=TZ.out.lt;obtain ⟨r0,r1,r2,r3,r4,r5,r6,r7,r8,r9⟩:=RZ.out.ten;obtain ⟨z0,z1,z2,z3,z4,z5,z6,z7,z8,z9⟩:=RZ.out.tenf;have rl:=RZ.out.lt
               go_wp2_with fail
               refine bodyPost_ret (v:=toldVal { keys:=sortK G.st.keys,links:=sortL (G.st.both turn) } (.slice none 0 0) (.slice a8 done.length n8) (.slice a9 D.length n9)) (by simp [results,Tryz.results39,go_sem, *]) rfl ⟨_,rfl,?_,?_⟩
               · obtain ⟨e1,e2⟩:=maps_told HR.out HA.out (by have:=AO.out.2.1;rwa [List.append_nil] at this) AO.out.2.2.2.2.1 AO.out.2.2.2.2.2 Q9.out.2.2.1 Q9.out.2.2.2
                 rw [← e1,← e2]
                 have hT:=fun (wZ:World) (fz:Fr (fun k=>k=w.heap.size+1+1∨k=w.heap.size+1+1+1) wr wZ)=>Lst.told AO.out.2.2.2.1 Q8.out.2 Q9.out.2.1 Q8.out.1 Q9.out.1 Q9.out.2.2.1 (p:=fun q=>w.heap.size≤q) (S:=fun k=>(k=B∨k∈l.map (·.2))∨(k=w.heap.size+1+1∨k=w.heap.size+1+1+1)) ((AD.out.2.2.2.2.2.2.mono fun _ q=>.inl q).trans fz fun _ q=>.inl (.inr q)) (fun q h1 _ h2=>by
                   have h3:=Z7.out
                   have h4:=LT.out
                   rcases h2 with h2|h2
                   · have:=(NE.out q h2).2;omega
                   · omega) (fun q h1=>by have:=LT.out;omega)
                 exact ⟨_,_,_,rfl,PairsAt.nil _ _,(hT _ (fr_ten _ _ _ _ _ _ _ _ _ _ _ _ _)).1,(hT _ (fr_ten _ _ _ _ _ _ _ _ _ _ _ _ _)).2⟩
               · refine GStep.fin HG.out FW.out (GStep.refl HR.out (Fr.refl _ _)) (S:=fun k=>k=w.heap.size+1+1∨k=w.heap.size+1+1+1) (((FT.out.trans FB.out fun _ q=>.inl (.inr q)).trans AD.out.2.2.2.2.2.2 fun k q=>.inr (NE.out k q).1).trans (fr_ten _ _ _ _ _ _ _ _ _ _ _ _ _) fun _ q=>.inl q) fun k q=>by have:=SZ.out;omega
             · intro key v0 l1 l2 w3 hrem hit3 hu3 hen
               obtain ⟨q1,m,q2,e,rfl,rfl,rfl⟩:=mp_split hrem
               rw [mp_append] at hit3
               have hBl:∀ x∈l,x.2≠B:=fun x hx z=>(List.nodup_cons.1 HA.out.nd).1 (by rw [← z];exact List.mem_map.2 ⟨x,hx,rfl⟩)
               have hrl:∀ x∈l,x.2≠wB.heap.size:=fun x hx z=>by have h1:=(LB.out.2 x hx).2;have h2:=Z7.out;have h3:=FB.out.size;omega
               have hml:=(AD.out.2.2.2.1 (key,m) (by rw [e];simp)).1
               have SN:=Lib.hid ((AD.out.2.2.2.1 (key,m) (by rw [e];simp)).2.fr (Fr.of_upd hu3) (hrl _ hml))
               have SBf:=Lib.hid (show ∀ arr c,SM (setM w3 m arr c) B es∧IT (setM w3 m arr c) wB.heap.size B (mp (q1 ++ q2)) from fun arr c=>⟨((AD.out.2.2.1.fr (Fr.of_upd hu3) (fun z=>by have h1:=LB.out.1.2;have h2:=Z7.out;have h3:=FB.out.size;omega)).upd (Upd.setM w3 m arr c) (hBl _ hml).symm),hit3.upd (Upd.setM w3 m arr c) (hBl _ hml).symm (hrl _ hml).symm⟩)
               have HK:=Lib.hid (show ∀ p∈mp (q1 ++ q2),p.1≠key from fun p hp z=>by
                 have h1:=AD.out.2.2.2.2.1
                 rw [e] at h1
                 simp only [List.map_append,List.map_cons] at h1
                 have h2:=(List.perm_middle.nodup_iff).1 h1
                 simp only [List.nodup_cons] at h2
                 obtain ⟨x,hx,rfl⟩:=List.mem_map.1 hp
                 exact h2.1 (by rw [← List.map_append];exact List.mem_map.2 ⟨x,hx,z⟩))
               have BD2:=hid4 e hu3 hBl hrl
               clear hrem hit3 hu3 e hBl hrl hml
               go_wp2_with (first
                 | (at_delete;refine wl_delI 152 9 154 Tryz.underlying152 Tryz.underlying9 rfl (.tmp 313) (.tmp 314) rfl (SBf.out _ _).1 (SBf.out _ _).2 key HK.out rfl rfl ?_;intro arr2 c2 hm2 hi2)
                 | (refine wl_clear 154 9 144 Tryz.underlying154 rfl (.tmp 312) rfl SN.out rfl ?_;intro arr1 c1 hm1))
               have R:=DelL.step AD.out.1 AD.out.2.2.2.1 AD.out.2.2.2.2.1 AD.out.2.2.2.2.2.1 AD.out.2.2.2.2.2.2 BD2.out.1 (Nat.le_refl _) BD2.out.2.2.2 BD2.out.2.1 (Upd.setM w3 m arr1 c1) (Upd.setM _ B arr2 c2) hm2 hi2 BD2.out.2.2.1
               go_roundg (q1 ++ q2).length
               case measure=>exact R.1
               case rel=>exact R.2
         · intro key v0 l1 l2 w3 hrem hit3 hu3 hen
           obtain ⟨q1,m,q2,e,rfl,rfl,rfl⟩:=mp_split hrem
           rw [mp_append] at hit3
           have L3:=Lib.hid (AO.out.2.2.2.1.upd AO.out.2.2.1 hu3 (Nat.le_refl _))
           have BO:=hid2 e hit3
           have HM:=Lib.hid (show (key,m)∈l from AO.out.2.1.subset (by rw [e];simp))
           have c8:=L3.out.t.cell 8 _ rfl
           have c8f:=L3.out.t.free 8
           have tl:=L3.out.t.lt
           clear hrem hit3 hu3 e
           go_wp2_with (first
             | (at_builtin;go_loud (refine wl_app3 (w:=w3) 41 rfl (.tmp 272) (.tmp 274) rfl 9 _ 1 16 Tryz.underlying41 info9 rfl (by decide) (by decide) (w7.heap.size+1) (.slice a8 done.length n8) done.length ((done.map fun x=>x.1).map .string) rfl (by have:=L3.out.k;rwa [List.length_map] at this) #[.string key] w3.heap.size rfl rfl rfl (by simp [Value.oneCell']) (by have:=BD.out.2;omega) (by have:=L3.out.f.size;have:=BO.out.2.lt.1;omega) ?_)))
           intro v8' w4 ho8 fg8 hat8
           obtain ⟨ao8,cap8,rfl,_,_⟩:=own_slice ho8
           have C4:=hid3 ho8 fg8 hat8
           have t4:=L3.out.t.fr fg8 (fun q=>L3.out.n8 q)
           have d8f:=t4.free 8
           have d8:=t4.cell 8 _ rfl
           have tl4:=t4.lt
           clear ho8 fg8 hat8 c8 c8f tl t4
           have L5:=Lib.hid (Lst.key (key:=key) L3.out (by rw [List.length_map,List.map_map];exact C4.out.1) C4.out.2.1 C4.out.2.2 (Nat.le_succ _))
           have I5:=Lib.hid (IT.past (c:=8) (v':=.slice ao8 (done.length+1) cap8) (tb:=w.heap.size+1+1+1) BO.out.2 L3.out.k C4.out.2.1 (by have:=LB.out.1.1;have:=SZ.out;omega) (by have:=LT.out;omega))
           have SM5:=Lib.hid ((SX.out _ HM.out).fr L5.out.f (by have:=(LB.out.2 _ HM.out).1;have:=SZ.out;simp only at this ⊢;omega))
           go_wp2_with (first
             | (at_range;refine wl_range 154 9 144 Tryz.underlying154 rfl (.tmp 277) rfl SM5.out rfl ?_;intro ob6 w6' hw6 sm6 it6))
           clear d8f d8 tl4
           have zi:(w4.setCell ⟨w.heap.size+1+1+1,8,none⟩ (.slice ao8 (done.length+1) cap8)).heap.size=w4.heap.size:=by simp
           rw [zi] at it6
           generalize w4.setCell ⟨w.heap.size+1+1+1,8,none⟩ (.slice ao8 (done.length+1) cap8)=wi at *
           have ZI:=Lib.hid zi
           clear zi
           try go_frame
           go_loopg [30] (inn m).length (fun k _ wx=>InL w7 G turn B w7.heap.size w4.heap.size (w7.heap.size+1) (w.heap.size+1+1+1) m key (done.map (·.1) ++ [key]) D (.slice ao8 (done.length+1) cap8) (q1 ++ q2) inn k wx)
           case atStart =>
             subst hw6
             exact ⟨[],inn m,_,rfl,it6,I5.out.fr ((Fr.refl (fun _=>False) wi).alloc _) (fun q=>q) (fun q=>q),by rw [List.append_nil];exact (L5.out.to (fun q _ h=>by have:=ZI.out;omega)).fr0 ((Fr.refl _ _).alloc _),List.Perm.refl _,fun y hy=>hy,fun d hd=>by cases hd⟩
           case round =>
             obtain ⟨D',rem',v9i,hk',hit,hito,hL,hpm,hmm,hlk⟩:=hrel
             obtain ⟨a9i,n9i,rfl, -, -⟩:=own_slice (show wr.ownsRow (w7.heap.size+1) 65 4 v9i (D.length+D'.length) (encL encLnk (D ++ D')) by have:=hL.l;rwa [List.length_append] at this)
             have AI:=hid7 hk' hit hito hL hpm hmm hlk
             have BQ:=Lib.hid (show D.length+D'.length≤800000 from by
               have h1:=BD.out.1
               rw [BO.out.1,kys_append] at h1
               have h2:(kys inn ((key,m) :: q2)).length=(inn m).length+(kys inn q2).length:=by simp [kys]
               have h3:=hpm.length_eq
               simp only [List.length_append,List.length_map] at h1 h3
               omega)
             clear hk' hit hito hL hpm hmm hlk sm6 it6 hw6
             go_wp2_with (first
               | (at_next;refine wl_next rfl (.tmp 278) rfl w4.heap.size rem' AI.out.2.1 rfl ?_ ?_))
             · intro hrem
               have e0:=Lib.hid hrem
               clear hrem
               go_wp2_with fail
               go_roundg (q1 ++ q2).length
               case measure=>have h1:=AO.out.1;rw [BO.out.1] at h1;simp only [List.length_append,List.length_cons] at h1 ⊢;omega
               case rel =>
                 have h5:=AI.out.2.2.2.2.1
                 rw [e0.out] at h5
                 simp only [List.map_nil,List.append_nil] at h5
                 refine ⟨done ++ [(key,m)],q1 ++ q2,D ++ D',.slice ao8 (done.length+1) cap8,.slice a9i (D.length+D'.length) n9i,rfl,?_,AI.out.2.2.1,?_,?_,?_⟩
                 · refine List.Perm.trans ?_ AO.out.2.1
                   rw [BO.out.1,List.append_assoc]
                   exact List.Perm.append_left done (show (((key,m) :: (q1 ++ q2)).Perm (q1 ++ (key,m) :: q2)) from List.perm_middle.symm)
                 · have:=AI.out.2.2.2.1.to (r':=w7.heap.size) (fun q h _=>by omega)
                   simpa using this
                 · rw [List.map_append,kys_append]
                   refine AO.out.2.2.2.2.1.append (h5.trans (List.Perm.of_eq ?_))
                   unfold kys
                   simp
                 · intro d hd
                   rcases List.mem_append.1 hd with q|q
                   · exact AO.out.2.2.2.2.2 d q
                   · exact AI.out.2.2.2.2.2.2 d q
             · intro y v l1 l2 w3i hrem hit3 hu3 hen
               obtain ⟨e,he,⟨p,q,rfl⟩,hlko⟩:=HA.out.entry2 HM.out (AI.out.2.2.2.2.2.1 (y,v) (by rw [hrem];simp))
               have LE:=Lib.hid (AI.out.2.2.2.1.upd AI.out.2.1 hu3 (by have:=L5.out.f.size;have:=ZI.out;omega))
               have BI:=hid5 hrem hit3 (AI.out.2.2.1.upd hu3 (by have h1:=L5.out.f.size;have h2:=LB.out.1.2;have h3:=Z7.out;have h4:=ZI.out;omega) (by have:=I5.out.lt.1;have:=ZI.out;omega)) he hlko
               clear hrem hit3 hu3 he hlko
               have LX:=Lib.hid (LE.out.fr0 ((Fr.refl (fun _=>False) w3i).alloc (.cells #[.string p,.string q,.map (some e.at_),.int .i64 e.wt,.nilIface] 144)))
               have EB:=Lib.hid (Cells.new w3i #[.string p,.string q,.map (some e.at_),.int .i64 e.wt,.nilIface] 144)
               have SX3:=Lib.hid (show SM (w3i.alloc (.cells #[.string p,.string q,.map (some e.at_),.int .i64 e.wt,.nilIface] 144)) e.at_ (ats e.es) from (SE.out e BI.out.2.2.2.1).2.fr LX.out.f (by have:=(SE.out e BI.out.2.2.2.1).1;omega))
               have J1:=Lib.hid (BI.out.2.1.fr ((Fr.refl (fun _=>False) w3i).alloc (.cells #[.string p,.string q,.map (some e.at_),.int .i64 e.wt,.nilIface] 144)) (fun q=>q) (fun q=>q))
               have J2:=Lib.hid (BI.out.2.2.1.fr ((Fr.refl (fun _=>False) w3i).alloc (.cells #[.string p,.string q,.map (some e.at_),.int .i64 e.wt,.nilIface] 144)) (fun q=>q) (fun q=>q))
               have S3:=Lib.hid (show S9 (w.heap.size+1+1+1) w3i.heap.size e.at_ (.slice a9i (D.length+D'.length) n9i) e.wt (w3i.alloc (.cells #[.string p,.string q,.map (some e.at_),.int .i64 e.wt,.nilIface] 144)) from ⟨LX.out.t.cell 9 _ rfl,EB.out.cell 2 _ rfl,EB.out.cell 3 _ rfl,LX.out.t.lt,EB.out.lt⟩)
               have ZW:=Lib.hid (show (w3i.alloc (.cells #[.string p,.string q,.map (some e.at_),.int .i64 e.wt,.nilIface] 144)).heap.size=w3i.heap.size+1 by simp)
               go_wp2_with fail
               generalize w3i.alloc (.cells #[.string p,.string q,.map (some e.at_),.int .i64 e.wt,.nilIface] 144)=we at *
               refine OrdS.start (S:=S9 (w.heap.size+1+1+1) w3i.heap.size e.at_ (.slice a9i (D.length+D'.length) n9i) e.wt) (m:=15) (by kernel_rfl) ?_
               have hHeld:=S3.out.fr (show Fr0 we we.drew from by ((repeat' with_reducible first|assumption|exact frR|apply frD|apply frN|apply frA|apply frM|apply frC);all_goals (simp;try omega)))
               (refine OrdS.tq (i:=0) (v:=?_) rfl (by kernel_rfl) (fun _ _ _ h=>h) (by rfl) hHeld ?_ ?_;rotate_left;focus (intro w' hSw;replace hSw:=hSw.out;go_simp;try with_reducible rfl);(try simp only [Act.put,lA,lZ,lS]))
               (refine OrdS.tq (i:=1) (v:=?_) rfl (by kernel_rfl) (fun _ _ _ h=>h) (by rfl) hHeld ?_ ?_;rotate_left;focus (intro w' hSw;replace hSw:=hSw.out;go_simp;try with_reducible rfl);(try simp only [Act.put,lA,lZ,lS]))
               (refine OrdS.tq (i:=2) (v:=?_) rfl (by kernel_rfl) (fun _ _ _ h=>h) (by rfl) hHeld ?_ ?_;rotate_left;focus (intro w' hSw;replace hSw:=hSw.out;go_simp;try with_reducible rfl);(try simp only [Act.put,lA,lZ,lS]))
               (refine OrdS.tq (i:=3) (v:=?_) rfl (by kernel_rfl) (fun _ _ _ h=>h) (by rfl) hHeld ?_ ?_;rotate_left;focus (intro w' hSw;replace hSw:=hSw.out;go_simp;try with_reducible rfl);(try simp only [Act.put,lA,lZ,lS]))
               (refine OrdS.tq (i:=4) (v:=?_) rfl (by kernel_rfl) (fun _ _ _ h=>h) (by rfl) hHeld ?_ ?_;rotate_left;focus (intro w' hSw;replace hSw:=hSw.out;go_simp;try with_reducible rfl);(try simp only [Act.put,lA,lZ,lS]))
               (refine OrdS.tq (i:=5) (v:=?_) rfl (by kernel_rfl) (fun _ _ _ h=>h) (by rfl) hHeld ?_ ?_;rotate_left;focus (intro w' hSw;replace hSw:=hSw.out;go_simp;try with_reducible rfl);(try simp only [Act.put,lA,lZ,lS]))
               (refine OrdS.tq (i:=6) (v:=?_) rfl (by kernel_rfl) (fun _ _ _ h=>h) (by rfl) hHeld ?_ ?_;rotate_left;focus (intro w' hSw;replace hSw:=hSw.out;go_simp;try with_reducible rfl);(try simp only [Act.put,lA,lZ,lS]))
               (refine OrdS.tq (i:=7) (v:=?_) rfl (by kernel_rfl) (fun _ _ _ h=>h) (by rfl) hHeld ?_ ?_;rotate_left;focus (intro w' hSw;replace hSw:=hSw.out;go_simp;try with_reducible rfl);(try simp only [Act.put,lA,lZ,lS]))
               (refine OrdS.tq (i:=8) (v:=?_) rfl (by kernel_rfl) (fun _ _ _ h=>h) (by rfl) hHeld ?_ ?_;rotate_left;focus (intro w' hSw;replace hSw:=hSw.out;go_simp;try with_reducible rfl);(try simp only [Act.put,lA,lZ,lS]))
               (refine OrdS.tq (i:=9) (v:=?_) rfl (by kernel_rfl) (fun _ _ _ h=>h) (by rfl) hHeld ?_ ?_;rotate_left;focus (intro w' hSw;replace hSw:=hSw.out;go_simp;try with_reducible rfl);(try simp only [Act.put,lA,lZ,lS]))
               (refine OrdS.one (i:=10) rfl (by kernel_rfl) ?_;intro K hK)
               go_simp
               go_at_call 69
               refine (pairsof' _ e.at_ e.es (SX3.out.fr (show Fr0 we _ from by ((repeat' with_reducible first|assumption|exact frR|apply frD|apply frN|apply frA|apply frM|apply frC);all_goals (simp;try omega))) (fun q=>q)) (HS.out e BI.out.2.2.2.1)).mono ?_
               rintro ex w23 ⟨ao23,cap23,rfl,h23,f23⟩
               have P23:=Lib.hid h23
               have G23:=Lib.hid (show Fr0 we w23 from Fr.trans0 (by ((repeat' with_reducible first|assumption|exact frR|apply frD|apply frN|apply frA|apply frM|apply frC);all_goals (simp;try omega))) f23)
               clear f23 h23
               dsimp only
               refine hK.out _ _ (fun _=>S3.out.fr G23.out) ?_
               clear hK K
               (try simp only [Act.put,lA,lZ,lS])
               have hHeld:=S3.out.fr G23.out
               (refine OrdS.tq (i:=11) (v:=?_) rfl (by kernel_rfl) (fun _ _ _ h=>h) (by rfl) hHeld ?_ ?_;rotate_left;focus (intro w' hSw;replace hSw:=hSw.out;go_simp;try with_reducible rfl);(try simp only [Act.put,lA,lZ,lS]))
               (refine OrdS.one (i:=12) rfl (by kernel_rfl) ?_;intro K hK)
               go_simp
               refine hK.out _ _ (fun _=>S3.out.fr (show Fr0 we _ from by have f:=G23.out;((repeat' with_reducible first|assumption|exact frR|apply frD|apply frN|apply frA|apply frM|apply frC);all_goals (simp;try omega)))) ?_
               clear hK K hHeld
               (try simp only [Act.put,lA,lZ,lS])
               (refine OrdS.one (i:=13) rfl (by kernel_rfl) ?_;intro K hK)
               refine step_appG 42 (by rfl) (.tmp 285) (.tmp 296) (by rfl) 65 _ 4 64 Tryz.underlying42 info65 rfl (by decide) (by decide) (w7.heap.size+1) (.slice a9i (D.length+D'.length) n9i) (D.length+D'.length) (encL encLnk (D ++ D')) (by rfl) (by have:=ownsRow_fr (ownsRow_fr LX.out.l G23.out (fun _ _ q=>q)) ((Fr.refl (fun _=>False) w23).alloc (.cells #[.string key,.string y,.int .i64 e.wt,.slice ao23 (byK e.es).length cap23] 65)) (fun _ _ q=>q);rwa [List.length_append] at this) (.slice (some ⟨w23.heap.size,0,none⟩) 1 1) 1 [.string key,.string y,.int .i64 e.wt,.slice ao23 (byK e.es).length cap23] (by rfl) (yields_own (own_of_block (heap_alloc_new _ _) rfl)) rfl (by intro u hu;simp only [List.mem_cons,List.not_mem_nil,or_false] at hu;rcases hu with rfl|rfl|rfl|rfl <;> rfl) (by have:=BQ.out;omega) (by have:=G23.out.size;have:=LX.out.f.size;simp;omega) ?_
               intro v63 w63 ho63 f63 hat63
               obtain ⟨ao63,cap63,rfl, -, -⟩:=own_slice ho63
               have G63:=Lib.hid (show Fr (fun k=>(Value.slice a9i (D.length+D'.length) n9i).ownBlock=some k) w23 w63 from Fr.trans (show Fr _ w23 _ from by ((repeat' with_reducible first|assumption|exact frR|apply frD|apply frN|apply frA|apply frM|apply frC);all_goals (simp;try omega))) f63 (fun q hq=>.inl hq))
               have L9:=Lib.hid (show S9 (w.heap.size+1+1+1) w3i.heap.size e.at_ (.slice a9i (D.length+D'.length) n9i) e.wt w63 from (S3.out.fr G23.out).fr' G63.out LX.out.n9 (fun q=>by have:=(LE.out.l.lt _ q).2;omega))
               have c9:=L9.out.c9
               have c9f:=((LX.out.t.fr G23.out (fun q=>q)).fr G63.out LX.out.n9).free 9
               have tl9:=L9.out.lt
               have Q63:=hid3 ho63 f63 hat63
               clear ho63 f63 hat63
               refine hK.out _ _ (fun _=>L9.out) ?_
               clear hK K
               (try simp only [Act.put,lA,lZ,lS])
               (refine OrdS.one (i:=14) rfl (by kernel_rfl) ?_;intro K hK)
               go_simp
               refine hK.out _ _ (fun _=>L9.out) ?_
               clear hK K
               (try simp only [Act.put,lA,lZ,lS])
               (refine OrdS.one (i:=15) rfl (by kernel_rfl) ?_;intro K hK)
               go_simp
               refine hK.out _ _ (fun h=>absurd (show true=false from h) (by decide)) ?_
               clear hK K
               (try simp only [Act.put,lA,lZ,lS])
               refine OrdS.done (by kernel_rfl) ?_
               have PA:=Lib.hid (PairsAt.low (lo':=we.heap.size) P23.out (Nat.le_refl _))
               have LN:=Lib.hid (Lst.link (d:=(⟨key,y,e.wt,byK e.es⟩,ao23,(byK e.es).length,cap23)) LX.out (by rw [List.length_append];exact Q63.out.1) (G23.out.alloc _) (PairsIn.fr PA.out ((Fr.refl (fun _=>False) w23).alloc _) (fun _ _ _ q=>q)) (Nat.le_refl _) (by have:=J1.out.lt.1;omega) (by have:=LX.out.f.size;have:=ZW.out;have:=J2.out.lt.1;omega) Q63.out.2.1 Q63.out.2.2 (Nat.le_refl _))
               have K1:=Lib.hid (IT.past (tb:=w.heap.size+1+1+1) (c:=9) (v':=.slice ao63 (D.length+D'.length+1) cap63) (J1.out.fr (G23.out.alloc (.cells #[.string key,.string y,.int .i64 e.wt,.slice ao23 (byK e.es).length cap23] 65)) (fun q=>q) (fun q=>q)) (ownsRow_fr LX.out.l (G23.out.alloc _) (fun _ _ q=>q)) Q63.out.2.1 (by have h:wp.heap.size≤m:=(LB.out.2 _ HM.out).1;have:=SZ.out;omega) (by have:=ZI.out;have:=L5.out.f.size;have:=LT.out;omega))
               have K2:=Lib.hid (IT.past (tb:=w.heap.size+1+1+1) (c:=9) (v':=.slice ao63 (D.length+D'.length+1) cap63) (J2.out.fr (G23.out.alloc (.cells #[.string key,.string y,.int .i64 e.wt,.slice ao23 (byK e.es).length cap23] 65)) (fun q=>q) (fun q=>q)) (ownsRow_fr LX.out.l (G23.out.alloc _) (fun _ _ q=>q)) Q63.out.2.1 (by have:=LB.out.1.1;have:=SZ.out;omega) (by have:=LT.out;omega))
               go_wp2_with fail
               go_roundg (l1 ++ l2).length
               case measure=>have h1:=AI.out.1;rw [BI.out.1] at h1;simp only [List.length_append,List.length_cons] at h1 ⊢;omega
               case rel =>
                 refine ⟨D' ++ [(⟨key,y,e.wt,byK e.es⟩,ao23,(byK e.es).length,cap23)],l1 ++ l2,.slice ao63 (D.length+D'.length+1) cap63,rfl,K1.out,K2.out,by rw [← List.append_assoc];exact LN.out,?_,fun z hz=>AI.out.2.2.2.2.2.1 z ?_,?_⟩
                 · refine List.Perm.trans ?_ AI.out.2.2.2.2.1
                   rw [BI.out.1]
                   simp only [List.map_append,List.map_cons,List.map_nil,List.append_assoc]
                   exact List.Perm.append_left _ (show ((key,y) :: (l1.map (fun y=>(key,y.1)) ++ l2.map fun y=>(key,y.1))).Perm (l1.map (fun y=>(key,y.1)) ++ (key,y) :: l2.map fun y=>(key,y.1)) from List.perm_middle.symm)
                 · rw [BI.out.1]
                   simp only [List.mem_append,List.mem_cons] at hz ⊢
                   rcases hz with z|z
                   · exact .inl z
                   · exact .inr (.inr z)
                 · intro d hd
                   rcases List.mem_append.1 hd with z|z
                   · exact AI.out.2.2.2.2.2.2 d z
                   · simp only [List.mem_singleton] at z
                     subst z
                     exact BI.out.2.2.2.2
end Go.Proofs.YtbafaadmlpamiaaGreatDoor
