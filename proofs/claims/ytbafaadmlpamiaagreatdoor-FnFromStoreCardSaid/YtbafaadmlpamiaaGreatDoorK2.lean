import Derived.Test.YtbafaadmlpamiaaGreatDoorK1
import Derived.Test.YtbafaadmlpamiaaGreatDoorStep7
import Derived.Test.YtbafaadmlpamiaaGreatDoorStep9
import Derived.Test.YtbafaadmlpamiaaGreatDoorEdg
import Derived.Test.YtbafaadmlpamiaaGreatDoorE2
set_option maxRecDepth 100000
set_option maxHeartbeats 4000000
set_option linter.unusedSimpArgs false
namespace Go.Proofs.YtbafaadmlpamiaaGreatDoor
open Go Go.Hy Go.RowKit
theorem davf (w:World) (G G2:GS) (h:Two2 w G G2) (hp0:G2.pts = []) (EB:Nat) (eb:Nat→Addr) (E:ErrsOk w EB eb) (hB:∀ k∈G2.own,EB≤k) (hbp:G.pts.length≤400000) (hbl:G.lks.length≤400000) (hok:∀ p∈G.pts,hashM G2.hk p.v=p.h∧HashA G2.hk p.v) :
   Calls Tryz.prog 176 #[.pointer (some ⟨G2.gB,0,none⟩),.iface 162 (.pointer (some ⟨G.gB,0,none⟩))] w fun e w'=>e=.returned .nilIface∧∃ c pts,(pts.map Pt.sp).Perm G.st.ps∧GStep w G2 w' { G2 with c:=c,pts:=pts }∧Two2 w' G { G2 with c:=c,pts:=pts }:=by
 have H:=Lib.hid h
 have E0:=Lib.hid E
 have HB:=Lib.hid hB
 have HOK:=Lib.hid hok
 have HP0:=Lib.hid (show ({ G2 with c:=G2.c,pts:=[] }:GS)=G2 from by rw [← hp0])
 have mA:=mdAdj
 have mV:=mdVertex
 clear h E hB hok hp0
 go_enter Tryz.func176,Tryz.ntmps176
 go_wp2_with fail
 refine (dadj w G H.out.a hbp hbl).mono ?_
 rintro e w1 ⟨B,l,inn,rfl,M⟩
 have HM:=Lib.hid M
 have H1:=Lib.hid (H.out.fr M.fr)
 clear M
 go_wp2_with (first
   | (at_range;refine wl_range 152 9 154 Tryz.underlying152 rfl (.tmp 20) rfl HM.out.side.m rfl ?_;intro ob w2 hw2 sm2 it2))
 try go_frame
 have F2:=Lib.hid (show Fr0 w1 w2 from by subst hw2;exact (Fr.refl _ _).alloc _)
 go_loopg [7] l.length (fun k _ wr=>∃ done rem c ps pts,rem.length=k∧VF w1 G G2 B w1.heap.size l done rem c ps pts wr)
 case atStart =>
   refine ⟨[],l,G2.c,[],[],rfl,List.Perm.refl _,it2,rfl,(fun p hp=>by cases hp),rfl,?_,?_,?_,?_⟩ <;> rw [HP0.out]
   · exact ⟨(H1.out.fr F2.out).b,F2.out.mono fun _ q=>q.elim,fun x hx=>.inl hx,G2.same_refl⟩
   · exact H1.out.fr F2.out
   · intro q;have:=H.out.b.lt B q;have:=HM.out.new.1;omega
   · intro q;have:=H1.out.b.lt _ q;omega
 case round =>
   obtain ⟨done,rem,c,ps,pts,hk,V⟩:=hrel
   have A:=hid2 hk V
   clear hk V
   go_wp2_with (first
     | (at_next;refine wl_next rfl (.tmp 21) rfl w1.heap.size (mp rem) A.out.2.it rfl ?_ ?_))
   · intro hrem
     have e0:rem = []:=by cases rem with|nil=>rfl|cons _ _=>cases hrem
     have EE:=Lib.hid e0
     clear hrem e0
     go_wp2_with fail
     go_ret
     have g:=A.out.2.step
     exact ⟨rfl,c,pts,A.out.2.last EE.out H1.out HM.out.keys,gs_pre HM.out.fr g,A.out.2.two⟩
   · intro key v0 l1 l2 w3 hrem hit3 hu3 hen
     obtain ⟨r1,n,r2,hr,rfl,rfl,rfl⟩:=mp_split hrem
     rw [mp_append] at hit3
     obtain ⟨T3,⟨p,hp,hpk,hf⟩,hn⟩:=A.out.2.mid hr hu3 H1.out (Nat.le_refl _) HM.out.keys
     have D:=hid6 hr hu3 hit3 hp hpk hn
     have T:=Lib.hid T3
     have HF:=Lib.hid hf
     have EW:=Lib.hid (((E0.out.fr HM.out.fr (fun _ q=>q.elim)).fr A.out.2.step.fr HB.out).fr (Fr.of_upd hu3) (fun q hq=>by rw [hq];exact Nat.le_trans E0.out.size HM.out.fr.size))
     clear hrem hit3 hu3 hr hp hpk hn T3 hf
     go_wp2_with fail
     refine (dvwp_yes w3 G T.out.a key p HF.out).mono ?_
     rintro e w4 ⟨rfl,f4⟩
     have F4:=Lib.hid f4
     have BX:=Lib.hid (Cells.new w4 #[.map (some p.at_),.int .i64 p.wt] 137)
     clear f4
     unfold pv
     go_wp2_with fail
     refine (cpv _ p.at_ p.wt).mono ?_
     rintro e w6 ⟨rfl,hw6⟩
     have F6:=Lib.hid (show Fr0 w3 w6 from by rw [hw6];exact (F4.out.alloc _).alloc _)
     have CB:=Lib.hid (show Cells w6 (w4.heap.size+1) #[.map (some p.at_),.int .i64 p.wt] 137 from by rw [hw6];have:=Cells.new (w4.alloc (.cells #[.map (some p.at_),.int .i64 p.wt] 137)) #[.map (some p.at_),.int .i64 p.wt] 137;simpa using this)
     have SZ6:=Lib.hid (show w6.heap.size=w4.heap.size+1+1 from by rw [hw6];simp)
     clear hw6
     go_wp2_with fail
     refine (dcopyV _ { G2 with c:=c,pts:=pts } (T.out.fr (F6.out.alloc _)).b EB eb (EW.out.fr (F6.out.alloc _) (fun _ q=>q.elim)) p.v (HOK.out p D.out.2.2.2.1).2 w6.heap.size (w4.heap.size+1) p.at_ p.wt p.es ?_ ?_ ?_ ?_).mono ?_
     · simp
     · exact CB.out.alloc _
     · exact (((T.out.a.pa p D.out.2.2.2.1).fr F6.out (fun q=>q)).alloc _)
     · show findP pts (hashM G2.hk p.v)=none
       rw [(HOK.out p D.out.2.2.2.1).1,D.out.2.2.2.2.1]
       exact D.out.2.2.2.2.2
     · rintro e w9 ⟨x,rfl,rfl,c',mb,es',hpm,g⟩
       have g2:=g
       rw [show hashM ({ G2 with c:=c,pts:=pts }:GS).hk p.v=key from (HOK.out p D.out.2.2.2.1).1.trans D.out.2.2.2.2.1] at g2
       have VN:=Lib.hid (A.out.2.next D.out.1 D.out.2.1 H1.out (Nat.le_refl _) D.out.2.2.1 HM.out.keys D.out.2.2.2.1 D.out.2.2.2.2.1 (F6.out.alloc _) g2 hpm)
       clear g g2 hpm
       go_wp2_with fail
       go_roundg (r1 ++ r2).length
       case measure=>rw [← A.out.1,D.out.1];simp
       case rel=>exact ⟨_,_,_,_,_,rfl,VN.out⟩
theorem uavf (w:World) (G G2:GS) (h:Two2 w G G2) (hp0:G2.pts = []) (EB:Nat) (eb:Nat→Addr) (E:ErrsOk w EB eb) (hB:∀ k∈G2.own,EB≤k) (hbp:G.pts.length≤400000) (hbl:G.lks.length≤400000) (hok:∀ p∈G.pts,hashM G2.hk p.v=p.h∧HashA G2.hk p.v) :
   Calls Tryz.prog 201 #[.pointer (some ⟨G2.gB,0,none⟩),.iface 164 (.pointer (some ⟨G.gB,0,none⟩))] w fun e w'=>e=.returned .nilIface∧∃ c pts,(pts.map Pt.sp).Perm G.st.ps∧GStep w G2 w' { G2 with c:=c,pts:=pts }∧Two2 w' G { G2 with c:=c,pts:=pts }:=by
 have H:=Lib.hid h
 have E0:=Lib.hid E
 have HB:=Lib.hid hB
 have HOK:=Lib.hid hok
 have HP0:=Lib.hid (show ({ G2 with c:=G2.c,pts:=[] }:GS)=G2 from by rw [← hp0])
 have mA:=muAdj
 have mV:=muVertex
 clear h E hB hok hp0
 go_enter Tryz.func201,Tryz.ntmps201
 go_wp2_with fail
 refine (uadj w G H.out.a hbp hbl).mono ?_
 rintro e w1 ⟨B,l,inn,rfl,M⟩
 have HM:=Lib.hid M
 have H1:=Lib.hid (H.out.fr M.fr)
 clear M
 go_wp2_with (first
   | (at_range;refine wl_range 152 9 154 Tryz.underlying152 rfl (.tmp 20) rfl HM.out.side.m rfl ?_;intro ob w2 hw2 sm2 it2))
 try go_frame
 have F2:=Lib.hid (show Fr0 w1 w2 from by subst hw2;exact (Fr.refl _ _).alloc _)
 go_loopg [7] l.length (fun k _ wr=>∃ done rem c ps pts,rem.length=k∧VF w1 G G2 B w1.heap.size l done rem c ps pts wr)
 case atStart =>
   refine ⟨[],l,G2.c,[],[],rfl,List.Perm.refl _,it2,rfl,(fun p hp=>by cases hp),rfl,?_,?_,?_,?_⟩ <;> rw [HP0.out]
   · exact ⟨(H1.out.fr F2.out).b,F2.out.mono fun _ q=>q.elim,fun x hx=>.inl hx,G2.same_refl⟩
   · exact H1.out.fr F2.out
   · intro q;have:=H.out.b.lt B q;have:=HM.out.new.1;omega
   · intro q;have:=H1.out.b.lt _ q;omega
 case round =>
   obtain ⟨done,rem,c,ps,pts,hk,V⟩:=hrel
   have A:=hid2 hk V
   clear hk V
   go_wp2_with (first
     | (at_next;refine wl_next rfl (.tmp 21) rfl w1.heap.size (mp rem) A.out.2.it rfl ?_ ?_))
   · intro hrem
     have e0:rem = []:=by cases rem with|nil=>rfl|cons _ _=>cases hrem
     have EE:=Lib.hid e0
     clear hrem e0
     go_wp2_with fail
     go_ret
     have g:=A.out.2.step
     exact ⟨rfl,c,pts,A.out.2.last EE.out H1.out HM.out.keys,gs_pre HM.out.fr g,A.out.2.two⟩
   · intro key v0 l1 l2 w3 hrem hit3 hu3 hen
     obtain ⟨r1,n,r2,hr,rfl,rfl,rfl⟩:=mp_split hrem
     rw [mp_append] at hit3
     obtain ⟨T3,⟨p,hp,hpk,hf⟩,hn⟩:=A.out.2.mid hr hu3 H1.out (Nat.le_refl _) HM.out.keys
     have D:=hid6 hr hu3 hit3 hp hpk hn
     have T:=Lib.hid T3
     have HF:=Lib.hid hf
     have EW:=Lib.hid (((E0.out.fr HM.out.fr (fun _ q=>q.elim)).fr A.out.2.step.fr HB.out).fr (Fr.of_upd hu3) (fun q hq=>by rw [hq];exact Nat.le_trans E0.out.size HM.out.fr.size))
     clear hrem hit3 hu3 hr hp hpk hn T3 hf
     go_wp2_with fail
     refine (uvwp_yes w3 G T.out.a key p HF.out).mono ?_
     rintro e w4 ⟨rfl,f4⟩
     have F4:=Lib.hid f4
     have BX:=Lib.hid (Cells.new w4 #[.map (some p.at_),.int .i64 p.wt] 137)
     clear f4
     unfold pv
     go_wp2_with fail
     refine (cpv _ p.at_ p.wt).mono ?_
     rintro e w6 ⟨rfl,hw6⟩
     have F6:=Lib.hid (show Fr0 w3 w6 from by rw [hw6];exact (F4.out.alloc _).alloc _)
     have CB:=Lib.hid (show Cells w6 (w4.heap.size+1) #[.map (some p.at_),.int .i64 p.wt] 137 from by rw [hw6];have:=Cells.new (w4.alloc (.cells #[.map (some p.at_),.int .i64 p.wt] 137)) #[.map (some p.at_),.int .i64 p.wt] 137;simpa using this)
     have SZ6:=Lib.hid (show w6.heap.size=w4.heap.size+1+1 from by rw [hw6];simp)
     clear hw6
     go_wp2_with fail
     refine (ucopyV _ { G2 with c:=c,pts:=pts } (T.out.fr (F6.out.alloc _)).b EB eb (EW.out.fr (F6.out.alloc _) (fun _ q=>q.elim)) p.v (HOK.out p D.out.2.2.2.1).2 w6.heap.size (w4.heap.size+1) p.at_ p.wt p.es ?_ ?_ ?_ ?_).mono ?_
     · simp
     · exact CB.out.alloc _
     · exact (((T.out.a.pa p D.out.2.2.2.1).fr F6.out (fun q=>q)).alloc _)
     · show findP pts (hashM G2.hk p.v)=none
       rw [(HOK.out p D.out.2.2.2.1).1,D.out.2.2.2.2.1]
       exact D.out.2.2.2.2.2
     · rintro e w9 ⟨x,rfl,rfl,c',mb,es',hpm,g⟩
       have g2:=g
       rw [show hashM ({ G2 with c:=c,pts:=pts }:GS).hk p.v=key from (HOK.out p D.out.2.2.2.1).1.trans D.out.2.2.2.2.1] at g2
       have VN:=Lib.hid (A.out.2.next D.out.1 D.out.2.1 H1.out (Nat.le_refl _) D.out.2.2.1 HM.out.keys D.out.2.2.2.1 D.out.2.2.2.2.1 (F6.out.alloc _) g2 hpm)
       clear g g2 hpm
       go_wp2_with fail
       go_roundg (r1 ++ r2).length
       case measure=>rw [← A.out.1,D.out.1];simp
       case rel=>exact ⟨_,_,_,_,_,rfl,VN.out⟩
theorem w64p {i n:Nat} (h:n≤1000000) (hi:i < n):wrap64 ((i:Int)+1)=(i:Int)+1:=by
 unfold wrap64
 omega
theorem hit_key {dir:Bool} {l m:SL} (h:l.hit dir m.a m.b=true):keyS (SL.low dir l)=keyS (SL.low dir m):=by
 have key:∀ l m:SL,l.a=m.a→l.b=m.b→keyS (SL.low dir l)=keyS (SL.low dir m):=by
   intro l m h1 h2
   unfold SL.low keyS SL.turn
   rw [h1,h2]
   split <;> simp [h1,h2]
 cases dir with
 | true =>
   simp only [SL.hit,Bool.not_true,Bool.false_and,Bool.or_false,decide_eq_true_eq] at h
   exact key l m h.1 h.2
 | false =>
   simp only [SL.hit,Bool.not_false,Bool.true_and,Bool.or_eq_true,decide_eq_true_eq] at h
   rcases h with ⟨h1,h2⟩|⟨h1,h2⟩
   · exact key l m h1 h2
   · rw [← low_turn l]
     exact key l.turn m h2 h1
structure EF (w0:World) (G G2:GS) (rs:List KV) (i:Nat) (c:St1) (lks:List Lk) (wr:World):Prop where
 low:lks.map (fun l=>SL.low G.dir (Lk.sl l))=(rs.take i).map (edOf G)
 step:GStep w0 G2 wr { G2 with c:=c,lks:=lks }
 two:Two2 wr G { G2 with c:=c,lks:=lks }
theorem EF.facts {w0 wr:World} {G G2:GS} {rs:List KV} {i:Nat} {c:St1} {lks:List Lk} {r:KV} (h:EF w0 G G2 rs i c lks wr) (h0:Two2 w0 G G2) (hp:(rs.map (edOf G)).Perm (G.st.ls.map (SL.low G.dir))) (hs:∀ r∈rs,r∈linksK G.dir G.lks)
   (hps:(G2.pts.map Pt.sp).Perm G.st.ps) (hi:rs[i]? = some r):∃ e∈G.lks,r.2=ev r.1.1 r.1.2 e.at_ e.wt∧edOf G r=SL.low G.dir ⟨r.1.1,r.1.2,e.wt,byK e.es⟩∧(∃ p,findP G2.pts r.1.1=some p)∧(∃ q,findP G2.pts r.1.2=some q)∧findL G.dir lks r.1.1 r.1.2=none∧(G.dir=false→r.1.1≠r.1.2):=by
 obtain ⟨e,he,hf,hv⟩:=links_find h0.a (hs r (List.mem_of_getElem? hi))
 have hh:=hit_cases (findL_mem hf).2
 have hed:=edOf_eq hf
 have there:∀ x,(∃ p∈G.pts,p.h=x)→∃ p,findP G2.pts x=some p:=by
   rintro x ⟨p,hp,ex⟩
   obtain ⟨p2,hp2,e2⟩:=List.mem_map.1 (hps.symm.subset (List.mem_map.2 ⟨p,hp,rfl⟩))
   exact findP_some_of ⟨p2,hp2,by have:=congrArg SP.h e2;exact this.trans ex⟩
 obtain ⟨ea,eb⟩:=h0.a.ends e he
 refine ⟨e,he,hv,hed,?_,?_,?_,fun hd q => ?_⟩
 · rcases hh with ⟨h1,h2⟩|⟨_,h1,h2⟩
   · exact there _ (h1▸ea)
   · exact there _ (h2▸eb)
 · rcases hh with ⟨h1,h2⟩|⟨_,h1,h2⟩
   · exact there _ (h2▸eb)
   · exact there _ (h1▸ea)
 · rw [findL_none]
   intro l hl
   cases q:l.hit G.dir r.1.1 r.1.2 with
   | false=>rfl
   | true =>
     exfalso
     have k1:keyS (SL.low G.dir (Lk.sl l))=keyS (edOf G r):=by
       rw [hed]
       exact hit_key (l:=Lk.sl l) (m:=⟨r.1.1,r.1.2,e.wt,byK e.es⟩) q
     have m1:SL.low G.dir (Lk.sl l)∈(rs.take i).map (edOf G):=by rw [← h.low];exact List.mem_map.2 ⟨l,hl,rfl⟩
     obtain ⟨r',hr',e'⟩:=List.mem_map.1 m1
     have nd:(rs.map fun r=>keyS (edOf G r)).Nodup:=by
       have:=((hp.map keyS).nodup_iff.2 (low_nodup h0.a))
       rwa [List.map_map] at this
     have hlt:=(List.getElem?_eq_some_iff.1 hi).1
     have e3:rs=rs.take i ++ r :: rs.drop (i+1):=by
       rw [← (List.getElem?_eq_some_iff.1 hi).2,List.getElem_cons_drop,List.take_append_drop]
     rw [e3,List.map_append,List.nodup_append] at nd
     exact nd.2.2 _ (List.mem_map.2 ⟨r',hr',rfl⟩) _ (List.mem_map.2 ⟨r,.head _,rfl⟩) (by rw [e'];exact k1)
 · have hne:=h0.a.loop hd e he
   rcases hh with ⟨h1,h2⟩|⟨_,h1,h2⟩
   · exact hne (by rw [h1,h2,q])
   · exact hne (by rw [h1,h2,q])
theorem EF.next {w0 wr w4 w':World} {G G2:GS} {rs:List KV} {i:Nat} {c c':St1} {lks:List Lk} {r:KV} {e:Lk} {mb:Nat} {es':List PP} (h:EF w0 G G2 rs i c lks wr) (hi:rs[i]? = some r) (he:e∈G.lks) (hed:edOf G r=SL.low G.dir ⟨r.1.1,r.1.2,e.wt,byK e.es⟩) (f:Fr0 wr w4)
   (g:GStep w4 { G2 with c:=c,lks:=lks } w' { G2 with c:=c',lks:=lks ++ [⟨r.1.1,r.1.2,e.wt,mb,es'⟩] }) (hes:es'.Perm e.es):EF w0 G G2 rs (i+1) c' (lks ++ [⟨r.1.1,r.1.2,e.wt,mb,es'⟩]) w':=by
 have T4:=h.two.fr f
 have hlt:=(List.getElem?_eq_some_iff.1 hi).1
 refine ⟨?_,⟨g.rep,(h.step.fr.trans0 f).trans g.fr fun q hq=>h.step.own q hq,fun x hx => ?_,same_tr h.step.same g.same⟩,T4.right g⟩
 · rw [List.map_append,h.low,List.take_succ_eq_append_getElem hlt,(List.getElem?_eq_some_iff.1 hi).2,List.map_append,List.map_singleton,List.map_singleton,hed]
   have e2:byK es'=byK e.es:=byK_eq hes (ats_nodup (T4.a.la e he))
   unfold Lk.sl
   rw [e2]
 · rcases g.own x hx with q|q
   · exact h.step.own x q
   · exact .inr (Nat.le_trans (Nat.le_trans h.step.fr.size f.size) q)
theorem EdgM.at_ {w w1 wr:World} {G:GS} {v:Value} {rs:List KV} {S:Nat→Prop} {i:Nat} {x y:ByteArray} {a:Nat} {wt:Int} (h:EdgM w w1 G v rs) (h0:GRep w G) (f:Fr S w1 wr) (hS:∀ q,S q→q < w.heap.size) (hg:rs[i]? = some ((x,y),ev x y a wt)) :
   ∃ ob cap,v=.slice (some ⟨ob,0,none⟩) rs.length cap∧rs.length≤cap∧ob < wr.heap.size∧wr.cell? ⟨ob,i * 5,none⟩=some (.string x)∧wr.cell? ⟨ob,i * 5+1,none⟩=some (.string y)∧wr.cell? ⟨ob,i * 5+2,none⟩=some (.map (some a))∧wr.cell? ⟨ob,i * 5+3,none⟩=some (.int .i64 wt)∧wr.cell? ⟨ob,i * 5+4,none⟩=some .nilIface:=by
 have hok:∀ p∈rs,KVok p:=fun p hp=>by
   obtain ⟨e,_,_,hv⟩:=links_find h0 (h.sub p hp)
   exact ⟨e.at_,e.wt,hv⟩
 obtain ⟨c0,c1,c2,c3,c4⟩:=eCells_at hok hg
 obtain ⟨ao,cap,rfl,hcap,hv⟩:=own_slice h.row
 have go:∀ j u,(eCells (rs.map (·.2)))[j]? = some u→∃ ob,ao=some ⟨ob,0,none⟩∧ob < wr.heap.size∧wr.cell? ⟨ob,j,none⟩=some u:=fun j u hj=>by
   obtain ⟨ob,rfl,h1,h2⟩:=hv j u hj
   have hlt:=(h.row.lt ob rfl).1
   exact ⟨ob,rfl,Nat.lt_of_lt_of_le h1 f.size,(f.cell (p:=⟨ob,j,none⟩) h1 (fun q=>by have:=hS _ q;simp only at this;omega)).trans h2⟩
 obtain ⟨ob,rfl,hl,d0⟩:=go _ _ c0
 obtain ⟨_,e1,_,d1⟩:=go _ _ c1
 obtain ⟨_,e2,_,d2⟩:=go _ _ c2
 obtain ⟨_,e3,_,d3⟩:=go _ _ c3
 obtain ⟨_,e4,_,d4⟩:=go _ _ c4
 cases e1;cases e2;cases e3;cases e4
 exact ⟨ob,cap,rfl,hcap,hl,d0,d1,d2,d3,d4⟩
theorem daef (w:World) (G G2:GS) (h:Two2 w G G2) (hd:G.dir=true) (hd2:G2.dir=true) (hpr:G2.pr=false) (hl0:G2.lks = []) (hps:(G2.pts.map Pt.sp).Perm G.st.ps) (EB:Nat) (eb:Nat→Addr) (E:ErrsOk w EB eb) (hB:∀ k∈G2.own,EB≤k) (hbl:G.lks.length≤400000) :
   Calls Tryz.prog 174 #[.pointer (some ⟨G2.gB,0,none⟩),.iface 162 (.pointer (some ⟨G.gB,0,none⟩))] w fun e w'=>e=.returned .nilIface∧∃ c lks,(lks.map fun l=>SL.low G.dir (Lk.sl l)).Perm (G.st.ls.map (SL.low G.dir))∧GStep w G2 w' { G2 with c:=c,lks:=lks }∧Two2 w' G { G2 with c:=c,lks:=lks }:=by
 have H:=Lib.hid h
 have E0:=Lib.hid E
 have HB:=Lib.hid hB
 have HPS:=Lib.hid hps
 have HPR:=Lib.hid hpr
 have HL0:=Lib.hid (show ({ G2 with c:=G2.c,lks:=[] }:GS)=G2 from by rw [← hl0])
 have HD:=hid2 hd hd2
 have mE:=mdEdges
 clear h E hB hps hpr hl0
 go_enter Tryz.func174,Tryz.ntmps174
 go_wp2_with fail
 refine (dedges w G H.out.a hd hbl).mono ?_
 rintro e w1 ⟨v1,rs,rfl,M⟩
 have HM:=Lib.hid M
 have H1:=Lib.hid (H.out.fr M.fr)
 obtain ⟨ao1,cap1,rfl, -, -⟩:=own_slice M.row
 have hrl:rs.length≤400000:=by
   have:=M.perm.length_eq
   simp only [List.length_map] at this
   unfold GS.st at this
   simp only [List.length_map] at this
   omega
 clear M hd hd2
 go_wp2_with fail
 go_loopg [21] rs.length (fun k cc wr=>∃ i c lks,k+i=rs.length∧cc=.int .i64 (i:Nat)∧EF w1 G G2 rs i c lks wr)
 case atStart =>
   refine ⟨0,G2.c,[],rfl,rfl,rfl,?_,?_⟩ <;> rw [HL0.out]
   · exact ⟨H1.out.b,Fr.refl _ _,fun x hx=>.inl hx,G2.same_refl⟩
   · exact H1.out
 case round =>
   obtain ⟨i,c,lks,hk,rfl,V⟩:=hrel
   have A:=hid2 hk V
   clear hk V
   by_cases hi:i < rs.length
   · have hg:=List.getElem?_eq_getElem hi
     generalize rs[i]=r at hg
     obtain ⟨e,he,hev,hed,⟨p,hp⟩,⟨q,hq⟩,hn,hne⟩:=A.out.2.facts H1.out HM.out.perm HM.out.sub HPS.out hg
     obtain ⟨⟨x,y⟩,vv⟩:=r
     simp only at hev hp hq hn hne
     subst hev
     have D:=hid8 hg he hed hp hq hn hne hi
     obtain ⟨ob,cap,e',hcap,hob,c0,c1,c2,c3,c4⟩:=HM.out.at_ H.out.a A.out.2.step.fr (fun q hq=>H.out.b.lt q hq) hg
     cases e'
     have EW:=Lib.hid ((E0.out.fr HM.out.fr (fun _ q=>q.elim)).fr A.out.2.step.fr HB.out)
     have FA:=Lib.hid ((Fr.refl (fun _=>False) wr).alloc (.cells #[.string x,.string y,.map (some e.at_),.int .i64 e.wt,.nilIface] 144))
     clear hg he hed hp hq hn hne
     go_wp2_with fail
     refine (cpe _ x y e.at_ e.wt).mono ?_
     rintro e' w6 ⟨rfl,f6,c6⟩
     have F6:=Lib.hid (FA.out.trans0 f6)
     have C6:=Lib.hid c6
     clear f6 c6 c0 c1 c2 c3 c4 hob hcap
     go_wp2_with fail
     refine (dcopyE _ { G2 with c:=c,lks:=lks } (A.out.2.two.fr (F6.out.alloc _)).b HD.out.2 EB eb (EW.out.fr (F6.out.alloc _) (fun _ q=>q.elim)) x y  w6.heap.size (wr.heap.size+1) e.at_ x y e.wt e.es ?_ ?_ ?_ p q D.out.2.2.2.1 D.out.2.2.2.2.1 ?_ HPR.out).mono ?_
     · simp
     · have:=C6.out.alloc (.cells #[.func (Fn.func 196) #[] #[.pointer (some ⟨wr.heap.size+1,0,none⟩)]] 122)
       simpa using this
     · exact (((A.out.2.two.a.la e D.out.2.1).fr F6.out (fun q=>q)).alloc _)
     · show findL G2.dir lks x y=none
       rw [HD.out.2,← HD.out.1]
       exact D.out.2.2.2.2.2.1
     · rintro e' w9 ⟨rfl,c',mb,es',hpm,g⟩
       have VN:=Lib.hid (A.out.2.next D.out.1 D.out.2.1 D.out.2.2.1 (F6.out.alloc _) g hpm)
       have hi2:=D.out.2.2.2.2.2.2.2
       clear g hpm
       go_wp2_with fail
       go_roundg (gk - 1)
       case measure=>have:=A.out.1;omega
       case rel=>exact ⟨i+1,_,_,by have:=A.out.1;omega,by simp [w64p (Nat.le_trans hrl (by decide)) hi2],VN.out⟩
   · have hi':i=rs.length:=by have:=A.out.1;omega
     subst hi'
     go_wp2_with fail
     go_ret
     have lo:=A.out.2.low
     rw [List.take_length] at lo
     exact ⟨rfl,c,lks,by rw [lo];exact HM.out.perm,gs_pre HM.out.fr A.out.2.step,A.out.2.two⟩
theorem uaef (w:World) (G G2:GS) (h:Two2 w G G2) (hd:G.dir=false) (hd2:G2.dir=false) (hpr:G2.pr=false) (hl0:G2.lks = []) (hps:(G2.pts.map Pt.sp).Perm G.st.ps) (EB:Nat) (eb:Nat→Addr) (E:ErrsOk w EB eb) (hB:∀ k∈G2.own,EB≤k) (hbl:G.lks.length≤400000) :
   Calls Tryz.prog 199 #[.pointer (some ⟨G2.gB,0,none⟩),.iface 164 (.pointer (some ⟨G.gB,0,none⟩))] w fun e w'=>e=.returned .nilIface∧∃ c lks,(lks.map fun l=>SL.low G.dir (Lk.sl l)).Perm (G.st.ls.map (SL.low G.dir))∧GStep w G2 w' { G2 with c:=c,lks:=lks }∧Two2 w' G { G2 with c:=c,lks:=lks }:=by
 have H:=Lib.hid h
 have E0:=Lib.hid E
 have HB:=Lib.hid hB
 have HPS:=Lib.hid hps
 have HPR:=Lib.hid hpr
 have HL0:=Lib.hid (show ({ G2 with c:=G2.c,lks:=[] }:GS)=G2 from by rw [← hl0])
 have HD:=hid2 hd hd2
 have mE:=muEdges
 clear h E hB hps hpr hl0
 go_enter Tryz.func199,Tryz.ntmps199
 go_wp2_with fail
 refine (uedges w G H.out.a hd hbl).mono ?_
 rintro e w1 ⟨v1,rs,rfl,M⟩
 have HM:=Lib.hid M
 have H1:=Lib.hid (H.out.fr M.fr)
 obtain ⟨ao1,cap1,rfl, -, -⟩:=own_slice M.row
 have hrl:rs.length≤400000:=by
   have:=M.perm.length_eq
   simp only [List.length_map] at this
   unfold GS.st at this
   simp only [List.length_map] at this
   omega
 clear M hd hd2
 go_wp2_with fail
 go_loopg [21] rs.length (fun k cc wr=>∃ i c lks,k+i=rs.length∧cc=.int .i64 (i:Nat)∧EF w1 G G2 rs i c lks wr)
 case atStart =>
   refine ⟨0,G2.c,[],rfl,rfl,rfl,?_,?_⟩ <;> rw [HL0.out]
   · exact ⟨H1.out.b,Fr.refl _ _,fun x hx=>.inl hx,G2.same_refl⟩
   · exact H1.out
 case round =>
   obtain ⟨i,c,lks,hk,rfl,V⟩:=hrel
   have A:=hid2 hk V
   clear hk V
   by_cases hi:i < rs.length
   · have hg:=List.getElem?_eq_getElem hi
     generalize rs[i]=r at hg
     obtain ⟨e,he,hev,hed,⟨p,hp⟩,⟨q,hq⟩,hn,hne⟩:=A.out.2.facts H1.out HM.out.perm HM.out.sub HPS.out hg
     obtain ⟨⟨x,y⟩,vv⟩:=r
     simp only at hev hp hq hn hne
     subst hev
     have D:=hid8 hg he hed hp hq hn hne hi
     obtain ⟨ob,cap,e',hcap,hob,c0,c1,c2,c3,c4⟩:=HM.out.at_ H.out.a A.out.2.step.fr (fun q hq=>H.out.b.lt q hq) hg
     cases e'
     have EW:=Lib.hid ((E0.out.fr HM.out.fr (fun _ q=>q.elim)).fr A.out.2.step.fr HB.out)
     have FA:=Lib.hid ((Fr.refl (fun _=>False) wr).alloc (.cells #[.string x,.string y,.map (some e.at_),.int .i64 e.wt,.nilIface] 144))
     clear hg he hed hp hq hn hne
     go_wp2_with fail
     refine (cpe _ x y e.at_ e.wt).mono ?_
     rintro e' w6 ⟨rfl,f6,c6⟩
     have F6:=Lib.hid (FA.out.trans0 f6)
     have C6:=Lib.hid c6
     clear f6 c6 c0 c1 c2 c3 c4 hob hcap
     go_wp2_with fail
     refine (ucopyE _ { G2 with c:=c,lks:=lks } (A.out.2.two.fr (F6.out.alloc _)).b HD.out.2 EB eb (EW.out.fr (F6.out.alloc _) (fun _ q=>q.elim)) x y (D.out.2.2.2.2.2.2.1 HD.out.1) w6.heap.size (wr.heap.size+1) e.at_ x y e.wt e.es ?_ ?_ ?_ p q D.out.2.2.2.1 D.out.2.2.2.2.1 ?_ HPR.out).mono ?_
     · simp
     · have:=C6.out.alloc (.cells #[.func (Fn.func 196) #[] #[.pointer (some ⟨wr.heap.size+1,0,none⟩)]] 122)
       simpa using this
     · exact (((A.out.2.two.a.la e D.out.2.1).fr F6.out (fun q=>q)).alloc _)
     · show findL G2.dir lks x y=none
       rw [HD.out.2,← HD.out.1]
       exact D.out.2.2.2.2.2.1
     · rintro e' w9 ⟨rfl,c',mb,es',hpm,g⟩
       have VN:=Lib.hid (A.out.2.next D.out.1 D.out.2.1 D.out.2.2.1 (F6.out.alloc _) g hpm)
       have hi2:=D.out.2.2.2.2.2.2.2
       clear g hpm
       go_wp2_with fail
       go_roundg (gk - 1)
       case measure=>have:=A.out.1;omega
       case rel=>exact ⟨i+1,_,_,by have:=A.out.1;omega,by simp [w64p (Nat.le_trans hrl (by decide)) hi2],VN.out⟩
   · have hi':i=rs.length:=by have:=A.out.1;omega
     subst hi'
     go_wp2_with fail
     go_ret
     have lo:=A.out.2.low
     rw [List.take_length] at lo
     exact ⟨rfl,c,lks,by rw [lo];exact HM.out.perm,gs_pre HM.out.fr A.out.2.step,A.out.2.two⟩
theorem GRep.emptyC {w:World} {gB tB sB kB hk:Nat} {t:TS} {n:Nat} {cs:Array Value} (hg:Cells w gB #[.func (Fn.func 62) #[] #[.pointer (some ⟨kB,0,none⟩)],.pointer (some ⟨tB,0,none⟩),.iface 178 (.pointer (some ⟨sB,0,none⟩))] (if t.d then 161 else 163))
   (ht:Cells w tB t.cells 104) (hs:SRep w sB (emptySt n)) (hk1:Cells w kB cs 37) (hk2:KC cs) (hk3:cs[6]? = some (.int .u8 hk)) (o1:kB < tB) (o2:sB=n+4) (o3:tB < n) (o4:sB < gB) :
   GRep w (emptyG gB tB sB kB hk t (emptySt n)):=by
 refine ⟨hg,ht,hs,⟨cs,hk1,hk2,hk3⟩,rfl,rfl,fun _ _=>rfl,fun _ _=>rfl,fun _ h=>(by cases h),fun _ h=>(by cases h),fun _ h=>(by cases h),fun _ _ h=>(by cases h),List.Pairwise.nil,?_,?_⟩
 · simp [GS.own,emptyG,St1.own,emptySt]
   omega
 · simp [GS.own,emptyG,St1.own,emptySt]
   omega
theorem emptyC_own {gB tB sB kB hk:Nat} {t:TS} {n m:Nat} (o1:m≤tB) (o2:sB=n+4) (o3:tB < n) (o4:sB < gB):∀ x∈(emptyG gB tB sB kB hk t (emptySt n)).own,m≤x:=by
 intro x hx
 simp [GS.own,emptyG,St1.own,emptySt] at hx
 omega
theorem dclone (w:World) (G:GS) (h:GRep w G) (hd:G.dir=true) (hpr:G.pr=false) (EB:Nat) (eb:Nat→Addr) (E:ErrsOk w EB eb) (hbp:G.pts.length≤400000) (hbl:G.lks.length≤400000) (hok:∀ p∈G.pts,hashM G.hk p.v=p.h∧HashA G.hk p.v) :
   Calls Tryz.prog 178 #[.pointer (some ⟨G.gB,0,none⟩)] w fun e w'=>∃ G2,e=.returned (.tuple #[G2.val,.nilIface])∧Two2 w' G G2∧Eqv G.st G2.st∧(∀ x∈G2.own,w.heap.size≤x)∧Fr0 w w':=by
 have H:=Lib.hid h
 have E0:=Lib.hid E
 have HOK:=Lib.hid hok
 have HP:=hid2 hd hpr
 obtain ⟨⟨g0,g1,g2⟩,⟨r0,r1,r2,r3,r4⟩,l0,l1,l2⟩:=h.facts
 have SZ:=hid3 l0 l1 h.kl
 have KK:=Lib.hid h.k
 clear h E hok hpr
 go_enter Tryz.func178,Tryz.ntmps178
 go_wp2_with fail
 (refine region_tail 36 (by kernel_rfl) (by kernel_rfl) ?_;simp only [List.take_succ_cons,List.take_zero,List.drop_succ_cons,List.drop_zero];(repeat still_step);refine wpStill_nil ?_)
 go_wp2_with fail
 have TB:=Lib.hid (show Cells (w.alloc (.cells #[.bool true,.bool G.ac,.bool G.we,.bool G.ro,.bool G.pr] 104)) w.heap.size #[.bool true,.bool G.ac,.bool G.we,.bool G.ro,.bool G.pr] 104 from Cells.new w _ 104)
 have F1:=Lib.hid (show Fr0 w (w.alloc (.cells #[.bool true,.bool G.ac,.bool G.we,.bool G.ro,.bool G.pr] 104)) from (Fr.refl (fun _=>False) w).alloc _)
 have Z1:=Lib.hid (show (w.alloc (.cells #[.bool true,.bool G.ac,.bool G.we,.bool G.ro,.bool G.pr] 104)).heap.size=w.heap.size+1 from by simp)
 generalize w.alloc (.cells #[.bool true,.bool G.ac,.bool G.we,.bool G.ro,.bool G.pr] 104)=W1 at *
 have G1:=Lib.hid (H.out.fr F1.out (fun _ _ q=>q) (fun q=>q))
 clear g0 g1 g2 r0 r1 r2 r3 r4 l0 l1 l2
 have g0:=G1.out.facts.1.1
 have l0:=G1.out.facts.2.2.1
 go_region_held3 (fun w'=>w'.cell? ⟨G.gB,0,none⟩=some (.func (Fn.func 62) #[] #[.pointer (some ⟨G.kB,0,none⟩)])) (go_keep)
   (first
     | (go_at_call 82;refine (newstore _).mono ?_;rintro e w5 ⟨rfl,hs,f5,z5⟩;have F5:=Lib.hid (show Fr0 W1 w5 from fr_undrew2 (fr_undrew2 f5));have N5:=hid2 (show SRep w5 (W1.heap.size+4) (emptySt W1.heap.size) from hs) (show w5.heap.size=W1.heap.size+5 from z5);have k0:=(G1.out.fr F5.out (fun _ _ q=>q) (fun q=>q)).facts.1.1;have kl:=(G1.out.fr F5.out (fun _ _ q=>q) (fun q=>q)).facts.2.2.1;clear hs f5 z5))
 rename_i hh
 clear hh
 obtain ⟨cs,k1,k2,k3⟩:=KK.out
 have F6:=Lib.hid (show Fr0 w (w5.alloc (.cells #[.func (Fn.func 62) #[] #[.pointer (some ⟨G.kB,0,none⟩)],.pointer (some ⟨w.heap.size,0,none⟩),.iface 178 (.pointer (some ⟨W1.heap.size+4,0,none⟩))] 161)) from (F1.out.trans0 F5.out).alloc _)
 have R0:=Lib.hid (show GRep (w5.alloc (.cells #[.func (Fn.func 62) #[] #[.pointer (some ⟨G.kB,0,none⟩)],.pointer (some ⟨w.heap.size,0,none⟩),.iface 178 (.pointer (some ⟨W1.heap.size+4,0,none⟩))] 161)) (emptyG w5.heap.size w.heap.size (W1.heap.size+4) G.kB G.hk ⟨true,G.ac,G.we,G.ro,G.pr⟩ (emptySt W1.heap.size)) from
   GRep.emptyC (Cells.new w5 _ 161) ((TB.out.fr F5.out (fun q=>q)).alloc _) (N5.out.1.fr ((Fr.refl (fun _=>False) w5).alloc _) (fun q=>q) (fun _ _ q=>q)) (k1.fr F6.out (fun q=>q)) k2 k3 SZ.out.2.2 rfl (by have:=Z1.out;omega) (by have:=N5.out.2;omega))
 have O0:=Lib.hid (emptyC_own (gB:=w5.heap.size) (tB:=w.heap.size) (sB:=W1.heap.size+4) (kB:=G.kB) (hk:=G.hk) (t:=⟨true,G.ac,G.we,G.ro,G.pr⟩) (n:=W1.heap.size) (Nat.le_refl _) rfl (by have:=Z1.out;omega) (by have:=N5.out.2;omega))
 clear k1 k2 k3 g0 l0 k0 kl
 go_wp2_with fail
 generalize w5.alloc (.cells #[.func (Fn.func 62) #[] #[.pointer (some ⟨G.kB,0,none⟩)],.pointer (some ⟨w.heap.size,0,none⟩),.iface 178 (.pointer (some ⟨W1.heap.size+4,0,none⟩))] 161)=W6 at *
 have EB0:=Lib.hid (show ∀ k∈(emptyG w5.heap.size w.heap.size (W1.heap.size+4) G.kB G.hk ⟨true,G.ac,G.we,G.ro,G.pr⟩ (emptySt W1.heap.size)).own,EB≤k from fun k hk=>Nat.le_trans E0.out.size (O0.out k hk))
 have T6:=Lib.hid (show Two2 W6 G (emptyG w5.heap.size w.heap.size (W1.heap.size+4) G.kB G.hk ⟨true,G.ac,G.we,G.ro,G.pr⟩ (emptySt W1.heap.size)) from
   ⟨H.out.fr F6.out (fun _ _ q=>q) (fun q=>q),R0.out,fun x hx hq=>by have:=O0.out x hq;have:=H.out.lt x hx;omega,fun hq=>by have:=O0.out _ hq;have:=SZ.out.2.2;omega,H.out.kn⟩)
 refine (davf W6 G (emptyG w5.heap.size w.heap.size (W1.heap.size+4) G.kB G.hk ⟨true,G.ac,G.we,G.ro,G.pr⟩ (emptySt W1.heap.size)) T6.out rfl EB eb (E0.out.fr F6.out (fun _ q=>q.elim)) EB0.out hbp hbl HOK.out).mono ?_
 rintro e w7 ⟨rfl,c7,pts,hp7,g7,t7⟩
 have A7:=hid3 hp7 g7 t7
 clear hp7 g7 t7
 have O7:=Lib.hid (show ∀ x∈({ (emptyG w5.heap.size w.heap.size (W1.heap.size+4) G.kB G.hk ⟨true,G.ac,G.we,G.ro,G.pr⟩ (emptySt W1.heap.size)) with c:=c7,pts:=pts }:GS).own,w.heap.size≤x from fun x hx=>(A7.out.2.1.own x hx).elim (fun q=>O0.out x q) (fun q=>Nat.le_trans F6.out.size q))
 go_wp2_with fail
 refine (daef w7 G { (emptyG w5.heap.size w.heap.size (W1.heap.size+4) G.kB G.hk ⟨true,G.ac,G.we,G.ro,G.pr⟩ (emptySt W1.heap.size)) with c:=c7,pts:=pts } A7.out.2.2 HP.out.1 rfl HP.out.2 rfl A7.out.1 EB eb ((E0.out.fr F6.out (fun _ q=>q.elim)).fr A7.out.2.1.fr EB0.out) (fun k hk=>Nat.le_trans E0.out.size (O7.out k hk)) hbl).mono ?_
 rintro e w8 ⟨rfl,c8,lks,hl8,g8,t8⟩
 have A8:=hid3 hl8 g8 t8
 clear hl8 g8 t8
 go_wp2_with fail
 refine bodyPost_ret (v:=.tuple #[.iface 162 (.pointer (some ⟨w5.heap.size,0,none⟩)),.nilIface]) (by simp [results,Tryz.results178,go_sem, *]) rfl ⟨_,rfl,A8.out.2.2,⟨?_,?_,rfl,A7.out.1,?_⟩,fun x hx => ?_,?_⟩
 · exact HP.out.1.symm
 · exact rfl
 · show ((lks.map Lk.sl).map (SL.low G.dir)).Perm (G.st.ls.map (SL.low G.dir))
   rw [List.map_map]
   exact A8.out.1
 · exact (A8.out.2.1.own x hx).elim (fun q=>O7.out x q) (fun q=>Nat.le_trans (Nat.le_trans F6.out.size A7.out.2.1.fr.size) q)
 · exact (F6.out.trans A7.out.2.1.fr fun q hq=>.inr (O0.out q hq)).trans A8.out.2.1.fr fun q hq=>.inr (O7.out q hq)
theorem uclone (w:World) (G:GS) (h:GRep w G) (hd:G.dir=false) (hpr:G.pr=false) (EB:Nat) (eb:Nat→Addr) (E:ErrsOk w EB eb) (hbp:G.pts.length≤400000) (hbl:G.lks.length≤400000) (hok:∀ p∈G.pts,hashM G.hk p.v=p.h∧HashA G.hk p.v) :
   Calls Tryz.prog 203 #[.pointer (some ⟨G.gB,0,none⟩)] w fun e w'=>∃ G2,e=.returned (.tuple #[G2.val,.nilIface])∧Two2 w' G G2∧Eqv G.st G2.st∧(∀ x∈G2.own,w.heap.size≤x)∧Fr0 w w':=by
 have H:=Lib.hid h
 have E0:=Lib.hid E
 have HOK:=Lib.hid hok
 have HP:=hid2 hd hpr
 obtain ⟨⟨g0,g1,g2⟩,⟨r0,r1,r2,r3,r4⟩,l0,l1,l2⟩:=h.facts
 have SZ:=hid3 l0 l1 h.kl
 have KK:=Lib.hid h.k
 clear h E hok hpr
 go_enter Tryz.func203,Tryz.ntmps203
 go_wp2_with fail
 (refine region_tail 29 (by kernel_rfl) (by kernel_rfl) ?_;simp only [List.take_succ_cons,List.take_zero,List.drop_succ_cons,List.drop_zero];(repeat still_step);refine wpStill_nil ?_)
 go_wp2_with fail
 have TB:=Lib.hid (show Cells (w.alloc (.cells #[.bool false,.bool G.ac,.bool G.we,.bool G.ro,.bool false] 104)) w.heap.size #[.bool false,.bool G.ac,.bool G.we,.bool G.ro,.bool false] 104 from Cells.new w _ 104)
 have F1:=Lib.hid (show Fr0 w (w.alloc (.cells #[.bool false,.bool G.ac,.bool G.we,.bool G.ro,.bool false] 104)) from (Fr.refl (fun _=>False) w).alloc _)
 have Z1:=Lib.hid (show (w.alloc (.cells #[.bool false,.bool G.ac,.bool G.we,.bool G.ro,.bool false] 104)).heap.size=w.heap.size+1 from by simp)
 generalize w.alloc (.cells #[.bool false,.bool G.ac,.bool G.we,.bool G.ro,.bool false] 104)=W1 at *
 have G1:=Lib.hid (H.out.fr F1.out (fun _ _ q=>q) (fun q=>q))
 clear g0 g1 g2 r0 r1 r2 r3 r4 l0 l1 l2
 have g0:=G1.out.facts.1.1
 have l0:=G1.out.facts.2.2.1
 go_region_held3 (fun w'=>w'.cell? ⟨G.gB,0,none⟩=some (.func (Fn.func 62) #[] #[.pointer (some ⟨G.kB,0,none⟩)])) (go_keep)
   (first
     | (go_at_call 82;refine (newstore _).mono ?_;rintro e w5 ⟨rfl,hs,f5,z5⟩;have F5:=Lib.hid (show Fr0 W1 w5 from fr_undrew2 (fr_undrew2 f5));have N5:=hid2 (show SRep w5 (W1.heap.size+4) (emptySt W1.heap.size) from hs) (show w5.heap.size=W1.heap.size+5 from z5);have k0:=(G1.out.fr F5.out (fun _ _ q=>q) (fun q=>q)).facts.1.1;have kl:=(G1.out.fr F5.out (fun _ _ q=>q) (fun q=>q)).facts.2.2.1;clear hs f5 z5))
 rename_i hh
 clear hh
 obtain ⟨cs,k1,k2,k3⟩:=KK.out
 have F6:=Lib.hid (show Fr0 w (w5.alloc (.cells #[.func (Fn.func 62) #[] #[.pointer (some ⟨G.kB,0,none⟩)],.pointer (some ⟨w.heap.size,0,none⟩),.iface 178 (.pointer (some ⟨W1.heap.size+4,0,none⟩))] 163)) from (F1.out.trans0 F5.out).alloc _)
 have R0:=Lib.hid (show GRep (w5.alloc (.cells #[.func (Fn.func 62) #[] #[.pointer (some ⟨G.kB,0,none⟩)],.pointer (some ⟨w.heap.size,0,none⟩),.iface 178 (.pointer (some ⟨W1.heap.size+4,0,none⟩))] 163)) (emptyG w5.heap.size w.heap.size (W1.heap.size+4) G.kB G.hk ⟨false,G.ac,G.we,G.ro,false⟩ (emptySt W1.heap.size)) from
   GRep.emptyC (Cells.new w5 _ 163) ((TB.out.fr F5.out (fun q=>q)).alloc _) (N5.out.1.fr ((Fr.refl (fun _=>False) w5).alloc _) (fun q=>q) (fun _ _ q=>q)) (k1.fr F6.out (fun q=>q)) k2 k3 SZ.out.2.2 rfl (by have:=Z1.out;omega) (by have:=N5.out.2;omega))
 have O0:=Lib.hid (emptyC_own (gB:=w5.heap.size) (tB:=w.heap.size) (sB:=W1.heap.size+4) (kB:=G.kB) (hk:=G.hk) (t:=⟨false,G.ac,G.we,G.ro,false⟩) (n:=W1.heap.size) (Nat.le_refl _) rfl (by have:=Z1.out;omega) (by have:=N5.out.2;omega))
 clear k1 k2 k3 g0 l0 k0 kl
 go_wp2_with fail
 generalize w5.alloc (.cells #[.func (Fn.func 62) #[] #[.pointer (some ⟨G.kB,0,none⟩)],.pointer (some ⟨w.heap.size,0,none⟩),.iface 178 (.pointer (some ⟨W1.heap.size+4,0,none⟩))] 163)=W6 at *
 have EB0:=Lib.hid (show ∀ k∈(emptyG w5.heap.size w.heap.size (W1.heap.size+4) G.kB G.hk ⟨false,G.ac,G.we,G.ro,false⟩ (emptySt W1.heap.size)).own,EB≤k from fun k hk=>Nat.le_trans E0.out.size (O0.out k hk))
 have T6:=Lib.hid (show Two2 W6 G (emptyG w5.heap.size w.heap.size (W1.heap.size+4) G.kB G.hk ⟨false,G.ac,G.we,G.ro,false⟩ (emptySt W1.heap.size)) from
   ⟨H.out.fr F6.out (fun _ _ q=>q) (fun q=>q),R0.out,fun x hx hq=>by have:=O0.out x hq;have:=H.out.lt x hx;omega,fun hq=>by have:=O0.out _ hq;have:=SZ.out.2.2;omega,H.out.kn⟩)
 refine (uavf W6 G (emptyG w5.heap.size w.heap.size (W1.heap.size+4) G.kB G.hk ⟨false,G.ac,G.we,G.ro,false⟩ (emptySt W1.heap.size)) T6.out rfl EB eb (E0.out.fr F6.out (fun _ q=>q.elim)) EB0.out hbp hbl HOK.out).mono ?_
 rintro e w7 ⟨rfl,c7,pts,hp7,g7,t7⟩
 have A7:=hid3 hp7 g7 t7
 clear hp7 g7 t7
 have O7:=Lib.hid (show ∀ x∈({ (emptyG w5.heap.size w.heap.size (W1.heap.size+4) G.kB G.hk ⟨false,G.ac,G.we,G.ro,false⟩ (emptySt W1.heap.size)) with c:=c7,pts:=pts }:GS).own,w.heap.size≤x from fun x hx=>(A7.out.2.1.own x hx).elim (fun q=>O0.out x q) (fun q=>Nat.le_trans F6.out.size q))
 go_wp2_with fail
 refine (uaef w7 G { (emptyG w5.heap.size w.heap.size (W1.heap.size+4) G.kB G.hk ⟨false,G.ac,G.we,G.ro,false⟩ (emptySt W1.heap.size)) with c:=c7,pts:=pts } A7.out.2.2 HP.out.1 rfl rfl rfl A7.out.1 EB eb ((E0.out.fr F6.out (fun _ q=>q.elim)).fr A7.out.2.1.fr EB0.out) (fun k hk=>Nat.le_trans E0.out.size (O7.out k hk)) hbl).mono ?_
 rintro e w8 ⟨rfl,c8,lks,hl8,g8,t8⟩
 have A8:=hid3 hl8 g8 t8
 clear hl8 g8 t8
 go_wp2_with fail
 refine bodyPost_ret (v:=.tuple #[.iface 164 (.pointer (some ⟨w5.heap.size,0,none⟩)),.nilIface]) (by simp [results,Tryz.results203,go_sem, *]) rfl ⟨_,rfl,A8.out.2.2,⟨?_,?_,rfl,A7.out.1,?_⟩,fun x hx => ?_,?_⟩
 · exact HP.out.1.symm
 · exact HP.out.2.symm
 · show ((lks.map Lk.sl).map (SL.low G.dir)).Perm (G.st.ls.map (SL.low G.dir))
   rw [List.map_map]
   exact A8.out.1
 · exact (A8.out.2.1.own x hx).elim (fun q=>O7.out x q) (fun q=>Nat.le_trans (Nat.le_trans F6.out.size A7.out.2.1.fr.size) q)
 · exact (F6.out.trans A7.out.2.1.fr fun q hq=>.inr (O0.out q hq)).trans A8.out.2.1.fr fun q hq=>.inr (O7.out q hq)
end Go.Proofs.YtbafaadmlpamiaaGreatDoor
