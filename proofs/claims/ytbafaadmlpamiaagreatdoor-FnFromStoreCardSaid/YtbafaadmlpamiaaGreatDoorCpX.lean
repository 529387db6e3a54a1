import Derived.Test.YtbafaadmlpamiaaGreatDoorK3
import Derived.Test.YtbafaadmlpamiaaGreatDoorLike
set_option maxRecDepth 100000
set_option maxHeartbeats 8000000
set_option linter.unusedSimpArgs false
namespace Go.Proofs.YtbafaadmlpamiaaGreatDoor
open Go Go.Hy Go.RowKit
theorem mdClone (v : Value) (w : World) : (Go.method 419 162 v "Clone").run Tryz.prog w = .ok (178, v) w := by kernel_rfl
theorem mdAVF (v : Value) (w : World) : (Go.method 419 162 v "AddVerticesFrom").run Tryz.prog w = .ok (176, v) w := by kernel_rfl
theorem mdAEF (v : Value) (w : World) : (Go.method 419 162 v "AddEdgesFrom").run Tryz.prog w = .ok (174, v) w := by kernel_rfl
theorem dcop (how:Int) (hw:how=0∨how=1) (w:World) (b1 b2 b3 b4:Bool) (hk:Nat) (hh:hk≤2) (other:Bool) (a1:Option Addr) (n1 c1:Nat) (ds:List DoIn) (hd1:DosAt w a1 n1 c1 ds) (a2:Option Addr) (n2 c2:Nat) (es:List DoIn) (hd2:DosAt w a2 n2 c2 es) (EB:Nat) (eb:Nat→Addr) (E:ErrsOk w EB eb)
   (hn1:ds.length≤100) (hn2:es.length≤100) (hf1:∀ d∈ds,Fit true hk d) (hf2:∀ d∈es,Fit true hk d) (h4:∀ d∈es,d.op≠4) :
   Calls Tryz.prog 52 #[kagg true b1 b2 b3 b4 false hk,.slice a1 n1 c1,.slice a2 n2 c2,.int .u8 how,.bool other] w fun e w'=>∃ v1 v2,e=.returned (.tuple #[v1,v2]) ∧
     TellsAt w' w.heap.size v1 (tells (bif other then (kst true b1 b2 b3 b4 false hk).after ds else ((kst true b1 b2 b3 b4 false hk).after ds).after es)) ∧
     TellsAt w' w.heap.size v2 (tells (bif other then ((kst true b1 b2 b3 b4 false hk).after ds).after es else (kst true b1 b2 b3 b4 false hk).after ds))∧Fr0 w w':=by
 have D1:=Lib.hid hd1
 have D2:=Lib.hid hd2
 have H:=hid6 hh E hf1 hf2 h4 hn2
 obtain rfl:n1=ds.length:=hd1.len
 obtain rfl:n2=es.length:=hd2.len
 have KB0:=Lib.hid (Cells.new w #[.bool true,.bool b1,.bool b2,.bool b3,.bool b4,.bool false,.int .u8 hk] 37)
 have FB:=Lib.hid ((Fr.refl (fun _=>False) w).alloc (.cells #[.bool true,.bool b1,.bool b2,.bool b3,.bool b4,.bool false,.int .u8 hk] 37))
 have WZ:=Lib.hid (show (w.alloc (.cells #[.bool true,.bool b1,.bool b2,.bool b3,.bool b4,.bool false,.int .u8 hk] 37)).heap.size=w.heap.size+1 from by simp)
 have mC:=mdClone
 have mAV:=mdAVF
 have mAE:=mdAEF
 have HW:=Lib.hid hw
 clear hw hh E hf1 hf2 h4 hn2
 go_enter Tryz.func52,Tryz.ntmps52
 go_wp2_with fail
 generalize w.alloc (.cells #[.bool true,.bool b1,.bool b2,.bool b3,.bool b4,.bool false,.int .u8 hk] 37)=W at *
 refine (graphof W true b1 b2 b3 b4 false hk).mono ?_
 rintro e w2 ⟨G0,rfl,FR⟩
 have hd0:G0.dir=true:=FR.dir.trans (kst_dir true b1 b2 b3 b4 false hk)
 have hp0:G0.pr=false:=FR.pr.trans (kst_pr true b1 b2 b3 b4 false hk)
 have hs0:G0.st=kst true b1 b2 b3 b4 false hk:=by
   unfold GS.st kst
   rw [FR.dir,FR.pr,FR.hk,FR.pts,FR.lks]
   rfl
 have hv0:G0.val=.iface 162 (.pointer (some ⟨G0.gB,0,none⟩)):=by unfold GS.val;rw [hd0];rfl
 have F:=Lib.hid FR
 have Q0:=hid4 hd0 hp0 hs0 hv0
 rw [hv0]
 clear FR hd0 hp0 hs0 hv0
 go_wp2_with fail
 go_loopg [26] ds.length (fun k c wr=>∃ i G,k+i=ds.length∧c=.int .i64 (i:Nat)∧GStep w2 G0 wr G∧G.st=(kst true b1 b2 b3 b4 false hk).after (ds.take i))
 case atStart=>exact ⟨0,G0,rfl,rfl,⟨F.out.rep,Fr.refl _ _,fun x hx=>.inl hx,G0.same_refl⟩,Q0.out.2.2.1⟩
 case round =>
   obtain ⟨i,G,hki,rfl,g,hs⟩:=hrel
   have A:=hid3 hki g hs
   clear hki g hs
   have FW:=Lib.hid (show Fr0 W wr from F.out.fr.trans A.out.2.1.fr fun q hq=>.inr (F.out.new q hq))
   have FWW:=Lib.hid (FB.out.trans0 FW.out)
   have KB:=Lib.hid (KB0.out.fr FW.out (fun q=>q))
   by_cases hi:i < ds.length
   · have hg:=List.getElem?_eq_getElem hi
     obtain ⟨ob,pa,pn,pc,rfl,hob,q0,q1,q2,q3,q4,ok⟩:=(D1.out.fr FWW.out).at_ i _ hg
     generalize ds[i]=d at q0 q1 q2 q3 q4 hg ok
     have FA:=Lib.hid ((Fr.refl (fun _=>False) wr).alloc (.cells #[.int .u8 d.op,.string d.a,.string d.b,.int .i64 d.wt,.slice pa pn pc] 50))
     have HGI:=Lib.hid hg
     have hv:G.val=.iface 162 (.pointer (some ⟨G0.gB,0,none⟩)):=(same_val A.out.2.1.same).trans Q0.out.2.2.2
     have hc:=steps_ok EB eb (kst true b1 b2 b3 b4 false hk) ds (kst_bnd 4 true b1 b2 b3 b4 false hk) (by omega) (kst_pr ..) (fun x hx=>by rw [kst_dir];exact H.out.2.2.1 x hx) i d hg _ G true b1 b2 b3 b4 false hk pa pn pc (A.out.2.1.rep.fr FA.out (fun _ _ q=>q) (fun q=>q)) A.out.2.2 (by rw [A.out.2.1.same.2.2.2.2.1,F.out.hk];exact hash_any hk H.out.1) (H.out.2.1.fr (FWW.out.trans0 FA.out) (fun _ q=>q.elim)) (fun k hkk=>by
       have h2:=H.out.2.1.size
       have h3:=WZ.out
       rcases A.out.2.1.own k hkk with q|q
       · have:=F.out.new k q;omega
       · have:=F.out.fr.size;omega) (ok.fr FA.out)
     rw [hv] at hc
     have HC:=Lib.hid hc
     clear hc hg ok hv
     (have k0:=KB.out.cell 0 _ rfl;have k1:=KB.out.cell 1 _ rfl;have k2:=KB.out.cell 2 _ rfl;have k3:=KB.out.cell 3 _ rfl;have k4:=KB.out.cell 4 _ rfl;have k5:=KB.out.cell 5 _ rfl;have k6:=KB.out.cell 6 _ rfl)
     have kl:=KB.out.lt
     go_wp2_with fail
     refine HC.out.mono ?_
     rintro e w3 ⟨u,G',rfl, -,hst,g⟩
     have Z:=hid2 hst g
     clear hst g HC q0 q1 q2 q3 q4 k0 k1 k2 k3 k4 k5 k6 kl hob
     go_wp2_with fail
     go_roundg (gk - 1)
     case measure=>have:=A.out.1;omega
     case rel =>
       refine ⟨i+1,G',by have:=A.out.1;omega,by simp [w64p (Nat.le_trans hn1 (by decide)) hi],⟨Z.out.2.rep,(A.out.2.1.fr.trans0 FA.out).trans Z.out.2.fr fun q hq=>A.out.2.1.own q hq,fun x hx => ?_,same_tr A.out.2.1.same Z.out.2.same⟩,?_⟩
       · exact (Z.out.2.own x hx).elim (fun q=>A.out.2.1.own x q) (fun q=>.inr (Nat.le_trans (Nat.le_trans A.out.2.1.fr.size FA.out.size) q))
       · rw [Z.out.1,List.take_succ_eq_append_getElem hi,(List.getElem?_eq_some_iff.1 HGI.out).2,St.after_snoc]
   · have hi':i=ds.length:=by have:=A.out.1;omega
     subst hi'
     have hs1:G.st=(kst true b1 b2 b3 b4 false hk).after ds:=by have:=A.out.2.2;rw [List.take_length] at this;exact this
     have hgB:G.gB=G0.gB:=A.out.2.1.same.1
     have hdG:G.dir=true:=A.out.2.1.same.2.2.2.2.2.1.trans Q0.out.1
     have hpG:G.pr=false:=A.out.2.1.same.2.2.2.2.2.2.2.2.2.trans Q0.out.2.1
     have hkG:G.hk=hk:=A.out.2.1.same.2.2.2.2.1.trans F.out.hk
     have hfs:∀ d∈ds,Fit (kst true b1 b2 b3 b4 false hk).dir (kst true b1 b2 b3 b4 false hk).hk d:=fun x hx=>by rw [kst_dir];exact H.out.2.2.1 x hx
     have hbd:Bnd 4 ds.length G.st:=by
       have z:=(kst_bnd 4 true b1 b2 b3 b4 false hk).after ds fun d hd=>(hfs d hd).prs
       rw [Nat.zero_add,← hs1] at z
       exact z
     have hash:=hash_any hk H.out.1
     have hHC:HashC G.hk:=by rw [hkG];exact hash
     have hok:HOk G.st:=by rw [hs1];exact HOk.after (fun p hp=>by cases hp) ds hfs
     have hoG:∀ b∈G.own,W.heap.size≤b:=fun b hb=>(A.out.2.1.own b hb).elim (fun q=>F.out.new b q) (fun q=>Nat.le_trans F.out.fr.size q)
     have hbp:G.pts.length≤400000:=by have:=hbd.ps;unfold GS.st at this;simp at this;omega
     have hbl:G.lks.length≤400000:=by have:=hbd.ls;unfold GS.st at this;simp at this;omega
     have HOG:=Lib.hid (hok.graph A.out.2.1.rep hHC)
     have hcl:=dclone wr G A.out.2.1.rep hdG hpG EB eb (H.out.2.1.fr FWW.out (fun _ q=>q.elim)) hbp hbl HOG.out
     rw [hgB] at hcl
     have CL:=Lib.hid hcl
     have J:=hid6 hs1 hdG hpG hkG hbd hHC
     have OG:=Lib.hid hoG
     have VG:=Lib.hid (show G.val=.iface 162 (.pointer (some ⟨G0.gB,0,none⟩)) from (same_val A.out.2.1.same).trans Q0.out.2.2.2)
     have FS:=Lib.hid hfs
     have GB:=hid3 hgB hbp hbl
     clear hcl hs1 hgB hdG hpG hkG hbd hHC hok hoG hash hfs hbp hbl
     rcases HW.out with rfl|rfl
     focus
       go_wp2_with fail
       refine CL.out.mono ?_
       rintro e w5 ⟨GY,rfl,T,EQ,hown,f5⟩
       rw [show GY.val=.iface 162 (.pointer (some ⟨GY.gB,0,none⟩)) from by unfold GS.val;rw [show GY.dir=true from EQ.dir.trans J.out.2.1];rfl]
     rotate_left
     focus
       clear CL
       have NL:=newlike wr G A.out.2.1.rep
       rw [VG.out] at NL
       have NLH:=Lib.hid NL
       clear NL
       go_wp2_with fail
       refine NLH.out.mono ?_
       rintro e wn ⟨HN,rfl,FH⟩
       have FHH:=Lib.hid FH
       have hdH:HN.dir=true:=FH.dir.trans J.out.2.1
       have hpH:HN.pr=false:=FH.pr.trans J.out.2.2.1
       have DH:=hid2 hdH hpH
       have T0:=Lib.hid (show Two2 wn G HN from ⟨A.out.2.1.rep.fr FH.fr (fun _ _ q=>q) (fun q=>q),FH.rep,fun x hx hq=>by have:=FH.new x hq;have:=A.out.2.1.rep.lt x hx;omega,fun hq=>by have:=FH.new _ hq;have:=A.out.2.1.rep.kl;omega,by rw [FH.kb];exact A.out.2.1.rep.kn⟩)
       have EW:=Lib.hid (H.out.2.1.fr (FWW.out.trans0 FH.fr) (fun _ q=>q.elim))
       have hB0:∀ k∈HN.own,EB≤k:=fun k hk=>by have:=FH.new k hk;have:=H.out.2.1.size;have:=FWW.out.size;omega
       rw [show HN.val=.iface 162 (.pointer (some ⟨HN.gB,0,none⟩)) from by unfold GS.val;rw [hdH];rfl]
       have av:=davf wn G HN T0.out FH.pts EB eb EW.out hB0 GB.out.2.1 GB.out.2.2 (by rw [FH.hk];exact HOG.out)
       rw [GB.out.1] at av
       have AV:=Lib.hid av
       have HB0:=Lib.hid hB0
       clear av hdH hpH FH NLH hB0
       go_wp2_with fail
       refine AV.out.mono ?_
       rintro e wv ⟨rfl,c6,pts,hp6,g6,t6⟩
       have A6:=hid3 hp6 g6 t6
       have ae:=daef wv G { HN with c:=c6,pts:=pts } t6 J.out.2.1 DH.out.1 DH.out.2 FHH.out.lks hp6 EB eb (EW.out.fr g6.fr HB0.out) (fun k hk=>(g6.own k hk).elim (fun q=>HB0.out k q) (fun q=>Nat.le_trans EW.out.size q)) GB.out.2.2
       rw [GB.out.1] at ae
       have AE:=Lib.hid ae
       clear ae AV hp6 g6 t6
       go_wp2_with fail
       refine AE.out.mono ?_
       rintro e w5 ⟨rfl,c8,lks,hl8,g8,T⟩
       have f5:Fr0 wr w5:=(FHH.out.fr.trans A6.out.2.1.fr fun q hq=>.inr (FHH.out.new q hq)).trans g8.fr fun q hq=>.inr ((A6.out.2.1.own q hq).elim (fun z=>FHH.out.new q z) (fun z=>Nat.le_trans FHH.out.fr.size z))
       have hown:∀ x∈({ { HN with c:=c6,pts:=pts } with c:=c8,lks:=lks }:GS).own,wr.heap.size≤x:=fun x hx=>(g8.own x hx).elim (fun q=>(A6.out.2.1.own x q).elim (fun z=>FHH.out.new x z) (fun z=>Nat.le_trans FHH.out.fr.size z)) (fun q=>Nat.le_trans (Nat.le_trans FHH.out.fr.size A6.out.2.1.fr.size) q)
       have EQ:Eqv G.st ({ { HN with c:=c6,pts:=pts } with c:=c8,lks:=lks }:GS).st:=⟨DH.out.1.trans J.out.2.1.symm,DH.out.2.trans J.out.2.2.1.symm,FHH.out.hk,A6.out.1,by
         show ((lks.map Lk.sl).map (SL.low G.dir)).Perm (G.st.ls.map (SL.low G.dir))
         rw [List.map_map]
         exact hl8⟩
       obtain ⟨GY,hGY⟩ : ∃ GY:GS,GY={ { HN with c:=c6,pts:=pts } with c:=c8,lks:=lks }:=⟨_,rfl⟩
       have hgy:HN.gB=GY.gB:=by rw [hGY]
       rw [← hGY] at T hown EQ
       clear hl8 g8 hGY AE
       rw [hgy]
       clear hgy
     all_goals
       have VY:=Lib.hid (show GY.val=.iface 162 (.pointer (some ⟨GY.gB,0,none⟩)) from by unfold GS.val;rw [show GY.dir=true from EQ.dir.trans J.out.2.1];rfl)
       have F5:=Lib.hid (FW.out.trans0 f5)
       have FW5:=Lib.hid (FWW.out.trans0 f5)
       have hst0:G.st.dir=true:=J.out.2.1
       have hst1:G.st.hk=hk:=J.out.2.2.2.1
       have CP:=Lib.hid (show Cp2 w5 W.heap.size ds.length G GY from ⟨T,EQ,OG.out,fun x hx=>Nat.le_trans FW.out.size (hown x hx),J.out.2.2.2.2.2,by rw [J.out.1];exact wf_aftC ds _ (wf_empty _ rfl rfl),by rw [J.out.1];exact nl_aftC ds _ (fun _ l h=>by cases h) FS.out,J.out.2.2.2.2.1,J.out.2.2.1⟩)
       obtain ⟨GM,hGM⟩ : ∃ GM,GM=bif other then GY else G:=⟨_,rfl⟩
       have hfM:∀ d∈es,Fit G.st.dir G.st.hk d:=fun d hd=>by rw [hst0,hst1];exact H.out.2.2.2.1 d hd
       have hne:ds.length+es.length≤1000:=by have:=H.out.2.2.2.2.2;omega
       have FIN:=Lib.hid (show ∀ (wr:World) (G':GS),GStep w5 GM wr G'→G'.st=GM.st.after es→∃ GA GB,Pr2 wr W.heap.size (.iface 162 (.pointer (some ⟨G0.gB,0,none⟩))) (.iface 162 (.pointer (some ⟨GY.gB,0,none⟩))) (bif other then (kst true b1 b2 b3 b4 false hk).after ds else ((kst true b1 b2 b3 b4 false hk).after ds).after es) (bif other then ((kst true b1 b2 b3 b4 false hk).after ds).after es else (kst true b1 b2 b3 b4 false hk).after ds) GA GB from by
         intro wr G' g hs
         subst hGM
         rw [← J.out.1,← VG.out,← VY.out]
         cases other with
         | false=>exact ⟨G',GY,CP.out.moveX F5.out.size es hne hfM g hs⟩
         | true=>exact ⟨G,G',CP.out.moveY F5.out.size es hne hfM H.out.2.2.2.2.1 g hs⟩)
       have VM:=Lib.hid (show GM.val=bif other then .iface 162 (.pointer (some ⟨GY.gB,0,none⟩)) else .iface 162 (.pointer (some ⟨G0.gB,0,none⟩)) from by subst hGM;rw [← VG.out,← VY.out];cases other <;> rfl)
       have MM:=hid4 (show GRep w5 GM from by subst hGM;cases other;exact T.a;exact T.b) (show ∀ b∈GM.own,W.heap.size≤b from by subst hGM;cases other;exact CP.out.ox;exact CP.out.oy) (show HashC GM.hk from by subst hGM;cases other;exact CP.out.hx;exact (show GY.hk=G.hk from EQ.hk)▸CP.out.hx)
         (show ∀ i d,es[i]? = some d→StepC EB eb (GM.st.after (es.take i)) d from by
           subst hGM
           cases other with
           | false=>exact fun i d=>steps_ok EB eb G.st es CP.out.bnd hne CP.out.pr hfM i d
           | true=>exact fun i d=>steps_ok EB eb GY.st es (EQ.bnd CP.out.bnd) hne (EQ.pr.trans CP.out.pr) (by rw [EQ.dir,EQ.hk];exact hfM) i d)
       clear T EQ hown f5 hst0 hst1 hfM hne hGM
       cases other
       all_goals
         go_wp2_with fail
         go_loopg [62] es.length (fun k c wr=>∃ i G',k+i=es.length∧c=.int .i64 (i:Nat)∧GStep w5 GM wr G'∧G'.st=GM.st.after (es.take i))
         case atStart=>exact ⟨0,GM,rfl,rfl,⟨MM.out.1,Fr.refl _ _,fun x hx=>.inl hx,GM.same_refl⟩,rfl⟩
         case round =>
           obtain ⟨i,G',hki,rfl,g,hs⟩:=hrel
           have B:=hid3 hki g hs
           clear hki g hs
           have GW:=Lib.hid (show Fr0 W wr from F5.out.trans B.out.2.1.fr fun q hq=>.inr (MM.out.2.1 q hq))
           have GWW:=Lib.hid (FB.out.trans0 GW.out)
           have KB:=Lib.hid (KB0.out.fr GW.out (fun q=>q))
           have EW:=Lib.hid (H.out.2.1.fr GWW.out (fun _ q=>q.elim))
           by_cases hi:i < es.length
           · have hg:=List.getElem?_eq_getElem hi
             obtain ⟨ob,pa,pn,pc,rfl,hob,q0,q1,q2,q3,q4,ok⟩:=(D2.out.fr GWW.out).at_ i _ hg
             generalize es[i]=d at q0 q1 q2 q3 q4 hg ok
             have FA:=Lib.hid ((Fr.refl (fun _=>False) wr).alloc (.cells #[.int .u8 d.op,.string d.a,.string d.b,.int .i64 d.wt,.slice pa pn pc] 50))
             have HGI:=Lib.hid hg
             have hv:=(same_val B.out.2.1.same).trans VM.out
             simp only [cond_true,cond_false] at hv
             have hc:=MM.out.2.2.2 i d hg _ G' true b1 b2 b3 b4 false hk pa pn pc (B.out.2.1.rep.fr FA.out (fun _ _ q=>q) (fun q=>q)) B.out.2.2 (by rw [B.out.2.1.same.2.2.2.2.1];exact MM.out.2.2.1) (EW.out.fr FA.out (fun _ q=>q.elim)) (fun k hkk=>by
               have h2:=H.out.2.1.size
               have h3:=WZ.out
               rcases B.out.2.1.own k hkk with q|q
               · have:=MM.out.2.1 k q;omega
               · have:=F5.out.size;omega) (ok.fr FA.out)
             rw [hv] at hc
             have HC:=Lib.hid hc
             clear hc hg ok hv
             (have k0:=KB.out.cell 0 _ rfl;have k1:=KB.out.cell 1 _ rfl;have k2:=KB.out.cell 2 _ rfl;have k3:=KB.out.cell 3 _ rfl;have k4:=KB.out.cell 4 _ rfl;have k5:=KB.out.cell 5 _ rfl;have k6:=KB.out.cell 6 _ rfl)
             have kl:=KB.out.lt
             go_wp2_with fail
             refine HC.out.mono ?_
             rintro e w3 ⟨u,G3,rfl, -,hst,g⟩
             have Z:=hid2 hst g
             clear hst g HC q0 q1 q2 q3 q4 k0 k1 k2 k3 k4 k5 k6 kl hob
             go_wp2_with fail
             go_roundg (gk - 1)
             case measure=>have:=B.out.1;omega
             case rel =>
               refine ⟨i+1,G3,by have:=B.out.1;omega,by simp [w64p (Nat.le_trans H.out.2.2.2.2.2 (by decide)) hi],⟨Z.out.2.rep,(B.out.2.1.fr.trans0 FA.out).trans Z.out.2.fr fun q hq=>B.out.2.1.own q hq,fun x hx => ?_,same_tr B.out.2.1.same Z.out.2.same⟩,?_⟩
               · exact (Z.out.2.own x hx).elim (fun q=>B.out.2.1.own x q) (fun q=>.inr (Nat.le_trans (Nat.le_trans B.out.2.1.fr.size FA.out.size) q))
               · rw [Z.out.1,List.take_succ_eq_append_getElem hi,(List.getElem?_eq_some_iff.1 HGI.out).2,St.after_snoc]
           · have hi':i=es.length:=by have:=B.out.1;omega
             subst hi'
             obtain ⟨GA,GB,P⟩:=FIN.out wr G' B.out.2.1 (by have:=B.out.2.2;rw [List.take_length] at this;exact this)
             have PP2:=Lib.hid P
             have HW:=Lib.hid (show w.heap.size+1≤wr.heap.size from by have:=WZ.out;have:=GW.out.size;omega)
             obtain ⟨nA,hnA,bA⟩:=P.ba
             obtain ⟨nB,hnB,bB⟩:=P.bb
             have okA:=ask_ok EB eb GA.st bA hnA P.pa
             have okB:=Lib.hid (ask_ok EB eb GB.st bB hnB P.pb)
             have lB:=Lib.hid (show (sortK GB.st.keys).length≤100000 from by rw [sortK_len];unfold St.keys;rw [List.length_map];have:=bB.ps;omega)
             have t1:=tell74 wr GA true b1 b2 b3 b4 false hk w.heap.size P.two.a P.ha EB eb EW.out (fun k hkk=>by have h2:=H.out.2.1.size;have h3:=WZ.out;have:=P.oa k hkk;omega) KB.out (fun q=>by have h3:=WZ.out;have:=P.oa _ q;omega) okA.1 okA.2 (by rw [sortK_len];unfold St.keys;rw [List.length_map];have:=bA.ps;omega)
             rw [P.va] at t1
             have T1:=Lib.hid t1
             clear t1 okA bA bB P
             go_wp2_with fail
             refine T1.out.mono ?_
             rintro e w6 ⟨v1,GA',vs1,rfl,R1⟩
             have X1:=Lib.hid R1
             have P6:=Lib.hid (PP2.out.two.left R1.step)
             have KB6:=Lib.hid (KB.out.fr R1.step.fr (fun q=>by have h3:=WZ.out;have:=PP2.out.oa _ q;omega))
             have E6:=Lib.hid (EW.out.fr R1.step.fr (fun k hkk=>by have h2:=H.out.2.1.size;have h3:=WZ.out;have:=PP2.out.oa k hkk;omega))
             have t2:=tell74 w6 GB true b1 b2 b3 b4 false hk w.heap.size P6.out.b PP2.out.hb EB eb E6.out (fun k hkk=>by have h2:=H.out.2.1.size;have h3:=WZ.out;have:=PP2.out.ob k hkk;omega) KB6.out (fun q=>by have h3:=WZ.out;have:=PP2.out.ob _ q;omega) okB.out.1 okB.out.2 lB.out
             rw [PP2.out.vb] at t2
             have T2:=Lib.hid t2
             clear t2 R1 T1
             go_wp2_with fail
             refine T2.out.mono ?_
             rintro e w7 ⟨v2,GB',vs2,rfl,R2⟩
             have X2:=Lib.hid R2
             clear R2 T2
             go_wp2_with fail
             refine bodyPost_ret (v:=.tuple #[v1,v2]) (by simp [results,Tryz.results52,go_sem, *]) rfl ⟨v1,v2,rfl,?_,?_,?_⟩
             · exact X1.out.tellsAt PP2.out.ta (by have:=HW.out;omega) X2.out.step.fr fun q hq=>PP2.out.two.b.lt q hq
             · exact X2.out.tellsAt PP2.out.tb (by have:=HW.out;have:=X1.out.step.fr.size;omega) (Fr.refl (fun _=>False) w7) fun _ q=>q.elim
             · exact (GWW.out.trans X1.out.step.fr fun q hq=>.inr (by have h3:=WZ.out;have:=PP2.out.oa q hq;omega)).trans X2.out.step.fr fun q hq=>.inr (by have h3:=WZ.out;have:=PP2.out.ob q hq;omega)
theorem muClone (v : Value) (w : World) : (Go.method 419 164 v "Clone").run Tryz.prog w = .ok (203, v) w := by kernel_rfl
theorem muAVF (v : Value) (w : World) : (Go.method 419 164 v "AddVerticesFrom").run Tryz.prog w = .ok (201, v) w := by kernel_rfl
theorem muAEF (v : Value) (w : World) : (Go.method 419 164 v "AddEdgesFrom").run Tryz.prog w = .ok (199, v) w := by kernel_rfl
theorem ucop (how:Int) (hw:how=0∨how=1) (w:World) (b1 b2 b3 b4:Bool) (hk:Nat) (hh:hk≤2) (other:Bool) (a1:Option Addr) (n1 c1:Nat) (ds:List DoIn) (hd1:DosAt w a1 n1 c1 ds) (a2:Option Addr) (n2 c2:Nat) (es:List DoIn) (hd2:DosAt w a2 n2 c2 es) (EB:Nat) (eb:Nat→Addr) (E:ErrsOk w EB eb)
   (hn1:ds.length≤100) (hn2:es.length≤100) (hf1:∀ d∈ds,Fit false hk d) (hf2:∀ d∈es,Fit false hk d) (h4:∀ d∈es,d.op≠4) :
   Calls Tryz.prog 52 #[kagg false b1 b2 b3 b4 false hk,.slice a1 n1 c1,.slice a2 n2 c2,.int .u8 how,.bool other] w fun e w'=>∃ v1 v2,e=.returned (.tuple #[v1,v2]) ∧
     TellsAt w' w.heap.size v1 (tells (bif other then (kst false b1 b2 b3 b4 false hk).after ds else ((kst false b1 b2 b3 b4 false hk).after ds).after es)) ∧
     TellsAt w' w.heap.size v2 (tells (bif other then ((kst false b1 b2 b3 b4 false hk).after ds).after es else (kst false b1 b2 b3 b4 false hk).after ds))∧Fr0 w w':=by
 have D1:=Lib.hid hd1
 have D2:=Lib.hid hd2
 have H:=hid6 hh E hf1 hf2 h4 hn2
 obtain rfl:n1=ds.length:=hd1.len
 obtain rfl:n2=es.length:=hd2.len
 have KB0:=Lib.hid (Cells.new w #[.bool false,.bool b1,.bool b2,.bool b3,.bool b4,.bool false,.int .u8 hk] 37)
 have FB:=Lib.hid ((Fr.refl (fun _=>False) w).alloc (.cells #[.bool false,.bool b1,.bool b2,.bool b3,.bool b4,.bool false,.int .u8 hk] 37))
 have WZ:=Lib.hid (show (w.alloc (.cells #[.bool false,.bool b1,.bool b2,.bool b3,.bool b4,.bool false,.int .u8 hk] 37)).heap.size=w.heap.size+1 from by simp)
 have mC:=muClone
 have mAV:=muAVF
 have mAE:=muAEF
 have HW:=Lib.hid hw
 clear hw hh E hf1 hf2 h4 hn2
 go_enter Tryz.func52,Tryz.ntmps52
 go_wp2_with fail
 generalize w.alloc (.cells #[.bool false,.bool b1,.bool b2,.bool b3,.bool b4,.bool false,.int .u8 hk] 37)=W at *
 refine (graphof W false b1 b2 b3 b4 false hk).mono ?_
 rintro e w2 ⟨G0,rfl,FR⟩
 have hd0:G0.dir=false:=FR.dir.trans (kst_dir false b1 b2 b3 b4 false hk)
 have hp0:G0.pr=false:=FR.pr.trans (kst_pr false b1 b2 b3 b4 false hk)
 have hs0:G0.st=kst false b1 b2 b3 b4 false hk:=by
   unfold GS.st kst
   rw [FR.dir,FR.pr,FR.hk,FR.pts,FR.lks]
   rfl
 have hv0:G0.val=.iface 164 (.pointer (some ⟨G0.gB,0,none⟩)):=by unfold GS.val;rw [hd0];rfl
 have F:=Lib.hid FR
 have Q0:=hid4 hd0 hp0 hs0 hv0
 rw [hv0]
 clear FR hd0 hp0 hs0 hv0
 go_wp2_with fail
 go_loopg [26] ds.length (fun k c wr=>∃ i G,k+i=ds.length∧c=.int .i64 (i:Nat)∧GStep w2 G0 wr G∧G.st=(kst false b1 b2 b3 b4 false hk).after (ds.take i))
 case atStart=>exact ⟨0,G0,rfl,rfl,⟨F.out.rep,Fr.refl _ _,fun x hx=>.inl hx,G0.same_refl⟩,Q0.out.2.2.1⟩
 case round =>
   obtain ⟨i,G,hki,rfl,g,hs⟩:=hrel
   have A:=hid3 hki g hs
   clear hki g hs
   have FW:=Lib.hid (show Fr0 W wr from F.out.fr.trans A.out.2.1.fr fun q hq=>.inr (F.out.new q hq))
   have FWW:=Lib.hid (FB.out.trans0 FW.out)
   have KB:=Lib.hid (KB0.out.fr FW.out (fun q=>q))
   by_cases hi:i < ds.length
   · have hg:=List.getElem?_eq_getElem hi
     obtain ⟨ob,pa,pn,pc,rfl,hob,q0,q1,q2,q3,q4,ok⟩:=(D1.out.fr FWW.out).at_ i _ hg
     generalize ds[i]=d at q0 q1 q2 q3 q4 hg ok
     have FA:=Lib.hid ((Fr.refl (fun _=>False) wr).alloc (.cells #[.int .u8 d.op,.string d.a,.string d.b,.int .i64 d.wt,.slice pa pn pc] 50))
     have HGI:=Lib.hid hg
     have hv:G.val=.iface 164 (.pointer (some ⟨G0.gB,0,none⟩)):=(same_val A.out.2.1.same).trans Q0.out.2.2.2
     have hc:=steps_ok EB eb (kst false b1 b2 b3 b4 false hk) ds (kst_bnd 4 false b1 b2 b3 b4 false hk) (by omega) (kst_pr ..) (fun x hx=>by rw [kst_dir];exact H.out.2.2.1 x hx) i d hg _ G false b1 b2 b3 b4 false hk pa pn pc (A.out.2.1.rep.fr FA.out (fun _ _ q=>q) (fun q=>q)) A.out.2.2 (by rw [A.out.2.1.same.2.2.2.2.1,F.out.hk];exact hash_any hk H.out.1) (H.out.2.1.fr (FWW.out.trans0 FA.out) (fun _ q=>q.elim)) (fun k hkk=>by
       have h2:=H.out.2.1.size
       have h3:=WZ.out
       rcases A.out.2.1.own k hkk with q|q
       · have:=F.out.new k q;omega
       · have:=F.out.fr.size;omega) (ok.fr FA.out)
     rw [hv] at hc
     have HC:=Lib.hid hc
     clear hc hg ok hv
     (have k0:=KB.out.cell 0 _ rfl;have k1:=KB.out.cell 1 _ rfl;have k2:=KB.out.cell 2 _ rfl;have k3:=KB.out.cell 3 _ rfl;have k4:=KB.out.cell 4 _ rfl;have k5:=KB.out.cell 5 _ rfl;have k6:=KB.out.cell 6 _ rfl)
     have kl:=KB.out.lt
     go_wp2_with fail
     refine HC.out.mono ?_
     rintro e w3 ⟨u,G',rfl, -,hst,g⟩
     have Z:=hid2 hst g
     clear hst g HC q0 q1 q2 q3 q4 k0 k1 k2 k3 k4 k5 k6 kl hob
     go_wp2_with fail
     go_roundg (gk - 1)
     case measure=>have:=A.out.1;omega
     case rel =>
       refine ⟨i+1,G',by have:=A.out.1;omega,by simp [w64p (Nat.le_trans hn1 (by decide)) hi],⟨Z.out.2.rep,(A.out.2.1.fr.trans0 FA.out).trans Z.out.2.fr fun q hq=>A.out.2.1.own q hq,fun x hx => ?_,same_tr A.out.2.1.same Z.out.2.same⟩,?_⟩
       · exact (Z.out.2.own x hx).elim (fun q=>A.out.2.1.own x q) (fun q=>.inr (Nat.le_trans (Nat.le_trans A.out.2.1.fr.size FA.out.size) q))
       · rw [Z.out.1,List.take_succ_eq_append_getElem hi,(List.getElem?_eq_some_iff.1 HGI.out).2,St.after_snoc]
   · have hi':i=ds.length:=by have:=A.out.1;omega
     subst hi'
     have hs1:G.st=(kst false b1 b2 b3 b4 false hk).after ds:=by have:=A.out.2.2;rw [List.take_length] at this;exact this
     have hgB:G.gB=G0.gB:=A.out.2.1.same.1
     have hdG:G.dir=false:=A.out.2.1.same.2.2.2.2.2.1.trans Q0.out.1
     have hpG:G.pr=false:=A.out.2.1.same.2.2.2.2.2.2.2.2.2.trans Q0.out.2.1
     have hkG:G.hk=hk:=A.out.2.1.same.2.2.2.2.1.trans F.out.hk
     have hfs:∀ d∈ds,Fit (kst false b1 b2 b3 b4 false hk).dir (kst false b1 b2 b3 b4 false hk).hk d:=fun x hx=>by rw [kst_dir];exact H.out.2.2.1 x hx
     have hbd:Bnd 4 ds.length G.st:=by
       have z:=(kst_bnd 4 false b1 b2 b3 b4 false hk).after ds fun d hd=>(hfs d hd).prs
       rw [Nat.zero_add,← hs1] at z
       exact z
     have hash:=hash_any hk H.out.1
     have hHC:HashC G.hk:=by rw [hkG];exact hash
     have hok:HOk G.st:=by rw [hs1];exact HOk.after (fun p hp=>by cases hp) ds hfs
     have hoG:∀ b∈G.own,W.heap.size≤b:=fun b hb=>(A.out.2.1.own b hb).elim (fun q=>F.out.new b q) (fun q=>Nat.le_trans F.out.fr.size q)
     have hbp:G.pts.length≤400000:=by have:=hbd.ps;unfold GS.st at this;simp at this;omega
     have hbl:G.lks.length≤400000:=by have:=hbd.ls;unfold GS.st at this;simp at this;omega
     have HOG:=Lib.hid (hok.graph A.out.2.1.rep hHC)
     have hcl:=uclone wr G A.out.2.1.rep hdG hpG EB eb (H.out.2.1.fr FWW.out (fun _ q=>q.elim)) hbp hbl HOG.out
     rw [hgB] at hcl
     have CL:=Lib.hid hcl
     have J:=hid6 hs1 hdG hpG hkG hbd hHC
     have OG:=Lib.hid hoG
     have VG:=Lib.hid (show G.val=.iface 164 (.pointer (some ⟨G0.gB,0,none⟩)) from (same_val A.out.2.1.same).trans Q0.out.2.2.2)
     have FS:=Lib.hid hfs
     have GB:=hid3 hgB hbp hbl
     clear hcl hs1 hgB hdG hpG hkG hbd hHC hok hoG hash hfs hbp hbl
     rcases HW.out with rfl|rfl
     focus
       go_wp2_with fail
       refine CL.out.mono ?_
       rintro e w5 ⟨GY,rfl,T,EQ,hown,f5⟩
       rw [show GY.val=.iface 164 (.pointer (some ⟨GY.gB,0,none⟩)) from by unfold GS.val;rw [show GY.dir=false from EQ.dir.trans J.out.2.1];rfl]
     rotate_left
     focus
       clear CL
       have NL:=newlike wr G A.out.2.1.rep
       rw [VG.out] at NL
       have NLH:=Lib.hid NL
       clear NL
       go_wp2_with fail
       refine NLH.out.mono ?_
       rintro e wn ⟨HN,rfl,FH⟩
       have FHH:=Lib.hid FH
       have hdH:HN.dir=false:=FH.dir.trans J.out.2.1
       have hpH:HN.pr=false:=FH.pr.trans J.out.2.2.1
       have DH:=hid2 hdH hpH
       have T0:=Lib.hid (show Two2 wn G HN from ⟨A.out.2.1.rep.fr FH.fr (fun _ _ q=>q) (fun q=>q),FH.rep,fun x hx hq=>by have:=FH.new x hq;have:=A.out.2.1.rep.lt x hx;omega,fun hq=>by have:=FH.new _ hq;have:=A.out.2.1.rep.kl;omega,by rw [FH.kb];exact A.out.2.1.rep.kn⟩)
       have EW:=Lib.hid (H.out.2.1.fr (FWW.out.trans0 FH.fr) (fun _ q=>q.elim))
       have hB0:∀ k∈HN.own,EB≤k:=fun k hk=>by have:=FH.new k hk;have:=H.out.2.1.size;have:=FWW.out.size;omega
       rw [show HN.val=.iface 164 (.pointer (some ⟨HN.gB,0,none⟩)) from by unfold GS.val;rw [hdH];rfl]
       have av:=uavf wn G HN T0.out FH.pts EB eb EW.out hB0 GB.out.2.1 GB.out.2.2 (by rw [FH.hk];exact HOG.out)
       rw [GB.out.1] at av
       have AV:=Lib.hid av
       have HB0:=Lib.hid hB0
       clear av hdH hpH FH NLH hB0
       go_wp2_with fail
       refine AV.out.mono ?_
       rintro e wv ⟨rfl,c6,pts,hp6,g6,t6⟩
       have A6:=hid3 hp6 g6 t6
       have ae:=uaef wv G { HN with c:=c6,pts:=pts } t6 J.out.2.1 DH.out.1 DH.out.2 FHH.out.lks hp6 EB eb (EW.out.fr g6.fr HB0.out) (fun k hk=>(g6.own k hk).elim (fun q=>HB0.out k q) (fun q=>Nat.le_trans EW.out.size q)) GB.out.2.2
       rw [GB.out.1] at ae
       have AE:=Lib.hid ae
       clear ae AV hp6 g6 t6
       go_wp2_with fail
       refine AE.out.mono ?_
       rintro e w5 ⟨rfl,c8,lks,hl8,g8,T⟩
       have f5:Fr0 wr w5:=(FHH.out.fr.trans A6.out.2.1.fr fun q hq=>.inr (FHH.out.new q hq)).trans g8.fr fun q hq=>.inr ((A6.out.2.1.own q hq).elim (fun z=>FHH.out.new q z) (fun z=>Nat.le_trans FHH.out.fr.size z))
       have hown:∀ x∈({ { HN with c:=c6,pts:=pts } with c:=c8,lks:=lks }:GS).own,wr.heap.size≤x:=fun x hx=>(g8.own x hx).elim (fun q=>(A6.out.2.1.own x q).elim (fun z=>FHH.out.new x z) (fun z=>Nat.le_trans FHH.out.fr.size z)) (fun q=>Nat.le_trans (Nat.le_trans FHH.out.fr.size A6.out.2.1.fr.size) q)
       have EQ:Eqv G.st ({ { HN with c:=c6,pts:=pts } with c:=c8,lks:=lks }:GS).st:=⟨DH.out.1.trans J.out.2.1.symm,DH.out.2.trans J.out.2.2.1.symm,FHH.out.hk,A6.out.1,by
         show ((lks.map Lk.sl).map (SL.low G.dir)).Perm (G.st.ls.map (SL.low G.dir))
         rw [List.map_map]
         exact hl8⟩
       obtain ⟨GY,hGY⟩ : ∃ GY:GS,GY={ { HN with c:=c6,pts:=pts } with c:=c8,lks:=lks }:=⟨_,rfl⟩
       have hgy:HN.gB=GY.gB:=by rw [hGY]
       rw [← hGY] at T hown EQ
       clear hl8 g8 hGY AE
       rw [hgy]
       clear hgy
     all_goals
       have VY:=Lib.hid (show GY.val=.iface 164 (.pointer (some ⟨GY.gB,0,none⟩)) from by unfold GS.val;rw [show GY.dir=false from EQ.dir.trans J.out.2.1];rfl)
       have F5:=Lib.hid (FW.out.trans0 f5)
       have FW5:=Lib.hid (FWW.out.trans0 f5)
       have hst0:G.st.dir=false:=J.out.2.1
       have hst1:G.st.hk=hk:=J.out.2.2.2.1
       have CP:=Lib.hid (show Cp2 w5 W.heap.size ds.length G GY from ⟨T,EQ,OG.out,fun x hx=>Nat.le_trans FW.out.size (hown x hx),J.out.2.2.2.2.2,by rw [J.out.1];exact wf_aftC ds _ (wf_empty _ rfl rfl),by rw [J.out.1];exact nl_aftC ds _ (fun _ l h=>by cases h) FS.out,J.out.2.2.2.2.1,J.out.2.2.1⟩)
       obtain ⟨GM,hGM⟩ : ∃ GM,GM=bif other then GY else G:=⟨_,rfl⟩
       have hfM:∀ d∈es,Fit G.st.dir G.st.hk d:=fun d hd=>by rw [hst0,hst1];exact H.out.2.2.2.1 d hd
       have hne:ds.length+es.length≤1000:=by have:=H.out.2.2.2.2.2;omega
       have FIN:=Lib.hid (show ∀ (wr:World) (G':GS),GStep w5 GM wr G'→G'.st=GM.st.after es→∃ GA GB,Pr2 wr W.heap.size (.iface 164 (.pointer (some ⟨G0.gB,0,none⟩))) (.iface 164 (.pointer (some ⟨GY.gB,0,none⟩))) (bif other then (kst false b1 b2 b3 b4 false hk).after ds else ((kst false b1 b2 b3 b4 false hk).after ds).after es) (bif other then ((kst false b1 b2 b3 b4 false hk).after ds).after es else (kst false b1 b2 b3 b4 false hk).after ds) GA GB from by
         intro wr G' g hs
         subst hGM
         rw [← J.out.1,← VG.out,← VY.out]
         cases other with
         | false=>exact ⟨G',GY,CP.out.moveX F5.out.size es hne hfM g hs⟩
         | true=>exact ⟨G,G',CP.out.moveY F5.out.size es hne hfM H.out.2.2.2.2.1 g hs⟩)
       have VM:=Lib.hid (show GM.val=bif other then .iface 164 (.pointer (some ⟨GY.gB,0,none⟩)) else .iface 164 (.pointer (some ⟨G0.gB,0,none⟩)) from by subst hGM;rw [← VG.out,← VY.out];cases other <;> rfl)
       have MM:=hid4 (show GRep w5 GM from by subst hGM;cases other;exact T.a;exact T.b) (show ∀ b∈GM.own,W.heap.size≤b from by subst hGM;cases other;exact CP.out.ox;exact CP.out.oy) (show HashC GM.hk from by subst hGM;cases other;exact CP.out.hx;exact (show GY.hk=G.hk from EQ.hk)▸CP.out.hx)
         (show ∀ i d,es[i]? = some d→StepC EB eb (GM.st.after (es.take i)) d from by
           subst hGM
           cases other with
           | false=>exact fun i d=>steps_ok EB eb G.st es CP.out.bnd hne CP.out.pr hfM i d
           | true=>exact fun i d=>steps_ok EB eb GY.st es (EQ.bnd CP.out.bnd) hne (EQ.pr.trans CP.out.pr) (by rw [EQ.dir,EQ.hk];exact hfM) i d)
       clear T EQ hown f5 hst0 hst1 hfM hne hGM
       cases other
       all_goals
         go_wp2_with fail
         go_loopg [62] es.length (fun k c wr=>∃ i G',k+i=es.length∧c=.int .i64 (i:Nat)∧GStep w5 GM wr G'∧G'.st=GM.st.after (es.take i))
         case atStart=>exact ⟨0,GM,rfl,rfl,⟨MM.out.1,Fr.refl _ _,fun x hx=>.inl hx,GM.same_refl⟩,rfl⟩
         case round =>
           obtain ⟨i,G',hki,rfl,g,hs⟩:=hrel
           have B:=hid3 hki g hs
           clear hki g hs
           have GW:=Lib.hid (show Fr0 W wr from F5.out.trans B.out.2.1.fr fun q hq=>.inr (MM.out.2.1 q hq))
           have GWW:=Lib.hid (FB.out.trans0 GW.out)
           have KB:=Lib.hid (KB0.out.fr GW.out (fun q=>q))
           have EW:=Lib.hid (H.out.2.1.fr GWW.out (fun _ q=>q.elim))
           by_cases hi:i < es.length
           · have hg:=List.getElem?_eq_getElem hi
             obtain ⟨ob,pa,pn,pc,rfl,hob,q0,q1,q2,q3,q4,ok⟩:=(D2.out.fr GWW.out).at_ i _ hg
             generalize es[i]=d at q0 q1 q2 q3 q4 hg ok
             have FA:=Lib.hid ((Fr.refl (fun _=>False) wr).alloc (.cells #[.int .u8 d.op,.string d.a,.string d.b,.int .i64 d.wt,.slice pa pn pc] 50))
             have HGI:=Lib.hid hg
             have hv:=(same_val B.out.2.1.same).trans VM.out
             simp only [cond_true,cond_false] at hv
             have hc:=MM.out.2.2.2 i d hg _ G' false b1 b2 b3 b4 false hk pa pn pc (B.out.2.1.rep.fr FA.out (fun _ _ q=>q) (fun q=>q)) B.out.2.2 (by rw [B.out.2.1.same.2.2.2.2.1];exact MM.out.2.2.1) (EW.out.fr FA.out (fun _ q=>q.elim)) (fun k hkk=>by
               have h2:=H.out.2.1.size
               have h3:=WZ.out
               rcases B.out.2.1.own k hkk with q|q
               · have:=MM.out.2.1 k q;omega
               · have:=F5.out.size;omega) (ok.fr FA.out)
             rw [hv] at hc
             have HC:=Lib.hid hc
             clear hc hg ok hv
             (have k0:=KB.out.cell 0 _ rfl;have k1:=KB.out.cell 1 _ rfl;have k2:=KB.out.cell 2 _ rfl;have k3:=KB.out.cell 3 _ rfl;have k4:=KB.out.cell 4 _ rfl;have k5:=KB.out.cell 5 _ rfl;have k6:=KB.out.cell 6 _ rfl)
             have kl:=KB.out.lt
             go_wp2_with fail
             refine HC.out.mono ?_
             rintro e w3 ⟨u,G3,rfl, -,hst,g⟩
             have Z:=hid2 hst g
             clear hst g HC q0 q1 q2 q3 q4 k0 k1 k2 k3 k4 k5 k6 kl hob
             go_wp2_with fail
             go_roundg (gk - 1)
             case measure=>have:=B.out.1;omega
             case rel =>
               refine ⟨i+1,G3,by have:=B.out.1;omega,by simp [w64p (Nat.le_trans H.out.2.2.2.2.2 (by decide)) hi],⟨Z.out.2.rep,(B.out.2.1.fr.trans0 FA.out).trans Z.out.2.fr fun q hq=>B.out.2.1.own q hq,fun x hx => ?_,same_tr B.out.2.1.same Z.out.2.same⟩,?_⟩
               · exact (Z.out.2.own x hx).elim (fun q=>B.out.2.1.own x q) (fun q=>.inr (Nat.le_trans (Nat.le_trans B.out.2.1.fr.size FA.out.size) q))
               · rw [Z.out.1,List.take_succ_eq_append_getElem hi,(List.getElem?_eq_some_iff.1 HGI.out).2,St.after_snoc]
           · have hi':i=es.length:=by have:=B.out.1;omega
             subst hi'
             obtain ⟨GA,GB,P⟩:=FIN.out wr G' B.out.2.1 (by have:=B.out.2.2;rw [List.take_length] at this;exact this)
             have PP2:=Lib.hid P
             have HW:=Lib.hid (show w.heap.size+1≤wr.heap.size from by have:=WZ.out;have:=GW.out.size;omega)
             obtain ⟨nA,hnA,bA⟩:=P.ba
             obtain ⟨nB,hnB,bB⟩:=P.bb
             have okA:=ask_ok EB eb GA.st bA hnA P.pa
             have okB:=Lib.hid (ask_ok EB eb GB.st bB hnB P.pb)
             have lB:=Lib.hid (show (sortK GB.st.keys).length≤100000 from by rw [sortK_len];unfold St.keys;rw [List.length_map];have:=bB.ps;omega)
             have t1:=tell74 wr GA false b1 b2 b3 b4 false hk w.heap.size P.two.a P.ha EB eb EW.out (fun k hkk=>by have h2:=H.out.2.1.size;have h3:=WZ.out;have:=P.oa k hkk;omega) KB.out (fun q=>by have h3:=WZ.out;have:=P.oa _ q;omega) okA.1 okA.2 (by rw [sortK_len];unfold St.keys;rw [List.length_map];have:=bA.ps;omega)
             rw [P.va] at t1
             have T1:=Lib.hid t1
             clear t1 okA bA bB P
             go_wp2_with fail
             refine T1.out.mono ?_
             rintro e w6 ⟨v1,GA',vs1,rfl,R1⟩
             have X1:=Lib.hid R1
             have P6:=Lib.hid (PP2.out.two.left R1.step)
             have KB6:=Lib.hid (KB.out.fr R1.step.fr (fun q=>by have h3:=WZ.out;have:=PP2.out.oa _ q;omega))
             have E6:=Lib.hid (EW.out.fr R1.step.fr (fun k hkk=>by have h2:=H.out.2.1.size;have h3:=WZ.out;have:=PP2.out.oa k hkk;omega))
             have t2:=tell74 w6 GB false b1 b2 b3 b4 false hk w.heap.size P6.out.b PP2.out.hb EB eb E6.out (fun k hkk=>by have h2:=H.out.2.1.size;have h3:=WZ.out;have:=PP2.out.ob k hkk;omega) KB6.out (fun q=>by have h3:=WZ.out;have:=PP2.out.ob _ q;omega) okB.out.1 okB.out.2 lB.out
             rw [PP2.out.vb] at t2
             have T2:=Lib.hid t2
             clear t2 R1 T1
             go_wp2_with fail
             refine T2.out.mono ?_
             rintro e w7 ⟨v2,GB',vs2,rfl,R2⟩
             have X2:=Lib.hid R2
             clear R2 T2
             go_wp2_with fail
             refine bodyPost_ret (v:=.tuple #[v1,v2]) (by simp [results,Tryz.results52,go_sem, *]) rfl ⟨v1,v2,rfl,?_,?_,?_⟩
             · exact X1.out.tellsAt PP2.out.ta (by have:=HW.out;omega) X2.out.step.fr fun q hq=>PP2.out.two.b.lt q hq
             · exact X2.out.tellsAt PP2.out.tb (by have:=HW.out;have:=X1.out.step.fr.size;omega) (Fr.refl (fun _=>False) w7) fun _ q=>q.elim
             · exact (GWW.out.trans X1.out.step.fr fun q hq=>.inr (by have h3:=WZ.out;have:=PP2.out.oa q hq;omega)).trans X2.out.step.fr fun q hq=>.inr (by have h3:=WZ.out;have:=PP2.out.ob q hq;omega)
end Go.Proofs.YtbafaadmlpamiaaGreatDoor
