import Derived.Test.YtbafaadmlpamiaaGreatDoorA7
set_option maxRecDepth 100000
set_option maxHeartbeats 1000000
namespace Go.Proofs.YtbafaadmlpamiaaGreatDoor
open Go Go.Hy Go.RowKit
theorem dpred (w:World) (G:GS) (h:GRep w G) (hbp:G.pts.length≤400000) (hbl:G.lks.length≤400000) :
   Calls Tryz.prog 182 #[.pointer (some ⟨G.gB,0,none⟩)] w fun e w'=>∃ B l inn,e=.returned (.tuple #[.map (some B),.nilIface])∧AdjM w w' G true B l inn:=by
 have A0:=Lib.hid (show ∀ w',Fr0 w w'→AW w G w' from fun w' f=>AW.mk' h f)
 obtain ⟨-,s0,s1,s2,s3,s4⟩:=A0.out w (Fr.refl _ _)
 have mV:=mListVertices
 have mE:=mListEdges
 have hmm:=@run_makeMap Tryz.prog
 have hmh:=@run_makeMap_hint Tryz.prog 152 9 154 Tryz.underlying152
 have HG:=Lib.hid h
 clear h
 go_enter Tryz.func182,Tryz.ntmps182
 go_wp2_with fail
 refine (slistv (A0.out _ (Fr.refl _ _)).rep (by omega)).mono ?_
 rintro e w1 ⟨v1,ks,rfl,hks,ho1,f1⟩
 obtain ⟨ao1,cap1,rfl,_,hv1⟩:=own_slice ho1
 have V:=hid2 hks hv1
 have VP:=Lib.hid hks
 clear hks ho1 hv1 s0 s1 s2 s3 s4
 obtain ⟨-,s0,s1,s2,s3,s4⟩:=A0.out _ f1
 go_wp2_with fail
 refine (sliste (A0.out _ f1).rep hbl).mono ?_
 rintro e w2 ⟨v2,es,rfl,hes,ho2,h2⟩
 obtain ⟨rs,hrs,rfl⟩:=perm_map_inv (show es.Perm ((linksK G.dir G.lks).map (·.2)) from hes)
 obtain ⟨ao2,cap2,rfl,_,hv2⟩:=own_slice ho2
 rw [List.length_map]
 have W:=hid3 hrs hv2 h2
 have F2:=Lib.hid (f1.trans0 h2)
 have KOK:=Lib.hid (show ∀ p∈rs,KVok p from fun p hp=>linksK_ok _ _ p (hrs.subset hp))
 have KND:=Lib.hid (show (rs.map (·.1)).Nodup from (hrs.map _).nodup_iff.2 (A0.out _ f1).rep.linksK_keys)
 have VND:=Lib.hid (show ks.Nodup from by
   refine V.out.1.nodup_iff.2 ?_
   have:=HG.out.s.v.nodup
   rw [HG.out.vs,List.map_map] at this
   exact this)
 have LK:=Lib.hid (show ks.length≤400000∧rs.length≤800000 from ⟨by rw [V.out.1.length_eq];simpa using hbp,by
   have h1:=hrs.length_eq
   have h2:=linksV_len G.dir G.lks
   unfold linksV at h2
   rw [List.length_map] at h2
   omega⟩)
 clear hes hrs ho2 hv2 h2 f1 s0 s1 s2 s3 s4
 go_wp2_with fail
 try go_frame
 go_loopg [43] ks.length (fun k c wr=>VM w2 w2.heap.size ks k c wr)
 case atStart=>exact ⟨0,[],rfl,rfl,⟨SM.fresh w2,fun _ h=>(by cases h)⟩,rfl,fun _ h=>(by cases h),List.nodup_nil,(Fr.refl _ _).alloc _⟩
 case round =>
   obtain ⟨i,l,hk,rfl,hs,hl,hb,hnd,f⟩:=hrel
   have A:=hid6 hk hs hl hb hnd f
   clear hk hs hl hb hnd f
   by_cases hi:i < ks.length
   · have hg:=List.getElem?_eq_getElem hi
     obtain ⟨ob,rfl,hob,hce⟩:=V.out.2 i (.string ks[i]) (by unfold strs;rw [List.getElem?_map,hg];rfl)
     have hcell:=(A.out.2.2.2.2.2.cell (p:=⟨ob,i,none⟩) (Nat.lt_of_lt_of_le hob W.out.2.2.size) (fun q=>q)).trans ((W.out.2.2.cell (p:=⟨ob,i,none⟩) hob (fun q=>q)).trans hce)
     have HGI:=Lib.hid hg
     have hsm:ks.length≤400000:=LK.out.1
     generalize ks[i]=key at hcell HGI
     clear hce hg
     go_wp2_with (first
       | (at_mapUpdate;refine wl_put 152 9 154 Tryz.underlying152 Tryz.underlying9 rfl (.tmp 47) (.tmp 48) (.tmp 49) rfl (A.out.2.1.m.alloc _) key (.map (some wr.heap.size)) rfl rfl rfl ?_;intro arr1 k1 hm1))
     obtain ⟨hk,hs,hl,hb,hnd,f⟩:=A.out
     have R:=VM.step rfl hk hi VND.out HGI.out hs hl hb hnd f rfl arr1 k1 rfl hm1
     go_roundg (gk - 1)
     case measure=>exact R.1
     case rel=>exact R.2
   · have hi':i=ks.length:=by have:=A.out.1;omega
     subst hi'
     have AL:=Lib.hid (show l.map (·.1)=ks from by have:=A.out.2.2.1;rw [List.take_length] at this;exact this)
     clear V
     go_wp2_with fail
     try go_frame
     go_loopg [53] rs.length (fun k c wr=>EM true w2 w2.heap.size l rs k c wr)
     case atStart=>exact ⟨0,fun _ => [],rfl,rfl,A.out.2.1,fun x y=>by unfold edgeAt;cases findK l x <;> rfl,A.out.2.2.2.2.2⟩
     case round =>
       obtain ⟨j,inn,hk,rfl,hs,he,f⟩:=hrel
       have C:=hid4 hk hs he f
       clear hk hs he f
       by_cases hj:j < rs.length
       · have hg:=List.getElem?_eq_getElem hj
         obtain ⟨a,wt,hv⟩:=KOK.out rs[j] (List.getElem_mem hj)
         have hg2:rs[j]? = some ((rs[j].1.1,rs[j].1.2),ev rs[j].1.1 rs[j].1.2 a wt):=by rw [hg,← hv]
         generalize rs[j].1.1=x at hg2
         generalize rs[j].1.2=y at hg2
         clear hg hv
         obtain ⟨c0,c1,c2,c3,c4⟩:=eCells_at KOK.out hg2
         obtain ⟨ob,rfl,hob,d0⟩:=W.out.2.1 _ _ c0
         obtain ⟨ob',e',_,d1⟩:=W.out.2.1 _ _ c1
         cases e'
         obtain ⟨ob',e',_,d2⟩:=W.out.2.1 _ _ c2
         cases e'
         obtain ⟨ob',e',_,d3⟩:=W.out.2.1 _ _ c3
         cases e'
         obtain ⟨ob',e',_,d4⟩:=W.out.2.1 _ _ c4
         cases e'
         have cc:∀ o v,w2.cell? ⟨ob,o,none⟩=some v→wr.cell? ⟨ob,o,none⟩=some v:=fun o v q=>(C.out.2.2.2.cell (p:=⟨ob,o,none⟩) hob (fun r=>r)).trans q
         have d0:=cc _ _ d0
         have d1:=cc _ _ d1
         have d2:=cc _ _ d2
         have d3:=cc _ _ d3
         have d4:=cc _ _ d4
         have HGI:=Lib.hid hg2
         have hsm:rs.length≤800000:=LK.out.2
         clear c0 c1 c2 c3 c4 cc hg2
         obtain ⟨n,hn⟩ : ∃ n,findK l y=some n:=by
           have hm:((x,y),ev x y a wt)∈linksK G.dir G.lks:=W.out.1.subset (List.mem_of_getElem? HGI.out)
           obtain ⟨e,he,_⟩:=Option.map_eq_some_iff.1 ((HG.out.mem_linksK x y _).1 hm)
           obtain ⟨_,⟨p,hp⟩⟩:=HG.out.ends_find he
           obtain ⟨m1,m2⟩:=findP_mem hp
           have hx:y∈l.map (·.1):=by
             rw [AL.out,VP.out.mem_iff]
             exact List.mem_map.2 ⟨p,m1,m2⟩
           obtain ⟨z,hz,rfl⟩:=List.mem_map.1 hx
           exact ⟨z.2,findK_of_mem C.out.2.1.keys hz⟩
         have HL:=Lib.hid (show lookS (mp l) y=some (.map (some n)) by rw [look_mp,hn];rfl)
         have HN:=Lib.hid hn
         clear hn
         go_wp2_with (first
           | (at_lookup;refine wl_look2S 152 9 154 Tryz.underlying152 Tryz.underlying9 (.map none) zM rfl (.tmp 58) (.tmp 60) rfl (C.out.2.1.m.alloc _) y _ HL.out rfl rfl ?_)
           | (at_lookup;refine wl_look1S 152 9 154 Tryz.underlying152 Tryz.underlying9 (.map none) zM rfl (.tmp 70) (.tmp 72) rfl (C.out.2.1.m.alloc _) y _ HL.out rfl rfl ?_)
           | (at_mapUpdate;refine wl_put 154 9 144 Tryz.underlying154 Tryz.underlying9 rfl (.tmp 73) (.tmp 75) (.tmp 76) rfl ((C.out.2.1.e _ (findK_mem HN.out)).alloc _) x (ev x y a wt) rfl rfl rfl ?_;intro arr1 k1 hm1))
         obtain ⟨hk,hs,he,f⟩:=C.out
         obtain ⟨_,_,_,hb,hnd,_⟩:=A.out
         have R:=EM.step (turn:=true) (p:=((x,y),ev x y a wt)) rfl hk hj KND.out HGI.out hs he f (Nat.le_refl _) hnd hb HN.out ((Fr.refl (fun _=>False) wr).alloc _) arr1 k1 rfl hm1
         go_roundg (gk - 1)
         case measure=>exact R.1
         case rel=>exact R.2
       · have hj':j=rs.length:=by have:=C.out.1;omega
         subst hj'
         go_wp2_with fail
         refine bodyPost_ret (v:=.tuple #[.map (some w2.heap.size),.nilIface]) (by simp [results,Tryz.results182,go_sem]) rfl ?_
         obtain ⟨hk,hs,he,f⟩:=C.out
         obtain ⟨_,_,_,hb,hnd,_⟩:=A.out
         rw [List.take_length] at he
         have s2:=F2.out.size
         refine ⟨w2.heap.size,rfl,l,inn,hs,List.nodup_cons.2 ⟨?_,hnd⟩,⟨s2,fun x hx=>by have:=hb x hx;omega⟩,?_,?_,F2.out.trans0 f⟩
         · intro q
           obtain ⟨z,hz,e⟩:=List.mem_map.1 q
           have:=hb z hz
           omega
         · rw [AL.out];exact VP.out
         · intro x y
           rw [he]
           simp only [if_true]
           exact HG.out.look_at W.out.1 y x
theorem upred (w:World) (G:GS) (h:GRep w G) (hbp:G.pts.length≤400000) (hbl:G.lks.length≤400000) :
   Calls Tryz.prog 207 #[.pointer (some ⟨G.gB,0,none⟩)] w fun e w'=>∃ B l inn,e=.returned (.tuple #[.map (some B),.nilIface])∧AdjM w w' G false B l inn:=by
 have HG:=Lib.hid h
 clear h
 go_enter Tryz.func207,Tryz.ntmps207
 go_wp2_with fail
 refine (uadj w G HG.out hbp hbl).mono ?_
 rintro e w1 ⟨B,l,inn,rfl,hA⟩
 go_wp2_with fail
 go_ret2
 exact ⟨B,l,inn,rfl,hA⟩
end Go.Proofs.YtbafaadmlpamiaaGreatDoor
