import Derived.Test.YtbafaadmlpamiaaGreatDoorT1
import Derived.Test.YtbafaadmlpamiaaGreatDoorT4
import Derived.Laws.StructEq
set_option maxRecDepth 100000
set_option maxHeartbeats 4000000
namespace Go.Proofs.YtbafaadmlpamiaaGreatDoor
open Go Go.Hy Go.RowKit
theorem stood295:Tryz.prog.stoodInHeld 295=false:=by kernel_rfl
theorem eqTup (w:World) (p q:ByteArray × ByteArray):(Op.equal 295 (tupV p) (tupV q)).run Tryz.prog w=.ok (decide (p=q)) w:=by
 obtain ⟨a,b⟩:=p
 obtain ⟨c,d⟩:=q
 show (Op.equalIn 10000 295 (.agg #[.string a,.string b]) (.agg #[.string c,.string d])).run Tryz.prog w=_
 rw [run_equalIn_struct w 9999 295 _ _ (by kernel_rfl) stood295]
 simp [Program.fieldsOf,Tryz.underlying295,Op.eqFields,part]
 have h1:(Op.equalIn 9999 9 (.string a) (.string c)).run Tryz.prog w=.ok (a.toList == c.toList) w:=run_equalIn_string w 9998 9 a c Tryz.underlying9
 have h2:(Op.equalIn 9999 9 (.string b) (.string d)).run Tryz.prog w=.ok (b.toList == d.toList) w:=run_equalIn_string w 9998 9 b d Tryz.underlying9
 rw [h1]
 simp only [Result.andThen_ok]
 by_cases e1:a=c
 · subst e1
   simp only [BEq.rfl,h2,Result.andThen_ok]
   by_cases e2:b=d
   · subst e2;simp
   · rw [text_ne e2];simp [e2]
 · rw [text_ne e1];simp [e1]
theorem keyOk295:KeyOk Tryz.prog 295 where
 desc:=⟨_,Tryz.underlying295⟩
 check:=fun e w p=>by
   have h9:∀ s,(Instr.checkKey e 9999 9 (.string s)).run Tryz.prog w=.ok () w:=fun s=>MapKept.run_checkKey Tryz.underlying9 (by simp [MapKept.IsKey]) e 9998
   unfold tupV Instr.checkKey
   simp [run_underlying Tryz.underlying295,Result.andThen,part,h9]
 same:=eqTup
theorem zst (w:World):(zeroValue 296).run Tryz.prog w=.ok (.agg #[]) w:=by kernel_rfl
theorem dedges (w:World) (G:GS) (h:GRep w G) (hd:G.dir=true) (hbl:G.lks.length≤400000) :
   Calls Tryz.prog 180 #[.pointer (some ⟨G.gB,0,none⟩)] w fun e w'=>∃ v rs,e=.returned (.tuple #[v,.nilIface])∧EdgM w w' G v rs:=by
 obtain ⟨-,s0,s1,s2,s3,s4⟩:=AW.mk' h (Fr.refl _ _)
 have mE:=mListEdges
 have HG:=Lib.hid h
 clear h
 go_enter Tryz.func180,Tryz.ntmps180
 go_wp2_with fail
 refine (sliste HG.out hbl).mono ?_
 rintro e w2 ⟨v2,es,rfl,hes,ho2,h2⟩
 obtain ⟨rs,hrs,rfl⟩:=perm_map_inv (show es.Perm ((linksK G.dir G.lks).map (·.2)) from hes)
 rw [List.length_map] at ho2
 have W:=hid3 hrs ho2 h2
 clear hes hrs ho2 h2
 go_wp2_with fail
 go_ret2
 exact ⟨v2,rs,rfl,W.out.2.1,dir_perm HG.out hd W.out.1,fun r hr=>W.out.1.subset hr,W.out.2.2⟩
def KL (WB:World) (B mB:Nat) (rs:List KV) (k:Nat) (v c:Value) (wr:World):Prop :=
 ∃ (i:Nat) (out:List KV),k+i=rs.length∧c=.int .i64 (i:Nat)∧out=(rs.take i).foldl keepE []∧wr.ownsRow B 144 5 v out.length (eCells (out.map (·.2)))∧TM wr mB (out.map (·.1))∧Fr0 WB wr
theorem keepE_old {out:List KV} {r:KV} (h:(r.1.2,r.1.1)∈out.map (·.1)):keepE out r=out:=by unfold keepE;rw [if_pos h]
theorem keepE_new {out:List KV} {r:KV} (h:(r.1.2,r.1.1)∉out.map (·.1)):keepE out r=out ++ [r]:=by unfold keepE;rw [if_neg h]
theorem KL.old {WB wr W:World} {B mB:Nat} {rs:List KV} {k i:Nat} {out:List KV} {v:Value} {r:KV} (hk:k+i=rs.length) (hi:i < rs.length) (htk:rs.take (i+1)=rs.take i ++ [r]) (hout:out=(rs.take i).foldl keepE [])
   (hown:wr.ownsRow B 144 5 v out.length (eCells (out.map (·.2)))) (htm:TM wr mB (out.map (·.1))) (f:Fr0 WB wr) (hn:(r.1.2,r.1.1)∈out.map (·.1)) (fw:Fr0 wr W):k - 1 < k∧KL WB B mB rs (k - 1) v (.int .i64 ((i:Int)+1)) W:=by
 refine ⟨by omega,i+1,out,by omega,by simp,?_,ownsRow_fr hown fw fun _ _ q=>q,htm.fr fw fun q=>q,f.trans0 fw⟩
 rw [htk,List.foldl_append,← hout]
 exact (keepE_old hn).symm
theorem KL.new {WB wr W w4:World} {B mB:Nat} {rs:List KV} {k i:Nat} {out:List KV} {v v':Value} {x y:ByteArray} {a:Nat} {wt:Int} {arr:Array MapEntry} {c:Nat} {ob2:Obj} (hk:k+i=rs.length) (hi:i < rs.length) (htk:rs.take (i+1)=rs.take i ++ [((x,y),ev x y a wt)]) (hout:out=(rs.take i).foldl keepE [])
   (hown:wr.ownsRow B 144 5 v out.length (eCells (out.map (·.2)))) (htm:TM wr mB (out.map (·.1))) (f:Fr0 WB wr) (hn:(y,x)∉out.map (·.1)) (fw:Fr0 wr W) (ho:w4.ownsRow B 144 5 v' (out.length+1) (eCells (out.map (·.2)) ++ [.string x,.string y,.map (some a),.int .i64 wt,.nilIface]))
   (fg:Fr (fun k=>v.ownBlock=some k) W w4) (hB:WB.heap.size≤B) (hmB:WB.heap.size≤mB) (hm1:TM (setM (w4.alloc ob2) mB arr c) mB (out.map (·.1) ++ [(x,y)])) :
   k - 1 < k∧KL WB B mB rs (k - 1) v' (.int .i64 ((i:Int)+1)) (setM (w4.alloc ob2) mB arr c):=by
 have t4:TM w4 mB (out.map (·.1)):=(htm.fr fw fun q=>q).fr fg fun q=>htm.ne_row hown q
 have fa:Fr (· = mB) w4 (setM (w4.alloc ob2) mB arr c):=(((Fr.refl (· = mB) w4).alloc _).setM (.inl rfl) _ _)
 refine ⟨by omega,i+1,out ++ [((x,y),ev x y a wt)],by omega,by simp,?_,?_,by simpa using hm1,?_⟩
 · rw [htk,List.foldl_append,← hout]
   exact (keepE_new (r:=((x,y),ev x y a wt)) hn).symm
 · have e1:eCells ((out ++ [((x,y),ev x y a wt)]).map (·.2))=eCells (out.map (·.2)) ++ [.string x,.string y,.map (some a),.int .i64 wt,.nilIface]:=by
     rw [List.map_append]
     exact eCells_snoc _ _
   rw [e1,List.length_append]
   exact ownsRow_fr ho fa fun q hq e=>t4.ne_row ho (by rw [hq,e])
 · exact ((f.trans0 fw).trans fg fun q hq=>.inr (Nat.le_trans hB (hown.lt q hq).1)).trans fa fun q hq=>.inr (by rw [hq];exact hmB)
theorem uedges (w:World) (G:GS) (h:GRep w G) (hd:G.dir=false) (hbl:G.lks.length≤400000) :
   Calls Tryz.prog 205 #[.pointer (some ⟨G.gB,0,none⟩)] w fun e w'=>∃ v rs,e=.returned (.tuple #[v,.nilIface])∧EdgM w w' G v rs:=by
 obtain ⟨-,s0,s1,s2,s3,s4⟩:=AW.mk' h (Fr.refl _ _)
 have mE:=mListEdges
 have hmm:=@run_makeMap Tryz.prog
 have HG:=Lib.hid h
 clear h
 go_enter Tryz.func205,Tryz.ntmps205
 go_wp2_with fail
 refine (sliste HG.out hbl).mono ?_
 rintro e w2 ⟨v2,es,rfl,hes,ho2,h2⟩
 obtain ⟨rs,hrs,rfl⟩:=perm_map_inv (show es.Perm ((linksK G.dir G.lks).map (·.2)) from hes)
 rw [List.length_map] at ho2
 obtain ⟨ao2,cap2,rfl,_,hv2⟩:=own_slice ho2
 have W:=hid3 hrs hv2 h2
 have KOK:=Lib.hid (show ∀ p∈rs,KVok p from fun p hp=>linksK_ok _ _ p (hrs.subset hp))
 have KND:=Lib.hid (show (rs.map (·.1)).Nodup from (hrs.map _).nodup_iff.2 HG.out.linksK_keys)
 have LK:=Lib.hid (show rs.length≤800000 from by
   have h1:=hrs.length_eq
   have h2:=linksV_len G.dir G.lks
   unfold linksV at h2
   rw [List.length_map] at h2
   omega)
 clear hes hrs ho2 hv2 h2 s0 s1 s2 s3 s4
 have HW:=Lib.hid (show wrap64 ((rs.length:Int) / 2)=((rs.length / 2:Nat):Int) by have:=LK.out;unfold wrap64;omega)
 go_wp2_with (first
   | (at_make;refine wl_make0 147 rfl _ (.tmp 28) rfl 144 _ 5 64 Tryz.underlying147 info144 (by decide) .i64 .i64 (rs.length / 2) rfl (congrArg (Value.int .i64) HW.out) (by have:=LK.out;omega) ?_;intro w3 hown f3;have HO3:=hid2 hown f3;clear hown f3))
 have TM0:=Lib.hid (TM.fresh w3)
 try go_frame
 go_loopg [6,33] rs.length (fun k v c wr=>KL w2 w2.heap.size w3.heap.size rs k v c wr)
 case atStart=>exact ⟨0,[],rfl,rfl,rfl,HO3.out.1.alloc _,TM0.out,HO3.out.2.alloc _⟩
 case round =>
   obtain ⟨i,out,hk,rfl,hout,hown,htm,f⟩:=hrel
   obtain ⟨ao6,cap6,rfl, -, -⟩:=own_slice hown
   have A:=hid5 hk hout hown htm f
   clear hk hout hown htm f
   by_cases hi:i < rs.length
   · have hg:=List.getElem?_eq_getElem hi
     obtain ⟨a,wt,hv⟩:=KOK.out rs[i] (List.getElem_mem hi)
     have hg2:rs[i]? = some ((rs[i].1.1,rs[i].1.2),ev rs[i].1.1 rs[i].1.2 a wt):=by rw [hg,← hv]
     have htk:rs.take (i+1)=rs.take i ++ [((rs[i].1.1,rs[i].1.2),ev rs[i].1.1 rs[i].1.2 a wt)]:=by rw [List.take_succ_eq_append_getElem hi,← hv]
     generalize rs[i].1.1=x at hg2 htk
     generalize rs[i].1.2=y at hg2 htk
     clear hg hv
     obtain ⟨c0,c1,c2,c3,c4⟩:=eCells_at KOK.out hg2
     obtain ⟨ob,rfl,hob,d0⟩:=W.out.2.1 _ _ c0
     obtain ⟨ob',e',_,d1⟩:=W.out.2.1 _ _ c1
     cases e'
     obtain ⟨ob',e',_,d2⟩:=W.out.2.1 _ _ c2
     cases e'
     obtain ⟨ob',e',_,d3⟩:=W.out.2.1 _ _ c3
     cases e'
     obtain ⟨ob',e',_,d4⟩:=W.out.2.1 _ _ c4
     cases e'
     have cc:∀ o v,w2.cell? ⟨ob,o,none⟩=some v→wr.cell? ⟨ob,o,none⟩=some v:=fun o v q=>(A.out.2.2.2.2.cell (p:=⟨ob,o,none⟩) hob (fun r=>r)).trans q
     have d0:=cc _ _ d0
     have d1:=cc _ _ d1
     have d2:=cc _ _ d2
     have d3:=cc _ _ d3
     have d4:=cc _ _ d4
     have HGI:=hid2 hg2 htk
     have hsm:rs.length≤800000:=LK.out
     clear c0 c1 c2 c3 c4 cc hg2 htk
     have HNK:=Lib.hid (show (x,y)∉out.map (·.1) from by
       have h1:((rs.take (i+1)).map (·.1)).Nodup:=((List.take_sublist _ _).map _).nodup KND.out
       rw [HGI.out.2,List.map_append] at h1
       have h2:=(List.nodup_append.1 h1).2.2
       intro hm
       rw [A.out.2.1] at hm
       have h3:((rs.take i).foldl keepE []).Sublist (rs.take i):=by simpa using fold_sub (rs.take i) []
       exact h2 _ ((h3.map _).subset hm) _ (by simp) rfl)
     have LO:=Lib.hid (show out.length≤800000 from by
       have h3:((rs.take i).foldl keepE []).Sublist (rs.take i):=by simpa using fold_sub (rs.take i) []
       have h4:=h3.length_le
       rw [← A.out.2.1,List.length_take] at h4
       omega)
     go_wp2_with (first
       | (at_lookup;refine wl_tlook2 293 295 296 Tryz.underlying293 keyOk295 zst rfl (.tmp 43) (.tmp 44) rfl (TM.fr A.out.2.2.2.1 (S:=fun _=>False) (by ((repeat' with_reducible first|assumption|exact frR|apply frD|apply frN|apply frA|apply frM|apply frC);all_goals (simp;try omega))) (fun q=>q)) (y,x) rfl rfl (fun hin => ?_) (fun hin => ?_);all_goals (have HIN:=Lib.hid hin;clear hin))
       | (at_builtin;go_must (refine wl_app1 (w:=((wr.alloc (.cells #[.string x,.string y,.map (some a),.int .i64 wt,.nilIface] 144)).alloc (.cells #[.string y,.string x] 295)).alloc (.cells #[] 296)) 147 rfl (.tmp 49) (.tmp 51) rfl 144 _ 5 64 Tryz.underlying147 info144 rfl (by decide) (by decide) w2.heap.size (.slice ao6 out.length cap6) out.length (eCells (out.map (·.2))) rfl (ownsRow_fr A.out.2.2.1 (S:=fun _=>False) (by ((repeat' with_reducible first|assumption|exact frR|apply frD|apply frN|apply frA|apply frM|apply frC);all_goals (simp;try omega))) (fun _ _ q=>q)) #[.string x,.string y,.map (some a),.int .i64 wt,.nilIface] (wr.heap.size+1+1+1) rfl (by simp) rfl (by simp [Value.oneCell']) (by have:=LO.out;omega) (by have:=A.out.2.2.2.2.size;simp;omega) ?_);intro v' w4 ho fg _;obtain ⟨ao',cap',rfl, -, -⟩:=own_slice ho;have hx:=(((Cells.new wr #[.string x,.string y,.map (some a),.int .i64 wt,.nilIface] 144).alloc (.cells #[.string y,.string x] 295)).alloc (.cells #[] 296)).fr fg (fun q=>by have:=(A.out.2.2.1.lt _ q).2;omega);have e0:=hx.cell 0 _ rfl;have e1:=hx.cell 1 _ rfl;have el:=hx.lt;have H4:=hid2 ho fg;clear hx ho fg)
       | (at_mapUpdate;go_must (refine wl_tput 293 295 296 Tryz.underlying293 keyOk295 rfl (.tmp 58) (.tmp 59) (.tmp 60) rfl (TM.fr (TM.fr A.out.2.2.2.1 (S:=fun k=>(Value.slice ao6 out.length cap6).ownBlock=some k) (w':=w4) (Fr.trans (Fr.mono (by ((repeat' with_reducible first|assumption|exact frR|apply frD|apply frN|apply frA|apply frM|apply frC);all_goals (simp;try omega)):Fr0 wr (((wr.alloc (.cells #[.string x,.string y,.map (some a),.int .i64 wt,.nilIface] 144)).alloc (.cells #[.string y,.string x] 295)).alloc (.cells #[] 296))) (fun _ q=>q.elim)) H4.out.2 (fun _ q=>.inl q)) (fun q=>TM.ne_row A.out.2.2.2.1 A.out.2.2.1 q)) (S:=fun _=>False) (by ((repeat' with_reducible first|assumption|exact frR|apply frD|apply frN|apply frA|apply frM|apply frC);all_goals (simp;try omega))) (fun q=>q)) (x,y) HNK.out rfl rfl rfl ?_);intro arr1 k1 hm1))
     · have R:=KL.old A.out.1 hi HGI.out.2 A.out.2.1 A.out.2.2.1 A.out.2.2.2.1 A.out.2.2.2.2 HIN.out (show Fr0 wr (((wr.alloc (.cells #[.string x,.string y,.map (some a),.int .i64 wt,.nilIface] 144)).alloc (.cells #[.string y,.string x] 295)).alloc (.cells #[] 296)) by ((repeat' with_reducible first|assumption|exact frR|apply frD|apply frN|apply frA|apply frM|apply frC);all_goals (simp;try omega)))
       go_roundg (gk - 1)
       case measure=>exact R.1
       case rel=>exact R.2
     · have R:=KL.new A.out.1 hi HGI.out.2 A.out.2.1 A.out.2.2.1 A.out.2.2.2.1 A.out.2.2.2.2 HIN.out (show Fr0 wr (((wr.alloc (.cells #[.string x,.string y,.map (some a),.int .i64 wt,.nilIface] 144)).alloc (.cells #[.string y,.string x] 295)).alloc (.cells #[] 296)) by ((repeat' with_reducible first|assumption|exact frR|apply frD|apply frN|apply frA|apply frM|apply frC);all_goals (simp;try omega))) H4.out.1 H4.out.2 (Nat.le_refl _) HO3.out.2.size hm1
       go_roundg (gk - 1)
       case measure=>exact R.1
       case rel=>exact R.2
   · have hi':i=rs.length:=by have:=A.out.1;omega
     subst hi'
     go_wp2_with fail
     go_ret2
     have h1:=A.out.2.1
     rw [List.take_length] at h1
     refine ⟨.slice ao6 out.length cap6,out,rfl,?_,?_,?_,W.out.2.2.trans0 A.out.2.2.2.2⟩
     · exact ownsRow_weak A.out.2.2.1 W.out.2.2.size
     · rw [h1]
       exact kept_perm HG.out hd W.out.1
     · intro r hr
       rw [h1] at hr
       exact W.out.1.subset ((show ((rs.foldl keepE []).Sublist rs) by simpa using fold_sub rs []).subset hr)
end Go.Proofs.YtbafaadmlpamiaaGreatDoor
