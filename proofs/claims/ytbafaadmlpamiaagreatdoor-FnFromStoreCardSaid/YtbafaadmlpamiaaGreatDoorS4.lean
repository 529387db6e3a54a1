import Derived.Test.YtbafaadmlpamiaaGreatDoorS2
import Derived.Test.YtbafaadmlpamiaaGreatDoorS3
set_option maxRecDepth 100000
set_option maxHeartbeats 4000000
set_option linter.unusedSimpArgs false
namespace Go.Proofs.YtbafaadmlpamiaaGreatDoor
open Go Go.Hy Go.RowKit
theorem sto2_new (w:World) (sb:Nat) (s:St) (h:ZRep w sb s) (hs:Small s) (a b:ByteArray) (wt:Int) (pv:Value) (prs:List PP) (hp:PrAt w pv prs) (hpl:prs.length≤100000) (hpr:s.pr=false) (i j:Nat) (hi:ptI s.ps a=some i) (hj:ptI s.ps b=some j) (hn:lkI s.dir s.ls a b=none) :
   Calls Tryz.prog 28 #[.pointer (some ⟨sb,0,none⟩),doS 2 a b wt pv] w fun e w'=>StoP w sb {} { s with ls:=s.ls ++ [⟨a,b,wt,byK prs⟩] } e w':=by
 have H:=Lib.hid h
 have hlb:=h.lt
 have HS:=Lib.hid hs
 have HI:=Lib.hid hi
 have HJ:=Lib.hid hj
 have HN:=Lib.hid hn
 clear h hs hi hj hn
 obtain ⟨pa,pc,rfl⟩:=hp.form
 have PD:=Lib.hid hp
 clear hp
 have W0:=Lib.hid (w28_cells w 2 a b wt (.slice pa prs.length pc))
 go_enter Tryz.func28,Tryz.ntmps28
 go_wp2_with fail
 go_quiet (fail)
 go_wp2_with fail
 refine (point44 _ sb s (H.out.fr0 (by ((repeat' with_reducible first|assumption|exact frR|apply frD|apply frN|apply frA|apply frM|apply frC);all_goals (simp;try omega)))) HS.out.ps a).mono ?_
 rintro e w2 ⟨rfl,f2⟩
 have F2:=Lib.hid (show Fr0 (W28 w 2 a b wt (.slice pa prs.length pc)) w2 from Fr.trans0 (by ((repeat' with_reducible first|assumption|exact frR|apply frD|apply frN|apply frA|apply frM|apply frC);all_goals (simp;try omega))) f2)
 clear f2
 rw [HI.out,plc_some]
 go_wp2_with fail
 refine (link45 _ sb s (H.out.fr0 (W0.out.2.2.2.trans0 F2.out)) HS.out.ls a b).mono ?_
 rintro e w2x ⟨rfl,f2x⟩
 rw [HN.out,plc_none]
 have F2x:=Lib.hid (F2.out.trans0 f2x)
 clear f2x
 have q0:=(W0.out.1.fr F2x.out (fun q=>q)).cell 0 _ rfl
 go_wp2_with fail
 refine (point44 _ sb s (H.out.fr0 (W0.out.2.2.2.trans0 F2x.out)) HS.out.ps b).mono ?_
 rintro e w3x ⟨rfl,f3x⟩
 rw [HJ.out,plc_some]
 have F3x:=Lib.hid (F2x.out.trans0 f3x)
 clear f3x q0
 have c5:w3x.cell? ⟨sb,5,none⟩=some (.bool s.pr):=by
   obtain ⟨_,_,_,_,_,_,hcx, -⟩:=H.out
   exact (hcx.fr (W0.out.2.2.2.trans0 F3x.out) (fun q=>q)).cell 5 _ rfl
 rw [hpr] at c5
 clear hpr
 rename World=>w3
 have F3:=F3x
 all_goals
   have FW3:=Lib.hid (W0.out.2.2.2.trans0 F3.out)
   have sz3:w.heap.size+1+1 < w3.heap.size:=(W0.out.2.2.1.fr F3.out (fun q=>q)).lt
   have hsb3:sb < w3.heap.size:=by omega
   have hne0:sb≠w.heap.size:=by omega
   have hne1:sb≠w.heap.size+1:=by omega
   have hne2:sb≠w.heap.size+1+1:=by omega
   obtain ⟨b1,b2,b3,b4,pv0,lv0,hc0,hpt0,hlk0⟩:=H.out
   have hpt:PtsIn w3 (fun q=>q≠sb∧q≠w.heap.size+1) pv0 s.ps:=(hpt0.imp fun q h1 h2=>⟨h1,by omega⟩).fr FW3.out (fun _ _ _ q=>q)
   have hlk:LinksIn w3 (fun q=>q≠sb∧q≠w.heap.size+1) lv0 s.ls:=(hlk0.imp fun q h1 h2=>⟨h1,by omega⟩).fr FW3.out (fun _ _ _ q=>q)
   have hc:=hc0.fr FW3.out (fun q=>q)
   have HFZ:=Lib.hid (hc.free 8)
   obtain ⟨ao,cap,rfl,hcap⟩:=hlk.form
   have HC3:=hid3 hc hpt hlk
   obtain ⟨vs,hv1,hv2, -,hv4⟩:=hlk
   have VS:=hid3 hv1 hv2 hv4
   have YL:=Lib.hid (Reads.yld hv2 (zip_enc encLk 4 (fun _=>rfl) hv1) (by decide))
   have PD3:=Lib.hid (PD.out.fr FW3.out)
   have D:=W0.out.1.fr F3.out (fun q=>q)
   have S3:=Lib.hid (show S10 sb 8 w.heap.size a wt ao s.ls.length cap pa prs.length pc w3 from ⟨hc.cell 8 _ rfl,D.cell 1 _ rfl,D.cell 3 _ rfl,D.cell 4 _ rfl,hsb3,D.lt⟩)
   have d0:=D.cell 0 _ rfl
   clear D hc0 hpt0 hlk0 hc hpt hv1 hv2 hv4
   go_wp2_with fail
   refine OrdS.start (S:=S10 sb 8 w.heap.size a wt ao s.ls.length cap pa prs.length pc) (m:=19) (by kernel_rfl) ?_
   have hHeld:=S3.out.fr (show Fr0 w3 w3.drew from by ((repeat' with_reducible first|assumption|exact frR|apply frD|apply frN|apply frA|apply frM|apply frC);all_goals (simp;try omega)))
   (refine OrdS.tq (i:=0) (v:=?_) rfl (by kernel_rfl) (fun _ _ _ h=>h) (by rfl) hHeld ?_ ?_;rotate_left;focus (intro w' hSw;replace hSw:=hSw.out;go_simp;try with_reducible rfl);(try simp only [Act.put,lA,lZ,lS]))
   (refine OrdS.tq (i:=2) (v:=?_) rfl (by kernel_rfl) (fun _ _ _ h=>h) (by rfl) hHeld ?_ ?_;rotate_left;focus (intro w' hSw;replace hSw:=hSw.out;go_simp;try with_reducible rfl);(try simp only [Act.put,lA,lZ,lS]))
   (refine OrdS.tq (i:=3) (v:=?_) rfl (by kernel_rfl) (fun _ _ _ h=>h) (by rfl) hHeld ?_ ?_;rotate_left;focus (intro w' hSw;replace hSw:=hSw.out;go_simp;try with_reducible rfl);(try simp only [Act.put,lA,lZ,lS]))
   (refine OrdS.tq (i:=4) (v:=?_) rfl (by kernel_rfl) (fun _ _ _ h=>h) (by rfl) hHeld ?_ ?_;rotate_left;focus (intro w' hSw;replace hSw:=hSw.out;go_simp;try with_reducible rfl);(try simp only [Act.put,lA,lZ,lS]))
   (refine OrdS.tq (i:=5) (v:=?_) rfl (by kernel_rfl) (fun _ _ _ h=>h) (by rfl) hHeld ?_ ?_;rotate_left;focus (intro w' hSw;replace hSw:=hSw.out;go_simp;try with_reducible rfl);(try simp only [Act.put,lA,lZ,lS]))
   (refine OrdS.tq (i:=7) (v:=?_) rfl (by kernel_rfl) (fun _ _ _ h=>h) (by rfl) hHeld ?_ ?_;rotate_left;focus (intro w' hSw;replace hSw:=hSw.out;go_simp;try with_reducible rfl);(try simp only [Act.put,lA,lZ,lS]))
   (refine OrdS.tq (i:=8) (v:=?_) rfl (by kernel_rfl) (fun _ _ _ h=>h) (by rfl) hHeld ?_ ?_;rotate_left;focus (intro w' hSw;replace hSw:=hSw.out;go_simp;try with_reducible rfl);(try simp only [Act.put,lA,lZ,lS]))
   (refine OrdS.tq (i:=9) (v:=?_) rfl (by kernel_rfl) (fun _ _ _ h=>h) (by rfl) hHeld ?_ ?_;rotate_left;focus (intro w' hSw;replace hSw:=hSw.out;go_simp;try with_reducible rfl);(try simp only [Act.put,lA,lZ,lS]))
   (refine OrdS.tq (i:=10) (v:=?_) rfl (by kernel_rfl) (fun _ _ _ h=>h) (by rfl) hHeld ?_ ?_;rotate_left;focus (intro w' hSw;replace hSw:=hSw.out;go_simp;try with_reducible rfl);(try simp only [Act.put,lA,lZ,lS]))
   (refine OrdS.tq (i:=11) (v:=?_) rfl (by kernel_rfl) (fun _ _ _ h=>h) (by rfl) hHeld ?_ ?_;rotate_left;focus (intro w' hSw;replace hSw:=hSw.out;go_simp;try with_reducible rfl);(try simp only [Act.put,lA,lZ,lS]))
   (refine OrdS.tq (i:=12) (v:=?_) rfl (by kernel_rfl) (fun _ _ _ h=>h) (by rfl) hHeld ?_ ?_;rotate_left;focus (intro w' hSw;replace hSw:=hSw.out;go_simp;try with_reducible rfl);(try simp only [Act.put,lA,lZ,lS]))
   (refine OrdS.one (i:=1) rfl (by kernel_rfl) ?_;intro K hK)
   go_simp
   refine hK.out _ _ (fun _=>S3.out.fr (by ((repeat' with_reducible first|assumption|exact frR|apply frD|apply frN|apply frA|apply frM|apply frC);all_goals (simp;try omega)))) ?_
   clear hK K
   (try simp only [Act.put,lA,lZ,lS])
   (refine OrdS.one (i:=6) rfl (by kernel_rfl) ?_;intro K hK)
   refine step_appG 59 (by rfl) (.tmp 139) (.tmp 143) (by rfl) 72 _ 4 64 Tryz.underlying59 info72 rfl (by decide) (by decide) w3.heap.size (.slice (some ⟨w3.heap.size,0,none⟩) 0 0) 0 [] (by rfl) (own_empty (heap_alloc_new _ _)) _ s.ls.length (encL encLk (s.ls.zip vs)) (by rfl) (Yld.fr YL.out (show Fr0 w3 _ from by ((repeat' with_reducible first|assumption|exact frR|apply frD|apply frN|apply frA|apply frM|apply frC);all_goals (simp;try omega))) (fun a n c e h=>by obtain ⟨ob,q1,q2⟩:=yl_lt VS.out.2.1 e h;exact ⟨q2,fun q=>q⟩)) (zip_enc encLk 4 (fun _=>rfl) VS.out.1) (one_ls VS.out.2.1 VS.out.2.2) (by have:=HS.out.ls;omega) (by simp) ?_
   intro v52 w52 ho52 f52 hat52
   rw [Nat.zero_add,List.nil_append] at ho52
   have g52:Fr0 w3 w52:=Fr.trans (by ((repeat' with_reducible first|assumption|exact frR|apply frD|apply frN|apply frA|apply frM|apply frC);all_goals (simp;try omega))) f52 (fun q hq=>.inr (by cases hq;exact Nat.le_refl _))
   have O52:=Lib.hid ho52
   have G52:=Lib.hid g52.size
   have L52:=Lib.hid (ho52.lt)
   obtain ⟨ao52,cap52,rfl, -, -⟩:=own_slice ho52
   clear ho52 f52 hat52
   refine hK.out _ _ (fun _=>S3.out.fr g52) ?_
   clear hK K hHeld
   (try simp only [Act.put,lA,lZ,lS])
   (refine OrdS.one (i:=13) rfl (by kernel_rfl) ?_;intro K hK)
   go_simp
   go_at_call 23
   refine (bykeys _ _ prs (PD3.out.fr (show Fr0 w3 _ from by ((repeat' with_reducible first|assumption|exact frR|apply frD|apply frN|apply frA|apply frM|apply frC);all_goals (simp;try omega)))) hpl).mono ?_
   rintro e w23 ⟨ao23,cap23,rfl,h23,f23⟩
   have O23:=Lib.hid (ownsRow_fr O52.out f23 (fun _ _ q=>q))
   have P23:=Lib.hid h23
   have g23:Fr0 w3 w23:=Fr.trans0 (by ((repeat' with_reducible first|assumption|exact frR|apply frD|apply frN|apply frA|apply frM|apply frC);all_goals (simp;try omega))) f23
   have S23:=Lib.hid g23.size
   clear h23 f23
   dsimp only
   have hHeld:=S3.out.fr g23
   refine hK.out _ _ (fun _=>hHeld) ?_
   clear hK K
   (try simp only [Act.put,lA,lZ,lS])
   (refine OrdS.tq (i:=14) (v:=?_) rfl (by kernel_rfl) (fun _ _ _ h=>h) (by rfl) hHeld ?_ ?_;rotate_left;focus (intro w' hSw;replace hSw:=hSw.out;go_simp;try with_reducible rfl);(try simp only [Act.put,lA,lZ,lS]))
   (refine OrdS.one (i:=15) rfl (by kernel_rfl) ?_;intro K hK)
   go_simp
   refine hK.out _ _ (fun _=>S3.out.fr (show Fr0 w3 _ from by ((repeat' with_reducible first|assumption|exact frR|apply frD|apply frN|apply frA|apply frM|apply frC);all_goals (simp;try omega)))) ?_
   clear hK K hHeld
   (try simp only [Act.put,lA,lZ,lS])
   (refine OrdS.one (i:=16) rfl (by kernel_rfl) ?_;intro K hK)
   refine step_appG 59 (by rfl) (.tmp 144) (.tmp 153) (by rfl) 72 _ 4 64 Tryz.underlying59 info72 rfl (by decide) (by decide) w3.heap.size (.slice ao52 s.ls.length cap52) s.ls.length (encL encLk (s.ls.zip vs)) (by rfl) (ownsRow_fr O23.out (show Fr0 w23 _ from by ((repeat' with_reducible first|assumption|exact frR|apply frD|apply frN|apply frA|apply frM|apply frC);all_goals (simp;try omega))) (fun _ _ q=>q)) (.slice (some ⟨w23.heap.size,0,none⟩) 1 1) 1 [.string a,.string b,.int .i64 wt,.slice ao23 (byK prs).length cap23] (by rfl) (yields_own (own_of_block (heap_alloc_new _ _) rfl)) rfl (by intro u hu;simp only [List.mem_cons,List.not_mem_nil,or_false] at hu;rcases hu with rfl|rfl|rfl|rfl <;> rfl) (by have:=HS.out.ls;omega) (by have:=S23.out;simp;omega) ?_
   intro v63 w63 ho63 f63 hat63
   have g63:Fr0 w3 w63:=Fr.trans (by ((repeat' with_reducible first|assumption|exact frR|apply frD|apply frN|apply frA|apply frM|apply frC);all_goals (simp;try omega))) f63 (fun q hq=>.inr (L52.out q hq).1)
   have P63:=Lib.hid (((PairsIn.fr P23.out (show Fr0 w23 _ from by ((repeat' with_reducible first|assumption|exact frR|apply frD|apply frN|apply frA|apply frM|apply frC);all_goals (simp;try omega))) (fun _ _ _ q=>q)).fr f63 (fun q h1 h2 h3=>by have:=(L52.out q h3).2;omega)).imp fun q h1 _=>(show w3.heap.size≤q from by have:=G52.out;omega))
   have O63:=Lib.hid ho63
   obtain ⟨ao63,cap63,rfl, -, -⟩:=own_slice ho63
   have c7:=(S3.out.fr g63).pts
   have c7f:w63.frozen? ⟨sb,8,none⟩=false:=(g63.frozen (p:=⟨sb,8,none⟩) hsb3 (fun q=>q)).trans HFZ.out
   clear ho63 f63 hat63
   refine hK.out _ _ (fun _=>S3.out.fr g63) ?_
   clear hK K
   (try simp only [Act.put,lA,lZ,lS])
   (refine OrdS.one (i:=17) rfl (by kernel_rfl) ?_;intro K hK)
   go_simp
   refine hK.out _ _ (fun _=>S3.out.fr g63) ?_
   clear hK K
   (try simp only [Act.put,lA,lZ,lS])
   (refine OrdS.one (i:=18) rfl (by kernel_rfl) ?_;intro K hK)
   go_simp
   refine hK.out _ _ (fun _=>S3.out.fr g63) ?_
   clear hK K
   (try simp only [Act.put,lA,lZ,lS])
   (refine OrdS.one (i:=19) rfl (by kernel_rfl) ?_;intro K hK)
   go_simp
   refine hK.out _ _ (fun h=>absurd (show true=false from h) (by decide)) ?_
   clear hK K
   (try simp only [Act.put,lA,lZ,lS])
   refine OrdS.done (by kernel_rfl) ?_
   have F63:=Lib.hid (F3.out.trans0 g63)
   have FA:=Lib.hid (show Fr (fun q=>q=sb) w63 (w63.setCell ⟨sb,8,none⟩ (.slice ao63 (s.ls.length+1) cap63)) from (Fr.refl (fun q=>q=sb) _).setCell (.inl rfl) _)
   have R:=((W0.out.2.1.fr F63.out (fun q=>q)).fr FA.out (fun q=>hne1 q.symm))
   have X:=((W0.out.2.2.1.fr F63.out (fun q=>q)).fr FA.out (fun q=>hne2 q.symm))
   obtain ⟨r0,r1,r2,r3,r4,r5,r6,r7,r8,r9⟩:=R.ten
   obtain ⟨rf0,rf1,rf2,rf3,rf4,rf5,rf6,rf7,rf8,rf9⟩:=R.tenf
   have rl:=R.lt
   obtain ⟨x0,x1,x2,x3,x4,x5,x6,x7,x8,x9⟩:=X.ten
   have xf0:=X.free 0
   have xl:=X.lt
   clear R X c7 c7f
   generalize hA:w63.setCell ⟨sb,8,none⟩ (.slice ao63 (s.ls.length+1) cap63)=wA at *
   go_wp2_with fail
   refine bodyPost_ret (v:=toldE 0) (by simp [results,Tryz.results28,go_sem, *]) rfl ?_
   subst hA
   have f':Fr (fun q=>q=w.heap.size+1) (w63.setCell ⟨sb,8,none⟩ (.slice ao63 (s.ls.length+1) cap63)) _:=(((((((((((Fr.refl (fun q=>q=w.heap.size+1) (w63.setCell ⟨sb,8,none⟩ (.slice ao63 (s.ls.length+1) cap63))).setCell (.inl rfl) (.int .u8 0) (p:=⟨w.heap.size+1,0,none⟩)).setCell (.inl rfl) (.string ⟨#[]⟩) (p:=⟨w.heap.size+1,1,none⟩)).setCell (.inl rfl) (.string ⟨#[]⟩) (p:=⟨w.heap.size+1,2,none⟩)).setCell (.inl rfl) (.string ⟨#[]⟩) (p:=⟨w.heap.size+1,3,none⟩)).setCell (.inl rfl) (.int .i64 0) (p:=⟨w.heap.size+1,4,none⟩)).setCell (.inl rfl) (.int .i64 0) (p:=⟨w.heap.size+1,5,none⟩)).setCell (.inl rfl) (.int .i64 0) (p:=⟨w.heap.size+1,6,none⟩)).setCell (.inl rfl) (.slice none 0 0) (p:=⟨w.heap.size+1,7,none⟩)).setCell (.inl rfl) (.slice none 0 0) (p:=⟨w.heap.size+1,8,none⟩)).setCell (.inl rfl) (.slice none 0 0) (p:=⟨w.heap.size+1,9,none⟩))
   refine ⟨_,rfl,toldE_at _ _ 0,ZRep.newL (s:=s) HC3.out.1 HC3.out.2.1 (LinksIn.snoc (x:=⟨a,b,wt,byK prs⟩) O63.out VS.out.1 (fun i l u h1 h2=>(VS.out.2.2 i l u h1 h2).fr g63 fun _ _ _ q=>q) (P63.out.imp fun q h1 _=>⟨by omega,by omega⟩) fun q h1=>⟨by omega,by omega⟩) g63 f' hne1,?_⟩
   exact (((FW3.out.trans0 g63).mono fun _ q=>q.elim).trans FA.out fun _ q=>.inl q).trans f' fun q h1=>.inr (by omega)
theorem StoP.maps {w w1 w':World} {sb n:Nat} {s:St} (h:ZRep w sb s) (f:Fr0 w w') (f1:Fr (fun q=>q=n+1∨q=n+1+1) w1 w') (kv lv:Value) (ks:List ByteArray) (ls:List SL) (hk:KeysIn w1 (fun q=>q≠sb∧q≠n+1∧q≠n+1+1) kv ks)
   (hl:LinksIn w1 (fun q=>q≠sb∧q≠n+1∧q≠n+1+1) lv ls):StoP w sb { keys:=ks,links:=ls } s (.returned (toldVal { keys:=ks,links:=ls } (.slice none 0 0) kv lv)) w' :=
 ⟨_,rfl,⟨_,_,_,rfl,PairsIn.nil _ _,(hk.fr f1 (fun q h _ z=>by rcases z with e|e;exact h.2.1 e;exact h.2.2 e)).imp fun q h _=>h.1,(hl.fr f1 (fun q h _ z=>by rcases z with e|e;exact h.2.1 e;exact h.2.2 e)).imp fun q h _=>h.1⟩,h.fr0 f,f.mono fun _ q=>q.elim⟩
theorem sto9 (w:World) (sb:Nat) (s:St) (h:ZRep w sb s) (hs:Small s) (hk:((s.both false).map keyS).Nodup) (a b:ByteArray) (wt:Int) (pv:Value) (prs:List PP) (hp:PrAt w pv prs) :
   Calls Tryz.prog 28 #[.pointer (some ⟨sb,0,none⟩),doS 9 a b wt pv] w fun e w'=>StoP w sb { keys:=sortK s.keys,links:=sortL (s.both false) } s e w':=by
 have H:=Lib.hid h
 have hlb:=h.lt
 have HS:=Lib.hid hs
 have HK:=Lib.hid hk
 clear h hs hk
 obtain ⟨pa,pc,rfl⟩:=hp.form
 clear hp
 have W0:=Lib.hid (w28_cells w 9 a b wt (.slice pa prs.length pc))
 go_enter Tryz.func28,Tryz.ntmps28
 go_wp2_with fail
 go_quiet (fail)
 go_wp2_with fail
 refine (point44 _ sb s (H.out.fr0 (by ((repeat' with_reducible first|assumption|exact frR|apply frD|apply frN|apply frA|apply frM|apply frC);all_goals (simp;try omega)))) HS.out.ps a).mono ?_
 rintro e w2 ⟨rfl,f2⟩
 have F2:=Lib.hid (show Fr0 (W28 w 9 a b wt (.slice pa prs.length pc)) w2 from Fr.trans0 (by ((repeat' with_reducible first|assumption|exact frR|apply frD|apply frN|apply frA|apply frM|apply frC);all_goals (simp;try omega))) f2)
 clear f2
 go_wp2_with fail
 refine (link45 _ sb s (H.out.fr0 (W0.out.2.2.2.trans0 F2.out)) HS.out.ls a b).mono ?_
 rintro e w3 ⟨rfl,f3⟩
 have F3:=Lib.hid (F2.out.trans0 f3)
 clear f3
 have f30:=W0.out.2.2.2.trans0 F3.out
 have GX:Fr0 (W28 w 9 a b wt (.slice pa prs.length pc)) w3:=F3.out
 have d0:=(W0.out.1.fr F3.out (fun q=>q)).cell 0 _ rfl
 go_wp2_with fail
 have hrd:∀ q,(W28 w 9 a b wt (.slice pa prs.length pc)).heap.size≤q→q≠sb∧q≠w.heap.size+1∧q≠w.heap.size+1+1:=fun q h=>by
   have:(W28 w 9 a b wt (.slice pa prs.length pc)).heap.size=w.heap.size+1+1+1:=by simp
   omega
 have hq1:w.heap.size+1+1≠w.heap.size:=by omega
 have hq2:w.heap.size≠w.heap.size+1+1:=by omega
 have hq3:w.heap.size+1≠w.heap.size+1+1:=by omega
 have hq4:w.heap.size+1+1≠w.heap.size+1:=by omega
 obtain ⟨b1,b2,b3,b4,pv0,lv0,hc0, -,hl0⟩:=H.out
 have HC:=hid2 (show Cells w sb (zCells s b1 b2 b3 b4 pv0 lv0) 91 from hc0) (hl0.imp (p':=fun q=>q≠sb∧q < w.heap.size) fun q h z=>⟨h,z⟩)
 clear hc0 hl0
 go_region_held3 (fun w'=>w'.cell? ⟨w.heap.size,0,none⟩=some (.int .u8 9)) (go_keep)
   (first
     | (go_at_call 34
        refine (keys34 _ sb s (H.out.fr0 (show Fr0 w _ from by ((repeat' with_reducible first|assumption|exact frR|apply frD|apply frN|apply frA|apply frM|apply frC);all_goals (simp;try omega)))) HS.out).mono ?_
        rintro e wq ⟨kv,rfl,hv,fv⟩
        replace hv:=hv.imp (p':=(fun q=>q≠sb∧q≠w.heap.size+1∧q≠w.heap.size+1+1)) (fun q h _=>hrd q (Nat.le_trans (show Fr0 (W28 w 9 a b wt (.slice pa prs.length pc)) _ from by ((repeat' with_reducible first|assumption|exact frR|apply frD|apply frN|apply frA|apply frM|apply frC);all_goals (simp;try omega))).size h))
        have GW:Fr0 w wq:=Fr.trans0 (by ((repeat' with_reducible first|assumption|exact frR|apply frD|apply frN|apply frA|apply frM|apply frC);all_goals (simp;try omega))) fv
        have GX:Fr0 (W28 w 9 a b wt (.slice pa prs.length pc)) wq:=Fr.trans0 (by ((repeat' with_reducible first|assumption|exact frR|apply frD|apply frN|apply frA|apply frM|apply frC);all_goals (simp;try omega))) fv
        obtain ⟨⟨ka,kc,rfl, -, -⟩, -⟩:=id hv
        have KV:=Lib.hid hv
        try have LV:=Lib.hid (LV.out.fr (Fr.trans0 (by ((repeat' with_reducible first|assumption|exact frR|apply frD|apply frN|apply frA|apply frM|apply frC);all_goals (simp;try omega))) fv) (fun _ _ _ q=>q))
        have X:=Lib.hid (W0.out.2.2.1.fr GX (fun q=>q))
        have R:=Lib.hid (W0.out.2.1.fr GX (fun q=>q))
        have d0:=(W0.out.1.fr GX (fun q=>q)).cell 0 _ rfl
        have x8:=X.out.cell 8 _ rfl;have x9:=X.out.cell 9 _ rfl;have xf8:=X.out.free 8;have xf9:=X.out.free 9;have xl:=X.out.lt
        clear hv fv)
     | (go_at_call 49
        refine (all49 _ sb s (fun q=>q≠sb∧q < w.heap.size) b1 b2 b3 b4 pv0 lv0 (HC.out.1.fr (show Fr0 w _ from by ((repeat' with_reducible first|assumption|exact frR|apply frD|apply frN|apply frA|apply frM|apply frC);all_goals (simp;try omega))) (fun q=>q)) (HC.out.2.fr (show Fr0 w _ from by ((repeat' with_reducible first|assumption|exact frR|apply frD|apply frN|apply frA|apply frM|apply frC);all_goals (simp;try omega))) (fun _ _ _ q=>q)) HS.out false HK.out).mono ?_
        rintro e wq ⟨lv,rfl,hv,fv⟩
        replace hv:=hv.imp (p':=(fun q=>q≠sb∧q≠w.heap.size+1∧q≠w.heap.size+1+1)) (fun q h _=>by rcases h with h|h;exact ⟨h.1,by omega,by omega⟩;exact hrd q (Nat.le_trans (show Fr0 (W28 w 9 a b wt (.slice pa prs.length pc)) _ from by ((repeat' with_reducible first|assumption|exact frR|apply frD|apply frN|apply frA|apply frM|apply frC);all_goals (simp;try omega))).size h))
        have GW:Fr0 w wq:=Fr.trans0 (by ((repeat' with_reducible first|assumption|exact frR|apply frD|apply frN|apply frA|apply frM|apply frC);all_goals (simp;try omega))) fv
        have GX:Fr0 (W28 w 9 a b wt (.slice pa prs.length pc)) wq:=Fr.trans0 (by ((repeat' with_reducible first|assumption|exact frR|apply frD|apply frN|apply frA|apply frM|apply frC);all_goals (simp;try omega))) fv
        obtain ⟨la,lc,rfl, -⟩:=hv.form
        have LV:=Lib.hid hv
        try have KV:=Lib.hid (KV.out.fr (Fr.trans0 (by ((repeat' with_reducible first|assumption|exact frR|apply frD|apply frN|apply frA|apply frM|apply frC);all_goals (simp;try omega))) fv) (fun _ _ _ q=>q))
        have X:=Lib.hid (W0.out.2.2.1.fr GX (fun q=>q))
        have R:=Lib.hid (W0.out.2.1.fr GX (fun q=>q))
        have d0:=(W0.out.1.fr GX (fun q=>q)).cell 0 _ rfl
        have x8:=X.out.cell 8 _ rfl;have x9:=X.out.cell 9 _ rfl;have xf8:=X.out.free 8;have xf9:=X.out.free 9;have xl:=X.out.lt
        clear hv fv)
     | fail)
 all_goals
   have x0:=X.out.cell 0 _ rfl;have x1:=X.out.cell 1 _ rfl;have x2:=X.out.cell 2 _ rfl;have x3:=X.out.cell 3 _ rfl;have x4:=X.out.cell 4 _ rfl;have x5:=X.out.cell 5 _ rfl;have x6:=X.out.cell 6 _ rfl;have x7:=X.out.cell 7 _ rfl
   obtain ⟨r0,r1,r2,r3,r4,r5,r6,r7,r8,r9⟩:=R.out.ten;obtain ⟨rf0,rf1,rf2,rf3,rf4,rf5,rf6,rf7,rf8,rf9⟩:=R.out.tenf
   have rl:=R.out.lt
   go_wp2_with fail
   refine bodyPost_ret (v:=.agg #[.int .u8 0,.string ⟨#[]⟩,.string ⟨#[]⟩,.string ⟨#[]⟩,.int .i64 0,.int .i64 0,.int .i64 0,.slice none 0 0,.slice ka (sortK s.keys).length kc,.slice la (sortL (s.both false)).length lc]) (by simp [results,Tryz.results28,go_sem, *]) rfl ?_
   exact StoP.maps H.out (by ((repeat' with_reducible first|assumption|exact frR|apply frD|apply frN|apply frA|apply frM|apply frC);all_goals (simp;try omega))) (by (repeat' (first|(with_reducible exact Fr.refl _ _)|(with_reducible refine Fr.drew ?_)|(with_reducible refine Fr.setCell ?_ (.inl ?_) _)));all_goals first|exact .inl rfl|exact .inr rfl) _ _ _ _ KV.out LV.out
theorem sto10 (w:World) (sb:Nat) (s:St) (h:ZRep w sb s) (hs:Small s) (hk:((s.both true).map keyS).Nodup) (a b:ByteArray) (wt:Int) (pv:Value) (prs:List PP) (hp:PrAt w pv prs) :
   Calls Tryz.prog 28 #[.pointer (some ⟨sb,0,none⟩),doS 10 a b wt pv] w fun e w'=>StoP w sb { keys:=sortK s.keys,links:=sortL (s.both true) } s e w':=by
 have H:=Lib.hid h
 have hlb:=h.lt
 have HS:=Lib.hid hs
 have HK:=Lib.hid hk
 clear h hs hk
 obtain ⟨pa,pc,rfl⟩:=hp.form
 clear hp
 have W0:=Lib.hid (w28_cells w 10 a b wt (.slice pa prs.length pc))
 go_enter Tryz.func28,Tryz.ntmps28
 go_wp2_with fail
 go_quiet (fail)
 go_wp2_with fail
 refine (point44 _ sb s (H.out.fr0 (by ((repeat' with_reducible first|assumption|exact frR|apply frD|apply frN|apply frA|apply frM|apply frC);all_goals (simp;try omega)))) HS.out.ps a).mono ?_
 rintro e w2 ⟨rfl,f2⟩
 have F2:=Lib.hid (show Fr0 (W28 w 10 a b wt (.slice pa prs.length pc)) w2 from Fr.trans0 (by ((repeat' with_reducible first|assumption|exact frR|apply frD|apply frN|apply frA|apply frM|apply frC);all_goals (simp;try omega))) f2)
 clear f2
 go_wp2_with fail
 refine (link45 _ sb s (H.out.fr0 (W0.out.2.2.2.trans0 F2.out)) HS.out.ls a b).mono ?_
 rintro e w3 ⟨rfl,f3⟩
 have F3:=Lib.hid (F2.out.trans0 f3)
 clear f3
 have f30:=W0.out.2.2.2.trans0 F3.out
 have GX:Fr0 (W28 w 10 a b wt (.slice pa prs.length pc)) w3:=F3.out
 have d0:=(W0.out.1.fr F3.out (fun q=>q)).cell 0 _ rfl
 go_wp2_with fail
 have hrd:∀ q,(W28 w 10 a b wt (.slice pa prs.length pc)).heap.size≤q→q≠sb∧q≠w.heap.size+1∧q≠w.heap.size+1+1:=fun q h=>by
   have:(W28 w 10 a b wt (.slice pa prs.length pc)).heap.size=w.heap.size+1+1+1:=by simp
   omega
 have hq1:w.heap.size+1+1≠w.heap.size:=by omega
 have hq2:w.heap.size≠w.heap.size+1+1:=by omega
 have hq3:w.heap.size+1≠w.heap.size+1+1:=by omega
 have hq4:w.heap.size+1+1≠w.heap.size+1:=by omega
 obtain ⟨b1,b2,b3,b4,pv0,lv0,hc0, -,hl0⟩:=H.out
 have HC:=hid2 (show Cells w sb (zCells s b1 b2 b3 b4 pv0 lv0) 91 from hc0) (hl0.imp (p':=fun q=>q≠sb∧q < w.heap.size) fun q h z=>⟨h,z⟩)
 clear hc0 hl0
 go_region_held3 (fun w'=>w'.cell? ⟨w.heap.size,0,none⟩=some (.int .u8 10)) (go_keep)
   (first
     | (go_at_call 34
        refine (keys34 _ sb s (H.out.fr0 (show Fr0 w _ from by ((repeat' with_reducible first|assumption|exact frR|apply frD|apply frN|apply frA|apply frM|apply frC);all_goals (simp;try omega)))) HS.out).mono ?_
        rintro e wq ⟨kv,rfl,hv,fv⟩
        replace hv:=hv.imp (p':=(fun q=>q≠sb∧q≠w.heap.size+1∧q≠w.heap.size+1+1)) (fun q h _=>hrd q (Nat.le_trans (show Fr0 (W28 w 10 a b wt (.slice pa prs.length pc)) _ from by ((repeat' with_reducible first|assumption|exact frR|apply frD|apply frN|apply frA|apply frM|apply frC);all_goals (simp;try omega))).size h))
        have GW:Fr0 w wq:=Fr.trans0 (by ((repeat' with_reducible first|assumption|exact frR|apply frD|apply frN|apply frA|apply frM|apply frC);all_goals (simp;try omega))) fv
        have GX:Fr0 (W28 w 10 a b wt (.slice pa prs.length pc)) wq:=Fr.trans0 (by ((repeat' with_reducible first|assumption|exact frR|apply frD|apply frN|apply frA|apply frM|apply frC);all_goals (simp;try omega))) fv
        obtain ⟨⟨ka,kc,rfl, -, -⟩, -⟩:=id hv
        have KV:=Lib.hid hv
        try have LV:=Lib.hid (LV.out.fr (Fr.trans0 (by ((repeat' with_reducible first|assumption|exact frR|apply frD|apply frN|apply frA|apply frM|apply frC);all_goals (simp;try omega))) fv) (fun _ _ _ q=>q))
        have X:=Lib.hid (W0.out.2.2.1.fr GX (fun q=>q))
        have R:=Lib.hid (W0.out.2.1.fr GX (fun q=>q))
        have d0:=(W0.out.1.fr GX (fun q=>q)).cell 0 _ rfl
        have x8:=X.out.cell 8 _ rfl;have x9:=X.out.cell 9 _ rfl;have xf8:=X.out.free 8;have xf9:=X.out.free 9;have xl:=X.out.lt
        clear hv fv)
     | (go_at_call 49
        refine (all49 _ sb s (fun q=>q≠sb∧q < w.heap.size) b1 b2 b3 b4 pv0 lv0 (HC.out.1.fr (show Fr0 w _ from by ((repeat' with_reducible first|assumption|exact frR|apply frD|apply frN|apply frA|apply frM|apply frC);all_goals (simp;try omega))) (fun q=>q)) (HC.out.2.fr (show Fr0 w _ from by ((repeat' with_reducible first|assumption|exact frR|apply frD|apply frN|apply frA|apply frM|apply frC);all_goals (simp;try omega))) (fun _ _ _ q=>q)) HS.out true HK.out).mono ?_
        rintro e wq ⟨lv,rfl,hv,fv⟩
        replace hv:=hv.imp (p':=(fun q=>q≠sb∧q≠w.heap.size+1∧q≠w.heap.size+1+1)) (fun q h _=>by rcases h with h|h;exact ⟨h.1,by omega,by omega⟩;exact hrd q (Nat.le_trans (show Fr0 (W28 w 10 a b wt (.slice pa prs.length pc)) _ from by ((repeat' with_reducible first|assumption|exact frR|apply frD|apply frN|apply frA|apply frM|apply frC);all_goals (simp;try omega))).size h))
        have GW:Fr0 w wq:=Fr.trans0 (by ((repeat' with_reducible first|assumption|exact frR|apply frD|apply frN|apply frA|apply frM|apply frC);all_goals (simp;try omega))) fv
        have GX:Fr0 (W28 w 10 a b wt (.slice pa prs.length pc)) wq:=Fr.trans0 (by ((repeat' with_reducible first|assumption|exact frR|apply frD|apply frN|apply frA|apply frM|apply frC);all_goals (simp;try omega))) fv
        obtain ⟨la,lc,rfl, -⟩:=hv.form
        have LV:=Lib.hid hv
        try have KV:=Lib.hid (KV.out.fr (Fr.trans0 (by ((repeat' with_reducible first|assumption|exact frR|apply frD|apply frN|apply frA|apply frM|apply frC);all_goals (simp;try omega))) fv) (fun _ _ _ q=>q))
        have X:=Lib.hid (W0.out.2.2.1.fr GX (fun q=>q))
        have R:=Lib.hid (W0.out.2.1.fr GX (fun q=>q))
        have d0:=(W0.out.1.fr GX (fun q=>q)).cell 0 _ rfl
        have x8:=X.out.cell 8 _ rfl;have x9:=X.out.cell 9 _ rfl;have xf8:=X.out.free 8;have xf9:=X.out.free 9;have xl:=X.out.lt
        clear hv fv)
     | fail)
 all_goals
   have x0:=X.out.cell 0 _ rfl;have x1:=X.out.cell 1 _ rfl;have x2:=X.out.cell 2 _ rfl;have x3:=X.out.cell 3 _ rfl;have x4:=X.out.cell 4 _ rfl;have x5:=X.out.cell 5 _ rfl;have x6:=X.out.cell 6 _ rfl;have x7:=X.out.cell 7 _ rfl
   obtain ⟨r0,r1,r2,r3,r4,r5,r6,r7,r8,r9⟩:=R.out.ten;obtain ⟨rf0,rf1,rf2,rf3,rf4,rf5,rf6,rf7,rf8,rf9⟩:=R.out.tenf
   have rl:=R.out.lt
   go_wp2_with fail
   refine bodyPost_ret (v:=.agg #[.int .u8 0,.string ⟨#[]⟩,.string ⟨#[]⟩,.string ⟨#[]⟩,.int .i64 0,.int .i64 0,.int .i64 0,.slice none 0 0,.slice ka (sortK s.keys).length kc,.slice la (sortL (s.both true)).length lc]) (by simp [results,Tryz.results28,go_sem, *]) rfl ?_
   exact StoP.maps H.out (by ((repeat' with_reducible first|assumption|exact frR|apply frD|apply frN|apply frA|apply frM|apply frC);all_goals (simp;try omega))) (by (repeat' (first|(with_reducible exact Fr.refl _ _)|(with_reducible refine Fr.drew ?_)|(with_reducible refine Fr.setCell ?_ (.inl ?_) _)));all_goals first|exact .inl rfl|exact .inr rfl) _ _ _ _ KV.out LV.out
theorem StoP.lnks {w w1 w':World} {sb n:Nat} {s:St} (h:ZRep w sb s) (f:Fr0 w w') (f1:Fr (fun q=>q=n+1∨q=n+1+1) w1 w') (lv:Value) (ls:List SL)
   (hl:LinksIn w1 (fun q=>q≠sb∧q≠n+1∧q≠n+1+1) lv ls):StoP w sb { links:=ls } s (.returned (toldVal { links:=ls } (.slice none 0 0) (.slice none 0 0) lv)) w' :=
 ⟨_,rfl,⟨_,_,_,rfl,PairsIn.nil _ _,KeysIn.nil _ _,(hl.fr f1 (fun q h _ z=>by rcases z with e|e;exact h.2.1 e;exact h.2.2 e)).imp fun q h _=>h.1⟩,h.fr0 f,f.mono fun _ q=>q.elim⟩
def lowD (dir:Bool) (d:LnkV):LnkV:=if !dir && ltB d.1.b d.1.a then turnD d else d
theorem lowD_sl (dir:Bool) (D:List LnkV):(D.map (lowD dir)).map (·.1)=(D.map (·.1)).map (SL.low dir):=by
 rw [List.map_map,List.map_map]
 refine List.map_congr_left fun d _ => ?_
 show (lowD dir d).1=SL.low dir d.1
 unfold lowD SL.low
 split <;> rfl
theorem lowD_same (dir:Bool) (d:LnkV):(lowD dir d).val=d.val∧(lowD dir d).1.es=d.1.es:=by
 unfold lowD
 split <;> exact ⟨rfl,rfl⟩
structure EdL (w0:World) (dir:Bool) (D:List LnkV) (i:Nat) (v:Value) (wr:World):Prop where
 row:wr.ownsRow w0.heap.size 72 4 v i (encL encLnk ((D.take i).map (lowD dir)))
 fr:Fr0 w0 wr
theorem EdL.step {w0 w4:World} {dir:Bool} {D:List LnkV} {i:Nat} {v':Value} {d e:LnkV} (hd:D[i]? = some d) (he:lowD dir d=e)
   (ho:w4.ownsRow w0.heap.size 72 4 v' (i+1) (encL encLnk ((D.take i).map (lowD dir)) ++ encLnk e)) (f:Fr0 w0 w4):EdL w0 dir D (i+1) v' w4:=by
 have hi:=(List.getElem?_eq_some_iff.1 hd).1
 refine ⟨?_,f⟩
 rw [List.take_succ_eq_append_getElem hi,(List.getElem?_eq_some_iff.1 hd).2,List.map_append,encLnk_app,List.map_singleton,he]
 simpa [encL] using ho
theorem yieldAt {W:World} {n:Nat} {cs:Array Value} {t:TypeId} {size:Nat} (hn:W.heap.size=n) (hc:cs.size=size):Yld (W.alloc (.cells cs t)) (.slice (some ⟨n,0,none⟩) 1 1) 1 cs.toList:=hn▸yield1 W cs t size hc
theorem sto8 (w:World) (sb:Nat) (s:St) (h:ZRep w sb s) (hs:Small s) (hk:((s.ls.map (SL.low s.dir)).map keyS).Nodup) (a b:ByteArray) (wt:Int) (pv:Value) (prs:List PP) (hp:PrAt w pv prs) :
   Calls Tryz.prog 28 #[.pointer (some ⟨sb,0,none⟩),doS 8 a b wt pv] w fun e w'=>StoP w sb { links:=sortL (s.ls.map (SL.low s.dir)) } s e w':=by
 have H:=Lib.hid h
 have hlb:=h.lt
 have HS:=Lib.hid hs
 have HK:=Lib.hid hk
 clear h hs hk
 obtain ⟨pa,pc,rfl⟩:=hp.form
 clear hp
 have W0:=Lib.hid (w28_cells w 8 a b wt (.slice pa prs.length pc))
 go_enter Tryz.func28,Tryz.ntmps28
 go_wp2_with fail
 go_quiet (fail)
 go_wp2_with fail
 refine (point44 _ sb s (H.out.fr0 (by ((repeat' with_reducible first|assumption|exact frR|apply frD|apply frN|apply frA|apply frM|apply frC);all_goals (simp;try omega)))) HS.out.ps a).mono ?_
 rintro e w2 ⟨rfl,f2⟩
 have F2:=Lib.hid (show Fr0 (W28 w 8 a b wt (.slice pa prs.length pc)) w2 from Fr.trans0 (by ((repeat' with_reducible first|assumption|exact frR|apply frD|apply frN|apply frA|apply frM|apply frC);all_goals (simp;try omega))) f2)
 clear f2
 go_wp2_with fail
 refine (link45 _ sb s (H.out.fr0 (W0.out.2.2.2.trans0 F2.out)) HS.out.ls a b).mono ?_
 rintro e w3 ⟨rfl,f3⟩
 have F3:=Lib.hid (F2.out.trans0 f3)
 clear f3
 have FF:=Lib.hid (W0.out.2.2.2.trans0 F3.out)
 have d0:=(W0.out.1.fr F3.out (fun q=>q)).cell 0 _ rfl
 obtain ⟨b1,b2,b3,b4,pv0,lv0,hc0, -,hl0⟩:=H.out
 have hl3:=(hl0.imp (p':=fun q=>q≠sb∧q < w.heap.size) fun q h z=>⟨h,z⟩).fr FF.out (fun _ _ _ q=>q)
 obtain ⟨D,hD,hRD,hPD⟩:=hl3.rows
 obtain ⟨la,lc,rfl, -⟩:=hl0.form
 have HC:=Lib.hid (show Cells w sb (zCells s b1 b2 b3 b4 pv0 (.slice la s.ls.length lc)) 91 from hc0)
 have hDl:D.length=s.ls.length:=by rw [← hD,List.length_map]
 have HL6:=Lib.hid (show D.length≤1000000 from by have:=HS.out.ls;omega)
 have HH:=hid3 hD hRD hPD
 have c8:=(HC.out.fr FF.out (fun q=>q)).cell 8 (.slice la s.ls.length lc) rfl
 rw [← hDl] at c8
 have HDL:=Lib.hid hDl
 have SZ3:=Lib.hid (show w.heap.size+1+1+1≤w3.heap.size from by have:=F3.out.size;simpa using this)
 clear hc0 hl0 hl3 hD hRD hPD hDl
 go_wp2_with fail
 go_loopg [14,280] D.length (fun k v14 c wr=>∃ (i:Nat),k+i=D.length∧c=.int .i64 (i:Nat)∧EdL w3 s.dir D i v14 wr)
 case atStart=>exact ⟨0,rfl,rfl,⟨World.ownsRow_nil _ _ _ _,Fr.refl _ _⟩⟩
 case round =>
   obtain ⟨i,hk,rfl,R⟩:=hrel
   have A:=hid2 hk R
   clear hk R
   by_cases hi:i < D.length
   · have hg:=List.getElem?_eq_getElem hi
     generalize D[i]=d at hg
     have HG:=Lib.hid hg
     have at_:∀ c u,c < 4→(encLnk d)[c]? = some u→∃ ob cap,(Value.slice la s.ls.length lc)=.slice (some ⟨ob,0,none⟩) D.length cap∧D.length≤cap∧ob < wr.heap.size∧wr.cell? ⟨ob,i * 4+c,none⟩=some u :=
       fun c u hc hu=>(HH.out.2.1.fr A.out.2.fr (fun _ _ _ q=>q)).cell ((encL_mem encLnk 4 D (fun _ _=>rfl) i c d hg hc).trans hu)
     obtain ⟨⟨da,db,dwt,des⟩,dv1,dv2,dv3⟩:=d
     obtain ⟨ob,cp,e, -,hob,c0⟩:=at_ 0 (.string da) (by decide) rfl
     obtain ⟨_,_,e1, -, -,c1⟩:=at_ 1 (.string db) (by decide) rfl
     obtain ⟨_,_,e2, -, -,c2⟩:=at_ 2 (.int .i64 dwt) (by decide) rfl
     obtain ⟨_,_,e3, -, -,c3⟩:=at_ 3 (.slice dv1 dv2 dv3) (by decide) rfl
     rw [← HDL.out] at e e1 e2 e3
     cases e;cases e1;cases e2;cases e3
     simp only [Nat.add_zero] at c0
     clear at_ hg
     have hob2:=Nat.ne_of_lt hob
     have FU:=Lib.hid ((Fr.refl (fun _=>False) wr).alloc (.cells #[.string da,.string db,.int .i64 dwt,.slice dv1 dv2 dv3] 72))
     have UA:=Lib.hid (Cells.new wr #[.string da,.string db,.int .i64 dwt,.slice dv1 dv2 dv3] 72)
     have SW:=Lib.hid A.out.2.fr.size
     go_upto_region 55 with fail
     clear c0 c1 c2 c3 hob hob2
     generalize wr.alloc (.cells #[.string da,.string db,.int .i64 dwt,.slice dv1 dv2 dv3] 72)=U at *
     have SZU:=Lib.hid (show w3.heap.size≤U.heap.size from by have:=SW.out;have:=FU.out.size;omega)
     have s0:=(HC.out.fr (FF.out.trans0 (A.out.2.fr.trans0 FU.out)) (fun q=>q)).cell 0 (.bool s.dir) rfl
     generalize hn1:wr.heap.size=n1 at *
     have FSW:=Lib.hid (show Fr0 wr ((U.setCell ⟨n1,0,none⟩ (.string db)).setCell ⟨n1,1,none⟩ (.string da)) from (FU.out.setCell (.inr (Nat.le_of_eq hn1)) _).setCell (.inr (Nat.le_of_eq hn1)) _)
     have ua0:=UA.out.cell 0 _ rfl
     have ua1:=UA.out.cell 1 _ rfl
     have ua2:=UA.out.cell 2 _ rfl
     have ua3:=UA.out.cell 3 _ rfl
     have uf0:=UA.out.free 0
     have uf1:=UA.out.free 1
     have ul:=UA.out.lt
     have hdd:s.dir=true∨s.dir=false:=by cases s.dir <;> simp
     rcases hdd with hdir|hdir
     · skip
       rw [hdir] at s0;have HDIR:=Lib.hid hdir;clear hdir
       go_wp2_with (first
                   | (at_builtin;go_loud (refine wl_appG (w:=U.alloc (.cells #[.string da,.string db,.int .i64 dwt,.slice dv1 dv2 dv3] 72)) 59 rfl (.tmp 303) (.tmp 305) rfl 72 _ 4 64 Tryz.underlying59 info72 rfl (by decide) (by decide) w3.heap.size u14 i _ rfl ((ownsRow_fr A.out.2.row FU.out (fun _ _ q=>q)).alloc _) (.slice (some ⟨U.heap.size,0,none⟩) 1 1) 1 [.string da,.string db,.int .i64 dwt,.slice dv1 dv2 dv3] rfl (yield1 _ _ _ 4 rfl) rfl (by simp [Value.oneCell']) (by have:=HL6.out;omega) (by have:=SZU.out;simp;omega) ?_)))
       intro v4 w4 ho4 f4 at4
       obtain ⟨a4,cp4,rfl, -, -⟩:=own_slice ho4
       have O4:=Lib.hid ho4
       have F4:=Lib.hid ((A.out.2.fr.trans0 (FU.out.alloc _)).trans f4 fun q hq=>.inr (A.out.2.row.lt q hq).1)
       clear ho4 f4 at4
       go_wp2_with fail
       go_roundg (gk - 1)
       case measure=>have:=A.out.1;omega
       case rel=>exact ⟨i+1,by have:=A.out.1;omega,by simp [w64z HL6.out hi],EdL.step HG.out (e:=(⟨da,db,dwt,des⟩,dv1,dv2,dv3)) (by unfold lowD;rw [HDIR.out];rfl) (by have z:=O4.out;rw [← List.map_take] at z;exact z) F4.out⟩
     · rw [hdir] at s0;have HDIR:=Lib.hid hdir;clear hdir
       cases hlt:Op.bytesLess db.toList da.toList with
       | true =>
         have h1:Op.bytesLess da.toList db.toList=false:=by have:=ltB_asym db da hlt;exact this
         have h2:(da.toList == db.toList)=false:=text_ne fun e=>by subst e;rw [bl_irrefl] at hlt;cases hlt
         go_wp2_with (first
                     | (at_builtin;go_loud (refine wl_appG (w:=((U.setCell ⟨n1,0,none⟩ (.string db)).setCell ⟨n1,1,none⟩ (.string da)).alloc (.cells #[.string db,.string da,.int .i64 dwt,.slice dv1 dv2 dv3] 72)) 59 rfl (.tmp 303) (.tmp 305) rfl 72 _ 4 64 Tryz.underlying59 info72 rfl (by decide) (by decide) w3.heap.size u14 i _ rfl ((ownsRow_fr A.out.2.row FSW.out (fun _ _ q=>q)).alloc _) (.slice (some ⟨U.heap.size,0,none⟩) 1 1) 1 [.string db,.string da,.int .i64 dwt,.slice dv1 dv2 dv3] rfl (yieldAt (by simp [World.setCell]) rfl) rfl (by simp [Value.oneCell']) (by have:=HL6.out;omega) (by have:=SZU.out;simp;omega) ?_)))
         intro v4 w4 ho4 f4 at4
         obtain ⟨a4,cp4,rfl, -, -⟩:=own_slice ho4
         have O4:=Lib.hid ho4
         have F4:=Lib.hid ((A.out.2.fr.trans0 (FSW.out.alloc _)).trans f4 fun q hq=>.inr (A.out.2.row.lt q hq).1)
         clear ho4 f4 at4
         go_wp2_with fail
         go_roundg (gk - 1)
         case measure=>have:=A.out.1;omega
         case rel=>exact ⟨i+1,by have:=A.out.1;omega,by simp [w64z HL6.out hi],EdL.step HG.out (e:=turnD (⟨da,db,dwt,des⟩,dv1,dv2,dv3)) (by unfold lowD;rw [HDIR.out];show (if (true && Op.bytesLess db.toList da.toList)=true then _ else _)=_;rw [hlt];rfl) (by have z:=O4.out;rw [← List.map_take] at z;exact z) F4.out⟩
       | false =>
         by_cases hab:da=db
         · subst hab
           have h1:Op.bytesLess da.toList da.toList=false:=hlt
           go_wp2_with (first
                       | (at_builtin;go_loud (refine wl_appG (w:=U.alloc (.cells #[.string da,.string da,.int .i64 dwt,.slice dv1 dv2 dv3] 72)) 59 rfl (.tmp 303) (.tmp 305) rfl 72 _ 4 64 Tryz.underlying59 info72 rfl (by decide) (by decide) w3.heap.size u14 i _ rfl ((ownsRow_fr A.out.2.row FU.out (fun _ _ q=>q)).alloc _) (.slice (some ⟨U.heap.size,0,none⟩) 1 1) 1 [.string da,.string da,.int .i64 dwt,.slice dv1 dv2 dv3] rfl (yield1 _ _ _ 4 rfl) rfl (by simp [Value.oneCell']) (by have:=HL6.out;omega) (by have:=SZU.out;simp;omega) ?_)))
           intro v4 w4 ho4 f4 at4
           obtain ⟨a4,cp4,rfl, -, -⟩:=own_slice ho4
           have O4:=Lib.hid ho4
           have F4:=Lib.hid ((A.out.2.fr.trans0 (FU.out.alloc _)).trans f4 fun q hq=>.inr (A.out.2.row.lt q hq).1)
           clear ho4 f4 at4
           go_wp2_with fail
           go_roundg (gk - 1)
           case measure=>have:=A.out.1;omega
           case rel=>exact ⟨i+1,by have:=A.out.1;omega,by simp [w64z HL6.out hi],EdL.step HG.out (e:=(⟨da,da,dwt,des⟩,dv1,dv2,dv3)) (by unfold lowD;rw [HDIR.out];show (if (true && Op.bytesLess da.toList da.toList)=true then _ else _)=_;rw [hlt];rfl) (by have z:=O4.out;rw [← List.map_take] at z;exact z) F4.out⟩
         · have h1:Op.bytesLess da.toList db.toList=true:=by
             cases q:Op.bytesLess da.toList db.toList with
             | true=>rfl
             | false=>exact absurd (ltB_tri q hlt) hab
           go_wp2_with (first
                       | (at_builtin;go_loud (refine wl_appG (w:=U.alloc (.cells #[.string da,.string db,.int .i64 dwt,.slice dv1 dv2 dv3] 72)) 59 rfl (.tmp 303) (.tmp 305) rfl 72 _ 4 64 Tryz.underlying59 info72 rfl (by decide) (by decide) w3.heap.size u14 i _ rfl ((ownsRow_fr A.out.2.row FU.out (fun _ _ q=>q)).alloc _) (.slice (some ⟨U.heap.size,0,none⟩) 1 1) 1 [.string da,.string db,.int .i64 dwt,.slice dv1 dv2 dv3] rfl (yield1 _ _ _ 4 rfl) rfl (by simp [Value.oneCell']) (by have:=HL6.out;omega) (by have:=SZU.out;simp;omega) ?_)))
           intro v4 w4 ho4 f4 at4
           obtain ⟨a4,cp4,rfl, -, -⟩:=own_slice ho4
           have O4:=Lib.hid ho4
           have F4:=Lib.hid ((A.out.2.fr.trans0 (FU.out.alloc _)).trans f4 fun q hq=>.inr (A.out.2.row.lt q hq).1)
           clear ho4 f4 at4
           go_wp2_with fail
           go_roundg (gk - 1)
           case measure=>have:=A.out.1;omega
           case rel=>exact ⟨i+1,by have:=A.out.1;omega,by simp [w64z HL6.out hi],EdL.step HG.out (e:=(⟨da,db,dwt,des⟩,dv1,dv2,dv3)) (by unfold lowD;rw [HDIR.out];show (if (true && Op.bytesLess db.toList da.toList)=true then _ else _)=_;rw [hlt];rfl) (by have z:=O4.out;rw [← List.map_take] at z;exact z) F4.out⟩
   · have hi':i=D.length:=by have:=A.out.1;omega
     subst hi'
     have hrow:=A.out.2.row
     rw [List.take_length] at hrow
     obtain ⟨a5,cp5,rfl, -, -⟩:=own_slice hrow
     generalize hBD:D.map (lowD s.dir)=BD at *
     have hlen:BD.length=D.length:=by rw [← hBD,List.length_map]
     have HBD:=hid3 hBD (own_slice hrow) hlen
     rw [← hlen]
     clear hBD hrow
     go_wp2_with fail
     refine (srt48 _ _ BD (by rw [HBD.out.2.2];exact HBD.out.2.1) (by have:=HL6.out;have:=HS.out.ls;have:=HDL.out;omega)).mono ?_
     rintro e w9 ⟨ao,cap,S,rfl,hI,ho,f9⟩
     have O9:=hid3 hI ho f9
     have F9:=Lib.hid (A.out.2.fr.trans0 f9)
     have GX:=Lib.hid (F3.out.trans0 F9.out)
     have GW:=W0.out.2.2.2.trans0 GX.out
     have X:=Lib.hid (W0.out.2.2.1.fr GX.out (fun q=>q))
     have R:=Lib.hid (W0.out.2.1.fr GX.out (fun q=>q))
     have hp:S.Perm BD:=by have:=hI.perm;rwa [List.take_length] at this
     have hln:BD.length=S.length:=hp.length_eq.symm
     have e1:BD.map (·.1)=s.ls.map (SL.low s.dir):=by rw [← HBD.out.1,lowD_sl,HH.out.1]
     have e2:S.map (·.1)=sortL (s.ls.map (SL.low s.dir)):=by
       refine sorted_links ((hp.map _).trans (by rw [e1])) ?_ ?_
       · rw [List.pairwise_map]
         exact hI.ord
       · have z:=HK.out
         rw [← e1] at z
         exact ((hp.map (fun x=>keyS x.1)).nodup_iff.2 (by simpa [List.map_map,Function.comp_def] using z):(S.map fun x=>keyS x.1).Nodup) |> fun t=>by simpa [List.map_map,Function.comp_def,keyS] using t
     have hlk:LinksIn w9 (fun q=>q≠sb∧q≠w.heap.size+1∧q≠w.heap.size+1+1) (.slice ao BD.length cap) (sortL (s.ls.map (SL.low s.dir))):=by
       rw [← e2]
       refine LinksIn.of_rows (by rw [hp.length_eq];exact own_slice ho) (fun q hq => ?_) fun d hd => ?_
       · have r1:=ho.lt q hq
         have r2:=A.out.2.fr.size
         have r3:=SZ3.out
         exact ⟨⟨by omega,by omega,by omega⟩,r1.2⟩
       · have hm:d∈D.map (lowD s.dir):=by rw [HBD.out.1];exact hp.mem_iff.1 hd
         obtain ⟨d1,h0,rfl⟩:=List.mem_map.1 hm
         have z:=(HH.out.2.2 d1 h0).fr F9.out (fun _ _ _ q=>q)
         rw [(lowD_same s.dir d1).1,(lowD_same s.dir d1).2]
         exact z.imp fun q z _=>⟨z.1,by omega,by omega⟩
     have hlq:BD.length=(sortL (s.ls.map (SL.low s.dir))).length:=by rw [← e2,List.length_map,hp.length_eq]
     have LV:=Lib.hid hlk
     clear hI ho f9 hp hln e1 e2 hlk
     have hq1:w.heap.size+1+1≠w.heap.size:=by omega
     have hq3:w.heap.size+1≠w.heap.size+1+1:=by omega
     have hq4:w.heap.size+1+1≠w.heap.size+1:=by omega
     obtain ⟨x0,x1,x2,x3,x4,x5,x6,x7,x8,x9⟩:=X.out.ten
     have xf9:=X.out.free 9
     have xl:=X.out.lt
     obtain ⟨r0,r1,r2,r3,r4,r5,r6,r7,r8,r9⟩:=R.out.ten;obtain ⟨rf0,rf1,rf2,rf3,rf4,rf5,rf6,rf7,rf8,rf9⟩:=R.out.tenf
     have rl:=R.out.lt
     go_wp2_with fail
     refine bodyPost_ret (v:=.agg #[.int .u8 0,.string ⟨#[]⟩,.string ⟨#[]⟩,.string ⟨#[]⟩,.int .i64 0,.int .i64 0,.int .i64 0,.slice none 0 0,.slice none 0 0,.slice ao BD.length cap]) (by simp [results,Tryz.results28,go_sem, *]) rfl ?_
     exact StoP.lnks H.out (by ((repeat' with_reducible first|assumption|exact frR|apply frD|apply frN|apply frA|apply frM|apply frC);all_goals (simp;try omega))) (by (repeat' (first|(with_reducible exact Fr.refl _ _)|(with_reducible refine Fr.drew ?_)|(with_reducible refine Fr.setCell ?_ (.inl ?_) _)));all_goals first|exact .inl rfl|exact .inr rfl) _ _ LV.out
def touch (a:ByteArray) (l:SL):Bool:=decide (l.a=a∨l.b=a)
theorem touch_snoc {a:ByteArray} {ls:List SL} {j:Nat} {x:SL} (h:ls[j]? = some x):(ls.take (j+1)).any (touch a)=((ls.take j).any (touch a) || touch a x):=by
 have hi:=(List.getElem?_eq_some_iff.1 h).1
 rw [List.take_succ_eq_append_getElem hi,(List.getElem?_eq_some_iff.1 h).2,List.any_append]
 simp
theorem sto1_touch (w:World) (sb:Nat) (s:St) (h:ZRep w sb s) (hs:Small s) (a b:ByteArray) (wt:Int) (pv:Value) (prs:List PP) (hp:PrAt w pv prs) (i:Nat) (hi:ptI s.ps a=some i) (hn:∃ l∈s.ls,l.a=a∨l.b=a) :
   Calls Tryz.prog 28 #[.pointer (some ⟨sb,0,none⟩),doS 1 a b wt pv] w fun e w'=>StoP w sb { err:=3 } s e w':=by
 have H:=Lib.hid h
 have hlb:=h.lt
 have HS:=Lib.hid hs
 have HN:=Lib.hid (show s.ls.any (touch a)=true from by obtain ⟨l,hl,q⟩:=hn;exact List.any_eq_true.2 ⟨l,hl,decide_eq_true q⟩)
 have HI:=Lib.hid hi
 clear h hs hn hi
 obtain ⟨pa,pc,rfl⟩:=hp.form
 clear hp
 have W0:=Lib.hid (w28_cells w 1 a b wt (.slice pa prs.length pc))
 go_enter Tryz.func28,Tryz.ntmps28
 go_wp2_with fail
 go_quiet (fail)
 go_wp2_with fail
 refine (point44 _ sb s (H.out.fr0 (by ((repeat' with_reducible first|assumption|exact frR|apply frD|apply frN|apply frA|apply frM|apply frC);all_goals (simp;try omega)))) HS.out.ps a).mono ?_
 rintro e w2 ⟨rfl,f2⟩
 have F2:=Lib.hid (show Fr0 (W28 w 1 a b wt (.slice pa prs.length pc)) w2 from Fr.trans0 (by ((repeat' with_reducible first|assumption|exact frR|apply frD|apply frN|apply frA|apply frM|apply frC);all_goals (simp;try omega))) f2)
 clear f2
 rw [HI.out,plc_some]
 go_wp2_with fail
 refine (link45 _ sb s (H.out.fr0 (W0.out.2.2.2.trans0 F2.out)) HS.out.ls a b).mono ?_
 rintro e w3 ⟨rfl,f3⟩
 have F3:=Lib.hid (F2.out.trans0 f3)
 clear f3
 have FW3:=Lib.hid (W0.out.2.2.2.trans0 F3.out)
 have sz3:w.heap.size+1+1 < w3.heap.size:=(W0.out.2.2.1.fr F3.out (fun q=>q)).lt
 obtain ⟨b1,b2,b3,b4,pv0,lv0,hc0, -,hlk0⟩:=H.out
 have hlk:=(hlk0.imp (p':=fun q=>q≠sb∧q < w.heap.size) fun q h z=>⟨h,z⟩).fr FW3.out (fun _ _ _ q=>q)
 obtain ⟨la,lc,rfl, -⟩:=hlk.form
 have HL:=Lib.hid hlk
 have c8:=(hc0.fr FW3.out (fun q=>q)).cell 8 _ rfl
 have d0:=(W0.out.1.fr F3.out (fun q=>q)).cell 0 _ rfl
 have X3:=Lib.hid (W0.out.2.2.1.fr F3.out (fun q=>q))
 have hi0:(0:Int)≤(i:Int):=by omega
 have hs5:(s.ls.length:Int)≤400000:=by have:=HS.out.ls;omega
 clear hc0 hlk0 hlk
 go_wp2_with fail
 go_loopg [74] s.ls.length (fun n c wr=>∃ (j e:Nat),n+j=s.ls.length∧c=.int .i64 (j:Nat)∧(e=if (s.ls.take j).any (touch a)=true then 3 else 0)∧Cells wr (w.heap.size+1+1) #[.int .u8 e,.string ⟨#[]⟩,.string ⟨#[]⟩,.string ⟨#[]⟩,.int .i64 0,.int .i64 0,.int .i64 0,.slice none 0 0,.slice none 0 0,.slice none 0 0] 61∧Fr (fun q=>q=w.heap.size+1+1) w3 wr)
 case atStart=>exact ⟨0,0,rfl,rfl,rfl,X3.out,Fr.refl _ _⟩
 case round =>
   obtain ⟨j,e,hk,rfl,he,hx,f⟩:=hrel
   have A:=hid4 hk he hx f
   clear hk he f
   by_cases hj:j < s.ls.length
   · have hg:=List.getElem?_eq_getElem hj
     obtain ⟨ol,cl,xv,e',hl2,_,c0,c1,c2,c3,hxv⟩:=(LinksIn.fr HL.out A.out.2.2.2 (fun q h _ z=>by have:=h.2;omega)).at_ hg
     cases e'
     generalize s.ls[j]=x at c0 c1 c2 c3 hxv hg
     have HG:=Lib.hid hg
     obtain ⟨xa,xc,rfl⟩:=hxv.form
     have hol:=Nat.ne_of_lt hl2
     have x0:=hx.cell 0 _ rfl
     have xf0:=hx.free 0
     have xl:=hx.lt
     have xne:=Nat.ne_of_lt hx.lt
     clear hg hxv hx
     by_cases h1:x.a=a
     · have TT:=Lib.hid h1
       rw [h1] at c0
       clear h1
       have f7:=A.out.2.2.2
       go_wp2_with fail
       go_roundg (gk - 1)
       case measure=>have:=A.out.1;omega
       case rel=>exact ⟨j+1,3,by have:=A.out.1;omega,by simp,by rw [touch_snoc HG.out];simp [touch,TT.out],(Cells.setCell A.out.2.2.1 0 (.int .u8 3)).alloc _,(f7.setCell (.inl rfl) _).alloc _⟩
     · have t1:=text_ne h1
       by_cases h2:x.b=a
       · have TT:=Lib.hid h2
         rw [h2] at c1
         clear h2
         have f7:=A.out.2.2.2
         go_wp2_with fail
         go_roundg (gk - 1)
         case measure=>have:=A.out.1;omega
         case rel=>exact ⟨j+1,3,by have:=A.out.1;omega,by simp,by rw [touch_snoc HG.out];simp [touch,TT.out],(Cells.setCell A.out.2.2.1 0 (.int .u8 3)).alloc _,(f7.setCell (.inl rfl) _).alloc _⟩
       · have t2:=text_ne h2
         have TT:=hid2 h1 h2
         clear h1 h2
         go_wp2_with fail
         go_roundg (gk - 1)
         case measure=>have:=A.out.1;omega
         case rel=>exact ⟨j+1,e,by have:=A.out.1;omega,by simp,by rw [touch_snoc HG.out,A.out.2.1];simp [touch,TT.out.1,TT.out.2],A.out.2.2.1.alloc _,A.out.2.2.2.alloc _⟩
   · have hj':j=s.ls.length:=by have:=A.out.1;omega
     subst hj'
     have he3:e=3:=by have z:=A.out.2.1;rwa [List.take_length,HN.out,if_pos rfl] at z
     subst he3
     have X:=A.out.2.2.1
     have R:=Cells.fr (W0.out.2.1.fr F3.out (fun q=>q)) A.out.2.2.2 (by show ¬ _=_;omega)
     obtain ⟨x0,x1,x2,x3,x4,x5,x6,x7,x8,x9⟩:=X.ten
     have xl:=X.lt
     obtain ⟨r0,r1,r2,r3,r4,r5,r6,r7,r8,r9⟩:=R.ten;obtain ⟨rf0,rf1,rf2,rf3,rf4,rf5,rf6,rf7,rf8,rf9⟩:=R.tenf
     have rl:=R.lt
     have hq3:w.heap.size+1≠w.heap.size+1+1:=by omega
     have hq4:w.heap.size+1+1≠w.heap.size+1:=by omega
     have FE:Fr0 w wr:=FW3.out.trans A.out.2.2.2 fun q hq=>.inr (by omega)
     clear X R hx
     go_wp2_with fail
     refine bodyPost_ret (v:=toldE 3) (by simp [results,Tryz.results28,go_sem, *]) rfl ?_
     exact StoP.no H.out (by ((repeat' with_reducible first|assumption|exact frR|apply frD|apply frN|apply frA|apply frM|apply frC);all_goals (simp;try omega))) 3
structure S46 (ob k db:Nat) (xa:Option Addr) (xn xc:Nat) (pa:Option Addr) (pn pc:Nat) (w:World):Prop where
 lt1:ob < w.heap.size
 lt2:db < w.heap.size
 out:w.cell? ⟨ob,k,none⟩=some (.slice xa xn xc)∧w.cell? ⟨db,4,none⟩=some (.slice pa pn pc)
theorem S46.fr {ob k db:Nat} {xa:Option Addr} {xn xc:Nat} {pa:Option Addr} {pn pc:Nat} {w w':World} (z:S46 ob k db xa xn xc pa pn pc w) (f:Fr0 w w'):S46 ob k db xa xn xc pa pn pc w' :=
 ⟨Nat.lt_of_lt_of_le z.lt1 f.size,Nat.lt_of_lt_of_le z.lt2 f.size,(f.cell (p:=⟨ob,k,none⟩) z.lt1 (fun q=>q)).trans z.out.1,(f.cell (p:=⟨db,4,none⟩) z.lt2 (fun q=>q)).trans z.out.2⟩
theorem PrAt.yldS {w:World} {v:Value} {prs:List PP} (h:PrAt w v prs):Yld w v prs.length (encL encP prs):=by
 obtain ⟨ao,cap,rfl,hr⟩:=h
 cases ao with
 | none =>
   cases prs with
   | nil=>exact .inl ⟨cap,rfl,rfl,rfl⟩
   | cons p l=>obtain ⟨ob,off,e,_⟩:=hr 0 p rfl;cases e
 | some a =>
   refine .inr ⟨a,cap,rfl,fun i u hi => ?_⟩
   have hlt:=(List.getElem?_eq_some_iff.1 hi).1
   rw [encP_len] at hlt
   have hx:i / 2 < prs.length:=by omega
   have hg:=List.getElem?_eq_getElem hx
   obtain ⟨ob,off,e,_,h1,h2⟩:=hr _ _ hg
   cases e
   rw [Addr.add_lit]
   have hm:=encL_mem encP 2 prs (fun _ _=>rfl) (i / 2) (i % 2) _ hg (by omega)
   rw [show i / 2 * 2+i % 2=i by omega,hi] at hm
   rcases Nat.mod_two_eq_zero_or_one i with e|e
   · rw [e] at hm
     have:u=.string prs[i / 2].1:=Option.some.inj hm
     rw [this,show off+i=off+i / 2 * 2 by omega]
     exact h1
   · rw [e] at hm
     have:u=.string prs[i / 2].2:=Option.some.inj hm
     rw [this,show off+i=off+i / 2 * 2+1 by omega]
     exact h2
theorem set_zip2 {α β:Type} (l:List α) (m:List β) (i:Nat) (x:α) (y:β):(l.set i x).zip (m.set i y)=(l.zip m).set i (x,y):=by
 induction l generalizing m i with
 | nil=>simp
 | cons a l ih =>
   cases m with
   | nil=>simp
   | cons b m =>
     cases i with
     | zero=>simp
     | succ i=>simp [ih]
theorem enc_upd {ls:List SL} {vs:List Value} {i:Nat} {x x':SL} {pv v':Value} (h:(ls.zip vs)[i]? = some (x,pv)) (ha:x'.a=x.a) (hb:x'.b=x.b) :
   ((encL encLk (ls.zip vs)).set (i * 4+2) (.int .i64 x'.wt)).set (i * 4+3) v'=encL encLk ((ls.set i x').zip (vs.set i v')):=by
 rw [set_zip2]
 generalize ls.zip vs=D at h
 have hi:=(List.getElem?_eq_some_iff.1 h).1
 have he:=(List.getElem?_eq_some_iff.1 h).2
 have e1:D=D.take i ++ (x,pv) :: D.drop (i+1):=by rw [← he];simp
 have e2:D.set i (x',v')=D.take i ++ (x',v') :: D.drop (i+1):=List.set_eq_take_append_cons_drop.trans (by rw [if_pos hi])
 have hl:(encL encLk (D.take i)).length=i * 4:=by rw [encL_len encLk 4 (fun _=>rfl),List.length_take,Nat.min_eq_left (Nat.le_of_lt hi)]
 rw [e2]
 conv=>lhs;rw [e1]
 have e3:∀ y:SL × Value,encL encLk (D.take i ++ y :: D.drop (i+1))=encL encLk (D.take i) ++ (encLk y ++ encL encLk (D.drop (i+1))):=fun y=>by simp [encL]
 rw [e3,e3,← hl,set_off,set_off]
 simp [encLk,ha,hb]
theorem LinksIn.upd {w:World} {p:Nat→Prop} {base:Nat} {v:Value} {ls:List SL} {vs:List Value} {i:Nat} {x':SL} {v':Value} (ho:w.ownsRow base 72 4 v ls.length (encL encLk ((ls.set i x').zip (vs.set i v')))) (hv:vs.length=ls.length)
   (hold:∀ (j:Nat) (l:SL) (u:Value),ls[j]? = some l→vs[j]? = some u→PairsIn w p u l.es) (hnew:PairsIn w p v' x'.es) (hb:∀ q,base≤q→p q):LinksIn w p v (ls.set i x'):=by
 refine ⟨vs.set i v',by simp [hv],by rw [List.length_set];exact own_slice ho,fun q hq=>⟨hb q (ho.lt q hq).1,(ho.lt q hq).2⟩,fun j l u h1 h2 => ?_⟩
 by_cases hj:j=i
 · subst hj
   rw [List.getElem?_set_self' ] at h1 h2
   cases e1:ls[j]? with
   | none=>rw [e1] at h1;cases h1
   | some l0 =>
     cases e2:vs[j]? with
     | none=>rw [e2] at h2;cases h2
     | some u0 =>
       rw [e1] at h1
       rw [e2] at h2
       cases h1
       cases h2
       exact hnew
 · rw [List.getElem?_set_ne (fun e=>hj e.symm)] at h1 h2
   exact hold j l u h1 h2
theorem sto4_yes (w:World) (sb:Nat) (s:St) (h:ZRep w sb s) (hs:Small s) (a b:ByteArray) (wt:Int) (pv:Value) (prs:List PP) (hp:PrAt w pv prs) (i:Nat) (x:SL) (hi:lkI s.dir s.ls a b=some i) (hx:s.ls[i]? = some x) (hel:x.es.length+prs.length≤100000) :
   Calls Tryz.prog 28 #[.pointer (some ⟨sb,0,none⟩),doS 4 a b wt pv] w fun e w'=>StoP w sb {} { s with ls:=s.ls.set i ⟨x.a,x.b,wt,byK (x.es ++ prs)⟩ } e w':=by
 have H:=Lib.hid h
 have hlb:=h.lt
 have HS:=Lib.hid hs
 have HI:=Lib.hid hi
 have HX:=Lib.hid hx
 clear h hs hi hx
 obtain ⟨pa,pc,rfl⟩:=hp.form
 have PD:=Lib.hid hp
 clear hp
 have W0:=Lib.hid (w28_cells w 4 a b wt (.slice pa prs.length pc))
 go_enter Tryz.func28,Tryz.ntmps28
 go_wp2_with fail
 go_quiet (fail)
 go_wp2_with fail
 refine (point44 _ sb s (H.out.fr0 (by ((repeat' with_reducible first|assumption|exact frR|apply frD|apply frN|apply frA|apply frM|apply frC);all_goals (simp;try omega)))) HS.out.ps a).mono ?_
 rintro e w2 ⟨rfl,f2⟩
 have F2:=Lib.hid (show Fr0 (W28 w 4 a b wt (.slice pa prs.length pc)) w2 from Fr.trans0 (by ((repeat' with_reducible first|assumption|exact frR|apply frD|apply frN|apply frA|apply frM|apply frC);all_goals (simp;try omega))) f2)
 clear f2
 go_wp2_with fail
 refine (link45 _ sb s (H.out.fr0 (W0.out.2.2.2.trans0 F2.out)) HS.out.ls a b).mono ?_
 rintro e w3 ⟨rfl,f3⟩
 rw [HI.out,plc_some]
 have F3:=Lib.hid (F2.out.trans0 f3)
 clear f3
 have f30:=W0.out.2.2.2.trans0 F3.out
 have sz3:w.heap.size+1+1 < w3.heap.size:=(W0.out.2.2.1.fr F3.out (fun q=>q)).lt
 have hsb3:sb < w3.heap.size:=by omega
 have hne0:sb≠w.heap.size:=by omega
 have hne1:sb≠w.heap.size+1:=by omega
 have hne2:sb≠w.heap.size+1+1:=by omega
 have hne3:sb≠w3.heap.size:=by omega
 obtain ⟨b1,b2,b3,b4,pv0,lv0,hc0,hpt0,hlk0⟩:=H.out
 obtain ⟨la,lc,rfl,hlc⟩:=hlk0.form
 have c8:=(hc0.fr f30 (fun q=>q)).cell 8 _ rfl
 have HC3:=hid3 hc0 hpt0 hlk0
 obtain ⟨vs,hv1,hv20, -,hv40⟩:=hlk0
 have hv2:=Reads.fr hv20 f30 (fun _ _ _ q=>q)
 have hv4:∀ (i:Nat) (l:SL) (u:Value),s.ls[i]? = some l→vs[i]? = some u→PairsIn w3 (fun q=>q≠sb) u l.es:=fun i l u h1 h2=>(hv40 i l u h1 h2).fr f30 (fun _ _ _ q=>q)
 have YL:=Lib.hid (Reads.yld hv2 (zip_enc encLk 4 (fun _=>rfl) hv1) (by decide))
 have VS:=hid3 hv1 hv2 hv4
 have V0:=Lib.hid hv40
 have hil:=(List.getElem?_eq_some_iff.1 HX.out).1
 have hu:=List.getElem?_eq_getElem (show i < vs.length by omega)
 have hz:(s.ls.zip vs)[i]? = some (x,vs[i]'(by omega)):=by rw [List.getElem?_zip_eq_some];exact ⟨HX.out,hu⟩
 have hpx:=hv40 i x _ HX.out hu
 generalize vs[i]=pvx at hu hz hpx
 obtain ⟨xa,xc,rfl⟩:=hpx.form
 have ZE:=Lib.hid hz
 have HU:=Lib.hid hu
 have HPX:=Lib.hid hpx
 have D3:=Lib.hid (W0.out.1.fr F3.out (fun q=>q))
 have R3:=Lib.hid (W0.out.2.1.fr F3.out (fun q=>q))
 have X3:=Lib.hid (W0.out.2.2.1.fr F3.out (fun q=>q))
 have d0:=D3.out.cell 0 _ rfl
 have FF:=Lib.hid f30
 have hi0:(0:Int)≤(i:Int):=by omega
 have hi1:(i:Int) < (s.ls.length:Int):=by omega
 clear f30 hc0 hpt0 hv1 hv2 hv4 hv20 hv40 hu hz hpx
 go_wp2_with (first
   | (at_builtin;go_loud (refine wl_appG (w:=w3.alloc (.cells #[] 72)) 59 rfl (.tmp 191) (.tmp 195) rfl 72 _ 4 64 Tryz.underlying59 info72 rfl (by decide) (by decide) w3.heap.size (.slice (some ⟨w3.heap.size,0,none⟩) 0 0) 0 [] rfl (own_empty (heap_alloc_new w3 _)) (.slice la s.ls.length lc) s.ls.length (encL encLk (s.ls.zip vs)) rfl (Yld.fr YL.out (show Fr0 w3 _ from by ((repeat' with_reducible first|assumption|exact frR|apply frD|apply frN|apply frA|apply frM|apply frC);all_goals (simp;try omega))) (fun a n c e h=>by obtain ⟨ob,q1,q2⟩:=yl_lt VS.out.2.1 e h;exact ⟨q2,fun q=>q⟩)) (zip_enc encLk 4 (fun _=>rfl) VS.out.1) (one_ls VS.out.2.1 VS.out.2.2) (by have:=HS.out.ls;omega) (by simp) ?_)))
 intro v13 w4 ho13 f13 at13
 try rw [Nat.zero_add,List.nil_append] at ho13
 have g4:Fr0 w3 w4:=Fr.trans (show Fr0 w3 (w3.alloc (.cells #[] 72)) from by ((repeat' with_reducible first|assumption|exact frR|apply frD|apply frN|apply frA|apply frM|apply frC);all_goals (simp;try omega))) f13 (fun q hq=>.inr (by cases hq;exact Nat.le_refl _))
 have hcell:=own_slice ho13
 obtain ⟨ao13,cap13,rfl,hcap13, -⟩:=own_slice ho13
 obtain ⟨ob,_,e,_,hob,_⟩:=Reads.cell (v:=.slice ao13 s.ls.length cap13) hcell (j:=i * 4) (u:=.string x.a) ((encL_mem encLk 4 _ (fun _ _=>rfl) i 0 _ ZE.out (by decide)).trans rfl)
 cases e
 have OB:=Lib.hid hob
 have O13:=Lib.hid ho13
 have RD:=Lib.hid (show Reads w4 (.slice (some ⟨ob,0,none⟩) s.ls.length cap13) s.ls.length (encL encLk (s.ls.zip vs)) from hcell)
 have hobne:w.heap.size+1+1≠ob:=by have:=(ho13.lt ob rfl).1;omega
 have L13:=Lib.hid (show w3.heap.size≤ob from (ho13.lt ob rfl).1)
 have G4:=Lib.hid g4
 have R4:=Lib.hid (R3.out.fr g4 (fun q=>q))
 have X4:=Lib.hid (X3.out.fr g4 (fun q=>q))
 have D4:=Lib.hid (D3.out.fr g4 (fun q=>q))
 replace d0:=D4.out.cell 0 _ rfl
 have d3:=D4.out.cell 3 _ rfl
 have hfz:=((HC3.out.1.fr FF.out (fun q=>q)).fr g4 (fun q=>q)).free 8
 have hcz:=((HC3.out.1.fr FF.out (fun q=>q)).fr g4 (fun q=>q)).cell 8 _ rfl
 have HZ:=hid2 hcz hfz
 have hs4:(s.ls.length:Int)≤400000:=by have:=HS.out.ls;omega
 have p2:w4.cell? ⟨ob,i * 4+2,none⟩=some (.int .i64 x.wt):=by
   obtain ⟨_,_,e,_,_,z⟩:=RD.out.cell (j:=i * 4+2) (u:=.int .i64 x.wt) ((encL_mem encLk 4 _ (fun _ _=>rfl) i 2 _ ZE.out (by decide)).trans rfl)
   cases e
   exact z
 have p3:w4.cell? ⟨ob,i * 4+3,none⟩=some (.slice xa x.es.length xc):=by
   obtain ⟨_,_,e,_,_,z⟩:=RD.out.cell (j:=i * 4+3) (u:=.slice xa x.es.length xc) ((encL_mem encLk 4 _ (fun _ _=>rfl) i 3 _ ZE.out (by decide)).trans rfl)
   cases e
   exact z
 have pf2:=row_free ho13 (i * 4+2)
 have RF4:=Lib.hid (row_free ho13 (i * 4+3))
 have P3:=Lib.hid p3
 have hdl:=D4.out.lt
 have hobd:ob≠w.heap.size:=by have:=L13.out;omega
 have HEL:=Lib.hid hel
 clear ho13 f13 at13 hcell c8 hob hfz hcz p3 hel
 go_wp2_with fail
 clear p2 pf2
 have FW5:=Lib.hid (show Fr (fun k=>k=ob) w4 (w4.setCell ⟨ob,i * 4+2,none⟩ (.int .i64 wt)) from (Fr.refl (fun k=>k=ob) _).setCell (.inl rfl) _)
 have O5:=Lib.hid (row_setC (j:=i * 4+2) (u:=.int .i64 wt) O13.out)
 have P35:=Lib.hid (show (w4.setCell ⟨ob,i * 4+2,none⟩ (.int .i64 wt)).cell? ⟨ob,i * 4+3,none⟩=some (.slice xa x.es.length xc) from by
   obtain ⟨ao9,cp9,e9,_,hv9⟩:=own_slice O5.out
   have hln:i * 4+3 < (encL encLk (s.ls.zip vs)).length:=by
     have:=(List.getElem?_eq_some_iff.1 (((encL_mem encLk 4 _ (fun _ _=>rfl) i 3 _ ZE.out (by decide)).trans rfl):(encL encLk (s.ls.zip vs))[i * 4+3]? = some (.slice xa x.es.length xc))).1
     exact this
   obtain ⟨g9,e10,_,z9⟩:=hv9 (i * 4+3) (.slice xa x.es.length xc) (by rw [List.getElem?_set_ne (by omega)];exact (encL_mem encLk 4 _ (fun _ _=>rfl) i 3 _ ZE.out (by decide)).trans rfl)
   cases e9
   cases e10
   exact z9)
 have SZ5:=Lib.hid (show w3.heap.size≤w4.heap.size∧w4.heap.size≤(w4.setCell ⟨ob,i * 4+2,none⟩ (.int .i64 wt)).heap.size from ⟨G4.out.size,FW5.out.size⟩)
 have F35:=Lib.hid (show Fr0 w3 (w4.setCell ⟨ob,i * 4+2,none⟩ (.int .i64 wt)) from G4.out.trans FW5.out fun q hq=>.inr (by have:=L13.out;have q':q=ob:=hq;omega))
 have OBL:=Lib.hid (Nat.lt_of_lt_of_le OB.out FW5.out.size)
 have D5:=Lib.hid (Cells.fr D4.out FW5.out (fun q=>hobd q.symm))
 generalize w4.setCell ⟨ob,i * 4+2,none⟩ (.int .i64 wt)=w5 at *
 have S5:=Lib.hid (S46.mk (ob:=ob) (k:=i * 4+3) (db:=w.heap.size) OBL.out D5.out.lt ⟨P35.out,D5.out.cell 4 _ rfl⟩)
 refine OrdS.start (S:=S46 ob (i * 4+3) w.heap.size xa x.es.length xc pa prs.length pc) (m:=15) (by kernel_rfl) ?_
 have hHeld:=S5.out.fr (show Fr0 w5 w5.drew from by ((repeat' with_reducible first|assumption|exact frR|apply frD|apply frN|apply frA|apply frM|apply frC);all_goals (simp;try omega)))
 have PX5:=Lib.hid ((HPX.out.fr FF.out (fun _ _ _ q=>q)).fr F35.out (fun _ _ _ q=>q))
 have PD5:=Lib.hid ((PD.out.fr FF.out).fr F35.out)
 (refine OrdS.tq (i:=0) (v:=?_) rfl (by kernel_rfl) (fun _ _ _ h=>h) (by rfl) hHeld ?_ ?_;rotate_left;focus (intro w' hSw;replace hSw:=hSw.out;go_simp;try with_reducible rfl);(try simp only [Act.put,lA,lZ,lS]))
 (refine OrdS.tq (i:=1) (v:=?_) rfl (by kernel_rfl) (fun _ _ _ h=>h) (by rfl) hHeld ?_ ?_;rotate_left;focus (intro w' hSw;replace hSw:=hSw.out;go_simp;try with_reducible rfl);(try simp only [Act.put,lA,lZ,lS]))
 (refine OrdS.tq (i:=3) (v:=?_) rfl (by kernel_rfl) (fun _ _ _ h=>h) (by rfl) hHeld ?_ ?_;rotate_left;focus (intro w' hSw;replace hSw:=hSw.out;go_simp;try with_reducible rfl);(try simp only [Act.put,lA,lZ,lS]))
 (refine OrdS.tq (i:=4) (v:=?_) rfl (by kernel_rfl) (fun _ _ _ h=>h) (by rfl) hHeld ?_ ?_;rotate_left;focus (intro w' hSw;replace hSw:=hSw.out;go_simp;try with_reducible rfl);(try simp only [Act.put,lA,lZ,lS]))
 (refine OrdS.tq (i:=5) (v:=?_) rfl (by kernel_rfl) (fun _ _ _ h=>h) (by rfl) hHeld ?_ ?_;rotate_left;focus (intro w' hSw;replace hSw:=hSw.out;go_simp;try with_reducible rfl);(try simp only [Act.put,lA,lZ,lS]))
 (refine OrdS.tq (i:=6) (v:=?_) rfl (by kernel_rfl) (fun _ _ _ h=>h) (by rfl) hHeld ?_ ?_;rotate_left;focus (intro w' hSw;replace hSw:=hSw.out;go_simp;try with_reducible rfl);(try simp only [Act.put,lA,lZ,lS]))
 (refine OrdS.tq (i:=7) (v:=?_) rfl (by kernel_rfl) (fun _ _ _ h=>h) (by rfl) hHeld ?_ ?_;rotate_left;focus (intro w' hSw;replace hSw:=hSw.out;go_simp;try with_reducible rfl);(try simp only [Act.put,lA,lZ,lS]))
 (refine OrdS.tq (i:=9) (v:=?_) rfl (by kernel_rfl) (fun _ _ _ h=>h) (by rfl) hHeld ?_ ?_;rotate_left;focus (intro w' hSw;replace hSw:=hSw.out;go_simp;try with_reducible rfl);(try simp only [Act.put,lA,lZ,lS]))
 (refine OrdS.tq (i:=10) (v:=?_) rfl (by kernel_rfl) (fun _ _ _ h=>h) (by rfl) hHeld ?_ ?_;rotate_left;focus (intro w' hSw;replace hSw:=hSw.out;go_simp;try with_reducible rfl);(try simp only [Act.put,lA,lZ,lS]))
 (refine OrdS.one (i:=2) rfl (by kernel_rfl) ?_;intro K hK)
 go_simp
 refine hK.out _ _ (fun _=>S5.out.fr (by ((repeat' with_reducible first|assumption|exact frR|apply frD|apply frN|apply frA|apply frM|apply frC);all_goals (simp;try omega)))) ?_
 clear hK K
 (try simp only [Act.put,lA,lZ,lS])
 (refine OrdS.one (i:=8) rfl (by kernel_rfl) ?_;intro K hK)
 refine step_appG 26 (by rfl) (.tmp 242) (.tmp 247) (by rfl) 30 _ 2 32 Tryz.underlying26 info30 rfl (by decide) (by decide) w5.heap.size (.slice (some ⟨w5.heap.size,0,none⟩) 0 0) 0 [] (by rfl) (own_empty (heap_alloc_new _ _)) _ x.es.length (encL encP x.es) (by rfl) (PrAt.yldS (PX5.out.at_.fr (show Fr0 w5 _ from by ((repeat' with_reducible first|assumption|exact frR|apply frD|apply frN|apply frA|apply frM|apply frC);all_goals (simp;try omega))))) (encP_len _) (encP_one _) (by have:=HEL.out;omega) (by simp) ?_
 intro v8 w8 ho8 f8 hat8
 rw [Nat.zero_add,List.nil_append] at ho8
 have g8:Fr0 w5 w8:=Fr.trans (by ((repeat' with_reducible first|assumption|exact frR|apply frD|apply frN|apply frA|apply frM|apply frC);all_goals (simp;try omega))) f8 (fun q hq=>.inr (by cases hq;exact Nat.le_refl _))
 have O8:=Lib.hid ho8
 have G8:=Lib.hid g8.size
 have L8:=Lib.hid (ho8.lt)
 obtain ⟨ao8,cap8,rfl, -, -⟩:=own_slice ho8
 clear ho8 f8 hat8
 refine hK.out _ _ (fun _=>S5.out.fr g8) ?_
 clear hK K hHeld
 (try simp only [Act.put,lA,lZ,lS])
 (try simp only [List.getElem_toArray,List.getElem_cons_zero,List.getElem_cons_succ,List.setIfInBounds_toArray,List.set_cons_zero,List.set_cons_succ])
 (refine OrdS.one (i:=11) rfl (by kernel_rfl) ?_;intro K hK)
 refine step_appG 26 (by rfl) (.tmp 248) (.tmp 250) (by rfl) 30 _ 2 32 Tryz.underlying26 info30 rfl (by decide) (by decide) w5.heap.size (.slice ao8 x.es.length cap8) x.es.length (encL encP x.es) (by rfl) O8.out _ prs.length (encL encP prs) (by rfl) (PrAt.yldS (PD5.out.fr (show Fr0 w5 _ from by ((repeat' with_reducible first|assumption|exact frR|apply frD|apply frN|apply frA|apply frM|apply frC);all_goals (simp;try omega))))) (encP_len _) (encP_one _) (by have:=HEL.out;omega) (by have:=G8.out;omega) ?_
 intro v11 w11 ho11 f11 hat11
 have g11:Fr0 w5 w11:=Fr.trans (by ((repeat' with_reducible first|assumption|exact frR|apply frD|apply frN|apply frA|apply frM|apply frC);all_goals (simp;try omega))) f11 (fun q hq=>.inr (L8.out q hq).1)
 obtain ⟨ao11,cap11,rfl, -, -⟩:=own_slice ho11
 have PA11:=Lib.hid (show PrAt w11 (.slice ao11 (x.es.length+prs.length) cap11) (x.es ++ prs) from by
   have z:=own_slice ho11
   rw [← encP_app] at z
   have e:x.es.length+prs.length=(x.es ++ prs).length:=by rw [List.length_append]
   rw [e] at z ⊢
   exact PrAt.of_reads z)
 clear ho11 f11 hat11
 refine hK.out _ _ (fun _=>S5.out.fr g11) ?_
 clear hK K
 (try simp only [Act.put,lA,lZ,lS])
 (try simp only [List.getElem_toArray,List.getElem_cons_zero,List.getElem_cons_succ,List.setIfInBounds_toArray,List.set_cons_zero,List.set_cons_succ])
 (refine OrdS.one (i:=12) rfl (by kernel_rfl) ?_;intro K hK)
 go_simp
 go_at_call 23
 refine (bykeys _ _ (x.es ++ prs) (PA11.out.fr (show Fr0 w11 _ from by ((repeat' with_reducible first|assumption|exact frR|apply frD|apply frN|apply frA|apply frM|apply frC);all_goals (simp;try omega)))) (by rw [List.length_append];exact HEL.out)).mono ?_
 rintro e w23 ⟨ao23,cap23,rfl,h23,f23⟩
 have P23:=Lib.hid (h23.imp (p':=fun q=>w3.heap.size≤q∧q≠ob) fun q h1 _=>by
   have z1:=Nat.le_trans (show Fr0 w5 _ from by ((repeat' with_reducible first|assumption|exact frR|apply frD|apply frN|apply frA|apply frM|apply frC);all_goals (simp;try omega))).size h1
   have z2:=SZ5.out
   have z3:=OBL.out
   exact ⟨by omega,by omega⟩)
 have g23:Fr0 w5 w23:=Fr.trans0 (by ((repeat' with_reducible first|assumption|exact frR|apply frD|apply frN|apply frA|apply frM|apply frC);all_goals (simp;try omega))) f23
 clear h23 f23
 dsimp only
 have c3:=(S5.out.fr g23).out.1
 have c3f:w23.frozen? ⟨ob,i * 4+3,none⟩=false:=(g23.frozen (p:=⟨ob,i * 4+3,none⟩) OBL.out (fun q=>q)).trans (row_free O5.out _)
 refine hK.out _ _ (fun _=>S5.out.fr g23) ?_
 clear hK K
 (try simp only [Act.put,lA,lZ,lS])
 (refine OrdS.one (i:=13) rfl (by kernel_rfl) ?_;intro K hK)
 go_simp
 refine hK.out _ _ (fun _=>S5.out.fr g23) ?_
 clear hK K
 (try simp only [Act.put,lA,lZ,lS])
 (refine OrdS.one (i:=14) rfl (by kernel_rfl) ?_;intro K hK)
 go_simp
 refine hK.out _ _ (fun _=>S5.out.fr g23) ?_
 clear hK K
 (try simp only [Act.put,lA,lZ,lS])
 (refine OrdS.one (i:=15) rfl (by kernel_rfl) ?_;intro K hK)
 go_simp
 refine hK.out _ _ (fun h=>absurd (show true=false from h) (by decide)) ?_
 clear hK K
 (try simp only [Act.put,lA,lZ,lS])
 refine OrdS.done (by kernel_rfl) ?_
 have OE:=Lib.hid (row_setC (j:=i * 4+3) (u:=.slice ao23 (byK (x.es ++ prs)).length cap23) (ownsRow_fr O5.out g23 (fun _ _ q=>q)))
 have FE:=Lib.hid (show Fr (fun k=>k=ob) w23 (w23.setCell ⟨ob,i * 4+3,none⟩ (.slice ao23 (byK (x.es ++ prs)).length cap23)) from (Fr.refl (fun k=>k=ob) _).setCell (.inl rfl) _)
 generalize w23.setCell ⟨ob,i * 4+3,none⟩ (.slice ao23 (byK (x.es ++ prs)).length cap23)=wE at *
 have FE5:=Lib.hid (show Fr0 w3 wE from (F35.out.trans0 g23).trans FE.out fun q hq=>.inr (by have:=L13.out;have q':q=ob:=hq;omega))
 have HCE:=Cells.fr (HC3.out.1.fr FF.out (fun q=>q)) FE5.out (fun q=>q)
 have c8:=HCE.cell 8 _ rfl
 have c8f:=HCE.free 8
 have R:=Cells.fr R3.out FE5.out (fun q=>q)
 have X:=Cells.fr X3.out FE5.out (fun q=>q)
 obtain ⟨r0,r1,r2,r3,r4,r5,r6,r7,r8,r9⟩:=R.ten;obtain ⟨rf0,rf1,rf2,rf3,rf4,rf5,rf6,rf7,rf8,rf9⟩:=R.tenf
 obtain ⟨x0,x1,x2,x3,x4,x5,x6,x7,x8,x9⟩:=X.ten
 have rl:=R.lt
 have xl:=X.lt
 have sl:=HCE.lt
 have hm1:w.heap.size+1≠sb:=fun e=>hne1 e.symm
 have hm2:w.heap.size+1+1≠sb:=fun e=>hne2 e.symm
 have hm3:w.heap.size+1≠w.heap.size+1+1:=by omega
 clear R X HCE g23 g11 g8 c3 c3f
 go_wp2_with fail
 refine bodyPost_ret (v:=toldE 0) (by simp [results,Tryz.results28,go_sem, *]) rfl ?_
 have f':Fr (fun q=>q=w.heap.size+1) (wE.setCell ⟨sb,8,none⟩ (.slice (some ⟨ob,0,none⟩) s.ls.length cap13)) _:=(((((((((((Fr.refl (fun q=>q=w.heap.size+1) (wE.setCell ⟨sb,8,none⟩ (.slice (some ⟨ob,0,none⟩) s.ls.length cap13))).setCell (.inl rfl) (.int .u8 0) (p:=⟨w.heap.size+1,0,none⟩)).setCell (.inl rfl) (.string ⟨#[]⟩) (p:=⟨w.heap.size+1,1,none⟩)).setCell (.inl rfl) (.string ⟨#[]⟩) (p:=⟨w.heap.size+1,2,none⟩)).setCell (.inl rfl) (.string ⟨#[]⟩) (p:=⟨w.heap.size+1,3,none⟩)).setCell (.inl rfl) (.int .i64 0) (p:=⟨w.heap.size+1,4,none⟩)).setCell (.inl rfl) (.int .i64 0) (p:=⟨w.heap.size+1,5,none⟩)).setCell (.inl rfl) (.int .i64 0) (p:=⟨w.heap.size+1,6,none⟩)).setCell (.inl rfl) (.slice none 0 0) (p:=⟨w.heap.size+1,7,none⟩)).setCell (.inl rfl) (.slice none 0 0) (p:=⟨w.heap.size+1,8,none⟩)).setCell (.inl rfl) (.slice none 0 0) (p:=⟨w.heap.size+1,9,none⟩))
 have FA:=(Fr.refl (fun q=>q=sb) wE).setCell (p:=⟨sb,8,none⟩) (.inl rfl) (.slice (some ⟨ob,0,none⟩) s.ls.length cap13)
 have hrow:=OE.out
 rw [enc_upd (x':=⟨x.a,x.b,wt,byK (x.es ++ prs)⟩) ZE.out rfl rfl] at hrow
 refine ⟨_,rfl,toldE_at _ _ 0,ZRep.newL (s:=s) (HC3.out.1.fr FF.out (fun q=>q)) ((HC3.out.2.1.imp fun q h1 h2=>⟨h1,by omega⟩).fr FF.out (fun _ _ _ q=>q)) (LinksIn.upd hrow VS.out.1 (fun i l u h1 h2=>((((V0.out i l u h1 h2).imp fun q h1 h2=>⟨h1,by omega⟩).fr FF.out (fun _ _ _ q=>q)).fr FE5.out fun _ _ _ q=>q)) ((P23.out.fr FE.out (fun q h _ z=>h.2 z)).imp fun q h1 _=>⟨by have:=h1.1;omega,by have:=h1.1;omega⟩) fun q h1=>⟨by omega,by omega⟩) FE5.out f' hne1,?_⟩
 exact (((FF.out.trans0 FE5.out).mono fun _ q=>q.elim).trans FA fun _ q=>.inl q).trans f' fun q h1=>.inr (by omega)
end Go.Proofs.YtbafaadmlpamiaaGreatDoor
