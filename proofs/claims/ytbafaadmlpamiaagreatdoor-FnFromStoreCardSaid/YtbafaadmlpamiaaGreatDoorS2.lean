import Derived.Test.YtbafaadmlpamiaaGreatDoorS1
import Derived.Test.YtbafaadmlpamiaaGreatDoorT1
set_option maxRecDepth 100000
set_option maxHeartbeats 1000000
set_option linter.unusedSimpArgs false
namespace Go.Proofs.YtbafaadmlpamiaaGreatDoor
open Go Go.Hy Go.RowKit
structure S10 (sb c7 h:Nat) (a:ByteArray) (wt:Int) (ao:Option Addr) (n cap:Nat) (pa:Option Addr) (k pc:Nat) (w:World):Prop where
 pts:w.cell? ⟨sb,c7,none⟩=some (.slice ao n cap)
 a1:w.cell? ⟨h,1,none⟩=some (.string a)
 a3:w.cell? ⟨h,3,none⟩=some (.int .i64 wt)
 a4:w.cell? ⟨h,4,none⟩=some (.slice pa k pc)
 ls:sb < w.heap.size
 lh:h < w.heap.size
theorem S10.fr {sb c7 h:Nat} {a:ByteArray} {wt:Int} {ao:Option Addr} {n cap:Nat} {pa:Option Addr} {k pc:Nat} {w w':World} (z:S10 sb c7 h a wt ao n cap pa k pc w) (f:Fr0 w w'):S10 sb c7 h a wt ao n cap pa k pc w' :=
 ⟨(f.cell (p:=⟨sb,c7,none⟩) z.ls (fun q=>q)).trans z.pts,(f.cell (p:=⟨h,1,none⟩) z.lh (fun q=>q)).trans z.a1,(f.cell (p:=⟨h,3,none⟩) z.lh (fun q=>q)).trans z.a3,(f.cell (p:=⟨h,4,none⟩) z.lh (fun q=>q)).trans z.a4,Nat.lt_of_lt_of_le z.ls f.size,Nat.lt_of_lt_of_le z.lh f.size⟩
theorem S10.out {sb c7 h:Nat} {a:ByteArray} {wt:Int} {ao:Option Addr} {n cap:Nat} {pa:Option Addr} {k pc:Nat} {w:World} (z:S10 sb c7 h a wt ao n cap pa k pc w) :
   w.cell? ⟨sb,c7,none⟩=some (.slice ao n cap)∧w.cell? ⟨h,1,none⟩=some (.string a)∧w.cell? ⟨h,3,none⟩=some (.int .i64 wt)∧w.cell? ⟨h,4,none⟩=some (.slice pa k pc):=⟨z.pts,z.a1,z.a3,z.a4⟩
theorem yl_lt {w:World} {v:Value} {n:Nat} {xs:List Value} (h:Reads w v n xs) {a:Addr} {m c:Nat} (e:v=.slice (some a) m c) (hx:0 < xs.length):∃ ob,a=⟨ob,0,none⟩∧a.block < w.heap.size:=by
 obtain ⟨ao,cap,rfl,_,hr⟩:=h
 obtain ⟨ob,e0,h1,_⟩:=hr 0 xs[0] (List.getElem?_eq_getElem hx)
 cases e
 cases e0
 exact ⟨ob,rfl,h1⟩
theorem one_ps {w:World} {p:Nat→Prop} {v:Value} {n:Nat} {ps:List SP} {vs:List Value} (_h:Reads w v n (encL encPt (ps.zip vs))) (hold:∀ (i:Nat) (l:SP) (u:Value),ps[i]? = some l→vs[i]? = some u→PairsIn w p u l.es):∀ u∈encL encPt (ps.zip vs),u.oneCell'=true:=by
 intro u hu
 simp only [encL,List.mem_flatMap] at hu
 obtain ⟨q,hq,hu⟩:=hu
 obtain ⟨i,hi⟩:=List.mem_iff_getElem?.1 hq
 obtain ⟨h1,h2⟩:=List.getElem?_zip_eq_some.1 hi
 obtain ⟨ao,cap,e⟩:=(hold i _ _ h1 h2).form
 simp only [encPt,List.mem_cons,List.not_mem_nil,or_false] at hu
 rcases hu with rfl|rfl|rfl|rfl
 · rfl
 · rfl
 · rfl
 · rw [e];rfl
theorem one_ls {w:World} {p:Nat→Prop} {v:Value} {n:Nat} {ls:List SL} {vs:List Value} (_h:Reads w v n (encL encLk (ls.zip vs))) (hold:∀ (i:Nat) (l:SL) (u:Value),ls[i]? = some l→vs[i]? = some u→PairsIn w p u l.es):∀ u∈encL encLk (ls.zip vs),u.oneCell'=true:=by
 intro u hu
 simp only [encL,List.mem_flatMap] at hu
 obtain ⟨q,hq,hu⟩:=hu
 obtain ⟨i,hi⟩:=List.mem_iff_getElem?.1 hq
 obtain ⟨h1,h2⟩:=List.getElem?_zip_eq_some.1 hi
 obtain ⟨ao,cap,e⟩:=(hold i _ _ h1 h2).form
 simp only [encLk,List.mem_cons,List.not_mem_nil,or_false] at hu
 rcases hu with rfl|rfl|rfl|rfl
 · rfl
 · rfl
 · rfl
 · rw [e];rfl
theorem sto0_new (w:World) (sb:Nat) (s:St) (h:ZRep w sb s) (hs:Small s) (HC:HashS s.hk) (a b:ByteArray) (wt:Int) (pv:Value) (prs:List PP) (hp:PrAt w pv prs) (hpl:prs.length≤100000) (hi:ptI s.ps (hashM s.hk a)=none) (hz:s.hk=2→a.size≤99) :
   Calls Tryz.prog 28 #[.pointer (some ⟨sb,0,none⟩),doS 0 a b wt pv] w fun e w'=>StoP w sb {} { s with ps:=s.ps ++ [⟨hashM s.hk a,a,wt,byK prs⟩] } e w':=by
 have H:=Lib.hid h
 have hlb:=h.lt
 have HS:=Lib.hid hs
 have HI:=Lib.hid hi
 clear h hs hi
 have HH:=Lib.hid (fun W=>HC W a hz)
 clear HC
 obtain ⟨pa,pc,rfl⟩:=hp.form
 have PD:=Lib.hid hp
 clear hp
 have W0:=Lib.hid (w28_cells w 0 a b wt (.slice pa prs.length pc))
 obtain ⟨V,hV⟩ : ∃ V,V=W28 w 0 a b wt (.slice pa prs.length pc):=⟨_,rfl⟩
 rw [← hV] at W0
 go_enter Tryz.func28,Tryz.ntmps28
 go_wp2_with fail
 go_quiet (fail)
 have eV:((w.alloc (.cells #[.int .u8 0,.string a,.string b,.int .i64 wt,.slice pa prs.length pc] 28)).alloc (.cells zT 61)).alloc (.cells zT 61)=V:=hV.symm
 rw [eV]
 clear eV hV
 have c6:=(W0.out.2.2.2.cell (p:=⟨sb,6,none⟩) hlb (fun q=>q)).trans (ZRep.hk_cell H.out)
 have q0:=W0.out.1.cell 0 _ rfl
 have q1:=W0.out.1.cell 1 _ rfl
 have q2:=W0.out.1.cell 2 _ rfl
 go_wp2_with fail
 refine (HH.out _).mono ?_
 rintro e w1 ⟨rfl,f1⟩
 have F1:=Lib.hid (show Fr0 V w1 from Fr.trans0 (by ((repeat' with_reducible first|assumption|exact frR|apply frD|apply frN|apply frA|apply frM|apply frC);all_goals (simp;try omega))) f1)
 clear f1 c6 q0 q1 q2
 go_wp2_with fail
 refine (point44 _ sb s (H.out.fr0 (W0.out.2.2.2.trans0 F1.out)) HS.out.ps (hashM s.hk a)).mono ?_
 rintro e w2 ⟨rfl,f2⟩
 have F2:=Lib.hid (F1.out.trans0 f2)
 clear f2
 rw [HI.out,plc_none]
 go_wp2_with fail
 refine (link45 _ sb s (H.out.fr0 (W0.out.2.2.2.trans0 F2.out)) HS.out.ls (hashM s.hk a) b).mono ?_
 rintro e w3 ⟨rfl,f3⟩
 have F3:=Lib.hid (F2.out.trans0 f3)
 clear f3
 have FW3:=Lib.hid (W0.out.2.2.2.trans0 F3.out)
 have sz3:w.heap.size+1+1 < w3.heap.size:=(W0.out.2.2.1.fr F3.out (fun q=>q)).lt
 have hsb3:sb < w3.heap.size:=by omega
 have hne0:sb≠w.heap.size:=by omega
 have hne1:sb≠w.heap.size+1:=by omega
 have hne2:sb≠w.heap.size+1+1:=by omega
 obtain ⟨b1,b2,b3,b4,pv0,lv0,hc0,hpt0,hlk0⟩:=H.out
 have hpt:PtsIn w3 (fun q=>q≠sb∧q≠w.heap.size+1) pv0 s.ps:=(hpt0.imp fun q h1 h2=>⟨h1,by omega⟩).fr FW3.out (fun _ _ _ q=>q)
 have hlk:LinksIn w3 (fun q=>q≠sb∧q≠w.heap.size+1) lv0 s.ls:=(hlk0.imp fun q h1 h2=>⟨h1,by omega⟩).fr FW3.out (fun _ _ _ q=>q)
 have hc:=hc0.fr FW3.out (fun q=>q)
 have HFZ:=Lib.hid (hc.free 7)
 obtain ⟨ao,cap,rfl,hcap⟩:=hpt.form
 have HC3:=hid3 hc hpt hlk
 obtain ⟨vs,hv1,hv2, -,hv4⟩:=hpt
 have VS:=hid3 hv1 hv2 hv4
 have YL:=Lib.hid (Reads.yld hv2 (zip_enc encPt 4 (fun _=>rfl) hv1) (by decide))
 have PD3:=Lib.hid (PD.out.fr FW3.out)
 have D:=W0.out.1.fr F3.out (fun q=>q)
 have S3:=Lib.hid (show S10 sb 7 w.heap.size a wt ao s.ps.length cap pa prs.length pc w3 from ⟨hc.cell 7 _ rfl,D.cell 1 _ rfl,D.cell 3 _ rfl,D.cell 4 _ rfl,hsb3,D.lt⟩)
 have d0:=D.cell 0 _ rfl
 clear D hc0 hpt0 hlk0 hc hlk hv1 hv2 hv4
 go_wp2_with fail
 refine OrdS.start (S:=S10 sb 7 w.heap.size a wt ao s.ps.length cap pa prs.length pc) (m:=20) (by kernel_rfl) ?_
 have hHeld:=S3.out.fr (show Fr0 w3 w3.drew from by ((repeat' with_reducible first|assumption|exact frR|apply frD|apply frN|apply frA|apply frM|apply frC);all_goals (simp;try omega)))
 (refine OrdS.tq (i:=0) (v:=?_) rfl (by kernel_rfl) (fun _ _ _ h=>h) (by rfl) hHeld ?_ ?_;rotate_left;focus (intro w' hSw;replace hSw:=hSw.out;go_simp;try with_reducible rfl);(try simp only [Act.put,lA,lZ,lS]))
 (refine OrdS.tq (i:=2) (v:=?_) rfl (by kernel_rfl) (fun _ _ _ h=>h) (by rfl) hHeld ?_ ?_;rotate_left;focus (intro w' hSw;replace hSw:=hSw.out;go_simp;try with_reducible rfl);(try simp only [Act.put,lA,lZ,lS]))
 (refine OrdS.tq (i:=3) (v:=?_) rfl (by kernel_rfl) (fun _ _ _ h=>h) (by rfl) hHeld ?_ ?_;rotate_left;focus (intro w' hSw;replace hSw:=hSw.out;go_simp;try with_reducible rfl);(try simp only [Act.put,lA,lZ,lS]))
 (refine OrdS.tq (i:=4) (v:=?_) rfl (by kernel_rfl) (fun _ _ _ h=>h) (by rfl) hHeld ?_ ?_;rotate_left;focus (intro w' hSw;replace hSw:=hSw.out;go_simp;try with_reducible rfl);(try simp only [Act.put,lA,lZ,lS]))
 (refine OrdS.tq (i:=5) (v:=?_) rfl (by kernel_rfl) (fun _ _ _ h=>h) (by rfl) hHeld ?_ ?_;rotate_left;focus (intro w' hSw;replace hSw:=hSw.out;go_simp;try with_reducible rfl);(try simp only [Act.put,lA,lZ,lS]))
 (refine OrdS.tq (i:=7) (v:=?_) rfl (by kernel_rfl) (fun _ _ _ h=>h) (by rfl) hHeld ?_ ?_;rotate_left;focus (intro w' hSw;replace hSw:=hSw.out;go_simp;try with_reducible rfl);(try simp only [Act.put,lA,lZ,lS]))
 (refine OrdS.tq (i:=8) (v:=?_) rfl (by kernel_rfl) (fun _ _ _ h=>h) (by rfl) hHeld ?_ ?_;rotate_left;focus (intro w' hSw;replace hSw:=hSw.out;go_simp;try with_reducible rfl);(try simp only [Act.put,lA,lZ,lS]))
 (refine OrdS.tq (i:=9) (v:=?_) rfl (by kernel_rfl) (fun _ _ _ h=>h) (by rfl) hHeld ?_ ?_;rotate_left;focus (intro w' hSw;replace hSw:=hSw.out;go_simp;try with_reducible rfl);(try simp only [Act.put,lA,lZ,lS]))
 (refine OrdS.tq (i:=10) (v:=?_) rfl (by kernel_rfl) (fun _ _ _ h=>h) (by rfl) hHeld ?_ ?_;rotate_left;focus (intro w' hSw;replace hSw:=hSw.out;go_simp;try with_reducible rfl);(try simp only [Act.put,lA,lZ,lS]))
 (refine OrdS.tq (i:=11) (v:=?_) rfl (by kernel_rfl) (fun _ _ _ h=>h) (by rfl) hHeld ?_ ?_;rotate_left;focus (intro w' hSw;replace hSw:=hSw.out;go_simp;try with_reducible rfl);(try simp only [Act.put,lA,lZ,lS]))
 (refine OrdS.tq (i:=12) (v:=?_) rfl (by kernel_rfl) (fun _ _ _ h=>h) (by rfl) hHeld ?_ ?_;rotate_left;focus (intro w' hSw;replace hSw:=hSw.out;go_simp;try with_reducible rfl);(try simp only [Act.put,lA,lZ,lS]))
 (refine OrdS.tq (i:=13) (v:=?_) rfl (by kernel_rfl) (fun _ _ _ h=>h) (by rfl) hHeld ?_ ?_;rotate_left;focus (intro w' hSw;replace hSw:=hSw.out;go_simp;try with_reducible rfl);(try simp only [Act.put,lA,lZ,lS]))
 (refine OrdS.one (i:=1) rfl (by kernel_rfl) ?_;intro K hK)
 go_simp
 refine hK.out _ _ (fun _=>S3.out.fr (by ((repeat' with_reducible first|assumption|exact frR|apply frD|apply frN|apply frA|apply frM|apply frC);all_goals (simp;try omega)))) ?_
 clear hK K
 (try simp only [Act.put,lA,lZ,lS])
 (refine OrdS.one (i:=6) rfl (by kernel_rfl) ?_;intro K hK)
 refine step_appG 89 (by rfl) (.tmp 47) (.tmp 51) (by rfl) 96 _ 4 64 Tryz.underlying89 info96 rfl (by decide) (by decide) w3.heap.size (.slice (some ⟨w3.heap.size,0,none⟩) 0 0) 0 [] (by rfl) (own_empty (heap_alloc_new _ _)) _ s.ps.length (encL encPt (s.ps.zip vs)) (by rfl) (Yld.fr YL.out (show Fr0 w3 _ from by ((repeat' with_reducible first|assumption|exact frR|apply frD|apply frN|apply frA|apply frM|apply frC);all_goals (simp;try omega))) (fun a n c e h=>by obtain ⟨ob,q1,q2⟩:=yl_lt VS.out.2.1 e h;exact ⟨q2,fun q=>q⟩)) (zip_enc encPt 4 (fun _=>rfl) VS.out.1) (one_ps VS.out.2.1 VS.out.2.2) (by have:=HS.out.ps;omega) (by simp) ?_
 intro v52 w52 ho52 f52 hat52
 rw [Nat.zero_add,List.nil_append] at ho52
 have g52:Fr0 w3 w52:=Fr.trans (by ((repeat' with_reducible first|assumption|exact frR|apply frD|apply frN|apply frA|apply frM|apply frC);all_goals (simp;try omega))) f52 (fun q hq=>.inr (by cases hq;exact Nat.le_refl _))
 have O52:=Lib.hid ho52
 have G52:=Lib.hid g52.size
 have L52:=Lib.hid (ho52.lt)
 obtain ⟨ao52,cap52,rfl, -, -⟩:=own_slice ho52
 clear ho52 f52 hat52
 refine hK.out _ _ (fun _=>S3.out.fr g52) ?_
 clear hK K hHeld
 (try simp only [Act.put,lA,lZ,lS])
 (refine OrdS.one (i:=14) rfl (by kernel_rfl) ?_;intro K hK)
 go_simp
 go_at_call 23
 refine (bykeys _ _ prs (PD3.out.fr (show Fr0 w3 _ from by ((repeat' with_reducible first|assumption|exact frR|apply frD|apply frN|apply frA|apply frM|apply frC);all_goals (simp;try omega)))) hpl).mono ?_
 rintro e w23 ⟨ao23,cap23,rfl,h23,f23⟩
 have O23:=Lib.hid (ownsRow_fr O52.out f23 (fun _ _ q=>q))
 have P23:=Lib.hid h23
 have g23:Fr0 w3 w23:=Fr.trans0 (by ((repeat' with_reducible first|assumption|exact frR|apply frD|apply frN|apply frA|apply frM|apply frC);all_goals (simp;try omega))) f23
 have S23:=Lib.hid g23.size
 clear h23 f23
 dsimp only
 have hHeld:=S3.out.fr g23
 refine hK.out _ _ (fun _=>hHeld) ?_
 clear hK K
 (try simp only [Act.put,lA,lZ,lS])
 (refine OrdS.tq (i:=15) (v:=?_) rfl (by kernel_rfl) (fun _ _ _ h=>h) (by rfl) hHeld ?_ ?_;rotate_left;focus (intro w' hSw;replace hSw:=hSw.out;go_simp;try with_reducible rfl);(try simp only [Act.put,lA,lZ,lS]))
 (refine OrdS.one (i:=16) rfl (by kernel_rfl) ?_;intro K hK)
 go_simp
 refine hK.out _ _ (fun _=>S3.out.fr (show Fr0 w3 _ from by ((repeat' with_reducible first|assumption|exact frR|apply frD|apply frN|apply frA|apply frM|apply frC);all_goals (simp;try omega)))) ?_
 clear hK K hHeld
 (try simp only [Act.put,lA,lZ,lS])
 (refine OrdS.one (i:=17) rfl (by kernel_rfl) ?_;intro K hK)
 refine step_appG 89 (by rfl) (.tmp 52) (.tmp 62) (by rfl) 96 _ 4 64 Tryz.underlying89 info96 rfl (by decide) (by decide) w3.heap.size (.slice ao52 s.ps.length cap52) s.ps.length (encL encPt (s.ps.zip vs)) (by rfl) (ownsRow_fr O23.out (show Fr0 w23 _ from by ((repeat' with_reducible first|assumption|exact frR|apply frD|apply frN|apply frA|apply frM|apply frC);all_goals (simp;try omega))) (fun _ _ q=>q)) (.slice (some ⟨w23.heap.size,0,none⟩) 1 1) 1 [.string (hashM s.hk a),.string a,.int .i64 wt,.slice ao23 (byK prs).length cap23] (by rfl) (yields_own (own_of_block (heap_alloc_new _ _) rfl)) rfl (by intro u hu;simp only [List.mem_cons,List.not_mem_nil,or_false] at hu;rcases hu with rfl|rfl|rfl|rfl <;> rfl) (by have:=HS.out.ps;omega) (by have:=S23.out;simp;omega) ?_
 intro v63 w63 ho63 f63 hat63
 have g63:Fr0 w3 w63:=Fr.trans (by ((repeat' with_reducible first|assumption|exact frR|apply frD|apply frN|apply frA|apply frM|apply frC);all_goals (simp;try omega))) f63 (fun q hq=>.inr (L52.out q hq).1)
 have P63:=Lib.hid (((PairsIn.fr P23.out (show Fr0 w23 _ from by ((repeat' with_reducible first|assumption|exact frR|apply frD|apply frN|apply frA|apply frM|apply frC);all_goals (simp;try omega))) (fun _ _ _ q=>q)).fr f63 (fun q h1 h2 h3=>by have:=(L52.out q h3).2;omega)).imp fun q h1 _=>(show w3.heap.size≤q from by have:=G52.out;omega))
 have O63:=Lib.hid ho63
 obtain ⟨ao63,cap63,rfl, -, -⟩:=own_slice ho63
 have c7:=(S3.out.fr g63).pts
 have c7f:w63.frozen? ⟨sb,7,none⟩=false:=(g63.frozen (p:=⟨sb,7,none⟩) hsb3 (fun q=>q)).trans HFZ.out
 clear ho63 f63 hat63
 refine hK.out _ _ (fun _=>S3.out.fr g63) ?_
 clear hK K
 (try simp only [Act.put,lA,lZ,lS])
 (refine OrdS.one (i:=18) rfl (by kernel_rfl) ?_;intro K hK)
 go_simp
 refine hK.out _ _ (fun _=>S3.out.fr g63) ?_
 clear hK K
 (try simp only [Act.put,lA,lZ,lS])
 (refine OrdS.one (i:=19) rfl (by kernel_rfl) ?_;intro K hK)
 go_simp
 refine hK.out _ _ (fun _=>S3.out.fr g63) ?_
 clear hK K
 (try simp only [Act.put,lA,lZ,lS])
 (refine OrdS.one (i:=20) rfl (by kernel_rfl) ?_;intro K hK)
 go_simp
 refine hK.out _ _ (fun h=>absurd (show true=false from h) (by decide)) ?_
 clear hK K
 (try simp only [Act.put,lA,lZ,lS])
 refine OrdS.done (by kernel_rfl) ?_
 have F63:=Lib.hid (F3.out.trans0 g63)
 have FA:=Lib.hid (show Fr (fun q=>q=sb) w63 (w63.setCell ⟨sb,7,none⟩ (.slice ao63 (s.ps.length+1) cap63)) from (Fr.refl (fun q=>q=sb) _).setCell (.inl rfl) _)
 have R:=((W0.out.2.1.fr F63.out (fun q=>q)).fr FA.out (fun q=>hne1 q.symm))
 have X:=((W0.out.2.2.1.fr F63.out (fun q=>q)).fr FA.out (fun q=>hne2 q.symm))
 obtain ⟨r0,r1,r2,r3,r4,r5,r6,r7,r8,r9⟩:=R.ten
 obtain ⟨rf0,rf1,rf2,rf3,rf4,rf5,rf6,rf7,rf8,rf9⟩:=R.tenf
 have rl:=R.lt
 obtain ⟨x0,x1,x2,x3,x4,x5,x6,x7,x8,x9⟩:=X.ten
 have xf0:=X.free 0
 have xl:=X.lt
 clear R X c7 c7f
 generalize hA:w63.setCell ⟨sb,7,none⟩ (.slice ao63 (s.ps.length+1) cap63)=wA at *
 go_wp2_with fail
 refine bodyPost_ret (v:=toldE 0) (by simp [results,Tryz.results28,go_sem, *]) rfl ?_
 subst hA
 have f':Fr (fun q=>q=w.heap.size+1) (w63.setCell ⟨sb,7,none⟩ (.slice ao63 (s.ps.length+1) cap63)) _:=(((((((((((Fr.refl (fun q=>q=w.heap.size+1) (w63.setCell ⟨sb,7,none⟩ (.slice ao63 (s.ps.length+1) cap63))).setCell (.inl rfl) (.int .u8 0) (p:=⟨w.heap.size+1,0,none⟩)).setCell (.inl rfl) (.string ⟨#[]⟩) (p:=⟨w.heap.size+1,1,none⟩)).setCell (.inl rfl) (.string ⟨#[]⟩) (p:=⟨w.heap.size+1,2,none⟩)).setCell (.inl rfl) (.string ⟨#[]⟩) (p:=⟨w.heap.size+1,3,none⟩)).setCell (.inl rfl) (.int .i64 0) (p:=⟨w.heap.size+1,4,none⟩)).setCell (.inl rfl) (.int .i64 0) (p:=⟨w.heap.size+1,5,none⟩)).setCell (.inl rfl) (.int .i64 0) (p:=⟨w.heap.size+1,6,none⟩)).setCell (.inl rfl) (.slice none 0 0) (p:=⟨w.heap.size+1,7,none⟩)).setCell (.inl rfl) (.slice none 0 0) (p:=⟨w.heap.size+1,8,none⟩)).setCell (.inl rfl) (.slice none 0 0) (p:=⟨w.heap.size+1,9,none⟩))
 refine ⟨_,rfl,toldE_at _ _ 0,ZRep.newP (s:=s) HC3.out.1 HC3.out.2.2 (PtsIn.snoc (x:=⟨(hashM s.hk a),a,wt,byK prs⟩) O63.out VS.out.1 (fun i l u h1 h2=>(VS.out.2.2 i l u h1 h2).fr g63 fun _ _ _ q=>q) (P63.out.imp fun q h1 _=>⟨by omega,by omega⟩) fun q h1=>⟨by omega,by omega⟩) g63 f' hne1,?_⟩
 exact (((FW3.out.trans0 g63).mono fun _ q=>q.elim).trans FA.out fun _ q=>.inl q).trans f' fun q h1=>.inr (by omega)
theorem enc_take {α:Type} (enc:α→List Value) (k:Nat) (hk:∀ p,(enc p).length=k):∀ (l:List α) (i:Nat),encL enc (l.take i)=(encL enc l).take (i * k)
 | [],i=>by simp [encL]
 | q :: l,0=>by simp [encL]
 | q :: l,i+1=>by
   have e:∀ m:List α,encL enc (q :: m)=enc q ++ encL enc m:=fun m=>rfl
   rw [List.take_succ_cons,e,e,enc_take enc k hk l i,List.take_append,hk,show (i+1) * k - k=i * k by rw [Nat.add_mul];omega,List.take_of_length_le (show (enc q).length≤(i+1) * k from by rw [hk,Nat.add_mul];omega)]
theorem enc_drop {α:Type} (enc:α→List Value) (k:Nat) (hk:∀ p,(enc p).length=k):∀ (l:List α) (i:Nat),encL enc (l.drop i)=(encL enc l).drop (i * k)
 | [],i=>by simp [encL]
 | q :: l,0=>by simp [encL]
 | q :: l,i+1=>by
   have e:∀ m:List α,encL enc (q :: m)=enc q ++ encL enc m:=fun m=>rfl
   rw [List.drop_succ_cons,e,enc_drop enc k hk l i,List.drop_append,hk,show (i+1) * k - k=i * k by rw [Nat.add_mul];omega,List.drop_of_length_le (show (enc q).length≤(i+1) * k from by rw [hk,Nat.add_mul];omega),List.nil_append]
theorem yld_take {w:World} {ob n cap:Nat} {xs:List Value} (h:Reads w (.slice (some ⟨ob,0,none⟩) n cap) n xs) (m c k:Nat):Yld w (.slice (some ⟨ob,0,none⟩) m c) m (xs.take k):=by
 obtain ⟨ao,cap',e,_,hr⟩:=h
 cases e
 refine .inr ⟨_,c,rfl,fun j u hj => ?_⟩
 have hj':xs[j]? = some u:=by
   rw [List.getElem?_take] at hj
   split at hj
   · exact hj
   · cases hj
 obtain ⟨ob',e,_,h2⟩:=hr j u hj'
 cases e
 rw [Addr.add_lit,Nat.zero_add]
 exact h2
theorem yld_drop {w:World} {ob n cap:Nat} {xs:List Value} (h:Reads w (.slice (some ⟨ob,0,none⟩) n cap) n xs) (m c o:Nat):Yld w (.slice (some ⟨ob,o,none⟩) m c) m (xs.drop o):=by
 obtain ⟨ao,cap',e,_,hr⟩:=h
 cases e
 refine .inr ⟨_,c,rfl,fun j u hj => ?_⟩
 rw [List.getElem?_drop] at hj
 obtain ⟨ob',e,_,h2⟩:=hr (o+j) u hj
 cases e
 rw [Addr.add_lit]
 exact h2
theorem cut_mem {α:Type} {l:List α} {i:Nat} {x:α} (h:x∈l.take i ++ l.drop (i+1)):x∈l:=by
 rcases List.mem_append.1 h with q|q
 · exact List.mem_of_mem_take q
 · exact List.mem_of_mem_drop q
theorem zip_cut {α β:Type} {l:List α} {m:List β} (h:m.length=l.length) (i:Nat):(l.take i ++ l.drop (i+1)).zip (m.take i ++ m.drop (i+1))=(l.zip m).take i ++ (l.zip m).drop (i+1):=by
 rw [List.zip_append (by rw [List.length_take,List.length_take,h])]
 simp only [List.zip,List.take_zipWith,List.drop_zipWith]
theorem PtsIn.cut {w:World} {p:Nat→Prop} {base:Nat} {v:Value} {ps:List SP} {vs:List Value} {i n:Nat} (hn:n=i+(ps.length - (i+1))) (ho:w.ownsRow base 96 4 v n ((encL encPt (ps.zip vs)).take (i * 4) ++ (encL encPt (ps.zip vs)).drop ((i+1) * 4))) (hi:i < ps.length) (hv:vs.length=ps.length)
   (hold:∀ (i:Nat) (l:SP) (u:Value),ps[i]? = some l→vs[i]? = some u→PairsIn w p u l.es) (hb:∀ q,base≤q→p q):PtsIn w p v (ps.take i ++ ps.drop (i+1)):=by
 subst hn
 have hl:(ps.take i ++ ps.drop (i+1)).length=i+(ps.length - (i+1)):=by rw [List.length_append,List.length_take,List.length_drop];omega
 refine ⟨vs.take i ++ vs.drop (i+1),by simp [hv],?_,fun q hq=>⟨hb q (ho.lt q hq).1,(ho.lt q hq).2⟩,fun j l u h1 h2 => ?_⟩
 · rw [zip_cut hv,hl]
   have e:encL encPt ((ps.zip vs).take i ++ (ps.zip vs).drop (i+1))=(encL encPt (ps.zip vs)).take (i * 4) ++ (encL encPt (ps.zip vs)).drop ((i+1) * 4):=by
     rw [← enc_take encPt 4 (fun _=>rfl),← enc_drop encPt 4 (fun _=>rfl)]
     simp [encL]
   rw [e]
   exact own_slice ho
 · have hz:(l,u)∈(ps.take i ++ ps.drop (i+1)).zip (vs.take i ++ vs.drop (i+1)):=List.mem_of_getElem? (List.getElem?_zip_eq_some.2 ⟨h1,h2⟩)
   rw [zip_cut hv] at hz
   obtain ⟨k,hk⟩:=List.mem_iff_getElem?.1 (cut_mem hz)
   obtain ⟨g1,g2⟩:=List.getElem?_zip_eq_some.1 hk
   exact hold k l u g1 g2
structure S20 (sb ob n cap:Nat) (w:World):Prop where
 pts:w.cell? ⟨sb,7,none⟩=some (.slice (some ⟨ob,0,none⟩) n cap)
 ls:sb < w.heap.size
theorem S20.fr {sb ob n cap:Nat} {w w':World} (z:S20 sb ob n cap w) (f:Fr0 w w'):S20 sb ob n cap w':=⟨(f.cell (p:=⟨sb,7,none⟩) z.ls (fun q=>q)).trans z.pts,Nat.lt_of_lt_of_le z.ls f.size⟩
theorem S20.out {sb ob n cap:Nat} {w:World} (z:S20 sb ob n cap w):w.cell? ⟨sb,7,none⟩=some (.slice (some ⟨ob,0,none⟩) n cap):=z.pts
theorem w64k' {n k:Int} (h:n=k) (lo:0≤k) (hi:k≤1000000):IntKind.i64.wrap n=k:=by
 subst h
 rw [IntKind.wrap_i64]
 omega
theorem sto1_yes (w:World) (sb:Nat) (s:St) (h:ZRep w sb s) (hs:Small s) (a b:ByteArray) (wt:Int) (pv:Value) (prs:List PP) (hp:PrAt w pv prs) (i:Nat) (hi:ptI s.ps a=some i) (hn:∀ l∈s.ls,¬ (l.a=a∨l.b=a)) :
   Calls Tryz.prog 28 #[.pointer (some ⟨sb,0,none⟩),doS 1 a b wt pv] w fun e w'=>StoP w sb {} { s with ps:=s.ps.take i ++ s.ps.drop (i+1) } e w':=by
 have H:=Lib.hid h
 have hlb:=h.lt
 have HS:=Lib.hid hs
 have HN:=Lib.hid hn
 have HI:=Lib.hid hi
 obtain ⟨hil,xi,hxi, -⟩:=ptI_lt hi
 clear h hs hn hi
 obtain ⟨pa,pc,rfl⟩:=hp.form
 clear hp
 have W0:=Lib.hid (w28_cells w 1 a b wt (.slice pa prs.length pc))
 go_enter Tryz.func28,Tryz.ntmps28
 go_wp2_with fail
 go_quiet (fail)
 go_wp2_with fail
 refine (point44 _ sb s (H.out.fr0 (by ((repeat' with_reducible first|assumption|exact frR|apply frD|apply frN|apply frA|apply frM|apply frC);all_goals (simp;try omega)))) HS.out.ps a).mono ?_
 rintro e w2 ⟨rfl,f2⟩
 have F2:=Lib.hid (show Fr0 (W28 w 1 a b wt (.slice pa prs.length pc)) w2 from Fr.trans0 (by ((repeat' with_reducible first|assumption|exact frR|apply frD|apply frN|apply frA|apply frM|apply frC);all_goals (simp;try omega))) f2)
 clear f2
 rw [HI.out,plc_some]
 go_wp2_with fail
 refine (link45 _ sb s (H.out.fr0 (W0.out.2.2.2.trans0 F2.out)) HS.out.ls a b).mono ?_
 rintro e w3 ⟨rfl,f3⟩
 have F3:=Lib.hid (F2.out.trans0 f3)
 clear f3
 have FW3:=Lib.hid (W0.out.2.2.2.trans0 F3.out)
 have sz3:w.heap.size+1+1 < w3.heap.size:=(W0.out.2.2.1.fr F3.out (fun q=>q)).lt
 have hsb3:sb < w3.heap.size:=by omega
 have hne0:sb≠w.heap.size:=by omega
 have hne1:sb≠w.heap.size+1:=by omega
 have hne2:sb≠w.heap.size+1+1:=by omega
 obtain ⟨b1,b2,b3,b4,pv0,lv0,hc0,hpt0,hlk0⟩:=H.out
 have hpt:PtsIn w3 (fun q=>q≠sb∧q≠w.heap.size+1) pv0 s.ps:=(hpt0.imp fun q h1 h2=>⟨h1,by omega⟩).fr FW3.out (fun _ _ _ q=>q)
 have hlk:LinksIn w3 (fun q=>q≠sb∧q≠w.heap.size+1) lv0 s.ls:=(hlk0.imp fun q h1 h2=>⟨h1,by omega⟩).fr FW3.out (fun _ _ _ q=>q)
 have hc:=hc0.fr FW3.out (fun q=>q)
 have HFZ:=Lib.hid (hc.free 7)
 obtain ⟨ob,cap,_,rfl,hob3, -⟩:=hpt.at_ hxi
 obtain ⟨la,lc,rfl,hlc⟩:=hlk.form
 have HC3:=hid3 hc hpt hlk
 obtain ⟨vs,hv1,hv2, -,hv4⟩:=hpt
 have hcap:s.ps.length≤cap:=by
   obtain ⟨_,_,e,h,_⟩:=hv2
   cases e
   exact h
 have VS:=hid3 hv1 hv2 hv4
 have D3:=Lib.hid (W0.out.1.fr F3.out (fun q=>q))
 have X3:=Lib.hid (W0.out.2.2.1.fr F3.out (fun q=>q))
 have S3:=Lib.hid (show S20 sb ob s.ps.length cap w3 from ⟨hc.cell 7 _ rfl,hsb3⟩)
 have d0:=D3.out.cell 0 _ rfl
 have c8:=hc.cell 8 _ rfl
 have XI:=Lib.hid hxi
 clear hc0 hpt0 hlk0 hc hlk hv1 hv2 hv4 hxi
 go_wp2_with fail
 have hs5:(s.ls.length:Int)≤400000:=by have:=HS.out.ls;omega
 go_loopg [74] s.ls.length (fun n c wr=>∃ j:Nat,n+j=s.ls.length∧c=.int .i64 (j:Nat)∧Fr0 w3 wr)
 case atStart=>exact ⟨0,rfl,rfl,by ((repeat' with_reducible first|assumption|exact frR|apply frD|apply frN|apply frA|apply frM|apply frC);all_goals (simp;try omega))⟩
 case round =>
   obtain ⟨j,hk,rfl,f⟩:=hrel
   have A:=hid2 hk f
   clear hk f
   by_cases hj:j < s.ls.length
   · have hg:=List.getElem?_eq_getElem hj
     obtain ⟨ol,cl,xv,e,hl2,_,c0,c1,c2,c3,hxv⟩:=(LinksIn.fr HC3.out.2.2 A.out.2 (fun _ _ _ q=>q)).at_ hg
     cases e
     have hnl:=HN.out _ (List.getElem_mem hj)
     generalize s.ls[j]=x at c0 c1 c2 c3 hxv hnl
     obtain ⟨xa,xc,rfl⟩:=hxv.form
     have t1:=text_ne (fun e=>hnl (.inl e):¬ x.a=a)
     have t2:=text_ne (fun e=>hnl (.inr e):¬ x.b=a)
     clear hg hxv hnl
     go_wp2_with fail
     go_roundg (gk - 1)
     case measure=>have:=A.out.1;omega
     case rel=>exact ⟨j+1,by have:=A.out.1;omega,by simp,A.out.2.alloc _⟩
   · have hj':j=s.ls.length:=by have:=A.out.1;omega
     subst hj'
     have x0:=(X3.out.fr A.out.2 (fun q=>q)).cell 0 _ rfl
     have hi0:(0:Int)≤(i:Int):=by omega
     have hi1:(i:Int)≤(cap:Int):=by omega
     have hi2:(i:Int)≤(s.ps.length:Int):=by omega
     have hi3:(0:Int)≤((i+1:Nat):Int):=by omega
     have hi4:((i+1:Nat):Int)≤(s.ps.length:Int):=by omega
     have hi5:((i+1:Nat):Int)≤(cap:Int):=by omega
     have hi6:(i:Int)+1≤(s.ps.length:Int):=by omega
     have hi7:(i:Int)+1≤(cap:Int):=by omega
     have hi8:(0:Int)≤(i:Int)+1:=by omega
     have hi9:(s.ps.length:Int)≤(cap:Int):=by omega
     have hs4:(s.ps.length:Int)≤400000:=by have:=HS.out.ps;omega
     have hw1:IntKind.i64.wrap ((i:Int)+1)=((i+1:Nat):Int):=w64k' (by omega) (by omega) (by omega)
     go_wp2_with fail
     have FR:=A.out.2
     clear x0 d0
     by_cases hce:cap=i+1
     · subst hce
       have hz1:(i:Int)≤(i:Int)+1:=by omega
       have hz2:¬ ((i:Int)+1 < (i:Int)):=by omega
       refine OrdS.start (S:=S20 sb ob s.ps.length (i+1)) (m:=19) (by kernel_rfl) ?_
       have S4:=Lib.hid (S3.out.fr FR)
       have hHeld:=S4.out.fr (show Fr0 wr wr.drew from by ((repeat' with_reducible first|assumption|exact frR|apply frD|apply frN|apply frA|apply frM|apply frC);all_goals (simp;try omega)))
       (refine OrdS.tq (i:=0) (v:=?_) rfl (by kernel_rfl) (fun _ _ _ h=>h) (by rfl) hHeld ?_ ?_;rotate_left;focus (intro w' hSw;replace hSw:=hSw.out;go_simp;try with_reducible rfl);(try simp only [Act.put,lA,lZ,lS]))
       (refine OrdS.tq (i:=2) (v:=?_) rfl (by kernel_rfl) (fun _ _ _ h=>h) (by rfl) hHeld ?_ ?_;rotate_left;focus (intro w' hSw;replace hSw:=hSw.out;go_simp;try with_reducible rfl);(try simp only [Act.put,lA,lZ,lS]))
       (refine OrdS.tq (i:=3) (v:=?_) rfl (by kernel_rfl) (fun _ _ _ h=>h) (by rfl) hHeld ?_ ?_;rotate_left;focus (intro w' hSw;replace hSw:=hSw.out;go_simp;try with_reducible rfl);(try simp only [Act.put,lA,lZ,lS]))
       (refine OrdS.tq (i:=4) (v:=?_) rfl (by kernel_rfl) (fun _ _ _ h=>h) (by rfl) hHeld ?_ ?_;rotate_left;focus (intro w' hSw;replace hSw:=hSw.out;go_simp;try with_reducible rfl);(try simp only [Act.put,lA,lZ,lS]))
       (refine OrdS.tq (i:=5) (v:=?_) rfl (by kernel_rfl) (fun _ _ _ h=>h) (by rfl) hHeld ?_ ?_;rotate_left;focus (intro w' hSw;replace hSw:=hSw.out;go_simp;try with_reducible rfl);(try simp only [Act.put,lA,lZ,lS]))
       (refine OrdS.tq (i:=6) (v:=?_) rfl (by kernel_rfl) (fun _ _ _ h=>h) (by rfl) hHeld ?_ ?_;rotate_left;focus (intro w' hSw;replace hSw:=hSw.out;go_simp;try with_reducible rfl);(try simp only [Act.put,lA,lZ,lS]))
       (refine OrdS.tq (i:=7) (v:=?_) rfl (by kernel_rfl) (fun _ _ _ h=>h) (by rfl) hHeld ?_ ?_;rotate_left;focus (intro w' hSw;replace hSw:=hSw.out;go_simp;try with_reducible rfl);(try simp only [Act.put,lA,lZ,lS]))
       (refine OrdS.tq (i:=9) (v:=?_) rfl (by kernel_rfl) (fun _ _ _ h=>h) (by rfl) hHeld ?_ ?_;rotate_left;focus (intro w' hSw;replace hSw:=hSw.out;go_simp;try with_reducible rfl);(try simp only [Act.put,lA,lZ,lS]))
       (refine OrdS.tq (i:=10) (v:=?_) rfl (by kernel_rfl) (fun _ _ _ h=>h) (by rfl) hHeld ?_ ?_;rotate_left;focus (intro w' hSw;replace hSw:=hSw.out;go_simp;try with_reducible rfl);(try simp only [Act.put,lA,lZ,lS]))
       (refine OrdS.tq (i:=11) (v:=?_) rfl (by kernel_rfl) (fun _ _ _ h=>h) (by rfl) hHeld ?_ ?_;rotate_left;focus (intro w' hSw;replace hSw:=hSw.out;go_simp;try with_reducible rfl);(try simp only [Act.put,lA,lZ,lS]))
       (refine OrdS.tq (i:=12) (v:=?_) rfl (by kernel_rfl) (fun _ _ _ h=>h) (by rfl) hHeld ?_ ?_;rotate_left;focus (intro w' hSw;replace hSw:=hSw.out;go_simp;try with_reducible rfl);(try simp only [Act.put,lA,lZ,lS]))
       (refine OrdS.tq (i:=13) (v:=?_) rfl (by kernel_rfl) (fun _ _ _ h=>h) (by rfl) hHeld ?_ ?_;rotate_left;focus (intro w' hSw;replace hSw:=hSw.out;go_simp;try with_reducible rfl);(try simp only [Act.put,lA,lZ,lS]))
       (refine OrdS.tq (i:=14) (v:=?_) rfl (by kernel_rfl) (fun _ _ _ h=>h) (by rfl) hHeld ?_ ?_;rotate_left;focus (intro w' hSw;replace hSw:=hSw.out;go_simp;try with_reducible rfl);(try simp only [Act.put,lA,lZ,lS]))
       (refine OrdS.tq (i:=15) (v:=?_) rfl (by kernel_rfl) (fun _ _ _ h=>h) (by rfl) hHeld ?_ ?_;rotate_left;focus (intro w' hSw;replace hSw:=hSw.out;go_simp;try with_reducible rfl);(try simp only [Act.put,lA,lZ,lS]))
       (refine OrdS.one (i:=1) rfl (by kernel_rfl) ?_;intro K hK)
       go_simp
       refine hK.out _ _ (fun _=>S4.out.fr (by ((repeat' with_reducible first|assumption|exact frR|apply frD|apply frN|apply frA|apply frM|apply frC);all_goals (simp;try omega)))) ?_
       clear hK K
       (try simp only [Act.put,lA,lZ,lS])
       (refine OrdS.one (i:=8) rfl (by kernel_rfl) ?_;intro K hK)
       have YL:=Reads.fr VS.out.2.1 FR (fun _ _ _ q=>q)
       refine step_appG 89 (by rfl) (.tmp 94) (.tmp 100) (by rfl) 96 _ 4 64 Tryz.underlying89 info96 rfl (by decide) (by decide) wr.heap.size (.slice (some ⟨wr.heap.size,0,none⟩) 0 0) 0 [] (by rfl) (own_empty (heap_alloc_new _ _)) _ i ((encL encPt (s.ps.zip vs)).take (i * 4)) (by rfl) (Yld.fr (yld_take YL _ _ _) (show Fr0 wr _ from by ((repeat' with_reducible first|assumption|exact frR|apply frD|apply frN|apply frA|apply frM|apply frC);all_goals (simp;try omega))) (fun a n c e h=>by cases e;exact ⟨Nat.lt_of_lt_of_le hob3 FR.size,fun q=>q⟩)) (by rw [List.length_take,zip_enc encPt 4 (fun _=>rfl) VS.out.1];omega) (fun u hu=>one_ps VS.out.2.1 VS.out.2.2 u (List.mem_of_mem_take hu)) (by omega) (by simp) ?_
       intro v52 w52 ho52 f52 hat52
       rw [Nat.zero_add,List.nil_append] at ho52
       have g52:Fr0 wr w52:=Fr.trans (by ((repeat' with_reducible first|assumption|exact frR|apply frD|apply frN|apply frA|apply frM|apply frC);all_goals (simp;try omega))) f52 (fun q hq=>.inr (by cases hq;exact Nat.le_refl _))
       have O52:=Lib.hid ho52
       have G52:=Lib.hid g52.size
       have L52:=Lib.hid (ho52.lt)
       obtain ⟨ao52,cap52,rfl, -, -⟩:=own_slice ho52
       clear ho52 f52 hat52
       have hHeld:=S4.out.fr g52
       refine hK.out _ _ (fun _=>hHeld) ?_
       clear hK K
       (try simp only [Act.put,lA,lZ,lS])
       (try simp only [List.getElem_toArray,List.getElem_cons_zero,List.getElem_cons_succ,List.setIfInBounds_toArray,List.set_cons_zero,List.set_cons_succ])
       (refine OrdS.one (i:=16) rfl (by kernel_rfl) ?_;intro K hK)
       refine step_appG 89 (by rfl) (.tmp 101) (.tmp 108) (by rfl) 96 _ 4 64 Tryz.underlying89 info96 rfl (by decide) (by decide) wr.heap.size (.slice ao52 i cap52) i ((encL encPt (s.ps.zip vs)).take (i * 4)) (by rfl) O52.out _ (s.ps.length - (i+1)) ((encL encPt (s.ps.zip vs)).drop ((i+1) * 4)) (by rfl) (yields_none (by omega) (by omega) (List.drop_of_length_le (by rw [zip_enc encPt 4 (fun _=>rfl) VS.out.1];omega))) (by rw [List.length_drop,zip_enc encPt 4 (fun _=>rfl) VS.out.1,← Nat.sub_mul]) (fun u hu=>one_ps VS.out.2.1 VS.out.2.2 u (List.mem_of_mem_drop hu)) (by have:=HS.out.ps;omega) G52.out ?_
       intro v63 w63 ho63 f63 hat63
       have g63:Fr0 wr w63:=Fr.trans g52 f63 (fun q hq=>.inr (L52.out q hq).1)
       obtain ⟨L63,hL63⟩ : ∃ L,L=i+(s.ps.length - (i+1)):=⟨_,rfl⟩
       rw [← hL63] at ho63
       have O63:=Lib.hid ho63
       obtain ⟨ao63,cap63,rfl, -, -⟩:=own_slice ho63
       have HL63:=Lib.hid hL63
       clear hL63
       have c7:=(S4.out.fr g63).pts
       have c7f:w63.frozen? ⟨sb,7,none⟩=false:=((FR.trans0 g63).frozen (p:=⟨sb,7,none⟩) hsb3 (fun q=>q)).trans HFZ.out
       clear ho63 f63 hat63
       refine hK.out _ _ (fun _=>S4.out.fr g63) ?_
       clear hK K
       (try simp only [Act.put,lA,lZ,lS])
       (try simp only [List.getElem_toArray,List.getElem_cons_zero,List.getElem_cons_succ,List.setIfInBounds_toArray,List.set_cons_zero,List.set_cons_succ])
       (refine OrdS.one (i:=17) rfl (by kernel_rfl) ?_;intro K hK)
       go_simp
       refine hK.out _ _ (fun _=>S4.out.fr g63) ?_
       clear hK K
       (try simp only [Act.put,lA,lZ,lS])
       (refine OrdS.one (i:=18) rfl (by kernel_rfl) ?_;intro K hK)
       go_simp
       refine hK.out _ _ (fun _=>S4.out.fr g63) ?_
       clear hK K
       (try simp only [Act.put,lA,lZ,lS])
       (refine OrdS.one (i:=19) rfl (by kernel_rfl) ?_;intro K hK)
       go_simp
       refine hK.out _ _ (fun h=>absurd (show true=false from h) (by decide)) ?_
       clear hK K
       (try simp only [Act.put,lA,lZ,lS])
       refine OrdS.done (by kernel_rfl) ?_
       have G63:=Lib.hid (FR.trans0 g63)
       have F63:=Lib.hid (F3.out.trans0 G63.out)
       have FA:=Lib.hid (show Fr (fun q=>q=sb) w63 (w63.setCell ⟨sb,7,none⟩ (.slice ao63 L63 cap63)) from (Fr.refl (fun q=>q=sb) _).setCell (.inl rfl) _)
       have R:=((W0.out.2.1.fr F63.out (fun q=>q)).fr FA.out (fun q=>hne1 q.symm))
       have X:=((W0.out.2.2.1.fr F63.out (fun q=>q)).fr FA.out (fun q=>hne2 q.symm))
       obtain ⟨r0,r1,r2,r3,r4,r5,r6,r7,r8,r9⟩:=R.ten
       obtain ⟨rf0,rf1,rf2,rf3,rf4,rf5,rf6,rf7,rf8,rf9⟩:=R.tenf
       have rl:=R.lt
       obtain ⟨x0,x1,x2,x3,x4,x5,x6,x7,x8,x9⟩:=X.ten
       have xf0:=X.free 0
       have xl:=X.lt
       clear R X c7 c7f
       have SZR:=Lib.hid FR.size
       have WF:=Lib.hid A
       clear YL FR g52 g63
       generalize hA:w63.setCell ⟨sb,7,none⟩ (.slice ao63 L63 cap63)=wA at *
       go_wp2_with fail
       refine bodyPost_ret (v:=toldE 0) (by simp [results,Tryz.results28,go_sem, *]) rfl ?_
       subst hA
       have f':Fr (fun q=>q=w.heap.size+1) (w63.setCell ⟨sb,7,none⟩ (.slice ao63 L63 cap63)) _:=(((((((((((Fr.refl (fun q=>q=w.heap.size+1) (w63.setCell ⟨sb,7,none⟩ (.slice ao63 L63 cap63))).setCell (.inl rfl) (.int .u8 0) (p:=⟨w.heap.size+1,0,none⟩)).setCell (.inl rfl) (.string ⟨#[]⟩) (p:=⟨w.heap.size+1,1,none⟩)).setCell (.inl rfl) (.string ⟨#[]⟩) (p:=⟨w.heap.size+1,2,none⟩)).setCell (.inl rfl) (.string ⟨#[]⟩) (p:=⟨w.heap.size+1,3,none⟩)).setCell (.inl rfl) (.int .i64 0) (p:=⟨w.heap.size+1,4,none⟩)).setCell (.inl rfl) (.int .i64 0) (p:=⟨w.heap.size+1,5,none⟩)).setCell (.inl rfl) (.int .i64 0) (p:=⟨w.heap.size+1,6,none⟩)).setCell (.inl rfl) (.slice none 0 0) (p:=⟨w.heap.size+1,7,none⟩)).setCell (.inl rfl) (.slice none 0 0) (p:=⟨w.heap.size+1,8,none⟩)).setCell (.inl rfl) (.slice none 0 0) (p:=⟨w.heap.size+1,9,none⟩))
       refine ⟨_,rfl,toldE_at _ _ 0,ZRep.newP (s:=s) HC3.out.1 HC3.out.2.2 (PtsIn.cut HL63.out O63.out hil VS.out.1 (fun i l u h1 h2=>(VS.out.2.2 i l u h1 h2).fr G63.out fun _ _ _ q=>q) fun q h1=>⟨by have:=SZR.out;omega,by have:=SZR.out;omega⟩) G63.out f' hne1,?_⟩
       exact (((FW3.out.trans0 G63.out).mono fun _ q=>q.elim).trans FA.out fun _ q=>.inl q).trans f' fun q h1=>.inr (by omega)
     · have hce2:¬ (cap:Int)=(i:Int)+1:=by omega
       refine OrdS.start (S:=S20 sb ob s.ps.length cap) (m:=19) (by kernel_rfl) ?_
       have S4:=Lib.hid (S3.out.fr FR)
       have hHeld:=S4.out.fr (show Fr0 wr wr.drew from by ((repeat' with_reducible first|assumption|exact frR|apply frD|apply frN|apply frA|apply frM|apply frC);all_goals (simp;try omega)))
       (refine OrdS.tq (i:=0) (v:=?_) rfl (by kernel_rfl) (fun _ _ _ h=>h) (by rfl) hHeld ?_ ?_;rotate_left;focus (intro w' hSw;replace hSw:=hSw.out;go_simp;try with_reducible rfl);(try simp only [Act.put,lA,lZ,lS]))
       (refine OrdS.tq (i:=2) (v:=?_) rfl (by kernel_rfl) (fun _ _ _ h=>h) (by rfl) hHeld ?_ ?_;rotate_left;focus (intro w' hSw;replace hSw:=hSw.out;go_simp;try with_reducible rfl);(try simp only [Act.put,lA,lZ,lS]))
       (refine OrdS.tq (i:=3) (v:=?_) rfl (by kernel_rfl) (fun _ _ _ h=>h) (by rfl) hHeld ?_ ?_;rotate_left;focus (intro w' hSw;replace hSw:=hSw.out;go_simp;try with_reducible rfl);(try simp only [Act.put,lA,lZ,lS]))
       (refine OrdS.tq (i:=4) (v:=?_) rfl (by kernel_rfl) (fun _ _ _ h=>h) (by rfl) hHeld ?_ ?_;rotate_left;focus (intro w' hSw;replace hSw:=hSw.out;go_simp;try with_reducible rfl);(try simp only [Act.put,lA,lZ,lS]))
       (refine OrdS.tq (i:=5) (v:=?_) rfl (by kernel_rfl) (fun _ _ _ h=>h) (by rfl) hHeld ?_ ?_;rotate_left;focus (intro w' hSw;replace hSw:=hSw.out;go_simp;try with_reducible rfl);(try simp only [Act.put,lA,lZ,lS]))
       (refine OrdS.tq (i:=6) (v:=?_) rfl (by kernel_rfl) (fun _ _ _ h=>h) (by rfl) hHeld ?_ ?_;rotate_left;focus (intro w' hSw;replace hSw:=hSw.out;go_simp;try with_reducible rfl);(try simp only [Act.put,lA,lZ,lS]))
       (refine OrdS.tq (i:=7) (v:=?_) rfl (by kernel_rfl) (fun _ _ _ h=>h) (by rfl) hHeld ?_ ?_;rotate_left;focus (intro w' hSw;replace hSw:=hSw.out;go_simp;try with_reducible rfl);(try simp only [Act.put,lA,lZ,lS]))
       (refine OrdS.tq (i:=9) (v:=?_) rfl (by kernel_rfl) (fun _ _ _ h=>h) (by rfl) hHeld ?_ ?_;rotate_left;focus (intro w' hSw;replace hSw:=hSw.out;go_simp;try with_reducible rfl);(try simp only [Act.put,lA,lZ,lS]))
       (refine OrdS.tq (i:=10) (v:=?_) rfl (by kernel_rfl) (fun _ _ _ h=>h) (by rfl) hHeld ?_ ?_;rotate_left;focus (intro w' hSw;replace hSw:=hSw.out;go_simp;try with_reducible rfl);(try simp only [Act.put,lA,lZ,lS]))
       (refine OrdS.tq (i:=11) (v:=?_) rfl (by kernel_rfl) (fun _ _ _ h=>h) (by rfl) hHeld ?_ ?_;rotate_left;focus (intro w' hSw;replace hSw:=hSw.out;go_simp;try with_reducible rfl);(try simp only [Act.put,lA,lZ,lS]))
       (refine OrdS.tq (i:=12) (v:=?_) rfl (by kernel_rfl) (fun _ _ _ h=>h) (by rfl) hHeld ?_ ?_;rotate_left;focus (intro w' hSw;replace hSw:=hSw.out;go_simp;try with_reducible rfl);(try simp only [Act.put,lA,lZ,lS]))
       (refine OrdS.tq (i:=13) (v:=?_) rfl (by kernel_rfl) (fun _ _ _ h=>h) (by rfl) hHeld ?_ ?_;rotate_left;focus (intro w' hSw;replace hSw:=hSw.out;go_simp;try with_reducible rfl);(try simp only [Act.put,lA,lZ,lS]))
       (refine OrdS.tq (i:=14) (v:=?_) rfl (by kernel_rfl) (fun _ _ _ h=>h) (by rfl) hHeld ?_ ?_;rotate_left;focus (intro w' hSw;replace hSw:=hSw.out;go_simp;try with_reducible rfl);(try simp only [Act.put,lA,lZ,lS]))
       (refine OrdS.tq (i:=15) (v:=?_) rfl (by kernel_rfl) (fun _ _ _ h=>h) (by rfl) hHeld ?_ ?_;rotate_left;focus (intro w' hSw;replace hSw:=hSw.out;go_simp;try with_reducible rfl);(try simp only [Act.put,lA,lZ,lS]))
       (refine OrdS.one (i:=1) rfl (by kernel_rfl) ?_;intro K hK)
       go_simp
       refine hK.out _ _ (fun _=>S4.out.fr (by ((repeat' with_reducible first|assumption|exact frR|apply frD|apply frN|apply frA|apply frM|apply frC);all_goals (simp;try omega)))) ?_
       clear hK K
       (try simp only [Act.put,lA,lZ,lS])
       (refine OrdS.one (i:=8) rfl (by kernel_rfl) ?_;intro K hK)
       have YL:=Reads.fr VS.out.2.1 FR (fun _ _ _ q=>q)
       refine step_appG 89 (by rfl) (.tmp 94) (.tmp 100) (by rfl) 96 _ 4 64 Tryz.underlying89 info96 rfl (by decide) (by decide) wr.heap.size (.slice (some ⟨wr.heap.size,0,none⟩) 0 0) 0 [] (by rfl) (own_empty (heap_alloc_new _ _)) _ i ((encL encPt (s.ps.zip vs)).take (i * 4)) (by rfl) (Yld.fr (yld_take YL _ _ _) (show Fr0 wr _ from by ((repeat' with_reducible first|assumption|exact frR|apply frD|apply frN|apply frA|apply frM|apply frC);all_goals (simp;try omega))) (fun a n c e h=>by cases e;exact ⟨Nat.lt_of_lt_of_le hob3 FR.size,fun q=>q⟩)) (by rw [List.length_take,zip_enc encPt 4 (fun _=>rfl) VS.out.1];omega) (fun u hu=>one_ps VS.out.2.1 VS.out.2.2 u (List.mem_of_mem_take hu)) (by omega) (by simp) ?_
       intro v52 w52 ho52 f52 hat52
       rw [Nat.zero_add,List.nil_append] at ho52
       have g52:Fr0 wr w52:=Fr.trans (by ((repeat' with_reducible first|assumption|exact frR|apply frD|apply frN|apply frA|apply frM|apply frC);all_goals (simp;try omega))) f52 (fun q hq=>.inr (by cases hq;exact Nat.le_refl _))
       have O52:=Lib.hid ho52
       have G52:=Lib.hid g52.size
       have L52:=Lib.hid (ho52.lt)
       obtain ⟨ao52,cap52,rfl, -, -⟩:=own_slice ho52
       clear ho52 f52 hat52
       have hHeld:=S4.out.fr g52
       refine hK.out _ _ (fun _=>hHeld) ?_
       clear hK K
       (try simp only [Act.put,lA,lZ,lS])
       (try simp only [List.getElem_toArray,List.getElem_cons_zero,List.getElem_cons_succ,List.setIfInBounds_toArray,List.set_cons_zero,List.set_cons_succ])
       (refine OrdS.one (i:=16) rfl (by kernel_rfl) ?_;intro K hK)
       refine step_appG 89 (by rfl) (.tmp 101) (.tmp 108) (by rfl) 96 _ 4 64 Tryz.underlying89 info96 rfl (by decide) (by decide) wr.heap.size (.slice ao52 i cap52) i ((encL encPt (s.ps.zip vs)).take (i * 4)) (by rfl) O52.out _ (s.ps.length - (i+1)) ((encL encPt (s.ps.zip vs)).drop ((i+1) * 4)) (by rfl) (Yld.fr (yld_drop YL _ _ _) (show Fr0 wr _ from by ((repeat' with_reducible first|assumption|exact frR|apply frD|apply frN|apply frA|apply frM|apply frC);all_goals (simp;try omega))) (fun a n c e h=>by cases e;exact ⟨Nat.lt_of_lt_of_le hob3 FR.size,fun q=>q⟩)) (by rw [List.length_drop,zip_enc encPt 4 (fun _=>rfl) VS.out.1,← Nat.sub_mul]) (fun u hu=>one_ps VS.out.2.1 VS.out.2.2 u (List.mem_of_mem_drop hu)) (by have:=HS.out.ps;omega) G52.out ?_
       intro v63 w63 ho63 f63 hat63
       have g63:Fr0 wr w63:=Fr.trans g52 f63 (fun q hq=>.inr (L52.out q hq).1)
       obtain ⟨L63,hL63⟩ : ∃ L,L=i+(s.ps.length - (i+1)):=⟨_,rfl⟩
       rw [← hL63] at ho63
       have O63:=Lib.hid ho63
       obtain ⟨ao63,cap63,rfl, -, -⟩:=own_slice ho63
       have HL63:=Lib.hid hL63
       clear hL63
       have c7:=(S4.out.fr g63).pts
       have c7f:w63.frozen? ⟨sb,7,none⟩=false:=((FR.trans0 g63).frozen (p:=⟨sb,7,none⟩) hsb3 (fun q=>q)).trans HFZ.out
       clear ho63 f63 hat63
       refine hK.out _ _ (fun _=>S4.out.fr g63) ?_
       clear hK K
       (try simp only [Act.put,lA,lZ,lS])
       (try simp only [List.getElem_toArray,List.getElem_cons_zero,List.getElem_cons_succ,List.setIfInBounds_toArray,List.set_cons_zero,List.set_cons_succ])
       (refine OrdS.one (i:=17) rfl (by kernel_rfl) ?_;intro K hK)
       go_simp
       refine hK.out _ _ (fun _=>S4.out.fr g63) ?_
       clear hK K
       (try simp only [Act.put,lA,lZ,lS])
       (refine OrdS.one (i:=18) rfl (by kernel_rfl) ?_;intro K hK)
       go_simp
       refine hK.out _ _ (fun _=>S4.out.fr g63) ?_
       clear hK K
       (try simp only [Act.put,lA,lZ,lS])
       (refine OrdS.one (i:=19) rfl (by kernel_rfl) ?_;intro K hK)
       go_simp
       refine hK.out _ _ (fun h=>absurd (show true=false from h) (by decide)) ?_
       clear hK K
       (try simp only [Act.put,lA,lZ,lS])
       refine OrdS.done (by kernel_rfl) ?_
       have G63:=Lib.hid (FR.trans0 g63)
       have F63:=Lib.hid (F3.out.trans0 G63.out)
       have FA:=Lib.hid (show Fr (fun q=>q=sb) w63 (w63.setCell ⟨sb,7,none⟩ (.slice ao63 L63 cap63)) from (Fr.refl (fun q=>q=sb) _).setCell (.inl rfl) _)
       have R:=((W0.out.2.1.fr F63.out (fun q=>q)).fr FA.out (fun q=>hne1 q.symm))
       have X:=((W0.out.2.2.1.fr F63.out (fun q=>q)).fr FA.out (fun q=>hne2 q.symm))
       obtain ⟨r0,r1,r2,r3,r4,r5,r6,r7,r8,r9⟩:=R.ten
       obtain ⟨rf0,rf1,rf2,rf3,rf4,rf5,rf6,rf7,rf8,rf9⟩:=R.tenf
       have rl:=R.lt
       obtain ⟨x0,x1,x2,x3,x4,x5,x6,x7,x8,x9⟩:=X.ten
       have xf0:=X.free 0
       have xl:=X.lt
       clear R X c7 c7f
       have SZR:=Lib.hid FR.size
       have WF:=Lib.hid A
       clear YL FR g52 g63
       generalize hA:w63.setCell ⟨sb,7,none⟩ (.slice ao63 L63 cap63)=wA at *
       go_wp2_with fail
       refine bodyPost_ret (v:=toldE 0) (by simp [results,Tryz.results28,go_sem, *]) rfl ?_
       subst hA
       have f':Fr (fun q=>q=w.heap.size+1) (w63.setCell ⟨sb,7,none⟩ (.slice ao63 L63 cap63)) _:=(((((((((((Fr.refl (fun q=>q=w.heap.size+1) (w63.setCell ⟨sb,7,none⟩ (.slice ao63 L63 cap63))).setCell (.inl rfl) (.int .u8 0) (p:=⟨w.heap.size+1,0,none⟩)).setCell (.inl rfl) (.string ⟨#[]⟩) (p:=⟨w.heap.size+1,1,none⟩)).setCell (.inl rfl) (.string ⟨#[]⟩) (p:=⟨w.heap.size+1,2,none⟩)).setCell (.inl rfl) (.string ⟨#[]⟩) (p:=⟨w.heap.size+1,3,none⟩)).setCell (.inl rfl) (.int .i64 0) (p:=⟨w.heap.size+1,4,none⟩)).setCell (.inl rfl) (.int .i64 0) (p:=⟨w.heap.size+1,5,none⟩)).setCell (.inl rfl) (.int .i64 0) (p:=⟨w.heap.size+1,6,none⟩)).setCell (.inl rfl) (.slice none 0 0) (p:=⟨w.heap.size+1,7,none⟩)).setCell (.inl rfl) (.slice none 0 0) (p:=⟨w.heap.size+1,8,none⟩)).setCell (.inl rfl) (.slice none 0 0) (p:=⟨w.heap.size+1,9,none⟩))
       refine ⟨_,rfl,toldE_at _ _ 0,ZRep.newP (s:=s) HC3.out.1 HC3.out.2.2 (PtsIn.cut HL63.out O63.out hil VS.out.1 (fun i l u h1 h2=>(VS.out.2.2 i l u h1 h2).fr G63.out fun _ _ _ q=>q) fun q h1=>⟨by have:=SZR.out;omega,by have:=SZR.out;omega⟩) G63.out f' hne1,?_⟩
       exact (((FW3.out.trans0 G63.out).mono fun _ q=>q.elim).trans FA.out fun _ q=>.inl q).trans f' fun q h1=>.inr (by omega)
theorem StoP.cnt {w w':World} {sb:Nat} {s:St} (h:ZRep w sb s) (f:Fr0 w w') (n m:Nat):StoP w sb { order:=n,size:=m } s (.returned (toldC n m)) w' :=
 ⟨_,rfl,toldC_at _ _ n m,h.fr0 f,f.mono fun _ q=>q.elim⟩
theorem sto7 (w:World) (sb:Nat) (s:St) (h:ZRep w sb s) (hs:Small s) (a b:ByteArray) (wt:Int) (pv:Value) (prs:List PP) (hp:PrAt w pv prs) :
   Calls Tryz.prog 28 #[.pointer (some ⟨sb,0,none⟩),doS 7 a b wt pv] w fun e w'=>StoP w sb { order:=s.ps.length,size:=s.ls.length } s e w':=by
 have H:=Lib.hid h
 have hlb:=h.lt
 have HS:=Lib.hid hs
 clear h hs
 obtain ⟨pa,pc,rfl⟩:=hp.form
 clear hp
 have W0:=Lib.hid (w28_cells w 7 a b wt (.slice pa prs.length pc))
 go_enter Tryz.func28,Tryz.ntmps28
 go_wp2_with fail
 go_quiet (fail)
 go_wp2_with fail
 refine (point44 _ sb s (H.out.fr0 (by ((repeat' with_reducible first|assumption|exact frR|apply frD|apply frN|apply frA|apply frM|apply frC);all_goals (simp;try omega)))) HS.out.ps a).mono ?_
 rintro e w2 ⟨rfl,f2⟩
 have F2:=Lib.hid (show Fr0 (W28 w 7 a b wt (.slice pa prs.length pc)) w2 from Fr.trans0 (by ((repeat' with_reducible first|assumption|exact frR|apply frD|apply frN|apply frA|apply frM|apply frC);all_goals (simp;try omega))) f2)
 clear f2
 go_wp2_with fail
 refine (link45 _ sb s (H.out.fr0 (W0.out.2.2.2.trans0 F2.out)) HS.out.ls a b).mono ?_
 rintro e w3 ⟨rfl,f3⟩
 have F3:=Lib.hid (F2.out.trans0 f3)
 clear f3
 have f30:=W0.out.2.2.2.trans0 F3.out
 have hne0:sb≠w.heap.size:=by omega
 have hne1:sb≠w.heap.size+1:=by omega
 have hne2:sb≠w.heap.size+1+1:=by omega
 have hne3:w.heap.size+1+1≠sb:=by omega
 obtain ⟨b1,b2,b3,b4,pv0,lv0,hc0,hpt0,hlk0⟩:=H.out.fr0 f30
 obtain ⟨pa',pc',rfl, -⟩:=hpt0.form
 obtain ⟨la',lc',rfl, -⟩:=hlk0.form
 have c7:=hc0.cell 7 _ rfl
 have c8:=hc0.cell 8 _ rfl
 have D:=W0.out.1.fr F3.out (fun q=>q)
 have R:=W0.out.2.1.fr F3.out (fun q=>q)
 have X:=W0.out.2.2.1.fr F3.out (fun q=>q)
 have d0:=D.cell 0 _ rfl
 obtain ⟨r0,r1,r2,r3,r4,r5,r6,r7,r8,r9⟩:=R.ten
 obtain ⟨rf0,rf1,rf2,rf3,rf4,rf5,rf6,rf7,rf8,rf9⟩:=R.tenf
 have rl:=R.lt
 obtain ⟨x0,x1,x2,x3,x4,x5,x6,x7,x8,x9⟩:=X.ten
 have xf5:=X.free 5
 have xf6:=X.free 6
 have xl:=X.lt
 have FF:=Lib.hid f30
 clear D R X f30 hc0 hpt0 hlk0
 go_wp2_with fail
 go_region_held3 (fun w'=>w'.cell? ⟨sb,7,none⟩=some (.slice pa' s.ps.length pc')∧w'.cell? ⟨sb,8,none⟩=some (.slice la' s.ls.length lc')) (go_keep) (fail)
 all_goals go_wp2_with fail
 all_goals have f30:=FF.out
 all_goals refine bodyPost_ret (v:=toldC s.ps.length s.ls.length) (by simp [results,Tryz.results28,go_sem, *]) rfl ?_
 all_goals exact StoP.cnt H.out (by ((repeat' with_reducible first|assumption|exact frR|apply frD|apply frN|apply frA|apply frM|apply frC);all_goals (simp;try omega))) _ _
theorem StoP.tell {w w':World} {sb:Nat} {s:St} (h:ZRep w sb s) (f:Fr0 w w') (t:Tl) (pv:Value) (hk:t.keys = []) (hl:t.links = []) (hp:PairsIn w (fun q=>q≠sb) pv t.pairs):StoP w sb t s (.returned (toldVal t pv (.slice none 0 0) (.slice none 0 0))) w' :=
 ⟨_,rfl,⟨_,_,_,rfl,hp.fr f (fun _ _ _ q=>q),by rw [hk];exact KeysIn.nil _ _,by rw [hl];exact LinksIn.nil _ _⟩,h.fr0 f,f.mono fun _ q=>q.elim⟩
theorem sto5_yes (w:World) (sb:Nat) (s:St) (h:ZRep w sb s) (hs:Small s) (a b:ByteArray) (wt:Int) (pv:Value) (prs:List PP) (hp:PrAt w pv prs) (i:Nat) (x:SP) (hi:ptI s.ps a=some i) (hx:s.ps[i]? = some x) :
   Calls Tryz.prog 28 #[.pointer (some ⟨sb,0,none⟩),doS 5 a b wt pv] w fun e w'=>StoP w sb { value:=x.v,wt:=x.wt,pairs:=x.es } s e w':=by
 have H:=Lib.hid h
 have hlb:=h.lt
 have HS:=Lib.hid hs
 have HI:=Lib.hid hi
 have HX:=Lib.hid hx
 have hil:=(List.getElem?_eq_some_iff.1 hx).1
 clear h hs hi hx
 obtain ⟨pa,pc,rfl⟩:=hp.form
 clear hp
 have W0:=Lib.hid (w28_cells w 5 a b wt (.slice pa prs.length pc))
 go_enter Tryz.func28,Tryz.ntmps28
 go_wp2_with fail
 go_quiet (fail)
 go_wp2_with fail
 refine (point44 _ sb s (H.out.fr0 (by ((repeat' with_reducible first|assumption|exact frR|apply frD|apply frN|apply frA|apply frM|apply frC);all_goals (simp;try omega)))) HS.out.ps a).mono ?_
 rintro e w2 ⟨rfl,f2⟩
 have F2:=Lib.hid (show Fr0 (W28 w 5 a b wt (.slice pa prs.length pc)) w2 from Fr.trans0 (by ((repeat' with_reducible first|assumption|exact frR|apply frD|apply frN|apply frA|apply frM|apply frC);all_goals (simp;try omega))) f2)
 clear f2
 rw [HI.out,plc_some]
 go_wp2_with fail
 refine (link45 _ sb s (H.out.fr0 (W0.out.2.2.2.trans0 F2.out)) HS.out.ls a b).mono ?_
 rintro e w3 ⟨rfl,f3⟩
 have F3:=Lib.hid (F2.out.trans0 f3)
 clear f3
 have f30:=W0.out.2.2.2.trans0 F3.out
 have sz3:w.heap.size+1+1 < w3.heap.size:=(W0.out.2.2.1.fr F3.out (fun q=>q)).lt
 have hne0:sb≠w.heap.size:=by omega
 have hne1:sb≠w.heap.size+1:=by omega
 have hne2:sb≠w.heap.size+1+1:=by omega
 have hne4:w3.heap.size≠w.heap.size+1+1:=by omega
 have hne5:w.heap.size+1+1≠w3.heap.size:=by omega
 have hne6:w3.heap.size≠w.heap.size+1:=by omega
 have hne7:w.heap.size+1≠w3.heap.size:=by omega
 obtain ⟨b1,b2,b3,b4,pv0,lv0,hc0,hpt0,hlk0⟩:=H.out
 obtain ⟨ob,cap,pv,rfl,hob3, -,c0,c1,c2,c3,hpx⟩:=hpt0.at_ HX.out
 have PX:=Lib.hid hpx
 replace c0:=(f30.cell (p:=⟨ob,i * 4,none⟩) hob3 (fun q=>q)).trans c0
 replace c1:=(f30.cell (p:=⟨ob,i * 4+1,none⟩) hob3 (fun q=>q)).trans c1
 replace c2:=(f30.cell (p:=⟨ob,i * 4+2,none⟩) hob3 (fun q=>q)).trans c2
 replace c3:=(f30.cell (p:=⟨ob,i * 4+3,none⟩) hob3 (fun q=>q)).trans c3
 obtain ⟨xa,xc,rfl⟩:=hpx.form
 have c7:=(hc0.fr f30 (fun q=>q)).cell 7 _ rfl
 have hi0:(0:Int)≤(i:Int):=by omega
 have hi1:(i:Int) < (s.ps.length:Int):=by omega
 have D:=W0.out.1.fr F3.out (fun q=>q)
 have R3:=Lib.hid (W0.out.2.1.fr F3.out (fun q=>q))
 have X3:=Lib.hid (W0.out.2.2.1.fr F3.out (fun q=>q))
 have d0:=D.cell 0 _ rfl
 have FF:=Lib.hid f30
 have ZZ:=Lib.hid (show ZRep w3 sb s from H.out.fr0 f30)
 clear D f30 hc0 hpt0 hlk0 hpx
 go_wp2_with fail
 have UB:=Cells.new w3 #[.string x.h,.string x.v,.int .i64 x.wt,.slice xa x.es.length xc] 96
 have FU:Fr0 w3 (w3.alloc (.cells #[.string x.h,.string x.v,.int .i64 x.wt,.slice xa x.es.length xc] 96)):=by ((repeat' with_reducible first|assumption|exact frR|apply frD|apply frN|apply frA|apply frM|apply frC);all_goals (simp;try omega))
 generalize w3.alloc (.cells #[.string x.h,.string x.v,.int .i64 x.wt,.slice xa x.es.length xc] 96)=U at *
 have R:=R3.out.fr FU (fun q=>q)
 have X:=X3.out.fr FU (fun q=>q)
 have u1:=UB.cell 1 _ rfl
 have u2:=UB.cell 2 _ rfl
 have u3:=UB.cell 3 _ rfl
 have ul:=UB.lt
 obtain ⟨r0,r1,r2,r3,r4,r5,r6,r7,r8,r9⟩:=R.ten
 obtain ⟨rf0,rf1,rf2,rf3,rf4,rf5,rf6,rf7,rf8,rf9⟩:=R.tenf
 have rl:=R.lt
 obtain ⟨x0,x1,x2,x3,x4,x5,x6,x7,x8,x9⟩:=X.ten
 have xf1:=X.free 1
 have xf4:=X.free 4
 have xf7:=X.free 7
 have xl:=X.lt
 have FUU:=Lib.hid FU
 clear R X UB FU c0 c1 c2 c3 c7 d0
 go_region_held3 (fun w'=>w'.cell? ⟨w3.heap.size,1,none⟩=some (.string x.v)∧w'.cell? ⟨w3.heap.size,2,none⟩=some (.int .i64 x.wt)∧w'.cell? ⟨w3.heap.size,3,none⟩=some (.slice xa x.es.length xc)) (go_keep) (fail)
 all_goals go_wp2_with fail
 all_goals refine bodyPost_ret (v:=.agg #[.int .u8 0,.string x.v,.string ⟨#[]⟩,.string ⟨#[]⟩,.int .i64 x.wt,.int .i64 0,.int .i64 0,.slice xa x.es.length xc,.slice none 0 0,.slice none 0 0]) (by simp [results,Tryz.results28,go_sem, *]) rfl ?_
 all_goals
   have f30:=FF.out.trans0 FUU.out
   exact StoP.tell H.out (by ((repeat' with_reducible first|assumption|exact frR|apply frD|apply frN|apply frA|apply frM|apply frC);all_goals (simp;try omega))) { value:=x.v,wt:=x.wt,pairs:=x.es } _ rfl rfl PX.out
theorem value47g (w:World) (sb:Nat) (s:St) (h:ZRep w sb s) (hs:s.ps.length≤400000) (k:ByteArray) (hk:∃ i,ptI s.ps k=some i) :
   Calls Tryz.prog 47 #[.pointer (some ⟨sb,0,none⟩),.string k] w fun e w'=>e=.returned (.string (s.value k))∧Fr0 w w':=by
 obtain ⟨i,hi⟩:=hk
 exact value47 w sb s h hs k i hi
theorem sto6_yes (w:World) (sb:Nat) (s:St) (h:ZRep w sb s) (hs:Small s) (a b:ByteArray) (wt:Int) (pv:Value) (prs:List PP) (hp:PrAt w pv prs) (i:Nat) (x:SL) (hi:lkI s.dir s.ls a b=some i) (hx:s.ls[i]? = some x) (ha:∃ j,ptI s.ps a=some j) (hb:∃ j,ptI s.ps b=some j) :
   Calls Tryz.prog 28 #[.pointer (some ⟨sb,0,none⟩),doS 6 a b wt pv] w fun e w'=>StoP w sb { src:=s.value a,dst:=s.value b,wt:=x.wt,pairs:=x.es } s e w':=by
 have H:=Lib.hid h
 have hlb:=h.lt
 have HS:=Lib.hid hs
 have HI:=Lib.hid hi
 have HX:=Lib.hid hx
 have HA:=Lib.hid ha
 have HB:=Lib.hid hb
 clear h hs hi hx ha hb
 obtain ⟨pa,pc,rfl⟩:=hp.form
 clear hp
 have W0:=Lib.hid (w28_cells w 6 a b wt (.slice pa prs.length pc))
 go_enter Tryz.func28,Tryz.ntmps28
 go_wp2_with fail
 go_quiet (fail)
 go_wp2_with fail
 refine (point44 _ sb s (H.out.fr0 (by ((repeat' with_reducible first|assumption|exact frR|apply frD|apply frN|apply frA|apply frM|apply frC);all_goals (simp;try omega)))) HS.out.ps a).mono ?_
 rintro e w2 ⟨rfl,f2⟩
 have F2:=Lib.hid (show Fr0 (W28 w 6 a b wt (.slice pa prs.length pc)) w2 from Fr.trans0 (by ((repeat' with_reducible first|assumption|exact frR|apply frD|apply frN|apply frA|apply frM|apply frC);all_goals (simp;try omega))) f2)
 clear f2
 go_wp2_with fail
 refine (link45 _ sb s (H.out.fr0 (W0.out.2.2.2.trans0 F2.out)) HS.out.ls a b).mono ?_
 rintro e w3 ⟨rfl,f3⟩
 rw [HI.out,plc_some]
 have F3:=Lib.hid (F2.out.trans0 f3)
 clear f3
 have f30:=W0.out.2.2.2.trans0 F3.out
 have sz3:w.heap.size+1+1 < w3.heap.size:=(W0.out.2.2.1.fr F3.out (fun q=>q)).lt
 have hsb3:sb < w3.heap.size:=by omega
 have hne0:sb≠w.heap.size:=by omega
 have hne1:sb≠w.heap.size+1:=by omega
 have hne2:sb≠w.heap.size+1+1:=by omega
 have hne3:sb≠w3.heap.size:=by omega
 obtain ⟨b1,b2,b3,b4,pv0,lv0,hc0,hpt0,hlk0⟩:=H.out
 obtain ⟨la,lc,rfl,hlc⟩:=hlk0.form
 have c8:=(hc0.fr f30 (fun q=>q)).cell 8 _ rfl
 have HC3:=hid3 hc0 hpt0 hlk0
 obtain ⟨vs,hv1,hv20, -,hv40⟩:=hlk0
 have hv2:=Reads.fr hv20 f30 (fun _ _ _ q=>q)
 have hv4:∀ (i:Nat) (l:SL) (u:Value),s.ls[i]? = some l→vs[i]? = some u→PairsIn w3 (fun q=>q≠sb) u l.es:=fun i l u h1 h2=>(hv40 i l u h1 h2).fr f30 (fun _ _ _ q=>q)
 have YL:=Lib.hid (Reads.yld hv2 (zip_enc encLk 4 (fun _=>rfl) hv1) (by decide))
 have VS:=hid3 hv1 hv2 hv4
 have hil:=(List.getElem?_eq_some_iff.1 HX.out).1
 have hu:=List.getElem?_eq_getElem (show i < vs.length by omega)
 have hz:(s.ls.zip vs)[i]? = some (x,vs[i]'(by omega)):=by rw [List.getElem?_zip_eq_some];exact ⟨HX.out,hu⟩
 have hpx:=hv40 i x _ HX.out hu
 generalize vs[i]=pv at hu hz hpx
 obtain ⟨xa,xc,rfl⟩:=hpx.form
 have PX:=Lib.hid hpx
 have ZE:=Lib.hid hz
 have D3:=Lib.hid (W0.out.1.fr F3.out (fun q=>q))
 have R3:=Lib.hid (W0.out.2.1.fr F3.out (fun q=>q))
 have X3:=Lib.hid (W0.out.2.2.1.fr F3.out (fun q=>q))
 have d0:=D3.out.cell 0 _ rfl
 have FF:=Lib.hid f30
 have hi0:(0:Int)≤(i:Int):=by omega
 have hi1:(i:Int) < (s.ls.length:Int):=by omega
 clear f30 hc0 hpt0 hv1 hv2 hv4 hv20 hv40 hu hz hpx
 go_wp2_with (first
   | (at_builtin;go_loud (refine wl_appG (w:=w3.alloc (.cells #[] 72)) 59 rfl (.tmp 191) (.tmp 195) rfl 72 _ 4 64 Tryz.underlying59 info72 rfl (by decide) (by decide) w3.heap.size (.slice (some ⟨w3.heap.size,0,none⟩) 0 0) 0 [] rfl (own_empty (heap_alloc_new w3 _)) (.slice la s.ls.length lc) s.ls.length (encL encLk (s.ls.zip vs)) rfl (Yld.fr YL.out (show Fr0 w3 _ from by ((repeat' with_reducible first|assumption|exact frR|apply frD|apply frN|apply frA|apply frM|apply frC);all_goals (simp;try omega))) (fun a n c e h=>by obtain ⟨ob,q1,q2⟩:=yl_lt VS.out.2.1 e h;exact ⟨q2,fun q=>q⟩)) (zip_enc encLk 4 (fun _=>rfl) VS.out.1) (one_ls VS.out.2.1 VS.out.2.2) (by have:=HS.out.ls;omega) (by simp) ?_)))
 intro v13 w4 ho13 f13 at13
 try rw [Nat.zero_add,List.nil_append] at ho13
 have g4:Fr0 w3 w4:=Fr.trans (show Fr0 w3 (w3.alloc (.cells #[] 72)) from by ((repeat' with_reducible first|assumption|exact frR|apply frD|apply frN|apply frA|apply frM|apply frC);all_goals (simp;try omega))) f13 (fun q hq=>.inr (by cases hq;exact Nat.le_refl _))
 have hcell:=own_slice ho13
 obtain ⟨ao13,cap13,rfl, -, -⟩:=own_slice ho13
 obtain ⟨ob,_,e,_,hob,e2⟩:=Reads.cell (v:=.slice ao13 s.ls.length cap13) hcell (j:=i * 4+2) (u:=.int .i64 x.wt) ((encL_mem encLk 4 _ (fun _ _=>rfl) i 2 _ ZE.out (by decide)).trans rfl)
 cases e
 obtain ⟨ob',_,e,_,_,e3⟩:=Reads.cell (v:=.slice (some ⟨ob,0,none⟩) s.ls.length cap13) hcell (j:=i * 4+3) (u:=.slice xa x.es.length xc) ((encL_mem encLk 4 _ (fun _ _=>rfl) i 3 _ ZE.out (by decide)).trans rfl)
 cases e
 have OB:=Lib.hid hob
 have E2:=Lib.hid e2
 have E3:=Lib.hid e3
 have G4:=Lib.hid g4
 have R4:=Lib.hid (R3.out.fr g4 (fun q=>q))
 have X4:=Lib.hid (X3.out.fr g4 (fun q=>q))
 have hobne:w.heap.size+1+1≠ob:=by have:=(ho13.lt ob rfl).1;omega
 replace d0:=(D3.out.fr g4 (fun q=>q)).cell 0 _ rfl
 clear ho13 f13 at13 hcell c8 hob
 go_wp2_with fail
 go_region_held3 (fun w'=>w'.cell? ⟨ob,i * 4+2,none⟩=some (.int .i64 x.wt)∧w'.cell? ⟨ob,i * 4+3,none⟩=some (.slice xa x.es.length xc)) (go_keep)
   (first
     | (go_at_call 47
        refine (value47g _ sb s (H.out.fr0 (FF.out.trans0 (G4.out.trans0 (show Fr0 w4 _ from by ((repeat' with_reducible first|assumption|exact frR|apply frD|apply frN|apply frA|apply frM|apply frC);all_goals (simp;try omega)))))) HS.out.ps _ (by first|exact HA.out|exact HB.out)).mono ?_
        rintro e w5 ⟨rfl,f5⟩
        have g5:Fr0 w4 w5:=Fr.trans0 (by ((repeat' with_reducible first|assumption|exact frR|apply frD|apply frN|apply frA|apply frM|apply frC);all_goals (simp;try omega))) f5
        clear f5
        have e2:=(g5.cell (p:=⟨ob,i * 4+2,none⟩) OB.out (fun q=>q)).trans E2.out
        have e3:=(g5.cell (p:=⟨ob,i * 4+3,none⟩) OB.out (fun q=>q)).trans E3.out
        have R:=(R4.out.fr g5 (fun q=>q))
        have X:=(X4.out.fr g5 (fun q=>q))
        obtain ⟨r0,r1,r2,r3,r4,r5,r6,r7,r8,r9⟩:=R.ten
        obtain ⟨rf0,rf1,rf2,rf3,rf4,rf5,rf6,rf7,rf8,rf9⟩:=R.tenf
        have rl:=R.lt
        obtain ⟨x0,x1,x2,x3,x4,x5,x6,x7,x8,x9⟩:=X.ten
        have xf2:=X.free 2
        have xf3:=X.free 3
        have xf4:=X.free 4
        have xf7:=X.free 7
        have xl:=X.lt
        clear R X))
 all_goals go_wp2_with fail
 all_goals refine bodyPost_ret (v:=toldVal { src:=s.value a,dst:=s.value b,wt:=x.wt,pairs:=x.es } (.slice xa x.es.length xc) (.slice none 0 0) (.slice none 0 0)) (by simp [results,Tryz.results28,go_sem, *]) rfl ?_
 all_goals
   have f30:=FF.out.trans0 (G4.out.trans0 g5)
   exact StoP.tell H.out (by ((repeat' with_reducible first|assumption|exact frR|apply frD|apply frN|apply frA|apply frM|apply frC);all_goals (simp;try omega))) { src:=s.value a,dst:=s.value b,wt:=x.wt,pairs:=x.es } _ rfl rfl PX.out
theorem LinksIn.cut {w:World} {p:Nat→Prop} {base:Nat} {v:Value} {ls:List SL} {vs:List Value} {i n:Nat} (hn:n=i+(ls.length - (i+1))) (ho:w.ownsRow base 72 4 v n ((encL encLk (ls.zip vs)).take (i * 4) ++ (encL encLk (ls.zip vs)).drop ((i+1) * 4))) (hi:i < ls.length) (hv:vs.length=ls.length)
   (hold:∀ (i:Nat) (l:SL) (u:Value),ls[i]? = some l→vs[i]? = some u→PairsIn w p u l.es) (hb:∀ q,base≤q→p q):LinksIn w p v (ls.take i ++ ls.drop (i+1)):=by
 subst hn
 have hl:(ls.take i ++ ls.drop (i+1)).length=i+(ls.length - (i+1)):=by rw [List.length_append,List.length_take,List.length_drop];omega
 refine ⟨vs.take i ++ vs.drop (i+1),by simp [hv],?_,fun q hq=>⟨hb q (ho.lt q hq).1,(ho.lt q hq).2⟩,fun j l u h1 h2 => ?_⟩
 · rw [zip_cut hv,hl]
   have e:encL encLk ((ls.zip vs).take i ++ (ls.zip vs).drop (i+1))=(encL encLk (ls.zip vs)).take (i * 4) ++ (encL encLk (ls.zip vs)).drop ((i+1) * 4):=by
     rw [← enc_take encLk 4 (fun _=>rfl),← enc_drop encLk 4 (fun _=>rfl)]
     simp [encL]
   rw [e]
   exact own_slice ho
 · have hz:(l,u)∈(ls.take i ++ ls.drop (i+1)).zip (vs.take i ++ vs.drop (i+1)):=List.mem_of_getElem? (List.getElem?_zip_eq_some.2 ⟨h1,h2⟩)
   rw [zip_cut hv] at hz
   obtain ⟨k,hk⟩:=List.mem_iff_getElem?.1 (cut_mem hz)
   obtain ⟨g1,g2⟩:=List.getElem?_zip_eq_some.1 hk
   exact hold k l u g1 g2
theorem sto3_yes (w:World) (sb:Nat) (s:St) (h:ZRep w sb s) (hs:Small s) (a b:ByteArray) (wt:Int) (pv:Value) (prs:List PP) (hp:PrAt w pv prs) (i:Nat) (x:SL) (hi:lkI s.dir s.ls a b=some i) (hx:s.ls[i]? = some x) :
   Calls Tryz.prog 28 #[.pointer (some ⟨sb,0,none⟩),doS 3 a b wt pv] w fun e w'=>StoP w sb {} { s with ls:=s.ls.take i ++ s.ls.drop (i+1) } e w':=by
 have H:=Lib.hid h
 have hlb:=h.lt
 have HS:=Lib.hid hs
 have HI:=Lib.hid hi
 have HX:=Lib.hid hx
 clear h hs hi hx
 obtain ⟨pa,pc,rfl⟩:=hp.form
 clear hp
 have W0:=Lib.hid (w28_cells w 3 a b wt (.slice pa prs.length pc))
 go_enter Tryz.func28,Tryz.ntmps28
 go_wp2_with fail
 go_quiet (fail)
 go_wp2_with fail
 refine (point44 _ sb s (H.out.fr0 (by ((repeat' with_reducible first|assumption|exact frR|apply frD|apply frN|apply frA|apply frM|apply frC);all_goals (simp;try omega)))) HS.out.ps a).mono ?_
 rintro e w2 ⟨rfl,f2⟩
 have F2:=Lib.hid (show Fr0 (W28 w 3 a b wt (.slice pa prs.length pc)) w2 from Fr.trans0 (by ((repeat' with_reducible first|assumption|exact frR|apply frD|apply frN|apply frA|apply frM|apply frC);all_goals (simp;try omega))) f2)
 clear f2
 go_wp2_with fail
 refine (link45 _ sb s (H.out.fr0 (W0.out.2.2.2.trans0 F2.out)) HS.out.ls a b).mono ?_
 rintro e w3 ⟨rfl,f3⟩
 rw [HI.out,plc_some]
 have F3:=Lib.hid (F2.out.trans0 f3)
 clear f3
 have f30:=W0.out.2.2.2.trans0 F3.out
 have sz3:w.heap.size+1+1 < w3.heap.size:=(W0.out.2.2.1.fr F3.out (fun q=>q)).lt
 have hsb3:sb < w3.heap.size:=by omega
 have hne0:sb≠w.heap.size:=by omega
 have hne1:sb≠w.heap.size+1:=by omega
 have hne2:sb≠w.heap.size+1+1:=by omega
 have hne3:sb≠w3.heap.size:=by omega
 obtain ⟨b1,b2,b3,b4,pv0,lv0,hc0,hpt0,hlk0⟩:=H.out
 obtain ⟨la,lc,rfl,hlc⟩:=hlk0.form
 have c8:=(hc0.fr f30 (fun q=>q)).cell 8 _ rfl
 have HC3:=hid3 hc0 hpt0 hlk0
 obtain ⟨vs,hv1,hv20, -,hv40⟩:=hlk0
 have hv2:=Reads.fr hv20 f30 (fun _ _ _ q=>q)
 have hv4:∀ (i:Nat) (l:SL) (u:Value),s.ls[i]? = some l→vs[i]? = some u→PairsIn w3 (fun q=>q≠sb) u l.es:=fun i l u h1 h2=>(hv40 i l u h1 h2).fr f30 (fun _ _ _ q=>q)
 have YL:=Lib.hid (Reads.yld hv2 (zip_enc encLk 4 (fun _=>rfl) hv1) (by decide))
 have VS:=hid3 hv1 hv2 hv4
 have V0:=Lib.hid hv40
 have hil:=(List.getElem?_eq_some_iff.1 HX.out).1
 have hu:=List.getElem?_eq_getElem (show i < vs.length by omega)
 have hz:(s.ls.zip vs)[i]? = some (x,vs[i]'(by omega)):=by rw [List.getElem?_zip_eq_some];exact ⟨HX.out,hu⟩
 have hpx:=hv40 i x _ HX.out hu
 generalize vs[i]=pv at hu hz hpx
 have ZE:=Lib.hid hz
 have D3:=Lib.hid (W0.out.1.fr F3.out (fun q=>q))
 have R3:=Lib.hid (W0.out.2.1.fr F3.out (fun q=>q))
 have X3:=Lib.hid (W0.out.2.2.1.fr F3.out (fun q=>q))
 have d0:=D3.out.cell 0 _ rfl
 have FF:=Lib.hid f30
 have hi0:(0:Int)≤(i:Int):=by omega
 have hi1:(i:Int) < (s.ls.length:Int):=by omega
 clear f30 hc0 hpt0 hv1 hv2 hv4 hv20 hv40 hu hz hpx
 go_wp2_with (first
   | (at_builtin;go_loud (refine wl_appG (w:=w3.alloc (.cells #[] 72)) 59 rfl (.tmp 191) (.tmp 195) rfl 72 _ 4 64 Tryz.underlying59 info72 rfl (by decide) (by decide) w3.heap.size (.slice (some ⟨w3.heap.size,0,none⟩) 0 0) 0 [] rfl (own_empty (heap_alloc_new w3 _)) (.slice la s.ls.length lc) s.ls.length (encL encLk (s.ls.zip vs)) rfl (Yld.fr YL.out (show Fr0 w3 _ from by ((repeat' with_reducible first|assumption|exact frR|apply frD|apply frN|apply frA|apply frM|apply frC);all_goals (simp;try omega))) (fun a n c e h=>by obtain ⟨ob,q1,q2⟩:=yl_lt VS.out.2.1 e h;exact ⟨q2,fun q=>q⟩)) (zip_enc encLk 4 (fun _=>rfl) VS.out.1) (one_ls VS.out.2.1 VS.out.2.2) (by have:=HS.out.ls;omega) (by simp) ?_)))
 intro v13 w4 ho13 f13 at13
 try rw [Nat.zero_add,List.nil_append] at ho13
 have g4:Fr0 w3 w4:=Fr.trans (show Fr0 w3 (w3.alloc (.cells #[] 72)) from by ((repeat' with_reducible first|assumption|exact frR|apply frD|apply frN|apply frA|apply frM|apply frC);all_goals (simp;try omega))) f13 (fun q hq=>.inr (by cases hq;exact Nat.le_refl _))
 have hcell:=own_slice ho13
 obtain ⟨ao13,cap13,rfl,hcap13, -⟩:=own_slice ho13
 obtain ⟨ob,_,e,_,hob,_⟩:=Reads.cell (v:=.slice ao13 s.ls.length cap13) hcell (j:=i * 4) (u:=.string x.a) ((encL_mem encLk 4 _ (fun _ _=>rfl) i 0 _ ZE.out (by decide)).trans rfl)
 cases e
 have OB:=Lib.hid hob
 have O13:=Lib.hid ho13
 have RD:=Lib.hid (show Reads w4 (.slice (some ⟨ob,0,none⟩) s.ls.length cap13) s.ls.length (encL encLk (s.ls.zip vs)) from hcell)
 have hobne:w.heap.size+1+1≠ob:=by have:=(ho13.lt ob rfl).1;omega
 have L13:=Lib.hid (show w3.heap.size≤ob from (ho13.lt ob rfl).1)
 have G4:=Lib.hid g4
 have R4:=Lib.hid (R3.out.fr g4 (fun q=>q))
 have X4:=Lib.hid (X3.out.fr g4 (fun q=>q))
 replace d0:=(D3.out.fr g4 (fun q=>q)).cell 0 _ rfl
 have hfz:=((HC3.out.1.fr FF.out (fun q=>q)).fr g4 (fun q=>q)).free 8
 have hcz:=((HC3.out.1.fr FF.out (fun q=>q)).fr g4 (fun q=>q)).cell 8 _ rfl
 have HZ:=hid2 hcz hfz
 have hi2:(i:Int)≤(cap13:Int):=by omega
 have hi3:(0:Int)≤((i+1:Nat):Int):=by omega
 have hi4:((i+1:Nat):Int)≤(s.ls.length:Int):=by omega
 have hi5:((i+1:Nat):Int)≤(cap13:Int):=by omega
 have hi6:(i:Int)+1≤(s.ls.length:Int):=by omega
 have hi7:(i:Int)+1≤(cap13:Int):=by omega
 have hi8:(0:Int)≤(i:Int)+1:=by omega
 have hi9:(s.ls.length:Int)≤(cap13:Int):=by omega
 have hj1:(i:Int)≤(s.ls.length:Int):=by omega
 have hs4:(s.ls.length:Int)≤400000:=by have:=HS.out.ls;omega
 have hw1:IntKind.i64.wrap ((i:Int)+1)=((i+1:Nat):Int):=w64k' (by omega) (by omega) (by omega)
 clear ho13 f13 at13 hcell c8 hob hfz hcz
 go_wp2_with fail
 by_cases hce:cap13=i+1
 · subst hce
   have hz1:(i:Int)≤(i:Int)+1:=by omega
   have hz2:¬ ((i:Int)+1 < (i:Int)):=by omega
   go_region_held3 (fun _=>True) (trivial)
     (first
       | (refine step_appG 59 (by rfl) (.tmp 224) (.tmp 228) (by rfl) 72 _ 4 64 Tryz.underlying59 info72 rfl (by decide) (by decide) w3.heap.size (.slice (some ⟨ob,0,none⟩) i (i+1)) i ((encL encLk (s.ls.zip vs)).take (i * 4)) (by rfl) (own_take (ownsRow_fr O13.out (show Fr0 w4 _ from by ((repeat' with_reducible first|assumption|exact frR|apply frD|apply frN|apply frA|apply frM|apply frC);all_goals (simp;try omega))) (fun _ _ q=>q)) (by omega)) _ (s.ls.length - (i+1)) ((encL encLk (s.ls.zip vs)).drop ((i+1) * 4)) (by rfl) (yields_none (by omega) (by omega) (List.drop_of_length_le (by rw [zip_enc encLk 4 (fun _=>rfl) VS.out.1];omega))) (by rw [List.length_drop,zip_enc encLk 4 (fun _=>rfl) VS.out.1,← Nat.sub_mul]) (fun u hu=>one_ls VS.out.2.1 VS.out.2.2 u (List.mem_of_mem_drop hu)) (by omega) (by have:=G4.out.size;simp;omega) ?_
          intro v63 w63 ho63 f63 hat63
          have g63:Fr0 w3 w63:=Fr.trans (G4.out.trans0 (show Fr0 w4 _ from by ((repeat' with_reducible first|assumption|exact frR|apply frD|apply frN|apply frA|apply frM|apply frC);all_goals (simp;try omega)))) f63 (fun q hq=>.inr (by cases hq;exact L13.out))
          obtain ⟨L63,hL63⟩ : ∃ L,L=i+(s.ls.length - (i+1)):=⟨_,rfl⟩
          rw [← hL63] at ho63
          have O63:=Lib.hid ho63
          obtain ⟨ao63,cap63,rfl, -, -⟩:=own_slice ho63
          have HL63:=Lib.hid hL63
          have Q63:=Lib.hid (show Fr (fun k=>k=ob) w4 w63 from Fr.trans (show Fr (fun k=>k=ob) w4 _ from by ((repeat' with_reducible first|assumption|exact frR|apply frD|apply frN|apply frA|apply frM|apply frC);all_goals (simp;try omega))) f63 (fun q hq=>.inl (by cases hq;rfl)))
          have c8:=(Q63.out.cell (p:=⟨sb,8,none⟩) (Nat.lt_of_lt_of_le hsb3 G4.out.size) (fun q=>by have:=L13.out;have q':sb=ob:=q;omega)).trans HZ.out.1
          have c8f:w63.frozen? ⟨sb,8,none⟩=false:=(Q63.out.frozen (p:=⟨sb,8,none⟩) (Nat.lt_of_lt_of_le hsb3 G4.out.size) (fun q=>by have:=L13.out;have q':sb=ob:=q;omega)).trans HZ.out.2
          clear ho63 f63 hat63 hL63))
   have G63:=Lib.hid g63
   have F63:=Lib.hid (F3.out.trans0 g63)
   have FA:=Lib.hid (show Fr (fun q=>q=sb) w63 (w63.setCell ⟨sb,8,none⟩ (.slice ao63 L63 cap63)) from (Fr.refl (fun q=>q=sb) _).setCell (.inl rfl) _)
   have R:=((W0.out.2.1.fr F63.out (fun q=>q)).fr FA.out (fun q=>hne1 q.symm))
   have X:=((W0.out.2.2.1.fr F63.out (fun q=>q)).fr FA.out (fun q=>hne2 q.symm))
   obtain ⟨r0,r1,r2,r3,r4,r5,r6,r7,r8,r9⟩:=R.ten
   obtain ⟨rf0,rf1,rf2,rf3,rf4,rf5,rf6,rf7,rf8,rf9⟩:=R.tenf
   have rl:=R.lt
   obtain ⟨x0,x1,x2,x3,x4,x5,x6,x7,x8,x9⟩:=X.ten
   have xf0:=X.free 0
   have xl:=X.lt
   clear R X c8 c8f g63 g4
   generalize hA:w63.setCell ⟨sb,8,none⟩ (.slice ao63 L63 cap63)=wA at *
   go_wp2_with fail
   refine bodyPost_ret (v:=toldE 0) (by simp [results,Tryz.results28,go_sem, *]) rfl ?_
   subst hA
   have f':Fr (fun q=>q=w.heap.size+1) (w63.setCell ⟨sb,8,none⟩ (.slice ao63 L63 cap63)) _:=(((((((((((Fr.refl (fun q=>q=w.heap.size+1) (w63.setCell ⟨sb,8,none⟩ (.slice ao63 L63 cap63))).setCell (.inl rfl) (.int .u8 0) (p:=⟨w.heap.size+1,0,none⟩)).setCell (.inl rfl) (.string ⟨#[]⟩) (p:=⟨w.heap.size+1,1,none⟩)).setCell (.inl rfl) (.string ⟨#[]⟩) (p:=⟨w.heap.size+1,2,none⟩)).setCell (.inl rfl) (.string ⟨#[]⟩) (p:=⟨w.heap.size+1,3,none⟩)).setCell (.inl rfl) (.int .i64 0) (p:=⟨w.heap.size+1,4,none⟩)).setCell (.inl rfl) (.int .i64 0) (p:=⟨w.heap.size+1,5,none⟩)).setCell (.inl rfl) (.int .i64 0) (p:=⟨w.heap.size+1,6,none⟩)).setCell (.inl rfl) (.slice none 0 0) (p:=⟨w.heap.size+1,7,none⟩)).setCell (.inl rfl) (.slice none 0 0) (p:=⟨w.heap.size+1,8,none⟩)).setCell (.inl rfl) (.slice none 0 0) (p:=⟨w.heap.size+1,9,none⟩))
   refine ⟨_,rfl,toldE_at _ _ 0,ZRep.newL (s:=s) (HC3.out.1.fr FF.out (fun q=>q)) ((HC3.out.2.1.imp fun q h1 h2=>⟨h1,by omega⟩).fr FF.out (fun _ _ _ q=>q)) (LinksIn.cut HL63.out O63.out hil VS.out.1 (fun i l u h1 h2=>((((V0.out i l u h1 h2).imp fun q h1 h2=>⟨h1,by omega⟩).fr FF.out (fun _ _ _ q=>q)).fr G63.out fun _ _ _ q=>q)) fun q h1=>⟨by omega,by omega⟩) G63.out f' hne1,?_⟩
   exact (((FF.out.trans0 G63.out).mono fun _ q=>q.elim).trans FA.out fun _ q=>.inl q).trans f' fun q h1=>.inr (by omega)
 · have hce2:¬ (cap13:Int)=(i:Int)+1:=by omega
   go_region_held3 (fun _=>True) (trivial)
     (first
       | (refine step_appG 59 (by rfl) (.tmp 224) (.tmp 228) (by rfl) 72 _ 4 64 Tryz.underlying59 info72 rfl (by decide) (by decide) w3.heap.size (.slice (some ⟨ob,0,none⟩) i cap13) i ((encL encLk (s.ls.zip vs)).take (i * 4)) (by rfl) (own_take (ownsRow_fr O13.out (show Fr0 w4 _ from by ((repeat' with_reducible first|assumption|exact frR|apply frD|apply frN|apply frA|apply frM|apply frC);all_goals (simp;try omega))) (fun _ _ q=>q)) (by omega)) _ (s.ls.length - (i+1)) ((encL encLk (s.ls.zip vs)).drop ((i+1) * 4)) (by rfl) (Yld.fr (yld_drop RD.out _ _ _) (show Fr0 w4 _ from by ((repeat' with_reducible first|assumption|exact frR|apply frD|apply frN|apply frA|apply frM|apply frC);all_goals (simp;try omega))) (fun a n c e h=>by cases e;exact ⟨OB.out,fun q=>q⟩)) (by rw [List.length_drop,zip_enc encLk 4 (fun _=>rfl) VS.out.1,← Nat.sub_mul]) (fun u hu=>one_ls VS.out.2.1 VS.out.2.2 u (List.mem_of_mem_drop hu)) (by omega) (by have:=G4.out.size;simp;omega) ?_
          intro v63 w63 ho63 f63 hat63
          have g63:Fr0 w3 w63:=Fr.trans (G4.out.trans0 (show Fr0 w4 _ from by ((repeat' with_reducible first|assumption|exact frR|apply frD|apply frN|apply frA|apply frM|apply frC);all_goals (simp;try omega)))) f63 (fun q hq=>.inr (by cases hq;exact L13.out))
          obtain ⟨L63,hL63⟩ : ∃ L,L=i+(s.ls.length - (i+1)):=⟨_,rfl⟩
          rw [← hL63] at ho63
          have O63:=Lib.hid ho63
          obtain ⟨ao63,cap63,rfl, -, -⟩:=own_slice ho63
          have HL63:=Lib.hid hL63
          have Q63:=Lib.hid (show Fr (fun k=>k=ob) w4 w63 from Fr.trans (show Fr (fun k=>k=ob) w4 _ from by ((repeat' with_reducible first|assumption|exact frR|apply frD|apply frN|apply frA|apply frM|apply frC);all_goals (simp;try omega))) f63 (fun q hq=>.inl (by cases hq;rfl)))
          have c8:=(Q63.out.cell (p:=⟨sb,8,none⟩) (Nat.lt_of_lt_of_le hsb3 G4.out.size) (fun q=>by have:=L13.out;have q':sb=ob:=q;omega)).trans HZ.out.1
          have c8f:w63.frozen? ⟨sb,8,none⟩=false:=(Q63.out.frozen (p:=⟨sb,8,none⟩) (Nat.lt_of_lt_of_le hsb3 G4.out.size) (fun q=>by have:=L13.out;have q':sb=ob:=q;omega)).trans HZ.out.2
          clear ho63 f63 hat63 hL63))
   have G63:=Lib.hid g63
   have F63:=Lib.hid (F3.out.trans0 g63)
   have FA:=Lib.hid (show Fr (fun q=>q=sb) w63 (w63.setCell ⟨sb,8,none⟩ (.slice ao63 L63 cap63)) from (Fr.refl (fun q=>q=sb) _).setCell (.inl rfl) _)
   have R:=((W0.out.2.1.fr F63.out (fun q=>q)).fr FA.out (fun q=>hne1 q.symm))
   have X:=((W0.out.2.2.1.fr F63.out (fun q=>q)).fr FA.out (fun q=>hne2 q.symm))
   obtain ⟨r0,r1,r2,r3,r4,r5,r6,r7,r8,r9⟩:=R.ten
   obtain ⟨rf0,rf1,rf2,rf3,rf4,rf5,rf6,rf7,rf8,rf9⟩:=R.tenf
   have rl:=R.lt
   obtain ⟨x0,x1,x2,x3,x4,x5,x6,x7,x8,x9⟩:=X.ten
   have xf0:=X.free 0
   have xl:=X.lt
   clear R X c8 c8f g63 g4
   generalize hA:w63.setCell ⟨sb,8,none⟩ (.slice ao63 L63 cap63)=wA at *
   go_wp2_with fail
   refine bodyPost_ret (v:=toldE 0) (by simp [results,Tryz.results28,go_sem, *]) rfl ?_
   subst hA
   have f':Fr (fun q=>q=w.heap.size+1) (w63.setCell ⟨sb,8,none⟩ (.slice ao63 L63 cap63)) _:=(((((((((((Fr.refl (fun q=>q=w.heap.size+1) (w63.setCell ⟨sb,8,none⟩ (.slice ao63 L63 cap63))).setCell (.inl rfl) (.int .u8 0) (p:=⟨w.heap.size+1,0,none⟩)).setCell (.inl rfl) (.string ⟨#[]⟩) (p:=⟨w.heap.size+1,1,none⟩)).setCell (.inl rfl) (.string ⟨#[]⟩) (p:=⟨w.heap.size+1,2,none⟩)).setCell (.inl rfl) (.string ⟨#[]⟩) (p:=⟨w.heap.size+1,3,none⟩)).setCell (.inl rfl) (.int .i64 0) (p:=⟨w.heap.size+1,4,none⟩)).setCell (.inl rfl) (.int .i64 0) (p:=⟨w.heap.size+1,5,none⟩)).setCell (.inl rfl) (.int .i64 0) (p:=⟨w.heap.size+1,6,none⟩)).setCell (.inl rfl) (.slice none 0 0) (p:=⟨w.heap.size+1,7,none⟩)).setCell (.inl rfl) (.slice none 0 0) (p:=⟨w.heap.size+1,8,none⟩)).setCell (.inl rfl) (.slice none 0 0) (p:=⟨w.heap.size+1,9,none⟩))
   refine ⟨_,rfl,toldE_at _ _ 0,ZRep.newL (s:=s) (HC3.out.1.fr FF.out (fun q=>q)) ((HC3.out.2.1.imp fun q h1 h2=>⟨h1,by omega⟩).fr FF.out (fun _ _ _ q=>q)) (LinksIn.cut HL63.out O63.out hil VS.out.1 (fun i l u h1 h2=>((((V0.out i l u h1 h2).imp fun q h1 h2=>⟨h1,by omega⟩).fr FF.out (fun _ _ _ q=>q)).fr G63.out fun _ _ _ q=>q)) fun q h1=>⟨by omega,by omega⟩) G63.out f' hne1,?_⟩
   exact (((FF.out.trans0 G63.out).mono fun _ q=>q.elim).trans FA.out fun _ q=>.inl q).trans f' fun q h1=>.inr (by omega)
end Go.Proofs.YtbafaadmlpamiaaGreatDoor
