import Derived.Test.YtbafaadmlpamiaaGreatDoorA8
import Derived.Laws.StructEq
import Derived.Test.YtbafaadmlpamiaaGreatDoorC1
import Derived.Deep.AppendLies
set_option maxRecDepth 100000
set_option maxHeartbeats 1000000
namespace Go.Proofs.YtbafaadmlpamiaaGreatDoor
open Go Go.Hy Go.RowKit
def PrAt (w:World) (v:Value) (prs:List PP):Prop :=
 ∃ ao cap,v=.slice ao prs.length cap∧∀ (i:Nat) (p:PP),prs[i]? = some p→∃ ob off,ao=some ⟨ob,off,none⟩∧ob < w.heap.size∧w.cell? ⟨ob,off+i * 2,none⟩=some (.string p.1)∧w.cell? ⟨ob,off+i * 2+1,none⟩=some (.string p.2)
theorem PrAt.fr {w w':World} {v:Value} {prs:List PP} (h:PrAt w v prs) (f:Fr0 w w'):PrAt w' v prs:=by
 obtain ⟨ao,cap,rfl,hr⟩:=h
 refine ⟨ao,cap,rfl,fun i p hi => ?_⟩
 obtain ⟨ob,off,rfl,h1,h2,h3⟩:=hr i p hi
 exact ⟨ob,off,rfl,Nat.lt_of_lt_of_le h1 f.size,(f.cell (p:=⟨ob,off+i * 2,none⟩) h1 (fun q=>q)).trans h2,(f.cell (p:=⟨ob,off+i * 2+1,none⟩) h1 (fun q=>q)).trans h3⟩
theorem PrAt.form {w:World} {v:Value} {prs:List PP} (h:PrAt w v prs):∃ ao cap,v=.slice ao prs.length cap:=by
 obtain ⟨ao,cap,e,_⟩:=h
 exact ⟨ao,cap,e⟩
def SDosAt (w:World) (v:Value) (ds:List DoIn):Prop :=
 ∃ ao cap,v=.slice ao ds.length cap∧∀ (i:Nat) (d:DoIn),ds[i]? = some d→∃ ob off pv,ao=some ⟨ob,off,none⟩∧ob < w.heap.size∧w.cell? ⟨ob,off+i * 5,none⟩=some (.int .u8 d.op)∧w.cell? ⟨ob,off+i * 5+1,none⟩=some (.string d.a) ∧
   w.cell? ⟨ob,off+i * 5+2,none⟩=some (.string d.b)∧w.cell? ⟨ob,off+i * 5+3,none⟩=some (.int .i64 d.wt)∧w.cell? ⟨ob,off+i * 5+4,none⟩=some pv∧PrAt w pv d.prs
theorem SDosAt.fr {w w':World} {v:Value} {ds:List DoIn} (h:SDosAt w v ds) (f:Fr0 w w'):SDosAt w' v ds:=by
 obtain ⟨ao,cap,rfl,hr⟩:=h
 refine ⟨ao,cap,rfl,fun i d hi => ?_⟩
 obtain ⟨ob,off,pv,rfl,h1,c0,c1,c2,c3,c4,h2⟩:=hr i d hi
 exact ⟨ob,off,pv,rfl,Nat.lt_of_lt_of_le h1 f.size,(f.cell (p:=⟨ob,off+i * 5,none⟩) h1 (fun q=>q)).trans c0,(f.cell (p:=⟨ob,off+i * 5+1,none⟩) h1 (fun q=>q)).trans c1,
   (f.cell (p:=⟨ob,off+i * 5+2,none⟩) h1 (fun q=>q)).trans c2,(f.cell (p:=⟨ob,off+i * 5+3,none⟩) h1 (fun q=>q)).trans c3,(f.cell (p:=⟨ob,off+i * 5+4,none⟩) h1 (fun q=>q)).trans c4,h2.fr f⟩
def BPost (q:Prop) (w:World) (e:Ending) (w':World):Prop:=∃ r,e=.returned (.bool r)∧(r=true→q)∧Fr0 w w'
theorem BPost.no {q:Prop} {w w':World} (f:Fr0 w w'):BPost q w (.returned (.bool false)) w':=⟨false,rfl,(fun h=>by cases h),f⟩
theorem BPost.yes {q:Prop} {w w':World} (h:q) (f:Fr0 w w'):BPost q w (.returned (.bool true)) w':=⟨true,rfl,fun _=>h,f⟩
theorem zz4 (w:World) (a b:ByteArray):Calls Tryz.prog 54 #[.agg #[.string a,.string b]] w fun e w'=>∃ r,e=.returned (.bool r)∧Fr0 w w':=by
 go_enter Tryz.func54,Tryz.ntmps54
 go_wp2
 all_goals go_ret
 all_goals exact ⟨_,rfl,by ((repeat' with_reducible first|assumption|exact frR|apply frD|apply frN|apply frA|apply frM|apply frC);all_goals (simp;try omega))⟩
theorem zz3 (w:World) (v:Value) (prs:List PP) (h:PrAt w v prs):Calls Tryz.prog 37 #[v] w fun e w'=>BPost (prs.length≤2147483647) w e w':=by
 have HP:=Lib.hid h
 obtain ⟨ao,cap,rfl, -⟩:=h
 go_enter Tryz.func37,Tryz.ntmps37
 by_cases hbig:2147483647 < prs.length
 · have hb:(2147483647:Int) < (prs.length:Int):=by omega
   go_wp2
   go_ret
   exact BPost.no (Fr.refl _ _)
 · have hb:(prs.length:Int)≤2147483647:=by omega
   go_wp2_with fail
   go_loopg [10] prs.length (fun k c wr=>∃ i:Nat,k+i=prs.length∧c=.int .i64 (i:Nat)∧Fr0 w wr)
   case atStart=>exact ⟨0,rfl,rfl,Fr.refl _ _⟩
   case round =>
     obtain ⟨i,hk,rfl,f⟩:=hrel
     have A:=hid2 hk f
     clear hk f
     by_cases hi:i < prs.length
     · have hg:=List.getElem?_eq_getElem hi
       obtain ⟨ao',cap',e,hr⟩:=HP.out.fr A.out.2
       cases e
       obtain ⟨ob,off,rfl,hl,c0,c1⟩:=hr i _ hg
       generalize prs[i]=p at c0 c1
       clear hg hr
       go_wp2_with fail
       refine (zz4 _ p.1 p.2).mono ?_
       rintro e w2 ⟨r,rfl,f2⟩
       have F2:=Lib.hid f2
       clear f2
       cases r with
       | true =>
         go_wp2_with fail
         go_roundg (gk - 1)
         case measure=>have:=A.out.1;omega
         case rel=>exact ⟨i+1,by have:=A.out.1;omega,by simp,(A.out.2.alloc _).trans0 F2.out⟩
       | false =>
         go_wp2_with fail
         go_ret
         exact BPost.no ((A.out.2.alloc _).trans0 F2.out)
     · have hi':i=prs.length:=by have:=A.out.1;omega
       subst hi'
       go_wp2_with fail
       go_ret
       exact BPost.yes (by omega) A.out.2
theorem zz2 (w:World) (d:DoIn) (v:Value) (h:PrAt w v d.prs):Calls Tryz.prog 41 #[.agg #[.int .u8 d.op,.string d.a,.string d.b,.int .i64 d.wt,v]] w fun e w'=>BPost (d.prs.length≤2147483647) w e w':=by
 have HP:=Lib.hid h
 obtain ⟨ao,cap,rfl⟩:=h.form
 go_enter Tryz.func41,Tryz.ntmps41
 by_cases ha:2147483647 < d.a.size
 · have ha':(2147483647:Int) < (d.a.size:Int):=by omega
   go_wp2
   go_ret
   exact BPost.no (by ((repeat' with_reducible first|assumption|exact frR|apply frD|apply frN|apply frA|apply frM|apply frC);all_goals (simp;try omega)))
 · have ha':(d.a.size:Int)≤2147483647:=by omega
   by_cases hb:2147483647 < d.b.size
   · have hb':(2147483647:Int) < (d.b.size:Int):=by omega
     go_wp2
     go_ret
     exact BPost.no (by ((repeat' with_reducible first|assumption|exact frR|apply frD|apply frN|apply frA|apply frM|apply frC);all_goals (simp;try omega)))
   · have hb':(d.b.size:Int)≤2147483647:=by omega
     go_wp2_with fail
     refine (zz3 _ _ d.prs (HP.out.fr ((Fr.refl (fun _=>False) w).alloc _))).mono ?_
     rintro e w2 ⟨r,rfl,hr,f2⟩
     have F1:=hid2 hr f2
     clear hr f2
     cases r with
     | true =>
       have F2:=hid2 (F1.out.1 rfl) F1.out.2
       go_wp2_with fail
       go_ret
       exact BPost.yes F2.out.1 ((((Fr.refl (fun _=>False) w).alloc _)).trans0 F2.out.2)
     | false =>
       go_wp2_with fail
       go_ret
       exact BPost.no ((((Fr.refl (fun _=>False) w).alloc _)).trans0 F1.out.2)
theorem zz1 (w:World) (v:Value) (ds:List DoIn) (h:SDosAt w v ds):Calls Tryz.prog 24 #[v] w fun e w'=>BPost (ds.length≤2147483647∧∀ d∈ds,d.prs.length≤2147483647) w e w':=by
 have HP:=Lib.hid h
 obtain ⟨ao,cap,rfl, -⟩:=h
 go_enter Tryz.func24,Tryz.ntmps24
 by_cases hbig:2147483647 < ds.length
 · have hb:(2147483647:Int) < (ds.length:Int):=by omega
   go_wp2
   go_ret
   exact BPost.no (Fr.refl _ _)
 · have hb:(ds.length:Int)≤2147483647:=by omega
   go_wp2_with fail
   go_loopg [10] ds.length (fun k c wr=>∃ i:Nat,k+i=ds.length∧c=.int .i64 (i:Nat)∧(∀ d∈ds.take i,d.prs.length≤2147483647)∧Fr0 w wr)
   case atStart=>exact ⟨0,rfl,rfl,fun d hd=>by simp at hd,Fr.refl _ _⟩
   case round =>
     obtain ⟨i,hk,rfl,ht,f⟩:=hrel
     have A:=hid3 hk ht f
     clear hk ht f
     by_cases hi:i < ds.length
     · have hg:=List.getElem?_eq_getElem hi
       obtain ⟨ao',cap',e,hr⟩:=HP.out.fr A.out.2.2
       cases e
       obtain ⟨ob,off,pv,rfl,hl,c0,c1,c2,c3,c4,hpv⟩:=hr i _ hg
       have htk:ds.take (i+1)=ds.take i ++ [ds[i]]:=List.take_succ_eq_append_getElem hi
       generalize ds[i]=d at c0 c1 c2 c3 c4 hpv htk
       have PV:=hid2 hpv htk
       obtain ⟨pa,pc,rfl⟩:=hpv.form
       clear hg hr hpv htk
       go_wp2_with fail
       refine (zz2 _ d _ (PV.out.1.fr ((Fr.refl (fun _=>False) wr).alloc _))).mono ?_
       rintro e w2 ⟨r,rfl,hr2,f2⟩
       have F1:=hid2 hr2 f2
       clear hr2 f2
       cases r with
       | true =>
         have F2:=hid2 (F1.out.1 rfl) F1.out.2
         go_wp2_with fail
         go_roundg (gk - 1)
         case measure=>have:=A.out.1;omega
         case rel =>
           refine ⟨i+1,by have:=A.out.1;omega,by simp,fun x hx => ?_,(A.out.2.2.alloc _).trans0 F2.out.2⟩
           rw [PV.out.2,List.mem_append,List.mem_singleton] at hx
           rcases hx with q|rfl
           · exact A.out.2.1 x q
           · exact F2.out.1
       | false =>
         go_wp2_with fail
         go_ret
         exact BPost.no ((A.out.2.2.alloc _).trans0 F1.out.2)
     · have hi':i=ds.length:=by have:=A.out.1;omega
       subst hi'
       go_wp2_with fail
       go_ret
       exact BPost.yes ⟨by omega,fun d hd=>A.out.2.1 d (by rw [List.take_length];exact hd)⟩ A.out.2.2
structure RightD (dir:Bool) (d:DoIn):Prop where
 op:d.op≤10
 a:d.a.size≤12
 b:d.b.size≤12
 prs:d.prs.length≤4
 lo : -1073741824≤d.wt
 hi:d.wt≤1073741824
 loop:dir=false→d.a=d.b→¬ (2≤d.op∧d.op≤4)
 small:∀ p∈d.prs,p.1.size≤8∧p.2.size≤12
theorem dright_true (w:World) (v:Value) (ds:List DoIn) (h:SDosAt w v ds) (hn:ds.length≤2147483647) (hp:∀ d∈ds,d.prs.length≤2147483647) (most:Nat) :
   Calls Tryz.prog 18 #[v,(.bool true),.int .i64 most] w fun e w'=>BPost ((∀ d∈ds,RightD true d)∧ds.length≤most) w e w':=by
 have HP:=Lib.hid h
 obtain ⟨ao,cap,rfl, -⟩:=h
 have HS:=Lib.hid hp
 clear hp
 go_enter Tryz.func18,Tryz.ntmps18
 have hb:(ds.length:Int)≤2147483647:=by omega
 go_wp2_with fail
 go_loopg [13] ds.length (fun k c wr=>∃ i:Nat,k+i=ds.length∧c=.int .i64 (i:Nat)∧(∀ d∈ds.take i,RightD true d)∧Fr0 w wr)
 case atStart=>exact ⟨0,rfl,rfl,fun d hd=>by simp at hd,Fr.refl _ _⟩
 case round =>
   obtain ⟨i,hk,rfl,ht,f⟩:=hrel
   have A:=hid3 hk ht f
   clear hk ht f
   by_cases hi:i < ds.length
   · have hg:=List.getElem?_eq_getElem hi
     obtain ⟨ao',cap',e,hr⟩:=HP.out.fr A.out.2.2
     cases e
     obtain ⟨ob,off,pv,rfl,hl,c0,c1,c2,c3,c4,hpv⟩:=hr i _ hg
     have htk:ds.take (i+1)=ds.take i ++ [ds[i]]:=List.take_succ_eq_append_getElem hi
     have hmem:=List.getElem_mem hi
     generalize ds[i]=d at c0 c1 c2 c3 c4 hpv htk hmem
     have PV:=hid3 hpv htk hmem
     obtain ⟨pa,pc,rfl⟩:=hpv.form
     clear hg hr hpv htk hmem
     go_wp2_with fail
     all_goals first
       | (go_ret;exact BPost.no (A.out.2.2.alloc _))
       | skip
     all_goals
       have HD:=Lib.hid (show d.op≤10∧d.a.size≤12∧d.b.size≤12∧d.prs.length≤4∧-1073741824≤d.wt∧d.wt≤1073741824∧((true:Bool)=false→d.a=d.b→¬ (2≤d.op∧d.op≤4)) from
         ⟨by omega,by omega,by omega,by omega,by omega,by omega,by first|(intro h1 _;exact absurd h1 (by decide))|(intro _ h2;exact absurd (congrArg ByteArray.toList h2) (show ¬ d.a.toList=d.b.toList by assumption))|(intro _ _ hh;have z1:=hh.1;have z2:=hh.2;omega)⟩)
       have PW:=Lib.hid (show PrAt (wr.alloc (.cells #[.int .u8 d.op,.string d.a,.string d.b,.int .i64 d.wt,.slice pa d.prs.length pc] 28)) (.slice pa d.prs.length pc) d.prs from PV.out.1.fr ((Fr.refl (fun _=>False) wr).alloc _))
       have AW:=Lib.hid (show Fr0 w (wr.alloc (.cells #[.int .u8 d.op,.string d.a,.string d.b,.int .i64 d.wt,.slice pa d.prs.length pc] 28)) from A.out.2.2.alloc _)
       go_loopg [72] d.prs.length (fun k c w5=>∃ j:Nat,k+j=d.prs.length∧c=.int .i64 (j:Nat)∧(∀ p∈d.prs.take j,p.1.size≤8∧p.2.size≤12)∧Fr0 (wr.alloc (.cells #[.int .u8 d.op,.string d.a,.string d.b,.int .i64 d.wt,.slice pa d.prs.length pc] 28)) w5)
       case atStart=>exact ⟨0,rfl,rfl,fun p hp=>by simp at hp,Fr.refl _ _⟩
       case round =>
         obtain ⟨j,hk,rfl,ht,f⟩:=hrel
         have C:=hid3 hk ht f
         clear hk ht f
         by_cases hj:j < d.prs.length
         · have hg:=List.getElem?_eq_getElem hj
           obtain ⟨ao3,cap3,e3,hr3⟩:=PW.out.fr C.out.2.2
           cases e3
           obtain ⟨ob2,off2,rfl,hl2,e0,e1⟩:=hr3 j _ hg
           have htk2:d.prs.take (j+1)=d.prs.take j ++ [d.prs[j]]:=List.take_succ_eq_append_getElem hj
           generalize d.prs[j]=p at e0 e1 htk2
           have TK:=Lib.hid htk2
           clear hg hr3 htk2
           go_wp2_with fail
           all_goals first
             | (go_ret;exact BPost.no ((AW.out.trans0 C.out.2.2).alloc _))
             | skip
           have PP8:=Lib.hid (show p.1.size≤8∧p.2.size≤12 from ⟨by omega,by omega⟩)
           go_roundg (d.prs.length - j - 1)
           case measure=>have:=C.out.1;omega
           case rel =>
             refine ⟨j+1,by have:=C.out.1;omega,by simp,fun x hx => ?_,C.out.2.2.alloc _⟩
             rw [TK.out,List.mem_append,List.mem_singleton] at hx
             rcases hx with q|rfl
             · exact C.out.2.1 x q
             · exact PP8.out
         · have hj':j=d.prs.length:=by have:=C.out.1;omega
           subst hj'
           go_wp2_with fail
           go_roundg (ds.length - i - 1)
           case measure=>have:=A.out.1;omega
           case rel =>
             refine ⟨i+1,by have:=A.out.1;omega,by simp,fun x hx => ?_,AW.out.trans0 C.out.2.2⟩
             rw [PV.out.2.1,List.mem_append,List.mem_singleton] at hx
             rcases hx with q|rfl
             · exact A.out.2.1 x q
             · exact ⟨HD.out.1,HD.out.2.1,HD.out.2.2.1,HD.out.2.2.2.1,HD.out.2.2.2.2.1,HD.out.2.2.2.2.2.1,fun hq=>HD.out.2.2.2.2.2.2 (by first|trivial|exact hq|(cases hq)),fun p hp=>C.out.2.1 p (by rw [List.take_length];exact hp)⟩
   · have hi':i=ds.length:=by have:=A.out.1;omega
     subst hi'
     by_cases hq:ds.length≤most
     · have hq':(ds.length:Int)≤(most:Int):=by omega
       go_wp2_with fail
       go_ret
       exact ⟨_,rfl,fun _=>⟨fun d hd=>A.out.2.1 d (by rw [List.take_length];exact hd),hq⟩,A.out.2.2⟩
     · have hq':(most:Int) < (ds.length:Int):=by omega
       go_wp2_with fail
       go_ret
       exact ⟨_,rfl,(fun q=>by simp at q),A.out.2.2⟩
theorem dright_false (w:World) (v:Value) (ds:List DoIn) (h:SDosAt w v ds) (hn:ds.length≤2147483647) (hp:∀ d∈ds,d.prs.length≤2147483647) (most:Nat) :
   Calls Tryz.prog 18 #[v,(.bool false),.int .i64 most] w fun e w'=>BPost ((∀ d∈ds,RightD false d)∧ds.length≤most) w e w':=by
 have HP:=Lib.hid h
 obtain ⟨ao,cap,rfl, -⟩:=h
 have HS:=Lib.hid hp
 clear hp
 go_enter Tryz.func18,Tryz.ntmps18
 have hb:(ds.length:Int)≤2147483647:=by omega
 go_wp2_with fail
 go_loopg [13] ds.length (fun k c wr=>∃ i:Nat,k+i=ds.length∧c=.int .i64 (i:Nat)∧(∀ d∈ds.take i,RightD false d)∧Fr0 w wr)
 case atStart=>exact ⟨0,rfl,rfl,fun d hd=>by simp at hd,Fr.refl _ _⟩
 case round =>
   obtain ⟨i,hk,rfl,ht,f⟩:=hrel
   have A:=hid3 hk ht f
   clear hk ht f
   by_cases hi:i < ds.length
   · have hg:=List.getElem?_eq_getElem hi
     obtain ⟨ao',cap',e,hr⟩:=HP.out.fr A.out.2.2
     cases e
     obtain ⟨ob,off,pv,rfl,hl,c0,c1,c2,c3,c4,hpv⟩:=hr i _ hg
     have htk:ds.take (i+1)=ds.take i ++ [ds[i]]:=List.take_succ_eq_append_getElem hi
     have hmem:=List.getElem_mem hi
     generalize ds[i]=d at c0 c1 c2 c3 c4 hpv htk hmem
     have PV:=hid3 hpv htk hmem
     obtain ⟨pa,pc,rfl⟩:=hpv.form
     clear hg hr hpv htk hmem
     go_wp2_with fail
     all_goals first
       | (go_ret;exact BPost.no (A.out.2.2.alloc _))
       | skip
     all_goals
       have HD:=Lib.hid (show d.op≤10∧d.a.size≤12∧d.b.size≤12∧d.prs.length≤4∧-1073741824≤d.wt∧d.wt≤1073741824∧((false:Bool)=false→d.a=d.b→¬ (2≤d.op∧d.op≤4)) from
         ⟨by omega,by omega,by omega,by omega,by omega,by omega,by first|(intro h1 _;exact absurd h1 (by decide))|(intro _ h2;exact absurd (congrArg ByteArray.toList h2) (show ¬ d.a.toList=d.b.toList by assumption))|(intro _ _ hh;have z1:=hh.1;have z2:=hh.2;omega)⟩)
       have PW:=Lib.hid (show PrAt (wr.alloc (.cells #[.int .u8 d.op,.string d.a,.string d.b,.int .i64 d.wt,.slice pa d.prs.length pc] 28)) (.slice pa d.prs.length pc) d.prs from PV.out.1.fr ((Fr.refl (fun _=>False) wr).alloc _))
       have AW:=Lib.hid (show Fr0 w (wr.alloc (.cells #[.int .u8 d.op,.string d.a,.string d.b,.int .i64 d.wt,.slice pa d.prs.length pc] 28)) from A.out.2.2.alloc _)
       go_loopg [72] d.prs.length (fun k c w5=>∃ j:Nat,k+j=d.prs.length∧c=.int .i64 (j:Nat)∧(∀ p∈d.prs.take j,p.1.size≤8∧p.2.size≤12)∧Fr0 (wr.alloc (.cells #[.int .u8 d.op,.string d.a,.string d.b,.int .i64 d.wt,.slice pa d.prs.length pc] 28)) w5)
       case atStart=>exact ⟨0,rfl,rfl,fun p hp=>by simp at hp,Fr.refl _ _⟩
       case round =>
         obtain ⟨j,hk,rfl,ht,f⟩:=hrel
         have C:=hid3 hk ht f
         clear hk ht f
         by_cases hj:j < d.prs.length
         · have hg:=List.getElem?_eq_getElem hj
           obtain ⟨ao3,cap3,e3,hr3⟩:=PW.out.fr C.out.2.2
           cases e3
           obtain ⟨ob2,off2,rfl,hl2,e0,e1⟩:=hr3 j _ hg
           have htk2:d.prs.take (j+1)=d.prs.take j ++ [d.prs[j]]:=List.take_succ_eq_append_getElem hj
           generalize d.prs[j]=p at e0 e1 htk2
           have TK:=Lib.hid htk2
           clear hg hr3 htk2
           go_wp2_with fail
           all_goals first
             | (go_ret;exact BPost.no ((AW.out.trans0 C.out.2.2).alloc _))
             | skip
           have PP8:=Lib.hid (show p.1.size≤8∧p.2.size≤12 from ⟨by omega,by omega⟩)
           go_roundg (d.prs.length - j - 1)
           case measure=>have:=C.out.1;omega
           case rel =>
             refine ⟨j+1,by have:=C.out.1;omega,by simp,fun x hx => ?_,C.out.2.2.alloc _⟩
             rw [TK.out,List.mem_append,List.mem_singleton] at hx
             rcases hx with q|rfl
             · exact C.out.2.1 x q
             · exact PP8.out
         · have hj':j=d.prs.length:=by have:=C.out.1;omega
           subst hj'
           go_wp2_with fail
           go_roundg (ds.length - i - 1)
           case measure=>have:=A.out.1;omega
           case rel =>
             refine ⟨i+1,by have:=A.out.1;omega,by simp,fun x hx => ?_,AW.out.trans0 C.out.2.2⟩
             rw [PV.out.2.1,List.mem_append,List.mem_singleton] at hx
             rcases hx with q|rfl
             · exact A.out.2.1 x q
             · exact ⟨HD.out.1,HD.out.2.1,HD.out.2.2.1,HD.out.2.2.2.1,HD.out.2.2.2.2.1,HD.out.2.2.2.2.2.1,fun hq=>HD.out.2.2.2.2.2.2 (by first|trivial|exact hq|(cases hq)),fun p hp=>C.out.2.1 p (by rw [List.take_length];exact hp)⟩
   · have hi':i=ds.length:=by have:=A.out.1;omega
     subst hi'
     by_cases hq:ds.length≤most
     · have hq':(ds.length:Int)≤(most:Int):=by omega
       go_wp2_with fail
       go_ret
       exact ⟨_,rfl,fun _=>⟨fun d hd=>A.out.2.1 d (by rw [List.take_length];exact hd),hq⟩,A.out.2.2⟩
     · have hq':(most:Int) < (ds.length:Int):=by omega
       go_wp2_with fail
       go_ret
       exact ⟨_,rfl,(fun q=>by simp at q),A.out.2.2⟩
theorem dright (w:World) (v:Value) (ds:List DoIn) (h:SDosAt w v ds) (hn:ds.length≤2147483647) (hp:∀ d∈ds,d.prs.length≤2147483647) (dir:Bool) (most:Nat) :
   Calls Tryz.prog 18 #[v,.bool dir,.int .i64 most] w fun e w'=>BPost ((∀ d∈ds,RightD dir d)∧ds.length≤most) w e w':=by
 cases dir
 · exact dright_false w v ds h hn hp most
 · exact dright_true w v ds h hn hp most
theorem info30:(Tryz.prog.info? 30).map (fun i=>(i.zero,i.size,i.bytes))=some (some (.agg #[.string ⟨#[]⟩,.string ⟨#[]⟩]),2,32):=by kernel_rfl
theorem PrAt.of_reads {w:World} {v:Value} {prs:List PP} (h:Reads w v prs.length (encL encP prs)):PrAt w v prs:=by
 obtain ⟨ao,cap,rfl,_,hr⟩:=id h
 refine ⟨ao,cap,rfl,fun i p hi => ?_⟩
 have e:=List.getElem?_eq_some_iff.1 hi
 have x0:=encL_at encP 2 (fun _=>rfl) prs i 0 e.1 (by decide)
 have x1:=encL_at encP 2 (fun _=>rfl) prs i 1 e.1 (by decide)
 have ei:prs[i]! = p:=by rw [getElem!_pos prs i e.1];exact e.2
 rw [ei] at x0 x1
 obtain ⟨ob,rfl,h1,h2⟩:=hr (i * 2+0) _ x0
 obtain ⟨ob',e',_,h3⟩:=hr (i * 2+1) _ x1
 cases e'
 refine ⟨ob,0,rfl,h1,?_,?_⟩
 · rw [Nat.zero_add];exact h2
 · rw [Nat.zero_add];exact h3
theorem PairsIn.at_ {w:World} {p:Nat→Prop} {v:Value} {prs:List PP} (h:PairsIn w p v prs):PrAt w v prs:=PrAt.of_reads h.1
theorem PairsIn.ok {w:World} {p:Nat→Prop} {ao:Option Addr} {cap:Nat} {prs:List PP} (h:PairsIn w p (.slice ao prs.length cap) prs) (hs:prs.length≤100000):PrOk w ao prs.length cap prs where
 len:=rfl
 cap:=by
   obtain ⟨ao',cap',e,hc,_⟩:=h.1
   cases e
   exact hc
 small:=hs
 at_:=fun i p hi=>by
   obtain ⟨ao',cap',e,_,hr⟩:=h.1
   cases e
   have e:=List.getElem?_eq_some_iff.1 hi
   have x0:=encL_at encP 2 (fun _=>rfl) prs i 0 e.1 (by decide)
   have x1:=encL_at encP 2 (fun _=>rfl) prs i 1 e.1 (by decide)
   have ei:prs[i]! = p:=by rw [getElem!_pos prs i e.1];exact e.2
   rw [ei] at x0 x1
   obtain ⟨ob,rfl,h1,h2⟩:=hr (i * 2+0) _ x0
   obtain ⟨ob',e',_,h3⟩:=hr (i * 2+1) _ x1
   cases e'
   exact ⟨ob,rfl,h1,h2,h3⟩
theorem pto (w:World) (v:Value) (prs:List PP) (h:PrAt w v prs) (hs:prs.length≤100000) :
   Calls Tryz.prog 40 #[v] w fun e w'=>∃ ao cap,e=.returned (.slice ao prs.length cap)∧PairsAt w' w.heap.size (.slice ao prs.length cap) prs∧Fr0 w w':=by
 have HP:=Lib.hid h
 obtain ⟨ao,cap,rfl, -⟩:=h
 go_enter Tryz.func40,Tryz.ntmps40
 go_wp2_with fail
 go_loopg [3,8] prs.length (fun k v c wr=>∃ i:Nat,k+i=prs.length∧c=.int .i64 (i:Nat)∧wr.ownsRow w.heap.size 68 2 v i (encL encP (prs.take i))∧Fr0 w wr)
 case atStart=>exact ⟨0,rfl,rfl,World.ownsRow_nil _ _ _ _,Fr.refl _ _⟩
 case round =>
   obtain ⟨i,hk,rfl,ho,f⟩:=hrel
   have A:=hid3 hk ho f
   clear hk ho f
   by_cases hi:i < prs.length
   · have hg:=List.getElem?_eq_getElem hi
     obtain ⟨ao',cap',e,hr⟩:=HP.out.fr A.out.2.2
     cases e
     obtain ⟨ob,off,rfl,hl,c0,c1⟩:=hr i _ hg
     have htk:prs.take (i+1)=prs.take i ++ [prs[i]]:=List.take_succ_eq_append_getElem hi
     generalize prs[i]=p at c0 c1 htk
     have TK:=Lib.hid htk
     have SZ:=Lib.hid (A.out.2.2.size)
     clear hg hr htk
     go_wp2_with (first
       | (at_builtin;go_loud (refine wl_app1 (w:=wr.alloc (.cells #[.string p.1,.string p.2] 30)) 40 rfl (.tmp 12) (.tmp 14) rfl 68 _ 2 32 Tryz.underlying40 info68 rfl (by decide) (by decide) w.heap.size u3 i (encL encP (prs.take i)) rfl (A.out.2.1.alloc _) #[.string p.1,.string p.2] (wr.heap.size+1) rfl (by simp) rfl (by simp [Value.oneCell']) (by omega) (by have:=SZ.out;simp;omega) ?_)))
     intro v' w4 ho fg _
     obtain ⟨ao',cap',rfl,_,_⟩:=own_slice ho
     have W:=hid2 ho fg
     clear ho fg
     go_wp2_with fail
     go_roundg (gk - 1)
     case measure=>have:=A.out.1;omega
     case rel =>
       refine ⟨i+1,by have:=A.out.1;omega,by simp,?_,?_⟩
       · have e1:encL encP (prs.take (i+1))=encL encP (prs.take i) ++ [.string p.1,.string p.2]:=by
           rw [TK.out]
           simp [encL,encP]
         rw [e1]
         exact W.out.1
       · exact (A.out.2.2.alloc _).trans W.out.2 fun q hq=>.inr (A.out.2.1.lt q hq).1
   · have hi':i=prs.length:=by have:=A.out.1;omega
     subst hi'
     have R:=Lib.hid A.out.2.1
     obtain ⟨ao3,cap3,rfl,_,_⟩:=own_slice A.out.2.1
     go_wp2_with fail
     go_ret
     refine ⟨ao3,cap3,rfl,⟨?_,fun q hq => ?_⟩,A.out.2.2⟩
     · have:=own_slice R.out
       rw [List.take_length] at this
       exact this
     · exact R.out.lt q hq
theorem pof (w:World) (v:Value) (prs:List PP) (h:PrAt w v prs) (hs:prs.length≤100000) :
   Calls Tryz.prog 22 #[v] w fun e w'=>∃ ao cap,e=.returned (.slice ao prs.length cap)∧PairsAt w' w.heap.size (.slice ao prs.length cap) prs∧Fr0 w w':=by
 have HP:=Lib.hid h
 obtain ⟨ao,cap,rfl, -⟩:=h
 go_enter Tryz.func22,Tryz.ntmps22
 go_wp2_with fail
 go_loopg [3,8] prs.length (fun k v c wr=>∃ i:Nat,k+i=prs.length∧c=.int .i64 (i:Nat)∧wr.ownsRow w.heap.size 30 2 v i (encL encP (prs.take i))∧Fr0 w wr)
 case atStart=>exact ⟨0,rfl,rfl,World.ownsRow_nil _ _ _ _,Fr.refl _ _⟩
 case round =>
   obtain ⟨i,hk,rfl,ho,f⟩:=hrel
   have A:=hid3 hk ho f
   clear hk ho f
   by_cases hi:i < prs.length
   · have hg:=List.getElem?_eq_getElem hi
     obtain ⟨ao',cap',e,hr⟩:=HP.out.fr A.out.2.2
     cases e
     obtain ⟨ob,off,rfl,hl,c0,c1⟩:=hr i _ hg
     have htk:prs.take (i+1)=prs.take i ++ [prs[i]]:=List.take_succ_eq_append_getElem hi
     generalize prs[i]=p at c0 c1 htk
     have TK:=Lib.hid htk
     have SZ:=Lib.hid (A.out.2.2.size)
     clear hg hr htk
     go_wp2_with (first
       | (at_builtin;go_loud (refine wl_app1 (w:=wr.alloc (.cells #[.string p.1,.string p.2] 68)) 26 rfl (.tmp 12) (.tmp 14) rfl 30 _ 2 32 Tryz.underlying26 info30 rfl (by decide) (by decide) w.heap.size u3 i (encL encP (prs.take i)) rfl (A.out.2.1.alloc _) #[.string p.1,.string p.2] (wr.heap.size+1) rfl (by simp) rfl (by simp [Value.oneCell']) (by omega) (by have:=SZ.out;simp;omega) ?_)))
     intro v' w4 ho fg _
     obtain ⟨ao',cap',rfl,_,_⟩:=own_slice ho
     have W:=hid2 ho fg
     clear ho fg
     go_wp2_with fail
     go_roundg (gk - 1)
     case measure=>have:=A.out.1;omega
     case rel =>
       refine ⟨i+1,by have:=A.out.1;omega,by simp,?_,?_⟩
       · have e1:encL encP (prs.take (i+1))=encL encP (prs.take i) ++ [.string p.1,.string p.2]:=by
           rw [TK.out]
           simp [encL,encP]
         rw [e1]
         exact W.out.1
       · exact (A.out.2.2.alloc _).trans W.out.2 fun q hq=>.inr (A.out.2.1.lt q hq).1
   · have hi':i=prs.length:=by have:=A.out.1;omega
     subst hi'
     have R:=Lib.hid A.out.2.1
     obtain ⟨ao3,cap3,rfl,_,_⟩:=own_slice A.out.2.1
     go_wp2_with fail
     go_ret
     refine ⟨ao3,cap3,rfl,⟨?_,fun q hq => ?_⟩,A.out.2.2⟩
     · have:=own_slice R.out
       rw [List.take_length] at this
       exact this
     · exact R.out.lt q hq
theorem stood30:Tryz.prog.stoodInHeld 30=false:=by kernel_rfl
theorem guard30:Tryz.prog.eqGuardType Tryz.prog.depth 30=false:=by kernel_rfl
theorem eqPair (w:World) (a b c d:ByteArray):(Op.equalIn 10000 30 (.agg #[.string a,.string b]) (.agg #[.string c,.string d])).run Tryz.prog w=.ok ((a.toList == c.toList) && (b.toList == d.toList)) w:=by
 rw [run_equalIn_struct w 9999 30 _ _ (by kernel_rfl) stood30]
 simp [Program.fieldsOf,Tryz.underlying30,Op.eqFields,part]
 have h1:(Op.equalIn 9999 9 (.string a) (.string c)).run Tryz.prog w=.ok (a.toList == c.toList) w:=run_equalIn_string w 9998 9 a c Tryz.underlying9
 have h2:(Op.equalIn 9999 9 (.string b) (.string d)).run Tryz.prog w=.ok (b.toList == d.toList) w:=run_equalIn_string w 9998 9 b d Tryz.underlying9
 rw [h1]
 simp only [Result.andThen_ok]
 cases a.toList == c.toList
 · simp
 · simp only [h2,Result.andThen_ok]
   cases b.toList == d.toList <;> simp
theorem samep (w:World) (v v':Value) (xs ys:List PP) (hx:PrAt w v xs) (hy:PrAt w v' ys) (hs:xs.length≤100000) :
   Calls Tryz.prog 21 #[v,v'] w fun e w'=>∃ r,e=.returned (.bool r)∧(r=true↔xs=ys)∧Fr0 w w':=by
 have HX:=Lib.hid hx
 have HY:=Lib.hid hy
 obtain ⟨ao,cap,rfl, -⟩:=hx
 obtain ⟨bo,cap',rfl, -⟩:=hy
 by_cases hl:xs.length=ys.length
 · rw [hl]
   go_enter Tryz.func21,Tryz.ntmps21
   go_wp2_with fail
   go_loopg [13] ys.length (fun k c wr=>∃ i:Nat,k+i=ys.length∧c=.int .i64 (i:Nat)∧xs.take i=ys.take i∧Fr0 w wr)
   case atStart=>exact ⟨0,rfl,rfl,rfl,Fr.refl _ _⟩
   case round =>
     obtain ⟨i,hk,rfl,ht,f⟩:=hrel
     have A:=hid3 hk ht f
     clear hk ht f
     by_cases hi:i < ys.length
     · have hi2:i < xs.length:=by omega
       have hg:=List.getElem?_eq_getElem hi
       have hg2:=List.getElem?_eq_getElem hi2
       obtain ⟨ao',cp,e,hr⟩:=HX.out.fr A.out.2.2
       rw [hl] at e
       cases e
       obtain ⟨ob,off,rfl,hl1,c0,c1⟩:=hr i _ hg2
       obtain ⟨bo',cp',e,hr'⟩:=HY.out.fr A.out.2.2
       cases e
       obtain ⟨ob',off',rfl,hl2,d0,d1⟩:=hr' i _ hg
       have htk:ys.take (i+1)=ys.take i ++ [ys[i]]:=List.take_succ_eq_append_getElem hi
       have htk2:xs.take (i+1)=xs.take i ++ [xs[i]]:=List.take_succ_eq_append_getElem hi2
       generalize xs[i]=p at c0 c1 htk2 hg2
       generalize ys[i]=q at d0 d1 htk hg
       have TK:=hid4 htk htk2 hg hg2
       clear hg hg2 hr hr' htk htk2
       have hg30:=guard30
       by_cases hpq:p=q
       · subst hpq
         have hq:=fun W=>eqPair W p.1 p.2 p.1 p.2
         go_wp2_with fail
         go_quiet (fail)
         go_wp2_with fail
         go_roundg (gk - 1)
         case measure=>have:=A.out.1;omega
         case rel=>exact ⟨i+1,by have:=A.out.1;omega,by simp,by rw [TK.out.1,TK.out.2.1,A.out.2.1],A.out.2.2.drewN _⟩
       · have hq:=fun W=>eqPair W p.1 p.2 q.1 q.2
         have hb:((p.1.toList == q.1.toList) && (p.2.toList == q.2.toList))=false:=by
           cases e1:(p.1.toList == q.1.toList) && (p.2.toList == q.2.toList) with
           | false=>rfl
           | true =>
             simp only [Bool.and_eq_true,beq_iff_eq] at e1
             exact absurd (Prod.ext (toList_inj e1.1) (toList_inj e1.2)) hpq
         rw [hb] at hq
         have HPQ:=Lib.hid hpq
         clear hpq hb
         go_wp2_with fail
         go_quiet (fail)
         go_wp2_with fail
         go_ret
         refine ⟨_,rfl,?_,A.out.2.2.drewN _⟩
         constructor
         · intro z;simp at z
         · intro e
           subst e
           have:=TK.out.2.2.1.symm.trans TK.out.2.2.2
           exact absurd (Option.some.inj this).symm HPQ.out
     · have hi':i=ys.length:=by have:=A.out.1;omega
       subst hi'
       go_wp2_with fail
       go_ret
       refine ⟨_,rfl,?_,A.out.2.2⟩
       have:=A.out.2.1
       rw [List.take_length,List.take_of_length_le (by omega)] at this
       simp [this]
 · have hl':¬ (xs.length:Int)=(ys.length:Int):=by omega
   go_enter Tryz.func21,Tryz.ntmps21
   go_wp2_with fail
   go_ret
   exact ⟨_,rfl,by simp;intro e;rw [e] at hl;exact hl rfl,Fr.refl _ _⟩
theorem kindr (w:World) (b0 b1 b2 b3 b4 b5:Bool) (hk:Nat):Calls Tryz.prog 25 #[.agg #[.bool b0,.bool b1,.bool b2,.bool b3,.bool b4,.bool b5,.int .u8 hk]] w fun e w'=>BPost (hk≤2∧(b5=true→b0=true)) w e w':=by
 by_cases h2:hk≤2
 · have h2':(hk:Int)≤2:=by omega
   cases b0 <;> cases b5
   rotate_left
   focus
     go_enter Tryz.func25,Tryz.ntmps25
     go_wp2
     go_ret
     exact BPost.no (by ((repeat' with_reducible first|assumption|exact frR|apply frD|apply frN|apply frA|apply frM|apply frC);all_goals (simp;try omega)))
   all_goals
     go_enter Tryz.func25,Tryz.ntmps25
     go_wp2
     go_ret
     exact BPost.yes ⟨h2,by decide⟩ (by ((repeat' with_reducible first|assumption|exact frR|apply frD|apply frN|apply frA|apply frM|apply frC);all_goals (simp;try omega)))
 · have h2':(2:Int) < (hk:Int):=by omega
   go_enter Tryz.func25,Tryz.ntmps25
   go_wp2
   go_ret
   exact BPost.no (by ((repeat' with_reducible first|assumption|exact frR|apply frD|apply frN|apply frA|apply frM|apply frC);all_goals (simp;try omega)))
theorem info50:(Tryz.prog.info? 50).map (fun i=>(i.zero,i.size,i.bytes))=some (some (.agg #[.int .u8 0,.string ⟨#[]⟩,.string ⟨#[]⟩,.int .i64 0,.slice none 0 0]),5,72):=by kernel_rfl
theorem fr_undrew2 {S:Nat→Prop} {w w':World} (h:Fr S w.drew w'):Fr S w w':=⟨h.os,h.tape,h.output,h.size,h.block⟩
structure DT (w:World) (ds:List DoIn) (i:Nat) (v:Value) (dvs:List (DoIn × Value)) (wr:World):Prop where
 fst:dvs.map (·.1)=ds.take i
 row:wr.ownsRow w.heap.size 50 5 v i (encL encDo dvs)
 prs:∀ p∈dvs, ∃ pa pc,p.2=.slice pa p.1.prs.length pc∧PairsIn wr (fun q=>w.heap.size≤q∧v.ownBlock≠some q) p.2 p.1.prs
 fr:Fr0 w wr
theorem DT.step {w wr wa w3 w4:World} {ds:List DoIn} {i:Nat} {v v':Value} {dvs:List (DoIn × Value)} {d:DoIn} {pa:Option Addr} {pc:Nat} (h:DT w ds i v dvs wr) (hd:ds[i]? = some d) (fa:Fr0 wr wa)
   (f3:Fr0 wa w3) (hp:PairsAt w3 wa.heap.size (.slice pa d.prs.length pc) d.prs) (ho:w4.ownsRow w.heap.size 50 5 v' (i+1) (encL encDo dvs ++ [.int .u8 d.op,.string d.a,.string d.b,.int .i64 d.wt,.slice pa d.prs.length pc]))
   (fg:Fr (fun k=>v.ownBlock=some k) w3 w4) (hat:v.ownBlock=v'.ownBlock∨∃ g,v'.ownBlock=some g∧w3.heap.size≤g):DT w ds (i+1) v' (dvs ++ [(d,.slice pa d.prs.length pc)]) w4:=by
 have hi:i < ds.length:=(List.getElem?_eq_some_iff.1 hd).1
 have he:ds[i]=d:=(List.getElem?_eq_some_iff.1 hd).2
 have htk:ds.take (i+1)=ds.take i ++ [d]:=by rw [List.take_succ_eq_append_getElem hi,he]
 have z1:=fa.size
 have z2:=f3.size
 have z3:=h.fr.size
 have hvl:∀ q,v.ownBlock=some q→w.heap.size≤q∧q < wr.heap.size:=fun q hq=>h.row.lt q hq
 refine ⟨by rw [List.map_append,h.fst,htk];rfl,?_,?_,((h.fr.trans0 fa).trans0 f3).trans fg fun q hq=>.inr (hvl q hq).1⟩
 · have e1:encL encDo (dvs ++ [(d,.slice pa d.prs.length pc)])=encL encDo dvs ++ [.int .u8 d.op,.string d.a,.string d.b,.int .i64 d.wt,.slice pa d.prs.length pc]:=by simp [encL,encDo]
   rw [e1]
   exact ho
 · intro p hpm
   rcases List.mem_append.1 hpm with q|q
   · obtain ⟨xa,xc,e,hx⟩:=h.prs p q
     refine ⟨xa,xc,e,?_⟩
     have hx1:PairsIn wr (fun q=>(w.heap.size≤q∧v'.ownBlock≠some q)∧v.ownBlock≠some q) p.2 p.1.prs:=hx.imp fun q hq hl=>⟨⟨hq.1,fun r=>by
       rcases hat with z|⟨g,z,zl⟩
       · exact hq.2 (z▸r)
       · rw [z] at r;have:=Option.some.inj r;omega⟩,hq.2⟩
     exact (((hx1.fr fa fun _ _ _ q=>q).fr f3 fun _ _ _ q=>q).fr fg fun q hq _ r=>hq.2 r).imp fun q hq _=>hq.1
   · simp only [List.mem_singleton] at q
     subst q
     refine ⟨pa,pc,rfl,?_⟩
     have h2:PairsIn w3 (fun q=>(w.heap.size≤q∧v'.ownBlock≠some q)∧wa.heap.size≤q) (.slice pa d.prs.length pc) d.prs:=PairsIn.imp hp fun q hq hl=>⟨⟨by omega,fun r=>by
       rcases hat with z|⟨g,z,zl⟩
       · have:=(hvl q (z▸r)).2;omega
       · rw [z] at r;have:=Option.some.inj r;omega⟩,hq⟩
     exact (h2.fr fg fun q hq _ r=>by have:=(hvl q r).2;have:=hq.2;omega).imp fun q hq _=>hq.1
theorem dto (w:World) (v:Value) (ds:List DoIn) (h:SDosAt w v ds) (hn:ds.length≤100000) (hp:∀ d∈ds,d.prs.length≤100000) :
   Calls Tryz.prog 20 #[v] w fun e w'=>∃ ao cap,e=.returned (.slice ao ds.length cap)∧DosAt w' ao ds.length cap ds∧Fr0 w w':=by
 have HP:=Lib.hid h
 have HS:=Lib.hid hp
 obtain ⟨ao,cap,rfl, -⟩:=h
 obtain ⟨i0,hi0,hz0,hz1,hz2⟩:=info_parts info50
 have I50:=hid4 hi0 hz0 hz1 hz2
 clear hp hi0 hz0 hz1 hz2
 go_enter Tryz.func20,Tryz.ntmps20
 go_wp2_with fail
 go_loopg [3,8] ds.length (fun k v c wr=>∃ (i:Nat) (dvs:List (DoIn × Value)),k+i=ds.length∧c=.int .i64 (i:Nat)∧DT w ds i v dvs wr)
 case atStart=>exact ⟨0,[],rfl,rfl,⟨rfl,World.ownsRow_nil _ _ _ _,fun p hp=>by simp at hp,Fr.refl _ _⟩⟩
 case round =>
   obtain ⟨i,dvs,hk,rfl,R⟩:=hrel
   have A:=hid2 hk R
   clear hk R
   by_cases hi:i < ds.length
   · have hg:=List.getElem?_eq_getElem hi
     obtain ⟨ao',cap',e,hr⟩:=HP.out.fr A.out.2.fr
     cases e
     obtain ⟨ob,off,pv,rfl,hl,c0,c1,c2,c3,c4,hpv⟩:=hr i _ hg
     have hmem:=List.getElem_mem hi
     generalize ds[i]=d at c0 c1 c2 c3 c4 hpv hg hmem
     have PV:=hid3 hpv hg (HS.out d hmem)
     obtain ⟨pa,pc,rfl⟩:=hpv.form
     clear hg hr hpv hmem
     go_wp2_with fail
     have BX:=Lib.hid (Cells.new wr #[.int .u8 d.op,.string d.a,.string d.b,.int .i64 d.wt,.slice pa d.prs.length pc] 28)
     have FA:=Lib.hid ((Fr.refl (fun _=>False) wr).alloc (.cells #[.int .u8 d.op,.string d.a,.string d.b,.int .i64 d.wt,.slice pa d.prs.length pc] 28))
     have SZ:=Lib.hid (show (wr.alloc (.cells #[.int .u8 d.op,.string d.a,.string d.b,.int .i64 d.wt,.slice pa d.prs.length pc] 28)).heap.size=wr.heap.size+1 from by simp)
     have SW:=Lib.hid A.out.2.fr.size
     clear c0 c1 c2 c3 c4
     go_region_held3 (fun w'=>w'.cell? ⟨wr.heap.size,0,none⟩=some (.int .u8 d.op)∧w'.cell? ⟨wr.heap.size,1,none⟩=some (.string d.a)∧w'.cell? ⟨wr.heap.size,2,none⟩=some (.string d.b)∧w'.cell? ⟨wr.heap.size,3,none⟩=some (.int .i64 d.wt)∧w'.cell? ⟨wr.heap.size,4,none⟩=some (.slice pa d.prs.length pc)) (go_keep)
       (first
         | (go_at_call 40;refine (pto _ _ d.prs ?_ PV.out.2.2).mono ?_;exact PV.out.1.fr FA.out.drew;rintro e w3 ⟨pa3,pc3,rfl,g1,g2⟩;have F3:=Lib.hid (fr_undrew2 g2);have Z:=Lib.hid g1;have BB:=Lib.hid (BX.out.fr F3.out (fun q=>q));have k0:=BB.out.cell 0 (.int .u8 d.op) rfl;have k1:=BB.out.cell 1 (.string d.a) rfl;have k2:=BB.out.cell 2 (.string d.b) rfl;have k3:=BB.out.cell 3 (.int .i64 d.wt) rfl;have k4:=BB.out.cell 4 (.slice pa d.prs.length pc) rfl;have kl:=BB.out.lt;clear g1 g2)
         | (refine step_append_lies _ (by rfl) _ _ _ (by rfl) w.heap.size 50 i0 _ 5 72 Tryz.underlying38 I50.out.1 I50.out.2.1 I50.out.2.2.1 I50.out.2.2.2 rfl (by omega) u3 i (encL encDo dvs) (by rfl) (ownsRow_fr (ownsRow_fr (ownsRow_fr A.out.2.row FA.out (fun _ _ q=>q)) F3.out (fun _ _ q=>q)) ((Fr.refl (fun _=>False) w3).alloc _) (fun _ _ q=>q))
             ⟨w3.heap.size,0,none⟩ 1 1 [.int .u8 d.op,.string d.a,.string d.b,.int .i64 d.wt,.slice pa3 d.prs.length pc3] (by rfl) (by rfl) (World.news_of_block (cs:=#[.int .u8 d.op,.string d.a,.string d.b,.int .i64 d.wt,.slice pa3 d.prs.length pc3]) (t:=50) (fr:=(0,0)) (heap_alloc_new w3 _)) (by simp [Value.oneCell'])
             (by omega) (by have:maxLen=9223372036854775807:=rfl;omega) (by omega) (by have:=SW.out;simp;omega) (w3.heap.size+1) (by simp) ?_
            intro g4 cap4 w4 ho4 hg4 hat4 hlt4
            have F4:=Lib.hid (((Fr.refl (fun k=>u3.ownBlock=some k) w3).alloc (.cells #[.int .u8 d.op,.string d.a,.string d.b,.int .i64 d.wt,.slice pa3 d.prs.length pc3] 50)).grown hg4 (fun _ q=>.inl q))
            have B4:=Lib.hid (BB.out.fr F4.out (fun q=>by have:=(A.out.2.row.lt _ q).2;omega))
            have O4:=hid2 ho4 hat4
            have j0:=B4.out.cell 0 (.int .u8 d.op) rfl
            have j1:=B4.out.cell 1 (.string d.a) rfl
            have j2:=B4.out.cell 2 (.string d.b) rfl
            have j3:=B4.out.cell 3 (.int .i64 d.wt) rfl
            have j4:=B4.out.cell 4 (.slice pa d.prs.length pc) rfl
            clear ho4 hg4 hat4))
     go_wp2_with fail
     go_roundg (gk - 1)
     case measure=>have:=A.out.1;omega
     case rel =>
       exact ⟨i+1,_,by have:=A.out.1;omega,by simp,DT.step A.out.2 PV.out.2.1 FA.out F3.out Z.out O4.out.1 F4.out (by
         rcases O4.out.2 with q|q
         · exact .inl q
         · exact .inr ⟨g4,rfl,by omega⟩)⟩
   · have hi':i=ds.length:=by have:=A.out.1;omega
     subst hi'
     have R:=A.out.2
     obtain ⟨ao3,cap3,rfl,hc3,_⟩:=own_slice R.row
     have RR:=hid2 R hc3
     clear R hc3
     go_wp2_with fail
     go_ret
     have R:=RR.out.1
     have hl:dvs.length=ds.length:=by have:=congrArg List.length R.fst;simpa using this
     have D:=DosAt.of_reads (dvs:=dvs) (own_slice R.row) hl.symm hn fun p hp=>by
       obtain ⟨xa,xc,e,hx⟩:=R.prs p hp
       rw [e] at hx
       refine ⟨xa,_,xc,e,PairsIn.ok hx ?_⟩
       have:p.1∈ds:=by
         have h1:p.1∈dvs.map (·.1):=List.mem_map.2 ⟨p,hp,rfl⟩
         rw [R.fst] at h1
         exact List.mem_of_mem_take h1
       exact HS.out p.1 this
     rw [R.fst,List.take_length] at D
     exact ⟨ao3,cap3,rfl,D,R.fr⟩
end Go.Proofs.YtbafaadmlpamiaaGreatDoor
