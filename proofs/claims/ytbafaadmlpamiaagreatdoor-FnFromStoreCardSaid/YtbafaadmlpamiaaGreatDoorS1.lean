import Derived.Test.YtbafaadmlpamiaaGreatDoorM1
import Derived.Test.YtbafaadmlpamiaaGreatDoorT5
import Derived.Test.YtbafaadmlpamiaaGreatDoorT1
set_option maxRecDepth 100000
set_option maxHeartbeats 1000000
namespace Go.Proofs.YtbafaadmlpamiaaGreatDoor
open Go Go.Hy Go.RowKit
theorem plc_none:plc none = -1:=rfl
theorem plc_some (i:Nat):plc (some i)=(i:Int):=rfl
def encPt (p:SP × Value):List Value:=[.string p.1.h,.string p.1.v,.int .i64 p.1.wt,p.2]
def PtsIn (w:World) (p:Nat→Prop) (v:Value) (ps:List SP):Prop :=
 ∃ vs:List Value,vs.length=ps.length∧Reads w v ps.length (encL encPt (ps.zip vs))∧(∀ q,v.ownBlock=some q→p q∧q < w.heap.size)∧∀ (i:Nat) (l:SP) (u:Value),ps[i]? = some l→vs[i]? = some u→PairsIn w p u l.es
theorem PtsIn.fr {w w':World} {p:Nat→Prop} {v:Value} {ps:List SP} {S:Nat→Prop} (h:PtsIn w p v ps) (f:Fr S w w') (hS:∀ q,p q→q < w.heap.size→¬ S q):PtsIn w' p v ps:=by
 obtain ⟨vs,h1,h2,h3,h4⟩:=h
 exact ⟨vs,h1,h2.fr f fun q hq _=>hS q (h3 q hq).1 (h3 q hq).2,fun q hq=>⟨(h3 q hq).1,Nat.lt_of_lt_of_le (h3 q hq).2 f.size⟩,fun i l u hl hu=>(h4 i l u hl hu).fr f hS⟩
theorem PtsIn.nil (w:World) (p:Nat→Prop):PtsIn w p (.slice none 0 0) []:=⟨[],rfl,Reads.nil w,(fun q hq=>by cases hq),(fun i l u hl=>by simp at hl)⟩
theorem PtsIn.form {w:World} {p:Nat→Prop} {v:Value} {ps:List SP} (h:PtsIn w p v ps):∃ ao cap,v=.slice ao ps.length cap∧ps.length≤cap:=by
 obtain ⟨vs,h1,⟨ao,cap,e,hc,_⟩,_⟩:=h
 exact ⟨ao,cap,e,hc⟩
theorem PtsIn.at_ {w:World} {p:Nat→Prop} {v:Value} {ps:List SP} (h:PtsIn w p v ps) {i:Nat} {x:SP} (hi:ps[i]? = some x) :
   ∃ ob cap pv,v=.slice (some ⟨ob,0,none⟩) ps.length cap∧ob < w.heap.size∧p ob∧w.cell? ⟨ob,i * 4,none⟩=some (.string x.h)∧w.cell? ⟨ob,i * 4+1,none⟩=some (.string x.v) ∧
     w.cell? ⟨ob,i * 4+2,none⟩=some (.int .i64 x.wt)∧w.cell? ⟨ob,i * 4+3,none⟩=some pv∧PairsIn w p pv x.es:=by
 obtain ⟨vs,h1,h2,h3,h4⟩:=h
 have hlt:=(List.getElem?_eq_some_iff.1 hi).1
 have hu:=List.getElem?_eq_getElem (show i < vs.length by omega)
 have hz:(ps.zip vs)[i]? = some (x,vs[i]'(by omega)):=by rw [List.getElem?_zip_eq_some];exact ⟨hi,hu⟩
 have cell:∀ c u,c < 4→(encPt (x,vs[i]'(by omega)))[c]? = some u→∃ ob cap,v=.slice (some ⟨ob,0,none⟩) ps.length cap∧ps.length≤cap∧ob < w.heap.size∧w.cell? ⟨ob,i * 4+c,none⟩=some u:=fun c u hc hq =>
   h2.cell ((encL_mem encPt 4 _ (fun _ _=>rfl) i c _ hz hc).trans hq)
 obtain ⟨ob,cap,rfl,_,hl,c0⟩:=cell 0 _ (by decide) rfl
 obtain ⟨_,_,e1,_,_,c1⟩:=cell 1 _ (by decide) rfl
 obtain ⟨_,_,e2,_,_,c2⟩:=cell 2 _ (by decide) rfl
 obtain ⟨_,_,e3,_,_,c3⟩:=cell 3 _ (by decide) rfl
 cases e1
 cases e2
 cases e3
 exact ⟨ob,cap,_,rfl,hl,(h3 ob rfl).1,c0,c1,c2,c3,h4 i x _ hi hu⟩
def ZRep (w:World) (sb:Nat) (s:St):Prop :=
 ∃ (b1 b2 b3 b4:Bool) (pv lv:Value),Cells w sb #[.bool s.dir,.bool b1,.bool b2,.bool b3,.bool b4,.bool s.pr,.int .u8 s.hk,pv,lv] 91∧PtsIn w (fun q=>q≠sb) pv s.ps∧LinksIn w (fun q=>q≠sb) lv s.ls
theorem ZRep.fr {w w':World} {sb:Nat} {s:St} {S:Nat→Prop} (h:ZRep w sb s) (f:Fr S w w') (hS:∀ q,q < w.heap.size→¬ S q):ZRep w' sb s:=by
 obtain ⟨b1,b2,b3,b4,pv,lv,hc,hp,hl⟩:=h
 exact ⟨b1,b2,b3,b4,pv,lv,hc.fr f (hS _ hc.lt),hp.fr f fun q _ hq=>hS q hq,hl.fr f fun q _ hq=>hS q hq⟩
theorem ZRep.fr0 {w w':World} {sb:Nat} {s:St} (h:ZRep w sb s) (f:Fr0 w w'):ZRep w' sb s:=h.fr f fun _ _ q=>q
theorem ZRep.hk_cell {w:World} {sb:Nat} {s:St} (h:ZRep w sb s):w.cell? ⟨sb,6,none⟩=some (.int .u8 s.hk):=by
 obtain ⟨_,_,_,_,_,_,hc,_⟩:=h
 exact hc.cell 6 _ rfl
theorem ZRep.lt {w:World} {sb:Nat} {s:St} (h:ZRep w sb s):sb < w.heap.size:=by
 obtain ⟨_,_,_,_,_,_,hc,_⟩:=h
 exact hc.lt
theorem ptI_at {ps:List SP} {k:ByteArray} {i:Nat} {x:SP} (h:∀ p∈ps.take i,p.h≠k) (hx:ps[i]? = some x) (e:x.h=k):ptI ps k=some i:=by
 unfold ptI
 rw [List.findIdx?_eq_some_iff_getElem]
 obtain ⟨hl,hx'⟩:=List.getElem?_eq_some_iff.1 hx
 refine ⟨hl,by rw [hx',e];exact decide_eq_true rfl,fun j hj => ?_⟩
 have:=h ps[j] (List.mem_take_iff_getElem.2 ⟨j,by omega,rfl⟩)
 simpa using this
theorem ptI_no {ps:List SP} {k:ByteArray} (h:∀ p∈ps,p.h≠k):ptI ps k=none:=by
 unfold ptI
 rw [List.findIdx?_eq_none_iff]
 exact fun p hp=>decide_eq_false (h p hp)
theorem lkI_at {dir:Bool} {ls:List SL} {a b:ByteArray} {i:Nat} {x:SL} (h:∀ l∈ls.take i,l.hit dir a b=false) (hx:ls[i]? = some x) (e:x.hit dir a b=true):lkI dir ls a b=some i:=by
 unfold lkI
 rw [List.findIdx?_eq_some_iff_getElem]
 obtain ⟨hl,hx'⟩:=List.getElem?_eq_some_iff.1 hx
 refine ⟨hl,by rw [hx',e],fun j hj => ?_⟩
 have:=h ls[j] (List.mem_take_iff_getElem.2 ⟨j,by omega,rfl⟩)
 simp [this]
theorem lkI_no {dir:Bool} {ls:List SL} {a b:ByteArray} (h:∀ l∈ls,l.hit dir a b=false):lkI dir ls a b=none:=by
 unfold lkI
 rw [List.findIdx?_eq_none_iff]
 exact fun p hp=>h p hp
theorem point44 (w:World) (sb:Nat) (s:St) (h:ZRep w sb s) (hs:s.ps.length≤400000) (k:ByteArray) :
   Calls Tryz.prog 44 #[.pointer (some ⟨sb,0,none⟩),.string k] w fun e w'=>e=.returned (.int .i64 (plc (ptI s.ps k)))∧Fr0 w w':=by
 obtain ⟨b1,b2,b3,b4,pv,lv,hc,hp,hl⟩:=h
 obtain ⟨pa,pc,rfl,_⟩:=hp.form
 have HP:=Lib.hid hp
 have c7:=hc.cell 7 _ rfl
 clear hc hp hl
 go_enter Tryz.func44,Tryz.ntmps44
 go_wp2_with fail
 go_loopg [12] s.ps.length (fun n c wr=>∃ i:Nat,n+i=s.ps.length∧c=.int .i64 (i:Nat)∧(∀ p∈s.ps.take i,p.h≠k)∧Fr0 w wr)
 case atStart=>exact ⟨0,rfl,rfl,fun d hd=>by simp at hd,Fr.refl _ _⟩
 case round =>
   obtain ⟨i,hk,rfl,ht,f⟩:=hrel
   have A:=hid3 hk ht f
   clear hk ht f
   by_cases hi:i < s.ps.length
   · have hg:=List.getElem?_eq_getElem hi
     have htk:s.ps.take (i+1)=s.ps.take i ++ [s.ps[i]]:=List.take_succ_eq_append_getElem hi
     obtain ⟨ob,cap,pv,e,hl,_,c0,c1,c2,c3,hpv⟩:=(PtsIn.fr HP.out A.out.2.2 (fun _ _ _ q=>q)).at_ hg
     cases e
     generalize s.ps[i]=x at c0 c1 c2 c3 hpv hg htk
     obtain ⟨xa,xc,rfl⟩:=hpv.form
     have HG:=hid2 hg htk
     clear hg hpv htk
     by_cases he:x.h=k
     · have HE:=Lib.hid he
       rw [he] at c0
       clear he
       go_wp2_with fail
       go_ret
       exact ⟨by rw [ptI_at A.out.2.1 HG.out.1 HE.out];rfl,A.out.2.2.alloc _⟩
     · have he1:=text_ne he
       have HE:=Lib.hid he
       clear he
       go_wp2_with fail
       go_roundg (gk - 1)
       case measure=>have:=A.out.1;omega
       case rel =>
         refine ⟨i+1,by have:=A.out.1;omega,by simp,fun p hp => ?_,A.out.2.2.alloc _⟩
         rw [HG.out.2] at hp
         rcases List.mem_append.1 hp with z|z
         · exact A.out.2.1 p z
         · simp only [List.mem_singleton] at z
           rw [z]
           exact HE.out
   · have hi':i=s.ps.length:=by have:=A.out.1;omega
     subst hi'
     go_wp2_with fail
     go_ret
     exact ⟨by rw [ptI_no (fun p hp=>A.out.2.1 p (by rw [List.take_length];exact hp))];rfl,A.out.2.2⟩
theorem hit_eq (l:SL) (dir:Bool) (a b:ByteArray):l.hit dir a b=((decide (l.a=a) && decide (l.b=b)) || (!dir && (decide (l.a=b) && decide (l.b=a)))):=by
 unfold SL.hit
 rw [Bool.decide_and,Bool.decide_and]
theorem link45 (w:World) (sb:Nat) (s:St) (h:ZRep w sb s) (hs:s.ls.length≤400000) (a b:ByteArray) :
   Calls Tryz.prog 45 #[.pointer (some ⟨sb,0,none⟩),.string a,.string b] w fun e w'=>e=.returned (.int .i64 (plc (lkI s.dir s.ls a b)))∧Fr0 w w':=by
 obtain ⟨b1,b2,b3,b4,pv,lv,hc,hp,hl⟩:=h
 obtain ⟨pa,pc,rfl,_⟩:=hl.form
 have HP:=Lib.hid hl
 have HC:=Lib.hid hc
 have c8:=hc.cell 8 _ rfl
 clear hc hp hl
 go_enter Tryz.func45,Tryz.ntmps45
 go_wp2_with fail
 go_loopg [14] s.ls.length (fun n c wr=>∃ i:Nat,n+i=s.ls.length∧c=.int .i64 (i:Nat)∧(∀ l∈s.ls.take i,l.hit s.dir a b=false)∧Fr0 w wr)
 case atStart=>exact ⟨0,rfl,rfl,fun d hd=>by simp at hd,Fr.refl _ _⟩
 case round =>
   obtain ⟨i,hk,rfl,ht,f⟩:=hrel
   have A:=hid3 hk ht f
   clear hk ht f
   by_cases hi:i < s.ls.length
   · have hg:=List.getElem?_eq_getElem hi
     have htk:s.ls.take (i+1)=s.ls.take i ++ [s.ls[i]]:=List.take_succ_eq_append_getElem hi
     obtain ⟨ob,cap,pv,e,hl,_,c0,c1,c2,c3,hpv⟩:=(LinksIn.fr HP.out A.out.2.2 (fun _ _ _ q=>q)).at_ hg
     cases e
     generalize s.ls[i]=x at c0 c1 c2 c3 hpv hg htk
     obtain ⟨xa,xc,rfl⟩:=hpv.form
     have HG:=hid2 hg htk
     have d0:=(HC.out.fr A.out.2.2 (fun q=>q)).cell 0 _ rfl
     have hsb:=(HC.out.fr A.out.2.2 (fun q=>q)).lt
     have hne:sb≠wr.heap.size:=by omega
     have hh:=hit_eq x s.dir a b
     have t1:=text_dec x.a a
     have t2:=text_dec x.b b
     have t3:=text_dec x.a b
     have t4:=text_dec x.b a
     clear hg hpv htk
     generalize decide (x.a=a)=B1 at hh t1
     generalize decide (x.b=b)=B2 at hh t2
     generalize decide (x.a=b)=B3 at hh t3
     generalize decide (x.b=a)=B4 at hh t4
     obtain ⟨D,hD⟩ : ∃ D,D=s.dir:=⟨_,rfl⟩
     rw [← hD] at d0 hh
     have HD:=Lib.hid hD
     clear hD
     have key:x.hit D a b=true→∀ (w':World),(Value.int .i64 (i:Nat))=.int .i64 (plc (lkI s.dir s.ls a b)):=fun q _=>by
       rw [HD.out] at q
       rw [lkI_at A.out.2.1 HG.out.1 q]
       rfl
     have KEY:=Lib.hid key
     have no:x.hit D a b=false→∀ l∈s.ls.take (i+1),l.hit s.dir a b=false:=fun q l hl=>by
       rw [HG.out.2] at hl
       rcases List.mem_append.1 hl with z|z
       · exact A.out.2.1 l z
       · simp only [List.mem_singleton] at z
         rw [z,← HD.out]
         exact q
     have NO:=Lib.hid no
     clear key no
     cases D
     · cases B1
       · cases B3
         · have HH:=Lib.hid hh
           clear hh
           go_wp2_with fail
           first
             | (go_ret;exact ⟨congrArg Ending.returned (KEY.out HH.out w),A.out.2.2.alloc _⟩)
             | (go_roundg (gk - 1)
                case measure=>have:=A.out.1;omega
                case rel=>exact ⟨i+1,by have:=A.out.1;omega,by simp,NO.out HH.out,A.out.2.2.alloc _⟩)
         · cases B4
           · have HH:=Lib.hid hh
             clear hh
             go_wp2_with fail
             first
               | (go_ret;exact ⟨congrArg Ending.returned (KEY.out HH.out w),A.out.2.2.alloc _⟩)
               | (go_roundg (gk - 1)
                  case measure=>have:=A.out.1;omega
                  case rel=>exact ⟨i+1,by have:=A.out.1;omega,by simp,NO.out HH.out,A.out.2.2.alloc _⟩)
           · have HH:=Lib.hid hh
             clear hh
             go_wp2_with fail
             first
               | (go_ret;exact ⟨congrArg Ending.returned (KEY.out HH.out w),A.out.2.2.alloc _⟩)
               | (go_roundg (gk - 1)
                  case measure=>have:=A.out.1;omega
                  case rel=>exact ⟨i+1,by have:=A.out.1;omega,by simp,NO.out HH.out,A.out.2.2.alloc _⟩)
       · cases B2
         · cases B3
           · have HH:=Lib.hid hh
             clear hh
             go_wp2_with fail
             first
               | (go_ret;exact ⟨congrArg Ending.returned (KEY.out HH.out w),A.out.2.2.alloc _⟩)
               | (go_roundg (gk - 1)
                  case measure=>have:=A.out.1;omega
                  case rel=>exact ⟨i+1,by have:=A.out.1;omega,by simp,NO.out HH.out,A.out.2.2.alloc _⟩)
           · cases B4
             · have HH:=Lib.hid hh
               clear hh
               go_wp2_with fail
               first
                 | (go_ret;exact ⟨congrArg Ending.returned (KEY.out HH.out w),A.out.2.2.alloc _⟩)
                 | (go_roundg (gk - 1)
                    case measure=>have:=A.out.1;omega
                    case rel=>exact ⟨i+1,by have:=A.out.1;omega,by simp,NO.out HH.out,A.out.2.2.alloc _⟩)
             · have HH:=Lib.hid hh
               clear hh
               go_wp2_with fail
               first
                 | (go_ret;exact ⟨congrArg Ending.returned (KEY.out HH.out w),A.out.2.2.alloc _⟩)
                 | (go_roundg (gk - 1)
                    case measure=>have:=A.out.1;omega
                    case rel=>exact ⟨i+1,by have:=A.out.1;omega,by simp,NO.out HH.out,A.out.2.2.alloc _⟩)
         · have HH:=Lib.hid hh
           clear hh
           go_wp2_with fail
           first
             | (go_ret;exact ⟨congrArg Ending.returned (KEY.out HH.out w),A.out.2.2.alloc _⟩)
             | (go_roundg (gk - 1)
                case measure=>have:=A.out.1;omega
                case rel=>exact ⟨i+1,by have:=A.out.1;omega,by simp,NO.out HH.out,A.out.2.2.alloc _⟩)
     · cases B1
       · have HH:=Lib.hid hh
         clear hh
         go_wp2_with fail
         first
           | (go_ret;exact ⟨congrArg Ending.returned (KEY.out HH.out w),A.out.2.2.alloc _⟩)
           | (go_roundg (gk - 1)
              case measure=>have:=A.out.1;omega
              case rel=>exact ⟨i+1,by have:=A.out.1;omega,by simp,NO.out HH.out,A.out.2.2.alloc _⟩)
       · cases B2
         · have HH:=Lib.hid hh
           clear hh
           go_wp2_with fail
           first
             | (go_ret;exact ⟨congrArg Ending.returned (KEY.out HH.out w),A.out.2.2.alloc _⟩)
             | (go_roundg (gk - 1)
                case measure=>have:=A.out.1;omega
                case rel=>exact ⟨i+1,by have:=A.out.1;omega,by simp,NO.out HH.out,A.out.2.2.alloc _⟩)
         · have HH:=Lib.hid hh
           clear hh
           go_wp2_with fail
           first
             | (go_ret;exact ⟨congrArg Ending.returned (KEY.out HH.out w),A.out.2.2.alloc _⟩)
             | (go_roundg (gk - 1)
                case measure=>have:=A.out.1;omega
                case rel=>exact ⟨i+1,by have:=A.out.1;omega,by simp,NO.out HH.out,A.out.2.2.alloc _⟩)
   · have hi':i=s.ls.length:=by have:=A.out.1;omega
     subst hi'
     go_wp2_with fail
     go_ret
     exact ⟨by rw [lkI_no (fun p hp=>A.out.2.1 p (by rw [List.take_length];exact hp))];rfl,A.out.2.2⟩
def HashS (hk:Nat):Prop:=∀ (w:World) (a:ByteArray),(hk=2→a.size≤99)→Calls Tryz.prog 43 #[.int .u8 hk,.string a] w fun e w'=>e=.returned (.string (hashM hk a))∧Fr0 w w'
theorem hashS0:HashS 0:=by
 intro w a _
 go_enter Tryz.func43,Tryz.ntmps43
 go_wp2_with fail
 go_ret
 exact ⟨rfl,Fr.refl _ _⟩
theorem value47 (w:World) (sb:Nat) (s:St) (h:ZRep w sb s) (hs:s.ps.length≤400000) (k:ByteArray) (i:Nat) (hi:ptI s.ps k=some i) :
   Calls Tryz.prog 47 #[.pointer (some ⟨sb,0,none⟩),.string k] w fun e w'=>e=.returned (.string (s.value k))∧Fr0 w w':=by
 have H:=Lib.hid h
 obtain ⟨hlt,x,hx, -⟩:=ptI_lt hi
 obtain ⟨b1,b2,b3,b4,pv,lv,hc,hp,hl⟩:=h
 obtain ⟨ob,cap,pv,rfl,hl2,_,c0,c1,c2,c3,hpv⟩:=hp.at_ hx
 have c7:=hc.cell 7 _ rfl
 have hlb:=hc.lt
 have HV:=Lib.hid (value_some hi hx)
 have HI:=Lib.hid hi
 have HC:=Lib.hid hc
 clear hc hp hl hpv hx hi c0 c2 c3
 have z0:(0:Int)≤(i:Int):=by omega
 have z1:(i:Int) < (s.ps.length:Int):=by omega
 go_enter Tryz.func47,Tryz.ntmps47
 go_wp2_with fail
 go_region_held3 (fun w'=>w'.cell? ⟨sb,7,none⟩=some (.slice (some ⟨ob,0,none⟩) s.ps.length cap)∧w'.cell? ⟨ob,i * 4+1,none⟩=some (.string x.v)) (go_keep)
   ((go_at_call 44
     refine (point44 _ sb s (H.out.fr0 (by ((repeat' with_reducible first|assumption|exact frR|apply frD|apply frN|apply frA|apply frM|apply frC);all_goals (simp;try omega)))) hs k).mono ?_
     rintro e w2 ⟨rfl,f2⟩
     rw [HI.out,plc_some]
     have F2:=Lib.hid (show Fr0 w w2 from Fr.trans0 (by ((repeat' with_reducible first|assumption|exact frR|apply frD|apply frN|apply frA|apply frM|apply frC);all_goals (simp;try omega))) f2)
     have d7:=(F2.out.cell (p:=⟨sb,7,none⟩) hlb (fun q=>q)).trans c7
     have d1:=(F2.out.cell (p:=⟨ob,i * 4+1,none⟩) hl2 (fun q=>q)).trans c1
     clear f2))
 all_goals go_wp2_with fail
 all_goals go_ret
 all_goals exact ⟨by rw [HV.out];rfl,by first|exact F2.out|((repeat' with_reducible first|assumption|exact frR|apply frD|apply frN|apply frA|apply frM|apply frC);all_goals (simp;try omega))⟩
theorem new27 (w:World) (b0 b1 b2 b3 b4 b5:Bool) (hk:Nat) (s:St) (h0:s.dir=b0) (h5:s.pr=b5) (h6:s.hk=hk) (hp:s.ps = []) (hl:s.ls = []) :
   Calls Tryz.prog 27 #[.agg #[.bool b0,.bool b1,.bool b2,.bool b3,.bool b4,.bool b5,.int .u8 hk]] w fun e w'=>∃ sb,e=.returned (.pointer (some ⟨sb,0,none⟩))∧w.heap.size≤sb∧ZRep w' sb s∧Fr0 w w':=by
 have H:=hid5 h0 h5 h6 hp hl
 clear h0 h5 h6 hp hl
 go_enter Tryz.func27,Tryz.ntmps27
 go_wp2_with fail
 go_ret
 refine ⟨_,rfl,?_,⟨b1,b2,b3,b4,.slice none 0 0,.slice none 0 0,?_,?_,?_⟩,by ((repeat' with_reducible first|assumption|exact frR|apply frD|apply frN|apply frA|apply frM|apply frC);all_goals (simp;try omega))⟩
 · simp
 · obtain ⟨q0,q5,q6,_,_⟩:=H.out
   rw [q0,q5,q6]
   have y:=Cells.new (w.alloc (.cells #[.bool b0,.bool b1,.bool b2,.bool b3,.bool b4,.bool b5,.int .u8 hk] 52)) #[.bool b0,.bool b1,.bool b2,.bool b3,.bool b4,.bool b5,.int .u8 hk,.slice none 0 0,.slice none 0 0] 91
   rwa [show (w.alloc (.cells #[.bool b0,.bool b1,.bool b2,.bool b3,.bool b4,.bool b5,.int .u8 hk] 52)).heap.size=w.heap.size+1 from by simp] at y
 · obtain ⟨_,_,_,q,_⟩:=H.out
   rw [q]
   exact PtsIn.nil _ _
 · obtain ⟨_,_,_,_,q⟩:=H.out
   rw [q]
   exact LinksIn.nil _ _
abbrev doS (op:Int) (a b:ByteArray) (wt:Int) (pv:Value):Value:=.agg #[.int .u8 op,.string a,.string b,.int .i64 wt,pv]
def StoP (w:World) (sb:Nat) (t:Tl) (s':St) (e:Ending) (w':World):Prop:=∃ v,e=.returned v∧ToldIn w' (fun q=>q≠sb) v t∧ZRep w' sb s'∧Fr (fun k=>k=sb) w w'
theorem StoP.no {w w':World} {sb:Nat} {s:St} (h:ZRep w sb s) (f:Fr0 w w') (c:Nat):StoP w sb { err:=c } s (.returned (toldE c)) w' :=
 ⟨_,rfl,toldE_at _ _ c,h.fr0 f,f.mono fun _ q=>q.elim⟩
abbrev W28 (w:World) (op:Int) (a b:ByteArray) (wt:Int) (pv:Value):World:=((w.alloc (.cells #[.int .u8 op,.string a,.string b,.int .i64 wt,pv] 28)).alloc (.cells zT 61)).alloc (.cells zT 61)
theorem w28_cells (w:World) (op:Int) (a b:ByteArray) (wt:Int) (pv:Value):Cells (W28 w op a b wt pv) w.heap.size #[.int .u8 op,.string a,.string b,.int .i64 wt,pv] 28 ∧
   Cells (W28 w op a b wt pv) (w.heap.size+1) zT 61∧Cells (W28 w op a b wt pv) (w.heap.size+1+1) zT 61∧Fr0 w (W28 w op a b wt pv):=by
 have z1:(w.alloc (.cells #[.int .u8 op,.string a,.string b,.int .i64 wt,pv] 28)).heap.size=w.heap.size+1:=by simp
 have z2:((w.alloc (.cells #[.int .u8 op,.string a,.string b,.int .i64 wt,pv] 28)).alloc (.cells zT 61)).heap.size=w.heap.size+1+1:=by simp
 have y1:=(Cells.new (w.alloc (.cells #[.int .u8 op,.string a,.string b,.int .i64 wt,pv] 28)) zT 61).alloc (.cells zT 61)
 have y2:=Cells.new ((w.alloc (.cells #[.int .u8 op,.string a,.string b,.int .i64 wt,pv] 28)).alloc (.cells zT 61)) zT 61
 rw [z1] at y1
 rw [z2] at y2
 exact ⟨((Cells.new w _ _).alloc _).alloc _,y1,y2,by ((repeat' with_reducible first|assumption|exact frR|apply frD|apply frN|apply frA|apply frM|apply frC);all_goals (simp;try omega))⟩
-- GENERATED
theorem sto5_no (w:World) (sb:Nat) (s:St) (h:ZRep w sb s) (hs:Small s) (a b:ByteArray) (wt:Int) (pv:Value) (prs:List PP) (hp:PrAt w pv prs) (hn:ptI s.ps a=none) :
   Calls Tryz.prog 28 #[.pointer (some ⟨sb,0,none⟩),doS 5 a b wt pv] w fun e w'=>StoP w sb { err:=2 } s e w':=by
 have H:=Lib.hid h
 have hlb:=h.lt
 have HS:=Lib.hid hs
 have HN:=Lib.hid hn
 clear h hs hn
 obtain ⟨pa,pc,rfl⟩:=hp.form
 clear hp
 have W0:=Lib.hid (w28_cells w 5 a b wt (.slice pa prs.length pc))
 go_enter Tryz.func28,Tryz.ntmps28
 go_wp2_with fail
 go_quiet (fail)
 go_wp2_with fail
 refine (point44 _ sb s (H.out.fr0 (by ((repeat' with_reducible first|assumption|exact frR|apply frD|apply frN|apply frA|apply frM|apply frC);all_goals (simp;try omega)))) HS.out.ps a).mono ?_
 rintro e w2 ⟨rfl,f2⟩
 have F2:=Lib.hid (show Fr0 (W28 w 5 a b wt (.slice pa prs.length pc)) w2 from Fr.trans0 (by ((repeat' with_reducible first|assumption|exact frR|apply frD|apply frN|apply frA|apply frM|apply frC);all_goals (simp;try omega))) f2)
 clear f2
 rw [HN.out,plc_none]
 go_wp2_with fail
 refine (link45 _ sb s (H.out.fr0 (W0.out.2.2.2.trans0 F2.out)) HS.out.ls a b).mono ?_
 rintro e w3 ⟨rfl,f3⟩
 have F3:=Lib.hid (F2.out.trans0 f3)
 clear f3
 have f30:=W0.out.2.2.2.trans0 F3.out
 have D:=W0.out.1.fr F3.out (fun q=>q)
 have R:=W0.out.2.1.fr F3.out (fun q=>q)
 have X:=W0.out.2.2.1.fr F3.out (fun q=>q)
 have d0:=D.cell 0 _ rfl
 have d1:=D.cell 1 _ rfl
 have d2:=D.cell 2 _ rfl
 have d3:=D.cell 3 _ rfl
 have d4:=D.cell 4 _ rfl
 have dl:=D.lt
 obtain ⟨r0,r1,r2,r3,r4,r5,r6,r7,r8,r9⟩:=R.ten
 obtain ⟨rf0,rf1,rf2,rf3,rf4,rf5,rf6,rf7,rf8,rf9⟩:=R.tenf
 have rl:=R.lt
 obtain ⟨x0,x1,x2,x3,x4,x5,x6,x7,x8,x9⟩:=X.ten
 have xf0:=X.free 0
 have xl:=X.lt
 have FF:=Lib.hid f30
 clear D R X f30
 go_wp2_with fail
 have f30:=FF.out
 refine bodyPost_ret (v:=toldE 2) (by simp [results,Tryz.results28,go_sem, *]) rfl ?_
 exact StoP.no H.out (by ((repeat' with_reducible first|assumption|exact frR|apply frD|apply frN|apply frA|apply frM|apply frC);all_goals (simp;try omega))) 2
theorem sto1_no (w:World) (sb:Nat) (s:St) (h:ZRep w sb s) (hs:Small s) (a b:ByteArray) (wt:Int) (pv:Value) (prs:List PP) (hp:PrAt w pv prs) (hn:ptI s.ps a=none) :
   Calls Tryz.prog 28 #[.pointer (some ⟨sb,0,none⟩),doS 1 a b wt pv] w fun e w'=>StoP w sb { err:=2 } s e w':=by
 have H:=Lib.hid h
 have hlb:=h.lt
 have HS:=Lib.hid hs
 have HN:=Lib.hid hn
 clear h hs hn
 obtain ⟨pa,pc,rfl⟩:=hp.form
 clear hp
 have W0:=Lib.hid (w28_cells w 1 a b wt (.slice pa prs.length pc))
 go_enter Tryz.func28,Tryz.ntmps28
 go_wp2_with fail
 go_quiet (fail)
 go_wp2_with fail
 refine (point44 _ sb s (H.out.fr0 (by ((repeat' with_reducible first|assumption|exact frR|apply frD|apply frN|apply frA|apply frM|apply frC);all_goals (simp;try omega)))) HS.out.ps a).mono ?_
 rintro e w2 ⟨rfl,f2⟩
 have F2:=Lib.hid (show Fr0 (W28 w 1 a b wt (.slice pa prs.length pc)) w2 from Fr.trans0 (by ((repeat' with_reducible first|assumption|exact frR|apply frD|apply frN|apply frA|apply frM|apply frC);all_goals (simp;try omega))) f2)
 clear f2
 rw [HN.out,plc_none]
 go_wp2_with fail
 refine (link45 _ sb s (H.out.fr0 (W0.out.2.2.2.trans0 F2.out)) HS.out.ls a b).mono ?_
 rintro e w3 ⟨rfl,f3⟩
 have F3:=Lib.hid (F2.out.trans0 f3)
 clear f3
 have f30:=W0.out.2.2.2.trans0 F3.out
 have D:=W0.out.1.fr F3.out (fun q=>q)
 have R:=W0.out.2.1.fr F3.out (fun q=>q)
 have X:=W0.out.2.2.1.fr F3.out (fun q=>q)
 have d0:=D.cell 0 _ rfl
 have d1:=D.cell 1 _ rfl
 have d2:=D.cell 2 _ rfl
 have d3:=D.cell 3 _ rfl
 have d4:=D.cell 4 _ rfl
 have dl:=D.lt
 obtain ⟨r0,r1,r2,r3,r4,r5,r6,r7,r8,r9⟩:=R.ten
 obtain ⟨rf0,rf1,rf2,rf3,rf4,rf5,rf6,rf7,rf8,rf9⟩:=R.tenf
 have rl:=R.lt
 obtain ⟨x0,x1,x2,x3,x4,x5,x6,x7,x8,x9⟩:=X.ten
 have xf0:=X.free 0
 have xl:=X.lt
 have FF:=Lib.hid f30
 clear D R X f30
 go_wp2_with fail
 have f30:=FF.out
 refine bodyPost_ret (v:=toldE 2) (by simp [results,Tryz.results28,go_sem, *]) rfl ?_
 exact StoP.no H.out (by ((repeat' with_reducible first|assumption|exact frR|apply frD|apply frN|apply frA|apply frM|apply frC);all_goals (simp;try omega))) 2
theorem sto2_no (w:World) (sb:Nat) (s:St) (h:ZRep w sb s) (hs:Small s) (a b:ByteArray) (wt:Int) (pv:Value) (prs:List PP) (hp:PrAt w pv prs) (hn:ptI s.ps a=none) :
   Calls Tryz.prog 28 #[.pointer (some ⟨sb,0,none⟩),doS 2 a b wt pv] w fun e w'=>StoP w sb { err:=2 } s e w':=by
 have H:=Lib.hid h
 have hlb:=h.lt
 have HS:=Lib.hid hs
 have HN:=Lib.hid hn
 clear h hs hn
 obtain ⟨pa,pc,rfl⟩:=hp.form
 clear hp
 have W0:=Lib.hid (w28_cells w 2 a b wt (.slice pa prs.length pc))
 go_enter Tryz.func28,Tryz.ntmps28
 go_wp2_with fail
 go_quiet (fail)
 go_wp2_with fail
 refine (point44 _ sb s (H.out.fr0 (by ((repeat' with_reducible first|assumption|exact frR|apply frD|apply frN|apply frA|apply frM|apply frC);all_goals (simp;try omega)))) HS.out.ps a).mono ?_
 rintro e w2 ⟨rfl,f2⟩
 have F2:=Lib.hid (show Fr0 (W28 w 2 a b wt (.slice pa prs.length pc)) w2 from Fr.trans0 (by ((repeat' with_reducible first|assumption|exact frR|apply frD|apply frN|apply frA|apply frM|apply frC);all_goals (simp;try omega))) f2)
 clear f2
 rw [HN.out,plc_none]
 go_wp2_with fail
 refine (link45 _ sb s (H.out.fr0 (W0.out.2.2.2.trans0 F2.out)) HS.out.ls a b).mono ?_
 rintro e w3 ⟨rfl,f3⟩
 have F3:=Lib.hid (F2.out.trans0 f3)
 clear f3
 have f30:=W0.out.2.2.2.trans0 F3.out
 have D:=W0.out.1.fr F3.out (fun q=>q)
 have R:=W0.out.2.1.fr F3.out (fun q=>q)
 have X:=W0.out.2.2.1.fr F3.out (fun q=>q)
 have d0:=D.cell 0 _ rfl
 have d1:=D.cell 1 _ rfl
 have d2:=D.cell 2 _ rfl
 have d3:=D.cell 3 _ rfl
 have d4:=D.cell 4 _ rfl
 have dl:=D.lt
 obtain ⟨r0,r1,r2,r3,r4,r5,r6,r7,r8,r9⟩:=R.ten
 obtain ⟨rf0,rf1,rf2,rf3,rf4,rf5,rf6,rf7,rf8,rf9⟩:=R.tenf
 have rl:=R.lt
 obtain ⟨x0,x1,x2,x3,x4,x5,x6,x7,x8,x9⟩:=X.ten
 have xf0:=X.free 0
 have xl:=X.lt
 have FF:=Lib.hid f30
 clear D R X f30
 go_wp2_with fail
 have f30:=FF.out
 refine bodyPost_ret (v:=toldE 2) (by simp [results,Tryz.results28,go_sem, *]) rfl ?_
 exact StoP.no H.out (by ((repeat' with_reducible first|assumption|exact frR|apply frD|apply frN|apply frA|apply frM|apply frC);all_goals (simp;try omega))) 2
theorem sto3_no (w:World) (sb:Nat) (s:St) (h:ZRep w sb s) (hs:Small s) (a b:ByteArray) (wt:Int) (pv:Value) (prs:List PP) (hp:PrAt w pv prs) (hn:lkI s.dir s.ls a b=none) :
   Calls Tryz.prog 28 #[.pointer (some ⟨sb,0,none⟩),doS 3 a b wt pv] w fun e w'=>StoP w sb { err:=5 } s e w':=by
 have H:=Lib.hid h
 have hlb:=h.lt
 have HS:=Lib.hid hs
 have HN:=Lib.hid hn
 clear h hs hn
 obtain ⟨pa,pc,rfl⟩:=hp.form
 clear hp
 have W0:=Lib.hid (w28_cells w 3 a b wt (.slice pa prs.length pc))
 go_enter Tryz.func28,Tryz.ntmps28
 go_wp2_with fail
 go_quiet (fail)
 go_wp2_with fail
 refine (point44 _ sb s (H.out.fr0 (by ((repeat' with_reducible first|assumption|exact frR|apply frD|apply frN|apply frA|apply frM|apply frC);all_goals (simp;try omega)))) HS.out.ps a).mono ?_
 rintro e w2 ⟨rfl,f2⟩
 have F2:=Lib.hid (show Fr0 (W28 w 3 a b wt (.slice pa prs.length pc)) w2 from Fr.trans0 (by ((repeat' with_reducible first|assumption|exact frR|apply frD|apply frN|apply frA|apply frM|apply frC);all_goals (simp;try omega))) f2)
 clear f2
 go_wp2_with fail
 refine (link45 _ sb s (H.out.fr0 (W0.out.2.2.2.trans0 F2.out)) HS.out.ls a b).mono ?_
 rintro e w3 ⟨rfl,f3⟩
 rw [HN.out,plc_none]
 have F3:=Lib.hid (F2.out.trans0 f3)
 clear f3
 have f30:=W0.out.2.2.2.trans0 F3.out
 have D:=W0.out.1.fr F3.out (fun q=>q)
 have R:=W0.out.2.1.fr F3.out (fun q=>q)
 have X:=W0.out.2.2.1.fr F3.out (fun q=>q)
 have d0:=D.cell 0 _ rfl
 have d1:=D.cell 1 _ rfl
 have d2:=D.cell 2 _ rfl
 have d3:=D.cell 3 _ rfl
 have d4:=D.cell 4 _ rfl
 have dl:=D.lt
 obtain ⟨r0,r1,r2,r3,r4,r5,r6,r7,r8,r9⟩:=R.ten
 obtain ⟨rf0,rf1,rf2,rf3,rf4,rf5,rf6,rf7,rf8,rf9⟩:=R.tenf
 have rl:=R.lt
 obtain ⟨x0,x1,x2,x3,x4,x5,x6,x7,x8,x9⟩:=X.ten
 have xf0:=X.free 0
 have xl:=X.lt
 have FF:=Lib.hid f30
 clear D R X f30
 go_wp2_with fail
 have f30:=FF.out
 refine bodyPost_ret (v:=toldE 5) (by simp [results,Tryz.results28,go_sem, *]) rfl ?_
 exact StoP.no H.out (by ((repeat' with_reducible first|assumption|exact frR|apply frD|apply frN|apply frA|apply frM|apply frC);all_goals (simp;try omega))) 5
theorem sto4_no (w:World) (sb:Nat) (s:St) (h:ZRep w sb s) (hs:Small s) (a b:ByteArray) (wt:Int) (pv:Value) (prs:List PP) (hp:PrAt w pv prs) (hn:lkI s.dir s.ls a b=none) :
   Calls Tryz.prog 28 #[.pointer (some ⟨sb,0,none⟩),doS 4 a b wt pv] w fun e w'=>StoP w sb { err:=5 } s e w':=by
 have H:=Lib.hid h
 have hlb:=h.lt
 have HS:=Lib.hid hs
 have HN:=Lib.hid hn
 clear h hs hn
 obtain ⟨pa,pc,rfl⟩:=hp.form
 clear hp
 have W0:=Lib.hid (w28_cells w 4 a b wt (.slice pa prs.length pc))
 go_enter Tryz.func28,Tryz.ntmps28
 go_wp2_with fail
 go_quiet (fail)
 go_wp2_with fail
 refine (point44 _ sb s (H.out.fr0 (by ((repeat' with_reducible first|assumption|exact frR|apply frD|apply frN|apply frA|apply frM|apply frC);all_goals (simp;try omega)))) HS.out.ps a).mono ?_
 rintro e w2 ⟨rfl,f2⟩
 have F2:=Lib.hid (show Fr0 (W28 w 4 a b wt (.slice pa prs.length pc)) w2 from Fr.trans0 (by ((repeat' with_reducible first|assumption|exact frR|apply frD|apply frN|apply frA|apply frM|apply frC);all_goals (simp;try omega))) f2)
 clear f2
 go_wp2_with fail
 refine (link45 _ sb s (H.out.fr0 (W0.out.2.2.2.trans0 F2.out)) HS.out.ls a b).mono ?_
 rintro e w3 ⟨rfl,f3⟩
 rw [HN.out,plc_none]
 have F3:=Lib.hid (F2.out.trans0 f3)
 clear f3
 have f30:=W0.out.2.2.2.trans0 F3.out
 have D:=W0.out.1.fr F3.out (fun q=>q)
 have R:=W0.out.2.1.fr F3.out (fun q=>q)
 have X:=W0.out.2.2.1.fr F3.out (fun q=>q)
 have d0:=D.cell 0 _ rfl
 have d1:=D.cell 1 _ rfl
 have d2:=D.cell 2 _ rfl
 have d3:=D.cell 3 _ rfl
 have d4:=D.cell 4 _ rfl
 have dl:=D.lt
 obtain ⟨r0,r1,r2,r3,r4,r5,r6,r7,r8,r9⟩:=R.ten
 obtain ⟨rf0,rf1,rf2,rf3,rf4,rf5,rf6,rf7,rf8,rf9⟩:=R.tenf
 have rl:=R.lt
 obtain ⟨x0,x1,x2,x3,x4,x5,x6,x7,x8,x9⟩:=X.ten
 have xf0:=X.free 0
 have xl:=X.lt
 have FF:=Lib.hid f30
 clear D R X f30
 go_wp2_with fail
 have f30:=FF.out
 refine bodyPost_ret (v:=toldE 5) (by simp [results,Tryz.results28,go_sem, *]) rfl ?_
 exact StoP.no H.out (by ((repeat' with_reducible first|assumption|exact frR|apply frD|apply frN|apply frA|apply frM|apply frC);all_goals (simp;try omega))) 5
theorem sto6_no (w:World) (sb:Nat) (s:St) (h:ZRep w sb s) (hs:Small s) (a b:ByteArray) (wt:Int) (pv:Value) (prs:List PP) (hp:PrAt w pv prs) (hn:lkI s.dir s.ls a b=none) :
   Calls Tryz.prog 28 #[.pointer (some ⟨sb,0,none⟩),doS 6 a b wt pv] w fun e w'=>StoP w sb { err:=5 } s e w':=by
 have H:=Lib.hid h
 have hlb:=h.lt
 have HS:=Lib.hid hs
 have HN:=Lib.hid hn
 clear h hs hn
 obtain ⟨pa,pc,rfl⟩:=hp.form
 clear hp
 have W0:=Lib.hid (w28_cells w 6 a b wt (.slice pa prs.length pc))
 go_enter Tryz.func28,Tryz.ntmps28
 go_wp2_with fail
 go_quiet (fail)
 go_wp2_with fail
 refine (point44 _ sb s (H.out.fr0 (by ((repeat' with_reducible first|assumption|exact frR|apply frD|apply frN|apply frA|apply frM|apply frC);all_goals (simp;try omega)))) HS.out.ps a).mono ?_
 rintro e w2 ⟨rfl,f2⟩
 have F2:=Lib.hid (show Fr0 (W28 w 6 a b wt (.slice pa prs.length pc)) w2 from Fr.trans0 (by ((repeat' with_reducible first|assumption|exact frR|apply frD|apply frN|apply frA|apply frM|apply frC);all_goals (simp;try omega))) f2)
 clear f2
 go_wp2_with fail
 refine (link45 _ sb s (H.out.fr0 (W0.out.2.2.2.trans0 F2.out)) HS.out.ls a b).mono ?_
 rintro e w3 ⟨rfl,f3⟩
 rw [HN.out,plc_none]
 have F3:=Lib.hid (F2.out.trans0 f3)
 clear f3
 have f30:=W0.out.2.2.2.trans0 F3.out
 have D:=W0.out.1.fr F3.out (fun q=>q)
 have R:=W0.out.2.1.fr F3.out (fun q=>q)
 have X:=W0.out.2.2.1.fr F3.out (fun q=>q)
 have d0:=D.cell 0 _ rfl
 have d1:=D.cell 1 _ rfl
 have d2:=D.cell 2 _ rfl
 have d3:=D.cell 3 _ rfl
 have d4:=D.cell 4 _ rfl
 have dl:=D.lt
 obtain ⟨r0,r1,r2,r3,r4,r5,r6,r7,r8,r9⟩:=R.ten
 obtain ⟨rf0,rf1,rf2,rf3,rf4,rf5,rf6,rf7,rf8,rf9⟩:=R.tenf
 have rl:=R.lt
 obtain ⟨x0,x1,x2,x3,x4,x5,x6,x7,x8,x9⟩:=X.ten
 have xf0:=X.free 0
 have xl:=X.lt
 have FF:=Lib.hid f30
 clear D R X f30
 go_wp2_with fail
 have f30:=FF.out
 refine bodyPost_ret (v:=toldE 5) (by simp [results,Tryz.results28,go_sem, *]) rfl ?_
 exact StoP.no H.out (by ((repeat' with_reducible first|assumption|exact frR|apply frD|apply frN|apply frA|apply frM|apply frC);all_goals (simp;try omega))) 5
theorem sto2_nob (w:World) (sb:Nat) (s:St) (h:ZRep w sb s) (hs:Small s) (a b:ByteArray) (wt:Int) (pv:Value) (prs:List PP) (hp:PrAt w pv prs) (i:Nat) (hi:ptI s.ps a=some i) (hn:ptI s.ps b=none) :
   Calls Tryz.prog 28 #[.pointer (some ⟨sb,0,none⟩),doS 2 a b wt pv] w fun e w'=>StoP w sb { err:=2 } s e w':=by
 have H:=Lib.hid h
 have hlb:=h.lt
 have HS:=Lib.hid hs
 have HI:=Lib.hid hi
 have HN:=Lib.hid hn
 clear h hs hi hn
 obtain ⟨pa,pc,rfl⟩:=hp.form
 clear hp
 have W0:=Lib.hid (w28_cells w 2 a b wt (.slice pa prs.length pc))
 go_enter Tryz.func28,Tryz.ntmps28
 go_wp2_with fail
 go_quiet (fail)
 go_wp2_with fail
 refine (point44 _ sb s (H.out.fr0 (by ((repeat' with_reducible first|assumption|exact frR|apply frD|apply frN|apply frA|apply frM|apply frC);all_goals (simp;try omega)))) HS.out.ps a).mono ?_
 rintro e w2 ⟨rfl,f2⟩
 have F2:=Lib.hid (show Fr0 (W28 w 2 a b wt (.slice pa prs.length pc)) w2 from Fr.trans0 (by ((repeat' with_reducible first|assumption|exact frR|apply frD|apply frN|apply frA|apply frM|apply frC);all_goals (simp;try omega))) f2)
 clear f2
 rw [HI.out,plc_some]
 go_wp2_with fail
 refine (link45 _ sb s (H.out.fr0 (W0.out.2.2.2.trans0 F2.out)) HS.out.ls a b).mono ?_
 rintro e w3 ⟨rfl,f3⟩
 have F3:=Lib.hid (F2.out.trans0 f3)
 clear f3
 have q0:=(W0.out.1.fr F3.out (fun q=>q)).cell 0 _ rfl
 go_wp2_with fail
 refine (point44 _ sb s (H.out.fr0 (W0.out.2.2.2.trans0 F3.out)) HS.out.ps b).mono ?_
 rintro e w4 ⟨rfl,f4⟩
 rw [HN.out,plc_none]
 have F4:=Lib.hid (F3.out.trans0 f4)
 clear f4 q0
 have f30:=W0.out.2.2.2.trans0 F4.out
 have D:=W0.out.1.fr F4.out (fun q=>q)
 have R:=W0.out.2.1.fr F4.out (fun q=>q)
 have X:=W0.out.2.2.1.fr F4.out (fun q=>q)
 have d0:=D.cell 0 _ rfl
 have d1:=D.cell 1 _ rfl
 have d2:=D.cell 2 _ rfl
 have d3:=D.cell 3 _ rfl
 have d4:=D.cell 4 _ rfl
 have dl:=D.lt
 obtain ⟨r0,r1,r2,r3,r4,r5,r6,r7,r8,r9⟩:=R.ten
 obtain ⟨rf0,rf1,rf2,rf3,rf4,rf5,rf6,rf7,rf8,rf9⟩:=R.tenf
 have rl:=R.lt
 obtain ⟨x0,x1,x2,x3,x4,x5,x6,x7,x8,x9⟩:=X.ten
 have xf0:=X.free 0
 have xl:=X.lt
 have FF:=Lib.hid f30
 clear D R X f30
 go_wp2_with fail
 have f30:=FF.out
 refine bodyPost_ret (v:=toldE 2) (by simp [results,Tryz.results28,go_sem, *]) rfl ?_
 exact StoP.no H.out (by ((repeat' with_reducible first|assumption|exact frR|apply frD|apply frN|apply frA|apply frM|apply frC);all_goals (simp;try omega))) 2
theorem sto2_old (w:World) (sb:Nat) (s:St) (h:ZRep w sb s) (hs:Small s) (a b:ByteArray) (wt:Int) (pv:Value) (prs:List PP) (hp:PrAt w pv prs) (i j k:Nat) (hi:ptI s.ps a=some i) (hj:ptI s.ps b=some j) (hn:lkI s.dir s.ls a b=some k) :
   Calls Tryz.prog 28 #[.pointer (some ⟨sb,0,none⟩),doS 2 a b wt pv] w fun e w'=>StoP w sb { err:=4 } s e w':=by
 have H:=Lib.hid h
 have hlb:=h.lt
 have HS:=Lib.hid hs
 have HI:=Lib.hid hi
 have HJ:=Lib.hid hj
 have HN:=Lib.hid hn
 clear h hs hi hj hn
 obtain ⟨pa,pc,rfl⟩:=hp.form
 clear hp
 have W0:=Lib.hid (w28_cells w 2 a b wt (.slice pa prs.length pc))
 go_enter Tryz.func28,Tryz.ntmps28
 go_wp2_with fail
 go_quiet (fail)
 go_wp2_with fail
 refine (point44 _ sb s (H.out.fr0 (by ((repeat' with_reducible first|assumption|exact frR|apply frD|apply frN|apply frA|apply frM|apply frC);all_goals (simp;try omega)))) HS.out.ps a).mono ?_
 rintro e w2 ⟨rfl,f2⟩
 have F2:=Lib.hid (show Fr0 (W28 w 2 a b wt (.slice pa prs.length pc)) w2 from Fr.trans0 (by ((repeat' with_reducible first|assumption|exact frR|apply frD|apply frN|apply frA|apply frM|apply frC);all_goals (simp;try omega))) f2)
 clear f2
 rw [HI.out,plc_some]
 go_wp2_with fail
 refine (link45 _ sb s (H.out.fr0 (W0.out.2.2.2.trans0 F2.out)) HS.out.ls a b).mono ?_
 rintro e w3 ⟨rfl,f3⟩
 rw [HN.out,plc_some]
 have F3:=Lib.hid (F2.out.trans0 f3)
 clear f3
 have q0:=(W0.out.1.fr F3.out (fun q=>q)).cell 0 _ rfl
 go_wp2_with fail
 refine (point44 _ sb s (H.out.fr0 (W0.out.2.2.2.trans0 F3.out)) HS.out.ps b).mono ?_
 rintro e w4 ⟨rfl,f4⟩
 rw [HJ.out,plc_some]
 have F4:=Lib.hid (F3.out.trans0 f4)
 clear f4 q0
 have f30:=W0.out.2.2.2.trans0 F4.out
 have D:=W0.out.1.fr F4.out (fun q=>q)
 have R:=W0.out.2.1.fr F4.out (fun q=>q)
 have X:=W0.out.2.2.1.fr F4.out (fun q=>q)
 have d0:=D.cell 0 _ rfl
 have d1:=D.cell 1 _ rfl
 have d2:=D.cell 2 _ rfl
 have d3:=D.cell 3 _ rfl
 have d4:=D.cell 4 _ rfl
 have dl:=D.lt
 obtain ⟨r0,r1,r2,r3,r4,r5,r6,r7,r8,r9⟩:=R.ten
 obtain ⟨rf0,rf1,rf2,rf3,rf4,rf5,rf6,rf7,rf8,rf9⟩:=R.tenf
 have rl:=R.lt
 obtain ⟨x0,x1,x2,x3,x4,x5,x6,x7,x8,x9⟩:=X.ten
 have xf0:=X.free 0
 have xl:=X.lt
 have FF:=Lib.hid f30
 clear D R X f30
 go_wp2_with fail
 have f30:=FF.out
 refine bodyPost_ret (v:=toldE 4) (by simp [results,Tryz.results28,go_sem, *]) rfl ?_
 exact StoP.no H.out (by ((repeat' with_reducible first|assumption|exact frR|apply frD|apply frN|apply frA|apply frM|apply frC);all_goals (simp;try omega))) 4
theorem sto0_old (w:World) (sb:Nat) (s:St) (h:ZRep w sb s) (hs:Small s) (HC:HashS s.hk) (a b:ByteArray) (wt:Int) (pv:Value) (prs:List PP) (hp:PrAt w pv prs) (i:Nat) (hi:ptI s.ps (hashM s.hk a)=some i) (hz:s.hk=2→a.size≤99) :
   Calls Tryz.prog 28 #[.pointer (some ⟨sb,0,none⟩),doS 0 a b wt pv] w fun e w'=>StoP w sb { err:=1 } s e w':=by
 have H:=Lib.hid h
 have hlb:=h.lt
 have HS:=Lib.hid hs
 have HI:=Lib.hid hi
 clear h hs hi
 have HH:=Lib.hid (fun W=>HC W a hz)
 clear HC
 obtain ⟨pa,pc,rfl⟩:=hp.form
 clear hp
 have W0:=Lib.hid (w28_cells w 0 a b wt (.slice pa prs.length pc))
 obtain ⟨V,hV⟩ : ∃ V,V=W28 w 0 a b wt (.slice pa prs.length pc):=⟨_,rfl⟩
 rw [← hV] at W0
 go_enter Tryz.func28,Tryz.ntmps28
 go_wp2_with fail
 go_quiet (fail)
 have eV:((w.alloc (.cells #[.int .u8 0,.string a,.string b,.int .i64 wt,.slice pa prs.length pc] 28)).alloc (.cells zT 61)).alloc (.cells zT 61)=V:=hV.symm
 rw [eV]
 clear eV hV
 have c6:=(W0.out.2.2.2.cell (p:=⟨sb,6,none⟩) hlb (fun q=>q)).trans (ZRep.hk_cell H.out)
 have q0:=W0.out.1.cell 0 _ rfl
 have q1:=W0.out.1.cell 1 _ rfl
 have q2:=W0.out.1.cell 2 _ rfl
 go_wp2_with fail
 refine (HH.out _).mono ?_
 rintro e w1 ⟨rfl,f1⟩
 have F1:=Lib.hid (show Fr0 V w1 from Fr.trans0 (by ((repeat' with_reducible first|assumption|exact frR|apply frD|apply frN|apply frA|apply frM|apply frC);all_goals (simp;try omega))) f1)
 clear f1 c6 q0 q1 q2
 go_wp2_with fail
 refine (point44 _ sb s (H.out.fr0 (W0.out.2.2.2.trans0 F1.out)) HS.out.ps (hashM s.hk a)).mono ?_
 rintro e w2 ⟨rfl,f2⟩
 have F2:=Lib.hid (F1.out.trans0 f2)
 clear f2
 rw [HI.out,plc_some]
 go_wp2_with fail
 refine (link45 _ sb s (H.out.fr0 (W0.out.2.2.2.trans0 F2.out)) HS.out.ls (hashM s.hk a) b).mono ?_
 rintro e w3 ⟨rfl,f3⟩
 have F3:=Lib.hid (F2.out.trans0 f3)
 clear f3
 have f30:=W0.out.2.2.2.trans0 F3.out
 have D:=W0.out.1.fr F3.out (fun q=>q)
 have R:=W0.out.2.1.fr F3.out (fun q=>q)
 have X:=W0.out.2.2.1.fr F3.out (fun q=>q)
 have d0:=D.cell 0 _ rfl
 have d1:=D.cell 1 _ rfl
 have d2:=D.cell 2 _ rfl
 have d3:=D.cell 3 _ rfl
 have d4:=D.cell 4 _ rfl
 have dl:=D.lt
 obtain ⟨r0,r1,r2,r3,r4,r5,r6,r7,r8,r9⟩:=R.ten
 obtain ⟨rf0,rf1,rf2,rf3,rf4,rf5,rf6,rf7,rf8,rf9⟩:=R.tenf
 have rl:=R.lt
 obtain ⟨x0,x1,x2,x3,x4,x5,x6,x7,x8,x9⟩:=X.ten
 have xf0:=X.free 0
 have xl:=X.lt
 have FF:=Lib.hid f30
 clear D R X f30
 go_wp2_with fail
 have f30:=FF.out
 refine bodyPost_ret (v:=toldE 1) (by simp [results,Tryz.results28,go_sem, *]) rfl ?_
 exact StoP.no H.out (by ((repeat' with_reducible first|assumption|exact frR|apply frD|apply frN|apply frA|apply frM|apply frC);all_goals (simp;try omega))) 1
theorem info96:(Tryz.prog.info? 96).map (fun i=>(i.zero,i.size,i.bytes))=some (some (.agg #[.string ⟨#[]⟩,.string ⟨#[]⟩,.int .i64 0,.slice none 0 0]),4,64):=by kernel_rfl
theorem info72:(Tryz.prog.info? 72).map (fun i=>(i.zero,i.size,i.bytes))=some (some (.agg #[.string ⟨#[]⟩,.string ⟨#[]⟩,.int .i64 0,.slice none 0 0]),4,64):=by kernel_rfl
theorem own_empty {w:World} {B:Nat} {t:TypeId} {size:Nat} (h:w.heap[B]? = some (.cells #[] t (0,0))):w.ownsRow B t size (.slice (some ⟨B,0,none⟩) 0 0) 0 [] :=
 ⟨by simp,.inr ⟨B,0,#[],rfl,Nat.le_refl _,h,Nat.le_refl _,by decide,by simp,by simp⟩⟩
theorem Reads.yld {w:World} {v:Value} {n size:Nat} {xs:List Value} (h:Reads w v n xs) (hl:xs.length=n * size) (hs:0 < size):Yld w v n xs:=by
 obtain ⟨ao,cap,rfl,_,hr⟩:=h
 cases ao with
 | none =>
   have hx:xs = []:=by
     cases xs with
     | nil=>rfl
     | cons x xs =>
       obtain ⟨ob,e,_⟩:=hr 0 x rfl
       cases e
   subst hx
   have hn:n=0:=by
     simp only [List.length_nil] at hl
     rcases Nat.mul_eq_zero.1 hl.symm with q|q
     · exact q
     · omega
   subst hn
   exact .inl ⟨cap,rfl,rfl,rfl⟩
 | some a =>
   refine .inr ⟨a,cap,rfl,fun j u hj => ?_⟩
   obtain ⟨ob,e,_,h2⟩:=hr j u hj
   cases e
   rw [Addr.add_lit,Nat.zero_add]
   exact h2
theorem Cells.setCell {w:World} {b:Nat} {cs:Array Value} {t:TypeId} (h:Cells w b cs t) (i:Nat) (v:Value):Cells (w.setCell ⟨b,i,none⟩ v) b (cs.setIfInBounds i v) t:=by
 unfold Cells at *
 simp [World.setCell,h,Array.getElem?_modify]
theorem zip_snoc {α β:Type} {l:List α} {m:List β} (h:m.length=l.length) (x:α) (y:β):(l ++ [x]).zip (m ++ [y])=l.zip m ++ [(x,y)]:=by
 rw [List.zip_append h.symm]
 rfl
theorem zip_enc {α:Type} (enc:α × Value→List Value) (k:Nat) (hk:∀ p,(enc p).length=k) {l:List α} {m:List Value} (h:m.length=l.length):(encL enc (l.zip m)).length=l.length * k:=by
 rw [encL_len enc k hk,List.length_zip,h,Nat.min_self]
theorem PtsIn.imp {w:World} {p p':Nat→Prop} {v:Value} {ps:List SP} (h:PtsIn w p v ps) (hp:∀ q,p q→q < w.heap.size→p' q):PtsIn w p' v ps:=by
 obtain ⟨vs,h1,h2,h3,h4⟩:=h
 exact ⟨vs,h1,h2,fun q hq=>⟨hp q (h3 q hq).1 (h3 q hq).2,(h3 q hq).2⟩,fun i l u hl hu=>(h4 i l u hl hu).imp hp⟩
theorem PtsIn.snoc {w:World} {p:Nat→Prop} {base:Nat} {v:Value} {ps:List SP} {vs:List Value} {x:SP} {pv:Value} (ho:w.ownsRow base 96 4 v (ps.length+1) (encL encPt (ps.zip vs) ++ [.string x.h,.string x.v,.int .i64 x.wt,pv])) (hv:vs.length=ps.length)
   (hold:∀ (i:Nat) (l:SP) (u:Value),ps[i]? = some l→vs[i]? = some u→PairsIn w p u l.es) (hnew:PairsIn w p pv x.es) (hb:∀ q,base≤q→p q):PtsIn w p v (ps ++ [x]):=by
 refine ⟨vs ++ [pv],by simp [hv],?_,fun q hq=>⟨hb q (ho.lt q hq).1,(ho.lt q hq).2⟩,fun i l u hl hu => ?_⟩
 · rw [zip_snoc hv,List.length_append]
   have e:encL encPt (ps.zip vs ++ [(x,pv)])=encL encPt (ps.zip vs) ++ [.string x.h,.string x.v,.int .i64 x.wt,pv]:=by simp [encL,encPt]
   rw [e]
   exact own_slice ho
 · by_cases hi:i < ps.length
   · rw [List.getElem?_append_left hi] at hl
     rw [List.getElem?_append_left (by omega)] at hu
     exact hold i l u hl hu
   · have hlt:=(List.getElem?_eq_some_iff.1 hl).1
     simp at hlt
     have hi':i=ps.length:=by omega
     subst hi'
     rw [List.getElem?_append_right (Nat.le_refl _),Nat.sub_self] at hl
     rw [List.getElem?_append_right (by omega),hv,Nat.sub_self] at hu
     simp only [List.getElem?_cons_zero,Option.some.injEq] at hl hu
     subst hl hu
     exact hnew
theorem LinksIn.snoc {w:World} {p:Nat→Prop} {base:Nat} {v:Value} {ls:List SL} {vs:List Value} {x:SL} {pv:Value} (ho:w.ownsRow base 72 4 v (ls.length+1) (encL encLk (ls.zip vs) ++ [.string x.a,.string x.b,.int .i64 x.wt,pv])) (hv:vs.length=ls.length)
   (hold:∀ (i:Nat) (l:SL) (u:Value),ls[i]? = some l→vs[i]? = some u→PairsIn w p u l.es) (hnew:PairsIn w p pv x.es) (hb:∀ q,base≤q→p q):LinksIn w p v (ls ++ [x]):=by
 refine ⟨vs ++ [pv],by simp [hv],?_,fun q hq=>⟨hb q (ho.lt q hq).1,(ho.lt q hq).2⟩,fun i l u hl hu => ?_⟩
 · rw [zip_snoc hv,List.length_append]
   have e:encL encLk (ls.zip vs ++ [(x,pv)])=encL encLk (ls.zip vs) ++ [.string x.a,.string x.b,.int .i64 x.wt,pv]:=by simp [encL,encLk]
   rw [e]
   exact own_slice ho
 · by_cases hi:i < ls.length
   · rw [List.getElem?_append_left hi] at hl
     rw [List.getElem?_append_left (by omega)] at hu
     exact hold i l u hl hu
   · have hlt:=(List.getElem?_eq_some_iff.1 hl).1
     simp at hlt
     have hi':i=ls.length:=by omega
     subst hi'
     rw [List.getElem?_append_right (Nat.le_refl _),Nat.sub_self] at hl
     rw [List.getElem?_append_right (by omega),hv,Nat.sub_self] at hu
     simp only [List.getElem?_cons_zero,Option.some.injEq] at hl hu
     subst hl hu
     exact hnew
abbrev zCells (s:St) (b1 b2 b3 b4:Bool) (pv lv:Value):Array Value:=#[.bool s.dir,.bool b1,.bool b2,.bool b3,.bool b4,.bool s.pr,.int .u8 s.hk,pv,lv]
theorem ZRep.newP {w3 w63 w':World} {sb n1:Nat} {s:St} {b1 b2 b3 b4:Bool} {pv0 lv v':Value} {ps':List SP} (hc:Cells w3 sb (zCells s b1 b2 b3 b4 pv0 lv) 91) (hl:LinksIn w3 (fun q=>q≠sb∧q≠n1) lv s.ls) (hp:PtsIn w63 (fun q=>q≠sb∧q≠n1) v' ps') (f:Fr0 w3 w63)
   (f':Fr (fun q=>q=n1) (w63.setCell ⟨sb,7,none⟩ v') w') (hn:sb≠n1):ZRep w' sb { s with ps:=ps' }:=by
 have fs:Fr (fun q=>q=sb) w63 (w63.setCell ⟨sb,7,none⟩ v'):=(Fr.refl (fun q=>q=sb) _).setCell (.inl rfl) _
 have h1:=Cells.fr (Cells.setCell (Cells.fr hc f (fun q=>q)) 7 v') f' (fun q=>hn q)
 refine ⟨b1,b2,b3,b4,v',lv,h1,?_,?_⟩
 · exact ((hp.fr fs fun q h _ e=>h.1 e).fr f' fun q h _ e=>h.2 e).imp fun q h _=>h.1
 · exact (((hl.fr f fun _ _ _ q=>q).fr fs fun q h _ e=>h.1 e).fr f' fun q h _ e=>h.2 e).imp fun q h _=>h.1
theorem ZRep.newL {w3 w63 w':World} {sb n1:Nat} {s:St} {b1 b2 b3 b4:Bool} {pv lv0 v':Value} {ls':List SL} (hc:Cells w3 sb (zCells s b1 b2 b3 b4 pv lv0) 91) (hp:PtsIn w3 (fun q=>q≠sb∧q≠n1) pv s.ps) (hl:LinksIn w63 (fun q=>q≠sb∧q≠n1) v' ls') (f:Fr0 w3 w63)
   (f':Fr (fun q=>q=n1) (w63.setCell ⟨sb,8,none⟩ v') w') (hn:sb≠n1):ZRep w' sb { s with ls:=ls' }:=by
 have fs:Fr (fun q=>q=sb) w63 (w63.setCell ⟨sb,8,none⟩ v'):=(Fr.refl (fun q=>q=sb) _).setCell (.inl rfl) _
 have h1:=Cells.fr (Cells.setCell (Cells.fr hc f (fun q=>q)) 8 v') f' (fun q=>hn q)
 refine ⟨b1,b2,b3,b4,pv,v',h1,?_,?_⟩
 · exact (((hp.fr f fun _ _ _ q=>q).fr fs fun q h _ e=>h.1 e).fr f' fun q h _ e=>h.2 e).imp fun q h _=>h.1
 · exact ((hl.fr fs fun q h _ e=>h.1 e).fr f' fun q h _ e=>h.2 e).imp fun q h _=>h.1
end Go.Proofs.YtbafaadmlpamiaaGreatDoor
