import Derived.Test.YtbafaadmlpamiaaGreatDoorP1
import Derived.Test.YtbafaadmlpamiaaGreatDoorT1
import Derived.Laws.OwnMore
import Derived.Test.YtbafaadmlpamiaaGreatDoorC1
import Derived.Deep.RegionHeld3
set_option maxRecDepth 100000
set_option maxHeartbeats 1000000
namespace Go.Proofs.YtbafaadmlpamiaaGreatDoor
open Go Go.Hy Go.RowKit
theorem insK_at:∀ (L:List PP) (p:PP) (k:Nat),(∀ q∈L.take k,ltB q.1 p.1=true)→(∀ q,L[k]? = some q→ltB q.1 p.1=false∧q.1≠p.1)→insK L p=L.take k ++ p :: L.drop k
 | [],p,k,_,_=>by simp [insK]
 | q :: l,p,0,_,h=>by
   obtain ⟨h1,h2⟩:=h q rfl
   simp [insK,h1,h2]
 | q :: l,p,k+1,h,g=>by
   have h1:=h q (by simp)
   have:=insK_at l p k (fun x hx=>h x (by simp [hx])) (fun x hx=>g x (by simpa using hx))
   simp [insK,h1,this]
theorem insK_set:∀ (L:List PP) (p q:PP) (k:Nat),(∀ q∈L.take k,ltB q.1 p.1=true)→L[k]? = some q→q.1=p.1→insK L p=L.set k p
 | [],p,q,k,_,h,_=>by simp at h
 | x :: l,p,q,0,_,h,e=>by
   simp at h
   subst h
   rw [insK,e,ltB_irrefl]
   simp
 | x :: l,p,q,k+1,h,g,e=>by
   have h1:=h x (by simp)
   have:=insK_set l p q k (fun x hx=>h x (by simp [hx])) (by simpa using g) e
   simp [insK,h1,this]
theorem encP_cons (q:PP) (l:List PP):encL encP (q :: l)=.string q.1 :: .string q.2 :: encL encP l:=rfl
theorem encP_app (l m:List PP):encL encP (l ++ m)=encL encP l ++ encL encP m:=by simp [encL]
theorem encP_take:∀ (l:List PP) (k:Nat),encL encP (l.take k)=(encL encP l).take (k * 2)
 | [],k=>by simp [encL]
 | q :: l,0=>by simp [encL]
 | q :: l,k+1=>by
   rw [List.take_succ_cons,encP_cons,encP_cons,encP_take l k,show (k+1) * 2=k * 2+1+1 by omega,List.take_succ_cons,List.take_succ_cons]
theorem encP_set (p:PP):∀ (l:List PP) (k:Nat),encL encP (l.set k p)=((encL encP l).set (k * 2) (.string p.1)).set (k * 2+1) (.string p.2)
 | [],k=>by simp [encL]
 | q :: l,0=>by simp [encP_cons]
 | q :: l,k+1=>by
   rw [List.set_cons_succ,encP_cons,encP_cons,encP_set p l k,show (k+1) * 2=k * 2+1+1 by omega,List.set_cons_succ,List.set_cons_succ,List.set_cons_succ,List.set_cons_succ]
theorem encP_len (l:List PP):(encL encP l).length=l.length * 2:=encL_len encP 2 (fun _=>rfl) l
theorem own_take {w:World} {base:Nat} {e:TypeId} {size:Nat} {ao:Option Addr} {n cap k:Nat} {xs:List Value} (h:w.ownsRow base e size (.slice ao n cap) n xs) (hk:k≤n):w.ownsRow base e size (.slice ao k cap) k (xs.take (k * size)):=by
 refine ⟨?_,?_⟩
 · rw [List.length_take,h.1]
   exact Nat.min_eq_left (Nat.mul_le_mul_right _ hk)
 · rcases h.2 with ⟨hv,h0⟩|⟨g,cap',cur,hv,hb,hg,hle,hm,hsz,htk⟩
   · cases hv
     exact .inl ⟨by rw [show k=0 by omega],by omega⟩
   · cases hv
     refine .inr ⟨g,cap,cur,rfl,hb,hg,by omega,hm,hsz,?_⟩
     rw [← htk,List.take_take,Nat.min_eq_left (Nat.mul_le_mul_right _ hk)]
theorem own_pair {w:World} {base:Nat} {v:Value} {L:List PP} (h:w.ownsRow base 30 2 v L.length (encL encP L)) (hn:0 < L.length) :
   ∃ g cap,v=.slice (some ⟨g,0,none⟩) L.length cap∧L.length≤cap∧base≤g∧g < w.heap.size∧∀ (j:Nat) (q:PP),L[j]? = some q→w.cell? ⟨g,j * 2,none⟩=some (.string q.1)∧w.cell? ⟨g,j * 2+1,none⟩=some (.string q.2):=by
 obtain ⟨g,cap,rfl,hb,hl⟩:=h.form hn
 refine ⟨g,cap,rfl,?_,hb,hl,fun j q hj => ?_⟩
 · obtain ⟨ao,cap',e,hc,_⟩:=own_slice h
   cases e
   exact hc
 · obtain ⟨ao,cap',e,hc,hr⟩:=own_slice h
   cases e
   have e:=List.getElem?_eq_some_iff.1 hj
   have x0:=encL_at encP 2 (fun _=>rfl) L j 0 e.1 (by decide)
   have x1:=encL_at encP 2 (fun _=>rfl) L j 1 e.1 (by decide)
   have ei:L[j]! = q:=by rw [getElem!_pos L j e.1];exact e.2
   rw [ei] at x0 x1
   obtain ⟨ob,e0,h1,h2⟩:=hr (j * 2+0) _ x0
   obtain ⟨ob',e',_,h3⟩:=hr (j * 2+1) _ x1
   cases e0
   cases e'
   exact ⟨h2,h3⟩
structure BK (w:World) (prs:List PP) (i:Nat) (v:Value) (L:List PP) (wr:World):Prop where
 is:L=(prs.take i).foldl insK []
 row:wr.ownsRow w.heap.size 30 2 v L.length (encL encP L)
 nil:L = []→v=.slice none 0 0
 fr:Fr0 w wr
theorem insK_len2 (L:List PP) (p:PP):(insK L p).length≤L.length+1:=by
 induction L with
 | nil=>simp [insK]
 | cons q l ih =>
   unfold insK
   split
   · simp;exact ih
   · split <;> simp
theorem foldK_len2:∀ (prs L:List PP),(prs.foldl insK L).length≤L.length+prs.length
 | [],L=>by simp
 | p :: prs,L=>by
   have:=foldK_len2 prs (insK L p)
   have:=insK_len2 L p
   simp only [List.foldl_cons,List.length_cons]
   omega
theorem BK.small {w:World} {prs:List PP} {i:Nat} {v:Value} {L:List PP} {wr:World} (h:BK w prs i v L wr) (hs:prs.length≤100000):L.length≤100000:=by
 have h1:=foldK_len2 (prs.take i) []
 rw [← h.is] at h1
 simp only [List.length_nil,List.length_take] at h1
 omega
theorem own_of_block {w:World} {B:Nat} {cs:Array Value} {t:TypeId} {size:Nat} (h:w.heap[B]? = some (.cells cs t (0,0))) (hc:cs.size=size):w.ownsRow B t size (.slice (some ⟨B,0,none⟩) 1 1) 1 cs.toList :=
 ⟨by simp [hc],.inr ⟨B,1,cs,rfl,Nat.le_refl _,h,Nat.le_refl _,by decide,by omega,by rw [Nat.one_mul,← hc];exact List.take_length⟩⟩
theorem yields_own {w:World} {base:Nat} {e:TypeId} {size:Nat} {v:Value} {n:Nat} {xs:List Value} (h:w.ownsRow base e size v n xs):Yld w v n xs:=by
 rcases h.2 with ⟨hv,h0⟩|⟨g,cap,cur,hv,_,_,_,_,_,_⟩
 · have hl:=h.1
   rw [h0,Nat.zero_mul] at hl
   exact .inl ⟨0,by rw [hv],h0,List.eq_nil_of_length_eq_zero hl⟩
 · refine .inr ⟨⟨g,0,none⟩,cap,hv,fun j u hj => ?_⟩
   obtain ⟨ao,cap',e,_,hr⟩:=own_slice h
   rw [hv] at e
   cases e
   obtain ⟨ob,e0,_,h2⟩:=hr j u hj
   cases e0
   rw [Addr.add_lit,Nat.zero_add]
   exact h2
theorem yields_drop {w:World} {g o m c:Nat} {L:List PP} {j:Nat} (ho:o=j * 2) (hm:m=L.length - j) (h:∀ (i:Nat) (q:PP),L[i]? = some q→w.cell? ⟨g,i * 2,none⟩=some (.string q.1)∧w.cell? ⟨g,i * 2+1,none⟩=some (.string q.2)) :
   Yld w (.slice (some ⟨g,o,none⟩) m c) (L.length - j) (encL encP (L.drop j)):=by
 subst ho hm
 refine .inr ⟨⟨g,j * 2,none⟩,c,rfl,fun i u hi => ?_⟩
 rw [Addr.add_lit]
 have hlt:=(List.getElem?_eq_some_iff.1 hi).1
 rw [encP_len,List.length_drop] at hlt
 have hx:j+i / 2 < L.length:=by omega
 have hg:=List.getElem?_eq_getElem hx
 obtain ⟨h1,h2⟩:=h _ _ hg
 have hd:(L.drop j)[i / 2]? = some L[j+i / 2]:=by rw [List.getElem?_drop];exact hg
 have hm:=encL_mem encP 2 (L.drop j) (fun _ _=>rfl) (i / 2) (i % 2) _ hd (by omega)
 rw [show i / 2 * 2+i % 2=i by omega,hi] at hm
 rcases Nat.mod_two_eq_zero_or_one i with e|e
 · rw [e] at hm
   have:u=.string L[j+i / 2].1:=Option.some.inj hm
   rw [this,show j * 2+i=(j+i / 2) * 2 by omega]
   exact h1
 · rw [e] at hm
   have:u=.string L[j+i / 2].2:=Option.some.inj hm
   rw [this,show j * 2+i=(j+i / 2) * 2+1 by omega]
   exact h2
theorem yields_row {w:World} {base g o m c cap:Nat} {L:List PP} {j:Nat} (ho:o=j * 2) (hm:m=L.length - j) (hn:0 < L.length) (h:w.ownsRow base 30 2 (.slice (some ⟨g,0,none⟩) L.length cap) L.length (encL encP L)) :
   Yld w (.slice (some ⟨g,o,none⟩) m c) (L.length - j) (encL encP (L.drop j)):=by
 obtain ⟨g',cap',e,_,_,_,hc⟩:=own_pair h hn
 cases e
 exact yields_drop ho hm hc
theorem yields_none {w:World} {ao:Option Addr} {n c m:Nat} {news:List Value} (hn:n=0) (hm:m=0) (hw:news = []):Yld w (.slice ao n c) m news:=by
 subst hn hm hw
 cases ao with
 | none=>exact .inl ⟨c,rfl,rfl,rfl⟩
 | some a=>exact .inr ⟨a,c,rfl,fun j u hj=>by simp at hj⟩
theorem encP_one (l:List PP):∀ u∈encL encP l,u.oneCell'=true:=by
 intro u hu
 simp only [encL,List.mem_flatMap,encP] at hu
 obtain ⟨p,_,h⟩:=hu
 simp only [List.mem_cons,List.not_mem_nil,or_false] at h
 rcases h with rfl|rfl <;> rfl
theorem BK.ins {w wr w6:World} {prs:List PP} {i j:Nat} {v v':Value} {L:List PP} {p:PP} (h:BK w prs i v L wr) (htk:prs.take (i+1)=prs.take i ++ [p]) (hL:insK L p=L.take j ++ p :: L.drop j) (hj:j≤L.length)
   (ho:w6.ownsRow w.heap.size 30 2 v' (j+(1+(L.length - j))) ((encL encP L).take (j * 2) ++ ([.string p.1,.string p.2] ++ encL encP (L.drop j)))) (f:Fr0 w w6):BK w prs (i+1) v' (insK L p) w6:=by
 refine ⟨by rw [htk,List.foldl_append,← h.is];rfl,?_,fun e => ?_,f⟩
 · have e1:(insK L p).length=j+(1+(L.length - j)):=by rw [hL];simp;omega
   have e2:encL encP (insK L p)=(encL encP L).take (j * 2) ++ ([.string p.1,.string p.2] ++ encL encP (L.drop j)):=by rw [hL,encP_app,encP_take,encP_cons];rfl
   rw [e1,e2]
   exact ho
 · rw [hL] at e;simp at e
theorem BK.set {w wr w6:World} {prs:List PP} {i j:Nat} {v:Value} {L:List PP} {p:PP} (h:BK w prs i v L wr) (htk:prs.take (i+1)=prs.take i ++ [p]) (hL:insK L p=L.set j p)
   (ho:w6.ownsRow w.heap.size 30 2 v L.length (((encL encP L).set (j * 2) (.string p.1)).set (j * 2+1) (.string p.2))) (hn:0 < L.length) (f:Fr0 w w6):BK w prs (i+1) v (insK L p) w6:=by
 refine ⟨by rw [htk,List.foldl_append,← h.is];rfl,?_,fun e => ?_,f⟩
 · rw [hL,encP_set,List.length_set]
   exact ho
 · rw [hL] at e
   have:=congrArg List.length e
   simp at this
   rw [this] at hn
   simp at hn
theorem bykeys (w:World) (v:Value) (prs:List PP) (h:PrAt w v prs) (hs:prs.length≤100000):Calls Tryz.prog 23 #[v] w fun e w'=>∃ ao cap,e=.returned (.slice ao (byK prs).length cap)∧PairsAt w' w.heap.size (.slice ao (byK prs).length cap) (byK prs)∧Fr0 w w':=by
 have HP:=Lib.hid h
 obtain ⟨ao,cap,rfl, -⟩:=h
 go_enter Tryz.func23,Tryz.ntmps23
 go_wp2_with fail
 go_loopg [3,9] prs.length (fun k v c wr=>∃ (i:Nat) (L:List PP),k+i=prs.length∧c=.int .i64 (i:Nat)∧BK w prs i v L wr)
 case atStart=>exact ⟨0,[],rfl,rfl,rfl,World.ownsRow_nil _ _ _ _,fun _=>rfl,Fr.refl _ _⟩
 case round =>
   obtain ⟨i,L,hk,rfl,R⟩:=hrel
   have A:=hid2 hk R
   clear hk R
   by_cases hi:i < prs.length
   · have hg:=List.getElem?_eq_getElem hi
     obtain ⟨ao',cap',e,hr⟩:=HP.out.fr A.out.2.fr
     cases e
     obtain ⟨ob,off,rfl,hl,c0,c1⟩:=hr i _ hg
     have htk:prs.take (i+1)=prs.take i ++ [prs[i]]:=List.take_succ_eq_append_getElem hi
     generalize prs[i]=p at c0 c1 htk
     have TK:=Lib.hid htk
     have SZ:=Lib.hid (A.out.2.fr.size)
     obtain ⟨bo,cap3,rfl,hc3, -⟩:=own_slice A.out.2.row
     have HC:=Lib.hid hc3
     clear hg hr htk hc3
     go_wp2_with fail
     have BX:=Lib.hid (Cells.new wr #[.string p.1,.string p.2] 30)
     have FA:=Lib.hid ((Fr.refl (fun _=>False) wr).alloc (.cells #[.string p.1,.string p.2] 30))
     clear c0 c1
     generalize hW:wr.alloc (.cells #[.string p.1,.string p.2] 30)=W at *
     obtain ⟨g0,hg0⟩ : ∃ n,n=gk:=⟨_,rfl⟩
     subst hg0
     obtain ⟨wo,hwo⟩ : ∃ x,x=wr:=⟨_,rfl⟩
     subst hwo
     go_loopg [6] L.length (fun k c w2=>∃ j:Nat,k+j=L.length∧c=.int .i64 (j:Nat)∧(∀ q∈L.take j,ltB q.1 p.1=true)∧Fr0 W w2)
     case atStart=>exact ⟨0,rfl,rfl,fun q hq=>by simp at hq,Fr.refl _ _⟩
     case round =>
       obtain ⟨j,hkj,rfl,hlt,f2⟩:=hrel
       have I:=hid3 hkj hlt f2
       clear hkj hlt f2
       have b0:=(BX.out.fr I.out.2.2 (fun q=>q)).cell 0 (.string p.1) rfl
       have b1:=(BX.out.fr I.out.2.2 (fun q=>q)).cell 1 (.string p.2) rfl
       have R2:=Lib.hid (ownsRow_fr (ownsRow_fr A.out.2.row FA.out (fun _ _ q=>q)) I.out.2.2 (fun _ _ q=>q))
       by_cases hj:j < L.length
       · obtain ⟨g,cap',e,hcap,hb,hgl,hcells⟩:=own_pair R2.out (by omega)
         cases e
         have hq:=List.getElem?_eq_getElem hj
         obtain ⟨d0,d1⟩:=hcells j _ hq
         generalize L[j]=q at d0 d1 hq
         have hj':(j:Int) < (L.length:Int):=by omega
         have HQ:=hid2 hq hb
         clear hq hb hcells
         cases hl1:ltB q.1 p.1 with
         | true =>
           have hl2:Op.bytesLess q.1.toList p.1.toList=true:=hl1
           have HL:=Lib.hid hl1
           clear hl1
           go_wp2_with fail
           go_quiet (fail)
           go_wp2_with fail
           go_roundg (gk - 1)
           case measure=>have:=I.out.1;omega
           case rel =>
             refine ⟨j+1,by have:=I.out.1;omega,congrArg (Value.int .i64) (by have:=A.out.2.small hs;unfold wrap64;omega),?_,I.out.2.2.drewN _⟩
             intro x hx
             rw [List.take_succ_eq_append_getElem hj] at hx
             rcases List.mem_append.1 hx with z|z
             · exact I.out.2.1 x z
             · simp only [List.mem_singleton] at z
               have:=HQ.out.1
               rw [List.getElem?_eq_getElem hj] at this
               rw [z,Option.some.inj this]
               exact HL.out
         | false =>
           have hl2:Op.bytesLess q.1.toList p.1.toList=false:=hl1
           have HL:=Lib.hid hl1
           clear hl1
           by_cases he:q.1=p.1
           · have HE:=Lib.hid he
             rw [he] at d0 hl2
             clear he
             have z0:=R2.out.frozenAt (j * 2)
             have z1:=R2.out.frozenAt (j * 2+1)
             go_wp2_with fail
             go_quiet (fail)
             go_wp2_with fail
             go_quiet (fail)
             go_wp2_with fail
             go_roundg (g0 - 1)
             case measure=>have:=A.out.1;omega
             case rel =>
               refine ⟨i+1,insK L p,by have:=A.out.1;omega,by simp,?_⟩
               exact BK.set A.out.2 TK.out (insK_set L p q j I.out.2.1 HQ.out.1 HE.out) (World.ownsRow.stored (World.ownsRow.stored R2.out _ _).1 _ _).1 (by omega) (((((A.out.2.fr.trans0 FA.out).trans0 I.out.2.2).drewN _).setCell (.inr HQ.out.2) _).setCell (.inr HQ.out.2) _)
           · have he1:(q.1.toList == p.1.toList)=false:=by
               cases e1:q.1.toList == p.1.toList with
               | false=>rfl
               | true=>exact absurd (toList_inj (beq_iff_eq.1 e1)) he
             have HE:=Lib.hid he
             clear he
             go_wp2_with fail
             go_quiet (fail)
             go_wp2_with fail
             go_quiet (fail)
             go_wp2_with fail
             have hc1:¬ cap3=0:=by have:=HC.out;omega
             have hc2:¬ cap3=j:=by have:=HC.out;omega
             have hI0:(0:Int)≤(j:Int):=by omega
             have hI1:(j:Int)≤(cap3:Int):=by have:=HC.out;omega
             have hI2:(j:Int)≤(L.length:Int):=by omega
             go_region_held3 (fun w'=>w'.cell? ⟨wo.heap.size,0,none⟩=some (.string p.1)∧w'.cell? ⟨wo.heap.size,1,none⟩=some (.string p.2)) (go_keep)
               (first
                 | (refine step_appG 26 (by rfl) (.tmp 51) (.tmp 54) (by rfl) 30 _ 2 32 Tryz.underlying26 info30 rfl (by decide) (by decide) wr.heap.size (.slice (some ⟨wr.heap.size,0,none⟩) 1 1) 1 [.string p.1,.string p.2] (by rfl) (own_of_block (heap_alloc_new _ _) rfl) _ (L.length - j) (encL encP (L.drop j)) (by rfl) (yields_row rfl rfl (by omega) (ownsRow_fr R2.out (show Fr0 wr _ from by ((repeat' with_reducible first|assumption|exact frR|apply frD|apply frN|apply frA|apply frM|apply frC);all_goals (simp;try omega))) (fun _ _ q=>q))) (by rw [encP_len,List.length_drop]) (encP_one _) (by have:=A.out.2.small hs;omega) (by simp) ?_
                    intro v5 w5 ho5 f5 hat5
                    have FW:=Lib.hid (show Fr0 wr w5 from Fr.trans (by ((repeat' with_reducible first|assumption|exact frR|apply frD|apply frN|apply frA|apply frM|apply frC);all_goals (simp;try omega))) f5 (fun q hq=>.inr (by cases hq;exact Nat.le_refl _)))
                    have O5:=hid2 ho5 hat5
                    have b50:=(BX.out.fr (I.out.2.2.trans0 FW.out) (fun q=>q)).cell 0 (.string p.1) rfl
                    have b51:=(BX.out.fr (I.out.2.2.trans0 FW.out) (fun q=>q)).cell 1 (.string p.2) rfl
                    clear ho5 f5 hat5)
                 | (refine step_appG 26 (by rfl) (.tmp 49) (.tmp 55) (by rfl) 30 _ 2 32 Tryz.underlying26 info30 rfl (by decide) (by decide) w.heap.size (.slice (some ⟨g,0,none⟩) j cap3) j ((encL encP L).take (j * 2)) (by rfl) (own_take (ownsRow_fr R2.out FW.out (fun _ _ q=>q)) (by omega)) v5 (1+(L.length - j)) ([.string p.1,.string p.2] ++ encL encP (L.drop j)) (by rfl) (yields_own O5.out.1) O5.out.1.1 (by intro u hu;rcases List.mem_append.1 hu with z|z;(simp at z;rcases z with rfl|rfl <;> rfl);exact encP_one _ u z) (by have:=A.out.2.small hs;omega) (by have:=FW.out.size;have:=I.out.2.2.size;have:=FA.out.size;have:=SZ.out;omega) ?_
                    intro v6 w6 ho6 f6 hat6
                    have F6:=hid2 ho6 f6
                    have b60:=((BX.out.fr (I.out.2.2.trans0 FW.out) (fun q=>q)).fr f6 (fun q=>by have:=(A.out.2.row.lt _ q).2;omega)).cell 0 (.string p.1) rfl
                    have b61:=((BX.out.fr (I.out.2.2.trans0 FW.out) (fun q=>q)).fr f6 (fun q=>by have:=(A.out.2.row.lt _ q).2;omega)).cell 1 (.string p.2) rfl
                    clear ho6 f6 hat6))
             go_wp2_with fail
             go_roundg (g0 - 1)
             case measure=>have:=A.out.1;omega
             case rel =>
               refine ⟨i+1,insK L p,by have:=A.out.1;omega,by simp,?_⟩
               exact BK.ins A.out.2 TK.out (insK_at L p j I.out.2.1 (fun x hx=>by have:=Option.some.inj (HQ.out.1.symm.trans hx);subst this;exact ⟨HL.out,HE.out⟩)) (by omega) F6.out.1 ((((A.out.2.fr.trans0 FA.out).trans0 I.out.2.2).trans0 FW.out).trans F6.out.2 (fun k hk=>.inr (A.out.2.row.lt k hk).1))
       · have hj':¬ (j:Int) < (L.length:Int):=by omega
         have hjl:j=L.length:=by have:=I.out.1;omega
         by_cases h0:L = []
         · subst h0
           have e0:=A.out.2.nil rfl
           simp only [Value.slice.injEq] at e0
           obtain ⟨rfl, -,rfl⟩:=e0
           have hjl':j=0:=hjl
           subst hjl'
           clear hjl
           go_wp2_with fail
           go_quiet (fail)
           go_wp2_with fail
           go_quiet (fail)
           go_wp2_with fail
           go_region_held3 (fun w'=>w'.cell? ⟨wo.heap.size,0,none⟩=some (.string p.1)∧w'.cell? ⟨wo.heap.size,1,none⟩=some (.string p.2)) (go_keep)
             (first
               | (refine step_appG 26 (by rfl) (.tmp 51) (.tmp 54) (by rfl) 30 _ 2 32 Tryz.underlying26 info30 rfl (by decide) (by decide) wr.heap.size (.slice (some ⟨wr.heap.size,0,none⟩) 1 1) 1 [.string p.1,.string p.2] (by rfl) (own_of_block (heap_alloc_new _ _) rfl) _ ([].length - 0) (encL encP ([].drop 0)) (by rfl) (yields_none (by first|rfl|omega) (by simp) (by simp [encL])) (by rw [encP_len,List.length_drop]) (encP_one _) (by have:=A.out.2.small hs;omega) (by simp) ?_
                  intro v5 w5 ho5 f5 hat5
                  have FW:=Lib.hid (show Fr0 wr w5 from Fr.trans (by ((repeat' with_reducible first|assumption|exact frR|apply frD|apply frN|apply frA|apply frM|apply frC);all_goals (simp;try omega))) f5 (fun q hq=>.inr (by cases hq;exact Nat.le_refl _)))
                  have O5:=hid2 ho5 hat5
                  have b50:=(BX.out.fr (I.out.2.2.trans0 FW.out) (fun q=>q)).cell 0 (.string p.1) rfl
                  have b51:=(BX.out.fr (I.out.2.2.trans0 FW.out) (fun q=>q)).cell 1 (.string p.2) rfl
                  clear ho5 f5 hat5)
               | (refine step_appG 26 (by rfl) (.tmp 49) (.tmp 55) (by rfl) 30 _ 2 32 Tryz.underlying26 info30 rfl (by decide) (by decide) w.heap.size (.slice none 0 0) 0 ((encL encP []).take (0 * 2)) (by rfl) (own_take (ownsRow_fr R2.out FW.out (fun _ _ q=>q)) (by omega)) v5 (1+([].length - 0)) ([.string p.1,.string p.2] ++ encL encP ([].drop 0)) (by rfl) (yields_own O5.out.1) O5.out.1.1 (by intro u hu;rcases List.mem_append.1 hu with z|z;(simp at z;rcases z with rfl|rfl <;> rfl);exact encP_one _ u z) (by have:=A.out.2.small hs;omega) (by have:=FW.out.size;have:=I.out.2.2.size;have:=FA.out.size;have:=SZ.out;omega) ?_
                  intro v6 w6 ho6 f6 hat6
                  have F6:=hid2 ho6 f6
                  have b60:=((BX.out.fr (I.out.2.2.trans0 FW.out) (fun q=>q)).fr f6 (fun q=>by have:=(A.out.2.row.lt _ q).2;omega)).cell 0 (.string p.1) rfl
                  have b61:=((BX.out.fr (I.out.2.2.trans0 FW.out) (fun q=>q)).fr f6 (fun q=>by have:=(A.out.2.row.lt _ q).2;omega)).cell 1 (.string p.2) rfl
                  clear ho6 f6 hat6))
           go_wp2_with fail
           go_roundg (g0 - 1)
           case measure=>have:=A.out.1;omega
           case rel =>
             refine ⟨i+1,insK [] p,by have:=A.out.1;omega,by simp,?_⟩
             exact BK.ins A.out.2 TK.out (insK_at [] p 0 I.out.2.1 (fun x hx=>by simp at hx)) (by omega) F6.out.1 ((((A.out.2.fr.trans0 FA.out).trans0 I.out.2.2).trans0 FW.out).trans F6.out.2 (fun k hk=>.inr (A.out.2.row.lt k hk).1))
         · have hpos:0 < L.length:=List.length_pos_iff.2 h0
           obtain ⟨g,cap',e,hcap,hb,hgl,hcells⟩:=own_pair R2.out hpos
           cases e
           clear hcells
           subst hjl
           have hc1:¬ cap3=0:=by omega
           have hI0:(0:Int)≤(L.length:Int):=by omega
           have hI1:(L.length:Int)≤(cap3:Int):=by omega
           by_cases hc2:cap3=L.length
           · subst hc2
             go_wp2_with fail
             go_quiet (fail)
             go_wp2_with fail
             go_quiet (fail)
             go_wp2_with fail
             go_region_held3 (fun w'=>w'.cell? ⟨wo.heap.size,0,none⟩=some (.string p.1)∧w'.cell? ⟨wo.heap.size,1,none⟩=some (.string p.2)) (go_keep)
               (first
                 | (refine step_appG 26 (by rfl) (.tmp 51) (.tmp 54) (by rfl) 30 _ 2 32 Tryz.underlying26 info30 rfl (by decide) (by decide) wr.heap.size (.slice (some ⟨wr.heap.size,0,none⟩) 1 1) 1 [.string p.1,.string p.2] (by rfl) (own_of_block (heap_alloc_new _ _) rfl) _ (L.length - L.length) (encL encP (L.drop L.length)) (by rfl) (yields_none (by first|rfl|omega) (by simp) (by simp [encL])) (by rw [encP_len,List.length_drop]) (encP_one _) (by have:=A.out.2.small hs;omega) (by simp) ?_
                    intro v5 w5 ho5 f5 hat5
                    have FW:=Lib.hid (show Fr0 wr w5 from Fr.trans (by ((repeat' with_reducible first|assumption|exact frR|apply frD|apply frN|apply frA|apply frM|apply frC);all_goals (simp;try omega))) f5 (fun q hq=>.inr (by cases hq;exact Nat.le_refl _)))
                    have O5:=hid2 ho5 hat5
                    have b50:=(BX.out.fr (I.out.2.2.trans0 FW.out) (fun q=>q)).cell 0 (.string p.1) rfl
                    have b51:=(BX.out.fr (I.out.2.2.trans0 FW.out) (fun q=>q)).cell 1 (.string p.2) rfl
                    clear ho5 f5 hat5)
                 | (refine step_appG 26 (by rfl) (.tmp 49) (.tmp 55) (by rfl) 30 _ 2 32 Tryz.underlying26 info30 rfl (by decide) (by decide) w.heap.size (.slice (some ⟨g,0,none⟩) L.length _) L.length ((encL encP L).take (L.length * 2)) (by rfl) (own_take (ownsRow_fr R2.out FW.out (fun _ _ q=>q)) (by omega)) v5 (1+(L.length - L.length)) ([.string p.1,.string p.2] ++ encL encP (L.drop L.length)) (by rfl) (yields_own O5.out.1) O5.out.1.1 (by intro u hu;rcases List.mem_append.1 hu with z|z;(simp at z;rcases z with rfl|rfl <;> rfl);exact encP_one _ u z) (by have:=A.out.2.small hs;omega) (by have:=FW.out.size;have:=I.out.2.2.size;have:=FA.out.size;have:=SZ.out;omega) ?_
                    intro v6 w6 ho6 f6 hat6
                    have F6:=hid2 ho6 f6
                    have b60:=((BX.out.fr (I.out.2.2.trans0 FW.out) (fun q=>q)).fr f6 (fun q=>by have:=(A.out.2.row.lt _ q).2;omega)).cell 0 (.string p.1) rfl
                    have b61:=((BX.out.fr (I.out.2.2.trans0 FW.out) (fun q=>q)).fr f6 (fun q=>by have:=(A.out.2.row.lt _ q).2;omega)).cell 1 (.string p.2) rfl
                    clear ho6 f6 hat6))
             go_wp2_with fail
             go_roundg (g0 - 1)
             case measure=>have:=A.out.1;omega
             case rel =>
               refine ⟨i+1,insK L p,by have:=A.out.1;omega,by simp,?_⟩
               exact BK.ins A.out.2 TK.out (insK_at L p L.length I.out.2.1 (fun x hx=>by simp at hx)) (by omega) F6.out.1 ((((A.out.2.fr.trans0 FA.out).trans0 I.out.2.2).trans0 FW.out).trans F6.out.2 (fun k hk=>.inr (A.out.2.row.lt k hk).1))
           · go_wp2_with fail
             go_quiet (fail)
             go_wp2_with fail
             go_quiet (fail)
             go_wp2_with fail
             go_region_held3 (fun w'=>w'.cell? ⟨wo.heap.size,0,none⟩=some (.string p.1)∧w'.cell? ⟨wo.heap.size,1,none⟩=some (.string p.2)) (go_keep)
               (first
                 | (refine step_appG 26 (by rfl) (.tmp 51) (.tmp 54) (by rfl) 30 _ 2 32 Tryz.underlying26 info30 rfl (by decide) (by decide) wr.heap.size (.slice (some ⟨wr.heap.size,0,none⟩) 1 1) 1 [.string p.1,.string p.2] (by rfl) (own_of_block (heap_alloc_new _ _) rfl) _ (L.length - L.length) (encL encP (L.drop L.length)) (by rfl) (yields_none (by first|rfl|omega) (by simp) (by simp [encL])) (by rw [encP_len,List.length_drop]) (encP_one _) (by have:=A.out.2.small hs;omega) (by simp) ?_
                    intro v5 w5 ho5 f5 hat5
                    have FW:=Lib.hid (show Fr0 wr w5 from Fr.trans (by ((repeat' with_reducible first|assumption|exact frR|apply frD|apply frN|apply frA|apply frM|apply frC);all_goals (simp;try omega))) f5 (fun q hq=>.inr (by cases hq;exact Nat.le_refl _)))
                    have O5:=hid2 ho5 hat5
                    have b50:=(BX.out.fr (I.out.2.2.trans0 FW.out) (fun q=>q)).cell 0 (.string p.1) rfl
                    have b51:=(BX.out.fr (I.out.2.2.trans0 FW.out) (fun q=>q)).cell 1 (.string p.2) rfl
                    clear ho5 f5 hat5)
                 | (refine step_appG 26 (by rfl) (.tmp 49) (.tmp 55) (by rfl) 30 _ 2 32 Tryz.underlying26 info30 rfl (by decide) (by decide) w.heap.size (.slice (some ⟨g,0,none⟩) L.length _) L.length ((encL encP L).take (L.length * 2)) (by rfl) (own_take (ownsRow_fr R2.out FW.out (fun _ _ q=>q)) (by omega)) v5 (1+(L.length - L.length)) ([.string p.1,.string p.2] ++ encL encP (L.drop L.length)) (by rfl) (yields_own O5.out.1) O5.out.1.1 (by intro u hu;rcases List.mem_append.1 hu with z|z;(simp at z;rcases z with rfl|rfl <;> rfl);exact encP_one _ u z) (by have:=A.out.2.small hs;omega) (by have:=FW.out.size;have:=I.out.2.2.size;have:=FA.out.size;have:=SZ.out;omega) ?_
                    intro v6 w6 ho6 f6 hat6
                    have F6:=hid2 ho6 f6
                    have b60:=((BX.out.fr (I.out.2.2.trans0 FW.out) (fun q=>q)).fr f6 (fun q=>by have:=(A.out.2.row.lt _ q).2;omega)).cell 0 (.string p.1) rfl
                    have b61:=((BX.out.fr (I.out.2.2.trans0 FW.out) (fun q=>q)).fr f6 (fun q=>by have:=(A.out.2.row.lt _ q).2;omega)).cell 1 (.string p.2) rfl
                    clear ho6 f6 hat6))
             go_wp2_with fail
             go_roundg (g0 - 1)
             case measure=>have:=A.out.1;omega
             case rel =>
               refine ⟨i+1,insK L p,by have:=A.out.1;omega,by simp,?_⟩
               exact BK.ins A.out.2 TK.out (insK_at L p L.length I.out.2.1 (fun x hx=>by simp at hx)) (by omega) F6.out.1 ((((A.out.2.fr.trans0 FA.out).trans0 I.out.2.2).trans0 FW.out).trans F6.out.2 (fun k hk=>.inr (A.out.2.row.lt k hk).1))
   · have hi':i=prs.length:=by have:=A.out.1;omega
     subst hi'
     have R:=Lib.hid A.out.2.row
     obtain ⟨ao3,cap3,rfl,_,_⟩:=own_slice A.out.2.row
     go_wp2_with fail
     go_ret
     have e:L=byK prs:=by
       have:=A.out.2.is
       rw [List.take_length] at this
       exact this
     subst e
     exact ⟨ao3,cap3,rfl,⟨own_slice R.out,fun q hq=>R.out.lt q hq⟩,A.out.2.fr⟩
theorem PairsIn.form {w:World} {p:Nat→Prop} {v:Value} {es:List PP} (h:PairsIn w p v es):∃ ao cap,v=.slice ao es.length cap:=by
 obtain ⟨⟨ao,cap,e,_⟩,_⟩:=h
 exact ⟨ao,cap,e⟩
theorem LinksIn.form {w:World} {p:Nat→Prop} {v:Value} {ls:List SL} (h:LinksIn w p v ls):∃ ao cap,v=.slice ao ls.length cap∧ls.length≤cap:=by
 obtain ⟨vs,h1,⟨ao,cap,e,hc,_⟩,_⟩:=h
 exact ⟨ao,cap,e,hc⟩
theorem LinksIn.at_ {w:World} {p:Nat→Prop} {v:Value} {ls:List SL} (h:LinksIn w p v ls) {i:Nat} {x:SL} (hi:ls[i]? = some x) :
   ∃ ob cap pv,v=.slice (some ⟨ob,0,none⟩) ls.length cap∧ob < w.heap.size∧p ob∧w.cell? ⟨ob,i * 4,none⟩=some (.string x.a)∧w.cell? ⟨ob,i * 4+1,none⟩=some (.string x.b) ∧
     w.cell? ⟨ob,i * 4+2,none⟩=some (.int .i64 x.wt)∧w.cell? ⟨ob,i * 4+3,none⟩=some pv∧PairsIn w p pv x.es:=by
 obtain ⟨vs,h1,h2,h3,h4⟩:=h
 have hlt:=(List.getElem?_eq_some_iff.1 hi).1
 have hu:=List.getElem?_eq_getElem (show i < vs.length by omega)
 have hz:(ls.zip vs)[i]? = some (x,vs[i]'(by omega)):=by rw [List.getElem?_zip_eq_some];exact ⟨hi,hu⟩
 have cell:∀ c u,c < 4→(encLk (x,vs[i]'(by omega)))[c]? = some u→∃ ob cap,v=.slice (some ⟨ob,0,none⟩) ls.length cap∧ls.length≤cap∧ob < w.heap.size∧w.cell? ⟨ob,i * 4+c,none⟩=some u:=fun c u hc hq =>
   h2.cell ((encL_mem encLk 4 _ (fun _ _=>rfl) i c _ hz hc).trans hq)
 obtain ⟨ob,cap,rfl,_,hl,c0⟩:=cell 0 _ (by decide) rfl
 obtain ⟨_,_,e1,_,_,c1⟩:=cell 1 _ (by decide) rfl
 obtain ⟨_,_,e2,_,_,c2⟩:=cell 2 _ (by decide) rfl
 obtain ⟨_,_,e3,_,_,c3⟩:=cell 3 _ (by decide) rfl
 cases e1
 cases e2
 cases e3
 exact ⟨ob,cap,_,rfl,hl,(h3 ob rfl).1,c0,c1,c2,c3,h4 i x _ hi hu⟩
theorem equal30 (w:World) (p p':Nat→Prop) (v v':Value) (ks:List ByteArray) (h:KeysIn w p v ks) (h':KeysIn w p' v' ks) (hs:ks.length≤400000) :
   Calls Tryz.prog 30 #[v,v'] w fun e w'=>e=.returned (.bool true)∧Fr0 w w':=by
 have H:=Lib.hid h
 have H':=Lib.hid h'
 obtain ⟨⟨ao,cap,rfl,_,_⟩,_⟩:=h
 obtain ⟨⟨bo,cap',rfl,_,_⟩,_⟩:=h'
 go_enter Tryz.func30,Tryz.ntmps30
 go_wp2_with fail
 go_loopg [13] ks.length (fun n c wr=>∃ i:Nat,n+i=ks.length∧c=.int .i64 (i:Nat)∧Fr0 w wr)
 case atStart=>exact ⟨0,rfl,rfl,Fr.refl _ _⟩
 case round =>
   obtain ⟨i,hk,rfl,f⟩:=hrel
   have A:=hid2 hk f
   clear hk f
   by_cases hi:i < ks.length
   · have hg:(ks.map Value.string)[i]? = some (.string ks[i]):=by rw [List.getElem?_map,List.getElem?_eq_getElem hi];rfl
     obtain ⟨ob,c1,e,_,_,d0⟩:=(H.out.fr A.out.2 (fun _ _ _ q=>q)).1.cell hg
     cases e
     obtain ⟨ob',c1',e,_,_,d1⟩:=(H'.out.fr A.out.2 (fun _ _ _ q=>q)).1.cell hg
     cases e
     generalize ks[i]=k at d0 d1
     clear hg
     go_wp2_with fail
     go_quiet (fail)
     go_wp2_with fail
     go_roundg (gk - 1)
     case measure=>have:=A.out.1;omega
     case rel=>exact ⟨i+1,by have:=A.out.1;omega,by simp,A.out.2.drewN _⟩
   · have hi':i=ks.length:=by have:=A.out.1;omega
     subst hi'
     go_wp2_with fail
     go_ret
     exact ⟨rfl,A.out.2⟩
end Go.Proofs.YtbafaadmlpamiaaGreatDoor
