import Derived.Test.YtbafaadmlpamiaaGreatDoorS1
import Derived.Test.YtbafaadmlpamiaaGreatDoorM1
import Derived.Test.YtbafaadmlpamiaaGreatDoorP1
namespace Go.Proofs.YtbafaadmlpamiaaGreatDoor
open Go Go.Hy Go.RowKit
def Two (b:Nat) (t:Tl) (pv kv lv pv' kv' lv':Value) (w:World):Prop :=
 Cells w b #[.int .u8 t.err,.string t.value,.string t.src,.string t.dst,.int .i64 t.wt,.int .i64 t.order,.int .i64 t.size,pv,kv,lv] 44 ∧
 Cells w (b+1) #[.int .u8 t.err,.string t.value,.string t.src,.string t.dst,.int .i64 t.wt,.int .i64 t.order,.int .i64 t.size,pv',kv',lv'] 61
theorem Two.fr {b:Nat} {t:Tl} {pv kv lv pv' kv' lv':Value} {w w':World} (h:Two b t pv kv lv pv' kv' lv' w) (f:Fr0 w w'):Two b t pv kv lv pv' kv' lv' w':=⟨h.1.fr f (fun q=>q),h.2.fr f (fun q=>q)⟩
def TwoC (b:Nat) (t:Tl) (pv kv lv pv' kv' lv':Value) (w:World):Prop :=
 w.cell? ⟨b,0,none⟩=some (.int .u8 t.err)∧w.cell? ⟨b,1,none⟩=some (.string t.value)∧w.cell? ⟨b,2,none⟩=some (.string t.src)∧w.cell? ⟨b,3,none⟩=some (.string t.dst) ∧
 w.cell? ⟨b,4,none⟩=some (.int .i64 t.wt)∧w.cell? ⟨b,5,none⟩=some (.int .i64 t.order)∧w.cell? ⟨b,6,none⟩=some (.int .i64 t.size)∧w.cell? ⟨b,7,none⟩=some pv∧w.cell? ⟨b,8,none⟩=some kv∧w.cell? ⟨b,9,none⟩=some lv ∧
 w.cell? ⟨b+1,0,none⟩=some (.int .u8 t.err)∧w.cell? ⟨b+1,1,none⟩=some (.string t.value)∧w.cell? ⟨b+1,2,none⟩=some (.string t.src)∧w.cell? ⟨b+1,3,none⟩=some (.string t.dst) ∧
 w.cell? ⟨b+1,4,none⟩=some (.int .i64 t.wt)∧w.cell? ⟨b+1,5,none⟩=some (.int .i64 t.order)∧w.cell? ⟨b+1,6,none⟩=some (.int .i64 t.size)∧w.cell? ⟨b+1,7,none⟩=some pv'∧w.cell? ⟨b+1,8,none⟩=some kv'∧w.cell? ⟨b+1,9,none⟩=some lv'
theorem Two.cells {b:Nat} {t:Tl} {pv kv lv pv' kv' lv':Value} {w:World} (h:Two b t pv kv lv pv' kv' lv' w):TwoC b t pv kv lv pv' kv' lv' w :=
 ⟨h.1.cell 0 _ rfl,h.1.cell 1 _ rfl,h.1.cell 2 _ rfl,h.1.cell 3 _ rfl,h.1.cell 4 _ rfl,h.1.cell 5 _ rfl,h.1.cell 6 _ rfl,h.1.cell 7 _ rfl,h.1.cell 8 _ rfl,h.1.cell 9 _ rfl,
   h.2.cell 0 _ rfl,h.2.cell 1 _ rfl,h.2.cell 2 _ rfl,h.2.cell 3 _ rfl,h.2.cell 4 _ rfl,h.2.cell 5 _ rfl,h.2.cell 6 _ rfl,h.2.cell 7 _ rfl,h.2.cell 8 _ rfl,h.2.cell 9 _ rfl⟩
theorem two_new (w:World) (t:Tl) (pv kv lv pv' kv' lv':Value):Two w.heap.size t pv kv lv pv' kv' lv'
   ((w.alloc (.cells #[.int .u8 t.err,.string t.value,.string t.src,.string t.dst,.int .i64 t.wt,.int .i64 t.order,.int .i64 t.size,pv,kv,lv] 44)).alloc (.cells #[.int .u8 t.err,.string t.value,.string t.src,.string t.dst,.int .i64 t.wt,.int .i64 t.order,.int .i64 t.size,pv',kv',lv'] 61)):=by
 refine ⟨(Cells.new w _ _).alloc _,?_⟩
 have:=Cells.new (w.alloc (.cells #[.int .u8 t.err,.string t.value,.string t.src,.string t.dst,.int .i64 t.wt,.int .i64 t.order,.int .i64 t.size,pv,kv,lv] 44)) #[.int .u8 t.err,.string t.value,.string t.src,.string t.dst,.int .i64 t.wt,.int .i64 t.order,.int .i64 t.size,pv',kv',lv'] 61
 rwa [show (w.alloc (.cells #[.int .u8 t.err,.string t.value,.string t.src,.string t.dst,.int .i64 t.wt,.int .i64 t.order,.int .i64 t.size,pv,kv,lv] 44)).heap.size=w.heap.size+1 from by simp] at this
set_option maxRecDepth 100000 in
set_option maxHeartbeats 16000000 in
theorem same42 (w:World) (p p':Nat→Prop) (v v':Value) (t:Tl) (op:Nat) (h:ToldIn w p v t) (h':ToldIn w p' v' t) (hb:Brief t) :
   Calls Tryz.prog 42 #[v,v',.int .u8 op] w fun e w'=>e=.returned (.bool true)∧Fr0 w w':=by
 obtain ⟨pv,kv,lv,rfl,hp,hk,hl⟩:=h
 obtain ⟨pv',kv',lv',rfl,hp',hk',hl'⟩:=h'
 have HB:=Lib.hid hb
 have HP:=hid2 hp hp'
 have HK:=hid2 hk hk'
 have HL:=hid2 hl hl'
 obtain ⟨pa,pc,rfl⟩:=hp.form
 obtain ⟨pa',pc',rfl⟩:=hp'.form
 obtain ⟨⟨ka,kc,rfl, -, -⟩, -⟩:=hk
 obtain ⟨⟨ka',kc',rfl, -, -⟩, -⟩:=hk'
 obtain ⟨la,lc,rfl, -⟩:=hl.form
 obtain ⟨la',lc',rfl, -⟩:=hl'.form
 have T0:=two_new w t (.slice pa t.pairs.length pc) (.slice ka t.keys.length kc) (.slice la t.links.length lc) (.slice pa' t.pairs.length pc') (.slice ka' t.keys.length kc') (.slice la' t.links.length lc')
 have F0:Fr0 w ((w.alloc (.cells #[.int .u8 t.err,.string t.value,.string t.src,.string t.dst,.int .i64 t.wt,.int .i64 t.order,.int .i64 t.size,.slice pa t.pairs.length pc,.slice ka t.keys.length kc,.slice la t.links.length lc] 44)).alloc (.cells #[.int .u8 t.err,.string t.value,.string t.src,.string t.dst,.int .i64 t.wt,.int .i64 t.order,.int .i64 t.size,.slice pa' t.pairs.length pc',.slice ka' t.keys.length kc',.slice la' t.links.length lc'] 61)):=by ((repeat' with_reducible first|assumption|exact frR|apply frD|apply frN|apply frA|apply frM|apply frC);all_goals (simp;try omega))
 have T1:=hid2 T0 F0
 clear hp hp' hl hl' hb T0 F0
 go_enter Tryz.func42,Tryz.ntmps42
 by_cases h4:op=4∧t.err≠0
 · obtain ⟨rfl,he⟩:=h4
   have e0:((t.err:Int) == 0)=false:=beq_eq_false_iff_ne.2 (by omega)
   have e1:¬ (t.err:Int)=0:=by omega
   have FW:=Lib.hid T1.out.2
   clear he
   go_wp2_with fail
   go_ret
   exact ⟨rfl,by first|exact FW.out|((repeat' with_reducible first|assumption|exact frR|apply frD|apply frN|apply frA|apply frM|apply frC);all_goals (simp;try omega))⟩
 · have hc:((op:Int) == 4)=false∨(((op:Int) == 4)=true∧((t.err:Int) != 0)=false):=by
     by_cases ho:op=4
     · subst ho
       have:t.err=0:=by
         by_cases z:t.err=0
         · exact z
         · exact absurd ⟨rfl,z⟩ h4
       exact .inr ⟨rfl,by rw [this];rfl⟩
     · exact .inl (beq_eq_false_iff_ne.2 (by omega))
   clear h4
   have PX:=Lib.hid ((PairsIn.at_ HP.out.1).fr T1.out.2)
   have PY:=Lib.hid ((PairsIn.at_ HP.out.2).fr T1.out.2)
   have KX:=Lib.hid (HK.out.1.fr T1.out.2 (fun _ _ _ q=>q))
   have KY:=Lib.hid (HK.out.2.fr T1.out.2 (fun _ _ _ q=>q))
   have LX:=Lib.hid (HL.out.1.fr T1.out.2 (fun _ _ _ q=>q))
   have LY:=Lib.hid (HL.out.2.fr T1.out.2 (fun _ _ _ q=>q))
   have T:=Lib.hid T1.out.1
   have FW:=Lib.hid T1.out.2
   clear T1 HP HK HL
   rcases hc with hc|⟨hc,hc2⟩
   all_goals go_wp2_with fail
   all_goals generalize (w.alloc (.cells #[.int .u8 t.err,.string t.value,.string t.src,.string t.dst,.int .i64 t.wt,.int .i64 t.order,.int .i64 t.size,.slice pa t.pairs.length pc,.slice ka t.keys.length kc,.slice la t.links.length lc] 44)).alloc (.cells #[.int .u8 t.err,.string t.value,.string t.src,.string t.dst,.int .i64 t.wt,.int .i64 t.order,.int .i64 t.size,.slice pa' t.pairs.length pc',.slice ka' t.keys.length kc',.slice la' t.links.length lc'] 61)=W at *
   all_goals obtain ⟨s0,s1,s2,s3,s4,s5,s6,s7,s8,s9,s10,s11,s12,s13,s14,s15,s16,s17,s18,s19⟩:=T.out.cells
   all_goals simp only [List.append_eq,List.cons_append,List.nil_append]
   all_goals go_region_held3 (fun w'=>w'.cell? ⟨w.heap.size,0,none⟩=some (.int .u8 t.err)∧w'.cell? ⟨w.heap.size,1,none⟩=some (.string t.value)∧w'.cell? ⟨w.heap.size,2,none⟩=some (.string t.src)∧w'.cell? ⟨w.heap.size,3,none⟩=some (.string t.dst)∧w'.cell? ⟨w.heap.size,4,none⟩=some (.int .i64 t.wt)∧w'.cell? ⟨w.heap.size,5,none⟩=some (.int .i64 t.order)∧w'.cell? ⟨w.heap.size,6,none⟩=some (.int .i64 t.size)∧w'.cell? ⟨w.heap.size,7,none⟩=some (.slice pa t.pairs.length pc)∧w'.cell? ⟨w.heap.size,8,none⟩=some (.slice ka t.keys.length kc)∧w'.cell? ⟨w.heap.size,9,none⟩=some (.slice la t.links.length lc)∧w'.cell? ⟨(w.heap.size+1),0,none⟩=some (.int .u8 t.err)∧w'.cell? ⟨(w.heap.size+1),1,none⟩=some (.string t.value)∧w'.cell? ⟨(w.heap.size+1),2,none⟩=some (.string t.src)∧w'.cell? ⟨(w.heap.size+1),3,none⟩=some (.string t.dst)∧w'.cell? ⟨(w.heap.size+1),4,none⟩=some (.int .i64 t.wt)∧w'.cell? ⟨(w.heap.size+1),5,none⟩=some (.int .i64 t.order)∧w'.cell? ⟨(w.heap.size+1),6,none⟩=some (.int .i64 t.size)∧w'.cell? ⟨(w.heap.size+1),7,none⟩=some (.slice pa' t.pairs.length pc')∧w'.cell? ⟨(w.heap.size+1),8,none⟩=some (.slice ka' t.keys.length kc')∧w'.cell? ⟨(w.heap.size+1),9,none⟩=some (.slice la' t.links.length lc')) (go_keep)
     (first
     | (go_at_call 22
        refine (pof _ _ t.pairs (PX.out.fr (by ((repeat' with_reducible first|assumption|exact frR|apply frD|apply frN|apply frA|apply frM|apply frC);all_goals (simp;try omega)))) (HB.out.prs)).mono ?_
        rintro e w22 ⟨ao22,cap22,rfl,h22,f22⟩
        have g22:Fr0 W w22:=Fr.trans0 (by ((repeat' with_reducible first|assumption|exact frR|apply frD|apply frN|apply frA|apply frM|apply frC);all_goals (simp;try omega))) f22
        have P22:=Lib.hid (PairsIn.at_ h22)
        clear h22
        clear f22
        obtain ⟨s0,s1,s2,s3,s4,s5,s6,s7,s8,s9,s10,s11,s12,s13,s14,s15,s16,s17,s18,s19⟩:=(T.out.fr g22).cells)
     | (go_at_call 21
        refine (samep _ _ _ t.pairs t.pairs P22.out (PY.out.fr (by ((repeat' with_reducible first|assumption|exact frR|apply frD|apply frN|apply frA|apply frM|apply frC);all_goals (simp;try omega)))) (HB.out.prs)).mono ?_
        rintro e w21 ⟨r21,rfl,hr21,f21⟩
        have g21:Fr0 W w21:=Fr.trans0 (by ((repeat' with_reducible first|assumption|exact frR|apply frD|apply frN|apply frA|apply frM|apply frC);all_goals (simp;try omega))) f21
        obtain rfl:r21=true:=hr21.2 rfl
        clear hr21
        clear f21
        obtain ⟨s0,s1,s2,s3,s4,s5,s6,s7,s8,s9,s10,s11,s12,s13,s14,s15,s16,s17,s18,s19⟩:=(T.out.fr g21).cells)
     | (go_at_call 30
        refine (equal30 _ _ _ _ _ t.keys (KX.out.fr (show Fr0 W _ from by ((repeat' with_reducible first|assumption|exact frR|apply frD|apply frN|apply frA|apply frM|apply frC);all_goals (simp;try omega))) (fun _ _ _ q=>q)) (KY.out.fr (show Fr0 W _ from by ((repeat' with_reducible first|assumption|exact frR|apply frD|apply frN|apply frA|apply frM|apply frC);all_goals (simp;try omega))) (fun _ _ _ q=>q)) HB.out.keys).mono ?_
        rintro e w30 ⟨rfl,f30⟩
        have g30:Fr0 W w30:=Fr.trans0 (by ((repeat' with_reducible first|assumption|exact frR|apply frD|apply frN|apply frA|apply frM|apply frC);all_goals (simp;try omega))) f30
        clear f30
        obtain ⟨s0,s1,s2,s3,s4,s5,s6,s7,s8,s9,s10,s11,s12,s13,s14,s15,s16,s17,s18,s19⟩:=(T.out.fr g30).cells))
   all_goals
     have GG:=Lib.hid (show Fr0 W w30 from by first|exact g30|((repeat' with_reducible first|assumption|exact frR|apply frD|apply frN|apply frA|apply frM|apply frC);all_goals (simp;try omega)))
     have e9:=(T.out.fr GG.out).1.cell 9 _ rfl
     have hll:(t.links.length:Int)≤400000:=by have:=HB.out.lks;omega
     go_wp2_with fail
     go_loopg [96] t.links.length (fun n c wr=>∃ i:Nat,n+i=t.links.length∧c=.int .i64 (i:Nat)∧Fr0 W wr)
     case atStart=>exact ⟨0,rfl,rfl,by ((repeat' with_reducible first|assumption|exact frR|apply frD|apply frN|apply frA|apply frM|apply frC);all_goals (simp;try omega))⟩
     case round =>
       obtain ⟨i,hk,rfl,f⟩:=hrel
       have A:=hid2 hk f
       clear hk f
       by_cases hi:i < t.links.length
       · have hg:=List.getElem?_eq_getElem hi
         obtain ⟨ob,cp,xv,e,hl,_,c0,c1,c2,c3,hxv⟩:=(LX.out.fr A.out.2 (fun _ _ _ q=>q)).at_ hg
         cases e
         obtain ⟨ob',cp',yv,e,hl',_,d0,d1,d2,d3,hyv⟩:=(LY.out.fr A.out.2 (fun _ _ _ q=>q)).at_ hg
         cases e
         have hles:=HB.out.les _ (List.getElem_mem hi)
         generalize t.links[i]=x at c0 c1 c2 c3 d0 d1 d2 d3 hxv hyv hles
         have EX0:=hid3 (PairsIn.at_ hxv) (PairsIn.at_ hyv) hles
         obtain ⟨xa,xc,rfl⟩:=hxv.form
         obtain ⟨ya,yc,rfl⟩:=hyv.form
         have s9:=(T.out.fr A.out.2).2.cell 9 _ rfl
         have hwb:w.heap.size+1 < wr.heap.size:=(T.out.fr A.out.2).2.lt
         clear hg hxv hyv hles
         go_wp2_with fail
         have V0:Cells ((wr.alloc (.cells #[.string x.a,.string x.b,.int .i64 x.wt,.slice xa x.es.length xc] 65)).alloc (.cells #[.string x.a,.string x.b,.int .i64 x.wt,.slice ya x.es.length yc] 72)) wr.heap.size #[.string x.a,.string x.b,.int .i64 x.wt,.slice xa x.es.length xc] 65 ∧
             Cells ((wr.alloc (.cells #[.string x.a,.string x.b,.int .i64 x.wt,.slice xa x.es.length xc] 65)).alloc (.cells #[.string x.a,.string x.b,.int .i64 x.wt,.slice ya x.es.length yc] 72)) (wr.heap.size+1) #[.string x.a,.string x.b,.int .i64 x.wt,.slice ya x.es.length yc] 72 ∧
             Fr0 wr ((wr.alloc (.cells #[.string x.a,.string x.b,.int .i64 x.wt,.slice xa x.es.length xc] 65)).alloc (.cells #[.string x.a,.string x.b,.int .i64 x.wt,.slice ya x.es.length yc] 72)):=by
           have z1:(wr.alloc (.cells #[.string x.a,.string x.b,.int .i64 x.wt,.slice xa x.es.length xc] 65)).heap.size=wr.heap.size+1:=by simp
           have y1:=Cells.new (wr.alloc (.cells #[.string x.a,.string x.b,.int .i64 x.wt,.slice xa x.es.length xc] 65)) #[.string x.a,.string x.b,.int .i64 x.wt,.slice ya x.es.length yc] 72
           rw [z1] at y1
           exact ⟨(Cells.new wr _ _).alloc _,y1,by ((repeat' with_reducible first|assumption|exact frR|apply frD|apply frN|apply frA|apply frM|apply frC);all_goals (simp;try omega))⟩
         generalize (wr.alloc (.cells #[.string x.a,.string x.b,.int .i64 x.wt,.slice xa x.es.length xc] 65)).alloc (.cells #[.string x.a,.string x.b,.int .i64 x.wt,.slice ya x.es.length yc] 72)=U at *
         have V:=hid2 V0.1 V0.2.1
         have FU:=Lib.hid V0.2.2
         have EX:=hid3 (EX0.out.1.fr V0.2.2) (EX0.out.2.1.fr V0.2.2) EX0.out.2.2
         clear V0 c0 c1 c2 c3 d0 d1 d2 d3 s9
         have q0:=V.out.1.cell 0 _ rfl
         have q1:=V.out.1.cell 1 _ rfl
         have q2:=V.out.1.cell 2 _ rfl
         have q3:=V.out.1.cell 3 _ rfl
         have q4:=V.out.2.cell 0 _ rfl
         have q5:=V.out.2.cell 1 _ rfl
         have q6:=V.out.2.cell 2 _ rfl
         have q7:=V.out.2.cell 3 _ rfl
         go_region_held3 (fun w'=>w'.cell? ⟨wr.heap.size,0,none⟩=some (.string x.a)∧w'.cell? ⟨wr.heap.size,1,none⟩=some (.string x.b)∧w'.cell? ⟨wr.heap.size,2,none⟩=some (.int .i64 x.wt)∧w'.cell? ⟨wr.heap.size,3,none⟩=some (.slice xa x.es.length xc)∧w'.cell? ⟨(wr.heap.size+1),0,none⟩=some (.string x.a)∧w'.cell? ⟨(wr.heap.size+1),1,none⟩=some (.string x.b)∧w'.cell? ⟨(wr.heap.size+1),2,none⟩=some (.int .i64 x.wt)∧w'.cell? ⟨(wr.heap.size+1),3,none⟩=some (.slice ya x.es.length yc)) (go_keep)
           (first
           | (go_at_call 22
              refine (pof _ _ x.es (EX.out.1.fr (by ((repeat' with_reducible first|assumption|exact frR|apply frD|apply frN|apply frA|apply frM|apply frC);all_goals (simp;try omega)))) (EX.out.2.2)).mono ?_
              rintro e w22 ⟨ao22,cap22,rfl,h22,f22⟩
              have g22:Fr0 U w22:=Fr.trans0 (by ((repeat' with_reducible first|assumption|exact frR|apply frD|apply frN|apply frA|apply frM|apply frC);all_goals (simp;try omega))) f22
              have P22:=Lib.hid (PairsIn.at_ h22)
              clear h22
              clear f22
              have q0:=(V.out.1.fr g22 (fun q=>q)).cell 0 _ rfl
              have q1:=(V.out.1.fr g22 (fun q=>q)).cell 1 _ rfl
              have q2:=(V.out.1.fr g22 (fun q=>q)).cell 2 _ rfl
              have q3:=(V.out.1.fr g22 (fun q=>q)).cell 3 _ rfl
              have q4:=(V.out.2.fr g22 (fun q=>q)).cell 0 _ rfl
              have q5:=(V.out.2.fr g22 (fun q=>q)).cell 1 _ rfl
              have q6:=(V.out.2.fr g22 (fun q=>q)).cell 2 _ rfl
              have q7:=(V.out.2.fr g22 (fun q=>q)).cell 3 _ rfl)
           | (go_at_call 21
              refine (samep _ _ _ x.es x.es P22.out (EX.out.2.1.fr (by ((repeat' with_reducible first|assumption|exact frR|apply frD|apply frN|apply frA|apply frM|apply frC);all_goals (simp;try omega)))) (EX.out.2.2)).mono ?_
              rintro e w21 ⟨r21,rfl,hr21,f21⟩
              have g21:Fr0 U w21:=Fr.trans0 (by ((repeat' with_reducible first|assumption|exact frR|apply frD|apply frN|apply frA|apply frM|apply frC);all_goals (simp;try omega))) f21
              obtain rfl:r21=true:=hr21.2 rfl
              clear hr21
              clear f21
              have q0:=(V.out.1.fr g21 (fun q=>q)).cell 0 _ rfl
              have q1:=(V.out.1.fr g21 (fun q=>q)).cell 1 _ rfl
              have q2:=(V.out.1.fr g21 (fun q=>q)).cell 2 _ rfl
              have q3:=(V.out.1.fr g21 (fun q=>q)).cell 3 _ rfl
              have q4:=(V.out.2.fr g21 (fun q=>q)).cell 0 _ rfl
              have q5:=(V.out.2.fr g21 (fun q=>q)).cell 1 _ rfl
              have q6:=(V.out.2.fr g21 (fun q=>q)).cell 2 _ rfl
              have q7:=(V.out.2.fr g21 (fun q=>q)).cell 3 _ rfl))
         go_wp2_with fail
         go_roundg (gk - 1)
         case measure=>have:=A.out.1;omega
         case rel=>exact ⟨i+1,by have:=A.out.1;omega,by simp,A.out.2.trans0 (FU.out.trans0 (by ((repeat' with_reducible first|assumption|exact frR|apply frD|apply frN|apply frA|apply frM|apply frC);all_goals (simp;try omega))))⟩
       · have hi':i=t.links.length:=by have:=A.out.1;omega
         subst hi'
         go_wp2_with fail
         go_ret
         exact ⟨rfl,FW.out.trans0 A.out.2⟩
def StepS (s:St) (d:DoIn):Prop:=∀ (w:World) (sb:Nat) (pv:Value),ZRep w sb s→PrAt w pv d.prs →
 Calls Tryz.prog 28 #[.pointer (some ⟨sb,0,none⟩),.agg #[.int .u8 d.op,.string d.a,.string d.b,.int .i64 d.wt,pv]] w fun e w' =>
   ∃ v,e=.returned v∧ToldIn w' (fun q=>q≠sb) v (s.step d).1∧ZRep w' sb (s.step d).2∧Fr (fun k=>k=sb) w w'
end Go.Proofs.YtbafaadmlpamiaaGreatDoor
