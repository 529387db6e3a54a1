import Derived.Test.YtbafaadmlpamiaaGreatDoorK3
import Derived.Test.YtbafaadmlpamiaaGreatDoorS5
import Derived.Test.YtbafaadmlpamiaaGreatDoorCpX
set_option maxRecDepth 100000
set_option maxHeartbeats 8000000
set_option linter.unusedSimpArgs false
namespace Go.Proofs.YtbafaadmlpamiaaGreatDoor
open Go Go.Hy Go.RowKit
structure TC (ob j:Nat) (t:Tl) (pv kv lv:Value) (w:World):Prop where
 lt:ob < w.heap.size
 out:w.cell? ⟨ob,j,none⟩=some (.int .u8 t.err)∧w.cell? ⟨ob,j+1,none⟩=some (.string t.value)∧w.cell? ⟨ob,j+2,none⟩=some (.string t.src)∧w.cell? ⟨ob,j+3,none⟩=some (.string t.dst) ∧
   w.cell? ⟨ob,j+4,none⟩=some (.int .i64 t.wt)∧w.cell? ⟨ob,j+5,none⟩=some (.int .i64 t.order)∧w.cell? ⟨ob,j+6,none⟩=some (.int .i64 t.size)∧w.cell? ⟨ob,j+7,none⟩=some pv∧w.cell? ⟨ob,j+8,none⟩=some kv∧w.cell? ⟨ob,j+9,none⟩=some lv
theorem TC.fr {ob j:Nat} {t:Tl} {pv kv lv:Value} {w w':World} {S:Nat→Prop} (h:TC ob j t pv kv lv w) (f:Fr S w w') (hn:¬ S ob):TC ob j t pv kv lv w':=by
 have e:∀ i,w'.cell? ⟨ob,i,none⟩=w.cell? ⟨ob,i,none⟩:=fun i=>f.cell (p:=⟨ob,i,none⟩) h.lt hn
 refine ⟨Nat.lt_of_lt_of_le h.lt f.size,?_⟩
 simp only [e]
 exact h.out
theorem tell_at {w0 w:World} {lo n sb:Nat} {v:Value} {ts:List Tl} (h:TellsAt w0 lo v ts) (hn:ts.length=n) (h0:0 < n) (f:Fr0 w0 w) (hsb:w0.heap.size≤sb):∃ ob cap,v=.slice (some ⟨ob,0,none⟩) n cap∧n≤cap∧ob≠sb ∧
   ∀ (j:Nat) (t:Tl),ts[j]? = some t→∃ pv kv lv,TC ob (j * 10) t pv kv lv w∧ToldIn w (fun q=>q≠sb) (toldVal t pv kv lv) t:=by
 obtain ⟨ob,cap,e,hc,hl, -,hj⟩:=h.cells n hn h0
 refine ⟨ob,cap,e,hc,by omega,fun j t ht => ?_⟩
 obtain ⟨pv,kv,lv,x0,x1,x2,x3,x4,x5,x6,x7,x8,x9,xp,xk,xl⟩:=hj j t ht
 exact ⟨pv,kv,lv,TC.fr ⟨hl,x0,x1,x2,x3,x4,x5,x6,x7,x8,x9⟩ f (fun q=>q),ToldIn.fr (ToldIn.imp (⟨pv,kv,lv,rfl,xp,xk,xl⟩ : ToldIn w0 _ (toldVal t pv kv lv) t) (fun q _ h2=>by omega)) f (fun _ _ _ q=>q)⟩
theorem cpt53 (w0 w:World) (sb n lo:Nat) (s:St) (v:Value) (hz:ZRep w sb s) (T:TellsAt w0 lo v (tells s)) (f0:Fr0 w0 w) (hsb:w0.heap.size≤sb) (hb:Bnd 4 n s) (hn:n≤1000) (H9:StepS s ask9) (H5:∀ k,StepS s (ask5 k)) :
   Calls Tryz.prog 53 #[v,.pointer (some ⟨sb,0,none⟩)] w fun e w'=>e=.returned (.bool true)∧Fr (fun k=>k=sb) w w':=by
 obtain ⟨ks,hks⟩ : ∃ ks,ks=sortK s.keys:=⟨_,rfl⟩
 have hkl:ks.length≤1000:=by rw [hks,sortK_len];unfold St.keys;rw [List.length_map];have:=hb.ps;omega
 obtain ⟨o3,cap,rfl,hcap,hob, -⟩:=tell_at T (n:=ks.length+1) (by rw [tells_len,hks]) (by omega) f0 hsb
 have TT:=Lib.hid T
 have F0:=hid2 f0 hsb
 have HZ:=Lib.hid hz
 have SLT:=Lib.hid hz.lt
 have B9:=Lib.hid (hb.brief hn ask9)
 have B5:=Lib.hid (fun k=>hb.brief hn (ask5 k))
 have HH:=hid2 H9 H5
 have SM:=Lib.hid (hb.small hn (by decide))
 have KE:=Lib.hid hks
 have HO:=Lib.hid hob
 have KL:=Lib.hid hkl
 have hw1:wrap64 ((ks.length:Int)+1)=(ks.length:Int)+1:=w64p (n:=1000000) (Nat.le_refl _) (by omega)
 have hw2:IntKind.i64.wrap ((ks.length:Int)+1)=(ks.length:Int)+1:=(IntWalk.i64_left _).trans hw1
 clear hz T f0 hsb hb H9 H5 hks hob
 go_enter Tryz.func53,Tryz.ntmps53
 go_wp2_with fail
 refine (keys34 w sb s HZ.out SM.out).mono ?_
 rintro e w1 ⟨kv,rfl,hK,f1⟩
 have F1:=Lib.hid f1
 have K1:=Lib.hid (show KeysIn w1 (fun q=>q≠sb) kv ks from by rw [KE.out];exact hK.imp fun q h1 _ e=>by have:=SLT.out;omega)
 obtain ⟨⟨ka,kc,rfl, -, -⟩, -⟩:=id K1.out
 clear hK f1
 obtain ⟨_,_,ee, -, -,hj⟩:=tell_at TT.out (n:=ks.length+1) (by rw [tells_len,KE.out]) (by omega) (F0.out.1.trans0 F1.out) F0.out.2
 cases ee
 obtain ⟨pv0,kv0,lv0,C0,TI0⟩:=hj 0 (s.step ask9).1 rfl
 rw [Nat.zero_mul] at C0
 have CC0:=Lib.hid C0
 have TI:=Lib.hid TI0
 obtain ⟨y0,y1,y2,y3,y4,y5,y6,y7,y8,y9⟩:=C0.out
 simp only [Nat.zero_add] at y1 y2 y3 y4 y5 y6 y7 y8 y9
 clear hj C0 TI0
 generalize ht:(s.step ask9).1=t at *
 have HT:=Lib.hid ht
 clear ht
 go_wp2_with fail
 go_region_held3 (fun w'=>w'.cell? ⟨o3,0,none⟩=some (.int .u8 t.err)∧w'.cell? ⟨o3,1,none⟩=some (.string t.value)∧w'.cell? ⟨o3,2,none⟩=some (.string t.src)∧w'.cell? ⟨o3,3,none⟩=some (.string t.dst)∧w'.cell? ⟨o3,4,none⟩=some (.int .i64 t.wt)∧w'.cell? ⟨o3,5,none⟩=some (.int .i64 t.order)∧w'.cell? ⟨o3,6,none⟩=some (.int .i64 t.size)∧w'.cell? ⟨o3,7,none⟩=some pv0∧w'.cell? ⟨o3,8,none⟩=some kv0∧w'.cell? ⟨o3,9,none⟩=some lv0) (go_keep)
   (first
     | (go_at_call 28
        refine (HH.out.1 _ sb (.slice none 0 0) (HZ.out.fr0 (F1.out.trans0 (show Fr0 w1 _ from by ((repeat' with_reducible first|assumption|exact frR|apply frD|apply frN|apply frA|apply frM|apply frC);all_goals (simp;try omega))))) ⟨none,0,rfl,fun i p h=>by simp [ask9] at h⟩).mono ?_
        rintro e w5 ⟨v5,rfl,ht5,hz5,f5⟩
        have g5:Fr (fun k=>k=sb) w1 w5:=Fr.trans (show Fr (fun k=>k=sb) w1 _ from by ((repeat' with_reducible first|assumption|exact frR|apply frD|apply frN|apply frA|apply frM|apply frC);all_goals (simp;try omega))) f5 (fun q h=>.inl h)
        rw [HT.out] at ht5
        have T5:=Lib.hid ht5
        have Z5:=Lib.hid hz5
        clear ht5 hz5 f5
        have C5:=Lib.hid (CC0.out.fr g5 HO.out)
        obtain ⟨y0,y1,y2,y3,y4,y5,y6,y7,y8,y9⟩:=C5.out.out
        simp only [Nat.zero_add] at y1 y2 y3 y4 y5 y6 y7 y8 y9)
     | (go_at_call 42
        refine (same42 _ (fun q=>q≠sb) (fun q=>q≠sb) _ _ t 9 ((TI.out.fr g5 (fun q h _ e=>h e)).fr (show Fr0 w5 _ from by ((repeat' with_reducible first|assumption|exact frR|apply frD|apply frN|apply frA|apply frM|apply frC);all_goals (simp;try omega))) (fun _ _ _ q=>q)) (T5.out.fr (show Fr0 w5 _ from by ((repeat' with_reducible first|assumption|exact frR|apply frD|apply frN|apply frA|apply frM|apply frC);all_goals (simp;try omega))) (fun _ _ _ q=>q)) (HT.out▸B9.out)).mono ?_
        rintro e w6 ⟨rfl,f6⟩
        have g6:Fr0 w5 w6:=Fr.trans0 (by ((repeat' with_reducible first|assumption|exact frR|apply frD|apply frN|apply frA|apply frM|apply frC);all_goals (simp;try omega))) f6
        clear f6
        have C6:=Lib.hid (C5.out.fr g6 (fun q=>q))
        obtain ⟨y0,y1,y2,y3,y4,y5,y6,y7,y8,y9⟩:=C6.out.out
        simp only [Nat.zero_add] at y1 y2 y3 y4 y5 y6 y7 y8 y9))
 have Z6:=Lib.hid (show ZRep w6 sb s from (show ZRep w5 sb s from Z5.out).fr0 g6)
 have G6:=Lib.hid (show Fr (fun k=>k=sb) w w6 from ((F1.out.mono fun _ q=>q.elim).trans g5 (fun q h=>.inl h)).trans0 g6)
 have K6:=Lib.hid ((K1.out.fr g5 (fun q h _ e=>h e)).fr g6 (fun _ _ _ q=>q))
 clear y0 y1 y2 y3 y4 y5 y6 y7 y8 y9 g5 g6
 go_wp2_with fail
 go_loopg [28] ks.length (fun k c wr=>∃ i:Nat,k+i=ks.length∧c=.int .i64 (i:Nat)∧ZRep wr sb s∧Fr (fun k=>k=sb) w6 wr)
 case atStart=>exact ⟨0,rfl,rfl,Z6.out,Fr.refl _ _⟩
 case round =>
   obtain ⟨i,hki,rfl,hz,f⟩:=hrel
   have A:=hid3 hki hz f
   clear hki hz f
   by_cases hi:i < ks.length
   · have hg:=List.getElem?_eq_getElem hi
     obtain ⟨⟨_,_,e', -,hr⟩, -⟩:=K6.out.fr A.out.2.2 (fun q h _ e=>h e)
     cases e'
     obtain ⟨ok,rfl,hok,kc0⟩:=hr i (.string ks[i]) (by rw [List.getElem?_map,hg];rfl)
     generalize ks[i]=key at kc0 hg
     have hT:(tells s)[i+1]? = some (s.step (ask5 key)).1:=tells_at (by rw [← KE.out];exact hg)
     obtain ⟨_,_,ee, -, -,hj⟩:=tell_at TT.out (n:=ks.length+1) (by rw [tells_len,KE.out]) (by omega) (F0.out.1.trans (G6.out.trans A.out.2.2 fun q h=>.inl h) (fun q e=>.inr (by have:=F0.out.2;omega)):Fr0 w0 wr) F0.out.2
     cases ee
     obtain ⟨pv1,kv1,lv1,C1,TI1⟩:=hj (i+1) _ hT
     have CC1:=Lib.hid C1
     have TJ:=Lib.hid TI1
     have BJ:=Lib.hid (B5.out key)
     obtain ⟨y0,y1,y2,y3,y4,y5,y6,y7,y8,y9⟩:=C1.out
     generalize hu:(s.step (ask5 key)).1=u at *
     have HU:=Lib.hid hu
     have hwi:wrap64 ((i:Int)+1)=(i:Int)+1:=w64p (n:=1000000) (Nat.le_refl _) (by omega)
     have hwj:IntKind.i64.wrap ((i:Int)+1)=(i:Int)+1:=(IntWalk.i64_left _).trans hwi
     have hi0:(0:Int)≤(i:Int)+1:=by omega
     have hi1:(i:Int)+1 < (ks.length:Int)+1:=by omega
     clear hj C1 TI1 hT hg hr hu
     go_wp2_with fail
     clear kc0 hok
     go_region_held3 (fun w'=>w'.cell? ⟨o3,(i+1) * 10,none⟩=some (.int .u8 u.err)∧w'.cell? ⟨o3,(i+1) * 10+1,none⟩=some (.string u.value)∧w'.cell? ⟨o3,(i+1) * 10+2,none⟩=some (.string u.src)∧w'.cell? ⟨o3,(i+1) * 10+3,none⟩=some (.string u.dst)∧w'.cell? ⟨o3,(i+1) * 10+4,none⟩=some (.int .i64 u.wt)∧w'.cell? ⟨o3,(i+1) * 10+5,none⟩=some (.int .i64 u.order)∧w'.cell? ⟨o3,(i+1) * 10+6,none⟩=some (.int .i64 u.size)∧w'.cell? ⟨o3,(i+1) * 10+7,none⟩=some pv1∧w'.cell? ⟨o3,(i+1) * 10+8,none⟩=some kv1∧w'.cell? ⟨o3,(i+1) * 10+9,none⟩=some lv1) (go_keep)
       (first
         | (go_at_call 28
            refine (HH.out.2 key _ sb (.slice none 0 0) (A.out.2.1.fr0 (show Fr0 wr _ from by ((repeat' with_reducible first|assumption|exact frR|apply frD|apply frN|apply frA|apply frM|apply frC);all_goals (simp;try omega)))) ⟨none,0,rfl,fun i p h=>by simp [ask5] at h⟩).mono ?_
            rintro e w5 ⟨v5,rfl,ht5,hz5,f5⟩
            have g5:Fr (fun k=>k=sb) wr w5:=Fr.trans (show Fr (fun k=>k=sb) wr _ from by ((repeat' with_reducible first|assumption|exact frR|apply frD|apply frN|apply frA|apply frM|apply frC);all_goals (simp;try omega))) f5 (fun q h=>.inl h)
            rw [HU.out] at ht5
            have T5:=Lib.hid ht5
            have Z5:=Lib.hid hz5
            clear ht5 hz5 f5
            have C5:=Lib.hid (CC1.out.fr g5 HO.out)
            obtain ⟨y0,y1,y2,y3,y4,y5,y6,y7,y8,y9⟩:=C5.out.out)
         | (go_at_call 42
            refine (same42 _ (fun q=>q≠sb) (fun q=>q≠sb) _ _ u 5 ((TJ.out.fr g5 (fun q h _ e=>h e)).fr (show Fr0 w5 _ from by ((repeat' with_reducible first|assumption|exact frR|apply frD|apply frN|apply frA|apply frM|apply frC);all_goals (simp;try omega))) (fun _ _ _ q=>q)) (T5.out.fr (show Fr0 w5 _ from by ((repeat' with_reducible first|assumption|exact frR|apply frD|apply frN|apply frA|apply frM|apply frC);all_goals (simp;try omega))) (fun _ _ _ q=>q)) BJ.out).mono ?_
            rintro e w6 ⟨rfl,f6⟩
            have g6:Fr0 w5 w6:=Fr.trans0 (by ((repeat' with_reducible first|assumption|exact frR|apply frD|apply frN|apply frA|apply frM|apply frC);all_goals (simp;try omega))) f6
            clear f6
            have C6:=Lib.hid (C5.out.fr g6 (fun q=>q))
            obtain ⟨y0,y1,y2,y3,y4,y5,y6,y7,y8,y9⟩:=C6.out.out))
     rename_i hh
     clear hh
     have A7:=hid2 (show ZRep _ sb s from (show ZRep w5 sb s from Z5.out).fr0 g6) (Fr.trans0 (A.out.2.2.trans g5 (fun q h=>.inl h)) g6)
     go_wp2_with fail
     go_roundg (gk - 1)
     case measure=>have:=A.out.1;omega
     case rel=>exact ⟨i+1,by have:=A.out.1;omega,by simp [hwi],A7.out.1,A7.out.2⟩
   · have hi':i=ks.length:=by have:=A.out.1;omega
     subst hi'
     go_wp2_with fail
     go_ret
     exact ⟨rfl,G6.out.trans A.out.2.2 fun q h=>.inl h⟩
theorem Reads.other {w w':World} {sb n:Nat} {v:Value} {xs:List Value} {b:Bool} (h:Reads w v n xs) (hx:∀ u,xs[0]? = some u→∃ s,u=.string s) (hb:w.cell? ⟨sb,0,none⟩=some (.bool b)) (f:Fr (fun k=>k=sb) w w'):Reads w' v n xs:=by
 obtain ⟨ao,cap,rfl,hc,hr⟩:=h
 refine ⟨ao,cap,rfl,hc,fun j u hj => ?_⟩
 obtain ⟨ob,rfl,hl,c⟩:=hr j u hj
 have hlt:=(List.getElem?_eq_some_iff.1 hj).1
 have hg:=List.getElem?_eq_getElem (show 0 < xs.length by omega)
 obtain ⟨_,e,_,c0⟩:=hr 0 _ hg
 cases e
 obtain ⟨s,es⟩:=hx _ hg
 have hne:ob≠sb:=fun e=>by
   rw [es,e,hb] at c0
   cases c0
 exact ⟨ob,rfl,Nat.lt_of_lt_of_le hl f.size,(f.cell (p:=⟨ob,j,none⟩) hl hne).trans c⟩
theorem PairsIn.other {w w':World} {sb:Nat} {p:Nat→Prop} {v:Value} {es:List PP} {b:Bool} (h:PairsIn w p v es) (hb:w.cell? ⟨sb,0,none⟩=some (.bool b)) (f:Fr (fun k=>k=sb) w w'):PairsIn w' p v es:=by
 refine ⟨h.1.other (fun u hu => ?_) hb f,fun q hq=>⟨(h.2 q hq).1,Nat.lt_of_lt_of_le (h.2 q hq).2 f.size⟩⟩
 cases es with
 | nil=>simp [encL] at hu
 | cons x es=>simp [encL,encP] at hu;exact ⟨_,hu.symm⟩
theorem ZRep.other {w w':World} {sa sb:Nat} {s s2:St} (h:ZRep w sa s) (h2:ZRep w sb s2) (hne:sa≠sb) (f:Fr (fun k=>k=sb) w w'):ZRep w' sa s:=by
 obtain ⟨_,_,_,_,_,_,hc2,_⟩:=h2
 have hb:=hc2.cell 0 (.bool s2.dir) rfl
 obtain ⟨b1,b2,b3,b4,pv,lv,hc,⟨vs,p1,p2,p3,p4⟩,⟨us,l1,l2,l3,l4⟩⟩:=h
 refine ⟨b1,b2,b3,b4,pv,lv,hc.fr f hne,⟨vs,p1,p2.other (fun u hu => ?_) hb f,fun q hq=>⟨(p3 q hq).1,Nat.lt_of_lt_of_le (p3 q hq).2 f.size⟩,fun i l u hl hu=>(p4 i l u hl hu).other hb f⟩,
   ⟨us,l1,l2.other (fun u hu => ?_) hb f,fun q hq=>⟨(l3 q hq).1,Nat.lt_of_lt_of_le (l3 q hq).2 f.size⟩,fun i l u hl hu=>(l4 i l u hl hu).other hb f⟩⟩
 · cases hz:s.ps.zip vs with
   | nil=>rw [hz] at hu;simp [encL] at hu
   | cons x l=>rw [hz] at hu;simp [encL,encPt] at hu;exact ⟨_,hu.symm⟩
 · cases hz:s.ls.zip us with
   | nil=>rw [hz] at hu;simp [encL] at hu
   | cons x l=>rw [hz] at hu;simp [encL,encLk] at hu;exact ⟨_,hu.symm⟩
theorem cop (how:Int) (hw:how=0∨how=1) (w:World) (b0 b1 b2 b3 b4:Bool) (hk:Nat) (hh:hk≤2) (other:Bool) (a1:Option Addr) (n1 c1:Nat) (ds:List DoIn) (hd1:DosAt w a1 n1 c1 ds) (a2:Option Addr) (n2 c2:Nat) (es:List DoIn) (hd2:DosAt w a2 n2 c2 es) (EB:Nat) (eb:Nat→Addr) (E:ErrsOk w EB eb)
   (hn1:ds.length≤100) (hn2:es.length≤100) (hf1:∀ d∈ds,Fit b0 hk d) (hf2:∀ d∈es,Fit b0 hk d) (h4:∀ d∈es,d.op≠4) :
   Calls Tryz.prog 52 #[kagg b0 b1 b2 b3 b4 false hk,.slice a1 n1 c1,.slice a2 n2 c2,.int .u8 how,.bool other] w fun e w'=>∃ v1 v2,e=.returned (.tuple #[v1,v2]) ∧
     TellsAt w' w.heap.size v1 (tells (bif other then (kst b0 b1 b2 b3 b4 false hk).after ds else ((kst b0 b1 b2 b3 b4 false hk).after ds).after es)) ∧
     TellsAt w' w.heap.size v2 (tells (bif other then ((kst b0 b1 b2 b3 b4 false hk).after ds).after es else (kst b0 b1 b2 b3 b4 false hk).after ds))∧Fr0 w w':=by
 cases b0 with
 | true=>exact dcop how hw w b1 b2 b3 b4 hk hh other a1 n1 c1 ds hd1 a2 n2 c2 es hd2 EB eb E hn1 hn2 hf1 hf2 h4
 | false=>exact ucop how hw w b1 b2 b3 b4 hk hh other a1 n1 c1 ds hd1 a2 n2 c2 es hd2 EB eb E hn1 hn2 hf1 hf2 h4
theorem TellsAt.fr {w w':World} {lo:Nat} {v:Value} {ts:List Tl} (h:TellsAt w lo v ts) (f:Fr0 w w'):TellsAt w' lo v ts:=by
 obtain ⟨ao,cap,e,hc,hr⟩:=h
 refine ⟨ao,cap,e,hc,fun j t hj => ?_⟩
 obtain ⟨ob,pv,kv,lv,e1,h1,h2,c0,c1,c2,c3,c4,c5,c6,c7,c8,c9,hp,hk,hl⟩:=hr j t hj
 have e2:∀ i,w'.cell? ⟨ob,i,none⟩=w.cell? ⟨ob,i,none⟩:=fun i=>f.cell (p:=⟨ob,i,none⟩) h1 (fun q=>q)
 exact ⟨ob,pv,kv,lv,e1,Nat.lt_of_lt_of_le h1 f.size,h2,(e2 _).trans c0,(e2 _).trans c1,(e2 _).trans c2,(e2 _).trans c3,(e2 _).trans c4,(e2 _).trans c5,(e2 _).trans c6,(e2 _).trans c7,(e2 _).trans c8,(e2 _).trans c9,
   hp.fr f (fun _ _ _ q=>q),hk.fr f (fun _ _ _ q=>q),hl.fr f (fun _ _ _ q=>q)⟩
structure Sok (n:Nat) (s:St):Prop where
 wf:Wf s
 nl:NoLoop s
 bnd:Bnd 4 n s
 hk:s.hk≤2
 pr:s.pr=false
theorem Sok.after {n:Nat} {s:St} (h:Sok n s) (ds:List DoIn) (hf:∀ d∈ds,Fit s.dir s.hk d):Sok (n+ds.length) (s.after ds) :=
 ⟨wf_aftC ds s h.wf,nl_aftC ds s h.nl hf,h.bnd.after ds fun d hd=>(hf d hd).prs,by rw [(after_same s ds).2.2];exact h.hk,(after_same s ds).2.1.trans h.pr⟩
theorem Sok.step {n:Nat} {s:St} (h:Sok n s) (hn:n≤1000) (d:DoIn) (hf:Fit s.dir s.hk d):StepS s d:=fit_stepS s d h.wf h.nl h.bnd hn h.hk h.pr hf
theorem Sok.all {n:Nat} {s:St} (h:Sok n s) (ds:List DoIn) (hn:n+ds.length≤1000) (hf:∀ d∈ds,Fit s.dir s.hk d) (i:Nat) (d:DoIn) (hi:ds[i]? = some d):StepS (s.after (ds.take i)) d:=by
 have h2:=h.after (ds.take i) fun x hx=>hf x (List.mem_of_mem_take hx)
 obtain ⟨s1, -,s3⟩:=after_same s (ds.take i)
 exact h2.step (by simp only [List.length_take];omega) d (by rw [s1,s3];exact hf d (List.mem_of_getElem? hi))
theorem Sok.asks {n:Nat} {s:St} (h:Sok n s) (hn:n≤1000):StepS s ask9∧∀ k,StepS s (ask5 k) :=
 ⟨h.step hn ask9 { op:=by decide,ab:=fun q=>(by cases q),hz:=fun q=>(by cases q),prs:=by decide },fun k=>h.step hn (ask5 k) { op:=(by show 5≤10;decide),ab:=fun q=>(by cases q),hz:=fun q=>(by cases q),prs:=Nat.zero_le 4 }⟩
theorem cps36 (how:Int) (hw:how=0∨how=1) (w:World) (b0 b1 b2 b3 b4:Bool) (hk:Nat) (hh:hk≤2) (other:Bool) (v1:Value) (ds:List DoIn) (hd1:SDosAt w v1 ds) (v2:Value) (es:List DoIn) (hd2:SDosAt w v2 es) (EB:Nat) (eb:Nat→Addr) (E:ErrsOk w EB eb)
   (hn1:ds.length≤100) (hn2:es.length≤100) (hf1:∀ d∈ds,Fit b0 hk d) (hf2:∀ d∈es,Fit b0 hk d) (h4:∀ d∈es,d.op≠4) :
   Calls Tryz.prog 36 #[kagg b0 b1 b2 b3 b4 false hk,v1,v2,.int .u8 how,.bool other] w fun e w'=>e=.returned (.bool true)∧Fr0 w w':=by
 have D1:=Lib.hid hd1
 have D2:=Lib.hid hd2
 have H:=hid8 hh E hf1 hf2 h4 hn2 hn1 trivial
 obtain ⟨a1,c1,rfl, -⟩:=hd1
 obtain ⟨a2,c2,rfl, -⟩:=hd2
 have KB:=Lib.hid (Cells.new w #[.bool b0,.bool b1,.bool b2,.bool b3,.bool b4,.bool false,.int .u8 hk] 52)
 have FB:=Lib.hid ((Fr.refl (fun _=>False) w).alloc (.cells #[.bool b0,.bool b1,.bool b2,.bool b3,.bool b4,.bool false,.int .u8 hk] 52))
 have HW:=Lib.hid hw
 clear hh E hf1 hf2 h4 hn1 hn2 hw
 go_enter Tryz.func36,Tryz.ntmps36
 go_upto_region 1 with fail
 generalize w.alloc (.cells #[.bool b0,.bool b1,.bool b2,.bool b3,.bool b4,.bool false,.int .u8 hk] 52)=W at *
 (have k0:=KB.out.cell 0 _ rfl;have k1:=KB.out.cell 1 _ rfl;have k2:=KB.out.cell 2 _ rfl;have k3:=KB.out.cell 3 _ rfl;have k4:=KB.out.cell 4 _ rfl;have k5:=KB.out.cell 5 _ rfl;have k6:=KB.out.cell 6 _ rfl)
 go_cut [11,12] from 30 (fun s11 s12 wx=>∃ (va vb:Value) (la lb:Nat),s11=va∧s12=vb∧TellsAt wx la va (tells (bif other then (kst b0 b1 b2 b3 b4 false hk).after ds else ((kst b0 b1 b2 b3 b4 false hk).after ds).after es))∧TellsAt wx lb vb (tells (bif other then ((kst b0 b1 b2 b3 b4 false hk).after ds).after es else (kst b0 b1 b2 b3 b4 false hk).after ds))∧Fr0 W wx)
 case first =>
   go_region_held3 (fun w'=>w'.cell? ⟨w.heap.size,0,none⟩=some (.bool b0)∧w'.cell? ⟨w.heap.size,1,none⟩=some (.bool b1)∧w'.cell? ⟨w.heap.size,2,none⟩=some (.bool b2)∧w'.cell? ⟨w.heap.size,3,none⟩=some (.bool b3)∧w'.cell? ⟨w.heap.size,4,none⟩=some (.bool b4)∧w'.cell? ⟨w.heap.size,5,none⟩=some (.bool false)∧w'.cell? ⟨w.heap.size,6,none⟩=some (.int .u8 hk)) (go_keep)
     (first
     | (go_at_call_of 20 (Value.slice a1 ds.length c1)
        refine (dto _ (.slice a1 ds.length c1) ds (D1.out.fr (FB.out.trans0 (show Fr0 W _ from by ((repeat' with_reducible first|assumption|exact frR|apply frD|apply frN|apply frA|apply frM|apply frC);all_goals (simp;try omega))))) (by have:=H.out.2.2.2.2.2.2.1;omega) (fun d hd=>by have:=(H.out.2.2.1 d hd).prs;omega)).mono ?_
        rintro e wq ⟨aoA,capA,rfl,hdA,fA⟩
        have GW:Fr0 W wq:=Fr.trans0 (by ((repeat' with_reducible first|assumption|exact frR|apply frD|apply frN|apply frA|apply frM|apply frC);all_goals (simp;try omega))) fA
        have DA:=Lib.hid hdA
        try have DB:=Lib.hid (DB.out.fr (Fr.trans0 (by ((repeat' with_reducible first|assumption|exact frR|apply frD|apply frN|apply frA|apply frM|apply frC);all_goals (simp;try omega))) fA))
        clear hdA fA
        (have k0:=(KB.out.fr GW (fun q=>q)).cell 0 _ rfl;have k1:=(KB.out.fr GW (fun q=>q)).cell 1 _ rfl;have k2:=(KB.out.fr GW (fun q=>q)).cell 2 _ rfl;have k3:=(KB.out.fr GW (fun q=>q)).cell 3 _ rfl;have k4:=(KB.out.fr GW (fun q=>q)).cell 4 _ rfl;have k5:=(KB.out.fr GW (fun q=>q)).cell 5 _ rfl;have k6:=(KB.out.fr GW (fun q=>q)).cell 6 _ rfl))
     | (go_at_call_of 20 (Value.slice a2 es.length c2)
        refine (dto _ (.slice a2 es.length c2) es (D2.out.fr (FB.out.trans0 (show Fr0 W _ from by ((repeat' with_reducible first|assumption|exact frR|apply frD|apply frN|apply frA|apply frM|apply frC);all_goals (simp;try omega))))) (by have:=H.out.2.2.2.2.2.1;omega) (fun d hd=>by have:=(H.out.2.2.2.1 d hd).prs;omega)).mono ?_
        rintro e wq ⟨aoB,capB,rfl,hdB,fB⟩
        have GW:Fr0 W wq:=Fr.trans0 (by ((repeat' with_reducible first|assumption|exact frR|apply frD|apply frN|apply frA|apply frM|apply frC);all_goals (simp;try omega))) fB
        have DB:=Lib.hid hdB
        try have DA:=Lib.hid (DA.out.fr (Fr.trans0 (by ((repeat' with_reducible first|assumption|exact frR|apply frD|apply frN|apply frA|apply frM|apply frC);all_goals (simp;try omega))) fB))
        clear hdB fB
        (have k0:=(KB.out.fr GW (fun q=>q)).cell 0 _ rfl;have k1:=(KB.out.fr GW (fun q=>q)).cell 1 _ rfl;have k2:=(KB.out.fr GW (fun q=>q)).cell 2 _ rfl;have k3:=(KB.out.fr GW (fun q=>q)).cell 3 _ rfl;have k4:=(KB.out.fr GW (fun q=>q)).cell 4 _ rfl;have k5:=(KB.out.fr GW (fun q=>q)).cell 5 _ rfl;have k6:=(KB.out.fr GW (fun q=>q)).cell 6 _ rfl))
     | (go_at_call 52
        refine (cop how HW.out _ b0 b1 b2 b3 b4 hk H.out.1 other aoA ds.length capA ds (DA.out.fr (by ((repeat' with_reducible first|assumption|exact frR|apply frD|apply frN|apply frA|apply frM|apply frC);all_goals (simp;try omega)))) aoB es.length capB es (DB.out.fr (by ((repeat' with_reducible first|assumption|exact frR|apply frD|apply frN|apply frA|apply frM|apply frC);all_goals (simp;try omega)))) EB eb (H.out.2.1.fr (FB.out.trans0 (show Fr0 W _ from by ((repeat' with_reducible first|assumption|exact frR|apply frD|apply frN|apply frA|apply frM|apply frC);all_goals (simp;try omega)))) (fun _ q=>q.elim)) H.out.2.2.2.2.2.2.1 H.out.2.2.2.2.2.1 H.out.2.2.1 H.out.2.2.2.1 H.out.2.2.2.2.1).mono ?_
        rintro e wq ⟨vA,vB,rfl,htA,htB,fA⟩
        have GW:Fr0 W wq:=Fr.trans0 (by ((repeat' with_reducible first|assumption|exact frR|apply frD|apply frN|apply frA|apply frM|apply frC);all_goals (simp;try omega))) fA
        have TA:=Lib.hid htA
        have TB:=Lib.hid htB
        clear htA htB fA DA DB
        (have k0:=(KB.out.fr GW (fun q=>q)).cell 0 _ rfl;have k1:=(KB.out.fr GW (fun q=>q)).cell 1 _ rfl;have k2:=(KB.out.fr GW (fun q=>q)).cell 2 _ rfl;have k3:=(KB.out.fr GW (fun q=>q)).cell 3 _ rfl;have k4:=(KB.out.fr GW (fun q=>q)).cell 4 _ rfl;have k5:=(KB.out.fr GW (fun q=>q)).cell 5 _ rfl;have k6:=(KB.out.fr GW (fun q=>q)).cell 6 _ rfl))
     | fail)
   all_goals
     go_wp2_with fail
     go_meet
     case rel=>exact ⟨_,_,_,_,rfl,rfl,TA.out.fr (by ((repeat' with_reducible first|assumption|exact frR|apply frD|apply frN|apply frA|apply frM|apply frC);all_goals (simp;try omega))),TB.out.fr (by ((repeat' with_reducible first|assumption|exact frR|apply frD|apply frN|apply frA|apply frM|apply frC);all_goals (simp;try omega))),by ((repeat' with_reducible first|assumption|exact frR|apply frD|apply frN|apply frA|apply frM|apply frC);all_goals (simp;try omega))⟩
 case rest =>
   obtain ⟨va,vb,la,lb,e11,e12,ta,tb,fx⟩:=hcut
   subst e11
   subst e12
   have TA:=Lib.hid ta
   have TB:=Lib.hid tb
   have FX:=Lib.hid fx
   have S0:=Lib.hid (show Sok 0 (kst b0 b1 b2 b3 b4 false hk) from ⟨wf_empty _ rfl rfl,fun _ l h=>(by cases h),kst_bnd 4 b0 b1 b2 b3 b4 false hk,H.out.1,kst_pr ..⟩)
   have hfd:∀ d∈ds,Fit (kst b0 b1 b2 b3 b4 false hk).dir (kst b0 b1 b2 b3 b4 false hk).hk d:=fun x hx=>by rw [kst_dir];exact H.out.2.2.1 x hx
   have S1:=Lib.hid (S0.out.after ds hfd)
   have hfe:∀ d∈es,Fit ((kst b0 b1 b2 b3 b4 false hk).after ds).dir ((kst b0 b1 b2 b3 b4 false hk).after ds).hk d:=fun x hx=>by rw [(after_same _ ds).1,(after_same _ ds).2.2,kst_dir];exact H.out.2.2.2.1 x hx
   have ST1:=Lib.hid (S0.out.all ds (by have:=H.out.2.2.2.2.2.2.1;omega) hfd)
   have ST2:=Lib.hid (S1.out.all es (by have:=H.out.2.2.2.2.2.2.1;have:=H.out.2.2.2.2.2.1;omega) hfe)
   have S2:=Lib.hid (S1.out.after es hfe)
   clear ta tb fx hfd hfe k0 k1 k2 k3 k4 k5 k6
   have KX:=Lib.hid (KB.out.fr FX.out (fun q=>q))
   (have k0:=KX.out.cell 0 _ rfl;have k1:=KX.out.cell 1 _ rfl;have k2:=KX.out.cell 2 _ rfl;have k3:=KX.out.cell 3 _ rfl;have k4:=KX.out.cell 4 _ rfl;have k5:=KX.out.cell 5 _ rfl;have k6:=KX.out.cell 6 _ rfl)
   go_wp2_with fail
   go_region_held3 (fun w'=>w'.cell? ⟨w.heap.size,0,none⟩=some (.bool b0)∧w'.cell? ⟨w.heap.size,1,none⟩=some (.bool b1)∧w'.cell? ⟨w.heap.size,2,none⟩=some (.bool b2)∧w'.cell? ⟨w.heap.size,3,none⟩=some (.bool b3)∧w'.cell? ⟨w.heap.size,4,none⟩=some (.bool b4)∧w'.cell? ⟨w.heap.size,5,none⟩=some (.bool false)∧w'.cell? ⟨w.heap.size,6,none⟩=some (.int .u8 hk)) (go_keep)
     (first
     | (have ZA':=ZA.out
        go_at_call 27
        refine (new27 _ b0 b1 b2 b3 b4 false hk (kst b0 b1 b2 b3 b4 false hk) (kst_dir ..) (kst_pr ..) rfl rfl rfl).mono ?_
        rintro e wz ⟨sb,rfl,hsb,hz,f⟩
        have GZ:Fr0 wq wz:=Fr.trans0 (by ((repeat' with_reducible first|assumption|exact frR|apply frD|apply frN|apply frA|apply frM|apply frC);all_goals (simp;try omega))) f
        have GW:Fr0 W wz:=GW.trans0 GZ
        have Z2:=hid5 (ZA'.1.fr0 GZ) hz ZA'.2.1 (show sa < sb from Nat.lt_of_lt_of_le ZA'.1.lt hsb) (ZA'.2.2.trans0 GZ)
        clear hsb hz f ZA'
        (have k0:=(KB.out.fr GW (fun q=>q)).cell 0 _ rfl;have k1:=(KB.out.fr GW (fun q=>q)).cell 1 _ rfl;have k2:=(KB.out.fr GW (fun q=>q)).cell 2 _ rfl;have k3:=(KB.out.fr GW (fun q=>q)).cell 3 _ rfl;have k4:=(KB.out.fr GW (fun q=>q)).cell 4 _ rfl;have k5:=(KB.out.fr GW (fun q=>q)).cell 5 _ rfl;have k6:=(KB.out.fr GW (fun q=>q)).cell 6 _ rfl))
     | (go_at_call 27
        refine (new27 _ b0 b1 b2 b3 b4 false hk (kst b0 b1 b2 b3 b4 false hk) (kst_dir ..) (kst_pr ..) rfl rfl rfl).mono ?_
        rintro e wq ⟨sa,rfl,hsa,hz,f⟩
        have GX:Fr0 wc wq:=Fr.trans0 (by ((repeat' with_reducible first|assumption|exact frR|apply frD|apply frN|apply frA|apply frM|apply frC);all_goals (simp;try omega))) f
        have GW:Fr0 W wq:=FX.out.trans0 GX
        have ZA:=hid3 hz (show wc.heap.size≤sa from hsa) GX
        clear hsa hz f GX
        (have k0:=(KB.out.fr GW (fun q=>q)).cell 0 _ rfl;have k1:=(KB.out.fr GW (fun q=>q)).cell 1 _ rfl;have k2:=(KB.out.fr GW (fun q=>q)).cell 2 _ rfl;have k3:=(KB.out.fr GW (fun q=>q)).cell 3 _ rfl;have k4:=(KB.out.fr GW (fun q=>q)).cell 4 _ rfl;have k5:=(KB.out.fr GW (fun q=>q)).cell 5 _ rfl;have k6:=(KB.out.fr GW (fun q=>q)).cell 6 _ rfl))
     | fail)
   rename_i hh
   clear hh k0 k1 k2 k3 k4 k5 k6
   have NE:=hid2 (show sa≠sb from Nat.ne_of_lt Z2.out.2.2.2.1) (show sb≠sa from (Nat.ne_of_lt Z2.out.2.2.2.1).symm)
   have LS:=hid2 (show ∀ q,q=sa→wc.heap.size≤q from fun q e=>e▸Z2.out.2.2.1) (show ∀ q,q=sb→wc.heap.size≤q from fun q e=>by rw [e];exact Nat.le_trans Z2.out.2.2.1 (Nat.le_of_lt Z2.out.2.2.2.1))
   have FCW:=Lib.hid (FB.out.trans0 FX.out)
   generalize kst b0 b1 b2 b3 b4 false hk=s0 at *
   go_wp2_with fail
   go_loopg [36] ds.length (fun k c wr=>∃ i:Nat,k+i=ds.length∧c=.int .i64 (i:Nat)∧ZRep wr sa (s0.after (ds.take i))∧ZRep wr sb (s0.after (ds.take i))∧Fr0 wc wr)
   case atStart=>exact ⟨0,rfl,rfl,Z2.out.1,Z2.out.2.1,Z2.out.2.2.2.2⟩
   case round =>
     obtain ⟨i,hki,rfl,za,zb,f⟩:=hrel
     have A:=hid4 hki za zb f
     clear hki za zb f
     by_cases hi:i < ds.length
     · have hg:=List.getElem?_eq_getElem hi
       have FWR:=Lib.hid (FCW.out.trans0 A.out.2.2.2)
       obtain ⟨ao',cap',e,hr⟩:=D1.out
       cases e
       obtain ⟨od,off,pv,rfl,hl0,c0,c1,c2,c3,c4,hpv⟩:=hr i _ hg
       replace c0:=(FWR.out.cell (p:=⟨od,off+i * 5,none⟩) hl0 (fun q=>q)).trans c0
       replace c1:=(FWR.out.cell (p:=⟨od,off+i * 5+1,none⟩) hl0 (fun q=>q)).trans c1
       replace c2:=(FWR.out.cell (p:=⟨od,off+i * 5+2,none⟩) hl0 (fun q=>q)).trans c2
       replace c3:=(FWR.out.cell (p:=⟨od,off+i * 5+3,none⟩) hl0 (fun q=>q)).trans c3
       replace c4:=(FWR.out.cell (p:=⟨od,off+i * 5+4,none⟩) hl0 (fun q=>q)).trans c4
       have hl:od < wr.heap.size:=Nat.lt_of_lt_of_le hl0 FWR.out.size
       clear hl0
       have htk:ds.take (i+1)=ds.take i ++ [ds[i]]:=List.take_succ_eq_append_getElem hi
       generalize ds[i]=d at c0 c1 c2 c3 c4 hpv hg htk
       obtain ⟨pa,pc,rfl⟩:=hpv.form
       have NX:=Lib.hid (show s0.after (ds.take (i+1))=((s0.after (ds.take i)).step d).2 from by rw [htk,St.after_snoc])
       have SI:=Lib.hid (ST1.out i d hg)
       have FA:=Lib.hid ((Fr.refl (fun _=>False) wr).alloc (.cells #[.int .u8 d.op,.string d.a,.string d.b,.int .i64 d.wt,.slice pa d.prs.length pc] 28))
       have BX:=Lib.hid (Cells.new wr #[.int .u8 d.op,.string d.a,.string d.b,.int .i64 d.wt,.slice pa d.prs.length pc] 28)
       have PVW:=Lib.hid hpv
       have PV:=Lib.hid (PVW.out.fr (FWR.out.trans0 FA.out))
       clear hg hr htk hpv
       go_wp2_with fail
       refine (SI.out _ sa (.slice pa d.prs.length pc) (A.out.2.1.fr0 FA.out) PV.out).mono ?_
       rintro e w5 ⟨v5,rfl, -,hz5,f5⟩
       have Z5:=hid3 hz5 ((A.out.2.2.1.fr0 FA.out).other (A.out.2.1.fr0 FA.out) NE.out.2 f5) f5
       have BX5:=Lib.hid (BX.out.fr f5 (fun e=>by have:=A.out.2.1.lt;omega))
       have PV5:=Lib.hid (PVW.out.fr ((FWR.out.trans0 FA.out).trans f5 fun q e=>.inr (Nat.le_trans FCW.out.size (LS.out.1 q e))))
       clear hz5 f5 c0 c1 c2 c3 c4 hl
       have j0:=BX5.out.cell 0 (.int .u8 d.op) rfl
       have j1:=BX5.out.cell 1 (.string d.a) rfl
       have j2:=BX5.out.cell 2 (.string d.b) rfl
       have j3:=BX5.out.cell 3 (.int .i64 d.wt) rfl
       have j4:=BX5.out.cell 4 (.slice pa d.prs.length pc) rfl
       go_wp2_with fail
       refine (SI.out _ sb (.slice pa d.prs.length pc) Z5.out.2.1 PV5.out).mono ?_
       rintro e w6 ⟨v6,rfl, -,hz6,f6⟩
       have Z6:=hid3 (Z5.out.1.other Z5.out.2.1 NE.out.1 f6) hz6 (((A.out.2.2.2.trans0 FA.out).trans Z5.out.2.2 fun q e=>.inr (LS.out.1 q e)).trans f6 fun q e=>.inr (LS.out.2 q e))
       clear hz6 f6 j0 j1 j2 j3 j4
       go_wp2_with fail
       go_roundg (gk - 1)
       case measure=>have:=A.out.1;omega
       case rel=>exact ⟨i+1,by have:=A.out.1;omega,by simp [w64p (i:=i) (n:=1000000) (Nat.le_refl _) (by have:=H.out.2.2.2.2.2.2.1;omega)],by rw [NX.out];exact Z6.out.1,by rw [NX.out];exact Z6.out.2.1,Z6.out.2.2⟩
     · have hi':i=ds.length:=by have:=A.out.1;omega
       subst hi'
       have za:=A.out.2.1
       have zb:=A.out.2.2.1
       rw [List.take_length] at za zb
       have Z7:=hid3 za zb A.out.2.2.2
       clear za zb
       generalize s0.after ds=s1 at *
       go_wp2_with fail
       go_loopg [49] es.length (fun k c wr2=>∃ i:Nat,k+i=es.length∧c=.int .i64 (i:Nat)∧ZRep wr2 sa (bif other then s1 else s1.after (es.take i))∧ZRep wr2 sb (bif other then s1.after (es.take i) else s1)∧Fr0 wc wr2)
       case atStart=>exact ⟨0,rfl,rfl,by cases other <;> exact Z7.out.1,by cases other <;> exact Z7.out.2.1,Z7.out.2.2⟩
       case round =>
         obtain ⟨i,hki,rfl,za,zb,f⟩:=hrel
         have A:=hid4 hki za zb f
         clear hki za zb f
         by_cases hi:i < es.length
         · have hg:=List.getElem?_eq_getElem hi
           have FWR:=Lib.hid (FCW.out.trans0 A.out.2.2.2)
           obtain ⟨ao',cap',e,hr⟩:=D2.out
           cases e
           obtain ⟨od,off,pv,rfl,hl0,c0,c1,c2,c3,c4,hpv⟩:=hr i _ hg
           replace c0:=(FWR.out.cell (p:=⟨od,off+i * 5,none⟩) hl0 (fun q=>q)).trans c0
           replace c1:=(FWR.out.cell (p:=⟨od,off+i * 5+1,none⟩) hl0 (fun q=>q)).trans c1
           replace c2:=(FWR.out.cell (p:=⟨od,off+i * 5+2,none⟩) hl0 (fun q=>q)).trans c2
           replace c3:=(FWR.out.cell (p:=⟨od,off+i * 5+3,none⟩) hl0 (fun q=>q)).trans c3
           replace c4:=(FWR.out.cell (p:=⟨od,off+i * 5+4,none⟩) hl0 (fun q=>q)).trans c4
           have hl:od < wr.heap.size:=Nat.lt_of_lt_of_le hl0 FWR.out.size
           clear hl0
           have htk:es.take (i+1)=es.take i ++ [es[i]]:=List.take_succ_eq_append_getElem hi
           generalize es[i]=d at c0 c1 c2 c3 c4 hpv hg htk
           obtain ⟨pa,pc,rfl⟩:=hpv.form
           have NX:=Lib.hid (show s1.after (es.take (i+1))=((s1.after (es.take i)).step d).2 from by rw [htk,St.after_snoc])
           have SI:=Lib.hid (ST2.out i d hg)
           have FA:=Lib.hid ((Fr.refl (fun _=>False) wr).alloc (.cells #[.int .u8 d.op,.string d.a,.string d.b,.int .i64 d.wt,.slice pa d.prs.length pc] 28))
           have PVW:=Lib.hid hpv
           have PV:=Lib.hid (PVW.out.fr (FWR.out.trans0 FA.out))
           clear hg hr htk hpv
           cases other with
           | false =>
             go_wp2_with fail
             refine (SI.out _ sa (.slice pa d.prs.length pc) (A.out.2.1.fr0 FA.out) PV.out).mono ?_
             rintro e w5 ⟨v5,rfl, -,hz5,f5⟩
             have Z5:=hid3 hz5 ((A.out.2.2.1.fr0 FA.out).other (A.out.2.1.fr0 FA.out) NE.out.2 f5) ((A.out.2.2.2.trans0 FA.out).trans f5 fun q e=>.inr (LS.out.1 q e))
             clear hz5 f5 c0 c1 c2 c3 c4 hl
             go_wp2_with fail
             go_roundg (gk - 1)
             case measure=>have:=A.out.1;omega
             case rel=>exact ⟨i+1,by have:=A.out.1;omega,by simp [w64p (i:=i) (n:=1000000) (Nat.le_refl _) (by have:=H.out.2.2.2.2.2.1;omega)],by rw [NX.out];exact Z5.out.1,Z5.out.2.1,Z5.out.2.2⟩
           | true =>
             go_wp2_with fail
             refine (SI.out _ sb (.slice pa d.prs.length pc) (A.out.2.2.1.fr0 FA.out) PV.out).mono ?_
             rintro e w5 ⟨v5,rfl, -,hz5,f5⟩
             have Z5:=hid3 ((A.out.2.1.fr0 FA.out).other (A.out.2.2.1.fr0 FA.out) NE.out.1 f5) hz5 ((A.out.2.2.2.trans0 FA.out).trans f5 fun q e=>.inr (LS.out.2 q e))
             clear hz5 f5 c0 c1 c2 c3 c4 hl
             go_wp2_with fail
             go_roundg (gk - 1)
             case measure=>have:=A.out.1;omega
             case rel=>exact ⟨i+1,by have:=A.out.1;omega,by simp [w64p (i:=i) (n:=1000000) (Nat.le_refl _) (by have:=H.out.2.2.2.2.2.1;omega)],Z5.out.1,by rw [NX.out];exact Z5.out.2.1,Z5.out.2.2⟩
         · have hi':i=es.length:=by have:=A.out.1;omega
           subst hi'
           have za:=A.out.2.1
           have zb:=A.out.2.2.1
           rw [List.take_length] at za zb
           have hl1:0+ds.length≤1000:=by have:=H.out.2.2.2.2.2.2.1;omega
           have hl2:0+ds.length+es.length≤1000:=by have:=H.out.2.2.2.2.2.2.1;have:=H.out.2.2.2.2.2.1;omega
           have SA:∃ n,n≤1000∧Sok n (bif other then s1 else s1.after es):=by cases other;exact ⟨_,hl2,S2.out⟩;exact ⟨_,hl1,S1.out⟩
           have SB:∃ n,n≤1000∧Sok n (bif other then s1.after es else s1):=by cases other;exact ⟨_,hl1,S1.out⟩;exact ⟨_,hl2,S2.out⟩
           obtain ⟨nA,hnA,SA⟩:=SA
           obtain ⟨nB,hnB,SB⟩:=SB
           have C1:=Lib.hid (cpt53 wc wr sa nA la _ u11 za TA.out A.out.2.2.2 (LS.out.1 _ rfl) SA.bnd hnA (SA.asks hnA).1 (SA.asks hnA).2)
           have C2:=Lib.hid (fun (w8:World) (f8:Fr (fun k=>k=sa) wr w8)=>cpt53 wc w8 sb nB lb _ u12 (zb.other za NE.out.2 f8) TB.out (A.out.2.2.2.trans f8 fun q e=>.inr (LS.out.1 q e)) (LS.out.2 _ rfl) SB.bnd hnB (SB.asks hnB).1 (SB.asks hnB).2)
           clear za zb SA SB hl1 hl2
           go_wp2_with fail
           refine C1.out.mono ?_
           rintro e w8 ⟨rfl,f8⟩
           have F8:=Lib.hid f8
           clear f8
           go_wp2_with fail
           refine (C2.out w8 F8.out).mono ?_
           rintro e w9 ⟨rfl,f9⟩
           have F9:=Lib.hid f9
           clear f9
           go_wp2_with fail
           go_ret
           exact ⟨rfl,(FCW.out.trans0 (A.out.2.2.2.trans F8.out fun q e=>.inr (LS.out.1 q e))).trans F9.out fun q e=>.inr (Nat.le_trans FCW.out.size (LS.out.2 q e))⟩
end Go.Proofs.YtbafaadmlpamiaaGreatDoor
