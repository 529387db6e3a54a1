import Derived.Test.YtbafaadmlpamiaaGreatDoorS2
import Derived.Test.YtbafaadmlpamiaaGreatDoorT4
import Derived.Test.YtbafaadmlpamiaaGreatDoorM1
set_option maxRecDepth 100000
set_option maxHeartbeats 4000000
namespace Go.Hy
open Go Go.RowKit
section
variable {P:Program} {ops:Array Oper} {Q:Exit→Act→World→Prop} {md:Region.Mode} {S:World→Prop} {m:Nat}
theorem OrdS.firstP {i:Nat} {o:Oper} {v:Value} (ho:ops[i]? = some o) (hsel:Region.noSelect ops=true) (hQ:∀ c a w,Q (.panic c) (a.put o.dst v) w→Q (.panic c) a w) (him:i≠m) :
   ∀ (n:Nat) (l:Array Bool),(∀ j oj,ops[j]? = some oj→j≠i→l.getD j true=false→(∀ e∈oj.after,Region.binds md e=true→e.on≠i)→o.apart ops oj=true)→i∈Region.ready md ops l →
     ∀ (a:Act) (w:World),YieldsIf P ops (fun _=>True) o v a→((l.setIfInBounds i true).getD m true=false→S w)→OrdS P md ops Q S m n (l.setIfInBounds i true) (a.put o.dst v) w→OrdS P md ops Q S m (n+1) l a w
 | n,l,hap,hr,a,w,hy,hS,H=>by
   refine ⟨fun e=>absurd (e▸hr) (by simp),fun j hj => ?_⟩
   by_cases hji:j=i
   · subst hji
     exact hy.wpOp ho trivial ⟨hS,H⟩
   have hstay:j∈Region.ready md ops (l.setIfInBounds i true):=ready_mono hj hji
   have hwait:i∈Region.ready md ops (l.setIfInBounds j true):=ready_mono hr (fun e=>hji e.symm)
   match n,H with
   | 0,H=>exact absurd (H.1▸hstay) (by simp)
   | n+1,H =>
     obtain ⟨hun,oj,hoj,hall⟩:=mem_ready.1 hj
     have hno:∀ e∈oj.after,Region.binds md e=true→e.on≠i:=fun e he hb q=>by
       have h1:=hall e he hb
       have h0:=(mem_ready.1 hr).1
       rw [q] at h1
       by_cases hs:i < l.size
       · rw [Array.getD,dif_pos hs] at h0 h1
         rw [h0] at h1
         cases h1
       · rw [Array.getD,dif_neg hs] at h1
         cases h1
     have hp:=wpOp_putIf hoj (hap j oj hoj hji hun hno) (fun cs b=>Region.noSelect_spec hsel i o cs b ho) (fun cs b=>Region.noSelect_spec hsel j oj cs b hoj) hQ hy (H.2 j hstay)
     refine wpOp_mono (fun a' w' z => ?_) hp
     obtain ⟨hy',hS',H'⟩:=z
     rw [Array.setIfInBounds_comm _ _ (fun e=>hji e.symm)] at H' hS'
     have sw:((l.setIfInBounds j true).getD m true=false→S w'):=fun q=>hS' (by rw [getD_set_ne true him];exact q)
     refine ⟨sw,OrdS.firstP ho hsel hQ him n _ (fun k ok hk hki hkn hkb => ?_) hwait a' w' hy' hS' H'⟩
     refine hap k ok hk hki ?_ hkb
     by_cases hjk:j=k
     · subst hjk
       exact hun
     · rwa [getD_set_ne true hjk] at hkn
theorem OrdS.takeP {i:Nat} {o:Oper} {v:Value} {n:Nat} {l:Array Bool} {a:Act} {w:World} (ho:ops[i]? = some o) (hsel:Region.noSelect ops=true) (hf:Region.free md ops l i=true) (hr:(Region.ready md ops l).contains i=true) (hc:(i != m)=true)
   (hQ:∀ c a w,Q (.panic c) (a.put o.dst v) w→Q (.panic c) a w) (hy:YieldsIf P ops (fun _=>True) o v a) (hS:(l.setIfInBounds i true).getD m true=false→S w) (h:OrdS P md ops Q S m n (l.setIfInBounds i true) (a.put o.dst v) w):OrdS P md ops Q S m (n+1) l a w:=by
 simp only [bne_iff_ne] at hc
 exact OrdS.firstP ho hsel hQ hc n l (Region.free_spec ho hf) (by simpa using hr) a w hy hS h
theorem OrdS.tp {i:Nat} {o:Oper} {v:Value} {n:Nat} {l:Array Bool} {a:Act} {w:World} (ho:ops[i]? = some o) (hc:(Region.noSelect ops && Region.free md ops l i && (Region.ready md ops l).contains i && (i != m))=true)
   (hQ:∀ c a w,Q (.panic c) (a.put o.dst v) w→Q (.panic c) a w) (hg:Region.wanted o (yielded ops a.tmps)=true) (hS:S w) (hy:∀ w,True→(execOp a.eval o).run P w=.ok (.value v) w) (h:OrdS P md ops Q S m n (l.setIfInBounds i true) (a.put o.dst v) w):OrdS P md ops Q S m (n+1) l a w:=by
 simp only [Bool.and_eq_true] at hc
 exact OrdS.takeP ho hc.1.1.1 hc.1.1.2 hc.1.2 hc.2 hQ (.inl ⟨hg,hy⟩) (fun _=>hS) h
end
end Go.Hy
namespace Go.Proofs.YtbafaadmlpamiaaGreatDoor
open Go Go.Hy Go.RowKit
theorem row_setC {w:World} {base:Nat} {e:TypeId} {size g n cap j:Nat} {xs:List Value} {u:Value} (h:w.ownsRow base e size (.slice (some ⟨g,0,none⟩) n cap) n xs) :
   (w.setCell ⟨g,j,none⟩ u).ownsRow base e size (.slice (some ⟨g,0,none⟩) n cap) n (xs.set j u):=by
 obtain ⟨hl,h1|⟨g',cap',cur,h1,h2,h3,h4,h5,h6,h7⟩⟩:=h
 · exact absurd h1.1 (by simp)
 · cases h1
   have hc:Cells w g cur e:=h3
   refine ⟨by simpa using hl,.inr ⟨g,cap,cur.setIfInBounds j u,rfl,h2,cells_set hc j u,h4,h5,by simpa using h6,?_⟩⟩
   rw [← h7,Array.toList_setIfInBounds,List.take_set]
theorem row_free {w:World} {base:Nat} {e:TypeId} {size g n cap:Nat} {xs:List Value} (h:w.ownsRow base e size (.slice (some ⟨g,0,none⟩) n cap) n xs) (j:Nat):w.frozen? ⟨g,j,none⟩=false:=by
 obtain ⟨hl,h1|⟨g',cap',cur,h1,h2,h3,h4,h5,h6,h7⟩⟩:=h
 · exact absurd h1.1 (by simp)
 · cases h1
   exact Cells.free (h3:Cells w g cur e) j
theorem set_off {α:Type} (l m:List α) (j:Nat) (x:α):(l ++ m).set (l.length+j) x=l ++ m.set j x:=by
 rw [List.set_append_right _ _ (by omega),Nat.add_sub_cancel_left]
theorem encLnk_len (l:List LnkV):(encL encLnk l).length=l.length * 4:=encL_len encLnk 4 (fun _=>rfl) l
theorem encLnk_app (l m:List LnkV):encL encLnk (l ++ m)=encL encLnk l ++ encL encLnk m:=by simp [encL]
theorem enc_swap (A R:List LnkV) (a x:LnkV) :
   ((((((((encL encLnk (A ++ a :: x :: R)).set (A.length * 4+4) (.string a.1.a)).set (A.length * 4+5) (.string a.1.b)).set (A.length * 4+6) (.int .i64 a.1.wt)).set (A.length * 4+7) a.val).set (A.length * 4+0) (.string x.1.a)).set (A.length * 4+1) (.string x.1.b)).set (A.length * 4+2) (.int .i64 x.1.wt)).set (A.length * 4+3) x.val =
   encL encLnk (A ++ x :: a :: R):=by
 have e1:encL encLnk (A ++ a :: x :: R)=encL encLnk A ++ (encLnk a ++ encLnk x ++ encL encLnk R):=by simp [encL]
 have e2:encL encLnk (A ++ x :: a :: R)=encL encLnk A ++ (encLnk x ++ encLnk a ++ encL encLnk R):=by simp [encL]
 rw [e1,e2,← encLnk_len A]
 simp only [set_off]
 rfl
def swapW (w:World) (g m:Nat) (a x:LnkV):World :=
 (((((((w.setCell ⟨g,(m+1) * 4,none⟩ (.string a.1.a)).setCell ⟨g,(m+1) * 4+1,none⟩ (.string a.1.b)).setCell ⟨g,(m+1) * 4+2,none⟩ (.int .i64 a.1.wt)).setCell ⟨g,(m+1) * 4+3,none⟩ a.val).setCell
   ⟨g,m * 4,none⟩ (.string x.1.a)).setCell ⟨g,m * 4+1,none⟩ (.string x.1.b)).setCell ⟨g,m * 4+2,none⟩ (.int .i64 x.1.wt)).setCell ⟨g,m * 4+3,none⟩ x.val
theorem swap_row {w:World} {base g n cap:Nat} {A R:List LnkV} {a x:LnkV} (h:w.ownsRow base 72 4 (.slice (some ⟨g,0,none⟩) n cap) n (encL encLnk (A ++ a :: x :: R))) :
   (swapW w g A.length a x).ownsRow base 72 4 (.slice (some ⟨g,0,none⟩) n cap) n (encL encLnk (A ++ x :: a :: R)):=by
 rw [← enc_swap A R a x]
 unfold swapW
 rw [show (A.length+1) * 4=A.length * 4+4 by omega]
 exact row_setC (row_setC (row_setC (row_setC (row_setC (row_setC (row_setC (row_setC h)))))))
theorem LinksIn.rows {w:World} {p:Nat→Prop} {v:Value} {ls:List SL} (h:LinksIn w p v ls):∃ D:List LnkV,D.map (·.1)=ls∧Reads w v D.length (encL encLnk D)∧∀ d∈D,PairsIn w p d.val d.1.es:=by
 obtain ⟨vs,h1,h2,_,h4⟩:=h
 have key:∀ (ls:List SL) (vs:List Value),vs.length=ls.length→(∀ (i:Nat) (l:SL) (u:Value),ls[i]? = some l→vs[i]? = some u→PairsIn w p u l.es) →
     ∃ D:List LnkV,D.map (·.1)=ls∧encL encLnk D=encL encLk (ls.zip vs)∧∀ d∈D,PairsIn w p d.val d.1.es:=by
   intro ls
   induction ls with
   | nil=>intro vs hl _;exact ⟨[],rfl,by simp [encL],fun d hd=>by cases hd⟩
   | cons l ls ih =>
     intro vs hl hp
     cases vs with
     | nil=>simp at hl
     | cons u vs =>
       obtain ⟨D,d1,d2,d3⟩:=ih vs (by simpa using hl) fun i l' u' h1 h2=>hp (i+1) l' u' (by simpa using h1) (by simpa using h2)
       have hpu:=hp 0 l u rfl rfl
       obtain ⟨ao,cap,rfl⟩:=hpu.form
       refine ⟨(l,ao,l.es.length,cap) :: D,by simp [d1],?_,fun d hd => ?_⟩
       · simp only [encL,List.flatMap_cons,List.zip_cons_cons] at d2 ⊢
         rw [d2]
         rfl
       · rcases List.mem_cons.1 hd with rfl|hd
         · exact hpu
         · exact d3 d hd
 obtain ⟨D,d1,d2,d3⟩:=key ls vs h1 h4
 have hl:D.length=ls.length:=by rw [← d1,List.length_map]
 exact ⟨D,d1,by rw [hl,d2];exact h2,d3⟩
theorem w64s {n k:Int} (h:n=k) (lo:0≤k) (hi:k≤1000000):IntKind.i64.wrap n=k:=by
 subst h
 rw [IntKind.wrap_i64]
 omega
structure S8 (g j:Nat) (aa ab:ByteArray) (awt:Int) (av:Value) (xa xb:ByteArray) (xwt:Int) (xv:Value) (w:World):Prop where
 lt:g < w.heap.size
 out:w.cell? ⟨g,j * 4,none⟩=some (.string aa)∧w.cell? ⟨g,j * 4+1,none⟩=some (.string ab)∧w.cell? ⟨g,j * 4+2,none⟩=some (.int .i64 awt)∧w.cell? ⟨g,j * 4+3,none⟩=some av ∧
   w.cell? ⟨g,(j+1) * 4,none⟩=some (.string xa)∧w.cell? ⟨g,(j+1) * 4+1,none⟩=some (.string xb)∧w.cell? ⟨g,(j+1) * 4+2,none⟩=some (.int .i64 xwt)∧w.cell? ⟨g,(j+1) * 4+3,none⟩=some xv
theorem S8.fr {g j:Nat} {aa ab xa xb:ByteArray} {awt xwt:Int} {av xv:Value} {w w':World} (z:S8 g j aa ab awt av xa xb xwt xv w) (f:Fr0 w w'):S8 g j aa ab awt av xa xb xwt xv w':=by
 have e:∀ i,w'.cell? ⟨g,i,none⟩=w.cell? ⟨g,i,none⟩:=fun i=>f.cell (p:=⟨g,i,none⟩) z.lt (fun q=>q)
 refine ⟨Nat.lt_of_lt_of_le z.lt f.size,?_⟩
 simp only [e]
 exact z.out
def ltD (a b:LnkV):Bool:=ltL a.1 b.1
theorem encLnk_one (l:List LnkV):∀ u∈encL encLnk l,u.oneCell'=true:=by
 intro u hu
 simp only [encL,List.mem_flatMap,encLnk] at hu
 obtain ⟨p,_,h⟩:=hu
 simp only [List.mem_cons,List.not_mem_nil,or_false] at h
 rcases h with rfl|rfl|rfl|rfl <;> rfl
theorem srt48 (w:World) (v:Value) (D:List LnkV) (h:Reads w v D.length (encL encLnk D)) (hs:D.length≤800000) :
   Calls Tryz.prog 48 #[v] w fun e w'=>∃ ao cap S,e=.returned (.slice ao D.length cap)∧InsO ltD D D.length S∧w'.ownsRow w.heap.size 72 4 (.slice ao D.length cap) D.length (encL encLnk S)∧Fr0 w w':=by
 have YL:=Lib.hid (Reads.yld h (encLnk_len D) (by decide))
 have HR:=Lib.hid h
 obtain ⟨la,lc,rfl, -, -⟩:=h
 go_enter Tryz.func48,Tryz.ntmps48
 go_wp2_with (first
   | (at_builtin;go_must (refine wl_appG (w:=w.alloc (.cells #[] 72)) 59 rfl (.tmp 6) (.tmp 7) rfl 72 _ 4 64 Tryz.underlying59 info72 rfl (by decide) (by decide) w.heap.size (.slice (some ⟨w.heap.size,0,none⟩) 0 0) 0 [] rfl (own_empty (heap_alloc_new w _)) (.slice la D.length lc) D.length (encL encLnk D) rfl (Yld.fr YL.out (show Fr0 w _ from by ((repeat' with_reducible first|assumption|exact frR|apply frD|apply frN|apply frA|apply frM|apply frC);all_goals (simp;try omega))) (fun a n c e h=>by obtain ⟨ob,q1,q2⟩:=yl_lt HR.out e h;exact ⟨q2,fun q=>q⟩)) (encLnk_len D) (encLnk_one D) (by omega) (by simp) ?_);intro v3 w4 ho f4 at4;rw [Nat.zero_add,List.nil_append] at ho;obtain ⟨ao3,cap3,rfl, -, -⟩:=own_slice ho;have H4:=hid2 ho f4;clear ho f4 at4))
 have F4:=Lib.hid (show Fr0 w w4 from Fr.trans (show Fr0 w (w.alloc (.cells #[] 72)) from by ((repeat' with_reducible first|assumption|exact frR|apply frD|apply frN|apply frA|apply frM|apply frC);all_goals (simp;try omega))) H4.out.2 (fun q hq=>.inr (by cases hq;exact Nat.le_refl _)))
 try go_frame
 go_loopg [11] D.length (fun k c wr=>∃ (i:Nat) (S:List LnkV),k+i=D.length∧c=.int .i64 (i:Nat)∧InsO ltD D i S∧wr.ownsRow w.heap.size 72 4 (.slice ao3 D.length cap3) D.length (encL encLnk (S ++ D.drop i))∧Fr0 w wr)
 case atStart=>exact ⟨0,[],rfl,rfl,InsO.zero D,H4.out.1,F4.out⟩
 case round =>
   obtain ⟨i,S,hk,rfl,hI,hown,f⟩:=hrel
   have A:=hid4 hk hI hown f
   clear hk hI hown f
   obtain ⟨ko,rfl⟩ : ∃ ko:Nat,ko=gk:=⟨_,rfl⟩
   by_cases hi:i < D.length
   · have hg:=List.getElem?_eq_getElem hi
     have hdr:D.drop i=D[i] :: D.drop (i+1):=List.drop_eq_getElem_cons hi
     have hSl:S.length=i:=by have:=A.out.2.1.perm.length_eq;rw [List.length_take] at this;omega
     generalize D[i]=x at hg hdr
     have HX:=hid3 hg hdr hSl
     clear hg hdr hSl
     go_wp2_with fail
     try go_frame
     go_loopg [5] i (fun k c wr=>∃ (m:Nat) (P Q:List LnkV),(k=m∧m=P.length)∧c=.int .i64 (m:Nat)∧InsI ltD D i x P Q∧wr.ownsRow w.heap.size 72 4 (.slice ao3 D.length cap3) D.length (encL encLnk (P ++ x :: (Q ++ D.drop (i+1))))∧Fr0 w wr)
     case atStart=>exact ⟨i,S,[],⟨rfl,HX.out.2.2.symm⟩,rfl,A.out.2.1.start x,by have:=A.out.2.2.1;rw [HX.out.2.1] at this;exact this,A.out.2.2.2⟩
     case round =>
       obtain ⟨m,P,Q,hk,rfl,hI,hown,f⟩:=hrel
       have C:=hid4 hk hI hown f
       clear hk hI hown f
       have key:∀ wz,Fr0 wr wz→(∀ a,P.getLast? = some a→ltD x a=false)→ko - 1 < ko∧∃ (j:Nat) (S:List LnkV),ko - 1+j=D.length∧(Value.int .i64 ((i:Int)+1))=.int .i64 (j:Nat)∧InsO ltD D j S∧wz.ownsRow w.heap.size 72 4 (.slice ao3 D.length cap3) D.length (encL encLnk (S ++ D.drop j))∧Fr0 w wz:=fun wz fz hl=>by
         have:=A.out.1
         refine ⟨by omega,i+1,P ++ x :: Q,by omega,by simp,C.out.2.1.stop (fun a b=>ltL_asym a.1 b.1) (fun a b c=>ltL_ntr a.1 b.1 c.1) HX.out.1 hl,?_,C.out.2.2.2.trans0 fz⟩
         have h3:=ownsRow_fr C.out.2.2.1 fz (fun _ _ q=>q)
         rw [List.append_assoc,List.cons_append]
         exact h3
       have KEY:=Lib.hid key
       clear key
       rcases List.eq_nil_or_concat P with rfl|⟨P',a,hc⟩
       · obtain rfl:m=0:=C.out.1.2
         go_wp2_with fail
         go_quiet (fail)
         go_wp2_with fail
         have R:=KEY.out (wr.drewN nq) (by ((repeat' with_reducible first|assumption|exact frR|apply frD|apply frN|apply frA|apply frM|apply frC);all_goals (simp;try omega))) (fun a h=>by simp at h)
         go_roundg (ko - 1)
         case measure=>exact R.1
         case rel=>exact R.2
       · rw [List.concat_eq_append] at hc
         subst hc
         obtain ⟨m',rfl⟩ : ∃ m',m=m'+1:=⟨P'.length,by rw [C.out.1.2];simp⟩
         have hm':P'.length=m':=by have:=C.out.1.2;simp at this;omega
         have OW:=Lib.hid (show wr.ownsRow w.heap.size 72 4 (.slice ao3 D.length cap3) D.length (encL encLnk (P' ++ a :: x :: (Q ++ D.drop (i+1)))) by have:=C.out.2.2.1;rwa [List.append_assoc,List.singleton_append] at this)
         have hL:(P' ++ a :: x :: (Q ++ D.drop (i+1))).length=D.length:=by have:=OW.out.1;rw [encLnk_len] at this;omega
         have hLm:m'+1 < D.length:=by rw [← hL];simp;omega
         have ga:(P' ++ a :: x :: (Q ++ D.drop (i+1)))[m']? = some a:=by rw [← hm'];simp
         have gx:(P' ++ a :: x :: (Q ++ D.drop (i+1)))[m'+1]? = some x:=by rw [← hm'];simp
         obtain ⟨ao4,cap4,e4,hcp,hv⟩:=own_slice OW.out
         have ra:∀ c,c < 4→(encL encLnk (P' ++ a :: x :: (Q ++ D.drop (i+1))))[m' * 4+c]? = (encLnk a)[c]?:=fun c hc=>encL_mem encLnk 4 _ (fun _ _=>rfl) m' c a ga hc
         have rx:∀ c,c < 4→(encL encLnk (P' ++ a :: x :: (Q ++ D.drop (i+1))))[(m'+1) * 4+c]? = (encLnk x)[c]?:=fun c hc=>encL_mem encLnk 4 _ (fun _ _=>rfl) (m'+1) c x gx hc
         obtain ⟨g,e5,hgl,a0⟩:=hv _ _ (ra 0 (by decide))
         cases e4
         subst e5
         have av:∀ j u,(encL encLnk (P' ++ a :: x :: (Q ++ D.drop (i+1))))[j]? = some u→wr.cell? ⟨g,j,none⟩=some u:=fun j u hu=>by obtain ⟨g',e6,_,h6⟩:=hv j u hu;cases e6;exact h6
         have a1:=av _ _ (ra 1 (by decide))
         have a2:=av _ _ (ra 2 (by decide))
         have a3:=av _ _ (ra 3 (by decide))
         have x0:=av _ _ (rx 0 (by decide))
         have x1:=av _ _ (rx 1 (by decide))
         have x2:=av _ _ (rx 2 (by decide))
         have x3:=av _ _ (rx 3 (by decide))
         have RF:=Lib.hid (row_free OW.out)
         have PQ:=hid3 hm' hL hcp
         clear ra rx ga gx hv av hL hm' hcp
         obtain ⟨⟨aa,ab,awt,aes⟩,av1,av2,av3⟩:=a
         obtain ⟨⟨xa,xb,xwt,xes⟩,xv1,xv2,xv3⟩:=x
         have hw0:IntKind.i64.wrap (m':Int)=(m':Int):=w64s rfl (by omega) (by omega)
         have hw1:IntKind.i64.wrap ((m':Int)+1 - 1)=(m':Int):=w64s (by omega) (by omega) (by omega)
         have hk0:(0:Int) < (m':Int)+1:=by omega
         have hk1:(m':Int)+1 < (D.length:Int):=by omega
         have hk2:(m':Int) < (D.length:Int):=by omega
         have hk3:(0:Int)≤(m':Int):=by omega
         have hk4:(0:Int)≤(m':Int)+1:=by omega
         have hk5:((m':Int)+1).toNat=m'+1:=by omega
         simp only [Nat.add_zero] at a0 x0
         change wr.cell? ⟨g,m' * 4,none⟩=some (.string aa) at a0
         change wr.cell? ⟨g,m' * 4+1,none⟩=some (.string ab) at a1
         change wr.cell? ⟨g,m' * 4+2,none⟩=some (.int .i64 awt) at a2
         change wr.cell? ⟨g,m' * 4+3,none⟩=some (.slice av1 av2 av3) at a3
         change wr.cell? ⟨g,(m'+1) * 4,none⟩=some (.string xa) at x0
         change wr.cell? ⟨g,(m'+1) * 4+1,none⟩=some (.string xb) at x1
         change wr.cell? ⟨g,(m'+1) * 4+2,none⟩=some (.int .i64 xwt) at x2
         change wr.cell? ⟨g,(m'+1) * 4+3,none⟩=some (.slice xv1 xv2 xv3) at x3
         by_cases hab:xa=aa
         · subst hab
           have hlt0:Op.bytesLess xa.toList xa.toList=false:=bl_irrefl _
           cases hlt:Op.bytesLess xb.toList ab.toList with
           | false =>
             have RR:=Lib.hid (fun wz fz=>KEY.out wz fz (fun a h=>by simp at h;subst h;simp [ltD,ltL,lt2,ltB,hlt]))
             go_wp2_with fail
             go_quiet (fail)
             go_wp2_with fail
             have R:=RR.out (wr.drewN nq) (by ((repeat' with_reducible first|assumption|exact frR|apply frD|apply frN|apply frA|apply frM|apply frC);all_goals (simp;try omega)))
             go_roundg (ko - 1)
             case measure=>exact R.1
             case rel=>exact R.2
           | true =>
             have HLT:=Lib.hid (show ltD (⟨xa,xb,xwt,xes⟩,xv1,xv2,xv3) (⟨xa,ab,awt,aes⟩,av1,av2,av3)=true from by simp [ltD,ltL,lt2,ltB,hlt])
             go_wp2_with fail
             go_quiet (fail)
             go_wp2_with fail
             (skip;have S3:=Lib.hid (S8.mk (g:=g) (j:=m') hgl ⟨a0,a1,a2,a3,x0,x1,x2,x3⟩);refine OrdS.start (S:=S8 g m' xa ab awt (.slice av1 av2 av3) xa xb xwt (.slice xv1 xv2 xv3)) (m:=15) (by kernel_rfl) ?_;have hHeld:=S3.out.fr (show Fr0 wr (wr.drewN nq).drew from by ((repeat' with_reducible first|assumption|exact frR|apply frD|apply frN|apply frA|apply frM|apply frC);all_goals (simp;try omega)));(refine OrdS.tq (i:=0) (v:=?_) rfl (by kernel_rfl) (fun _ _ _ h=>h) (by rfl) hHeld ?_ ?_;rotate_left;focus (intro w' hSw;replace hSw:=hSw.out;go_simp;try with_reducible rfl);(try simp only [Act.put,lA,lZ,lS]));(refine OrdS.tq (i:=1) (v:=?_) rfl (by kernel_rfl) (fun _ _ _ h=>h) (by rfl) hHeld ?_ ?_;rotate_left;focus (intro w' hSw;replace hSw:=hSw.out;go_simp;try with_reducible rfl);(try simp only [Act.put,lA,lZ,lS]));(refine OrdS.tp (i:=2) (v:=?_) rfl (by kernel_rfl) (fun _ _ _ h=>h) (by rfl) hHeld ?_ ?_;rotate_left;focus (intro w' hSw;go_simp;try with_reducible rfl);(try simp only [Act.put,lA,lZ,lS]));(refine OrdS.tp (i:=3) (v:=?_) rfl (by kernel_rfl) (fun _ _ _ h=>h) (by rfl) hHeld ?_ ?_;rotate_left;focus (intro w' hSw;go_simp;try with_reducible rfl);(try simp only [Act.put,lA,lZ,lS]));(refine OrdS.tp (i:=4) (v:=?_) rfl (by kernel_rfl) (fun _ _ _ h=>h) (by rfl) hHeld ?_ ?_;rotate_left;focus (intro w' hSw;go_simp;try with_reducible rfl);(try simp only [Act.put,lA,lZ,lS]));(refine OrdS.tq (i:=5) (v:=?_) rfl (by kernel_rfl) (fun _ _ _ h=>h) (by rfl) hHeld ?_ ?_;rotate_left;focus (intro w' hSw;replace hSw:=hSw.out;go_simp;try with_reducible rfl);(try simp only [Act.put,lA,lZ,lS]));(refine OrdS.tq (i:=6) (v:=?_) rfl (by kernel_rfl) (fun _ _ _ h=>h) (by rfl) hHeld ?_ ?_;rotate_left;focus (intro w' hSw;replace hSw:=hSw.out;go_simp;try with_reducible rfl);(try simp only [Act.put,lA,lZ,lS]));(refine OrdS.tq (i:=7) (v:=?_) rfl (by kernel_rfl) (fun _ _ _ h=>h) (by rfl) hHeld ?_ ?_;rotate_left;focus (intro w' hSw;replace hSw:=hSw.out;go_simp;try with_reducible rfl);(try simp only [Act.put,lA,lZ,lS]));(refine OrdS.tq (i:=8) (v:=?_) rfl (by kernel_rfl) (fun _ _ _ h=>h) (by rfl) hHeld ?_ ?_;rotate_left;focus (intro w' hSw;replace hSw:=hSw.out;go_simp;try with_reducible rfl);(try simp only [Act.put,lA,lZ,lS]));(refine OrdS.tq (i:=9) (v:=?_) rfl (by kernel_rfl) (fun _ _ _ h=>h) (by rfl) hHeld ?_ ?_;rotate_left;focus (intro w' hSw;replace hSw:=hSw.out;go_simp;try with_reducible rfl);(try simp only [Act.put,lA,lZ,lS]));(refine OrdS.tp (i:=10) (v:=?_) rfl (by kernel_rfl) (fun _ _ _ h=>h) (by rfl) hHeld ?_ ?_;rotate_left;focus (intro w' hSw;go_simp;try with_reducible rfl);(try simp only [Act.put,lA,lZ,lS]));(refine OrdS.tp (i:=11) (v:=?_) rfl (by kernel_rfl) (fun _ _ _ h=>h) (by rfl) hHeld ?_ ?_;rotate_left;focus (intro w' hSw;go_simp;try with_reducible rfl);(try simp only [Act.put,lA,lZ,lS]));(refine OrdS.tp (i:=12) (v:=?_) rfl (by kernel_rfl) (fun _ _ _ h=>h) (by rfl) hHeld ?_ ?_;rotate_left;focus (intro w' hSw;go_simp;try with_reducible rfl);(try simp only [Act.put,lA,lZ,lS]));(refine OrdS.tq (i:=13) (v:=?_) rfl (by kernel_rfl) (fun _ _ _ h=>h) (by rfl) hHeld ?_ ?_;rotate_left;focus (intro w' hSw;replace hSw:=hSw.out;go_simp;try with_reducible rfl);(try simp only [Act.put,lA,lZ,lS]));(refine OrdS.tq (i:=14) (v:=?_) rfl (by kernel_rfl) (fun _ _ _ h=>h) (by rfl) hHeld ?_ ?_;rotate_left;focus (intro w' hSw;replace hSw:=hSw.out;go_simp;try with_reducible rfl);(try simp only [Act.put,lA,lZ,lS]));have f15:=hHeld.out;clear hHeld;have z0:=RF.out (m' * 4);have z1:=RF.out (m' * 4+1);have z2:=RF.out (m' * 4+2);have z3:=RF.out (m' * 4+3);have z4:=RF.out ((m'+1) * 4);have z5:=RF.out ((m'+1) * 4+1);have z6:=RF.out ((m'+1) * 4+2);have z7:=RF.out ((m'+1) * 4+3);  (refine OrdS.one (i:=15) rfl (by kernel_rfl) ?_;intro K hK);go_simp;refine hK.out _ _ (fun h=>absurd (show true=false from h) (by decide)) ?_;clear hK K;(try simp only [Act.put,lA,lZ,lS]);(refine OrdS.one (i:=16) rfl (by kernel_rfl) ?_;intro K hK);go_simp;refine hK.out _ _ (fun h=>absurd (show true=false from h) (by decide)) ?_;clear hK K;(try simp only [Act.put,lA,lZ,lS]);(refine OrdS.one (i:=17) rfl (by kernel_rfl) ?_;intro K hK);go_simp;refine hK.out _ _ (fun h=>absurd (show true=false from h) (by decide)) ?_;clear hK K;(try simp only [Act.put,lA,lZ,lS]);refine OrdS.done (by kernel_rfl) ?_;generalize hU:(((((((((wr.drewN (nq+1)).setCell ⟨g,(m'+1) * 4,none⟩ (.string xa)).setCell ⟨g,(m'+1) * 4+1,none⟩ (.string ab)).setCell ⟨g,(m'+1) * 4+2,none⟩ (.int .i64 awt)).setCell ⟨g,(m'+1) * 4+3,none⟩ (.slice av1 av2 av3)).setCell ⟨g,m' * 4,none⟩ (.string xa)).setCell ⟨g,m' * 4+1,none⟩ (.string xb)).setCell ⟨g,m' * 4+2,none⟩ (.int .i64 xwt)).setCell ⟨g,m' * 4+3,none⟩ (.slice xv1 xv2 xv3))=U;have FU:=Lib.hid (show Fr0 w U from by subst hU;exact (((((((((C.out.2.2.2.drewN (nq+1)).setCell (.inr (OW.out.lt g rfl).1) _).setCell (.inr (OW.out.lt g rfl).1) _).setCell (.inr (OW.out.lt g rfl).1) _).setCell (.inr (OW.out.lt g rfl).1) _).setCell (.inr (OW.out.lt g rfl).1) _).setCell (.inr (OW.out.lt g rfl).1) _).setCell (.inr (OW.out.lt g rfl).1) _).setCell (.inr (OW.out.lt g rfl).1) _));have RU:=Lib.hid (show U.ownsRow w.heap.size 72 4 (.slice (some ⟨g,0,none⟩) D.length cap3) D.length (encL encLnk (P' ++ (⟨xa,xb,xwt,xes⟩,xv1,xv2,xv3) :: (⟨xa,ab,awt,aes⟩,av1,av2,av3) :: (Q ++ D.drop (i+1)))) from by subst hU;have z:=swap_row (ownsRow_fr OW.out (show Fr0 wr (wr.drewN (nq+1)) from by ((repeat' with_reducible first|assumption|exact frR|apply frD|apply frN|apply frA|apply frM|apply frC);all_goals (simp;try omega))) (fun _ _ q=>q));rw [PQ.out.1] at z;exact z);clear hU f15 z0 z1 z2 z3 z4 z5 z6 z7;go_wp2_with fail;go_roundg m';(case measure=>(have:=C.out.1.1;omega));(case rel=>exact ⟨m',P',(⟨xa,ab,awt,aes⟩,av1,av2,av3) :: Q,⟨rfl,PQ.out.1.symm⟩,by first|rfl|simp,C.out.2.1.down HLT.out,RU.out,FU.out⟩))
         · have hab':=text_ne hab
           cases hlt:Op.bytesLess xa.toList aa.toList with
           | false =>
             have RR:=Lib.hid (fun wz fz=>KEY.out wz fz (fun a h=>by simp at h;subst h;simp [ltD,ltL,lt2,ltB,hlt,hab]))
             go_wp2_with fail
             go_quiet (fail)
             go_wp2_with fail
             have R:=RR.out (wr.drewN nq) (by ((repeat' with_reducible first|assumption|exact frR|apply frD|apply frN|apply frA|apply frM|apply frC);all_goals (simp;try omega)))
             go_roundg (ko - 1)
             case measure=>exact R.1
             case rel=>exact R.2
           | true =>
             have HLT:=Lib.hid (show ltD (⟨xa,xb,xwt,xes⟩,xv1,xv2,xv3) (⟨aa,ab,awt,aes⟩,av1,av2,av3)=true from by simp [ltD,ltL,lt2,ltB,hlt,hab])
             go_wp2_with fail
             go_quiet (fail)
             go_wp2_with fail
             (skip;have S3:=Lib.hid (S8.mk (g:=g) (j:=m') hgl ⟨a0,a1,a2,a3,x0,x1,x2,x3⟩);refine OrdS.start (S:=S8 g m' aa ab awt (.slice av1 av2 av3) xa xb xwt (.slice xv1 xv2 xv3)) (m:=15) (by kernel_rfl) ?_;have hHeld:=S3.out.fr (show Fr0 wr (wr.drewN nq).drew from by ((repeat' with_reducible first|assumption|exact frR|apply frD|apply frN|apply frA|apply frM|apply frC);all_goals (simp;try omega)));(refine OrdS.tq (i:=0) (v:=?_) rfl (by kernel_rfl) (fun _ _ _ h=>h) (by rfl) hHeld ?_ ?_;rotate_left;focus (intro w' hSw;replace hSw:=hSw.out;go_simp;try with_reducible rfl);(try simp only [Act.put,lA,lZ,lS]));(refine OrdS.tq (i:=1) (v:=?_) rfl (by kernel_rfl) (fun _ _ _ h=>h) (by rfl) hHeld ?_ ?_;rotate_left;focus (intro w' hSw;replace hSw:=hSw.out;go_simp;try with_reducible rfl);(try simp only [Act.put,lA,lZ,lS]));(refine OrdS.tp (i:=2) (v:=?_) rfl (by kernel_rfl) (fun _ _ _ h=>h) (by rfl) hHeld ?_ ?_;rotate_left;focus (intro w' hSw;go_simp;try with_reducible rfl);(try simp only [Act.put,lA,lZ,lS]));(refine OrdS.tp (i:=3) (v:=?_) rfl (by kernel_rfl) (fun _ _ _ h=>h) (by rfl) hHeld ?_ ?_;rotate_left;focus (intro w' hSw;go_simp;try with_reducible rfl);(try simp only [Act.put,lA,lZ,lS]));(refine OrdS.tp (i:=4) (v:=?_) rfl (by kernel_rfl) (fun _ _ _ h=>h) (by rfl) hHeld ?_ ?_;rotate_left;focus (intro w' hSw;go_simp;try with_reducible rfl);(try simp only [Act.put,lA,lZ,lS]));(refine OrdS.tq (i:=5) (v:=?_) rfl (by kernel_rfl) (fun _ _ _ h=>h) (by rfl) hHeld ?_ ?_;rotate_left;focus (intro w' hSw;replace hSw:=hSw.out;go_simp;try with_reducible rfl);(try simp only [Act.put,lA,lZ,lS]));(refine OrdS.tq (i:=6) (v:=?_) rfl (by kernel_rfl) (fun _ _ _ h=>h) (by rfl) hHeld ?_ ?_;rotate_left;focus (intro w' hSw;replace hSw:=hSw.out;go_simp;try with_reducible rfl);(try simp only [Act.put,lA,lZ,lS]));(refine OrdS.tq (i:=7) (v:=?_) rfl (by kernel_rfl) (fun _ _ _ h=>h) (by rfl) hHeld ?_ ?_;rotate_left;focus (intro w' hSw;replace hSw:=hSw.out;go_simp;try with_reducible rfl);(try simp only [Act.put,lA,lZ,lS]));(refine OrdS.tq (i:=8) (v:=?_) rfl (by kernel_rfl) (fun _ _ _ h=>h) (by rfl) hHeld ?_ ?_;rotate_left;focus (intro w' hSw;replace hSw:=hSw.out;go_simp;try with_reducible rfl);(try simp only [Act.put,lA,lZ,lS]));(refine OrdS.tq (i:=9) (v:=?_) rfl (by kernel_rfl) (fun _ _ _ h=>h) (by rfl) hHeld ?_ ?_;rotate_left;focus (intro w' hSw;replace hSw:=hSw.out;go_simp;try with_reducible rfl);(try simp only [Act.put,lA,lZ,lS]));(refine OrdS.tp (i:=10) (v:=?_) rfl (by kernel_rfl) (fun _ _ _ h=>h) (by rfl) hHeld ?_ ?_;rotate_left;focus (intro w' hSw;go_simp;try with_reducible rfl);(try simp only [Act.put,lA,lZ,lS]));(refine OrdS.tp (i:=11) (v:=?_) rfl (by kernel_rfl) (fun _ _ _ h=>h) (by rfl) hHeld ?_ ?_;rotate_left;focus (intro w' hSw;go_simp;try with_reducible rfl);(try simp only [Act.put,lA,lZ,lS]));(refine OrdS.tp (i:=12) (v:=?_) rfl (by kernel_rfl) (fun _ _ _ h=>h) (by rfl) hHeld ?_ ?_;rotate_left;focus (intro w' hSw;go_simp;try with_reducible rfl);(try simp only [Act.put,lA,lZ,lS]));(refine OrdS.tq (i:=13) (v:=?_) rfl (by kernel_rfl) (fun _ _ _ h=>h) (by rfl) hHeld ?_ ?_;rotate_left;focus (intro w' hSw;replace hSw:=hSw.out;go_simp;try with_reducible rfl);(try simp only [Act.put,lA,lZ,lS]));(refine OrdS.tq (i:=14) (v:=?_) rfl (by kernel_rfl) (fun _ _ _ h=>h) (by rfl) hHeld ?_ ?_;rotate_left;focus (intro w' hSw;replace hSw:=hSw.out;go_simp;try with_reducible rfl);(try simp only [Act.put,lA,lZ,lS]));have f15:=hHeld.out;clear hHeld;have z0:=RF.out (m' * 4);have z1:=RF.out (m' * 4+1);have z2:=RF.out (m' * 4+2);have z3:=RF.out (m' * 4+3);have z4:=RF.out ((m'+1) * 4);have z5:=RF.out ((m'+1) * 4+1);have z6:=RF.out ((m'+1) * 4+2);have z7:=RF.out ((m'+1) * 4+3);  (refine OrdS.one (i:=15) rfl (by kernel_rfl) ?_;intro K hK);go_simp;refine hK.out _ _ (fun h=>absurd (show true=false from h) (by decide)) ?_;clear hK K;(try simp only [Act.put,lA,lZ,lS]);(refine OrdS.one (i:=16) rfl (by kernel_rfl) ?_;intro K hK);go_simp;refine hK.out _ _ (fun h=>absurd (show true=false from h) (by decide)) ?_;clear hK K;(try simp only [Act.put,lA,lZ,lS]);(refine OrdS.one (i:=17) rfl (by kernel_rfl) ?_;intro K hK);go_simp;refine hK.out _ _ (fun h=>absurd (show true=false from h) (by decide)) ?_;clear hK K;(try simp only [Act.put,lA,lZ,lS]);refine OrdS.done (by kernel_rfl) ?_;generalize hU:(((((((((wr.drewN (nq+1)).setCell ⟨g,(m'+1) * 4,none⟩ (.string aa)).setCell ⟨g,(m'+1) * 4+1,none⟩ (.string ab)).setCell ⟨g,(m'+1) * 4+2,none⟩ (.int .i64 awt)).setCell ⟨g,(m'+1) * 4+3,none⟩ (.slice av1 av2 av3)).setCell ⟨g,m' * 4,none⟩ (.string xa)).setCell ⟨g,m' * 4+1,none⟩ (.string xb)).setCell ⟨g,m' * 4+2,none⟩ (.int .i64 xwt)).setCell ⟨g,m' * 4+3,none⟩ (.slice xv1 xv2 xv3))=U;have FU:=Lib.hid (show Fr0 w U from by subst hU;exact (((((((((C.out.2.2.2.drewN (nq+1)).setCell (.inr (OW.out.lt g rfl).1) _).setCell (.inr (OW.out.lt g rfl).1) _).setCell (.inr (OW.out.lt g rfl).1) _).setCell (.inr (OW.out.lt g rfl).1) _).setCell (.inr (OW.out.lt g rfl).1) _).setCell (.inr (OW.out.lt g rfl).1) _).setCell (.inr (OW.out.lt g rfl).1) _).setCell (.inr (OW.out.lt g rfl).1) _));have RU:=Lib.hid (show U.ownsRow w.heap.size 72 4 (.slice (some ⟨g,0,none⟩) D.length cap3) D.length (encL encLnk (P' ++ (⟨xa,xb,xwt,xes⟩,xv1,xv2,xv3) :: (⟨aa,ab,awt,aes⟩,av1,av2,av3) :: (Q ++ D.drop (i+1)))) from by subst hU;have z:=swap_row (ownsRow_fr OW.out (show Fr0 wr (wr.drewN (nq+1)) from by ((repeat' with_reducible first|assumption|exact frR|apply frD|apply frN|apply frA|apply frM|apply frC);all_goals (simp;try omega))) (fun _ _ q=>q));rw [PQ.out.1] at z;exact z);clear hU f15 z0 z1 z2 z3 z4 z5 z6 z7;go_wp2_with fail;go_roundg m';(case measure=>(have:=C.out.1.1;omega));(case rel=>exact ⟨m',P',(⟨aa,ab,awt,aes⟩,av1,av2,av3) :: Q,⟨rfl,PQ.out.1.symm⟩,by first|rfl|simp,C.out.2.1.down HLT.out,RU.out,FU.out⟩))
   · have hi':i=D.length:=by have:=A.out.1;omega
     subst hi'
     go_wp2_with fail
     go_ret
     refine ⟨ao3,cap3,S,rfl,A.out.2.1,?_,A.out.2.2.2⟩
     have:=A.out.2.2.1
     rwa [List.drop_length,List.append_nil] at this
def turnD (d:LnkV):LnkV:=(d.1.turn,d.2)
def bothD (dir back:Bool) (D:List LnkV):List LnkV:=D.flatMap fun d=>(if !back || !dir then [d] else []) ++ (if back || !dir then [turnD d] else [])
theorem bothD_sl (s:St) (back:Bool) (D:List LnkV) (h:D.map (·.1)=s.ls):(bothD s.dir back D).map (·.1)=s.both back:=by
 unfold bothD St.both
 rw [← h,List.map_flatMap,List.flatMap_map]
 refine congrArg (fun g=>List.flatMap g D) (funext fun d => ?_)
 cases back <;> cases s.dir <;> rfl
theorem bothD_snoc (dir back:Bool) {D:List LnkV} {i:Nat} {d:LnkV} (h:D[i]? = some d) :
   bothD dir back (D.take (i+1))=bothD dir back (D.take i) ++ ((if !back || !dir then [d] else []) ++ (if back || !dir then [turnD d] else [])):=by
 have hi:=(List.getElem?_eq_some_iff.1 h).1
 rw [List.take_succ_eq_append_getElem hi,(List.getElem?_eq_some_iff.1 h).2]
 unfold bothD
 rw [List.flatMap_append]
 simp
theorem bothD_mem {dir back:Bool} {D:List LnkV} {x:LnkV} (h:x∈bothD dir back D):∃ d∈D,x.val=d.val∧x.1.es=d.1.es:=by
 unfold bothD at h
 obtain ⟨d,hd,h⟩:=List.mem_flatMap.1 h
 refine ⟨d,hd,?_⟩
 rcases List.mem_append.1 h with q|q
 · split at q
   · simp only [List.mem_singleton] at q;subst q;exact ⟨rfl,rfl⟩
   · cases q
 · split at q
   · simp only [List.mem_singleton] at q;subst q;exact ⟨rfl,rfl⟩
   · cases q
structure AL (w0:World) (dir back:Bool) (D:List LnkV) (i:Nat) (v:Value) (m:Nat) (wr:World):Prop where
 len:m=(bothD dir back (D.take i)).length
 row:wr.ownsRow w0.heap.size 72 4 v m (encL encLnk (bothD dir back (D.take i)))
 fr:Fr0 w0 wr
theorem AL.start (w0:World) (dir back:Bool) (D:List LnkV):AL w0 dir back D 0 (.slice none 0 0) 0 w0:=⟨rfl,World.ownsRow_nil _ _ _ _,Fr.refl _ _⟩
theorem AL.le (back:Bool) (D:List LnkV) (dir:Bool):(bothD dir back D).length≤D.length * 2:=by
 unfold bothD
 refine flatMap_le _ 2 _ fun x _ => ?_
 rw [List.length_append]
 have h1:(if (!back || !dir)=true then [x] else []).length≤1:=by split <;> simp
 have h2:(if (back || !dir)=true then [turnD x] else []).length≤1:=by split <;> simp
 omega
theorem yield1 (W:World) (cs:Array Value) (t:TypeId) (size:Nat) (hc:cs.size=size):Yld (W.alloc (.cells cs t)) (.slice (some ⟨W.heap.size,0,none⟩) 1 1) 1 cs.toList :=
 yields_own (own_of_block (heap_alloc_new W (.cells cs t)) hc)
theorem AL.one {w0 wr w4:World} {dir back:Bool} {D:List LnkV} {i m:Nat} {v v':Value} {d e:LnkV} (h:AL w0 dir back D i v m wr) (hd:D[i]? = some d) (he:(if !back || !dir then [d] else []) ++ (if back || !dir then [turnD d] else []) = [e])
   (ho:w4.ownsRow w0.heap.size 72 4 v' (m+1) (encL encLnk (bothD dir back (D.take i)) ++ encLnk e)) (f:Fr0 w0 w4):AL w0 dir back D (i+1) v' (m+1) w4:=by
 have q:=bothD_snoc dir back hd
 rw [he] at q
 refine ⟨by rw [q,h.len];simp,?_,f⟩
 rw [q,encLnk_app]
 simpa [encL] using ho
theorem AL.two {w0 wr w4:World} {dir back:Bool} {D:List LnkV} {i m:Nat} {v v':Value} {d:LnkV} (h:AL w0 dir back D i v m wr) (hd:D[i]? = some d) (hdir:dir=false)
   (ho:w4.ownsRow w0.heap.size 72 4 v' (m+1+1) (encL encLnk (bothD dir back (D.take i)) ++ encLnk d ++ encLnk (turnD d))) (f:Fr0 w0 w4):AL w0 dir back D (i+1) v' (m+1+1) w4:=by
 have q:=bothD_snoc dir back hd
 have he:(if !back || !dir then [d] else []) ++ (if back || !dir then [turnD d] else []) = [d,turnD d]:=by subst hdir;cases back <;> rfl
 rw [he] at q
 refine ⟨by rw [q,h.len];simp,?_,f⟩
 rw [q,encLnk_app]
 simpa [encL] using ho
theorem w64z {i n:Nat} (h:n≤1000000) (hi:i < n):wrap64 ((i:Int)+1)=(i:Int)+1:=by
 unfold wrap64
 omega
theorem all49 (w:World) (sb:Nat) (s:St) (p:Nat→Prop) (b1 b2 b3 b4:Bool) (pv lv:Value) (hc:Cells w sb (zCells s b1 b2 b3 b4 pv lv) 91) (hl:LinksIn w p lv s.ls) (hs:Small s) (back:Bool) (hn:((s.both back).map keyS).Nodup) :
   Calls Tryz.prog 49 #[.pointer (some ⟨sb,0,none⟩),.bool back] w fun e w'=>∃ v,e=.returned v∧LinksIn w' (fun q=>p q∨w.heap.size≤q) v (sortL (s.both back))∧Fr0 w w':=by
 have HS:=Lib.hid hs
 have hsb:=hc.lt
 obtain ⟨D,hD,hRD,hPD⟩:=hl.rows
 have HLD:=Lib.hid (show D.length=s.ls.length from by rw [← hD,List.length_map])
 have HL6:=Lib.hid (show D.length≤1000000 from by have:=HLD.out;have:=hs.ls;omega)
 have HH:=hid5 hc hD hRD hPD hn
 have hf:=hl.form
 obtain ⟨la,lc,rfl, -⟩:=hf
 have c8:=hc.cell 8 (.slice la s.ls.length lc) rfl
 rw [← HLD.out] at c8
 clear hc hl hD hRD hPD hn hs
 go_enter Tryz.func49,Tryz.ntmps49
 go_wp2_with fail
 go_loopg [5,14] D.length (fun k v5 c wr=>∃ (i m:Nat),k+i=D.length∧c=.int .i64 (i:Nat)∧AL w s.dir back D i v5 m wr)
 case atStart=>exact ⟨0,0,rfl,rfl,AL.start w s.dir back D⟩
 case round =>
   obtain ⟨i,m,hk,rfl,R⟩:=hrel
   have A:=hid2 hk R
   clear hk R
   by_cases hi:i < D.length
   · have hg:=List.getElem?_eq_getElem hi
     generalize D[i]=d at hg
     have HG:=Lib.hid hg
     have at_:∀ c u,c < 4→(encLnk d)[c]? = some u→∃ ob cap,(Value.slice la s.ls.length lc)=.slice (some ⟨ob,0,none⟩) D.length cap∧D.length≤cap∧ob < wr.heap.size∧wr.cell? ⟨ob,i * 4+c,none⟩=some u :=
       fun c u hc hu=>(HH.out.2.2.1.fr A.out.2.fr (fun _ _ _ q=>q)).cell ((encL_mem encLnk 4 D (fun _ _=>rfl) i c d hg hc).trans hu)
     obtain ⟨⟨da,db,dwt,des⟩,dv1,dv2,dv3⟩:=d
     obtain ⟨ob,cp,e, -,hob,c0⟩:=at_ 0 (.string da) (by decide) rfl
     obtain ⟨_,_,e1, -, -,c1⟩:=at_ 1 (.string db) (by decide) rfl
     obtain ⟨_,_,e2, -, -,c2⟩:=at_ 2 (.int .i64 dwt) (by decide) rfl
     obtain ⟨_,_,e3, -, -,c3⟩:=at_ 3 (.slice dv1 dv2 dv3) (by decide) rfl
     rw [← HLD.out] at e e1 e2 e3
     cases e;cases e1;cases e2;cases e3
     simp only [Nat.add_zero] at c0
     clear at_ hg
     have hob2:=Nat.ne_of_lt hob
     have FU:=Lib.hid (((Fr.refl (fun _=>False) wr).alloc (.cells #[.string da,.string db,.int .i64 dwt,.slice dv1 dv2 dv3] 72)).alloc (.cells #[.string db,.string da,.int .i64 dwt,.slice dv1 dv2 dv3] 72))
     have UA:=Lib.hid ((Cells.new wr #[.string da,.string db,.int .i64 dwt,.slice dv1 dv2 dv3] 72).alloc (.cells #[.string db,.string da,.int .i64 dwt,.slice dv1 dv2 dv3] 72))
     have UB:Cells ((wr.alloc (.cells #[.string da,.string db,.int .i64 dwt,.slice dv1 dv2 dv3] 72)).alloc (.cells #[.string db,.string da,.int .i64 dwt,.slice dv1 dv2 dv3] 72)) (wr.heap.size+1) #[.string db,.string da,.int .i64 dwt,.slice dv1 dv2 dv3] 72:=by
       have z:=Cells.new (wr.alloc (.cells #[.string da,.string db,.int .i64 dwt,.slice dv1 dv2 dv3] 72)) #[.string db,.string da,.int .i64 dwt,.slice dv1 dv2 dv3] 72
       rwa [show (wr.alloc (.cells #[.string da,.string db,.int .i64 dwt,.slice dv1 dv2 dv3] 72)).heap.size=wr.heap.size+1 from by simp] at z
     have UB:=Lib.hid UB
     have SW:=Lib.hid A.out.2.fr.size
     have RWL:=Lib.hid (fun q hq=>(A.out.2.row.lt q hq).2)
     go_upto_region 6 with fail
     clear c0 c1 c2 c3 hob hob2
     generalize (wr.alloc (.cells #[.string da,.string db,.int .i64 dwt,.slice dv1 dv2 dv3] 72)).alloc (.cells #[.string db,.string da,.int .i64 dwt,.slice dv1 dv2 dv3] 72)=U at *
     have SZU:=Lib.hid (show w.heap.size≤U.heap.size from by have:=SW.out;have:=FU.out.size;omega)
     have HC:=Lib.hid (Cells.fr HH.out.1 (A.out.2.fr.trans0 FU.out) (fun q=>q))
     have s0:=HC.out.cell 0 (.bool s.dir) rfl
     have ua0:=UA.out.cell 0 _ rfl
     have ua1:=UA.out.cell 1 _ rfl
     have ua2:=UA.out.cell 2 _ rfl
     have ua3:=UA.out.cell 3 _ rfl
     have ub0:=UB.out.cell 0 _ rfl
     have ub1:=UB.out.cell 1 _ rfl
     have ub2:=UB.out.cell 2 _ rfl
     have ub3:=UB.out.cell 3 _ rfl
     generalize hn1:wr.heap.size=n1 at *
     have HBG:=Lib.hid (show m+1+1≤10000000 from (by have z1:=A.out.2.len;have z2:=AL.le back (D.take i) s.dir;rw [List.length_take] at z2;have z3:=HS.out.ls;have z4:=HLD.out;omega))
     cases hdir:s.dir
     · rw [hdir] at s0
       clear ua0 ua1 ua2 ua3 ub0 ub1 ub2 ub3
       cases back
       all_goals
         have ua0:=UA.out.cell 0 _ rfl
         have ua1:=UA.out.cell 1 _ rfl
         have ua2:=UA.out.cell 2 _ rfl
         have ua3:=UA.out.cell 3 _ rfl
         go_wp2_with (first
             | (at_builtin;go_loud (refine wl_appG (w:=U.alloc (.cells #[.string da,.string db,.int .i64 dwt,.slice dv1 dv2 dv3] 72)) 59 rfl (.tmp 37) (.tmp 39) rfl 72 _ 4 64 Tryz.underlying59 info72 rfl (by decide) (by decide) w.heap.size u5 m _ rfl ((ownsRow_fr A.out.2.row FU.out (fun _ _ q=>q)).alloc _) (.slice (some ⟨U.heap.size,0,none⟩) 1 1) 1 [.string da,.string db,.int .i64 dwt,.slice dv1 dv2 dv3] rfl (yield1 _ _ _ 4 rfl) rfl (by simp [Value.oneCell']) (by have:=HBG.out;omega) (by have:=SZU.out;simp;omega) ?_)))
         intro v4 w4 ho4 f4 at4
         obtain ⟨a4,cp4,rfl, -, -⟩:=own_slice ho4
         have O4:=Lib.hid ho4
         have F4:=Lib.hid (show Fr (fun k=>u5.ownBlock=some k) U w4 from Fr.trans (by ((repeat' with_reducible first|assumption|exact frR|apply frD|apply frN|apply frA|apply frM|apply frC);all_goals (simp;try omega))) f4 (fun q hq=>.inl hq))
         have hnn:¬ u5.ownBlock=some (n1+1):=fun q=>by have:=RWL.out _ q;omega
         have hns:¬ u5.ownBlock=some sb:=fun q=>by have:=(A.out.2.row.lt _ q).1;omega
         have ub0:=(Cells.fr UB.out F4.out hnn).cell 0 _ rfl
         have ub1:=(Cells.fr UB.out F4.out hnn).cell 1 _ rfl
         have ub2:=(Cells.fr UB.out F4.out hnn).cell 2 _ rfl
         have ub3:=(Cells.fr UB.out F4.out hnn).cell 3 _ rfl
         have t0:=(Cells.fr HC.out F4.out hns).cell 0 (.bool s.dir) rfl
         rw [hdir] at t0
         have SZ4:=Lib.hid (show w.heap.size≤w4.heap.size from by have:=SZU.out;have:=F4.out.size;omega)
         clear ho4 f4 at4 ua0 ua1 ua2 ua3 s0
         go_wp2_with (first
             | (at_builtin;go_loud (refine wl_appG (w:=w4.alloc (.cells #[.string db,.string da,.int .i64 dwt,.slice dv1 dv2 dv3] 72)) 59 rfl (.tmp 57) (.tmp 59) rfl 72 _ 4 64 Tryz.underlying59 info72 rfl (by decide) (by decide) w.heap.size _ (m+1) _ rfl ((O4.out).alloc _) (.slice (some ⟨w4.heap.size,0,none⟩) 1 1) 1 [.string db,.string da,.int .i64 dwt,.slice dv1 dv2 dv3] rfl (yield1 _ _ _ 4 rfl) rfl (by simp [Value.oneCell']) (by have:=HBG.out;omega) (by have:=SZ4.out;simp;omega) ?_)))
         intro v6 w6 ho6 f6 at6
         obtain ⟨a6,cp6,rfl, -, -⟩:=own_slice ho6
         have O6:=hid2 ho6 (show Fr (fun k=>(Value.slice a4 (m+1) cp4).ownBlock=some k) w4 w6 from Fr.trans (by ((repeat' with_reducible first|assumption|exact frR|apply frD|apply frN|apply frA|apply frM|apply frC);all_goals (simp;try omega))) f6 (fun q hq=>.inl hq))
         clear ho6 f6 at6
         go_wp2_with fail
         go_roundg (gk - 1)
         case measure=>have:=A.out.1;omega
         case rel=>exact ⟨i+1,m+1+1,by have:=A.out.1;omega,by simp [w64z HL6.out hi],AL.two (dir:=s.dir) A.out.2 HG.out hdir (by rw [hdir];simpa [encLnk,turnD,SL.turn] using O6.out.1) (((A.out.2.fr.trans0 FU.out).trans F4.out fun q hq=>.inr (A.out.2.row.lt q hq).1).trans O6.out.2 fun q hq=>.inr (O4.out.lt q hq).1)⟩
     · rw [hdir] at s0
       cases back
       · go_wp2_with (first
             | (at_builtin;go_loud (refine wl_appG (w:=U.alloc (.cells #[.string da,.string db,.int .i64 dwt,.slice dv1 dv2 dv3] 72)) 59 rfl (.tmp 37) (.tmp 39) rfl 72 _ 4 64 Tryz.underlying59 info72 rfl (by decide) (by decide) w.heap.size u5 m _ rfl ((ownsRow_fr A.out.2.row FU.out (fun _ _ q=>q)).alloc _) (.slice (some ⟨U.heap.size,0,none⟩) 1 1) 1 [.string da,.string db,.int .i64 dwt,.slice dv1 dv2 dv3] rfl (yield1 _ _ _ 4 rfl) rfl (by simp [Value.oneCell']) (by have:=HBG.out;omega) (by have:=SZU.out;simp;omega) ?_)))
         intro v4 w4 ho4 f4 at4
         obtain ⟨a4,cp4,rfl, -, -⟩:=own_slice ho4
         have O4:=Lib.hid ho4
         have F4:=Lib.hid (show Fr (fun k=>u5.ownBlock=some k) U w4 from Fr.trans (by ((repeat' with_reducible first|assumption|exact frR|apply frD|apply frN|apply frA|apply frM|apply frC);all_goals (simp;try omega))) f4 (fun q hq=>.inl hq))
         have hns:¬ u5.ownBlock=some sb:=fun q=>by have:=(A.out.2.row.lt _ q).1;omega
         have t0:=(Cells.fr HC.out F4.out hns).cell 0 (.bool s.dir) rfl
         rw [hdir] at t0
         clear ho4 f4 at4 ua0 ua1 ua2 ua3 ub0 ub1 ub2 ub3 s0
         go_wp2_with fail
         go_roundg (gk - 1)
         case measure=>have:=A.out.1;omega
         case rel=>exact ⟨i+1,m+1,by have:=A.out.1;omega,by simp [w64z HL6.out hi],AL.one A.out.2 HG.out (e:=(⟨da,db,dwt,des⟩,dv1,dv2,dv3)) (by rw [hdir];rfl) (by rw [hdir];exact O4.out) ((A.out.2.fr.trans0 FU.out).trans F4.out fun q hq=>.inr (A.out.2.row.lt q hq).1)⟩
       · go_wp2_with (first
             | (at_builtin;go_loud (refine wl_appG (w:=U.alloc (.cells #[.string db,.string da,.int .i64 dwt,.slice dv1 dv2 dv3] 72)) 59 rfl (.tmp 57) (.tmp 59) rfl 72 _ 4 64 Tryz.underlying59 info72 rfl (by decide) (by decide) w.heap.size u5 m _ rfl ((ownsRow_fr A.out.2.row FU.out (fun _ _ q=>q)).alloc _) (.slice (some ⟨U.heap.size,0,none⟩) 1 1) 1 [.string db,.string da,.int .i64 dwt,.slice dv1 dv2 dv3] rfl (yield1 _ _ _ 4 rfl) rfl (by simp [Value.oneCell']) (by have:=HBG.out;omega) (by have:=SZU.out;simp;omega) ?_)))
         intro v4 w4 ho4 f4 at4
         obtain ⟨a4,cp4,rfl, -, -⟩:=own_slice ho4
         have O4:=Lib.hid ho4
         have F4:=Lib.hid (show Fr (fun k=>u5.ownBlock=some k) U w4 from Fr.trans (by ((repeat' with_reducible first|assumption|exact frR|apply frD|apply frN|apply frA|apply frM|apply frC);all_goals (simp;try omega))) f4 (fun q hq=>.inl hq))
         clear ho4 f4 at4 ua0 ua1 ua2 ua3 ub0 ub1 ub2 ub3 s0
         go_wp2_with fail
         go_roundg (gk - 1)
         case measure=>have:=A.out.1;omega
         case rel=>exact ⟨i+1,m+1,by have:=A.out.1;omega,by simp [w64z HL6.out hi],AL.one A.out.2 HG.out (e:=turnD (⟨da,db,dwt,des⟩,dv1,dv2,dv3)) (by rw [hdir];rfl) (by rw [hdir];exact O4.out) ((A.out.2.fr.trans0 FU.out).trans F4.out fun q hq=>.inr (A.out.2.row.lt q hq).1)⟩
   · have hi':i=D.length:=by have:=A.out.1;omega
     subst hi'
     have hrow:=A.out.2.row
     have hlen:=A.out.2.len
     rw [List.take_length] at hrow hlen
     obtain ⟨a5,cp5,rfl, -, -⟩:=own_slice hrow
     have hb2:=AL.le back D s.dir
     generalize hBD:bothD s.dir back D=BD at *
     subst hlen
     have HBD:=hid3 hBD (own_slice hrow) hb2
     clear hBD hrow hb2
     go_wp2_with fail
     refine (srt48 _ _ BD (HBD.out.2.1) (by have:=HBD.out.2.2;have:=HS.out.ls;have:=HLD.out;omega)).mono ?_
     rintro e w9 ⟨ao,cap,S,rfl,hI,ho,f9⟩
     have O9:=hid3 hI ho f9
     clear hI ho f9
     go_wp2_with fail
     go_ret
     have F9:=A.out.2.fr.trans0 O9.out.2.2
     refine ⟨_,rfl,?_,F9⟩
     have hp:S.Perm BD:=by have:=O9.out.1.perm;rwa [List.take_length] at this
     have e1:BD.map (·.1)=s.both back:=by rw [← HBD.out.1];exact bothD_sl s back D HH.out.2.1
     have e2:S.map (·.1)=sortL (s.both back):=by
       refine sorted_links ((hp.map _).trans (by rw [e1])) ?_ ?_
       · rw [List.pairwise_map]
         exact O9.out.1.ord
       · have z:=HH.out.2.2.2.2
         rw [← e1] at z
         exact ((hp.map (fun x=>keyS x.1)).nodup_iff.2 (by simpa [List.map_map,Function.comp_def] using z):(S.map fun x=>keyS x.1).Nodup) |> fun t=>by simpa [List.map_map,Function.comp_def,keyS] using t
     rw [← e2]
     refine LinksIn.of_rows (by rw [hp.length_eq];exact own_slice O9.out.2.1) (fun q hq => ?_) fun d hd => ?_
     · have r1:=O9.out.2.1.lt q hq
       have r2:=A.out.2.fr.size
       exact ⟨.inr (Nat.le_trans r2 r1.1),r1.2⟩
     · have hm:d∈bothD s.dir back D:=by rw [HBD.out.1];exact hp.mem_iff.1 hd
       obtain ⟨d0,h0,h1,h2⟩:=bothD_mem hm
       have:=(HH.out.2.2.2.1 d0 h0).fr F9 (fun _ _ _ q=>q)
       rw [h1,h2]
       exact this.imp fun q z _=>.inl z
theorem info9k:(Tryz.prog.info? 9).map (fun i=>(i.zero,i.size,i.bytes))=some (some (.string ⟨#[]⟩),1,16):=by kernel_rfl
theorem sorted_keys {l m:List ByteArray} (h:l.Perm m) (hs:l.Pairwise fun a b=>ltB b a=false):l=sortK m :=
 perm_sort ltB_le_trans ltB_le_total (fun _ _ _ _ _ h1 h2=>ltB_tri h1 h2) h hs
theorem ltB_asym (a b:ByteArray) (h:ltB a b=true):ltB b a=false:=by
 cases g:ltB b a with
 | false=>rfl
 | true =>
   have z:=ltB_ntr b a b
   cases e:ltB a a with
   | true=>unfold ltB at e;rw [bl_irrefl] at e;cases e
   | false =>
     exfalso
     have y:=bl_trans _ _ _ h g
     unfold ltB at e
     rw [e] at y
     cases y
structure S2 (g j:Nat) (a x:ByteArray) (w:World):Prop where
 lt:g < w.heap.size
 out:w.cell? ⟨g,j,none⟩=some (.string a)∧w.cell? ⟨g,j+1,none⟩=some (.string x)
theorem S2.fr {g j:Nat} {a x:ByteArray} {w w':World} (z:S2 g j a x w) (f:Fr0 w w'):S2 g j a x w':=by
 have e:∀ i,w'.cell? ⟨g,i,none⟩=w.cell? ⟨g,i,none⟩:=fun i=>f.cell (p:=⟨g,i,none⟩) z.lt (fun q=>q)
 refine ⟨Nat.lt_of_lt_of_le z.lt f.size,?_⟩
 simp only [e]
 exact z.out
theorem swap_row1 {w:World} {base g n cap:Nat} {A R:List ByteArray} {a x:ByteArray} (h:w.ownsRow base 9 1 (.slice (some ⟨g,0,none⟩) n cap) n ((A ++ a :: x :: R).map Value.string)) :
   ((w.setCell ⟨g,A.length+1,none⟩ (.string a)).setCell ⟨g,A.length,none⟩ (.string x)).ownsRow base 9 1 (.slice (some ⟨g,0,none⟩) n cap) n ((A ++ x :: a :: R).map Value.string):=by
 have e:(((A ++ a :: x :: R).map Value.string).set (A.length+1) (.string a)).set A.length (.string x)=(A ++ x :: a :: R).map Value.string:=by
   have h0:A.length=(A.map Value.string).length:=by simp
   rw [List.map_append,List.map_append,h0,set_off]
   rw [show (A.map Value.string).length=(A.map Value.string).length+0 from rfl,set_off]
   rfl
 rw [← e]
 exact row_setC (row_setC h)
theorem yieldK (w:World) (o1:Obj) (cs:Array Value) (hc:cs.size=1):Yld ((w.alloc o1).alloc (.cells cs 9)) (.slice (some ⟨w.heap.size+1,0,none⟩) 1 1) 1 cs.toList:=by
 have h:=heap_alloc_new (w.alloc o1) (.cells cs 9)
 have e:(w.alloc o1).heap.size=w.heap.size+1:=by simp
 rw [e] at h
 exact yields_own (own_of_block h hc)
theorem w64y {i n:Nat} (h:n≤1000000) (hi:i < n):wrap64 ((i:Int)+1)=(i:Int)+1:=by
 unfold wrap64
 omega
theorem keys34 (w:World) (sb:Nat) (s:St) (h:ZRep w sb s) (hs:Small s) :
   Calls Tryz.prog 34 #[.pointer (some ⟨sb,0,none⟩)] w fun e w'=>∃ v,e=.returned v∧KeysIn w' (fun q=>w.heap.size≤q) v (sortK s.keys)∧Fr0 w w':=by
 obtain ⟨b1,b2,b3,b4,pv,lv,hc,hp, -⟩:=h
 have HH:=Lib.hid hp
 have HS:=Lib.hid hs.ps
 have hf:=hp.form
 obtain ⟨la,lc,rfl, -⟩:=hf
 have c7:=hc.cell 7 _ rfl
 clear hc hp hs
 go_enter Tryz.func34,Tryz.ntmps34
 go_wp2_with fail
 go_loopg [3,13] s.ps.length (fun k v3 c wr=>∃ (i:Nat),k+i=s.ps.length∧c=.int .i64 (i:Nat)∧wr.ownsRow w.heap.size 9 1 v3 i ((s.keys.take i).map .string)∧Fr0 w wr)
 case atStart=>exact ⟨0,rfl,rfl,World.ownsRow_nil _ _ _ _,Fr.refl _ _⟩
 case round =>
   obtain ⟨i,hk,rfl,R,f⟩:=hrel
   have A:=hid3 hk R f
   clear hk R f
   by_cases hi:i < s.ps.length
   · have hg:=List.getElem?_eq_getElem hi
     generalize s.ps[i]=x at hg
     obtain ⟨ob,cp,pw,e,hob, -,c0,c1,c2,c3,hpp⟩:=(HH.out.fr A.out.2.2 (fun _ _ _ q=>q)).at_ hg
     cases e
     obtain ⟨pa,pc,rfl⟩:=hpp.form
     have HG:=Lib.hid hg
     have SW:=Lib.hid A.out.2.2.size
     have hob2:=Nat.ne_of_lt hob
     have FA:=Lib.hid ((Fr.refl (fun _=>False) wr).alloc (.cells #[.string x.h,.string x.v,.int .i64 x.wt,.slice pa x.es.length pc] 96))
     clear hg hpp
     go_wp2_with (first
       | (at_builtin;go_loud (refine wl_appG (w:=(wr.alloc (.cells #[.string x.h,.string x.v,.int .i64 x.wt,.slice pa x.es.length pc] 96)).alloc (.cells #[.string x.h] 9)) 41 rfl (.tmp 17) (.tmp 20) rfl 9 _ 1 16 Tryz.underlying41 info9k rfl (by decide) (by decide) w.heap.size u3 i _ rfl ((A.out.2.1.alloc _).alloc _) (.slice (some ⟨wr.heap.size+1,0,none⟩) 1 1) 1 [.string x.h] rfl (yieldK wr _ _ rfl) rfl (by simp [Value.oneCell']) (by have:=HS.out;omega) (by have:=SW.out;simp;omega) ?_)))
     intro v4 w4 ho4 f4 at4
     obtain ⟨a4,cp4,rfl, -, -⟩:=own_slice ho4
     have O4:=hid2 ho4 (show Fr (fun k=>u3.ownBlock=some k) wr w4 from Fr.trans (by ((repeat' with_reducible first|assumption|exact frR|apply frD|apply frN|apply frA|apply frM|apply frC);all_goals (simp;try omega))) f4 (fun q hq=>.inl hq))
     clear ho4 f4 at4
     go_wp2_with fail
     go_roundg (gk - 1)
     case measure=>have:=A.out.1;omega
     case rel =>
       refine ⟨i+1,by have:=A.out.1;omega,by simp [w64y (Nat.le_trans HS.out (by decide)) hi],?_,A.out.2.2.trans O4.out.2 fun q hq=>.inr (A.out.2.1.lt q hq).1⟩
       have e:(s.keys.take (i+1)).map Value.string=(s.keys.take i).map Value.string ++ [Value.string x.h]:=by
         have h1:s.keys[i]? = some x.h:=by unfold St.keys;rw [List.getElem?_map,HG.out];rfl
         have h2:=(List.getElem?_eq_some_iff.1 h1).1
         rw [List.take_succ_eq_append_getElem h2,(List.getElem?_eq_some_iff.1 h1).2,List.map_append]
         rfl
       rw [e]
       have z:=O4.out.1
       rwa [← List.map_take] at z
   · have hi':i=s.ps.length:=by have:=A.out.1;omega
     subst hi'
     have hrow:=A.out.2.1
     obtain ⟨N,hN⟩ : ∃ N,N=s.ps.length:=⟨_,rfl⟩
     obtain ⟨L,hL⟩ : ∃ L,L=s.keys:=⟨_,rfl⟩
     have hLN:L.length=N:=by rw [hL,hN];unfold St.keys;simp
     rw [show s.keys.take s.ps.length=L from by rw [← hN,← hLN,← hL,List.take_length]] at hrow
     obtain ⟨a3,cap3,rfl, -, -⟩:=own_slice hrow
     have B:=hid4 hrow A.out.2.2 hLN hL
     have HN:=Lib.hid (show N≤400000 from by rw [hN];exact HS.out)
     rw [← hN] at B
     rw [← hN]
     clear hrow hLN hL hN
     go_wp2_with fail
     go_loopg [25] N (fun k c wr=>∃ (i:Nat) (S:List ByteArray),k+i=N∧c=.int .i64 (i:Nat)∧InsO ltB L i S∧wr.ownsRow w.heap.size 9 1 (.slice a3 N cap3) N ((S ++ L.drop i).map .string)∧Fr0 w wr)
     case atStart=>exact ⟨0,[],rfl,rfl,InsO.zero L,B.out.1,B.out.2.1⟩
     case round =>
       obtain ⟨i,S,hk,rfl,hI,hown,f⟩:=hrel
       have A:=hid4 hk hI hown f
       clear hk hI hown f
       obtain ⟨ko,rfl⟩ : ∃ ko:Nat,ko=gk:=⟨_,rfl⟩
       by_cases hi:i < N
       · have hiL:i < L.length:=by have:=B.out.2.2.1;omega
         have hg:=List.getElem?_eq_getElem hiL
         have hdr:L.drop i=L[i] :: L.drop (i+1):=List.drop_eq_getElem_cons hiL
         have hSl:S.length=i:=by have:=A.out.2.1.perm.length_eq;rw [List.length_take] at this;omega
         generalize L[i]=x at hg hdr
         have HX:=hid3 hg hdr hSl
         clear hg hdr hSl
         go_wp2_with fail
         go_loopg [7] i (fun k c wr=>∃ (m:Nat) (P Q:List ByteArray),(k=m∧m=P.length)∧c=.int .i64 (m:Nat)∧InsI ltB L i x P Q∧wr.ownsRow w.heap.size 9 1 (.slice a3 N cap3) N ((P ++ x :: (Q ++ L.drop (i+1))).map .string)∧Fr0 w wr)
         case atStart=>exact ⟨i,S,[],⟨rfl,HX.out.2.2.symm⟩,rfl,A.out.2.1.start x,by have:=A.out.2.2.1;rw [HX.out.2.1] at this;exact this,A.out.2.2.2⟩
         case round =>
           obtain ⟨m,P,Q,hk,rfl,hI,hown,f⟩:=hrel
           have C:=hid4 hk hI hown f
           clear hk hI hown f
           have key:∀ wz,Fr0 wr wz→(∀ a,P.getLast? = some a→ltB x a=false)→ko - 1 < ko∧∃ (j:Nat) (S:List ByteArray),ko - 1+j=N∧(Value.int .i64 ((i:Int)+1))=.int .i64 (j:Nat)∧InsO ltB L j S∧wz.ownsRow w.heap.size 9 1 (.slice a3 N cap3) N ((S ++ L.drop j).map .string)∧Fr0 w wz:=fun wz fz hl=>by
             have:=A.out.1
             refine ⟨by omega,i+1,P ++ x :: Q,by omega,by simp,C.out.2.1.stop ltB_asym ltB_ntr HX.out.1 hl,?_,C.out.2.2.2.trans0 fz⟩
             have h3:=ownsRow_fr C.out.2.2.1 fz (fun _ _ q=>q)
             rw [List.append_assoc,List.cons_append]
             exact h3
           have KEY:=Lib.hid key
           clear key
           rcases List.eq_nil_or_concat P with rfl|⟨P',a,hc⟩
           · obtain rfl:m=0:=C.out.1.2
             go_wp2_with fail
             go_quiet (fail)
             go_wp2_with fail
             have R:=KEY.out (wr.drewN nq) (by ((repeat' with_reducible first|assumption|exact frR|apply frD|apply frN|apply frA|apply frM|apply frC);all_goals (simp;try omega))) (fun a h=>by simp at h)
             go_roundg (ko - 1)
             case measure=>exact R.1
             case rel=>(rw [w64y (Nat.le_trans HN.out (by decide)) hi];exact R.2)
           rw [List.concat_eq_append] at hc
           subst hc
           obtain ⟨m',rfl⟩ : ∃ m',m=m'+1:=⟨P'.length,by rw [C.out.1.2];simp⟩
           have hm':P'.length=m':=by have:=C.out.1.2;simp at this;omega
           have OW:=Lib.hid (show wr.ownsRow w.heap.size 9 1 (.slice a3 N cap3) N ((P' ++ a :: x :: (Q ++ L.drop (i+1))).map .string) by have:=C.out.2.2.1;rwa [List.append_assoc,List.singleton_append] at this)
           have hL:(P' ++ a :: x :: (Q ++ L.drop (i+1))).length=N:=by have:=OW.out.1;rw [List.length_map] at this;omega
           have hLm:m'+1 < N:=by rw [← hL];simp;omega
           have ga:((P' ++ a :: x :: (Q ++ L.drop (i+1))).map Value.string)[m']? = some (.string a):=by rw [← hm'];simp
           have gx:((P' ++ a :: x :: (Q ++ L.drop (i+1))).map Value.string)[m'+1]? = some (.string x):=by rw [← hm'];simp
           obtain ⟨ao4,cap4,e4,hcp,hv⟩:=own_slice OW.out
           obtain ⟨g,e5,hgl,a0⟩:=hv _ _ ga
           cases e4
           subst e5
           obtain ⟨g',e6,_,x0⟩:=hv _ _ gx
           cases e6
           have RF:=Lib.hid (row_free OW.out)
           have PQ:=hid3 hm' hL hcp
           clear ga gx hv hL hm' hcp
           have hNN:=HN.out
           have hw0:IntKind.i64.wrap (m':Int)=(m':Int):=w64s rfl (by omega) (by omega)
           have hw1:IntKind.i64.wrap ((m':Int)+1 - 1)=(m':Int):=w64s (by omega) (by omega) (by omega)
           have hk0:(0:Int) < (m':Int)+1:=by omega
           have hk1:(m':Int)+1 < (N:Int):=by omega
           have hk2:(m':Int) < (N:Int):=by omega
           have hk3:(0:Int)≤(m':Int):=by omega
           have hk4:(0:Int)≤(m':Int)+1:=by omega
           have hk5:((m':Int)+1).toNat=m'+1:=by omega
           clear hNN
           cases hlt:Op.bytesLess x.toList a.toList with
           | false =>
             have RR:=Lib.hid (fun wz fz=>KEY.out wz fz (fun b h=>by simp at h;subst h;exact hlt))
             go_wp2_with fail
             go_quiet (fail)
             go_wp2_with fail
             have R:=RR.out (wr.drewN nq) (by ((repeat' with_reducible first|assumption|exact frR|apply frD|apply frN|apply frA|apply frM|apply frC);all_goals (simp;try omega)))
             go_roundg (ko - 1)
             case measure=>exact R.1
             case rel=>(rw [w64y (Nat.le_trans HN.out (by decide)) hi];exact R.2)
           | true =>
             have HLT:=Lib.hid (show ltB x a=true from hlt)
             go_wp2_with fail
             go_quiet (fail)
             go_wp2_with fail
             have S3:=Lib.hid (S2.mk (g:=g) (j:=m') hgl ⟨a0,x0⟩)
             refine OrdS.start (S:=S2 g m' a x) (m:=15) (by kernel_rfl) ?_
             have hHeld:=S3.out.fr (show Fr0 wr (wr.drewN nq).drew from by ((repeat' with_reducible first|assumption|exact frR|apply frD|apply frN|apply frA|apply frM|apply frC);all_goals (simp;try omega)))
             (refine OrdS.tq (i:=0) (v:=?_) rfl (by kernel_rfl) (fun _ _ _ h=>h) (by rfl) hHeld ?_ ?_;rotate_left;focus (intro w' hSw;replace hSw:=hSw.out;go_simp;try with_reducible rfl);(try simp only [Act.put,lA,lZ,lS]))
             (refine OrdS.tq (i:=1) (v:=?_) rfl (by kernel_rfl) (fun _ _ _ h=>h) (by rfl) hHeld ?_ ?_;rotate_left;focus (intro w' hSw;replace hSw:=hSw.out;go_simp;try with_reducible rfl);(try simp only [Act.put,lA,lZ,lS]))
             (refine OrdS.tp (i:=2) (v:=?_) rfl (by kernel_rfl) (fun _ _ _ h=>h) (by rfl) hHeld ?_ ?_;rotate_left;focus (intro w' hSw;go_simp;try with_reducible rfl);(try simp only [Act.put,lA,lZ,lS]))
             (refine OrdS.tp (i:=3) (v:=?_) rfl (by kernel_rfl) (fun _ _ _ h=>h) (by rfl) hHeld ?_ ?_;rotate_left;focus (intro w' hSw;go_simp;try with_reducible rfl);(try simp only [Act.put,lA,lZ,lS]))
             (refine OrdS.tp (i:=4) (v:=?_) rfl (by kernel_rfl) (fun _ _ _ h=>h) (by rfl) hHeld ?_ ?_;rotate_left;focus (intro w' hSw;go_simp;try with_reducible rfl);(try simp only [Act.put,lA,lZ,lS]))
             (refine OrdS.tq (i:=5) (v:=?_) rfl (by kernel_rfl) (fun _ _ _ h=>h) (by rfl) hHeld ?_ ?_;rotate_left;focus (intro w' hSw;replace hSw:=hSw.out;go_simp;try with_reducible rfl);(try simp only [Act.put,lA,lZ,lS]))
             (refine OrdS.tq (i:=6) (v:=?_) rfl (by kernel_rfl) (fun _ _ _ h=>h) (by rfl) hHeld ?_ ?_;rotate_left;focus (intro w' hSw;replace hSw:=hSw.out;go_simp;try with_reducible rfl);(try simp only [Act.put,lA,lZ,lS]))
             (refine OrdS.tq (i:=7) (v:=?_) rfl (by kernel_rfl) (fun _ _ _ h=>h) (by rfl) hHeld ?_ ?_;rotate_left;focus (intro w' hSw;replace hSw:=hSw.out;go_simp;try with_reducible rfl);(try simp only [Act.put,lA,lZ,lS]))
             (refine OrdS.tq (i:=8) (v:=?_) rfl (by kernel_rfl) (fun _ _ _ h=>h) (by rfl) hHeld ?_ ?_;rotate_left;focus (intro w' hSw;replace hSw:=hSw.out;go_simp;try with_reducible rfl);(try simp only [Act.put,lA,lZ,lS]))
             (refine OrdS.tq (i:=9) (v:=?_) rfl (by kernel_rfl) (fun _ _ _ h=>h) (by rfl) hHeld ?_ ?_;rotate_left;focus (intro w' hSw;replace hSw:=hSw.out;go_simp;try with_reducible rfl);(try simp only [Act.put,lA,lZ,lS]))
             (refine OrdS.tp (i:=10) (v:=?_) rfl (by kernel_rfl) (fun _ _ _ h=>h) (by rfl) hHeld ?_ ?_;rotate_left;focus (intro w' hSw;go_simp;try with_reducible rfl);(try simp only [Act.put,lA,lZ,lS]))
             (refine OrdS.tp (i:=11) (v:=?_) rfl (by kernel_rfl) (fun _ _ _ h=>h) (by rfl) hHeld ?_ ?_;rotate_left;focus (intro w' hSw;go_simp;try with_reducible rfl);(try simp only [Act.put,lA,lZ,lS]))
             (refine OrdS.tp (i:=12) (v:=?_) rfl (by kernel_rfl) (fun _ _ _ h=>h) (by rfl) hHeld ?_ ?_;rotate_left;focus (intro w' hSw;go_simp;try with_reducible rfl);(try simp only [Act.put,lA,lZ,lS]))
             (refine OrdS.tq (i:=13) (v:=?_) rfl (by kernel_rfl) (fun _ _ _ h=>h) (by rfl) hHeld ?_ ?_;rotate_left;focus (intro w' hSw;replace hSw:=hSw.out;go_simp;try with_reducible rfl);(try simp only [Act.put,lA,lZ,lS]))
             (refine OrdS.tq (i:=14) (v:=?_) rfl (by kernel_rfl) (fun _ _ _ h=>h) (by rfl) hHeld ?_ ?_;rotate_left;focus (intro w' hSw;replace hSw:=hSw.out;go_simp;try with_reducible rfl);(try simp only [Act.put,lA,lZ,lS]))
             have f15:=hHeld.out
             clear hHeld
             have z0:=RF.out m'
             have z1:=RF.out (m'+1)
             (refine OrdS.one (i:=15) rfl (by kernel_rfl) ?_;intro K hK)
             go_simp
             refine hK.out _ _ (fun h=>absurd (show true=false from h) (by decide)) ?_
             clear hK K
             (try simp only [Act.put,lA,lZ,lS])
             (refine OrdS.one (i:=16) rfl (by kernel_rfl) ?_;intro K hK)
             go_simp
             refine hK.out _ _ (fun h=>absurd (show true=false from h) (by decide)) ?_
             clear hK K
             (try simp only [Act.put,lA,lZ,lS])
             (refine OrdS.one (i:=17) rfl (by kernel_rfl) ?_;intro K hK)
             go_simp
             refine hK.out _ _ (fun h=>absurd (show true=false from h) (by decide)) ?_
             clear hK K
             (try simp only [Act.put,lA,lZ,lS])
             refine OrdS.done (by kernel_rfl) ?_
             generalize hU:((wr.drewN (nq+1)).setCell ⟨g,m'+1,none⟩ (.string a)).setCell ⟨g,m',none⟩ (.string x)=U
             have FU:=Lib.hid (show Fr0 w U from by subst hU;exact ((C.out.2.2.2.drewN (nq+1)).setCell (.inr (OW.out.lt g rfl).1) _).setCell (.inr (OW.out.lt g rfl).1) _)
             have RU:=Lib.hid (show U.ownsRow w.heap.size 9 1 (.slice (some ⟨g,0,none⟩) N cap3) N ((P' ++ x :: a :: (Q ++ L.drop (i+1))).map .string) from by subst hU;have z:=swap_row1 (ownsRow_fr OW.out (show Fr0 wr (wr.drewN (nq+1)) from by ((repeat' with_reducible first|assumption|exact frR|apply frD|apply frN|apply frA|apply frM|apply frC);all_goals (simp;try omega))) (fun _ _ q=>q));rw [PQ.out.1] at z;exact z)
             clear hU f15 z0 z1
             go_wp2_with fail
             go_roundg m'
             case measure=>have:=C.out.1.1;omega
             case rel=>exact ⟨m',P',a :: Q,⟨rfl,PQ.out.1.symm⟩,by first|rfl|simp,C.out.2.1.down HLT.out,RU.out,FU.out⟩
       · have hi':i=N:=by have:=A.out.1;omega
         subst hi'
         go_wp2_with fail
         go_ret
         have hrow:=A.out.2.2.1
         have hp:S.Perm L:=by have:=A.out.2.1.perm;rwa [List.take_of_length_le (by have:=B.out.2.2.1;omega)] at this
         rw [List.drop_of_length_le (by have:=B.out.2.2.1;omega),List.append_nil] at hrow
         have e2:S=sortK s.keys:=sorted_keys (hp.trans (by rw [B.out.2.2.2])) A.out.2.1.ord
         refine ⟨_,rfl,?_,A.out.2.2.2⟩
         rw [← e2]
         refine ⟨?_,fun q hq=>hrow.lt q hq⟩
         have hl:S.length=i:=hp.length_eq.trans B.out.2.2.1
         rw [hl]
         exact own_slice hrow
end Go.Proofs.YtbafaadmlpamiaaGreatDoor
