import Derived.Test.YtbafaadmlpamiaaGreatDoorA5
import Derived.Laws.EntriesVeiled
set_option maxRecDepth 100000
set_option maxHeartbeats 1000000
namespace Go.Proofs.YtbafaadmlpamiaaGreatDoor
open Go Go.Hy Go.RowKit
structure TS where
 d:Bool
 a:Bool
 we:Bool
 ro:Bool
 pr:Bool
def TS.cells (t:TS):Array Value:=#[.bool t.d,.bool t.a,.bool t.we,.bool t.ro,.bool t.pr]
def tapp (t:TS) (n:Nat):TS :=
 if n=75 then { t with d:=true } else if n=76 then { t with a:=true } else if n=77 then { t with we:=true } else if n=78 then { t with ro:=true }
 else if n=79 then { t with a:=true,ro:=true } else { t with a:=true,pr:=true }
theorem t0cells (w:World) (tb:Nat) (t:TS) (h:Cells w tb t.cells 104):tb < w.heap.size ∧
   (w.cell? ⟨tb,0,none⟩=some (.bool t.d)∧w.cell? ⟨tb,1,none⟩=some (.bool t.a)∧w.cell? ⟨tb,2,none⟩=some (.bool t.we)∧w.cell? ⟨tb,3,none⟩=some (.bool t.ro)∧w.cell? ⟨tb,4,none⟩=some (.bool t.pr)) ∧
   (w.frozen? ⟨tb,0,none⟩=false∧w.frozen? ⟨tb,1,none⟩=false∧w.frozen? ⟨tb,2,none⟩=false∧w.frozen? ⟨tb,3,none⟩=false∧w.frozen? ⟨tb,4,none⟩=false) :=
 ⟨h.lt,⟨h.cell 0 _ rfl,h.cell 1 _ rfl,h.cell 2 _ rfl,h.cell 3 _ rfl,h.cell 4 _ rfl⟩,h.free 0,h.free 1,h.free 2,h.free 3,h.free 4⟩
theorem trait75 (w:World) (tb:Nat) (t:TS) (h:Cells w tb t.cells 104) :
   Calls Tryz.prog 75 #[.pointer (some ⟨tb,0,none⟩)] w fun e w'=>e=.returned (.tuple #[])∧Cells w' tb (tapp t 75).cells 104∧Fr (· = tb) w w'∧w'.heap.size=w.heap.size:=by
 obtain ⟨l,⟨c0,c1,c2,c3,c4⟩,f0,f1,f2,f3,f4⟩:=t0cells w tb t h
 have H:=Lib.hid h
 clear h
 go_enter Tryz.func75,Tryz.ntmps75
 go_wp2
 go_end0
 refine ⟨rfl,?_,(Fr.refl (· = tb) w).setCell (.inl rfl) _,by simp⟩
 have:=cells_set H.out 0 (.bool true)
 simpa [TS.cells,tapp] using this
theorem trait76 (w:World) (tb:Nat) (t:TS) (h:Cells w tb t.cells 104) :
   Calls Tryz.prog 76 #[.pointer (some ⟨tb,0,none⟩)] w fun e w'=>e=.returned (.tuple #[])∧Cells w' tb (tapp t 76).cells 104∧Fr (· = tb) w w'∧w'.heap.size=w.heap.size:=by
 obtain ⟨l,⟨c0,c1,c2,c3,c4⟩,f0,f1,f2,f3,f4⟩:=t0cells w tb t h
 have H:=Lib.hid h
 clear h
 go_enter Tryz.func76,Tryz.ntmps76
 go_wp2
 go_end0
 refine ⟨rfl,?_,(Fr.refl (· = tb) w).setCell (.inl rfl) _,by simp⟩
 have:=cells_set H.out 1 (.bool true)
 simpa [TS.cells,tapp] using this
theorem trait77 (w:World) (tb:Nat) (t:TS) (h:Cells w tb t.cells 104) :
   Calls Tryz.prog 77 #[.pointer (some ⟨tb,0,none⟩)] w fun e w'=>e=.returned (.tuple #[])∧Cells w' tb (tapp t 77).cells 104∧Fr (· = tb) w w'∧w'.heap.size=w.heap.size:=by
 obtain ⟨l,⟨c0,c1,c2,c3,c4⟩,f0,f1,f2,f3,f4⟩:=t0cells w tb t h
 have H:=Lib.hid h
 clear h
 go_enter Tryz.func77,Tryz.ntmps77
 go_wp2
 go_end0
 refine ⟨rfl,?_,(Fr.refl (· = tb) w).setCell (.inl rfl) _,by simp⟩
 have:=cells_set H.out 2 (.bool true)
 simpa [TS.cells,tapp] using this
theorem trait78 (w:World) (tb:Nat) (t:TS) (h:Cells w tb t.cells 104) :
   Calls Tryz.prog 78 #[.pointer (some ⟨tb,0,none⟩)] w fun e w'=>e=.returned (.tuple #[])∧Cells w' tb (tapp t 78).cells 104∧Fr (· = tb) w w'∧w'.heap.size=w.heap.size:=by
 obtain ⟨l,⟨c0,c1,c2,c3,c4⟩,f0,f1,f2,f3,f4⟩:=t0cells w tb t h
 have H:=Lib.hid h
 clear h
 go_enter Tryz.func78,Tryz.ntmps78
 go_wp2
 go_end0
 refine ⟨rfl,?_,(Fr.refl (· = tb) w).setCell (.inl rfl) _,by simp⟩
 have:=cells_set H.out 3 (.bool true)
 simpa [TS.cells,tapp] using this
theorem tmk55 (w:World):Calls Tryz.prog 55 #[] w fun e w'=>e=.returned (.func (Fn.func 75) #[] #[])∧w'=w:=by
 go_enter Tryz.func55,Tryz.ntmps55
 go_wp2
 go_ret
 exact ⟨rfl,rfl⟩
theorem tmk56 (w:World):Calls Tryz.prog 56 #[] w fun e w'=>e=.returned (.func (Fn.func 76) #[] #[])∧w'=w:=by
 go_enter Tryz.func56,Tryz.ntmps56
 go_wp2
 go_ret
 exact ⟨rfl,rfl⟩
theorem tmk57 (w:World):Calls Tryz.prog 57 #[] w fun e w'=>e=.returned (.func (Fn.func 77) #[] #[])∧w'=w:=by
 go_enter Tryz.func57,Tryz.ntmps57
 go_wp2
 go_ret
 exact ⟨rfl,rfl⟩
theorem tmk58 (w:World):Calls Tryz.prog 58 #[] w fun e w'=>e=.returned (.func (Fn.func 78) #[] #[])∧w'=w:=by
 go_enter Tryz.func58,Tryz.ntmps58
 go_wp2
 go_ret
 exact ⟨rfl,rfl⟩
theorem tmk59 (w:World):Calls Tryz.prog 59 #[] w fun e w'=>e=.returned (.func (Fn.func 79) #[] #[])∧w'=w:=by
 go_enter Tryz.func59,Tryz.ntmps59
 go_wp2
 go_ret
 exact ⟨rfl,rfl⟩
theorem tmk60 (w:World):Calls Tryz.prog 60 #[] w fun e w'=>e=.returned (.func (Fn.func 80) #[] #[])∧w'=w:=by
 go_enter Tryz.func60,Tryz.ntmps60
 go_wp2
 go_ret
 exact ⟨rfl,rfl⟩
theorem trait79 (w:World) (tb:Nat) (t:TS) (h:Cells w tb t.cells 104) :
   Calls Tryz.prog 79 #[.pointer (some ⟨tb,0,none⟩)] w fun e w'=>e=.returned (.tuple #[])∧Cells w' tb (tapp t 79).cells 104∧Fr (· = tb) w w'∧w'.heap.size=w.heap.size:=by
 have H:=Lib.hid h
 clear h
 go_enter Tryz.func79,Tryz.ntmps79
 go_wp2_with fail
 refine (tmk56 w).mono ?_
 rintro e w1 ⟨rfl,rfl⟩
 go_wp2_with fail
 refine (trait76 w1 tb t H.out).mono ?_
 rintro e w2 ⟨rfl,h2⟩
 have H2:=Lib.hid h2
 clear h2
 go_wp2_with fail
 refine (tmk58 w2).mono ?_
 rintro e w3 ⟨rfl,rfl⟩
 go_wp2_with fail
 refine (trait78 w3 tb _ H2.out.1).mono ?_
 rintro e w4 ⟨rfl,h4⟩
 have H4:=Lib.hid h4
 clear h4
 go_wp2_with fail
 go_end0
 exact ⟨rfl,H4.out.1,H2.out.2.1.trans H4.out.2.1 fun _ q=>.inl q,H4.out.2.2.trans H2.out.2.2⟩
theorem trait80 (w:World) (tb:Nat) (t:TS) (h:Cells w tb t.cells 104) :
   Calls Tryz.prog 80 #[.pointer (some ⟨tb,0,none⟩)] w fun e w'=>e=.returned (.tuple #[])∧Cells w' tb (tapp t 80).cells 104∧Fr (· = tb) w w'∧w'.heap.size=w.heap.size:=by
 have H:=Lib.hid h
 clear h
 go_enter Tryz.func80,Tryz.ntmps80
 go_wp2_with fail
 refine (tmk56 w).mono ?_
 rintro e w1 ⟨rfl,rfl⟩
 go_wp2_with fail
 refine (trait76 w1 tb t H.out).mono ?_
 rintro e w2 ⟨rfl,h2⟩
 have H2:=Lib.hid h2
 have q1:=h2.1.lt
 have q2:=h2.1.cell 4 _ rfl
 have q3:=h2.1.free 4
 clear h2
 go_wp2_with fail
 go_end0
 refine ⟨rfl,?_,H2.out.2.1.setCell (.inl rfl) _,by simp [H2.out.2.2]⟩
 have:=cells_set H2.out.1 4 (.bool true)
 simpa [TS.cells,tapp] using this
theorem trait_any (w:World) (tb:Nat) (t:TS) (h:Cells w tb t.cells 104) (n:Nat) (hn:n=75∨n=76∨n=77∨n=78∨n=79∨n=80) :
   Calls Tryz.prog n #[.pointer (some ⟨tb,0,none⟩)] w fun e w'=>e=.returned (.tuple #[])∧Cells w' tb (tapp t n).cells 104∧Fr (· = tb) w w'∧w'.heap.size=w.heap.size:=by
 rcases hn with rfl|rfl|rfl|rfl|rfl|rfl
 · exact trait75 w tb t h
 · exact trait76 w tb t h
 · exact trait77 w tb t h
 · exact trait78 w tb t h
 · exact trait79 w tb t h
 · exact trait80 w tb t h
def emptySt (n:Nat):St1:={ vB:=n,pB:=n+1,oB:=n+2,iB:=n+3,vs:=[],ps:=[],outs:=[],inns:=[],inn:=fun _ => [] }
theorem fresh_sm {w:World} {n k:Nat} (hn:w.heap.size=n) (hk:k < 4) :
   SM (((((w.alloc (.map #[] 0)).alloc (.map #[] 0)).alloc (.map #[] 0)).alloc (.map #[] 0)).alloc (.cells #[.map (some n),.map (some (n+1)),.map (some (n+2)),.map (some (n+3))] 181)) (n+k) []:=by
 subst hn
 have e1:(w.alloc (.map #[] 0)).heap.size=w.heap.size+1:=by simp
 have e2:((w.alloc (.map #[] 0)).alloc (.map #[] 0)).heap.size=w.heap.size+2:=by simp
 have e3:(((w.alloc (.map #[] 0)).alloc (.map #[] 0)).alloc (.map #[] 0)).heap.size=w.heap.size+3:=by simp
 have h0:=SM.fresh w
 have h1:=SM.fresh (w.alloc (.map #[] 0))
 have h2:=SM.fresh ((w.alloc (.map #[] 0)).alloc (.map #[] 0))
 have h3:=SM.fresh (((w.alloc (.map #[] 0)).alloc (.map #[] 0)).alloc (.map #[] 0))
 rw [e1] at h1
 rw [e2] at h2
 rw [e3] at h3
 match k,hk with
 | 0,_=>exact (((h0.alloc _).alloc _).alloc _).alloc _
 | 1,_=>exact ((h1.alloc _).alloc _).alloc _
 | 2,_=>exact (h2.alloc _).alloc _
 | 3,_=>exact h3.alloc _
theorem newstore (w:World):Calls Tryz.prog 82 #[] w fun e w'=>e=.returned (.iface 178 (.pointer (some ⟨w.heap.size+4,0,none⟩)))∧SRep w' (w.heap.size+4) (emptySt w.heap.size)∧Fr0 w w'∧w'.heap.size=w.heap.size+5:=by
 have hmm:=@run_makeMap Tryz.prog
 go_enter Tryz.func82,Tryz.ntmps82
 go_wp2
 go_ret
 refine ⟨rfl,?_,by ((repeat' with_reducible first|assumption|exact frR|apply frD|apply frN|apply frA|apply frM|apply frC);all_goals (simp;try omega)),by simp⟩
 have st:=Cells.new ((((w.alloc (.map #[] 0)).alloc (.map #[] 0)).alloc (.map #[] 0)).alloc (.map #[] 0)) #[.map (some w.heap.size),.map (some (w.heap.size+1)),.map (some (w.heap.size+2)),.map (some (w.heap.size+3))] 181
 have e4:((((w.alloc (.map #[] 0)).alloc (.map #[] 0)).alloc (.map #[] 0)).alloc (.map #[] 0)).heap.size=w.heap.size+4:=by simp
 rw [e4] at st
 refine ⟨st,fresh_sm rfl (k:=0) (by decide),fresh_sm rfl (k:=1) (by decide),⟨fresh_sm rfl (k:=2) (by decide),fun x hx=>by cases hx⟩,⟨fresh_sm rfl (k:=3) (by decide),fun x hx=>by cases hx⟩,?_⟩
 simp [St1.own,emptySt]
def TOpts (w:World) (ov:Value) (ns:List Nat):Prop :=
 ∃ ao cap,ov=.slice ao ns.length cap∧ns.length≤cap∧ns.length≤1000000∧(∀ n∈ns,n=75∨n=76∨n=77∨n=78∨n=79∨n=80) ∧
   ∀ (i:Nat) n,ns[i]? = some n→∃ ob,ao=some ⟨ob,0,none⟩∧ob < w.heap.size∧w.cell? ⟨ob,i,none⟩=some (.func (Fn.func n) #[] #[])
def TS.zero:TS:=⟨false,false,false,false,false⟩
def TLp (w0:World) (tb:Nat) (ns:List Nat) (k:Nat) (c:Value) (wr:World):Prop :=
 ∃ i,k+i=ns.length∧c=.int .i64 i∧Cells wr tb ((ns.take i).foldl tapp TS.zero).cells 104∧Fr (· = tb) w0 wr∧wr.heap.size=w0.heap.size
theorem TLp.step {w0 wr w3:World} {tb:Nat} {ns:List Nat} {k i n:Nat} (hk:k+i=ns.length) (hi:i < ns.length) (hn:ns[i]? = some n) (f:Fr (· = tb) w0 wr∧wr.heap.size=w0.heap.size)
   (hc:Cells w3 tb (tapp ((ns.take i).foldl tapp TS.zero) n).cells 104) (f3:Fr (· = tb) wr w3∧w3.heap.size=wr.heap.size):k - 1 < k∧TLp w0 tb ns (k - 1) (.int .i64 ((i:Int)+1)) w3:=by
 have e:ns[i]=n:=(List.getElem?_eq_some_iff.1 hn).2
 refine ⟨by omega,i+1,by omega,by simp,?_,f.1.trans f3.1 fun k q=>.inl q,f3.2.trans f.2⟩
 rw [List.take_succ_eq_append_getElem hi,List.foldl_append,e]
 exact hc
def emptyG (gB tB sB kB hk:Nat) (t:TS) (c:St1):GS:={ gB:=gB,tB:=tB,sB:=sB,kB:=kB,hk:=hk,dir:=t.d,ac:=t.a,we:=t.we,ro:=t.ro,pr:=t.pr,c:=c,pts:=[],lks:=[] }
theorem GRep.empty {w:World} {gB tB sB kB hk:Nat} {t:TS} {n:Nat} {cs:Array Value} (hg:Cells w gB #[.func (Fn.func 62) #[] #[.pointer (some ⟨kB,0,none⟩)],.pointer (some ⟨tB,0,none⟩),.iface 178 (.pointer (some ⟨sB,0,none⟩))] (if t.d then 161 else 163))
   (ht:Cells w tB t.cells 104) (hs:SRep w sB (emptySt n)) (hk1:Cells w kB cs 37) (hk2:KC cs) (hk3:cs[6]? = some (.int .u8 hk)) (o1:kB < n) (o2:sB=n+4) (o3:sB < tB) (o4:tB < gB) :
   GRep w (emptyG gB tB sB kB hk t (emptySt n)):=by
 refine ⟨hg,ht,hs,⟨cs,hk1,hk2,hk3⟩,rfl,rfl,fun _ _=>rfl,fun _ _=>rfl,fun _ h=>(by cases h),fun _ h=>(by cases h),fun _ h=>(by cases h),fun _ _ h=>(by cases h),List.Pairwise.nil,?_,?_⟩
 · simp [GS.own,emptyG,St1.own,emptySt]
   omega
 · simp [GS.own,emptyG,St1.own,emptySt]
   omega
theorem newd (w:World) (kB tB sB:Nat):Calls Tryz.prog 94 #[.func (Fn.func 62) #[] #[.pointer (some ⟨kB,0,none⟩)],.pointer (some ⟨tB,0,none⟩),.iface 178 (.pointer (some ⟨sB,0,none⟩))] w fun e w' =>
   e=.returned (.pointer (some ⟨w.heap.size,0,none⟩))∧w'=w.alloc (.cells #[.func (Fn.func 62) #[] #[.pointer (some ⟨kB,0,none⟩)],.pointer (some ⟨tB,0,none⟩),.iface 178 (.pointer (some ⟨sB,0,none⟩))] 161):=by
 go_enter Tryz.func94,Tryz.ntmps94
 go_wp2
 go_ret
 exact ⟨rfl,rfl⟩
theorem newu (w:World) (kB tB sB:Nat):Calls Tryz.prog 95 #[.func (Fn.func 62) #[] #[.pointer (some ⟨kB,0,none⟩)],.pointer (some ⟨tB,0,none⟩),.iface 178 (.pointer (some ⟨sB,0,none⟩))] w fun e w' =>
   e=.returned (.pointer (some ⟨w.heap.size,0,none⟩))∧w'=w.alloc (.cells #[.func (Fn.func 62) #[] #[.pointer (some ⟨kB,0,none⟩)],.pointer (some ⟨tB,0,none⟩),.iface 178 (.pointer (some ⟨sB,0,none⟩))] 163):=by
 go_enter Tryz.func95,Tryz.ntmps95
 go_wp2
 go_ret
 exact ⟨rfl,rfl⟩
theorem newws (w:World) (kB hk n:Nat) (cs:Array Value) (ov:Value) (ns:List Nat) (ho:TOpts w ov ns) (hs:SRep w (n+4) (emptySt n)) (hk1:Cells w kB cs 37) (hk2:KC cs) (hk3:cs[6]? = some (.int .u8 hk)) (o1:kB < n) (o2:w.heap.size=n+5) :
   Calls Tryz.prog 81 #[.func (Fn.func 62) #[] #[.pointer (some ⟨kB,0,none⟩)],.iface 178 (.pointer (some ⟨n+4,0,none⟩)),ov] w fun e w' =>
     e=.returned (emptyG (w.heap.size+1) w.heap.size (n+4) kB hk (ns.foldl tapp TS.zero) (emptySt n)).val∧GRep w' (emptyG (w.heap.size+1) w.heap.size (n+4) kB hk (ns.foldl tapp TS.zero) (emptySt n))∧Fr0 w w':=by
 obtain ⟨ao,cap,rfl,hcap,hlen,hns,hcell⟩:=ho
 have O:=hid3 hcap hns hcell
 have H:=hid6 hs hk1 hk2 hk3 o1 o2
 clear hcap hns hcell hs hk1 hk2 hk3 o1 o2
 go_enter Tryz.func81,Tryz.ntmps81
 go_wp2_with fail
 try go_frame
 go_loopg [12] ns.length (fun k c wr=>TLp (w.alloc (.cells #[.bool false,.bool false,.bool false,.bool false,.bool false] 104)) w.heap.size ns k c wr)
 case atStart=>exact ⟨0,rfl,rfl,Cells.new w _ _,Fr.refl _ _,rfl⟩
 case round =>
   obtain ⟨i,hk,rfl,hc,f⟩:=hrel
   have A:=hid3 hk hc f
   clear hk hc f
   have F2:=Lib.hid (show Fr (· = w.heap.size) w wr from (((Fr.refl (fun _=>False) w).alloc _).mono (fun k q=>q.elim)).trans A.out.2.2.1 fun k q=>.inl q)
   by_cases hi:i < ns.length
   · obtain ⟨ob,rfl,hob,hce⟩:=O.out.2.2 i ns[i] (List.getElem?_eq_getElem hi)
     have hcell:=(F2.out.cell (p:=⟨ob,i,none⟩) hob (by simp only;omega)).trans hce
     have hnn:=Lib.hid (O.out.2.1 ns[i] (List.getElem_mem hi))
     have hg:=Lib.hid (List.getElem?_eq_getElem hi)
     generalize ns[i]=m at hcell hnn hg
     clear hce
     have hn6:=hnn.out
     rcases hn6 with rfl|rfl|rfl|rfl|rfl|rfl
     all_goals
       go_wp2_with fail
       refine (trait_any wr w.heap.size _ A.out.2.1 _ (by decide)).mono ?_
       rintro e w3 ⟨rfl,h3⟩
       have D:=Lib.hid h3
       clear h3
       go_wp2_with fail
       have R:=TLp.step A.out.1 hi hg.out A.out.2.2 D.out.1 D.out.2
       go_roundg (gk - 1)
       case measure=>exact R.1
       case rel=>exact R.2
   · have hi':i=ns.length:=by have:=A.out.1;omega
     subst hi'
     have hT:=A.out.2.1
     rw [List.take_length] at hT
     obtain ⟨l,⟨c0,c1,c2,c3,c4⟩, -⟩:=t0cells wr _ _ hT
     have HT:=Lib.hid hT
     have HZ:=Lib.hid (show wr.heap.size=w.heap.size+1 from A.out.2.2.2.trans (by simp))
     clear hT
     cases hd:(ns.foldl tapp TS.zero).d with
     | true =>
       rw [hd] at c0
       have hd':=Lib.hid hd
       clear hd
       go_wp2_with fail
       refine (newd wr kB w.heap.size (n+4)).mono ?_
       rintro e w5 ⟨rfl,rfl⟩
       go_wp2_with fail
       go_ret
       obtain ⟨hs,hk1,hk2,hk3,o1,o2⟩:=H.out
       have sz:wr.heap.size=w.heap.size+1:=HZ.out
       have f9:Fr0 w (wr.alloc (.cells #[.func (Fn.func 62) #[] #[.pointer (some ⟨kB,0,none⟩)],.pointer (some ⟨w.heap.size,0,none⟩),.iface 178 (.pointer (some ⟨n+4,0,none⟩))] 161)):=(F2.out.shrink fun k q=>.inr (Nat.le_of_eq q.symm)).alloc _
       have hv:(emptyG (w.heap.size+1) w.heap.size (n+4) kB hk (ns.foldl tapp TS.zero) (emptySt n)).val=.iface 162 (.pointer (some ⟨wr.heap.size,0,none⟩)):=by
         rw [sz]
         show Value.iface (if (ns.foldl tapp TS.zero).d then 162 else 164) _=_
         rw [hd'.out]
         rfl
       refine ⟨by rw [hv];rfl,GRep.empty ?_ (HT.out.alloc _) (hs.fr f9 (fun q=>q) (fun _ _ q=>q)) (hk1.fr f9 (fun q=>q)) hk2 hk3 o1 rfl (by omega) (by omega),f9⟩
       rw [hd'.out,← sz]
       exact Cells.new wr _ 161
     | false =>
       rw [hd] at c0
       have hd':=Lib.hid hd
       clear hd
       go_wp2_with fail
       refine (newu wr kB w.heap.size (n+4)).mono ?_
       rintro e w5 ⟨rfl,rfl⟩
       go_wp2_with fail
       go_ret
       obtain ⟨hs,hk1,hk2,hk3,o1,o2⟩:=H.out
       have sz:wr.heap.size=w.heap.size+1:=HZ.out
       have f9:Fr0 w (wr.alloc (.cells #[.func (Fn.func 62) #[] #[.pointer (some ⟨kB,0,none⟩)],.pointer (some ⟨w.heap.size,0,none⟩),.iface 178 (.pointer (some ⟨n+4,0,none⟩))] 163)):=(F2.out.shrink fun k q=>.inr (Nat.le_of_eq q.symm)).alloc _
       have hv:(emptyG (w.heap.size+1) w.heap.size (n+4) kB hk (ns.foldl tapp TS.zero) (emptySt n)).val=.iface 164 (.pointer (some ⟨wr.heap.size,0,none⟩)):=by
         rw [sz]
         show Value.iface (if (ns.foldl tapp TS.zero).d then 162 else 164) _=_
         rw [hd'.out]
         rfl
       refine ⟨by rw [hv];rfl,GRep.empty ?_ (HT.out.alloc _) (hs.fr f9 (fun q=>q) (fun _ _ q=>q)) (hk1.fr f9 (fun q=>q)) hk2 hk3 o1 rfl (by omega) (by omega),f9⟩
       rw [hd'.out,← sz]
       exact Cells.new wr _ 163
theorem strhash (w:World) (s:ByteArray):Calls Tryz.prog 84 #[.string s] w fun e w'=>e=.returned (.string s)∧w'=w:=by
 go_enter Tryz.func84,Tryz.ntmps84
 go_wp2
 go_ret
 exact ⟨rfl,rfl⟩
theorem hashof0 (w:World) (b0 b1 b2 b3 b4 b5:Bool) (s:ByteArray):Calls Tryz.prog 63 #[.agg #[.bool b0,.bool b1,.bool b2,.bool b3,.bool b4,.bool b5,.int .u8 0],.string s] w fun e w'=>e=.returned (.string s)∧Fr0 w w':=by
 go_enter Tryz.func63,Tryz.ntmps63
 go_wp2_with fail
 refine (strhash _ s).mono ?_
 rintro e w1 ⟨rfl,rfl⟩
 go_wp2_with fail
 go_ret
 exact ⟨rfl,by ((repeat' with_reducible first|assumption|exact frR|apply frD|apply frN|apply frA|apply frM|apply frC);all_goals (simp;try omega))⟩
theorem hash0:HashC 0:=by
 rintro s - w kB cs hc ⟨b0,b1,b2,b3,b4,b5,h,rfl⟩ h6
 have hl:=hc.lt
 have h0:h=0:=by simpa using h6
 subst h0
 have c0:=hc.cell 0 _ rfl
 have c1:=hc.cell 1 _ rfl
 have c2:=hc.cell 2 _ rfl
 have c3:=hc.cell 3 _ rfl
 have c4:=hc.cell 4 _ rfl
 have c5:=hc.cell 5 _ rfl
 have c6:=hc.cell 6 _ rfl
 clear hc h6
 have hm:hashM 0 s=s:=rfl
 rw [hm]
 go_enter Tryz.func62,Tryz.ntmps62
 go_wp2_with fail
 refine (hashof0 w b0 b1 b2 b3 b4 b5 s).mono ?_
 rintro e w1 ⟨rfl,f1⟩
 go_wp2_with fail
 go_ret
 exact ⟨rfl,f1⟩
theorem TOpts.fr {w w':World} {ov:Value} {ns:List Nat} (h:TOpts w ov ns) (f:Fr0 w w'):TOpts w' ov ns:=by
 obtain ⟨ao,cap,h1,h2,h3,h4,h5⟩:=h
 refine ⟨ao,cap,h1,h2,h3,h4,fun i n hn => ?_⟩
 obtain ⟨ob,g1,g2,g3⟩:=h5 i n hn
 exact ⟨ob,g1,Nat.lt_of_lt_of_le g2 f.size,(f.cell (p:=⟨ob,i,none⟩) g2 (fun q=>q)).trans g3⟩
structure Fresh (w:World) (kB hk:Nat) (t:TS) (w':World) (G:GS):Prop where
 rep:GRep w' G
 pts:G.pts = []
 lks:G.lks = []
 kb:G.kB=kB
 hk:G.hk=hk
 dir:G.dir=t.d
 ac:G.ac=t.a
 we:G.we=t.we
 ro:G.ro=t.ro
 pr:G.pr=t.pr
 new:∀ b∈G.own,w.heap.size≤b
 fr:Fr0 w w'
theorem newg (w:World) (kB hk:Nat) (cs:Array Value) (ov:Value) (ns:List Nat) (ho:TOpts w ov ns) (hk1:Cells w kB cs 37) (hk2:KC cs) (hk3:cs[6]? = some (.int .u8 hk)) :
   Calls Tryz.prog 61 #[.func (Fn.func 62) #[] #[.pointer (some ⟨kB,0,none⟩)],ov] w fun e w' =>
     ∃ G,e=.returned G.val∧Fresh w kB hk (ns.foldl tapp TS.zero) w' G:=by
 have H:=hid4 ho hk1 hk2 hk3
 clear ho hk1 hk2 hk3
 go_enter Tryz.func61,Tryz.ntmps61
 go_wp2_with fail
 refine (newstore w).mono ?_
 rintro e w1 ⟨rfl,hs,f1,z1⟩
 have N:=hid3 hs f1 z1
 clear hs f1 z1
 go_wp2_with fail
 refine (newws w1 kB hk w.heap.size cs ov ns (H.out.1.fr N.out.2.1) N.out.1 (H.out.2.1.fr N.out.2.1 (fun q=>q)) H.out.2.2.1 H.out.2.2.2 H.out.2.1.lt N.out.2.2).mono ?_
 rintro e w2 ⟨rfl,r2,f2⟩
 have R:=hid2 r2 f2
 clear r2 f2
 go_wp2_with fail
 go_ret
 refine ⟨_,rfl,R.out.1,rfl,rfl,rfl,rfl,rfl,rfl,rfl,rfl,rfl,?_,N.out.2.1.trans0 R.out.2⟩
 have z:=N.out.2.2
 intro b hb
 simp only [GS.own,emptyG,St1.own,emptySt,List.map_nil,List.append_nil,List.mem_cons,List.not_mem_nil,or_false] at hb
 rcases hb with rfl|rfl|rfl|rfl|rfl|rfl|rfl <;> omega
theorem info119:(Tryz.prog.info? 119).map (fun i=>(i.zero,i.size,i.bytes))=some (some .nilFunc,1,8):=by kernel_rfl
def sel (l:List (Bool × Nat)):List Nat:=(l.filter (·.1)).map (·.2)
def clos (l:List Nat):List Value:=l.map fun n=>.func (Fn.func n) #[] #[]
def kflags (b0 b1 b2 b3 b4 b5:Bool):List (Bool × Nat):=[(b0,75),(b1,76),(b2,77),(b3,78),(b4,79),(b5,80)]
abbrev kagg (b0 b1 b2 b3 b4 b5:Bool) (hk:Nat):Value:=.agg #[.bool b0,.bool b1,.bool b2,.bool b3,.bool b4,.bool b5,.int .u8 hk]
def GOL (B:Nat) (w2:World) (fl:List (Bool × Nat)) (k:Nat) (v c:Value) (wr:World):Prop :=
 ∃ i,k+i=6∧c=.int .i64 i∧wr.ownsRow B 119 1 v (sel (fl.take i)).length (clos (sel (fl.take i)))∧Fr0 w2 wr
theorem GOL.skip {B:Nat} {w2 wr w3:World} {fl:List (Bool × Nat)} {k i n:Nat} {v:Value} (hk:k+i=6) (hi:i < 6) (hn:fl[i]? = some (false,n)) (ho:wr.ownsRow B 119 1 v (sel (fl.take i)).length (clos (sel (fl.take i)))) (f:Fr0 w2 wr) (f3:Fr0 wr w3) :
   k - 1 < k∧GOL B w2 fl (k - 1) v (.int .i64 ((i:Int)+1)) w3:=by
 have hl:i < fl.length:=(List.getElem?_eq_some_iff.1 hn).1
 have e:fl[i]=(false,n):=(List.getElem?_eq_some_iff.1 hn).2
 have h1:sel (fl.take (i+1))=sel (fl.take i):=by
   rw [List.take_succ_eq_append_getElem hl,e]
   simp [sel]
 refine ⟨by omega,i+1,by omega,by simp,?_,f.trans0 f3⟩
 rw [h1]
 exact ownsRow_fr ho f3 fun _ _ q=>q
theorem GOL.add {B:Nat} {w2 wr w3 w4:World} {fl:List (Bool × Nat)} {k i n:Nat} {v v':Value} (hB:w2.heap.size≤B) (hk:k+i=6) (hi:i < 6) (hn:fl[i]? = some (true,n)) (ho:wr.ownsRow B 119 1 v (sel (fl.take i)).length (clos (sel (fl.take i)))) (f:Fr0 w2 wr) (f3:Fr0 wr w3)
   (ho':w4.ownsRow B 119 1 v' ((sel (fl.take i)).length+1) (clos (sel (fl.take i)) ++ [.func (Fn.func n) #[] #[]])) (f4:Fr (fun j=>v.ownBlock=some j) w3 w4) :
   k - 1 < k∧GOL B w2 fl (k - 1) v' (.int .i64 ((i:Int)+1)) w4:=by
 have hl:i < fl.length:=(List.getElem?_eq_some_iff.1 hn).1
 have e:fl[i]=(true,n):=(List.getElem?_eq_some_iff.1 hn).2
 have h1:sel (fl.take (i+1))=sel (fl.take i) ++ [n]:=by
   rw [List.take_succ_eq_append_getElem hl,e]
   simp [sel]
 refine ⟨by omega,i+1,by omega,by simp,?_,(f.trans0 f3).trans f4 fun j hj=>.inr (Nat.le_trans hB (ho.lt j hj).1)⟩
 rw [h1]
 have h2:clos (sel (fl.take i) ++ [n])=clos (sel (fl.take i)) ++ [.func (Fn.func n) #[] #[]]:=by simp [clos]
 rw [h2]
 simpa using ho'
theorem TOpts.of_own {w:World} {B:Nat} {v:Value} {ns:List Nat} (h:w.ownsRow B 119 1 v ns.length (clos ns)) (hn:∀ n∈ns,n=75∨n=76∨n=77∨n=78∨n=79∨n=80) (hl:ns.length≤1000000):TOpts w v ns:=by
 rcases h.2 with ⟨rfl,h0⟩|⟨g,cap,cur,rfl,_,hg,hle,_,hsz,htk⟩
 · have:ns = []:=List.eq_nil_of_length_eq_zero h0
   subst this
   exact ⟨none,0,rfl,by simp,by simp,by simp,fun i n hi=>by simp at hi⟩
 · refine ⟨some ⟨g,0,none⟩,cap,rfl,hle,hl,hn,fun i n hi=>⟨g,rfl,lt_of_some hg,?_⟩⟩
   have:=h.cells (g:=g) rfl i (.func (Fn.func n) #[] #[]) (by unfold clos;rw [List.getElem?_map,hi];rfl)
   simpa [Addr.add_lit] using this
theorem sel_ok (b0 b1 b2 b3 b4 b5:Bool):(∀ n∈sel (kflags b0 b1 b2 b3 b4 b5),n=75∨n=76∨n=77∨n=78∨n=79∨n=80)∧(sel (kflags b0 b1 b2 b3 b4 b5)).length≤1000000:=by
 revert b0 b1 b2 b3 b4 b5
 decide
abbrev kBox (b0 b1 b2 b3 b4 b5:Bool) (hk:Nat):Obj:=.cells #[.bool b0,.bool b1,.bool b2,.bool b3,.bool b4,.bool b5,.int .u8 hk] 37
abbrev fArr (b0 b1 b2 b3 b4 b5:Bool):Array Value:=#[.bool b0,.func (Fn.func 55) #[] #[],.bool b1,.func (Fn.func 56) #[] #[],.bool b2,.func (Fn.func 57) #[] #[],.bool b3,.func (Fn.func 58) #[] #[],.bool b4,.func (Fn.func 59) #[] #[],.bool b5,.func (Fn.func 60) #[] #[]]
theorem graphof (w:World) (b0 b1 b2 b3 b4 b5:Bool) (hk:Nat) :
   Calls Tryz.prog 38 #[kagg b0 b1 b2 b3 b4 b5 hk] w fun e w' =>
     ∃ G,e=.returned G.val∧Fresh w w.heap.size hk ((sel (kflags b0 b1 b2 b3 b4 b5)).foldl tapp TS.zero) w' G:=by
 go_enter Tryz.func38,Tryz.ntmps38
 go_wp2_with fail
 try go_frame
 go_loopg [3,26] 6 (fun k v c wr=>GOL (w.heap.size+2) ((w.alloc (kBox b0 b1 b2 b3 b4 b5 hk)).alloc (.cells (fArr b0 b1 b2 b3 b4 b5) 117)) (kflags b0 b1 b2 b3 b4 b5) k v c wr)
 case atStart=>exact ⟨0,rfl,rfl,World.ownsRow_nil _ _ _ _,Fr.refl _ _⟩
 case round =>
   obtain ⟨i,hk',rfl,ho,f⟩:=hrel
   have A:=hid3 hk' ho f
   have hi6:i≤6:=by omega
   clear hk' ho f
   have AR:Cells wr (w.heap.size+1) (fArr b0 b1 b2 b3 b4 b5) 117:=by
     have:=(Cells.new (w.alloc (kBox b0 b1 b2 b3 b4 b5 hk)) (fArr b0 b1 b2 b3 b4 b5) 117).fr A.out.2.2 (fun q=>q)
     simpa using this
   have al:=AR.lt
   have SZ:=Lib.hid (show w.heap.size+2≤wr.heap.size from by have:=A.out.2.2.size;simpa using this)
   have hlen:(sel ((kflags b0 b1 b2 b3 b4 b5).take i)).length≤1000000:=by
     have h1:(sel ((kflags b0 b1 b2 b3 b4 b5).take i)).length≤((kflags b0 b1 b2 b3 b4 b5).take i).length:=by
       unfold sel
       rw [List.length_map]
       exact List.length_filter_le _ _
     have h2:((kflags b0 b1 b2 b3 b4 b5).take i).length≤6:=by rw [List.length_take];simp [kflags];omega
     omega
   have HL:=Lib.hid hlen
   clear hlen
   have hcase:i=6∨i=0∨i=1∨i=2∨i=3∨i=4∨i=5:=by omega
   rcases hcase with rfl|rfl|rfl|rfl|rfl|rfl|rfl
   · clear al AR
     go_wp2_with fail
     obtain ⟨o1,o2⟩:=sel_ok b0 b1 b2 b3 b4 b5
     have hw:(kflags b0 b1 b2 b3 b4 b5).take 6=kflags b0 b1 b2 b3 b4 b5:=rfl
     have HO:=A.out.2.1
     rw [hw] at HO
     have f0:Fr0 w wr:=(((Fr.refl (fun _=>False) w).alloc (kBox b0 b1 b2 b3 b4 b5 hk)).alloc (.cells (fArr b0 b1 b2 b3 b4 b5) 117)).trans0 A.out.2.2
     have HK:Cells wr w.heap.size #[.bool b0,.bool b1,.bool b2,.bool b3,.bool b4,.bool b5,.int .u8 hk] 37:=((Cells.new w #[.bool b0,.bool b1,.bool b2,.bool b3,.bool b4,.bool b5,.int .u8 hk] 37).alloc _).fr A.out.2.2 (fun q=>q)
     refine (newg wr w.heap.size hk _ _ _ (TOpts.of_own HO o1 o2) HK ⟨b0,b1,b2,b3,b4,b5,hk,rfl⟩ rfl).mono ?_
     rintro e w5 ⟨G,rfl,FG⟩
     have R:=Lib.hid FG
     have F0:=Lib.hid f0
     clear HO FG f0 HK
     go_wp2_with fail
     go_ret
     exact ⟨G,rfl,R.out.rep,R.out.pts,R.out.lks,R.out.kb,R.out.hk,R.out.dir,R.out.ac,R.out.we,R.out.ro,R.out.pr,fun b hb=>Nat.le_trans F0.out.size (R.out.new b hb),F0.out.trans0 R.out.fr⟩
   · have a0:=AR.cell 0 _ rfl
     have a1:=AR.cell 1 _ rfl
     clear AR
     cases b0 with
     | false =>
       go_wp2_with fail
       have R:=GOL.skip A.out.1 (by decide) rfl A.out.2.1 A.out.2.2 ((Fr.refl (fun _=>False) wr).alloc (.cells #[.bool false,.func (Fn.func 55) #[] #[]] 117))
       go_roundg (gk - 1)
       case measure=>exact R.1
       case rel=>exact R.2
     | true =>
       go_wp2_with (first
         | (go_at_call 55;refine (tmk55 _).mono ?_;rintro e w7 ⟨rfl,rfl⟩)
         | (at_builtin;refine wl_app1 (w:=wr.alloc (.cells #[.bool true,.func (Fn.func 55) #[] #[]] 117)) 115 rfl (.tmp 32) (.tmp 36) rfl 119 _ 1 8 Tryz.underlying115 info119 rfl (by decide) (by decide) (w.heap.size+2) u3 _ _ rfl (A.out.2.1.alloc _) #[.func (Fn.func 75) #[] #[]] (wr.heap.size+1) rfl (by simp) rfl (by simp [Value.oneCell']) HL.out (by have:=SZ.out;simp;omega) ?_))
       intro v' w4 ho' fg hne
       have C:=hid2 ho' fg
       clear ho' fg hne
       go_wp2_with fail
       have R:=GOL.add (by simp) A.out.1 (by decide) rfl A.out.2.1 A.out.2.2 ((Fr.refl (fun _=>False) wr).alloc _) C.out.1 C.out.2
       go_roundg (gk - 1)
       case measure=>exact R.1
       case rel=>exact R.2
   · have a0:=AR.cell 2 _ rfl
     have a1:=AR.cell 3 _ rfl
     clear AR
     cases b1 with
     | false =>
       go_wp2_with fail
       have R:=GOL.skip A.out.1 (by decide) rfl A.out.2.1 A.out.2.2 ((Fr.refl (fun _=>False) wr).alloc (.cells #[.bool false,.func (Fn.func 56) #[] #[]] 117))
       go_roundg (gk - 1)
       case measure=>exact R.1
       case rel=>exact R.2
     | true =>
       go_wp2_with (first
         | (go_at_call 56;refine (tmk56 _).mono ?_;rintro e w7 ⟨rfl,rfl⟩)
         | (at_builtin;refine wl_app1 (w:=wr.alloc (.cells #[.bool true,.func (Fn.func 56) #[] #[]] 117)) 115 rfl (.tmp 32) (.tmp 36) rfl 119 _ 1 8 Tryz.underlying115 info119 rfl (by decide) (by decide) (w.heap.size+2) u3 _ _ rfl (A.out.2.1.alloc _) #[.func (Fn.func 76) #[] #[]] (wr.heap.size+1) rfl (by simp) rfl (by simp [Value.oneCell']) HL.out (by have:=SZ.out;simp;omega) ?_))
       intro v' w4 ho' fg hne
       have C:=hid2 ho' fg
       clear ho' fg hne
       go_wp2_with fail
       have R:=GOL.add (by simp) A.out.1 (by decide) rfl A.out.2.1 A.out.2.2 ((Fr.refl (fun _=>False) wr).alloc _) C.out.1 C.out.2
       go_roundg (gk - 1)
       case measure=>exact R.1
       case rel=>exact R.2
   · have a0:=AR.cell 4 _ rfl
     have a1:=AR.cell 5 _ rfl
     clear AR
     cases b2 with
     | false =>
       go_wp2_with fail
       have R:=GOL.skip A.out.1 (by decide) rfl A.out.2.1 A.out.2.2 ((Fr.refl (fun _=>False) wr).alloc (.cells #[.bool false,.func (Fn.func 57) #[] #[]] 117))
       go_roundg (gk - 1)
       case measure=>exact R.1
       case rel=>exact R.2
     | true =>
       go_wp2_with (first
         | (go_at_call 57;refine (tmk57 _).mono ?_;rintro e w7 ⟨rfl,rfl⟩)
         | (at_builtin;refine wl_app1 (w:=wr.alloc (.cells #[.bool true,.func (Fn.func 57) #[] #[]] 117)) 115 rfl (.tmp 32) (.tmp 36) rfl 119 _ 1 8 Tryz.underlying115 info119 rfl (by decide) (by decide) (w.heap.size+2) u3 _ _ rfl (A.out.2.1.alloc _) #[.func (Fn.func 77) #[] #[]] (wr.heap.size+1) rfl (by simp) rfl (by simp [Value.oneCell']) HL.out (by have:=SZ.out;simp;omega) ?_))
       intro v' w4 ho' fg hne
       have C:=hid2 ho' fg
       clear ho' fg hne
       go_wp2_with fail
       have R:=GOL.add (by simp) A.out.1 (by decide) rfl A.out.2.1 A.out.2.2 ((Fr.refl (fun _=>False) wr).alloc _) C.out.1 C.out.2
       go_roundg (gk - 1)
       case measure=>exact R.1
       case rel=>exact R.2
   · have a0:=AR.cell 6 _ rfl
     have a1:=AR.cell 7 _ rfl
     clear AR
     cases b3 with
     | false =>
       go_wp2_with fail
       have R:=GOL.skip A.out.1 (by decide) rfl A.out.2.1 A.out.2.2 ((Fr.refl (fun _=>False) wr).alloc (.cells #[.bool false,.func (Fn.func 58) #[] #[]] 117))
       go_roundg (gk - 1)
       case measure=>exact R.1
       case rel=>exact R.2
     | true =>
       go_wp2_with (first
         | (go_at_call 58;refine (tmk58 _).mono ?_;rintro e w7 ⟨rfl,rfl⟩)
         | (at_builtin;refine wl_app1 (w:=wr.alloc (.cells #[.bool true,.func (Fn.func 58) #[] #[]] 117)) 115 rfl (.tmp 32) (.tmp 36) rfl 119 _ 1 8 Tryz.underlying115 info119 rfl (by decide) (by decide) (w.heap.size+2) u3 _ _ rfl (A.out.2.1.alloc _) #[.func (Fn.func 78) #[] #[]] (wr.heap.size+1) rfl (by simp) rfl (by simp [Value.oneCell']) HL.out (by have:=SZ.out;simp;omega) ?_))
       intro v' w4 ho' fg hne
       have C:=hid2 ho' fg
       clear ho' fg hne
       go_wp2_with fail
       have R:=GOL.add (by simp) A.out.1 (by decide) rfl A.out.2.1 A.out.2.2 ((Fr.refl (fun _=>False) wr).alloc _) C.out.1 C.out.2
       go_roundg (gk - 1)
       case measure=>exact R.1
       case rel=>exact R.2
   · have a0:=AR.cell 8 _ rfl
     have a1:=AR.cell 9 _ rfl
     clear AR
     cases b4 with
     | false =>
       go_wp2_with fail
       have R:=GOL.skip A.out.1 (by decide) rfl A.out.2.1 A.out.2.2 ((Fr.refl (fun _=>False) wr).alloc (.cells #[.bool false,.func (Fn.func 59) #[] #[]] 117))
       go_roundg (gk - 1)
       case measure=>exact R.1
       case rel=>exact R.2
     | true =>
       go_wp2_with (first
         | (go_at_call 59;refine (tmk59 _).mono ?_;rintro e w7 ⟨rfl,rfl⟩)
         | (at_builtin;refine wl_app1 (w:=wr.alloc (.cells #[.bool true,.func (Fn.func 59) #[] #[]] 117)) 115 rfl (.tmp 32) (.tmp 36) rfl 119 _ 1 8 Tryz.underlying115 info119 rfl (by decide) (by decide) (w.heap.size+2) u3 _ _ rfl (A.out.2.1.alloc _) #[.func (Fn.func 79) #[] #[]] (wr.heap.size+1) rfl (by simp) rfl (by simp [Value.oneCell']) HL.out (by have:=SZ.out;simp;omega) ?_))
       intro v' w4 ho' fg hne
       have C:=hid2 ho' fg
       clear ho' fg hne
       go_wp2_with fail
       have R:=GOL.add (by simp) A.out.1 (by decide) rfl A.out.2.1 A.out.2.2 ((Fr.refl (fun _=>False) wr).alloc _) C.out.1 C.out.2
       go_roundg (gk - 1)
       case measure=>exact R.1
       case rel=>exact R.2
   · have a0:=AR.cell 10 _ rfl
     have a1:=AR.cell 11 _ rfl
     clear AR
     cases b5 with
     | false =>
       go_wp2_with fail
       have R:=GOL.skip A.out.1 (by decide) rfl A.out.2.1 A.out.2.2 ((Fr.refl (fun _=>False) wr).alloc (.cells #[.bool false,.func (Fn.func 60) #[] #[]] 117))
       go_roundg (gk - 1)
       case measure=>exact R.1
       case rel=>exact R.2
     | true =>
       go_wp2_with (first
         | (go_at_call 60;refine (tmk60 _).mono ?_;rintro e w7 ⟨rfl,rfl⟩)
         | (at_builtin;refine wl_app1 (w:=wr.alloc (.cells #[.bool true,.func (Fn.func 60) #[] #[]] 117)) 115 rfl (.tmp 32) (.tmp 36) rfl 119 _ 1 8 Tryz.underlying115 info119 rfl (by decide) (by decide) (w.heap.size+2) u3 _ _ rfl (A.out.2.1.alloc _) #[.func (Fn.func 80) #[] #[]] (wr.heap.size+1) rfl (by simp) rfl (by simp [Value.oneCell']) HL.out (by have:=SZ.out;simp;omega) ?_))
       intro v' w4 ho' fg hne
       have C:=hid2 ho' fg
       clear ho' fg hne
       go_wp2_with fail
       have R:=GOL.add (by simp) A.out.1 (by decide) rfl A.out.2.1 A.out.2.2 ((Fr.refl (fun _=>False) wr).alloc _) C.out.1 C.out.2
       go_roundg (gk - 1)
       case measure=>exact R.1
       case rel=>exact R.2
end Go.Proofs.YtbafaadmlpamiaaGreatDoor
