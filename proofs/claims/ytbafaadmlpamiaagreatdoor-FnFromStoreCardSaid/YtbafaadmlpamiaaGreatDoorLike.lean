import Derived.Test.YtbafaadmlpamiaaGreatDoorE2
import Derived.Test.YtbafaadmlpamiaaGreatDoorA6
set_option maxRecDepth 100000
set_option maxHeartbeats 2000000
namespace Go.Proofs.YtbafaadmlpamiaaGreatDoor
open Go Go.Hy Go.RowKit
theorem fr_tb {w w1:World} {tb i:Nat} {v:Value} (h:Fr (fun x=>x=tb) w w1):Fr (fun x=>x=tb) w (w1.setCell ⟨tb,i,none⟩ v):=h.setCell (.inl rfl) v
def GS.ts (G:GS):TS:=⟨G.dir,G.ac,G.we,G.ro,G.pr⟩
theorem lk73 (w:World) (tb xb:Nat) (G:GS) (h:GRep w G) (hx:w.cell? ⟨xb,0,none⟩=some G.val) (hxl:xb < w.heap.size) (hxt:xb≠tb) (t:TS) (ht:Cells w tb t.cells 104) (hto:tb∉G.own) (htk:tb≠G.kB) :
   Calls Tryz.prog 73 #[.pointer (some ⟨tb,0,none⟩),.pointer (some ⟨xb,0,none⟩)] w fun e w'=>e=.returned (.tuple #[])∧Cells w' tb G.ts.cells 104∧Fr (· = tb) w w'∧w'.heap.size=w.heap.size:=by
 have HGR:=Lib.hid (show ∀ w',Fr (· = tb) w w'→GRep w' G from fun w' f=>h.fr f (fun b hb q=>hto (q▸hb)) (fun q=>htk q.symm))
 obtain ⟨⟨g0,g1,g2⟩,⟨r0,r1,r2,r3,r4⟩,l0,l1,l2⟩:=h.facts
 have ne1:¬ G.tB=tb:=fun q=>hto (by rw [← q];simp [GS.own])
 have ne2:¬ G.gB=tb:=fun q=>hto (by rw [← q];simp [GS.own])
 have mA3:=mdTraits
 have mA4:=muTraits
 obtain ⟨tl,⟨t0,t1,t2,t3,t4⟩,z0,z1,z2,z3,z4⟩:=t0cells w tb t ht
 have HT:=Lib.hid ht
 obtain ⟨G',hG'⟩ : ∃ G',G'=G:=⟨_,rfl⟩
 have HD:=hid3 hto htk hG'
 clear h ht hto htk hG'
 have key:∀ d:Bool,G.dir=d→Cells (((((w.setCell ⟨tb,0,none⟩ (.bool d)).setCell ⟨tb,1,none⟩ (.bool G.ac)).setCell ⟨tb,2,none⟩ (.bool G.we)).setCell ⟨tb,3,none⟩ (.bool G.ro)).setCell ⟨tb,4,none⟩ (.bool G.pr)) tb G.ts.cells 104:=fun d hd=>by
   have:=cells_set (cells_set (cells_set (cells_set (cells_set HT.out 0 (.bool d)) 1 (.bool G.ac)) 2 (.bool G.we)) 3 (.bool G.ro)) 4 (.bool G.pr)
   rw [← hd] at this ⊢
   simpa [TS.cells,GS.ts] using this
 have KEY:=Lib.hid key
 clear key
 unfold GS.val at hx
 cases hd:G.dir with
 | true =>
   have HK:=Lib.hid (KEY.out _ hd)
   rw [hd] at hx r0
   go_enter Tryz.func73,Tryz.ntmps73
   go_wp2_with (first
     | (go_at_call 186;go_must (refine (dtraits _ G (HGR.out _ (by (repeat' (first|(with_reducible exact Fr.refl _ _)|(with_reducible refine fr_tb ?_)))))).mono ?_);rintro e2 w8 ⟨rfl,h8⟩;subst h8))
   go_end0
   exact ⟨rfl,HK.out,by (repeat' (first|(with_reducible exact Fr.refl _ _)|(with_reducible refine fr_tb ?_))),by simp⟩
 | false =>
   have HK:=Lib.hid (KEY.out _ hd)
   rw [hd] at hx r0
   go_enter Tryz.func73,Tryz.ntmps73
   go_wp2_with (first
     | (go_at_call 211;go_must (refine (utraits _ G (HGR.out _ (by (repeat' (first|(with_reducible exact Fr.refl _ _)|(with_reducible refine fr_tb ?_)))))).mono ?_);rintro e2 w8 ⟨rfl,h8⟩;subst h8))
   go_end0
   exact ⟨rfl,HK.out,by (repeat' (first|(with_reducible exact Fr.refl _ _)|(with_reducible refine fr_tb ?_))),by simp⟩
def fv73 (xb:Nat):Value:=.func (Fn.func 73) #[] #[.pointer (some ⟨xb,0,none⟩)]
theorem newws1 (w:World) (kB hk n:Nat) (cs:Array Value) (ob xb:Nat) (G:GS) (h:GRep w G) (hx:w.cell? ⟨xb,0,none⟩=some G.val) (hxl:xb < w.heap.size) (hcell:w.cell? ⟨ob,0,none⟩=some (fv73 xb)) (hob:ob < w.heap.size)
   (hs:SRep w (n+4) (emptySt n)) (hk1:Cells w kB cs 37) (hk2:KC cs) (hk3:cs[6]? = some (.int .u8 hk)) (o1:kB < n) (o2:w.heap.size=n+5) :
   Calls Tryz.prog 81 #[.func (Fn.func 62) #[] #[.pointer (some ⟨kB,0,none⟩)],.iface 178 (.pointer (some ⟨n+4,0,none⟩)),.slice (some ⟨ob,0,none⟩) 1 1] w fun e w' =>
     e=.returned (emptyG (w.heap.size+1) w.heap.size (n+4) kB hk G.ts (emptySt n)).val∧GRep w' (emptyG (w.heap.size+1) w.heap.size (n+4) kB hk G.ts (emptySt n))∧Fr0 w w':=by
 have H:=hid6 hs hk1 hk2 hk3 o1 o2
 have HX:=hid2 h hx
 have C0:=Lib.hid (Cells.new w #[.bool false,.bool false,.bool false,.bool false,.bool false] 104)
 have F0:=Lib.hid (show Fr0 w (w.alloc (.cells #[.bool false,.bool false,.bool false,.bool false,.bool false] 104)) by ((repeat' with_reducible first|assumption|exact frR|apply frD|apply frN|apply frA|apply frM|apply frC);all_goals (simp;try omega)))
 clear hs hk1 hk2 hk3 o1 o2 h hx
 unfold fv73 at hcell
 go_enter Tryz.func81,Tryz.ntmps81
 go_wp2_with fail
 try go_frame
 go_loopg [12] 1 (fun k c wr=>(k=1∧c=.int .i64 0∧wr=w.alloc (.cells #[.bool false,.bool false,.bool false,.bool false,.bool false] 104))∨(k=0∧c=.int .i64 1∧Cells wr w.heap.size G.ts.cells 104∧Fr (· = w.heap.size) (w.alloc (.cells #[.bool false,.bool false,.bool false,.bool false,.bool false] 104)) wr∧wr.heap.size=w.heap.size+1))
 case atStart=>exact .inl ⟨rfl,rfl,rfl⟩
 case round =>
   rcases hrel with ⟨rfl,rfl,rfl⟩|⟨rfl,rfl,hc,f,hz⟩
   · go_wp2_with fail
     refine (lk73 _ w.heap.size xb G (HX.out.1.fr F0.out (fun _ _ q=>q) (fun q=>q)) ((F0.out.cell (p:=⟨xb,0,none⟩) hxl (fun q=>q)).trans HX.out.2) (by simp;omega) (by omega) TS.zero C0.out (fun q=>by have:=HX.out.1.lt _ q;omega) (fun q=>by obtain ⟨cs',q1,_⟩:=HX.out.1.k;have:=q1.lt;omega)).mono ?_
     rintro e w3 ⟨rfl,h1,h2,h3⟩
     have D:=hid3 h1 h2 h3
     clear h1 h2 h3
     go_wp2_with fail
     go_roundg 0
     case measure=>decide
     case rel=>exact .inr ⟨rfl,rfl,D.out.1,D.out.2.1,by rw [D.out.2.2];simp⟩
   · have F2:=Lib.hid (show Fr (· = w.heap.size) w wr from (F0.out.mono (fun k q=>q.elim)).trans f fun k q=>.inl q)
     obtain ⟨l,⟨c0,c1,c2,c3,c4⟩, -⟩:=t0cells wr _ _ hc
     have HT:=Lib.hid hc
     have HZ:=Lib.hid hz
     clear hc f hz
     cases hd:G.ts.d with
     | true =>
       rw [hd] at c0
       have hd':=Lib.hid hd
       clear hd
       go_wp2_with fail
       refine (newd wr kB w.heap.size (n+4)).mono ?_
       rintro e w5 ⟨rfl,rfl⟩
       go_wp2_with fail
       go_ret
       obtain ⟨hs,hk1,hk2,hk3,o1,o2⟩:=H.out
       have sz:wr.heap.size=w.heap.size+1:=HZ.out
       have f9:Fr0 w (wr.alloc (.cells #[.func (Fn.func 62) #[] #[.pointer (some ⟨kB,0,none⟩)],.pointer (some ⟨w.heap.size,0,none⟩),.iface 178 (.pointer (some ⟨n+4,0,none⟩))] 161)):=(F2.out.shrink fun k q=>.inr (Nat.le_of_eq q.symm)).alloc _
       have hv:(emptyG (w.heap.size+1) w.heap.size (n+4) kB hk G.ts (emptySt n)).val=.iface 162 (.pointer (some ⟨wr.heap.size,0,none⟩)):=by
         rw [sz]
         show Value.iface (if G.ts.d then 162 else 164) _=_
         rw [hd'.out]
         rfl
       refine ⟨by rw [hv];rfl,GRep.empty ?_ (HT.out.alloc _) (hs.fr f9 (fun q=>q) (fun _ _ q=>q)) (hk1.fr f9 (fun q=>q)) hk2 hk3 o1 rfl (by omega) (by omega),f9⟩
       rw [hd'.out,← sz]
       exact Cells.new wr _ 161
     | false =>
       rw [hd] at c0
       have hd':=Lib.hid hd
       clear hd
       go_wp2_with fail
       refine (newu wr kB w.heap.size (n+4)).mono ?_
       rintro e w5 ⟨rfl,rfl⟩
       go_wp2_with fail
       go_ret
       obtain ⟨hs,hk1,hk2,hk3,o1,o2⟩:=H.out
       have sz:wr.heap.size=w.heap.size+1:=HZ.out
       have f9:Fr0 w (wr.alloc (.cells #[.func (Fn.func 62) #[] #[.pointer (some ⟨kB,0,none⟩)],.pointer (some ⟨w.heap.size,0,none⟩),.iface 178 (.pointer (some ⟨n+4,0,none⟩))] 163)):=(F2.out.shrink fun k q=>.inr (Nat.le_of_eq q.symm)).alloc _
       have hv:(emptyG (w.heap.size+1) w.heap.size (n+4) kB hk G.ts (emptySt n)).val=.iface 164 (.pointer (some ⟨wr.heap.size,0,none⟩)):=by
         rw [sz]
         show Value.iface (if G.ts.d then 162 else 164) _=_
         rw [hd'.out]
         rfl
       refine ⟨by rw [hv];rfl,GRep.empty ?_ (HT.out.alloc _) (hs.fr f9 (fun q=>q) (fun _ _ q=>q)) (hk1.fr f9 (fun q=>q)) hk2 hk3 o1 rfl (by omega) (by omega),f9⟩
       rw [hd'.out,← sz]
       exact Cells.new wr _ 163
theorem ta162 (v:Value) (w:World):(Instr.typeAssert (.iface 162 v) 83 162 false).run Tryz.prog w=.ok v w:=by
 simp [Instr.typeAssert,run_underlying Tryz.underlying162,Result.andThen]
theorem ta164 (v:Value) (w:World):(Instr.typeAssert (.iface 164 v) 83 164 false).run Tryz.prog w=.ok v w:=by
 simp [Instr.typeAssert,run_underlying Tryz.underlying164,Result.andThen]
theorem newg1 (w:World) (kB hk:Nat) (cs:Array Value) (ob xb:Nat) (G:GS) (h:GRep w G) (hx:w.cell? ⟨xb,0,none⟩=some G.val) (hxl:xb < w.heap.size) (hcell:w.cell? ⟨ob,0,none⟩=some (fv73 xb)) (hob:ob < w.heap.size)
   (hk1:Cells w kB cs 37) (hk2:KC cs) (hk3:cs[6]? = some (.int .u8 hk)) :
   Calls Tryz.prog 61 #[.func (Fn.func 62) #[] #[.pointer (some ⟨kB,0,none⟩)],.slice (some ⟨ob,0,none⟩) 1 1] w fun e w'=>∃ H,e=.returned H.val∧Fresh w kB hk G.ts w' H:=by
 have A:=hid6 h hx hcell hk1 hk2 hk3
 clear h hx hcell hk1 hk2 hk3
 go_enter Tryz.func61,Tryz.ntmps61
 go_wp2_with fail
 refine (newstore w).mono ?_
 rintro e w1 ⟨rfl,hs,f1,z1⟩
 have N:=hid3 hs f1 z1
 clear hs f1 z1
 go_wp2_with fail
 refine (newws1 w1 kB hk w.heap.size cs ob xb G (A.out.1.fr N.out.2.1 (fun _ _ q=>q) (fun q=>q)) ((N.out.2.1.cell (p:=⟨xb,0,none⟩) hxl (fun q=>q)).trans A.out.2.1) (Nat.lt_of_lt_of_le hxl N.out.2.1.size) ((N.out.2.1.cell (p:=⟨ob,0,none⟩) hob (fun q=>q)).trans A.out.2.2.1) (Nat.lt_of_lt_of_le hob N.out.2.1.size) N.out.1 (A.out.2.2.2.1.fr N.out.2.1 (fun q=>q)) A.out.2.2.2.2.1 A.out.2.2.2.2.2 A.out.2.2.2.1.lt N.out.2.2).mono ?_
 rintro e w2 ⟨rfl,r2,f2⟩
 have R:=hid2 r2 f2
 clear r2 f2
 go_wp2_with fail
 go_ret
 refine ⟨_,rfl,R.out.1,rfl,rfl,rfl,rfl,rfl,rfl,rfl,rfl,rfl,?_,N.out.2.1.trans0 R.out.2⟩
 have z:=N.out.2.2
 intro b hb
 simp only [GS.own,emptyG,St1.own,emptySt,List.map_nil,List.append_nil,List.mem_cons,List.not_mem_nil,or_false] at hb
 rcases hb with rfl|rfl|rfl|rfl|rfl|rfl|rfl <;> omega
theorem newlike (w:World) (G:GS) (h:GRep w G) :
   Calls Tryz.prog 50 #[G.val] w fun e w'=>∃ H,e=.returned H.val∧Fresh w G.kB G.hk G.ts w' H:=by
 have HG:=Lib.hid h
 have HGR:=Lib.hid (show ∀ w',Fr0 w w'→GRep w' G from fun w' f=>h.fr f (fun _ _ q=>q) (fun q=>q))
 obtain ⟨⟨g0,g1,g2⟩,⟨r0,r1,r2,r3,r4⟩,l0,l1,l2⟩:=h.facts
 obtain ⟨cs,hkc,hkk,hk6⟩:=h.k
 have HK:=hid3 hkc hkk hk6
 have mA3:=mdTraits
 have mA4:=muTraits
 have mT1:=ta162
 have mT2:=ta164
 clear h hkc hkk hk6
 have key:∀ v,v=G.val→Calls Tryz.prog 50 #[v] w fun e w'=>∃ H,e=.returned H.val∧Fresh w G.kB G.hk G.ts w' H:=by
   intro v hv
   have HV:=Lib.hid hv
   unfold GS.val at hv
   cases hd:G.dir with
   | true =>
     rw [hd] at hv r0
     subst hv
     go_enter Tryz.func50,Tryz.ntmps50
     go_wp2_with (first
       | (go_at_call 186;go_must (refine (dtraits _ G (HGR.out _ (by ((repeat' with_reducible first|assumption|exact frR|apply frD|apply frN|apply frA|apply frM|apply frC);all_goals (simp;try omega))))).mono ?_);rintro e2 w8 ⟨rfl,h8⟩;subst h8))
     have FX:=Lib.hid (show Fr0 w ((w.alloc (.cells #[.iface 162 (.pointer (some ⟨G.gB,0,none⟩))] 83)).alloc (.cells #[.func (Fn.func 73) #[] #[.pointer (some ⟨w.heap.size,0,none⟩)]] 119)) by ((repeat' with_reducible first|assumption|exact frR|apply frD|apply frN|apply frA|apply frM|apply frC);all_goals (simp;try omega)))
     have X1:=Lib.hid ((Cells.new w #[.iface 162 (.pointer (some ⟨G.gB,0,none⟩))] 83).alloc (.cells #[.func (Fn.func 73) #[] #[.pointer (some ⟨w.heap.size,0,none⟩)]] 119))
     have X2:=Lib.hid (Cells.new (w.alloc (.cells #[.iface 162 (.pointer (some ⟨G.gB,0,none⟩))] 83)) #[.func (Fn.func 73) #[] #[.pointer (some ⟨w.heap.size,0,none⟩)]] 119)
     refine (newg1 _ G.kB G.hk cs (w.heap.size+1) w.heap.size G (HGR.out _ FX.out) (by rw [← HV.out];exact X1.out.cell 0 _ rfl) X1.out.lt (by have:=X2.out.cell 0 _ rfl;rw [World.size_alloc] at this;exact this) (by simp) (HK.out.1.fr FX.out (fun q=>q)) HK.out.2.1 HK.out.2.2).mono ?_
     rintro e w9 ⟨H,rfl,FH⟩
     have FF:=Lib.hid FH
     clear FH
     go_wp2_with fail
     go_ret
     have q:=FF.out
     exact ⟨H,rfl,q.rep,q.pts,q.lks,q.kb,q.hk,q.dir,q.ac,q.we,q.ro,q.pr,fun b hb=>by have h1:=q.new b hb;simp at h1;omega,FX.out.trans0 q.fr⟩
   | false =>
     rw [hd] at hv r0
     subst hv
     go_enter Tryz.func50,Tryz.ntmps50
     go_wp2_with (first
       | (go_at_call 211;go_must (refine (utraits _ G (HGR.out _ (by ((repeat' with_reducible first|assumption|exact frR|apply frD|apply frN|apply frA|apply frM|apply frC);all_goals (simp;try omega))))).mono ?_);rintro e2 w8 ⟨rfl,h8⟩;subst h8))
     have FX:=Lib.hid (show Fr0 w ((w.alloc (.cells #[.iface 164 (.pointer (some ⟨G.gB,0,none⟩))] 83)).alloc (.cells #[.func (Fn.func 73) #[] #[.pointer (some ⟨w.heap.size,0,none⟩)]] 119)) by ((repeat' with_reducible first|assumption|exact frR|apply frD|apply frN|apply frA|apply frM|apply frC);all_goals (simp;try omega)))
     have X1:=Lib.hid ((Cells.new w #[.iface 164 (.pointer (some ⟨G.gB,0,none⟩))] 83).alloc (.cells #[.func (Fn.func 73) #[] #[.pointer (some ⟨w.heap.size,0,none⟩)]] 119))
     have X2:=Lib.hid (Cells.new (w.alloc (.cells #[.iface 164 (.pointer (some ⟨G.gB,0,none⟩))] 83)) #[.func (Fn.func 73) #[] #[.pointer (some ⟨w.heap.size,0,none⟩)]] 119)
     refine (newg1 _ G.kB G.hk cs (w.heap.size+1) w.heap.size G (HGR.out _ FX.out) (by rw [← HV.out];exact X1.out.cell 0 _ rfl) X1.out.lt (by have:=X2.out.cell 0 _ rfl;rw [World.size_alloc] at this;exact this) (by simp) (HK.out.1.fr FX.out (fun q=>q)) HK.out.2.1 HK.out.2.2).mono ?_
     rintro e w9 ⟨H,rfl,FH⟩
     have FF:=Lib.hid FH
     clear FH
     go_wp2_with fail
     go_ret
     have q:=FF.out
     exact ⟨H,rfl,q.rep,q.pts,q.lks,q.kb,q.hk,q.dir,q.ac,q.we,q.ro,q.pr,fun b hb=>by have h1:=q.new b hb;simp at h1;omega,FX.out.trans0 q.fr⟩
 exact key _ rfl
end Go.Proofs.YtbafaadmlpamiaaGreatDoor
