import Derived.Test.YtbafaadmlpamiaaGreatDoorA4
set_option maxRecDepth 100000
set_option maxHeartbeats 1000000
namespace Go.Proofs.YtbafaadmlpamiaaGreatDoor
open Go Go.Hy Go.RowKit
abbrev eBox (a b:ByteArray) (mb:Nat) (wt:Int):Obj:=.cells #[.string a,.string b,.map (some mb),.int .i64 wt,.nilIface] 144
theorem nohit_true {l:Lk} {x y:ByteArray}:l.hit true x y=decide (x=l.a∧y=l.b):=by
 unfold Lk.hit
 simp [eq_comm]
theorem dadde (w:World) (G:GS) (h:GRep w G) (hd:G.dir=true) (a b:ByteArray) (mb:Nat) (wt:Int) (es:List (ByteArray × ByteArray)) (hm:SM w mb (ats es)) (hfresh:mb∉G.own) (hk:mb≠G.kB)
   (hl:findL G.dir G.lks a b=none) (hpa:∃ p∈G.pts,p.h=a) (hpb:∃ p∈G.pts,p.h=b) :
   Calls Tryz.prog 192 #[.pointer (some ⟨G.gB,0,none⟩),.string a,.string b,ev a b mb wt] w fun e w'=>e=.returned .nilIface ∧
     Fr (· ∈ G.own) w w'∧∃ c',GRep w' { G with c:=c',lks:=G.lks ++ [⟨a,b,wt,mb,es⟩] }∧∀ x∈c'.own,x∈G.c.own∨w.heap.size≤x:=by
 have f0:Fr0 w (w.alloc (eBox a b mb wt)).drew:=by ((repeat' with_reducible first|assumption|exact frR|apply frD|apply frN|apply frA|apply frM|apply frC);all_goals (simp;try omega))
 have h1:=h.fr f0 (fun _ _ q=>q) (fun q=>q)
 have HS:=Lib.hid (adde (w.alloc (eBox a b mb wt)).drew G.sB G.c h1.s a b a b mb wt)
 have F0:=Lib.hid f0
 have H1:=hid7 h1 hm hfresh hk hl hpa hpb
 have g2:=h.facts.1.2.2
 have l0:=h.facts.2.2.1
 have mA:=mAddEdge
 clear h h1 hm f0 hl hpa hpb hfresh hk
 go_enter Tryz.func192,Tryz.ntmps192
 go_wp2_with fail
 (refine region_tail 7 (by kernel_rfl) (by kernel_rfl) ?_;simp only [List.take_succ_cons,List.take_zero,List.drop_succ_cons,List.drop_zero];(repeat still_step);refine wpStill_nil ?_)
 go_wp2_with fail
 refine HS.out.mono ?_
 rintro e w5 ⟨rfl,r5⟩
 have R:=Lib.hid r5
 clear r5
 go_wp2_with fail
 go_ret
 obtain ⟨h1,hm,hfresh,hk,hl,hpa,hpb⟩:=H1.out
 obtain ⟨⟨c',q1,q2,q3,q4,q5,q6⟩,q7⟩:=R.out
 refine ⟨rfl,((F0.out.mono fun _ q=>q.elim).trans q7 fun k hk=>.inl ?_),c',GRep.addL h1 q1 q2 q3 (fun b hb=>q4 b hb) q7 ⟨a,b,wt,mb,es⟩ (hm.fr F0.out (fun q=>q)) hfresh hk hl hpa hpb (fun q=>by rw [hd] at q;cases q) ?_ ?_,fun x hx=>(q4 x hx).imp id fun r=>Nat.le_trans F0.out.size r⟩
 · simp only [GS.own,List.mem_cons,List.mem_append]
   exact .inr (.inr (.inr (.inl hk)))
 · intro x y
   rw [q5,hd,nohit_true]
   simp only [decide_eq_true_eq]
   by_cases e:x=a∧y=b
   · rw [if_pos e,if_pos e,e.1,e.2]
   · rw [if_neg e,if_neg e]
 · intro x y
   rw [q6,hd,nohit_true]
   simp only [decide_eq_true_eq]
   by_cases e:x=a∧y=b
   · rw [if_pos e,if_pos e,e.1,e.2]
   · rw [if_neg e,if_neg e]
theorem hit_u {l:Lk} {x y:ByteArray}:l.hit false x y=decide ((x=l.b∧y=l.a)∨(x=l.a∧y=l.b)):=by
 unfold Lk.hit
 rw [Bool.eq_iff_iff]
 simp
 constructor
 · rintro (⟨p,q⟩|⟨p,q⟩)
   · exact .inr ⟨p.symm,q.symm⟩
   · exact .inl ⟨q.symm,p.symm⟩
 · rintro (⟨p,q⟩|⟨p,q⟩)
   · exact .inr ⟨q.symm,p.symm⟩
   · exact .inl ⟨p.symm,q.symm⟩
theorem uadde (w:World) (G:GS) (h:GRep w G) (hd:G.dir=false) (a b:ByteArray) (mb:Nat) (wt:Int) (es:List (ByteArray × ByteArray)) (hm:SM w mb (ats es)) (hfresh:mb∉G.own) (hk:mb≠G.kB) (hab:a≠b)
   (hl:findL G.dir G.lks a b=none) (hpa:∃ p∈G.pts,p.h=a) (hpb:∃ p∈G.pts,p.h=b) :
   Calls Tryz.prog 215 #[.pointer (some ⟨G.gB,0,none⟩),.string a,.string b,ev a b mb wt] w fun e w'=>e=.returned .nilIface ∧
     Fr (· ∈ G.own) w w'∧∃ c',GRep w' { G with c:=c',lks:=G.lks ++ [⟨a,b,wt,mb,es⟩] }∧∀ x∈c'.own,x∈G.c.own∨w.heap.size≤x:=by
 have f0:Fr0 w (w.alloc (eBox a b mb wt)).drew:=by ((repeat' with_reducible first|assumption|exact frR|apply frD|apply frN|apply frA|apply frM|apply frC);all_goals (simp;try omega))
 have h1:=h.fr f0 (fun _ _ q=>q) (fun q=>q)
 have HS:=Lib.hid (adde (w.alloc (eBox a b mb wt)).drew G.sB G.c h1.s a b a b mb wt)
 have F0:=Lib.hid f0
 have H1:=hid7 h1 hm hfresh hk hl hpa hpb
 have nB:w.heap.size∉G.c.own:=fun q=>by have:=h.s.lt _ q;omega
 have NB:=Lib.hid nB
 have nG:G.gB∉G.c.own:=by
   have:=h.nd
   simp only [GS.own,List.nodup_cons,List.mem_cons,List.mem_append,not_or] at this
   exact this.1.2.2.1
 have NG:=Lib.hid nG
 have nS:=Lib.hid h.s.ne
 have g2:=h.facts.1.2.2
 have l0:=h.facts.2.2.1
 have gc:=Lib.hid h.g
 have mA:=mAddEdge
 clear h h1 hm f0 hl hpa hpb hfresh hk nB nG
 go_enter Tryz.func215,Tryz.ntmps215
 go_wp2_with fail
 (refine region_tail 7 (by kernel_rfl) (by kernel_rfl) ?_;simp only [List.take_succ_cons,List.take_zero,List.drop_succ_cons,List.drop_zero];(repeat still_step);refine wpStill_nil ?_)
 go_wp2_with fail
 refine HS.out.mono ?_
 rintro e w5 ⟨rfl,r5⟩
 have R:=Lib.hid r5
 clear r5
 have f5:Fr (· ∈ G.c.own) (w.alloc (eBox a b mb wt)).drew w5:=R.out.2
 have bx:Cells w5 w.heap.size #[.string a,.string b,.map (some mb),.int .i64 wt,.nilIface] 144:=((Cells.new w #[.string a,.string b,.map (some mb),.int .i64 wt,.nilIface] 144).fr ((Fr.refl (fun _=>False) _).drew) (fun q=>q)).fr f5 NB.out
 have t0:=bx.lt
 have t1:=bx.cell 0 _ rfl
 have t2:=bx.cell 1 _ rfl
 have t3:=bx.cell 2 _ rfl
 have t4:=bx.cell 3 _ rfl
 have t5:=bx.cell 4 _ rfl
 have gx:=(gc.out.fr F0.out (fun q=>q)).fr f5 NG.out
 have u0:=gx.lt
 have u1:=gx.cell 2 _ rfl
 have F5:=Lib.hid f5
 clear bx gx f5 g2 l0
 go_wp2_with fail
 (refine region_tail 7 (by kernel_rfl) (by kernel_rfl) ?_;simp only [List.take_succ_cons,List.take_zero,List.drop_succ_cons,List.drop_zero];(repeat still_step);refine wpStill_nil ?_)
 go_wp2_with fail
 obtain ⟨⟨c1,q1,q2,q3,q4,q5,q6⟩,q7⟩:=R.out
 have f6:Fr0 w5 (w5.alloc (eBox b a mb wt)).drew:=by ((repeat' with_reducible first|assumption|exact frR|apply frD|apply frN|apply frA|apply frM|apply frC);all_goals (simp;try omega))
 refine (adde (w5.alloc (eBox b a mb wt)).drew G.sB c1 (q1.fr f6 (fun q=>q) (fun _ _ q=>q)) b a b a mb wt).mono ?_
 rintro e w7 ⟨rfl,r7⟩
 have R7:=Lib.hid r7
 have F6:=Lib.hid f6
 have C:=hid7 q1 q2 q3 q4 q5 q6 q7
 clear r7 f6 q1 q2 q3 q4 q5 q6 q7
 go_wp2_with fail
 go_ret
 obtain ⟨h1,hm,hfresh,hk,hl,hpa,hpb⟩:=H1.out
 obtain ⟨q1,q2,q3,q4,q5,q6,q7⟩:=C.out
 obtain ⟨⟨c2,r1,r2,r3,r4,r5,r6⟩,r7⟩:=R7.out
 have s1:=q7.size
 have s2:=F6.out.size
 have own2:∀ x∈c2.own,x∈G.c.own∨(w.alloc (eBox a b mb wt)).drew.heap.size≤x:=fun x hx=>by
   rcases r4 x hx with q|q
   · exact q4 x q
   · exact .inr (by omega)
 have fr:Fr (· ∈ G.c.own) (w.alloc (eBox a b mb wt)).drew w7:=(q7.trans0 F6.out).trans r7 fun k hk=>q4 k hk
 refine ⟨rfl,((F0.out.mono fun _ q=>q.elim).trans fr fun k hk=>.inl ?_),c2,GRep.addL h1 r1 (r2.trans q2) (r3.trans q3) own2 fr ⟨a,b,wt,mb,es⟩ (hm.fr F0.out (fun q=>q)) hfresh hk hl hpa hpb (fun _=>hab) ?_ ?_,fun x hx=>(own2 x hx).imp id fun r=>Nat.le_trans F0.out.size r⟩
 · simp only [GS.own,List.mem_cons,List.mem_append]
   exact .inr (.inr (.inr (.inl hk)))
 · intro x y
   rw [r5,q5,hd,hit_u]
   simp only [decide_eq_true_eq]
   by_cases e1:x=b∧y=a
   · rw [if_pos e1,if_pos (.inl e1),e1.1,e1.2]
   · rw [if_neg e1]
     by_cases e2:x=a∧y=b
     · rw [if_pos e2,if_pos (.inr e2),e2.1,e2.2]
     · rw [if_neg e2,if_neg (by rintro (q|q);exact e1 q;exact e2 q)]
 · intro x y
   rw [r6,q6,hd,hit_u]
   simp only [decide_eq_true_eq]
   by_cases e1:x=b∧y=a
   · rw [if_pos e1,if_pos (.inl e1),e1.1,e1.2]
   · rw [if_neg e1]
     by_cases e2:x=a∧y=b
     · rw [if_pos e2,if_pos (.inr e2),e2.1,e2.2]
     · rw [if_neg e2,if_neg (by rintro (q|q);exact e1 q;exact e2 q)]
structure AW (w:World) (G:GS) (w':World):Prop where
 rep:GRep w' G
 s:w'.cell? ⟨G.gB,2,none⟩=some (.iface 178 (.pointer (some ⟨G.sB,0,none⟩)))
 l:G.gB < w'.heap.size
 t:w'.cell? ⟨G.gB,1,none⟩=some (.pointer (some ⟨G.tB,0,none⟩))
 tl:G.tB < w'.heap.size
 pr:w'.cell? ⟨G.tB,4,none⟩=some (.bool G.pr)
theorem AW.mk' {w:World} {G:GS} (h:GRep w G) {w':World} (f:Fr0 w w'):AW w G w':=by
 have h1:=h.fr f (fun _ _ q=>q) (fun q=>q)
 have h2:=h1.facts
 exact ⟨h1,h2.1.2.2,h2.2.2.1,h2.1.2.1,h2.2.2.2.1,h2.2.1.2.2.2.2⟩
theorem findP_mem {pts:List Pt} {k:ByteArray} {p:Pt} (h:findP pts k=some p):p∈pts∧p.h=k :=
 ⟨List.mem_of_find?_eq_some h,by have:=List.find?_some h;simpa using this⟩
theorem zzw (w:World) (b:Addr):Calls Tryz.prog 190 #[er b] w fun e w'=>e=.returned (wr1 b)∧w'=w:=by
 go_enter Tryz.func190,Tryz.ntmps190
 go_wp2
 go_ret
 exact ⟨rfl,rfl⟩
theorem dadd_a (w:World) (G:GS) (h:GRep w G) (B:Nat) (eb:Nat→Addr) (E:ErrsOk w B eb) (a b:ByteArray) (ov:Value) (hp:findP G.pts a=none) :
   Calls Tryz.prog 173 #[.pointer (some ⟨G.gB,0,none⟩),.string a,.string b,ov] w fun e w'=>e=.returned (wr1 (eb 1))∧Fr0 w w':=by
 have A0:=Lib.hid (show ∀ w',Fr0 w w'→AW w G w' from fun w' f=>AW.mk' h f)
 have E0:=Lib.hid (show ∀ w',Fr0 w w'→ErrsOk w' B eb from fun w' f=>E.fr f (fun _ q=>q.elim))
 obtain ⟨-,s0,s1,s2,s3,s4⟩:=A0.out w (Fr.refl _ _)
 have mV:=mVertex
 have hmm:=@run_makeMap Tryz.prog
 clear h E
 go_enter Tryz.func173,Tryz.ntmps173
 go_wp2_with fail
 refine (svert_no (A0.out _ (Fr.refl _ _)).rep (E0.out _ (Fr.refl _ _)) hp).mono ?_
 rintro e w1 ⟨rfl,f1⟩
 go_wp2_with fail
 refine (zzw _ _).mono ?_
 rintro e w2 ⟨rfl,rfl⟩
 go_wp2_with fail
 go_ret
 exact ⟨rfl,by ((repeat' with_reducible first|assumption|exact frR|apply frD|apply frN|apply frA|apply frM|apply frC);all_goals (simp;try omega))⟩
theorem dadd_b (w:World) (G:GS) (h:GRep w G) (B:Nat) (eb:Nat→Addr) (E:ErrsOk w B eb) (a b:ByteArray) (ov:Value) (p:Pt) (hp:findP G.pts a=some p) (hq:findP G.pts b=none) :
   Calls Tryz.prog 173 #[.pointer (some ⟨G.gB,0,none⟩),.string a,.string b,ov] w fun e w'=>e=.returned (wr1 (eb 1))∧Fr0 w w':=by
 have A0:=Lib.hid (show ∀ w',Fr0 w w'→AW w G w' from fun w' f=>AW.mk' h f)
 have E0:=Lib.hid (show ∀ w',Fr0 w w'→ErrsOk w' B eb from fun w' f=>E.fr f (fun _ q=>q.elim))
 obtain ⟨-,s0,s1,s2,s3,s4⟩:=A0.out w (Fr.refl _ _)
 have mV:=mVertex
 have hmm:=@run_makeMap Tryz.prog
 clear h E
 go_enter Tryz.func173,Tryz.ntmps173
 go_wp2_with fail
 refine (svert_yes (A0.out _ (Fr.refl _ _)).rep hp).mono ?_
 rintro e w1 ⟨rfl,f1⟩
 clear s0 s1 s2 s3 s4
 obtain ⟨-,s0,s1,s2,s3,s4⟩:=A0.out _ f1
 go_wp2_with fail
 refine (svert_no (A0.out _ (by ((repeat' with_reducible first|assumption|exact frR|apply frD|apply frN|apply frA|apply frM|apply frC);all_goals (simp;try omega)))).rep (E0.out _ (by ((repeat' with_reducible first|assumption|exact frR|apply frD|apply frN|apply frA|apply frM|apply frC);all_goals (simp;try omega)))) hq).mono ?_
 rintro e w2 ⟨rfl,h2⟩
 have f2:Fr0 w w2:=Fr.trans0 (by ((repeat' with_reducible first|assumption|exact frR|apply frD|apply frN|apply frA|apply frM|apply frC);all_goals (simp;try omega))) h2
 go_wp2_with fail
 refine (zzw _ _).mono ?_
 rintro e w3 ⟨rfl,rfl⟩
 go_wp2_with fail
 go_ret
 exact ⟨rfl,by ((repeat' with_reducible first|assumption|exact frR|apply frD|apply frN|apply frA|apply frM|apply frC);all_goals (simp;try omega))⟩
theorem dadd_old (w:World) (G:GS) (h:GRep w G) (B:Nat) (eb:Nat→Addr) (E:ErrsOk w B eb) (a b:ByteArray) (ov:Value) (p q:Pt) (hp:findP G.pts a=some p) (hq:findP G.pts b=some q) (l:Lk) (hl:findL G.dir G.lks a b=some l) :
   Calls Tryz.prog 173 #[.pointer (some ⟨G.gB,0,none⟩),.string a,.string b,ov] w fun e w'=>e=.returned (er (eb 3))∧Fr0 w w':=by
 have A0:=Lib.hid (show ∀ w',Fr0 w w'→AW w G w' from fun w' f=>AW.mk' h f)
 have E0:=Lib.hid (show ∀ w',Fr0 w w'→ErrsOk w' B eb from fun w' f=>E.fr f (fun _ q=>q.elim))
 obtain ⟨-,s0,s1,s2,s3,s4⟩:=A0.out w (Fr.refl _ _)
 have mV:=mVertex
 have hmm:=@run_makeMap Tryz.prog
 clear h E
 go_enter Tryz.func173,Tryz.ntmps173
 go_wp2_with fail
 refine (svert_yes (A0.out _ (Fr.refl _ _)).rep hp).mono ?_
 rintro e w1 ⟨rfl,f1⟩
 clear s0 s1 s2 s3 s4
 obtain ⟨-,s0,s1,s2,s3,s4⟩:=A0.out _ f1
 go_wp2_with fail
 refine (svert_yes (A0.out _ (by ((repeat' with_reducible first|assumption|exact frR|apply frD|apply frN|apply frA|apply frM|apply frC);all_goals (simp;try omega)))).rep hq).mono ?_
 rintro e w2 ⟨rfl,h2⟩
 have f2:Fr0 w w2:=Fr.trans0 (by ((repeat' with_reducible first|assumption|exact frR|apply frD|apply frN|apply frA|apply frM|apply frC);all_goals (simp;try omega))) h2
 clear s0 s1 s2 s3 s4
 obtain ⟨-,s0,s1,s2,s3,s4⟩:=A0.out _ f2
 go_wp2_with fail
 refine (dedge_yes _ G (A0.out _ (by ((repeat' with_reducible first|assumption|exact frR|apply frD|apply frN|apply frA|apply frM|apply frC);all_goals (simp;try omega)))).rep a b l p q hl hp hq).mono ?_
 rintro e w3 ⟨rfl,h3⟩
 have f3:Fr0 w w3:=Fr.trans0 (by ((repeat' with_reducible first|assumption|exact frR|apply frD|apply frN|apply frA|apply frM|apply frC);all_goals (simp;try omega))) h3
 have e4:=(E0.out _ f3).cell 4 (by decide)
 have e3:=(E0.out _ f3).cell 3 (by decide)
 have e6:4 < w3.heap.size:=by
   have h1:=(E0.out _ f3).six
   have h2:=(E0.out _ f3).size
   omega
 have e7:3 < w3.heap.size:=by omega
 go_wp2_with fail
 have hI:=is_ev (e:=.nil) (E0.out (w3.alloc (eBox p.v q.v l.at_ l.wt)) (by ((repeat' with_reducible first|assumption|exact frR|apply frD|apply frN|apply frA|apply frM|apply frC);all_goals (simp;try omega)))) (by simp [EV.ok]) 4 (by decide)
 have hh:EV.nil.has 4=false:=rfl
 rw [hh] at hI
 refine hI.mono ?_
 clear hI hh
 rintro e w4 ⟨rfl,h4⟩
 have f4:Fr0 w w4:=Fr.trans0 (by ((repeat' with_reducible first|assumption|exact frR|apply frD|apply frN|apply frA|apply frM|apply frC);all_goals (simp;try omega))) h4
 clear e3 e4 e6 e7
 have e4:=(E0.out _ f4).cell 4 (by decide)
 have e3:=(E0.out _ f4).cell 3 (by decide)
 have e6:4 < w4.heap.size:=by
   have h1:=(E0.out _ f4).six
   have h2:=(E0.out _ f4).size
   omega
 have e7:3 < w4.heap.size:=by omega
 go_wp2_with fail
 go_ret
 exact ⟨rfl,f4⟩
theorem uadd_a (w:World) (G:GS) (h:GRep w G) (B:Nat) (eb:Nat→Addr) (E:ErrsOk w B eb) (a b:ByteArray) (ov:Value) (hp:findP G.pts a=none) :
   Calls Tryz.prog 198 #[.pointer (some ⟨G.gB,0,none⟩),.string a,.string b,ov] w fun e w'=>e=.returned (wr1 (eb 1))∧Fr0 w w':=by
 have A0:=Lib.hid (show ∀ w',Fr0 w w'→AW w G w' from fun w' f=>AW.mk' h f)
 have E0:=Lib.hid (show ∀ w',Fr0 w w'→ErrsOk w' B eb from fun w' f=>E.fr f (fun _ q=>q.elim))
 obtain ⟨-,s0,s1,s2,s3,s4⟩:=A0.out w (Fr.refl _ _)
 have mV:=mVertex
 have hmm:=@run_makeMap Tryz.prog
 clear h E
 go_enter Tryz.func198,Tryz.ntmps198
 go_wp2_with fail
 refine (svert_no (A0.out _ (Fr.refl _ _)).rep (E0.out _ (Fr.refl _ _)) hp).mono ?_
 rintro e w1 ⟨rfl,f1⟩
 go_wp2_with fail
 refine (zzw _ _).mono ?_
 rintro e w2 ⟨rfl,rfl⟩
 go_wp2_with fail
 go_ret
 exact ⟨rfl,by ((repeat' with_reducible first|assumption|exact frR|apply frD|apply frN|apply frA|apply frM|apply frC);all_goals (simp;try omega))⟩
theorem uadd_b (w:World) (G:GS) (h:GRep w G) (B:Nat) (eb:Nat→Addr) (E:ErrsOk w B eb) (a b:ByteArray) (ov:Value) (p:Pt) (hp:findP G.pts a=some p) (hq:findP G.pts b=none) :
   Calls Tryz.prog 198 #[.pointer (some ⟨G.gB,0,none⟩),.string a,.string b,ov] w fun e w'=>e=.returned (wr1 (eb 1))∧Fr0 w w':=by
 have A0:=Lib.hid (show ∀ w',Fr0 w w'→AW w G w' from fun w' f=>AW.mk' h f)
 have E0:=Lib.hid (show ∀ w',Fr0 w w'→ErrsOk w' B eb from fun w' f=>E.fr f (fun _ q=>q.elim))
 obtain ⟨-,s0,s1,s2,s3,s4⟩:=A0.out w (Fr.refl _ _)
 have mV:=mVertex
 have hmm:=@run_makeMap Tryz.prog
 clear h E
 go_enter Tryz.func198,Tryz.ntmps198
 go_wp2_with fail
 refine (svert_yes (A0.out _ (Fr.refl _ _)).rep hp).mono ?_
 rintro e w1 ⟨rfl,f1⟩
 clear s0 s1 s2 s3 s4
 obtain ⟨-,s0,s1,s2,s3,s4⟩:=A0.out _ f1
 go_wp2_with fail
 refine (svert_no (A0.out _ (by ((repeat' with_reducible first|assumption|exact frR|apply frD|apply frN|apply frA|apply frM|apply frC);all_goals (simp;try omega)))).rep (E0.out _ (by ((repeat' with_reducible first|assumption|exact frR|apply frD|apply frN|apply frA|apply frM|apply frC);all_goals (simp;try omega)))) hq).mono ?_
 rintro e w2 ⟨rfl,h2⟩
 have f2:Fr0 w w2:=Fr.trans0 (by ((repeat' with_reducible first|assumption|exact frR|apply frD|apply frN|apply frA|apply frM|apply frC);all_goals (simp;try omega))) h2
 go_wp2_with fail
 refine (zzw _ _).mono ?_
 rintro e w3 ⟨rfl,rfl⟩
 go_wp2_with fail
 go_ret
 exact ⟨rfl,by ((repeat' with_reducible first|assumption|exact frR|apply frD|apply frN|apply frA|apply frM|apply frC);all_goals (simp;try omega))⟩
theorem uadd_old (w:World) (G:GS) (h:GRep w G) (B:Nat) (eb:Nat→Addr) (E:ErrsOk w B eb) (a b:ByteArray) (ov:Value) (p q:Pt) (hp:findP G.pts a=some p) (hq:findP G.pts b=some q) (l:Lk) (hl:findL G.dir G.lks a b=some l) :
   Calls Tryz.prog 198 #[.pointer (some ⟨G.gB,0,none⟩),.string a,.string b,ov] w fun e w'=>e=.returned (er (eb 3))∧Fr0 w w':=by
 have A0:=Lib.hid (show ∀ w',Fr0 w w'→AW w G w' from fun w' f=>AW.mk' h f)
 have E0:=Lib.hid (show ∀ w',Fr0 w w'→ErrsOk w' B eb from fun w' f=>E.fr f (fun _ q=>q.elim))
 obtain ⟨-,s0,s1,s2,s3,s4⟩:=A0.out w (Fr.refl _ _)
 have mV:=mVertex
 have hmm:=@run_makeMap Tryz.prog
 clear h E
 go_enter Tryz.func198,Tryz.ntmps198
 go_wp2_with fail
 refine (svert_yes (A0.out _ (Fr.refl _ _)).rep hp).mono ?_
 rintro e w1 ⟨rfl,f1⟩
 clear s0 s1 s2 s3 s4
 obtain ⟨-,s0,s1,s2,s3,s4⟩:=A0.out _ f1
 go_wp2_with fail
 refine (svert_yes (A0.out _ (by ((repeat' with_reducible first|assumption|exact frR|apply frD|apply frN|apply frA|apply frM|apply frC);all_goals (simp;try omega)))).rep hq).mono ?_
 rintro e w2 ⟨rfl,h2⟩
 have f2:Fr0 w w2:=Fr.trans0 (by ((repeat' with_reducible first|assumption|exact frR|apply frD|apply frN|apply frA|apply frM|apply frC);all_goals (simp;try omega))) h2
 clear s0 s1 s2 s3 s4
 obtain ⟨-,s0,s1,s2,s3,s4⟩:=A0.out _ f2
 go_wp2_with fail
 refine (uedge_yes _ G (A0.out _ (by ((repeat' with_reducible first|assumption|exact frR|apply frD|apply frN|apply frA|apply frM|apply frC);all_goals (simp;try omega)))).rep B eb (E0.out _ (by ((repeat' with_reducible first|assumption|exact frR|apply frD|apply frN|apply frA|apply frM|apply frC);all_goals (simp;try omega)))) a b l p q hl hp hq).mono ?_
 rintro e w3 ⟨rfl,h3⟩
 have f3:Fr0 w w3:=Fr.trans0 (by ((repeat' with_reducible first|assumption|exact frR|apply frD|apply frN|apply frA|apply frM|apply frC);all_goals (simp;try omega))) h3
 have e4:=(E0.out _ f3).cell 4 (by decide)
 have e3:=(E0.out _ f3).cell 3 (by decide)
 have e6:4 < w3.heap.size:=by
   have h1:=(E0.out _ f3).six
   have h2:=(E0.out _ f3).size
   omega
 have e7:3 < w3.heap.size:=by omega
 go_wp2_with fail
 have hI:=is_ev (e:=.nil) (E0.out (w3.alloc (eBox p.v q.v l.at_ l.wt)) (by ((repeat' with_reducible first|assumption|exact frR|apply frD|apply frN|apply frA|apply frM|apply frC);all_goals (simp;try omega)))) (by simp [EV.ok]) 4 (by decide)
 have hh:EV.nil.has 4=false:=rfl
 rw [hh] at hI
 refine hI.mono ?_
 clear hI hh
 rintro e w4 ⟨rfl,h4⟩
 have f4:Fr0 w w4:=Fr.trans0 (by ((repeat' with_reducible first|assumption|exact frR|apply frD|apply frN|apply frA|apply frM|apply frC);all_goals (simp;try omega))) h4
 clear e3 e4 e6 e7
 have e4:=(E0.out _ f4).cell 4 (by decide)
 have e3:=(E0.out _ f4).cell 3 (by decide)
 have e6:4 < w4.heap.size:=by
   have h1:=(E0.out _ f4).six
   have h2:=(E0.out _ f4).size
   omega
 have e7:3 < w4.heap.size:=by omega
 go_wp2_with fail
 go_ret
 exact ⟨rfl,f4⟩
def EL (w0:World) (pb mb:Nat) (a b:ByteArray) (s0:PS) (os:List Opt) (k:Nat) (c:Value) (wr:World):Prop :=
 ∃ i,k+i=os.length∧c=.int .i64 i∧Cells wr pb #[.string a,.string b,.map (some mb),.int .i64 ((os.take i).foldl Opt.app s0).1,.nilIface] 144∧SM wr mb (ats ((os.take i).foldl Opt.app s0).2)∧Fr (fun k=>k=pb∨k=mb) w0 wr
theorem EL.wt {w0 wr w3:World} {pb mb:Nat} {a b:ByteArray} {s0:PS} {os:List Opt} {k i:Nat} {n:Int} {kb:Nat} (hk:k+i=os.length) (hi:i < os.length) (ho:os[i]? = some (.wt n kb)) (hne:pb≠mb)
   (hm:SM wr mb (ats ((os.take i).foldl Opt.app s0).2)) (f:Fr (fun k=>k=pb∨k=mb) w0 wr) (hc:Cells w3 pb #[.string a,.string b,.map (some mb),.int .i64 n,.nilIface] 144) (f3:Fr (· = pb) wr w3) :
   k - 1 < k∧EL w0 pb mb a b s0 os (k - 1) (.int .i64 ((i:Int)+1)) w3:=by
 have hs:=take_app os i _ ho s0
 refine ⟨by omega,i+1,by omega,by simp,?_,?_,f.trans f3 fun k q=>.inl (.inl q)⟩
 · rw [hs];exact hc
 · rw [hs];exact hm.fr f3 (fun q=>hne q.symm)
theorem EL.at_ {w0 wr w3:World} {pb mb:Nat} {a b:ByteArray} {s0:PS} {os:List Opt} {k i:Nat} {x y:ByteArray} {bv bk:Nat} (hk:k+i=os.length) (hi:i < os.length) (ho:os[i]? = some (.at_ x y bv bk)) (hne:pb≠mb)
   (hc:Cells wr pb #[.string a,.string b,.map (some mb),.int .i64 ((os.take i).foldl Opt.app s0).1,.nilIface] 144) (f:Fr (fun k=>k=pb∨k=mb) w0 wr)
   (hm:SM w3 mb (ats (putA ((os.take i).foldl Opt.app s0).2 x y))) (f3:Fr (· = mb) wr w3) :
   k - 1 < k∧EL w0 pb mb a b s0 os (k - 1) (.int .i64 ((i:Int)+1)) w3:=by
 have hs:=take_app os i _ ho s0
 refine ⟨by omega,i+1,by omega,by simp,?_,?_,f.trans f3 fun k q=>.inl (.inr q)⟩
 · rw [hs];exact hc.fr f3 hne
 · rw [hs];exact hm
theorem dadd_new (w:World) (G:GS) (h:GRep w G) (hd:G.dir=true) (B:Nat) (eb:Nat→Addr) (E:ErrsOk w B eb) (a b:ByteArray) (ov:Value) (os:List Opt) (ho:Opts w ov os Opt.eV) (p q:Pt) (hp:findP G.pts a=some p) (hq:findP G.pts b=some q) (hl:findL G.dir G.lks a b=none) (hpr:G.pr=false) :
   Calls Tryz.prog 173 #[.pointer (some ⟨G.gB,0,none⟩),.string a,.string b,ov] w fun e w'=>e=.returned .nilIface∧∃ c' mb,GStep w G w' { G with c:=c',lks:=G.lks ++ [⟨a,b,(apps os).1,mb,(apps os).2⟩] }:=by
 have A0:=Lib.hid (show ∀ w',Fr0 w w'→AW w G w' from fun w' f=>AW.mk' h f)
 have E0:=Lib.hid (show ∀ w',Fr0 w w'→ErrsOk w' B eb from fun w' f=>E.fr f (fun _ q=>q.elim))
 obtain ⟨-,s0,s1,s2,s3,s4⟩:=A0.out w (Fr.refl _ _)
 have mV:=mVertex
 have hmm:=@run_makeMap Tryz.prog
 obtain ⟨ob,cap,rfl,hcap,hcell,hok,hlen⟩:=ho
 have O:=hid4 hcell hok hcap hlen
 have HG:=Lib.hid h
 clear h E hcell hok hcap hlen
 rw [hpr] at s4
 have HPR:=Lib.hid hpr
 clear hpr
 go_enter Tryz.func173,Tryz.ntmps173
 go_wp2_with fail
 refine (svert_yes (A0.out _ (Fr.refl _ _)).rep hp).mono ?_
 rintro e w1 ⟨rfl,f1⟩
 clear s0 s1 s2 s3 s4
 obtain ⟨-,s0,s1,s2,s3,s4⟩:=A0.out _ f1
 rw [HPR.out] at s4
 go_wp2_with fail
 refine (svert_yes (A0.out _ (by ((repeat' with_reducible first|assumption|exact frR|apply frD|apply frN|apply frA|apply frM|apply frC);all_goals (simp;try omega)))).rep hq).mono ?_
 rintro e w2 ⟨rfl,h2⟩
 have f2:Fr0 w w2:=Fr.trans0 (by ((repeat' with_reducible first|assumption|exact frR|apply frD|apply frN|apply frA|apply frM|apply frC);all_goals (simp;try omega))) h2
 clear s0 s1 s2 s3 s4
 obtain ⟨-,s0,s1,s2,s3,s4⟩:=A0.out _ f2
 rw [HPR.out] at s4
 go_wp2_with fail
 refine (dedge_no _ G (A0.out _ (by ((repeat' with_reducible first|assumption|exact frR|apply frD|apply frN|apply frA|apply frM|apply frC);all_goals (simp;try omega)))).rep B eb (E0.out _ (by ((repeat' with_reducible first|assumption|exact frR|apply frD|apply frN|apply frA|apply frM|apply frC);all_goals (simp;try omega)))) a b hl).mono ?_
 rintro e w3 ⟨rfl,h3⟩
 have f3:Fr0 w w3:=Fr.trans0 (by ((repeat' with_reducible first|assumption|exact frR|apply frD|apply frN|apply frA|apply frM|apply frC);all_goals (simp;try omega))) h3
 have e4:=(E0.out _ f3).cell 4 (by decide)
 have e6:4 < w3.heap.size:=by
   have h1:=(E0.out _ f3).six
   have h2:=(E0.out _ f3).size
   omega
 go_wp2_with fail
 have hI:=is_ev (e:=.e 4) (E0.out (w3.alloc zBox) (by ((repeat' with_reducible first|assumption|exact frR|apply frD|apply frN|apply frA|apply frM|apply frC);all_goals (simp;try omega)))) (by simp [EV.ok]) 4 (by decide)
 have hh:(EV.e 4).has 4=true:=rfl
 rw [hh] at hI
 refine hI.mono ?_
 clear hI hh
 rintro e wE ⟨rfl,h4⟩
 have f4:Fr0 w wE:=Fr.trans0 (by ((repeat' with_reducible first|assumption|exact frR|apply frD|apply frN|apply frA|apply frM|apply frC);all_goals (simp;try omega))) h4
 clear s0 s1 s2 s3 s4 e4 e6
 obtain ⟨-,s0,s1,s2,s3,s4⟩:=A0.out _ f4
 rw [HPR.out] at s4
 have F4:=Lib.hid f4
 clear f1 f2 f3 h2 h3 h4 f4
 go_wp2_with fail
 try go_frame
 have LT:=Lib.hid (show ob < w.heap.size∨os = [] from by
   cases os with
   | nil=>exact .inr rfl
   | cons o os=>exact .inl (World.block_lt_of_cell? w _ (O.out.1 0 o rfl)))
 go_loopg [86] os.length (fun k c wr=>EL ((wE.alloc (Obj.map #[] 0)).alloc (eBox a b wE.heap.size 0)) (wE.heap.size+1) wE.heap.size a b (0,[]) os k c wr)
 case atStart =>
   refine ⟨0,rfl,rfl,?_,?_,Fr.refl _ _⟩
   · have:=Cells.new (wE.alloc (Obj.map #[] 0)) #[.string a,.string b,.map (some wE.heap.size),.int .i64 0,.nilIface] 144
     simpa using this
   · exact (SM.fresh wE).alloc _
 case round =>
   obtain ⟨i,hk,rfl,hc,hm,f⟩:=hrel
   have A:=hid4 hk hc hm f
   clear hk hc hm f
   by_cases hi:i < os.length
   · have hsm:os.length≤1000000:=O.out.2.2.2
     have F2:=Lib.hid (show Fr (fun k=>k=wE.heap.size+1∨k=wE.heap.size) w wr from (((F4.out.alloc _).alloc _).mono (fun k q=>q.elim)).trans A.out.2.2.2 fun k q=>.inl q)
     have hcell:=(F2.out.cell (p:=⟨ob,i,none⟩) (by simp only;rcases LT.out with q|q;exact q;rw [q] at hi;simp at hi) (by simp only;have:=F4.out.size;rcases LT.out with q|q;omega;rw [q] at hi;simp at hi)).trans (O.out.1 i os[i] (List.getElem?_eq_getElem hi))
     have hok:=Opt.ok_fr (O.out.2.1 os[i] (List.getElem_mem hi)) F2.out (fun k hk q=>by have:=F4.out.size;omega)
     have hg:=List.getElem?_eq_getElem hi
     generalize os[i]=o at hcell hok hg
     cases o with
     | wt n kb =>
       have HS:=Lib.hid hg
       change wr.cell? ⟨ob,i,none⟩=some (.func (Fn.func 85) #[] #[.pointer (some ⟨kb,0,none⟩)]) at hcell
       have hok':=Lib.hid (show wr.cell? ⟨kb,0,none⟩=some (.int .i64 n) from hok)
       clear hok hg
       go_wp2_with (first
         | (go_at_call 85;refine (ew1 wr _ _ _ _ _ n kb A.out.2.1 hok'.out).mono ?_;rintro e w3 ⟨rfl,hc',f'⟩;have D:=hid2 hc' f';clear hc' f'))
       have R:=EL.wt A.out.1 hi HS.out (by omega) A.out.2.2.1 A.out.2.2.2 D.out.1 D.out.2
       go_roundg (gk - 1)
       case measure=>exact R.1
       case rel=>exact R.2
     | at_ k v bv bk =>
       have HS:=Lib.hid hg
       change wr.cell? ⟨ob,i,none⟩=some (.func (Fn.func 87) #[] #[.pointer (some ⟨bv,0,none⟩),.pointer (some ⟨bk,0,none⟩)]) at hcell
       have hok':=Lib.hid (show wr.cell? ⟨bv,0,none⟩=some (.string v)∧wr.cell? ⟨bk,0,none⟩=some (.string k) from hok)
       clear hok hg
       go_wp2_with (first
         | (go_at_call 87;refine (ea1 wr _ _ _ _ _ _ k v bv bk A.out.2.1 A.out.2.2.1 hok'.out.1 hok'.out.2).mono ?_;rintro e w3 ⟨rfl,hm',f'⟩;have D:=hid2 hm' f';clear hm' f'))
       have R:=EL.at_ A.out.1 hi HS.out (by omega) A.out.2.1 A.out.2.2.2 D.out.1 D.out.2
       go_roundg (gk - 1)
       case measure=>exact R.1
       case rel=>exact R.2
   · have hi':i=os.length:=by have:=A.out.1;omega
     subst hi'
     have F2:=Lib.hid (show Fr (fun k=>k=wE.heap.size+1∨k=wE.heap.size) w wr from (((F4.out.alloc _).alloc _).mono (fun k q=>q.elim)).trans A.out.2.2.2 fun k q=>.inl q)
     have F3:=Lib.hid (show Fr0 w wr from F2.out.shrink fun k q=>.inr (by have:=F4.out.size;omega))
     have HW:=(A0.out _ F3.out).rep
     have hb0:=A.out.2.1.cell 0 _ rfl
     have hb1:=A.out.2.1.cell 1 _ rfl
     have hb2:=A.out.2.1.cell 2 _ rfl
     have hb3:=A.out.2.1.cell 3 _ rfl
     have hb4:=A.out.2.1.cell 4 _ rfl
     have hbl:=A.out.2.1.lt
     rw [take_all] at hb3
     have HM:=A.out.2.2.1
     rw [take_all] at HM
     have hfr:wE.heap.size∉G.own:=fun q=>by have h1:=HG.out.lt _ q;have h2:=F4.out.size;omega
     have hkb:wE.heap.size≠G.kB:=by
       obtain ⟨cs,q,_⟩:=HG.out.k
       have h1:=q.lt
       have h2:=F4.out.size
       omega
     have HA:=Lib.hid (dadde wr G HW hd a b wE.heap.size (apps os).1 (apps os).2 HM hfr hkb hl ⟨p,findP_mem hp⟩ ⟨q,findP_mem hq⟩)
     have N:=hid2 hfr hkb
     clear HW HM hfr hkb
     go_wp2_with fail
     refine HA.out.mono ?_
     rintro e w9 ⟨rfl,h9⟩
     have H9:=Lib.hid h9
     clear h9
     go_wp2_with fail
     go_ret
     obtain ⟨r1,c',r2,r3⟩:=H9.out
     have s1:=F3.out.size
     have s2:=F4.out.size
     refine ⟨rfl,c',wE.heap.size,r2,(F3.out.mono fun _ q=>q.elim).trans r1 fun _ q=>.inl q,fun x hx => ?_,G.same_refl⟩
     simp only [GS.own,List.mem_cons,List.mem_append,List.map_append,List.map_cons,List.map_nil,List.not_mem_nil,or_false] at hx ⊢
     rcases hx with q|q|q|q|q|q|q
     · exact .inl (.inl q)
     · exact .inl (.inr (.inl q))
     · exact .inl (.inr (.inr (.inl q)))
     · rcases r3 x q with t|t
       · exact .inl (.inr (.inr (.inr (.inl t))))
       · exact .inr (by omega)
     · exact .inl (.inr (.inr (.inr (.inr (.inl q)))))
     · exact .inl (.inr (.inr (.inr (.inr (.inr q)))))
     · exact .inr (by omega)
theorem uadd_new (w:World) (G:GS) (h:GRep w G) (hd:G.dir=false) (B:Nat) (eb:Nat→Addr) (E:ErrsOk w B eb) (a b:ByteArray) (hab:a≠b) (ov:Value) (os:List Opt) (ho:Opts w ov os Opt.eV) (p q:Pt) (hp:findP G.pts a=some p) (hq:findP G.pts b=some q) (hl:findL G.dir G.lks a b=none) (hpr:G.pr=false) :
   Calls Tryz.prog 198 #[.pointer (some ⟨G.gB,0,none⟩),.string a,.string b,ov] w fun e w'=>e=.returned .nilIface∧∃ c' mb,GStep w G w' { G with c:=c',lks:=G.lks ++ [⟨a,b,(apps os).1,mb,(apps os).2⟩] }:=by
 have A0:=Lib.hid (show ∀ w',Fr0 w w'→AW w G w' from fun w' f=>AW.mk' h f)
 have E0:=Lib.hid (show ∀ w',Fr0 w w'→ErrsOk w' B eb from fun w' f=>E.fr f (fun _ q=>q.elim))
 obtain ⟨-,s0,s1,s2,s3,s4⟩:=A0.out w (Fr.refl _ _)
 have mV:=mVertex
 have hmm:=@run_makeMap Tryz.prog
 obtain ⟨ob,cap,rfl,hcap,hcell,hok,hlen⟩:=ho
 have O:=hid4 hcell hok hcap hlen
 have HG:=Lib.hid h
 clear h E hcell hok hcap hlen
 rw [hpr] at s4
 have HPR:=Lib.hid hpr
 clear hpr
 go_enter Tryz.func198,Tryz.ntmps198
 go_wp2_with fail
 refine (svert_yes (A0.out _ (Fr.refl _ _)).rep hp).mono ?_
 rintro e w1 ⟨rfl,f1⟩
 clear s0 s1 s2 s3 s4
 obtain ⟨-,s0,s1,s2,s3,s4⟩:=A0.out _ f1
 rw [HPR.out] at s4
 go_wp2_with fail
 refine (svert_yes (A0.out _ (by ((repeat' with_reducible first|assumption|exact frR|apply frD|apply frN|apply frA|apply frM|apply frC);all_goals (simp;try omega)))).rep hq).mono ?_
 rintro e w2 ⟨rfl,h2⟩
 have f2:Fr0 w w2:=Fr.trans0 (by ((repeat' with_reducible first|assumption|exact frR|apply frD|apply frN|apply frA|apply frM|apply frC);all_goals (simp;try omega))) h2
 clear s0 s1 s2 s3 s4
 obtain ⟨-,s0,s1,s2,s3,s4⟩:=A0.out _ f2
 rw [HPR.out] at s4
 go_wp2_with fail
 refine (uedge_no _ G (A0.out _ (by ((repeat' with_reducible first|assumption|exact frR|apply frD|apply frN|apply frA|apply frM|apply frC);all_goals (simp;try omega)))).rep hd B eb (E0.out _ (by ((repeat' with_reducible first|assumption|exact frR|apply frD|apply frN|apply frA|apply frM|apply frC);all_goals (simp;try omega)))) a b hl).mono ?_
 rintro e w3 ⟨rfl,h3⟩
 have f3:Fr0 w w3:=Fr.trans0 (by ((repeat' with_reducible first|assumption|exact frR|apply frD|apply frN|apply frA|apply frM|apply frC);all_goals (simp;try omega))) h3
 have e4:=(E0.out _ f3).cell 4 (by decide)
 have e6:4 < w3.heap.size:=by
   have h1:=(E0.out _ f3).six
   have h2:=(E0.out _ f3).size
   omega
 go_wp2_with fail
 have hI:=is_ev (e:=.e 4) (E0.out (w3.alloc zBox) (by ((repeat' with_reducible first|assumption|exact frR|apply frD|apply frN|apply frA|apply frM|apply frC);all_goals (simp;try omega)))) (by simp [EV.ok]) 4 (by decide)
 have hh:(EV.e 4).has 4=true:=rfl
 rw [hh] at hI
 refine hI.mono ?_
 clear hI hh
 rintro e wE ⟨rfl,h4⟩
 have f4:Fr0 w wE:=Fr.trans0 (by ((repeat' with_reducible first|assumption|exact frR|apply frD|apply frN|apply frA|apply frM|apply frC);all_goals (simp;try omega))) h4
 clear s0 s1 s2 s3 s4 e4 e6
 obtain ⟨-,s0,s1,s2,s3,s4⟩:=A0.out _ f4
 rw [HPR.out] at s4
 have F4:=Lib.hid f4
 clear f1 f2 f3 h2 h3 h4 f4
 go_wp2_with fail
 try go_frame
 have LT:=Lib.hid (show ob < w.heap.size∨os = [] from by
   cases os with
   | nil=>exact .inr rfl
   | cons o os=>exact .inl (World.block_lt_of_cell? w _ (O.out.1 0 o rfl)))
 go_loopg [91] os.length (fun k c wr=>EL ((wE.alloc (Obj.map #[] 0)).alloc (eBox a b wE.heap.size 0)) (wE.heap.size+1) wE.heap.size a b (0,[]) os k c wr)
 case atStart =>
   refine ⟨0,rfl,rfl,?_,?_,Fr.refl _ _⟩
   · have:=Cells.new (wE.alloc (Obj.map #[] 0)) #[.string a,.string b,.map (some wE.heap.size),.int .i64 0,.nilIface] 144
     simpa using this
   · exact (SM.fresh wE).alloc _
 case round =>
   obtain ⟨i,hk,rfl,hc,hm,f⟩:=hrel
   have A:=hid4 hk hc hm f
   clear hk hc hm f
   by_cases hi:i < os.length
   · have hsm:os.length≤1000000:=O.out.2.2.2
     have F2:=Lib.hid (show Fr (fun k=>k=wE.heap.size+1∨k=wE.heap.size) w wr from (((F4.out.alloc _).alloc _).mono (fun k q=>q.elim)).trans A.out.2.2.2 fun k q=>.inl q)
     have hcell:=(F2.out.cell (p:=⟨ob,i,none⟩) (by simp only;rcases LT.out with q|q;exact q;rw [q] at hi;simp at hi) (by simp only;have:=F4.out.size;rcases LT.out with q|q;omega;rw [q] at hi;simp at hi)).trans (O.out.1 i os[i] (List.getElem?_eq_getElem hi))
     have hok:=Opt.ok_fr (O.out.2.1 os[i] (List.getElem_mem hi)) F2.out (fun k hk q=>by have:=F4.out.size;omega)
     have hg:=List.getElem?_eq_getElem hi
     generalize os[i]=o at hcell hok hg
     cases o with
     | wt n kb =>
       have HS:=Lib.hid hg
       change wr.cell? ⟨ob,i,none⟩=some (.func (Fn.func 85) #[] #[.pointer (some ⟨kb,0,none⟩)]) at hcell
       have hok':=Lib.hid (show wr.cell? ⟨kb,0,none⟩=some (.int .i64 n) from hok)
       clear hok hg
       go_wp2_with (first
         | (go_at_call 85;refine (ew1 wr _ _ _ _ _ n kb A.out.2.1 hok'.out).mono ?_;rintro e w3 ⟨rfl,hc',f'⟩;have D:=hid2 hc' f';clear hc' f'))
       have R:=EL.wt A.out.1 hi HS.out (by omega) A.out.2.2.1 A.out.2.2.2 D.out.1 D.out.2
       go_roundg (gk - 1)
       case measure=>exact R.1
       case rel=>exact R.2
     | at_ k v bv bk =>
       have HS:=Lib.hid hg
       change wr.cell? ⟨ob,i,none⟩=some (.func (Fn.func 87) #[] #[.pointer (some ⟨bv,0,none⟩),.pointer (some ⟨bk,0,none⟩)]) at hcell
       have hok':=Lib.hid (show wr.cell? ⟨bv,0,none⟩=some (.string v)∧wr.cell? ⟨bk,0,none⟩=some (.string k) from hok)
       clear hok hg
       go_wp2_with (first
         | (go_at_call 87;refine (ea1 wr _ _ _ _ _ _ k v bv bk A.out.2.1 A.out.2.2.1 hok'.out.1 hok'.out.2).mono ?_;rintro e w3 ⟨rfl,hm',f'⟩;have D:=hid2 hm' f';clear hm' f'))
       have R:=EL.at_ A.out.1 hi HS.out (by omega) A.out.2.1 A.out.2.2.2 D.out.1 D.out.2
       go_roundg (gk - 1)
       case measure=>exact R.1
       case rel=>exact R.2
   · have hi':i=os.length:=by have:=A.out.1;omega
     subst hi'
     have F2:=Lib.hid (show Fr (fun k=>k=wE.heap.size+1∨k=wE.heap.size) w wr from (((F4.out.alloc _).alloc _).mono (fun k q=>q.elim)).trans A.out.2.2.2 fun k q=>.inl q)
     have F3:=Lib.hid (show Fr0 w wr from F2.out.shrink fun k q=>.inr (by have:=F4.out.size;omega))
     have HW:=(A0.out _ F3.out).rep
     have hb0:=A.out.2.1.cell 0 _ rfl
     have hb1:=A.out.2.1.cell 1 _ rfl
     have hb2:=A.out.2.1.cell 2 _ rfl
     have hb3:=A.out.2.1.cell 3 _ rfl
     have hb4:=A.out.2.1.cell 4 _ rfl
     have hbl:=A.out.2.1.lt
     rw [take_all] at hb3
     have HM:=A.out.2.2.1
     rw [take_all] at HM
     have hfr:wE.heap.size∉G.own:=fun q=>by have h1:=HG.out.lt _ q;have h2:=F4.out.size;omega
     have hkb:wE.heap.size≠G.kB:=by
       obtain ⟨cs,q,_⟩:=HG.out.k
       have h1:=q.lt
       have h2:=F4.out.size
       omega
     have HA:=Lib.hid (uadde wr G HW hd a b wE.heap.size (apps os).1 (apps os).2 HM hfr hkb hab hl ⟨p,findP_mem hp⟩ ⟨q,findP_mem hq⟩)
     have N:=hid2 hfr hkb
     clear HW HM hfr hkb
     go_wp2_with fail
     refine HA.out.mono ?_
     rintro e w9 ⟨rfl,h9⟩
     have H9:=Lib.hid h9
     clear h9
     go_wp2_with fail
     go_ret
     obtain ⟨r1,c',r2,r3⟩:=H9.out
     have s1:=F3.out.size
     have s2:=F4.out.size
     refine ⟨rfl,c',wE.heap.size,r2,(F3.out.mono fun _ q=>q.elim).trans r1 fun _ q=>.inl q,fun x hx => ?_,G.same_refl⟩
     simp only [GS.own,List.mem_cons,List.mem_append,List.map_append,List.map_cons,List.map_nil,List.not_mem_nil,or_false] at hx ⊢
     rcases hx with q|q|q|q|q|q|q
     · exact .inl (.inl q)
     · exact .inl (.inr (.inl q))
     · exact .inl (.inr (.inr (.inl q)))
     · rcases r3 x q with t|t
       · exact .inl (.inr (.inr (.inr (.inl t))))
       · exact .inr (by omega)
     · exact .inl (.inr (.inr (.inr (.inr (.inl q)))))
     · exact .inl (.inr (.inr (.inr (.inr (.inr q)))))
     · exact .inr (by omega)
end Go.Proofs.YtbafaadmlpamiaaGreatDoor
