import Derived.Test.YtbafaadmlpamiaaGreatDoorA3
set_option maxRecDepth 100000
set_option maxHeartbeats 1000000
namespace Go.Proofs.YtbafaadmlpamiaaGreatDoor
open Go Go.Hy Go.RowKit
theorem sedge_yes {w:World} {G:GS} (h:GRep w G) {a b:ByteArray} {l:Lk} (hl:findL G.dir G.lks a b=some l) :
   Calls Tryz.prog 219 #[.pointer (some ⟨G.sB,0,none⟩),.string a,.string b] w fun e w'=>e=.returned (.tuple #[ev a b l.at_ l.wt,.nilIface])∧Fr0 w w':=by
 have ho:=h.out a b
 rw [hl] at ho
 unfold edgeAt at ho
 cases hf:findK G.c.outs a with
 | none=>rw [hf] at ho;cases ho
 | some n =>
   rw [hf] at ho
   exact edge_yes w G.sB G.c h.s a b n a b l.at_ l.wt hf ho
theorem sedge_no {w:World} {G:GS} (h:GRep w G) {B:Nat} {eb:Nat→Addr} (E:ErrsOk w B eb) {a b:ByteArray} (hl:findL G.dir G.lks a b=none) :
   Calls Tryz.prog 219 #[.pointer (some ⟨G.sB,0,none⟩),.string a,.string b] w fun e w'=>e=.returned (.tuple #[zEv,er (eb 4)])∧Fr0 w w':=by
 have ho:=h.out a b
 rw [hl] at ho
 unfold edgeAt at ho
 have l4:4 < w.heap.size:=by have:=E.six;have:=E.size;omega
 cases hf:findK G.c.outs a with
 | none=>exact edge_none w G.sB G.c h.s a b (er (eb 4)) (E.cell 4 (by decide)) l4 hf
 | some n =>
   rw [hf] at ho
   exact edge_no w G.sB G.c h.s a b (er (eb 4)) (E.cell 4 (by decide)) l4 n hf ho
theorem svert_yes {w:World} {G:GS} (h:GRep w G) {k:ByteArray} {p:Pt} (hp:findP G.pts k=some p) :
   Calls Tryz.prog 225 #[.pointer (some ⟨G.sB,0,none⟩),.string k] w fun e w'=>e=.returned (.tuple #[.string p.v,pv p.at_ p.wt,.nilIface])∧Fr0 w w' :=
 vertex_yes w G.sB G.c h.s k p.v p.at_ p.wt (by rw [h.vs,look_vs,hp];rfl) (by rw [h.ps,look_ps,hp];rfl)
theorem svert_no {w:World} {G:GS} (h:GRep w G) {B:Nat} {eb:Nat→Addr} (E:ErrsOk w B eb) {k:ByteArray} (hp:findP G.pts k=none) :
   Calls Tryz.prog 225 #[.pointer (some ⟨G.sB,0,none⟩),.string k] w fun e w'=>e=.returned (.tuple #[.string ⟨#[]⟩,zPv,er (eb 1)])∧Fr0 w w' :=
 vertex_no w G.sB G.c h.s k (er (eb 1)) (E.cell 1 (by decide)) (by have:=E.six;have:=E.size;omega) (by rw [h.vs,look_vs,hp];rfl)
theorem findP_some_of {pts:List Pt} {k:ByteArray} (h:∃ p∈pts,p.h=k):∃ p,findP pts k=some p:=by
 obtain ⟨p,hp,e⟩:=h
 cases hf:findP pts k with
 | some q=>exact ⟨q,rfl⟩
 | none=>exact absurd e (findP_none.1 hf p hp)
theorem findL_mem {dir:Bool} {lks:List Lk} {a b:ByteArray} {l:Lk} (h:findL dir lks a b=some l):l∈lks∧l.hit dir a b=true :=
 ⟨List.mem_of_find?_eq_some h,by have:=List.find?_some h;exact this⟩
theorem hit_cases {dir:Bool} {l:Lk} {a b:ByteArray} (h:l.hit dir a b=true):(l.a=a∧l.b=b)∨(dir=false∧l.a=b∧l.b=a):=by
 unfold Lk.hit at h
 cases dir <;> simp at h ⊢ <;> exact h
theorem GRep.ends_find {w:World} {G:GS} (h:GRep w G) {a b:ByteArray} {l:Lk} (hl:findL G.dir G.lks a b=some l):(∃ p,findP G.pts a=some p)∧∃ q,findP G.pts b=some q:=by
 obtain ⟨m,hh⟩:=findL_mem hl
 obtain ⟨e1,e2⟩:=h.ends l m
 rcases hit_cases hh with ⟨x,y⟩|⟨_,x,y⟩
 · rw [x] at e1;rw [y] at e2;exact ⟨findP_some_of e1,findP_some_of e2⟩
 · rw [x] at e1;rw [y] at e2;exact ⟨findP_some_of e2,findP_some_of e1⟩
theorem GRep.at0 {w:World} {G:GS} (h:GRep w G):∀ w',Fr0 w w'→GRep w' G∧w'.cell? ⟨G.gB,2,none⟩=some (.iface 178 (.pointer (some ⟨G.sB,0,none⟩)))∧G.gB < w'.heap.size:=fun w' f=>by
 have:=h.fr f (fun _ _ q=>q) (fun q=>q)
 exact ⟨this,this.facts.1.2.2,this.facts.2.2.1⟩
theorem dvwp_yes (w:World) (G:GS) (h:GRep w G) (k:ByteArray) (p:Pt) (hp:findP G.pts k=some p) :
   Calls Tryz.prog 189 #[.pointer (some ⟨G.gB,0,none⟩),.string k] w fun e w'=>e=.returned (.tuple #[.string p.v,pv p.at_ p.wt,.nilIface])∧Fr0 w w':=by
 have g2:=h.facts.1.2.2
 have l0:=h.facts.2.2.1
 have mV:=mVertex
 have HV:=Lib.hid (svert_yes (w:=w.alloc (.cells #[.map none,.int .i64 0] 137)) (h.at0 _ ((Fr.refl _ _).alloc _)).1 hp)
 clear h
 go_enter Tryz.func189,Tryz.ntmps189
 go_wp2_with (first
   | (go_at_call 225;refine HV.out.mono ?_;rintro e w1 ⟨rfl,f1⟩;have F1:=Lib.hid f1;have bx:=(Cells.new w #[.map none,.int .i64 0] 137).fr f1 (fun q=>q);have b0:=bx.cell 0 _ rfl;have b1:=bx.cell 1 _ rfl;have c0:=bx.free 0;have c1:=bx.free 1;have bl:=bx.lt;clear f1 bx))
 go_region
 all_goals go_wp2
 all_goals exact bodyPost_ret (v:=.tuple #[.string p.v,pv p.at_ p.wt,.nilIface]) (by simp [results,Tryz.results189,go_sem, *]) rfl ⟨rfl,by have F2:=((Fr.refl (fun _=>False) w).alloc (.cells #[.map none,.int .i64 0] 137)).trans0 F1.out;((repeat' with_reducible first|assumption|exact frR|apply frD|apply frN|apply frA|apply frM|apply frC);all_goals (simp;try omega))⟩
theorem dvwp_no (w:World) (G:GS) (h:GRep w G) (B:Nat) (eb:Nat→Addr) (E:ErrsOk w B eb) (k:ByteArray) (hp:findP G.pts k=none) :
   Calls Tryz.prog 189 #[.pointer (some ⟨G.gB,0,none⟩),.string k] w fun e w'=>e=.returned (.tuple #[.string ⟨#[]⟩,zPv,er (eb 1)])∧Fr0 w w':=by
 have g2:=h.facts.1.2.2
 have l0:=h.facts.2.2.1
 have mV:=mVertex
 have HV:=Lib.hid (svert_no (w:=w.alloc (.cells #[.map none,.int .i64 0] 137)) (h.at0 _ ((Fr.refl _ _).alloc _)).1 (E.fr ((Fr.refl (fun _=>False) w).alloc _) (fun _ q=>q.elim)) hp)
 clear h E
 go_enter Tryz.func189,Tryz.ntmps189
 go_wp2_with (first
   | (go_at_call 225;refine HV.out.mono ?_;rintro e w1 ⟨rfl,f1⟩;have F1:=Lib.hid f1;have bx:=(Cells.new w #[.map none,.int .i64 0] 137).fr f1 (fun q=>q);have b0:=bx.cell 0 _ rfl;have b1:=bx.cell 1 _ rfl;have c0:=bx.free 0;have c1:=bx.free 1;have bl:=bx.lt;clear f1 bx))
 all_goals exact bodyPost_ret (v:=.tuple #[.string ⟨#[]⟩,zPv,er (eb 1)]) (by simp [results,Tryz.results189,go_sem, *]) rfl ⟨rfl,by have F2:=((Fr.refl (fun _=>False) w).alloc (.cells #[.map none,.int .i64 0] 137)).trans0 F1.out;((repeat' with_reducible first|assumption|exact frR|apply frD|apply frN|apply frA|apply frM|apply frC);all_goals (simp;try omega))⟩
theorem uvwp_yes (w:World) (G:GS) (h:GRep w G) (k:ByteArray) (p:Pt) (hp:findP G.pts k=some p) :
   Calls Tryz.prog 214 #[.pointer (some ⟨G.gB,0,none⟩),.string k] w fun e w'=>e=.returned (.tuple #[.string p.v,pv p.at_ p.wt,.nilIface])∧Fr0 w w':=by
 have g2:=h.facts.1.2.2
 have l0:=h.facts.2.2.1
 have mV:=mVertex
 have HV:=Lib.hid (svert_yes (w:=w.alloc (.cells #[.map none,.int .i64 0] 137)) (h.at0 _ ((Fr.refl _ _).alloc _)).1 hp)
 clear h
 go_enter Tryz.func214,Tryz.ntmps214
 go_wp2_with (first
   | (go_at_call 225;refine HV.out.mono ?_;rintro e w1 ⟨rfl,f1⟩;have F1:=Lib.hid f1;have bx:=(Cells.new w #[.map none,.int .i64 0] 137).fr f1 (fun q=>q);have b0:=bx.cell 0 _ rfl;have b1:=bx.cell 1 _ rfl;have c0:=bx.free 0;have c1:=bx.free 1;have bl:=bx.lt;clear f1 bx))
 go_region
 all_goals go_wp2
 all_goals exact bodyPost_ret (v:=.tuple #[.string p.v,pv p.at_ p.wt,.nilIface]) (by simp [results,Tryz.results214,go_sem, *]) rfl ⟨rfl,by have F2:=((Fr.refl (fun _=>False) w).alloc (.cells #[.map none,.int .i64 0] 137)).trans0 F1.out;((repeat' with_reducible first|assumption|exact frR|apply frD|apply frN|apply frA|apply frM|apply frC);all_goals (simp;try omega))⟩
theorem uvwp_no (w:World) (G:GS) (h:GRep w G) (B:Nat) (eb:Nat→Addr) (E:ErrsOk w B eb) (k:ByteArray) (hp:findP G.pts k=none) :
   Calls Tryz.prog 214 #[.pointer (some ⟨G.gB,0,none⟩),.string k] w fun e w'=>e=.returned (.tuple #[.string ⟨#[]⟩,zPv,er (eb 1)])∧Fr0 w w':=by
 have g2:=h.facts.1.2.2
 have l0:=h.facts.2.2.1
 have mV:=mVertex
 have HV:=Lib.hid (svert_no (w:=w.alloc (.cells #[.map none,.int .i64 0] 137)) (h.at0 _ ((Fr.refl _ _).alloc _)).1 (E.fr ((Fr.refl (fun _=>False) w).alloc _) (fun _ q=>q.elim)) hp)
 clear h E
 go_enter Tryz.func214,Tryz.ntmps214
 go_wp2_with (first
   | (go_at_call 225;refine HV.out.mono ?_;rintro e w1 ⟨rfl,f1⟩;have F1:=Lib.hid f1;have bx:=(Cells.new w #[.map none,.int .i64 0] 137).fr f1 (fun q=>q);have b0:=bx.cell 0 _ rfl;have b1:=bx.cell 1 _ rfl;have c0:=bx.free 0;have c1:=bx.free 1;have bl:=bx.lt;clear f1 bx))
 all_goals exact bodyPost_ret (v:=.tuple #[.string ⟨#[]⟩,zPv,er (eb 1)]) (by simp [results,Tryz.results214,go_sem, *]) rfl ⟨rfl,by have F2:=((Fr.refl (fun _=>False) w).alloc (.cells #[.map none,.int .i64 0] 137)).trans0 F1.out;((repeat' with_reducible first|assumption|exact frR|apply frD|apply frN|apply frA|apply frM|apply frC);all_goals (simp;try omega))⟩
structure EW (w:World) (G:GS) (nb:Nat) (w':World):Prop where
 rep:GRep w' G
 s:w'.cell? ⟨G.gB,2,none⟩=some (.iface 178 (.pointer (some ⟨G.sB,0,none⟩)))
 l:G.gB < w'.heap.size
 bl:nb < w'.heap.size
 b0:w'.cell? ⟨nb,0,none⟩=some (.string ⟨#[]⟩)
 b1:w'.cell? ⟨nb,1,none⟩=some (.string ⟨#[]⟩)
 b2:w'.cell? ⟨nb,2,none⟩=some (.map none)
 b3:w'.cell? ⟨nb,3,none⟩=some (.int .i64 0)
 b4:w'.cell? ⟨nb,4,none⟩=some .nilIface
 c0:w'.frozen? ⟨nb,0,none⟩=false
 c1:w'.frozen? ⟨nb,1,none⟩=false
 c2:w'.frozen? ⟨nb,2,none⟩=false
 c3:w'.frozen? ⟨nb,3,none⟩=false
 c4:w'.frozen? ⟨nb,4,none⟩=false
abbrev zBox:Obj:=.cells #[.string ⟨#[]⟩,.string ⟨#[]⟩,.map none,.int .i64 0,.nilIface] 144
theorem EW.mk' {w:World} {G:GS} (h:GRep w G) {w':World} (f:Fr0 (w.alloc zBox) w'):EW w G w.heap.size w':=by
 have h1:=h.fr (((Fr.refl (fun _=>False) w).alloc zBox).trans0 f) (fun _ _ q=>q) (fun q=>q)
 have bx:=(Cells.new w #[.string ⟨#[]⟩,.string ⟨#[]⟩,.map none,.int .i64 0,.nilIface] 144).fr f (fun q=>q)
 exact ⟨h1,h1.facts.1.2.2,h1.facts.2.2.1,bx.lt,bx.cell 0 _ rfl,bx.cell 1 _ rfl,bx.cell 2 _ rfl,bx.cell 3 _ rfl,bx.cell 4 _ rfl,bx.free 0,bx.free 1,bx.free 2,bx.free 3,bx.free 4⟩
theorem held5 {w w':World} {nb:Nat} {v0 v1 v2 v3 v4:Value} (f:Fr0 (w.alloc (.cells #[v0,v1,v2,v3,v4] 144)) w') (e:w.heap.size=nb):nb < w'.heap.size ∧
   w'.cell? ⟨nb,0,none⟩=some v0∧w'.cell? ⟨nb,1,none⟩=some v1∧w'.cell? ⟨nb,2,none⟩=some v2∧w'.cell? ⟨nb,3,none⟩=some v3∧w'.cell? ⟨nb,4,none⟩=some v4:=by
 subst e
 have bx:=(Cells.new w #[v0,v1,v2,v3,v4] 144).fr f (fun q=>q)
 exact ⟨bx.lt,bx.cell 0 _ rfl,bx.cell 1 _ rfl,bx.cell 2 _ rfl,bx.cell 3 _ rfl,bx.cell 4 _ rfl⟩
theorem dedge_yes (w:World) (G:GS) (h:GRep w G) (a b:ByteArray) (l:Lk) (p q:Pt) (hl:findL G.dir G.lks a b=some l) (hp:findP G.pts a=some p) (hq:findP G.pts b=some q) :
   Calls Tryz.prog 179 #[.pointer (some ⟨G.gB,0,none⟩),.string a,.string b] w fun e w'=>e=.returned (.tuple #[ev p.v q.v l.at_ l.wt,.nilIface])∧Fr0 w w':=by
 have A0:=Lib.hid (show ∀ w',Fr0 (w.alloc zBox) w'→EW w G w.heap.size w' from fun w' f=>EW.mk' h f)
 have g2:=h.facts.1.2.2
 have l0:=h.facts.2.2.1
 have mV:=mVertex
 have mE:=mEdge
 clear h
 go_enter Tryz.func179,Tryz.ntmps179
 go_wp2_with (first
   | (go_at_call 219;refine (sedge_yes (A0.out _ (Fr.refl _ _)).rep hl).mono ?_;rintro e w1 ⟨rfl,f1⟩;obtain ⟨-,s0,s1,s2,s3,s4,s5,s6,s7,s8,s9,s10,s11,s12⟩:=A0.out _ f1)
   | (go_at_call_of 225 (Value.string a);refine (svert_yes (A0.out _ (by ((repeat' with_reducible first|assumption|exact frR|apply frD|apply frN|apply frA|apply frM|apply frC);all_goals (simp;try omega)))).rep hp).mono ?_;rintro e w2 ⟨rfl,h2⟩;have f2:Fr0 (w.alloc zBox) w2:=Fr.trans0 (by ((repeat' with_reducible first|assumption|exact frR|apply frD|apply frN|apply frA|apply frM|apply frC);all_goals (simp;try omega))) h2;obtain ⟨-,u0,u1,u2,u3,u4,u5,u6,u7,u8,u9,u10,u11,u12⟩:=A0.out _ f2;clear s0 s1 s2 s3 s4 s5 s6 s7 s8 s9 s10 s11 s12)
   | (go_at_call_of 225 (Value.string b);refine (svert_yes (A0.out _ (by ((repeat' with_reducible first|assumption|exact frR|apply frD|apply frN|apply frA|apply frM|apply frC);all_goals (simp;try omega)))).rep hq).mono ?_;rintro e w3 ⟨rfl,h3⟩;have f3:Fr0 (w.alloc zBox) w3:=Fr.trans0 (by ((repeat' with_reducible first|assumption|exact frR|apply frD|apply frN|apply frA|apply frM|apply frC);all_goals (simp;try omega))) h3;obtain ⟨-,v0,v1,v2,v3,v4,v5,v6,v7,v8,v9,v10,v11,v12⟩:=A0.out _ f3;have h4:=(h2.alloc (.cells #[.map (some p.at_),.int .i64 p.wt] 137)).trans0 h3;obtain ⟨t0,t1,t2,t3,t4,t5⟩:=held5 h4 rfl;clear u0 u1 u2 u3 u4 u5 u6 u7 u8 u9 u10 u11 u12))
 exact bodyPost_ret (v:=.tuple #[ev p.v q.v l.at_ l.wt,.nilIface]) (by simp [results,Tryz.results179,go_sem, *]) rfl ⟨rfl,by have F2:=((Fr.refl (fun _=>False) w).alloc zBox).trans0 f3;((repeat' with_reducible first|assumption|exact frR|apply frD|apply frN|apply frA|apply frM|apply frC);all_goals (simp;try omega))⟩
theorem findL_swap (lks:List Lk) (a b:ByteArray):findL false lks b a=findL false lks a b:=by
 unfold findL
 congr 1
 funext l
 unfold Lk.hit
 simp [Bool.or_comm]
theorem dedge_no (w:World) (G:GS) (h:GRep w G) (B:Nat) (eb:Nat→Addr) (E:ErrsOk w B eb) (a b:ByteArray) (hl:findL G.dir G.lks a b=none) :
   Calls Tryz.prog 179 #[.pointer (some ⟨G.gB,0,none⟩),.string a,.string b] w fun e w'=>e=.returned (.tuple #[zEv,er (eb 4)])∧Fr0 w w':=by
 have A0:=Lib.hid (show ∀ w',Fr0 (w.alloc zBox) w'→EW w G w.heap.size w' from fun w' f=>EW.mk' h f)
 have E0:=Lib.hid (E.fr ((Fr.refl (fun _=>False) w).alloc zBox) (fun _ q=>q.elim))
 have g2:=h.facts.1.2.2
 have l0:=h.facts.2.2.1
 have mE:=mEdge
 clear h E
 go_enter Tryz.func179,Tryz.ntmps179
 go_wp2_with (first
   | (go_at_call 219;refine (sedge_no (A0.out _ (Fr.refl _ _)).rep E0.out hl).mono ?_;rintro e w1 ⟨rfl,f1⟩;obtain ⟨-,s0,s1,s2,s3,s4,s5,s6,s7,s8,s9,s10,s11,s12⟩:=A0.out _ f1))
 exact bodyPost_ret (v:=.tuple #[zEv,er (eb 4)]) (by simp [results,Tryz.results179,go_sem, *]) rfl ⟨rfl,by have F2:=((Fr.refl (fun _=>False) w).alloc zBox).trans0 f1;((repeat' with_reducible first|assumption|exact frR|apply frD|apply frN|apply frA|apply frM|apply frC);all_goals (simp;try omega))⟩
theorem uedge_no (w:World) (G:GS) (h:GRep w G) (hd:G.dir=false) (B:Nat) (eb:Nat→Addr) (E:ErrsOk w B eb) (a b:ByteArray) (hl:findL G.dir G.lks a b=none) :
   Calls Tryz.prog 204 #[.pointer (some ⟨G.gB,0,none⟩),.string a,.string b] w fun e w'=>e=.returned (.tuple #[zEv,er (eb 4)])∧Fr0 w w':=by
 have A0:=Lib.hid (show ∀ w',Fr0 (w.alloc zBox) w'→EW w G w.heap.size w' from fun w' f=>EW.mk' h f)
 have E0:=Lib.hid (show ∀ w',Fr0 (w.alloc zBox) w'→ErrsOk w' B eb from fun w' f=>E.fr (((Fr.refl (fun _=>False) w).alloc zBox).trans0 f) (fun _ q=>q.elim))
 have g2:=h.facts.1.2.2
 have l0:=h.facts.2.2.1
 have mE:=mEdge
 have hl2:findL G.dir G.lks b a=none:=by rw [hd] at hl ⊢;rw [findL_swap];exact hl
 clear h E hd
 go_enter Tryz.func204,Tryz.ntmps204
 go_wp2_with fail
 refine (sedge_no (A0.out _ (Fr.refl _ _)).rep (E0.out _ (Fr.refl _ _)) hl).mono ?_
 rintro e w1 ⟨rfl,f1⟩
 obtain ⟨-,s0,s1,s2,s3,s4,s5,s6,s7,s8,s9,s10,s11,s12⟩:=A0.out _ f1
 have e4:=(E0.out _ f1).cell 4 (by decide)
 have e6:4 < w1.heap.size:=by
   have h1:=(E0.out _ f1).six
   have h2:=(E0.out _ f1).size
   omega
 go_wp2_with fail
 have hI:=is_ev (e:=.e 4) (E0.out _ (show Fr0 (w.alloc zBox) (w1.alloc zBox) from by ((repeat' with_reducible first|assumption|exact frR|apply frD|apply frN|apply frA|apply frM|apply frC);all_goals (simp;try omega)))) (by simp [EV.ok]) 4 (by decide)
 have hh:(EV.e 4).has 4=true:=rfl
 rw [hh] at hI
 refine hI.mono ?_
 clear hI hh
 rintro e w2 ⟨rfl,h2⟩
 have f2:Fr0 (w.alloc zBox) w2:=Fr.trans0 (by ((repeat' with_reducible first|assumption|exact frR|apply frD|apply frN|apply frA|apply frM|apply frC);all_goals (simp;try omega))) h2
 obtain ⟨-,u0,u1,u2,u3,u4,u5,u6,u7,u8,u9,u10,u11,u12⟩:=A0.out _ f2
 obtain ⟨t0,t1,t2,t3,t4,t5⟩:=held5 h2 rfl
 have bz:=(Cells.new w1 #[.string ⟨#[]⟩,.string ⟨#[]⟩,.map none,.int .i64 0,.nilIface] 144).fr h2 (fun q=>q)
 have z0:=bz.free 0
 have z1:=bz.free 1
 have z2:=bz.free 2
 have z3:=bz.free 3
 have z4:=bz.free 4
 clear bz
 clear s0 s1 s2 s3 s4 s5 s6 s7 s8 s9 s10 s11 s12
 clear e4 e6
 go_wp2_with fail
 refine (sedge_no (A0.out _ f2).rep (E0.out _ f2) hl2).mono ?_
 rintro e w3 ⟨rfl,h3⟩
 have f3:Fr0 (w.alloc zBox) w3:=Fr.trans0 f2 h3
 clear u0 u1 u2 u3 u4 u5 u6 u7 u8 u9 u10 u11 u12
 obtain ⟨-,v0,v1,v2,v3,v4,v5,v6,v7,v8,v9,v10,v11,v12⟩:=A0.out _ f3
 have h4:=h2.trans0 h3
 clear t0 t1 t2 t3 t4 t5 z0 z1 z2 z3 z4
 obtain ⟨t0,t1,t2,t3,t4,t5⟩:=held5 h4 rfl
 have bz:=(Cells.new w1 #[.string ⟨#[]⟩,.string ⟨#[]⟩,.map none,.int .i64 0,.nilIface] 144).fr h4 (fun q=>q)
 have z0:=bz.free 0
 have z1:=bz.free 1
 have z2:=bz.free 2
 have z3:=bz.free 3
 have z4:=bz.free 4
 clear bz
 have k1:w.heap.size < w1.heap.size:=by have:=f1.size;simp at this;omega
 go_wp2_with fail
 exact bodyPost_ret (v:=.tuple #[zEv,er (eb 4)]) (by simp [results,Tryz.results204,go_sem, *]) rfl ⟨rfl,by have F2:=((Fr.refl (fun _=>False) w).alloc zBox).trans0 f3;((repeat' with_reducible first|assumption|exact frR|apply frD|apply frN|apply frA|apply frM|apply frC);all_goals (simp;try omega))⟩
theorem uedge_yes (w:World) (G:GS) (h:GRep w G) (B:Nat) (eb:Nat→Addr) (E:ErrsOk w B eb) (a b:ByteArray) (l:Lk) (p q:Pt) (hl:findL G.dir G.lks a b=some l) (hp:findP G.pts a=some p) (hq:findP G.pts b=some q) :
   Calls Tryz.prog 204 #[.pointer (some ⟨G.gB,0,none⟩),.string a,.string b] w fun e w'=>e=.returned (.tuple #[ev p.v q.v l.at_ l.wt,.nilIface])∧Fr0 w w':=by
 have A0:=Lib.hid (show ∀ w',Fr0 (w.alloc zBox) w'→EW w G w.heap.size w' from fun w' f=>EW.mk' h f)
 have E0:=Lib.hid (show ∀ w',Fr0 (w.alloc zBox) w'→ErrsOk w' B eb from fun w' f=>E.fr (((Fr.refl (fun _=>False) w).alloc zBox).trans0 f) (fun _ q=>q.elim))
 have g2:=h.facts.1.2.2
 have l0:=h.facts.2.2.1
 have mE:=mEdge
 have mV:=mVertex
 clear h E
 go_enter Tryz.func204,Tryz.ntmps204
 go_wp2_with fail
 refine (sedge_yes (A0.out _ (Fr.refl _ _)).rep hl).mono ?_
 rintro e w1 ⟨rfl,f1⟩
 obtain ⟨-,s0,s1,s2,s3,s4,s5,s6,s7,s8,s9,s10,s11,s12⟩:=A0.out _ f1
 have e4:=(E0.out _ f1).cell 4 (by decide)
 have e6:4 < w1.heap.size:=by
   have h1:=(E0.out _ f1).six
   have h2:=(E0.out _ f1).size
   omega
 go_wp2_with fail
 have hI:=is_ev (e:=.nil) (E0.out (w1.alloc (.cells #[.string a,.string b,.map (some l.at_),.int .i64 l.wt,.nilIface] 144)) (by ((repeat' with_reducible first|assumption|exact frR|apply frD|apply frN|apply frA|apply frM|apply frC);all_goals (simp;try omega)))) (by simp [EV.ok]) 4 (by decide)
 have hh:EV.nil.has 4=false:=rfl
 rw [hh] at hI
 refine hI.mono ?_
 clear hI hh
 rintro e w2 ⟨rfl,h2⟩
 have f2:Fr0 (w.alloc zBox) w2:=Fr.trans0 (by ((repeat' with_reducible first|assumption|exact frR|apply frD|apply frN|apply frA|apply frM|apply frC);all_goals (simp;try omega))) h2
 obtain ⟨-,u0,u1,u2,u3,u4,u5,u6,u7,u8,u9,u10,u11,u12⟩:=A0.out _ f2
 obtain ⟨t0,t1,t2,t3,t4,t5⟩:=held5 h2 rfl
 clear s0 s1 s2 s3 s4 s5 s6 s7 s8 s9 s10 s11 s12
 clear e4 e6
 go_wp2_with fail
 refine (svert_yes (A0.out _ f2).rep hp).mono ?_
 rintro e w3 ⟨rfl,h3⟩
 have f3:Fr0 (w.alloc zBox) w3:=Fr.trans0 f2 h3
 clear u0 u1 u2 u3 u4 u5 u6 u7 u8 u9 u10 u11 u12
 obtain ⟨-,v0,v1,v2,v3,v4,v5,v6,v7,v8,v9,v10,v11,v12⟩:=A0.out _ f3
 have h4:=h2.trans0 h3
 clear t0 t1 t2 t3 t4 t5
 obtain ⟨t0,t1,t2,t3,t4,t5⟩:=held5 h4 rfl
 go_wp2_with fail
 refine (svert_yes (A0.out _ (by ((repeat' with_reducible first|assumption|exact frR|apply frD|apply frN|apply frA|apply frM|apply frC);all_goals (simp;try omega)))).rep hq).mono ?_
 rintro e w4 ⟨rfl,h5⟩
 have f4:Fr0 (w.alloc zBox) w4:=Fr.trans0 (by ((repeat' with_reducible first|assumption|exact frR|apply frD|apply frN|apply frA|apply frM|apply frC);all_goals (simp;try omega))) h5
 clear v0 v1 v2 v3 v4 v5 v6 v7 v8 v9 v10 v11 v12
 obtain ⟨-,u0,u1,u2,u3,u4,u5,u6,u7,u8,u9,u10,u11,u12⟩:=A0.out _ f4
 have h6:=(h4.alloc (.cells #[.map (some p.at_),.int .i64 p.wt] 137)).trans0 h5
 clear t0 t1 t2 t3 t4 t5
 obtain ⟨t0,t1,t2,t3,t4,t5⟩:=held5 h6 rfl
 have k1:w.heap.size < w1.heap.size:=by have:=f1.size;simp at this;omega
 go_wp2_with fail
 exact bodyPost_ret (v:=.tuple #[ev p.v q.v l.at_ l.wt,.nilIface]) (by simp [results,Tryz.results204,go_sem, *]) rfl ⟨rfl,by have F2:=((Fr.refl (fun _=>False) w).alloc zBox).trans0 f4;((repeat' with_reducible first|assumption|exact frR|apply frD|apply frN|apply frA|apply frM|apply frC);all_goals (simp;try omega))⟩
def GS.base (G:GS):List Nat:=G.gB :: G.tB :: G.sB :: G.kB :: (G.c.own ++ G.pts.map (·.at_))
theorem GRep.setL {w w':World} {G:GS} (h:GRep w G) {c':St1} (hs:SRep w' G.sB c') (hvs:c'.vs=G.c.vs) (hps:c'.ps=G.c.ps) (hown:∀ b∈c'.own,b∈G.c.own∨w.heap.size≤b)
   (f:Fr (fun b=>b∈G.c.own∨∃ l∈G.lks,l.at_=b) w w') {lks:List Lk} (hat:∀ l∈lks,l.at_ < w.heap.size∧l.at_∉G.base∧SM w' l.at_ (ats l.es)) (hnd:(lks.map (·.at_)).Nodup)
   (out:∀ x y,edgeAt c'.outs c'.inn x y=(findL G.dir lks x y).map fun l=>ev x y l.at_ l.wt) (inn:∀ x y,edgeAt c'.inns c'.inn y x=(findL G.dir lks x y).map fun l=>ev x y l.at_ l.wt)
   (ends:∀ l∈lks,(∃ p∈G.pts,p.h=l.a)∧∃ p∈G.pts,p.h=l.b) (loop:G.dir=false→∀ l∈lks,l.a≠l.b) (lnd:lks.Pairwise fun l m=>m.hit G.dir l.a l.b=false) :
   GRep w' { G with c:=c',lks:=lks }:=by
 have hN:=h.nd
 have hL:=h.lt
 have hkl:G.kB < w.heap.size:=by obtain ⟨cs,q,_⟩:=h.k;exact q.lt
 have hkn:=h.kn
 simp only [GS.own,List.nodup_cons,List.mem_cons,List.mem_append,List.nodup_append,List.mem_map,not_or] at hN hkn
 obtain ⟨⟨a1,a2,a3,a4,a5⟩,⟨b1,b2,b3,b4⟩,⟨d1,d2,d3⟩,n1,⟨n2,n3,n4⟩,n5⟩:=hN
 obtain ⟨k1,k2,k3,k4,k5,k6⟩:=hkn
 have lg:=h.facts.2.2
 refine ⟨h.g.fr f ?_,h.t.fr f ?_,hs,h.k.imp fun _ q=>⟨q.1.fr f (fun r=>by rcases r with r|r;exact k4 r;exact k6 r),q.2⟩,hvs.trans h.vs,hps.trans h.ps,out,inn,fun p hp=>(h.pa p hp).fr f ?_,fun l hl=>(hat l hl).2.2,ends,loop,lnd,?_,?_⟩
 · rintro (r|r);exact a3 r;exact a5 r
 · rintro (r|r);exact b2 r;exact b4 r
 · rintro (r|⟨l,hl,r⟩)
   · exact n5 _ r _ (.inl ⟨p,hp,rfl⟩) rfl
   · exact n4 _ ⟨p,hp,rfl⟩ _ ⟨l,hl,rfl⟩ r.symm
 · have nb:∀ b,b < w.heap.size→b∉G.c.own→b∉c'.own:=fun b hb hn q=>by rcases hown b q with r|r;exact hn r;omega
   have hb:∀ l∈lks,l.at_≠G.gB∧l.at_≠G.tB∧l.at_≠G.sB∧l.at_∉c'.own∧l.at_∉G.pts.map (·.at_):=fun l hl=>by
     have:=(hat l hl).2.1
     simp only [GS.base,List.mem_cons,List.mem_append,not_or] at this
     exact ⟨this.1,this.2.1,this.2.2.1,nb _ (hat l hl).1 this.2.2.2.2.1,this.2.2.2.2.2⟩
   show (G.gB :: G.tB :: G.sB :: (c'.own ++ (G.pts.map (·.at_) ++ lks.map (·.at_)))).Nodup
   simp only [List.nodup_cons,List.mem_cons,List.mem_append,List.nodup_append,List.mem_map,not_or]
   refine ⟨⟨a1,a2,nb _ lg.1 a3,a4,?_⟩,⟨b1,nb _ lg.2.1 b2,b3,?_⟩,⟨nb _ lg.2.2 d1,d2,?_⟩,hs.nd,⟨n2,hnd,?_⟩,?_⟩
   · rintro ⟨l,hl,e⟩;exact (hb l hl).1 e
   · rintro ⟨l,hl,e⟩;exact (hb l hl).2.1 e
   · rintro ⟨l,hl,e⟩;exact (hb l hl).2.2.1 e
   · rintro _ ⟨p,hp,rfl⟩ _ ⟨l,hl,rfl⟩ e
     exact (hb l hl).2.2.2.2 (List.mem_map.2 ⟨p,hp,e⟩)
   · rintro b hb1 _ (⟨p,hp,rfl⟩|⟨l,hl,rfl⟩) e
     · rw [e] at hb1
       refine nb _ (h.pa p hp).lt (fun r=>n5 _ r _ (.inl ⟨p,hp,rfl⟩) rfl) hb1
     · rw [e] at hb1
       exact (hb l hl).2.2.2.1 hb1
 · intro q
   have q':G.kB∈G.gB :: G.tB :: G.sB :: (c'.own ++ (G.pts.map (·.at_) ++ lks.map (·.at_))):=q
   simp only [List.mem_cons,List.mem_append,List.mem_map] at q'
   rcases q' with r|r|r|r|r|⟨l,hl,r⟩
   · exact k1 r
   · exact k2 r
   · exact k3 r
   · rcases hown _ r with s|s
     · exact k4 s
     · omega
   · exact k5 r
   · have:=(hat l hl).2.1
     simp only [GS.base,List.mem_cons,List.mem_append,not_or] at this
     exact this.2.2.2.1 r
theorem GRep.latOk {w:World} {G:GS} (h:GRep w G):(∀ l∈G.lks,l.at_ < w.heap.size∧l.at_∉G.base)∧(G.lks.map (·.at_)).Nodup:=by
 have hN:=h.nd
 have hkn:=h.kn
 simp only [GS.own,List.nodup_cons,List.mem_cons,List.mem_append,List.nodup_append,List.mem_map,not_or] at hN hkn
 obtain ⟨⟨a1,a2,a3,a4,a5⟩,⟨b1,b2,b3,b4⟩,⟨d1,d2,d3⟩,n1,⟨n2,n3,n4⟩,n5⟩:=hN
 obtain ⟨k1,k2,k3,k4,k5,k6⟩:=hkn
 refine ⟨fun l hl=>⟨(h.la l hl).lt,?_⟩,n3⟩
 simp only [GS.base,List.mem_cons,List.mem_append,List.mem_map,not_or]
 refine ⟨fun e=>a5 ⟨l,hl,e⟩,fun e=>b4 ⟨l,hl,e⟩,fun e=>d3 ⟨l,hl,e⟩,fun e=>k6 ⟨l,hl,e⟩,fun e=>n5 _ e _ (.inr ⟨l,hl,rfl⟩) rfl,?_⟩
 rintro ⟨p,hp,e⟩
 exact n4 _ ⟨p,hp,rfl⟩ _ ⟨l,hl,rfl⟩ e
theorem findL_none {dir:Bool} {lks:List Lk} {a b:ByteArray}:findL dir lks a b=none↔∀ l∈lks,l.hit dir a b=false:=by simp [findL]
theorem findL_snoc (dir:Bool) (lks:List Lk) (l:Lk) (x y:ByteArray):findL dir (lks ++ [l]) x y=(findL dir lks x y).or (if l.hit dir x y then some l else none):=by
 unfold findL
 rw [List.find?_append]
 congr 1
 cases hh:l.hit dir x y
 · simp [hh]
 · simp [hh]
theorem hit_self (dir:Bool) (l:Lk):l.hit dir l.a l.b=true:=by simp [Lk.hit]
theorem hit_false_swap {l:Lk} {x y:ByteArray}:l.hit false x y=l.hit false y x:=by unfold Lk.hit;simp [Bool.or_comm]
theorem hit_sym {dir:Bool} {l m:Lk} (h:l.hit dir m.a m.b=false):m.hit dir l.a l.b=false:=by
 cases hm:m.hit dir l.a l.b with
 | false=>rfl
 | true =>
   rcases hit_cases hm with ⟨e1,e2⟩|⟨hd,e1,e2⟩
   · rw [e1,e2,hit_self] at h;cases h
   · subst hd
     rw [e1,e2,hit_false_swap,hit_self] at h;cases h
theorem lnd_snoc {dir:Bool} {lks:List Lk} {l:Lk} (h:lks.Pairwise fun l m=>m.hit dir l.a l.b=false) (hl:findL dir lks l.a l.b=none):(lks ++ [l]).Pairwise fun l m=>m.hit dir l.a l.b=false:=by
 refine List.pairwise_append.2 ⟨h,by simp,fun x hx y hy => ?_⟩
 simp only [List.mem_singleton] at hy
 subst hy
 exact hit_sym (findL_none.1 hl x hx)
theorem GRep.addL {w w':World} {G:GS} (h:GRep w G) {c':St1} (hs:SRep w' G.sB c') (hvs:c'.vs=G.c.vs) (hps:c'.ps=G.c.ps) (hown:∀ b∈c'.own,b∈G.c.own∨w.heap.size≤b)
   (f:Fr (· ∈ G.c.own) w w') (l:Lk) (hm:SM w l.at_ (ats l.es)) (hfresh:l.at_∉G.own) (hk:l.at_≠G.kB) (hl:findL G.dir G.lks l.a l.b=none)
   (hpa:∃ p∈G.pts,p.h=l.a) (hpb:∃ p∈G.pts,p.h=l.b) (hloop:G.dir=false→l.a≠l.b)
   (out:∀ x y,edgeAt c'.outs c'.inn x y=if l.hit G.dir x y then some (ev x y l.at_ l.wt) else edgeAt G.c.outs G.c.inn x y)
   (inn:∀ x y,edgeAt c'.inns c'.inn y x=if l.hit G.dir x y then some (ev x y l.at_ l.wt) else edgeAt G.c.inns G.c.inn y x) :
   GRep w' { G with c:=c',lks:=G.lks ++ [l] }:=by
 have lo:=h.latOk
 have hf2:l.at_∉G.base∧l.at_∉G.c.own∧l.at_∉G.lks.map (·.at_):=by
   simp only [GS.own,List.mem_cons,List.mem_append,not_or] at hfresh
   simp only [GS.base,List.mem_cons,List.mem_append,not_or]
   exact ⟨⟨hfresh.1,hfresh.2.1,hfresh.2.2.1,hk,hfresh.2.2.2.1,hfresh.2.2.2.2.1⟩,hfresh.2.2.2.1,hfresh.2.2.2.2.2⟩
 have hhit:∀ x y,l.hit G.dir x y=true→findL G.dir G.lks x y=none:=by
   intro x y hx
   rcases hit_cases hx with ⟨e1,e2⟩|⟨hd,e1,e2⟩
   · rw [← e1,← e2];exact hl
   · rw [hd] at hl ⊢;rw [findL_swap,← e1,← e2];exact hl
 have eq:∀ x y,(findL G.dir (G.lks ++ [l]) x y).map (fun l=>ev x y l.at_ l.wt)=if l.hit G.dir x y then some (ev x y l.at_ l.wt) else (findL G.dir G.lks x y).map fun l=>ev x y l.at_ l.wt:=by
   intro x y
   rw [findL_snoc]
   cases hx:l.hit G.dir x y with
   | true=>rw [hhit x y hx];rfl
   | false=>simp
 refine h.setL hs hvs hps hown (f.mono fun _ q=>.inl q) ?_ ?_ (fun x y => ?_) (fun x y => ?_) ?_ ?_ (lnd_snoc h.lnd hl)
 · intro m hm'
   rcases List.mem_append.1 hm' with q|q
   · obtain ⟨q1,q2⟩:=lo.1 m q
     refine ⟨q1,q2,(h.la m q).fr f fun r=>q2 ?_⟩
     simp only [GS.base,List.mem_cons,List.mem_append]
     exact .inr (.inr (.inr (.inr (.inl r))))
   · simp only [List.mem_singleton] at q
     subst q
     exact ⟨hm.lt,hf2.1,hm.fr f hf2.2.1⟩
 · rw [List.map_append]
   refine List.nodup_append.2 ⟨lo.2,by simp,fun x hx y hy e => ?_⟩
   simp only [List.map_cons,List.map_nil,List.mem_singleton] at hy
   rw [e,hy] at hx
   exact hf2.2.2 hx
 · rw [out,eq,h.out]
 · rw [inn,eq,h.inn]
 · intro m hm'
   rcases List.mem_append.1 hm' with q|q
   · exact h.ends m q
   · simp only [List.mem_singleton] at q
     subst q
     exact ⟨hpa,hpb⟩
 · intro hd m hm'
   rcases List.mem_append.1 hm' with q|q
   · exact h.loop hd m q
   · simp only [List.mem_singleton] at q
     subst q
     exact hloop hd
end Go.Proofs.YtbafaadmlpamiaaGreatDoor
