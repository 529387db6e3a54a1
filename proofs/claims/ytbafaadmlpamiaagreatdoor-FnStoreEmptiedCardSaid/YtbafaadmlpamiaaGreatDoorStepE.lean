/- doStep, op by op: those that tell nothing but an error: RemoveVertex, AddEdge, RemoveEdge, UpdateEdge, of both kinds of graphs. -/
import Derived.Test.YtbafaadmlpamiaaGreatDoorB2
namespace Go.Proofs.YtbafaadmlpamiaaGreatDoor
open Go Go.Hy Go.RowKit
theorem mdE1 (v : Value) (w : World) : (Go.method 419 162 v "RemoveVertex").run Tryz.prog w = .ok (184, v) w := by kernel_rfl
theorem mdE3 (v : Value) (w : World) : (Go.method 419 162 v "RemoveEdge").run Tryz.prog w = .ok (183, v) w := by kernel_rfl
theorem mdE4 (v : Value) (w : World) : (Go.method 419 162 v "UpdateEdge").run Tryz.prog w = .ok (187, v) w := by kernel_rfl
theorem mdE2 (v : Value) (w : World) : (Go.method 419 162 v "AddEdge").run Tryz.prog w = .ok (173, v) w := by kernel_rfl
theorem muE1 (v : Value) (w : World) : (Go.method 419 164 v "RemoveVertex").run Tryz.prog w = .ok (209, v) w := by kernel_rfl
theorem muE3 (v : Value) (w : World) : (Go.method 419 164 v "RemoveEdge").run Tryz.prog w = .ok (208, v) w := by kernel_rfl
theorem muE4 (v : Value) (w : World) : (Go.method 419 164 v "UpdateEdge").run Tryz.prog w = .ok (212, v) w := by kernel_rfl
theorem muE2 (v : Value) (w : World) : (Go.method 419 164 v "AddEdge").run Tryz.prog w = .ok (198, v) w := by kernel_rfl
abbrev EPost (eb : Nat → Addr) (G : GS) (R : Int → GS → Prop) (w' : World) (e : Ending) (w2 : World) : Prop := ∃ ev : EV,ev.ok ∧ e = .returned (ev.val eb) ∧ ∃ G',R ev.code G' ∧ GStep w' G w2 G'
abbrev ECall1 (w : World) (eb : Nat → Addr) (G : GS) (R : Int → GS → Prop) (a : ByteArray) (F : Nat) : Prop :=
 ∀ w',Fr0 w w' → Calls Tryz.prog F #[.pointer (some ⟨G.gB,0,none⟩), .string a] w' (EPost eb G R w')
abbrev ECall3 (w : World) (eb : Nat → Addr) (G : GS) (R : Int → GS → Prop) (a b : ByteArray) (F : Nat) : Prop :=
 ∀ w',Fr0 w w' → Calls Tryz.prog F #[.pointer (some ⟨G.gB,0,none⟩), .string a, .string b] w' (EPost eb G R w')
abbrev ECall4 (w : World) (eb : Nat → Addr) (G : GS) (R : Int → GS → Prop) (a b : ByteArray) (wt : Int) (prs : List (ByteArray × ByteArray)) (F : Nat) : Prop :=
 ∀ w',Fr0 w w' → ∀ (ov : Value) (os : List Opt),Opts w' ov os Opt.eV → (∀ s0 : PS,os.foldl Opt.app s0 = (wt,prs.foldl (fun es p => putA es p.1 p.2) s0.2)) →
   Calls Tryz.prog F #[.pointer (some ⟨G.gB,0,none⟩), .string a, .string b,ov] w' (EPost eb G R w')
set_option maxHeartbeats 4000000 in
set_option maxRecDepth 100000 in
set_option linter.unusedSimpArgs false in
theorem stepEw (w : World) (G : GS) (h : GRep w G) (T : TypeId) (op : Nat) (b0 b1 b2 b3 b4 b5 : Bool) (hk : Nat) (a b : ByteArray) (wt : Int) (ao : Option Addr) (n cap : Nat) (prs : List (ByteArray × ByteArray)) (hp : PrOk w ao n cap prs) (B : Nat) (eb : Nat → Addr) (E : ErrsOk w B eb) (hB : ∀ k ∈ G.own,B ≤ k) (R : Int → GS → Prop)
   (HC : (T = 162 ∧ op = 1 ∧ ECall1 w eb G R a 184) ∨ (T = 164 ∧ op = 1 ∧ ECall1 w eb G R a 209) ∨ (T = 162 ∧ op = 3 ∧ ECall3 w eb G R a b 183) ∨ (T = 164 ∧ op = 3 ∧ ECall3 w eb G R a b 208) ∨
     (T = 162 ∧ op = 4 ∧ ECall4 w eb G R a b wt prs 187) ∨ (T = 164 ∧ op = 4 ∧ ECall4 w eb G R a b wt prs 212) ∨ (T = 162 ∧ op = 2 ∧ ECall4 w eb G R a b wt prs 173) ∨ (T = 164 ∧ op = 2 ∧ ECall4 w eb G R a b wt prs 198)) :
   Calls Tryz.prog 39 #[.iface T (.pointer (some ⟨G.gB,0,none⟩)),kagg b0 b1 b2 b3 b4 b5 hk,doV op a b wt ao n cap] w fun e w' => ∃ (c : Int) (G' : GS),e = .returned (toldE c) ∧ R c G' ∧ GStep w G w' G' := by
 have HC0 := Lib.hid HC
 have E0 := Lib.hid E
 clear HC E
 have mA1 := mdE1
 have mA2 := muE1
 have mA3 := mdE3
 have mA4 := muE3
 have mA5 := mdE4
 have mA6 := muE4
 have mA7 := mdE2
 have mA8 := muE2
 obtain ⟨hn,hcap,hsm,hat⟩ := hp
 have P := Lib.hid hat
 have HG := Lib.hid h
 subst hn
 clear hat h
 go_enter Tryz.func39,Tryz.ntmps39
 go_wp2_with (first
   | (go_at_call 64;refine (ew _ wt).mono ?_;rintro e w1 ⟨rfl,rfl⟩)
   | (go_at_call 65;refine (vw _ wt).mono ?_;rintro e w1 ⟨rfl,rfl⟩))
 try go_frame
 go_loopg [8,9,45] prs.length (fun k v8 v9 c wr => DL (stepW w b0 b1 b2 b3 b4 b5 hk op a b wt ao prs.length cap) wt prs k v8 v9 c wr)
 case atStart =>
   have := DL.start (wB := stepW w b0 b1 b2 b3 b4 b5 hk op a b wt ao prs.length cap) wt prs
   have zz : (stepW w b0 b1 b2 b3 b4 b5 hk op a b wt ao prs.length cap).heap.size = w.heap.size + 1 + 1 + 1 + 1 := by simp [stepW]
   rw [zz] at this
   exact this
 case round =>
   obtain ⟨i,oE,oV,hk',rfl,hE,hV,lE,lV,aE,aV,hap,f⟩ := hrel
   have A := hid9 hk' hE hV lE lV aE aV hap f
   clear hk' hE hV lE lV aE aV hap f
   by_cases hi : i < prs.length
   · have hg := List.getElem?_eq_getElem hi
     obtain ⟨ob,rfl,hob,p0,p1⟩ := P.out i _ hg
     have FW := Lib.hid (show Fr0 w wr from (show Fr0 w (stepW w b0 b1 b2 b3 b4 b5 hk op a b wt (some ⟨ob,0,none⟩) prs.length cap) from by unfold stepW;((repeat' with_reducible first|assumption|exact frR|apply frD|apply frN|apply frA|apply frM|apply frC);all_goals (simp;try omega))).trans0 A.out.2.2.2.2.2.2.2.2)
     have q0 := (FW.out.cell (p := ⟨ob,i * 2,none⟩) hob (fun q => q)).trans p0
     have q1 := (FW.out.cell (p := ⟨ob,i * 2 + 1,none⟩) hob (fun q => q)).trans p1
     have HGI := Lib.hid hg
     generalize prs[i] = pr at q0 q1 HGI
     clear p0 p1 hg
     go_wp2_with fail
     refine (ea _ pr.1 pr.2).mono ?_
     rintro e w1 ⟨rfl,hw1⟩
     have OK1 := Lib.hid (optE hw1)
     clear hw1
     go_wp2_with (first
       | (at_builtin;refine wl_app1 (w := w1) 124 rfl (.tmp 49) (.tmp 55) rfl 122 _ 1 8 Tryz.underlying124 info122 rfl (by decide) (by decide) _ u8 oE.length (oE.map Opt.eV) rfl (A.out.2.1.fr0 OK1.out.1).own #[(Opt.at_ pr.1 pr.2 (wr.heap.size + 1 + 1) (wr.heap.size + 1)).eV] w1.heap.size rfl rfl rfl (by simp [Value.oneCell',Opt.eV]) (by have := A.out.2.2.2.1;omega) (by have h1 := A.out.2.2.2.2.2.2.2.2.size;have h2 := OK1.out.1.size;omega) ?_))
     intro v8' w2 ho8 g8 _
     have hw1 := OK1.out.1.size
     have pb2 : Cells w2 wr.heap.size #[.string pr.1, .string pr.2] 68 := OK1.out.2.2.fr g8 (fun q => by have := (A.out.2.1.own.lt _ q).2;omega)
     have e0 := pb2.cell 0 _ rfl
     have e1 := pb2.cell 1 _ rfl
     have el := pb2.lt
     have OK2 := hid2 ho8 g8
     clear ho8 g8 pb2
     go_wp2_with fail
     refine (va _ pr.1 pr.2).mono ?_
     rintro e w3 ⟨rfl,hw3⟩
     have OK3 := Lib.hid (optV hw3)
     have V2 := Lib.hid (show w3.ownsRow (stepW w b0 b1 b2 b3 b4 b5 hk op a b wt (some ⟨ob,0,none⟩) prs.length cap).heap.size 125 1 u9 oV.length (oV.map Opt.vV) from
       ownsRow_fr (ownsRow_fr (A.out.2.2.1.fr0 OK1.out.1).own OK2.out.2 fun q hq => own_type (A.out.2.2.1.fr0 OK1.out.1).own (A.out.2.1.fr0 OK1.out.1).own (by decide) q hq) OK3.out.1 fun _ _ q => q)
     clear hw3
     go_wp2_with (first
       | (at_builtin;refine wl_app1 (w := w3) 127 rfl (.tmp 57) (.tmp 63) rfl 125 _ 1 8 Tryz.underlying127 info125 rfl (by decide) (by decide) _ u9 oV.length (oV.map Opt.vV) rfl V2.out #[(Opt.at_ pr.1 pr.2 (w2.heap.size + 1) w2.heap.size).vV] w3.heap.size rfl rfl rfl (by simp [Value.oneCell',Opt.vV]) (by have := A.out.2.2.2.2.1;omega) (by have h1 := A.out.2.2.2.2.2.2.2.2.size;have h2 := OK3.out.1.size;have h3 := OK2.out.2.size;omega) ?_))
     intro v9' w4 ho9 g9 _
     have OK4 := hid2 ho9 g9
     clear ho9 g9
     go_wp2_with fail
     obtain ⟨hk',hE,hV,lE,lV,aE,aV,hap,f⟩ := A.out
     have R := DL.step hk' hi HGI.out hE hV lE lV aE aV f OK1.out.1 OK1.out.2.1 OK2.out.1 OK2.out.2 OK3.out.1 OK3.out.2 OK4.out.1 OK4.out.2
     go_roundg (gk - 1)
     case measure => exact R.1
     case rel => exact R.2
   · have hi' : i = prs.length := by have := A.out.1;omega
     subst hi'
     have SBB := stepB A.out.2.2.2.2.2.2.2.2
     have FW := Lib.hid SBB.1
     have sB := SBB.2.1
     have s0 := sB.cell 0 _ rfl
     have s1 := sB.cell 1 _ rfl
     have s2 := sB.cell 2 _ rfl
     have sl := sB.lt
     have TB := Lib.hid SBB.2.2.2
     have RB := Lib.hid SBB.2.2.1
     clear sB SBB
     have HT := Lib.hid (show ∀ k,k ∈ G.own → k < w.heap.size from HG.out.lt)
     have NV := Lib.hid (show oE ≠ [] from by intro q;have := A.out.2.2.2.1;rw [q] at this;simp at this)
     have HR := Lib.hid (HG.out.fr FW.out (fun _ _ q => q) (fun q => q))
     have ER := Lib.hid (E0.out.fr FW.out (fun _ q => q.elim))
     have szr := A.out.2.2.2.2.2.2.2.2.size
     have szw : (stepW w b0 b1 b2 b3 b4 b5 hk op a b wt ao prs.length cap).heap.size = w.heap.size + 1 + 1 + 1 + 1 := by simp [stepW]
     have SZ := Lib.hid (show w.heap.size + 4 ≤ wr.heap.size from by omega)
     clear szr szw
     have HD := HC0.out
     clear HC0
     rcases HD with HD|HD|HD|HD|HD|HD|HD|HD
     all_goals
       obtain ⟨e1,e2,HC⟩ := HD
       subst e1 e2
       have HC5 := Lib.hid HC
       clear HC
       go_wp2_with fail
       first
         | refine (HC5.out wr FW.out).mono ?_
         | refine (HC5.out wr FW.out u8 oE (A.out.2.1.opts NV.out (by have := A.out.2.2.2.1;omega)) (fun s0 => by have := A.out.2.2.2.2.2.1 s0;rw [List.take_length] at this;exact this)).mono ?_
       rintro e w5 ⟨ev,hev,rfl,G',hr,g⟩
       have tb5 := TB.out.fr g.fr (fun q => by have := HT.out _ q;omega)
       have E5 := Lib.hid (ER.out.fr g.fr (fun k q => hB k q))
       have rb5 := RB.out.fr g.fr (fun q => by have := HT.out _ q;omega)
       have R5 := hid4 hr g tb5 rb5
       clear hr g tb5 rb5
       go_wp2_with fail
       refine (errorof w5 B eb E5.out ev hev).mono ?_
       rintro e w6 ⟨rfl,f6⟩
       have TB6 := Lib.hid (R5.out.2.2.1.fr f6 (fun q => q))
       have RB6 := Lib.hid (R5.out.2.2.2.fr f6 (fun q => q))
       have FF := Lib.hid f6
       clear f6
       have y0 := TB6.out.free 0
       obtain ⟨t0,t1,t2,t3,t4,t5,t6,t7,t8,t9⟩ := TB6.out.ten;have tl := TB6.out.lt;obtain ⟨r0,r1,r2,r3,r4,r5,r6,r7,r8,r9⟩ := RB6.out.ten;obtain ⟨z0,z1,z2,z3,z4,z5,z6,z7,z8,z9⟩ := RB6.out.tenf;have rl := RB6.out.lt
       go_wp2_with fail
       refine bodyPost_ret (v := toldE ev.code) (by simp [results,Tryz.results39,go_sem, *]) rfl ⟨ev.code,G',rfl,R5.out.1, ?_⟩
       exact GStep.fin HG.out FW.out R5.out.2.1 (S := fun k => k = w.heap.size + 1 + 1 ∨ k = w.heap.size + 1 + 1 + 1) (Fr.trans (FF.out.mono fun _ q => q.elim) (fr_boxes w6 (w.heap.size + 1 + 1) (w.heap.size + 1 + 1 + 1) _ _ _ _ _ _ _ _ _ _ _) fun _ q => .inl q) fun k q => by have := SZ.out;omega
end Go.Proofs.YtbafaadmlpamiaaGreatDoor
