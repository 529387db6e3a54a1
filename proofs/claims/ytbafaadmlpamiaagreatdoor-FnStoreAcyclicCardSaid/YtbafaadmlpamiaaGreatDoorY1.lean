/- Y1: Acy1, Acy. -/
import Derived.Test.YtbafaadmlpamiaaGreatDoorA8
import Derived.Test.YtbafaadmlpamiaaGreatDoorS5
namespace Go.Proofs.YtbafaadmlpamiaaGreatDoor
open Go Go.Hy Go.RowKit
theorem Reach.mono {ls ms : List SL} (h : ∀ l ∈ ls,l ∈ ms) {a b : ByteArray} (r : Reach ls a b) : Reach ms a b := by
 induction r with
 | refl => exact .refl
 | step _ hl he ih => exact .step ih (h _ hl) he
theorem Reach.trans {ls : List SL} {a b c : ByteArray} (r : Reach ls a b) (q : Reach ls b c) : Reach ls a c := by
 induction q with
 | refl => exact r
 | step _ hl he ih => exact .step ih hl he
theorem Reach.add {ls : List SL} {n : SL} {x y : ByteArray} (r : Reach (ls ++ [n]) x y) : Reach ls x y ∨ (Reach ls x n.a ∧ Reach ls n.b y) := by
 induction r with
 | refl => exact .inl .refl
 | step _ hl he ih =>
   rcases List.mem_append.1 hl with q|q
   · rcases ih with r|⟨r1,r2⟩
     · exact .inl (.step r q he)
     · exact .inr ⟨r1, .step r2 q he⟩
   · simp only [List.mem_singleton] at q
     subst q
     rcases ih with r|⟨r1,_⟩
     · exact .inr ⟨by rw [he];exact r, .refl⟩
     · exact .inr ⟨r1, .refl⟩
theorem Reach.of_map {ls : List SL} {f : SL → SL} (hf : ∀ l,(f l).a = l.a ∧ (f l).b = l.b) {a b : ByteArray} (r : Reach (ls.map f) a b) : Reach ls a b := by
 induction r with
 | refl => exact .refl
 | step _ hl he ih =>
   obtain ⟨l,hm,rfl⟩ := List.mem_map.1 hl
   rw [(hf l).2]
   exact .step ih hm ((hf l).1.symm.trans he)
def Acy (s : St) : Prop := ∀ l ∈ s.ls, ¬ Reach s.ls l.b l.a
theorem Acy.step {s : St} (h : Acy s) (hp : s.pr = true) (d : DoIn) : Acy (s.step d).2 := by
 unfold St.step
 split
 · unfold St.addV;split <;> exact h
 · unfold St.rmV
   split
   · exact h
   · split <;> exact h
 · unfold St.addE
   split
   · split
     · exact h
     · split
       · exact h
       · rename_i hn
         have hr : ¬ Reach s.ls d.b d.a := fun q => hn ⟨hp,q⟩
         intro l hl r
         have hl : l ∈ s.ls ++ [⟨d.a,d.b,d.wt,byK d.prs⟩] := hl
         have r : Reach (s.ls ++ [⟨d.a,d.b,d.wt,byK d.prs⟩]) l.b l.a := r
         rcases List.mem_append.1 hl with q|q
         · rcases r.add with r|⟨r1,r2⟩
           · exact h l q r
           · exact hr ((Reach.step r2 q rfl).trans r1)
         · simp only [List.mem_singleton] at q
           subst q
           rcases r.add with r|⟨r1,_⟩
           · exact hr r
           · exact hr r1
   · exact h
 · unfold St.rmE
   split
   · exact h
   · intro l hl r
     exact h l (List.mem_filter.1 hl).1 (r.mono fun m hm => (List.mem_filter.1 hm).1)
 · unfold St.updE
   split
   · exact h
   · have hf : ∀ l : SL,(if l.hit s.dir d.a d.b = true then (⟨l.a,l.b,d.wt,byK (l.es ++ d.prs)⟩ : SL) else l).a = l.a ∧ (if l.hit s.dir d.a d.b = true then (⟨l.a,l.b,d.wt,byK (l.es ++ d.prs)⟩ : SL) else l).b = l.b := fun l => by split <;> exact ⟨rfl,rfl⟩
     intro l hl r
     obtain ⟨m,hm,rfl⟩ := List.mem_map.1 hl
     have r2 := Reach.of_map hf r
     rw [(hf m).1,(hf m).2] at r2
     exact h m hm r2
 all_goals exact h
theorem acy_after : ∀ (ds : List DoIn) (s : St),Acy s → s.pr = true → Acy (s.after ds)
 | [],_,h,_ => h
 | d :: ds,s,h,hp => by
   unfold St.after
   exact acy_after ds _ (h.step hp d) ((s.step_same d).2.1.trans hp)
end Go.Proofs.YtbafaadmlpamiaaGreatDoor
namespace Go.Proofs.YtbafaadmlpamiaaGreatDoor
open Go Go.Hy Go.RowKit
set_option maxRecDepth 100000 in
set_option maxHeartbeats 4000000 in
theorem cyc29 (w : World) (sb : Nat) (s : St) (h : ZRep w sb s) (hs : Small s) :
   Calls Tryz.prog 29 #[.pointer (some ⟨sb,0,none⟩)] w fun e w' => ∃ r : Bool,e = .returned (.bool r) ∧ (r = true → ∃ l ∈ s.ls,Reach s.ls l.b l.a) ∧ Fr0 w w' := by
 have H := Lib.hid h
 have HS := Lib.hid hs
 obtain ⟨b1,b2,b3,b4,pv,lv,hc, -,hl⟩ := h
 obtain ⟨la,lc,rfl, -⟩ := hl.form
 have c8 := hc.cell 8 _ rfl
 have HL := Lib.hid hl
 clear hc hl hs
 go_enter Tryz.func29,Tryz.ntmps29
 go_wp2_with fail
 go_loopg [10] s.ls.length (fun k c wr => ∃ i : Nat,k + i = s.ls.length ∧ c = .int .i64 (i : Nat) ∧ Fr0 w wr)
 case atStart => exact ⟨0,rfl,rfl,Fr.refl _ _⟩
 case round =>
   obtain ⟨i,hk,rfl,f⟩ := hrel
   have A := hid2 hk f
   clear hk f
   by_cases hi : i < s.ls.length
   · have hg := List.getElem?_eq_getElem hi
     obtain ⟨ol,cl,xv,e',hl2,_,c0,c1,c2,c3,hxv⟩ := (HL.out.fr A.out.2 (fun _ _ _ q => q)).at_ hg
     cases e'
     generalize s.ls[i] = x at c0 c1 c2 c3 hxv hg
     have HX := Lib.hid (List.mem_of_getElem? hg)
     obtain ⟨xa,xc,rfl⟩ := hxv.form
     have FA := Lib.hid ((Fr.refl (fun _ => False) wr).alloc (.cells #[.string x.a, .string x.b, .int .i64 x.wt, .slice xa x.es.length xc] 72))
     clear hg hxv
     go_wp2_with fail
     refine (reach46 _ sb s (H.out.fr0 (A.out.2.trans0 FA.out)) HS.out x.b x.a).mono ?_
     rintro e w9 ⟨r,rfl,hr,f9⟩
     have F9 := Lib.hid (A.out.2.trans0 (FA.out.trans0 f9))
     have HR := Lib.hid hr
     clear f9 hr
     cases r with
     | true =>
       go_wp2_with fail
       go_ret
       exact ⟨true,rfl,fun _ => ⟨x,HX.out,HR.out.1 (by first|rfl|trivial)⟩,F9.out⟩
     | false =>
       go_wp2_with fail
       go_roundg (gk - 1)
       case measure => have := A.out.1;omega
       case rel => exact ⟨i + 1,by have := A.out.1;omega,by simp [w64y (Nat.le_trans HS.out.ls (by decide)) hi],F9.out⟩
   · go_wp2_with fail
     go_ret
     exact ⟨false,rfl,fun q => (by cases q),A.out.2⟩
set_option linter.unusedSimpArgs false in
set_option maxRecDepth 100000 in
set_option maxHeartbeats 4000000 in
theorem fp7 (w : World) (b0 b1 b2 b3 b4 b5 : Bool) (hk : Nat) (v : Value) (ds : List DoIn) (h : SDosAt w v ds) (B : Nat) (eb : Nat → Addr) (E : ErrsOk w B eb) :
   Calls Tryz.prog 7 #[kagg b0 b1 b2 b3 b4 b5 hk,v] w fun e w' => e = .returned (.bool true) ∧ Fr0 w w' := by
 have E0 := Lib.hid E
 have HD := Lib.hid h
 obtain ⟨av,cv,rfl, -⟩ := h
 clear E
 have KB := Lib.hid (Cells.new w #[.bool b0, .bool b1, .bool b2, .bool b3, .bool b4, .bool b5, .int .u8 hk] 52)
 have FB := Lib.hid ((Fr.refl (fun _ => False) w).alloc (.cells #[.bool b0, .bool b1, .bool b2, .bool b3, .bool b4, .bool b5, .int .u8 hk] 52))
 go_enter Tryz.func7,Tryz.ntmps7
 go_wp2_with fail
 generalize w.alloc (.cells #[.bool b0, .bool b1, .bool b2, .bool b3, .bool b4, .bool b5, .int .u8 hk] 52) = W at *
 refine (zz1 W _ ds (HD.out.fr FB.out)).mono ?_
 rintro e w1 ⟨r,rfl,hr,f1⟩
 have F1 := Lib.hid f1
 have HR1 := Lib.hid hr
 clear hr f1
 cases r with
 | false =>
   go_wp2_with fail
   go_ret
   exact ⟨rfl,FB.out.trans0 F1.out⟩
 | true =>
   have KB1 := Lib.hid (KB.out.fr F1.out (fun q => q))
   (have k0 := KB1.out.cell 0 _ rfl;have k1 := KB1.out.cell 1 _ rfl;have k2 := KB1.out.cell 2 _ rfl;have k3 := KB1.out.cell 3 _ rfl;have k4 := KB1.out.cell 4 _ rfl;have k5 := KB1.out.cell 5 _ rfl;have k6 := KB1.out.cell 6 _ rfl)
   cases b5 with
   | false => (go_wp2_with fail;refine (aw17 w1 B eb (E0.out.fr (FB.out.trans0 F1.out) (fun _ q => q.elim))).mono ?_;rintro e w9 ⟨rfl,f9⟩;have F9 := Lib.hid f9;clear f9;go_wp2_with fail;go_ret;exact ⟨rfl,(FB.out.trans0 F1.out).trans0 F9.out⟩)
   | true =>
     go_wp2_with fail
     refine (kindr w1 b0 b1 b2 b3 b4 true hk).mono ?_
     rintro e w2 ⟨r2,rfl,hr2,f2⟩
     have F2 := Lib.hid (F1.out.trans0 f2)
     have HR2 := Lib.hid hr2
     have KB2 := Lib.hid (KB.out.fr F2.out (fun q => q))
     clear hr2 f2 k0 k1 k2 k3 k4 k5 k6
     (have k0 := KB2.out.cell 0 _ rfl;have k1 := KB2.out.cell 1 _ rfl;have k2 := KB2.out.cell 2 _ rfl;have k3 := KB2.out.cell 3 _ rfl;have k4 := KB2.out.cell 4 _ rfl;have k5 := KB2.out.cell 5 _ rfl;have k6 := KB2.out.cell 6 _ rfl)
     cases r2 with
     | false => (go_wp2_with fail;refine (aw17 w2 B eb (E0.out.fr (FB.out.trans0 F2.out) (fun _ q => q.elim))).mono ?_;rintro e w9 ⟨rfl,f9⟩;have F9 := Lib.hid f9;clear f9;go_wp2_with fail;go_ret;exact ⟨rfl,(FB.out.trans0 F2.out).trans0 F9.out⟩)
     | true =>
       have HL := HR1.out (by first|rfl|trivial)
       have RK := Lib.hid (HR2.out (by first|rfl|trivial))
       obtain rfl : b0 = true := RK.out.2 rfl
       go_wp2_with fail
       refine (dright w2 _ ds ((HD.out.fr FB.out).fr F2.out) HL.1 HL.2 true 120).mono ?_
       rintro e w3 ⟨r3,rfl,hr3,f3⟩
       have F3 := Lib.hid (F2.out.trans0 f3)
       have HR3 := Lib.hid hr3
       have KB3 := Lib.hid (KB.out.fr F3.out (fun q => q))
       clear hr3 f3 k0 k1 k2 k3 k4 k5 k6
       (have k0 := KB3.out.cell 0 _ rfl;have k1 := KB3.out.cell 1 _ rfl;have k2 := KB3.out.cell 2 _ rfl;have k3 := KB3.out.cell 3 _ rfl;have k4 := KB3.out.cell 4 _ rfl;have k5 := KB3.out.cell 5 _ rfl;have k6 := KB3.out.cell 6 _ rfl)
       cases r3 with
       | false => (go_wp2_with fail;refine (aw17 w3 B eb (E0.out.fr (FB.out.trans0 F3.out) (fun _ q => q.elim))).mono ?_;rintro e w9 ⟨rfl,f9⟩;have F9 := Lib.hid f9;clear f9;go_wp2_with fail;go_ret;exact ⟨rfl,(FB.out.trans0 F3.out).trans0 F9.out⟩)
       | true =>
         have RD := Lib.hid (HR3.out (by first|rfl|trivial))
         clear HL
         have hnd : ds.length ≤ 120 := RD.out.2
         have SA := Lib.hid (fit_at true b1 b2 b3 b4 true hk RK.out.1 ds (by omega) fun d hd => (RD.out.1 d hd).fit hk)
         go_wp2_with fail
         refine (new27 w3 true b1 b2 b3 b4 true hk (kst true b1 b2 b3 b4 true hk) (kst_dir ..) (kst_pr ..) rfl rfl rfl).mono ?_
         rintro e w4 ⟨sb,rfl,hsb,hz,f4⟩
         have Z4 := hid3 hz hsb f4
         clear hz hsb f4 k0 k1 k2 k3 k4 k5 k6
         go_wp2_with fail
         go_loopg [29] ds.length (fun n c wr => ∃ i : Nat,n + i = ds.length ∧ c = .int .i64 (i : Nat) ∧ ZRep wr sb ((kst true b1 b2 b3 b4 true hk).after (ds.take i)) ∧ Fr (fun q => q = sb) w4 wr)
         case atStart => exact ⟨0,rfl,rfl,Z4.out.1,Fr.refl _ _⟩
         case round =>
           obtain ⟨i,hki,rfl,hz,f⟩ := hrel
           have A := hid3 hki hz f
           have FW3 := Lib.hid (Fr.trans (S := fun _ => False) Z4.out.2.2 f (fun q e => .inr (by have := Z4.out.2.1;omega)) : Fr0 w3 wr)
           have FW := Lib.hid ((FB.out.trans0 F3.out).trans0 FW3.out)
           clear hki hz f
           by_cases hi : i < ds.length
           · have hg := List.getElem?_eq_getElem hi
             obtain ⟨ao',cap',e,hr⟩ := HD.out.fr FW.out
             cases e
             obtain ⟨od,off,pv,rfl,hl,c0,c1,c2,c3,c4,hpv⟩ := hr i _ hg
             have htk : ds.take (i + 1) = ds.take i ++ [ds[i]] := List.take_succ_eq_append_getElem hi
             generalize ds[i] = d at c0 c1 c2 c3 c4 hpv hg htk
             obtain ⟨pa,pc,rfl⟩ := hpv.form
             have NX := Lib.hid (show (kst true b1 b2 b3 b4 true hk).after (ds.take (i + 1)) = (((kst true b1 b2 b3 b4 true hk).after (ds.take i)).step d).2 from by rw [htk,St.after_snoc])
             have SI := Lib.hid (SA.out i d hg)
             have FA := Lib.hid ((Fr.refl (fun _ => False) wr).alloc (.cells #[.int .u8 d.op, .string d.a, .string d.b, .int .i64 d.wt, .slice pa d.prs.length pc] 28))
             have PV := Lib.hid (hpv.fr FA.out)
             clear hg hr htk hpv
             go_wp2_with fail
             refine (SI.out _ sb (.slice pa d.prs.length pc) (A.out.2.1.fr0 FA.out) PV.out).mono ?_
             rintro e w5 ⟨v5,rfl, -,hz5,f5⟩
             have Z5 := hid2 hz5 ((A.out.2.2.trans0 FA.out).trans f5 fun q hq => .inl hq)
             clear hz5 f5
             go_wp2_with fail
             go_roundg (gk - 1)
             case measure => have := A.out.1;omega
             case rel => exact ⟨i + 1,by have := A.out.1;omega,by simp [w64y (Nat.le_trans hnd (by decide)) hi],by rw [NX.out];exact Z5.out.1,Z5.out.2⟩
           · have hi' : i = ds.length := by have := A.out.1;omega
             subst hi'
             have hz := A.out.2.1
             rw [List.take_length] at hz
             have HZ := Lib.hid hz
             have KBE := Lib.hid (KB.out.fr (F3.out.trans0 FW3.out) (fun q => q))
             clear hz
             (have k0 := KBE.out.cell 0 _ rfl;have k1 := KBE.out.cell 1 _ rfl;have k2 := KBE.out.cell 2 _ rfl;have k3 := KBE.out.cell 3 _ rfl;have k4 := KBE.out.cell 4 _ rfl;have k5 := KBE.out.cell 5 _ rfl;have k6 := KBE.out.cell 6 _ rfl)
             go_wp2_with fail
             refine (run26A wr true b1 b2 b3 b4 true hk RK.out.1 (fun _ => rfl) _ ds (HD.out.fr FW.out) B eb (E0.out.fr FW.out (fun _ q => q.elim)) (by omega) (fun d hd => (RD.out.1 d hd).fit hk)).mono ?_
             rintro e w6 ⟨rfl,f6⟩
             have F6 := Lib.hid f6
             clear f6 k0 k1 k2 k3 k4 k5 k6
             have hsm := fit_small true b1 b2 b3 b4 true hk ds (by omega) (fun d hd => (RD.out.1 d hd).fit hk) ds.length
             rw [List.take_length] at hsm
             go_wp2_with fail
             refine (cyc29 _ sb _ (HZ.out.fr0 F6.out) hsm).mono ?_
             rintro e w7 ⟨r7,rfl,hr7,f7⟩
             have F7 := Lib.hid (FW.out.trans0 (F6.out.trans0 f7))
             obtain rfl : r7 = false := by
               cases r7 with
               | false => rfl
               | true =>
                 obtain ⟨l,hl,q⟩ := hr7 rfl
                 exact absurd q (acy_after ds _ (fun l hl => by cases hl) (kst_pr ..) l hl)
             clear f7 hr7 hsm
             go_wp2_with fail
             refine (aw17 w7 B eb (E0.out.fr F7.out (fun _ q => q.elim))).mono ?_
             rintro e w9 ⟨rfl,f9⟩
             have F9 := Lib.hid (F7.out.trans0 f9)
             clear f9
             go_wp2_with fail
             go_ret
             exact ⟨rfl,F9.out⟩
end Go.Proofs.YtbafaadmlpamiaaGreatDoor
