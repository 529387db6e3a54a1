/- FnStoreTwice: the walk. -/
import Derived.Test.YtbafaadmlpamiaaGreatDoorTwi0
namespace Go.Proofs.YtbafaadmlpamiaaGreatDoor
open Go Go.Hy Go.RowKit
def opq (j : Nat) : Nat := [9,10,8,7].getD j 0
def q8 : List DoIn := [9,10,8,7,9,10,8,7].map fun o => ⟨o,⟨#[]⟩,⟨#[]⟩,0,[]⟩
theorem q8_at {m j : Nat} (hm : m < 2) (hj : j < 4) : q8[4 * m + j]? = some ⟨opq j,⟨#[]⟩,⟨#[]⟩,0,[]⟩ := by
 have h1 : m = 0 ∨ m = 1 := by omega
 have h2 : j = 0 ∨ j = 1 ∨ j = 2 ∨ j = 3 := by omega
 rcases h1 with rfl|rfl <;> rcases h2 with rfl|rfl|rfl|rfl <;> rfl
structure Tw (w0 : World) (ds : List DoIn) (n : Nat) (v : Value) (dvs : List (DoIn × Value)) (wr : World) : Prop where
 fst : dvs.map (·.1) = ds ++ q8.take n
 row : wr.ownsRow w0.heap.size 28 5 v (ds.length + n) (encL encDo dvs)
 prs : ∀ p ∈ dvs,PrAt w0 p.2 p.1.prs
 fr : Fr0 w0 wr
theorem Tw.step {w0 w4 wr : World} {ds : List DoIn} {m j : Nat} {v v' : Value} {dvs : List (DoIn × Value)} (h : Tw w0 ds (4 * m + j) v dvs wr) (hm : m < 2) (hj : j < 4)
   (ho : w4.ownsRow w0.heap.size 28 5 v' (ds.length + (4 * m + j) + 1) (encL encDo dvs ++ [.int .u8 (opq j), .string ⟨#[]⟩, .string ⟨#[]⟩, .int .i64 0, .slice none 0 0])) (f : Fr0 w0 w4) :
   Tw w0 ds (4 * m + (j + 1)) v' (dvs ++ [(⟨opq j,⟨#[]⟩,⟨#[]⟩,0,[]⟩, .slice none 0 0)]) w4 := by
 have hq := q8_at hm hj
 have hi := (List.getElem?_eq_some_iff.1 hq).1
 refine ⟨?_, ?_, ?_,f⟩
 · rw [List.map_append,h.fst,show 4 * m + (j + 1) = 4 * m + j + 1 by omega,List.take_succ_eq_append_getElem hi,(List.getElem?_eq_some_iff.1 hq).2]
   simp
 · have e1 : encL encDo (dvs ++ [((⟨opq j,⟨#[]⟩,⟨#[]⟩,0,[]⟩ : DoIn),Value.slice none 0 0)]) = encL encDo dvs ++ [.int .u8 (opq j), .string ⟨#[]⟩, .string ⟨#[]⟩, .int .i64 0, .slice none 0 0] := by simp [encL,encDo]
   rw [e1,show ds.length + (4 * m + (j + 1)) = ds.length + (4 * m + j) + 1 by omega]
   exact ho
 · intro p hp
   rcases List.mem_append.1 hp with z|z
   · exact h.prs p z
   · simp only [List.mem_singleton] at z
     subst z
     exact ⟨none,0,rfl,fun i p h => by simp at h⟩
theorem q8_fit {dir : Bool} {hk : Nat} {ds : List DoIn} (h : ∀ d ∈ ds,Fit dir hk d) : ∀ d ∈ ds ++ q8.take 8,Fit dir hk d := by
 intro d hd
 rcases List.mem_append.1 hd with q|q
 · exact h d q
 · have q := List.mem_of_mem_take q
   simp only [q8,List.map_cons,List.map_nil,List.mem_cons,List.not_mem_nil,or_false] at q
   rcases q with rfl|rfl|rfl|rfl|rfl|rfl|rfl|rfl <;> exact { op := by decide,ab := fun q => (by cases q),hz := fun _ _ => by decide,prs := by decide }
set_option linter.unusedSimpArgs false in
set_option maxRecDepth 100000 in
set_option maxHeartbeats 4000000 in
theorem fp12 (w : World) (b0 b1 b2 b3 b4 b5 : Bool) (hk : Nat) (v : Value) (ds : List DoIn) (h : SDosAt w v ds) (B : Nat) (eb : Nat → Addr) (E : ErrsOk w B eb) :
   Calls Tryz.prog 12 #[kagg b0 b1 b2 b3 b4 b5 hk,v] w fun e w' => e = .returned (.bool true) ∧ Fr0 w w' := by
 have E0 := Lib.hid E
 have HD := Lib.hid h
 obtain ⟨av,cv,rfl, -⟩ := h
 clear E
 have KB := Lib.hid (Cells.new w #[.bool b0, .bool b1, .bool b2, .bool b3, .bool b4, .bool b5, .int .u8 hk] 52)
 have FB := Lib.hid ((Fr.refl (fun _ => False) w).alloc (.cells #[.bool b0, .bool b1, .bool b2, .bool b3, .bool b4, .bool b5, .int .u8 hk] 52))
 go_enter Tryz.func12,Tryz.ntmps12
 go_wp2_with fail
 generalize w.alloc (.cells #[.bool b0, .bool b1, .bool b2, .bool b3, .bool b4, .bool b5, .int .u8 hk] 52) = W at *
 refine (zz1 W _ ds (HD.out.fr FB.out)).mono ?_
 rintro e w1 ⟨r,rfl,hr,f1⟩
 have F1 := Lib.hid f1
 have HR1 := Lib.hid hr
 clear hr f1
 cases r with
 | false =>
   go_wp2_with fail
   go_ret
   exact ⟨rfl,FB.out.trans0 F1.out⟩
 | true =>
   have KB1 := Lib.hid (KB.out.fr F1.out (fun q => q))
   (have k0 := KB1.out.cell 0 _ rfl;have k1 := KB1.out.cell 1 _ rfl;have k2 := KB1.out.cell 2 _ rfl;have k3 := KB1.out.cell 3 _ rfl;have k4 := KB1.out.cell 4 _ rfl;have k5 := KB1.out.cell 5 _ rfl;have k6 := KB1.out.cell 6 _ rfl)
   go_wp2_with fail
   refine (kindr w1 b0 b1 b2 b3 b4 b5 hk).mono ?_
   rintro e w2 ⟨r2,rfl,hr2,f2⟩
   have F2 := Lib.hid (F1.out.trans0 f2)
   have HR2 := Lib.hid hr2
   have KB2 := Lib.hid (KB.out.fr F2.out (fun q => q))
   clear hr2 f2 k0 k1 k2 k3 k4 k5 k6
   (have k0 := KB2.out.cell 0 _ rfl;have k1 := KB2.out.cell 1 _ rfl;have k2 := KB2.out.cell 2 _ rfl;have k3 := KB2.out.cell 3 _ rfl;have k4 := KB2.out.cell 4 _ rfl;have k5 := KB2.out.cell 5 _ rfl;have k6 := KB2.out.cell 6 _ rfl)
   cases r2 with
   | false => (go_wp2_with fail;refine (aw17 w2 B eb (E0.out.fr (FB.out.trans0 F2.out) (fun _ q => q.elim))).mono ?_;rintro e w9 ⟨rfl,f9⟩;have F9 := Lib.hid f9;clear f9;go_wp2_with fail;go_ret;exact ⟨rfl,(FB.out.trans0 F2.out).trans0 F9.out⟩)
   | true =>
     have HL := HR1.out trivial
     go_wp2_with fail
     refine (dright w2 _ ds ((HD.out.fr FB.out).fr F2.out) HL.1 HL.2 b0 100).mono ?_
     rintro e w3 ⟨r3,rfl,hr3,f3⟩
     have F3 := Lib.hid (F2.out.trans0 f3)
     have HR3 := Lib.hid hr3
     have KB3 := Lib.hid (KB.out.fr F3.out (fun q => q))
     clear hr3 f3 k0 k1 k2 k3 k4 k5 k6
     (have k0 := KB3.out.cell 0 _ rfl;have k1 := KB3.out.cell 1 _ rfl;have k2 := KB3.out.cell 2 _ rfl;have k3 := KB3.out.cell 3 _ rfl;have k4 := KB3.out.cell 4 _ rfl;have k5 := KB3.out.cell 5 _ rfl;have k6 := KB3.out.cell 6 _ rfl)
     cases r3 with
     | false => (go_wp2_with fail;refine (aw17 w3 B eb (E0.out.fr (FB.out.trans0 F3.out) (fun _ q => q.elim))).mono ?_;rintro e w9 ⟨rfl,f9⟩;have F9 := Lib.hid f9;clear f9;go_wp2_with fail;go_ret;exact ⟨rfl,(FB.out.trans0 F3.out).trans0 F9.out⟩)
     | true =>
       have RD := Lib.hid (HR3.out (by first|rfl|trivial))
       have RK := Lib.hid (HR2.out trivial)
       have HN := Lib.hid RD.out.2
       clear HL k0 k1 k2 k3 k4 k5 k6
       go_wp2_with fail
       refine (clone33 w3 _ ds (HD.out.fr (FB.out.trans0 F3.out)) (by have := HN.out;omega)).mono ?_
       rintro e w4 ⟨v4,dv0,rfl,h1,h2,h3,f4⟩
       have T0 := Lib.hid (show Tw w3 ds (4 * 0 + 0) v4 dv0 w4 from ⟨by rw [h1];simp,h3,h2,f4⟩)
       obtain ⟨a4,cp4,rfl, -, -⟩ := own_slice h3
       clear h1 h2 h3 f4
       go_wp2_with fail
       go_loopg [5,24] 2 (fun k v5 c wr => ∃ (m : Nat) (dvs : List (DoIn × Value)),k + m = 2 ∧ c = .int .i64 (m : Nat) ∧ Tw w3 ds (4 * m + 0) v5 dvs wr)
       case atStart => exact ⟨0,_,rfl,rfl,T0.out⟩
       case round =>
         obtain ⟨m,dvs,hkm,rfl,R⟩ := hrel
         have A := hid2 hkm R
         clear hkm R
         obtain ⟨ko,rfl⟩ : ∃ ko : Nat,ko = gk := ⟨_,rfl⟩
         by_cases hm : m < 2
         · have hm' : (m : Int) < 2 := by omega
           have SW := Lib.hid A.out.2.fr.size
           have QB := Lib.hid (Cells.new wr #[.int .u8 9, .int .u8 10, .int .u8 8, .int .u8 7] 5)
           have FQ := Lib.hid ((Fr.refl (fun _ => False) wr).alloc (.cells #[.int .u8 9, .int .u8 10, .int .u8 8, .int .u8 7] 5))
           go_upto_region 9 with fail
           generalize wr.alloc (.cells #[.int .u8 9, .int .u8 10, .int .u8 8, .int .u8 7] 5) = Wq at *
           generalize wr.heap.size = nq1 at *
           go_loopg [5,28] 4 (fun k v5 c wr2 => ∃ (j : Nat) (dvs : List (DoIn × Value)),k + j = 4 ∧ c = .int .i64 (j : Nat) ∧ Tw w3 ds (4 * m + j) v5 dvs wr2 ∧ Cells wr2 nq1 #[.int .u8 9, .int .u8 10, .int .u8 8, .int .u8 7] 5)
           case atStart => exact ⟨0,dvs,rfl,rfl,⟨A.out.2.fst,ownsRow_fr A.out.2.row FQ.out (fun _ _ q => q),A.out.2.prs,A.out.2.fr.trans0 FQ.out⟩,QB.out⟩
           case round =>
             obtain ⟨j,dvs,hkj,rfl,R,hq⟩ := hrel
             have C := hid3 hkj R hq
             clear hkj R
             by_cases hj : j < 4
             · have hcj : wr.cell? ⟨nq1,j,none⟩ = some (.int .u8 (opq j)) := by
                 have h2 : j = 0 ∨ j = 1 ∨ j = 2 ∨ j = 3 := by omega
                 rcases h2 with rfl|rfl|rfl|rfl
                 · exact hq.cell 0 _ rfl
                 · exact hq.cell 1 _ rfl
                 · exact hq.cell 2 _ rfl
                 · exact hq.cell 3 _ rfl
               have hj0 : (0 : Int) ≤ (j : Int) := by omega
               have hj1 : (j : Int) < 4 := by omega
               have SC := Lib.hid C.out.2.1.fr.size
               clear hq
               go_wp2_with (first
                 | (at_builtin;go_loud (refine wl_appG (w := wr.alloc (.cells #[.int .u8 (opq j), .string ⟨#[]⟩, .string ⟨#[]⟩, .int .i64 0, .slice none 0 0] 28)) 31 rfl (.tmp 32) (.tmp 35) rfl 28 _ 5 72 Tryz.underlying31 info28t rfl (by decide) (by decide) w3.heap.size u5 (ds.length + (4 * m + j)) (encL encDo dvs) rfl (C.out.2.1.row.alloc _) (.slice (some ⟨wr.heap.size,0,none⟩) 1 1) 1 [.int .u8 (opq j), .string ⟨#[]⟩, .string ⟨#[]⟩, .int .i64 0, .slice none 0 0] rfl (yield1 _ _ _ 5 rfl) rfl (by simp [Value.oneCell']) (by have := HN.out;omega) (by have := SC.out;simp;omega) ?_)))
               intro v7 w7 ho7 f7 at7
               obtain ⟨b7,cp7,rfl, -, -⟩ := own_slice ho7
               have O7 := hid2 ho7 (show Fr (fun k => u5.ownBlock = some k) wr w7 from Fr.trans (by ((repeat' with_reducible first|assumption|exact frR|apply frD|apply frN|apply frA|apply frM|apply frC);all_goals (simp;try omega))) f7 (fun q hq => .inl hq))
               clear ho7 f7 at7
               go_wp2_with fail
               go_roundg (gk - 1)
               case measure => have := C.out.1;omega
               case rel =>
                 refine ⟨j + 1,_,by have := C.out.1;omega,by simp [w64y (by decide : 4 ≤ 1000000) hj],C.out.2.1.step hm hj O7.out.1 (C.out.2.1.fr.trans O7.out.2 fun q hq => .inr (C.out.2.1.row.lt q hq).1),Cells.fr C.out.2.2 O7.out.2 (own_ne C.out.2.1.row C.out.2.2)⟩
             · have hj' : j = 4 := by have := C.out.1;omega
               subst hj'
               go_wp2_with fail
               go_roundg (ko - 1)
               case measure => have := A.out.1;omega
               case rel => exact ⟨m + 1,dvs,by have := A.out.1;omega,by simp [w64y (by decide : 2 ≤ 1000000) hm],C.out.2.1⟩
         · have hm' : m = 2 := by have := A.out.1;omega
           subst hm'
           obtain ⟨a5,cp5,rfl, -, -⟩ := own_slice A.out.2.row
           have FW := Lib.hid ((FB.out.trans0 F3.out).trans0 A.out.2.fr)
           have DO := Lib.hid (SDosAt.of_rowsT (own_slice A.out.2.row) A.out.2.fst (by simp [q8]) fun q hq => (A.out.2.prs q hq).fr A.out.2.fr)
           have KBE := Lib.hid (KB.out.fr (F3.out.trans0 A.out.2.fr) (fun q => q))
           (have k0 := KBE.out.cell 0 _ rfl;have k1 := KBE.out.cell 1 _ rfl;have k2 := KBE.out.cell 2 _ rfl;have k3 := KBE.out.cell 3 _ rfl;have k4 := KBE.out.cell 4 _ rfl;have k5 := KBE.out.cell 5 _ rfl;have k6 := KBE.out.cell 6 _ rfl)
           go_wp2_with fail
           refine (run26A wr b0 b1 b2 b3 b4 b5 hk RK.out.1 RK.out.2 _ (ds ++ q8.take 8) DO.out B eb (E0.out.fr FW.out (fun _ q => q.elim)) (by have := HN.out;simp [q8];omega) (q8_fit fun d hd => (RD.out.1 d hd).fit hk)).mono ?_
           rintro e w6 ⟨rfl,f6⟩
           have F6 := Lib.hid (F3.out.trans0 (A.out.2.fr.trans0 f6))
           clear f6 k0 k1 k2 k3 k4 k5 k6
           (go_wp2_with fail;refine (aw17 w6 B eb (E0.out.fr (FB.out.trans0 F6.out) (fun _ q => q.elim))).mono ?_;rintro e w9 ⟨rfl,f9⟩;have F9 := Lib.hid f9;clear f9;go_wp2_with fail;go_ret;exact ⟨rfl,(FB.out.trans0 F6.out).trans0 F9.out⟩)
end Go.Proofs.YtbafaadmlpamiaaGreatDoor
