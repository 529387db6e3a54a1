/- runSame: steps over a graph tell what the lists tell. -/
import Derived.Test.YtbafaadmlpamiaaGreatDoorSame
import Derived.Test.YtbafaadmlpamiaaGreatDoorS1
import Derived.Test.YtbafaadmlpamiaaGreatDoorP1
namespace Go.Proofs.YtbafaadmlpamiaaGreatDoor
open Go Go.Hy Go.RowKit
def StepS (s : St) (d : DoIn) : Prop := ∀ (w : World) (sb : Nat) (pv : Value),ZRep w sb s → PrAt w pv d.prs →
 Calls Tryz.prog 28 #[.pointer (some ⟨sb,0,none⟩), .agg #[.int .u8 d.op, .string d.a, .string d.b, .int .i64 d.wt,pv]] w fun e w' =>
   ∃ v,e = .returned v ∧ ToldIn w' (fun q => q ≠ sb) v (s.step d).1 ∧ ZRep w' sb (s.step d).2 ∧ Fr (fun k => k = sb) w w'
theorem kst_hk (b0 b1 b2 b3 b4 b5 : Bool) (hk : Nat) : (kst b0 b1 b2 b3 b4 b5 hk).hk = hk := rfl
theorem kst_ps (b0 b1 b2 b3 b4 b5 : Bool) (hk : Nat) : (kst b0 b1 b2 b3 b4 b5 hk).ps = [] := rfl
theorem kst_ls (b0 b1 b2 b3 b4 b5 : Bool) (hk : Nat) : (kst b0 b1 b2 b3 b4 b5 hk).ls = [] := rfl
theorem told_form {w : World} {lo : Nat} {v : Value} {ts : List Tl} (h : TellsAt w lo v ts) : ∃ ao cap,v = .slice ao ts.length cap := by
 obtain ⟨ao,cap,e,_⟩ := h
 exact ⟨ao,cap,e⟩
structure RSm (w0 : World) (sb : Nat) (s0 : St) (ds : List DoIn) (i : Nat) (wr : World) : Prop where
 rep : ZRep wr sb (s0.after (ds.take i))
 fr : Fr (fun k => k = sb) w0 wr
set_option maxRecDepth 100000 in
set_option maxHeartbeats 4000000 in
theorem run26 (w : World) (b0 b1 b2 b3 b4 b5 : Bool) (hk : Nat) (v : Value) (ds : List DoIn) (h : SDosAt w v ds) (HC : HashC hk) (B : Nat) (eb : Nat → Addr) (E : ErrsOk w B eb) (hn : ds.length ≤ 1000) (hp : ∀ d ∈ ds,d.prs.length ≤ 4)
   (HR : ∀ (i : Nat) (d : DoIn),ds[i]? = some d → StepC B eb ((kst b0 b1 b2 b3 b4 b5 hk).after (ds.take i)) d) (HS : ∀ (i : Nat) (d : DoIn),ds[i]? = some d → StepS ((kst b0 b1 b2 b3 b4 b5 hk).after (ds.take i)) d) :
   Calls Tryz.prog 26 #[kagg b0 b1 b2 b3 b4 b5 hk,v] w fun e w' => e = .returned (.bool true) ∧ Fr0 w w' := by
 have HD := Lib.hid h
 have HE := Lib.hid E
 have HP := Lib.hid hp
 have RR := Lib.hid HR
 have SS := Lib.hid HS
 have HCC := Lib.hid HC
 clear E hp HR HS HC
 obtain ⟨ao,cap,rfl, -⟩ := h
 have KB := Lib.hid (Cells.new w #[.bool b0, .bool b1, .bool b2, .bool b3, .bool b4, .bool b5, .int .u8 hk] 52)
 have FB := Lib.hid ((Fr.refl (fun _ => False) w).alloc (.cells #[.bool b0, .bool b1, .bool b2, .bool b3, .bool b4, .bool b5, .int .u8 hk] 52))
 have hn2 : (ds.length : Int) ≤ 1000 := by omega
 go_enter Tryz.func26,Tryz.ntmps26
 go_wp2_with fail
 generalize w.alloc (.cells #[.bool b0, .bool b1, .bool b2, .bool b3, .bool b4, .bool b5, .int .u8 hk] 52) = W at *
 have k0 := KB.out.cell 0 _ rfl
 have k1 := KB.out.cell 1 _ rfl
 have k2 := KB.out.cell 2 _ rfl
 have k3 := KB.out.cell 3 _ rfl
 have k4 := KB.out.cell 4 _ rfl
 have k5 := KB.out.cell 5 _ rfl
 have k6 := KB.out.cell 6 _ rfl
 go_region_held3 (fun w' => w'.cell? ⟨w.heap.size,0,none⟩ = some (.bool b0) ∧ w'.cell? ⟨w.heap.size,1,none⟩ = some (.bool b1) ∧ w'.cell? ⟨w.heap.size,2,none⟩ = some (.bool b2) ∧ w'.cell? ⟨w.heap.size,3,none⟩ = some (.bool b3) ∧ w'.cell? ⟨w.heap.size,4,none⟩ = some (.bool b4) ∧ w'.cell? ⟨w.heap.size,5,none⟩ = some (.bool b5) ∧ w'.cell? ⟨w.heap.size,6,none⟩ = some (.int .u8 hk)) (go_keep)
   (first
     | (go_at_call 20
        refine (dto _ _ ds (HD.out.fr (FB.out.trans0 (show Fr0 W _ from by ((repeat' with_reducible first|assumption|exact frR|apply frD|apply frN|apply frA|apply frM|apply frC);all_goals (simp;try omega))))) (by omega) (fun d hd => by have := HP.out d hd;omega)).mono ?_
        rintro e w2 ⟨ao2,cap2,rfl,hd2,f2⟩
        have g2 : Fr0 W w2 := Fr.trans0 (by ((repeat' with_reducible first|assumption|exact frR|apply frD|apply frN|apply frA|apply frM|apply frC);all_goals (simp;try omega))) f2
        have D2 := Lib.hid hd2
        clear hd2 f2
        have k0 := (KB.out.fr g2 (fun q => q)).cell 0 _ rfl
        have k1 := (KB.out.fr g2 (fun q => q)).cell 1 _ rfl
        have k2 := (KB.out.fr g2 (fun q => q)).cell 2 _ rfl
        have k3 := (KB.out.fr g2 (fun q => q)).cell 3 _ rfl
        have k4 := (KB.out.fr g2 (fun q => q)).cell 4 _ rfl
        have k5 := (KB.out.fr g2 (fun q => q)).cell 5 _ rfl
        have k6 := (KB.out.fr g2 (fun q => q)).cell 6 _ rfl)
     | (go_at_call 19
        refine (run19 _ b0 b1 b2 b3 b4 b5 hk ao2 ds.length cap2 ds (D2.out.fr (show Fr0 w2 _ from by ((repeat' with_reducible first|assumption|exact frR|apply frD|apply frN|apply frA|apply frM|apply frC);all_goals (simp;try omega)))) HCC.out B eb (HE.out.fr (FB.out.trans0 (show Fr0 W _ from by ((repeat' with_reducible first|assumption|exact frR|apply frD|apply frN|apply frA|apply frM|apply frC);all_goals (simp;try omega)))) (fun _ q => q.elim)) RR.out).mono ?_
        rintro e w3 ⟨v3,rfl,ht3,f3⟩
        have g3 : Fr0 W w3 := Fr.trans0 (by ((repeat' with_reducible first|assumption|exact frR|apply frD|apply frN|apply frA|apply frM|apply frC);all_goals (simp;try omega))) f3
        have T3 := Lib.hid ht3
        clear ht3 f3
        have k0 := (KB.out.fr g3 (fun q => q)).cell 0 _ rfl
        have k1 := (KB.out.fr g3 (fun q => q)).cell 1 _ rfl
        have k2 := (KB.out.fr g3 (fun q => q)).cell 2 _ rfl
        have k3 := (KB.out.fr g3 (fun q => q)).cell 3 _ rfl
        have k4 := (KB.out.fr g3 (fun q => q)).cell 4 _ rfl
        have k5 := (KB.out.fr g3 (fun q => q)).cell 5 _ rfl
        have k6 := (KB.out.fr g3 (fun q => q)).cell 6 _ rfl))
 obtain ⟨ao3,cap3,e3⟩ := told_form T3.out
 rw [St.run_length] at e3
 subst e3
 have G3 := Lib.hid g3
 go_wp2_with fail
 refine (new27 w3 b0 b1 b2 b3 b4 b5 hk (kst b0 b1 b2 b3 b4 b5 hk) (kst_dir ..) (kst_pr ..) rfl rfl rfl).mono ?_
 rintro e w4 ⟨sb,rfl,hsb,hz,f4⟩
 have Z4 := hid2 hz f4
 clear hz f4
 go_wp2_with fail
 go_loopg [22] ds.length (fun n c wr => ∃ i : Nat,n + i = ds.length ∧ c = .int .i64 (i : Nat) ∧ RSm w4 sb (kst b0 b1 b2 b3 b4 b5 hk) ds i wr)
 case atStart => exact ⟨0,rfl,rfl,Z4.out.1,Fr.refl _ _⟩
 case round =>
   obtain ⟨i,hk',rfl,R⟩ := hrel
   have A := hid2 hk' R
   clear hk' R
   have FW3 := Lib.hid (Fr.trans (S := fun _ => False) Z4.out.2 A.out.2.fr (fun q e => .inr (by omega)) : Fr0 w3 wr)
   have FW := Lib.hid ((FB.out.trans0 G3.out).trans0 FW3.out)
   by_cases hi : i < ds.length
   · have hg := List.getElem?_eq_getElem hi
     obtain ⟨ao',cap',e,hr⟩ := HD.out.fr FW.out
     cases e
     obtain ⟨od,off,pv,rfl,hl,c0,c1,c2,c3,c4,hpv⟩ := hr i _ hg
     have htk : ds.take (i + 1) = ds.take i ++ [ds[i]] := List.take_succ_eq_append_getElem hi
     generalize ds[i] = d at c0 c1 c2 c3 c4 hpv hg htk
     obtain ⟨pa,pc,rfl⟩ := hpv.form
     obtain ⟨o3,cap4,e4,_,ho3,_,hj⟩ := T3.out.cells ds.length (St.run_length _ _) (by omega)
     cases e4
     obtain ⟨pvi,kvi,lvi,x0,x1,x2,x3,x4,x5,x6,x7,x8,x9,xp,xk,xl⟩ := hj i _ (run_get (kst b0 b1 b2 b3 b4 b5 hk) ds i d hg)
     have hbd : Bnd 4 i ((kst b0 b1 b2 b3 b4 b5 hk).after (ds.take i)) := by
       have z := (kst_bnd 4 b0 b1 b2 b3 b4 b5 hk).after (ds.take i) fun x hx => HP.out x (List.mem_of_mem_take hx)
       rw [List.length_take] at z
       rwa [show 0 + min i ds.length = i by omega] at z
     have BR := Lib.hid (hbd.brief (by omega) d)
     have SI := Lib.hid (SS.out i d hg)
     have RI := Lib.hid A.out.2.rep
     have NX := Lib.hid (show (kst b0 b1 b2 b3 b4 b5 hk).after (ds.take (i + 1)) = (((kst b0 b1 b2 b3 b4 b5 hk).after (ds.take i)).step d).2 from by rw [htk,St.after_snoc])
     generalize (kst b0 b1 b2 b3 b4 b5 hk).after (ds.take i) = si at *
     generalize ht : (si.step d).1 = t at *
     have PV := Lib.hid hpv
     have hsr := Lib.hid (show sb < wr.heap.size from RI.out.lt)
     have TI := Lib.hid (show ToldIn wr (fun q => q ≠ sb) (toldVal t pvi kvi lvi) t from ToldIn.fr (ToldIn.imp (⟨pvi,kvi,lvi,rfl,xp,xk,xl⟩ : ToldIn w3 _ (toldVal t pvi kvi lvi) t) (fun q _ h2 => by omega)) FW3.out (fun _ _ _ q => q))
     have y0 := (FW3.out.cell (p := ⟨o3,i * 10,none⟩) ho3 (fun q => q)).trans x0
     have y1 := (FW3.out.cell (p := ⟨o3,i * 10 + 1,none⟩) ho3 (fun q => q)).trans x1
     have y2 := (FW3.out.cell (p := ⟨o3,i * 10 + 2,none⟩) ho3 (fun q => q)).trans x2
     have y3 := (FW3.out.cell (p := ⟨o3,i * 10 + 3,none⟩) ho3 (fun q => q)).trans x3
     have y4 := (FW3.out.cell (p := ⟨o3,i * 10 + 4,none⟩) ho3 (fun q => q)).trans x4
     have y5 := (FW3.out.cell (p := ⟨o3,i * 10 + 5,none⟩) ho3 (fun q => q)).trans x5
     have y6 := (FW3.out.cell (p := ⟨o3,i * 10 + 6,none⟩) ho3 (fun q => q)).trans x6
     have y7 := (FW3.out.cell (p := ⟨o3,i * 10 + 7,none⟩) ho3 (fun q => q)).trans x7
     have y8 := (FW3.out.cell (p := ⟨o3,i * 10 + 8,none⟩) ho3 (fun q => q)).trans x8
     have y9 := (FW3.out.cell (p := ⟨o3,i * 10 + 9,none⟩) ho3 (fun q => q)).trans x9
     have HO := hid2 (Nat.lt_of_lt_of_le ho3 FW3.out.size) (show ¬ (o3 = sb) from by omega)
     have HT := Lib.hid ht
     have hi0 : (0 : Int) ≤ (i : Int) := by omega
     have hi1 : (i : Int) < (ds.length : Int) := by omega
     clear hg hr hpv htk hj x0 x1 x2 x3 x4 x5 x6 x7 x8 x9 xp xk xl hbd ht
     go_wp2_with fail
     have DB0 := Cells.new wr #[.int .u8 d.op, .string d.a, .string d.b, .int .i64 d.wt, .slice pa d.prs.length pc] 28
     have FU0 : Fr0 wr (wr.alloc (.cells #[.int .u8 d.op, .string d.a, .string d.b, .int .i64 d.wt, .slice pa d.prs.length pc] 28)) := by ((repeat' with_reducible first|assumption|exact frR|apply frD|apply frN|apply frA|apply frM|apply frC);all_goals (simp;try omega))
     generalize wr.alloc (.cells #[.int .u8 d.op, .string d.a, .string d.b, .int .i64 d.wt, .slice pa d.prs.length pc] 28) = U at *
     have DB := Lib.hid DB0
     have FU := Lib.hid FU0
     have HU := Lib.hid (Nat.lt_of_lt_of_le HO.out.1 FU0.size)
     have HB := hid2 DB0.lt (show ¬ (wr.heap.size = sb) from by have := hsr.out;omega)
     clear c0 c1 c2 c3 c4
     replace y0 := (FU0.cell (p := ⟨o3,i * 10,none⟩) HO.out.1 (fun q => q)).trans y0
     replace y1 := (FU0.cell (p := ⟨o3,i * 10 + 1,none⟩) HO.out.1 (fun q => q)).trans y1
     replace y2 := (FU0.cell (p := ⟨o3,i * 10 + 2,none⟩) HO.out.1 (fun q => q)).trans y2
     replace y3 := (FU0.cell (p := ⟨o3,i * 10 + 3,none⟩) HO.out.1 (fun q => q)).trans y3
     replace y4 := (FU0.cell (p := ⟨o3,i * 10 + 4,none⟩) HO.out.1 (fun q => q)).trans y4
     replace y5 := (FU0.cell (p := ⟨o3,i * 10 + 5,none⟩) HO.out.1 (fun q => q)).trans y5
     replace y6 := (FU0.cell (p := ⟨o3,i * 10 + 6,none⟩) HO.out.1 (fun q => q)).trans y6
     replace y7 := (FU0.cell (p := ⟨o3,i * 10 + 7,none⟩) HO.out.1 (fun q => q)).trans y7
     replace y8 := (FU0.cell (p := ⟨o3,i * 10 + 8,none⟩) HO.out.1 (fun q => q)).trans y8
     replace y9 := (FU0.cell (p := ⟨o3,i * 10 + 9,none⟩) HO.out.1 (fun q => q)).trans y9
     have d0 := DB0.cell 0 _ rfl
     have d1 := DB0.cell 1 _ rfl
     have d2 := DB0.cell 2 _ rfl
     have d3 := DB0.cell 3 _ rfl
     have d4 := DB0.cell 4 _ rfl
     clear DB0 FU0
     go_region_held3 (fun w' => w'.cell? ⟨o3,i * 10,none⟩ = some (.int .u8 t.err) ∧ w'.cell? ⟨o3,i * 10 + 1,none⟩ = some (.string t.value) ∧ w'.cell? ⟨o3,i * 10 + 2,none⟩ = some (.string t.src) ∧ w'.cell? ⟨o3,i * 10 + 3,none⟩ = some (.string t.dst) ∧ w'.cell? ⟨o3,i * 10 + 4,none⟩ = some (.int .i64 t.wt) ∧ w'.cell? ⟨o3,i * 10 + 5,none⟩ = some (.int .i64 t.order) ∧ w'.cell? ⟨o3,i * 10 + 6,none⟩ = some (.int .i64 t.size) ∧ w'.cell? ⟨o3,i * 10 + 7,none⟩ = some (pvi) ∧ w'.cell? ⟨o3,i * 10 + 8,none⟩ = some (kvi) ∧ w'.cell? ⟨o3,i * 10 + 9,none⟩ = some (lvi) ∧ w'.cell? ⟨wr.heap.size,0,none⟩ = some (.int .u8 d.op) ∧ w'.cell? ⟨wr.heap.size,1,none⟩ = some (.string d.a) ∧ w'.cell? ⟨wr.heap.size,2,none⟩ = some (.string d.b) ∧ w'.cell? ⟨wr.heap.size,3,none⟩ = some (.int .i64 d.wt) ∧ w'.cell? ⟨wr.heap.size,4,none⟩ = some (.slice pa d.prs.length pc)) (go_keep)
       (first
         | (go_at_call 28
            refine (SI.out _ sb _ (RI.out.fr0 (FU.out.trans0 (show Fr0 U _ from by ((repeat' with_reducible first|assumption|exact frR|apply frD|apply frN|apply frA|apply frM|apply frC);all_goals (simp;try omega))))) (PV.out.fr (FU.out.trans0 (show Fr0 U _ from by ((repeat' with_reducible first|assumption|exact frR|apply frD|apply frN|apply frA|apply frM|apply frC);all_goals (simp;try omega)))))).mono ?_
            rintro e w5 ⟨v5,rfl,ht5,hz5,f5⟩
            have g5 : Fr (fun k => k = sb) U w5 := Fr.trans (show Fr (fun k => k = sb) U _ from by ((repeat' with_reducible first|assumption|exact frR|apply frD|apply frN|apply frA|apply frM|apply frC);all_goals (simp;try omega))) f5 (fun q h => .inl h)
            rw [HT.out] at ht5
            have T5 := Lib.hid ht5
            have Z5 := Lib.hid hz5
            clear ht5 hz5 f5
            replace y0 := (g5.cell (p := ⟨o3,i * 10,none⟩) HU.out HO.out.2).trans y0
            replace y1 := (g5.cell (p := ⟨o3,i * 10 + 1,none⟩) HU.out HO.out.2).trans y1
            replace y2 := (g5.cell (p := ⟨o3,i * 10 + 2,none⟩) HU.out HO.out.2).trans y2
            replace y3 := (g5.cell (p := ⟨o3,i * 10 + 3,none⟩) HU.out HO.out.2).trans y3
            replace y4 := (g5.cell (p := ⟨o3,i * 10 + 4,none⟩) HU.out HO.out.2).trans y4
            replace y5 := (g5.cell (p := ⟨o3,i * 10 + 5,none⟩) HU.out HO.out.2).trans y5
            replace y6 := (g5.cell (p := ⟨o3,i * 10 + 6,none⟩) HU.out HO.out.2).trans y6
            replace y7 := (g5.cell (p := ⟨o3,i * 10 + 7,none⟩) HU.out HO.out.2).trans y7
            replace y8 := (g5.cell (p := ⟨o3,i * 10 + 8,none⟩) HU.out HO.out.2).trans y8
            replace y9 := (g5.cell (p := ⟨o3,i * 10 + 9,none⟩) HU.out HO.out.2).trans y9
            replace d0 := (g5.cell (p := ⟨wr.heap.size,0,none⟩) HB.out.1 HB.out.2).trans d0
            replace d1 := (g5.cell (p := ⟨wr.heap.size,1,none⟩) HB.out.1 HB.out.2).trans d1
            replace d2 := (g5.cell (p := ⟨wr.heap.size,2,none⟩) HB.out.1 HB.out.2).trans d2
            replace d3 := (g5.cell (p := ⟨wr.heap.size,3,none⟩) HB.out.1 HB.out.2).trans d3
            replace d4 := (g5.cell (p := ⟨wr.heap.size,4,none⟩) HB.out.1 HB.out.2).trans d4)
         | (go_at_call 42
            refine (same42 _ (fun q => q ≠ sb) (fun q => q ≠ sb) _ _ t d.op (((TI.out.fr FU.out (fun _ _ _ q => q)).fr g5 (fun q h _ e => h e)).fr (show Fr0 w5 _ from by ((repeat' with_reducible first|assumption|exact frR|apply frD|apply frN|apply frA|apply frM|apply frC);all_goals (simp;try omega))) (fun _ _ _ q => q)) (T5.out.fr (show Fr0 w5 _ from by ((repeat' with_reducible first|assumption|exact frR|apply frD|apply frN|apply frA|apply frM|apply frC);all_goals (simp;try omega))) (fun _ _ _ q => q)) BR.out).mono ?_
            rintro e w6 ⟨rfl,f6⟩
            have g6 : Fr0 w5 w6 := Fr.trans0 (by ((repeat' with_reducible first|assumption|exact frR|apply frD|apply frN|apply frA|apply frM|apply frC);all_goals (simp;try omega))) f6
            clear f6
            replace y0 := (g6.cell (p := ⟨o3,i * 10,none⟩) (Nat.lt_of_lt_of_le HU.out g5.size) (fun q => q)).trans y0
            replace y1 := (g6.cell (p := ⟨o3,i * 10 + 1,none⟩) (Nat.lt_of_lt_of_le HU.out g5.size) (fun q => q)).trans y1
            replace y2 := (g6.cell (p := ⟨o3,i * 10 + 2,none⟩) (Nat.lt_of_lt_of_le HU.out g5.size) (fun q => q)).trans y2
            replace y3 := (g6.cell (p := ⟨o3,i * 10 + 3,none⟩) (Nat.lt_of_lt_of_le HU.out g5.size) (fun q => q)).trans y3
            replace y4 := (g6.cell (p := ⟨o3,i * 10 + 4,none⟩) (Nat.lt_of_lt_of_le HU.out g5.size) (fun q => q)).trans y4
            replace y5 := (g6.cell (p := ⟨o3,i * 10 + 5,none⟩) (Nat.lt_of_lt_of_le HU.out g5.size) (fun q => q)).trans y5
            replace y6 := (g6.cell (p := ⟨o3,i * 10 + 6,none⟩) (Nat.lt_of_lt_of_le HU.out g5.size) (fun q => q)).trans y6
            replace y7 := (g6.cell (p := ⟨o3,i * 10 + 7,none⟩) (Nat.lt_of_lt_of_le HU.out g5.size) (fun q => q)).trans y7
            replace y8 := (g6.cell (p := ⟨o3,i * 10 + 8,none⟩) (Nat.lt_of_lt_of_le HU.out g5.size) (fun q => q)).trans y8
            replace y9 := (g6.cell (p := ⟨o3,i * 10 + 9,none⟩) (Nat.lt_of_lt_of_le HU.out g5.size) (fun q => q)).trans y9
            replace d0 := (g6.cell (p := ⟨wr.heap.size,0,none⟩) (Nat.lt_of_lt_of_le HB.out.1 g5.size) (fun q => q)).trans d0
            replace d1 := (g6.cell (p := ⟨wr.heap.size,1,none⟩) (Nat.lt_of_lt_of_le HB.out.1 g5.size) (fun q => q)).trans d1
            replace d2 := (g6.cell (p := ⟨wr.heap.size,2,none⟩) (Nat.lt_of_lt_of_le HB.out.1 g5.size) (fun q => q)).trans d2
            replace d3 := (g6.cell (p := ⟨wr.heap.size,3,none⟩) (Nat.lt_of_lt_of_le HB.out.1 g5.size) (fun q => q)).trans d3
            replace d4 := (g6.cell (p := ⟨wr.heap.size,4,none⟩) (Nat.lt_of_lt_of_le HB.out.1 g5.size) (fun q => q)).trans d4))
     go_wp2_with fail
     go_roundg (gk - 1)
     case measure => have := A.out.1;omega
     case rel => exact ⟨i + 1,by have := A.out.1;omega,by simp,⟨by rw [NX.out];exact Z5.out.fr0 (by ((repeat' with_reducible first|assumption|exact frR|apply frD|apply frN|apply frA|apply frM|apply frC);all_goals (simp;try omega))),((A.out.2.fr.trans0 FU.out).trans g5 (fun q h => .inl h)).trans0 (show Fr0 w5 _ from by ((repeat' with_reducible first|assumption|exact frR|apply frD|apply frN|apply frA|apply frM|apply frC);all_goals (simp;try omega)))⟩⟩
   · have hi' : i = ds.length := by have := A.out.1;omega
     subst hi'
     go_wp2_with fail
     go_ret
     exact ⟨rfl,FW.out⟩
end Go.Proofs.YtbafaadmlpamiaaGreatDoor
