/- Steps in memory, cloned (slices.Clone). -/
import Derived.Test.YtbafaadmlpamiaaGreatDoorS5
import Derived.Lib.SliceRun
namespace Go.Proofs.YtbafaadmlpamiaaGreatDoor
open Go Go.Hy Go.RowKit
theorem SDosAt.of_rowsT {w:World} {v:Value} {n:Nat} {ds:List DoIn} {dvs:List (DoIn × Value)} (h:Reads w v n (encL encDo dvs)) (hl:dvs.map (·.1) = ds) (hn:n = ds.length) (hp:∀ p ∈ dvs,PrAt w p.2 p.1.prs):SDosAt w v ds:=by
 obtain ⟨ao,cap,rfl,_,hr⟩:=h
 refine ⟨ao,cap,by rw [hn],fun i d hi => ?_⟩
 rw [← hl,List.getElem?_map,Option.map_eq_some_iff] at hi
 obtain ⟨p,hp1,rfl⟩:=hi
 have x (c:Nat) (hc:c < 5):=encL_mem encDo 5 dvs (fun _ _ => rfl) i c p hp1 hc
 obtain ⟨ob,rfl,h1,c0⟩:=hr _ _ (x 0 (by decide))
 obtain ⟨_,e1,_,c1⟩:=hr _ _ (x 1 (by decide))
 obtain ⟨_,e2,_,c2⟩:=hr _ _ (x 2 (by decide))
 obtain ⟨_,e3,_,c3⟩:=hr _ _ (x 3 (by decide))
 obtain ⟨_,e4,_,c4⟩:=hr _ _ (x 4 (by decide))
 cases e1;cases e2;cases e3;cases e4
 refine ⟨ob,0,p.2,rfl,h1,?_,?_,?_,?_,?_,hp p (List.mem_of_getElem? hp1)⟩
 all_goals rw [Nat.zero_add]
 · exact c0
 · exact c1
 · exact c2
 · exact c3
 · exact c4
theorem info28t:(Tryz.prog.info? 28).map (fun i => (i.zero,i.size,i.bytes)) = some (some (.agg #[.int .u8 0,.string ⟨#[]⟩,.string ⟨#[]⟩,.int .i64 0,.slice none 0 0]),5,72):=by kernel_rfl
theorem SDosAt.rows {w:World} {v:Value} {ds:List DoIn} (h:SDosAt w v ds) :
   ∃ dvs:List (DoIn × Value),dvs.map (·.1) = ds ∧ Yld w v ds.length (encL encDo dvs) ∧ ∀ p ∈ dvs,PrAt w p.2 p.1.prs:=by
 obtain ⟨ao,cap,rfl,hr⟩:=h
 have key:∀ n,n ≤ ds.length → ∃ dvs:List (DoIn × Value),dvs.map (·.1) = ds.take n ∧ ∀ (i:Nat) (p:DoIn × Value),dvs[i]? = some p → ∃ ob off,ao = some ⟨ob,off,none⟩ ∧
     w.cell? ⟨ob,off + i * 5,none⟩ = some (.int .u8 p.1.op) ∧ w.cell? ⟨ob,off + i * 5 + 1,none⟩ = some (.string p.1.a) ∧ w.cell? ⟨ob,off + i * 5 + 2,none⟩ = some (.string p.1.b) ∧ w.cell? ⟨ob,off + i * 5 + 3,none⟩ = some (.int .i64 p.1.wt) ∧
     w.cell? ⟨ob,off + i * 5 + 4,none⟩ = some p.2 ∧ PrAt w p.2 p.1.prs:=by
   intro n
   induction n with
   | zero => exact fun _ => ⟨[],rfl,fun i p hp => by simp at hp⟩
   | succ n ih =>
     intro hn
     obtain ⟨dvs,h1,h2⟩:=ih (by omega)
     have hg:=List.getElem?_eq_getElem (show n < ds.length by omega)
     obtain ⟨ob,off,pv,e,_,c0,c1,c2,c3,c4,hp⟩:=hr n _ hg
     have hl:dvs.length = n:=by have:=congrArg List.length h1;rw [List.length_map,List.length_take] at this;omega
     refine ⟨dvs ++ [(ds[n],pv)],by rw [List.map_append,h1,List.take_succ_eq_append_getElem (by omega)];rfl,fun i p hi => ?_⟩
     by_cases hin:i < dvs.length
     · rw [List.getElem?_append_left hin] at hi
       exact h2 i p hi
     · have hlt:=(List.getElem?_eq_some_iff.1 hi).1
       simp at hlt
       have hie:i = dvs.length:=by omega
       subst hie
       rw [List.getElem?_append_right (Nat.le_refl _),Nat.sub_self] at hi
       simp only [List.getElem?_cons_zero,Option.some.injEq] at hi
       subst hi
       rw [hl]
       exact ⟨ob,off,e,c0,c1,c2,c3,c4,hp⟩
 obtain ⟨dvs,h1,h2⟩:=key ds.length (Nat.le_refl _)
 rw [List.take_length] at h1
 have hl:dvs.length = ds.length:=by rw [← h1,List.length_map]
 refine ⟨dvs,h1,?_,fun p hp => ?_⟩
 · cases ao with
   | none =>
     cases dvs with
     | nil => exact .inl ⟨cap,by rw [← hl];rfl,by rw [← hl];rfl,rfl⟩
     | cons p l => obtain ⟨ob,off,e,_⟩:=h2 0 p rfl;cases e
   | some a =>
     refine .inr ⟨a,cap,rfl,fun j u hj => ?_⟩
     have hlt:=(List.getElem?_eq_some_iff.1 hj).1
     rw [encL_len encDo 5 (fun _ => rfl)] at hlt
     have hx:j / 5 < dvs.length:=by omega
     have hg:=List.getElem?_eq_getElem hx
     obtain ⟨ob,off,e,c0,c1,c2,c3,c4,_⟩:=h2 _ _ hg
     cases e
     rw [Addr.add_lit]
     have hm:=encL_mem encDo 5 dvs (fun _ _ => rfl) (j / 5) (j % 5) _ hg (by omega)
     rw [show j / 5 * 5 + j % 5 = j by omega,hj] at hm
     generalize hq:dvs[j / 5] = q at *
     have hc:j % 5 = 0 ∨ j % 5 = 1 ∨ j % 5 = 2 ∨ j % 5 = 3 ∨ j % 5 = 4:=by omega
     rcases hc with e|e|e|e|e
     · rw [e] at hm
       rw [show off + j = off + j / 5 * 5 by omega,c0]
       exact hm.symm
     · rw [e] at hm
       rw [show off + j = off + j / 5 * 5 + 1 by omega,c1]
       exact hm.symm
     · rw [e] at hm
       rw [show off + j = off + j / 5 * 5 + 2 by omega,c2]
       exact hm.symm
     · rw [e] at hm
       rw [show off + j = off + j / 5 * 5 + 3 by omega,c3]
       exact hm.symm
     · rw [e] at hm
       rw [show off + j = off + j / 5 * 5 + 4 by omega,c4]
       exact hm.symm
 · obtain ⟨i,hi⟩:=List.mem_iff_getElem?.1 hp
   obtain ⟨_,_,_,_,_,_,_,_,z⟩:=h2 i p hi
   exact z
theorem enc_one {w:World} {dvs:List (DoIn × Value)} (h:∀ p ∈ dvs,PrAt w p.2 p.1.prs):∀ u ∈ encL encDo dvs,u.oneCell' = true:=by
 intro u hu
 simp only [encL,List.mem_flatMap,encDo] at hu
 obtain ⟨p,hp,hu⟩:=hu
 obtain ⟨ao,cap,e⟩:=(h p hp).form
 simp only [List.mem_cons,List.not_mem_nil,or_false] at hu
 rcases hu with rfl|rfl|rfl|rfl|rfl
 · rfl
 · rfl
 · rfl
 · rfl
 · rw [e];rfl
set_option maxRecDepth 100000 in
set_option maxHeartbeats 4000000 in
theorem clone33 (w:World) (v:Value) (ds:List DoIn) (h:SDosAt w v ds) (hl:ds.length ≤ 100000) :
   Calls Tryz.prog 33 #[v] w fun e w' => ∃ v' dvs,e = .returned v' ∧ dvs.map (·.1) = ds ∧ (∀ p ∈ dvs,PrAt w p.2 p.1.prs) ∧ w'.ownsRow w.heap.size 28 5 v' ds.length (encL encDo dvs) ∧ Fr0 w w':=by
 obtain ⟨dvs,hD,hY,hP⟩:=h.rows
 have HD:=hid3 hD hY hP
 have LEN:=Lib.hid (show (encL encDo dvs).length = ds.length * 5 from by rw [encL_len encDo 5 (fun _ => rfl)];have:=congrArg List.length hD;rw [List.length_map] at this;rw [this])
 have HH:=Lib.hid h
 obtain ⟨ao,cap,rfl,hr⟩:=h
 cases ao with
 | none =>
   obtain rfl:ds = []:=by
     cases ds with
     | nil => rfl
     | cons d ds => obtain ⟨ob,off,pv,e,_⟩:=hr 0 d rfl;cases e
   clear hD hY hP hr hl
   have hnil:=fun w a n c n' c' => Lib.run_eql_slice_nil (P:=Tryz.prog) w 31 28 a n c n' c' Tryz.underlying31
   go_enter Tryz.func33,Tryz.ntmps33
   go_wp2_with fail
   go_ret
   obtain rfl:dvs = []:=by have:=congrArg List.length HD.out.1;simpa using this
   exact ⟨_,[],rfl,rfl,fun p hp => (by cases hp),World.ownsRow_nil _ _ _ _,Fr.refl _ _⟩
 | some a =>
   clear hD hY hP hr
   have hnil:=fun w a n c n' c' => Lib.run_eql_slice_nil (P:=Tryz.prog) w 31 28 a n c n' c' Tryz.underlying31
   go_enter Tryz.func33,Tryz.ntmps33
   go_wp2_with (first
     | (at_builtin;go_loud (refine wl_appG (w:=w.alloc (.cells #[] 28)) 31 rfl (.tmp 5) (.tmp 6) rfl 28 _ 5 72 Tryz.underlying31 info28t rfl (by decide) (by decide) w.heap.size (.slice (some ⟨w.heap.size,0,none⟩) 0 0) 0 [] rfl (own_empty (heap_alloc_new w _)) (.slice (some a) ds.length cap) ds.length (encL encDo dvs) rfl (Yld.fr HD.out.2.1 (show Fr0 w _ from by ((repeat' with_reducible first|assumption|exact frR|apply frD|apply frN|apply frA|apply frM|apply frC);all_goals (simp;try omega))) (fun a n c e h => by cases e;obtain ⟨d,hd⟩ : ∃ d,ds[0]? = some d:=⟨_,List.getElem?_eq_getElem (by have:=LEN.out;omega)⟩;obtain ⟨_,_,e,hr⟩:=HH.out;cases e;obtain ⟨ob,off,pv,e,hob,_⟩:=hr 0 d hd;cases e;exact ⟨hob,fun q => q⟩)) LEN.out (enc_one HD.out.2.2) (by omega) (by simp) ?_)))
   intro v7 w4 ho f4 at4
   try rw [Nat.zero_add] at ho
   try rw [List.nil_append] at ho
   obtain ⟨ao3,cap3,rfl, -, -⟩:=own_slice ho
   have H4:=hid2 ho (Fr.trans (show Fr0 w (w.alloc (.cells #[] 28)) from by ((repeat' with_reducible first|assumption|exact frR|apply frD|apply frN|apply frA|apply frM|apply frC);all_goals (simp;try omega))) f4 (fun q hq => .inr (by cases hq;exact Nat.le_refl _)))
   clear ho f4 at4
   go_wp2_with fail
   go_ret
   exact ⟨_,dvs,rfl,HD.out.1,HD.out.2.2,H4.out.1,H4.out.2⟩
end Go.Proofs.YtbafaadmlpamiaaGreatDoor
