/- FnStoreTwice: a graph that is told twice is the same. Proved for every input; the package's six errors read as the program's text lays them (tied). -/
import Derived.Test.YtbafaadmlpamiaaGreatDoorTwiF
import Derived.Test.YtbafaadmlpamiaaGreatDoorTwi
import Derived.Test.YtbafaadmlpamiaaGreatDoorE5
import Derived.Test.YtbafaadmlpamiaaGreatDoorLaid
import Derived.Test.YtbafaadmlpamiaaGreatDoorTie
import Derived.Test.YtbafaadmlpamiaaGreatDoorCards
import Derived.ProofKit
import Derived.OpenShut
import Derived.ShutString
import Derived.SevenTiedAt
namespace Go.Proofs.YtbafaadmlpamiaaGreatDoor
open Go Go.Hy Go.ChangeShapes Go.WideShapes Go.ChangeAt Go.RowKit
open Go.ChangeMaps (open_string shut_string)
theorem twiceKids : Kids Tryz.prog (· < Tryz.prog.types.size) := kids_rows (by kernel_rfl) (by kernel_rfl)
theorem twiceFull : ∀ t e,t < Tryz.prog.types.size → Tryz.prog.underlying t = some (.slice e) → 0 < Tryz.prog.cellsOf e := slices_full_of Tryz.prog (by kernel_rfl)
set_option maxRecDepth 100000 in
theorem twice_lifted (os : Os) (started : os.Started) (H : Type) (enc : TypeId × Value → H) :
   ReturnsInHanded {} Tryz.checked os 12 .any (fun w args => (Rows.fnStoreTwiceSpec.pre enc Tryz.prog Tryz.f12 [] false w args ∧ laidMetH Tryz.prog laid9 w) ∧ sizedMet enc Tryz.prog Tryz.f12 (OpenSpec.ofChange Rows.fnStoreTwiceSpec) false w args)
     (Rows.fnStoreTwiceSpec.post enc Tryz.prog Tryz.f12 false true false false) := by
 refine returnsInHanded_of_change_and (C := Tryz.checked) (X := fun w _ => laidMetH Tryz.prog laid9 w) (fun _ _ _ hh h => h.of_heap hh) tOwn started (by kernel_rfl) Tryz.func12
   (ChangeSpec.witness_shaped (enc := enc) (C := Tryz.checked) (os := os) (X := fun w _ => laidMetH Tryz.prog laid9 w) false (World.doorLaid Tryz.prog 400 os) #[.agg #[.bool false, .bool false, .bool false, .bool false, .bool false, .bool false, .int .u8 0], .slice none 0 0] 8 rfl
     (World.shaped_of_RefB (by kernel_rfl) (by kernel_rfl)) (by kernel_rfl) (by kernel_rfl) (by kernel_rfl) (door_met os _)) ?_
 intro W base args ds gs before hval0 hW _ _ hL _
 have hval : ∀ (j : Nat) t v,Tryz.f12.params[j]? = some t → args[j]? = some v → Value.okWide Tryz.prog W .any base t v := hval0
 have hW' := hW
 have hlt := hW.lt
 obtain ⟨p,q,hA0,hV,rfl,hfz,hnd⟩ := hW
 have hA : DataW.TrodAll enc Tryz.prog W 0 (fun _ => true) true Tryz.f12.params.toList args.toList ds p := hA0
 have hAk := hA
 rw [Tryz.params12] at hA hval
 obtain ⟨v0,vs0,d0,ds0,p0,q0,hargs,rfl,rfl,h0,r0⟩ := trodAll_cons hA
 obtain ⟨v1,vs1,d1,ds1,p1,q1,rfl,rfl,rfl,h1,r1⟩ := trodAll_cons r0
 obtain ⟨rfl,rfl,rfl⟩ := trodAll_nil r1
 obtain rfl : args = #[v0,v1] := by cases args;simp_all
 obtain ⟨rfl,rfl⟩ := trodVars_none hV
 obtain ⟨b0,b1,b2,b3,b4,b5,hk,rfl⟩ := open_kind (hval 0 52 v0 rfl rfl) h0
 obtain ⟨ao1,n1,c1,rfl⟩ := okWide_slice Tryz.underlying31 (hval 1 31 v1 rfl rfl)
 obtain ⟨k1,h1⟩ := h1
 obtain ⟨dz1,hdz1⟩ := open_dos (show DataW.trod enc Tryz.prog W 0 (fun _ => true) true k1 31 [.slice ao1 n1 c1] = some _ from h1)
 obtain ⟨eb,E⟩ := laid_errs hL
 clear hA0 hval0
 refine (fp12 W b0 b1 b2 b3 b4 b5 hk _ dz1 hdz1 W.heap.size eb E).mono fun e W' ⟨he,hf⟩ => ?_
 subst he
 refine ⟨_,rfl,_,_,_,[],_,[],hW', ?_,all_fr hf (DataW.TrodAll.respare twiceKids twiceFull (by rw [Tryz.params12];decide) hAk fun x hx => ?_) fun x hx => hlt x (List.mem_append_left _ hx),rfl,hf.below.frame _,fun h => by cases h⟩
 · exact trodAll_cons_mk (shut_bool Tryz.underlying4 _) trodAll_mk0
 · simpa using hlt x (List.mem_append_left _ hx)
theorem twice_row : Rows.FnStoreTwiceSaid :=
 OpenClaim.holds_of_wide 12 Tryz.f12 rfl rfl rfl rfl rfl rfl rfl ⟨rfl,rfl,rfl,rfl,rfl⟩ rfl rfl rfl rfl rfl (by kernel_rfl) Tryz.func12 twiceFacts
   (of_decide_eq_true (by kernel_rfl)) (by unfold Func.isWrapper;rw [if_neg (of_decide_eq_false (by kernel_rfl))];exact ⟨rfl,rfl⟩)
   (fun os started H enc _ => twice_lifted os started H enc)
theorem twice_card : Rows.FnStoreTwiceCardSaid :=
 Claim7.holds_tied_plain_at .later [] [.data, .data, .data, .sentinel, .sentinel, .sentinel, .sentinel, .sentinel, .sentinel] true (true, "1eb54e7eea99c8ee87a837cd298790060072c05f51e5369a7b9cbb49efb6c24f") true
   twice_row (fun _ h => by cases h) (by kernel_rfl) (fun _ h => by cases h) fnStoreTwice_row_tie rfl ⟨rfl,rfl⟩ (by kernel_rfl) rfl
   (fun f fn hf hfn => by
     obtain rfl : f = 12 := Option.some.inj ((show Tryz.prog.funcNamed "pub-hypha/laws.FnStoreTwice" = some 12 by kernel_rfl).symm.trans hf) |>.symm
     obtain rfl : fn = Tryz.f12 := (Option.some.inj (Tryz.func12.symm.trans hfn)).symm
     exact ⟨by kernel_rfl,fun j t ht => by
       rw [Tryz.params12] at ht
       have h3 : t = 52 ∨ t = 31 := by
         rcases j with _ | _|j
         · exact .inl (by simpa using ht.symm)
         · exact .inr (by simpa using ht.symm)
         · simp at ht
       rcases h3 with rfl|rfl
       · exact (show Tryz.prog.wantsStandIn 52 = false by kernel_rfl)
       · exact (show Tryz.prog.wantsStandIn 31 = false by kernel_rfl)⟩)
   (by kernel_rfl)
#print axioms twice_card
end Go.Proofs.YtbafaadmlpamiaaGreatDoor
