/- FnFromStore: a copy of a graph has its vertices and edges; what is added to and taken from one of both does nothing to the other one. Proved for every input; the package's six errors read as the program's text lays them (tied). -/
import Derived.Test.YtbafaadmlpamiaaGreatDoorFroF
import Derived.Test.YtbafaadmlpamiaaGreatDoorFro
import Derived.Test.YtbafaadmlpamiaaGreatDoorE5
import Derived.Test.YtbafaadmlpamiaaGreatDoorLaid
import Derived.Test.YtbafaadmlpamiaaGreatDoorTie
import Derived.Test.YtbafaadmlpamiaaGreatDoorCards
import Derived.ProofKit
import Derived.OpenShut
import Derived.ShutString
import Derived.SevenTiedAt
namespace Go.Proofs.YtbafaadmlpamiaaGreatDoor
open Go Go.Hy Go.ChangeShapes Go.WideShapes Go.ChangeAt Go.RowKit
open Go.ChangeMaps (open_string shut_string)
theorem from1Kids:Kids Tryz.prog (· < Tryz.prog.types.size):=kids_rows (by kernel_rfl) (by kernel_rfl)
theorem from1Full:∀ t e,t < Tryz.prog.types.size→Tryz.prog.underlying t=some (.slice e)→0 < Tryz.prog.cellsOf e:=slices_full_of Tryz.prog (by kernel_rfl)
set_option maxRecDepth 100000 in
theorem from1_lifted (os:Os) (started:os.Started) (H:Type) (enc:TypeId × Value→H) :
   ReturnsInHanded {} Tryz.checked os 15 .any (fun w args=>(Rows.fnFromStoreSpec.pre enc Tryz.prog Tryz.f15 [] false w args∧laidMetH Tryz.prog laid9 w)∧sizedMet enc Tryz.prog Tryz.f15 (OpenSpec.ofChange Rows.fnFromStoreSpec) false w args)
     (Rows.fnFromStoreSpec.post enc Tryz.prog Tryz.f15 false true false false):=by
 refine returnsInHanded_of_change_and (C:=Tryz.checked) (X:=fun w _=>laidMetH Tryz.prog laid9 w) (fun _ _ _ hh h=>h.of_heap hh) tOwn started (by kernel_rfl) Tryz.func15
   (ChangeSpec.witness_shaped (enc:=enc) (C:=Tryz.checked) (os:=os) (X:=fun w _=>laidMetH Tryz.prog laid9 w) false (World.doorLaid Tryz.prog 400 os) #[.agg #[.bool false,.bool false,.bool false,.bool false,.bool false,.bool false,.int .u8 0],.slice none 0 0,.slice none 0 0,.bool false] 8 rfl
     (World.shaped_of_RefB (by kernel_rfl) (by kernel_rfl)) (by kernel_rfl) (by kernel_rfl) (by kernel_rfl) (door_met os _)) ?_
 intro W base args ds gs before hval0 hW _ _ hL _
 have hval:∀ (j:Nat) t v,Tryz.f15.params[j]? = some t→args[j]? = some v→Value.okWide Tryz.prog W .any base t v:=hval0
 have hW':=hW
 have hlt:=hW.lt
 obtain ⟨p,q,hA0,hV,rfl,hfz,hnd⟩:=hW
 have hA:DataW.TrodAll enc Tryz.prog W 0 (fun _=>true) true Tryz.f15.params.toList args.toList ds p:=hA0
 have hAk:=hA
 rw [Tryz.params15] at hA hval
 obtain ⟨v0,vs0,d0,ds0,p0,q0,hargs,rfl,rfl,h0,r0⟩:=trodAll_cons hA
 obtain ⟨v1,vs1,d1,ds1,p1,q1,rfl,rfl,rfl,h1,r1⟩:=trodAll_cons r0
 obtain ⟨v2,vs2,d2,ds2,p2,q2,rfl,rfl,rfl,h2,r2⟩:=trodAll_cons r1
 obtain ⟨v3,vs3,d3,ds3,p3,q3,rfl,rfl,rfl,h3,r3⟩:=trodAll_cons r2
 obtain ⟨rfl,rfl,rfl⟩:=trodAll_nil r3
 obtain rfl:args=#[v0,v1,v2,v3]:=by cases args;simp_all
 obtain ⟨rfl,rfl⟩:=trodVars_none hV
 obtain ⟨b0,b1,b2,b3,b4,b5,hk,rfl⟩:=open_kind (hval 0 52 v0 rfl rfl) h0
 obtain ⟨ao1,n1,c1,rfl⟩:=okWide_slice Tryz.underlying31 (hval 1 31 v1 rfl rfl)
 obtain ⟨k1,h1⟩:=h1
 obtain ⟨dz1,hdz1⟩:=open_dos (show DataW.trod enc Tryz.prog W 0 (fun _=>true) true k1 31 [.slice ao1 n1 c1]=some _ from h1)
 obtain ⟨ao2,n2,c2,rfl⟩:=okWide_slice Tryz.underlying31 (hval 2 31 v2 rfl rfl)
 obtain ⟨k2,h2⟩:=h2
 obtain ⟨dz2,hdz2⟩:=open_dos (show DataW.trod enc Tryz.prog W 0 (fun _=>true) true k2 31 [.slice ao2 n2 c2]=some _ from h2)
 obtain ⟨a3,rfl,rfl,rfl⟩:=open_bool Tryz.underlying4 (hval 3 4 v3 rfl rfl) h3
 obtain ⟨eb,E⟩:=laid_errs hL
 clear hA0 hval0
 refine (fp15 W b0 b1 b2 b3 b4 b5 hk _ dz1 hdz1 _ dz2 hdz2 a3 W.heap.size eb E).mono fun e W' ⟨he,hf⟩ => ?_
 subst he
 refine ⟨_,rfl,_,_,_,[],_,[],hW',?_,all_fr hf (DataW.TrodAll.respare from1Kids from1Full (by rw [Tryz.params15];decide) hAk fun x hx => ?_) fun x hx=>hlt x (List.mem_append_left _ hx),rfl,hf.below.frame _,fun h=>by cases h⟩
 · exact trodAll_cons_mk (shut_bool Tryz.underlying4 _) trodAll_mk0
 · simpa using hlt x (List.mem_append_left _ hx)
theorem from1_row:Rows.FnFromStoreSaid :=
 OpenClaim.holds_of_wide 15 Tryz.f15 rfl rfl rfl rfl rfl rfl rfl ⟨rfl,rfl,rfl,rfl,rfl⟩ rfl rfl rfl rfl rfl (by kernel_rfl) Tryz.func15 from1Facts
   (of_decide_eq_true (by kernel_rfl)) (by unfold Func.isWrapper;rw [if_neg (of_decide_eq_false (by kernel_rfl))];exact ⟨rfl,rfl⟩)
   (fun os started H enc _=>from1_lifted os started H enc)
theorem from1_card:Rows.FnFromStoreCardSaid :=
 Claim7.holds_tied_plain_at .later [] [.data, .data, .data, .sentinel, .sentinel, .sentinel, .sentinel, .sentinel, .sentinel] true (true, "1eb54e7eea99c8ee87a837cd298790060072c05f51e5369a7b9cbb49efb6c24f") true
   from1_row (fun _ h=>by cases h) (by kernel_rfl) (fun _ h=>by cases h) fnFromStore_row_tie rfl ⟨rfl,rfl⟩ (by kernel_rfl) rfl
   (fun f fn hf hfn=>by
     obtain rfl : f = 15 := Option.some.inj ((show Tryz.prog.funcNamed "pub-hypha/laws.FnFromStore" = some 15 by kernel_rfl).symm.trans hf) |>.symm
     obtain rfl:fn=Tryz.f15:=(Option.some.inj (Tryz.func15.symm.trans hfn)).symm
     exact ⟨by kernel_rfl,fun j t ht=>by
       rw [Tryz.params15] at ht
       have h3:t=52∨t=31∨t=31∨t=4:=by
         rcases j with _ | _ | _ | _|j
         · exact .inl (by simpa using ht.symm)
         · exact .inr (.inl (by simpa using ht.symm))
         · exact .inr (.inr (.inl (by simpa using ht.symm)))
         · exact .inr (.inr (.inr (by simpa using ht.symm)))
         · simp at ht
       rcases h3 with rfl|rfl|rfl|rfl
       · exact (show Tryz.prog.wantsStandIn 52=false by kernel_rfl)
       · exact (show Tryz.prog.wantsStandIn 31=false by kernel_rfl)
       · exact (show Tryz.prog.wantsStandIn 31=false by kernel_rfl)
       · exact (show Tryz.prog.wantsStandIn 4=false by kernel_rfl)⟩)
   (by kernel_rfl)
#print axioms from1_card
end Go.Proofs.YtbafaadmlpamiaaGreatDoor
