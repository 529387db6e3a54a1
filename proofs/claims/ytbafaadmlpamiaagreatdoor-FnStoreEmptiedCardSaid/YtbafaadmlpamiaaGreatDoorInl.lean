/- inLinks: edges by their ends. -/
import Derived.Test.YtbafaadmlpamiaaGreatDoorSortL
namespace Go.Proofs.YtbafaadmlpamiaaGreatDoor
open Go Go.Hy Go.RowKit
set_option maxRecDepth 100000 in
set_option maxHeartbeats 1000000 in
theorem inlinks (w : World) (v : Value) (l : List LnkV) (base : Nat) (ho : w.ownsRow base 65 4 v l.length (encL encLnk l)) (hlen : l.length ≤ 1000000) :
   Calls Tryz.prog 70 #[v] w fun e w' => e = .returned (.tuple #[]) ∧ ∃ l',l'.Perm l ∧ l'.Pairwise (fun a b => lt2 (keyL b) (keyL a) = false) ∧ Reads w' v l.length (encL encLnk l') ∧ Fr (fun k => v.ownBlock = some k) w w' := by
 have HO := Lib.hid ho
 have HL := Lib.hid hlen
 obtain ⟨ao,cap,rfl, -, -⟩ := own_slice ho
 have hb := ho.lt
 have hnb : (Value.slice ao l.length cap).ownBlock ≠ some w.heap.size := fun q => by have := (hb _ q).2;omega
 have NB := Lib.hid hnb
 clear ho hlen hb hnb
 go_enter Tryz.func70,Tryz.ntmps70
 go_wp2_with fail
 refine (Lsort (w.alloc (.cells #[.slice ao l.length cap] 42)) (.slice ao l.length cap) l base (ownsRow_fr HO.out ((Fr.refl (fun _ => False) w).alloc _) (fun _ _ q => q)) w.heap.size ((Cells.new w _ _).cell 0 _ rfl) NB.out HL.out).mono ?_
 rintro e w1 ⟨rfl,l',h1,h2,h3,h4⟩
 have R := hid4 h1 h2 h3 h4
 clear h1 h2 h3 h4
 go_wp2_with fail
 go_end0
 exact ⟨rfl,l',R.out.1,R.out.2.1,R.out.2.2.1,(((Fr.refl _ w).alloc _).trans R.out.2.2.2 fun _ q => .inl q)⟩
end Go.Proofs.YtbafaadmlpamiaaGreatDoor
