import Derived.Test.YtbafaadmlpamiaaGreatDoorS1
import Derived.Test.YtbafaadmlpamiaaGreatDoorE3
import Derived.Laws.BytesString
import Derived.Laws.Cells
import Derived.Test.YtbafaadmlpamiaaGreatDoorT7
import Derived.Test.YtbafaadmlpamiaaGreatDoorS4
set_option maxRecDepth 100000
namespace Go.Proofs.YtbafaadmlpamiaaGreatDoor
open Go Go.Hy Go.RowKit
theorem hashS1:HashS 1:=by
 intro w s _
 by_cases h:s.size=0
 · obtain rfl:=size_zero h
   clear h
   go_enter Tryz.func43,Tryz.ntmps43
   go_wp2_with fail
   go_ret
   exact ⟨rfl,by ((repeat' with_reducible first|assumption|exact frR|apply frD|apply frN|apply frA|apply frM|apply frC);all_goals (simp;try omega))⟩
 · have hb2:(s.toList == (⟨#[]⟩ : ByteArray).toList)=false:=by
     cases e:s.toList == (⟨#[]⟩ : ByteArray).toList with
     | false=>rfl
     | true=>exact absurd (by rw [toList_inj (beq_iff_eq.1 e)];rfl) h
   have hb3:s.toList.isEmpty=false:=by
     cases e:s.toList with
     | cons x l=>rfl
     | nil=>exact absurd (by rw [toList_inj (e.trans (show []=(⟨#[]⟩ : ByteArray).toList by rw [ByteArray.toList_eq]))];rfl) h
   have hm:hashM 1 s=s.extract 0 1:=by unfold hashM;rw [if_pos rfl,if_neg h]
   rw [hm]
   have h1:1≤s.size:=by omega
   go_enter Tryz.func43,Tryz.ntmps43
   go_wp2_with fail
   go_ret
   exact ⟨rfl,by ((repeat' with_reducible first|assumption|exact frR|apply frD|apply frN|apply frA|apply frM|apply frC);all_goals (simp;try omega))⟩
def dg (n:Nat):ByteArray:=⟨#[UInt8.ofNat (48+n)]⟩
theorem conv1 (w:World) (k:Int):(convert 75 9 (.slice (some ⟨w.heap.size,0,none⟩) 1 1)).run Tryz.prog (w.alloc (.cells #[.int .u8 k] 5))=.ok (.string ⟨#[UInt8.ofNat k.toNat]⟩) (w.alloc (.cells #[.int .u8 k] 5)):=by
 have c:=(Cells.new w #[.int .u8 k] 5).cell 0 _ rfl
 have h2:=run_bytesToString (P:=Tryz.prog) (w.alloc (.cells #[.int .u8 k] 5)) ⟨w.heap.size,0,none⟩ 1 1 [k] (run_loadCells_list _ ⟨w.heap.size,0,none⟩ [.int .u8 k] fun j v hj=>by
   cases j with
   | zero=>simp at hj;subst hj;exact c
   | succ j=>simp at hj)
 exact (run_convert_bytes_string _ 75 9 5 _ _ _ Tryz.underlying75 Tryz.underlying5 Tryz.underlying9).trans h2
theorem dec72s (n:Nat) (hn:n < 10) (w:World):Calls Tryz.prog 72 #[.int .i64 n] w fun e w'=>e=.returned (.string (dg n))∧Fr0 w w':=by
 have hc:n=0∨n=1∨n=2∨n=3∨n=4∨n=5∨n=6∨n=7∨n=8∨n=9:=by omega
 have hcv:=conv1 w
 rcases hc with rfl|rfl|rfl|rfl|rfl|rfl|rfl|rfl|rfl|rfl
 all_goals
   go_enter Tryz.func72,Tryz.ntmps72
   go_wp2_with fail
   go_ret
   exact ⟨rfl,by ((repeat' with_reducible first|assumption|exact frR|apply frD|apply frN|apply frA|apply frM|apply frC);all_goals (simp;try omega))⟩
theorem dec72 (n:Nat) (hn:n < 100) (w:World):Calls Tryz.prog 72 #[.int .i64 n] w fun e w'=>e=.returned (.string (toString n).toUTF8)∧Fr0 w w':=by
 have key:∀ n:Fin 100,(toString n.1).toUTF8.data.toList=(if n.1 < 10 then [UInt8.ofNat (48+n.1)] else [UInt8.ofNat (48+n.1 / 10),UInt8.ofNat (48+n.1 % 10)]):=by decide +kernel
 have hk:=key ⟨n,hn⟩
 simp only at hk
 by_cases h:n < 10
 · rw [if_pos h] at hk
   have e:(toString n).toUTF8=dg n:=by
     refine toList_inj ?_
     rw [ByteArray.toList_eq,ByteArray.toList_eq,hk]
     rfl
   rw [e]
   exact dec72s n h w
 · rw [if_neg h] at hk
   have e:(toString n).toUTF8=dg (n / 10) ++ dg (n % 10):=by
     refine toList_inj ?_
     rw [ByteArray.toList_eq,ByteArray.toList_eq,hk]
     rfl
   rw [e]
   have h1:¬ (n:Int) < 10:=by omega
   have h2:Int.tdiv (n:Int) 10=((n / 10:Nat):Int):=by rw [Int.tdiv_eq_ediv_of_nonneg (by omega)];omega
   have h3:Int.tmod (n:Int) 10=((n % 10:Nat):Int):=by rw [Int.tmod_eq_emod_of_nonneg (by omega)];omega
   have h4:IntKind.i64.wrap ((n / 10:Nat):Int)=((n / 10:Nat):Int):=by rw [IntKind.wrap_i64];omega
   have h5:IntKind.i64.wrap ((n % 10:Nat):Int)=((n % 10:Nat):Int):=by rw [IntKind.wrap_i64];omega
   go_enter Tryz.func72,Tryz.ntmps72
   go_wp2_with fail
   refine (dec72s (n / 10) (by omega) _).mono ?_
   rintro e w1 ⟨rfl,f1⟩
   go_wp2_with fail
   refine (dec72s (n % 10) (by omega) _).mono ?_
   rintro e w2 ⟨rfl,f2⟩
   have hz:¬ (9223372036854775807:Int) < ((dg (n / 10)).size:Int)+((dg (n % 10)).size:Int):=by
     have z1:(dg (n / 10)).size=1:=rfl
     have z2:(dg (n % 10)).size=1:=rfl
     omega
   go_wp2_with fail
   go_ret
   exact ⟨rfl,f1.trans0 f2⟩
theorem hashS2:HashS 2:=by
 intro w s hs
 have hm:hashM 2 s=(toString s.size).toUTF8:=rfl
 rw [hm]
 have h9:=hs rfl
 go_enter Tryz.func43,Tryz.ntmps43
 go_wp2_with fail
 refine (dec72 s.size (by omega) _).mono ?_
 rintro e w1 ⟨rfl,f1⟩
 go_wp2_with fail
 go_ret
 exact ⟨rfl,f1⟩
theorem hashS_any (hk:Nat) (h:hk≤2):HashS hk:=by
 have:hk=0∨hk=1∨hk=2:=by omega
 rcases this with rfl|rfl|rfl
 · exact hashS0
 · exact hashS1
 · exact hashS2
theorem fit_stepS (s:St) (d:DoIn) (hw:Wf s) (hl:NoLoop s) {n:Nat} (hb:Bnd 4 n s) (hn:n≤1000) (hk:s.hk≤2) (hpr:s.pr=false) (hf:Fit s.dir s.hk d):StepS s d:=by
 have hs:=hb.small hn (by decide)
 have HC:=hashS_any s.hk hk
 obtain ⟨op,a,b,wt,prs⟩:=d
 have h4:prs.length≤4:=hf.prs
 have hpl:prs.length≤100000:=by omega
 have ho:op=0∨op=1∨op=2∨op=3∨op=4∨op=5∨op=6∨op=7∨op=8∨op=9∨op=10:=by have:op≤10:=hf.op;omega
 intro w sb pv hz hp
 rcases ho with rfl|rfl|rfl|rfl|rfl|rfl|rfl|rfl|rfl|rfl|rfl
 · have e0:s.step ⟨0,a,b,wt,prs⟩=s.addV ⟨0,a,b,wt,prs⟩:=rfl
   cases hi:ptI s.ps (hashM s.hk a) with
   | some i =>
     rw [e0,addVS_old (d:=⟨0,a,b,wt,prs⟩) hi]
     exact sto0_old w sb s hz hs HC a b wt pv prs hp i hi (hf.hz rfl)
   | none =>
     rw [e0,addVS_no (d:=⟨0,a,b,wt,prs⟩) hi]
     exact sto0_new w sb s hz hs HC a b wt pv prs hp hpl hi (hf.hz rfl)
 · have e0:s.step ⟨1,a,b,wt,prs⟩=s.rmV ⟨1,a,b,wt,prs⟩:=rfl
   cases hi:ptI s.ps a with
   | none =>
     rw [e0,rmVS_no (d:=⟨1,a,b,wt,prs⟩) hi]
     exact sto1_no w sb s hz hs a b wt pv prs hp hi
   | some i =>
     by_cases ht:∃ l∈s.ls,l.a=a∨l.b=a
     · rw [e0,rmVS_touch (d:=⟨1,a,b,wt,prs⟩) hi ht]
       exact sto1_touch w sb s hz hs a b wt pv prs hp i hi ht
     · have ht':∀ l∈s.ls,¬ (l.a=a∨l.b=a):=fun l h q=>ht ⟨l,h,q⟩
       rw [e0,rmVS_yes hw (d:=⟨1,a,b,wt,prs⟩) hi ht']
       exact sto1_yes w sb s hz hs a b wt pv prs hp i hi ht'
 · have e0:s.step ⟨2,a,b,wt,prs⟩=s.addE ⟨2,a,b,wt,prs⟩:=rfl
   cases hi:ptI s.ps a with
   | none =>
     rw [e0,addES_no (d:=⟨2,a,b,wt,prs⟩) (.inl hi)]
     exact sto2_no w sb s hz hs a b wt pv prs hp hi
   | some i =>
     cases hj:ptI s.ps b with
     | none =>
       rw [e0,addES_no (d:=⟨2,a,b,wt,prs⟩) (.inr hj)]
       exact sto2_nob w sb s hz hs a b wt pv prs hp i hi hj
     | some j =>
       cases hx:lkI s.dir s.ls a b with
       | some k =>
         rw [e0,addES_old (d:=⟨2,a,b,wt,prs⟩) hi hj hx]
         exact sto2_old w sb s hz hs a b wt pv prs hp i j k hi hj hx
       | none =>
         have hr:¬ (s.pr=true∧Reach s.ls b a):=fun q=>by rw [hpr] at q;cases q.1
         rw [e0,addES_new (d:=⟨2,a,b,wt,prs⟩) hi hj hx hr]
         exact sto2_new w sb s hz hs a b wt pv prs hp hpl hpr i j hi hj hx
 · have e0:s.step ⟨3,a,b,wt,prs⟩=s.rmE ⟨3,a,b,wt,prs⟩:=rfl
   cases hx:lkI s.dir s.ls a b with
   | none =>
     rw [e0,rmES_no (d:=⟨3,a,b,wt,prs⟩) hx]
     exact sto3_no w sb s hz hs a b wt pv prs hp hx
   | some k =>
     obtain ⟨hkl,l,hl0, -⟩:=lkI_lt hx
     rw [e0,rmES_yes hw (d:=⟨3,a,b,wt,prs⟩) hx]
     exact sto3_yes w sb s hz hs a b wt pv prs hp k l hx hl0
 · have e0:s.step ⟨4,a,b,wt,prs⟩=s.updE ⟨4,a,b,wt,prs⟩:=rfl
   cases hx:lkI s.dir s.ls a b with
   | none =>
     rw [e0,updES_no (d:=⟨4,a,b,wt,prs⟩) hx]
     exact sto4_no w sb s hz hs a b wt pv prs hp hx
   | some k =>
     obtain ⟨hkl,l,hl0, -⟩:=lkI_lt hx
     rw [e0,updES_yes hw (d:=⟨4,a,b,wt,prs⟩) hx hl0]
     exact sto4_yes w sb s hz hs a b wt pv prs hp k l hx hl0 (by have:=hb.le l (List.mem_of_getElem? hl0);omega)
 · have e0:s.step ⟨5,a,b,wt,prs⟩=(s.vtx ⟨5,a,b,wt,prs⟩,s):=rfl
   cases hi:ptI s.ps a with
   | none =>
     rw [e0,vtxS_no (d:=⟨5,a,b,wt,prs⟩) hi]
     exact sto5_no w sb s hz hs a b wt pv prs hp hi
   | some i =>
     obtain ⟨hil,x,hx, -⟩:=ptI_lt hi
     rw [e0,vtxS_yes (d:=⟨5,a,b,wt,prs⟩) hi hx]
     exact sto5_yes w sb s hz hs a b wt pv prs hp i x hi hx
 · have e0:s.step ⟨6,a,b,wt,prs⟩=(s.edge ⟨6,a,b,wt,prs⟩,s):=rfl
   cases hx:lkI s.dir s.ls a b with
   | none =>
     rw [e0,edgeS_no (d:=⟨6,a,b,wt,prs⟩) hx]
     exact sto6_no w sb s hz hs a b wt pv prs hp hx
   | some k =>
     obtain ⟨hkl,l,hl0, -⟩:=lkI_lt hx
     obtain ⟨ha,hb'⟩:=hw.ends hx
     rw [e0,edgeS_yes (d:=⟨6,a,b,wt,prs⟩) hx hl0]
     exact sto6_yes w sb s hz hs a b wt pv prs hp k l hx hl0 ha hb'
 · exact sto7 w sb s hz hs a b wt pv prs hp
 · exact sto8 w sb s hz hs (low_keysS hw) a b wt pv prs hp
 · exact sto9 w sb s hz hs (both_keys hw hl false) a b wt pv prs hp
 · exact sto10 w sb s hz hs (both_keys hw hl true) a b wt pv prs hp
end Go.Proofs.YtbafaadmlpamiaaGreatDoor
