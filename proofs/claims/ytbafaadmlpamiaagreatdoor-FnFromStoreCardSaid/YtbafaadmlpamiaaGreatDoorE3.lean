import Derived.Test.YtbafaadmlpamiaaGreatDoorProg
import Derived.Shelf.Strconv.Itoa3
import Derived.Test.YtbafaadmlpamiaaGreatDoorA6
import Derived.Lib.ItoaNum
import Derived.Test.YtbafaadmlpamiaaGreatDoorE2
import Derived.Test.YtbafaadmlpamiaaGreatDoorC1
import Derived.Test.YtbafaadmlpamiaaGreatDoorP1
set_option maxRecDepth 100000
namespace Go.Proofs.YtbafaadmlpamiaaGreatDoor
open Go Go.Proofs Go.Shelf Go.RowKit Go.Lib Go.Sort
def Tryz.it171_ren:Go.Shelf.Ren:=⟨fun | 171=>83 | 243=>96 | 246=>105 | 283=>134 | 284=>135 | 285=>136 | 286=>137 | 129=>116 | 317=>149 | 318=>150 | 319=>151 | 320=>152 | 337=>155 | 338=>156|n=>n,fun | 3=>3 | 9=>9 | 2=>2 | 4=>4 | 171=>231 | 0=>0 | 53=>215 | 37=>75 | 5=>5 | 173=>233 | 212=>247 | 51=>213 | 20=>20 | 213=>248 | 46=>195 | 232=>255 | 233=>256|n=>n,fun | 17=>6 | 18=>7 | 19=>8|n=>n⟩
theorem Tryz.it171:Go.Proofs.Lays.n171 Tryz.prog Tryz.it171_ren:={
 mixed:=by kernel_rfl
 f129:=Tryz.func116.trans (congrArg some (by kernel_rfl))
 f171:=Tryz.func83.trans (congrArg some (by kernel_rfl))
 f243:=Tryz.func96.trans (congrArg some (by kernel_rfl))
 f246:=Tryz.func105.trans (congrArg some (by kernel_rfl))
 f283:=Tryz.func134.trans (congrArg some (by kernel_rfl))
 f284:=Tryz.func135.trans (congrArg some (by kernel_rfl))
 f285:=Tryz.func136.trans (congrArg some (by kernel_rfl))
 f286:=Tryz.func137.trans (congrArg some (by kernel_rfl))
 f317:=Tryz.func149.trans (congrArg some (by kernel_rfl))
 f318:=Tryz.func150.trans (congrArg some (by kernel_rfl))
 f319:=Tryz.func151.trans (congrArg some (by kernel_rfl))
 f320:=Tryz.func152.trans (congrArg some (by kernel_rfl))
 f337:=Tryz.func155.trans (congrArg some (by kernel_rfl))
 f338:=Tryz.func156.trans (congrArg some (by kernel_rfl))
 t0:=Tryz.underlying0
 a0:=Tryz.isAgg0
 z0:=Tryz.sizeOf0
 v0:=Tryz.zeroValue0
 t2:=Tryz.underlying2
 a2:=Tryz.isAgg2
 z2:=Tryz.sizeOf2
 v2:=Tryz.zeroValue2
 t3:=Tryz.underlying3
 a3:=Tryz.isAgg3
 z3:=Tryz.sizeOf3
 v3:=Tryz.zeroValue3
 t4:=Tryz.underlying4
 a4:=Tryz.isAgg4
 z4:=Tryz.sizeOf4
 v4:=Tryz.zeroValue4
 t5:=Tryz.underlying5
 a5:=Tryz.isAgg5
 z5:=Tryz.sizeOf5
 v5:=Tryz.zeroValue5
 t9:=Tryz.underlying9
 a9:=Tryz.isAgg9
 z9:=Tryz.sizeOf9
 v9:=Tryz.zeroValue9
 t20:=Tryz.underlying20
 a20:=Tryz.isAgg20
 z20:=Tryz.sizeOf20
 v20:=Tryz.zeroValue20
 t37:=Tryz.underlying75
 a37:=Tryz.isAgg75
 z37:=Tryz.sizeOf75
 v37:=Tryz.zeroValue75
 t46:=Tryz.underlying195
 a46:=Tryz.isAgg195
 z46:=Tryz.sizeOf195
 v46:=Tryz.zeroValue195
 t51:=Tryz.underlying213
 a51:=Tryz.isAgg213
 z51:=Tryz.sizeOf213
 v51:=Tryz.zeroValue213
 t53:=Tryz.underlying215
 a53:=Tryz.isAgg215
 z53:=Tryz.sizeOf215
 v53:=Tryz.zeroValue215
 t171:=Tryz.underlying231
 a171:=Tryz.isAgg231
 z171:=Tryz.sizeOf231
 v171:=Tryz.zeroValue231
 t173:=Tryz.underlying233
 a173:=Tryz.isAgg233
 z173:=Tryz.sizeOf233
 v173:=Tryz.zeroValue233
 t212:=Tryz.underlying247
 a212:=Tryz.isAgg247
 z212:=Tryz.sizeOf247
 v212:=Tryz.zeroValue247
 t213:=Tryz.underlying248
 a213:=Tryz.isAgg248
 z213:=Tryz.sizeOf248
 t232:=Tryz.underlying255
 a232:=Tryz.isAgg255
 z232:=Tryz.sizeOf255
 v232:=Tryz.zeroValue255
 t233:=Tryz.underlying256
 a233:=Tryz.isAgg256
 z233:=Tryz.sizeOf256
 v233:=Tryz.zeroValue256
 g17:=by kernel_rfl
 g18:=by kernel_rfl
 g19:=by kernel_rfl
}
end Go.Proofs.YtbafaadmlpamiaaGreatDoor
namespace Go.Proofs.YtbafaadmlpamiaaGreatDoor
open Go Go.Hy Go.RowKit
theorem dec_small:∀ n:Nat,n < 100→(toString n).toUTF8=⟨(Lib.decDigits n).toArray⟩:=by
 have key:∀ n:Fin 100,(toString n.1).toUTF8.data.toList=(if n.1 < 10 then [UInt8.ofNat (48+n.1)] else [UInt8.ofNat (48+n.1 / 10),UInt8.ofNat (48+n.1 % 10)]):=by decide +kernel
 intro n hn
 have h:=key ⟨n,hn⟩
 have e:Lib.decDigits n=if n < 10 then [UInt8.ofNat (48+n)] else [UInt8.ofNat (48+n / 10),UInt8.ofNat (48+n % 10)]:=by
   rw [Lib.decDigits]
   split
   · rfl
   · rw [Lib.decDigits,dif_pos (by omega)]
     rfl
 rw [e,← h]
theorem itoa83 (i:Nat) (hi:i < 100) (w:World):Calls Tryz.prog 83 #[.int .i64 i] w fun e w'=>e=.returned (.string (toString i).toUTF8)∧w'=w:=by
 rw [dec_small i hi]
 exact Any.strconv_Itoa_small Tryz.it171 i hi w
theorem size_zero {s:ByteArray} (h:s.size=0):s=⟨#[]⟩:=by
 cases s with
 | mk d=>rw [show d=#[] from Array.eq_empty_of_size_eq_zero h]
theorem hashof1 (w:World) (b0 b1 b2 b3 b4 b5:Bool) (s:ByteArray):Calls Tryz.prog 63 #[.agg #[.bool b0,.bool b1,.bool b2,.bool b3,.bool b4,.bool b5,.int .u8 1],.string s] w fun e w'=>e=.returned (.string (hashM 1 s))∧Fr0 w w':=by
 by_cases h:s.size=0
 · obtain rfl:=size_zero h
   clear h
   go_enter Tryz.func63,Tryz.ntmps63
   go_wp2_with fail
   go_ret
   exact ⟨rfl,by ((repeat' with_reducible first|assumption|exact frR|apply frD|apply frN|apply frA|apply frM|apply frC);all_goals (simp;try omega))⟩
 · have hb2:(s.toList == (⟨#[]⟩ : ByteArray).toList)=false:=by
     cases e:s.toList == (⟨#[]⟩ : ByteArray).toList with
     | false=>rfl
     | true=>exact absurd (by rw [toList_inj (beq_iff_eq.1 e)];rfl) h
   have hb3:s.toList.isEmpty=false:=by
     cases e:s.toList with
     | cons x l=>rfl
     | nil=>exact absurd (by rw [toList_inj (e.trans (show []=(⟨#[]⟩ : ByteArray).toList by rw [ByteArray.toList_eq]))];rfl) h
   have hm:hashM 1 s=s.extract 0 1:=by unfold hashM;rw [if_pos rfl,if_neg h]
   rw [hm]
   have h1:1≤s.size:=by omega
   go_enter Tryz.func63,Tryz.ntmps63
   go_wp2_with fail
   go_ret
   exact ⟨rfl,by ((repeat' with_reducible first|assumption|exact frR|apply frD|apply frN|apply frA|apply frM|apply frC);all_goals (simp;try omega))⟩
theorem hashof2 (w:World) (b0 b1 b2 b3 b4 b5:Bool) (s:ByteArray) (hs:s.size≤99):Calls Tryz.prog 63 #[.agg #[.bool b0,.bool b1,.bool b2,.bool b3,.bool b4,.bool b5,.int .u8 2],.string s] w fun e w'=>e=.returned (.string (hashM 2 s))∧Fr0 w w':=by
 have hm:hashM 2 s=(toString s.size).toUTF8:=rfl
 rw [hm]
 go_enter Tryz.func63,Tryz.ntmps63
 go_wp2_with fail
 refine (itoa83 s.size (by omega) _).mono ?_
 rintro e w1 ⟨rfl,rfl⟩
 go_wp2_with fail
 go_ret
 exact ⟨rfl,by ((repeat' with_reducible first|assumption|exact frR|apply frD|apply frN|apply frA|apply frM|apply frC);all_goals (simp;try omega))⟩
theorem hash1:HashC 1:=by
 rintro s hz w kB cs hc ⟨b0,b1,b2,b3,b4,b5,h,rfl⟩ h6
 have hl:=hc.lt
 have e0:(h:Int)=1:=by simpa using h6
 have h0:h=1:=by omega
 clear e0
 
 subst h0
 have c0:=hc.cell 0 _ rfl
 have c1:=hc.cell 1 _ rfl
 have c2:=hc.cell 2 _ rfl
 have c3:=hc.cell 3 _ rfl
 have c4:=hc.cell 4 _ rfl
 have c5:=hc.cell 5 _ rfl
 have c6:=hc.cell 6 _ rfl
 clear hc h6
 go_enter Tryz.func62,Tryz.ntmps62
 go_wp2_with fail
 refine (hashof1 w b0 b1 b2 b3 b4 b5 s ).mono ?_
 rintro e w1 ⟨rfl,f1⟩
 go_wp2_with fail
 go_ret
 exact ⟨rfl,f1⟩
theorem hash2:HashC 2:=by
 rintro s hz w kB cs hc ⟨b0,b1,b2,b3,b4,b5,h,rfl⟩ h6
 have hl:=hc.lt
 have e0:(h:Int)=2:=by simpa using h6
 have h0:h=2:=by omega
 clear e0
 have hz2:=hz rfl
 subst h0
 have c0:=hc.cell 0 _ rfl
 have c1:=hc.cell 1 _ rfl
 have c2:=hc.cell 2 _ rfl
 have c3:=hc.cell 3 _ rfl
 have c4:=hc.cell 4 _ rfl
 have c5:=hc.cell 5 _ rfl
 have c6:=hc.cell 6 _ rfl
 clear hc h6
 go_enter Tryz.func62,Tryz.ntmps62
 go_wp2_with fail
 refine (hashof2 w b0 b1 b2 b3 b4 b5 s hz2).mono ?_
 rintro e w1 ⟨rfl,f1⟩
 go_wp2_with fail
 go_ret
 exact ⟨rfl,f1⟩
theorem hash_any (hk:Nat) (h:hk≤2):HashC hk:=by
 have:hk=0∨hk=1∨hk=2:=by omega
 rcases this with rfl|rfl|rfl
 · exact hash0
 · exact hash1
 · exact hash2
theorem stepC8 (B:Nat) (eb:Nat→Addr) (s:St) (d:DoIn) (hop:d.op=8) (hs:Small s):StepC B eb s d:=by
 intro w G b0 b1 b2 b3 b4 b5 hk ao n cap h hG HC E hB hp
 obtain ⟨op,a,b,wt,prs⟩:=d
 subst hop hG
 obtain ⟨s1,s2,s3,s4⟩:=small_pts h hs
 have e1:G.st.step ⟨8,a,b,wt,prs⟩=({ links:=sortL (G.st.ls.map (SL.low G.dir)) },G.st):=rfl
 rw [e1]
 cases hd:G.dir with
 | true =>
   rw [val_dir hd,← hd]
   refine (stepGw w G h 162 b0 b1 b2 b3 b4 b5 hk a b wt ao n cap prs hp s2 s4 (.inl ⟨rfl,hd,fun w' f=>dedges w' G (h.fr f (fun _ _ q=>q) (fun q=>q)) hd s4⟩)).mono ?_
   rintro e w' ⟨v,rfl,h1,g⟩
   exact ⟨v,G,rfl,told_asked h h1,rfl,g⟩
 | false =>
   rw [val_undir hd,← hd]
   refine (stepGw w G h 164 b0 b1 b2 b3 b4 b5 hk a b wt ao n cap prs hp s2 s4 (.inr ⟨rfl,hd,fun w' f=>uedges w' G (h.fr f (fun _ _ q=>q) (fun q=>q)) hd s4⟩)).mono ?_
   rintro e w' ⟨v,rfl,h1,g⟩
   exact ⟨v,G,rfl,told_asked h h1,rfl,g⟩
structure Fit (dir:Bool) (hk:Nat) (d:DoIn):Prop where
 op:d.op≤10
 ab:d.op=2→dir=false→d.a≠d.b
 hz:d.op=0→hk=2→d.a.size≤99
 prs:d.prs.length≤4
theorem RightD.fit {dir:Bool} {d:DoIn} (h:RightD dir d) (hk:Nat):Fit dir hk d :=
 ⟨h.op,fun ho hd e=>h.loop hd e ⟨by omega,by omega⟩,fun _ _=>by have:=h.a;omega,h.prs⟩
theorem fit_stepC (B:Nat) (eb:Nat→Addr) (s:St) (d:DoIn) (hs:Small s) (hpr:s.pr=false) (h:Fit s.dir s.hk d):StepC B eb s d:=by
 have ho:d.op=0∨d.op=1∨d.op=2∨d.op=3∨d.op=4∨d.op=5∨d.op=6∨d.op=7∨d.op=8∨d.op=9∨d.op=10:=by have:=h.op;omega
 have hab:=h.ab
 cases hd:s.dir with
 | true =>
   rcases ho with o|o|o|o|o|o|o|o|o|o|o
   · exact dstepC0 B eb s d o hd (h.hz o)
   · exact dstepC1 B eb s d o hd
   · exact dstepC2 B eb s d o hd (.inr (.inr (.inr hpr))) (hab o)
   · exact dstepC3 B eb s d o hd
   · exact dstepC4 B eb s d o hd
   · exact dstepC5 B eb s d o hd hs
   · exact dstepC6 B eb s d o hd hs
   · exact dstepC7 B eb s d o hd hs
   · exact stepC8 B eb s d o hs
   · exact stepC9 B eb s d o hs
   · exact stepC10 B eb s d o hs
 | false =>
   rcases ho with o|o|o|o|o|o|o|o|o|o|o
   · exact ustepC0 B eb s d o hd (h.hz o)
   · exact ustepC1 B eb s d o hd
   · exact ustepC2 B eb s d o hd (.inr (.inr (.inr hpr))) (hab o)
   · exact ustepC3 B eb s d o hd
   · exact ustepC4 B eb s d o hd
   · exact ustepC5 B eb s d o hd hs
   · exact ustepC6 B eb s d o hd hs
   · exact ustepC7 B eb s d o hd hs
   · exact stepC8 B eb s d o hs
   · exact stepC9 B eb s d o hs
   · exact stepC10 B eb s d o hs
end Go.Proofs.YtbafaadmlpamiaaGreatDoor
