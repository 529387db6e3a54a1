import Derived.Test.YtbafaadmlpamiaaGreatDoorA8
import Derived.Test.YtbafaadmlpamiaaGreatDoorProg
import Derived.Shelf.Sort.Plain
import Derived.Shelf.Slices.In.SortNone2
set_option maxRecDepth 100000
set_option maxHeartbeats 1000000
namespace Go.Proofs.YtbafaadmlpamiaaGreatDoor
open Go Go.Hy Go.Proofs Go.Shelf Go.RowKit Go.Sort
abbrev LnkV:=SL × Option Addr × Nat × Nat
instance:Inhabited SL:=⟨⟨⟨#[]⟩,⟨#[]⟩,0,[]⟩⟩
def LnkV.val (x:LnkV):Value:=.slice x.2.1 x.2.2.1 x.2.2.2
def encLnk (x:LnkV):List Value:=[.string x.1.a,.string x.1.b,.int .i64 x.1.wt,.slice x.2.1 x.2.2.1 x.2.2.2]
def keyL (x:LnkV):ByteArray × ByteArray:=(x.1.a,x.1.b)
theorem drewN_two (w:World) (n m:Nat):(w.drewN n).drewN m=w.drewN (n+m):=by simp [World.drewN,Nat.add_assoc]
theorem lessL (blk off c Bs size:Nat) (W:World) (dk:Array LnkV) (hs:W.cell? ⟨Bs,0,none⟩=some (.slice (some ⟨blk,off,none⟩) size c))
   (hc:∀ t,t < size→W.cell? ⟨blk,off+t * 4,none⟩=some (.string dk[t]!.1.a)∧W.cell? ⟨blk,off+t * 4+1,none⟩=some (.string dk[t]!.1.b)) (i j:Nat) (hi:i < size) (hj:j < size) (_hsz:size < 4611686018427387904) :
   Calls Tryz.prog 92 #[.int .i64 i,.int .i64 j,.pointer (some ⟨Bs,0,none⟩)] W fun e w'=>e=.returned (.bool (lt2 (keyL dk[i]!) (keyL dk[j]!)))∧∃ q,w'=W.drewN q:=by
 obtain ⟨ci,ci'⟩:=hc i hi
 obtain ⟨cj,cj'⟩:=hc j hj
 generalize dk[i]! = x at *
 generalize dk[j]! = y at *
 clear hc
 by_cases h:x.1.a=y.1.a
 · have HE:=Lib.hid h
   rw [h] at ci
   clear h
   go_enter Tryz.func92,Tryz.ntmps92
   go_wp2_with fail
   go_quiet (fail)
   go_wp2_with fail
   go_quiet (fail)
   go_wp2_with fail
   go_ret
   refine ⟨by unfold lt2 keyL;rw [if_pos HE.out];rfl,_,drewN_two _ _ _⟩
 · have HE:=Lib.hid h
   have h1:(x.1.a.toList == y.1.a.toList)=false:=by
     cases e:x.1.a.toList == y.1.a.toList with
     | false=>rfl
     | true=>exact absurd (toList_inj (beq_iff_eq.1 e)) h
   clear h
   go_enter Tryz.func92,Tryz.ntmps92
   go_wp2_with fail
   go_quiet (fail)
   go_wp2_with fail
   go_quiet (fail)
   go_wp2_with fail
   go_ret
   refine ⟨by unfold lt2 keyL;rw [if_neg HE.out];rfl,_,drewN_two _ _ _⟩
noncomputable def LT:TypeInfo:=(Tryz.prog.info? 42).get (by kernel_rfl)
noncomputable def LE:TypeInfo:=(Tryz.prog.info? 65).get (by kernel_rfl)
theorem LK (n:Nat) (h2:2≤n):Go.Lib.swapperK n LE 25=9:=by
 have a:LE.hasPointers=true:=by kernel_rfl
 have b:(LE.bytes == 8)=false:=by kernel_rfl
 have c:(n == 0)=false:=by simp;omega
 have d:(n == 1)=false:=by simp;omega
 simp [Go.Lib.swapperK,a,b,c,d]
theorem Lsort (w:World) (v:Value) (l:List LnkV) (base:Nat) (ho:w.ownsRow base 65 4 v l.length (encL encLnk l)) (Bs:Nat) (hBs:w.cell? ⟨Bs,0,none⟩=some v) (hB2:v.ownBlock≠some Bs) (hlen:l.length≤1000000) :
   Calls Tryz.prog 90 #[.iface 42 v,.func (Fn.func 92) #[] #[.pointer (some ⟨Bs,0,none⟩)]] w fun e w'=>e=.returned (.tuple #[])∧∃ l',l'.Perm l∧l'.Pairwise (fun a b=>lt2 (keyL b) (keyL a)=false)∧Reads w' v l.length (encL encLnk l')∧Fr (fun k=>v.ownBlock=some k) w w':=by
 have hBl:Bs < w.heap.size:=World.block_lt_of_cell? w _ hBs
 by_cases h2:2≤l.length
 · obtain ⟨ao,cap,hv,hcap,_⟩:=own_slice ho
   rcases ho.2 with ⟨_,h0⟩|⟨gb,cap',cur,rfl,_,hg,_⟩
   · omega
   · cases hv
     obtain ⟨hH,hgl⟩:=holds_of_own encLnk 4 (fun _=>rfl) (by decide) ho
     have hne:Bs≠gb:=fun q=>hB2 (by rw [q];rfl)
     have hless:LessReadsK Tryz.prog 92 #[.pointer (some ⟨Bs,0,none⟩)] encLnk 4 (fun a b=>lt2 (keyL a) (keyL b)) gb 0 l.toArray.size w:=by
       intro m os dk hs i j hi hj
       have e:sortWorldK encLnk 4 w gb 0 m dk os=putRowK encLnk 4 (Sort.grow (Sort.ahead w m) os) gb 0 dk:=by
         unfold sortWorldK;rw [putRowK_grow _ _ (Sort.ahead w m) _ gb 0 _ hgl]
       have hHg:HoldsK encLnk 4 (Sort.grow (Sort.ahead w m) os) gb 0 l.toArray:=holdsK_grow _ _ _ _ gb 0 _ hgl (holdsK_ahead _ _ _ _ _ _ _ hH)
       have hH2:=holdsK_putRowK _ _ _ gb 0 l.toArray dk hHg hs
       have hs':dk.size=l.length:=by rw [hs];simp
       rw [e]
       refine lessL gb 0 cap Bs l.length _ dk ?_ (fun t ht => ?_) i j (by simpa using hi) (by simpa using hj) (by omega)
       · rw [cell?_putRowK_other _ _ _ gb 0 dk _ (by exact hne),cell?_grow _ _ _ (by exact hBl)];exact hBs
       · exact ⟨(hH2.cell (i:=t) (c:=0) (by omega) (by omega)).1,(hH2.cell (i:=t) (c:=1) (by omega) (by omega)).1⟩
     have hS:=Any.sort_Slice_cells_sorted Tryz.sl6 42 65 LT LE (by kernel_rfl) (by kernel_rfl) (by kernel_rfl) (by kernel_rfl) 25 (fun _=>by kernel_rfl) encLnk 4 (fun _=>rfl) (by kernel_rfl) (fun _=>by kernel_rfl)
       (fun x v hv=>by simp [encLnk] at hv;rcases hv with rfl|rfl|rfl|rfl <;> rfl) (fun a b=>lt2 (keyL a) (keyL b)) (lt2_sto.swo keyL) 92 _
       (enters_of Tryz.func92 (by kernel_rfl) rfl) gb 0 cap l.toArray (by simpa using h2) (by simp;omega) 114 (by rw [LK _ (by simpa using h2)];kernel_rfl) false
       (fun args W=>run_callFunc_extern Tryz.func114 (by kernel_rfl) (by kernel_rfl) (by kernel_rfl) (e:=Extern.ReflectliteSwapper.swap false) (by kernel_rfl) args W) w hless hH hgl
     have hc:(l.toArray.size:Nat)=l.length:=by simp
     rw [hc] at hS
     refine Calls.mono hS ?_
     rintro e w' ⟨rfl,d',n,os,hp,hs,rfl⟩
     have hsz:d'.size=l.length:=by rw [hp.1];simp
     have hperm:d'.toList.Perm l:=by
       have:=hp.2.2
       have e1:d'.extract 0 l.length=d':=by rw [← hsz];simp
       have e2:l.toArray.extract 0 l.length=l.toArray:=by rw [← hc];exact Array.extract_size
       rw [e1,e2] at this
       simpa using this
     refine ⟨rfl,d'.toList,hperm,?_,?_,?_⟩
     · rw [List.pairwise_iff_getElem]
       intro i j hi hj hij
       have h3:i < d'.size:=by simpa using hi
       have h4:j < d'.size:=by simpa using hj
       have:=hs i j (Nat.zero_le _) hij (by omega)
       simpa [h3,h4] using this
     · refine ⟨some ⟨gb,0,none⟩,cap,rfl,hcap,fun j u hj=>⟨gb,rfl,?_,?_⟩⟩
       · have:=(fr_sorted encLnk 4 w n gb d' os).size;omega
       · have hHf:HoldsK encLnk 4 (putRowK encLnk 4 (Sort.ahead w n) gb 0 d') gb 0 d':=holdsK_putRowK _ _ _ gb 0 l.toArray d' (holdsK_ahead _ _ _ _ _ _ _ hH) (by rw [hp.1])
         have hHw:=holdsK_grow _ _ _ os gb 0 d' (by have:=(fr_sorted encLnk 4 w n gb d' #[]).size;simp at this;omega) hHf
         have hjl:j < d'.size * 4:=by
           have:=(List.getElem?_eq_some_iff.1 hj).1
           rw [encL_len encLnk 4 (fun _=>rfl)] at this
           simpa using this
         have h5:=hHw j (by rw [size_flatK];exact hjl)
         rw [Nat.zero_add,get_flatK _ _ _ _ hjl] at h5
         rw [h5.1]
         have h6:=encL_at encLnk 4 (fun _=>rfl) d'.toList (j / 4) (j % 4) (by simp;omega) (Nat.mod_lt _ (by decide))
         rw [show j / 4 * 4+j % 4=j by omega,hj] at h6
         have hlt:j / 4 < d'.size:=by omega
         have e7:d'.toList[j / 4]! = d'[j / 4]!:=by
           rw [getElem!_pos d'.toList _ (by simpa using hlt),getElem!_pos d' _ hlt]
           simp
         rw [e7] at h6
         exact h6.symm
     · exact (fr_sorted encLnk 4 w n gb d' os).mono fun q hq=>by rw [hq];rfl
 · obtain ⟨ao,cap,rfl,hcap,hr⟩:=own_slice ho
   have hT:Calls Tryz.prog 90 #[.iface 42 (.slice ao l.length cap),.func (Fn.func 92) #[] #[.pointer (some ⟨Bs,0,none⟩)]] w fun e w'=>e=.returned (.tuple #[])∧∃ os,w'=Sort.grow w os:=by
     have h01:l.length=0∨l.length=1:=by omega
     rcases h01 with h|h
     · rw [h]
       exact Any.sort_Slice_tiny Tryz.sl6 42 65 LT LE (by kernel_rfl) (by kernel_rfl) (by kernel_rfl) (by kernel_rfl) 25 (fun _=>by kernel_rfl) ao 0 cap (by decide) 106 (by kernel_rfl) _ _ _ w
     · rw [h]
       exact Any.sort_Slice_tiny Tryz.sl6 42 65 LT LE (by kernel_rfl) (by kernel_rfl) (by kernel_rfl) (by kernel_rfl) 25 (fun _=>by kernel_rfl) ao 1 cap (by decide) 107 (by kernel_rfl) _ _ _ w
   refine hT.mono ?_
   rintro e w' ⟨rfl,os,rfl⟩
   have fg:Fr0 w (Sort.grow w os):=⟨rfl,rfl,rfl,by rw [size_grow];omega,fun i hi _=>by unfold Sort.grow;exact Array.getElem?_append_left hi⟩
   refine ⟨rfl,l,List.Perm.refl _,?_,⟨ao,cap,rfl,hcap,fun j u hj => ?_⟩,fg.mono fun _ q=>q.elim⟩
   · exact List.pairwise_iff_getElem.2 fun i j hi hj hij=>by omega
   · obtain ⟨ob,h3,h4,h5⟩:=hr j u hj
     exact ⟨ob,h3,Nat.lt_of_lt_of_le h4 fg.size,(fg.cell (p:=⟨ob,j,none⟩) h4 (fun q=>q)).trans h5⟩
end Go.Proofs.YtbafaadmlpamiaaGreatDoor
namespace Go.Proofs.YtbafaadmlpamiaaGreatDoor
open Go Go.Hy Go.RowKit
theorem inlinks (w:World) (v:Value) (l:List LnkV) (base:Nat) (ho:w.ownsRow base 65 4 v l.length (encL encLnk l)) (hlen:l.length≤1000000) :
   Calls Tryz.prog 70 #[v] w fun e w'=>e=.returned (.tuple #[])∧∃ l',l'.Perm l∧l'.Pairwise (fun a b=>lt2 (keyL b) (keyL a)=false)∧Reads w' v l.length (encL encLnk l')∧Fr (fun k=>v.ownBlock=some k) w w':=by
 have HO:=Lib.hid ho
 have HL:=Lib.hid hlen
 obtain ⟨ao,cap,rfl, -, -⟩:=own_slice ho
 have hb:=ho.lt
 have hnb:(Value.slice ao l.length cap).ownBlock≠some w.heap.size:=fun q=>by have:=(hb _ q).2;omega
 have NB:=Lib.hid hnb
 clear ho hlen hb hnb
 go_enter Tryz.func70,Tryz.ntmps70
 go_wp2_with fail
 refine (Lsort (w.alloc (.cells #[.slice ao l.length cap] 42)) (.slice ao l.length cap) l base (ownsRow_fr HO.out ((Fr.refl (fun _=>False) w).alloc _) (fun _ _ q=>q)) w.heap.size ((Cells.new w _ _).cell 0 _ rfl) NB.out HL.out).mono ?_
 rintro e w1 ⟨rfl,l',h1,h2,h3,h4⟩
 have R:=hid4 h1 h2 h3 h4
 clear h1 h2 h3 h4
 go_wp2_with fail
 go_end0
 exact ⟨rfl,l',R.out.1,R.out.2.1,R.out.2.2.1,(((Fr.refl _ w).alloc _).trans R.out.2.2.2 fun _ q=>.inl q)⟩
end Go.Proofs.YtbafaadmlpamiaaGreatDoor
namespace Go.Proofs.YtbafaadmlpamiaaGreatDoor
open Go Go.Proofs Go.Shelf Go.RowKit Go.Lib Go.Sort
def Tryz.sl192_ren:Go.Shelf.Ren:=⟨fun | 192=>71 | 190=>93 | 125=>102 | 258=>104 | 128=>115 | 129=>116 | 302=>125 | 303=>126 | 304=>127 | 305=>128 | 306=>129 | 307=>130 | 308=>131 | 309=>132 | 310=>133 | 333=>143 | 329=>144 | 330=>145 | 334=>146 | 335=>147 | 336=>148 | 344=>154|n=>n,fun | 31=>41 | 0=>0 | 9=>9 | 3=>3 | 46=>195 | 51=>213 | 53=>215 | 4=>4 | 183=>226 | 182=>225 | 131=>222 | 5=>5 | 218=>241 | 222=>239 | 228=>253 | 229=>251|n=>n,fun|n=>n⟩
theorem Tryz.sl192:Go.Proofs.Lays.n192 Tryz.prog Tryz.sl192_ren:={
 mixed:=by kernel_rfl
 f125:=Tryz.func102.trans (congrArg some (by kernel_rfl))
 f128:=Tryz.func115.trans (congrArg some (by kernel_rfl))
 f129:=Tryz.func116.trans (congrArg some (by kernel_rfl))
 f190:=Tryz.func93.trans (congrArg some (by kernel_rfl))
 f192:=Tryz.func71.trans (congrArg some (by kernel_rfl))
 f258:=Tryz.func104.trans (congrArg some (by kernel_rfl))
 f302:=Tryz.func125.trans (congrArg some (by kernel_rfl))
 f303:=Tryz.func126.trans (congrArg some (by kernel_rfl))
 f304:=Tryz.func127.trans (congrArg some (by kernel_rfl))
 f305:=Tryz.func128.trans (congrArg some (by kernel_rfl))
 f306:=Tryz.func129.trans (congrArg some (by kernel_rfl))
 f307:=Tryz.func130.trans (congrArg some (by kernel_rfl))
 f308:=Tryz.func131.trans (congrArg some (by kernel_rfl))
 f309:=Tryz.func132.trans (congrArg some (by kernel_rfl))
 f310:=Tryz.func133.trans (congrArg some (by kernel_rfl))
 f329:=Tryz.func144.trans (congrArg some (by kernel_rfl))
 f330:=Tryz.func145.trans (congrArg some (by kernel_rfl))
 f333:=Tryz.func143.trans (congrArg some (by kernel_rfl))
 f334:=Tryz.func146.trans (congrArg some (by kernel_rfl))
 f335:=Tryz.func147.trans (congrArg some (by kernel_rfl))
 f336:=Tryz.func148.trans (congrArg some (by kernel_rfl))
 f344:=Tryz.func154.trans (congrArg some (by kernel_rfl))
 t0:=Tryz.underlying0
 a0:=Tryz.isAgg0
 z0:=Tryz.sizeOf0
 v0:=Tryz.zeroValue0
 t3:=Tryz.underlying3
 a3:=Tryz.isAgg3
 z3:=Tryz.sizeOf3
 v3:=Tryz.zeroValue3
 t4:=Tryz.underlying4
 a4:=Tryz.isAgg4
 z4:=Tryz.sizeOf4
 v4:=Tryz.zeroValue4
 t5:=Tryz.underlying5
 a5:=Tryz.isAgg5
 z5:=Tryz.sizeOf5
 v5:=Tryz.zeroValue5
 t9:=Tryz.underlying9
 a9:=Tryz.isAgg9
 z9:=Tryz.sizeOf9
 v9:=Tryz.zeroValue9
 t31:=Tryz.underlying41
 a31:=Tryz.isAgg41
 z31:=Tryz.sizeOf41
 v31:=Tryz.zeroValue41
 t46:=Tryz.underlying195
 a46:=Tryz.isAgg195
 z46:=Tryz.sizeOf195
 v46:=Tryz.zeroValue195
 t51:=Tryz.underlying213
 a51:=Tryz.isAgg213
 z51:=Tryz.sizeOf213
 v51:=Tryz.zeroValue213
 t53:=Tryz.underlying215
 a53:=Tryz.isAgg215
 z53:=Tryz.sizeOf215
 v53:=Tryz.zeroValue215
 t131:=Tryz.underlying222
 a131:=Tryz.isAgg222
 z131:=Tryz.sizeOf222
 v131:=Tryz.zeroValue222
 t182:=Tryz.underlying225
 a182:=Tryz.isAgg225
 z182:=Tryz.sizeOf225
 v182:=Tryz.zeroValue225
 t183:=Tryz.underlying226
 a183:=Tryz.isAgg226
 z183:=Tryz.sizeOf226
 v183:=Tryz.zeroValue226
 t218:=Tryz.underlying241
 a218:=Tryz.isAgg241
 z218:=Tryz.sizeOf241
 v218:=Tryz.zeroValue241
 t222:=Tryz.underlying239
 a222:=Tryz.isAgg239
 z222:=Tryz.sizeOf239
 v222:=Tryz.zeroValue239
 t228:=Tryz.underlying253
 a228:=Tryz.isAgg253
 z228:=Tryz.sizeOf253
 v228:=Tryz.zeroValue253
 t229:=Tryz.underlying251
 a229:=Tryz.isAgg251
 z229:=Tryz.sizeOf251
 v229:=Tryz.zeroValue251
}
end Go.Proofs.YtbafaadmlpamiaaGreatDoor
namespace Go.Proofs.YtbafaadmlpamiaaGreatDoor
open Go Go.Hy Go.Proofs Go.Shelf Go.RowKit Go.Sort
theorem enc_text (k:ByteArray):encStr k.data.toList=.string k:=by
 unfold encStr
 simp
theorem le_text (a b:ByteArray):(!ltB b a)=decide (a.data.toList≤b.data.toList):=by
 have e:ltB b a=decide (b.data.toList < a.data.toList):=by
   unfold ltB
   rw [bl_eq,ByteArray.toList_eq,ByteArray.toList_eq]
 rw [e]
 by_cases h:b.data.toList < a.data.toList
 · rw [decide_eq_true h,decide_eq_false (fun q=>q h)];rfl
 · rw [decide_eq_false h,decide_eq_true (show a.data.toList≤b.data.toList from h)];rfl
theorem sort_texts (ks:List ByteArray):(ks.map fun k=>k.data.toList).mergeSort (fun x y=>decide (x≤y))=(sortK ks).map fun k=>k.data.toList:=by
 unfold sortK
 exact (List.map_mergeSort fun a _ b _=>le_text a b).symm
theorem fr_put (w:World) (m blk:Nat) (d:Array (List UInt8)) (os:Array Obj):Fr (· = blk) w (Sort.grow (putRow encStr (Sort.ahead w m) blk 0 d) os):=by
 have hs:(putRow encStr (Sort.ahead w m) blk 0 d).heap.size=w.heap.size:=by
   unfold putRow mapBlock
   simp
 refine ⟨rfl,rfl,rfl,by rw [size_grow,hs];omega,fun i hi hn => ?_⟩
 have h1:(Sort.grow (putRow encStr (Sort.ahead w m) blk 0 d) os).heap[i]? = (putRow encStr (Sort.ahead w m) blk 0 d).heap[i]?:=by
   unfold Sort.grow
   exact Array.getElem?_append_left (by rw [hs];exact hi)
 rw [h1]
 unfold putRow mapBlock
 simp [Array.getElem?_modify,Ne.symm hn]
theorem sortstrs (w:World) (v:Value) (ks:List ByteArray) (base:Nat) (ho:w.ownsRow base 9 1 v ks.length (ks.map .string)) (hlen:ks.length≤1000000) :
   Calls Tryz.prog 71 #[v] w fun e w'=>e=.returned (.tuple #[])∧Reads w' v ks.length ((sortK ks).map .string)∧Fr (fun k=>v.ownBlock=some k) w w':=by
 by_cases h0:ks = []
 · subst h0
   obtain ⟨ao,cap,rfl,hcap,hr⟩:=own_slice ho
   refine (Any.sort_Strings_none Tryz.sl192 ao cap w).mono ?_
   rintro e w' ⟨rfl,rfl⟩
   have e:sortK [] = []:=by simp [sortK]
   rw [e]
   exact ⟨rfl,own_slice ho,Fr.refl _ _⟩
 · have hp:0 < ks.length:=List.length_pos_iff.2 h0
   have hR:=own_slice ho
   rcases ho.2 with ⟨_,hn⟩|⟨gb,cap,cur,rfl,_,hg,hcap,_⟩
   · omega
   · have hgl:=lt_of_some hg
     have hH:Holds encStr w gb 0 (ks.map fun k=>k.data.toList).toArray:=by
       intro j hj
       have hj':j < ks.length:=by simpa using hj
       obtain ⟨_,_,e,_,hr⟩:=hR
       cases e
       obtain ⟨ob,e,_,hc⟩:=hr j (.string ks[j]) (by rw [List.getElem?_map,List.getElem?_eq_getElem hj'];rfl)
       cases e
       refine ⟨?_,by simp [World.frozen?,hg]⟩
       rw [Nat.zero_add,hc,getElem!_pos _ j hj]
       simp [enc_text]
     have hS:=Any.sort_Strings Tryz.sl192 gb 0 cap (ks.map fun k=>k.data.toList) w hH hgl (by rw [List.length_map];omega)
     rw [List.length_map] at hS
     refine Calls.mono hS ?_
     rintro e w' ⟨rfl,n,os,rfl⟩
     rw [sort_texts]
     refine ⟨rfl,?_,(fr_put w n gb _ os).mono fun q hq=>by rw [hq];rfl⟩
     have hl:(sortK ks).length=ks.length:=by unfold sortK;rw [List.length_mergeSort]
     have hs:((sortK ks).map fun k=>k.data.toList).toArray.size=(ks.map fun k=>k.data.toList).toArray.size:=by simp [hl]
     have hHf:=holds_grow encStr _ os gb 0 _ (by have:=(fr_put w n gb ((sortK ks).map fun k=>k.data.toList).toArray #[]).size;rw [Sort.grow_empty] at this;omega) (holds_putRow encStr (Sort.ahead w n) gb 0 _ ((sortK ks).map fun k=>k.data.toList).toArray (holds_ahead encStr w n gb 0 _ hH) hs)
     refine ⟨some ⟨gb,0,none⟩,cap,rfl,hcap,fun j u hj=>⟨gb,rfl,?_,?_⟩⟩
     · have:=(fr_put w n gb ((sortK ks).map fun k=>k.data.toList).toArray os).size;omega
     · have hjl:j < (sortK ks).length:=by
         have:=(List.getElem?_eq_some_iff.1 hj).1
         simpa using this
       have h5:=(hHf j (by simpa using hjl)).1
       rw [Nat.zero_add,getElem!_pos _ j (by simpa using hjl)] at h5
       rw [h5]
       rw [List.getElem?_map,List.getElem?_eq_getElem hjl] at hj
       simp [enc_text] at hj ⊢
       exact hj
end Go.Proofs.YtbafaadmlpamiaaGreatDoor
