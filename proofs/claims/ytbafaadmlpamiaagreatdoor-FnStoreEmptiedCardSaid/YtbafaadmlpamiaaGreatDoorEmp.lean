/- FnStoreEmptied: the walk. -/
import Derived.Test.YtbafaadmlpamiaaGreatDoorTwi0
namespace Go.Proofs.YtbafaadmlpamiaaGreatDoor
open Go Go.Hy Go.RowKit
structure Al (w0:World) (dir:Bool) (hk:Nat) (xs:List DoIn) (v:Value) (dvs:List (DoIn × Value)) (wr:World):Prop where
 fst:dvs.map (·.1) = xs
 row:wr.ownsRow w0.heap.size 28 5 v xs.length (encL encDo dvs)
 prs:∀ p ∈ dvs,PrAt w0 p.2 p.1.prs
 fr:Fr0 w0 wr
 fit:∀ d ∈ xs,Fit dir hk d
def bare (o:Nat) (a b:ByteArray):DoIn:=⟨o,a,b,0,[]⟩
def bares (ys:List DoIn):List (DoIn × Value):=ys.map fun d => (d,.slice none 0 0)
theorem bare_ok {o:Nat} {a b:ByteArray} (h:o ≠ 0 ∧ o ≠ 2 ∧ o ≤ 10):(bare o a b).prs = [] ∧ (bare o a b).op ≠ 0 ∧ (bare o a b).op ≠ 2 ∧ (bare o a b).op ≤ 10:=⟨rfl,h⟩
theorem Al.more {w0 w4 wr:World} {dir:Bool} {hk:Nat} {xs:List DoIn} {v v':Value} {dvs:List (DoIn × Value)} (h:Al w0 dir hk xs v dvs wr) (ys:List DoIn) (hy:∀ d ∈ ys,d.prs = [] ∧ d.op ≠ 0 ∧ d.op ≠ 2 ∧ d.op ≤ 10)
   (ho:w4.ownsRow w0.heap.size 28 5 v' (xs.length + ys.length) (encL encDo dvs ++ encL encDo (bares ys))) (f:Fr0 w0 w4):Al w0 dir hk (xs ++ ys) v' (dvs ++ bares ys) w4:=by
 have e:(bares ys).map (·.1) = ys:=by unfold bares;rw [List.map_map];exact List.map_id _
 refine ⟨by rw [List.map_append,h.fst,e],?_,?_,f,?_⟩
 · rw [List.length_append]
   have:encL encDo (dvs ++ bares ys) = encL encDo dvs ++ encL encDo (bares ys):=by unfold encL;rw [List.flatMap_append]
   rw [this]
   exact ho
 · intro p hp
   rcases List.mem_append.1 hp with q|q
   · exact h.prs p q
   · obtain ⟨d,hd,rfl⟩:=List.mem_map.1 q
     show PrAt w0 (.slice none 0 0) d.prs
     rw [(hy d hd).1]
     exact ⟨none,0,rfl,fun i p h => by simp at h⟩
 · intro d hd
   rcases List.mem_append.1 hd with q|q
   · exact h.fit d q
   · obtain ⟨h1,h2,h3,h4⟩:=hy d q
     exact ⟨h4,fun z => absurd z h3,fun z => absurd z h2,by rw [h1];decide⟩
theorem field61 (w:World) (e1:Int) (s1 s2 s3:ByteArray) (i1 i2 i3:Int) (a1 a2 a3:Option Addr) (n1 c1 n2 c2 n3 c3:Nat) :
   Sem.run Tryz.prog (Instr.field 61 (.agg #[.int .u8 e1,.string s1,.string s2,.string s3,.int .i64 i1,.int .i64 i2,.int .i64 i3,.slice a1 n1 c1,.slice a2 n2 c2,.slice a3 n3 c3]) 9) w = .ok (.slice a3 n3 c3) w:=by kernel_rfl
theorem w64small {x:Int} (h0:0 ≤ x) (h:x ≤ 1000000):wrap64 x = x:=by
 unfold wrap64
 omega
theorem u8_nat {n:Int} (h:(Lit.int .u8 n).wf = true):∃ t:Nat,n = t ∧ t < 256:=by
 simp only [Lit.wf,Bool.and_eq_true,decide_eq_true_eq] at h
 have h1:0 ≤ n:=h.1
 have h2:n ≤ 255:=h.2
 exact ⟨n.toNat,by omega,by omega⟩
theorem yields_cellsE {w:World} {b m c:Nat} {cs:Array Value} {t:TypeId} (h:w.heap[b]? = some (.cells cs t (0,0))):Yld w (.slice (some ⟨b,0,none⟩) m c) m cs.toList:=.inr ⟨_,_,rfl,World.news_of_block h⟩
theorem yieldsAt {W:World} {n m c:Nat} {cs:Array Value} {t:TypeId} (hn:W.heap.size = n):Yld (W.alloc (.cells cs t)) (.slice (some ⟨n,0,none⟩) m c) m cs.toList:=hn ▸ yields_cellsE (heap_alloc_new W _)
theorem Al.past {w0 wr w':World} {dir:Bool} {hk:Nat} {xs:List DoIn} {v:Value} {dvs:List (DoIn × Value)} (h:Al w0 dir hk xs v dvs wr) (f:Fr0 wr w'):Al w0 dir hk xs v dvs w' :=
 ⟨h.fst,ownsRow_fr h.row f (fun _ _ q => q),h.prs,h.fr.trans0 f,h.fit⟩
theorem KeysIn.past {w wA w7:World} {v v' kv:Value} {ks:List ByteArray} (h:KeysIn w (fun q => v.ownBlock ≠ some q) kv ks) (fA:Fr0 w wA) (f7:Fr (fun k => v.ownBlock = some k) wA w7) {n:Nat} (hat:v'.ownBlock = v.ownBlock ∨ v'.ownBlock = some n) (hn:n = wA.heap.size) :
   KeysIn w7 (fun q => v'.ownBlock ≠ some q) kv ks:=by
 refine (((h.fr fA fun _ _ _ q => q).imp (p':=fun q => v.ownBlock ≠ some q ∧ q < wA.heap.size) fun q h1 h2 => ⟨h1,h2⟩).fr f7 fun q h1 _ e => h1.1 e).imp fun q h1 _ e => ?_
 rcases hat with z|z
 · exact h1.1 (z.symm.trans e)
 · rw [z] at e
   have:=h1.2
   injection e with e
   omega
theorem KeysIn.at_ {w:World} {p:Nat → Prop} {v:Value} {ks:List ByteArray} (h:KeysIn w p v ks) {i:Nat} {x:ByteArray} (hi:ks[i]? = some x) :
   ∃ ob cap,v = .slice (some ⟨ob,0,none⟩) ks.length cap ∧ ob < w.heap.size ∧ w.cell? ⟨ob,i,none⟩ = some (.string x):=by
 obtain ⟨⟨ao,cap,rfl, -,hr⟩, -⟩:=h
 obtain ⟨ob,rfl,hob,hc⟩:=hr i (.string x) (by rw [List.getElem?_map,hi];rfl)
 exact ⟨ob,cap,rfl,hob,hc⟩
set_option linter.unusedSimpArgs false in
set_option maxRecDepth 100000 in
set_option maxHeartbeats 4000000 in
theorem fp11 (w:World) (b0 b1 b2 b3 b4 b5:Bool) (hk:Nat) (v:Value) (ds:List DoIn) (h:SDosAt w v ds) (t:Nat) (ht:t < 256) (B:Nat) (eb:Nat → Addr) (E:ErrsOk w B eb) :
   Calls Tryz.prog 11 #[kagg b0 b1 b2 b3 b4 b5 hk,v,.int .u8 t] w fun e w' => e = .returned (.bool true) ∧ Fr0 w w':=by
 have E0:=Lib.hid E
 have HD:=Lib.hid h
 have HT:=Lib.hid ht
 obtain ⟨av,cv,rfl, -⟩:=h
 clear E ht
 have KB:=Lib.hid (Cells.new w #[.bool b0,.bool b1,.bool b2,.bool b3,.bool b4,.bool b5,.int .u8 hk] 52)
 have FB:=Lib.hid ((Fr.refl (fun _ => False) w).alloc (.cells #[.bool b0,.bool b1,.bool b2,.bool b3,.bool b4,.bool b5,.int .u8 hk] 52))
 go_enter Tryz.func11,Tryz.ntmps11
 go_wp2_with fail
 generalize w.alloc (.cells #[.bool b0,.bool b1,.bool b2,.bool b3,.bool b4,.bool b5,.int .u8 hk] 52) = W at *
 refine (zz1 W _ ds (HD.out.fr FB.out)).mono ?_
 rintro e w1 ⟨r,rfl,hr,f1⟩
 have F1:=Lib.hid f1
 have HR1:=Lib.hid hr
 clear hr f1
 cases r with
 | false =>
   go_wp2_with fail
   go_ret
   exact ⟨rfl,FB.out.trans0 F1.out⟩
 | true =>
   have KB1:=Lib.hid (KB.out.fr F1.out (fun q => q))
   (have k0:=KB1.out.cell 0 _ rfl;have k1:=KB1.out.cell 1 _ rfl;have k2:=KB1.out.cell 2 _ rfl;have k3:=KB1.out.cell 3 _ rfl;have k4:=KB1.out.cell 4 _ rfl;have k5:=KB1.out.cell 5 _ rfl;have k6:=KB1.out.cell 6 _ rfl)
   go_wp2_with fail
   refine (kindr w1 b0 b1 b2 b3 b4 b5 hk).mono ?_
   rintro e w2 ⟨r2,rfl,hr2,f2⟩
   have F2:=Lib.hid (F1.out.trans0 f2)
   have HR2:=Lib.hid hr2
   have KB2:=Lib.hid (KB.out.fr F2.out (fun q => q))
   clear hr2 f2 k0 k1 k2 k3 k4 k5 k6
   (have k0:=KB2.out.cell 0 _ rfl;have k1:=KB2.out.cell 1 _ rfl;have k2:=KB2.out.cell 2 _ rfl;have k3:=KB2.out.cell 3 _ rfl;have k4:=KB2.out.cell 4 _ rfl;have k5:=KB2.out.cell 5 _ rfl;have k6:=KB2.out.cell 6 _ rfl)
   cases r2 with
   | false => (go_wp2_with fail;refine (aw17 w2 B eb (E0.out.fr (FB.out.trans0 F2.out) (fun _ q => q.elim))).mono ?_;rintro e w9 ⟨rfl,f9⟩;have F9:=Lib.hid f9;clear f9;go_wp2_with fail;go_ret;exact ⟨rfl,(FB.out.trans0 F2.out).trans0 F9.out⟩)
   | true =>
     have HL:=HR1.out trivial
     go_wp2_with fail
     refine (dright w2 _ ds ((HD.out.fr FB.out).fr F2.out) HL.1 HL.2 b0 100).mono ?_
     rintro e w3 ⟨r3,rfl,hr3,f3⟩
     have F3:=Lib.hid (F2.out.trans0 f3)
     have HR3:=Lib.hid hr3
     have KB3:=Lib.hid (KB.out.fr F3.out (fun q => q))
     clear hr3 f3 k0 k1 k2 k3 k4 k5 k6
     (have k0:=KB3.out.cell 0 _ rfl;have k1:=KB3.out.cell 1 _ rfl;have k2:=KB3.out.cell 2 _ rfl;have k3:=KB3.out.cell 3 _ rfl;have k4:=KB3.out.cell 4 _ rfl;have k5:=KB3.out.cell 5 _ rfl;have k6:=KB3.out.cell 6 _ rfl)
     cases r3 with
     | false => (go_wp2_with fail;refine (aw17 w3 B eb (E0.out.fr (FB.out.trans0 F3.out) (fun _ q => q.elim))).mono ?_;rintro e w9 ⟨rfl,f9⟩;have F9:=Lib.hid f9;clear f9;go_wp2_with fail;go_ret;exact ⟨rfl,(FB.out.trans0 F3.out).trans0 F9.out⟩)
     | true =>
       have RD:=Lib.hid (HR3.out (by first|rfl|trivial))
       have RK:=Lib.hid (HR2.out trivial)
       have HN:=Lib.hid RD.out.2
       clear HL
       have hnd:ds.length ≤ 100:=HN.out
       have FT0:=Lib.hid (fun d (hd:d ∈ ds) => (RD.out.1 d hd).fit hk)
       have SA:=Lib.hid (fit_at b0 b1 b2 b3 b4 b5 hk RK.out.1 ds (by omega) FT0.out)
       have SB:=Lib.hid (show StepS ((kst b0 b1 b2 b3 b4 b5 hk).after ds) (bare 8 ⟨#[]⟩ ⟨#[]⟩) from by
         have z:=fit_at b0 b1 b2 b3 b4 b5 hk RK.out.1 (ds ++ [bare 8 ⟨#[]⟩ ⟨#[]⟩]) (by simp;omega) (fun d hd => by
           rcases List.mem_append.1 hd with q|q
           · exact FT0.out d q
           · simp only [List.mem_singleton] at q
             subst q
             exact { op:=by decide,ab:=fun q => (by cases q),hz:=fun q => (by cases q),prs:=by decide }) ds.length (bare 8 ⟨#[]⟩ ⟨#[]⟩) (by simp)
         rwa [List.take_left] at z)
       have BN:=Lib.hid (show Bnd 4 ds.length ((kst b0 b1 b2 b3 b4 b5 hk).after ds) from by
         have z:=(kst_bnd 4 b0 b1 b2 b3 b4 b5 hk).after ds fun d hd => (FT0.out d hd).prs
         rwa [Nat.zero_add] at z)
       go_wp2_with fail
       refine (new27 w3 b0 b1 b2 b3 b4 b5 hk (kst b0 b1 b2 b3 b4 b5 hk) (kst_dir ..) (kst_pr ..) rfl rfl rfl).mono ?_
       rintro e w4 ⟨sb,rfl,hsb,hz,f4⟩
       have Z4:=hid3 hz hsb f4
       clear hz hsb f4 k0 k1 k2 k3 k4 k5 k6
       go_wp2_with fail
       go_loopg [34] ds.length (fun n c wr => ∃ i:Nat,n + i = ds.length ∧ c = .int .i64 (i:Nat) ∧ ZRep wr sb ((kst b0 b1 b2 b3 b4 b5 hk).after (ds.take i)) ∧ Fr (fun q => q = sb) w4 wr)
       case atStart => exact ⟨0,rfl,rfl,Z4.out.1,Fr.refl _ _⟩
       case round =>
         obtain ⟨i,hki,rfl,hz,f⟩:=hrel
         have A:=hid3 hki hz f
         have FW3:=Lib.hid (Fr.trans (S:=fun _ => False) Z4.out.2.2 f (fun q e => .inr (by have:=Z4.out.2.1;omega)):Fr0 w3 wr)
         have FW:=Lib.hid ((FB.out.trans0 F3.out).trans0 FW3.out)
         clear hki hz f
         by_cases hi:i < ds.length
         · have hg:=List.getElem?_eq_getElem hi
           obtain ⟨ao',cap',e,hr⟩:=HD.out.fr FW.out
           cases e
           obtain ⟨od,off,pv,rfl,hl,c0,c1,c2,c3,c4,hpv⟩:=hr i _ hg
           have htk:ds.take (i + 1) = ds.take i ++ [ds[i]]:=List.take_succ_eq_append_getElem hi
           generalize ds[i] = d at c0 c1 c2 c3 c4 hpv hg htk
           obtain ⟨pa,pc,rfl⟩:=hpv.form
           have NX:=Lib.hid (show (kst b0 b1 b2 b3 b4 b5 hk).after (ds.take (i + 1)) = (((kst b0 b1 b2 b3 b4 b5 hk).after (ds.take i)).step d).2 from by rw [htk,St.after_snoc])
           have SI:=Lib.hid (SA.out i d hg)
           have FA:=Lib.hid ((Fr.refl (fun _ => False) wr).alloc (.cells #[.int .u8 d.op,.string d.a,.string d.b,.int .i64 d.wt,.slice pa d.prs.length pc] 28))
           have PV:=Lib.hid (hpv.fr FA.out)
           clear hg hr htk hpv
           go_wp2_with fail
           refine (SI.out _ sb (.slice pa d.prs.length pc) (A.out.2.1.fr0 FA.out) PV.out).mono ?_
           rintro e w5 ⟨v5,rfl, -,hz5,f5⟩
           have Z5:=hid2 hz5 ((A.out.2.2.trans0 FA.out).trans f5 fun q hq => .inl hq)
           clear hz5 f5
           go_wp2_with fail
           go_roundg (gk - 1)
           case measure => have:=A.out.1;omega
           case rel => exact ⟨i + 1,by have:=A.out.1;omega,by simp [w64y (Nat.le_trans hnd (by decide)) hi],by rw [NX.out];exact Z5.out.1,Z5.out.2⟩
         · have hi':i = ds.length:=by have:=A.out.1;omega
           subst hi'
           have hz:=A.out.2.1
           rw [List.take_length] at hz
           have HZ:=Lib.hid hz
           have SZ:=Lib.hid (show Small ((kst b0 b1 b2 b3 b4 b5 hk).after ds) from BN.out.small (by omega) (by decide))
           have N1:=Lib.hid BN.out.ps
           have N2:=Lib.hid BN.out.ls
           generalize hS:(kst b0 b1 b2 b3 b4 b5 hk).after ds = s at *
           clear hz hS SA BN
           go_wp2_with fail
           refine (SB.out wr sb (.slice none 0 0) HZ.out ⟨none,0,rfl,fun i p h => by simp [bare] at h⟩).mono ?_
           rintro e w5 ⟨v5,rfl,hT,hz5,f5⟩
           obtain ⟨pv5,kv5,lv5,rfl,hP5,hK5,hL5⟩:=hT
           obtain ⟨pa5,pc5,rfl⟩:=hP5.form
           obtain ⟨⟨ka5,kc5,rfl, -, -⟩, -⟩:=hK5
           clear hP5
           have L5:=Lib.hid (show LinksIn w5 (fun q => q ≠ sb) lv5 (sortL (s.ls.map (SL.low s.dir))) from hL5)
           have hll:(sortL (s.ls.map (SL.low s.dir))).length = s.ls.length:=by unfold sortL;rw [List.length_mergeSort,List.length_map]
           generalize sortL (s.ls.map (SL.low s.dir)) = ls at L5 hll
           obtain ⟨la,lc,rfl, -⟩:=L5.out.form
           have Z5:=Lib.hid (show ZRep w5 sb s from hz5)
           have F5:=Lib.hid (Fr.trans (S:=fun _ => False) (FW3.out) f5 (fun q e => .inr (by have:=Z4.out.2.1;omega)):Fr0 w3 w5)
           have HLL:=Lib.hid hll
           simp only [toldVal]
           have hfld:=field61
           clear hL5 hz5 f5 hll
           go_wp2_with fail
           refine (clone33 w5 _ ds (HD.out.fr ((FB.out.trans0 F3.out).trans0 F5.out)) (by have:=HN.out;omega)).mono ?_
           rintro e w6 ⟨v6,dv0,rfl,h1,h2,h3,f6⟩
           have T0:=Lib.hid (show Al w5 b0 hk ds v6 dv0 w6 from ⟨h1,h3,h2,f6,FT0.out⟩)
           obtain ⟨a6,cp6,rfl, -, -⟩:=own_slice h3
           have HN2:=Lib.hid (show ls.length ≤ 100 from by rw [HLL.out];exact Nat.le_trans N2.out hnd)
           clear h1 h2 h3 f6
           go_wp2_with fail
           go_loopg [11,50] ls.length (fun k v11 c wr => ∃ (i:Nat) (xs:List DoIn) (dvs:List (DoIn × Value)),k + i = ls.length ∧ c = .int .i64 (i:Nat) ∧ xs.length = ds.length + 2 * i ∧ Al w5 b0 hk xs v11 dvs wr)
           case atStart => exact ⟨0,ds,dv0,rfl,rfl,rfl,T0.out⟩
           case round =>
             obtain ⟨i,xs,dvs,hki,rfl,hxl,R⟩:=hrel
             have C:=hid3 hki hxl R
             clear hki hxl R
             by_cases hi:i < ls.length
             · have h0:(t:Int) < 256:=by have:=HT.out;omega
               obtain ⟨m,hm⟩ : ∃ m:Nat,m = i + t:=⟨_,rfl⟩
               have hn0:0 < ls.length:=by omega
               obtain ⟨j,hj⟩ : ∃ j:Nat,j = m % ls.length:=⟨_,rfl⟩
               have hjl:j < ls.length:=by rw [hj];exact Nat.mod_lt _ hn0
               have hg:=List.getElem?_eq_getElem hjl
               obtain ⟨ol,cl,xv,e',hl2,_,c0,c1,c2,c3,hxv⟩:=(L5.out.fr C.out.2.2.fr (fun _ _ _ q => q)).at_ hg
               cases e'
               generalize ls[j] = x at c0 c1 c2 c3 hxv hg
               obtain ⟨xa,xc,rfl⟩:=hxv.form
               clear hg hxv
               have hm1:m ≤ 1000:=by have:=HN2.out;omega
               have hj1:j ≤ 1000:=by have:=HN2.out;omega
               have e0:(0:Int) ≤ (j:Int):=Int.natCast_nonneg j
               have e5:¬ (ls.length:Int) = 0:=by omega
               have e6:(j:Int) < (ls.length:Int):=Int.ofNat_lt.2 hjl
               have e2:Int.tmod (m:Int) (ls.length:Int) = (j:Int):=by rw [hj];exact (Int.ofNat_tmod m ls.length).symm
               have e2':(m:Int) % (ls.length:Int) = (j:Int):=by rw [hj];rfl
               have e1:wrap64 ((i:Int) + (t:Int)) = (m:Int):=by rw [← Int.natCast_add,← hm];exact w64small (Int.natCast_nonneg m) (by omega)
               have e3:wrap64 (j:Int) = (j:Int):=w64small e0 (by omega)
               have e4:wrap64 (t:Int) = (t:Int):=w64small (Int.natCast_nonneg t) (by omega)
               clear hm hj hm1 hj1
               have FU:=Lib.hid ((Fr.refl (fun _ => False) wr).alloc (.cells #[.string x.a,.string x.b,.int .i64 x.wt,.slice xa x.es.length xc] 72))
               have UA:=Lib.hid (Cells.new wr #[.string x.a,.string x.b,.int .i64 x.wt,.slice xa x.es.length xc] 72)
               have SW:=Lib.hid C.out.2.2.fr.size
               go_upto_region 17 with fail
               clear c0 c1 c2 c3 e0 e1 e2 e2' e3 e6 hl2 h0 hn0
               generalize wr.alloc (.cells #[.string x.a,.string x.b,.int .i64 x.wt,.slice xa x.es.length xc] 72) = U at *
               have SZU:=Lib.hid (show w5.heap.size ≤ U.heap.size from by have:=SW.out;have:=FU.out.size;omega)
               have KBU:=Lib.hid (KB.out.fr (F3.out.trans0 (F5.out.trans0 (C.out.2.2.fr.trans0 FU.out))) (fun q => q))
               have k0:=KBU.out.cell 0 _ rfl
               generalize hn1:wr.heap.size = n1 at *
               have FSW:=Lib.hid (show Fr0 wr ((U.setCell ⟨n1,0,none⟩ (.string x.b)).setCell ⟨n1,1,none⟩ (.string x.a)) from (FU.out.setCell (.inr (Nat.le_of_eq hn1)) _).setCell (.inr (Nat.le_of_eq hn1)) _)
               have ua0:=UA.out.cell 0 _ rfl
               have ua1:=UA.out.cell 1 _ rfl
               have uf0:=UA.out.free 0
               have uf1:=UA.out.free 1
               have ul:=UA.out.lt
               have hc:(Int.tmod (t:Int) 2 = 0) ∨ (Int.tmod (t:Int) 2 = 1 ∧ b0 = true) ∨ (Int.tmod (t:Int) 2 = 1 ∧ b0 = false):=by
                 rw [show Int.tmod (t:Int) 2 = ((t % 2:Nat):Int) from (Int.ofNat_tmod t 2).symm]
                 have:t % 2 = 0 ∨ t % 2 = 1:=by omega
                 cases b0 <;> rcases this with e|e <;> simp [e]
               rcases hc with e7|⟨e7,hb⟩|⟨e7,hb⟩
               rotate_right
               · rw [hb] at k0
                 clear hb
                 (go_wp2_with (first
  | (at_builtin;go_loud (refine wl_appG (w:=((U.setCell ⟨n1,0,none⟩ (.string x.b)).setCell ⟨n1,1,none⟩ (.string x.a)).alloc (.cells #[.int .u8 1,.string x.b,.string ⟨#[]⟩,.int .i64 0,.slice none 0 0,.int .u8 3,.string x.b,.string x.a,.int .i64 0,.slice none 0 0] 28)) 31 rfl (.tmp 77) (.tmp 86) rfl 28 _ 5 72 Tryz.underlying31 info28t rfl (by decide) (by decide) w5.heap.size u11 xs.length (encL encDo dvs) rfl ((ownsRow_fr C.out.2.2.row FSW.out (fun _ _ q => q)).alloc _) (.slice (some ⟨U.heap.size,0,none⟩) 2 2) 2 [.int .u8 1,.string x.b,.string ⟨#[]⟩,.int .i64 0,.slice none 0 0,.int .u8 3,.string x.b,.string x.a,.int .i64 0,.slice none 0 0] rfl (yieldsAt (by simp [World.setCell])) rfl (by simp [Value.oneCell']) (by have:=C.out.2.1;have:=HN2.out;have:=HN.out;omega) (by have:=SZU.out;simp [World.setCell];omega) ?_)));intro v7 w7 ho7 f7 at7;obtain ⟨b7,cp7,rfl, -, -⟩:=own_slice ho7;have O7:=hid2 ho7 (show Fr (fun k => u11.ownBlock = some k) wr w7 from Fr.trans ((FSW.out.mono fun _ q => q.elim).alloc _) f7 (fun q hq => .inl hq));clear ho7 f7 at7;go_wp2_with fail;go_roundg (gk - 1);(case measure => (have:=C.out.1;omega));(case rel => (exact ⟨i + 1,xs ++ [bare 1 x.b ⟨#[]⟩,bare 3 x.b x.a],dvs ++ bares [bare 1 x.b ⟨#[]⟩,bare 3 x.b x.a],by have:=C.out.1;omega,by simp [w64y (Nat.le_trans HN2.out (by decide)) hi],by have:=C.out.2.1;simp;omega,C.out.2.2.more [bare 1 x.b ⟨#[]⟩,bare 3 x.b x.a] (by intro d hd;simp only [List.mem_cons,List.not_mem_nil,or_false] at hd;rcases hd with rfl|rfl <;> exact bare_ok (by decide)) O7.out.1 (C.out.2.2.fr.trans O7.out.2 fun q hq => .inr (C.out.2.2.row.lt q hq).1)⟩)))
               all_goals
                 try (rw [hb] at k0;clear hb)
                 (go_wp2_with (first
  | (at_builtin;go_loud (refine wl_appG (w:=U.alloc (.cells #[.int .u8 1,.string x.a,.string ⟨#[]⟩,.int .i64 0,.slice none 0 0,.int .u8 3,.string x.a,.string x.b,.int .i64 0,.slice none 0 0] 28)) 31 rfl (.tmp 77) (.tmp 86) rfl 28 _ 5 72 Tryz.underlying31 info28t rfl (by decide) (by decide) w5.heap.size u11 xs.length (encL encDo dvs) rfl ((ownsRow_fr C.out.2.2.row FU.out (fun _ _ q => q)).alloc _) (.slice (some ⟨U.heap.size,0,none⟩) 2 2) 2 [.int .u8 1,.string x.a,.string ⟨#[]⟩,.int .i64 0,.slice none 0 0,.int .u8 3,.string x.a,.string x.b,.int .i64 0,.slice none 0 0] rfl (yieldsAt (by simp [World.setCell])) rfl (by simp [Value.oneCell']) (by have:=C.out.2.1;have:=HN2.out;have:=HN.out;omega) (by have:=SZU.out;simp [World.setCell];omega) ?_)));intro v7 w7 ho7 f7 at7;obtain ⟨b7,cp7,rfl, -, -⟩:=own_slice ho7;have O7:=hid2 ho7 (show Fr (fun k => u11.ownBlock = some k) wr w7 from Fr.trans ((FU.out.mono fun _ q => q.elim).alloc _) f7 (fun q hq => .inl hq));clear ho7 f7 at7;go_wp2_with fail;go_roundg (gk - 1);(case measure => (have:=C.out.1;omega));(case rel => (exact ⟨i + 1,xs ++ [bare 1 x.a ⟨#[]⟩,bare 3 x.a x.b],dvs ++ bares [bare 1 x.a ⟨#[]⟩,bare 3 x.a x.b],by have:=C.out.1;omega,by simp [w64y (Nat.le_trans HN2.out (by decide)) hi],by have:=C.out.2.1;simp;omega,C.out.2.2.more [bare 1 x.a ⟨#[]⟩,bare 3 x.a x.b] (by intro d hd;simp only [List.mem_cons,List.not_mem_nil,or_false] at hd;rcases hd with rfl|rfl <;> exact bare_ok (by decide)) O7.out.1 (C.out.2.2.fr.trans O7.out.2 fun q hq => .inr (C.out.2.2.row.lt q hq).1)⟩)))
             · have hi':i = ls.length:=by have:=C.out.1;omega
               subst hi'
               have ZW:=Lib.hid (Z5.out.fr0 C.out.2.2.fr)
               have HXL:=Lib.hid C.out.2.1
               go_wp2_with fail
               refine (keys34 wr sb s ZW.out SZ.out).mono ?_
               rintro e w7 ⟨kv,rfl,hK,f7⟩
               have K0:=Lib.hid (show KeysIn w7 (fun q => u11.ownBlock ≠ some q) kv (sortK s.keys) from hK.imp fun q h1 _ e => by have:=(C.out.2.2.row.lt q e).2;omega)
               have A7:=Lib.hid (C.out.2.2.past f7)
               have hkl:(sortK s.keys).length = s.ps.length:=by unfold sortK St.keys;rw [List.length_mergeSort,List.length_map]
               generalize sortK s.keys = ks at K0 hkl
               obtain ⟨⟨ka,kc,rfl, -, -⟩, -⟩:=id K0.out
               have HN3:=Lib.hid (show ks.length ≤ 100 from by rw [hkl];exact Nat.le_trans N1.out hnd)
               clear hK f7 hkl
               go_wp2_with fail
               go_loopg [11,92] ks.length (fun k v11 c wr2 => ∃ (i:Nat) (xs2:List DoIn) (dvs:List (DoIn × Value)),k + i = ks.length ∧ c = .int .i64 (i:Nat) ∧ xs2.length = xs.length + i ∧ Al w5 b0 hk xs2 v11 dvs wr2 ∧ KeysIn wr2 (fun q => v11.ownBlock ≠ some q) (.slice ka ks.length kc) ks)
               case atStart => exact ⟨0,xs,dvs,rfl,rfl,rfl,A7.out,K0.out⟩
               case round =>
                 obtain ⟨i,xs2,dvs2,hki,rfl,hxl,R,hK⟩:=hrel
                 have D:=hid4 hki hxl R hK
                 clear hki hxl R hK
                 have SD:=Lib.hid D.out.2.2.1.fr.size
                 by_cases hi:i < ks.length
                 · have hg:=List.getElem?_eq_getElem hi
                   obtain ⟨ok,ck,e',hok,c0⟩:=D.out.2.2.2.at_ hg
                   cases e'
                   generalize ks[i] = x at c0
                   clear hg
                   go_wp2_with (first
                     | (at_builtin;go_loud (refine wl_appG (w:=wr.alloc (.cells #[.int .u8 1,.string x,.string ⟨#[]⟩,.int .i64 0,.slice none 0 0] 28)) 31 rfl (.tmp 96) (.tmp 99) rfl 28 _ 5 72 Tryz.underlying31 info28t rfl (by decide) (by decide) w5.heap.size u11 xs2.length (encL encDo dvs2) rfl (D.out.2.2.1.row.alloc _) (.slice (some ⟨wr.heap.size,0,none⟩) 1 1) 1 [.int .u8 1,.string x,.string ⟨#[]⟩,.int .i64 0,.slice none 0 0] rfl (yield1 _ _ _ 5 rfl) rfl (by simp [Value.oneCell']) (by have:=D.out.2.1;have:=HXL.out;have:=HN2.out;have:=HN3.out;have:=HN.out;omega) (by have:=SD.out;simp;omega) ?_)))
                   intro v8 w8 ho8 f8 at8
                   obtain ⟨b8,cp8,rfl, -, -⟩:=own_slice ho8
                   have O8:=hid3 ho8 (show Fr (fun k => u11.ownBlock = some k) wr w8 from Fr.trans (by ((repeat' with_reducible first|assumption|exact frR|apply frD|apply frN|apply frA|apply frM|apply frC);all_goals (simp;try omega))) f8 (fun q hq => .inl hq)) (D.out.2.2.2.past (show Fr0 wr _ from by ((repeat' with_reducible first|assumption|exact frR|apply frD|apply frN|apply frA|apply frM|apply frC);all_goals (simp;try omega))) f8 at8 (by simp))
                   clear ho8 f8 at8
                   go_wp2_with fail
                   go_roundg (gk - 1)
                   case measure => have:=D.out.1;omega
                   case rel =>
                     exact ⟨i + 1,xs2 ++ [bare 1 x ⟨#[]⟩],dvs2 ++ bares [bare 1 x ⟨#[]⟩],by have:=D.out.1;omega,by simp [w64y (Nat.le_trans HN3.out (by decide)) hi],by have:=D.out.2.1;simp;omega,D.out.2.2.1.more [bare 1 x ⟨#[]⟩] (by intro d hd;simp only [List.mem_singleton] at hd;subst hd;exact bare_ok (by decide)) O8.out.1 (D.out.2.2.1.fr.trans O8.out.2.1 fun q hq => .inr (D.out.2.2.1.row.lt q hq).1),O8.out.2.2⟩
                 · have hi':i = ks.length:=by have:=D.out.1;omega
                   subst hi'
                   go_wp2_with (first
                     | (at_builtin;go_loud (refine wl_appG (w:=wr.alloc (.cells #[.int .u8 7,.string ⟨#[]⟩,.string ⟨#[]⟩,.int .i64 0,.slice none 0 0,.int .u8 9,.string ⟨#[]⟩,.string ⟨#[]⟩,.int .i64 0,.slice none 0 0,.int .u8 8,.string ⟨#[]⟩,.string ⟨#[]⟩,.int .i64 0,.slice none 0 0] 28)) 31 rfl (.tmp 102) (.tmp 106) rfl 28 _ 5 72 Tryz.underlying31 info28t rfl (by decide) (by decide) w5.heap.size u11 xs2.length (encL encDo dvs2) rfl (D.out.2.2.1.row.alloc _) (.slice (some ⟨wr.heap.size,0,none⟩) 3 3) 3 [.int .u8 7,.string ⟨#[]⟩,.string ⟨#[]⟩,.int .i64 0,.slice none 0 0,.int .u8 9,.string ⟨#[]⟩,.string ⟨#[]⟩,.int .i64 0,.slice none 0 0,.int .u8 8,.string ⟨#[]⟩,.string ⟨#[]⟩,.int .i64 0,.slice none 0 0] rfl (yieldsAt rfl) rfl (by simp [Value.oneCell']) (by have:=D.out.2.1;have:=HXL.out;have:=HN2.out;have:=HN3.out;have:=HN.out;omega) (by have:=SD.out;simp;omega) ?_)))
                   intro v8 w8 ho8 f8 _
                   have fr8:Fr (fun k => u11.ownBlock = some k) wr w8:=Fr.trans (by ((repeat' with_reducible first|assumption|exact frR|apply frD|apply frN|apply frA|apply frM|apply frC);all_goals (simp;try omega))) f8 (fun q hq => .inl hq)
                   have A8:=Lib.hid (D.out.2.2.1.more [bare 7 ⟨#[]⟩ ⟨#[]⟩,bare 9 ⟨#[]⟩ ⟨#[]⟩,bare 8 ⟨#[]⟩ ⟨#[]⟩] (by intro d hd;simp only [List.mem_cons,List.not_mem_nil,or_false] at hd;rcases hd with rfl|rfl|rfl <;> exact bare_ok (by decide)) ho8 (D.out.2.2.1.fr.trans fr8 fun q hq => .inr (D.out.2.2.1.row.lt q hq).1))
                   obtain ⟨a8,cp8,rfl, -, -⟩:=own_slice ho8
                   have FX:=Lib.hid (F3.out.trans0 (F5.out.trans0 A8.out.fr))
                   have FW8:=Lib.hid (FB.out.trans0 FX.out)
                   have DO:=Lib.hid (SDosAt.of_rowsT (own_slice A8.out.row) A8.out.fst rfl fun q hq => (A8.out.prs q hq).fr A8.out.fr)
                   have KBE:=Lib.hid (KB.out.fr FX.out (fun q => q))
                   clear ho8 f8 fr8
                   (have k0:=KBE.out.cell 0 _ rfl;have k1:=KBE.out.cell 1 _ rfl;have k2:=KBE.out.cell 2 _ rfl;have k3:=KBE.out.cell 3 _ rfl;have k4:=KBE.out.cell 4 _ rfl;have k5:=KBE.out.cell 5 _ rfl;have k6:=KBE.out.cell 6 _ rfl)
                   go_wp2_with fail
                   refine (run26A w8 b0 b1 b2 b3 b4 b5 hk RK.out.1 RK.out.2 _ _ DO.out B eb (E0.out.fr FW8.out (fun _ q => q.elim)) (by have:=D.out.2.1;have:=HXL.out;have:=HN2.out;have:=HN3.out;have:=HN.out;simp;omega) A8.out.fit).mono ?_
                   rintro e w10 ⟨rfl,f10⟩
                   have F10:=Lib.hid (FX.out.trans0 f10)
                   clear f10 k0 k1 k2 k3 k4 k5 k6
                   (go_wp2_with fail;refine (aw17 w10 B eb (E0.out.fr (FB.out.trans0 F10.out) (fun _ q => q.elim))).mono ?_;rintro e w9 ⟨rfl,f9⟩;have F9:=Lib.hid f9;clear f9;go_wp2_with fail;go_ret;exact ⟨rfl,(FB.out.trans0 F10.out).trans0 F9.out⟩)
end Go.Proofs.YtbafaadmlpamiaaGreatDoor
