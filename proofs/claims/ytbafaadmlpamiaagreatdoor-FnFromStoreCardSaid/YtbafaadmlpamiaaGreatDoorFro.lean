import Derived.Test.YtbafaadmlpamiaaGreatDoorK5
import Derived.Test.YtbafaadmlpamiaaGreatDoorE5
import Derived.Test.YtbafaadmlpamiaaGreatDoorP1
namespace Go.Proofs.YtbafaadmlpamiaaGreatDoor
open Go Go.Hy Go.RowKit
set_option linter.unusedSimpArgs false in
set_option maxRecDepth 100000 in
set_option maxHeartbeats 8000000 in
theorem fp15 (w:World) (b0 b1 b2 b3 b4 b5:Bool) (hk:Nat) (v1:Value) (ds:List DoIn) (h1:SDosAt w v1 ds) (v2:Value) (es:List DoIn) (h2:SDosAt w v2 es) (other:Bool) (B:Nat) (eb:Nat→Addr) (E:ErrsOk w B eb) :
   Calls Tryz.prog 15 #[kagg b0 b1 b2 b3 b4 b5 hk,v1,v2,.bool other] w fun e w'=>e=.returned (.bool true)∧Fr0 w w':=by
 have E0:=Lib.hid E
 have D1:=Lib.hid h1
 have D2:=Lib.hid h2
 obtain ⟨a1,c1,rfl, -⟩:=h1
 obtain ⟨a2,c2,rfl, -⟩:=h2
 clear E
 have KB:=Lib.hid (Cells.new w #[.bool b0,.bool b1,.bool b2,.bool b3,.bool b4,.bool b5,.int .u8 hk] 52)
 have FB:=Lib.hid ((Fr.refl (fun _=>False) w).alloc (.cells #[.bool b0,.bool b1,.bool b2,.bool b3,.bool b4,.bool b5,.int .u8 hk] 52))
 go_enter Tryz.func15,Tryz.ntmps15
 go_wp2_with fail
 generalize w.alloc (.cells #[.bool b0,.bool b1,.bool b2,.bool b3,.bool b4,.bool b5,.int .u8 hk] 52)=W at *
 refine (zz1 W _ ds (D1.out.fr FB.out)).mono ?_
 rintro e wa ⟨r,rfl,hr,f1⟩
 have F0:=Lib.hid f1
 have HR0:=Lib.hid hr
 clear hr f1
 cases r with
 | false =>
   go_wp2_with fail
   go_ret
   exact ⟨rfl,FB.out.trans0 F0.out⟩
 | true =>
   go_wp2_with fail
   refine (zz1 wa _ es (D2.out.fr (FB.out.trans0 F0.out))).mono ?_
   rintro e w1 ⟨r,rfl,hr,f1⟩
   have F1:=Lib.hid (F0.out.trans0 f1)
   have HR1:=Lib.hid hr
   clear hr f1
   cases r with
   | false =>
     go_wp2_with fail
     go_ret
     exact ⟨rfl,FB.out.trans0 F1.out⟩
   | true =>
     have KB1:=Lib.hid (KB.out.fr F1.out (fun q=>q))
     (have k0:=KB1.out.cell 0 _ rfl;have k1:=KB1.out.cell 1 _ rfl;have k2:=KB1.out.cell 2 _ rfl;have k3:=KB1.out.cell 3 _ rfl;have k4:=KB1.out.cell 4 _ rfl;have k5:=KB1.out.cell 5 _ rfl;have k6:=KB1.out.cell 6 _ rfl)
     go_wp2_with fail
     refine (kindr w1 b0 b1 b2 b3 b4 b5 hk).mono ?_
     rintro e w2 ⟨r2,rfl,hr2,f2⟩
     have F2:=Lib.hid (F1.out.trans0 f2)
     have HR2:=Lib.hid hr2
     have KB2:=Lib.hid (KB.out.fr F2.out (fun q=>q))
     clear hr2 f2 k0 k1 k2 k3 k4 k5 k6
     (have k0:=KB2.out.cell 0 _ rfl;have k1:=KB2.out.cell 1 _ rfl;have k2:=KB2.out.cell 2 _ rfl;have k3:=KB2.out.cell 3 _ rfl;have k4:=KB2.out.cell 4 _ rfl;have k5:=KB2.out.cell 5 _ rfl;have k6:=KB2.out.cell 6 _ rfl)
     cases r2 with
     | false=>(go_wp2_with fail;refine (aw17 w2 B eb (E0.out.fr (FB.out.trans0 F2.out) (fun _ q=>q.elim))).mono ?_;rintro e w9 ⟨rfl,f9⟩;have F9:=Lib.hid f9;clear f9;go_wp2_with fail;go_ret;exact ⟨rfl,(FB.out.trans0 F2.out).trans0 F9.out⟩)
     | true =>
       cases b5 with
       | true=>(go_wp2_with fail;refine (aw17 w2 B eb (E0.out.fr (FB.out.trans0 F2.out) (fun _ q=>q.elim))).mono ?_;rintro e w9 ⟨rfl,f9⟩;have F9:=Lib.hid f9;clear f9;go_wp2_with fail;go_ret;exact ⟨rfl,(FB.out.trans0 F2.out).trans0 F9.out⟩)
       | false =>
         by_cases hk0:hk=0
         rotate_left
         · have hk1:¬ (hk:Int)=0:=by omega
           (go_wp2_with fail;refine (aw17 w2 B eb (E0.out.fr (FB.out.trans0 F2.out) (fun _ q=>q.elim))).mono ?_;rintro e w9 ⟨rfl,f9⟩;have F9:=Lib.hid f9;clear f9;go_wp2_with fail;go_ret;exact ⟨rfl,(FB.out.trans0 F2.out).trans0 F9.out⟩)
         subst hk0
         have HL1:=Lib.hid (HR0.out (by first|rfl|trivial))
         have HL2:=Lib.hid (HR1.out (by first|rfl|trivial))
         have RK:=Lib.hid (HR2.out (by first|rfl|trivial))
         go_wp2_with fail
         refine (dright w2 _ ds ((D1.out.fr FB.out).fr F2.out) HL1.out.1 HL1.out.2 b0 80).mono ?_
         rintro e w3 ⟨r3,rfl,hr3,f3⟩
         have F3:=Lib.hid (F2.out.trans0 f3)
         have HR3:=Lib.hid hr3
         have KB3:=Lib.hid (KB.out.fr F3.out (fun q=>q))
         clear hr3 f3 k0 k1 k2 k3 k4 k5 k6
         (have k0:=KB3.out.cell 0 _ rfl;have k1:=KB3.out.cell 1 _ rfl;have k2:=KB3.out.cell 2 _ rfl;have k3:=KB3.out.cell 3 _ rfl;have k4:=KB3.out.cell 4 _ rfl;have k5:=KB3.out.cell 5 _ rfl;have k6:=KB3.out.cell 6 _ rfl)
         cases r3 with
         | false=>(go_wp2_with fail;refine (aw17 w3 B eb (E0.out.fr (FB.out.trans0 F3.out) (fun _ q=>q.elim))).mono ?_;rintro e w9 ⟨rfl,f9⟩;have F9:=Lib.hid f9;clear f9;go_wp2_with fail;go_ret;exact ⟨rfl,(FB.out.trans0 F3.out).trans0 F9.out⟩)
         | true =>
           have RD:=Lib.hid (HR3.out (by first|rfl|trivial))
           go_wp2_with fail
           refine (dright w3 _ es ((D2.out.fr FB.out).fr F3.out) HL2.out.1 HL2.out.2 b0 80).mono ?_
           rintro e w4 ⟨r4,rfl,hr4,f4⟩
           have F4:=Lib.hid (F3.out.trans0 f4)
           have HR4:=Lib.hid hr4
           have KB4:=Lib.hid (KB.out.fr F4.out (fun q=>q))
           clear hr4 f4 k0 k1 k2 k3 k4 k5 k6
           cases r4 with
           | false=>(go_wp2_with fail;refine (aw17 w4 B eb (E0.out.fr (FB.out.trans0 F4.out) (fun _ q=>q.elim))).mono ?_;rintro e w9 ⟨rfl,f9⟩;have F9:=Lib.hid f9;clear f9;go_wp2_with fail;go_ret;exact ⟨rfl,(FB.out.trans0 F4.out).trans0 F9.out⟩)
           | true =>
             have RE:=Lib.hid (HR4.out (by first|rfl|trivial))
             have hel:es.length≤80:=RE.out.2
             go_wp2_with fail
             go_loopg [48] es.length (fun k c wr=>∃ i:Nat,k+i=es.length∧c=.int .i64 (i:Nat)∧(∀ (j:Nat) (d:DoIn),j < i→es[j]? = some d→d.op≠4)∧Fr0 w4 wr)
             case atStart=>exact ⟨0,rfl,rfl,fun j d h=>absurd h (Nat.not_lt_zero j),Fr.refl _ _⟩
             case round =>
               obtain ⟨i,hki,rfl,hno,f⟩:=hrel
               have A:=hid3 hki hno f
               clear hki hno f
               have FWR:=Lib.hid (F4.out.trans0 A.out.2.2)
               have FWW:=Lib.hid (FB.out.trans0 FWR.out)
               by_cases hi:i < es.length
               · have hg:=List.getElem?_eq_getElem hi
                 obtain ⟨ao',cap',e,hr⟩:=D2.out.fr FWW.out
                 cases e
                 obtain ⟨od,off,pv,rfl,hl,c0,c1,c2,c3,c4,hpv⟩:=hr i _ hg
                 generalize es[i]=d at c0 c1 c2 c3 c4 hpv hg
                 obtain ⟨pa,pc,rfl⟩:=hpv.form
                 have FA:=Lib.hid ((Fr.refl (fun _=>False) wr).alloc (.cells #[.int .u8 d.op,.string d.a,.string d.b,.int .i64 d.wt,.slice pa d.prs.length pc] 28))
                 have HGI:=Lib.hid hg
                 clear hg hr hpv
                 by_cases h4:d.op=4
                 · rw [h4] at c0 FA
                   clear h4
                   have FX:=Lib.hid (FWR.out.trans0 FA.out)
                   (go_wp2_with fail;refine (aw17 _ B eb (E0.out.fr (FB.out.trans0 FX.out) (fun _ q=>q.elim))).mono ?_;rintro e w9 ⟨rfl,f9⟩;have F9:=Lib.hid f9;clear f9;go_wp2_with fail;go_ret;exact ⟨rfl,(FB.out.trans0 FX.out).trans0 F9.out⟩)
                 · have h4':¬ (d.op:Int)=4:=by omega
                   have H4:=Lib.hid h4
                   clear h4
                   go_wp2_with fail
                   go_roundg (gk - 1)
                   case measure=>have:=A.out.1;omega
                   case rel =>
                     refine ⟨i+1,by have:=A.out.1;omega,by simp [w64p (i:=i) (n:=1000000) (Nat.le_refl _) (by omega)],fun j x hj hx => ?_,A.out.2.2.trans0 FA.out⟩
                     by_cases hji:j < i
                     · exact A.out.2.1 j x hji hx
                     · have hje:j=i:=by omega
                       subst hje
                       have hx2:=HGI.out
                       rw [hx] at hx2
                       cases hx2
                       exact H4.out
               · have hi':i=es.length:=by have:=A.out.1;omega
                 subst hi'
                 have KBE:=Lib.hid (KB.out.fr FWR.out (fun q=>q))
                 (have k0:=KBE.out.cell 0 _ rfl;have k1:=KBE.out.cell 1 _ rfl;have k2:=KBE.out.cell 2 _ rfl;have k3:=KBE.out.cell 3 _ rfl;have k4:=KBE.out.cell 4 _ rfl;have k5:=KBE.out.cell 5 _ rfl;have k6:=KBE.out.cell 6 _ rfl)
                 go_wp2_with fail
                 refine (cps36 1 (.inr rfl) wr b0 b1 b2 b3 b4 _ RK.out.1 other _ ds (D1.out.fr FWW.out) _ es (D2.out.fr FWW.out) B eb (E0.out.fr FWW.out (fun _ q=>q.elim)) (by have:=RD.out.2;omega) (by have:=RE.out.2;omega) (fun d hd=>(RD.out.1 d hd).fit _) (fun d hd=>(RE.out.1 d hd).fit _) (fun d hd=>by
                   obtain ⟨j,hj⟩:=List.mem_iff_getElem?.1 hd
                   exact A.out.2.1 j d (List.getElem?_eq_some_iff.1 hj).1 hj)).mono ?_
                 rintro e w5 ⟨rfl,f5⟩
                 have F5:=Lib.hid (FWR.out.trans0 f5)
                 clear f5 k0 k1 k2 k3 k4 k5 k6
                 (go_wp2_with fail;refine (aw17 w5 B eb (E0.out.fr (FB.out.trans0 F5.out) (fun _ q=>q.elim))).mono ?_;rintro e w9 ⟨rfl,f9⟩;have F9:=Lib.hid f9;clear f9;go_wp2_with fail;go_ret;exact ⟨rfl,(FB.out.trans0 F5.out).trans0 F9.out⟩)
end Go.Proofs.YtbafaadmlpamiaaGreatDoor
