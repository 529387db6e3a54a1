import Derived.Test.YtbafaadmlpamiaaGreatDoorA7
import Derived.Test.YtbafaadmlpamiaaGreatDoorA6
import Derived.Test.YtbafaadmlpamiaaGreatDoorA3
import Derived.Test.YtbafaadmlpamiaaGreatDoorA1
namespace Go.Proofs.YtbafaadmlpamiaaGreatDoor
open Go Go.Hy Go.RowKit
theorem info122:(Tryz.prog.info? 122).map (fun i=>(i.zero,i.size,i.bytes))=some (some .nilFunc,1,8):=by kernel_rfl
theorem info125:(Tryz.prog.info? 125).map (fun i=>(i.zero,i.size,i.bytes))=some (some .nilFunc,1,8):=by kernel_rfl
structure OSl (w:World) (B:Nat) (e:TypeId) (f:Opt→Value) (v:Value) (os:List Opt):Prop where
 own:w.ownsRow B e 1 v os.length (os.map f)
 ok:∀ o∈os,o.ok w
def isFn (v:Value):Prop:=∃ n a b,v=.func n a b
theorem eV_fn (o:Opt):isFn o.eV:=by cases o <;> exact ⟨_,_,_,rfl⟩
theorem vV_fn (o:Opt):isFn o.vV:=by cases o <;> exact ⟨_,_,_,rfl⟩
theorem OSl.apart {w:World} {B:Nat} {e:TypeId} {f:Opt→Value} {v:Value} {os:List Opt} (h:OSl w B e f v os) (hf:∀ o,isFn (f o)) (hne:os≠[]) {o:Opt} (ho:o.ok w) {S:Nat→Prop} {w':World} (g:Fr S w w') (hS:∀ k,S k→v.ownBlock=some k∨w.heap.size≤k):o.ok w':=by
 obtain ⟨o0,os',rfl⟩ : ∃ o0 os',os=o0 :: os':=by cases os with|nil=>exact absurd rfl hne|cons a b=>exact ⟨a,b,rfl⟩
 obtain ⟨n,a,b,hfn⟩:=hf o0
 have hc:∀ k,v.ownBlock=some k→w.cell? ⟨k,0,none⟩=some (.func n a b):=fun k hk=>by
   have:=h.own.cells hk 0 (f o0) (by simp)
   rw [hfn] at this
   simpa [Addr.add_lit] using this
 have keep:∀ k x,w.cell? ⟨k,0,none⟩=some x→(∀ n a b,x≠.func n a b)→w'.cell? ⟨k,0,none⟩=some x:=fun k x hx hn=>by
   have l:=World.block_lt_of_cell? w _ hx
   rw [g.cell (p:=⟨k,0,none⟩) l]
   · exact hx
   · intro q
     rcases hS k q with r|r
     · rw [hc k r] at hx
       exact hn _ _ _ (Option.some.inj hx).symm
     · simp only at l;omega
 cases o with
 | wt m kb=>exact keep kb _ ho (fun _ _ _ q=>by cases q)
 | at_ x y bv bk=>exact ⟨keep bv _ ho.1 (fun _ _ _ q=>by cases q),keep bk _ ho.2 (fun _ _ _ q=>by cases q)⟩
theorem ok_fr0 {w w':World} {o:Opt} (h:o.ok w) (f:Fr0 w w'):o.ok w':=Opt.ok_fr h f fun _ _ q=>q
theorem OSl.fr0 {w w':World} {B:Nat} {e:TypeId} {f:Opt→Value} {v:Value} {os:List Opt} (h:OSl w B e f v os) (g:Fr0 w w'):OSl w' B e f v os :=
 ⟨ownsRow_fr h.own g fun _ _ q=>q,fun o ho=>ok_fr0 (h.ok o ho) g⟩
theorem OSl.opts {w:World} {B:Nat} {e:TypeId} {f:Opt→Value} {v:Value} {os:List Opt} (h:OSl w B e f v os) (hne:os≠[]) (hl:os.length≤1000000):Opts w v os f:=by
 obtain ⟨ao,cap,rfl,hcap,hc⟩:=own_slice h.own
 obtain ⟨o0,os',rfl⟩ : ∃ o0 os',os=o0 :: os':=by cases os with|nil=>exact absurd rfl hne|cons a b=>exact ⟨a,b,rfl⟩
 obtain ⟨ob,rfl,_,_⟩:=hc 0 (f o0) (by simp)
 refine ⟨ob,cap,rfl,hcap,fun i o hi => ?_,h.ok,hl⟩
 obtain ⟨ob',e',_,hx⟩:=hc i (f o) (by rw [List.getElem?_map,hi];rfl)
 cases e'
 exact hx
def putAll (prs:List (ByteArray × ByteArray)):List (ByteArray × ByteArray):=prs.foldl (fun es p=>putA es p.1 p.2) []
theorem putAll_snoc (prs:List (ByteArray × ByteArray)) (p:ByteArray × ByteArray):putAll (prs ++ [p])=putA (putAll prs) p.1 p.2:=by simp [putAll]
theorem apps_snoc (os:List Opt) (o:Opt):apps (os ++ [o])=Opt.app (apps os) o:=by simp [apps]
def DL (wB:World) (wt:Int) (prs:List (ByteArray × ByteArray)) (k:Nat) (v8 v9 c:Value) (wr:World):Prop :=
 ∃ i oE oV,k+i=prs.length∧c=.int .i64 (i:Nat)∧OSl wr wB.heap.size 122 Opt.eV v8 oE∧OSl wr wB.heap.size 125 Opt.vV v9 oV∧oE.length=i+1∧oV.length=i+1 ∧
   (∀ s0:PS,oE.foldl Opt.app s0=(wt,(prs.take i).foldl (fun es p=>putA es p.1 p.2) s0.2))∧apps oV=(wt,putAll (prs.take i))∧(∀ q,v8.ownBlock=some q→v9.ownBlock≠some q)∧Fr0 wB wr
theorem add_opt {w w1 w2:World} {B:Nat} {e:TypeId} {f:Opt→Value} {v v':Value} {os:List Opt} (h:OSl w B e f v os) (hf:∀ o,isFn (f o)) (hne:os≠[]) {o:Opt} (f1:Fr0 w w1) (ho:o.ok w1)
   (hown:w2.ownsRow B e 1 v' (os.length+1) (os.map f ++ [f o])) (g:Fr (fun j=>v.ownBlock=some j) w1 w2):OSl w2 B e f v' (os ++ [o]):=by
 have h1:=h.fr0 f1
 refine ⟨by simpa using hown,fun x hx => ?_⟩
 rcases List.mem_append.1 hx with q|q
 · exact h1.apart hf hne (h1.ok x q) g fun _ r=>.inl r
 · simp only [List.mem_singleton] at q
   subst q
   exact h1.apart hf hne ho g fun _ r=>.inl r
theorem own_type {w:World} {B B':Nat} {e e':TypeId} {k k' n n':Nat} {v v':Value} {xs xs':List Value} (h:w.ownsRow B e k v n xs) (h':w.ownsRow B' e' k' v' n' xs') (he:e≠e'):∀ q,v.ownBlock=some q→v'.ownBlock≠some q:=by
 intro q hq hq'
 rcases h.2 with ⟨rfl,_⟩|⟨g,_,cur,rfl,_,hg,_⟩
 · cases hq
 · rcases h'.2 with ⟨rfl,_⟩|⟨g',_,cur',rfl,_,hg',_⟩
   · cases hq'
   · simp only [Value.ownBlock,Option.some.injEq] at hq hq'
     rw [hq] at hg
     rw [hq',hg] at hg'
     cases hg'
     exact he rfl
theorem DL.step {wB wr w1 w2 w3 w4:World} {wt:Int} {prs:List (ByteArray × ByteArray)} {k i:Nat} {v8 v9 v8' v9':Value} {oE oV:List Opt} {pr:ByteArray × ByteArray} {bv bk bv' bk':Nat}
   (hk:k+i=prs.length) (hi:i < prs.length) (hg:prs[i]? = some pr) (hE:OSl wr wB.heap.size 122 Opt.eV v8 oE) (hV:OSl wr wB.heap.size 125 Opt.vV v9 oV) (lE:oE.length=i+1) (lV:oV.length=i+1)
   (aE:∀ s0:PS,oE.foldl Opt.app s0=(wt,(prs.take i).foldl (fun es p=>putA es p.1 p.2) s0.2)) (aV:apps oV=(wt,putAll (prs.take i))) (f:Fr0 wB wr)
   (f1:Fr0 wr w1) (okE:(Opt.at_ pr.1 pr.2 bv bk).ok w1) (ho8:w2.ownsRow wB.heap.size 122 1 v8' (oE.length+1) (oE.map Opt.eV ++ [(Opt.at_ pr.1 pr.2 bv bk).eV])) (g8:Fr (fun j=>v8.ownBlock=some j) w1 w2)
   (f3:Fr0 w2 w3) (okV:(Opt.at_ pr.1 pr.2 bv' bk').ok w3) (ho9:w4.ownsRow wB.heap.size 125 1 v9' (oV.length+1) (oV.map Opt.vV ++ [(Opt.at_ pr.1 pr.2 bv' bk').vV])) (g9:Fr (fun j=>v9.ownBlock=some j) w3 w4) :
   k - 1 < k∧DL wB wt prs (k - 1) v8' v9' (.int .i64 ((i:Int)+1)) w4:=by
 have neE:oE≠[]:=by intro q;rw [q] at lE;simp at lE
 have neV:oV≠[]:=by intro q;rw [q] at lV;simp at lV
 have hp:prs[i]=pr:=(List.getElem?_eq_some_iff.1 hg).2
 have htk:prs.take (i+1)=prs.take i ++ [pr]:=by rw [List.take_succ_eq_append_getElem hi,hp]
 have E2:=add_opt hE eV_fn neE f1 okE ho8 g8
 have V1:=hV.fr0 f1
 have E1:=hE.fr0 f1
 have V2:OSl w2 wB.heap.size 125 Opt.vV v9 oV:=⟨ownsRow_fr V1.own g8 fun q hq=>own_type V1.own E1.own (by decide) q hq,fun o ho=>E1.apart eV_fn neE (V1.ok o ho) g8 fun _ r=>.inl r⟩
 have V4:=add_opt V2 vV_fn neV f3 okV ho9 g9
 have E3:=E2.fr0 f3
 have V3:=V2.fr0 f3
 have E4:OSl w4 wB.heap.size 122 Opt.eV v8' (oE ++ [Opt.at_ pr.1 pr.2 bv bk]):=⟨ownsRow_fr E3.own g9 fun q hq=>own_type E3.own V3.own (by decide) q hq,fun o ho=>V3.apart vV_fn neV (E3.ok o ho) g9 fun _ r=>.inl r⟩
 refine ⟨by omega,i+1,oE ++ [Opt.at_ pr.1 pr.2 bv bk],oV ++ [Opt.at_ pr.1 pr.2 bv' bk'],by omega,by simp,E4,V4,by simp [lE],by simp [lV],?_,?_,own_type E4.own V4.own (by decide),?_⟩
 · intro s0
   rw [List.foldl_append,aE s0,htk,List.foldl_append]
   rfl
 · rw [apps_snoc,aV,htk,putAll_snoc]
   rfl
 · refine (((f.trans0 f1).trans g8 fun q hq=>.inr (E1.own.lt q hq).1).trans0 f3).trans g9 fun q hq=>.inr (V3.own.lt q hq).1
theorem GStep.fin {w wr w5 w':World} {G G':GS} {S:Nat→Prop} (h:GRep w G) (f0:Fr0 w wr) (g:GStep wr G w5 G') (f:Fr S w5 w') (hS:∀ k,S k→w.heap.size≤k∧k < wr.heap.size):GStep w G w' G' where
 rep:=g.rep.fr f (fun b hb q=>by
   have h1:=hS b q
   rcases g.own b hb with r|r
   · have:=h.lt b r;omega
   · omega) (fun q=>by
   have h1:=hS _ q
   rw [g.same.2.2.2.1] at h1
   obtain ⟨cs,q',_⟩:=h.k
   have:=q'.lt
   omega)
 fr:=((f0.mono fun _ q=>q.elim).trans g.fr fun _ q=>.inl q).trans f fun k q=>.inr (hS k q).1
 own:=fun b hb=>(g.own b hb).imp id fun q=>Nat.le_trans f0.size q
 same:=g.same
theorem fr_boxes (w6:World) (n m:Nat) (v v0 v1 v2 v3 v4 v5 v6 v7 v8 v9:Value):Fr (fun k=>k=n∨k=m) w6 (((((((((((w6.setCell ⟨m,0,none⟩ v).setCell ⟨n,0,none⟩ v0).setCell ⟨n,1,none⟩ v1).setCell ⟨n,2,none⟩ v2).setCell ⟨n,3,none⟩ v3).setCell ⟨n,4,none⟩ v4).setCell ⟨n,5,none⟩ v5).setCell ⟨n,6,none⟩ v6).setCell ⟨n,7,none⟩ v7).setCell ⟨n,8,none⟩ v8).setCell ⟨n,9,none⟩ v9) :=
 (((((((((((Fr.refl (fun k=>k=n∨k=m) w6).setCell (.inl (.inr rfl)) v).setCell (.inl (.inl rfl)) v0).setCell (.inl (.inl rfl)) v1).setCell (.inl (.inl rfl)) v2).setCell (.inl (.inl rfl)) v3).setCell (.inl (.inl rfl)) v4).setCell (.inl (.inl rfl)) v5).setCell (.inl (.inl rfl)) v6).setCell (.inl (.inl rfl)) v7).setCell (.inl (.inl rfl)) v8).setCell (.inl (.inl rfl)) v9
abbrev doV (op:Nat) (a b:ByteArray) (wt:Int) (ao:Option Addr) (n cap:Nat):Value:=.agg #[.int .u8 op,.string a,.string b,.int .i64 wt,.slice ao n cap]
structure PrOk (w:World) (ao:Option Addr) (n cap:Nat) (prs:List (ByteArray × ByteArray)):Prop where
 len:n=prs.length
 cap:n≤cap
 small:n≤100000
 at_:∀ (i:Nat) p,prs[i]? = some p→∃ ob,ao=some ⟨ob,0,none⟩∧ob < w.heap.size∧w.cell? ⟨ob,i * 2,none⟩=some (.string p.1)∧w.cell? ⟨ob,i * 2+1,none⟩=some (.string p.2)
abbrev kB7 (b0 b1 b2 b3 b4 b5:Bool) (hk:Nat):Obj:=.cells #[.bool b0,.bool b1,.bool b2,.bool b3,.bool b4,.bool b5,.int .u8 hk] 37
abbrev dBox (op:Nat) (a b:ByteArray) (wt:Int) (ao:Option Addr) (n cap:Nat):Obj:=.cells #[.int .u8 op,.string a,.string b,.int .i64 wt,.slice ao n cap] 50
abbrev zT:Array Value:=#[.int .u8 0,.string ⟨#[]⟩,.string ⟨#[]⟩,.string ⟨#[]⟩,.int .i64 0,.int .i64 0,.int .i64 0,.slice none 0 0,.slice none 0 0,.slice none 0 0]
def stepW (w:World) (b0 b1 b2 b3 b4 b5:Bool) (hk op:Nat) (a b:ByteArray) (wt:Int) (ao:Option Addr) (n cap:Nat):World :=
 (((w.alloc (kB7 b0 b1 b2 b3 b4 b5 hk)).alloc (dBox op a b wt ao n cap)).alloc (.cells zT 44)).alloc (.cells zT 44)
theorem DL.start {wB:World} (wt:Int) (prs:List (ByteArray × ByteArray)) :
   DL wB wt prs prs.length (.slice (some ⟨wB.heap.size+1,0,none⟩) 1 1) (.slice (some ⟨wB.heap.size+1+1+1,0,none⟩) 1 1) (.int .i64 0)
     ((((wB.alloc (.cells #[.int .i64 wt] 3)).alloc (.cells #[.func (Fn.func 85) #[] #[.pointer (some ⟨wB.heap.size,0,none⟩)]] 122)).alloc (.cells #[.int .i64 wt] 3)).alloc
       (.cells #[.func (Fn.func 86) #[] #[.pointer (some ⟨wB.heap.size+1+1,0,none⟩)]] 125)):=by
 have z1:(wB.alloc (.cells #[.int .i64 wt] 3)).heap.size=wB.heap.size+1:=by simp
 have z2:((wB.alloc (.cells #[.int .i64 wt] 3)).alloc (.cells #[.func (Fn.func 85) #[] #[.pointer (some ⟨wB.heap.size,0,none⟩)]] 122)).heap.size=wB.heap.size+1+1:=by simp
 have z3:(((wB.alloc (.cells #[.int .i64 wt] 3)).alloc (.cells #[.func (Fn.func 85) #[] #[.pointer (some ⟨wB.heap.size,0,none⟩)]] 122)).alloc (.cells #[.int .i64 wt] 3)).heap.size=wB.heap.size+1+1+1:=by simp
 have c1:=(((Cells.new wB #[.int .i64 wt] 3).alloc (.cells #[.func (Fn.func 85) #[] #[.pointer (some ⟨wB.heap.size,0,none⟩)]] 122)).alloc (.cells #[.int .i64 wt] 3)).alloc (.cells #[.func (Fn.func 86) #[] #[.pointer (some ⟨wB.heap.size+1+1,0,none⟩)]] 125)
 have c2:=((Cells.new (wB.alloc (.cells #[.int .i64 wt] 3)) #[.func (Fn.func 85) #[] #[.pointer (some ⟨wB.heap.size,0,none⟩)]] 122).alloc (.cells #[.int .i64 wt] 3)).alloc (.cells #[.func (Fn.func 86) #[] #[.pointer (some ⟨wB.heap.size+1+1,0,none⟩)]] 125)
 have c3:=(Cells.new ((wB.alloc (.cells #[.int .i64 wt] 3)).alloc (.cells #[.func (Fn.func 85) #[] #[.pointer (some ⟨wB.heap.size,0,none⟩)]] 122)) #[.int .i64 wt] 3).alloc (.cells #[.func (Fn.func 86) #[] #[.pointer (some ⟨wB.heap.size+1+1,0,none⟩)]] 125)
 have c4:=Cells.new (((wB.alloc (.cells #[.int .i64 wt] 3)).alloc (.cells #[.func (Fn.func 85) #[] #[.pointer (some ⟨wB.heap.size,0,none⟩)]] 122)).alloc (.cells #[.int .i64 wt] 3)) #[.func (Fn.func 86) #[] #[.pointer (some ⟨wB.heap.size+1+1,0,none⟩)]] 125
 rw [z1] at c2
 rw [z2] at c3
 rw [z3] at c4
 refine ⟨0,[.wt wt wB.heap.size],[.wt wt (wB.heap.size+1+1)],rfl,rfl,⟨⟨rfl,.inr ⟨wB.heap.size+1,1,_,rfl,by omega,c2,by simp,by decide,rfl,rfl⟩⟩,?_⟩,
   ⟨⟨rfl,.inr ⟨wB.heap.size+1+1+1,1,_,rfl,by omega,c4,by simp,by decide,rfl,rfl⟩⟩,?_⟩,rfl,rfl,fun _=>rfl,rfl,?_,by ((repeat' with_reducible first|assumption|exact frR|apply frD|apply frN|apply frA|apply frM|apply frC);all_goals (simp;try omega))⟩
 · intro o ho
   simp only [List.mem_singleton] at ho
   subst ho
   exact c1.cell 0 _ rfl
 · intro o ho
   simp only [List.mem_singleton] at ho
   subst ho
   exact c3.cell 0 _ rfl
 · intro q hq e
   simp only [Value.ownBlock,Option.some.injEq] at hq e
   omega
theorem optE {wr w1:World} {pr:ByteArray × ByteArray} (hw1:w1=((wr.alloc (.cells #[.string pr.1,.string pr.2] 68)).alloc (.cells #[.string pr.1] 9)).alloc (.cells #[.string pr.2] 9)) :
   Fr0 wr w1∧(Opt.at_ pr.1 pr.2 (wr.heap.size+1+1) (wr.heap.size+1)).ok w1∧Cells w1 wr.heap.size #[.string pr.1,.string pr.2] 68:=by
 refine ⟨by rw [hw1];((repeat' with_reducible first|assumption|exact frR|apply frD|apply frN|apply frA|apply frM|apply frC);all_goals (simp;try omega)),?_,by rw [hw1];exact ((Cells.new wr _ _).alloc _).alloc _⟩
 have z1:(wr.alloc (.cells #[.string pr.1,.string pr.2] 68)).heap.size=wr.heap.size+1:=by simp
 have z2:((wr.alloc (.cells #[.string pr.1,.string pr.2] 68)).alloc (.cells #[.string pr.1] 9)).heap.size=wr.heap.size+1+1:=by simp
 have y1:=(Cells.new (wr.alloc (.cells #[.string pr.1,.string pr.2] 68)) #[.string pr.1] 9).alloc (.cells #[.string pr.2] 9)
 have y2:=Cells.new ((wr.alloc (.cells #[.string pr.1,.string pr.2] 68)).alloc (.cells #[.string pr.1] 9)) #[.string pr.2] 9
 rw [z1] at y1
 rw [z2] at y2
 rw [hw1]
 exact ⟨y2.cell 0 _ rfl,y1.cell 0 _ rfl⟩
theorem optV {w2 w3:World} {pr:ByteArray × ByteArray} (hw3:w3=(w2.alloc (.cells #[.string pr.1] 9)).alloc (.cells #[.string pr.2] 9)):Fr0 w2 w3∧(Opt.at_ pr.1 pr.2 (w2.heap.size+1) w2.heap.size).ok w3:=by
 refine ⟨by rw [hw3];((repeat' with_reducible first|assumption|exact frR|apply frD|apply frN|apply frA|apply frM|apply frC);all_goals (simp;try omega)),?_⟩
 have z1:(w2.alloc (.cells #[.string pr.1] 9)).heap.size=w2.heap.size+1:=by simp
 have y1:=(Cells.new w2 #[.string pr.1] 9).alloc (.cells #[.string pr.2] 9)
 have y2:=Cells.new (w2.alloc (.cells #[.string pr.1] 9)) #[.string pr.2] 9
 rw [z1] at y2
 rw [hw3]
 exact ⟨y2.cell 0 _ rfl,y1.cell 0 _ rfl⟩
theorem stepB {w wr:World} {b0 b1 b2 b3 b4 b5:Bool} {hk op:Nat} {a b:ByteArray} {wt:Int} {ao:Option Addr} {n cap:Nat} (f:Fr0 (stepW w b0 b1 b2 b3 b4 b5 hk op a b wt ao n cap) wr) :
   Fr0 w wr∧Cells wr (w.heap.size+1) #[.int .u8 op,.string a,.string b,.int .i64 wt,.slice ao n cap] 50∧Cells wr (w.heap.size+1+1) zT 44∧Cells wr (w.heap.size+1+1+1) zT 44:=by
 have z1:(w.alloc (kB7 b0 b1 b2 b3 b4 b5 hk)).heap.size=w.heap.size+1:=by simp
 have z2:((w.alloc (kB7 b0 b1 b2 b3 b4 b5 hk)).alloc (dBox op a b wt ao n cap)).heap.size=w.heap.size+1+1:=by simp
 have z3:(((w.alloc (kB7 b0 b1 b2 b3 b4 b5 hk)).alloc (dBox op a b wt ao n cap)).alloc (.cells zT 44)).heap.size=w.heap.size+1+1+1:=by simp
 have y1:=(((Cells.new (w.alloc (kB7 b0 b1 b2 b3 b4 b5 hk)) #[.int .u8 op,.string a,.string b,.int .i64 wt,.slice ao n cap] 50).alloc (.cells zT 44)).alloc (.cells zT 44)).fr f (fun q=>q)
 have y2:=((Cells.new ((w.alloc (kB7 b0 b1 b2 b3 b4 b5 hk)).alloc (dBox op a b wt ao n cap)) zT 44).alloc (.cells zT 44)).fr f (fun q=>q)
 have y3:=(Cells.new (((w.alloc (kB7 b0 b1 b2 b3 b4 b5 hk)).alloc (dBox op a b wt ao n cap)).alloc (.cells zT 44)) zT 44).fr f (fun q=>q)
 rw [z1] at y1
 rw [z2] at y2
 rw [z3] at y3
 exact ⟨(show Fr0 w (stepW w b0 b1 b2 b3 b4 b5 hk op a b wt ao n cap) from by unfold stepW;((repeat' with_reducible first|assumption|exact frR|apply frD|apply frN|apply frA|apply frM|apply frC);all_goals (simp;try omega))).trans0 f,y1,y2,y3⟩
abbrev PP:=ByteArray × ByteArray
def insK:List PP→PP→List PP
 | [],p => [p]
 | q :: l,p=>if ltB q.1 p.1=true then q :: insK l p else if q.1=p.1 then p :: l else p :: q :: l
def byK (l:List PP):List PP:=l.foldl insK []
def SK (l:List PP):Prop:=l.Pairwise fun a b=>ltB a.1 b.1=true
def lookP (l:List PP) (k:ByteArray):Option ByteArray:=(l.find? fun p=>decide (p.1=k)).map (·.2)
theorem lookP_nil (k:ByteArray):lookP [] k=none:=rfl
theorem lookP_cons (q:PP) (l:List PP) (k:ByteArray):lookP (q :: l) k=if q.1=k then some q.2 else lookP l k:=by
 unfold lookP
 by_cases h:q.1=k <;> simp [h]
theorem lookP_app (l m:List PP) (k:ByteArray):lookP (l ++ m) k=(lookP l k).or (lookP m k):=by
 unfold lookP
 rw [List.find?_append]
 cases List.find? (fun p=>decide (p.1=k)) l <;> simp
theorem lookP_none {l:List PP} {k:ByteArray}:lookP l k=none↔∀ p∈l,p.1≠k:=by simp [lookP]
theorem lookP_mem {l:List PP} {k v:ByteArray} (h:lookP l k=some v):(k,v)∈l:=by
 unfold lookP at h
 rw [Option.map_eq_some_iff] at h
 obtain ⟨p,h1,h2⟩:=h
 have h3:=List.find?_some h1
 have h4:=List.mem_of_find?_eq_some h1
 simp only [decide_eq_true_eq] at h3
 rw [← h3,← h2]
 exact h4
theorem SK.lt {q:PP} {l:List PP} (h:SK (q :: l)):∀ p∈l,ltB q.1 p.1=true:=(List.pairwise_cons.1 h).1
theorem ltB_ne {a b:ByteArray} (h:ltB a b=true):a≠b:=fun e=>by rw [e,ltB_irrefl] at h;cases h
theorem ltB_asymm {a b:ByteArray} (h:ltB a b=true):ltB b a=false:=by
 cases g:ltB b a with
 | false=>rfl
 | true=>have:=ltB_trans h g;rw [ltB_irrefl] at this;cases this
theorem mem_insK {p x:PP}:∀ {l:List PP},x∈insK l p→x=p∨x∈l
 | [],h=>by simpa [insK] using h
 | q :: l,h=>by
   unfold insK at h
   split at h
   · rcases List.mem_cons.1 h with q1|q1
     · exact .inr (by rw [q1];simp)
     · rcases mem_insK q1 with r|r
       · exact .inl r
       · exact .inr (List.mem_cons_of_mem _ r)
   · split at h
     · rcases List.mem_cons.1 h with q1|q1
       · exact .inl q1
       · exact .inr (List.mem_cons_of_mem _ q1)
     · rcases List.mem_cons.1 h with q1|q1
       · exact .inl q1
       · exact .inr q1
theorem SK.ins:∀ {l:List PP},SK l→∀ p:PP,SK (insK l p)
 | [],_,p=>by simp [insK,SK]
 | q :: l,h,p=>by
   have h1:=List.pairwise_cons.1 h
   unfold insK
   split
   · rename_i g
     refine List.pairwise_cons.2 ⟨fun x hx => ?_,SK.ins h1.2 p⟩
     rcases mem_insK hx with r|r
     · rw [r];exact g
     · exact h1.1 x r
   · rename_i g
     split
     · rename_i e
       exact List.pairwise_cons.2 ⟨fun x hx=>by rw [← e];exact h1.1 x hx,h1.2⟩
     · rename_i e
       have g':ltB p.1 q.1=true:=by
         cases r:ltB p.1 q.1 with
         | true=>rfl
         | false=>exact absurd (ltB_tri (by simpa using g) r) e
       refine List.pairwise_cons.2 ⟨fun x hx => ?_,h⟩
       rcases List.mem_cons.1 hx with r|r
       · rw [r];exact g'
       · exact ltB_trans g' (h1.1 x r)
theorem look_ins:∀ {l:List PP},SK l→∀ (p:PP) (k:ByteArray),lookP (insK l p) k=if p.1=k then some p.2 else lookP l k
 | [],_,p,k=>by simp [insK,lookP_cons,lookP_nil]
 | q :: l,h,p,k=>by
   have h1:=List.pairwise_cons.1 h
   unfold insK
   split
   · rename_i g
     rw [lookP_cons,look_ins h1.2 p k,lookP_cons]
     by_cases e:q.1=k
     · have:¬ p.1=k:=fun r=>ltB_ne g (e.trans r.symm)
       simp [e,this]
     · simp [e]
   · split
     · rename_i e
       rw [lookP_cons,lookP_cons]
       by_cases r:p.1=k
       · simp [r]
       · have:¬ q.1=k:=fun z=>r (e.symm.trans z)
         simp [r,this]
     · rw [lookP_cons]
theorem SK.ext:∀ {l m:List PP},SK l→SK m→(∀ k,lookP l k=lookP m k)→l=m
 | [],[],_,_,_=>rfl
 | [],q :: m,_,_,h=>by have:=h q.1;simp [lookP_cons,lookP_nil] at this
 | p :: l,[],_,_,h=>by have:=h p.1;simp [lookP_cons,lookP_nil] at this
 | p :: l,q :: m,hl,hm,h=>by
   have e:p.1=q.1:=by
     refine ltB_tri ?_ ?_
     · cases r:ltB p.1 q.1 with
       | false=>rfl
       | true =>
         have:=h p.1
         rw [lookP_cons,if_pos rfl] at this
         have hx:=lookP_mem this.symm
         rcases List.mem_cons.1 hx with z|z
         · have:=ltB_ne r;rw [← z] at this;exact absurd rfl this
         · have:=ltB_trans r (hm.lt _ z);rw [ltB_irrefl] at this;cases this
     · cases r:ltB q.1 p.1 with
       | false=>rfl
       | true =>
         have:=h q.1
         rw [lookP_cons (q:=q),if_pos rfl] at this
         have hx:=lookP_mem this
         rcases List.mem_cons.1 hx with z|z
         · have:=ltB_ne r;rw [← z] at this;exact absurd rfl this
         · have:=ltB_trans r (hl.lt _ z);rw [ltB_irrefl] at this;cases this
   have e2:p.2=q.2:=by
     have:=h p.1
     rw [lookP_cons,if_pos rfl,lookP_cons,if_pos e.symm] at this
     exact Option.some.inj this
   have e3:p=q:=Prod.ext e e2
   subst e3
   have:l=m:=SK.ext (List.pairwise_cons.1 hl).2 (List.pairwise_cons.1 hm).2 fun k=>by
     by_cases r:p.1=k
     · subst r
       have h1:lookP l p.1=none:=lookP_none.2 fun x hx z=>ltB_ne (hl.lt x hx) z.symm
       have h2:lookP m p.1=none:=lookP_none.2 fun x hx z=>ltB_ne (hm.lt x hx) z.symm
       rw [h1,h2]
     · have:=h k
       rw [lookP_cons,if_neg r,lookP_cons,if_neg r] at this
       exact this
   rw [this]
theorem SK.fold:∀ (prs:List PP) {l:List PP},SK l→SK (prs.foldl insK l)
 | [],_,h=>h
 | p :: prs,_,h=>SK.fold prs (h.ins p)
theorem look_fold:∀ (prs:List PP) {l:List PP},SK l→∀ k,lookP (prs.foldl insK l) k=(lookP prs.reverse k).or (lookP l k)
 | [],_,_,k=>by simp [lookP_nil]
 | p :: prs,l,h,k=>by
   rw [List.foldl_cons,look_fold prs (h.ins p) k,look_ins h,List.reverse_cons,lookP_app,lookP_cons,lookP_nil]
   cases lookP prs.reverse k <;> by_cases e:p.1=k <;> simp [e]
theorem byK_sorted (l:List PP):SK (byK l):=SK.fold l List.Pairwise.nil
theorem look_byK (l:List PP) (k:ByteArray):lookP (byK l) k=lookP l.reverse k:=by
 unfold byK
 rw [look_fold l List.Pairwise.nil k,lookP_nil,Option.or_none]
theorem look_putA:∀ (l:List PP) (k v x:ByteArray),lookP (putA l k v) x=if k=x then some v else lookP l x
 | [],k,v,x=>by simp [putA,lookP_cons,lookP_nil]
 | q :: l,k,v,x=>by
   unfold putA
   split
   · rename_i e
     rw [lookP_cons,lookP_cons]
     by_cases r:k=x
     · simp [r]
     · have:¬ q.1=x:=fun z=>r (e.symm.trans z)
       simp [r,this]
   · rename_i e
     rw [lookP_cons,look_putA l k v x,lookP_cons]
     by_cases r:q.1=x
     · have:¬ k=x:=fun z=>e (r.trans z.symm)
       simp [r,this]
     · simp [r]
theorem keys_putA:∀ (l:List PP) (k v x:ByteArray),x∈(putA l k v).map (·.1)↔x=k∨x∈l.map (·.1)
 | [],k,v,x=>by simp [putA]
 | q :: l,k,v,x=>by
   unfold putA
   split
   · rename_i e
     simp [e]
   · rw [List.map_cons,List.mem_cons,keys_putA l k v x,List.map_cons,List.mem_cons]
     constructor
     · rintro (r|r|r)
       · exact .inr (.inl r)
       · exact .inl r
       · exact .inr (.inr r)
     · rintro (r|r|r)
       · exact .inr (.inl r)
       · exact .inl r
       · exact .inr (.inr r)
theorem nodup_putA:∀ {l:List PP} (k v:ByteArray),(l.map (·.1)).Nodup→((putA l k v).map (·.1)).Nodup
 | [],k,v,_=>by simp [putA]
 | q :: l,k,v,h=>by
   rw [List.map_cons,List.nodup_cons] at h
   unfold putA
   split
   · rename_i e
     rw [List.map_cons,List.nodup_cons]
     exact ⟨by rw [← e];exact h.1,h.2⟩
   · rename_i e
     rw [List.map_cons,List.nodup_cons]
     refine ⟨fun r => ?_,nodup_putA k v h.2⟩
     rcases (keys_putA l k v q.1).1 r with z|z
     · exact e z
     · exact h.1 z
def putsA (es:List PP) (prs:List PP):List PP:=prs.foldl (fun es p=>putA es p.1 p.2) es
theorem nodup_putsA:∀ (prs:List PP) {l:List PP},(l.map (·.1)).Nodup→((putsA l prs).map (·.1)).Nodup
 | [],_,h=>h
 | p :: prs,_,h=>nodup_putsA prs (nodup_putA p.1 p.2 h)
theorem look_putsA:∀ (prs:List PP) (l:List PP) (k:ByteArray),lookP (putsA l prs) k=(lookP prs.reverse k).or (lookP l k)
 | [],l,k=>by simp [putsA,lookP_nil]
 | p :: prs,l,k=>by
   have:putsA l (p :: prs)=putsA (putA l p.1 p.2) prs:=rfl
   rw [this,look_putsA prs _ k,look_putA,List.reverse_cons,lookP_app,lookP_cons,lookP_nil]
   cases lookP prs.reverse k <;> by_cases e:p.1=k <;> simp [e]
theorem lookP_iff:∀ {l:List PP},(l.map (·.1)).Nodup→∀ k v,lookP l k=some v↔(k,v)∈l
 | [],_,k,v=>by simp [lookP_nil]
 | q :: l,h,k,v=>by
   rw [List.map_cons,List.nodup_cons] at h
   rw [lookP_cons,List.mem_cons]
   by_cases e:q.1=k
   · rw [if_pos e]
     constructor
     · intro r
       exact .inl (Prod.ext e.symm (Option.some.inj r).symm)
     · rintro (r|r)
       · rw [← r]
       · exact absurd (List.mem_map.2 ⟨(k,v),r,rfl⟩) (by rw [← e];exact h.1)
   · rw [if_neg e,lookP_iff h.2 k v]
     constructor
     · exact .inr
     · rintro (r|r)
       · exact absurd (by rw [← r]) e
       · exact r
theorem lookP_perm {l m:List PP} (h:l.Perm m) (nd:(m.map (·.1)).Nodup) (k:ByteArray):lookP l k=lookP m k:=by
 have nl:(l.map (·.1)).Nodup:=(h.map _).nodup_iff.2 nd
 refine Option.ext fun v => ?_
 rw [lookP_iff nl,lookP_iff nd]
 exact h.mem_iff
theorem SK.nodup {l:List PP} (h:SK l):(l.map (·.1)).Nodup:=by
 unfold SK at h
 rw [List.Nodup,List.pairwise_map]
 exact h.imp fun {a b} q=>ltB_ne q
theorem byK_puts {es:List PP} (nd:(es.map (·.1)).Nodup) (prs:List PP):byK (putsA es prs)=byK (byK es ++ prs):=by
 refine SK.ext (byK_sorted _) (byK_sorted _) fun k => ?_
 rw [look_byK,lookP_perm (List.reverse_perm _) (nodup_putsA prs nd),look_putsA,look_byK,List.reverse_append,lookP_app,
   lookP_perm (List.reverse_perm _) (byK_sorted es).nodup,look_byK,lookP_perm (List.reverse_perm _) nd]
theorem byK_all (prs:List PP):byK (putsA [] prs)=byK prs:=by
 rw [byK_puts (by simp)]
 rfl
theorem byK_of_perm {es l:List PP} (nd:(es.map (·.1)).Nodup) (hp:l.Perm es) (hs:l.Pairwise fun a b=>ltB b.1 a.1=false):l=byK es:=by
 have nl:(l.map (·.1)).Nodup:=(hp.map _).nodup_iff.2 nd
 have sl:SK l:=by
   rw [List.Nodup,List.pairwise_map] at nl
   refine (hs.and nl).imp fun {a b} q => ?_
   cases r:ltB a.1 b.1 with
   | true=>rfl
   | false=>exact absurd (ltB_tri r q.1) q.2
 refine sl.ext (byK_sorted _) fun k => ?_
 rw [lookP_perm hp nd,look_byK,lookP_perm (List.reverse_perm _) nd]
theorem mem_byK {es:List PP} (nd:(es.map (·.1)).Nodup):(byK es).Perm es:=by
 have h1:=(byK_sorted es).nodup
 refine (List.perm_ext_iff_of_nodup ?_ ?_).2 fun x => ?_
 · exact (List.pairwise_map.1 h1).imp fun q e=>q (by rw [e])
 · exact (List.pairwise_map.1 nd).imp fun q e=>q (by rw [e])
 · obtain ⟨k,v⟩:=x
   rw [← lookP_iff h1,← lookP_iff nd,look_byK,lookP_perm (List.reverse_perm _) nd]
structure SP where
 h:ByteArray
 v:ByteArray
 wt:Int
 es:List PP
structure SL where
 a:ByteArray
 b:ByteArray
 wt:Int
 es:List PP
structure St where
 dir:Bool
 pr:Bool
 hk:Nat
 ps:List SP
 ls:List SL
structure DoIn where
 op:Nat
 a:ByteArray
 b:ByteArray
 wt:Int
 prs:List PP
structure Tl where
 err:Nat:=0
 value:ByteArray:=⟨#[]⟩
 src:ByteArray:=⟨#[]⟩
 dst:ByteArray:=⟨#[]⟩
 wt:Int:=0
 order:Nat:=0
 size:Nat:=0
 pairs:List PP:=[]
 keys:List ByteArray:=[]
 links:List SL:=[]
def SL.hit (dir:Bool) (l:SL) (x y:ByteArray):Bool:=decide (l.a=x∧l.b=y) || (!dir && decide (l.a=y∧l.b=x))
def SL.turn (l:SL):SL:=⟨l.b,l.a,l.wt,l.es⟩
def St.pt (s:St) (h:ByteArray):Option SP:=s.ps.find? fun p=>decide (p.h=h)
def St.lk (s:St) (a b:ByteArray):Option SL:=s.ls.find? fun l=>l.hit s.dir a b
inductive Reach (ls:List SL) (a:ByteArray):ByteArray→Prop
 | refl:Reach ls a a
 | step {b:ByteArray} {l:SL}:Reach ls a b→l∈ls→l.a=b→Reach ls a l.b
def ltL (x y:SL):Bool:=lt2 (x.a,x.b) (y.a,y.b)
def sortL (l:List SL):List SL:=l.mergeSort fun x y => !ltL y x
def sortK (l:List ByteArray):List ByteArray:=l.mergeSort fun x y => !ltB y x
def St.both (s:St) (back:Bool):List SL:=s.ls.flatMap fun l=>(if !back || !s.dir then [l] else []) ++ (if back || !s.dir then [l.turn] else [])
def St.keys (s:St):List ByteArray:=s.ps.map (·.h)
def SL.low (dir:Bool) (l:SL):SL:=if !dir && ltB l.b l.a then l.turn else l
def St.value (s:St) (h:ByteArray):ByteArray:=((s.pt h).map (·.v)).getD ⟨#[]⟩
def St.addV (s:St) (d:DoIn):Tl × St :=
 match s.pt (hashM s.hk d.a) with
 | some _=>({ err:=1 },s)
 | none=>({}, { s with ps:=s.ps ++ [⟨hashM s.hk d.a,d.a,d.wt,byK d.prs⟩] })
def St.rmV (s:St) (d:DoIn):Tl × St :=
 match s.pt d.a with
 | none=>({ err:=2 },s)
 | some _=>if s.ls.any (fun l=>decide (l.a=d.a∨l.b=d.a))=true then ({ err:=3 },s) else ({}, { s with ps:=s.ps.filter fun p=>decide (p.h≠d.a) })
open Classical in
noncomputable def St.addE (s:St) (d:DoIn):Tl × St :=
 match s.pt d.a,s.pt d.b with
 | some _,some _ =>
   match s.lk d.a d.b with
   | some _=>({ err:=4 },s)
   | none=>if s.pr=true∧Reach s.ls d.b d.a then ({ err:=6 },s) else ({}, { s with ls:=s.ls ++ [⟨d.a,d.b,d.wt,byK d.prs⟩] })
 | _,_=>({ err:=2 },s)
def St.rmE (s:St) (d:DoIn):Tl × St :=
 match s.lk d.a d.b with
 | none=>({ err:=5 },s)
 | some _=>({}, { s with ls:=s.ls.filter fun l => !l.hit s.dir d.a d.b })
def St.updE (s:St) (d:DoIn):Tl × St :=
 match s.lk d.a d.b with
 | none=>({ err:=5 },s)
 | some _=>({}, { s with ls:=s.ls.map fun l=>if l.hit s.dir d.a d.b=true then ⟨l.a,l.b,d.wt,byK (l.es ++ d.prs)⟩ else l })
def St.vtx (s:St) (d:DoIn):Tl :=
 match s.pt d.a with
 | none=>{ err:=2 }
 | some p=>{ value:=p.v,wt:=p.wt,pairs:=p.es }
def St.edge (s:St) (d:DoIn):Tl :=
 match s.lk d.a d.b with
 | none=>{ err:=5 }
 | some l=>{ src:=s.value d.a,dst:=s.value d.b,wt:=l.wt,pairs:=l.es }
noncomputable def St.step (s:St) (d:DoIn):Tl × St :=
 match d.op with
 | 0=>s.addV d
 | 1=>s.rmV d
 | 2=>s.addE d
 | 3=>s.rmE d
 | 4=>s.updE d
 | 5=>(s.vtx d,s)
 | 6=>(s.edge d,s)
 | 7=>({ order:=s.ps.length,size:=s.ls.length },s)
 | 8=>({ links:=sortL (s.ls.map (SL.low s.dir)) },s)
 | 9=>({ keys:=sortK s.keys,links:=sortL (s.both false) },s)
 | 10=>({ keys:=sortK s.keys,links:=sortL (s.both true) },s)
 | _=>({},s)
noncomputable def St.run (s:St):List DoIn→List Tl
 | [] => []
 | d :: ds=>(s.step d).1 :: (s.step d).2.run ds
noncomputable def St.after (s:St):List DoIn→St
 | []=>s
 | d :: ds=>(s.step d).2.after ds
theorem St.run_length (s:St) (ds:List DoIn):(s.run ds).length=ds.length:=by
 induction ds generalizing s with
 | nil=>rfl
 | cons d ds ih=>simp [St.run,ih]
theorem St.run_snoc (s:St) (ds:List DoIn) (d:DoIn):s.run (ds ++ [d])=s.run ds ++ [((s.after ds).step d).1]:=by
 induction ds generalizing s with
 | nil=>rfl
 | cons x ds ih=>simp [St.run,St.after,ih]
theorem St.after_snoc (s:St) (ds:List DoIn) (d:DoIn):s.after (ds ++ [d])=((s.after ds).step d).2:=by
 induction ds generalizing s with
 | nil=>rfl
 | cons x ds ih=>simp [St.after,ih]
theorem St.step_same (s:St) (d:DoIn):(s.step d).2.dir=s.dir∧(s.step d).2.pr=s.pr∧(s.step d).2.hk=s.hk:=by
 unfold St.step
 split
 · unfold St.addV;split <;> exact ⟨rfl,rfl,rfl⟩
 · unfold St.rmV
   split
   · exact ⟨rfl,rfl,rfl⟩
   · split <;> exact ⟨rfl,rfl,rfl⟩
 · unfold St.addE
   split
   · split
     · exact ⟨rfl,rfl,rfl⟩
     · split <;> exact ⟨rfl,rfl,rfl⟩
   · exact ⟨rfl,rfl,rfl⟩
 · unfold St.rmE;split <;> exact ⟨rfl,rfl,rfl⟩
 · unfold St.updE;split <;> exact ⟨rfl,rfl,rfl⟩
 all_goals exact ⟨rfl,rfl,rfl⟩
def Pt.sp (p:Pt):SP:=⟨p.h,p.v,p.wt,byK p.es⟩
def Lk.sl (l:Lk):SL:=⟨l.a,l.b,l.wt,byK l.es⟩
def GS.st (G:GS):St:={ dir:=G.dir,pr:=G.pr,hk:=G.hk,ps:=G.pts.map Pt.sp,ls:=G.lks.map Lk.sl }
theorem st_pt (G:GS) (h:ByteArray):G.st.pt h=(findP G.pts h).map Pt.sp:=by
 unfold St.pt findP GS.st
 rw [List.find?_map]
 rfl
theorem st_lk (G:GS) (a b:ByteArray):G.st.lk a b=(findL G.dir G.lks a b).map Lk.sl:=by
 unfold St.lk findL GS.st
 rw [List.find?_map]
 rfl
theorem perm_sort {α:Type} {lt:α→α→Bool} (le_trans:∀ a b c:α,(!lt b a)=true→(!lt c b)=true→(!lt c a)=true) (le_total:∀ a b:α,((!lt b a) || (!lt a b))=true) (tri:∀ l:List α, ∀ a∈l, ∀ b∈l,lt a b=false→lt b a=false→a=b) {l m:List α} (h:l.Perm m) (hs:l.Pairwise fun a b=>lt b a=false) :
   l=m.mergeSort fun x y => !lt y x:=by
 have h2:(m.mergeSort fun x y => !lt y x).Perm l:=(List.mergeSort_perm _ _).trans h.symm
 have s2:=List.pairwise_mergeSort le_trans le_total m
 refine (List.Perm.eq_of_pairwise ?_ (hs.imp fun {a b} q=>by simpa using q) s2 h2.symm)
 intro a b ha hb h3 h4
 simp only [Bool.not_eq_true'] at h3 h4
 exact tri l a ha b ((h2.mem_iff).1 hb) h4 h3
theorem Reads.fr {w w':World} {v:Value} {n:Nat} {xs:List Value} {S:Nat→Prop} (h:Reads w v n xs) (f:Fr S w w') (hS:∀ q,v.ownBlock=some q→q < w.heap.size→¬ S q):Reads w' v n xs:=by
 obtain ⟨ao,cap,rfl,hc,hr⟩:=h
 refine ⟨ao,cap,rfl,hc,fun j u hj => ?_⟩
 obtain ⟨ob,rfl,h1,h2⟩:=hr j u hj
 exact ⟨ob,rfl,Nat.lt_of_lt_of_le h1 f.size,(f.cell (p:=⟨ob,j,none⟩) h1 (hS ob rfl h1)).trans h2⟩
theorem Reads.nil (w:World):Reads w (.slice none 0 0) 0 []:=⟨none,0,rfl,Nat.le_refl _,fun j u hj=>by simp at hj⟩
def Off (lo:Nat) (w:World) (S:Nat→Prop):Prop:=∀ q,lo≤q→q < w.heap.size→¬ S q
def PairsIn (w:World) (p:Nat→Prop) (v:Value) (es:List PP):Prop:=Reads w v es.length (encL encP es)∧∀ q,v.ownBlock=some q→p q∧q < w.heap.size
theorem PairsIn.fr {w w':World} {p:Nat→Prop} {v:Value} {es:List PP} {S:Nat→Prop} (h:PairsIn w p v es) (f:Fr S w w') (hS:∀ q,p q→q < w.heap.size→¬ S q):PairsIn w' p v es :=
 ⟨h.1.fr f fun q hq _=>hS q (h.2 q hq).1 (h.2 q hq).2,fun q hq=>⟨(h.2 q hq).1,Nat.lt_of_lt_of_le (h.2 q hq).2 f.size⟩⟩
theorem PairsIn.imp {w:World} {p p':Nat→Prop} {v:Value} {es:List PP} (h:PairsIn w p v es) (hp:∀ q,p q→q < w.heap.size→p' q):PairsIn w p' v es :=
 ⟨h.1,fun q hq=>⟨hp q (h.2 q hq).1 (h.2 q hq).2,(h.2 q hq).2⟩⟩
theorem PairsIn.nil (w:World) (p:Nat→Prop):PairsIn w p (.slice none 0 0) []:=⟨Reads.nil w,fun q hq=>by cases hq⟩
abbrev PairsAt (w:World) (lo:Nat) (v:Value) (es:List PP):Prop:=PairsIn w (fun q=>lo≤q) v es
theorem PairsAt.fr {w w':World} {lo:Nat} {v:Value} {es:List PP} {S:Nat→Prop} (h:PairsAt w lo v es) (f:Fr S w w') (hS:Off lo w S):PairsAt w' lo v es:=PairsIn.fr h f hS
theorem PairsAt.nil (w:World) (lo:Nat):PairsAt w lo (.slice none 0 0) []:=PairsIn.nil w _
theorem PairsAt.low {w:World} {lo lo':Nat} {v:Value} {es:List PP} (h:PairsAt w lo v es) (hl:lo'≤lo):PairsAt w lo' v es:=PairsIn.imp h fun _ hq _=>Nat.le_trans hl hq
def KeysIn (w:World) (p:Nat→Prop) (v:Value) (ks:List ByteArray):Prop:=Reads w v ks.length (ks.map .string)∧∀ q,v.ownBlock=some q→p q∧q < w.heap.size
theorem KeysIn.fr {w w':World} {p:Nat→Prop} {v:Value} {ks:List ByteArray} {S:Nat→Prop} (h:KeysIn w p v ks) (f:Fr S w w') (hS:∀ q,p q→q < w.heap.size→¬ S q):KeysIn w' p v ks :=
 ⟨h.1.fr f fun q hq _=>hS q (h.2 q hq).1 (h.2 q hq).2,fun q hq=>⟨(h.2 q hq).1,Nat.lt_of_lt_of_le (h.2 q hq).2 f.size⟩⟩
theorem KeysIn.imp {w:World} {p p':Nat→Prop} {v:Value} {ks:List ByteArray} (h:KeysIn w p v ks) (hp:∀ q,p q→q < w.heap.size→p' q):KeysIn w p' v ks :=
 ⟨h.1,fun q hq=>⟨hp q (h.2 q hq).1 (h.2 q hq).2,(h.2 q hq).2⟩⟩
theorem KeysIn.nil (w:World) (p:Nat→Prop):KeysIn w p (.slice none 0 0) []:=⟨Reads.nil w,fun q hq=>by cases hq⟩
theorem KeysAt.nil (w:World) (lo:Nat):KeysIn w (fun q=>lo≤q) (.slice none 0 0) []:=KeysIn.nil w _
def encLk (p:SL × Value):List Value:=[.string p.1.a,.string p.1.b,.int .i64 p.1.wt,p.2]
def LinksIn (w:World) (p:Nat→Prop) (v:Value) (ls:List SL):Prop :=
 ∃ vs:List Value,vs.length=ls.length∧Reads w v ls.length (encL encLk (ls.zip vs))∧(∀ q,v.ownBlock=some q→p q∧q < w.heap.size)∧∀ (i:Nat) (l:SL) (u:Value),ls[i]? = some l→vs[i]? = some u→PairsIn w p u l.es
theorem LinksIn.fr {w w':World} {p:Nat→Prop} {v:Value} {ls:List SL} {S:Nat→Prop} (h:LinksIn w p v ls) (f:Fr S w w') (hS:∀ q,p q→q < w.heap.size→¬ S q):LinksIn w' p v ls:=by
 obtain ⟨vs,h1,h2,h3,h4⟩:=h
 exact ⟨vs,h1,h2.fr f fun q hq _=>hS q (h3 q hq).1 (h3 q hq).2,fun q hq=>⟨(h3 q hq).1,Nat.lt_of_lt_of_le (h3 q hq).2 f.size⟩,fun i l u hl hu=>(h4 i l u hl hu).fr f hS⟩
theorem LinksIn.imp {w:World} {p p':Nat→Prop} {v:Value} {ls:List SL} (h:LinksIn w p v ls) (hp:∀ q,p q→q < w.heap.size→p' q):LinksIn w p' v ls:=by
 obtain ⟨vs,h1,h2,h3,h4⟩:=h
 exact ⟨vs,h1,h2,fun q hq=>⟨hp q (h3 q hq).1 (h3 q hq).2,(h3 q hq).2⟩,fun i l u hl hu=>(h4 i l u hl hu).imp hp⟩
theorem LinksIn.nil (w:World) (p:Nat→Prop):LinksIn w p (.slice none 0 0) []:=⟨[],rfl,Reads.nil w,(fun q hq=>by cases hq),(fun i l u hl=>by simp at hl)⟩
theorem LinksAt.nil (w:World) (lo:Nat):LinksIn w (fun q=>lo≤q) (.slice none 0 0) []:=LinksIn.nil w _
abbrev toldVal (t:Tl) (pv kv lv:Value):Value:=.agg #[.int .u8 t.err,.string t.value,.string t.src,.string t.dst,.int .i64 t.wt,.int .i64 t.order,.int .i64 t.size,pv,kv,lv]
def ToldIn (w:World) (p:Nat→Prop) (v:Value) (t:Tl):Prop :=
 ∃ pv kv lv,v=toldVal t pv kv lv∧PairsIn w p pv t.pairs∧KeysIn w p kv t.keys∧LinksIn w p lv t.links
abbrev ToldAt (w:World) (lo:Nat) (v:Value) (t:Tl):Prop:=ToldIn w (fun q=>lo≤q) v t
theorem ToldIn.fr {w w':World} {p:Nat→Prop} {v:Value} {t:Tl} {S:Nat→Prop} (h:ToldIn w p v t) (f:Fr S w w') (hS:∀ q,p q→q < w.heap.size→¬ S q):ToldIn w' p v t:=by
 obtain ⟨pv,kv,lv,rfl,h1,h2,h3⟩:=h
 exact ⟨pv,kv,lv,rfl,h1.fr f hS,h2.fr f hS,h3.fr f hS⟩
theorem ToldIn.imp {w:World} {p p':Nat→Prop} {v:Value} {t:Tl} (h:ToldIn w p v t) (hp:∀ q,p q→q < w.heap.size→p' q):ToldIn w p' v t:=by
 obtain ⟨pv,kv,lv,rfl,h1,h2,h3⟩:=h
 exact ⟨pv,kv,lv,rfl,h1.imp hp,h2.imp hp,h3.imp hp⟩
theorem ats_nodup {w:World} {b:Nat} {es:List PP} (h:SM w b (ats es)):(es.map (·.1)).Nodup:=by
 have:=h.nodup
 unfold ats at this
 rwa [List.map_map] at this
theorem byK_len {es:List PP} (nd:(es.map (·.1)).Nodup):(byK es).length=es.length:=(mem_byK nd).length_eq
theorem pairsof' (w:World) (mB:Nat) (es:List PP) (hm:SM w mB (ats es)) (hes:es.length≤1000000) :
   Calls Tryz.prog 69 #[.map (some mB)] w fun e w'=>∃ ao cap,e=.returned (.slice ao (byK es).length cap)∧PairsAt w' w.heap.size (.slice ao (byK es).length cap) (byK es)∧Fr0 w w':=by
 have nd:=ats_nodup hm
 refine (pairsof w mB es hm hes).mono ?_
 rintro e w' ⟨v,l',rfl,h1,h2,⟨ao,cap,rfl,h3⟩,h4,h5⟩
 have e1:=byK_of_perm nd h1 h2
 subst e1
 have e2:=byK_len nd
 rw [e2]
 exact ⟨ao,cap,rfl,⟨⟨ao,cap,by rw [e2],by rw [e2];exact h3.1,h3.2⟩,h5⟩,h4⟩
end Go.Proofs.YtbafaadmlpamiaaGreatDoor
