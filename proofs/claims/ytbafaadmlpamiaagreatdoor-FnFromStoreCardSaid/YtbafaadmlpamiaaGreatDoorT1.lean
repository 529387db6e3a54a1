import Derived.Test.YtbafaadmlpamiaaGreatDoorA1
import Derived.Deep.AppendLies
import Derived.Deep.Upon
import Derived.Deep.RegionHeld3
namespace Go.Proofs.YtbafaadmlpamiaaGreatDoor
open Go Go.Hy
theorem text_ne {a b:ByteArray} (h:¬ a=b):(a.toList == b.toList)=false:=by
 cases e:a.toList == b.toList with
 | false=>rfl
 | true=>exact absurd (toList_inj (beq_iff_eq.1 e)) h
theorem text_dec (a b:ByteArray):(a.toList == b.toList)=decide (a=b):=by
 by_cases h:a=b
 · subst h;simp
 · rw [text_ne h,decide_eq_false h]
end Go.Proofs.YtbafaadmlpamiaaGreatDoor
namespace Go.Hy
open Go
def tupV (p:ByteArray × ByteArray):Value:=.agg #[.string p.1,.string p.2]
def tupE (p:ByteArray × ByteArray):Value × Value:=(tupV p,.agg #[])
def TM (w:World) (b:Nat) (ks:List (ByteArray × ByteArray)):Prop :=
 ∃ arr clock,w.heap[b]? = some (.map arr clock)∧arr.toList.map entOf=ks.map tupE
theorem TM.keep {w w':World} {b:Nat} {ks:List (ByteArray × ByteArray)} (h:TM w b ks) (e:w'.heap[b]? = w.heap[b]?):TM w' b ks:=by
 obtain ⟨arr,clock,h1,h2⟩:=h
 exact ⟨arr,clock,e.trans h1,h2⟩
theorem TM.lt {w:World} {b:Nat} {ks:List (ByteArray × ByteArray)} (h:TM w b ks):b < w.heap.size:=by
 obtain ⟨arr,clock,h1,_⟩:=h
 exact (Array.getElem?_eq_some_iff.1 h1).1
theorem TM.fr {w w':World} {S:Nat→Prop} {b:Nat} {ks:List (ByteArray × ByteArray)} (h:TM w b ks) (f:Fr S w w') (hn:¬ S b):TM w' b ks:=h.keep (f.block b h.lt hn)
theorem TM.fresh (w:World):TM (w.alloc (.map #[] 0)) w.heap.size []:=⟨#[],0,(MapKept.heap_alloc w _).1,rfl⟩
theorem TM.ne_row {w:World} {b base size n:Nat} {e:TypeId} {v:Value} {xs:List Value} {ks:List (ByteArray × ByteArray)} (h:TM w b ks) (ho:w.ownsRow base e size v n xs):v.ownBlock≠some b:=by
 obtain ⟨arr,clock,h1,_⟩:=h
 intro q
 obtain ⟨_,h2|⟨g,cap,cur,h2,_,h3,_⟩⟩:=ho
 · rw [h2.1] at q;cases q
 · rw [h2] at q
   have e:g=b:=Option.some.inj q
   rw [e,h1] at h3
   cases h3
structure KeyOk (P:Program) (K:TypeId):Prop where
 desc:∃ fs,P.underlying K=some (.struct fs)
 check:∀ (e:Bool) (w:World) (p:ByteArray × ByteArray),(Instr.checkKey e 10000 K (tupV p)).run P w=.ok () w
 same:∀ (w:World) (p q:ByteArray × ByteArray),(Op.equal K (tupV p) (tupV q)).run P w=.ok (decide (p=q)) w
section
variable {P:Program} {K:TypeId}
theorem ask_spec (h:KeyOk P K) (w:World) (k:ByteArray × ByteArray):∀ (l:List MapEntry) (ks:List (ByteArray × ByteArray)) (i:Nat),l.map entOf=ks.map tupE →
   ∃ r,(Instr.findAsking K (tupV k) l i).run P w=.ok r w∧(k∈ks→∃ j,r=some (j,.agg #[]))∧(k∉ks→r=none)
 | [],[],i,_=>⟨none,by simp [Instr.findAsking],by simp,by simp⟩
 | [],_ :: _,_,hl=>by simp at hl
 | _ :: _,[],_,hl=>by simp at hl
 | e :: l,p :: ks,i,hl=>by
   simp only [List.map_cons,List.cons.injEq] at hl
   obtain ⟨h1,h2⟩:=hl
   obtain ⟨hk,hv⟩:=Prod.mk.inj h1
   by_cases hp:k=p
   · exact ⟨some (i,e.val),by simp [Instr.findAsking,hk,h.same,hp,Result.andThen],fun _=>⟨i,by rw [hv]⟩,fun q=>absurd (by simp [hp]) q⟩
   · obtain ⟨r,r1,r2,r3⟩:=ask_spec h w k l ks (i+1) h2
     refine ⟨r,by simp [Instr.findAsking,hk,h.same,hp,Result.andThen,r1],fun q=>r2 ?_,fun q=>r3 fun z=>q (List.mem_cons_of_mem _ z)⟩
     rcases List.mem_cons.1 q with z|z
     · exact absurd z hp
     · exact z
theorem tfind (h:KeyOk P K) (w:World) (k:ByteArray × ByteArray) (l:List MapEntry) (ks:List (ByteArray × ByteArray)) (hl:l.map entOf=ks.map tupE) :
   ∃ r,(Instr.findKey K (tupV k) l).run P w=.ok r w∧(k∈ks→∃ j,r=some (j,.agg #[]))∧(k∉ks→r=none):=by
 obtain ⟨fs,hd⟩:=h.desc
 cases l with
 | nil =>
   cases ks with
   | nil=>exact ⟨none,by simp [Instr.findKey,run_underlying hd,Result.andThen,Instr.findNow],by simp,by simp⟩
   | cons p ks=>simp at hl
 | cons e l =>
   obtain ⟨r,r1,r2,r3⟩:=ask_spec h w k (e :: l) ks 0 hl
   exact ⟨r,by simp [Instr.findKey,run_underlying hd,Result.andThen,Instr.findNow,Instr.sameNow,r1],r2,r3⟩
variable {w:World} {b:Nat} {ks:List (ByteArray × ByteArray)} {T E:TypeId}
theorem TM.look (h:TM w b ks) (hO:KeyOk P K) (hT:P.underlying T=some (.map K E)) (hz:(zeroValue E).run P w=.ok (.agg #[]) w) (k:ByteArray × ByteArray) :
   ∃ r,(Instr.lookup T (.map (some b)) (tupV k) true).run P w=.ok (.tuple #[.agg #[],.bool r]) w∧(r=true→k∈ks)∧(r=false→k∉ks):=by
 obtain ⟨arr,clock,h1,h2⟩:=h
 obtain ⟨r,r1,r2,r3⟩:=tfind hO w k arr.toList ks h2
 by_cases hk:k∈ks
 · obtain ⟨j,rfl⟩:=r2 hk
   exact ⟨true,by simp [Instr.lookup,run_underlying hT,MapKept.run_getObj_map h1,hO.check,r1,Result.andThen],fun _=>hk,fun h=>by cases h⟩
 · obtain rfl:=r3 hk
   exact ⟨false,by simp [Instr.lookup,run_underlying hT,MapKept.run_getObj_map h1,hO.check,r1,Result.andThen,hz],(fun h=>by cases h),fun _=>hk⟩
theorem TM.put (h:TM w b ks) (hO:KeyOk P K) (hT:P.underlying T=some (.map K E)) (k:ByteArray × ByteArray) (hk:k∉ks) :
   ∃ arr' c',(Instr.mapUpdate T (.map (some b)) (tupV k) (.agg #[])).run P w=.ok () (setM w b arr' c')∧TM (setM w b arr' c') b (ks ++ [k]):=by
 obtain ⟨arr,clock,h1,h2⟩:=h
 obtain ⟨r,r1,_,r3⟩:=tfind hO w k arr.toList ks h2
 obtain rfl:=r3 hk
 have hb:b < w.heap.size:=(Array.getElem?_eq_some_iff.1 h1).1
 refine ⟨arr.push { key:=tupV k,val:=.agg #[],born:=clock },clock+1,?_,?_⟩
 · simp [Instr.mapUpdate,run_underlying hT,MapKept.run_getObj_map h1,hO.check,r1,MapKept.run_setObj_map _ h1,Result.andThen,setM]
 · refine ⟨arr.push { key:=tupV k,val:=.agg #[],born:=clock },clock+1,by simp [setM,hb],?_⟩
   simp [h2,entOf,tupE]
variable {ops:Array Oper} {rest:List Oper} {o:Oper} {a:Act} {Q:Exit→Act→World→Prop}
theorem wl_tlook2 (T K E:TypeId) (hT:P.underlying T=some (.map K E)) (hO:KeyOk P K) (hz:∀ w,(zeroValue E).run P w=.ok (.agg #[]) w)
   (hg:o.guard=none) (m x:Operand) (hop:o.op=Op.lookup T m x true) (h:TM w b ks) (k:ByteArray × ByteArray)
   (hm:a.eval m=.map (some b)) (hx:a.eval x=tupV k)
   (hY:k∈ks→wpList P ops Q rest (a.put o.dst (.tuple #[.agg #[],.bool true])) w) (hN:k∉ks→wpList P ops Q rest (a.put o.dst (.tuple #[.agg #[],.bool false])) w) :
   wpList P ops Q (o :: rest) a w:=by
 refine wpList_plain hg fun K' hK' => ?_
 obtain ⟨r,hrun,h1,h2⟩:=h.look hO hT (hz w) k
 unfold Oper.wp
 cases r with
 | true=>simp [execOp,hop,hm,hx,hrun,Result.andThen];exact hK' _ _ (hY (h1 rfl))
 | false=>simp [execOp,hop,hm,hx,hrun,Result.andThen];exact hK' _ _ (hN (h2 rfl))
theorem wl_tput (T K E:TypeId) (hT:P.underlying T=some (.map K E)) (hO:KeyOk P K)
   (hg:o.guard=none) (m x y:Operand) (hop:o.op=Op.mapUpdate T m x y) (h:TM w b ks) (k:ByteArray × ByteArray) (hk:k∉ks)
   (hm:a.eval m=.map (some b)) (hx:a.eval x=tupV k) (hy:a.eval y=.agg #[])
   (hY:∀ arr c,TM (setM w b arr c) b (ks ++ [k])→wpList P ops Q rest (a.put o.dst (.tuple #[])) (setM w b arr c)) :
   wpList P ops Q (o :: rest) a w:=by
 refine wpList_plain hg fun K' hK' => ?_
 obtain ⟨arr,c,hrun,h1⟩:=h.put hO hT k hk
 unfold Oper.wp
 simp [execOp,hop,hm,hx,hy,hrun,Result.andThen]
 exact hK' _ _ (hY arr c h1)
end
end Go.Hy
namespace Go.Hy
open Go Go.RowKit
section
variable {P:Program} {w:World}
def Yld (w:World) (v:Value) (m:Nat) (news:List Value):Prop :=
 (∃ c,v=.slice none 0 c∧m=0∧news = [])∨∃ a c,v=.slice (some a) m c∧∀ (j:Nat) (u:Value),news[j]? = some u→w.cell? (a.add j)=some u
theorem Yld.fr {w':World} {v:Value} {m:Nat} {news:List Value} {S:Nat→Prop} (h:Yld w v m news) (f:Fr S w w') (hn:∀ a n c,v=.slice (some a) n c→0 < news.length→a.block < w.heap.size∧¬ S a.block):Yld w' v m news:=by
 rcases h with h|⟨a,c,rfl,h⟩
 · exact .inl h
 · refine .inr ⟨a,c,rfl,fun j u hj => ?_⟩
   have hp:0 < news.length:=by
     have:=(List.getElem?_eq_some_iff.1 hj).1
     omega
   obtain ⟨h1,h2⟩:=hn a m c rfl hp
   have hb:(a.add j).block=a.block:=by unfold Addr.add;split <;> rfl
   rw [f.cell (p:=a.add j) (by rw [hb];exact h1) (by rw [hb];exact h2)]
   exact h j u hj
theorem run_appG (t ty e:TypeId) (z:Value) (size bytes:Nat) (ht:P.underlying t=some (.slice e)) (hi:(P.info? e).map (fun i=>(i.zero,i.size,i.bytes))=some (some z,size,bytes))
   (hzs:z.cells.size=size) (hsz:0 < size) (hby:bytes≤1000) (base:Nat) (v:Value) (n:Nat) (xs:List Value) (hown:w.ownsRow base e size v n xs)
   (xv:Value) (m:Nat) (news:List Value) (hy:Yld w xv m news) (hl:news.length=m * size) (h1:∀ u∈news,u.oneCell'=true) (hb:n+m≤100000000000) (hbase:base≤w.heap.size) :
   ∃ v' w',(Builtin.append_ #[t,t] ty #[v,xv]).run P w=.ok v' w'∧w'.ownsRow base e size v' (n+m) (xs ++ news)∧Fr (fun k=>v.ownBlock=some k) w w'∧(v'.ownBlock=v.ownBlock∨v'.ownBlock=some w.heap.size):=by
 obtain ⟨i,hi1,hi2,hi3,hi4⟩:=info_parts hi
 rcases hy with ⟨c,rfl,rfl,rfl⟩|⟨ad,c,rfl,hr⟩
 · have hs:=Src.ofNil (P:=P) w (size:=i.size) ht c
   have hfin:∀ ao cap,v=.slice ao n cap→n≤cap→∃ v' w',(Builtin.append_ #[t,t] ty #[v,.slice none 0 c]).run P w=.ok v' w'∧w'.ownsRow base e size v' (n+0) (xs ++ [])∧Fr (fun k=>v.ownBlock=some k) w w'∧(v'.ownBlock=v.ownBlock∨v'.ownBlock=some w.heap.size):=by
     intro ao cap hv hle
     refine ⟨v,w,?_,by rw [List.append_nil];exact hown,Fr.refl _ _,.inl rfl⟩
     rw [hv]
     exact run_append_nothing w t t ty e i ht hi1 ao n cap hle _ hs
   rcases hown.2 with ⟨hv,h0⟩|⟨g,cap,cur,hv,_,_,hle,_⟩
   · subst h0
     exact hfin none 0 hv (Nat.le_refl _)
   · exact hfin _ cap hv hle
 · obtain ⟨v',w',q1,q2,q3,_,q5⟩:=run_append_own_at (P:=P) w base t ty e i z size bytes ht hi1 hi2 hi3 hi4 hzs hsz v n xs hown ad m c news hl hr h1 (by unfold maxLen;omega) (by
     calc (n+m) * bytes≤100000000000 * 1000:=Nat.mul_le_mul hb hby
       _≤140737488355328:=by decide) hbase
   exact ⟨v',w',q1,q2,Fr.of_grown q3,q5⟩
theorem op_appG {o:Oper} {a:Act} {K:Act→World→Prop} {Q:Exit→Act→World→Prop} (t:TypeId) (s x:Operand)
   (ho:o.op=.call { callee:=.builtin .append,args:=#[s,x],argTypes:=#[t,t] })
   (e:TypeId) (z:Value) (size bytes:Nat) (ht:P.underlying t=some (.slice e)) (hi:(P.info? e).map (fun i=>(i.zero,i.size,i.bytes))=some (some z,size,bytes))
   (hzs:z.cells.size=size) (hsz:0 < size) (hby:bytes≤1000) (base:Nat) (v:Value) (n:Nat) (xs:List Value) (hs:a.eval s=v) (hown:w.ownsRow base e size v n xs)
   (xv:Value) (m:Nat) (news:List Value) (hx:a.eval x=xv) (hy:Yld w xv m news) (hl:news.length=m * size) (h1:∀ u∈news,u.oneCell'=true) (hb:n+m≤100000000000) (hbase:base≤w.heap.size)
   (h:∀ v' w',w'.ownsRow base e size v' (n+m) (xs ++ news)→Fr (fun k=>v.ownBlock=some k) w w'→(v'.ownBlock=v.ownBlock∨v'.ownBlock=some w.heap.size)→K (a.put o.dst v') w'):o.wp P a w K Q:=by
 obtain ⟨v',w',hr,h2,h3,h4⟩:=run_appG (P:=P) t o.type e z size bytes ht hi hzs hsz hby base v n xs hown xv m news hy hl h1 hb hbase
 unfold Oper.wp execOp
 simp only [ho,resolve,invoke,builtin,Sem.run_bind,Sem.run_pure,Result.andThen_ok,List.map_toArray,List.map_cons,List.map_nil,hs,hx,hr]
 exact h v' w' h2 h3 h4
theorem wl_appG {ops:Array Oper} {rest:List Oper} {o:Oper} {a:Act} {Q:Exit→Act→World→Prop} (t:TypeId) (hgd:o.guard=none) (s x:Operand)
   (ho:o.op=.call { callee:=.builtin .append,args:=#[s,x],argTypes:=#[t,t] })
   (e:TypeId) (z:Value) (size bytes:Nat) (ht:P.underlying t=some (.slice e)) (hi:(P.info? e).map (fun i=>(i.zero,i.size,i.bytes))=some (some z,size,bytes))
   (hzs:z.cells.size=size) (hsz:0 < size) (hby:bytes≤1000) (base:Nat) (v:Value) (n:Nat) (xs:List Value) (hs:a.eval s=v) (hown:w.ownsRow base e size v n xs)
   (xv:Value) (m:Nat) (news:List Value) (hx:a.eval x=xv) (hy:Yld w xv m news) (hl:news.length=m * size) (h1:∀ u∈news,u.oneCell'=true) (hb:n+m≤100000000000) (hbase:base≤w.heap.size)
   (h:∀ v' w',w'.ownsRow base e size v' (n+m) (xs ++ news)→Fr (fun k=>v.ownBlock=some k) w w'→(v'.ownBlock=v.ownBlock∨v'.ownBlock=some w.heap.size)→wpList P ops Q rest (a.put o.dst v') w'):wpList P ops Q (o :: rest) a w :=
 wpList_plain hgd fun _ hK=>op_appG t s x ho e z size bytes ht hi hzs hsz hby base v n xs hs hown xv m news hx hy hl h1 hb hbase fun v' w' h2 h3 h4=>hK _ _ (h v' w' h2 h3 h4)
theorem step_appG {ops:Array Oper} {o:Oper} {a:Act} {K:Act→World→Prop} {Q:Exit→Act→World→Prop} {E:Prop} (t:TypeId) (hgd:o.guard=none) (s x:Operand)
   (ho:o.op=.call { callee:=.builtin .append,args:=#[s,x],argTypes:=#[t,t] })
   (e:TypeId) (z:Value) (size bytes:Nat) (ht:P.underlying t=some (.slice e)) (hi:(P.info? e).map (fun i=>(i.zero,i.size,i.bytes))=some (some z,size,bytes))
   (hzs:z.cells.size=size) (hsz:0 < size) (hby:bytes≤1000) (base:Nat) (v:Value) (n:Nat) (xs:List Value) (hs:a.eval s=v) (hown:w.ownsRow base e size v n xs)
   (xv:Value) (m:Nat) (news:List Value) (hx:a.eval x=xv) (hy:Yld w xv m news) (hl:news.length=m * size) (h1:∀ u∈news,u.oneCell'=true) (hb:n+m≤100000000000) (hbase:base≤w.heap.size)
   (h:∀ v' w',w'.ownsRow base e size v' (n+m) (xs ++ news)→Fr (fun k=>v.ownBlock=some k) w w'→(v'.ownBlock=v.ownBlock∨v'.ownBlock=some w.heap.size)→K (a.put o.dst v') w') :
   if Region.wanted o (yielded ops a.tmps)=true then Oper.wp P o a w K Q else E:=by
 rw [if_pos (by simp [Region.wanted,hgd])]
 exact op_appG t s x ho e z size bytes ht hi hzs hsz hby base v n xs hs hown xv m news hx hy hl h1 hb hbase h
end
end Go.Hy
namespace Go.Hy
open Go Go.RowKit
section
variable {P:Program} {ops:Array Oper} {Q:Exit→Act→World→Prop} {md:Region.Mode} {S:World→Prop} {m:Nat}
def OrdS (P:Program) (md:Region.Mode) (ops:Array Oper) (Q:Exit→Act→World→Prop) (S:World→Prop) (m:Nat):Nat→Array Bool→Act→World→Prop
 | 0,l,a,w=>Region.ready md ops l = []∧Q .normal a w
 | n+1,l,a,w=>(Region.ready md ops l = []→Q .normal a w) ∧
   ∀ i∈Region.ready md ops l,wpOp P ops Q i (fun a' w'=>((l.setIfInBounds i true).getD m true=false→S w')∧OrdS P md ops Q S m n (l.setIfInBounds i true) a' w') a w
theorem OrdS.any:∀ (n:Nat) (l:Array Bool) (a:Act) (w:World),OrdS P md ops Q S m n l a w→wpAny P md ops Q n l a w
 | 0,_,_,_,h=>h
 | n+1,l,_,_,h=>⟨h.1,fun i hi=>wpOp_mono (fun a' w' z=>OrdS.any n (l.setIfInBounds i true) a' w' z.2) (h.2 i hi)⟩
def waits (md:Region.Mode) (ops:Array Oper) (m i:Nat):Bool:=((ops[m]?).map fun o=>o.after.toList.any fun e=>Region.binds md e && e.on == i).getD false
theorem OrdS.first {i:Nat} {o:Oper} {v:Value} (ho:ops[i]? = some o) (hsel:Region.noSelect ops=true) (hQ:∀ c a w,Q (.panic c) (a.put o.dst v) w→Q (.panic c) a w) (him:i≠m) (hw:waits md ops m i=true) :
   ∀ (n:Nat) (l:Array Bool),(∀ j oj,ops[j]? = some oj→j≠i→l.getD j true=false→(∀ e∈oj.after,Region.binds md e=true→e.on≠i)→o.apart ops oj=true)→i∈Region.ready md ops l→l.getD m true=false →
     ∀ (a:Act) (w:World),YieldsIf P ops S o v a→S w→OrdS P md ops Q S m n (l.setIfInBounds i true) (a.put o.dst v) w→OrdS P md ops Q S m (n+1) l a w
 | n,l,hap,hr,hlm,a,w,hy,hS,H=>by
   refine ⟨fun e=>absurd (e▸hr) (by simp),fun j hj => ?_⟩
   by_cases hji:j=i
   · subst hji
     exact hy.wpOp ho hS ⟨fun _=>hS,H⟩
   have hstay:j∈Region.ready md ops (l.setIfInBounds i true):=ready_mono hj hji
   have hwait:i∈Region.ready md ops (l.setIfInBounds j true):=ready_mono hr (fun e=>hji e.symm)
   match n,H with
   | 0,H=>exact absurd (H.1▸hstay) (by simp)
   | n+1,H =>
     obtain ⟨hun,oj,hoj,hall⟩:=mem_ready.1 hj
     have hno:∀ e∈oj.after,Region.binds md e=true→e.on≠i:=fun e he hb q=>by
       have h1:=hall e he hb
       have h0:=(mem_ready.1 hr).1
       rw [q] at h1
       by_cases hs:i < l.size
       · rw [Array.getD,dif_pos hs] at h0 h1
         rw [h0] at h1
         cases h1
       · rw [Array.getD,dif_neg hs] at h1
         cases h1
     have hjm:j≠m:=fun q=>by
       subst q
       unfold waits at hw
       rw [hoj] at hw
       simp only [Option.map_some,Option.getD_some,List.any_eq_true,Bool.and_eq_true,beq_iff_eq] at hw
       obtain ⟨e,he,h1,h2⟩:=hw
       exact hno e (by simpa using he) h1 h2
     have hlm':(l.setIfInBounds j true).getD m true=false:=by rw [getD_set_ne true hjm];exact hlm
     have hp:=wpOp_putIf hoj (hap j oj hoj hji hun hno) (fun cs b=>Region.noSelect_spec hsel i o cs b ho) (fun cs b=>Region.noSelect_spec hsel j oj cs b hoj) hQ hy (H.2 j hstay)
     refine wpOp_mono (fun a' w' z => ?_) hp
     obtain ⟨hy',hS',H'⟩:=z
     have sw:S w':=hS' (by rw [getD_set_ne true hjm,getD_set_ne true him];exact hlm)
     rw [Array.setIfInBounds_comm _ _ (fun e=>hji e.symm)] at H'
     refine ⟨fun _=>sw,OrdS.first ho hsel hQ him hw n _ (fun k ok hk hki hkn hkb => ?_) hwait hlm' a' w' hy' sw H'⟩
     refine hap k ok hk hki ?_ hkb
     by_cases hjk:j=k
     · subst hjk
       exact hun
     · rwa [getD_set_ne true hjk] at hkn
theorem OrdS.take {i:Nat} {o:Oper} {v:Value} {n:Nat} {l:Array Bool} {a:Act} {w:World} (ho:ops[i]? = some o) (hsel:Region.noSelect ops=true) (hf:Region.free md ops l i=true) (hr:(Region.ready md ops l).contains i=true) (hc:((i != m) && waits md ops m i && !(l.getD m true))=true)
   (hQ:∀ c a w,Q (.panic c) (a.put o.dst v) w→Q (.panic c) a w) (hy:YieldsIf P ops S o v a) (hS:S w) (h:OrdS P md ops Q S m n (l.setIfInBounds i true) (a.put o.dst v) w):OrdS P md ops Q S m (n+1) l a w:=by
 simp only [Bool.and_eq_true,bne_iff_ne,Bool.not_eq_true'] at hc
 exact OrdS.first ho hsel hQ hc.1.1 hc.1.2 n l (Region.free_spec ho hf) (by simpa using hr) hc.2 a w hy hS h
theorem OrdS.tq {i:Nat} {o:Oper} {v:Value} {n:Nat} {l:Array Bool} {a:Act} {w:World} (ho:ops[i]? = some o) (hc:(Region.noSelect ops && Region.free md ops l i && (Region.ready md ops l).contains i && ((i != m) && waits md ops m i && !(l.getD m true)))=true)
   (hQ:∀ c a w,Q (.panic c) (a.put o.dst v) w→Q (.panic c) a w) (hg:Region.wanted o (yielded ops a.tmps)=true) (hS:S w) (hy:∀ w,S w→(execOp a.eval o).run P w=.ok (.value v) w) (h:OrdS P md ops Q S m n (l.setIfInBounds i true) (a.put o.dst v) w):OrdS P md ops Q S m (n+1) l a w:=by
 simp only [Bool.and_eq_true] at hc
 exact OrdS.take ho hc.1.1.1 hc.1.1.2 hc.1.2 (by simp only [Bool.and_eq_true];exact hc.2) hQ (.inl ⟨hg,hy⟩) hS h
theorem lA {α:Type} (l:List α) (i:Nat) (x:α):l.toArray.setIfInBounds i x=(l.set i x).toArray:=List.setIfInBounds_toArray ..
theorem lZ {α:Type} (a x:α) (l:List α):(a :: l).set 0 x=x :: l:=rfl
theorem lS {α:Type} (a x:α) (l:List α) (n:Nat):(a :: l).set (n+1) x=a :: l.set n x:=rfl
theorem OrdS.one {i:Nat} {o:Oper} {n:Nat} {l:Array Bool} {a:Act} {w:World} (ho:ops[i]? = some o) (hr:Region.ready md ops l = [i])
   (h:∀ K:Act→World→Prop,Shut (∀ a w,((l.setIfInBounds i true).getD m true=false→S w)→OrdS P md ops Q S m n (l.setIfInBounds i true) a w→K a w)→if Region.wanted o (yielded ops a.tmps)=true then Oper.wp P o a w K Q else K (a.put o.dst undef) w):OrdS P md ops Q S m (n+1) l a w:=by
 refine ⟨(fun e=>by rw [hr] at e;cases e),fun j hj => ?_⟩
 rw [hr,List.mem_singleton] at hj
 subst hj
 exact wpOp_step ho fun K hK=>h K fun a w hS hO=>hK a w ⟨hS,hO⟩
theorem OrdS.done {n:Nat} {l:Array Bool} {a:Act} {w:World} (hr:Region.ready md ops l = []) (h:Q .normal a w):OrdS P md ops Q S m n l a w:=by
 cases n with
 | zero=>exact ⟨hr,h⟩
 | succ n=>exact ⟨fun _=>h,fun i hi=>by rw [hr] at hi;cases hi⟩
theorem OrdS.start {id:Nat} {a:Act} {w:World} (hm:P.follows .mixedOrders=true) (h:OrdS P .any ops Q S m ops.size (Array.replicate ops.size false) a w.drew):(Code.region id ops true).wp P Q a w :=
 wp_region_any hm (OrdS.any _ _ _ _ h)
end
end Go.Hy
