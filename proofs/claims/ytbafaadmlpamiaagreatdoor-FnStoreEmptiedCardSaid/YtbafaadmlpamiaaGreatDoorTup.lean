/- Maps whose keys are pairs of texts and whose values hold nothing. Of no program. -/
import Derived.Test.YtbafaadmlpamiaaGreatDoorA1
namespace Go.Hy
open Go
def tupV (p : ByteArray × ByteArray) : Value := .agg #[.string p.1, .string p.2]
def tupE (p : ByteArray × ByteArray) : Value × Value := (tupV p, .agg #[])
def TM (w : World) (b : Nat) (ks : List (ByteArray × ByteArray)) : Prop :=
 ∃ arr clock,w.heap[b]? = some (.map arr clock) ∧ arr.toList.map entOf = ks.map tupE
theorem TM.keep {w w' : World} {b : Nat} {ks : List (ByteArray × ByteArray)} (h : TM w b ks) (e : w'.heap[b]? = w.heap[b]?) : TM w' b ks := by
 obtain ⟨arr,clock,h1,h2⟩ := h
 exact ⟨arr,clock,e.trans h1,h2⟩
theorem TM.lt {w : World} {b : Nat} {ks : List (ByteArray × ByteArray)} (h : TM w b ks) : b < w.heap.size := by
 obtain ⟨arr,clock,h1,_⟩ := h
 exact (Array.getElem?_eq_some_iff.1 h1).1
theorem TM.fr {w w' : World} {S : Nat → Prop} {b : Nat} {ks : List (ByteArray × ByteArray)} (h : TM w b ks) (f : Fr S w w') (hn : ¬ S b) : TM w' b ks := h.keep (f.block b h.lt hn)
theorem TM.fresh (w : World) : TM (w.alloc (.map #[] 0)) w.heap.size [] := ⟨#[],0,(MapKept.heap_alloc w _).1,rfl⟩
theorem TM.ne_row {w : World} {b base size n : Nat} {e : TypeId} {v : Value} {xs : List Value} {ks : List (ByteArray × ByteArray)} (h : TM w b ks) (ho : w.ownsRow base e size v n xs) : v.ownBlock ≠ some b := by
 obtain ⟨arr,clock,h1,_⟩ := h
 intro q
 obtain ⟨_,h2|⟨g,cap,cur,h2,_,h3,_⟩⟩ := ho
 · rw [h2.1] at q;cases q
 · rw [h2] at q
   have e : g = b := Option.some.inj q
   rw [e,h1] at h3
   cases h3
structure KeyOk (P : Program) (K : TypeId) : Prop where
 desc : ∃ fs,P.underlying K = some (.struct fs)
 check : ∀ (e : Bool) (w : World) (p : ByteArray × ByteArray),(Instr.checkKey e 10000 K (tupV p)).run P w = .ok () w
 same : ∀ (w : World) (p q : ByteArray × ByteArray),(Op.equal K (tupV p) (tupV q)).run P w = .ok (decide (p = q)) w
section
variable {P : Program} {K : TypeId}
theorem ask_spec (h : KeyOk P K) (w : World) (k : ByteArray × ByteArray) : ∀ (l : List MapEntry) (ks : List (ByteArray × ByteArray)) (i : Nat),l.map entOf = ks.map tupE →
   ∃ r,(Instr.findAsking K (tupV k) l i).run P w = .ok r w ∧ (k ∈ ks → ∃ j,r = some (j, .agg #[])) ∧ (k ∉ ks → r = none)
 | [],[],i,_ => ⟨none,by simp [Instr.findAsking],by simp,by simp⟩
 | [],_ :: _,_,hl => by simp at hl
 | _ :: _,[],_,hl => by simp at hl
 | e :: l,p :: ks,i,hl => by
   simp only [List.map_cons,List.cons.injEq] at hl
   obtain ⟨h1,h2⟩ := hl
   obtain ⟨hk,hv⟩ := Prod.mk.inj h1
   by_cases hp : k = p
   · exact ⟨some (i,e.val),by simp [Instr.findAsking,hk,h.same,hp,Result.andThen],fun _ => ⟨i,by rw [hv]⟩,fun q => absurd (by simp [hp]) q⟩
   · obtain ⟨r,r1,r2,r3⟩ := ask_spec h w k l ks (i + 1) h2
     refine ⟨r,by simp [Instr.findAsking,hk,h.same,hp,Result.andThen,r1],fun q => r2 ?_,fun q => r3 fun z => q (List.mem_cons_of_mem _ z)⟩
     rcases List.mem_cons.1 q with z|z
     · exact absurd z hp
     · exact z
theorem tfind (h : KeyOk P K) (w : World) (k : ByteArray × ByteArray) (l : List MapEntry) (ks : List (ByteArray × ByteArray)) (hl : l.map entOf = ks.map tupE) :
   ∃ r,(Instr.findKey K (tupV k) l).run P w = .ok r w ∧ (k ∈ ks → ∃ j,r = some (j, .agg #[])) ∧ (k ∉ ks → r = none) := by
 obtain ⟨fs,hd⟩ := h.desc
 cases l with
 | nil =>
   cases ks with
   | nil => exact ⟨none,by simp [Instr.findKey,run_underlying hd,Result.andThen,Instr.findNow],by simp,by simp⟩
   | cons p ks => simp at hl
 | cons e l =>
   obtain ⟨r,r1,r2,r3⟩ := ask_spec h w k (e :: l) ks 0 hl
   exact ⟨r,by simp [Instr.findKey,run_underlying hd,Result.andThen,Instr.findNow,Instr.sameNow,r1],r2,r3⟩
variable {w : World} {b : Nat} {ks : List (ByteArray × ByteArray)} {T E : TypeId}
theorem TM.look (h : TM w b ks) (hO : KeyOk P K) (hT : P.underlying T = some (.map K E)) (hz : (zeroValue E).run P w = .ok (.agg #[]) w) (k : ByteArray × ByteArray) :
   ∃ r,(Instr.lookup T (.map (some b)) (tupV k) true).run P w = .ok (.tuple #[.agg #[], .bool r]) w ∧ (r = true → k ∈ ks) ∧ (r = false → k ∉ ks) := by
 obtain ⟨arr,clock,h1,h2⟩ := h
 obtain ⟨r,r1,r2,r3⟩ := tfind hO w k arr.toList ks h2
 by_cases hk : k ∈ ks
 · obtain ⟨j,rfl⟩ := r2 hk
   exact ⟨true,by simp [Instr.lookup,run_underlying hT,MapKept.run_getObj_map h1,hO.check,r1,Result.andThen],fun _ => hk,fun h => by cases h⟩
 · obtain rfl := r3 hk
   exact ⟨false,by simp [Instr.lookup,run_underlying hT,MapKept.run_getObj_map h1,hO.check,r1,Result.andThen,hz],(fun h => by cases h),fun _ => hk⟩
theorem TM.put (h : TM w b ks) (hO : KeyOk P K) (hT : P.underlying T = some (.map K E)) (k : ByteArray × ByteArray) (hk : k ∉ ks) :
   ∃ arr' c',(Instr.mapUpdate T (.map (some b)) (tupV k) (.agg #[])).run P w = .ok () (setM w b arr' c') ∧ TM (setM w b arr' c') b (ks ++ [k]) := by
 obtain ⟨arr,clock,h1,h2⟩ := h
 obtain ⟨r,r1,_,r3⟩ := tfind hO w k arr.toList ks h2
 obtain rfl := r3 hk
 have hb : b < w.heap.size := (Array.getElem?_eq_some_iff.1 h1).1
 refine ⟨arr.push { key := tupV k,val := .agg #[],born := clock },clock + 1, ?_, ?_⟩
 · simp [Instr.mapUpdate,run_underlying hT,MapKept.run_getObj_map h1,hO.check,r1,MapKept.run_setObj_map _ h1,Result.andThen,setM]
 · refine ⟨arr.push { key := tupV k,val := .agg #[],born := clock },clock + 1,by simp [setM,hb], ?_⟩
   simp [h2,entOf,tupE]
variable {ops : Array Oper} {rest : List Oper} {o : Oper} {a : Act} {Q : Exit → Act → World → Prop}
theorem wl_tlook2 (T K E : TypeId) (hT : P.underlying T = some (.map K E)) (hO : KeyOk P K) (hz : ∀ w,(zeroValue E).run P w = .ok (.agg #[]) w)
   (hg : o.guard = none) (m x : Operand) (hop : o.op = Op.lookup T m x true) (h : TM w b ks) (k : ByteArray × ByteArray)
   (hm : a.eval m = .map (some b)) (hx : a.eval x = tupV k)
   (hY : k ∈ ks → wpList P ops Q rest (a.put o.dst (.tuple #[.agg #[], .bool true])) w) (hN : k ∉ ks → wpList P ops Q rest (a.put o.dst (.tuple #[.agg #[], .bool false])) w) :
   wpList P ops Q (o :: rest) a w := by
 refine wpList_plain hg fun K' hK' => ?_
 obtain ⟨r,hrun,h1,h2⟩ := h.look hO hT (hz w) k
 unfold Oper.wp
 cases r with
 | true => simp [execOp,hop,hm,hx,hrun,Result.andThen];exact hK' _ _ (hY (h1 rfl))
 | false => simp [execOp,hop,hm,hx,hrun,Result.andThen];exact hK' _ _ (hN (h2 rfl))
theorem wl_tput (T K E : TypeId) (hT : P.underlying T = some (.map K E)) (hO : KeyOk P K)
   (hg : o.guard = none) (m x y : Operand) (hop : o.op = Op.mapUpdate T m x y) (h : TM w b ks) (k : ByteArray × ByteArray) (hk : k ∉ ks)
   (hm : a.eval m = .map (some b)) (hx : a.eval x = tupV k) (hy : a.eval y = .agg #[])
   (hY : ∀ arr c,TM (setM w b arr c) b (ks ++ [k]) → wpList P ops Q rest (a.put o.dst (.tuple #[])) (setM w b arr c)) :
   wpList P ops Q (o :: rest) a w := by
 refine wpList_plain hg fun K' hK' => ?_
 obtain ⟨arr,c,hrun,h1⟩ := h.put hO hT k hk
 unfold Oper.wp
 simp [execOp,hop,hm,hx,hy,hrun,Result.andThen]
 exact hK' _ _ (hY arr c h1)
end
end Go.Hy
