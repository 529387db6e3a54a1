/- append of a slice from wherever, of nothing too. Of no program. -/
import Derived.Test.YtbafaadmlpamiaaGreatDoorA1
import Derived.Deep.AppendLies
import Derived.Deep.Upon
namespace Go.Hy
open Go Go.RowKit
section
variable {P : Program} {w : World}
def Yld (w : World) (v : Value) (m : Nat) (news : List Value) : Prop :=
 (∃ c,v = .slice none 0 c ∧ m = 0 ∧ news = []) ∨ ∃ a c,v = .slice (some a) m c ∧ ∀ (j : Nat) (u : Value),news[j]? = some u → w.cell? (a.add j) = some u
theorem Yld.fr {w' : World} {v : Value} {m : Nat} {news : List Value} {S : Nat → Prop} (h : Yld w v m news) (f : Fr S w w') (hn : ∀ a n c,v = .slice (some a) n c → 0 < news.length → a.block < w.heap.size ∧ ¬ S a.block) : Yld w' v m news := by
 rcases h with h|⟨a,c,rfl,h⟩
 · exact .inl h
 · refine .inr ⟨a,c,rfl,fun j u hj => ?_⟩
   have hp : 0 < news.length := by
     have := (List.getElem?_eq_some_iff.1 hj).1
     omega
   obtain ⟨h1,h2⟩ := hn a m c rfl hp
   have hb : (a.add j).block = a.block := by unfold Addr.add;split <;> rfl
   rw [f.cell (p := a.add j) (by rw [hb];exact h1) (by rw [hb];exact h2)]
   exact h j u hj
theorem run_appG (t ty e : TypeId) (z : Value) (size bytes : Nat) (ht : P.underlying t = some (.slice e)) (hi : (P.info? e).map (fun i => (i.zero,i.size,i.bytes)) = some (some z,size,bytes))
   (hzs : z.cells.size = size) (hsz : 0 < size) (hby : bytes ≤ 1000) (base : Nat) (v : Value) (n : Nat) (xs : List Value) (hown : w.ownsRow base e size v n xs)
   (xv : Value) (m : Nat) (news : List Value) (hy : Yld w xv m news) (hl : news.length = m * size) (h1 : ∀ u ∈ news,u.oneCell' = true) (hb : n + m ≤ 100000000000) (hbase : base ≤ w.heap.size) :
   ∃ v' w',(Builtin.append_ #[t,t] ty #[v,xv]).run P w = .ok v' w' ∧ w'.ownsRow base e size v' (n + m) (xs ++ news) ∧ Fr (fun k => v.ownBlock = some k) w w' ∧ (v'.ownBlock = v.ownBlock ∨ v'.ownBlock = some w.heap.size) := by
 obtain ⟨i,hi1,hi2,hi3,hi4⟩ := info_parts hi
 rcases hy with ⟨c,rfl,rfl,rfl⟩|⟨ad,c,rfl,hr⟩
 · have hs := Src.ofNil (P := P) w (size := i.size) ht c
   have hfin : ∀ ao cap,v = .slice ao n cap → n ≤ cap → ∃ v' w',(Builtin.append_ #[t,t] ty #[v, .slice none 0 c]).run P w = .ok v' w' ∧ w'.ownsRow base e size v' (n + 0) (xs ++ []) ∧ Fr (fun k => v.ownBlock = some k) w w' ∧ (v'.ownBlock = v.ownBlock ∨ v'.ownBlock = some w.heap.size) := by
     intro ao cap hv hle
     refine ⟨v,w, ?_,by rw [List.append_nil];exact hown,Fr.refl _ _, .inl rfl⟩
     rw [hv]
     exact run_append_nothing w t t ty e i ht hi1 ao n cap hle _ hs
   rcases hown.2 with ⟨hv,h0⟩|⟨g,cap,cur,hv,_,_,hle,_⟩
   · subst h0
     exact hfin none 0 hv (Nat.le_refl _)
   · exact hfin _ cap hv hle
 · obtain ⟨v',w',q1,q2,q3,_,q5⟩ := run_append_own_at (P := P) w base t ty e i z size bytes ht hi1 hi2 hi3 hi4 hzs hsz v n xs hown ad m c news hl hr h1 (by unfold maxLen;omega) (by
     calc (n + m) * bytes ≤ 100000000000 * 1000 := Nat.mul_le_mul hb hby
       _ ≤ 140737488355328 := by decide) hbase
   exact ⟨v',w',q1,q2,Fr.of_grown q3,q5⟩
theorem op_appG {o : Oper} {a : Act} {K : Act → World → Prop} {Q : Exit → Act → World → Prop} (t : TypeId) (s x : Operand)
   (ho : o.op = .call { callee := .builtin .append,args := #[s,x],argTypes := #[t,t] })
   (e : TypeId) (z : Value) (size bytes : Nat) (ht : P.underlying t = some (.slice e)) (hi : (P.info? e).map (fun i => (i.zero,i.size,i.bytes)) = some (some z,size,bytes))
   (hzs : z.cells.size = size) (hsz : 0 < size) (hby : bytes ≤ 1000) (base : Nat) (v : Value) (n : Nat) (xs : List Value) (hs : a.eval s = v) (hown : w.ownsRow base e size v n xs)
   (xv : Value) (m : Nat) (news : List Value) (hx : a.eval x = xv) (hy : Yld w xv m news) (hl : news.length = m * size) (h1 : ∀ u ∈ news,u.oneCell' = true) (hb : n + m ≤ 100000000000) (hbase : base ≤ w.heap.size)
   (h : ∀ v' w',w'.ownsRow base e size v' (n + m) (xs ++ news) → Fr (fun k => v.ownBlock = some k) w w' → (v'.ownBlock = v.ownBlock ∨ v'.ownBlock = some w.heap.size) → K (a.put o.dst v') w') : o.wp P a w K Q := by
 obtain ⟨v',w',hr,h2,h3,h4⟩ := run_appG (P := P) t o.type e z size bytes ht hi hzs hsz hby base v n xs hown xv m news hy hl h1 hb hbase
 unfold Oper.wp execOp
 simp only [ho,resolve,invoke,builtin,Sem.run_bind,Sem.run_pure,Result.andThen_ok,List.map_toArray,List.map_cons,List.map_nil,hs,hx,hr]
 exact h v' w' h2 h3 h4
theorem wl_appG {ops : Array Oper} {rest : List Oper} {o : Oper} {a : Act} {Q : Exit → Act → World → Prop} (t : TypeId) (hgd : o.guard = none) (s x : Operand)
   (ho : o.op = .call { callee := .builtin .append,args := #[s,x],argTypes := #[t,t] })
   (e : TypeId) (z : Value) (size bytes : Nat) (ht : P.underlying t = some (.slice e)) (hi : (P.info? e).map (fun i => (i.zero,i.size,i.bytes)) = some (some z,size,bytes))
   (hzs : z.cells.size = size) (hsz : 0 < size) (hby : bytes ≤ 1000) (base : Nat) (v : Value) (n : Nat) (xs : List Value) (hs : a.eval s = v) (hown : w.ownsRow base e size v n xs)
   (xv : Value) (m : Nat) (news : List Value) (hx : a.eval x = xv) (hy : Yld w xv m news) (hl : news.length = m * size) (h1 : ∀ u ∈ news,u.oneCell' = true) (hb : n + m ≤ 100000000000) (hbase : base ≤ w.heap.size)
   (h : ∀ v' w',w'.ownsRow base e size v' (n + m) (xs ++ news) → Fr (fun k => v.ownBlock = some k) w w' → (v'.ownBlock = v.ownBlock ∨ v'.ownBlock = some w.heap.size) → wpList P ops Q rest (a.put o.dst v') w') : wpList P ops Q (o :: rest) a w :=
 wpList_plain hgd fun _ hK => op_appG t s x ho e z size bytes ht hi hzs hsz hby base v n xs hs hown xv m news hx hy hl h1 hb hbase fun v' w' h2 h3 h4 => hK _ _ (h v' w' h2 h3 h4)
theorem step_appG {ops : Array Oper} {o : Oper} {a : Act} {K : Act → World → Prop} {Q : Exit → Act → World → Prop} {E : Prop} (t : TypeId) (hgd : o.guard = none) (s x : Operand)
   (ho : o.op = .call { callee := .builtin .append,args := #[s,x],argTypes := #[t,t] })
   (e : TypeId) (z : Value) (size bytes : Nat) (ht : P.underlying t = some (.slice e)) (hi : (P.info? e).map (fun i => (i.zero,i.size,i.bytes)) = some (some z,size,bytes))
   (hzs : z.cells.size = size) (hsz : 0 < size) (hby : bytes ≤ 1000) (base : Nat) (v : Value) (n : Nat) (xs : List Value) (hs : a.eval s = v) (hown : w.ownsRow base e size v n xs)
   (xv : Value) (m : Nat) (news : List Value) (hx : a.eval x = xv) (hy : Yld w xv m news) (hl : news.length = m * size) (h1 : ∀ u ∈ news,u.oneCell' = true) (hb : n + m ≤ 100000000000) (hbase : base ≤ w.heap.size)
   (h : ∀ v' w',w'.ownsRow base e size v' (n + m) (xs ++ news) → Fr (fun k => v.ownBlock = some k) w w' → (v'.ownBlock = v.ownBlock ∨ v'.ownBlock = some w.heap.size) → K (a.put o.dst v') w') :
   if Region.wanted o (yielded ops a.tmps) = true then Oper.wp P o a w K Q else E := by
 rw [if_pos (by simp [Region.wanted,hgd])]
 exact op_appG t s x ho e z size bytes ht hi hzs hsz hby base v n xs hs hown xv m news hx hy hl h1 hb hbase h
end
end Go.Hy
