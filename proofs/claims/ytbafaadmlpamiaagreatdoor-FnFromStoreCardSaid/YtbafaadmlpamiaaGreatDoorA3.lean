import Derived.Test.YtbafaadmlpamiaaGreatDoorA2
import Derived.LaidEql
import Derived.Stop.Asserts
import Derived.RowKitTokens
set_option maxRecDepth 100000
set_option maxHeartbeats 1000000
namespace Go.Proofs.YtbafaadmlpamiaaGreatDoor
open Go Go.Hy Go.RowKit Go.Extern.Stop Go.Stop Go.Extern
theorem isTypeOf (v:Value) (w:World):(Extern.ReflectliteType.typeOf #[.iface 257 v]).run Tryz.prog w=.ok (.iface 202 (.agg #[.pointer (some ⟨9,257,none⟩)])) w:=by kernel_rfl
theorem callComparable (w:World):(callFunc 231 #[.agg #[.pointer (some ⟨9,257,none⟩)]]).run Tryz.prog w=.ok (.value (.bool true)) w:=by
 rw [@run_callFunc_extern Tryz.prog 231 _ (Extern.ReflectliteType.method fun t => do Extern.Rtype.noPackHeld "Comparable" t; pure (.bool (← typeInfo t).comparable)) Tryz.func231 (by kernel_rfl) (by kernel_rfl) (by kernel_rfl) (by kernel_rfl)]
 have h : (Extern.ReflectliteType.method (fun t => do Extern.Rtype.noPackHeld "Comparable" t; pure (.bool (← typeInfo t).comparable)) #[.agg #[.pointer (some ⟨9, 257, none⟩)]]).run Tryz.prog w = .ok (.bool true) w := by kernel_rfl
 rw [h]
 rfl
theorem isMethodComparable (v : Value) (w : World) : (Go.method 419 202 v "Comparable").run Tryz.prog w = .ok (231, v) w := by kernel_rfl
theorem isComp:(Tryz.prog.info? 257).map (·.comparable)=some true:=by kernel_rfl
theorem isSize:(Tryz.prog.info? 309).map (·.size)=some 1:=by kernel_rfl
theorem noIsE (v:Value) (xT:TypeId) (w:World):(Instr.typeAssert (.iface 257 v) xT 204 true).run Tryz.prog w=.ok (.tuple #[.nilIface,.bool false]) w:=run_typeAssert_lacksB Tryz.underlying204 (by kernel_rfl) (by kernel_rfl) v xT w
theorem noUnwrapE (v:Value) (xT:TypeId) (w:World):(Instr.typeAssert (.iface 257 v) xT 207 true).run Tryz.prog w=.ok (.tuple #[.nilIface,.bool false]) w:=run_typeAssert_lacksB Tryz.underlying207 (by kernel_rfl) (by kernel_rfl) v xT w
theorem noUnwrapsE (v:Value) (xT:TypeId) (w:World):(Instr.typeAssert (.iface 257 v) xT 209 true).run Tryz.prog w=.ok (.tuple #[.nilIface,.bool false]) w:=run_typeAssert_lacksB Tryz.underlying209 (by kernel_rfl) (by kernel_rfl) v xT w
theorem noIsW (v:Value) (xT:TypeId) (w:World):(Instr.typeAssert (.iface 286 v) xT 204 true).run Tryz.prog w=.ok (.tuple #[.nilIface,.bool false]) w:=run_typeAssert_lacksB Tryz.underlying204 (by kernel_rfl) (by kernel_rfl) v xT w
theorem hasUnwrapW (v:Value) (xT:TypeId) (w:World):(Instr.typeAssert (.iface 286 v) xT 207 true).run Tryz.prog w=.ok (.tuple #[.iface 286 v,.bool true]) w:=run_typeAssert_hasB Tryz.underlying207 (by kernel_rfl) v xT w
theorem methodUnwrap (v : Value) (w : World) : (Go.method 419 286 v "Unwrap").run Tryz.prog w = .ok (243, v) w := by kernel_rfl
abbrev er (b:Addr):Value:=.iface 257 (.pointer (some b))
abbrev wr1 (b:Addr):Value:=.iface 286 (.agg #[er b])
theorem is_same (b:Addr) (w:World):Calls Tryz.prog 89 #[er b,er b] w fun e w'=>e=.returned (.bool true)∧Fr0 w w':=by
 obtain ⟨i,hi,hcmp⟩:=Option.map_eq_some_iff.1 isComp
 obtain ⟨j,hj,hjs⟩:=Option.map_eq_some_iff.1 isSize
 have h8:=@run_callFunc_extern Tryz.prog 97 _ Extern.ReflectliteType.typeOf Tryz.func97 (by kernel_rfl) (by kernel_rfl) (by kernel_rfl) (by kernel_rfl)
 have h32:=callComparable
 have tT:=isTypeOf
 have mR:=isMethodComparable
 have heq:=run_eql_iface_ptr_same (P:=Tryz.prog) w b Tryz.underlying107 Tryz.underlying257 hi hcmp hj
 go_enter Tryz.func89,Tryz.ntmps89
 go_wp2
 refine wp_loop_rounds 1 ?_
 rw [rounds_succ]
 go_wp2
 go_ret
 exact ⟨rfl,Fr.refl _ _⟩
theorem is_nil (b:Addr) (w:World):Calls Tryz.prog 89 #[.nilIface,er b] w fun e w'=>e=.returned (.bool false)∧Fr0 w w':=by
 have hn:=run_eql_iface_nil_left (P:=Tryz.prog) w 257 (.pointer (some b)) Tryz.underlying107
 go_enter Tryz.func89,Tryz.ntmps89
 go_wp2
 go_ret
 exact ⟨rfl,Fr.refl _ _⟩
theorem is_other (a b:Addr) (ca cb:Array Value) (ta tb:TypeId) (w:World) (hne:a≠b) (ha:w.heap[a.block]? = some (.cells ca ta (0,0))) (hb:w.heap[b.block]? = some (.cells cb tb (0,0))):Calls Tryz.prog 89 #[er a,er b] w fun e w'=>e=.returned (.bool false)∧Fr0 w w':=by
 obtain ⟨i,hi,hcmp⟩:=Option.map_eq_some_iff.1 isComp
 obtain ⟨j,hj,hjs⟩:=Option.map_eq_some_iff.1 isSize
 have h8:=@run_callFunc_extern Tryz.prog 97 _ Extern.ReflectliteType.typeOf Tryz.func97 (by kernel_rfl) (by kernel_rfl) (by kernel_rfl) (by kernel_rfl)
 have h32:=callComparable
 have tT:=isTypeOf
 have mR:=isMethodComparable
 have nE:=noIsE
 have uE:=noUnwrapE
 have vE:=noUnwrapsE
 have nW:=noIsW
 have uW:=hasUnwrapW
 have mU:=methodUnwrap
 have heq:=run_eql_iface_ptr_other (P:=Tryz.prog) w (a:=a) (b:=b) Tryz.underlying107 Tryz.underlying257 hi hcmp hj (by rw [hjs];decide) hne ha hb
 go_enter Tryz.func89,Tryz.ntmps89
 go_wp2
 refine wp_loop_rounds 1 ?_
 rw [rounds_succ]
 go_wp2
 go_ret
 exact ⟨rfl,Fr.refl _ _⟩
theorem is_wrap_same (b:Addr) (w:World):Calls Tryz.prog 89 #[wr1 b,er b] w fun e w'=>e=.returned (.bool true)∧Fr0 w w':=by
 obtain ⟨i,hi,hcmp⟩:=Option.map_eq_some_iff.1 isComp
 obtain ⟨j,hj,hjs⟩:=Option.map_eq_some_iff.1 isSize
 have h8:=@run_callFunc_extern Tryz.prog 97 _ Extern.ReflectliteType.typeOf Tryz.func97 (by kernel_rfl) (by kernel_rfl) (by kernel_rfl) (by kernel_rfl)
 have h32:=callComparable
 have tT:=isTypeOf
 have mR:=isMethodComparable
 have nE:=noIsE
 have uE:=noUnwrapE
 have vE:=noUnwrapsE
 have nW:=noIsW
 have uW:=hasUnwrapW
 have mU:=methodUnwrap
 have heq:=fun w=>run_eql_iface_ptr_same (P:=Tryz.prog) w b Tryz.underlying107 Tryz.underlying257 hi hcmp hj
 have hty:=run_eql_iface_types (P:=Tryz.prog) 286 257 (.agg #[er b]) (.pointer (some b)) Tryz.underlying107 (by decide)
 go_enter Tryz.func89,Tryz.ntmps89
 go_wp2
 refine wp_loop_rounds 2 ?_
 rw [rounds_succ]
 go_wp2
 rw [rounds_succ]
 go_wp2
 go_ret
 exact ⟨rfl,(Fr.refl _ _).alloc _⟩
theorem is_wrap_other (a b:Addr) (ca cb:Array Value) (ta tb:TypeId) (w:World) (hne:a≠b) (ha:w.heap[a.block]? = some (.cells ca ta (0,0))) (hb:w.heap[b.block]? = some (.cells cb tb (0,0))):Calls Tryz.prog 89 #[wr1 a,er b] w fun e w'=>e=.returned (.bool false)∧Fr0 w w':=by
 obtain ⟨i,hi,hcmp⟩:=Option.map_eq_some_iff.1 isComp
 obtain ⟨j,hj,hjs⟩:=Option.map_eq_some_iff.1 isSize
 have h8:=@run_callFunc_extern Tryz.prog 97 _ Extern.ReflectliteType.typeOf Tryz.func97 (by kernel_rfl) (by kernel_rfl) (by kernel_rfl) (by kernel_rfl)
 have h32:=callComparable
 have tT:=isTypeOf
 have mR:=isMethodComparable
 have nE:=noIsE
 have uE:=noUnwrapE
 have vE:=noUnwrapsE
 have nW:=noIsW
 have uW:=hasUnwrapW
 have mU:=methodUnwrap
 have heq:=fun ob=>run_eql_iface_ptr_other (P:=Tryz.prog) (w.alloc ob) (a:=a) (b:=b) Tryz.underlying107 Tryz.underlying257 hi hcmp hj (by rw [hjs];decide) hne ((Fr.alloc (Fr.refl (fun _=>False) w) ob).obj ha (fun q=>q)) ((Fr.alloc (Fr.refl (fun _=>False) w) ob).obj hb (fun q=>q))
 have hty:=run_eql_iface_types (P:=Tryz.prog) 286 257 (.agg #[er a]) (.pointer (some b)) Tryz.underlying107 (by decide)
 go_enter Tryz.func89,Tryz.ntmps89
 go_wp2
 refine wp_loop_rounds 2 ?_
 rw [rounds_succ]
 go_wp2
 rw [rounds_succ]
 go_wp2
 go_ret
 exact ⟨rfl,(Fr.refl _ _).alloc _⟩
end Go.Proofs.YtbafaadmlpamiaaGreatDoor
namespace Go.Proofs.YtbafaadmlpamiaaGreatDoor
open Go Go.Hy Go.RowKit
structure ErrsOk (w:World) (B:Nat) (eb:Nat→Addr):Prop where
 cell:∀ i,i < 6→w.cell? ⟨i,0,none⟩=some (er (eb i))
 obj:∀ i,i < 6→∃ cs t,w.heap[(eb i).block]? = some (.cells cs t (0,0))
 inj:∀ i j,i < 6→j < 6→eb i=eb j→i=j
 lt:∀ i,i < 6→(eb i).block < B
 six:6≤B
 size:B≤w.heap.size
theorem ErrsOk.fr {w w':World} {B:Nat} {eb:Nat→Addr} {S:Nat→Prop} (h:ErrsOk w B eb) (f:Fr S w w') (hS:∀ k,S k→B≤k):ErrsOk w' B eb where
 cell:=fun i hi=>by
   have h1:=h.size
   have h2:=h.six
   rw [f.cell (p:=⟨i,0,none⟩) (by simp only;omega) (fun q=>by have:=hS _ q;simp only at this;omega)]
   exact h.cell i hi
 obj:=fun i hi=>by
   obtain ⟨cs,t,ho⟩:=h.obj i hi
   exact ⟨cs,t,f.obj ho fun q=>by have:=hS _ q;have:=h.lt i hi;omega⟩
 inj:=h.inj
 lt:=h.lt
 six:=h.six
 size:=Nat.le_trans h.size f.size
inductive EV
 | nil
 | e (i:Nat)
 | w (i:Nat)
def EV.val (eb:Nat→Addr):EV→Value
 | .nil=>.nilIface
 | .e i=>er (eb i)
 | .w i=>wr1 (eb i)
def EV.has:EV→Nat→Bool
 | .nil,_=>false
 | .e i,j=>i == j
 | .w i,j=>i == j
def EV.ok:EV→Prop
 | .nil=>True
 | .e i=>i < 6
 | .w i=>i < 6
def EV.code:EV→Int
 | .nil=>0
 | .e i=>i+1
 | .w i=>i+1
theorem is_ev {w:World} {B:Nat} {eb:Nat→Addr} (h:ErrsOk w B eb) (e:EV) (he:e.ok) (j:Nat) (hj:j < 6) :
   Calls Tryz.prog 89 #[e.val eb,er (eb j)] w fun r w'=>r=.returned (.bool (e.has j))∧Fr0 w w':=by
 obtain ⟨cb,tb,hb⟩:=h.obj j hj
 cases e with
 | nil=>exact is_nil (eb j) w
 | e i =>
   obtain ⟨ca,ta,ha⟩:=h.obj i he
   by_cases hij:i=j
   · subst hij
     have:(EV.e i).has i=true:=by simp [EV.has]
     rw [this]
     exact is_same (eb i) w
   · have:(EV.e i).has j=false:=by simp [EV.has,hij]
     rw [this]
     exact is_other (eb i) (eb j) ca cb ta tb w (fun q=>hij (h.inj i j he hj q)) ha hb
 | w i =>
   obtain ⟨ca,ta,ha⟩:=h.obj i he
   by_cases hij:i=j
   · subst hij
     have:(EV.w i).has i=true:=by simp [EV.has]
     rw [this]
     exact is_wrap_same (eb i) w
   · have:(EV.w i).has j=false:=by simp [EV.has,hij]
     rw [this]
     exact is_wrap_other (eb i) (eb j) ca cb ta tb w (fun q=>hij (h.inj i j he hj q)) ha hb
theorem errorof_nil (w:World):Calls Tryz.prog 68 #[.nilIface] w fun r w'=>r=.returned (.int .u8 0)∧Fr0 w w':=by
 go_enter Tryz.func68,Tryz.ntmps68
 go_wp2
 go_ret
 exact ⟨rfl,Fr.refl _ _⟩
theorem errorof_any (w:World) (B:Nat) (eb:Nat→Addr) (h:ErrsOk w B eb) (e:EV) (he:e.ok) (t:Nat) (p:Value) (hv:e.val eb=.iface t p) (i:Nat) (hi:i < 6) (hb:∀ j,e.has j=(i == j)) :
   Calls Tryz.prog 68 #[.iface t p] w fun r w'=>r=.returned (.int .u8 (i+1))∧Fr0 w w':=by
 have hI:=Lib.hid (show ∀ j,j < 6→∀ w',Fr0 w w'→Calls Tryz.prog 89 #[.iface t p,er (eb j)] w' fun r w2=>r=.returned (.bool (i == j))∧Hid (Fr0 w w2) ∧
     (w2.cell? ⟨1,0,none⟩=some (er (eb 1))∧w2.cell? ⟨2,0,none⟩=some (er (eb 2))∧w2.cell? ⟨3,0,none⟩=some (er (eb 3))∧w2.cell? ⟨4,0,none⟩=some (er (eb 4))∧w2.cell? ⟨5,0,none⟩=some (er (eb 5)))∧6≤w2.heap.size from fun j hj w' f=>by
   have h1:=h.fr f (fun _ q=>q.elim)
   have:=is_ev h1 e he j hj
   rw [hv,hb] at this
   refine this.mono ?_
   rintro r w2 ⟨e1,f1⟩
   have h2:=h1.fr f1 (fun _ q=>q.elim)
   exact ⟨e1,Lib.hid (f.trans0 f1),⟨h2.cell 1 (by decide),h2.cell 2 (by decide),h2.cell 3 (by decide),h2.cell 4 (by decide),h2.cell 5 (by decide)⟩,Nat.le_trans h2.six h2.size⟩)
 have n0:=h.cell 0 (by decide)
 have s6:6≤w.heap.size:=Nat.le_trans h.six h.size
 have f0:Hid (Fr0 w w):=Lib.hid (Fr.refl _ _)
 clear hv hb he h
 have hi':i=0∨i=1∨i=2∨i=3∨i=4∨i=5:=by omega
 rcases hi' with rfl|rfl|rfl|rfl|rfl|rfl
 all_goals
   go_enter Tryz.func68,Tryz.ntmps68
   go_wp2_with (first
     | (go_at_call 89;refine (hI.out _ (by decide) _ (Hid.out (by assumption))).mono ?_;clear f0;rintro r w1 ⟨rfl,f0,⟨n1,n2,n3,n4,n5⟩,m6⟩))
   go_ret
   exact ⟨rfl,f0.out⟩
theorem errorof (w:World) (B:Nat) (eb:Nat→Addr) (h:ErrsOk w B eb) (e:EV) (he:e.ok) :
   Calls Tryz.prog 68 #[e.val eb] w fun r w'=>r=.returned (.int .u8 e.code)∧Fr0 w w':=by
 cases e with
 | nil=>exact errorof_nil w
 | e i=>exact errorof_any w B eb h (.e i) he _ _ rfl i he fun j=>rfl
 | w i=>exact errorof_any w B eb h (.w i) he _ _ rfl i he fun j=>rfl
structure Pt where
 h:ByteArray
 v:ByteArray
 wt:Int
 at_:Nat
 es:List (ByteArray × ByteArray)
structure Lk where
 a:ByteArray
 b:ByteArray
 wt:Int
 at_:Nat
 es:List (ByteArray × ByteArray)
def ats (es:List (ByteArray × ByteArray)):Ents:=es.map fun p=>(p.1,.string p.2)
def Lk.hit (dir:Bool) (l:Lk) (x y:ByteArray):Bool:=decide (l.a=x∧l.b=y) || (!dir && decide (l.a=y∧l.b=x))
def findL (dir:Bool) (lks:List Lk) (x y:ByteArray):Option Lk:=lks.find? fun l=>l.hit dir x y
def findP (pts:List Pt) (h:ByteArray):Option Pt:=pts.find? fun p=>decide (p.h=h)
structure GS where
 gB:Nat
 tB:Nat
 sB:Nat
 kB:Nat
 hk:Nat
 dir:Bool
 ac:Bool
 we:Bool
 ro:Bool
 pr:Bool
 c:St1
 pts:List Pt
 lks:List Lk
def GS.fv (G:GS):Value:=.func (Fn.func 62) #[] #[.pointer (some ⟨G.kB,0,none⟩)]
def GS.own (G:GS):List Nat:=G.gB :: G.tB :: G.sB :: (G.c.own ++ (G.pts.map (·.at_) ++ G.lks.map (·.at_)))
def KC (cs:Array Value):Prop:=∃ (b0 b1 b2 b3 b4 b5:Bool) (h:Nat),cs=#[.bool b0,.bool b1,.bool b2,.bool b3,.bool b4,.bool b5,.int .u8 h]
structure GRep (w:World) (G:GS):Prop where
 g:Cells w G.gB #[G.fv,.pointer (some ⟨G.tB,0,none⟩),.iface 178 (.pointer (some ⟨G.sB,0,none⟩))] (if G.dir then 161 else 163)
 t:Cells w G.tB #[.bool G.dir,.bool G.ac,.bool G.we,.bool G.ro,.bool G.pr] 104
 s:SRep w G.sB G.c
 k:∃ cs,Cells w G.kB cs 37∧KC cs∧cs[6]? = some (.int .u8 G.hk)
 vs:G.c.vs=G.pts.map fun p=>(p.h,.string p.v)
 ps:G.c.ps=G.pts.map fun p=>(p.h,pv p.at_ p.wt)
 out:∀ x y,edgeAt G.c.outs G.c.inn x y=(findL G.dir G.lks x y).map fun l=>ev x y l.at_ l.wt
 inn:∀ x y,edgeAt G.c.inns G.c.inn y x=(findL G.dir G.lks x y).map fun l=>ev x y l.at_ l.wt
 pa:∀ p∈G.pts,SM w p.at_ (ats p.es)
 la:∀ l∈G.lks,SM w l.at_ (ats l.es)
 ends:∀ l∈G.lks,(∃ p∈G.pts,p.h=l.a)∧∃ p∈G.pts,p.h=l.b
 loop:G.dir=false→∀ l∈G.lks,l.a≠l.b
 lnd:G.lks.Pairwise fun l m=>m.hit G.dir l.a l.b=false
 nd:G.own.Nodup
 kn:G.kB∉G.own
theorem mVertex (v : Value) (w : World) : (Go.method 419 178 v "Vertex").run Tryz.prog w = .ok (225, v) w := by kernel_rfl
theorem mEdge (v : Value) (w : World) : (Go.method 419 178 v "Edge").run Tryz.prog w = .ok (219, v) w := by kernel_rfl
theorem mAddVertex (v : Value) (w : World) : (Go.method 419 178 v "AddVertex").run Tryz.prog w = .ok (217, v) w := by kernel_rfl
theorem mAddEdge (v : Value) (w : World) : (Go.method 419 178 v "AddEdge").run Tryz.prog w = .ok (216, v) w := by kernel_rfl
theorem mUpdateEdge (v : Value) (w : World) : (Go.method 419 178 v "UpdateEdge").run Tryz.prog w = .ok (224, v) w := by kernel_rfl
theorem mRemoveEdge (v : Value) (w : World) : (Go.method 419 178 v "RemoveEdge").run Tryz.prog w = .ok (222, v) w := by kernel_rfl
theorem mRemoveVertex (v : Value) (w : World) : (Go.method 419 178 v "RemoveVertex").run Tryz.prog w = .ok (223, v) w := by kernel_rfl
theorem mListVertices (v : Value) (w : World) : (Go.method 419 178 v "ListVertices").run Tryz.prog w = .ok (221, v) w := by kernel_rfl
theorem mListEdges (v : Value) (w : World) : (Go.method 419 178 v "ListEdges").run Tryz.prog w = .ok (220, v) w := by kernel_rfl
theorem mVertexCount (v : Value) (w : World) : (Go.method 419 178 v "VertexCount").run Tryz.prog w = .ok (226, v) w := by kernel_rfl
theorem GRep.lt {w:World} {G:GS} (h:GRep w G):∀ b∈G.own,b < w.heap.size:=by
 intro b hb
 simp only [GS.own,List.mem_cons,List.mem_append,List.mem_map] at hb
 rcases hb with rfl|rfl|rfl|hb|⟨p,hp,rfl⟩|⟨l,hl,rfl⟩
 · exact h.g.lt
 · exact h.t.lt
 · exact h.s.st.lt
 · exact h.s.lt b hb
 · exact (h.pa p hp).lt
 · exact (h.la l hl).lt
theorem GRep.fr {w w':World} {G:GS} {S:Nat→Prop} (h:GRep w G) (f:Fr S w w') (hn:∀ b∈G.own,¬ S b) (hk:¬ S G.kB):GRep w' G:=by
 have m:∀ b,b=G.gB∨b=G.tB∨b=G.sB∨b∈G.c.own∨(∃ p∈G.pts,p.at_=b)∨(∃ l∈G.lks,l.at_=b)→¬ S b:=fun b hb=>hn b (by simpa only [GS.own,List.mem_cons,List.mem_append,List.mem_map] using hb)
 exact ⟨h.g.fr f (m _ (.inl rfl)),h.t.fr f (m _ (.inr (.inl rfl))),h.s.fr f (m _ (.inr (.inr (.inl rfl)))) (fun b hb=>m _ (.inr (.inr (.inr (.inl hb))))),h.k.imp fun _ q=>⟨q.1.fr f hk,q.2⟩,h.vs,h.ps,h.out,h.inn,
   fun p hp=>(h.pa p hp).fr f (m _ (.inr (.inr (.inr (.inr (.inl ⟨p,hp,rfl⟩)))))),fun l hl=>(h.la l hl).fr f (m _ (.inr (.inr (.inr (.inr (.inr ⟨l,hl,rfl⟩)))))),h.ends,h.loop,h.lnd,h.nd,h.kn⟩
def GS.val (G:GS):Value:=.iface (if G.dir then 162 else 164) (.pointer (some ⟨G.gB,0,none⟩))
theorem GRep.facts {w:World} {G:GS} (h:GRep w G) :
   (w.cell? ⟨G.gB,0,none⟩=some (.func (Fn.func 62) #[] #[.pointer (some ⟨G.kB,0,none⟩)])∧w.cell? ⟨G.gB,1,none⟩=some (.pointer (some ⟨G.tB,0,none⟩))∧w.cell? ⟨G.gB,2,none⟩=some (.iface 178 (.pointer (some ⟨G.sB,0,none⟩)))) ∧
   (w.cell? ⟨G.tB,0,none⟩=some (.bool G.dir)∧w.cell? ⟨G.tB,1,none⟩=some (.bool G.ac)∧w.cell? ⟨G.tB,2,none⟩=some (.bool G.we)∧w.cell? ⟨G.tB,3,none⟩=some (.bool G.ro)∧w.cell? ⟨G.tB,4,none⟩=some (.bool G.pr)) ∧
   G.gB < w.heap.size∧G.tB < w.heap.size∧G.sB < w.heap.size :=
 ⟨⟨h.g.cell 0 _ rfl,h.g.cell 1 _ rfl,h.g.cell 2 _ rfl⟩,⟨h.t.cell 0 _ rfl,h.t.cell 1 _ rfl,h.t.cell 2 _ rfl,h.t.cell 3 _ rfl,h.t.cell 4 _ rfl⟩,h.g.lt,h.t.lt,h.s.st.lt⟩
theorem dorder (w:World) (G:GS) (h:GRep w G) :
   Calls Tryz.prog 181 #[.pointer (some ⟨G.gB,0,none⟩)] w fun e w'=>e=.returned (.tuple #[.int .i64 G.pts.length,.nilIface])∧w=w':=by
 obtain ⟨⟨g0,g1,g2⟩,_,l0,l1,l2⟩:=h.facts
 have hV:=mVertexCount
 have HL:=h.vs
 have HC:=Lib.hid (vcount w G.sB G.c h.s)
 rw [HL] at HC
 simp only [List.length_map] at HC
 clear h HL
 go_enter Tryz.func181,Tryz.ntmps181
 go_wp2_with (first
   | (go_at_call 226;refine HC.out.mono ?_;rintro e w1 ⟨rfl,rfl⟩))
 go_ret2
 exact ⟨rfl,rfl⟩
def putA:List (ByteArray × ByteArray)→ByteArray→ByteArray→List (ByteArray × ByteArray)
 | [],k,v => [(k,v)]
 | p :: es,k,v=>if p.1=k then (k,v) :: es else p :: putA es k v
theorem ats_put (es:List (ByteArray × ByteArray)) (k v:ByteArray):ats (putA es k v)=putS (ats es) k (.string v):=by
 induction es with
 | nil=>rfl
 | cons p es ih =>
   unfold ats at ih ⊢
   by_cases h:p.1=k
   · simp [putA,putS,h]
   · simp [putA,putS,h,ih]
theorem cells_set {w:World} {b:Nat} {cs:Array Value} {t:TypeId} (h:Cells w b cs t) (i:Nat) (v:Value):Cells (w.setCell ⟨b,i,none⟩ v) b (cs.setIfInBounds i v) t:=by
 unfold Cells at *
 simp only [World.setCell,Array.getElem?_modify,h,Option.map_some,if_pos]
 rfl
theorem ew (w:World) (n:Int):Calls Tryz.prog 64 #[.int .i64 n] w fun e w'=>e=.returned (.func (Fn.func 85) #[] #[.pointer (some ⟨w.heap.size,0,none⟩)])∧w'=w.alloc (.cells #[.int .i64 n] 3):=by
 go_enter Tryz.func64,Tryz.ntmps64
 go_wp2
 go_ret
 exact ⟨rfl,rfl⟩
theorem ea (w:World) (n v:ByteArray):Calls Tryz.prog 66 #[.string n,.string v] w fun e w'=>e=.returned (.func (Fn.func 87) #[] #[.pointer (some ⟨w.heap.size+1,0,none⟩),.pointer (some ⟨w.heap.size,0,none⟩)]) ∧
   w'=(w.alloc (.cells #[.string n] 9)).alloc (.cells #[.string v] 9):=by
 go_enter Tryz.func66,Tryz.ntmps66
 go_wp2
 go_ret
 exact ⟨rfl,rfl⟩
theorem ew1 (w:World) (pb mb:Nat) (x y:ByteArray) (wt n:Int) (kb:Nat) (h:Cells w pb #[.string x,.string y,.map (some mb),.int .i64 wt,.nilIface] 144) (hk:w.cell? ⟨kb,0,none⟩=some (.int .i64 n)) :
   Calls Tryz.prog 85 #[.pointer (some ⟨pb,2,none⟩),.pointer (some ⟨kb,0,none⟩)] w fun e w'=>e=.returned (.tuple #[])∧Cells w' pb #[.string x,.string y,.map (some mb),.int .i64 n,.nilIface] 144∧Fr (· = pb) w w':=by
 have lp:=h.lt
 have hfz:=h.free 3
 have hc:=h.cell 3 _ rfl
 have H:=Lib.hid h
 clear h
 go_enter Tryz.func85,Tryz.ntmps85
 go_wp2
 go_end0
 exact ⟨rfl,by have:=cells_set H.out 3 (.int .i64 n);simpa using this,(Fr.refl (· = pb) w).setCell (.inl rfl) _⟩
theorem ea1 (w:World) (pb mb:Nat) (x y:ByteArray) (wt:Int) (es:List (ByteArray × ByteArray)) (k v:ByteArray) (bv bk:Nat) (h:Cells w pb #[.string x,.string y,.map (some mb),.int .i64 wt,.nilIface] 144) (hm:SM w mb (ats es)) (hv:w.cell? ⟨bv,0,none⟩=some (.string v)) (hk:w.cell? ⟨bk,0,none⟩=some (.string k)) :
   Calls Tryz.prog 87 #[.pointer (some ⟨pb,2,none⟩),.pointer (some ⟨bv,0,none⟩),.pointer (some ⟨bk,0,none⟩)] w fun e w'=>e=.returned (.tuple #[])∧SM w' mb (ats (putA es k v))∧Fr (· = mb) w w':=by
 have lp:=h.lt
 have hc:=h.cell 2 _ rfl
 have H:=Lib.hid h
 have HM:=Lib.hid hm
 clear h hm
 go_enter Tryz.func87,Tryz.ntmps87
 go_wp2_with fail
 (refine region_tail 6 (by kernel_rfl) (by kernel_rfl) ?_;simp only [List.take_succ_cons,List.take_zero,List.drop_succ_cons,List.drop_zero];(repeat still_step);refine wpStill_nil ?_)
 refine wl_put 135 9 9 Tryz.underlying135 Tryz.underlying9 rfl (.tmp 7) (.tmp 8) (.tmp 9) rfl HM.out.drew k (.string v) rfl rfl rfl ?_
 intro arr1 k1 hm1
 go_wp2
 go_end0
 exact ⟨rfl,by rw [ats_put];exact hm1,((Fr.refl (· = mb) w).drew).setM (.inl rfl) _ _⟩
theorem vw (w:World) (n:Int):Calls Tryz.prog 65 #[.int .i64 n] w fun e w'=>e=.returned (.func (Fn.func 86) #[] #[.pointer (some ⟨w.heap.size,0,none⟩)])∧w'=w.alloc (.cells #[.int .i64 n] 3):=by
 go_enter Tryz.func65,Tryz.ntmps65
 go_wp2
 go_ret
 exact ⟨rfl,rfl⟩
theorem va (w:World) (n v:ByteArray):Calls Tryz.prog 67 #[.string n,.string v] w fun e w'=>e=.returned (.func (Fn.func 88) #[] #[.pointer (some ⟨w.heap.size+1,0,none⟩),.pointer (some ⟨w.heap.size,0,none⟩)]) ∧
   w'=(w.alloc (.cells #[.string n] 9)).alloc (.cells #[.string v] 9):=by
 go_enter Tryz.func67,Tryz.ntmps67
 go_wp2
 go_ret
 exact ⟨rfl,rfl⟩
theorem vw1 (w:World) (pb mb:Nat) (wt n:Int) (kb:Nat) (h:Cells w pb #[.map (some mb),.int .i64 wt] 137) (hk:w.cell? ⟨kb,0,none⟩=some (.int .i64 n)) :
   Calls Tryz.prog 86 #[.pointer (some ⟨pb,0,none⟩),.pointer (some ⟨kb,0,none⟩)] w fun e w'=>e=.returned (.tuple #[])∧Cells w' pb #[.map (some mb),.int .i64 n] 137∧Fr (· = pb) w w':=by
 have lp:=h.lt
 have hfz:=h.free 1
 have hc:=h.cell 1 _ rfl
 have H:=Lib.hid h
 clear h
 go_enter Tryz.func86,Tryz.ntmps86
 go_wp2
 go_end0
 exact ⟨rfl,by have:=cells_set H.out 1 (.int .i64 n);simpa using this,(Fr.refl (· = pb) w).setCell (.inl rfl) _⟩
theorem va1 (w:World) (pb mb:Nat) (wt:Int) (es:List (ByteArray × ByteArray)) (k v:ByteArray) (bv bk:Nat) (h:Cells w pb #[.map (some mb),.int .i64 wt] 137) (hm:SM w mb (ats es)) (hv:w.cell? ⟨bv,0,none⟩=some (.string v)) (hk:w.cell? ⟨bk,0,none⟩=some (.string k)) :
   Calls Tryz.prog 88 #[.pointer (some ⟨pb,0,none⟩),.pointer (some ⟨bv,0,none⟩),.pointer (some ⟨bk,0,none⟩)] w fun e w'=>e=.returned (.tuple #[])∧SM w' mb (ats (putA es k v))∧Fr (· = mb) w w':=by
 have lp:=h.lt
 have hc:=h.cell 0 _ rfl
 have H:=Lib.hid h
 have HM:=Lib.hid hm
 clear h hm
 go_enter Tryz.func88,Tryz.ntmps88
 go_wp2_with fail
 (refine region_tail 6 (by kernel_rfl) (by kernel_rfl) ?_;simp only [List.take_succ_cons,List.take_zero,List.drop_succ_cons,List.drop_zero];(repeat still_step);refine wpStill_nil ?_)
 refine wl_put 135 9 9 Tryz.underlying135 Tryz.underlying9 rfl (.tmp 7) (.tmp 8) (.tmp 9) rfl HM.out.drew k (.string v) rfl rfl rfl ?_
 intro arr1 k1 hm1
 go_wp2
 go_end0
 exact ⟨rfl,by rw [ats_put];exact hm1,((Fr.refl (· = mb) w).drew).setM (.inl rfl) _ _⟩
inductive Opt
 | wt (n:Int) (kb:Nat)
 | at_ (k v:ByteArray) (bv bk:Nat)
def Opt.eV:Opt→Value
 | .wt _ kb=>.func (Fn.func 85) #[] #[.pointer (some ⟨kb,0,none⟩)]
 | .at_ _ _ bv bk=>.func (Fn.func 87) #[] #[.pointer (some ⟨bv,0,none⟩),.pointer (some ⟨bk,0,none⟩)]
def Opt.vV:Opt→Value
 | .wt _ kb=>.func (Fn.func 86) #[] #[.pointer (some ⟨kb,0,none⟩)]
 | .at_ _ _ bv bk=>.func (Fn.func 88) #[] #[.pointer (some ⟨bv,0,none⟩),.pointer (some ⟨bk,0,none⟩)]
def Opt.ok (w:World):Opt→Prop
 | .wt n kb=>w.cell? ⟨kb,0,none⟩=some (.int .i64 n)
 | .at_ k v bv bk=>w.cell? ⟨bv,0,none⟩=some (.string v)∧w.cell? ⟨bk,0,none⟩=some (.string k)
abbrev PS:=Int × List (ByteArray × ByteArray)
def Opt.app (s:PS):Opt→PS
 | .wt n _=>(n,s.2)
 | .at_ k v _ _=>(s.1,putA s.2 k v)
def apps (os:List Opt):PS:=os.foldl Opt.app (0,[])
def Opts (w:World) (v:Value) (os:List Opt) (f:Opt→Value):Prop :=
 ∃ ob cap,v=.slice (some ⟨ob,0,none⟩) os.length cap∧os.length≤cap∧(∀ (i:Nat) o,os[i]? = some o→w.cell? ⟨ob,i,none⟩=some (f o))∧(∀ o∈os,o.ok w)∧os.length≤1000000
theorem Opt.ok_fr {w w':World} {S:Nat→Prop} {o:Opt} (h:o.ok w) (f:Fr S w w') (hS:∀ k,k < w.heap.size→¬ S k):o.ok w':=by
 cases o with
 | wt n kb =>
   have l:=World.block_lt_of_cell? w _ h
   exact (f.cell l (hS _ l)).trans h
 | at_ k v bv bk =>
   have l1:=World.block_lt_of_cell? w _ h.1
   have l2:=World.block_lt_of_cell? w _ h.2
   exact ⟨(f.cell l1 (hS _ l1)).trans h.1,(f.cell l2 (hS _ l2)).trans h.2⟩
def hashM (hk:Nat) (s:ByteArray):ByteArray :=
 if hk=1 then (if s.size=0 then ⟨#[]⟩ else s.extract 0 1) else if hk=2 then (toString s.size).toUTF8 else s
def HashA (hk:Nat) (s:ByteArray):Prop:=∀ (w:World) (kB:Nat) (cs:Array Value),Cells w kB cs 37→KC cs→cs[6]? = some (.int .u8 hk) →
 Calls Tryz.prog 62 #[.string s,.pointer (some ⟨kB,0,none⟩)] w fun e w'=>e=.returned (.string (hashM hk s))∧Fr0 w w'
def HashC (hk:Nat):Prop:=∀ s:ByteArray,(hk=2→s.size≤99)→HashA hk s
def VL (w0:World) (pb mb:Nat) (os:List Opt) (k:Nat) (c:Value) (wr:World):Prop :=
 ∃ i,k+i=os.length∧c=.int .i64 i∧Cells wr pb #[.map (some mb),.int .i64 ((os.take i).foldl Opt.app (0,[])).1] 137∧SM wr mb (ats ((os.take i).foldl Opt.app (0,[])).2)∧Fr (fun k=>k=pb∨k=mb) w0 wr
theorem take_app (os:List Opt) (i:Nat) (o:Opt) (h:os[i]? = some o) (s:PS):(os.take (i+1)).foldl Opt.app s=Opt.app ((os.take i).foldl Opt.app s) o:=by
 have hi:i < os.length:=(List.getElem?_eq_some_iff.1 h).1
 have e:os[i]=o:=(List.getElem?_eq_some_iff.1 h).2
 rw [List.take_succ_eq_append_getElem hi,List.foldl_append,e]
 rfl
theorem take_all (os:List Opt):(os.take os.length).foldl Opt.app (0,[])=apps os:=by rw [List.take_length];rfl
theorem look_vs (pts:List Pt) (h:ByteArray):lookS (pts.map fun p=>(p.h,Value.string p.v)) h=(findP pts h).map fun p=>.string p.v:=by
 unfold lookS findP
 rw [List.find?_map]
 simp [Function.comp_def]
theorem look_ps (pts:List Pt) (h:ByteArray):lookS (pts.map fun p=>(p.h,pv p.at_ p.wt)) h=(findP pts h).map fun p=>pv p.at_ p.wt:=by
 unfold lookS findP
 rw [List.find?_map]
 simp [Function.comp_def]
theorem daddv (w:World) (G:GS) (h:GRep w G) (v:ByteArray) (HC:HashA G.hk v) (ov:Value) (os:List Opt) (ho:Opts w ov os Opt.vV) (R:Value→World→Prop)
   (hR:∀ w1 mb,Fr0 w w1→w.heap.size≤mb→SM w1 mb (ats (apps os).2)→Calls Tryz.prog 217 #[.pointer (some ⟨G.sB,0,none⟩),.string (hashM G.hk v),.string v,pv mb (apps os).1] w1 fun e w'=>∃ x,e=.returned x∧R x w') :
   Calls Tryz.prog 175 #[.pointer (some ⟨G.gB,0,none⟩),.string v,ov] w fun e w'=>∃ x,e=.returned x∧R x w':=by
 have hR':=Lib.hid hR
 clear hR
 obtain ⟨⟨g0,g1,g2⟩,_,l0,l1,l2⟩:=h.facts
 obtain ⟨cs,k1,k2,k3⟩:=h.k
 have HH:=Lib.hid (HC w G.kB cs k1 k2 k3)
 obtain ⟨ob,cap,rfl,hcap,hcell,hok,hlen⟩:=ho
 have O:=hid4 hcell hok hcap hlen
 have H:=Lib.hid h
 have mV:=mAddVertex
 have hmm:=@run_makeMap Tryz.prog
 clear h hcell hok hcap hlen k1 k2 k3
 go_enter Tryz.func175,Tryz.ntmps175
 go_wp2_with (first
   | (go_at_call 62;refine HH.out.mono ?_;rintro e w1 ⟨rfl,f1⟩;have F1:=Lib.hid f1;clear f1))
 have LT:=Lib.hid (show ob < w.heap.size∨os = [] from by
   cases os with
   | nil=>exact .inr rfl
   | cons o os=>exact .inl (World.block_lt_of_cell? w _ (O.out.1 0 o rfl)))
 go_loopg [21] os.length (fun k c wr=>VL ((w1.alloc (Obj.map #[] 0)).alloc (Obj.cells #[Value.map (some w1.heap.size),Value.int IntKind.i64 0] 137)) (w1.heap.size+1) w1.heap.size os k c wr)
 case atStart =>
   refine ⟨0,rfl,rfl,?_,?_,Fr.refl _ _⟩
   · have:=Cells.new (w1.alloc (Obj.map #[] 0)) #[Value.map (some w1.heap.size),Value.int IntKind.i64 0] 137
     simpa using this
   · exact (SM.fresh w1).alloc _
 case round =>
   obtain ⟨i,hk,rfl,hc,hm,f⟩:=hrel
   have A:=hid4 hk hc hm f
   clear hk hc hm f
   by_cases hi:i < os.length
   · have hsm:os.length≤1000000:=O.out.2.2.2
     have F2:=Lib.hid (show Fr (fun k=>k=w1.heap.size+1∨k=w1.heap.size) w wr from (((F1.out.alloc _).alloc _).mono (fun k q=>q.elim)).trans A.out.2.2.2 fun k q=>.inl q)
     have hcell:=(F2.out.cell (p:=⟨ob,i,none⟩) (by simp only;rcases LT.out with q|q;exact q;rw [q] at hi;simp at hi) (by simp only;have:=F1.out.size;rcases LT.out with q|q;omega;rw [q] at hi;simp at hi)).trans (O.out.1 i os[i] (List.getElem?_eq_getElem hi))
     have hok:=Opt.ok_fr (O.out.2.1 os[i] (List.getElem_mem hi)) F2.out (fun k hk q=>by have:=F1.out.size;omega)
     have hg:=List.getElem?_eq_getElem hi
     generalize os[i]=o at hcell hok hg
     cases o with
     | wt n kb =>
       have hs:(os.take (i+1)).foldl Opt.app (0,[])=(n,((os.take i).foldl Opt.app (0,[])).2):=take_app os i _ hg _
       have HS:=Lib.hid hs
       change wr.cell? ⟨ob,i,none⟩=some (.func (Fn.func 86) #[] #[.pointer (some ⟨kb,0,none⟩)]) at hcell
       have hok':=Lib.hid (show wr.cell? ⟨kb,0,none⟩=some (.int .i64 n) from hok)
       clear hok hg hs
       go_wp2_with (first
         | (go_at_call 86;refine (vw1 wr _ _ _ n kb A.out.2.1 hok'.out).mono ?_;rintro e w3 ⟨rfl,hc',f'⟩;have D:=hid2 hc' f';clear hc' f'))
       go_roundg (gk - 1)
       case measure=>have:=A.out.1;omega
       case rel =>
         refine ⟨i+1,by have:=A.out.1;omega,by simp,?_,?_,?_⟩
         · rw [HS.out];exact D.out.1
         · rw [HS.out];exact A.out.2.2.1.fr D.out.2 (by omega)
         · exact A.out.2.2.2.trans D.out.2 fun k q=>.inl (.inl q)
     | at_ k v bv bk =>
       have hs:(os.take (i+1)).foldl Opt.app (0,[])=(((os.take i).foldl Opt.app (0,[])).1,putA ((os.take i).foldl Opt.app (0,[])).2 k v):=take_app os i _ hg _
       have HS:=Lib.hid hs
       change wr.cell? ⟨ob,i,none⟩=some (.func (Fn.func 88) #[] #[.pointer (some ⟨bv,0,none⟩),.pointer (some ⟨bk,0,none⟩)]) at hcell
       have hok':=Lib.hid (show wr.cell? ⟨bv,0,none⟩=some (.string v)∧wr.cell? ⟨bk,0,none⟩=some (.string k) from hok)
       clear hok hg hs
       go_wp2_with (first
         | (go_at_call 88;refine (va1 wr _ _ _ _ k v bv bk A.out.2.1 A.out.2.2.1 hok'.out.1 hok'.out.2).mono ?_;rintro e w3 ⟨rfl,hm',f'⟩;have D:=hid2 hm' f';clear hm' f'))
       go_roundg (gk - 1)
       case measure=>have:=A.out.1;omega
       case rel =>
         refine ⟨i+1,by have:=A.out.1;omega,by simp,?_,?_,?_⟩
         · rw [HS.out];exact A.out.2.1.fr D.out.2 (by omega)
         · rw [HS.out];exact D.out.1
         · exact A.out.2.2.2.trans D.out.2 fun k q=>.inl (.inr q)
   · have hi':i=os.length:=by have:=A.out.1;omega
     subst hi'
     have F2:=Lib.hid (show Fr (fun k=>k=w1.heap.size+1∨k=w1.heap.size) w wr from (((F1.out.alloc _).alloc _).mono (fun k q=>q.elim)).trans A.out.2.2.2 fun k q=>.inl q)
     have F3:=Lib.hid (show Fr0 w wr from F2.out.shrink fun k q=>.inr (by have:=F1.out.size;omega))
     have HW:=Lib.hid (H.out.fr F3.out (fun _ _ q=>q) (fun q=>q))
     have g2':=HW.out.facts.1.2.2
     have l0':=HW.out.facts.2.2.1
     have hb:=A.out.2.1.cell 0 _ rfl
     have hb1:=A.out.2.1.cell 1 _ rfl
     have hbl:=A.out.2.1.lt
     have hfst:=take_all os
     rw [hfst] at hb1
     have HS:=Lib.hid (hR'.out wr.drew w1.heap.size F3.out.drew F1.out.size (by have:=A.out.2.2.1;rw [hfst] at this;exact this))
     go_wp2_with fail
     (refine region_tail 7 (by kernel_rfl) (by kernel_rfl) ?_;simp only [List.take_succ_cons,List.take_zero,List.drop_succ_cons,List.drop_zero];(repeat still_step);refine wpStill_nil ?_)
     go_wp2_with (first
       | (go_at_call 217;refine HS.out.mono ?_;rintro e w5 ⟨x,rfl,r5⟩))
     go_ret
     exact ⟨x,rfl,r5⟩
theorem uaddv (w:World) (G:GS) (h:GRep w G) (v:ByteArray) (HC:HashA G.hk v) (ov:Value) (os:List Opt) (ho:Opts w ov os Opt.vV) (R:Value→World→Prop)
   (hR:∀ w1 mb,Fr0 w w1→w.heap.size≤mb→SM w1 mb (ats (apps os).2)→Calls Tryz.prog 217 #[.pointer (some ⟨G.sB,0,none⟩),.string (hashM G.hk v),.string v,pv mb (apps os).1] w1 fun e w'=>∃ x,e=.returned x∧R x w') :
   Calls Tryz.prog 200 #[.pointer (some ⟨G.gB,0,none⟩),.string v,ov] w fun e w'=>∃ x,e=.returned x∧R x w':=by
 have hR':=Lib.hid hR
 clear hR
 obtain ⟨⟨g0,g1,g2⟩,_,l0,l1,l2⟩:=h.facts
 obtain ⟨cs,k1,k2,k3⟩:=h.k
 have HH:=Lib.hid (HC w G.kB cs k1 k2 k3)
 obtain ⟨ob,cap,rfl,hcap,hcell,hok,hlen⟩:=ho
 have O:=hid4 hcell hok hcap hlen
 have H:=Lib.hid h
 have mV:=mAddVertex
 have hmm:=@run_makeMap Tryz.prog
 clear h hcell hok hcap hlen k1 k2 k3
 go_enter Tryz.func200,Tryz.ntmps200
 go_wp2_with (first
   | (go_at_call 62;refine HH.out.mono ?_;rintro e w1 ⟨rfl,f1⟩;have F1:=Lib.hid f1;clear f1))
 have LT:=Lib.hid (show ob < w.heap.size∨os = [] from by
   cases os with
   | nil=>exact .inr rfl
   | cons o os=>exact .inl (World.block_lt_of_cell? w _ (O.out.1 0 o rfl)))
 go_loopg [21] os.length (fun k c wr=>VL ((w1.alloc (Obj.map #[] 0)).alloc (Obj.cells #[Value.map (some w1.heap.size),Value.int IntKind.i64 0] 137)) (w1.heap.size+1) w1.heap.size os k c wr)
 case atStart =>
   refine ⟨0,rfl,rfl,?_,?_,Fr.refl _ _⟩
   · have:=Cells.new (w1.alloc (Obj.map #[] 0)) #[Value.map (some w1.heap.size),Value.int IntKind.i64 0] 137
     simpa using this
   · exact (SM.fresh w1).alloc _
 case round =>
   obtain ⟨i,hk,rfl,hc,hm,f⟩:=hrel
   have A:=hid4 hk hc hm f
   clear hk hc hm f
   by_cases hi:i < os.length
   · have hsm:os.length≤1000000:=O.out.2.2.2
     have F2:=Lib.hid (show Fr (fun k=>k=w1.heap.size+1∨k=w1.heap.size) w wr from (((F1.out.alloc _).alloc _).mono (fun k q=>q.elim)).trans A.out.2.2.2 fun k q=>.inl q)
     have hcell:=(F2.out.cell (p:=⟨ob,i,none⟩) (by simp only;rcases LT.out with q|q;exact q;rw [q] at hi;simp at hi) (by simp only;have:=F1.out.size;rcases LT.out with q|q;omega;rw [q] at hi;simp at hi)).trans (O.out.1 i os[i] (List.getElem?_eq_getElem hi))
     have hok:=Opt.ok_fr (O.out.2.1 os[i] (List.getElem_mem hi)) F2.out (fun k hk q=>by have:=F1.out.size;omega)
     have hg:=List.getElem?_eq_getElem hi
     generalize os[i]=o at hcell hok hg
     cases o with
     | wt n kb =>
       have hs:(os.take (i+1)).foldl Opt.app (0,[])=(n,((os.take i).foldl Opt.app (0,[])).2):=take_app os i _ hg _
       have HS:=Lib.hid hs
       change wr.cell? ⟨ob,i,none⟩=some (.func (Fn.func 86) #[] #[.pointer (some ⟨kb,0,none⟩)]) at hcell
       have hok':=Lib.hid (show wr.cell? ⟨kb,0,none⟩=some (.int .i64 n) from hok)
       clear hok hg hs
       go_wp2_with (first
         | (go_at_call 86;refine (vw1 wr _ _ _ n kb A.out.2.1 hok'.out).mono ?_;rintro e w3 ⟨rfl,hc',f'⟩;have D:=hid2 hc' f';clear hc' f'))
       go_roundg (gk - 1)
       case measure=>have:=A.out.1;omega
       case rel =>
         refine ⟨i+1,by have:=A.out.1;omega,by simp,?_,?_,?_⟩
         · rw [HS.out];exact D.out.1
         · rw [HS.out];exact A.out.2.2.1.fr D.out.2 (by omega)
         · exact A.out.2.2.2.trans D.out.2 fun k q=>.inl (.inl q)
     | at_ k v bv bk =>
       have hs:(os.take (i+1)).foldl Opt.app (0,[])=(((os.take i).foldl Opt.app (0,[])).1,putA ((os.take i).foldl Opt.app (0,[])).2 k v):=take_app os i _ hg _
       have HS:=Lib.hid hs
       change wr.cell? ⟨ob,i,none⟩=some (.func (Fn.func 88) #[] #[.pointer (some ⟨bv,0,none⟩),.pointer (some ⟨bk,0,none⟩)]) at hcell
       have hok':=Lib.hid (show wr.cell? ⟨bv,0,none⟩=some (.string v)∧wr.cell? ⟨bk,0,none⟩=some (.string k) from hok)
       clear hok hg hs
       go_wp2_with (first
         | (go_at_call 88;refine (va1 wr _ _ _ _ k v bv bk A.out.2.1 A.out.2.2.1 hok'.out.1 hok'.out.2).mono ?_;rintro e w3 ⟨rfl,hm',f'⟩;have D:=hid2 hm' f';clear hm' f'))
       go_roundg (gk - 1)
       case measure=>have:=A.out.1;omega
       case rel =>
         refine ⟨i+1,by have:=A.out.1;omega,by simp,?_,?_,?_⟩
         · rw [HS.out];exact A.out.2.1.fr D.out.2 (by omega)
         · rw [HS.out];exact D.out.1
         · exact A.out.2.2.2.trans D.out.2 fun k q=>.inl (.inr q)
   · have hi':i=os.length:=by have:=A.out.1;omega
     subst hi'
     have F2:=Lib.hid (show Fr (fun k=>k=w1.heap.size+1∨k=w1.heap.size) w wr from (((F1.out.alloc _).alloc _).mono (fun k q=>q.elim)).trans A.out.2.2.2 fun k q=>.inl q)
     have F3:=Lib.hid (show Fr0 w wr from F2.out.shrink fun k q=>.inr (by have:=F1.out.size;omega))
     have HW:=Lib.hid (H.out.fr F3.out (fun _ _ q=>q) (fun q=>q))
     have g2':=HW.out.facts.1.2.2
     have l0':=HW.out.facts.2.2.1
     have hb:=A.out.2.1.cell 0 _ rfl
     have hb1:=A.out.2.1.cell 1 _ rfl
     have hbl:=A.out.2.1.lt
     have hfst:=take_all os
     rw [hfst] at hb1
     have HS:=Lib.hid (hR'.out wr.drew w1.heap.size F3.out.drew F1.out.size (by have:=A.out.2.2.1;rw [hfst] at this;exact this))
     go_wp2_with fail
     (refine region_tail 7 (by kernel_rfl) (by kernel_rfl) ?_;simp only [List.take_succ_cons,List.take_zero,List.drop_succ_cons,List.drop_zero];(repeat still_step);refine wpStill_nil ?_)
     go_wp2_with (first
       | (go_at_call 217;refine HS.out.mono ?_;rintro e w5 ⟨x,rfl,r5⟩))
     go_ret
     exact ⟨x,rfl,r5⟩
def GS.same (G G':GS):Prop:=G'.gB=G.gB∧G'.tB=G.tB∧G'.sB=G.sB∧G'.kB=G.kB∧G'.hk=G.hk∧G'.dir=G.dir∧G'.ac=G.ac∧G'.we=G.we∧G'.ro=G.ro∧G'.pr=G.pr
theorem GS.same_refl (G:GS):G.same G:=⟨rfl,rfl,rfl,rfl,rfl,rfl,rfl,rfl,rfl,rfl⟩
structure GStep (w:World) (G:GS) (w':World) (G':GS):Prop where
 rep:GRep w' G'
 fr:Fr (· ∈ G.own) w w'
 own:∀ b∈G'.own,b∈G.own∨w.heap.size≤b
 same:G.same G'
theorem GStep.refl {w w':World} {G:GS} (h:GRep w G) (f:Fr0 w w'):GStep w G w' G :=
 ⟨h.fr f (fun _ _ q=>q) (fun q=>q),f.mono fun _ q=>q.elim,fun _ hb=>.inl hb,G.same_refl⟩
theorem own_addP (G:GS) (p:Pt) (c:St1) (hc:c.own=G.c.own):({ G with c:=c,pts:=G.pts ++ [p] }:GS).own.Perm (p.at_ :: G.own):=by
 unfold GS.own
 simp only [hc,List.map_append,List.map_cons,List.map_nil]
 have h1:(G.c.own ++ (G.pts.map (·.at_) ++ [p.at_] ++ G.lks.map (·.at_))).Perm (p.at_ :: (G.c.own ++ (G.pts.map (·.at_) ++ G.lks.map (·.at_)))):=by
   have:G.c.own ++ (G.pts.map (·.at_) ++ [p.at_] ++ G.lks.map (·.at_))=(G.c.own ++ G.pts.map (·.at_)) ++ p.at_ :: G.lks.map (·.at_):=by simp
   rw [this]
   refine List.perm_middle.trans ?_
   simp
 refine ((h1.cons _).cons _).cons _ |>.trans ?_
 refine (((List.Perm.swap _ _ _).cons _).cons _).trans ?_
 exact ((List.Perm.swap _ _ _).cons _).trans (List.Perm.swap _ _ _)
theorem findP_none {pts:List Pt} {h:ByteArray}:findP pts h=none↔∀ p∈pts,p.h≠h:=by simp [findP]
theorem GRep.addP {w w':World} {G:GS} (h:GRep w G) (p:Pt) (hp:findP G.pts p.h=none) (hfresh:p.at_∉G.own) (hk:G.kB≠p.at_) (f:Fr (fun b=>b=G.c.vB∨b=G.c.pB) w w') (hm:SM w p.at_ (ats p.es))
   (hs:SRep w' G.sB { G.c with vs:=putS G.c.vs p.h (.string p.v),ps:=putS G.c.ps p.h (pv p.at_ p.wt) }) :
   GRep w' { G with c:={ G.c with vs:=putS G.c.vs p.h (.string p.v),ps:=putS G.c.ps p.h (pv p.at_ p.wt) },pts:=G.pts ++ [p] }:=by
 have hnd:=h.nd
 have e1:lookS G.c.vs p.h=none:=by rw [h.vs,look_vs,hp];rfl
 have e2:lookS G.c.ps p.h=none:=by rw [h.ps,look_ps,hp];rfl
 have mv:∀ b,b=G.c.vB∨b=G.c.pB→b∈G.c.own:=by
   intro b hb
   simp only [St1.own,List.mem_cons]
   rcases hb with q|q
   · exact .inl q
   · exact .inr (.inl q)
 have mo:∀ b,b∈G.c.own→b∈G.own:=by
   intro b hb
   simp only [GS.own,List.mem_cons,List.mem_append]
   exact .inr (.inr (.inr (.inl hb)))
 simp only [GS.own,List.nodup_cons,List.mem_cons,List.nodup_append,not_or] at hnd
 obtain ⟨⟨_,_,n0⟩,⟨_,n1⟩,n2,n3,n4,n5⟩:=hnd
 have hout:∀ b∈G.pts.map (·.at_) ++ G.lks.map (·.at_),¬ (b=G.c.vB∨b=G.c.pB):=fun b hb q=>n5 b (mv b q) b hb rfl
 have hkf:¬ (G.kB=G.c.vB∨G.kB=G.c.pB):=fun q=>h.kn (mo _ (mv _ q))
 refine ⟨h.g.fr f ?_,h.t.fr f ?_,hs,h.k.imp fun _ q=>⟨q.1.fr f hkf,q.2⟩,?_,?_,h.out,h.inn,?_,?_,?_,h.loop,h.lnd,?_,?_⟩
 · exact fun q=>n0 (List.mem_append.2 (.inl (mv _ q)))
 · exact fun q=>n1 (List.mem_append.2 (.inl (mv _ q)))
 · show putS G.c.vs p.h (.string p.v)=_
   rw [put_new e1,h.vs]
   simp
 · show putS G.c.ps p.h (pv p.at_ p.wt)=_
   rw [put_new e2,h.ps]
   simp
 · intro q hq
   rcases List.mem_append.1 hq with hq|hq
   · exact (h.pa q hq).fr f (hout _ (List.mem_append.2 (.inl (List.mem_map.2 ⟨q,hq,rfl⟩))))
   · simp only [List.mem_singleton] at hq
     subst hq
     exact hm.fr f fun q'=>hfresh (mo _ (mv _ q'))
 · intro l hl
   exact (h.la l hl).fr f (hout _ (List.mem_append.2 (.inr (List.mem_map.2 ⟨l,hl,rfl⟩))))
 · intro l hl
   obtain ⟨⟨a,ha,ea⟩,b,hb,eb⟩:=h.ends l hl
   exact ⟨⟨a,List.mem_append.2 (.inl ha),ea⟩,b,List.mem_append.2 (.inl hb),eb⟩
 · exact (own_addP G p _ rfl).nodup_iff.2 (List.nodup_cons.2 ⟨hfresh,h.nd⟩)
 · intro q
   rcases List.mem_cons.1 ((own_addP G p _ rfl).mem_iff.1 q) with q|q
   · exact hk q
   · exact h.kn q
theorem saddv {w w1:World} {G:GS} (h:GRep w G) (B:Nat) (eb:Nat→Addr) (E:ErrsOk w B eb) (k v:ByteArray) (wt:Int) (es:List (ByteArray × ByteArray)) (mb:Nat) (f:Fr0 w w1) (hmb:w.heap.size≤mb) (hm:SM w1 mb (ats es)) :
   Calls Tryz.prog 217 #[.pointer (some ⟨G.sB,0,none⟩),.string k,.string v,pv mb wt] w1 fun e w'=>∃ x,e=.returned x ∧
     ((∃ p,findP G.pts k=some p∧x=er (eb 0)∧GStep w G w' G)∨(findP G.pts k=none∧x=.nilIface∧∃ c',GStep w G w' { G with c:=c',pts:=G.pts ++ [⟨k,v,wt,mb,es⟩] })):=by
 have h1:=h.fr f (fun _ _ q=>q) (fun q=>q)
 have E1:=E.fr f (fun _ q=>q.elim)
 cases hp:findP G.pts k with
 | some p =>
   refine (addv_old w1 G.sB G.c h1.s k v p.v mb wt (er (eb 0)) (E1.cell 0 (by decide)) (by have:=E1.size;have:=E1.six;omega) (by rw [h.vs,look_vs,hp];rfl)).mono ?_
   rintro e w' ⟨rfl,f'⟩
   exact ⟨_,rfl,.inl ⟨p,rfl,rfl,GStep.refl h (f.trans0 f')⟩⟩
 | none =>
   have hfr:mb∉G.own:=fun q=>by have:=h.lt _ q;omega
   have hkl:G.kB < w.heap.size:=by obtain ⟨cs,q,_⟩:=h.k;exact q.lt
   refine (addv_new w1 G.sB G.c h1.s k v mb wt (by rw [h.vs,look_vs,hp];rfl)).mono ?_
   rintro e w' ⟨rfl,hs,f'⟩
   refine ⟨_,rfl,.inr ⟨rfl,rfl,_,GRep.addP h1 ⟨k,v,wt,mb,es⟩ hp hfr (by show G.kB≠mb;omega) f' hm hs,?_,?_,G.same_refl⟩⟩
   · refine (f.mono fun _ q=>q.elim).trans f' fun b hb=>.inl ?_
     have:b∈G.c.own:=by simp only [St1.own,List.mem_cons];rcases hb with q|q;exact .inl q;exact .inr (.inl q)
     simp only [GS.own,List.mem_cons,List.mem_append]
     exact .inr (.inr (.inr (.inl this)))
   · intro b hb
     rcases List.mem_cons.1 ((own_addP G _ _ rfl).mem_iff.1 hb) with q|q
     · exact .inr (by rw [q];exact hmb)
     · exact .inl q
end Go.Proofs.YtbafaadmlpamiaaGreatDoor
