/- FnStoreChange: what runs are covered, where its loop stands. -/
import Derived.Test.YtbafaadmlpamiaaGreatDoorChg1
import Derived.Test.YtbafaadmlpamiaaGreatDoorStepC2
import Derived.Test.YtbafaadmlpamiaaGreatDoorSpec5
import Derived.Test.YtbafaadmlpamiaaGreatDoorByK2
namespace Go.Proofs.YtbafaadmlpamiaaGreatDoor
open Go Go.Hy Go.RowKit

/-- steps of which the contract is proved -/
def Fine1 (dir : Bool) (d : DoIn) : Prop := Fine0 dir d ∨ d.op = 1 ∨ d.op = 3 ∨ d.op = 4

theorem fine1_step (B : Nat) (eb : Nat → Addr) (s : St) (d : DoIn) (hs : Small s) (hpr : s.pr = false) (hd : Fine1 s.dir d) : StepC B eb s d := by
  rcases hd with h | h | h | h
  · exact fine0_step B eb s d hs hpr h
  all_goals cases hdir : s.dir with
    | true => first | exact dstepC1 B eb s d h hdir | exact dstepC3 B eb s d h hdir | exact dstepC4 B eb s d h hdir
    | false => first | exact ustepC1 B eb s d h hdir | exact ustepC3 B eb s d h hdir | exact ustepC4 B eb s d h hdir

theorem run1 (w : World) (b0 b1 b2 b3 b4 : Bool) (ao : Option Addr) (n cap : Nat) (ds : List DoIn) (hd : DosAt w ao n cap ds) (B : Nat) (eb : Nat → Addr) (E : ErrsOk w B eb) (hl : ds.length ≤ 1000)
    (hf : ∀ d ∈ ds, Fine1 b0 d ∧ d.prs.length ≤ 1000) :
    Calls Tryz.prog 19 #[kagg b0 b1 b2 b3 b4 false 0, .slice ao n cap] w fun e w' => ∃ v, e = .returned v ∧ TellsAt w' w.heap.size v ((kst b0 b1 b2 b3 b4 false 0).run ds) ∧ Fr0 w w' := by
  refine run19 w b0 b1 b2 b3 b4 false 0 ao n cap ds hd hash0 B eb E fun i d hi => ?_
  have hm := List.mem_of_getElem? hi
  obtain ⟨s1, s2, s3⟩ := after_same (kst b0 b1 b2 b3 b4 false 0) (ds.take i)
  have hb := (kst_bnd 1000 b0 b1 b2 b3 b4 false 0).after (ds.take i) fun x hx => (hf x (List.mem_of_mem_take hx)).2
  refine fine1_step B eb _ d (hb.small (by simp only [List.length_take]; omega) (Nat.le_refl _)) (by rw [s2, kst_pr]) ?_
  rw [s1, kst_dir]
  exact (hf d hm).1

theorem PrAt.yld {w : World} {v : Value} {prs : List PP} (h : PrAt w v prs) : Yld w v prs.length (encL encP prs) := by
  obtain ⟨ao, cap, rfl, hr⟩ := h
  cases ao with
  | none =>
    cases prs with
    | nil => exact .inl ⟨cap, rfl, rfl, rfl⟩
    | cons p l => obtain ⟨ob, off, e, _⟩ := hr 0 p rfl; cases e
  | some a =>
    refine .inr ⟨a, cap, rfl, fun i u hi => ?_⟩
    have hlt := (List.getElem?_eq_some_iff.1 hi).1
    rw [encP_len] at hlt
    have hx : i / 2 < prs.length := by omega
    have hg := List.getElem?_eq_getElem hx
    obtain ⟨ob, off, e, _, h1, h2⟩ := hr _ _ hg
    cases e
    rw [Addr.add_lit]
    have hm := encL_mem encP 2 prs (fun _ _ => rfl) (i / 2) (i % 2) _ hg (by omega)
    rw [show i / 2 * 2 + i % 2 = i by omega, hi] at hm
    rcases Nat.mod_two_eq_zero_or_one i with e | e
    · rw [e] at hm
      have : u = .string prs[i / 2].1 := Option.some.inj hm
      rw [this, show off + i = off + i / 2 * 2 by omega]
      exact h1
    · rw [e] at hm
      have : u = .string prs[i / 2].2 := Option.some.inj hm
      rw [this, show off + i = off + i / 2 * 2 + 1 by omega]
      exact h2

abbrev tA : ByteArray := ⟨#[97]⟩
abbrev tB : ByteArray := ⟨#[98]⟩
abbrev tC : ByteArray := ⟨#[99]⟩
abbrev tKV : List PP := [(⟨#[107]⟩, ⟨#[118]⟩)]

/-- the changes out of the arguments -/
def usOf (ws : List Int) (pss : List (List PP)) : Us := (ws.map wrap64).zip pss

structure CH (wB : World) (us : Us) (i : Nat) (v7 v8 : Value) (dvs : List (DoIn × Value)) (al : List PP) (wr : World) : Prop where
  all : al = (us.take i).flatMap (·.2)
  fst : dvs.map (·.1) = chBase tA tB tC tKV ++ chUp tA tB (us.take i)
  row7 : wr.ownsRow wB.heap.size 28 5 v7 (5 + i) (encL encDo dvs)
  row8 : wr.ownsRow wB.heap.size 30 2 v8 al.length (encL encP al)
  ne : ∀ q, v7.ownBlock = some q → v8.ownBlock ≠ some q
  prs : ∀ p ∈ dvs, PrAt wB p.2 p.1.prs
  fr : Fr0 wB wr

theorem CH.step {wB wr wa w4 w5 : World} {us : Us} {i : Nat} {v7 v8 v7' v8' pv : Value} {dvs : List (DoIn × Value)} {al : List PP} {wt : Int} {prs : List PP} (h : CH wB us i v7 v8 dvs al wr) (hx : us[i]? = some (wt, prs)) (hpv : PrAt wB pv prs)
    (fa : Fr0 wr wa) (o7 : w4.ownsRow wB.heap.size 28 5 v7' (5 + i + 1) (encL encDo dvs ++ [.int .u8 4, .string tA, .string tB, .int .i64 wt, pv])) (f4 : Fr (fun k => v7.ownBlock = some k) wa w4)
    (at7 : v7'.ownBlock = v7.ownBlock ∨ v7'.ownBlock = some wa.heap.size)
    (o8 : w5.ownsRow wB.heap.size 30 2 v8' (al.length + prs.length) (encL encP al ++ encL encP prs)) (f5 : Fr (fun k => v8.ownBlock = some k) w4 w5)
    (at8 : v8'.ownBlock = v8.ownBlock ∨ v8'.ownBlock = some w4.heap.size) : CH wB us (i + 1) v7' v8' (dvs ++ [(⟨4, tA, tB, wt, prs⟩, pv)]) (al ++ prs) w5 := by
  have hi : i < us.length := (List.getElem?_eq_some_iff.1 hx).1
  have he : us[i] = (wt, prs) := (List.getElem?_eq_some_iff.1 hx).2
  have htk : us.take (i + 1) = us.take i ++ [(wt, prs)] := by rw [List.take_succ_eq_append_getElem hi, he]
  have z1 := fa.size
  have z2 := f4.size
  have h78 : ∀ q, v7'.ownBlock = some q → v8.ownBlock ≠ some q := by
    intro q hq e
    rcases at7 with r | r
    · exact h.ne q (r ▸ hq) e
    · have l8 := (h.row8.lt q e).2
      rw [r] at hq
      have := Option.some.inj hq
      omega
  refine ⟨by rw [htk, List.flatMap_append, h.all]; simp, ?_, ?_, ?_, ?_, ?_, ?_⟩
  · rw [List.map_append, h.fst, htk]; simp [chUp]
  · have e1 : encL encDo (dvs ++ [(⟨4, tA, tB, wt, prs⟩, pv)]) = encL encDo dvs ++ [.int .u8 4, .string tA, .string tB, .int .i64 wt, pv] := by simp [encL, encDo]
    rw [e1, show 5 + (i + 1) = 5 + i + 1 by omega]
    exact ownsRow_fr o7 f5 fun k hk r => h78 k hk r
  · rw [encP_app, List.length_append]
    exact o8
  · intro q hq e
    rcases at8 with r | r
    · exact h78 q hq (r ▸ e)
    · have l7 := (o7.lt q hq).2
      rw [r] at e
      have := Option.some.inj e
      omega
  · intro p hp
    rcases List.mem_append.1 hp with z | z
    · exact h.prs p z
    · simp only [List.mem_singleton] at z
      subst z
      exact hpv
  · exact ((h.fr.trans0 fa).trans f4 fun q hq => .inr (h.row7.lt q hq).1).trans f5 fun q hq => .inr (h.row8.lt q hq).1

theorem SDosAt.of_reads {w : World} {v : Value} {n : Nat} {ds : List DoIn} {dvs : List (DoIn × Value)} (h : Reads w v n (encL encDo dvs)) (hl : dvs.map (·.1) = ds) (hn : n = ds.length) (hp : ∀ p ∈ dvs, PrAt w p.2 p.1.prs) : SDosAt w v ds := by
  obtain ⟨ao, cap, rfl, _, hr⟩ := h
  refine ⟨ao, cap, by rw [hn], fun i d hi => ?_⟩
  rw [← hl, List.getElem?_map, Option.map_eq_some_iff] at hi
  obtain ⟨p, hp1, rfl⟩ := hi
  have x (c : Nat) (hc : c < 5) := encL_mem encDo 5 dvs (fun _ _ => rfl) i c p hp1 hc
  obtain ⟨ob, rfl, h1, c0⟩ := hr _ _ (x 0 (by decide))
  obtain ⟨_, e1, _, c1⟩ := hr _ _ (x 1 (by decide))
  obtain ⟨_, e2, _, c2⟩ := hr _ _ (x 2 (by decide))
  obtain ⟨_, e3, _, c3⟩ := hr _ _ (x 3 (by decide))
  obtain ⟨_, e4, _, c4⟩ := hr _ _ (x 4 (by decide))
  cases e1; cases e2; cases e3; cases e4
  refine ⟨ob, 0, p.2, rfl, h1, ?_, ?_, ?_, ?_, ?_, hp p (List.mem_of_getElem? hp1)⟩
  all_goals rw [Nat.zero_add]
  · exact c0
  · exact c1
  · exact c2
  · exact c3
  · exact c4
end Go.Proofs.YtbafaadmlpamiaaGreatDoor
