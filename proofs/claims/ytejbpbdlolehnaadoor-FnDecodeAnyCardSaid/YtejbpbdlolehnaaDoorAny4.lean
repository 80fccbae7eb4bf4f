/- Parts of the proof of one law, in the order in which they build. Lengths as bytes: what encodeLength makes, in plain Lean; the contracts of encodeLength and works. · The kind of a *ber.Packet in memory: its struct, its Data buffer (only written), its children, in the print's framework of kinds. · ber.Encode with no value: a new packet without data. No condition. · Writing into a packet's Data: the packet with more data, everything else as it was. · ber.NewString: a packet whose data is the string. The string's length is at most Go's own limit. · Plain maths on packets as trees: what the laws' reading 'within' gives, which trees are proper, the bytes of a tree; and that the printed functions of the reference end at every tree. No program is walked here. -/
import Derived.Test.YtejbpbdlolehnaaDoorProg
import Derived.Below
import Derived.Deep.Draws
import Derived.Deep.AppendLies
import Derived.Maps.AppendAt
import Derived.OwnWalk
import Derived.Laws.BytesArg
import Derived.Laws.MakeOwn
import Derived.Laws.OwnMore
import Derived.Deep.OwnRows
import Derived.Tactics
import Derived.Lib.ConvBytes
import Derived.Laws.Slices
import Derived.WalkKit
import Derived.KernelRfl
import Derived.RowKit3
import Derived.Deep.LoopGhost
import Derived.Deep.QuietTactic
import Derived.BigQuiet
import Derived.WideLaws
import Derived.Deep.DeepCutAuto
import Derived.Deep.CutBlock
import Derived.Deep.RegionHeld3
import Derived.Laws.Rows
import Derived.Lib.AppendStr
import Derived.ArgAppend
import Derived.Laws.IdiomCopy
import Derived.OrdersHeld
import Derived.Laws.BitsLemmas
import Derived.RowKit
import Derived.Deep.DeepFit
import Derived.Test.YtejbpbdlolehnaaDoorAny1
import Derived.Test.YtejbpbdlolehnaaDoorAny2
import Derived.Test.YtejbpbdlolehnaaDoorAny3
/-! ### 50. A region's order in a table, made once a region: each step asks the table (numbers alone), not the operations -/
namespace Go.Proofs.YtejbpbdlolehnaaDoorW.PrintLast
open Go.Proofs.YtejbpbdlolehnaaDoorW.PrintWords (Aside0)
def needsOf (md : Region.Mode) (o : Oper) : List Nat := (o.after.toList.filter (fun e => Region.binds md e)).map (fun e => e.on)
def clashOf (md : Region.Mode) (ops : Array Oper) (i : Nat) (oi : Oper) : List Nat := (List.range ops.size).filter fun j => !(j == i) && match ops[j]? with
  | some oj => !(oj.after.any (fun e => Region.binds md e && e.on == i) || oi.apart ops oj)
  | none => false
/-- No select in it; for each operation: what must have come up before it, and what may not come up behind it if it is taken first. -/
def rtab (md : Region.Mode) (ops : Array Oper) : Bool × List (List Nat × List Nat) := (Region.noSelect ops, (List.range ops.size).map fun i => match ops[i]? with
  | some o => (needsOf md o, clashOf md ops i o)
  | none => ([], []))
def readyAt (T : List (List Nat × List Nat)) (l : List Bool) (i : Nat) : Bool := !l.getD i true && match T[i]? with
  | some r => r.1.all (fun j => l.getD j false)
  | none => false
def readyT (T : List (List Nat × List Nat)) (l : List Bool) : List Nat := (List.range T.length).filter (readyAt T l)
def freeT (T : List (List Nat × List Nat)) (l : List Bool) (i : Nat) : Bool := match T[i]? with
  | some r => r.2.all (fun j => l.getD j true)
  | none => false
def closedT (T : List (List Nat × List Nat)) (l : List Bool) : Bool := (List.range T.length).all fun j => !l.getD j false || match T[j]? with
  | some r => r.1.all (fun k => l.getD k false)
  | none => true
def reachT (T : List (List Nat × List Nat)) (i : Nat) : Nat → Nat → Bool
  | 0, _ => false
  | fuel + 1, d => match T[d]? with
    | some r => r.1.any fun j => j == i || reachT T i fuel j
    | none => false
def lastT (T : List (List Nat × List Nat)) (l : List Bool) (ds : List Nat) (i : Nat) : Bool := ds.all fun d => l.getD d true || reachT T i T.length d
section
variable {md : Region.Mode} {ops : Array Oper} {T : Bool × List (List Nat × List Nat)} {l l' li lj lk : Array Bool} {ds : List Nat} {i j k : Nat}
theorem gd (l : Array Bool) (j : Nat) (b : Bool) : l.getD j b = l.toList.getD j b := by simp [Array.getD_eq_getD_getElem?, List.getD_eq_getElem?_getD]
theorem needs_all (o : Oper) (p : Nat → Bool) : o.after.all (fun e => !Region.binds md e || p e.on) = (needsOf md o).all p := by
  unfold needsOf
  rw [← Array.all_toList]
  induction o.after.toList with
  | nil => rfl
  | cons e r ih =>
    rw [List.all_cons, ih, List.filter_cons]
    cases h : Region.binds md e <;> simp
theorem needs_any (o : Oper) (p : Nat → Bool) : o.after.any (fun e => Region.binds md e && p e.on) = (needsOf md o).any p := by
  unfold needsOf
  rw [← Array.any_toList]
  induction o.after.toList with
  | nil => rfl
  | cons e r ih =>
    rw [List.any_cons, ih, List.filter_cons]
    cases h : Region.binds md e <;> simp
theorem rtab_length : (rtab md ops).2.length = ops.size := by simp [rtab]
theorem rtab_some {o : Oper} (h : ops[i]? = some o) : (rtab md ops).2[i]? = some (needsOf md o, clashOf md ops i o) := by
  have hi := (Array.getElem?_eq_some_iff.1 h).1
  unfold rtab
  rw [List.getElem?_map, List.getElem?_range hi, Option.map_some, h]
theorem rtab_none (h : ops[i]? = none) : (rtab md ops).2[i]? = none := by
  have hi : ops.size ≤ i := Array.getElem?_eq_none_iff.1 h
  exact List.getElem?_eq_none (by rw [rtab_length]; exact hi)
theorem readyAt_eq : readyAt (rtab md ops).2 l.toList i = (!l.getD i true && ((ops[i]?).map (·.after.all fun e => !Region.binds md e || l.getD e.on false)).getD false) := by
  unfold readyAt
  rw [gd]
  cases h : ops[i]? with
  | none => rw [rtab_none h]; rfl
  | some o =>
    rw [rtab_some h]
    simp only [Option.map_some, Option.getD_some]
    rw [← needs_all]
    simp only [gd]
theorem ready_eq : Region.ready md ops l = readyT (rtab md ops).2 l.toList := by
  unfold Region.ready readyT
  rw [rtab_length]
  refine List.filter_congr (fun i _ => ?_)
  rw [readyAt_eq]
theorem free_eq : Region.free md ops l i = freeT (rtab md ops).2 l.toList i := by
  unfold Region.free freeT
  cases h : ops[i]? with
  | none => rw [rtab_none h]
  | some oi =>
    rw [rtab_some h]
    simp only [clashOf]
    rw [List.all_filter]
    congr 1
    funext j
    rw [gd]
    cases hj : ops[j]? with
    | none => cases (j == i) <;> cases (l.toList.getD j true) <;> simp
    | some oj =>
      cases (j == i) <;> cases (l.toList.getD j true) <;> cases (oj.after.any (fun e => Region.binds md e && e.on == i) || oi.apart ops oj) <;> simp_all
theorem closed_eq : Region.closedB md ops l = closedT (rtab md ops).2 l.toList := by
  unfold Region.closedB closedT
  rw [rtab_length]
  congr 1
  funext j
  rw [gd]
  cases h : ops[j]? with
  | none => rw [rtab_none h]
  | some o =>
    rw [rtab_some h]
    simp only
    rw [← needs_all]
    simp only [gd]
theorem reach_eq : ∀ (fuel d : Nat), Region.reachB md ops i fuel d = reachT (rtab md ops).2 i fuel d
  | 0, _ => rfl
  | fuel + 1, d => by
    unfold Region.reachB reachT
    cases h : ops[d]? with
    | none => rw [rtab_none h]
    | some o =>
      rw [rtab_some h]
      simp only
      rw [← needs_any]
      congr 1
      funext e
      rw [reach_eq fuel]
theorem last_eq : Region.lastB md ops l ds i = lastT (rtab md ops).2 l.toList ds i := by
  unfold Region.lastB lastT
  rw [rtab_length]
  congr 1
  funext d
  rw [gd, reach_eq]
theorem readyAt_mem (h : readyAt T.2 l.toList i = true) (hT : rtab md ops = T) : (Region.ready md ops l).contains i = true := by
  subst hT
  rw [ready_eq]
  unfold readyT
  rw [List.contains_iff_mem, List.mem_filter, List.mem_range]
  refine ⟨?_, h⟩
  unfold readyAt at h
  rw [Bool.and_eq_true] at h
  cases hq : (rtab md ops).2[i]? with
  | none => rw [hq] at h; simp at h
  | some r => exact (List.getElem?_eq_some_iff.1 hq).1
theorem set_of (h : (l.toList.set i true == l'.toList) = true) : (l.setIfInBounds i true == l') = true := by
  rw [beq_iff_eq] at h ⊢
  apply Array.ext'
  rw [Array.toList_setIfInBounds]
  exact h
def anyT (T : Bool × List (List Nat × List Nat)) (l l' : List Bool) (i : Nat) : Bool := T.1 && freeT T.2 l i && readyAt T.2 l i && (l.set i true == l')
/-- pure_'s condition out of the table. -/
theorem any_of (hT : rtab md ops = T) (h : anyT T l.toList l'.toList i = true) : anyB md ops l l' i = true := by
  simp only [anyT, Bool.and_eq_true] at h
  obtain ⟨⟨⟨h1, h2⟩, h3⟩, h4⟩ := h
  have h5 := readyAt_mem h3 hT
  have h6 := set_of h4
  subst hT
  simp only [anyB, Bool.and_eq_true]
  exact ⟨⟨⟨h1, by rw [free_eq]; exact h2⟩, h5⟩, h6⟩
def takeT (T : Bool × List (List Nat × List Nat)) (ds : List Nat) (l l' : List Bool) (i : Nat) : Bool := T.1 && freeT T.2 l i && readyAt T.2 l i && closedT T.2 l && lastT T.2 l ds i && (l.set i true == l')
/-- take_'s. -/
theorem take_of (hT : rtab md ops = T) (h : takeT T ds l.toList l'.toList i = true) : takeB md ops ds l l' i = true := by
  simp only [takeT, Bool.and_eq_true] at h
  obtain ⟨⟨⟨⟨⟨h1, h2⟩, h3⟩, h4⟩, h5⟩, h6⟩ := h
  have h7 := readyAt_mem h3 hT
  have h8 := set_of h6
  subst hT
  simp only [takeB, Bool.and_eq_true]
  exact ⟨⟨⟨⟨⟨h1, by rw [free_eq]; exact h2⟩, h7⟩, by rw [closed_eq]; exact h4⟩, by rw [last_eq]; exact h5⟩, h8⟩
/-- one_'s and last_'s. -/
theorem one_of (hT : rtab md ops = T) (h : (readyT T.2 l.toList == [i] && l.toList.set i true == l'.toList) = true) : readyB md ops l l' i = true := by
  simp only [Bool.and_eq_true] at h
  obtain ⟨h1, h2⟩ := h
  subst hT
  simp only [readyB, Bool.and_eq_true]
  exact ⟨by rw [ready_eq]; exact h1, set_of h2⟩
/-- done_'s. -/
theorem done_of (hT : rtab md ops = T) (h : (readyT T.2 l.toList == []) = true) : (Region.ready md ops l == []) = true := by
  subst hT
  rw [ready_eq]
  exact h
/-- What d waits for, as_ bits: told in the table (B), checked in one pass: each bit is a need of d, or a bit of an earlier need's. -/
def upM (B : List Nat) (d : Nat) : List Nat → Nat
  | [] => 0
  | n :: r => (2 ^ n ||| (if n < d then B.getD n 0 else 0)) ||| upM B d r
def waitsOk (T : List (List Nat × List Nat)) (B : List Nat) : Bool := (List.range T.length).all fun d => match T[d]? with
  | some r => (B.getD d 0 ||| upM B d r.1) == upM B d r.1
  | none => false
theorem upM_bit {B : List Nat} {d i : Nat} : ∀ {ns : List Nat}, (upM B d ns).testBit i = true → ∃ n ∈ ns, n = i ∨ (n < d ∧ (B.getD n 0).testBit i = true)
  | [], h => by simp [upM] at h
  | n :: r, h => by
    unfold upM at h
    rw [Nat.testBit_or, Nat.testBit_or, Bool.or_eq_true, Bool.or_eq_true] at h
    rcases h with (h | h) | h
    · rw [Nat.testBit_two_pow] at h
      exact ⟨n, List.mem_cons_self, .inl (by simpa using h)⟩
    · by_cases hn : n < d
      · rw [if_pos hn] at h
        exact ⟨n, List.mem_cons_self, .inr ⟨hn, h⟩⟩
      · rw [if_neg hn] at h
        simp at h
    · obtain ⟨m, hm, h2⟩ := upM_bit h
      exact ⟨m, List.mem_cons_of_mem _ hm, h2⟩
theorem reach_bit {T : List (List Nat × List Nat)} {B : List Nat} (hB : waitsOk T B = true) : ∀ (fuel d : Nat), d < fuel → d < T.length → (B.getD d 0).testBit i = true → reachT T i fuel d = true
  | 0, d, h, _, _ => by omega
  | fuel + 1, d, h, hd, hb => by
    have h1 := List.all_eq_true.1 hB d (List.mem_range.2 hd)
    cases hr : T[d]? with
    | none => rw [hr] at h1; simp at h1
    | some r =>
      rw [hr] at h1
      simp only [beq_iff_eq] at h1
      have h2 : (upM B d r.1).testBit i = true := by rw [← h1, Nat.testBit_or, hb, Bool.true_or]
      obtain ⟨n, hn, h3⟩ := upM_bit h2
      unfold reachT
      rw [hr]
      simp only
      rw [List.any_eq_true]
      refine ⟨n, hn, ?_⟩
      rcases h3 with rfl | ⟨h4, h5⟩
      · simp
      · rw [reach_bit hB fuel n (by omega) (by omega) h5, Bool.or_true]
def lastW (T : List (List Nat × List Nat)) (B : List Nat) (l : List Bool) (ds : List Nat) (i : Nat) : Bool := ds.all fun d => l.getD d true || (decide (d < T.length) && (B.getD d 0).testBit i)
def takeW (T : Bool × List (List Nat × List Nat)) (B : List Nat) (ds : List Nat) (l l' : List Bool) (i : Nat) : Bool := T.1 && freeT T.2 l i && readyAt T.2 l i && closedT T.2 l && lastW T.2 B l ds i && (l.set i true == l')
/-- take_'s, by the bits. -/
theorem take_ofW {B : List Nat} (hT : rtab md ops = T) (hB : waitsOk T.2 B = true) (h : takeW T B ds l.toList l'.toList i = true) : takeB md ops ds l l' i = true := by
  refine take_of hT ?_
  simp only [takeW, takeT, Bool.and_eq_true] at h ⊢
  obtain ⟨⟨⟨⟨⟨h1, h2⟩, h3⟩, h4⟩, h5⟩, h6⟩ := h
  refine ⟨⟨⟨⟨⟨h1, h2⟩, h3⟩, h4⟩, ?_⟩, h6⟩
  unfold lastW at h5
  unfold lastT
  rw [List.all_eq_true] at h5 ⊢
  intro d hd
  have h7 := h5 d hd
  rw [Bool.or_eq_true, Bool.and_eq_true, decide_eq_true_eq] at h7
  rcases h7 with h7 | ⟨h8, h9⟩
  · rw [h7, Bool.true_or]
  · rw [reach_bit hB _ d h8 h8 h9, Bool.or_true]
theorem with_tabW {P : Program} {Q : Exit → Act → World → Prop} {S : World → Prop} {n : Nat} {a : Act} {w : World} {B : List Nat} (hT : rtab md ops = T) (hB : waitsOk T.2 B = true) (h : Aside0 (rtab md ops = T) → Aside0 (waitsOk T.2 B = true) → wpAnyLast P md ops Q S ds n l a w) : wpAnyLast P md ops Q S ds n l a w := h ⟨hT⟩ ⟨hB⟩
end
/-- The operations of a region, by its number. -/
def opsIn : Code → Nat → Option (Array Oper)
  | .region id ops _, k => if id == k then some ops else none
  | .seq a b, k => match opsIn a k with
    | some o => some o
    | none => opsIn b k
  | .cond _ a b, k => match opsIn a k with
    | some o => some o
    | none => opsIn b k
  | .block _ c, k => opsIn c k
  | .loop c, k => opsIn c k
  | .scope c, k => opsIn c k
  | .rangeFunc _ _ a b, k => match opsIn a k with
    | some o => some o
    | none => opsIn b k
  | _, _ => none
def opsOf (f : Func) (k : Nat) : Array Oper := ((f.body.bind fun c => opsIn c k)).getD #[]
end Go.Proofs.YtejbpbdlolehnaaDoorW.PrintLast
/-! ### 52. A row that stays read whatever happens to a block (a set of blocks) doesn't lie there -/
namespace Go.Proofs.YtejbpbdlolehnaaDoorW.PrintWords
open Go.RowKit
namespace Kd
section
variable {α : Type} {d : Kd α} {W : World} {g n : Nat} {S ok : Nat → Prop} {A : Option Addr} {ad : Addr} {xs : List α}
/-- What is read with its footprint lies in it. -/
theorem F_in (h : F d W ok A n xs) {ad : Addr} (hA : A = some ad) (hn : 0 < n) (hs : 0 < d.sz) : ok ad.block := by
  subst hA
  have hl := F_len h
  cases xs with
  | nil => simp at hl; omega
  | cons x r =>
    obtain ⟨ad', c, he, _, _, _, hin⟩ := F_get h x 0 (by omega) (by omega)
    injection he with he
    subst he
    exact hin hs
end
end Kd
end Go.Proofs.YtejbpbdlolehnaaDoorW.PrintWords
/-! ### 55. Reps told from the front, no append: for rows of one-cell elements and of wider ones -/
namespace Go.Proofs.YtejbpbdlolehnaaDoorW.PrintWords
/-- One cell an element. -/
theorem Reps.one {α : Type} {R : α → List Value → Prop} {ps : List α} {cs : List Value} {p : α} {v : Value} (hp : R p [v]) (h : Reps R 1 ps cs) : Reps R 1 (p :: ps) (v :: cs) := by
  refine ⟨by simp [h.1], fun j q hq => ?_⟩
  cases j with
  | zero =>
    simp only [List.getElem?_cons_zero, Option.some.injEq] at hq
    subst hq
    simpa using hp
  | succ j =>
    simp only [List.getElem?_cons_succ] at hq
    have h1 := h.2 j q hq
    simpa [Nat.mul_one] using h1
end Go.Proofs.YtejbpbdlolehnaaDoorW.PrintWords
/-! ### 58. A guarded operation whose guard is known to want it: the same goal without the guard -/
namespace Go.Proofs.YtejbpbdlolehnaaDoorW.PrintWords
open Go.RowKit
section
variable {P : Program} {ops : Array Oper} {rest : List Oper} {o : Oper} {a : Act} {Q : Exit → Act → World → Prop} {W : World}
/-- The gate takes the guard off (hw: 'by rfl', 'by kernel_rfl': the guard's slot holds what is wanted). -/
theorem gate_guard (hw : Region.wanted o (yielded ops a.tmps) = true) (h : wpList P ops Q ({ o with guard := none } :: rest) a W) : wpList P ops Q (o :: rest) a W := by
  have h1 : Region.wanted { o with guard := none } (yielded ops a.tmps) = true := rfl
  unfold wpList at h ⊢
  rw [if_pos h1] at h
  rw [if_pos hw]
  exact h
end
end Go.Proofs.YtejbpbdlolehnaaDoorW.PrintWords
namespace Go.Proofs.YtejbpbdlolehnaaDoor.PFnEncode
open Go.RowKit Go.Proofs.YtejbpbdlolehnaaDoorW.PrintWords Go.Proofs.YtejbpbdlolehnaaDoorW.PrintLast Go.Proofs.YtejbpbdlolehnaaDoorW.PrintMore
attribute [local go_sem] max2_int min2_int max_two min_two max_three min_three max_four min_four   -- for this text's walks alone
set_option linter.unusedVariables false
set_option linter.unusedSimpArgs false

theorem info5 : (Tryd.prog.info? 5).map (fun i => (i.zero, i.size, i.bytes)) = some (some (.int .u8 0), 1, 1) := by kernel_rfl
theorem info29 : (Tryd.prog.info? 29).map (fun i => (i.zero, i.size, i.bytes)) = some (some (.agg #[(.int .i64 0), (.int .i64 0), (.bool false), (.slice none 0 0), (.slice none 0 0)]), 5, 72) := by kernel_rfl
-- the values' own types
/-! #### struct type 25, nested in itself -/
structure S25 where
  f0 : Int
  f1 : Int
  f2 : Bool
  f3 : (List Int)
  f4 : (List S25)
def z25 : S25 := ⟨(0 : Int), (0 : Int), false, ([] : List Int), ([] : List S25)⟩
def F25 (d : Kd S25) : Kd S25 := Kd.iso (Kd.pair (Kd.int .i64) (Kd.pair (Kd.int .i64) (Kd.pair Kd.bool (Kd.pair (Kd.slice 5 (Kd.int .u8)) (Kd.slice 25 d))))) (fun x : S25 => (x.f0, x.f1, x.f2, x.f3, x.f4))
theorem mono25 : Kd.Mono F25 := Kd.mono_iso _ (Kd.mono_pair (Kd.mono_const _) (Kd.mono_pair (Kd.mono_const _) (Kd.mono_pair (Kd.mono_const _) (Kd.mono_pair (Kd.mono_const _) (Kd.mono_slice 25 Kd.mono_id)))))
theorem sub25 : Kd.Sub F25 [5, 25] := Kd.sub_iso _ (Kd.sub_pair (Kd.sub_const _ (by decide)) (Kd.sub_pair (Kd.sub_const _ (by decide)) (Kd.sub_pair (Kd.sub_const _ (by decide)) (Kd.sub_pair (Kd.sub_const _ (by decide)) (Kd.sub_slice 25 (by decide) Kd.sub_id)))))
theorem sz25 : ∀ n, (Kd.upto F25 5 [5, 25] n).sz = 5 := Kd.upto_sz (fun _ => rfl)
def k25 : Kd S25 := Kd.fix F25 5 [5, 25] sz25 (Kd.upto_E sub25)
theorem k25_open {w : World} {x : S25} {cs : List Value} (h : k25.K w x cs) : ∃ A3 c3 A4 c4, cs = [.int .i64 x.f0, .int .i64 x.f1, .bool x.f2, .slice A3 x.f3.length c3, .slice A4 x.f4.length c4] ∧ x.f3.length ≤ c3 ∧ (Kd.int .u8).C w A3 x.f3.length x.f3 ∧ x.f4.length ≤ c4 ∧ k25.C w A4 x.f4.length x.f4 := by
  obtain ⟨n, h⟩ := h
  cases n with
  | zero => exact h.elim
  | succ n =>
    obtain ⟨_, _, rfl, rfl, ⟨_, _, rfl, rfl, ⟨_, _, rfl, rfl, ⟨_, _, rfl, ⟨A3, c3, rfl, l3, g3⟩, ⟨A4, c4, rfl, l4, g4⟩⟩⟩⟩⟩ := h
    exact ⟨A3, c3, A4, c4, rfl, l3, g3, l4, Kd.fix_C g4⟩
theorem k25_openM {w : World} {base : Nat} {ok : Nat → Prop} {x : S25} {cs : List Value} (h : k25.M w base ok x cs) : ∃ v3 v4, cs = [.int .i64 x.f0, .int .i64 x.f1, .bool x.f2, v3, v4] ∧ (Kd.int .u8).R 5 w base ok v3 x.f3 ∧ k25.R 25 w base ok v4 x.f4 := by
  obtain ⟨n, h⟩ := h
  cases n with
  | zero => exact h.elim
  | succ n =>
    obtain ⟨_, _, rfl, rfl, ⟨_, _, rfl, rfl, ⟨_, _, rfl, rfl, ⟨_, _, rfl, ⟨v3, rfl, g3⟩, ⟨v4, rfl, g4⟩⟩⟩⟩⟩ := h
    exact ⟨v3, v4, rfl, g3, Kd.fix_R g4⟩
theorem k25_mkM (w : World) (base : Nat) (ok : Nat → Prop) (x : S25) {v3 : Value} (g3 : (Kd.int .u8).R 5 w base ok v3 x.f3) {v4 : Value} (g4 : k25.R 25 w base ok v4 x.f4) : k25.M w base ok x [.int .i64 x.f0, .int .i64 x.f1, .bool x.f2, v3, v4] := by
  obtain ⟨n4, q4⟩ := Kd.fix_R_back mono25 g4
  have r4 := Kd.upto_R_le mono25 sz25 (show n4 ≤ n4 by omega) q4
  exact ⟨n4 + 1, ⟨[.int .i64 x.f0], [.int .i64 x.f1, .bool x.f2, v3, v4], rfl, rfl, ⟨[.int .i64 x.f1], [.bool x.f2, v3, v4], rfl, rfl, ⟨[.bool x.f2], [v3, v4], rfl, rfl, ⟨[v3], [v4], rfl, ⟨v3, rfl, g3⟩, ⟨v4, rfl, r4⟩⟩⟩⟩⟩⟩
def rd_T25 (xs : List S25) (i : Int) : S25 := xs.getD i.toNat z25
theorem at_T25 {w : World} {A : Option Addr} {n : Nat} {xs : List S25} (h : Kd.C k25 w A n xs) (i : Int) (h0 : 0 ≤ i) (h1 : i < n) : ∃ ad A3 c3 A4 c4, A = some ad ∧ w.cell? (ad.add (i.toNat * 5)) = some (.int .i64 (rd_T25 xs i).f0) ∧ w.cell? ⟨(ad.add (i.toNat * 5)).block, (ad.add (i.toNat * 5)).off + 1, none⟩ = some (.int .i64 (rd_T25 xs i).f1) ∧ w.cell? ⟨(ad.add (i.toNat * 5)).block, (ad.add (i.toNat * 5)).off + 2, none⟩ = some (.bool (rd_T25 xs i).f2) ∧ w.cell? ⟨(ad.add (i.toNat * 5)).block, (ad.add (i.toNat * 5)).off + 3, none⟩ = some (.slice A3 (rd_T25 xs i).f3.length c3) ∧ w.cell? ⟨(ad.add (i.toNat * 5)).block, (ad.add (i.toNat * 5)).off + 4, none⟩ = some (.slice A4 (rd_T25 xs i).f4.length c4) ∧ (rd_T25 xs i).f3.length ≤ c3 ∧ (Kd.int .u8).C w A3 (rd_T25 xs i).f3.length (rd_T25 xs i).f3 ∧ (rd_T25 xs i).f4.length ≤ c4 ∧ k25.C w A4 (rd_T25 xs i).f4.length (rd_T25 xs i).f4 := by
  obtain ⟨ad, c, e, _, hK, hc0⟩ := Kd.C_get h z25 i h0 h1
  have hc : ∀ j u, c[j]? = some u → w.cell? (ad.add (i.toNat * 5 + j)) = some u := hc0
  obtain ⟨A3, c3, A4, c4, rfl, l3, g3, l4, g4⟩ := k25_open hK
  exact ⟨ad, A3, c3, A4, c4, e, hc 0 _ rfl, by rw [← add_field _ _ 1 (by omega)]; exact hc 1 _ rfl, by rw [← add_field _ _ 2 (by omega)]; exact hc 2 _ rfl, by rw [← add_field _ _ 3 (by omega)]; exact hc 3 _ rfl, by rw [← add_field _ _ 4 (by omega)]; exact hc 4 _ rfl, l3, g3, l4, g4⟩

/-! #### struct type 29, nested in itself -/
structure S29 where
  f0 : Int
  f1 : Int
  f2 : Bool
  f3 : (List Int)
  f4 : (List S29)
def z29 : S29 := ⟨(0 : Int), (0 : Int), false, ([] : List Int), ([] : List S29)⟩
def F29 (d : Kd S29) : Kd S29 := Kd.iso (Kd.pair (Kd.int .i64) (Kd.pair (Kd.int .i64) (Kd.pair Kd.bool (Kd.pair (Kd.slice 5 (Kd.int .u8)) (Kd.slice 29 d))))) (fun x : S29 => (x.f0, x.f1, x.f2, x.f3, x.f4))
theorem mono29 : Kd.Mono F29 := Kd.mono_iso _ (Kd.mono_pair (Kd.mono_const _) (Kd.mono_pair (Kd.mono_const _) (Kd.mono_pair (Kd.mono_const _) (Kd.mono_pair (Kd.mono_const _) (Kd.mono_slice 29 Kd.mono_id)))))
theorem sub29 : Kd.Sub F29 [5, 29] := Kd.sub_iso _ (Kd.sub_pair (Kd.sub_const _ (by decide)) (Kd.sub_pair (Kd.sub_const _ (by decide)) (Kd.sub_pair (Kd.sub_const _ (by decide)) (Kd.sub_pair (Kd.sub_const _ (by decide)) (Kd.sub_slice 29 (by decide) Kd.sub_id)))))
theorem sz29 : ∀ n, (Kd.upto F29 5 [5, 29] n).sz = 5 := Kd.upto_sz (fun _ => rfl)
def k29 : Kd S29 := Kd.fix F29 5 [5, 29] sz29 (Kd.upto_E sub29)
theorem k29_open {w : World} {x : S29} {cs : List Value} (h : k29.K w x cs) : ∃ A3 c3 A4 c4, cs = [.int .i64 x.f0, .int .i64 x.f1, .bool x.f2, .slice A3 x.f3.length c3, .slice A4 x.f4.length c4] ∧ x.f3.length ≤ c3 ∧ (Kd.int .u8).C w A3 x.f3.length x.f3 ∧ x.f4.length ≤ c4 ∧ k29.C w A4 x.f4.length x.f4 := by
  obtain ⟨n, h⟩ := h
  cases n with
  | zero => exact h.elim
  | succ n =>
    obtain ⟨_, _, rfl, rfl, ⟨_, _, rfl, rfl, ⟨_, _, rfl, rfl, ⟨_, _, rfl, ⟨A3, c3, rfl, l3, g3⟩, ⟨A4, c4, rfl, l4, g4⟩⟩⟩⟩⟩ := h
    exact ⟨A3, c3, A4, c4, rfl, l3, g3, l4, Kd.fix_C g4⟩
theorem k29_mkM (w : World) (base : Nat) (ok : Nat → Prop) (x : S29) {v3 : Value} (g3 : (Kd.int .u8).R 5 w base ok v3 x.f3) {v4 : Value} (g4 : k29.R 29 w base ok v4 x.f4) : k29.M w base ok x [.int .i64 x.f0, .int .i64 x.f1, .bool x.f2, v3, v4] := by
  obtain ⟨n4, q4⟩ := Kd.fix_R_back mono29 g4
  have r4 := Kd.upto_R_le mono29 sz29 (show n4 ≤ n4 by omega) q4
  exact ⟨n4 + 1, ⟨[.int .i64 x.f0], [.int .i64 x.f1, .bool x.f2, v3, v4], rfl, rfl, ⟨[.int .i64 x.f1], [.bool x.f2, v3, v4], rfl, rfl, ⟨[.bool x.f2], [v3, v4], rfl, rfl, ⟨[v3], [v4], rfl, ⟨v3, rfl, g3⟩, ⟨v4, rfl, r4⟩⟩⟩⟩⟩⟩
def rd_T29 (xs : List S29) (i : Int) : S29 := xs.getD i.toNat z29
theorem at_T29 {w : World} {A : Option Addr} {n : Nat} {xs : List S29} (h : Kd.C k29 w A n xs) (i : Int) (h0 : 0 ≤ i) (h1 : i < n) : ∃ ad A3 c3 A4 c4, A = some ad ∧ w.cell? (ad.add (i.toNat * 5)) = some (.int .i64 (rd_T29 xs i).f0) ∧ w.cell? ⟨(ad.add (i.toNat * 5)).block, (ad.add (i.toNat * 5)).off + 1, none⟩ = some (.int .i64 (rd_T29 xs i).f1) ∧ w.cell? ⟨(ad.add (i.toNat * 5)).block, (ad.add (i.toNat * 5)).off + 2, none⟩ = some (.bool (rd_T29 xs i).f2) ∧ w.cell? ⟨(ad.add (i.toNat * 5)).block, (ad.add (i.toNat * 5)).off + 3, none⟩ = some (.slice A3 (rd_T29 xs i).f3.length c3) ∧ w.cell? ⟨(ad.add (i.toNat * 5)).block, (ad.add (i.toNat * 5)).off + 4, none⟩ = some (.slice A4 (rd_T29 xs i).f4.length c4) ∧ (rd_T29 xs i).f3.length ≤ c3 ∧ (Kd.int .u8).C w A3 (rd_T29 xs i).f3.length (rd_T29 xs i).f3 ∧ (rd_T29 xs i).f4.length ≤ c4 ∧ k29.C w A4 (rd_T29 xs i).f4.length (rd_T29 xs i).f4 := by
  obtain ⟨ad, c, e, _, hK, hc0⟩ := Kd.C_get h z29 i h0 h1
  have hc : ∀ j u, c[j]? = some u → w.cell? (ad.add (i.toNat * 5 + j)) = some u := hc0
  obtain ⟨A3, c3, A4, c4, rfl, l3, g3, l4, g4⟩ := k29_open hK
  exact ⟨ad, A3, c3, A4, c4, e, hc 0 _ rfl, by rw [← add_field _ _ 1 (by omega)]; exact hc 1 _ rfl, by rw [← add_field _ _ 2 (by omega)]; exact hc 2 _ rfl, by rw [← add_field _ _ 3 (by omega)]; exact hc 3 _ rfl, by rw [← add_field _ _ 4 (by omega)]; exact hc 4 _ rfl, l3, g3, l4, g4⟩

end Go.Proofs.YtejbpbdlolehnaaDoor.PFnEncode
namespace Go.Proofs.YtejbpbdlolehnaaDoor.PFnEncode
open Go.RowKit Go.Proofs.YtejbpbdlolehnaaDoorW.PrintWords Go.Proofs.YtejbpbdlolehnaaDoorW.PrintLast Go.Proofs.YtejbpbdlolehnaaDoorW.PrintMore
attribute [local go_sem] max2_int min2_int max_two min_two max_three min_three max_four min_four   -- for this text's walks alone
set_option linter.unusedVariables false
set_option linter.unusedSimpArgs false

/-! ### asn1ber_uint64Length: function 64 -/
def asn1ber_uint64Length.l0 : Nat → Int → Int → Option (Int)
  | 0, _, _ => none
  | k + 1, x0, x2 => if x0 > 255 then (asn1ber_uint64Length.l0 k (x0 / 256) (wrap64 (x2 + 1))) else (some x2)
def asn1ber_uint64Length.f (k : Nat) (a0 : Int) : Option (Int) := asn1ber_uint64Length.l0 k a0 1
theorem asn1ber_uint64Length.mono_l : ∀ k, (∀ y0 y1, LeO (asn1ber_uint64Length.l0 k y0 y1) (asn1ber_uint64Length.l0 (k + 1) y0 y1))
  | 0 => fun _ _ r h => by simp [asn1ber_uint64Length.l0] at h
  | k + 1 => by
    have ih0 := asn1ber_uint64Length.mono_l k
    · intro y0 y1
      unfold asn1ber_uint64Length.l0
      repeat' first
      | (with_reducible exact ih0 _ _)
      | (with_reducible exact LeO.refl _)
      | (with_reducible exact LeO.none _)
      | (with_reducible refine LeO.ite ?_ ?_)
      | (with_reducible refine LeO.bind ?_ (fun _ => ?_))
      | exact ih0 _ _
      | exact LeO.none _
      | refine LeO.ite ?_ ?_
      | refine LeO.bind ?_ (fun _ => ?_)
theorem asn1ber_uint64Length.mono : ∀ a0 k, LeO (asn1ber_uint64Length.f k a0) (asn1ber_uint64Length.f (k + 1) a0) := by
  intro a0 k
  have ih0 := asn1ber_uint64Length.mono_l k
  unfold asn1ber_uint64Length.f
  repeat' first
      | (with_reducible exact ih0 _ _)
      | (with_reducible exact LeO.refl _)
      | (with_reducible exact LeO.none _)
      | (with_reducible refine LeO.ite ?_ ?_)
      | (with_reducible refine LeO.bind ?_ (fun _ => ?_))
      | exact ih0 _ _
      | exact LeO.none _
      | refine LeO.ite ?_ ?_
      | refine LeO.bind ?_ (fun _ => ?_)
set_option maxHeartbeats 8000000 in
set_option maxRecDepth 100000 in
theorem asn1ber_uint64Length.calls (k : Nat) (a0 : Int) (r : Int) (w : World) (h : asn1ber_uint64Length.f k a0 = some r) :
    Calls Tryd.prog 64 #[.int .u64 a0] w fun e w' => e = .returned (.int .i64 r) ∧ Drawn0 w w' := by
  have H : (asn1ber_uint64Length.l0 k a0 1) = some r := h
  clear h
  have H' := Aside0.mk H
  clear H
  go_enter Tryd.func64, Tryd.ntmps64
  go_wp2
  go_loopg [0, 2] k (fun kq v0 v2 w' => ∃ (x0_1 : Int) (x2_1 : Int), v0 = .int .u64 x0_1 ∧ v2 = .int .i64 x2_1 ∧ Aside0 (asn1ber_uint64Length.l0 kq x0_1 x2_1 = some r) ∧ Aside0 (kq ≤ k) ∧ Drawn0 w w')
  case atStart => exact ⟨(a0), (1), (by first | rfl | (simp; done) | (simp [*]; done)), (by first | rfl | (simp; done) | (simp [*]; done)), H', ⟨Nat.le_refl _⟩, by repeat (first | exact Drawn0.refl _ | apply Drawn0.step)⟩
  case round =>
    clear H'
    obtain ⟨x0_1, x2_1, rfl, rfl, HA, HK1, ⟨m1, rfl⟩⟩ := hrel
    cases gk with
    | zero => exact absurd HA.out (by simp [asn1ber_uint64Length.l0])
    | succ k1 =>
      have H := HA.out
      clear HA
      simp only [asn1ber_uint64Length.l0] at H
      by_cases c2 : x0_1 > 255
      · rw [if_pos c2] at H
        have c2b0 : decide (255 < x0_1) = true := decide_eq_true c2
        clear c2
        have H' := Aside0.mk H
        clear H
        go_wp2
        go_roundg k1
        case measure => have := HK1.out; omega
        case rel => exact ⟨(x0_1 / 256), (wrap64 (x2_1 + 1)), (by first | rfl | (simp; done) | (simp [*]; done)), (by first | rfl | (simp; done) | (simp [*]; done)), H', ⟨by have := HK1.out; omega⟩, by repeat (first | exact Drawn0.refl _ | apply Drawn0.step)⟩
      · rw [if_neg c2] at H
        have c2b0 : decide (255 < x0_1) = false := decide_eq_false c2
        clear c2
        obtain rfl := Option.some.inj H
        go_wp2
        go_ret
        exact ⟨by first | rfl | (simp; done) | (simp [*]; done), by repeat (first | exact Drawn0.refl _ | apply Drawn0.step)⟩

/-! ### asn1ber_encodeUnsignedInteger: function 51 -/
def asn1ber_encodeUnsignedInteger.l0 : Nat → Int → Int → List Int → Int → Option (List Int)
  | 0, _, _, _, _ => none
  | k + 1, x0, x3, x4, x5 => if x3 > 0 then (if 0 ≤ (IntKind.u64.wrap (wrap64 ((wrap64 (x3 - 1)) * 8))) then (if 0 ≤ x5 then (if x5 < (x4.length : Int) then (asn1ber_encodeUnsignedInteger.l0 k x0 (wrap64 (x3 - 1)) (x4.set (x5 : Int).toNat ((shr .u64 x0 (IntKind.u64.wrap (wrap64 ((wrap64 (x3 - 1)) * 8)))) % 256)) (wrap64 (x5 + 1))) else (none)) else (none)) else (none)) else (some x4)
def asn1ber_encodeUnsignedInteger.f (k : Nat) (a0 : Int) : Option (List Int) := (asn1ber_uint64Length.f k a0).bind fun t124 => (if 0 ≤ t124 then (if (t124 : Int).toNat ≤ 281474976710656 then (asn1ber_encodeUnsignedInteger.l0 k a0 t124 (List.replicate (t124 : Int).toNat 0) 0) else (none)) else (none))
theorem asn1ber_encodeUnsignedInteger.mono_l : ∀ k, (∀ y0 y1 y2 y3, LeO (asn1ber_encodeUnsignedInteger.l0 k y0 y1 y2 y3) (asn1ber_encodeUnsignedInteger.l0 (k + 1) y0 y1 y2 y3))
  | 0 => fun _ _ _ _ r h => by simp [asn1ber_encodeUnsignedInteger.l0] at h
  | k + 1 => by
    have ih0 := asn1ber_encodeUnsignedInteger.mono_l k
    · intro y0 y1 y2 y3
      unfold asn1ber_encodeUnsignedInteger.l0
      repeat' first
      | (with_reducible exact ih0 _ _ _ _)
      | (with_reducible exact asn1ber_uint64Length.mono _ _)
      | (with_reducible exact LeO.refl _)
      | (with_reducible exact LeO.none _)
      | (with_reducible refine LeO.ite ?_ ?_)
      | (with_reducible refine LeO.bind ?_ (fun _ => ?_))
      | exact ih0 _ _ _ _
      | exact asn1ber_uint64Length.mono _ _
      | exact LeO.none _
      | refine LeO.ite ?_ ?_
      | refine LeO.bind ?_ (fun _ => ?_)
set_option maxHeartbeats 8000000 in
set_option maxRecDepth 100000 in
theorem asn1ber_encodeUnsignedInteger.calls (k : Nat) (a0 : Int) (r : List Int) (w : World) (h : asn1ber_encodeUnsignedInteger.f k a0 = some r) :
    Calls Tryd.prog 51 #[.int .u64 a0] w fun e w' => ∃ v0_ : Value, e = .returned (v0_) ∧ Kd.R (Kd.int .u8) 5 w' w.heap.size (fun _ => True) v0_ r ∧ Below w.heap.size w w' := by
  have HB := Aside0.mk (Below.refl w.heap.size w)
  have H : ((asn1ber_uint64Length.f k a0).bind fun t124 => (if 0 ≤ t124 then (if (t124 : Int).toNat ≤ 281474976710656 then (asn1ber_encodeUnsignedInteger.l0 k a0 t124 (List.replicate (t124 : Int).toNat 0) 0) else (none)) else (none))) = some r := h
  clear h
  replace H := Option.bind_eq_some_iff.mp H
  obtain ⟨t124, A20, H⟩ := H
  replace H : (if 0 ≤ t124 then (if (t124 : Int).toNat ≤ 281474976710656 then (asn1ber_encodeUnsignedInteger.l0 k a0 t124 (List.replicate (t124 : Int).toNat 0) 0) else (none)) else (none)) = some r := H
  have A2 := Aside0.mk A20
  clear A20
  by_cases c3 : 0 ≤ t124
  · rw [if_pos c3] at H
    have c3b0 := eq_true c3
    have c3b1 : decide (0 ≤ t124) = true := decide_eq_true c3
    clear c3
    by_cases c4 : (t124 : Int).toNat ≤ 281474976710656
    · rw [if_pos c4] at H
      have c4b0 := eq_true c4
      have c4b1 : decide ((t124 : Int).toNat ≤ 281474976710656) = true := decide_eq_true c4
      clear c4
      obtain ⟨y125, hy125⟩ : ∃ y_ : List Int, y_ = (List.replicate (t124 : Int).toNat 0) := ⟨_, rfl⟩
      replace H : (asn1ber_encodeUnsignedInteger.l0 k a0 t124 y125 0) = some r := by first | (rw [hy125]; with_reducible exact H) | (have H2_ := (Option.bind_some _ _).symm.trans H; rw [hy125]; with_reducible exact H2_) | (have H2_ := (Option.bind_some _ _).symm.trans H; with_reducible exact H2_) | with_reducible exact H | (rw [hy125]; exact H) | exact H
      have Ny125 := Aside0.mk hy125
      clear hy125
      have H' := Aside0.mk H
      clear H
      go_enter Tryd.func51, Tryd.ntmps51
      go_wp2_with (first | ((with_reducible refine gate_callee (f := 64) rfl ?_); refine goesL_ (some 7) rfl rfl Tryd.func64 (by kernel_rfl) rfl #[.int .u64 a0] rfl (by (try simp only [List.map_toArray, List.map_cons, List.map_nil]); first | done | rfl | (simp only [List.length_drop, List.length_take]; rfl)) ?_; (with_reducible refine (asn1ber_uint64Length.calls k a0 t124 _ A2.out).mono ?_); rintro e w' ⟨rfl, ⟨nd, rfl⟩⟩; refine ⟨_, rfl, ?_⟩) | ((with_reducible refine gate_dst (N := 9) rfl ?_); refine Kd.R_make (Kd.int .u8) _ 5 rfl (N := 9) rfl 22 _ _ rfl t124 rfl rfl Tryd.underlying22 (.int .u8 0) 1 info5 rfl (by decide) (by omega) 0 (ok := fun _ => True) (okp := fun _ => True) rfl (fun _ hk => hk) trivial (of_decide_eq_true (by first | (with_reducible assumption) | assumption)) (Nat.le_trans (Nat.mul_le_mul_right _ (of_decide_eq_true (by first | (with_reducible assumption) | assumption) : t124.toNat ≤ 281474976710656)) (by omega)) (Below.refl _ _) (Nat.le_refl _) ?_; intro v126 w5 ho6 hb hg_ hnew_; clear hg_ hnew_; (first | rw [← Ny125.out] at ho6 | (simp only [Int.reduceToNat] at ho6; rw [← Ny125.out] at ho6)); have n0_ := Aside0.mk (Kd.R_lower ho6 (below_size (by repeat (first | (with_reducible first | exact HB.out | apply below_alloc | apply pw_below_drewN | apply below_drew1) | exact HB.out)))); have n1_ := Aside0.mk (below_step (by repeat (first | (with_reducible first | exact HB.out | apply below_alloc | apply pw_below_drewN | apply below_drew1) | exact HB.out)) hb); clear HB; have HO127 := n0_; have HB := n1_; clear n0_ n1_; clear hb ho6))
      go_loopg [3, 5] k (fun kq v3 v5 w' => ∃ (x3_1 : Int) (x4_1 : List Int) (x5_1 : Int), v3 = .int .i64 x3_1 ∧ v5 = .int .i64 x5_1 ∧ Aside0 (asn1ber_encodeUnsignedInteger.l0 kq a0 x3_1 x4_1 x5_1 = some r) ∧ Aside0 (kq ≤ k) ∧ Aside0 (Kd.R (Kd.int .u8) 5 w' w.heap.size (fun _ => True) v126 x4_1) ∧ Aside0 (Below w.heap.size w w'))
      case atStart => exact ⟨(t124), (y125), (0), (by first | rfl | (simp; done) | (simp [*]; done)), (by first | rfl | (simp; done) | (simp [*]; done)), H', ⟨Nat.le_refl _⟩, ⟨by (with_reducible repeat (first | apply Kd.R_alloc | apply Kd.R_drewN | apply Kd.R_drew)); exact HO127.out⟩, ⟨by repeat (first | (with_reducible first | exact HB.out | apply below_alloc | apply pw_below_drewN | apply below_drew1) | exact HB.out)⟩⟩
      case round =>
        clear H'
        try clear p2
        try clear c3
        try clear c3b0
        try clear c3b1
        try clear c4
        try clear c4b0
        try clear c4b1
        try clear c5
        try clear c6
        obtain ⟨x3_1, x4_1, x5_1, rfl, rfl, HA, HK1, HO_4, HB⟩ := hrel
        cases gk with
        | zero => exact absurd HA.out (by simp [asn1ber_encodeUnsignedInteger.l0])
        | succ k1 =>
          have H := HA.out
          clear HA
          simp only [asn1ber_encodeUnsignedInteger.l0] at H
          by_cases c7 : x3_1 > 0
          · rw [if_pos c7] at H
            have c7b0 : decide (0 < x3_1) = true := decide_eq_true c7
            clear c7
            obtain ⟨ji8, hji8⟩ : ∃ j_ : Int, (IntKind.u64.wrap (wrap64 ((wrap64 (x3_1 - 1)) * 8))) = j_ := ⟨_, rfl⟩
            replace H : (if 0 ≤ (ji8) then (if 0 ≤ x5_1 then (if x5_1 < (x4_1.length : Int) then (asn1ber_encodeUnsignedInteger.l0 k1 a0 (wrap64 (x3_1 - 1)) (x4_1.set (x5_1 : Int).toNat ((shr .u64 a0 (ji8)) % 256)) (wrap64 (x5_1 + 1))) else (none)) else (none)) else (none)) = some r := by first | (rw [hji8] at H; exact H) | (simp only [hji8] at H ⊢; exact H)
            by_cases c9 : 0 ≤ (ji8)
            · rw [if_pos c9] at H
              have c9b0 := eq_true c9
              have c9b1 : decide (0 ≤ (ji8)) = true := decide_eq_true c9
              clear c9
              obtain ⟨ji10, hji10⟩ : ∃ j_ : Int, (shr .u64 a0 (ji8)) = j_ := ⟨_, rfl⟩
              replace H : (if 0 ≤ x5_1 then (if x5_1 < (x4_1.length : Int) then (asn1ber_encodeUnsignedInteger.l0 k1 a0 (wrap64 (x3_1 - 1)) (x4_1.set (x5_1 : Int).toNat ((ji10) % 256)) (wrap64 (x5_1 + 1))) else (none)) else (none)) = some r := by first | (rw [hji10] at H; exact H) | (simp only [hji10] at H ⊢; exact H)
              have hji10_ : (a0 / 2 ^ min (ji8).toNat 64) = ji10 := hji10
              have hji10z : (ji8) ≤ 64 → (a0 / 2 ^ (ji8).toNat) = ji10 := shr_small hji10
              by_cases c11 : 0 ≤ x5_1
              · rw [if_pos c11] at H
                have c11b0 : decide (0 ≤ x5_1) = true := decide_eq_true c11
                clear c11
                by_cases c12 : x5_1 < (x4_1.length : Int)
                · rw [if_pos c12] at H
                  have c12b0 : decide (x5_1 < (x4_1.length : Int)) = true := decide_eq_true c12
                  clear c12
                  obtain ⟨y128, hy128⟩ : ∃ y_ : List Int, y_ = (x4_1.set (x5_1 : Int).toNat ((ji10) % 256)) := ⟨_, rfl⟩
                  replace H : (asn1ber_encodeUnsignedInteger.l0 k1 a0 (wrap64 (x3_1 - 1)) y128 (wrap64 (x5_1 + 1))) = some r := by first | (rw [hy128]; with_reducible exact H) | (have H2_ := (Option.bind_some _ _).symm.trans H; rw [hy128]; with_reducible exact H2_) | (have H2_ := (Option.bind_some _ _).symm.trans H; with_reducible exact H2_) | with_reducible exact H | (rw [hy128]; exact H) | exact H
                  have Ny128 := Aside0.mk hy128
                  clear hy128
                  have H' := Aside0.mk H
                  clear H
                  have p13 : 0 ≤ (x5_1 : Int) := of_decide_eq_true (by first | (with_reducible assumption) | assumption)
                  have q13 : (x5_1 : Int) < ((x4_1.length : Int) : Int) := of_decide_eq_true (by first | (with_reducible assumption) | assumption)
                  obtain ⟨go13, co13, eo13, gb13, gl13, cl13, HG13⟩ := Kd.R_form HO_4.out (by omega)
                  (first | cases eo13 | (injection eo13 with ea_ en_ ec_; (first | subst ea_ | (injection ea_ with ea_; subst ea_)); subst ec_; clear en_))
                  have GB13 := Aside0.mk gb13
                  have GG13 := Aside0.mk HG13
                  clear gb13 gl13 HG13
                  obtain ⟨hx13_0, hf13_0⟩ := Kd.R_celln 0 HO_4.out (x5_1 : Int) p13 q13
                  replace p13 := eq_true p13
                  replace q13 := eq_true q13
                  have HP14 := Kd.R_putg HO_4.out (x5_1 : Int) ((ji10) % 256)
                  go_wp2_with (first | ((with_reducible refine gate_store (t := 5) (p := 23) rfl ?_); refine store_event (t := 5) (p := 23) (v := ?vo_w15) (w1 := (wr.setCell ⟨go13, (x5_1 : Int).toNat, none⟩ (.int .u8 ((ji10) % 256)))) ?hg ?ho ?hn ?hr ?_; (case ho => rfl); (case hg => rfl); (case hn => rfl); (case hr => first | (go_simp; done) | (go_simp; rfl)); intro w15 hw; have hg : wr.grownBy w15 (some go13) := (by rw [hw]; exact HP14.2); have hp_ : Kd.R (Kd.int .u8) 5 w15 w.heap.size (fun _ => True) (.slice (some ⟨go13, 0, none⟩) x4_1.length co13) y128 := (by rw [hw, Ny128.out]; exact HP14.1); clear HP14; have n0_ := Aside0.mk (hp_); have n1_ := Aside0.mk ((by rw [hw]; exact below_set (HB.out) GB13.out : Below w.heap.size w w15)); clear HO_4; clear HB; have HO_4 := n0_; have HB := n1_; clear n0_ n1_; clear hg hw hp_))
                  go_roundg k1
                  case measure => have := HK1.out; omega
                  case rel => exact ⟨(wrap64 (x3_1 - 1)), (y128), (wrap64 (x5_1 + 1)), (by first | rfl | (simp; done) | (simp [*]; done)), (by first | rfl | (simp; done) | (simp [*]; done)), H', ⟨by have := HK1.out; omega⟩, ⟨by (with_reducible repeat (first | apply Kd.R_alloc | apply Kd.R_drewN | apply Kd.R_drew)); exact HO_4.out⟩, ⟨by repeat (first | (with_reducible first | exact HB.out | apply below_alloc | apply pw_below_drewN | apply below_drew1) | exact HB.out)⟩⟩
                · rw [if_neg c12] at H
                  exact absurd H (by simp)
              · rw [if_neg c11] at H
                exact absurd H (by simp)
            · rw [if_neg c9] at H
              exact absurd H (by simp)
          · rw [if_neg c7] at H
            have c7b0 : decide (0 < x3_1) = false := decide_eq_false c7
            clear c7
            obtain rfl := Option.some.inj H
            go_wp2
            go_ret
            exact ⟨_, by first | rfl | (simp [errW_none, errW_some] <;> rfl) | (simp [*, errW_none, errW_some] <;> rfl), by (with_reducible repeat (first | apply Kd.R_alloc | apply Kd.R_drewN | apply Kd.R_drew)); exact HO_4.out, by repeat (first | (with_reducible first | exact HB.out | apply below_alloc | apply pw_below_drewN | apply below_drew1) | exact HB.out)⟩
    · rw [if_neg c4] at H
      exact absurd H (by simp)
  · rw [if_neg c3] at H
    exact absurd H (by simp)

/-! ### asn1ber_encodeLength: function 34 -/
def asn1ber_encodeLength.f (k : Nat) (a0 : Int) : Option (List Int) := (asn1ber_encodeUnsignedInteger.f k (IntKind.u64.wrap (a0))).bind fun t129 => (if a0 > 127 then ((some (([Go.bits .or .u8 128 (((t129.length : Int)) % 256)] : List Int) : List Int)).bind fun y132 => (if y132.length + t129.length < 140737488355328 then (some (y132 ++ t129)) else (none))) else (if (t129.length : Int) > 1 then ((some (([Go.bits .or .u8 128 (((t129.length : Int)) % 256)] : List Int) : List Int)).bind fun y138 => (if y138.length + t129.length < 140737488355328 then (some (y138 ++ t129)) else (none))) else (some t129)))
set_option maxHeartbeats 8000000 in
set_option maxRecDepth 100000 in
theorem asn1ber_encodeLength.calls (k : Nat) (a0 : Int) (r : List Int) (w : World) (h : asn1ber_encodeLength.f k a0 = some r) :
    Calls Tryd.prog 34 #[.int .i64 a0] w fun e w' => ∃ v0_ : Value, e = .returned (v0_) ∧ Kd.R (Kd.int .u8) 5 w' w.heap.size (fun _ => True) v0_ r ∧ Below w.heap.size w w' := by
  have HB := Aside0.mk (Below.refl w.heap.size w)
  have H : ((asn1ber_encodeUnsignedInteger.f k (IntKind.u64.wrap (a0))).bind fun t129 => (if a0 > 127 then ((some (([Go.bits .or .u8 128 (((t129.length : Int)) % 256)] : List Int) : List Int)).bind fun y132 => (if y132.length + t129.length < 140737488355328 then (some (y132 ++ t129)) else (none))) else (if (t129.length : Int) > 1 then ((some (([Go.bits .or .u8 128 (((t129.length : Int)) % 256)] : List Int) : List Int)).bind fun y138 => (if y138.length + t129.length < 140737488355328 then (some (y138 ++ t129)) else (none))) else (some t129)))) = some r := h
  clear h
  replace H := Option.bind_eq_some_iff.mp H
  obtain ⟨t129, A20, H⟩ := H
  replace H : (if a0 > 127 then ((some (([Go.bits .or .u8 128 (((t129.length : Int)) % 256)] : List Int) : List Int)).bind fun y132 => (if y132.length + t129.length < 140737488355328 then (some (y132 ++ t129)) else (none))) else (if (t129.length : Int) > 1 then ((some (([Go.bits .or .u8 128 (((t129.length : Int)) % 256)] : List Int) : List Int)).bind fun y138 => (if y138.length + t129.length < 140737488355328 then (some (y138 ++ t129)) else (none))) else (some t129))) = some r := H
  have A2 := Aside0.mk A20
  clear A20
  by_cases c3 : a0 > 127
  · rw [if_pos c3] at H
    have c3b0 : decide (127 < a0) = true := decide_eq_true c3
    clear c3
    obtain ⟨y132, hy132⟩ : ∃ y_ : List Int, y_ = (([Go.bits .or .u8 128 (((t129.length : Int)) % 256)] : List Int)) := ⟨_, rfl⟩
    replace H : (if y132.length + t129.length < 140737488355328 then (some (y132 ++ t129)) else (none)) = some r := by first | (rw [hy132]; with_reducible exact H) | (have H2_ := (Option.bind_some _ _).symm.trans H; rw [hy132]; with_reducible exact H2_) | (have H2_ := (Option.bind_some _ _).symm.trans H; with_reducible exact H2_) | with_reducible exact H | (rw [hy132]; exact H) | exact H
    have Ny132 := Aside0.mk hy132
    clear hy132
    by_cases c4 : y132.length + t129.length < 140737488355328
    · rw [if_pos c4] at H
      have LMc4 := Aside0.mk c4
      clear c4
      obtain ⟨y135, hy135⟩ : ∃ y_ : List Int, y_ = (y132 ++ t129) := ⟨_, rfl⟩
      replace H : (some y135) = some r := by first | (rw [hy135]; with_reducible exact H) | (have H2_ := (Option.bind_some _ _).symm.trans H; rw [hy135]; with_reducible exact H2_) | (have H2_ := (Option.bind_some _ _).symm.trans H; with_reducible exact H2_) | with_reducible exact H | (rw [hy135]; exact H) | exact H
      have Ny135 := Aside0.mk hy135
      clear hy135
      obtain rfl := Option.some.inj H
      go_enter Tryd.func34, Tryd.ntmps34
      go_wp2_with (first | ((with_reducible refine gate_callee (f := 51) rfl ?_); refine goesL_ (some 7) rfl rfl Tryd.func51 (by kernel_rfl) rfl #[.int .u64 (IntKind.u64.wrap (a0))] rfl (by (try simp only [List.map_toArray, List.map_cons, List.map_nil]); first | done | rfl | (simp only [List.length_drop, List.length_take]; rfl)) ?_; (with_reducible refine (asn1ber_encodeUnsignedInteger.calls k (IntKind.u64.wrap (a0)) t129 _ A2.out).mono ?_); rintro e w5 ⟨v130, rfl, ho0, hb⟩; refine ⟨_, rfl, ?_⟩; have n0_ := Aside0.mk (Kd.R_lower ho0 (below_size (by repeat (first | (with_reducible first | exact HB.out | apply below_alloc | apply pw_below_drewN | apply below_drew1) | exact HB.out)))); have n1_ := Aside0.mk (below_step (by repeat (first | (with_reducible first | exact HB.out | apply below_alloc | apply pw_below_drewN | apply below_drew1) | exact HB.out)) hb); clear HB; have HO131 := n0_; have HB := n1_; clear n0_ n1_; (try clear hb); (try clear hb2); (try clear hk); (try clear hi); (try clear ho0); obtain ⟨Ao6, co6, eo6⟩ := Kd.R_slice HO131.out; subst eo6) | ((with_reducible refine gate_dst (N := 19) rfl ?_); (try (refine gate_guard (by rfl) ?_; dsimp only)); refine Kd.R_lit (Kd.int .u8) _ 5 ?hg (N := 19) ?hd (xs := ([Go.bits .or .u8 128 (((t129.length : Int)) % 256)] : List Int)) (inner := [.int .u8 (Go.bits .or .u8 128 (((t129.length : Int)) % 256))]) (ok := fun _ => True) (okp := fun _ => True) ?hr ?hp (fun _ hk => hk) trivial (Below.refl _ _) (Nat.le_refl _) (by simp) ?_; (case hd => rfl); (case hg => rfl); (case hr => first | (go_simp; done) | (go_simp; rfl)); (case hp => exact (Reps.one (show Kd.M (Kd.int .u8) _ _ _ (Go.bits .or .u8 128 (((t129.length : Int)) % 256)) [.int .u8 (Go.bits .or .u8 128 (((t129.length : Int)) % 256))] from rfl) (Reps.none _ _))); intro v133 w7 ho8 hb hg_ hnew_; clear hg_ hnew_; (first | rw [← Ny132.out] at ho8 | (simp only [Int.reduceToNat] at ho8; rw [← Ny132.out] at ho8)); have n0_ := Aside0.mk (Kd.R_elder' (by (with_reducible repeat (first | apply Kd.R_alloc | apply Kd.R_drewN | apply Kd.R_drew)); exact HO131.out) (Kd.R_base ho8) hb); have n1_ := Aside0.mk (Kd.R_lower (Kd.R_new' ho8 (Kd.R_lt (by (with_reducible repeat (first | apply Kd.R_alloc | apply Kd.R_drewN | apply Kd.R_drew)); exact HO131.out))) (below_size (by repeat (first | (with_reducible first | exact HB.out | apply below_alloc | apply pw_below_drewN | apply below_drew1) | exact HB.out)))); have n2_ := Aside0.mk (below_step (by repeat (first | (with_reducible first | exact HB.out | apply below_alloc | apply pw_below_drewN | apply below_drew1) | exact HB.out)) hb); clear HO131; clear HB; have HO131 := n0_; have HO134 := n1_; have HB := n2_; clear n0_ n1_ n2_; clear hb ho8) | ((with_reducible refine gate_builtin (b := .append) (xs := #[.tmp 20, .tmp 21]) rfl ?_); (try (refine gate_guard (by rfl) ?_; dsimp only)); at_builtin; refine Kd.R_append_rows (Kd.int .u8) (w0 := w) w.heap.size rfl (.tmp 20) (.tmp 21) 22 5 (.int .u8 0) 1 rfl Tryd.underlying22 info5 rfl (by decide) (by omega) v133 y132 t129 _ _ _ (fun k_ => some k_ ≠ (.slice Ao6 t129.length co6 : Value).ownBlock) (fun _ => False) rfl rfl ?aO ?aR (fun _ _ h => h) (fun _ h => h.elim) ?aF ?aB ?aS ?aL ?_; (case aR => repeat (first | exact (Kd.R_reads' HO131.out).2.2 | (with_reducible refine Kd.C_alloc ?_ _) | (with_reducible refine Kd.C_drewN ?_ _) | (with_reducible refine Kd.C_drew ?_))); (case aB => exact (by repeat (first | (with_reducible first | exact HB.out | apply below_alloc | apply pw_below_drewN | apply below_drew1) | exact HB.out))); (case aF => exact (fun k_ hk => Kd.fresh' (Kd.R_lt (by (with_reducible repeat (first | apply Kd.R_alloc | apply Kd.R_drewN | apply Kd.R_drew)); exact HO131.out)) k_ hk)); (case aO => exact (by (with_reducible repeat (first | apply Kd.R_alloc | apply Kd.R_drewN | apply Kd.R_drew)); exact Kd.R_mono HO134.out (fun _ hk => hk.2))); (case aS => exact (below_size (by repeat (first | (with_reducible first | exact HB.out | apply below_alloc | apply pw_below_drewN | apply below_drew1) | exact HB.out)))); (case aL => have := LMc4.out; omega); intro v136 w9 ho hb hg hat; rw [← Ny135.out] at ho; have n0_ := Aside0.mk (Kd.R_after (ok := (fun _ => True)) (by (with_reducible repeat (first | apply Kd.R_alloc | apply Kd.R_drewN | apply Kd.R_drew)); exact HO131.out) hg hat); have n1_ := Aside0.mk (hb); have n2_ := Aside0.mk (ho); clear HO131; clear HB; clear HO134; have HO131 := n0_; have HB := n1_; have HO137 := n2_; clear n0_ n1_ n2_; clear ho hb hg hat))
      go_ret
      exact ⟨_, by first | rfl | (simp [errW_none, errW_some] <;> rfl) | (simp [*, errW_none, errW_some] <;> rfl), by (with_reducible repeat (first | apply Kd.R_alloc | apply Kd.R_drewN | apply Kd.R_drew)); exact Kd.R_mono HO137.out (fun _ hk => trivial), by repeat (first | (with_reducible first | exact HB.out | apply below_alloc | apply pw_below_drewN | apply below_drew1) | exact HB.out)⟩
    · rw [if_neg c4] at H
      exact absurd H (by simp)
  · rw [if_neg c3] at H
    have c3b0 : decide (127 < a0) = false := decide_eq_false c3
    clear c3
    by_cases c10 : (t129.length : Int) > 1
    · rw [if_pos c10] at H
      have c10b0 : decide (1 < (t129.length : Int)) = true := decide_eq_true c10
      have c10b1 : decide (1 < t129.length) = true := decide_eq_true (by omega)
      clear c10
      obtain ⟨y138, hy138⟩ : ∃ y_ : List Int, y_ = (([Go.bits .or .u8 128 (((t129.length : Int)) % 256)] : List Int)) := ⟨_, rfl⟩
      replace H : (if y138.length + t129.length < 140737488355328 then (some (y138 ++ t129)) else (none)) = some r := by first | (rw [hy138]; with_reducible exact H) | (have H2_ := (Option.bind_some _ _).symm.trans H; rw [hy138]; with_reducible exact H2_) | (have H2_ := (Option.bind_some _ _).symm.trans H; with_reducible exact H2_) | with_reducible exact H | (rw [hy138]; exact H) | exact H
      have Ny138 := Aside0.mk hy138
      clear hy138
      by_cases c11 : y138.length + t129.length < 140737488355328
      · rw [if_pos c11] at H
        have LMc11 := Aside0.mk c11
        clear c11
        obtain ⟨y141, hy141⟩ : ∃ y_ : List Int, y_ = (y138 ++ t129) := ⟨_, rfl⟩
        replace H : (some y141) = some r := by first | (rw [hy141]; with_reducible exact H) | (have H2_ := (Option.bind_some _ _).symm.trans H; rw [hy141]; with_reducible exact H2_) | (have H2_ := (Option.bind_some _ _).symm.trans H; with_reducible exact H2_) | with_reducible exact H | (rw [hy141]; exact H) | exact H
        have Ny141 := Aside0.mk hy141
        clear hy141
        obtain rfl := Option.some.inj H
        go_enter Tryd.func34, Tryd.ntmps34
        go_wp2_with (first | ((with_reducible refine gate_callee (f := 51) rfl ?_); refine goesL_ (some 7) rfl rfl Tryd.func51 (by kernel_rfl) rfl #[.int .u64 (IntKind.u64.wrap (a0))] rfl (by (try simp only [List.map_toArray, List.map_cons, List.map_nil]); first | done | rfl | (simp only [List.length_drop, List.length_take]; rfl)) ?_; (with_reducible refine (asn1ber_encodeUnsignedInteger.calls k (IntKind.u64.wrap (a0)) t129 _ A2.out).mono ?_); rintro e w12 ⟨v130, rfl, ho0, hb⟩; refine ⟨_, rfl, ?_⟩; have n0_ := Aside0.mk (Kd.R_lower ho0 (below_size (by repeat (first | (with_reducible first | exact HB.out | apply below_alloc | apply pw_below_drewN | apply below_drew1) | exact HB.out)))); have n1_ := Aside0.mk (below_step (by repeat (first | (with_reducible first | exact HB.out | apply below_alloc | apply pw_below_drewN | apply below_drew1) | exact HB.out)) hb); clear HB; have HO131 := n0_; have HB := n1_; clear n0_ n1_; (try clear hb); (try clear hb2); (try clear hk); (try clear hi); (try clear ho0); obtain ⟨Ao13, co13, eo13⟩ := Kd.R_slice HO131.out; subst eo13) | ((with_reducible refine gate_dst (N := 19) rfl ?_); (try (refine gate_guard (by rfl) ?_; dsimp only)); refine Kd.R_lit (Kd.int .u8) _ 5 ?hg (N := 19) ?hd (xs := ([Go.bits .or .u8 128 (((t129.length : Int)) % 256)] : List Int)) (inner := [.int .u8 (Go.bits .or .u8 128 (((t129.length : Int)) % 256))]) (ok := fun _ => True) (okp := fun _ => True) ?hr ?hp (fun _ hk => hk) trivial (Below.refl _ _) (Nat.le_refl _) (by simp) ?_; (case hd => rfl); (case hg => rfl); (case hr => first | (go_simp; done) | (go_simp; rfl)); (case hp => exact (Reps.one (show Kd.M (Kd.int .u8) _ _ _ (Go.bits .or .u8 128 (((t129.length : Int)) % 256)) [.int .u8 (Go.bits .or .u8 128 (((t129.length : Int)) % 256))] from rfl) (Reps.none _ _))); intro v139 w14 ho15 hb hg_ hnew_; clear hg_ hnew_; (first | rw [← Ny138.out] at ho15 | (simp only [Int.reduceToNat] at ho15; rw [← Ny138.out] at ho15)); have n0_ := Aside0.mk (Kd.R_elder' (by (with_reducible repeat (first | apply Kd.R_alloc | apply Kd.R_drewN | apply Kd.R_drew)); exact HO131.out) (Kd.R_base ho15) hb); have n1_ := Aside0.mk (Kd.R_lower (Kd.R_new' ho15 (Kd.R_lt (by (with_reducible repeat (first | apply Kd.R_alloc | apply Kd.R_drewN | apply Kd.R_drew)); exact HO131.out))) (below_size (by repeat (first | (with_reducible first | exact HB.out | apply below_alloc | apply pw_below_drewN | apply below_drew1) | exact HB.out)))); have n2_ := Aside0.mk (below_step (by repeat (first | (with_reducible first | exact HB.out | apply below_alloc | apply pw_below_drewN | apply below_drew1) | exact HB.out)) hb); clear HO131; clear HB; have HO131 := n0_; have HO140 := n1_; have HB := n2_; clear n0_ n1_ n2_; clear hb ho15) | ((with_reducible refine gate_builtin (b := .append) (xs := #[.tmp 20, .tmp 21]) rfl ?_); (try (refine gate_guard (by rfl) ?_; dsimp only)); at_builtin; refine Kd.R_append_rows (Kd.int .u8) (w0 := w) w.heap.size rfl (.tmp 20) (.tmp 21) 22 5 (.int .u8 0) 1 rfl Tryd.underlying22 info5 rfl (by decide) (by omega) v139 y138 t129 _ _ _ (fun k_ => some k_ ≠ (.slice Ao13 t129.length co13 : Value).ownBlock) (fun _ => False) rfl rfl ?aO ?aR (fun _ _ h => h) (fun _ h => h.elim) ?aF ?aB ?aS ?aL ?_; (case aR => repeat (first | exact (Kd.R_reads' HO131.out).2.2 | (with_reducible refine Kd.C_alloc ?_ _) | (with_reducible refine Kd.C_drewN ?_ _) | (with_reducible refine Kd.C_drew ?_))); (case aB => exact (by repeat (first | (with_reducible first | exact HB.out | apply below_alloc | apply pw_below_drewN | apply below_drew1) | exact HB.out))); (case aF => exact (fun k_ hk => Kd.fresh' (Kd.R_lt (by (with_reducible repeat (first | apply Kd.R_alloc | apply Kd.R_drewN | apply Kd.R_drew)); exact HO131.out)) k_ hk)); (case aO => exact (by (with_reducible repeat (first | apply Kd.R_alloc | apply Kd.R_drewN | apply Kd.R_drew)); exact Kd.R_mono HO140.out (fun _ hk => hk.2))); (case aS => exact (below_size (by repeat (first | (with_reducible first | exact HB.out | apply below_alloc | apply pw_below_drewN | apply below_drew1) | exact HB.out)))); (case aL => have := LMc11.out; omega); intro v142 w16 ho hb hg hat; rw [← Ny141.out] at ho; have n0_ := Aside0.mk (Kd.R_after (ok := (fun _ => True)) (by (with_reducible repeat (first | apply Kd.R_alloc | apply Kd.R_drewN | apply Kd.R_drew)); exact HO131.out) hg hat); have n1_ := Aside0.mk (hb); have n2_ := Aside0.mk (ho); clear HO131; clear HB; clear HO140; have HO131 := n0_; have HB := n1_; have HO143 := n2_; clear n0_ n1_ n2_; clear ho hb hg hat))
        go_ret
        exact ⟨_, by first | rfl | (simp [errW_none, errW_some] <;> rfl) | (simp [*, errW_none, errW_some] <;> rfl), by (with_reducible repeat (first | apply Kd.R_alloc | apply Kd.R_drewN | apply Kd.R_drew)); exact Kd.R_mono HO143.out (fun _ hk => trivial), by repeat (first | (with_reducible first | exact HB.out | apply below_alloc | apply pw_below_drewN | apply below_drew1) | exact HB.out)⟩
      · rw [if_neg c11] at H
        exact absurd H (by simp)
    · rw [if_neg c10] at H
      have c10b0 : decide (1 < (t129.length : Int)) = false := decide_eq_false c10
      have c10b1 : decide (1 < t129.length) = false := decide_eq_false (by omega)
      clear c10
      obtain rfl := Option.some.inj H
      go_enter Tryd.func34, Tryd.ntmps34
      go_wp2_with (first | ((with_reducible refine gate_callee (f := 51) rfl ?_); refine goesL_ (some 7) rfl rfl Tryd.func51 (by kernel_rfl) rfl #[.int .u64 (IntKind.u64.wrap (a0))] rfl (by (try simp only [List.map_toArray, List.map_cons, List.map_nil]); first | done | rfl | (simp only [List.length_drop, List.length_take]; rfl)) ?_; (with_reducible refine (asn1ber_encodeUnsignedInteger.calls k (IntKind.u64.wrap (a0)) t129 _ A2.out).mono ?_); rintro e w17 ⟨v130, rfl, ho0, hb⟩; refine ⟨_, rfl, ?_⟩; have n0_ := Aside0.mk (Kd.R_lower ho0 (below_size (by repeat (first | (with_reducible first | exact HB.out | apply below_alloc | apply pw_below_drewN | apply below_drew1) | exact HB.out)))); have n1_ := Aside0.mk (below_step (by repeat (first | (with_reducible first | exact HB.out | apply below_alloc | apply pw_below_drewN | apply below_drew1) | exact HB.out)) hb); clear HB; have HO131 := n0_; have HB := n1_; clear n0_ n1_; (try clear hb); (try clear hb2); (try clear hk); (try clear hi); (try clear ho0); obtain ⟨Ao18, co18, eo18⟩ := Kd.R_slice HO131.out; subst eo18))
      go_ret
      exact ⟨_, by first | rfl | (simp [errW_none, errW_some] <;> rfl) | (simp [*, errW_none, errW_some] <;> rfl), by (with_reducible repeat (first | apply Kd.R_alloc | apply Kd.R_drewN | apply Kd.R_drew)); exact HO131.out, by repeat (first | (with_reducible first | exact HB.out | apply below_alloc | apply pw_below_drewN | apply below_drew1) | exact HB.out)⟩

/-! ### asn1ber_LengthBytes: function 30 -/
def asn1ber_LengthBytes.f (k : Nat) (a0 : Int) : Option (List Int) := (asn1ber_encodeLength.f k a0).bind fun t144 => (some t144)
set_option maxHeartbeats 8000000 in
set_option maxRecDepth 100000 in
theorem asn1ber_LengthBytes.calls (k : Nat) (a0 : Int) (r : List Int) (w : World) (h : asn1ber_LengthBytes.f k a0 = some r) :
    Calls Tryd.prog 30 #[.int .i64 a0] w fun e w' => ∃ v0_ : Value, e = .returned (v0_) ∧ Kd.R (Kd.int .u8) 5 w' w.heap.size (fun _ => True) v0_ r ∧ Below w.heap.size w w' := by
  have HB := Aside0.mk (Below.refl w.heap.size w)
  have H : ((asn1ber_encodeLength.f k a0).bind fun t144 => (some t144)) = some r := h
  clear h
  replace H := Option.bind_eq_some_iff.mp H
  obtain ⟨t144, A20, H⟩ := H
  replace H : (some t144) = some r := H
  have A2 := Aside0.mk A20
  clear A20
  obtain rfl := Option.some.inj H
  go_enter Tryd.func30, Tryd.ntmps30
  go_wp2_with (first | ((with_reducible refine gate_callee (f := 34) rfl ?_); refine goesL_ (some 4) rfl rfl Tryd.func34 (by kernel_rfl) rfl #[.int .i64 a0] rfl (by (try simp only [List.map_toArray, List.map_cons, List.map_nil]); first | done | rfl | (simp only [List.length_drop, List.length_take]; rfl)) ?_; (with_reducible refine (asn1ber_encodeLength.calls k a0 t144 _ A2.out).mono ?_); rintro e w3 ⟨v145, rfl, ho0, hb⟩; refine ⟨_, rfl, ?_⟩; have n0_ := Aside0.mk (Kd.R_lower ho0 (below_size (by repeat (first | (with_reducible first | exact HB.out | apply below_alloc | apply pw_below_drewN | apply below_drew1) | exact HB.out)))); have n1_ := Aside0.mk (below_step (by repeat (first | (with_reducible first | exact HB.out | apply below_alloc | apply pw_below_drewN | apply below_drew1) | exact HB.out)) hb); clear HB; have HO146 := n0_; have HB := n1_; clear n0_ n1_; (try clear hb); (try clear hb2); (try clear hk); (try clear hi); (try clear ho0)))
  go_ret
  exact ⟨_, by first | rfl | (simp [errW_none, errW_some] <;> rfl) | (simp [*, errW_none, errW_some] <;> rfl), by (with_reducible repeat (first | apply Kd.R_alloc | apply Kd.R_drewN | apply Kd.R_drew)); exact HO146.out, by repeat (first | (with_reducible first | exact HB.out | apply below_alloc | apply pw_below_drewN | apply below_drew1) | exact HB.out)⟩

/-! ### impl_EncodeLength: function 20 -/
def impl_EncodeLength.f (k : Nat) (a0 : Int) : Option (List Int) := (asn1ber_LengthBytes.f k a0).bind fun t147 => (some t147)
set_option maxHeartbeats 8000000 in
set_option maxRecDepth 100000 in
theorem impl_EncodeLength.calls (k : Nat) (a0 : Int) (r : List Int) (w : World) (h : impl_EncodeLength.f k a0 = some r) :
    Calls Tryd.prog 20 #[.int .i64 a0] w fun e w' => ∃ v0_ : Value, e = .returned (v0_) ∧ Kd.R (Kd.int .u8) 5 w' w.heap.size (fun _ => True) v0_ r ∧ Below w.heap.size w w' := by
  have HB := Aside0.mk (Below.refl w.heap.size w)
  have H : ((asn1ber_LengthBytes.f k a0).bind fun t147 => (some t147)) = some r := h
  clear h
  replace H := Option.bind_eq_some_iff.mp H
  obtain ⟨t147, A20, H⟩ := H
  replace H : (some t147) = some r := H
  have A2 := Aside0.mk A20
  clear A20
  obtain rfl := Option.some.inj H
  go_enter Tryd.func20, Tryd.ntmps20
  go_wp2_with (first | ((with_reducible refine gate_callee (f := 30) rfl ?_); refine goesL_ (some 4) rfl rfl Tryd.func30 (by kernel_rfl) rfl #[.int .i64 a0] rfl (by (try simp only [List.map_toArray, List.map_cons, List.map_nil]); first | done | rfl | (simp only [List.length_drop, List.length_take]; rfl)) ?_; (with_reducible refine (asn1ber_LengthBytes.calls k a0 t147 _ A2.out).mono ?_); rintro e w3 ⟨v148, rfl, ho0, hb⟩; refine ⟨_, rfl, ?_⟩; have n0_ := Aside0.mk (Kd.R_lower ho0 (below_size (by repeat (first | (with_reducible first | exact HB.out | apply below_alloc | apply pw_below_drewN | apply below_drew1) | exact HB.out)))); have n1_ := Aside0.mk (below_step (by repeat (first | (with_reducible first | exact HB.out | apply below_alloc | apply pw_below_drewN | apply below_drew1) | exact HB.out)) hb); clear HB; have HO149 := n0_; have HB := n1_; clear n0_ n1_; (try clear hb); (try clear hb2); (try clear hk); (try clear hi); (try clear ho0)))
  go_ret
  exact ⟨_, by first | rfl | (simp [errW_none, errW_some] <;> rfl) | (simp [*, errW_none, errW_some] <;> rfl), by (with_reducible repeat (first | apply Kd.R_alloc | apply Kd.R_drewN | apply Kd.R_drew)); exact HO149.out, by repeat (first | (with_reducible first | exact HB.out | apply below_alloc | apply pw_below_drewN | apply below_drew1) | exact HB.out)⟩

/-! ### laws_works: function 10 -/
def laws_works.f (k : Nat)  : Option (Bool) := (impl_EncodeLength.f k 5).bind fun t150 => (some ((strOfNums t150).toList == ([5] : List UInt8)))
set_option maxHeartbeats 8000000 in
set_option maxRecDepth 100000 in
theorem laws_works.calls (k : Nat)  (r : Bool) (w : World) (h : laws_works.f k  = some r) :
    Calls Tryd.prog 10 #[] w fun e w' => e = .returned (.bool r) ∧ Below w.heap.size w w' := by
  have HB := Aside0.mk (Below.refl w.heap.size w)
  have H : ((impl_EncodeLength.f k 5).bind fun t150 => (some ((strOfNums t150).toList == ([5] : List UInt8)))) = some r := h
  clear h
  replace H := Option.bind_eq_some_iff.mp H
  obtain ⟨t150, A10, H⟩ := H
  replace H : (some ((strOfNums t150).toList == ([5] : List UInt8))) = some r := H
  have A1 := Aside0.mk A10
  clear A10
  obtain rfl := Option.some.inj H
  go_enter Tryd.func10, Tryd.ntmps10
  go_wp2_with (first | ((with_reducible refine gate_callee (f := 20) rfl ?_); refine goesL_ (some 1) rfl rfl Tryd.func20 (by kernel_rfl) rfl #[.int .i64 5] rfl (by (try simp only [List.map_toArray, List.map_cons, List.map_nil]); first | done | rfl | (simp only [List.length_drop, List.length_take]; rfl)) ?_; (with_reducible refine (impl_EncodeLength.calls k 5 t150 _ A1.out).mono ?_); rintro e w2 ⟨v151, rfl, ho0, hb⟩; refine ⟨_, rfl, ?_⟩; have n0_ := Aside0.mk (Kd.R_lower ho0 (below_size (by repeat (first | (with_reducible first | exact HB.out | apply below_alloc | apply pw_below_drewN | apply below_drew1) | exact HB.out)))); have n1_ := Aside0.mk (below_step (by repeat (first | (with_reducible first | exact HB.out | apply below_alloc | apply pw_below_drewN | apply below_drew1) | exact HB.out)) hb); clear HB; have HO152 := n0_; have HB := n1_; clear n0_ n1_; (try clear hb); (try clear hb2); (try clear hk); (try clear hi); (try clear ho0); have hcv3 := own_string (P := Tryd.prog) Tryd.underlying22 Tryd.underlying5 Tryd.underlying9 (Kd.own_of_R HO152.out)))
  go_ret
  exact ⟨by first | rfl | (simp [errW_none, errW_some] <;> rfl) | (simp [*, errW_none, errW_some] <;> rfl), by repeat (first | (with_reducible first | exact HB.out | apply below_alloc | apply pw_below_drewN | apply below_drew1) | exact HB.out)⟩

-- NOT PRINTED: function 21 (impl_safely)

-- NOT PRINTED: function 11 (impl_Decode)

/-! ### spec_Identifier: function 28 -/
/-! ### spec_Length: function 29 -/
end Go.Proofs.YtejbpbdlolehnaaDoor.PFnEncode
namespace Go.Proofs.YtejbpbdlolehnaaDoor.Num
open Go.RowKit Go.Proofs.YtejbpbdlolehnaaDoorW.PrintWords Go.Proofs.YtejbpbdlolehnaaDoorW.PrintLast Go.Proofs.YtejbpbdlolehnaaDoorW.PrintMore Go.Proofs.YtejbpbdlolehnaaDoor.PFnEncode
set_option linter.unusedVariables false
set_option linter.unusedSimpArgs false

/-- the number of digits to the base 256, at least one -/
def nd (x : Nat) : Nat := if _h : x < 256 then 1 else nd (x / 256) + 1
termination_by x
decreasing_by omega

/-- m digits of a whole number to the base 256 (two's complement), the great one first -/
def be (x : Int) : Nat → List Int
  | 0 => []
  | m + 1 => (x / 256 ^ m % 256) :: be x m

theorem be_length (x : Int) (m : Nat) : (be x m).length = m := by
  induction m with
  | zero => rfl
  | succ m ih => simp [be, ih]

theorem be_snoc (x : Int) (m : Nat) : be x (m + 1) = be (x / 256) m ++ [x % 256] := by
  induction m with
  | zero => simp [be]
  | succ m ih =>
    rw [be, ih]
    show _ = ((x / 256) / 256 ^ m % 256) :: be (x / 256) m ++ _
    rw [Int.ediv_ediv_of_nonneg (by omega), show (256 : Int) * 256 ^ m = 256 ^ (m + 1) by rw [Int.pow_succ, Int.mul_comm]]
    rfl

theorem be_one (x : Int) : be x 1 = [x % 256] := by rw [be_snoc]; rfl

theorem nd_small {x : Nat} (h : x < 256) : nd x = 1 := by rw [nd, dif_pos h]
theorem nd_great {x : Nat} (h : ¬ x < 256) : nd x = nd (x / 256) + 1 := by rw [nd, dif_neg h]

theorem nd_le : ∀ (k x : Nat), x < 256 ^ (k + 1) → nd x ≤ k + 1 := by
  intro k
  induction k with
  | zero => intro x h; rw [nd_small (by simpa using h)]; omega
  | succ k ih =>
    intro x h
    by_cases hx : x < 256
    · rw [nd_small hx]; omega
    · rw [nd_great hx]
      have := ih (x / 256) (by rw [Nat.div_lt_iff_lt_mul (by omega)]; rw [Nat.pow_succ] at h; exact h)
      omega

theorem nd_pos (x : Nat) : 1 ≤ nd x := by
  by_cases hx : x < 256
  · rw [nd_small hx]; omega
  · rw [nd_great hx]; omega

theorem ulen (k : Nat) : ∀ (x : Nat) (c : Int), x < 256 ^ (k + 1) → 0 ≤ c → c + k < 4611686018427387904 →
    asn1ber_uint64Length.l0 (k + 1) (x : Int) c = some (c + nd x - 1) := by
  induction k with
  | zero =>
    intro x c hx _ _
    have hx' : x < 256 := by simpa using hx
    unfold asn1ber_uint64Length.l0
    rw [if_neg (by omega), nd_small hx']
    congr 1; omega
  | succ k ih =>
    intro x c hx h0 hc
    unfold asn1ber_uint64Length.l0
    by_cases hs : x < 256
    · rw [if_neg (by omega), nd_small hs]
      congr 1; omega
    · rw [if_pos (by omega), nd_great hs]
      have e1 : wrap64 (c + 1) = c + 1 := by unfold wrap64; omega
      have e2 : (x : Int) / 256 = ((x / 256 : Nat) : Int) := by omega
      rw [e1, e2, ih (x / 256) (c + 1) (by rw [Nat.div_lt_iff_lt_mul (by omega)]; rw [Nat.pow_succ] at hx; exact hx) (by omega) (by omega)]
      congr 1; omega

theorem take_set_snoc (l : List Int) (j : Nat) (v : Int) (h : j < l.length) : (l.set j v).take (j + 1) = l.take j ++ [v] := by
  induction l generalizing j with
  | nil => simp at h
  | cons a l ih =>
    cases j with
    | zero => simp
    | succ j => simp only [List.set_cons_succ, List.take_succ_cons, List.cons_append]; rw [ih j (by simpa using h)]

theorem shr_at (k : IntKind) (hk : k.bits = 64) (x : Int) (m : Nat) (hm : m < 8) : (shr k x ((m : Int) * 8)) % 256 = x / 256 ^ m % 256 := by
  unfold shr
  rw [hk, show min ((m : Int) * 8).toNat 64 = 8 * m by omega, Int.pow_mul]
  rfl

theorem uenc (m : Nat) : ∀ (x : Int) (j : Nat) (out : List Int), m ≤ 8 → j + m ≤ 8 → out.length = j + m →
    asn1ber_encodeUnsignedInteger.l0 (m + 1) x (m : Int) out (j : Int) = some (out.take j ++ be x m) := by
  induction m with
  | zero =>
    intro x j out _ _ hl
    unfold asn1ber_encodeUnsignedInteger.l0
    rw [if_neg (by omega), List.take_of_length_le (by omega)]
    simp [be]
  | succ m ih =>
    intro x j out hm hj hl
    unfold asn1ber_encodeUnsignedInteger.l0
    have e1 : wrap64 (((m + 1 : Nat) : Int) - 1) = (m : Int) := by unfold wrap64; omega
    have e2 : wrap64 ((m : Int) * 8) = (m : Int) * 8 := by unfold wrap64; omega
    have e3 : IntKind.u64.wrap ((m : Int) * 8) = (m : Int) * 8 := IntWalk.u64_in _ (by omega)
    have e4 : wrap64 ((j : Int) + 1) = ((j + 1 : Nat) : Int) := by unfold wrap64; omega
    rw [e1, e2, e3, e4]
    rw [if_pos (show ((m + 1 : Nat) : Int) > 0 by omega), if_pos (show (0 : Int) ≤ (m : Int) * 8 by omega), if_pos (show (0 : Int) ≤ (j : Int) by omega), if_pos (show (j : Int) < (out.length : Int) by omega), shr_at .u64 rfl x m (by omega)]
    rw [Int.toNat_natCast, ih x (j + 1) (out.set j (x / 256 ^ m % 256)) (by omega) (by omega) (by rw [List.length_set]; omega)]
    rw [take_set_snoc _ _ _ (by omega)]
    simp [be]

theorem uint_enc (x : Nat) (hx : x < 256 ^ 8) (k : Nat) (hk : 9 ≤ k) : asn1ber_encodeUnsignedInteger.f k (x : Int) = some (be x (nd x)) := by
  have hn := nd_le 7 x hx
  have h1 : asn1ber_uint64Length.f 8 (x : Int) = some (nd x : Int) := by
    unfold asn1ber_uint64Length.f
    rw [ulen 7 x 1 hx (by omega) (by omega)]
    congr 1; omega
  have h1' := at_rounds (fun n => asn1ber_uint64Length.mono (x : Int) n) (show 8 ≤ k by omega) h1
  unfold asn1ber_encodeUnsignedInteger.f
  rw [h1']
  simp only [Option.bind_some]
  rw [if_pos (by omega), if_pos (by omega)]
  have h2 := uenc (nd x) x 0 (List.replicate (nd x) 0) hn (by omega) (by simp)
  have h2' := at_rounds (fun n => (asn1ber_encodeUnsignedInteger.mono_l n) (x : Int) (nd x : Int) (List.replicate (nd x) 0) 0) (show nd x + 1 ≤ k by omega) h2
  simp only [Int.toNat_natCast]
  rw [show (0 : Int) = ((0 : Nat) : Int) from rfl] at h2' ⊢
  rw [h2']; simp

/-- the bytes of a length -/
def lenBytes (n : Nat) : List Int := if n < 128 then [(n : Int)] else (128 + (nd n : Int)) :: be n (nd n)

theorem lenBytes_le (n : Nat) (h : n < 256 ^ 8) : (lenBytes n).length ≤ 9 := by
  unfold lenBytes
  have := nd_le 7 n h
  split
  · simp
  · simp [be_length]; omega

theorem or128 : ∀ n : Fin 9, Go.bits .or .u8 128 ((n : Nat) : Int) = 128 + ((n : Nat) : Int) := by decide +kernel

theorem enc_len (n : Nat) (hn : n < 256 ^ 7) : asn1ber_encodeLength.f 12 (n : Int) = some (lenBytes n) := by
  have h8 : n < 256 ^ 8 := by have : 256 ^ 7 ≤ 256 ^ 8 := Nat.pow_le_pow_right (by omega) (by omega); omega
  have hu : IntKind.u64.wrap (n : Int) = (n : Int) := IntWalk.u64_in _ (by simp at hn; omega)
  have hnd := nd_le 7 n h8
  have hp := nd_pos n
  unfold asn1ber_encodeLength.f lenBytes
  rw [hu, uint_enc n h8 12 (by omega)]
  simp only [Option.bind_some]
  by_cases hs : n < 128
  · rw [if_pos hs, if_neg (by omega), be_length, nd_small (by omega), if_neg (by omega), be_one]
    congr 1
    congr 1
    omega
  · rw [if_neg hs, if_pos (by omega), if_pos (by rw [be_length]; simp; omega), be_length]
    have e := or128 ⟨nd n, by omega⟩
    rw [show ((nd n : Nat) : Int) % 256 = (nd n : Int) by omega, e]
    rfl

theorem works_true : laws_works.f 12 = some true := by decide +kernel
theorem works_any (w : World) : Calls Tryd.prog 10 #[] w fun e w' => e = .returned (.bool true) ∧ Below w.heap.size w w' := laws_works.calls 12 true w works_true
theorem encLen_any (n : Nat) (h : n < 256 ^ 7) (w : World) : Calls Tryd.prog 34 #[.int .i64 (n : Int)] w fun e w' => ∃ v, e = .returned v ∧ (Kd.int .u8).R 5 w' w.heap.size (fun _ => True) v (lenBytes n) ∧ Below w.heap.size w w' :=
  asn1ber_encodeLength.calls 12 n _ w (enc_len n h)
end Go.Proofs.YtejbpbdlolehnaaDoor.Num
namespace Go.Proofs.YtejbpbdlolehnaaDoor.Pk
open Go.RowKit Go.Proofs.YtejbpbdlolehnaaDoorW.PrintWords Go.Proofs.YtejbpbdlolehnaaDoor.Buf
set_option linter.unusedVariables false
set_option linter.unusedSimpArgs false

/-- A packet as data: class, type, tag, the interface value, ByteValue, what Data holds, the children, the description. -/
structure Pk where
  cls : Int
  typ : Int
  tag : Int
  val : Value
  bv : List Int
  data : List Int
  kids : List Pk
  desc : ByteArray

abbrev T : Nat := 73
abbrev TB : Nat := 81
abbrev TP : Nat := 50
abbrev B8 : Kd Int := Kd.int .u8

/-- The struct's cells. -/
def cellsOf (x : Pk) (bv : Value) (db : Nat) (cv : Value) : Array Value :=
  #[.int .u8 x.cls, .int .u8 x.typ, .int .u64 x.tag, x.val, bv, .pointer (some ⟨db, 0, none⟩), cv, .string x.desc]

theorem int_own {k : IntKind} {e : Nat} {w : World} {base : Nat} {ok : Nat → Prop} {v : Value} {xs : List Int} (h : (Kd.int k).R e w base ok v xs) : w.ownsRow base e 1 v xs.length (nums k xs) := Kd.own_of_R h
theorem own_int {k : IntKind} {e : Nat} {w : World} {base : Nat} {ok : Nat → Prop} {v : Value} {xs : List Int} (h : w.ownsRow base e 1 v xs.length (nums k xs)) (hok : ∀ k, v.ownBlock = some k → ok k) : (Kd.int k).R e w base ok v xs := Kd.R_of_own h hok

/-- One packet, its children of kind 'rec': read (K), or the call's own (M): its blocks are ok, and the children's are none of its own. -/
def PkK (rec : Kd Pk) (w : World) (x : Pk) (cs : List Value) : Prop :=
  x.val.oneCell' = true ∧ ∃ b db lr A c Ab cb Ac cc, cs = [.pointer (some ⟨b, 0, none⟩)] ∧ w.heap[b]? = some (.cells (cellsOf x (.slice Ab x.bv.length cb) db (.slice Ac x.kids.length cc)) T (0, 0)) ∧
    w.heap[db]? = some (.cells #[.slice A x.data.length c, .int .i64 0, .int .i8 lr] TB (0, 0)) ∧ x.data.length ≤ c ∧ B8.C w A x.data.length x.data ∧ x.bv.length ≤ cb ∧ B8.C w Ab x.bv.length x.bv ∧
    x.kids.length ≤ cc ∧ rec.C w Ac x.kids.length x.kids

def PkM (rec : Kd Pk) (w : World) (base : Nat) (ok : Nat → Prop) (x : Pk) (cs : List Value) : Prop :=
  x.val.oneCell' = true ∧ ∃ b db v bv cv lr, cs = [.pointer (some ⟨b, 0, none⟩)] ∧ (ok b ∧ base ≤ b) ∧ (ok db ∧ base ≤ db) ∧ w.heap[b]? = some (.cells (cellsOf x bv db cv) T (0, 0)) ∧
    w.heap[db]? = some (.cells #[v, .int .i64 0, .int .i8 lr] TB (0, 0)) ∧ B8.R 5 w base ok v x.data ∧ B8.R 5 w base (fun k => ok k ∧ some k ≠ v.ownBlock) bv x.bv ∧
    rec.R TP w base (fun k => ok k ∧ k ≠ b ∧ k ≠ db ∧ some k ≠ v.ownBlock) cv x.kids

def E : List Nat := [T, TB, 5, TP]

def F (rec : Kd Pk) : Kd Pk where
  sz := 1
  E := T :: TB :: 5 :: TP :: rec.E
  K := PkK rec
  M := PkM rec
  K_len := by
    rintro w x cs ⟨_, b, db, lr, A, c, Ab, cb, Ac, cc, rfl, _⟩
    rfl
  K_one := by
    rintro w x cs ⟨_, b, db, lr, A, c, Ab, cb, Ac, cc, rfl, _⟩ u hu
    rw [List.mem_singleton.1 hu]
    rfl
  K_below := by
    rintro w w1 x cs hb ⟨hv, b, db, lr, A, c, Ab, cb, Ac, cc, rfl, h1, h2, h3, h4, h5, h6, h7, h8⟩
    exact ⟨hv, b, db, lr, A, c, Ab, cb, Ac, cc, rfl, blk_below h1 hb, blk_below h2 hb, h3, Kd.C_below h4 hb, h5, Kd.C_below h6 hb, h7, Kd.C_below h8 hb⟩
  K_of_M := by
    rintro w base ok x cs ⟨hv, b, db, v, bv, cv, lr, rfl, _, _, h3, h4, h5, h6, h7⟩
    obtain ⟨A, c, rfl, l1, g1⟩ := Kd.R_reads h5
    obtain ⟨Ab, cb, rfl, l2, g2⟩ := Kd.R_reads h6
    obtain ⟨Ac, cc, rfl, l3, g3⟩ := Kd.R_reads h7
    exact ⟨hv, b, db, lr, A, c, Ab, cb, Ac, cc, rfl, h3, h4, l1, g1, l2, g2, l3, g3⟩
  M_mono := by
    rintro w base ok ok' x cs hok ⟨hv, b, db, v, bv, cv, lr, rfl, ⟨a1, a2⟩, ⟨b1, b2⟩, h3, h4, h5, h6, h7⟩
    exact ⟨hv, b, db, v, bv, cv, lr, rfl, ⟨hok _ a1, a2⟩, ⟨hok _ b1, b2⟩, h3, h4, Kd.R_mono h5 hok, Kd.R_mono h6 (fun k hk => ⟨hok k hk.1, hk.2⟩), Kd.R_mono h7 (fun k hk => ⟨hok k hk.1, hk.2⟩)⟩
  M_bound := by
    rintro w base ok x cs ⟨hv, b, db, v, bv, cv, lr, rfl, ⟨a1, a2⟩, ⟨b1, b2⟩, h3, h4, h5, h6, h7⟩
    refine ⟨hv, b, db, v, bv, cv, lr, rfl, ⟨⟨a1, a2, blk_lt h3, T, List.mem_cons_self, _, h3⟩, a2⟩, ⟨⟨b1, b2, blk_lt h4, TB, List.mem_cons_of_mem _ List.mem_cons_self, _, h4⟩, b2⟩, h3, h4, ?_, ?_, ?_⟩
    · refine Kd.R_mono (Kd.R_bound h5) ?_
      rintro k ⟨k1, k2, k3, q, hq, kc⟩
      exact ⟨k1, k2, k3, q, by
        rcases List.mem_cons.1 hq with rfl | hq
        · simp
        · exact absurd hq (by simp [Kd.int, Kd.scalar]), kc⟩
    · refine Kd.R_mono (Kd.R_bound h6) ?_
      rintro k ⟨⟨k1, k1'⟩, k2, k3, q, hq, kc⟩
      exact ⟨⟨k1, k2, k3, q, by
        rcases List.mem_cons.1 hq with rfl | hq
        · simp
        · exact absurd hq (by simp [Kd.int, Kd.scalar]), kc⟩, k1'⟩
    · refine Kd.R_mono (Kd.R_bound h7) ?_
      rintro k ⟨⟨k1, k1'⟩, k2, k3, q, hq, kc⟩
      exact ⟨⟨k1, k2, k3, q, by
        rcases List.mem_cons.1 hq with rfl | hq
        · simp
        · simp [hq], kc⟩, k1'⟩
  M_move := by
    rintro w w1 base ok x cs hm ⟨hv, b, db, v, bv, cv, lr, rfl, ⟨a1, a2⟩, ⟨b1, b2⟩, h3, h4, h5, h6, h7⟩
    exact ⟨hv, b, db, v, bv, cv, lr, rfl, ⟨a1, a2⟩, ⟨b1, b2⟩, (hm b a1).trans h3, (hm db b1).trans h4, Kd.R_move h5 hm, Kd.R_move h6 (fun k hk => hm k hk.1), Kd.R_move h7 (fun k hk => hm k hk.1)⟩
  M_lower := by
    rintro w base base' ok x cs hb ⟨hv, b, db, v, bv, cv, lr, rfl, ⟨a1, a2⟩, ⟨b1, b2⟩, h3, h4, h5, h6, h7⟩
    exact ⟨hv, b, db, v, bv, cv, lr, rfl, ⟨a1, by omega⟩, ⟨b1, by omega⟩, h3, h4, Kd.R_lower h5 hb, Kd.R_lower h6 hb, Kd.R_lower h7 hb⟩

theorem monoF : Kd.Mono F := by
  refine ⟨fun _ _ _ => rfl, ?_, ?_⟩
  · rintro d d' hs h w x cs ⟨hv, b, db, lr, A, c, Ab, cb, Ac, cc, rfl, h1, h2, h3, h4, h5, h6, h7, h8⟩
    exact ⟨hv, b, db, lr, A, c, Ab, cb, Ac, cc, rfl, h1, h2, h3, h4, h5, h6, h7, Kd.C_imp hs h h8⟩
  · rintro d d' hs h w base ok x cs ⟨hv, b, db, v, bv, cv, lr, rfl, a, b', h3, h4, h5, h6, h7⟩
    exact ⟨hv, b, db, v, bv, cv, lr, rfl, a, b', h3, h4, h5, h6, Kd.R_imp hs h h7⟩
theorem subF : Kd.Sub F E := fun d h q hq => by
  rcases List.mem_cons.1 hq with rfl | hq
  · simp [E]
  rcases List.mem_cons.1 hq with rfl | hq
  · simp [E]
  rcases List.mem_cons.1 hq with rfl | hq
  · simp [E]
  rcases List.mem_cons.1 hq with rfl | hq
  · simp [E]
  exact h q hq
theorem szF : ∀ n, (Kd.upto F 1 E n).sz = 1 := Kd.upto_sz (fun _ => rfl)
/-- A packet, as deep as it is. -/
def kPk : Kd Pk := Kd.fix F 1 E szF (Kd.upto_E subF)

theorem open_M {w : World} {base : Nat} {ok : Nat → Prop} {x : Pk} {cs : List Value} (h : kPk.M w base ok x cs) : PkM kPk w base ok x cs := by
  obtain ⟨n, h⟩ := h
  cases n with
  | zero => exact h.elim
  | succ n =>
    obtain ⟨hv, b, db, v, bv, cv, lr, rfl, a, b', h3, h4, h5, h6, h7⟩ := h
    exact ⟨hv, b, db, v, bv, cv, lr, rfl, a, b', h3, h4, h5, h6, Kd.fix_R h7⟩
theorem mk_M {w : World} {base : Nat} {ok : Nat → Prop} {x : Pk} {cs : List Value} (h : PkM kPk w base ok x cs) : kPk.M w base ok x cs := by
  obtain ⟨hv, b, db, v, bv, cv, lr, rfl, a, b', h3, h4, h5, h6, h7⟩ := h
  obtain ⟨n, q⟩ := Kd.fix_R_back monoF h7
  exact ⟨n + 1, hv, b, db, v, bv, cv, lr, rfl, a, b', h3, h4, h5, h6, q⟩

/-- The pointer to block b is the packet x, the call's own (blocks that are ok, from base on). -/
def IsPk (w : World) (base : Nat) (ok : Nat → Prop) (b : Nat) (x : Pk) : Prop := kPk.M w base ok x [.pointer (some ⟨b, 0, none⟩)]
theorem IsPk.mono {w : World} {base : Nat} {ok ok' : Nat → Prop} {b : Nat} {x : Pk} (h : IsPk w base ok b x) (hok : ∀ k, ok k → ok' k) : IsPk w base ok' b x := kPk.M_mono hok h
theorem IsPk.bound {w : World} {base : Nat} {ok : Nat → Prop} {b : Nat} {x : Pk} (h : IsPk w base ok b x) : IsPk w base (fun k => ok k ∧ base ≤ k ∧ k < w.heap.size) b x := kPk.M_mono (fun k hk => ⟨hk.1, hk.2.1, hk.2.2.1⟩) (kPk.M_bound h)
theorem IsPk.only {w w1 : World} {base : Nat} {ok S : Nat → Prop} {b : Nat} {x : Pk} (h : IsPk w base ok b x) (ho : Only S w w1) (hd : ∀ k, ok k → ¬ S k) : IsPk w1 base ok b x := Kd.M_step h (fun k hk hlt => ho.block k hlt (hd k hk))
theorem IsPk.below {w w1 : World} {base : Nat} {ok : Nat → Prop} {b : Nat} {x : Pk} (h : IsPk w base ok b x) (hb : Below w.heap.size w w1) : IsPk w1 base ok b x := Kd.M_below h hb
theorem IsPk.lower {w : World} {base base' : Nat} {ok : Nat → Prop} {b : Nat} {x : Pk} (h : IsPk w base ok b x) (hb : base' ≤ base) : IsPk w base' ok b x := kPk.M_lower hb h
end Go.Proofs.YtejbpbdlolehnaaDoor.Pk

namespace Go.Proofs.YtejbpbdlolehnaaDoor.Ber
open Go.RowKit Go.Proofs.YtejbpbdlolehnaaDoorW.PrintWords Go.Proofs.YtejbpbdlolehnaaDoor.Buf Go.Proofs.YtejbpbdlolehnaaDoor.Pk
set_option linter.unusedVariables false
set_option linter.unusedSimpArgs false

/-- A packet without data. -/
def bare (cls typ tag : Int) (val : Value) (desc : ByteArray) : Pk := ⟨cls, typ, tag, val, [], [], [], desc⟩

end Go.Proofs.YtejbpbdlolehnaaDoor.Ber

namespace Go.Proofs.YtejbpbdlolehnaaDoor.Ber
open Go.RowKit Go.Proofs.YtejbpbdlolehnaaDoorW.PrintWords Go.Proofs.YtejbpbdlolehnaaDoor.Buf Go.Proofs.YtejbpbdlolehnaaDoor.Pk
set_option linter.unusedVariables false
set_option linter.unusedSimpArgs false

/-- A packet laid open. -/
structure Parts (w : World) (base : Nat) (ok : Nat → Prop) (b : Nat) (x : Pk) (db : Nat) (v bv cv : Value) : Prop where
  val : x.val.oneCell' = true
  okb : ok b
  leb : base ≤ b
  okd : ok db
  led : base ≤ db
  hb : w.heap[b]? = some (.cells (cellsOf x bv db cv) T (0, 0))
  hd : Hdr w db v
  rv : B8.R 5 w base ok v x.data
  rb : B8.R 5 w base (fun k => ok k ∧ some k ≠ v.ownBlock) bv x.bv
  rk : kPk.R TP w base (fun k => ok k ∧ k ≠ b ∧ k ≠ db ∧ some k ≠ v.ownBlock) cv x.kids

theorem parts_of {w : World} {base : Nat} {ok : Nat → Prop} {b : Nat} {x : Pk} (h : IsPk w base ok b x) : ∃ db v bv cv, Parts w base ok b x db v bv cv := by
  obtain ⟨hv, b', db, v, bv, cv, lr, e, ⟨a1, a2⟩, ⟨b1, b2⟩, h3, h4, h5, h6, h7⟩ := open_M h
  obtain rfl : b' = b := by simpa using e.symm
  exact ⟨db, v, bv, cv, hv, a1, a2, b1, b2, h3, ⟨lr, h4⟩, h5, h6, h7⟩

theorem Parts.pk {w : World} {base : Nat} {ok : Nat → Prop} {b : Nat} {x : Pk} {db : Nat} {v bv cv : Value} (h : Parts w base ok b x db v bv cv) : IsPk w base ok b x := by
  obtain ⟨lr, h4⟩ := h.hd
  exact mk_M ⟨h.val, b, db, v, bv, cv, lr, rfl, ⟨h.okb, h.leb⟩, ⟨h.okd, h.led⟩, h.hb, h4, h.rv, h.rb, h.rk⟩

section
variable {w w' : World} {base : Nat} {ok : Nat → Prop} {b : Nat} {x : Pk} {db : Nat} {v bv cv : Value}

theorem Parts.buf (h : Parts w base ok b x db v bv cv) : IsBuf w db v x.data := ⟨h.hd, own_weaken (int_own h.rv) (Nat.zero_le _)⟩
theorem Parts.dne (h : Parts w base ok b x db v bv cv) : b ≠ db := by
  rintro rfl
  obtain ⟨lr, h4⟩ := h.hd
  have := h.hb
  rw [h4] at this
  injection this with this
  injection this with _ this
  exact absurd this (by decide)
theorem Parts.bne (h : Parts w base ok b x db v bv cv) : v.ownBlock ≠ some b := by
  intro e
  obtain ⟨cells, hc⟩ := own_typed (int_own h.rv) b e
  have := h.hb
  rw [hc] at this
  injection this with this
  injection this with _ this
  exact absurd this (by decide)

/-- A row at another base: its block is at least so great. -/
theorem own_base_at {w : World} {base base' : Nat} {e : TypeId} {s n : Nat} {v : Value} {cs : List Value} (h : w.ownsRow base e s v n cs) (hb : ∀ k, v.ownBlock = some k → base' ≤ k) : w.ownsRow base' e s v n cs := by
  obtain ⟨h1, h2⟩ := h
  refine ⟨h1, ?_⟩
  rcases h2 with h2 | ⟨g, cap, cur, rfl, hg, r⟩
  · exact .inl h2
  · exact .inr ⟨g, cap, cur, rfl, hb g rfl, r⟩

theorem Parts.wrote {ys : List Int} {e0 e : Ending} (h : Parts w base ok b x db v bv cv) (hw : Wrote w db v (x.data ++ ys) e0 e w') (hbase : base ≤ w.heap.size) :
    e = e0 ∧ Only ok w w' ∧ ∃ v', Parts w' base (fun k => ok k ∨ w.heap.size ≤ k) b { x with data := x.data ++ ys } db v' bv cv := by
  obtain ⟨he, v', hbuf, hrow, hon⟩ := hw
  have hlt : b < w.heap.size := blk_lt h.hb
  have hkeep : ∀ k, k < w.heap.size → k ≠ db → some k ≠ v.ownBlock → w'.heap[k]? = w.heap[k]? := fun k hk h1 h2 => hon.block k hk (fun h3 => h3.elim h1 h2)
  have hokrow : ∀ k, v.ownBlock = some k → ok k := h.rv.1
  have hne : ∀ k, some k ≠ v.ownBlock → k < w.heap.size → some k ≠ v'.ownBlock := by
    intro k h1 h2
    rcases hrow with h3 | ⟨N, h3, h4⟩
    · rw [h3]; exact h1
    · rw [h3]
      intro h5
      injection h5 with h5
      omega
  have hdb : ∀ {k : Nat} {cs : Array Value}, w.heap[k]? = some (.cells cs 5 (0, 0)) → k ≠ db := by
    rintro k cs hc rfl
    obtain ⟨lr, h4⟩ := h.hd
    rw [hc] at h4
    injection h4 with h4
    injection h4 with _ h4
    exact absurd h4 (by decide)
  refine ⟨he, hon.mono ?_, v', h.val, Or.inl h.okb, h.leb, Or.inl h.okd, h.led, ?_, hbuf.1, ?_, ?_, ?_⟩
  · rintro i hi (rfl | h1)
    · exact h.okd
    · exact hokrow i h1.symm
  · exact (hkeep b hlt h.dne (Ne.symm h.bne)).trans h.hb
  · refine own_int (own_base_at hbuf.2 ?_) ?_
    · intro k hk
      rcases hrow with h3 | ⟨N, h3, h4⟩
      · exact own_base (int_own h.rv) k (h3 ▸ hk)
      · rw [h3] at hk; injection hk with hk; omega
    · intro k hk
      rcases hrow with h3 | ⟨N, h3, h4⟩
      · exact Or.inl (hokrow k (h3 ▸ hk))
      · rw [h3] at hk; injection hk with hk; exact Or.inr (by omega)
  · have r := Kd.R_bound h.rb
    refine Kd.R_mono (Kd.R_move r ?_) ?_
    · rintro k ⟨⟨k1, k2⟩, k3, k4, q, hq, cells, hc⟩
      refine hkeep k k4 (hdb (k := k) (cs := cells) ?_) k2
      rcases List.mem_cons.1 hq with rfl | hq
      · exact hc
      · exact absurd hq (by simp [Kd.int, Kd.scalar])
    · rintro k ⟨⟨k1, k2⟩, k3, k4, _⟩
      exact ⟨Or.inl k1, hne k k2 k4⟩
  · have r := Kd.R_bound h.rk
    refine Kd.R_mono (Kd.R_move r ?_) ?_
    · rintro k ⟨⟨k1, k2, k3, k4⟩, k5, k6, _⟩
      exact hkeep k k6 k3 k4
    · rintro k ⟨⟨k1, k2, k3, k4⟩, k5, k6, _⟩
      exact ⟨Or.inl k1, k2, k3, hne k k4 k6⟩

/-- Another value in the interface. -/
theorem Parts.setVal (h : Parts w base ok b x db v bv cv) (u : Value) (hu : u.oneCell' = true) : Parts (w.setCell ⟨b, 3, none⟩ u) base ok b { x with val := u } db v bv cv ∧ Only ok w (w.setCell ⟨b, 3, none⟩ u) := by
  have hk : ∀ k, k ≠ b → (w.setCell ⟨b, 3, none⟩ u).heap[k]? = w.heap[k]? := fun k hk => Below.heap_setCell w ⟨b, 3, none⟩ u k hk
  have hrow : ∀ {k : Nat} {cs : Array Value}, w.heap[k]? = some (.cells cs 5 (0, 0)) → k ≠ b := by
    rintro k cs hc rfl
    have := h.hb
    rw [hc] at this
    injection this with this
    injection this with _ this
    exact absurd this (by decide)
  refine ⟨⟨hu, h.okb, h.leb, h.okd, h.led, Lib.heap_setCell_same (i := 3) h.hb u, ?_, ?_, ?_, ?_⟩, (Only.refl ok w).setCell (a := ⟨b, 3, none⟩) (fun _ => h.okb) u⟩
  · obtain ⟨lr, h4⟩ := h.hd
    exact ⟨lr, (hk db (Ne.symm h.dne)).trans h4⟩
  · refine Kd.R_mono (Kd.R_move (Kd.R_bound h.rv) ?_) (fun k hk => hk.1)
    rintro k ⟨k1, k2, k3, q, hq, cells, hc⟩
    refine hk k (hrow (cs := cells) ?_)
    rcases List.mem_cons.1 hq with rfl | hq
    · exact hc
    · exact absurd hq (by simp [Kd.int, Kd.scalar])
  · refine Kd.R_mono (Kd.R_move (Kd.R_bound h.rb) ?_) (fun k hk => hk.1)
    rintro k ⟨k1, k2, k3, q, hq, cells, hc⟩
    refine hk k (hrow (cs := cells) ?_)
    rcases List.mem_cons.1 hq with rfl | hq
    · exact hc
    · exact absurd hq (by simp [Kd.int, Kd.scalar])
  · exact Kd.R_move h.rk (fun k hk' => hk k hk'.2.1)

theorem Parts.below (h : Parts w base ok b x db v bv cv) (hb : Below w.heap.size w w') : Parts w' base ok b x db v bv cv := by
  obtain ⟨lr, h4⟩ := h.hd
  exact ⟨h.val, h.okb, h.leb, h.okd, h.led, blk_below h.hb hb, ⟨lr, blk_below h4 hb⟩, Kd.R_below h.rv hb, Kd.R_below h.rb hb, Kd.R_below h.rk hb⟩

theorem Parts.cell (h : Parts w base ok b x db v bv cv) (i : Nat) : w.cell? ⟨b, i, none⟩ = (cellsOf x bv db cv)[i]? := Lib.cell_of_heap h.hb i
theorem Parts.frozen (h : Parts w base ok b x db v bv cv) (i : Nat) : w.frozen? ⟨b, i, none⟩ = false := Lib.frozen_of_heap h.hb i
end

/-- The bytes of a row read (C) lie where Write looks. -/
theorem reads_cells {w : World} {A : Option Addr} {ys : List Int} (h : B8.C w A ys.length ys) : (A = none ∧ ys = []) ∨ ∃ a, (A = some a ∨ ys = []) ∧ ∀ j u, (nums .u8 ys)[j]? = some u → w.cell? (a.add j) = some u := by
  rcases Nat.eq_zero_or_pos ys.length with h0 | h0
  · have : ys = [] := List.eq_nil_of_length_eq_zero h0
    subst this
    exact Or.inr ⟨⟨0, 0, none⟩, Or.inr rfl, fun j u hj => by simp [nums] at hj⟩
  · obtain ⟨a, rfl, _⟩ := Kd.at_int h 0 (by omega) (by omega)
    refine Or.inr ⟨a, Or.inl rfl, fun j u hj => ?_⟩
    have hl : j < ys.length := by
      have := (List.getElem?_eq_some_iff.1 hj).1
      rw [nums_length] at this
      exact this
    obtain ⟨a', e, hc⟩ := Kd.at_int h (j : Int) (by omega) (by omega)
    injection e with e
    subst e
    rw [Int.toNat_natCast] at hc
    rw [hc]
    rw [nums, List.getElem?_map, List.getElem?_eq_getElem hl] at hj
    rw [← hj]
    simp [rd, List.getD_eq_getElem?_getD, List.getElem?_eq_getElem hl]

/-- Write of what a row holds, wherever it lies but in the struct's block. -/
theorem write_row (b : Nat) (v : Value) (xs ys : List Int) (A : Option Addr) (c : Nat) (w : World) (h : IsBuf w b v xs) (hr : B8.C w A ys.length ys) (hne : ∀ a, A = some a → 1 ≤ ys.length → a.block ≠ b) (hlim : xs.length + ys.length ≤ 140737488355328) :
    Calls Tryd.prog 43 #[.pointer (some ⟨b, 0, none⟩), .slice A ys.length c] w fun e w' => Wrote w b v (xs ++ ys) (.returned (.tuple #[.int .i64 ys.length, .nilIface])) e w' := by
  by_cases h0 : ys = []
  · subst h0
    rw [List.append_nil]
    exact write_none b v xs A c w h
  · have hpos : 1 ≤ ys.length := by
      rcases Nat.eq_zero_or_pos ys.length with h1 | h1
      · exact absurd (List.eq_nil_of_length_eq_zero h1) h0
      · exact h1
    rcases reads_cells hr with ⟨_, h1⟩ | ⟨a, rfl | h1, hc⟩
    · exact absurd h1 h0
    · exact write_any b v xs ys a c w h (hne a rfl hpos) hc hlim
    · exact absurd h1 h0
end Go.Proofs.YtejbpbdlolehnaaDoor.Ber

namespace Go.Proofs.YtejbpbdlolehnaaDoor.Ber
open Go.RowKit Go.Proofs.YtejbpbdlolehnaaDoorW.PrintWords Go.Proofs.YtejbpbdlolehnaaDoor.Buf Go.Proofs.YtejbpbdlolehnaaDoor.Pk
set_option linter.unusedVariables false
set_option linter.unusedSimpArgs false

/-- A packet that holds bytes. -/
def prim (cls typ tag : Int) (val : Value) (data : List Int) (desc : ByteArray) : Pk := ⟨cls, typ, tag, val, [], data, [], desc⟩

/-- the string value in an interface -/
abbrev strV (s : ByteArray) : Value := .iface 9 (.string s)

end Go.Proofs.YtejbpbdlolehnaaDoor.Ber
namespace Go.Proofs.YtejbpbdlolehnaaDoor.Tree
open Go.RowKit Go.Proofs.YtejbpbdlolehnaaDoorW.PrintWords Go.Proofs.YtejbpbdlolehnaaDoor.PFnEncode
set_option linter.unusedVariables false
set_option linter.unusedSimpArgs false

mutual
/-- the reference's packet of the same shape -/
def mir : S25 → S29
  | ⟨a, b, c, d, l⟩ => ⟨a, b, c, d, mirL l⟩
def mirL : List S25 → List S29
  | [] => []
  | x :: xs => mir x :: mirL xs
end
mutual
/-- a proper packet -/
def good : S29 → Bool
  | ⟨a, b, c, d, l⟩ => decide (0 ≤ a) && decide (a ≤ 3) && decide (0 ≤ b) && decide (b < 268435456) && (if c then decide (d.length = 0) else decide (l.length = 0)) && goodL l
def goodL : List S29 → Bool
  | [] => true
  | x :: xs => good x && goodL xs
end
mutual
/-- how many packets and bytes -/
def tsize : S29 → Nat
  | ⟨_, _, _, d, l⟩ => 1 + d.length + tsizeL l
def tsizeL : List S29 → Nat
  | [] => 0
  | x :: xs => tsize x + tsizeL xs
end

theorem mirL_eq (l : List S25) : mirL l = l.map mir := by
  induction l with
  | nil => rfl
  | cons x xs ih => rw [mirL, ih]; rfl
theorem goodL_all (l : List S29) : goodL l = l.all good := by
  induction l with
  | nil => rfl
  | cons x xs ih => rw [goodL, ih]; rfl
theorem mirL_append (l m : List S25) : mirL (l ++ m) = mirL l ++ mirL m := by rw [mirL_eq, mirL_eq, mirL_eq, List.map_append]
/-- what is none -/
def bad : S29 := ⟨-1, 0, false, [], []⟩
mutual
/-- 'within': the packet that is read, and the room that is left -/
def wi : Nat → S25 → Int → S29 × Int
  | 0, p, r => (bad, r - (1 + p.f3.length))
  | d + 1, p, r => if r - (1 + p.f3.length) < 0 then (bad, r - (1 + p.f3.length)) else wiL d p p.f4 [] (r - (1 + p.f3.length))
def wiL : Nat → S25 → List S25 → List S29 → Int → S29 × Int
  | _, p, [], acc, r => (⟨p.f0, p.f1, p.f2, p.f3, acc⟩, r)
  | d, p, k :: ks, acc, r => if r < 0 then (bad, r) else wiL d p ks (acc ++ [(wi d k r).1]) (wi d k r).2
end

end Go.Proofs.YtejbpbdlolehnaaDoor.Tree
