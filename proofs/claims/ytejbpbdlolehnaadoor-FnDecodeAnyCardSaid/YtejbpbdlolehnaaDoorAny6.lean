/- Parts of the proof of one law, in the order in which they build. laws.within and laws.packet walked: a packet of the caller's is read as one of the reference (Tree.wi), its data shared, its kids made. · laws.packet and laws.answer walked: within at a room of their own. · laws.answer: the packet within 60 levels and 200000 bytes. · The bytes of a packet as data; the reference's Bytes gives them. · Plain maths: bytes that are a packet (headers with definite lengths); the bytes of a packet are one. · The errors at the end of the bytes; the length of a packet. · The identifier of a packet. -/
import Derived.Handy
import Derived.Deep.RegionLaw
import Derived.Deep.DrawnRows
import Derived.LaidEql
import Derived.Test.YtejbpbdlolehnaaDoorAny1
import Derived.Test.YtejbpbdlolehnaaDoorAny2
import Derived.Test.YtejbpbdlolehnaaDoorAny3
import Derived.Test.YtejbpbdlolehnaaDoorAny4
import Derived.Test.YtejbpbdlolehnaaDoorAny5
namespace Go.Proofs.YtejbpbdlolehnaaDoor.Within
open Go.RowKit Go.Proofs.YtejbpbdlolehnaaDoorW.PrintWords Go.Proofs.YtejbpbdlolehnaaDoor.PFnEncode Go.Proofs.YtejbpbdlolehnaaDoor.Tree Go.Proofs.YtejbpbdlolehnaaDoor.Buf
set_option linter.unusedVariables false
set_option linter.unusedSimpArgs false

/-- The reference's packet whose data lie where they lay in w0, its kids made. -/
def Fm (w0 : World) (d : Kd S29) : Kd S29 := Kd.iso (Kd.pair (Kd.int .i64) (Kd.pair (Kd.int .i64) (Kd.pair Kd.bool (Kd.pair (Kd.fixed (Kd.slice 5 (Kd.int .u8)) w0) (Kd.slice 29 d))))) (fun x : S29 => (x.f0, x.f1, x.f2, x.f3, x.f4))
theorem mono_m (w0 : World) : Kd.Mono (Fm w0) := Kd.mono_iso _ (Kd.mono_pair (Kd.mono_const _) (Kd.mono_pair (Kd.mono_const _) (Kd.mono_pair (Kd.mono_const _) (Kd.mono_pair (Kd.mono_const _) (Kd.mono_slice 29 Kd.mono_id)))))
theorem sub_m (w0 : World) : Kd.Sub (Fm w0) [5, 29] := Kd.sub_iso _ (Kd.sub_pair (Kd.sub_const _ (by decide)) (Kd.sub_pair (Kd.sub_const _ (by decide)) (Kd.sub_pair (Kd.sub_const _ (by decide)) (Kd.sub_pair (Kd.sub_const _ (fun _ h => absurd h List.not_mem_nil)) (Kd.sub_slice 29 (by decide) Kd.sub_id)))))
theorem sz_m (w0 : World) : ∀ n, (Kd.upto (Fm w0) 5 [5, 29] n).sz = 5 := Kd.upto_sz (fun _ => rfl)
def km (w0 : World) : Kd S29 := Kd.fix (Fm w0) 5 [5, 29] (sz_m w0) (Kd.upto_E (sub_m w0))

theorem km_mkM (w0 w : World) (base : Nat) (ok : Nat → Prop) (x : S29) {A3 : Option Addr} {c3 : Nat} (l3 : x.f3.length ≤ c3) (g3 : (Kd.int .u8).C w0 A3 x.f3.length x.f3) {v4 : Value} (g4 : (km w0).R 29 w base ok v4 x.f4) : (km w0).M w base ok x [.int .i64 x.f0, .int .i64 x.f1, .bool x.f2, .slice A3 x.f3.length c3, v4] := by
  obtain ⟨n4, r4⟩ := Kd.fix_R_back (mono_m w0) g4
  exact ⟨n4 + 1, ⟨[.int .i64 x.f0], [.int .i64 x.f1, .bool x.f2, .slice A3 x.f3.length c3, v4], rfl, rfl, ⟨[.int .i64 x.f1], [.bool x.f2, .slice A3 x.f3.length c3, v4], rfl, rfl, ⟨[.bool x.f2], [.slice A3 x.f3.length c3, v4], rfl, rfl, ⟨[.slice A3 x.f3.length c3], [v4], rfl, ⟨A3, c3, rfl, l3, g3⟩, ⟨v4, rfl, r4⟩⟩⟩⟩⟩⟩
theorem km_openM {w0 w : World} {base : Nat} {ok : Nat → Prop} {x : S29} {cs : List Value} (h : (km w0).M w base ok x cs) : ∃ A3 c3 v4, cs = [.int .i64 x.f0, .int .i64 x.f1, .bool x.f2, .slice A3 x.f3.length c3, v4] ∧ x.f3.length ≤ c3 ∧ (Kd.int .u8).C w0 A3 x.f3.length x.f3 ∧ (km w0).R 29 w base ok v4 x.f4 := by
  obtain ⟨n, h⟩ := h
  cases n with
  | zero => exact h.elim
  | succ n =>
    obtain ⟨_, _, rfl, rfl, ⟨_, _, rfl, rfl, ⟨_, _, rfl, rfl, ⟨_, _, rfl, ⟨A3, c3, rfl, l3, g3⟩, ⟨v4, rfl, g4⟩⟩⟩⟩⟩ := h
    exact ⟨A3, c3, v4, rfl, l3, g3, Kd.fix_R g4⟩

/-- .. read now, as the print's kind reads it. -/
theorem km_read {w0 w : World} (hb : Below w0.heap.size w0 w) : ∀ {x : S29} {cs : List Value}, (km w0).K w x cs → k29.K w x cs := by
  have : ∀ n (x : S29) (cs : List Value), (Kd.upto (Fm w0) 5 [5, 29] n).K w x cs → (Kd.upto F29 5 [5, 29] n).K w x cs := by
    intro n
    induction n with
    | zero => intro x cs h; exact h
    | succ n ih =>
      rintro x cs ⟨_, _, rfl, rfl, ⟨_, _, rfl, rfl, ⟨_, _, rfl, rfl, ⟨_, _, rfl, ⟨A3, c3, rfl, l3, g3⟩, ⟨A4, c4, rfl, l4, g4⟩⟩⟩⟩⟩
      exact ⟨_, _, rfl, rfl, ⟨_, _, rfl, rfl, ⟨_, _, rfl, rfl, ⟨_, _, rfl, ⟨A3, c3, rfl, l3, Kd.C_below g3 hb⟩, ⟨A4, c4, rfl, l4, Kd.C_read ((sz_m w0 n).trans (sz29 n).symm) ih g4⟩⟩⟩⟩⟩
  rintro x cs ⟨n, h⟩
  exact ⟨n, this n x cs h⟩

mutual
/-- no row is longer than Go's memory -/
def lens : S25 → Bool
  | ⟨_, _, _, d, l⟩ => decide (d.length ≤ reachBytes) && decide (l.length ≤ reachBytes) && lensL l
def lensL : List S25 → Bool
  | [] => true
  | x :: xs => lens x && lensL xs
end
theorem lensL_all (l : List S25) : lensL l = l.all lens := by
  induction l with
  | nil => rfl
  | cons x xs ih => rw [lensL, ih]; rfl

/-- What a call of within leaves: the packet x, r of room. -/
def Read (w0 w : World) (g : Nat) (x : S29) (r : Int) (e : Ending) (w' : World) : Prop :=
  ∃ c, e = .returned (.agg c.toArray) ∧ (km w0).M w' w.heap.size (fun _ => True) x c ∧ w'.heap[g]? = some (.cells #[.int .i64 r] 3 (0, 0)) ∧ Only (fun i => i = g) w w'

theorem results_c {P : Program} {fn : Func} {p : Tmp} {ty : TypeId} (h : fn.results = #[.cell p ty]) (tmps : Array Value) (w : World) (g : Nat) (t : TypeId) (cs : Array Value) (fr : Nat × Nat) (d : TypeDesc)
    (hp : tmps.getD p undef = .pointer (some ⟨g, 0, none⟩)) (hg : w.heap[g]? = some (.cells cs t fr))
    (hu : P.underlying ty = some d) (hd : (match d with | .struct _ | .array _ _ => true | _ => false) = true) (hi : (P.info? ty).map (·.size) = some cs.size) :
    (results fn tmps).run P w = .ok (.agg cs) w := by
  have hp' : tmps[p]?.getD undef = .pointer (some ⟨g, 0, none⟩) := by simpa using hp
  simp [results, h, hp', asAddr, run_loadVar_row w g t ty cs fr d hg hu hd hi]
theorem info29 : (Tryd.prog.info? 29).map (fun i => (i.zero, i.size, i.bytes)) = some (some (.agg #[.int .i64 0, .int .i64 0, .bool false, .slice none 0 0, .slice none 0 0]), 5, 72) := by kernel_rfl
theorem size29 : (Tryd.prog.info? 29).map (·.size) = some 5 := by kernel_rfl

/-- the end with a packet that is none -/
theorem bad_end {w0 w W2 W3 : World} {g : Nat} {r' : Int} {n : Nat} {z0 z1 z2 z3 z4 : Value} (hon : Only (fun i => i = g) w W2) (hrm : W2.heap[g]? = some (.cells #[.int .i64 r'] 3 (0, 0))) (hres : W2.heap[n]? = some (.cells #[z0, z1, z2, z3, z4] 29 (0, 0))) (hng : w.heap.size ≤ n) (hgn : g ≠ n)
    (hW3 : W3 = (((((W2.setCell ⟨n, 0, none⟩ (.int .i64 (-1))).setCell ⟨n, 1, none⟩ (.int .i64 0)).setCell ⟨n, 2, none⟩ (.bool false)).setCell ⟨n, 3, none⟩ (.slice none 0 0)).setCell ⟨n, 4, none⟩ (.slice none 0 0))) :
    W3.heap[n]? = some (.cells #[.int .i64 (-1), .int .i64 0, .bool false, .slice none 0 0, .slice none 0 0] 29 (0, 0)) ∧ Read w0 w g bad r' (.returned (.agg #[.int .i64 (-1), .int .i64 0, .bool false, .slice none 0 0, .slice none 0 0])) W3 := by
  have h1 := blk_set hres 0 (.int .i64 (-1))
  have h2 := blk_set h1 1 (.int .i64 0)
  have h3 := blk_set h2 2 (.bool false)
  have h4 := blk_set h3 3 (.slice none 0 0)
  have h5 := blk_set h4 4 (.slice none 0 0)
  rw [← hW3] at h5
  have hr : W3.heap[g]? = some (.cells #[.int .i64 r'] 3 (0, 0)) := by
    rw [hW3]
    exact blk_far (blk_far (blk_far (blk_far (blk_far hrm (p := ⟨n, 0, none⟩) hgn _) (p := ⟨n, 1, none⟩) hgn _) (p := ⟨n, 2, none⟩) hgn _) (p := ⟨n, 3, none⟩) hgn _) (p := ⟨n, 4, none⟩) hgn _
  have hlt : ∀ k : Nat, (⟨n, k, none⟩ : Addr).block < w.heap.size → (⟨n, k, none⟩ : Addr).block = g := fun k h => absurd h (by show ¬ n < w.heap.size; omega)
  refine ⟨h5, _, rfl, km_mkM w0 W3 w.heap.size _ bad (A3 := none) (c3 := 0) (Nat.le_refl _) ⟨rfl, by simp [bad], fun h => absurd h (by decide)⟩ (Kd.R_nil _ _ _ _ _), hr, ?_⟩
  rw [hW3]
  exact ((((hon.setCell (hlt 0) _).setCell (hlt 1) _).setCell (hlt 2) _).setCell (hlt 3) _).setCell (hlt 4) _

theorem wi_le : ∀ (d : Nat) (p : S25) (r : Int), (wi d p r).2 ≤ r - 1 := by
  intro d
  induction d with
  | zero => intro p r; rw [wi]; show r - (1 + (p.f3.length : Int)) ≤ _; omega
  | succ d ih =>
    have hl : ∀ (p : S25) (ks : List S25) (acc : List S29) (r : Int), (wiL d p ks acc r).2 ≤ r := by
      intro p ks
      induction ks with
      | nil => intro acc r; rw [wiL]; exact Int.le_refl _
      | cons k ks ihk =>
        intro acc r
        rw [wiL]
        split
        · exact Int.le_refl _
        · have h1 := ihk (acc ++ [(wi d k r).1]) (wi d k r).2
          have h2 := ih k r
          omega
    intro p r
    rw [wi]
    split
    · show r - (1 + (p.f3.length : Int)) ≤ _; omega
    · have := hl p p.f4 [] (r - (1 + (p.f3.length : Int)))
      omega

/-- what stands at the loop's head -/
structure Inv (w0 w W : World) (g : Nat) (p : S25) (A3 : Option Addr) (c3 : Nat) (rr : Int) (v : Value) (acc : List S29) : Prop where
  on : Only (fun i => i = g) w W
  rm : W.heap[g]? = some (.cells #[.int .i64 rr] 3 (0, 0))
  res : W.heap[w.heap.size + 1]? = some (.cells #[.int .i64 0, .int .i64 0, .bool false, .slice none 0 0, .slice none 0 0] 29 (0, 0))
  out : W.heap[w.heap.size + 2]? = some (.cells #[.int .i64 p.f0, .int .i64 p.f1, .bool p.f2, .slice A3 p.f3.length c3, v] 29 (0, 0))
  row : (km w0).R 29 W w.heap.size (fun k => k ≠ w.heap.size + 1 ∧ k ≠ w.heap.size + 2) v acc

section
variable {w0 w W W' : World} {g : Nat} {p : S25} {A3 : Option Addr} {c3 : Nat} {rr : Int} {v : Value} {acc : List S29}
theorem Inv.step (I : Inv w0 w W g p A3 c3 rr v acc) (hb : Below W.heap.size W W') : Inv w0 w W' g p A3 c3 rr v acc :=
  ⟨I.on.trans (Only.of_below _ hb) (fun _ _ h => h), blk_below I.rm hb, blk_below I.res hb, blk_below I.out hb, Kd.R_below I.row hb⟩
theorem Inv.read (I : Inv w0 w W g p A3 c3 rr v acc) (hgw : g < w.heap.size) {x : S29} {r2 : Int} {e : Ending} (h : Read w0 W g x r2 e W') :
    ∃ c, e = .returned (.agg c.toArray) ∧ Inv w0 w W' g p A3 c3 r2 v acc ∧ (km w0).M W' w.heap.size (fun k => W.heap.size ≤ k) x c := by
  obtain ⟨c, he, hM, hrm, hon⟩ := h
  have hl1 := blk_lt I.res
  have hl2 := blk_lt I.out
  refine ⟨c, he, ⟨I.on.trans hon (fun _ _ h => h), hrm, (hon.block _ hl1 (by show ¬ _ = g; omega)).trans I.res, (hon.block _ hl2 (by show ¬ _ = g; omega)).trans I.out, ?_⟩, ?_⟩
  · refine Kd.R_mono (Kd.R_move (Kd.R_bound I.row) (fun k hk => hon.block k hk.2.2.1 (by have := hk.2.1; show ¬ k = g; omega))) (fun k hk => hk.1)
  · exact (km w0).M_lower (by omega) ((km w0).M_mono (fun k hk => hk.2.1) ((km w0).M_bound hM))
theorem Inv.vlt (I : Inv w0 w W g p A3 c3 rr v acc) : ∀ k, v.ownBlock = some k → k < W.heap.size := fun k hk => own_lt I.row.2.choose_spec.1 k hk
theorem Inv.okp (I : Inv w0 w W g p A3 c3 rr v acc) (hgw : g < w.heap.size) : ∀ k, W.heap.size ≤ k → (k ≠ w.heap.size + 1 ∧ k ≠ w.heap.size + 2) ∧ some k ≠ v.ownBlock := fun k hk => by
  have hl1 := blk_lt I.res
  have hl2 := blk_lt I.out
  refine ⟨⟨by omega, by omega⟩, fun e => ?_⟩
  have := I.vlt k e.symm
  omega
theorem Inv.fresh (I : Inv w0 w W g p A3 c3 rr v acc) : ∀ k, W.heap.size ≤ k → k ≠ w.heap.size + 1 ∧ k ≠ w.heap.size + 2 := fun k hk => by
  have hl1 := blk_lt I.res
  have hl2 := blk_lt I.out
  exact ⟨by omega, by omega⟩
theorem Inv.ne (I : Inv w0 w W g p A3 c3 rr v acc) : some (w.heap.size + 2) ≠ v.ownBlock := fun e => (I.row.1 _ e.symm).2 rfl
theorem Inv.app (I : Inv w0 w W g p A3 c3 rr v acc) (hgw : g < w.heap.size) {x : S29} {v1 : Value} (hg : W.grownBy W' v.ownBlock) (hat : v1.ownBlock = v.ownBlock ∨ ∃ b, v1.ownBlock = some b ∧ W.heap.size ≤ b) (hR : (km w0).R 29 W' w.heap.size (fun k => k ≠ w.heap.size + 1 ∧ k ≠ w.heap.size + 2) v1 (acc ++ [x])) :
    Inv w0 w (W'.setCell ⟨w.heap.size + 2, 4, none⟩ v1) g p A3 c3 rr v1 (acc ++ [x]) := by
  have hb : ∀ k, v.ownBlock = some k → w.heap.size ≤ k ∧ k ≠ w.heap.size + 1 ∧ k ≠ w.heap.size + 2 := fun k hk => ⟨own_base I.row.2.choose_spec.1 k hk, I.row.1 k hk⟩
  have hne : ∀ i, i < w.heap.size ∨ i = w.heap.size + 1 ∨ i = w.heap.size + 2 → some i ≠ v.ownBlock := fun i hi e => by
    have := hb i e.symm
    omega
  refine ⟨?_, blk_far (blk_grown I.rm hg (hne g (.inl hgw))) (by show g ≠ w.heap.size + 2; omega) _, blk_far (blk_grown I.res hg (hne _ (.inr (.inl rfl)))) (by show w.heap.size + 1 ≠ w.heap.size + 2; omega) _, ?_, Kd.R_far hR (fun k hk => hk.2) _⟩
  · refine Only.setCell ?_ (a := ⟨w.heap.size + 2, 4, none⟩) (fun h => absurd h (by show ¬ w.heap.size + 2 < w.heap.size; omega)) _
    exact ⟨hg.os.trans I.on.os, hg.tape.trans I.on.tape, hg.output.trans I.on.output, Nat.le_trans I.on.size hg.size, fun i hi hn => (hg.block i (by have := I.on.size; omega) (hne i (.inl hi))).trans (I.on.block i hi hn)⟩
  · exact blk_set (blk_grown I.out hg (hne _ (.inr (.inr rfl)))) 4 v1
end
/-- the end with the packet that was read -/
theorem out_end {w0 w W W3 : World} {g : Nat} {p : S25} {A3 : Option Addr} {c3 : Nat} {rr : Int} {v : Value} {acc : List S29} (I : Inv w0 w W g p A3 c3 rr v acc) (hgw : g < w.heap.size) (l3 : p.f3.length ≤ c3) (h3 : (Kd.int .u8).C w0 A3 p.f3.length p.f3)
    (hW3 : W3 = (((((W.setCell ⟨w.heap.size + 1, 0, none⟩ (.int .i64 p.f0)).setCell ⟨w.heap.size + 1, 1, none⟩ (.int .i64 p.f1)).setCell ⟨w.heap.size + 1, 2, none⟩ (.bool p.f2)).setCell ⟨w.heap.size + 1, 3, none⟩ (.slice A3 p.f3.length c3)).setCell ⟨w.heap.size + 1, 4, none⟩ v)) :
    W3.heap[w.heap.size + 1]? = some (.cells #[.int .i64 p.f0, .int .i64 p.f1, .bool p.f2, .slice A3 p.f3.length c3, v] 29 (0, 0)) ∧ Read w0 w g ⟨p.f0, p.f1, p.f2, p.f3, acc⟩ rr (.returned (.agg #[.int .i64 p.f0, .int .i64 p.f1, .bool p.f2, .slice A3 p.f3.length c3, v])) W3 := by
  have h1 := blk_set I.res 0 (.int .i64 p.f0)
  have h2 := blk_set h1 1 (.int .i64 p.f1)
  have h3' := blk_set h2 2 (.bool p.f2)
  have h4 := blk_set h3' 3 (.slice A3 p.f3.length c3)
  have h5 := blk_set h4 4 v
  rw [← hW3] at h5
  have hgn : g ≠ w.heap.size + 1 := by omega
  have hr : W3.heap[g]? = some (.cells #[.int .i64 rr] 3 (0, 0)) := by
    rw [hW3]
    exact blk_far (blk_far (blk_far (blk_far (blk_far I.rm (p := ⟨w.heap.size + 1, 0, none⟩) hgn _) (p := ⟨w.heap.size + 1, 1, none⟩) hgn _) (p := ⟨w.heap.size + 1, 2, none⟩) hgn _) (p := ⟨w.heap.size + 1, 3, none⟩) hgn _) (p := ⟨w.heap.size + 1, 4, none⟩) hgn _
  have hlt : ∀ k : Nat, (⟨w.heap.size + 1, k, none⟩ : Addr).block < w.heap.size → (⟨w.heap.size + 1, k, none⟩ : Addr).block = g := fun k h => absurd h (by show ¬ w.heap.size + 1 < w.heap.size; omega)
  refine ⟨h5, _, rfl, km_mkM w0 W3 w.heap.size _ ⟨p.f0, p.f1, p.f2, p.f3, acc⟩ l3 h3 ?_, hr, ?_⟩
  · rw [hW3]
    refine Kd.R_mono (ok := fun k => k ≠ w.heap.size + 1 ∧ k ≠ w.heap.size + 2) ?_ (fun _ _ => trivial)
    exact Kd.R_far (Kd.R_far (Kd.R_far (Kd.R_far (Kd.R_far I.row (p := ⟨w.heap.size + 1, 0, none⟩) (fun k hk => hk.1) _) (p := ⟨w.heap.size + 1, 1, none⟩) (fun k hk => hk.1) _) (p := ⟨w.heap.size + 1, 2, none⟩) (fun k hk => hk.1) _) (p := ⟨w.heap.size + 1, 3, none⟩) (fun k hk => hk.1) _) (p := ⟨w.heap.size + 1, 4, none⟩) (fun k hk => hk.1) _
  · rw [hW3]
    exact ((((I.on.setCell (hlt 0) _).setCell (hlt 1) _).setCell (hlt 2) _).setCell (hlt 3) _).setCell (hlt 4) _

set_option maxHeartbeats 6400000 in
set_option maxRecDepth 100000 in
theorem within_any (w0 : World) : ∀ (d : Nat), d ≤ 100 → ∀ (p : S25) (A3 : Option Addr) (c3 : Nat) (A4 : Option Addr) (c4 : Nat) (r : Int) (g : Nat) (w : World), (Kd.int .u8).C w0 A3 p.f3.length p.f3 → p.f3.length ≤ c3 → k25.C w0 A4 p.f4.length p.f4 → p.f4.length ≤ c4 → lens p = true →
    0 ≤ r → r ≤ 1000000 → w.heap[g]? = some (.cells #[.int .i64 r] 3 (0, 0)) → w0.heap.size ≤ g → Below w0.heap.size w0 w →
    Calls Tryd.prog 16 #[.agg #[.int .i64 p.f0, .int .i64 p.f1, .bool p.f2, .slice A3 p.f3.length c3, .slice A4 p.f4.length c4], .int .i64 d, .pointer (some ⟨g, 0, none⟩)] w (Read w0 w g (wi d p r).1 (wi d p r).2) := by
  intro d
  induction d using Nat.strongRecOn with
  | _ d ih' =>
    intro hd p A3 c3 A4 c4 r g w h3 l3 h4 l4 hln hr0 hr1 hg hg0 hB
    have hlp : p.f3.length ≤ reachBytes ∧ p.f4.length ≤ reachBytes ∧ lensL p.f4 = true := by
      obtain ⟨a, b, c, dd, l⟩ := p
      rw [lens] at hln
      simpa [and_assoc] using hln
    have hrb : reachBytes = 140737488351232 := by decide
    have hgw := blk_lt hg
    have H3 := Lib.hid h3
    have H4 := Lib.hid h4
    have HB := Lib.hid hB
    have HG := Lib.hid hg
    have HG0 := Lib.hid hg0
    have HLN := Lib.hid hlp.2.2
    obtain ⟨hl3, hl4, _⟩ := hlp
    clear h3 h4 hB hln hg hg0
    obtain ⟨fin, hfin0⟩ : ∃ fin, fin = wi d p r := ⟨_, rfl⟩
    rw [← hfin0]
    go_enter Tryd.func16, Tryd.ntmps16
    go_wp2
    have hbx0 := heap_alloc_new w (.cells #[.int .i64 p.f0, .int .i64 p.f1, .bool p.f2, .slice A3 p.f3.length c3, .slice A4 p.f4.length c4] 25)
    have hres0 := heap_alloc_new (w.alloc (.cells #[.int .i64 p.f0, .int .i64 p.f1, .bool p.f2, .slice A3 p.f3.length c3, .slice A4 p.f4.length c4] 25)) (.cells #[.int .i64 0, .int .i64 0, .bool false, .slice none 0 0, .slice none 0 0] 29)
    have hs1 : (w.alloc (.cells #[.int .i64 p.f0, .int .i64 p.f1, .bool p.f2, .slice A3 p.f3.length c3, .slice A4 p.f4.length c4] 25)).heap.size = w.heap.size + 1 := by simp
    obtain ⟨W1, hW1⟩ : ∃ W1, W1 = (w.alloc (.cells #[.int .i64 p.f0, .int .i64 p.f1, .bool p.f2, .slice A3 p.f3.length c3, .slice A4 p.f4.length c4] 25)).alloc (.cells #[.int .i64 0, .int .i64 0, .bool false, .slice none 0 0, .slice none 0 0] 29) := ⟨_, rfl⟩
    rw [hs1, ← hW1] at hres0
    rw [← hW1]
    have hon : Only (fun i => i = g) w W1 := by rw [hW1]; exact ((Only.refl _ w).alloc _).alloc _
    have hbx : W1.heap[w.heap.size]? = some (.cells #[.int .i64 p.f0, .int .i64 p.f1, .bool p.f2, .slice A3 p.f3.length c3, .slice A4 p.f4.length c4] 25 (0, 0)) := by
      rw [hW1, Below.heap_alloc _ _ _ (by rw [hs1]; omega)]; exact hbx0
    have hrm : W1.heap[g]? = some (.cells #[.int .i64 r] 3 (0, 0)) := by
      rw [hW1, Below.heap_alloc _ _ _ (by rw [hs1]; omega), Below.heap_alloc _ _ _ hgw]; exact HG.out
    have hsz1 : W1.heap.size = w.heap.size + 2 := by rw [hW1]; simp
    clear hbx0 hs1
    have HON := Lib.hid hon
    have HBX := Lib.hid hbx
    have HRM := Lib.hid hrm
    have HRES := Lib.hid hres0
    have HSZ := Lib.hid hsz1
    have c0 : W1.cell? ⟨g, 0, none⟩ = some (.int .i64 r) := blk_cell hrm 0
    have f0 : W1.frozen? ⟨g, 0, none⟩ = false := blk_frozen hrm 0
    have b0 : W1.cell? ⟨w.heap.size, 0, none⟩ = some (.int .i64 p.f0) := blk_cell hbx 0
    have b1 : W1.cell? ⟨w.heap.size, 1, none⟩ = some (.int .i64 p.f1) := blk_cell hbx 1
    have b2 : W1.cell? ⟨w.heap.size, 2, none⟩ = some (.bool p.f2) := blk_cell hbx 2
    have b3 : W1.cell? ⟨w.heap.size, 3, none⟩ = some (.slice A3 p.f3.length c3) := blk_cell hbx 3
    have b4 : W1.cell? ⟨w.heap.size, 4, none⟩ = some (.slice A4 p.f4.length c4) := blk_cell hbx 4
    clear hW1 hon hbx hrm hres0 hsz1
    go_region
    obtain ⟨r', hr'⟩ : ∃ r', r' = r - (1 + (p.f3.length : Int)) := ⟨_, rfl⟩
    rw [← hr']
    obtain ⟨W2, hW2⟩ : ∃ W2, W2 = (W1.setCell ⟨g, 0, none⟩ (.int .i64 r')).drew := ⟨_, rfl⟩
    rw [← hW2]
    have hon : Only (fun i => i = g) w W2 := by rw [hW2]; exact (HON.out.setCell (a := ⟨g, 0, none⟩) (fun _ => rfl) _).drew
    have hrm : W2.heap[g]? = some (.cells #[.int .i64 r'] 3 (0, 0)) := by rw [hW2]; exact blk_set HRM.out 0 _
    have hbx : W2.heap[w.heap.size]? = some (.cells #[.int .i64 p.f0, .int .i64 p.f1, .bool p.f2, .slice A3 p.f3.length c3, .slice A4 p.f4.length c4] 25 (0, 0)) := by
      rw [hW2]; exact blk_far HBX.out (p := ⟨g, 0, none⟩) (by show w.heap.size ≠ g; omega) _
    have hres : W2.heap[w.heap.size + 1]? = some (.cells #[.int .i64 0, .int .i64 0, .bool false, .slice none 0 0, .slice none 0 0] 29 (0, 0)) := by
      rw [hW2]; exact blk_far HRES.out (p := ⟨g, 0, none⟩) (by show w.heap.size + 1 ≠ g; omega) _
    have hsz : W2.heap.size = w.heap.size + 2 := by rw [hW2]; show (W1.setCell _ _).heap.size = _; simp [HSZ.out]
    clear HON HBX HRM HRES HSZ c0 f0 b0 b1 b2 b3 b4 hW2
    have HON := Lib.hid hon
    have HBX := Lib.hid hbx
    have HRM := Lib.hid hrm
    have HRES := Lib.hid hres
    have HSZ := Lib.hid hsz
    have c0 : W2.cell? ⟨g, 0, none⟩ = some (.int .i64 r') := blk_cell hrm 0
    have b0 : W2.cell? ⟨w.heap.size, 0, none⟩ = some (.int .i64 p.f0) := blk_cell hbx 0
    have b1 : W2.cell? ⟨w.heap.size, 1, none⟩ = some (.int .i64 p.f1) := blk_cell hbx 1
    have b2 : W2.cell? ⟨w.heap.size, 2, none⟩ = some (.bool p.f2) := blk_cell hbx 2
    have b3 : W2.cell? ⟨w.heap.size, 3, none⟩ = some (.slice A3 p.f3.length c3) := blk_cell hbx 3
    have b4 : W2.cell? ⟨w.heap.size, 4, none⟩ = some (.slice A4 p.f4.length c4) := blk_cell hbx 4
    have k0 : W2.cell? ⟨w.heap.size + 1, 0, none⟩ = some (.int .i64 0) := blk_cell hres 0
    have k1 : W2.cell? ⟨w.heap.size + 1, 1, none⟩ = some (.int .i64 0) := blk_cell hres 1
    have k2 : W2.cell? ⟨w.heap.size + 1, 2, none⟩ = some (.bool false) := blk_cell hres 2
    have k3 : W2.cell? ⟨w.heap.size + 1, 3, none⟩ = some (.slice none 0 0) := blk_cell hres 3
    have k4 : W2.cell? ⟨w.heap.size + 1, 4, none⟩ = some (.slice none 0 0) := blk_cell hres 4
    have kf0 : W2.frozen? ⟨w.heap.size + 1, 0, none⟩ = false := blk_frozen hres 0
    have kf1 : W2.frozen? ⟨w.heap.size + 1, 1, none⟩ = false := blk_frozen hres 1
    have kf2 : W2.frozen? ⟨w.heap.size + 1, 2, none⟩ = false := blk_frozen hres 2
    have kf3 : W2.frozen? ⟨w.heap.size + 1, 3, none⟩ = false := blk_frozen hres 3
    have kf4 : W2.frozen? ⟨w.heap.size + 1, 4, none⟩ = false := blk_frozen hres 4
    have b4a : ∀ o, (W2.alloc o).cell? ⟨w.heap.size, 4, none⟩ = some (.slice A4 p.f4.length c4) := fun o => (World.cell?_of_block (a := ⟨w.heap.size, 4, none⟩) (Below.heap_alloc W2 o _ (by show w.heap.size < _; omega))).trans b4
    clear hon hbx hrm hres hsz
    have HR' := Lib.hid hr'
    have hlo : r' ≤ 1000000 := by omega
    clear hr'
    by_cases hneg : r' < 0
    · have hwi : fin = (bad, r') := by
        rw [hfin0]
        cases d with
        | zero => rw [wi, ← HR'.out]
        | succ d => rw [wi, ← HR'.out, if_pos hneg]
      clear hfin0 ih'
      subst hwi
      go_wp2
      obtain ⟨W3, hW3⟩ : ∃ W3, W3 = (((((W2.setCell ⟨w.heap.size + 1, 0, none⟩ (.int .i64 (-1))).setCell ⟨w.heap.size + 1, 1, none⟩ (.int .i64 0)).setCell ⟨w.heap.size + 1, 2, none⟩ (.bool false)).setCell ⟨w.heap.size + 1, 3, none⟩ (.slice none 0 0)).setCell ⟨w.heap.size + 1, 4, none⟩ (.slice none 0 0)) := ⟨_, rfl⟩
      rw [← hW3]
      obtain ⟨h5, hend⟩ := bad_end (w0 := w0) HON.out HRM.out HRES.out (by omega) (by omega) hW3
      try simp only [Exit.inBlock, Exit.then]
      exact bodyPost_ret (results_c rfl _ _ _ _ _ _ _ rfl h5 Tryd.underlying29 rfl size29) rfl hend
    · have hge : 0 ≤ r' := by omega
      rcases d with _ | d
      · have hwi : fin = (bad, r') := by rw [hfin0, wi, ← HR'.out]
        clear hfin0 ih'
        subst hwi
        go_wp2
        obtain ⟨W3, hW3⟩ : ∃ W3, W3 = (((((W2.setCell ⟨w.heap.size + 1, 0, none⟩ (.int .i64 (-1))).setCell ⟨w.heap.size + 1, 1, none⟩ (.int .i64 0)).setCell ⟨w.heap.size + 1, 2, none⟩ (.bool false)).setCell ⟨w.heap.size + 1, 3, none⟩ (.slice none 0 0)).setCell ⟨w.heap.size + 1, 4, none⟩ (.slice none 0 0)) := ⟨_, rfl⟩
        rw [← hW3]
        obtain ⟨h5, hend⟩ := bad_end (w0 := w0) HON.out HRM.out HRES.out (by omega) (by omega) hW3
        try simp only [Exit.inBlock, Exit.then]
        exact bodyPost_ret (results_c rfl _ _ _ _ _ _ _ rfl h5 Tryd.underlying29 rfl size29) rfl hend
      have ih := ih' d (by omega)
      clear ih'
      have hwi : fin = wiL d p p.f4 [] r' := by rw [hfin0, wi, ← HR'.out, if_neg hneg]
      clear hfin0
      have HWI := Lib.hid hwi
      clear hwi
      go_wp2
      obtain ⟨W3, hW3⟩ : ∃ W3, W3 = W2.alloc (.cells #[.int .i64 p.f0, .int .i64 p.f1, .bool p.f2, .slice A3 p.f3.length c3, .slice none 0 0] 29) := ⟨_, rfl⟩
      rw [← hW3, HSZ.out]
      have hI : Inv w0 w W3 g p A3 c3 r' (.slice none 0 0) [] := by
        rw [hW3]
        refine ⟨HON.out.alloc _, blk_alloc HRM.out _, blk_alloc HRES.out _, ?_, Kd.R_nil _ _ _ _ _⟩
        rw [← HSZ.out]
        exact blk_new _ _
      have HI := Lib.hid hI
      clear hI hW3 c0 b0 b1 b2 b3 b4 k0 k1 k2 k3 k4 kf0 kf1 kf2 kf3 kf4 b4a HON HBX HRM HRES HSZ
      go_loopw [40] (fun i wr => ∃ (k : Nat) (acc : List S29) (rr : Int) (v : Value), k ≤ p.f4.length ∧ i = .int .i64 k ∧ Hid (wiL d p (p.f4.drop k) acc rr = wiL d p p.f4 [] r') ∧ Hid ((acc.length : Int) + rr ≤ 1000000) ∧ Hid (Inv w0 w wr g p A3 c3 rr v acc)) (fun i _ => p.f4.length - (intOf i).toNat)
      case atStart => exact ⟨0, [], r', .slice none 0 0, Nat.zero_le _, rfl, Lib.hid rfl, Lib.hid (by simp; omega), HI⟩
      case round =>
        obtain ⟨k, acc, rr, v, hk, rfl, HW, HL, HV⟩ := hrel
        clear HI
        by_cases hlt : k < p.f4.length
        · have hBw : Below w0.heap.size w0 wr := HB.out.trans (HV.out.on.below HB.out.size (fun i hi => by have := HG0.out; omega))
          obtain ⟨ad, A3', c3', A4', c4', rfl, e0, e1, e2, e3, e4, m3, n3, m4, n4⟩ := at_T25 H4.out (k : Int) (by omega) (by omega)
          rw [Int.toNat_natCast] at e0 e1 e2 e3 e4
          obtain ⟨kid, hkid⟩ : ∃ kid, kid = rd_T25 p.f4 (k : Int) := ⟨_, rfl⟩
          rw [← hkid] at e0 e1 e2 e3 e4 m3 n3 m4 n4
          have HK := Lib.hid hkid
          clear hkid
          replace e0 := (hBw.cell (World.block_lt_of_cell? w0 _ e0)).trans e0
          replace e1 := (hBw.cell (World.block_lt_of_cell? w0 _ e1)).trans e1
          replace e2 := (hBw.cell (World.block_lt_of_cell? w0 _ e2)).trans e2
          replace e3 := (hBw.cell (World.block_lt_of_cell? w0 _ e3)).trans e3
          replace e4 := (hBw.cell (World.block_lt_of_cell? w0 _ e4)).trans e4
          have hg' := blk_lt HV.out.rm
          have r0 : ∀ o, (wr.alloc o).cell? ⟨g, 0, none⟩ = some (.int .i64 rr) := fun o => blk_cell (blk_alloc HV.out.rm o) 0
          by_cases hrr : rr < 0
          · have hdrop : p.f4.drop k = kid :: p.f4.drop (k + 1) := by
              rw [HK.out, rd_T25, Int.toNat_natCast, List.getD_eq_getElem?_getD, List.getElem?_eq_getElem hlt]
              exact List.drop_eq_getElem_cons hlt
            have hwi : fin = (bad, rr) := by rw [HWI.out, ← HW.out, hdrop, wiL, if_pos hrr]
            subst hwi
            have kz : ∀ o, (wr.alloc o).heap[w.heap.size + 1]? = some (.cells #[.int .i64 0, .int .i64 0, .bool false, .slice none 0 0, .slice none 0 0] 29 (0, 0)) := fun o => blk_alloc HV.out.res o
            have k0 : ∀ o, (wr.alloc o).cell? ⟨w.heap.size + 1, 0, none⟩ = some (.int .i64 0) := fun o => blk_cell (kz o) 0
            have k1 : ∀ o, (wr.alloc o).cell? ⟨w.heap.size + 1, 1, none⟩ = some (.int .i64 0) := fun o => blk_cell (kz o) 1
            have k2 : ∀ o, (wr.alloc o).cell? ⟨w.heap.size + 1, 2, none⟩ = some (.bool false) := fun o => blk_cell (kz o) 2
            have k3 : ∀ o, (wr.alloc o).cell? ⟨w.heap.size + 1, 3, none⟩ = some (.slice none 0 0) := fun o => blk_cell (kz o) 3
            have k4 : ∀ o, (wr.alloc o).cell? ⟨w.heap.size + 1, 4, none⟩ = some (.slice none 0 0) := fun o => blk_cell (kz o) 4
            have kf0 : ∀ o, (wr.alloc o).frozen? ⟨w.heap.size + 1, 0, none⟩ = false := fun o => blk_frozen (kz o) 0
            have kf1 : ∀ o, (wr.alloc o).frozen? ⟨w.heap.size + 1, 1, none⟩ = false := fun o => blk_frozen (kz o) 1
            have kf2 : ∀ o, (wr.alloc o).frozen? ⟨w.heap.size + 1, 2, none⟩ = false := fun o => blk_frozen (kz o) 2
            have kf3 : ∀ o, (wr.alloc o).frozen? ⟨w.heap.size + 1, 3, none⟩ = false := fun o => blk_frozen (kz o) 3
            have kf4 : ∀ o, (wr.alloc o).frozen? ⟨w.heap.size + 1, 4, none⟩ = false := fun o => blk_frozen (kz o) 4
            have KZ := Lib.hid kz
            clear kz
            go_wp2
            obtain ⟨h5, hend⟩ := bad_end (w0 := w0) (HV.out.on.alloc _) (blk_alloc HV.out.rm _) (KZ.out _) (by omega) (by omega) rfl
            try simp only [Exit.inBlock, Exit.then]
            exact bodyPost_ret (results_c rfl _ _ _ _ _ _ _ rfl h5 Tryd.underlying29 rfl size29) rfl hend
          · have hrr' : 0 ≤ rr := by omega
            go_wp2_with fail
            obtain ⟨W5, hW5⟩ : ∃ W5, W5 = wr.alloc (.cells #[.int .i64 kid.f0, .int .i64 kid.f1, .bool kid.f2, .slice A3' kid.f3.length c3', .slice A4' kid.f4.length c4'] 25) := ⟨_, rfl⟩
            rw [← hW5]
            have hb5 : Below wr.heap.size wr W5 := by rw [hW5]; exact below_alloc (Below.refl _ _) _
            have hk5 : W5.heap[wr.heap.size]? = some (.cells #[.int .i64 kid.f0, .int .i64 kid.f1, .bool kid.f2, .slice A3' kid.f3.length c3', .slice A4' kid.f4.length c4'] 25 (0, 0)) := by rw [hW5]; exact blk_new _ _
            have HC : Hid (∀ dv : Int, dv = (d : Int) → Calls Tryd.prog 16 #[.agg #[.int .i64 kid.f0, .int .i64 kid.f1, .bool kid.f2, .slice A3' kid.f3.length c3', .slice A4' kid.f4.length c4'], .int .i64 dv, .pointer (some ⟨g, 0, none⟩)] W5.drew (Read w0 W5.drew g (wi d kid rr).1 (wi d kid rr).2)) := Lib.hid (fun dv hdv => by
              rw [hdv]
              exact ih (by omega) kid A3' c3' A4' c4' rr g W5.drew n3 m3 n4 m4 (by
                have := List.all_eq_true.1 ((lensL_all _).symm.trans HLN.out) kid (by
                  rw [HK.out, rd_T25, Int.toNat_natCast, List.getD_eq_getElem?_getD, List.getElem?_eq_getElem hlt]
                  exact List.getElem_mem hlt)
                exact this) hrr' (by have := HL.out; omega) (blk_below (w1 := W5) HV.out.rm hb5) HG0.out (hBw.trans (Below.drew (hb5.mono hBw.size))))
            have hwd : IntKind.i64.wrap (d : Int) = (d : Int) := by rw [IntKind.wrap_i64]; omega
            have HI2 := Lib.hid (HV.out.step (W' := W5.drew) (below_drew hb5))
            have s0 : W5.cell? ⟨w.heap.size + 2, 4, none⟩ = some v := blk_cell HI2.out.out 4
            have s1 : W5.cell? ⟨wr.heap.size, 0, none⟩ = some (.int .i64 kid.f0) := blk_cell hk5 0
            have s2 : W5.cell? ⟨wr.heap.size, 1, none⟩ = some (.int .i64 kid.f1) := blk_cell hk5 1
            have s3 : W5.cell? ⟨wr.heap.size, 2, none⟩ = some (.bool kid.f2) := blk_cell hk5 2
            have s4 : W5.cell? ⟨wr.heap.size, 3, none⟩ = some (.slice A3' kid.f3.length c3') := blk_cell hk5 3
            have s5 : W5.cell? ⟨wr.heap.size, 4, none⟩ = some (.slice A4' kid.f4.length c4') := blk_cell hk5 4
            have HB5 := Lib.hid hb5
            have HK5 := Lib.hid hk5
            clear e0 e1 e2 e3 e4 m3 n3 m4 n4 r0 hW5 hb5 hk5
            go_region_law (first
              | ((refine Kd.R_append_step (km w0) (w0 := W4) (W := W4) w.heap.size (by rfl) (.tmp 50) (.tmp 56) 27 29 (.agg #[.int .i64 0, .int .i64 0, .bool false, .slice none 0 0, .slice none 0 0]) 72 (by rfl) Tryd.underlying27 info29 rfl (show 0 < 5 by decide) (by decide) v acc (wi d kid rr).1 _ (fun k => k ≠ w.heap.size + 1 ∧ k ≠ w.heap.size + 2) _ (by rfl) (by rfl) HM4.out (HI2.out.okp hgw) HI4.out.fresh HI4.out.row (Below.refl _ _) HI4.out.on.size (by have := HL.out; omega) ?_
                  intro v1 w1 hR1 hb1 hg1 hat1
                  have hne := HI4.out.ne
                  have hnb : some wr.heap.size ≠ v.ownBlock := fun e => by
                    have := own_lt HV.out.row.2.choose_spec.1 _ e.symm
                    omega
                  have x0 : w1.cell? ⟨w.heap.size + 2, 4, none⟩ = some v := blk_cell (blk_grown HI4.out.out hg1 hne) 4
                  have xf : w1.frozen? ⟨w.heap.size + 2, 4, none⟩ = false := blk_frozen (blk_grown HI4.out.out hg1 hne) 4
                  have x1 : w1.cell? ⟨wr.heap.size, 0, none⟩ = some (.int .i64 kid.f0) := blk_cell (blk_grown HK4.out hg1 hnb) 0
                  have x2 : w1.cell? ⟨wr.heap.size, 1, none⟩ = some (.int .i64 kid.f1) := blk_cell (blk_grown HK4.out hg1 hnb) 1
                  have x3 : w1.cell? ⟨wr.heap.size, 2, none⟩ = some (.bool kid.f2) := blk_cell (blk_grown HK4.out hg1 hnb) 2
                  have x4 : w1.cell? ⟨wr.heap.size, 3, none⟩ = some (.slice A3' kid.f3.length c3') := blk_cell (blk_grown HK4.out hg1 hnb) 3
                  have x5 : w1.cell? ⟨wr.heap.size, 4, none⟩ = some (.slice A4' kid.f4.length c4') := blk_cell (blk_grown HK4.out hg1 hnb) 4
                  have hnn : wr.heap.size ≠ w.heap.size + 2 := by have := blk_lt HV.out.out; omega
                  have y1 : ∀ u, (w1.setCell ⟨w.heap.size + 2, 4, none⟩ u).cell? ⟨wr.heap.size, 0, none⟩ = some (.int .i64 kid.f0) := fun u => blk_cell (blk_far (blk_grown HK4.out hg1 hnb) (p := ⟨w.heap.size + 2, 4, none⟩) hnn u) 0
                  have y2 : ∀ u, (w1.setCell ⟨w.heap.size + 2, 4, none⟩ u).cell? ⟨wr.heap.size, 1, none⟩ = some (.int .i64 kid.f1) := fun u => blk_cell (blk_far (blk_grown HK4.out hg1 hnb) (p := ⟨w.heap.size + 2, 4, none⟩) hnn u) 1
                  have y3 : ∀ u, (w1.setCell ⟨w.heap.size + 2, 4, none⟩ u).cell? ⟨wr.heap.size, 2, none⟩ = some (.bool kid.f2) := fun u => blk_cell (blk_far (blk_grown HK4.out hg1 hnb) (p := ⟨w.heap.size + 2, 4, none⟩) hnn u) 2
                  have y4 : ∀ u, (w1.setCell ⟨w.heap.size + 2, 4, none⟩ u).cell? ⟨wr.heap.size, 3, none⟩ = some (.slice A3' kid.f3.length c3') := fun u => blk_cell (blk_far (blk_grown HK4.out hg1 hnb) (p := ⟨w.heap.size + 2, 4, none⟩) hnn u) 3
                  have y5 : ∀ u, (w1.setCell ⟨w.heap.size + 2, 4, none⟩ u).cell? ⟨wr.heap.size, 4, none⟩ = some (.slice A4' kid.f4.length c4') := fun u => blk_cell (blk_far (blk_grown HK4.out hg1 hnb) (p := ⟨w.heap.size + 2, 4, none⟩) hnn u) 4
                  obtain ⟨Aq, cq, hvq, _, _⟩ := Kd.R_reads hR1
                  subst hvq
                  have h6 := HI4.out.app hgw hg1 hat1 hR1
                  simp only [List.length_append, List.length_singleton] at h6
                  have HI6 := Lib.hid h6
                  clear h6 hR1 hb1 hg1 hat1 hne hnb hnn))
              | (go_wp2_with (go_at_call 16
                              with_reducible refine (HC.out _ rfl).mono ?_
                              rintro e W4 hR4
                              obtain ⟨c4, rfl, hI4, hM4⟩ := HI2.out.read hgw hR4
                              have hk4 : W4.heap[wr.heap.size]? = some (.cells #[.int .i64 kid.f0, .int .i64 kid.f1, .bool kid.f2, .slice A3' kid.f3.length c3', .slice A4' kid.f4.length c4'] 25 (0, 0)) := by
                                obtain ⟨_, _, _, _, hon4⟩ := hR4
                                exact (hon4.block _ (blk_lt HK5.out) (by show ¬ _ = g; omega)).trans HK5.out
                              obtain ⟨A5, c5, v5, rfl, l5, g5, r5⟩ := km_openM hM4
                              have t0 : W4.cell? ⟨w.heap.size + 2, 4, none⟩ = some v := blk_cell hI4.out 4
                              have t1 : W4.cell? ⟨wr.heap.size, 0, none⟩ = some (.int .i64 kid.f0) := blk_cell hk4 0
                              have t2 : W4.cell? ⟨wr.heap.size, 1, none⟩ = some (.int .i64 kid.f1) := blk_cell hk4 1
                              have t3 : W4.cell? ⟨wr.heap.size, 2, none⟩ = some (.bool kid.f2) := blk_cell hk4 2
                              have t4 : W4.cell? ⟨wr.heap.size, 3, none⟩ = some (.slice A3' kid.f3.length c3') := blk_cell hk4 3
                              have t5 : W4.cell? ⟨wr.heap.size, 4, none⟩ = some (.slice A4' kid.f4.length c4') := blk_cell hk4 4
                              have u0 : ∀ o, (W4.alloc o).cell? ⟨w.heap.size + 2, 4, none⟩ = some v := fun o => blk_cell (blk_alloc hI4.out o) 4
                              have u1 : ∀ o, (W4.alloc o).cell? ⟨wr.heap.size, 0, none⟩ = some (.int .i64 kid.f0) := fun o => blk_cell (blk_alloc hk4 o) 0
                              have u2 : ∀ o, (W4.alloc o).cell? ⟨wr.heap.size, 1, none⟩ = some (.int .i64 kid.f1) := fun o => blk_cell (blk_alloc hk4 o) 1
                              have u3 : ∀ o, (W4.alloc o).cell? ⟨wr.heap.size, 2, none⟩ = some (.bool kid.f2) := fun o => blk_cell (blk_alloc hk4 o) 2
                              have u4 : ∀ o, (W4.alloc o).cell? ⟨wr.heap.size, 3, none⟩ = some (.slice A3' kid.f3.length c3') := fun o => blk_cell (blk_alloc hk4 o) 3
                              have u5 : ∀ o, (W4.alloc o).cell? ⟨wr.heap.size, 4, none⟩ = some (.slice A4' kid.f4.length c4') := fun o => blk_cell (blk_alloc hk4 o) 4
                              have HI4 := Lib.hid hI4
                              have HM4 := Lib.hid hM4
                              have HK4 := Lib.hid hk4
                              clear hI4 hM4 hk4 hR4)))
            all_goals (
              go_wp2
              go_roundw
              case rel =>
                refine ⟨k + 1, acc ++ [(wi d kid rr).1], (wi d kid rr).2, _, by omega, by go_num, Lib.hid ?_, Lib.hid ?_, HI6⟩
                · have hdrop : p.f4.drop k = kid :: p.f4.drop (k + 1) := by
                    rw [HK.out, rd_T25, Int.toNat_natCast, List.getD_eq_getElem?_getD, List.getElem?_eq_getElem hlt]
                    exact List.drop_eq_getElem_cons hlt
                  rw [← HW.out, hdrop, wiL, if_neg (show ¬ rr < 0 by omega)]
                · have h1 := wi_le d kid rr
                  have h2 := HL.out
                  rw [List.length_append, List.length_singleton]
                  push_cast
                  omega
              case measure => simp [intOf]; omega)
        · obtain rfl : k = p.f4.length := by omega
          have hfin : fin = (⟨p.f0, p.f1, p.f2, p.f3, acc⟩, rr) := by rw [HWI.out, ← HW.out, List.drop_length, wiL]
          subst hfin
          obtain ⟨Av, cv, rfl, hav, hcv⟩ := Kd.R_reads HV.out.row
          have o0 : wr.cell? ⟨w.heap.size + 2, 0, none⟩ = some (.int .i64 p.f0) := blk_cell HV.out.out 0
          have o1 : wr.cell? ⟨w.heap.size + 2, 1, none⟩ = some (.int .i64 p.f1) := blk_cell HV.out.out 1
          have o2 : wr.cell? ⟨w.heap.size + 2, 2, none⟩ = some (.bool p.f2) := blk_cell HV.out.out 2
          have o3 : wr.cell? ⟨w.heap.size + 2, 3, none⟩ = some (.slice A3 p.f3.length c3) := blk_cell HV.out.out 3
          have o4 : wr.cell? ⟨w.heap.size + 2, 4, none⟩ = some (.slice Av acc.length cv) := blk_cell HV.out.out 4
          clear hav hcv
          have kf0 : wr.frozen? ⟨w.heap.size + 1, 0, none⟩ = false := blk_frozen HV.out.res 0
          have kf1 : wr.frozen? ⟨w.heap.size + 1, 1, none⟩ = false := blk_frozen HV.out.res 1
          have kf2 : wr.frozen? ⟨w.heap.size + 1, 2, none⟩ = false := blk_frozen HV.out.res 2
          have kf3 : wr.frozen? ⟨w.heap.size + 1, 3, none⟩ = false := blk_frozen HV.out.res 3
          have kf4 : wr.frozen? ⟨w.heap.size + 1, 4, none⟩ = false := blk_frozen HV.out.res 4
          have k0 : wr.cell? ⟨w.heap.size + 1, 0, none⟩ = some (.int .i64 0) := blk_cell HV.out.res 0
          have k1 : wr.cell? ⟨w.heap.size + 1, 1, none⟩ = some (.int .i64 0) := blk_cell HV.out.res 1
          have k2 : wr.cell? ⟨w.heap.size + 1, 2, none⟩ = some (.bool false) := blk_cell HV.out.res 2
          have k3 : wr.cell? ⟨w.heap.size + 1, 3, none⟩ = some (.slice none 0 0) := blk_cell HV.out.res 3
          have k4 : wr.cell? ⟨w.heap.size + 1, 4, none⟩ = some (.slice none 0 0) := blk_cell HV.out.res 4
          go_wp2
          try simp only [Exit.inBlock, Exit.then]
          obtain ⟨h5, hend⟩ := out_end HV.out hgw l3 H3.out rfl
          exact bodyPost_ret (results_c rfl _ _ _ _ _ _ _ rfl h5 Tryd.underlying29 rfl size29) rfl hend
end Go.Proofs.YtejbpbdlolehnaaDoor.Within

namespace Go.Proofs.YtejbpbdlolehnaaDoor.Within
open Go.RowKit Go.Proofs.YtejbpbdlolehnaaDoorW.PrintWords Go.Proofs.YtejbpbdlolehnaaDoor.PFnEncode Go.Proofs.YtejbpbdlolehnaaDoor.Tree Go.Proofs.YtejbpbdlolehnaaDoor.Buf
set_option linter.unusedVariables false
set_option linter.unusedSimpArgs false

/-- What reading a packet leaves: the reference's packet x, read now. -/
def Got (w : World) (x : S29) (e : Ending) (w' : World) : Prop :=
  ∃ A3 c3 A4 c4, e = .returned (.agg #[.int .i64 x.f0, .int .i64 x.f1, .bool x.f2, .slice A3 x.f3.length c3, .slice A4 x.f4.length c4]) ∧ x.f3.length ≤ c3 ∧ (Kd.int .u8).C w' A3 x.f3.length x.f3 ∧ x.f4.length ≤ c4 ∧ k29.C w' A4 x.f4.length x.f4 ∧ Below w.heap.size w w'

/-- the end of both -/
theorem pk_end {w W W3 : World} {B : Nat} {x : S29} {A5 A6 : Option Addr} {c5 c6 : Nat} {z0 z1 z2 z3 z4 : Value} (hb : Below w.heap.size w W) (hres : W.heap[w.heap.size + 1]? = some (.cells #[z0, z1, z2, z3, z4] 29 (0, 0))) (hB : w.heap.size + 1 < B) (l5 : x.f3.length ≤ c5) (g5 : (Kd.int .u8).C w A5 x.f3.length x.f3) (r5 : (km w).R 29 W B (fun _ => True) (.slice A6 x.f4.length c6) x.f4)
    (hW3 : W3 = (((((W.setCell ⟨w.heap.size + 1, 0, none⟩ (.int .i64 x.f0)).setCell ⟨w.heap.size + 1, 1, none⟩ (.int .i64 x.f1)).setCell ⟨w.heap.size + 1, 2, none⟩ (.bool x.f2)).setCell ⟨w.heap.size + 1, 3, none⟩ (.slice A5 x.f3.length c5)).setCell ⟨w.heap.size + 1, 4, none⟩ (.slice A6 x.f4.length c6))) :
    W3.heap[w.heap.size + 1]? = some (.cells #[.int .i64 x.f0, .int .i64 x.f1, .bool x.f2, .slice A5 x.f3.length c5, .slice A6 x.f4.length c6] 29 (0, 0)) ∧ Got w x (.returned (.agg #[.int .i64 x.f0, .int .i64 x.f1, .bool x.f2, .slice A5 x.f3.length c5, .slice A6 x.f4.length c6])) W3 := by
  have h5 := blk_set (blk_set (blk_set (blk_set (blk_set hres 0 (.int .i64 x.f0)) 1 (.int .i64 x.f1)) 2 (.bool x.f2)) 3 (.slice A5 x.f3.length c5)) 4 (.slice A6 x.f4.length c6)
  rw [← hW3] at h5
  have hb3 : Below w.heap.size w W3 := by
    rw [hW3]
    exact ((((hb.setCell (p := ⟨w.heap.size + 1, 0, none⟩) (by show w.heap.size ≤ w.heap.size + 1; omega) _).setCell (p := ⟨w.heap.size + 1, 1, none⟩) (by show w.heap.size ≤ w.heap.size + 1; omega) _).setCell (p := ⟨w.heap.size + 1, 2, none⟩) (by show w.heap.size ≤ w.heap.size + 1; omega) _).setCell (p := ⟨w.heap.size + 1, 3, none⟩) (by show w.heap.size ≤ w.heap.size + 1; omega) _).setCell (p := ⟨w.heap.size + 1, 4, none⟩) (by show w.heap.size ≤ w.heap.size + 1; omega) _
  have hr : (km w).R 29 W3 B (fun k => k ≠ w.heap.size + 1) (.slice A6 x.f4.length c6) x.f4 := by
    have h0 : (km w).R 29 W B (fun k => k ≠ w.heap.size + 1) (.slice A6 x.f4.length c6) x.f4 := Kd.R_mono (Kd.R_bound r5) (fun k hk => by have := hk.2.1; omega)
    rw [hW3]
    exact Kd.R_far (Kd.R_far (Kd.R_far (Kd.R_far (Kd.R_far h0 (p := ⟨w.heap.size + 1, 0, none⟩) (fun k hk => hk) _) (p := ⟨w.heap.size + 1, 1, none⟩) (fun k hk => hk) _) (p := ⟨w.heap.size + 1, 2, none⟩) (fun k hk => hk) _) (p := ⟨w.heap.size + 1, 3, none⟩) (fun k hk => hk) _) (p := ⟨w.heap.size + 1, 4, none⟩) (fun k hk => hk) _
  obtain ⟨_, l6, r6⟩ := Kd.R_reads' hr
  exact ⟨h5, A5, c5, A6, c6, rfl, l5, Kd.C_below g5 hb3, l6, Kd.C_read (dm := km w) (d := k29) rfl (fun x cs hp => km_read hb3 hp) r6, hb3⟩

end Go.Proofs.YtejbpbdlolehnaaDoor.Within

namespace Go.Proofs.YtejbpbdlolehnaaDoor.Within
open Go.RowKit Go.Proofs.YtejbpbdlolehnaaDoorW.PrintWords Go.Proofs.YtejbpbdlolehnaaDoor.PFnEncode Go.Proofs.YtejbpbdlolehnaaDoor.Tree Go.Proofs.YtejbpbdlolehnaaDoor.Buf
set_option linter.unusedVariables false
set_option linter.unusedSimpArgs false

set_option maxHeartbeats 6400000 in
set_option maxRecDepth 100000 in
theorem answer_any (p : S25) (A3 : Option Addr) (c3 : Nat) (A4 : Option Addr) (c4 : Nat) (w : World) (h3 : (Kd.int .u8).C w A3 p.f3.length p.f3) (l3 : p.f3.length ≤ c3) (h4 : k25.C w A4 p.f4.length p.f4) (l4 : p.f4.length ≤ c4) (hln : lens p = true) :
    Calls Tryd.prog 14 #[.agg #[.int .i64 p.f0, .int .i64 p.f1, .bool p.f2, .slice A3 p.f3.length c3, .slice A4 p.f4.length c4]] w (Got w (wi 60 p 200000).1) := by
  obtain ⟨W1, hW1⟩ : ∃ W1, W1 = ((w.alloc (.cells #[.int .i64 p.f0, .int .i64 p.f1, .bool p.f2, .slice A3 p.f3.length c3, .slice A4 p.f4.length c4] 25)).alloc (.cells #[.int .i64 0, .int .i64 0, .bool false, .slice none 0 0, .slice none 0 0] 29)).alloc (.cells #[.int .i64 200000] 3) := ⟨_, rfl⟩
  have hb : Below w.heap.size w W1 := by rw [hW1]; exact below_alloc (below_alloc (below_alloc (Below.refl _ _) _) _) _
  have hrm : W1.heap[w.heap.size + 1 + 1]? = some (.cells #[.int .i64 200000] 3 (0, 0)) := by
    have := blk_new ((w.alloc (.cells #[.int .i64 p.f0, .int .i64 p.f1, .bool p.f2, .slice A3 p.f3.length c3, .slice A4 p.f4.length c4] 25)).alloc (.cells #[.int .i64 0, .int .i64 0, .bool false, .slice none 0 0, .slice none 0 0] 29)) (.cells #[.int .i64 200000] 3)
    rw [hW1]
    simpa using this
  have hres : W1.heap[w.heap.size + 1]? = some (.cells #[.int .i64 0, .int .i64 0, .bool false, .slice none 0 0, .slice none 0 0] 29 (0, 0)) := by
    have := blk_alloc (blk_new (w.alloc (.cells #[.int .i64 p.f0, .int .i64 p.f1, .bool p.f2, .slice A3 p.f3.length c3, .slice A4 p.f4.length c4] 25)) (.cells #[.int .i64 0, .int .i64 0, .bool false, .slice none 0 0, .slice none 0 0] 29)) (.cells #[.int .i64 200000] 3)
    rw [hW1]
    simpa using this
  have HC : Hid (Calls Tryd.prog 16 #[.agg #[.int .i64 p.f0, .int .i64 p.f1, .bool p.f2, .slice A3 p.f3.length c3, .slice A4 p.f4.length c4], .int .i64 60, .pointer (some ⟨w.heap.size + 1 + 1, 0, none⟩)] W1 (Read w W1 (w.heap.size + 1 + 1) (wi 60 p 200000).1 (wi 60 p 200000).2)) :=
    Lib.hid (within_any w 60 (by omega) p A3 c3 A4 c4 200000 (w.heap.size + 1 + 1) W1 h3 l3 h4 l4 hln (by omega) (by omega) hrm (by omega) hb)
  obtain ⟨x, hx⟩ : ∃ x, x = (wi 60 p 200000).1 := ⟨_, rfl⟩
  rw [← hx] at HC ⊢
  have HX := Lib.hid hx
  have HB := Lib.hid hb
  have HRES := Lib.hid hres
  have HW1 := Lib.hid hW1
  clear hx hb hres hrm hW1 h3 h4 hln
  go_enter Tryd.func14, Tryd.ntmps14
  go_wp2_with fail
  rw [← HW1.out]
  refine HC.out.mono ?_
  rintro e W4 ⟨c, rfl, hM, hrm4, hon4⟩
  obtain ⟨A5, c5, v5, rfl, l5, g5, r5⟩ := km_openM hM
  obtain ⟨A6, c6, rfl, l6, r6⟩ := Kd.R_reads r5
  have hB4 : Below w.heap.size w W4 := HB.out.trans (hon4.below HB.out.size (fun i hi => by omega))
  have hres4 : W4.heap[w.heap.size + 1]? = some (.cells #[.int .i64 0, .int .i64 0, .bool false, .slice none 0 0, .slice none 0 0] 29 (0, 0)) := (hon4.block _ (blk_lt HRES.out) (by show ¬ _ = w.heap.size + 1 + 1; omega)).trans HRES.out
  clear l6 r6
  have kf0 : W4.frozen? ⟨w.heap.size + 1, 0, none⟩ = false := blk_frozen hres4 0
  have kf1 : W4.frozen? ⟨w.heap.size + 1, 1, none⟩ = false := blk_frozen hres4 1
  have kf2 : W4.frozen? ⟨w.heap.size + 1, 2, none⟩ = false := blk_frozen hres4 2
  have kf3 : W4.frozen? ⟨w.heap.size + 1, 3, none⟩ = false := blk_frozen hres4 3
  have kf4 : W4.frozen? ⟨w.heap.size + 1, 4, none⟩ = false := blk_frozen hres4 4
  have k0 : W4.cell? ⟨w.heap.size + 1, 0, none⟩ = some (.int .i64 0) := blk_cell hres4 0
  have k1 : W4.cell? ⟨w.heap.size + 1, 1, none⟩ = some (.int .i64 0) := blk_cell hres4 1
  have k2 : W4.cell? ⟨w.heap.size + 1, 2, none⟩ = some (.bool false) := blk_cell hres4 2
  have k3 : W4.cell? ⟨w.heap.size + 1, 3, none⟩ = some (.slice none 0 0) := blk_cell hres4 3
  have k4 : W4.cell? ⟨w.heap.size + 1, 4, none⟩ = some (.slice none 0 0) := blk_cell hres4 4
  have R5 := Lib.hid r5
  have G5 := Lib.hid g5
  have HR4 := Lib.hid hres4
  have HB4 := Lib.hid hB4
  have HRM4 := Lib.hid (blk_lt HRES.out)
  clear r5 g5 hres4 hB4 hM hrm4 hon4
  go_wp2
  obtain ⟨h5, hend⟩ := pk_end (x := x) HB4.out HR4.out (by have := HRM4.out; omega) l5 G5.out R5.out rfl
  try simp only [Exit.inBlock, Exit.then]
  exact bodyPost_ret (results_c rfl _ _ _ _ _ _ _ rfl h5 Tryd.underlying29 rfl size29) rfl hend

end Go.Proofs.YtejbpbdlolehnaaDoor.Within
namespace Go.Proofs.YtejbpbdlolehnaaDoor.Tree
open Go.RowKit Go.Proofs.YtejbpbdlolehnaaDoorW.PrintWords Go.Proofs.YtejbpbdlolehnaaDoor.PFnEncode Go.Proofs.YtejbpbdlolehnaaDoor.Within Go.Proofs.YtejbpbdlolehnaaDoor.Num Go.Proofs.YtejbpbdlolehnaaDoor.Ident
set_option linter.unusedVariables false
set_option linter.unusedSimpArgs false

mutual
/-- the bytes of a packet -/
def bytesT : S29 → List Int
  | ⟨a, b, c, d, l⟩ => identT a b c ++ lenBytes (d ++ bytesL l).length ++ (d ++ bytesL l)
def bytesL : List S29 → List Int
  | [] => []
  | x :: xs => bytesT x ++ bytesL xs
end

theorem len_le_tsB : ∀ l : List S29, l.length ≤ tsizeL l
  | [] => Nat.le_refl _
  | x :: xs => by
    have := len_le_tsB xs
    rw [tsizeL, List.length_cons]
    have h : 1 ≤ tsize x := by obtain ⟨a, b, c, d, l⟩ := x; rw [tsize]; omega
    omega

theorem bytesL_append (l m : List S29) : bytesL (l ++ m) = bytesL l ++ bytesL m := by
  induction l with
  | nil => simp [bytesL]
  | cons x xs ih => rw [List.cons_append, bytesL, bytesL, ih, List.append_assoc]

theorem identT_le (a b : Int) (c : Bool) (h0 : 0 ≤ b) (h : b < 268435456) : (identT a b c).length ≤ 5 := by
  unfold identT
  split
  · simp
  · have := ng_le 4 b.toNat (by omega)
    simp [low_length]
    exact this

mutual
theorem bytesT_le : ∀ x : S29, good x = true → tsize x < 72057594037927936 → (bytesT x).length ≤ 14 * tsize x
  | ⟨a, b, c, d, l⟩, hg, h => by
    rw [good] at hg
    simp only [Bool.and_eq_true, decide_eq_true_eq] at hg
    rw [tsize] at h ⊢
    have h1 := bytesL_le l hg.2 (by omega)
    have h2 := identT_le a b c hg.1.1.1.2 hg.1.1.2
    rw [bytesT]
    have h3 := lenBytes_le (d ++ bytesL l).length (by simp; omega)
    simp only [List.length_append] at h3 ⊢
    omega
theorem bytesL_le : ∀ l : List S29, goodL l = true → tsizeL l < 72057594037927936 → (bytesL l).length ≤ 14 * tsizeL l
  | [], _, _ => by simp [bytesL]
  | x :: xs, hg, h => by
    rw [goodL, Bool.and_eq_true] at hg
    rw [tsizeL] at h ⊢
    have h1 := bytesT_le x hg.1 (by omega)
    have h2 := bytesL_le xs hg.2 (by omega)
    rw [bytesL, List.length_append]
    omega
end

end Go.Proofs.YtejbpbdlolehnaaDoor.Tree
namespace Go.Proofs.YtejbpbdlolehnaaDoor.Tree
open Go.RowKit Go.Proofs.YtejbpbdlolehnaaDoorW.PrintWords Go.Proofs.YtejbpbdlolehnaaDoor.PFnEncode Go.Proofs.YtejbpbdlolehnaaDoor.Num Go.Proofs.YtejbpbdlolehnaaDoor.Ident
set_option linter.unusedVariables false
set_option linter.unusedSimpArgs false

/-- a tag of many bytes: acc so far, out of n bytes: the tag, and how many bytes it has -/
def tagB : List Int → Int → Nat → Option (Int × Nat)
  | [], _, _ => none
  | b :: l, acc, n => if 2097152 ≤ acc then none else if n = 0 ∧ b % 128 = 0 then none else if b < 128 then some (acc * 128 + b % 128, n + 1) else tagB l (acc * 128 + b % 128) (n + 1)
/-- an identifier: class, whether it is constructed, tag, how many bytes -/
def idB : List Int → Option (Int × Bool × Int × Nat)
  | [] => none
  | b :: l => if b % 32 < 31 then some (b / 64, decide (b / 32 % 2 = 1), b % 32, 1) else (tagB l 0 0).map fun r => (b / 64, decide (b / 32 % 2 = 1), r.1, r.2 + 1)
/-- the number of bytes -/
def beN (l : List Int) : Int := l.foldl (fun a b => a * 256 + b) 0
/-- a length: the number, how many bytes -/
def lenB : List Int → Option (Int × Nat)
  | [] => none
  | b :: l => if b < 128 then some (b, 1) else if b = 128 ∨ 132 < b then none else if (b - 128).toNat ≤ l.length then some (beN (l.take (b - 128).toNat), (b - 128).toNat + 1) else none
/-- a header: class, whether it is constructed, tag, length, how many bytes -/
def hdrB (l : List Int) : Option (Int × Bool × Int × Int × Nat) :=
  (idB l).bind fun i => (lenB (l.drop i.2.2.2)).map fun n => (i.1, i.2.1, i.2.2.1, n.1, i.2.2.2 + n.2)

theorem tagB_app : ∀ {l : List Int} {acc : Int} {n : Nat} {r : Int × Nat} (m : List Int), tagB l acc n = some r → tagB (l ++ m) acc n = some r ∧ n < r.2 ∧ r.2 ≤ n + l.length
  | [], _, _, _, _, h => by simp [tagB] at h
  | b :: l, acc, n, r, m, h => by
    rw [tagB] at h
    rw [List.cons_append, tagB]
    by_cases h1 : 2097152 ≤ acc
    · rw [if_pos h1] at h; cases h
    by_cases h2 : n = 0 ∧ b % 128 = 0
    · rw [if_neg h1, if_pos h2] at h; cases h
    rw [if_neg h1, if_neg h2] at h ⊢
    by_cases h3 : b < 128
    · rw [if_pos h3] at h ⊢
      cases h
      exact ⟨rfl, Nat.lt_succ_self _, by rw [List.length_cons]; simp only; omega⟩
    · rw [if_neg h3] at h ⊢
      obtain ⟨e, h4, h5⟩ := tagB_app m h
      exact ⟨e, by omega, by rw [List.length_cons]; omega⟩
theorem idB_app {l : List Int} {r : Int × Bool × Int × Nat} (m : List Int) (h : idB l = some r) : idB (l ++ m) = some r ∧ 1 ≤ r.2.2.2 ∧ r.2.2.2 ≤ l.length := by
  cases l with
  | nil => simp [idB] at h
  | cons b l =>
    rw [idB] at h
    rw [List.cons_append, idB]
    by_cases h1 : b % 32 < 31
    · rw [if_pos h1] at h ⊢
      cases h
      exact ⟨rfl, Nat.le_refl _, by simp⟩
    · rw [if_neg h1] at h ⊢
      rw [Option.map_eq_some_iff] at h
      obtain ⟨t, ht, rfl⟩ := h
      obtain ⟨e, h4, h5⟩ := tagB_app m ht
      exact ⟨by simp [e], by simp, by simp; omega⟩
theorem lenB_app {l : List Int} {r : Int × Nat} (m : List Int) (h : lenB l = some r) : lenB (l ++ m) = some r ∧ 1 ≤ r.2 ∧ r.2 ≤ l.length := by
  cases l with
  | nil => simp [lenB] at h
  | cons b l =>
    rw [lenB] at h
    rw [List.cons_append, lenB]
    by_cases h1 : b < 128
    · rw [if_pos h1] at h ⊢
      cases h
      exact ⟨rfl, Nat.le_refl _, by simp⟩
    rw [if_neg h1] at h ⊢
    by_cases h2 : b = 128 ∨ 132 < b
    · rw [if_pos h2] at h; cases h
    rw [if_neg h2] at h ⊢
    by_cases h3 : (b - 128).toNat ≤ l.length
    · rw [if_pos h3] at h
      rw [if_pos (by simp; omega), List.take_append_of_le_length h3]
      cases h
      exact ⟨rfl, by simp, by simp; omega⟩
    · rw [if_neg h3] at h; cases h
theorem hdrB_app {l : List Int} {r : Int × Bool × Int × Int × Nat} (m : List Int) (h : hdrB l = some r) : hdrB (l ++ m) = some r ∧ 2 ≤ r.2.2.2.2 ∧ r.2.2.2.2 ≤ l.length := by
  unfold hdrB at h ⊢
  rw [Option.bind_eq_some_iff] at h
  obtain ⟨i, hi, h⟩ := h
  rw [Option.map_eq_some_iff] at h
  obtain ⟨n, hn, rfl⟩ := h
  obtain ⟨e1, h1, h2⟩ := idB_app m hi
  obtain ⟨e2, h3, h4⟩ := lenB_app m hn
  rw [List.length_drop] at h4
  refine ⟨?_, by simp only; omega, by simp only; omega⟩
  rw [e1, Option.bind_some, List.drop_append_of_le_length h2, e2]
  rfl

mutual
/-- the first n of these bytes are the packet x -/
inductive Par : List Int → S29 → Nat → Prop
  | prim {l : List Int} {cls tag : Int} {n k : Nat} (h : hdrB l = some (cls, false, tag, (n : Int), k)) (hn : k + n ≤ l.length) : Par l ⟨cls, tag, false, (l.drop k).take n, []⟩ (k + n)
  | cons {l : List Int} {cls tag : Int} {n k : Nat} {ks : List S29} (h : hdrB l = some (cls, true, tag, (n : Int), k)) (hn : k + n ≤ l.length) (hk : ParL ((l.drop k).take n) ks) : Par l ⟨cls, tag, true, [], ks⟩ (k + n)
/-- these bytes are packets, one behind the other -/
inductive ParL : List Int → List S29 → Prop
  | nil : ParL [] []
  | cons {l : List Int} {x : S29} {n : Nat} {xs : List S29} (h : Par l x n) (hs : ParL (l.drop n) xs) : ParL l (x :: xs)
end
theorem Par.len {l : List Int} {x : S29} {n : Nat} (h : Par l x n) : 2 ≤ n ∧ n ≤ l.length := by
  cases h with
  | prim h hn => have := (hdrB_app [] h).2; simp only at this; omega
  | cons h hn hk => have := (hdrB_app [] h).2; simp only at this; omega
theorem Par.app {l : List Int} {x : S29} {n : Nat} (h : Par l x n) (m : List Int) : Par (l ++ m) x n := by
  cases h with
  | @prim _ cls tag n k h hn =>
    have h1 := hdrB_app m h
    have h2 : ((l ++ m).drop k).take n = (l.drop k).take n := by
      rw [List.drop_append_of_le_length (by omega), List.take_append_of_le_length (by rw [List.length_drop]; omega)]
    rw [← h2]
    exact .prim h1.1 (by simp; omega)
  | @cons _ cls tag n k ks h hn hk =>
    have h1 := hdrB_app m h
    have h2 : ((l ++ m).drop k).take n = (l.drop k).take n := by
      rw [List.drop_append_of_le_length (by omega), List.take_append_of_le_length (by rw [List.length_drop]; omega)]
    rw [← h2] at hk
    exact .cons h1.1 (by simp; omega) hk

-- the bytes of a packet
theorem beN_snoc (l : List Int) (b : Int) : beN (l ++ [b]) = beN l * 256 + b := by simp [beN]
theorem ParL.eq_nil {l : List Int} (h : ParL l []) : l = [] := by cases h; rfl
theorem ParL.inv {l : List Int} {x : S29} {xs : List S29} (h : ParL l (x :: xs)) : ∃ n, Par l x n ∧ ParL (l.drop n) xs := by
  cases h with
  | cons h hs => exact ⟨_, h, hs⟩
end Go.Proofs.YtejbpbdlolehnaaDoor.Tree
namespace Go.Proofs.YtejbpbdlolehnaaDoor.Ber
open Go.RowKit Go.Proofs.YtejbpbdlolehnaaDoorW.PrintWords Go.Proofs.YtejbpbdlolehnaaDoorW.PrintLast Go.Proofs.YtejbpbdlolehnaaDoor.Buf Go.Proofs.YtejbpbdlolehnaaDoor.Pk Go.Proofs.YtejbpbdlolehnaaDoor.Tree
set_option linter.unusedVariables false
set_option linter.unusedSimpArgs false
section
variable {T F : Nat} {r : Value} {g B : Nat} {va ua : Addr} {Q : World → List Int → Prop}
theorem eql_same (va : Addr) (W : World) : (binOp .eql 52 (.iface 104 (.pointer (some va))) (.iface 104 (.pointer (some va)))).run Tryd.prog W = .ok (.bool true) W := by
  have h1 : (Tryd.prog.info? 104).map (·.comparable) = some true := by kernel_rfl
  have h2 : (Tryd.prog.info? 106).isSome = true := by kernel_rfl
  obtain ⟨i, hi, hc⟩ := Option.map_eq_some_iff.1 h1
  obtain ⟨j, hj⟩ := Option.isSome_iff_exists.1 h2
  exact run_eql_iface_ptr_same W va Tryd.underlying52 Tryd.underlying104 hi hc hj
theorem eql_other (va ua : Addr) (W : World) (hne : ua ≠ va) (h1 : ∃ ca ta, W.heap[va.block]? = some (.cells ca ta (0, 0))) (h2 : ∃ ca ta, W.heap[ua.block]? = some (.cells ca ta (0, 0))) : (binOp .eql 52 (.iface 104 (.pointer (some ua))) (.iface 104 (.pointer (some va)))).run Tryd.prog W = .ok (.bool false) W := by
  have e1 : (Tryd.prog.info? 104).map (·.comparable) = some true := by kernel_rfl
  have e2 : (Tryd.prog.info? 106).map (·.size) = some 1 := by kernel_rfl
  obtain ⟨i, hi, hc⟩ := Option.map_eq_some_iff.1 e1
  obtain ⟨j, hj, hs⟩ := Option.map_eq_some_iff.1 e2
  obtain ⟨ca, ta, hv⟩ := h1
  obtain ⟨cb, tb, hu⟩ := h2
  exact run_eql_iface_ptr_other W Tryd.underlying52 Tryd.underlying104 hi hc hj (by rw [hs]; decide) hne hu hv
set_option maxHeartbeats 3200000 in
set_option maxRecDepth 100000 in
theorem eof_turn (va ua : Addr) (W : World) (h1 : W.cell? ⟨0, 0, none⟩ = some (.iface 104 (.pointer (some va)))) (h2 : W.cell? ⟨1, 0, none⟩ = some (.iface 104 (.pointer (some ua)))) :
    Calls Tryd.prog 37 #[(.iface 104 (.pointer (some va)))] W fun e w' => e = .returned (.iface 104 (.pointer (some ua))) ∧ w' = W := by
  have hq := eql_same va W
  go_enter Tryd.func37, Tryd.ntmps37
  go_wp2
  go_ret
  exact ⟨rfl, rfl⟩
set_option maxHeartbeats 3200000 in
set_option maxRecDepth 100000 in
theorem ueof_turn (va ua : Addr) (W : World) (h1 : W.cell? ⟨0, 0, none⟩ = some (.iface 104 (.pointer (some va)))) (h2 : W.cell? ⟨1, 0, none⟩ = some (.iface 104 (.pointer (some ua)))) (h3 : ∃ ca ta, W.heap[va.block]? = some (.cells ca ta (0, 0))) (h4 : ∃ ca ta, W.heap[ua.block]? = some (.cells ca ta (0, 0))) :
    Calls Tryd.prog 37 #[(.iface 104 (.pointer (some ua)))] W fun e w' => e = .returned (.iface 104 (.pointer (some ua))) ∧ w' = W := by
  by_cases hq : ua = va
  · subst hq
    exact eof_turn ua ua W h1 h2
  · have hz := eql_other va ua W hq h3 h4
    clear h3 h4
    go_enter Tryd.func37, Tryd.ntmps37
    go_wp2
    go_ret
    exact ⟨rfl, rfl⟩
theorem and128 : ∀ n : Fin 256, Go.bits .and .u8 ((n : Nat) : Int) 128 = if n.val < 128 then 0 else 128 := by decide +kernel
theorem and127 : ∀ n : Fin 256, Go.bits .and .i64 ((n : Nat) : Int) 127 = ((n.val % 128 : Nat) : Int) := by decide +kernel
set_option maxHeartbeats 3200000 in
set_option maxRecDepth 100000 in
theorem readLen_short (R : RdSpec T F r g B va ua Q) (W : World) (b : Int) (l : List Int) (hQ : Q W (b :: l)) (hB : B ≤ W.heap.size) (b0 : 0 ≤ b) (b1 : b < 128) :
    Calls Tryd.prog 53 #[.iface T r] W fun e w' => e = .returned (.tuple #[.int .i64 b, .int .i64 1, .nilIface]) ∧ Q w' l ∧ Only (fun b => b = g) W w' := by
  have HA := Lib.hid (readByte_some R W b l hQ hB)
  have e1 : (b == 255) = false := by simp; omega
  have e2 : (b == 128) = false := by simp; omega
  have e3 : Go.bits .and .u8 b 128 = 0 := by
    have := and128 ⟨b.toNat, by omega⟩
    simp only [Int.toNat_of_nonneg b0] at this
    rw [this, if_pos (by omega)]
  have e4 : Go.bits .and .i64 b 127 = b := by
    have := and127 ⟨b.toNat, by omega⟩
    simp only [Int.toNat_of_nonneg b0] at this
    rw [this]
    omega
  clear hQ R hB
  go_enter Tryd.func53, Tryd.ntmps53
  go_wp2_with (go_at_call 65
               with_reducible refine HA.out.mono ?_
               rintro e W5 ⟨rfl, hQ5⟩
               have HQ5 := Lib.hid hQ5
               clear hQ5)
  go_ret3
  exact ⟨rfl, HQ5.out⟩
set_option maxHeartbeats 3200000 in
set_option maxRecDepth 100000 in
theorem readLen_none (R : RdSpec T F r g B va ua Q) (W : World) (hQ : Q W []) (hB : B ≤ W.heap.size) :
    Calls Tryd.prog 53 #[.iface T r] W fun e w' => e = .returned (.tuple #[.int .i64 0, .int .i64 0, (.iface 104 (.pointer (some ua)))]) ∧ Q w' [] ∧ Only (fun b => b = g) W w' := by
  have HA := Lib.hid (readByte_none R W hQ hB)
  have HE : Hid (∀ W', Q W' [] → Calls Tryd.prog 37 #[(.iface 104 (.pointer (some va)))] W' fun e w' => e = .returned (.iface 104 (.pointer (some ua))) ∧ w' = W') := Lib.hid (fun W' h => eof_turn va ua W' (R.eof _ _ h) (R.ueof _ _ h))
  clear hQ R hB
  go_enter Tryd.func53, Tryd.ntmps53
  go_wp2_with (first
    | (go_at_call 65
       with_reducible refine HA.out.mono ?_
       rintro e W5 ⟨rfl, hQ5⟩
       have HQ5 := Lib.hid hQ5
       clear hQ5)
    | (go_at_call 37
       with_reducible refine (HE.out W5 HQ5.out.1).mono ?_
       rintro e W6 ⟨rfl, rfl⟩))
  go_ret3
  exact ⟨rfl, HQ5.out⟩
theorem or_u64 (u z : Int) (h0 : 0 ≤ u) (h1 : u < 16777216) (z0 : 0 ≤ z) (z1 : z < 256) : Go.bits .or .u64 (u * 256) z = u * 256 + z := by
  obtain ⟨M, rfl⟩ : ∃ M : Nat, u = M := ⟨u.toNat, by omega⟩
  obtain ⟨b, rfl⟩ : ∃ b : Nat, z = b := ⟨z.toNat, by omega⟩
  show IntKind.u64.wrap ((BitVec.ofInt 64 ((M : Int) * 256) ||| BitVec.ofInt 64 (b : Int)).toNat : Int) = _
  rw [BitVec.toNat_or, BitVec.toNat_ofInt, BitVec.toNat_ofInt]
  have e0 : ((2 ^ 64 : Nat) : Int) = 18446744073709551616 := by decide
  rw [e0]
  have e1 : ((M : Int) * 256 % 18446744073709551616).toNat = 2 ^ 8 * M := by omega
  have e2 : ((b : Int) % 18446744073709551616).toNat = b := by omega
  rw [e1, e2]
  have e3 : 2 ^ 8 * M ||| b = 2 ^ 8 * M + b := (Nat.two_pow_add_eq_or_of_lt (show b < 2 ^ 8 by omega) M).symm
  rw [e3]
  show IntKind.u64.wrap _ = _
  rw [IntKind.wrap_u64]
  omega
theorem beN_take_lt (xs : List Int) (hx : ∀ x ∈ xs, 0 ≤ x ∧ x < 256) : ∀ k, k ≤ xs.length → 0 ≤ beN (xs.take k) ∧ beN (xs.take k) < ((256 ^ k : Nat) : Int)
  | 0, _ => by simp [beN]
  | k + 1, hk => by
    obtain ⟨h1, h2⟩ := beN_take_lt xs hx k (by omega)
    have h3 := hx xs[k] (List.getElem_mem (by omega))
    rw [List.take_succ_eq_append_getElem (by omega), beN_snoc, Nat.pow_succ]
    constructor <;> omega
set_option maxHeartbeats 3200000 in
set_option maxRecDepth 100000 in
theorem readLen_long (R : RdSpec T F r g B va ua Q) (W : World) (b : Int) (xs l : List Int) (hQ : Q W (b :: (xs ++ l))) (hB : B ≤ W.heap.size) (hb : b = 128 + (xs.length : Int)) (h1 : 1 ≤ xs.length) (h4 : xs.length ≤ 4) (hx : ∀ x ∈ xs, 0 ≤ x ∧ x < 256) :
    Calls Tryd.prog 53 #[.iface T r] W fun e w' => e = .returned (.tuple #[.int .i64 (beN xs), .int .i64 ((xs.length + 1 : Nat) : Int), .nilIface]) ∧ Q w' l ∧ Only (fun b => b = g) W w' := by
  have HA := Lib.hid (readByte_some R W b (xs ++ l) hQ hB)
  have HRB : Hid (∀ (W' : World) (x : Int) (m : List Int), Q W' (x :: m) → Only (fun b => b = g) W W' → Calls Tryd.prog 65 #[.iface T r] W' fun e w' => e = .returned (.tuple #[.int .u8 x, .nilIface]) ∧ Q w' m ∧ Only (fun b => b = g) W w') := Lib.hid (fun W' x m hq ho => by
    refine (readByte_some R W' x m hq (Nat.le_trans hB ho.size)).mono ?_
    rintro e w' ⟨he, hq', ho'⟩
    exact ⟨he, hq', ho.trans ho' (fun i _ h => h)⟩)
  have e1 : (b == 255) = false := by simp; omega
  have e2 : (b == 128) = false := by simp; omega
  have e3 : Go.bits .and .u8 b 128 = 128 := by
    have := and128 ⟨b.toNat, by omega⟩
    simp only [Int.toNat_of_nonneg (show 0 ≤ b by omega)] at this
    rw [this, if_neg (by omega)]
  obtain ⟨c, hc⟩ : ∃ c : Int, c = (xs.length : Int) := ⟨_, rfl⟩
  have e4 : Go.bits .and .i64 b 127 = c := by
    have := and127 ⟨b.toNat, by omega⟩
    simp only [Int.toNat_of_nonneg (show 0 ≤ b by omega)] at this
    rw [this]
    omega
  have e5 : decide (8 < c) = false := decide_eq_false (by omega)
  have hb0 : 0 ≤ b := by omega
  have hb1 : b < 256 := by omega
  have hc4 : c ≤ 4 := by omega
  have hc1 : 1 ≤ c := by omega
  have HB4 := Lib.hid (beN_take_lt xs hx)
  have HX := Lib.hid hx
  have HC := Lib.hid hc
  have HL := Lib.hid (And.intro h1 h4)
  clear hQ R hB hb h1 h4 hx hc
  go_enter Tryd.func53, Tryd.ntmps53
  go_wp2_with (go_at_call 65
               with_reducible refine HA.out.mono ?_
               rintro e W5 ⟨rfl, hQ5⟩
               have HQ5 := Lib.hid hQ5
               clear hQ5)
  go_loopw [3, 4, 5, 7, 8] (fun rd er bb ln i wr => ∃ (k : Nat) (q u y : Int), k ≤ xs.length ∧ rd = .int .i64 q ∧ q = 1 + (k : Int) ∧ er = .nilIface ∧ bb = .int .u8 y ∧ ln = .int .u64 u ∧ u = beN (xs.take k) ∧ i = .int .i64 k ∧ Hid (Q wr (xs.drop k ++ l) ∧ Only (fun b => b = g) W wr)) (fun _ _ _ _ i _ => xs.length - (intOf i).toNat)
  case atStart => exact ⟨0, 1, 0, b, Nat.zero_le _, rfl, rfl, rfl, rfl, rfl, rfl, rfl, Lib.hid ⟨by simpa using HQ5.out.1, HQ5.out.2⟩⟩
  case round =>
    obtain ⟨k, q, u, y, hk, rfl, hq, rfl, rfl, rfl, hu, rfl, HP⟩ := hrel
    have HU := Lib.hid hu
    have HQQ := Lib.hid hq
    have hub := HB4.out k hk
    rw [← hu] at hub
    have hq1 : 1 ≤ q := by omega
    have hq5 : q ≤ 5 := by have := HL.out.2; omega
    by_cases hlt : k < xs.length
    · have hd1 : decide ((k : Int) < c) = true := decide_eq_true (by have := HC.out; omega)
      have hu0 : 0 ≤ u := hub.1
      have hu3 : u < 16777216 := by
        have h5 := hub.2
        have h6 := HL.out.2
        have h7 : 256 ^ k ≤ 256 ^ 3 := Nat.pow_le_pow_right (by decide) (by omega)
        have h8 : (256 ^ 3 : Nat) = 16777216 := by decide
        omega
      have HRX := Lib.hid (HRB.out wr xs[k] (xs.drop (k + 1) ++ l) (by have h := HP.out.1; rwa [List.drop_eq_getElem_cons hlt, List.cons_append] at h) HP.out.2)
      have hxk := HX.out xs[k] (List.getElem_mem hlt)
      have HN : Hid (beN (xs.take (k + 1)) = u * 256 + xs[k]) := Lib.hid (by rw [List.take_succ_eq_append_getElem hlt, beN_snoc, HU.out])
      obtain ⟨z, hz⟩ : ∃ z, z = xs[k] := ⟨_, rfl⟩
      rw [← hz] at HRX hxk HN
      have hz0 : 0 ≤ z := hxk.1
      have hz1 : z < 256 := hxk.2
      clear hub hu hq hxk hz
      go_wp2_with (go_at_call 65
                   with_reducible refine HRX.out.mono ?_
                   rintro e W6 ⟨rfl, hQ6⟩
                   have HQ6 := Lib.hid hQ6
                   clear hQ6)
      exact ⟨⟨k + 1, q + 1, u * 256 + z, z, hlt, rfl, by have := HQQ.out; push_cast; omega, rfl, rfl, by rw [or_u64 u z hu0 hu3 hz0 hz1], HN.out.symm, by first | rfl | go_num | (congr 1; have := HL.out.2; unfold wrap64; omega), HQ6⟩, by
        have e : wrap64 ((k : Int) + 1) = ((k + 1 : Nat) : Int) := by have := HL.out.2; unfold wrap64; omega
        rw [e]
        simp [intOf]
        omega⟩
    · obtain rfl : k = xs.length := by omega
      have hd1 : decide (((xs.length : Nat) : Int) < c) = false := decide_eq_false (by have := HC.out; omega)
      have hu0 : 0 ≤ u := hub.1
      have hu4 : u < 4294967296 := by
        have h5 := hub.2
        have h6 := HL.out.2
        have h7 : 256 ^ xs.length ≤ 256 ^ 4 := Nat.pow_le_pow_right (by decide) h6
        have h8 : (256 ^ 4 : Nat) = 4294967296 := by decide
        omega
      have hd2 : decide (u < 0) = false := decide_eq_false (by omega)
      have HFU : Hid (u = beN xs) := Lib.hid (by rw [HU.out, List.take_length])
      have HP2 : Hid (Q wr l) := Lib.hid (by have h := HP.out.1; rwa [List.drop_length, List.nil_append] at h)
      clear hub hu hq
      go_wp2
      go_ret3
      exact ⟨by show Ending.returned (.tuple #[.int .i64 u, .int .i64 q, .nilIface]) = _; rw [← HFU.out, ← show q = ((xs.length + 1 : Nat) : Int) from by have := HQQ.out; omega], HP2.out, HP.out.2⟩
/-- an error, and how many bytes were read -/
def LenCut (P : Int → Prop) (u : Value) (e : Ending) : Prop := ∃ q, P q ∧ e = .returned (.tuple #[.int .i64 0, .int .i64 q, u])
set_option maxHeartbeats 3200000 in
set_option maxRecDepth 100000 in
theorem readLen_cut (R : RdSpec T F r g B va ua Q) (W : World) (b : Int) (xs : List Int) (c : Int) (hQ : Q W (b :: xs)) (hB : B ≤ W.heap.size) (hb : b = 128 + c) (hcx : (xs.length : Int) < c) (hc4 : c ≤ 4) (hx : ∀ x ∈ xs, 0 ≤ x ∧ x < 256) :
    Calls Tryd.prog 53 #[.iface T r] W fun e w' => LenCut (fun _ => True) (.iface 104 (.pointer (some ua))) e ∧ Q w' [] ∧ Only (fun b => b = g) W w' := by
  have HA := Lib.hid (readByte_some R W b xs hQ hB)
  have HRB : Hid (∀ (W' : World) (x : Int) (m : List Int), Q W' (x :: m) → Only (fun b => b = g) W W' → Calls Tryd.prog 65 #[.iface T r] W' fun e w' => e = .returned (.tuple #[.int .u8 x, .nilIface]) ∧ Q w' m ∧ Only (fun b => b = g) W w') := Lib.hid (fun W' x m hq ho => by
    refine (readByte_some R W' x m hq (Nat.le_trans hB ho.size)).mono ?_
    rintro e w' ⟨he, hq', ho'⟩
    exact ⟨he, hq', ho.trans ho' (fun i _ h => h)⟩)
  have e1 : (b == 255) = false := by simp; omega
  have e2 : (b == 128) = false := by simp; omega
  have e3 : Go.bits .and .u8 b 128 = 128 := by
    have := and128 ⟨b.toNat, by omega⟩
    simp only [Int.toNat_of_nonneg (show 0 ≤ b by omega)] at this
    rw [this, if_neg (by omega)]
  have e4 : Go.bits .and .i64 b 127 = c := by
    have := and127 ⟨b.toNat, by omega⟩
    simp only [Int.toNat_of_nonneg (show 0 ≤ b by omega)] at this
    rw [this]
    omega
  have e5 : decide (8 < c) = false := decide_eq_false (by omega)
  have hb0 : 0 ≤ b := by omega
  have hb1 : b < 256 := by omega
  have hc1 : 1 ≤ c := by omega
  have HB4 := Lib.hid (beN_take_lt xs hx)
  have HX := Lib.hid hx
  have HC := Lib.hid hcx
  have HL : Hid (xs.length ≤ 3) := Lib.hid (by omega)
  have HNO : Hid (∀ W' : World, Q W' [] → Only (fun b => b = g) W W' → Calls Tryd.prog 65 #[.iface T r] W' fun e w' => e = .returned (.tuple #[.int .u8 0, (.iface 104 (.pointer (some va)))]) ∧ Q w' [] ∧ Only (fun b => b = g) W w') := Lib.hid (fun W' hq ho => by
    refine (readByte_none R W' hq (Nat.le_trans hB ho.size)).mono ?_
    rintro e w' ⟨he, hq', ho'⟩
    exact ⟨he, hq', ho.trans ho' (fun i _ h => h)⟩)
  have HE : Hid (∀ W', Q W' [] → Calls Tryd.prog 37 #[(.iface 104 (.pointer (some va)))] W' fun e w' => e = .returned (.iface 104 (.pointer (some ua))) ∧ w' = W') := Lib.hid (fun W' h => eof_turn va ua W' (R.eof _ _ h) (R.ueof _ _ h))
  clear hQ R hB hb hx hcx
  go_enter Tryd.func53, Tryd.ntmps53
  go_wp2_with (go_at_call 65
               with_reducible refine HA.out.mono ?_
               rintro e W5 ⟨rfl, hQ5⟩
               have HQ5 := Lib.hid hQ5
               clear hQ5)
  go_loopw [3, 4, 5, 7, 8] (fun rd er bb ln i wr => ∃ (k : Nat) (q u y : Int), k ≤ xs.length ∧ rd = .int .i64 q ∧ q = 1 + (k : Int) ∧ er = .nilIface ∧ bb = .int .u8 y ∧ ln = .int .u64 u ∧ u = beN (xs.take k) ∧ i = .int .i64 k ∧ Hid (Q wr (xs.drop k) ∧ Only (fun b => b = g) W wr)) (fun _ _ _ _ i _ => xs.length - (intOf i).toNat)
  case atStart => exact ⟨0, 1, 0, b, Nat.zero_le _, rfl, rfl, rfl, rfl, rfl, rfl, rfl, Lib.hid ⟨by simpa using HQ5.out.1, HQ5.out.2⟩⟩
  case round =>
    obtain ⟨k, q, u, y, hk, rfl, hq, rfl, rfl, rfl, hu, rfl, HP⟩ := hrel
    have HU := Lib.hid hu
    have HQQ := Lib.hid hq
    have hub := HB4.out k hk
    rw [← hu] at hub
    have hq1 : 1 ≤ q := by omega
    have hq5 : q ≤ 5 := by have := HL.out; omega
    by_cases hlt : k < xs.length
    · have hd1 : decide ((k : Int) < c) = true := decide_eq_true (by have := HC.out; omega)
      have hu0 : 0 ≤ u := hub.1
      have hu3 : u < 16777216 := by
        have h5 := hub.2
        have h6 := HL.out
        have h7 : 256 ^ k ≤ 256 ^ 3 := Nat.pow_le_pow_right (by decide) (by omega)
        have h8 : (256 ^ 3 : Nat) = 16777216 := by decide
        omega
      have HRX := Lib.hid (HRB.out wr xs[k] (xs.drop (k + 1)) (by have h := HP.out.1; rwa [List.drop_eq_getElem_cons hlt] at h) HP.out.2)
      have hxk := HX.out xs[k] (List.getElem_mem hlt)
      have HN : Hid (beN (xs.take (k + 1)) = u * 256 + xs[k]) := Lib.hid (by rw [List.take_succ_eq_append_getElem hlt, beN_snoc, HU.out])
      obtain ⟨z, hz⟩ : ∃ z, z = xs[k] := ⟨_, rfl⟩
      rw [← hz] at HRX hxk HN
      have hz0 : 0 ≤ z := hxk.1
      have hz1 : z < 256 := hxk.2
      clear hub hu hq hxk hz
      go_wp2_with (go_at_call 65
                   with_reducible refine HRX.out.mono ?_
                   rintro e W6 ⟨rfl, hQ6⟩
                   have HQ6 := Lib.hid hQ6
                   clear hQ6)
      exact ⟨⟨k + 1, q + 1, u * 256 + z, z, hlt, rfl, by have := HQQ.out; push_cast; omega, rfl, rfl, by rw [or_u64 u z hu0 hu3 hz0 hz1], HN.out.symm, by first | rfl | go_num | (congr 1; have := HL.out; unfold wrap64; omega), HQ6⟩, by
        have e : wrap64 ((k : Int) + 1) = ((k + 1 : Nat) : Int) := by have := HL.out; unfold wrap64; omega
        rw [e]
        simp [intOf]
        omega⟩
    · obtain rfl : k = xs.length := by omega
      have hd1 : decide (((xs.length : Nat) : Int) < c) = true := decide_eq_true (by have := HC.out; omega)
      have HP2 : Hid (Q wr []) := Lib.hid (by have h := HP.out.1; rwa [List.drop_length] at h)
      have HNX := Lib.hid (HNO.out wr HP2.out HP.out.2)
      clear hub hu hq
      go_wp2_with (first
        | (go_at_call 65
           with_reducible refine HNX.out.mono ?_
           rintro e W6 ⟨rfl, hQ6⟩
           have HQ6 := Lib.hid hQ6
           clear hQ6)
        | (go_at_call 37
           with_reducible refine (HE.out W6 HQ6.out.1).mono ?_
           rintro e W7 ⟨rfl, rfl⟩))
      go_ret3
      exact ⟨⟨q, trivial, rfl⟩, HQ6.out⟩
end
end Go.Proofs.YtejbpbdlolehnaaDoor.Ber
namespace Go.Proofs.YtejbpbdlolehnaaDoor.Ber
open Go.RowKit Go.Proofs.YtejbpbdlolehnaaDoorW.PrintWords Go.Proofs.YtejbpbdlolehnaaDoorW.PrintLast Go.Proofs.YtejbpbdlolehnaaDoor.Buf Go.Proofs.YtejbpbdlolehnaaDoor.Pk Go.Proofs.YtejbpbdlolehnaaDoor.Tree
set_option linter.unusedVariables false
set_option linter.unusedSimpArgs false
theorem results_ctt {P : Program} {fn : Func} {p u q : Tmp} {ty : TypeId} (h : fn.results = #[.cell p ty, .tmp u, .tmp q]) (tmps : Array Value) (w : World) (g : Nat) (t : TypeId) (cs : Array Value) (fr : Nat × Nat) (d : TypeDesc)
    (hp : tmps.getD p undef = .pointer (some ⟨g, 0, none⟩)) (hg : w.heap[g]? = some (.cells cs t fr))
    (hu : P.underlying ty = some d) (hd : (match d with | .struct _ | .array _ _ => true | _ => false) = true) (hi : (P.info? ty).map (·.size) = some cs.size) :
    (results fn tmps).run P w = .ok (.tuple #[.agg cs, tmps.getD u undef, tmps.getD q undef]) w := by
  have hp' : tmps[p]?.getD undef = .pointer (some ⟨g, 0, none⟩) := by simpa using hp
  simp [results, h, hp', asAddr, run_loadVar_row w g t ty cs fr d hg hu hd hi]
theorem bits_id : ∀ n : Fin 256, Go.bits .and .u8 ((n : Nat) : Int) 192 = ((n.val / 64 * 64 : Nat) : Int) ∧ Go.bits .and .u8 ((n : Nat) : Int) 32 = ((n.val / 32 % 2 * 32 : Nat) : Int) ∧ Go.bits .and .u64 ((n : Nat) : Int) 31 = ((n.val % 32 : Nat) : Int) := by decide +kernel
section
variable {T F : Nat} {r : Value} {g B : Nat} {va ua : Addr} {Q : World → List Int → Prop}
set_option maxHeartbeats 3200000 in
set_option maxRecDepth 100000 in
theorem readId_short (R : RdSpec T F r g B va ua Q) (W : World) (b : Int) (l : List Int) (hQ : Q W (b :: l)) (hB : B ≤ W.heap.size) (b0 : 0 ≤ b) (b1 : b < 256) (hs : b % 32 < 31) :
    Calls Tryd.prog 52 #[.iface T r] W fun e w' => e = .returned (.tuple #[.agg #[.int .u8 (b / 64 * 64), .int .u8 (b / 32 % 2 * 32), .int .u64 (b % 32)], .int .i64 1, .nilIface]) ∧ Q w' l ∧ Only (fun b => b = g) W w' := by
  obtain ⟨W0, hW0⟩ : ∃ W0, W0 = (W.alloc (.cells #[.int .u8 0, .int .u8 0, .int .u64 0] 69)).alloc (.cells #[.int .u8 0, .int .u8 0, .int .u64 0] 69) := ⟨_, rfl⟩
  have hb0 : Below W.heap.size W W0 := by rw [hW0]; exact below_alloc (below_alloc (Below.refl _ _) _) _
  have hX0 : W0.heap[W.heap.size]? = some (.cells #[.int .u8 0, .int .u8 0, .int .u64 0] 69 (0, 0)) := by rw [hW0]; exact blk_alloc (blk_new _ _) _
  have hY0 : W0.heap[W.heap.size + 1]? = some (.cells #[.int .u8 0, .int .u8 0, .int .u64 0] 69 (0, 0)) := by
    have := blk_new (W.alloc (.cells #[.int .u8 0, .int .u8 0, .int .u64 0] 69)) (.cells #[.int .u8 0, .int .u8 0, .int .u64 0] 69)
    have e : (W.alloc (.cells #[.int .u8 0, .int .u8 0, .int .u64 0] 69)).heap.size = W.heap.size + 1 := by simp
    rw [e, ← hW0] at this
    exact this
  have hgs : g < W.heap.size := Nat.lt_of_lt_of_le R.lt hB
  have HA : Hid (Calls Tryd.prog 65 #[.iface T r] W0 fun e w' => e = .returned (.tuple #[.int .u8 b, .nilIface]) ∧ Q w' l ∧ w'.heap[W.heap.size]? = some (.cells #[.int .u8 0, .int .u8 0, .int .u64 0] 69 (0, 0)) ∧ w'.heap[W.heap.size + 1]? = some (.cells #[.int .u8 0, .int .u8 0, .int .u64 0] 69 (0, 0)) ∧ Only (fun b => b = g) W w') := Lib.hid (by
    refine (readByte_some R W0 b l (R.keep W W0 _ hQ (fun i hi => hb0.block i (Nat.lt_of_lt_of_le hi hB))) (Nat.le_trans hB hb0.size)).mono ?_
    rintro e w' ⟨he, hq, ho⟩
    exact ⟨he, hq, (ho.block _ (blk_lt hX0) (by omega)).trans hX0, (ho.block _ (blk_lt hY0) (by omega)).trans hY0, (Only.of_below (fun b => b = g) hb0).trans ho (fun i _ h => h)⟩)
  obtain ⟨a1, a2, a3⟩ := bits_id ⟨b.toNat, by omega⟩
  simp only [Int.toNat_of_nonneg b0] at a1 a2 a3
  have e1 : Go.bits .and .u8 b 192 = b / 64 * 64 := by rw [a1]; omega
  have e2 : Go.bits .and .u8 b 32 = b / 32 % 2 * 32 := by rw [a2]; omega
  have e3 : Go.bits .and .u64 b 31 = b % 32 := by rw [a3]; omega
  have e4 : (b % 32 != 31) = true := by simp; omega
  have e5 : (b % 32 == 31) = false := by simp; omega
  have HKQ : Hid (∀ W5 W', Q W5 l → W.heap.size ≤ W5.heap.size → (∀ i, i < W.heap.size → W'.heap[i]? = W5.heap[i]?) → Q W' l) := Lib.hid (fun W5 W' hq _ h => R.keep W5 W' l hq (fun i hi => h i (Nat.lt_of_lt_of_le hi hB)))
  have HW0 := Lib.hid hW0
  obtain ⟨x1, hx1⟩ : ∃ x1, x1 = b / 64 * 64 := ⟨_, rfl⟩
  obtain ⟨x2, hx2⟩ : ∃ x2, x2 = b / 32 % 2 * 32 := ⟨_, rfl⟩
  obtain ⟨x3, hx3⟩ : ∃ x3, x3 = b % 32 := ⟨_, rfl⟩
  rw [← hx1] at e1 ⊢
  rw [← hx2] at e2 ⊢
  rw [← hx3] at e3 e4 e5 ⊢
  clear hQ R hB hb0 hX0 hY0 hW0 a1 a2 a3 hx1 hx2 hx3 hs
  go_enter Tryd.func52, Tryd.ntmps52
  go_upto_region 3 with fail
  rw [← HW0.out]
  go_wp2_with (go_at_call 65
               with_reducible refine HA.out.mono ?_
               rintro e W5 ⟨rfl, hQ5, hX5, hY5, hO5⟩
               have HQ5 := Lib.hid hQ5
               have HX5 := Lib.hid hX5
               have HY5 := Lib.hid hY5
               have HO5 := Lib.hid hO5
               have s0 : W5.cell? ⟨W.heap.size + 1, 0, none⟩ = some (.int .u8 0) := blk_cell hY5 0
               have s1 : W5.cell? ⟨W.heap.size + 1, 1, none⟩ = some (.int .u8 0) := blk_cell hY5 1
               have s2 : W5.cell? ⟨W.heap.size + 1, 2, none⟩ = some (.int .u64 0) := blk_cell hY5 2
               have f0 : W5.frozen? ⟨W.heap.size + 1, 0, none⟩ = false := blk_frozen hY5 0
               have f1 : W5.frozen? ⟨W.heap.size + 1, 1, none⟩ = false := blk_frozen hY5 1
               have f2 : W5.frozen? ⟨W.heap.size + 1, 2, none⟩ = false := blk_frozen hY5 2
               have p0 : W5.cell? ⟨W.heap.size, 0, none⟩ = some (.int .u8 0) := blk_cell hX5 0
               have p1 : W5.cell? ⟨W.heap.size, 1, none⟩ = some (.int .u8 0) := blk_cell hX5 1
               have p2 : W5.cell? ⟨W.heap.size, 2, none⟩ = some (.int .u64 0) := blk_cell hX5 2
               have pf0 : W5.frozen? ⟨W.heap.size, 0, none⟩ = false := blk_frozen hX5 0
               have pf1 : W5.frozen? ⟨W.heap.size, 1, none⟩ = false := blk_frozen hX5 1
               have pf2 : W5.frozen? ⟨W.heap.size, 2, none⟩ = false := blk_frozen hX5 2
               clear hQ5 hX5 hY5 hO5)
  try simp only [Exit.inBlock, Exit.then]
  have hY6 := blk_set (blk_set (blk_set HY5.out 0 (.int .u8 x1)) 1 (.int .u8 x2)) 2 (.int .u64 x3)
  have hX6 := blk_set (blk_set (blk_set (blk_far (blk_far (blk_far HX5.out (p := ⟨W.heap.size + 1, 0, none⟩) (by simp) (.int .u8 x1)) (p := ⟨W.heap.size + 1, 1, none⟩) (by simp) (.int .u8 x2)) (p := ⟨W.heap.size + 1, 2, none⟩) (by simp) (.int .u64 x3)) 0 (.int .u8 x1)) 1 (.int .u8 x2)) 2 (.int .u64 x3)
  refine bodyPost_ret (results_ctt (p := 2) (u := 3) (q := 4) rfl _ _ _ _ _ _ _ rfl hX6 Tryd.underlying69 rfl (by kernel_rfl)) rfl ⟨rfl, HKQ.out W5 _ HQ5.out HO5.out.size (fun i hi => ?_), ?_⟩
  · rw [Below.heap_setCell _ ⟨W.heap.size, 2, none⟩ _ i (by show i ≠ W.heap.size; omega), Below.heap_setCell _ ⟨W.heap.size, 1, none⟩ _ i (by show i ≠ W.heap.size; omega), Below.heap_setCell _ ⟨W.heap.size, 0, none⟩ _ i (by show i ≠ W.heap.size; omega),
      Below.heap_setCell _ ⟨W.heap.size + 1, 2, none⟩ _ i (by show i ≠ W.heap.size + 1; omega), Below.heap_setCell _ ⟨W.heap.size + 1, 1, none⟩ _ i (by show i ≠ W.heap.size + 1; omega), Below.heap_setCell _ ⟨W.heap.size + 1, 0, none⟩ _ i (by show i ≠ W.heap.size + 1; omega)]
  · exact (((((HO5.out.setCell (a := ⟨W.heap.size + 1, 0, none⟩) (fun h => absurd h (by simp)) _).setCell (a := ⟨W.heap.size + 1, 1, none⟩) (fun h => absurd h (by simp)) _).setCell (a := ⟨W.heap.size + 1, 2, none⟩) (fun h => absurd h (by simp)) _).setCell (a := ⟨W.heap.size, 0, none⟩) (fun h => absurd h (by simp)) _).setCell (a := ⟨W.heap.size, 1, none⟩) (fun h => absurd h (by simp)) _).setCell (a := ⟨W.heap.size, 2, none⟩) (fun h => absurd h (by simp)) _
set_option maxHeartbeats 3200000 in
set_option maxRecDepth 100000 in
theorem readId_none (R : RdSpec T F r g B va ua Q) (W : World) (hQ : Q W []) (hB : B ≤ W.heap.size) :
    Calls Tryd.prog 52 #[.iface T r] W fun e w' => e = .returned (.tuple #[.agg #[.int .u8 0, .int .u8 0, .int .u64 0], .int .i64 0, (.iface 104 (.pointer (some va)))]) ∧ Q w' [] ∧ Only (fun b => b = g) W w' := by
  obtain ⟨W0, hW0⟩ : ∃ W0, W0 = (W.alloc (.cells #[.int .u8 0, .int .u8 0, .int .u64 0] 69)).alloc (.cells #[.int .u8 0, .int .u8 0, .int .u64 0] 69) := ⟨_, rfl⟩
  have hb0 : Below W.heap.size W W0 := by rw [hW0]; exact below_alloc (below_alloc (Below.refl _ _) _) _
  have hX0 : W0.heap[W.heap.size]? = some (.cells #[.int .u8 0, .int .u8 0, .int .u64 0] 69 (0, 0)) := by rw [hW0]; exact blk_alloc (blk_new _ _) _
  have hY0 : W0.heap[W.heap.size + 1]? = some (.cells #[.int .u8 0, .int .u8 0, .int .u64 0] 69 (0, 0)) := by
    have := blk_new (W.alloc (.cells #[.int .u8 0, .int .u8 0, .int .u64 0] 69)) (.cells #[.int .u8 0, .int .u8 0, .int .u64 0] 69)
    have e : (W.alloc (.cells #[.int .u8 0, .int .u8 0, .int .u64 0] 69)).heap.size = W.heap.size + 1 := by simp
    rw [e, ← hW0] at this
    exact this
  have hgs : g < W.heap.size := Nat.lt_of_lt_of_le R.lt hB
  have HA : Hid (Calls Tryd.prog 65 #[.iface T r] W0 fun e w' => e = .returned (.tuple #[.int .u8 0, (.iface 104 (.pointer (some va)))]) ∧ Q w' [] ∧ w'.heap[W.heap.size]? = some (.cells #[.int .u8 0, .int .u8 0, .int .u64 0] 69 (0, 0)) ∧ w'.heap[W.heap.size + 1]? = some (.cells #[.int .u8 0, .int .u8 0, .int .u64 0] 69 (0, 0)) ∧ Only (fun b => b = g) W w') := Lib.hid (by
    refine (readByte_none R W0 (R.keep W W0 _ hQ (fun i hi => hb0.block i (Nat.lt_of_lt_of_le hi hB))) (Nat.le_trans hB hb0.size)).mono ?_
    rintro e w' ⟨he, hq, ho⟩
    exact ⟨he, hq, (ho.block _ (blk_lt hX0) (by omega)).trans hX0, (ho.block _ (blk_lt hY0) (by omega)).trans hY0, (Only.of_below (fun b => b = g) hb0).trans ho (fun i _ h => h)⟩)
  have HKQ : Hid (∀ W5 W', Q W5 [] → W.heap.size ≤ W5.heap.size → (∀ i, i < W.heap.size → W'.heap[i]? = W5.heap[i]?) → Q W' []) := Lib.hid (fun W5 W' hq _ h => R.keep W5 W' [] hq (fun i hi => h i (Nat.lt_of_lt_of_le hi hB)))
  have HW0 := Lib.hid hW0
  clear hQ R hB hb0 hX0 hY0 hW0
  go_enter Tryd.func52, Tryd.ntmps52
  go_upto_region 3 with fail
  rw [← HW0.out]
  go_wp2_with (go_at_call 65
               with_reducible refine HA.out.mono ?_
               rintro e W5 ⟨rfl, hQ5, hX5, hY5, hO5⟩
               have HQ5 := Lib.hid hQ5
               have HX5 := Lib.hid hX5
               have HY5 := Lib.hid hY5
               have HO5 := Lib.hid hO5
               have s0 : W5.cell? ⟨W.heap.size + 1, 0, none⟩ = some (.int .u8 0) := blk_cell hY5 0
               have s1 : W5.cell? ⟨W.heap.size + 1, 1, none⟩ = some (.int .u8 0) := blk_cell hY5 1
               have s2 : W5.cell? ⟨W.heap.size + 1, 2, none⟩ = some (.int .u64 0) := blk_cell hY5 2
               have f0 : W5.frozen? ⟨W.heap.size + 1, 0, none⟩ = false := blk_frozen hY5 0
               have f1 : W5.frozen? ⟨W.heap.size + 1, 1, none⟩ = false := blk_frozen hY5 1
               have f2 : W5.frozen? ⟨W.heap.size + 1, 2, none⟩ = false := blk_frozen hY5 2
               have p0 : W5.cell? ⟨W.heap.size, 0, none⟩ = some (.int .u8 0) := blk_cell hX5 0
               have p1 : W5.cell? ⟨W.heap.size, 1, none⟩ = some (.int .u8 0) := blk_cell hX5 1
               have p2 : W5.cell? ⟨W.heap.size, 2, none⟩ = some (.int .u64 0) := blk_cell hX5 2
               have pf0 : W5.frozen? ⟨W.heap.size, 0, none⟩ = false := blk_frozen hX5 0
               have pf1 : W5.frozen? ⟨W.heap.size, 1, none⟩ = false := blk_frozen hX5 1
               have pf2 : W5.frozen? ⟨W.heap.size, 2, none⟩ = false := blk_frozen hX5 2
               clear hQ5 hX5 hY5 hO5)
  try simp only [Exit.inBlock, Exit.then]
  have hX6 := blk_set (blk_set (blk_set HX5.out 0 (.int .u8 0)) 1 (.int .u8 0)) 2 (.int .u64 0)
  refine bodyPost_ret (results_ctt (p := 2) (u := 3) (q := 4) rfl _ _ _ _ _ _ _ rfl hX6 Tryd.underlying69 rfl (by kernel_rfl)) rfl ⟨rfl, HKQ.out W5 _ HQ5.out HO5.out.size (fun i hi => ?_), ?_⟩
  · rw [Below.heap_setCell _ ⟨W.heap.size, 2, none⟩ _ i (by show i ≠ W.heap.size; omega), Below.heap_setCell _ ⟨W.heap.size, 1, none⟩ _ i (by show i ≠ W.heap.size; omega), Below.heap_setCell _ ⟨W.heap.size, 0, none⟩ _ i (by show i ≠ W.heap.size; omega)]
  · exact ((HO5.out.setCell (a := ⟨W.heap.size, 0, none⟩) (fun h => absurd h (by simp)) _).setCell (a := ⟨W.heap.size, 1, none⟩) (fun h => absurd h (by simp)) _).setCell (a := ⟨W.heap.size, 2, none⟩) (fun h => absurd h (by simp)) _
end
end Go.Proofs.YtejbpbdlolehnaaDoor.Ber
