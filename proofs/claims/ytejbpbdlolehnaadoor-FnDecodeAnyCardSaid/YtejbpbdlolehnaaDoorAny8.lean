/- Parts of the proof of one law, in the order in which they build. io.ReadAll over a LimitedReader. · Packets of the package as data: what impl.packet gives, in plain Lean; and the kids of a packet that is the call's own. · Packets that are put together step by step: where each stands in memory (At), a child more (app_at), a new one (encode_at, string_at). · ber.Encode of a string of bytes: its data are the string. · ber.ParseInt64 of at most eight bytes: the two's complement number that they are. · What is read, as a packet in memory; a child is appended; a packet is laid. · io.LimitReader, ber.DecodeString, ber.isEOCPacket. · ber.readPacket: the packet at the beginning of bytes; or the error where they end too early. -/
import Derived.Test.YtejbpbdlolehnaaDoorAny1
import Derived.Test.YtejbpbdlolehnaaDoorAny2
import Derived.Test.YtejbpbdlolehnaaDoorAny3
import Derived.Test.YtejbpbdlolehnaaDoorAny4
import Derived.Test.YtejbpbdlolehnaaDoorAny5
import Derived.Test.YtejbpbdlolehnaaDoorAny6
import Derived.Test.YtejbpbdlolehnaaDoorAny7
namespace Go.Proofs.YtejbpbdlolehnaaDoor.Ber
open Go.RowKit Go.Proofs.YtejbpbdlolehnaaDoorW.PrintWords Go.Proofs.YtejbpbdlolehnaaDoorW.PrintLast Go.Proofs.YtejbpbdlolehnaaDoor.Buf Go.Proofs.YtejbpbdlolehnaaDoor.Pk Go.Proofs.YtejbpbdlolehnaaDoor.Tree
set_option linter.unusedVariables false
set_option linter.unusedSimpArgs false
/-- a slice of slices of bytes -/
abbrev kBs : Kd (List Int) := Kd.slice 5 B8
set_option maxHeartbeats 3200000 in
set_option maxRecDepth 100000 in
theorem mk_512 : ∃ M : Array Value, M.size = 512 ∧ ∀ w : World, (Instr.makeSlice 22 (.int .i64 0) (.int .i64 512)).run Tryd.prog w = .ok (.slice (some ⟨w.heap.size, 0, none⟩) 0 512) (w.alloc (.cells M 5)) := by
  obtain ⟨i0, hi, hz0, hz1, hz2⟩ := info_parts info_u8
  obtain ⟨c, hc⟩ : ∃ c : Int, c = 512 := ⟨_, rfl⟩
  have hc0 : 0 ≤ c := by omega
  have hcb : c.toNat * i0.size ≤ 16777216 := by rw [hz1, hc]; omega
  have hcz : (i0.bytes : Int) * c ≤ 281474976710656 := by rw [hz2, hc]; omega
  have hc6 : c ≤ 9223372036854775807 := by omega
  have hcn : c.toNat = 512 := by omega
  refine ⟨madeCells (Value.int .u8 0).cells (c.toNat * i0.size), by rw [size_madeCells, hz1, hcn], fun w => ?_⟩
  have h := run_makeSlice (P := Tryd.prog) w 22 5 i0 (.int .u8 0) Tryd.underlying22 hi hz0 .i64 .i64 0 c (Int.le_refl 0) hc0 hcb hcz hc6
  rw [hcn] at h ⊢
  rw [hc] at h
  exact h
/-- a slice's length -/
def lenOf : Value → Nat
  | .slice _ n _ => n
  | _ => 0
theorem mk_4 : ∀ w : World, (Instr.makeSlice 107 (.int .i64 0) (.int .i64 4)).run Tryd.prog w = .ok (.slice (some ⟨w.heap.size, 0, none⟩) 0 4) (w.alloc (.cells #[.slice none 0 0, .slice none 0 0, .slice none 0 0, .slice none 0 0] 22)) := fun _ => by kernel_rfl
theorem lim_m (lb : Nat) : ∀ w : World, (method 272 108 (.pointer (some ⟨lb, 0, none⟩)) "Read").run Tryd.prog w = .ok (111, .pointer (some ⟨lb, 0, none⟩)) w := fun _ => by kernel_rfl
theorem lim_n (lb : Nat) : ∀ w : World, (nilAhead 272 108 (.pointer (some ⟨lb, 0, none⟩)) "Read").run Tryd.prog w = .ok (some false) w := fun _ => by kernel_rfl
theorem lim_f : ∀ (args : Array Value) (w : World), (callFunc 111 args).run Tryd.prog w = .ok (.enter 111 args) w := fun _ _ => by kernel_rfl
section
variable {T F : Nat} {r : Value} {g B : Nat} {va ua : Addr} {Q : World → List Int → Prop}
/-- ReadAll's loop: what is read stands in chunks, and in the row that is filled -/
structure AllI (T : Nat) (r : Value) (g lb : Nat) (Q : World → List Int → Prop) (W : World) (N : Nat) (l : List Int) (w : World) (pb cap : Nat) (next : Int) (vc : Value) (xb : List Int) (cs : List (List Int)) : Prop where
  on : Only (fun i => i = g ∨ i = lb) W w
  pre : cs.flatten ++ xb = l.take (cs.flatten.length + xb.length)
  le : cs.flatten.length + xb.length ≤ l.length
  leN : cs.flatten.length + xb.length ≤ N
  q : Q w (l.drop (cs.flatten.length + xb.length))
  lim : AtLim w lb T r ((N - (cs.flatten.length + xb.length) : Nat) : Int)
  rb : B8.R 5 w W.heap.size (fun _ => True) (.slice (some ⟨pb, 0, none⟩) xb.length cap) xb
  rc : kBs.R 22 w W.heap.size (fun k => k ≠ pb) vc cs
  n0 : 256 ≤ next
  n1 : next ≤ cs.flatten.length + 256
  n2 : 2 * next ≤ 3 * (cap : Int)
  c0 : xb.length ≤ cap
  cl : cs.length ≤ cs.flatten.length
  c1 : cap ≤ 9223372036854775807
  c16 : 16 ≤ cap
theorem AllI.start (R : RdSpec T F r g B va ua Q) {W : World} {l : List Int} {lb N : Nat} {M : Array Value} (hM : M.size = 512) (hL : AtLim W lb T r N) (hQ : Q W l) (hB : B ≤ W.heap.size) {w : World}
    (hw : w = (W.alloc (.cells M 5)).alloc (.cells #[.slice none 0 0, .slice none 0 0, .slice none 0 0, .slice none 0 0] 22)) :
    AllI T r g lb Q W N l w W.heap.size 512 256 (.slice (some ⟨W.heap.size + 1, 0, none⟩) 0 4) [] [] := by
  subst hw
  have hb : Below W.heap.size W ((W.alloc (.cells M 5)).alloc (.cells #[.slice none 0 0, .slice none 0 0, .slice none 0 0, .slice none 0 0] 22)) := below_alloc (below_alloc (Below.refl _ _) _) _
  have h0 := blk_alloc (blk_new W (.cells M 5)) (.cells #[.slice none 0 0, .slice none 0 0, .slice none 0 0, .slice none 0 0] 22)
  have h1 := blk_new (W.alloc (.cells M 5)) (.cells #[.slice none 0 0, .slice none 0 0, .slice none 0 0, .slice none 0 0] 22)
  have e : (W.alloc (.cells M 5)).heap.size = W.heap.size + 1 := by simp
  rw [e] at h1
  refine ⟨Only.of_below _ hb, rfl, Nat.zero_le _, Nat.zero_le _, R.keep W _ _ hQ (fun b h => hb.block b (Nat.lt_of_lt_of_le h hB)), ?_, ?_, ?_, by omega, by simp, by omega, by simp, by simp, by omega, by omega⟩
  · exact (hb.block lb (blk_lt hL)).trans hL
  · refine own_int ⟨rfl, .inr ⟨W.heap.size, 512, M, rfl, Nat.le_refl _, h0, by simp, by unfold maxLen; omega, by omega, rfl⟩⟩ (fun _ _ => trivial)
  · refine ⟨fun k hk => ?_, [], ⟨rfl, .inr ⟨W.heap.size + 1, 4, _, rfl, by omega, h1, by simp, by unfold maxLen; omega, rfl, rfl⟩⟩, Reps.none _ _⟩
    simp [Value.ownBlock] at hk
    omega
theorem Only_of_drew {S : Nat → Prop} {w w' : World} (h : Only S w.drew w') : Only S w w' := ⟨h.os, h.tape, h.output, h.size, h.block⟩
theorem AllI.row {W : World} {l : List Int} {lb N : Nat} {w : World} {pb cap : Nat} {next : Int} {vc : Value} {xb : List Int} {cs : List (List Int)} (I : AllI T r g lb Q W N l w pb cap next vc xb cs) :
    ∃ cur : Array Value, w.heap[pb]? = some (.cells cur 5 (0, 0)) ∧ cur.size = cap ∧ cur.toList.take xb.length = nums .u8 xb ∧ W.heap.size ≤ pb := by
  obtain ⟨_, h⟩ := int_own I.rb
  rcases h with ⟨h, _⟩ | ⟨g', cap', cur, hv, hg, hh, h1, h2, h3, h4⟩
  · cases h
  · injection hv with ha _ hc
    injection ha with ha
    injection ha with ha
    subst ha hc
    exact ⟨cur, hh, by omega, by rw [Nat.mul_one] at h4; exact h4, hg⟩
theorem AllI.read (R : RdSpec T F r g B va ua Q) {W : World} {l : List Int} {lb N : Nat} {w w' : World} {pb cap : Nat} {next : Int} {vc : Value} {xb : List Int} {cs : List (List Int)} (I : AllI T r g lb Q W N l w pb cap next vc xb cs) (hlb : lb < W.heap.size) (hgW : g < W.heap.size)
    {cur : Array Value} (hcur : w.heap[pb]? = some (.cells cur 5 (0, 0))) (hcs : cur.size = cap) (hct : cur.toList.take xb.length = nums .u8 xb) (hpb : W.heap.size ≤ pb) {k : Nat} (hk1 : cs.flatten.length + xb.length + k ≤ l.length) (hkN : k ≤ N - (cs.flatten.length + xb.length)) (hkc : xb.length + k ≤ cap)
    (hq : Q w' ((l.drop (cs.flatten.length + xb.length)).drop k)) (hL : AtLim w' lb T r ((N - (cs.flatten.length + xb.length) - k : Nat) : Int))
    (hrow : w'.heap[pb]? = some (.cells (cur.toList.take xb.length ++ (nums .u8 ((l.drop (cs.flatten.length + xb.length)).take k) ++ cur.toList.drop (xb.length + ((l.drop (cs.flatten.length + xb.length)).take k).length))).toArray 5 (0, 0)))
    (ho : Only (fun i => i = g ∨ i = lb ∨ i = pb) w w') :
    ∃ xb', xb'.length = xb.length + k ∧ AllI T r g lb Q W N l w' pb cap next vc xb' cs := by
  obtain ⟨ys, hys⟩ : ∃ ys, ys = (l.drop (cs.flatten.length + xb.length)).take k := ⟨_, rfl⟩
  have hyl : ys.length = k := by rw [hys, List.length_take, List.length_drop]; omega
  rw [← hys, hyl, hct] at hrow
  refine ⟨xb ++ ys, by rw [List.length_append, hyl], ?_⟩
  have hlen : cs.flatten.length + (xb ++ ys).length = cs.flatten.length + xb.length + k := by rw [List.length_append, hyl, Nat.add_assoc]
  refine ⟨(I.on.trans ho ?_), ?_, by rw [hlen]; exact hk1, by rw [hlen]; have := I.leN; omega, by rw [hlen, ← List.drop_drop]; exact hq, by rw [hlen, ← Nat.sub_sub]; exact hL, ?_, ?_, I.n0, I.n1, I.n2, by rw [List.length_append, hyl]; exact hkc, I.cl, I.c1, I.c16⟩
  · rintro i hi (h | h | h)
    · exact .inl h
    · exact .inr h
    · omega
  · rw [hlen, ← List.append_assoc, I.pre, List.take_add (i := cs.flatten.length + xb.length), ← hys]
  · refine own_int ⟨by rw [nums_length, Nat.mul_one], .inr ⟨pb, cap, _, rfl, hpb, hrow, by rw [List.length_append, hyl]; omega, by unfold maxLen; have := I.c1; omega, ?_, ?_⟩⟩ (fun _ _ => trivial)
    · have h1 : (nums .u8 xb).length = xb.length := nums_length _ _
      have h2 : (nums .u8 ys).length = k := by rw [nums_length, hyl]
      simp only [List.size_toArray, List.length_append, List.length_drop, Array.length_toList, h1, h2, Nat.mul_one]
      omega
    · rw [Nat.mul_one, ← List.append_assoc, ← nums_append]
      have hnl : (nums .u8 (xb ++ ys)).length = (xb ++ ys).length := nums_length _ _
      rw [List.length_append] at hnl ⊢
      exact List.take_left' hnl
  · refine Kd.R_mono (Kd.R_step (Kd.R_bound I.rc) ?_) (fun k hk => hk.1)
    rintro i ⟨h1, h2, _⟩ hi
    refine ho.block i hi ?_
    rintro (h | h | h)
    · omega
    · omega
    · exact h1 h
theorem AllI.still (R : RdSpec T F r g B va ua Q) {W : World} {l : List Int} {lb N : Nat} {w w' : World} {pb cap : Nat} {next : Int} {vc : Value} {xb : List Int} {cs : List (List Int)} (I : AllI T r g lb Q W N l w pb cap next vc xb cs) (hlb : lb < W.heap.size) (hgW : g < W.heap.size)
    (hq : Q w' (l.drop (cs.flatten.length + xb.length))) (hL : AtLim w' lb T r ((N - (cs.flatten.length + xb.length) : Nat) : Int)) (ho : Only (fun i => i = g ∨ i = lb) w w') : AllI T r g lb Q W N l w' pb cap next vc xb cs := by
  have hm : ∀ i, W.heap.size ≤ i → i < w.heap.size → w'.heap[i]? = w.heap[i]? := fun i h1 h2 => ho.block i h2 (by rintro (h | h) <;> omega)
  refine ⟨I.on.trans ho (fun i _ h => h), I.pre, I.le, I.leN, hq, hL, ?_, ?_, I.n0, I.n1, I.n2, I.c0, I.cl, I.c1, I.c16⟩
  · exact Kd.R_mono (Kd.R_step (Kd.R_bound I.rb) (fun k hk hlt => hm k hk.2.1 hlt)) (fun k hk => hk.1)
  · exact Kd.R_mono (Kd.R_step (Kd.R_bound I.rc) (fun k hk hlt => hm k hk.2.1 hlt)) (fun k hk => hk.1)
theorem AllI.push (R : RdSpec T F r g B va ua Q) {W : World} {l : List Int} {lb N : Nat} {w w1 w2 : World} {pb cap : Nat} {next : Int} {vc v1 : Value} {xb : List Int} {cs : List (List Int)} (I : AllI T r g lb Q W N l w pb cap next vc xb cs) (hlb : lb < W.heap.size) (hB : B ≤ W.heap.size)
    (hx : 1 ≤ xb.length) (hmv : (cap : Int) - xb.length < cap / 16) (hR1 : kBs.R 22 w1 W.heap.size (fun _ => True) v1 (cs ++ [xb])) (hb1 : Below W.heap.size w w1) {pb2 cap2 n2 : Nat} (hn2 : (n2 : Int) = next) {zs : List Int} (hR2 : B8.R 5 w2 w1.heap.size (fun k => w1.heap.size ≤ k) (.slice (some ⟨pb2, 0, none⟩) n2 cap2) zs) (hb2 : Below w1.heap.size w1 w2) :
    AllI T r g lb Q W N l w2 pb2 cap2 (next + next / 2) v1 [] (cs ++ [xb]) := by
  have hfl : (cs ++ [xb]).flatten.length + ([] : List Int).length = cs.flatten.length + xb.length := by simp
  have hs1 : W.heap.size ≤ w1.heap.size := Nat.le_trans I.on.size hb1.size
  have hb12 : Below W.heap.size w w2 := hb1.trans (hb2.mono hs1)
  have hzl : n2 = zs.length := by
    obtain ⟨_, _, e⟩ := Kd.R_slice hR2
    injection e
  have hcap : n2 ≤ cap2 := (Kd.R_reads' hR2).2.1 |> fun h => by omega
  have hc1 : cap2 ≤ 9223372036854775807 := by
    obtain ⟨_, h⟩ := int_own hR2
    rcases h with ⟨h, _⟩ | ⟨g', cap', cur, hv, hg, hh, h1, h2, h3, h4⟩
    · cases h
    · injection hv with ha _ hc
      subst hc
      unfold maxLen at h2
      omega
  have n0 := I.n0
  have n1 := I.n1
  have n2' := I.n2
  refine ⟨I.on.trans (S' := fun i => W.heap.size ≤ i) ⟨hb12.os, hb12.tape, hb12.output, hb12.size, fun i _ hn => hb12.block i (Nat.lt_of_not_le hn)⟩ (fun i hi h => absurd h (Nat.not_le.2 hi)), ?_, by rw [hfl]; exact I.le, by rw [hfl]; exact I.leN, by rw [hfl]; exact R.keep w w2 _ I.q (fun b h => hb12.block b (Nat.lt_of_lt_of_le h hB)), by rw [hfl]; exact (hb12.block lb hlb).trans I.lim, ?_, ?_, by omega, ?_, by omega, Nat.zero_le _, ?_, hc1, by omega⟩
  · rw [hfl, List.append_nil]
    simpa using I.pre
  · have h0 := Kd.R_take (m := 0) hR2 (Nat.zero_le _)
    rw [List.take_zero] at h0
    exact Kd.R_mono (Kd.R_lower h0 hs1) (fun _ _ => trivial)
  · refine Kd.R_mono (Kd.R_below (Kd.R_bound hR1) hb2) ?_
    rintro k ⟨_, _, hk, _⟩ rfl
    have := hR2.1 k (by simp [Value.ownBlock])
    simp only at this
    omega
  · have : (cs ++ [xb]).flatten.length = cs.flatten.length + xb.length := by simp
    rw [this]
    omega
  · have : (cs ++ [xb]).flatten.length = cs.flatten.length + xb.length := by simp
    rw [this, List.length_append, List.length_singleton]
    have := I.cl
    omega
theorem info_bs : (Tryd.prog.info? 22).map (fun i => (i.zero, i.size, i.bytes)) = some (some (.slice none 0 0), 1, 24) := by kernel_rfl
theorem chunk_at {w : World} {base : Nat} {ok : Nat → Prop} {A : Option Addr} {c0 n : Nat} {cs : List (List Int)} (h : kBs.R 22 w base ok (.slice A n c0) cs) {k : Nat} (hk : k < cs.length) :
    ∃ ad Ak ck, A = some ad ∧ w.cell? (ad.add k) = some (.slice Ak cs[k].length ck) ∧ B8.C w Ak cs[k].length cs[k] := by
  obtain ⟨A', c', he, _, hC⟩ := Kd.R_reads h
  injection he with hA hn hc
  subst hA
  obtain ⟨ad, c, hA, hcl, ⟨Ak, ck, hcc, hle, hK⟩, hcell⟩ := Kd.C_get hC [] (k : Int) (by omega) (by omega)
  rw [Int.toNat_natCast, List.getD_eq_getElem?_getD, List.getElem?_eq_getElem hk, Option.getD_some] at hcc hK
  refine ⟨ad, Ak, ck, hA, ?_, hK⟩
  have := hcell 0 _ (by rw [hcc]; rfl)
  simpa [Kd.slice] using this
set_option maxHeartbeats 3200000 in
set_option maxRecDepth 100000 in
theorem readAll_any (R : RdSpec T F r g B va ua Q) (W : World) (l : List Int) (lb N : Nat) (hL : AtLim W lb T r N) (hQ : Q W l) (hN : N < 4294967296) (hlb : B ≤ lb) (hll : l.length < 1099511627776) :
    Calls Tryd.prog 41 #[.iface 108 (.pointer (some ⟨lb, 0, none⟩))] W fun e w' => ∃ v, e = .returned (.tuple #[v, .nilIface]) ∧ B8.R 5 w' W.heap.size (fun _ => True) v (l.take N) ∧ Q w' (l.drop N) ∧ Only (fun i => i = g ∨ i = lb) W w' := by
  obtain ⟨M, hM, hmk⟩ := mk_512
  have hmk4 := mk_4
  have hn := lim_n lb
  have HM := Lib.hid (lim_m lb)
  have HCF := Lib.hid lim_f
  have hmf : ∀ (fn : Fn) (first cap : Array Value) (w : World), (Instr.makeFunc fn first cap).run Tryd.prog w = .ok (.func fn first cap) w := fun _ _ _ _ => rfl
  have hlW : lb < W.heap.size := blk_lt hL
  have hgW : g < W.heap.size := by have := R.lt; omega
  have HI0 := Lib.hid (fun w hw => AllI.start (w := w) R hM hL hQ (Nat.le_trans hlb (Nat.le_of_lt hlW)) hw)
  have HR := Lib.hid R
  have HB := Lib.hid hlb
  have HNN := Lib.hid hN
  have HLL := Lib.hid hll
  clear hL hQ hN hlb R hll
  go_enter Tryd.func41, Tryd.ntmps41
  go_wp2
  go_loopw [4, 5, 6, 7] (fun b nx ch fs wr => ∃ (pb n cap : Nat) (next f : Int) (xb : List Int) (cs : List (List Int)), b = .slice (some ⟨pb, 0, none⟩) n cap ∧ n = xb.length ∧ n < cap ∧ nx = .int .i64 next ∧ fs = .int .i64 f ∧ f = (cs.flatten.length : Int) ∧ Hid (AllI T r g lb Q W N l wr pb cap next ch xb cs)) (fun b _ _ fs _ => N + 1 - ((intOf fs).toNat + lenOf b))
  case atStart => exact ⟨W.heap.size, 0, 512, 256, 0, [], [], rfl, rfl, by omega, rfl, rfl, rfl, Lib.hid (HI0.out _ rfl)⟩
  case round =>
    obtain ⟨pb, n, cap, next, f, xb, cs, rfl, hnx, hncap, rfl, rfl, hf, HI⟩ := hrel
    obtain ⟨A0, c0, hvc⟩ := Kd.R_slice HI.out.rc
    subst hvc
    obtain ⟨cur, hcur, hcs, hct, hpb⟩ := HI.out.row
    have HNX := Lib.hid hnx
    have HF := Lib.hid hf
    have hnc : n ≤ cap := by omega
    have hne : ¬ cap = n := by omega
    obtain ⟨t, ht⟩ : ∃ t, t = cs.flatten.length + xb.length := ⟨_, rfl⟩
    have hqt := HI.out.q
    have hlt := HI.out.lim
    rw [← ht] at hqt hlt
    have HT := Lib.hid ht
    have HCX : Hid (cap ≤ 9223372036854775807) := Lib.hid HI.out.c1
    have HLE : Hid (t ≤ l.length ∧ t ≤ N ∧ f = (t : Int) - n) := Lib.hid ⟨by rw [ht]; exact HI.out.le, by rw [ht]; exact HI.out.leN, by omega⟩
    have hf0 : 0 ≤ f := by omega
    have hn0 : 0 ≤ (n : Int) := by omega
    have hs3 : (cap : Int) ≤ 9223372036854775807 := by have := HCX.out; omega
    by_cases hend : t < l.length ∧ t < N
    · have HLIM := lim_some HR.out wr.drew (l.drop t) lb pb n (cap - n) (cap - n) (N - t) cur hlt (by omega) (HR.out.keep wr _ _ hqt (fun _ _ => rfl)) (fun e => by have := congrArg List.length e; rw [List.length_drop] at this; simp at this; omega) hcur (by omega) (Nat.le_refl _) (by have := HCX.out; omega) (by have := HNN.out; omega) HB.out (Nat.le_trans HB.out (Nat.le_trans (Nat.le_of_lt hlW) hpb))
      have HLIM2 := Lib.hid HLIM
      have HEND := Lib.hid hend
      have HCUR := Lib.hid (And.intro hcur (And.intro hcs (And.intro hct hpb)))
      clear HLIM hqt hlt ht hcs hct hcur hf hnx hncap hend
      go_upto_region 5 with fail
      refine start_ (n := 16) (S := fun w' => True) (ds := []) #[nN,nN,nN,nN,nN,nN,nN,nN,nN,nN,nN,nN,nN,nN,nN,nN] (by kernel_rfl) rfl rfl trivial (fun hHeld => ?_)
      refine pure_ (i := 0) (N := some 16) (v := ?_) (a' := ?_) #[yY,nN,nN,nN,nN,nN,nN,nN,nN,nN,nN,nN,nN,nN,nN,nN] rfl rfl (by kernel_rfl) (fun _ _ _ h => h) (Or.inl ⟨by rfl, ?_⟩) ?_ ?_
      rotate_left
      · intro w'
        go_simp
        with_reducible rfl
      rotate_left
      · simp only [Act.put, List.setIfInBounds_toArray, List.set_cons_zero, List.set_cons_succ, i64_w, i32_w]
        rfl
      refine pure_ (i := 1) (N := some 17) (v := ?_) (a' := ?_) #[yY,yY,nN,nN,nN,nN,nN,nN,nN,nN,nN,nN,nN,nN,nN,nN] rfl rfl (by kernel_rfl) (fun _ _ _ h => h) (Or.inl ⟨by rfl, ?_⟩) ?_ ?_
      rotate_left
      · intro w'
        go_simp
        with_reducible rfl
      rotate_left
      · simp only [Act.put, List.setIfInBounds_toArray, List.set_cons_zero, List.set_cons_succ, i64_w, i32_w]
        rfl
      refine pure_ (i := 2) (N := some 18) (v := ?_) (a' := ?_) #[yY,yY,yY,nN,nN,nN,nN,nN,nN,nN,nN,nN,nN,nN,nN,nN] rfl rfl (by kernel_rfl) (fun _ _ _ h => h) (Or.inl ⟨by rfl, ?_⟩) ?_ ?_
      rotate_left
      · intro w'
        go_simp
        with_reducible rfl
      rotate_left
      · simp only [Act.put, List.setIfInBounds_toArray, List.set_cons_zero, List.set_cons_succ, i64_w, i32_w]
        rfl
      refine pure_ (i := 3) (N := some 19) (v := ?_) (a' := ?_) #[yY,yY,yY,yY,nN,nN,nN,nN,nN,nN,nN,nN,nN,nN,nN,nN] rfl rfl (by kernel_rfl) (fun _ _ _ h => h) (Or.inl ⟨by rfl, ?_⟩) ?_ ?_
      rotate_left
      · intro w'
        go_simp
        with_reducible rfl
      rotate_left
      · simp only [Act.put, List.setIfInBounds_toArray, List.set_cons_zero, List.set_cons_succ, i64_w, i32_w]
        rfl
      refine pure_ (i := 4) (N := some 20) (v := ?_) (a' := ?_) #[yY,yY,yY,yY,yY,nN,nN,nN,nN,nN,nN,nN,nN,nN,nN,nN] rfl rfl (by kernel_rfl) (fun _ _ _ h => h) (Or.inl ⟨by rfl, ?_⟩) ?_ ?_
      rotate_left
      · intro w'
        go_simp
        with_reducible rfl
      rotate_left
      · simp only [Act.put, List.setIfInBounds_toArray, List.set_cons_zero, List.set_cons_succ, i64_w, i32_w]
        rfl
      refine pure_ (i := 5) (N := some 21) (v := ?_) (a' := ?_) #[yY,yY,yY,yY,yY,yY,nN,nN,nN,nN,nN,nN,nN,nN,nN,nN] rfl rfl (by kernel_rfl) (fun _ _ _ h => h) (Or.inl ⟨by rfl, ?_⟩) ?_ ?_
      rotate_left
      · intro w'
        go_simp
        with_reducible rfl
      rotate_left
      · simp only [Act.put, List.setIfInBounds_toArray, List.set_cons_zero, List.set_cons_succ, i64_w, i32_w]
        rfl
      refine pure_ (i := 6) (N := some 22) (v := ?_) (a' := ?_) #[yY,yY,yY,yY,yY,yY,yY,nN,nN,nN,nN,nN,nN,nN,nN,nN] rfl rfl (by kernel_rfl) (fun _ _ _ h => h) (Or.inl ⟨by rfl, ?_⟩) ?_ ?_
      rotate_left
      · intro w'
        go_simp
        with_reducible rfl
      rotate_left
      · simp only [Act.put, List.setIfInBounds_toArray, List.set_cons_zero, List.set_cons_succ, i64_w, i32_w]
        rfl
      refine pure_ (i := 7) (N := some 23) (v := ?_) (a' := ?_) #[yY,yY,yY,yY,yY,yY,yY,yY,nN,nN,nN,nN,nN,nN,nN,nN] rfl rfl (by kernel_rfl) (fun _ _ _ h => h) (Or.inl ⟨by rfl, ?_⟩) ?_ ?_
      rotate_left
      · intro w'
        go_simp
        with_reducible rfl
      rotate_left
      · simp only [Act.put, List.setIfInBounds_toArray, List.set_cons_zero, List.set_cons_succ, i64_w, i32_w]
        rfl
      refine pure_ (i := 8) (N := some 24) (v := ?_) (a' := ?_) #[yY,yY,yY,yY,yY,yY,yY,yY,yY,nN,nN,nN,nN,nN,nN,nN] rfl rfl (by kernel_rfl) (fun _ _ _ h => h) (Or.inl ⟨by rfl, ?_⟩) ?_ ?_
      rotate_left
      · intro w'
        go_simp
        with_reducible rfl
      rotate_left
      · simp only [Act.put, List.setIfInBounds_toArray, List.set_cons_zero, List.set_cons_succ, i64_w, i32_w]
        rfl
      refine pure_ (i := 9) (N := some 25) (v := ?_) (a' := ?_) #[yY,yY,yY,yY,yY,yY,yY,yY,yY,yY,nN,nN,nN,nN,nN,nN] rfl rfl (by kernel_rfl) (fun _ _ _ h => h) (Or.inl ⟨by rfl, ?_⟩) ?_ ?_
      rotate_left
      · intro w'
        go_simp
        with_reducible rfl
      rotate_left
      · simp only [Act.put, List.setIfInBounds_toArray, List.set_cons_zero, List.set_cons_succ, i64_w, i32_w]
        rfl
      refine one_ (i := 10) (N := some 26) #[yY,yY,yY,yY,yY,yY,yY,yY,yY,yY,yY,nN,nN,nN,nN,nN] rfl rfl (by kernel_rfl) (by decide) (fun K hK => ?_)
      refine call_ 111 #[.pointer (some ⟨lb, 0, none⟩), .slice (some ⟨pb, n, none⟩) (cap - n) (cap - n)] (by rfl) rfl ?_ ?_
      · have hm1 := HM.out
        have hcf1 := HCF.out
        simp [execOp, resolve, invoke, Act.eval, hm1, hcf1, go_sem]
      with_reducible refine HLIM2.out.mono ?_
      rintro e W5 ⟨k, hk, rfl, hQ5, hL5, hp5, hO5⟩
      refine ⟨_, rfl, ?_⟩
      have HQ5 := Lib.hid hQ5
      have HL5 := Lib.hid hL5
      have HP5 := Lib.hid hp5
      have HO5 := Lib.hid hO5
      have HK5 := Lib.hid hk
      clear hQ5 hL5 hp5 hO5 hk
      refine hK.out _ _ trivial (fun hHeld => ?_)
      clear hK K
      refine norm_ (a' := ?_) ?_ ?_
      rotate_left
      · show Act.put _ (some 26) _ = _
        simp only [Act.put, List.setIfInBounds_toArray, List.set_cons_zero, List.set_cons_succ, i64_w, i32_w]
        rfl
      refine pure_ (i := 11) (N := some 15) (v := ?_) (a' := ?_) #[yY,yY,yY,yY,yY,yY,yY,yY,yY,yY,yY,yY,nN,nN,nN,nN] rfl rfl (by kernel_rfl) (fun _ _ _ h => h) (Or.inl ⟨by rfl, ?_⟩) ?_ ?_
      rotate_left
      · intro w'
        go_simp
        with_reducible rfl
      rotate_left
      · simp only [Act.put, List.setIfInBounds_toArray, List.set_cons_zero, List.set_cons_succ, i64_w, i32_w]
        rfl
      refine pure_ (i := 12) (N := some 27) (v := ?_) (a' := ?_) #[yY,yY,yY,yY,yY,yY,yY,yY,yY,yY,yY,yY,yY,nN,nN,nN] rfl rfl (by kernel_rfl) (fun _ _ _ h => h) (Or.inl ⟨by rfl, ?_⟩) ?_ ?_
      rotate_left
      · intro w'
        go_simp
        with_reducible rfl
      rotate_left
      · simp only [Act.put, List.setIfInBounds_toArray, List.set_cons_zero, List.set_cons_succ, i64_w, i32_w]
        rfl
      refine pure_ (i := 13) (N := some 28) (v := ?_) (a' := ?_) #[yY,yY,yY,yY,yY,yY,yY,yY,yY,yY,yY,yY,yY,yY,nN,nN] rfl rfl (by kernel_rfl) (fun _ _ _ h => h) (Or.inl ⟨by rfl, ?_⟩) ?_ ?_
      rotate_left
      · intro w'
        go_simp
        with_reducible rfl
      rotate_left
      · simp only [Act.put, List.setIfInBounds_toArray, List.set_cons_zero, List.set_cons_succ, i64_w, i32_w]
        rfl
      refine pure_ (i := 14) (N := some 8) (v := ?_) (a' := ?_) #[yY,yY,yY,yY,yY,yY,yY,yY,yY,yY,yY,yY,yY,yY,yY,nN] rfl rfl (by kernel_rfl) (fun _ _ _ h => h) (Or.inl ⟨by rfl, ?_⟩) ?_ ?_
      rotate_left
      · intro w'
        go_simp
        with_reducible rfl
      rotate_left
      · simp only [Act.put, List.setIfInBounds_toArray, List.set_cons_zero, List.set_cons_succ, i64_w, i32_w]
        rfl
      refine pure_ (i := 15) (N := some 9) (v := ?_) (a' := ?_) #[yY,yY,yY,yY,yY,yY,yY,yY,yY,yY,yY,yY,yY,yY,yY,yY] rfl rfl (by kernel_rfl) (fun _ _ _ h => h) (Or.inl ⟨by rfl, ?_⟩) ?_ ?_
      rotate_left
      · intro w'
        go_simp
        with_reducible rfl
      rotate_left
      · simp only [Act.put, List.setIfInBounds_toArray, List.set_cons_zero, List.set_cons_succ, i64_w, i32_w]
        rfl
      refine done_ (by kernel_rfl) ?_

      have hkk : k ≤ cap - n := by rw [HK5.out]; exact Nat.le_trans (Nat.min_le_right _ _) (Nat.min_le_left _ _)
      have hkN : k ≤ N - t := by rw [HK5.out]; exact Nat.le_trans (Nat.min_le_right _ _) (Nat.min_le_right _ _)
      have hkl : k ≤ (l.drop t).length := by rw [HK5.out]; exact Nat.min_le_left _ _
      rw [List.length_drop] at hkl
      have hk1 : 1 ≤ k := by
        rw [HK5.out]
        have h1 := HEND.out
        exact Nat.le_min.2 ⟨by rw [List.length_drop]; omega, Nat.le_min.2 ⟨by omega, by omega⟩⟩
      have HK := Lib.hid (And.intro hkk (And.intro hkN (And.intro hkl hk1)))
      have HI5 : Hid (∃ xb', xb'.length = n + k ∧ AllI T r g lb Q W N l W5 pb cap next (.slice A0 cs.length c0) xb' cs) := Lib.hid (by
        have h1 := HNX.out
        have h2 := HT.out
        have h3 := HEND.out
        subst h1 h2
        exact HI.out.read HR.out hlW hgW HCUR.out.1 HCUR.out.2.1 HCUR.out.2.2.1 hpb (by omega) (by omega) (by omega) HQ5.out HL5.out HP5.out (Only_of_drew HO5.out))
      have hs1 : (n : Int) + (k : Int) ≤ 9223372036854775807 := by have := HCX.out; omega
      have hs2 : (n : Int) + (k : Int) ≤ (cap : Int) := by omega
      have hs5 : 0 ≤ (k : Int) := by omega
      have hs6 : ((n : Int) + (k : Int)).toNat = n + k := by omega
      clear hkk hkN hkl hk1 HQ5 HL5 HP5 HO5 HK5 HCUR
      obtain ⟨xb', hxl, HI6⟩ := HI5.out
      have HI7 := Lib.hid HI6
      have HXL := Lib.hid hxl
      clear HI5 HI6 hxl HI
      by_cases hmv : (cap : Int) - ((n : Int) + (k : Int)) < (cap : Int) / 16
      · have d1 : decide ((cap : Int) - ((n : Int) + (k : Int)) < (cap : Int) / 16) = true := decide_eq_true hmv
        have HMV := Lib.hid hmv
        obtain ⟨A7, c7, hA7⟩ := Kd.R_slice HI7.out.rb
        have hs7 : f + ((n : Int) + (k : Int)) ≤ 9223372036854775807 := by have h1 := HLE.out; have h2 := HNN.out; have h3 := HK.out; omega
        have hx0 := HI7.out.n0
        have hx1 : next ≤ 4294967296 + 256 := by have h1 := HI7.out.n1; have h2 := HI7.out.leN; have h3 := HNN.out; omega
        have hx2 : 0 ≤ next := by omega
        clear hmv hA7
        go_wp2_with (first
          | ((with_reducible refine gate_builtin (b := .append) (xs := #[.tmp 76, .tmp 78]) rfl ?_)
             at_builtin
             refine Kd.R_append kBs (w0 := W5) (W := W5) W.heap.size rfl (.tmp 76) (.tmp 78) 107 22 (.slice none 0 0) 24 rfl Tryd.underlying107 info_bs rfl (by decide) (by decide) (.slice A0 cs.length c0) cs xb' _ (fun _ => True) (fun k => k = pb) rfl rfl ⟨_, rfl, ?_⟩ ?_ (fun _ _ => trivial) (Kd.R_mono HI7.out.rc (fun _ _ => trivial)) (Below.refl _ _) HI7.out.on.size ?_ ?_
             · have h1 := HI7.out.rb
               rw [HXL.out] at h1
               exact own_int (int_own h1) (fun k hk => by simp [Value.ownBlock] at hk; exact hk.symm)
             · rintro k rfl
               exact ⟨trivial, fun e => HI7.out.rc.1 k e.symm rfl⟩
             · have h1 := HI7.out.cl; have h2 := HI7.out.le; have h3 := HLL.out
               omega
             intro v1 w1 hR1 hb1 hg1 hat1
             have HR1 := Lib.hid hR1
             have HB1 := Lib.hid hb1
             clear hR1 hb1 hg1 hat1)
          | ((with_reducible refine gate_builtin (b := .append) (xs := #[.const (.slice none 0 0), .tmp 84]) rfl ?_)
             at_builtin
             refine Kd.R_append_zeros B8 (w0 := w1) (W := w1) w1.heap.size rfl (.const (.slice none 0 0)) (.tmp 84) 22 3 5 (.int .u8 0) 1 rfl Tryd.underlying22 Tryd.underlying3 info_u8 rfl (by decide) (by decide) (.slice none 0 0) [] 0 next (fun k => w1.heap.size ≤ k) rfl rfl rfl (fun _ h => h) (Kd.R_nil _ _ _ _ _) hx2 (Below.refl _ _) (Nat.le_refl _) (by simp; omega) ?_
             intro v2 w2 hR2 hb2 hg2 hat2
             obtain ⟨A2, c2, hv2⟩ := Kd.R_slice hR2
             obtain ⟨pb2, cap2, hv3, _⟩ := Kd.R_form hR2 (by simp; omega)
             rw [hv3] at hR2 ⊢
             have hzl : ([] ++ List.replicate next.toNat (0 : Int)).length = next.toNat := by simp
             rw [hzl] at hR2 ⊢
             have HR2 := Lib.hid hR2
             have HB2 := Lib.hid hb2
             clear hR2 hb2 hg2 hat2 hv2 hv3 hzl))
        refine ⟨⟨pb2, 0, cap2, next + next / 2, f + ((n : Int) + (k : Int)), [], cs ++ [xb'], rfl, rfl, ?_, rfl, rfl, ?_, Lib.hid (AllI.push (n2 := next.toNat) HR.out HI7.out hlW (Nat.le_trans HB.out (Nat.le_of_lt hlW)) ?_ ?_ HR1.out HB1.out ?_ HR2.out HB2.out)⟩, ?_⟩
        · have h1 := (Kd.R_reads' HR2.out).2.1; simp at h1; omega
        · rw [HF.out]
          have := HXL.out
          simp; omega
        · have h1 := HXL.out; have h2 := HK.out; omega
        · have h1 := HXL.out; have h2 := HMV.out; rw [h1]; push_cast; omega
        · omega
        · simp only [lenOf, intOf]
          have h1 := HLE.out; have h2 := HK.out; have h3 := HEND.out
          omega
      · have d1 : decide ((cap : Int) - ((n : Int) + (k : Int)) < (cap : Int) / 16) = false := decide_eq_false hmv
        have HMV := Lib.hid hmv
        clear hmv
        go_wp2
        refine ⟨⟨pb, n + k, cap, next, f, xb', cs, rfl, HXL.out.symm, ?_, rfl, rfl, HF.out, HI7⟩, ?_⟩
        · have h1 := HMV.out; have h2 := HI7.out.c16; omega
        · simp only [lenOf, intOf]
          have h1 := HLE.out; have h2 := HK.out; have h3 := HEND.out
          omega
    · have hEN : Hid (Calls Tryd.prog 111 #[.pointer (some ⟨lb, 0, none⟩), .slice (some ⟨pb, n, none⟩) (cap - n) (cap - n)] wr.drew fun e w' => e = .returned (.tuple #[.int .i64 0, (.iface 104 (.pointer (some va)))]) ∧ Q w' (l.drop t) ∧ AtLim w' lb T r ((N - t : Nat) : Int) ∧ Only (fun i => i = g ∨ i = lb) wr.drew w') := Lib.hid (by
        by_cases h0 : N - t = 0
        · rw [h0] at hlt ⊢
          refine (lim_zero wr.drew lb _ _ _ hlt _ (show wr.drew.cell? _ = _ from HR.out.eof wr _ hqt)).mono ?_
          rintro e w' ⟨he, rfl⟩
          exact ⟨he, HR.out.keep wr _ _ hqt (fun _ _ => rfl), hlt, (Only.refl _ _).drew⟩
        · have hd : l.drop t = [] := by
            refine List.drop_eq_nil_of_le ?_
            have := HLE.out
            omega
          rw [hd] at hqt ⊢
          exact lim_none HR.out wr.drew lb (N - t) _ pb n _ _ rfl hlt (by omega) (HR.out.keep wr _ _ hqt (fun _ _ => rfl)) (Nat.le_refl _) (by have := HCX.out; omega) (by omega) (by have := HNN.out; omega) HB.out)
      have HFIN : Hid (l.take t = l.take N ∧ l.drop t = l.drop N) := Lib.hid (by
        have h1 := HLE.out
        rcases Nat.lt_or_ge t N with h2 | h2
        · have e1 : t = l.length := by omega
          exact ⟨by rw [List.take_of_length_le (by omega), List.take_of_length_le (by omega)], by rw [List.drop_eq_nil_of_le (by omega), List.drop_eq_nil_of_le (by omega)]⟩
        · have e1 : t = N := by omega
          rw [e1]
          exact ⟨rfl, rfl⟩)
      clear hqt hlt ht hcs hct hcur hf hnx hncap hend
      go_upto_region 5 with fail
      refine start_ (n := 16) (S := fun w' => True) (ds := []) #[nN,nN,nN,nN,nN,nN,nN,nN,nN,nN,nN,nN,nN,nN,nN,nN] (by kernel_rfl) rfl rfl trivial (fun hHeld => ?_)
      refine pure_ (i := 0) (N := some 16) (v := ?_) (a' := ?_) #[yY,nN,nN,nN,nN,nN,nN,nN,nN,nN,nN,nN,nN,nN,nN,nN] rfl rfl (by kernel_rfl) (fun _ _ _ h => h) (Or.inl ⟨by rfl, ?_⟩) ?_ ?_
      rotate_left
      · intro w'
        go_simp
        with_reducible rfl
      rotate_left
      · simp only [Act.put, List.setIfInBounds_toArray, List.set_cons_zero, List.set_cons_succ, i64_w, i32_w]
        rfl
      refine pure_ (i := 1) (N := some 17) (v := ?_) (a' := ?_) #[yY,yY,nN,nN,nN,nN,nN,nN,nN,nN,nN,nN,nN,nN,nN,nN] rfl rfl (by kernel_rfl) (fun _ _ _ h => h) (Or.inl ⟨by rfl, ?_⟩) ?_ ?_
      rotate_left
      · intro w'
        go_simp
        with_reducible rfl
      rotate_left
      · simp only [Act.put, List.setIfInBounds_toArray, List.set_cons_zero, List.set_cons_succ, i64_w, i32_w]
        rfl
      refine pure_ (i := 2) (N := some 18) (v := ?_) (a' := ?_) #[yY,yY,yY,nN,nN,nN,nN,nN,nN,nN,nN,nN,nN,nN,nN,nN] rfl rfl (by kernel_rfl) (fun _ _ _ h => h) (Or.inl ⟨by rfl, ?_⟩) ?_ ?_
      rotate_left
      · intro w'
        go_simp
        with_reducible rfl
      rotate_left
      · simp only [Act.put, List.setIfInBounds_toArray, List.set_cons_zero, List.set_cons_succ, i64_w, i32_w]
        rfl
      refine pure_ (i := 3) (N := some 19) (v := ?_) (a' := ?_) #[yY,yY,yY,yY,nN,nN,nN,nN,nN,nN,nN,nN,nN,nN,nN,nN] rfl rfl (by kernel_rfl) (fun _ _ _ h => h) (Or.inl ⟨by rfl, ?_⟩) ?_ ?_
      rotate_left
      · intro w'
        go_simp
        with_reducible rfl
      rotate_left
      · simp only [Act.put, List.setIfInBounds_toArray, List.set_cons_zero, List.set_cons_succ, i64_w, i32_w]
        rfl
      refine pure_ (i := 4) (N := some 20) (v := ?_) (a' := ?_) #[yY,yY,yY,yY,yY,nN,nN,nN,nN,nN,nN,nN,nN,nN,nN,nN] rfl rfl (by kernel_rfl) (fun _ _ _ h => h) (Or.inl ⟨by rfl, ?_⟩) ?_ ?_
      rotate_left
      · intro w'
        go_simp
        with_reducible rfl
      rotate_left
      · simp only [Act.put, List.setIfInBounds_toArray, List.set_cons_zero, List.set_cons_succ, i64_w, i32_w]
        rfl
      refine pure_ (i := 5) (N := some 21) (v := ?_) (a' := ?_) #[yY,yY,yY,yY,yY,yY,nN,nN,nN,nN,nN,nN,nN,nN,nN,nN] rfl rfl (by kernel_rfl) (fun _ _ _ h => h) (Or.inl ⟨by rfl, ?_⟩) ?_ ?_
      rotate_left
      · intro w'
        go_simp
        with_reducible rfl
      rotate_left
      · simp only [Act.put, List.setIfInBounds_toArray, List.set_cons_zero, List.set_cons_succ, i64_w, i32_w]
        rfl
      refine pure_ (i := 6) (N := some 22) (v := ?_) (a' := ?_) #[yY,yY,yY,yY,yY,yY,yY,nN,nN,nN,nN,nN,nN,nN,nN,nN] rfl rfl (by kernel_rfl) (fun _ _ _ h => h) (Or.inl ⟨by rfl, ?_⟩) ?_ ?_
      rotate_left
      · intro w'
        go_simp
        with_reducible rfl
      rotate_left
      · simp only [Act.put, List.setIfInBounds_toArray, List.set_cons_zero, List.set_cons_succ, i64_w, i32_w]
        rfl
      refine pure_ (i := 7) (N := some 23) (v := ?_) (a' := ?_) #[yY,yY,yY,yY,yY,yY,yY,yY,nN,nN,nN,nN,nN,nN,nN,nN] rfl rfl (by kernel_rfl) (fun _ _ _ h => h) (Or.inl ⟨by rfl, ?_⟩) ?_ ?_
      rotate_left
      · intro w'
        go_simp
        with_reducible rfl
      rotate_left
      · simp only [Act.put, List.setIfInBounds_toArray, List.set_cons_zero, List.set_cons_succ, i64_w, i32_w]
        rfl
      refine pure_ (i := 8) (N := some 24) (v := ?_) (a' := ?_) #[yY,yY,yY,yY,yY,yY,yY,yY,yY,nN,nN,nN,nN,nN,nN,nN] rfl rfl (by kernel_rfl) (fun _ _ _ h => h) (Or.inl ⟨by rfl, ?_⟩) ?_ ?_
      rotate_left
      · intro w'
        go_simp
        with_reducible rfl
      rotate_left
      · simp only [Act.put, List.setIfInBounds_toArray, List.set_cons_zero, List.set_cons_succ, i64_w, i32_w]
        rfl
      refine pure_ (i := 9) (N := some 25) (v := ?_) (a' := ?_) #[yY,yY,yY,yY,yY,yY,yY,yY,yY,yY,nN,nN,nN,nN,nN,nN] rfl rfl (by kernel_rfl) (fun _ _ _ h => h) (Or.inl ⟨by rfl, ?_⟩) ?_ ?_
      rotate_left
      · intro w'
        go_simp
        with_reducible rfl
      rotate_left
      · simp only [Act.put, List.setIfInBounds_toArray, List.set_cons_zero, List.set_cons_succ, i64_w, i32_w]
        rfl
      refine one_ (i := 10) (N := some 26) #[yY,yY,yY,yY,yY,yY,yY,yY,yY,yY,yY,nN,nN,nN,nN,nN] rfl rfl (by kernel_rfl) (by decide) (fun K hK => ?_)
      refine call_ 111 #[.pointer (some ⟨lb, 0, none⟩), .slice (some ⟨pb, n, none⟩) (cap - n) (cap - n)] (by rfl) rfl ?_ ?_
      · have hm1 := HM.out
        have hcf1 := HCF.out
        simp [execOp, resolve, invoke, Act.eval, hm1, hcf1, go_sem]
      with_reducible refine hEN.out.mono ?_
      rintro e W5 ⟨rfl, hQ5, hL5, hO5⟩
      refine ⟨_, rfl, ?_⟩
      have HQ5 := Lib.hid hQ5
      have HL5 := Lib.hid hL5
      have HO5 := Lib.hid hO5
      clear hQ5 hL5 hO5
      refine hK.out _ _ trivial (fun hHeld => ?_)
      clear hK K
      refine norm_ (a' := ?_) ?_ ?_
      rotate_left
      · show Act.put _ (some 26) _ = _
        simp only [Act.put, List.setIfInBounds_toArray, List.set_cons_zero, List.set_cons_succ, i64_w, i32_w]
        rfl
      refine pure_ (i := 11) (N := some 15) (v := ?_) (a' := ?_) #[yY,yY,yY,yY,yY,yY,yY,yY,yY,yY,yY,yY,nN,nN,nN,nN] rfl rfl (by kernel_rfl) (fun _ _ _ h => h) (Or.inl ⟨by rfl, ?_⟩) ?_ ?_
      rotate_left
      · intro w'
        go_simp
        with_reducible rfl
      rotate_left
      · simp only [Act.put, List.setIfInBounds_toArray, List.set_cons_zero, List.set_cons_succ, i64_w, i32_w]
        rfl
      refine pure_ (i := 12) (N := some 27) (v := ?_) (a' := ?_) #[yY,yY,yY,yY,yY,yY,yY,yY,yY,yY,yY,yY,yY,nN,nN,nN] rfl rfl (by kernel_rfl) (fun _ _ _ h => h) (Or.inl ⟨by rfl, ?_⟩) ?_ ?_
      rotate_left
      · intro w'
        go_simp
        with_reducible rfl
      rotate_left
      · simp only [Act.put, List.setIfInBounds_toArray, List.set_cons_zero, List.set_cons_succ, i64_w, i32_w]
        rfl
      refine pure_ (i := 13) (N := some 28) (v := ?_) (a' := ?_) #[yY,yY,yY,yY,yY,yY,yY,yY,yY,yY,yY,yY,yY,yY,nN,nN] rfl rfl (by kernel_rfl) (fun _ _ _ h => h) (Or.inl ⟨by rfl, ?_⟩) ?_ ?_
      rotate_left
      · intro w'
        go_simp
        with_reducible rfl
      rotate_left
      · simp only [Act.put, List.setIfInBounds_toArray, List.set_cons_zero, List.set_cons_succ, i64_w, i32_w]
        rfl
      refine pure_ (i := 14) (N := some 8) (v := ?_) (a' := ?_) #[yY,yY,yY,yY,yY,yY,yY,yY,yY,yY,yY,yY,yY,yY,yY,nN] rfl rfl (by kernel_rfl) (fun _ _ _ h => h) (Or.inl ⟨by rfl, ?_⟩) ?_ ?_
      rotate_left
      · intro w'
        go_simp
        with_reducible rfl
      rotate_left
      · simp only [Act.put, List.setIfInBounds_toArray, List.set_cons_zero, List.set_cons_succ, i64_w, i32_w]
        rfl
      refine pure_ (i := 15) (N := some 9) (v := ?_) (a' := ?_) #[yY,yY,yY,yY,yY,yY,yY,yY,yY,yY,yY,yY,yY,yY,yY,yY] rfl rfl (by kernel_rfl) (fun _ _ _ h => h) (Or.inl ⟨by rfl, ?_⟩) ?_ ?_
      rotate_left
      · intro w'
        go_simp
        with_reducible rfl
      rotate_left
      · simp only [Act.put, List.setIfInBounds_toArray, List.set_cons_zero, List.set_cons_succ, i64_w, i32_w]
        rfl
      refine done_ (by kernel_rfl) ?_

      have HI5 := Lib.hid (AllI.still HR.out HI.out hlW hgW (by rw [← HT.out]; exact HQ5.out) (by rw [← HT.out]; exact HL5.out) (Only_of_drew HO5.out))
      have he := HR.out.eof _ _ HQ5.out
      have hql := eql_same va W5
      have hn9 : (n : Int) ≤ 9223372036854775807 := by omega
      clear HI HQ5 HL5 HO5 hEN
      by_cases hcs0 : cs.length = 0
      · have d2 : ((cs.length : Int) == 0) = true := by simp [List.eq_nil_of_length_eq_zero hcs0]
        obtain ⟨m0, hm0⟩ : ∃ m0, m0 = cs.length := ⟨_, rfl⟩
        rw [← hm0] at d2 ⊢
        have HC0 := Lib.hid (And.intro hcs0 hm0)
        clear hcs0 hm0
        go_wp2
        go_ret2
        have hcn : cs = [] := List.eq_nil_of_length_eq_zero HC0.out.1
        have h1 := HI5.out.rb
        have h2 := HI5.out.pre
        have h3 := HI5.out.q
        rw [← HT.out] at h2 h3
        rw [hcn, List.flatten_nil, List.nil_append] at h2
        rw [← HNX.out, h2, HFIN.out.1] at h1
        rw [HFIN.out.2] at h3
        exact ⟨_, rfl, h1, h3, HI5.out.on⟩
      · have d2 : ((cs.length : Int) == 0) = false := by
          cases h : ((cs.length : Int) == 0) with
          | false => rfl
          | true => exact absurd (by simpa using h) hcs0
        have d3 : (cs.length == 0) = false := by
          cases h : (cs.length == 0) with
          | false => rfl
          | true => exact absurd (by simpa using h) hcs0
        have HCP : Hid (1 ≤ cs.length) := Lib.hid (by omega)
        have hfn0 : 0 ≤ f + (n : Int) := by omega
        have hfn1 : f + (n : Int) ≤ 4294967296 := by have h1 := HLE.out; have h2 := HNN.out; omega
        have hfn2 : f + (n : Int) ≤ 9223372036854775807 := by omega
        have hcl : (cs.length : Int) ≤ 9223372036854775807 := by have h1 := HI5.out.cl; have h2 := HI5.out.le; have h3 := HLL.out; omega
        have HFP : Hid (1 ≤ f + (n : Int)) := Lib.hid (by have h1 := HF.out; have h2 := HI5.out.cl; omega)
        clear hcs0
        go_wp2_with ((with_reducible refine gate_builtin (b := .append) (xs := #[.const (.slice none 0 0), .tmp 49]) rfl ?_)
                     at_builtin
                     refine Kd.R_append_zeros B8 (w0 := W5) (W := W5) W5.heap.size rfl (.const (.slice none 0 0)) (.tmp 49) 22 3 5 (.int .u8 0) 1 rfl Tryd.underlying22 Tryd.underlying3 info_u8 rfl (by decide) (by decide) (.slice none 0 0) [] 0 (f + (n : Int)) (fun k => W5.heap.size ≤ k) rfl rfl rfl (fun _ h => h) (Kd.R_nil _ _ _ _ _) hfn0 (Below.refl _ _) (Nat.le_refl _) (by simp; omega) ?_
                     intro v2 w2 hR2 hb2 hg2 hat2
                     obtain ⟨pb2, cap2, hv3, _⟩ := Kd.R_form hR2 (by have := HFP.out; simp; omega)
                     rw [hv3] at hR2 ⊢
                     have h0 := Kd.R_take (m := 0) hR2 (Nat.zero_le _)
                     rw [List.take_zero] at h0
                     have HR2 := Lib.hid h0
                     have HB2 := Lib.hid hb2
                     clear hR2 hb2 hg2 hat2 hv3 h0)
        go_loopw [10, 54] (fun fin i wr2 => ∃ k : Nat, k ≤ cs.length ∧ i = .int .i64 k ∧ Hid (Below W5.heap.size W5 wr2 ∧ B8.R 5 wr2 W5.heap.size (fun k => W5.heap.size ≤ k) fin (cs.take k).flatten)) (fun _ i _ => cs.length - (intOf i).toNat)
        case atStart => exact ⟨0, Nat.zero_le _, rfl, Lib.hid ⟨HB2.out, HR2.out⟩⟩
        case round =>
          obtain ⟨k, hk, rfl, HP⟩ := hrel
          obtain ⟨Af, cf, hfe⟩ := Kd.R_slice HP.out.2
          have HPF := Lib.hid hfe
          clear hfe
          have HFL : Hid ((cs.take k).flatten.length + (cs.drop k).flatten.length = cs.flatten.length) := Lib.hid (by
            have := congrArg List.length (congrArg List.flatten (List.take_append_drop k cs))
            simpa only [List.flatten_append, List.length_append] using this)
          by_cases hlt2 : k < cs.length
          · obtain ⟨ad, Ak, ck, hA, hcell, hC⟩ := chunk_at HI5.out.rc hlt2
            subst hA
            replace hcell := (HP.out.1.cell (World.block_lt_of_cell? W5 _ hcell)).trans hcell
            have HC := Lib.hid (Kd.C_below hC HP.out.1)
            have HST : Hid ((cs.take (k + 1)).flatten = (cs.take k).flatten ++ cs[k]) := Lib.hid (by rw [List.take_succ_eq_append_getElem hlt2, List.flatten_append]; simp)
            have HLK : Hid ((cs.take k).flatten.length + cs[k].length ≤ cs.flatten.length) := Lib.hid (by
              have h1 := HFL.out
              rw [List.drop_eq_getElem_cons hlt2, List.flatten_cons, List.length_append] at h1
              omega)
            obtain ⟨ys, hys⟩ : ∃ ys, ys = cs[k] := ⟨_, rfl⟩
            rw [← hys] at hcell HC HST HLK
            obtain ⟨acc, hacc⟩ : ∃ acc, acc = (cs.take k).flatten := ⟨_, rfl⟩
            rw [← hacc] at HP HST HLK HPF
            clear hC hys hacc HFL
            go_wp2_with ((with_reducible refine gate_builtin (b := .append) (xs := #[.tmp 58, .tmp 59]) rfl ?_)
                         at_builtin
                         refine Kd.R_append_row (Value.int .u8) (0 : Int) (w0 := W5) (W := wr) W5.heap.size rfl (.tmp 58) (.tmp 59) 22 5 (.int .u8 0) 1 rfl Tryd.underlying22 info_u8 rfl (by decide) _ acc ys Ak ys.length ck (fun k => W5.heap.size ≤ k) rfl rfl ?_ HP.out.2 HC.out HP.out.1 HP.out.1.size ?_ ?_
                         · exact fun k hk => Nat.le_trans HP.out.1.size hk
                         · have h1 := HLK.out; have h2 := HI5.out.le; have h3 := HLL.out
                           omega
                         intro v3 w3 hR3 hb3 hg3 hat3
                         have HR3 := Lib.hid hR3
                         have HB3 := Lib.hid hb3
                         clear hR3 hb3 hg3 hat3)
            exact ⟨⟨k + 1, hlt2, by first | rfl | go_num, Lib.hid ⟨HB3.out, by rw [HST.out]; exact HR3.out⟩⟩, by simp [intOf]; omega⟩
          · obtain rfl : k = cs.length := by omega
            obtain ⟨Ab, cb, hb1, hb2, hb3⟩ := Kd.R_reads HI5.out.rb
            injection hb1 with hb1 hb4 hb5
            have HC := Lib.hid (Kd.C_below hb3 HP.out.1)
            rw [← hb1] at HC
            obtain ⟨m2, hm2⟩ : ∃ m2, m2 = cs.length := ⟨_, rfl⟩
            have HM2 := Lib.hid hm2
            clear hb1 hb2 hb3 hb4 hb5 hm2
            go_wp2_with ((with_reducible refine gate_builtin (b := .append) (xs := #[.tmp 62, .tmp 63]) rfl ?_)
                         at_builtin
                         refine Kd.R_append_row (Value.int .u8) (0 : Int) (w0 := W5) (W := wr) W5.heap.size rfl (.tmp 62) (.tmp 63) 22 5 (.int .u8 0) 1 rfl Tryd.underlying22 info_u8 rfl (by decide) _ (cs.take cs.length).flatten xb (some ⟨pb, 0, none⟩) n cap (fun k => W5.heap.size ≤ k) rfl rfl ?_ HP.out.2 ?_ HP.out.1 HP.out.1.size ?_ ?_
                         · exact fun k hk => Nat.le_trans HP.out.1.size hk
                         · rw [HNX.out]; exact HC.out
                         · have h1 := HNX.out; have h2 := HI5.out.le; have h3 := HLL.out
                           rw [List.take_length]
                           omega
                         intro v3 w3 hR3 hb3 hg3 hat3
                         have HR3 := Lib.hid hR3
                         have HB3 := Lib.hid hb3
                         clear hR3 hb3 hg3 hat3)
            go_ret2
            have h1 := HR3.out
            have h2 := HI5.out.pre
            have h3 := HI5.out.q
            have hs := HI5.out.on.size
            rw [← HT.out] at h2 h3
            rw [List.take_length, h2, HFIN.out.1] at h1
            rw [HFIN.out.2] at h3
            exact ⟨_, rfl, Kd.R_mono (Kd.R_lower h1 hs) (fun _ _ => trivial), HR.out.keep W5 w3 _ h3 (fun b hb => HB3.out.block b (by have := HB.out; omega)), HI5.out.on.trans (Only.of_below (fun i => i = g ∨ i = lb) HB3.out) (fun i _ h => h)⟩
end
end Go.Proofs.YtejbpbdlolehnaaDoor.Ber
namespace Go.Proofs.YtejbpbdlolehnaaDoor.Ber
open Go.RowKit Go.Proofs.YtejbpbdlolehnaaDoorW.PrintWords Go.Proofs.YtejbpbdlolehnaaDoor.Buf Go.Proofs.YtejbpbdlolehnaaDoor.Pk Go.Proofs.YtejbpbdlolehnaaDoor.Num Go.Proofs.YtejbpbdlolehnaaDoor.Ident Go.Proofs.YtejbpbdlolehnaaDoor.Tree Go.Proofs.YtejbpbdlolehnaaDoor.PFnEncode
set_option linter.unusedVariables false
set_option linter.unusedSimpArgs false

mutual
/-- the packet as data -/
def trOf : Pk → S25
  | ⟨cls, typ, tag, _, _, data, kids, _⟩ => ⟨cls / 64, tag, decide (typ = 32), if typ = 32 then [] else data, if typ = 32 then trL kids else []⟩
def trL : List Pk → List S25
  | [] => []
  | x :: xs => trOf x :: trL xs
end
mutual
/-- a packet within Go's sizes -/
def okP : Pk → Prop
  | ⟨cls, typ, tag, _, _, data, kids, _⟩ => (0 ≤ cls ∧ cls ≤ 255) ∧ (typ = 0 ∨ typ = 32) ∧ (0 ≤ tag ∧ tag < 268435456) ∧ data.length < 1099511627776 ∧ kids.length < 1099511627776 ∧ okL kids
def okL : List Pk → Prop
  | [] => True
  | x :: xs => okP x ∧ okL xs
end
mutual
/-- how deep -/
def dp : Pk → Nat
  | ⟨_, _, _, _, _, _, kids, _⟩ => dpL kids + 1
def dpL : List Pk → Nat
  | [] => 0
  | x :: xs => max (dp x) (dpL xs)
end
theorem trL_append (l m : List Pk) : trL (l ++ m) = trL l ++ trL m := by
  induction l with
  | nil => rfl
  | cons x xs ih => rw [List.cons_append, trL, trL, ih]; rfl
theorem trL_length (l : List Pk) : (trL l).length = l.length := by
  induction l with
  | nil => rfl
  | cons x xs ih => rw [trL, List.length_cons, List.length_cons, ih]
theorem okL_mem : ∀ {l : List Pk} {x : Pk}, okL l → x ∈ l → okP x
  | y :: ys, x, h, hx => by
    rw [okL] at h
    rcases List.mem_cons.1 hx with rfl | hx
    · exact h.1
    · exact okL_mem h.2 hx
theorem dpL_mem : ∀ {l : List Pk} {x : Pk}, x ∈ l → dp x ≤ dpL l
  | y :: ys, x, hx => by
    rw [dpL]
    rcases List.mem_cons.1 hx with rfl | hx
    · exact Nat.le_max_left _ _
    · exact Nat.le_trans (dpL_mem hx) (Nat.le_max_right _ _)

/-- the kid at a place -/
theorem kid_at {w : World} {base : Nat} {ok : Nat → Prop} {v : Value} {xs : List Pk} (h : kPk.R TP w base ok v xs) {k : Nat} (hk : k < xs.length) :
    ∃ ad cap q, v = .slice (some ad) xs.length cap ∧ w.cell? (ad.add k) = some (.pointer (some ⟨q, 0, none⟩)) ∧ IsPk w base ok q xs[k] := by
  obtain ⟨h0, inner, ho, hr⟩ := h
  have hsz : kPk.sz = 1 := rfl
  rw [hsz] at ho hr
  obtain ⟨hl, ho⟩ := ho
  rcases ho with ⟨_, hn⟩ | ⟨g, cap, cur, rfl, hg, hcur, hc1, hc2, hc3, hc4⟩
  · omega
  · have hM := hr.2 k _ (List.getElem?_eq_getElem hk)
    rw [Nat.mul_one] at hM
    obtain ⟨hv, q, db, v', bv, cv, lr, e, hrest⟩ := open_M hM
    refine ⟨⟨g, 0, none⟩, cap, q, rfl, ?_, ?_⟩
    · have h1 : inner[k]? = some (.pointer (some ⟨q, 0, none⟩)) := by
        have := congrArg (fun l => l[0]?) e
        simp only [List.getElem?_take_of_lt (show 0 < 1 by decide), List.getElem?_drop] at this
        simpa using this
      rw [← hc4, Nat.mul_one, List.getElem?_take_of_lt hk, Array.getElem?_toList] at h1
      have := blk_cell hcur k
      rw [h1] at this
      rw [← this]
      congr 1
      unfold Addr.add
      simp
      intros
      omega
    · rw [e] at hM
      exact kPk.M_mono (fun k hk => hk.1) hM
end Go.Proofs.YtejbpbdlolehnaaDoor.Ber

namespace Go.Proofs.YtejbpbdlolehnaaDoor.Ber
open Go.RowKit Go.Proofs.YtejbpbdlolehnaaDoorW.PrintWords Go.Proofs.YtejbpbdlolehnaaDoor.Buf Go.Proofs.YtejbpbdlolehnaaDoor.Pk Go.Proofs.YtejbpbdlolehnaaDoor.Num Go.Proofs.YtejbpbdlolehnaaDoor.Ident
set_option linter.unusedVariables false
set_option linter.unusedSimpArgs false

/-- a packet with a child more -/
def addK (x y : Pk) : Pk := { x with data := x.data ++ pkBytes (y.cls / 64) y.tag (decide (y.typ = 32)) y.data, kids := x.kids ++ [y] }

/-- what may become a child -/
structure Top (y : Pk) (n : Nat) : Prop where
  c0 : 0 ≤ y.cls
  c1 : y.cls ≤ 192
  cm : y.cls % 64 = 0
  ty : y.typ = 0 ∨ y.typ = 32
  t0 : 0 ≤ y.tag
  t1 : y.tag < 268435456
  ln : y.data.length ≤ n
  nk : y.kids.length ≤ n

end Go.Proofs.YtejbpbdlolehnaaDoor.Ber

namespace Go.Proofs.YtejbpbdlolehnaaDoor.Ber
open Go.RowKit Go.Proofs.YtejbpbdlolehnaaDoorW.PrintWords Go.Proofs.YtejbpbdlolehnaaDoor.Buf Go.Proofs.YtejbpbdlolehnaaDoor.Pk
set_option linter.unusedVariables false
set_option linter.unusedSimpArgs false

end Go.Proofs.YtejbpbdlolehnaaDoor.Ber
namespace Go.Proofs.YtejbpbdlolehnaaDoor.Ber
open Go.RowKit Go.Proofs.YtejbpbdlolehnaaDoorW.PrintWords Go.Proofs.YtejbpbdlolehnaaDoor.Buf Go.Proofs.YtejbpbdlolehnaaDoor.Pk Go.Proofs.YtejbpbdlolehnaaDoor.Num
set_option linter.unusedVariables false
set_option linter.unusedSimpArgs false

/-- the number that bytes are, without a sign -/
def uv : List Int → Int := List.foldl (fun u b => u * 256 + b) 0
theorem uv_snoc (l : List Int) (b : Int) : uv (l ++ [b]) = uv l * 256 + b := by simp [uv]

theorem uv_bound (l : List Int) (n : Nat) : l.length ≤ n → (∀ y ∈ l, 0 ≤ y ∧ y < 256) → 0 ≤ uv l ∧ uv l < 256 ^ n := by
  induction n generalizing l with
  | zero =>
    intro hl _
    have : l = [] := List.eq_nil_of_length_eq_zero (by omega)
    subst this
    simp [uv]
  | succ n ih =>
    intro hl hb
    rcases List.eq_nil_or_concat l with rfl | ⟨l', b, rfl⟩
    · have : (0 : Int) < 256 ^ (n + 1) := Int.pow_pos (by omega)
      simp only [uv, List.foldl_nil]
      omega
    · rw [List.concat_eq_append] at hl hb ⊢
      rw [uv_snoc, Int.pow_succ]
      have h1 := ih l' (by simp at hl; omega) (fun y hy => hb y (by simp [hy]))
      have h2 := hb b (by simp)
      omega

/-- the number that bytes are, in two's complement -/
def sv (l : List Int) : Int := if uv l < 128 * 256 ^ (l.length - 1) then uv l else uv l - 256 ^ l.length

theorem or_low (M b : Nat) (hM : M < 18446744073709551616) (h8 : M % 256 = 0) (hb : b < 256) : Go.bits .or .i64 (wrap64 (M : Int)) (b : Int) = wrap64 ((M : Int) + (b : Int)) := by
  show IntKind.i64.wrap ((BitVec.ofInt 64 (wrap64 (M : Int)) ||| BitVec.ofInt 64 (b : Int)).toNat : Int) = _
  rw [BitVec.toNat_or, BitVec.toNat_ofInt, BitVec.toNat_ofInt]
  have e0 : ((2 ^ 64 : Nat) : Int) = 18446744073709551616 := by decide
  rw [e0]
  have e1 : (wrap64 (M : Int) % 18446744073709551616).toNat = M := by unfold wrap64; omega
  have e2 : ((b : Int) % 18446744073709551616).toNat = b := by omega
  rw [e1, e2]
  have hq : M = 2 ^ 8 * (M / 256) := by omega
  have e3 : M ||| b = M + b := by
    conv => lhs; rw [hq]
    rw [← Nat.two_pow_add_eq_or_of_lt (show b < 2 ^ 8 by omega) (M / 256)]
    omega
  rw [e3, IntKind.wrap_i64]
  unfold wrap64
  push_cast
  rfl

theorem step_or (u b : Int) (h0 : 0 ≤ u) (h1 : u < 72057594037927936) (hb0 : 0 ≤ b) (hb1 : b < 256) : Go.bits .or .i64 (wrap64 (wrap64 u * 256)) (wrap64 b) = wrap64 (u * 256 + b) := by
  have e1 : wrap64 u = u := by unfold wrap64; omega
  have e2 : wrap64 b = b := by unfold wrap64; omega
  rw [e1, e2]
  obtain ⟨U, rfl⟩ := Int.eq_ofNat_of_zero_le h0
  obtain ⟨B, rfl⟩ := Int.eq_ofNat_of_zero_le hb0
  have := or_low (U * 256) B (by omega) (by omega) (by omega)
  simpa using this

/-- the two shifts at the end -/
theorem shifts (u : Int) (n : Nat) (hn : n ≤ 8) (h0 : 0 ≤ u) (h1 : u < 256 ^ n) : wrap64 (wrap64 u * 2 ^ (64 - n * 8)) / 2 ^ (64 - n * 8) = if u < 128 * 256 ^ (n - 1) then u else u - 256 ^ n := by
  unfold wrap64
  have hc : n = 0 ∨ n = 1 ∨ n = 2 ∨ n = 3 ∨ n = 4 ∨ n = 5 ∨ n = 6 ∨ n = 7 ∨ n = 8 := by omega
  rcases hc with rfl | rfl | rfl | rfl | rfl | rfl | rfl | rfl | rfl <;> simp only [Nat.reduceMul, Nat.reduceSub, Int.reducePow, Int.reduceMul] at h1 ⊢ <;> (try split) <;> omega

set_option maxHeartbeats 3200000 in
set_option maxRecDepth 100000 in
theorem parse_any (xs : List Int) (A : Option Addr) (c : Nat) (w : World) (hr : B8.C w A xs.length xs) (h8 : xs.length ≤ 8) (hb : ∀ y ∈ xs, 0 ≤ y ∧ y < 256) :
    Calls Tryd.prog 44 #[.slice A xs.length c] w fun e w' => e = .returned (.tuple #[.int .i64 (sv xs), .nilIface]) ∧ w = w' := by
  obtain ⟨n, hn⟩ : ∃ n, n = xs.length := ⟨_, rfl⟩
  have hsv : Hid (wrap64 (wrap64 (uv xs) * 2 ^ (64 - n * 8)) / 2 ^ (64 - n * 8) = sv xs) := by
    show _ = sv xs
    have hu := uv_bound xs n (by omega) hb
    rw [shifts _ _ (by omega) hu.1 hu.2]
    unfold sv
    rw [hn]
  have hbd : Hid (∀ k, k < n → (0 ≤ uv (xs.take k) ∧ uv (xs.take k) < 72057594037927936) ∧ 0 ≤ rd xs (k : Int) ∧ rd xs (k : Int) < 256 ∧ uv (xs.take (k + 1)) = uv (xs.take k) * 256 + rd xs (k : Int)) := by
    intro k hk
    have hk' : k < xs.length := by omega
    have e : rd xs (k : Int) = xs[k] := by simp [rd, List.getD_eq_getElem?_getD, List.getElem?_eq_getElem hk']
    have hu := uv_bound (xs.take k) 7 (by rw [List.length_take]; omega) (fun y hy => hb y (List.mem_of_mem_take hy))
    have h7 : (256 : Int) ^ 7 = 72057594037927936 := by decide
    have hy := hb xs[k] (List.getElem_mem hk')
    refine ⟨⟨hu.1, by omega⟩, by omega, by omega, ?_⟩
    rw [e, ← uv_snoc, List.take_succ_eq_append_getElem hk']
  rw [← hn] at h8 ⊢
  rw [← hsv.out]
  go_enter Tryd.func44, Tryd.ntmps44
  have HN := Lib.hid hn
  have HB := Lib.hid hb
  clear hn hb
  go_wp2
  go_loop [2, 4] (fun r i => ∃ (k : Nat) (u : Int), k ≤ n ∧ i = .int .i64 k ∧ r = .int .i64 (wrap64 u) ∧ Hid (u = uv (xs.take k))) (fun _ i => n - (intOf i).toNat)
  case atStart => exact ⟨0, 0, Nat.zero_le _, rfl, (show Value.int .i64 0 = Value.int .i64 (wrap64 0) from congrArg (Value.int .i64) (by unfold wrap64; omega)), rfl⟩
  case round =>
    obtain ⟨k, u, hk, rfl, rfl, HU⟩ := hrel
    by_cases hlt : k < n
    · obtain ⟨a, hA, hcell⟩ := Kd.at_int hr (k : Int) (by omega) (by have := HN.out; omega)
      subst hA
      rw [Int.toNat_natCast] at hcell
      go_wp2
      go_round
      case rel =>
        obtain ⟨⟨b1, b2⟩, b3, b4, b5⟩ := hbd.out k hlt
        refine ⟨k + 1, u * 256 + rd xs (k : Int), by omega, by go_num, ?_, ?_⟩
        · rw [← HU.out] at b1 b2
          rw [step_or u _ b1 b2 b3 b4]
        · show _ = uv _
          rw [b5, HU.out]
      case measure => simp [intOf]; omega
    · obtain rfl : k = n := by omega
      have hu : u = uv xs := by rw [HU.out, HN.out, List.take_length]
      clear HU
      subst hu
      go_wp2
      go_ret2
      exact ⟨rfl, rfl⟩
end Go.Proofs.YtejbpbdlolehnaaDoor.Ber
namespace Go.Proofs.YtejbpbdlolehnaaDoor.Ber
open Go.RowKit Go.Proofs.YtejbpbdlolehnaaDoorW.PrintWords Go.Proofs.YtejbpbdlolehnaaDoorW.PrintLast Go.Proofs.YtejbpbdlolehnaaDoor.Buf Go.Proofs.YtejbpbdlolehnaaDoor.Pk Go.Proofs.YtejbpbdlolehnaaDoor.Tree Go.Proofs.YtejbpbdlolehnaaDoor.Num Go.Proofs.YtejbpbdlolehnaaDoor.Ident Go.Proofs.YtejbpbdlolehnaaDoor.PFnEncode
set_option linter.unusedVariables false
set_option linter.unusedSimpArgs false

/-- the value that a universal packet gets -/
def valOf (tag : Int) (d : List Int) : Value :=
  if tag = 1 then .iface 4 (.bool (sv d != 0)) else if tag = 2 ∨ tag = 10 then .iface 2 (.int .i64 (sv d)) else if tag = 4 then strV (strOfNums d) else .nilIface
mutual
/-- what is read -/
def rdPk : S29 → Pk
  | ⟨a, b, c, d, l⟩ => ⟨a * 64, (if c = true then 32 else 0), b, if c = true ∨ a ≠ 0 then .nilIface else valOf b d, if c = true ∨ a ≠ 0 then [] else d, if c = true then bytesL l else d, if c = true then rdL l else [], ⟨#[]⟩⟩
def rdL : List S29 → List Pk
  | [] => []
  | x :: xs => rdPk x :: rdL xs
end
mutual
/-- how deep -/
def dpx : S29 → Nat
  | ⟨_, _, _, _, l⟩ => dpxL l + 1
def dpxL : List S29 → Nat
  | [] => 0
  | x :: xs => max (dpx x) (dpxL xs)
end
mutual
/-- tags whose values are taken as they are -/
def kp : S29 → Prop
  | ⟨a, b, c, d, l⟩ => (a = 0 → c = false → (b = 1 ∧ d.length = 1) ∨ ((b = 2 ∨ b = 10) ∧ 1 ≤ d.length ∧ d.length ≤ 8) ∨ b = 4 ∨ (b = 5 ∧ d.length = 0)) ∧ (a = 0 → c = true → b = 16 ∨ b = 17) ∧ kpL l
def kpL : List S29 → Prop
  | [] => True
  | x :: xs => kp x ∧ kpL xs
end
theorem rdL_append (l m : List S29) : rdL (l ++ m) = rdL l ++ rdL m := by
  induction l with
  | nil => rw [rdL]; rfl
  | cons x xs ih => rw [List.cons_append, rdL, rdL, ih]; rfl
theorem rdL_length (l : List S29) : (rdL l).length = l.length := by
  induction l with
  | nil => rw [rdL, List.length_nil, List.length_nil]
  | cons x xs ih => rw [rdL, List.length_cons, List.length_cons, ih]
theorem kpL_mem : ∀ {l : List S29} {x : S29}, kpL l → x ∈ l → kp x
  | y :: ys, x, h, hx => by
    rw [kpL] at h
    rcases List.mem_cons.1 hx with rfl | hx
    · exact h.1
    · exact kpL_mem h.2 hx
theorem dpxL_mem : ∀ {l : List S29} {x : S29}, x ∈ l → dpx x ≤ dpxL l
  | y :: ys, x, hx => by
    rw [dpxL]
    rcases List.mem_cons.1 hx with rfl | hx
    · exact Nat.le_max_left _ _
    · exact Nat.le_trans (dpxL_mem hx) (Nat.le_max_right _ _)
/-- a packet that was read: class and tag within bounds; primitive ones without packets, constructed ones without data -/
def topx (x : S29) : Prop := (0 ≤ x.f0 ∧ x.f0 ≤ 3) ∧ (0 ≤ x.f1 ∧ x.f1 < 268435456) ∧ (x.f2 = true → x.f3 = []) ∧ (x.f2 = false → x.f4 = [])
theorem par_topx {l : List Int} {x : S29} {n : Nat} (h : Par l x n) (hx : ∀ y ∈ l, 0 ≤ y ∧ y < 256) : topx x := by
  cases h with
  | prim h hn => have := hdrB_all h hx; exact ⟨⟨this.1, this.2.1⟩, ⟨this.2.2.1, this.2.2.2.1⟩, fun h => absurd h (by simp), fun _ => rfl⟩
  | cons h hn hk => have := hdrB_all h hx; exact ⟨⟨this.1, this.2.1⟩, ⟨this.2.2.1, this.2.2.2.1⟩, fun _ => rfl, fun h => absurd h (by simp)⟩
theorem rd_bytes {x : S29} (h : topx x) : pkBytes x.f0 x.f1 x.f2 (rdPk x).data = bytesT x := by
  obtain ⟨a, b, c, d, l⟩ := x
  obtain ⟨_, _, h1, h2⟩ := h
  rw [rdPk, bytesT]
  cases c with
  | true =>
    have : d = [] := h1 rfl
    subst this
    rfl
  | false =>
    have : l = [] := h2 rfl
    subst this
    rw [bytesL, List.append_nil]
    rfl
theorem rd_add {x : S29} (h : topx x) (p : Pk) : addK p (rdPk x) = { p with data := p.data ++ bytesT x, kids := p.kids ++ [rdPk x] } := by
  have e := rd_bytes h
  obtain ⟨a, b, c, d, l⟩ := x
  rw [← e]
  have e1 : a * 64 / 64 = a := by omega
  rw [rdPk, addK]
  simp only [e1]
  cases c <;> simp
theorem rd_top {x : S29} (h : topx x) {n : Nat} (h1 : (rdPk x).data.length ≤ n) (h2 : (rdPk x).kids.length ≤ n) : Top (rdPk x) n := by
  obtain ⟨a, b, c, d, l⟩ := x
  obtain ⟨h3, h4, _⟩ := h
  simp only at h3 h4
  rw [rdPk] at h1 h2 ⊢
  refine ⟨by simp only; omega, by simp only; omega, by simp only; omega, ?_, h4.1, h4.2, h1, h2⟩
  cases c <;> simp
/-- AppendChild: the child is younger. -/
theorem app_two {W : World} {base S q qc : Nat} {x y : Pk} {n m : Nat} (hx : IsPk W base (fun k => k < S) q x) (hy : IsPk W S (fun _ => True) qc y) (hbS : base ≤ S) (hS : S ≤ W.heap.size) (tx : Top x n) (ty : Top y m) (hn : n < 1000000000000) (hm : m < 1000000000000) :
    Calls Tryd.prog 40 #[.pointer (some ⟨q, 0, none⟩), .pointer (some ⟨qc, 0, none⟩)] W fun e w' => (∃ u, e = .returned u) ∧ IsPk w' base (fun _ => True) q (addK x y) ∧ Below base W w' := by
  obtain ⟨db, v, bv, cv, P⟩ := parts_of hx.bound
  obtain ⟨dq, vq, bq, cq, C⟩ := parts_of (hy.bound.lower (base' := base) hbS)
  have hl := tx.ln
  have hl2 := ty.ln
  have hk := tx.nk
  have h0 := ty.c0
  have h1 := ty.c1
  have h2 := ty.cm
  have e1 : y.cls = y.cls / 64 * 64 := by omega
  have e2 : y.typ = if decide (y.typ = 32) = true then 32 else 0 := by
    rcases ty.ty with h | h <;> simp [h]
  refine (append_any (y.cls / 64) y.tag (decide (y.typ = 32)) (by omega) (by omega) ty.t0 ty.t1 x y e1 e2 rfl (by omega) (by omega) (by omega) W P C ?_ (fun j h1 => h1.2.2) (Nat.le_trans hbS hS) (fun j h1 => h1.2.1)).mono ?_
  · intro j h1 h2
    have h3 := h1.2.1
    have h4 := h2.1
    omega
  · rintro e W7 ⟨hu, hO7, v7, cv7, hP7⟩
    have h7 := (hP7.okmono (ok' := fun _ => True) (fun _ _ => trivial)).pk
    exact ⟨hu, h7, hO7.below (Nat.le_trans hbS hS) (fun i hi => hi.2.1)⟩
/-- Another ByteValue. -/
theorem Parts_setBv {w : World} {base : Nat} {ok : Nat → Prop} {b : Nat} {x : Pk} {db : Nat} {v bv cv : Value} (h : Parts w base ok b x db v bv cv) (u : Value) (ys : List Int) (hr : B8.R 5 w base (fun k => ok k ∧ some k ≠ v.ownBlock) u ys) :
    Parts (w.setCell ⟨b, 4, none⟩ u) base ok b { x with bv := ys } db v u cv ∧ Only ok w (w.setCell ⟨b, 4, none⟩ u) := by
  have hk : ∀ k, k ≠ b → (w.setCell ⟨b, 4, none⟩ u).heap[k]? = w.heap[k]? := fun k hk => Below.heap_setCell w ⟨b, 4, none⟩ u k hk
  have hrow : ∀ {k : Nat} {cs : Array Value}, w.heap[k]? = some (.cells cs 5 (0, 0)) → k ≠ b := by
    rintro k cs hc rfl
    have := h.hb
    rw [hc] at this
    injection this with this
    injection this with _ this
    exact absurd this (by decide)
  refine ⟨⟨h.val, h.okb, h.leb, h.okd, h.led, Lib.heap_setCell_same (i := 4) h.hb u, ?_, ?_, ?_, ?_⟩, (Only.refl ok w).setCell (a := ⟨b, 4, none⟩) (fun _ => h.okb) u⟩
  · obtain ⟨lr, h4⟩ := h.hd
    exact ⟨lr, (hk db (Ne.symm h.dne)).trans h4⟩
  · refine Kd.R_mono (Kd.R_move (Kd.R_bound h.rv) ?_) (fun k hk => hk.1)
    rintro k ⟨k1, k2, k3, q, hq, cells, hc⟩
    refine hk k (hrow (cs := cells) ?_)
    rcases List.mem_cons.1 hq with rfl | hq
    · exact hc
    · exact absurd hq (by simp [Kd.int, Kd.scalar])
  · refine Kd.R_mono (Kd.R_move (Kd.R_bound hr) ?_) (fun k hk => hk.1)
    rintro k ⟨k1, k2, k3, q, hq, cells, hc⟩
    refine hk k (hrow (cs := cells) ?_)
    rcases List.mem_cons.1 hq with rfl | hq
    · exact hc
    · exact absurd hq (by simp [Kd.int, Kd.scalar])
  · exact Kd.R_move h.rk (fun k hk' => hk k hk'.2.1)
theorem kp_noEOC {x : S29} (h : kp x) : (rdPk x).tag ≠ 0 ∨ (rdPk x).cls ≠ 0 ∨ (rdPk x).typ ≠ 0 := by
  obtain ⟨a, b, c, d, l⟩ := x
  rw [kp] at h
  rw [rdPk]
  by_cases ha : a = 0
  · cases c with
    | true => exact .inr (.inr (by simp))
    | false =>
      refine .inl ?_
      have := h.1 ha rfl
      simp only
      omega
  · exact .inr (.inl (by simp only; omega))
theorem rd_small {x : S29} (hg : good x = true) (ht : tsize x ≤ 1000000) : (rdPk x).data.length ≤ 20000000 ∧ (rdPk x).kids.length ≤ 20000000 := by
  have h1 := bytesT_le x hg (by omega)
  obtain ⟨a, b, c, d, l⟩ := x
  have h2 := len_le_tsB l
  rw [tsize] at ht h1
  rw [bytesT] at h1
  simp only [List.length_append] at h1
  rw [rdPk]
  cases c with
  | true => exact ⟨by simp only [if_true]; omega, by simp only [if_true, rdL_length]; omega⟩
  | false => exact ⟨by simp only [Bool.false_eq_true, if_false]; omega, by simp⟩
theorem good_kid {a b : Int} {c : Bool} {d : List Int} {l : List S29} (hg : good ⟨a, b, c, d, l⟩ = true) {x : S29} (hx : x ∈ l) : good x = true := by
  rw [good] at hg
  simp only [Bool.and_eq_true] at hg
  have := hg.2
  rw [goodL_all, List.all_eq_true] at this
  exact this x hx
theorem tsizeL_mem : ∀ {l : List S29} {x : S29}, x ∈ l → tsize x ≤ tsizeL l
  | y :: ys, x, hx => by
    rw [tsizeL]
    rcases List.mem_cons.1 hx with rfl | hx
    · exact Nat.le_add_right _ _
    · exact Nat.le_trans (tsizeL_mem hx) (Nat.le_add_left _ _)
/-- the kids so far -/
def sofar (a b : Int) (l : List S29) : Pk := ⟨a, 32, b, .nilIface, [], bytesL l, rdL l, ⟨#[]⟩⟩
theorem sofar_add (a b : Int) (l : List S29) {x : S29} (h : topx x) : addK (sofar a b l) (rdPk x) = sofar a b (l ++ [x]) := by
  rw [rd_add h, sofar, sofar, bytesL_append, rdL_append, bytesL, bytesL, rdL, rdL, List.append_nil]
theorem mk_none0 : ∀ w : World, (Instr.makeSlice 22 (.int .i64 0) (.int .i64 0)).run Tryd.prog w = .ok (.slice (some ⟨w.heap.size, 0, none⟩) 0 0) (w.alloc (.cells #[] 5)) := fun _ => by kernel_rfl
theorem mk_kids2 : ∀ w : World, (Instr.makeSlice 71 (.int .i64 0) (.int .i64 2)).run Tryd.prog w = .ok (.slice (some ⟨w.heap.size, 0, none⟩) 0 2) (w.alloc (.cells #[.pointer none, .pointer none] 50)) := fun _ => by kernel_rfl
/-- three blocks are a packet without data -/
theorem bare_pk {W : World} {base b0 b1 b2 : Nat} (cls typ tag : Int) (hb0 : base ≤ b0) (hb1 : base ≤ b1) (hb2 : base ≤ b2) (h02 : b2 ≠ b0) (h12 : b2 ≠ b1) (h0 : W.heap[b0]? = some (.cells #[.int .u8 cls, .int .u8 typ, .int .u64 tag, .nilIface, .slice none 0 0, .pointer (some ⟨b1, 0, none⟩), .slice (some ⟨b2, 0, none⟩) 0 2, .string ⟨#[]⟩] T (0, 0)))
    (h1 : W.heap[b1]? = some (.cells #[.slice none 0 0, .int .i64 0, .int .i8 0] TB (0, 0))) (h2 : W.heap[b2]? = some (.cells #[.pointer none, .pointer none] TP (0, 0))) :
    IsPk W base (fun _ => True) b0 (bare cls typ tag .nilIface ⟨#[]⟩) := by
  refine mk_M ⟨rfl, b0, b1, .slice none 0 0, .slice none 0 0, .slice (some ⟨b2, 0, none⟩) 0 2, 0, rfl, ⟨trivial, hb0⟩, ⟨trivial, hb1⟩, h0, h1, Kd.R_nil _ _ _ _ _, Kd.R_nil _ _ _ _ _, ?_, [], ?_, Reps.none _ _⟩
  · intro k hk
    simp [Value.ownBlock] at hk
    subst hk
    exact ⟨trivial, h02, h12, by simp [Value.ownBlock]⟩
  · exact ⟨rfl, .inr ⟨b2, 2, _, rfl, hb2, h2, by simp [bare], by unfold maxLen; omega, rfl, rfl⟩⟩
end Go.Proofs.YtejbpbdlolehnaaDoor.Ber
namespace Go.Proofs.YtejbpbdlolehnaaDoor.Ber
open Go.RowKit Go.Proofs.YtejbpbdlolehnaaDoorW.PrintWords Go.Proofs.YtejbpbdlolehnaaDoorW.PrintLast Go.Proofs.YtejbpbdlolehnaaDoor.Buf Go.Proofs.YtejbpbdlolehnaaDoor.Pk Go.Proofs.YtejbpbdlolehnaaDoor.Tree Go.Proofs.YtejbpbdlolehnaaDoor.Num Go.Proofs.YtejbpbdlolehnaaDoor.Ident Go.Proofs.YtejbpbdlolehnaaDoor.PFnEncode
set_option linter.unusedVariables false
set_option linter.unusedSimpArgs false

set_option maxHeartbeats 6400000 in
set_option maxRecDepth 100000 in
theorem limReader_any (n : Int) (T : Nat) (r : Value) (w : World) : Calls Tryd.prog 42 #[.iface T r, .int .i64 n] w fun e w' => e = .returned (.iface 108 (.pointer (some ⟨w.heap.size, 0, none⟩))) ∧ w' = w.alloc (.cells #[.iface T r, .int .i64 n] 110) := by
  go_enter Tryd.func42, Tryd.ntmps42
  go_wp2
  go_ret
  exact ⟨rfl, rfl⟩
set_option maxHeartbeats 6400000 in
set_option maxRecDepth 100000 in
theorem decStr_any (xs : List Int) (A : Option Addr) (c : Nat) (w : World) (hr : B8.C w A xs.length xs) : Calls Tryd.prog 45 #[.slice A xs.length c] w fun e w' => e = .returned (.string (strOfNums xs)) ∧ w' = w := by
  have hcv : (convert 22 9 (.slice A xs.length c)).run Tryd.prog w = .ok (.string (strOfNums xs)) w := Kd.C_string Tryd.underlying22 Tryd.underlying5 Tryd.underlying9 hr
  clear hr
  go_enter Tryd.func45, Tryd.ntmps45
  go_wp2
  go_ret
  exact ⟨rfl, rfl⟩
set_option maxHeartbeats 6400000 in
set_option maxRecDepth 100000 in
theorem isEOC_any {base : Nat} {ok : Nat → Prop} {b db : Nat} {v bv cv : Value} (x : Pk) (w : World) (P : Parts w base ok b x db v bv cv) (h : x.tag ≠ 0 ∨ x.cls ≠ 0 ∨ x.typ ≠ 0) :
    Calls Tryd.prog 38 #[.pointer (some ⟨b, 0, none⟩)] w fun e w' => e = .returned (.bool false) ∧ w' = w := by
  have c0 : w.cell? ⟨b, 0, none⟩ = some (.int .u8 x.cls) := P.cell 0
  have c1 : w.cell? ⟨b, 1, none⟩ = some (.int .u8 x.typ) := P.cell 1
  have c2 : w.cell? ⟨b, 2, none⟩ = some (.int .u64 x.tag) := P.cell 2
  clear P
  by_cases h0 : x.tag = 0
  · have e0 : (x.tag == 0) = true := by simp [h0]
    by_cases h1 : x.cls = 0
    · have e1 : (x.cls == 0) = true := by simp [h1]
      have e2 : (x.typ == 0) = false := by
        have : x.typ ≠ 0 := by rcases h with h | h | h; exact absurd h0 h; exact absurd h1 h; exact h
        simpa using this
      clear h h0 h1
      go_enter Tryd.func38, Tryd.ntmps38
      go_wp2
      go_ret
      exact ⟨rfl, rfl⟩
    · have e1 : (x.cls == 0) = false := by simpa using h1
      clear h h0 h1
      go_enter Tryd.func38, Tryd.ntmps38
      go_wp2
      go_ret
      exact ⟨rfl, rfl⟩
  · have e0 : (x.tag == 0) = false := by simpa using h0
    clear h h0
    go_enter Tryd.func38, Tryd.ntmps38
    go_wp2
    go_ret
    exact ⟨rfl, rfl⟩
end Go.Proofs.YtejbpbdlolehnaaDoor.Ber
namespace Go.Proofs.YtejbpbdlolehnaaDoor.Ber
open Go.RowKit Go.Proofs.YtejbpbdlolehnaaDoorW.PrintWords Go.Proofs.YtejbpbdlolehnaaDoorW.PrintLast Go.Proofs.YtejbpbdlolehnaaDoor.Buf Go.Proofs.YtejbpbdlolehnaaDoor.Pk Go.Proofs.YtejbpbdlolehnaaDoor.Tree Go.Proofs.YtejbpbdlolehnaaDoor.Num Go.Proofs.YtejbpbdlolehnaaDoor.Ident Go.Proofs.YtejbpbdlolehnaaDoor.PFnEncode
set_option linter.unusedVariables false
set_option linter.unusedSimpArgs false

section
variable {T F : Nat} {r : Value} {g B : Nat} {va ua : Addr} {Q : World → List Int → Prop}
/-- what readPacket leaves -/
def Rdd (g : Nat) (va ua : Addr) (Q : World → List Int → Prop) (W : World) (l : List Int) (n : Nat) (x : S29) (e : Ending) (w' : World) : Prop :=
  (n ≤ l.length → ∃ b, e = .returned (.tuple #[.pointer (some ⟨b, 0, none⟩), .int .i64 n, .nilIface]) ∧ IsPk w' W.heap.size (fun _ => True) b (rdPk x) ∧ Q w' (l.drop n)) ∧
  (l.length < n → (∃ q v, e = .returned (.tuple #[.pointer none, .int .i64 q, (.iface 104 (.pointer (some v)))]) ∧ (v = va ∨ v = ua)) ∧ Q w' []) ∧ Only (fun i => i = g) W w'
theorem laid_pk (W1 : World) (cl ty b : Int) {W2 : World} (hW2 : W2 = (((W1.alloc (.cells #[.int .u8 cl, .int .u8 ty, .int .u64 b] 69)).alloc (.cells #[.int .u8 cl, .int .u8 ty, .int .u64 b, .nilIface, .slice none 0 0, .pointer (some ⟨W1.heap.size + 1 + 1, 0, none⟩), .slice (some ⟨W1.heap.size + 1 + 1 + 1, 0, none⟩) 0 2, .string ⟨#[]⟩] 73)).alloc
        (.cells #[.slice none 0 0, .int .i64 0, .int .i8 0] 81)).alloc (.cells #[.pointer none, .pointer none] 50)) :
    Below W1.heap.size W1 W2 ∧ IsPk W2 W1.heap.size (fun _ => True) (W1.heap.size + 1) (bare cl ty b .nilIface ⟨#[]⟩) := by
  obtain ⟨A, hA⟩ : ∃ A : World, A = W1.alloc (.cells #[.int .u8 cl, .int .u8 ty, .int .u64 b] 69) := ⟨_, rfl⟩
  have hs : A.heap.size = W1.heap.size + 1 := by rw [hA]; simp
  rw [← hA, ← hs] at hW2
  rw [← hs]
  obtain ⟨C1, hC1⟩ : ∃ C1 : World, C1 = A.alloc (.cells #[.int .u8 cl, .int .u8 ty, .int .u64 b, .nilIface, .slice none 0 0, .pointer (some ⟨A.heap.size + 1, 0, none⟩), .slice (some ⟨A.heap.size + 1 + 1, 0, none⟩) 0 2, .string ⟨#[]⟩] 73) := ⟨_, rfl⟩
  have g1 : C1.heap[A.heap.size]? = some (.cells #[.int .u8 cl, .int .u8 ty, .int .u64 b, .nilIface, .slice none 0 0, .pointer (some ⟨A.heap.size + 1, 0, none⟩), .slice (some ⟨A.heap.size + 1 + 1, 0, none⟩) 0 2, .string ⟨#[]⟩] 73 (0, 0)) := by rw [hC1]; exact blk_new _ _
  have hs1 : C1.heap.size = A.heap.size + 1 := by rw [hC1]; simp
  rw [← hC1] at hW2
  obtain ⟨C2, hC2⟩ : ∃ C2 : World, C2 = C1.alloc (.cells #[.slice none 0 0, .int .i64 0, .int .i8 0] 81) := ⟨_, rfl⟩
  have g2 : C2.heap[A.heap.size + 1]? = some (.cells #[.slice none 0 0, .int .i64 0, .int .i8 0] 81 (0, 0)) := by rw [← hs1, hC2]; exact blk_new _ _
  have hs2 : C2.heap.size = A.heap.size + 1 + 1 := by rw [hC2]; simp [hs1]
  rw [← hC2] at hW2
  have g3 : W2.heap[A.heap.size + 1 + 1]? = some (.cells #[.pointer none, .pointer none] 50 (0, 0)) := by rw [← hs2, hW2]; exact blk_new _ _
  have bl1 : Below A.heap.size A C1 := by rw [hC1]; exact below_alloc (Below.refl _ _) _
  have bl2 : Below C1.heap.size C1 C2 := by rw [hC2]; exact below_alloc (Below.refl _ _) _
  have bl3 : Below C2.heap.size C2 W2 := by rw [hW2]; exact below_alloc (Below.refl _ _) _
  have bl0 : Below W1.heap.size W1 A := by rw [hA]; exact below_alloc (Below.refl _ _) _
  refine ⟨((bl0.trans (bl1.mono (by omega))).trans (bl2.mono (by omega))).trans (bl3.mono (by omega)), ?_⟩
  exact bare_pk cl ty b (by omega) (by omega) (by omega) (by omega) (by omega) (blk_below (blk_below g1 bl2) bl3) (blk_below g2 bl3) g3
set_option maxHeartbeats 6400000 in
set_option maxRecDepth 100000 in
theorem readPk_fail (R : RdSpec T F r g B va ua Q) (a b : Int) (c : Bool) (dd : List Int) (ks : List S29) (hkp : kp ⟨a, b, c, dd, ks⟩) (hgood : good ⟨a, b, c, dd, ks⟩ = true) (hts : tsize ⟨a, b, c, dd, ks⟩ ≤ 1000000) (W : World) (l m : List Int) (k nn : Nat) (depth : Int) (hQ : Q W l) (hB : B ≤ W.heap.size) (hh : hdrB (l ++ m) = some (a, c, b, (nn : Int), k)) (hkn : k + nn ≤ (l ++ m).length) (hx : ∀ y ∈ l ++ m, 0 ≤ y ∧ y < 256) (hlm : (l ++ m).length ≤ 1000000) (h0 : 0 ≤ depth) (h1000 : depth < 1000) (hk : ¬ k ≤ l.length) :
    Calls Tryd.prog 32 #[.iface T r, .int .i64 depth] W (Rdd g va ua Q W l (k + nn) ⟨a, b, c, dd, ks⟩) := by
    have hall := hdrB_all hh hx
    simp only at hall
    have HH := header_any R W l m a b (nn : Int) c k hQ hB hh hx
    obtain ⟨n2, hn2⟩ : ∃ n2 : Int, n2 = (nn : Int) := ⟨_, rfl⟩
    obtain ⟨k2, hk2⟩ : ∃ k2 : Int, k2 = (k : Int) := ⟨_, rfl⟩
    rw [← hn2, ← hk2] at HH
    have hkl := (hdrB_app [] hh).2.2
    simp only at hkl
    have hn0 : 0 ≤ n2 := by omega
    have hn1 : n2 ≤ 1000000 := by omega
    have hk0 : 0 ≤ k2 := by omega
    have hk1 : k2 ≤ 1000000 := by omega
    have hde : decide (depth ≥ 1000) = false := decide_eq_false (by omega)
    have hde2 : decide (1000 ≤ depth) = false := decide_eq_false (by omega)
    have hne : (n2 != -1) = true := by simp; omega
    have hnq : (n2 == -1) = false := by simp; omega
    have hnm2 : decide (2147483647 < n2) = false := decide_eq_false (by omega)
    have hde9 : depth ≤ 1000 := by omega
    obtain ⟨ty, hty⟩ : ∃ ty : Int, ty = if c = true then 32 else 0 := ⟨_, rfl⟩
    obtain ⟨cl, hcl⟩ : ∃ cl : Int, cl = a * 64 := ⟨_, rfl⟩
    rw [← hty, ← hcl] at HH
    have HHX : Hid (Calls Tryd.prog 36 #[.iface T r] W fun e w' => ∃ q v, e = .returned (.tuple #[.agg #[.int .u8 0, .int .u8 0, .int .u64 0], .int .i64 0, .int .i64 q, (.iface 104 (.pointer (some v)))]) ∧ (v = va ∨ v = ua) ∧ Q w' [] ∧ Only (fun i => i = g) W w') := Lib.hid (by
      refine HH.mono ?_
      rintro e w' ⟨_, h1, ho⟩
      obtain ⟨⟨q, v, he, hv⟩, hq⟩ := h1 (by omega)
      exact ⟨q, v, he, hv, hq, ho⟩)
    have HKL := Lib.hid hk
    have HR := Lib.hid R
    have HB := Lib.hid hB
    clear HH hh R hx hkp hQ hall hn2 hk2 hty hcl hk hB hgood hts hlm hkl
    go_enter Tryd.func32, Tryd.ntmps32
    go_wp2_with (go_at_call 36
                 with_reducible refine HHX.out.mono ?_
                 rintro e W1 ⟨q, v, rfl, hv, hQ1, hO1⟩
                 have HQ1 := Lib.hid hQ1
                 have HO1 := Lib.hid hO1
                 have HV := Lib.hid hv
                 clear hQ1 hO1 hv)
    go_ret3
    exact ⟨fun h => absurd h (by have := HKL.out; omega), fun _ => ⟨⟨_, v, rfl, HV.out⟩, HR.out.keep W1 _ _ HQ1.out (fun i hi => Below.heap_alloc W1 _ i (by have h1 := HO1.out.size; have h2 := HB.out; omega))⟩, HO1.out.alloc _⟩
set_option maxHeartbeats 6400000 in
set_option maxRecDepth 100000 in
theorem readPk_cons (d : Nat) (ih : ∀ (x : S29), dpx x ≤ d → kp x → good x = true → tsize x ≤ 1000000 → ∀ (W : World) (l m : List Int) (n : Nat) (depth : Int), Q W l → B ≤ W.heap.size → Par (l ++ m) x n → (∀ y ∈ l ++ m, 0 ≤ y ∧ y < 256) → (l ++ m).length ≤ 1000000 → 0 ≤ depth → depth + d ≤ 1000 →
      Calls Tryd.prog 32 #[.iface T r, .int .i64 depth] W (Rdd g va ua Q W l n x)) (R : RdSpec T F r g B va ua Q) (a b : Int)  (ks : List S29) (hkp : kp ⟨a, b, true, [], ks⟩) (hgood : good ⟨a, b, true, [], ks⟩ = true) (hts : tsize ⟨a, b, true, [], ks⟩ ≤ 1000000) (W : World) (l m : List Int) (k nn : Nat) (depth : Int) (hQ : Q W l) (hB : B ≤ W.heap.size) (hh : hdrB (l ++ m) = some (a, true, b, (nn : Int), k)) (hkn : k + nn ≤ (l ++ m).length) (hx : ∀ y ∈ l ++ m, 0 ≤ y ∧ y < 256) (hlm : (l ++ m).length ≤ 1000000) (h0 : 0 ≤ depth) (h1000 : depth < 1000) (hdp : dpxL ks ≤ d) (hdd : depth + 1 + d ≤ 1000) (hpl : ParL (((l ++ m).drop k).take nn) ks) (hk : k ≤ l.length) :
    Calls Tryd.prog 32 #[.iface T r, .int .i64 depth] W (Rdd g va ua Q W l (k + nn) ⟨a, b, true, [], ks⟩) := by
    have hall := hdrB_all hh hx
    simp only at hall
    have HH := header_any R W l m a b (nn : Int) true k hQ hB hh hx
    obtain ⟨n2, hn2⟩ : ∃ n2 : Int, n2 = (nn : Int) := ⟨_, rfl⟩
    obtain ⟨k2, hk2⟩ : ∃ k2 : Int, k2 = (k : Int) := ⟨_, rfl⟩
    rw [← hn2, ← hk2] at HH
    have hkl := (hdrB_app [] hh).2.2
    simp only at hkl
    have hn0 : 0 ≤ n2 := by omega
    have hn1 : n2 ≤ 1000000 := by omega
    have hk0 : 0 ≤ k2 := by omega
    have hk1 : k2 ≤ 1000000 := by omega
    have hde : decide (depth ≥ 1000) = false := decide_eq_false (by omega)
    have hde2 : decide (1000 ≤ depth) = false := decide_eq_false (by omega)
    have hne : (n2 != -1) = true := by simp; omega
    have hnq : (n2 == -1) = false := by simp; omega
    have hnm2 : decide (2147483647 < n2) = false := decide_eq_false (by omega)
    have hde9 : depth ≤ 1000 := by omega
    obtain ⟨ty, hty⟩ : ∃ ty : Int, ty = 32 := ⟨_, rfl⟩
    obtain ⟨cl, hcl⟩ : ∃ cl : Int, cl = a * 64 := ⟨_, rfl⟩
    rw [if_pos rfl, ← hty, ← hcl] at HH
    have HHX : Hid (Calls Tryd.prog 36 #[.iface T r] W fun e w' => e = .returned (.tuple #[.agg #[.int .u8 cl, .int .u8 ty, .int .u64 b], .int .i64 n2, .int .i64 k2, .nilIface]) ∧ Q w' (l.drop k) ∧ Only (fun i => i = g) W w') := Lib.hid (by
      refine HH.mono ?_
      rintro e w' ⟨h1, _, ho⟩
      obtain ⟨he, hq⟩ := h1 hk
      exact ⟨he, hq, ho⟩)
    have hmk := mk_kids2
    have HR := Lib.hid R
    have HXX := Lib.hid hx
    have HHH := Lib.hid hh
    have HALL := Lib.hid hall
    have HN2 := Lib.hid hn2
    have HK2 := Lib.hid hk2
    have HTY := Lib.hid hty
    have HCL := Lib.hid hcl
    have HKL := Lib.hid hk
    have HB := Lib.hid hB
    have HGD := Lib.hid hgood
    have HTS := Lib.hid hts
    have HLM := Lib.hid hlm
    have HKP := Lib.hid hkp
    have HIH := Lib.hid ih
    have HPL := Lib.hid hpl
    have HDP := Lib.hid (And.intro hdp hdd)
    have HKN := Lib.hid hkn
    clear ih hpl hdp hdd hkn
    clear HH hh R hx hkp hQ hall hn2 hk2 hty hcl hk hB hgood hts hlm hkl
    go_enter Tryd.func32, Tryd.ntmps32
    go_upto_region 12 with (go_at_call 36
                            with_reducible refine HHX.out.mono ?_
                            rintro e W1 ⟨rfl, hQ1, hO1⟩
                            have HQ1 := Lib.hid hQ1
                            have HO1 := Lib.hid hO1
                            clear hQ1 hO1)
    obtain ⟨W2, hW2⟩ : ∃ W2, W2 = (((W1.alloc (.cells #[.int .u8 cl, .int .u8 ty, .int .u64 b] 69)).alloc (.cells #[.int .u8 cl, .int .u8 ty, .int .u64 b, .nilIface, .slice none 0 0, .pointer (some ⟨W1.heap.size + 1 + 1, 0, none⟩), .slice (some ⟨W1.heap.size + 1 + 1 + 1, 0, none⟩) 0 2, .string ⟨#[]⟩] 73)).alloc
        (.cells #[.slice none 0 0, .int .i64 0, .int .i8 0] 81)).alloc (.cells #[.pointer none, .pointer none] 50) := ⟨_, rfl⟩
    obtain ⟨hb12, hI2⟩ := laid_pk W1 cl ty b hW2
    obtain ⟨p, hp⟩ : ∃ p, p = W1.heap.size + 1 := ⟨_, rfl⟩
    rw [← hp] at hI2
    rw [← hW2]
    rw [← hp]
    have hs1 := HO1.out.size
    have HI2 : Hid (IsPk W2 W.heap.size (fun _ => True) p (bare cl ty b .nilIface ⟨#[]⟩)) := Lib.hid (hI2.lower hs1)
    have HO2 : Hid (Only (fun i => i = g) W W2) := Lib.hid (HO1.out.trans (Only.of_below (fun i => i = g) hb12) (fun i _ h => h))
    have HQ2 : Hid (Q W2 (l.drop k)) := Lib.hid (HR.out.keep W1 W2 _ HQ1.out (fun i hi => hb12.block i (Nat.lt_of_lt_of_le hi (Nat.le_trans HB.out hs1))))
    have c1 : W2.cell? ⟨p, 1, none⟩ = some (.int .u8 ty) := by
      obtain ⟨db, v, bv, cv, P⟩ := parts_of HI2.out
      exact P.cell 1
    clear hb12 hI2 hp hW2 HQ1 HO1 hs1
    have e32 : (ty == 32) = true := by rw [HTY.out]; rfl
    have HE : Hid (∀ W' v, v = va ∨ v = ua → Q W' [] → Calls Tryd.prog 37 #[(.iface 104 (.pointer (some v)))] W' fun e w' => e = .returned (.iface 104 (.pointer (some ua))) ∧ w' = W') := Lib.hid (fun W' v hv h => by
      rcases hv with rfl | rfl
      · exact eof_turn _ ua W' (HR.out.eof _ _ h) (HR.out.ueof _ _ h)
      · exact ueof_turn va _ W' (HR.out.eof _ _ h) (HR.out.ueof _ _ h) (HR.out.eofb _ _ h).1 (HR.out.eofb _ _ h).2)
    go_wp2
    go_loopw [9, 12] (fun rd cr wr => ∃ (j : Nat) (c q : Int) (pos : Nat), rd = .int .i64 q ∧ cr = .int .i64 c ∧ q = k2 + c ∧ c = (pos : Int) ∧ j ≤ ks.length ∧ Hid (pos ≤ nn ∧ k + pos ≤ l.length ∧ ParL ((((l ++ m).drop k).take nn).drop pos) (ks.drop j) ∧ Q wr (l.drop (k + pos)) ∧ IsPk wr W.heap.size (fun _ => True) p (sofar cl b (ks.take j)) ∧ Only (fun i => i = g) W wr)) (fun _ cr _ => nn + 1 - (intOf cr).toNat)
    case atStart =>
      refine ⟨0, 0, k2, 0, rfl, rfl, by omega, rfl, Nat.zero_le _, Lib.hid ⟨Nat.zero_le _, HKL.out, HPL.out, HQ2.out, ?_, HO2.out⟩⟩
      have h := HI2.out
      rw [HTY.out] at h
      exact h
    case round =>
      obtain ⟨j, c, q, pos, rfl, rfl, hq, hc, hj, HP⟩ := hrel
      obtain ⟨hpn, hkp, hpar, hqq, hpk, hon⟩ := HP.out
      have HQQ := Lib.hid hq
      have HCC := Lib.hid hc
      have hlr : ((((l ++ m).drop k).take nn).drop pos).length = nn - pos := by
        have := HKN.out
        rw [List.length_drop, List.length_take, List.length_drop]
        omega
      have hc0 : 0 ≤ c := by omega
      have hc1 : c ≤ 1000000 := by have := HN2.out; omega
      have hq0 : 0 ≤ q := by omega
      have hq1 : q ≤ 2000000 := by omega
      clear HI2 HQ2 HO2 c1 HHX hq
      by_cases hj2 : j < ks.length
      · rw [List.drop_eq_getElem_cons hj2] at hpar
        obtain ⟨n1, hP1, hPs⟩ := hpar.inv
        obtain ⟨y, hy⟩ : ∃ y, y = ks[j] := ⟨_, rfl⟩
        rw [← hy] at hP1
        have hn1l := hP1.len
        rw [hlr] at hn1l
        have hd1 : (c == n2) = false := by have := HN2.out; simp; omega
        have hd2 : decide (n2 < c) = false := decide_eq_false (by have := HN2.out; omega)
        have hPc : Par (l.drop (k + pos) ++ m) y n1 := by
          have h1 := hP1.app (((l ++ m).drop (k + pos)).drop (nn - pos))
          rw [List.drop_take, List.drop_drop, List.take_append_drop, List.drop_append_of_le_length hkp] at h1
          exact h1
        have hbs : ∀ y ∈ l.drop (k + pos) ++ m, 0 ≤ y ∧ y < 256 := fun z hz => HXX.out z (by
          rcases List.mem_append.1 hz with h | h
          · exact List.mem_append_left _ (List.mem_of_mem_drop h)
          · exact List.mem_append_right _ h)
        have hmem : y ∈ ks := by rw [hy]; exact List.getElem_mem hj2
        have htx := par_topx hPc hbs
        have hkj : kp y := kpL_mem (by have h := HKP.out; rw [kp] at h; exact h.2.2) hmem
        have hgj := good_kid HGD.out hmem
        have htj : tsize y ≤ 1000000 := Nat.le_trans (tsizeL_mem hmem) (by have h := HTS.out; rw [tsize] at h; omega)
        have HCH := HIH.out y (Nat.le_trans (dpxL_mem hmem) HDP.out.1) hkj hgj htj wr (l.drop (k + pos)) m n1 (depth + 1) hqq (Nat.le_trans HB.out hon.size) hPc hbs (by have := HLM.out; rw [List.length_append] at this ⊢; rw [List.length_drop]; omega) (by omega) HDP.out.2
        obtain ⟨t, ht⟩ : ∃ t : Int, t = (n1 : Int) := ⟨_, rfl⟩
        have ht0 : 0 ≤ t := by omega
        have ht1 : t ≤ 1000000 := by have := HN2.out; omega
        have hd3 : decide (2147483647 < c + t) = false := decide_eq_false (by omega)
        have HTT := Lib.hid ht
        have HWR : Hid (wr.heap.size ≤ wr.heap.size ∧ W.heap.size ≤ wr.heap.size) := Lib.hid ⟨Nat.le_refl _, hon.size⟩
        have HGB : Hid (g < W.heap.size) := Lib.hid (Nat.lt_of_lt_of_le HR.out.lt HB.out)
        by_cases hw : n1 ≤ (l.drop (k + pos)).length
        · have hw2 : k + (pos + n1) ≤ l.length := by rw [List.length_drop] at hw; omega
          have HX : Hid (Calls Tryd.prog 32 #[.iface T r, .int .i64 (depth + 1)] wr fun e w' => ∃ bc, e = .returned (.tuple #[.pointer (some ⟨bc, 0, none⟩), .int .i64 t, .nilIface]) ∧ IsPk w' wr.heap.size (fun _ => True) bc (rdPk y) ∧ Q w' (l.drop (k + (pos + n1))) ∧ IsPk w' W.heap.size (fun i => i < wr.heap.size) p (sofar cl b (ks.take j)) ∧ Only (fun i => i = g) W w' ∧ wr.heap.size ≤ w'.heap.size) := Lib.hid (by
            refine HCH.mono ?_
            rintro e w' ⟨h1, _, ho⟩
            obtain ⟨bc, he, hi, hq⟩ := h1 hw
            rw [List.drop_drop, Nat.add_assoc] at hq
            rw [ht]
            exact ⟨bc, he, hi, hq, (hpk.bound.only ho (fun i h1 h2 => by have h3 := HGB.out; have h4 := h1.2.1; omega)).mono (fun i h => h.2.2), hon.trans ho (fun i _ h => h), ho.size⟩)
          have HEOC : Hid (∀ w bc, IsPk w wr.heap.size (fun _ => True) bc (rdPk y) → Calls Tryd.prog 38 #[.pointer (some ⟨bc, 0, none⟩)] w fun e w' => e = .returned (.bool false) ∧ w' = w) := Lib.hid (fun w bc hi => by
            obtain ⟨db, v, bv, cv, P⟩ := parts_of hi
            exact isEOC_any _ w P (kp_noEOC hkj))
          have hsmall := rd_small hgj htj
          have hsf : Top (sofar cl b (ks.take j)) 20000000 := by
            have h1 := HALL.out
            have h2 := bytesT_le _ HGD.out (by have := HTS.out; omega)
            have h3 : ks = ks.take j ++ ks.drop j := (List.take_append_drop j ks).symm
            have h4 : (bytesL ks).length = (bytesL (ks.take j)).length + (bytesL (ks.drop j)).length := by
              conv => lhs; rw [h3]
              rw [bytesL_append, List.length_append]
            have h5 := HTS.out
            rw [bytesT] at h2
            simp only [List.length_append, List.nil_append] at h2
            have h6 := len_le_tsB ks
            rw [tsize] at h5 h2
            refine ⟨by show 0 ≤ cl; have := HCL.out; omega, by show cl ≤ 192; have := HCL.out; omega, by show cl % 64 = 0; have := HCL.out; omega, .inr rfl, h1.2.2.1, h1.2.2.2.1, by show (bytesL (ks.take j)).length ≤ _; omega, by show (rdL (ks.take j)).length ≤ _; rw [rdL_length, List.length_take]; omega⟩
          have HAPP : Hid (∀ w bc, IsPk w W.heap.size (fun i => i < wr.heap.size) p (sofar cl b (ks.take j)) → IsPk w wr.heap.size (fun _ => True) bc (rdPk y) → wr.heap.size ≤ w.heap.size → Calls Tryd.prog 40 #[.pointer (some ⟨p, 0, none⟩), .pointer (some ⟨bc, 0, none⟩)] w fun e w' => (∃ u, e = .returned u) ∧ IsPk w' W.heap.size (fun _ => True) p (sofar cl b (ks.take (j + 1))) ∧ Below W.heap.size w w') := Lib.hid (fun w bc h1 h2 h3 => by
            rw [List.take_succ_eq_append_getElem hj2, ← hy, ← sofar_add cl b _ htx]
            exact app_two h1 h2 HWR.out.2 h3 hsf (rd_top htx hsmall.1 hsmall.2) (by omega) (by omega))
          have HNX : Hid (pos + n1 ≤ nn ∧ k + (pos + n1) ≤ l.length ∧ ParL ((((l ++ m).drop k).take nn).drop (pos + n1)) (ks.drop (j + 1))) := Lib.hid ⟨by omega, hw2, by rw [← List.drop_drop]; exact hPs⟩
          have HJ2 := Lib.hid hj2
          have HPN : Hid (pos + n1 ≤ nn ∧ 2 ≤ n1) := Lib.hid ⟨by omega, hn1l.1⟩
          clear hy hj2 hj hpn hkp hpar hqq hpk hon hlr hP1 hPs hn1l hPc hbs hmem htx hkj hgj htj HCH ht hw hw2 hsmall hsf hc HP
          go_wp2_with (first
            | (go_at_call 32
               with_reducible refine HX.out.mono ?_
               rintro e W6 ⟨bc, rfl, hC6, hQ6, hP6, hO6, hs6⟩
               have HC6 := Lib.hid hC6
               have HQ6 := Lib.hid hQ6
               have HP6 := Lib.hid hP6
               have HO6 := Lib.hid (And.intro hO6 hs6)
               clear hC6 hQ6 hP6 hO6 hs6)
            | (go_at_call 38
               with_reducible refine (HEOC.out W6 bc HC6.out).mono ?_
               rintro e W7 ⟨rfl, rfl⟩)
            | (go_at_call 40
               with_reducible refine (HAPP.out W7 bc HP6.out HC6.out HO6.out.2).mono ?_
               rintro e W8 ⟨⟨u, rfl⟩, hP8, hB8⟩
               have HP8 := Lib.hid hP8
               have HB8 := Lib.hid hB8
               clear hP8 hB8))
          refine ⟨⟨j + 1, c + t, q + t, pos + n1, rfl, rfl, by have := HQQ.out; omega, by have h1 := HCC.out; have h2 := HTT.out; push_cast; omega, HJ2.out, Lib.hid ⟨HNX.out.1, HNX.out.2.1, HNX.out.2.2, HR.out.keep W7 W8 _ HQ6.out (fun i hi => HB8.out.block i (Nat.lt_of_lt_of_le hi HB.out)), HP8.out, ?_⟩⟩, ?_⟩
          · exact HO6.out.1.trans (S' := fun i => W.heap.size ≤ i) ⟨HB8.out.os, HB8.out.tape, HB8.out.output, HB8.out.size, fun i _ hn => HB8.out.block i (Nat.lt_of_not_le hn)⟩ (fun i hi h => absurd h (Nat.not_le.2 hi))
          · simp only [intOf]
            have h1 := HCC.out; have h2 := HTT.out; have h3 := HPN.out
            omega
        · have HX : Hid (Calls Tryd.prog 32 #[.iface T r, .int .i64 (depth + 1)] wr fun e w' => ∃ q v, e = .returned (.tuple #[.pointer none, .int .i64 q, (.iface 104 (.pointer (some v)))]) ∧ (v = va ∨ v = ua) ∧ Q w' [] ∧ Only (fun i => i = g) W w') := Lib.hid (by
            refine HCH.mono ?_
            rintro e w' ⟨_, h1, ho⟩
            obtain ⟨⟨q, v, he, hv⟩, hq⟩ := h1 (by omega)
            exact ⟨q, v, he, hv, hq, hon.trans ho (fun i _ h => h)⟩)
          have HCUT : Hid (l.length < k + nn) := Lib.hid (by rw [List.length_drop] at hw; omega)
          clear hy hj2 hj hpn hkp hpar hqq hpk hon hlr hP1 hPs hn1l hPc hbs hmem htx hkj hgj htj HCH ht hw hc HP
          go_wp2_with (first
            | (go_at_call 32
               with_reducible refine HX.out.mono ?_
               rintro e W6 ⟨qc, vc, rfl, hV6, hQ6, hO6⟩
               have HV6 := Lib.hid hV6
               have HQ6 := Lib.hid hQ6
               have HO6 := Lib.hid hO6
               clear hQ6 hV6 hO6)
            | (go_at_call 37
               with_reducible refine (HE.out W6 _ HV6.out HQ6.out).mono ?_
               rintro e W7 ⟨rfl, rfl⟩))
          go_ret3
          exact ⟨fun h => absurd h (by have := HCUT.out; omega), fun _ => ⟨⟨q, ua, rfl, .inr rfl⟩, HQ6.out⟩, HO6.out⟩
      · obtain rfl : j = ks.length := by omega
        have hrest := hpar
        rw [List.drop_length] at hrest
        have hr0 := hrest.eq_nil
        rw [hr0, List.length_nil] at hlr
        have hpe : pos = nn := by omega
        have hd1 : (c == n2) = true := by have := HN2.out; simp; omega
        have HF : Hid (q = ((k + nn : Nat) : Int) ∧ k + nn ≤ l.length) := Lib.hid ⟨by have h1 := HQQ.out; have h2 := HK2.out; push_cast; omega, by omega⟩
        have HPK := Lib.hid hpk
        have HON := Lib.hid hon
        have HQF : Hid (Q wr (l.drop (k + nn))) := Lib.hid (by rw [← hpe]; exact hqq)
        clear hrest hr0 hlr hpe hj hj2 hpn hkp hpar hqq hpk hon hc HP
        go_wp2
        go_ret3
        have e := HF.out.1
        refine ⟨fun _ => ⟨p, by show Ending.returned (.tuple #[.pointer (some ⟨p, 0, none⟩), .int .i64 q, .nilIface]) = _; rw [e], ?_, HQF.out⟩, fun h => absurd h (by have := HF.out.2; omega), HON.out⟩
        have h := HPK.out
        rw [List.take_length, sofar, HCL.out] at h
        rw [rdPk]
        exact h
end
end Go.Proofs.YtejbpbdlolehnaaDoor.Ber
