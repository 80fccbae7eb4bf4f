/- Parts of the proof of one law, in the order in which they build. The kind of a *ber.Packet in memory: its struct, its Data buffer (only written), its children, in the print's framework of kinds. · ber.Encode with no value: a new packet without data. No condition. · Writing into a packet's Data: the packet with more data, everything else as it was. · ber.NewString: a packet whose data is the string. The string's length is at most Go's own limit. · Plain maths on packets as trees: what the laws' reading 'within' gives, which trees are proper, the bytes of a tree; and that the printed functions of the reference end at every tree. No program is walked here. · laws.within and laws.packet walked: a packet of the caller's is read as one of the reference (Tree.wi), its data shared, its kids made. · laws.packet and laws.answer walked: within at a room of their own. · laws.answer: the packet within 60 levels and 200000 bytes. -/
import Derived.Deep.DeepFit
import Derived.Handy
import Derived.Deep.RegionLaw
import Derived.Deep.DrawnRows
import Derived.Test.YtbmcpjkhnhbjdaaDoorProg
import Derived.Below
import Derived.Deep.Draws
import Derived.Deep.AppendLies
import Derived.Maps.AppendAt
import Derived.OwnWalk
import Derived.Laws.BytesArg
import Derived.Laws.MakeOwn
import Derived.Laws.OwnMore
import Derived.Deep.OwnRows
import Derived.Tactics
import Derived.Lib.ConvBytes
import Derived.Laws.Slices
import Derived.WalkKit
import Derived.KernelRfl
import Derived.RowKit3
import Derived.Deep.LoopGhost
import Derived.Deep.QuietTactic
import Derived.BigQuiet
import Derived.WideLaws
import Derived.Deep.DeepCutAuto
import Derived.Deep.CutBlock
import Derived.Deep.RegionHeld3
import Derived.Laws.Rows
import Derived.Lib.AppendStr
import Derived.ArgAppend
import Derived.Laws.IdiomCopy
import Derived.OrdersHeld
import Derived.Laws.BitsLemmas
import Derived.RowKit
import Derived.Test.YtbmcpjkhnhbjdaaDoorMsg1
import Derived.Test.YtbmcpjkhnhbjdaaDoorMsg2
import Derived.Test.YtbmcpjkhnhbjdaaDoorMsg3
import Derived.Test.YtbmcpjkhnhbjdaaDoorMsg4
namespace Go.Proofs.YtbmcpjkhnhbjdaaDoor.Pk
open Go.RowKit Go.Proofs.YtbmcpjkhnhbjdaaDoorW.PrintWords Go.Proofs.YtbmcpjkhnhbjdaaDoor.Buf
set_option linter.unusedVariables false
set_option linter.unusedSimpArgs false

/-- A packet as data: class, type, tag, the interface value, ByteValue, what Data holds, the children, the description. -/
structure Pk where
  cls : Int
  typ : Int
  tag : Int
  val : Value
  bv : List Int
  data : List Int
  kids : List Pk
  desc : ByteArray

abbrev T : Nat := 156
abbrev TB : Nat := 207
abbrev TP : Nat := 118
abbrev B8 : Kd Int := Kd.int .u8

/-- The struct's cells. -/
def cellsOf (x : Pk) (bv : Value) (db : Nat) (cv : Value) : Array Value :=
  #[.int .u8 x.cls, .int .u8 x.typ, .int .u64 x.tag, x.val, bv, .pointer (some ⟨db, 0, none⟩), cv, .string x.desc]

theorem int_own {k : IntKind} {e : Nat} {w : World} {base : Nat} {ok : Nat → Prop} {v : Value} {xs : List Int} (h : (Kd.int k).R e w base ok v xs) : w.ownsRow base e 1 v xs.length (nums k xs) := Kd.own_of_R h
theorem own_int {k : IntKind} {e : Nat} {w : World} {base : Nat} {ok : Nat → Prop} {v : Value} {xs : List Int} (h : w.ownsRow base e 1 v xs.length (nums k xs)) (hok : ∀ k, v.ownBlock = some k → ok k) : (Kd.int k).R e w base ok v xs := Kd.R_of_own h hok

/-- One packet, its children of kind 'rec': read (K), or the call's own (M): its blocks are ok, and the children's are none of its own. -/
def PkK (rec : Kd Pk) (w : World) (x : Pk) (cs : List Value) : Prop :=
  x.val.oneCell' = true ∧ ∃ b db lr A c Ab cb Ac cc, cs = [.pointer (some ⟨b, 0, none⟩)] ∧ w.heap[b]? = some (.cells (cellsOf x (.slice Ab x.bv.length cb) db (.slice Ac x.kids.length cc)) T (0, 0)) ∧
    w.heap[db]? = some (.cells #[.slice A x.data.length c, .int .i64 0, .int .i8 lr] TB (0, 0)) ∧ x.data.length ≤ c ∧ B8.C w A x.data.length x.data ∧ x.bv.length ≤ cb ∧ B8.C w Ab x.bv.length x.bv ∧
    x.kids.length ≤ cc ∧ rec.C w Ac x.kids.length x.kids

def PkM (rec : Kd Pk) (w : World) (base : Nat) (ok : Nat → Prop) (x : Pk) (cs : List Value) : Prop :=
  x.val.oneCell' = true ∧ ∃ b db v bv cv lr, cs = [.pointer (some ⟨b, 0, none⟩)] ∧ (ok b ∧ base ≤ b) ∧ (ok db ∧ base ≤ db) ∧ w.heap[b]? = some (.cells (cellsOf x bv db cv) T (0, 0)) ∧
    w.heap[db]? = some (.cells #[v, .int .i64 0, .int .i8 lr] TB (0, 0)) ∧ B8.R 5 w base ok v x.data ∧ B8.R 5 w base (fun k => ok k ∧ some k ≠ v.ownBlock) bv x.bv ∧
    rec.R TP w base (fun k => ok k ∧ k ≠ b ∧ k ≠ db ∧ some k ≠ v.ownBlock) cv x.kids

def E : List Nat := [T, TB, 5, TP]

def F (rec : Kd Pk) : Kd Pk where
  sz := 1
  E := T :: TB :: 5 :: TP :: rec.E
  K := PkK rec
  M := PkM rec
  K_len := by
    rintro w x cs ⟨_, b, db, lr, A, c, Ab, cb, Ac, cc, rfl, _⟩
    rfl
  K_one := by
    rintro w x cs ⟨_, b, db, lr, A, c, Ab, cb, Ac, cc, rfl, _⟩ u hu
    rw [List.mem_singleton.1 hu]
    rfl
  K_below := by
    rintro w w1 x cs hb ⟨hv, b, db, lr, A, c, Ab, cb, Ac, cc, rfl, h1, h2, h3, h4, h5, h6, h7, h8⟩
    exact ⟨hv, b, db, lr, A, c, Ab, cb, Ac, cc, rfl, blk_below h1 hb, blk_below h2 hb, h3, Kd.C_below h4 hb, h5, Kd.C_below h6 hb, h7, Kd.C_below h8 hb⟩
  K_of_M := by
    rintro w base ok x cs ⟨hv, b, db, v, bv, cv, lr, rfl, _, _, h3, h4, h5, h6, h7⟩
    obtain ⟨A, c, rfl, l1, g1⟩ := Kd.R_reads h5
    obtain ⟨Ab, cb, rfl, l2, g2⟩ := Kd.R_reads h6
    obtain ⟨Ac, cc, rfl, l3, g3⟩ := Kd.R_reads h7
    exact ⟨hv, b, db, lr, A, c, Ab, cb, Ac, cc, rfl, h3, h4, l1, g1, l2, g2, l3, g3⟩
  M_mono := by
    rintro w base ok ok' x cs hok ⟨hv, b, db, v, bv, cv, lr, rfl, ⟨a1, a2⟩, ⟨b1, b2⟩, h3, h4, h5, h6, h7⟩
    exact ⟨hv, b, db, v, bv, cv, lr, rfl, ⟨hok _ a1, a2⟩, ⟨hok _ b1, b2⟩, h3, h4, Kd.R_mono h5 hok, Kd.R_mono h6 (fun k hk => ⟨hok k hk.1, hk.2⟩), Kd.R_mono h7 (fun k hk => ⟨hok k hk.1, hk.2⟩)⟩
  M_bound := by
    rintro w base ok x cs ⟨hv, b, db, v, bv, cv, lr, rfl, ⟨a1, a2⟩, ⟨b1, b2⟩, h3, h4, h5, h6, h7⟩
    refine ⟨hv, b, db, v, bv, cv, lr, rfl, ⟨⟨a1, a2, blk_lt h3, T, List.mem_cons_self, _, h3⟩, a2⟩, ⟨⟨b1, b2, blk_lt h4, TB, List.mem_cons_of_mem _ List.mem_cons_self, _, h4⟩, b2⟩, h3, h4, ?_, ?_, ?_⟩
    · refine Kd.R_mono (Kd.R_bound h5) ?_
      rintro k ⟨k1, k2, k3, q, hq, kc⟩
      exact ⟨k1, k2, k3, q, by
        rcases List.mem_cons.1 hq with rfl | hq
        · simp
        · exact absurd hq (by simp [Kd.int, Kd.scalar]), kc⟩
    · refine Kd.R_mono (Kd.R_bound h6) ?_
      rintro k ⟨⟨k1, k1'⟩, k2, k3, q, hq, kc⟩
      exact ⟨⟨k1, k2, k3, q, by
        rcases List.mem_cons.1 hq with rfl | hq
        · simp
        · exact absurd hq (by simp [Kd.int, Kd.scalar]), kc⟩, k1'⟩
    · refine Kd.R_mono (Kd.R_bound h7) ?_
      rintro k ⟨⟨k1, k1'⟩, k2, k3, q, hq, kc⟩
      exact ⟨⟨k1, k2, k3, q, by
        rcases List.mem_cons.1 hq with rfl | hq
        · simp
        · simp [hq], kc⟩, k1'⟩
  M_move := by
    rintro w w1 base ok x cs hm ⟨hv, b, db, v, bv, cv, lr, rfl, ⟨a1, a2⟩, ⟨b1, b2⟩, h3, h4, h5, h6, h7⟩
    exact ⟨hv, b, db, v, bv, cv, lr, rfl, ⟨a1, a2⟩, ⟨b1, b2⟩, (hm b a1).trans h3, (hm db b1).trans h4, Kd.R_move h5 hm, Kd.R_move h6 (fun k hk => hm k hk.1), Kd.R_move h7 (fun k hk => hm k hk.1)⟩
  M_lower := by
    rintro w base base' ok x cs hb ⟨hv, b, db, v, bv, cv, lr, rfl, ⟨a1, a2⟩, ⟨b1, b2⟩, h3, h4, h5, h6, h7⟩
    exact ⟨hv, b, db, v, bv, cv, lr, rfl, ⟨a1, by omega⟩, ⟨b1, by omega⟩, h3, h4, Kd.R_lower h5 hb, Kd.R_lower h6 hb, Kd.R_lower h7 hb⟩

theorem monoF : Kd.Mono F := by
  refine ⟨fun _ _ _ => rfl, ?_, ?_⟩
  · rintro d d' hs h w x cs ⟨hv, b, db, lr, A, c, Ab, cb, Ac, cc, rfl, h1, h2, h3, h4, h5, h6, h7, h8⟩
    exact ⟨hv, b, db, lr, A, c, Ab, cb, Ac, cc, rfl, h1, h2, h3, h4, h5, h6, h7, Kd.C_imp hs h h8⟩
  · rintro d d' hs h w base ok x cs ⟨hv, b, db, v, bv, cv, lr, rfl, a, b', h3, h4, h5, h6, h7⟩
    exact ⟨hv, b, db, v, bv, cv, lr, rfl, a, b', h3, h4, h5, h6, Kd.R_imp hs h h7⟩
theorem subF : Kd.Sub F E := fun d h q hq => by
  rcases List.mem_cons.1 hq with rfl | hq
  · simp [E]
  rcases List.mem_cons.1 hq with rfl | hq
  · simp [E]
  rcases List.mem_cons.1 hq with rfl | hq
  · simp [E]
  rcases List.mem_cons.1 hq with rfl | hq
  · simp [E]
  exact h q hq
theorem szF : ∀ n, (Kd.upto F 1 E n).sz = 1 := Kd.upto_sz (fun _ => rfl)
/-- A packet, as deep as it is. -/
def kPk : Kd Pk := Kd.fix F 1 E szF (Kd.upto_E subF)

theorem open_M {w : World} {base : Nat} {ok : Nat → Prop} {x : Pk} {cs : List Value} (h : kPk.M w base ok x cs) : PkM kPk w base ok x cs := by
  obtain ⟨n, h⟩ := h
  cases n with
  | zero => exact h.elim
  | succ n =>
    obtain ⟨hv, b, db, v, bv, cv, lr, rfl, a, b', h3, h4, h5, h6, h7⟩ := h
    exact ⟨hv, b, db, v, bv, cv, lr, rfl, a, b', h3, h4, h5, h6, Kd.fix_R h7⟩
theorem mk_M {w : World} {base : Nat} {ok : Nat → Prop} {x : Pk} {cs : List Value} (h : PkM kPk w base ok x cs) : kPk.M w base ok x cs := by
  obtain ⟨hv, b, db, v, bv, cv, lr, rfl, a, b', h3, h4, h5, h6, h7⟩ := h
  obtain ⟨n, q⟩ := Kd.fix_R_back monoF h7
  exact ⟨n + 1, hv, b, db, v, bv, cv, lr, rfl, a, b', h3, h4, h5, h6, q⟩

/-- The pointer to block b is the packet x, the call's own (blocks that are ok, from base on). -/
def IsPk (w : World) (base : Nat) (ok : Nat → Prop) (b : Nat) (x : Pk) : Prop := kPk.M w base ok x [.pointer (some ⟨b, 0, none⟩)]
theorem IsPk.mono {w : World} {base : Nat} {ok ok' : Nat → Prop} {b : Nat} {x : Pk} (h : IsPk w base ok b x) (hok : ∀ k, ok k → ok' k) : IsPk w base ok' b x := kPk.M_mono hok h
theorem IsPk.bound {w : World} {base : Nat} {ok : Nat → Prop} {b : Nat} {x : Pk} (h : IsPk w base ok b x) : IsPk w base (fun k => ok k ∧ base ≤ k ∧ k < w.heap.size) b x := kPk.M_mono (fun k hk => ⟨hk.1, hk.2.1, hk.2.2.1⟩) (kPk.M_bound h)
theorem IsPk.only {w w1 : World} {base : Nat} {ok S : Nat → Prop} {b : Nat} {x : Pk} (h : IsPk w base ok b x) (ho : Only S w w1) (hd : ∀ k, ok k → ¬ S k) : IsPk w1 base ok b x := Kd.M_step h (fun k hk hlt => ho.block k hlt (hd k hk))
theorem IsPk.below {w w1 : World} {base : Nat} {ok : Nat → Prop} {b : Nat} {x : Pk} (h : IsPk w base ok b x) (hb : Below w.heap.size w w1) : IsPk w1 base ok b x := Kd.M_below h hb
theorem IsPk.lower {w : World} {base base' : Nat} {ok : Nat → Prop} {b : Nat} {x : Pk} (h : IsPk w base ok b x) (hb : base' ≤ base) : IsPk w base' ok b x := kPk.M_lower hb h
end Go.Proofs.YtbmcpjkhnhbjdaaDoor.Pk

namespace Go.Proofs.YtbmcpjkhnhbjdaaDoor.Ber
open Go.RowKit Go.Proofs.YtbmcpjkhnhbjdaaDoorW.PrintWords Go.Proofs.YtbmcpjkhnhbjdaaDoor.Buf Go.Proofs.YtbmcpjkhnhbjdaaDoor.Pk
set_option linter.unusedVariables false
set_option linter.unusedSimpArgs false

/-- A packet without data. -/
def bare (cls typ tag : Int) (val : Value) (desc : ByteArray) : Pk := ⟨cls, typ, tag, val, [], [], [], desc⟩

/-- What a maker of packets leaves: a new packet, the old memory as it was. -/
def Made (w : World) (x : Pk) (e : Ending) (w' : World) : Prop := ∃ b, e = .returned (.pointer (some ⟨b, 0, none⟩)) ∧ IsPk w' w.heap.size (fun _ => True) b x ∧ Below w.heap.size w w'

theorem mk_kids : ∀ w : World, (Instr.makeSlice 154 (.int .i64 0) (.int .i64 2)).run Tryd.prog w = .ok (.slice (some ⟨w.heap.size, 0, none⟩) 0 2) (w.alloc (.cells #[.pointer none, .pointer none] 118)) := fun _ => by kernel_rfl

/-- The three blocks that Encode lays. -/
def freshW (w : World) (cls typ tag : Int) (val : Value) (desc : ByteArray) : World :=
  (((w.alloc (.cells #[.int .u8 cls, .int .u8 typ, .int .u64 tag, val, .slice none 0 0, .pointer (some ⟨w.heap.size + 1, 0, none⟩), .slice (some ⟨w.heap.size + 1 + 1, 0, none⟩) 0 2, .string desc] T)).alloc
    (.cells #[.slice none 0 0, .int .i64 0, .int .i8 0] TB)).alloc (.cells #[.pointer none, .pointer none] TP))

theorem fresh_below (w : World) (a b c : Obj) : Below w.heap.size w (((w.alloc a).alloc b).alloc c) :=
  (((Below.refl _ w).alloc (Nat.le_refl _) a).alloc (by simp) b).alloc (by simp; omega) c

theorem fresh_pk (w : World) (cls typ tag : Int) (val : Value) (desc : ByteArray) (hv : val.oneCell' = true) : IsPk (freshW w cls typ tag val desc) w.heap.size (fun _ => True) w.heap.size (bare cls typ tag val desc) := by
  have h0 : (freshW w cls typ tag val desc).heap[w.heap.size]? = some (.cells (cellsOf (bare cls typ tag val desc) (.slice none 0 0) (w.heap.size + 1) (.slice (some ⟨w.heap.size + 1 + 1, 0, none⟩) 0 2)) T (0, 0)) := by
    unfold freshW
    rw [Below.heap_alloc _ _ _ (by simp; omega), Below.heap_alloc _ _ _ (by simp)]
    exact heap_alloc_new w _
  have h1 : (freshW w cls typ tag val desc).heap[w.heap.size + 1]? = some (.cells #[.slice none 0 0, .int .i64 0, .int .i8 0] TB (0, 0)) := by
    unfold freshW
    rw [Below.heap_alloc _ _ _ (by simp)]
    have := heap_alloc_new (w.alloc (.cells #[.int .u8 cls, .int .u8 typ, .int .u64 tag, val, .slice none 0 0, .pointer (some ⟨w.heap.size + 1, 0, none⟩), .slice (some ⟨w.heap.size + 1 + 1, 0, none⟩) 0 2, .string desc] T)) (.cells #[.slice none 0 0, .int .i64 0, .int .i8 0] TB)
    simpa using this
  have h2 : (freshW w cls typ tag val desc).heap[w.heap.size + 1 + 1]? = some (.cells #[.pointer none, .pointer none] TP (0, 0)) := by
    unfold freshW
    have := heap_alloc_new ((w.alloc (.cells #[.int .u8 cls, .int .u8 typ, .int .u64 tag, val, .slice none 0 0, .pointer (some ⟨w.heap.size + 1, 0, none⟩), .slice (some ⟨w.heap.size + 1 + 1, 0, none⟩) 0 2, .string desc] T)).alloc (.cells #[.slice none 0 0, .int .i64 0, .int .i8 0] TB)) (.cells #[.pointer none, .pointer none] TP)
    simpa using this
  refine mk_M ⟨hv, w.heap.size, w.heap.size + 1, .slice none 0 0, .slice none 0 0, .slice (some ⟨w.heap.size + 1 + 1, 0, none⟩) 0 2, 0, rfl, ⟨trivial, Nat.le_refl _⟩, ⟨trivial, by omega⟩, h0, h1, Kd.R_nil _ _ _ _ _, Kd.R_nil _ _ _ _ _, ?_, [], ?_, Reps.none _ _⟩
  · intro k hk
    simp [Value.ownBlock] at hk
    subst hk
    exact ⟨trivial, by omega, by omega, by simp [Value.ownBlock]⟩
  · exact ⟨rfl, .inr ⟨w.heap.size + 1 + 1, 2, _, rfl, by omega, h2, by simp [bare], by unfold maxLen; omega, rfl, rfl⟩⟩

set_option maxHeartbeats 3200000 in
set_option maxRecDepth 100000 in
theorem encode_nil (cls typ tag : Int) (desc : ByteArray) (w : World) :
    Calls Tryd.prog 87 #[.int .u8 cls, .int .u8 typ, .int .u64 tag, .nilIface, .string desc] w fun e w' => Made w (bare cls typ tag .nilIface desc) e w' := by
  have hmk := mk_kids
  go_enter Tryd.func87, Tryd.ntmps87
  go_wp2
  go_ret
  exact ⟨_, rfl, fresh_pk w cls typ tag .nilIface desc rfl, fresh_below w _ _ _⟩
end Go.Proofs.YtbmcpjkhnhbjdaaDoor.Ber

namespace Go.Proofs.YtbmcpjkhnhbjdaaDoor.Ber
open Go.RowKit Go.Proofs.YtbmcpjkhnhbjdaaDoorW.PrintWords Go.Proofs.YtbmcpjkhnhbjdaaDoor.Buf Go.Proofs.YtbmcpjkhnhbjdaaDoor.Pk
set_option linter.unusedVariables false
set_option linter.unusedSimpArgs false

/-- A packet laid open. -/
structure Parts (w : World) (base : Nat) (ok : Nat → Prop) (b : Nat) (x : Pk) (db : Nat) (v bv cv : Value) : Prop where
  val : x.val.oneCell' = true
  okb : ok b
  leb : base ≤ b
  okd : ok db
  led : base ≤ db
  hb : w.heap[b]? = some (.cells (cellsOf x bv db cv) T (0, 0))
  hd : Hdr w db v
  rv : B8.R 5 w base ok v x.data
  rb : B8.R 5 w base (fun k => ok k ∧ some k ≠ v.ownBlock) bv x.bv
  rk : kPk.R TP w base (fun k => ok k ∧ k ≠ b ∧ k ≠ db ∧ some k ≠ v.ownBlock) cv x.kids

theorem parts_of {w : World} {base : Nat} {ok : Nat → Prop} {b : Nat} {x : Pk} (h : IsPk w base ok b x) : ∃ db v bv cv, Parts w base ok b x db v bv cv := by
  obtain ⟨hv, b', db, v, bv, cv, lr, e, ⟨a1, a2⟩, ⟨b1, b2⟩, h3, h4, h5, h6, h7⟩ := open_M h
  obtain rfl : b' = b := by simpa using e.symm
  exact ⟨db, v, bv, cv, hv, a1, a2, b1, b2, h3, ⟨lr, h4⟩, h5, h6, h7⟩

theorem Parts.pk {w : World} {base : Nat} {ok : Nat → Prop} {b : Nat} {x : Pk} {db : Nat} {v bv cv : Value} (h : Parts w base ok b x db v bv cv) : IsPk w base ok b x := by
  obtain ⟨lr, h4⟩ := h.hd
  exact mk_M ⟨h.val, b, db, v, bv, cv, lr, rfl, ⟨h.okb, h.leb⟩, ⟨h.okd, h.led⟩, h.hb, h4, h.rv, h.rb, h.rk⟩

section
variable {w w' : World} {base : Nat} {ok : Nat → Prop} {b : Nat} {x : Pk} {db : Nat} {v bv cv : Value}

theorem Parts.buf (h : Parts w base ok b x db v bv cv) : IsBuf w db v x.data := ⟨h.hd, own_weaken (int_own h.rv) (Nat.zero_le _)⟩
theorem Parts.dne (h : Parts w base ok b x db v bv cv) : b ≠ db := by
  rintro rfl
  obtain ⟨lr, h4⟩ := h.hd
  have := h.hb
  rw [h4] at this
  injection this with this
  injection this with _ this
  exact absurd this (by decide)
theorem Parts.bne (h : Parts w base ok b x db v bv cv) : v.ownBlock ≠ some b := by
  intro e
  obtain ⟨cells, hc⟩ := own_typed (int_own h.rv) b e
  have := h.hb
  rw [hc] at this
  injection this with this
  injection this with _ this
  exact absurd this (by decide)

/-- A row at another base: its block is at least so great. -/
theorem own_base_at {w : World} {base base' : Nat} {e : TypeId} {s n : Nat} {v : Value} {cs : List Value} (h : w.ownsRow base e s v n cs) (hb : ∀ k, v.ownBlock = some k → base' ≤ k) : w.ownsRow base' e s v n cs := by
  obtain ⟨h1, h2⟩ := h
  refine ⟨h1, ?_⟩
  rcases h2 with h2 | ⟨g, cap, cur, rfl, hg, r⟩
  · exact .inl h2
  · exact .inr ⟨g, cap, cur, rfl, hb g rfl, r⟩

theorem Parts.wrote {ys : List Int} {e0 e : Ending} (h : Parts w base ok b x db v bv cv) (hw : Wrote w db v (x.data ++ ys) e0 e w') (hbase : base ≤ w.heap.size) :
    e = e0 ∧ Only ok w w' ∧ ∃ v', Parts w' base (fun k => ok k ∨ w.heap.size ≤ k) b { x with data := x.data ++ ys } db v' bv cv := by
  obtain ⟨he, v', hbuf, hrow, hon⟩ := hw
  have hlt : b < w.heap.size := blk_lt h.hb
  have hkeep : ∀ k, k < w.heap.size → k ≠ db → some k ≠ v.ownBlock → w'.heap[k]? = w.heap[k]? := fun k hk h1 h2 => hon.block k hk (fun h3 => h3.elim h1 h2)
  have hokrow : ∀ k, v.ownBlock = some k → ok k := h.rv.1
  have hne : ∀ k, some k ≠ v.ownBlock → k < w.heap.size → some k ≠ v'.ownBlock := by
    intro k h1 h2
    rcases hrow with h3 | ⟨N, h3, h4⟩
    · rw [h3]; exact h1
    · rw [h3]
      intro h5
      injection h5 with h5
      omega
  have hdb : ∀ {k : Nat} {cs : Array Value}, w.heap[k]? = some (.cells cs 5 (0, 0)) → k ≠ db := by
    rintro k cs hc rfl
    obtain ⟨lr, h4⟩ := h.hd
    rw [hc] at h4
    injection h4 with h4
    injection h4 with _ h4
    exact absurd h4 (by decide)
  refine ⟨he, hon.mono ?_, v', h.val, Or.inl h.okb, h.leb, Or.inl h.okd, h.led, ?_, hbuf.1, ?_, ?_, ?_⟩
  · rintro i hi (rfl | h1)
    · exact h.okd
    · exact hokrow i h1.symm
  · exact (hkeep b hlt h.dne (Ne.symm h.bne)).trans h.hb
  · refine own_int (own_base_at hbuf.2 ?_) ?_
    · intro k hk
      rcases hrow with h3 | ⟨N, h3, h4⟩
      · exact own_base (int_own h.rv) k (h3 ▸ hk)
      · rw [h3] at hk; injection hk with hk; omega
    · intro k hk
      rcases hrow with h3 | ⟨N, h3, h4⟩
      · exact Or.inl (hokrow k (h3 ▸ hk))
      · rw [h3] at hk; injection hk with hk; exact Or.inr (by omega)
  · have r := Kd.R_bound h.rb
    refine Kd.R_mono (Kd.R_move r ?_) ?_
    · rintro k ⟨⟨k1, k2⟩, k3, k4, q, hq, cells, hc⟩
      refine hkeep k k4 (hdb (k := k) (cs := cells) ?_) k2
      rcases List.mem_cons.1 hq with rfl | hq
      · exact hc
      · exact absurd hq (by simp [Kd.int, Kd.scalar])
    · rintro k ⟨⟨k1, k2⟩, k3, k4, _⟩
      exact ⟨Or.inl k1, hne k k2 k4⟩
  · have r := Kd.R_bound h.rk
    refine Kd.R_mono (Kd.R_move r ?_) ?_
    · rintro k ⟨⟨k1, k2, k3, k4⟩, k5, k6, _⟩
      exact hkeep k k6 k3 k4
    · rintro k ⟨⟨k1, k2, k3, k4⟩, k5, k6, _⟩
      exact ⟨Or.inl k1, k2, k3, hne k k4 k6⟩

/-- Another value in the interface. -/
theorem Parts.setVal (h : Parts w base ok b x db v bv cv) (u : Value) (hu : u.oneCell' = true) : Parts (w.setCell ⟨b, 3, none⟩ u) base ok b { x with val := u } db v bv cv ∧ Only ok w (w.setCell ⟨b, 3, none⟩ u) := by
  have hk : ∀ k, k ≠ b → (w.setCell ⟨b, 3, none⟩ u).heap[k]? = w.heap[k]? := fun k hk => Below.heap_setCell w ⟨b, 3, none⟩ u k hk
  have hrow : ∀ {k : Nat} {cs : Array Value}, w.heap[k]? = some (.cells cs 5 (0, 0)) → k ≠ b := by
    rintro k cs hc rfl
    have := h.hb
    rw [hc] at this
    injection this with this
    injection this with _ this
    exact absurd this (by decide)
  refine ⟨⟨hu, h.okb, h.leb, h.okd, h.led, Lib.heap_setCell_same (i := 3) h.hb u, ?_, ?_, ?_, ?_⟩, (Only.refl ok w).setCell (a := ⟨b, 3, none⟩) (fun _ => h.okb) u⟩
  · obtain ⟨lr, h4⟩ := h.hd
    exact ⟨lr, (hk db (Ne.symm h.dne)).trans h4⟩
  · refine Kd.R_mono (Kd.R_move (Kd.R_bound h.rv) ?_) (fun k hk => hk.1)
    rintro k ⟨k1, k2, k3, q, hq, cells, hc⟩
    refine hk k (hrow (cs := cells) ?_)
    rcases List.mem_cons.1 hq with rfl | hq
    · exact hc
    · exact absurd hq (by simp [Kd.int, Kd.scalar])
  · refine Kd.R_mono (Kd.R_move (Kd.R_bound h.rb) ?_) (fun k hk => hk.1)
    rintro k ⟨k1, k2, k3, q, hq, cells, hc⟩
    refine hk k (hrow (cs := cells) ?_)
    rcases List.mem_cons.1 hq with rfl | hq
    · exact hc
    · exact absurd hq (by simp [Kd.int, Kd.scalar])
  · exact Kd.R_move h.rk (fun k hk' => hk k hk'.2.1)

theorem Parts.below (h : Parts w base ok b x db v bv cv) (hb : Below w.heap.size w w') : Parts w' base ok b x db v bv cv := by
  obtain ⟨lr, h4⟩ := h.hd
  exact ⟨h.val, h.okb, h.leb, h.okd, h.led, blk_below h.hb hb, ⟨lr, blk_below h4 hb⟩, Kd.R_below h.rv hb, Kd.R_below h.rb hb, Kd.R_below h.rk hb⟩

theorem Parts.cell (h : Parts w base ok b x db v bv cv) (i : Nat) : w.cell? ⟨b, i, none⟩ = (cellsOf x bv db cv)[i]? := Lib.cell_of_heap h.hb i
theorem Parts.frozen (h : Parts w base ok b x db v bv cv) (i : Nat) : w.frozen? ⟨b, i, none⟩ = false := Lib.frozen_of_heap h.hb i
end

theorem made_intro {w w' : World} {ok : Nat → Prop} {b : Nat} {x : Pk} {db : Nat} {v bv cv : Value} {e : Ending} (he : e = .returned (.pointer (some ⟨b, 0, none⟩))) (h : Parts w' w.heap.size ok b x db v bv cv) (hb : Below w.heap.size w w') : Made w x e w' :=
  ⟨b, he, h.pk.mono (fun _ _ => trivial), hb⟩

/-- The bytes of a row read (C) lie where Write looks. -/
theorem reads_cells {w : World} {A : Option Addr} {ys : List Int} (h : B8.C w A ys.length ys) : (A = none ∧ ys = []) ∨ ∃ a, (A = some a ∨ ys = []) ∧ ∀ j u, (nums .u8 ys)[j]? = some u → w.cell? (a.add j) = some u := by
  rcases Nat.eq_zero_or_pos ys.length with h0 | h0
  · have : ys = [] := List.eq_nil_of_length_eq_zero h0
    subst this
    exact Or.inr ⟨⟨0, 0, none⟩, Or.inr rfl, fun j u hj => by simp [nums] at hj⟩
  · obtain ⟨a, rfl, _⟩ := Kd.at_int h 0 (by omega) (by omega)
    refine Or.inr ⟨a, Or.inl rfl, fun j u hj => ?_⟩
    have hl : j < ys.length := by
      have := (List.getElem?_eq_some_iff.1 hj).1
      rw [nums_length] at this
      exact this
    obtain ⟨a', e, hc⟩ := Kd.at_int h (j : Int) (by omega) (by omega)
    injection e with e
    subst e
    rw [Int.toNat_natCast] at hc
    rw [hc]
    rw [nums, List.getElem?_map, List.getElem?_eq_getElem hl] at hj
    rw [← hj]
    simp [rd, List.getD_eq_getElem?_getD, List.getElem?_eq_getElem hl]

/-- Write of what a row holds, wherever it lies but in the struct's block. -/
theorem write_row (b : Nat) (v : Value) (xs ys : List Int) (A : Option Addr) (c : Nat) (w : World) (h : IsBuf w b v xs) (hr : B8.C w A ys.length ys) (hne : ∀ a, A = some a → 1 ≤ ys.length → a.block ≠ b) (hlim : xs.length + ys.length ≤ 140737488355328) :
    Calls Tryd.prog 88 #[.pointer (some ⟨b, 0, none⟩), .slice A ys.length c] w fun e w' => Wrote w b v (xs ++ ys) (.returned (.tuple #[.int .i64 ys.length, .nilIface])) e w' := by
  by_cases h0 : ys = []
  · subst h0
    rw [List.append_nil]
    exact write_none b v xs A c w h
  · have hpos : 1 ≤ ys.length := by
      rcases Nat.eq_zero_or_pos ys.length with h1 | h1
      · exact absurd (List.eq_nil_of_length_eq_zero h1) h0
      · exact h1
    rcases reads_cells hr with ⟨_, h1⟩ | ⟨a, rfl | h1, hc⟩
    · exact absurd h1 h0
    · exact write_any b v xs ys a c w h (hne a rfl hpos) hc hlim
    · exact absurd h1 h0
end Go.Proofs.YtbmcpjkhnhbjdaaDoor.Ber

namespace Go.Proofs.YtbmcpjkhnhbjdaaDoor.Ber
open Go.RowKit Go.Proofs.YtbmcpjkhnhbjdaaDoorW.PrintWords Go.Proofs.YtbmcpjkhnhbjdaaDoor.Buf Go.Proofs.YtbmcpjkhnhbjdaaDoor.Pk
set_option linter.unusedVariables false
set_option linter.unusedSimpArgs false

/-- A packet that holds bytes. -/
def prim (cls typ tag : Int) (val : Value) (data : List Int) (desc : ByteArray) : Pk := ⟨cls, typ, tag, val, [], data, [], desc⟩

/-- the string value in an interface -/
abbrev strV (s : ByteArray) : Value := .iface 9 (.string s)

theorem conv_bytes (s : ByteArray) : ∀ W : World, (convert 9 24 (.string s)).run Tryd.prog W = .ok (.slice (some ⟨W.heap.size, 0, none⟩) s.size (grownCap W s.size 0 5)) (Lib.bytesWorld W 5 s) :=
  fun W => print_bytes (P := Tryd.prog) 9 24 5 Tryd.underlying9 Tryd.underlying24 Tryd.underlying5 s W

/-- 'p.Data.Write([]byte(s))', behind the conversion. -/
theorem write_conv {W : World} {base : Nat} {ok : Nat → Prop} {b : Nat} {x : Pk} {db : Nat} {v bv cv : Value} (P : Parts W base ok b x db v bv cv) (hbase : base ≤ W.heap.size) (s : ByteArray) (N c : Nat) (hN : N = W.heap.size) (hlim : x.data.length + s.size ≤ 140737488355328) :
    Calls Tryd.prog 88 #[.pointer (some ⟨db, 0, none⟩), .slice (some ⟨N, 0, none⟩) s.size c] (Lib.bytesWorld W 5 s) fun e w' => e = .returned (.tuple #[.int .i64 s.size, .nilIface]) ∧
      ∃ v', Parts w' base (fun k => ok k ∨ W.heap.size ≤ k) b { x with data := x.data ++ bytesOf s } db v' bv cv ∧ Only ok W w' := by
  subst hN
  have hb3 : Below W.heap.size W (Lib.bytesWorld W 5 s) := bytes_below (Below.refl _ _) (Nat.le_refl _) _ _
  have P3 := P.below hb3
  have hrd : B8.C (Lib.bytesWorld W 5 s) (some ⟨W.heap.size, 0, none⟩) (bytesOf s).length (bytesOf s) := by
    rw [bytesOf_length]
    exact Kd.C_of_reads (d := 0) (bytes_reads W 5 s (by omega))
  have hwr := write_row db v x.data (bytesOf s) _ c _ P3.buf hrd (fun a ha _ => by
    injection ha with ha; subst ha
    obtain ⟨lr, h4⟩ := P.hd
    have := blk_lt h4
    show W.heap.size ≠ db
    omega) (by rw [bytesOf_length]; exact hlim)
  rw [bytesOf_length] at hwr
  refine hwr.mono fun e w' hw => ?_
  obtain ⟨rfl, ho4, v', P4⟩ := P3.wrote hw (by have := hb3.size; omega)
  exact ⟨rfl, v', ⟨P4.val, Or.inl P.okb, P4.leb, Or.inl P.okd, P4.led, P4.hb, P4.hd, Kd.R_mono P4.rv (fun k hk => hk.imp id (fun h => by have := hb3.size; omega)), Kd.R_mono P4.rb (fun k hk => ⟨hk.1.imp id (fun h => by have := hb3.size; omega), hk.2⟩),
    Kd.R_mono P4.rk (fun k hk => ⟨hk.1.imp id (fun h => by have := hb3.size; omega), hk.2⟩)⟩, (Only.of_below ok hb3).trans ho4 (fun _ _ h => h)⟩

set_option maxHeartbeats 3200000 in
set_option maxRecDepth 100000 in
theorem newString_any (cls typ tag : Int) (s desc : ByteArray) (w : World) (hs : s.size ≤ 140737488355328) :
    Calls Tryd.prog 62 #[.int .u8 cls, .int .u8 typ, .int .u64 tag, .string s, .string desc] w fun e w' => Made w (prim cls typ tag (strV s) (bytesOf s) desc) e w' := by
  have hcv := conv_bytes s
  go_enter Tryd.func62, Tryd.ntmps62
  go_wp2_with (go_at_call 87; refine (encode_nil _ _ _ _ _).mono ?_)
  rintro e W1 ⟨b, rfl, hI, hB1⟩
  obtain ⟨db, v, bv, cv, P⟩ := parts_of hI.bound
  obtain ⟨P2, ho2⟩ := P.setVal (strV s) rfl
  have c3 : W1.cell? ⟨b, 3, none⟩ = some .nilIface := P.cell 3
  have f3 := P.frozen 3
  have c5 : (W1.setCell ⟨b, 3, none⟩ (strV s)).cell? ⟨b, 5, none⟩ = some (.pointer (some ⟨db, 0, none⟩)) := P2.cell 5
  have hB2 : Below w.heap.size w (W1.setCell ⟨b, 3, none⟩ (strV s)) := hB1.setCell (p := ⟨b, 3, none⟩) P.leb _
  have hwr := write_conv P2 hB2.size s W1.heap.size (grownCap (W1.setCell ⟨b, 3, none⟩ (strV s)) s.size 0 5) (by simp) (by simpa [bare] using hs)
  have HB2 := Lib.hid hB2
  clear P P2 hI hB1 hB2 ho2
  go_wp2_with (go_at_call 88; refine hwr.mono ?_; rintro e W4 ⟨rfl, v', P4, ho4⟩)
  go_ret
  exact made_intro rfl P4 (HB2.out.trans (ho4.below HB2.out.size (fun i hi => hi.2.1)))
end Go.Proofs.YtbmcpjkhnhbjdaaDoor.Ber
namespace Go.Proofs.YtbmcpjkhnhbjdaaDoor.Tree
open Go.RowKit Go.Proofs.YtbmcpjkhnhbjdaaDoorW.PrintWords Go.Proofs.YtbmcpjkhnhbjdaaDoor.PFnEncode
set_option linter.unusedVariables false
set_option linter.unusedSimpArgs false

mutual
/-- the reference's packet of the same shape -/
def mir : S27 → S33
  | ⟨a, b, c, d, l⟩ => ⟨a, b, c, d, mirL l⟩
def mirL : List S27 → List S33
  | [] => []
  | x :: xs => mir x :: mirL xs
end
mutual
/-- a proper packet -/
def good : S33 → Bool
  | ⟨a, b, c, d, l⟩ => decide (0 ≤ a) && decide (a ≤ 3) && decide (0 ≤ b) && decide (b < 268435456) && (if c then decide (d.length = 0) else decide (l.length = 0)) && goodL l
def goodL : List S33 → Bool
  | [] => true
  | x :: xs => good x && goodL xs
end
mutual
/-- how many packets and bytes -/
def tsize : S33 → Nat
  | ⟨_, _, _, d, l⟩ => 1 + d.length + tsizeL l
def tsizeL : List S33 → Nat
  | [] => 0
  | x :: xs => tsize x + tsizeL xs
end

theorem mirL_eq (l : List S27) : mirL l = l.map mir := by
  induction l with
  | nil => rfl
  | cons x xs ih => rw [mirL, ih]; rfl
theorem goodL_all (l : List S33) : goodL l = l.all good := by
  induction l with
  | nil => rfl
  | cons x xs ih => rw [goodL, ih]; rfl
theorem goodL_append (l m : List S33) : goodL (l ++ m) = (goodL l && goodL m) := by rw [goodL_all, goodL_all, goodL_all, List.all_append]
theorem mirL_append (l m : List S27) : mirL (l ++ m) = mirL l ++ mirL m := by rw [mirL_eq, mirL_eq, mirL_eq, List.map_append]
theorem tsizeL_append (l m : List S33) : tsizeL (l ++ m) = tsizeL l + tsizeL m := by
  induction l with
  | nil => simp [tsizeL]
  | cons x xs ih => rw [List.cons_append, tsizeL, tsizeL, ih]; omega

/-- what is none -/
def bad : S33 := ⟨-1, 0, false, [], []⟩
mutual
/-- 'within': the packet that is read, and the room that is left -/
def wi : Nat → S27 → Int → S33 × Int
  | 0, p, r => (bad, r - (1 + p.f3.length))
  | d + 1, p, r => if r - (1 + p.f3.length) < 0 then (bad, r - (1 + p.f3.length)) else wiL d p p.f4 [] (r - (1 + p.f3.length))
def wiL : Nat → S27 → List S27 → List S33 → Int → S33 × Int
  | _, p, [], acc, r => (⟨p.f0, p.f1, p.f2, p.f3, acc⟩, r)
  | d, p, k :: ks, acc, r => if r < 0 then (bad, r) else wiL d p ks (acc ++ [(wi d k r).1]) (wi d k r).2
end

theorem wiL_good (d : Nat) (h : ∀ (p : S27) (r : Int), good (wi d p r).1 = true → (wi d p r).1 = mir p ∧ (wi d p r).2 + tsize (mir p) = r ∧ 0 ≤ (wi d p r).2) (p : S27) :
    ∀ (ks done : List S27) (acc : List S33) (r : Int), p.f4 = done ++ ks → acc.length = done.length → (goodL acc = true → acc = mirL done) → good (wiL d p ks acc r).1 = true → 0 ≤ r →
      (wiL d p ks acc r).1 = mir p ∧ (wiL d p ks acc r).2 + tsizeL (mirL ks) = r ∧ 0 ≤ (wiL d p ks acc r).2 := by
  intro ks
  induction ks with
  | nil =>
    intro done acc r hp hl ha hg hr
    rw [wiL] at hg ⊢
    have hga : goodL acc = true := by
      rw [good] at hg
      simp only [Bool.and_eq_true] at hg
      exact hg.2
    have e := ha hga
    obtain ⟨a, b, c, dd, l⟩ := p
    simp only [List.append_nil] at hp
    refine ⟨?_, by simp [mirL, tsizeL], hr⟩
    rw [mir, e, hp]
  | cons k ks ih =>
    intro done acc r hp hl ha hg hr
    rw [wiL] at hg ⊢
    rw [if_neg (by omega)] at hg ⊢
    have hlast : good (wi d k r).1 = true := by
      by_cases hgk : good (wi d k r).1 = true
      · exact hgk
      · exfalso
        exact absurd hg (by
          have := wiL_bad d p ks (acc ++ [(wi d k r).1]) (wi d k r).2 (by rw [goodL_append]; simp [goodL, hgk])
          rw [this]; decide)
    obtain ⟨h1, h2, h3⟩ := h k r hlast
    have := ih (done ++ [k]) (acc ++ [(wi d k r).1]) (wi d k r).2 (by rw [hp]; simp) (by simp [hl]) (fun hga => by
      rw [goodL_append] at hga
      simp only [Bool.and_eq_true] at hga
      rw [mirL_append, ha hga.1, h1]
      rfl) hg h3
    refine ⟨this.1, ?_, this.2.2⟩
    rw [mirL, tsizeL]
    have := this.2.1
    omega
where
  wiL_bad (d : Nat) (p : S27) : ∀ (ks : List S27) (acc : List S33) (r : Int), goodL acc = false → good (wiL d p ks acc r).1 = false := by
    intro ks
    induction ks with
    | nil => intro acc r h; rw [wiL, good, h, Bool.and_false]
    | cons k ks ih =>
      intro acc r h
      rw [wiL]
      split
      · rfl
      · exact ih _ _ (by rw [goodL_append, h, Bool.false_and])

theorem wi_good : ∀ (d : Nat) (p : S27) (r : Int), good (wi d p r).1 = true → (wi d p r).1 = mir p ∧ (wi d p r).2 + tsize (mir p) = r ∧ 0 ≤ (wi d p r).2 := by
  intro d
  induction d with
  | zero => intro p r h; rw [wi] at h; exact absurd h (show ¬ good bad = true by decide)
  | succ d ih =>
    intro p r h
    rw [wi] at h ⊢
    by_cases hr : r - (1 + (p.f3.length : Int)) < 0
    · rw [if_pos hr] at h
      exact absurd h (show ¬ good bad = true by decide)
    · rw [if_neg hr] at h ⊢
      have := wiL_good d ih p p.f4 [] [] (r - (1 + (p.f3.length : Int))) rfl rfl (fun _ => rfl) h (by omega)
      refine ⟨this.1, ?_, this.2.2⟩
      obtain ⟨a, b, c, dd, l⟩ := p
      rw [mir, tsize]
      have := this.2.1
      push_cast
      simp only at this ⊢
      omega
end Go.Proofs.YtbmcpjkhnhbjdaaDoor.Tree
namespace Go.Proofs.YtbmcpjkhnhbjdaaDoor.Within
open Go.RowKit Go.Proofs.YtbmcpjkhnhbjdaaDoorW.PrintWords Go.Proofs.YtbmcpjkhnhbjdaaDoor.PFnEncode Go.Proofs.YtbmcpjkhnhbjdaaDoor.Tree Go.Proofs.YtbmcpjkhnhbjdaaDoor.Buf
set_option linter.unusedVariables false
set_option linter.unusedSimpArgs false

/-- The reference's packet whose data lie where they lay in w0, its kids made. -/
def Fm (w0 : World) (d : Kd S33) : Kd S33 := Kd.iso (Kd.pair (Kd.int .i64) (Kd.pair (Kd.int .i64) (Kd.pair Kd.bool (Kd.pair (Kd.fixed (Kd.slice 5 (Kd.int .u8)) w0) (Kd.slice 33 d))))) (fun x : S33 => (x.f0, x.f1, x.f2, x.f3, x.f4))
theorem mono_m (w0 : World) : Kd.Mono (Fm w0) := Kd.mono_iso _ (Kd.mono_pair (Kd.mono_const _) (Kd.mono_pair (Kd.mono_const _) (Kd.mono_pair (Kd.mono_const _) (Kd.mono_pair (Kd.mono_const _) (Kd.mono_slice 33 Kd.mono_id)))))
theorem sub_m (w0 : World) : Kd.Sub (Fm w0) [5, 33] := Kd.sub_iso _ (Kd.sub_pair (Kd.sub_const _ (by decide)) (Kd.sub_pair (Kd.sub_const _ (by decide)) (Kd.sub_pair (Kd.sub_const _ (by decide)) (Kd.sub_pair (Kd.sub_const _ (fun _ h => absurd h List.not_mem_nil)) (Kd.sub_slice 33 (by decide) Kd.sub_id)))))
theorem sz_m (w0 : World) : ∀ n, (Kd.upto (Fm w0) 5 [5, 33] n).sz = 5 := Kd.upto_sz (fun _ => rfl)
def km (w0 : World) : Kd S33 := Kd.fix (Fm w0) 5 [5, 33] (sz_m w0) (Kd.upto_E (sub_m w0))

theorem km_mkM (w0 w : World) (base : Nat) (ok : Nat → Prop) (x : S33) {A3 : Option Addr} {c3 : Nat} (l3 : x.f3.length ≤ c3) (g3 : (Kd.int .u8).C w0 A3 x.f3.length x.f3) {v4 : Value} (g4 : (km w0).R 33 w base ok v4 x.f4) : (km w0).M w base ok x [.int .i64 x.f0, .int .i64 x.f1, .bool x.f2, .slice A3 x.f3.length c3, v4] := by
  obtain ⟨n4, r4⟩ := Kd.fix_R_back (mono_m w0) g4
  exact ⟨n4 + 1, ⟨[.int .i64 x.f0], [.int .i64 x.f1, .bool x.f2, .slice A3 x.f3.length c3, v4], rfl, rfl, ⟨[.int .i64 x.f1], [.bool x.f2, .slice A3 x.f3.length c3, v4], rfl, rfl, ⟨[.bool x.f2], [.slice A3 x.f3.length c3, v4], rfl, rfl, ⟨[.slice A3 x.f3.length c3], [v4], rfl, ⟨A3, c3, rfl, l3, g3⟩, ⟨v4, rfl, r4⟩⟩⟩⟩⟩⟩
theorem km_openM {w0 w : World} {base : Nat} {ok : Nat → Prop} {x : S33} {cs : List Value} (h : (km w0).M w base ok x cs) : ∃ A3 c3 v4, cs = [.int .i64 x.f0, .int .i64 x.f1, .bool x.f2, .slice A3 x.f3.length c3, v4] ∧ x.f3.length ≤ c3 ∧ (Kd.int .u8).C w0 A3 x.f3.length x.f3 ∧ (km w0).R 33 w base ok v4 x.f4 := by
  obtain ⟨n, h⟩ := h
  cases n with
  | zero => exact h.elim
  | succ n =>
    obtain ⟨_, _, rfl, rfl, ⟨_, _, rfl, rfl, ⟨_, _, rfl, rfl, ⟨_, _, rfl, ⟨A3, c3, rfl, l3, g3⟩, ⟨v4, rfl, g4⟩⟩⟩⟩⟩ := h
    exact ⟨A3, c3, v4, rfl, l3, g3, Kd.fix_R g4⟩

/-- .. read now, as the print's kind reads it. -/
theorem km_read {w0 w : World} (hb : Below w0.heap.size w0 w) : ∀ {x : S33} {cs : List Value}, (km w0).K w x cs → k33.K w x cs := by
  have : ∀ n (x : S33) (cs : List Value), (Kd.upto (Fm w0) 5 [5, 33] n).K w x cs → (Kd.upto F33 5 [5, 33] n).K w x cs := by
    intro n
    induction n with
    | zero => intro x cs h; exact h
    | succ n ih =>
      rintro x cs ⟨_, _, rfl, rfl, ⟨_, _, rfl, rfl, ⟨_, _, rfl, rfl, ⟨_, _, rfl, ⟨A3, c3, rfl, l3, g3⟩, ⟨A4, c4, rfl, l4, g4⟩⟩⟩⟩⟩
      exact ⟨_, _, rfl, rfl, ⟨_, _, rfl, rfl, ⟨_, _, rfl, rfl, ⟨_, _, rfl, ⟨A3, c3, rfl, l3, Kd.C_below g3 hb⟩, ⟨A4, c4, rfl, l4, Kd.C_read ((sz_m w0 n).trans (sz33 n).symm) ih g4⟩⟩⟩⟩⟩
  rintro x cs ⟨n, h⟩
  exact ⟨n, this n x cs h⟩

mutual
/-- no row is longer than Go's memory -/
def lens : S27 → Bool
  | ⟨_, _, _, d, l⟩ => decide (d.length ≤ reachBytes) && decide (l.length ≤ reachBytes) && lensL l
def lensL : List S27 → Bool
  | [] => true
  | x :: xs => lens x && lensL xs
end
theorem lensL_all (l : List S27) : lensL l = l.all lens := by
  induction l with
  | nil => rfl
  | cons x xs ih => rw [lensL, ih]; rfl

/-- What a call of within leaves: the packet x, r of room. -/
def Read (w0 w : World) (g : Nat) (x : S33) (r : Int) (e : Ending) (w' : World) : Prop :=
  ∃ c, e = .returned (.agg c.toArray) ∧ (km w0).M w' w.heap.size (fun _ => True) x c ∧ w'.heap[g]? = some (.cells #[.int .i64 r] 3 (0, 0)) ∧ Only (fun i => i = g) w w'

theorem results_c {P : Program} {fn : Func} {p : Tmp} {ty : TypeId} (h : fn.results = #[.cell p ty]) (tmps : Array Value) (w : World) (g : Nat) (t : TypeId) (cs : Array Value) (fr : Nat × Nat) (d : TypeDesc)
    (hp : tmps.getD p undef = .pointer (some ⟨g, 0, none⟩)) (hg : w.heap[g]? = some (.cells cs t fr))
    (hu : P.underlying ty = some d) (hd : (match d with | .struct _ | .array _ _ => true | _ => false) = true) (hi : (P.info? ty).map (·.size) = some cs.size) :
    (results fn tmps).run P w = .ok (.agg cs) w := by
  have hp' : tmps[p]?.getD undef = .pointer (some ⟨g, 0, none⟩) := by simpa using hp
  simp [results, h, hp', asAddr, run_loadVar_row w g t ty cs fr d hg hu hd hi]
theorem info33 : (Tryd.prog.info? 33).map (fun i => (i.zero, i.size, i.bytes)) = some (some (.agg #[.int .i64 0, .int .i64 0, .bool false, .slice none 0 0, .slice none 0 0]), 5, 72) := by kernel_rfl
theorem size33 : (Tryd.prog.info? 33).map (·.size) = some 5 := by kernel_rfl

/-- the end with a packet that is none -/
theorem bad_end {w0 w W2 W3 : World} {g : Nat} {r' : Int} {n : Nat} {z0 z1 z2 z3 z4 : Value} (hon : Only (fun i => i = g) w W2) (hrm : W2.heap[g]? = some (.cells #[.int .i64 r'] 3 (0, 0))) (hres : W2.heap[n]? = some (.cells #[z0, z1, z2, z3, z4] 33 (0, 0))) (hng : w.heap.size ≤ n) (hgn : g ≠ n)
    (hW3 : W3 = (((((W2.setCell ⟨n, 0, none⟩ (.int .i64 (-1))).setCell ⟨n, 1, none⟩ (.int .i64 0)).setCell ⟨n, 2, none⟩ (.bool false)).setCell ⟨n, 3, none⟩ (.slice none 0 0)).setCell ⟨n, 4, none⟩ (.slice none 0 0))) :
    W3.heap[n]? = some (.cells #[.int .i64 (-1), .int .i64 0, .bool false, .slice none 0 0, .slice none 0 0] 33 (0, 0)) ∧ Read w0 w g bad r' (.returned (.agg #[.int .i64 (-1), .int .i64 0, .bool false, .slice none 0 0, .slice none 0 0])) W3 := by
  have h1 := blk_set hres 0 (.int .i64 (-1))
  have h2 := blk_set h1 1 (.int .i64 0)
  have h3 := blk_set h2 2 (.bool false)
  have h4 := blk_set h3 3 (.slice none 0 0)
  have h5 := blk_set h4 4 (.slice none 0 0)
  rw [← hW3] at h5
  have hr : W3.heap[g]? = some (.cells #[.int .i64 r'] 3 (0, 0)) := by
    rw [hW3]
    exact blk_far (blk_far (blk_far (blk_far (blk_far hrm (p := ⟨n, 0, none⟩) hgn _) (p := ⟨n, 1, none⟩) hgn _) (p := ⟨n, 2, none⟩) hgn _) (p := ⟨n, 3, none⟩) hgn _) (p := ⟨n, 4, none⟩) hgn _
  have hlt : ∀ k : Nat, (⟨n, k, none⟩ : Addr).block < w.heap.size → (⟨n, k, none⟩ : Addr).block = g := fun k h => absurd h (by show ¬ n < w.heap.size; omega)
  refine ⟨h5, _, rfl, km_mkM w0 W3 w.heap.size _ bad (A3 := none) (c3 := 0) (Nat.le_refl _) ⟨rfl, by simp [bad], fun h => absurd h (by decide)⟩ (Kd.R_nil _ _ _ _ _), hr, ?_⟩
  rw [hW3]
  exact ((((hon.setCell (hlt 0) _).setCell (hlt 1) _).setCell (hlt 2) _).setCell (hlt 3) _).setCell (hlt 4) _

theorem wi_le : ∀ (d : Nat) (p : S27) (r : Int), (wi d p r).2 ≤ r - 1 := by
  intro d
  induction d with
  | zero => intro p r; rw [wi]; show r - (1 + (p.f3.length : Int)) ≤ _; omega
  | succ d ih =>
    have hl : ∀ (p : S27) (ks : List S27) (acc : List S33) (r : Int), (wiL d p ks acc r).2 ≤ r := by
      intro p ks
      induction ks with
      | nil => intro acc r; rw [wiL]; exact Int.le_refl _
      | cons k ks ihk =>
        intro acc r
        rw [wiL]
        split
        · exact Int.le_refl _
        · have h1 := ihk (acc ++ [(wi d k r).1]) (wi d k r).2
          have h2 := ih k r
          omega
    intro p r
    rw [wi]
    split
    · show r - (1 + (p.f3.length : Int)) ≤ _; omega
    · have := hl p p.f4 [] (r - (1 + (p.f3.length : Int)))
      omega

/-- what stands at the loop's head -/
structure Inv (w0 w W : World) (g : Nat) (p : S27) (A3 : Option Addr) (c3 : Nat) (rr : Int) (v : Value) (acc : List S33) : Prop where
  on : Only (fun i => i = g) w W
  rm : W.heap[g]? = some (.cells #[.int .i64 rr] 3 (0, 0))
  res : W.heap[w.heap.size + 1]? = some (.cells #[.int .i64 0, .int .i64 0, .bool false, .slice none 0 0, .slice none 0 0] 33 (0, 0))
  out : W.heap[w.heap.size + 2]? = some (.cells #[.int .i64 p.f0, .int .i64 p.f1, .bool p.f2, .slice A3 p.f3.length c3, v] 33 (0, 0))
  row : (km w0).R 33 W w.heap.size (fun k => k ≠ w.heap.size + 1 ∧ k ≠ w.heap.size + 2) v acc

section
variable {w0 w W W' : World} {g : Nat} {p : S27} {A3 : Option Addr} {c3 : Nat} {rr : Int} {v : Value} {acc : List S33}
theorem Inv.step (I : Inv w0 w W g p A3 c3 rr v acc) (hb : Below W.heap.size W W') : Inv w0 w W' g p A3 c3 rr v acc :=
  ⟨I.on.trans (Only.of_below _ hb) (fun _ _ h => h), blk_below I.rm hb, blk_below I.res hb, blk_below I.out hb, Kd.R_below I.row hb⟩
theorem Inv.read (I : Inv w0 w W g p A3 c3 rr v acc) (hgw : g < w.heap.size) {x : S33} {r2 : Int} {e : Ending} (h : Read w0 W g x r2 e W') :
    ∃ c, e = .returned (.agg c.toArray) ∧ Inv w0 w W' g p A3 c3 r2 v acc ∧ (km w0).M W' w.heap.size (fun k => W.heap.size ≤ k) x c := by
  obtain ⟨c, he, hM, hrm, hon⟩ := h
  have hl1 := blk_lt I.res
  have hl2 := blk_lt I.out
  refine ⟨c, he, ⟨I.on.trans hon (fun _ _ h => h), hrm, (hon.block _ hl1 (by show ¬ _ = g; omega)).trans I.res, (hon.block _ hl2 (by show ¬ _ = g; omega)).trans I.out, ?_⟩, ?_⟩
  · refine Kd.R_mono (Kd.R_move (Kd.R_bound I.row) (fun k hk => hon.block k hk.2.2.1 (by have := hk.2.1; show ¬ k = g; omega))) (fun k hk => hk.1)
  · exact (km w0).M_lower (by omega) ((km w0).M_mono (fun k hk => hk.2.1) ((km w0).M_bound hM))
theorem Inv.vlt (I : Inv w0 w W g p A3 c3 rr v acc) : ∀ k, v.ownBlock = some k → k < W.heap.size := fun k hk => own_lt I.row.2.choose_spec.1 k hk
theorem Inv.okp (I : Inv w0 w W g p A3 c3 rr v acc) (hgw : g < w.heap.size) : ∀ k, W.heap.size ≤ k → (k ≠ w.heap.size + 1 ∧ k ≠ w.heap.size + 2) ∧ some k ≠ v.ownBlock := fun k hk => by
  have hl1 := blk_lt I.res
  have hl2 := blk_lt I.out
  refine ⟨⟨by omega, by omega⟩, fun e => ?_⟩
  have := I.vlt k e.symm
  omega
theorem Inv.fresh (I : Inv w0 w W g p A3 c3 rr v acc) : ∀ k, W.heap.size ≤ k → k ≠ w.heap.size + 1 ∧ k ≠ w.heap.size + 2 := fun k hk => by
  have hl1 := blk_lt I.res
  have hl2 := blk_lt I.out
  exact ⟨by omega, by omega⟩
theorem Inv.ne (I : Inv w0 w W g p A3 c3 rr v acc) : some (w.heap.size + 2) ≠ v.ownBlock := fun e => (I.row.1 _ e.symm).2 rfl
theorem Inv.app (I : Inv w0 w W g p A3 c3 rr v acc) (hgw : g < w.heap.size) {x : S33} {v1 : Value} (hg : W.grownBy W' v.ownBlock) (hat : v1.ownBlock = v.ownBlock ∨ ∃ b, v1.ownBlock = some b ∧ W.heap.size ≤ b) (hR : (km w0).R 33 W' w.heap.size (fun k => k ≠ w.heap.size + 1 ∧ k ≠ w.heap.size + 2) v1 (acc ++ [x])) :
    Inv w0 w (W'.setCell ⟨w.heap.size + 2, 4, none⟩ v1) g p A3 c3 rr v1 (acc ++ [x]) := by
  have hb : ∀ k, v.ownBlock = some k → w.heap.size ≤ k ∧ k ≠ w.heap.size + 1 ∧ k ≠ w.heap.size + 2 := fun k hk => ⟨own_base I.row.2.choose_spec.1 k hk, I.row.1 k hk⟩
  have hne : ∀ i, i < w.heap.size ∨ i = w.heap.size + 1 ∨ i = w.heap.size + 2 → some i ≠ v.ownBlock := fun i hi e => by
    have := hb i e.symm
    omega
  refine ⟨?_, blk_far (blk_grown I.rm hg (hne g (.inl hgw))) (by show g ≠ w.heap.size + 2; omega) _, blk_far (blk_grown I.res hg (hne _ (.inr (.inl rfl)))) (by show w.heap.size + 1 ≠ w.heap.size + 2; omega) _, ?_, Kd.R_far hR (fun k hk => hk.2) _⟩
  · refine Only.setCell ?_ (a := ⟨w.heap.size + 2, 4, none⟩) (fun h => absurd h (by show ¬ w.heap.size + 2 < w.heap.size; omega)) _
    exact ⟨hg.os.trans I.on.os, hg.tape.trans I.on.tape, hg.output.trans I.on.output, Nat.le_trans I.on.size hg.size, fun i hi hn => (hg.block i (by have := I.on.size; omega) (hne i (.inl hi))).trans (I.on.block i hi hn)⟩
  · exact blk_set (blk_grown I.out hg (hne _ (.inr (.inr rfl)))) 4 v1
end
/-- the end with the packet that was read -/
theorem out_end {w0 w W W3 : World} {g : Nat} {p : S27} {A3 : Option Addr} {c3 : Nat} {rr : Int} {v : Value} {acc : List S33} (I : Inv w0 w W g p A3 c3 rr v acc) (hgw : g < w.heap.size) (l3 : p.f3.length ≤ c3) (h3 : (Kd.int .u8).C w0 A3 p.f3.length p.f3)
    (hW3 : W3 = (((((W.setCell ⟨w.heap.size + 1, 0, none⟩ (.int .i64 p.f0)).setCell ⟨w.heap.size + 1, 1, none⟩ (.int .i64 p.f1)).setCell ⟨w.heap.size + 1, 2, none⟩ (.bool p.f2)).setCell ⟨w.heap.size + 1, 3, none⟩ (.slice A3 p.f3.length c3)).setCell ⟨w.heap.size + 1, 4, none⟩ v)) :
    W3.heap[w.heap.size + 1]? = some (.cells #[.int .i64 p.f0, .int .i64 p.f1, .bool p.f2, .slice A3 p.f3.length c3, v] 33 (0, 0)) ∧ Read w0 w g ⟨p.f0, p.f1, p.f2, p.f3, acc⟩ rr (.returned (.agg #[.int .i64 p.f0, .int .i64 p.f1, .bool p.f2, .slice A3 p.f3.length c3, v])) W3 := by
  have h1 := blk_set I.res 0 (.int .i64 p.f0)
  have h2 := blk_set h1 1 (.int .i64 p.f1)
  have h3' := blk_set h2 2 (.bool p.f2)
  have h4 := blk_set h3' 3 (.slice A3 p.f3.length c3)
  have h5 := blk_set h4 4 v
  rw [← hW3] at h5
  have hgn : g ≠ w.heap.size + 1 := by omega
  have hr : W3.heap[g]? = some (.cells #[.int .i64 rr] 3 (0, 0)) := by
    rw [hW3]
    exact blk_far (blk_far (blk_far (blk_far (blk_far I.rm (p := ⟨w.heap.size + 1, 0, none⟩) hgn _) (p := ⟨w.heap.size + 1, 1, none⟩) hgn _) (p := ⟨w.heap.size + 1, 2, none⟩) hgn _) (p := ⟨w.heap.size + 1, 3, none⟩) hgn _) (p := ⟨w.heap.size + 1, 4, none⟩) hgn _
  have hlt : ∀ k : Nat, (⟨w.heap.size + 1, k, none⟩ : Addr).block < w.heap.size → (⟨w.heap.size + 1, k, none⟩ : Addr).block = g := fun k h => absurd h (by show ¬ w.heap.size + 1 < w.heap.size; omega)
  refine ⟨h5, _, rfl, km_mkM w0 W3 w.heap.size _ ⟨p.f0, p.f1, p.f2, p.f3, acc⟩ l3 h3 ?_, hr, ?_⟩
  · rw [hW3]
    refine Kd.R_mono (ok := fun k => k ≠ w.heap.size + 1 ∧ k ≠ w.heap.size + 2) ?_ (fun _ _ => trivial)
    exact Kd.R_far (Kd.R_far (Kd.R_far (Kd.R_far (Kd.R_far I.row (p := ⟨w.heap.size + 1, 0, none⟩) (fun k hk => hk.1) _) (p := ⟨w.heap.size + 1, 1, none⟩) (fun k hk => hk.1) _) (p := ⟨w.heap.size + 1, 2, none⟩) (fun k hk => hk.1) _) (p := ⟨w.heap.size + 1, 3, none⟩) (fun k hk => hk.1) _) (p := ⟨w.heap.size + 1, 4, none⟩) (fun k hk => hk.1) _
  · rw [hW3]
    exact ((((I.on.setCell (hlt 0) _).setCell (hlt 1) _).setCell (hlt 2) _).setCell (hlt 3) _).setCell (hlt 4) _

set_option maxHeartbeats 6400000 in
set_option maxRecDepth 100000 in
theorem within_any (w0 : World) : ∀ (d : Nat), d ≤ 100 → ∀ (p : S27) (A3 : Option Addr) (c3 : Nat) (A4 : Option Addr) (c4 : Nat) (r : Int) (g : Nat) (w : World), (Kd.int .u8).C w0 A3 p.f3.length p.f3 → p.f3.length ≤ c3 → k27.C w0 A4 p.f4.length p.f4 → p.f4.length ≤ c4 → lens p = true →
    0 ≤ r → r ≤ 1000000 → w.heap[g]? = some (.cells #[.int .i64 r] 3 (0, 0)) → w0.heap.size ≤ g → Below w0.heap.size w0 w →
    Calls Tryd.prog 70 #[.agg #[.int .i64 p.f0, .int .i64 p.f1, .bool p.f2, .slice A3 p.f3.length c3, .slice A4 p.f4.length c4], .int .i64 d, .pointer (some ⟨g, 0, none⟩)] w (Read w0 w g (wi d p r).1 (wi d p r).2) := by
  intro d
  induction d using Nat.strongRecOn with
  | _ d ih' =>
    intro hd p A3 c3 A4 c4 r g w h3 l3 h4 l4 hln hr0 hr1 hg hg0 hB
    have hlp : p.f3.length ≤ reachBytes ∧ p.f4.length ≤ reachBytes ∧ lensL p.f4 = true := by
      obtain ⟨a, b, c, dd, l⟩ := p
      rw [lens] at hln
      simpa [and_assoc] using hln
    have hrb : reachBytes = 140737488351232 := by decide
    have hgw := blk_lt hg
    have H3 := Lib.hid h3
    have H4 := Lib.hid h4
    have HB := Lib.hid hB
    have HG := Lib.hid hg
    have HG0 := Lib.hid hg0
    have HLN := Lib.hid hlp.2.2
    obtain ⟨hl3, hl4, _⟩ := hlp
    clear h3 h4 hB hln hg hg0
    obtain ⟨fin, hfin0⟩ : ∃ fin, fin = wi d p r := ⟨_, rfl⟩
    rw [← hfin0]
    go_enter Tryd.func70, Tryd.ntmps70
    go_wp2
    have hbx0 := heap_alloc_new w (.cells #[.int .i64 p.f0, .int .i64 p.f1, .bool p.f2, .slice A3 p.f3.length c3, .slice A4 p.f4.length c4] 27)
    have hres0 := heap_alloc_new (w.alloc (.cells #[.int .i64 p.f0, .int .i64 p.f1, .bool p.f2, .slice A3 p.f3.length c3, .slice A4 p.f4.length c4] 27)) (.cells #[.int .i64 0, .int .i64 0, .bool false, .slice none 0 0, .slice none 0 0] 33)
    have hs1 : (w.alloc (.cells #[.int .i64 p.f0, .int .i64 p.f1, .bool p.f2, .slice A3 p.f3.length c3, .slice A4 p.f4.length c4] 27)).heap.size = w.heap.size + 1 := by simp
    obtain ⟨W1, hW1⟩ : ∃ W1, W1 = (w.alloc (.cells #[.int .i64 p.f0, .int .i64 p.f1, .bool p.f2, .slice A3 p.f3.length c3, .slice A4 p.f4.length c4] 27)).alloc (.cells #[.int .i64 0, .int .i64 0, .bool false, .slice none 0 0, .slice none 0 0] 33) := ⟨_, rfl⟩
    rw [hs1, ← hW1] at hres0
    rw [← hW1]
    have hon : Only (fun i => i = g) w W1 := by rw [hW1]; exact ((Only.refl _ w).alloc _).alloc _
    have hbx : W1.heap[w.heap.size]? = some (.cells #[.int .i64 p.f0, .int .i64 p.f1, .bool p.f2, .slice A3 p.f3.length c3, .slice A4 p.f4.length c4] 27 (0, 0)) := by
      rw [hW1, Below.heap_alloc _ _ _ (by rw [hs1]; omega)]; exact hbx0
    have hrm : W1.heap[g]? = some (.cells #[.int .i64 r] 3 (0, 0)) := by
      rw [hW1, Below.heap_alloc _ _ _ (by rw [hs1]; omega), Below.heap_alloc _ _ _ hgw]; exact HG.out
    have hsz1 : W1.heap.size = w.heap.size + 2 := by rw [hW1]; simp
    clear hbx0 hs1
    have HON := Lib.hid hon
    have HBX := Lib.hid hbx
    have HRM := Lib.hid hrm
    have HRES := Lib.hid hres0
    have HSZ := Lib.hid hsz1
    have c0 : W1.cell? ⟨g, 0, none⟩ = some (.int .i64 r) := blk_cell hrm 0
    have f0 : W1.frozen? ⟨g, 0, none⟩ = false := blk_frozen hrm 0
    have b0 : W1.cell? ⟨w.heap.size, 0, none⟩ = some (.int .i64 p.f0) := blk_cell hbx 0
    have b1 : W1.cell? ⟨w.heap.size, 1, none⟩ = some (.int .i64 p.f1) := blk_cell hbx 1
    have b2 : W1.cell? ⟨w.heap.size, 2, none⟩ = some (.bool p.f2) := blk_cell hbx 2
    have b3 : W1.cell? ⟨w.heap.size, 3, none⟩ = some (.slice A3 p.f3.length c3) := blk_cell hbx 3
    have b4 : W1.cell? ⟨w.heap.size, 4, none⟩ = some (.slice A4 p.f4.length c4) := blk_cell hbx 4
    clear hW1 hon hbx hrm hres0 hsz1
    go_region
    obtain ⟨r', hr'⟩ : ∃ r', r' = r - (1 + (p.f3.length : Int)) := ⟨_, rfl⟩
    rw [← hr']
    obtain ⟨W2, hW2⟩ : ∃ W2, W2 = (W1.setCell ⟨g, 0, none⟩ (.int .i64 r')).drew := ⟨_, rfl⟩
    rw [← hW2]
    have hon : Only (fun i => i = g) w W2 := by rw [hW2]; exact (HON.out.setCell (a := ⟨g, 0, none⟩) (fun _ => rfl) _).drew
    have hrm : W2.heap[g]? = some (.cells #[.int .i64 r'] 3 (0, 0)) := by rw [hW2]; exact blk_set HRM.out 0 _
    have hbx : W2.heap[w.heap.size]? = some (.cells #[.int .i64 p.f0, .int .i64 p.f1, .bool p.f2, .slice A3 p.f3.length c3, .slice A4 p.f4.length c4] 27 (0, 0)) := by
      rw [hW2]; exact blk_far HBX.out (p := ⟨g, 0, none⟩) (by show w.heap.size ≠ g; omega) _
    have hres : W2.heap[w.heap.size + 1]? = some (.cells #[.int .i64 0, .int .i64 0, .bool false, .slice none 0 0, .slice none 0 0] 33 (0, 0)) := by
      rw [hW2]; exact blk_far HRES.out (p := ⟨g, 0, none⟩) (by show w.heap.size + 1 ≠ g; omega) _
    have hsz : W2.heap.size = w.heap.size + 2 := by rw [hW2]; show (W1.setCell _ _).heap.size = _; simp [HSZ.out]
    clear HON HBX HRM HRES HSZ c0 f0 b0 b1 b2 b3 b4 hW2
    have HON := Lib.hid hon
    have HBX := Lib.hid hbx
    have HRM := Lib.hid hrm
    have HRES := Lib.hid hres
    have HSZ := Lib.hid hsz
    have c0 : W2.cell? ⟨g, 0, none⟩ = some (.int .i64 r') := blk_cell hrm 0
    have b0 : W2.cell? ⟨w.heap.size, 0, none⟩ = some (.int .i64 p.f0) := blk_cell hbx 0
    have b1 : W2.cell? ⟨w.heap.size, 1, none⟩ = some (.int .i64 p.f1) := blk_cell hbx 1
    have b2 : W2.cell? ⟨w.heap.size, 2, none⟩ = some (.bool p.f2) := blk_cell hbx 2
    have b3 : W2.cell? ⟨w.heap.size, 3, none⟩ = some (.slice A3 p.f3.length c3) := blk_cell hbx 3
    have b4 : W2.cell? ⟨w.heap.size, 4, none⟩ = some (.slice A4 p.f4.length c4) := blk_cell hbx 4
    have k0 : W2.cell? ⟨w.heap.size + 1, 0, none⟩ = some (.int .i64 0) := blk_cell hres 0
    have k1 : W2.cell? ⟨w.heap.size + 1, 1, none⟩ = some (.int .i64 0) := blk_cell hres 1
    have k2 : W2.cell? ⟨w.heap.size + 1, 2, none⟩ = some (.bool false) := blk_cell hres 2
    have k3 : W2.cell? ⟨w.heap.size + 1, 3, none⟩ = some (.slice none 0 0) := blk_cell hres 3
    have k4 : W2.cell? ⟨w.heap.size + 1, 4, none⟩ = some (.slice none 0 0) := blk_cell hres 4
    have kf0 : W2.frozen? ⟨w.heap.size + 1, 0, none⟩ = false := blk_frozen hres 0
    have kf1 : W2.frozen? ⟨w.heap.size + 1, 1, none⟩ = false := blk_frozen hres 1
    have kf2 : W2.frozen? ⟨w.heap.size + 1, 2, none⟩ = false := blk_frozen hres 2
    have kf3 : W2.frozen? ⟨w.heap.size + 1, 3, none⟩ = false := blk_frozen hres 3
    have kf4 : W2.frozen? ⟨w.heap.size + 1, 4, none⟩ = false := blk_frozen hres 4
    have b4a : ∀ o, (W2.alloc o).cell? ⟨w.heap.size, 4, none⟩ = some (.slice A4 p.f4.length c4) := fun o => (World.cell?_of_block (a := ⟨w.heap.size, 4, none⟩) (Below.heap_alloc W2 o _ (by show w.heap.size < _; omega))).trans b4
    clear hon hbx hrm hres hsz
    have HR' := Lib.hid hr'
    have hlo : r' ≤ 1000000 := by omega
    clear hr'
    by_cases hneg : r' < 0
    · have hwi : fin = (bad, r') := by
        rw [hfin0]
        cases d with
        | zero => rw [wi, ← HR'.out]
        | succ d => rw [wi, ← HR'.out, if_pos hneg]
      clear hfin0 ih'
      subst hwi
      go_wp2
      obtain ⟨W3, hW3⟩ : ∃ W3, W3 = (((((W2.setCell ⟨w.heap.size + 1, 0, none⟩ (.int .i64 (-1))).setCell ⟨w.heap.size + 1, 1, none⟩ (.int .i64 0)).setCell ⟨w.heap.size + 1, 2, none⟩ (.bool false)).setCell ⟨w.heap.size + 1, 3, none⟩ (.slice none 0 0)).setCell ⟨w.heap.size + 1, 4, none⟩ (.slice none 0 0)) := ⟨_, rfl⟩
      rw [← hW3]
      obtain ⟨h5, hend⟩ := bad_end (w0 := w0) HON.out HRM.out HRES.out (by omega) (by omega) hW3
      try simp only [Exit.inBlock, Exit.then]
      exact bodyPost_ret (results_c rfl _ _ _ _ _ _ _ rfl h5 Tryd.underlying33 rfl size33) rfl hend
    · have hge : 0 ≤ r' := by omega
      rcases d with _ | d
      · have hwi : fin = (bad, r') := by rw [hfin0, wi, ← HR'.out]
        clear hfin0 ih'
        subst hwi
        go_wp2
        obtain ⟨W3, hW3⟩ : ∃ W3, W3 = (((((W2.setCell ⟨w.heap.size + 1, 0, none⟩ (.int .i64 (-1))).setCell ⟨w.heap.size + 1, 1, none⟩ (.int .i64 0)).setCell ⟨w.heap.size + 1, 2, none⟩ (.bool false)).setCell ⟨w.heap.size + 1, 3, none⟩ (.slice none 0 0)).setCell ⟨w.heap.size + 1, 4, none⟩ (.slice none 0 0)) := ⟨_, rfl⟩
        rw [← hW3]
        obtain ⟨h5, hend⟩ := bad_end (w0 := w0) HON.out HRM.out HRES.out (by omega) (by omega) hW3
        try simp only [Exit.inBlock, Exit.then]
        exact bodyPost_ret (results_c rfl _ _ _ _ _ _ _ rfl h5 Tryd.underlying33 rfl size33) rfl hend
      have ih := ih' d (by omega)
      clear ih'
      have hwi : fin = wiL d p p.f4 [] r' := by rw [hfin0, wi, ← HR'.out, if_neg hneg]
      clear hfin0
      have HWI := Lib.hid hwi
      clear hwi
      go_wp2
      obtain ⟨W3, hW3⟩ : ∃ W3, W3 = W2.alloc (.cells #[.int .i64 p.f0, .int .i64 p.f1, .bool p.f2, .slice A3 p.f3.length c3, .slice none 0 0] 33) := ⟨_, rfl⟩
      rw [← hW3, HSZ.out]
      have hI : Inv w0 w W3 g p A3 c3 r' (.slice none 0 0) [] := by
        rw [hW3]
        refine ⟨HON.out.alloc _, blk_alloc HRM.out _, blk_alloc HRES.out _, ?_, Kd.R_nil _ _ _ _ _⟩
        rw [← HSZ.out]
        exact blk_new _ _
      have HI := Lib.hid hI
      clear hI hW3 c0 b0 b1 b2 b3 b4 k0 k1 k2 k3 k4 kf0 kf1 kf2 kf3 kf4 b4a HON HBX HRM HRES HSZ
      go_loopw [40] (fun i wr => ∃ (k : Nat) (acc : List S33) (rr : Int) (v : Value), k ≤ p.f4.length ∧ i = .int .i64 k ∧ Hid (wiL d p (p.f4.drop k) acc rr = wiL d p p.f4 [] r') ∧ Hid ((acc.length : Int) + rr ≤ 1000000) ∧ Hid (Inv w0 w wr g p A3 c3 rr v acc)) (fun i _ => p.f4.length - (intOf i).toNat)
      case atStart => exact ⟨0, [], r', .slice none 0 0, Nat.zero_le _, rfl, Lib.hid rfl, Lib.hid (by simp; omega), HI⟩
      case round =>
        obtain ⟨k, acc, rr, v, hk, rfl, HW, HL, HV⟩ := hrel
        clear HI
        by_cases hlt : k < p.f4.length
        · have hBw : Below w0.heap.size w0 wr := HB.out.trans (HV.out.on.below HB.out.size (fun i hi => by have := HG0.out; omega))
          obtain ⟨ad, A3', c3', A4', c4', rfl, e0, e1, e2, e3, e4, m3, n3, m4, n4⟩ := at_T27 H4.out (k : Int) (by omega) (by omega)
          rw [Int.toNat_natCast] at e0 e1 e2 e3 e4
          obtain ⟨kid, hkid⟩ : ∃ kid, kid = rd_T27 p.f4 (k : Int) := ⟨_, rfl⟩
          rw [← hkid] at e0 e1 e2 e3 e4 m3 n3 m4 n4
          have HK := Lib.hid hkid
          clear hkid
          replace e0 := (hBw.cell (World.block_lt_of_cell? w0 _ e0)).trans e0
          replace e1 := (hBw.cell (World.block_lt_of_cell? w0 _ e1)).trans e1
          replace e2 := (hBw.cell (World.block_lt_of_cell? w0 _ e2)).trans e2
          replace e3 := (hBw.cell (World.block_lt_of_cell? w0 _ e3)).trans e3
          replace e4 := (hBw.cell (World.block_lt_of_cell? w0 _ e4)).trans e4
          have hg' := blk_lt HV.out.rm
          have r0 : ∀ o, (wr.alloc o).cell? ⟨g, 0, none⟩ = some (.int .i64 rr) := fun o => blk_cell (blk_alloc HV.out.rm o) 0
          by_cases hrr : rr < 0
          · have hdrop : p.f4.drop k = kid :: p.f4.drop (k + 1) := by
              rw [HK.out, rd_T27, Int.toNat_natCast, List.getD_eq_getElem?_getD, List.getElem?_eq_getElem hlt]
              exact List.drop_eq_getElem_cons hlt
            have hwi : fin = (bad, rr) := by rw [HWI.out, ← HW.out, hdrop, wiL, if_pos hrr]
            subst hwi
            have kz : ∀ o, (wr.alloc o).heap[w.heap.size + 1]? = some (.cells #[.int .i64 0, .int .i64 0, .bool false, .slice none 0 0, .slice none 0 0] 33 (0, 0)) := fun o => blk_alloc HV.out.res o
            have k0 : ∀ o, (wr.alloc o).cell? ⟨w.heap.size + 1, 0, none⟩ = some (.int .i64 0) := fun o => blk_cell (kz o) 0
            have k1 : ∀ o, (wr.alloc o).cell? ⟨w.heap.size + 1, 1, none⟩ = some (.int .i64 0) := fun o => blk_cell (kz o) 1
            have k2 : ∀ o, (wr.alloc o).cell? ⟨w.heap.size + 1, 2, none⟩ = some (.bool false) := fun o => blk_cell (kz o) 2
            have k3 : ∀ o, (wr.alloc o).cell? ⟨w.heap.size + 1, 3, none⟩ = some (.slice none 0 0) := fun o => blk_cell (kz o) 3
            have k4 : ∀ o, (wr.alloc o).cell? ⟨w.heap.size + 1, 4, none⟩ = some (.slice none 0 0) := fun o => blk_cell (kz o) 4
            have kf0 : ∀ o, (wr.alloc o).frozen? ⟨w.heap.size + 1, 0, none⟩ = false := fun o => blk_frozen (kz o) 0
            have kf1 : ∀ o, (wr.alloc o).frozen? ⟨w.heap.size + 1, 1, none⟩ = false := fun o => blk_frozen (kz o) 1
            have kf2 : ∀ o, (wr.alloc o).frozen? ⟨w.heap.size + 1, 2, none⟩ = false := fun o => blk_frozen (kz o) 2
            have kf3 : ∀ o, (wr.alloc o).frozen? ⟨w.heap.size + 1, 3, none⟩ = false := fun o => blk_frozen (kz o) 3
            have kf4 : ∀ o, (wr.alloc o).frozen? ⟨w.heap.size + 1, 4, none⟩ = false := fun o => blk_frozen (kz o) 4
            have KZ := Lib.hid kz
            clear kz
            go_wp2
            obtain ⟨h5, hend⟩ := bad_end (w0 := w0) (HV.out.on.alloc _) (blk_alloc HV.out.rm _) (KZ.out _) (by omega) (by omega) rfl
            try simp only [Exit.inBlock, Exit.then]
            exact bodyPost_ret (results_c rfl _ _ _ _ _ _ _ rfl h5 Tryd.underlying33 rfl size33) rfl hend
          · have hrr' : 0 ≤ rr := by omega
            go_wp2_with fail
            obtain ⟨W5, hW5⟩ : ∃ W5, W5 = wr.alloc (.cells #[.int .i64 kid.f0, .int .i64 kid.f1, .bool kid.f2, .slice A3' kid.f3.length c3', .slice A4' kid.f4.length c4'] 27) := ⟨_, rfl⟩
            rw [← hW5]
            have hb5 : Below wr.heap.size wr W5 := by rw [hW5]; exact below_alloc (Below.refl _ _) _
            have hk5 : W5.heap[wr.heap.size]? = some (.cells #[.int .i64 kid.f0, .int .i64 kid.f1, .bool kid.f2, .slice A3' kid.f3.length c3', .slice A4' kid.f4.length c4'] 27 (0, 0)) := by rw [hW5]; exact blk_new _ _
            have HC : Hid (∀ dv : Int, dv = (d : Int) → Calls Tryd.prog 70 #[.agg #[.int .i64 kid.f0, .int .i64 kid.f1, .bool kid.f2, .slice A3' kid.f3.length c3', .slice A4' kid.f4.length c4'], .int .i64 dv, .pointer (some ⟨g, 0, none⟩)] W5.drew (Read w0 W5.drew g (wi d kid rr).1 (wi d kid rr).2)) := Lib.hid (fun dv hdv => by
              rw [hdv]
              exact ih (by omega) kid A3' c3' A4' c4' rr g W5.drew n3 m3 n4 m4 (by
                have := List.all_eq_true.1 ((lensL_all _).symm.trans HLN.out) kid (by
                  rw [HK.out, rd_T27, Int.toNat_natCast, List.getD_eq_getElem?_getD, List.getElem?_eq_getElem hlt]
                  exact List.getElem_mem hlt)
                exact this) hrr' (by have := HL.out; omega) (blk_below (w1 := W5) HV.out.rm hb5) HG0.out (hBw.trans (Below.drew (hb5.mono hBw.size))))
            have hwd : IntKind.i64.wrap (d : Int) = (d : Int) := by rw [IntKind.wrap_i64]; omega
            have HI2 := Lib.hid (HV.out.step (W' := W5.drew) (below_drew hb5))
            have s0 : W5.cell? ⟨w.heap.size + 2, 4, none⟩ = some v := blk_cell HI2.out.out 4
            have s1 : W5.cell? ⟨wr.heap.size, 0, none⟩ = some (.int .i64 kid.f0) := blk_cell hk5 0
            have s2 : W5.cell? ⟨wr.heap.size, 1, none⟩ = some (.int .i64 kid.f1) := blk_cell hk5 1
            have s3 : W5.cell? ⟨wr.heap.size, 2, none⟩ = some (.bool kid.f2) := blk_cell hk5 2
            have s4 : W5.cell? ⟨wr.heap.size, 3, none⟩ = some (.slice A3' kid.f3.length c3') := blk_cell hk5 3
            have s5 : W5.cell? ⟨wr.heap.size, 4, none⟩ = some (.slice A4' kid.f4.length c4') := blk_cell hk5 4
            have HB5 := Lib.hid hb5
            have HK5 := Lib.hid hk5
            clear e0 e1 e2 e3 e4 m3 n3 m4 n4 r0 hW5 hb5 hk5
            go_region_law (first
              | ((refine Kd.R_append_step (km w0) (w0 := W4) (W := W4) w.heap.size (by rfl) (.tmp 50) (.tmp 56) 31 33 (.agg #[.int .i64 0, .int .i64 0, .bool false, .slice none 0 0, .slice none 0 0]) 72 (by rfl) Tryd.underlying31 info33 rfl (show 0 < 5 by decide) (by decide) v acc (wi d kid rr).1 _ (fun k => k ≠ w.heap.size + 1 ∧ k ≠ w.heap.size + 2) _ (by rfl) (by rfl) HM4.out (HI2.out.okp hgw) HI4.out.fresh HI4.out.row (Below.refl _ _) HI4.out.on.size (by have := HL.out; omega) ?_
                  intro v1 w1 hR1 hb1 hg1 hat1
                  have hne := HI4.out.ne
                  have hnb : some wr.heap.size ≠ v.ownBlock := fun e => by
                    have := own_lt HV.out.row.2.choose_spec.1 _ e.symm
                    omega
                  have x0 : w1.cell? ⟨w.heap.size + 2, 4, none⟩ = some v := blk_cell (blk_grown HI4.out.out hg1 hne) 4
                  have xf : w1.frozen? ⟨w.heap.size + 2, 4, none⟩ = false := blk_frozen (blk_grown HI4.out.out hg1 hne) 4
                  have x1 : w1.cell? ⟨wr.heap.size, 0, none⟩ = some (.int .i64 kid.f0) := blk_cell (blk_grown HK4.out hg1 hnb) 0
                  have x2 : w1.cell? ⟨wr.heap.size, 1, none⟩ = some (.int .i64 kid.f1) := blk_cell (blk_grown HK4.out hg1 hnb) 1
                  have x3 : w1.cell? ⟨wr.heap.size, 2, none⟩ = some (.bool kid.f2) := blk_cell (blk_grown HK4.out hg1 hnb) 2
                  have x4 : w1.cell? ⟨wr.heap.size, 3, none⟩ = some (.slice A3' kid.f3.length c3') := blk_cell (blk_grown HK4.out hg1 hnb) 3
                  have x5 : w1.cell? ⟨wr.heap.size, 4, none⟩ = some (.slice A4' kid.f4.length c4') := blk_cell (blk_grown HK4.out hg1 hnb) 4
                  have hnn : wr.heap.size ≠ w.heap.size + 2 := by have := blk_lt HV.out.out; omega
                  have y1 : ∀ u, (w1.setCell ⟨w.heap.size + 2, 4, none⟩ u).cell? ⟨wr.heap.size, 0, none⟩ = some (.int .i64 kid.f0) := fun u => blk_cell (blk_far (blk_grown HK4.out hg1 hnb) (p := ⟨w.heap.size + 2, 4, none⟩) hnn u) 0
                  have y2 : ∀ u, (w1.setCell ⟨w.heap.size + 2, 4, none⟩ u).cell? ⟨wr.heap.size, 1, none⟩ = some (.int .i64 kid.f1) := fun u => blk_cell (blk_far (blk_grown HK4.out hg1 hnb) (p := ⟨w.heap.size + 2, 4, none⟩) hnn u) 1
                  have y3 : ∀ u, (w1.setCell ⟨w.heap.size + 2, 4, none⟩ u).cell? ⟨wr.heap.size, 2, none⟩ = some (.bool kid.f2) := fun u => blk_cell (blk_far (blk_grown HK4.out hg1 hnb) (p := ⟨w.heap.size + 2, 4, none⟩) hnn u) 2
                  have y4 : ∀ u, (w1.setCell ⟨w.heap.size + 2, 4, none⟩ u).cell? ⟨wr.heap.size, 3, none⟩ = some (.slice A3' kid.f3.length c3') := fun u => blk_cell (blk_far (blk_grown HK4.out hg1 hnb) (p := ⟨w.heap.size + 2, 4, none⟩) hnn u) 3
                  have y5 : ∀ u, (w1.setCell ⟨w.heap.size + 2, 4, none⟩ u).cell? ⟨wr.heap.size, 4, none⟩ = some (.slice A4' kid.f4.length c4') := fun u => blk_cell (blk_far (blk_grown HK4.out hg1 hnb) (p := ⟨w.heap.size + 2, 4, none⟩) hnn u) 4
                  obtain ⟨Aq, cq, hvq, _, _⟩ := Kd.R_reads hR1
                  subst hvq
                  have h6 := HI4.out.app hgw hg1 hat1 hR1
                  simp only [List.length_append, List.length_singleton] at h6
                  have HI6 := Lib.hid h6
                  clear h6 hR1 hb1 hg1 hat1 hne hnb hnn))
              | (go_wp2_with (go_at_call 70
                              with_reducible refine (HC.out _ rfl).mono ?_
                              rintro e W4 hR4
                              obtain ⟨c4, rfl, hI4, hM4⟩ := HI2.out.read hgw hR4
                              have hk4 : W4.heap[wr.heap.size]? = some (.cells #[.int .i64 kid.f0, .int .i64 kid.f1, .bool kid.f2, .slice A3' kid.f3.length c3', .slice A4' kid.f4.length c4'] 27 (0, 0)) := by
                                obtain ⟨_, _, _, _, hon4⟩ := hR4
                                exact (hon4.block _ (blk_lt HK5.out) (by show ¬ _ = g; omega)).trans HK5.out
                              obtain ⟨A5, c5, v5, rfl, l5, g5, r5⟩ := km_openM hM4
                              have t0 : W4.cell? ⟨w.heap.size + 2, 4, none⟩ = some v := blk_cell hI4.out 4
                              have t1 : W4.cell? ⟨wr.heap.size, 0, none⟩ = some (.int .i64 kid.f0) := blk_cell hk4 0
                              have t2 : W4.cell? ⟨wr.heap.size, 1, none⟩ = some (.int .i64 kid.f1) := blk_cell hk4 1
                              have t3 : W4.cell? ⟨wr.heap.size, 2, none⟩ = some (.bool kid.f2) := blk_cell hk4 2
                              have t4 : W4.cell? ⟨wr.heap.size, 3, none⟩ = some (.slice A3' kid.f3.length c3') := blk_cell hk4 3
                              have t5 : W4.cell? ⟨wr.heap.size, 4, none⟩ = some (.slice A4' kid.f4.length c4') := blk_cell hk4 4
                              have u0 : ∀ o, (W4.alloc o).cell? ⟨w.heap.size + 2, 4, none⟩ = some v := fun o => blk_cell (blk_alloc hI4.out o) 4
                              have u1 : ∀ o, (W4.alloc o).cell? ⟨wr.heap.size, 0, none⟩ = some (.int .i64 kid.f0) := fun o => blk_cell (blk_alloc hk4 o) 0
                              have u2 : ∀ o, (W4.alloc o).cell? ⟨wr.heap.size, 1, none⟩ = some (.int .i64 kid.f1) := fun o => blk_cell (blk_alloc hk4 o) 1
                              have u3 : ∀ o, (W4.alloc o).cell? ⟨wr.heap.size, 2, none⟩ = some (.bool kid.f2) := fun o => blk_cell (blk_alloc hk4 o) 2
                              have u4 : ∀ o, (W4.alloc o).cell? ⟨wr.heap.size, 3, none⟩ = some (.slice A3' kid.f3.length c3') := fun o => blk_cell (blk_alloc hk4 o) 3
                              have u5 : ∀ o, (W4.alloc o).cell? ⟨wr.heap.size, 4, none⟩ = some (.slice A4' kid.f4.length c4') := fun o => blk_cell (blk_alloc hk4 o) 4
                              have HI4 := Lib.hid hI4
                              have HM4 := Lib.hid hM4
                              have HK4 := Lib.hid hk4
                              clear hI4 hM4 hk4 hR4)))
            all_goals (
              go_wp2
              go_roundw
              case rel =>
                refine ⟨k + 1, acc ++ [(wi d kid rr).1], (wi d kid rr).2, _, by omega, by go_num, Lib.hid ?_, Lib.hid ?_, HI6⟩
                · have hdrop : p.f4.drop k = kid :: p.f4.drop (k + 1) := by
                    rw [HK.out, rd_T27, Int.toNat_natCast, List.getD_eq_getElem?_getD, List.getElem?_eq_getElem hlt]
                    exact List.drop_eq_getElem_cons hlt
                  rw [← HW.out, hdrop, wiL, if_neg (show ¬ rr < 0 by omega)]
                · have h1 := wi_le d kid rr
                  have h2 := HL.out
                  rw [List.length_append, List.length_singleton]
                  push_cast
                  omega
              case measure => simp [intOf]; omega)
        · obtain rfl : k = p.f4.length := by omega
          have hfin : fin = (⟨p.f0, p.f1, p.f2, p.f3, acc⟩, rr) := by rw [HWI.out, ← HW.out, List.drop_length, wiL]
          subst hfin
          obtain ⟨Av, cv, rfl, hav, hcv⟩ := Kd.R_reads HV.out.row
          have o0 : wr.cell? ⟨w.heap.size + 2, 0, none⟩ = some (.int .i64 p.f0) := blk_cell HV.out.out 0
          have o1 : wr.cell? ⟨w.heap.size + 2, 1, none⟩ = some (.int .i64 p.f1) := blk_cell HV.out.out 1
          have o2 : wr.cell? ⟨w.heap.size + 2, 2, none⟩ = some (.bool p.f2) := blk_cell HV.out.out 2
          have o3 : wr.cell? ⟨w.heap.size + 2, 3, none⟩ = some (.slice A3 p.f3.length c3) := blk_cell HV.out.out 3
          have o4 : wr.cell? ⟨w.heap.size + 2, 4, none⟩ = some (.slice Av acc.length cv) := blk_cell HV.out.out 4
          clear hav hcv
          have kf0 : wr.frozen? ⟨w.heap.size + 1, 0, none⟩ = false := blk_frozen HV.out.res 0
          have kf1 : wr.frozen? ⟨w.heap.size + 1, 1, none⟩ = false := blk_frozen HV.out.res 1
          have kf2 : wr.frozen? ⟨w.heap.size + 1, 2, none⟩ = false := blk_frozen HV.out.res 2
          have kf3 : wr.frozen? ⟨w.heap.size + 1, 3, none⟩ = false := blk_frozen HV.out.res 3
          have kf4 : wr.frozen? ⟨w.heap.size + 1, 4, none⟩ = false := blk_frozen HV.out.res 4
          have k0 : wr.cell? ⟨w.heap.size + 1, 0, none⟩ = some (.int .i64 0) := blk_cell HV.out.res 0
          have k1 : wr.cell? ⟨w.heap.size + 1, 1, none⟩ = some (.int .i64 0) := blk_cell HV.out.res 1
          have k2 : wr.cell? ⟨w.heap.size + 1, 2, none⟩ = some (.bool false) := blk_cell HV.out.res 2
          have k3 : wr.cell? ⟨w.heap.size + 1, 3, none⟩ = some (.slice none 0 0) := blk_cell HV.out.res 3
          have k4 : wr.cell? ⟨w.heap.size + 1, 4, none⟩ = some (.slice none 0 0) := blk_cell HV.out.res 4
          go_wp2
          try simp only [Exit.inBlock, Exit.then]
          obtain ⟨h5, hend⟩ := out_end HV.out hgw l3 H3.out rfl
          exact bodyPost_ret (results_c rfl _ _ _ _ _ _ _ rfl h5 Tryd.underlying33 rfl size33) rfl hend
end Go.Proofs.YtbmcpjkhnhbjdaaDoor.Within

namespace Go.Proofs.YtbmcpjkhnhbjdaaDoor.Within
open Go.RowKit Go.Proofs.YtbmcpjkhnhbjdaaDoorW.PrintWords Go.Proofs.YtbmcpjkhnhbjdaaDoor.PFnEncode Go.Proofs.YtbmcpjkhnhbjdaaDoor.Tree Go.Proofs.YtbmcpjkhnhbjdaaDoor.Buf
set_option linter.unusedVariables false
set_option linter.unusedSimpArgs false

/-- What reading a packet leaves: the reference's packet x, read now. -/
def Got (w : World) (x : S33) (e : Ending) (w' : World) : Prop :=
  ∃ A3 c3 A4 c4, e = .returned (.agg #[.int .i64 x.f0, .int .i64 x.f1, .bool x.f2, .slice A3 x.f3.length c3, .slice A4 x.f4.length c4]) ∧ x.f3.length ≤ c3 ∧ (Kd.int .u8).C w' A3 x.f3.length x.f3 ∧ x.f4.length ≤ c4 ∧ k33.C w' A4 x.f4.length x.f4 ∧ Below w.heap.size w w'

/-- the end of both -/
theorem pk_end {w W W3 : World} {B : Nat} {x : S33} {A5 A6 : Option Addr} {c5 c6 : Nat} {z0 z1 z2 z3 z4 : Value} (hb : Below w.heap.size w W) (hres : W.heap[w.heap.size + 1]? = some (.cells #[z0, z1, z2, z3, z4] 33 (0, 0))) (hB : w.heap.size + 1 < B) (l5 : x.f3.length ≤ c5) (g5 : (Kd.int .u8).C w A5 x.f3.length x.f3) (r5 : (km w).R 33 W B (fun _ => True) (.slice A6 x.f4.length c6) x.f4)
    (hW3 : W3 = (((((W.setCell ⟨w.heap.size + 1, 0, none⟩ (.int .i64 x.f0)).setCell ⟨w.heap.size + 1, 1, none⟩ (.int .i64 x.f1)).setCell ⟨w.heap.size + 1, 2, none⟩ (.bool x.f2)).setCell ⟨w.heap.size + 1, 3, none⟩ (.slice A5 x.f3.length c5)).setCell ⟨w.heap.size + 1, 4, none⟩ (.slice A6 x.f4.length c6))) :
    W3.heap[w.heap.size + 1]? = some (.cells #[.int .i64 x.f0, .int .i64 x.f1, .bool x.f2, .slice A5 x.f3.length c5, .slice A6 x.f4.length c6] 33 (0, 0)) ∧ Got w x (.returned (.agg #[.int .i64 x.f0, .int .i64 x.f1, .bool x.f2, .slice A5 x.f3.length c5, .slice A6 x.f4.length c6])) W3 := by
  have h5 := blk_set (blk_set (blk_set (blk_set (blk_set hres 0 (.int .i64 x.f0)) 1 (.int .i64 x.f1)) 2 (.bool x.f2)) 3 (.slice A5 x.f3.length c5)) 4 (.slice A6 x.f4.length c6)
  rw [← hW3] at h5
  have hb3 : Below w.heap.size w W3 := by
    rw [hW3]
    exact ((((hb.setCell (p := ⟨w.heap.size + 1, 0, none⟩) (by show w.heap.size ≤ w.heap.size + 1; omega) _).setCell (p := ⟨w.heap.size + 1, 1, none⟩) (by show w.heap.size ≤ w.heap.size + 1; omega) _).setCell (p := ⟨w.heap.size + 1, 2, none⟩) (by show w.heap.size ≤ w.heap.size + 1; omega) _).setCell (p := ⟨w.heap.size + 1, 3, none⟩) (by show w.heap.size ≤ w.heap.size + 1; omega) _).setCell (p := ⟨w.heap.size + 1, 4, none⟩) (by show w.heap.size ≤ w.heap.size + 1; omega) _
  have hr : (km w).R 33 W3 B (fun k => k ≠ w.heap.size + 1) (.slice A6 x.f4.length c6) x.f4 := by
    have h0 : (km w).R 33 W B (fun k => k ≠ w.heap.size + 1) (.slice A6 x.f4.length c6) x.f4 := Kd.R_mono (Kd.R_bound r5) (fun k hk => by have := hk.2.1; omega)
    rw [hW3]
    exact Kd.R_far (Kd.R_far (Kd.R_far (Kd.R_far (Kd.R_far h0 (p := ⟨w.heap.size + 1, 0, none⟩) (fun k hk => hk) _) (p := ⟨w.heap.size + 1, 1, none⟩) (fun k hk => hk) _) (p := ⟨w.heap.size + 1, 2, none⟩) (fun k hk => hk) _) (p := ⟨w.heap.size + 1, 3, none⟩) (fun k hk => hk) _) (p := ⟨w.heap.size + 1, 4, none⟩) (fun k hk => hk) _
  obtain ⟨_, l6, r6⟩ := Kd.R_reads' hr
  exact ⟨h5, A5, c5, A6, c6, rfl, l5, Kd.C_below g5 hb3, l6, Kd.C_read (dm := km w) (d := k33) rfl (fun x cs hp => km_read hb3 hp) r6, hb3⟩

set_option maxHeartbeats 6400000 in
set_option maxRecDepth 100000 in
theorem packet_any (p : S27) (A3 : Option Addr) (c3 : Nat) (A4 : Option Addr) (c4 : Nat) (w : World) (h3 : (Kd.int .u8).C w A3 p.f3.length p.f3) (l3 : p.f3.length ≤ c3) (h4 : k27.C w A4 p.f4.length p.f4) (l4 : p.f4.length ≤ c4) (hln : lens p = true) :
    Calls Tryd.prog 36 #[.agg #[.int .i64 p.f0, .int .i64 p.f1, .bool p.f2, .slice A3 p.f3.length c3, .slice A4 p.f4.length c4]] w (Got w (wi 20 p 5000).1) := by
  obtain ⟨W1, hW1⟩ : ∃ W1, W1 = ((w.alloc (.cells #[.int .i64 p.f0, .int .i64 p.f1, .bool p.f2, .slice A3 p.f3.length c3, .slice A4 p.f4.length c4] 27)).alloc (.cells #[.int .i64 0, .int .i64 0, .bool false, .slice none 0 0, .slice none 0 0] 33)).alloc (.cells #[.int .i64 5000] 3) := ⟨_, rfl⟩
  have hb : Below w.heap.size w W1 := by rw [hW1]; exact below_alloc (below_alloc (below_alloc (Below.refl _ _) _) _) _
  have hrm : W1.heap[w.heap.size + 1 + 1]? = some (.cells #[.int .i64 5000] 3 (0, 0)) := by
    have := blk_new ((w.alloc (.cells #[.int .i64 p.f0, .int .i64 p.f1, .bool p.f2, .slice A3 p.f3.length c3, .slice A4 p.f4.length c4] 27)).alloc (.cells #[.int .i64 0, .int .i64 0, .bool false, .slice none 0 0, .slice none 0 0] 33)) (.cells #[.int .i64 5000] 3)
    rw [hW1]
    simpa using this
  have hres : W1.heap[w.heap.size + 1]? = some (.cells #[.int .i64 0, .int .i64 0, .bool false, .slice none 0 0, .slice none 0 0] 33 (0, 0)) := by
    have := blk_alloc (blk_new (w.alloc (.cells #[.int .i64 p.f0, .int .i64 p.f1, .bool p.f2, .slice A3 p.f3.length c3, .slice A4 p.f4.length c4] 27)) (.cells #[.int .i64 0, .int .i64 0, .bool false, .slice none 0 0, .slice none 0 0] 33)) (.cells #[.int .i64 5000] 3)
    rw [hW1]
    simpa using this
  have HC : Hid (Calls Tryd.prog 70 #[.agg #[.int .i64 p.f0, .int .i64 p.f1, .bool p.f2, .slice A3 p.f3.length c3, .slice A4 p.f4.length c4], .int .i64 20, .pointer (some ⟨w.heap.size + 1 + 1, 0, none⟩)] W1 (Read w W1 (w.heap.size + 1 + 1) (wi 20 p 5000).1 (wi 20 p 5000).2)) :=
    Lib.hid (within_any w 20 (by omega) p A3 c3 A4 c4 5000 (w.heap.size + 1 + 1) W1 h3 l3 h4 l4 hln (by omega) (by omega) hrm (by omega) hb)
  obtain ⟨x, hx⟩ : ∃ x, x = (wi 20 p 5000).1 := ⟨_, rfl⟩
  rw [← hx] at HC ⊢
  have HX := Lib.hid hx
  have HB := Lib.hid hb
  have HRES := Lib.hid hres
  have HW1 := Lib.hid hW1
  clear hx hb hres hrm hW1 h3 h4 hln
  go_enter Tryd.func36, Tryd.ntmps36
  go_wp2_with fail
  rw [← HW1.out]
  refine HC.out.mono ?_
  rintro e W4 ⟨c, rfl, hM, hrm4, hon4⟩
  obtain ⟨A5, c5, v5, rfl, l5, g5, r5⟩ := km_openM hM
  obtain ⟨A6, c6, rfl, l6, r6⟩ := Kd.R_reads r5
  have hB4 : Below w.heap.size w W4 := HB.out.trans (hon4.below HB.out.size (fun i hi => by omega))
  have hres4 : W4.heap[w.heap.size + 1]? = some (.cells #[.int .i64 0, .int .i64 0, .bool false, .slice none 0 0, .slice none 0 0] 33 (0, 0)) := (hon4.block _ (blk_lt HRES.out) (by show ¬ _ = w.heap.size + 1 + 1; omega)).trans HRES.out
  clear l6 r6
  have kf0 : W4.frozen? ⟨w.heap.size + 1, 0, none⟩ = false := blk_frozen hres4 0
  have kf1 : W4.frozen? ⟨w.heap.size + 1, 1, none⟩ = false := blk_frozen hres4 1
  have kf2 : W4.frozen? ⟨w.heap.size + 1, 2, none⟩ = false := blk_frozen hres4 2
  have kf3 : W4.frozen? ⟨w.heap.size + 1, 3, none⟩ = false := blk_frozen hres4 3
  have kf4 : W4.frozen? ⟨w.heap.size + 1, 4, none⟩ = false := blk_frozen hres4 4
  have k0 : W4.cell? ⟨w.heap.size + 1, 0, none⟩ = some (.int .i64 0) := blk_cell hres4 0
  have k1 : W4.cell? ⟨w.heap.size + 1, 1, none⟩ = some (.int .i64 0) := blk_cell hres4 1
  have k2 : W4.cell? ⟨w.heap.size + 1, 2, none⟩ = some (.bool false) := blk_cell hres4 2
  have k3 : W4.cell? ⟨w.heap.size + 1, 3, none⟩ = some (.slice none 0 0) := blk_cell hres4 3
  have k4 : W4.cell? ⟨w.heap.size + 1, 4, none⟩ = some (.slice none 0 0) := blk_cell hres4 4
  have R5 := Lib.hid r5
  have G5 := Lib.hid g5
  have HR4 := Lib.hid hres4
  have HB4 := Lib.hid hB4
  have HRM4 := Lib.hid (blk_lt HRES.out)
  clear r5 g5 hres4 hB4 hM hrm4 hon4
  go_wp2
  obtain ⟨h5, hend⟩ := pk_end (x := x) HB4.out HR4.out (by have := HRM4.out; omega) l5 G5.out R5.out rfl
  try simp only [Exit.inBlock, Exit.then]
  exact bodyPost_ret (results_c rfl _ _ _ _ _ _ _ rfl h5 Tryd.underlying33 rfl size33) rfl hend

end Go.Proofs.YtbmcpjkhnhbjdaaDoor.Within

namespace Go.Proofs.YtbmcpjkhnhbjdaaDoor.Within
open Go.RowKit Go.Proofs.YtbmcpjkhnhbjdaaDoorW.PrintWords Go.Proofs.YtbmcpjkhnhbjdaaDoor.PFnEncode Go.Proofs.YtbmcpjkhnhbjdaaDoor.Tree Go.Proofs.YtbmcpjkhnhbjdaaDoor.Buf
set_option linter.unusedVariables false
set_option linter.unusedSimpArgs false

set_option maxHeartbeats 6400000 in
set_option maxRecDepth 100000 in
theorem answer_any (p : S27) (A3 : Option Addr) (c3 : Nat) (A4 : Option Addr) (c4 : Nat) (w : World) (h3 : (Kd.int .u8).C w A3 p.f3.length p.f3) (l3 : p.f3.length ≤ c3) (h4 : k27.C w A4 p.f4.length p.f4) (l4 : p.f4.length ≤ c4) (hln : lens p = true) :
    Calls Tryd.prog 45 #[.agg #[.int .i64 p.f0, .int .i64 p.f1, .bool p.f2, .slice A3 p.f3.length c3, .slice A4 p.f4.length c4]] w (Got w (wi 60 p 200000).1) := by
  obtain ⟨W1, hW1⟩ : ∃ W1, W1 = ((w.alloc (.cells #[.int .i64 p.f0, .int .i64 p.f1, .bool p.f2, .slice A3 p.f3.length c3, .slice A4 p.f4.length c4] 27)).alloc (.cells #[.int .i64 0, .int .i64 0, .bool false, .slice none 0 0, .slice none 0 0] 33)).alloc (.cells #[.int .i64 200000] 3) := ⟨_, rfl⟩
  have hb : Below w.heap.size w W1 := by rw [hW1]; exact below_alloc (below_alloc (below_alloc (Below.refl _ _) _) _) _
  have hrm : W1.heap[w.heap.size + 1 + 1]? = some (.cells #[.int .i64 200000] 3 (0, 0)) := by
    have := blk_new ((w.alloc (.cells #[.int .i64 p.f0, .int .i64 p.f1, .bool p.f2, .slice A3 p.f3.length c3, .slice A4 p.f4.length c4] 27)).alloc (.cells #[.int .i64 0, .int .i64 0, .bool false, .slice none 0 0, .slice none 0 0] 33)) (.cells #[.int .i64 200000] 3)
    rw [hW1]
    simpa using this
  have hres : W1.heap[w.heap.size + 1]? = some (.cells #[.int .i64 0, .int .i64 0, .bool false, .slice none 0 0, .slice none 0 0] 33 (0, 0)) := by
    have := blk_alloc (blk_new (w.alloc (.cells #[.int .i64 p.f0, .int .i64 p.f1, .bool p.f2, .slice A3 p.f3.length c3, .slice A4 p.f4.length c4] 27)) (.cells #[.int .i64 0, .int .i64 0, .bool false, .slice none 0 0, .slice none 0 0] 33)) (.cells #[.int .i64 200000] 3)
    rw [hW1]
    simpa using this
  have HC : Hid (Calls Tryd.prog 70 #[.agg #[.int .i64 p.f0, .int .i64 p.f1, .bool p.f2, .slice A3 p.f3.length c3, .slice A4 p.f4.length c4], .int .i64 60, .pointer (some ⟨w.heap.size + 1 + 1, 0, none⟩)] W1 (Read w W1 (w.heap.size + 1 + 1) (wi 60 p 200000).1 (wi 60 p 200000).2)) :=
    Lib.hid (within_any w 60 (by omega) p A3 c3 A4 c4 200000 (w.heap.size + 1 + 1) W1 h3 l3 h4 l4 hln (by omega) (by omega) hrm (by omega) hb)
  obtain ⟨x, hx⟩ : ∃ x, x = (wi 60 p 200000).1 := ⟨_, rfl⟩
  rw [← hx] at HC ⊢
  have HX := Lib.hid hx
  have HB := Lib.hid hb
  have HRES := Lib.hid hres
  have HW1 := Lib.hid hW1
  clear hx hb hres hrm hW1 h3 h4 hln
  go_enter Tryd.func45, Tryd.ntmps45
  go_wp2_with fail
  rw [← HW1.out]
  refine HC.out.mono ?_
  rintro e W4 ⟨c, rfl, hM, hrm4, hon4⟩
  obtain ⟨A5, c5, v5, rfl, l5, g5, r5⟩ := km_openM hM
  obtain ⟨A6, c6, rfl, l6, r6⟩ := Kd.R_reads r5
  have hB4 : Below w.heap.size w W4 := HB.out.trans (hon4.below HB.out.size (fun i hi => by omega))
  have hres4 : W4.heap[w.heap.size + 1]? = some (.cells #[.int .i64 0, .int .i64 0, .bool false, .slice none 0 0, .slice none 0 0] 33 (0, 0)) := (hon4.block _ (blk_lt HRES.out) (by show ¬ _ = w.heap.size + 1 + 1; omega)).trans HRES.out
  clear l6 r6
  have kf0 : W4.frozen? ⟨w.heap.size + 1, 0, none⟩ = false := blk_frozen hres4 0
  have kf1 : W4.frozen? ⟨w.heap.size + 1, 1, none⟩ = false := blk_frozen hres4 1
  have kf2 : W4.frozen? ⟨w.heap.size + 1, 2, none⟩ = false := blk_frozen hres4 2
  have kf3 : W4.frozen? ⟨w.heap.size + 1, 3, none⟩ = false := blk_frozen hres4 3
  have kf4 : W4.frozen? ⟨w.heap.size + 1, 4, none⟩ = false := blk_frozen hres4 4
  have k0 : W4.cell? ⟨w.heap.size + 1, 0, none⟩ = some (.int .i64 0) := blk_cell hres4 0
  have k1 : W4.cell? ⟨w.heap.size + 1, 1, none⟩ = some (.int .i64 0) := blk_cell hres4 1
  have k2 : W4.cell? ⟨w.heap.size + 1, 2, none⟩ = some (.bool false) := blk_cell hres4 2
  have k3 : W4.cell? ⟨w.heap.size + 1, 3, none⟩ = some (.slice none 0 0) := blk_cell hres4 3
  have k4 : W4.cell? ⟨w.heap.size + 1, 4, none⟩ = some (.slice none 0 0) := blk_cell hres4 4
  have R5 := Lib.hid r5
  have G5 := Lib.hid g5
  have HR4 := Lib.hid hres4
  have HB4 := Lib.hid hB4
  have HRM4 := Lib.hid (blk_lt HRES.out)
  clear r5 g5 hres4 hB4 hM hrm4 hon4
  go_wp2
  obtain ⟨h5, hend⟩ := pk_end (x := x) HB4.out HR4.out (by have := HRM4.out; omega) l5 G5.out R5.out rfl
  try simp only [Exit.inBlock, Exit.then]
  exact bodyPost_ret (results_c rfl _ _ _ _ _ _ _ rfl h5 Tryd.underlying33 rfl size33) rfl hend

end Go.Proofs.YtbmcpjkhnhbjdaaDoor.Within
namespace Go.Proofs.YtbmcpjkhnhbjdaaDoor.PencodeInteger
open Go.RowKit Go.Proofs.YtbmcpjkhnhbjdaaDoorW.PrintWords Go.Proofs.YtbmcpjkhnhbjdaaDoorW.PrintLast Go.Proofs.YtbmcpjkhnhbjdaaDoorW.PrintMore
attribute [local go_sem] max2_int min2_int max_two min_two max_three min_three max_four min_four   -- for this text's walks alone
set_option linter.unusedVariables false
set_option linter.unusedSimpArgs false

theorem info5 : (Tryd.prog.info? 5).map (fun i => (i.zero, i.size, i.bytes)) = some (some (.int .u8 0), 1, 1) := by kernel_rfl
-- the values' own types

end Go.Proofs.YtbmcpjkhnhbjdaaDoor.PencodeInteger
namespace Go.Proofs.YtbmcpjkhnhbjdaaDoor.PencodeInteger
open Go.RowKit Go.Proofs.YtbmcpjkhnhbjdaaDoorW.PrintWords Go.Proofs.YtbmcpjkhnhbjdaaDoorW.PrintLast Go.Proofs.YtbmcpjkhnhbjdaaDoorW.PrintMore
attribute [local go_sem] max2_int min2_int max_two min_two max_three min_three max_four min_four   -- for this text's walks alone
set_option linter.unusedVariables false
set_option linter.unusedSimpArgs false

/-! ### asn1ber_int64Length: function 115 -/
mutual
def asn1ber_int64Length.l0 : Nat → Int → Int → Option (Int)
  | 0, _, _ => none
  | k + 1, x0, x2 => if x0 > 127 then (asn1ber_int64Length.l0 k (x0 / 256) (wrap64 (x2 + 1))) else (asn1ber_int64Length.l1 k x0 x2)
def asn1ber_int64Length.l1 : Nat → Int → Int → Option (Int)
  | 0, _, _ => none
  | k + 1, x0, x2 => if x0 < (-128) then (asn1ber_int64Length.l1 k (x0 / 256) (wrap64 (x2 + 1))) else (some x2)
end
def asn1ber_int64Length.f (k : Nat) (a0 : Int) : Option (Int) := asn1ber_int64Length.l0 k a0 1
theorem asn1ber_int64Length.mono_l : ∀ k, (∀ y0 y1, LeO (asn1ber_int64Length.l0 k y0 y1) (asn1ber_int64Length.l0 (k + 1) y0 y1)) ∧ (∀ y0 y1, LeO (asn1ber_int64Length.l1 k y0 y1) (asn1ber_int64Length.l1 (k + 1) y0 y1))
  | 0 => ⟨fun _ _ r h => by simp [asn1ber_int64Length.l0] at h, fun _ _ r h => by simp [asn1ber_int64Length.l1] at h⟩
  | k + 1 => by
    obtain ⟨ih0, ih1⟩ := asn1ber_int64Length.mono_l k
    refine ⟨?_, ?_⟩
    · intro y0 y1
      unfold asn1ber_int64Length.l0
      repeat' first
      | (with_reducible exact ih0 _ _)
      | (with_reducible exact ih1 _ _)
      | (with_reducible exact LeO.refl _)
      | (with_reducible exact LeO.none _)
      | (with_reducible refine LeO.ite ?_ ?_)
      | (with_reducible refine LeO.bind ?_ (fun _ => ?_))
      | exact ih0 _ _
      | exact ih1 _ _
      | exact LeO.none _
      | refine LeO.ite ?_ ?_
      | refine LeO.bind ?_ (fun _ => ?_)
    · intro y0 y1
      unfold asn1ber_int64Length.l1
      repeat' first
      | (with_reducible exact ih0 _ _)
      | (with_reducible exact ih1 _ _)
      | (with_reducible exact LeO.refl _)
      | (with_reducible exact LeO.none _)
      | (with_reducible refine LeO.ite ?_ ?_)
      | (with_reducible refine LeO.bind ?_ (fun _ => ?_))
      | exact ih0 _ _
      | exact ih1 _ _
      | exact LeO.none _
      | refine LeO.ite ?_ ?_
      | refine LeO.bind ?_ (fun _ => ?_)
set_option maxHeartbeats 8000000 in
set_option maxRecDepth 100000 in
theorem asn1ber_int64Length.calls (k : Nat) (a0 : Int) (r : Int) (w : World) (h : asn1ber_int64Length.f k a0 = some r) :
    Calls Tryd.prog 115 #[.int .i64 a0] w fun e w' => e = .returned (.int .i64 r) ∧ Drawn0 w w' := by
  have H : (asn1ber_int64Length.l0 k a0 1) = some r := h
  clear h
  have H' := Aside0.mk H
  clear H
  go_enter Tryd.func115, Tryd.ntmps115
  go_wp2
  go_loopg [0, 2] k (fun kq v0 v2 w' => ∃ (x0_1 : Int) (x2_1 : Int), v0 = .int .i64 x0_1 ∧ v2 = .int .i64 x2_1 ∧ Aside0 (asn1ber_int64Length.l0 kq x0_1 x2_1 = some r) ∧ Aside0 (kq ≤ k) ∧ Drawn0 w w')
  case atStart => exact ⟨(a0), (1), (by first | rfl | (simp; done) | (simp [*]; done)), (by first | rfl | (simp; done) | (simp [*]; done)), H', ⟨Nat.le_refl _⟩, by repeat (first | exact Drawn0.refl _ | apply Drawn0.step)⟩
  case round =>
    clear H'
    try clear c1
    obtain ⟨x0_1, x2_1, rfl, rfl, HA, HK1, ⟨m1, rfl⟩⟩ := hrel
    cases gk with
    | zero => exact absurd HA.out (by simp [asn1ber_int64Length.l0])
    | succ k1 =>
      have H := HA.out
      clear HA
      simp only [asn1ber_int64Length.l0] at H
      by_cases c2 : x0_1 > 127
      · rw [if_pos c2] at H
        have c2b0 : decide (127 < x0_1) = true := decide_eq_true c2
        clear c2
        have H' := Aside0.mk H
        clear H
        go_wp2
        go_roundg k1
        case measure => have := HK1.out; omega
        case rel => exact ⟨(x0_1 / 256), (wrap64 (x2_1 + 1)), (by first | rfl | (simp; done) | (simp [*]; done)), (by first | rfl | (simp; done) | (simp [*]; done)), H', ⟨by have := HK1.out; omega⟩, by repeat (first | exact Drawn0.refl _ | apply Drawn0.step)⟩
      · rw [if_neg c2] at H
        have c2b0 : decide (127 < x0_1) = false := decide_eq_false c2
        clear c2
        have H' := Aside0.mk H
        clear H
        go_wp2
        go_loopg [0, 2] k1 (fun kq v0 v2 w' => ∃ (x0_2 : Int) (x2_2 : Int), v0 = .int .i64 x0_2 ∧ v2 = .int .i64 x2_2 ∧ Aside0 (asn1ber_int64Length.l1 kq x0_2 x2_2 = some r) ∧ Aside0 (kq ≤ k1) ∧ Drawn0 w w')
        case atStart => exact ⟨(x0_1), (x2_1), (by first | rfl | (simp; done) | (simp [*]; done)), (by first | rfl | (simp; done) | (simp [*]; done)), H', ⟨Nat.le_refl _⟩, by repeat (first | exact Drawn0.refl _ | apply Drawn0.step)⟩
        case round =>
          clear H'
          try clear c1
          try clear c2
          try clear c2b0
          try clear p2
          obtain ⟨x0_2, x2_2, rfl, rfl, HA, HK2, ⟨m2, rfl⟩⟩ := hrel
          cases gk with
          | zero => exact absurd HA.out (by simp [asn1ber_int64Length.l1])
          | succ k2 =>
            have H := HA.out
            clear HA
            simp only [asn1ber_int64Length.l1] at H
            by_cases c3 : x0_2 < (-128)
            · rw [if_pos c3] at H
              have c3b0 : decide (x0_2 < (-128)) = true := decide_eq_true c3
              clear c3
              have H' := Aside0.mk H
              clear H
              go_wp2
              go_roundg k2
              case measure => have := HK1.out; have := HK2.out; omega
              case rel => exact ⟨(x0_2 / 256), (wrap64 (x2_2 + 1)), (by first | rfl | (simp; done) | (simp [*]; done)), (by first | rfl | (simp; done) | (simp [*]; done)), H', ⟨by have := HK1.out; have := HK2.out; omega⟩, by repeat (first | exact Drawn0.refl _ | apply Drawn0.step)⟩
            · rw [if_neg c3] at H
              have c3b0 : decide (x0_2 < (-128)) = false := decide_eq_false c3
              clear c3
              obtain rfl := Option.some.inj H
              go_wp2
              go_ret
              exact ⟨by first | rfl | (simp; done) | (simp [*]; done), by repeat (first | exact Drawn0.refl _ | apply Drawn0.step)⟩

/-! ### asn1ber_encodeInteger: function 109 -/
def asn1ber_encodeInteger.l0 : Nat → Int → Int → List Int → Int → Option (List Int)
  | 0, _, _, _, _ => none
  | k + 1, x0, x3, x4, x5 => if x3 > 0 then (if 0 ≤ (IntKind.u64.wrap (wrap64 ((wrap64 (x3 - 1)) * 8))) then (if 0 ≤ x5 then (if x5 < (x4.length : Int) then (asn1ber_encodeInteger.l0 k x0 (wrap64 (x3 - 1)) (x4.set (x5 : Int).toNat ((shr .i64 x0 (IntKind.u64.wrap (wrap64 ((wrap64 (x3 - 1)) * 8)))) % 256)) (wrap64 (x5 + 1))) else (none)) else (none)) else (none)) else (some x4)
def asn1ber_encodeInteger.f (k : Nat) (a0 : Int) : Option (List Int) := (asn1ber_int64Length.f k a0).bind fun t101 => (if 0 ≤ t101 then (if (t101 : Int).toNat ≤ 281474976710656 then (asn1ber_encodeInteger.l0 k a0 t101 (List.replicate (t101 : Int).toNat 0) 0) else (none)) else (none))
theorem asn1ber_encodeInteger.mono_l : ∀ k, (∀ y0 y1 y2 y3, LeO (asn1ber_encodeInteger.l0 k y0 y1 y2 y3) (asn1ber_encodeInteger.l0 (k + 1) y0 y1 y2 y3))
  | 0 => fun _ _ _ _ r h => by simp [asn1ber_encodeInteger.l0] at h
  | k + 1 => by
    have ih0 := asn1ber_encodeInteger.mono_l k
    · intro y0 y1 y2 y3
      unfold asn1ber_encodeInteger.l0
      repeat' first
      | (with_reducible exact ih0 _ _ _ _)
      | (with_reducible exact asn1ber_int64Length.mono _ _)
      | (with_reducible exact LeO.refl _)
      | (with_reducible exact LeO.none _)
      | (with_reducible refine LeO.ite ?_ ?_)
      | (with_reducible refine LeO.bind ?_ (fun _ => ?_))
      | exact ih0 _ _ _ _
      | exact asn1ber_int64Length.mono _ _
      | exact LeO.none _
      | refine LeO.ite ?_ ?_
      | refine LeO.bind ?_ (fun _ => ?_)
set_option maxHeartbeats 8000000 in
set_option maxRecDepth 100000 in
theorem asn1ber_encodeInteger.calls (k : Nat) (a0 : Int) (r : List Int) (w : World) (h : asn1ber_encodeInteger.f k a0 = some r) :
    Calls Tryd.prog 109 #[.int .i64 a0] w fun e w' => ∃ v0_ : Value, e = .returned (v0_) ∧ Kd.R (Kd.int .u8) 5 w' w.heap.size (fun _ => True) v0_ r ∧ Below w.heap.size w w' := by
  have HB := Aside0.mk (Below.refl w.heap.size w)
  have H : ((asn1ber_int64Length.f k a0).bind fun t101 => (if 0 ≤ t101 then (if (t101 : Int).toNat ≤ 281474976710656 then (asn1ber_encodeInteger.l0 k a0 t101 (List.replicate (t101 : Int).toNat 0) 0) else (none)) else (none))) = some r := h
  clear h
  replace H := Option.bind_eq_some_iff.mp H
  obtain ⟨t101, A20, H⟩ := H
  replace H : (if 0 ≤ t101 then (if (t101 : Int).toNat ≤ 281474976710656 then (asn1ber_encodeInteger.l0 k a0 t101 (List.replicate (t101 : Int).toNat 0) 0) else (none)) else (none)) = some r := H
  have A2 := Aside0.mk A20
  clear A20
  by_cases c3 : 0 ≤ t101
  · rw [if_pos c3] at H
    have c3b0 := eq_true c3
    have c3b1 : decide (0 ≤ t101) = true := decide_eq_true c3
    clear c3
    by_cases c4 : (t101 : Int).toNat ≤ 281474976710656
    · rw [if_pos c4] at H
      have c4b0 := eq_true c4
      have c4b1 : decide ((t101 : Int).toNat ≤ 281474976710656) = true := decide_eq_true c4
      clear c4
      obtain ⟨y102, hy102⟩ : ∃ y_ : List Int, y_ = (List.replicate (t101 : Int).toNat 0) := ⟨_, rfl⟩
      replace H : (asn1ber_encodeInteger.l0 k a0 t101 y102 0) = some r := by first | (rw [hy102]; with_reducible exact H) | (have H2_ := (Option.bind_some _ _).symm.trans H; rw [hy102]; with_reducible exact H2_) | (have H2_ := (Option.bind_some _ _).symm.trans H; with_reducible exact H2_) | with_reducible exact H | (rw [hy102]; exact H) | exact H
      have Ny102 := Aside0.mk hy102
      clear hy102
      have H' := Aside0.mk H
      clear H
      go_enter Tryd.func109, Tryd.ntmps109
      go_wp2_with (first | ((with_reducible refine gate_callee (f := 115) rfl ?_); refine goesL_ (some 7) rfl rfl Tryd.func115 (by kernel_rfl) rfl #[.int .i64 a0] rfl (by (try simp only [List.map_toArray, List.map_cons, List.map_nil]); first | done | rfl | (simp only [List.length_drop, List.length_take]; rfl)) ?_; (with_reducible refine (asn1ber_int64Length.calls k a0 t101 _ A2.out).mono ?_); rintro e w' ⟨rfl, ⟨nd, rfl⟩⟩; refine ⟨_, rfl, ?_⟩) | ((with_reducible refine gate_dst (N := 9) rfl ?_); refine Kd.R_make (Kd.int .u8) _ 5 rfl (N := 9) rfl 24 _ _ rfl t101 rfl rfl Tryd.underlying24 (.int .u8 0) 1 info5 rfl (by decide) (by omega) 0 (ok := fun _ => True) (okp := fun _ => True) rfl (fun _ hk => hk) trivial (of_decide_eq_true (by first | (with_reducible assumption) | assumption)) (Nat.le_trans (Nat.mul_le_mul_right _ (of_decide_eq_true (by first | (with_reducible assumption) | assumption) : t101.toNat ≤ 281474976710656)) (by omega)) (Below.refl _ _) (Nat.le_refl _) ?_; intro v103 w5 ho6 hb hg_ hnew_; clear hg_ hnew_; (first | rw [← Ny102.out] at ho6 | (simp only [Int.reduceToNat] at ho6; rw [← Ny102.out] at ho6)); have n0_ := Aside0.mk (Kd.R_lower ho6 (below_size (by repeat (first | (with_reducible first | exact HB.out | apply below_alloc | apply pw_below_drewN | apply below_drew1) | exact HB.out)))); have n1_ := Aside0.mk (below_step (by repeat (first | (with_reducible first | exact HB.out | apply below_alloc | apply pw_below_drewN | apply below_drew1) | exact HB.out)) hb); clear HB; have HO104 := n0_; have HB := n1_; clear n0_ n1_; clear hb ho6))
      go_loopg [3, 5] k (fun kq v3 v5 w' => ∃ (x3_1 : Int) (x4_1 : List Int) (x5_1 : Int), v3 = .int .i64 x3_1 ∧ v5 = .int .i64 x5_1 ∧ Aside0 (asn1ber_encodeInteger.l0 kq a0 x3_1 x4_1 x5_1 = some r) ∧ Aside0 (kq ≤ k) ∧ Aside0 (Kd.R (Kd.int .u8) 5 w' w.heap.size (fun _ => True) v103 x4_1) ∧ Aside0 (Below w.heap.size w w'))
      case atStart => exact ⟨(t101), (y102), (0), (by first | rfl | (simp; done) | (simp [*]; done)), (by first | rfl | (simp; done) | (simp [*]; done)), H', ⟨Nat.le_refl _⟩, ⟨by (with_reducible repeat (first | apply Kd.R_alloc | apply Kd.R_drewN | apply Kd.R_drew)); exact HO104.out⟩, ⟨by repeat (first | (with_reducible first | exact HB.out | apply below_alloc | apply pw_below_drewN | apply below_drew1) | exact HB.out)⟩⟩
      case round =>
        clear H'
        try clear c1
        try clear p2
        try clear c3
        try clear c3b0
        try clear c3b1
        try clear c4
        try clear c4b0
        try clear c4b1
        obtain ⟨x3_1, x4_1, x5_1, rfl, rfl, HA, HK1, HO_4, HB⟩ := hrel
        cases gk with
        | zero => exact absurd HA.out (by simp [asn1ber_encodeInteger.l0])
        | succ k1 =>
          have H := HA.out
          clear HA
          simp only [asn1ber_encodeInteger.l0] at H
          by_cases c7 : x3_1 > 0
          · rw [if_pos c7] at H
            have c7b0 : decide (0 < x3_1) = true := decide_eq_true c7
            clear c7
            obtain ⟨ji8, hji8⟩ : ∃ j_ : Int, (IntKind.u64.wrap (wrap64 ((wrap64 (x3_1 - 1)) * 8))) = j_ := ⟨_, rfl⟩
            replace H : (if 0 ≤ (ji8) then (if 0 ≤ x5_1 then (if x5_1 < (x4_1.length : Int) then (asn1ber_encodeInteger.l0 k1 a0 (wrap64 (x3_1 - 1)) (x4_1.set (x5_1 : Int).toNat ((shr .i64 a0 (ji8)) % 256)) (wrap64 (x5_1 + 1))) else (none)) else (none)) else (none)) = some r := by first | (rw [hji8] at H; exact H) | (simp only [hji8] at H ⊢; exact H)
            by_cases c9 : 0 ≤ (ji8)
            · rw [if_pos c9] at H
              have c9b0 := eq_true c9
              have c9b1 : decide (0 ≤ (ji8)) = true := decide_eq_true c9
              clear c9
              obtain ⟨ji10, hji10⟩ : ∃ j_ : Int, (shr .i64 a0 (ji8)) = j_ := ⟨_, rfl⟩
              replace H : (if 0 ≤ x5_1 then (if x5_1 < (x4_1.length : Int) then (asn1ber_encodeInteger.l0 k1 a0 (wrap64 (x3_1 - 1)) (x4_1.set (x5_1 : Int).toNat ((ji10) % 256)) (wrap64 (x5_1 + 1))) else (none)) else (none)) = some r := by first | (rw [hji10] at H; exact H) | (simp only [hji10] at H ⊢; exact H)
              have hji10_ : (a0 / 2 ^ min (ji8).toNat 64) = ji10 := hji10
              have hji10z : (ji8) ≤ 64 → (a0 / 2 ^ (ji8).toNat) = ji10 := shr_small hji10
              by_cases c11 : 0 ≤ x5_1
              · rw [if_pos c11] at H
                have c11b0 : decide (0 ≤ x5_1) = true := decide_eq_true c11
                clear c11
                by_cases c12 : x5_1 < (x4_1.length : Int)
                · rw [if_pos c12] at H
                  have c12b0 : decide (x5_1 < (x4_1.length : Int)) = true := decide_eq_true c12
                  clear c12
                  obtain ⟨y105, hy105⟩ : ∃ y_ : List Int, y_ = (x4_1.set (x5_1 : Int).toNat ((ji10) % 256)) := ⟨_, rfl⟩
                  replace H : (asn1ber_encodeInteger.l0 k1 a0 (wrap64 (x3_1 - 1)) y105 (wrap64 (x5_1 + 1))) = some r := by first | (rw [hy105]; with_reducible exact H) | (have H2_ := (Option.bind_some _ _).symm.trans H; rw [hy105]; with_reducible exact H2_) | (have H2_ := (Option.bind_some _ _).symm.trans H; with_reducible exact H2_) | with_reducible exact H | (rw [hy105]; exact H) | exact H
                  have Ny105 := Aside0.mk hy105
                  clear hy105
                  have H' := Aside0.mk H
                  clear H
                  have p13 : 0 ≤ (x5_1 : Int) := of_decide_eq_true (by first | (with_reducible assumption) | assumption)
                  have q13 : (x5_1 : Int) < ((x4_1.length : Int) : Int) := of_decide_eq_true (by first | (with_reducible assumption) | assumption)
                  obtain ⟨go13, co13, eo13, gb13, gl13, cl13, HG13⟩ := Kd.R_form HO_4.out (by omega)
                  (first | cases eo13 | (injection eo13 with ea_ en_ ec_; (first | subst ea_ | (injection ea_ with ea_; subst ea_)); subst ec_; clear en_))
                  have GB13 := Aside0.mk gb13
                  have GG13 := Aside0.mk HG13
                  clear gb13 gl13 HG13
                  obtain ⟨hx13_0, hf13_0⟩ := Kd.R_celln 0 HO_4.out (x5_1 : Int) p13 q13
                  replace p13 := eq_true p13
                  replace q13 := eq_true q13
                  have HP14 := Kd.R_putg HO_4.out (x5_1 : Int) ((ji10) % 256)
                  go_wp2_with (first | ((with_reducible refine gate_store (t := 5) (p := 23) rfl ?_); refine store_event (t := 5) (p := 23) (v := ?vo_w15) (w1 := (wr.setCell ⟨go13, (x5_1 : Int).toNat, none⟩ (.int .u8 ((ji10) % 256)))) ?hg ?ho ?hn ?hr ?_; (case ho => rfl); (case hg => rfl); (case hn => rfl); (case hr => first | (go_simp; done) | (go_simp; rfl)); intro w15 hw; have hg : wr.grownBy w15 (some go13) := (by rw [hw]; exact HP14.2); have hp_ : Kd.R (Kd.int .u8) 5 w15 w.heap.size (fun _ => True) (.slice (some ⟨go13, 0, none⟩) x4_1.length co13) y105 := (by rw [hw, Ny105.out]; exact HP14.1); clear HP14; have n0_ := Aside0.mk (hp_); have n1_ := Aside0.mk ((by rw [hw]; exact below_set (HB.out) GB13.out : Below w.heap.size w w15)); clear HO_4; clear HB; have HO_4 := n0_; have HB := n1_; clear n0_ n1_; clear hg hw hp_))
                  go_roundg k1
                  case measure => have := HK1.out; omega
                  case rel => exact ⟨(wrap64 (x3_1 - 1)), (y105), (wrap64 (x5_1 + 1)), (by first | rfl | (simp; done) | (simp [*]; done)), (by first | rfl | (simp; done) | (simp [*]; done)), H', ⟨by have := HK1.out; omega⟩, ⟨by (with_reducible repeat (first | apply Kd.R_alloc | apply Kd.R_drewN | apply Kd.R_drew)); exact HO_4.out⟩, ⟨by repeat (first | (with_reducible first | exact HB.out | apply below_alloc | apply pw_below_drewN | apply below_drew1) | exact HB.out)⟩⟩
                · rw [if_neg c12] at H
                  exact absurd H (by simp)
              · rw [if_neg c11] at H
                exact absurd H (by simp)
            · rw [if_neg c9] at H
              exact absurd H (by simp)
          · rw [if_neg c7] at H
            have c7b0 : decide (0 < x3_1) = false := decide_eq_false c7
            clear c7
            obtain rfl := Option.some.inj H
            go_wp2
            go_ret
            exact ⟨_, by first | rfl | (simp [errW_none, errW_some] <;> rfl) | (simp [*, errW_none, errW_some] <;> rfl), by (with_reducible repeat (first | apply Kd.R_alloc | apply Kd.R_drewN | apply Kd.R_drew)); exact HO_4.out, by repeat (first | (with_reducible first | exact HB.out | apply below_alloc | apply pw_below_drewN | apply below_drew1) | exact HB.out)⟩
    · rw [if_neg c4] at H
      exact absurd H (by simp)
  · rw [if_neg c3] at H
    exact absurd H (by simp)

end Go.Proofs.YtbmcpjkhnhbjdaaDoor.PencodeInteger
