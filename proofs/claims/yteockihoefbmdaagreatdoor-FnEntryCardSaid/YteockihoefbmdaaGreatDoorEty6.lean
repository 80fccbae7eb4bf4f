/- Parts of the proof of one law, in the order in which they build. The kind of a *ber.Packet in memory: its struct, its Data buffer (only written), its children, in the print's framework of kinds. · ber.Encode with no value: a new packet without data. No condition. · Writing into a packet's Data: the packet with more data, everything else as it was. · ber.NewString: a packet whose data is the string. The string's length is at most Go's own limit. · Plain maths on packets as trees: what the laws' reading 'within' gives, which trees are proper, the bytes of a tree; and that the printed functions of the reference end at every tree. No program is walked here. · ber.encodeIdentifier and the reference's Identifier: the same bytes, the tag's groups of seven bits with the highest first. · (*ber.Packet).Bytes: identifier, length, data; the packet is only read. · (*ber.Packet).AppendChild: the child's bytes behind the data, the child behind the children. · (*bytes.Reader).Read: as many bytes as there are, or as there is room for. · What a reader is; io.ReadAtLeast of one byte, io.ReadFull, ber.readByte. · laws.within and laws.packet walked: a packet of the caller's is read as one of the reference (Tree.wi), its data shared, its kids made. · laws.packet and laws.answer walked: within at a room of their own. · laws.answer: the packet within 60 levels and 200000 bytes. · The bytes of a packet as data; the reference's Bytes gives them. -/
import Derived.Deep.DeepFit
import Derived.BigRegion
import Derived.Deep.RegionWith
import Derived.Laws.Tables
import Derived.Laws.CopyRow
import Derived.Handy
import Derived.Deep.RegionLaw
import Derived.Deep.DrawnRows
import Derived.Test.YteockihoefbmdaaGreatDoorEty1
import Derived.Test.YteockihoefbmdaaGreatDoorEty2
import Derived.Test.YteockihoefbmdaaGreatDoorEty3
import Derived.Test.YteockihoefbmdaaGreatDoorEty4
import Derived.Test.YteockihoefbmdaaGreatDoorEty5
namespace Go.Proofs.YteockihoefbmdaaGreatDoor.Pk
open Go.RowKit Go.Proofs.YteockihoefbmdaaGreatDoorW.PrintWords Go.Proofs.YteockihoefbmdaaGreatDoor.Buf
set_option linter.unusedVariables false
set_option linter.unusedSimpArgs false

/-- A packet as data: class, type, tag, the interface value, ByteValue, what Data holds, the children, the description. -/
structure Pk where
  cls : Int
  typ : Int
  tag : Int
  val : Value
  bv : List Int
  data : List Int
  kids : List Pk
  desc : ByteArray

abbrev T : Nat := 86
abbrev TB : Nat := 134
abbrev TP : Nat := 72
abbrev B8 : Kd Int := Kd.int .u8

/-- The struct's cells. -/
def cellsOf (x : Pk) (bv : Value) (db : Nat) (cv : Value) : Array Value :=
  #[.int .u8 x.cls, .int .u8 x.typ, .int .u64 x.tag, x.val, bv, .pointer (some ⟨db, 0, none⟩), cv, .string x.desc]

theorem int_own {k : IntKind} {e : Nat} {w : World} {base : Nat} {ok : Nat → Prop} {v : Value} {xs : List Int} (h : (Kd.int k).R e w base ok v xs) : w.ownsRow base e 1 v xs.length (nums k xs) := Kd.own_of_R h
theorem own_int {k : IntKind} {e : Nat} {w : World} {base : Nat} {ok : Nat → Prop} {v : Value} {xs : List Int} (h : w.ownsRow base e 1 v xs.length (nums k xs)) (hok : ∀ k, v.ownBlock = some k → ok k) : (Kd.int k).R e w base ok v xs := Kd.R_of_own h hok

/-- One packet, its children of kind 'rec': read (K), or the call's own (M): its blocks are ok, and the children's are none of its own. -/
def PkK (rec : Kd Pk) (w : World) (x : Pk) (cs : List Value) : Prop :=
  x.val.oneCell' = true ∧ ∃ b db lr A c Ab cb Ac cc, cs = [.pointer (some ⟨b, 0, none⟩)] ∧ w.heap[b]? = some (.cells (cellsOf x (.slice Ab x.bv.length cb) db (.slice Ac x.kids.length cc)) T (0, 0)) ∧
    w.heap[db]? = some (.cells #[.slice A x.data.length c, .int .i64 0, .int .i8 lr] TB (0, 0)) ∧ x.data.length ≤ c ∧ B8.C w A x.data.length x.data ∧ x.bv.length ≤ cb ∧ B8.C w Ab x.bv.length x.bv ∧
    x.kids.length ≤ cc ∧ rec.C w Ac x.kids.length x.kids

def PkM (rec : Kd Pk) (w : World) (base : Nat) (ok : Nat → Prop) (x : Pk) (cs : List Value) : Prop :=
  x.val.oneCell' = true ∧ ∃ b db v bv cv lr, cs = [.pointer (some ⟨b, 0, none⟩)] ∧ (ok b ∧ base ≤ b) ∧ (ok db ∧ base ≤ db) ∧ w.heap[b]? = some (.cells (cellsOf x bv db cv) T (0, 0)) ∧
    w.heap[db]? = some (.cells #[v, .int .i64 0, .int .i8 lr] TB (0, 0)) ∧ B8.R 5 w base ok v x.data ∧ B8.R 5 w base (fun k => ok k ∧ some k ≠ v.ownBlock) bv x.bv ∧
    rec.R TP w base (fun k => ok k ∧ k ≠ b ∧ k ≠ db ∧ some k ≠ v.ownBlock) cv x.kids

def E : List Nat := [T, TB, 5, TP]

def F (rec : Kd Pk) : Kd Pk where
  sz := 1
  E := T :: TB :: 5 :: TP :: rec.E
  K := PkK rec
  M := PkM rec
  K_len := by
    rintro w x cs ⟨_, b, db, lr, A, c, Ab, cb, Ac, cc, rfl, _⟩
    rfl
  K_one := by
    rintro w x cs ⟨_, b, db, lr, A, c, Ab, cb, Ac, cc, rfl, _⟩ u hu
    rw [List.mem_singleton.1 hu]
    rfl
  K_below := by
    rintro w w1 x cs hb ⟨hv, b, db, lr, A, c, Ab, cb, Ac, cc, rfl, h1, h2, h3, h4, h5, h6, h7, h8⟩
    exact ⟨hv, b, db, lr, A, c, Ab, cb, Ac, cc, rfl, blk_below h1 hb, blk_below h2 hb, h3, Kd.C_below h4 hb, h5, Kd.C_below h6 hb, h7, Kd.C_below h8 hb⟩
  K_of_M := by
    rintro w base ok x cs ⟨hv, b, db, v, bv, cv, lr, rfl, _, _, h3, h4, h5, h6, h7⟩
    obtain ⟨A, c, rfl, l1, g1⟩ := Kd.R_reads h5
    obtain ⟨Ab, cb, rfl, l2, g2⟩ := Kd.R_reads h6
    obtain ⟨Ac, cc, rfl, l3, g3⟩ := Kd.R_reads h7
    exact ⟨hv, b, db, lr, A, c, Ab, cb, Ac, cc, rfl, h3, h4, l1, g1, l2, g2, l3, g3⟩
  M_mono := by
    rintro w base ok ok' x cs hok ⟨hv, b, db, v, bv, cv, lr, rfl, ⟨a1, a2⟩, ⟨b1, b2⟩, h3, h4, h5, h6, h7⟩
    exact ⟨hv, b, db, v, bv, cv, lr, rfl, ⟨hok _ a1, a2⟩, ⟨hok _ b1, b2⟩, h3, h4, Kd.R_mono h5 hok, Kd.R_mono h6 (fun k hk => ⟨hok k hk.1, hk.2⟩), Kd.R_mono h7 (fun k hk => ⟨hok k hk.1, hk.2⟩)⟩
  M_bound := by
    rintro w base ok x cs ⟨hv, b, db, v, bv, cv, lr, rfl, ⟨a1, a2⟩, ⟨b1, b2⟩, h3, h4, h5, h6, h7⟩
    refine ⟨hv, b, db, v, bv, cv, lr, rfl, ⟨⟨a1, a2, blk_lt h3, T, List.mem_cons_self, _, h3⟩, a2⟩, ⟨⟨b1, b2, blk_lt h4, TB, List.mem_cons_of_mem _ List.mem_cons_self, _, h4⟩, b2⟩, h3, h4, ?_, ?_, ?_⟩
    · refine Kd.R_mono (Kd.R_bound h5) ?_
      rintro k ⟨k1, k2, k3, q, hq, kc⟩
      exact ⟨k1, k2, k3, q, by
        rcases List.mem_cons.1 hq with rfl | hq
        · simp
        · exact absurd hq (by simp [Kd.int, Kd.scalar]), kc⟩
    · refine Kd.R_mono (Kd.R_bound h6) ?_
      rintro k ⟨⟨k1, k1'⟩, k2, k3, q, hq, kc⟩
      exact ⟨⟨k1, k2, k3, q, by
        rcases List.mem_cons.1 hq with rfl | hq
        · simp
        · exact absurd hq (by simp [Kd.int, Kd.scalar]), kc⟩, k1'⟩
    · refine Kd.R_mono (Kd.R_bound h7) ?_
      rintro k ⟨⟨k1, k1'⟩, k2, k3, q, hq, kc⟩
      exact ⟨⟨k1, k2, k3, q, by
        rcases List.mem_cons.1 hq with rfl | hq
        · simp
        · simp [hq], kc⟩, k1'⟩
  M_move := by
    rintro w w1 base ok x cs hm ⟨hv, b, db, v, bv, cv, lr, rfl, ⟨a1, a2⟩, ⟨b1, b2⟩, h3, h4, h5, h6, h7⟩
    exact ⟨hv, b, db, v, bv, cv, lr, rfl, ⟨a1, a2⟩, ⟨b1, b2⟩, (hm b a1).trans h3, (hm db b1).trans h4, Kd.R_move h5 hm, Kd.R_move h6 (fun k hk => hm k hk.1), Kd.R_move h7 (fun k hk => hm k hk.1)⟩
  M_lower := by
    rintro w base base' ok x cs hb ⟨hv, b, db, v, bv, cv, lr, rfl, ⟨a1, a2⟩, ⟨b1, b2⟩, h3, h4, h5, h6, h7⟩
    exact ⟨hv, b, db, v, bv, cv, lr, rfl, ⟨a1, by omega⟩, ⟨b1, by omega⟩, h3, h4, Kd.R_lower h5 hb, Kd.R_lower h6 hb, Kd.R_lower h7 hb⟩

theorem monoF : Kd.Mono F := by
  refine ⟨fun _ _ _ => rfl, ?_, ?_⟩
  · rintro d d' hs h w x cs ⟨hv, b, db, lr, A, c, Ab, cb, Ac, cc, rfl, h1, h2, h3, h4, h5, h6, h7, h8⟩
    exact ⟨hv, b, db, lr, A, c, Ab, cb, Ac, cc, rfl, h1, h2, h3, h4, h5, h6, h7, Kd.C_imp hs h h8⟩
  · rintro d d' hs h w base ok x cs ⟨hv, b, db, v, bv, cv, lr, rfl, a, b', h3, h4, h5, h6, h7⟩
    exact ⟨hv, b, db, v, bv, cv, lr, rfl, a, b', h3, h4, h5, h6, Kd.R_imp hs h h7⟩
theorem subF : Kd.Sub F E := fun d h q hq => by
  rcases List.mem_cons.1 hq with rfl | hq
  · simp [E]
  rcases List.mem_cons.1 hq with rfl | hq
  · simp [E]
  rcases List.mem_cons.1 hq with rfl | hq
  · simp [E]
  rcases List.mem_cons.1 hq with rfl | hq
  · simp [E]
  exact h q hq
theorem szF : ∀ n, (Kd.upto F 1 E n).sz = 1 := Kd.upto_sz (fun _ => rfl)
/-- A packet, as deep as it is. -/
def kPk : Kd Pk := Kd.fix F 1 E szF (Kd.upto_E subF)

theorem open_M {w : World} {base : Nat} {ok : Nat → Prop} {x : Pk} {cs : List Value} (h : kPk.M w base ok x cs) : PkM kPk w base ok x cs := by
  obtain ⟨n, h⟩ := h
  cases n with
  | zero => exact h.elim
  | succ n =>
    obtain ⟨hv, b, db, v, bv, cv, lr, rfl, a, b', h3, h4, h5, h6, h7⟩ := h
    exact ⟨hv, b, db, v, bv, cv, lr, rfl, a, b', h3, h4, h5, h6, Kd.fix_R h7⟩
theorem mk_M {w : World} {base : Nat} {ok : Nat → Prop} {x : Pk} {cs : List Value} (h : PkM kPk w base ok x cs) : kPk.M w base ok x cs := by
  obtain ⟨hv, b, db, v, bv, cv, lr, rfl, a, b', h3, h4, h5, h6, h7⟩ := h
  obtain ⟨n, q⟩ := Kd.fix_R_back monoF h7
  exact ⟨n + 1, hv, b, db, v, bv, cv, lr, rfl, a, b', h3, h4, h5, h6, q⟩

/-- The pointer to block b is the packet x, the call's own (blocks that are ok, from base on). -/
def IsPk (w : World) (base : Nat) (ok : Nat → Prop) (b : Nat) (x : Pk) : Prop := kPk.M w base ok x [.pointer (some ⟨b, 0, none⟩)]
theorem IsPk.mono {w : World} {base : Nat} {ok ok' : Nat → Prop} {b : Nat} {x : Pk} (h : IsPk w base ok b x) (hok : ∀ k, ok k → ok' k) : IsPk w base ok' b x := kPk.M_mono hok h
theorem IsPk.bound {w : World} {base : Nat} {ok : Nat → Prop} {b : Nat} {x : Pk} (h : IsPk w base ok b x) : IsPk w base (fun k => ok k ∧ base ≤ k ∧ k < w.heap.size) b x := kPk.M_mono (fun k hk => ⟨hk.1, hk.2.1, hk.2.2.1⟩) (kPk.M_bound h)
theorem IsPk.only {w w1 : World} {base : Nat} {ok S : Nat → Prop} {b : Nat} {x : Pk} (h : IsPk w base ok b x) (ho : Only S w w1) (hd : ∀ k, ok k → ¬ S k) : IsPk w1 base ok b x := Kd.M_step h (fun k hk hlt => ho.block k hlt (hd k hk))
theorem IsPk.below {w w1 : World} {base : Nat} {ok : Nat → Prop} {b : Nat} {x : Pk} (h : IsPk w base ok b x) (hb : Below w.heap.size w w1) : IsPk w1 base ok b x := Kd.M_below h hb
theorem IsPk.lower {w : World} {base base' : Nat} {ok : Nat → Prop} {b : Nat} {x : Pk} (h : IsPk w base ok b x) (hb : base' ≤ base) : IsPk w base' ok b x := kPk.M_lower hb h
end Go.Proofs.YteockihoefbmdaaGreatDoor.Pk

namespace Go.Proofs.YteockihoefbmdaaGreatDoor.Ber
open Go.RowKit Go.Proofs.YteockihoefbmdaaGreatDoorW.PrintWords Go.Proofs.YteockihoefbmdaaGreatDoor.Buf Go.Proofs.YteockihoefbmdaaGreatDoor.Pk
set_option linter.unusedVariables false
set_option linter.unusedSimpArgs false

/-- A packet without data. -/
def bare (cls typ tag : Int) (val : Value) (desc : ByteArray) : Pk := ⟨cls, typ, tag, val, [], [], [], desc⟩

/-- What a maker of packets leaves: a new packet, the old memory as it was. -/
def Made (w : World) (x : Pk) (e : Ending) (w' : World) : Prop := ∃ b, e = .returned (.pointer (some ⟨b, 0, none⟩)) ∧ IsPk w' w.heap.size (fun _ => True) b x ∧ Below w.heap.size w w'

theorem mk_kids : ∀ w : World, (Instr.makeSlice 84 (.int .i64 0) (.int .i64 2)).run Tryz.prog w = .ok (.slice (some ⟨w.heap.size, 0, none⟩) 0 2) (w.alloc (.cells #[.pointer none, .pointer none] 72)) := fun _ => by kernel_rfl

/-- The three blocks that Encode lays. -/
def freshW (w : World) (cls typ tag : Int) (val : Value) (desc : ByteArray) : World :=
  (((w.alloc (.cells #[.int .u8 cls, .int .u8 typ, .int .u64 tag, val, .slice none 0 0, .pointer (some ⟨w.heap.size + 1, 0, none⟩), .slice (some ⟨w.heap.size + 1 + 1, 0, none⟩) 0 2, .string desc] T)).alloc
    (.cells #[.slice none 0 0, .int .i64 0, .int .i8 0] TB)).alloc (.cells #[.pointer none, .pointer none] TP))

theorem fresh_below (w : World) (a b c : Obj) : Below w.heap.size w (((w.alloc a).alloc b).alloc c) :=
  (((Below.refl _ w).alloc (Nat.le_refl _) a).alloc (by simp) b).alloc (by simp; omega) c

theorem fresh_pk (w : World) (cls typ tag : Int) (val : Value) (desc : ByteArray) (hv : val.oneCell' = true) : IsPk (freshW w cls typ tag val desc) w.heap.size (fun _ => True) w.heap.size (bare cls typ tag val desc) := by
  have h0 : (freshW w cls typ tag val desc).heap[w.heap.size]? = some (.cells (cellsOf (bare cls typ tag val desc) (.slice none 0 0) (w.heap.size + 1) (.slice (some ⟨w.heap.size + 1 + 1, 0, none⟩) 0 2)) T (0, 0)) := by
    unfold freshW
    rw [Below.heap_alloc _ _ _ (by simp; omega), Below.heap_alloc _ _ _ (by simp)]
    exact heap_alloc_new w _
  have h1 : (freshW w cls typ tag val desc).heap[w.heap.size + 1]? = some (.cells #[.slice none 0 0, .int .i64 0, .int .i8 0] TB (0, 0)) := by
    unfold freshW
    rw [Below.heap_alloc _ _ _ (by simp)]
    have := heap_alloc_new (w.alloc (.cells #[.int .u8 cls, .int .u8 typ, .int .u64 tag, val, .slice none 0 0, .pointer (some ⟨w.heap.size + 1, 0, none⟩), .slice (some ⟨w.heap.size + 1 + 1, 0, none⟩) 0 2, .string desc] T)) (.cells #[.slice none 0 0, .int .i64 0, .int .i8 0] TB)
    simpa using this
  have h2 : (freshW w cls typ tag val desc).heap[w.heap.size + 1 + 1]? = some (.cells #[.pointer none, .pointer none] TP (0, 0)) := by
    unfold freshW
    have := heap_alloc_new ((w.alloc (.cells #[.int .u8 cls, .int .u8 typ, .int .u64 tag, val, .slice none 0 0, .pointer (some ⟨w.heap.size + 1, 0, none⟩), .slice (some ⟨w.heap.size + 1 + 1, 0, none⟩) 0 2, .string desc] T)).alloc (.cells #[.slice none 0 0, .int .i64 0, .int .i8 0] TB)) (.cells #[.pointer none, .pointer none] TP)
    simpa using this
  refine mk_M ⟨hv, w.heap.size, w.heap.size + 1, .slice none 0 0, .slice none 0 0, .slice (some ⟨w.heap.size + 1 + 1, 0, none⟩) 0 2, 0, rfl, ⟨trivial, Nat.le_refl _⟩, ⟨trivial, by omega⟩, h0, h1, Kd.R_nil _ _ _ _ _, Kd.R_nil _ _ _ _ _, ?_, [], ?_, Reps.none _ _⟩
  · intro k hk
    simp [Value.ownBlock] at hk
    subst hk
    exact ⟨trivial, by omega, by omega, by simp [Value.ownBlock]⟩
  · exact ⟨rfl, .inr ⟨w.heap.size + 1 + 1, 2, _, rfl, by omega, h2, by simp [bare], by unfold maxLen; omega, rfl, rfl⟩⟩

set_option maxHeartbeats 3200000 in
set_option maxRecDepth 100000 in
theorem encode_nil (cls typ tag : Int) (desc : ByteArray) (w : World) :
    Calls Tryz.prog 106 #[.int .u8 cls, .int .u8 typ, .int .u64 tag, .nilIface, .string desc] w fun e w' => Made w (bare cls typ tag .nilIface desc) e w' := by
  have hmk := mk_kids
  go_enter Tryz.func106, Tryz.ntmps106
  go_wp2
  go_ret
  exact ⟨_, rfl, fresh_pk w cls typ tag .nilIface desc rfl, fresh_below w _ _ _⟩
end Go.Proofs.YteockihoefbmdaaGreatDoor.Ber

namespace Go.Proofs.YteockihoefbmdaaGreatDoor.Ber
open Go.RowKit Go.Proofs.YteockihoefbmdaaGreatDoorW.PrintWords Go.Proofs.YteockihoefbmdaaGreatDoor.Buf Go.Proofs.YteockihoefbmdaaGreatDoor.Pk
set_option linter.unusedVariables false
set_option linter.unusedSimpArgs false

/-- A packet laid open. -/
structure Parts (w : World) (base : Nat) (ok : Nat → Prop) (b : Nat) (x : Pk) (db : Nat) (v bv cv : Value) : Prop where
  val : x.val.oneCell' = true
  okb : ok b
  leb : base ≤ b
  okd : ok db
  led : base ≤ db
  hb : w.heap[b]? = some (.cells (cellsOf x bv db cv) T (0, 0))
  hd : Hdr w db v
  rv : B8.R 5 w base ok v x.data
  rb : B8.R 5 w base (fun k => ok k ∧ some k ≠ v.ownBlock) bv x.bv
  rk : kPk.R TP w base (fun k => ok k ∧ k ≠ b ∧ k ≠ db ∧ some k ≠ v.ownBlock) cv x.kids

theorem parts_of {w : World} {base : Nat} {ok : Nat → Prop} {b : Nat} {x : Pk} (h : IsPk w base ok b x) : ∃ db v bv cv, Parts w base ok b x db v bv cv := by
  obtain ⟨hv, b', db, v, bv, cv, lr, e, ⟨a1, a2⟩, ⟨b1, b2⟩, h3, h4, h5, h6, h7⟩ := open_M h
  obtain rfl : b' = b := by simpa using e.symm
  exact ⟨db, v, bv, cv, hv, a1, a2, b1, b2, h3, ⟨lr, h4⟩, h5, h6, h7⟩

theorem Parts.pk {w : World} {base : Nat} {ok : Nat → Prop} {b : Nat} {x : Pk} {db : Nat} {v bv cv : Value} (h : Parts w base ok b x db v bv cv) : IsPk w base ok b x := by
  obtain ⟨lr, h4⟩ := h.hd
  exact mk_M ⟨h.val, b, db, v, bv, cv, lr, rfl, ⟨h.okb, h.leb⟩, ⟨h.okd, h.led⟩, h.hb, h4, h.rv, h.rb, h.rk⟩

section
variable {w w' : World} {base : Nat} {ok : Nat → Prop} {b : Nat} {x : Pk} {db : Nat} {v bv cv : Value}

theorem Parts.buf (h : Parts w base ok b x db v bv cv) : IsBuf w db v x.data := ⟨h.hd, own_weaken (int_own h.rv) (Nat.zero_le _)⟩
theorem Parts.dne (h : Parts w base ok b x db v bv cv) : b ≠ db := by
  rintro rfl
  obtain ⟨lr, h4⟩ := h.hd
  have := h.hb
  rw [h4] at this
  injection this with this
  injection this with _ this
  exact absurd this (by decide)
theorem Parts.bne (h : Parts w base ok b x db v bv cv) : v.ownBlock ≠ some b := by
  intro e
  obtain ⟨cells, hc⟩ := own_typed (int_own h.rv) b e
  have := h.hb
  rw [hc] at this
  injection this with this
  injection this with _ this
  exact absurd this (by decide)

/-- A row at another base: its block is at least so great. -/
theorem own_base_at {w : World} {base base' : Nat} {e : TypeId} {s n : Nat} {v : Value} {cs : List Value} (h : w.ownsRow base e s v n cs) (hb : ∀ k, v.ownBlock = some k → base' ≤ k) : w.ownsRow base' e s v n cs := by
  obtain ⟨h1, h2⟩ := h
  refine ⟨h1, ?_⟩
  rcases h2 with h2 | ⟨g, cap, cur, rfl, hg, r⟩
  · exact .inl h2
  · exact .inr ⟨g, cap, cur, rfl, hb g rfl, r⟩

theorem Parts.wrote {ys : List Int} {e0 e : Ending} (h : Parts w base ok b x db v bv cv) (hw : Wrote w db v (x.data ++ ys) e0 e w') (hbase : base ≤ w.heap.size) :
    e = e0 ∧ Only ok w w' ∧ ∃ v', Parts w' base (fun k => ok k ∨ w.heap.size ≤ k) b { x with data := x.data ++ ys } db v' bv cv := by
  obtain ⟨he, v', hbuf, hrow, hon⟩ := hw
  have hlt : b < w.heap.size := blk_lt h.hb
  have hkeep : ∀ k, k < w.heap.size → k ≠ db → some k ≠ v.ownBlock → w'.heap[k]? = w.heap[k]? := fun k hk h1 h2 => hon.block k hk (fun h3 => h3.elim h1 h2)
  have hokrow : ∀ k, v.ownBlock = some k → ok k := h.rv.1
  have hne : ∀ k, some k ≠ v.ownBlock → k < w.heap.size → some k ≠ v'.ownBlock := by
    intro k h1 h2
    rcases hrow with h3 | ⟨N, h3, h4⟩
    · rw [h3]; exact h1
    · rw [h3]
      intro h5
      injection h5 with h5
      omega
  have hdb : ∀ {k : Nat} {cs : Array Value}, w.heap[k]? = some (.cells cs 5 (0, 0)) → k ≠ db := by
    rintro k cs hc rfl
    obtain ⟨lr, h4⟩ := h.hd
    rw [hc] at h4
    injection h4 with h4
    injection h4 with _ h4
    exact absurd h4 (by decide)
  refine ⟨he, hon.mono ?_, v', h.val, Or.inl h.okb, h.leb, Or.inl h.okd, h.led, ?_, hbuf.1, ?_, ?_, ?_⟩
  · rintro i hi (rfl | h1)
    · exact h.okd
    · exact hokrow i h1.symm
  · exact (hkeep b hlt h.dne (Ne.symm h.bne)).trans h.hb
  · refine own_int (own_base_at hbuf.2 ?_) ?_
    · intro k hk
      rcases hrow with h3 | ⟨N, h3, h4⟩
      · exact own_base (int_own h.rv) k (h3 ▸ hk)
      · rw [h3] at hk; injection hk with hk; omega
    · intro k hk
      rcases hrow with h3 | ⟨N, h3, h4⟩
      · exact Or.inl (hokrow k (h3 ▸ hk))
      · rw [h3] at hk; injection hk with hk; exact Or.inr (by omega)
  · have r := Kd.R_bound h.rb
    refine Kd.R_mono (Kd.R_move r ?_) ?_
    · rintro k ⟨⟨k1, k2⟩, k3, k4, q, hq, cells, hc⟩
      refine hkeep k k4 (hdb (k := k) (cs := cells) ?_) k2
      rcases List.mem_cons.1 hq with rfl | hq
      · exact hc
      · exact absurd hq (by simp [Kd.int, Kd.scalar])
    · rintro k ⟨⟨k1, k2⟩, k3, k4, _⟩
      exact ⟨Or.inl k1, hne k k2 k4⟩
  · have r := Kd.R_bound h.rk
    refine Kd.R_mono (Kd.R_move r ?_) ?_
    · rintro k ⟨⟨k1, k2, k3, k4⟩, k5, k6, _⟩
      exact hkeep k k6 k3 k4
    · rintro k ⟨⟨k1, k2, k3, k4⟩, k5, k6, _⟩
      exact ⟨Or.inl k1, k2, k3, hne k k4 k6⟩

/-- Another value in the interface. -/
theorem Parts.setVal (h : Parts w base ok b x db v bv cv) (u : Value) (hu : u.oneCell' = true) : Parts (w.setCell ⟨b, 3, none⟩ u) base ok b { x with val := u } db v bv cv ∧ Only ok w (w.setCell ⟨b, 3, none⟩ u) := by
  have hk : ∀ k, k ≠ b → (w.setCell ⟨b, 3, none⟩ u).heap[k]? = w.heap[k]? := fun k hk => Below.heap_setCell w ⟨b, 3, none⟩ u k hk
  have hrow : ∀ {k : Nat} {cs : Array Value}, w.heap[k]? = some (.cells cs 5 (0, 0)) → k ≠ b := by
    rintro k cs hc rfl
    have := h.hb
    rw [hc] at this
    injection this with this
    injection this with _ this
    exact absurd this (by decide)
  refine ⟨⟨hu, h.okb, h.leb, h.okd, h.led, Lib.heap_setCell_same (i := 3) h.hb u, ?_, ?_, ?_, ?_⟩, (Only.refl ok w).setCell (a := ⟨b, 3, none⟩) (fun _ => h.okb) u⟩
  · obtain ⟨lr, h4⟩ := h.hd
    exact ⟨lr, (hk db (Ne.symm h.dne)).trans h4⟩
  · refine Kd.R_mono (Kd.R_move (Kd.R_bound h.rv) ?_) (fun k hk => hk.1)
    rintro k ⟨k1, k2, k3, q, hq, cells, hc⟩
    refine hk k (hrow (cs := cells) ?_)
    rcases List.mem_cons.1 hq with rfl | hq
    · exact hc
    · exact absurd hq (by simp [Kd.int, Kd.scalar])
  · refine Kd.R_mono (Kd.R_move (Kd.R_bound h.rb) ?_) (fun k hk => hk.1)
    rintro k ⟨k1, k2, k3, q, hq, cells, hc⟩
    refine hk k (hrow (cs := cells) ?_)
    rcases List.mem_cons.1 hq with rfl | hq
    · exact hc
    · exact absurd hq (by simp [Kd.int, Kd.scalar])
  · exact Kd.R_move h.rk (fun k hk' => hk k hk'.2.1)

theorem Parts.below (h : Parts w base ok b x db v bv cv) (hb : Below w.heap.size w w') : Parts w' base ok b x db v bv cv := by
  obtain ⟨lr, h4⟩ := h.hd
  exact ⟨h.val, h.okb, h.leb, h.okd, h.led, blk_below h.hb hb, ⟨lr, blk_below h4 hb⟩, Kd.R_below h.rv hb, Kd.R_below h.rb hb, Kd.R_below h.rk hb⟩

theorem Parts.cell (h : Parts w base ok b x db v bv cv) (i : Nat) : w.cell? ⟨b, i, none⟩ = (cellsOf x bv db cv)[i]? := Lib.cell_of_heap h.hb i
theorem Parts.frozen (h : Parts w base ok b x db v bv cv) (i : Nat) : w.frozen? ⟨b, i, none⟩ = false := Lib.frozen_of_heap h.hb i
end

/-- The bytes of a row read (C) lie where Write looks. -/
theorem reads_cells {w : World} {A : Option Addr} {ys : List Int} (h : B8.C w A ys.length ys) : (A = none ∧ ys = []) ∨ ∃ a, (A = some a ∨ ys = []) ∧ ∀ j u, (nums .u8 ys)[j]? = some u → w.cell? (a.add j) = some u := by
  rcases Nat.eq_zero_or_pos ys.length with h0 | h0
  · have : ys = [] := List.eq_nil_of_length_eq_zero h0
    subst this
    exact Or.inr ⟨⟨0, 0, none⟩, Or.inr rfl, fun j u hj => by simp [nums] at hj⟩
  · obtain ⟨a, rfl, _⟩ := Kd.at_int h 0 (by omega) (by omega)
    refine Or.inr ⟨a, Or.inl rfl, fun j u hj => ?_⟩
    have hl : j < ys.length := by
      have := (List.getElem?_eq_some_iff.1 hj).1
      rw [nums_length] at this
      exact this
    obtain ⟨a', e, hc⟩ := Kd.at_int h (j : Int) (by omega) (by omega)
    injection e with e
    subst e
    rw [Int.toNat_natCast] at hc
    rw [hc]
    rw [nums, List.getElem?_map, List.getElem?_eq_getElem hl] at hj
    rw [← hj]
    simp [rd, List.getD_eq_getElem?_getD, List.getElem?_eq_getElem hl]

/-- Write of what a row holds, wherever it lies but in the struct's block. -/
theorem write_row (b : Nat) (v : Value) (xs ys : List Int) (A : Option Addr) (c : Nat) (w : World) (h : IsBuf w b v xs) (hr : B8.C w A ys.length ys) (hne : ∀ a, A = some a → 1 ≤ ys.length → a.block ≠ b) (hlim : xs.length + ys.length ≤ 140737488355328) :
    Calls Tryz.prog 107 #[.pointer (some ⟨b, 0, none⟩), .slice A ys.length c] w fun e w' => Wrote w b v (xs ++ ys) (.returned (.tuple #[.int .i64 ys.length, .nilIface])) e w' := by
  by_cases h0 : ys = []
  · subst h0
    rw [List.append_nil]
    exact write_none b v xs A c w h
  · have hpos : 1 ≤ ys.length := by
      rcases Nat.eq_zero_or_pos ys.length with h1 | h1
      · exact absurd (List.eq_nil_of_length_eq_zero h1) h0
      · exact h1
    rcases reads_cells hr with ⟨_, h1⟩ | ⟨a, rfl | h1, hc⟩
    · exact absurd h1 h0
    · exact write_any b v xs ys a c w h (hne a rfl hpos) hc hlim
    · exact absurd h1 h0
end Go.Proofs.YteockihoefbmdaaGreatDoor.Ber

namespace Go.Proofs.YteockihoefbmdaaGreatDoor.Ber
open Go.RowKit Go.Proofs.YteockihoefbmdaaGreatDoorW.PrintWords Go.Proofs.YteockihoefbmdaaGreatDoor.Buf Go.Proofs.YteockihoefbmdaaGreatDoor.Pk
set_option linter.unusedVariables false
set_option linter.unusedSimpArgs false

/-- A packet that holds bytes. -/
def prim (cls typ tag : Int) (val : Value) (data : List Int) (desc : ByteArray) : Pk := ⟨cls, typ, tag, val, [], data, [], desc⟩

/-- the string value in an interface -/
abbrev strV (s : ByteArray) : Value := .iface 9 (.string s)

theorem conv_bytes (s : ByteArray) : ∀ W : World, (convert 9 22 (.string s)).run Tryz.prog W = .ok (.slice (some ⟨W.heap.size, 0, none⟩) s.size (grownCap W s.size 0 5)) (Lib.bytesWorld W 5 s) :=
  fun W => print_bytes (P := Tryz.prog) 9 22 5 Tryz.underlying9 Tryz.underlying22 Tryz.underlying5 s W

end Go.Proofs.YteockihoefbmdaaGreatDoor.Ber
namespace Go.Proofs.YteockihoefbmdaaGreatDoor.Tree
open Go.RowKit Go.Proofs.YteockihoefbmdaaGreatDoorW.PrintWords Go.Proofs.YteockihoefbmdaaGreatDoor.PFnEncode
set_option linter.unusedVariables false
set_option linter.unusedSimpArgs false

mutual
/-- the reference's packet of the same shape -/
def mir : S30 → S34
  | ⟨a, b, c, d, l⟩ => ⟨a, b, c, d, mirL l⟩
def mirL : List S30 → List S34
  | [] => []
  | x :: xs => mir x :: mirL xs
end
mutual
/-- a proper packet -/
def good : S34 → Bool
  | ⟨a, b, c, d, l⟩ => decide (0 ≤ a) && decide (a ≤ 3) && decide (0 ≤ b) && decide (b < 268435456) && (if c then decide (d.length = 0) else decide (l.length = 0)) && goodL l
def goodL : List S34 → Bool
  | [] => true
  | x :: xs => good x && goodL xs
end
mutual
/-- how many packets and bytes -/
def tsize : S34 → Nat
  | ⟨_, _, _, d, l⟩ => 1 + d.length + tsizeL l
def tsizeL : List S34 → Nat
  | [] => 0
  | x :: xs => tsize x + tsizeL xs
end

theorem mirL_eq (l : List S30) : mirL l = l.map mir := by
  induction l with
  | nil => rfl
  | cons x xs ih => rw [mirL, ih]; rfl
theorem goodL_all (l : List S34) : goodL l = l.all good := by
  induction l with
  | nil => rfl
  | cons x xs ih => rw [goodL, ih]; rfl
theorem mirL_append (l m : List S30) : mirL (l ++ m) = mirL l ++ mirL m := by rw [mirL_eq, mirL_eq, mirL_eq, List.map_append]
theorem tsizeL_append (l m : List S34) : tsizeL (l ++ m) = tsizeL l + tsizeL m := by
  induction l with
  | nil => simp [tsizeL]
  | cons x xs ih => rw [List.cons_append, tsizeL, tsizeL, ih]; omega

end Go.Proofs.YteockihoefbmdaaGreatDoor.Tree
namespace Go.Proofs.YteockihoefbmdaaGreatDoor.Ident
open Go.RowKit Go.Proofs.YteockihoefbmdaaGreatDoorW.PrintWords Go.Proofs.YteockihoefbmdaaGreatDoor.Num
set_option linter.unusedVariables false
set_option linter.unusedSimpArgs false

/-- the groups of seven bits, the lowest first: all but that bear the bit of continuation -/
def dig (t : Int) : Nat → Int
  | 0 => t % 128
  | i + 1 => t / 128 ^ (i + 1) % 128 + 128
def low (t : Int) (n : Nat) : List Int := (List.range n).map (dig t)
theorem low_length (t : Int) (n : Nat) : (low t n).length = n := by simp [low]
theorem low_snoc (t : Int) (n : Nat) : low t (n + 1) = low t n ++ [dig t n] := by simp [low, List.range_succ]
/-- how many groups -/
def ng (x : Nat) : Nat := if _h : x = 0 then 0 else ng (x / 128) + 1
decreasing_by omega
theorem ng_zero : ng 0 = 0 := by rw [ng, dif_pos rfl]
theorem ng_pos {x : Nat} (h : x ≠ 0) : ng x = ng (x / 128) + 1 := by rw [ng, dif_neg h]
theorem ng_le : ∀ (k x : Nat), x < 128 ^ k → ng x ≤ k := by
  intro k
  induction k with
  | zero => intro x h; have : x = 0 := by simpa using h
            rw [this, ng_zero]; exact Nat.le_refl _
  | succ k ih =>
    intro x h
    by_cases h0 : x = 0
    · rw [h0, ng_zero]; omega
    · rw [ng_pos h0]
      have := ih (x / 128) (by rw [Nat.pow_succ] at h; omega)
      omega

theorem or128' : ∀ n : Fin 128, Go.bits .or .u64 ((n : Nat) : Int) 128 = ((n : Nat) : Int) + 128 := by decide +kernel
theorem and_low (x : Nat) (hx : x < 18446744073709551616) : Go.bits .and .u64 (x : Int) 127 = ((x % 128 : Nat) : Int) := by
  show IntKind.u64.wrap ((BitVec.ofInt 64 (x : Int) &&& BitVec.ofInt 64 127).toNat : Int) = _
  rw [BitVec.toNat_and, BitVec.toNat_ofInt, BitVec.toNat_ofInt]
  have e0 : ((2 ^ 64 : Nat) : Int) = 18446744073709551616 := by decide
  rw [e0]
  have e1 : ((x : Int) % 18446744073709551616).toNat = x := by omega
  have e2 : ((127 : Int) % 18446744073709551616).toNat = 2 ^ 7 - 1 := by decide
  rw [e1, e2, Nat.and_two_pow_sub_one_eq_mod]
  show IntKind.u64.wrap _ = _
  rw [IntKind.wrap_u64]
  omega

def natT : Value → Nat
  | .int _ n => n.toNat
  | _ => 0
/-- a row after so many swaps of its ends -/
def sw (L : List Int) : Nat → List Int
  | 0 => L
  | i + 1 => ((sw L i).set i (rd (sw L i) ((L.length : Int) - 1 - i))).set (L.length - 1 - i) (rd (sw L i) (i : Int))
theorem sw_all (L : List Int) (h1 : 1 ≤ L.length) (h4 : L.length ≤ 4) : sw L (L.length / 2) = L.reverse := by
  match L, h1, h4 with
  | [a], _, _ => simp [sw]
  | [a, b], _, _ => simp [sw, rd]
  | [a, b, c], _, _ => simp [sw, rd]
  | [a, b, c, d], _, _ => simp [sw, rd]
theorem info8 : (Tryz.prog.info? 5).map (fun i => (i.zero, i.size, i.bytes)) = some (some (.int .u8 0), 1, 1) := by kernel_rfl

theorem round_end {t j x : Nat} {w w1 : World} {v1 : Value} {y : Int} (hx : x = t / 128 ^ j) (hn : ng x + j = ng t) (hz : x ≠ 0) (hown : w1.ownsRow w.heap.size 5 1 v1 (low t j ++ [y]).length (nums .u8 (low t j ++ [y]))) (hB : Below w.heap.size w w1) (hy : y = dig t j) :
    (∃ j, Value.int .u64 ((x : Int) / 128) = Value.int .u64 ((t / 128 ^ j : Nat) : Int) ∧ Hid (ng (t / 128 ^ j) + j = ng t) ∧ Hid (w1.ownsRow w.heap.size 5 1 v1 (low t j).length (nums .u8 (low t j))) ∧ Hid (Below w.heap.size w w1)) ∧
      ng (natT (Value.int .u64 ((x : Int) / 128))) < ng (natT (Value.int .u64 (x : Int))) := by
  have e : t / 128 ^ (j + 1) = x / 128 := by rw [hx, Nat.pow_succ, Nat.div_div_eq_div_mul]
  have h1 := ng_pos hz
  refine ⟨⟨j + 1, by rw [e]; push_cast; rfl, Lib.hid (by rw [e]; omega), Lib.hid (by rw [low_snoc, ← hy]; exact hown), Lib.hid hB⟩, ?_⟩
  show ng ((x : Int) / 128).toNat < ng (x : Int).toNat
  rw [Int.toNat_natCast, show ((x : Int) / 128).toNat = x / 128 by omega]
  omega

theorem swap_end {w wr W5 : World} {gb j i c : Nat} {L : List Int} (hL : L.length = j) (hi : i < j / 2) (HO : wr.ownsRow w.heap.size 5 1 (.slice (some ⟨gb, 0, none⟩) j c) j (nums .u8 (sw L i))) (HB : Below w.heap.size w wr)
    (hW : W5 = ((wr.setCell ⟨gb, i, none⟩ (.int .u8 (rd (sw L i) ((j : Int) - 1 - i)))).setCell ⟨gb, j - 1 - i, none⟩ (.int .u8 (rd (sw L i) (i : Int)))).drew) :
    W5.ownsRow w.heap.size 5 1 (.slice (some ⟨gb, 0, none⟩) j c) j (nums .u8 (sw L (i + 1))) ∧ Below w.heap.size w W5 := by
  have hgb : w.heap.size ≤ gb := by
    rcases HO.2 with ⟨hv, _⟩ | ⟨g', _, _, hv, hg, _⟩
    · cases hv
    · injection hv with hv; injection hv with hv; injection hv with hv; omega
  have h1 := (own_store HO (i : Int) (rd (sw L i) ((j : Int) - 1 - i))).1
  rw [Int.toNat_natCast] at h1
  have h2 := (own_store h1 ((j - 1 - i : Nat) : Int) (rd (sw L i) (i : Int))).1
  rw [Int.toNat_natCast] at h2
  rw [hW]
  refine ⟨?_, ((HB.setCell (p := ⟨gb, i, none⟩) hgb _).setCell (p := ⟨gb, j - 1 - i, none⟩) hgb _).drew⟩
  rw [sw, hL]
  exact h2.drew

set_option maxHeartbeats 6400000 in
set_option maxRecDepth 100000 in
theorem high_any (t : Nat) (ht : t < 268435456) (h0 : 0 < t) (w : World) :
    Calls Tryz.prog 134 #[.int .u64 t] w fun e w' => ∃ v, e = .returned v ∧ w'.ownsRow w.heap.size 5 1 v (ng t) (nums .u8 (low t (ng t)).reverse) ∧ Below w.heap.size w w' := by
  obtain ⟨i0, hi, hz0, hz1, hz2⟩ := info_parts info8
  obtain ⟨M, hM⟩ : ∃ M, M = madeCells (Value.int .u8 0).cells ((4 : Int).toNat * i0.size) := ⟨_, rfl⟩
  have hMs : M.size = 4 := by rw [hM, size_madeCells, hz1]; rfl
  have hmk : ∀ W : World, (Instr.makeSlice 22 (.int .i64 0) (.int .i64 4)).run Tryz.prog W = .ok (.slice (some ⟨W.heap.size, 0, none⟩) 0 4) (W.alloc (.cells M 5)) := fun W => by
    have h := run_makeSlice (P := Tryz.prog) W 22 5 i0 (.int .u8 0) Tryz.underlying22 hi hz0 .i64 .i64 0 4 (by omega) (by omega) (by rw [hz1]; decide) (by rw [hz2]; decide) (by decide)
    rw [← hM] at h
    simpa using h
  have hM2 := Lib.hid hMs
  clear hM hi hz0 hz1 hz2
  go_enter Tryz.func134, Tryz.ntmps134
  go_wp2
  have hst : (w.alloc (.cells M 5)).ownsRow w.heap.size 5 1 (.slice (some ⟨w.heap.size, 0, none⟩) 0 4) 0 (nums .u8 (low t 0)) := by
    refine ⟨by simp [low, nums], .inr ⟨w.heap.size, 4, M, rfl, Nat.le_refl _, blk_new _ _, ?_⟩⟩
    simp [hMs, low, nums, maxLen]
  have HST := Lib.hid hst
  clear hst
  go_loopw [0, 3] (fun tv bv wr => ∃ j : Nat, tv = .int .u64 ((t / 128 ^ j : Nat) : Int) ∧ Hid (ng (t / 128 ^ j) + j = ng t) ∧ Hid (wr.ownsRow w.heap.size 5 1 bv (low t j).length (nums .u8 (low t j))) ∧ Hid (Below w.heap.size w wr)) (fun tv _ _ => ng (natT tv))
  case atStart => exact ⟨0, by simp, Lib.hid (by simp), HST, Lib.hid (below_alloc (Below.refl _ _) _)⟩
  case round =>
    obtain ⟨j, rfl, HN, HO, HB⟩ := hrel
    obtain ⟨A, c, rfl⟩ := own_slice HO.out
    have hlen := low_length t j
    obtain ⟨x, hx⟩ : ∃ x, x = t / 128 ^ j := ⟨_, rfl⟩
    rw [← hx] at HN ⊢
    have hxt : x ≤ t := by rw [hx]; exact Nat.div_le_self _ _
    have HX := Lib.hid hx
    clear hx
    by_cases hz : x = 0
    · subst hz
      have hjn : j = ng t := by have := HN.out; rw [ng_zero] at this; omega
      have hj1 : 1 ≤ j := by
        rw [hjn, ng_pos (by omega)]
        omega
      have hj4 : j ≤ 4 := by have := ng_le 4 t (by omega); omega
      obtain ⟨gb, rfl⟩ : ∃ gb, A = some ⟨gb, 0, none⟩ := by
        rcases HO.out.2 with ⟨hv, hl⟩ | ⟨gb, _, _, hv, _⟩
        · injection hv with _ hv
          omega
        · injection hv with hv
          exact ⟨gb, hv⟩
      have HJ := Lib.hid hjn
      clear hjn
      rw [hlen] at HO
      have HL := Lib.hid hlen
      have hw1 : wrap64 ((j : Int) - 1) = (j : Int) - 1 := by unfold wrap64; omega
      rw [hlen]
      clear hlen
      go_wp2
      go_loopw [5] (fun iv wr2 => ∃ i : Nat, iv = .int .i64 i ∧ i ≤ j / 2 ∧ Hid (wr2.ownsRow w.heap.size 5 1 (.slice (some ⟨gb, 0, none⟩) j c) j (nums .u8 (sw (low t j) i))) ∧ Hid (Below w.heap.size w wr2)) (fun iv _ => j / 2 - (intOf iv).toNat)
      case atStart => exact ⟨0, rfl, Nat.zero_le _, HO, HB⟩
      case round =>
        obtain ⟨i, rfl, hi, HO2, HB2⟩ := hrel
        by_cases hlt : i < j / 2
        · have hb1 : (0 : Int) ≤ (j : Int) - 1 - i := by omega
          have hb2 : (j : Int) - 1 - i < j := by omega
          have hb3 : (i : Int) < j := by omega
          obtain ⟨hc1, hf1⟩ := own_at HO2.out ((j : Int) - 1 - i) hb1 hb2
          have hn1 : ((j : Int) - 1 - i).toNat = j - 1 - i := by omega
          rw [hn1] at hc1 hf1
          obtain ⟨hc2, hf2⟩ := own_at HO2.out (i : Int) (by omega) hb3
          rw [Int.toNat_natCast] at hc2 hf2
          have hw2 : wrap64 ((j : Int) - 1 - i) = (j : Int) - 1 - i := by unfold wrap64; omega
          go_wp2
          go_region
          generalize hW5 : World.drew _ = W5
          obtain ⟨h1, h2⟩ := swap_end HL.out hlt HO2.out HB2.out hW5.symm
          have H1 := Lib.hid h1
          have H2 := Lib.hid h2
          clear h1 h2 hW5
          have hw3 : wrap64 ((i : Int) + 1) = ((i + 1 : Nat) : Int) := by unfold wrap64; omega
          go_wp2
          exact ⟨⟨i + 1, rfl, by omega, H1, H2⟩, by simp only [intOf, Int.toNat_natCast]; omega⟩
        · obtain rfl : i = j / 2 := by omega
          go_wp2
          go_ret
          refine ⟨_, rfl, ?_, HB2.out⟩
          have := HO2.out
          rw [← HJ.out, ← sw_all _ (by rw [HL.out]; exact hj1) (by rw [HL.out]; exact hj4), HL.out]
          exact this
    · have hj4 : j ≤ 4 := by have := ng_le 4 t (by omega); have := HN.out; omega
      have e1 : Go.bits .and .u64 (x : Int) 127 = (x : Int) % 128 := by
        rw [and_low x (by omega)]
        push_cast
        rfl
      have e2 : Go.bits .or .u64 ((x : Int) % 128) 128 = (x : Int) % 128 + 128 := by
        have := or128' ⟨x % 128, Nat.mod_lt _ (by omega)⟩
        simpa using this
      have e3 : ((x : Int) % 128) % 256 = (x : Int) % 128 := by omega
      have e4 : ((x : Int) % 128 + 128) % 256 = (x : Int) % 128 + 128 := by omega
      by_cases hj : j = 0
      · subst hj
        go_wp2_with (at_builtin; refine print_append_num (w0 := w) w.heap.size rfl (.tmp 19) (.tmp 22) 22 5 .u8 1 rfl Tryz.underlying22 info8 (by decide) _ (low t 0) _ rfl rfl HO.out HB.out HB.out.size (by rw [low_length]; omega) ?_; intro v1 w1 hown hB hg hat)
        exact round_end HX.out HN.out hz hown hB (by have h := HX.out; simp only [Nat.pow_zero, Nat.div_one] at h; rw [dig, h])
      · go_wp2_with (at_builtin; refine print_append_num (w0 := w) w.heap.size rfl (.tmp 19) (.tmp 22) 22 5 .u8 1 rfl Tryz.underlying22 info8 (by decide) _ (low t j) _ rfl rfl HO.out HB.out HB.out.size (by rw [low_length]; omega) ?_; intro v1 w1 hown hB hg hat)
        exact round_end HX.out HN.out hz hown hB (by
          obtain ⟨i, rfl⟩ : ∃ i, j = i + 1 := ⟨j - 1, by omega⟩
          have h : ((x : Nat) : Int) = (t : Int) / 128 ^ (i + 1) := by rw [HX.out]; push_cast; rfl
          rw [dig, ← h])
end Go.Proofs.YteockihoefbmdaaGreatDoor.Ident

namespace Go.Proofs.YteockihoefbmdaaGreatDoor.Ident
open Go.RowKit Go.Proofs.YteockihoefbmdaaGreatDoorW.PrintWords Go.Proofs.YteockihoefbmdaaGreatDoor.Num Go.Proofs.YteockihoefbmdaaGreatDoor.PFnEncode
set_option linter.unusedVariables false
set_option linter.unusedSimpArgs false

/-- the first byte without the tag -/
def cb (cls : Int) (c : Bool) : Int := cls * 64 + (if c then 32 else 0)
/-- the bytes of an identifier -/
def identT (cls tag : Int) (c : Bool) : List Int :=
  if tag < 31 then [cb cls c + tag] else (cb cls c + 31) :: (low tag (ng tag.toNat)).reverse

theorem or_a : ∀ n : Fin 256, Go.bits .or .u8 0 ((n : Nat) : Int) = ((n : Nat) : Int) := by decide +kernel
theorem or_b : ∀ n : Fin 4, Go.bits .or .u8 (((n : Nat) : Int) * 64) 32 = ((n : Nat) : Int) * 64 + 32 := by decide +kernel
theorem or_c : ∀ n : Fin 4, Go.bits .or .u8 (((n : Nat) : Int) * 64) 0 = ((n : Nat) : Int) * 64 := by decide +kernel
theorem or_d : ∀ (n : Fin 8) (t : Fin 32), Go.bits .or .u8 (((n : Nat) : Int) * 32) ((t : Nat) : Int) = ((n : Nat) : Int) * 32 + ((t : Nat) : Int) := by decide +kernel
theorem or_cb (cls : Int) (c : Bool) (t : Int) (h0 : 0 ≤ cls) (h1 : cls ≤ 3) (t0 : 0 ≤ t) (t1 : t < 32) : Go.bits .or .u8 (cb cls c) t = cb cls c + t := by
  have := or_d ⟨(cls * 2 + (if c then 1 else 0)).toNat, by split <;> omega⟩ ⟨t.toNat, by omega⟩
  simp only [Int.toNat_of_nonneg t0] at this
  have e : (((cls * 2 + (if c then 1 else 0)).toNat : Nat) : Int) * 32 = cb cls c := by
    unfold cb
    split <;> omega
  rwa [e] at this

theorem identT_le' (a b : Int) (c : Bool) (h0 : 0 ≤ b) (h : b < 268435456) : (identT a b c).length ≤ 5 := by
  unfold identT
  split
  · simp
  · have := ng_le 4 b.toNat (by omega)
    simp [low_length]
    exact this
end Go.Proofs.YteockihoefbmdaaGreatDoor.Ident

namespace Go.Proofs.YteockihoefbmdaaGreatDoor.Ident
open Go.RowKit Go.Proofs.YteockihoefbmdaaGreatDoorW.PrintWords Go.Proofs.YteockihoefbmdaaGreatDoor.Num
set_option linter.unusedVariables false
set_option linter.unusedSimpArgs false

/-- the state between the regions: the argument's box and the row of one byte -/
structure St (w W : World) (cv tv gv : Value) (a : Int) : Prop where
  box : W.heap[w.heap.size]? = some (.cells #[cv, tv, gv] 82 (0, 0))
  row : W.ownsRow w.heap.size 5 1 (.slice (some ⟨w.heap.size + 1, 0, none⟩) 1 1) 1 (nums .u8 [a])
  below : Below w.heap.size w W

theorem st_first (w : World) (cv tv gv : Value) : St w ((w.alloc (.cells #[cv, tv, gv] 82)).alloc (.cells #[.int .u8 0] 5)) cv tv gv 0 := by
  refine ⟨?_, ⟨by simp [nums], .inr ⟨w.heap.size + 1, 1, #[.int .u8 0], rfl, by omega, ?_, by simp [nums], by unfold maxLen; omega, rfl, rfl⟩⟩, below_alloc (below_alloc (Below.refl _ _) _) _⟩
  · exact blk_alloc (blk_new _ _) _
  · have := blk_new (w.alloc (.cells #[cv, tv, gv] 82)) (.cells #[.int .u8 0] 5)
    simpa using this

theorem St.at {w W : World} {cv tv gv : Value} {a : Int} (h : St w W cv tv gv a) : W.cell? ⟨w.heap.size + 1, 0, none⟩ = some (.int .u8 a) ∧ W.frozen? ⟨w.heap.size + 1, 0, none⟩ = false := by
  have := own_at h.row (0 : Int) (by omega) (by omega)
  simpa [rd] using this

theorem St.step {w W W' : World} {cv tv gv : Value} {a b : Int} (h : St w W cv tv gv a) (hW : W' = W.setCell ⟨w.heap.size + 1, 0, none⟩ (.int .u8 b) ∨ W' = (W.setCell ⟨w.heap.size + 1, 0, none⟩ (.int .u8 b)).drew) : St w W' cv tv gv b := by
  have h1 := (own_store h.row (0 : Int) b).1
  have h2 : (W.setCell ⟨w.heap.size + 1, 0, none⟩ (.int .u8 b)).heap[w.heap.size]? = some (.cells #[cv, tv, gv] 82 (0, 0)) := (Below.heap_setCell W ⟨w.heap.size + 1, 0, none⟩ _ _ (by show w.heap.size ≠ w.heap.size + 1; omega)).trans h.box
  have h3 := h.below.setCell (p := ⟨w.heap.size + 1, 0, none⟩) (Nat.le_succ _) (.int .u8 b)
  rcases hW with rfl | rfl
  · exact ⟨h2, h1, h3⟩
  · exact ⟨h2, h1.drew, h3.drew⟩

set_option maxHeartbeats 6400000 in
set_option maxRecDepth 100000 in
theorem ident_any (cls tag : Int) (c : Bool) (h0 : 0 ≤ cls) (h1 : cls ≤ 3) (t0 : 0 ≤ tag) (t1 : tag < 268435456) (w : World) :
    Calls Tryz.prog 108 #[.agg #[.int .u8 (cls * 64), .int .u8 (if c then 32 else 0), .int .u64 tag]] w fun e w' => ∃ v, e = .returned v ∧ w'.ownsRow w.heap.size 5 1 v (identT cls tag c).length (nums .u8 (identT cls tag c)) ∧ Below w.heap.size w w' := by
  obtain ⟨T, hT⟩ : ∃ T : Int, T = if c then 32 else 0 := ⟨_, rfl⟩
  obtain ⟨C, hC⟩ : ∃ C : Int, C = cls * 64 := ⟨_, rfl⟩
  have b1 : Go.bits .or .u8 0 C = C := by
    have e := or_a ⟨(cls * 64).toNat, by omega⟩
    simp only [Int.toNat_of_nonneg (show 0 ≤ cls * 64 by omega)] at e
    rw [hC]; exact e
  obtain ⟨S, hS⟩ : ∃ S : Int, S = cb cls c := ⟨_, rfl⟩
  have b2 : Go.bits .or .u8 C T = S := by
    rw [hC, hT, hS]
    cases c with
    | true =>
      have e := or_b ⟨cls.toNat, by omega⟩
      simp only [Int.toNat_of_nonneg h0] at e
      exact e
    | false =>
      have e := or_c ⟨cls.toNat, by omega⟩
      simp only [Int.toNat_of_nonneg h0] at e
      simpa [cb] using e
  have b4 : Go.bits .or .u8 S 31 = S + 31 := by rw [hS]; exact or_cb cls c 31 h0 h1 (by omega) (by omega)
  obtain ⟨fin, hfin⟩ : ∃ fin, fin = identT cls tag c := ⟨_, rfl⟩
  rw [← hT, ← hC, ← hfin]
  have HF := Lib.hid hfin
  have HS := Lib.hid hS
  clear hT hC hfin hS
  go_enter Tryz.func108, Tryz.ntmps108
  go_wp2
  have st := st_first w (.int .u8 C) (.int .u8 T) (.int .u64 tag)
  obtain ⟨W1, hW1⟩ : ∃ W1, W1 = (w.alloc (.cells #[.int .u8 C, .int .u8 T, .int .u64 tag] 82)).alloc (.cells #[.int .u8 0] 5) := ⟨_, rfl⟩
  rw [← hW1] at st ⊢
  obtain ⟨k1, k2⟩ := st.at
  have k3 : W1.cell? ⟨w.heap.size, 0, none⟩ = some (.int .u8 C) := blk_cell st.box 0
  clear hW1
  go_region
  generalize hW2 : World.drew _ = W2
  have st2 := st.step (b := C) (.inr hW2.symm)
  clear hW2 k1 k2 k3 st
  obtain ⟨k1, k2⟩ := st2.at
  have k3 : W2.cell? ⟨w.heap.size, 1, none⟩ = some (.int .u8 T) := blk_cell st2.box 1
  go_wp2
  go_region
  generalize hW3 : World.drew _ = W3
  have st3 := st2.step (b := S) (.inr hW3.symm)
  clear hW3 k1 k2 k3 st2
  obtain ⟨k1, k2⟩ := st3.at
  have k3 : W3.cell? ⟨w.heap.size, 2, none⟩ = some (.int .u64 tag) := blk_cell st3.box 2
  by_cases ht : tag < 31
  · have hm : tag % 256 = tag := by omega
    have b3 : Go.bits .or .u8 S tag = S + tag := by rw [HS.out]; exact or_cb cls c tag h0 h1 t0 (by omega)
    go_wp2
    go_region
    generalize hW4 : World.drew _ = W4
    have st4 := st3.step (b := S + tag) (.inr hW4.symm)
    clear hW4 k1 k2 k3 st3
    go_wp2
    go_ret
    refine ⟨_, rfl, ?_, st4.below⟩
    rw [HF.out, identT, if_pos ht, ← HS.out]
    exact st4.row
  · have hcall := fun W => high_any tag.toNat (by omega) (by omega) W
    simp only [Int.toNat_of_nonneg t0] at hcall
    have HC := Lib.hid hcall
    clear hcall
    go_wp2_with (first
      | (at_builtin
         refine print_append_row (w0 := w) w.heap.size rfl (.tmp 38) (.tmp 40) 22 5 .u8 1 rfl Tryz.underlying22 info8 (by decide) _ [S + 31] (low tag (ng tag.toNat)).reverse _ _ _ rfl rfl R5.out RD5.out HB5.out HB5.out.size (by simp [low_length] at *; omega) ?_
         intro v1 w1 hown hB hg hat)
      | (go_at_call 134
         generalize hW4 : World.setCell W3 _ _ = W4
         have st4 := st3.step (b := S + 31) (.inl hW4.symm)
         clear hW4 k1 k2 k3 st3
         refine (HC.out W4).mono ?_
         rintro e w5 ⟨v5, rfl, hown5, hB5⟩
         have R5 := Lib.hid (pw_own_below st4.row hB5)
         have HB5 := Lib.hid (st4.below.trans (hB5.mono st4.below.size))
         obtain ⟨A5, c5, rfl, rd5⟩ := own_reads hown5
         have hng : ng tag.toNat ≤ 4 := ng_le 4 _ (by omega)
         have RD5 := Lib.hid rd5
         clear hown5 hB5 rd5 st4))
    go_ret
    refine ⟨_, rfl, ?_, hB⟩
    rw [HF.out, identT, if_neg (show ¬ tag < 31 by omega), ← HS.out]
    exact hown
end Go.Proofs.YteockihoefbmdaaGreatDoor.Ident
namespace Go.Proofs.YteockihoefbmdaaGreatDoor.Ber
open Go.RowKit Go.Proofs.YteockihoefbmdaaGreatDoorW.PrintWords Go.Proofs.YteockihoefbmdaaGreatDoor.Buf Go.Proofs.YteockihoefbmdaaGreatDoor.Pk Go.Proofs.YteockihoefbmdaaGreatDoor.Num Go.Proofs.YteockihoefbmdaaGreatDoor.Ident
set_option linter.unusedVariables false
set_option linter.unusedSimpArgs false

theorem own_row_parts {W : World} {base : Nat} {v : Value} {ys : List Int} (h : W.ownsRow base 5 1 v ys.length (nums .u8 ys)) :
    ∃ A c, v = .slice A ys.length c ∧ ys.length ≤ c ∧ B8.C W A ys.length ys ∧ ∀ {b : Nat} {v' : Value}, Hdr W b v' → ∀ a, A = some a → 1 ≤ ys.length → a.block ≠ b := by
  obtain ⟨A, c, rfl, hl, hc⟩ := Kd.R_reads (own_int h (ok := fun _ => True) (fun _ _ => trivial))
  refine ⟨A, c, rfl, hl, hc, ?_⟩
  rintro b v' hb a rfl _ rfl
  exact row_ne hb h rfl

/-- A buffer of the call's own, at the first new block. -/
structure Mine (w W : World) (v : Value) (xs : List Int) : Prop where
  buf : IsBuf W w.heap.size v xs
  own : ∀ k, v.ownBlock = some k → w.heap.size ≤ k
  below : Below w.heap.size w W

theorem mine_first (w : World) : Mine w (w.alloc (.cells #[.slice none 0 0, .int .i64 0, .int .i8 0] 134)) (.slice none 0 0) [] :=
  ⟨⟨⟨0, blk_new _ _⟩, ⟨rfl, .inl ⟨rfl, rfl⟩⟩⟩, fun k hk => by simp [Value.ownBlock] at hk, below_alloc (Below.refl _ _) _⟩

theorem Mine.call {w W W' : World} {v : Value} {xs : List Int} (h : Mine w W v xs) (hb : Below W.heap.size W W') : Mine w W' v xs := by
  obtain ⟨⟨⟨lr, hh⟩, ho⟩, hk, hB⟩ := h
  exact ⟨⟨⟨lr, blk_below hh hb⟩, pw_own_below ho hb⟩, hk, hB.trans (hb.mono hB.size)⟩

theorem Mine.wrote {w W W' : World} {v : Value} {xs ys : List Int} {e0 e : Ending} (h : Mine w W v xs) (hw : Wrote W w.heap.size v ys e0 e W') : e = e0 ∧ ∃ v', Mine w W' v' ys := by
  obtain ⟨he, v', hbuf, hrow, hon⟩ := hw
  refine ⟨he, v', hbuf, ?_, h.below.trans (hon.below h.below.size ?_)⟩
  · intro k hk
    rcases hrow with h1 | ⟨N, h1, h2⟩
    · exact h.own k (h1 ▸ hk)
    · rw [h1] at hk
      injection hk with hk
      have := h.below.size
      omega
  · rintro i (rfl | hi)
    · exact Nat.le_refl _
    · exact h.own i hi.symm

theorem Mine.shelf {w W : World} {v : Value} {xs : List Int} (h : Mine w W v xs) : Lib.IsBuffer 134 5 w.heap.size w.heap.size (nums .u8 xs) W := by
  obtain ⟨⟨⟨lr, hh⟩, ho⟩, hk, hB⟩ := h
  refine ⟨Nat.le_refl _, v, lr, hh, ?_, row_ne ⟨lr, hh⟩ ho⟩
  rw [nums_length]
  exact own_base_at ho hk

/-- the bytes of a packet in memory -/
def pkBytes (cls tag : Int) (c : Bool) (data : List Int) : List Int := identT cls tag c ++ lenBytes data.length ++ data

set_option maxHeartbeats 400000 in
set_option maxRecDepth 100000 in
theorem bytes_any {base : Nat} {ok : Nat → Prop} {b db : Nat} {v bv cv : Value} (cls tag : Int) (c : Bool) (h0 : 0 ≤ cls) (h1 : cls ≤ 3) (t0 : 0 ≤ tag) (t1 : tag < 268435456) (x : Pk) (hx0 : x.cls = cls * 64) (hx1 : x.typ = if c then 32 else 0) (hx2 : x.tag = tag)
    (hl : x.data.length < 1099511627776) (w : World) (P : Parts w base ok b x db v bv cv) :
    Calls Tryz.prog 63 #[.pointer (some ⟨b, 0, none⟩)] w fun e w' => ∃ r, e = .returned r ∧ w'.ownsRow w.heap.size 5 1 r (pkBytes cls tag c x.data).length (nums .u8 (pkBytes cls tag c x.data)) ∧ Below w.heap.size w w' := by
  have hid := fun W => ident_any cls tag c h0 h1 t0 t1 W
  have hle := fun W => encLen_any x.data.length (by simp; omega) W
  have hil := identT_le' cls tag c t0 t1
  have hll := lenBytes_le x.data.length (by simp; omega)
  rw [← hx0, ← hx1] at hid
  have HI := Lib.hid hid
  have HL := Lib.hid hle
  have HX := Lib.hid hx2
  clear hid hle
  have M0 := mine_first w
  have c0 : (w.alloc (.cells #[.slice none 0 0, .int .i64 0, .int .i8 0] 134)).cell? ⟨b, 0, none⟩ = some (.int .u8 x.cls) := (P.below M0.below).cell 0
  have c1 : (w.alloc (.cells #[.slice none 0 0, .int .i64 0, .int .i8 0] 134)).cell? ⟨b, 1, none⟩ = some (.int .u8 x.typ) := (P.below M0.below).cell 1
  have c2 : (w.alloc (.cells #[.slice none 0 0, .int .i64 0, .int .i8 0] 134)).cell? ⟨b, 2, none⟩ = some (.int .u64 tag) := ((P.below M0.below).cell 2).trans (by rw [← hx2]; rfl)
  have HM := Lib.hid M0
  have HP := Lib.hid P
  obtain ⟨W0, hW0⟩ : ∃ W0, W0 = w.alloc (.cells #[.slice none 0 0, .int .i64 0, .int .i8 0] 134) := ⟨_, rfl⟩
  have HW0 := Lib.hid hW0
  clear M0 hW0 P hx2 hx0 hx1
  obtain ⟨fin, hfin⟩ : ∃ fin, fin = pkBytes cls tag c x.data := ⟨_, rfl⟩
  rw [← hfin]
  have HF := Lib.hid hfin
  clear hfin
  go_enter Tryz.func63, Tryz.ntmps63
  go_wp2_with (first
    | (go_at_call 108
       rw [← HW0.out] at HM ⊢
       clear c0 c1 c2
       with_reducible refine (HI.out W0).mono ?_
       rintro e W1 ⟨v1, rfl, ho1, hB1⟩
       obtain ⟨A1, d1, rfl, hl1, hc1, hne1⟩ := own_row_parts ho1
       have HW1 := Lib.hid (write_row w.heap.size _ _ (identT cls tag c) A1 d1 W1 (HM.out.call hB1).buf hc1 (hne1 (HM.out.call hB1).buf.1) (by simp; omega))
       have HM1 := Lib.hid (HM.out.call hB1)
       clear ho1 hB1 hl1 hc1 hne1)
    | (go_at_call 107
       with_reducible refine HW1.out.mono ?_
       rintro e W2 hw
       obtain ⟨rfl, v2, hM2⟩ := HM1.out.wrote hw
       have HM2 := Lib.hid hM2
       have c5 : W2.cell? ⟨b, 5, none⟩ = some (.pointer (some ⟨db, 0, none⟩)) := (HP.out.below hM2.below).cell 5
       have HL1 := Lib.hid (Tryz.Buffer_Len 0 db (nums .u8 x.data) W2 (HP.out.below hM2.below).buf.shelf)
       clear hw hM2 HW1))
  go_wp2_with (first
    | (go_at_call 109
       with_reducible refine HL1.out.mono ?_
       rintro e W3 ⟨rfl, n3, hW3⟩
       have HM3 := Lib.hid (HM2.out.call (hW3 ▸ pw_below_drewN (Below.refl _ W2) n3))
       clear hW3 HM2 HM1 HL1 c5
       rw [nums_length])
    | (go_at_call 103
       with_reducible refine (HL.out W3).mono ?_
       rintro e W4 ⟨v4, rfl, hR4, hB4⟩
       obtain ⟨A4, d4, rfl, hl4, hc4, hne4⟩ := own_row_parts (int_own hR4)
       have HW4 := Lib.hid (write_row w.heap.size _ _ (lenBytes x.data.length) A4 d4 W4 (HM3.out.call hB4).buf hc4 (hne4 (HM3.out.call hB4).buf.1) (by simp; omega))
       have HM4 := Lib.hid (HM3.out.call hB4)
       clear hR4 hB4 hl4 hc4 hne4 HM3)
    | (go_at_call 107
       with_reducible refine HW4.out.mono ?_
       rintro e W5 hw
       obtain ⟨rfl, v5, hM5⟩ := HM4.out.wrote hw
       have HM5 := Lib.hid hM5
       have c5 : W5.cell? ⟨b, 5, none⟩ = some (.pointer (some ⟨db, 0, none⟩)) := (HP.out.below hM5.below).cell 5
       have HB5 := Lib.hid (Tryz.Buffer_Bytes 0 db (nums .u8 x.data) W5 (HP.out.below hM5.below).buf.shelf)
       clear hw hM5 HW4 HM4))
  go_wp2_with (first
    | (go_at_call 33
       with_reducible refine HB5.out.mono ?_
       rintro e W6 ⟨v6, rfl, ho6, n6, hW6⟩
       rw [nums_length] at ho6
       obtain ⟨A6, d6, rfl, hl6, hc6, hne6⟩ := own_row_parts ho6
       have hM6 := HM5.out.call (hW6 ▸ pw_below_drewN (Below.refl _ W5) n6)
       have HW6 := Lib.hid (write_row w.heap.size _ _ x.data A6 d6 W6 hM6.buf hc6 (hne6 hM6.buf.1) (by simp; omega))
       have HM6 := Lib.hid hM6
       clear hW6 HM5 HB5 c5 ho6 hl6 hc6 hne6 hM6)
    | (go_at_call 107
       with_reducible refine HW6.out.mono ?_
       rintro e W7 hw
       obtain ⟨rfl, v7, hM7⟩ := HM6.out.wrote hw
       have HM7 := Lib.hid hM7
       have HB7 := Lib.hid (Tryz.Buffer_Bytes w.heap.size w.heap.size _ W7 hM7.shelf)
       clear hw hM7 HW6 HM6))
  go_wp2_with (go_at_call 33; with_reducible refine HB7.out.mono ?_; rintro e W8 ⟨v8, rfl, ho8, n8, hW8⟩)
  go_ret
  rw [nums_length] at ho8
  subst hW8
  refine ⟨v8, rfl, ?_, pw_below_drewN HM7.out.below n8⟩
  rw [HF.out, pkBytes]
  simpa using ho8
end Go.Proofs.YteockihoefbmdaaGreatDoor.Ber

namespace Go.Proofs.YteockihoefbmdaaGreatDoor.Ber
open Go.RowKit Go.Proofs.YteockihoefbmdaaGreatDoorW.PrintWords Go.Proofs.YteockihoefbmdaaGreatDoor.Buf Go.Proofs.YteockihoefbmdaaGreatDoor.Pk Go.Proofs.YteockihoefbmdaaGreatDoor.Num Go.Proofs.YteockihoefbmdaaGreatDoor.Ident
set_option linter.unusedVariables false
set_option linter.unusedSimpArgs false

theorem infoP : (Tryz.prog.info? 72).map (fun i => (i.zero, i.size, i.bytes)) = some (some (.pointer none), 1, 8) := by kernel_rfl

/-- The end: the grown row in the struct. -/
theorem app_end {W2 w1 : World} {base : Nat} {ok : Nat → Prop} {b db : Nat} {v bv cv v1 : Value} {x y : Pk} (P : Parts W2 base ok b x db v bv cv)
    (hR : kPk.R TP w1 base (fun k => ok k ∧ k ≠ b ∧ k ≠ db ∧ some k ≠ v.ownBlock) v1 (x.kids ++ [y])) (hg : W2.grownBy w1 cv.ownBlock) :
    Parts (w1.setCell ⟨b, 6, none⟩ v1) base ok b { x with kids := x.kids ++ [y] } db v bv v1 ∧ Only (fun i => i = b ∨ some i = cv.ownBlock) W2 (w1.setCell ⟨b, 6, none⟩ v1) := by
  obtain ⟨h0, inner, ho, hr⟩ := P.rk
  have hne : some b ≠ cv.ownBlock := fun e => (h0 b e.symm).2.1 rfl
  have hned : some db ≠ cv.ownBlock := fun e => (h0 db e.symm).2.2.1 rfl
  have hbw : w1.heap[b]? = some (.cells (cellsOf x bv db cv) T (0, 0)) := blk_grown P.hb hg hne
  obtain ⟨lr, hd⟩ := P.hd
  have hdw : w1.heap[db]? = some (.cells #[v, .int .i64 0, .int .i8 lr] TB (0, 0)) := blk_grown hd hg hned
  have hkeep : ∀ {k : Nat} {cs : Array Value}, W2.heap[k]? = some (.cells cs 5 (0, 0)) → k < W2.heap.size → (w1.setCell ⟨b, 6, none⟩ v1).heap[k]? = W2.heap[k]? := by
    intro k cs hc hk
    have h1 : k ≠ b := blk_ne hc P.hb (by decide)
    have h2 : some k ≠ cv.ownBlock := fun e => by
      obtain ⟨cells, hc'⟩ := own_typed ho k e.symm
      exact blk_ne hc hc' (by decide) rfl
    exact (Below.heap_setCell w1 ⟨b, 6, none⟩ v1 k h1).trans (hg.block k hk h2)
  refine ⟨⟨P.val, P.okb, P.leb, P.okd, P.led, ?_, ⟨lr, blk_far hdw (p := ⟨b, 6, none⟩) (Ne.symm P.dne) v1⟩, ?_, ?_, ?_⟩, ?_⟩
  · exact Lib.heap_setCell_same (i := 6) hbw v1
  · refine Kd.R_mono (Kd.R_move (Kd.R_bound P.rv) ?_) (fun k hk => hk.1)
    rintro k ⟨k1, k2, k3, q, hq, cells, hc⟩
    rcases List.mem_cons.1 hq with rfl | hq
    · exact hkeep hc k3
    · exact absurd hq (by simp [Kd.int, Kd.scalar])
  · refine Kd.R_mono (Kd.R_move (Kd.R_bound P.rb) ?_) (fun k hk => hk.1)
    rintro k ⟨k1, k2, k3, q, hq, cells, hc⟩
    rcases List.mem_cons.1 hq with rfl | hq
    · exact hkeep hc k3
    · exact absurd hq (by simp [Kd.int, Kd.scalar])
  · exact Kd.R_far hR (p := ⟨b, 6, none⟩) (fun k hk => hk.2.1) v1
  · have h1 : Only (fun i => i = b ∨ some i = cv.ownBlock) W2 w1 := ⟨hg.os, hg.tape, hg.output, hg.size, fun i hi hn => hg.block i hi (fun e => hn (Or.inr e))⟩
    exact h1.setCell (a := ⟨b, 6, none⟩) (fun _ => Or.inl rfl) v1

theorem Parts.okmono {w : World} {base : Nat} {ok ok' : Nat → Prop} {b : Nat} {x : Pk} {db : Nat} {v bv cv : Value} (h : Parts w base ok b x db v bv cv) (hok : ∀ k, ok k → ok' k) : Parts w base ok' b x db v bv cv :=
  ⟨h.val, hok _ h.okb, h.leb, hok _ h.okd, h.led, h.hb, h.hd, Kd.R_mono h.rv hok, Kd.R_mono h.rb (fun k hk => ⟨hok k hk.1, hk.2⟩), Kd.R_mono h.rk (fun k hk => ⟨hok k hk.1, hk.2⟩)⟩

set_option maxHeartbeats 800000 in
set_option maxRecDepth 100000 in
theorem append_any {base : Nat} {ok okc : Nat → Prop} {b db q dq : Nat} {v bv cv vq bq cq : Value} (cls tag : Int) (c : Bool) (h0 : 0 ≤ cls) (h1 : cls ≤ 3) (t0 : 0 ≤ tag) (t1 : tag < 268435456) (x y : Pk) (hx0 : y.cls = cls * 64) (hx1 : y.typ = if c then 32 else 0) (hx2 : y.tag = tag)
    (hy : y.data.length < 1099511627776) (hl : x.data.length < 1099511627776) (hk : x.kids.length < 1099511627776) (w : World) (P : Parts w base ok b x db v bv cv) (C : Parts w base okc q y dq vq bq cq) (hd : ∀ k, okc k → ¬ ok k) (hc : ∀ k, okc k → k < w.heap.size) (hbase : base ≤ w.heap.size) (hokb : ∀ k, ok k → base ≤ k) :
    Calls Tryz.prog 86 #[.pointer (some ⟨b, 0, none⟩), .pointer (some ⟨q, 0, none⟩)] w fun e w' => (∃ u, e = .returned u) ∧ Only ok w w' ∧
      ∃ v' cv', Parts w' base (fun k => ok k ∨ okc k ∨ w.heap.size ≤ k) b { x with data := x.data ++ pkBytes cls tag c y.data, kids := x.kids ++ [y] } db v' bv cv' := by
  have hdr : Below w.heap.size w w.drew := (Below.refl _ w).drew
  have HBy := Lib.hid (bytes_any cls tag c h0 h1 t0 t1 y hx0 hx1 hx2 hy w.drew (C.below hdr))
  have HC := Lib.hid (C.below hdr)
  have HP := Lib.hid (P.below hdr)
  have c5 : w.cell? ⟨b, 5, none⟩ = some (.pointer (some ⟨db, 0, none⟩)) := P.cell 5
  have hlen : (pkBytes cls tag c y.data).length ≤ 14 + y.data.length := by
    have hil := identT_le' cls tag c t0 t1
    have hll := lenBytes_le y.data.length (by simp; omega)
    simp only [pkBytes, List.length_append]
    omega
  have HLEN := Lib.hid hlen
  clear hx0 hx1 hx2 P C hlen hdr
  go_enter Tryz.func86, Tryz.ntmps86
  go_wp2_with fail
  go_region_with (first
    | (go_at_call 63
       with_reducible refine HBy.out.mono ?_
       rintro e W1 ⟨r1, rfl, ho1, hB1⟩
       obtain ⟨A1, d1, rfl, hl1, hc1, hne1⟩ := own_row_parts ho1
       have c5' : W1.cell? ⟨b, 5, none⟩ = some (.pointer (some ⟨db, 0, none⟩)) := (HP.out.below hB1).cell 5
       have HW1 := Lib.hid (write_row db _ _ (pkBytes cls tag c y.data) A1 d1 W1 (HP.out.below hB1).buf hc1 (hne1 (HP.out.below hB1).buf.1) (by have := HLEN.out; omega))
       have HP1 := Lib.hid (HP.out.below hB1)
       have HC1 := Lib.hid (HC.out.below hB1)
       have HB1 := Lib.hid hB1
       clear ho1 hB1 hl1 hc1 hne1)
    | (go_at_call 107
       with_reducible refine HW1.out.mono ?_
       rintro e W2 hw
       obtain ⟨rfl, hO2, v2, hP2⟩ := HP1.out.wrote hw (Nat.le_trans hbase HB1.out.size)
       have HO2 := Lib.hid hO2
       have HP2 := Lib.hid hP2
       clear hw hO2 hP2))
  all_goals (
    have hB2 : Below base w W2 := ((Below.refl base w).drew.trans (HB1.out.mono hbase)).trans (HO2.out.below (Nat.le_trans hbase HB1.out.size) hokb)
    have hs2 : w.heap.size ≤ W2.heap.size := hB2.size
    have P2 : Parts W2 base (fun k => ok k ∨ okc k ∨ w.heap.size ≤ k) b _ db v2 bv cv := HP2.out.okmono (fun k hk => hk.elim Or.inl (fun h => Or.inr (Or.inr (Nat.le_trans HB1.out.size h))))
    have hm : kPk.M W2 base okc y [.pointer (some ⟨q, 0, none⟩)] := HC1.out.pk.only HO2.out hd
    have hv2 : ∀ k, v2.ownBlock = some k → ok k ∨ w.heap.size ≤ k := fun k hk => (HP2.out.rv.1 k hk).imp id (fun h => Nat.le_trans HB1.out.size h)
    have hcv : ∀ k, cv.ownBlock = some k → ok k := fun k hk => (HP1.out.rk.1 k hk).1
    have hnew : ∀ k, okc k → ¬ (ok k ∨ w.heap.size ≤ k) := fun k h1 h2 => h2.elim (hd k h1) (fun h => absurd (hc k h1) (by omega))
    have hokp : ∀ k, okc k → ((ok k ∨ okc k ∨ w.heap.size ≤ k) ∧ k ≠ b ∧ k ≠ db ∧ some k ≠ v2.ownBlock) ∧ some k ≠ cv.ownBlock := fun k h1 =>
      ⟨⟨Or.inr (Or.inl h1), fun e => hd k h1 (e ▸ HP1.out.okb), fun e => hd k h1 (e ▸ HP1.out.okd), fun e => hnew k h1 (hv2 k e.symm)⟩, fun e => hd k h1 (hcv k e.symm)⟩
    have hfresh : ∀ k, W2.heap.size ≤ k → (ok k ∨ okc k ∨ w.heap.size ≤ k) ∧ k ≠ b ∧ k ≠ db ∧ some k ≠ v2.ownBlock := fun k h1 => by
      obtain ⟨lr, hd2⟩ := P2.hd
      have e1 := blk_lt P2.hb
      have e2 := blk_lt hd2
      exact ⟨Or.inr (Or.inr (by omega)), by omega, by omega, fun e => by have := own_lt (int_own P2.rv) k e.symm; omega⟩
    have c6 : W2.cell? ⟨b, 6, none⟩ = some cv := P2.cell 6
    have u6 : ∀ o, (W2.alloc o).cell? ⟨b, 6, none⟩ = some cv := fun o => blk_cell (blk_alloc P2.hb o) 6
    have HP3 := Lib.hid P2
    have HM := Lib.hid hm
    have HK := Lib.hid hokp
    have HF := Lib.hid hfresh
    have HB2 := Lib.hid hB2
    have hO : Only ok w W2 := ((Only.of_below ok (Below.refl _ w).drew).trans (Only.of_below ok HB1.out) (fun _ _ h => h)).trans HO2.out (fun _ _ h => h)
    have HO3 := Lib.hid hO
    have HS : Hid (∀ i, i = b ∨ some i = cv.ownBlock → ok i) := Lib.hid (fun i h => h.elim (fun e => e ▸ HP1.out.okb) (fun e => hcv i e.symm))
    clear hO hB2 P2 hm hokp hfresh hnew hcv hv2 HB1 HC1 HP1 HW1 HP2
    go_wp2_with (at_builtin
                 refine Kd.R_append kPk (w0 := w) (W := W2) base rfl (.tmp 15) (.tmp 17) 84 TP (.pointer none) 8 rfl Tryz.underlying84 infoP rfl (by decide) (by decide) cv x.kids y _ _ okc rfl rfl HM.out HK.out HF.out HP3.out.rk HB2.out (Nat.le_trans hbase HB2.out.size) (by omega) ?_
                 intro v1 w1 hR1 hb1 hg1 hat1
                 have hne : some b ≠ cv.ownBlock := fun e => (HP3.out.rk.1 b e.symm).2.1 rfl
                 have x6 : w1.cell? ⟨b, 6, none⟩ = some cv := blk_cell (blk_grown HP3.out.hb hg1 hne) 6
                 have xf : w1.frozen? ⟨b, 6, none⟩ = false := blk_frozen (blk_grown HP3.out.hb hg1 hne) 6
                 have he := app_end HP3.out hR1 hg1
                 obtain ⟨Aq, cq', hvq, _, _⟩ := Kd.R_reads hR1
                 subst hvq
                 have e1 : (x.kids ++ [y]).length = x.kids.length + 1 := by simp
                 simp only [e1] at he
                 have HE := Lib.hid he
                 clear e1 he hR1 hb1 hg1 hat1 hne)
    refine bodyPost_end (results_none rfl _ _ _) rfl ⟨⟨_, rfl⟩, HO3.out.trans HE.out.2 (fun i _ h => HS.out i h), _, _, HE.out.1⟩)
end Go.Proofs.YteockihoefbmdaaGreatDoor.Ber
namespace Go.Proofs.YteockihoefbmdaaGreatDoor.Ber
open Go.RowKit Go.Proofs.YteockihoefbmdaaGreatDoorW.PrintWords Go.Proofs.YteockihoefbmdaaGreatDoorW.PrintLast Go.Proofs.YteockihoefbmdaaGreatDoor.Buf Go.Proofs.YteockihoefbmdaaGreatDoor.Pk
set_option linter.unusedVariables false
set_option linter.unusedSimpArgs false

theorem setRow_other_cell {w : World} {g : Nat} {cs : Array Value} {a : Addr} (h : a.block ≠ g) : (w.setRow g cs).cell? a = w.cell? a := cell_setRow_other w g cs a h
theorem Only.setRow {S : Nat → Prop} {w w' : World} (h : Only S w w') {g : Nat} (hg : g < w.heap.size → S g) (cs : Array Value) : Only S w (w'.setRow g cs) :=
  ⟨h.os, h.tape, h.output, by rw [setRow_size]; exact h.size, fun i hi hn => by rw [setRow_other _ _ _ _ (fun e => hn (by rw [e]; exact hg (by rw [← e]; exact hi)))]; exact h.block i hi hn⟩
theorem C_block {U W : World} {a : Addr} {n : Nat} {xs : List Int} (h : B8.C W (some a) n xs) (hu : U.heap[a.block]? = W.heap[a.block]?) : B8.C U (some a) n xs := by
  obtain ⟨hl, hm, hf⟩ := h
  refine ⟨hl, hm, fun hp => ?_⟩
  obtain ⟨ad, hA, hr⟩ := hf hp
  injection hA with hA
  subst hA
  refine ⟨a, rfl, fun j p hj => ?_⟩
  obtain ⟨cs, hlen, hK, hc⟩ := hr j p hj
  exact ⟨cs, hlen, hK, fun i u hu' => (World.cell?_of_block (w := W) (by rw [Lib.block_add]; exact hu)).trans (hc i u hu')⟩
/-- bytes lie in a row from a place on; nothing but S and the row has turned -/
def Took (S : Nat → Prop) (pb po : Nat) (cur : Array Value) (xs : List Int) (W w' : World) : Prop :=
  w'.heap[pb]? = some (.cells (cur.toList.take po ++ (nums .u8 xs ++ cur.toList.drop (po + xs.length))).toArray 5 (0, 0)) ∧ Only (fun k => S k ∨ k = pb) W w'
theorem nums_drop (l : List Int) (i : Nat) : nums .u8 (l.drop i) = (nums .u8 l).drop i := by simp [nums, List.map_drop]
theorem nums_take (l : List Int) (i : Nat) : nums .u8 (l.take i) = (nums .u8 l).take i := by simp [nums, List.map_take]
theorem info8 : (Tryz.prog.info? 5).map (·.size) = some 1 := by
  obtain ⟨i0, hi, -, hz1, -⟩ := info_parts info_u8
  rw [hi]; simp [hz1]
end Go.Proofs.YteockihoefbmdaaGreatDoor.Ber
namespace Go.Proofs.YteockihoefbmdaaGreatDoor.Ber
open Go.RowKit Go.Proofs.YteockihoefbmdaaGreatDoorW.PrintWords Go.Proofs.YteockihoefbmdaaGreatDoorW.PrintLast Go.Proofs.YteockihoefbmdaaGreatDoor.Buf Go.Proofs.YteockihoefbmdaaGreatDoor.Pk
set_option linter.unusedVariables false
set_option linter.unusedSimpArgs false
/-- r (of the dynamic type T, its Read the function F) is a reader that lies in block g, below B; Q W l: it is at the bytes l; va, ua: what io.EOF and io.ErrUnexpectedEOF point to -/
structure RdSpec (T F : Nat) (r : Value) (g B : Nat) (va ua : Addr) (Q : World → List Int → Prop) : Prop where
  hm : ∀ w : World, (method 446 T r "Read").run Tryz.prog w = .ok (F, r) w
  hn : ∀ w : World, (nilAhead 446 T r "Read").run Tryz.prog w = .ok (some false) w
  hcf : ∀ (args : Array Value) (w : World), (callFunc F args).run Tryz.prog w = .ok (.enter F args) w
  lt : g < B
  eof : ∀ W l, Q W l → W.cell? ⟨0, 0, none⟩ = some (.iface 248 (.pointer (some va)))
  ueof : ∀ W l, Q W l → W.cell? ⟨1, 0, none⟩ = some (.iface 248 (.pointer (some ua)))
  eofb : ∀ W l, Q W l → (∃ ca ta, W.heap[va.block]? = some (.cells ca ta (0, 0))) ∧ ∃ ca ta, W.heap[ua.block]? = some (.cells ca ta (0, 0))
  keep : ∀ W W' l, Q W l → (∀ b, b < B → W'.heap[b]? = W.heap[b]?) → Q W' l
  none_ : ∀ (W : World) (A : Option Addr) (m c : Nat), Q W [] → 0 < m → Calls Tryz.prog F #[r, .slice A m c] W fun e w' => e = .returned (.tuple #[.int .i64 0, (.iface 248 (.pointer (some va)))]) ∧ Q w' [] ∧ Only (fun b => b = g) W w'
  some_ : ∀ (W : World) (l : List Int) (pb po m pc : Nat) (cur : Array Value), Q W l → l ≠ [] → W.heap[pb]? = some (.cells cur 5 (0, 0)) → po + m ≤ cur.size → B ≤ pb →
    Calls Tryz.prog F #[r, .slice (some ⟨pb, po, none⟩) m pc] W fun e w' => e = .returned (.tuple #[.int .i64 (Nat.min l.length m : Nat), .nilIface]) ∧ Q w' (l.drop (Nat.min l.length m)) ∧ Took (fun k => k = g) pb po cur (l.take (Nat.min l.length m)) W w'
section
variable {T F : Nat} {r : Value} {g B : Nat} {va ua : Addr} {Q : World → List Int → Prop}
set_option maxHeartbeats 3200000 in
set_option maxRecDepth 100000 in
theorem atLeast_some (R : RdSpec T F r g B va ua Q) (W : World) (x : Int) (l : List Int) (hQ : Q W (x :: l)) (pb : Nat) (z : Value) (hp : W.heap[pb]? = some (.cells #[z] 5 (0, 0))) (hB : B ≤ pb) :
    Calls Tryz.prog 167 #[.iface T r, .slice (some ⟨pb, 0, none⟩) 1 1, .int .i64 1] W fun e w' => e = .returned (.tuple #[.int .i64 1, .nilIface]) ∧ Q w' l ∧ w'.heap[pb]? = some (.cells #[.int .u8 x] 5 (0, 0)) ∧ Only (fun b => b = g ∨ b = pb) W w' := by
  have hmf : ∀ (fn : Fn) (first cap : Array Value) (w : World), (Instr.makeFunc fn first cap).run Tryz.prog w = .ok (.func fn first cap) w := fun _ _ _ _ => rfl
  have hn := R.hn
  have HM := Lib.hid R.hm
  have HCF := Lib.hid R.hcf
  have HR : Hid (Calls Tryz.prog F #[r, .slice (some ⟨pb, 0, none⟩) 1 1] W.drew fun e w' => e = .returned (.tuple #[.int .i64 1, .nilIface]) ∧ Q w' l ∧ (w'.heap[pb]? = some (.cells #[.int .u8 x] 5 (0, 0)) ∧ Only (fun b => b = g ∨ b = pb) W w')) := Lib.hid (by
    refine (R.some_ W.drew (x :: l) pb 0 1 1 #[z] (R.keep W _ _ hQ (fun _ _ => rfl)) (by simp) hp (by simp) hB).mono ?_
    rintro e w' ⟨he, hq, ht, ho⟩
    have e1 : Nat.min (x :: l).length 1 = 1 := by rw [List.length_cons]; exact Nat.min_eq_right (by omega)
    rw [e1] at he hq ht
    exact ⟨he, hq, by simpa [nums] using ht, ⟨ho.os, ho.tape, ho.output, ho.size, ho.block⟩⟩)
  clear hp hB hQ R
  go_enter Tryz.func167, Tryz.ntmps167
  go_wp2
  go_loopw [6, 7] (fun n er wr => (n = .int .i64 0 ∧ er = .nilIface ∧ wr = W) ∨ (n = .int .i64 1 ∧ er = .nilIface ∧ Hid (Q wr l ∧ wr.heap[pb]? = some (.cells #[.int .u8 x] 5 (0, 0)) ∧ Only (fun b => b = g ∨ b = pb) W wr))) (fun n _ _ => 1 - (intOf n).toNat)
  case atStart => exact .inl ⟨rfl, rfl, rfl⟩
  case round =>
    rcases hrel with ⟨rfl, rfl, hw⟩ | ⟨rfl, rfl, HP⟩
    · obtain rfl : W = wr := hw.symm
      go_upto_region 5 with fail
      refine start_ (n := 13) (S := fun w' => True) (ds := []) #[nN,nN,nN,nN,nN,nN,nN,nN,nN,nN,nN,nN,nN] (by kernel_rfl) rfl rfl trivial (fun hHeld => ?_)
      refine pure_ (i := 0) (N := some 22) (v := ?_) (a' := ?_) #[yY,nN,nN,nN,nN,nN,nN,nN,nN,nN,nN,nN,nN] rfl rfl (by kernel_rfl) (fun _ _ _ h => h) (Or.inl ⟨by rfl, ?_⟩) ?_ ?_
      rotate_left
      · intro w'
        go_simp
        with_reducible rfl
      rotate_left
      · simp only [Act.put, List.setIfInBounds_toArray, List.set_cons_zero, List.set_cons_succ, i64_w, i32_w]
        rfl
      refine pure_ (i := 1) (N := some 23) (v := ?_) (a' := ?_) #[yY,yY,nN,nN,nN,nN,nN,nN,nN,nN,nN,nN,nN] rfl rfl (by kernel_rfl) (fun _ _ _ h => h) (Or.inl ⟨by rfl, ?_⟩) ?_ ?_
      rotate_left
      · intro w'
        go_simp
        with_reducible rfl
      rotate_left
      · simp only [Act.put, List.setIfInBounds_toArray, List.set_cons_zero, List.set_cons_succ, i64_w, i32_w]
        rfl
      refine pure_ (i := 2) (N := some 24) (v := ?_) (a' := ?_) #[yY,yY,yY,nN,nN,nN,nN,nN,nN,nN,nN,nN,nN] rfl rfl (by kernel_rfl) (fun _ _ _ h => h) (Or.inl ⟨by rfl, ?_⟩) ?_ ?_
      rotate_left
      · intro w'
        go_simp
        with_reducible rfl
      rotate_left
      · simp only [Act.put, List.setIfInBounds_toArray, List.set_cons_zero, List.set_cons_succ, i64_w, i32_w]
        rfl
      refine pure_ (i := 3) (N := some 25) (v := ?_) (a' := ?_) #[yY,yY,yY,yY,nN,nN,nN,nN,nN,nN,nN,nN,nN] rfl rfl (by kernel_rfl) (fun _ _ _ h => h) (Or.inl ⟨by rfl, ?_⟩) ?_ ?_
      rotate_left
      · intro w'
        go_simp
        with_reducible rfl
      rotate_left
      · simp only [Act.put, List.setIfInBounds_toArray, List.set_cons_zero, List.set_cons_succ, i64_w, i32_w]
        rfl
      refine pure_ (i := 4) (N := some 26) (v := ?_) (a' := ?_) #[yY,yY,yY,yY,yY,nN,nN,nN,nN,nN,nN,nN,nN] rfl rfl (by kernel_rfl) (fun _ _ _ h => h) (Or.inl ⟨by rfl, ?_⟩) ?_ ?_
      rotate_left
      · intro w'
        go_simp
        with_reducible rfl
      rotate_left
      · simp only [Act.put, List.setIfInBounds_toArray, List.set_cons_zero, List.set_cons_succ, i64_w, i32_w]
        rfl
      refine pure_ (i := 5) (N := some 27) (v := ?_) (a' := ?_) #[yY,yY,yY,yY,yY,yY,nN,nN,nN,nN,nN,nN,nN] rfl rfl (by kernel_rfl) (fun _ _ _ h => h) (Or.inl ⟨by rfl, ?_⟩) ?_ ?_
      rotate_left
      · intro w'
        go_simp
        with_reducible rfl
      rotate_left
      · simp only [Act.put, List.setIfInBounds_toArray, List.set_cons_zero, List.set_cons_succ, i64_w, i32_w]
        rfl
      refine pure_ (i := 6) (N := some 28) (v := ?_) (a' := ?_) #[yY,yY,yY,yY,yY,yY,yY,nN,nN,nN,nN,nN,nN] rfl rfl (by kernel_rfl) (fun _ _ _ h => h) (Or.inl ⟨by rfl, ?_⟩) ?_ ?_
      rotate_left
      · intro w'
        go_simp
        with_reducible rfl
      rotate_left
      · simp only [Act.put, List.setIfInBounds_toArray, List.set_cons_zero, List.set_cons_succ, i64_w, i32_w]
        rfl
      refine one_ (i := 7) (N := some 29) #[yY,yY,yY,yY,yY,yY,yY,yY,nN,nN,nN,nN,nN] rfl rfl (by kernel_rfl) (by decide) (fun K hK => ?_)
      refine call_ F #[r, .slice (some ⟨pb, 0, none⟩) 1 1] (by rfl) rfl ?_ ?_
      · have hm1 := HM.out
        have hcf1 := HCF.out
        simp [execOp, resolve, invoke, Act.eval, hm1, hcf1, go_sem]
      with_reducible refine HR.out.mono ?_
      rintro e W5 ⟨rfl, hQ5, hT5⟩
      refine ⟨_, rfl, ?_⟩
      have HQ5 := Lib.hid hQ5
      have HT5 := Lib.hid hT5
      clear hQ5 hT5
      refine hK.out _ _ trivial (fun hHeld => ?_)
      clear hK K
      refine norm_ (a' := ?_) ?_ ?_
      rotate_left
      · show Act.put _ (some 29) _ = _
        simp only [Act.put, List.setIfInBounds_toArray, List.set_cons_zero, List.set_cons_succ, i64_w, i32_w]
        rfl
      refine pure_ (i := 8) (N := some 21) (v := ?_) (a' := ?_) #[yY,yY,yY,yY,yY,yY,yY,yY,yY,nN,nN,nN,nN] rfl rfl (by kernel_rfl) (fun _ _ _ h => h) (Or.inl ⟨by rfl, ?_⟩) ?_ ?_
      rotate_left
      · intro w'
        go_simp
        with_reducible rfl
      rotate_left
      · simp only [Act.put, List.setIfInBounds_toArray, List.set_cons_zero, List.set_cons_succ, i64_w, i32_w]
        rfl
      refine pure_ (i := 9) (N := some 30) (v := ?_) (a' := ?_) #[yY,yY,yY,yY,yY,yY,yY,yY,yY,yY,nN,nN,nN] rfl rfl (by kernel_rfl) (fun _ _ _ h => h) (Or.inl ⟨by rfl, ?_⟩) ?_ ?_
      rotate_left
      · intro w'
        go_simp
        with_reducible rfl
      rotate_left
      · simp only [Act.put, List.setIfInBounds_toArray, List.set_cons_zero, List.set_cons_succ, i64_w, i32_w]
        rfl
      refine pure_ (i := 10) (N := some 31) (v := ?_) (a' := ?_) #[yY,yY,yY,yY,yY,yY,yY,yY,yY,yY,yY,nN,nN] rfl rfl (by kernel_rfl) (fun _ _ _ h => h) (Or.inl ⟨by rfl, ?_⟩) ?_ ?_
      rotate_left
      · intro w'
        go_simp
        with_reducible rfl
      rotate_left
      · simp only [Act.put, List.setIfInBounds_toArray, List.set_cons_zero, List.set_cons_succ, i64_w, i32_w]
        rfl
      refine pure_ (i := 11) (N := some 8) (v := ?_) (a' := ?_) #[yY,yY,yY,yY,yY,yY,yY,yY,yY,yY,yY,yY,nN] rfl rfl (by kernel_rfl) (fun _ _ _ h => h) (Or.inl ⟨by rfl, ?_⟩) ?_ ?_
      rotate_left
      · intro w'
        go_simp
        with_reducible rfl
      rotate_left
      · simp only [Act.put, List.setIfInBounds_toArray, List.set_cons_zero, List.set_cons_succ, i64_w, i32_w]
        rfl
      refine pure_ (i := 12) (N := some 7) (v := ?_) (a' := ?_) #[yY,yY,yY,yY,yY,yY,yY,yY,yY,yY,yY,yY,yY] rfl rfl (by kernel_rfl) (fun _ _ _ h => h) (Or.inl ⟨by rfl, ?_⟩) ?_ ?_
      rotate_left
      · intro w'
        go_simp
        with_reducible rfl
      rotate_left
      · simp only [Act.put, List.setIfInBounds_toArray, List.set_cons_zero, List.set_cons_succ, i64_w, i32_w]
        rfl
      refine done_ (by kernel_rfl) ?_
      go_wp2
      exact ⟨.inr ⟨rfl, rfl, Lib.hid ⟨HQ5.out, HT5.out⟩⟩, by simp [intOf]⟩
    · go_wp2
      go_ret2
      exact ⟨rfl, HP.out⟩
set_option maxHeartbeats 3200000 in
set_option maxRecDepth 100000 in
theorem atLeast_none (R : RdSpec T F r g B va ua Q) (W : World) (hQ : Q W []) (pb : Nat) :
    Calls Tryz.prog 167 #[.iface T r, .slice (some ⟨pb, 0, none⟩) 1 1, .int .i64 1] W fun e w' => e = .returned (.tuple #[.int .i64 0, (.iface 248 (.pointer (some va)))]) ∧ Q w' [] ∧ Only (fun b => b = g) W w' := by
  have hmf : ∀ (fn : Fn) (first cap : Array Value) (w : World), (Instr.makeFunc fn first cap).run Tryz.prog w = .ok (.func fn first cap) w := fun _ _ _ _ => rfl
  have hn := R.hn
  have HM := Lib.hid R.hm
  have HCF := Lib.hid R.hcf
  have HR : Hid (Calls Tryz.prog F #[r, .slice (some ⟨pb, 0, none⟩) 1 1] W.drew fun e w' => e = .returned (.tuple #[.int .i64 0, (.iface 248 (.pointer (some va)))]) ∧ Q w' [] ∧ Only (fun b => b = g) W w') := Lib.hid (by
    refine (R.none_ W.drew (some ⟨pb, 0, none⟩) 1 1 (R.keep W _ _ hQ (fun _ _ => rfl)) (by decide)).mono ?_
    rintro e w' ⟨he, hq, ho⟩
    exact ⟨he, hq, ho.os, ho.tape, ho.output, ho.size, ho.block⟩)
  clear hQ R
  go_enter Tryz.func167, Tryz.ntmps167
  go_wp2
  go_loopw [6, 7] (fun n er wr => n = .int .i64 0 ∧ ((er = .nilIface ∧ wr = W) ∨ (er = (.iface 248 (.pointer (some va))) ∧ Hid (Q wr [] ∧ Only (fun b => b = g) W wr)))) (fun _ er _ => match er with | .nilIface => 1 | _ => 0)
  case atStart => exact ⟨rfl, .inl ⟨rfl, rfl⟩⟩
  case round =>
    obtain ⟨rfl, hrel⟩ := hrel
    rcases hrel with ⟨rfl, hw⟩ | ⟨rfl, HP⟩
    · obtain rfl : W = wr := hw.symm
      go_upto_region 5 with fail
      refine start_ (n := 13) (S := fun w' => True) (ds := []) #[nN,nN,nN,nN,nN,nN,nN,nN,nN,nN,nN,nN,nN] (by kernel_rfl) rfl rfl trivial (fun hHeld => ?_)
      refine pure_ (i := 0) (N := some 22) (v := ?_) (a' := ?_) #[yY,nN,nN,nN,nN,nN,nN,nN,nN,nN,nN,nN,nN] rfl rfl (by kernel_rfl) (fun _ _ _ h => h) (Or.inl ⟨by rfl, ?_⟩) ?_ ?_
      rotate_left
      · intro w'
        go_simp
        with_reducible rfl
      rotate_left
      · simp only [Act.put, List.setIfInBounds_toArray, List.set_cons_zero, List.set_cons_succ, i64_w, i32_w]
        rfl
      refine pure_ (i := 1) (N := some 23) (v := ?_) (a' := ?_) #[yY,yY,nN,nN,nN,nN,nN,nN,nN,nN,nN,nN,nN] rfl rfl (by kernel_rfl) (fun _ _ _ h => h) (Or.inl ⟨by rfl, ?_⟩) ?_ ?_
      rotate_left
      · intro w'
        go_simp
        with_reducible rfl
      rotate_left
      · simp only [Act.put, List.setIfInBounds_toArray, List.set_cons_zero, List.set_cons_succ, i64_w, i32_w]
        rfl
      refine pure_ (i := 2) (N := some 24) (v := ?_) (a' := ?_) #[yY,yY,yY,nN,nN,nN,nN,nN,nN,nN,nN,nN,nN] rfl rfl (by kernel_rfl) (fun _ _ _ h => h) (Or.inl ⟨by rfl, ?_⟩) ?_ ?_
      rotate_left
      · intro w'
        go_simp
        with_reducible rfl
      rotate_left
      · simp only [Act.put, List.setIfInBounds_toArray, List.set_cons_zero, List.set_cons_succ, i64_w, i32_w]
        rfl
      refine pure_ (i := 3) (N := some 25) (v := ?_) (a' := ?_) #[yY,yY,yY,yY,nN,nN,nN,nN,nN,nN,nN,nN,nN] rfl rfl (by kernel_rfl) (fun _ _ _ h => h) (Or.inl ⟨by rfl, ?_⟩) ?_ ?_
      rotate_left
      · intro w'
        go_simp
        with_reducible rfl
      rotate_left
      · simp only [Act.put, List.setIfInBounds_toArray, List.set_cons_zero, List.set_cons_succ, i64_w, i32_w]
        rfl
      refine pure_ (i := 4) (N := some 26) (v := ?_) (a' := ?_) #[yY,yY,yY,yY,yY,nN,nN,nN,nN,nN,nN,nN,nN] rfl rfl (by kernel_rfl) (fun _ _ _ h => h) (Or.inl ⟨by rfl, ?_⟩) ?_ ?_
      rotate_left
      · intro w'
        go_simp
        with_reducible rfl
      rotate_left
      · simp only [Act.put, List.setIfInBounds_toArray, List.set_cons_zero, List.set_cons_succ, i64_w, i32_w]
        rfl
      refine pure_ (i := 5) (N := some 27) (v := ?_) (a' := ?_) #[yY,yY,yY,yY,yY,yY,nN,nN,nN,nN,nN,nN,nN] rfl rfl (by kernel_rfl) (fun _ _ _ h => h) (Or.inl ⟨by rfl, ?_⟩) ?_ ?_
      rotate_left
      · intro w'
        go_simp
        with_reducible rfl
      rotate_left
      · simp only [Act.put, List.setIfInBounds_toArray, List.set_cons_zero, List.set_cons_succ, i64_w, i32_w]
        rfl
      refine pure_ (i := 6) (N := some 28) (v := ?_) (a' := ?_) #[yY,yY,yY,yY,yY,yY,yY,nN,nN,nN,nN,nN,nN] rfl rfl (by kernel_rfl) (fun _ _ _ h => h) (Or.inl ⟨by rfl, ?_⟩) ?_ ?_
      rotate_left
      · intro w'
        go_simp
        with_reducible rfl
      rotate_left
      · simp only [Act.put, List.setIfInBounds_toArray, List.set_cons_zero, List.set_cons_succ, i64_w, i32_w]
        rfl
      refine one_ (i := 7) (N := some 29) #[yY,yY,yY,yY,yY,yY,yY,yY,nN,nN,nN,nN,nN] rfl rfl (by kernel_rfl) (by decide) (fun K hK => ?_)
      refine call_ F #[r, .slice (some ⟨pb, 0, none⟩) 1 1] (by rfl) rfl ?_ ?_
      · have hm1 := HM.out
        have hcf1 := HCF.out
        simp [execOp, resolve, invoke, Act.eval, hm1, hcf1, go_sem]
      with_reducible refine HR.out.mono ?_
      rintro e W5 ⟨rfl, hQ5, hT5⟩
      refine ⟨_, rfl, ?_⟩
      have HQ5 := Lib.hid hQ5
      have HT5 := Lib.hid hT5
      clear hQ5 hT5
      refine hK.out _ _ trivial (fun hHeld => ?_)
      clear hK K
      refine norm_ (a' := ?_) ?_ ?_
      rotate_left
      · show Act.put _ (some 29) _ = _
        simp only [Act.put, List.setIfInBounds_toArray, List.set_cons_zero, List.set_cons_succ, i64_w, i32_w]
        rfl
      refine pure_ (i := 8) (N := some 21) (v := ?_) (a' := ?_) #[yY,yY,yY,yY,yY,yY,yY,yY,yY,nN,nN,nN,nN] rfl rfl (by kernel_rfl) (fun _ _ _ h => h) (Or.inl ⟨by rfl, ?_⟩) ?_ ?_
      rotate_left
      · intro w'
        go_simp
        with_reducible rfl
      rotate_left
      · simp only [Act.put, List.setIfInBounds_toArray, List.set_cons_zero, List.set_cons_succ, i64_w, i32_w]
        rfl
      refine pure_ (i := 9) (N := some 30) (v := ?_) (a' := ?_) #[yY,yY,yY,yY,yY,yY,yY,yY,yY,yY,nN,nN,nN] rfl rfl (by kernel_rfl) (fun _ _ _ h => h) (Or.inl ⟨by rfl, ?_⟩) ?_ ?_
      rotate_left
      · intro w'
        go_simp
        with_reducible rfl
      rotate_left
      · simp only [Act.put, List.setIfInBounds_toArray, List.set_cons_zero, List.set_cons_succ, i64_w, i32_w]
        rfl
      refine pure_ (i := 10) (N := some 31) (v := ?_) (a' := ?_) #[yY,yY,yY,yY,yY,yY,yY,yY,yY,yY,yY,nN,nN] rfl rfl (by kernel_rfl) (fun _ _ _ h => h) (Or.inl ⟨by rfl, ?_⟩) ?_ ?_
      rotate_left
      · intro w'
        go_simp
        with_reducible rfl
      rotate_left
      · simp only [Act.put, List.setIfInBounds_toArray, List.set_cons_zero, List.set_cons_succ, i64_w, i32_w]
        rfl
      refine pure_ (i := 11) (N := some 8) (v := ?_) (a' := ?_) #[yY,yY,yY,yY,yY,yY,yY,yY,yY,yY,yY,yY,nN] rfl rfl (by kernel_rfl) (fun _ _ _ h => h) (Or.inl ⟨by rfl, ?_⟩) ?_ ?_
      rotate_left
      · intro w'
        go_simp
        with_reducible rfl
      rotate_left
      · simp only [Act.put, List.setIfInBounds_toArray, List.set_cons_zero, List.set_cons_succ, i64_w, i32_w]
        rfl
      refine pure_ (i := 12) (N := some 7) (v := ?_) (a' := ?_) #[yY,yY,yY,yY,yY,yY,yY,yY,yY,yY,yY,yY,yY] rfl rfl (by kernel_rfl) (fun _ _ _ h => h) (Or.inl ⟨by rfl, ?_⟩) ?_ ?_
      rotate_left
      · intro w'
        go_simp
        with_reducible rfl
      rotate_left
      · simp only [Act.put, List.setIfInBounds_toArray, List.set_cons_zero, List.set_cons_succ, i64_w, i32_w]
        rfl
      refine done_ (by kernel_rfl) ?_
      go_wp2
      exact ⟨⟨rfl, .inr ⟨rfl, Lib.hid ⟨HQ5.out, HT5.out⟩⟩⟩, by simp⟩
    · go_wp2
      go_ret2
      exact ⟨rfl, HP.out⟩
set_option maxHeartbeats 3200000 in
set_option maxRecDepth 100000 in
theorem full_some (R : RdSpec T F r g B va ua Q) (W : World) (x : Int) (l : List Int) (hQ : Q W (x :: l)) (pb : Nat) (z : Value) (hp : W.heap[pb]? = some (.cells #[z] 5 (0, 0))) (hB : B ≤ pb) :
    Calls Tryz.prog 162 #[.iface T r, .slice (some ⟨pb, 0, none⟩) 1 1] W fun e w' => e = .returned (.tuple #[.int .i64 1, .nilIface]) ∧ Q w' l ∧ w'.heap[pb]? = some (.cells #[.int .u8 x] 5 (0, 0)) ∧ Only (fun b => b = g ∨ b = pb) W w' := by
  have HA := Lib.hid (atLeast_some R W x l hQ pb z hp hB)
  clear hQ hp hB R
  go_enter Tryz.func162, Tryz.ntmps162
  go_wp2_with (go_at_call 167
               with_reducible refine HA.out.mono ?_
               rintro e W5 ⟨rfl, hQ5⟩
               have HQ5 := Lib.hid hQ5
               clear hQ5)
  go_ret2
  exact ⟨rfl, HQ5.out⟩
set_option maxHeartbeats 3200000 in
set_option maxRecDepth 100000 in
theorem full_none (R : RdSpec T F r g B va ua Q) (W : World) (hQ : Q W []) (pb : Nat) :
    Calls Tryz.prog 162 #[.iface T r, .slice (some ⟨pb, 0, none⟩) 1 1] W fun e w' => e = .returned (.tuple #[.int .i64 0, (.iface 248 (.pointer (some va)))]) ∧ Q w' [] ∧ Only (fun b => b = g) W w' := by
  have HA := Lib.hid (atLeast_none R W hQ pb)
  clear hQ R
  go_enter Tryz.func162, Tryz.ntmps162
  go_wp2_with (go_at_call 167
               with_reducible refine HA.out.mono ?_
               rintro e W5 ⟨rfl, hQ5⟩
               have HQ5 := Lib.hid hQ5
               clear hQ5)
  go_ret2
  exact ⟨rfl, HQ5.out⟩
theorem mk_one : ∀ w : World, (Instr.makeSlice 22 (.int .i64 1) (.int .i64 1)).run Tryz.prog w = .ok (.slice (some ⟨w.heap.size, 0, none⟩) 1 1) (w.alloc (.cells #[.int .u8 0] 5)) := fun _ => by kernel_rfl
set_option maxHeartbeats 3200000 in
set_option maxRecDepth 100000 in
theorem readByte_some (R : RdSpec T F r g B va ua Q) (W : World) (x : Int) (l : List Int) (hQ : Q W (x :: l)) (hB : B ≤ W.heap.size) :
    Calls Tryz.prog 156 #[.iface T r] W fun e w' => e = .returned (.tuple #[.int .u8 x, .nilIface]) ∧ Q w' l ∧ Only (fun b => b = g) W w' := by
  have HA : Hid (∀ W1, W1 = W.alloc (.cells #[.int .u8 0] 5) → Calls Tryz.prog 162 #[.iface T r, .slice (some ⟨W.heap.size, 0, none⟩) 1 1] W1 fun e w' => e = .returned (.tuple #[.int .i64 1, .nilIface]) ∧ Q w' l ∧ w'.heap[W.heap.size]? = some (.cells #[.int .u8 x] 5 (0, 0)) ∧ Only (fun b => b = g) W w') := Lib.hid (fun W1 hW1 => by
    have hb1 : Below W.heap.size W W1 := by rw [hW1]; exact below_alloc (Below.refl _ _) _
    refine (full_some R W1 x l (R.keep W W1 _ hQ (fun b hb => hb1.block b (Nat.lt_of_lt_of_le hb hB))) W.heap.size (.int .u8 0) (by rw [hW1]; exact blk_new _ _) hB).mono ?_
    rintro e w' ⟨he, hq, ht, ho⟩
    exact ⟨he, hq, ht, (Only.of_below (fun b => b = g) hb1).trans ho (fun i hi h => h.resolve_right (fun e => by omega))⟩)
  clear hQ hB R
  have hmk := mk_one
  go_enter Tryz.func156, Tryz.ntmps156
  go_wp2_with (go_at_call 162
               with_reducible refine (HA.out _ rfl).mono ?_
               rintro e W5 ⟨rfl, hQ5, hT5, hO5⟩
               have HQ5 := Lib.hid (And.intro hQ5 hO5)
               have k0 : W5.cell? ⟨W.heap.size, 0, none⟩ = some (.int .u8 x) := blk_cell hT5 0
               clear hQ5 hT5 hO5)
  go_ret2
  exact ⟨rfl, HQ5.out⟩
set_option maxHeartbeats 3200000 in
set_option maxRecDepth 100000 in
theorem readByte_none (R : RdSpec T F r g B va ua Q) (W : World) (hQ : Q W []) (hB : B ≤ W.heap.size) :
    Calls Tryz.prog 156 #[.iface T r] W fun e w' => e = .returned (.tuple #[.int .u8 0, (.iface 248 (.pointer (some va)))]) ∧ Q w' [] ∧ Only (fun b => b = g) W w' := by
  have HA : Hid (∀ W1, W1 = W.alloc (.cells #[.int .u8 0] 5) → Calls Tryz.prog 162 #[.iface T r, .slice (some ⟨W.heap.size, 0, none⟩) 1 1] W1 fun e w' => e = .returned (.tuple #[.int .i64 0, (.iface 248 (.pointer (some va)))]) ∧ Q w' [] ∧ Only (fun b => b = g) W w') := Lib.hid (fun W1 hW1 => by
    have hb1 : Below W.heap.size W W1 := by rw [hW1]; exact below_alloc (Below.refl _ _) _
    refine (full_none R W1 (R.keep W W1 _ hQ (fun b hb => hb1.block b (Nat.lt_of_lt_of_le hb hB))) W.heap.size).mono ?_
    rintro e w' ⟨he, hq, ho⟩
    exact ⟨he, hq, (Only.of_below (fun b => b = g) hb1).trans ho (fun i hi h => h)⟩)
  clear hQ hB R
  have hmk := mk_one
  go_enter Tryz.func156, Tryz.ntmps156
  go_wp2_with (go_at_call 162
               with_reducible refine (HA.out _ rfl).mono ?_
               rintro e W5 ⟨rfl, hQ5⟩
               have HQ5 := Lib.hid hQ5
               clear hQ5)
  go_ret2
  exact ⟨rfl, HQ5.out⟩
end
end Go.Proofs.YteockihoefbmdaaGreatDoor.Ber
namespace Go.Proofs.YteockihoefbmdaaGreatDoor.PFnEncode
open Go.RowKit Go.Proofs.YteockihoefbmdaaGreatDoorW.PrintWords Go.Proofs.YteockihoefbmdaaGreatDoorW.PrintLast Go.Proofs.YteockihoefbmdaaGreatDoorW.PrintMore
attribute [local go_sem] max2_int min2_int max_two min_two max_three min_three max_four min_four   -- for this text's walks alone
set_option linter.unusedVariables false
set_option linter.unusedSimpArgs false

/-! ### spec_Truth: function 66 -/
-- NOT PRINTED: function 38 (spec_Control)

/-! ### spec_Dotted: function 39 -/
/-! ### spec_Identifier: function 111 -/
/-! ### spec_Length: function 112 -/
/-! ### spec_Bytes: function 67 -/
-- NOT PRINTED: function 40 (spec_Paging)

-- NOT PRINTED: function 14 (laws_control)

-- NOT PRINTED: function 32 (bytes_Clone)

end Go.Proofs.YteockihoefbmdaaGreatDoor.PFnEncode
namespace Go.Proofs.YteockihoefbmdaaGreatDoor.Within
open Go.RowKit Go.Proofs.YteockihoefbmdaaGreatDoorW.PrintWords Go.Proofs.YteockihoefbmdaaGreatDoor.PFnEncode Go.Proofs.YteockihoefbmdaaGreatDoor.Tree Go.Proofs.YteockihoefbmdaaGreatDoor.Buf
set_option linter.unusedVariables false
set_option linter.unusedSimpArgs false

/-- The reference's packet whose data lie where they lay in w0, its kids made. -/
def Fm (w0 : World) (d : Kd S34) : Kd S34 := Kd.iso (Kd.pair (Kd.int .i64) (Kd.pair (Kd.int .i64) (Kd.pair Kd.bool (Kd.pair (Kd.fixed (Kd.slice 5 (Kd.int .u8)) w0) (Kd.slice 34 d))))) (fun x : S34 => (x.f0, x.f1, x.f2, x.f3, x.f4))
theorem sub_m (w0 : World) : Kd.Sub (Fm w0) [5, 34] := Kd.sub_iso _ (Kd.sub_pair (Kd.sub_const _ (by decide)) (Kd.sub_pair (Kd.sub_const _ (by decide)) (Kd.sub_pair (Kd.sub_const _ (by decide)) (Kd.sub_pair (Kd.sub_const _ (fun _ h => absurd h List.not_mem_nil)) (Kd.sub_slice 34 (by decide) Kd.sub_id)))))
theorem sz_m (w0 : World) : ∀ n, (Kd.upto (Fm w0) 5 [5, 34] n).sz = 5 := Kd.upto_sz (fun _ => rfl)
def km (w0 : World) : Kd S34 := Kd.fix (Fm w0) 5 [5, 34] (sz_m w0) (Kd.upto_E (sub_m w0))

/-- What a call of within leaves: the packet x, r of room. -/
def Read (w0 w : World) (g : Nat) (x : S34) (r : Int) (e : Ending) (w' : World) : Prop :=
  ∃ c, e = .returned (.agg c.toArray) ∧ (km w0).M w' w.heap.size (fun _ => True) x c ∧ w'.heap[g]? = some (.cells #[.int .i64 r] 3 (0, 0)) ∧ Only (fun i => i = g) w w'

theorem results_c {P : Program} {fn : Func} {p : Tmp} {ty : TypeId} (h : fn.results = #[.cell p ty]) (tmps : Array Value) (w : World) (g : Nat) (t : TypeId) (cs : Array Value) (fr : Nat × Nat) (d : TypeDesc)
    (hp : tmps.getD p undef = .pointer (some ⟨g, 0, none⟩)) (hg : w.heap[g]? = some (.cells cs t fr))
    (hu : P.underlying ty = some d) (hd : (match d with | .struct _ | .array _ _ => true | _ => false) = true) (hi : (P.info? ty).map (·.size) = some cs.size) :
    (results fn tmps).run P w = .ok (.agg cs) w := by
  have hp' : tmps[p]?.getD undef = .pointer (some ⟨g, 0, none⟩) := by simpa using hp
  simp [results, h, hp', asAddr, run_loadVar_row w g t ty cs fr d hg hu hd hi]
theorem size34 : (Tryz.prog.info? 34).map (·.size) = some 5 := by kernel_rfl

section
end
end Go.Proofs.YteockihoefbmdaaGreatDoor.Within

namespace Go.Proofs.YteockihoefbmdaaGreatDoor.Within
open Go.RowKit Go.Proofs.YteockihoefbmdaaGreatDoorW.PrintWords Go.Proofs.YteockihoefbmdaaGreatDoor.PFnEncode Go.Proofs.YteockihoefbmdaaGreatDoor.Tree Go.Proofs.YteockihoefbmdaaGreatDoor.Buf
set_option linter.unusedVariables false
set_option linter.unusedSimpArgs false

end Go.Proofs.YteockihoefbmdaaGreatDoor.Within

namespace Go.Proofs.YteockihoefbmdaaGreatDoor.Within
open Go.RowKit Go.Proofs.YteockihoefbmdaaGreatDoorW.PrintWords Go.Proofs.YteockihoefbmdaaGreatDoor.PFnEncode Go.Proofs.YteockihoefbmdaaGreatDoor.Tree Go.Proofs.YteockihoefbmdaaGreatDoor.Buf
set_option linter.unusedVariables false
set_option linter.unusedSimpArgs false

end Go.Proofs.YteockihoefbmdaaGreatDoor.Within
namespace Go.Proofs.YteockihoefbmdaaGreatDoor.Tree
open Go.RowKit Go.Proofs.YteockihoefbmdaaGreatDoorW.PrintWords Go.Proofs.YteockihoefbmdaaGreatDoor.PFnEncode Go.Proofs.YteockihoefbmdaaGreatDoor.Within Go.Proofs.YteockihoefbmdaaGreatDoor.Num Go.Proofs.YteockihoefbmdaaGreatDoor.Ident
set_option linter.unusedVariables false
set_option linter.unusedSimpArgs false

mutual
/-- the bytes of a packet -/
def bytesT : S34 → List Int
  | ⟨a, b, c, d, l⟩ => identT a b c ++ lenBytes (d ++ bytesL l).length ++ (d ++ bytesL l)
def bytesL : List S34 → List Int
  | [] => []
  | x :: xs => bytesT x ++ bytesL xs
end

theorem len_le_tsB : ∀ l : List S34, l.length ≤ tsizeL l
  | [] => Nat.le_refl _
  | x :: xs => by
    have := len_le_tsB xs
    rw [tsizeL, List.length_cons]
    have h : 1 ≤ tsize x := by obtain ⟨a, b, c, d, l⟩ := x; rw [tsize]; omega
    omega

theorem bytesL_append (l m : List S34) : bytesL (l ++ m) = bytesL l ++ bytesL m := by
  induction l with
  | nil => simp [bytesL]
  | cons x xs ih => rw [List.cons_append, bytesL, bytesL, ih, List.append_assoc]

theorem identT_le (a b : Int) (c : Bool) (h0 : 0 ≤ b) (h : b < 268435456) : (identT a b c).length ≤ 5 := by
  unfold identT
  split
  · simp
  · have := ng_le 4 b.toNat (by omega)
    simp [low_length]
    exact this

mutual
theorem bytesT_le : ∀ x : S34, good x = true → tsize x < 72057594037927936 → (bytesT x).length ≤ 14 * tsize x
  | ⟨a, b, c, d, l⟩, hg, h => by
    rw [good] at hg
    simp only [Bool.and_eq_true, decide_eq_true_eq] at hg
    rw [tsize] at h ⊢
    have h1 := bytesL_le l hg.2 (by omega)
    have h2 := identT_le a b c hg.1.1.1.2 hg.1.1.2
    rw [bytesT]
    have h3 := lenBytes_le (d ++ bytesL l).length (by simp; omega)
    simp only [List.length_append] at h3 ⊢
    omega
theorem bytesL_le : ∀ l : List S34, goodL l = true → tsizeL l < 72057594037927936 → (bytesL l).length ≤ 14 * tsizeL l
  | [], _, _ => by simp [bytesL]
  | x :: xs, hg, h => by
    rw [goodL, Bool.and_eq_true] at hg
    rw [tsizeL] at h ⊢
    have h1 := bytesT_le x hg.1 (by omega)
    have h2 := bytesL_le xs hg.2 (by omega)
    rw [bytesL, List.length_append]
    omega
end

end Go.Proofs.YteockihoefbmdaaGreatDoor.Tree
