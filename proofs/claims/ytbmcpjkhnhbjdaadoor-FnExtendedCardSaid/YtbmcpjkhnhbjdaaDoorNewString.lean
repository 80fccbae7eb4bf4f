/- The kind of a *ber.Packet in memory: its struct, its Data buffer (only written), its children, in the print's framework of kinds. · ber.Encode with no value: a new packet without data. No condition. · Writing into a packet's Data: the packet with more data, everything else as it was. · ber.NewString: a packet whose data is the string. The string's length is at most Go's own limit. -/
import Derived.Test.YtbmcpjkhnhbjdaaDoorBufWrite
import Derived.Test.YtbmcpjkhnhbjdaaDoorLen
import Derived.Deep.DeepFit
namespace Go.Proofs.YtbmcpjkhnhbjdaaDoor.Pk
open Go.RowKit Go.Proofs.YtbmcpjkhnhbjdaaDoorW.PrintWords Go.Proofs.YtbmcpjkhnhbjdaaDoor.Buf
set_option linter.unusedVariables false
set_option linter.unusedSimpArgs false

/-- A packet as data: class, type, tag, the interface value, ByteValue, what Data holds, the children, the description. -/
structure Pk where
  cls : Int
  typ : Int
  tag : Int
  val : Value
  bv : List Int
  data : List Int
  kids : List Pk
  desc : ByteArray

abbrev T : Nat := 156
abbrev TB : Nat := 207
abbrev TP : Nat := 118
abbrev B8 : Kd Int := Kd.int .u8

/-- The struct's cells. -/
def cellsOf (x : Pk) (bv : Value) (db : Nat) (cv : Value) : Array Value :=
  #[.int .u8 x.cls, .int .u8 x.typ, .int .u64 x.tag, x.val, bv, .pointer (some ⟨db, 0, none⟩), cv, .string x.desc]

theorem int_own {k : IntKind} {e : Nat} {w : World} {base : Nat} {ok : Nat → Prop} {v : Value} {xs : List Int} (h : (Kd.int k).R e w base ok v xs) : w.ownsRow base e 1 v xs.length (nums k xs) := Kd.own_of_R h
theorem own_int {k : IntKind} {e : Nat} {w : World} {base : Nat} {ok : Nat → Prop} {v : Value} {xs : List Int} (h : w.ownsRow base e 1 v xs.length (nums k xs)) (hok : ∀ k, v.ownBlock = some k → ok k) : (Kd.int k).R e w base ok v xs := Kd.R_of_own h hok

/-- One packet, its children of kind 'rec': read (K), or the call's own (M): its blocks are ok, and the children's are none of its own. -/
def PkK (rec : Kd Pk) (w : World) (x : Pk) (cs : List Value) : Prop :=
  x.val.oneCell' = true ∧ ∃ b db lr A c Ab cb Ac cc, cs = [.pointer (some ⟨b, 0, none⟩)] ∧ w.heap[b]? = some (.cells (cellsOf x (.slice Ab x.bv.length cb) db (.slice Ac x.kids.length cc)) T (0, 0)) ∧
    w.heap[db]? = some (.cells #[.slice A x.data.length c, .int .i64 0, .int .i8 lr] TB (0, 0)) ∧ x.data.length ≤ c ∧ B8.C w A x.data.length x.data ∧ x.bv.length ≤ cb ∧ B8.C w Ab x.bv.length x.bv ∧
    x.kids.length ≤ cc ∧ rec.C w Ac x.kids.length x.kids

def PkM (rec : Kd Pk) (w : World) (base : Nat) (ok : Nat → Prop) (x : Pk) (cs : List Value) : Prop :=
  x.val.oneCell' = true ∧ ∃ b db v bv cv lr, cs = [.pointer (some ⟨b, 0, none⟩)] ∧ (ok b ∧ base ≤ b) ∧ (ok db ∧ base ≤ db) ∧ w.heap[b]? = some (.cells (cellsOf x bv db cv) T (0, 0)) ∧
    w.heap[db]? = some (.cells #[v, .int .i64 0, .int .i8 lr] TB (0, 0)) ∧ B8.R 5 w base ok v x.data ∧ B8.R 5 w base (fun k => ok k ∧ some k ≠ v.ownBlock) bv x.bv ∧
    rec.R TP w base (fun k => ok k ∧ k ≠ b ∧ k ≠ db ∧ some k ≠ v.ownBlock) cv x.kids

def E : List Nat := [T, TB, 5, TP]

def F (rec : Kd Pk) : Kd Pk where
  sz := 1
  E := T :: TB :: 5 :: TP :: rec.E
  K := PkK rec
  M := PkM rec
  K_len := by
    rintro w x cs ⟨_, b, db, lr, A, c, Ab, cb, Ac, cc, rfl, _⟩
    rfl
  K_one := by
    rintro w x cs ⟨_, b, db, lr, A, c, Ab, cb, Ac, cc, rfl, _⟩ u hu
    rw [List.mem_singleton.1 hu]
    rfl
  K_below := by
    rintro w w1 x cs hb ⟨hv, b, db, lr, A, c, Ab, cb, Ac, cc, rfl, h1, h2, h3, h4, h5, h6, h7, h8⟩
    exact ⟨hv, b, db, lr, A, c, Ab, cb, Ac, cc, rfl, blk_below h1 hb, blk_below h2 hb, h3, Kd.C_below h4 hb, h5, Kd.C_below h6 hb, h7, Kd.C_below h8 hb⟩
  K_of_M := by
    rintro w base ok x cs ⟨hv, b, db, v, bv, cv, lr, rfl, _, _, h3, h4, h5, h6, h7⟩
    obtain ⟨A, c, rfl, l1, g1⟩ := Kd.R_reads h5
    obtain ⟨Ab, cb, rfl, l2, g2⟩ := Kd.R_reads h6
    obtain ⟨Ac, cc, rfl, l3, g3⟩ := Kd.R_reads h7
    exact ⟨hv, b, db, lr, A, c, Ab, cb, Ac, cc, rfl, h3, h4, l1, g1, l2, g2, l3, g3⟩
  M_mono := by
    rintro w base ok ok' x cs hok ⟨hv, b, db, v, bv, cv, lr, rfl, ⟨a1, a2⟩, ⟨b1, b2⟩, h3, h4, h5, h6, h7⟩
    exact ⟨hv, b, db, v, bv, cv, lr, rfl, ⟨hok _ a1, a2⟩, ⟨hok _ b1, b2⟩, h3, h4, Kd.R_mono h5 hok, Kd.R_mono h6 (fun k hk => ⟨hok k hk.1, hk.2⟩), Kd.R_mono h7 (fun k hk => ⟨hok k hk.1, hk.2⟩)⟩
  M_bound := by
    rintro w base ok x cs ⟨hv, b, db, v, bv, cv, lr, rfl, ⟨a1, a2⟩, ⟨b1, b2⟩, h3, h4, h5, h6, h7⟩
    refine ⟨hv, b, db, v, bv, cv, lr, rfl, ⟨⟨a1, a2, blk_lt h3, T, List.mem_cons_self, _, h3⟩, a2⟩, ⟨⟨b1, b2, blk_lt h4, TB, List.mem_cons_of_mem _ List.mem_cons_self, _, h4⟩, b2⟩, h3, h4, ?_, ?_, ?_⟩
    · refine Kd.R_mono (Kd.R_bound h5) ?_
      rintro k ⟨k1, k2, k3, q, hq, kc⟩
      exact ⟨k1, k2, k3, q, by
        rcases List.mem_cons.1 hq with rfl | hq
        · simp
        · exact absurd hq (by simp [Kd.int, Kd.scalar]), kc⟩
    · refine Kd.R_mono (Kd.R_bound h6) ?_
      rintro k ⟨⟨k1, k1'⟩, k2, k3, q, hq, kc⟩
      exact ⟨⟨k1, k2, k3, q, by
        rcases List.mem_cons.1 hq with rfl | hq
        · simp
        · exact absurd hq (by simp [Kd.int, Kd.scalar]), kc⟩, k1'⟩
    · refine Kd.R_mono (Kd.R_bound h7) ?_
      rintro k ⟨⟨k1, k1'⟩, k2, k3, q, hq, kc⟩
      exact ⟨⟨k1, k2, k3, q, by
        rcases List.mem_cons.1 hq with rfl | hq
        · simp
        · simp [hq], kc⟩, k1'⟩
  M_move := by
    rintro w w1 base ok x cs hm ⟨hv, b, db, v, bv, cv, lr, rfl, ⟨a1, a2⟩, ⟨b1, b2⟩, h3, h4, h5, h6, h7⟩
    exact ⟨hv, b, db, v, bv, cv, lr, rfl, ⟨a1, a2⟩, ⟨b1, b2⟩, (hm b a1).trans h3, (hm db b1).trans h4, Kd.R_move h5 hm, Kd.R_move h6 (fun k hk => hm k hk.1), Kd.R_move h7 (fun k hk => hm k hk.1)⟩
  M_lower := by
    rintro w base base' ok x cs hb ⟨hv, b, db, v, bv, cv, lr, rfl, ⟨a1, a2⟩, ⟨b1, b2⟩, h3, h4, h5, h6, h7⟩
    exact ⟨hv, b, db, v, bv, cv, lr, rfl, ⟨a1, by omega⟩, ⟨b1, by omega⟩, h3, h4, Kd.R_lower h5 hb, Kd.R_lower h6 hb, Kd.R_lower h7 hb⟩

theorem monoF : Kd.Mono F := by
  refine ⟨fun _ _ _ => rfl, ?_, ?_⟩
  · rintro d d' hs h w x cs ⟨hv, b, db, lr, A, c, Ab, cb, Ac, cc, rfl, h1, h2, h3, h4, h5, h6, h7, h8⟩
    exact ⟨hv, b, db, lr, A, c, Ab, cb, Ac, cc, rfl, h1, h2, h3, h4, h5, h6, h7, Kd.C_imp hs h h8⟩
  · rintro d d' hs h w base ok x cs ⟨hv, b, db, v, bv, cv, lr, rfl, a, b', h3, h4, h5, h6, h7⟩
    exact ⟨hv, b, db, v, bv, cv, lr, rfl, a, b', h3, h4, h5, h6, Kd.R_imp hs h h7⟩
theorem subF : Kd.Sub F E := fun d h q hq => by
  rcases List.mem_cons.1 hq with rfl | hq
  · simp [E]
  rcases List.mem_cons.1 hq with rfl | hq
  · simp [E]
  rcases List.mem_cons.1 hq with rfl | hq
  · simp [E]
  rcases List.mem_cons.1 hq with rfl | hq
  · simp [E]
  exact h q hq
theorem szF : ∀ n, (Kd.upto F 1 E n).sz = 1 := Kd.upto_sz (fun _ => rfl)
/-- A packet, as deep as it is. -/
def kPk : Kd Pk := Kd.fix F 1 E szF (Kd.upto_E subF)

theorem open_K {w : World} {x : Pk} {cs : List Value} (h : kPk.K w x cs) : PkK kPk w x cs := by
  obtain ⟨n, h⟩ := h
  cases n with
  | zero => exact h.elim
  | succ n =>
    obtain ⟨hv, b, db, lr, A, c, Ab, cb, Ac, cc, rfl, h1, h2, h3, h4, h5, h6, h7, h8⟩ := h
    exact ⟨hv, b, db, lr, A, c, Ab, cb, Ac, cc, rfl, h1, h2, h3, h4, h5, h6, h7, Kd.fix_C h8⟩
theorem mk_K {w : World} {x : Pk} {cs : List Value} (h : PkK kPk w x cs) : kPk.K w x cs := by
  obtain ⟨hv, b, db, lr, A, c, Ab, cb, Ac, cc, rfl, h1, h2, h3, h4, h5, h6, h7, h8⟩ := h
  obtain ⟨n, q⟩ := Kd.fix_C_back monoF h8
  exact ⟨n + 1, hv, b, db, lr, A, c, Ab, cb, Ac, cc, rfl, h1, h2, h3, h4, h5, h6, h7, q⟩
theorem open_M {w : World} {base : Nat} {ok : Nat → Prop} {x : Pk} {cs : List Value} (h : kPk.M w base ok x cs) : PkM kPk w base ok x cs := by
  obtain ⟨n, h⟩ := h
  cases n with
  | zero => exact h.elim
  | succ n =>
    obtain ⟨hv, b, db, v, bv, cv, lr, rfl, a, b', h3, h4, h5, h6, h7⟩ := h
    exact ⟨hv, b, db, v, bv, cv, lr, rfl, a, b', h3, h4, h5, h6, Kd.fix_R h7⟩
theorem mk_M {w : World} {base : Nat} {ok : Nat → Prop} {x : Pk} {cs : List Value} (h : PkM kPk w base ok x cs) : kPk.M w base ok x cs := by
  obtain ⟨hv, b, db, v, bv, cv, lr, rfl, a, b', h3, h4, h5, h6, h7⟩ := h
  obtain ⟨n, q⟩ := Kd.fix_R_back monoF h7
  exact ⟨n + 1, hv, b, db, v, bv, cv, lr, rfl, a, b', h3, h4, h5, h6, q⟩

/-- The pointer to block b is the packet x, the call's own (blocks that are ok, from base on). -/
def IsPk (w : World) (base : Nat) (ok : Nat → Prop) (b : Nat) (x : Pk) : Prop := kPk.M w base ok x [.pointer (some ⟨b, 0, none⟩)]
/-- .. is read. -/
def RdPk (w : World) (b : Nat) (x : Pk) : Prop := kPk.K w x [.pointer (some ⟨b, 0, none⟩)]

theorem IsPk.rd {w : World} {base : Nat} {ok : Nat → Prop} {b : Nat} {x : Pk} (h : IsPk w base ok b x) : RdPk w b x := kPk.K_of_M h
theorem IsPk.mono {w : World} {base : Nat} {ok ok' : Nat → Prop} {b : Nat} {x : Pk} (h : IsPk w base ok b x) (hok : ∀ k, ok k → ok' k) : IsPk w base ok' b x := kPk.M_mono hok h
theorem IsPk.bound {w : World} {base : Nat} {ok : Nat → Prop} {b : Nat} {x : Pk} (h : IsPk w base ok b x) : IsPk w base (fun k => ok k ∧ base ≤ k ∧ k < w.heap.size) b x := kPk.M_mono (fun k hk => ⟨hk.1, hk.2.1, hk.2.2.1⟩) (kPk.M_bound h)
theorem IsPk.only {w w1 : World} {base : Nat} {ok S : Nat → Prop} {b : Nat} {x : Pk} (h : IsPk w base ok b x) (ho : Only S w w1) (hd : ∀ k, ok k → ¬ S k) : IsPk w1 base ok b x := Kd.M_step h (fun k hk hlt => ho.block k hlt (hd k hk))
theorem IsPk.below {w w1 : World} {base : Nat} {ok : Nat → Prop} {b : Nat} {x : Pk} (h : IsPk w base ok b x) (hb : Below w.heap.size w w1) : IsPk w1 base ok b x := Kd.M_below h hb
theorem IsPk.lower {w : World} {base base' : Nat} {ok : Nat → Prop} {b : Nat} {x : Pk} (h : IsPk w base ok b x) (hb : base' ≤ base) : IsPk w base' ok b x := kPk.M_lower hb h
theorem RdPk.below {w w1 : World} {b : Nat} {x : Pk} (h : RdPk w b x) (hb : Below w.heap.size w w1) : RdPk w1 b x := kPk.K_below hb h
end Go.Proofs.YtbmcpjkhnhbjdaaDoor.Pk

namespace Go.Proofs.YtbmcpjkhnhbjdaaDoor.Ber
open Go.RowKit Go.Proofs.YtbmcpjkhnhbjdaaDoorW.PrintWords Go.Proofs.YtbmcpjkhnhbjdaaDoor.Buf Go.Proofs.YtbmcpjkhnhbjdaaDoor.Pk
set_option linter.unusedVariables false
set_option linter.unusedSimpArgs false

/-- A packet without data. -/
def bare (cls typ tag : Int) (val : Value) (desc : ByteArray) : Pk := ⟨cls, typ, tag, val, [], [], [], desc⟩

/-- What a maker of packets leaves: a new packet, the old memory as it was. -/
def Made (w : World) (x : Pk) (e : Ending) (w' : World) : Prop := ∃ b, e = .returned (.pointer (some ⟨b, 0, none⟩)) ∧ IsPk w' w.heap.size (fun _ => True) b x ∧ Below w.heap.size w w'

theorem mk_kids : ∀ w : World, (Instr.makeSlice 154 (.int .i64 0) (.int .i64 2)).run Tryd.prog w = .ok (.slice (some ⟨w.heap.size, 0, none⟩) 0 2) (w.alloc (.cells #[.pointer none, .pointer none] 118)) := fun _ => by kernel_rfl

/-- The three blocks that Encode lays. -/
def freshW (w : World) (cls typ tag : Int) (val : Value) (desc : ByteArray) : World :=
  (((w.alloc (.cells #[.int .u8 cls, .int .u8 typ, .int .u64 tag, val, .slice none 0 0, .pointer (some ⟨w.heap.size + 1, 0, none⟩), .slice (some ⟨w.heap.size + 1 + 1, 0, none⟩) 0 2, .string desc] T)).alloc
    (.cells #[.slice none 0 0, .int .i64 0, .int .i8 0] TB)).alloc (.cells #[.pointer none, .pointer none] TP))

theorem fresh_below (w : World) (a b c : Obj) : Below w.heap.size w (((w.alloc a).alloc b).alloc c) :=
  (((Below.refl _ w).alloc (Nat.le_refl _) a).alloc (by simp) b).alloc (by simp; omega) c

theorem fresh_pk (w : World) (cls typ tag : Int) (val : Value) (desc : ByteArray) (hv : val.oneCell' = true) : IsPk (freshW w cls typ tag val desc) w.heap.size (fun _ => True) w.heap.size (bare cls typ tag val desc) := by
  have h0 : (freshW w cls typ tag val desc).heap[w.heap.size]? = some (.cells (cellsOf (bare cls typ tag val desc) (.slice none 0 0) (w.heap.size + 1) (.slice (some ⟨w.heap.size + 1 + 1, 0, none⟩) 0 2)) T (0, 0)) := by
    unfold freshW
    rw [Below.heap_alloc _ _ _ (by simp; omega), Below.heap_alloc _ _ _ (by simp)]
    exact heap_alloc_new w _
  have h1 : (freshW w cls typ tag val desc).heap[w.heap.size + 1]? = some (.cells #[.slice none 0 0, .int .i64 0, .int .i8 0] TB (0, 0)) := by
    unfold freshW
    rw [Below.heap_alloc _ _ _ (by simp)]
    have := heap_alloc_new (w.alloc (.cells #[.int .u8 cls, .int .u8 typ, .int .u64 tag, val, .slice none 0 0, .pointer (some ⟨w.heap.size + 1, 0, none⟩), .slice (some ⟨w.heap.size + 1 + 1, 0, none⟩) 0 2, .string desc] T)) (.cells #[.slice none 0 0, .int .i64 0, .int .i8 0] TB)
    simpa using this
  have h2 : (freshW w cls typ tag val desc).heap[w.heap.size + 1 + 1]? = some (.cells #[.pointer none, .pointer none] TP (0, 0)) := by
    unfold freshW
    have := heap_alloc_new ((w.alloc (.cells #[.int .u8 cls, .int .u8 typ, .int .u64 tag, val, .slice none 0 0, .pointer (some ⟨w.heap.size + 1, 0, none⟩), .slice (some ⟨w.heap.size + 1 + 1, 0, none⟩) 0 2, .string desc] T)).alloc (.cells #[.slice none 0 0, .int .i64 0, .int .i8 0] TB)) (.cells #[.pointer none, .pointer none] TP)
    simpa using this
  refine mk_M ⟨hv, w.heap.size, w.heap.size + 1, .slice none 0 0, .slice none 0 0, .slice (some ⟨w.heap.size + 1 + 1, 0, none⟩) 0 2, 0, rfl, ⟨trivial, Nat.le_refl _⟩, ⟨trivial, by omega⟩, h0, h1, Kd.R_nil _ _ _ _ _, Kd.R_nil _ _ _ _ _, ?_, [], ?_, Reps.none _ _⟩
  · intro k hk
    simp [Value.ownBlock] at hk
    subst hk
    exact ⟨trivial, by omega, by omega, by simp [Value.ownBlock]⟩
  · exact ⟨rfl, .inr ⟨w.heap.size + 1 + 1, 2, _, rfl, by omega, h2, by simp [bare], by unfold maxLen; omega, rfl, rfl⟩⟩

set_option maxHeartbeats 3200000 in
set_option maxRecDepth 100000 in
theorem encode_nil (cls typ tag : Int) (desc : ByteArray) (w : World) :
    Calls Tryd.prog 87 #[.int .u8 cls, .int .u8 typ, .int .u64 tag, .nilIface, .string desc] w fun e w' => Made w (bare cls typ tag .nilIface desc) e w' := by
  have hmk := mk_kids
  go_enter Tryd.func87, Tryd.ntmps87
  go_wp2
  go_ret
  exact ⟨_, rfl, fresh_pk w cls typ tag .nilIface desc rfl, fresh_below w _ _ _⟩
end Go.Proofs.YtbmcpjkhnhbjdaaDoor.Ber

namespace Go.Proofs.YtbmcpjkhnhbjdaaDoor.Ber
open Go.RowKit Go.Proofs.YtbmcpjkhnhbjdaaDoorW.PrintWords Go.Proofs.YtbmcpjkhnhbjdaaDoor.Buf Go.Proofs.YtbmcpjkhnhbjdaaDoor.Pk
set_option linter.unusedVariables false
set_option linter.unusedSimpArgs false

/-- A packet laid open. -/
structure Parts (w : World) (base : Nat) (ok : Nat → Prop) (b : Nat) (x : Pk) (db : Nat) (v bv cv : Value) : Prop where
  val : x.val.oneCell' = true
  okb : ok b
  leb : base ≤ b
  okd : ok db
  led : base ≤ db
  hb : w.heap[b]? = some (.cells (cellsOf x bv db cv) T (0, 0))
  hd : Hdr w db v
  rv : B8.R 5 w base ok v x.data
  rb : B8.R 5 w base (fun k => ok k ∧ some k ≠ v.ownBlock) bv x.bv
  rk : kPk.R TP w base (fun k => ok k ∧ k ≠ b ∧ k ≠ db ∧ some k ≠ v.ownBlock) cv x.kids

theorem parts_of {w : World} {base : Nat} {ok : Nat → Prop} {b : Nat} {x : Pk} (h : IsPk w base ok b x) : ∃ db v bv cv, Parts w base ok b x db v bv cv := by
  obtain ⟨hv, b', db, v, bv, cv, lr, e, ⟨a1, a2⟩, ⟨b1, b2⟩, h3, h4, h5, h6, h7⟩ := open_M h
  obtain rfl : b' = b := by simpa using e.symm
  exact ⟨db, v, bv, cv, hv, a1, a2, b1, b2, h3, ⟨lr, h4⟩, h5, h6, h7⟩

theorem Parts.pk {w : World} {base : Nat} {ok : Nat → Prop} {b : Nat} {x : Pk} {db : Nat} {v bv cv : Value} (h : Parts w base ok b x db v bv cv) : IsPk w base ok b x := by
  obtain ⟨lr, h4⟩ := h.hd
  exact mk_M ⟨h.val, b, db, v, bv, cv, lr, rfl, ⟨h.okb, h.leb⟩, ⟨h.okd, h.led⟩, h.hb, h4, h.rv, h.rb, h.rk⟩

section
variable {w w' : World} {base : Nat} {ok : Nat → Prop} {b : Nat} {x : Pk} {db : Nat} {v bv cv : Value}

theorem Parts.buf (h : Parts w base ok b x db v bv cv) : IsBuf w db v x.data := ⟨h.hd, own_weaken (int_own h.rv) (Nat.zero_le _)⟩
theorem Parts.dne (h : Parts w base ok b x db v bv cv) : b ≠ db := by
  rintro rfl
  obtain ⟨lr, h4⟩ := h.hd
  have := h.hb
  rw [h4] at this
  injection this with this
  injection this with _ this
  exact absurd this (by decide)
theorem Parts.bne (h : Parts w base ok b x db v bv cv) : v.ownBlock ≠ some b := by
  intro e
  obtain ⟨cells, hc⟩ := own_typed (int_own h.rv) b e
  have := h.hb
  rw [hc] at this
  injection this with this
  injection this with _ this
  exact absurd this (by decide)

/-- A row at another base: its block is at least so great. -/
theorem own_base_at {w : World} {base base' : Nat} {e : TypeId} {s n : Nat} {v : Value} {cs : List Value} (h : w.ownsRow base e s v n cs) (hb : ∀ k, v.ownBlock = some k → base' ≤ k) : w.ownsRow base' e s v n cs := by
  obtain ⟨h1, h2⟩ := h
  refine ⟨h1, ?_⟩
  rcases h2 with h2 | ⟨g, cap, cur, rfl, hg, r⟩
  · exact .inl h2
  · exact .inr ⟨g, cap, cur, rfl, hb g rfl, r⟩

theorem Parts.wrote {ys : List Int} {e0 e : Ending} (h : Parts w base ok b x db v bv cv) (hw : Wrote w db v (x.data ++ ys) e0 e w') (hbase : base ≤ w.heap.size) :
    e = e0 ∧ Only ok w w' ∧ ∃ v', Parts w' base (fun k => ok k ∨ w.heap.size ≤ k) b { x with data := x.data ++ ys } db v' bv cv := by
  obtain ⟨he, v', hbuf, hrow, hon⟩ := hw
  have hlt : b < w.heap.size := blk_lt h.hb
  have hkeep : ∀ k, k < w.heap.size → k ≠ db → some k ≠ v.ownBlock → w'.heap[k]? = w.heap[k]? := fun k hk h1 h2 => hon.block k hk (fun h3 => h3.elim h1 h2)
  have hokrow : ∀ k, v.ownBlock = some k → ok k := h.rv.1
  have hne : ∀ k, some k ≠ v.ownBlock → k < w.heap.size → some k ≠ v'.ownBlock := by
    intro k h1 h2
    rcases hrow with h3 | ⟨N, h3, h4⟩
    · rw [h3]; exact h1
    · rw [h3]
      intro h5
      injection h5 with h5
      omega
  have hdb : ∀ {k : Nat} {cs : Array Value}, w.heap[k]? = some (.cells cs 5 (0, 0)) → k ≠ db := by
    rintro k cs hc rfl
    obtain ⟨lr, h4⟩ := h.hd
    rw [hc] at h4
    injection h4 with h4
    injection h4 with _ h4
    exact absurd h4 (by decide)
  refine ⟨he, hon.mono ?_, v', h.val, Or.inl h.okb, h.leb, Or.inl h.okd, h.led, ?_, hbuf.1, ?_, ?_, ?_⟩
  · rintro i hi (rfl | h1)
    · exact h.okd
    · exact hokrow i h1.symm
  · exact (hkeep b hlt h.dne (Ne.symm h.bne)).trans h.hb
  · refine own_int (own_base_at hbuf.2 ?_) ?_
    · intro k hk
      rcases hrow with h3 | ⟨N, h3, h4⟩
      · exact own_base (int_own h.rv) k (h3 ▸ hk)
      · rw [h3] at hk; injection hk with hk; omega
    · intro k hk
      rcases hrow with h3 | ⟨N, h3, h4⟩
      · exact Or.inl (hokrow k (h3 ▸ hk))
      · rw [h3] at hk; injection hk with hk; exact Or.inr (by omega)
  · have r := Kd.R_bound h.rb
    refine Kd.R_mono (Kd.R_move r ?_) ?_
    · rintro k ⟨⟨k1, k2⟩, k3, k4, q, hq, cells, hc⟩
      refine hkeep k k4 (hdb (k := k) (cs := cells) ?_) k2
      rcases List.mem_cons.1 hq with rfl | hq
      · exact hc
      · exact absurd hq (by simp [Kd.int, Kd.scalar])
    · rintro k ⟨⟨k1, k2⟩, k3, k4, _⟩
      exact ⟨Or.inl k1, hne k k2 k4⟩
  · have r := Kd.R_bound h.rk
    refine Kd.R_mono (Kd.R_move r ?_) ?_
    · rintro k ⟨⟨k1, k2, k3, k4⟩, k5, k6, _⟩
      exact hkeep k k6 k3 k4
    · rintro k ⟨⟨k1, k2, k3, k4⟩, k5, k6, _⟩
      exact ⟨Or.inl k1, k2, k3, hne k k4 k6⟩

/-- Another value in the interface. -/
theorem Parts.setVal (h : Parts w base ok b x db v bv cv) (u : Value) (hu : u.oneCell' = true) : Parts (w.setCell ⟨b, 3, none⟩ u) base ok b { x with val := u } db v bv cv ∧ Only ok w (w.setCell ⟨b, 3, none⟩ u) := by
  have hk : ∀ k, k ≠ b → (w.setCell ⟨b, 3, none⟩ u).heap[k]? = w.heap[k]? := fun k hk => Below.heap_setCell w ⟨b, 3, none⟩ u k hk
  have hrow : ∀ {k : Nat} {cs : Array Value}, w.heap[k]? = some (.cells cs 5 (0, 0)) → k ≠ b := by
    rintro k cs hc rfl
    have := h.hb
    rw [hc] at this
    injection this with this
    injection this with _ this
    exact absurd this (by decide)
  refine ⟨⟨hu, h.okb, h.leb, h.okd, h.led, Lib.heap_setCell_same (i := 3) h.hb u, ?_, ?_, ?_, ?_⟩, (Only.refl ok w).setCell (a := ⟨b, 3, none⟩) (fun _ => h.okb) u⟩
  · obtain ⟨lr, h4⟩ := h.hd
    exact ⟨lr, (hk db (Ne.symm h.dne)).trans h4⟩
  · refine Kd.R_mono (Kd.R_move (Kd.R_bound h.rv) ?_) (fun k hk => hk.1)
    rintro k ⟨k1, k2, k3, q, hq, cells, hc⟩
    refine hk k (hrow (cs := cells) ?_)
    rcases List.mem_cons.1 hq with rfl | hq
    · exact hc
    · exact absurd hq (by simp [Kd.int, Kd.scalar])
  · refine Kd.R_mono (Kd.R_move (Kd.R_bound h.rb) ?_) (fun k hk => hk.1)
    rintro k ⟨k1, k2, k3, q, hq, cells, hc⟩
    refine hk k (hrow (cs := cells) ?_)
    rcases List.mem_cons.1 hq with rfl | hq
    · exact hc
    · exact absurd hq (by simp [Kd.int, Kd.scalar])
  · exact Kd.R_move h.rk (fun k hk' => hk k hk'.2.1)

theorem Parts.below (h : Parts w base ok b x db v bv cv) (hb : Below w.heap.size w w') : Parts w' base ok b x db v bv cv := by
  obtain ⟨lr, h4⟩ := h.hd
  exact ⟨h.val, h.okb, h.leb, h.okd, h.led, blk_below h.hb hb, ⟨lr, blk_below h4 hb⟩, Kd.R_below h.rv hb, Kd.R_below h.rb hb, Kd.R_below h.rk hb⟩

theorem Parts.cell (h : Parts w base ok b x db v bv cv) (i : Nat) : w.cell? ⟨b, i, none⟩ = (cellsOf x bv db cv)[i]? := Lib.cell_of_heap h.hb i
theorem Parts.frozen (h : Parts w base ok b x db v bv cv) (i : Nat) : w.frozen? ⟨b, i, none⟩ = false := Lib.frozen_of_heap h.hb i
end

theorem made_intro {w w' : World} {ok : Nat → Prop} {b : Nat} {x : Pk} {db : Nat} {v bv cv : Value} {e : Ending} (he : e = .returned (.pointer (some ⟨b, 0, none⟩))) (h : Parts w' w.heap.size ok b x db v bv cv) (hb : Below w.heap.size w w') : Made w x e w' :=
  ⟨b, he, h.pk.mono (fun _ _ => trivial), hb⟩

/-- The bytes of a row read (C) lie where Write looks. -/
theorem reads_cells {w : World} {A : Option Addr} {ys : List Int} (h : B8.C w A ys.length ys) : (A = none ∧ ys = []) ∨ ∃ a, (A = some a ∨ ys = []) ∧ ∀ j u, (nums .u8 ys)[j]? = some u → w.cell? (a.add j) = some u := by
  rcases Nat.eq_zero_or_pos ys.length with h0 | h0
  · have : ys = [] := List.eq_nil_of_length_eq_zero h0
    subst this
    exact Or.inr ⟨⟨0, 0, none⟩, Or.inr rfl, fun j u hj => by simp [nums] at hj⟩
  · obtain ⟨a, rfl, _⟩ := Kd.at_int h 0 (by omega) (by omega)
    refine Or.inr ⟨a, Or.inl rfl, fun j u hj => ?_⟩
    have hl : j < ys.length := by
      have := (List.getElem?_eq_some_iff.1 hj).1
      rw [nums_length] at this
      exact this
    obtain ⟨a', e, hc⟩ := Kd.at_int h (j : Int) (by omega) (by omega)
    injection e with e
    subst e
    rw [Int.toNat_natCast] at hc
    rw [hc]
    rw [nums, List.getElem?_map, List.getElem?_eq_getElem hl] at hj
    rw [← hj]
    simp [rd, List.getD_eq_getElem?_getD, List.getElem?_eq_getElem hl]

/-- Write of what a row holds, wherever it lies but in the struct's block. -/
theorem write_row (b : Nat) (v : Value) (xs ys : List Int) (A : Option Addr) (c : Nat) (w : World) (h : IsBuf w b v xs) (hr : B8.C w A ys.length ys) (hne : ∀ a, A = some a → 1 ≤ ys.length → a.block ≠ b) (hlim : xs.length + ys.length ≤ 140737488355328) :
    Calls Tryd.prog 88 #[.pointer (some ⟨b, 0, none⟩), .slice A ys.length c] w fun e w' => Wrote w b v (xs ++ ys) (.returned (.tuple #[.int .i64 ys.length, .nilIface])) e w' := by
  by_cases h0 : ys = []
  · subst h0
    rw [List.append_nil]
    exact write_none b v xs A c w h
  · have hpos : 1 ≤ ys.length := by
      rcases Nat.eq_zero_or_pos ys.length with h1 | h1
      · exact absurd (List.eq_nil_of_length_eq_zero h1) h0
      · exact h1
    rcases reads_cells hr with ⟨_, h1⟩ | ⟨a, rfl | h1, hc⟩
    · exact absurd h1 h0
    · exact write_any b v xs ys a c w h (hne a rfl hpos) hc hlim
    · exact absurd h1 h0
end Go.Proofs.YtbmcpjkhnhbjdaaDoor.Ber

namespace Go.Proofs.YtbmcpjkhnhbjdaaDoor.Ber
open Go.RowKit Go.Proofs.YtbmcpjkhnhbjdaaDoorW.PrintWords Go.Proofs.YtbmcpjkhnhbjdaaDoor.Buf Go.Proofs.YtbmcpjkhnhbjdaaDoor.Pk
set_option linter.unusedVariables false
set_option linter.unusedSimpArgs false

/-- A packet that holds bytes. -/
def prim (cls typ tag : Int) (val : Value) (data : List Int) (desc : ByteArray) : Pk := ⟨cls, typ, tag, val, [], data, [], desc⟩

/-- the string value in an interface -/
abbrev strV (s : ByteArray) : Value := .iface 9 (.string s)

theorem conv_bytes (s : ByteArray) : ∀ W : World, (convert 9 24 (.string s)).run Tryd.prog W = .ok (.slice (some ⟨W.heap.size, 0, none⟩) s.size (grownCap W s.size 0 5)) (Lib.bytesWorld W 5 s) :=
  fun W => print_bytes (P := Tryd.prog) 9 24 5 Tryd.underlying9 Tryd.underlying24 Tryd.underlying5 s W

/-- 'p.Data.Write([]byte(s))', behind the conversion. -/
theorem write_conv {W : World} {base : Nat} {ok : Nat → Prop} {b : Nat} {x : Pk} {db : Nat} {v bv cv : Value} (P : Parts W base ok b x db v bv cv) (hbase : base ≤ W.heap.size) (s : ByteArray) (N c : Nat) (hN : N = W.heap.size) (hlim : x.data.length + s.size ≤ 140737488355328) :
    Calls Tryd.prog 88 #[.pointer (some ⟨db, 0, none⟩), .slice (some ⟨N, 0, none⟩) s.size c] (Lib.bytesWorld W 5 s) fun e w' => e = .returned (.tuple #[.int .i64 s.size, .nilIface]) ∧
      ∃ v', Parts w' base (fun k => ok k ∨ W.heap.size ≤ k) b { x with data := x.data ++ bytesOf s } db v' bv cv ∧ Only ok W w' := by
  subst hN
  have hb3 : Below W.heap.size W (Lib.bytesWorld W 5 s) := bytes_below (Below.refl _ _) (Nat.le_refl _) _ _
  have P3 := P.below hb3
  have hrd : B8.C (Lib.bytesWorld W 5 s) (some ⟨W.heap.size, 0, none⟩) (bytesOf s).length (bytesOf s) := by
    rw [bytesOf_length]
    exact Kd.C_of_reads (d := 0) (bytes_reads W 5 s (by omega))
  have hwr := write_row db v x.data (bytesOf s) _ c _ P3.buf hrd (fun a ha _ => by
    injection ha with ha; subst ha
    obtain ⟨lr, h4⟩ := P.hd
    have := blk_lt h4
    show W.heap.size ≠ db
    omega) (by rw [bytesOf_length]; exact hlim)
  rw [bytesOf_length] at hwr
  refine hwr.mono fun e w' hw => ?_
  obtain ⟨rfl, ho4, v', P4⟩ := P3.wrote hw (by have := hb3.size; omega)
  exact ⟨rfl, v', ⟨P4.val, Or.inl P.okb, P4.leb, Or.inl P.okd, P4.led, P4.hb, P4.hd, Kd.R_mono P4.rv (fun k hk => hk.imp id (fun h => by have := hb3.size; omega)), Kd.R_mono P4.rb (fun k hk => ⟨hk.1.imp id (fun h => by have := hb3.size; omega), hk.2⟩),
    Kd.R_mono P4.rk (fun k hk => ⟨hk.1.imp id (fun h => by have := hb3.size; omega), hk.2⟩)⟩, (Only.of_below ok hb3).trans ho4 (fun _ _ h => h)⟩

set_option maxHeartbeats 3200000 in
set_option maxRecDepth 100000 in
theorem newString_any (cls typ tag : Int) (s desc : ByteArray) (w : World) (hs : s.size ≤ 140737488355328) :
    Calls Tryd.prog 62 #[.int .u8 cls, .int .u8 typ, .int .u64 tag, .string s, .string desc] w fun e w' => Made w (prim cls typ tag (strV s) (bytesOf s) desc) e w' := by
  have hcv := conv_bytes s
  go_enter Tryd.func62, Tryd.ntmps62
  go_wp2_with (go_at_call 87; refine (encode_nil _ _ _ _ _).mono ?_)
  rintro e W1 ⟨b, rfl, hI, hB1⟩
  obtain ⟨db, v, bv, cv, P⟩ := parts_of hI.bound
  obtain ⟨P2, ho2⟩ := P.setVal (strV s) rfl
  have c3 : W1.cell? ⟨b, 3, none⟩ = some .nilIface := P.cell 3
  have f3 := P.frozen 3
  have c5 : (W1.setCell ⟨b, 3, none⟩ (strV s)).cell? ⟨b, 5, none⟩ = some (.pointer (some ⟨db, 0, none⟩)) := P2.cell 5
  have hB2 : Below w.heap.size w (W1.setCell ⟨b, 3, none⟩ (strV s)) := hB1.setCell (p := ⟨b, 3, none⟩) P.leb _
  have hwr := write_conv P2 hB2.size s W1.heap.size (grownCap (W1.setCell ⟨b, 3, none⟩ (strV s)) s.size 0 5) (by simp) (by simpa [bare] using hs)
  have HB2 := Lib.hid hB2
  clear P P2 hI hB1 hB2 ho2
  go_wp2_with (go_at_call 88; refine hwr.mono ?_; rintro e W4 ⟨rfl, v', P4, ho4⟩)
  go_ret
  exact made_intro rfl P4 (HB2.out.trans (ho4.below HB2.out.size (fun i hi => hi.2.1)))
end Go.Proofs.YtbmcpjkhnhbjdaaDoor.Ber
