/- The kind of a *ber.Packet in memory: its struct, its Data buffer (only written), its children, in the print's framework of kinds. -/
import Derived.Test.YtcohjechpnlogaaDoorBufWrite
namespace Go.Proofs.YtcohjechpnlogaaDoor.Pk
open Go.RowKit Go.Proofs.YtcohjechpnlogaaDoorW.PrintWords Go.Proofs.YtcohjechpnlogaaDoor.Buf
set_option linter.unusedVariables false
set_option linter.unusedSimpArgs false

/-- A packet as data: class, type, tag, the interface value, ByteValue, what Data holds, the children, the description. -/
structure Pk where
  cls : Int
  typ : Int
  tag : Int
  val : Value
  bv : List Int
  data : List Int
  kids : List Pk
  desc : ByteArray

abbrev T : Nat := 75
abbrev TB : Nat := 81
abbrev TP : Nat := 46
abbrev B8 : Kd Int := Kd.int .u8

/-- The struct's cells. -/
def cellsOf (x : Pk) (bv : Value) (db : Nat) (cv : Value) : Array Value :=
  #[.int .u8 x.cls, .int .u8 x.typ, .int .u64 x.tag, x.val, bv, .pointer (some ⟨db, 0, none⟩), cv, .string x.desc]

theorem int_own {k : IntKind} {e : Nat} {w : World} {base : Nat} {ok : Nat → Prop} {v : Value} {xs : List Int} (h : (Kd.int k).R e w base ok v xs) : w.ownsRow base e 1 v xs.length (nums k xs) := Kd.own_of_R h
theorem own_int {k : IntKind} {e : Nat} {w : World} {base : Nat} {ok : Nat → Prop} {v : Value} {xs : List Int} (h : w.ownsRow base e 1 v xs.length (nums k xs)) (hok : ∀ k, v.ownBlock = some k → ok k) : (Kd.int k).R e w base ok v xs := Kd.R_of_own h hok

/-- One packet, its children of kind 'rec': read (K), or the call's own (M): its blocks are ok, and the children's are none of its own. -/
def PkK (rec : Kd Pk) (w : World) (x : Pk) (cs : List Value) : Prop :=
  x.val.oneCell' = true ∧ ∃ b db lr A c Ab cb Ac cc, cs = [.pointer (some ⟨b, 0, none⟩)] ∧ w.heap[b]? = some (.cells (cellsOf x (.slice Ab x.bv.length cb) db (.slice Ac x.kids.length cc)) T (0, 0)) ∧
    w.heap[db]? = some (.cells #[.slice A x.data.length c, .int .i64 0, .int .i8 lr] TB (0, 0)) ∧ x.data.length ≤ c ∧ B8.C w A x.data.length x.data ∧ x.bv.length ≤ cb ∧ B8.C w Ab x.bv.length x.bv ∧
    x.kids.length ≤ cc ∧ rec.C w Ac x.kids.length x.kids

def PkM (rec : Kd Pk) (w : World) (base : Nat) (ok : Nat → Prop) (x : Pk) (cs : List Value) : Prop :=
  x.val.oneCell' = true ∧ ∃ b db v bv cv lr, cs = [.pointer (some ⟨b, 0, none⟩)] ∧ (ok b ∧ base ≤ b) ∧ (ok db ∧ base ≤ db) ∧ w.heap[b]? = some (.cells (cellsOf x bv db cv) T (0, 0)) ∧
    w.heap[db]? = some (.cells #[v, .int .i64 0, .int .i8 lr] TB (0, 0)) ∧ B8.R 5 w base ok v x.data ∧ B8.R 5 w base (fun k => ok k ∧ some k ≠ v.ownBlock) bv x.bv ∧
    rec.R TP w base (fun k => ok k ∧ k ≠ b ∧ k ≠ db ∧ some k ≠ v.ownBlock) cv x.kids

def E : List Nat := [T, TB, 5, TP]

def F (rec : Kd Pk) : Kd Pk where
  sz := 1
  E := T :: TB :: 5 :: TP :: rec.E
  K := PkK rec
  M := PkM rec
  K_len := by
    rintro w x cs ⟨_, b, db, lr, A, c, Ab, cb, Ac, cc, rfl, _⟩
    rfl
  K_one := by
    rintro w x cs ⟨_, b, db, lr, A, c, Ab, cb, Ac, cc, rfl, _⟩ u hu
    rw [List.mem_singleton.1 hu]
    rfl
  K_below := by
    rintro w w1 x cs hb ⟨hv, b, db, lr, A, c, Ab, cb, Ac, cc, rfl, h1, h2, h3, h4, h5, h6, h7, h8⟩
    exact ⟨hv, b, db, lr, A, c, Ab, cb, Ac, cc, rfl, blk_below h1 hb, blk_below h2 hb, h3, Kd.C_below h4 hb, h5, Kd.C_below h6 hb, h7, Kd.C_below h8 hb⟩
  K_of_M := by
    rintro w base ok x cs ⟨hv, b, db, v, bv, cv, lr, rfl, _, _, h3, h4, h5, h6, h7⟩
    obtain ⟨A, c, rfl, l1, g1⟩ := Kd.R_reads h5
    obtain ⟨Ab, cb, rfl, l2, g2⟩ := Kd.R_reads h6
    obtain ⟨Ac, cc, rfl, l3, g3⟩ := Kd.R_reads h7
    exact ⟨hv, b, db, lr, A, c, Ab, cb, Ac, cc, rfl, h3, h4, l1, g1, l2, g2, l3, g3⟩
  M_mono := by
    rintro w base ok ok' x cs hok ⟨hv, b, db, v, bv, cv, lr, rfl, ⟨a1, a2⟩, ⟨b1, b2⟩, h3, h4, h5, h6, h7⟩
    exact ⟨hv, b, db, v, bv, cv, lr, rfl, ⟨hok _ a1, a2⟩, ⟨hok _ b1, b2⟩, h3, h4, Kd.R_mono h5 hok, Kd.R_mono h6 (fun k hk => ⟨hok k hk.1, hk.2⟩), Kd.R_mono h7 (fun k hk => ⟨hok k hk.1, hk.2⟩)⟩
  M_bound := by
    rintro w base ok x cs ⟨hv, b, db, v, bv, cv, lr, rfl, ⟨a1, a2⟩, ⟨b1, b2⟩, h3, h4, h5, h6, h7⟩
    refine ⟨hv, b, db, v, bv, cv, lr, rfl, ⟨⟨a1, a2, blk_lt h3, T, List.mem_cons_self, _, h3⟩, a2⟩, ⟨⟨b1, b2, blk_lt h4, TB, List.mem_cons_of_mem _ List.mem_cons_self, _, h4⟩, b2⟩, h3, h4, ?_, ?_, ?_⟩
    · refine Kd.R_mono (Kd.R_bound h5) ?_
      rintro k ⟨k1, k2, k3, q, hq, kc⟩
      exact ⟨k1, k2, k3, q, by
        rcases List.mem_cons.1 hq with rfl | hq
        · simp
        · exact absurd hq (by simp [Kd.int, Kd.scalar]), kc⟩
    · refine Kd.R_mono (Kd.R_bound h6) ?_
      rintro k ⟨⟨k1, k1'⟩, k2, k3, q, hq, kc⟩
      exact ⟨⟨k1, k2, k3, q, by
        rcases List.mem_cons.1 hq with rfl | hq
        · simp
        · exact absurd hq (by simp [Kd.int, Kd.scalar]), kc⟩, k1'⟩
    · refine Kd.R_mono (Kd.R_bound h7) ?_
      rintro k ⟨⟨k1, k1'⟩, k2, k3, q, hq, kc⟩
      exact ⟨⟨k1, k2, k3, q, by
        rcases List.mem_cons.1 hq with rfl | hq
        · simp
        · simp [hq], kc⟩, k1'⟩
  M_move := by
    rintro w w1 base ok x cs hm ⟨hv, b, db, v, bv, cv, lr, rfl, ⟨a1, a2⟩, ⟨b1, b2⟩, h3, h4, h5, h6, h7⟩
    exact ⟨hv, b, db, v, bv, cv, lr, rfl, ⟨a1, a2⟩, ⟨b1, b2⟩, (hm b a1).trans h3, (hm db b1).trans h4, Kd.R_move h5 hm, Kd.R_move h6 (fun k hk => hm k hk.1), Kd.R_move h7 (fun k hk => hm k hk.1)⟩
  M_lower := by
    rintro w base base' ok x cs hb ⟨hv, b, db, v, bv, cv, lr, rfl, ⟨a1, a2⟩, ⟨b1, b2⟩, h3, h4, h5, h6, h7⟩
    exact ⟨hv, b, db, v, bv, cv, lr, rfl, ⟨a1, by omega⟩, ⟨b1, by omega⟩, h3, h4, Kd.R_lower h5 hb, Kd.R_lower h6 hb, Kd.R_lower h7 hb⟩

theorem monoF : Kd.Mono F := by
  refine ⟨fun _ _ _ => rfl, ?_, ?_⟩
  · rintro d d' hs h w x cs ⟨hv, b, db, lr, A, c, Ab, cb, Ac, cc, rfl, h1, h2, h3, h4, h5, h6, h7, h8⟩
    exact ⟨hv, b, db, lr, A, c, Ab, cb, Ac, cc, rfl, h1, h2, h3, h4, h5, h6, h7, Kd.C_imp hs h h8⟩
  · rintro d d' hs h w base ok x cs ⟨hv, b, db, v, bv, cv, lr, rfl, a, b', h3, h4, h5, h6, h7⟩
    exact ⟨hv, b, db, v, bv, cv, lr, rfl, a, b', h3, h4, h5, h6, Kd.R_imp hs h h7⟩
theorem subF : Kd.Sub F E := fun d h q hq => by
  rcases List.mem_cons.1 hq with rfl | hq
  · simp [E]
  rcases List.mem_cons.1 hq with rfl | hq
  · simp [E]
  rcases List.mem_cons.1 hq with rfl | hq
  · simp [E]
  rcases List.mem_cons.1 hq with rfl | hq
  · simp [E]
  exact h q hq
theorem szF : ∀ n, (Kd.upto F 1 E n).sz = 1 := Kd.upto_sz (fun _ => rfl)
/-- A packet, as deep as it is. -/
def kPk : Kd Pk := Kd.fix F 1 E szF (Kd.upto_E subF)

theorem open_K {w : World} {x : Pk} {cs : List Value} (h : kPk.K w x cs) : PkK kPk w x cs := by
  obtain ⟨n, h⟩ := h
  cases n with
  | zero => exact h.elim
  | succ n =>
    obtain ⟨hv, b, db, lr, A, c, Ab, cb, Ac, cc, rfl, h1, h2, h3, h4, h5, h6, h7, h8⟩ := h
    exact ⟨hv, b, db, lr, A, c, Ab, cb, Ac, cc, rfl, h1, h2, h3, h4, h5, h6, h7, Kd.fix_C h8⟩
theorem mk_K {w : World} {x : Pk} {cs : List Value} (h : PkK kPk w x cs) : kPk.K w x cs := by
  obtain ⟨hv, b, db, lr, A, c, Ab, cb, Ac, cc, rfl, h1, h2, h3, h4, h5, h6, h7, h8⟩ := h
  obtain ⟨n, q⟩ := Kd.fix_C_back monoF h8
  exact ⟨n + 1, hv, b, db, lr, A, c, Ab, cb, Ac, cc, rfl, h1, h2, h3, h4, h5, h6, h7, q⟩
theorem open_M {w : World} {base : Nat} {ok : Nat → Prop} {x : Pk} {cs : List Value} (h : kPk.M w base ok x cs) : PkM kPk w base ok x cs := by
  obtain ⟨n, h⟩ := h
  cases n with
  | zero => exact h.elim
  | succ n =>
    obtain ⟨hv, b, db, v, bv, cv, lr, rfl, a, b', h3, h4, h5, h6, h7⟩ := h
    exact ⟨hv, b, db, v, bv, cv, lr, rfl, a, b', h3, h4, h5, h6, Kd.fix_R h7⟩
theorem mk_M {w : World} {base : Nat} {ok : Nat → Prop} {x : Pk} {cs : List Value} (h : PkM kPk w base ok x cs) : kPk.M w base ok x cs := by
  obtain ⟨hv, b, db, v, bv, cv, lr, rfl, a, b', h3, h4, h5, h6, h7⟩ := h
  obtain ⟨n, q⟩ := Kd.fix_R_back monoF h7
  exact ⟨n + 1, hv, b, db, v, bv, cv, lr, rfl, a, b', h3, h4, h5, h6, q⟩

/-- The pointer to block b is the packet x, the call's own (blocks that are ok, from base on). -/
def IsPk (w : World) (base : Nat) (ok : Nat → Prop) (b : Nat) (x : Pk) : Prop := kPk.M w base ok x [.pointer (some ⟨b, 0, none⟩)]
/-- .. is read. -/
def RdPk (w : World) (b : Nat) (x : Pk) : Prop := kPk.K w x [.pointer (some ⟨b, 0, none⟩)]

theorem IsPk.rd {w : World} {base : Nat} {ok : Nat → Prop} {b : Nat} {x : Pk} (h : IsPk w base ok b x) : RdPk w b x := kPk.K_of_M h
theorem IsPk.mono {w : World} {base : Nat} {ok ok' : Nat → Prop} {b : Nat} {x : Pk} (h : IsPk w base ok b x) (hok : ∀ k, ok k → ok' k) : IsPk w base ok' b x := kPk.M_mono hok h
theorem IsPk.bound {w : World} {base : Nat} {ok : Nat → Prop} {b : Nat} {x : Pk} (h : IsPk w base ok b x) : IsPk w base (fun k => ok k ∧ base ≤ k ∧ k < w.heap.size) b x := kPk.M_mono (fun k hk => ⟨hk.1, hk.2.1, hk.2.2.1⟩) (kPk.M_bound h)
theorem IsPk.only {w w1 : World} {base : Nat} {ok S : Nat → Prop} {b : Nat} {x : Pk} (h : IsPk w base ok b x) (ho : Only S w w1) (hd : ∀ k, ok k → ¬ S k) : IsPk w1 base ok b x := Kd.M_step h (fun k hk hlt => ho.block k hlt (hd k hk))
theorem IsPk.below {w w1 : World} {base : Nat} {ok : Nat → Prop} {b : Nat} {x : Pk} (h : IsPk w base ok b x) (hb : Below w.heap.size w w1) : IsPk w1 base ok b x := Kd.M_below h hb
theorem IsPk.lower {w : World} {base base' : Nat} {ok : Nat → Prop} {b : Nat} {x : Pk} (h : IsPk w base ok b x) (hb : base' ≤ base) : IsPk w base' ok b x := kPk.M_lower hb h
theorem RdPk.below {w w1 : World} {b : Nat} {x : Pk} (h : RdPk w b x) (hb : Below w.heap.size w w1) : RdPk w1 b x := kPk.K_below hb h
end Go.Proofs.YtcohjechpnlogaaDoor.Pk
