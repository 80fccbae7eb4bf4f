/- Parts of the proof of one law, in the order in which they build. The bytes of a packet whose data are bytes are bytes. · Plain maths: whole numbers and texts as data, read back. · impl.read at what laws.plain made: the packet, decoded. · laws.short at a list of texts; a row of texts in a block. · ldap.EntryOf: the name and the attributes of an entry, decoded. · impl.safely: a closure that returns a truth value is run; recover finds nothing. · impl.Result, impl.Failure. · spec.Result with its row of packets; spec.Answer. · The closure of impl.Entry: the attributes as data. · impl.Entry. · A text of a row; attributes whose texts are short. -/
import Derived.Deep.OwnRows
import Derived.Deep.RegionLaw
import Derived.Recover
import Derived.Defers
import Derived.Test.YteockihoefbmdaaGreatDoorEty1
import Derived.Test.YteockihoefbmdaaGreatDoorEty2
import Derived.Test.YteockihoefbmdaaGreatDoorEty3
import Derived.Test.YteockihoefbmdaaGreatDoorEty4
import Derived.Test.YteockihoefbmdaaGreatDoorEty5
import Derived.Test.YteockihoefbmdaaGreatDoorEty6
import Derived.Test.YteockihoefbmdaaGreatDoorEty7
import Derived.Test.YteockihoefbmdaaGreatDoorEty8
import Derived.Test.YteockihoefbmdaaGreatDoorEty9
import Derived.Test.YteockihoefbmdaaGreatDoorEty10
import Derived.Test.YteockihoefbmdaaGreatDoorEty11
namespace Go.Proofs.YteockihoefbmdaaGreatDoor.Ber
open Go.RowKit Go.Proofs.YteockihoefbmdaaGreatDoorW.PrintWords Go.Proofs.YteockihoefbmdaaGreatDoor.PFnEncode Go.Proofs.YteockihoefbmdaaGreatDoor.Within Go.Proofs.YteockihoefbmdaaGreatDoor.Tree Go.Proofs.YteockihoefbmdaaGreatDoor.Num Go.Proofs.YteockihoefbmdaaGreatDoor.Ident
set_option linter.unusedVariables false
set_option linter.unusedSimpArgs false
mutual
/-- all data are bytes -/
def inB : S30 → Prop
  | ⟨_, _, _, d, l⟩ => (∀ y ∈ d, 0 ≤ y ∧ y < 256) ∧ inBL l
def inBL : List S30 → Prop
  | [] => True
  | x :: xs => inB x ∧ inBL xs
end
theorem low_in (t : Int) (n : Nat) : ∀ y ∈ low t n, 0 ≤ y ∧ y < 256 := by
  intro y hy
  rw [low, List.mem_map] at hy
  obtain ⟨i, _, rfl⟩ := hy
  cases i with
  | zero => rw [dig]; omega
  | succ i => rw [dig]; omega
theorem identT_in (a b : Int) (c : Bool) (a0 : 0 ≤ a) (a1 : a ≤ 3) (b0 : 0 ≤ b) : ∀ y ∈ identT a b c, 0 ≤ y ∧ y < 256 := by
  intro y hy
  unfold identT cb at hy
  by_cases h : b < 31
  · rw [if_pos h] at hy
    rw [List.mem_singleton.1 hy]
    cases c
    · simp; omega
    · simp; omega
  · rw [if_neg h] at hy
    rcases List.mem_cons.1 hy with rfl | hy
    · cases c
      · simp; omega
      · simp; omega
    · exact low_in _ _ y (List.mem_reverse.1 hy)
theorem lenBytes_in (n : Nat) (hn : n < 256 ^ 8) : ∀ y ∈ lenBytes n, 0 ≤ y ∧ y < 256 := by
  intro y hy
  unfold lenBytes at hy
  by_cases h : n < 128
  · rw [if_pos h] at hy
    rw [List.mem_singleton.1 hy]
    omega
  · rw [if_neg h] at hy
    rcases List.mem_cons.1 hy with rfl | hy
    · have := nd_le 7 n hn
      omega
    · exact be_range _ _ y hy
mutual
theorem bytesT_in : ∀ p : S30, good (mir p) = true → inB p → (bytesT (mir p)).length < 256 ^ 8 → ∀ y ∈ bytesT (mir p), 0 ≤ y ∧ y < 256
  | ⟨a, b, c, d, l⟩, hg, hi, hl => by
    have hgl := goodL_of' hg
    rw [mir, good] at hg
    simp only [Bool.and_eq_true, decide_eq_true_eq] at hg
    obtain ⟨⟨⟨⟨⟨a0, a1⟩, b0⟩, b1⟩, hc⟩, _⟩ := hg
    rw [inB] at hi
    rw [mir, bytesT] at hl ⊢
    have hl2 : (d ++ bytesL (mirL l)).length < 256 ^ 8 := by rw [List.length_append] at hl; omega
    have hl3 : (bytesL (mirL l)).length < 256 ^ 8 := by rw [List.length_append] at hl2; omega
    intro y hy
    rcases List.mem_append.1 hy with hy | hy
    · rcases List.mem_append.1 hy with hy | hy
      · exact identT_in a b c a0 a1 b0 y hy
      · exact lenBytes_in _ hl2 y hy
    · rcases List.mem_append.1 hy with hy | hy
      · exact hi.1 y hy
      · exact bytesL_in l hgl hi.2 hl3 y hy
theorem bytesL_in : ∀ l : List S30, goodL (mirL l) = true → inBL l → (bytesL (mirL l)).length < 256 ^ 8 → ∀ y ∈ bytesL (mirL l), 0 ≤ y ∧ y < 256
  | [], _, _, _ => by rw [mirL, bytesL]; intro y hy; cases hy
  | x :: xs, hg, hi, hl => by
    rw [mirL, goodL, Bool.and_eq_true] at hg
    rw [inBL] at hi
    rw [mirL, bytesL] at hl ⊢
    rw [List.length_append] at hl
    intro y hy
    rcases List.mem_append.1 hy with hy | hy
    · exact bytesT_in x hg.1 hi.1 (by omega) y hy
    · exact bytesL_in xs hg.2 hi.2 (by omega) y hy
theorem goodL_of' {a b : Int} {c : Bool} {d : List Int} {l : List S30} (h : good (mir ⟨a, b, c, d, l⟩) = true) : goodL (mirL l) = true := by
  rw [mir, good] at h
  simp only [Bool.and_eq_true] at h
  exact h.2
end
end Go.Proofs.YteockihoefbmdaaGreatDoor.Ber
namespace Go.Proofs.YteockihoefbmdaaGreatDoor.Ber
open Go.RowKit Go.Proofs.YteockihoefbmdaaGreatDoorW.PrintWords Go.Proofs.YteockihoefbmdaaGreatDoorW.PrintLast Go.Proofs.YteockihoefbmdaaGreatDoor.Buf Go.Proofs.YteockihoefbmdaaGreatDoor.Pk Go.Proofs.YteockihoefbmdaaGreatDoor.Tree Go.Proofs.YteockihoefbmdaaGreatDoor.Num Go.Proofs.YteockihoefbmdaaGreatDoor.Ident Go.Proofs.YteockihoefbmdaaGreatDoor.PFnEncode Go.Proofs.YteockihoefbmdaaGreatDoor.Within
set_option linter.unusedVariables false
set_option linter.unusedSimpArgs false

theorem so_bo (s : ByteArray) : strOfNums (bytesOf s) = s := by
  obtain ⟨⟨l⟩⟩ := s
  unfold strOfNums bytesOf
  simp only [List.map_map]
  have e : ((fun n : Int => UInt8.ofNat n.toNat) ∘ fun b : UInt8 => (b.toNat : Int)) = id := by
    funext b
    simp
  rw [e, List.map_id]
theorem bo_in (s : ByteArray) : ∀ y ∈ bytesOf s, 0 ≤ y ∧ y < 256 := by
  intro y hy
  unfold bytesOf at hy
  obtain ⟨b, _, rfl⟩ := List.mem_map.1 hy
  have := b.toNat_lt
  omega
/-- a packet of the reference that the package's decoder reads -/
structure Fine5 (x : S34) : Prop where
  g : good x = true
  t : tsize x ≤ 60000
  d : dpx x ≤ 1000
  k : kp x
  i : inB (pl x)
end Go.Proofs.YteockihoefbmdaaGreatDoor.Ber
namespace Go.Proofs.YteockihoefbmdaaGreatDoor.Ber
open Go.RowKit Go.Proofs.YteockihoefbmdaaGreatDoorW.PrintWords Go.Proofs.YteockihoefbmdaaGreatDoorW.PrintLast Go.Proofs.YteockihoefbmdaaGreatDoor.Buf Go.Proofs.YteockihoefbmdaaGreatDoor.Pk Go.Proofs.YteockihoefbmdaaGreatDoor.Tree Go.Proofs.YteockihoefbmdaaGreatDoor.Num Go.Proofs.YteockihoefbmdaaGreatDoor.Ident Go.Proofs.YteockihoefbmdaaGreatDoor.PFnEncode Go.Proofs.YteockihoefbmdaaGreatDoor.Within
set_option linter.unusedVariables false
set_option linter.unusedSimpArgs false

theorem eof_below {w W : World} {va ua : Addr} (h : EofAt w va ua) (hb : Below w.heap.size w W) : EofAt W va ua := h.keep (S := fun _ => True) h.lt hb.block
theorem read_pl (x : S34) (F : Fine5 x) (W0 W : World) (A3 : Option Addr) (c3 : Nat) (A4 : Option Addr) (c4 : Nat) (h3 : B8.C W0 A3 x.f3.length x.f3) (h4 : k30.C W0 A4 (plL x.f4).length (plL x.f4)) (hb : Below W0.heap.size W0 W) (va ua : Addr) (hE : EofAt W va ua) :
    Calls Tryz.prog 30 #[.agg #[.int .i64 x.f0, .int .i64 x.f1, .bool x.f2, .slice A3 x.f3.length c3, .slice A4 (plL x.f4).length c4]] W fun e w' => ∃ b, e = .returned (.pointer (some ⟨b, 0, none⟩)) ∧ Pt w' b (rdPk x) ∧ Below W.heap.size W w' := by
  have hl : (bytesT x).length ≤ 14 * tsize x := bytesT_le x F.g (by have := F.t; omega)
  have ht := F.t
  have key := read_any W0 (pl x) A3 c3 A4 c4 W (by rw [mir_pl]; exact F.g) (by rw [mir_pl]; omega) (by rw [mir_pl]; exact F.k) (by rw [mir_pl]; exact F.d) (by rw [pl_f3]; exact h3) (by rw [pl_f4]; exact h4) hb va ua hE (by rw [mir_pl]; omega)
    (by
      have := bytesT_in (pl x) (by rw [mir_pl]; exact F.g) F.i (by rw [mir_pl]; exact Nat.lt_of_le_of_lt hl (by omega))
      exact this)
  rw [pl_f0, pl_f1, pl_f2, pl_f3, pl_f4, mir_pl] at key
  refine key.mono ?_
  rintro e w' ⟨b, he, hI, hB⟩
  exact ⟨b, he, pt_of hI, hB⟩
end Go.Proofs.YteockihoefbmdaaGreatDoor.Ber
namespace Go.Proofs.YteockihoefbmdaaGreatDoor.Within
open Go.RowKit Go.Proofs.YteockihoefbmdaaGreatDoorW.PrintWords Go.Proofs.YteockihoefbmdaaGreatDoor.PFnEncode Go.Proofs.YteockihoefbmdaaGreatDoor.Tree Go.Proofs.YteockihoefbmdaaGreatDoor.Buf Go.Proofs.YteockihoefbmdaaGreatDoor.Num
set_option linter.unusedVariables false
set_option linter.unusedSimpArgs false

/-- texts of at most 200 bytes, at most 20 of them -/
def shortT (l : List ByteArray) : Bool := l.all (fun s => decide (s.size ≤ 200)) && decide (l.length ≤ 20)

theorem short_l0 (x0 : List ByteArray) : ∀ (l pre : List ByteArray), pre.length + l.length < 4611686018427387904 → laws_short.l0 (l.length + 1) x0 (pre ++ l) ((pre ++ l).length : Int) (pre.length : Int) = some (l.all (fun s => decide (s.size ≤ 200)) && decide (x0.length ≤ 20)) := by
  intro l
  induction l with
  | nil =>
    intro pre _
    unfold laws_short.l0
    rw [if_neg (by simp)]
    simp
    omega
  | cons s l ih =>
    intro pre hl
    rw [List.length_cons] at hl
    unfold laws_short.l0
    rw [if_pos (by simp; omega), if_pos (by omega), if_pos (by simp; omega)]
    have e : rdOf ByteArray.empty (pre ++ s :: l) (pre.length : Int) = s := by
      unfold rdOf
      simp
    rw [e]
    by_cases hs : (s.size : Int) > 200
    · rw [if_pos hs]
      simp
      omega
    · rw [if_neg hs]
      have e2 : wrap64 ((pre.length : Int) + 1) = ((pre ++ [s]).length : Int) := by
        unfold wrap64
        simp
        omega
      have e3 : pre ++ s :: l = (pre ++ [s]) ++ l := by simp
      rw [e2, e3, List.length_cons, ih (pre ++ [s]) (by simp; omega)]
      have : decide (s.size ≤ 200) = true := by simp; omega
      simp [this]

theorem short_any (l : List ByteArray) (A : Option Addr) (c : Nat) (w : World) (h : Kd.C Kd.string w A l.length l) (hl : l.length ≤ c) (hn : l.length < 1000000) :
    Calls Tryz.prog 7 #[.slice A l.length c] w fun e w' => e = .returned (.bool (shortT l)) ∧ Below w.heap.size w w' := by
  have hs : laws_short.f (l.length + 1) l = some (shortT l) := by
    unfold laws_short.f shortT
    have := short_l0 l l [] (by simp; omega)
    simpa using this
  refine (laws_short.calls _ A c l _ w h hl hs).mono ?_
  rintro e w' ⟨rfl, ⟨nd, rfl⟩⟩
  exact ⟨rfl, pw_below_drewN (Below.refl _ _) _⟩

/-- texts beside each other in a block -/
theorem strs_block {W : World} {n : Nat} {l : List ByteArray} {arr : Array Value} (hb : W.heap[n]? = some (.cells arr 9 (0, 0))) (ha : arr.toList = l.map Value.string) (hm : l.length ≤ 9223372036854775807) : Kd.C Kd.string W (some ⟨n, 0, none⟩) l.length l := by
  refine ⟨rfl, hm, fun _ => ⟨⟨n, 0, none⟩, rfl, fun j p hj => ⟨[.string p], rfl, rfl, fun i u hu => ?_⟩⟩⟩
  have hi : i = 0 := by
    have := (List.getElem?_eq_some_iff.1 hu).1
    simpa using this
  subst hi
  have hu' : Value.string p = u := by simpa using hu
  subst hu'
  have h1 := blk_cell hb j
  rw [← Array.getElem?_toList, ha, List.getElem?_map, hj] at h1
  have e : (Addr.add ⟨n, 0, none⟩ (j * Kd.string.sz + 0)) = ⟨n, j, none⟩ := by
    show Addr.add ⟨n, 0, none⟩ (j * 1 + 0) = _
    unfold Addr.add
    simp
    intros
    omega
  rw [e, h1]
  rfl
end Go.Proofs.YteockihoefbmdaaGreatDoor.Within
namespace Go.Proofs.YteockihoefbmdaaGreatDoor.Ber
open Go.RowKit Go.Proofs.YteockihoefbmdaaGreatDoorW.PrintWords Go.Proofs.YteockihoefbmdaaGreatDoorW.PrintLast Go.Proofs.YteockihoefbmdaaGreatDoor.Buf Go.Proofs.YteockihoefbmdaaGreatDoor.Pk Go.Proofs.YteockihoefbmdaaGreatDoor.Tree Go.Proofs.YteockihoefbmdaaGreatDoor.Num Go.Proofs.YteockihoefbmdaaGreatDoor.Ident Go.Proofs.YteockihoefbmdaaGreatDoor.PFnEncode Go.Proofs.YteockihoefbmdaaGreatDoor.Within
set_option linter.unusedVariables false
set_option linter.unusedSimpArgs false

/-- a pointer to an attribute: its name and its values, read -/
def kE : Kd (ByteArray × List ByteArray) where
  sz := 1
  E := []
  K := fun w x cs => ∃ q A c u, cs = [.pointer (some ⟨q, 0, none⟩)] ∧ w.heap[q]? = some (.cells #[.string x.1, .slice A x.2.length c, u] 113 (0, 0)) ∧ x.2.length ≤ c ∧ Kd.C Kd.string w A x.2.length x.2
  M := fun _ _ _ _ _ => False
  K_len := by
    rintro w x cs ⟨q, A, c, u, rfl, _⟩
    rfl
  K_one := by
    rintro w x cs ⟨q, A, c, u, rfl, _⟩ v hv
    rw [List.mem_singleton.1 hv]
    rfl
  K_below := by
    rintro w w1 x cs hb ⟨q, A, c, u, rfl, h, hl, hc⟩
    exact ⟨q, A, c, u, rfl, blk_below h hb, hl, Kd.C_below hc hb⟩
  K_of_M := fun h => h.elim
  M_mono := fun _ h => h.elim
  M_bound := fun h => h.elim
  M_move := fun _ h => h.elim
  M_lower := fun _ h => h.elim
/-- the row of values, k of them laid -/
def fill (vs : List ByteArray) (k : Nat) : Array Value := ((vs.take k).map Value.string ++ List.replicate (vs.length - k) (Value.string ⟨#[]⟩)).toArray
theorem fill_full (vs : List ByteArray) : (fill vs vs.length).toList = vs.map Value.string := by simp [fill]
theorem fill_none (vs : List ByteArray) : madeCells #[.string ⟨#[]⟩] vs.length = fill vs 0 := by
  unfold fill madeCells
  apply Array.ext'
  simp only [Nat.mod_one, Array.toList_map, Array.toList_range, List.take_zero, List.map_nil, List.nil_append, Nat.sub_zero]
  refine List.eq_replicate_iff.2 ⟨by simp, fun b hb => ?_⟩
  obtain ⟨x, _, rfl⟩ := List.mem_map.1 hb
  simp [Nat.mod_one]
theorem fill_at {vs : List ByteArray} {k : Nat} (hk : k < vs.length) : (fill vs k)[k]? = some (.string ⟨#[]⟩) := by
  unfold fill
  rw [List.getElem?_toArray, List.getElem?_append_right (by rw [List.length_map, List.length_take]; omega), List.length_map, List.length_take, List.getElem?_replicate]
  have : k - min k vs.length = 0 := by omega
  rw [this, if_pos (by omega)]
theorem fill_step {vs : List ByteArray} {k : Nat} (hk : k < vs.length) : (fill vs k).setIfInBounds k (.string vs[k]) = fill vs (k + 1) := by
  unfold fill
  apply Array.ext'
  have e : vs.length - k = (vs.length - (k + 1)) + 1 := by omega
  rw [Array.toList_setIfInBounds, e, List.replicate_succ, List.take_succ_eq_append_getElem hk, List.map_append, List.append_assoc]
  simp only [List.toList_toArray]
  have hl : ((vs.take k).map Value.string).length = k := by rw [List.length_map, List.length_take]; omega
  rw [List.set_append_right _ _ (by rw [hl]; exact Nat.le_refl _), hl]
  simp
/-- one attribute, being filled: its blocks are younger than U -/
structure EIn (U W : World) (ge rv rb : Nat) (nm : ByteArray) (vs : List ByteArray) (k : Nat) : Prop where
  bel : Below U.heap.size U W
  hge : W.heap[ge]? = some (.cells #[.string nm, .slice (some ⟨rv, 0, none⟩) vs.length vs.length, .slice (some ⟨rb, 0, none⟩) vs.length vs.length] 113 (0, 0))
  hrv : W.heap[rv]? = some (.cells (fill vs k) 9 (0, 0))
  hrb : ∃ cb, W.heap[rb]? = some (.cells cb 22 (0, 0)) ∧ cb.size = vs.length
  l1 : U.heap.size ≤ ge
  l2 : U.heap.size ≤ rv
  l3 : U.heap.size ≤ rb
theorem ein_start {U W1 WF W2 : World} {rv rb n : Nat} {nm : ByteArray} {vs : List ByteArray} (hn : n = vs.length) (hU : Below U.heap.size U W1) (hB : Below W1.heap.size W1 WF) (hv : WF.heap[rv]? = some (.cells (madeCells #[.string ⟨#[]⟩] n) 9 (0, 0))) (hc : WF.heap[rb]? = some (.cells (madeCells #[.slice none 0 0] n) 22 (0, 0))) (l1 : W1.heap.size ≤ rv) (l2 : W1.heap.size ≤ rb)
    (hW2 : W2 = WF.alloc (.cells #[.string nm, .slice (some ⟨rv, 0, none⟩) n n, .slice (some ⟨rb, 0, none⟩) n n] 113)) : EIn U W2 WF.heap.size rv rb nm vs 0 := by
  subst hn
  have hb2 : Below WF.heap.size WF W2 := by rw [hW2]; exact below_alloc (Below.refl _ _) _
  have hs := hU.size
  have hs2 := hB.size
  refine ⟨(hU.trans (hB.mono hs)).trans (hb2.mono (by omega)), by rw [hW2]; exact blk_new _ _, ?_, ⟨_, blk_below hc hb2, size_madeCells _ _⟩, by omega, by omega, by omega⟩
  rw [← fill_none]
  exact blk_below hv hb2
theorem EIn.next {U W : World} {ge rv rb : Nat} {nm : ByteArray} {vs : List ByteArray} {k : Nat} (h : EIn U W ge rv rb nm vs k) (hk : k < vs.length) (u : Value) : EIn U (((W.setCell ⟨rb, k, none⟩ u).setCell ⟨rv, k, none⟩ (.string vs[k])).drew) ge rv rb nm vs (k + 1) := by
  obtain ⟨cb, hcb, hsz⟩ := h.hrb
  have n1 : ge ≠ rv := blk_ne h.hge h.hrv (by decide)
  have n2 : ge ≠ rb := blk_ne h.hge hcb (by decide)
  have n3 : rv ≠ rb := blk_ne h.hrv hcb (by decide)
  refine ⟨((h.bel.setCell (p := ⟨rb, k, none⟩) h.l3 _).setCell (p := ⟨rv, k, none⟩) h.l2 _).drew, blk_far (blk_far h.hge (p := ⟨rb, k, none⟩) n2 _) (p := ⟨rv, k, none⟩) n1 _, ?_, ⟨cb.setIfInBounds k u, blk_far (blk_set hcb k u) (p := ⟨rv, k, none⟩) n3.symm _, by simpa using hsz⟩, h.l1, h.l2, h.l3⟩
  have := blk_set (blk_far h.hrv (p := ⟨rb, k, none⟩) n3 u) k (.string vs[k])
  rw [fill_step hk] at this
  exact this
/-- a filled attribute is read -/
theorem EIn.fk {U W : World} {ge rv rb : Nat} {nm : ByteArray} {vs : List ByteArray} (h : EIn U W ge rv rb nm vs vs.length) (hm : vs.length ≤ 9223372036854775807) : Kd.FK kE W (fun q => U.heap.size ≤ q) (nm, vs) [.pointer (some ⟨ge, 0, none⟩)] := by
  intro W' hW
  have hge := (hW ge h.l1 (blk_lt h.hge)).trans h.hge
  have hrv := (hW rv h.l2 (blk_lt h.hrv)).trans h.hrv
  exact ⟨ge, _, _, _, rfl, hge, Nat.le_refl _, strs_block hrv (fill_full vs) hm⟩
/-- an attribute of an entry, decoded -/
structure IsAttr (y n0 v0 : Pk) (a : ByteArray × List ByteArray) : Prop where
  y0 : y.kids[0]? = some n0
  y1 : y.kids[1]? = some v0
  ny : y.kids.length ≤ 1000000
  vn : n0.val = strV a.1
  ln : v0.kids.length = a.2.length
  nv : v0.kids.length ≤ 1000000
  vv : ∀ (j : Nat) (z : Pk) (s : ByteArray), v0.kids[j]? = some z → a.2[j]? = some s → z.val = strV s
/-- an empty row with room -/
theorem N_room {α : Type} {d : Kd α} {e n : Nat} {W : World} {g base : Nat} {ok : Nat → Prop} {arr : Array Value} (hb : W.heap[g]? = some (.cells arr e (0, 0))) (ha : arr.size = n * d.sz) (hn : n ≤ maxLen) (hbg : base ≤ g) (hok : ok g) : Kd.N d e W base ok (.slice (some ⟨g, 0, none⟩) 0 n) [] := by
  refine ⟨fun k hk => ?_, [], rfl, ⟨fun k hk => hk.symm, [], ?_, Reps.none _ _⟩, fun j x c h1 _ => by simp at h1⟩
  · have : g = k := by simpa [Value.ownBlock] using hk
    rw [← this]
    exact hok
  · exact ⟨by simp, .inr ⟨g, n, arr, rfl, hbg, hb, Nat.zero_le _, hn, ha, by simp⟩⟩
theorem inf_E : (Tryz.prog.info? 111).map (fun i => (i.zero, i.size, i.bytes)) = some (some (.pointer none), 1, 8) := by kernel_rfl
theorem inf_S : (Tryz.prog.info? 9).map (fun i => (i.zero, i.size, i.bytes)) = some (some (.string ⟨#[]⟩), 1, 16) := by kernel_rfl
theorem inf_B : (Tryz.prog.info? 22).map (fun i => (i.zero, i.size, i.bytes)) = some (some (.slice none 0 0), 1, 24) := by kernel_rfl
theorem mk_rowE (n : Nat) (hn : n ≤ 1000000) (w : World) : (Instr.makeSlice 108 (.int .i64 0) (.int .i64 (n : Int))).run Tryz.prog w = .ok (.slice (some ⟨w.heap.size, 0, none⟩) 0 n) (w.alloc (.cells (madeCells #[.pointer none] n) 111)) := by
  obtain ⟨i, hi, hzz⟩ := Option.map_eq_some_iff.1 inf_E
  simp only [Prod.mk.injEq] at hzz
  obtain ⟨hz, hs, hb⟩ := hzz
  have := run_make (P := Tryz.prog) w 108 111 i (.pointer none) Tryz.underlying108 hi hz .i64 .i64 0 (n : Int) (Int.le_refl _) (by omega) (by rw [hb]; omega) (by omega)
  rw [hs] at this
  simpa [Value.cells] using this
theorem mk_rowS (n : Nat) (hn : n ≤ 1000000) (w : World) : (Instr.makeSlice 25 (.int .i64 (n : Int)) (.int .i64 (n : Int))).run Tryz.prog w = .ok (.slice (some ⟨w.heap.size, 0, none⟩) n n) (w.alloc (.cells (madeCells #[.string ⟨#[]⟩] n) 9)) := run_make_row' 25 9 _ 16 Tryz.underlying25 inf_S rfl .i64 .i64 n (by omega) (by omega) w
theorem mk_rowB (n : Nat) (hn : n ≤ 1000000) (w : World) : (Instr.makeSlice 56 (.int .i64 (n : Int)) (.int .i64 (n : Int))).run Tryz.prog w = .ok (.slice (some ⟨w.heap.size, 0, none⟩) n n) (w.alloc (.cells (madeCells #[.slice none 0 0] n) 22)) := run_make_row' 56 22 _ 24 Tryz.underlying56 inf_B rfl .i64 .i64 n (by omega) (by omega) w
set_option maxHeartbeats 6400000 in
set_option maxRecDepth 100000 in
theorem unpackAttr {w : World} {b : Nat} {x : Pk} (h : Pt w b x) (l : List (ByteArray × List ByteArray)) (hl : x.kids.length = l.length) (hn : x.kids.length ≤ 1000000) (ha : ∀ (j : Nat) (y : Pk) (a : ByteArray × List ByteArray), x.kids[j]? = some y → l[j]? = some a → ∃ n0 v0, IsAttr y n0 v0 a) (A : Option Addr) (c : Nat) (c6 : w.cell? ⟨b, 6, none⟩ = some (.slice A x.kids.length c)) :
    Calls Tryz.prog 96 #[.slice A x.kids.length c] w fun e w' => ∃ A5 c5, e = .returned (.tuple #[.slice A5 l.length c5, .nilIface]) ∧ Kd.F kE w' (fun q => w.heap.size ≤ q) A5 l.length l ∧ Below w.heap.size w w' := by
  have HX := Lib.hid h
  have HA := Lib.hid ha
  have HC6 := Lib.hid c6
  obtain ⟨N, hN⟩ : ∃ N, N = x.kids.length := ⟨_, rfl⟩
  have HNN := Lib.hid hN
  rw [← hN] at hn HC6 hl ⊢
  have hmkE := mk_rowE N hn
  have HLN := Lib.hid hl
  clear ha h c6 hN hl
  go_enter Tryz.func96, Tryz.ntmps96
  go_wp2
  obtain ⟨W0, hW0⟩ : ∃ W0, W0 = w.alloc (.cells (madeCells #[.pointer none] N) 111) := ⟨_, rfl⟩
  rw [← hW0]
  have hb0 : Below w.heap.size w W0 := by rw [hW0]; exact below_alloc (Below.refl _ _) _
  have HN0 : Hid (Kd.N kE 111 W0 w.heap.size (fun q => w.heap.size ≤ q) (.slice (some ⟨w.heap.size, 0, none⟩) 0 N) []) := Lib.hid (N_room (by rw [hW0]; exact blk_new _ _) (by rw [size_madeCells]; show N = N * 1; omega) (by unfold maxLen; omega) (Nat.le_refl _) (Nat.le_refl _))
  have HB0 := Lib.hid hb0
  clear hW0 hb0 hmkE
  go_loopw [22, 4] (fun i ev wr => ∃ k : Nat, i = .int .i64 k ∧ k ≤ N ∧ Hid (Kd.N kE 111 wr w.heap.size (fun q => w.heap.size ≤ q) ev (l.take k)) ∧ Hid (Below w.heap.size w wr)) (fun i _ _ => N - (intOf i).toNat)
  case atStart => exact ⟨0, rfl, Nat.zero_le _, HN0, HB0⟩
  case round =>
    clear HN0 HB0
    obtain ⟨U, rfl⟩ : ∃ U, U = wr := ⟨_, rfl⟩
    obtain ⟨K, rfl, hK, HNr, HBr⟩ := hrel
    by_cases hlt : K < N
    · obtain ⟨ad, cap, qy, e6, eqw, hqw⟩ := pt_kid HX.out (k := K) (by rw [← HNN.out]; exact hlt)
      have e6' : some (Value.slice (some ⟨ad, 0, none⟩) x.kids.length cap) = some (Value.slice A N c) := e6.symm.trans HC6.out
      have eA : A = some ⟨ad, 0, none⟩ := by
        injection e6' with e6'
        injection e6' with e1 e2 e3
        exact e1.symm
      subst eA
      have eq : U.cell? ⟨ad, K, none⟩ = some (.pointer (some ⟨qy, 0, none⟩)) := (World.cell?_of_block (a := ⟨ad, K, none⟩) (HBr.out.block _ (World.block_lt_of_cell? w _ eqw))).trans eqw
      have hKl : K < l.length := by rw [← HLN.out]; exact hlt
      obtain ⟨n0, v0, hA⟩ := HA.out K _ _ (List.getElem?_eq_getElem (by rw [← HNN.out]; exact hlt)) (List.getElem?_eq_getElem hKl)
      have hy := hqw.below HBr.out
      have HST : Hid (l.take K ++ [l[K]] = l.take (K + 1)) := Lib.hid (List.take_succ_eq_append_getElem hKl).symm
      have HTL : Hid ((l.take K).length ≤ 1000000) := Lib.hid (by rw [List.length_take]; have := HLN.out; omega)
      obtain ⟨a, haa⟩ : ∃ a, a = l[K] := ⟨_, rfl⟩
      rw [← haa] at hA HST
      obtain ⟨acc, hacc⟩ : ∃ z, z = l.take K := ⟨_, rfl⟩
      rw [← hacc] at HST HNr HTL
      obtain ⟨nm, vs⟩ := a
      have HCa : Hid (Calls Tryz.prog 78 #[.pointer (some ⟨qy, 0, none⟩), .int .i64 0] U fun e w' => ∃ q, e = .returned (.tuple #[.pointer (some ⟨q, 0, none⟩), .nilIface]) ∧ Pt U q n0 ∧ U = w') := Lib.hid (child_any hy 0 hA.y0 hA.ny)
      have HCb : Hid (Calls Tryz.prog 78 #[.pointer (some ⟨qy, 0, none⟩), .int .i64 1] U fun e w' => ∃ q, e = .returned (.tuple #[.pointer (some ⟨q, 0, none⟩), .nilIface]) ∧ Pt U q v0 ∧ U = w') := Lib.hid (child_any hy 1 hA.y1 hA.ny)
      have HPS : Hid (∀ q, Pt U q n0 → Calls Tryz.prog 79 #[.pointer (some ⟨q, 0, none⟩)] U fun e w' => e = .returned (.tuple #[.string nm, .nilIface]) ∧ U = w') := Lib.hid (fun q hq => pstr_any hq nm hA.vn)
      have HVV : Hid (∀ (j : Nat) (z : Pk) (s : ByteArray), v0.kids[j]? = some z → vs[j]? = some s → z.val = strV s) := Lib.hid hA.vv
      obtain ⟨n, hnv⟩ : ∃ n, n = v0.kids.length := ⟨_, rfl⟩
      have HNK := Lib.hid hnv
      have HNV : Hid (n = vs.length) := Lib.hid (hnv.trans hA.ln)
      have hn9 : n ≤ 1000000 := by rw [hnv]; exact hA.nv
      have hmkS := mk_rowS n hn9
      have hmkB := mk_rowB n hn9
      have HDR : Hid (Below U.heap.size U U.drew) := Lib.hid (Below.refl _ _).drew
      clear e6 e6' eqw hqw hA hy haa hacc hnv
      go_upto_region 17 with (first
        | (go_at_call 78
           first
           | (with_reducible refine HCa.out.mono ?_
              rintro e w1 ⟨q0, rfl, hq0, rfl⟩
              have HP0 := Lib.hid (HPS.out q0 hq0)
              clear hq0)
           | (with_reducible refine HCb.out.mono ?_
              rintro e w1 ⟨q1, rfl, hq1, rfl⟩
              obtain ⟨_, _, _, _, Av, cv, c61⟩ := pt_top hq1
              rw [← HNK.out] at c61
              have HQ1 := Lib.hid hq1
              have HC61 := Lib.hid c61
              clear hq1))
        | (go_at_call 79
           with_reducible refine HP0.out.mono ?_
           rintro e w1 ⟨rfl, rfl⟩))
      refine start_ (n := 10) (S := fun w' => True) (ds := []) #[nN,nN,nN,nN,nN,nN,nN,nN,nN,nN] (by kernel_rfl) rfl rfl trivial (fun hHeld => ?_)
      obtain ⟨W1, hW1⟩ : ∃ W1, W1 = U.drew := ⟨_, rfl⟩
      rw [← hW1] at HDR ⊢
      clear hW1
      refine pure_ (i := 0) (N := some 67) (v := ?_) (a' := ?_) #[yY,nN,nN,nN,nN,nN,nN,nN,nN,nN] rfl rfl (by kernel_rfl) (fun _ _ _ h => h) (Or.inl ⟨by rfl, ?_⟩) ?_ ?_
      rotate_left
      · intro w'
        go_simp
        with_reducible rfl
      rotate_left
      · simp only [Act.put, List.setIfInBounds_toArray, List.set_cons_zero, List.set_cons_succ, i64_w, i32_w]
        rfl
      refine pure_ (i := 1) (N := some 68) (v := ?_) (a' := ?_) #[yY,yY,nN,nN,nN,nN,nN,nN,nN,nN] rfl rfl (by kernel_rfl) (fun _ _ _ h => h) (Or.inl ⟨by rfl, ?_⟩) ?_ ?_
      rotate_left
      · intro w'
        go_simp
        with_reducible rfl
      rotate_left
      · simp only [Act.put, List.setIfInBounds_toArray, List.set_cons_zero, List.set_cons_succ, i64_w, i32_w]
        rfl
      refine pure_ (i := 2) (N := some 69) (v := ?_) (a' := ?_) #[yY,yY,yY,nN,nN,nN,nN,nN,nN,nN] rfl rfl (by kernel_rfl) (fun _ _ _ h => h) (Or.inl ⟨by rfl, ?_⟩) ?_ ?_
      rotate_left
      · intro w'
        go_simp
        with_reducible rfl
      rotate_left
      · simp only [Act.put, List.setIfInBounds_toArray, List.set_cons_zero, List.set_cons_succ, i64_w, i32_w]
        rfl
      refine pure_ (i := 4) (N := some 71) (v := ?_) (a' := ?_) #[yY,yY,yY,nN,yY,nN,nN,nN,nN,nN] rfl rfl (by kernel_rfl) (fun _ _ _ h => h) (Or.inl ⟨by rfl, ?_⟩) ?_ ?_
      rotate_left
      · intro w'
        go_simp
        with_reducible rfl
      rotate_left
      · simp only [Act.put, List.setIfInBounds_toArray, List.set_cons_zero, List.set_cons_succ, i64_w, i32_w]
        rfl
      refine pure_ (i := 5) (N := some 72) (v := ?_) (a' := ?_) #[yY,yY,yY,nN,yY,yY,nN,nN,nN,nN] rfl rfl (by kernel_rfl) (fun _ _ _ h => h) (Or.inl ⟨by rfl, ?_⟩) ?_ ?_
      rotate_left
      · intro w'
        go_simp
        with_reducible rfl
      rotate_left
      · simp only [Act.put, List.setIfInBounds_toArray, List.set_cons_zero, List.set_cons_succ, i64_w, i32_w]
        rfl
      refine join_ (σ := Nat × Nat) 3 #[yY,yY,yY,yY,yY,yY,yY,nN,nN,nN] (fun z => [(70, .slice (some ⟨z.1, 0, none⟩) n n), (73, .slice (some ⟨z.2, 0, none⟩) n n)]) (fun z w' => Below W1.heap.size W1 w' ∧ w'.heap[z.1]? = some (.cells (madeCells #[.string ⟨#[]⟩] n) 9 (0, 0)) ∧ w'.heap[z.2]? = some (.cells (madeCells #[.slice none 0 0] n) 22 (0, 0)) ∧ W1.heap.size ≤ z.1 ∧ W1.heap.size ≤ z.2) ?_ ?_
      rotate_left
      · intro hCont
        refine two_ (i := 3) (j := 6) (Ni := some 70) (Nj := some 73) #[yY,yY,yY,yY,yY,yY,nN,nN,nN,nN] #[yY,yY,yY,nN,yY,yY,yY,nN,nN,nN] rfl rfl rfl rfl (by kernel_rfl) (by decide) (by decide) (fun K hK => ?_) (fun K hK => ?_)
        · skip
          refine value_ (w1 := ?_) (v := ?_) (by rfl) rfl ?_ ?_
          rotate_left 2
          · go_simp
            constructor
            · rfl
            · rfl
          obtain ⟨Wv, hWv⟩ : ∃ W, W = W1.alloc (.cells (madeCells #[.string ⟨#[]⟩] n) 9) := ⟨_, rfl⟩
          rw [← hWv]
          have hBv : Below W1.heap.size W1 Wv := by rw [hWv]; exact below_alloc (Below.refl _ _) _
          have HBv := Lib.hid (hBv)
          have HVv : Hid (Wv.heap[W1.heap.size]? = some (.cells (madeCells #[.string ⟨#[]⟩] n) 9 (0, 0))) := Lib.hid (by rw [hWv]; exact blk_new _ _)
          clear hWv hBv
          refine hK.out _ _ trivial (fun hHeld => ?_)
          clear hK K
          refine norm_ (a' := ?_) ?_ ?_
          rotate_left
          · show Act.put _ (some 70) _ = _
            simp only [Act.put, List.setIfInBounds_toArray, List.set_cons_zero, List.set_cons_succ, i64_w, i32_w]
            rfl
          refine one_ (i := 6) (N := some 73) #[yY,yY,yY,yY,yY,yY,yY,nN,nN,nN] rfl rfl (by kernel_rfl) (by decide) (fun K hK => ?_)
          refine value_ (w1 := ?_) (v := ?_) (by rfl) rfl ?_ ?_
          rotate_left 2
          · go_simp
            constructor
            · rfl
            · rfl
          obtain ⟨Wvb, hWvb⟩ : ∃ W, W = Wv.alloc (.cells (madeCells #[.slice none 0 0] n) 22) := ⟨_, rfl⟩
          rw [← hWvb]
          have hBvb : Below Wv.heap.size Wv Wvb := by rw [hWvb]; exact below_alloc (Below.refl _ _) _
          have HBvb := Lib.hid (HBv.out.trans (hBvb.mono HBv.out.size))
          have HCvb : Hid (Wvb.heap[Wv.heap.size]? = some (.cells (madeCells #[.slice none 0 0] n) 22 (0, 0))) := Lib.hid (by rw [hWvb]; exact blk_new _ _)
          have HVvb := Lib.hid (blk_below HVv.out hBvb)
          clear hWvb hBvb
          refine hK.out _ _ trivial (fun hHeld => ?_)
          clear hK K
          refine norm_ (a' := ?_) ?_ ?_
          rotate_left
          · show Act.put _ (some 73) _ = _
            simp only [Act.put, List.setIfInBounds_toArray, List.set_cons_zero, List.set_cons_succ, i64_w, i32_w]
            rfl
          exact norm_ (by simp only [putAll, Act.put, List.setIfInBounds_toArray, List.set_cons_zero, List.set_cons_succ]) (hCont (W1.heap.size, Wv.heap.size) _ ⟨HBvb.out, HVvb.out, HCvb.out, Nat.le_refl _, HBv.out.size⟩)
        · skip
          refine value_ (w1 := ?_) (v := ?_) (by rfl) rfl ?_ ?_
          rotate_left 2
          · go_simp
            constructor
            · rfl
            · rfl
          obtain ⟨Wb, hWb⟩ : ∃ W, W = W1.alloc (.cells (madeCells #[.slice none 0 0] n) 22) := ⟨_, rfl⟩
          rw [← hWb]
          have hBb : Below W1.heap.size W1 Wb := by rw [hWb]; exact below_alloc (Below.refl _ _) _
          have HBb := Lib.hid (hBb)
          have HCb : Hid (Wb.heap[W1.heap.size]? = some (.cells (madeCells #[.slice none 0 0] n) 22 (0, 0))) := Lib.hid (by rw [hWb]; exact blk_new _ _)
          clear hWb hBb
          refine hK.out _ _ trivial (fun hHeld => ?_)
          clear hK K
          refine norm_ (a' := ?_) ?_ ?_
          rotate_left
          · show Act.put _ (some 73) _ = _
            simp only [Act.put, List.setIfInBounds_toArray, List.set_cons_zero, List.set_cons_succ, i64_w, i32_w]
            rfl
          refine one_ (i := 3) (N := some 70) #[yY,yY,yY,yY,yY,yY,yY,nN,nN,nN] rfl rfl (by kernel_rfl) (by decide) (fun K hK => ?_)
          refine value_ (w1 := ?_) (v := ?_) (by rfl) rfl ?_ ?_
          rotate_left 2
          · go_simp
            constructor
            · rfl
            · rfl
          obtain ⟨Wbv, hWbv⟩ : ∃ W, W = Wb.alloc (.cells (madeCells #[.string ⟨#[]⟩] n) 9) := ⟨_, rfl⟩
          rw [← hWbv]
          have hBbv : Below Wb.heap.size Wb Wbv := by rw [hWbv]; exact below_alloc (Below.refl _ _) _
          have HBbv := Lib.hid (HBb.out.trans (hBbv.mono HBb.out.size))
          have HVbv : Hid (Wbv.heap[Wb.heap.size]? = some (.cells (madeCells #[.string ⟨#[]⟩] n) 9 (0, 0))) := Lib.hid (by rw [hWbv]; exact blk_new _ _)
          have HCbv := Lib.hid (blk_below HCb.out hBbv)
          clear hWbv hBbv
          refine hK.out _ _ trivial (fun hHeld => ?_)
          clear hK K
          refine norm_ (a' := ?_) ?_ ?_
          rotate_left
          · show Act.put _ (some 70) _ = _
            simp only [Act.put, List.setIfInBounds_toArray, List.set_cons_zero, List.set_cons_succ, i64_w, i32_w]
            rfl
          exact norm_ (by simp only [putAll, Act.put, List.setIfInBounds_toArray, List.set_cons_zero, List.set_cons_succ]) (hCont (Wb.heap.size, W1.heap.size) _ ⟨HBbv.out, HVbv.out, HCbv.out, HBb.out.size, Nat.le_refl _⟩)
      rintro ⟨rv, rb⟩ WF ⟨hBF, hVF, hCF, hl1, hl2⟩
      have HBF := Lib.hid hBF
      have HVF := Lib.hid hVF
      have HCF := Lib.hid hCF
      have HLF := Lib.hid (And.intro hl1 hl2)
      clear hBF hVF hCF hl1 hl2
      have hHeld : True := trivial
      refine norm_ (a' := ?_) ?_ ?_
      rotate_left
      · simp only [putAll, Act.put, List.setIfInBounds_toArray, List.set_cons_zero, List.set_cons_succ]
        rfl
      refine pure_ (i := 7) (N := some 74) (v := ?_) (a' := ?_) #[yY,yY,yY,yY,yY,yY,yY,yY,nN,nN] rfl rfl (by kernel_rfl) (fun _ _ _ h => h) (Or.inl ⟨by rfl, ?_⟩) ?_ ?_
      rotate_left
      · intro w'
        go_simp
        with_reducible rfl
      rotate_left
      · simp only [Act.put, List.setIfInBounds_toArray, List.set_cons_zero, List.set_cons_succ, i64_w, i32_w]
        rfl
      refine one_ (i := 8) (N := some 75) #[yY,yY,yY,yY,yY,yY,yY,yY,yY,nN] rfl rfl (by kernel_rfl) (by decide) (fun K hK => ?_)
      refine value_ (w1 := ?_) (v := ?_) (by rfl) rfl ?_ ?_
      rotate_left 2
      · go_simp
        constructor
        · rfl
        · rfl
      obtain ⟨W2, hW2⟩ : ∃ W2, W2 = WF.alloc (.cells #[.string nm, .slice (some ⟨rv, 0, none⟩) n n, .slice (some ⟨rb, 0, none⟩) n n] 113) := ⟨_, rfl⟩
      rw [← hW2]
      have hb2 : Below WF.heap.size WF W2 := by rw [hW2]; exact below_alloc (Below.refl _ _) _
      have HE2 : Hid (EIn U W2 WF.heap.size rv rb nm vs 0) := Lib.hid (ein_start HNV.out HDR.out HBF.out HVF.out HCF.out HLF.out.1 HLF.out.2 hW2)
      clear hW2 hb2
      refine hK.out _ _ trivial (fun hHeld => ?_)
      clear hK K
      refine norm_ (a' := ?_) ?_ ?_
      rotate_left
      · show Act.put _ (some 75) _ = _
        simp only [Act.put, List.setIfInBounds_toArray, List.set_cons_zero, List.set_cons_succ, i64_w, i32_w]
        rfl
      refine pure_ (i := 9) (N := some 12) (v := ?_) (a' := ?_) #[yY,yY,yY,yY,yY,yY,yY,yY,yY,yY] rfl rfl (by kernel_rfl) (fun _ _ _ h => h) (Or.inl ⟨by rfl, ?_⟩) ?_ ?_
      rotate_left
      · intro w'
        go_simp
        with_reducible rfl
      rotate_left
      · simp only [Act.put, List.setIfInBounds_toArray, List.set_cons_zero, List.set_cons_succ, i64_w, i32_w]
        rfl
      refine done_ (by kernel_rfl) ?_
      clear HBF HVF HCF HLF hHeld
      obtain ⟨ge, hge9⟩ : ∃ g, g = WF.heap.size := ⟨_, rfl⟩
      rw [← hge9] at HE2 ⊢
      clear hge9
      go_wp2
      go_loopw [78] (fun i wr2 => ∃ k : Nat, i = .int .i64 k ∧ k ≤ n ∧ Hid (EIn U wr2 ge rv rb nm vs k)) (fun i _ => n - (intOf i).toNat)
      case atStart => exact ⟨0, rfl, Nat.zero_le _, HE2⟩
      case round =>
        clear HE2
        obtain ⟨k, rfl, hk, HI⟩ := hrel
        by_cases hlt2 : k < n
        · obtain ⟨ad2, cap2, q, e62, eq2, hq2⟩ := pt_kid HQ1.out (k := k) (by rw [← HNK.out]; exact hlt2)
          have e62' : some (Value.slice (some ⟨ad2, 0, none⟩) v0.kids.length cap2) = some (Value.slice Av n cv) := e62.symm.trans HC61.out
          have eA2 : Av = some ⟨ad2, 0, none⟩ := by
            injection e62' with e62'
            injection e62' with e1 e2 e3
            exact e1.symm
          subst eA2
          have eqr : wr.cell? ⟨ad2, k, none⟩ = some (.pointer (some ⟨q, 0, none⟩)) := (World.cell?_of_block (a := ⟨ad2, k, none⟩) (HI.out.bel.block _ (World.block_lt_of_cell? U _ eq2))).trans eq2
          have hkv : k < vs.length := by rw [← HNV.out]; exact hlt2
          have hval := HVV.out k _ _ (List.getElem?_eq_getElem (by rw [← HNK.out]; exact hlt2)) (List.getElem?_eq_getElem hkv)
          have hqr := hq2.below HI.out.bel
          have HPV := Lib.hid (pstr_any hqr vs[k] hval)
          obtain ⟨db4, v4, bvv, cv4, P4⟩ := parts_of hqr
          obtain ⟨Ab, cb4, hbv⟩ := Kd.R_slice P4.rb
          subst hbv
          have b4 : wr.drew.cell? ⟨q, 4, none⟩ = some (.slice Ab _ cb4) := P4.cell 4
          obtain ⟨nb4, hnb4⟩ : ∃ m, wr.drew.cell? ⟨q, 4, none⟩ = some (.slice Ab m cb4) := ⟨_, b4⟩
          have HB4 := Lib.hid hnb4
          clear b4 hnb4
          obtain ⟨cb, hcb, hcbs⟩ := HI.out.hrb
          have HNX : Hid (∀ u, EIn U (((wr.setCell ⟨rb, k, none⟩ u).setCell ⟨rv, k, none⟩ (.string vs[k])).drew) ge rv rb nm vs (k + 1)) := Lib.hid (fun u => HI.out.next hkv u)
          have hx1 : ∃ z, wr.cell? ⟨rb, k, none⟩ = some z := ⟨cb[k], by rw [blk_cell hcb k, Array.getElem?_eq_getElem]⟩
          obtain ⟨zb, r0⟩ := hx1
          have rf0 := blk_frozen hcb k
          have nrb : rv ≠ rb := blk_ne HI.out.hrv hcb (by decide)
          have ngb : ge ≠ rb := blk_ne HI.out.hge hcb (by decide)
          have hv3 : ∀ u, (wr.setCell ⟨rb, k, none⟩ u).heap[rv]? = some (.cells (fill vs k) 9 (0, 0)) := fun u => blk_far HI.out.hrv (p := ⟨rb, k, none⟩) nrb u
          have r1 : ∀ u, (wr.setCell ⟨rb, k, none⟩ u).cell? ⟨rv, k, none⟩ = some (.string ⟨#[]⟩) := fun u => (blk_cell (hv3 u) k).trans (fill_at hkv)
          have rf1 : ∀ u, (wr.setCell ⟨rb, k, none⟩ u).frozen? ⟨rv, k, none⟩ = false := fun u => blk_frozen (hv3 u) k
          have r2 : ∀ u, (wr.setCell ⟨rb, k, none⟩ u).cell? ⟨ge, 1, none⟩ = some (.slice (some ⟨rv, 0, none⟩) n n) := fun u => by
            rw [HNV.out]
            exact blk_cell (blk_far HI.out.hge (p := ⟨rb, k, none⟩) ngb u) 1
          have g2 : wr.cell? ⟨ge, 2, none⟩ = some (.slice (some ⟨rb, 0, none⟩) n n) := by
            rw [HNV.out]
            exact blk_cell HI.out.hge 2
          obtain ⟨s, hs⟩ : ∃ s, s = vs[k] := ⟨_, rfl⟩
          rw [← hs] at HPV HNX
          clear hs e62 e62' eq2 hval hqr hq2 P4 hcb hcbs hv3 nrb ngb
          go_upto_region 26 with (go_at_call 79
                                  with_reducible refine HPV.out.mono ?_
                                  rintro e w1 ⟨rfl, rfl⟩)
          refine start_ (n := 11) (S := fun w' => w'.cell? ⟨ge, 2, none⟩ = some (.slice (some ⟨rb, 0, none⟩) n n) ∧ w'.cell? ⟨q, 4, none⟩ = some (.slice Ab nb4 cb4)) (ds := [10]) #[nN,nN,nN,nN,nN,nN,nN,nN,nN,nN,nN] (by kernel_rfl) rfl rfl ⟨g2, HB4.out⟩ (fun hHeld => ?_)
          refine pure_ (i := 0) (N := some 105) (v := ?_) (a' := ?_) #[yY,nN,nN,nN,nN,nN,nN,nN,nN,nN,nN] rfl rfl (by kernel_rfl) (fun _ _ _ h => h) (Or.inl ⟨by rfl, ?_⟩) ?_ ?_
          rotate_left
          · intro w'
            go_simp
            with_reducible rfl
          rotate_left
          · simp only [Act.put, List.setIfInBounds_toArray, List.set_cons_zero, List.set_cons_succ, i64_w, i32_w]
            rfl
          refine pure_ (i := 1) (N := some 106) (v := ?_) (a' := ?_) #[yY,yY,nN,nN,nN,nN,nN,nN,nN,nN,nN] rfl rfl (by kernel_rfl) (fun _ _ _ h => h) (Or.inl ⟨by rfl, ?_⟩) ?_ ?_
          rotate_left
          · intro w'
            go_simp
            with_reducible rfl
          rotate_left
          · simp only [Act.put, List.setIfInBounds_toArray, List.set_cons_zero, List.set_cons_succ, i64_w, i32_w]
            rfl
          refine pure_ (i := 2) (N := some 107) (v := ?_) (a' := ?_) #[yY,yY,yY,nN,nN,nN,nN,nN,nN,nN,nN] rfl rfl (by kernel_rfl) (fun _ _ _ h => h) (Or.inl ⟨by rfl, ?_⟩) ?_ ?_
          rotate_left
          · intro w'
            go_simp
            with_reducible rfl
          rotate_left
          · simp only [Act.put, List.setIfInBounds_toArray, List.set_cons_zero, List.set_cons_succ, i64_w, i32_w]
            rfl
          refine pure_ (i := 4) (N := some 109) (v := ?_) (a' := ?_) #[yY,yY,yY,nN,yY,nN,nN,nN,nN,nN,nN] rfl rfl (by kernel_rfl) (fun _ _ _ h => h) (Or.inl ⟨by rfl, ?_⟩) ?_ ?_
          rotate_left
          · intro w'
            go_simp
            with_reducible rfl
          rotate_left
          · simp only [Act.put, List.setIfInBounds_toArray, List.set_cons_zero, List.set_cons_succ, i64_w, i32_w]
            rfl
          refine pure_ (i := 5) (N := some 110) (v := ?_) (a' := ?_) #[yY,yY,yY,nN,yY,yY,nN,nN,nN,nN,nN] rfl rfl (by kernel_rfl) (fun _ _ _ h => h) (Or.inl ⟨by rfl, ?_⟩) ?_ ?_
          rotate_left
          · intro w'
            go_simp
            with_reducible rfl
          rotate_left
          · simp only [Act.put, List.setIfInBounds_toArray, List.set_cons_zero, List.set_cons_succ, i64_w, i32_w]
            rfl
          refine pure_ (i := 6) (N := some 111) (v := ?_) (a' := ?_) #[yY,yY,yY,nN,yY,yY,yY,nN,nN,nN,nN] rfl rfl (by kernel_rfl) (fun _ _ _ h => h) (Or.inl ⟨by rfl, ?_⟩) ?_ ?_
          rotate_left
          · intro w'
            go_simp
            with_reducible rfl
          rotate_left
          · simp only [Act.put, List.setIfInBounds_toArray, List.set_cons_zero, List.set_cons_succ, i64_w, i32_w]
            rfl
          refine pure_ (i := 7) (N := some 112) (v := ?_) (a' := ?_) #[yY,yY,yY,nN,yY,yY,yY,yY,nN,nN,nN] rfl rfl (by kernel_rfl) (fun _ _ _ h => h) (Or.inl ⟨by rfl, ?_⟩) ?_ ?_
          rotate_left
          · intro w'
            go_simp
            with_reducible rfl
          rotate_left
          · simp only [Act.put, List.setIfInBounds_toArray, List.set_cons_zero, List.set_cons_succ, i64_w, i32_w]
            rfl
          refine take_ (i := 3) (N := some 108) (v := ?_) (a' := ?_) #[yY,yY,yY,yY,yY,yY,yY,yY,nN,nN,nN] rfl rfl (by kernel_rfl) (fun _ _ _ h => h) (Or.inl ⟨by rfl, ?_⟩) hHeld ?_ ?_
          rotate_left
          · rintro w' ⟨s0, s1⟩
            go_simp
            with_reducible rfl
          rotate_left
          · simp only [Act.put, List.setIfInBounds_toArray, List.set_cons_zero, List.set_cons_succ, i64_w, i32_w]
            rfl
          refine take_ (i := 8) (N := some 113) (v := ?_) (a' := ?_) #[yY,yY,yY,yY,yY,yY,yY,yY,yY,nN,nN] rfl rfl (by kernel_rfl) (fun _ _ _ h => h) (Or.inl ⟨by rfl, ?_⟩) hHeld ?_ ?_
          rotate_left
          · rintro w' ⟨s0, s1⟩
            go_simp
            with_reducible rfl
          rotate_left
          · simp only [Act.put, List.setIfInBounds_toArray, List.set_cons_zero, List.set_cons_succ, i64_w, i32_w]
            rfl
          refine pure_ (i := 9) (N := some 114) (v := ?_) (a' := ?_) #[yY,yY,yY,yY,yY,yY,yY,yY,yY,yY,nN] rfl rfl (by kernel_rfl) (fun _ _ _ h => h) (Or.inl ⟨by rfl, ?_⟩) ?_ ?_
          rotate_left
          · intro w'
            go_simp
            with_reducible rfl
          rotate_left
          · simp only [Act.put, List.setIfInBounds_toArray, List.set_cons_zero, List.set_cons_succ, i64_w, i32_w]
            rfl
          refine last_ (i := 10) (N := none) #[yY,yY,yY,yY,yY,yY,yY,yY,yY,yY,yY] rfl rfl (by kernel_rfl) (by decide) (fun K hK => ?_)
          refine skip_ (w1 := ?_) (by rfl) rfl ?_ ?_
          rotate_left
          · go_simp
            rfl
          refine hK.out _ _ ?_
          clear hK K
          refine done_ (by kernel_rfl) ?_
          go_wp2
          exact ⟨⟨k + 1, by first | rfl | go_num, hlt2, Lib.hid (HNX.out _)⟩, by simp [intOf]; omega⟩
        · obtain rfl : k = n := by omega
          have hI2 := HI.out
          rw [HNV.out] at hI2
          have HFK : Hid (Kd.FK kE wr (fun q => w.heap.size ≤ q ∧ some q ≠ u4.ownBlock) (nm, vs) [.pointer (some ⟨ge, 0, none⟩)]) := Lib.hid (Kd.FK_mono (hI2.fk (by have := HNV.out; omega)) (fun q hq => ⟨Nat.le_trans HBr.out.size hq, fun e => by have := Kd.N_lt HNr.out q e.symm; omega⟩))
          have HNW := Lib.hid (Kd.N_below HNr.out hI2.bel)
          have HBW := Lib.hid (HBr.out.trans (hI2.bel.mono HBr.out.size))
          have HFR : Hid (∀ q, wr.heap.size ≤ q → w.heap.size ≤ q) := Lib.hid (fun q hq => Nat.le_trans HBW.out.size hq)
          have HSZ : Hid ((acc.length + 1) * 8 ≤ 140737488355328) := Lib.hid (by have := HTL.out; omega)
          clear hI2
          go_wp2_with (first
            | ((with_reducible refine gate_builtin (b := .append) (xs := #[.tmp 123, .tmp 125]) rfl ?_)
               at_builtin
               refine Kd.N_append kE (w0 := wr) (W := wr) w.heap.size rfl (.tmp 123) (.tmp 125) 108 111 (.pointer none) 8 rfl Tryz.underlying108 inf_E rfl (show 0 < 1 by decide) (by decide) u4 acc (nm, vs) _ (fun q => w.heap.size ≤ q) _ rfl rfl HFK.out (fun _ h => h) HFR.out HNW.out (Below.refl _ _) HBW.out.size HSZ.out ?_
               intro v1 w1 hR hb hg hat
               have HN8 := Lib.hid hR
               have HB8 := Lib.hid (HBW.out.trans hb)
               clear hR hb hg hat))
          exact ⟨⟨K + 1, by first | rfl | go_num, hlt, Lib.hid (by rw [← HST.out]; exact HN8.out), HB8⟩, by simp [intOf]; omega⟩
    · obtain rfl : K = N := by omega
      rw [HLN.out, List.take_length] at HNr
      obtain ⟨A5, c5, hv, hl5, hc5⟩ := Kd.N_reads HNr.out
      subst hv
      have HC5 := Lib.hid (Kd.N_F HNr.out)
      clear hl5 hc5
      go_wp2
      go_ret2
      exact ⟨A5, c5, rfl, HC5.out, HBr.out⟩
/-- an entry, decoded -/
structure IsEnt (x n0 y : Pk) (dn : ByteArray) (l : List (ByteArray × List ByteArray)) : Prop where
  x0 : x.kids[0]? = some n0
  x1 : x.kids[1]? = some y
  nx : x.kids.length ≤ 1000000
  vn : n0.val = strV dn
  ln : y.kids.length = l.length
  ny : y.kids.length ≤ 1000000
  aa : ∀ (j : Nat) (z : Pk) (a : ByteArray × List ByteArray), y.kids[j]? = some z → l[j]? = some a → ∃ m0 v0, IsAttr z m0 v0 a
set_option maxHeartbeats 3200000 in
set_option maxRecDepth 100000 in
theorem pstrAt {w : World} {b : Nat} {x n0 : Pk} (h : Pt w b x) (k : Nat) (hk : x.kids[k]? = some n0) (hn : x.kids.length ≤ 1000000) (s : ByteArray) (hv : n0.val = strV s) :
    Calls Tryz.prog 97 #[.pointer (some ⟨b, 0, none⟩), .int .i64 (k : Int)] w fun e w' => e = .returned (.tuple #[.string s, .nilIface]) ∧ w = w' := by
  have HC := Lib.hid (child_any h k hk hn)
  have HP : Hid (∀ q, Pt w q n0 → Calls Tryz.prog 79 #[.pointer (some ⟨q, 0, none⟩)] w fun e w' => e = .returned (.tuple #[.string s, .nilIface]) ∧ w = w') := Lib.hid (fun q hq => pstr_any hq s hv)
  clear h hk hn hv
  go_enter Tryz.func97, Tryz.ntmps97
  go_wp2_with (first
    | (go_at_call 78
       with_reducible refine HC.out.mono ?_
       rintro e w1 ⟨q, rfl, hq, rfl⟩
       have HQ := Lib.hid (HP.out q hq)
       clear hq)
    | (go_at_call 79
       with_reducible refine HQ.out.mono ?_
       rintro e w1 ⟨rfl, rfl⟩))
  go_ret2
  exact ⟨rfl, rfl⟩
set_option maxHeartbeats 3200000 in
set_option maxRecDepth 100000 in
theorem entOf {w : World} {b : Nat} {x n0 y : Pk} {dn : ByteArray} {l : List (ByteArray × List ByteArray)} (h : Pt w b x) (E : IsEnt x n0 y dn l) :
    Calls Tryz.prog 51 #[.pointer (some ⟨b, 0, none⟩)] w fun e w' => ∃ A5 c5, e = .returned (.tuple #[.string dn, .slice A5 l.length c5, .bool true]) ∧ Kd.F kE w' (fun q => w.heap.size ≤ q) A5 l.length l ∧ Below w.heap.size w w' := by
  have HC : Hid (Calls Tryz.prog 78 #[.pointer (some ⟨b, 0, none⟩), .int .i64 1] w fun e w' => ∃ q, e = .returned (.tuple #[.pointer (some ⟨q, 0, none⟩), .nilIface]) ∧ Pt w q y ∧ w = w') := Lib.hid (child_any h 1 E.x1 E.nx)
  have HU : Hid (∀ q A c, Pt w q y → w.cell? ⟨q, 6, none⟩ = some (.slice A y.kids.length c) → Calls Tryz.prog 96 #[.slice A y.kids.length c] w fun e w' => ∃ A5 c5, e = .returned (.tuple #[.slice A5 l.length c5, .nilIface]) ∧ Kd.F kE w' (fun q => w.heap.size ≤ q) A5 l.length l ∧ Below w.heap.size w w') := Lib.hid (fun q A c hq hc => unpackAttr hq l E.ln E.ny E.aa A c hc)
  have HS : Hid (∀ W, Below w.heap.size w W → Calls Tryz.prog 97 #[.pointer (some ⟨b, 0, none⟩), .int .i64 0] W fun e w' => e = .returned (.tuple #[.string dn, .nilIface]) ∧ W = w') := Lib.hid (fun W hW => pstrAt (h.below hW) 0 E.x0 E.nx dn E.vn)
  clear h E
  go_enter Tryz.func51, Tryz.ntmps51
  go_wp2_with (first
    | (go_at_call 78
       with_reducible refine HC.out.mono ?_
       rintro e w1 ⟨q, rfl, hq, rfl⟩
       obtain ⟨_, _, _, _, Av, cv, c61⟩ := pt_top hq
       have HUQ := Lib.hid (HU.out q Av cv hq c61)
       clear hq)
    | (go_at_call 96
       with_reducible refine HUQ.out.mono ?_
       rintro e W2 ⟨A5, c5, rfl, hF, hB⟩
       have HF := Lib.hid hF
       have HB := Lib.hid hB
       have HSQ := Lib.hid (HS.out W2 hB)
       clear hF hB)
    | (go_at_call 97
       with_reducible refine HSQ.out.mono ?_
       rintro e w1 ⟨rfl, rfl⟩))
  refine start_ (n := 7) (S := fun w' => True) (ds := []) #[nN,nN,nN,nN,nN,nN,nN] (by kernel_rfl) rfl rfl trivial (fun hHeld => ?_)
  refine pure_ (i := 0) (N := some 29) (v := ?_) (a' := ?_) #[yY,nN,nN,nN,nN,nN,nN] rfl rfl (by kernel_rfl) (fun _ _ _ h => h) (Or.inl ⟨by rfl, ?_⟩) ?_ ?_
  rotate_left
  · intro w'
    go_simp
    with_reducible rfl
  rotate_left
  · simp only [Act.put, List.setIfInBounds_toArray, List.set_cons_zero, List.set_cons_succ, i64_w, i32_w]
    rfl
  refine pure_ (i := 1) (N := some 30) (v := ?_) (a' := ?_) #[yY,yY,nN,nN,nN,nN,nN] rfl rfl (by kernel_rfl) (fun _ _ _ h => h) (Or.inl ⟨by rfl, ?_⟩) ?_ ?_
  rotate_left
  · intro w'
    go_simp
    with_reducible rfl
  rotate_left
  · simp only [Act.put, List.setIfInBounds_toArray, List.set_cons_zero, List.set_cons_succ, i64_w, i32_w]
    rfl
  refine pure_ (i := 2) (N := some 31) (v := ?_) (a' := ?_) #[yY,yY,yY,nN,nN,nN,nN] rfl rfl (by kernel_rfl) (fun _ _ _ h => h) (Or.inl ⟨by rfl, ?_⟩) ?_ ?_
  rotate_left
  · intro w'
    go_simp
    with_reducible rfl
  rotate_left
  · simp only [Act.put, List.setIfInBounds_toArray, List.set_cons_zero, List.set_cons_succ, i64_w, i32_w]
    rfl
  refine pure_ (i := 3) (N := some 32) (v := ?_) (a' := ?_) #[yY,yY,yY,yY,nN,nN,nN] rfl rfl (by kernel_rfl) (fun _ _ _ h => h) (Or.inl ⟨by rfl, ?_⟩) ?_ ?_
  rotate_left
  · intro w'
    go_simp
    with_reducible rfl
  rotate_left
  · simp only [Act.put, List.setIfInBounds_toArray, List.set_cons_zero, List.set_cons_succ, i64_w, i32_w]
    rfl
  refine pure_ (i := 4) (N := some 2) (v := ?_) (a' := ?_) #[yY,yY,yY,yY,yY,nN,nN] rfl rfl (by kernel_rfl) (fun _ _ _ h => h) (Or.inl ⟨by rfl, ?_⟩) ?_ ?_
  rotate_left
  · intro w'
    go_simp
    with_reducible rfl
  rotate_left
  · simp only [Act.put, List.setIfInBounds_toArray, List.set_cons_zero, List.set_cons_succ, i64_w, i32_w]
    rfl
  refine pure_ (i := 5) (N := some 3) (v := ?_) (a' := ?_) #[yY,yY,yY,yY,yY,yY,nN] rfl rfl (by kernel_rfl) (fun _ _ _ h => h) (Or.inl ⟨by rfl, ?_⟩) ?_ ?_
  rotate_left
  · intro w'
    go_simp
    with_reducible rfl
  rotate_left
  · simp only [Act.put, List.setIfInBounds_toArray, List.set_cons_zero, List.set_cons_succ, i64_w, i32_w]
    rfl
  refine pure_ (i := 6) (N := some 4) (v := ?_) (a' := ?_) #[yY,yY,yY,yY,yY,yY,yY] rfl rfl (by kernel_rfl) (fun _ _ _ h => h) (Or.inl ⟨by rfl, ?_⟩) ?_ ?_
  rotate_left
  · intro w'
    go_simp
    with_reducible rfl
  rotate_left
  · simp only [Act.put, List.setIfInBounds_toArray, List.set_cons_zero, List.set_cons_succ, i64_w, i32_w]
    rfl
  refine done_ (by kernel_rfl) ?_
  go_wp2
  go_ret3
  exact ⟨A5, c5, rfl, Kd.F_below HF.out (Below.refl _ _).drew, HB.out.drew⟩
end Go.Proofs.YteockihoefbmdaaGreatDoor.Ber
namespace Go.Proofs.YteockihoefbmdaaGreatDoor.Ber
open Go.RowKit Go.Proofs.YteockihoefbmdaaGreatDoorW.PrintWords Go.Proofs.YteockihoefbmdaaGreatDoor.Buf Go.Proofs.YteockihoefbmdaaGreatDoor.Pk
set_option linter.unusedVariables false
set_option linter.unusedSimpArgs false

theorem catch_idle (p : Addr) (w : World) :
    CallsD Tryz.prog 60 #[.pointer (some p)] .returning w fun e u' w' => e = .returned (.tuple #[]) ∧ u' = .returning ∧ w' = w := by
  refine callsD_of_wpS Tryz.func60 rfl fun c₀ cs hu => ?_
  apply wpS_seq
  apply wpS_region
  simp [wpOpsS, go_sem, recoverD, hu, Tryz.ntmps60, Exit.thenS]
  refine wpS_cond (t := false) (by simp [Act.eval, Array.replicate]) ?_
  simp only [Bool.false_eq_true, if_false]
  refine wpS_of_wp (wp_skip ?_)
  cases c₀
  simp_all [bodyPostS, results, Tryz.results60]

set_option maxHeartbeats 1600000 in
set_option maxRecDepth 100000 in
/-- safely: what the closure answers, and the memory as it left it. -/
theorem safely_entry (cap : Array Value) (b : Bool) (Q : World → Prop) (w : World)
    (h : ∀ W, W = w.alloc (.cells #[.bool false] 4) → Calls Tryz.prog 50 cap W fun e w' => e = .returned (.bool b) ∧ Q w' ∧ w'.heap[w.heap.size]? = some (.cells #[.bool false] 4 (0, 0))) :
    Calls Tryz.prog 28 #[.func (.func 50) #[] cap] w fun e w' => e = .returned (.bool b) ∧ ∃ W, Q W ∧ w' = W.setCell ⟨w.heap.size, 0, none⟩ (.bool b) := by
  have hmf : ∀ (fn : Fn) (first cap : Array Value) (w : World), (Instr.makeFunc fn first cap).run Tryz.prog w = .ok (.func fn first cap) w := fun _ _ _ _ => rfl
  obtain ⟨W1, hW1⟩ : ∃ W1, W1 = w.alloc (.cells #[.bool false] 4) := ⟨_, rfl⟩
  have HC := Lib.hid (h W1 hW1)
  clear h
  go_enter_defers Tryz.func28, Tryz.ntmps28
  go_wp2_with (go_at_call 50
               rw [← hW1]
               with_reducible refine HC.out.mono ?_
               rintro e W2 ⟨rfl, hQ, hx⟩
               have c0 : W2.cell? ⟨w.heap.size, 0, none⟩ = some (.bool false) := blk_cell hx 0
               have f0 := blk_frozen hx 0)
  refine leaves_cons (f := 60) (args := #[.pointer (some ⟨w.heap.size, 0, none⟩)]) (by simp) (by simp [go_sem]) ?_
  refine (catch_idle ⟨w.heap.size, 0, none⟩ _).mono ?_
  rintro e u' w'' ⟨rfl, rfl, rfl⟩
  have h5 := blk_set hx 0 (.bool b)
  have c5 := blk_cell h5 0
  simp at c5
  simp [Leaves, settle, results, Tryz.results28, go_sem, c5]
  exact ⟨W2, hQ, rfl⟩
end Go.Proofs.YteockihoefbmdaaGreatDoor.Ber
namespace Go.Proofs.YteockihoefbmdaaGreatDoor.Ber
open Go.RowKit Go.Proofs.YteockihoefbmdaaGreatDoorW.PrintWords Go.Proofs.YteockihoefbmdaaGreatDoorW.PrintLast Go.Proofs.YteockihoefbmdaaGreatDoor.Buf Go.Proofs.YteockihoefbmdaaGreatDoor.Pk Go.Proofs.YteockihoefbmdaaGreatDoor.Tree Go.Proofs.YteockihoefbmdaaGreatDoor.Num Go.Proofs.YteockihoefbmdaaGreatDoor.Ident Go.Proofs.YteockihoefbmdaaGreatDoor.PFnEncode
set_option linter.unusedVariables false
set_option linter.unusedSimpArgs false

theorem ld_str {w : World} {g : Nat} {v : Value} (hc : w.cell? ⟨g, 0, none⟩ = some v) : (loadVar 9 ⟨g, 0, none⟩).run Tryz.prog w = .ok v w := by
  simp [loadVar, run_underlying Tryz.underlying9, hc, go_sem]
theorem results_cct2 {P : Program} {fn : Func} {p q u : Tmp} {tp tq : TypeId} (h : fn.results = #[.cell p tp, .cell q tq, .tmp u]) (tmps : Array Value) (w : World) (g1 g2 : Nat) (v1 v2 : Value)
    (hp : tmps.getD p undef = .pointer (some ⟨g1, 0, none⟩)) (hq : tmps.getD q undef = .pointer (some ⟨g2, 0, none⟩))
    (l1 : (loadVar tp ⟨g1, 0, none⟩).run P w = .ok v1 w) (l2 : (loadVar tq ⟨g2, 0, none⟩).run P w = .ok v2 w) :
    (results fn tmps).run P w = .ok (.tuple #[v1, v2, tmps.getD u undef]) w := by
  have hp' : tmps[p]?.getD undef = .pointer (some ⟨g1, 0, none⟩) := by simpa using hp
  have hq' : tmps[q]?.getD undef = .pointer (some ⟨g2, 0, none⟩) := by simpa using hq
  simp [results, h, hp', hq', asAddr, l1, l2]
theorem mf : ∀ (fn : Fn) (first cap : Array Value) (w : World), (Instr.makeFunc fn first cap).run Tryz.prog w = .ok (.func fn first cap) w := fun _ _ _ _ => rfl
end Go.Proofs.YteockihoefbmdaaGreatDoor.Ber
namespace Go.Proofs.YteockihoefbmdaaGreatDoor.Ber
open Go.RowKit Go.Proofs.YteockihoefbmdaaGreatDoorW.PrintWords Go.Proofs.YteockihoefbmdaaGreatDoor.PFnEncode Go.Proofs.YteockihoefbmdaaGreatDoorW.PrintLast Go.Proofs.YteockihoefbmdaaGreatDoor.Tree Go.Proofs.YteockihoefbmdaaGreatDoor.Buf Go.Proofs.YteockihoefbmdaaGreatDoor.Pk Go.Proofs.YteockihoefbmdaaGreatDoor.Within Go.Proofs.YteockihoefbmdaaGreatDoor.Num
set_option linter.unusedVariables false
set_option linter.unusedSimpArgs false
section
end
theorem str_atS {w : World} {A : Option Addr} {l : List ByteArray} (h : Kd.string.C w A l.length l) {k : Nat} (hk : k < l.length) : ∃ ad, A = some ad ∧ w.cell? (ad.add k) = some (.string l[k]) := by
  obtain ⟨ad, c, e, _, hK, hc0⟩ := Kd.C_get h (⟨#[]⟩ : ByteArray) (k : Int) (by omega) (by omega)
  refine ⟨ad, e, ?_⟩
  have hK' : c = [.string (l.getD (k : Int).toNat ⟨#[]⟩)] := hK
  rw [Int.toNat_natCast, List.getD_eq_getElem?_getD, List.getElem?_eq_getElem hk] at hK'
  have := hc0 0 (.string l[k]) (by rw [hK']; rfl)
  rw [Int.toNat_natCast] at this
  have e1 : k * Kd.string.sz + 0 = k := by show k * 1 + 0 = k; omega
  rwa [e1] at this
end Go.Proofs.YteockihoefbmdaaGreatDoor.Ber
namespace Go.Proofs.YteockihoefbmdaaGreatDoor.Ber
open Go.RowKit Go.Proofs.YteockihoefbmdaaGreatDoorW.PrintWords Go.Proofs.YteockihoefbmdaaGreatDoorW.PrintLast Go.Proofs.YteockihoefbmdaaGreatDoor.Buf Go.Proofs.YteockihoefbmdaaGreatDoor.Pk Go.Proofs.YteockihoefbmdaaGreatDoor.Tree Go.Proofs.YteockihoefbmdaaGreatDoor.Num Go.Proofs.YteockihoefbmdaaGreatDoor.Ident Go.Proofs.YteockihoefbmdaaGreatDoor.PFnEncode Go.Proofs.YteockihoefbmdaaGreatDoor.Within
set_option linter.unusedVariables false
set_option linter.unusedSimpArgs false

/-- behind it only what is younger changes -/
theorem only_below2 {S : Nat → Prop} {V U w1 : World} (h : Only S V U) (hb : Below V.heap.size U w1) : Only S V w1 :=
  ⟨hb.os.trans h.os, hb.tape.trans h.tape, hb.output.trans h.output, Nat.le_trans h.size hb.size, fun i hi hn => (hb.block i hi).trans (h.block i hi hn)⟩
/-- an attribute as data -/
def aS (a : ByteArray × List ByteArray) : S58 := ⟨a.1, a.2.map bytesOf⟩
abbrev kB : Kd (List Int) := Kd.slice 5 (Kd.int .u8)
theorem ent_at {w : World} {A : Option Addr} {l : List (ByteArray × List ByteArray)} (h : Kd.C kE w A l.length l) {k : Nat} (hk : k < l.length) : ∃ ad q V c u, A = some ad ∧ w.cell? (ad.add k) = some (.pointer (some ⟨q, 0, none⟩)) ∧ w.heap[q]? = some (.cells #[.string l[k].1, .slice V l[k].2.length c, u] 113 (0, 0)) ∧ Kd.C Kd.string w V l[k].2.length l[k].2 := by
  obtain ⟨ad, c, e, _, hK, hc0⟩ := Kd.C_get h ((⟨#[]⟩, []) : ByteArray × List ByteArray) (k : Int) (by omega) (by omega)
  rw [Int.toNat_natCast, List.getD_eq_getElem?_getD, List.getElem?_eq_getElem hk] at hK
  obtain ⟨q, V, cv, u, rfl, h1, h2, h3⟩ := hK
  refine ⟨ad, q, V, cv, u, e, ?_, h1, h3⟩
  have := hc0 0 _ rfl
  rw [Int.toNat_natCast] at this
  have e1 : k * kE.sz + 0 = k := by show k * 1 + 0 = k; omega
  rwa [e1] at this
theorem inf_A : (Tryz.prog.info? 58).map (fun i => (i.zero, i.size, i.bytes)) = some (some (.agg #[.string ⟨#[]⟩, .slice none 0 0]), 2, 40) := by kernel_rfl
/-- converted bytes as an element -/
theorem conv_FK {W : World} {s : ByteArray} {ok : Nat → Prop} (hs : s.size ≤ 1000000) (hok : ∀ k, W.heap.size ≤ k → ok k) : Kd.FK kB (Lib.bytesWorld W 5 s) ok (bytesOf s) [.slice (some ⟨W.heap.size, 0, none⟩) s.size (grownCap W s.size 0 5)] := by
  have hF := Kd.F_mono (conv_F W s (by omega)) hok
  have hcap : s.size ≤ grownCap W s.size 0 5 := grownCap_ge _ _ _ _
  intro W' hW
  refine ⟨some ⟨W.heap.size, 0, none⟩, _, by rw [bytesOf_length], by rw [bytesOf_length]; exact hcap, hF W' hW⟩
set_option maxHeartbeats 6400000 in
set_option maxRecDepth 100000 in
theorem entCl {W : World} {ap gd ga : Nat} (p : S30) (A3 : Option Addr) (c3 : Nat) (A4 : Option Addr) (c4 : Nat) {x n0 y : Pk} {dn s1 : ByteArray} {l : List (ByteArray × List ByteArray)} (E : IsEnt x n0 y dn l) (hsz : ∀ a, a ∈ l → ∀ s, s ∈ a.2 → s.size ≤ 1000000) (hnv : ∀ a, a ∈ l → a.2.length ≤ 1000000)
    (hrd : Calls Tryz.prog 30 #[.agg #[.int .i64 p.f0, .int .i64 p.f1, .bool p.f2, .slice A3 p.f3.length c3, .slice A4 p.f4.length c4]] W fun e w' => ∃ b, e = .returned (.pointer (some ⟨b, 0, none⟩)) ∧ Pt w' b x ∧ Below W.heap.size W w') (ha : W.heap[ap]? = some (.cells #[.int .i64 p.f0, .int .i64 p.f1, .bool p.f2, .slice A3 p.f3.length c3, .slice A4 p.f4.length c4] 30 (0, 0))) (hgd : W.heap[gd]? = some (.cells #[.string s1] 9 (0, 0))) (hga : W.heap[ga]? = some (.cells #[.slice none 0 0] 48 (0, 0))) :
    Calls Tryz.prog 50 #[.pointer (some ⟨ap, 0, none⟩), .pointer (some ⟨gd, 0, none⟩), .pointer (some ⟨ga, 0, none⟩)] W fun e w' => e = .returned (.bool true) ∧ w'.heap[gd]? = some (.cells #[.string dn] 9 (0, 0)) ∧ (∃ A c, w'.heap[ga]? = some (.cells #[.slice A l.length c] 48 (0, 0)) ∧ l.length ≤ c ∧ Kd.F k58 w' (fun q => W.heap.size ≤ q) A l.length (l.map aS)) ∧ Only (fun i => i = gd ∨ i = ga) W w' := by
  have HRD := Lib.hid hrd
  have HEO : Hid (∀ w b, Pt w b x → Calls Tryz.prog 51 #[.pointer (some ⟨b, 0, none⟩)] w fun e w' => ∃ A5 c5, e = .returned (.tuple #[.string dn, .slice A5 l.length c5, .bool true]) ∧ Kd.F kE w' (fun q => w.heap.size ≤ q) A5 l.length l ∧ Below w.heap.size w w') := Lib.hid (fun w b hp => entOf hp E)
  have HGD := Lib.hid hgd
  have HGA := Lib.hid hga
  have hda : gd ≠ ga := blk_ne hgd hga (by decide)
  have HDA := Lib.hid hda
  have HLT : Hid (gd < W.heap.size ∧ ga < W.heap.size) := Lib.hid ⟨blk_lt hgd, blk_lt hga⟩
  have HSZ := Lib.hid hsz
  have HNV := Lib.hid hnv
  have HLL : Hid (l.length ≤ 1000000) := Lib.hid (by have h1 := E.ln; have h2 := E.ny; omega)
  have a0 : W.cell? ⟨ap, 0, none⟩ = some (.int .i64 p.f0) := blk_cell ha 0
  have a1 : W.cell? ⟨ap, 1, none⟩ = some (.int .i64 p.f1) := blk_cell ha 1
  have a2 : W.cell? ⟨ap, 2, none⟩ = some (.bool p.f2) := blk_cell ha 2
  have a3 : W.cell? ⟨ap, 3, none⟩ = some (.slice A3 p.f3.length c3) := blk_cell ha 3
  have a4 : W.cell? ⟨ap, 4, none⟩ = some (.slice A4 p.f4.length c4) := blk_cell ha 4
  clear hrd E ha hgd hga hda hsz hnv
  go_enter Tryz.func50, Tryz.ntmps50
  go_wp2_with (first
    | (go_at_call 30
       with_reducible refine HRD.out.mono ?_
       rintro e W1 ⟨b, rfl, hp, hb⟩
       have HRC := Lib.hid (HEO.out W1 b hp)
       have HB1 := Lib.hid hb
       clear hp hb)
    | (go_at_call 51
       with_reducible refine HRC.out.mono ?_
       rintro e W2 ⟨A5, c5, rfl, hF, hb⟩
       have HF2 := Lib.hid hF
       have HB2 := Lib.hid (HB1.out.trans (hb.mono HB1.out.size))
       have HS2 := Lib.hid hb.size
       have hd2 := blk_below HGD.out HB2.out
       have k0 : W2.cell? ⟨gd, 0, none⟩ = some (.string s1) := blk_cell hd2 0
       have kf0 := blk_frozen hd2 0
       have HD2 := Lib.hid hd2
       clear hF hb hd2))
  obtain ⟨V, hV⟩ : ∃ V, V = W2.setCell ⟨gd, 0, none⟩ (.string dn) := ⟨_, rfl⟩
  rw [← hV]
  have hsV : V.heap.size = W2.heap.size := by rw [hV]; simp
  have HOV : Hid (Only (fun i => i = gd ∨ i = ga) W V) := Lib.hid (by rw [hV]; exact (Only.of_below (fun i => i = gd ∨ i = ga) HB2.out).setCell (a := ⟨gd, 0, none⟩) (fun _ => .inl rfl) _)
  have HDV : Hid (V.heap[gd]? = some (.cells #[.string dn] 9 (0, 0))) := Lib.hid (by rw [hV]; exact blk_set HD2.out 0 _)
  have HAV : Hid (V.heap[ga]? = some (.cells #[.slice none 0 0] 48 (0, 0))) := Lib.hid (by rw [hV]; exact blk_far (blk_below HGA.out HB2.out) (p := ⟨gd, 0, none⟩) HDA.out.symm _)
  have HSV : Hid (W1.heap.size ≤ V.heap.size ∧ W.heap.size ≤ W1.heap.size) := Lib.hid ⟨by have := HS2.out; omega, HB1.out.size⟩
  have HFV : Hid (Kd.F kE V (fun q => W1.heap.size ≤ q) A5 l.length l) := Lib.hid (by
    rw [hV]
    exact Kd.F_far HF2.out (p := ⟨gd, 0, none⟩) (fun q hq => by have h1 := HLT.out; have h2 := HB1.out.size; show q ≠ gd; omega) _)
  obtain ⟨L, hL⟩ : ∃ L, L = l.length := ⟨_, rfl⟩
  have HLE := Lib.hid hL
  have hL9 : L ≤ 1000000 := by rw [hL]; exact HLL.out
  rw [← hL] at HFV
  try rw [← hL]
  clear k0 kf0 hV hsV hL
  go_wp2
  go_loopw [26] (fun i wr => ∃ k : Nat, i = .int .i64 k ∧ k ≤ L ∧ Hid (∃ v, wr.heap[ga]? = some (.cells #[v] 48 (0, 0)) ∧ Kd.N k58 58 wr V.heap.size (fun q => V.heap.size ≤ q) v ((l.take k).map aS)) ∧ Hid (Only (fun i => i = ga) V wr)) (fun i _ => L - (intOf i).toNat)
  case atStart => exact ⟨0, rfl, Nat.zero_le _, Lib.hid ⟨_, HAV.out, Kd.N_nil _ _ _ _ _⟩, Lib.hid (Only.refl _ _)⟩
  case round =>
    obtain ⟨U, rfl⟩ : ∃ U, U = wr := ⟨_, rfl⟩
    obtain ⟨K, rfl, hK, HI0, HOr⟩ := hrel
    obtain ⟨v2, hga2, hN2⟩ := HI0.out
    have HG2 := Lib.hid hga2
    have HN2 := Lib.hid hN2
    clear HI0
    by_cases hlt : K < L
    · have hKl : K < l.length := by rw [← HLE.out]; exact hlt
      have hFU : Kd.F kE U (fun q => W1.heap.size ≤ q ∧ q < V.heap.size) A5 l.length l := by
        have h1 := HFV.out
        rw [HLE.out] at h1
        exact Kd.F_step (Kd.F_bound h1) (fun q hq _ => HOr.out.block q hq.2 (by have h1 := HLT.out; have h2 := HSV.out; show ¬ q = ga; omega))
      obtain ⟨ad, qa, Va, ca, ua, eA, eq, hqa, hCs⟩ := ent_at (Kd.F_now hFU) hKl
      subst eA
      have HST : Hid ((l.take K).map aS ++ [aS l[K]] = (l.take (K + 1)).map aS) := Lib.hid (by rw [List.take_succ_eq_append_getElem hKl, List.map_append]; rfl)
      have HTL : Hid (((l.take K).map aS).length ≤ 1000000) := Lib.hid (by rw [List.length_map, List.length_take]; have := HLL.out; omega)
      have hsz := HSZ.out l[K] (List.getElem_mem hKl)
      have hnv := HNV.out l[K] (List.getElem_mem hKl)
      obtain ⟨a, haa⟩ : ∃ a, a = l[K] := ⟨_, rfl⟩
      rw [← haa] at hqa hCs HST hsz hnv
      obtain ⟨acc, hacc⟩ : ∃ z, z = (l.take K).map aS := ⟨_, rfl⟩
      rw [← hacc] at HST HTL HN2
      obtain ⟨nm, vs⟩ := a
      obtain ⟨n, hnn⟩ : ∃ n, n = vs.length := ⟨_, rfl⟩
      have HNV1 := Lib.hid hnn
      have HCS := Lib.hid hCs
      have HS1 := Lib.hid hsz
      have hn9 : n ≤ 1000000 := by rw [hnn]; exact hnv
      have hqa' : U.heap[qa]? = some (.cells #[.string nm, .slice Va n ca, ua] 113 (0, 0)) := by rw [hnn]; exact hqa
      have q0 : U.cell? ⟨qa, 0, none⟩ = some (.string nm) := blk_cell hqa' 0
      have q1 : ∀ o, (U.alloc o).cell? ⟨qa, 1, none⟩ = some (.slice Va n ca) := fun o => blk_cell (blk_alloc hqa' o) 1
      clear hFU hqa hCs haa hacc hsz hnv hnn hqa' hga2 hN2
      go_wp2
      obtain ⟨W3, hW3⟩ : ∃ W3, W3 = U.alloc (.cells #[.string nm, .slice none 0 0] 58) := ⟨_, rfl⟩
      rw [← hW3]
      have hb3 : Below U.heap.size U W3 := by rw [hW3]; exact below_alloc (Below.refl _ _) _
      have HG3 : Hid (W3.heap[U.heap.size]? = some (.cells #[.string nm, .slice none 0 0] 58 (0, 0))) := Lib.hid (by rw [hW3]; exact blk_new _ _)
      have HB3 := Lib.hid hb3
      obtain ⟨g, hg⟩ : ∃ g, g = U.heap.size := ⟨_, rfl⟩
      have HGU := Lib.hid hg
      rw [← hg] at HG3 ⊢
      clear hW3 hb3 hg q0 q1 eq
      go_loopw [40] (fun i wr2 => ∃ j : Nat, i = .int .i64 j ∧ j ≤ n ∧ Hid (∃ v, wr2.heap[g]? = some (.cells #[.string nm, v] 58 (0, 0)) ∧ Kd.N kB 22 wr2 (g + 1) (fun q => g + 1 ≤ q) v ((vs.take j).map bytesOf)) ∧ Hid (Below g U wr2)) (fun i _ => n - (intOf i).toNat)
      case atStart => exact ⟨0, rfl, Nat.zero_le _, Lib.hid ⟨_, HG3.out, Kd.N_nil _ _ _ _ _⟩, Lib.hid (by rw [HGU.out]; exact HB3.out)⟩
      case round =>
        clear HG3 HB3
        obtain ⟨j, rfl, hj, HJ0, HBJ⟩ := hrel
        obtain ⟨v, hgj, hNj⟩ := HJ0.out
        have HGJ := Lib.hid hgj
        have HNJ := Lib.hid hNj
        clear HJ0
        by_cases hlt2 : j < n
        · have hjv : j < vs.length := by rw [← HNV1.out]; exact hlt2
          obtain ⟨ads, eV, hcs⟩ := str_atS HCS.out hjv
          subst eV
          have hcell := (HBJ.out.cell (by rw [HGU.out]; exact World.block_lt_of_cell? U _ hcs)).trans hcs
          have HS2_ : Hid ((vs.take j).map bytesOf ++ [bytesOf vs[j]] = (vs.take (j + 1)).map bytesOf) := Lib.hid (by rw [List.take_succ_eq_append_getElem hjv, List.map_append]; rfl)
          have HT2 : Hid (((vs.take j).map bytesOf).length ≤ 1000000) := Lib.hid (by rw [List.length_map, List.length_take]; omega)
          have hss := HS1.out vs[j] (List.getElem_mem hjv)
          obtain ⟨s, hs⟩ : ∃ s, s = vs[j] := ⟨_, rfl⟩
          rw [← hs] at hcell HS2_ hss
          obtain ⟨acc2, hacc2⟩ : ∃ z, z = (vs.take j).map bytesOf := ⟨_, rfl⟩
          rw [← hacc2] at HS2_ HT2 HNJ
          have hcv := conv_bytes s
          have c1 : wr.cell? ⟨g, 1, none⟩ = some v := blk_cell hgj 1
          have hb4 : Below wr.heap.size wr (Lib.bytesWorld wr 5 s) := bytes_below (Below.refl _ _) (Nat.le_refl _) _ _
          have HB4 := Lib.hid hb4
          have hlg := blk_lt hgj
          have HFK : Hid (Kd.FK kB (Lib.bytesWorld wr 5 s) (fun q => g + 1 ≤ q ∧ some q ≠ v.ownBlock) (bytesOf s) [.slice (some ⟨wr.heap.size, 0, none⟩) s.size (grownCap wr s.size 0 5)]) := Lib.hid (conv_FK hss (fun q hq => ⟨by omega, fun e => by have := Kd.N_lt HNJ.out q e.symm; omega⟩))
          have HN4 := Lib.hid (Kd.N_below HNJ.out hb4)
          have HFR : Hid (∀ q, (Lib.bytesWorld wr 5 s).heap.size ≤ q → g + 1 ≤ q) := Lib.hid (fun q hq => by have := hb4.size; omega)
          have HLO : Hid (g + 1 ≤ (Lib.bytesWorld wr 5 s).heap.size) := Lib.hid (by have := hb4.size; omega)
          have HZ : Hid ((acc2.length + 1) * 24 ≤ 140737488355328) := Lib.hid (by have := HT2.out; omega)
          have HG4 := Lib.hid (blk_below hgj hb4)
          clear hs hacc2 hgj hNj hb4 hcs hlg hss
          go_wp2_with (first
            | ((with_reducible refine gate_builtin (b := .append) (xs := #[.tmp 45, .tmp 48]) rfl ?_)
               at_builtin
               refine Kd.N_append kB (w0 := Lib.bytesWorld wr 5 s) (W := Lib.bytesWorld wr 5 s) (g + 1) rfl (.tmp 45) (.tmp 48) 56 22 (.slice none 0 0) 24 rfl Tryz.underlying56 inf_B rfl (show 0 < 1 by decide) (by decide) v acc2 (bytesOf s) _ (fun q => g + 1 ≤ q) _ rfl rfl HFK.out (fun _ h => h) HFR.out HN4.out (Below.refl _ _) HLO.out HZ.out ?_
               intro v1 w1 hR hb hgr hat
               have hne : some g ≠ v.ownBlock := Kd.N_away HN4.out (fun q hq => by omega)
               have hg5 := blk_grown HG4.out hgr hne
               have x0 : w1.cell? ⟨g, 1, none⟩ = some v := blk_cell hg5 1
               have xf : w1.frozen? ⟨g, 1, none⟩ = false := blk_frozen hg5 1
               obtain ⟨Aq, cq, hvq⟩ := Kd.N_slice hR
               have HN5 := Lib.hid (Kd.N_far hR (p := ⟨g, 1, none⟩) (fun q hq => by show q ≠ g; omega) v1)
               have HG5 := Lib.hid (blk_set hg5 1 v1)
               have HB5 : Hid (Below g U (w1.setCell ⟨g, 1, none⟩ v1)) := Lib.hid ((HBJ.out.trans ((HB4.out.mono (by have h1 := HBJ.out.size; have h2 := HGU.out; omega)).trans (hb.mono (Nat.le_succ g)))).setCell (p := ⟨g, 1, none⟩) (Nat.le_refl g) v1)
               obtain ⟨n5, hn5⟩ : ∃ n, n = (acc2 ++ [bytesOf s]).length := ⟨_, rfl⟩
               rw [← hn5] at hvq
               subst hvq
               clear hR hb hgr hat hne hg5 hn5))
          exact ⟨⟨j + 1, by first | rfl | go_num, hlt2, Lib.hid ⟨_, HG5.out, by rw [← HS2_.out]; exact HN5.out⟩, HB5⟩, by simp [intOf]; omega⟩
        · obtain rfl : j = n := by omega
          have hNf := HNJ.out
          rw [HNV1.out, List.take_length] at hNf
          obtain ⟨Ab, cb, hvb, hlb, hcb⟩ := Kd.N_reads hNf
          rw [List.length_map, ← HNV1.out] at hvb
          subst hvb
          have g0 : wr.cell? ⟨g, 0, none⟩ = some (.string nm) := blk_cell hgj 0
          have g1 : wr.cell? ⟨g, 1, none⟩ = some (.slice Ab j cb) := blk_cell hgj 1
          have hsU : V.heap.size ≤ U.heap.size := HOr.out.size
          have hltg : ga < U.heap.size := blk_lt HG2.out
          have hg2 : wr.heap[ga]? = some (.cells #[v2] 48 (0, 0)) := (HBJ.out.block ga (by rw [HGU.out]; exact hltg)).trans HG2.out
          have gA : wr.cell? ⟨ga, 0, none⟩ = some v2 := blk_cell hg2 0
          have HN6 : Hid (Kd.N k58 58 wr V.heap.size (fun q => V.heap.size ≤ q) v2 acc) := Lib.hid (Kd.N_below HN2.out (by rw [← HGU.out]; exact HBJ.out))
          have HF6 : Hid (Kd.FK k58 wr (fun q => V.heap.size ≤ q ∧ some q ≠ v2.ownBlock) (aS (nm, vs)) [.string nm, .slice Ab j cb]) := Lib.hid (by
            have hf : Kd.F kB wr (fun q => g + 1 ≤ q) Ab (vs.map bytesOf).length (vs.map bytesOf) := by
              have := Kd.N_F hNf
              rw [List.length_map, ← HNV1.out]
              exact this
            have hf2 : Kd.F kB wr (fun q => V.heap.size ≤ q ∧ some q ≠ v2.ownBlock) Ab (vs.map bytesOf).length (vs.map bytesOf) := Kd.F_mono hf (fun q hq => by
              have hq' : g + 1 ≤ q := hq
              have h2 := HGU.out
              exact ⟨by omega, fun e => by have h1 := Kd.N_lt HN2.out q e.symm; omega⟩)
            have := k58_mkF wr (fun q => V.heap.size ≤ q ∧ some q ≠ v2.ownBlock) (aS (nm, vs)) (A1 := Ab) (c1 := cb) hlb hf2
            have e : (aS (nm, vs)).f1.length = j := by rw [HNV1.out]; exact List.length_map ..
            rw [e] at this
            exact this)
          have HB6 : Hid (Below V.heap.size U wr) := Lib.hid (HBJ.out.mono (by rw [HGU.out]; exact hsU))
          have HFR : Hid (∀ q, wr.heap.size ≤ q → V.heap.size ≤ q) := Lib.hid (fun q hq => by have := HBJ.out.size; omega)
          have HLO : Hid (V.heap.size ≤ wr.heap.size) := Lib.hid (Nat.le_trans hsU HBJ.out.size)
          have HZ : Hid ((acc.length + 1) * 40 ≤ 140737488355328) := Lib.hid (by have := HTL.out; omega)
          have HG6 := Lib.hid hg2
          clear hNf hlb hcb hgj hNj hsU hltg hg2
          go_wp2_with (first
            | ((with_reducible refine gate_builtin (b := .append) (xs := #[.tmp 52, .tmp 54]) rfl ?_)
               at_builtin
               refine Kd.N_append k58 (w0 := wr) (W := wr) V.heap.size rfl (.tmp 52) (.tmp 54) 48 58 (.agg #[.string ⟨#[]⟩, .slice none 0 0]) 40 rfl Tryz.underlying48 inf_A rfl (show 0 < 2 by decide) (by decide) v2 acc (aS (nm, vs)) _ (fun q => V.heap.size ≤ q) _ rfl rfl HF6.out (fun _ h => h) HFR.out HN6.out (Below.refl _ _) HLO.out HZ.out ?_
               intro v1 w1 hR hb hgr hat
               have hlta : ga < V.heap.size := by have h1 := HLT.out; have h2 := HSV.out; omega
               have hne : some ga ≠ v2.ownBlock := Kd.N_away HN6.out (fun q hq => by omega)
               have hg7 := blk_grown HG6.out hgr hne
               have x0 : w1.cell? ⟨ga, 0, none⟩ = some v2 := blk_cell hg7 0
               have xf : w1.frozen? ⟨ga, 0, none⟩ = false := blk_frozen hg7 0
               obtain ⟨Aq, cq, hvq⟩ := Kd.N_slice hR
               have HN7 := Lib.hid (Kd.N_far hR (p := ⟨ga, 0, none⟩) (fun q hq => by show q ≠ ga; omega) v1)
               have HG7 := Lib.hid (blk_set hg7 0 v1)
               have HO7 : Hid (Only (fun i => i = ga) V (w1.setCell ⟨ga, 0, none⟩ v1)) := Lib.hid ((only_below2 HOr.out (HB6.out.trans hb)).setCell (a := ⟨ga, 0, none⟩) (fun _ => rfl) v1)
               obtain ⟨n7, hn7⟩ : ∃ n, n = (acc ++ [aS (nm, vs)]).length := ⟨_, rfl⟩
               rw [← hn7] at hvq
               subst hvq
               clear hR hb hgr hat hne hg7 hn7 hlta))
          exact ⟨⟨K + 1, by first | rfl | go_num, hlt, Lib.hid ⟨_, HG7.out, by rw [← HST.out]; exact HN7.out⟩, HO7⟩, by simp [intOf]; omega⟩
    · obtain rfl : K = L := by omega
      rw [HLE.out, List.take_length] at HN2
      obtain ⟨A6, c6, hv6, hl6, hc6⟩ := Kd.N_reads HN2.out
      subst hv6
      have HF7 := Lib.hid (Kd.N_F HN2.out)
      have HL6 := Lib.hid hl6
      have HC6 := Lib.hid HG2.out
      clear hl6 hc6 hga2 hN2
      go_wp2
      go_ret
      have hlen : (l.map aS).length = l.length := List.length_map ..
      rw [hlen] at HF7 HL6 HC6
      have h1 := HLT.out
      have h2 := HSV.out
      refine ⟨rfl, (HOr.out.block gd (by omega) HDA.out).trans HDV.out, ⟨A6, c6, HC6.out, HL6.out, Kd.F_mono HF7.out (fun q hq => by omega)⟩, HOV.out.trans HOr.out (fun i _ h => .inr h)⟩
end Go.Proofs.YteockihoefbmdaaGreatDoor.Ber
namespace Go.Proofs.YteockihoefbmdaaGreatDoor.Ber
open Go.RowKit Go.Proofs.YteockihoefbmdaaGreatDoorW.PrintWords Go.Proofs.YteockihoefbmdaaGreatDoorW.PrintLast Go.Proofs.YteockihoefbmdaaGreatDoor.Buf Go.Proofs.YteockihoefbmdaaGreatDoor.Pk Go.Proofs.YteockihoefbmdaaGreatDoor.Tree Go.Proofs.YteockihoefbmdaaGreatDoor.Num Go.Proofs.YteockihoefbmdaaGreatDoor.Ident Go.Proofs.YteockihoefbmdaaGreatDoor.PFnEncode Go.Proofs.YteockihoefbmdaaGreatDoor.Within
set_option linter.unusedVariables false
set_option linter.unusedSimpArgs false
theorem ld_sat {w : World} {g : Nat} {v : Value} (hc : w.cell? ⟨g, 0, none⟩ = some v) : (loadVar 48 ⟨g, 0, none⟩).run Tryz.prog w = .ok v w := by
  simp [loadVar, run_underlying Tryz.underlying48, hc, go_sem]
set_option maxHeartbeats 3200000 in
set_option maxRecDepth 100000 in
theorem entry_i (w : World) (p : S30) (A3 : Option Addr) (c3 : Nat) (A4 : Option Addr) (c4 : Nat) {x n0 y : Pk} {dn : ByteArray} {l : List (ByteArray × List ByteArray)} (E : IsEnt x n0 y dn l) (hsz : ∀ a, a ∈ l → ∀ s, s ∈ a.2 → s.size ≤ 1000000) (hnv : ∀ a, a ∈ l → a.2.length ≤ 1000000) (hrd : ∀ W, Below w.heap.size w W → Calls Tryz.prog 30 #[.agg #[.int .i64 p.f0, .int .i64 p.f1, .bool p.f2, .slice A3 p.f3.length c3, .slice A4 p.f4.length c4]] W fun e w' => ∃ b, e = .returned (.pointer (some ⟨b, 0, none⟩)) ∧ Pt w' b x ∧ Below W.heap.size W w') :
    Calls Tryz.prog 20 #[.agg #[.int .i64 p.f0, .int .i64 p.f1, .bool p.f2, .slice A3 p.f3.length c3, .slice A4 p.f4.length c4]] w fun e w' => ∃ A5 d5, e = .returned (.tuple #[.string dn, .slice A5 l.length d5, .bool true]) ∧ l.length ≤ d5 ∧ Kd.C k58 w' A5 l.length (l.map aS) ∧ Below w.heap.size w w' := by
  have hmf := mf
  obtain ⟨W0, hW0⟩ : ∃ W0, W0 = (((w).alloc (.cells #[.int .i64 p.f0, .int .i64 p.f1, .bool p.f2, .slice A3 p.f3.length c3, .slice A4 p.f4.length c4] 30)).alloc (.cells #[.string ⟨#[]⟩] 9)).alloc (.cells #[.slice none 0 0] 48) := ⟨_, rfl⟩
  have hs0 : W0.heap.size = w.heap.size + 1 + 1 + 1 := by rw [hW0]; simp
  have hb0 : Below w.heap.size w W0 := by rw [hW0]; exact below_alloc (below_alloc (below_alloc (Below.refl _ _) _) _) _
  have hx0 : W0.heap[w.heap.size]? = some (.cells #[.int .i64 p.f0, .int .i64 p.f1, .bool p.f2, .slice A3 p.f3.length c3, .slice A4 p.f4.length c4] 30 (0, 0)) := by
    have := (blk_alloc (blk_alloc (blk_new (w) (.cells #[.int .i64 p.f0, .int .i64 p.f1, .bool p.f2, .slice A3 p.f3.length c3, .slice A4 p.f4.length c4] 30)) (.cells #[.string ⟨#[]⟩] 9)) (.cells #[.slice none 0 0] 48))
    rw [← hW0] at this
    exact this
  have hx1 : W0.heap[w.heap.size + 1]? = some (.cells #[.string ⟨#[]⟩] 9 (0, 0)) := by
    have := (blk_alloc (blk_new ((w).alloc (.cells #[.int .i64 p.f0, .int .i64 p.f1, .bool p.f2, .slice A3 p.f3.length c3, .slice A4 p.f4.length c4] 30)) (.cells #[.string ⟨#[]⟩] 9)) (.cells #[.slice none 0 0] 48))
    have e : ((w).alloc (.cells #[.int .i64 p.f0, .int .i64 p.f1, .bool p.f2, .slice A3 p.f3.length c3, .slice A4 p.f4.length c4] 30)).heap.size = w.heap.size + 1 := by simp
    rw [e, ← hW0] at this
    exact this
  have hx2 : W0.heap[w.heap.size + 1 + 1]? = some (.cells #[.slice none 0 0] 48 (0, 0)) := by
    have := (blk_new (((w).alloc (.cells #[.int .i64 p.f0, .int .i64 p.f1, .bool p.f2, .slice A3 p.f3.length c3, .slice A4 p.f4.length c4] 30)).alloc (.cells #[.string ⟨#[]⟩] 9)) (.cells #[.slice none 0 0] 48))
    have e : (((w).alloc (.cells #[.int .i64 p.f0, .int .i64 p.f1, .bool p.f2, .slice A3 p.f3.length c3, .slice A4 p.f4.length c4] 30)).alloc (.cells #[.string ⟨#[]⟩] 9)).heap.size = w.heap.size + 1 + 1 := by simp
    rw [e, ← hW0] at this
    exact this
  have hcl : ∀ W, W = W0.alloc (.cells #[.bool false] 4) → Calls Tryz.prog 50 #[.pointer (some ⟨w.heap.size, 0, none⟩), .pointer (some ⟨w.heap.size + 1, 0, none⟩), .pointer (some ⟨w.heap.size + 1 + 1, 0, none⟩)] W fun e w' => e = .returned (.bool true) ∧ ((∃ A5 d5, w'.heap[w.heap.size + 1]? = some (.cells #[.string dn] 9 (0, 0)) ∧ w'.heap[w.heap.size + 1 + 1]? = some (.cells #[.slice A5 l.length d5] 48 (0, 0)) ∧ (l.length ≤ d5 ∧ Kd.F k58 w' (fun q => W0.heap.size + 1 ≤ q) A5 l.length (l.map aS))) ∧ Below w.heap.size w w') ∧ w'.heap[W0.heap.size]? = some (.cells #[.bool false] 4 (0, 0)) := by
    intro W hW
    have hbW : Below w.heap.size w W := by rw [hW]; exact below_alloc hb0 _
    have hsW : W.heap.size = W0.heap.size + 1 := by rw [hW]; simp
    have hbl : W.heap[W0.heap.size]? = some (.cells #[.bool false] 4 (0, 0)) := by rw [hW]; exact blk_new _ _
    have y0 := blk_alloc hx0 (.cells #[.bool false] 4)
    rw [← hW] at y0
    have y1 := blk_alloc hx1 (.cells #[.bool false] 4)
    rw [← hW] at y1
    have y2 := blk_alloc hx2 (.cells #[.bool false] 4)
    rw [← hW] at y2
    refine (entCl p A3 c3 A4 c4 E hsz hnv (hrd W hbW) y0 y1 y2).mono ?_
    rintro e w' ⟨he, q0, ⟨A5, d5, q1, hl5, hr⟩, ho⟩
    rw [hsW] at hr
    refine ⟨he, ⟨⟨A5, d5, q0, q1, hl5, hr⟩, hbW.trans (ho.below hbW.size (fun i hi => by omega))⟩, (ho.block _ (by omega) (by omega)).trans hbl⟩
  have HS := Lib.hid (safely_entry #[.pointer (some ⟨w.heap.size, 0, none⟩), .pointer (some ⟨w.heap.size + 1, 0, none⟩), .pointer (some ⟨w.heap.size + 1 + 1, 0, none⟩)] true (fun w' => (∃ A5 d5, w'.heap[w.heap.size + 1]? = some (.cells #[.string dn] 9 (0, 0)) ∧ w'.heap[w.heap.size + 1 + 1]? = some (.cells #[.slice A5 l.length d5] 48 (0, 0)) ∧ (l.length ≤ d5 ∧ Kd.F k58 w' (fun q => W0.heap.size + 1 ≤ q) A5 l.length (l.map aS))) ∧ Below w.heap.size w w') W0 hcl)
  have HS0 := Lib.hid hs0
  have HW0 := Lib.hid hW0
  clear hrd hcl hs0 hb0 hW0 hx0 hx1 hx2 E hsz hnv
  go_enter Tryz.func20, Tryz.ntmps20
  go_wp2_with (go_at_call 28
               rw [← HW0.out]
               with_reducible refine HS.out.mono ?_
               rintro e w' ⟨rfl, W1, ⟨⟨A5, d5, g0, g1, gr⟩, hb1⟩, rfl⟩
               have z0 := blk_far g0 (p := ⟨W0.heap.size, 0, none⟩) (by have := HS0.out; show w.heap.size + 1 ≠ W0.heap.size; omega) (.bool true)
               have z1 := blk_far g1 (p := ⟨W0.heap.size, 0, none⟩) (by have := HS0.out; show w.heap.size + 1 + 1 ≠ W0.heap.size; omega) (.bool true)
               have hb2 : Below w.heap.size w (W1.setCell ⟨W0.heap.size, 0, none⟩ (.bool true)) := hb1.setCell (p := ⟨W0.heap.size, 0, none⟩) (by have := HS0.out; show w.heap.size ≤ W0.heap.size; omega) _
               replace gr := And.intro gr.1 (Kd.F_far gr.2 (p := ⟨W0.heap.size, 0, none⟩) (fun q hq => by show q ≠ W0.heap.size; omega) (.bool true))
               obtain ⟨W2, hW2⟩ : ∃ W2, W2 = W1.setCell ⟨W0.heap.size, 0, none⟩ (.bool true) := ⟨_, rfl⟩
               rw [← hW2] at z0 z1 hb2 gr ⊢
               have HB2 := Lib.hid hb2
               have HZ0 := Lib.hid z0
               have HZ1 := Lib.hid z1
               have HGR := Lib.hid gr
               clear gr
               clear hb1 hb2 hW2 z0 g0 z1 g1)
  refine start_ (n := 5) (S := fun w' => w'.cell? ⟨w.heap.size + 1, 0, none⟩ = some (.string dn) ∧ w'.cell? ⟨w.heap.size + 1 + 1, 0, none⟩ = some (.slice A5 l.length d5)) (ds := []) #[false, false, false, false, false] (by kernel_rfl) rfl rfl ⟨blk_cell HZ0.out 0, blk_cell HZ1.out 0⟩ (fun hHeld => ?_)
  refine take_ (i := 0) (N := some 9) (v := ?_) (a' := ?_) #[true, false, false, false, false] rfl rfl (by kernel_rfl) (fun _ _ _ h => h) (Or.inl ⟨by rfl, ?_⟩) hHeld ?_ ?_
  rotate_left
  · rintro w' ⟨s0, s1⟩
    go_simp
    with_reducible rfl
  rotate_left
  · simp only [Act.put, List.setIfInBounds_toArray, List.set_cons_zero, List.set_cons_succ, i64_w, i32_w]
    rfl
  refine take_ (i := 1) (N := some 10) (v := ?_) (a' := ?_) #[true, true, false, false, false] rfl rfl (by kernel_rfl) (fun _ _ _ h => h) (Or.inl ⟨by rfl, ?_⟩) hHeld ?_ ?_
  rotate_left
  · rintro w' ⟨s0, s1⟩
    go_simp
    with_reducible rfl
  rotate_left
  · simp only [Act.put, List.setIfInBounds_toArray, List.set_cons_zero, List.set_cons_succ, i64_w, i32_w]
    rfl
  refine one_ (i := 2) (N := none) #[true, true, true, false, false] rfl rfl (by kernel_rfl) (by decide) (fun K hK => ?_)
  have kc_ := blk_cell HZ0.out 0
  have kf_ := blk_frozen HZ0.out 0
  refine skip_ (w1 := ?_) (by rfl) rfl ?_ ?_
  rotate_left
  · go_simp
    rfl
  clear kc_ kf_
  have HZ0_1 := Lib.hid (blk_set HZ0.out 0 (.string dn))
  have HZ1_1 := Lib.hid (blk_far HZ1.out (p := ⟨w.heap.size + 1, 0, none⟩) (by show w.heap.size + 1 + 1 ≠ w.heap.size + 1; omega) (.string dn))
  refine hK.out _ _ ⟨blk_cell HZ0_1.out 0, blk_cell HZ1_1.out 0⟩ (fun hHeld => ?_)
  clear hK K
  refine one_ (i := 3) (N := none) #[true, true, true, true, false] rfl rfl (by kernel_rfl) (by decide) (fun K hK => ?_)
  have kc_ := blk_cell HZ1_1.out 0
  have kf_ := blk_frozen HZ1_1.out 0
  refine skip_ (w1 := ?_) (by rfl) rfl ?_ ?_
  rotate_left
  · go_simp
    rfl
  clear kc_ kf_
  have HZ0_2 := Lib.hid (blk_far HZ0_1.out (p := ⟨w.heap.size + 1 + 1, 0, none⟩) (by show w.heap.size + 1 ≠ w.heap.size + 1 + 1; omega) (.slice A5 l.length d5))
  have HZ1_2 := Lib.hid (blk_set HZ1_1.out 0 (.slice A5 l.length d5))
  refine hK.out _ _ ⟨blk_cell HZ0_2.out 0, blk_cell HZ1_2.out 0⟩ (fun hHeld => ?_)
  clear hK K
  refine pure_ (i := 4) (N := some 4) (v := ?_) (a' := ?_) #[true, true, true, true, true] rfl rfl (by kernel_rfl) (fun _ _ _ h => h) (Or.inl ⟨by rfl, ?_⟩) ?_ ?_
  rotate_left
  · intro w'
    go_simp
    with_reducible rfl
  rotate_left
  · simp only [Act.put, List.setIfInBounds_toArray, List.set_cons_zero, List.set_cons_succ, i64_w, i32_w]
    rfl
  refine done_ (by kernel_rfl) ?_
  go_wp2
  try simp only [Exit.inBlock, Exit.then]
  have l0 := blk_cell HZ0_2.out 0
  have l1 := blk_cell HZ1_2.out 0
  exact bodyPost_ret (results_cct2 rfl _ _ _ _ _ _  rfl rfl  (ld_str l0) (ld_sat l1)) rfl ⟨A5, d5, rfl, HGR.out.1, Kd.F_now (Kd.F_far (Kd.F_far HGR.out.2 (p := ⟨w.heap.size + 1, 0, none⟩) (fun q hq => by have := HS0.out; show q ≠ w.heap.size + 1; omega) (.string dn)) (p := ⟨w.heap.size + 1 + 1, 0, none⟩) (fun q hq => by have := HS0.out; show q ≠ w.heap.size + 1 + 1; omega) (.slice A5 l.length d5)), ((HB2.out.drew.setCell (p := ⟨w.heap.size + 1, 0, none⟩) (by show w.heap.size ≤ w.heap.size + 1; omega) _).setCell (p := ⟨w.heap.size + 1 + 1, 0, none⟩) (by show w.heap.size ≤ w.heap.size + 1 + 1; omega) _)⟩
end Go.Proofs.YteockihoefbmdaaGreatDoor.Ber
namespace Go.Proofs.YteockihoefbmdaaGreatDoor.Ber
open Go.RowKit Go.Proofs.YteockihoefbmdaaGreatDoorW.PrintWords Go.Proofs.YteockihoefbmdaaGreatDoor.PFnEncode Go.Proofs.YteockihoefbmdaaGreatDoor.Tree Go.Proofs.YteockihoefbmdaaGreatDoor.Buf Go.Proofs.YteockihoefbmdaaGreatDoor.Pk Go.Proofs.YteockihoefbmdaaGreatDoor.Within Go.Proofs.YteockihoefbmdaaGreatDoor.Num
set_option linter.unusedVariables false
set_option linter.unusedSimpArgs false

/-- a text of a row -/
theorem str_at {w : World} {A : Option Addr} {l : List ByteArray} (h : Kd.string.C w A l.length l) {k : Nat} (hk : k < l.length) : ∃ ad, A = some ad ∧ w.cell? (ad.add k) = some (.string l[k]) := by
  obtain ⟨ad, c, e, _, hK, hc0⟩ := Kd.C_get h (⟨#[]⟩ : ByteArray) (k : Int) (by omega) (by omega)
  refine ⟨ad, e, ?_⟩
  have hK' : c = [.string (l.getD (k : Int).toNat ⟨#[]⟩)] := hK
  rw [Int.toNat_natCast, List.getD_eq_getElem?_getD, List.getElem?_eq_getElem hk] at hK'
  have := hc0 0 (.string l[k]) (by rw [hK']; rfl)
  rw [Int.toNat_natCast] at this
  have e1 : k * Kd.string.sz + 0 = k := by show k * 1 + 0 = k; omega
  rwa [e1] at this
/-- an attribute whose texts are short -/
def okA (a : S60) : Prop := a.f0.size ≤ 1000000 ∧ (∀ s, s ∈ a.f1 → s.size ≤ 1000000) ∧ a.f1.length ≤ 1000
end Go.Proofs.YteockihoefbmdaaGreatDoor.Ber
