/- impl.built and impl.Encode: data as a packet of the package, and its bytes. -/
import Derived.Test.YtcohjechpnlogaaDoorAppend
import Derived.Test.YtcohjechpnlogaaDoorBytesT
import Derived.Handy
import Derived.Deep.RegionLaw
import Derived.Deep.DrawnRows
namespace Go.Proofs.YtcohjechpnlogaaDoor.Ber
open Go.RowKit Go.Proofs.YtcohjechpnlogaaDoorW.PrintWords Go.Proofs.YtcohjechpnlogaaDoor.Buf Go.Proofs.YtcohjechpnlogaaDoor.Pk Go.Proofs.YtcohjechpnlogaaDoor.Num Go.Proofs.YtcohjechpnlogaaDoor.Ident Go.Proofs.YtcohjechpnlogaaDoor.Tree Go.Proofs.YtcohjechpnlogaaDoor.PFnEncode
set_option linter.unusedVariables false
set_option linter.unusedSimpArgs false

mutual
/-- the packet that is built -/
def pkOf : S25 → Pk
  | ⟨a, b, c, d, l⟩ => ⟨a * 64, if c then 32 else 0, b, .nilIface, [], if c then bytesL (mirL l) else d, if c then pkL l else [], ⟨#[]⟩⟩
def pkL : List S25 → List Pk
  | [] => []
  | x :: xs => pkOf x :: pkL xs
end
theorem pkL_append (l m : List S25) : pkL (l ++ m) = pkL l ++ pkL m := by
  induction l with
  | nil => rfl
  | cons x xs ih => rw [List.cons_append, pkL, pkL, ih]; rfl
theorem pkL_length (l : List S25) : (pkL l).length = l.length := by
  induction l with
  | nil => rfl
  | cons x xs ih => rw [pkL, List.length_cons, List.length_cons, ih]

/-- a proper packet of this size at most -/
structure Fit (p : S25) (n : Nat) : Prop where
  a0 : 0 ≤ p.f0
  a3 : p.f0 ≤ 3
  b0 : 0 ≤ p.f1
  b1 : p.f1 < 268435456
  dat : p.f2 = true → p.f3 = []
  kid : p.f2 = false → p.f4 = []
  kids : ∀ k, k ∈ p.f4 → good (mir k) = true ∧ tsize (mir k) < n
  len : p.f3.length < n
  num : p.f4.length < n
  all : tsizeL (mirL p.f4) < n

theorem mirL_length (l : List S25) : (mirL l).length = l.length := by rw [mirL_eq, List.length_map]
theorem good_mem {l : List S25} (h : goodL (mirL l) = true) {k : S25} (hk : k ∈ l) : good (mir k) = true := by
  rw [mirL_eq, goodL_all, List.all_map] at h
  exact List.all_eq_true.1 h k hk
theorem tsize_mem : ∀ {l : List S25} {k : S25}, k ∈ l → tsize (mir k) ≤ tsizeL (mirL l)
  | x :: xs, k, h => by
    rw [mirL, tsizeL]
    rcases List.mem_cons.1 h with rfl | h
    · omega
    · have := tsize_mem h
      omega

theorem fit_of {p : S25} (h : good (mir p) = true) : Fit p (tsize (mir p)) := by
  obtain ⟨a, b, c, d, l⟩ := p
  rw [mir, good] at h
  simp only [Bool.and_eq_true, decide_eq_true_eq] at h
  obtain ⟨⟨⟨⟨⟨a0, a3⟩, b0⟩, b1⟩, hc⟩, hg⟩ := h
  rw [mir]
  have hl := len_le_tsizeL (mirL l)
  rw [mirL_length] at hl
  refine ⟨a0, a3, b0, b1, ?_, ?_, fun k hk => ⟨good_mem hg hk, ?_⟩, ?_, ?_, ?_⟩
  · rintro (rfl : c = true)
    rw [if_pos rfl] at hc
    exact List.eq_nil_of_length_eq_zero (by simpa using hc)
  · rintro (rfl : c = false)
    rw [if_neg (by decide)] at hc
    have : (mirL l).length = 0 := by simpa using hc
    exact List.eq_nil_of_length_eq_zero (by rwa [mirL_length] at this)
  · have h1 : tsize (mir k) ≤ tsizeL (mirL l) := tsize_mem (l := l) hk
    rw [tsize]; omega
  · show d.length < _
    rw [tsize]; omega
  · show l.length < _
    rw [tsize]; omega
  · show tsizeL (mirL l) < _
    rw [tsize]; omega

theorem pk_bytes {p : S25} (h : good (mir p) = true) : pkBytes p.f0 p.f1 p.f2 (pkOf p).data = bytesT (mir p) := by
  have f := fit_of h
  obtain ⟨a, b, c, d, l⟩ := p
  rw [mir, bytesT, pkOf, pkBytes]
  cases c with
  | true =>
    have : d = [] := f.dat rfl
    subst this
    simp
  | false =>
    have : l = [] := f.kid rfl
    subst this
    simp [mirL, bytesL]

theorem bytesL_small {l : List S25} (h : goodL (mirL l) = true) (hn : tsizeL (mirL l) < 1000000000) : (bytesL (mirL l)).length < 14000000000 := by
  have := bytesL_le _ h (by omega)
  omega
theorem good_take {l : List S25} (h : goodL (mirL l) = true) (k : Nat) : goodL (mirL (l.take k)) = true := by
  rw [mirL_eq, goodL_all, List.all_map] at h ⊢
  exact List.all_eq_true.2 (fun x hx => List.all_eq_true.1 h x (List.mem_of_mem_take hx))
theorem tsizeL_take (l : List S25) (k : Nat) : tsizeL (mirL (l.take k)) ≤ tsizeL (mirL l) := by
  have h : mirL l = mirL (l.take k) ++ mirL (l.drop k) := by rw [← mirL_append, List.take_append_drop]
  rw [h, tsizeL_append]
  omega
end Go.Proofs.YtcohjechpnlogaaDoor.Ber

namespace Go.Proofs.YtcohjechpnlogaaDoor.Ber
open Go.RowKit Go.Proofs.YtcohjechpnlogaaDoorW.PrintWords Go.Proofs.YtcohjechpnlogaaDoor.Buf Go.Proofs.YtcohjechpnlogaaDoor.Pk Go.Proofs.YtcohjechpnlogaaDoor.Num Go.Proofs.YtcohjechpnlogaaDoor.Ident Go.Proofs.YtcohjechpnlogaaDoor.Tree Go.Proofs.YtcohjechpnlogaaDoor.PFnEncode
set_option linter.unusedVariables false
set_option linter.unusedSimpArgs false

/-- a packet as an argument -/
def arg25 (p : S25) (A3 : Option Addr) (c3 : Nat) (A4 : Option Addr) (c4 : Nat) : Value := .agg #[.int .i64 p.f0, .int .i64 p.f1, .bool p.f2, .slice A3 p.f3.length c3, .slice A4 p.f4.length c4]

theorem and3 : ∀ n : Fin 4, Go.bits .and .i64 ((n : Nat) : Int) 3 = ((n : Nat) : Int) := by decide +kernel

theorem C_far {w : World} {A : Option Addr} {xs : List Int} {g : Nat} (h : B8.C w A xs.length xs) (hg : w.heap.size ≤ g) : ∀ a, A = some a → 1 ≤ xs.length → a.block ≠ g := by
  rintro a rfl h1 rfl
  rcases reads_cells h with ⟨h2, _⟩ | ⟨a', h2 | h2, hc⟩
  · cases h2
  · injection h2 with h2
    subst h2
    have := hc 0 (.int .u8 xs[0]) (by simp [nums])
    have h5 := World.block_lt_of_cell? w _ this
    have h6 : (a.add 0).block = a.block := by unfold Addr.add; split <;> rfl
    rw [h6] at h5
    omega
  · rw [h2] at h1; exact absurd h1 (by decide)

set_option maxHeartbeats 800000 in
set_option maxRecDepth 100000 in
theorem built_prim (a b : Int) (d : List Int) (A3 : Option Addr) (c3 : Nat) (v4 : Value) (w0 w : World) (a0 : 0 ≤ a) (a3 : a ≤ 3) (b0 : 0 ≤ b) (b1 : b < 268435456) (h3 : B8.C w0 A3 d.length d) (hd : d.length < 1000000000) (hb : Below w0.heap.size w0 w) :
    Calls Tryd.prog 27 #[.agg #[.int .i64 a, .int .i64 b, .bool false, .slice A3 d.length c3, v4]] w fun e w' => Made w ⟨a * 64, 0, b, .nilIface, [], d, [], ⟨#[]⟩⟩ e w' := by
  have e1 : Go.bits .and .i64 a 3 = a := by
    have e := and3 ⟨a.toNat, by omega⟩
    simp only [Int.toNat_of_nonneg a0] at e
    exact e
  have e2 : wrap64 (a * 64) = a * 64 := by unfold wrap64; omega
  have e3 : (a * 64) % 256 = a * 64 := by omega
  have e4 : IntKind.u64.wrap b = b := IntWalk.u64_in _ (by omega)
  have e5 : b % 18446744073709551616 = b := by omega
  go_enter Tryd.func27, Tryd.ntmps27
  go_wp2_with (first
    | (go_at_call 41
       obtain ⟨W0, hW0⟩ : ∃ W0, W0 = w.alloc (.cells #[.int .i64 a, .int .i64 b, .bool false, .slice A3 d.length c3, v4] 25) := ⟨_, rfl⟩
       rw [← hW0]
       have hb0 : Below w.heap.size w W0 := by rw [hW0]; exact below_alloc (Below.refl _ _) _
       have hx0 : W0.heap[w.heap.size]? = some (.cells #[.int .i64 a, .int .i64 b, .bool false, .slice A3 d.length c3, v4] 25 (0, 0)) := by rw [hW0]; exact blk_new _ _
       clear hW0
       refine (encode_nil (a * 64) 0 b ⟨#[]⟩ W0).mono ?_
       rintro e W1 ⟨q, rfl, hI1, hB1⟩
       obtain ⟨db, v, bv, cv, P1⟩ := parts_of hI1.bound
       have k2 : W1.cell? ⟨w.heap.size, 2, none⟩ = some (.bool false) := blk_cell (blk_below hx0 hB1) 2
       have k3 : W1.cell? ⟨w.heap.size, 3, none⟩ = some (.slice A3 d.length c3) := blk_cell (blk_below hx0 hB1) 3
       have k5 : W1.cell? ⟨q, 5, none⟩ = some (.pointer (some ⟨db, 0, none⟩)) := P1.cell 5
       have hB2 : Below w.heap.size w W1.drew := (hb0.trans (hB1.mono hb0.size)).drew
       have hC2 : B8.C W1.drew A3 d.length d := Kd.C_below (Kd.C_below h3 hb) hB2
       have P2 := P1.below (Below.refl _ W1).drew
       have HW2 := Lib.hid (write_row db _ [] d A3 c3 W1.drew P2.buf hC2 (C_far h3 (Nat.le_trans hb.size (Nat.le_trans hb0.size P1.led))) (by simp; omega))
       have HP2 := Lib.hid P2
       have HB2 := Lib.hid hB2
       have HS2 := Lib.hid hb0.size
       have HS3 : Hid (W0.heap.size ≤ W1.drew.heap.size) := Lib.hid hB1.size
       clear hb0 hx0 hI1 hB1 P1 hB2 hC2 P2))
  go_region_with (go_at_call 42; with_reducible refine HW2.out.mono ?_; rintro e W3 hw; obtain ⟨rfl, hO3, v3, hP3⟩ := HP2.out.wrote hw HS3.out; have HO3 := Lib.hid hO3; have HP3 := Lib.hid hP3; clear hw hO3 hP3)
  all_goals (
    go_wp2
    go_ret
    refine ⟨q, rfl, (HP3.out.okmono (fun _ _ => trivial)).pk.lower HS2.out, HB2.out.trans (HO3.out.below HB2.out.size (fun i hi => Nat.le_trans HS2.out hi.2.1))⟩)

theorem pkOf_cls (p : S25) : (pkOf p).cls = p.f0 * 64 := by cases p; rfl
theorem pkOf_typ (p : S25) : (pkOf p).typ = if p.f2 then 32 else 0 := by cases p; rfl
theorem pkOf_tag (p : S25) : (pkOf p).tag = p.f1 := by cases p; rfl
theorem pkOf_small {p : S25} (h : good (mir p) = true) (hn : tsize (mir p) ≤ 1000000) : (pkOf p).data.length < 1099511627776 := by
  have h1 := bytesT_le _ h (by omega)
  rw [← pk_bytes h] at h1
  simp only [pkBytes, List.length_append] at h1
  omega
/-- the packet after so many children -/
def upTo (a b : Int) (l : List S25) (k : Nat) : Pk := ⟨a * 64, 32, b, .nilIface, [], bytesL (mirL (l.take k)), pkL (l.take k), ⟨#[]⟩⟩

theorem upTo_step (a b : Int) {l : List S25} {k : Nat} (hk : k < l.length) {kid : S25} (hkid : kid = rd_T25 l (k : Int)) (hg : good (mir kid) = true) :
    ({ upTo a b l k with data := (upTo a b l k).data ++ pkBytes kid.f0 kid.f1 kid.f2 (pkOf kid).data, kids := (upTo a b l k).kids ++ [pkOf kid] } : Pk) = upTo a b l (k + 1) := by
  have ht : l.take (k + 1) = l.take k ++ [kid] := by
    rw [hkid, rd_T25, Int.toNat_natCast, List.getD_eq_getElem?_getD, List.getElem?_eq_getElem hk]
    exact List.take_succ_eq_append_getElem hk
  unfold upTo
  rw [ht, mirL_append, bytesL_append, pkL_append, pk_bytes hg]
  simp [mirL, bytesL, pkL]

theorem upTo_small (a b : Int) {l : List S25} (hg : goodL (mirL l) = true) (ht : tsizeL (mirL l) < 1000001) (k : Nat) : (upTo a b l k).data.length < 1099511627776 := by
  have h1 : (bytesL (mirL (l.take k))).length < 14000000000 := bytesL_small (good_take hg k) (by have := tsizeL_take l k; omega)
  show (bytesL (mirL (l.take k))).length < _
  omega
theorem upTo_kids (a b : Int) {l : List S25} (hl : l.length < 1000001) (k : Nat) : (upTo a b l k).kids.length < 1099511627776 := by
  rw [upTo]
  show (pkL (l.take k)).length < _
  rw [pkL_length, List.length_take]
  omega

/-- One more child. -/
theorem round_app {a b : Int} {l : List S25} {k : Nat} {kid : S25} {wr W5 W6 : World} {base q qc : Nat} (hgl : goodL (mirL l) = true) (hal : tsizeL (mirL l) < 1000001) (hll : l.length < 1000001) (kg : good (mir kid) = true) (kt : tsize (mir kid) ≤ 1000000)
    (hst : ({ upTo a b l k with data := (upTo a b l k).data ++ pkBytes kid.f0 kid.f1 kid.f2 (pkOf kid).data, kids := (upTo a b l k).kids ++ [pkOf kid] } : Pk) = upTo a b l (k + 1))
    (hI : IsPk wr base (fun _ => True) q (upTo a b l k)) (hbase : base ≤ wr.heap.size) (hb5 : Below wr.heap.size wr W5) (hIc : IsPk W6 W5.heap.size (fun _ => True) qc (pkOf kid)) (hB6 : Below W5.heap.size W5 W6) :
    Calls Tryd.prog 43 #[.pointer (some ⟨q, 0, none⟩), .pointer (some ⟨qc, 0, none⟩)] W6 fun e w' => (∃ u, e = .returned u) ∧ IsPk w' base (fun _ => True) q (upTo a b l (k + 1)) ∧ Below base W6 w' := by
  have kf := fit_of kg
  have hs5 := hb5.size
  have hs6 := hB6.size
  have hd1 := upTo_small a b hgl hal k
  have hd2 := upTo_kids a b hll k
  have hd3 := pkOf_small kg kt
  have hc1 := pkOf_cls kid
  have hc2 := pkOf_typ kid
  have hc3 := pkOf_tag kid
  obtain ⟨x, hx⟩ : ∃ x, x = upTo a b l k := ⟨_, rfl⟩
  obtain ⟨y, hy⟩ : ∃ y, y = pkOf kid := ⟨_, rfl⟩
  rw [← hx] at hst hI hd1 hd2
  rw [← hy] at hst hIc hd3 hc1 hc2 hc3
  clear hx hy
  obtain ⟨db, v, bv, cv, P6⟩ := parts_of ((hI.bound.below hb5).below hB6)
  obtain ⟨dq, vq, bq, cq, C6⟩ := parts_of (hIc.bound.lower (Nat.le_trans hbase hs5))
  refine (append_any kid.f0 kid.f1 kid.f2 kf.a0 kf.a3 kf.b0 kf.b1 x y hc1 hc2 hc3 hd3 hd1 hd2 W6 P6 C6 ?_ (fun j h1 => h1.2.2) (Nat.le_trans hbase (Nat.le_trans hs5 hs6)) (fun j h1 => h1.2.1)).mono ?_
  · intro j h1 h2
    have h3 := h1.2.1
    have h4 := h2.2.2
    omega
  · rintro e W7 ⟨hu, hO7, v7, cv7, hP7⟩
    have h7 := (hP7.okmono (ok' := fun _ => True) (fun _ _ => trivial)).pk
    rw [hst] at h7
    exact ⟨hu, h7, hO7.below (Nat.le_trans hbase (Nat.le_trans hs5 hs6)) (fun i hi => hi.2.1)⟩

end Go.Proofs.YtcohjechpnlogaaDoor.Ber

namespace Go.Proofs.YtcohjechpnlogaaDoor.Ber
open Go.RowKit Go.Proofs.YtcohjechpnlogaaDoorW.PrintWords Go.Proofs.YtcohjechpnlogaaDoor.Buf Go.Proofs.YtcohjechpnlogaaDoor.Pk Go.Proofs.YtcohjechpnlogaaDoor.Num Go.Proofs.YtcohjechpnlogaaDoor.Ident Go.Proofs.YtcohjechpnlogaaDoor.Tree Go.Proofs.YtcohjechpnlogaaDoor.PFnEncode
set_option linter.unusedVariables false
set_option linter.unusedSimpArgs false

set_option maxHeartbeats 400000 in
set_option maxRecDepth 100000 in
theorem built_any (w0 : World) : ∀ (n : Nat), n ≤ 1000000 → ∀ (p : S25) (A3 : Option Addr) (c3 : Nat) (A4 : Option Addr) (c4 : Nat) (w : World), good (mir p) = true → tsize (mir p) ≤ n → B8.C w0 A3 p.f3.length p.f3 → k25.C w0 A4 p.f4.length p.f4 → Below w0.heap.size w0 w →
    Calls Tryd.prog 27 #[.agg #[.int .i64 p.f0, .int .i64 p.f1, .bool p.f2, .slice A3 p.f3.length c3, .slice A4 p.f4.length c4]] w (Made w (pkOf p)) := by
  intro n
  induction n with
  | zero =>
    rintro _ ⟨a, b, c, d, l⟩ A3 c3 A4 c4 w hg ht
    rw [mir, tsize] at ht
    omega
  | succ n ih =>
    rintro hn p A3 c3 A4 c4 w hg ht h3 h4 hb
    have hf := fit_of hg
    obtain ⟨a, b, c, d, l⟩ := p
    cases c with
    | false =>
      have hl : l = [] := hf.kid rfl
      subst hl
      exact built_prim a b d A3 c3 _ w0 w hf.a0 hf.a3 hf.b0 hf.b1 h3 (by have := hf.len; simp only at this; omega) hb
    | true =>
      obtain ⟨a0, a3, b0, b1, -, -, hkids, -, hnum, hall⟩ := hf
      simp only at a0 a3 b0 b1 hkids hnum hall h3 h4 ⊢
      have hgl : goodL (mirL l) = true := by
        rw [mir, good] at hg
        simp only [Bool.and_eq_true] at hg
        exact hg.2
      have e1 : Go.bits .and .i64 a 3 = a := by
        have e := and3 ⟨a.toNat, by omega⟩
        simp only [Int.toNat_of_nonneg a0] at e
        exact e
      have e2 : wrap64 (a * 64) = a * 64 := by unfold wrap64; omega
      have e3 : (a * 64) % 256 = a * 64 := by omega
      have e4 : IntKind.u64.wrap b = b := IntWalk.u64_in _ (by omega)
      have e5 : b % 18446744073709551616 = b := by omega
      have H4 := Lib.hid h4
      have HB := Lib.hid hb
      have HKIDS := Lib.hid hkids
      have HGL := Lib.hid hgl
      have HIH := Lib.hid (ih (by omega))
      have hll : l.length < 1000001 := by omega
      have hal : tsizeL (mirL l) < 1000001 := by omega
      have htn : tsizeL (mirL l) ≤ n := by rw [mir, tsize] at ht; omega
      clear h3 h4 hkids hgl hg ht hnum hall hb ih
      obtain ⟨fin, hfin⟩ : ∃ fin, fin = pkOf ⟨a, b, true, d, l⟩ := ⟨_, rfl⟩
      rw [← hfin]
      have HF := Lib.hid hfin
      clear hfin
      go_enter Tryd.func27, Tryd.ntmps27
      go_wp2_with (first
        | (go_at_call 41
           obtain ⟨W0, hW0⟩ : ∃ W0, W0 = w.alloc (.cells #[.int .i64 a, .int .i64 b, .bool true, .slice A3 d.length c3, .slice A4 l.length c4] 25) := ⟨_, rfl⟩
           rw [← hW0]
           have hb0 : Below w.heap.size w W0 := by rw [hW0]; exact below_alloc (Below.refl _ _) _
           have hx0 : W0.heap[w.heap.size]? = some (.cells #[.int .i64 a, .int .i64 b, .bool true, .slice A3 d.length c3, .slice A4 l.length c4] 25 (0, 0)) := by rw [hW0]; exact blk_new _ _
           clear hW0
           refine (encode_nil (a * 64) 32 b ⟨#[]⟩ W0).mono ?_
           rintro e W1 ⟨q, rfl, hI1, hB1⟩
           have k2 : W1.cell? ⟨w.heap.size, 2, none⟩ = some (.bool true) := blk_cell (blk_below hx0 hB1) 2
           have k4 : W1.cell? ⟨w.heap.size, 4, none⟩ = some (.slice A4 l.length c4) := blk_cell (blk_below hx0 hB1) 4
           have HI1 := Lib.hid (hI1.lower hb0.size)
           have HB1 := Lib.hid (hb0.trans (hB1.mono hb0.size))
           clear hb0 hx0 hI1 hB1))
      go_loopw [33] (fun i wr => ∃ k : Nat, i = .int .i64 k ∧ k ≤ l.length ∧ Hid (IsPk wr w.heap.size (fun _ => True) q (upTo a b l k)) ∧ Hid (Below w.heap.size w wr)) (fun i _ => l.length - (intOf i).toNat)
      case atStart => exact ⟨0, rfl, Nat.zero_le _, HI1, HB1⟩
      case round =>
        obtain ⟨k, rfl, hk, HI, HBr⟩ := hrel
        clear e1 e2 e3 e4 e5
        by_cases hlt : k < l.length
        · have hBw : Below w0.heap.size w0 wr := HB.out.trans (HBr.out.mono HB.out.size)
          obtain ⟨ad, A3', c3', A4', c4', rfl, e0', e1', e2', e3', e4', m3, n3, m4, n4⟩ := at_T25 H4.out (k : Int) (by omega) (by omega)
          rw [Int.toNat_natCast] at e0' e1' e2' e3' e4'
          obtain ⟨kid, hkid⟩ : ∃ kid, kid = rd_T25 l (k : Int) := ⟨_, rfl⟩
          rw [← hkid] at e0' e1' e2' e3' e4' m3 n3 m4 n4
          have hmem : kid ∈ l := by
            rw [hkid, rd_T25, Int.toNat_natCast, List.getD_eq_getElem?_getD, List.getElem?_eq_getElem hlt]
            exact List.getElem_mem hlt
          obtain ⟨kg, kt⟩ := HKIDS.out kid hmem
          rw [mir, tsize] at kt
          have kf := fit_of kg
          have k1t : tsize (mir kid) ≤ 1000000 := by have := tsize_mem (l := l) hmem; omega
          replace e0' := (hBw.cell (World.block_lt_of_cell? w0 _ e0')).trans e0'
          replace e1' := (hBw.cell (World.block_lt_of_cell? w0 _ e1')).trans e1'
          replace e2' := (hBw.cell (World.block_lt_of_cell? w0 _ e2')).trans e2'
          replace e3' := (hBw.cell (World.block_lt_of_cell? w0 _ e3')).trans e3'
          replace e4' := (hBw.cell (World.block_lt_of_cell? w0 _ e4')).trans e4'
          have hb5 : Below wr.heap.size wr (wr.alloc (.cells #[.int .i64 kid.f0, .int .i64 kid.f1, .bool kid.f2, .slice A3' kid.f3.length c3', .slice A4' kid.f4.length c4'] 25)) := below_alloc (Below.refl _ _) _
          have HC := Lib.hid (HIH.out kid A3' c3' A4' c4' _ kg (by have := tsize_mem (l := l) hmem; omega) n3 n4 (hBw.trans (hb5.mono hBw.size)))
          have HSTEP := Lib.hid (upTo_step a b hlt hkid kg)
          have HB5 := Lib.hid hb5
          have HKF := Lib.hid kf
          have HKG := Lib.hid kg
          clear hkid hmem kt kf hBw hb5 kg
          go_wp2_with (first
            | (go_at_call 27
               with_reducible refine HC.out.mono ?_
               rintro e W6 ⟨qc, rfl, hIc, hB6⟩
               have HA := Lib.hid (round_app HGL.out hal hll HKG.out k1t HSTEP.out HI.out HBr.out.size HB5.out hIc hB6)
               have HB6 := Lib.hid (HBr.out.trans ((HB5.out.mono HBr.out.size).trans (hB6.mono (Nat.le_trans HBr.out.size HB5.out.size))))
               clear hIc hB6 HC)
            | (go_at_call 43
               with_reducible refine HA.out.mono ?_
               rintro e W7 ⟨⟨u, rfl⟩, hI7, hB7⟩
               have HI7 := Lib.hid hI7
               have HB7 := Lib.hid (HB6.out.trans hB7)
               clear hI7 hB7 HA HB6))
          exact ⟨⟨k + 1, rfl, hlt, HI7, HB7⟩, by
            show l.length - ((k : Int) + 1).toNat < l.length - ((k : Int)).toNat
            rw [show ((k : Int) + 1).toNat = k + 1 from rfl, Int.toNat_natCast]
            omega⟩
        · obtain rfl : k = l.length := by omega
          go_wp2
          go_ret
          refine ⟨q, rfl, ?_, HBr.out⟩
          have := HI.out
          rw [HF.out, pkOf, if_pos rfl, if_pos rfl, if_pos rfl]
          rw [upTo, List.take_length] at this
          exact this
end Go.Proofs.YtcohjechpnlogaaDoor.Ber

namespace Go.Proofs.YtcohjechpnlogaaDoor.Ber
open Go.RowKit Go.Proofs.YtcohjechpnlogaaDoorW.PrintWords Go.Proofs.YtcohjechpnlogaaDoor.Buf Go.Proofs.YtcohjechpnlogaaDoor.Pk Go.Proofs.YtcohjechpnlogaaDoor.Num Go.Proofs.YtcohjechpnlogaaDoor.Ident Go.Proofs.YtcohjechpnlogaaDoor.Tree Go.Proofs.YtcohjechpnlogaaDoor.PFnEncode
set_option linter.unusedVariables false
set_option linter.unusedSimpArgs false

set_option maxHeartbeats 800000 in
set_option maxRecDepth 100000 in
theorem encodeP_any (w0 : World) (p : S25) (A3 : Option Addr) (c3 : Nat) (A4 : Option Addr) (c4 : Nat) (w : World) (hg : good (mir p) = true) (ht : tsize (mir p) ≤ 1000000) (h3 : B8.C w0 A3 p.f3.length p.f3) (h4 : k25.C w0 A4 p.f4.length p.f4) (hb : Below w0.heap.size w0 w) :
    Calls Tryd.prog 10 #[.agg #[.int .i64 p.f0, .int .i64 p.f1, .bool p.f2, .slice A3 p.f3.length c3, .slice A4 p.f4.length c4]] w fun e w' => ∃ r, e = .returned r ∧ w'.ownsRow w.heap.size 5 1 r (bytesT (mir p)).length (nums .u8 (bytesT (mir p))) ∧ Below w.heap.size w w' := by
  have hba : Below w.heap.size w (w.alloc (.cells #[.int .i64 p.f0, .int .i64 p.f1, .bool p.f2, .slice A3 p.f3.length c3, .slice A4 p.f4.length c4] 25)) := below_alloc (Below.refl _ _) _
  have HC := Lib.hid (built_any w0 1000000 (Nat.le_refl _) p A3 c3 A4 c4 _ hg ht h3 h4 (hb.trans (hba.mono hb.size)))
  have HB := Lib.hid hba
  have hf := fit_of hg
  have hd3 := pkOf_small hg ht
  have hpb := pk_bytes hg
  have HBY : Hid (∀ (W : World) (base : Nat) (q : Nat), IsPk W base (fun _ => True) q (pkOf p) → Calls Tryd.prog 28 #[.pointer (some ⟨q, 0, none⟩)] W fun e w' => ∃ r, e = .returned r ∧ w'.ownsRow W.heap.size 5 1 r (bytesT (mir p)).length (nums .u8 (bytesT (mir p))) ∧ Below W.heap.size W w') := Lib.hid (by
    intro W base q hI
    obtain ⟨db, v, bv, cv, P⟩ := parts_of hI
    rw [← hpb]
    exact bytes_any p.f0 p.f1 p.f2 hf.a0 hf.a3 hf.b0 hf.b1 (pkOf p) (pkOf_cls p) (pkOf_typ p) (pkOf_tag p) hd3 W P)
  clear hba hf hd3 hpb hg h3 h4 hb ht
  go_enter Tryd.func10, Tryd.ntmps10
  go_wp2_with (first
    | (go_at_call 27
       with_reducible refine HC.out.mono ?_
       rintro e W1 ⟨q, rfl, hI, hB1⟩
       have HBQ := Lib.hid (HBY.out W1 _ q hI)
       have HB1 := Lib.hid (HB.out.trans (hB1.mono HB.out.size))
       clear hI hB1)
    | (go_at_call 28
       with_reducible refine HBQ.out.mono ?_
       rintro e W2 ⟨r, rfl, hr, hB2⟩))
  go_ret
  exact ⟨r, rfl, own_weaken hr HB1.out.size, HB1.out.trans (hB2.mono HB1.out.size)⟩
end Go.Proofs.YtcohjechpnlogaaDoor.Ber
