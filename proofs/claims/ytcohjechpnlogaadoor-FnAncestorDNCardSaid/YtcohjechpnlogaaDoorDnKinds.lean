/- Names in memory: pointers to attributes, to parts, to names; in the print's framework of kinds. -/
import Derived.Test.YtcohjechpnlogaaDoorPDNx
import Derived.Handy
import Derived.Lib.Hide
import Derived.KernelRfl
namespace Go.Proofs.YtcohjechpnlogaaDoor.Dn
open Go.RowKit Go.Proofs.YtcohjechpnlogaaDoorW.PrintWords Go.Proofs.YtcohjechpnlogaaDoor.PDN
set_option linter.unusedVariables false
set_option linter.unusedSimpArgs false

/-- A pointer to a block that holds one value. -/
def ptr {α : Type} (T : Nat) (d : Kd α) : Kd α where
  sz := 1
  E := T :: d.E
  K := fun w x cs => ∃ b inner, cs = [.pointer (some ⟨b, 0, none⟩)] ∧ w.heap[b]? = some (.cells inner T (0, 0)) ∧ d.K w x inner.toList
  M := fun w base ok x cs => ∃ b inner, cs = [.pointer (some ⟨b, 0, none⟩)] ∧ (ok b ∧ base ≤ b) ∧ w.heap[b]? = some (.cells inner T (0, 0)) ∧ d.M w base (fun k => ok k ∧ k ≠ b) x inner.toList
  K_len := by
    rintro w x cs ⟨b, inner, rfl, _⟩
    rfl
  K_one := by
    rintro w x cs ⟨b, inner, rfl, _⟩ u hu
    rw [List.mem_singleton.1 hu]
    rfl
  K_below := by
    rintro w w1 x cs hb ⟨b, inner, rfl, h, hk⟩
    exact ⟨b, inner, rfl, blk_below h hb, d.K_below hb hk⟩
  K_of_M := by
    rintro w base ok x cs ⟨b, inner, rfl, _, h, hm⟩
    exact ⟨b, inner, rfl, h, d.K_of_M hm⟩
  M_mono := by
    rintro w base ok ok' x cs hok ⟨b, inner, rfl, ⟨h1, h2⟩, h, hm⟩
    exact ⟨b, inner, rfl, ⟨hok _ h1, h2⟩, h, d.M_mono (fun k hk => ⟨hok k hk.1, hk.2⟩) hm⟩
  M_bound := by
    rintro w base ok x cs ⟨b, inner, rfl, ⟨h1, h2⟩, h, hm⟩
    refine ⟨b, inner, rfl, ⟨⟨h1, h2, blk_lt h, T, List.mem_cons_self, _, h⟩, h2⟩, h, d.M_mono ?_ (d.M_bound hm)⟩
    rintro k ⟨⟨k1, k1'⟩, k2, k3, q, hq, kc⟩
    exact ⟨⟨k1, k2, k3, q, List.mem_cons_of_mem _ hq, kc⟩, k1'⟩
  M_move := by
    rintro w w1 base ok x cs hm ⟨b, inner, rfl, ⟨h1, h2⟩, h, hk⟩
    exact ⟨b, inner, rfl, ⟨h1, h2⟩, (hm b h1).trans h, d.M_move (fun k hk => hm k hk.1) hk⟩
  M_lower := by
    rintro w base base' ok x cs hb ⟨b, inner, rfl, ⟨h1, h2⟩, h, hk⟩
    exact ⟨b, inner, rfl, ⟨h1, by omega⟩, h, d.M_lower hb hk⟩

abbrev TA : Nat := 93
abbrev TR : Nat := 91
abbrev TD : Nat := 87
abbrev TPA : Nat := 92
abbrev TPR : Nat := 88
def kA : Kd S53 := ptr TA k53
def kR : Kd (List S53) := ptr TR (Kd.slice TPA kA)
def kD : Kd (List (List S53)) := ptr TD (Kd.slice TPR kR)

/-- an attribute at a block -/
def IsA (w : World) (b : Nat) (x : S53) : Prop := w.heap[b]? = some (.cells #[.string x.f0, .string x.f1] TA (0, 0))
/-- a part of a name at a block: its row of attributes -/
def IsR (w : World) (b : Nat) (xs : List S53) : Prop := ∃ A c, w.heap[b]? = some (.cells #[.slice A xs.length c] TR (0, 0)) ∧ xs.length ≤ c ∧ kA.C w A xs.length xs
def IsD (w : World) (b : Nat) (xs : List (List S53)) : Prop := ∃ A c, w.heap[b]? = some (.cells #[.slice A xs.length c] TD (0, 0)) ∧ xs.length ≤ c ∧ kR.C w A xs.length xs

theorem kA_K {w : World} {x : S53} {cs : List Value} (h : kA.K w x cs) : ∃ b, cs = [.pointer (some ⟨b, 0, none⟩)] ∧ IsA w b x := by
  obtain ⟨b, inner, rfl, hb, hk⟩ := h
  obtain ⟨y, z, he, ⟨rfl, rfl⟩⟩ : ∃ y z, inner.toList = [y, z] ∧ y = .string x.f0 ∧ z = .string x.f1 := by
    obtain ⟨c1, c2, he, h1, h2⟩ := hk
    obtain rfl : c1 = [.string x.f0] := h1
    obtain rfl : c2 = [.string x.f1] := h2
    exact ⟨_, _, he, rfl, rfl⟩
  obtain ⟨l⟩ := inner
  obtain rfl : l = _ := he
  exact ⟨b, rfl, hb⟩
theorem kR_K {w : World} {x : List S53} {cs : List Value} (h : kR.K w x cs) : ∃ b, cs = [.pointer (some ⟨b, 0, none⟩)] ∧ IsR w b x := by
  obtain ⟨b, inner, rfl, hb, A, c, he, hl, hc⟩ := h
  obtain ⟨l⟩ := inner
  obtain rfl : l = _ := he
  exact ⟨b, rfl, A, c, hb, hl, hc⟩
theorem kD_K {w : World} {x : List (List S53)} {cs : List Value} (h : kD.K w x cs) : ∃ b, cs = [.pointer (some ⟨b, 0, none⟩)] ∧ IsD w b x := by
  obtain ⟨b, inner, rfl, hb, A, c, he, hl, hc⟩ := h
  obtain ⟨l⟩ := inner
  obtain rfl : l = _ := he
  exact ⟨b, rfl, A, c, hb, hl, hc⟩

theorem IsA.below {w w1 : World} {b : Nat} {x : S53} (h : IsA w b x) (hb : Below w.heap.size w w1) : IsA w1 b x := blk_below h hb
theorem IsR.below {w w1 : World} {b : Nat} {x : List S53} (h : IsR w b x) (hb : Below w.heap.size w w1) : IsR w1 b x := by
  obtain ⟨A, c, h1, h2, h3⟩ := h
  exact ⟨A, c, blk_below h1 hb, h2, Kd.C_below h3 hb⟩
theorem IsD.below {w w1 : World} {b : Nat} {x : List (List S53)} (h : IsD w b x) (hb : Below w.heap.size w w1) : IsD w1 b x := by
  obtain ⟨A, c, h1, h2, h3⟩ := h
  exact ⟨A, c, blk_below h1 hb, h2, Kd.C_below h3 hb⟩

theorem C_at {α : Type} {d : Kd α} (hsz : d.sz = 1) {w : World} {A : Option Addr} {n : Nat} {xs : List α} (h : d.C w A n xs) (i : Nat) (h1 : i < n) (hx : i < xs.length) :
    ∃ ad c, A = some ad ∧ d.K w xs[i] c ∧ ∀ j u, c[j]? = some u → w.cell? (ad.add (i + j)) = some u := by
  obtain ⟨ad, c, e, _, hK, hc⟩ := Kd.C_get h xs[i] (i : Int) (by omega) (by omega)
  rw [Int.toNat_natCast, List.getD_eq_getElem?_getD, List.getElem?_eq_getElem hx] at hK
  refine ⟨ad, c, e, hK, fun j u hu => ?_⟩
  have := hc j u hu
  rwa [Int.toNat_natCast, hsz, Nat.mul_one] at this
theorem at_A {w : World} {A : Option Addr} {n : Nat} {xs : List S53} (h : kA.C w A n xs) (i : Nat) (h1 : i < n) (hx : i < xs.length) : ∃ ad b, A = some ad ∧ w.cell? (ad.add i) = some (.pointer (some ⟨b, 0, none⟩)) ∧ IsA w b xs[i] := by
  obtain ⟨ad, c, e, hK, hc⟩ := C_at rfl h i h1 hx
  obtain ⟨b, rfl, ha⟩ := kA_K hK
  exact ⟨ad, b, e, by simpa using hc 0 _ rfl, ha⟩
theorem at_R {w : World} {A : Option Addr} {n : Nat} {xs : List (List S53)} (h : kR.C w A n xs) (i : Nat) (h1 : i < n) (hx : i < xs.length) : ∃ ad b, A = some ad ∧ w.cell? (ad.add i) = some (.pointer (some ⟨b, 0, none⟩)) ∧ IsR w b xs[i] := by
  obtain ⟨ad, c, e, hK, hc⟩ := C_at rfl h i h1 hx
  obtain ⟨b, rfl, ha⟩ := kR_K hK
  exact ⟨ad, b, e, by simpa using hc 0 _ rfl, ha⟩
end Go.Proofs.YtcohjechpnlogaaDoor.Dn
