/- Texts in small letters are equal where strings.EqualFold says so; attributes, as the reference compares them. -/
import Derived.Test.YtcohjechpnlogaaDoorDnAttr
namespace Go.Proofs.YtcohjechpnlogaaDoor.Dn
open Go.RowKit Go.Proofs.YtcohjechpnlogaaDoorW.PrintWords Go.Proofs.YtcohjechpnlogaaDoor.PDN
set_option linter.unusedVariables false
set_option linter.unusedSimpArgs false

def g (b : UInt8) : UInt8 := UInt8.ofNat (fi (b.toNat : Int)).toNat
theorem g_toNat (b : UInt8) : (g b).toNat = if 65 ≤ b.toNat ∧ b.toNat ≤ 90 then b.toNat + 32 else b.toNat := by
  have hb := b.toNat_lt
  unfold g fi
  by_cases h : 65 ≤ b.toNat ∧ b.toNat ≤ 90
  · rw [if_pos h, if_pos (by omega)]
    rw [UInt8.toNat_ofNat']
    omega
  · rw [if_neg h, if_neg (by omega)]
    rw [UInt8.toNat_ofNat', Int.toNat_natCast]
    omega
theorem g_eq (x y : UInt8) : g x = g y ↔ Lib.foldEq x y = true := by
  rw [← UInt8.toNat_inj, g_toNat, g_toNat, Lib.foldEq, decide_eq_true_eq]
  split <;> split <;> omega
theorem fold_map : ∀ s t : List UInt8, s.map g = t.map g ↔ Lib.equalFold s t = true
  | [], [] => by simp [Lib.equalFold]
  | [], _ :: _ => by simp [Lib.equalFold]
  | _ :: _, [] => by simp [Lib.equalFold]
  | x :: s, y :: t => by
    rw [List.map_cons, List.map_cons, List.cons.injEq, g_eq, fold_map s t, Lib.equalFold, Bool.and_eq_true]
theorem low_data (s : ByteArray) : (low s).toList = s.data.toList.map g := by
  rw [ByteArray.toList_eq, low, strOfNums_data, bytesOf, List.map_map, List.map_map]
  rfl
theorem low_eq (s t : ByteArray) : (low s).toList = (low t).toList ↔ eqF s t = true := by
  rw [low_data, low_data, fold_map]
  rfl
theorem eqF_comm (s t : ByteArray) : eqF s t = eqF t s := by
  rw [Bool.eq_iff_iff, ← low_eq, ← low_eq]
  exact eq_comm
theorem eqF_trans {s t u : ByteArray} (h : eqF s t = true) (k : eqF t u = true) : eqF s u = true := by
  rw [← low_eq] at h k ⊢
  exact h.trans k
theorem eqF_same {s t : ByteArray} (h : s.toList = t.toList) : eqF s t = true := by
  rw [← low_eq, low_data, low_data]
  rw [ByteArray.toList_eq, ByteArray.toList_eq] at h
  rw [h]
theorem eqA_comm (fold : Bool) (x y : S53) : eqA fold x y = eqA fold y x := by
  unfold eqA
  rw [eqF_comm x.f0 y.f0, eqF_comm x.f1 y.f1]
  congr 2
  rw [Bool.eq_iff_iff, beq_iff_eq, beq_iff_eq]
  exact eq_comm
theorem eqA_type {fold : Bool} {x y : S53} (h : eqA fold x y = true) : eqF x.f0 y.f0 = true := by
  unfold eqA at h
  rw [Bool.and_eq_true] at h
  exact h.1

/-- the reference's attribute -/
def up (x : S53) : S54 := ⟨x.f0, x.f1⟩
structure Small (x : S53) : Prop where
  ty : x.f0.size ≤ 140737488355328
  val : x.f1.size ≤ 140737488355328
theorem folded_ok {s : ByteArray} (h : s.size ≤ 140737488355328) : spec_folded.f s = some (low s) := by
  rw [spec_folded.f, if_pos h]
theorem same_ok (fold : Bool) (x y : S53) (hx : Small x) (hy : Small y) : spec_sameName.f x.f0 x.f1 y.f0 y.f1 fold = some (eqA fold x y) := by
  unfold spec_sameName.f eqA
  simp only [folded_ok hx.ty, folded_ok hy.ty, folded_ok hx.val, folded_ok hy.val, Option.bind_some, low_eq]
  by_cases h0 : eqF x.f0 y.f0 = true
  · rw [if_pos h0, h0, Bool.true_and]
    by_cases h1 : x.f1.toList = y.f1.toList
    · rw [if_pos h1, h1]
      cases fold
      · simp
      · simp [eqF_same h1]
    · rw [if_neg h1]
      cases fold
      · simp [h1]
      · simp only [if_true]
        congr 1
        rw [Bool.eq_iff_iff, beq_iff_eq, low_eq]
  · rw [if_neg h0]
    have : eqF x.f0 y.f0 = false := by simpa using h0
    rw [this, Bool.false_and]
end Go.Proofs.YtcohjechpnlogaaDoor.Dn
