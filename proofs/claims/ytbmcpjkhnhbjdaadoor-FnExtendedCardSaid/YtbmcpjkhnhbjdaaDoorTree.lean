/- Plain maths on packets as trees: what the laws' reading 'within' gives, which trees are proper, the bytes of a tree; and that the printed functions of the reference end at every tree. No program is walked here. -/
import Derived.Test.YtbmcpjkhnhbjdaaDoorPFnEncodex0
import Derived.Test.YtbmcpjkhnhbjdaaDoorLen
namespace Go.Proofs.YtbmcpjkhnhbjdaaDoor.Tree
open Go.RowKit Go.Proofs.YtbmcpjkhnhbjdaaDoorW.PrintWords Go.Proofs.YtbmcpjkhnhbjdaaDoor.PFnEncode
set_option linter.unusedVariables false
set_option linter.unusedSimpArgs false

mutual
/-- the reference's packet of the same shape -/
def mir : S27 → S33
  | ⟨a, b, c, d, l⟩ => ⟨a, b, c, d, mirL l⟩
def mirL : List S27 → List S33
  | [] => []
  | x :: xs => mir x :: mirL xs
end
mutual
/-- a proper packet -/
def good : S33 → Bool
  | ⟨a, b, c, d, l⟩ => decide (0 ≤ a) && decide (a ≤ 3) && decide (0 ≤ b) && decide (b < 268435456) && (if c then decide (d.length = 0) else decide (l.length = 0)) && goodL l
def goodL : List S33 → Bool
  | [] => true
  | x :: xs => good x && goodL xs
end
mutual
/-- how many packets and bytes -/
def tsize : S33 → Nat
  | ⟨_, _, _, d, l⟩ => 1 + d.length + tsizeL l
def tsizeL : List S33 → Nat
  | [] => 0
  | x :: xs => tsize x + tsizeL xs
end

theorem mirL_eq (l : List S27) : mirL l = l.map mir := by
  induction l with
  | nil => rfl
  | cons x xs ih => rw [mirL, ih]; rfl
theorem goodL_all (l : List S33) : goodL l = l.all good := by
  induction l with
  | nil => rfl
  | cons x xs ih => rw [goodL, ih]; rfl
theorem goodL_append (l m : List S33) : goodL (l ++ m) = (goodL l && goodL m) := by rw [goodL_all, goodL_all, goodL_all, List.all_append]
theorem mirL_append (l m : List S27) : mirL (l ++ m) = mirL l ++ mirL m := by rw [mirL_eq, mirL_eq, mirL_eq, List.map_append]
theorem tsizeL_append (l m : List S33) : tsizeL (l ++ m) = tsizeL l + tsizeL m := by
  induction l with
  | nil => simp [tsizeL]
  | cons x xs ih => rw [List.cons_append, tsizeL, tsizeL, ih]; omega

/-- what is none -/
def bad : S33 := ⟨-1, 0, false, [], []⟩
theorem bad_not : good bad = false := by decide

mutual
/-- 'within': the packet that is read, and the room that is left -/
def wi : Nat → S27 → Int → S33 × Int
  | 0, p, r => (bad, r - (1 + p.f3.length))
  | d + 1, p, r => if r - (1 + p.f3.length) < 0 then (bad, r - (1 + p.f3.length)) else wiL d p p.f4 [] (r - (1 + p.f3.length))
def wiL : Nat → S27 → List S27 → List S33 → Int → S33 × Int
  | _, p, [], acc, r => (⟨p.f0, p.f1, p.f2, p.f3, acc⟩, r)
  | d, p, k :: ks, acc, r => if r < 0 then (bad, r) else wiL d p ks (acc ++ [(wi d k r).1]) (wi d k r).2
end

theorem wiL_good (d : Nat) (h : ∀ (p : S27) (r : Int), good (wi d p r).1 = true → (wi d p r).1 = mir p ∧ (wi d p r).2 + tsize (mir p) = r ∧ 0 ≤ (wi d p r).2) (p : S27) :
    ∀ (ks done : List S27) (acc : List S33) (r : Int), p.f4 = done ++ ks → acc.length = done.length → (goodL acc = true → acc = mirL done) → good (wiL d p ks acc r).1 = true → 0 ≤ r →
      (wiL d p ks acc r).1 = mir p ∧ (wiL d p ks acc r).2 + tsizeL (mirL ks) = r ∧ 0 ≤ (wiL d p ks acc r).2 := by
  intro ks
  induction ks with
  | nil =>
    intro done acc r hp hl ha hg hr
    rw [wiL] at hg ⊢
    have hga : goodL acc = true := by
      rw [good] at hg
      simp only [Bool.and_eq_true] at hg
      exact hg.2
    have e := ha hga
    obtain ⟨a, b, c, dd, l⟩ := p
    simp only [List.append_nil] at hp
    refine ⟨?_, by simp [mirL, tsizeL], hr⟩
    rw [mir, e, hp]
  | cons k ks ih =>
    intro done acc r hp hl ha hg hr
    rw [wiL] at hg ⊢
    rw [if_neg (by omega)] at hg ⊢
    have hlast : good (wi d k r).1 = true := by
      by_cases hgk : good (wi d k r).1 = true
      · exact hgk
      · exfalso
        exact absurd hg (by
          have := wiL_bad d p ks (acc ++ [(wi d k r).1]) (wi d k r).2 (by rw [goodL_append]; simp [goodL, hgk])
          rw [this]; decide)
    obtain ⟨h1, h2, h3⟩ := h k r hlast
    have := ih (done ++ [k]) (acc ++ [(wi d k r).1]) (wi d k r).2 (by rw [hp]; simp) (by simp [hl]) (fun hga => by
      rw [goodL_append] at hga
      simp only [Bool.and_eq_true] at hga
      rw [mirL_append, ha hga.1, h1]
      rfl) hg h3
    refine ⟨this.1, ?_, this.2.2⟩
    rw [mirL, tsizeL]
    have := this.2.1
    omega
where
  wiL_bad (d : Nat) (p : S27) : ∀ (ks : List S27) (acc : List S33) (r : Int), goodL acc = false → good (wiL d p ks acc r).1 = false := by
    intro ks
    induction ks with
    | nil => intro acc r h; rw [wiL, good, h, Bool.and_false]
    | cons k ks ih =>
      intro acc r h
      rw [wiL]
      split
      · rfl
      · exact ih _ _ (by rw [goodL_append, h, Bool.false_and])

theorem wi_good : ∀ (d : Nat) (p : S27) (r : Int), good (wi d p r).1 = true → (wi d p r).1 = mir p ∧ (wi d p r).2 + tsize (mir p) = r ∧ 0 ≤ (wi d p r).2 := by
  intro d
  induction d with
  | zero => intro p r h; rw [wi] at h; exact absurd h (show ¬ good bad = true by decide)
  | succ d ih =>
    intro p r h
    rw [wi] at h ⊢
    by_cases hr : r - (1 + (p.f3.length : Int)) < 0
    · rw [if_pos hr] at h
      exact absurd h (show ¬ good bad = true by decide)
    · rw [if_neg hr] at h ⊢
      have := wiL_good d ih p p.f4 [] [] (r - (1 + (p.f3.length : Int))) rfl rfl (fun _ => rfl) h (by omega)
      refine ⟨this.1, ?_, this.2.2⟩
      obtain ⟨a, b, c, dd, l⟩ := p
      rw [mir, tsize]
      have := this.2.1
      push_cast
      simp only at this ⊢
      omega
end Go.Proofs.YtbmcpjkhnhbjdaaDoor.Tree
