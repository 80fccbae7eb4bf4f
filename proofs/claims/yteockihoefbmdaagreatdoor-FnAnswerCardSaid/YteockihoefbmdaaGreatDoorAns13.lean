/- Parts of the proof of one law, in the order in which they build. What a law's argument reads as, in the print's kinds: from the row's reading ('DataW.trod') to 'Kd.K', for whole numbers, bools, strings, slices, structs, and types that hold themselves. General in the program. · The bytes of an argument are bytes. -/
import Derived.ProofKit
import Derived.SizedLaws
import Derived.Test.YteockihoefbmdaaGreatDoorAns1
import Derived.Test.YteockihoefbmdaaGreatDoorAns2
import Derived.Test.YteockihoefbmdaaGreatDoorAns3
import Derived.Test.YteockihoefbmdaaGreatDoorAns4
import Derived.Test.YteockihoefbmdaaGreatDoorAns5
import Derived.Test.YteockihoefbmdaaGreatDoorAns11
namespace Go.Proofs.YteockihoefbmdaaGreatDoor.Open
open Go.RowKit Go.Proofs.YteockihoefbmdaaGreatDoorW.PrintWords
set_option linter.unusedVariables false
set_option linter.unusedSimpArgs false

section
variable {H : Type} (enc : TypeId × Value → H) (P : Program) (W : World)

/-- Whatever of type t reads as a datum within so much fuel is of kind k. -/
def Opens {α : Type} (N : Nat) (t : TypeId) (k : Kd α) (q : α → Prop) : Prop :=
  ∀ fuel, fuel ≤ N → ∀ (cs : List Value) (d : DataW H) (p : List MemPlace), DataW.trod enc P W 0 (fun _ => true) true fuel t cs = some (d, p) → (∀ x ∈ DataW.weights P t d, x ≤ reachBytes) → ∃ x, k.K W x cs ∧ q x
end
section
variable {H : Type} {enc : TypeId × Value → H} {P : Program} {W : World}

theorem Opens.down {α : Type} {N N' : Nat} {t : TypeId} {k : Kd α} {q : α → Prop} (h : Opens enc P W N t k q) (hN : N' ≤ N) : Opens enc P W N' t k q := fun fuel hf => h fuel (Nat.le_trans hf hN)
theorem Opens.imp {α : Type} {N : Nat} {t : TypeId} {k : Kd α} {q q' : α → Prop} (h : Opens enc P W N t k q) (hq : ∀ x, q x → q' x) : Opens enc P W N t k q' := fun fuel hf cs d p ht hw => by
  obtain ⟨x, hx, hqx⟩ := h fuel hf cs d p ht hw
  exact ⟨x, hx, hq x hqx⟩
theorem opens_int (N : Nat) {t : TypeId} {k : IntKind} (hu : P.underlying t = some (.int k)) : Opens enc P W N t (Kd.int k) (fun x => (Lit.int k x).wf = true) := by
  intro fuel _ cs d p ht _
  cases fuel with
  | zero => simp [DataW.trod] at ht
  | succ fuel =>
    unfold DataW.trod at ht
    rw [hu] at ht
    split at ht <;> try (simp_all; done)
    rename_i k' k'' n h1
    simp only [Option.some.injEq, TypeDesc.int.injEq] at h1
    subst h1
    split at ht
    · rename_i h2
      obtain ⟨rfl, h3⟩ := h2
      exact ⟨n, rfl, h3⟩
    · cases ht

theorem weightsAll_mem {e : TypeId} : ∀ {ds : List (DataW H)} {d : DataW H} {x : Nat}, d ∈ ds → x ∈ DataW.weights P e d → x ∈ DataW.weightsAll P e ds
  | d0 :: r, d, x, hd, hx => by
    rw [DataW.weightsAll, List.mem_append]
    rcases List.mem_cons.1 hd with rfl | hd
    · exact .inl hx
    · exact .inr (weightsAll_mem hd hx)

theorem Opens.slice {α : Type} {N : Nat} {t e : TypeId} {k : Kd α} {q : α → Prop} (h : Opens enc P W N e k q) (hu : P.underlying t = some (.slice e)) (hsz : k.sz = P.cellsOf e) (hb : 1 ≤ P.bytesOf e) :
    Opens enc P W (N + 1) t (Kd.slice e k) (fun xs => xs.length ≤ reachBytes ∧ ∀ x ∈ xs, q x) := by
  intro fuel hf cs d p ht hw
  cases fuel with
  | zero => simp [DataW.trod] at ht
  | succ fuel =>
    unfold DataW.trod at ht
    rw [hu] at ht
    split at ht <;> try (simp_all; done)
    · exact ⟨[], ⟨none, 0, rfl, Nat.le_refl _, by simp, by simp, fun h0 => absurd h0 (by simp)⟩, Nat.zero_le _, fun x hx => by cases hx⟩
    · rename_i e' a len cap h1
      simp only [Option.some.injEq, TypeDesc.slice.injEq] at h1
      subst h1
      dsimp only at ht
      split at ht
      case isFalse => cases ht
      rename_i h2
      rw [Option.bind_eq_some_iff] at ht
      obtain ⟨elems, he, ht⟩ := ht
      rw [Option.map_eq_some_iff] at ht
      obtain ⟨rest, hr, ht⟩ := ht
      simp only [Prod.mk.injEq] at ht
      obtain ⟨rfl, rfl⟩ := ht
      have hlen : elems.length = len := by simpa using mapM_some_length he
      have hall : ∀ i, i < len → ∃ x c, c.length = k.sz ∧ k.K W x c ∧ q x ∧ ∀ j u, c[j]? = some u → W.cell? (a.add (i * k.sz + j)) = some u := by
        intro i hi
        have hg := mapM_some_get he i i (by simp [hi])
        obtain ⟨y, hy⟩ : ∃ y, elems[i]? = some y := ⟨elems[i]'(by omega), by simp [hlen, hi]⟩
        rw [hy, Option.bind_eq_some_iff] at hg
        obtain ⟨c, hc, hd⟩ := hg
        obtain ⟨_, hcl, hcc⟩ := World.cells?_some hc
        obtain ⟨yd, yp⟩ := y
        have hwy : ∀ x ∈ DataW.weights P e yd, x ≤ reachBytes := fun x hx => hw x (by
          rw [DataW.weights, hu]
          refine List.mem_cons_of_mem _ (List.mem_append.2 (.inl (weightsAll_mem (List.mem_map.2 ⟨(yd, yp), List.mem_of_getElem? hy, rfl⟩) hx))))
        obtain ⟨x, hx, hq⟩ := h fuel (by omega) c yd yp hd hwy
        refine ⟨x, c, by rw [hcl, hsz], hx, hq, fun j u hu2 => ?_⟩
        have hj : j < P.cellsOf e := by
          rw [← hcl]
          exact (List.getElem?_eq_some_iff.1 hu2).1
        rw [hsz, ← add_add]
        rw [hcc j hj]
        exact hu2
      have hL : ∃ xs : List α, xs.length = len ∧ (∀ x ∈ xs, q x) ∧ ∀ i x, xs[i]? = some x → ∃ c, c.length = k.sz ∧ k.K W x c ∧ ∀ j u, c[j]? = some u → W.cell? (a.add (i * k.sz + j)) = some u := by
        have build : ∀ m, m ≤ len → ∃ xs : List α, xs.length = m ∧ (∀ x ∈ xs, q x) ∧ ∀ i x, xs[i]? = some x → ∃ c, c.length = k.sz ∧ k.K W x c ∧ ∀ j u, c[j]? = some u → W.cell? (a.add (i * k.sz + j)) = some u := by
          intro m
          induction m with
          | zero => intro _; exact ⟨[], rfl, (fun x hx => by cases hx), (fun i x hx => by simp at hx)⟩
          | succ m ih =>
            intro hm
            obtain ⟨xs, h1, h2, h3⟩ := ih (by omega)
            obtain ⟨x, c, hc, hx, hq, hcell⟩ := hall m (by omega)
            refine ⟨xs ++ [x], by simp [h1], ?_, ?_⟩
            · intro y hy
              rcases List.mem_append.1 hy with hy | hy
              · exact h2 y hy
              · rw [List.mem_singleton.1 hy]; exact hq
            · intro i y hy
              by_cases hi : i < xs.length
              · rw [List.getElem?_append_left hi] at hy
                exact h3 i y hy
              · rw [List.getElem?_append_right (by omega)] at hy
                have : i = m := by
                  have := (List.getElem?_eq_some_iff.1 hy).1
                  simp at this
                  omega
                subst this
                rw [h1, Nat.sub_self] at hy
                simp at hy
                subst hy
                exact ⟨c, hc, hx, hcell⟩
        exact build len (Nat.le_refl _)
      obtain ⟨xs, h3, h4, h5⟩ := hL
      have hwl := hw ((elems.length + rest.length) * P.bytesOf e) (by
        rw [DataW.weights, hu]
        simp)
      have hle : xs.length ≤ reachBytes := by
        rw [h3, ← hlen]
        refine Nat.le_trans ?_ hwl
        refine Nat.le_trans (Nat.le_add_right _ rest.length) ?_
        exact Nat.le_mul_of_pos_right _ hb
      have hr63 : reachBytes ≤ 9223372036854775807 := by decide
      exact ⟨xs, ⟨some a, cap, by rw [h3], by rw [h3]; exact h2.2.1, rfl, Nat.le_trans hle hr63, fun _ => ⟨a, rfl, h5⟩⟩, hle, h4⟩

end
end Go.Proofs.YteockihoefbmdaaGreatDoor.Open
namespace Go.Proofs.YteockihoefbmdaaGreatDoor.Open
open Go.RowKit Go.Proofs.YteockihoefbmdaaGreatDoorW.PrintWords Go.Proofs.YteockihoefbmdaaGreatDoor.PFnEncode Go.Proofs.YteockihoefbmdaaGreatDoor.Within
set_option linter.unusedVariables false
set_option linter.unusedSimpArgs false
theorem wf_u8 {x : Int} (h : (Lit.int .u8 x).wf = true) : 0 ≤ x ∧ x < 256 := by
  simp only [Lit.wf, IntKind.min, IntKind.max, IntKind.signed, IntKind.bits, Bool.and_eq_true, decide_eq_true_eq] at h
  simp at h
  omega
section
variable {H : Type} {enc : TypeId × Value → H} {W : World}
theorem opensBy (N : Nat) : Opens enc Tryz.prog W (N + 2) 22 (Kd.slice 5 (Kd.int .u8)) (fun l => l.length ≤ reachBytes ∧ ∀ y ∈ l, 0 ≤ y ∧ y < 256) :=
  (Opens.slice (opens_int (N + 1) Tryz.underlying5) Tryz.underlying22 (by kernel_rfl) (of_decide_eq_true (by kernel_rfl))).imp (fun l h => ⟨h.1, fun y hy => wf_u8 (h.2 y hy)⟩)
end
end Go.Proofs.YteockihoefbmdaaGreatDoor.Open
