/- What a law's argument reads as, in the print's kinds: from the row's reading ('DataW.trod') to 'Kd.K', for whole numbers, bools, strings, slices, structs, and types that hold themselves. General in the program. -/
import Derived.Test.YtbmcpjkhnhbjdaaDoorWWords
import Derived.Test.YtbmcpjkhnhbjdaaDoorWMore
import Derived.ProofKit
import Derived.SizedLaws
namespace Go.Proofs.YtbmcpjkhnhbjdaaDoor.Open
open Go.RowKit Go.Proofs.YtbmcpjkhnhbjdaaDoorW.PrintWords
set_option linter.unusedVariables false
set_option linter.unusedSimpArgs false

section
variable {H : Type} (enc : TypeId × Value → H) (P : Program) (W : World)

/-- Whatever of type t reads as a datum within so much fuel is of kind k. -/
def Opens {α : Type} (N : Nat) (t : TypeId) (k : Kd α) (q : α → Prop) : Prop :=
  ∀ fuel, fuel ≤ N → ∀ (cs : List Value) (d : DataW H) (p : List MemPlace), DataW.trod enc P W 0 (fun _ => true) true fuel t cs = some (d, p) → (∀ x ∈ DataW.weights P t d, x ≤ reachBytes) → ∃ x, k.K W x cs ∧ q x
end
section
variable {H : Type} {enc : TypeId × Value → H} {P : Program} {W : World}

theorem Opens.down {α : Type} {N N' : Nat} {t : TypeId} {k : Kd α} {q : α → Prop} (h : Opens enc P W N t k q) (hN : N' ≤ N) : Opens enc P W N' t k q := fun fuel hf => h fuel (Nat.le_trans hf hN)
theorem Opens.imp {α : Type} {N : Nat} {t : TypeId} {k : Kd α} {q q' : α → Prop} (h : Opens enc P W N t k q) (hq : ∀ x, q x → q' x) : Opens enc P W N t k q' := fun fuel hf cs d p ht hw => by
  obtain ⟨x, hx, hqx⟩ := h fuel hf cs d p ht hw
  exact ⟨x, hx, hq x hqx⟩
theorem Opens.iso {α β : Type} {N : Nat} {t : TypeId} {k : Kd α} {q : α → Prop} (h : Opens enc P W N t k q) (f : β → α) (g : α → β) (hfg : ∀ a, f (g a) = a) : Opens enc P W N t (Kd.iso k f) (fun y => q (f y)) := fun fuel hf cs d p ht hw => by
  obtain ⟨x, hx, hqx⟩ := h fuel hf cs d p ht hw
  exact ⟨g x, (by show k.K W (f (g x)) cs; rw [hfg]; exact hx), (by show q (f (g x)); rw [hfg]; exact hqx)⟩

theorem opens_int (N : Nat) {t : TypeId} {k : IntKind} (hu : P.underlying t = some (.int k)) : Opens enc P W N t (Kd.int k) (fun x => (Lit.int k x).wf = true) := by
  intro fuel _ cs d p ht _
  cases fuel with
  | zero => simp [DataW.trod] at ht
  | succ fuel =>
    unfold DataW.trod at ht
    rw [hu] at ht
    split at ht <;> try (simp_all; done)
    rename_i k' k'' n h1
    simp only [Option.some.injEq, TypeDesc.int.injEq] at h1
    subst h1
    split at ht
    · rename_i h2
      obtain ⟨rfl, h3⟩ := h2
      exact ⟨n, rfl, h3⟩
    · cases ht

theorem opens_bool (N : Nat) {t : TypeId} (hu : P.underlying t = some .bool) : Opens enc P W N t Kd.bool (fun _ => True) := by
  intro fuel _ cs d p ht _
  cases fuel with
  | zero => simp [DataW.trod] at ht
  | succ fuel =>
    unfold DataW.trod at ht
    rw [hu] at ht
    split at ht <;> try (simp_all; done)
    rename_i b h1
    exact ⟨b, rfl, trivial⟩

theorem opens_string (N : Nat) {t : TypeId} (hu : P.underlying t = some .string) : Opens enc P W N t Kd.string (fun s => s.size ≤ reachBytes) := by
  intro fuel _ cs d p ht hw
  cases fuel with
  | zero => simp [DataW.trod] at ht
  | succ fuel =>
    unfold DataW.trod at ht
    rw [hu] at ht
    split at ht <;> try (simp_all; done)
    rename_i s h1
    split at ht
    · simp only [Option.some.injEq, Prod.mk.injEq] at ht
      obtain ⟨rfl, rfl⟩ := ht
      have := hw s.data.toList.length (by simp [DataW.weights])
      rw [Array.length_toList] at this
      exact ⟨s, rfl, this⟩
    · cases ht

theorem weightsAll_mem {e : TypeId} : ∀ {ds : List (DataW H)} {d : DataW H} {x : Nat}, d ∈ ds → x ∈ DataW.weights P e d → x ∈ DataW.weightsAll P e ds
  | d0 :: r, d, x, hd, hx => by
    rw [DataW.weightsAll, List.mem_append]
    rcases List.mem_cons.1 hd with rfl | hd
    · exact .inl hx
    · exact .inr (weightsAll_mem hd hx)

theorem Opens.slice {α : Type} {N : Nat} {t e : TypeId} {k : Kd α} {q : α → Prop} (h : Opens enc P W N e k q) (hu : P.underlying t = some (.slice e)) (hsz : k.sz = P.cellsOf e) (hb : 1 ≤ P.bytesOf e) :
    Opens enc P W (N + 1) t (Kd.slice e k) (fun xs => xs.length ≤ reachBytes ∧ ∀ x ∈ xs, q x) := by
  intro fuel hf cs d p ht hw
  cases fuel with
  | zero => simp [DataW.trod] at ht
  | succ fuel =>
    unfold DataW.trod at ht
    rw [hu] at ht
    split at ht <;> try (simp_all; done)
    · exact ⟨[], ⟨none, 0, rfl, Nat.le_refl _, by simp, by simp, fun h0 => absurd h0 (by simp)⟩, Nat.zero_le _, fun x hx => by cases hx⟩
    · rename_i e' a len cap h1
      simp only [Option.some.injEq, TypeDesc.slice.injEq] at h1
      subst h1
      dsimp only at ht
      split at ht
      case isFalse => cases ht
      rename_i h2
      rw [Option.bind_eq_some_iff] at ht
      obtain ⟨elems, he, ht⟩ := ht
      rw [Option.map_eq_some_iff] at ht
      obtain ⟨rest, hr, ht⟩ := ht
      simp only [Prod.mk.injEq] at ht
      obtain ⟨rfl, rfl⟩ := ht
      have hlen : elems.length = len := by simpa using mapM_some_length he
      have hall : ∀ i, i < len → ∃ x c, c.length = k.sz ∧ k.K W x c ∧ q x ∧ ∀ j u, c[j]? = some u → W.cell? (a.add (i * k.sz + j)) = some u := by
        intro i hi
        have hg := mapM_some_get he i i (by simp [hi])
        obtain ⟨y, hy⟩ : ∃ y, elems[i]? = some y := ⟨elems[i]'(by omega), by simp [hlen, hi]⟩
        rw [hy, Option.bind_eq_some_iff] at hg
        obtain ⟨c, hc, hd⟩ := hg
        obtain ⟨_, hcl, hcc⟩ := World.cells?_some hc
        obtain ⟨yd, yp⟩ := y
        have hwy : ∀ x ∈ DataW.weights P e yd, x ≤ reachBytes := fun x hx => hw x (by
          rw [DataW.weights, hu]
          refine List.mem_cons_of_mem _ (List.mem_append.2 (.inl (weightsAll_mem (List.mem_map.2 ⟨(yd, yp), List.mem_of_getElem? hy, rfl⟩) hx))))
        obtain ⟨x, hx, hq⟩ := h fuel (by omega) c yd yp hd hwy
        refine ⟨x, c, by rw [hcl, hsz], hx, hq, fun j u hu2 => ?_⟩
        have hj : j < P.cellsOf e := by
          rw [← hcl]
          exact (List.getElem?_eq_some_iff.1 hu2).1
        rw [hsz, ← add_add]
        rw [hcc j hj]
        exact hu2
      have hL : ∃ xs : List α, xs.length = len ∧ (∀ x ∈ xs, q x) ∧ ∀ i x, xs[i]? = some x → ∃ c, c.length = k.sz ∧ k.K W x c ∧ ∀ j u, c[j]? = some u → W.cell? (a.add (i * k.sz + j)) = some u := by
        have build : ∀ m, m ≤ len → ∃ xs : List α, xs.length = m ∧ (∀ x ∈ xs, q x) ∧ ∀ i x, xs[i]? = some x → ∃ c, c.length = k.sz ∧ k.K W x c ∧ ∀ j u, c[j]? = some u → W.cell? (a.add (i * k.sz + j)) = some u := by
          intro m
          induction m with
          | zero => intro _; exact ⟨[], rfl, (fun x hx => by cases hx), (fun i x hx => by simp at hx)⟩
          | succ m ih =>
            intro hm
            obtain ⟨xs, h1, h2, h3⟩ := ih (by omega)
            obtain ⟨x, c, hc, hx, hq, hcell⟩ := hall m (by omega)
            refine ⟨xs ++ [x], by simp [h1], ?_, ?_⟩
            · intro y hy
              rcases List.mem_append.1 hy with hy | hy
              · exact h2 y hy
              · rw [List.mem_singleton.1 hy]; exact hq
            · intro i y hy
              by_cases hi : i < xs.length
              · rw [List.getElem?_append_left hi] at hy
                exact h3 i y hy
              · rw [List.getElem?_append_right (by omega)] at hy
                have : i = m := by
                  have := (List.getElem?_eq_some_iff.1 hy).1
                  simp at this
                  omega
                subst this
                rw [h1, Nat.sub_self] at hy
                simp at hy
                subst hy
                exact ⟨c, hc, hx, hcell⟩
        exact build len (Nat.le_refl _)
      obtain ⟨xs, h3, h4, h5⟩ := hL
      have hwl := hw ((elems.length + rest.length) * P.bytesOf e) (by
        rw [DataW.weights, hu]
        simp)
      have hle : xs.length ≤ reachBytes := by
        rw [h3, ← hlen]
        refine Nat.le_trans ?_ hwl
        refine Nat.le_trans (Nat.le_add_right _ rest.length) ?_
        exact Nat.le_mul_of_pos_right _ hb
      have hr63 : reachBytes ≤ 9223372036854775807 := by decide
      exact ⟨xs, ⟨some a, cap, by rw [h3], by rw [h3]; exact h2.2.1, rfl, Nat.le_trans hle hr63, fun _ => ⟨a, rfl, h5⟩⟩, hle, h4⟩

/-- .. the fields of a struct from the cell o on. -/
def OpensFrom {α : Type} (enc : TypeId × Value → H) (P : Program) (W : World) (N : Nat) (o m : Nat) (fs : List Field) (k : Kd α) (q : α → Prop) : Prop :=
  ∀ fuel, fuel ≤ N → ∀ (cs : List Value) (xs : List (DataW H × List MemPlace)), cs.length = m → (fs.mapM fun f => DataW.trod enc P W 0 (fun _ => true) true fuel f.type ((cs.drop f.offset).take (P.cellsOf f.type))) = some xs →
    (∀ x ∈ DataW.weightsEach P (fs.map (·.type)) (xs.map (·.1)), x ≤ reachBytes) → ∃ x, k.K W x (cs.drop o) ∧ q x

theorem OpensFrom.one {α : Type} {N o m : Nat} {f : Field} {k : Kd α} {q : α → Prop} (h : Opens enc P W N f.type k q) (ho : f.offset = o) (hm : m = o + P.cellsOf f.type) : OpensFrom enc P W N o m [f] k q := by
  intro fuel hf cs xs hl ht hw
  rw [List.mapM_cons] at ht
  simp only [List.mapM_nil, bind, pure, Option.bind_eq_some_iff] at ht
  obtain ⟨y, hy, _, h0, h1⟩ := ht
  obtain rfl := (Option.some.inj h0)
  obtain rfl := (Option.some.inj h1)
  obtain ⟨x, hx, hq⟩ := h fuel hf _ y.1 y.2 hy (fun z hz => hw z (by simp [DataW.weightsEach, hz]))
  refine ⟨x, ?_, hq⟩
  rw [ho, List.take_of_length_le (by rw [List.length_drop]; omega)] at hx
  exact hx

theorem OpensFrom.cons {α β : Type} {N o m : Nat} {f : Field} {fs : List Field} {k : Kd α} {k2 : Kd β} {q : α → Prop} {q2 : β → Prop} (h : Opens enc P W N f.type k q) (h2 : OpensFrom enc P W N (o + P.cellsOf f.type) m fs k2 q2) (ho : f.offset = o) :
    OpensFrom enc P W N o m (f :: fs) (Kd.pair k k2) (fun x => q x.1 ∧ q2 x.2) := by
  intro fuel hf cs xs hl ht hw
  rw [List.mapM_cons] at ht
  simp only [bind, pure, Option.bind_eq_some_iff] at ht
  obtain ⟨y, hy, ys, hys, ht⟩ := ht
  simp only [Option.some.injEq] at ht
  subst ht
  obtain ⟨x, hx, hq⟩ := h fuel hf _ y.1 y.2 hy (fun z hz => hw z (by simp [DataW.weightsEach, hz]))
  obtain ⟨x2, hx2, hq2⟩ := h2 fuel hf cs ys hl hys (fun z hz => hw z (by simp [DataW.weightsEach, hz]))
  refine ⟨(x, x2), ⟨_, _, ?_, hx, hx2⟩, hq, hq2⟩
  rw [ho, ← List.drop_drop, List.take_append_drop]

theorem Opens.struct {α : Type} {N : Nat} {t : TypeId} {fs : Array Field} {k : Kd α} {q : α → Prop} (hu : P.underlying t = some (.struct fs)) (h : OpensFrom enc P W N 0 (P.cellsOf t) fs.toList k q) : Opens enc P W (N + 1) t k q := by
  intro fuel hf cs d p ht hw
  cases fuel with
  | zero => simp [DataW.trod] at ht
  | succ fuel =>
    unfold DataW.trod at ht
    rw [hu] at ht
    split at ht <;> try (simp_all; done)
    rename_i fs' h1
    simp only [Option.some.injEq, TypeDesc.struct.injEq] at h1
    subst h1
    split at ht
    case isFalse => cases ht
    rename_i hl
    rw [Option.map_eq_some_iff] at ht
    obtain ⟨xs, hxs, ht⟩ := ht
    simp only [Prod.mk.injEq] at ht
    obtain ⟨rfl, rfl⟩ := ht
    rw [DataW.weights, hu] at hw
    have := h fuel (by omega) _ xs hl hxs hw
    simpa using this

theorem Opens.fix {α : Type} {t : TypeId} {F : Kd α → Kd α} {sz : Nat} {E : List Nat} {hs : ∀ n, (Kd.upto F sz E n).sz = sz} {hE : ∀ n q, q ∈ (Kd.upto F sz E n).E → q ∈ E} {q : α → Prop}
    (step : ∀ N (k : Kd α), k.sz = sz → Opens enc P W N t k q → Opens enc P W (N + 1) t (F k) q) (N : Nat) : Opens enc P W N t (Kd.fix F sz E hs hE) q := by
  have : ∀ N, ∃ n, Opens enc P W N t (Kd.upto F sz E n) q := by
    intro N
    induction N with
    | zero =>
      refine ⟨0, fun fuel hf cs d p ht _ => ?_⟩
      obtain rfl : fuel = 0 := by omega
      simp [DataW.trod] at ht
    | succ N ih =>
      obtain ⟨n, hn⟩ := ih
      exact ⟨n + 1, step N _ (hs n) hn⟩
  obtain ⟨n, hn⟩ := this N
  intro fuel hf cs d p ht hw
  obtain ⟨x, hx, hq⟩ := hn fuel hf cs d p ht hw
  exact ⟨x, ⟨n, hx⟩, hq⟩
end
end Go.Proofs.YtbmcpjkhnhbjdaaDoor.Open
