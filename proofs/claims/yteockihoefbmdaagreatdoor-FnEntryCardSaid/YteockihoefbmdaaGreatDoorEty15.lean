/- Parts of the proof of one law, in the order in which they build. io.EOF and io.ErrUnexpectedEOF, as the row lists them: two pointers. · The contract of the row of laws.FnEntry: whatever arguments, the law answers true, they read as before. No condition but the row's own: what it lists reads as the program's text lays it. · Closed facts on the program, each for itself, that every row of this seat wants. -/
import Derived.LaidLaws
import Derived.LaidSub
import Derived.MakeChecks
import Derived.WalkKit
import Derived.ProofKit
import Derived.OpenShut
import Derived.ShutString
import Derived.ChangeOld
import Derived.Below
import Derived.SizedLaws
import Derived.Lay
import Derived.LaidMore
import Derived.JoinedOf
import Derived.Test.YteockihoefbmdaaGreatDoorEty1
import Derived.Test.YteockihoefbmdaaGreatDoorEty2
import Derived.Test.YteockihoefbmdaaGreatDoorEty3
import Derived.Test.YteockihoefbmdaaGreatDoorEty4
import Derived.Test.YteockihoefbmdaaGreatDoorEty5
import Derived.Test.YteockihoefbmdaaGreatDoorEty6
import Derived.Test.YteockihoefbmdaaGreatDoorEty7
import Derived.Test.YteockihoefbmdaaGreatDoorEty8
import Derived.Test.YteockihoefbmdaaGreatDoorEty9
import Derived.Test.YteockihoefbmdaaGreatDoorEty10
import Derived.Test.YteockihoefbmdaaGreatDoorEty11
import Derived.Test.YteockihoefbmdaaGreatDoorEty12
import Derived.Test.YteockihoefbmdaaGreatDoorEty13
import Derived.Test.YteockihoefbmdaaGreatDoorEty14
import Derived.Test.YteockihoefbmdaaGreatDoorRows
namespace Go.Proofs.YteockihoefbmdaaGreatDoor.Ber
open Go.ChangeShapes Go.WideShapes Go.RowKit
set_option linter.unusedVariables false
set_option linter.unusedSimpArgs false
theorem eof_g : Tryz.prog.globalNamed "io.EOF" = some 0 := by kernel_rfl
theorem ueof_g : Tryz.prog.globalNamed "io.ErrUnexpectedEOF" = some 1 := by kernel_rfl
theorem eof_t : (Tryz.prog.globals[0]?).map (·.type) = some 103 := by kernel_rfl
theorem ueof_t : (Tryz.prog.globals[1]?).map (·.type) = some 103 := by kernel_rfl
theorem star_e : "*" ++ "errors.errorString" = "*errors.errorString" := by decide
theorem row_e (u : TypeId) (h : Tryz.prog.typeName? 3 u = some "*errors.errorString") : u = 248 :=
  typeName_ptr_named (nm := "errors.errorString") (by rw [star_e]; kernel_rfl) (by kernel_rfl) (by decide) u (by rw [star_e]; exact h)
theorem cells_es : Tryz.prog.cellsOf 250 = 1 := by kernel_rfl
theorem cells_s : Tryz.prog.cellsOf 9 = 1 := by kernel_rfl
/-- the two that are used -/
def two : List (String × DataW Unit) := [("io.EOF", Rows.laid_io_EOF), ("io.ErrUnexpectedEOF", Rows.laid_io_ErrUnexpectedEOF)]
set_option maxRecDepth 100000 in
theorem eof_of_two {W : World} (h : laidMet Tryz.prog two W) : ∃ va ua, EofAt W va ua := by
  obtain ⟨ps, ⟨g0, t0, cs0, f0, p0, q0, hg0, ht0, hv0, hd0, ⟨g1, t1, cs1, f1, p1, q1, hg1, ht1, hv1, hd1, hq1, e1⟩, e0⟩, hnd, hrows⟩ := h
  obtain rfl := Option.some.inj (eof_g.symm.trans hg0)
  obtain rfl := Option.some.inj (ueof_g.symm.trans hg1)
  obtain rfl := Option.some.inj (eof_t.symm.trans ht0)
  obtain rfl := Option.some.inj (ueof_t.symm.trans ht1)
  have hq1' : q1 = [] := hq1
  subst hq1'
  subst e1
  subst e0
  obtain ⟨l0⟩ := cs0
  obtain ⟨l1⟩ := cs1
  have ok0 : ∀ u v, l0 = [.iface u v] → Value.okWide Tryz.prog W .any 0 u v := fun u v e => by
    subst e
    exact (hrows 0 0 (by simp [MemPlace.row])).2 u v (by simpa using World.var?_cell hg0 hv0 0)
  have ok1 : ∀ u v, l1 = [.iface u v] → Value.okWide Tryz.prog W .any 0 u v := fun u v e => by
    subst e
    exact (hrows 1 0 (by simp [MemPlace.row])).2 u v (by simpa using World.var?_cell hg1 hv1 0)
  obtain ⟨a0, s0, rfl, hc0, hs0, hz0, rfl⟩ := errorString_of_trod Tryz.underlying103 row_e Tryz.underlying248 Tryz.underlying250 rfl rfl Tryz.underlying9 cells_es cells_s hd0 ok0
  obtain ⟨a1, s1, rfl, hc1, hs1, hz1, rfl⟩ := errorString_of_trod Tryz.underlying103 row_e Tryz.underlying248 Tryz.underlying250 rfl rfl Tryz.underlying9 cells_es cells_s hd1 ok1
  obtain ⟨c0, t0, hb0⟩ := (hrows a0.block a0.off (by simp [MemPlace.row])).1
  obtain ⟨c1, t1, hb1⟩ := (hrows a1.block a1.off (by simp [MemPlace.row])).1
  exact ⟨a0, a1, by simpa using World.var?_cell hg0 hv0 0, by simpa using World.var?_cell hg1 hv1 0, ⟨_, _, hb0⟩, ⟨_, _, hb1⟩⟩
theorem eof_of_laid {W : World} {l : List (String × DataW Unit)} (hl : l.filter (fun x => x.1 == "io.EOF" || x.1 == "io.ErrUnexpectedEOF") = two) (h : laidMetH Tryz.prog l W) : ∃ va ua, EofAt W va ua := by
  have h1 := laidMetH.filter (fun x => x.1 == "io.EOF" || x.1 == "io.ErrUnexpectedEOF") h
  rw [hl, MakeChecks.laidMetH_plain _ _ _ (by kernel_rfl)] at h1
  exact eof_of_two h1
end Go.Proofs.YteockihoefbmdaaGreatDoor.Ber
namespace Go.Proofs.YteockihoefbmdaaGreatDoor.RowFnEntry
open Go.ChangeShapes Go.WideShapes Go.ChangeAt Go.RowKit
open Go.ChangeMaps (open_string shut_string)
set_option linter.unusedVariables false
set_option linter.unusedSimpArgs false
theorem own : ownKnob Tryz.prog.godebug = none := by kernel_rfl
theorem laidOut : laidOutB Tryz.prog = true := by kernel_rfl
set_option maxRecDepth 100000 in
theorem lifted (os : Os) (started : os.Started) (H : Type) (enc : TypeId × Value → H) :
    ReturnsInHanded {} Tryz.checked os 5 .any (fun w args => (Rows.fnEntrySpec.pre enc Tryz.prog Tryz.f5 [] false w args ∧ laidMetH Tryz.prog Rows.fnEntryRow.laid w) ∧ sizedMet enc Tryz.prog Tryz.f5 (OpenSpec.ofChange Rows.fnEntrySpec) false w args)
      (Rows.fnEntrySpec.post enc Tryz.prog Tryz.f5 false true false false) := by
  refine returnsInHanded_of_change_and (C := Tryz.checked) (X := fun w _ => laidMetH Tryz.prog Rows.fnEntryRow.laid w) (fun _ _ _ hh h => h.of_heap hh) own started (by kernel_rfl) Tryz.func5
    (ChangeSpec.witness_shaped (enc := enc) (C := Tryz.checked) (os := os) (X := fun w _ => laidMetH Tryz.prog Rows.fnEntryRow.laid w) false (World.laidAll Tryz.prog os Rows.fnEntryRow.laid) #[.string ByteArray.empty, .slice none 0 0] 8 (World.laidAll_os _ _ _)
      (World.shaped_of_ZipB (by kernel_rfl) (by kernel_rfl)) (by kernel_rfl) (by kernel_rfl) (by kernel_rfl)
      (by rw [MakeChecks.laidMetH_plain _ _ _ (by kernel_rfl)]; exact laidMet_laidAll _ (by kernel_rfl) (by kernel_rfl))) ?_
  intro W base args ds gs before hval0 hW _ hsz0 hL _
  have hval : ∀ (j : Nat) t v, Tryz.f5.params[j]? = some t → args[j]? = some v → Value.okWide Tryz.prog W .any base t v := hval0
  have hsz : (DataW.weightsEach Tryz.prog (Tryz.f5.params.toList ++ Rows.fnEntrySpec.plain.varTypes Tryz.prog) (ds ++ gs)).all (· ≤ reachBytes) = true := hsz0
  have hW' := hW
  obtain ⟨p, q, hA0, hV, rfl, _, _⟩ := hW
  have hA : DataW.TrodAll enc Tryz.prog W 0 (fun _ => true) true Tryz.f5.params.toList args.toList ds p := hA0
  rw [Tryz.params5] at hA hval hsz
  obtain ⟨v0, vs0, d0, ds0, p0, q0, hargs, rfl, rfl, h0, r0⟩ := trodAll_cons hA
  obtain ⟨v1, vs1, d1, ds1, p1, q1, rfl, rfl, rfl, h1, r1⟩ := trodAll_cons r0
  obtain ⟨rfl, rfl, rfl⟩ := trodAll_nil r1
  obtain rfl : args = #[v0, v1] := by cases args; simp_all
  obtain ⟨rfl, rfl⟩ := trodVars_none hV
  have hw : ∀ y ∈ DataW.weightsEach Tryz.prog [9, 48] [d0, d1], y ≤ reachBytes := fun y hy => of_decide_eq_true (List.all_eq_true.1 hsz y hy)
  obtain ⟨a0, rfl, rfl, rfl, y0⟩ := open_string Tryz.underlying9 (hval 0 9 v0 rfl rfl) h0
  have lt1 : ∀ x ∈ p1, x.block < W.heap.size := by obtain ⟨m, hm⟩ := h1; exact DataW.trod_lt m _ _ _ hm
  obtain ⟨A1, l1, c1, rfl⟩ := okWide_slice Tryz.underlying48 (hval 1 48 v1 rfl rfl)
  obtain ⟨f1, hf1⟩ := h1
  obtain ⟨x1, ⟨B1, e1, hk1, g1, m1⟩, z1⟩ := (Open.opensA (enc := enc) (W := W) f1).down (Nat.le_add_right _ 4) f1 (Nat.le_refl _) _ d1 p1 hf1 (fun y hy => hw y (List.mem_append.2 (.inr (List.mem_append.2 (.inl hy)))))
  have hv1 : Value.slice A1 l1 c1 = .slice B1 x1.length e1 := by simpa [Value.cells] using hk1
  injection hv1 with qa1 qb1 qc1
  subst qa1 qb1 qc1
  obtain ⟨va, ua, hEOF⟩ := Ber.eof_of_laid (l := Rows.fnEntryRow.laid) rfl hL
  clear hA0 hval0 hsz0
  refine (Ber.fnEntry_any a0 x1 A1 c1 W m1 g1 va ua hEOF).mono fun e W' ⟨he, bel⟩ => ?_
  subst he
  exact ⟨_, rfl, _, _, _, [], _, [], hW', trodAll_mk1 (shut_bool Tryz.underlying4 _), (trodAll_cons_mk (shut_string Tryz.underlying9 y0) (trodAll_cons_mk (Below.trod laidOut (by kernel_rfl) (of_decide_eq_true (by kernel_rfl)) ⟨f1, hf1⟩ bel lt1) trodAll_mk0)), rfl, bel.frame _, fun h => by cases h⟩
end Go.Proofs.YteockihoefbmdaaGreatDoor.RowFnEntry
namespace Go.Proofs.YteockihoefbmdaaGreatDoor.Facts
theorem joined_of {P : Program} {f : FuncId} {fn : Func} {s : ChangeSpec} {c : OpenClaim} 
    (h0 : (c.wf (OpenSpec.ofChange s)) = true)
    (h1 : (laidOutB P) = true)
    (h2 : (mapsRowed P) = true)
    (h3 : (fn.params.all (P.readableRec ·)) = true)
    (h4 : (namedTie P c.named s.vars) = true)
    (h5 : ((c.stops == [])) = true)
    (h6 : ((P.stops == [])) = true)
    (h7 : ((c.knobs == [])) = true)
    (h8 : ((P.stopKnobs == [])) = true)
    (h9 : ((c.inPlace == P.inPlace f)) = true)
    (h10 : ((c.unfollowed == P.unfollowed f)) = true)
    (h11 : ((c.recurses == P.recurses f)) = true)
    (h12 : ((c.named == P.varsNamed f)) = true)
    (h13 : ((c.maps == (fn.params.toList ++ s.plain.varTypes P).any (P.mapsRec ·))) = true)
    (h14 : ((c.ifaces == (fn.params.toList ++ s.plain.varTypes P).any (P.ifacesRec ·))) = true)
    (h15 : ((c.mapsOut == P.mapsAmong fn.resultTypes.toList)) = true)
    (h16 : ((c.loops == (fn.params.toList ++ s.plain.varTypes P).any (P.loopsFrom ·))) = true)
    (h17 : ((c.wideKeys == (fn.params.toList ++ s.plain.varTypes P ++ fn.resultTypes.toList).any (P.wideKeysFrom ·))) = true)
    (h18 : (s.vars.all (P.varReadable ·)) = true)
    (h19 : (fn.resultTypes.all (fun t => P.readableRec t && decide (t < P.types.size))) = true)
    (h20 : ((c.ifacesOut == fn.resultTypes.toList.any (P.ifacesRec ·))) = true)
    (h21 : ((c.loopsOut == fn.resultTypes.toList.any (P.loopsFrom ·))) = true)
    (h22 : ((c.plainKeys == P.plainKeys)) = true)
    (h23 : (c.shortTexts.isNone) = true)
    (h24 : (P.stopsHeard) = true)
    (h25 : (P.mayEnter) = true)
    (h26 : ((c.lifted == P.liftsFinal)) = true)
    (h27 : ((P.make == some c.make)) = true)
    (h28 : ((c.kinds == (if c.domain.isEmpty then [] else fn.params.toList.map fun t => match P.underlying t with | some (.int k) => some k | _ => none))) = true)
    (h29 : ((c.pinned == c.pinnedBy)) = true)
    (h30 : ((c.veiled == (fn.params.toList ++ s.plain.varTypes P ++ fn.resultTypes.toList).any (P.veiledRec ·))) = true)
    (h31 : (c.veiledFits P fn.params.toList (fn.params.toList ++ s.plain.varTypes P ++ fn.resultTypes.toList)) = true) : joinedFacts P f fn s c = true := by
  simp only [joinedFacts, Bool.and_eq_true]
  exact ⟨⟨⟨⟨⟨⟨⟨⟨⟨⟨⟨⟨⟨⟨⟨⟨⟨⟨⟨⟨⟨⟨⟨⟨⟨⟨⟨⟨⟨⟨⟨h0, h1⟩, h2⟩, h3⟩, h4⟩, h5⟩, h6⟩, h7⟩, h8⟩, h9⟩, h10⟩, h11⟩, h12⟩, h13⟩, h14⟩, h15⟩, h16⟩, h17⟩, h18⟩, h19⟩, h20⟩, h21⟩, h22⟩, h23⟩, h24⟩, h25⟩, h26⟩, h27⟩, h28⟩, h29⟩, h30⟩, h31⟩
theorem k1 : (laidOutB Tryz.prog) = true := by kernel_rfl
theorem k2 : (mapsRowed Tryz.prog) = true := by kernel_rfl
theorem k6 : ((Tryz.prog.stops == [])) = true := by kernel_rfl
theorem k8 : ((Tryz.prog.stopKnobs == [])) = true := by kernel_rfl
theorem k22 : ((Rows.fnResultRow.plainKeys == Tryz.prog.plainKeys)) = true := by kernel_rfl
theorem k24 : (Tryz.prog.stopsHeard) = true := by kernel_rfl
theorem k25 : (Tryz.prog.mayEnter) = true := by kernel_rfl
theorem k26 : ((Rows.fnResultRow.lifted == Tryz.prog.liftsFinal)) = true := by kernel_rfl
theorem k27 : ((Tryz.prog.make == some Rows.fnResultRow.make)) = true := by kernel_rfl
end Go.Proofs.YteockihoefbmdaaGreatDoor.Facts
