/- Attributes as packets of the package. · Changes as packets of the package; rows of packets in one. · The requests to add and to modify, appended to an envelope. · The request to modify, appended to an envelope. · What the printed helpers on attributes compute: texts, attribute, attributes. · The printed sizes' tests and 'attributes' end at every row of attributes; what their answers mean. Plain Lean. · A packet of the reference that grows: 'p.Kids = append(p.Kids, k)'; spec.Group and spec.Code. · spec.listed: the packet of an attribute. · Attributes as trees of the reference: their depth, their sizes. Plain Lean. -/
import Derived.Test.YtbmcpjkhnhbjdaaDoorReq
import Derived.Test.YtbmcpjkhnhbjdaaDoorPFnEncodex2
import Derived.Test.YtbmcpjkhnhbjdaaDoorKRow
import Derived.Test.YtbmcpjkhnhbjdaaDoorSame
namespace Go.Proofs.YtbmcpjkhnhbjdaaDoor.Ber
open Go.RowKit Go.Proofs.YtbmcpjkhnhbjdaaDoorW.PrintWords Go.Proofs.YtbmcpjkhnhbjdaaDoor.PFnEncode Go.Proofs.YtbmcpjkhnhbjdaaDoor.Tree Go.Proofs.YtbmcpjkhnhbjdaaDoor.Buf Go.Proofs.YtbmcpjkhnhbjdaaDoor.Pk Go.Proofs.YtbmcpjkhnhbjdaaDoor.Within Go.Proofs.YtbmcpjkhnhbjdaaDoor.Num
set_option linter.unusedVariables false
set_option linter.unusedSimpArgs false

theorem At.is_le {W1 W : World} {base q : Nat} {x : Pk} (h : At W1 W base q x) : base ≤ W.heap.size := Nat.le_trans h.le h.bel.size
/-- a text of a row -/
theorem str_at {w : World} {A : Option Addr} {l : List ByteArray} (h : Kd.string.C w A l.length l) {k : Nat} (hk : k < l.length) : ∃ ad, A = some ad ∧ w.cell? (ad.add k) = some (.string l[k]) := by
  obtain ⟨ad, c, e, _, hK, hc0⟩ := Kd.C_get h (⟨#[]⟩ : ByteArray) (k : Int) (by omega) (by omega)
  refine ⟨ad, e, ?_⟩
  have hK' : c = [.string (l.getD (k : Int).toNat ⟨#[]⟩)] := hK
  rw [Int.toNat_natCast, List.getD_eq_getElem?_getD, List.getElem?_eq_getElem hk] at hK'
  have := hc0 0 (.string l[k]) (by rw [hK']; rfl)
  rw [Int.toNat_natCast] at this
  have e1 : k * Kd.string.sz + 0 = k := by show k * 1 + 0 = k; omega
  rwa [e1] at this
/-- the set of an attribute's values -/
def setK (l : List ByteArray) : Pk := l.foldl (fun x s => addK x (prim 0 0 4 (strV s) (bytesOf s) ⟨#[86, 97, 108, 115]⟩)) (bare 0 32 17 .nilIface ⟨#[65, 116, 116, 114, 105, 98, 117, 116, 101, 86, 97, 108, 117, 101]⟩)
theorem setK_snoc (l : List ByteArray) (s : ByteArray) : setK (l ++ [s]) = addK (setK l) (prim 0 0 4 (strV s) (bytesOf s) ⟨#[86, 97, 108, 115]⟩) := by
  unfold setK
  rw [List.foldl_append]
  rfl
theorem setK_step {l : List ByteArray} {k : Nat} (hk : k < l.length) : addK (setK (l.take k)) (prim 0 0 4 (strV l[k]) (bytesOf l[k]) ⟨#[86, 97, 108, 115]⟩) = setK (l.take (k + 1)) := by
  rw [List.take_succ_eq_append_getElem hk, setK_snoc]
theorem setK_fine (l : List ByteArray) : (∀ s, s ∈ l → s.size ≤ 1000000) → Fine (setK l) (l.length * 1000014) := by
  obtain ⟨m, rfl⟩ : ∃ m : List ByteArray, l = m.reverse := ⟨l.reverse, by simp⟩
  induction m with
  | nil => intro _; exact (fine_bare _ _ _ _ _ (by decide) (by decide) (by decide) (Or.inr rfl) (by decide) (by decide)).le (Nat.zero_le _)
  | cons s m ih =>
    intro h
    rw [List.reverse_cons, setK_snoc]
    refine (fine_add (ih (fun x hx => h x (by rw [List.reverse_cons]; exact List.mem_append_left _ hx))) (fine_str _ _ _ _ _ (by decide) (by decide) (by decide) (Or.inl rfl) (by decide) (by decide) (h s (by simp))) (by decide)).le ?_
    simp
    omega
/-- an attribute's packet -/
def pAttr (d nm : ByteArray) (l : List ByteArray) : Pk := addK (addK (bare 0 32 16 .nilIface d) (prim 0 0 4 (strV nm) (bytesOf nm) ⟨#[84, 121, 112, 101]⟩)) (setK l)
theorem pAttr_fine (d nm : ByteArray) (l : List ByteArray) (hnm : nm.size ≤ 1000000) (hl : ∀ s, s ∈ l → s.size ≤ 1000000) (hn : l.length ≤ 1000) : Fine (pAttr d nm l) 1100000000 :=
  (fine_add (fine_add (fine_bare _ _ _ _ _ (by decide) (by decide) (by decide) (Or.inr rfl) (by decide) (by decide)) (fine_str _ _ _ _ _ (by decide) (by decide) (by decide) (Or.inl rfl) (by decide) (by decide) hnm) (by decide)) (setK_fine l hl) (by omega)).le (by omega)
theorem tr_set (l : List ByteArray) : trOf (setK l) = ⟨0, 17, true, [], l.map fun s => ⟨0, 4, false, bytesOf s, []⟩⟩ := by
  have key : ∀ l : List ByteArray, (setK l).cls = 0 ∧ (setK l).typ = 32 ∧ (setK l).tag = 17 ∧ trL (setK l).kids = l.map fun s => (⟨0, 4, false, bytesOf s, []⟩ : S27) := by
    intro l
    obtain ⟨m, rfl⟩ : ∃ m : List ByteArray, l = m.reverse := ⟨l.reverse, by simp⟩
    induction m with
    | nil => exact ⟨rfl, rfl, rfl, rfl⟩
    | cons s m ih =>
      obtain ⟨h1, h2, h3, h4⟩ := ih
      rw [List.reverse_cons, setK_snoc]
      refine ⟨h1, h2, h3, ?_⟩
      show trL ((setK m.reverse).kids ++ [_]) = _
      rw [trL_append, h4, List.map_append]
      congr 1
  obtain ⟨h1, h2, h3, h4⟩ := key l
  generalize setK l = x at h1 h2 h3 h4
  obtain ⟨cls, typ, tag, val, bv, data, kids, desc⟩ := x
  simp only at h1 h2 h3 h4
  subst h1
  subst h2
  subst h3
  simp [trOf, h4]
theorem tr_attr (d nm : ByteArray) (l : List ByteArray) : trOf (pAttr d nm l) = ⟨0, 16, true, [], [⟨0, 4, false, bytesOf nm, []⟩, ⟨0, 17, true, [], l.map fun s => ⟨0, 4, false, bytesOf s, []⟩⟩]⟩ := by
  have h := tr_set l
  unfold pAttr
  generalize setK l = x at h
  unfold addK bare prim
  simp [trOf, trL, h]

set_option maxHeartbeats 3200000 in
set_option maxRecDepth 100000 in
theorem enc_Attr (nm : ByteArray) (l : List ByteArray) (A : Option Addr) (c r : Nat) (w : World) (hnm : nm.size ≤ 1000000) (hl : ∀ s, s ∈ l → s.size ≤ 1000000) (hn : l.length ≤ 1000)
    (hk0 : ∀ W, Below w.heap.size w W → W.cell? ⟨r, 0, none⟩ = some (.string nm)) (hk1 : ∀ W, Below w.heap.size w W → W.cell? ⟨r, 1, none⟩ = some (.slice A l.length c)) (hC : Kd.string.C w A l.length l) :
    Calls Tryd.prog 147 #[.pointer (some ⟨r, 0, none⟩)] w fun e w' => ∃ q, e = .returned (.pointer (some ⟨q, 0, none⟩)) ∧ At w' w' w.heap.size q (pAttr ⟨#[65, 116, 116, 114, 105, 98, 117, 116, 101]⟩ nm l) ∧ Below w.heap.size w w' := by
  have HK0 := Lib.hid hk0
  have HK1 := Lib.hid hk1
  have HC := Lib.hid hC
  have HL := Lib.hid hl
  have HN : Hid (nm.size ≤ 140737488355328) := Lib.hid (by omega)
  have HT1 : Hid (Top (bare 0 32 16 .nilIface ⟨#[65, 116, 116, 114, 105, 98, 117, 116, 101]⟩) 0) := Lib.hid (fine_bare _ _ _ _ _ (by decide) (by decide) (by decide) (Or.inr rfl) (by decide) (by decide)).1
  have HT2 : Hid (Top (prim 0 0 4 (strV nm) (bytesOf nm) ⟨#[84, 121, 112, 101]⟩) 1000000) := Lib.hid (fine_str _ _ _ _ _ (by decide) (by decide) (by decide) (Or.inl rfl) (by decide) (by decide) hnm).1
  have HT3 : Hid (Top (addK (bare 0 32 16 .nilIface ⟨#[65, 116, 116, 114, 105, 98, 117, 116, 101]⟩) (prim 0 0 4 (strV nm) (bytesOf nm) ⟨#[84, 121, 112, 101]⟩)) 1000014) := Lib.hid (fine_add (fine_bare _ _ _ _ _ (by decide) (by decide) (by decide) (Or.inr rfl) (by decide) (by decide)) (fine_str _ _ _ _ _ (by decide) (by decide) (by decide) (Or.inl rfl) (by decide) (by decide) hnm) (by decide)).1
  have HTS : Hid (∀ k, k ≤ l.length → Top (setK (l.take k)) 1100000000) := Lib.hid (fun k hk => ((setK_fine (l.take k) (fun s hs => hl s (List.mem_of_mem_take hs))).le (by rw [List.length_take]; omega)).1)
  have HTV : Hid (∀ k (h : k < l.length), Top (prim 0 0 4 (strV l[k]) (bytesOf l[k]) ⟨#[86, 97, 108, 115]⟩) 1000000) := Lib.hid (fun k h => (fine_str _ _ _ _ _ (by decide) (by decide) (by decide) (Or.inl rfl) (by decide) (by decide) (hl _ (List.getElem_mem h))).1)
  clear hk0 hk1 hC hl hnm
  have c0 := HK0.out w (Below.refl _ _)
  go_enter Tryd.func147, Tryd.ntmps147
  go_wp2_with (first
    | (go_at_call 87
       first
       | (with_reducible refine (encode_at 0 32 16 _ w).mono ?_
          rintro e W1 ⟨q, rfl, hA, hB⟩
          have c1 := HK0.out W1 hB
          have HA1 := Lib.hid hA
          have HB1 := Lib.hid hB
          clear hA hB)
       | (with_reducible refine (encode_at 0 32 17 _ W3).mono ?_
          rintro e W4 ⟨qs, rfl, hA, hB⟩
          have HL4 := Lib.hid HA3.out.bel.size
          have HA4 := Lib.hid (HA3.out.on hB)
          have HZ4 := Lib.hid HB3.out.size
          have HB4 := Lib.hid (HB3.out.trans (hB.mono HB3.out.size))
          have HS4 := Lib.hid hA
          have c4 := HK1.out W4 HB4.out
          clear hA hB))
    | (go_at_call 62
       with_reducible refine (string_at 0 0 4 nm _ W1 HN.out).mono ?_
       rintro e W2 ⟨qt, rfl, hA, hB⟩
       have HL2 := Lib.hid HA1.out.bel.size
       have HA2 := Lib.hid (HA1.out.on hB)
       have HB2 := Lib.hid (HB1.out.trans (hB.mono HB1.out.size))
       have HC2 := Lib.hid hA
       clear hA hB)
    | (go_at_call 93
       with_reducible refine (app_at HA2.out HC2.out HL2.out HT1.out HT2.out (by decide) (by decide)).mono ?_
       rintro e W3 ⟨⟨u3, rfl⟩, hA, hB⟩
       have HA3 := Lib.hid hA
       have HB3 := Lib.hid (HB2.out.trans hB)
       clear hA hB))
  go_loopw [21] (fun i wr => ∃ k : Nat, i = .int .i64 k ∧ k ≤ l.length ∧ Hid (∃ V, At V wr W3.heap.size qs (setK (l.take k))) ∧ Hid (Below W3.heap.size W4 wr)) (fun i _ => l.length - (intOf i).toNat)
  case atStart => exact ⟨0, rfl, Nat.zero_le _, Lib.hid ⟨_, HS4.out⟩, Lib.hid (Below.refl _ _)⟩
  case round =>
    obtain ⟨k, rfl, hk, HI0, HBr⟩ := hrel
    obtain ⟨V, HI1⟩ := HI0.out
    have HI := Lib.hid HI1
    clear HI0 HI1
    have HBW : Hid (Below w.heap.size w wr) := Lib.hid (HB4.out.trans (HBr.out.mono HZ4.out))
    by_cases hlt : k < l.length
    · obtain ⟨ad, rfl, hcell⟩ := str_at HC.out hlt
      replace hcell := (HBW.out.cell (World.block_lt_of_cell? w _ hcell)).trans hcell
      have hsz : (l[k]).size ≤ 140737488355328 := Nat.le_trans (HL.out _ (List.getElem_mem hlt)) (by decide)
      have HSZ := Lib.hid hsz
      have HTK := Lib.hid (HTS.out k hk)
      have HTE := Lib.hid (HTV.out k hlt)
      have HST := Lib.hid (setK_step hlt)
      obtain ⟨s, hs⟩ : ∃ s, s = l[k] := ⟨_, rfl⟩
      rw [← hs] at hcell HSZ HTE HST
      clear hsz hs
      go_wp2_with (first
        | (go_at_call 62
           with_reducible refine (string_at 0 0 4 s _ wr HSZ.out).mono ?_
           rintro e W6 ⟨qv, rfl, hA, hB⟩
           have HL6 := Lib.hid HI.out.bel.size
           have HI6 := Lib.hid (HI.out.on hB)
           have HB6 := Lib.hid (HBr.out.trans (hB.mono HI.out.is_le))
           have HC6 := Lib.hid hA
           clear hA hB)
        | (go_at_call 93
           with_reducible refine (app_at HI6.out HC6.out HL6.out HTK.out HTE.out (by decide) (by decide)).mono ?_
           rintro e W7 ⟨⟨u7, rfl⟩, hA, hB⟩
           have HI7 := Lib.hid hA
           have HB7 := Lib.hid (HB6.out.trans hB)
           clear hA hB))
      exact ⟨⟨k + 1, rfl, hlt, Lib.hid ⟨_, by rw [← HST.out]; exact HI7.out⟩, HB7⟩, by
        show l.length - ((k : Int) + 1).toNat < l.length - ((k : Int)).toNat
        rw [show ((k : Int) + 1).toNat = k + 1 from rfl, Int.toNat_natCast]
        omega⟩
    · obtain rfl : k = l.length := by omega
      have HTK := Lib.hid (HTS.out l.length (Nat.le_refl _))
      have HA8 := Lib.hid (HA4.out.go HBr.out HL4.out)
      clear HTS HTV HL
      go_wp2_with (first
        | (go_at_call 93
           with_reducible refine (app_at HA8.out HI.out HL4.out HT3.out HTK.out (by decide) (by decide)).mono ?_
           rintro e W9 ⟨⟨u9, rfl⟩, hA, hB⟩
           have HA9 := Lib.hid hA
           have HB9 := Lib.hid (HBW.out.trans hB)
           clear hA hB))
      go_ret
      have h9 := HA9.out
      rw [List.take_length] at h9
      exact ⟨q, rfl, h9, HB9.out⟩

set_option maxHeartbeats 3200000 in
set_option maxRecDepth 100000 in
theorem enc_Part (nm : ByteArray) (l : List ByteArray) (A : Option Addr) (c r : Nat) (w : World) (hnm : nm.size ≤ 1000000) (hl : ∀ s, s ∈ l → s.size ≤ 1000000) (hn : l.length ≤ 1000)
    (hk0 : ∀ W, Below w.heap.size w W → W.cell? ⟨r, 1, none⟩ = some (.string nm)) (hk1 : ∀ W, Below w.heap.size w W → W.cell? ⟨r, 2, none⟩ = some (.slice A l.length c)) (hC : Kd.string.C w A l.length l) :
    Calls Tryd.prog 142 #[.pointer (some ⟨r, 1, none⟩)] w fun e w' => ∃ q, e = .returned (.pointer (some ⟨q, 0, none⟩)) ∧ At w' w' w.heap.size q (pAttr ⟨#[80, 97, 114, 116, 105, 97, 108, 65, 116, 116, 114, 105, 98, 117, 116, 101]⟩ nm l) ∧ Below w.heap.size w w' := by
  have HK0 := Lib.hid hk0
  have HK1 := Lib.hid hk1
  have HC := Lib.hid hC
  have HL := Lib.hid hl
  have HN : Hid (nm.size ≤ 140737488355328) := Lib.hid (by omega)
  have HT1 : Hid (Top (bare 0 32 16 .nilIface ⟨#[80, 97, 114, 116, 105, 97, 108, 65, 116, 116, 114, 105, 98, 117, 116, 101]⟩) 0) := Lib.hid (fine_bare _ _ _ _ _ (by decide) (by decide) (by decide) (Or.inr rfl) (by decide) (by decide)).1
  have HT2 : Hid (Top (prim 0 0 4 (strV nm) (bytesOf nm) ⟨#[84, 121, 112, 101]⟩) 1000000) := Lib.hid (fine_str _ _ _ _ _ (by decide) (by decide) (by decide) (Or.inl rfl) (by decide) (by decide) hnm).1
  have HT3 : Hid (Top (addK (bare 0 32 16 .nilIface ⟨#[80, 97, 114, 116, 105, 97, 108, 65, 116, 116, 114, 105, 98, 117, 116, 101]⟩) (prim 0 0 4 (strV nm) (bytesOf nm) ⟨#[84, 121, 112, 101]⟩)) 1000014) := Lib.hid (fine_add (fine_bare _ _ _ _ _ (by decide) (by decide) (by decide) (Or.inr rfl) (by decide) (by decide)) (fine_str _ _ _ _ _ (by decide) (by decide) (by decide) (Or.inl rfl) (by decide) (by decide) hnm) (by decide)).1
  have HTS : Hid (∀ k, k ≤ l.length → Top (setK (l.take k)) 1100000000) := Lib.hid (fun k hk => ((setK_fine (l.take k) (fun s hs => hl s (List.mem_of_mem_take hs))).le (by rw [List.length_take]; omega)).1)
  have HTV : Hid (∀ k (h : k < l.length), Top (prim 0 0 4 (strV l[k]) (bytesOf l[k]) ⟨#[86, 97, 108, 115]⟩) 1000000) := Lib.hid (fun k h => (fine_str _ _ _ _ _ (by decide) (by decide) (by decide) (Or.inl rfl) (by decide) (by decide) (hl _ (List.getElem_mem h))).1)
  clear hk0 hk1 hC hl hnm
  have c0 := HK0.out w (Below.refl _ _)
  go_enter Tryd.func142, Tryd.ntmps142
  go_wp2_with (first
    | (go_at_call 87
       first
       | (with_reducible refine (encode_at 0 32 16 _ w).mono ?_
          rintro e W1 ⟨q, rfl, hA, hB⟩
          have c1 := HK0.out W1 hB
          have HA1 := Lib.hid hA
          have HB1 := Lib.hid hB
          clear hA hB)
       | (with_reducible refine (encode_at 0 32 17 _ W3).mono ?_
          rintro e W4 ⟨qs, rfl, hA, hB⟩
          have HL4 := Lib.hid HA3.out.bel.size
          have HA4 := Lib.hid (HA3.out.on hB)
          have HZ4 := Lib.hid HB3.out.size
          have HB4 := Lib.hid (HB3.out.trans (hB.mono HB3.out.size))
          have HS4 := Lib.hid hA
          have c4 := HK1.out W4 HB4.out
          clear hA hB))
    | (go_at_call 62
       with_reducible refine (string_at 0 0 4 nm _ W1 HN.out).mono ?_
       rintro e W2 ⟨qt, rfl, hA, hB⟩
       have HL2 := Lib.hid HA1.out.bel.size
       have HA2 := Lib.hid (HA1.out.on hB)
       have HB2 := Lib.hid (HB1.out.trans (hB.mono HB1.out.size))
       have HC2 := Lib.hid hA
       clear hA hB)
    | (go_at_call 93
       with_reducible refine (app_at HA2.out HC2.out HL2.out HT1.out HT2.out (by decide) (by decide)).mono ?_
       rintro e W3 ⟨⟨u3, rfl⟩, hA, hB⟩
       have HA3 := Lib.hid hA
       have HB3 := Lib.hid (HB2.out.trans hB)
       clear hA hB))
  go_loopw [21] (fun i wr => ∃ k : Nat, i = .int .i64 k ∧ k ≤ l.length ∧ Hid (∃ V, At V wr W3.heap.size qs (setK (l.take k))) ∧ Hid (Below W3.heap.size W4 wr)) (fun i _ => l.length - (intOf i).toNat)
  case atStart => exact ⟨0, rfl, Nat.zero_le _, Lib.hid ⟨_, HS4.out⟩, Lib.hid (Below.refl _ _)⟩
  case round =>
    obtain ⟨k, rfl, hk, HI0, HBr⟩ := hrel
    obtain ⟨V, HI1⟩ := HI0.out
    have HI := Lib.hid HI1
    clear HI0 HI1
    have HBW : Hid (Below w.heap.size w wr) := Lib.hid (HB4.out.trans (HBr.out.mono HZ4.out))
    by_cases hlt : k < l.length
    · obtain ⟨ad, rfl, hcell⟩ := str_at HC.out hlt
      replace hcell := (HBW.out.cell (World.block_lt_of_cell? w _ hcell)).trans hcell
      have hsz : (l[k]).size ≤ 140737488355328 := Nat.le_trans (HL.out _ (List.getElem_mem hlt)) (by decide)
      have HSZ := Lib.hid hsz
      have HTK := Lib.hid (HTS.out k hk)
      have HTE := Lib.hid (HTV.out k hlt)
      have HST := Lib.hid (setK_step hlt)
      obtain ⟨s, hs⟩ : ∃ s, s = l[k] := ⟨_, rfl⟩
      rw [← hs] at hcell HSZ HTE HST
      clear hsz hs
      go_wp2_with (first
        | (go_at_call 62
           with_reducible refine (string_at 0 0 4 s _ wr HSZ.out).mono ?_
           rintro e W6 ⟨qv, rfl, hA, hB⟩
           have HL6 := Lib.hid HI.out.bel.size
           have HI6 := Lib.hid (HI.out.on hB)
           have HB6 := Lib.hid (HBr.out.trans (hB.mono HI.out.is_le))
           have HC6 := Lib.hid hA
           clear hA hB)
        | (go_at_call 93
           with_reducible refine (app_at HI6.out HC6.out HL6.out HTK.out HTE.out (by decide) (by decide)).mono ?_
           rintro e W7 ⟨⟨u7, rfl⟩, hA, hB⟩
           have HI7 := Lib.hid hA
           have HB7 := Lib.hid (HB6.out.trans hB)
           clear hA hB))
      exact ⟨⟨k + 1, rfl, hlt, Lib.hid ⟨_, by rw [← HST.out]; exact HI7.out⟩, HB7⟩, by
        show l.length - ((k : Int) + 1).toNat < l.length - ((k : Int)).toNat
        rw [show ((k : Int) + 1).toNat = k + 1 from rfl, Int.toNat_natCast]
        omega⟩
    · obtain rfl : k = l.length := by omega
      have HTK := Lib.hid (HTS.out l.length (Nat.le_refl _))
      have HA8 := Lib.hid (HA4.out.go HBr.out HL4.out)
      clear HTS HTV HL
      go_wp2_with (first
        | (go_at_call 93
           with_reducible refine (app_at HA8.out HI.out HL4.out HT3.out HTK.out (by decide) (by decide)).mono ?_
           rintro e W9 ⟨⟨u9, rfl⟩, hA, hB⟩
           have HA9 := Lib.hid hA
           have HB9 := Lib.hid (HBW.out.trans hB)
           clear hA hB))
      go_ret
      have h9 := HA9.out
      rw [List.take_length] at h9
      exact ⟨q, rfl, h9, HB9.out⟩

end Go.Proofs.YtbmcpjkhnhbjdaaDoor.Ber

namespace Go.Proofs.YtbmcpjkhnhbjdaaDoor.Ber
open Go.RowKit Go.Proofs.YtbmcpjkhnhbjdaaDoorW.PrintWords Go.Proofs.YtbmcpjkhnhbjdaaDoor.PFnEncode Go.Proofs.YtbmcpjkhnhbjdaaDoor.Tree Go.Proofs.YtbmcpjkhnhbjdaaDoor.Buf Go.Proofs.YtbmcpjkhnhbjdaaDoor.Pk Go.Proofs.YtbmcpjkhnhbjdaaDoor.Within Go.Proofs.YtbmcpjkhnhbjdaaDoor.Num
set_option linter.unusedVariables false
set_option linter.unusedSimpArgs false

/-- children, one after the other -/
def foldK {α : Type} (b : Pk) (f : α → Pk) (l : List α) : Pk := l.foldl (fun x a => addK x (f a)) b
theorem foldK_snoc {α : Type} (b : Pk) (f : α → Pk) (l : List α) (a : α) : foldK b f (l ++ [a]) = addK (foldK b f l) (f a) := by
  unfold foldK
  rw [List.foldl_append]
  rfl
theorem foldK_step {α : Type} (b : Pk) (f : α → Pk) {l : List α} {k : Nat} (hk : k < l.length) : addK (foldK b f (l.take k)) (f l[k]) = foldK b f (l.take (k + 1)) := by
  rw [List.take_succ_eq_append_getElem hk, foldK_snoc]
theorem foldK_fine {α : Type} {b : Pk} {f : α → Pk} {n m : Nat} (hb : Fine b n) (hm : m < 1000000000000) (l : List α) : (∀ a, a ∈ l → Fine (f a) m) → Fine (foldK b f l) (n + l.length * (14 + m)) := by
  obtain ⟨r, rfl⟩ : ∃ r : List α, l = r.reverse := ⟨l.reverse, by simp⟩
  induction r with
  | nil => intro _; exact hb.le (Nat.le_add_right _ _)
  | cons s r ih =>
    intro h
    rw [List.reverse_cons, foldK_snoc]
    refine (fine_add (ih (fun x hx => h x (by rw [List.reverse_cons]; exact List.mem_append_left _ hx))) (h s (by simp)) hm).le ?_
    rw [List.length_append, List.length_singleton, Nat.add_mul]
    omega
theorem tr_fold {α : Type} (cls typ tag : Int) (val : Value) (d : ByteArray) (f : α → Pk) (l : List α) (ht : typ = 32) : trOf (foldK (bare cls typ tag val d) f l) = ⟨cls / 64, tag, true, [], l.map fun a => trOf (f a)⟩ := by
  have key : ∀ l : List α, (foldK (bare cls typ tag val d) f l).cls = cls ∧ (foldK (bare cls typ tag val d) f l).typ = typ ∧ (foldK (bare cls typ tag val d) f l).tag = tag ∧ trL (foldK (bare cls typ tag val d) f l).kids = l.map fun a => trOf (f a) := by
    intro l
    obtain ⟨r, rfl⟩ : ∃ r : List α, l = r.reverse := ⟨l.reverse, by simp⟩
    induction r with
    | nil => exact ⟨rfl, rfl, rfl, rfl⟩
    | cons s r ih =>
      obtain ⟨h1, h2, h3, h4⟩ := ih
      rw [List.reverse_cons, foldK_snoc]
      refine ⟨h1, h2, h3, ?_⟩
      show trL ((foldK (bare cls typ tag val d) f r.reverse).kids ++ [_]) = _
      rw [trL_append, h4, List.map_append]
      congr 1
  obtain ⟨h1, h2, h3, h4⟩ := key l
  generalize foldK (bare cls typ tag val d) f l = x at h1 h2 h3 h4
  obtain ⟨c', t', g', v', bv, data, kids, desc⟩ := x
  simp only at h1 h2 h3 h4
  subst h1
  subst h2
  subst h3
  subst ht
  simp [trOf, h4]

/-- a change's packet -/
def pChange (op : Int) (nm : ByteArray) (l : List ByteArray) : Pk := (addK (addK (bare 0 32 16 .nilIface ⟨#[67, 104, 97, 110, 103, 101]⟩) (prim 0 0 10 (.iface 122 (.int .u64 op)) (whole op) ⟨#[79, 112, 101, 114, 97, 116, 105, 111, 110]⟩)) (pAttr ⟨#[80, 97, 114, 116, 105, 97, 108, 65, 116, 116, 114, 105, 98, 117, 116, 101]⟩ nm l))
theorem pChange_fine (op : Int) (nm : ByteArray) (l : List ByteArray) (h0 : 0 ≤ op) (h1 : op ≤ 9223372036854775807) (hnm : nm.size ≤ 1000000) (hl : ∀ s, s ∈ l → s.size ≤ 1000000) (hn : l.length ≤ 1000) : Fine (pChange op nm l) 1200000000 :=
  (fine_add (fine_add (fine_bare _ _ _ _ _ (by decide) (by decide) (by decide) (Or.inr rfl) (by decide) (by decide)) (fine_prim _ _ _ _ _ _ (by decide) (by decide) (by decide) (Or.inl rfl) (by decide) (by decide) (whole_len op ⟨by omega, h1⟩)) (by decide)) (pAttr_fine _ nm l hnm hl hn) (by decide)).le (by omega)
theorem tr_change (op : Int) (nm : ByteArray) (l : List ByteArray) : trOf (pChange op nm l) = ⟨0, 16, true, [], [⟨0, 10, false, whole op, []⟩, ⟨0, 16, true, [], [⟨0, 4, false, bytesOf nm, []⟩, ⟨0, 17, true, [], l.map fun s => ⟨0, 4, false, bytesOf s, []⟩⟩]⟩]⟩ := by
  have h := tr_attr ⟨#[80, 97, 114, 116, 105, 97, 108, 65, 116, 116, 114, 105, 98, 117, 116, 101]⟩ nm l
  unfold pChange
  generalize pAttr ⟨#[80, 97, 114, 116, 105, 97, 108, 65, 116, 116, 114, 105, 98, 117, 116, 101]⟩ nm l = x at h ⊢
  unfold addK bare prim
  simp [trOf, trL, h]

set_option maxHeartbeats 3200000 in
set_option maxRecDepth 100000 in
theorem enc_Change (op : Int) (nm : ByteArray) (l : List ByteArray) (A : Option Addr) (c r : Nat) (w : World) (h0 : 0 ≤ op) (h1 : op ≤ 9223372036854775807) (hnm : nm.size ≤ 1000000) (hl : ∀ s, s ∈ l → s.size ≤ 1000000) (hn : l.length ≤ 1000)
    (hk0 : ∀ W, Below w.heap.size w W → W.cell? ⟨r, 0, none⟩ = some (.int .u64 op)) (hk1 : ∀ W, Below w.heap.size w W → W.cell? ⟨r, 1, none⟩ = some (.string nm)) (hk2 : ∀ W, Below w.heap.size w W → W.cell? ⟨r, 2, none⟩ = some (.slice A l.length c)) (hC : Kd.string.C w A l.length l) :
    Calls Tryd.prog 141 #[.pointer (some ⟨r, 0, none⟩)] w fun e w' => ∃ q, e = .returned (.pointer (some ⟨q, 0, none⟩)) ∧ At w' w' w.heap.size q (pChange op nm l) ∧ Below w.heap.size w w' := by
  have HK0 := Lib.hid hk0
  have HP : Hid (∀ W, Below w.heap.size w W → Calls Tryd.prog 142 #[.pointer (some ⟨r, 1, none⟩)] W fun e w' => ∃ q, e = .returned (.pointer (some ⟨q, 0, none⟩)) ∧ At w' w' W.heap.size q (pAttr ⟨#[80, 97, 114, 116, 105, 97, 108, 65, 116, 116, 114, 105, 98, 117, 116, 101]⟩ nm l) ∧ Below W.heap.size W w') :=
    Lib.hid (fun W hb => enc_Part nm l A c r W hnm hl hn (fun W' hb' => hk1 W' (hb.trans (hb'.mono hb.size))) (fun W' hb' => hk2 W' (hb.trans (hb'.mono hb.size))) (Kd.C_below hC hb))
  have HI : Hid (0 ≤ op ∧ op ≤ 9223372036854775807) := Lib.hid ⟨h0, h1⟩
  have HT1 : Hid (Top (bare 0 32 16 .nilIface ⟨#[67, 104, 97, 110, 103, 101]⟩) 0) := Lib.hid (fine_bare _ _ _ _ _ (by decide) (by decide) (by decide) (Or.inr rfl) (by decide) (by decide)).1
  have HT2 : Hid (Top (prim 0 0 10 (.iface 122 (.int .u64 op)) (whole op) ⟨#[79, 112, 101, 114, 97, 116, 105, 111, 110]⟩) 8) := Lib.hid (fine_prim _ _ _ _ _ _ (by decide) (by decide) (by decide) (Or.inl rfl) (by decide) (by decide) (whole_len op ⟨by omega, h1⟩)).1
  have HT3 : Hid (Top (addK (bare 0 32 16 .nilIface ⟨#[67, 104, 97, 110, 103, 101]⟩) (prim 0 0 10 (.iface 122 (.int .u64 op)) (whole op) ⟨#[79, 112, 101, 114, 97, 116, 105, 111, 110]⟩)) 22) := Lib.hid (fine_add (fine_bare _ _ _ _ _ (by decide) (by decide) (by decide) (Or.inr rfl) (by decide) (by decide)) (fine_prim _ _ _ _ _ _ (by decide) (by decide) (by decide) (Or.inl rfl) (by decide) (by decide) (whole_len op ⟨by omega, h1⟩)) (by decide)).1
  have HT4 : Hid (Top (pAttr ⟨#[80, 97, 114, 116, 105, 97, 108, 65, 116, 116, 114, 105, 98, 117, 116, 101]⟩ nm l) 1100000000) := Lib.hid (pAttr_fine _ nm l hnm hl hn).1
  clear hk0 hk1 hk2 hC hl hnm h0 h1 hn
  go_enter Tryd.func141, Tryd.ntmps141
  go_wp2_with (first
    | (go_at_call 87
       with_reducible refine (encode_at 0 32 16 _ w).mono ?_
       rintro e W1 ⟨q, rfl, hA, hB⟩
       have c1 := HK0.out W1 hB
       have HA1 := Lib.hid hA
       have HB1 := Lib.hid hB
       clear hA hB)
    | (go_at_call 103
       with_reducible refine (intU_at 0 0 10 op _ W1 HI.out).mono ?_
       rintro e W2 ⟨qt, rfl, hA, hB⟩
       have HL2 := Lib.hid HA1.out.bel.size
       have HA2 := Lib.hid (HA1.out.on hB)
       have HB2 := Lib.hid (HB1.out.trans (hB.mono HB1.out.size))
       have HC2 := Lib.hid hA
       clear hA hB)
    | (go_at_call 142
       with_reducible refine (HP.out W3 HB3.out).mono ?_
       rintro e W4 ⟨qs, rfl, hA, hB⟩
       have HL4 := Lib.hid HA3.out.bel.size
       have HA4 := Lib.hid (HA3.out.on hB)
       have HB4 := Lib.hid (HB3.out.trans (hB.mono HB3.out.size))
       have HC4 := Lib.hid hA
       clear hA hB)
    | (go_at_call 93
       first
       | (with_reducible refine (app_at HA2.out HC2.out HL2.out HT1.out HT2.out (by decide) (by decide)).mono ?_
          rintro e W3 ⟨⟨u3, rfl⟩, hA, hB⟩
          have HA3 := Lib.hid hA
          have HB3 := Lib.hid (HB2.out.trans hB)
          clear hA hB)
       | (with_reducible refine (app_at HA4.out HC4.out HL4.out HT3.out HT4.out (by decide) (by decide)).mono ?_
          rintro e W5 ⟨⟨u5, rfl⟩, hA, hB⟩
          have HA5 := Lib.hid hA
          have HB5 := Lib.hid (HB4.out.trans hB)
          clear hA hB)))
  go_ret
  exact ⟨q, rfl, HA5.out, HB5.out⟩
end Go.Proofs.YtbmcpjkhnhbjdaaDoor.Ber

namespace Go.Proofs.YtbmcpjkhnhbjdaaDoor.Ber
open Go.RowKit Go.Proofs.YtbmcpjkhnhbjdaaDoorW.PrintWords Go.Proofs.YtbmcpjkhnhbjdaaDoor.PFnEncode Go.Proofs.YtbmcpjkhnhbjdaaDoor.Tree Go.Proofs.YtbmcpjkhnhbjdaaDoor.Buf Go.Proofs.YtbmcpjkhnhbjdaaDoor.Pk Go.Proofs.YtbmcpjkhnhbjdaaDoor.Within Go.Proofs.YtbmcpjkhnhbjdaaDoor.Num
set_option linter.unusedVariables false
set_option linter.unusedSimpArgs false

/-- an attribute whose texts are short -/
def okA (a : S58) : Prop := a.f0.size ≤ 1000000 ∧ (∀ s, s ∈ a.f1 → s.size ≤ 1000000) ∧ a.f1.length ≤ 1000
def fAttr (a : S58) : Pk := pAttr ⟨#[65, 116, 116, 114, 105, 98, 117, 116, 101]⟩ a.f0 a.f1
theorem fAttr_fine (a : S58) (h : okA a) : Fine (fAttr a) 1200000000 := (pAttr_fine _ _ _ h.1 h.2.1 h.2.2).le (by decide)

/-- the request as a packet -/
def pAdd (dn : ByteArray) (l : List S58) : Pk := addK (addK (bare 64 32 8 .nilIface ⟨#[65, 100, 100, 32, 82, 101, 113, 117, 101, 115, 116]⟩) (prim 0 0 4 (strV dn) (bytesOf dn) ⟨#[68, 78]⟩)) (foldK (bare 0 32 16 .nilIface ⟨#[65, 116, 116, 114, 105, 98, 117, 116, 101, 115]⟩) fAttr l)
theorem pAdd_fine (dn : ByteArray) (l : List S58) (hdn : dn.size ≤ 1000000) (hl : ∀ a, a ∈ l → okA a) (hn : l.length ≤ 20) : Fine (pAdd dn l) 30000000000 :=
  (fine_add (fine_add (fine_bare _ _ _ _ _ (by decide) (by decide) (by decide) (Or.inr rfl) (by decide) (by decide)) (fine_str _ _ _ _ _ (by decide) (by decide) (by decide) (Or.inl rfl) (by decide) (by decide) hdn) (by decide)) (foldK_fine (fine_bare _ _ _ _ _ (by decide) (by decide) (by decide) (Or.inr rfl) (by decide) (by decide)) (by decide) l (fun a ha => fAttr_fine a (hl a ha))) (by omega)).le (by omega)
set_option maxHeartbeats 3200000 in
set_option maxRecDepth 100000 in
theorem appendTo_Add (dn : ByteArray) (l : List S58) (hdn : dn.size ≤ 1000000) (hl : ∀ a, a ∈ l → okA a) (hnl : l.length ≤ 20) (A : Option Addr) (c r base q n : Nat) (E : Pk) (w : World) (hE : At w w base q E) (tE : Top E n) (hn : n < 100000000000)
    (hr : w.heap[r]? = some (.cells #[.string dn, .slice A l.length c, .slice none 0 0] 174 (0, 0))) (hrb : r < base) (hC : k58.C w A l.length l) :
    Calls Tryd.prog 146 #[.pointer (some ⟨r, 0, none⟩), .pointer (some ⟨q, 0, none⟩)] w fun e w' => e = .returned .nilIface ∧ At w' w' base q (addK E (pAdd dn l)) ∧ Below base w w' := by
  have HE := Lib.hid hE
  have TE := Lib.hid tE
  have HR := Lib.hid hr
  have HRB := Lib.hid hrb
  have HC := Lib.hid hC
  have HL := Lib.hid hl
  have HN : Hid (dn.size ≤ 140737488355328) := Lib.hid (by omega)
  have HT1 : Hid (Top (bare 64 32 8 .nilIface ⟨#[65, 100, 100, 32, 82, 101, 113, 117, 101, 115, 116]⟩) 0) := Lib.hid (fine_bare _ _ _ _ _ (by decide) (by decide) (by decide) (Or.inr rfl) (by decide) (by decide)).1
  have HT2 : Hid (Top (prim 0 0 4 (strV dn) (bytesOf dn) ⟨#[68, 78]⟩) 1000000) := Lib.hid (fine_str _ _ _ _ _ (by decide) (by decide) (by decide) (Or.inl rfl) (by decide) (by decide) hdn).1
  have HT3 : Hid (Top (addK (bare 64 32 8 .nilIface ⟨#[65, 100, 100, 32, 82, 101, 113, 117, 101, 115, 116]⟩) (prim 0 0 4 (strV dn) (bytesOf dn) ⟨#[68, 78]⟩)) 1000014) := Lib.hid (fine_add (fine_bare _ _ _ _ _ (by decide) (by decide) (by decide) (Or.inr rfl) (by decide) (by decide)) (fine_str _ _ _ _ _ (by decide) (by decide) (by decide) (Or.inl rfl) (by decide) (by decide) hdn) (by decide)).1
  have HT9 : Hid (Top (pAdd dn l) 30000000000) := Lib.hid (pAdd_fine dn l hdn hl hnl).1
  obtain ⟨b0, hb0⟩ : ∃ b, b = bare 0 32 16 .nilIface ⟨#[65, 116, 116, 114, 105, 98, 117, 116, 101, 115]⟩ := ⟨_, rfl⟩
  have HTS : Hid (∀ k, k ≤ l.length → Top (foldK b0 fAttr (l.take k)) 25000000000) := Lib.hid (fun k hk => by
    rw [hb0]
    exact ((foldK_fine (fine_bare _ _ _ _ _ (by decide) (by decide) (by decide) (Or.inr rfl) (by decide) (by decide)) (by decide) (l.take k) (fun a ha => fAttr_fine a (hl a (List.mem_of_mem_take ha)))).le (by rw [List.length_take]; omega)).1)
  have HTV : Hid (∀ k (h : k < l.length), Top (fAttr l[k]) 1200000000) := Lib.hid (fun k h => (fAttr_fine _ (hl _ (List.getElem_mem h))).1)
  have HPA : Hid (addK (addK (bare 64 32 8 .nilIface ⟨#[65, 100, 100, 32, 82, 101, 113, 117, 101, 115, 116]⟩) (prim 0 0 4 (strV dn) (bytesOf dn) ⟨#[68, 78]⟩)) (foldK b0 fAttr l) = pAdd dn l) := Lib.hid (by rw [hb0]; rfl)
  have HEB : Hid (∀ W, At W W W.heap.size 0 b0 → True) := Lib.hid (fun _ _ => trivial)
  have HB0 := Lib.hid hb0
  clear hE tE hr hrb hC hl hdn hb0 HEB
  obtain ⟨px, hpx⟩ : ∃ px, px = pAdd dn l := ⟨_, rfl⟩
  rw [← hpx] at HPA HT9 ⊢
  clear hpx
  have c0 : w.cell? ⟨r, 0, none⟩ = some (.string dn) := blk_cell HR.out 0
  go_enter Tryd.func146, Tryd.ntmps146
  go_wp2_with (first
    | (go_at_call 87
       first
       | (with_reducible refine (encode_at 64 32 8 _ w).mono ?_
          rintro e W1 ⟨qp, rfl, hA, hB⟩
          have c1 : W1.cell? ⟨r, 0, none⟩ = some (.string dn) := blk_cell (blk_below HR.out hB) 0
          have HA1 := Lib.hid hA
          have HB1 := Lib.hid hB
          clear hA hB)
       | (with_reducible refine (encode_at 0 32 16 _ W3).mono ?_
          rintro e W4 ⟨qs, rfl, hA, hB⟩
          rw [← HB0.out] at hA
          have HL4 := Lib.hid HA3.out.bel.size
          have HA4 := Lib.hid (HA3.out.on hB)
          have HZ4 := Lib.hid HB3.out.size
          have HB4 := Lib.hid (HB3.out.trans (hB.mono HB3.out.size))
          have HS4 := Lib.hid hA
          have c4 : W4.cell? ⟨r, 1, none⟩ = some (.slice A l.length c) := blk_cell (blk_below HR.out HB4.out) 1
          clear hA hB))
    | (go_at_call 62
       with_reducible refine (string_at 0 0 4 dn _ W1 HN.out).mono ?_
       rintro e W2 ⟨qt, rfl, hA, hB⟩
       have HL2 := Lib.hid HA1.out.bel.size
       have HA2 := Lib.hid (HA1.out.on hB)
       have HB2 := Lib.hid (HB1.out.trans (hB.mono HB1.out.size))
       have HC2 := Lib.hid hA
       clear hA hB)
    | (go_at_call 93
       with_reducible refine (app_at HA2.out HC2.out HL2.out HT1.out HT2.out (by decide) (by decide)).mono ?_
       rintro e W3 ⟨⟨u3, rfl⟩, hA, hB⟩
       have HA3 := Lib.hid hA
       have HB3 := Lib.hid (HB2.out.trans hB)
       clear hA hB))
  go_loopw [23] (fun i wr => ∃ k : Nat, i = .int .i64 k ∧ k ≤ l.length ∧ Hid (∃ V, At V wr W3.heap.size qs (foldK b0 fAttr (l.take k))) ∧ Hid (Below W3.heap.size W4 wr)) (fun i _ => l.length - (intOf i).toNat)
  case atStart => exact ⟨0, rfl, Nat.zero_le _, Lib.hid ⟨_, HS4.out⟩, Lib.hid (Below.refl _ _)⟩
  case round =>
    obtain ⟨k, rfl, hk, HI0, HBr⟩ := hrel
    obtain ⟨V, HI1⟩ := HI0.out
    have HI := Lib.hid HI1
    clear HI0 HI1
    have HBW : Hid (Below w.heap.size w wr) := Lib.hid (HB4.out.trans (HBr.out.mono HZ4.out))
    by_cases hlt : k < l.length
    · obtain ⟨ad, A1, c1, rfl, e0, e1, l1, g1⟩ := at_T58 HC.out (k : Int) (by omega) (by omega)
      rw [Int.toNat_natCast] at e0 e1
      replace e0 := (HBW.out.cell (World.block_lt_of_cell? w _ e0)).trans e0
      replace e1 := (HBW.out.cell (World.block_lt_of_cell? w _ e1)).trans e1
      have HTK := Lib.hid (HTS.out k hk)
      have HTE := Lib.hid (HTV.out k hlt)
      have HST := Lib.hid (foldK_step b0 fAttr hlt)
      have HOK := Lib.hid (HL.out _ (List.getElem_mem hlt))
      have hrd : rd_T58 l (k : Int) = l[k] := by rw [rd_T58, Int.toNat_natCast, List.getD_eq_getElem?_getD, List.getElem?_eq_getElem hlt]; rfl
      rw [hrd] at e0 e1 l1 g1
      obtain ⟨s, hs⟩ : ∃ s, s = l[k] := ⟨_, rfl⟩
      rw [← hs] at e0 e1 l1 g1 HTE HST HOK
      have HG1 := Lib.hid (Kd.C_below g1 HBW.out)
      obtain ⟨o1, o2, o3⟩ := HOK.out
      clear hrd hs g1 l1
      skip
      go_wp2_with (first
        | (go_at_call 147
           obtain ⟨W5, hW5⟩ : ∃ W5, W5 = wr.alloc (.cells #[.string s.f0, .slice A1 s.f1.length c1] 175) := ⟨_, rfl⟩
           rw [← hW5]
           have hb5 : Below wr.heap.size wr W5 := by rw [hW5]; exact below_alloc (Below.refl _ _) _
           have hx5 : W5.heap[wr.heap.size]? = some (.cells #[.string s.f0, .slice A1 s.f1.length c1] 175 (0, 0)) := by rw [hW5]; exact blk_new _ _
           clear hW5
           have hcall := enc_Attr s.f0 s.f1 A1 c1 wr.heap.size W5 o1 o2 o3 (fun W hb => blk_cell (blk_below hx5 hb) 0) (fun W hb => blk_cell (blk_below hx5 hb) 1) (Kd.C_below HG1.out hb5)
           with_reducible refine hcall.mono ?_
           rintro e W6 ⟨qv, rfl, hA, hB⟩
           have HL6 := Lib.hid (Nat.le_trans HI.out.bel.size hb5.size)
           replace hB := hb5.trans (hB.mono hb5.size)
           have HI6 := Lib.hid (HI.out.on hB)
           have HB6 := Lib.hid (HBr.out.trans (hB.mono HI.out.is_le))
           have HC6 := Lib.hid (show At W6 W6 W5.heap.size qv (fAttr s) from hA)
           have HL6 := Lib.hid (Nat.le_trans HI.out.bel.size hb5.size)
           clear hA hB hb5 hx5 hcall)
        | (go_at_call 93
           with_reducible refine (app_at HI6.out HC6.out HL6.out HTK.out HTE.out (by decide) (by decide)).mono ?_
           rintro e W7 ⟨⟨u7, rfl⟩, hA, hB⟩
           have HI7 := Lib.hid hA
           have HB7 := Lib.hid (HB6.out.trans hB)
           clear hA hB))
      exact ⟨⟨k + 1, rfl, hlt, Lib.hid ⟨_, by rw [← HST.out]; exact HI7.out⟩, HB7⟩, by
        show l.length - ((k : Int) + 1).toNat < l.length - ((k : Int)).toNat
        rw [show ((k : Int) + 1).toNat = k + 1 from rfl, Int.toNat_natCast]
        omega⟩
    · obtain rfl : k = l.length := by omega
      have HTK := Lib.hid (HTS.out l.length (Nat.le_refl _))
      have HA8 := Lib.hid (HA4.out.go HBr.out HL4.out)
      rw [List.take_length] at HTK HI
      clear HTS HTV HL
      go_wp2_with (first
        | (go_at_call 93
           first
           | (with_reducible refine (app_at HA8.out HI.out HL4.out HT3.out HTK.out (by decide) (by decide)).mono ?_
              rintro e W9 ⟨⟨u9, rfl⟩, hA, hB⟩
              rw [HPA.out] at hA
              have HA9 := Lib.hid hA
              have HB9 := Lib.hid (HBW.out.trans hB)
              clear hA hB)
           | (with_reducible refine (app_at (HE.out.on HB9.out) HA9.out (Nat.le_refl _) TE.out HT9.out (by omega) (by decide)).mono ?_
              rintro e W10 ⟨⟨u10, rfl⟩, hA, hB⟩
              have HAE := Lib.hid hA
              have HBE := Lib.hid ((HB9.out.mono HE.out.le).trans hB)
              have cE : W10.cell? ⟨r, 2, none⟩ = some (.slice none 0 0) := blk_cell ((HBE.out.block r HRB.out).trans HR.out) 2
              clear hA hB)))
      go_ret
      exact ⟨rfl, HAE.out, HBE.out⟩

end Go.Proofs.YtbmcpjkhnhbjdaaDoor.Ber

namespace Go.Proofs.YtbmcpjkhnhbjdaaDoor.Ber
open Go.RowKit Go.Proofs.YtbmcpjkhnhbjdaaDoorW.PrintWords Go.Proofs.YtbmcpjkhnhbjdaaDoor.PFnEncode Go.Proofs.YtbmcpjkhnhbjdaaDoor.Tree Go.Proofs.YtbmcpjkhnhbjdaaDoor.Buf Go.Proofs.YtbmcpjkhnhbjdaaDoor.Pk Go.Proofs.YtbmcpjkhnhbjdaaDoor.Within Go.Proofs.YtbmcpjkhnhbjdaaDoor.Num
set_option linter.unusedVariables false
set_option linter.unusedSimpArgs false

/-- a change: its number and its attribute -/
def rd_C (xs : List (Int × S58)) (i : Int) : Int × S58 := xs.getD i.toNat ((0 : Int), z58)
abbrev kCh : Kd (Int × S58) := Kd.pair (Kd.int .u64) k58
theorem at_C {w : World} {A : Option Addr} {n : Nat} {xs : List (Int × S58)} (h : Kd.C kCh w A n xs) (i : Int) (h0 : 0 ≤ i) (h1 : i < n) : ∃ ad A2 c2, A = some ad ∧ w.cell? (ad.add (i.toNat * 3)) = some (.int .u64 (rd_C xs i).1) ∧ w.cell? ⟨(ad.add (i.toNat * 3)).block, (ad.add (i.toNat * 3)).off + 1, none⟩ = some (.string (rd_C xs i).2.f0) ∧ w.cell? ⟨(ad.add (i.toNat * 3)).block, (ad.add (i.toNat * 3)).off + 2, none⟩ = some (.slice A2 (rd_C xs i).2.f1.length c2) ∧ (rd_C xs i).2.f1.length ≤ c2 ∧ Kd.C Kd.string w A2 (rd_C xs i).2.f1.length (rd_C xs i).2.f1 := by
  obtain ⟨ad, c, e, _, hK, hc0⟩ := Kd.C_get h ((0 : Int), z58) i h0 h1
  have hc : ∀ j u, c[j]? = some u → w.cell? (ad.add (i.toNat * 3 + j)) = some u := hc0
  obtain ⟨_, _, rfl, rfl, s1⟩ := hK
  obtain ⟨A2, c2, rfl, l2, g2⟩ := k58_open s1
  exact ⟨ad, A2, c2, e, hc 0 _ rfl, by rw [← add_field _ _ 1 (by omega)]; exact hc 1 _ rfl, by rw [← add_field _ _ 2 (by omega)]; exact hc 2 _ rfl, l2, g2⟩
/-- a change whose texts are short -/
def okC (a : Int × S58) : Prop := (0 ≤ a.1 ∧ a.1 ≤ 9223372036854775807) ∧ okA a.2
def fCh (a : Int × S58) : Pk := pChange a.1 a.2.f0 a.2.f1
theorem fCh_fine (a : Int × S58) (h : okC a) : Fine (fCh a) 1200000000 := pChange_fine _ _ _ h.1.1 h.1.2 h.2.1 h.2.2.1 h.2.2.2

/-- the request as a packet -/
def pModify (dn : ByteArray) (l : List (Int × S58)) : Pk := addK (addK (bare 64 32 6 .nilIface ⟨#[77, 111, 100, 105, 102, 121, 32, 82, 101, 113, 117, 101, 115, 116]⟩) (prim 0 0 4 (strV dn) (bytesOf dn) ⟨#[68, 78]⟩)) (foldK (bare 0 32 16 .nilIface ⟨#[67, 104, 97, 110, 103, 101, 115]⟩) fCh l)
theorem pModify_fine (dn : ByteArray) (l : List (Int × S58)) (hdn : dn.size ≤ 1000000) (hl : ∀ a, a ∈ l → okC a) (hn : l.length ≤ 20) : Fine (pModify dn l) 30000000000 :=
  (fine_add (fine_add (fine_bare _ _ _ _ _ (by decide) (by decide) (by decide) (Or.inr rfl) (by decide) (by decide)) (fine_str _ _ _ _ _ (by decide) (by decide) (by decide) (Or.inl rfl) (by decide) (by decide) hdn) (by decide)) (foldK_fine (fine_bare _ _ _ _ _ (by decide) (by decide) (by decide) (Or.inr rfl) (by decide) (by decide)) (by decide) l (fun a ha => fCh_fine a (hl a ha))) (by omega)).le (by omega)
set_option maxHeartbeats 3200000 in
set_option maxRecDepth 100000 in
theorem appendTo_Modify (dn : ByteArray) (l : List (Int × S58)) (hdn : dn.size ≤ 1000000) (hl : ∀ a, a ∈ l → okC a) (hnl : l.length ≤ 20) (A : Option Addr) (c r base q n : Nat) (E : Pk) (w : World) (hE : At w w base q E) (tE : Top E n) (hn : n < 100000000000)
    (hr : w.heap[r]? = some (.cells #[.string dn, .slice A l.length c, .slice none 0 0] 108 (0, 0))) (hrb : r < base) (hC : Kd.C kCh w A l.length l) :
    Calls Tryd.prog 140 #[.pointer (some ⟨r, 0, none⟩), .pointer (some ⟨q, 0, none⟩)] w fun e w' => e = .returned .nilIface ∧ At w' w' base q (addK E (pModify dn l)) ∧ Below base w w' := by
  have HE := Lib.hid hE
  have TE := Lib.hid tE
  have HR := Lib.hid hr
  have HRB := Lib.hid hrb
  have HC := Lib.hid hC
  have HL := Lib.hid hl
  have HN : Hid (dn.size ≤ 140737488355328) := Lib.hid (by omega)
  have HT1 : Hid (Top (bare 64 32 6 .nilIface ⟨#[77, 111, 100, 105, 102, 121, 32, 82, 101, 113, 117, 101, 115, 116]⟩) 0) := Lib.hid (fine_bare _ _ _ _ _ (by decide) (by decide) (by decide) (Or.inr rfl) (by decide) (by decide)).1
  have HT2 : Hid (Top (prim 0 0 4 (strV dn) (bytesOf dn) ⟨#[68, 78]⟩) 1000000) := Lib.hid (fine_str _ _ _ _ _ (by decide) (by decide) (by decide) (Or.inl rfl) (by decide) (by decide) hdn).1
  have HT3 : Hid (Top (addK (bare 64 32 6 .nilIface ⟨#[77, 111, 100, 105, 102, 121, 32, 82, 101, 113, 117, 101, 115, 116]⟩) (prim 0 0 4 (strV dn) (bytesOf dn) ⟨#[68, 78]⟩)) 1000014) := Lib.hid (fine_add (fine_bare _ _ _ _ _ (by decide) (by decide) (by decide) (Or.inr rfl) (by decide) (by decide)) (fine_str _ _ _ _ _ (by decide) (by decide) (by decide) (Or.inl rfl) (by decide) (by decide) hdn) (by decide)).1
  have HT9 : Hid (Top (pModify dn l) 30000000000) := Lib.hid (pModify_fine dn l hdn hl hnl).1
  obtain ⟨b0, hb0⟩ : ∃ b, b = bare 0 32 16 .nilIface ⟨#[67, 104, 97, 110, 103, 101, 115]⟩ := ⟨_, rfl⟩
  have HTS : Hid (∀ k, k ≤ l.length → Top (foldK b0 fCh (l.take k)) 25000000000) := Lib.hid (fun k hk => by
    rw [hb0]
    exact ((foldK_fine (fine_bare _ _ _ _ _ (by decide) (by decide) (by decide) (Or.inr rfl) (by decide) (by decide)) (by decide) (l.take k) (fun a ha => fCh_fine a (hl a (List.mem_of_mem_take ha)))).le (by rw [List.length_take]; omega)).1)
  have HTV : Hid (∀ k (h : k < l.length), Top (fCh l[k]) 1200000000) := Lib.hid (fun k h => (fCh_fine _ (hl _ (List.getElem_mem h))).1)
  have HPA : Hid (addK (addK (bare 64 32 6 .nilIface ⟨#[77, 111, 100, 105, 102, 121, 32, 82, 101, 113, 117, 101, 115, 116]⟩) (prim 0 0 4 (strV dn) (bytesOf dn) ⟨#[68, 78]⟩)) (foldK b0 fCh l) = pModify dn l) := Lib.hid (by rw [hb0]; rfl)
  have HEB : Hid (∀ W, At W W W.heap.size 0 b0 → True) := Lib.hid (fun _ _ => trivial)
  have HB0 := Lib.hid hb0
  clear hE tE hr hrb hC hl hdn hb0 HEB
  obtain ⟨px, hpx⟩ : ∃ px, px = pModify dn l := ⟨_, rfl⟩
  rw [← hpx] at HPA HT9 ⊢
  clear hpx
  have c0 : w.cell? ⟨r, 0, none⟩ = some (.string dn) := blk_cell HR.out 0
  go_enter Tryd.func140, Tryd.ntmps140
  go_wp2_with (first
    | (go_at_call 87
       first
       | (with_reducible refine (encode_at 64 32 6 _ w).mono ?_
          rintro e W1 ⟨qp, rfl, hA, hB⟩
          have c1 : W1.cell? ⟨r, 0, none⟩ = some (.string dn) := blk_cell (blk_below HR.out hB) 0
          have HA1 := Lib.hid hA
          have HB1 := Lib.hid hB
          clear hA hB)
       | (with_reducible refine (encode_at 0 32 16 _ W3).mono ?_
          rintro e W4 ⟨qs, rfl, hA, hB⟩
          rw [← HB0.out] at hA
          have HL4 := Lib.hid HA3.out.bel.size
          have HA4 := Lib.hid (HA3.out.on hB)
          have HZ4 := Lib.hid HB3.out.size
          have HB4 := Lib.hid (HB3.out.trans (hB.mono HB3.out.size))
          have HS4 := Lib.hid hA
          have c4 : W4.cell? ⟨r, 1, none⟩ = some (.slice A l.length c) := blk_cell (blk_below HR.out HB4.out) 1
          clear hA hB))
    | (go_at_call 62
       with_reducible refine (string_at 0 0 4 dn _ W1 HN.out).mono ?_
       rintro e W2 ⟨qt, rfl, hA, hB⟩
       have HL2 := Lib.hid HA1.out.bel.size
       have HA2 := Lib.hid (HA1.out.on hB)
       have HB2 := Lib.hid (HB1.out.trans (hB.mono HB1.out.size))
       have HC2 := Lib.hid hA
       clear hA hB)
    | (go_at_call 93
       with_reducible refine (app_at HA2.out HC2.out HL2.out HT1.out HT2.out (by decide) (by decide)).mono ?_
       rintro e W3 ⟨⟨u3, rfl⟩, hA, hB⟩
       have HA3 := Lib.hid hA
       have HB3 := Lib.hid (HB2.out.trans hB)
       clear hA hB))
  go_loopw [23] (fun i wr => ∃ k : Nat, i = .int .i64 k ∧ k ≤ l.length ∧ Hid (∃ V, At V wr W3.heap.size qs (foldK b0 fCh (l.take k))) ∧ Hid (Below W3.heap.size W4 wr)) (fun i _ => l.length - (intOf i).toNat)
  case atStart => exact ⟨0, rfl, Nat.zero_le _, Lib.hid ⟨_, HS4.out⟩, Lib.hid (Below.refl _ _)⟩
  case round =>
    obtain ⟨k, rfl, hk, HI0, HBr⟩ := hrel
    obtain ⟨V, HI1⟩ := HI0.out
    have HI := Lib.hid HI1
    clear HI0 HI1
    have HBW : Hid (Below w.heap.size w wr) := Lib.hid (HB4.out.trans (HBr.out.mono HZ4.out))
    by_cases hlt : k < l.length
    · obtain ⟨ad, A1, c1, rfl, e0, e1, e2, l1, g1⟩ := at_C HC.out (k : Int) (by omega) (by omega)
      rw [Int.toNat_natCast] at e0 e1 e2
      replace e0 := (HBW.out.cell (World.block_lt_of_cell? w _ e0)).trans e0
      replace e1 := (HBW.out.cell (World.block_lt_of_cell? w _ e1)).trans e1
      replace e2 := (HBW.out.cell (World.block_lt_of_cell? w _ e2)).trans e2
      have HTK := Lib.hid (HTS.out k hk)
      have HTE := Lib.hid (HTV.out k hlt)
      have HST := Lib.hid (foldK_step b0 fCh hlt)
      have HOK := Lib.hid (HL.out _ (List.getElem_mem hlt))
      have hrd : rd_C l (k : Int) = l[k] := by rw [rd_C, Int.toNat_natCast, List.getD_eq_getElem?_getD, List.getElem?_eq_getElem hlt]; rfl
      rw [hrd] at e0 e1 e2 l1 g1
      obtain ⟨s, hs⟩ : ∃ s, s = l[k] := ⟨_, rfl⟩
      rw [← hs] at e0 e1 e2 l1 g1 HTE HST HOK
      have HG1 := Lib.hid (Kd.C_below g1 HBW.out)
      obtain ⟨⟨o0, o4⟩, o1, o2, o3⟩ := HOK.out
      clear hrd hs g1 l1
      skip
      go_wp2_with (first
        | (go_at_call 141
           obtain ⟨W5, hW5⟩ : ∃ W5, W5 = wr.alloc (.cells #[.int .u64 s.1, .string s.2.f0, .slice A1 s.2.f1.length c1] 114) := ⟨_, rfl⟩
           rw [← hW5]
           have hb5 : Below wr.heap.size wr W5 := by rw [hW5]; exact below_alloc (Below.refl _ _) _
           have hx5 : W5.heap[wr.heap.size]? = some (.cells #[.int .u64 s.1, .string s.2.f0, .slice A1 s.2.f1.length c1] 114 (0, 0)) := by rw [hW5]; exact blk_new _ _
           clear hW5
           have hcall := enc_Change s.1 s.2.f0 s.2.f1 A1 c1 wr.heap.size W5 o0 o4 o1 o2 o3 (fun W hb => blk_cell (blk_below hx5 hb) 0) (fun W hb => blk_cell (blk_below hx5 hb) 1) (fun W hb => blk_cell (blk_below hx5 hb) 2) (Kd.C_below HG1.out hb5)
           with_reducible refine hcall.mono ?_
           rintro e W6 ⟨qv, rfl, hA, hB⟩
           have HL6 := Lib.hid (Nat.le_trans HI.out.bel.size hb5.size)
           replace hB := hb5.trans (hB.mono hb5.size)
           have HI6 := Lib.hid (HI.out.on hB)
           have HB6 := Lib.hid (HBr.out.trans (hB.mono HI.out.is_le))
           have HC6 := Lib.hid (show At W6 W6 W5.heap.size qv (fCh s) from hA)
           have HL6 := Lib.hid (Nat.le_trans HI.out.bel.size hb5.size)
           clear hA hB hb5 hx5 hcall)
        | (go_at_call 93
           with_reducible refine (app_at HI6.out HC6.out HL6.out HTK.out HTE.out (by decide) (by decide)).mono ?_
           rintro e W7 ⟨⟨u7, rfl⟩, hA, hB⟩
           have HI7 := Lib.hid hA
           have HB7 := Lib.hid (HB6.out.trans hB)
           clear hA hB))
      exact ⟨⟨k + 1, rfl, hlt, Lib.hid ⟨_, by rw [← HST.out]; exact HI7.out⟩, HB7⟩, by
        show l.length - ((k : Int) + 1).toNat < l.length - ((k : Int)).toNat
        rw [show ((k : Int) + 1).toNat = k + 1 from rfl, Int.toNat_natCast]
        omega⟩
    · obtain rfl : k = l.length := by omega
      have HTK := Lib.hid (HTS.out l.length (Nat.le_refl _))
      have HA8 := Lib.hid (HA4.out.go HBr.out HL4.out)
      rw [List.take_length] at HTK HI
      clear HTS HTV HL
      go_wp2_with (first
        | (go_at_call 93
           first
           | (with_reducible refine (app_at HA8.out HI.out HL4.out HT3.out HTK.out (by decide) (by decide)).mono ?_
              rintro e W9 ⟨⟨u9, rfl⟩, hA, hB⟩
              rw [HPA.out] at hA
              have HA9 := Lib.hid hA
              have HB9 := Lib.hid (HBW.out.trans hB)
              clear hA hB)
           | (with_reducible refine (app_at (HE.out.on HB9.out) HA9.out (Nat.le_refl _) TE.out HT9.out (by omega) (by decide)).mono ?_
              rintro e W10 ⟨⟨u10, rfl⟩, hA, hB⟩
              have HAE := Lib.hid hA
              have HBE := Lib.hid ((HB9.out.mono HE.out.le).trans hB)
              have cE : W10.cell? ⟨r, 2, none⟩ = some (.slice none 0 0) := blk_cell ((HBE.out.block r HRB.out).trans HR.out) 2
              clear hA hB)))
      go_ret
      exact ⟨rfl, HAE.out, HBE.out⟩

end Go.Proofs.YtbmcpjkhnhbjdaaDoor.Ber

namespace Go.Proofs.YtbmcpjkhnhbjdaaDoor.Ber
open Go.RowKit Go.Proofs.YtbmcpjkhnhbjdaaDoorW.PrintWords Go.Proofs.YtbmcpjkhnhbjdaaDoor.PFnEncode Go.Proofs.YtbmcpjkhnhbjdaaDoor.Tree Go.Proofs.YtbmcpjkhnhbjdaaDoor.Buf Go.Proofs.YtbmcpjkhnhbjdaaDoor.Pk Go.Proofs.YtbmcpjkhnhbjdaaDoor.Within Go.Proofs.YtbmcpjkhnhbjdaaDoor.Num
set_option linter.unusedVariables false
set_option linter.unusedSimpArgs false

theorem rd_L4_at {l : List (List Int)} {j : Nat} (h : j < l.length) : rd_L4 l (j : Int) = l[j] := by
  rw [rd_L4, Int.toNat_natCast, List.getD_eq_getElem?_getD, List.getElem?_eq_getElem h]
  rfl
theorem texts_l0 (l : List (List Int)) (hl : l.length < 8796093022208) : ∀ (n j k : Nat), j + n = l.length → n < k → impl_texts.l0 k ((l.take j).map strOfNums) l (l.length : Int) (j : Int) = some (l.map strOfNums) := by
  intro n
  induction n with
  | zero =>
    intro j k hj hk
    obtain ⟨k, rfl⟩ : ∃ m, k = m + 1 := ⟨k - 1, by omega⟩
    rw [impl_texts.l0, if_neg (by omega), List.take_of_length_le (by omega)]
  | succ n ih =>
    intro j k hj hk
    obtain ⟨k, rfl⟩ : ∃ m, k = m + 1 := ⟨k - 1, by omega⟩
    have e : wrap64 ((j : Int) + 1) = ((j + 1 : Nat) : Int) := by unfold wrap64; omega
    rw [impl_texts.l0, if_pos (by omega), if_pos (by omega), if_pos (by omega), if_pos (by rw [List.length_map, List.length_take]; omega), e, rd_L4_at (show j < l.length by omega)]
    have := ih (j + 1) k (by omega) (by omega)
    rw [List.take_succ_eq_append_getElem (show j < l.length by omega), List.map_append] at this
    exact this
theorem texts_f (l : List (List Int)) (hl : l.length < 8796093022208) : impl_texts.f (l.length + 1) l = some (l.map strOfNums) := texts_l0 l hl l.length 0 _ (by omega) (by omega)

theorem attribute_l0 (nm : ByteArray) (l : List (List Int)) (hl : l.length < 8796093022208) : ∀ (n j k : Nat), j + n = l.length → n < k → laws_attribute.l0 k l (l.length : Int) (j : Int) nm ((l.take j).map strOfNums) = some (nm, l.map strOfNums) := by
  intro n
  induction n with
  | zero =>
    intro j k hj hk
    obtain ⟨k, rfl⟩ : ∃ m, k = m + 1 := ⟨k - 1, by omega⟩
    rw [laws_attribute.l0, if_neg (by omega), List.take_of_length_le (by omega)]
  | succ n ih =>
    intro j k hj hk
    obtain ⟨k, rfl⟩ : ∃ m, k = m + 1 := ⟨k - 1, by omega⟩
    have e : wrap64 ((j : Int) + 1) = ((j + 1 : Nat) : Int) := by unfold wrap64; omega
    rw [laws_attribute.l0, if_pos (by omega), if_pos (by omega), if_pos (by omega), if_pos (by rw [List.length_map, List.length_take]; omega), e, rd_L4_at (show j < l.length by omega)]
    have := ih (j + 1) k (by omega) (by omega)
    rw [List.take_succ_eq_append_getElem (show j < l.length by omega), List.map_append] at this
    exact this
theorem attribute_f (nm : ByteArray) (l : List (List Int)) (hl : l.length < 8796093022208) : laws_attribute.f (l.length + 1) nm l = some (nm, l.map strOfNums) := attribute_l0 nm l hl l.length 0 _ (by omega) (by omega)
theorem attribute_k (nm : ByteArray) (l : List (List Int)) (hl : l.length < 8796093022208) {k : Nat} (hk : l.length < k) : laws_attribute.f k nm l = some (nm, l.map strOfNums) := attribute_l0 nm l hl l.length 0 _ (by omega) hk

/-- the attribute as the package's and the reference's -/
def attrOf (a : S49) : S58 := ⟨a.f0, a.f1.map strOfNums⟩
theorem rd_T_at {l : List S49} {j : Nat} (h : j < l.length) : rd_T49 l (j : Int) = l[j] := by
  rw [rd_T49, Int.toNat_natCast, List.getD_eq_getElem?_getD, List.getElem?_eq_getElem h]
  rfl

/-- what 'attributes' answers: all are short, or it is refused -/
theorem attributes_l0 (l : List S49) (hl : l.length < 3518437208883) (hv : ∀ a, a ∈ l → a.f1.length ≤ 2147483647) (K : Nat) (hK : ∀ a, a ∈ l → a.f1.length + 2 < K)
    (hs : ∀ (L : List ByteArray), L.length ≤ 2147483648 → ∃ b, ∀ k, L.length + 1 < k → laws_short.f k L = some b) : ∀ (n j k : Nat), j + n = l.length → n + K < k →
    ∃ r b, laws_attributes.l0 k l ((l.take j).map attrOf) l (l.length : Int) (j : Int) = some (r, b) ∧ (b = true → r = l.map attrOf ∧ l.length ≤ 10 ∧ ∀ a, a ∈ l.drop j → ∀ k, (a.f1.length + 1) + 1 < k → laws_short.f k (a.f0 :: a.f1.map strOfNums) = some true) := by
  intro n
  induction n with
  | zero =>
    intro j k hj hk
    obtain ⟨k, rfl⟩ : ∃ m, k = m + 1 := ⟨k - 1, by omega⟩
    refine ⟨l.map attrOf, decide ((l.length : Int) ≤ 10), ?_, fun hb => ⟨rfl, by have := of_decide_eq_true hb; omega, ?_⟩⟩
    · rw [laws_attributes.l0, if_neg (by omega), List.take_of_length_le (by omega)]
    · intro a ha
      rw [List.drop_eq_nil_of_le (by omega)] at ha
      exact absurd ha (by simp)
  | succ n ih =>
    intro j k hj hk
    obtain ⟨k, rfl⟩ : ∃ m, k = m + 1 := ⟨k - 1, by omega⟩
    have hlt : j < l.length := by omega
    have e : wrap64 ((j : Int) + 1) = ((j + 1 : Nat) : Int) := by unfold wrap64; omega
    have hm : l[j] ∈ l := List.getElem_mem hlt
    have h1 := hv _ hm
    have h2 := hK _ hm
    obtain ⟨b, hb⟩ := hs (l[j].f0 :: l[j].f1.map strOfNums) (by simp; omega)
    have hbk := hb k (by simp; omega)
    have hat := attribute_k l[j].f0 l[j].f1 (by omega) (k := k) (by omega)
    rw [laws_attributes.l0, if_pos (by omega), if_pos (by omega), if_pos (by omega), rd_T_at hlt, hat]
    simp only [Option.bind_some]
    rw [if_pos (by simp; omega)]
    have happ : [l[j].f0] ++ List.map strOfNums l[j].f1 = l[j].f0 :: l[j].f1.map strOfNums := rfl
    rw [happ, hbk]
    simp only [Option.bind_some]
    cases b with
    | false => exact ⟨[], false, by rw [if_neg (by decide)], fun h => absurd h (by decide)⟩
    | true =>
      rw [if_pos rfl, if_pos (by rw [List.length_map, List.length_take]; omega), e]
      obtain ⟨r, b, h3, h4⟩ := ih (j + 1) k (by omega) (by omega)
      rw [List.take_succ_eq_append_getElem hlt, List.map_append] at h3
      refine ⟨r, b, h3, fun hbt => ?_⟩
      obtain ⟨h5, h6, h7⟩ := h4 hbt
      refine ⟨h5, h6, fun a ha => ?_⟩
      rw [List.drop_eq_getElem_cons hlt] at ha
      rcases List.mem_cons.1 ha with rfl | ha
      · intro k' hk'
        exact hb k' (by simpa using hk')
      · exact h7 a ha
end Go.Proofs.YtbmcpjkhnhbjdaaDoor.Ber

namespace Go.Proofs.YtbmcpjkhnhbjdaaDoor.Ber
open Go.RowKit Go.Proofs.YtbmcpjkhnhbjdaaDoorW.PrintWords Go.Proofs.YtbmcpjkhnhbjdaaDoor.PFnEncode Go.Proofs.YtbmcpjkhnhbjdaaDoor.Tree Go.Proofs.YtbmcpjkhnhbjdaaDoor.Buf Go.Proofs.YtbmcpjkhnhbjdaaDoor.Pk Go.Proofs.YtbmcpjkhnhbjdaaDoor.Within Go.Proofs.YtbmcpjkhnhbjdaaDoor.Num
set_option linter.unusedVariables false
set_option linter.unusedSimpArgs false

theorem fits12_l0 (l : List (List Int)) (hl : l.length ≤ 2147483647) : ∀ (n j : Nat), j + n = l.length → ∃ b, laws_zzFits12.l0 (n + 1) l (l.length : Int) (j : Int) = some b := by
  intro n
  induction n with
  | zero =>
    intro j hj
    exact ⟨true, by rw [laws_zzFits12.l0, if_neg (by omega)]⟩
  | succ n ih =>
    intro j hj
    have e : wrap64 ((j : Int) + 1) = ((j + 1 : Nat) : Int) := by unfold wrap64; omega
    rw [laws_zzFits12.l0, if_pos (by omega), if_pos (by omega), if_pos (by omega), e]
    split
    · exact ⟨_, rfl⟩
    · exact ih (j + 1) (by omega)
theorem fits12_ends (l : List (List Int)) : ∃ k b, laws_zzFits12.f k l = some b ∧ (b = true → l.length ≤ 2147483647) := by
  by_cases h : (l.length : Int) > 2147483647
  · exact ⟨0, false, by rw [laws_zzFits12.f, if_pos h], fun h => absurd h (by decide)⟩
  · obtain ⟨b, hb⟩ := fits12_l0 l (by omega) l.length 0 (by omega)
    exact ⟨_, b, by rw [laws_zzFits12.f, if_neg h]; exact hb, fun _ => by omega⟩
theorem fits11_ends (nm : ByteArray) (l : List (List Int)) : ∃ k b, laws_zzFits11.f k nm l = some b ∧ (b = true → nm.size ≤ 2147483647 ∧ l.length ≤ 2147483647) := by
  by_cases h : (nm.size : Int) > 2147483647
  · exact ⟨0, false, by rw [laws_zzFits11.f, if_pos h], fun h => absurd h (by decide)⟩
  · obtain ⟨k, b, hb, hi⟩ := fits12_ends l
    refine ⟨k, b, ?_, fun hbt => ⟨by omega, hi hbt⟩⟩
    rw [laws_zzFits11.f, if_neg h, hb]
    cases b <;> rfl

/-- an attribute of sizes that are spoken of -/
def fitA (a : S49) : Prop := a.f0.size ≤ 2147483647 ∧ a.f1.length ≤ 2147483647
theorem short_ends (L : List ByteArray) (hL : L.length < 4611686018427387904) {k : Nat} (hk : L.length < k) : laws_short.f k L = some (shortT L) := by
  have h := short_l0 L L [] (by simpa using hL)
  have h' : laws_short.f (L.length + 1) L = some (shortT L) := by
    unfold laws_short.f shortT
    simpa using h
  exact at_rounds (laws_short.mono _) (by omega) h'

/-- what a short attribute is -/
def shortA (a : S49) : Prop := a.f0.size ≤ 200 ∧ a.f1.length ≤ 19 ∧ ∀ s, s ∈ a.f1 → s.length ≤ 200
theorem strOf_size (l : List Int) : (strOfNums l).size = l.length := by
  simp [strOfNums, ByteArray.size]
theorem shortA_of (a : S49) (h : shortT (a.f0 :: a.f1.map strOfNums) = true) : shortA a := by
  simp only [shortT, List.all_cons, List.all_map, Bool.and_eq_true, decide_eq_true_eq, List.length_cons, List.length_map, List.all_eq_true, Function.comp_apply] at h
  refine ⟨h.1.1, by omega, fun s hs => ?_⟩
  have := h.1.2 s hs
  rwa [strOf_size] at this
theorem attributes_ends (l : List S49) (hl : l.length ≤ 2147483647) (hv : ∀ a, a ∈ l → fitA a) : ∃ k r b, laws_attributes.f k l = some (r, b) ∧ (b = true → r = l.map attrOf ∧ l.length ≤ 10 ∧ ∀ a, a ∈ l → shortA a) := by
  obtain ⟨K, hK⟩ : ∃ K, ∀ a, a ∈ l → a.f1.length + 2 < K := ⟨2147483650, fun a ha => by have := (hv a ha).2; omega⟩
  obtain ⟨r, b, h1, h2⟩ := attributes_l0 l (by omega) (fun a ha => (hv a ha).2) K hK (fun L hL => ⟨shortT L, fun k hk => short_ends L (by omega) (by omega)⟩) l.length 0 (l.length + K + 1) (by omega) (by omega)
  refine ⟨_, r, b, h1, fun hb => ?_⟩
  obtain ⟨h3, h4, h5⟩ := h2 hb
  refine ⟨h3, h4, fun a ha => shortA_of a ?_⟩
  have h6 := h5 a (by simpa using ha) (a.f1.length + 3) (by omega)
  rw [short_ends _ (by simp; have := (hv a ha).2; omega) (by simp)] at h6
  exact Option.some.inj h6

/-- the trees' sizes -/
theorem okA_of {a : S49} (h : shortA a) : okA (attrOf a) := by
  refine ⟨Nat.le_trans h.1 (by decide), fun s hs => ?_, by simp [attrOf]; have := h.2.1; omega⟩
  obtain ⟨x, hx, rfl⟩ := List.mem_map.1 hs
  rw [strOf_size]
  exact Nat.le_trans (h.2.2 x hx) (by decide)
end Go.Proofs.YtbmcpjkhnhbjdaaDoor.Ber

namespace Go.Proofs.YtbmcpjkhnhbjdaaDoor.Ber
open Go.RowKit Go.Proofs.YtbmcpjkhnhbjdaaDoorW.PrintWords Go.Proofs.YtbmcpjkhnhbjdaaDoor.PFnEncode Go.Proofs.YtbmcpjkhnhbjdaaDoor.Buf Go.Proofs.YtbmcpjkhnhbjdaaDoor.Pk Go.Proofs.YtbmcpjkhnhbjdaaDoor.Within Go.Proofs.YtbmcpjkhnhbjdaaDoor.Num
set_option linter.unusedVariables false
set_option linter.unusedSimpArgs false

/-- a packet in block g, its kids so far a row of the call's own (blocks behind g) -/
structure Acc (g : Nat) (W : World) (a0 a1 : Int) (a2 : Bool) (v : Value) (l : List S33) : Prop where
  hg : W.heap[g]? = some (.cells #[.int .i64 a0, .int .i64 a1, .bool a2, .slice none 0 0, v] 33 (0, 0))
  row : Kd.N k33 33 W (g + 1) (fun k => g < k) v l
section
variable {g : Nat} {W W' w1 : World} {a0 a1 : Int} {a2 : Bool} {v v1 : Value} {l : List S33}
theorem Acc.below (h : Acc g W a0 a1 a2 v l) (hb : Below W.heap.size W W') : Acc g W' a0 a1 a2 v l := ⟨blk_below h.hg hb, Kd.N_below h.row hb⟩
theorem Acc.ne (h : Acc g W a0 a1 a2 v l) : some g ≠ v.ownBlock := Kd.N_away h.row (fun k hk => Nat.ne_of_gt hk)
theorem Acc.lt (h : Acc g W a0 a1 a2 v l) : g < W.heap.size := blk_lt h.hg
theorem Acc.fresh (h : Acc g W a0 a1 a2 v l) : ∀ k, W.heap.size ≤ k → g < k := fun k hk => Nat.lt_of_lt_of_le h.lt hk
/-- an empty one -/
theorem acc_new (hg : W.heap[g]? = some (.cells #[.int .i64 a0, .int .i64 a1, .bool a2, .slice none 0 0, .slice none 0 0] 33 (0, 0))) : Acc g W a0 a1 a2 (.slice none 0 0) [] := ⟨hg, Kd.N_nil _ _ _ _ _⟩
/-- one more, behind an append and its store -/
theorem Acc.app (h : Acc g W a0 a1 a2 v l) {x : S33} (hR : Kd.N k33 33 w1 (g + 1) (fun k => g < k) v1 (l ++ [x])) (hg : W.grownBy w1 v.ownBlock) : Acc g (w1.setCell ⟨g, 4, none⟩ v1) a0 a1 a2 v1 (l ++ [x]) :=
  ⟨blk_set (blk_grown h.hg hg h.ne) 4 v1, Kd.N_far hR (p := ⟨g, 4, none⟩) (fun k hk => Nat.ne_of_gt hk) v1⟩
/-- the new kid: made behind the row's blocks -/
theorem Acc.kid {b : Nat} {x : S33} {A3 : Option Addr} {c3 : Nat} {A4 : Option Addr} {c4 : Nat} (hx : Lies b W' x A3 c3 A4 c4) (h : Acc g W a0 a1 a2 v l) (hb : W.heap.size ≤ b) : Kd.FK k33 W' (fun k => g < k ∧ some k ≠ v.ownBlock) x (cellsP x A3 c3 A4 c4) :=
  Kd.FK_mono hx.fk (fun k hk => ⟨Nat.lt_of_lt_of_le h.lt (Nat.le_trans hb hk), fun e => by have := Kd.N_lt h.row k e.symm; omega⟩)
/-- the packet as it is read -/
theorem Acc.lies (h : Acc g W a0 a1 a2 v l) : ∃ A c, v = .slice A l.length c ∧ Lies (g + 1) W ⟨a0, a1, a2, [], l⟩ none 0 A c := by
  obtain ⟨A, c, rfl, hc, _⟩ := Kd.N_reads h.row
  exact ⟨A, c, rfl, Nat.le_refl _, Kd.F_nil _ _ _, hc, Kd.F_mono (Kd.N_F h.row) (fun k hk => hk)⟩
end

set_option maxHeartbeats 1600000 in
set_option maxRecDepth 100000 in
theorem group_ex (A : Option Addr) (n c : Nat) (w : World) :
    Calls Tryd.prog 86 #[.slice A n c] w fun e w' => e = .returned (.agg #[.int .i64 0, .int .i64 17, .bool true, .slice none 0 0, .slice A n c]) ∧ Below w.heap.size w w' := by
  have h5 := blk_new w (.cells #[.int .i64 0, .int .i64 17, .bool true, .slice none 0 0, .slice A n c] 33)
  go_enter Tryd.func86, Tryd.ntmps86
  go_wp2
  try simp only [Exit.inBlock, Exit.then]
  exact bodyPost_ret (results_c rfl _ _ _ _ _ _ _ rfl h5 Tryd.underlying33 rfl size33) rfl ⟨rfl, below_alloc (Below.refl _ _) _⟩

/-- an enumerated number -/
def tC (n : Int) : S33 := ⟨0, 10, false, whole n, []⟩
theorem code_nw (n : Int) (h : -9223372036854775808 ≤ n ∧ n ≤ 9223372036854775807) (w : World) : Calls Tryd.prog 59 #[.int .i64 n] w (Nw w.heap.size w (tC n)) := by
  have hn : spec_Code.f 8 n = some (0, 10, false, whole n, []) := by
    unfold spec_Code.f
    rw [whole_spec n h]
    rfl
  refine (spec_Code.calls 8 n _ _ _ _ _ w hn).mono ?_
  rintro e w' ⟨v3, v4, rfl, h3, h4, hb⟩
  exact nw_of (tC n) h3 (Kd.R_V (base' := 0) (Kd.R_bound h4)) hb (fun _ _ h => h) (fun _ h => h.2.1)
end Go.Proofs.YtbmcpjkhnhbjdaaDoor.Ber

namespace Go.Proofs.YtbmcpjkhnhbjdaaDoor.Ber
open Go.RowKit Go.Proofs.YtbmcpjkhnhbjdaaDoorW.PrintWords Go.Proofs.YtbmcpjkhnhbjdaaDoor.PFnEncode Go.Proofs.YtbmcpjkhnhbjdaaDoor.Buf Go.Proofs.YtbmcpjkhnhbjdaaDoor.Pk Go.Proofs.YtbmcpjkhnhbjdaaDoor.Within Go.Proofs.YtbmcpjkhnhbjdaaDoor.Num
set_option linter.unusedVariables false
set_option linter.unusedSimpArgs false

/-- an attribute's packet -/
def tSet (l : List ByteArray) : S33 := ⟨0, 17, true, [], l.map tO⟩
def tAttr (x : S58) : S33 := tL [tO x.f0, tSet x.f1]

set_option maxHeartbeats 3200000 in
set_option maxRecDepth 100000 in
theorem listed_nw (x : S58) (A : Option Addr) (c : Nat) (w : World) (hC : Kd.string.C w A x.f1.length x.f1) (hnm : x.f0.size ≤ 1000000) (hl : ∀ s, s ∈ x.f1 → s.size ≤ 1000000) (hn : x.f1.length ≤ 1000) :
    Calls Tryd.prog 60 #[.agg #[.string x.f0, .slice A x.f1.length c]] w (Nw w.heap.size w (tAttr x)) := by
  obtain ⟨nm, l⟩ := x
  simp only at hC hnm hl hn ⊢
  have HC := Lib.hid hC
  have HO1 : Hid (∀ W, Calls Tryd.prog 47 #[.string nm] W (Nw W.heap.size W (tO nm))) := Lib.hid (fun W => octets_nw nm W (by omega))
  have HO2 : Hid (∀ s, s ∈ l → ∀ W, Calls Tryd.prog 47 #[.string s] W (Nw W.heap.size W (tO s))) := Lib.hid (fun s hs W => octets_nw s W (by have := hl s hs; omega))
  have HLI : Hid (∀ (A : Option Addr) (cc : Nat) (W : World), Kd.F k33 W (fun k => w.heap.size + 2 ≤ k) A [tO nm, tSet l].length [tO nm, tSet l] → 2 ≤ cc → w.heap.size + 2 ≤ W.heap.size → Calls Tryd.prog 48 #[.slice A 2 cc] W (Nw (w.heap.size + 2) W (tAttr ⟨nm, l⟩))) :=
    Lib.hid (fun A cc W h1 h2 h3 => list_nw [tO nm, tSet l] A cc W h1 h2 h3)
  obtain ⟨x1, hx1⟩ : ∃ x, x = tO nm := ⟨_, rfl⟩
  obtain ⟨x2, hx2⟩ : ∃ x, x = tSet l := ⟨_, rfl⟩
  obtain ⟨y, hy⟩ : ∃ y, y = tAttr ⟨nm, l⟩ := ⟨_, rfl⟩
  rw [← hx1] at HO1 HLI
  rw [← hx2] at HLI
  rw [← hy] at HLI ⊢
  have HX2 := Lib.hid hx2
  obtain ⟨W0, hW0⟩ : ∃ W0, W0 = (w.alloc (.cells #[.string nm, .slice A l.length c] 58)).alloc (.cells #[.int .i64 0, .int .i64 0, .bool false, .slice none 0 0, .slice none 0 0] 33) := ⟨_, rfl⟩
  have hb0 : Below w.heap.size w W0 := by rw [hW0]; exact below_alloc (below_alloc (Below.refl _ _) _) _
  have hs0 : W0.heap.size = w.heap.size + 2 := by rw [hW0]; simp
  have hx0 : W0.heap[w.heap.size]? = some (.cells #[.string nm, .slice A l.length c] 58 (0, 0)) := by rw [hW0]; exact blk_alloc (blk_new _ _) _
  have hz0 : W0.heap[w.heap.size + 1]? = some (.cells #[.int .i64 0, .int .i64 0, .bool false, .slice none 0 0, .slice none 0 0] 33 (0, 0)) := by
    have := blk_new (w.alloc (.cells #[.string nm, .slice A l.length c] 58)) (.cells #[.int .i64 0, .int .i64 0, .bool false, .slice none 0 0, .slice none 0 0] 33)
    have e : (w.alloc (.cells #[.string nm, .slice A l.length c] 58)).heap.size = w.heap.size + 1 := by simp
    rw [e, ← hW0] at this
    exact this
  have HB0 := Lib.hid hb0
  have HS0 := Lib.hid hs0
  have HA0 := Lib.hid hx0
  have HZ0 := Lib.hid hz0
  have HW0 := Lib.hid hW0
  clear hx1 hx2 hy hC hnm hl hb0 hs0 hx0 hz0 hW0
  go_enter Tryd.func60, Tryd.ntmps60
  go_upto_region 2 with (first
    | (go_at_call 86
       rw [← HW0.out]
       with_reducible refine (group_ex none 0 0 W0).mono ?_
       rintro e W1 ⟨rfl, hB1⟩
       have HA1 := Lib.hid (blk_below HA0.out hB1)
       have HZ1 := Lib.hid (blk_below HZ0.out hB1)
       have HB1 := Lib.hid hB1
       clear hB1))
  obtain ⟨W2, hW2⟩ : ∃ W2, W2 = W1.alloc (.cells #[.int .i64 0, .int .i64 17, .bool true, .slice none 0 0, .slice none 0 0] 33) := ⟨_, rfl⟩
  rw [← hW2]
  have hb2 : Below W1.heap.size W1 W2 := by rw [hW2]; exact below_alloc (Below.refl _ _) _
  have HI2 : Hid (Acc W1.heap.size W2 0 17 true (.slice none 0 0) []) := Lib.hid (acc_new (by rw [hW2]; exact blk_new _ _))
  have HA2 := Lib.hid (blk_below HA1.out hb2)
  have HZ2 := Lib.hid (blk_below HZ1.out hb2)
  have HG : Hid (w.heap.size + 2 ≤ W1.heap.size) := Lib.hid (by have := HB1.out.size; have := HS0.out; omega)
  have HB2 : Hid (Below w.heap.size w W2) := Lib.hid ((HB0.out.trans (HB1.out.mono HB0.out.size)).trans (hb2.mono (by have := HG.out; omega)))
  have k1 : W2.cell? ⟨w.heap.size, 1, none⟩ = some (.slice A l.length c) := blk_cell HA2.out 1
  clear hW2 hb2
  obtain ⟨g, hg⟩ : ∃ g, g = W1.heap.size := ⟨_, rfl⟩
  rw [← hg] at HI2 HG ⊢
  clear hg
  go_wp2
  clear k1
  go_loopw [10] (fun i wr => ∃ k : Nat, i = .int .i64 k ∧ k ≤ l.length ∧ Hid (∃ v, Acc g wr 0 17 true v ((l.take k).map tO)) ∧ Hid (Below g W2 wr)) (fun i _ => l.length - (intOf i).toNat)
  case atStart => exact ⟨0, rfl, Nat.zero_le _, Lib.hid ⟨_, HI2.out⟩, Lib.hid (Below.refl _ _)⟩
  case round =>
    obtain ⟨k, rfl, hk, HI3, HBr⟩ := hrel
    obtain ⟨v, HI4⟩ := HI3.out
    have HI := Lib.hid HI4
    clear HI3 HI4
    have HBW : Hid (Below w.heap.size w wr) := Lib.hid (HB2.out.trans (HBr.out.mono (by have := HG.out; omega)))
    by_cases hlt : k < l.length
    · obtain ⟨ad, rfl, hcell⟩ := str_at HC.out hlt
      replace hcell := (HBW.out.cell (World.block_lt_of_cell? w _ hcell)).trans hcell
      have HST : Hid ((l.take k).map tO ++ [tO l[k]] = (l.take (k + 1)).map tO) := Lib.hid (by rw [List.take_succ_eq_append_getElem hlt, List.map_append]; rfl)
      have HLE : Hid ((((l.take k).map tO).length + 1) * 72 ≤ 140737488355328) := Lib.hid (by rw [List.length_map, List.length_take]; omega)
      have HOS := Lib.hid (HO2.out l[k] (List.getElem_mem hlt))
      obtain ⟨s, hs⟩ : ∃ s, s = l[k] := ⟨_, rfl⟩
      obtain ⟨acc, hacc⟩ : ∃ acc, acc = (l.take k).map tO := ⟨_, rfl⟩
      rw [← hs] at hcell HST HOS
      obtain ⟨p, hp⟩ : ∃ p, p = tO s := ⟨_, rfl⟩
      rw [← hp] at HOS HST
      rw [← hacc] at HST HLE HI
      clear hs hacc hp
      go_wp2_with fail
      have s4 : wr.cell? ⟨g, 4, none⟩ = some v := blk_cell HI.out.hg 4
      have hd : Below wr.heap.size wr wr.drew := (Below.refl _ _).drew
      have HI5 := Lib.hid (HI.out.below hd)
      have HB5 : Hid (Below g W2 wr.drew) := Lib.hid (HBr.out.trans (hd.mono (Nat.le_of_lt HI.out.lt)))
      clear hcell hd
      go_region_law (first
        | ((refine Kd.N_append_step k33 (w0 := W6) (W := W6) (g + 1) (by rfl) (.tmp 15) (.tmp 18) 31 33 (.agg #[.int .i64 0, .int .i64 0, .bool false, .slice none 0 0, .slice none 0 0]) 72 (by rfl) Tryd.underlying31 info_sp rfl (show 0 < 5 by decide) (by decide) v acc p _ (fun k => g < k) _ (by rfl) (by rfl) HK6.out (fun _ h => h) HI6.out.fresh HI6.out.row (Below.refl _ _) HI6.out.lt HLE.out ?_
            intro v1 w1 hR hb hg hat
            have x0 : w1.cell? ⟨g, 4, none⟩ = some v := blk_cell (blk_grown HI6.out.hg hg HI6.out.ne) 4
            have xf : w1.frozen? ⟨g, 4, none⟩ = false := blk_frozen (blk_grown HI6.out.hg hg HI6.out.ne) 4
            obtain ⟨Aq, cq, hvq⟩ := Kd.N_slice hR
            have h8 := HI6.out.app hR hg
            have hb8 := HB6.out.trans ((hb.mono (Nat.le_succ g)).setCell (p := ⟨g, 4, none⟩) (Nat.le_refl _) v1)
            obtain ⟨n, hn⟩ : ∃ n, n = (acc ++ [p]).length := ⟨_, rfl⟩
            rw [← hn] at hvq
            subst hvq
            have HI8 := Lib.hid h8
            have HB8 := Lib.hid hb8
            clear hR hb hg hat hn h8 hb8))
        | (go_wp2_with (first
            | (go_at_call 47
               with_reducible refine (HOS.out _).mono ?_
               rintro e W6 h6
               obtain ⟨F3, f3, F4, f4, rfl, hl6, hB6⟩ := h6.open
               have t4 : W6.cell? ⟨g, 4, none⟩ = some v := blk_cell (blk_below HI5.out.hg hB6) 4
               have u4 : ∀ o, (W6.alloc o).cell? ⟨g, 4, none⟩ = some v := fun o => blk_cell (blk_alloc (blk_below HI5.out.hg hB6) o) 4
               have HK6 := Lib.hid (Acc.kid hl6 HI5.out (Nat.le_refl _))
               have HI6 := Lib.hid (HI5.out.below hB6)
               have HB6 := Lib.hid (HB5.out.trans (hB6.mono (Nat.le_of_lt HI5.out.lt)))
               clear h6 hl6 hB6))))
      all_goals (
        go_wp2
        go_roundw
        case rel =>
          first
          | exact ⟨k + 1, by first | rfl | go_num, hlt, Lib.hid ⟨_, by rw [← HST.out]; exact HI8.out⟩, HB8⟩
          | (refine ⟨_, _, _, _, _, _, _, _, _, _, _, _, _, ?_, rfl⟩
             exact ⟨k + 1, by first | rfl | go_num, hlt, Lib.hid ⟨_, by rw [← HST.out]; exact HI8.out⟩, HB8⟩)
        case measure => simp [intOf]; omega)
    · obtain rfl : k = l.length := by omega
      rw [List.take_length] at HI
      obtain ⟨m, hm⟩ : ∃ m, m = l.map tO := ⟨_, rfl⟩
      have hx2 : x2 = ⟨0, 17, true, [], m⟩ := by rw [HX2.out, tSet, hm]
      rw [← hm] at HI
      clear hm
      subst hx2
      obtain ⟨Az, cz, hv, hlz⟩ := HI.out.lies
      subst hv
      go_wp2_with fail
      have hd : Below wr.heap.size wr wr.drew := (Below.refl _ _).drew
      have HI5 := Lib.hid (HI.out.below hd)
      have HLZ := Lib.hid (hlz.below hd)
      have HB5 : Hid (Below w.heap.size w wr.drew) := Lib.hid (HBW.out.trans (hd.mono HBW.out.size))
      have HA5 : Hid (wr.drew.heap[w.heap.size]? = some (.cells #[.string nm, .slice A l.length c] 58 (0, 0))) := Lib.hid (blk_below ((HBr.out.block w.heap.size (by have := HG.out; omega)).trans HA2.out) hd)
      have HZ5 : Hid (wr.drew.heap[w.heap.size + 1]? = some (.cells #[.int .i64 0, .int .i64 0, .bool false, .slice none 0 0, .slice none 0 0] 33 (0, 0))) := Lib.hid (blk_below ((HBr.out.block (w.heap.size + 1) (by have := HG.out; omega)).trans HZ2.out) hd)
      have b0 : wr.drew.cell? ⟨w.heap.size, 0, none⟩ = some (.string nm) := blk_cell HA5.out 0
      have s0 : wr.drew.cell? ⟨g, 0, none⟩ = some (.int .i64 0) := blk_cell HI5.out.hg 0
      have s1 : wr.drew.cell? ⟨g, 1, none⟩ = some (.int .i64 17) := blk_cell HI5.out.hg 1
      have s2 : wr.drew.cell? ⟨g, 2, none⟩ = some (.bool true) := blk_cell HI5.out.hg 2
      have s3 : wr.drew.cell? ⟨g, 3, none⟩ = some (.slice none 0 0) := blk_cell HI5.out.hg 3
      have s4 : wr.drew.cell? ⟨g, 4, none⟩ = some (.slice Az m.length cz) := blk_cell HI5.out.hg 4
      clear hlz hd
      go_region_with (first
        | (go_at_call 47
           with_reducible refine (HO1.out _).mono ?_
           rintro e W6 h6
           obtain ⟨F3, f3, F4, f4, rfl, hl6, hB6⟩ := h6.open
           have u0 : W6.cell? ⟨g, 0, none⟩ = some (.int .i64 0) := blk_cell (blk_below HI5.out.hg hB6) 0
           have u1 : W6.cell? ⟨g, 1, none⟩ = some (.int .i64 17) := blk_cell (blk_below HI5.out.hg hB6) 1
           have u2 : W6.cell? ⟨g, 2, none⟩ = some (.bool true) := blk_cell (blk_below HI5.out.hg hB6) 2
           have u3 : W6.cell? ⟨g, 3, none⟩ = some (.slice none 0 0) := blk_cell (blk_below HI5.out.hg hB6) 3
           have u4 : W6.cell? ⟨g, 4, none⟩ = some (.slice Az m.length cz) := blk_cell (blk_below HI5.out.hg hB6) 4
           have HL6 := Lib.hid (hl6.low (b' := w.heap.size + 2) (by have h1 := HI.out.lt; have h2 := HG.out; show w.heap.size + 2 ≤ wr.drew.heap.size; show w.heap.size + 2 ≤ wr.heap.size; omega))
           have HL26 := Lib.hid ((HLZ.out.low (b' := w.heap.size + 2) (by have h2 := HG.out; omega)).below hB6)
           have HZ6 := Lib.hid (blk_below HZ5.out hB6)
           have HB6 := Lib.hid (HB5.out.trans (hB6.mono HB5.out.size))
           clear h6 hl6 hB6)
        | (go_at_call 48
           obtain ⟨V, hV⟩ : ∃ V, V = W6.alloc (.cells #[.int .i64 x1.f0, .int .i64 x1.f1, .bool x1.f2, .slice F3 x1.f3.length f3, .slice F4 x1.f4.length f4, .int .i64 0, .int .i64 17, .bool true, .slice none 0 0, .slice Az m.length cz] 33) := ⟨_, rfl⟩
           rw [← hV]
           have hbV : Below W6.heap.size W6 V := by rw [hV]; exact below_alloc (Below.refl _ _) _
           have hXV : V.heap[W6.heap.size]? = some (.cells #[.int .i64 x1.f0, .int .i64 x1.f1, .bool x1.f2, .slice F3 x1.f3.length f3, .slice F4 x1.f4.length f4, .int .i64 0, .int .i64 17, .bool true, .slice none 0 0, .slice Az m.length cz] 33 (0, 0)) := by rw [hV]; exact blk_new _ _
           have hsz : w.heap.size + 2 ≤ W6.heap.size := by have h1 := blk_lt HZ6.out; have h2 := HL6.out; have h3 := HB6.out.size; have h4 := HI5.out.lt; have h5 := HG.out; omega
           have hF : Kd.F k33 V (fun k => w.heap.size + 2 ≤ k) (some ⟨W6.heap.size, 0, none⟩) [x1, ⟨0, 17, true, [], m⟩].length [x1, ⟨0, 17, true, [], m⟩] := F2 (x := x1) (y := ⟨0, 17, true, [], m⟩) hXV hsz (HL6.out.below hbV) (HL26.out.below hbV)
           with_reducible refine (HLI.out (some ⟨W6.heap.size, 0, none⟩) 2 V hF (Nat.le_refl _) (Nat.le_trans hsz hbV.size)).mono ?_
           rintro e W7 h7
           obtain ⟨Y3, y3, Y4, y4, rfl, hl7, hB7⟩ := h7.open
           have hb67 := hbV.trans (hB7.mono hbV.size)
           have HL7 := Lib.hid hl7
           have HZ7 := Lib.hid (blk_below HZ6.out hb67)
           have HB7 := Lib.hid (HB6.out.trans (hb67.mono HB6.out.size))
           have k0 : W7.cell? ⟨w.heap.size + 1, 0, none⟩ = some (.int .i64 0) := blk_cell HZ7.out 0
           have k1 : W7.cell? ⟨w.heap.size + 1, 1, none⟩ = some (.int .i64 0) := blk_cell HZ7.out 1
           have k2 : W7.cell? ⟨w.heap.size + 1, 2, none⟩ = some (.bool false) := blk_cell HZ7.out 2
           have k3 : W7.cell? ⟨w.heap.size + 1, 3, none⟩ = some (.slice none 0 0) := blk_cell HZ7.out 3
           have k4 : W7.cell? ⟨w.heap.size + 1, 4, none⟩ = some (.slice none 0 0) := blk_cell HZ7.out 4
           have kf0 := blk_frozen HZ7.out 0
           have kf1 := blk_frozen HZ7.out 1
           have kf2 := blk_frozen HZ7.out 2
           have kf3 := blk_frozen HZ7.out 3
           have kf4 := blk_frozen HZ7.out 4
           clear hV hbV hXV hsz hF h7 hl7 hB7 hb67))
      all_goals (
        go_wp2
        obtain ⟨h5, hend⟩ := nw_end (b := w.heap.size) (B := w.heap.size + 2) (n := w.heap.size + 1) (x := y) HB7.out (Nat.le_succ _) (fun k hk => by omega) (by omega) HZ7.out HL7.out.1 HL7.out.2.1 HL7.out.2.2.1 HL7.out.2.2.2 rfl
        try simp only [Exit.inBlock, Exit.then]
        exact bodyPost_ret (results_c rfl _ _ _ _ _ _ _ rfl h5 Tryd.underlying33 rfl size33) rfl hend)
end Go.Proofs.YtbmcpjkhnhbjdaaDoor.Ber

namespace Go.Proofs.YtbmcpjkhnhbjdaaDoor.Ber
open Go.RowKit Go.Proofs.YtbmcpjkhnhbjdaaDoorW.PrintWords Go.Proofs.YtbmcpjkhnhbjdaaDoor.PFnEncode Go.Proofs.YtbmcpjkhnhbjdaaDoor.Tree Go.Proofs.YtbmcpjkhnhbjdaaDoor.Buf Go.Proofs.YtbmcpjkhnhbjdaaDoor.Pk Go.Proofs.YtbmcpjkhnhbjdaaDoor.Within Go.Proofs.YtbmcpjkhnhbjdaaDoor.Num
set_option linter.unusedVariables false
set_option linter.unusedSimpArgs false
theorem dp_os (m : List ByteArray) : tdpL (m.map tO) ≤ 1 := by
  induction m with
  | nil => simp [tdpL]
  | cons s m ih => rw [List.map_cons, tdpL]; simp [tO, tdp, tdpL]; omega
theorem dp_as (l : List S58) : tdpL (l.map tAttr) ≤ 3 := by
  induction l with
  | nil => simp [tdpL]
  | cons a l ih =>
    have := dp_os a.f1
    rw [List.map_cons, tdpL]
    simp only [tAttr, tL, tSet, tO, tdp, tdpL] at this ⊢
    omega
theorem sz_os (m : List ByteArray) : (∀ s, s ∈ m → s.size ≤ 200) → tsizeL (m.map tO) ≤ m.length * 201 := by
  induction m with
  | nil => intro _; simp [tsizeL]
  | cons s m ih =>
    intro h
    have h1 := ih (fun x hx => h x (List.mem_cons_of_mem _ hx))
    have h2 := h s (by simp)
    rw [List.map_cons, tsizeL, List.length_cons]
    simp only [tO, tsize, tsizeL, bytesOf_length]
    omega
/-- a short attribute of the reference's -/
def shortS (a : S58) : Prop := a.f0.size ≤ 200 ∧ a.f1.length ≤ 19 ∧ ∀ s, s ∈ a.f1 → s.size ≤ 200
theorem sz_attr (a : S58) (h : shortS a) : tsize (tAttr a) ≤ 5000 := by
  have h1 := sz_os a.f1 h.2.2
  have h2 := h.2.1
  have h3 := h.1
  simp only [tAttr, tL, tSet, tO, tsize, tsizeL, bytesOf_length, List.length_nil] at h1 ⊢
  omega
theorem sz_as (l : List S58) : (∀ a, a ∈ l → shortS a) → tsizeL (l.map tAttr) ≤ l.length * 5000 := by
  induction l with
  | nil => intro _; simp [tsizeL]
  | cons a l ih =>
    intro h
    have h1 := ih (fun x hx => h x (List.mem_cons_of_mem _ hx))
    have h2 := sz_attr a (h a (by simp))
    rw [List.map_cons, tsizeL, List.length_cons]
    omega
theorem shortS_of {a : S49} (h : shortA a) : shortS (attrOf a) := by
  refine ⟨h.1, by simp [attrOf]; exact h.2.1, fun s hs => ?_⟩
  obtain ⟨x, hx, rfl⟩ := List.mem_map.1 hs
  rw [strOf_size]
  exact h.2.2 x hx
end Go.Proofs.YtbmcpjkhnhbjdaaDoor.Ber
